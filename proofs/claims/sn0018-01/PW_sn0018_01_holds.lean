import PyProof.Rows.All
import Wide.All
import OpenK.AllK
import Wide.FinOn
import Lean
import PySem.Challenge.RW_sn0018_01
set_option Elab.async false
set_option linter.all false
set_option rowWalk.seconds 0
set_option maxRecDepth 100000
set_option maxHeartbeats 8000000
namespace Mine
section
open PySem PySem.W PyProof.Rows
open_top hd for PySem.Challenge.rw_sn0018_01
end
open PySem PySem.W PySem.Calls PyProof.Rows
theorem fill_w (w : World) : (hd.heap_39 w.params, PySem.Challenge.rw_sn0018_01.prog) = (hd.heap_39 w.params, PySem.Challenge.rw_sn0018_01.prog) := by w_top off; k_fill; rfl
local macro_rules | `(tactic| walk_at $s:str) => `(tactic| k_extra $s)
local macro_rules | `(tactic| k_ne) => `(tactic| (refine neN ?_; (try dsimp only); first | walk_at "ne" | omega))
section
open PySem PySem.W PySem.Calls PyProof.Rows
noncomputable abbrev PR : Program := PySem.Challenge.rw_sn0018_01.row.prog
noncomputable abbrev LO : List Str := PySem.W.looseW hd.view_39 [PySem.Str.ofString "ONE_SIXTH", PySem.Str.ofString "TWO_THIRD"]
noncomputable abbrev Led := List (Addr × Obj)
noncomputable abbrev S (x : String) : Str := Str.ofString x
/-- a call of a def that changes nothing that stands: it hands back a value -/
noncomputable abbrev PCv (k : Nat) (w : World) (s00 : Heap) (mg mb : Str → Option Value) (f : Addr) (args : Led) (vs : List Value) (R : Tok → Value) : Prop :=
  ∀ (dp un : Nat) (gd : Option (List Code)) (cn : Str) (cs : Scope) (a : Addr) (ccd : Value) (cl : List (Str × Addr)) (outer : List Env) (A₀ : Around) (base h₀ : Heap) (L : Addr) (m : Str → Option Value) (s : Shared) (Q E : Value → Shared → Prop),
    Below A₀ base outer h₀ → Fr h₀ L s.heap m → (hd.heap_39 w.params).In h₀ → News h₀ L s.heap args → Top hd.view_39 LO (ExcName.means s00) mg mb h₀ → cs.kind = .function → dp + k < recursionLimit → un + 8 * k < cLine →
    (∀ (t : Tok) (h' : Heap) (tk' : Nat), InElt s.heap h' → Q (R t) { s with heap := h', toks := tk' }) →
    wpAny (model PR w) (ktrTop dp un gd cn cs L a ccd cl outer) (call (.ref f) vs) Q E s
/-- the same, handing back a new object -/
noncomputable abbrev PCo (k : Nat) (w : World) (s00 : Heap) (mg mb : Str → Option Value) (f : Addr) (args : Led) (vs : List Value) (O : Obj → Prop) : Prop :=
  ∀ (dp un : Nat) (gd : Option (List Code)) (cn : Str) (cs : Scope) (a : Addr) (ccd : Value) (cl : List (Str × Addr)) (outer : List Env) (A₀ : Around) (base h₀ : Heap) (L : Addr) (m : Str → Option Value) (s : Shared) (Q E : Value → Shared → Prop),
    Below A₀ base outer h₀ → Fr h₀ L s.heap m → (hd.heap_39 w.params).In h₀ → News h₀ L s.heap args → Top hd.view_39 LO (ExcName.means s00) mg mb h₀ → cs.kind = .function → dp + k < recursionLimit → un + 8 * k < cLine →
    (∀ (r : Addr) (o : Obj) (h' : Heap) (tk' : Nat), InElt s.heap h' → s.heap.get? r = none → h'.get? r = some o → O o → Q (.ref r) { s with heap := h', toks := tk' }) →
    wpAny (model PR w) (ktrTop dp un gd cn cs L a ccd cl outer) (call (.ref f) vs) Q E s
theorem off1_of {D : Addr} : ∀ {l : Led}, (∀ p ∈ l, p.1 ≠ D) → LCg.Off1 D l
  | [], _ => trivial
  | p :: _, h => ⟨h p (.head _), off1_of fun q hq => h q (.tail _ hq)⟩
section
variable {k : Nat} {w : World} {s00 : Heap} {mg mb : Str → Option Value} {f : Addr} {args news : Led} {vs : List Value} {R : Tok → Value} {O : Obj → Prop}
  {dp un : Nat} {gd : Option (List Code)} {cn : Str} {cs : Scope} {a : Addr} {ccd : Value} {cl : List (Str × Addr)} {outer : List Env} {A₀ : Around} {base h₀ : Heap} {L : Addr} {m : Str → Option Value} {s : Shared} {Q E : Value → Shared → Prop}
theorem usev (C : PCv k w s00 mg mb f args vs R) (B : Below A₀ base outer h₀) (F : Fr h₀ L s.heap m) (X : (hd.heap_39 w.params).In h₀) (N : News h₀ L s.heap news) (T : Top hd.view_39 LO (ExcName.means s00) mg mb h₀) (hk : cs.kind = .function)
    (hd : dp + k < recursionLimit) (hu : un + 8 * k < cLine) (hs : ∀ p ∈ args, p ∈ news)
    (kk : ∀ (t : Tok) (h' : Heap) (tk' : Nat), Fr h₀ L h' m → News h₀ L h' news → Q (R t) { s with heap := h', toks := tk' }) :
    wpAny (model PR w) (ktrTop dp un gd cn cs L a ccd cl outer) (call (.ref f) vs) Q E s :=
  C _ _ _ _ _ _ _ _ _ _ _ _ _ _ _ _ _ B F X (fun p hp => N p (hs p hp)) T hk hd hu fun t h' tk' e => kk t h' tk' (Fr.keeps F e) (News.grown N e)
theorem useo (C : PCo k w s00 mg mb f args vs O) (B : Below A₀ base outer h₀) (F : Fr h₀ L s.heap m) (X : (hd.heap_39 w.params).In h₀) (N : News h₀ L s.heap news) (T : Top hd.view_39 LO (ExcName.means s00) mg mb h₀) (hk : cs.kind = .function)
    (hd : dp + k < recursionLimit) (hu : un + 8 * k < cLine) (hs : ∀ p ∈ args, p ∈ news)
    (kk : ∀ (r : Addr) (o : Obj) (h' : Heap) (tk' : Nat), O o → Fr h₀ L h' m → News h₀ L h' ((r, o) :: news) → LCg.Off1 r news → Q (.ref r) { s with heap := h', toks := tk' }) :
    wpAny (model PR w) (ktrTop dp un gd cn cs L a ccd cl outer) (call (.ref f) vs) Q E s :=
  C _ _ _ _ _ _ _ _ _ _ _ _ _ _ _ _ _ B F X (fun p hp => N p (hs p hp)) T hk hd hu fun r o h' tk' e hr ho hO =>
    kk r o h' tk' hO (Fr.keeps F e) (fun p hp => by
      rcases List.mem_cons.mp hp with rfl | hp
      · obtain ⟨oL, es, ep, hL, _⟩ := F.ns
        refine ⟨ho, fun q => ?_, ?_⟩
        · have q' : r = L := q
          rw [q', hL] at hr; cases hr
        · cases q : h₀.get? r with
          | none => rfl
          | some x => rw [F.keep _ _ q] at hr; cases hr
      · exact News.grown N e p hp) (off1_of fun p hp q => by rw [← q, (N p hp).1] at hr; cases hr)
end
section
variable {s : Shared} {Q : Value → Shared → Prop} {t : Tok} {h' : Heap} {tk' : Nat}
theorem finF {x y : UInt64} (hret : ∀ (t : Tok) (h' : Heap) (tk' : Nat), InElt s.heap h' → Q (.float x t) { s with heap := h', toks := tk' }) (e : y = x) (he : InElt s.heap h') : Q (.float y t) { s with heap := h', toks := tk' } := by
  subst e; exact hret _ _ _ he
theorem finB {x y : Bool} (hret : ∀ (t : Tok) (h' : Heap) (tk' : Nat), InElt s.heap h' → Q (.bool x) { s with heap := h', toks := tk' }) (e : y = x) (he : InElt s.heap h') : Q (.bool y) { s with heap := h', toks := tk' } := by
  subst e; exact hret 0 _ _ he
theorem finY {x y : Array UInt8} (hret : ∀ (t : Tok) (h' : Heap) (tk' : Nat), InElt s.heap h' → Q (.bytes x t) { s with heap := h', toks := tk' }) (e : y = x) (he : InElt s.heap h') : Q (.bytes y t) { s with heap := h', toks := tk' } := by
  subst e; exact hret _ _ _ he
theorem finO {O : Obj → Prop} {o : Obj} {r : Addr} (hret : ∀ (r : Addr) (o : Obj) (h' : Heap) (tk' : Nat), InElt s.heap h' → s.heap.get? r = none → h'.get? r = some o → O o → Q (.ref r) { s with heap := h', toks := tk' }) (e : O o) (he : InElt s.heap h') (hr : s.heap.get? r = none) (ho : h'.get? r = some o) : Q (.ref r) { s with heap := h', toks := tk' } := hret _ _ _ _ he hr ho e
end
/-- what is new to the callee's ground is new to the caller's heap -/
theorem fresh_of {H g H' : Heap} {L' : Addr} {news' : Led} {adr : List Addr} {r : Addr} {o : Obj} (G : GSub H g adr) (N' : News g L' H' news') (hm : (r, o) ∈ news') (hn : r ∉ adr) : H.get? r = none := by
  cases q : H.get? r with
  | none => rfl
  | some x => have := G _ _ q hn; rw [(N' _ hm).2.2] at this; cases this
theorem finN {s : Shared} {Q : Value → Shared → Prop} {h' : Heap} {tk' : Nat} {O : Obj → Prop} {g h₀ : Heap} {L L' : Addr} {args news' : Led} {m' : Str → Option Value} {r : Addr} {o : Obj}
    (hret : ∀ (r : Addr) (o : Obj) (h' : Heap) (tk' : Nat), InElt s.heap h' → s.heap.get? r = none → h'.get? r = some o → O o → Q (.ref r) { s with heap := h', toks := tk' })
    (G : GSub s.heap g (args.map (·.1))) (N' : News g L' h' news') (hm : (r, o) ∈ news') (hn : r ∉ args.map (·.1)) (N : News h₀ L s.heap args) (F' : Fr g L' h' m') (hs : ∀ p ∈ args, p ∈ news') (e : O o) : Q (.ref r) { s with heap := h', toks := tk' } :=
  hret _ _ _ _ (elt_after (InElt.start _) G N F' N' hs) (fresh_of G N' hm hn) (News.get N' hm) e
theorem keptN {s : Shared} {h' : Heap} {g h₀ : Heap} {L L' : Addr} {args news' : Led} {m' : Str → Option Value}
    (G : GSub s.heap g (args.map (·.1))) (N : News h₀ L s.heap args) (N' : News g L' h' news') (F' : Fr g L' h' m') (hs : ∀ p ∈ args, p ∈ news') : InElt s.heap h' := elt_after (InElt.start _) G N F' N' hs
section
variable {prog : Program} {w : World} {A₀ A : Around} {s : Shared} {base h₀ : Heap} {outer : List Env} {L : Addr} {m : Str → Option Value} {news : Led}
theorem code_defCG {K : Frag} {p : Program} {loose : List Str} {mean : ExcName → Option Value} {mg mb : Str → Option Value} {env : Env} {R : Result → Shared → Prop} {name qual : Str} {params : Arguments} {body : List Stmt} {scope : Scope} {dV kV doc pm cdv ct oc : Value} {an od : Option Addr} {osl : Array (Option Value)} {f : Addr} {args : Args} {binds : List (Str × Value)}
    (B : Below A₀ base outer h₀) (F : Fr h₀ L s.heap m) (X₀ : K.In h₀) (N : News h₀ L s.heap news) (T : Top p loose mean mg mb h₀) (hA : A.frames = some (env :: outer)) (hf : env.frame = some L) (hke : env.scope.kind = .function)
    (ho : K.lookup f = some ⟨oc, od, .func (fnOf name qual params body scope dV kV doc pm an cdv ct), osl⟩) (hcd : codeIn K cdv qual = true) (hroom : A.depth < recursionLimit)
    (hbind : BindsTo s (fnOf name qual params body scope dV kV doc pm an cdv ct) args binds) (hkind : (binds.all fun y => scope.names.lookup y.1 == some .local || scope.names.lookup y.1 == some .cell) = true)
    (hnd : ((cellsFrom 0 scope.names []).map (·.1)).Nodup)
    (h : ∀ g L' h₁ tk cells, Fr h₀ L g m → Fr g L' h₁ (bindL (envOfC qual scope L' f cdv).kindOf binds fun _ => none) → News g L' h₁ (cells ++ news) →
      CellsAre (bindC (envOfC qual scope L' f cdv).kindOf binds fun _ => none) (cellsFrom (L' + 1) scope.names []) cells → Below A base (env :: outer) g → K.In g → Top p loose mean mg mb g → (∀ p ∈ news, p.1 < L') → GSub s.heap g (news.map (·.1)) →
      wpAny (model prog w) (A.deeper (envOfC qual scope L' f cdv)) (execs body (envOfC qual scope L' f cdv))
        (fun fl s' => LeaveK h₀ L m g R (match fl with | .ret v => v | _ => .none) s')
        (fun e s' => wpAny (model prog w) (A.deeper (envOfC qual scope L' f cdv)) (leaving (envOfC qual scope L' f cdv) e) (fun _ s'' => R (.error e) s'') (fun e' s'' => R (.error e') s'') s')
        { s with heap := h₁, toks := tk })
    (hco : scope.isCoroutine = false) (hgen : scope.isGenerator = false) (hk : scope.kind = .function) : codeAny (model prog w) A (.call (.ref f) args) R s := by
  obtain ⟨FG, BG, st, lv⟩ := groundX (R := R) B F N hA hf hke
  refine codeAny_call_function hroom ((X₀.keeps F.keep) _ _ ho) rfl hco hgen rfl (codeRec_of (X₀.keeps F.keep) hcd) (hbind _ _ _ _ ?_)
  refine wpAny_newFunctionEnv_cells hk (kindsX hkind _) fun env' he s' x => ?_
  subst he
  refine ⟨(T.nolimit.keeps F.keep).keeps x.toInCall.keep, codeAny_func ?_⟩
  obtain ⟨h₁, tk, rfl, _⟩ := x.done
  have hk₁ := x.toInCall.keep
  obtain ⟨cells, NC, Y⟩ := Cl.news (h₀ := s.heap) (Nat.le_refl _) fun n c hm => ⟨x.cell n c (lookup_of_mem_nodup (cellsFrom_names scope.names 0 (s.heap.objs.size + 1) [] [] rfl ▸ hnd) hm), x.above n c hm⟩
  refine wpAny_mono (h _ s.heap.objs.size h₁ tk cells FG ⟨x.toInCall.ns, fun b o e => hk₁ b o (of_hideAll _ e), Nat.le_of_eq (hideAll_size _ _)⟩ (fun p hp => ?_) Y BG (X₀.keeps st) (T.keeps st) (fun p hp => Heap.lt_size (N p hp).1) (fun b o e n => hideAll_get _ e n)) (fun fl s' hl => lv _ _ hl) fun _ _ y => y
  rcases List.mem_append.mp hp with hp | hp
  · refine ⟨(NC p hp).1, (NC p hp).2.1, ?_⟩
    cases q : (hideAll s.heap (news.map (·.1))).get? p.1 with
    | none => rfl
    | some o => have := of_hideAll _ q; rw [(NC p hp).2.2] at this; cases this
  · exact ⟨hk₁ _ _ (N p hp).1, Nat.ne_of_lt (Heap.lt_size (N p hp).1), hideAll_none _ (List.mem_map_of_mem hp)⟩
end
theorem fmod3 (x : Int) : 0 ≤ Int.fmod x 3 ∧ Int.fmod x 3 < 3 := ⟨Int.fmod_nonneg_of_pos x (by decide), Int.fmod_lt_of_pos x (by decide)⟩
open PySem.Flt in
theorem small_in {n : Int} (hb : -1000000 ≤ n ∧ n ≤ 1000000) : ¬ Over n := fun h => by simp only [Over] at h; omega
open PySem.Flt in
theorem div_if3 {prog : Program} {w : World} {A : Around} {Q : Value → Shared → Prop} {E : Value → Shared → Prop} {s : Shared} {x : Int} {a : UInt64} {t u : Tok} (hA : A.handled = none) (hz : Float64.isZero a = false)
    (h : Q (.float (Float64.div (Float64.ofInt (Int.fmod x 3)) a) s.toks) { s with toks := s.toks + 1 }) : wpAny (model prog w) A (binaryOp .Div (.int (Int.fmod x 3) u) (.float a t)) Q E s :=
  truediv_if hA (fun ho => absurd ho (small_in (by have := fmod3 x; omega))) (fun _ q => by rw [hz] at q; cases q) fun _ _ => h
noncomputable abbrev ints4 (p q r s : Int) (a b c d : Tok) (n : Nat) : Obj := listOf #[.int p a, .int q b, .int r c, .int s d] n
noncomputable def vF (a b c : UInt64) : UInt64 :=
  if Float64.cmp (Float64.divmod c 4607182418800017408).2 4595172819793696085 == some .lt then Float64.add a (Float64.mul (Float64.mul (Float64.sub b a) (Float64.divmod c 4607182418800017408).2) 4618441417868443648)
  else if Float64.cmp (Float64.divmod c 4607182418800017408).2 4602678819172646912 == some .lt then b
  else if Float64.cmp (Float64.divmod c 4607182418800017408).2 4604180019048437077 == some .lt then Float64.add a (Float64.mul (Float64.mul (Float64.sub b a) (Float64.sub 4604180019048437077 (Float64.divmod c 4607182418800017408).2)) 4618441417868443648)
  else a
end
section
open PySem PySem.W PySem.Calls PyProof.Rows PySem.Spec
/-- the count of the tokens never falls -/
theorem runs_toks {M : Model} {Γ : PySem.Ctx} {p : Pos} {t : Sem Fin} {fs : List Frame} {s s' : Shared} {e : End} (h : Runs M Γ p t fs s e s') : s.toks ≤ s'.toks := by
  induction h <;> (try dsimp only [Shared.setGen] at *) <;> first | exact Nat.le_refl _ | assumption | omega
theorem wakes_toks {M : Model} {Γ : PySem.Ctx} {p : Pos} {g : Nat} {r : Resume} {s s' : Shared} {res : GenResult} (h : Wakes M Γ p g r s res s') : s.toks ≤ s'.toks := by
  unfold Wakes at h
  split at h
  · exact h.elim
  · split at h
    · obtain ⟨e, s₁, hr, _, _, rfl⟩ := h; have := runs_toks hr; exact this
    · obtain ⟨_, rfl⟩ := h; exact Nat.le_refl _
    · obtain ⟨_, rfl⟩ := h; exact Nat.le_refl _
  · obtain ⟨e, s₁, hr, _, _, rfl⟩ := h; have := runs_toks hr; exact this
  · obtain ⟨_, rfl⟩ := h; exact Nat.le_refl _
  · obtain ⟨_, rfl⟩ := h; exact Nat.le_refl _
theorem wp_toks {α : Type} {M : Model} {Γ : PySem.Ctx} {n : Nat} (t : Sem α) {Q : α → Pos → Shared → Prop} {E : Value → Pos → Shared → Prop} : ∀ (p : Pos) (s : Shared), n ≤ s.toks → Sem.wp M Γ t Q E p s → Sem.wp M Γ t (fun a p s' => n ≤ s'.toks ∧ Q a p s') E p s := by
  induction t with
  | pure a => exact fun p s hn h => ⟨hn, h⟩
  | raise e => exact fun p s hn h => h
  | unsupported | finish | yield | fork | await | register => exact fun p s hn h => h.elim
  | rule tag k ih => exact fun p s hn h => ih _ _ _ hn h
  | «at» p' k ih => exact fun p s hn h => ih _ _ _ hn h
  | load a part k ih => exact fun p s hn ⟨o, ho, h⟩ => ⟨o, ho, ih _ _ _ hn h⟩
  | loadIfAlive a k ih => exact fun p s hn h => ih _ _ _ hn h
  | point l k ih => exact fun p s hn h => ih _ _ _ hn h
  | update a part f k ih => exact fun p s hn ⟨ha, h⟩ => ⟨ha, ih _ _ _ hn h⟩
  | alloc o k ih => exact fun p s hn h => ih _ _ _ hn h
  | fresh k ih => exact fun p s hn h => ih _ _ _ (Nat.le_succ_of_le hn) h
  | ask k ih => exact fun p s hn h => ih _ _ _ hn h
  | choose src n k ih => exact fun p s hn ⟨h0, h⟩ => ⟨h0, ih _ _ _ hn h⟩
  | os q l k ih => exact fun p s hn h => ih _ _ _ hn h
  | call c h g l k ih => exact fun p s hn ⟨r, s', hr, h⟩ => ⟨r, s', hr, ih _ _ _ (Nat.le_trans hn (runs_toks hr)) h⟩
  | handled own k ih => exact fun p s hn h => ih _ _ _ hn h
  | genState g k ih => exact fun p s hn ⟨st, hg, h⟩ => ⟨st, hg, ih _ _ _ hn h⟩
  | newGen c k ih => exact fun p s hn h => ih _ _ _ hn h
  | resume g r l k ih => exact fun p s hn ⟨res, s', hr, h⟩ => ⟨res, s', hr, ih _ _ _ (Nat.le_trans hn (wakes_toks hr)) h⟩
  | stack k ih => exact fun p s hn h => ih _ _ _ hn h
  | thread k ih => exact fun p s hn h => ih _ _ _ hn h
section
variable {α : Type} {M : Model} {A : Around} {E : Value → Shared → Prop} {s : Shared}
theorem with_pos {t : Sem α} {Q : α → Shared → Prop} (hp : @LT.lt Nat _ 0 s.toks) (h : wpAny M A t (fun a s' => @LT.lt Nat _ 0 s'.toks → Q a s') E s) : wpAny M A t Q E s := fun Γ p hΓ =>
  Sem.wp_mono M Γ t (fun _ _ _ x => x.2 (Nat.lt_of_lt_of_le Nat.one_pos x.1)) (fun _ _ _ x => x) p s (wp_toks (n := 1) t p s hp (h Γ p hΓ))
theorem with_posC {c : Code} {R : Result → Shared → Prop} (hp : @LT.lt Nat _ 0 s.toks) (h : codeAny M A c (fun r s' => @LT.lt Nat _ 0 s'.toks → R r s') s) : codeAny M A c R s := fun Γ p hc hΓ =>
  let ⟨r, s', hr, hR⟩ := h Γ p hc hΓ
  ⟨r, s', hr, hR (Nat.lt_of_lt_of_le hp (runs_toks hr))⟩
end
section
variable {prog : Program} {w : World} {A : Around} {E : Value → Shared → Prop} {s : Shared} {h₀ : Heap} {L : Addr} {m : Str → Option Value} {env : Env}
/-- the turns of a comprehension over a range, with the count of the tokens known to be positive -/
noncomputable def TurnsP (prog : Program) (w : World) (A : Around) (h₀ : Heap) (L : Addr) (m : Str → Option Value) (env : Env) (elt : PySem.Expr) (x : Str) (scope : Scope) (cl : List (Str × Addr)) (s : Shared) (a : Int) (Fin : List Value → List (Addr × Obj) → Prop) : Nat → Nat → List Value → List (Addr × Obj) → Prop
  | 0, _, ys, news => Fin ys news
  | k + 1, i, ys, news => ∀ t I oI C oC D m₂ h tk (E' : Value → Shared → Prop), @LT.lt Nat _ 0 tk → LCg.NsObj oC m₂ → m₂ x = some (.int (a + (i : Int)) t) → Fr h₀ L h m → News h₀ L h ((I, oI) :: (C, oC) :: (D, LCg.lst ys) :: news) → LCg.Off3 I C D news → ((@Ne Nat I C) ∧ (@Ne Nat I D) ∧ (@Ne Nat C D)) →
      wpAny (model prog w) A (eval elt (compEnvC scope cl C env)) (LCg.CompEnd h₀ L m { s with heap := h, toks := tk } I oI C oC D (LCg.lst ys) (fun _ => True) (fun y news' => TurnsP prog w A h₀ L m env elt x scope cl s a Fin k (i + 1) (ys ++ [y]) news')) E' { s with heap := h, toks := tk }
theorem TurnsP.zero {elt : PySem.Expr} {x : Str} {scope : Scope} {cl : List (Str × Addr)} {a : Int} {Fin : List Value → List (Addr × Obj) → Prop} {i : Nat} {ys : List Value} {news : List (Addr × Obj)} (h : Fin ys news) :
    TurnsP prog w A h₀ L m env elt x scope cl s a Fin 0 i ys news := h
theorem TurnsP.succ {elt : PySem.Expr} {x : Str} {scope : Scope} {cl : List (Str × Addr)} {a : Int} {Fin : List Value → List (Addr × Obj) → Prop} {k i : Nat} {ys : List Value} {news : List (Addr × Obj)}
    (h : ∀ t I oI C oC D m₂ h tk (E' : Value → Shared → Prop), @LT.lt Nat _ 0 tk → LCg.NsObj oC m₂ → m₂ x = some (.int (a + (i : Int)) t) → Fr h₀ L h m → News h₀ L h ((I, oI) :: (C, oC) :: (D, LCg.lst ys) :: news) → LCg.Off3 I C D news → ((@Ne Nat I C) ∧ (@Ne Nat I D) ∧ (@Ne Nat C D)) →
      wpAny (model prog w) A (eval elt (compEnvC scope cl C env)) (LCg.CompEnd h₀ L m { s with heap := h, toks := tk } I oI C oC D (LCg.lst ys) (fun _ => True) (fun y news' => TurnsP prog w A h₀ L m env elt x scope cl s a Fin k (i + 1) (ys ++ [y]) news')) E' { s with heap := h, toks := tk }) :
    TurnsP prog w A h₀ L m env elt x scope cl s a Fin (k + 1) i ys news := h
noncomputable def SrcP (prog : Program) (w : World) (A : Around) (h₀ : Heap) (L : Addr) (m : Str → Option Value) (env : Env) (elt : PySem.Expr) (x : Str) (scope : Scope) (cl : List (Str × Addr)) (Fin : Shared → List Value → List (Addr × Obj) → Prop) (xv : Value) (s₁ : Shared) : Prop :=
  ∃ r a b t u v n news, xv = .ref r ∧ A.handled = none ∧ Fr h₀ L s₁.heap m ∧ News h₀ L s₁.heap news ∧ IsRange s₁.heap r a b 1 t u v ∧ Builtin.Range.small a b 1 = true ∧ Builtin.Range.rangeSize a b 1 = ((n : Nat) : Int) ∧ n ≤ sizeLine ∧
    ∀ s₂ : Shared, (∃ h, s₂ = { s₁ with heap := h }) → TurnsP prog w A h₀ L m env elt x scope cl s₂ a (Fin s₂) n 0 [] news
theorem SrcP.range {elt : PySem.Expr} {x : Str} {scope : Scope} {cl : List (Str × Addr)} {Fin : Shared → List Value → List (Addr × Obj) → Prop} {r : Addr} {a b : Int} {t u v : Tok} {n : Nat} {news : List (Addr × Obj)} {s₁ : Shared}
    (hh : A.handled = none) (F : Fr h₀ L s₁.heap m) (N : News h₀ L s₁.heap news) (hr : IsRange s₁.heap r a b 1 t u v) (hsm : Builtin.Range.small a b 1 = true) (hn : Builtin.Range.rangeSize a b 1 = ((n : Nat) : Int)) (hsz : n ≤ sizeLine)
    (h : ∀ g, TurnsP prog w A h₀ L m env elt x scope cl { s₁ with heap := g } a (Fin { s₁ with heap := g }) n 0 [] news) :
    SrcP prog w A h₀ L m env elt x scope cl Fin (.ref r) s₁ := ⟨r, a, b, t, u, v, n, news, rfl, hh, F, N, hr, hsm, hn, hsz, fun _ ⟨g, e⟩ => e ▸ h g⟩
/-- what holds at the head of the loop of the comprehension, k turns or the end being left -/
noncomputable def HeadP (prog : Program) (w : World) (A : Around) (h₀ : Heap) (L : Addr) (m : Str → Option Value) (env : Env) (elt : PySem.Expr) (x : Str) (scope : Scope) (cl : List (Str × Addr)) (s₂ : Shared) (a : Int) (Fin : List Value → List (Addr × Obj) → Prop) (I C D : Addr) (n k : Nat) (s' : Shared) : Prop :=
  ∃ h' tk i ys m' news', s' = { s₂ with heap := h', toks := tk } ∧ i ≤ n ∧ k = n + 1 - i ∧ ys.length = i ∧ IsRangeIter h' I (a + (i : Nat) * 1) ((n : Int) - (i : Nat)) 1 ∧ Fr h₀ L h' m ∧ h'.Ns C m' ∧ News h₀ L h' ((D, LCg.lst ys) :: news') ∧
    LCg.Off3 I C D news' ∧ TurnsP prog w A h₀ L m env elt x scope cl s₂ a Fin (n - i) i ys news'
theorem loopP {elt iter : PySem.Expr} {x : Str} {px : Pos} {scope : Scope} {cl : List (Str × Addr)} {pos : Pos} {s₂ s₃ : Shared} {I C D : Addr} {n : Nat} {a : Int} {Fin : List Value → List (Addr × Obj) → Prop} {R : Result → Shared → Prop}
    (hh : A.handled = none) (hsz : n ≤ sizeLine) (hkind : scope.kind = .function) (hx : scope.names.lookup x = some .local)
    (hIL : L ≠ I) (hI₀ : h₀.get? I = none) (hC₀ : h₀.get? C = none) (hD₀ : h₀.get? D = none) (hCL : C ≠ L) (hDL : D ≠ L) (hIC : I ≠ C) (hID : I ≠ D) (hCD : C ≠ D)
    (start : HeadP prog w A h₀ L m env elt x scope cl s₂ a Fin I C D n (n + 1) s₃)
    (fin : ∀ h tk m' ys news', Fr h₀ L h m → News h₀ L h ((D, LCg.lst ys) :: news') → LCg.Off1 D news' → h.Ns C m' → (∀ p ∈ news', p.1 ≠ C) → Fin ys news' → R (.ok .next) { s₂ with heap := h, toks := tk }) :
    codeAny (model prog w) A (.compLoop (.ListComp elt [⟨.Name x px, iter, [], 0⟩] scope pos) 0 (.ref I) (.ref D) (compEnvC scope cl C env)) R s₃ := by
  have W := LCg.range_walks (prog := prog) (w := w) (I := I) hh a n
  refine codeAny_compLoop_tests (HeadP prog w A h₀ L m env elt x scope cl s₂ a Fin I C D n) ?_ (n + 1) start
  rintro k s' ⟨h', tk, i, ys, m', news', rfl, hi, rfl, hyl, hst, F, hn, N, off, R'⟩
  have o3 := off.mem
  rcases Nat.lt_or_ge i n with hlt | hge
  · obtain ⟨j, hj⟩ : ∃ j, n - i = j + 1 := ⟨n - i - 1, by omega⟩
    rw [hj] at R'
    refine W.item i _ _ _ hlt hst fun v h₂ tk₂ hv hst₂ hk₂ => ?_
    obtain ⟨t, rfl⟩ := hv
    refine wpAny_assign_Name (wpAny_storeName_local (lookup_relabel_local hx) (hn.at' fun o e => hk₂ _ o (by simpa using Ne.symm hIC) e) (fun h₃ hn₃ hs₃ => ?_) (by simp [compEnvC, relabel, hkind]))
    refine wpAny_tests_nil ?_
    rw [if_pos rfl]
    have N₂ := LCg.news_but N hk₂ fun p hp => by
      rcases List.mem_cons.mp hp with rfl | hp
      · exact Ne.symm hID
      · exact (o3 p hp).1
    have st₃ : IsRangeIter h₃ I _ _ 1 := W.frame _ _ _ hst₂ fun b hb o e => hs₃.extBut b o (by rw [List.mem_singleton.mp hb]; exact hIC) e
    obtain ⟨oC, eC, hoC⟩ := LCg.ns_obj hn₃
    have F₃ : Fr h₀ L h₃ m := (LCg.fr_but F hk₂ hIL hI₀).change hs₃ hCL hC₀
    obtain ⟨oI, eI⟩ : ∃ oI, h₃.get? I = some oI := ⟨_, st₃⟩
    have N₃ : News h₀ L h₃ ((I, oI) :: (C, oC) :: (D, LCg.lst ys) :: news') := by
      intro p hp
      rcases List.mem_cons.mp hp with rfl | hp
      · exact ⟨eI, Ne.symm hIL, hI₀⟩
      rcases List.mem_cons.mp hp with rfl | hp
      · exact ⟨eC, hCL, hC₀⟩
      refine ⟨hs₃.extBut _ _ ?_ (N₂ p hp).1, (N₂ p hp).2⟩
      rcases List.mem_cons.mp hp with rfl | hp
      · exact Ne.symm hCD
      · exact (o3 p hp).2.1
    refine wpAny_mono (R' t I oI C oC D _ h₃ _ _ (Nat.succ_pos _) hoC (by simp) F₃ N₃ off ⟨hIC, hID, hCD⟩) (fun y s₄ q => ?_) fun _ _ e => e
    obtain ⟨h₄, tk₄, news₄, rfl, F₄, N₄, off₄, _, R₄⟩ := q
    have zI := (N₄ (I, oI) (.head _)).1
    have zC := (N₄ (C, oC) (.tail _ (.head _))).1
    have zD := (N₄ (D, LCg.lst ys) (.tail _ (.tail _ (.head _)))).1
    have o4 := off₄.mem
    refine append_at (hsz := by show ys.toArray.size ≤ sizeLine; rw [List.size_toArray, hyl]; exact Nat.le_trans hi hsz) zD fun h₅ hs₅ hD₅ => ?_
    refine ⟨n + 1 - (i + 1), by omega, h₅, tk₄, i + 1, ys ++ [y], _, news₄, rfl, hlt, rfl, by rw [List.length_append, List.length_singleton, hyl], ?_, F₄.change hs₅ hDL hD₀, (hoC.ns zC).sameBut hs₅ hCD, ?_, off₄, by rw [show n - (i + 1) = j by omega]; exact R₄⟩
    · refine W.frame (i + 1) h₄ h₅ (LCg.range_st (h₀ := h₀) (L := L) (i + 1) _ _ oI [] st₃ eI zI F₄.keep (fun _ h => nomatch h) trivial) fun b hb o e => hs₅.extBut b o (by rw [List.mem_singleton.mp hb]; exact hID) e
    · intro p hp
      rcases List.mem_cons.mp hp with rfl | hp
      · exact ⟨hD₅.trans (congrArg some (LCg.lst_snoc ys y)), hDL, hD₀⟩
      · have := N₄ p (.tail _ (.tail _ (.tail _ hp)))
        exact ⟨hs₅.extBut _ _ (o4 p hp).2.2 this.1, this.2⟩
  · obtain rfl : i = n := Nat.le_antisymm hi hge
    rw [Nat.sub_self] at R'
    refine W.done _ _ _ hst fun h₂ tk₂ hk₂ => ?_
    refine fin h₂ tk₂ _ ys news' (LCg.fr_but F hk₂ hIL hI₀) (LCg.news_but N hk₂ fun p hp => ?_) off.one (hn.at' fun o e => hk₂ _ o (by simpa using Ne.symm hIC) e) (fun p hp => (o3 p hp).2.1) R'
    rcases List.mem_cons.mp hp with rfl | hp
    · exact Ne.symm hID
    · exact (o3 p hp).1
theorem ListComp_P {elt iter : PySem.Expr} {x : Str} {px : Pos} {scope : Scope} {cl : List (Str × Addr)} {pos : Pos} {Q : Value → Shared → Prop} (F₀ : Fr h₀ L s.heap m)
    (hclos : closureFor scope env = pure cl) (hcell : ∀ y ∈ scope.names, y.2 ≠ .cell) (hkind : scope.kind = .function)
    (hnames : ∀ y ∈ scope.names, y.2 = .local → scope.names.lookup y.1 = some .local) (hx : scope.names.lookup x = some .local)
    (h : wpAny (model prog w) A (eval iter env) (SrcP prog w A h₀ L m env elt x scope cl (fun s₂ => LCg.FinE h₀ L m s₂ Q)) E s)
    (hs : ∀ x, foldedSetIterable iter env x = pure x := by intro _; rfl) :
    wpAny (model prog w) A (eval (.ListComp elt [⟨.Name x px, iter, [], 0⟩] scope pos) env) Q E s := by
  rw [eval_ListComp]
  refine wpAny_comprehension_free (use := none) rfl hs hclos hkind hnames (wpAny_mono h (fun xv s₁ h₁ => ?_) fun _ _ e => e)
  obtain ⟨r, a, b, t, u, v, n, news, rfl, hh, F, N, hr, hsm, hn, hsz, R⟩ := h₁
  refine wpAny_pyIter_range hr hsm ?_
  generalize hH1 : s₁.heap.push _ = H1
  refine wpAny_newObj_type (wpAny_newFunctionEnv hcell (by intro y hy; simp at hy) (fun h₁ hns₁ hsb₁ => ?_) hkind)
  dsimp only at hns₁ hsb₁ ⊢
  generalize hH2 : H1.push { cls := .type "list", dict := none, data := .seq ([] : List Value).toArray } = H2 at hns₁ hsb₁ ⊢
  have z1 : (H1.objs.size : Nat) = s₁.heap.objs.size + 1 := by rw [← hH1, Heap.size_push]
  have z2 : (H2.objs.size : Nat) = s₁.heap.objs.size + 1 + 1 := by rw [← hH2, Heap.size_push, z1]
  have lL : @LT.lt Nat _ L s₁.heap.objs.size := F.ns.lt
  have a1 : @LT.lt Nat _ s₁.heap.objs.size H1.objs.size := z1 ▸ Nat.lt_succ_self _
  have a2 : @LT.lt Nat _ H1.objs.size H2.objs.size := by rw [z2, z1]; exact Nat.lt_succ_self _
  have a3 : @LT.lt Nat _ s₁.heap.objs.size H2.objs.size := Nat.lt_trans a1 a2
  have upI : ∀ b o, H1.get? b = some o → h₁.get? b = some o := fun b o e => hsb₁.extBut b o (fun q => Nat.ne_of_lt (Nat.lt_trans (Heap.lt_size e : @LT.lt Nat _ b H1.objs.size) a2) q) (Heap.get?_push_of_some _ (hH2 ▸ Heap.get?_push_of_some _ e))
  have old : ∀ b o, s₁.heap.get? b = some o → h₁.get? b = some o := fun b o e => upI b o (hH1 ▸ Heap.get?_push_of_some _ e)
  have none₀ : ∀ c : Nat, s₁.heap.objs.size ≤ c → h₀.get? c = none := fun c hc => by
    cases e : h₀.get? c with
    | none => rfl
    | some o => exact absurd (Heap.lt_size (F.keep c o e) : @LT.lt Nat _ c s₁.heap.objs.size) (Nat.not_lt.mpr hc)
  have gI : ∀ o, H1.get? s₁.heap.objs.size = some o → h₁.get? s₁.heap.objs.size = some o := fun o e => upI _ o e
  have gD : h₁.get? H1.objs.size = some (LCg.lst []) := hsb₁.extBut _ _ (fun q => Nat.ne_of_lt a2 q) (Heap.get?_push_of_some _ (hH2 ▸ Heap.get?_push_size _ rfl))
  have nI : (L : Nat) ≠ s₁.heap.objs.size := Nat.ne_of_lt lL
  have head : HeadP prog w A h₀ L m env elt x scope cl { s₁ with heap := H1 } a (LCg.FinE h₀ L m { s₁ with heap := H1 } Q) s₁.heap.objs.size H2.objs.size H1.objs.size n (n + 1) { s₁ with heap := h₁, toks := s₁.toks + ([] : List (Str × Value)).length } := by
    refine ⟨h₁, _, 0, [], _, news, rfl, Nat.zero_le _, rfl, rfl, ?_, F.keeps old, hns₁, ?_, ?_, R _ ⟨_, rfl⟩⟩
    · show h₁.get? _ = some _
      refine gI _ ?_
      rw [← hH1, hn]
      simpa using Heap.get?_push_size _ rfl
    · intro p hp
      rcases List.mem_cons.mp hp with rfl | hp
      · exact ⟨gD, fun q => Nat.ne_of_gt (Nat.lt_trans lL a1) q, none₀ _ (Nat.le_of_lt a1)⟩
      · exact ⟨old _ _ (N p hp).1, (N p hp).2⟩
    · refine LCg.Off3.of fun p hp => ?_
      have l : @LT.lt Nat _ p.1 s₁.heap.objs.size := Heap.lt_size (N p hp).1
      exact ⟨Nat.ne_of_lt l, Nat.ne_of_lt (Nat.lt_trans l a3), Nat.ne_of_lt (Nat.lt_trans l a1)⟩
  have nCL : H2.objs.size ≠ L := fun q => Nat.ne_of_gt (Nat.lt_trans lL a3) q
  have nDL : H1.objs.size ≠ L := fun q => Nat.ne_of_gt (Nat.lt_trans lL a1) q
  have loop : codeAny (model prog w) A (.compLoop (.ListComp elt [⟨.Name x px, iter, [], 0⟩] scope pos) 0 (.ref s₁.heap.objs.size) (.ref H1.objs.size) (compEnvC scope cl H2.objs.size env)) (compPost (model prog w) A E none Q (.ref H1.objs.size) H2.objs.size) { s₁ with heap := h₁, toks := s₁.toks + ([] : List (Str × Value)).length } := by
    refine loopP hh hsz hkind hx nI (none₀ _ (Nat.le_refl _)) (none₀ _ (Nat.le_of_lt a3)) (none₀ _ (Nat.le_of_lt a1)) nCL nDL (fun q => Nat.ne_of_lt a3 q) (fun q => Nat.ne_of_lt a1 q) (fun q => Nat.ne_of_gt a2 q) head ?_
    intro h tk m' ys news' F' N' o1 hn' offC fin
    refine ⟨m', hn', fun h'' hs'' => fin _ h'' tk (F'.change hs'' nCL (none₀ _ (Nat.le_of_lt a3))) (fun p hp => ?_) o1⟩
    refine ⟨hs''.extBut _ _ ?_ (N' p hp).1, (N' p hp).2⟩
    rcases List.mem_cons.mp hp with rfl | hp
    · exact fun q => Nat.ne_of_lt a2 q
    · exact offC p hp
  have st := head
  obtain ⟨h', tk', i', ys', m', news', e1, hi', e2, hyl', hst', _⟩ := st
  refine codeAny_compStart_list loop ?_
  have W := LCg.range_walks (prog := prog) (w := w) (I := s₁.heap.objs.size) hh a n
  have e3 : h₁ = h' := congrArg Shared.heap e1
  rw [← e3] at hst'
  exact W.self i' _ _ _ hst' loop
end
/-- a goal that the walk shall leave alone -/
structure Hold (P : Prop) : Prop where
  out : P
theorem tok_ne {n : Nat} (h : @LT.lt Nat _ 0 n) : n ≠ 0 := fun q => by omega
end
section
open PySem PySem.W PySem.Calls PyProof.Rows
/-- as PCv; the value handed back has a token that is not zero -/
noncomputable abbrev PCvn (k : Nat) (w : World) (s00 : Heap) (mg mb : Str → Option Value) (f : Addr) (args : Led) (vs : List Value) (R : Tok → Value) : Prop :=
  ∀ (dp un : Nat) (gd : Option (List Code)) (cn : Str) (cs : Scope) (a : Addr) (ccd : Value) (cl : List (Str × Addr)) (outer : List Env) (A₀ : Around) (base h₀ : Heap) (L : Addr) (m : Str → Option Value) (s : Shared) (Q E : Value → Shared → Prop),
    Below A₀ base outer h₀ → Fr h₀ L s.heap m → (hd.heap_39 w.params).In h₀ → News h₀ L s.heap args → Top hd.view_39 LO (ExcName.means s00) mg mb h₀ → cs.kind = .function → dp + k < recursionLimit → un + 8 * k < cLine →
    (∀ (t : Tok) (h' : Heap) (tk' : Nat), t ≠ 0 → InElt s.heap h' → Q (R t) { s with heap := h', toks := tk' }) →
    wpAny (model PR w) (ktrTop dp un gd cn cs L a ccd cl outer) (call (.ref f) vs) Q E s
/-- as PCo; the call begins at a positive count of tokens -/
noncomputable abbrev PCop (k : Nat) (w : World) (s00 : Heap) (mg mb : Str → Option Value) (f : Addr) (args : Led) (vs : List Value) (O : Obj → Prop) : Prop :=
  ∀ (dp un : Nat) (gd : Option (List Code)) (cn : Str) (cs : Scope) (a : Addr) (ccd : Value) (cl : List (Str × Addr)) (outer : List Env) (A₀ : Around) (base h₀ : Heap) (L : Addr) (m : Str → Option Value) (s : Shared) (Q E : Value → Shared → Prop),
    @LT.lt Nat _ 0 s.toks → Below A₀ base outer h₀ → Fr h₀ L s.heap m → (hd.heap_39 w.params).In h₀ → News h₀ L s.heap args → Top hd.view_39 LO (ExcName.means s00) mg mb h₀ → cs.kind = .function → dp + k < recursionLimit → un + 8 * k < cLine →
    (∀ (r : Addr) (o : Obj) (h' : Heap) (tk' : Nat), InElt s.heap h' → s.heap.get? r = none → h'.get? r = some o → O o → Q (.ref r) { s with heap := h', toks := tk' }) →
    wpAny (model PR w) (ktrTop dp un gd cn cs L a ccd cl outer) (call (.ref f) vs) Q E s
section
variable {k : Nat} {w : World} {s00 : Heap} {mg mb : Str → Option Value} {f : Addr} {args news : Led} {vs : List Value} {R : Tok → Value} {O : Obj → Prop}
  {dp un : Nat} {gd : Option (List Code)} {cn : Str} {cs : Scope} {a : Addr} {ccd : Value} {cl : List (Str × Addr)} {outer : List Env} {A₀ : Around} {base h₀ : Heap} {L : Addr} {m : Str → Option Value} {s : Shared} {Q E : Value → Shared → Prop}
theorem usevn (C : PCvn k w s00 mg mb f args vs R) (B : Below A₀ base outer h₀) (F : Fr h₀ L s.heap m) (X : (hd.heap_39 w.params).In h₀) (N : News h₀ L s.heap news) (T : Top hd.view_39 LO (ExcName.means s00) mg mb h₀) (hk : cs.kind = .function)
    (hd : dp + k < recursionLimit) (hu : un + 8 * k < cLine) (hs : ∀ p ∈ args, p ∈ news)
    (kk : ∀ (t : Tok) (h' : Heap) (tk' : Nat), t ≠ 0 → Fr h₀ L h' m → News h₀ L h' news → Q (R t) { s with heap := h', toks := tk' }) :
    wpAny (model PR w) (ktrTop dp un gd cn cs L a ccd cl outer) (call (.ref f) vs) Q E s :=
  C _ _ _ _ _ _ _ _ _ _ _ _ _ _ _ _ _ B F X (fun p hp => N p (hs p hp)) T hk hd hu fun t h' tk' ht e => kk t h' tk' ht (Fr.keeps F e) (News.grown N e)
/-- as usev; the count of the tokens stays positive -/
theorem usevp (C : PCv k w s00 mg mb f args vs R) (hp : @LT.lt Nat _ 0 s.toks) (B : Below A₀ base outer h₀) (F : Fr h₀ L s.heap m) (X : (hd.heap_39 w.params).In h₀) (N : News h₀ L s.heap news) (T : Top hd.view_39 LO (ExcName.means s00) mg mb h₀) (hk : cs.kind = .function)
    (hd : dp + k < recursionLimit) (hu : un + 8 * k < cLine) (hs : ∀ p ∈ args, p ∈ news)
    (kk : ∀ (t : Tok) (h' : Heap) (tk' : Nat), @LT.lt Nat _ 0 tk' → Fr h₀ L h' m → News h₀ L h' news → Q (R t) { s with heap := h', toks := tk' }) :
    wpAny (model PR w) (ktrTop dp un gd cn cs L a ccd cl outer) (call (.ref f) vs) Q E s :=
  with_pos hp (usev C B F X N T hk hd hu hs fun t h' tk' F' N' hp' => kk t h' tk' hp' F' N')
theorem useop1 (C : PCo k w s00 mg mb f args vs O) (hp : @LT.lt Nat _ 0 s.toks) (B : Below A₀ base outer h₀) (F : Fr h₀ L s.heap m) (X : (hd.heap_39 w.params).In h₀) (N : News h₀ L s.heap news) (T : Top hd.view_39 LO (ExcName.means s00) mg mb h₀) (hk : cs.kind = .function)
    (hd : dp + k < recursionLimit) (hu : un + 8 * k < cLine) (hs : ∀ p ∈ args, p ∈ news)
    (kk : ∀ (r : Addr) (o : Obj) (h' : Heap) (tk' : Nat), O o → @LT.lt Nat _ 0 tk' → Fr h₀ L h' m → News h₀ L h' ((r, o) :: news) → LCg.Off1 r news → Q (.ref r) { s with heap := h', toks := tk' }) :
    wpAny (model PR w) (ktrTop dp un gd cn cs L a ccd cl outer) (call (.ref f) vs) Q E s :=
  with_pos hp (useo C B F X N T hk hd hu hs fun r o h' tk' ho F' N' O' hp' => kk r o h' tk' ho hp' F' N' O')
theorem useop (C : PCop k w s00 mg mb f args vs O) (hp : @LT.lt Nat _ 0 s.toks) (B : Below A₀ base outer h₀) (F : Fr h₀ L s.heap m) (X : (hd.heap_39 w.params).In h₀) (N : News h₀ L s.heap news) (T : Top hd.view_39 LO (ExcName.means s00) mg mb h₀) (hk : cs.kind = .function)
    (hd : dp + k < recursionLimit) (hu : un + 8 * k < cLine) (hs : ∀ p ∈ args, p ∈ news)
    (kk : ∀ (r : Addr) (o : Obj) (h' : Heap) (tk' : Nat), O o → @LT.lt Nat _ 0 tk' → Fr h₀ L h' m → News h₀ L h' ((r, o) :: news) → LCg.Off1 r news → Q (.ref r) { s with heap := h', toks := tk' }) :
    wpAny (model PR w) (ktrTop dp un gd cn cs L a ccd cl outer) (call (.ref f) vs) Q E s :=
  with_pos hp (C _ _ _ _ _ _ _ _ _ _ _ _ _ _ _ _ _ hp B F X (fun p hp => N p (hs p hp)) T hk hd hu fun r o h' tk' e hr ho hO hp' =>
    kk r o h' tk' hO hp' (Fr.keeps F e) (fun p hp => by
      rcases List.mem_cons.mp hp with rfl | hp
      · obtain ⟨oL, es, ep, hL, _⟩ := F.ns
        refine ⟨ho, fun q => ?_, ?_⟩
        · have q' : r = L := q
          rw [q', hL] at hr; cases hr
        · cases q : h₀.get? r with
          | none => rfl
          | some x => rw [F.keep _ _ q] at hr; cases hr
      · exact News.grown N e p hp) (off1_of fun p hp q => by rw [← q, (N p hp).1] at hr; cases hr))
end
theorem finFn {s : Shared} {Q : Value → Shared → Prop} {t : Tok} {h' : Heap} {tk' : Nat} {x y : UInt64} (hret : ∀ (t : Tok) (h' : Heap) (tk' : Nat), t ≠ 0 → InElt s.heap h' → Q (.float x t) { s with heap := h', toks := tk' }) (ht : t ≠ 0) (e : y = x) (he : InElt s.heap h') : Q (.float y t) { s with heap := h', toks := tk' } := by
  subst e; exact hret _ _ _ ht he
section
variable {prog : Program} {w : World} {A₀ A : Around} {s : Shared} {base h₀ : Heap} {outer : List Env} {L : Addr} {m : Str → Option Value} {news : List (Addr × Obj)}
theorem code_defCGp {K : Frag} {p : Program} {loose : List Str} {mean : ExcName → Option Value} {mg mb : Str → Option Value} {env : Env} {R : Result → Shared → Prop} {name qual : Str} {params : Arguments} {body : List Stmt} {scope : Scope} {dV kV doc pm cdv ct oc : Value} {an od : Option Addr} {osl : Array (Option Value)} {f : Addr} {args : Args} {binds : List (Str × Value)}
    (hp : @LT.lt Nat _ 0 s.toks) (B : Below A₀ base outer h₀) (F : Fr h₀ L s.heap m) (X₀ : K.In h₀) (N : News h₀ L s.heap news) (T : Top p loose mean mg mb h₀) (hA : A.frames = some (env :: outer)) (hf : env.frame = some L) (hke : env.scope.kind = .function)
    (ho : K.lookup f = some ⟨oc, od, .func (fnOf name qual params body scope dV kV doc pm an cdv ct), osl⟩) (hcd : codeIn K cdv qual = true) (hroom : A.depth < recursionLimit)
    (hbind : BindsTo s (fnOf name qual params body scope dV kV doc pm an cdv ct) args binds) (hkind : (binds.all fun y => scope.names.lookup y.1 == some .local || scope.names.lookup y.1 == some .cell) = true)
    (hnd : ((cellsFrom 0 scope.names []).map (·.1)).Nodup)
    (h : ∀ g L' h₁ tk cells, @LT.lt Nat _ 0 tk → Fr h₀ L g m → Fr g L' h₁ (bindL (envOfC qual scope L' f cdv).kindOf binds fun _ => none) → News g L' h₁ (cells ++ news) →
      CellsAre (bindC (envOfC qual scope L' f cdv).kindOf binds fun _ => none) (cellsFrom (L' + 1) scope.names []) cells → Below A base (env :: outer) g → K.In g → Top p loose mean mg mb g → (∀ p ∈ news, p.1 < L') → GSub s.heap g (news.map (·.1)) →
      wpAny (model prog w) (A.deeper (envOfC qual scope L' f cdv)) (execs body (envOfC qual scope L' f cdv))
        (fun fl s' => LeaveK h₀ L m g R (match fl with | .ret v => v | _ => .none) s')
        (fun e s' => wpAny (model prog w) (A.deeper (envOfC qual scope L' f cdv)) (leaving (envOfC qual scope L' f cdv) e) (fun _ s'' => R (.error e) s'') (fun e' s'' => R (.error e') s'') s')
        { s with heap := h₁, toks := tk })
    (hco : scope.isCoroutine = false) (hgen : scope.isGenerator = false) (hk : scope.kind = .function) : codeAny (model prog w) A (.call (.ref f) args) R s := by
  obtain ⟨FG, BG, st, lv⟩ := groundX (R := R) B F N hA hf hke
  refine codeAny_call_function hroom ((X₀.keeps F.keep) _ _ ho) rfl hco hgen rfl (codeRec_of (X₀.keeps F.keep) hcd) (hbind _ _ _ _ ?_)
  refine with_pos hp (wpAny_newFunctionEnv_cells hk (kindsX hkind _) fun env' he s' x hp' => ?_)
  subst he
  refine ⟨(T.nolimit.keeps F.keep).keeps x.toInCall.keep, codeAny_func ?_⟩
  obtain ⟨h₁, tk, rfl, _⟩ := x.done
  have hk₁ := x.toInCall.keep
  obtain ⟨cells, NC, Y⟩ := Cl.news (h₀ := s.heap) (Nat.le_refl _) fun n c hm => ⟨x.cell n c (lookup_of_mem_nodup (cellsFrom_names scope.names 0 (s.heap.objs.size + 1) [] [] rfl ▸ hnd) hm), x.above n c hm⟩
  refine wpAny_mono (h _ s.heap.objs.size h₁ tk cells hp' FG ⟨x.toInCall.ns, fun b o e => hk₁ b o (of_hideAll _ e), Nat.le_of_eq (hideAll_size _ _)⟩ (fun p hp => ?_) Y BG (X₀.keeps st) (T.keeps st) (fun p hp => Heap.lt_size (N p hp).1) (fun b o e n => hideAll_get _ e n)) (fun fl s' hl => lv _ _ hl) fun _ _ y => y
  rcases List.mem_append.mp hp with hp | hp
  · refine ⟨(NC p hp).1, (NC p hp).2.1, ?_⟩
    cases q : (hideAll s.heap (news.map (·.1))).get? p.1 with
    | none => rfl
    | some o => have := of_hideAll _ q; rw [(NC p hp).2.2] at this; cases this
  · exact ⟨hk₁ _ _ (N p hp).1, Nat.ne_of_lt (Heap.lt_size (N p hp).1), hideAll_none _ (List.mem_map_of_mem hp)⟩
end
end
section
open PySem PySem.W PySem.Calls PyProof.Rows PySem.Spec
section
variable {prog : Program} {w : World} {A : Around} {E : Value → Shared → Prop} {s : Shared} {env : Env} {h₀ : Heap} {x : Str} {body : List Stmt} {Q : Flow → Shared → Prop}
noncomputable def TEnd (h₀ : Heap) (L : Addr) (J : (Str → Option Value) → Led → Prop) (I : Addr) (it : Obj) (s₁ s₂ : Shared) : Prop :=
  ∃ h' tk m' all nd, s₂ = { s₁ with heap := h', toks := tk } ∧ Fr h₀ L h' m' ∧ News h₀ L h' all ∧ (I, it) ∈ all ∧ (∀ p ∈ nd, p ∈ all) ∧ LCg.Off1 I nd ∧ J m' nd
noncomputable def TPost (h₀ : Heap) (L : Addr) (J : (Str → Option Value) → Led → Prop) (I : Addr) (it : Obj) (s₁ : Shared) (Q : Flow → Shared → Prop) (f : Flow) (s₂ : Shared) : Prop :=
  match f with
  | .ret v => Q (.ret v) s₂
  | .brk => Q .next s₂
  | _ => TEnd h₀ L J I it s₁ s₂
theorem TEnd.intro {L : Addr} {J : (Str → Option Value) → Led → Prop} {I : Addr} {it : Obj} {s₁ : Shared} {h' : Heap} {tk : Nat} {m' : Str → Option Value} {all : Led} (F : Fr h₀ L h' m') (N : News h₀ L h' all) (nd : Led) (hI : (I, it) ∈ all) (hs : ∀ p ∈ nd, p ∈ all) (ho : LCg.Off1 I nd) (hj : J m' nd) :
    TEnd h₀ L J I it s₁ { s₁ with heap := h', toks := tk } := ⟨h', tk, m', all, nd, rfl, F, N, hI, hs, ho, hj⟩
theorem off1_mem {D : Addr} : ∀ {l : Led}, LCg.Off1 D l → ∀ p ∈ l, p.1 ≠ D
  | [], _ => fun _ hp => nomatch hp
  | q :: l, h => fun p hp => by
    rcases List.mem_cons.mp hp with e | hp
    · rw [e]; exact h.1
    · exact off1_mem h.2 p hp
theorem sub_nil {l : Led} : ∀ a ∈ ([] : Led), a ∈ l := fun _ h => nomatch h
theorem sub_cons {x : Addr × Obj} {l all : Led} (h : x ∈ all) (t : ∀ a ∈ l, a ∈ all) : ∀ a ∈ x :: l, a ∈ all := fun a ha => (List.mem_cons.mp ha).elim (fun e => e ▸ h) (t a)
theorem nd1 (x : Nat) : x + 1 ≠ x := by omega
theorem nd1' (x : Nat) : x ≠ x + 1 := by omega
theorem nd2 (x : Nat) : x + 1 + 1 ≠ x := by omega
theorem nd2' (x : Nat) : x ≠ x + 1 + 1 := by omega
theorem nd3 (x : Nat) : x + 1 + 1 + 1 ≠ x := by omega
theorem nd3' (x : Nat) : x ≠ x + 1 + 1 + 1 := by omega
theorem nd4 (x : Nat) : x + 1 + 1 + 1 + 1 ≠ x := by omega
theorem nd4' (x : Nat) : x ≠ x + 1 + 1 + 1 + 1 := by omega
theorem nd5 (x : Nat) : x + 1 + 1 + 1 + 1 + 1 ≠ x := by omega
theorem nd5' (x : Nat) : x ≠ x + 1 + 1 + 1 + 1 + 1 := by omega
theorem lta1 {a b : Nat} (h : a < b) : a < b + 1 := by omega
theorem ltd1 {a b : Nat} (h : a + 1 < b) : a < b := by omega
theorem ltt1 {a b c : Nat} (h : a < b) (k : b + 1 < c) : a < c := by omega
theorem lta2 {a b : Nat} (h : a < b) : a < b + 1 + 1 := by omega
theorem ltd2 {a b : Nat} (h : a + 1 + 1 < b) : a < b := by omega
theorem ltt2 {a b c : Nat} (h : a < b) (k : b + 1 + 1 < c) : a < c := by omega
theorem lta3 {a b : Nat} (h : a < b) : a < b + 1 + 1 + 1 := by omega
theorem ltd3 {a b : Nat} (h : a + 1 + 1 + 1 < b) : a < b := by omega
theorem ltt3 {a b c : Nat} (h : a < b) (k : b + 1 + 1 + 1 < c) : a < c := by omega
theorem lta4 {a b : Nat} (h : a < b) : a < b + 1 + 1 + 1 + 1 := by omega
theorem ltd4 {a b : Nat} (h : a + 1 + 1 + 1 + 1 < b) : a < b := by omega
theorem ltt4 {a b c : Nat} (h : a < b) (k : b + 1 + 1 + 1 + 1 < c) : a < c := by omega
theorem lta5 {a b : Nat} (h : a < b) : a < b + 1 + 1 + 1 + 1 + 1 := by omega
theorem ltd5 {a b : Nat} (h : a + 1 + 1 + 1 + 1 + 1 < b) : a < b := by omega
theorem ltt5 {a b c : Nat} (h : a < b) (k : b + 1 + 1 + 1 + 1 + 1 < c) : a < c := by omega
theorem isZero3 : Float64.isZero 4613937818241073152 = false := by decide +kernel
theorem pin_eq {m : Str → Option Value} {k : Str} {v : Option Value} (h : m k = v) : m = fun y => if y = k then v else m y := funext fun y => by by_cases e : y = k <;> simp [e, h]
theorem rest_of {J : Nat → (Str → Option Value) → Led → Prop} {ax : Addr} {lo : Obj} {vs : List Value} {news : Led} {I : Addr} (hI : ∀ p ∈ news, p.1 < I)
    (hax : ∀ i m nd, J i m nd → (ax, lo) ∈ nd)
    (turn : ∀ i v I it m₁ nd h tk, vs[i]? = some v → it.cls = .type "list_iterator" → (∀ p ∈ news, p.1 < I) → J i m₁ nd → Fr h₀ env.locals h (fun y => if y = x then some v else m₁ y) → News h₀ env.locals h ((I, it) :: nd) →
      wpAny (model prog w) A (execs body env) (TPost h₀ env.locals (J (i + 1)) I it { s with heap := h, toks := tk } Q) E { s with heap := h, toks := tk })
    (done : ∀ m₁ nd h tk, J vs.length m₁ nd → Fr h₀ env.locals h m₁ → News h₀ env.locals h nd → Q .next { s with heap := h, toks := tk }) :
    ∀ k i m nd, i + k = vs.length → J i m nd → ListRest prog w A E h₀ env x body Q s I (ax, lo) (vs.drop i) m nd
  | 0, i, m, nd, e, hj => by
    have : i = vs.length := by omega
    subst this
    rw [List.drop_length]
    exact ListRest.zero fun h tk F N => done m nd h tk hj F N
  | k + 1, i, m, nd, e, hj => by
    have hlt : i < vs.length := by omega
    rw [List.drop_eq_getElem_cons hlt]
    refine ListRest.succ fun it h tk hit F N => ?_
    refine wpAny_mono (turn i vs[i] I it m nd h tk (List.getElem?_eq_getElem hlt) hit hI hj F N) (fun f s₂ p => ?_) fun _ _ e => e
    have fin : TEnd h₀ env.locals (J (i + 1)) I it { s with heap := h, toks := tk } s₂ → UnrEnd h₀ env.locals { s with heap := h, toks := tk } I it (fun m' n' => (ax, lo) ∈ n' ∧ ListRest prog w A E h₀ env x body Q s I (ax, lo) (vs.drop (i + 1)) m' n') s₂ := by
      rintro ⟨h', tk', m', all, nd', e', F', N', hIa, hs, ho, hj'⟩
      refine ⟨h', tk', m', nd', e', F', fun p hp => ?_, off1_mem ho, hax _ _ _ hj', rest_of hI hax turn done k (i + 1) m' nd' (by omega) hj'⟩
      rcases List.mem_cons.mp hp with rfl | hp
      · exact N' _ hIa
      · exact N' p (hs p hp)
    cases f with
    | ret v => exact p
    | brk => exact p
    | next => exact fin p
    | cont => exact fin p
theorem iter_J {ax : Addr} {lo : Obj} {vs : List Value} {n : Nat} {m₀ : Str → Option Value} {news : Led} (nd₀ : Led) (J : Nat → (Str → Option Value) → Led → Prop)
    (hh : A.handled = none) (F : Fr h₀ env.locals s.heap m₀) (N : News h₀ env.locals s.heap news) (hsub : ∀ p ∈ nd₀, p ∈ news) (hc : lo.cls = .type "list") (hd : lo.data = .seq vs.toArray n) (hj : J 0 m₀ nd₀)
    (hax : ∀ i m nd, J i m nd → (ax, lo) ∈ nd)
    (turn : ∀ i v I it m₁ nd h tk, vs[i]? = some v → it.cls = .type "list_iterator" → (∀ p ∈ nd₀, p.1 < I) → J i m₁ nd → Fr h₀ env.locals h (fun y => if y = x then some v else m₁ y) → News h₀ env.locals h ((I, it) :: nd) →
      wpAny (model prog w) A (execs body env) (TPost h₀ env.locals (J (i + 1)) I it { s with heap := h, toks := tk } Q) E { s with heap := h, toks := tk })
    (done : ∀ m₁ nd h tk, J vs.length m₁ nd → Fr h₀ env.locals h m₁ → News h₀ env.locals h nd → Q .next { s with heap := h, toks := tk }) :
    wpAny (model prog w) A (pyIter (.ref ax)) (fun it s₂ => LoopAtV prog w A h₀ env x body Q E it s₂) E s := by
  refine iter_listUnr (news := nd₀) hh F (fun p hp => N p (hsub p hp)) (hax _ _ _ hj) hc hd fun I hI => ?_
  have := rest_of (J := J) (ax := ax) (lo := lo) (vs := vs) (news := nd₀) (x := x) (body := body) (prog := prog) (w := w) (A := A) (E := E) (Q := Q) (s := s) (env := env) (h₀ := h₀) hI hax turn done vs.length 0 m₀ nd₀ (by omega) hj
  simpa using this
theorem iter_fold {σ : Type} (step : σ → Int → σ) (z : σ) {ax : Addr} {lo : Obj} {vs : List Value} {ps : List Int} {n : Nat} {m₀ : Str → Option Value} {news : Led} (nd₀ : Led) (J : σ → (Str → Option Value) → Led → Prop)
    (hh : A.handled = none) (F : Fr h₀ env.locals s.heap m₀) (N : News h₀ env.locals s.heap news) (hsub : ∀ p ∈ nd₀, p ∈ news) (hc : lo.cls = .type "list") (hd : lo.data = .seq vs.toArray n) (hi : IntsAre vs ps) (hj : J z m₀ nd₀)
    (hax : ∀ st m nd, J st m nd → (ax, lo) ∈ nd)
    (turn : ∀ st pe te I it m₁ nd h tk, pe ∈ ps → it.cls = .type "list_iterator" → (∀ p ∈ nd₀, p.1 < I) → J st m₁ nd → Fr h₀ env.locals h (fun y => if y = x then some (.int pe te) else m₁ y) → News h₀ env.locals h ((I, it) :: nd) →
      wpAny (model prog w) A (execs body env) (TPost h₀ env.locals (J (step st pe)) I it { s with heap := h, toks := tk } Q) E { s with heap := h, toks := tk })
    (done : ∀ m₁ nd h tk, J (ps.foldl step z) m₁ nd → Fr h₀ env.locals h m₁ → News h₀ env.locals h nd → Q .next { s with heap := h, toks := tk }) :
    wpAny (model prog w) A (pyIter (.ref ax)) (fun it s₂ => LoopAtV prog w A h₀ env x body Q E it s₂) E s := by
  have hlen : vs.length = ps.length := hi.length
  refine iter_J (ax := ax) (lo := lo) (vs := vs) (n := n) nd₀ (fun i m nd => J ((ps.take i).foldl step z) m nd) hh F N hsub hc hd hj (fun i m nd h => hax _ _ _ h) ?_ ?_
  · intro i v I it m₁ nd h tk hv hit hI hJ F₁ N₁
    obtain ⟨hlt, hve⟩ := List.getElem?_eq_some_iff.mp hv
    have hlt' : i < ps.length := by omega
    obtain ⟨t, hx⟩ := hi.get i ps[i] (by simp [hlt'])
    have : v = .int ps[i] t := by rw [hx] at hv; exact (Option.some.inj hv).symm
    subst this
    have hs : (ps.take (i + 1)).foldl step z = step ((ps.take i).foldl step z) ps[i] := by
      have hn : ps[i]? = some ps[i] := List.getElem?_eq_getElem hlt'
      rw [List.take_add_one, hn, List.foldl_append]; rfl
    have := turn _ ps[i] t I it m₁ nd h tk (List.getElem_mem hlt') hit hI hJ F₁ N₁
    rw [← hs] at this
    exact this
  · intro m₁ nd h tk hJ F₁ N₁
    rw [hlen, List.take_length] at hJ
    exact done m₁ nd h tk hJ F₁ N₁
end
section
variable {prog : Program} {w : World} {A : Around} {E : Value → Shared → Prop} {s : Shared} {h₀ : Heap} {L : Addr} {news : Led}
theorem item_N {value slice : Expr} {l : Addr} {vs : List Value} {n : Nat} {k : Int} {u : Tok} {v : Value} {Q : Value → Shared → Prop} (N : News h₀ L s.heap news) (hm : (l, listOf vs.toArray n) ∈ news)
    (h0 : 0 ≤ k) (hhi : k < 2 ^ 63) (hx : vs[k.toNat]? = some v) (h : Q v s)
    (hs : subscripted slice false (.ref l) (.int k u) = operate [.ref l, .int k u] (getItem (.ref l) (.int k u)) := by with_unfolding_all rfl) :
    wpAny (model prog w) A (subscriptTail value slice (.ref l) (.int k u)) Q E s :=
  have hl : s.heap.IsList l vs.toArray := News.isList N hm
  tail_any hl.typeIs slot_list_getitem.lookup (wpAny_getItem_list hl h0 hhi (by simpa using hx) h) hs
end
end
section
open PySem PySem.W PySem.Calls PyProof.Rows PySem.Spec PySem.Flt
section
variable {prog : Program} {w : World} {A : Around} {E : Value → Shared → Prop} {s : Shared} {Q : Value → Shared → Prop} {h₀ : Heap} {L l : Addr} {m : Str → Option Value} {news : Led} {vs : List Value} {bs : List UInt64}
theorem cmp_gt_floats (hf : FloatsAre vs bs) {A' : Around} : CmpOf prog w A' .Gt (fun i v => vs.toArray[i]? = some v) (fun i j => gtB (bs.getD i 0) (bs.getD j 0)) := fun i j vi vj s Q E hi hj h => by
  obtain ⟨b, t, rfl, e1⟩ := hf.at i vi (by simpa using hi)
  obtain ⟨c, u, rfl, e2⟩ := hf.at j vj (by simpa using hj)
  simp only [List.getD_eq_getElem?_getD, e1, e2, Option.getD_some] at h
  exact AutoFloatOps.gt_0 (by rw [cmp_gt]; exact h)
theorem cmp_lt_floats (hf : FloatsAre vs bs) {A' : Around} : CmpOf prog w A' .Lt (fun i v => vs.toArray[i]? = some v) (fun i j => ltB (bs.getD i 0) (bs.getD j 0)) := fun i j vi vj s Q E hi hj h => by
  obtain ⟨b, t, rfl, e1⟩ := hf.at i vi (by simpa using hi)
  obtain ⟨c, u, rfl, e2⟩ := hf.at j vj (by simpa using hj)
  simp only [List.getD_eq_getElem?_getD, e1, e2, Option.getD_some] at h
  exact AutoFloatOps.lt_0 h
theorem best_of (bt : UInt64 → UInt64 → Bool) (hf : FloatsAre vs bs) (hne : 0 < bs.length) {v : Value} (hP : vs.toArray[argBest (fun i j => bt (bs.getD i 0) (bs.getD j 0)) (vs.toArray.size - 1)]? = some v) : ∃ t, v = .float (bestBits bt (bs.getD 0 0) bs.tail) t := by
  rw [size_floats hf] at hP
  obtain ⟨b, t, rfl, e1⟩ := hf.at _ v ((List.getElem?_toArray).symm.trans hP)
  have e2 := argBest_bits bt bs (bs.length - 1) (by omega)
  rw [List.take_of_length_le (by rw [List.length_tail]; omega)] at e2
  rw [List.getD_eq_getElem?_getD, e1, Option.getD_some] at e2
  exact ⟨t, by rw [e2]⟩
/-- max of a list of the call's own that holds floats -/
theorem max_listN (hh : A.handled = none) (F : Fr h₀ L s.heap m) (N : News h₀ L s.heap news) (hls : s.heap.IsList l vs.toArray) (hf : FloatsAre vs bs) (hne : 0 < bs.length)
    (h : ∀ h' tk t, Fr h₀ L h' m → News h₀ L h' news → Q (.float (maxOfBits bs) t) { s with heap := h', toks := tk }) : wpAny (model prog w) A (call (.builtin "max") [.ref l]) Q E s := by
  refine call_max_walk (iter_list_ hls fun s₂ e st hfp hlI => ?_)
  subst e
  refine ⟨_, _, _, _, _, _, fun i j => gtB (bs.getD i 0) (bs.getD j 0), rfl, Walks.list (prog := prog) (w := w) (A := A.in1) hh _ l hlI vs.toArray, st, hfp, by rw [size_floats hf]; exact hne, cmp_gt_floats hf, fun v h' tk hP hk => ?_⟩
  obtain ⟨t, rfl⟩ := best_of gtB hf hne hP
  have kp := kept_iter hk
  exact h h' tk t (F.grownK kp) (N.grown kp)
theorem kept_tup {o₀ o₁ : Obj} {h' : Heap} (hk : ∀ b o, b ∉ [(s.heap.push o₀).objs.size] → ((s.heap.push o₀).push o₁).get? b = some o → h'.get? b = some o) : ∀ b o, s.heap.get? b = some o → h'.get? b = some o := fun b o e => by
  refine hk b o (fun hm => ?_) (Heap.get?_push_of_some _ (Heap.get?_push_of_some _ e))
  have h1 := List.mem_singleton.mp hm
  have h2 := Heap.lt_size e
  rw [Heap.size_push] at h1
  rw [h1] at h2
  exact Nat.lt_irrefl _ (Nat.lt_of_succ_lt h2)
theorem fp_tup {o₀ o₁ : Obj} : ∀ b ∈ [(s.heap.push o₀).objs.size, s.heap.objs.size], b < ((s.heap.push o₀).push o₁).objs.size := fun b hb => by
  rw [Heap.size_push, Heap.size_push]
  rcases List.mem_cons.mp hb with rfl | hb
  · rw [Heap.size_push]; exact Nat.lt_succ_self _
  · rw [List.mem_singleton.mp hb]; exact Nat.lt_succ_of_lt (Nat.lt_succ_self _)
theorem max_3N {a b c : UInt64} {t u x : Tok} (hh : A.handled = none) (F : Fr h₀ L s.heap m) (N : News h₀ L s.heap news)
    (h : ∀ h' tk t, Fr h₀ L h' m → News h₀ L h' news → Q (.float (maxOfBits [a, b, c]) t) { s with heap := h', toks := tk }) : wpAny (model prog w) A (call (.builtin "max") [.float a t, .float b u, .float c x]) Q E s := by
  have hf : FloatsAre [.float a t, .float b u, .float c x] [a, b, c] := .cons _ _ (.cons _ _ (.cons _ _ .nil))
  have hT : (s.heap.push { cls := .type "tuple", data := .seq #[.float a t, .float b u, .float c x] }).IsTuple s.heap.objs.size ([.float a t, .float b u, .float c x] : List Value).toArray := ⟨_, Heap.get?_push_size _ rfl, rfl, 0, rfl⟩
  refine call_max_three (wpAny_pyIter_tuple hT ?_)
  refine ⟨_, [_, s.heap.objs.size], [_], _, _, _, _, rfl, Walks.tuple (A := A.in1) hh _ s.heap.objs.size (by rw [Heap.size_push]; exact Nat.ne_of_lt (Nat.lt_succ_self _)) _,
    ⟨⟨_, Heap.get?_push_size _ rfl, rfl, rfl⟩, hT.push _⟩, fp_tup, by simp, cmp_gt_floats hf, fun v h' tk hP hk => ?_⟩
  obtain ⟨t, rfl⟩ := best_of gtB hf (by simp) hP
  have kp := kept_tup hk
  exact h h' tk t (F.grownK kp) (N.grown kp)
theorem min_3N {a b c : UInt64} {t u x : Tok} (hh : A.handled = none) (F : Fr h₀ L s.heap m) (N : News h₀ L s.heap news)
    (h : ∀ h' tk t, Fr h₀ L h' m → News h₀ L h' news → Q (.float (minOfBits [a, b, c]) t) { s with heap := h', toks := tk }) : wpAny (model prog w) A (call (.builtin "min") [.float a t, .float b u, .float c x]) Q E s := by
  have hf : FloatsAre [.float a t, .float b u, .float c x] [a, b, c] := .cons _ _ (.cons _ _ (.cons _ _ .nil))
  have hT : (s.heap.push { cls := .type "tuple", data := .seq #[.float a t, .float b u, .float c x] }).IsTuple s.heap.objs.size ([.float a t, .float b u, .float c x] : List Value).toArray := ⟨_, Heap.get?_push_size _ rfl, rfl, 0, rfl⟩
  refine call_min_three (wpAny_pyIter_tuple hT ?_)
  refine ⟨_, [_, s.heap.objs.size], [_], _, _, _, _, rfl, Walks.tuple (A := A.in1) hh _ s.heap.objs.size (by rw [Heap.size_push]; exact Nat.ne_of_lt (Nat.lt_succ_self _)) _,
    ⟨⟨_, Heap.get?_push_size _ rfl, rfl, rfl⟩, hT.push _⟩, fp_tup, by simp, cmp_lt_floats hf, fun v h' tk hP hk => ?_⟩
  obtain ⟨t, rfl⟩ := best_of ltB hf (by simp) hP
  have kp := kept_tup hk
  exact h h' tk t (F.grownK kp) (N.grown kp)
theorem truediv_nz {a b : UInt64} {t u : Tok} (hA : A.handled = none) (hz : Float64.isZero b = false) (h : Q (.float (Float64.div a b) s.toks) { s with toks := s.toks + 1 }) : wpAny (model prog w) A (binaryOp .Div (.float a t) (.float b u)) Q E s :=
  truediv_float_or hA (fun q => by rw [hz] at q; cases q) fun _ => h
theorem isZero6 : Float64.isZero 4618441417868443648 = false := by decide +kernel
end
noncomputable def mx (r g b : UInt64) : UInt64 := maxOfBits [r, g, b]
noncomputable def mn (r g b : UInt64) : UInt64 := minOfBits [r, g, b]
theorem max_3M {prog : Program} {w : World} {A : Around} {E : Value → Shared → Prop} {s : Shared} {Q : Value → Shared → Prop} {h₀ : Heap} {L : Addr} {m : Str → Option Value} {news : Led} {a b c : UInt64} {t u x : Tok} (hh : A.handled = none) (F : Fr h₀ L s.heap m) (N : News h₀ L s.heap news)
    (h : ∀ h' tk t, Fr h₀ L h' m → News h₀ L h' news → Q (.float (mx a b c) t) { s with heap := h', toks := tk }) : wpAny (model prog w) A (call (.builtin "max") [.float a t, .float b u, .float c x]) Q E s := max_3N hh F N h
theorem min_3M {prog : Program} {w : World} {A : Around} {E : Value → Shared → Prop} {s : Shared} {Q : Value → Shared → Prop} {h₀ : Heap} {L : Addr} {m : Str → Option Value} {news : Led} {a b c : UInt64} {t u x : Tok} (hh : A.handled = none) (F : Fr h₀ L s.heap m) (N : News h₀ L s.heap news)
    (h : ∀ h' tk t, Fr h₀ L h' m → News h₀ L h' news → Q (.float (mn a b c) t) { s with heap := h', toks := tk }) : wpAny (model prog w) A (call (.builtin "min") [.float a t, .float b u, .float c x]) Q E s := min_3N hh F N h
noncomputable def rng (r g b : UInt64) : UInt64 := Float64.sub (mx r g b) (mn r g b)
noncomputable def cF (r g b x : UInt64) : UInt64 := Float64.div (Float64.sub (mx r g b) x) (rng r g b)
noncomputable def h0F (r g b : UInt64) : UInt64 :=
  if Float64.cmp r (mx r g b) == some .eq then Float64.sub (cF r g b b) (cF r g b g)
  else if Float64.cmp g (mx r g b) == some .eq then Float64.sub (Float64.add 4611686018427387904 (cF r g b r)) (cF r g b b)
  else Float64.sub (Float64.add 4616189618054758400 (cF r g b g)) (cF r g b r)
noncomputable def hF (r g b : UInt64) : UInt64 := (Float64.divmod (Float64.div (h0F r g b) 4618441417868443648) 4607182418800017408).2
noncomputable def sF (r g b : UInt64) : UInt64 := Float64.div (rng r g b) (mx r g b)
/-- where rgb_to_hsv takes its long way and divides by no nought -/
noncomputable def rgbOk (r g b : UInt64) : Bool := !(Float64.cmp (mn r g b) (mx r g b) == some .eq) && !Float64.isZero (mx r g b) && !Float64.isZero (rng r g b)
noncomputable abbrev tup3 (a b c : UInt64) (t u v : Tok) (n : Nat) : Obj := { cls := .type "tuple", data := .seq #[.float a t, .float b u, .float c v] n }
theorem fdiv16 (x : Int) : Int.fdiv x 16 = x / 16 := Int.fdiv_eq_ediv_of_nonneg x (by decide)
theorem fmod16 (x : Int) : Int.fmod x 16 = x % 16 := Int.fmod_eq_emod_of_nonneg x (by decide)
theorem int_fin {prog : Program} {w : World} {A : Around} {E : Value → Shared → Prop} {s : Shared} {Q : Value → Shared → Prop} {x : UInt64} {t : Tok} (hA : A.handled = none) (hf : Float64.isFinite x = true) (h : Q (.int (Flt.toInt Float64.truncOf x) s.toks) { s with toks := s.toks + 1 }) :
    wpAny (model prog w) A (call (.type "int") [.float x t]) Q E s := by
  rcases Flt.three x with ⟨hd, _⟩ | ⟨_, hd, _⟩ | ⟨sg, m, e, hd, _⟩
  · unfold Float64.isFinite at hf; rw [hd] at hf; cases hf
  · unfold Float64.isFinite at hf; rw [hd] at hf; cases hf
  · refine call_int_float hd ?_
    have e : Flt.toInt Float64.truncOf x = Float64.truncOf sg m e := by unfold Flt.toInt; rw [hd]
    rw [← e]; exact h
theorem fmod6 (x : Int) : 0 ≤ Int.fmod x 6 ∧ Int.fmod x 6 < 6 := ⟨Int.fmod_nonneg_of_pos x (by decide), Int.fmod_lt_of_pos x (by decide)⟩
noncomputable def hI (h : UInt64) : Int := Flt.toInt Float64.truncOf (Float64.mul h 4618441417868443648)
noncomputable def fF (h : UInt64) : UInt64 := Float64.sub (Float64.mul h 4618441417868443648) (Float64.ofInt (hI h))
noncomputable def pF (s v : UInt64) : UInt64 := Float64.mul v (Float64.sub 4607182418800017408 s)
noncomputable def qF (h s v : UInt64) : UInt64 := Float64.mul v (Float64.sub 4607182418800017408 (Float64.mul s (fF h)))
noncomputable def tF (h s v : UInt64) : UInt64 := Float64.mul v (Float64.sub 4607182418800017408 (Float64.mul s (Float64.sub 4607182418800017408 (fF h))))
structure F3 where
  x : UInt64
  y : UInt64
  z : UInt64
noncomputable def hsvR (h s v : UInt64) : F3 :=
  if Int.fmod (hI h) 6 = 0 then ⟨v, tF h s v, pF s v⟩ else if Int.fmod (hI h) 6 = 1 then ⟨qF h s v, v, pF s v⟩ else if Int.fmod (hI h) 6 = 2 then ⟨pF s v, v, tF h s v⟩
  else if Int.fmod (hI h) 6 = 3 then ⟨pF s v, qF h s v, v⟩ else if Int.fmod (hI h) 6 = 4 then ⟨tF h s v, pF s v, v⟩ else ⟨v, pF s v, qF h s v⟩
noncomputable def hsvOk (h s : UInt64) : Bool := !(Float64.cmp s 0 == some .eq) && Float64.isFinite (Float64.mul h 4618441417868443648) && decide (0 ≤ hI h ∧ hI h ≤ 5)
theorem tup3_eq {a b c a' b' c' : UInt64} {t u v : Tok} {n : Nat} (h1 : a = a') (h2 : b = b') (h3 : c = c') : tup3 a b c t u v n = tup3 a' b' c' t u v n := by subst h1 h2 h3; rfl
end
section
open PySem PySem.W PySem.Calls PyProof.Rows PySem.Spec PySem.Builtin PySem.Builtin.Str
set_option linter.unusedVariables false
theorem sub0 (b : Str) (i : Nat) : subAt b ⟨#[]⟩ i = true := by
  have : (⟨#[]⟩ : Str).length = 0 := rfl
  simp [subAt, this]; omega
theorem occ0 (b : Str) : occurrences b ⟨#[]⟩ 0 1 1 = [0] := by unfold occurrences; simp only [sub0]; decide +kernel
theorem occ3 (b : Str) : occurrences b ⟨#[]⟩ 3 4 1 = [3] := by unfold occurrences; simp only [sub0]; decide +kernel
theorem gives_find4 (x y : Str) (i j : Int) (t u v w : Tok) : Gives («str.find» ⟨[.str x t, .str y u, .int i v, .int j w], []⟩) (.int (match occurrences x y (fromIndex x.length i) (min (fromIndex x.length j) x.length) 1 with | k :: _ => (k : Int) | [] => -1)) := by
  show Gives (match occurrences x y (fromIndex x.length i) (min (fromIndex x.length j) x.length) 1 with | k :: _ => retInt k | [] => (do rule "str.find.not-found"; retInt (-1))) _
  cases occurrences x y (fromIndex x.length i) (min (fromIndex x.length j) x.length) 1 with
  | nil => exact .rule (.of_eq rfl)
  | cons k _ => exact .of_eq rfl
section
variable {prog : Program} {w : World} {A : Around} {E : Value → Shared → Prop} {s : Shared} {Q : Value → Shared → Prop}
theorem find_A {x : Str} {i j : Int} {t u v z : Tok} (hx : x.length = 4) (hi : i = 0) (hj : j = 1) (hq : Q (.int 0 s.toks) { s with toks := s.toks + 1 }) : wpAny (model prog w) A (call (.builtin "str.find") [.str x t, .str ⟨#[]⟩ u, .int i v, .int j z]) Q E s := by
  subst hi hj
  refine call_gives F.slot_str_find (typeIs_str _ _ _) F.entry_str_find (F.args_str_find_4 _ _ _ _) (gives_find4 x _ 0 1 t u v z) ?_
  rw [hx]
  show (Made.int (match occurrences x ⟨#[]⟩ 0 1 1 with | k :: _ => (k : Int) | [] => -1)).post Q s
  rw [occ0]; exact hq
theorem find_C {x : Str} {i j : Int} {t u v z : Tok} (hx : x.length = 4) (hi : i = 3) (hj : j = 4) (hq : Q (.int 3 s.toks) { s with toks := s.toks + 1 }) : wpAny (model prog w) A (call (.builtin "str.find") [.str x t, .str ⟨#[]⟩ u, .int i v, .int j z]) Q E s := by
  subst hi hj
  refine call_gives F.slot_str_find (typeIs_str _ _ _) F.entry_str_find (F.args_str_find_4 _ _ _ _) (gives_find4 x _ 3 4 t u v z) ?_
  rw [hx]
  show (Made.int (match occurrences x ⟨#[]⟩ 3 4 1 with | k :: _ => (k : Int) | [] => -1)).post Q s
  rw [occ3]; exact hq
end
end
section
open PySem PySem.W PySem.Calls PyProof.Rows PySem.Spec
noncomputable def AP : Array UInt8 := #[65, 66, 67, 68, 69, 70, 71, 72, 73, 74, 75, 76, 77, 78, 79, 80]
noncomputable def apB (m : Int) : UInt8 := (65 + m.toNat).toUInt8
theorem picked_ap {m : Int} (hm : 0 ≤ m ∧ m ≤ 15) : KBy.picked AP (some m) (some (m + 1)) = #[apB m] := by
  obtain ⟨n, rfl⟩ := Int.eq_ofNat_of_zero_le hm.1
  exact (by decide +kernel : ∀ n : Nat, n < 16 → KBy.picked AP (some (n : Int)) (some ((n : Int) + 1)) = #[apB (n : Int)]) n (by omega)
section
variable {prog : Program} {w : World} {A : Around} {E : Value → Shared → Prop} {s : Shared} {value slice : PySem.Expr} {t tm tn : Tok} {h₀ : Heap} {L : Addr} {m : PySem.Str → Option Value} {news : Led} {Q : Value → Shared → Prop} {i : Int}
theorem slice_ap (hi : 0 ≤ i ∧ i ≤ 15) (hF : Fr h₀ L s.heap m) (hN : News h₀ L s.heap news)
    (h : ∀ h' t' k, Fr h₀ L h' m → News h₀ L h' news → Q (.bytes #[apB i] t') { s with heap := h', toks := k })
    (hs : subscripted slice false (.bytes AP t) (.ref s.heap.objs.size) = operate [.ref s.heap.objs.size, .bytes AP t] (getItem (.bytes AP t) (.ref s.heap.objs.size)) := by with_unfolding_all rfl)
    (ht : ∀ r, letTemporaryGo value (.bytes AP t) r = pure () := by intro _; with_unfolding_all rfl) :
    wpAny (model prog w) A (subscriptTail value slice (.bytes AP t) (.ref s.heap.objs.size)) Q E { s with heap := s.heap.push { cls := .type "slice", data := .fields #[.int i tm, .int (i + 1) tn, .none] } } :=
  KBc.slice_K hF hN rfl (.int _ _) (.int _ _) (by show List.length _ ≤ _; decide) (fun h' t' k F N _ => by rw [picked_ap hi]; exact h h' t' k F N) hs ht
theorem add_by {b c : Array UInt8} {t u : Tok} (hz : b.size + c.size ≤ 16777216) (h : ∀ t' k, Q (.bytes (b ++ c) t') { s with toks := k }) : wpAny (model prog w) A (binaryOp .Add (.bytes b t) (.bytes c u)) Q E s := KBy.add_bytes hz h
end
end
section
open PySem PySem.W PySem.Calls PyProof.Rows PySem.Spec
section
variable {prog : Program} {w : World} {A : Around} {E : Value → Shared → Prop} {s : Shared} {env : Env} {h₀ : Heap} {L : Addr} {test : PySem.Expr} {body orelse : List Stmt} {Q : Flow → Shared → Prop} {J : Nat → (Str → Option Value) → Led → Prop}
noncomputable def WJEnd (h₀ : Heap) (L : Addr) (J : Nat → (Str → Option Value) → Led → Prop) (i : Nat) (s s₃ : Shared) : Prop :=
  ∃ i' h tk m nd all, i' < i ∧ s₃ = { s with heap := h, toks := tk } ∧ Fr h₀ L h m ∧ News h₀ L h all ∧ (∀ p ∈ nd, p ∈ all) ∧ J i' m nd
noncomputable def WJPost (h₀ : Heap) (L : Addr) (J : Nat → (Str → Option Value) → Led → Prop) (i : Nat) (s : Shared) (Q : Flow → Shared → Prop) (f : Flow) (s₃ : Shared) : Prop :=
  match f with
  | .ret v => Q (.ret v) s₃
  | .brk => Q .next s₃
  | _ => WJEnd h₀ L J i s s₃
theorem WJEnd.intro {i i' : Nat} {h : Heap} {tk : Nat} {m : Str → Option Value} {all : Led} (F : Fr h₀ L h m) (N : News h₀ L h all) (nd : Led) (hi : i' < i) (hs : ∀ p ∈ nd, p ∈ all) (hj : J i' m nd) : WJEnd h₀ L J i s { s with heap := h, toks := tk } :=
  ⟨i', h, tk, m, nd, all, hi, rfl, F, N, hs, hj⟩
theorem while_rest (hE : PassesOwn (model prog w) A env E)
    (turn : ∀ i m nd h tk, J i m nd → Fr h₀ L h m → News h₀ L h nd →
      wpAny (model prog w) A (isTrue test env (eval test env)) (fun b s₂ => WhlIf b (wpAny (model prog w) A (execs body env) (WJPost h₀ L J i s Q) E s₂) (wpAny (model prog w) A (execs orelse env) Q E s₂)) E { s with heap := h, toks := tk }) :
    ∀ i m nd h tk, J i m nd → Fr h₀ L h m → News h₀ L h nd → WhlRest prog w A E env test body orelse Q (i + 1) { s with heap := h, toks := tk } := by
  intro i
  induction i using Nat.strongRecOn with
  | ind i ih =>
    intro m nd h tk hj F N
    refine whl_turn hE (wpAny_mono (turn i m nd h tk hj F N) (fun b s₂ h₂ => ?_) fun _ _ e => e)
    cases b with
    | false =>
      refine WhlIf.no rfl ?_
      unfold WhlIf at h₂
      rw [if_neg Bool.false_ne_true] at h₂
      exact h₂
    | true =>
      refine WhlIf.yes rfl ?_
      unfold WhlIf at h₂
      rw [if_pos rfl] at h₂
      refine wpAny_mono h₂ (fun f s₃ h₃ => ?_) fun _ _ e => e
      have fin : WJEnd h₀ L J i s s₃ → WhlRest prog w A E env test body orelse Q i s₃ := by
        rintro ⟨i', h', tk', m', nd', all, hlt, e, F', N', hs, hj'⟩
        rw [e]
        exact ih i' hlt m' nd' h' tk' hj' F' fun p hp => N' p (hs p hp)
      cases f with
      | next => exact fin h₃
      | cont => exact fin h₃
      | brk => exact h₃
      | ret v => exact h₃
theorem while_J {pos : Pos} {i : Nat} {m : Str → Option Value} {news : Led} (nd : Led) (J : Nat → (Str → Option Value) → Led → Prop) (hE : PassesOwn (model prog w) A env E) (F : Fr h₀ L s.heap m) (N : News h₀ L s.heap news) (hs : ∀ p ∈ nd, p ∈ news) (hj : J i m nd)
    (turn : ∀ i m nd h tk, J i m nd → Fr h₀ L h m → News h₀ L h nd →
      wpAny (model prog w) A (isTrue test env (eval test env)) (fun b s₂ => WhlIf b (wpAny (model prog w) A (execs body env) (WJPost h₀ L J i s Q) E s₂) (wpAny (model prog w) A (execs orelse env) Q E s₂)) E { s with heap := h, toks := tk }) :
    wpAny (model prog w) A (exec (.While test body orelse pos) env) Q E s :=
  whl_start (i + 1) (while_rest hE turn i m nd s.heap s.toks hj F fun p hp => N p (hs p hp))
end
/-- a conditional expression of two floats, told as one value -/
theorem ifexp_join {prog : Program} {w : World} {A : Around} {E : Value → Shared → Prop} {s : Shared} {env : Env} {test body orelse : PySem.Expr} {pos : Pos} {Q : Value → Shared → Prop} {x y : UInt64} {c : Prop} {dc : Decidable c}
    (ht : wpAny (model prog w) A (isTrue test env (eval test env)) (fun b s₁ => ∃ k, b = @decide c dc ∧ s₁ = { s with toks := k }) E s)
    (hb : ∀ k, wpAny (model prog w) A (eval body env) (fun v s₂ => ∃ t k', v = .float x t ∧ s₂ = { s with toks := k' }) E { s with toks := k })
    (he : ∀ k, wpAny (model prog w) A (eval orelse env) (fun v s₂ => ∃ t k', v = .float y t ∧ s₂ = { s with toks := k' }) E { s with toks := k })
    (h : ∀ t k, Q (.float (@ite _ c dc x y) t) { s with toks := k }) : wpAny (model prog w) A (eval (.IfExp test body orelse pos) env) Q E s := by
  refine IfExp_ (wpAny_mono ht (fun b s₁ q => ?_) fun _ _ e => e)
  obtain ⟨k, rfl, rfl⟩ := q
  by_cases hc : c
  · rw [if_pos (decide_eq_true hc)]
    refine wpAny_mono (hb k) (fun v s₂ q => ?_) fun _ _ e => e
    obtain ⟨t, k', rfl, rfl⟩ := q
    have := h t k'
    rw [if_pos hc] at this
    exact this
  · rw [if_neg (by rw [decide_eq_false hc]; decide)]
    refine wpAny_mono (he k) (fun v s₂ q => ?_) fun _ _ e => e
    obtain ⟨t, k', rfl, rfl⟩ := q
    have := h t k'
    rw [if_neg hc] at this
    exact this
structure PSt where
  turn : Int
  sign : Int
  lamp : UInt64
  x : UInt64
  y : UInt64
  z : UInt64
noncomputable def numF (x y z : UInt64) : UInt64 := Float64.add (Float64.mul (hF x y z) 4613937818241073152) 4602678819172646912
noncomputable def labF (x y z : UInt64) : Int := Int.fmod (Flt.toInt Float64.truncOf (numF x y z)) 3
noncomputable def pegF (s : PSt) : Int := Int.fmod (s.sign * (labF s.x s.y s.z - s.turn)) 3
noncomputable def pnext (s : PSt) : PSt :=
  { turn := s.turn + 2 * s.sign * pegF s, sign := -s.sign, lamp := Float64.div s.lamp (Float64.ofInt 2),
    x := if labF s.x s.y s.z = 0 then Float64.sub s.x s.lamp else s.x, y := if labF s.x s.y s.z = 1 then Float64.sub s.y s.lamp else s.y, z := if labF s.x s.y s.z = 2 then Float64.sub s.z s.lamp else s.z }
noncomputable def pst0 (x y z : UInt64) : PSt := ⟨0, 1, 4602678819172646912, x, y, z⟩
noncomputable def pdec : Nat → PSt → List Int
  | 0, _ => []
  | n + 1, s => pegF s :: pdec n (pnext s)
noncomputable def pok1 (x y z : UInt64) : Bool := rgbOk x y z && Float64.isFinite (numF x y z) && decide (-1000 ≤ Flt.toInt Float64.truncOf (numF x y z) ∧ Flt.toInt Float64.truncOf (numF x y z) ≤ 1000)
noncomputable def pokn : Nat → PSt → Bool
  | 0, _ => true
  | n + 1, s => pok1 s.x s.y s.z && decide (-1000 ≤ s.turn ∧ s.turn ≤ 1000) && pokn n (pnext s)
theorem pokn_parts {n : Nat} {s : PSt} (h : pokn (n + 1) s = true) : rgbOk s.x s.y s.z = true ∧ Float64.isFinite (numF s.x s.y s.z) = true ∧ (-1000 ≤ Flt.toInt Float64.truncOf (numF s.x s.y s.z) ∧ Flt.toInt Float64.truncOf (numF s.x s.y s.z) ≤ 1000) ∧ (-1000 ≤ s.turn ∧ s.turn ≤ 1000) ∧ pokn n (pnext s) = true := by
  rw [pokn, pok1] at h
  simp only [Bool.and_eq_true, decide_eq_true_eq] at h
  exact ⟨h.1.1.1.1, h.1.1.1.2, h.1.1.2, h.1.2, h.2⟩
noncomputable abbrev fl3 (x y z : UInt64) (a b c : Tok) (n : Nat) : Obj := listOf #[.float x a, .float y b, .float z c] n
/-- what holds ahead of a turn of _law_pegs' loop, i turns being left -/
noncomputable def JP (L : Addr) (l : Addr) (lo : Obj) (R : List Int) (i : Nat) (m : Str → Option Value) (nd : Led) : Prop :=
  ∃ (st : PSt) (ps : List Int) (vs : List Value) (D P : Addr) (k n : Nat) (t1 t2 t3 t4 t5 t6 : Tok) (o1 o2 o3 : Obj),
    m (S "turn") = some (.int st.turn t1) ∧ m (S "sign") = some (.int st.sign t2) ∧ m (S "pegs") = some (.ref P) ∧
    (-1 ≤ st.sign ∧ st.sign ≤ 1) ∧ pokn i st = true ∧ ps ++ pdec i st = R ∧ IntsAre vs ps ∧ vs.length + i = 4 ∧
    nd = [(L + 1 + 1 + 1, o1), (L + 1 + 1, o2), (L + 1, o3), (D, fl3 st.x st.y st.z t3 t4 t5 n), (P, listOf vs.toArray k), (l, lo)] ∧ @LT.lt Nat _ l L ∧
    LCg.Off1 D [(L + 1 + 1 + 1, o1), (L + 1 + 1, o2), (L + 1, o3), (P, listOf vs.toArray k)] ∧ @LT.lt Nat _ (L + 1 + 1 + 1) P ∧
    (∃ v, o1.data = .cell v) ∧ o2.data = .cell (some (.float st.lamp t6)) ∧ o3.data = .cell (some (.ref D))
theorem JP.next {L l : Addr} {lo : Obj} {R : List Int} {i : Nat} {m : Str → Option Value} {st : PSt} {ps : List Int} {vs : List Value} {D P : Addr} {k n : Nat} {t1 t2 t3 t4 t5 t6 u : Tok} {o1 o2 o3 : Obj} {x' y' z' : UInt64}
    (h1 : m (S "turn") = some (.int (st.turn + 2 * st.sign * pegF st) t1)) (h2 : m (S "sign") = some (.int (-st.sign) t2)) (h3 : m (S "pegs") = some (.ref P))
    (hb : -1 ≤ st.sign ∧ st.sign ≤ 1) (hok : Flt.Hid (pokn i (pnext st) = true)) (hR : Flt.Hid (ps ++ pdec (i + 1) st = R)) (hi : IntsAre vs ps) (hl : vs.length + (i + 1) = 4)
    (hx : x' = (pnext st).x) (hy : y' = (pnext st).y) (hz : z' = (pnext st).z) (hlL : @LT.lt Nat _ l L)
    (hD : LCg.Off1 D [(L + 1 + 1 + 1, o1), (L + 1 + 1, o2), (L + 1, o3), (P, listOf (vs.toArray.push (.int (pegF st) u)) k)]) (hP : @LT.lt Nat _ (L + 1 + 1 + 1) P)
    (hv1 : ∃ v, o1.data = .cell v) (hv2 : o2.data = .cell (some (.float (Float64.div st.lamp (Float64.ofInt 2)) t6))) (hv3 : o3.data = .cell (some (.ref D))) :
    JP L l lo R i m [(L + 1 + 1 + 1, o1), (L + 1 + 1, o2), (L + 1, o3), (D, fl3 x' y' z' t3 t4 t5 n), (P, listOf (vs.toArray.push (.int (pegF st) u)) k), (l, lo)] := by
  subst hx hy hz
  have ha : vs.toArray.push (Value.int (pegF st) u) = (vs ++ [Value.int (pegF st) u]).toArray := List.push_toArray _ _
  rw [ha] at hD ⊢
  refine ⟨pnext st, ps ++ [pegF st], vs ++ [Value.int (pegF st) u], D, P, k, n, t1, t2, t3, t4, t5, t6, o1, o2, o3, h1, h2, h3, ⟨by show -1 ≤ -st.sign; omega, by show -st.sign ≤ 1; omega⟩, hok.out, ?_, ?_, ?_, rfl, hlL, hD, hP, hv1, hv2, hv3⟩
  · have e := hR.out
    rw [pdec] at e
    rw [List.append_assoc]
    exact e
  · exact IntsAre.append hi (.cons _ _ .nil)
  · rw [List.length_append]
    show vs.length + 1 + i = 4
    omega
theorem pif0 {l : Int} {a b : UInt64} : (if (0 : Int) + ((0 : Nat) : Int) = l then a else b) = if l = 0 then a else b := ite_congr (propext ⟨fun h => h.symm, fun h => h.symm⟩) (fun _ => rfl) (fun _ => rfl)
theorem pif1 {l : Int} {a b : UInt64} : (if (0 : Int) + ((0 + 1 : Nat) : Int) = l then a else b) = if l = 1 then a else b := ite_congr (propext ⟨fun h => h.symm, fun h => h.symm⟩) (fun _ => rfl) (fun _ => rfl)
theorem pif2 {l : Int} {a b : UInt64} : (if (0 : Int) + ((0 + 1 + 1 : Nat) : Int) = l then a else b) = if l = 2 then a else b := ite_congr (propext ⟨fun h => h.symm, fun h => h.symm⟩) (fun _ => rfl) (fun _ => rfl)
theorem lab0 {x y z : UInt64} (h : (0 : Int) + ((0 : Nat) : Int) = labF x y z) : labF x y z = 0 := h.symm
theorem lab1 {x y z : UInt64} (h : (0 : Int) + ((0 + 1 : Nat) : Int) = labF x y z) : labF x y z = 1 := h.symm
theorem lab2 {x y z : UInt64} (h : (0 : Int) + ((0 + 1 + 1 : Nat) : Int) = labF x y z) : labF x y z = 2 := h.symm
theorem nlab0 {x y z : UInt64} (h : (0 : Int) + ((0 : Nat) : Int) ≠ labF x y z) : ¬labF x y z = 0 := fun e => h e.symm
theorem nlab1 {x y z : UInt64} (h : (0 : Int) + ((0 + 1 : Nat) : Int) ≠ labF x y z) : ¬labF x y z = 1 := fun e => h e.symm
theorem nlab2 {x y z : UInt64} (h : (0 : Int) + ((0 + 1 + 1 : Nat) : Int) ≠ labF x y z) : ¬labF x y z = 2 := fun e => h e.symm
theorem lab_box (x y z : UInt64) : 0 ≤ labF x y z ∧ labF x y z < 3 := fmod3 _
theorem lab_no {x y z : UInt64} (a : ¬labF x y z = 0) (b : ¬labF x y z = 1) (c : ¬labF x y z = 2) : False := by
  have := lab_box x y z
  omega
/-- the letters of n, at most i of them -/
noncomputable def apL : Nat → Int → Array UInt8
  | 0, _ => #[]
  | i + 1, n => if n = 0 then #[] else apL i (Int.fdiv n 16) ++ #[apB (Int.fmod n 16)]
theorem apL_zero (i : Nat) : apL i 0 = #[] := by cases i <;> rfl
/-- what holds between the turns of Int2AP's loop -/
noncomputable def JA (R : Array UInt8) (i : Nat) (m : Str → Option Value) (nd : Led) : Prop :=
  ∃ (n : Int) (v : Array UInt8) (t1 t2 t3 : Tok), m (S "num") = some (.int n t1) ∧ m (S "val") = some (.bytes v t2) ∧ m (S "AP") = some (.bytes AP t3) ∧ 0 ≤ n ∧ n < 16 ^ i ∧ v.size + i ≤ 4 ∧ apL i n ++ v = R ∧ nd = []
theorem JA.next {R : Array UInt8} {i : Nat} {m : Str → Option Value} {n : Int} {v : Array UInt8} {t1 t2 t3 : Tok} (hz : n ≠ 0) (hn : 0 ≤ n) (hlt : n < 16 ^ (i + 1)) (hsz : v.size + (i + 1) ≤ 4) (hap : apL (i + 1) n ++ v = R)
    (m1 : m (S "num") = some (.int (Int.fdiv n 16) t1)) (m2 : m (S "val") = some (.bytes (#[apB (Int.fmod n 16)] ++ v) t2)) (m3 : m (S "AP") = some (.bytes AP t3)) : JA R i m [] := by
  have hq : Int.fdiv n 16 = n / 16 := Int.fdiv_eq_ediv_of_nonneg _ (by decide)
  refine ⟨_, _, t1, t2, t3, m1, m2, m3, by rw [hq]; omega, ?_, ?_, ?_, rfl⟩
  · rw [hq]
    rw [Int.pow_succ] at hlt
    omega
  · rw [Array.size_append]
    show 1 + v.size + i ≤ 4
    omega
  · rw [apL, if_neg hz, Array.append_assoc] at hap
    exact hap
theorem ja_zero {R v : Array UInt8} {i : Nat} {n : Int} (hap : apL i n ++ v = R) (hz : n = 0) : v = R := by
  rw [hz, apL_zero, Array.empty_append] at hap
  exact hap
theorem ja_pos {i : Nat} {n : Int} (hlt : n < 16 ^ i) (hn : 0 ≤ n) (hz : n ≠ 0) : ∃ j, i = j + 1 := by
  cases i with
  | zero => exact absurd (by have : n < 1 := hlt; omega) hz
  | succ j => exact ⟨j, rfl⟩
theorem ap4 {a b c : Int} (ha : 0 ≤ a ∧ a ≤ 15) (hb : 0 ≤ b ∧ b ≤ 15) (hc : 0 ≤ c ∧ c ≤ 15) : apL 4 (4096 + 256 * a + 16 * b + c) = #[66, apB a, apB b, apB c] := by
  have fd : ∀ n : Int, Int.fdiv n 16 = n / 16 := fun n => Int.fdiv_eq_ediv_of_nonneg _ (by decide)
  have fm : ∀ n : Int, Int.fmod n 16 = n % 16 := fun n => Int.fmod_eq_emod_of_nonneg _ (by decide)
  simp only [apL, fd, fm]
  rw [if_neg (by omega), if_neg (by omega), if_neg (by omega), if_neg (by omega)]
  rw [show (4096 + 256 * a + 16 * b + c) / 16 / 16 / 16 % 16 = 1 by omega, show (4096 + 256 * a + 16 * b + c) / 16 / 16 % 16 = a by omega, show (4096 + 256 * a + 16 * b + c) / 16 % 16 = b by omega, show (4096 + 256 * a + 16 * b + c) % 16 = c by omega, show apB 1 = 66 by decide]
  rfl
end
section
open PySem PySem.W PySem.Calls PyProof.Rows PySem.Spec
noncomputable def chS (p : Int) : Str := Txt.item (S "xyz") p
noncomputable def F4 (a b c d : Int) : Str := Txt.join (S "") [chS a, chS b, chS c, chS d]
noncomputable abbrev Bx (p : Int) : Prop := 0 ≤ p ∧ p ≤ 2
theorem bx_mem {p : Int} (h : Bx p) : p ∈ ([0, 1, 2] : List Int) := by
  obtain ⟨n, rfl⟩ := Int.eq_ofNat_of_zero_le h.1
  exact (by decide : ∀ n : Nat, n < 3 → (n : Int) ∈ ([0, 1, 2] : List Int)) n (by have := h.2; omega)
theorem len_ch {p : Int} (h : Bx p) : (chS p).length = 1 := (by decide +kernel : ∀ p ∈ ([0, 1, 2] : List Int), (chS p).length = 1) p (bx_mem h)
theorem len_F4 {a b c d : Int} (ha : Bx a) (hb : Bx b) (hc : Bx c) (hd : Bx d) : (F4 a b c d).length = 4 :=
  (by decide +kernel : ∀ a ∈ ([0, 1, 2] : List Int), ∀ b ∈ ([0, 1, 2] : List Int), ∀ c ∈ ([0, 1, 2] : List Int), ∀ d ∈ ([0, 1, 2] : List Int), (F4 a b c d).length = 4) a (bx_mem ha) b (bx_mem hb) c (bx_mem hc) d (bx_mem hd)
section
variable {prog : Program} {w : World} {A : Around} {E : Value → Shared → Prop} {s : Shared} {h₀ : Heap} {L : Addr} {m : Str → Option Value} {news : Led} {Q : Value → Shared → Prop} {value slice : PySem.Expr} {t u : Tok}
theorem xyz_item {p : Int} (hp : Bx p) (h : ∀ t' k, Q (.str (chS p) t') { s with toks := k })
    (hs : subscripted slice false (.str (S "xyz") t) (.int p u) = operate [.str (S "xyz") t, .int p u] (getItem (.str (S "xyz") t) (.int p u)) := by with_unfolding_all rfl)
    (ht : ∀ r, letTemporaryGo value (.str (S "xyz") t) r = pure () := by intro _; with_unfolding_all rfl) : wpAny (model prog w) A (subscriptTail value slice (.str (S "xyz") t) (.int p u)) Q E s :=
  item_str ((by decide +kernel : ∀ p ∈ ([0, 1, 2] : List Int), fitsSsize p = true) p (bx_mem hp)) (by have : (S "xyz").length = 3 := by decide +kernel
                                                                                                      rw [this]; omega) (by have : (S "xyz").length = 3 := by decide +kernel
                                                                                                                            rw [this]; omega) (fun _ => h _ _) hs ht
theorem join_4 {D : Addr} {a b c d : Int} {t1 t2 t3 t4 : Tok} {n : Nat} (N : News h₀ L s.heap news) (hm : (D, listOf #[.str (chS a) t1, .str (chS b) t2, .str (chS c) t3, .str (chS d) t4] n) ∈ news) (ha : Bx a) (hb : Bx b) (hc : Bx c) (hd : Bx d)
    (h : ∀ t' k, Q (.str (F4 a b c d) t') { s with toks := k }) : wpAny (model prog w) A (call (.builtin "str.join") [.str (S "") t, .ref D]) Q E s :=
  join_listW (ys := [chS a, chS b, chS c, chS d]) (News.isList N hm) (.cons _ _ (.cons _ _ (.cons _ _ (.cons _ _ .nil)))) (by decide +kernel) (by simp only [List.map_cons, List.map_nil, List.sum_cons, List.sum_nil, List.length_cons, List.length_nil, len_ch ha, len_ch hb, len_ch hc, len_ch hd]; decide) h
end
noncomputable def takenF (p0 p1 p2 p3 q0 q1 q2 q3 : Int) : Bool :=
  if p0 = q0 then
    if p1 = q1 then
      if p2 = q2 then
        if p3 = q3 then false else true
      else if p3 = q3 then p3 == 3 - p2 - q2 else false
    else if p2 = q2 then if p3 = q3 then p2 == 3 - p1 - q1 && p3 == 3 - p1 - q1 else false else false
  else if p1 = q1 then if p2 = q2 then if p3 = q3 then p1 == 3 - p0 - q0 && (p2 == 3 - p0 - q0 && p3 == 3 - p0 - q0) else false else false else false
end
section
open PySem PySem.W PySem.Calls PyProof.Rows
theorem v_call (w : World) (s00 : Heap) (mg mb : Str → Option Value) (a b c : UInt64) (ta tb tc : Tok) (ha : ta ≠ 0) (hb : tb ≠ 0) :
   PCvn 2 w s00 mg mb 21 [] [.float a ta, .float b tb, .float c tc] (fun t => .float (vF a b c) t) := by
  dsimp only [PCvn]
  intros
  rename_i hret
  refine wpAny_call ?_
  k_dflt (refine' code_defG ?k1 ?k2 ?k3 ?k4 ?k5 ?kA ?kF ?kK ?k6 ?k7 ?k8 ?k9 ?kB ?_ ?c2 ?c3 ?c4 ?c5; (case kA => exact rfl); (case kF => exact rfl); (case kK => assumption); (case k1 => k_asm); (case k2 => k_asm); (case k3 => k_asm); (case k4 => k_asm); (case k5 => k_asm); (case k6 => k_is); (case k7 => k_is); (case k8 => ktr_room); (case k9 => exact BindsTo.of_eq rfl); (case c5 => decide); (case kB => exact locs rfl); (case c2 => exact rfl); (case c3 => exact rfl); (case c4 => exact rfl); k_whole; intro g' L' h' FG' F' N' B' X' T' kG'; (try dsimp only); (try k_lift B'); (try k_fold))
  k_steps
  all_goals (refine finFn hret ?_ ?_ ?_)
  all_goals first | assumption | exact Nat.succ_ne_zero _ | (refine elt_after (InElt.start _) (by assumption) (by assumption) (by assumption) (by assumption) ?_; exact List.forall_mem_nil _) | (unfold vF; simp [*]; done)
end
section
open PySem PySem.W PySem.Calls PyProof.Rows
structure LSt where
  turn : Int
  sign : Int
  lamp : UInt64
  x : UInt64
  y : UInt64
  z : UInt64
noncomputable def hueF (label k : Int) : UInt64 := Float64.div (Float64.ofInt (Int.fmod (label - k + 1) 3)) 4613937818241073152
noncomputable def lstep (s : LSt) (peg : Int) : LSt :=
  { turn := s.turn + 2 * s.sign * peg, sign := -s.sign, lamp := Float64.div s.lamp (Float64.ofInt 2),
    x := vF s.x (Float64.add s.x s.lamp) (hueF (Int.fmod (s.turn + s.sign * peg) 3) 0),
    y := vF s.y (Float64.add s.y s.lamp) (hueF (Int.fmod (s.turn + s.sign * peg) 3) 1),
    z := vF s.z (Float64.add s.z s.lamp) (hueF (Int.fmod (s.turn + s.sign * peg) 3) 2) }
noncomputable def lst0 : LSt := ⟨0, 1, 4602678819172646912, 0, 0, 0⟩
/-- what holds between the turns of _law_lights' loop -/
noncomputable def JL (L l : Addr) (lo : Obj) (st : LSt) (m : Str → Option Value) (nd : Led) : Prop :=
  ∃ (D : Addr) (n : Nat) (t1 t2 t3 t4 t5 t6 : Tok) (o1 o2 o3 : Obj),
    m (S "turn") = some (.int st.turn t1) ∧ m (S "sign") = some (.int st.sign t2) ∧ m (S "pegs") = some (.ref l) ∧ t3 ≠ 0 ∧ t4 ≠ 0 ∧ t5 ≠ 0 ∧
    (-1 ≤ st.sign ∧ st.sign ≤ 1) ∧ @LT.lt Nat _ l L ∧ LCg.Off1 D [(L + 1 + 1 + 1, o1), (L + 1 + 1, o2), (L + 1, o3), (l, lo)] ∧ nd = [(L + 1 + 1 + 1, o1), (L + 1 + 1, o2), (L + 1, o3), (D, listOf #[.float st.x t3, .float st.y t4, .float st.z t5] n), (l, lo)] ∧
    (∃ v, o1.data = .cell v) ∧ o2.data = .cell (some (.float st.lamp t6)) ∧ o3.data = .cell (some (.ref D))
theorem lights_call (w : World) (s00 : Heap) (mg mb : Str → Option Value) (p q r s : Int) (a b c d : Tok) (n : Nat) (l : Addr) (hp : ∀ x ∈ [p, q, r, s], 0 ≤ x ∧ x ≤ 2) :
   PCop 4 w s00 mg mb 54 [(l, ints4 p q r s a b c d n)] [.ref l] (fun o => ∃ t0 t1 t2 n, t0 ≠ 0 ∧ t1 ≠ 0 ∧ t2 ≠ 0 ∧ o = listOf #[.float ([p, q, r, s].foldl lstep lst0).x t0, .float ([p, q, r, s].foldl lstep lst0).y t1, .float ([p, q, r, s].foldl lstep lst0).z t2] n) := by
  k_with_none
  k_with "ne" => (first | exact off1_mem (by with_reducible assumption) (_, _) (by k_mem) | exact Ne.symm (off1_mem (by with_reducible assumption) (_, _) (by k_mem)) | with_reducible exact nd1 _ | with_reducible exact nd2 _ | with_reducible exact nd3 _ | with_reducible exact nd4 _ | with_reducible exact nd5 _ | with_reducible exact nd1' _ | with_reducible exact nd2' _ | with_reducible exact nd3' _ | with_reducible exact nd4' _ | with_reducible exact nd5' _ | (refine Nat.ne_of_lt ?_; with_reducible walk_at "lt") | (refine Nat.ne_of_gt ?_; with_reducible walk_at "lt"))
  k_with "lt" => (first | assumption | exact And.left (by assumption) | exact And.left (And.right (by assumption)) | exact And.right (by assumption) | exact And.left (And.right (And.right (by assumption))) | exact And.right (And.right (by assumption)) | exact And.left (And.right (And.right (And.right (by assumption)))) | exact And.right (And.right (And.right (by assumption))) | exact And.left (And.right (And.right (And.right (And.right (by assumption))))) | exact And.right (And.right (And.right (And.right (by assumption)))) | exact And.left (And.right (And.right (And.right (And.right (And.right (by assumption)))))) | exact And.right (And.right (And.right (And.right (And.right (by assumption))))) | exact And.left (And.right (And.right (And.right (And.right (And.right (And.right (by assumption))))))) | exact And.right (And.right (And.right (And.right (And.right (And.right (by assumption)))))) | exact And.left (And.right (And.right (And.right (And.right (And.right (And.right (And.right (by assumption)))))))) | exact And.right (And.right (And.right (And.right (And.right (And.right (And.right (by assumption))))))) | exact And.left (And.right (And.right (And.right (And.right (And.right (And.right (And.right (And.right (by assumption))))))))) | exact And.right (And.right (And.right (And.right (And.right (And.right (And.right (And.right (by assumption)))))))) | exact And.left (And.right (And.right (And.right (And.right (And.right (And.right (And.right (And.right (And.right (by assumption)))))))))) | exact And.right (And.right (And.right (And.right (And.right (And.right (And.right (And.right (And.right (by assumption))))))))) | exact And.left (And.right (And.right (And.right (And.right (And.right (And.right (And.right (And.right (And.right (And.right (by assumption))))))))))) | exact And.right (And.right (And.right (And.right (And.right (And.right (And.right (And.right (And.right (And.right (by assumption)))))))))))
  k_with "xsteps" => (repeat' (first | (k_unfold; (try dsimp only)) | ((with_reducible show wpAny _ _ (exec _ _) _ _ _); k_fold) | walk1 | (dsimp only; walk1) | (leave1; try dsimp only) | fail "no step"))
  k_with "eval Name" => ((k_here; (with_reducible show wpAny _ _ (eval (Expr.Name _ _) (compEnvC _ _ _ _)) _ _ _); k_dflt (first | (refine' LCgL.ld_own ?N ?m ?C ?x ?_ ?k ?l ?d; (case l => rfl); (case k => rfl); (case d => decide); (case N => k_asm); (case m => k_mem); (case C => assumption); (case x => assumption); k_whole) | (refine' lcf_free ?N ?c ?m ?d ?_ ?a ?b; (case b => rfl); (case a => rfl); (case N => k_asm); (case c => rfl); (case m => k_mem); (case d => k_asm); k_whole) | (refine' LCgL.ld_global ?F ?X ?T ?e ?_ ?g ?k ?x ?d; (case x => rfl); (case F => k_asm); (case X => k_asm); (case T => k_asm); (case e => k_is); (case g => rfl); (case k => rfl); (case d => decide); k_whole))))
  k_with "subscriptTail Name Name ref int" => ((k_here; (with_reducible show wpAny _ _ (subscriptTail _ _ (Value.ref _) (Value.int _ _)) _ _ _); k_dflt (refine' item_N ?N ?m ?h0 ?h1 ?hx ?_; (case N => k_asm); (case m => k_mem); (case h0 => decide); (case h1 => decide); (case hx => rfl); k_whole)))
  k_with "subscriptTail Name Constant ref int" => ((k_here; (with_reducible show wpAny _ _ (subscriptTail _ _ (Value.ref _) (Value.int _ _)) _ _ _); k_dflt (refine' item_N ?N ?m ?h0 ?h1 ?hx ?_; (case N => k_asm); (case m => k_mem); (case h0 => decide); (case h1 => decide); (case hx => rfl); k_whole)))
  k_with "CompSrc" => ((k_here; k_dflt (first | (refine LCg.CompSrc.ledger (by rfl) (by k_asm) (by k_asm) (by k_mem) (by first | size_fits | exact Nat.le_of_ble_eq_true rfl) ?_; intro g'; lcg_lit) | (refine LCg.CompSrc.range (by rfl) (by k_asm) (by k_asm) (by assumption) (by first | decide | rfl) (by first | rfl | decide) (by first | size_fits | exact Nat.le_of_ble_eq_true rfl) ?_; intro g'; lcg_lit))))
  k_with "CompRest" => ((with_unfolding_all first | (refine LCg.CompRest.succ ?_; intro v' I' oI' C' oC' D' m' h' tk' E' hv' hC' hx' F' N' off' ne'; clear ne'; (first | lcg_open hv' | (obtain ⟨t9', hv9'⟩ := hv'; subst hv9')); (try dsimp only); (try k_fold)) | refine LCg.CompRest.zero ?_))
  k_with "CompEnd" => ((refine LCg.CompEnd.intro (by assumption) (by assumption) _ (fun _ hp => hp) (by assumption) (by lcg_src) ?_))
  k_with "FinE" => (((unfold LCg.FinE); intro D' h' tk' F' N' o1'; (try simp only [List.nil_append, List.cons_append] at N'); (try dsimp only)))
  k_with "FinA" => (((unfold LCg.FinA); intro D' h' tk' F' N' o1'; (try simp only [List.nil_append, List.cons_append] at N'); (try dsimp only)))
  k_with "tok ne" => (first | assumption | exact Nat.succ_ne_zero _ | exact tok_ne (by assumption))
  k_with "SrcP" => ((k_here; k_dflt (refine SrcP.range (n := 3) (by rfl) (by k_asm) (by k_asm) (by assumption) (by first | decide | rfl) (by first | rfl | decide) (by first | size_fits | exact Nat.le_of_ble_eq_true rfl) ?_; intro g')))
  k_with "TurnsP" => ((with_unfolding_all first | (refine TurnsP.succ ?_; intro t9' I' oI' C' oC' D' m' h' tk' E' hp9' hC' hx' F' N' off' ne'; clear ne'; (try dsimp only); (try k_fold)) | refine TurnsP.zero ?_))
  k_with "eval ListComp" => ((k_here; k_dflt (refine ListComp_P (F₀ := by k_asm) (by rfl) (by decide) (by rfl) (by decide) (by rfl) ?_)))
  k_with "call ref" => ((k_here; (with_reducible show wpAny _ _ (call (Value.ref 21) _) _ _ _); k_dflt (refine' usevn (v_call _ _ _ _ _ _ _ _ _ _ ?ha ?hb) ?k1 ?k2 ?k3 ?k4 ?k5 ?k6 ?k7 ?k8 ?k9 ?_; (case ha => walk_at "tok ne"); (case hb => walk_at "tok ne"); (case k1 => k_asm); (case k2 => k_asm); (case k3 => k_asm); (case k4 => k_asm); (case k5 => k_asm); (case k6 => first | exact rfl | assumption); (case k7 => ktr_room); (case k8 => ktr_units); (case k9 => exact List.forall_mem_nil _); k_whole; intro t9 h9 tk9 nt9 F9 N9; (try dsimp only); (try k_fold); walk_say "CONTRACT _v")))
  k_with "binaryOp Div int float" => ((k_here; with_plain (refine div_if3 rfl isZero3 ?_); try dsimp only))
  dsimp only [PCop]
  intro dp un gd cn cs a0 ccd cl outer A₀ base h₀ L0 m0 s0 Q0 E0 hpos
  intros
  rename_i hret
  refine wpAny_call ?_
  k_dflt (refine' code_defCGp hpos ?k1 ?k2 ?k3 ?k4 ?k5 ?kA ?kF ?kK ?k6 ?k7 ?k8 ?k9 ?kB ?kD ?_ ?c2 ?c3 ?c4; (case kA => exact rfl); (case kF => exact rfl); (case kK => assumption); (case k1 => k_asm); (case k2 => k_asm); (case k3 => k_asm); (case k4 => k_asm); (case k5 => k_asm); (case k6 => k_is); (case k7 => k_is); (case k8 => ktr_room); (case k9 => exact BindsTo.of_eq rfl); (case kB => exact rfl); (case kD => decide +kernel); (case c2 => exact rfl); (case c3 => exact rfl); (case c4 => exact rfl); k_whole; intro g' L' h' tk' cells' hp' FG' F' N' Y' B' X' T' l1 kG'; (try k_lt l1); k_cells Y'; (try simp only [List.cons_append, List.nil_append] at N'); (try dsimp only); (try k_lift B'); (try k_fold))
  replace F' : Fr g' L' h' (fun y => if y = S "pegs" then some (.ref l) else none) := by with_unfolding_all exact F'
  k_with "exec For Name Name cons nil" => (k_dflt ((rename Fr _ _ _ _ => lF'); refine' For_invVF lF' (by exact rfl) (by exact rfl) ?_))
  k_with "pyIter ref" => (refine Hold.out ?_)
  walk_at "xsteps"
  refine Hold.mk ?_
  k_dflt (refine' iter_fold (lo := ints4 p q r s a b c d n) lstep lst0 [(L' + 1 + 1 + 1, _), (L' + 1 + 1, _), (L' + 1, _), (_, listOf _ _), (l, ints4 p q r s a b c d n)] (JL L' l (ints4 p q r s a b c d n)) ?kh ?kF ?kN ?hs ?hc ?hd ?hi ?hj ?hax ?turn ?done)
  (case kF => assumption)
  (case kN => assumption)
  (case kh => rfl)
  (case hs => lcg_sub)
  (case hd => rfl)
  (case hc => rfl)
  (case hi => l_ints)
  (case hj => exact ⟨_, _, _, _, _, _, _, _, _, _, _, rfl, rfl, rfl, tok_ne hp', Nat.succ_ne_zero _, Nat.succ_ne_zero _, (by decide), (by omega), ⟨by k_ne, by k_ne, by k_ne, by k_ne, trivial⟩, rfl, ⟨_, by assumption⟩, by assumption, by assumption⟩)
  (case hax => (rintro _ _ _ ⟨_, _, _, _, _, _, _, _, _, _, _, _, _, _, _, _, _, _, _, _, rfl, _⟩; k_mem))
  · rintro st pe te I it m₁ nd h tk1 hpe hit hI ⟨D, n1, t1, t2, t3, t4, t5, t6, o1, o2, o3, e1, e2, e3, nt3, nt4, nt5, hb, hl, hD, rfl, ⟨v1, hv1⟩, hv2, hv3⟩ F1 N1
    rw [pin_eq e3, pin_eq e2, pin_eq e1] at F1
    dsimp only at F1
    clear e1 e2 e3
    replace hpe := hp _ hpe
    k_lt hI
    dsimp only
    (try k_unmd); (try k_fold)
    (try k_sweep)
    walk_at "xsteps"
    k_dflt (refine' TEnd.intro (by assumption) (by assumption) [(L' + 1 + 1 + 1, _), (L' + 1 + 1, _), (L' + 1, _), (_, listOf _ _), (l, ints4 p q r s a b c d n)] ?hI ?hs ?ho ?hj)
    (case hI => k_mem)
    (case hs => lcg_sub)
    (case ho => exact ⟨by k_ne, by k_ne, by k_ne, by k_ne, by k_ne, trivial⟩)
    (case hj => exact ⟨_, _, _, _, _, _, _, _, _, _, _, rfl, rfl, rfl, (by walk_at "tok ne"), (by walk_at "tok ne"), (by walk_at "tok ne"), (by show -1 ≤ -st.sign ∧ -st.sign ≤ 1; omega), (by omega), ⟨by k_ne, by k_ne, by k_ne, by k_ne, trivial⟩, rfl, ⟨_, by assumption⟩, by assumption, by assumption⟩)
    done
  · rintro m₁ nd h tk1 ⟨D, n1, t1, t2, t3, t4, t5, t6, o1, o2, o3, e1, e2, e3, nt3, nt4, nt5, hb, hl, hD, rfl, ⟨v1, hv1⟩, hv2, hv3⟩ F1 N1
    clear e1 e2 e3
    dsimp only
    (try k_unmd); (try k_fold)
    (try k_sweep)
    walk_at "xsteps"
    refine' finO hret ?e ?he ?hr ?ho
    (case ho => exact News.get (by assumption) (by k_mem))
    (case e => exact ⟨_, _, _, _, nt3, nt4, nt5, rfl⟩)
    (case he => exact elt_after (InElt.start _) (by assumption) (by assumption) (by assumption) (by assumption) (by lcg_sub))
    (case hr => exact fresh_of (by assumption) (by assumption) (by k_mem) (by simp only [List.map_cons, List.map_nil, List.mem_singleton]; k_ne))
end
section
open PySem PySem.W PySem.Calls PyProof.Rows
theorem rgb_call (w : World) (s00 : Heap) (mg mb : Str → Option Value) (r g b : UInt64) (tr tg tb : Tok) (ok : rgbOk r g b = true) :
   PCo 2 w s00 mg mb 28 [] [.float r tr, .float g tg, .float b tb] (fun o => ∃ t1 t2 t3 n, o = tup3 (hF r g b) (sF r g b) (mx r g b) t1 t2 t3 n) := by
  k_with_none
  k_with "ne" => (first | exact off1_mem (by with_reducible assumption) (_, _) (by k_mem) | exact Ne.symm (off1_mem (by with_reducible assumption) (_, _) (by k_mem)) | with_reducible exact nd1 _ | with_reducible exact nd2 _ | with_reducible exact nd3 _ | with_reducible exact nd4 _ | with_reducible exact nd5 _ | with_reducible exact nd1' _ | with_reducible exact nd2' _ | with_reducible exact nd3' _ | with_reducible exact nd4' _ | with_reducible exact nd5' _ | (refine Nat.ne_of_lt ?_; with_reducible walk_at "lt") | (refine Nat.ne_of_gt ?_; with_reducible walk_at "lt"))
  k_with "lt" => (first | assumption | exact And.left (by assumption) | exact And.left (And.right (by assumption)) | exact And.right (by assumption) | exact And.left (And.right (And.right (by assumption))) | exact And.right (And.right (by assumption)) | exact And.left (And.right (And.right (And.right (by assumption)))) | exact And.right (And.right (And.right (by assumption))) | exact And.left (And.right (And.right (And.right (And.right (by assumption))))) | exact And.right (And.right (And.right (And.right (by assumption)))) | exact And.left (And.right (And.right (And.right (And.right (And.right (by assumption)))))) | exact And.right (And.right (And.right (And.right (And.right (by assumption))))) | exact And.left (And.right (And.right (And.right (And.right (And.right (And.right (by assumption))))))) | exact And.right (And.right (And.right (And.right (And.right (And.right (by assumption)))))) | exact And.left (And.right (And.right (And.right (And.right (And.right (And.right (And.right (by assumption)))))))) | exact And.right (And.right (And.right (And.right (And.right (And.right (And.right (by assumption))))))) | exact And.left (And.right (And.right (And.right (And.right (And.right (And.right (And.right (And.right (by assumption))))))))) | exact And.right (And.right (And.right (And.right (And.right (And.right (And.right (And.right (by assumption)))))))) | exact And.left (And.right (And.right (And.right (And.right (And.right (And.right (And.right (And.right (And.right (by assumption)))))))))) | exact And.right (And.right (And.right (And.right (And.right (And.right (And.right (And.right (And.right (by assumption))))))))) | exact And.left (And.right (And.right (And.right (And.right (And.right (And.right (And.right (And.right (And.right (And.right (by assumption))))))))))) | exact And.right (And.right (And.right (And.right (And.right (And.right (And.right (And.right (And.right (And.right (by assumption)))))))))))
  k_with "xsteps" => (repeat' (first | (k_unfold; (try dsimp only)) | ((with_reducible show wpAny _ _ (exec _ _) _ _ _); k_fold) | walk1 | (dsimp only; walk1) | (leave1; try dsimp only) | fail "no step"))
  k_with "eval Name" => ((k_here; (with_reducible show wpAny _ _ (eval (Expr.Name _ _) (compEnvC _ _ _ _)) _ _ _); k_dflt (first | (refine' LCgL.ld_own ?N ?m ?C ?x ?_ ?k ?l ?d; (case l => rfl); (case k => rfl); (case d => decide); (case N => k_asm); (case m => k_mem); (case C => assumption); (case x => assumption); k_whole) | (refine' lcf_free ?N ?c ?m ?d ?_ ?a ?b; (case b => rfl); (case a => rfl); (case N => k_asm); (case c => rfl); (case m => k_mem); (case d => k_asm); k_whole) | (refine' LCgL.ld_global ?F ?X ?T ?e ?_ ?g ?k ?x ?d; (case x => rfl); (case F => k_asm); (case X => k_asm); (case T => k_asm); (case e => k_is); (case g => rfl); (case k => rfl); (case d => decide); k_whole))))
  k_with "subscriptTail Name Name ref int" => ((k_here; (with_reducible show wpAny _ _ (subscriptTail _ _ (Value.ref _) (Value.int _ _)) _ _ _); k_dflt (refine' item_N ?N ?m ?h0 ?h1 ?hx ?_; (case N => k_asm); (case m => k_mem); (case h0 => decide); (case h1 => decide); (case hx => rfl); k_whole)))
  k_with "subscriptTail Name Constant ref int" => ((k_here; (with_reducible show wpAny _ _ (subscriptTail _ _ (Value.ref _) (Value.int _ _)) _ _ _); k_dflt (refine' item_N ?N ?m ?h0 ?h1 ?hx ?_; (case N => k_asm); (case m => k_mem); (case h0 => decide); (case h1 => decide); (case hx => rfl); k_whole)))
  k_with "CompSrc" => ((k_here; k_dflt (first | (refine LCg.CompSrc.ledger (by rfl) (by k_asm) (by k_asm) (by k_mem) (by first | size_fits | exact Nat.le_of_ble_eq_true rfl) ?_; intro g'; lcg_lit) | (refine LCg.CompSrc.range (by rfl) (by k_asm) (by k_asm) (by assumption) (by first | decide | rfl) (by first | rfl | decide) (by first | size_fits | exact Nat.le_of_ble_eq_true rfl) ?_; intro g'; lcg_lit))))
  k_with "CompRest" => ((with_unfolding_all first | (refine LCg.CompRest.succ ?_; intro v' I' oI' C' oC' D' m' h' tk' E' hv' hC' hx' F' N' off' ne'; clear ne'; (first | lcg_open hv' | (obtain ⟨t9', hv9'⟩ := hv'; subst hv9')); (try dsimp only); (try k_fold)) | refine LCg.CompRest.zero ?_))
  k_with "CompEnd" => ((refine LCg.CompEnd.intro (by assumption) (by assumption) _ (fun _ hp => hp) (by assumption) (by lcg_src) ?_))
  k_with "FinE" => (((unfold LCg.FinE); intro D' h' tk' F' N' o1'; (try simp only [List.nil_append, List.cons_append] at N'); (try dsimp only)))
  k_with "FinA" => (((unfold LCg.FinA); intro D' h' tk' F' N' o1'; (try simp only [List.nil_append, List.cons_append] at N'); (try dsimp only)))
  k_with "call builtin:max" => ((k_here; (with_reducible show wpAny _ _ (call _ [Value.float _ _, Value.float _ _, Value.float _ _]) _ _ _); k_dflt (refine' max_3M rfl ?F ?N ?_; (case F => k_asm); (case N => k_asm); k_whole; intro h' tk' t' F' N'; (try k_sweep))))
  k_with "call builtin:min" => ((k_here; (with_reducible show wpAny _ _ (call _ [Value.float _ _, Value.float _ _, Value.float _ _]) _ _ _); k_dflt (refine' min_3M rfl ?F ?N ?_; (case F => k_asm); (case N => k_asm); k_whole; intro h' tk' t' F' N'; (try k_sweep))))
  k_with "binaryOp Div float float" => (k_dflt (refine' truediv_nz rfl ?z ?_; (case z => first | with_reducible exact ok2 | with_reducible exact isZero6 | exact ok3); k_whole))
  obtain ⟨ok1, ok3⟩ := Bool.and_eq_true_iff.mp ok
  obtain ⟨ok1, ok2⟩ := Bool.and_eq_true_iff.mp ok1
  rw [Bool.not_eq_true'] at ok1 ok2 ok3
  dsimp only [PCo]
  intros
  rename_i hret
  refine wpAny_call ?_
  k_dflt (refine' code_defG ?k1 ?k2 ?k3 ?k4 ?k5 ?kA ?kF ?kK ?k6 ?k7 ?k8 ?k9 ?kB ?_ ?c2 ?c3 ?c4 ?c5; (case kA => exact rfl); (case kF => exact rfl); (case kK => assumption); (case k1 => k_asm); (case k2 => k_asm); (case k3 => k_asm); (case k4 => k_asm); (case k5 => k_asm); (case k6 => k_is); (case k7 => k_is); (case k8 => ktr_room); (case k9 => exact BindsTo.of_eq rfl); (case c5 => decide); (case kB => exact locs rfl); (case c2 => exact rfl); (case c3 => exact rfl); (case c4 => exact rfl); k_whole; intro g' L' h' FG' F' N' B' X' T' kG'; (try dsimp only); (try k_lift B'); (try k_fold))
  walk_at "xsteps"
  all_goals (refine finN hret (by assumption) (by assumption) (by k_mem) (by simp) (by assumption) (by assumption) (by lcg_sub) ?_)
  all_goals (refine ⟨_, _, _, _, tup3_eq ?_ ?_ rfl⟩)
  all_goals first | (unfold hF h0F cF rng; simp only [*, if_true, if_false, Bool.false_eq_true]; done) | (unfold sF rng; rfl)
end
section
open PySem PySem.W PySem.Calls PyProof.Rows
theorem hsv_call (w : World) (s00 : Heap) (mg mb : Str → Option Value) (h s v : UInt64) (th ts tv : Tok) (ok : hsvOk h s = true) :
   PCo 2 w s00 mg mb 35 [] [.float h th, .float s ts, .float v tv] (fun o => ∃ t1 t2 t3 n, o = tup3 (hsvR h s v).x (hsvR h s v).y (hsvR h s v).z t1 t2 t3 n) := by
  k_with_none
  k_with "ne" => (first | exact off1_mem (by with_reducible assumption) (_, _) (by k_mem) | exact Ne.symm (off1_mem (by with_reducible assumption) (_, _) (by k_mem)) | with_reducible exact nd1 _ | with_reducible exact nd2 _ | with_reducible exact nd3 _ | with_reducible exact nd4 _ | with_reducible exact nd5 _ | with_reducible exact nd1' _ | with_reducible exact nd2' _ | with_reducible exact nd3' _ | with_reducible exact nd4' _ | with_reducible exact nd5' _ | (refine Nat.ne_of_lt ?_; with_reducible walk_at "lt") | (refine Nat.ne_of_gt ?_; with_reducible walk_at "lt"))
  k_with "lt" => (first | assumption | exact And.left (by assumption) | exact And.left (And.right (by assumption)) | exact And.right (by assumption) | exact And.left (And.right (And.right (by assumption))) | exact And.right (And.right (by assumption)) | exact And.left (And.right (And.right (And.right (by assumption)))) | exact And.right (And.right (And.right (by assumption))) | exact And.left (And.right (And.right (And.right (And.right (by assumption))))) | exact And.right (And.right (And.right (And.right (by assumption)))) | exact And.left (And.right (And.right (And.right (And.right (And.right (by assumption)))))) | exact And.right (And.right (And.right (And.right (And.right (by assumption))))) | exact And.left (And.right (And.right (And.right (And.right (And.right (And.right (by assumption))))))) | exact And.right (And.right (And.right (And.right (And.right (And.right (by assumption)))))) | exact And.left (And.right (And.right (And.right (And.right (And.right (And.right (And.right (by assumption)))))))) | exact And.right (And.right (And.right (And.right (And.right (And.right (And.right (by assumption))))))) | exact And.left (And.right (And.right (And.right (And.right (And.right (And.right (And.right (And.right (by assumption))))))))) | exact And.right (And.right (And.right (And.right (And.right (And.right (And.right (And.right (by assumption)))))))) | exact And.left (And.right (And.right (And.right (And.right (And.right (And.right (And.right (And.right (And.right (by assumption)))))))))) | exact And.right (And.right (And.right (And.right (And.right (And.right (And.right (And.right (And.right (by assumption))))))))) | exact And.left (And.right (And.right (And.right (And.right (And.right (And.right (And.right (And.right (And.right (And.right (by assumption))))))))))) | exact And.right (And.right (And.right (And.right (And.right (And.right (And.right (And.right (And.right (And.right (by assumption)))))))))))
  k_with "xsteps" => (repeat' (first | (k_unfold; (try dsimp only)) | ((with_reducible show wpAny _ _ (exec _ _) _ _ _); k_fold) | walk1 | (dsimp only; walk1) | (leave1; try dsimp only) | fail "no step"))
  k_with "eval Name" => ((k_here; (with_reducible show wpAny _ _ (eval (Expr.Name _ _) (compEnvC _ _ _ _)) _ _ _); k_dflt (first | (refine' LCgL.ld_own ?N ?m ?C ?x ?_ ?k ?l ?d; (case l => rfl); (case k => rfl); (case d => decide); (case N => k_asm); (case m => k_mem); (case C => assumption); (case x => assumption); k_whole) | (refine' lcf_free ?N ?c ?m ?d ?_ ?a ?b; (case b => rfl); (case a => rfl); (case N => k_asm); (case c => rfl); (case m => k_mem); (case d => k_asm); k_whole) | (refine' LCgL.ld_global ?F ?X ?T ?e ?_ ?g ?k ?x ?d; (case x => rfl); (case F => k_asm); (case X => k_asm); (case T => k_asm); (case e => k_is); (case g => rfl); (case k => rfl); (case d => decide); k_whole))))
  k_with "subscriptTail Name Name ref int" => ((k_here; (with_reducible show wpAny _ _ (subscriptTail _ _ (Value.ref _) (Value.int _ _)) _ _ _); k_dflt (refine' item_N ?N ?m ?h0 ?h1 ?hx ?_; (case N => k_asm); (case m => k_mem); (case h0 => decide); (case h1 => decide); (case hx => rfl); k_whole)))
  k_with "subscriptTail Name Constant ref int" => ((k_here; (with_reducible show wpAny _ _ (subscriptTail _ _ (Value.ref _) (Value.int _ _)) _ _ _); k_dflt (refine' item_N ?N ?m ?h0 ?h1 ?hx ?_; (case N => k_asm); (case m => k_mem); (case h0 => decide); (case h1 => decide); (case hx => rfl); k_whole)))
  k_with "CompSrc" => ((k_here; k_dflt (first | (refine LCg.CompSrc.ledger (by rfl) (by k_asm) (by k_asm) (by k_mem) (by first | size_fits | exact Nat.le_of_ble_eq_true rfl) ?_; intro g'; lcg_lit) | (refine LCg.CompSrc.range (by rfl) (by k_asm) (by k_asm) (by assumption) (by first | decide | rfl) (by first | rfl | decide) (by first | size_fits | exact Nat.le_of_ble_eq_true rfl) ?_; intro g'; lcg_lit))))
  k_with "CompRest" => ((with_unfolding_all first | (refine LCg.CompRest.succ ?_; intro v' I' oI' C' oC' D' m' h' tk' E' hv' hC' hx' F' N' off' ne'; clear ne'; (first | lcg_open hv' | (obtain ⟨t9', hv9'⟩ := hv'; subst hv9')); (try dsimp only); (try k_fold)) | refine LCg.CompRest.zero ?_))
  k_with "CompEnd" => ((refine LCg.CompEnd.intro (by assumption) (by assumption) _ (fun _ hp => hp) (by assumption) (by lcg_src) ?_))
  k_with "FinE" => (((unfold LCg.FinE); intro D' h' tk' F' N' o1'; (try simp only [List.nil_append, List.cons_append] at N'); (try dsimp only)))
  k_with "FinA" => (((unfold LCg.FinA); intro D' h' tk' F' N' o1'; (try simp only [List.nil_append, List.cons_append] at N'); (try dsimp only)))
  obtain ⟨ok1, ok3⟩ := Bool.and_eq_true_iff.mp ok
  obtain ⟨ok1, ok2⟩ := Bool.and_eq_true_iff.mp ok1
  rw [Bool.not_eq_true'] at ok1
  have ok3 := of_decide_eq_true ok3
  clear ok
  have h6 := fmod6 (hI h)
  unfold hI at ok3 h6
  k_with "call type:int" => (k_dflt (refine int_fin rfl ok2 ?_))
  dsimp only [PCo]
  intros
  rename_i hret
  refine wpAny_call ?_
  k_dflt (refine' code_defG ?k1 ?k2 ?k3 ?k4 ?k5 ?kA ?kF ?kK ?k6 ?k7 ?k8 ?k9 ?kB ?_ ?c2 ?c3 ?c4 ?c5; (case kA => exact rfl); (case kF => exact rfl); (case kK => assumption); (case k1 => k_asm); (case k2 => k_asm); (case k3 => k_asm); (case k4 => k_asm); (case k5 => k_asm); (case k6 => k_is); (case k7 => k_is); (case k8 => ktr_room); (case k9 => exact BindsTo.of_eq rfl); (case c5 => decide); (case kB => exact locs rfl); (case c2 => exact rfl); (case c3 => exact rfl); (case c4 => exact rfl); k_whole; intro g' L' h' FG' F' N' B' X' T' kG'; (try dsimp only); (try k_lift B'); (try k_fold))
  k_steps
  all_goals first | (exfalso; omega) | refine finN hret (by assumption) (by assumption) (by k_mem) (by simp) (by assumption) (by assumption) (by lcg_sub) ?_
  all_goals (refine ⟨_, _, _, _, tup3_eq ?_ ?_ ?_⟩)
  all_goals first | (unfold hsvR pF qF tF fF hI; simp only [*, if_true, if_false]; done) | (unfold hsvR tF qF pF fF hI; simp [*]; done)
end
section
open PySem PySem.W PySem.Calls PyProof.Rows
theorem ap_call (w : World) (s00 : Heap) (mg mb : Str → Option Value) (a b c : Int) (t : Tok) (ha : 0 ≤ a ∧ a ≤ 15) (hb : 0 ≤ b ∧ b ≤ 15) (hc : 0 ≤ c ∧ c ≤ 15) :
   PCv 2 w s00 mg mb 49 [] [.int (4096 + 256 * a + 16 * b + c) t] (fun t => .bytes #[66, apB a, apB b, apB c] t) := by
  have hneg : ¬ (4096 + 256 * a + 16 * b + c < 0) := by omega
  have hR := ap4 ha hb hc
  obtain ⟨R, hR'⟩ : ∃ R, apL 4 (4096 + 256 * a + 16 * b + c) = R := ⟨_, rfl⟩
  rw [hR'] at hR
  rw [← hR]
  k_with_none
  k_with "ne" => (first | exact off1_mem (by with_reducible assumption) (_, _) (by k_mem) | exact Ne.symm (off1_mem (by with_reducible assumption) (_, _) (by k_mem)) | with_reducible exact nd1 _ | with_reducible exact nd2 _ | with_reducible exact nd3 _ | with_reducible exact nd4 _ | with_reducible exact nd5 _ | with_reducible exact nd1' _ | with_reducible exact nd2' _ | with_reducible exact nd3' _ | with_reducible exact nd4' _ | with_reducible exact nd5' _ | (refine Nat.ne_of_lt ?_; with_reducible walk_at "lt") | (refine Nat.ne_of_gt ?_; with_reducible walk_at "lt"))
  k_with "lt" => (first | assumption | exact And.left (by assumption) | exact And.left (And.right (by assumption)) | exact And.right (by assumption) | exact And.left (And.right (And.right (by assumption))) | exact And.right (And.right (by assumption)) | exact And.left (And.right (And.right (And.right (by assumption)))) | exact And.right (And.right (And.right (by assumption))) | exact And.left (And.right (And.right (And.right (And.right (by assumption))))) | exact And.right (And.right (And.right (And.right (by assumption)))) | exact And.left (And.right (And.right (And.right (And.right (And.right (by assumption)))))) | exact And.right (And.right (And.right (And.right (And.right (by assumption))))) | exact And.left (And.right (And.right (And.right (And.right (And.right (And.right (by assumption))))))) | exact And.right (And.right (And.right (And.right (And.right (And.right (by assumption)))))) | exact And.left (And.right (And.right (And.right (And.right (And.right (And.right (And.right (by assumption)))))))) | exact And.right (And.right (And.right (And.right (And.right (And.right (And.right (by assumption))))))) | exact And.left (And.right (And.right (And.right (And.right (And.right (And.right (And.right (And.right (by assumption))))))))) | exact And.right (And.right (And.right (And.right (And.right (And.right (And.right (And.right (by assumption)))))))) | exact And.left (And.right (And.right (And.right (And.right (And.right (And.right (And.right (And.right (And.right (by assumption)))))))))) | exact And.right (And.right (And.right (And.right (And.right (And.right (And.right (And.right (And.right (by assumption))))))))) | exact And.left (And.right (And.right (And.right (And.right (And.right (And.right (And.right (And.right (And.right (And.right (by assumption))))))))))) | exact And.right (And.right (And.right (And.right (And.right (And.right (And.right (And.right (And.right (And.right (by assumption)))))))))))
  k_with "xsteps" => (repeat' (first | (k_unfold; (try dsimp only)) | ((with_reducible show wpAny _ _ (exec _ _) _ _ _); k_fold) | walk1 | (dsimp only; walk1) | (leave1; try dsimp only) | fail "no step"))
  k_with "eval Name" => ((k_here; (with_reducible show wpAny _ _ (eval (Expr.Name _ _) (compEnvC _ _ _ _)) _ _ _); k_dflt (first | (refine' LCgL.ld_own ?N ?m ?C ?x ?_ ?k ?l ?d; (case l => rfl); (case k => rfl); (case d => decide); (case N => k_asm); (case m => k_mem); (case C => assumption); (case x => assumption); k_whole) | (refine' lcf_free ?N ?c ?m ?d ?_ ?a ?b; (case b => rfl); (case a => rfl); (case N => k_asm); (case c => rfl); (case m => k_mem); (case d => k_asm); k_whole) | (refine' LCgL.ld_global ?F ?X ?T ?e ?_ ?g ?k ?x ?d; (case x => rfl); (case F => k_asm); (case X => k_asm); (case T => k_asm); (case e => k_is); (case g => rfl); (case k => rfl); (case d => decide); k_whole))))
  k_with "subscriptTail Name Name ref int" => ((k_here; (with_reducible show wpAny _ _ (subscriptTail _ _ (Value.ref _) (Value.int _ _)) _ _ _); k_dflt (refine' item_N ?N ?m ?h0 ?h1 ?hx ?_; (case N => k_asm); (case m => k_mem); (case h0 => decide); (case h1 => decide); (case hx => rfl); k_whole)))
  k_with "subscriptTail Name Constant ref int" => ((k_here; (with_reducible show wpAny _ _ (subscriptTail _ _ (Value.ref _) (Value.int _ _)) _ _ _); k_dflt (refine' item_N ?N ?m ?h0 ?h1 ?hx ?_; (case N => k_asm); (case m => k_mem); (case h0 => decide); (case h1 => decide); (case hx => rfl); k_whole)))
  k_with "CompSrc" => ((k_here; k_dflt (first | (refine LCg.CompSrc.ledger (by rfl) (by k_asm) (by k_asm) (by k_mem) (by first | size_fits | exact Nat.le_of_ble_eq_true rfl) ?_; intro g'; lcg_lit) | (refine LCg.CompSrc.range (by rfl) (by k_asm) (by k_asm) (by assumption) (by first | decide | rfl) (by first | rfl | decide) (by first | size_fits | exact Nat.le_of_ble_eq_true rfl) ?_; intro g'; lcg_lit))))
  k_with "CompRest" => ((with_unfolding_all first | (refine LCg.CompRest.succ ?_; intro v' I' oI' C' oC' D' m' h' tk' E' hv' hC' hx' F' N' off' ne'; clear ne'; (first | lcg_open hv' | (obtain ⟨t9', hv9'⟩ := hv'; subst hv9')); (try dsimp only); (try k_fold)) | refine LCg.CompRest.zero ?_))
  k_with "CompEnd" => ((refine LCg.CompEnd.intro (by assumption) (by assumption) _ (fun _ hp => hp) (by assumption) (by lcg_src) ?_))
  k_with "FinE" => (((unfold LCg.FinE); intro D' h' tk' F' N' o1'; (try simp only [List.nil_append, List.cons_append] at N'); (try dsimp only)))
  k_with "FinA" => (((unfold LCg.FinA); intro D' h' tk' F' N' o1'; (try simp only [List.nil_append, List.cons_append] at N'); (try dsimp only)))
  k_with "exec While Name cons nil" => (k_dflt (refine' while_J (i := 4) [] (JA R) ?hE ?F ?N ?hs ?hj ?turn; (case hE => first | passes_own | with_unfolding_all passes_own); (case F => assumption); (case N => assumption); (case hs => exact sub_nil); (case hj => exact ⟨_, _, _, _, _, rfl, rfl, rfl, by rw [if_neg hneg]; omega, by rw [if_neg hneg]; show _ < (65536 : Int); omega, by decide, by rw [if_neg hneg, Array.append_empty]; exact hR', rfl⟩); (case' turn => (rintro i m nd h tk1 ⟨n, v, t1, t2, t3, e1, e2, e3, hn, hlt, hsz, hap, rfl⟩ F1 N1; rw [pin_eq e3, pin_eq e2, pin_eq e1] at F1; dsimp only at F1; clear e1 e2 e3; rcases Decidable.em (n = 0) with hz | hz; (first | (have hv := ja_zero hap hz; subst hv) | (obtain ⟨j, rfl⟩ := ja_pos hlt hn hz)); rotate_left; (first | (have hv := ja_zero hap hz; subst hv) | (obtain ⟨j, rfl⟩ := ja_pos hlt hn hz)); all_goals (dsimp only; (try k_unmd); (try k_fold); (try k_sweep))))))
  k_with "WhlIf" => (first | (refine WhlIf.yes (by rw [bne_iff_ne]; exact hz) ?_) | (refine WhlIf.no (by rw [bne_eq_false_iff_eq]; exact hz) ?_))
  k_with "subscriptTail" => (k_dflt ((rename Fr _ _ _ _ => F9); (rename News _ _ _ _ => N9); (refine slice_ap (s := ⟨_, _, _, _, _⟩) (by simp only [fmod16]; omega) F9 N9 ?_); intro h9 t9 k9 F9 N9; (try k_sweep)))
  k_with "binaryOp Add bytes bytes" => (k_dflt (refine add_by (by show 1 + Array.size _ ≤ 16777216; omega) ?_); intro t9 k9)
  dsimp only [PCv]
  intros
  rename_i hret
  refine wpAny_call ?_
  k_dflt (refine' code_defG ?k1 ?k2 ?k3 ?k4 ?k5 ?kA ?kF ?kK ?k6 ?k7 ?k8 ?k9 ?kB ?_ ?c2 ?c3 ?c4 ?c5; (case kA => exact rfl); (case kF => exact rfl); (case kK => assumption); (case k1 => k_asm); (case k2 => k_asm); (case k3 => k_asm); (case k4 => k_asm); (case k5 => k_asm); (case k6 => k_is); (case k7 => k_is); (case k8 => ktr_room); (case k9 => exact BindsTo.of_eq rfl); (case c5 => decide); (case kB => exact locs rfl); (case c2 => exact rfl); (case c3 => exact rfl); (case c4 => exact rfl); k_whole; intro g' L' h' FG' F' N' B' X' T' kG'; (try dsimp only); (try k_lift B'); (try k_fold))
  walk_at "xsteps"
  · dsimp only [WJPost]
    refine WJEnd.intro (by assumption) (by assumption) [] (Nat.lt_succ_self _) sub_nil (JA.next hz hn hlt hsz hap rfl rfl rfl)
  · refine finY hret rfl ?_
    exact keptN (by assumption) (by assumption) (by assumption) (by assumption) (by lcg_sub)
end
section
open PySem PySem.W PySem.Calls PyProof.Rows
theorem ellB (w : World) (s00 : Heap) (mg mb : Str → Option Value) (a b p q : Str) (ta tb : Tok) (hs : (Builtin.Str.occurrences a (S "...") 0 a.length 1).isEmpty = false)
   (hsp : Txt.split a (S "...") = [p, q]) (hla : a.length ≤ 100) (hlb : b.length ≤ 100) (hp : 0 < p.length) (hq : 0 < q.length) (hlp : p.length + q.length ≤ b.length) :
   PCv 2 w s00 mg mb 42 [] [.str a ta, .str b tb] (fun t => .bool (Txt.startswith b p && Txt.endswith b q)) := by
  k_with_none
  k_with "ne" => (first | exact off1_mem (by with_reducible assumption) (_, _) (by k_mem) | exact Ne.symm (off1_mem (by with_reducible assumption) (_, _) (by k_mem)) | with_reducible exact nd1 _ | with_reducible exact nd2 _ | with_reducible exact nd3 _ | with_reducible exact nd4 _ | with_reducible exact nd5 _ | with_reducible exact nd1' _ | with_reducible exact nd2' _ | with_reducible exact nd3' _ | with_reducible exact nd4' _ | with_reducible exact nd5' _ | (refine Nat.ne_of_lt ?_; with_reducible walk_at "lt") | (refine Nat.ne_of_gt ?_; with_reducible walk_at "lt"))
  k_with "lt" => (first | assumption | exact And.left (by assumption) | exact And.left (And.right (by assumption)) | exact And.right (by assumption) | exact And.left (And.right (And.right (by assumption))) | exact And.right (And.right (by assumption)) | exact And.left (And.right (And.right (And.right (by assumption)))) | exact And.right (And.right (And.right (by assumption))) | exact And.left (And.right (And.right (And.right (And.right (by assumption))))) | exact And.right (And.right (And.right (And.right (by assumption)))) | exact And.left (And.right (And.right (And.right (And.right (And.right (by assumption)))))) | exact And.right (And.right (And.right (And.right (And.right (by assumption))))) | exact And.left (And.right (And.right (And.right (And.right (And.right (And.right (by assumption))))))) | exact And.right (And.right (And.right (And.right (And.right (And.right (by assumption)))))) | exact And.left (And.right (And.right (And.right (And.right (And.right (And.right (And.right (by assumption)))))))) | exact And.right (And.right (And.right (And.right (And.right (And.right (And.right (by assumption))))))) | exact And.left (And.right (And.right (And.right (And.right (And.right (And.right (And.right (And.right (by assumption))))))))) | exact And.right (And.right (And.right (And.right (And.right (And.right (And.right (And.right (by assumption)))))))) | exact And.left (And.right (And.right (And.right (And.right (And.right (And.right (And.right (And.right (And.right (by assumption)))))))))) | exact And.right (And.right (And.right (And.right (And.right (And.right (And.right (And.right (And.right (by assumption))))))))) | exact And.left (And.right (And.right (And.right (And.right (And.right (And.right (And.right (And.right (And.right (And.right (by assumption))))))))))) | exact And.right (And.right (And.right (And.right (And.right (And.right (And.right (And.right (And.right (And.right (by assumption)))))))))))
  k_with "xsteps" => (repeat' (first | (k_unfold; (try dsimp only)) | ((with_reducible show wpAny _ _ (exec _ _) _ _ _); k_fold) | walk1 | (dsimp only; walk1) | (leave1; try dsimp only) | fail "no step"))
  k_with "eval Name" => ((k_here; (with_reducible show wpAny _ _ (eval (Expr.Name _ _) (compEnvC _ _ _ _)) _ _ _); k_dflt (first | (refine' LCgL.ld_own ?N ?m ?C ?x ?_ ?k ?l ?d; (case l => rfl); (case k => rfl); (case d => decide); (case N => k_asm); (case m => k_mem); (case C => assumption); (case x => assumption); k_whole) | (refine' lcf_free ?N ?c ?m ?d ?_ ?a ?b; (case b => rfl); (case a => rfl); (case N => k_asm); (case c => rfl); (case m => k_mem); (case d => k_asm); k_whole) | (refine' LCgL.ld_global ?F ?X ?T ?e ?_ ?g ?k ?x ?d; (case x => rfl); (case F => k_asm); (case X => k_asm); (case T => k_asm); (case e => k_is); (case g => rfl); (case k => rfl); (case d => decide); k_whole))))
  k_with "subscriptTail Name Name ref int" => ((k_here; (with_reducible show wpAny _ _ (subscriptTail _ _ (Value.ref _) (Value.int _ _)) _ _ _); k_dflt (refine' item_N ?N ?m ?h0 ?h1 ?hx ?_; (case N => k_asm); (case m => k_mem); (case h0 => decide); (case h1 => decide); (case hx => rfl); k_whole)))
  k_with "subscriptTail Name Constant ref int" => ((k_here; (with_reducible show wpAny _ _ (subscriptTail _ _ (Value.ref _) (Value.int _ _)) _ _ _); k_dflt (refine' item_N ?N ?m ?h0 ?h1 ?hx ?_; (case N => k_asm); (case m => k_mem); (case h0 => decide); (case h1 => decide); (case hx => rfl); k_whole)))
  k_with "CompSrc" => ((k_here; k_dflt (first | (refine LCg.CompSrc.ledger (by rfl) (by k_asm) (by k_asm) (by k_mem) (by first | size_fits | exact Nat.le_of_ble_eq_true rfl) ?_; intro g'; lcg_lit) | (refine LCg.CompSrc.range (by rfl) (by k_asm) (by k_asm) (by assumption) (by first | decide | rfl) (by first | rfl | decide) (by first | size_fits | exact Nat.le_of_ble_eq_true rfl) ?_; intro g'; lcg_lit))))
  k_with "CompRest" => ((with_unfolding_all first | (refine LCg.CompRest.succ ?_; intro v' I' oI' C' oC' D' m' h' tk' E' hv' hC' hx' F' N' off' ne'; clear ne'; (first | lcg_open hv' | (obtain ⟨t9', hv9'⟩ := hv'; subst hv9')); (try dsimp only); (try k_fold)) | refine LCg.CompRest.zero ?_))
  k_with "CompEnd" => ((refine LCg.CompEnd.intro (by assumption) (by assumption) _ (fun _ hp => hp) (by assumption) (by lcg_src) ?_))
  k_with "FinE" => (((unfold LCg.FinE); intro D' h' tk' F' N' o1'; (try simp only [List.nil_append, List.cons_append] at N'); (try dsimp only)))
  k_with "FinA" => (((unfold LCg.FinA); intro D' h' tk' F' N' o1'; (try simp only [List.nil_append, List.cons_append] at N'); (try dsimp only)))
  k_with "call builtin:str.split" => (k_dflt (refine KSpl.split1 (by k_asm) (by k_asm) (by decide) ?_ (by rw [sizeLine_eq]; omega)); intro D' l' h' k' e' a' F' N' l1; (try k_lt l1); rw [hsp] at e'; kspl_open e'; (simp only [strValues, List.map_cons, List.map_nil] at N' a'))
  k_with "exec For Name Name cons nil" => (k_dflt ((rename Fr _ _ _ _ => lF'); refine' For_invVF lF' (by exact rfl) (by exact rfl) ?_))
  k_with "pyIter ref" => k_dflt k_listUnr
  dsimp only [PCv]
  intros
  rename_i hret
  refine wpAny_call ?_
  k_dflt (refine' code_defG ?k1 ?k2 ?k3 ?k4 ?k5 ?kA ?kF ?kK ?k6 ?k7 ?k8 ?k9 ?kB ?_ ?c2 ?c3 ?c4 ?c5; (case kA => exact rfl); (case kF => exact rfl); (case kK => assumption); (case k1 => k_asm); (case k2 => k_asm); (case k3 => k_asm); (case k4 => k_asm); (case k5 => k_asm); (case k6 => k_is); (case k7 => k_is); (case k8 => ktr_room); (case k9 => exact BindsTo.of_eq rfl); (case c5 => decide); (case kB => exact locs rfl); (case c2 => exact rfl); (case c3 => exact rfl); (case c4 => exact rfl); k_whole; intro g' L' h' FG' F' N' B' X' T' kG'; (try dsimp only); (try k_lift B'); (try k_fold))
  walk_at "xsteps"
  all_goals first | (exfalso; omega) | (refine finB hret ?_ ?_)
  all_goals first | (exact keptN (by assumption) (by assumption) (by assumption) (by assumption) (by lcg_sub)) | (simp [*]; done)
end
section
open PySem PySem.W PySem.Calls PyProof.Rows
theorem ellA (w : World) (s00 : Heap) (mg mb : Str → Option Value) (a b p q : Str) (ta tb : Tok) (hs : (Builtin.Str.occurrences a (S "...") 0 a.length 1).isEmpty = false)
   (hsp : Txt.split a (S "...") = [p, q]) (hla : a.length ≤ 100) (hlb : b.length ≤ 100) (hp : p = ⟨#[]⟩) (hq : q.length = 3) (hb : b.length = 4) :
   PCv 2 w s00 mg mb 42 [] [.str a ta, .str b tb] (fun t => .bool (Txt.endswith b q)) := by
  subst hp
  k_with_none
  k_with "ne" => (first | exact off1_mem (by with_reducible assumption) (_, _) (by k_mem) | exact Ne.symm (off1_mem (by with_reducible assumption) (_, _) (by k_mem)) | with_reducible exact nd1 _ | with_reducible exact nd2 _ | with_reducible exact nd3 _ | with_reducible exact nd4 _ | with_reducible exact nd5 _ | with_reducible exact nd1' _ | with_reducible exact nd2' _ | with_reducible exact nd3' _ | with_reducible exact nd4' _ | with_reducible exact nd5' _ | (refine Nat.ne_of_lt ?_; with_reducible walk_at "lt") | (refine Nat.ne_of_gt ?_; with_reducible walk_at "lt"))
  k_with "lt" => (first | assumption | exact And.left (by assumption) | exact And.left (And.right (by assumption)) | exact And.right (by assumption) | exact And.left (And.right (And.right (by assumption))) | exact And.right (And.right (by assumption)) | exact And.left (And.right (And.right (And.right (by assumption)))) | exact And.right (And.right (And.right (by assumption))) | exact And.left (And.right (And.right (And.right (And.right (by assumption))))) | exact And.right (And.right (And.right (And.right (by assumption)))) | exact And.left (And.right (And.right (And.right (And.right (And.right (by assumption)))))) | exact And.right (And.right (And.right (And.right (And.right (by assumption))))) | exact And.left (And.right (And.right (And.right (And.right (And.right (And.right (by assumption))))))) | exact And.right (And.right (And.right (And.right (And.right (And.right (by assumption)))))) | exact And.left (And.right (And.right (And.right (And.right (And.right (And.right (And.right (by assumption)))))))) | exact And.right (And.right (And.right (And.right (And.right (And.right (And.right (by assumption))))))) | exact And.left (And.right (And.right (And.right (And.right (And.right (And.right (And.right (And.right (by assumption))))))))) | exact And.right (And.right (And.right (And.right (And.right (And.right (And.right (And.right (by assumption)))))))) | exact And.left (And.right (And.right (And.right (And.right (And.right (And.right (And.right (And.right (And.right (by assumption)))))))))) | exact And.right (And.right (And.right (And.right (And.right (And.right (And.right (And.right (And.right (by assumption))))))))) | exact And.left (And.right (And.right (And.right (And.right (And.right (And.right (And.right (And.right (And.right (And.right (by assumption))))))))))) | exact And.right (And.right (And.right (And.right (And.right (And.right (And.right (And.right (And.right (And.right (by assumption)))))))))))
  k_with "xsteps" => (repeat' (first | (k_unfold; (try dsimp only)) | ((with_reducible show wpAny _ _ (exec _ _) _ _ _); k_fold) | walk1 | (dsimp only; walk1) | (leave1; try dsimp only) | fail "no step"))
  k_with "eval Name" => ((k_here; (with_reducible show wpAny _ _ (eval (Expr.Name _ _) (compEnvC _ _ _ _)) _ _ _); k_dflt (first | (refine' LCgL.ld_own ?N ?m ?C ?x ?_ ?k ?l ?d; (case l => rfl); (case k => rfl); (case d => decide); (case N => k_asm); (case m => k_mem); (case C => assumption); (case x => assumption); k_whole) | (refine' lcf_free ?N ?c ?m ?d ?_ ?a ?b; (case b => rfl); (case a => rfl); (case N => k_asm); (case c => rfl); (case m => k_mem); (case d => k_asm); k_whole) | (refine' LCgL.ld_global ?F ?X ?T ?e ?_ ?g ?k ?x ?d; (case x => rfl); (case F => k_asm); (case X => k_asm); (case T => k_asm); (case e => k_is); (case g => rfl); (case k => rfl); (case d => decide); k_whole))))
  k_with "subscriptTail Name Name ref int" => ((k_here; (with_reducible show wpAny _ _ (subscriptTail _ _ (Value.ref _) (Value.int _ _)) _ _ _); k_dflt (refine' item_N ?N ?m ?h0 ?h1 ?hx ?_; (case N => k_asm); (case m => k_mem); (case h0 => decide); (case h1 => decide); (case hx => rfl); k_whole)))
  k_with "subscriptTail Name Constant ref int" => ((k_here; (with_reducible show wpAny _ _ (subscriptTail _ _ (Value.ref _) (Value.int _ _)) _ _ _); k_dflt (refine' item_N ?N ?m ?h0 ?h1 ?hx ?_; (case N => k_asm); (case m => k_mem); (case h0 => decide); (case h1 => decide); (case hx => rfl); k_whole)))
  k_with "CompSrc" => ((k_here; k_dflt (first | (refine LCg.CompSrc.ledger (by rfl) (by k_asm) (by k_asm) (by k_mem) (by first | size_fits | exact Nat.le_of_ble_eq_true rfl) ?_; intro g'; lcg_lit) | (refine LCg.CompSrc.range (by rfl) (by k_asm) (by k_asm) (by assumption) (by first | decide | rfl) (by first | rfl | decide) (by first | size_fits | exact Nat.le_of_ble_eq_true rfl) ?_; intro g'; lcg_lit))))
  k_with "CompRest" => ((with_unfolding_all first | (refine LCg.CompRest.succ ?_; intro v' I' oI' C' oC' D' m' h' tk' E' hv' hC' hx' F' N' off' ne'; clear ne'; (first | lcg_open hv' | (obtain ⟨t9', hv9'⟩ := hv'; subst hv9')); (try dsimp only); (try k_fold)) | refine LCg.CompRest.zero ?_))
  k_with "CompEnd" => ((refine LCg.CompEnd.intro (by assumption) (by assumption) _ (fun _ hp => hp) (by assumption) (by lcg_src) ?_))
  k_with "FinE" => (((unfold LCg.FinE); intro D' h' tk' F' N' o1'; (try simp only [List.nil_append, List.cons_append] at N'); (try dsimp only)))
  k_with "FinA" => (((unfold LCg.FinA); intro D' h' tk' F' N' o1'; (try simp only [List.nil_append, List.cons_append] at N'); (try dsimp only)))
  k_with "call builtin:str.split" => (k_dflt (refine KSpl.split1 (by k_asm) (by k_asm) (by decide) ?_ (by rw [sizeLine_eq]; omega)); intro D' l' h' k' e' a' F' N' l1; (try k_lt l1); rw [hsp] at e'; kspl_open e'; (simp only [strValues, List.map_cons, List.map_nil] at N' a'))
  k_with "exec For Name Name cons nil" => (k_dflt ((rename Fr _ _ _ _ => lF'); refine' For_invVF lF' (by exact rfl) (by exact rfl) ?_))
  k_with "pyIter ref" => k_dflt k_listUnr
  k_with "call builtin:str.find" => (k_dflt (refine find_A hb (by omega) (by omega) ?_))
  dsimp only [PCv]
  intros
  rename_i hret
  refine wpAny_call ?_
  k_dflt (refine' code_defG ?k1 ?k2 ?k3 ?k4 ?k5 ?kA ?kF ?kK ?k6 ?k7 ?k8 ?k9 ?kB ?_ ?c2 ?c3 ?c4 ?c5; (case kA => exact rfl); (case kF => exact rfl); (case kK => assumption); (case k1 => k_asm); (case k2 => k_asm); (case k3 => k_asm); (case k4 => k_asm); (case k5 => k_asm); (case k6 => k_is); (case k7 => k_is); (case k8 => ktr_room); (case k9 => exact BindsTo.of_eq rfl); (case c5 => decide); (case kB => exact locs rfl); (case c2 => exact rfl); (case c3 => exact rfl); (case c4 => exact rfl); k_whole; intro g' L' h' FG' F' N' B' X' T' kG'; (try dsimp only); (try k_lift B'); (try k_fold))
  walk_at "xsteps"
  all_goals first | (exfalso; omega) | (refine finB hret ?_ ?_)
  all_goals first | (exact keptN (by assumption) (by assumption) (by assumption) (by assumption) (by lcg_sub)) | (simp [*]; done)
end
section
open PySem PySem.W PySem.Calls PyProof.Rows
theorem ellC (w : World) (s00 : Heap) (mg mb : Str → Option Value) (a b p q : Str) (ta tb : Tok) (hs : (Builtin.Str.occurrences a (S "...") 0 a.length 1).isEmpty = false)
   (hsp : Txt.split a (S "...") = [p, q]) (hla : a.length ≤ 100) (hlb : b.length ≤ 100) (hp : p.length = 3) (hq : q = ⟨#[]⟩) (hb : b.length = 4) :
   PCv 2 w s00 mg mb 42 [] [.str a ta, .str b tb] (fun t => .bool (Txt.startswith b p)) := by
  subst hq
  k_with_none
  k_with "ne" => (first | exact off1_mem (by with_reducible assumption) (_, _) (by k_mem) | exact Ne.symm (off1_mem (by with_reducible assumption) (_, _) (by k_mem)) | with_reducible exact nd1 _ | with_reducible exact nd2 _ | with_reducible exact nd3 _ | with_reducible exact nd4 _ | with_reducible exact nd5 _ | with_reducible exact nd1' _ | with_reducible exact nd2' _ | with_reducible exact nd3' _ | with_reducible exact nd4' _ | with_reducible exact nd5' _ | (refine Nat.ne_of_lt ?_; with_reducible walk_at "lt") | (refine Nat.ne_of_gt ?_; with_reducible walk_at "lt"))
  k_with "lt" => (first | assumption | exact And.left (by assumption) | exact And.left (And.right (by assumption)) | exact And.right (by assumption) | exact And.left (And.right (And.right (by assumption))) | exact And.right (And.right (by assumption)) | exact And.left (And.right (And.right (And.right (by assumption)))) | exact And.right (And.right (And.right (by assumption))) | exact And.left (And.right (And.right (And.right (And.right (by assumption))))) | exact And.right (And.right (And.right (And.right (by assumption)))) | exact And.left (And.right (And.right (And.right (And.right (And.right (by assumption)))))) | exact And.right (And.right (And.right (And.right (And.right (by assumption))))) | exact And.left (And.right (And.right (And.right (And.right (And.right (And.right (by assumption))))))) | exact And.right (And.right (And.right (And.right (And.right (And.right (by assumption)))))) | exact And.left (And.right (And.right (And.right (And.right (And.right (And.right (And.right (by assumption)))))))) | exact And.right (And.right (And.right (And.right (And.right (And.right (And.right (by assumption))))))) | exact And.left (And.right (And.right (And.right (And.right (And.right (And.right (And.right (And.right (by assumption))))))))) | exact And.right (And.right (And.right (And.right (And.right (And.right (And.right (And.right (by assumption)))))))) | exact And.left (And.right (And.right (And.right (And.right (And.right (And.right (And.right (And.right (And.right (by assumption)))))))))) | exact And.right (And.right (And.right (And.right (And.right (And.right (And.right (And.right (And.right (by assumption))))))))) | exact And.left (And.right (And.right (And.right (And.right (And.right (And.right (And.right (And.right (And.right (And.right (by assumption))))))))))) | exact And.right (And.right (And.right (And.right (And.right (And.right (And.right (And.right (And.right (And.right (by assumption)))))))))))
  k_with "xsteps" => (repeat' (first | (k_unfold; (try dsimp only)) | ((with_reducible show wpAny _ _ (exec _ _) _ _ _); k_fold) | walk1 | (dsimp only; walk1) | (leave1; try dsimp only) | fail "no step"))
  k_with "eval Name" => ((k_here; (with_reducible show wpAny _ _ (eval (Expr.Name _ _) (compEnvC _ _ _ _)) _ _ _); k_dflt (first | (refine' LCgL.ld_own ?N ?m ?C ?x ?_ ?k ?l ?d; (case l => rfl); (case k => rfl); (case d => decide); (case N => k_asm); (case m => k_mem); (case C => assumption); (case x => assumption); k_whole) | (refine' lcf_free ?N ?c ?m ?d ?_ ?a ?b; (case b => rfl); (case a => rfl); (case N => k_asm); (case c => rfl); (case m => k_mem); (case d => k_asm); k_whole) | (refine' LCgL.ld_global ?F ?X ?T ?e ?_ ?g ?k ?x ?d; (case x => rfl); (case F => k_asm); (case X => k_asm); (case T => k_asm); (case e => k_is); (case g => rfl); (case k => rfl); (case d => decide); k_whole))))
  k_with "subscriptTail Name Name ref int" => ((k_here; (with_reducible show wpAny _ _ (subscriptTail _ _ (Value.ref _) (Value.int _ _)) _ _ _); k_dflt (refine' item_N ?N ?m ?h0 ?h1 ?hx ?_; (case N => k_asm); (case m => k_mem); (case h0 => decide); (case h1 => decide); (case hx => rfl); k_whole)))
  k_with "subscriptTail Name Constant ref int" => ((k_here; (with_reducible show wpAny _ _ (subscriptTail _ _ (Value.ref _) (Value.int _ _)) _ _ _); k_dflt (refine' item_N ?N ?m ?h0 ?h1 ?hx ?_; (case N => k_asm); (case m => k_mem); (case h0 => decide); (case h1 => decide); (case hx => rfl); k_whole)))
  k_with "CompSrc" => ((k_here; k_dflt (first | (refine LCg.CompSrc.ledger (by rfl) (by k_asm) (by k_asm) (by k_mem) (by first | size_fits | exact Nat.le_of_ble_eq_true rfl) ?_; intro g'; lcg_lit) | (refine LCg.CompSrc.range (by rfl) (by k_asm) (by k_asm) (by assumption) (by first | decide | rfl) (by first | rfl | decide) (by first | size_fits | exact Nat.le_of_ble_eq_true rfl) ?_; intro g'; lcg_lit))))
  k_with "CompRest" => ((with_unfolding_all first | (refine LCg.CompRest.succ ?_; intro v' I' oI' C' oC' D' m' h' tk' E' hv' hC' hx' F' N' off' ne'; clear ne'; (first | lcg_open hv' | (obtain ⟨t9', hv9'⟩ := hv'; subst hv9')); (try dsimp only); (try k_fold)) | refine LCg.CompRest.zero ?_))
  k_with "CompEnd" => ((refine LCg.CompEnd.intro (by assumption) (by assumption) _ (fun _ hp => hp) (by assumption) (by lcg_src) ?_))
  k_with "FinE" => (((unfold LCg.FinE); intro D' h' tk' F' N' o1'; (try simp only [List.nil_append, List.cons_append] at N'); (try dsimp only)))
  k_with "FinA" => (((unfold LCg.FinA); intro D' h' tk' F' N' o1'; (try simp only [List.nil_append, List.cons_append] at N'); (try dsimp only)))
  k_with "call builtin:str.split" => (k_dflt (refine KSpl.split1 (by k_asm) (by k_asm) (by decide) ?_ (by rw [sizeLine_eq]; omega)); intro D' l' h' k' e' a' F' N' l1; (try k_lt l1); rw [hsp] at e'; kspl_open e'; (simp only [strValues, List.map_cons, List.map_nil] at N' a'))
  k_with "exec For Name Name cons nil" => (k_dflt ((rename Fr _ _ _ _ => lF'); refine' For_invVF lF' (by exact rfl) (by exact rfl) ?_))
  k_with "pyIter ref" => k_dflt k_listUnr
  k_with "call builtin:str.find" => (k_dflt (refine find_C hb (by omega) (by omega) ?_))
  dsimp only [PCv]
  intros
  rename_i hret
  refine wpAny_call ?_
  k_dflt (refine' code_defG ?k1 ?k2 ?k3 ?k4 ?k5 ?kA ?kF ?kK ?k6 ?k7 ?k8 ?k9 ?kB ?_ ?c2 ?c3 ?c4 ?c5; (case kA => exact rfl); (case kF => exact rfl); (case kK => assumption); (case k1 => k_asm); (case k2 => k_asm); (case k3 => k_asm); (case k4 => k_asm); (case k5 => k_asm); (case k6 => k_is); (case k7 => k_is); (case k8 => ktr_room); (case k9 => exact BindsTo.of_eq rfl); (case c5 => decide); (case kB => exact locs rfl); (case c2 => exact rfl); (case c3 => exact rfl); (case c4 => exact rfl); k_whole; intro g' L' h' FG' F' N' B' X' T' kG'; (try dsimp only); (try k_lift B'); (try k_fold))
  walk_at "xsteps"
  all_goals first | (exfalso; omega) | (refine finB hret ?_ ?_)
  all_goals first | (exact keptN (by assumption) (by assumption) (by assumption) (by assumption) (by lcg_sub)) | (simp [*]; done)
end
section
open PySem PySem.W PySem.Calls PyProof.Rows
theorem pegs_call (w : World) (s00 : Heap) (mg mb : Str → Option Value) (x y z : UInt64) (a b c : Tok) (n : Nat) (l : Addr) (ok : pokn 4 (pst0 x y z) = true) :
   PCo 4 w s00 mg mb 59 [(l, fl3 x y z a b c n)] [.ref l] (fun o => ∃ vs k, o = listOf vs.toArray k ∧ IntsAre vs (pdec 4 (pst0 x y z))) := by
  k_with_none
  k_with "ne" => (first | exact off1_mem (by with_reducible assumption) (_, _) (by k_mem) | exact Ne.symm (off1_mem (by with_reducible assumption) (_, _) (by k_mem)) | with_reducible exact nd1 _ | with_reducible exact nd2 _ | with_reducible exact nd3 _ | with_reducible exact nd4 _ | with_reducible exact nd5 _ | with_reducible exact nd1' _ | with_reducible exact nd2' _ | with_reducible exact nd3' _ | with_reducible exact nd4' _ | with_reducible exact nd5' _ | (refine Nat.ne_of_lt ?_; with_reducible walk_at "lt") | (refine Nat.ne_of_gt ?_; with_reducible walk_at "lt"))
  k_with "lt" => (first | assumption | exact And.left (by assumption) | exact And.left (And.right (by assumption)) | exact And.right (by assumption) | exact And.left (And.right (And.right (by assumption))) | exact And.right (And.right (by assumption)) | exact And.left (And.right (And.right (And.right (by assumption)))) | exact And.right (And.right (And.right (by assumption))) | exact And.left (And.right (And.right (And.right (And.right (by assumption))))) | exact And.right (And.right (And.right (And.right (by assumption)))) | exact And.left (And.right (And.right (And.right (And.right (And.right (by assumption)))))) | exact And.right (And.right (And.right (And.right (And.right (by assumption))))) | exact And.left (And.right (And.right (And.right (And.right (And.right (And.right (by assumption))))))) | exact And.right (And.right (And.right (And.right (And.right (And.right (by assumption)))))) | exact And.left (And.right (And.right (And.right (And.right (And.right (And.right (And.right (by assumption)))))))) | exact And.right (And.right (And.right (And.right (And.right (And.right (And.right (by assumption))))))) | exact And.left (And.right (And.right (And.right (And.right (And.right (And.right (And.right (And.right (by assumption))))))))) | exact And.right (And.right (And.right (And.right (And.right (And.right (And.right (And.right (by assumption)))))))) | exact And.left (And.right (And.right (And.right (And.right (And.right (And.right (And.right (And.right (And.right (by assumption)))))))))) | exact And.right (And.right (And.right (And.right (And.right (And.right (And.right (And.right (And.right (by assumption))))))))) | exact And.left (And.right (And.right (And.right (And.right (And.right (And.right (And.right (And.right (And.right (And.right (by assumption))))))))))) | exact And.right (And.right (And.right (And.right (And.right (And.right (And.right (And.right (And.right (And.right (by assumption)))))))))))
  k_with "eval Name" => ((k_here; (with_reducible show wpAny _ _ (eval (Expr.Name _ _) (compEnvC _ _ _ _)) _ _ _); k_dflt (first | (refine' LCgL.ld_own ?N ?m ?C ?x ?_ ?k ?l ?d; (case l => rfl); (case k => rfl); (case d => decide); (case N => k_asm); (case m => k_mem); (case C => assumption); (case x => assumption); k_whole) | (refine' lcf_free ?N ?c ?m ?d ?_ ?a ?b; (case b => rfl); (case a => rfl); (case N => k_asm); (case c => rfl); (case m => k_mem); (case d => k_asm); k_whole) | (refine' LCgL.ld_global ?F ?X ?T ?e ?_ ?g ?k ?x ?d; (case x => rfl); (case F => k_asm); (case X => k_asm); (case T => k_asm); (case e => k_is); (case g => rfl); (case k => rfl); (case d => decide); k_whole))))
  k_with "subscriptTail Name Name ref int" => ((k_here; (with_reducible show wpAny _ _ (subscriptTail _ _ (Value.ref _) (Value.int _ _)) _ _ _); k_dflt (refine' item_N ?N ?m ?h0 ?h1 ?hx ?_; (case N => k_asm); (case m => k_mem); (case h0 => decide); (case h1 => decide); (case hx => rfl); k_whole)))
  k_with "subscriptTail Name Constant ref int" => ((k_here; (with_reducible show wpAny _ _ (subscriptTail _ _ (Value.ref _) (Value.int _ _)) _ _ _); k_dflt (refine' item_N ?N ?m ?h0 ?h1 ?hx ?_; (case N => k_asm); (case m => k_mem); (case h0 => decide); (case h1 => decide); (case hx => rfl); k_whole)))
  k_with "CompSrc" => ((k_here; k_dflt (first | (refine LCg.CompSrc.ledger (by rfl) (by k_asm) (by k_asm) (by k_mem) (by first | size_fits | exact Nat.le_of_ble_eq_true rfl) ?_; intro g'; lcg_lit) | (refine LCg.CompSrc.range (by rfl) (by k_asm) (by k_asm) (by assumption) (by first | decide | rfl) (by first | rfl | decide) (by first | size_fits | exact Nat.le_of_ble_eq_true rfl) ?_; intro g'; lcg_lit))))
  k_with "CompRest" => ((with_unfolding_all first | (refine LCg.CompRest.succ ?_; intro v' I' oI' C' oC' D' m' h' tk' E' hv' hC' hx' F' N' off' ne'; clear ne'; (first | lcg_open hv' | (obtain ⟨t9', hv9'⟩ := hv'; subst hv9')); (try dsimp only); (try k_fold)) | refine LCg.CompRest.zero ?_))
  k_with "CompRestT" => ((with_unfolding_all first | (refine LCt.CompRestT.succ ?_; intro v' I' oI' C' oC' D' m' h' tk' E' hv' hC' hx' F' N' off' ne'; clear ne'; (first | lcg_open hv' | (obtain ⟨t9', hv9'⟩ := hv'; subst hv9')); (try dsimp only); (try k_fold)) | refine LCt.CompRestT.zero ?_))
  k_with "CompEnd" => ((refine LCg.CompEnd.intro (by assumption) (by assumption) _ (fun _ hp => hp) (by assumption) (by lcg_src) ?_))
  k_with "FinE" => (((unfold LCg.FinE); intro D' h' tk' F' N' o1'; (try simp only [List.nil_append, List.cons_append] at N'); (try dsimp only)))
  k_with "FinA" => (((unfold LCg.FinA); intro D' h' tk' F' N' o1'; (try simp only [List.nil_append, List.cons_append] at N'); (try dsimp only)))
  k_with "pegs if" => (first | exact pif0 | exact pif1 | exact pif2)
  obtain ⟨R0, hR0⟩ : ∃ R0, pdec 4 (pst0 x y z) = R0 := ⟨_, rfl⟩
  rw [hR0]
  replace hR0 := PySem.Flt.Hid.mk hR0
  replace ok := PySem.Flt.Hid.mk ok
  dsimp only [PCo]
  intros
  rename_i hret
  refine wpAny_call ?_
  k_dflt (refine' code_defCG ?k1 ?k2 ?k3 ?k4 ?k5 ?kA ?kF ?kK ?k6 ?k7 ?k8 ?k9 ?kB ?kD ?_ ?c2 ?c3 ?c4; (case kA => exact rfl); (case kF => exact rfl); (case kK => assumption); (case k1 => k_asm); (case k2 => k_asm); (case k3 => k_asm); (case k4 => k_asm); (case k5 => k_asm); (case k6 => k_is); (case k7 => k_is); (case k8 => ktr_room); (case k9 => exact BindsTo.of_eq rfl); (case kB => exact rfl); (case kD => decide +kernel); (case c2 => exact rfl); (case c3 => exact rfl); (case c4 => exact rfl); k_whole; intro g' L' h' tk' cells' FG' F' N' Y' B' X' T' l1 kG'; (try k_lt l1); k_cells Y'; (try simp only [List.cons_append, List.nil_append] at N'); (try dsimp only); (try k_lift B'); (try k_fold))
  replace F' : Fr g' L' h' (fun _ => none) := by with_unfolding_all exact F'
  rename_i d1 d2 d3
  replace d3 := Eq.trans d3 (show _ = Data.cell (some (Value.ref l)) by with_unfolding_all rfl)
  k_with "exec While Compare cons nil" => (k_dflt (refine' while_J (i := 4) [(L' + 1 + 1 + 1, _), (L' + 1 + 1, _), (L' + 1, _), (l, fl3 x y z a b c n), (_, listOf (List.toArray []) _), (l, fl3 x y z a b c n)] (JP L' l (fl3 x y z a b c n) R0) ?hE ?F ?N ?hs ?hj ?turn; (case hE => first | passes_own | with_unfolding_all passes_own); (case F => assumption); (case N => assumption); (case hs => lcg_sub); (case hj => exact ⟨pst0 x y z, [], [], _, _, _, _, _, _, _, _, _, _, _, _, _, rfl, rfl, rfl, (by show (-1 : Int) ≤ 1 ∧ (1 : Int) ≤ 1; decide), ok.out, hR0.out, .nil, rfl, rfl, (by omega), ⟨by k_ne, by k_ne, by k_ne, by k_ne, trivial⟩, (by omega), ⟨_, d1⟩, by assumption, d3⟩); (case' turn => (rintro i m nd h tk1 ⟨st, ps, vs, D, P, k, n1, t1, t2, t3, t4, t5, t6, o1, o2, o3, e1, e2, e3, hb, hok, hR, hi, hlen, rfl, hlL, hD, hP, ⟨v1, hv1⟩, hv2, hv3⟩ F1 N1; rw [pin_eq e3, pin_eq e2, pin_eq e1] at F1; dsimp only at F1; clear e1 e2 e3; rcases i with _ | i; all_goals (replace hR := PySem.Flt.Hid.mk hR); all_goals (first | (obtain ⟨hrgb, hfin, hrng, hk2, hokn⟩ := pokn_parts hok; replace hokn := PySem.Flt.Hid.mk hokn; clear hok) | clear hok); all_goals (dsimp only; (try k_unmd); (try k_fold); (try k_sweep))))))
  k_with "xsteps" => (repeat' (first | (k_unfold; (try dsimp only)) | ((with_reducible show wpAny _ _ (exec _ _) _ _ _); k_fold) | walk1 | (dsimp only; walk1) | (leave1; try dsimp only) | fail "no step"))
  k_with "eval IfExp Compare BinOp Subscript" => (k_dflt (refine' ifexp_join ?zt ?zb ?ze ?_); (case zt => (walk_at "xsteps"; exact ⟨_, rfl, rfl⟩)); (case zb => (intro k9; (try dsimp only); walk_at "xsteps"; exact ⟨_, _, rfl, rfl⟩)); (case ze => (intro k9; (try dsimp only); walk_at "xsteps"; exact ⟨_, _, rfl, rfl⟩)); intro t9 k9; (try dsimp only))
  k_with "WhlIf" => (first | (refine WhlIf.yes (by simp only [List.size_toArray, decide_eq_true_eq]; omega) ?_) | (refine WhlIf.no (by simp only [List.size_toArray, decide_eq_false_iff_not]; omega) ?_))
  k_with "call builtin:len" => (k_dflt (refine len_list (News.isList (by k_asm) (by k_mem)) (by simp only [List.size_toArray]; omega) ?_))
  k_with "call type:int" => (k_dflt (refine int_fin rfl hfin ?_))
  k_with "call ref" => ((with_reducible show wpAny _ _ (call (Value.ref 28) _) _ _ _); k_dflt (refine' useo (rgb_call _ _ _ _ _ _ _ _ _ _ hrgb) ?k1 ?k2 ?k3 ?k4 ?k5 ?k6 ?k7 ?k8 ?k9 ?_; (case k1 => k_asm); (case k2 => k_asm); (case k3 => k_asm); (case k4 => k_asm); (case k5 => k_asm); (case k6 => first | exact rfl | assumption); (case k7 => ktr_room); (case k8 => ktr_units); (case k9 => exact List.forall_mem_nil _); k_whole; rintro r9 _ h9 tk9 ⟨u1, u2, u3, u4, rfl⟩ F9 N9 O9; (try dsimp only); (try k_fold); (try k_sweep); walk_say "CONTRACT rgb"))
  walk_at "xsteps"
  · refine finN hret (by assumption) (by assumption) (by k_mem) (by simp only [List.map_cons, List.map_nil, List.mem_singleton]; k_ne) (by assumption) (by assumption) (by lcg_sub) ⟨vs, k, rfl, ?_⟩
    have e := hR.out
    rw [pdec, List.append_nil] at e
    exact e ▸ hi
  all_goals (dsimp only [WJPost])
  all_goals (refine' WJEnd.intro ?F ?N [(L' + 1 + 1 + 1, _), (L' + 1 + 1, _), (L' + 1, _), (_, fl3 _ _ _ _ _ _ _), (P, listOf (vs.toArray.push (.int (pegF st) _)) _), (l, _)] (Nat.lt_succ_self _) ?hs (JP.next (st := st) (ps := ps) (vs := vs) (P := P) ?m1 ?m2 ?m3 hb hokn hR hi hlen ?hx ?hy ?hz hlL ?hD hP ?hv1 ?hv2 ?hv3); (case F => assumption); (case N => assumption); (case hv3 => assumption); (case hv2 => assumption); (case hs => lcg_sub); (case hv1 => exact ⟨_, by assumption⟩); (case m1 => rfl); (case m2 => rfl); (case m3 => rfl); (case hD => exact ⟨by k_ne, by k_ne, by k_ne, by k_ne, trivial⟩); (case hx => walk_at "pegs if"); (case hy => walk_at "pegs if"); (case hz => walk_at "pegs if"))
end
section
open PySem PySem.W PySem.Calls PyProof.Rows PySem.Spec
noncomputable abbrev wantS (a b c e d t n : Int) : Str := (Txt.slice (F4 a b c e) none (some d) ++ S "...") ++ Txt.mul (chS t) n
theorem box4 {P : Int → Int → Int → Int → Prop} (h : ∀ a ∈ ([0, 1, 2] : List Int), ∀ b ∈ ([0, 1, 2] : List Int), ∀ c ∈ ([0, 1, 2] : List Int), ∀ d ∈ ([0, 1, 2] : List Int), P a b c d) {a b c d : Int} (ha : Bx a) (hb : Bx b) (hc : Bx c) (hd : Bx d) : P a b c d :=
  h a (bx_mem ha) b (bx_mem hb) c (bx_mem hc) d (bx_mem hd)
theorem sl1 {a b c e : Int} (ha : Bx a) (hb : Bx b) (hc : Bx c) (he : Bx e) : Txt.slice (F4 a b c e) none (some 1) = chS a :=
  box4 (P := fun a b c e => Txt.slice (F4 a b c e) none (some 1) = chS a) (by decide +kernel) ha hb hc he
theorem sl2 {a b c e : Int} (ha : Bx a) (hb : Bx b) (hc : Bx c) (he : Bx e) : Txt.slice (F4 a b c e) none (some 2) = chS a ++ chS b :=
  box4 (P := fun a b c e => Txt.slice (F4 a b c e) none (some 2) = chS a ++ chS b) (by decide +kernel) ha hb hc he
theorem sl3 {a b c e : Int} (ha : Bx a) (hb : Bx b) (hc : Bx c) (he : Bx e) : Txt.slice (F4 a b c e) none (some 3) = chS a ++ chS b ++ chS c :=
  box4 (P := fun a b c e => Txt.slice (F4 a b c e) none (some 3) = chS a ++ chS b ++ chS c) (by decide +kernel) ha hb hc he
theorem sl0 {a b c e : Int} (ha : Bx a) (hb : Bx b) (hc : Bx c) (he : Bx e) : Txt.slice (F4 a b c e) none (some 0) = ⟨#[]⟩ :=
  box4 (P := fun a b c e => Txt.slice (F4 a b c e) none (some 0) = ⟨#[]⟩) (by decide +kernel) ha hb hc he
noncomputable abbrev WOk (x p q : Str) : Prop := (Builtin.Str.occurrences x (S "...") 0 x.length 1).isEmpty = false ∧ Txt.split x (S "...") = [p, q] ∧ x.length ≤ 100
theorem w0 : ∀ t ∈ ([0, 1, 2] : List Int), WOk (((⟨#[]⟩ : Str) ++ S "...") ++ Txt.mul (chS t) 3) ⟨#[]⟩ (Txt.mul (chS t) 3) := by decide +kernel
theorem w1 : ∀ a ∈ ([0, 1, 2] : List Int), ∀ t ∈ ([0, 1, 2] : List Int), WOk ((chS a ++ S "...") ++ Txt.mul (chS t) 2) (chS a) (Txt.mul (chS t) 2) := by decide +kernel
theorem w2 : ∀ a ∈ ([0, 1, 2] : List Int), ∀ b ∈ ([0, 1, 2] : List Int), ∀ t ∈ ([0, 1, 2] : List Int), WOk (((chS a ++ chS b) ++ S "...") ++ Txt.mul (chS t) 1) (chS a ++ chS b) (Txt.mul (chS t) 1) := by decide +kernel
theorem w3 : ∀ a ∈ ([0, 1, 2] : List Int), ∀ b ∈ ([0, 1, 2] : List Int), ∀ c ∈ ([0, 1, 2] : List Int), ∀ t ∈ ([0, 1, 2] : List Int), WOk (((chS a ++ chS b ++ chS c) ++ S "...") ++ Txt.mul (chS t) 0) (chS a ++ chS b ++ chS c) ⟨#[]⟩ := by decide +kernel
theorem e0 : ∀ t ∈ ([0, 1, 2] : List Int), ∀ x ∈ ([0, 1, 2] : List Int), ∀ y ∈ ([0, 1, 2] : List Int), ∀ z ∈ ([0, 1, 2] : List Int), ∀ u ∈ ([0, 1, 2] : List Int), Txt.endswith (F4 x y z u) (Txt.mul (chS t) 3) = (y == t && (z == t && u == t)) := by decide +kernel
theorem e1 : ∀ t ∈ ([0, 1, 2] : List Int), ∀ x ∈ ([0, 1, 2] : List Int), ∀ y ∈ ([0, 1, 2] : List Int), ∀ z ∈ ([0, 1, 2] : List Int), ∀ u ∈ ([0, 1, 2] : List Int), (Txt.startswith (F4 x y z u) (chS x) && Txt.endswith (F4 x y z u) (Txt.mul (chS t) 2)) = (z == t && u == t) := by decide +kernel
theorem e2 : ∀ t ∈ ([0, 1, 2] : List Int), ∀ x ∈ ([0, 1, 2] : List Int), ∀ y ∈ ([0, 1, 2] : List Int), ∀ z ∈ ([0, 1, 2] : List Int), ∀ u ∈ ([0, 1, 2] : List Int), (Txt.startswith (F4 x y z u) (chS x ++ chS y) && Txt.endswith (F4 x y z u) (Txt.mul (chS t) 1)) = (u == t) := by decide +kernel
theorem e3 : ∀ x ∈ ([0, 1, 2] : List Int), ∀ y ∈ ([0, 1, 2] : List Int), ∀ z ∈ ([0, 1, 2] : List Int), ∀ u ∈ ([0, 1, 2] : List Int), Txt.startswith (F4 x y z u) (chS x ++ chS y ++ chS z) = true := by decide +kernel
theorem l3 : ∀ t ∈ ([0, 1, 2] : List Int), (Txt.mul (chS t) 3).length = 3 := by decide +kernel
theorem l2 : ∀ t ∈ ([0, 1, 2] : List Int), (Txt.mul (chS t) 2).length = 2 := by decide +kernel
theorem l1' : ∀ t ∈ ([0, 1, 2] : List Int), (Txt.mul (chS t) 1).length = 1 := by decide +kernel
section
variable (w : World) (s00 : Heap) (mg mb : Str → Option Value) {a b c e t x y z u d n : Int} {ta tb : Tok}
theorem ell0 (ha : Bx a) (hb : Bx b) (hc : Bx c) (he : Bx e) (ht : Bx t) (hx : Bx x) (hy : Bx y) (hz : Bx z) (hu : Bx u) (hd : d = 0) (hn : n = 3) :
    PCv 2 w s00 mg mb 42 [] [.str (wantS a b c e d t n) ta, .str (F4 x y z u) tb] (fun _ => .bool (y == t && (z == t && u == t))) := by
  subst hd hn
  have h4 := len_F4 hx hy hz hu
  rw [wantS, sl0 ha hb hc he, ← e0 t (bx_mem ht) x (bx_mem hx) y (bx_mem hy) z (bx_mem hz) u (bx_mem hu)]
  have k := w0 t (bx_mem ht)
  exact ellA w s00 mg mb _ _ _ _ ta tb k.1 k.2.1 k.2.2 (by omega) rfl (l3 t (bx_mem ht)) h4
theorem ell1 (ha : Bx a) (hb : Bx b) (hc : Bx c) (he : Bx e) (ht : Bx t) (hx : Bx x) (hy : Bx y) (hz : Bx z) (hu : Bx u) (h0 : a = x) (hd : d = 1) (hn : n = 2) :
    PCv 2 w s00 mg mb 42 [] [.str (wantS a b c e d t n) ta, .str (F4 x y z u) tb] (fun _ => .bool (z == t && u == t)) := by
  subst hd hn h0
  have h4 := len_F4 hx hy hz hu
  have i1 := len_ch ha
  have i2 := l2 t (bx_mem ht)
  rw [wantS, sl1 ha hb hc he, ← e1 t (bx_mem ht) a (bx_mem hx) y (bx_mem hy) z (bx_mem hz) u (bx_mem hu)]
  have k := w1 a (bx_mem ha) t (bx_mem ht)
  exact ellB w s00 mg mb _ _ _ _ ta tb k.1 k.2.1 k.2.2 (by omega) (by omega) (by omega) (by omega)
theorem ell2 (ha : Bx a) (hb : Bx b) (hc : Bx c) (he : Bx e) (ht : Bx t) (hx : Bx x) (hy : Bx y) (hz : Bx z) (hu : Bx u) (h0 : a = x) (h1 : b = y) (hd : d = 2) (hn : n = 1) :
    PCv 2 w s00 mg mb 42 [] [.str (wantS a b c e d t n) ta, .str (F4 x y z u) tb] (fun _ => .bool (u == t)) := by
  subst hd hn h0 h1
  have h4 := len_F4 hx hy hz hu
  have i1 : (chS a ++ chS b).length = 2 := by rw [strLen_append, len_ch ha, len_ch hb]
  have i2 := l1' t (bx_mem ht)
  rw [wantS, sl2 ha hb hc he, ← e2 t (bx_mem ht) a (bx_mem hx) b (bx_mem hy) z (bx_mem hz) u (bx_mem hu)]
  have k := w2 a (bx_mem ha) b (bx_mem hb) t (bx_mem ht)
  exact ellB w s00 mg mb _ _ _ _ ta tb k.1 k.2.1 k.2.2 (by omega) (by omega) (by omega) (by omega)
theorem ell3 (ha : Bx a) (hb : Bx b) (hc : Bx c) (he : Bx e) (ht : Bx t) (hx : Bx x) (hy : Bx y) (hz : Bx z) (hu : Bx u) (h0 : a = x) (h1 : b = y) (h2 : c = z) (hd : d = 3) (hn : n = 0) :
    PCv 2 w s00 mg mb 42 [] [.str (wantS a b c e d t n) ta, .str (F4 x y z u) tb] (fun _ => .bool true) := by
  subst hd hn h0 h1 h2
  have h4 := len_F4 hx hy hz hu
  have i1 : (chS a ++ chS b ++ chS c).length = 3 := by rw [strLen_append, strLen_append, len_ch ha, len_ch hb, len_ch hc]
  rw [wantS, sl3 ha hb hc he, ← e3 a (bx_mem hx) b (bx_mem hy) c (bx_mem hz) u (bx_mem hu)]
  have k := w3 a (bx_mem ha) b (bx_mem hb) c (bx_mem hc) t (bx_mem ht)
  exact ellC w s00 mg mb _ _ _ _ ta tb k.1 k.2.1 k.2.2 (by omega) i1 rfl h4
end
theorem bx_third {p q : Int} (hp : Bx p) (hq : Bx q) (h : p ≠ q) : Bx (3 - p - q) := ⟨by omega, by omega⟩
theorem len_d3 : (Str.ofString "...").length = 3 := by decide +kernel
theorem want_len1 {x : Str} (h : x.length ≤ 4) : x.length + (Str.ofString "...").length ≤ sizeLine := by rw [len_d3, sizeLine_eq]; omega
theorem want_len2 {x : Str} {t n : Int} (h : x.length ≤ 4) (ht : Bx t) (hn : n ≤ 3) : (x ++ Str.ofString "...").length + (Txt.mul (chS t) n).length ≤ sizeLine := by
  have := len_mul_leN (x := chS t) (n := n) (L := 1) (N := 3) (Nat.le_of_eq (len_ch ht)) hn
  rw [strLen_append, len_d3, sizeLine_eq]; omega
theorem mul_ok {t n : Int} (ht : Bx t) (h0 : 0 ≤ n) (hn : n ≤ 3) : MulOk (chS t) n :=
  mulOk_of 16 16 (by rw [len_ch ht]; decide) (by omega) (by omega) (by decide) (by decide)
end
section
open PySem PySem.W PySem.Calls PyProof.Rows
theorem taken_call (w : World) (s00 : Heap) (mg mb : Str → Option Value) (p0 p1 p2 p3 q0 q1 q2 q3 : Int) (a0 a1 a2 a3 b0 b1 b2 b3 : Tok) (n n' : Nat) (lo ln : Addr)
   (hp0 : Bx p0) (hp1 : Bx p1) (hp2 : Bx p2) (hp3 : Bx p3) (hq0 : Bx q0) (hq1 : Bx q1) (hq2 : Bx q2) (hq3 : Bx q3) :
   PCv 4 w s00 mg mb 64 [(lo, ints4 p0 p1 p2 p3 a0 a1 a2 a3 n), (ln, ints4 q0 q1 q2 q3 b0 b1 b2 b3 n')] [.ref lo, .ref ln] (fun t => .bool (takenF p0 p1 p2 p3 q0 q1 q2 q3)) := by
  k_with_none
  k_with "ne" => (first | exact off1_mem (by with_reducible assumption) (_, _) (by k_mem) | exact Ne.symm (off1_mem (by with_reducible assumption) (_, _) (by k_mem)) | with_reducible exact nd1 _ | with_reducible exact nd2 _ | with_reducible exact nd3 _ | with_reducible exact nd4 _ | with_reducible exact nd5 _ | with_reducible exact nd1' _ | with_reducible exact nd2' _ | with_reducible exact nd3' _ | with_reducible exact nd4' _ | with_reducible exact nd5' _ | (refine Nat.ne_of_lt ?_; with_reducible walk_at "lt") | (refine Nat.ne_of_gt ?_; with_reducible walk_at "lt"))
  k_with "lt" => (first | assumption | exact And.left (by assumption) | exact And.left (And.right (by assumption)) | exact And.right (by assumption) | exact And.left (And.right (And.right (by assumption))) | exact And.right (And.right (by assumption)) | exact And.left (And.right (And.right (And.right (by assumption)))) | exact And.right (And.right (And.right (by assumption))) | exact And.left (And.right (And.right (And.right (And.right (by assumption))))) | exact And.right (And.right (And.right (And.right (by assumption)))) | exact And.left (And.right (And.right (And.right (And.right (And.right (by assumption)))))) | exact And.right (And.right (And.right (And.right (And.right (by assumption))))) | exact And.left (And.right (And.right (And.right (And.right (And.right (And.right (by assumption))))))) | exact And.right (And.right (And.right (And.right (And.right (And.right (by assumption)))))) | exact And.left (And.right (And.right (And.right (And.right (And.right (And.right (And.right (by assumption)))))))) | exact And.right (And.right (And.right (And.right (And.right (And.right (And.right (by assumption))))))) | exact And.left (And.right (And.right (And.right (And.right (And.right (And.right (And.right (And.right (by assumption))))))))) | exact And.right (And.right (And.right (And.right (And.right (And.right (And.right (And.right (by assumption)))))))) | exact And.left (And.right (And.right (And.right (And.right (And.right (And.right (And.right (And.right (And.right (by assumption)))))))))) | exact And.right (And.right (And.right (And.right (And.right (And.right (And.right (And.right (And.right (by assumption))))))))) | exact And.left (And.right (And.right (And.right (And.right (And.right (And.right (And.right (And.right (And.right (And.right (by assumption))))))))))) | exact And.right (And.right (And.right (And.right (And.right (And.right (And.right (And.right (And.right (And.right (by assumption)))))))))))
  k_with "xsteps" => (repeat' (first | (k_unfold; (try dsimp only)) | ((with_reducible show wpAny _ _ (exec _ _) _ _ _); k_fold) | walk1 | (dsimp only; walk1) | (leave1; try dsimp only) | fail "no step"))
  k_with "eval Name" => ((k_here; (with_reducible show wpAny _ _ (eval (Expr.Name _ _) (compEnvC _ _ _ _)) _ _ _); k_dflt (first | (refine' LCgL.ld_own ?N ?m ?C ?x ?_ ?k ?l ?d; (case l => rfl); (case k => rfl); (case d => decide); (case N => k_asm); (case m => k_mem); (case C => assumption); (case x => assumption); k_whole) | (refine' lcf_free ?N ?c ?m ?d ?_ ?a ?b; (case b => rfl); (case a => rfl); (case N => k_asm); (case c => rfl); (case m => k_mem); (case d => k_asm); k_whole) | (refine' LCgL.ld_global ?F ?X ?T ?e ?_ ?g ?k ?x ?d; (case x => rfl); (case F => k_asm); (case X => k_asm); (case T => k_asm); (case e => k_is); (case g => rfl); (case k => rfl); (case d => decide); k_whole))))
  k_with "subscriptTail Name Name ref int" => ((k_here; (with_reducible show wpAny _ _ (subscriptTail _ _ (Value.ref _) (Value.int _ _)) _ _ _); k_dflt (refine' item_N ?N ?m ?h0 ?h1 ?hx ?_; (case N => k_asm); (case m => k_mem); (case h0 => decide); (case h1 => decide); (case hx => rfl); k_whole)))
  k_with "subscriptTail Name Constant ref int" => ((k_here; (with_reducible show wpAny _ _ (subscriptTail _ _ (Value.ref _) (Value.int _ _)) _ _ _); k_dflt (refine' item_N ?N ?m ?h0 ?h1 ?hx ?_; (case N => k_asm); (case m => k_mem); (case h0 => decide); (case h1 => decide); (case hx => rfl); k_whole)))
  k_with "CompSrc" => ((k_here; k_dflt (first | (refine LCg.CompSrc.ledger (by rfl) (by k_asm) (by k_asm) (by k_mem) (by first | size_fits | exact Nat.le_of_ble_eq_true rfl) ?_; intro g'; lcg_lit) | (refine LCg.CompSrc.range (by rfl) (by k_asm) (by k_asm) (by assumption) (by first | decide | rfl) (by first | rfl | decide) (by first | size_fits | exact Nat.le_of_ble_eq_true rfl) ?_; intro g'; lcg_lit))))
  k_with "CompRest" => ((with_unfolding_all first | (refine LCg.CompRest.succ ?_; intro v' I' oI' C' oC' D' m' h' tk' E' hv' hC' hx' F' N' off' ne'; clear ne'; (first | lcg_open hv' | (obtain ⟨t9', hv9'⟩ := hv'; subst hv9')); (try dsimp only); (try k_fold)) | refine LCg.CompRest.zero ?_))
  k_with "CompRestT" => ((with_unfolding_all first | (refine LCt.CompRestT.succ ?_; intro v' I' oI' C' oC' D' m' h' tk' E' hv' hC' hx' F' N' off' ne'; clear ne'; (first | lcg_open hv' | (obtain ⟨t9', hv9'⟩ := hv'; subst hv9')); (try dsimp only); (try k_fold)) | refine LCt.CompRestT.zero ?_))
  k_with "CompEnd" => ((refine LCg.CompEnd.intro (by assumption) (by assumption) _ (fun _ hp => hp) (by assumption) (by lcg_src) ?_))
  k_with "FinE" => (((unfold LCg.FinE); intro D' h' tk' F' N' o1'; (try simp only [List.nil_append, List.cons_append] at N'); (try dsimp only)))
  k_with "FinA" => (((unfold LCg.FinA); intro D' h' tk' F' N' o1'; (try simp only [List.nil_append, List.cons_append] at N'); (try dsimp only)))
  k_with "exec Assign cons ListComp" => ((k_here; lct_look; k_dflt (refine LCt.Assign_ListComp_T (F₀ := by k_asm) (by rfl) (by with_unfolding_all rfl) (by with_unfolding_all rfl) (by decide) (by rfl) (by decide) (by rfl) (by rfl) (by rfl) ?_)))
  k_with "CompSrcT" => ((k_here; k_dflt (first | (refine LCt.CompSrcT.ledger (by rfl) (by k_asm) (by k_asm) (by k_mem) (by first | size_fits | exact Nat.le_of_ble_eq_true rfl) ?_; intro g'; first | lct_lit | (with_unfolding_all change @LCt.CompRestT _ _ _ _ _ _ _ _ _ _ _ _ _ _ _ _ 4 _ _ _)) | (refine LCt.CompSrcT.range (by rfl) (by k_asm) (by k_asm) (by assumption) (by first | decide | rfl) (by first | rfl | decide) (by first | size_fits | exact Nat.le_of_ble_eq_true rfl) ?_; intro g'; first | lct_lit | (with_unfolding_all change @LCt.CompRestT _ _ _ _ _ _ _ _ _ _ _ _ _ _ _ _ 4 _ _ _)))))
  k_with "subscriptTail Name Slice str ref" => (k_dflt ((rename Fr _ _ _ _ => F9); (rename News _ _ _ _ => N9); (refine slice_strN_ns_len (hsz := by rw [len_F4 (by assumption) (by assumption) (by assumption) (by assumption)]; decide) (s := ⟨_, _, _, _, _⟩) F9 N9 ?_); clear F9 N9; intro h9 t9 k9 F9 N9 l9; rw [len_F4 (by assumption) (by assumption) (by assumption) (by assumption)] at l9))
  k_with "subscriptTail" => ((with_reducible show wpAny _ _ (subscriptTail _ _ (Value.str _ _) (Value.int _ _)) _ _ _); k_dflt (refine xyz_item (by first | exact hp0 | exact hp1 | exact hp2 | exact hp3 | exact hq0 | exact hq1 | exact hq2 | exact hq3 | exact bx_third hp0 hq0 (by assumption) | exact bx_third hp1 hq1 (by assumption) | exact bx_third hp2 hq2 (by assumption) | exact bx_third hp3 hq3 (by assumption)) ?_; intro t9 k9))
  k_with "call builtin:str.join" => (k_dflt (refine join_4 (by k_asm) (by k_mem) (by assumption) (by assumption) (by assumption) (by assumption) ?_; intro t9 k9))
  k_with "binaryOp Mult str int" => (k_dflt (refine SB.mul (mul_ok (by first | exact bx_third hp0 hq0 (by assumption) | exact bx_third hp1 hq1 (by assumption) | exact bx_third hp2 hq2 (by assumption) | exact bx_third hp3 hq3 (by assumption)) (by decide) (by decide)) ?_; intro t9 k9))
  k_with "binaryOp Add str str" => (k_dflt (first | ((with_reducible show wpAny _ _ (binaryOp _ (Value.str (Txt.slice _ _ _) _) _) _ _ _); refine add_str ?_ (want_len1 l9); intro t9 k9) | (refine add_str ?_ (want_len2 l9 (by first | exact bx_third hp0 hq0 (by assumption) | exact bx_third hp1 hq1 (by assumption) | exact bx_third hp2 hq2 (by assumption) | exact bx_third hp3 hq3 (by assumption)) (by decide)); intro t9 k9)))
  k_with "call ref" => (k_dflt (first
    | ((with_reducible show wpAny _ _ (call (Value.ref 42) [Value.str (_ ++ Txt.mul (chS (3 - p0 - q0)) _) _, Value.str (F4 p0 p1 p2 p3) _]) _ _ _); refine' usev (ell0 w s00 mg mb hp0 hp1 hp2 hp3 (bx_third hp0 hq0 (by assumption)) hp0 hp1 hp2 hp3  (by exact rfl) (by exact rfl)) ?k1 ?k2 ?k3 ?k4 ?k5 ?k6 ?k7 ?k8 ?k9 ?_; (case k1 => k_asm); (case k2 => k_asm); (case k3 => k_asm); (case k4 => k_asm); (case k5 => k_asm); (case k6 => first | exact rfl | assumption); (case k7 => ktr_room); (case k8 => ktr_units); (case k9 => exact List.forall_mem_nil _); k_whole; intro t9 h9 k9 F9 N9)
    | ((with_reducible show wpAny _ _ (call (Value.ref 42) [Value.str (_ ++ Txt.mul (chS (3 - p1 - q1)) _) _, Value.str (F4 p0 p1 p2 p3) _]) _ _ _); refine' usev (ell1 w s00 mg mb hp0 hp1 hp2 hp3 (bx_third hp1 hq1 (by assumption)) hp0 hp1 hp2 hp3 rfl (by exact rfl) (by exact rfl)) ?k1 ?k2 ?k3 ?k4 ?k5 ?k6 ?k7 ?k8 ?k9 ?_; (case k1 => k_asm); (case k2 => k_asm); (case k3 => k_asm); (case k4 => k_asm); (case k5 => k_asm); (case k6 => first | exact rfl | assumption); (case k7 => ktr_room); (case k8 => ktr_units); (case k9 => exact List.forall_mem_nil _); k_whole; intro t9 h9 k9 F9 N9)
    | ((with_reducible show wpAny _ _ (call (Value.ref 42) [Value.str (_ ++ Txt.mul (chS (3 - p2 - q2)) _) _, Value.str (F4 p0 p1 p2 p3) _]) _ _ _); refine' usev (ell2 w s00 mg mb hp0 hp1 hp2 hp3 (bx_third hp2 hq2 (by assumption)) hp0 hp1 hp2 hp3 rfl rfl (by exact rfl) (by exact rfl)) ?k1 ?k2 ?k3 ?k4 ?k5 ?k6 ?k7 ?k8 ?k9 ?_; (case k1 => k_asm); (case k2 => k_asm); (case k3 => k_asm); (case k4 => k_asm); (case k5 => k_asm); (case k6 => first | exact rfl | assumption); (case k7 => ktr_room); (case k8 => ktr_units); (case k9 => exact List.forall_mem_nil _); k_whole; intro t9 h9 k9 F9 N9)
    | ((with_reducible show wpAny _ _ (call (Value.ref 42) [Value.str (_ ++ Txt.mul (chS (3 - p3 - q3)) _) _, Value.str (F4 p0 p1 p2 p3) _]) _ _ _); refine' usev (ell3 w s00 mg mb hp0 hp1 hp2 hp3 (bx_third hp3 hq3 (by assumption)) hp0 hp1 hp2 hp3 rfl rfl rfl (by exact rfl) (by exact rfl)) ?k1 ?k2 ?k3 ?k4 ?k5 ?k6 ?k7 ?k8 ?k9 ?_; (case k1 => k_asm); (case k2 => k_asm); (case k3 => k_asm); (case k4 => k_asm); (case k5 => k_asm); (case k6 => first | exact rfl | assumption); (case k7 => ktr_room); (case k8 => ktr_units); (case k9 => exact List.forall_mem_nil _); k_whole; intro t9 h9 k9 F9 N9)
    | ((with_reducible show wpAny _ _ (call (Value.ref 42) [Value.str (_ ++ Txt.mul (chS (3 - p0 - q0)) _) _, Value.str (F4 q0 q1 q2 q3) _]) _ _ _); refine' usev (ell0 w s00 mg mb hp0 hp1 hp2 hp3 (bx_third hp0 hq0 (by assumption)) hq0 hq1 hq2 hq3  (by exact rfl) (by exact rfl)) ?k1 ?k2 ?k3 ?k4 ?k5 ?k6 ?k7 ?k8 ?k9 ?_; (case k1 => k_asm); (case k2 => k_asm); (case k3 => k_asm); (case k4 => k_asm); (case k5 => k_asm); (case k6 => first | exact rfl | assumption); (case k7 => ktr_room); (case k8 => ktr_units); (case k9 => exact List.forall_mem_nil _); k_whole; intro t9 h9 k9 F9 N9)
    | ((with_reducible show wpAny _ _ (call (Value.ref 42) [Value.str (_ ++ Txt.mul (chS (3 - p1 - q1)) _) _, Value.str (F4 q0 q1 q2 q3) _]) _ _ _); refine' usev (ell1 w s00 mg mb hp0 hp1 hp2 hp3 (bx_third hp1 hq1 (by assumption)) hq0 hq1 hq2 hq3 (by assumption) (by exact rfl) (by exact rfl)) ?k1 ?k2 ?k3 ?k4 ?k5 ?k6 ?k7 ?k8 ?k9 ?_; (case k1 => k_asm); (case k2 => k_asm); (case k3 => k_asm); (case k4 => k_asm); (case k5 => k_asm); (case k6 => first | exact rfl | assumption); (case k7 => ktr_room); (case k8 => ktr_units); (case k9 => exact List.forall_mem_nil _); k_whole; intro t9 h9 k9 F9 N9)
    | ((with_reducible show wpAny _ _ (call (Value.ref 42) [Value.str (_ ++ Txt.mul (chS (3 - p2 - q2)) _) _, Value.str (F4 q0 q1 q2 q3) _]) _ _ _); refine' usev (ell2 w s00 mg mb hp0 hp1 hp2 hp3 (bx_third hp2 hq2 (by assumption)) hq0 hq1 hq2 hq3 (by assumption) (by assumption) (by exact rfl) (by exact rfl)) ?k1 ?k2 ?k3 ?k4 ?k5 ?k6 ?k7 ?k8 ?k9 ?_; (case k1 => k_asm); (case k2 => k_asm); (case k3 => k_asm); (case k4 => k_asm); (case k5 => k_asm); (case k6 => first | exact rfl | assumption); (case k7 => ktr_room); (case k8 => ktr_units); (case k9 => exact List.forall_mem_nil _); k_whole; intro t9 h9 k9 F9 N9)
    | ((with_reducible show wpAny _ _ (call (Value.ref 42) [Value.str (_ ++ Txt.mul (chS (3 - p3 - q3)) _) _, Value.str (F4 q0 q1 q2 q3) _]) _ _ _); refine' usev (ell3 w s00 mg mb hp0 hp1 hp2 hp3 (bx_third hp3 hq3 (by assumption)) hq0 hq1 hq2 hq3 (by assumption) (by assumption) (by assumption) (by exact rfl) (by exact rfl)) ?k1 ?k2 ?k3 ?k4 ?k5 ?k6 ?k7 ?k8 ?k9 ?_; (case k1 => k_asm); (case k2 => k_asm); (case k3 => k_asm); (case k4 => k_asm); (case k5 => k_asm); (case k6 => first | exact rfl | assumption); (case k7 => ktr_room); (case k8 => ktr_units); (case k9 => exact List.forall_mem_nil _); k_whole; intro t9 h9 k9 F9 N9)))
  dsimp only [PCv]
  intros
  rename_i hret
  refine wpAny_call ?_
  k_dflt (refine' code_defCG ?k1 ?k2 ?k3 ?k4 ?k5 ?kA ?kF ?kK ?k6 ?k7 ?k8 ?k9 ?kB ?kD ?_ ?c2 ?c3 ?c4; (case kA => exact rfl); (case kF => exact rfl); (case kK => assumption); (case k1 => k_asm); (case k2 => k_asm); (case k3 => k_asm); (case k4 => k_asm); (case k5 => k_asm); (case k6 => k_is); (case k7 => k_is); (case k8 => ktr_room); (case k9 => exact BindsTo.of_eq rfl); (case kB => exact rfl); (case kD => decide +kernel); (case c2 => exact rfl); (case c3 => exact rfl); (case c4 => exact rfl); k_whole; intro g' L' h' tk' cells' FG' F' N' Y' B' X' T' l1 kG'; (try k_lt l1); k_cells Y'; (try simp only [List.cons_append, List.nil_append] at N'); (try dsimp only); (try k_lift B'); (try k_fold))
  replace F' : Fr g' L' h' (fun _ => none) := by with_unfolding_all exact F'
  rename_i d1 d2
  replace d1 := Eq.trans d1 (show _ = Data.cell (some (Value.ref ln)) by with_unfolding_all rfl)
  replace d2 := Eq.trans d2 (show _ = Data.cell (some (Value.ref lo)) by with_unfolding_all rfl)
  walk_at "xsteps"
  all_goals (refine finB hret ?_ ?_)
  all_goals first
    | (exact keptN (by assumption) (by assumption) (by assumption) (by assumption) (by lcg_sub))
    | (rw [takenF]; (first | rw [if_pos (show p0 = q0 by assumption)] | rw [if_neg (show ¬p0 = q0 by assumption)]); (try (first | rw [if_pos (show p1 = q1 by assumption)] | rw [if_neg (show ¬p1 = q1 by assumption)])); (try (first | rw [if_pos (show p2 = q2 by assumption)] | rw [if_neg (show ¬p2 = q2 by assumption)])); (try (first | rw [if_pos (show p3 = q3 by assumption)] | rw [if_neg (show ¬p3 = q3 by assumption)])); done)
    | (rw [takenF]; (first | rw [if_pos (show p0 = q0 by assumption)] | rw [if_neg (show ¬p0 = q0 by assumption)]); (try (first | rw [if_pos (show p1 = q1 by assumption)] | rw [if_neg (show ¬p1 = q1 by assumption)])); (try (first | rw [if_pos (show p2 = q2 by assumption)] | rw [if_neg (show ¬p2 = q2 by assumption)])); (try (first | rw [if_pos (show p3 = q3 by assumption)] | rw [if_neg (show ¬p3 = q3 by assumption)])); (try rw [show p1 = q1 by assumption]); (try rw [show p2 = q2 by assumption]); (try rw [show p3 = q3 by assumption]); done)
end
section
open PySem PySem.W PySem.Calls PyProof.Rows PySem.Spec
/-- f at x, x told as a written number first: the kernel reckons it once -/
noncomputable def fn (n : Nat) (f : Nat → Bool) : Bool := Nat.rec (motive := fun _ => Bool) (f 0) (fun n _ => f (n + 1)) n
theorem fn_eq (n : Nat) (f : Nat → Bool) : fn n f = f n := by cases n <;> rfl
noncomputable def fo (x : UInt64) (f : UInt64 → Bool) : Bool := fn x.toNat fun n => f (UInt64.ofNat n)
theorem fo_eq (x : UInt64) (f : UInt64 → Bool) : fo x f = f x := by
  have e : UInt64.ofNat x.toNat = x := UInt64.ofNat_toNat
  rw [fo, fn_eq, e]
noncomputable def fi (x : Int) (f : Int → Bool) : Bool :=
  match x with
  | .ofNat n => fn n fun n => f (.ofNat n)
  | .negSucc n => fn n fun n => f (.negSucc n)
theorem fi_eq (x : Int) (f : Int → Bool) : fi x f = f x := by
  cases x with
  | ofNat n => exact fn_eq n fun n => f (.ofNat n)
  | negSucc n => exact fn_eq n fun n => f (.negSucc n)
noncomputable def lit (p q r s : Int) : LSt := [p, q, r, s].foldl lstep lst0
/-- the light k of the standing p q r s, in sixteenths -/
noncomputable def nl (k p q r s : Int) : Int :=
  (if p = k then 8 else 0) + (if Int.fmod (2 * p - q) 3 = k then 4 else 0) + (if Int.fmod (2 * p - 2 * q + r) 3 = k then 2 else 0) + (if Int.fmod (2 * p - 2 * q + 2 * r - s) 3 = k then 1 else 0)
noncomputable def fl16 (n : Int) : UInt64 := Float64.mul (Float64.ofInt n) 4589168020290535424
noncomputable def k16 : List Int := [0, 1, 2, 3, 4, 5, 6, 7, 8, 9, 10, 11, 12, 13, 14, 15]
/-- the lights, turn by turn, each number told first -/
noncomputable def lgo (turn sign : Int) (lamp x y z : UInt64) : List Int → (UInt64 → UInt64 → UInt64 → Bool) → Bool
  | [], f => f x y z
  | peg :: ps, f =>
    fi (Int.fmod (turn + sign * peg) 3) fun lab => fo (Float64.add x lamp) fun x1 => fo (Float64.add y lamp) fun y1 => fo (Float64.add z lamp) fun z1 =>
    fo (hueF lab 0) fun h0 => fo (hueF lab 1) fun h1 => fo (hueF lab 2) fun h2 =>
    fo (vF x x1 h0) fun x2 => fo (vF y y1 h1) fun y2 => fo (vF z z1 h2) fun z2 =>
    fi (turn + 2 * sign * peg) fun t2 => fi (-sign) fun s2 => fo (Float64.div lamp (Float64.ofInt 2)) fun l2 => lgo t2 s2 l2 x2 y2 z2 ps f
theorem lgo_eq (ps : List Int) (f : UInt64 → UInt64 → UInt64 → Bool) : ∀ st : LSt, lgo st.turn st.sign st.lamp st.x st.y st.z ps f = f (ps.foldl lstep st).x (ps.foldl lstep st).y (ps.foldl lstep st).z := by
  induction ps with
  | nil => intro st; rfl
  | cons p ps ih =>
    intro st
    rw [lgo]
    simp only [fi_eq, fo_eq]
    exact ih (lstep st p)
noncomputable def litOk (p q r s : Int) : Bool :=
  fi (nl 0 p q r s) fun a => fi (nl 1 p q r s) fun b => fi (nl 2 p q r s) fun c => fo (fl16 a) fun u => fo (fl16 b) fun v => fo (fl16 c) fun w =>
  lgo 0 1 4602678819172646912 0 0 0 [p, q, r, s] fun x y z => x == u && y == v && z == w
theorem litOk_eq {p q r s : Int} (h : litOk p q r s = true) : (lit p q r s).x = fl16 (nl 0 p q r s) ∧ (lit p q r s).y = fl16 (nl 1 p q r s) ∧ (lit p q r s).z = fl16 (nl 2 p q r s) := by
  unfold litOk at h
  simp only [fi_eq, fo_eq] at h
  rw [show lgo 0 1 4602678819172646912 0 0 0 [p, q, r, s] _ = _ from lgo_eq [p, q, r, s] _ lst0, Bool.and_eq_true, Bool.and_eq_true, beq_iff_eq, beq_iff_eq, beq_iff_eq] at h
  exact ⟨h.1.1, h.1.2, h.2⟩
/-- hue * 3 + a half, each number told first -/
noncomputable def numG (x y z : UInt64) (f : Bool → UInt64 → Bool) : Bool :=
  fo (mx x y z) fun M => fo (mn x y z) fun m => fo (Float64.sub M m) fun rg => fo (Float64.div (Float64.sub M x) rg) fun rc => fo (Float64.div (Float64.sub M y) rg) fun gc => fo (Float64.div (Float64.sub M z) rg) fun bc =>
  fo (if Float64.cmp x M == some .eq then Float64.sub bc gc else if Float64.cmp y M == some .eq then Float64.sub (Float64.add 4611686018427387904 rc) bc else Float64.sub (Float64.add 4616189618054758400 gc) rc) fun h0 =>
  fo (Float64.divmod (Float64.div h0 4618441417868443648) 4607182418800017408).2 fun h =>
  fo (Float64.add (Float64.mul h 4613937818241073152) 4602678819172646912) fun n => f (!(Float64.cmp m M == some .eq) && !Float64.isZero M && !Float64.isZero rg) n
theorem numG_eq (x y z : UInt64) (f : Bool → UInt64 → Bool) : numG x y z f = f (rgbOk x y z) (numF x y z) := by
  unfold numG
  simp only [fo_eq]
  rfl
noncomputable def pgo : Nat → Int → Int → UInt64 → UInt64 → UInt64 → UInt64 → List Int → Bool
  | 0, _, _, _, _, _, _, R => R.isEmpty
  | n + 1, turn, sign, lamp, x, y, z, R =>
    numG x y z fun ok num => fi (Flt.toInt Float64.truncOf num) fun i => fi (Int.fmod i 3) fun lab => fi (Int.fmod (sign * (lab - turn)) 3) fun peg =>
    (ok && Float64.isFinite num && decide (-1000 ≤ i ∧ i ≤ 1000) && decide (-1000 ≤ turn ∧ turn ≤ 1000) && (R.head? == some peg)) &&
    fo (if lab = 0 then Float64.sub x lamp else x) fun x2 => fo (if lab = 1 then Float64.sub y lamp else y) fun y2 => fo (if lab = 2 then Float64.sub z lamp else z) fun z2 =>
    fi (turn + 2 * sign * peg) fun t2 => fi (-sign) fun s2 => fo (Float64.div lamp (Float64.ofInt 2)) fun l2 => pgo n t2 s2 l2 x2 y2 z2 R.tail
theorem pgo_eq : ∀ (n : Nat) (st : PSt) (R : List Int), pgo n st.turn st.sign st.lamp st.x st.y st.z R = true → pokn n st = true ∧ pdec n st = R := by
  intro n
  induction n with
  | zero => intro st R h; rw [pgo, List.isEmpty_iff] at h; exact ⟨rfl, h.symm⟩
  | succ n ih =>
    intro st R h
    rw [pgo, numG_eq] at h
    simp only [fi_eq, fo_eq] at h
    rw [Bool.and_eq_true] at h
    obtain ⟨h1, h2⟩ := h
    obtain ⟨e1, e2⟩ := ih (pnext st) R.tail h2
    simp only [Bool.and_eq_true, beq_iff_eq] at h1
    obtain ⟨⟨⟨⟨a1, a2⟩, a3⟩, a4⟩, a5⟩ := h1
    constructor
    · rw [pokn, e1, pok1, a1, a2, a4]
      simp only [Bool.true_and, Bool.and_true]
      exact a3
    · rw [pdec, e2]
      cases R with
      | nil => cases a5
      | cons v R => cases a5; rfl
noncomputable def pegOk (a b c d : Int) : Bool :=
  fi (nl 0 a b c d) fun u => fi (nl 1 a b c d) fun v => fi (nl 2 a b c d) fun w => fo (fl16 u) fun x => fo (fl16 v) fun y => fo (fl16 w) fun z => pgo 4 0 1 4602678819172646912 x y z [a, b, c, d]
theorem pegOk_eq {a b c d : Int} (h : pegOk a b c d = true) : pokn 4 (pst0 (fl16 (nl 0 a b c d)) (fl16 (nl 1 a b c d)) (fl16 (nl 2 a b c d))) = true ∧ pdec 4 (pst0 (fl16 (nl 0 a b c d)) (fl16 (nl 1 a b c d)) (fl16 (nl 2 a b c d))) = [a, b, c, d] := by
  unfold pegOk at h
  simp only [fi_eq, fo_eq] at h
  exact pgo_eq 4 (pst0 _ _ _) _ h
theorem pl_lit : ∀ p ∈ ([0, 1, 2] : List Int), ∀ q ∈ ([0, 1, 2] : List Int), ∀ r ∈ ([0, 1, 2] : List Int), ∀ s ∈ ([0, 1, 2] : List Int),
    (lit p q r s).x = fl16 (nl 0 p q r s) ∧ (lit p q r s).y = fl16 (nl 1 p q r s) ∧ (lit p q r s).z = fl16 (nl 2 p q r s) := by
  have e : ∀ p ∈ ([0, 1, 2] : List Int), ∀ q ∈ ([0, 1, 2] : List Int), ∀ r ∈ ([0, 1, 2] : List Int), ∀ s ∈ ([0, 1, 2] : List Int), litOk p q r s = true := by decide +kernel
  exact fun p hp q hq r hr s hs => litOk_eq (e p hp q hq r hr s hs)
theorem pl_peg0 : ∀ b ∈ ([0, 1, 2] : List Int), ∀ c ∈ ([0, 1, 2] : List Int), ∀ d ∈ ([0, 1, 2] : List Int), pegOk 0 b c d = true := by decide +kernel
theorem pl_peg1 : ∀ b ∈ ([0, 1, 2] : List Int), ∀ c ∈ ([0, 1, 2] : List Int), ∀ d ∈ ([0, 1, 2] : List Int), pegOk 1 b c d = true := by decide +kernel
theorem pl_peg2 : ∀ b ∈ ([0, 1, 2] : List Int), ∀ c ∈ ([0, 1, 2] : List Int), ∀ d ∈ ([0, 1, 2] : List Int), pegOk 2 b c d = true := by decide +kernel
theorem pl_pegs : ∀ a ∈ ([0, 1, 2] : List Int), ∀ b ∈ ([0, 1, 2] : List Int), ∀ c ∈ ([0, 1, 2] : List Int), ∀ d ∈ ([0, 1, 2] : List Int),
    pokn 4 (pst0 (lit a b c d).x (lit a b c d).y (lit a b c d).z) = true ∧ pdec 4 (pst0 (lit a b c d).x (lit a b c d).y (lit a b c d).z) = [a, b, c, d] := by
  intro a ha b hb c hc d hd
  obtain ⟨e1, e2, e3⟩ := pl_lit a ha b hb c hc d hd
  rw [e1, e2, e3]
  refine pegOk_eq ?_
  simp only [List.mem_cons, List.mem_nil_iff, or_false] at ha
  rcases ha with rfl | rfl | rfl
  · exact pl_peg0 b hb c hc d hd
  · exact pl_peg1 b hb c hc d hd
  · exact pl_peg2 b hb c hc d hd
end
section
open PySem PySem.W PySem.Calls PyProof.Rows PySem.Spec
theorem bx_f3 (n : Int) : Bx (Int.fmod n 3) := ⟨(fmod3 n).1, by have := (fmod3 n).2; omega⟩
theorem bx_r27 (n : Int) : Bx (Int.fdiv (Int.fmod n 81) 27) := by
  have h0 : 0 ≤ Int.fmod n 81 := Int.fmod_nonneg_of_pos n (by decide)
  have h1 : Int.fmod n 81 < 81 := Int.fmod_lt_of_pos n (by decide)
  rw [Int.fdiv_eq_ediv_of_nonneg _ (by decide)]
  constructor <;> omega
theorem mod8_of {ys : List Value} {as : List Int} (h : CarriedAll ys (as.map fun a => PyData.int (a.fmod 8))) (hl : as.length ≤ 63) : ∃ ns, IntsAre ys ns ∧ (∀ n ∈ ns, 0 ≤ n ∧ n < 8) ∧ ns.length ≤ 63 := by
  refine ⟨as.map fun a => a.fmod 8, CarriedAll.intsOf h, fun n hn => ?_, by rw [List.length_map]; exact hl⟩
  obtain ⟨a, _, rfl⟩ := List.mem_map.mp hn
  exact ⟨Int.fmod_nonneg_of_pos a (by decide), Int.fmod_lt_of_pos a (by decide)⟩
/-- the lights x y z of the standing p q r s -/
structure LitOf (p q r s : Int) (x y z : UInt64) : Prop where
  bp : Bx p
  bq : Bx q
  br : Bx r
  bs : Bx s
  ex : x = (lit p q r s).x
  ey : y = (lit p q r s).y
  ez : z = (lit p q r s).z
theorem ints_inv4 {vs : List Value} {p q r s : Int} (h : IntsAre vs [p, q, r, s]) : ∃ a b c d, vs = [.int p a, .int q b, .int r c, .int s d] := by
  cases h with | cons _ a h => cases h with | cons _ b h => cases h with | cons _ c h => cases h with | cons _ d h => cases h with | nil => exact ⟨a, b, c, d, rfl⟩
section
variable (w : World) (s00 : Heap) (mg mb : Str → Option Value) {p q r s : Int} {x y z : UInt64} {a b c d : Tok} {n : Nat} {l : Addr}
theorem pegs_lit (h : LitOf p q r s x y z) : PCo 4 w s00 mg mb 59 [(l, fl3 x y z a b c n)] [.ref l] (fun o => ∃ t1 t2 t3 t4 k, o = ints4 p q r s t1 t2 t3 t4 k) := by
  obtain ⟨bp, bq, br, bs, rfl, rfl, rfl⟩ := h
  have e := pl_pegs p (bx_mem bp) q (bx_mem bq) r (bx_mem br) s (bx_mem bs)
  have c := pegs_call w s00 mg mb _ _ _ a b c n l e.1
  rw [e.2] at c
  intro dp un gd cn cs a' ccd cl outer A₀ base h₀ L m s' Q E B F X N T hk hd hu hret
  refine c dp un gd cn cs a' ccd cl outer A₀ base h₀ L m s' Q E B F X N T hk hd hu fun r o h' tk' e1 e2 e3 e4 => hret r o h' tk' e1 e2 e3 ?_
  obtain ⟨vs, k, rfl, hi⟩ := e4
  obtain ⟨t1, t2, t3, t4, rfl⟩ := ints_inv4 hi
  exact ⟨t1, t2, t3, t4, k, rfl⟩
theorem lights_lit (bp : Bx p) (bq : Bx q) (br : Bx r) (bs : Bx s) : PCop 4 w s00 mg mb 54 [(l, ints4 p q r s a b c d n)] [.ref l] (fun o => ∃ x y z t0 t1 t2 n, t0 ≠ 0 ∧ t1 ≠ 0 ∧ t2 ≠ 0 ∧ LitOf p q r s x y z ∧ o = fl3 x y z t0 t1 t2 n) := by
  have c := lights_call w s00 mg mb p q r s a b c d n l (by
    intro x hx
    rcases List.mem_cons.mp hx with rfl | hx
    · exact bp
    rcases List.mem_cons.mp hx with rfl | hx
    · exact bq
    rcases List.mem_cons.mp hx with rfl | hx
    · exact br
    rcases List.mem_cons.mp hx with rfl | hx
    · exact bs
    cases hx)
  intro dp un gd cn cs a' ccd cl outer A₀ base h₀ L m s' Q E hp B F X N T hk hd hu hret
  refine c dp un gd cn cs a' ccd cl outer A₀ base h₀ L m s' Q E hp B F X N T hk hd hu fun r o h' tk' e1 e2 e3 e4 => hret r o h' tk' e1 e2 e3 ?_
  obtain ⟨t0, t1, t2, n, z0, z1, z2, rfl⟩ := e4
  exact ⟨_, _, _, t0, t1, t2, n, z0, z1, z2, ⟨bp, bq, br, bs, rfl, rfl, rfl⟩, rfl⟩
end
end
section
open PySem PySem.W PySem.Calls PyProof.Rows PySem.Spec
noncomputable def kz : List Int := [-16, -15, -14, -13, -12, -11, -10, -9, -8, -7, -6, -5, -4, -3, -2, -1, 0, 1, 2, 3, 4, 5, 6, 7, 8, 9, 10, 11, 12, 13, 14, 15, 16]
noncomputable def kOf (x : UInt64) : Option Int := kz.find? fun k => Float64.ofInt k == x
theorem kOf_spec {x : UInt64} {k : Int} (h : kOf x = some k) : k ∈ kz ∧ Float64.ofInt k = x :=
  ⟨List.mem_of_find?_eq_some h, by have := List.find?_some h; simpa using this⟩
theorem kOf_ofInt : ∀ k ∈ kz, kOf (Float64.ofInt k) = some k := by decide +kernel
theorem cmp_kz : ∀ a ∈ kz, ∀ b ∈ kz, (Float64.cmp (Float64.ofInt a) (Float64.ofInt b) == some Ordering.lt) = decide (a < b) := by decide +kernel
@[reducible] noncomputable def fltKind : KeyKind where
  α := Int
  blt a b := decide (a < b)
  irrefl a := by simp
  trans a b c h1 h2 := by simp only [decide_eq_true_eq] at *; omega
  negTrans a b c h := by simp only [decide_eq_true_eq] at *; omega
  total a b h1 h2 := by simp only [decide_eq_false_iff_not] at *; omega
  keyOf v := match v with | .float x _ => kOf x | _ => none
  dflt := 0
section
variable {prog : Program} {w : World} {A : Around} {E : Value → Shared → Prop} {s : Shared}
theorem oneLt_flt {a b : UInt64} {t u : Tok} {Q : Bool → Shared → Prop} (h : Q (Float64.cmp a b == some Ordering.lt) s) : wpAny (model prog w) A (oneLt' true (.float a t) (.float b u)) Q E s := by
  rw [oneLt'_eq]
  simp only [if_true]
  refine wpAny_bind (wpAny_cRoomFor_byValue rfl ?_)
  refine wpAny_bind (wpAny_callSpecialIfBound?_slot (AutoFloatOps.typeIs_float s a t) F.slot_float_lt (call_gives F.slot_float_lt (AutoFloatOps.typeIs_float s a t) F.entry_float_lt (F.args_float_lt_2 _ _) (PySem.AutoFloatG5.float___lt___float_float_0 a t b u) ?_))
  exact wpAny_truthy_bool h
end
theorem fltKind_oneLt : fltKind.OneLt := by
  intro prog w A E s x y a b Q ha hb h
  cases x <;> simp only [fltKind, reduceCtorEq] at ha
  cases y <;> simp only [fltKind, reduceCtorEq] at hb
  obtain ⟨ma, rfl⟩ := kOf_spec ha
  obtain ⟨mb, rfl⟩ := kOf_spec hb
  refine oneLt_flt ?_
  rw [cmp_kz a ma b mb]
  exact h
/-- a float that is a small whole number -/
noncomputable abbrev fk (k : Int) (t : Tok) : Value := .float (Float64.ofInt k) t
theorem sort3_out {a b c : Int} {t u v : Tok} (ha : a ∈ kz) (hb : b ∈ kz) (hc : c ∈ kz) {xs : Array Keyed} (hp : xs.Perm (pairsOf [fk a t, fk b u, fk c v])) (hs : SortedToK fltKind xs (pairsOf [fk a t, fk b u, fk c v]).size) :
    ∃ x y z t' u' v', (xs.map (·.2)).toList = [fk x t', fk y u', fk z v'] ∧ [x, y, z].Perm [a, b, c] ∧ x ≤ y ∧ y ≤ z := by
  have hl : xs.toList.Perm [(fk a t, fk a t), (fk b u, fk b u), (fk c v, fk c v)] := by
    have := Array.perm_iff_toList_perm.mp hp
    rw [pairsOf_toList] at this
    exact this
  have h3 : xs.size = 3 := by have := hl.length_eq; simpa using this
  have hmem : ∀ p, p ∈ xs.toList → ∃ k t', k ∈ kz ∧ p = (fk k t', fk k t') := by
    intro p h
    have := hl.mem_iff.mp h
    simp only [List.mem_cons, List.mem_nil_iff, or_false] at this
    rcases this with rfl | rfl | rfl
    · exact ⟨a, t, ha, rfl⟩
    · exact ⟨b, u, hb, rfl⟩
    · exact ⟨c, v, hc, rfl⟩
  obtain ⟨x, t', hx, ex⟩ := hmem xs[0] (by simp)
  obtain ⟨y, u', hy, ey⟩ := hmem xs[1] (by simp)
  obtain ⟨z, v', hz, ez⟩ := hmem xs[2] (by simp)
  have exs : xs.toList = [(fk x t', fk x t'), (fk y u', fk y u'), (fk z v', fk z v')] := by
    rw [← ex, ← ey, ← ez]
    apply List.ext_getElem
    · simpa using h3
    · intro i h1 h2
      have : i = 0 ∨ i = 1 ∨ i = 2 := by simp at h2; omega
      rcases this with rfl | rfl | rfl <;> simp
  refine ⟨x, y, z, t', u', v', ?_, ?_, ?_, ?_⟩
  · rw [Array.toList_map, exs]; rfl
  · rw [exs] at hl
    have := hl.map (fun p => match p.1 with | .float q _ => (kOf q).getD 0 | _ => 0)
    simp only [List.map_cons, List.map_nil, kOf_ofInt x hx, kOf_ofInt y hy, kOf_ofInt z hz, kOf_ofInt a ha, kOf_ofInt b hb, kOf_ofInt c hc, Option.getD_some] at this
    exact this
  · have q := hs 0 1 (by decide) (by rw [← hp.size_eq, h3]; decide)
    unfold KK at q
    rw [getElem?_pos xs 0 (by omega), getElem?_pos xs 1 (by omega), ex, ey] at q
    simp only [fltKind, kOf_ofInt x hx, kOf_ofInt y hy, Option.getD_some] at q
    have q' : decide (y < x) = false := q
    simp only [decide_eq_false_iff_not] at q'
    omega
  · have q := hs 1 2 (by decide) (by rw [← hp.size_eq, h3]; decide)
    unfold KK at q
    rw [getElem?_pos xs 1 (by omega), getElem?_pos xs 2 (by omega), ey, ez] at q
    simp only [fltKind, kOf_ofInt y hy, kOf_ofInt z hz, Option.getD_some] at q
    have q' : decide (z < y) = false := q
    simp only [decide_eq_false_iff_not] at q'
    omega
theorem first_flt (x : UInt64) (t : Tok) : firstOfTuple' (.float x t) = pure none := rfl
theorem keyKind_3f {a b c : UInt64} {t u v : Tok} : keyKind' [Value.float a t, .float b u, .float c v].toArray = pure oneType' := by
  rw [keyKind'_eq, List.mapM_toArray]
  simp only [List.mapM_cons, List.mapM_nil, first_flt, map_pure, pure_bind, bind_pure_comp]
  rw [if_neg (by simp), if_neg (by simp)]
  rw [oneTypeOnly'_eq, List.mapM_toArray]
  have e : ∀ x t, typeOf (.float x t) = pure (Value.type "float") := fun _ _ => rfl
  simp only [List.mapM_cons, List.mapM_nil, e, map_pure, pure_bind]
  have hall : (#[Value.type "float", Value.type "float", Value.type "float"].all fun x => x == Value.type "float") = true := by
    simp only [List.all_toArray, List.all_eq_true]
    intro x hx
    simp only [List.mem_cons, List.mem_nil_iff, or_false, or_self] at hx
    subst hx
    rfl
  have h0 : #[Value.type "float", Value.type "float", Value.type "float"][0]? = some (Value.type "float") := by simp
  rw [h0]
  simp only [hall, if_true, pure_bind, map_pure, Option.isSome_some]
section
variable {prog : Program} {w : World} {A : Around} {E : Value → Shared → Prop} {s : Shared}
theorem sorted_3f {h₀ : Heap} {L : Addr} {m : Str → Option Value} {news : List (Addr × Obj)} {l : Addr} {a b c : Int} {t u v : Tok} {Q : Value → Shared → Prop} (F : Fr h₀ L s.heap m) (N : News h₀ L s.heap news)
    (hl : s.heap.IsList l [fk a t, fk b u, fk c v].toArray) (ha : a ∈ kz) (hb : b ∈ kz) (hc : c ∈ kz)
    (h : ∀ h' D x y z t' u' v' e, Fr h₀ L h' m → News h₀ L h' ((D, listOf #[fk x t', fk y u', fk z v'] e) :: news) → (∀ p ∈ news, p.1 < D) → [x, y, z].Perm [a, b, c] → x ≤ y → y ≤ z → Q (.ref D) { s with heap := h' }) :
    wpAny (model prog w) A (call (.builtin "sorted") [.ref l]) Q E s := by
  refine sortedK fltKind_oneLt hl (fun p hp => ?_) (fun v₁ v₂ rest e => ?_) (by show 3 < 64; decide) fun st' hp hs => ?_
  · rw [pairsOf_toList] at hp
    have := (mem_zip_self hp).2
    simp only [List.mem_cons, List.mem_nil_iff, or_false] at this
    rcases this with e | e | e
    · exact ⟨a, by rw [e]; exact kOf_ofInt a ha⟩
    · exact ⟨b, by rw [e]; exact kOf_ofInt b hb⟩
    · exact ⟨c, by rw [e]; exact kOf_ofInt c hc⟩
  · rw [← e]; exact keyKind_3f
  · obtain ⟨x, y, z, t', u', v', e1, e2, e3, e4⟩ := sort3_out ha hb hc hp hs
    obtain ⟨e, he⟩ := sortedAll_at s.heap [fk a t, fk b u, fk c v] ((arrOf st').map (·.2))
    have e5 : (arrOf st').map (·.2) = #[fk x t', fk y u', fk z v'] := Array.toList_inj.mp e1
    rw [e5] at he ⊢
    exact h _ _ x y z t' u' v' e (F.kept fun _ _ => sortedAll_old) (N.kept_cons F (fun _ _ => sortedAll_old) (Nat.le_succ _) he) (fun p hp => Nat.lt_succ_of_lt (Heap.lt_size (N p hp).1)) e2 e3 e4
end
end
section
open PySem PySem.W PySem.Calls PyProof.Rows PySem.Spec
theorem nl_box : ∀ k ∈ ([0, 1, 2] : List Int), ∀ p ∈ ([0, 1, 2] : List Int), ∀ q ∈ ([0, 1, 2] : List Int), ∀ r ∈ ([0, 1, 2] : List Int), ∀ s ∈ ([0, 1, 2] : List Int), nl k p q r s ∈ k16 := by decide +kernel
noncomputable def difA (a b : Int) : Bool := fo (fl16 a) fun x => fo (fl16 b) fun y => fo (Float64.sub x y) fun d => fi (a - b) fun n => Float64.mul (Float64.ofInt 16) d == Float64.ofInt n && decide (n ∈ kz)
theorem dif16 : ∀ a ∈ k16, ∀ b ∈ k16, Float64.mul (Float64.ofInt 16) (Float64.sub (fl16 a) (fl16 b)) = Float64.ofInt (a - b) ∧ (a - b) ∈ kz := by
  have e : ∀ a ∈ k16, ∀ b ∈ k16, difA a b = true := by decide +kernel
  intro a ha b hb
  have h := e a ha b hb
  unfold difA at h
  simp only [fi_eq, fo_eq] at h
  rw [Bool.and_eq_true, beq_iff_eq, decide_eq_true_eq] at h
  exact h
/-- the peg of disc i after the turn of number x, which moves disc x % 4 -/
noncomputable def frs (i x a : Int) : Int := if Int.fmod x 4 = i then Int.fmod (a + 1 + Int.fdiv x 4) 3 else a
/-- the three are -1, 0, 1 in some order -/
noncomputable def one3 (a b c : Int) : Bool := [a, b, c].isPerm [-1, 0, 1]
theorem pl_for : ∀ x ∈ ([0, 1, 2, 3, 4, 5, 6, 7] : List Int), ∀ p ∈ ([0, 1, 2] : List Int), ∀ q ∈ ([0, 1, 2] : List Int), ∀ r ∈ ([0, 1, 2] : List Int), ∀ s ∈ ([0, 1, 2] : List Int),
    one3 (nl 0 (frs 0 x p) (frs 1 x q) (frs 2 x r) (frs 3 x s) - nl 0 p q r s) (nl 1 (frs 0 x p) (frs 1 x q) (frs 2 x r) (frs 3 x s) - nl 1 p q r s) (nl 2 (frs 0 x p) (frs 1 x q) (frs 2 x r) (frs 3 x s) - nl 2 p q r s)
      = takenF p q r s (frs 0 x p) (frs 1 x q) (frs 2 x r) (frs 3 x s) := by decide +kernel
theorem one3_sorted {a b c : Int} (h1 : a ≤ b) (h2 : b ≤ c) : one3 a b c = (a == -1 && (b == 0 && c == 1)) := by
  unfold one3
  rw [Bool.eq_iff_iff, List.isPerm_iff]
  simp only [Bool.and_eq_true, beq_iff_eq]
  constructor
  · intro h
    have m1 := h.mem_iff (a := -1)
    have m2 := h.mem_iff (a := 0)
    have m3 := h.mem_iff (a := 1)
    simp only [List.mem_cons, List.mem_nil_iff, or_false, true_or, or_true, iff_true] at m1 m2 m3
    omega
  · rintro ⟨rfl, rfl, rfl⟩
    exact List.Perm.refl _
theorem one3_perm {a b c x y z : Int} (h : [x, y, z].Perm [a, b, c]) : one3 x y z = one3 a b c := by
  unfold one3
  rw [Bool.eq_iff_iff, List.isPerm_iff, List.isPerm_iff]
  exact ⟨fun e => h.symm.trans e, fun e => h.trans e⟩
end
section
open PySem PySem.W PySem.Calls PyProof.Rows PySem.Spec
/-- what holds ahead of a turn of the law's for loop: (X, xo) is the list of the x's -/
noncomputable def JF (L X : Addr) (xo : Obj) (g : Int) (m : Str → Option Value) (nd : Led) : Prop :=
  ∃ (p q r s : Int) (x y z : UInt64) (P D : Addr) (t1 t2 t3 t4 t5 t6 t7 t8 : Tok) (k n : Nat) (o1 o2 o3 o4 o5 : Obj),
    m (S "pegs") = some (.ref P) ∧ t5 ≠ 0 ∧ t6 ≠ 0 ∧ t7 ≠ 0 ∧ LitOf p q r s x y z ∧
    nd = [(L + 1 + 1 + 1 + 1 + 1, o5), (L + 1 + 1 + 1 + 1, o4), (L + 1 + 1 + 1, o3), (L + 1 + 1, o2), (L + 1, o1), (P, ints4 p q r s t1 t2 t3 t4 k), (D, fl3 x y z t5 t6 t7 n), (X, xo)] ∧
    @LT.lt Nat _ (L + 1 + 1 + 1 + 1 + 1) P ∧ @LT.lt Nat _ (L + 1 + 1 + 1 + 1 + 1) D ∧ @LT.lt Nat _ (L + 1 + 1 + 1 + 1 + 1) X ∧ LCg.Off1 P [(D, fl3 x y z t5 t6 t7 n), (X, xo)] ∧ LCg.Off1 D [(X, xo)] ∧
    (∃ v, o5.data = .cell v) ∧ (∃ v, o4.data = .cell v) ∧ (∃ v, o3.data = .cell v) ∧ o2.data = .cell (some (.ref D)) ∧ o1.data = .cell (some (.int g t8))
end
section
open PySem PySem.W PySem.Calls PyProof.Rows PySem.Spec
section
variable {prog : Program} {w : World} {A : Around} {E : Value → Shared → Prop} {s : Shared}
theorem isSame_ff {x y : UInt64} {u v : Tok} {Q : Bool → Shared → Prop} (hu : u ≠ 0) (hv : v ≠ 0) (hb : NoneBooked s.heap) (hq : ∀ b, Q b s) : wpAny (model prog w) A (isSame (.float x u) (.float y v)) Q E s := by
  show wpAny _ A (isSame.created (x == y && !Float64.isNaN x) u v) Q E s
  unfold isSame.created
  have h0 : (u == 0 || v == 0) = false := by
    rw [Bool.or_eq_false_iff]
    exact ⟨beq_eq_false_iff_ne.mpr hu, beq_eq_false_iff_ne.mpr hv⟩
  rw [h0, if_neg Bool.false_ne_true]
  refine wpAny_ite_split (fun _ => wpAny_pure (hq _)) fun _ => ?_
  refine wpAny_ite_split (fun _ => wpAny_pure (hq _)) fun _ => ?_
  refine wpAny_bind (wpAny_sharingNotTold_none hb ?_)
  rw [if_neg Bool.false_ne_true]
  refine wpAny_bind (wpAny_sharingNotTold_none hb ?_)
  rw [if_neg Bool.false_ne_true]
  exact wpAny_bind (wpAny_rule (wpAny_bind (wpAny_askSetting (wpAny_pure (hq _)))))
theorem eqAt_ff {a b : UInt64} {t u : Tok} (ht : t ≠ 0) (hu : u ≠ 0) (hb : NoneBooked s.heap) (h : (Float64.cmp a b == some Ordering.eq) = true) : SeqAt.EqAt A s (.float a t) (.float b u) true := fun prog w E Q hq => by
  have last : wpAny (model prog w) A (do let r ← richCompare .Eq (.float a t) (.float b u); truthOfDropped r) Q E s := by
    refine wpAny_bind (m := richCompare .Eq _ _) ?_
    show wpAny _ _ (compareOp .Eq _ _) _ _ _
    refine AutoFloatOps.eq_0 ?_
    rw [h]
    exact wpAny_truthy_bool hq
  unfold eqBool
  refine wpAny_holding ?_
  refine wpAny_ite_split (fun _ => ?_) (fun _ => ?_)
  · exact wpAny_bind (wpAny_rule (wpAny_pure hq))
  · show wpAny _ _ (do let r ← isSame (.float a t) (.float b u); if r = true then pure true else _) _ _ _
    refine wpAny_bind (isSame_ff ht hu hb fun r => ?_)
    refine wpAny_ite_split (fun _ => wpAny_pure hq) fun _ => ?_
    exact last
theorem eqAt_fi {a : UInt64} {b : Int} {t u : Tok} : SeqAt.EqAt A s (.float a t) (.int b u) (Float64.cmpInt a b == some Ordering.eq) := fun prog w E Q hq => by
  unfold eqBool
  refine wpAny_holding ?_
  refine wpAny_ite_split (fun hab => absurd (eq_of_beq hab) nofun) (fun _ => ?_)
  refine wpAny_bind (m := richCompare .Eq _ _) ?_
  show wpAny _ _ (compareOp .Eq _ _) _ _ _
  exact eq_fi (wpAny_truthy_bool hq)
/-- two lists of three floats that are the same floats -/
theorem ne_fl3 {l b : Addr} {x y z x' y' z' : UInt64} {t1 t2 t3 u1 u2 u3 : Tok} {Q : Value → Shared → Prop} (hl : s.heap.IsList l #[.float x t1, .float y t2, .float z t3]) (hb : s.heap.IsList b #[.float x' u1, .float y' u2, .float z' u3]) (hu : A.units < cLine) (n1 : t1 ≠ 0) (n2 : t2 ≠ 0) (n3 : t3 ≠ 0) (m1 : u1 ≠ 0) (m2 : u2 ≠ 0) (m3 : u3 ≠ 0) (hbk : NoneBooked s.heap)
    (ex : (Float64.cmp x x' == some Ordering.eq) = true) (ey : (Float64.cmp y y' == some Ordering.eq) = true) (ez : (Float64.cmp z z' == some Ordering.eq) = true) (h : Q (.bool false) s) : wpAny (model prog w) A (compareOp .NotEq (.ref l) (.ref b)) Q E s := by
  refine SeqAt.RcNeAt.lists (e := fun _ => true) hl hb rfl hu (fun j h1 _ => ?_) prog w E Q h
  have : j = 0 ∨ j = 1 ∨ j = 2 := by simp at h1; omega
  rcases this with rfl | rfl | rfl
  · exact eqAt_ff n1 m1 hbk ex
  · exact eqAt_ff n2 m2 hbk ey
  · exact eqAt_ff n3 m3 hbk ez
end
theorem ci_kz : ∀ a ∈ kz, ∀ b ∈ ([-1, 0, 1] : List Int), (Float64.cmpInt (Float64.ofInt a) b == some Ordering.eq) = (a == b) := by decide +kernel
section
variable {prog : Program} {w : World} {A : Around} {E : Value → Shared → Prop} {s : Shared}
theorem eq_sorted {l b : Addr} {x y z : Int} {t1 t2 t3 u1 u2 u3 : Tok} {Q : Value → Shared → Prop} (hl : s.heap.IsList l #[fk x t1, fk y t2, fk z t3]) (hb : s.heap.IsList b #[.int (-1) u1, .int 0 u2, .int 1 u3]) (hu : A.units < cLine)
    (hx : x ∈ kz) (hy : y ∈ kz) (hz : z ∈ kz) (h1 : x ≤ y) (h2 : y ≤ z) (h : Q (.bool (one3 x y z)) s) : wpAny (model prog w) A (compareOp .Eq (.ref l) (.ref b)) Q E s := by
  refine SeqAt.eq_listAt (e := fun j => match j with | 0 => x == -1 | 1 => y == 0 | _ => z == 1) hl hb rfl hu (fun j h1 _ => ?_) ?_
  · have : j = 0 ∨ j = 1 ∨ j = 2 := by simp at h1; omega
    rcases this with rfl | rfl | rfl
    · have := ci_kz x hx (-1) (by decide); show SeqAt.EqAt _ _ (.float _ _) (.int _ _) (x == -1); rw [← this]; exact eqAt_fi
    · have := ci_kz y hy 0 (by decide); show SeqAt.EqAt _ _ (.float _ _) (.int _ _) (y == 0); rw [← this]; exact eqAt_fi
    · have := ci_kz z hz 1 (by decide); show SeqAt.EqAt _ _ (.float _ _) (.int _ _) (z == 1); rw [← this]; exact eqAt_fi
  · rw [one3_sorted h1 h2] at h
    show Q (.bool (List.all (List.range 3) _)) s
    have : List.range 3 = [0, 1, 2] := by decide
    rw [this]
    simp only [List.all_cons, List.all_nil, Bool.and_true]
    exact h
end
set_option maxRecDepth 100000 in
theorem none_booked {w : World} {h₀ h : Heap} {L : Addr} {m : Str → Option Value} (X : (hd.heap_39 w.params).In h₀) (F : Fr h₀ L h m) : NoneBooked h := by
  obtain ⟨o, ho⟩ : ∃ o, List.lookup cStatics (hd.heap_39 w.params) = some o := ⟨_, rfl⟩
  have e := F.keep _ _ (X _ _ ho)
  obtain rfl : _ = o := by injection ho
  refine ⟨_, ⟨_, _, _, e, rfl, ?_, fun _ => rfl⟩, ?_⟩
  · intro d hd'
    exact absurd hd' (by simp)
  · rfl
theorem gen_toks {α : Type} {M : Model} {A : Around} {t : Sem α} {Q : α → Shared → Prop} {E : Value → Shared → Prop} {H : Heap} {G : Array GenState} {D : Drawn} {O : OsState} {n : Nat} (hn : @LT.lt Nat _ 0 n) (h : ∀ tk, @LT.lt Nat _ 0 tk → wpAny M A t Q E ⟨H, G, D, tk, O⟩) : wpAny M A t Q E ⟨H, G, D, n, O⟩ := h n hn
noncomputable def Small8 (ns : List Int) : Prop := ∀ n ∈ ns, 0 ≤ n ∧ n < 8
theorem mod8_s {ys : List Value} {as : List Int} (h : CarriedAll ys (as.map fun a => PyData.int (a.fmod 8))) (hl : as.length ≤ 63) : ∃ ns, IntsAre ys ns ∧ Small8 ns ∧ ns.length ≤ 63 := mod8_of h hl
theorem fr_small {h₀ h h1 : Heap} {L l : Addr} {vs : Array Value} {m : Str → Option Value} (_hL : h1.IsList l vs) (F : Fr h₀ L h m) (e : m = fun y => if y = S "script" then some (.ref l) else none) : Fr h₀ L h (fun y => if y = S "script" then some (.ref l) else none) := e ▸ F
theorem cell_none {o : Obj} {v : Option Value} (h : o.data = .cell v) (e : v = none) : Flt.Hid (o.data = .cell none) := Flt.Hid.mk (e ▸ h)
end
section
open PySem PySem.W PySem.Calls PyProof.Rows PySem.Spec
noncomputable abbrev cells5 (L : Addr) (o1 o2 o3 o4 o5 : Obj) : Led := [(L + 1 + 1 + 1 + 1 + 1, o5), (L + 1 + 1 + 1 + 1, o4), (L + 1 + 1 + 1, o3), (L + 1 + 1, o2), (L + 1, o1)]
/-- what holds ahead of a turn of the law's for loop: (X, xo) is the list of the x's -/
noncomputable def JG (L X : Addr) (xo : Obj) (g : Int) (tg : Tok) (m : Str → Option Value) (nd : Led) : Prop :=
  ∃ (p q r s : Int) (x y z : UInt64) (P D : Addr) (t1 t2 t3 t4 t5 t6 t7 : Tok) (k n : Nat) (o1 o2 o3 o4 o5 : Obj),
    m (S "pegs") = some (.ref P) ∧ t5 ≠ 0 ∧ t6 ≠ 0 ∧ t7 ≠ 0 ∧ LitOf p q r s x y z ∧
    nd = [(L + 1 + 1 + 1 + 1 + 1, o5), (L + 1 + 1 + 1 + 1, o4), (L + 1 + 1 + 1, o3), (L + 1 + 1, o2), (L + 1, o1), (P, ints4 p q r s t1 t2 t3 t4 k), (D, fl3 x y z t5 t6 t7 n), (X, xo)] ∧
    LCg.Off1 P [(L + 1 + 1 + 1 + 1 + 1, o5), (L + 1 + 1 + 1 + 1, o4), (L + 1 + 1 + 1, o3), (L + 1 + 1, o2), (L + 1, o1), (X, xo)] ∧
    LCg.Off1 D [(L + 1 + 1 + 1 + 1 + 1, o5), (L + 1 + 1 + 1 + 1, o4), (L + 1 + 1 + 1, o3), (L + 1 + 1, o2), (L + 1, o1), (P, ints4 p q r s t1 t2 t3 t4 k), (X, xo)] ∧
    LCg.Off1 X [(L + 1 + 1 + 1 + 1 + 1, o5), (L + 1 + 1 + 1 + 1, o4), (L + 1 + 1 + 1, o3), (L + 1 + 1, o2), (L + 1, o1)] ∧
    (∃ v, o5.data = .cell v) ∧ (∃ v, o4.data = .cell v) ∧ (∃ v, o3.data = .cell v) ∧ o2.data = .cell (some (.ref D)) ∧ o1.data = .cell (some (.int g tg))
theorem mem8 {n : Int} {ns : List Int} (h : n ∈ [3, 2] ++ ns) (hb : ∀ n ∈ ns, 0 ≤ n ∧ n < 8) : 0 ≤ n ∧ n < 8 := by
  rcases List.mem_append.mp h with h | h
  · simp only [List.mem_cons, List.mem_nil_iff, or_false] at h
    omega
  · exact hb n h
theorem fmod4 {x : Int} (h : 0 ≤ x ∧ x < 8) : 0 ≤ Int.fmod x 4 ∧ Int.fmod x 4 < 4 := ⟨Int.fmod_nonneg_of_pos x (by decide), Int.fmod_lt_of_pos x (by decide)⟩
theorem in8 {x : Int} (h : 0 ≤ x ∧ x < 8) : x ∈ ([0, 1, 2, 3, 4, 5, 6, 7] : List Int) := by
  obtain ⟨n, rfl⟩ := Int.eq_ofNat_of_zero_le h.1
  exact (by decide : ∀ n : Nat, n < 8 → (n : Int) ∈ ([0, 1, 2, 3, 4, 5, 6, 7] : List Int)) n (by have := h.2; omega)
/-- the three differences of the lights, in sixteenths -/
theorem lit_dif {p q r s p' q' r' s' : Int} {x y z x' y' z' : UInt64} (h' : LitOf p' q' r' s' x' y' z') (h : LitOf p q r s x y z) :
    (Float64.mul (Float64.ofInt 16) (Float64.sub x' x) = Float64.ofInt (nl 0 p' q' r' s' - nl 0 p q r s) ∧ (nl 0 p' q' r' s' - nl 0 p q r s) ∈ kz) ∧
    (Float64.mul (Float64.ofInt 16) (Float64.sub y' y) = Float64.ofInt (nl 1 p' q' r' s' - nl 1 p q r s) ∧ (nl 1 p' q' r' s' - nl 1 p q r s) ∈ kz) ∧
    (Float64.mul (Float64.ofInt 16) (Float64.sub z' z) = Float64.ofInt (nl 2 p' q' r' s' - nl 2 p q r s) ∧ (nl 2 p' q' r' s' - nl 2 p q r s) ∈ kz) := by
  have a := pl_lit p (bx_mem h.bp) q (bx_mem h.bq) r (bx_mem h.br) s (bx_mem h.bs)
  have b := pl_lit p' (bx_mem h'.bp) q' (bx_mem h'.bq) r' (bx_mem h'.br) s' (bx_mem h'.bs)
  have c := fun k hk => nl_box k hk p (bx_mem h.bp) q (bx_mem h.bq) r (bx_mem h.br) s (bx_mem h.bs)
  have d := fun k hk => nl_box k hk p' (bx_mem h'.bp) q' (bx_mem h'.bq) r' (bx_mem h'.br) s' (bx_mem h'.bs)
  rw [h.ex, h.ey, h.ez, h'.ex, h'.ey, h'.ez, a.1, a.2.1, a.2.2, b.1, b.2.1, b.2.2]
  exact ⟨dif16 _ (d 0 (by decide)) _ (c 0 (by decide)), dif16 _ (d 1 (by decide)) _ (c 1 (by decide)), dif16 _ (d 2 (by decide)) _ (c 2 (by decide))⟩
section
variable {prog : Program} {w : World} {A : Around} {E : Value → Shared → Prop} {s : Shared}
/-- sorted over the three differences of a turn -/
theorem sorted_turn {h₀ : Heap} {L : Addr} {m : Str → Option Value} {news : Led} {l : Addr} {n p q r o : Int} {x y z x' y' z' : UInt64} {t u v : Tok} {Q : Value → Shared → Prop} (F : Fr h₀ L s.heap m) (N : News h₀ L s.heap news)
    (hm : (l, LCg.lst [.float (Float64.mul (Float64.ofInt 16) (Float64.sub x' x)) t, .float (Float64.mul (Float64.ofInt 16) (Float64.sub y' y)) u, .float (Float64.mul (Float64.ofInt 16) (Float64.sub z' z)) v]) ∈ news)
    (hn : 0 ≤ n ∧ n < 8) (h' : LitOf (frs 0 n p) (frs 1 n q) (frs 2 n r) (frs 3 n o) x' y' z') (h : LitOf p q r o x y z)
    (k : ∀ h' D a b c t' u' v' e, Fr h₀ L h' m → News h₀ L h' ((D, listOf #[fk a t', fk b u', fk c v'] e) :: news) → (∀ p ∈ news, p.1 < D) → a ∈ kz → b ∈ kz → c ∈ kz → a ≤ b → b ≤ c → one3 a b c = takenF p q r o (frs 0 n p) (frs 1 n q) (frs 2 n r) (frs 3 n o) → Q (.ref D) { s with heap := h' }) :
    wpAny (model prog w) A (call (.builtin "sorted") [.ref l]) Q E s := by
  obtain ⟨⟨e1, k1⟩, ⟨e2, k2⟩, e3, k3⟩ := lit_dif h' h
  rw [e1, e2, e3] at hm
  refine sorted_3f F N (News.isList N hm) k1 k2 k3 fun h' D a b c t' u' v' e F' N' l1 hp h1 h2 => ?_
  have mm : ∀ j ∈ [a, b, c], j ∈ kz := fun j hj => by
    have := hp.mem_iff.mp hj
    simp only [List.mem_cons, List.mem_nil_iff, or_false] at this
    rcases this with rfl | rfl | rfl <;> assumption
  refine k h' D a b c t' u' v' e F' N' l1 (mm a (by simp)) (mm b (by simp)) (mm c (by simp)) h1 h2 ?_
  rw [one3_perm hp]
  exact pl_for n (in8 hn) p (bx_mem h.bp) q (bx_mem h.bq) r (bx_mem h.br) o (bx_mem h.bs)
theorem eq_sortedT {l b : Addr} {x y z : Int} {t1 t2 t3 u1 u2 u3 : Tok} {T : Bool} {Q : Value → Shared → Prop} (hl : s.heap.IsList l #[fk x t1, fk y t2, fk z t3]) (hb : s.heap.IsList b #[.int (-1) u1, .int 0 u2, .int 1 u3]) (hu : A.units < cLine)
    (hx : x ∈ kz) (hy : y ∈ kz) (hz : z ∈ kz) (h1 : x ≤ y) (h2 : y ≤ z) (e : one3 x y z = T) (h : Q (.bool T) s) : wpAny (model prog w) A (compareOp .Eq (.ref l) (.ref b)) Q E s := eq_sorted hl hb hu hx hy hz h1 h2 (e ▸ h)
end
/-- the list of the pegs after the move of a turn -/
theorem fresh_ints {vs : List Value} {p q r s x v : Int} (hx : 0 ≤ x ∧ x < 8) (hv : v = Int.fmod ([p, q, r, s].getD (Int.fmod x 4).toNat 0 + 1 + Int.fdiv x 4) 3) (h : IntsAre vs ([p, q, r, s].take (Int.fmod x 4).toNat ++ [v] ++ [p, q, r, s].drop (Int.fmod x 4 + 1).toNat)) :
    IntsAre vs [frs 0 x p, frs 1 x q, frs 2 x r, frs 3 x s] := by
  have e := in8 hx
  subst hv
  iterate 8
    rcases List.mem_cons.mp e with rfl | e
    · exact h
  cases e
theorem frs_bx {i x a : Int} (h : Bx a) : Bx (frs i x a) := by
  unfold frs
  split
  · exact bx_f3 _
  · exact h
section
variable {prog : Program} {w : World} {A : Around} {E : Value → Shared → Prop} {s : Shared} {env : Env} {h₀ : Heap} {x : Str} {body : List Stmt} {Q : Flow → Shared → Prop}
theorem iter_unit {ax : Addr} {lo : Obj} {vs : List Value} {ps : List Int} {n : Nat} {m₀ : Str → Option Value} {news : Led} (nd₀ : Led) (J : (Str → Option Value) → Led → Prop)
    (hh : A.handled = none) (F : Fr h₀ env.locals s.heap m₀) (N : News h₀ env.locals s.heap news) (hsub : ∀ p ∈ nd₀, p ∈ news) (hc : lo.cls = .type "list") (hd : lo.data = .seq vs.toArray n) (hi : IntsAre vs ps) (hj : J m₀ nd₀)
    (hax : ∀ m nd, J m nd → (ax, lo) ∈ nd)
    (turn : ∀ pe te I it m₁ nd h tk, pe ∈ ps → it.cls = .type "list_iterator" → (∀ p ∈ nd₀, p.1 < I) → J m₁ nd → Fr h₀ env.locals h (fun y => if y = x then some (.int pe te) else m₁ y) → News h₀ env.locals h ((I, it) :: nd) →
      wpAny (model prog w) A (execs body env) (TPost h₀ env.locals J I it { s with heap := h, toks := tk } Q) E { s with heap := h, toks := tk })
    (done : ∀ m₁ nd h tk, J m₁ nd → Fr h₀ env.locals h m₁ → News h₀ env.locals h nd → Q .next { s with heap := h, toks := tk }) :
    wpAny (model prog w) A (pyIter (.ref ax)) (fun it s₂ => LoopAtV prog w A h₀ env x body Q E it s₂) E s :=
  iter_fold (σ := Unit) (fun _ _ => ()) () nd₀ (fun _ => J) hh F N hsub hc hd hi hj (fun _ m nd h => hax m nd h) (fun _ pe te I it m₁ nd h tk a b c d e f => turn pe te I it m₁ nd h tk a b c d e f) (fun m₁ nd h tk a b c => done m₁ nd h tk a b c)
end
section
variable {prog : Program} {w : World} {A : Around} {E : Value → Shared → Prop} {s : Shared} {env : Env} {h₀ : Heap} {x : Str} {body : List Stmt} {Q : Flow → Shared → Prop}
theorem iter_law {L X P D : Addr} {vs : List Value} {ps : List Int} {m₀ : Str → Option Value} {news : Led} {o1 o2 o3 o4 o5 : Obj} {p q r o g : Int} {u v y : UInt64} {t1 t2 t3 t4 t5 t6 t7 tg : Tok} {k n : Nat}
    (hh : A.handled = none) (hL : env.locals = L) (F : Fr h₀ L s.heap m₀) (N : News h₀ L s.heap news) (hi : IntsAre vs ps) (hX : (X, listOf vs.toArray 0) ∈ news)
    (c5 : (L + 1 + 1 + 1 + 1 + 1, o5) ∈ news) (c4 : (L + 1 + 1 + 1 + 1, o4) ∈ news) (c3 : (L + 1 + 1 + 1, o3) ∈ news) (c2 : (L + 1 + 1, o2) ∈ news) (c1 : (L + 1, o1) ∈ news)
    (mP : m₀ (S "pegs") = some (.ref P)) (v1 : o1.data = .cell (some (.int g tg))) (v2 : o2.data = .cell (some (.ref D))) (v3 : ∃ v, o3.data = .cell v) (v4 : ∃ v, o4.data = .cell v) (v5 : ∃ v, o5.data = .cell v)
    (hP : (P, ints4 p q r o t1 t2 t3 t4 k) ∈ news) (hD : (D, fl3 u v y t5 t6 t7 n) ∈ news) (n5 : t5 ≠ 0) (n6 : t6 ≠ 0) (n7 : t7 ≠ 0) (LO : LitOf p q r o u v y)
    (oP : LCg.Off1 P [(L + 1 + 1 + 1 + 1 + 1, o5), (L + 1 + 1 + 1 + 1, o4), (L + 1 + 1 + 1, o3), (L + 1 + 1, o2), (L + 1, o1), (X, listOf vs.toArray 0)])
    (oD : LCg.Off1 D [(L + 1 + 1 + 1 + 1 + 1, o5), (L + 1 + 1 + 1 + 1, o4), (L + 1 + 1 + 1, o3), (L + 1 + 1, o2), (L + 1, o1), (P, ints4 p q r o t1 t2 t3 t4 k), (X, listOf vs.toArray 0)])
    (oX : LCg.Off1 X [(L + 1 + 1 + 1 + 1 + 1, o5), (L + 1 + 1 + 1 + 1, o4), (L + 1 + 1 + 1, o3), (L + 1 + 1, o2), (L + 1, o1)])
    (turn : ∀ pe te I it m₁ nd h tk, pe ∈ ps → it.cls = .type "list_iterator" → LCg.Off1 I [(L + 1 + 1 + 1 + 1 + 1, o5), (L + 1 + 1 + 1 + 1, o4), (L + 1 + 1 + 1, o3), (L + 1 + 1, o2), (L + 1, o1), (X, listOf vs.toArray 0)] → JG L X (listOf vs.toArray 0) g tg m₁ nd → Fr h₀ L h (fun y => if y = x then some (.int pe te) else m₁ y) → News h₀ L h ((I, it) :: nd) →
      wpAny (model prog w) A (execs body env) (TPost h₀ L (JG L X (listOf vs.toArray 0) g tg) I it { s with heap := h, toks := tk } Q) E { s with heap := h, toks := tk })
    (done : ∀ m₁ nd h tk, JG L X (listOf vs.toArray 0) g tg m₁ nd → Fr h₀ L h m₁ → News h₀ L h nd → Q .next { s with heap := h, toks := tk }) :
    wpAny (model prog w) A (pyIter (.ref X)) (fun it s₂ => LoopAtV prog w A h₀ env x body Q E it s₂) E s := by
  subst hL
  refine iter_unit (lo := listOf vs.toArray 0) [(env.locals + 1 + 1 + 1 + 1 + 1, o5), (env.locals + 1 + 1 + 1 + 1, o4), (env.locals + 1 + 1 + 1, o3), (env.locals + 1 + 1, o2), (env.locals + 1, o1), (P, ints4 p q r o t1 t2 t3 t4 k), (D, fl3 u v y t5 t6 t7 n), (X, listOf vs.toArray 0)]
    (JG env.locals X (listOf vs.toArray 0) g tg) hh F N ?_ rfl rfl hi ⟨p, q, r, o, u, v, y, P, D, t1, t2, t3, t4, t5, t6, t7, k, n, o1, o2, o3, o4, o5, mP, n5, n6, n7, LO, rfl, oP, oD, oX, v5, v4, v3, v2, v1⟩ ?_ ?_ done
  · repeat' (first | exact sub_nil | refine sub_cons (by assumption) ?_)
  · rintro _ _ ⟨_, _, _, _, _, _, _, _, _, _, _, _, _, _, _, _, _, _, _, _, _, _, _, _, _, _, _, _, rfl, _⟩
    k_mem
  · intro pe te I it m₁ nd h tk hpe hit hI hj F' N'
    refine turn pe te I it m₁ nd h tk hpe hit (off1_of fun a ha => ?_) hj F' N'
    exact Nat.ne_of_lt (hI a (by
      revert ha; revert a
      repeat' (first | exact sub_nil | refine sub_cons (by k_mem) ?_)))
end
theorem list_not_it : Value.type "list" ≠ .type "list_iterator" := by decide
theorem it_ne {h₀ h : Heap} {L I P : Addr} {it o : Obj} {all : Led} (N : News h₀ L h all) (hI : (I, it) ∈ all) (hit : it.cls = .type "list_iterator") (hP : (P, o) ∈ all) (ho : o.cls ≠ .type "list_iterator") : P ≠ I := fun q => by
  have a := (N _ hI).1
  have b := (N _ hP).1
  rw [show (P, o).1 = (I, it).1 from q, a] at b
  have c : it = o := Option.some.inj b
  exact ho (c ▸ hit)
theorem JG_end {h₀ h' : Heap} {L X P D I : Addr} {it xo : Obj} {m' : Str → Option Value} {all : Led} {s₁ : Shared} {tk : Nat} {o1 o2 o3 o4 o5 : Obj} {p q r o g : Int} {u v y : UInt64} {t1 t2 t3 t4 t5 t6 t7 tg : Tok} {k n : Nat}
    (F : Fr h₀ L h' m') (N : News h₀ L h' all) (hI : (I, it) ∈ all) (hX : (X, xo) ∈ all)
    (c5 : (L + 1 + 1 + 1 + 1 + 1, o5) ∈ all) (c4 : (L + 1 + 1 + 1 + 1, o4) ∈ all) (c3 : (L + 1 + 1 + 1, o3) ∈ all) (c2 : (L + 1 + 1, o2) ∈ all) (c1 : (L + 1, o1) ∈ all)
    (mP : m' (S "pegs") = some (.ref P)) (v1 : o1.data = .cell (some (.int g tg))) (v2 : o2.data = .cell (some (.ref D))) (v3 : ∃ v, o3.data = .cell v) (v4 : ∃ v, o4.data = .cell v) (v5 : ∃ v, o5.data = .cell v)
    (hP : (P, ints4 p q r o t1 t2 t3 t4 k) ∈ all) (hD : (D, fl3 u v y t5 t6 t7 n) ∈ all) (n5 : t5 ≠ 0) (n6 : t6 ≠ 0) (n7 : t7 ≠ 0) (LO : LitOf p q r o u v y)
    (oP : LCg.Off1 P [(L + 1 + 1 + 1 + 1 + 1, o5), (L + 1 + 1 + 1 + 1, o4), (L + 1 + 1 + 1, o3), (L + 1 + 1, o2), (L + 1, o1), (X, xo)])
    (oD : LCg.Off1 D [(L + 1 + 1 + 1 + 1 + 1, o5), (L + 1 + 1 + 1 + 1, o4), (L + 1 + 1 + 1, o3), (L + 1 + 1, o2), (L + 1, o1), (P, ints4 p q r o t1 t2 t3 t4 k), (X, xo)])
    (oX : LCg.Off1 X [(L + 1 + 1 + 1 + 1 + 1, o5), (L + 1 + 1 + 1 + 1, o4), (L + 1 + 1 + 1, o3), (L + 1 + 1, o2), (L + 1, o1)])
    (oI : LCg.Off1 I [(L + 1 + 1 + 1 + 1 + 1, o5), (L + 1 + 1 + 1 + 1, o4), (L + 1 + 1 + 1, o3), (L + 1 + 1, o2), (L + 1, o1), (X, xo)]) (hit : it.cls = .type "list_iterator") :
    TEnd h₀ L (JG L X xo g tg) I it s₁ { s₁ with heap := h', toks := tk } := by
  refine TEnd.intro F N [(L + 1 + 1 + 1 + 1 + 1, o5), (L + 1 + 1 + 1 + 1, o4), (L + 1 + 1 + 1, o3), (L + 1 + 1, o2), (L + 1, o1), (P, ints4 p q r o t1 t2 t3 t4 k), (D, fl3 u v y t5 t6 t7 n), (X, xo)] hI ?_ ⟨oI.1, oI.2.1, oI.2.2.1, oI.2.2.2.1, oI.2.2.2.2.1, it_ne N hI hit hP list_not_it, it_ne N hI hit hD list_not_it, oI.2.2.2.2.2.1, trivial⟩
    ⟨p, q, r, o, u, v, y, P, D, t1, t2, t3, t4, t5, t6, t7, k, n, o1, o2, o3, o4, o5, mP, n5, n6, n7, LO, rfl, oP, oD, oX, v5, v4, v3, v2, v1⟩
  repeat' (first | exact sub_nil | refine sub_cons (by assumption) ?_)
theorem bne_self_f {b : Bool} (h : (b != b) = true) : False := by cases b <;> exact absurd h (by decide)
end
section
open PySem PySem.W PySem.Calls PyProof.Rows PySem.Spec
noncomputable def i3 : List Int := [0, 1, 2]
noncomputable def num16 (x : UInt64) : UInt64 := Float64.add (Float64.mul (Float64.ofInt 16) x) 4602678819172646912
/-- int(16 * x + 0.5) is n -/
noncomputable def numOk (x : UInt64) (n : Int) : Bool := Float64.isFinite (num16 x) && (Flt.toInt Float64.truncOf (num16 x) == n)
noncomputable def fl (k p q r s : Int) : UInt64 := fl16 (nl k p q r s)
noncomputable def hsvL (p q r s : Int) : F3 := hsvR (hF (fl 0 p q r s) (fl 1 p q r s) (fl 2 p q r s)) (sF (fl 0 p q r s) (fl 1 p q r s) (fl 2 p q r s)) (mx (fl 0 p q r s) (fl 1 p q r s) (fl 2 p q r s))
noncomputable def hsvAll (p q r s : Int) : Bool :=
  rgbOk (fl 0 p q r s) (fl 1 p q r s) (fl 2 p q r s) && hsvOk (hF (fl 0 p q r s) (fl 1 p q r s) (fl 2 p q r s)) (sF (fl 0 p q r s) (fl 1 p q r s) (fl 2 p q r s)) &&
  numOk (hsvL p q r s).x (nl 0 p q r s) && numOk (hsvL p q r s).y (nl 1 p q r s) && numOk (hsvL p q r s).z (nl 2 p q r s) &&
  (Float64.cmp (mx (fl 0 p q r s) (fl 1 p q r s) (fl 2 p q r s)) (Flt.maxOfBits [fl 0 p q r s, fl 1 p q r s, fl 2 p q r s]) == some Ordering.eq)
noncomputable def prt (j : Int) (M P Q T : UInt64) (a b c : Int) : Bool :=
  if j = 0 then numOk M a && numOk T b && numOk P c else if j = 1 then numOk Q a && numOk M b && numOk P c else if j = 2 then numOk P a && numOk M b && numOk T c else if j = 3 then numOk P a && numOk Q b && numOk M c else if j = 4 then numOk T a && numOk P b && numOk M c else numOk M a && numOk P b && numOk Q c
theorem prt_eq {h s v : UInt64} {a b c : Int} : prt (Int.fmod (hI h) 6) v (pF s v) (qF h s v) (tF h s v) a b c = (numOk (hsvR h s v).x a && numOk (hsvR h s v).y b && numOk (hsvR h s v).z c) := by
  unfold prt hsvR
  repeat' split
  all_goals rfl
/-- the same, each number told first -/
noncomputable def hsvA (p q r s : Int) : Bool :=
  fi (nl 0 p q r s) fun a => fi (nl 1 p q r s) fun b => fi (nl 2 p q r s) fun c =>
  fo (fl16 a) fun x => fo (fl16 b) fun y => fo (fl16 c) fun z =>
  fo (mx x y z) fun M => fo (mn x y z) fun m => fo (Float64.sub M m) fun rg => fo (Float64.div rg M) fun s =>
  fo (Float64.div (Float64.sub M x) rg) fun rc => fo (Float64.div (Float64.sub M y) rg) fun gc => fo (Float64.div (Float64.sub M z) rg) fun bc =>
  fo (if Float64.cmp x M == some .eq then Float64.sub bc gc else if Float64.cmp y M == some .eq then Float64.sub (Float64.add 4611686018427387904 rc) bc else Float64.sub (Float64.add 4616189618054758400 gc) rc) fun h0 =>
  fo (Float64.divmod (Float64.div h0 4618441417868443648) 4607182418800017408).2 fun h => fo (Float64.mul h 4618441417868443648) fun h6 => fi (Flt.toInt Float64.truncOf h6) fun i =>
  fo (Float64.sub h6 (Float64.ofInt i)) fun f => fo (Float64.mul M (Float64.sub 4607182418800017408 s)) fun P => fo (Float64.mul M (Float64.sub 4607182418800017408 (Float64.mul s f))) fun Q => fo (Float64.mul M (Float64.sub 4607182418800017408 (Float64.mul s (Float64.sub 4607182418800017408 f)))) fun T =>
  fi (Int.fmod i 6) fun j =>
  ((!(Float64.cmp m M == some .eq) && !Float64.isZero M && !Float64.isZero rg) && (!(Float64.cmp s 0 == some .eq) && Float64.isFinite h6 && decide (0 ≤ i ∧ i ≤ 5)) && (Float64.cmp M (Flt.maxOfBits [x, y, z]) == some Ordering.eq)) && prt j M P Q T a b c
theorem hsvA_eq {p q r s : Int} (h : hsvA p q r s = true) : hsvAll p q r s = true := by
  unfold hsvA at h
  simp only [fi_eq, fo_eq] at h
  rw [Bool.and_eq_true, Bool.and_eq_true, Bool.and_eq_true] at h
  obtain ⟨⟨⟨h1, h2⟩, h3⟩, h4⟩ := h
  have e1 : rgbOk (fl 0 p q r s) (fl 1 p q r s) (fl 2 p q r s) = true := h1
  have e2 : hsvOk (hF (fl 0 p q r s) (fl 1 p q r s) (fl 2 p q r s)) (sF (fl 0 p q r s) (fl 1 p q r s) (fl 2 p q r s)) = true := h2
  have e3 : (Float64.cmp (mx (fl 0 p q r s) (fl 1 p q r s) (fl 2 p q r s)) (Flt.maxOfBits [fl 0 p q r s, fl 1 p q r s, fl 2 p q r s]) == some Ordering.eq) = true := h3
  have e4 : (numOk (hsvL p q r s).x (nl 0 p q r s) && numOk (hsvL p q r s).y (nl 1 p q r s) && numOk (hsvL p q r s).z (nl 2 p q r s)) = true := prt_eq.symm.trans h4
  simp only [Bool.and_eq_true] at e4
  obtain ⟨⟨k1, k2⟩, k3⟩ := e4
  unfold hsvAll
  rw [e1, e2, e3, k1, k2, k3]
  rfl
theorem pl_hsv : ∀ p ∈ ([0, 1, 2] : List Int), ∀ q ∈ ([0, 1, 2] : List Int), ∀ r ∈ ([0, 1, 2] : List Int), ∀ s ∈ ([0, 1, 2] : List Int), hsvAll p q r s = true := by
  have h0 : ∀ q ∈ ([0, 1, 2] : List Int), ∀ r ∈ ([0, 1, 2] : List Int), ∀ s ∈ ([0, 1, 2] : List Int), hsvA 0 q r s = true := by decide +kernel
  have h1 : ∀ q ∈ ([0, 1, 2] : List Int), ∀ r ∈ ([0, 1, 2] : List Int), ∀ s ∈ ([0, 1, 2] : List Int), hsvA 1 q r s = true := by decide +kernel
  have h2 : ∀ q ∈ ([0, 1, 2] : List Int), ∀ r ∈ ([0, 1, 2] : List Int), ∀ s ∈ ([0, 1, 2] : List Int), hsvA 2 q r s = true := by decide +kernel
  intro p hp q hq r hr s hs
  refine hsvA_eq ?_
  simp only [List.mem_cons, List.mem_nil_iff, or_false] at hp
  rcases hp with rfl | rfl | rfl
  · exact h0 q hq r hr s hs
  · exact h1 q hq r hr s hs
  · exact h2 q hq r hr s hs
theorem pl_self : ∀ n ∈ k16, (Float64.cmp (fl16 n) (fl16 n) == some Ordering.eq) = true := by decide +kernel
theorem pl_div : ∀ n ∈ k16, Float64.ofFrac (decide (n < 0) != decide ((16 : Int) < 0)) n.natAbs (16 : Int).natAbs = fl16 n := by decide +kernel
theorem pl_ap : ∀ n ∈ k16, apB n = (65 + n).toNat.toUInt8 := by decide +kernel
/-- the light k when one sixteenth goes from i to g -/
noncomputable def tri (g i k p q r s : Int) : Int := nl k p q r s + (if k = g then 1 else 0) - (if k = i then 1 else 0)
noncomputable def orL (g i p q r s : Int) : Int := Builtin.bitOr (Builtin.bitOr (tri g i 0 p q r s) (tri g i 1 p q r s)) (tri g i 2 p q r s)
structure St4 where
  p : Int
  q : Int
  r : Int
  s : Int
  k : Int
/-- the standing whose labels are a b c d -/
noncomputable def ofLab (a b c d k : Int) : St4 :=
  let q := Int.fmod (2 * a - b) 3
  let r := Int.fmod (c - 2 * a + 2 * q) 3
  ⟨a, q, r, Int.fmod (2 * a - 2 * q + 2 * r - d) 3, k⟩
/-- the next standing on the way to all on peg g, and the giver -/
noncomputable def nxt (g p q r s : Int) : St4 :=
  let a := p
  let b := Int.fmod (2 * p - q) 3
  let c := Int.fmod (2 * p - 2 * q + r) 3
  let d := Int.fmod (2 * p - 2 * q + 2 * r - s) 3
  if d ≠ g then ofLab a b c g d else if c ≠ g then ofLab a b g c c else if b ≠ g then ofLab a g b b b else ofLab g a a a a
noncomputable def inB (x : Int) : Bool := decide (0 ≤ x ∧ x ≤ 2)
noncomputable def goesOn (g p q r s : Int) : Bool :=
  let n := nxt g p q r s
  inB n.p && inB n.q && inB n.r && inB n.s && (n.k == 0 || n.k == 1 || n.k == 2) && (n.k != g) &&
  (nl 0 n.p n.q n.r n.s == tri g n.k 0 p q r s) && (nl 1 n.p n.q n.r n.s == tri g n.k 1 p q r s) && (nl 2 n.p n.q n.r n.s == tri g n.k 2 p q r s) &&
  (nl g n.p n.q n.r n.s == nl g p q r s + 1) && takenF p q r s n.p n.q n.r n.s &&
  ((0 != g && orL g 0 p q r s == 15) == (0 == n.k)) && ((1 != g && orL g 1 p q r s == 15) == (1 == n.k)) && ((2 != g && orL g 2 p q r s == 15) == (2 == n.k))
theorem pl_next : ∀ g ∈ ([0, 1, 2] : List Int), ∀ p ∈ ([0, 1, 2] : List Int), ∀ q ∈ ([0, 1, 2] : List Int), ∀ r ∈ ([0, 1, 2] : List Int), ∀ s ∈ ([0, 1, 2] : List Int), (nl g p q r s == 15 || goesOn g p q r s) = true := by decide +kernel
theorem pl_end : ∀ g ∈ ([0, 1, 2] : List Int), ∀ p ∈ ([0, 1, 2] : List Int), ∀ q ∈ ([0, 1, 2] : List Int), ∀ r ∈ ([0, 1, 2] : List Int), ∀ s ∈ ([0, 1, 2] : List Int), nl g p q r s = 15 → p = g ∧ q = g ∧ r = g ∧ s = g := by decide +kernel
end
section
open PySem PySem.W PySem.Calls PyProof.Rows PySem.Spec
theorem fmod3b {x g : Int} (h : Int.fmod x 3 = g) : 0 ≤ g ∧ g < 3 := h ▸ fmod3 x
theorem g_cases {g : Int} (h : 0 ≤ g ∧ g < 3) : g = 0 ∨ g = 1 ∨ g = 2 := by omega
/-- the float at place g of three -/
noncomputable def at3 (g : Int) (x y z : UInt64) : UInt64 := if g = 0 then x else if g = 1 then y else z
noncomputable def atT (g : Int) (x y z : Tok) : Tok := if g = 0 then x else if g = 1 then y else z
section
variable {prog : Program} {w : World} {A : Around} {E : Value → Shared → Prop} {s : Shared} {h₀ : Heap} {L : Addr} {news : Led}
theorem item3_g {g : Int} {value slice : PySem.Expr} {l : Addr} {x y z : UInt64} {a b c : Tok} {n : Nat} {u : Tok} {Q : Value → Shared → Prop} (hg : 0 ≤ g ∧ g < 3) (N : News h₀ L s.heap news) (hm : (l, fl3 x y z a b c n) ∈ news)
    (h : Q (.float (at3 g x y z) (atT g a b c)) s)
    (hs : subscripted slice false (.ref l) (.int g u) = operate [.ref l, .int g u] (getItem (.ref l) (.int g u)) := by with_unfolding_all rfl) :
    wpAny (model prog w) A (subscriptTail value slice (.ref l) (.int g u)) Q E s := by
  rcases g_cases hg with rfl | rfl | rfl
  · exact item_N (vs := [.float x a, .float y b, .float z c]) N hm (by decide) (by decide) rfl h hs
  · exact item_N (vs := [.float x a, .float y b, .float z c]) N hm (by decide) (by decide) rfl h hs
  · exact item_N (vs := [.float x a, .float y b, .float z c]) N hm (by decide) (by decide) rfl h hs
theorem pl_due : ∀ n ∈ k16, Float64.isFinite (Float64.mul (Float64.ofInt 16) (fl16 n)) = true ∧ Flt.toInt Float64.truncOf (Float64.mul (Float64.ofInt 16) (fl16 n)) = n := by decide +kernel
theorem lit_at {p q r o : Int} {x y z : UInt64} (LO : LitOf p q r o x y z) {g : Int} (hg : 0 ≤ g ∧ g < 3) : at3 g x y z = fl16 (nl g p q r o) ∧ nl g p q r o ∈ k16 := by
  have a := pl_lit p (bx_mem LO.bp) q (bx_mem LO.bq) r (bx_mem LO.br) o (bx_mem LO.bs)
  have c := fun k hk => nl_box k hk p (bx_mem LO.bp) q (bx_mem LO.bq) r (bx_mem LO.br) o (bx_mem LO.bs)
  rcases g_cases hg with rfl | rfl | rfl
  · exact ⟨by show x = _; rw [LO.ex]; exact a.1, c 0 (by decide)⟩
  · exact ⟨by show y = _; rw [LO.ey]; exact a.2.1, c 1 (by decide)⟩
  · exact ⟨by show z = _; rw [LO.ez]; exact a.2.2, c 2 (by decide)⟩
theorem due_int {g p q r o : Int} {x y z : UInt64} {t : Tok} {Q : Value → Shared → Prop} (LO : LitOf p q r o x y z) (hg : 0 ≤ g ∧ g < 3) (hA : A.handled = none) (h : Q (.int (nl g p q r o) s.toks) { s with toks := s.toks + 1 }) :
    wpAny (model prog w) A (call (.type "int") [.float (Float64.mul (Float64.ofInt 16) (at3 g x y z)) t]) Q E s := by
  obtain ⟨e, k⟩ := lit_at LO hg
  obtain ⟨a, b⟩ := pl_due _ k
  rw [e]
  refine int_fin hA a ?_
  rw [b]
  exact h
end
end
section
open PySem PySem.W PySem.Calls PyProof.Rows PySem.Spec
/-- the letters told so far -/
noncomputable def lets (n0 c : Int) : List Int := (List.range (c - n0).toNat).map fun (i : Nat) => 65 + n0 + (i : Int)
theorem lets_len (n0 c : Int) : (lets n0 c).length = (c - n0).toNat := by unfold lets; simp
theorem lets_next {n0 c : Int} (h : n0 ≤ c) : lets n0 c ++ [65 + c] = lets n0 (c + 1) := by
  unfold lets
  have : (c + 1 - n0).toNat = (c - n0).toNat + 1 := by omega
  rw [this, List.range_succ, List.map_append]
  congr 1
  simp only [List.map_cons, List.map_nil]
  congr 1
  omega
theorem lets_nil (n0 : Int) : lets n0 n0 = [] := by unfold lets; simp
/-- what holds ahead of a turn of the law's while, i sixteenths lacking at the peg to reach -/
noncomputable def JW (L : Addr) (g : Int) (tg : Tok) (n0 : Int) (td : Tok) (i : Nat) (m : Str → Option Value) (nd : Led) : Prop :=
  ∃ (p q r s : Int) (x y z : UInt64) (P D Q : Addr) (t1 t2 t3 t4 t5 t6 t7 : Tok) (k n kk : Nat) (vs : List Value) (o1 o2 o3 o4 o5 : Obj),
    m (S "pegs") = some (.ref P) ∧ m (S "due") = some (.int (65 + n0) td) ∧ m (S "letters") = some (.ref Q) ∧ t5 ≠ 0 ∧ t6 ≠ 0 ∧ t7 ≠ 0 ∧ LitOf p q r s x y z ∧
    n0 ≤ nl g p q r s ∧ nl g p q r s + (i : Int) = 15 ∧ IntsAre vs (lets n0 (nl g p q r s)) ∧
    nd = [(L + 1 + 1 + 1 + 1 + 1, o5), (L + 1 + 1 + 1 + 1, o4), (L + 1 + 1 + 1, o3), (L + 1 + 1, o2), (L + 1, o1), (P, ints4 p q r s t1 t2 t3 t4 k), (D, fl3 x y z t5 t6 t7 n), (Q, listOf vs.toArray kk)] ∧
    LCg.Off1 P [(L + 1 + 1 + 1 + 1 + 1, o5), (L + 1 + 1 + 1 + 1, o4), (L + 1 + 1 + 1, o3), (L + 1 + 1, o2), (L + 1, o1), (Q, listOf vs.toArray kk)] ∧
    LCg.Off1 D [(L + 1 + 1 + 1 + 1 + 1, o5), (L + 1 + 1 + 1 + 1, o4), (L + 1 + 1 + 1, o3), (L + 1 + 1, o2), (L + 1, o1), (P, ints4 p q r s t1 t2 t3 t4 k), (Q, listOf vs.toArray kk)] ∧
    LCg.Off1 Q [(L + 1 + 1 + 1 + 1 + 1, o5), (L + 1 + 1 + 1 + 1, o4), (L + 1 + 1 + 1, o3), (L + 1 + 1, o2), (L + 1, o1)] ∧
    (∃ v, o5.data = .cell v) ∧ (∃ v, o4.data = .cell v) ∧ (∃ v, o3.data = .cell v) ∧ o2.data = .cell (some (.ref D)) ∧ o1.data = .cell (some (.int g tg))
section
variable {prog : Program} {w : World} {A : Around} {E : Value → Shared → Prop} {s : Shared} {env : Env} {h₀ : Heap} {test : PySem.Expr} {body orelse : List Stmt} {Q : Flow → Shared → Prop}
theorem while_law {pos : Pos} {L Qa P D : Addr} {vs : List Value} {m₀ : Str → Option Value} {news : Led} {o1 o2 o3 o4 o5 : Obj} {p q r o g : Int} {u v y : UInt64} {t1 t2 t3 t4 t5 t6 t7 tg td : Tok} {k n kk : Nat} {n0 : Int}
    (hE : PassesOwn (model prog w) A env E) (hg : 0 ≤ g ∧ g < 3) (F : Fr h₀ L s.heap m₀) (N : News h₀ L s.heap news) 
    (c5 : (L + 1 + 1 + 1 + 1 + 1, o5) ∈ news) (c4 : (L + 1 + 1 + 1 + 1, o4) ∈ news) (c3 : (L + 1 + 1 + 1, o3) ∈ news) (c2 : (L + 1 + 1, o2) ∈ news) (c1 : (L + 1, o1) ∈ news)
    (mP : m₀ (S "pegs") = some (.ref P)) (mD : m₀ (S "due") = some (.int (65 + n0) td)) (mQ : m₀ (S "letters") = some (.ref Qa)) (v1 : o1.data = .cell (some (.int g tg))) (v2 : o2.data = .cell (some (.ref D))) (v3 : ∃ v, o3.data = .cell v) (v4 : ∃ v, o4.data = .cell v) (v5 : ∃ v, o5.data = .cell v)
    (hP : (P, ints4 p q r o t1 t2 t3 t4 k) ∈ news) (hD : (D, fl3 u v y t5 t6 t7 n) ∈ news) (hQ : (Qa, listOf vs.toArray kk) ∈ news) (n5 : t5 ≠ 0) (n6 : t6 ≠ 0) (n7 : t7 ≠ 0) (LO : LitOf p q r o u v y) (e0 : n0 = nl g p q r o) (hv : vs = [])
    (oP : LCg.Off1 P [(L + 1 + 1 + 1 + 1 + 1, o5), (L + 1 + 1 + 1 + 1, o4), (L + 1 + 1 + 1, o3), (L + 1 + 1, o2), (L + 1, o1), (Qa, listOf vs.toArray kk)])
    (oD : LCg.Off1 D [(L + 1 + 1 + 1 + 1 + 1, o5), (L + 1 + 1 + 1 + 1, o4), (L + 1 + 1 + 1, o3), (L + 1 + 1, o2), (L + 1, o1), (P, ints4 p q r o t1 t2 t3 t4 k), (Qa, listOf vs.toArray kk)])
    (oQ : LCg.Off1 Qa [(L + 1 + 1 + 1 + 1 + 1, o5), (L + 1 + 1 + 1 + 1, o4), (L + 1 + 1 + 1, o3), (L + 1 + 1, o2), (L + 1, o1)])
    (turn : ∀ i m nd h tk, JW L g tg n0 td i m nd → Fr h₀ L h m → News h₀ L h nd →
      wpAny (model prog w) A (isTrue test env (eval test env)) (fun b s₂ => WhlIf b (wpAny (model prog w) A (execs body env) (WJPost h₀ L (JW L g tg n0 td) i s Q) E s₂) (wpAny (model prog w) A (execs orelse env) Q E s₂)) E { s with heap := h, toks := tk }) :
    wpAny (model prog w) A (exec (.While test body orelse pos) env) Q E s := by
  have hn := (lit_at LO hg).2
  subst e0 hv
  have hb : nl g p q r o ≤ 15 := by
    have : ∀ n ∈ k16, n ≤ 15 := by decide
    exact this _ hn
  refine while_J (i := (15 - nl g p q r o).toNat) [(L + 1 + 1 + 1 + 1 + 1, o5), (L + 1 + 1 + 1 + 1, o4), (L + 1 + 1 + 1, o3), (L + 1 + 1, o2), (L + 1, o1), (P, ints4 p q r o t1 t2 t3 t4 k), (D, fl3 u v y t5 t6 t7 n), (Qa, listOf (List.toArray []) kk)] (JW L g tg (nl g p q r o) td) hE F N ?_
    ⟨p, q, r, o, u, v, y, P, D, Qa, t1, t2, t3, t4, t5, t6, t7, k, n, kk, [], o1, o2, o3, o4, o5, mP, mD, mQ, n5, n6, n7, LO, Int.le_refl _, by omega, by rw [lets_nil]; exact .nil, rfl, oP, oD, oQ, v5, v4, v3, v2, v1⟩ turn
  repeat' (first | exact sub_nil | refine sub_cons (by assumption) ?_)
end
end
section
open PySem PySem.W PySem.Calls PyProof.Rows PySem.Spec
theorem fl_of {p q r o : Int} {x y z : UInt64} (LO : LitOf p q r o x y z) : x = fl 0 p q r o ∧ y = fl 1 p q r o ∧ z = fl 2 p q r o := by
  have a := pl_lit p (bx_mem LO.bp) q (bx_mem LO.bq) r (bx_mem LO.br) o (bx_mem LO.bs)
  exact ⟨LO.ex.trans a.1, LO.ey.trans a.2.1, LO.ez.trans a.2.2⟩
theorem hsv_all {p q r o : Int} {x y z : UInt64} (LO : LitOf p q r o x y z) : rgbOk x y z = true ∧ hsvOk (hF x y z) (sF x y z) = true ∧ numOk (hsvR (hF x y z) (sF x y z) (mx x y z)).x (nl 0 p q r o) = true ∧ numOk (hsvR (hF x y z) (sF x y z) (mx x y z)).y (nl 1 p q r o) = true ∧ numOk (hsvR (hF x y z) (sF x y z) (mx x y z)).z (nl 2 p q r o) = true ∧ (Float64.cmp (mx x y z) (Flt.maxOfBits [x, y, z]) == some Ordering.eq) = true := by
  obtain ⟨ex, ey, ez⟩ := fl_of LO
  have h := pl_hsv p (bx_mem LO.bp) q (bx_mem LO.bq) r (bx_mem LO.br) o (bx_mem LO.bs)
  unfold hsvAll hsvL at h
  rw [← ex, ← ey, ← ez] at h
  simp only [Bool.and_eq_true] at h
  exact ⟨h.1.1.1.1.1, h.1.1.1.1.2, h.1.1.1.2, h.1.1.2, h.1.2, h.2⟩
/-- h s v is the colour of the standing whose lights are x y z -/
structure HsvOf (p q r o : Int) (x y z h s v : UInt64) : Prop where
  ok : hsvOk h s = true
  n0 : numOk (hsvR h s v).x (nl 0 p q r o) = true
  n1 : numOk (hsvR h s v).y (nl 1 p q r o) = true
  n2 : numOk (hsvR h s v).z (nl 2 p q r o) = true
  mx : (Float64.cmp v (Flt.maxOfBits [x, y, z]) == some Ordering.eq) = true
section
variable (w : World) (s00 : Heap) (mg mb : Str → Option Value) {p q r o : Int} {x y z h s v : UInt64} {a b c : Tok}
theorem rgb_lit (LO : LitOf p q r o x y z) : PCo 2 w s00 mg mb 28 [] [.float x a, .float y b, .float z c] (fun ob => ∃ h s v t1 t2 t3 n, HsvOf p q r o x y z h s v ∧ ob = tup3 h s v t1 t2 t3 n) := by
  obtain ⟨k1, k2, k3, k4, k5, k6⟩ := hsv_all LO
  have c := rgb_call w s00 mg mb x y z a b c k1
  intro dp un gd cn cs a' ccd cl outer A₀ base h₀ L m s' Q E B F X N T hk hd hu hret
  refine c dp un gd cn cs a' ccd cl outer A₀ base h₀ L m s' Q E B F X N T hk hd hu fun r o h' tk' e1 e2 e3 e4 => hret r o h' tk' e1 e2 e3 ?_
  obtain ⟨t1, t2, t3, n, rfl⟩ := e4
  exact ⟨_, _, _, t1, t2, t3, n, ⟨k2, k3, k4, k5, k6⟩, rfl⟩
theorem hsv_lit (H : HsvOf p q r o x y z h s v) : PCo 2 w s00 mg mb 35 [] [.float h a, .float s b, .float v c] (fun ob => ∃ x y z t1 t2 t3 n, numOk x (nl 0 p q r o) = true ∧ numOk y (nl 1 p q r o) = true ∧ numOk z (nl 2 p q r o) = true ∧ ob = tup3 x y z t1 t2 t3 n) := by
  have c := hsv_call w s00 mg mb h s v a b c H.ok
  intro dp un gd cn cs a' ccd cl outer A₀ base h₀ L m s' Q E B F X N T hk hd hu hret
  refine c dp un gd cn cs a' ccd cl outer A₀ base h₀ L m s' Q E B F X N T hk hd hu fun r o h' tk' e1 e2 e3 e4 => hret r o h' tk' e1 e2 e3 ?_
  obtain ⟨t1, t2, t3, n, rfl⟩ := e4
  exact ⟨_, _, _, t1, t2, t3, n, H.n0, H.n1, H.n2, rfl⟩
end
section
variable {prog : Program} {w : World} {A : Around} {E : Value → Shared → Prop} {s : Shared} {h₀ : Heap} {L : Addr} {m : Str → Option Value} {env : Env}
theorem int_num {x : UInt64} {n : Int} {t : Tok} {Q : Value → Shared → Prop} (h : numOk x n = true) (hA : A.handled = none) (k : Q (.int n s.toks) { s with toks := s.toks + 1 }) :
    wpAny (model prog w) A (call (.type "int") [.float (Float64.add (Float64.mul (Float64.ofInt 16) x) 4602678819172646912) t]) Q E s := by
  unfold numOk at h
  rw [Bool.and_eq_true, beq_iff_eq] at h
  refine int_fin hA h.1 ?_
  have e : Flt.toInt Float64.truncOf (Float64.add (Float64.mul (Float64.ofInt 16) x) 4602678819172646912) = n := h.2
  rw [e]
  exact k
theorem div16_ii {n : Int} {t u : Tok} {Q : Value → Shared → Prop} (h : n ∈ k16) (hA : A.handled = none) (k : Q (.float (fl16 n) s.toks) { s with toks := s.toks + 1 }) :
    wpAny (model prog w) A (binaryOp .Div (.int n t) (.int 16 u)) Q E s := by
  have hb : ∀ n ∈ k16, n.natAbs < 16 := by decide
  refine Flt.div_ii_fits hA (Nat.lt_trans (hb n h) (by decide +kernel)) (fun e => absurd e (by decide)) fun _ _ => ?_
  rw [pl_div n h]
  exact k
theorem ne_known {a b : UInt64} {t u : Tok} {Q : Value → Shared → Prop} (h : (Float64.cmp a b == some Ordering.eq) = true) (k : Q (.bool false) s) : wpAny (model prog w) A (compareOp .NotEq (.float a t) (.float b u)) Q E s :=
  AutoFloatOps.ne_0 (by rw [bne, h]; exact k)
noncomputable abbrev tup (its : Array Value) (k : Nat) : Obj := { cls := .type "tuple", data := .seq its k }
noncomputable def TupAt (ax : Addr) (its : Array Value) (news : Led) : Prop := False ∨ ∃ o, (ax, o) ∈ news ∧ o.cls = .type "tuple" ∧ ∃ n, o.data = .seq its n
noncomputable def SrcTup (prog : Program) (w : World) (A : Around) (h₀ : Heap) (L : Addr) (m : Str → Option Value) (env : Env) (elt : PySem.Expr) (x : Str) (scope : Scope) (cl : List (Str × Addr)) (Fin : Shared → List Value → List (Addr × Obj) → Prop) (xv : Value) (s₁ : Shared) : Prop :=
  ∃ ax its news, xv = .ref ax ∧ A.handled = none ∧ Fr h₀ L s₁.heap m ∧ News h₀ L s₁.heap news ∧ TupAt ax its news ∧ its.size ≤ sizeLine ∧
    ∀ s₂ : Shared, (∃ h, s₂ = { s₁ with heap := h }) → LCg.CompRest prog w A h₀ L m env elt x scope cl s₂ (TupAt ax its) (fun i v => its[i]? = some v) (Fin s₂) its.size 0 [] news
theorem SrcTup.three {elt : PySem.Expr} {x : Str} {scope : Scope} {cl : List (Str × Addr)} {Fin : Shared → List Value → List (Addr × Obj) → Prop} {ax : Addr} {v1 v2 v3 : Value} {k : Nat} {news : Led} {s₁ : Shared}
    (hh : A.handled = none) (F : Fr h₀ L s₁.heap m) (N : News h₀ L s₁.heap news) (hm : (ax, tup #[v1, v2, v3] k) ∈ news)
    (h : ∀ g, LCg.CompRest prog w A h₀ L m env elt x scope cl { s₁ with heap := g } (TupAt ax #[v1, v2, v3]) (fun i v => #[v1, v2, v3][i]? = some v) (Fin { s₁ with heap := g }) 3 0 [] news) :
    SrcTup prog w A h₀ L m env elt x scope cl Fin (.ref ax) s₁ := ⟨ax, #[v1, v2, v3], news, rfl, hh, F, N, .inr ⟨_, hm, rfl, _, rfl⟩, Nat.le_of_ble_eq_true rfl, fun _ ⟨g, e⟩ => e ▸ h g⟩
theorem TupAt.tuple {h : Heap} {ax : Addr} {its : Array Value} {news : Led} (x : TupAt ax its news) (N : News h₀ L h news) : h.IsTuple ax its := by
  rcases x with x | ⟨o, hm, r⟩
  · exact x.elim
  · exact ⟨o, (N _ hm).1, r⟩
theorem ListComp_tup {elt iter : PySem.Expr} {x : Str} {px : Pos} {scope : Scope} {cl : List (Str × Addr)} {pos : Pos} {Q : Value → Shared → Prop} (F₀ : Fr h₀ L s.heap m)
    (hclos : closureFor scope env = pure cl) (hcell : ∀ y ∈ scope.names, y.2 ≠ .cell) (hkind : scope.kind = .function)
    (hnames : ∀ y ∈ scope.names, y.2 = .local → scope.names.lookup y.1 = some .local) (hx : scope.names.lookup x = some .local)
    (h : wpAny (model prog w) A (eval iter env) (SrcTup prog w A h₀ L m env elt x scope cl (fun s₂ => LCg.FinE h₀ L m s₂ Q)) E s)
    (hs : ∀ x, foldedSetIterable iter env x = pure x := by intro _; rfl) :
    wpAny (model prog w) A (eval (.ListComp elt [⟨.Name x px, iter, [], 0⟩] scope pos) env) Q E s := by
  rw [eval_ListComp]
  refine wpAny_comprehension_free (use := none) rfl hs hclos hkind hnames (wpAny_mono h (fun xv s₁ h₁ => ?_) fun _ _ e => e)
  obtain ⟨ax, its, news, rfl, hh, F, N, S, hsz, R⟩ := h₁
  have ht := S.tuple N
  have hlt : @LT.lt Nat _ ax s₁.heap.objs.size := by obtain ⟨_, e, _⟩ := ht; exact Heap.lt_size e
  refine wpAny_pyIter_tuple ht ?_
  have up : ∀ b o, s₁.heap.get? b = some o → (s₁.heap.push { cls := .type "tuple_iterator", data := .fields #[.ref ax, .int 0 0] }).get? b = some o := fun b o e => Heap.get?_push_of_some _ e
  refine LCg.block_U (Walks.tuple hh s₁.heap.objs.size ax (Nat.ne_of_lt hlt) its) hsz (fun i h st => by obtain ⟨o, e, _⟩ := st.1; exact ⟨o, e⟩)
    (fun i h h' o nw st e e' _ N' S' => ⟨by obtain ⟨o', q, r⟩ := st.1; rw [e] at q; cases q; exact ⟨o, e', r⟩, S'.tuple N'⟩)
    hcell hkind hx ⟨⟨_, Heap.get?_push_size _ rfl, rfl, rfl⟩, ht.at fun o e => up _ o e⟩ (fun b hb => ?_)
    (F.keeps up) (N.grown up) (Nat.ne_of_lt F.ns.lt) (next_is_new F) (fun p hp => Nat.ne_of_lt (Heap.lt_size (N p hp).1)) S (R _ ⟨_, rfl⟩) ?_
  · show @LT.lt Nat _ b (s₁.heap.push _).objs.size
    rw [Heap.size_push]
    rcases List.mem_cons.mp hb with rfl | hb
    · exact Nat.lt_succ_self _
    · rw [List.mem_singleton.mp hb]; exact Nat.lt_succ_of_lt hlt
  · intro D C h tk m' ys news' F' N' o1 hn hC₀ hD₀ hCL hDL hCD offC fin
    refine ⟨m', hn, fun h'' hs'' => fin D h'' tk (F'.change hs'' hCL hC₀) (fun p hp => ?_) o1⟩
    refine ⟨hs''.extBut _ _ ?_ (N' p hp).1, (N' p hp).2⟩
    rcases List.mem_cons.mp hp with rfl | hp
    · exact Ne.symm hCD
    · exact offC p hp
end
end
section
open PySem PySem.W PySem.Calls PyProof.Rows PySem.Spec
theorem k16_box {n : Int} (h : n ∈ k16) : 0 ≤ n ∧ n ≤ 15 := by
  have : ∀ n ∈ k16, 0 ≤ n ∧ n ≤ 15 := by decide
  exact this n h
theorem turn_facts {g p q r o n0 : Int} {x y z : UInt64} {vs : List Value} (LO : LitOf p q r o x y z) (hg : 0 ≤ g ∧ g < 3) (hle : n0 ≤ nl g p q r o) (hi : IntsAre vs (lets n0 (nl g p q r o))) (h0 : 0 ≤ n0) :
    nl 0 p q r o ∈ k16 ∧ nl 1 p q r o ∈ k16 ∧ nl 2 p q r o ∈ k16 ∧ nl g p q r o ∈ k16 ∧ (0 ≤ nl 0 p q r o ∧ nl 0 p q r o ≤ 15) ∧ (0 ≤ nl 1 p q r o ∧ nl 1 p q r o ≤ 15) ∧ (0 ≤ nl 2 p q r o ∧ nl 2 p q r o ≤ 15) ∧ vs.length ≤ 15 := by
  have c := fun k hk => nl_box k hk p (bx_mem LO.bp) q (bx_mem LO.bq) r (bx_mem LO.br) o (bx_mem LO.bs)
  have hgk := (lit_at LO hg).2
  have b := k16_box hgk
  have hl : vs.length = (nl g p q r o - n0).toNat := by rw [hi.length, lets_len]
  exact ⟨c 0 (by decide), c 1 (by decide), c 2 (by decide), hgk, k16_box (c 0 (by decide)), k16_box (c 1 (by decide)), k16_box (c 2 (by decide)), by omega⟩
theorem lit_self {p q r o : Int} {x y z : UInt64} (LO : LitOf p q r o x y z) : (Float64.cmp (fl16 (nl 0 p q r o)) x == some Ordering.eq) = true ∧ (Float64.cmp (fl16 (nl 1 p q r o)) y == some Ordering.eq) = true ∧ (Float64.cmp (fl16 (nl 2 p q r o)) z == some Ordering.eq) = true := by
  obtain ⟨e0, e1, e2⟩ := fl_of LO
  have c := fun k hk => nl_box k hk p (bx_mem LO.bp) q (bx_mem LO.bq) r (bx_mem LO.br) o (bx_mem LO.bs)
  rw [e0, e1, e2]
  exact ⟨pl_self _ (c 0 (by decide)), pl_self _ (c 1 (by decide)), pl_self _ (c 2 (by decide))⟩
theorem fl3_are {x y z : UInt64} {a b c : Tok} : Flt.FloatsAre [.float x a, .float y b, .float z c] [x, y, z] := .cons _ _ (.cons _ _ (.cons _ _ .nil))
theorem nl_nn {g p q r s n : Int} (h : nl g p q r s = n) : 0 ≤ n := by
  subst h
  unfold nl
  repeat' split
  all_goals omega
end
section
open PySem PySem.W PySem.Calls PyProof.Rows PySem.Spec
section
variable {prog : Program} {w : World} {A : Around} {E : Value → Shared → Prop} {s : Shared} {h₀ : Heap} {L : Addr} {news : Led}
theorem apB_nat : ∀ n ∈ k16, (((apB n).toNat : Nat) : Int) = 65 + n := by decide +kernel
theorem word_item {g p q r o : Int} {value slice : PySem.Expr} {t u : Tok} {Q : Value → Shared → Prop} (hg : 0 ≤ g ∧ g < 3) (k0 : nl 0 p q r o ∈ k16) (k1 : nl 1 p q r o ∈ k16) (k2 : nl 2 p q r o ∈ k16)
    (h : ∀ t' k, Q (.int (65 + nl g p q r o) t') { s with toks := k })
    (hs : subscripted slice false (.bytes #[66, apB (nl 0 p q r o), apB (nl 1 p q r o), apB (nl 2 p q r o)] t) (.int (1 + g) u) = operate [.bytes #[66, apB (nl 0 p q r o), apB (nl 1 p q r o), apB (nl 2 p q r o)] t, .int (1 + g) u] (getItem (.bytes #[66, apB (nl 0 p q r o), apB (nl 1 p q r o), apB (nl 2 p q r o)] t) (.int (1 + g) u)) := by with_unfolding_all rfl)
    (ht : ∀ r', letTemporaryGo value (.bytes #[66, apB (nl 0 p q r o), apB (nl 1 p q r o), apB (nl 2 p q r o)] t) r' = pure () := by intro _; with_unfolding_all rfl) :
    wpAny (model prog w) A (subscriptTail value slice (.bytes #[66, apB (nl 0 p q r o), apB (nl 1 p q r o), apB (nl 2 p q r o)] t) (.int (1 + g) u)) Q E s := by
  rcases g_cases hg with rfl | rfl | rfl
  · exact bytes_item_K (x := [66, apB (nl 0 p q r o), apB (nl 1 p q r o), apB (nl 2 p q r o)]) (by show 4 ≤ _; omega) (by decide) (by show (1 : Int) + 0 < 4; decide) (apB_nat _ k0) (h _ _) hs ht
  · exact bytes_item_K (x := [66, apB (nl 0 p q r o), apB (nl 1 p q r o), apB (nl 2 p q r o)]) (by show 4 ≤ _; omega) (by decide) (by show (1 : Int) + 1 < 4; decide) (apB_nat _ k1) (h _ _) hs ht
  · exact bytes_item_K (x := [66, apB (nl 0 p q r o), apB (nl 1 p q r o), apB (nl 2 p q r o)]) (by show 4 ≤ _; omega) (by decide) (by show (1 : Int) + 2 < 4; decide) (apB_nat _ k2) (h _ _) hs ht
theorem part_item {g p q r o : Int} {value slice : PySem.Expr} {l : Addr} {a b c : Tok} {n : Nat} {u : Tok} {Q : Value → Shared → Prop} (hg : 0 ≤ g ∧ g < 3) (N : News h₀ L s.heap news) (hm : (l, listOf #[.int (nl 0 p q r o) a, .int (nl 1 p q r o) b, .int (nl 2 p q r o) c] n) ∈ news)
    (h : ∀ t', Q (.int (nl g p q r o) t') s)
    (hs : subscripted slice false (.ref l) (.int g u) = operate [.ref l, .int g u] (getItem (.ref l) (.int g u)) := by with_unfolding_all rfl) :
    wpAny (model prog w) A (subscriptTail value slice (.ref l) (.int g u)) Q E s := by
  rcases g_cases hg with rfl | rfl | rfl
  · exact item_N (vs := [.int (nl 0 p q r o) a, .int (nl 1 p q r o) b, .int (nl 2 p q r o) c]) N hm (by decide) (by decide) rfl (h _) hs
  · exact item_N (vs := [.int (nl 0 p q r o) a, .int (nl 1 p q r o) b, .int (nl 2 p q r o) c]) N hm (by decide) (by decide) rfl (h _) hs
  · exact item_N (vs := [.int (nl 0 p q r o) a, .int (nl 1 p q r o) b, .int (nl 2 p q r o) c]) N hm (by decide) (by decide) rfl (h _) hs
end
/-- the letters after one more was told -/
theorem lets_push {vs : List Value} {n0 c : Int} {t : Tok} (hi : IntsAre vs (lets n0 c)) (h : n0 ≤ c) : IntsAre (vs ++ [.int (65 + c) t]) (lets n0 (c + 1)) := by
  rw [← lets_next h]
  exact IntsAre.append hi (.cons _ _ .nil)
end
section
open PySem PySem.W PySem.Calls PyProof.Rows PySem.Spec
section
variable {prog : Program} {w : World} {A : Around} {E : Value → Shared → Prop} {s : Shared} {h₀ : Heap} {L : Addr} {m : Str → Option Value} {news : Led}
theorem list_due {r : Addr} {n0 : Int} {t u v : Tok} {Q : Value → Shared → Prop} (hh : A.handled = none) (F : Fr h₀ L s.heap m) (N : News h₀ L s.heap news) (hr : IsRange s.heap r (65 + n0) 81 1 t u v) (h0 : 0 ≤ n0) (h1 : n0 ≤ 15)
    (h : ∀ D us c h' tk, Fr h₀ L h' m → News h₀ L h' ((D, listOf (List.toArray us) c) :: news) → (∀ p ∈ news, p.1 < D) → IntsAre us (lets n0 16) → Q (.ref D) { s with heap := h', toks := tk }) :
    wpAny (model prog w) A (call (.type "list") [.ref r]) Q E s := by
  refine kll_range (n := (16 - n0).toNat) hh F N hr (small_one (by omega) (by omega) (by omega) (by omega)) ?_ (by omega) fun D us c h' tk F' N' l1 hi => h D us c h' tk F' N' l1 hi
  rw [rangeSize_nat]
  congr 1
  omega
theorem eq_letters {a b : Addr} {vs us : List Value} {n0 c : Int} {t : Tok} {k1 k2 : Nat} {Q : Value → Shared → Prop} (N : News h₀ L s.heap news) (hm : (a, listOf (vs.toArray.push (.int (65 + c) t)) k1) ∈ news) (hm' : (b, listOf us.toArray k2) ∈ news)
    (hi : IntsAre vs (lets n0 c)) (hle : n0 ≤ c) (hc : c = 15) (hi' : IntsAre us (lets n0 16)) (hu : A.units + 64 < cLine) (h : Q (.bool true) s) : wpAny (model prog w) A (compareOp .Eq (.ref a) (.ref b)) Q E s := by
  have e : vs.toArray.push (Value.int (65 + c) t) = (vs ++ [Value.int (65 + c) t]).toArray := List.push_toArray _ _
  rw [e] at hm
  refine eq_intsK (News.isList N hm) (lets_push hi hle) (News.isList N hm') hi' hu ?_
  rw [hc, decide_eq_true (by rfl)]
  exact h
theorem eq_goal {a b : Addr} {p q r o g : Int} {ta tb tc td t : Tok} {n k : Nat} {Q : Value → Shared → Prop} (N : News h₀ L s.heap news) (hm : (a, ints4 p q r o ta tb tc td n) ∈ news) (hm' : (b, listOf (List.replicate (Int.toNat 4) [Value.int g t]).flatten.toArray k) ∈ news)
    (ep : p = g) (eq : q = g) (er : r = g) (eo : o = g) (hu : A.units + 64 < cLine) (h : Q (.bool true) s) : wpAny (model prog w) A (compareOp .Eq (.ref a) (.ref b)) Q E s := by
  subst ep eq er eo
  refine eq_intsK (vs := [.int o ta, .int o tb, .int o tc, .int o td]) (us := [.int o t, .int o t, .int o t, .int o t]) (ns := [o, o, o, o]) (ms := [o, o, o, o]) (News.isList N hm) (.cons _ _ (.cons _ _ (.cons _ _ (.cons _ _ .nil)))) (News.isList N hm') (.cons _ _ (.cons _ _ (.cons _ _ (.cons _ _ .nil)))) hu ?_
  rw [decide_eq_true rfl]
  exact h
end
theorem end_of {g p q r o : Int} {x y z : UInt64} (LO : LitOf p q r o x y z) (hg : 0 ≤ g ∧ g < 3) (e : nl g p q r o = 15) : p = g ∧ q = g ∧ r = g ∧ o = g := by
  have gm : g ∈ ([0, 1, 2] : List Int) := by
    rcases g_cases hg with rfl | rfl | rfl <;> decide
  exact pl_end g gm p (bx_mem LO.bp) q (bx_mem LO.bq) r (bx_mem LO.br) o (bx_mem LO.bs) e
theorem getD_nl {g p q r o : Int} (hg : 0 ≤ g ∧ g < 3) : [nl 0 p q r o, nl 1 p q r o, nl 2 p q r o].getD g.toNat 0 = nl g p q r o := by
  rcases g_cases hg with rfl | rfl | rfl <;> rfl
end
section
open PySem PySem.W PySem.Calls PyProof.Rows PySem.Spec
noncomputable def TNext (h₀ : Heap) (L : Addr) (J : (Str → Option Value) → Led → Prop) (I : Addr) (it : Obj) (s₁ : Shared) (f : Flow) (s₂ : Shared) : Prop := f = .next ∧ TEnd h₀ L J I it s₁ s₂
section
variable {prog : Program} {w : World} {A : Around} {E : Value → Shared → Prop} {s : Shared} {env : Env} {h₀ : Heap} {target : PySem.Expr} {body : List Stmt} {Q : Flow → Shared → Prop}
theorem iter_rT {r : Addr} {t₀ u₀ v₀ : Tok} {m₀ : Str → Option Value} {news : Led} (nd₀ : Led) (J : Nat → (Str → Option Value) → Led → Prop)
    (hh : A.handled = none) (hr : IsRange s.heap r 0 3 1 t₀ u₀ v₀) (F : Fr h₀ env.locals s.heap m₀) (N : News h₀ env.locals s.heap news) (hsub : ∀ p ∈ nd₀, p ∈ news) (hj : J 0 m₀ nd₀)
    (hgo : ∀ a b, letOwnedTupleGo target a b = pure ())
    (turn : ∀ (i : Nat) t I it m₁ nd h G D tk O, i < 3 → LCg.Off1 I nd → J i m₁ nd → Fr h₀ env.locals h m₁ → News h₀ env.locals h ((I, it) :: nd) →
      wpAny (model prog w) A (assign target env (.int (i : Int) t)) (fun _ s₃ => wpAny (model prog w) A (execs body env) (TNext h₀ env.locals (J (i + 1)) I it ⟨h, G, D, tk, O⟩) E s₃) E ⟨h, G, D, tk, O⟩)
    (done : ∀ m₁ nd h tk, J 3 m₁ nd → Fr h₀ env.locals h m₁ → News h₀ env.locals h nd → Q .next { s with heap := h, toks := tk }) :
    wpAny (model prog w) A (pyIter (.ref r)) (fun it s₂ => LoopAtT prog w A h₀ env target body Q E it s₂) E s := by
  have hn : Builtin.Range.rangeSize 0 3 1 = ((3 : Nat) : Int) := by decide
  refine wpAny_pyIter_range hr (by decide) ?_
  have W := LCg.range_walks (prog := prog) (w := w) (I := s.heap.objs.size) hh 0 3
  have hL : @LT.lt Nat _ env.locals s.heap.objs.size := F.ns.lt
  have hnew : h₀.get? s.heap.objs.size = none := next_is_new F
  have nd_lt : ∀ p ∈ nd₀, @LT.lt Nat _ p.1 s.heap.objs.size := fun p hp => Heap.lt_size (N p (hsub p hp)).1
  refine ⟨_, _, _, 3, _, _, m₀, nd₀, fun i m nd => J i m nd, rfl, W, ?_, ?_, ?_, (by show IsRangeIter _ _ _ _ _; rw [hn]; simpa using Heap.get?_push_size _ rfl), F.push _, (fun p hp => ⟨Heap.get?_push_of_some _ (N p (hsub p hp)).1, (N p (hsub p hp)).2⟩), ?_, hj, ?_, ?_⟩
  · intro hm
    have := List.mem_singleton.mp hm
    exact Nat.ne_of_lt hL this
  · intro b hb
    rw [List.mem_singleton.mp hb]
    exact hnew
  · intro p hp hI
    exact Nat.ne_of_lt (nd_lt p hp) (List.mem_singleton.mp hI)
  · intro i s' v Q' _ hq
    rw [hgo]
    exact wpAny_pure hq
  · rintro i v m₁ nd s₁ own hi ⟨t, rfl⟩ hJ hoff hsub' hget hall hst F₁ N₁
    obtain ⟨h, G, Dr, tk, O⟩ := s₁
    dsimp only at hget hall hst F₁ N₁ ⊢
    obtain ⟨itO, hst'⟩ : ∃ o, h.get? s.heap.objs.size = some o := ⟨_, hst⟩
    have hin := hall s.heap.objs.size (List.mem_singleton.mpr rfl) hnew _ hst'
    have oI : LCg.Off1 s.heap.objs.size nd := off1_of fun p hp q => hoff p hp (List.mem_singleton.mpr q)
    have e0 : (0 : Int) + (i : Int) = (i : Int) := Int.zero_add _
    rw [e0]
    refine wpAny_mono (turn i t s.heap.objs.size itO m₁ nd h G Dr tk O hi oI hJ F₁ (fun p hp => ?_)) (fun _ s₃ x => wpAny_mono x (fun f s₄ y => ?_) fun _ _ e => e) fun _ _ e => e
    · rcases List.mem_cons.mp hp with rfl | hp
      · exact N₁ _ (List.mem_append_left _ hin)
      · exact N₁ _ (List.mem_append_right _ hp)
    · obtain ⟨rfl, h', tk', m', all, nd', rfl, F', N', hIa, hs, ho, hj'⟩ := y
      refine ⟨rfl, h', tk', m', nd', rfl, F', fun p hp => ?_, fun p hp q => off1_mem ho p hp (List.mem_singleton.mp q), hj'⟩
      rcases List.mem_append.mp hp with hp | hp
      · have e1 := hget p hp
        have e2 : p.1 = s.heap.objs.size := List.mem_singleton.mp (hsub' p hp)
        rw [e2, hst'] at e1
        have e3 : p = (s.heap.objs.size, p.2) := by rw [← e2]
        rw [e3, ← Option.some.inj e1]
        exact N' _ hIa
      · exact N' p (hs p hp)
  · intro h' tk m' nd F' N' _ hJ
    exact done m' nd h' tk hJ F' N'
end
end
section
open PySem PySem.W PySem.Calls PyProof.Rows PySem.Spec
/-- what is on the ledger all through the giver loop -/
noncomputable def GBase (L : Addr) (g : Int) (tg : Tok) (p q r s : Int) (n0 : Int) (td : Tok) (P Q W Pt : Addr) (lo : Obj) (m : Str → Option Value) (base : Led) : Prop :=
  ∃ (t1 t2 t3 t4 a1 a2 a3 : Tok) (k kp : Nat) (o1 o2 o3 o4 o5 : Obj),
    m (S "pegs") = some (.ref P) ∧ m (S "due") = some (.int (65 + n0) td) ∧ m (S "letters") = some (.ref Q) ∧ m (S "ways") = some (.ref W) ∧
    base = [(L + 1 + 1 + 1 + 1 + 1, o5), (L + 1 + 1 + 1 + 1, o4), (L + 1 + 1 + 1, o3), (L + 1 + 1, o2), (L + 1, o1), (P, ints4 p q r s t1 t2 t3 t4 k), (Q, lo), (Pt, listOf #[.int (nl 0 p q r s) a1, .int (nl 1 p q r s) a2, .int (nl 2 p q r s) a3] kp)] ∧
    LCg.Off1 P [(L + 1 + 1 + 1 + 1 + 1, o5), (L + 1 + 1 + 1 + 1, o4), (L + 1 + 1 + 1, o3), (L + 1 + 1, o2), (L + 1, o1), (Q, lo)] ∧
    LCg.Off1 Q [(L + 1 + 1 + 1 + 1 + 1, o5), (L + 1 + 1 + 1 + 1, o4), (L + 1 + 1 + 1, o3), (L + 1 + 1, o2), (L + 1, o1)] ∧
    LCg.Off1 Pt [(L + 1 + 1 + 1 + 1 + 1, o5), (L + 1 + 1 + 1 + 1, o4), (L + 1 + 1 + 1, o3), (L + 1 + 1, o2), (L + 1, o1)] ∧
    LCg.Off1 W [(L + 1 + 1 + 1 + 1 + 1, o5), (L + 1 + 1 + 1 + 1, o4), (L + 1 + 1 + 1, o3), (L + 1 + 1, o2), (L + 1, o1), (P, ints4 p q r s t1 t2 t3 t4 k), (Q, lo), (Pt, listOf #[.int (nl 0 p q r s) a1, .int (nl 1 p q r s) a2, .int (nl 2 p q r s) a3] kp)] ∧
    (∃ v, o5.data = .cell v) ∧ o4.data = .cell (some (.ref Pt)) ∧ (∃ v, o3.data = .cell v) ∧ (∃ v, o2.data = .cell v) ∧ o1.data = .cell (some (.int g tg))
noncomputable def JV (L : Addr) (g : Int) (tg : Tok) (p q r s : Int) (n0 : Int) (td : Tok) (P Q W Pt : Addr) (lo : Obj) (N : St4) (i : Nat) (m : Str → Option Value) (nd : Led) : Prop :=
  ∃ base, GBase L g tg p q r s n0 td P Q W Pt lo m base ∧
    (((i : Int) ≤ N.k ∧ ∃ kw, nd = (W, listOf (List.toArray []) kw) :: base) ∨
     (N.k < (i : Int) ∧ ∃ (R : Addr) (u1 u2 u3 : Tok) (kw kr : Nat), u1 ≠ 0 ∧ u2 ≠ 0 ∧ u3 ≠ 0 ∧ nd = (W, listOf #[.ref R] kw) :: (R, fl3 (fl16 (nl 0 N.p N.q N.r N.s)) (fl16 (nl 1 N.p N.q N.r N.s)) (fl16 (nl 2 N.p N.q N.r N.s)) u1 u2 u3 kr) :: base ∧ LCg.Off1 R ((W, listOf #[.ref R] kw) :: base)))
section
variable {prog : Program} {w : World} {A : Around} {E : Value → Shared → Prop} {s : Shared} {env : Env} {h₀ : Heap} {target : PySem.Expr} {body : List Stmt} {Q' : Flow → Shared → Prop}
theorem giver_law {rg : Addr} {t₀ u₀ v₀ : Tok} {m₀ : Str → Option Value} {news : Led} {L P Q W Pt : Addr} {lo o1 o2 o3 o4 o5 : Obj} {p q r o g n0 : Int} {t1 t2 t3 t4 a1 a2 a3 tg td : Tok} {k kp kw : Nat} (Nx : St4)
    (hk : 0 ≤ Nx.k) (hh : A.handled = none) (F : Fr h₀ L s.heap m₀) (N : News h₀ L s.heap news) (hL : env.locals = L) (hr : IsRange s.heap rg 0 3 1 t₀ u₀ v₀)
    (c5 : (L + 1 + 1 + 1 + 1 + 1, o5) ∈ news) (c4 : (L + 1 + 1 + 1 + 1, o4) ∈ news) (c3 : (L + 1 + 1 + 1, o3) ∈ news) (c2 : (L + 1 + 1, o2) ∈ news) (c1 : (L + 1, o1) ∈ news)
    (mP : m₀ (S "pegs") = some (.ref P)) (mD : m₀ (S "due") = some (.int (65 + n0) td)) (mQ : m₀ (S "letters") = some (.ref Q)) (mW : m₀ (S "ways") = some (.ref W))
    (v1 : o1.data = .cell (some (.int g tg))) (v4 : o4.data = .cell (some (.ref Pt))) (v2 : ∃ v, o2.data = .cell v) (v3 : ∃ v, o3.data = .cell v) (v5 : ∃ v, o5.data = .cell v)
    (hP : (P, ints4 p q r o t1 t2 t3 t4 k) ∈ news) (hQ : (Q, lo) ∈ news) (hPt : (Pt, listOf #[.int (nl 0 p q r o) a1, .int (nl 1 p q r o) a2, .int (nl 2 p q r o) a3] kp) ∈ news) (hW : (W, listOf (List.toArray []) kw) ∈ news)
    (oP : LCg.Off1 P [(L + 1 + 1 + 1 + 1 + 1, o5), (L + 1 + 1 + 1 + 1, o4), (L + 1 + 1 + 1, o3), (L + 1 + 1, o2), (L + 1, o1), (Q, lo)])
    (oQ : LCg.Off1 Q [(L + 1 + 1 + 1 + 1 + 1, o5), (L + 1 + 1 + 1 + 1, o4), (L + 1 + 1 + 1, o3), (L + 1 + 1, o2), (L + 1, o1)])
    (oPt : LCg.Off1 Pt [(L + 1 + 1 + 1 + 1 + 1, o5), (L + 1 + 1 + 1 + 1, o4), (L + 1 + 1 + 1, o3), (L + 1 + 1, o2), (L + 1, o1)])
    (oW : LCg.Off1 W [(L + 1 + 1 + 1 + 1 + 1, o5), (L + 1 + 1 + 1 + 1, o4), (L + 1 + 1 + 1, o3), (L + 1 + 1, o2), (L + 1, o1), (P, ints4 p q r o t1 t2 t3 t4 k), (Q, lo), (Pt, listOf #[.int (nl 0 p q r o) a1, .int (nl 1 p q r o) a2, .int (nl 2 p q r o) a3] kp)])
    (hgo : ∀ a b, letOwnedTupleGo target a b = pure ())
    (turn : ∀ (i : Nat) t I it m₁ nd h G D tk O, i < 3 → LCg.Off1 I nd → JV L g tg p q r o n0 td P Q W Pt lo Nx i m₁ nd → Fr h₀ L h m₁ → News h₀ L h ((I, it) :: nd) →
      wpAny (model prog w) A (assign target env (.int (i : Int) t)) (fun _ s₃ => wpAny (model prog w) A (execs body env) (TNext h₀ L (JV L g tg p q r o n0 td P Q W Pt lo Nx (i + 1)) I it ⟨h, G, D, tk, O⟩) E s₃) E ⟨h, G, D, tk, O⟩)
    (done : ∀ m₁ nd h tk, JV L g tg p q r o n0 td P Q W Pt lo Nx 3 m₁ nd → Fr h₀ L h m₁ → News h₀ L h nd → Q' .next { s with heap := h, toks := tk }) :
    wpAny (model prog w) A (pyIter (.ref rg)) (fun it s₂ => LoopAtT prog w A h₀ env target body Q' E it s₂) E s := by
  subst hL
  refine iter_rT ((W, listOf (List.toArray []) kw) :: [(env.locals + 1 + 1 + 1 + 1 + 1, o5), (env.locals + 1 + 1 + 1 + 1, o4), (env.locals + 1 + 1 + 1, o3), (env.locals + 1 + 1, o2), (env.locals + 1, o1), (P, ints4 p q r o t1 t2 t3 t4 k), (Q, lo), (Pt, listOf #[.int (nl 0 p q r o) a1, .int (nl 1 p q r o) a2, .int (nl 2 p q r o) a3] kp)])
    (JV env.locals g tg p q r o n0 td P Q W Pt lo Nx) hh hr F N ?_ ⟨_, ⟨t1, t2, t3, t4, a1, a2, a3, k, kp, o1, o2, o3, o4, o5, mP, mD, mQ, mW, rfl, oP, oQ, oPt, oW, v5, v4, v3, v2, v1⟩, .inl ⟨hk, kw, rfl⟩⟩ hgo turn done
  repeat' (first | exact sub_nil | refine sub_cons (by assumption) ?_)
end
/-- what goesOn says -/
theorem goes_parts {g p q r o : Int} {x y z : UInt64} (LO : LitOf p q r o x y z) (hg : 0 ≤ g ∧ g < 3) (hne : nl g p q r o ≠ 15) :
    (Bx (nxt g p q r o).p ∧ Bx (nxt g p q r o).q ∧ Bx (nxt g p q r o).r ∧ Bx (nxt g p q r o).s) ∧ (0 ≤ (nxt g p q r o).k ∧ (nxt g p q r o).k < 3) ∧ (nxt g p q r o).k ≠ g ∧
    (∀ k, 0 ≤ k ∧ k < 3 → nl k (nxt g p q r o).p (nxt g p q r o).q (nxt g p q r o).r (nxt g p q r o).s = tri g (nxt g p q r o).k k p q r o) ∧
    nl g (nxt g p q r o).p (nxt g p q r o).q (nxt g p q r o).r (nxt g p q r o).s = nl g p q r o + 1 ∧ takenF p q r o (nxt g p q r o).p (nxt g p q r o).q (nxt g p q r o).r (nxt g p q r o).s = true ∧
    (∀ i, 0 ≤ i ∧ i < 3 → ((i ≠ g ∧ orL g i p q r o = 15) ↔ i = (nxt g p q r o).k)) := by
  have gm : g ∈ ([0, 1, 2] : List Int) := by
    rcases g_cases hg with rfl | rfl | rfl <;> decide
  have h := pl_next g gm p (bx_mem LO.bp) q (bx_mem LO.bq) r (bx_mem LO.br) o (bx_mem LO.bs)
  have hb : (nl g p q r o == 15) = false := by rw [beq_eq_false_iff_ne]; exact hne
  rw [hb, Bool.false_or] at h
  unfold goesOn at h
  generalize nxt g p q r o = n at h ⊢
  simp only [Bool.and_eq_true, inB, decide_eq_true_eq, Bool.or_eq_true, beq_iff_eq, bne_iff_ne] at h
  obtain ⟨⟨⟨⟨⟨⟨⟨⟨⟨⟨⟨⟨⟨b1, b2⟩, b3⟩, b4⟩, hk⟩, hkg⟩, e0⟩, e1⟩, e2⟩, eg⟩, tk⟩, f0⟩, f1⟩, f2⟩ := h
  have hk3 : 0 ≤ n.k ∧ n.k < 3 := by omega
  refine ⟨⟨b1, b2, b3, b4⟩, hk3, hkg, ?_, eg, tk, ?_⟩
  · intro k hk
    rcases g_cases hk with rfl | rfl | rfl
    · exact e0
    · exact e1
    · exact e2
  · intro i hi
    rcases g_cases hi with rfl | rfl | rfl
    · have := Bool.eq_iff_iff.mp f0; simpa using this
    · have := Bool.eq_iff_iff.mp f1; simpa using this
    · have := Bool.eq_iff_iff.mp f2; simpa using this
structure GoOn (g p q r o : Int) : Prop where
  bp : Bx (nxt g p q r o).p
  bq : Bx (nxt g p q r o).q
  br : Bx (nxt g p q r o).r
  bs : Bx (nxt g p q r o).s
  hk : 0 ≤ (nxt g p q r o).k ∧ (nxt g p q r o).k < 3
  hnl : ∀ k, 0 ≤ k ∧ k < 3 → nl k (nxt g p q r o).p (nxt g p q r o).q (nxt g p q r o).r (nxt g p q r o).s = tri g (nxt g p q r o).k k p q r o
  hng : nl g (nxt g p q r o).p (nxt g p q r o).q (nxt g p q r o).r (nxt g p q r o).s = nl g p q r o + 1
  tk : takenF p q r o (nxt g p q r o).p (nxt g p q r o).q (nxt g p q r o).r (nxt g p q r o).s = true
  giv : ∀ i, 0 ≤ i ∧ i < 3 → ((i ≠ g ∧ orL g i p q r o = 15) ↔ i = (nxt g p q r o).k)
theorem goes_on {g p q r o : Int} {x y z : UInt64} (LO : LitOf p q r o x y z) (hg : 0 ≤ g ∧ g < 3) (hne : nl g p q r o ≠ 15) : GoOn g p q r o := by
  obtain ⟨⟨b1, b2, b3, b4⟩, hk, _, hnl, hng, tk, giv⟩ := goes_parts LO hg hne
  exact ⟨b1, b2, b3, b4, hk, hnl, hng, tk, giv⟩
end
section
open PySem PySem.W PySem.Calls PyProof.Rows PySem.Spec
noncomputable abbrev gb (L : Addr) (o1 o2 o3 o4 o5 : Obj) (P : Addr) (op : Obj) (Q : Addr) (lo : Obj) (Pt : Addr) (opt : Obj) : Led :=
  [(L + 1 + 1 + 1 + 1 + 1, o5), (L + 1 + 1 + 1 + 1, o4), (L + 1 + 1 + 1, o3), (L + 1 + 1, o2), (L + 1, o1), (P, op), (Q, lo), (Pt, opt)]
theorem JV_end {h₀ h' : Heap} {L P Q W Pt I : Addr} {it lo o1 o2 o3 o4 o5 : Obj} {m' : Str → Option Value} {all : Led} {s₁ : Shared} {tk : Nat} {p q r o g n0 : Int} {t1 t2 t3 t4 a1 a2 a3 tg td : Tok} {k kp i : Nat} {Nx : St4}
    (F : Fr h₀ L h' m') (N : News h₀ L h' all) (hI : (I, it) ∈ all)
    (c5 : (L + 1 + 1 + 1 + 1 + 1, o5) ∈ all) (c4 : (L + 1 + 1 + 1 + 1, o4) ∈ all) (c3 : (L + 1 + 1 + 1, o3) ∈ all) (c2 : (L + 1 + 1, o2) ∈ all) (c1 : (L + 1, o1) ∈ all)
    (mP : m' (S "pegs") = some (.ref P)) (mD : m' (S "due") = some (.int (65 + n0) td)) (mQ : m' (S "letters") = some (.ref Q)) (mW : m' (S "ways") = some (.ref W))
    (v1 : o1.data = .cell (some (.int g tg))) (v4 : o4.data = .cell (some (.ref Pt))) (v2 : ∃ v, o2.data = .cell v) (v3 : ∃ v, o3.data = .cell v) (v5 : ∃ v, o5.data = .cell v)
    (hP : (P, ints4 p q r o t1 t2 t3 t4 k) ∈ all) (hQ : (Q, lo) ∈ all) (hPt : (Pt, listOf #[.int (nl 0 p q r o) a1, .int (nl 1 p q r o) a2, .int (nl 2 p q r o) a3] kp) ∈ all)
    (oP : LCg.Off1 P [(L + 1 + 1 + 1 + 1 + 1, o5), (L + 1 + 1 + 1 + 1, o4), (L + 1 + 1 + 1, o3), (L + 1 + 1, o2), (L + 1, o1), (Q, lo)])
    (oQ : LCg.Off1 Q [(L + 1 + 1 + 1 + 1 + 1, o5), (L + 1 + 1 + 1 + 1, o4), (L + 1 + 1 + 1, o3), (L + 1 + 1, o2), (L + 1, o1)])
    (oPt : LCg.Off1 Pt [(L + 1 + 1 + 1 + 1 + 1, o5), (L + 1 + 1 + 1 + 1, o4), (L + 1 + 1 + 1, o3), (L + 1 + 1, o2), (L + 1, o1)])
    (oW : LCg.Off1 W (gb L o1 o2 o3 o4 o5 P (ints4 p q r o t1 t2 t3 t4 k) Q lo Pt (listOf #[.int (nl 0 p q r o) a1, .int (nl 1 p q r o) a2, .int (nl 2 p q r o) a3] kp)))
    (oI : LCg.Off1 I (gb L o1 o2 o3 o4 o5 P (ints4 p q r o t1 t2 t3 t4 k) Q lo Pt (listOf #[.int (nl 0 p q r o) a1, .int (nl 1 p q r o) a2, .int (nl 2 p q r o) a3] kp)))
    (tail : Led) (ht : ∀ p ∈ tail, p ∈ all) (oIt : LCg.Off1 I tail)
    (hj : ((((i + 1 : Nat) : Int) ≤ Nx.k ∧ ∃ kw, tail = [(W, listOf (List.toArray []) kw)]) ∨
     (Nx.k < ((i + 1 : Nat) : Int) ∧ ∃ (R : Addr) (u1 u2 u3 : Tok) (kw kr : Nat), u1 ≠ 0 ∧ u2 ≠ 0 ∧ u3 ≠ 0 ∧ tail = [(W, listOf #[.ref R] kw), (R, fl3 (fl16 (nl 0 Nx.p Nx.q Nx.r Nx.s)) (fl16 (nl 1 Nx.p Nx.q Nx.r Nx.s)) (fl16 (nl 2 Nx.p Nx.q Nx.r Nx.s)) u1 u2 u3 kr)] ∧
        LCg.Off1 R ((W, listOf #[.ref R] kw) :: gb L o1 o2 o3 o4 o5 P (ints4 p q r o t1 t2 t3 t4 k) Q lo Pt (listOf #[.int (nl 0 p q r o) a1, .int (nl 1 p q r o) a2, .int (nl 2 p q r o) a3] kp))))) :
    TNext h₀ L (JV L g tg p q r o n0 td P Q W Pt lo Nx (i + 1)) I it s₁ .next { s₁ with heap := h', toks := tk } := by
  have Sub : ∀ x ∈ gb L o1 o2 o3 o4 o5 P (ints4 p q r o t1 t2 t3 t4 k) Q lo Pt (listOf #[.int (nl 0 p q r o) a1, .int (nl 1 p q r o) a2, .int (nl 2 p q r o) a3] kp), x ∈ all := by
    unfold gb
    repeat' (first | exact sub_nil | refine sub_cons (by assumption) ?_)
  refine ⟨rfl, TEnd.intro F N (tail ++ gb L o1 o2 o3 o4 o5 P (ints4 p q r o t1 t2 t3 t4 k) Q lo Pt (listOf #[.int (nl 0 p q r o) a1, .int (nl 1 p q r o) a2, .int (nl 2 p q r o) a3] kp)) hI ?_ (off1_of fun a ha => ?_)
    ⟨_, ⟨t1, t2, t3, t4, a1, a2, a3, k, kp, o1, o2, o3, o4, o5, mP, mD, mQ, mW, rfl, oP, oQ, oPt, oW, v5, v4, v3, v2, v1⟩, ?_⟩⟩
  · intro a ha
    rcases List.mem_append.mp ha with ha | ha
    · exact ht a ha
    · exact Sub a ha
  · rcases List.mem_append.mp ha with ha | ha
    · exact off1_mem oIt a ha
    · exact off1_mem oI a ha
  · rcases hj with ⟨h1, kw, rfl⟩ | ⟨h1, R, u1, u2, u3, kw, kr, n1, n2, n3, rfl, oR⟩
    · exact .inl ⟨h1, kw, rfl⟩
    · exact .inr ⟨h1, R, u1, u2, u3, kw, kr, n1, n2, n3, rfl, oR⟩
theorem nat3 {i : Nat} (h : i < 3) : 0 ≤ (i : Int) ∧ (i : Int) < 3 := by omega
theorem tri_0 {g p q r o : Int} {i : Nat} : (nl 0 p q r o + if ((0 : Int) + ((0 : Nat) : Int) == g) = true then 1 else 0) - (if ((0 : Int) + ((0 : Nat) : Int) == (i : Int)) = true then 1 else 0) = tri g i 0 p q r o := by
  unfold tri
  simp only [beq_iff_eq]
  rfl
theorem tri_1 {g p q r o : Int} {i : Nat} : (nl 1 p q r o + if ((0 : Int) + ((0 + 1 : Nat) : Int) == g) = true then 1 else 0) - (if ((0 : Int) + ((0 + 1 : Nat) : Int) == (i : Int)) = true then 1 else 0) = tri g i 1 p q r o := by
  unfold tri
  simp only [beq_iff_eq]
  rfl
theorem tri_2 {g p q r o : Int} {i : Nat} : (nl 2 p q r o + if ((0 : Int) + ((0 + 1 + 1 : Nat) : Int) == g) = true then 1 else 0) - (if ((0 : Int) + ((0 + 1 + 1 : Nat) : Int) == (i : Int)) = true then 1 else 0) = tri g i 2 p q r o := by
  unfold tri
  simp only [beq_iff_eq]
  rfl
/-- a row of the list of ways -/
theorem row_val {g p q r o : Int} {i : Nat} (GO : GoOn g p q r o) (hi : (i : Int) = (nxt g p q r o).k) (k : Int) (hk : 0 ≤ k ∧ k < 3) {x : Int} (hx : x = tri g i k p q r o) :
    Float64.ofFrac (decide (x < 0) != decide ((16 : Int) < 0)) x.natAbs (16 : Int).natAbs = fl16 (nl k (nxt g p q r o).p (nxt g p q r o).q (nxt g p q r o).r (nxt g p q r o).s) := by
  have e := GO.hnl k hk
  rw [hx, hi, ← e]
  refine pl_div _ ?_
  have km : k ∈ ([0, 1, 2] : List Int) := by
    rcases g_cases hk with rfl | rfl | rfl <;> decide
  exact nl_box k km _ (bx_mem GO.bp) _ (bx_mem GO.bq) _ (bx_mem GO.br) _ (bx_mem GO.bs)
theorem giv_yes {g p q r o x y z : Int} {i : Nat} (GO : GoOn g p q r o) (hi : i < 3) (hx : x = tri g i 0 p q r o) (hy : y = tri g i 1 p q r o) (hz : z = tri g i 2 p q r o) (h1 : (i : Int) ≠ g) (h2 : Builtin.bitOr (Builtin.bitOr x y) z = 15) : (i : Int) = (nxt g p q r o).k :=
  (GO.giv i (nat3 hi)).mp ⟨h1, by unfold orL; rw [← hx, ← hy, ← hz]; exact h2⟩
theorem giv_no2 {g p q r o x y z : Int} {i : Nat} (GO : GoOn g p q r o) (hi : i < 3) (hx : x = tri g i 0 p q r o) (hy : y = tri g i 1 p q r o) (hz : z = tri g i 2 p q r o) (h2 : ¬ Builtin.bitOr (Builtin.bitOr x y) z = 15) : (i : Int) ≠ (nxt g p q r o).k := fun e => by
  have := ((GO.giv i (nat3 hi)).mpr e).2
  unfold orL at this
  rw [← hx, ← hy, ← hz] at this
  exact h2 this
theorem giv_no1 {g p q r o : Int} {i : Nat} (GO : GoOn g p q r o) (hi : i < 3) (h1 : (i : Int) = g) : (i : Int) ≠ (nxt g p q r o).k := fun e => ((GO.giv i (nat3 hi)).mpr e).1 h1
end
section
open PySem PySem.W PySem.Calls PyProof.Rows PySem.Spec
theorem lit_go {g p q r o : Int} (GO : GoOn g p q r o) : LitOf (nxt g p q r o).p (nxt g p q r o).q (nxt g p q r o).r (nxt g p q r o).s (fl16 (nl 0 (nxt g p q r o).p (nxt g p q r o).q (nxt g p q r o).r (nxt g p q r o).s)) (fl16 (nl 1 (nxt g p q r o).p (nxt g p q r o).q (nxt g p q r o).r (nxt g p q r o).s)) (fl16 (nl 2 (nxt g p q r o).p (nxt g p q r o).q (nxt g p q r o).r (nxt g p q r o).s)) := by
  have a := pl_lit _ (bx_mem GO.bp) _ (bx_mem GO.bq) _ (bx_mem GO.br) _ (bx_mem GO.bs)
  exact ⟨GO.bp, GO.bq, GO.br, GO.bs, a.1.symm, a.2.1.symm, a.2.2.symm⟩
theorem lit_self2 {p q r o : Int} {x y z : UInt64} (LO : LitOf p q r o x y z) : (Float64.cmp x (fl16 (nl 0 p q r o)) == some Ordering.eq) = true ∧ (Float64.cmp y (fl16 (nl 1 p q r o)) == some Ordering.eq) = true ∧ (Float64.cmp z (fl16 (nl 2 p q r o)) == some Ordering.eq) = true := by
  obtain ⟨e0, e1, e2⟩ := fl_of LO
  have c := fun k hk => nl_box k hk p (bx_mem LO.bp) q (bx_mem LO.bq) r (bx_mem LO.br) o (bx_mem LO.bs)
  rw [e0, e1, e2]
  exact ⟨pl_self _ (c 0 (by decide)), pl_self _ (c 1 (by decide)), pl_self _ (c 2 (by decide))⟩
theorem taken_go {g p q r o : Int} {x y z : UInt64} (w : World) (s00 : Heap) (mg mb : Str → Option Value) {a0 a1 a2 a3 b0 b1 b2 b3 : Tok} {n n' : Nat} {lo ln : Addr} (GO : GoOn g p q r o) (LO : LitOf p q r o x y z) :
    PCv 4 w s00 mg mb 64 [(lo, ints4 p q r o a0 a1 a2 a3 n), (ln, ints4 (nxt g p q r o).p (nxt g p q r o).q (nxt g p q r o).r (nxt g p q r o).s b0 b1 b2 b3 n')] [.ref lo, .ref ln] (fun _ => .bool true) := by
  have c := taken_call w s00 mg mb p q r o (nxt g p q r o).p (nxt g p q r o).q (nxt g p q r o).r (nxt g p q r o).s a0 a1 a2 a3 b0 b1 b2 b3 n n' lo ln LO.bp LO.bq LO.br LO.bs GO.bp GO.bq GO.br GO.bs
  rw [GO.tk] at c
  exact c
theorem JW_end {h₀ h' : Heap} {L P D Q : Addr} {o1 o2 o3 o4 o5 : Obj} {m' : Str → Option Value} {all : Led} {s₁ : Shared} {tk i : Nat} {p q r o g n0 c : Int} {x y z : UInt64} {vs : List Value} {t t1 t2 t3 t4 t5 t6 t7 tg td : Tok} {k n kk : Nat}
    (hg : 0 ≤ g ∧ g < 3) (F : Fr h₀ L h' m') (N : News h₀ L h' all)
    (c5 : (L + 1 + 1 + 1 + 1 + 1, o5) ∈ all) (c4 : (L + 1 + 1 + 1 + 1, o4) ∈ all) (c3 : (L + 1 + 1 + 1, o3) ∈ all) (c2 : (L + 1 + 1, o2) ∈ all) (c1 : (L + 1, o1) ∈ all)
    (mP : m' (S "pegs") = some (.ref P)) (mD : m' (S "due") = some (.int (65 + n0) td)) (mQ : m' (S "letters") = some (.ref Q))
    (v1 : o1.data = .cell (some (.int g tg))) (v2 : o2.data = .cell (some (.ref D))) (v3 : ∃ v, o3.data = .cell v) (v4 : ∃ v, o4.data = .cell v) (v5 : ∃ v, o5.data = .cell v)
    (hP : (P, ints4 p q r o t1 t2 t3 t4 k) ∈ all) (hD : (D, fl3 x y z t5 t6 t7 n) ∈ all) (hQ : (Q, listOf (vs.toArray.push (.int (65 + c) t)) kk) ∈ all) (n5 : t5 ≠ 0) (n6 : t6 ≠ 0) (n7 : t7 ≠ 0) (LO : LitOf p q r o x y z)
    (hi : IntsAre vs (lets n0 c)) (hle : n0 ≤ c) (hsum : c + (i : Int) = 15) (hng : nl g p q r o = c + 1)
    (oP : LCg.Off1 P [(L + 1 + 1 + 1 + 1 + 1, o5), (L + 1 + 1 + 1 + 1, o4), (L + 1 + 1 + 1, o3), (L + 1 + 1, o2), (L + 1, o1), (Q, listOf (vs.toArray.push (.int (65 + c) t)) kk)])
    (oD : LCg.Off1 D [(L + 1 + 1 + 1 + 1 + 1, o5), (L + 1 + 1 + 1 + 1, o4), (L + 1 + 1 + 1, o3), (L + 1 + 1, o2), (L + 1, o1), (P, ints4 p q r o t1 t2 t3 t4 k), (Q, listOf (vs.toArray.push (.int (65 + c) t)) kk)])
    (oQ : LCg.Off1 Q [(L + 1 + 1 + 1 + 1 + 1, o5), (L + 1 + 1 + 1 + 1, o4), (L + 1 + 1 + 1, o3), (L + 1 + 1, o2), (L + 1, o1)]) :
    WJEnd h₀ L (JW L g tg n0 td) i s₁ { s₁ with heap := h', toks := tk } := by
  have hb := k16_box (lit_at LO hg).2
  have e : vs.toArray.push (Value.int (65 + c) t) = (vs ++ [Value.int (65 + c) t]).toArray := List.push_toArray _ _
  rw [e] at hQ oP oD
  refine WJEnd.intro (i' := i - 1) F N [(L + 1 + 1 + 1 + 1 + 1, o5), (L + 1 + 1 + 1 + 1, o4), (L + 1 + 1 + 1, o3), (L + 1 + 1, o2), (L + 1, o1), (P, ints4 p q r o t1 t2 t3 t4 k), (D, fl3 x y z t5 t6 t7 n), (Q, listOf (vs ++ [Value.int (65 + c) t]).toArray kk)] (by omega) ?_
    ⟨p, q, r, o, x, y, z, P, D, Q, t1, t2, t3, t4, t5, t6, t7, k, n, kk, vs ++ [Value.int (65 + c) t], o1, o2, o3, o4, o5, mP, mD, mQ, n5, n6, n7, LO, by omega, by omega, by rw [hng]; exact lets_push hi hle, rfl, oP, oD, oQ, v5, v4, v3, v2, v1⟩
  repeat' (first | exact sub_nil | refine sub_cons (by assumption) ?_)
end
section
open PySem PySem.W PySem.Calls PyProof.Rows
theorem law_holds : PySem.Challenge.rw_sn0018_01.Holds := hd (by
  k_with_none
  k_with "ne" => (first | exact off1_mem (by with_reducible assumption) (_, _) (by k_mem) | exact Ne.symm (off1_mem (by with_reducible assumption) (_, _) (by k_mem)) | with_reducible exact nd1 _ | with_reducible exact nd2 _ | with_reducible exact nd3 _ | with_reducible exact nd4 _ | with_reducible exact nd5 _ | with_reducible exact nd1' _ | with_reducible exact nd2' _ | with_reducible exact nd3' _ | with_reducible exact nd4' _ | with_reducible exact nd5' _ | (refine Nat.ne_of_lt ?_; with_reducible walk_at "lt") | (refine Nat.ne_of_gt ?_; with_reducible walk_at "lt"))
  k_with "lt" => (first | assumption | exact And.left (by assumption) | exact And.left (And.right (by assumption)) | exact And.right (by assumption) | exact And.left (And.right (And.right (by assumption))) | exact And.right (And.right (by assumption)) | exact And.left (And.right (And.right (And.right (by assumption)))) | exact And.right (And.right (And.right (by assumption))) | exact And.left (And.right (And.right (And.right (And.right (by assumption))))) | exact And.right (And.right (And.right (And.right (by assumption)))) | exact And.left (And.right (And.right (And.right (And.right (And.right (by assumption)))))) | exact And.right (And.right (And.right (And.right (And.right (by assumption))))) | exact And.left (And.right (And.right (And.right (And.right (And.right (And.right (by assumption))))))) | exact And.right (And.right (And.right (And.right (And.right (And.right (by assumption)))))) | exact And.left (And.right (And.right (And.right (And.right (And.right (And.right (And.right (by assumption)))))))) | exact And.right (And.right (And.right (And.right (And.right (And.right (And.right (by assumption))))))) | exact And.left (And.right (And.right (And.right (And.right (And.right (And.right (And.right (And.right (by assumption))))))))) | exact And.right (And.right (And.right (And.right (And.right (And.right (And.right (And.right (by assumption)))))))) | exact And.left (And.right (And.right (And.right (And.right (And.right (And.right (And.right (And.right (And.right (by assumption)))))))))) | exact And.right (And.right (And.right (And.right (And.right (And.right (And.right (And.right (And.right (by assumption))))))))) | exact And.left (And.right (And.right (And.right (And.right (And.right (And.right (And.right (And.right (And.right (And.right (by assumption))))))))))) | exact And.right (And.right (And.right (And.right (And.right (And.right (And.right (And.right (And.right (And.right (by assumption)))))))))) | exact lta1 (by assumption) | exact lta2 (by assumption) | exact lta3 (by assumption) | exact lta4 (by assumption) | exact lta5 (by assumption) | exact ltd1 (by assumption) | exact ltd2 (by assumption) | exact ltd3 (by assumption) | exact ltd4 (by assumption) | exact ltd5 (by assumption) | exact ltt3 (by assumption) (by assumption) | exact ltt5 (by assumption) (by assumption))
  k_with "eval Name" => ((k_here; (with_reducible show wpAny _ _ (eval (Expr.Name _ _) (compEnvC _ _ _ _)) _ _ _); k_dflt (first | (refine' LCgL.ld_own ?N ?m ?C ?x ?_ ?k ?l ?d; (case l => rfl); (case k => rfl); (case d => decide); (case N => k_asm); (case m => k_mem); (case C => assumption); (case x => assumption); k_whole) | (refine' lcf_free ?N ?c ?m ?d ?_ ?a ?b; (case b => rfl); (case a => rfl); (case N => k_asm); (case c => rfl); (case m => k_mem); (case d => k_asm); k_whole) | (refine' LCgL.ld_global ?F ?X ?T ?e ?_ ?g ?k ?x ?d; (case x => rfl); (case F => k_asm); (case X => k_asm); (case T => k_asm); (case e => k_is); (case g => rfl); (case k => rfl); (case d => decide); k_whole))))
  k_with "subscriptTail Name Name ref int" => ((k_here; (with_reducible show wpAny _ _ (subscriptTail _ _ (Value.ref _) (Value.int _ _)) _ _ _); k_dflt (refine' item_N ?N ?m ?h0 ?h1 ?hx ?_; (case N => k_asm); (case m => k_mem); (case h0 => decide); (case h1 => decide); (case hx => rfl); k_whole)))
  k_with "subscriptTail Name Constant ref int" => ((k_here; (with_reducible show wpAny _ _ (subscriptTail _ _ (Value.ref _) (Value.int _ _)) _ _ _); k_dflt (refine' item_N ?N ?m ?h0 ?h1 ?hx ?_; (case N => k_asm); (case m => k_mem); (case h0 => decide); (case h1 => decide); (case hx => rfl); k_whole)))
  k_with "CompSrc" => ((k_here; k_dflt (first | (refine LCg.CompSrc.ledger (by rfl) (by k_asm) (by k_asm) (by k_mem) (by first | size_fits | exact Nat.le_of_ble_eq_true rfl) ?_; intro g'; lcg_lit) | (refine LCg.CompSrc.range (by rfl) (by k_asm) (by k_asm) (by assumption) (by first | decide | rfl) (by first | rfl | decide) (by first | size_fits | exact Nat.le_of_ble_eq_true rfl) ?_; intro g'; lcg_lit))))
  k_with "CompRest" => ((with_unfolding_all first | (refine LCg.CompRest.succ ?_; intro v' I' oI' C' oC' D' m' h' tk' E' hv' hC' hx' F' N' off' ne'; clear ne'; (first | lcg_open hv' | (obtain ⟨t9', hv9'⟩ := hv'; subst hv9')); (try dsimp only); (try k_fold)) | refine LCg.CompRest.zero ?_))
  k_with "CompRestT" => ((with_unfolding_all first | (refine LCt.CompRestT.succ ?_; intro v' I' oI' C' oC' D' m' h' tk' E' hv' hC' hx' F' N' off' ne'; clear ne'; (first | lcg_open hv' | (obtain ⟨t9', hv9'⟩ := hv'; subst hv9')); (try dsimp only); (try k_fold)) | refine LCt.CompRestT.zero ?_))
  k_with "CompEnd" => ((refine LCg.CompEnd.intro (by assumption) (by assumption) _ (fun _ hp => hp) (by assumption) (by lcg_src) ?_))
  k_with "FinE" => (((unfold LCg.FinE); intro D' h' tk' F' N' o1'; (try simp only [List.nil_append, List.cons_append] at N'); (try dsimp only)))
  k_with "FinA" => (((unfold LCg.FinA); intro D' h' tk' F' N' o1'; (try simp only [List.nil_append, List.cons_append] at N'); (try dsimp only)))
  k_with "exec Assign cons ListComp" => ((k_here; lct_look; k_dflt (refine LCt.Assign_ListComp_T (F₀ := by k_asm) (by rfl) (by with_unfolding_all rfl) (by with_unfolding_all rfl) (by decide) (by rfl) (by decide) (by rfl) (by rfl) (by rfl) ?_)))
  k_with "CompSrcT" => ((k_here; k_dflt (first | (refine LCt.CompSrcT.ledger (by rfl) (by k_asm) (by k_asm) (by k_mem) (by first | size_fits | exact Nat.le_of_ble_eq_true rfl) ?_; intro g'; first | lct_lit | (with_unfolding_all change @LCt.CompRestT _ _ _ _ _ _ _ _ _ _ _ _ _ _ _ _ 4 _ _ _)) | (refine LCt.CompSrcT.range (by rfl) (by k_asm) (by k_asm) (by assumption) (by first | decide | rfl) (by first | rfl | decide) (by first | size_fits | exact Nat.le_of_ble_eq_true rfl) ?_; intro g'; first | lct_lit | (with_unfolding_all change @LCt.CompRestT _ _ _ _ _ _ _ _ _ _ _ _ _ _ _ _ 4 _ _ _)))))
  k_with "law box" => (first | exact bx_f3 _ | exact bx_r27 _ | exact frs_bx (by assumption) | assumption)
  k_with "tok pos" => ((dsimp only; first | assumption | exact Nat.succ_pos _))
  k_with "tok ne" => (first | assumption | exact Nat.succ_ne_zero _ | exact tok_ne (by assumption))
  k_with "law sweep0" => (((repeat (rename LCg.Off1 _ _ => zz; clear zz)); (repeat (rename LitOf _ _ _ _ _ _ _ => zz; clear zz)); (repeat (rename Obj.data _ = _ => zz; clear zz)); (repeat (rename News _ _ _ _ => zz; clear zz)); (repeat (rename Fr _ _ _ _ => zz; clear zz)); (repeat (rename CarriedAll _ _ => zz; clear zz)); (repeat (rename NewPlain _ _ _ => zz; clear zz)); (repeat (rename PySem.W.Dflts _ _ _ => zz; clear zz)); (repeat (rename Heap.CodeRec _ _ _ => zz; clear zz)); (repeat (rename _ ∧ _ => zz; clear zz)); (repeat (rename _ ≠ _ => zz; clear zz)); (repeat (rename IntsAre _ _ => zz; clear zz)); (repeat (rename @LT.lt Nat _ 0 _ => zz; clear zz)); (try dsimp only)))
  k_with "turn end" => ((dsimp only [TPost]; refine' JG_end ?F ?N ?hI ?hX ?c5 ?c4 ?c3 ?c2 ?c1 ?mP ?v1 ?v2 ?v3 ?v4 ?v5 ?hP ?hD ?n5 ?n6 ?n7 ?LO ?oP ?oD ?oX ?oI ?hit; (case hit => assumption); (case F => assumption); (case N => assumption); (case hI => k_mem); (case hX => k_mem); (case c5 => k_mem); (case c4 => k_mem); (case c3 => k_mem); (case c2 => k_mem); (case c1 => k_mem); (case mP => rfl); (case v1 => assumption); (case v2 => assumption); (case v3 => exact ⟨_, by assumption⟩); (case v4 => exact ⟨_, by assumption⟩); (case v5 => exact ⟨_, by assumption⟩); (case hP => k_mem); (case hD => k_mem); (case n5 => assumption); (case n6 => assumption); (case n7 => assumption); (case LO => assumption); (case oP => exact ⟨by k_ne, by k_ne, by k_ne, by k_ne, by k_ne, by k_ne, trivial⟩); (case oX => exact ⟨by k_ne, by k_ne, by k_ne, by k_ne, by k_ne, trivial⟩); (case oD => exact ⟨by k_ne, by k_ne, by k_ne, by k_ne, by k_ne, by k_ne, by k_ne, trivial⟩); (case oI => exact ⟨by k_ne, by k_ne, by k_ne, by k_ne, by k_ne, by k_ne, trivial⟩)))
  k_with "law sweep" => (((repeat (rename LCg.Off1 _ _ => zz; clear zz)); (repeat (rename LitOf _ _ _ _ _ _ _ => zz; clear zz)); (repeat (rename Obj.data _ = _ => zz; clear zz)); (repeat (rename News _ _ _ _ => zz; clear zz)); (repeat (rename Fr _ _ _ _ => zz; clear zz)); (repeat (rename CarriedAll _ _ => zz; clear zz)); (repeat (rename NewPlain _ _ _ => zz; clear zz)); (repeat (rename PySem.W.Dflts _ _ _ => zz; clear zz)); (repeat (rename Heap.CodeRec _ _ _ => zz; clear zz)); (repeat (rename _ < _ ∧ _ => zz; clear zz)); (repeat (rename _ ≠ _ => zz; clear zz)); (repeat (rename IntsAre _ _ => zz; clear zz)); (repeat (rename @LT.lt Nat _ 0 _ => zz; clear zz)); (try dsimp only)))
  k_with "law steps" => (repeat' ((fail_if_success (with_reducible refine Hold.mk ?_)); first | (k_unfold; (try dsimp only)) | ((with_reducible show wpAny _ _ (exec _ _) _ _ _); k_fold) | walk1 | (dsimp only; walk1) | (leave1; try dsimp only) | fail "no step"))
  k_with "call ref" => (k_dflt (first
    | ((with_reducible show wpAny _ _ (call (Value.ref 54) _) _ _ _); refine' useop (lights_lit _ _ _ _ ?b1 ?b2 ?b3 ?b4) ?hp0 ?k1 ?k2 ?k3 ?k4 ?k5 ?k6 ?k7 ?k8 ?k9 ?_; (case hp0 => walk_at "tok pos"); (case k1 => k_asm); (case k2 => k_asm); (case k3 => k_asm); (case k4 => k_asm); (case k5 => k_asm); (case k6 => first | exact rfl | assumption); (case k7 => ktr_room); (case k8 => ktr_units); (case k9 => lcg_sub); k_whole; (case b1 => (walk_at "law box")); (case b2 => (walk_at "law box")); (case b3 => (walk_at "law box")); (case b4 => (walk_at "law box")); rintro r9 _ h9 tk9 ⟨x9, y9, z9, u1, u2, u3, u4, nz1, nz2, nz3, LO9, rfl⟩ hp9 F9 N9 O9; (try dsimp only); (try k_fold); (try k_sweep); walk_say "CONTRACT lights")
    | ((with_reducible show wpAny _ _ (call (Value.ref 59) _) _ _ _); refine' useo (pegs_lit _ _ _ _ (by assumption)) ?k1 ?k2 ?k3 ?k4 ?k5 ?k6 ?k7 ?k8 ?k9 ?_; (case k1 => k_asm); (case k2 => k_asm); (case k3 => k_asm); (case k4 => k_asm); (case k5 => k_asm); (case k6 => first | exact rfl | assumption); (case k7 => ktr_room); (case k8 => ktr_units); (case k9 => lcg_sub); k_whole; rintro r9 _ h9 tk9 ⟨u1, u2, u3, u4, u5, rfl⟩ F9 N9 O9; (try dsimp only); (try k_fold); (try k_sweep); walk_say "CONTRACT pegs")))
  k_with "binaryOp Add ref ref" => (rename CarriedAll _ _ => C9; (obtain ⟨ns9, I9, B9, L9⟩ := mod8_s C9 (Nat.le_trans (List.length_filter_le _ _) (by omega))); k_dflt (refine' kmk_add_ints ?ya1 ?ya2 ?ya3 ?ya4 ?ya5 ?ya6 ?_ ?ya7; (case ya1 => k_asm); (case ya2 => k_asm); (case ya3 => exact News.isList (by k_asm) (by k_mem)); (case ya4 => assumption); (case ya5 => exact .cons _ _ (.cons _ _ .nil)); (case ya6 => exact I9); (case ya7 => (rw [sizeLine_eq]; simp only [List.length_cons, List.length_nil]; omega))); clear C9; intro D' ws' h' F' N' l1 hI'; (try k_lt l1); (try k_sweep))
  k_with "execs cons" => (k_here; refine gen_toks (n := _ + 1) (Nat.succ_pos _) ?_; intro tk hpos; (rename Fr _ _ _ _ => lF9; (try dsimp only at lF9)); (try (rename Obj.data _ = Data.cell _ => ld9; dsimp only at ld9)))
  k_with "exec For" => (k_dflt ((rename Fr _ _ _ _ => lF'); refine' For_invVF lF' (by exact rfl) (by exact rfl) ?_))
  k_with "pyIter ref" => ((with_reducible show wpAny _ _ (pyIter (Value.ref _)) (fun it s₂ => LoopAtV _ _ _ _ _ _ _ _ _ it s₂) _ _); refine Hold.out ?_)
  k_go0
  w_top off
  (all_goals try k_fold)
  rename Heap.IsList _ _ _ => hL0
  rename Fr _ _ _ _ => F0
  replace F0 := fr_small hL0 F0 (by with_unfolding_all rfl)
  rename CellsAre _ _ _ => X0
  clear X0
  rename Obj.data _ = Data.cell _ => c5
  replace c5 := cell_none c5 (by with_unfolding_all rfl)
  rename Obj.data _ = Data.cell _ => c4
  replace c4 := cell_none c4 (by with_unfolding_all rfl)
  rename Obj.data _ = Data.cell _ => c3
  replace c3 := cell_none c3 (by with_unfolding_all rfl)
  rename Obj.data _ = Data.cell _ => c2
  replace c2 := cell_none c2 (by with_unfolding_all rfl)
  rename Obj.data _ = Data.cell _ => c1
  replace c1 := cell_none c1 (by with_unfolding_all rfl)
  replace c1 := c1.out
  replace c2 := c2.out
  replace c3 := c3.out
  replace c4 := c4.out
  replace c5 := c5.out
  walk_at "law steps"
  k_with_none
  k_with "ne" => (first | exact off1_mem (by with_reducible assumption) (_, _) (by k_mem) | exact Ne.symm (off1_mem (by with_reducible assumption) (_, _) (by k_mem)) | with_reducible exact nd1 _ | with_reducible exact nd2 _ | with_reducible exact nd3 _ | with_reducible exact nd4 _ | with_reducible exact nd5 _ | with_reducible exact nd1' _ | with_reducible exact nd2' _ | with_reducible exact nd3' _ | with_reducible exact nd4' _ | with_reducible exact nd5' _ | (refine Nat.ne_of_lt ?_; with_reducible walk_at "lt") | (refine Nat.ne_of_gt ?_; with_reducible walk_at "lt"))
  k_with "lt" => (first | assumption | exact And.left (by assumption) | exact And.left (And.right (by assumption)) | exact And.right (by assumption) | exact And.left (And.right (And.right (by assumption))) | exact And.right (And.right (by assumption)) | exact And.left (And.right (And.right (And.right (by assumption)))) | exact And.right (And.right (And.right (by assumption))) | exact And.left (And.right (And.right (And.right (And.right (by assumption))))) | exact And.right (And.right (And.right (And.right (by assumption)))) | exact And.left (And.right (And.right (And.right (And.right (And.right (by assumption)))))) | exact And.right (And.right (And.right (And.right (And.right (by assumption))))) | exact And.left (And.right (And.right (And.right (And.right (And.right (And.right (by assumption))))))) | exact And.right (And.right (And.right (And.right (And.right (And.right (by assumption)))))) | exact And.left (And.right (And.right (And.right (And.right (And.right (And.right (And.right (by assumption)))))))) | exact And.right (And.right (And.right (And.right (And.right (And.right (And.right (by assumption))))))) | exact And.left (And.right (And.right (And.right (And.right (And.right (And.right (And.right (And.right (by assumption))))))))) | exact And.right (And.right (And.right (And.right (And.right (And.right (And.right (And.right (by assumption)))))))) | exact And.left (And.right (And.right (And.right (And.right (And.right (And.right (And.right (And.right (And.right (by assumption)))))))))) | exact And.right (And.right (And.right (And.right (And.right (And.right (And.right (And.right (And.right (by assumption))))))))) | exact And.left (And.right (And.right (And.right (And.right (And.right (And.right (And.right (And.right (And.right (And.right (by assumption))))))))))) | exact And.right (And.right (And.right (And.right (And.right (And.right (And.right (And.right (And.right (And.right (by assumption)))))))))) | exact lta1 (by assumption) | exact lta2 (by assumption) | exact lta3 (by assumption) | exact lta4 (by assumption) | exact lta5 (by assumption) | exact ltd1 (by assumption) | exact ltd2 (by assumption) | exact ltd3 (by assumption) | exact ltd4 (by assumption) | exact ltd5 (by assumption) | exact ltt3 (by assumption) (by assumption) | exact ltt5 (by assumption) (by assumption))
  k_with "eval Name" => ((k_here; (with_reducible show wpAny _ _ (eval (Expr.Name _ _) (compEnvC _ _ _ _)) _ _ _); k_dflt (first | (refine' LCgL.ld_own ?N ?m ?C ?x ?_ ?k ?l ?d; (case l => rfl); (case k => rfl); (case d => decide); (case N => k_asm); (case m => k_mem); (case C => assumption); (case x => assumption); k_whole) | (refine' lcf_free ?N ?c ?m ?d ?_ ?a ?b; (case b => rfl); (case a => rfl); (case N => k_asm); (case c => rfl); (case m => k_mem); (case d => k_asm); k_whole) | (refine' LCgL.ld_global ?F ?X ?T ?e ?_ ?g ?k ?x ?d; (case x => rfl); (case F => k_asm); (case X => k_asm); (case T => k_asm); (case e => k_is); (case g => rfl); (case k => rfl); (case d => decide); k_whole))))
  k_with "subscriptTail Name Name ref int" => ((k_here; (with_reducible show wpAny _ _ (subscriptTail _ _ (Value.ref _) (Value.int _ _)) _ _ _); k_dflt (refine' item_N ?N ?m ?h0 ?h1 ?hx ?_; (case N => k_asm); (case m => k_mem); (case h0 => decide); (case h1 => decide); (case hx => rfl); k_whole)))
  k_with "subscriptTail Name Constant ref int" => ((k_here; (with_reducible show wpAny _ _ (subscriptTail _ _ (Value.ref _) (Value.int _ _)) _ _ _); k_dflt (refine' item_N ?N ?m ?h0 ?h1 ?hx ?_; (case N => k_asm); (case m => k_mem); (case h0 => decide); (case h1 => decide); (case hx => rfl); k_whole)))
  k_with "CompSrc" => ((k_here; k_dflt (first | (refine LCg.CompSrc.ledger (by rfl) (by k_asm) (by k_asm) (by k_mem) (by first | size_fits | exact Nat.le_of_ble_eq_true rfl) ?_; intro g'; lcg_lit) | (refine LCg.CompSrc.range (by rfl) (by k_asm) (by k_asm) (by assumption) (by first | decide | rfl) (by first | rfl | decide) (by first | size_fits | exact Nat.le_of_ble_eq_true rfl) ?_; intro g'; lcg_lit))))
  k_with "CompRest" => ((with_unfolding_all first | (refine LCg.CompRest.succ ?_; intro v' I' oI' C' oC' D' m' h' tk' E' hv' hC' hx' F' N' off' ne'; clear ne'; (first | lcg_open hv' | (obtain ⟨t9', hv9'⟩ := hv'; subst hv9')); (try dsimp only); (try k_fold)) | refine LCg.CompRest.zero ?_))
  k_with "CompRestT" => ((with_unfolding_all first | (refine LCt.CompRestT.succ ?_; intro v' I' oI' C' oC' D' m' h' tk' E' hv' hC' hx' F' N' off' ne'; clear ne'; (first | lcg_open hv' | (obtain ⟨t9', hv9'⟩ := hv'; subst hv9')); (try dsimp only); (try k_fold)) | refine LCt.CompRestT.zero ?_))
  k_with "CompEnd" => ((refine LCg.CompEnd.intro (by assumption) (by assumption) _ (fun _ hp => hp) (by assumption) (by lcg_src) ?_))
  k_with "FinE" => (((unfold LCg.FinE); intro D' h' tk' F' N' o1'; (try simp only [List.nil_append, List.cons_append] at N'); (try dsimp only)))
  k_with "FinA" => (((unfold LCg.FinA); intro D' h' tk' F' N' o1'; (try simp only [List.nil_append, List.cons_append] at N'); (try dsimp only)))
  k_with "exec Assign cons ListComp" => ((k_here; lct_look; k_dflt (refine LCt.Assign_ListComp_T (F₀ := by k_asm) (by rfl) (by with_unfolding_all rfl) (by with_unfolding_all rfl) (by decide) (by rfl) (by decide) (by rfl) (by rfl) (by rfl) ?_)))
  k_with "CompSrcT" => ((k_here; k_dflt (first | (refine LCt.CompSrcT.ledger (by rfl) (by k_asm) (by k_asm) (by k_mem) (by first | size_fits | exact Nat.le_of_ble_eq_true rfl) ?_; intro g'; first | lct_lit | (with_unfolding_all change @LCt.CompRestT _ _ _ _ _ _ _ _ _ _ _ _ _ _ _ _ 4 _ _ _)) | (refine LCt.CompSrcT.range (by rfl) (by k_asm) (by k_asm) (by assumption) (by first | decide | rfl) (by first | rfl | decide) (by first | size_fits | exact Nat.le_of_ble_eq_true rfl) ?_; intro g'; first | lct_lit | (with_unfolding_all change @LCt.CompRestT _ _ _ _ _ _ _ _ _ _ _ _ _ _ _ _ 4 _ _ _)))))
  k_with "law box" => (first | exact bx_f3 _ | exact bx_r27 _ | exact frs_bx (by assumption) | assumption)
  k_with "tok pos" => ((dsimp only; first | assumption | exact Nat.succ_pos _))
  k_with "tok ne" => (first | assumption | exact Nat.succ_ne_zero _ | exact tok_ne (by assumption))
  k_with "law sweep0" => (((repeat (rename LCg.Off1 _ _ => zz; clear zz)); (repeat (rename LitOf _ _ _ _ _ _ _ => zz; clear zz)); (repeat (rename Obj.data _ = _ => zz; clear zz)); (repeat (rename News _ _ _ _ => zz; clear zz)); (repeat (rename Fr _ _ _ _ => zz; clear zz)); (repeat (rename CarriedAll _ _ => zz; clear zz)); (repeat (rename NewPlain _ _ _ => zz; clear zz)); (repeat (rename PySem.W.Dflts _ _ _ => zz; clear zz)); (repeat (rename Heap.CodeRec _ _ _ => zz; clear zz)); (repeat (rename _ ∧ _ => zz; clear zz)); (repeat (rename _ ≠ _ => zz; clear zz)); (repeat (rename IntsAre _ _ => zz; clear zz)); (repeat (rename @LT.lt Nat _ 0 _ => zz; clear zz)); (try dsimp only)))
  k_with "turn end" => ((dsimp only [TPost]; refine' JG_end ?F ?N ?hI ?hX ?c5 ?c4 ?c3 ?c2 ?c1 ?mP ?v1 ?v2 ?v3 ?v4 ?v5 ?hP ?hD ?n5 ?n6 ?n7 ?LO ?oP ?oD ?oX ?oI ?hit; (case hit => assumption); (case F => assumption); (case N => assumption); (case hI => k_mem); (case hX => k_mem); (case c5 => k_mem); (case c4 => k_mem); (case c3 => k_mem); (case c2 => k_mem); (case c1 => k_mem); (case mP => rfl); (case v1 => assumption); (case v2 => assumption); (case v3 => exact ⟨_, by assumption⟩); (case v4 => exact ⟨_, by assumption⟩); (case v5 => exact ⟨_, by assumption⟩); (case hP => k_mem); (case hD => k_mem); (case n5 => assumption); (case n6 => assumption); (case n7 => assumption); (case LO => assumption); (case oP => exact ⟨by k_ne, by k_ne, by k_ne, by k_ne, by k_ne, by k_ne, trivial⟩); (case oX => exact ⟨by k_ne, by k_ne, by k_ne, by k_ne, by k_ne, trivial⟩); (case oD => exact ⟨by k_ne, by k_ne, by k_ne, by k_ne, by k_ne, by k_ne, by k_ne, trivial⟩); (case oI => exact ⟨by k_ne, by k_ne, by k_ne, by k_ne, by k_ne, by k_ne, trivial⟩)))
  k_with "law sweep" => (((repeat (rename LCg.Off1 _ _ => zz; clear zz)); (repeat (rename LitOf _ _ _ _ _ _ _ => zz; clear zz)); (repeat (rename Obj.data _ = _ => zz; clear zz)); (repeat (rename News _ _ _ _ => zz; clear zz)); (repeat (rename Fr _ _ _ _ => zz; clear zz)); (repeat (rename CarriedAll _ _ => zz; clear zz)); (repeat (rename NewPlain _ _ _ => zz; clear zz)); (repeat (rename PySem.W.Dflts _ _ _ => zz; clear zz)); (repeat (rename Heap.CodeRec _ _ _ => zz; clear zz)); (repeat (rename _ < _ ∧ _ => zz; clear zz)); (repeat (rename _ ≠ _ => zz; clear zz)); (repeat (rename IntsAre _ _ => zz; clear zz)); (repeat (rename @LT.lt Nat _ 0 _ => zz; clear zz)); (try dsimp only)))
  k_with "law steps" => (repeat' ((fail_if_success (with_reducible refine Hold.mk ?_)); first | (k_unfold; (try dsimp only)) | ((with_reducible show wpAny _ _ (exec _ _) _ _ _); k_fold) | walk1 | (dsimp only; walk1) | (leave1; try dsimp only) | fail "no step"))
  refine Hold.mk ?_
  dsimp only
  rename IntsAre _ (_ ++ _) => hXX
  rename Small8 _ => B9
  k_dflt (refine' iter_law ?zahh ?zahL ?zaF ?zaN ?zahi ?zahX ?zac5 ?zac4 ?zac3 ?zac2 ?zac1 ?zamP ?zav1 ?zav2 ?zav3 ?zav4 ?zav5 ?zahP ?zahD ?zan5 ?zan6 ?zan7 ?zaLO ?zaoP ?zaoD ?zaoX ?zaturn ?zadone; (case zahh => rfl); (case zaF => assumption); (case zahL => exact rfl); (case zaN => assumption); (case zahi => exact hXX); (case zahX => k_mem); (case zac5 => k_mem); (case zac4 => k_mem); (case zac3 => k_mem); (case zac2 => k_mem); (case zac1 => k_mem); (case zamP => rfl); (case zav1 => assumption); (case zav2 => assumption); (case zav3 => exact ⟨_, by assumption⟩); (case zav4 => exact ⟨_, by assumption⟩); (case zav5 => exact ⟨_, by assumption⟩); (case zahP => k_mem); (case zahD => k_mem); (case zan5 => assumption); (case zan6 => assumption); (case zan7 => assumption); (case zaLO => assumption); (case zaoP => exact ⟨by k_ne, by k_ne, by k_ne, by k_ne, by k_ne, by k_ne, trivial⟩); (case zaoX => exact ⟨by k_ne, by k_ne, by k_ne, by k_ne, by k_ne, trivial⟩); (case zaoD => exact ⟨by k_ne, by k_ne, by k_ne, by k_ne, by k_ne, by k_ne, by k_ne, trivial⟩))
  case' zadone => walk_at "law sweep0"
  case' zaturn => walk_at "law sweep0"
  · k_with_none
    k_with "ne" => (first | exact off1_mem (by with_reducible assumption) (_, _) (by k_mem) | exact Ne.symm (off1_mem (by with_reducible assumption) (_, _) (by k_mem)) | with_reducible exact nd1 _ | with_reducible exact nd2 _ | with_reducible exact nd3 _ | with_reducible exact nd4 _ | with_reducible exact nd5 _ | with_reducible exact nd1' _ | with_reducible exact nd2' _ | with_reducible exact nd3' _ | with_reducible exact nd4' _ | with_reducible exact nd5' _ | (refine Nat.ne_of_lt ?_; with_reducible walk_at "lt") | (refine Nat.ne_of_gt ?_; with_reducible walk_at "lt"))
    k_with "lt" => (first | assumption | exact And.left (by assumption) | exact And.left (And.right (by assumption)) | exact And.right (by assumption) | exact And.left (And.right (And.right (by assumption))) | exact And.right (And.right (by assumption)) | exact And.left (And.right (And.right (And.right (by assumption)))) | exact And.right (And.right (And.right (by assumption))) | exact And.left (And.right (And.right (And.right (And.right (by assumption))))) | exact And.right (And.right (And.right (And.right (by assumption)))) | exact And.left (And.right (And.right (And.right (And.right (And.right (by assumption)))))) | exact And.right (And.right (And.right (And.right (And.right (by assumption))))) | exact And.left (And.right (And.right (And.right (And.right (And.right (And.right (by assumption))))))) | exact And.right (And.right (And.right (And.right (And.right (And.right (by assumption)))))) | exact And.left (And.right (And.right (And.right (And.right (And.right (And.right (And.right (by assumption)))))))) | exact And.right (And.right (And.right (And.right (And.right (And.right (And.right (by assumption))))))) | exact And.left (And.right (And.right (And.right (And.right (And.right (And.right (And.right (And.right (by assumption))))))))) | exact And.right (And.right (And.right (And.right (And.right (And.right (And.right (And.right (by assumption)))))))) | exact And.left (And.right (And.right (And.right (And.right (And.right (And.right (And.right (And.right (And.right (by assumption)))))))))) | exact And.right (And.right (And.right (And.right (And.right (And.right (And.right (And.right (And.right (by assumption))))))))) | exact And.left (And.right (And.right (And.right (And.right (And.right (And.right (And.right (And.right (And.right (And.right (by assumption))))))))))) | exact And.right (And.right (And.right (And.right (And.right (And.right (And.right (And.right (And.right (And.right (by assumption)))))))))) | exact lta1 (by assumption) | exact lta2 (by assumption) | exact lta3 (by assumption) | exact lta4 (by assumption) | exact lta5 (by assumption) | exact ltd1 (by assumption) | exact ltd2 (by assumption) | exact ltd3 (by assumption) | exact ltd4 (by assumption) | exact ltd5 (by assumption) | exact ltt3 (by assumption) (by assumption) | exact ltt5 (by assumption) (by assumption))
    k_with "eval Name" => ((k_here; (with_reducible show wpAny _ _ (eval (Expr.Name _ _) (compEnvC _ _ _ _)) _ _ _); k_dflt (first | (refine' LCgL.ld_own ?N ?m ?C ?x ?_ ?k ?l ?d; (case l => rfl); (case k => rfl); (case d => decide); (case N => k_asm); (case m => k_mem); (case C => assumption); (case x => assumption); k_whole) | (refine' lcf_free ?N ?c ?m ?d ?_ ?a ?b; (case b => rfl); (case a => rfl); (case N => k_asm); (case c => rfl); (case m => k_mem); (case d => k_asm); k_whole) | (refine' LCgL.ld_global ?F ?X ?T ?e ?_ ?g ?k ?x ?d; (case x => rfl); (case F => k_asm); (case X => k_asm); (case T => k_asm); (case e => k_is); (case g => rfl); (case k => rfl); (case d => decide); k_whole))))
    k_with "subscriptTail Name Name ref int" => ((k_here; (with_reducible show wpAny _ _ (subscriptTail _ _ (Value.ref _) (Value.int _ _)) _ _ _); k_dflt (refine' item_N ?N ?m ?h0 ?h1 ?hx ?_; (case N => k_asm); (case m => k_mem); (case h0 => decide); (case h1 => decide); (case hx => rfl); k_whole)))
    k_with "subscriptTail Name Constant ref int" => ((k_here; (with_reducible show wpAny _ _ (subscriptTail _ _ (Value.ref _) (Value.int _ _)) _ _ _); k_dflt (refine' item_N ?N ?m ?h0 ?h1 ?hx ?_; (case N => k_asm); (case m => k_mem); (case h0 => decide); (case h1 => decide); (case hx => rfl); k_whole)))
    k_with "CompSrc" => ((k_here; k_dflt (first | (refine LCg.CompSrc.ledger (by rfl) (by k_asm) (by k_asm) (by k_mem) (by first | size_fits | exact Nat.le_of_ble_eq_true rfl) ?_; intro g'; lcg_lit) | (refine LCg.CompSrc.range (by rfl) (by k_asm) (by k_asm) (by assumption) (by first | decide | rfl) (by first | rfl | decide) (by first | size_fits | exact Nat.le_of_ble_eq_true rfl) ?_; intro g'; lcg_lit))))
    k_with "CompRest" => ((with_unfolding_all first | (refine LCg.CompRest.succ ?_; intro v' I' oI' C' oC' D' m' h' tk' E' hv' hC' hx' F' N' off' ne'; clear ne'; (first | lcg_open hv' | (obtain ⟨t9', hv9'⟩ := hv'; subst hv9')); (try dsimp only); (try k_fold)) | refine LCg.CompRest.zero ?_))
    k_with "CompRestT" => ((with_unfolding_all first | (refine LCt.CompRestT.succ ?_; intro v' I' oI' C' oC' D' m' h' tk' E' hv' hC' hx' F' N' off' ne'; clear ne'; (first | lcg_open hv' | (obtain ⟨t9', hv9'⟩ := hv'; subst hv9')); (try dsimp only); (try k_fold)) | refine LCt.CompRestT.zero ?_))
    k_with "CompEnd" => ((refine LCg.CompEnd.intro (by assumption) (by assumption) _ (fun _ hp => hp) (by assumption) (by lcg_src) ?_))
    k_with "FinE" => (((unfold LCg.FinE); intro D' h' tk' F' N' o1'; (try simp only [List.nil_append, List.cons_append] at N'); (try dsimp only)))
    k_with "FinA" => (((unfold LCg.FinA); intro D' h' tk' F' N' o1'; (try simp only [List.nil_append, List.cons_append] at N'); (try dsimp only)))
    k_with "exec Assign cons ListComp" => ((k_here; lct_look; k_dflt (refine LCt.Assign_ListComp_T (F₀ := by k_asm) (by rfl) (by with_unfolding_all rfl) (by with_unfolding_all rfl) (by decide) (by rfl) (by decide) (by rfl) (by rfl) (by rfl) ?_)))
    k_with "CompSrcT" => ((k_here; k_dflt (first | (refine LCt.CompSrcT.ledger (by rfl) (by k_asm) (by k_asm) (by k_mem) (by first | size_fits | exact Nat.le_of_ble_eq_true rfl) ?_; intro g'; first | lct_lit | (with_unfolding_all change @LCt.CompRestT _ _ _ _ _ _ _ _ _ _ _ _ _ _ _ _ 4 _ _ _)) | (refine LCt.CompSrcT.range (by rfl) (by k_asm) (by k_asm) (by assumption) (by first | decide | rfl) (by first | rfl | decide) (by first | size_fits | exact Nat.le_of_ble_eq_true rfl) ?_; intro g'; first | lct_lit | (with_unfolding_all change @LCt.CompRestT _ _ _ _ _ _ _ _ _ _ _ _ _ _ _ _ 4 _ _ _)))))
    k_with "law box" => (first | exact bx_f3 _ | exact bx_r27 _ | exact frs_bx (by assumption) | assumption)
    k_with "tok pos" => ((dsimp only; first | assumption | exact Nat.succ_pos _))
    k_with "tok ne" => (first | assumption | exact Nat.succ_ne_zero _ | exact tok_ne (by assumption))
    k_with "law sweep0" => (((repeat (rename LCg.Off1 _ _ => zz; clear zz)); (repeat (rename LitOf _ _ _ _ _ _ _ => zz; clear zz)); (repeat (rename Obj.data _ = _ => zz; clear zz)); (repeat (rename News _ _ _ _ => zz; clear zz)); (repeat (rename Fr _ _ _ _ => zz; clear zz)); (repeat (rename CarriedAll _ _ => zz; clear zz)); (repeat (rename NewPlain _ _ _ => zz; clear zz)); (repeat (rename PySem.W.Dflts _ _ _ => zz; clear zz)); (repeat (rename Heap.CodeRec _ _ _ => zz; clear zz)); (repeat (rename _ ∧ _ => zz; clear zz)); (repeat (rename _ ≠ _ => zz; clear zz)); (repeat (rename IntsAre _ _ => zz; clear zz)); (repeat (rename @LT.lt Nat _ 0 _ => zz; clear zz)); (try dsimp only)))
    k_with "turn end" => ((dsimp only [TPost]; refine' JG_end ?F ?N ?hI ?hX ?c5 ?c4 ?c3 ?c2 ?c1 ?mP ?v1 ?v2 ?v3 ?v4 ?v5 ?hP ?hD ?n5 ?n6 ?n7 ?LO ?oP ?oD ?oX ?oI ?hit; (case hit => assumption); (case F => assumption); (case N => assumption); (case hI => k_mem); (case hX => k_mem); (case c5 => k_mem); (case c4 => k_mem); (case c3 => k_mem); (case c2 => k_mem); (case c1 => k_mem); (case mP => rfl); (case v1 => assumption); (case v2 => assumption); (case v3 => exact ⟨_, by assumption⟩); (case v4 => exact ⟨_, by assumption⟩); (case v5 => exact ⟨_, by assumption⟩); (case hP => k_mem); (case hD => k_mem); (case n5 => assumption); (case n6 => assumption); (case n7 => assumption); (case LO => assumption); (case oP => exact ⟨by k_ne, by k_ne, by k_ne, by k_ne, by k_ne, by k_ne, trivial⟩); (case oX => exact ⟨by k_ne, by k_ne, by k_ne, by k_ne, by k_ne, trivial⟩); (case oD => exact ⟨by k_ne, by k_ne, by k_ne, by k_ne, by k_ne, by k_ne, by k_ne, trivial⟩); (case oI => exact ⟨by k_ne, by k_ne, by k_ne, by k_ne, by k_ne, by k_ne, trivial⟩)))
    k_with "law sweep" => (((repeat (rename LCg.Off1 _ _ => zz; clear zz)); (repeat (rename LitOf _ _ _ _ _ _ _ => zz; clear zz)); (repeat (rename Obj.data _ = _ => zz; clear zz)); (repeat (rename News _ _ _ _ => zz; clear zz)); (repeat (rename Fr _ _ _ _ => zz; clear zz)); (repeat (rename CarriedAll _ _ => zz; clear zz)); (repeat (rename NewPlain _ _ _ => zz; clear zz)); (repeat (rename PySem.W.Dflts _ _ _ => zz; clear zz)); (repeat (rename Heap.CodeRec _ _ _ => zz; clear zz)); (repeat (rename _ < _ ∧ _ => zz; clear zz)); (repeat (rename _ ≠ _ => zz; clear zz)); (repeat (rename IntsAre _ _ => zz; clear zz)); (repeat (rename @LT.lt Nat _ 0 _ => zz; clear zz)); (try dsimp only)))
    k_with "law steps" => (repeat' ((fail_if_success (with_reducible refine Hold.mk ?_)); first | (k_unfold; (try dsimp only)) | ((with_reducible show wpAny _ _ (exec _ _) _ _ _); k_fold) | walk1 | (dsimp only; walk1) | (leave1; try dsimp only) | fail "no step"))
    k_with "execs cons" => (k_here; refine gen_toks (n := _ + 1) (Nat.succ_pos _) ?_; intro tk hpos; (rename Fr _ _ _ _ => lF9; (try dsimp only at lF9)); (try (rename Obj.data _ = Data.cell _ => ld9; dsimp only at ld9)))
    rintro pe te I it m₁ nd h tk1 hpe hit hI ⟨p, q, r, o, u, v, y, P, D, t1, t2, t3, t4, t5, t6, t7, k, n, o1, o2, o3, o4, o5, e1, n5, n6, n7, LO, rfl, oP, oD, oX, ⟨v5, hv5⟩, ⟨v4, hv4⟩, ⟨v3, hv3⟩, hv2, hv1⟩ F1 N1
    rename Small8 _ => B9
    replace hpe := mem8 hpe B9
    clear B9
    have hpm := fmod4 hpe
    rw [pin_eq e1] at F1
    dsimp only at F1
    clear e1
    (try k_unmd); (try k_fold); (try k_sweep)
    k_with "subscriptTail Name Slice ref ref" => (k_dflt (refine' kmk_slice_ints (vs := [.int _ _, .int _ _, .int _ _, .int _ _]) ?yF ?yN ?yl ?yp ?yq ?yi ?ym rfl ?_ ?ys ?yt ?yz; (case yF => k_asm); (case yN => k_asm); (case yl => exact News.isList (by k_asm) (by k_mem)); (case yp => kmk_part); (case yq => kmk_part); (case yi => exact .cons _ _ (.cons _ _ (.cons _ _ (.cons _ _ .nil)))); (case ym => first | exact kmk_upto (.cons _ _ (.cons _ _ (.cons _ _ (.cons _ _ .nil)))) (by omega) | exact kmk_from (.cons _ _ (.cons _ _ (.cons _ _ (.cons _ _ .nil)))) (by omega)); (case ys => with_unfolding_all rfl); (case yt => kmk_pure); (case yz => exact Nat.le_of_ble_eq_true rfl)); intro D' ws' h' F' N' l1 hI' hC' hL'; clear hC' hL'; (try k_lt l1); (try k_sweep))
    k_with "binaryOp Add ref ref" => (k_dflt (refine' kmk_add_ints ?ya1 ?ya2 ?ya3 ?ya4 ?ya5 ?ya6 ?_ ?ya7; (case ya1 => k_asm); (case ya2 => k_asm); (case ya3 => exact News.isList (by k_asm) (by k_mem)); (case ya4 => exact News.isList (by k_asm) (by k_mem)); (case ya5 => first | assumption | exact .cons _ _ .nil); (case ya6 => first | assumption | exact .cons _ _ .nil); (case ya7 => (rw [sizeLine_eq]; simp only [List.length_append, List.length_take, List.length_drop, List.length_cons, List.length_nil]; omega))); intro D' ws' h' F' N' l1 hI'; (try k_lt l1); (try k_sweep))
    k_with "pyIter ref" => ((with_reducible show wpAny _ _ (pyIter (Value.ref _)) (fun it s₂ => LoopAtV _ _ _ _ _ _ _ _ _ it s₂) _ _); refine Hold.out ?_)
    k_with "call ref" => (refine Hold.out ?_)
    walk_at "law steps"
    k_with_none
    k_with "ne" => (first | exact off1_mem (by with_reducible assumption) (_, _) (by k_mem) | exact Ne.symm (off1_mem (by with_reducible assumption) (_, _) (by k_mem)) | with_reducible exact nd1 _ | with_reducible exact nd2 _ | with_reducible exact nd3 _ | with_reducible exact nd4 _ | with_reducible exact nd5 _ | with_reducible exact nd1' _ | with_reducible exact nd2' _ | with_reducible exact nd3' _ | with_reducible exact nd4' _ | with_reducible exact nd5' _ | (refine Nat.ne_of_lt ?_; with_reducible walk_at "lt") | (refine Nat.ne_of_gt ?_; with_reducible walk_at "lt"))
    k_with "lt" => (first | assumption | exact And.left (by assumption) | exact And.left (And.right (by assumption)) | exact And.right (by assumption) | exact And.left (And.right (And.right (by assumption))) | exact And.right (And.right (by assumption)) | exact And.left (And.right (And.right (And.right (by assumption)))) | exact And.right (And.right (And.right (by assumption))) | exact And.left (And.right (And.right (And.right (And.right (by assumption))))) | exact And.right (And.right (And.right (And.right (by assumption)))) | exact And.left (And.right (And.right (And.right (And.right (And.right (by assumption)))))) | exact And.right (And.right (And.right (And.right (And.right (by assumption))))) | exact And.left (And.right (And.right (And.right (And.right (And.right (And.right (by assumption))))))) | exact And.right (And.right (And.right (And.right (And.right (And.right (by assumption)))))) | exact And.left (And.right (And.right (And.right (And.right (And.right (And.right (And.right (by assumption)))))))) | exact And.right (And.right (And.right (And.right (And.right (And.right (And.right (by assumption))))))) | exact And.left (And.right (And.right (And.right (And.right (And.right (And.right (And.right (And.right (by assumption))))))))) | exact And.right (And.right (And.right (And.right (And.right (And.right (And.right (And.right (by assumption)))))))) | exact And.left (And.right (And.right (And.right (And.right (And.right (And.right (And.right (And.right (And.right (by assumption)))))))))) | exact And.right (And.right (And.right (And.right (And.right (And.right (And.right (And.right (And.right (by assumption))))))))) | exact And.left (And.right (And.right (And.right (And.right (And.right (And.right (And.right (And.right (And.right (And.right (by assumption))))))))))) | exact And.right (And.right (And.right (And.right (And.right (And.right (And.right (And.right (And.right (And.right (by assumption)))))))))) | exact lta1 (by assumption) | exact lta2 (by assumption) | exact lta3 (by assumption) | exact lta4 (by assumption) | exact lta5 (by assumption) | exact ltd1 (by assumption) | exact ltd2 (by assumption) | exact ltd3 (by assumption) | exact ltd4 (by assumption) | exact ltd5 (by assumption) | exact ltt3 (by assumption) (by assumption) | exact ltt5 (by assumption) (by assumption))
    k_with "eval Name" => ((k_here; (with_reducible show wpAny _ _ (eval (Expr.Name _ _) (compEnvC _ _ _ _)) _ _ _); k_dflt (first | (refine' LCgL.ld_own ?N ?m ?C ?x ?_ ?k ?l ?d; (case l => rfl); (case k => rfl); (case d => decide); (case N => k_asm); (case m => k_mem); (case C => assumption); (case x => assumption); k_whole) | (refine' lcf_free ?N ?c ?m ?d ?_ ?a ?b; (case b => rfl); (case a => rfl); (case N => k_asm); (case c => rfl); (case m => k_mem); (case d => k_asm); k_whole) | (refine' LCgL.ld_global ?F ?X ?T ?e ?_ ?g ?k ?x ?d; (case x => rfl); (case F => k_asm); (case X => k_asm); (case T => k_asm); (case e => k_is); (case g => rfl); (case k => rfl); (case d => decide); k_whole))))
    k_with "subscriptTail Name Name ref int" => ((k_here; (with_reducible show wpAny _ _ (subscriptTail _ _ (Value.ref _) (Value.int _ _)) _ _ _); k_dflt (refine' item_N ?N ?m ?h0 ?h1 ?hx ?_; (case N => k_asm); (case m => k_mem); (case h0 => decide); (case h1 => decide); (case hx => rfl); k_whole)))
    k_with "subscriptTail Name Constant ref int" => ((k_here; (with_reducible show wpAny _ _ (subscriptTail _ _ (Value.ref _) (Value.int _ _)) _ _ _); k_dflt (refine' item_N ?N ?m ?h0 ?h1 ?hx ?_; (case N => k_asm); (case m => k_mem); (case h0 => decide); (case h1 => decide); (case hx => rfl); k_whole)))
    k_with "CompSrc" => ((k_here; k_dflt (first | (refine LCg.CompSrc.ledger (by rfl) (by k_asm) (by k_asm) (by k_mem) (by first | size_fits | exact Nat.le_of_ble_eq_true rfl) ?_; intro g'; lcg_lit) | (refine LCg.CompSrc.range (by rfl) (by k_asm) (by k_asm) (by assumption) (by first | decide | rfl) (by first | rfl | decide) (by first | size_fits | exact Nat.le_of_ble_eq_true rfl) ?_; intro g'; lcg_lit))))
    k_with "CompRest" => ((with_unfolding_all first | (refine LCg.CompRest.succ ?_; intro v' I' oI' C' oC' D' m' h' tk' E' hv' hC' hx' F' N' off' ne'; clear ne'; (first | lcg_open hv' | (obtain ⟨t9', hv9'⟩ := hv'; subst hv9')); (try dsimp only); (try k_fold)) | refine LCg.CompRest.zero ?_))
    k_with "CompRestT" => ((with_unfolding_all first | (refine LCt.CompRestT.succ ?_; intro v' I' oI' C' oC' D' m' h' tk' E' hv' hC' hx' F' N' off' ne'; clear ne'; (first | lcg_open hv' | (obtain ⟨t9', hv9'⟩ := hv'; subst hv9')); (try dsimp only); (try k_fold)) | refine LCt.CompRestT.zero ?_))
    k_with "CompEnd" => ((refine LCg.CompEnd.intro (by assumption) (by assumption) _ (fun _ hp => hp) (by assumption) (by lcg_src) ?_))
    k_with "FinE" => (((unfold LCg.FinE); intro D' h' tk' F' N' o1'; (try simp only [List.nil_append, List.cons_append] at N'); (try dsimp only)))
    k_with "FinA" => (((unfold LCg.FinA); intro D' h' tk' F' N' o1'; (try simp only [List.nil_append, List.cons_append] at N'); (try dsimp only)))
    k_with "exec Assign cons ListComp" => ((k_here; lct_look; k_dflt (refine LCt.Assign_ListComp_T (F₀ := by k_asm) (by rfl) (by with_unfolding_all rfl) (by with_unfolding_all rfl) (by decide) (by rfl) (by decide) (by rfl) (by rfl) (by rfl) ?_)))
    k_with "CompSrcT" => ((k_here; k_dflt (first | (refine LCt.CompSrcT.ledger (by rfl) (by k_asm) (by k_asm) (by k_mem) (by first | size_fits | exact Nat.le_of_ble_eq_true rfl) ?_; intro g'; first | lct_lit | (with_unfolding_all change @LCt.CompRestT _ _ _ _ _ _ _ _ _ _ _ _ _ _ _ _ 4 _ _ _)) | (refine LCt.CompSrcT.range (by rfl) (by k_asm) (by k_asm) (by assumption) (by first | decide | rfl) (by first | rfl | decide) (by first | size_fits | exact Nat.le_of_ble_eq_true rfl) ?_; intro g'; first | lct_lit | (with_unfolding_all change @LCt.CompRestT _ _ _ _ _ _ _ _ _ _ _ _ _ _ _ _ 4 _ _ _)))))
    k_with "law box" => (first | exact bx_f3 _ | exact bx_r27 _ | exact frs_bx (by assumption) | assumption)
    k_with "tok pos" => ((dsimp only; first | assumption | exact Nat.succ_pos _))
    k_with "tok ne" => (first | assumption | exact Nat.succ_ne_zero _ | exact tok_ne (by assumption))
    k_with "law sweep0" => (((repeat (rename LCg.Off1 _ _ => zz; clear zz)); (repeat (rename LitOf _ _ _ _ _ _ _ => zz; clear zz)); (repeat (rename Obj.data _ = _ => zz; clear zz)); (repeat (rename News _ _ _ _ => zz; clear zz)); (repeat (rename Fr _ _ _ _ => zz; clear zz)); (repeat (rename CarriedAll _ _ => zz; clear zz)); (repeat (rename NewPlain _ _ _ => zz; clear zz)); (repeat (rename PySem.W.Dflts _ _ _ => zz; clear zz)); (repeat (rename Heap.CodeRec _ _ _ => zz; clear zz)); (repeat (rename _ ∧ _ => zz; clear zz)); (repeat (rename _ ≠ _ => zz; clear zz)); (repeat (rename IntsAre _ _ => zz; clear zz)); (repeat (rename @LT.lt Nat _ 0 _ => zz; clear zz)); (try dsimp only)))
    k_with "turn end" => ((dsimp only [TPost]; refine' JG_end ?F ?N ?hI ?hX ?c5 ?c4 ?c3 ?c2 ?c1 ?mP ?v1 ?v2 ?v3 ?v4 ?v5 ?hP ?hD ?n5 ?n6 ?n7 ?LO ?oP ?oD ?oX ?oI ?hit; (case hit => assumption); (case F => assumption); (case N => assumption); (case hI => k_mem); (case hX => k_mem); (case c5 => k_mem); (case c4 => k_mem); (case c3 => k_mem); (case c2 => k_mem); (case c1 => k_mem); (case mP => rfl); (case v1 => assumption); (case v2 => assumption); (case v3 => exact ⟨_, by assumption⟩); (case v4 => exact ⟨_, by assumption⟩); (case v5 => exact ⟨_, by assumption⟩); (case hP => k_mem); (case hD => k_mem); (case n5 => assumption); (case n6 => assumption); (case n7 => assumption); (case LO => assumption); (case oP => exact ⟨by k_ne, by k_ne, by k_ne, by k_ne, by k_ne, by k_ne, trivial⟩); (case oX => exact ⟨by k_ne, by k_ne, by k_ne, by k_ne, by k_ne, trivial⟩); (case oD => exact ⟨by k_ne, by k_ne, by k_ne, by k_ne, by k_ne, by k_ne, by k_ne, trivial⟩); (case oI => exact ⟨by k_ne, by k_ne, by k_ne, by k_ne, by k_ne, by k_ne, trivial⟩)))
    k_with "law sweep" => (((repeat (rename LCg.Off1 _ _ => zz; clear zz)); (repeat (rename LitOf _ _ _ _ _ _ _ => zz; clear zz)); (repeat (rename Obj.data _ = _ => zz; clear zz)); (repeat (rename News _ _ _ _ => zz; clear zz)); (repeat (rename Fr _ _ _ _ => zz; clear zz)); (repeat (rename CarriedAll _ _ => zz; clear zz)); (repeat (rename NewPlain _ _ _ => zz; clear zz)); (repeat (rename PySem.W.Dflts _ _ _ => zz; clear zz)); (repeat (rename Heap.CodeRec _ _ _ => zz; clear zz)); (repeat (rename _ < _ ∧ _ => zz; clear zz)); (repeat (rename _ ≠ _ => zz; clear zz)); (repeat (rename IntsAre _ _ => zz; clear zz)); (repeat (rename @LT.lt Nat _ 0 _ => zz; clear zz)); (try dsimp only)))
    k_with "law steps" => (repeat' ((fail_if_success (with_reducible refine Hold.mk ?_)); first | (k_unfold; (try dsimp only)) | ((with_reducible show wpAny _ _ (exec _ _) _ _ _); k_fold) | walk1 | (dsimp only; walk1) | (leave1; try dsimp only) | fail "no step"))
    k_with "execs cons" => (k_here; refine gen_toks (n := _ + 1) (Nat.succ_pos _) ?_; intro tk hpos; (rename Fr _ _ _ _ => lF9; (try dsimp only at lF9)); (try (rename Obj.data _ = Data.cell _ => ld9; dsimp only at ld9)))
    refine Hold.mk ?_
    rename LitOf _ _ _ _ _ _ _ => LO
    have LO' := LO
    obtain ⟨bp, bq, br, bs, _, _, _⟩ := LO'
    rename 0 ≤ _ ∧ _ < 8 => hpe
    k_with "call ref" => (k_dflt (first
      | ((with_reducible show wpAny _ _ (call (Value.ref 54) _) _ _ _); rename IntsAre _ (_ ++ _) => hI9; replace hI9 := fresh_ints hpe rfl hI9; obtain ⟨a1, a2, a3, a4, rfl⟩ := ints_inv4 hI9; clear hI9; refine' useop (lights_lit _ _ _ _ ?b1 ?b2 ?b3 ?b4) ?hp0 ?k1 ?k2 ?k3 ?k4 ?k5 ?k6 ?k7 ?k8 ?k9 ?_; (case hp0 => walk_at "tok pos"); (case k1 => k_asm); (case k2 => k_asm); (case k3 => k_asm); (case k4 => k_asm); (case k5 => k_asm); (case k6 => first | exact rfl | assumption); (case k7 => ktr_room); (case k8 => ktr_units); (case k9 => lcg_sub); k_whole; (case b1 => (walk_at "law box")); (case b2 => (walk_at "law box")); (case b3 => (walk_at "law box")); (case b4 => (walk_at "law box")); rintro r9 _ h9 tk9 ⟨x9, y9, z9, u1, u2, u3, u4, nz1, nz2, nz3, LO9, rfl⟩ hp9 F9 N9 O9; (try dsimp only); (try k_fold); (try k_sweep); walk_say "CONTRACT lights")
      | ((with_reducible show wpAny _ _ (call (Value.ref 64) _) _ _ _); refine' usevp (taken_call _ _ _ _ _ _ _ _ _ _ _ _ _ _ _ _ _ _ _ _ _ _ _ _ ?b1 ?b2 ?b3 ?b4 ?b5 ?b6 ?b7 ?b8) ?hp0 ?k1 ?k2 ?k3 ?k4 ?k5 ?k6 ?k7 ?k8 ?k9 ?_; (case hp0 => walk_at "tok pos"); (case k1 => k_asm); (case k2 => k_asm); (case k3 => k_asm); (case k4 => k_asm); (case k5 => k_asm); (case k6 => first | exact rfl | assumption); (case k7 => ktr_room); (case k8 => ktr_units); (case k9 => lcg_sub); k_whole; (case b1 => (walk_at "law box")); (case b2 => (walk_at "law box")); (case b3 => (walk_at "law box")); (case b4 => (walk_at "law box")); (case b5 => (walk_at "law box")); (case b6 => (walk_at "law box")); (case b7 => (walk_at "law box")); (case b8 => (walk_at "law box")); intro t9 h9 tk9 hp9 F9 N9; (try dsimp only); (try k_fold); (try k_sweep); walk_say "CONTRACT taken")))
    k_with "call builtin:sorted cons nil" => (k_dflt (refine' sorted_turn ?yF ?yN ?ym hpe ?yh' ?yh ?_; (case yF => k_asm); (case yN => k_asm); (case ym => k_mem); (case yh' => assumption); (case yh => assumption)); intro h' D' za zb zc t' u' v' e' F' N' l1 ka kb kc le1 le2 e13; (try k_lt l1); (try k_sweep))
    k_with "compareOp Eq ref ref" => (k_dflt (refine eq_sortedT (News.isList (by k_asm) (by k_mem)) (News.isList (by k_asm) (by k_mem)) (by k_units) ka kb kc le1 le2 e13 ?_))
    k_with "pyIter ref" => ((with_reducible show wpAny _ _ (pyIter (Value.ref _)) (fun it s₂ => LoopAtV _ _ _ _ _ _ _ _ _ it s₂) _ _); refine Hold.out ?_)
    walk_at "law steps"
    · k_with_none
      k_with "ne" => (first | exact off1_mem (by with_reducible assumption) (_, _) (by k_mem) | exact Ne.symm (off1_mem (by with_reducible assumption) (_, _) (by k_mem)) | with_reducible exact nd1 _ | with_reducible exact nd2 _ | with_reducible exact nd3 _ | with_reducible exact nd4 _ | with_reducible exact nd5 _ | with_reducible exact nd1' _ | with_reducible exact nd2' _ | with_reducible exact nd3' _ | with_reducible exact nd4' _ | with_reducible exact nd5' _ | (refine Nat.ne_of_lt ?_; with_reducible walk_at "lt") | (refine Nat.ne_of_gt ?_; with_reducible walk_at "lt"))
      k_with "lt" => (first | assumption | exact And.left (by assumption) | exact And.left (And.right (by assumption)) | exact And.right (by assumption) | exact And.left (And.right (And.right (by assumption))) | exact And.right (And.right (by assumption)) | exact And.left (And.right (And.right (And.right (by assumption)))) | exact And.right (And.right (And.right (by assumption))) | exact And.left (And.right (And.right (And.right (And.right (by assumption))))) | exact And.right (And.right (And.right (And.right (by assumption)))) | exact And.left (And.right (And.right (And.right (And.right (And.right (by assumption)))))) | exact And.right (And.right (And.right (And.right (And.right (by assumption))))) | exact And.left (And.right (And.right (And.right (And.right (And.right (And.right (by assumption))))))) | exact And.right (And.right (And.right (And.right (And.right (And.right (by assumption)))))) | exact And.left (And.right (And.right (And.right (And.right (And.right (And.right (And.right (by assumption)))))))) | exact And.right (And.right (And.right (And.right (And.right (And.right (And.right (by assumption))))))) | exact And.left (And.right (And.right (And.right (And.right (And.right (And.right (And.right (And.right (by assumption))))))))) | exact And.right (And.right (And.right (And.right (And.right (And.right (And.right (And.right (by assumption)))))))) | exact And.left (And.right (And.right (And.right (And.right (And.right (And.right (And.right (And.right (And.right (by assumption)))))))))) | exact And.right (And.right (And.right (And.right (And.right (And.right (And.right (And.right (And.right (by assumption))))))))) | exact And.left (And.right (And.right (And.right (And.right (And.right (And.right (And.right (And.right (And.right (And.right (by assumption))))))))))) | exact And.right (And.right (And.right (And.right (And.right (And.right (And.right (And.right (And.right (And.right (by assumption)))))))))) | exact lta1 (by assumption) | exact lta2 (by assumption) | exact lta3 (by assumption) | exact lta4 (by assumption) | exact lta5 (by assumption) | exact ltd1 (by assumption) | exact ltd2 (by assumption) | exact ltd3 (by assumption) | exact ltd4 (by assumption) | exact ltd5 (by assumption) | exact ltt3 (by assumption) (by assumption) | exact ltt5 (by assumption) (by assumption))
      k_with "eval Name" => ((k_here; (with_reducible show wpAny _ _ (eval (Expr.Name _ _) (compEnvC _ _ _ _)) _ _ _); k_dflt (first | (refine' LCgL.ld_own ?N ?m ?C ?x ?_ ?k ?l ?d; (case l => rfl); (case k => rfl); (case d => decide); (case N => k_asm); (case m => k_mem); (case C => assumption); (case x => assumption); k_whole) | (refine' lcf_free ?N ?c ?m ?d ?_ ?a ?b; (case b => rfl); (case a => rfl); (case N => k_asm); (case c => rfl); (case m => k_mem); (case d => k_asm); k_whole) | (refine' LCgL.ld_global ?F ?X ?T ?e ?_ ?g ?k ?x ?d; (case x => rfl); (case F => k_asm); (case X => k_asm); (case T => k_asm); (case e => k_is); (case g => rfl); (case k => rfl); (case d => decide); k_whole))))
      k_with "subscriptTail Name Name ref int" => ((k_here; (with_reducible show wpAny _ _ (subscriptTail _ _ (Value.ref _) (Value.int _ _)) _ _ _); k_dflt (refine' item_N ?N ?m ?h0 ?h1 ?hx ?_; (case N => k_asm); (case m => k_mem); (case h0 => decide); (case h1 => decide); (case hx => rfl); k_whole)))
      k_with "subscriptTail Name Constant ref int" => ((k_here; (with_reducible show wpAny _ _ (subscriptTail _ _ (Value.ref _) (Value.int _ _)) _ _ _); k_dflt (refine' item_N ?N ?m ?h0 ?h1 ?hx ?_; (case N => k_asm); (case m => k_mem); (case h0 => decide); (case h1 => decide); (case hx => rfl); k_whole)))
      k_with "CompSrc" => ((k_here; k_dflt (first | (refine LCg.CompSrc.ledger (by rfl) (by k_asm) (by k_asm) (by k_mem) (by first | size_fits | exact Nat.le_of_ble_eq_true rfl) ?_; intro g'; lcg_lit) | (refine LCg.CompSrc.range (by rfl) (by k_asm) (by k_asm) (by assumption) (by first | decide | rfl) (by first | rfl | decide) (by first | size_fits | exact Nat.le_of_ble_eq_true rfl) ?_; intro g'; lcg_lit))))
      k_with "CompRest" => ((with_unfolding_all first | (refine LCg.CompRest.succ ?_; intro v' I' oI' C' oC' D' m' h' tk' E' hv' hC' hx' F' N' off' ne'; clear ne'; (first | lcg_open hv' | (obtain ⟨t9', hv9'⟩ := hv'; subst hv9')); (try dsimp only); (try k_fold)) | refine LCg.CompRest.zero ?_))
      k_with "CompRestT" => ((with_unfolding_all first | (refine LCt.CompRestT.succ ?_; intro v' I' oI' C' oC' D' m' h' tk' E' hv' hC' hx' F' N' off' ne'; clear ne'; (first | lcg_open hv' | (obtain ⟨t9', hv9'⟩ := hv'; subst hv9')); (try dsimp only); (try k_fold)) | refine LCt.CompRestT.zero ?_))
      k_with "CompEnd" => ((refine LCg.CompEnd.intro (by assumption) (by assumption) _ (fun _ hp => hp) (by assumption) (by lcg_src) ?_))
      k_with "FinE" => (((unfold LCg.FinE); intro D' h' tk' F' N' o1'; (try simp only [List.nil_append, List.cons_append] at N'); (try dsimp only)))
      k_with "FinA" => (((unfold LCg.FinA); intro D' h' tk' F' N' o1'; (try simp only [List.nil_append, List.cons_append] at N'); (try dsimp only)))
      k_with "exec Assign cons ListComp" => ((k_here; lct_look; k_dflt (refine LCt.Assign_ListComp_T (F₀ := by k_asm) (by rfl) (by with_unfolding_all rfl) (by with_unfolding_all rfl) (by decide) (by rfl) (by decide) (by rfl) (by rfl) (by rfl) ?_)))
      k_with "CompSrcT" => ((k_here; k_dflt (first | (refine LCt.CompSrcT.ledger (by rfl) (by k_asm) (by k_asm) (by k_mem) (by first | size_fits | exact Nat.le_of_ble_eq_true rfl) ?_; intro g'; first | lct_lit | (with_unfolding_all change @LCt.CompRestT _ _ _ _ _ _ _ _ _ _ _ _ _ _ _ _ 4 _ _ _)) | (refine LCt.CompSrcT.range (by rfl) (by k_asm) (by k_asm) (by assumption) (by first | decide | rfl) (by first | rfl | decide) (by first | size_fits | exact Nat.le_of_ble_eq_true rfl) ?_; intro g'; first | lct_lit | (with_unfolding_all change @LCt.CompRestT _ _ _ _ _ _ _ _ _ _ _ _ _ _ _ _ 4 _ _ _)))))
      k_with "law box" => (first | exact bx_f3 _ | exact bx_r27 _ | exact frs_bx (by assumption) | assumption)
      k_with "tok pos" => ((dsimp only; first | assumption | exact Nat.succ_pos _))
      k_with "tok ne" => (first | assumption | exact Nat.succ_ne_zero _ | exact tok_ne (by assumption))
      k_with "law sweep0" => (((repeat (rename LCg.Off1 _ _ => zz; clear zz)); (repeat (rename LitOf _ _ _ _ _ _ _ => zz; clear zz)); (repeat (rename Obj.data _ = _ => zz; clear zz)); (repeat (rename News _ _ _ _ => zz; clear zz)); (repeat (rename Fr _ _ _ _ => zz; clear zz)); (repeat (rename CarriedAll _ _ => zz; clear zz)); (repeat (rename NewPlain _ _ _ => zz; clear zz)); (repeat (rename PySem.W.Dflts _ _ _ => zz; clear zz)); (repeat (rename Heap.CodeRec _ _ _ => zz; clear zz)); (repeat (rename _ ∧ _ => zz; clear zz)); (repeat (rename _ ≠ _ => zz; clear zz)); (repeat (rename IntsAre _ _ => zz; clear zz)); (repeat (rename @LT.lt Nat _ 0 _ => zz; clear zz)); (try dsimp only)))
      k_with "turn end" => ((dsimp only [TPost]; refine' JG_end ?F ?N ?hI ?hX ?c5 ?c4 ?c3 ?c2 ?c1 ?mP ?v1 ?v2 ?v3 ?v4 ?v5 ?hP ?hD ?n5 ?n6 ?n7 ?LO ?oP ?oD ?oX ?oI ?hit; (case hit => assumption); (case F => assumption); (case N => assumption); (case hI => k_mem); (case hX => k_mem); (case c5 => k_mem); (case c4 => k_mem); (case c3 => k_mem); (case c2 => k_mem); (case c1 => k_mem); (case mP => rfl); (case v1 => assumption); (case v2 => assumption); (case v3 => exact ⟨_, by assumption⟩); (case v4 => exact ⟨_, by assumption⟩); (case v5 => exact ⟨_, by assumption⟩); (case hP => k_mem); (case hD => k_mem); (case n5 => assumption); (case n6 => assumption); (case n7 => assumption); (case LO => assumption); (case oP => exact ⟨by k_ne, by k_ne, by k_ne, by k_ne, by k_ne, by k_ne, trivial⟩); (case oX => exact ⟨by k_ne, by k_ne, by k_ne, by k_ne, by k_ne, trivial⟩); (case oD => exact ⟨by k_ne, by k_ne, by k_ne, by k_ne, by k_ne, by k_ne, by k_ne, trivial⟩); (case oI => exact ⟨by k_ne, by k_ne, by k_ne, by k_ne, by k_ne, by k_ne, trivial⟩)))
      k_with "law sweep" => (((repeat (rename LCg.Off1 _ _ => zz; clear zz)); (repeat (rename LitOf _ _ _ _ _ _ _ => zz; clear zz)); (repeat (rename Obj.data _ = _ => zz; clear zz)); (repeat (rename News _ _ _ _ => zz; clear zz)); (repeat (rename Fr _ _ _ _ => zz; clear zz)); (repeat (rename CarriedAll _ _ => zz; clear zz)); (repeat (rename NewPlain _ _ _ => zz; clear zz)); (repeat (rename PySem.W.Dflts _ _ _ => zz; clear zz)); (repeat (rename Heap.CodeRec _ _ _ => zz; clear zz)); (repeat (rename _ < _ ∧ _ => zz; clear zz)); (repeat (rename _ ≠ _ => zz; clear zz)); (repeat (rename IntsAre _ _ => zz; clear zz)); (repeat (rename @LT.lt Nat _ 0 _ => zz; clear zz)); (try dsimp only)))
      k_with "law steps" => (repeat' ((fail_if_success (with_reducible refine Hold.mk ?_)); first | (k_unfold; (try dsimp only)) | ((with_reducible show wpAny _ _ (exec _ _) _ _ _); k_fold) | walk1 | (dsimp only; walk1) | (leave1; try dsimp only) | fail "no step"))
      exfalso
      rename (_ != _) = true => zf
      exact bne_self_f zf
    · k_with_none
      k_with "ne" => (first | exact off1_mem (by with_reducible assumption) (_, _) (by k_mem) | exact Ne.symm (off1_mem (by with_reducible assumption) (_, _) (by k_mem)) | with_reducible exact nd1 _ | with_reducible exact nd2 _ | with_reducible exact nd3 _ | with_reducible exact nd4 _ | with_reducible exact nd5 _ | with_reducible exact nd1' _ | with_reducible exact nd2' _ | with_reducible exact nd3' _ | with_reducible exact nd4' _ | with_reducible exact nd5' _ | (refine Nat.ne_of_lt ?_; with_reducible walk_at "lt") | (refine Nat.ne_of_gt ?_; with_reducible walk_at "lt"))
      k_with "lt" => (first | assumption | exact And.left (by assumption) | exact And.left (And.right (by assumption)) | exact And.right (by assumption) | exact And.left (And.right (And.right (by assumption))) | exact And.right (And.right (by assumption)) | exact And.left (And.right (And.right (And.right (by assumption)))) | exact And.right (And.right (And.right (by assumption))) | exact And.left (And.right (And.right (And.right (And.right (by assumption))))) | exact And.right (And.right (And.right (And.right (by assumption)))) | exact And.left (And.right (And.right (And.right (And.right (And.right (by assumption)))))) | exact And.right (And.right (And.right (And.right (And.right (by assumption))))) | exact And.left (And.right (And.right (And.right (And.right (And.right (And.right (by assumption))))))) | exact And.right (And.right (And.right (And.right (And.right (And.right (by assumption)))))) | exact And.left (And.right (And.right (And.right (And.right (And.right (And.right (And.right (by assumption)))))))) | exact And.right (And.right (And.right (And.right (And.right (And.right (And.right (by assumption))))))) | exact And.left (And.right (And.right (And.right (And.right (And.right (And.right (And.right (And.right (by assumption))))))))) | exact And.right (And.right (And.right (And.right (And.right (And.right (And.right (And.right (by assumption)))))))) | exact And.left (And.right (And.right (And.right (And.right (And.right (And.right (And.right (And.right (And.right (by assumption)))))))))) | exact And.right (And.right (And.right (And.right (And.right (And.right (And.right (And.right (And.right (by assumption))))))))) | exact And.left (And.right (And.right (And.right (And.right (And.right (And.right (And.right (And.right (And.right (And.right (by assumption))))))))))) | exact And.right (And.right (And.right (And.right (And.right (And.right (And.right (And.right (And.right (And.right (by assumption)))))))))) | exact lta1 (by assumption) | exact lta2 (by assumption) | exact lta3 (by assumption) | exact lta4 (by assumption) | exact lta5 (by assumption) | exact ltd1 (by assumption) | exact ltd2 (by assumption) | exact ltd3 (by assumption) | exact ltd4 (by assumption) | exact ltd5 (by assumption) | exact ltt3 (by assumption) (by assumption) | exact ltt5 (by assumption) (by assumption))
      k_with "eval Name" => ((k_here; (with_reducible show wpAny _ _ (eval (Expr.Name _ _) (compEnvC _ _ _ _)) _ _ _); k_dflt (first | (refine' LCgL.ld_own ?N ?m ?C ?x ?_ ?k ?l ?d; (case l => rfl); (case k => rfl); (case d => decide); (case N => k_asm); (case m => k_mem); (case C => assumption); (case x => assumption); k_whole) | (refine' lcf_free ?N ?c ?m ?d ?_ ?a ?b; (case b => rfl); (case a => rfl); (case N => k_asm); (case c => rfl); (case m => k_mem); (case d => k_asm); k_whole) | (refine' LCgL.ld_global ?F ?X ?T ?e ?_ ?g ?k ?x ?d; (case x => rfl); (case F => k_asm); (case X => k_asm); (case T => k_asm); (case e => k_is); (case g => rfl); (case k => rfl); (case d => decide); k_whole))))
      k_with "subscriptTail Name Name ref int" => ((k_here; (with_reducible show wpAny _ _ (subscriptTail _ _ (Value.ref _) (Value.int _ _)) _ _ _); k_dflt (refine' item_N ?N ?m ?h0 ?h1 ?hx ?_; (case N => k_asm); (case m => k_mem); (case h0 => decide); (case h1 => decide); (case hx => rfl); k_whole)))
      k_with "subscriptTail Name Constant ref int" => ((k_here; (with_reducible show wpAny _ _ (subscriptTail _ _ (Value.ref _) (Value.int _ _)) _ _ _); k_dflt (refine' item_N ?N ?m ?h0 ?h1 ?hx ?_; (case N => k_asm); (case m => k_mem); (case h0 => decide); (case h1 => decide); (case hx => rfl); k_whole)))
      k_with "CompSrc" => ((k_here; k_dflt (first | (refine LCg.CompSrc.ledger (by rfl) (by k_asm) (by k_asm) (by k_mem) (by first | size_fits | exact Nat.le_of_ble_eq_true rfl) ?_; intro g'; lcg_lit) | (refine LCg.CompSrc.range (by rfl) (by k_asm) (by k_asm) (by assumption) (by first | decide | rfl) (by first | rfl | decide) (by first | size_fits | exact Nat.le_of_ble_eq_true rfl) ?_; intro g'; lcg_lit))))
      k_with "CompRest" => ((with_unfolding_all first | (refine LCg.CompRest.succ ?_; intro v' I' oI' C' oC' D' m' h' tk' E' hv' hC' hx' F' N' off' ne'; clear ne'; (first | lcg_open hv' | (obtain ⟨t9', hv9'⟩ := hv'; subst hv9')); (try dsimp only); (try k_fold)) | refine LCg.CompRest.zero ?_))
      k_with "CompRestT" => ((with_unfolding_all first | (refine LCt.CompRestT.succ ?_; intro v' I' oI' C' oC' D' m' h' tk' E' hv' hC' hx' F' N' off' ne'; clear ne'; (first | lcg_open hv' | (obtain ⟨t9', hv9'⟩ := hv'; subst hv9')); (try dsimp only); (try k_fold)) | refine LCt.CompRestT.zero ?_))
      k_with "CompEnd" => ((refine LCg.CompEnd.intro (by assumption) (by assumption) _ (fun _ hp => hp) (by assumption) (by lcg_src) ?_))
      k_with "FinE" => (((unfold LCg.FinE); intro D' h' tk' F' N' o1'; (try simp only [List.nil_append, List.cons_append] at N'); (try dsimp only)))
      k_with "FinA" => (((unfold LCg.FinA); intro D' h' tk' F' N' o1'; (try simp only [List.nil_append, List.cons_append] at N'); (try dsimp only)))
      k_with "exec Assign cons ListComp" => ((k_here; lct_look; k_dflt (refine LCt.Assign_ListComp_T (F₀ := by k_asm) (by rfl) (by with_unfolding_all rfl) (by with_unfolding_all rfl) (by decide) (by rfl) (by decide) (by rfl) (by rfl) (by rfl) ?_)))
      k_with "CompSrcT" => ((k_here; k_dflt (first | (refine LCt.CompSrcT.ledger (by rfl) (by k_asm) (by k_asm) (by k_mem) (by first | size_fits | exact Nat.le_of_ble_eq_true rfl) ?_; intro g'; first | lct_lit | (with_unfolding_all change @LCt.CompRestT _ _ _ _ _ _ _ _ _ _ _ _ _ _ _ _ 4 _ _ _)) | (refine LCt.CompSrcT.range (by rfl) (by k_asm) (by k_asm) (by assumption) (by first | decide | rfl) (by first | rfl | decide) (by first | size_fits | exact Nat.le_of_ble_eq_true rfl) ?_; intro g'; first | lct_lit | (with_unfolding_all change @LCt.CompRestT _ _ _ _ _ _ _ _ _ _ _ _ _ _ _ _ 4 _ _ _)))))
      k_with "law box" => (first | exact bx_f3 _ | exact bx_r27 _ | exact frs_bx (by assumption) | assumption)
      k_with "tok pos" => ((dsimp only; first | assumption | exact Nat.succ_pos _))
      k_with "tok ne" => (first | assumption | exact Nat.succ_ne_zero _ | exact tok_ne (by assumption))
      k_with "law sweep0" => (((repeat (rename LCg.Off1 _ _ => zz; clear zz)); (repeat (rename LitOf _ _ _ _ _ _ _ => zz; clear zz)); (repeat (rename Obj.data _ = _ => zz; clear zz)); (repeat (rename News _ _ _ _ => zz; clear zz)); (repeat (rename Fr _ _ _ _ => zz; clear zz)); (repeat (rename CarriedAll _ _ => zz; clear zz)); (repeat (rename NewPlain _ _ _ => zz; clear zz)); (repeat (rename PySem.W.Dflts _ _ _ => zz; clear zz)); (repeat (rename Heap.CodeRec _ _ _ => zz; clear zz)); (repeat (rename _ ∧ _ => zz; clear zz)); (repeat (rename _ ≠ _ => zz; clear zz)); (repeat (rename IntsAre _ _ => zz; clear zz)); (repeat (rename @LT.lt Nat _ 0 _ => zz; clear zz)); (try dsimp only)))
      k_with "turn end" => ((dsimp only [TPost]; refine' JG_end ?F ?N ?hI ?hX ?c5 ?c4 ?c3 ?c2 ?c1 ?mP ?v1 ?v2 ?v3 ?v4 ?v5 ?hP ?hD ?n5 ?n6 ?n7 ?LO ?oP ?oD ?oX ?oI ?hit; (case hit => assumption); (case F => assumption); (case N => assumption); (case hI => k_mem); (case hX => k_mem); (case c5 => k_mem); (case c4 => k_mem); (case c3 => k_mem); (case c2 => k_mem); (case c1 => k_mem); (case mP => rfl); (case v1 => assumption); (case v2 => assumption); (case v3 => exact ⟨_, by assumption⟩); (case v4 => exact ⟨_, by assumption⟩); (case v5 => exact ⟨_, by assumption⟩); (case hP => k_mem); (case hD => k_mem); (case n5 => assumption); (case n6 => assumption); (case n7 => assumption); (case LO => assumption); (case oP => exact ⟨by k_ne, by k_ne, by k_ne, by k_ne, by k_ne, by k_ne, trivial⟩); (case oX => exact ⟨by k_ne, by k_ne, by k_ne, by k_ne, by k_ne, trivial⟩); (case oD => exact ⟨by k_ne, by k_ne, by k_ne, by k_ne, by k_ne, by k_ne, by k_ne, trivial⟩); (case oI => exact ⟨by k_ne, by k_ne, by k_ne, by k_ne, by k_ne, by k_ne, trivial⟩)))
      k_with "law sweep" => (((repeat (rename LCg.Off1 _ _ => zz; clear zz)); (repeat (rename LitOf _ _ _ _ _ _ _ => zz; clear zz)); (repeat (rename Obj.data _ = _ => zz; clear zz)); (repeat (rename News _ _ _ _ => zz; clear zz)); (repeat (rename Fr _ _ _ _ => zz; clear zz)); (repeat (rename CarriedAll _ _ => zz; clear zz)); (repeat (rename NewPlain _ _ _ => zz; clear zz)); (repeat (rename PySem.W.Dflts _ _ _ => zz; clear zz)); (repeat (rename Heap.CodeRec _ _ _ => zz; clear zz)); (repeat (rename _ < _ ∧ _ => zz; clear zz)); (repeat (rename _ ≠ _ => zz; clear zz)); (repeat (rename IntsAre _ _ => zz; clear zz)); (repeat (rename @LT.lt Nat _ 0 _ => zz; clear zz)); (try dsimp only)))
      k_with "law steps" => (repeat' ((fail_if_success (with_reducible refine Hold.mk ?_)); first | (k_unfold; (try dsimp only)) | ((with_reducible show wpAny _ _ (exec _ _) _ _ _); k_fold) | walk1 | (dsimp only; walk1) | (leave1; try dsimp only) | fail "no step"))
      walk_at "turn end"
    · k_with_none
      k_with "ne" => (first | exact off1_mem (by with_reducible assumption) (_, _) (by k_mem) | exact Ne.symm (off1_mem (by with_reducible assumption) (_, _) (by k_mem)) | with_reducible exact nd1 _ | with_reducible exact nd2 _ | with_reducible exact nd3 _ | with_reducible exact nd4 _ | with_reducible exact nd5 _ | with_reducible exact nd1' _ | with_reducible exact nd2' _ | with_reducible exact nd3' _ | with_reducible exact nd4' _ | with_reducible exact nd5' _ | (refine Nat.ne_of_lt ?_; with_reducible walk_at "lt") | (refine Nat.ne_of_gt ?_; with_reducible walk_at "lt"))
      k_with "lt" => (first | assumption | exact And.left (by assumption) | exact And.left (And.right (by assumption)) | exact And.right (by assumption) | exact And.left (And.right (And.right (by assumption))) | exact And.right (And.right (by assumption)) | exact And.left (And.right (And.right (And.right (by assumption)))) | exact And.right (And.right (And.right (by assumption))) | exact And.left (And.right (And.right (And.right (And.right (by assumption))))) | exact And.right (And.right (And.right (And.right (by assumption)))) | exact And.left (And.right (And.right (And.right (And.right (And.right (by assumption)))))) | exact And.right (And.right (And.right (And.right (And.right (by assumption))))) | exact And.left (And.right (And.right (And.right (And.right (And.right (And.right (by assumption))))))) | exact And.right (And.right (And.right (And.right (And.right (And.right (by assumption)))))) | exact And.left (And.right (And.right (And.right (And.right (And.right (And.right (And.right (by assumption)))))))) | exact And.right (And.right (And.right (And.right (And.right (And.right (And.right (by assumption))))))) | exact And.left (And.right (And.right (And.right (And.right (And.right (And.right (And.right (And.right (by assumption))))))))) | exact And.right (And.right (And.right (And.right (And.right (And.right (And.right (And.right (by assumption)))))))) | exact And.left (And.right (And.right (And.right (And.right (And.right (And.right (And.right (And.right (And.right (by assumption)))))))))) | exact And.right (And.right (And.right (And.right (And.right (And.right (And.right (And.right (And.right (by assumption))))))))) | exact And.left (And.right (And.right (And.right (And.right (And.right (And.right (And.right (And.right (And.right (And.right (by assumption))))))))))) | exact And.right (And.right (And.right (And.right (And.right (And.right (And.right (And.right (And.right (And.right (by assumption)))))))))) | exact lta1 (by assumption) | exact lta2 (by assumption) | exact lta3 (by assumption) | exact lta4 (by assumption) | exact lta5 (by assumption) | exact ltd1 (by assumption) | exact ltd2 (by assumption) | exact ltd3 (by assumption) | exact ltd4 (by assumption) | exact ltd5 (by assumption) | exact ltt3 (by assumption) (by assumption) | exact ltt5 (by assumption) (by assumption))
      k_with "eval Name" => ((k_here; (with_reducible show wpAny _ _ (eval (Expr.Name _ _) (compEnvC _ _ _ _)) _ _ _); k_dflt (first | (refine' LCgL.ld_own ?N ?m ?C ?x ?_ ?k ?l ?d; (case l => rfl); (case k => rfl); (case d => decide); (case N => k_asm); (case m => k_mem); (case C => assumption); (case x => assumption); k_whole) | (refine' lcf_free ?N ?c ?m ?d ?_ ?a ?b; (case b => rfl); (case a => rfl); (case N => k_asm); (case c => rfl); (case m => k_mem); (case d => k_asm); k_whole) | (refine' LCgL.ld_global ?F ?X ?T ?e ?_ ?g ?k ?x ?d; (case x => rfl); (case F => k_asm); (case X => k_asm); (case T => k_asm); (case e => k_is); (case g => rfl); (case k => rfl); (case d => decide); k_whole))))
      k_with "subscriptTail Name Name ref int" => ((k_here; (with_reducible show wpAny _ _ (subscriptTail _ _ (Value.ref _) (Value.int _ _)) _ _ _); k_dflt (refine' item_N ?N ?m ?h0 ?h1 ?hx ?_; (case N => k_asm); (case m => k_mem); (case h0 => decide); (case h1 => decide); (case hx => rfl); k_whole)))
      k_with "subscriptTail Name Constant ref int" => ((k_here; (with_reducible show wpAny _ _ (subscriptTail _ _ (Value.ref _) (Value.int _ _)) _ _ _); k_dflt (refine' item_N ?N ?m ?h0 ?h1 ?hx ?_; (case N => k_asm); (case m => k_mem); (case h0 => decide); (case h1 => decide); (case hx => rfl); k_whole)))
      k_with "CompSrc" => ((k_here; k_dflt (first | (refine LCg.CompSrc.ledger (by rfl) (by k_asm) (by k_asm) (by k_mem) (by first | size_fits | exact Nat.le_of_ble_eq_true rfl) ?_; intro g'; lcg_lit) | (refine LCg.CompSrc.range (by rfl) (by k_asm) (by k_asm) (by assumption) (by first | decide | rfl) (by first | rfl | decide) (by first | size_fits | exact Nat.le_of_ble_eq_true rfl) ?_; intro g'; lcg_lit))))
      k_with "CompRest" => ((with_unfolding_all first | (refine LCg.CompRest.succ ?_; intro v' I' oI' C' oC' D' m' h' tk' E' hv' hC' hx' F' N' off' ne'; clear ne'; (first | lcg_open hv' | (obtain ⟨t9', hv9'⟩ := hv'; subst hv9')); (try dsimp only); (try k_fold)) | refine LCg.CompRest.zero ?_))
      k_with "CompRestT" => ((with_unfolding_all first | (refine LCt.CompRestT.succ ?_; intro v' I' oI' C' oC' D' m' h' tk' E' hv' hC' hx' F' N' off' ne'; clear ne'; (first | lcg_open hv' | (obtain ⟨t9', hv9'⟩ := hv'; subst hv9')); (try dsimp only); (try k_fold)) | refine LCt.CompRestT.zero ?_))
      k_with "CompEnd" => ((refine LCg.CompEnd.intro (by assumption) (by assumption) _ (fun _ hp => hp) (by assumption) (by lcg_src) ?_))
      k_with "FinE" => (((unfold LCg.FinE); intro D' h' tk' F' N' o1'; (try simp only [List.nil_append, List.cons_append] at N'); (try dsimp only)))
      k_with "FinA" => (((unfold LCg.FinA); intro D' h' tk' F' N' o1'; (try simp only [List.nil_append, List.cons_append] at N'); (try dsimp only)))
      k_with "exec Assign cons ListComp" => ((k_here; lct_look; k_dflt (refine LCt.Assign_ListComp_T (F₀ := by k_asm) (by rfl) (by with_unfolding_all rfl) (by with_unfolding_all rfl) (by decide) (by rfl) (by decide) (by rfl) (by rfl) (by rfl) ?_)))
      k_with "CompSrcT" => ((k_here; k_dflt (first | (refine LCt.CompSrcT.ledger (by rfl) (by k_asm) (by k_asm) (by k_mem) (by first | size_fits | exact Nat.le_of_ble_eq_true rfl) ?_; intro g'; first | lct_lit | (with_unfolding_all change @LCt.CompRestT _ _ _ _ _ _ _ _ _ _ _ _ _ _ _ _ 4 _ _ _)) | (refine LCt.CompSrcT.range (by rfl) (by k_asm) (by k_asm) (by assumption) (by first | decide | rfl) (by first | rfl | decide) (by first | size_fits | exact Nat.le_of_ble_eq_true rfl) ?_; intro g'; first | lct_lit | (with_unfolding_all change @LCt.CompRestT _ _ _ _ _ _ _ _ _ _ _ _ _ _ _ _ 4 _ _ _)))))
      k_with "law box" => (first | exact bx_f3 _ | exact bx_r27 _ | exact frs_bx (by assumption) | assumption)
      k_with "tok pos" => ((dsimp only; first | assumption | exact Nat.succ_pos _))
      k_with "tok ne" => (first | assumption | exact Nat.succ_ne_zero _ | exact tok_ne (by assumption))
      k_with "law sweep0" => (((repeat (rename LCg.Off1 _ _ => zz; clear zz)); (repeat (rename LitOf _ _ _ _ _ _ _ => zz; clear zz)); (repeat (rename Obj.data _ = _ => zz; clear zz)); (repeat (rename News _ _ _ _ => zz; clear zz)); (repeat (rename Fr _ _ _ _ => zz; clear zz)); (repeat (rename CarriedAll _ _ => zz; clear zz)); (repeat (rename NewPlain _ _ _ => zz; clear zz)); (repeat (rename PySem.W.Dflts _ _ _ => zz; clear zz)); (repeat (rename Heap.CodeRec _ _ _ => zz; clear zz)); (repeat (rename _ ∧ _ => zz; clear zz)); (repeat (rename _ ≠ _ => zz; clear zz)); (repeat (rename IntsAre _ _ => zz; clear zz)); (repeat (rename @LT.lt Nat _ 0 _ => zz; clear zz)); (try dsimp only)))
      k_with "turn end" => ((dsimp only [TPost]; refine' JG_end ?F ?N ?hI ?hX ?c5 ?c4 ?c3 ?c2 ?c1 ?mP ?v1 ?v2 ?v3 ?v4 ?v5 ?hP ?hD ?n5 ?n6 ?n7 ?LO ?oP ?oD ?oX ?oI ?hit; (case hit => assumption); (case F => assumption); (case N => assumption); (case hI => k_mem); (case hX => k_mem); (case c5 => k_mem); (case c4 => k_mem); (case c3 => k_mem); (case c2 => k_mem); (case c1 => k_mem); (case mP => rfl); (case v1 => assumption); (case v2 => assumption); (case v3 => exact ⟨_, by assumption⟩); (case v4 => exact ⟨_, by assumption⟩); (case v5 => exact ⟨_, by assumption⟩); (case hP => k_mem); (case hD => k_mem); (case n5 => assumption); (case n6 => assumption); (case n7 => assumption); (case LO => assumption); (case oP => exact ⟨by k_ne, by k_ne, by k_ne, by k_ne, by k_ne, by k_ne, trivial⟩); (case oX => exact ⟨by k_ne, by k_ne, by k_ne, by k_ne, by k_ne, trivial⟩); (case oD => exact ⟨by k_ne, by k_ne, by k_ne, by k_ne, by k_ne, by k_ne, by k_ne, trivial⟩); (case oI => exact ⟨by k_ne, by k_ne, by k_ne, by k_ne, by k_ne, by k_ne, trivial⟩)))
      k_with "law sweep" => (((repeat (rename LCg.Off1 _ _ => zz; clear zz)); (repeat (rename LitOf _ _ _ _ _ _ _ => zz; clear zz)); (repeat (rename Obj.data _ = _ => zz; clear zz)); (repeat (rename News _ _ _ _ => zz; clear zz)); (repeat (rename Fr _ _ _ _ => zz; clear zz)); (repeat (rename CarriedAll _ _ => zz; clear zz)); (repeat (rename NewPlain _ _ _ => zz; clear zz)); (repeat (rename PySem.W.Dflts _ _ _ => zz; clear zz)); (repeat (rename Heap.CodeRec _ _ _ => zz; clear zz)); (repeat (rename _ < _ ∧ _ => zz; clear zz)); (repeat (rename _ ≠ _ => zz; clear zz)); (repeat (rename IntsAre _ _ => zz; clear zz)); (repeat (rename @LT.lt Nat _ 0 _ => zz; clear zz)); (try dsimp only)))
      k_with "law steps" => (repeat' ((fail_if_success (with_reducible refine Hold.mk ?_)); first | (k_unfold; (try dsimp only)) | ((with_reducible show wpAny _ _ (exec _ _) _ _ _); k_fold) | walk1 | (dsimp only; walk1) | (leave1; try dsimp only) | fail "no step"))
      walk_at "turn end"
  · k_with_none
    k_with "ne" => (first | exact off1_mem (by with_reducible assumption) (_, _) (by k_mem) | exact Ne.symm (off1_mem (by with_reducible assumption) (_, _) (by k_mem)) | with_reducible exact nd1 _ | with_reducible exact nd2 _ | with_reducible exact nd3 _ | with_reducible exact nd4 _ | with_reducible exact nd5 _ | with_reducible exact nd1' _ | with_reducible exact nd2' _ | with_reducible exact nd3' _ | with_reducible exact nd4' _ | with_reducible exact nd5' _ | (refine Nat.ne_of_lt ?_; with_reducible walk_at "lt") | (refine Nat.ne_of_gt ?_; with_reducible walk_at "lt"))
    k_with "lt" => (first | assumption | exact And.left (by assumption) | exact And.left (And.right (by assumption)) | exact And.right (by assumption) | exact And.left (And.right (And.right (by assumption))) | exact And.right (And.right (by assumption)) | exact And.left (And.right (And.right (And.right (by assumption)))) | exact And.right (And.right (And.right (by assumption))) | exact And.left (And.right (And.right (And.right (And.right (by assumption))))) | exact And.right (And.right (And.right (And.right (by assumption)))) | exact And.left (And.right (And.right (And.right (And.right (And.right (by assumption)))))) | exact And.right (And.right (And.right (And.right (And.right (by assumption))))) | exact And.left (And.right (And.right (And.right (And.right (And.right (And.right (by assumption))))))) | exact And.right (And.right (And.right (And.right (And.right (And.right (by assumption)))))) | exact And.left (And.right (And.right (And.right (And.right (And.right (And.right (And.right (by assumption)))))))) | exact And.right (And.right (And.right (And.right (And.right (And.right (And.right (by assumption))))))) | exact And.left (And.right (And.right (And.right (And.right (And.right (And.right (And.right (And.right (by assumption))))))))) | exact And.right (And.right (And.right (And.right (And.right (And.right (And.right (And.right (by assumption)))))))) | exact And.left (And.right (And.right (And.right (And.right (And.right (And.right (And.right (And.right (And.right (by assumption)))))))))) | exact And.right (And.right (And.right (And.right (And.right (And.right (And.right (And.right (And.right (by assumption))))))))) | exact And.left (And.right (And.right (And.right (And.right (And.right (And.right (And.right (And.right (And.right (And.right (by assumption))))))))))) | exact And.right (And.right (And.right (And.right (And.right (And.right (And.right (And.right (And.right (And.right (by assumption)))))))))) | exact lta1 (by assumption) | exact lta2 (by assumption) | exact lta3 (by assumption) | exact lta4 (by assumption) | exact lta5 (by assumption) | exact ltd1 (by assumption) | exact ltd2 (by assumption) | exact ltd3 (by assumption) | exact ltd4 (by assumption) | exact ltd5 (by assumption) | exact ltt3 (by assumption) (by assumption) | exact ltt5 (by assumption) (by assumption))
    k_with "eval Name" => ((k_here; (with_reducible show wpAny _ _ (eval (Expr.Name _ _) (compEnvC _ _ _ _)) _ _ _); k_dflt (first | (refine' LCgL.ld_own ?N ?m ?C ?x ?_ ?k ?l ?d; (case l => rfl); (case k => rfl); (case d => decide); (case N => k_asm); (case m => k_mem); (case C => assumption); (case x => assumption); k_whole) | (refine' lcf_free ?N ?c ?m ?d ?_ ?a ?b; (case b => rfl); (case a => rfl); (case N => k_asm); (case c => rfl); (case m => k_mem); (case d => k_asm); k_whole) | (refine' LCgL.ld_global ?F ?X ?T ?e ?_ ?g ?k ?x ?d; (case x => rfl); (case F => k_asm); (case X => k_asm); (case T => k_asm); (case e => k_is); (case g => rfl); (case k => rfl); (case d => decide); k_whole))))
    k_with "subscriptTail Name Name ref int" => ((k_here; (with_reducible show wpAny _ _ (subscriptTail _ _ (Value.ref _) (Value.int _ _)) _ _ _); k_dflt (refine' item_N ?N ?m ?h0 ?h1 ?hx ?_; (case N => k_asm); (case m => k_mem); (case h0 => decide); (case h1 => decide); (case hx => rfl); k_whole)))
    k_with "subscriptTail Name Constant ref int" => ((k_here; (with_reducible show wpAny _ _ (subscriptTail _ _ (Value.ref _) (Value.int _ _)) _ _ _); k_dflt (refine' item_N ?N ?m ?h0 ?h1 ?hx ?_; (case N => k_asm); (case m => k_mem); (case h0 => decide); (case h1 => decide); (case hx => rfl); k_whole)))
    k_with "CompSrc" => ((k_here; k_dflt (first | (refine LCg.CompSrc.ledger (by rfl) (by k_asm) (by k_asm) (by k_mem) (by first | size_fits | exact Nat.le_of_ble_eq_true rfl) ?_; intro g'; lcg_lit) | (refine LCg.CompSrc.range (by rfl) (by k_asm) (by k_asm) (by assumption) (by first | decide | rfl) (by first | rfl | decide) (by first | size_fits | exact Nat.le_of_ble_eq_true rfl) ?_; intro g'; lcg_lit))))
    k_with "CompRest" => ((with_unfolding_all first | (refine LCg.CompRest.succ ?_; intro v' I' oI' C' oC' D' m' h' tk' E' hv' hC' hx' F' N' off' ne'; clear ne'; (first | lcg_open hv' | (obtain ⟨t9', hv9'⟩ := hv'; subst hv9')); (try dsimp only); (try k_fold)) | refine LCg.CompRest.zero ?_))
    k_with "CompRestT" => ((with_unfolding_all first | (refine LCt.CompRestT.succ ?_; intro v' I' oI' C' oC' D' m' h' tk' E' hv' hC' hx' F' N' off' ne'; clear ne'; (first | lcg_open hv' | (obtain ⟨t9', hv9'⟩ := hv'; subst hv9')); (try dsimp only); (try k_fold)) | refine LCt.CompRestT.zero ?_))
    k_with "CompEnd" => ((refine LCg.CompEnd.intro (by assumption) (by assumption) _ (fun _ hp => hp) (by assumption) (by lcg_src) ?_))
    k_with "FinE" => (((unfold LCg.FinE); intro D' h' tk' F' N' o1'; (try simp only [List.nil_append, List.cons_append] at N'); (try dsimp only)))
    k_with "FinA" => (((unfold LCg.FinA); intro D' h' tk' F' N' o1'; (try simp only [List.nil_append, List.cons_append] at N'); (try dsimp only)))
    k_with "exec Assign cons ListComp" => ((k_here; lct_look; k_dflt (refine LCt.Assign_ListComp_T (F₀ := by k_asm) (by rfl) (by with_unfolding_all rfl) (by with_unfolding_all rfl) (by decide) (by rfl) (by decide) (by rfl) (by rfl) (by rfl) ?_)))
    k_with "CompSrcT" => ((k_here; k_dflt (first | (refine LCt.CompSrcT.ledger (by rfl) (by k_asm) (by k_asm) (by k_mem) (by first | size_fits | exact Nat.le_of_ble_eq_true rfl) ?_; intro g'; first | lct_lit | (with_unfolding_all change @LCt.CompRestT _ _ _ _ _ _ _ _ _ _ _ _ _ _ _ _ 4 _ _ _)) | (refine LCt.CompSrcT.range (by rfl) (by k_asm) (by k_asm) (by assumption) (by first | decide | rfl) (by first | rfl | decide) (by first | size_fits | exact Nat.le_of_ble_eq_true rfl) ?_; intro g'; first | lct_lit | (with_unfolding_all change @LCt.CompRestT _ _ _ _ _ _ _ _ _ _ _ _ _ _ _ _ 4 _ _ _)))))
    k_with "law box" => (first | exact bx_f3 _ | exact bx_r27 _ | exact frs_bx (by assumption) | assumption)
    k_with "tok pos" => ((dsimp only; first | assumption | exact Nat.succ_pos _))
    k_with "tok ne" => (first | assumption | exact Nat.succ_ne_zero _ | exact tok_ne (by assumption))
    k_with "law sweep0" => (((repeat (rename LCg.Off1 _ _ => zz; clear zz)); (repeat (rename LitOf _ _ _ _ _ _ _ => zz; clear zz)); (repeat (rename Obj.data _ = _ => zz; clear zz)); (repeat (rename News _ _ _ _ => zz; clear zz)); (repeat (rename Fr _ _ _ _ => zz; clear zz)); (repeat (rename CarriedAll _ _ => zz; clear zz)); (repeat (rename NewPlain _ _ _ => zz; clear zz)); (repeat (rename PySem.W.Dflts _ _ _ => zz; clear zz)); (repeat (rename Heap.CodeRec _ _ _ => zz; clear zz)); (repeat (rename _ ∧ _ => zz; clear zz)); (repeat (rename _ ≠ _ => zz; clear zz)); (repeat (rename IntsAre _ _ => zz; clear zz)); (repeat (rename @LT.lt Nat _ 0 _ => zz; clear zz)); (try dsimp only)))
    k_with "turn end" => ((dsimp only [TPost]; refine' JG_end ?F ?N ?hI ?hX ?c5 ?c4 ?c3 ?c2 ?c1 ?mP ?v1 ?v2 ?v3 ?v4 ?v5 ?hP ?hD ?n5 ?n6 ?n7 ?LO ?oP ?oD ?oX ?oI ?hit; (case hit => assumption); (case F => assumption); (case N => assumption); (case hI => k_mem); (case hX => k_mem); (case c5 => k_mem); (case c4 => k_mem); (case c3 => k_mem); (case c2 => k_mem); (case c1 => k_mem); (case mP => rfl); (case v1 => assumption); (case v2 => assumption); (case v3 => exact ⟨_, by assumption⟩); (case v4 => exact ⟨_, by assumption⟩); (case v5 => exact ⟨_, by assumption⟩); (case hP => k_mem); (case hD => k_mem); (case n5 => assumption); (case n6 => assumption); (case n7 => assumption); (case LO => assumption); (case oP => exact ⟨by k_ne, by k_ne, by k_ne, by k_ne, by k_ne, by k_ne, trivial⟩); (case oX => exact ⟨by k_ne, by k_ne, by k_ne, by k_ne, by k_ne, trivial⟩); (case oD => exact ⟨by k_ne, by k_ne, by k_ne, by k_ne, by k_ne, by k_ne, by k_ne, trivial⟩); (case oI => exact ⟨by k_ne, by k_ne, by k_ne, by k_ne, by k_ne, by k_ne, trivial⟩)))
    k_with "law sweep" => (((repeat (rename LCg.Off1 _ _ => zz; clear zz)); (repeat (rename LitOf _ _ _ _ _ _ _ => zz; clear zz)); (repeat (rename Obj.data _ = _ => zz; clear zz)); (repeat (rename News _ _ _ _ => zz; clear zz)); (repeat (rename Fr _ _ _ _ => zz; clear zz)); (repeat (rename CarriedAll _ _ => zz; clear zz)); (repeat (rename NewPlain _ _ _ => zz; clear zz)); (repeat (rename PySem.W.Dflts _ _ _ => zz; clear zz)); (repeat (rename Heap.CodeRec _ _ _ => zz; clear zz)); (repeat (rename _ < _ ∧ _ => zz; clear zz)); (repeat (rename _ ≠ _ => zz; clear zz)); (repeat (rename IntsAre _ _ => zz; clear zz)); (repeat (rename @LT.lt Nat _ 0 _ => zz; clear zz)); (try dsimp only)))
    k_with "law steps" => (repeat' ((fail_if_success (with_reducible refine Hold.mk ?_)); first | (k_unfold; (try dsimp only)) | ((with_reducible show wpAny _ _ (exec _ _) _ _ _); k_fold) | walk1 | (dsimp only; walk1) | (leave1; try dsimp only) | fail "no step"))
    k_with "execs cons" => (k_here; refine gen_toks (n := _ + 1) (Nat.succ_pos _) ?_; intro tk hpos; (rename Fr _ _ _ _ => lF9; (try dsimp only at lF9)); (try (rename Obj.data _ = Data.cell _ => ld9; dsimp only at ld9)))
    generalize hG : Int.fmod _ 3 = g
    have hg := fmod3b hG
    clear hG
    rintro m₁ nd h tk1 ⟨p, q, r, o, u, v, y, P, D, t1, t2, t3, t4, t5, t6, t7, k, n, o1, o2, o3, o4, o5, e1, n5, n6, n7, LO, rfl, oP, oD, oX, ⟨v5, hv5⟩, ⟨v4, hv4⟩, ⟨v3, hv3⟩, hv2, hv1⟩ F1 N1
    rw [pin_eq e1] at F1
    (try dsimp only at F1)
    clear e1
    (try k_unmd); (try k_fold); (try k_sweep)
    k_with "subscriptTail Name Name ref int" => (k_dflt (refine' item3_g hg ?yN ?ym ?_; (case yN => k_asm); (case ym => k_mem)))
    k_with "call type:int cons nil" => (k_dflt (refine due_int LO hg rfl ?_))
    k_with "exec While Compare cons nil" => (refine Hold.out ?_)
    walk_at "law steps"
    k_with_none
    k_with "ne" => (first | exact off1_mem (by with_reducible assumption) (_, _) (by k_mem) | exact Ne.symm (off1_mem (by with_reducible assumption) (_, _) (by k_mem)) | with_reducible exact nd1 _ | with_reducible exact nd2 _ | with_reducible exact nd3 _ | with_reducible exact nd4 _ | with_reducible exact nd5 _ | with_reducible exact nd1' _ | with_reducible exact nd2' _ | with_reducible exact nd3' _ | with_reducible exact nd4' _ | with_reducible exact nd5' _ | (refine Nat.ne_of_lt ?_; with_reducible walk_at "lt") | (refine Nat.ne_of_gt ?_; with_reducible walk_at "lt"))
    k_with "lt" => (first | assumption | exact And.left (by assumption) | exact And.left (And.right (by assumption)) | exact And.right (by assumption) | exact And.left (And.right (And.right (by assumption))) | exact And.right (And.right (by assumption)) | exact And.left (And.right (And.right (And.right (by assumption)))) | exact And.right (And.right (And.right (by assumption))) | exact And.left (And.right (And.right (And.right (And.right (by assumption))))) | exact And.right (And.right (And.right (And.right (by assumption)))) | exact And.left (And.right (And.right (And.right (And.right (And.right (by assumption)))))) | exact And.right (And.right (And.right (And.right (And.right (by assumption))))) | exact And.left (And.right (And.right (And.right (And.right (And.right (And.right (by assumption))))))) | exact And.right (And.right (And.right (And.right (And.right (And.right (by assumption)))))) | exact And.left (And.right (And.right (And.right (And.right (And.right (And.right (And.right (by assumption)))))))) | exact And.right (And.right (And.right (And.right (And.right (And.right (And.right (by assumption))))))) | exact And.left (And.right (And.right (And.right (And.right (And.right (And.right (And.right (And.right (by assumption))))))))) | exact And.right (And.right (And.right (And.right (And.right (And.right (And.right (And.right (by assumption)))))))) | exact And.left (And.right (And.right (And.right (And.right (And.right (And.right (And.right (And.right (And.right (by assumption)))))))))) | exact And.right (And.right (And.right (And.right (And.right (And.right (And.right (And.right (And.right (by assumption))))))))) | exact And.left (And.right (And.right (And.right (And.right (And.right (And.right (And.right (And.right (And.right (And.right (by assumption))))))))))) | exact And.right (And.right (And.right (And.right (And.right (And.right (And.right (And.right (And.right (And.right (by assumption)))))))))) | exact lta1 (by assumption) | exact lta2 (by assumption) | exact lta3 (by assumption) | exact lta4 (by assumption) | exact lta5 (by assumption) | exact ltd1 (by assumption) | exact ltd2 (by assumption) | exact ltd3 (by assumption) | exact ltd4 (by assumption) | exact ltd5 (by assumption) | exact ltt3 (by assumption) (by assumption) | exact ltt5 (by assumption) (by assumption))
    k_with "eval Name" => ((k_here; (with_reducible show wpAny _ _ (eval (Expr.Name _ _) (compEnvC _ _ _ _)) _ _ _); k_dflt (first | (refine' LCgL.ld_own ?N ?m ?C ?x ?_ ?k ?l ?d; (case l => rfl); (case k => rfl); (case d => decide); (case N => k_asm); (case m => k_mem); (case C => assumption); (case x => assumption); k_whole) | (refine' lcf_free ?N ?c ?m ?d ?_ ?a ?b; (case b => rfl); (case a => rfl); (case N => k_asm); (case c => rfl); (case m => k_mem); (case d => k_asm); k_whole) | (refine' LCgL.ld_global ?F ?X ?T ?e ?_ ?g ?k ?x ?d; (case x => rfl); (case F => k_asm); (case X => k_asm); (case T => k_asm); (case e => k_is); (case g => rfl); (case k => rfl); (case d => decide); k_whole))))
    k_with "subscriptTail Name Name ref int" => ((k_here; (with_reducible show wpAny _ _ (subscriptTail _ _ (Value.ref _) (Value.int _ _)) _ _ _); k_dflt (refine' item_N ?N ?m ?h0 ?h1 ?hx ?_; (case N => k_asm); (case m => k_mem); (case h0 => decide); (case h1 => decide); (case hx => rfl); k_whole)))
    k_with "subscriptTail Name Constant ref int" => ((k_here; (with_reducible show wpAny _ _ (subscriptTail _ _ (Value.ref _) (Value.int _ _)) _ _ _); k_dflt (refine' item_N ?N ?m ?h0 ?h1 ?hx ?_; (case N => k_asm); (case m => k_mem); (case h0 => decide); (case h1 => decide); (case hx => rfl); k_whole)))
    k_with "CompSrc" => ((k_here; k_dflt (first | (refine LCg.CompSrc.ledger (by rfl) (by k_asm) (by k_asm) (by k_mem) (by first | size_fits | exact Nat.le_of_ble_eq_true rfl) ?_; intro g'; lcg_lit) | (refine LCg.CompSrc.range (by rfl) (by k_asm) (by k_asm) (by assumption) (by first | decide | rfl) (by first | rfl | decide) (by first | size_fits | exact Nat.le_of_ble_eq_true rfl) ?_; intro g'; lcg_lit))))
    k_with "CompRest" => ((with_unfolding_all first | (refine LCg.CompRest.succ ?_; intro v' I' oI' C' oC' D' m' h' tk' E' hv' hC' hx' F' N' off' ne'; clear ne'; (first | lcg_open hv' | (obtain ⟨t9', hv9'⟩ := hv'; subst hv9')); (try dsimp only); (try k_fold)) | refine LCg.CompRest.zero ?_))
    k_with "CompRestT" => ((with_unfolding_all first | (refine LCt.CompRestT.succ ?_; intro v' I' oI' C' oC' D' m' h' tk' E' hv' hC' hx' F' N' off' ne'; clear ne'; (first | lcg_open hv' | (obtain ⟨t9', hv9'⟩ := hv'; subst hv9')); (try dsimp only); (try k_fold)) | refine LCt.CompRestT.zero ?_))
    k_with "CompEnd" => ((refine LCg.CompEnd.intro (by assumption) (by assumption) _ (fun _ hp => hp) (by assumption) (by lcg_src) ?_))
    k_with "FinE" => (((unfold LCg.FinE); intro D' h' tk' F' N' o1'; (try simp only [List.nil_append, List.cons_append] at N'); (try dsimp only)))
    k_with "FinA" => (((unfold LCg.FinA); intro D' h' tk' F' N' o1'; (try simp only [List.nil_append, List.cons_append] at N'); (try dsimp only)))
    k_with "exec Assign cons ListComp" => ((k_here; lct_look; k_dflt (refine LCt.Assign_ListComp_T (F₀ := by k_asm) (by rfl) (by with_unfolding_all rfl) (by with_unfolding_all rfl) (by decide) (by rfl) (by decide) (by rfl) (by rfl) (by rfl) ?_)))
    k_with "CompSrcT" => ((k_here; k_dflt (first | (refine LCt.CompSrcT.ledger (by rfl) (by k_asm) (by k_asm) (by k_mem) (by first | size_fits | exact Nat.le_of_ble_eq_true rfl) ?_; intro g'; first | lct_lit | (with_unfolding_all change @LCt.CompRestT _ _ _ _ _ _ _ _ _ _ _ _ _ _ _ _ 4 _ _ _)) | (refine LCt.CompSrcT.range (by rfl) (by k_asm) (by k_asm) (by assumption) (by first | decide | rfl) (by first | rfl | decide) (by first | size_fits | exact Nat.le_of_ble_eq_true rfl) ?_; intro g'; first | lct_lit | (with_unfolding_all change @LCt.CompRestT _ _ _ _ _ _ _ _ _ _ _ _ _ _ _ _ 4 _ _ _)))))
    k_with "law box" => (first | exact bx_f3 _ | exact bx_r27 _ | exact frs_bx (by assumption) | assumption)
    k_with "tok pos" => ((dsimp only; first | assumption | exact Nat.succ_pos _))
    k_with "tok ne" => (first | assumption | exact Nat.succ_ne_zero _ | exact tok_ne (by assumption))
    k_with "law sweep0" => (((repeat (rename LCg.Off1 _ _ => zz; clear zz)); (repeat (rename LitOf _ _ _ _ _ _ _ => zz; clear zz)); (repeat (rename Obj.data _ = _ => zz; clear zz)); (repeat (rename News _ _ _ _ => zz; clear zz)); (repeat (rename Fr _ _ _ _ => zz; clear zz)); (repeat (rename CarriedAll _ _ => zz; clear zz)); (repeat (rename NewPlain _ _ _ => zz; clear zz)); (repeat (rename PySem.W.Dflts _ _ _ => zz; clear zz)); (repeat (rename Heap.CodeRec _ _ _ => zz; clear zz)); (repeat (rename _ ∧ _ => zz; clear zz)); (repeat (rename _ ≠ _ => zz; clear zz)); (repeat (rename IntsAre _ _ => zz; clear zz)); (repeat (rename @LT.lt Nat _ 0 _ => zz; clear zz)); (try dsimp only)))
    k_with "turn end" => ((dsimp only [TPost]; refine' JG_end ?F ?N ?hI ?hX ?c5 ?c4 ?c3 ?c2 ?c1 ?mP ?v1 ?v2 ?v3 ?v4 ?v5 ?hP ?hD ?n5 ?n6 ?n7 ?LO ?oP ?oD ?oX ?oI ?hit; (case hit => assumption); (case F => assumption); (case N => assumption); (case hI => k_mem); (case hX => k_mem); (case c5 => k_mem); (case c4 => k_mem); (case c3 => k_mem); (case c2 => k_mem); (case c1 => k_mem); (case mP => rfl); (case v1 => assumption); (case v2 => assumption); (case v3 => exact ⟨_, by assumption⟩); (case v4 => exact ⟨_, by assumption⟩); (case v5 => exact ⟨_, by assumption⟩); (case hP => k_mem); (case hD => k_mem); (case n5 => assumption); (case n6 => assumption); (case n7 => assumption); (case LO => assumption); (case oP => exact ⟨by k_ne, by k_ne, by k_ne, by k_ne, by k_ne, by k_ne, trivial⟩); (case oX => exact ⟨by k_ne, by k_ne, by k_ne, by k_ne, by k_ne, trivial⟩); (case oD => exact ⟨by k_ne, by k_ne, by k_ne, by k_ne, by k_ne, by k_ne, by k_ne, trivial⟩); (case oI => exact ⟨by k_ne, by k_ne, by k_ne, by k_ne, by k_ne, by k_ne, trivial⟩)))
    k_with "law sweep" => (((repeat (rename LCg.Off1 _ _ => zz; clear zz)); (repeat (rename LitOf _ _ _ _ _ _ _ => zz; clear zz)); (repeat (rename Obj.data _ = _ => zz; clear zz)); (repeat (rename News _ _ _ _ => zz; clear zz)); (repeat (rename Fr _ _ _ _ => zz; clear zz)); (repeat (rename CarriedAll _ _ => zz; clear zz)); (repeat (rename NewPlain _ _ _ => zz; clear zz)); (repeat (rename PySem.W.Dflts _ _ _ => zz; clear zz)); (repeat (rename Heap.CodeRec _ _ _ => zz; clear zz)); (repeat (rename _ < _ ∧ _ => zz; clear zz)); (repeat (rename _ ≠ _ => zz; clear zz)); (repeat (rename IntsAre _ _ => zz; clear zz)); (repeat (rename @LT.lt Nat _ 0 _ => zz; clear zz)); (try dsimp only)))
    k_with "law steps" => (repeat' ((fail_if_success (with_reducible refine Hold.mk ?_)); first | (k_unfold; (try dsimp only)) | ((with_reducible show wpAny _ _ (exec _ _) _ _ _); k_fold) | walk1 | (dsimp only; walk1) | (leave1; try dsimp only) | fail "no step"))
    refine Hold.mk ?_
    (try dsimp only)
    rename 0 ≤ _ ∧ _ < 3 => hg
    k_dflt (refine' while_law ?zbhE hg ?zbF ?zbN ?zbc5 ?zbc4 ?zbc3 ?zbc2 ?zbc1 ?zbmP ?zbmD ?zbmQ ?zbv1 ?zbv2 ?zbv3 ?zbv4 ?zbv5 ?zbhP ?zbhD ?zbhQ ?zbn5 ?zbn6 ?zbn7 ?zbLO ?zbe0 ?zbhv ?zboP ?zboD ?zboQ ?zbturn; (case zbF => assumption); (case zbN => assumption); (case zbc5 => k_mem); (case zbc4 => k_mem); (case zbc3 => k_mem); (case zbc2 => k_mem); (case zbc1 => k_mem); (case zbmP => rfl); (case zbmD => rfl); (case zbmQ => rfl); (case zbv1 => assumption); (case zbv2 => assumption); (case zbv3 => exact ⟨_, by assumption⟩); (case zbv4 => exact ⟨_, by assumption⟩); (case zbv5 => exact ⟨_, by assumption⟩); (case zbhP => k_mem); (case zbhD => k_mem); (case zbhQ => k_mem); (case zbn5 => assumption); (case zbn6 => assumption); (case zbn7 => assumption); (case zbLO => assumption); (case zbe0 => exact rfl); (case zbhv => exact rfl); (case zboP => exact ⟨by k_ne, by k_ne, by k_ne, by k_ne, by k_ne, by k_ne, trivial⟩); (case zboQ => exact ⟨by k_ne, by k_ne, by k_ne, by k_ne, by k_ne, trivial⟩); (case zboD => exact ⟨by k_ne, by k_ne, by k_ne, by k_ne, by k_ne, by k_ne, by k_ne, trivial⟩); (case zbhE => first | passes_own | with_unfolding_all passes_own))
    walk_at "law sweep"
    k_with_none
    k_with "ne" => (first | exact off1_mem (by with_reducible assumption) (_, _) (by k_mem) | exact Ne.symm (off1_mem (by with_reducible assumption) (_, _) (by k_mem)) | with_reducible exact nd1 _ | with_reducible exact nd2 _ | with_reducible exact nd3 _ | with_reducible exact nd4 _ | with_reducible exact nd5 _ | with_reducible exact nd1' _ | with_reducible exact nd2' _ | with_reducible exact nd3' _ | with_reducible exact nd4' _ | with_reducible exact nd5' _ | (refine Nat.ne_of_lt ?_; with_reducible walk_at "lt") | (refine Nat.ne_of_gt ?_; with_reducible walk_at "lt"))
    k_with "lt" => (first | assumption | exact And.left (by assumption) | exact And.left (And.right (by assumption)) | exact And.right (by assumption) | exact And.left (And.right (And.right (by assumption))) | exact And.right (And.right (by assumption)) | exact And.left (And.right (And.right (And.right (by assumption)))) | exact And.right (And.right (And.right (by assumption))) | exact And.left (And.right (And.right (And.right (And.right (by assumption))))) | exact And.right (And.right (And.right (And.right (by assumption)))) | exact And.left (And.right (And.right (And.right (And.right (And.right (by assumption)))))) | exact And.right (And.right (And.right (And.right (And.right (by assumption))))) | exact And.left (And.right (And.right (And.right (And.right (And.right (And.right (by assumption))))))) | exact And.right (And.right (And.right (And.right (And.right (And.right (by assumption)))))) | exact And.left (And.right (And.right (And.right (And.right (And.right (And.right (And.right (by assumption)))))))) | exact And.right (And.right (And.right (And.right (And.right (And.right (And.right (by assumption))))))) | exact And.left (And.right (And.right (And.right (And.right (And.right (And.right (And.right (And.right (by assumption))))))))) | exact And.right (And.right (And.right (And.right (And.right (And.right (And.right (And.right (by assumption)))))))) | exact And.left (And.right (And.right (And.right (And.right (And.right (And.right (And.right (And.right (And.right (by assumption)))))))))) | exact And.right (And.right (And.right (And.right (And.right (And.right (And.right (And.right (And.right (by assumption))))))))) | exact And.left (And.right (And.right (And.right (And.right (And.right (And.right (And.right (And.right (And.right (And.right (by assumption))))))))))) | exact And.right (And.right (And.right (And.right (And.right (And.right (And.right (And.right (And.right (And.right (by assumption)))))))))) | exact lta1 (by assumption) | exact lta2 (by assumption) | exact lta3 (by assumption) | exact lta4 (by assumption) | exact lta5 (by assumption) | exact ltd1 (by assumption) | exact ltd2 (by assumption) | exact ltd3 (by assumption) | exact ltd4 (by assumption) | exact ltd5 (by assumption) | exact ltt3 (by assumption) (by assumption) | exact ltt5 (by assumption) (by assumption))
    k_with "eval Name" => ((k_here; (with_reducible show wpAny _ _ (eval (Expr.Name _ _) (compEnvC _ _ _ _)) _ _ _); k_dflt (first | (refine' LCgL.ld_own ?N ?m ?C ?x ?_ ?k ?l ?d; (case l => rfl); (case k => rfl); (case d => decide); (case N => k_asm); (case m => k_mem); (case C => assumption); (case x => assumption); k_whole) | (refine' lcf_free ?N ?c ?m ?d ?_ ?a ?b; (case b => rfl); (case a => rfl); (case N => k_asm); (case c => rfl); (case m => k_mem); (case d => k_asm); k_whole) | (refine' LCgL.ld_global ?F ?X ?T ?e ?_ ?g ?k ?x ?d; (case x => rfl); (case F => k_asm); (case X => k_asm); (case T => k_asm); (case e => k_is); (case g => rfl); (case k => rfl); (case d => decide); k_whole))))
    k_with "subscriptTail Name Name ref int" => ((k_here; (with_reducible show wpAny _ _ (subscriptTail _ _ (Value.ref _) (Value.int _ _)) _ _ _); k_dflt (refine' item_N ?N ?m ?h0 ?h1 ?hx ?_; (case N => k_asm); (case m => k_mem); (case h0 => decide); (case h1 => decide); (case hx => rfl); k_whole)))
    k_with "subscriptTail Name Constant ref int" => ((k_here; (with_reducible show wpAny _ _ (subscriptTail _ _ (Value.ref _) (Value.int _ _)) _ _ _); k_dflt (refine' item_N ?N ?m ?h0 ?h1 ?hx ?_; (case N => k_asm); (case m => k_mem); (case h0 => decide); (case h1 => decide); (case hx => rfl); k_whole)))
    k_with "CompSrc" => ((k_here; k_dflt (first | (refine LCg.CompSrc.ledger (by rfl) (by k_asm) (by k_asm) (by k_mem) (by first | size_fits | exact Nat.le_of_ble_eq_true rfl) ?_; intro g'; lcg_lit) | (refine LCg.CompSrc.range (by rfl) (by k_asm) (by k_asm) (by assumption) (by first | decide | rfl) (by first | rfl | decide) (by first | size_fits | exact Nat.le_of_ble_eq_true rfl) ?_; intro g'; lcg_lit))))
    k_with "CompRest" => ((with_unfolding_all first | (refine LCg.CompRest.succ ?_; intro v' I' oI' C' oC' D' m' h' tk' E' hv' hC' hx' F' N' off' ne'; clear ne'; (first | lcg_open hv' | (obtain ⟨t9', hv9'⟩ := hv'; subst hv9')); (try dsimp only); (try k_fold)) | refine LCg.CompRest.zero ?_))
    k_with "CompRestT" => ((with_unfolding_all first | (refine LCt.CompRestT.succ ?_; intro v' I' oI' C' oC' D' m' h' tk' E' hv' hC' hx' F' N' off' ne'; clear ne'; (first | lcg_open hv' | (obtain ⟨t9', hv9'⟩ := hv'; subst hv9')); (try dsimp only); (try k_fold)) | refine LCt.CompRestT.zero ?_))
    k_with "CompEnd" => ((refine LCg.CompEnd.intro (by assumption) (by assumption) _ (fun _ hp => hp) (by assumption) (by lcg_src) ?_))
    k_with "FinE" => (((unfold LCg.FinE); intro D' h' tk' F' N' o1'; (try simp only [List.nil_append, List.cons_append] at N'); (try dsimp only)))
    k_with "FinA" => (((unfold LCg.FinA); intro D' h' tk' F' N' o1'; (try simp only [List.nil_append, List.cons_append] at N'); (try dsimp only)))
    k_with "exec Assign cons ListComp" => ((k_here; lct_look; k_dflt (refine LCt.Assign_ListComp_T (F₀ := by k_asm) (by rfl) (by with_unfolding_all rfl) (by with_unfolding_all rfl) (by decide) (by rfl) (by decide) (by rfl) (by rfl) (by rfl) ?_)))
    k_with "CompSrcT" => ((k_here; k_dflt (first | (refine LCt.CompSrcT.ledger (by rfl) (by k_asm) (by k_asm) (by k_mem) (by first | size_fits | exact Nat.le_of_ble_eq_true rfl) ?_; intro g'; first | lct_lit | (with_unfolding_all change @LCt.CompRestT _ _ _ _ _ _ _ _ _ _ _ _ _ _ _ _ 4 _ _ _)) | (refine LCt.CompSrcT.range (by rfl) (by k_asm) (by k_asm) (by assumption) (by first | decide | rfl) (by first | rfl | decide) (by first | size_fits | exact Nat.le_of_ble_eq_true rfl) ?_; intro g'; first | lct_lit | (with_unfolding_all change @LCt.CompRestT _ _ _ _ _ _ _ _ _ _ _ _ _ _ _ _ 4 _ _ _)))))
    k_with "law box" => (first | exact bx_f3 _ | exact bx_r27 _ | exact frs_bx (by assumption) | assumption)
    k_with "tok pos" => ((dsimp only; first | assumption | exact Nat.succ_pos _))
    k_with "tok ne" => (first | assumption | exact Nat.succ_ne_zero _ | exact tok_ne (by assumption))
    k_with "law sweep0" => (((repeat (rename LCg.Off1 _ _ => zz; clear zz)); (repeat (rename LitOf _ _ _ _ _ _ _ => zz; clear zz)); (repeat (rename Obj.data _ = _ => zz; clear zz)); (repeat (rename News _ _ _ _ => zz; clear zz)); (repeat (rename Fr _ _ _ _ => zz; clear zz)); (repeat (rename CarriedAll _ _ => zz; clear zz)); (repeat (rename NewPlain _ _ _ => zz; clear zz)); (repeat (rename PySem.W.Dflts _ _ _ => zz; clear zz)); (repeat (rename Heap.CodeRec _ _ _ => zz; clear zz)); (repeat (rename _ ∧ _ => zz; clear zz)); (repeat (rename _ ≠ _ => zz; clear zz)); (repeat (rename IntsAre _ _ => zz; clear zz)); (repeat (rename @LT.lt Nat _ 0 _ => zz; clear zz)); (try dsimp only)))
    k_with "turn end" => ((dsimp only [TPost]; refine' JG_end ?F ?N ?hI ?hX ?c5 ?c4 ?c3 ?c2 ?c1 ?mP ?v1 ?v2 ?v3 ?v4 ?v5 ?hP ?hD ?n5 ?n6 ?n7 ?LO ?oP ?oD ?oX ?oI ?hit; (case hit => assumption); (case F => assumption); (case N => assumption); (case hI => k_mem); (case hX => k_mem); (case c5 => k_mem); (case c4 => k_mem); (case c3 => k_mem); (case c2 => k_mem); (case c1 => k_mem); (case mP => rfl); (case v1 => assumption); (case v2 => assumption); (case v3 => exact ⟨_, by assumption⟩); (case v4 => exact ⟨_, by assumption⟩); (case v5 => exact ⟨_, by assumption⟩); (case hP => k_mem); (case hD => k_mem); (case n5 => assumption); (case n6 => assumption); (case n7 => assumption); (case LO => assumption); (case oP => exact ⟨by k_ne, by k_ne, by k_ne, by k_ne, by k_ne, by k_ne, trivial⟩); (case oX => exact ⟨by k_ne, by k_ne, by k_ne, by k_ne, by k_ne, trivial⟩); (case oD => exact ⟨by k_ne, by k_ne, by k_ne, by k_ne, by k_ne, by k_ne, by k_ne, trivial⟩); (case oI => exact ⟨by k_ne, by k_ne, by k_ne, by k_ne, by k_ne, by k_ne, trivial⟩)))
    k_with "law sweep" => (((repeat (rename LCg.Off1 _ _ => zz; clear zz)); (repeat (rename LitOf _ _ _ _ _ _ _ => zz; clear zz)); (repeat (rename Obj.data _ = _ => zz; clear zz)); (repeat (rename News _ _ _ _ => zz; clear zz)); (repeat (rename Fr _ _ _ _ => zz; clear zz)); (repeat (rename CarriedAll _ _ => zz; clear zz)); (repeat (rename NewPlain _ _ _ => zz; clear zz)); (repeat (rename PySem.W.Dflts _ _ _ => zz; clear zz)); (repeat (rename Heap.CodeRec _ _ _ => zz; clear zz)); (repeat (rename _ < _ ∧ _ => zz; clear zz)); (repeat (rename _ ≠ _ => zz; clear zz)); (repeat (rename IntsAre _ _ => zz; clear zz)); (repeat (rename @LT.lt Nat _ 0 _ => zz; clear zz)); (try dsimp only)))
    k_with "law steps" => (repeat' ((fail_if_success (with_reducible refine Hold.mk ?_)); first | (k_unfold; (try dsimp only)) | ((with_reducible show wpAny _ _ (exec _ _) _ _ _); k_fold) | walk1 | (dsimp only; walk1) | (leave1; try dsimp only) | fail "no step"))
    k_with "execs cons" => (k_here; refine gen_toks (n := _ + 1) (Nat.succ_pos _) ?_; intro tk hpos; (rename Fr _ _ _ _ => lF9; (try dsimp only at lF9)); (try (rename Obj.data _ = Data.cell _ => ld9; dsimp only at ld9)))
    rename 0 ≤ _ ∧ _ < 3 => hg
    generalize hN : nl g _ _ _ _ = n0
    have hn0 := nl_nn hN
    clear hN
    rintro i m nd h tk1 ⟨p, q, r, o, x, y, z, P, D, Q, t1, t2, t3, t4, t5, t6, t7, k, n, kk, vs, o1, o2, o3, o4, o5, e1, e2, e3, n5, n6, n7, LO, hle, hsum, hi, rfl, oP, oD, oQ, ⟨v5, hv5⟩, ⟨v4, hv4⟩, ⟨v3, hv3⟩, hv2, hv1⟩ F1 N1
    rw [pin_eq e3, pin_eq e2, pin_eq e1] at F1
    (try dsimp only at F1)
    clear e1 e2 e3
    obtain ⟨hk0, hk1, hk2, hkg, hb0, hb1, hb2, hlen⟩ := turn_facts LO hg hle hi hn0
    obtain ⟨ex0, ex1, ex2⟩ := lit_self LO
    (try k_unmd); (try k_fold); (try k_sweep)
    k_with "call builtin:len cons nil" => (k_dflt (refine len_list (News.isList (by k_asm) (by k_mem)) (by simp only [List.size_toArray]; omega) ?_))
    k_with "WhlIf" => (refine WhlIf.yes (by simp only [List.size_toArray, decide_eq_true_eq]; omega) ?_)
    k_with "call ref" => (k_dflt (first
      | ((with_reducible show wpAny _ _ (call (Value.ref 28) _) _ _ _); refine' useop1 (rgb_lit _ _ _ _ LO) ?hp0 ?k1 ?k2 ?k3 ?k4 ?k5 ?k6 ?k7 ?k8 ?k9 ?_; (case hp0 => walk_at "tok pos"); (case k1 => k_asm); (case k2 => k_asm); (case k3 => k_asm); (case k4 => k_asm); (case k5 => k_asm); (case k6 => first | exact rfl | assumption); (case k7 => ktr_room); (case k8 => ktr_units); (case k9 => exact List.forall_mem_nil _); k_whole; rintro r9 _ h9 tk9 ⟨hh, hs, hv, w1, w2, w3, w4, HO, rfl⟩ hp9 F9 N9 O9; (try dsimp only); (try k_fold); (try k_sweep); walk_say "CONTRACT rgb")
      | ((with_reducible show wpAny _ _ (call (Value.ref 35) _) _ _ _); refine' useop1 (hsv_lit _ _ _ _ HO) ?hp0 ?k1 ?k2 ?k3 ?k4 ?k5 ?k6 ?k7 ?k8 ?k9 ?_; (case hp0 => walk_at "tok pos"); (case k1 => k_asm); (case k2 => k_asm); (case k3 => k_asm); (case k4 => k_asm); (case k5 => k_asm); (case k6 => first | exact rfl | assumption); (case k7 => ktr_room); (case k8 => ktr_units); (case k9 => exact List.forall_mem_nil _); k_whole; rintro r9 _ h9 tk9 ⟨xa, xb, xc, w1, w2, w3, w4, nk0, nk1, nk2, rfl⟩ hp9 F9 N9 O9; (try dsimp only); (try k_fold); (try k_sweep); walk_say "CONTRACT hsv")
      | (refine Hold.out ?_)))
    k_with "eval ListComp" => ((with_reducible show wpAny _ _ (eval (PySem.Expr.ListComp (PySem.Expr.Call _ _ _ _) _ _ _) _) _ _ _); k_dflt (refine ListComp_tup (F₀ := by k_asm) (by rfl) (by decide) (by rfl) (by decide) (by rfl) ?_))
    k_with "SrcTup" => (k_dflt (refine SrcTup.three (by rfl) (by k_asm) (by k_asm) (by k_mem) ?_; intro g'))
    k_with "call type:int cons nil" => (k_dflt (first | refine int_num nk0 rfl ?_ | refine int_num nk1 rfl ?_ | refine int_num nk2 rfl ?_))
    k_with "binaryOp Div int int" => (k_dflt (refine div16_ii (by assumption) rfl ?_))
    k_with "compareOp NotEq ref ref" => (k_dflt (refine ne_fl3 (News.isList (by k_asm) (by k_mem)) (News.isList (by k_asm) (by k_mem)) (by k_units) (by walk_at "tok ne") (by walk_at "tok ne") (by walk_at "tok ne") (by walk_at "tok ne") (by walk_at "tok ne") (by walk_at "tok ne") (none_booked (by k_asm) (by k_asm)) (by assumption) (by assumption) (by assumption) ?_))
    k_with "compareOp NotEq float float" => (k_dflt (refine ne_known HO.mx ?_))
    k_with "call builtin:max cons nil" => (k_dflt (refine' max_listN rfl ?yF ?yN ?yl ?yf ?yd ?_; (case yF => k_asm); (case yN => k_asm); (case yl => exact News.isList (by k_asm) (by k_mem)); (case yf => exact fl3_are); (case yd => exact Nat.succ_pos _)); intro h9 tk9 t9 F9 N9; (try k_sweep))
    walk_at "law steps"
    k_with_none
    k_with "ne" => (first | exact off1_mem (by with_reducible assumption) (_, _) (by k_mem) | exact Ne.symm (off1_mem (by with_reducible assumption) (_, _) (by k_mem)) | with_reducible exact nd1 _ | with_reducible exact nd2 _ | with_reducible exact nd3 _ | with_reducible exact nd4 _ | with_reducible exact nd5 _ | with_reducible exact nd1' _ | with_reducible exact nd2' _ | with_reducible exact nd3' _ | with_reducible exact nd4' _ | with_reducible exact nd5' _ | (refine Nat.ne_of_lt ?_; with_reducible walk_at "lt") | (refine Nat.ne_of_gt ?_; with_reducible walk_at "lt"))
    k_with "lt" => (first | assumption | exact And.left (by assumption) | exact And.left (And.right (by assumption)) | exact And.right (by assumption) | exact And.left (And.right (And.right (by assumption))) | exact And.right (And.right (by assumption)) | exact And.left (And.right (And.right (And.right (by assumption)))) | exact And.right (And.right (And.right (by assumption))) | exact And.left (And.right (And.right (And.right (And.right (by assumption))))) | exact And.right (And.right (And.right (And.right (by assumption)))) | exact And.left (And.right (And.right (And.right (And.right (And.right (by assumption)))))) | exact And.right (And.right (And.right (And.right (And.right (by assumption))))) | exact And.left (And.right (And.right (And.right (And.right (And.right (And.right (by assumption))))))) | exact And.right (And.right (And.right (And.right (And.right (And.right (by assumption)))))) | exact And.left (And.right (And.right (And.right (And.right (And.right (And.right (And.right (by assumption)))))))) | exact And.right (And.right (And.right (And.right (And.right (And.right (And.right (by assumption))))))) | exact And.left (And.right (And.right (And.right (And.right (And.right (And.right (And.right (And.right (by assumption))))))))) | exact And.right (And.right (And.right (And.right (And.right (And.right (And.right (And.right (by assumption)))))))) | exact And.left (And.right (And.right (And.right (And.right (And.right (And.right (And.right (And.right (And.right (by assumption)))))))))) | exact And.right (And.right (And.right (And.right (And.right (And.right (And.right (And.right (And.right (by assumption))))))))) | exact And.left (And.right (And.right (And.right (And.right (And.right (And.right (And.right (And.right (And.right (And.right (by assumption))))))))))) | exact And.right (And.right (And.right (And.right (And.right (And.right (And.right (And.right (And.right (And.right (by assumption)))))))))) | exact lta1 (by assumption) | exact lta2 (by assumption) | exact lta3 (by assumption) | exact lta4 (by assumption) | exact lta5 (by assumption) | exact ltd1 (by assumption) | exact ltd2 (by assumption) | exact ltd3 (by assumption) | exact ltd4 (by assumption) | exact ltd5 (by assumption) | exact ltt3 (by assumption) (by assumption) | exact ltt5 (by assumption) (by assumption))
    k_with "eval Name" => ((k_here; (with_reducible show wpAny _ _ (eval (Expr.Name _ _) (compEnvC _ _ _ _)) _ _ _); k_dflt (first | (refine' LCgL.ld_own ?N ?m ?C ?x ?_ ?k ?l ?d; (case l => rfl); (case k => rfl); (case d => decide); (case N => k_asm); (case m => k_mem); (case C => assumption); (case x => assumption); k_whole) | (refine' lcf_free ?N ?c ?m ?d ?_ ?a ?b; (case b => rfl); (case a => rfl); (case N => k_asm); (case c => rfl); (case m => k_mem); (case d => k_asm); k_whole) | (refine' LCgL.ld_global ?F ?X ?T ?e ?_ ?g ?k ?x ?d; (case x => rfl); (case F => k_asm); (case X => k_asm); (case T => k_asm); (case e => k_is); (case g => rfl); (case k => rfl); (case d => decide); k_whole))))
    k_with "subscriptTail Name Name ref int" => ((k_here; (with_reducible show wpAny _ _ (subscriptTail _ _ (Value.ref _) (Value.int _ _)) _ _ _); k_dflt (refine' item_N ?N ?m ?h0 ?h1 ?hx ?_; (case N => k_asm); (case m => k_mem); (case h0 => decide); (case h1 => decide); (case hx => rfl); k_whole)))
    k_with "subscriptTail Name Constant ref int" => ((k_here; (with_reducible show wpAny _ _ (subscriptTail _ _ (Value.ref _) (Value.int _ _)) _ _ _); k_dflt (refine' item_N ?N ?m ?h0 ?h1 ?hx ?_; (case N => k_asm); (case m => k_mem); (case h0 => decide); (case h1 => decide); (case hx => rfl); k_whole)))
    k_with "CompSrc" => ((k_here; k_dflt (first | (refine LCg.CompSrc.ledger (by rfl) (by k_asm) (by k_asm) (by k_mem) (by first | size_fits | exact Nat.le_of_ble_eq_true rfl) ?_; intro g'; lcg_lit) | (refine LCg.CompSrc.range (by rfl) (by k_asm) (by k_asm) (by assumption) (by first | decide | rfl) (by first | rfl | decide) (by first | size_fits | exact Nat.le_of_ble_eq_true rfl) ?_; intro g'; lcg_lit))))
    k_with "CompRest" => ((with_unfolding_all first | (refine LCg.CompRest.succ ?_; intro v' I' oI' C' oC' D' m' h' tk' E' hv' hC' hx' F' N' off' ne'; clear ne'; (first | lcg_open hv' | (obtain ⟨t9', hv9'⟩ := hv'; subst hv9')); (try dsimp only); (try k_fold)) | refine LCg.CompRest.zero ?_))
    k_with "CompRestT" => ((with_unfolding_all first | (refine LCt.CompRestT.succ ?_; intro v' I' oI' C' oC' D' m' h' tk' E' hv' hC' hx' F' N' off' ne'; clear ne'; (first | lcg_open hv' | (obtain ⟨t9', hv9'⟩ := hv'; subst hv9')); (try dsimp only); (try k_fold)) | refine LCt.CompRestT.zero ?_))
    k_with "CompEnd" => ((refine LCg.CompEnd.intro (by assumption) (by assumption) _ (fun _ hp => hp) (by assumption) (by lcg_src) ?_))
    k_with "FinE" => (((unfold LCg.FinE); intro D' h' tk' F' N' o1'; (try simp only [List.nil_append, List.cons_append] at N'); (try dsimp only)))
    k_with "FinA" => (((unfold LCg.FinA); intro D' h' tk' F' N' o1'; (try simp only [List.nil_append, List.cons_append] at N'); (try dsimp only)))
    k_with "exec Assign cons ListComp" => ((k_here; lct_look; k_dflt (refine LCt.Assign_ListComp_T (F₀ := by k_asm) (by rfl) (by with_unfolding_all rfl) (by with_unfolding_all rfl) (by decide) (by rfl) (by decide) (by rfl) (by rfl) (by rfl) ?_)))
    k_with "CompSrcT" => ((k_here; k_dflt (first | (refine LCt.CompSrcT.ledger (by rfl) (by k_asm) (by k_asm) (by k_mem) (by first | size_fits | exact Nat.le_of_ble_eq_true rfl) ?_; intro g'; first | lct_lit | (with_unfolding_all change @LCt.CompRestT _ _ _ _ _ _ _ _ _ _ _ _ _ _ _ _ 4 _ _ _)) | (refine LCt.CompSrcT.range (by rfl) (by k_asm) (by k_asm) (by assumption) (by first | decide | rfl) (by first | rfl | decide) (by first | size_fits | exact Nat.le_of_ble_eq_true rfl) ?_; intro g'; first | lct_lit | (with_unfolding_all change @LCt.CompRestT _ _ _ _ _ _ _ _ _ _ _ _ _ _ _ _ 4 _ _ _)))))
    k_with "law box" => (first | exact bx_f3 _ | exact bx_r27 _ | exact frs_bx (by assumption) | assumption)
    k_with "tok pos" => ((dsimp only; first | assumption | exact Nat.succ_pos _))
    k_with "tok ne" => (first | assumption | exact Nat.succ_ne_zero _ | exact tok_ne (by assumption))
    k_with "law sweep0" => (((repeat (rename LCg.Off1 _ _ => zz; clear zz)); (repeat (rename LitOf _ _ _ _ _ _ _ => zz; clear zz)); (repeat (rename Obj.data _ = _ => zz; clear zz)); (repeat (rename News _ _ _ _ => zz; clear zz)); (repeat (rename Fr _ _ _ _ => zz; clear zz)); (repeat (rename CarriedAll _ _ => zz; clear zz)); (repeat (rename NewPlain _ _ _ => zz; clear zz)); (repeat (rename PySem.W.Dflts _ _ _ => zz; clear zz)); (repeat (rename Heap.CodeRec _ _ _ => zz; clear zz)); (repeat (rename _ ∧ _ => zz; clear zz)); (repeat (rename _ ≠ _ => zz; clear zz)); (repeat (rename IntsAre _ _ => zz; clear zz)); (repeat (rename @LT.lt Nat _ 0 _ => zz; clear zz)); (try dsimp only)))
    k_with "turn end" => ((dsimp only [TPost]; refine' JG_end ?F ?N ?hI ?hX ?c5 ?c4 ?c3 ?c2 ?c1 ?mP ?v1 ?v2 ?v3 ?v4 ?v5 ?hP ?hD ?n5 ?n6 ?n7 ?LO ?oP ?oD ?oX ?oI ?hit; (case hit => assumption); (case F => assumption); (case N => assumption); (case hI => k_mem); (case hX => k_mem); (case c5 => k_mem); (case c4 => k_mem); (case c3 => k_mem); (case c2 => k_mem); (case c1 => k_mem); (case mP => rfl); (case v1 => assumption); (case v2 => assumption); (case v3 => exact ⟨_, by assumption⟩); (case v4 => exact ⟨_, by assumption⟩); (case v5 => exact ⟨_, by assumption⟩); (case hP => k_mem); (case hD => k_mem); (case n5 => assumption); (case n6 => assumption); (case n7 => assumption); (case LO => assumption); (case oP => exact ⟨by k_ne, by k_ne, by k_ne, by k_ne, by k_ne, by k_ne, trivial⟩); (case oX => exact ⟨by k_ne, by k_ne, by k_ne, by k_ne, by k_ne, trivial⟩); (case oD => exact ⟨by k_ne, by k_ne, by k_ne, by k_ne, by k_ne, by k_ne, by k_ne, trivial⟩); (case oI => exact ⟨by k_ne, by k_ne, by k_ne, by k_ne, by k_ne, by k_ne, trivial⟩)))
    k_with "law sweep" => (((repeat (rename LCg.Off1 _ _ => zz; clear zz)); (repeat (rename LitOf _ _ _ _ _ _ _ => zz; clear zz)); (repeat (rename Obj.data _ = _ => zz; clear zz)); (repeat (rename News _ _ _ _ => zz; clear zz)); (repeat (rename Fr _ _ _ _ => zz; clear zz)); (repeat (rename CarriedAll _ _ => zz; clear zz)); (repeat (rename NewPlain _ _ _ => zz; clear zz)); (repeat (rename PySem.W.Dflts _ _ _ => zz; clear zz)); (repeat (rename Heap.CodeRec _ _ _ => zz; clear zz)); (repeat (rename _ < _ ∧ _ => zz; clear zz)); (repeat (rename _ ≠ _ => zz; clear zz)); (repeat (rename IntsAre _ _ => zz; clear zz)); (repeat (rename @LT.lt Nat _ 0 _ => zz; clear zz)); (try dsimp only)))
    k_with "law steps" => (repeat' ((fail_if_success (with_reducible refine Hold.mk ?_)); first | (k_unfold; (try dsimp only)) | ((with_reducible show wpAny _ _ (exec _ _) _ _ _); k_fold) | walk1 | (dsimp only; walk1) | (leave1; try dsimp only) | fail "no step"))
    k_with "execs cons" => (k_here; refine gen_toks (n := _ + 1) (Nat.succ_pos _) ?_; intro tk hpos; (rename Fr _ _ _ _ => lF9; (try dsimp only at lF9)); (try (rename Obj.data _ = Data.cell _ => ld9; dsimp only at ld9)))
    refine Hold.mk ?_
    rename 0 ≤ _ ∧ _ < 3 => hg
    rename nl 0 _ _ _ _ ∈ k16 => hk0
    rename nl 1 _ _ _ _ ∈ k16 => hk1
    rename nl 2 _ _ _ _ ∈ k16 => hk2
    rename 0 ≤ nl 0 _ _ _ _ ∧ _ => hb0
    rename 0 ≤ nl 1 _ _ _ _ ∧ _ => hb1
    rename 0 ≤ nl 2 _ _ _ _ ∧ _ => hb2
    k_with "call ref" => (k_dflt ((with_reducible show wpAny _ _ (call (Value.ref 49) _) _ _ _); refine' usevp (ap_call _ _ _ _ _ _ _ _ hb0 hb1 hb2) ?hp0 ?k1 ?k2 ?k3 ?k4 ?k5 ?k6 ?k7 ?k8 ?k9 ?_; (case hp0 => walk_at "tok pos"); (case k1 => k_asm); (case k2 => k_asm); (case k3 => k_asm); (case k4 => k_asm); (case k5 => k_asm); (case k6 => first | exact rfl | assumption); (case k7 => ktr_room); (case k8 => ktr_units); (case k9 => exact List.forall_mem_nil _); k_whole; intro t9 h9 tk9 hp9 F9 N9; (try dsimp only); (try k_fold); (try k_sweep); walk_say "CONTRACT ap"))
    k_with "subscriptTail Name BinOp bytes int" => (k_dflt (refine word_item hg hk0 hk1 hk2 ?_; intro t9 k9))
    k_with "subscriptTail Name Name ref int" => (k_dflt (refine' part_item hg ?yN ?ym ?_; (case yN => k_asm); (case ym => k_mem); intro t9))
    k_with "exec For Name Call cons nil" => (refine Hold.out ?_)
    walk_at "law steps"
    · k_with_none
      k_with "ne" => (first | exact off1_mem (by with_reducible assumption) (_, _) (by k_mem) | exact Ne.symm (off1_mem (by with_reducible assumption) (_, _) (by k_mem)) | with_reducible exact nd1 _ | with_reducible exact nd2 _ | with_reducible exact nd3 _ | with_reducible exact nd4 _ | with_reducible exact nd5 _ | with_reducible exact nd1' _ | with_reducible exact nd2' _ | with_reducible exact nd3' _ | with_reducible exact nd4' _ | with_reducible exact nd5' _ | (refine Nat.ne_of_lt ?_; with_reducible walk_at "lt") | (refine Nat.ne_of_gt ?_; with_reducible walk_at "lt"))
      k_with "lt" => (first | assumption | exact And.left (by assumption) | exact And.left (And.right (by assumption)) | exact And.right (by assumption) | exact And.left (And.right (And.right (by assumption))) | exact And.right (And.right (by assumption)) | exact And.left (And.right (And.right (And.right (by assumption)))) | exact And.right (And.right (And.right (by assumption))) | exact And.left (And.right (And.right (And.right (And.right (by assumption))))) | exact And.right (And.right (And.right (And.right (by assumption)))) | exact And.left (And.right (And.right (And.right (And.right (And.right (by assumption)))))) | exact And.right (And.right (And.right (And.right (And.right (by assumption))))) | exact And.left (And.right (And.right (And.right (And.right (And.right (And.right (by assumption))))))) | exact And.right (And.right (And.right (And.right (And.right (And.right (by assumption)))))) | exact And.left (And.right (And.right (And.right (And.right (And.right (And.right (And.right (by assumption)))))))) | exact And.right (And.right (And.right (And.right (And.right (And.right (And.right (by assumption))))))) | exact And.left (And.right (And.right (And.right (And.right (And.right (And.right (And.right (And.right (by assumption))))))))) | exact And.right (And.right (And.right (And.right (And.right (And.right (And.right (And.right (by assumption)))))))) | exact And.left (And.right (And.right (And.right (And.right (And.right (And.right (And.right (And.right (And.right (by assumption)))))))))) | exact And.right (And.right (And.right (And.right (And.right (And.right (And.right (And.right (And.right (by assumption))))))))) | exact And.left (And.right (And.right (And.right (And.right (And.right (And.right (And.right (And.right (And.right (And.right (by assumption))))))))))) | exact And.right (And.right (And.right (And.right (And.right (And.right (And.right (And.right (And.right (And.right (by assumption)))))))))) | exact lta1 (by assumption) | exact lta2 (by assumption) | exact lta3 (by assumption) | exact lta4 (by assumption) | exact lta5 (by assumption) | exact ltd1 (by assumption) | exact ltd2 (by assumption) | exact ltd3 (by assumption) | exact ltd4 (by assumption) | exact ltd5 (by assumption) | exact ltt3 (by assumption) (by assumption) | exact ltt5 (by assumption) (by assumption))
      k_with "eval Name" => ((k_here; (with_reducible show wpAny _ _ (eval (Expr.Name _ _) (compEnvC _ _ _ _)) _ _ _); k_dflt (first | (refine' LCgL.ld_own ?N ?m ?C ?x ?_ ?k ?l ?d; (case l => rfl); (case k => rfl); (case d => decide); (case N => k_asm); (case m => k_mem); (case C => assumption); (case x => assumption); k_whole) | (refine' lcf_free ?N ?c ?m ?d ?_ ?a ?b; (case b => rfl); (case a => rfl); (case N => k_asm); (case c => rfl); (case m => k_mem); (case d => k_asm); k_whole) | (refine' LCgL.ld_global ?F ?X ?T ?e ?_ ?g ?k ?x ?d; (case x => rfl); (case F => k_asm); (case X => k_asm); (case T => k_asm); (case e => k_is); (case g => rfl); (case k => rfl); (case d => decide); k_whole))))
      k_with "subscriptTail Name Name ref int" => ((k_here; (with_reducible show wpAny _ _ (subscriptTail _ _ (Value.ref _) (Value.int _ _)) _ _ _); k_dflt (refine' item_N ?N ?m ?h0 ?h1 ?hx ?_; (case N => k_asm); (case m => k_mem); (case h0 => decide); (case h1 => decide); (case hx => rfl); k_whole)))
      k_with "subscriptTail Name Constant ref int" => ((k_here; (with_reducible show wpAny _ _ (subscriptTail _ _ (Value.ref _) (Value.int _ _)) _ _ _); k_dflt (refine' item_N ?N ?m ?h0 ?h1 ?hx ?_; (case N => k_asm); (case m => k_mem); (case h0 => decide); (case h1 => decide); (case hx => rfl); k_whole)))
      k_with "CompSrc" => ((k_here; k_dflt (first | (refine LCg.CompSrc.ledger (by rfl) (by k_asm) (by k_asm) (by k_mem) (by first | size_fits | exact Nat.le_of_ble_eq_true rfl) ?_; intro g'; lcg_lit) | (refine LCg.CompSrc.range (by rfl) (by k_asm) (by k_asm) (by assumption) (by first | decide | rfl) (by first | rfl | decide) (by first | size_fits | exact Nat.le_of_ble_eq_true rfl) ?_; intro g'; lcg_lit))))
      k_with "CompRest" => ((with_unfolding_all first | (refine LCg.CompRest.succ ?_; intro v' I' oI' C' oC' D' m' h' tk' E' hv' hC' hx' F' N' off' ne'; clear ne'; (first | lcg_open hv' | (obtain ⟨t9', hv9'⟩ := hv'; subst hv9')); (try dsimp only); (try k_fold)) | refine LCg.CompRest.zero ?_))
      k_with "CompRestT" => ((with_unfolding_all first | (refine LCt.CompRestT.succ ?_; intro v' I' oI' C' oC' D' m' h' tk' E' hv' hC' hx' F' N' off' ne'; clear ne'; (first | lcg_open hv' | (obtain ⟨t9', hv9'⟩ := hv'; subst hv9')); (try dsimp only); (try k_fold)) | refine LCt.CompRestT.zero ?_))
      k_with "CompEnd" => ((refine LCg.CompEnd.intro (by assumption) (by assumption) _ (fun _ hp => hp) (by assumption) (by lcg_src) ?_))
      k_with "FinE" => (((unfold LCg.FinE); intro D' h' tk' F' N' o1'; (try simp only [List.nil_append, List.cons_append] at N'); (try dsimp only)))
      k_with "FinA" => (((unfold LCg.FinA); intro D' h' tk' F' N' o1'; (try simp only [List.nil_append, List.cons_append] at N'); (try dsimp only)))
      k_with "exec Assign cons ListComp" => ((k_here; lct_look; k_dflt (refine LCt.Assign_ListComp_T (F₀ := by k_asm) (by rfl) (by with_unfolding_all rfl) (by with_unfolding_all rfl) (by decide) (by rfl) (by decide) (by rfl) (by rfl) (by rfl) ?_)))
      k_with "CompSrcT" => ((k_here; k_dflt (first | (refine LCt.CompSrcT.ledger (by rfl) (by k_asm) (by k_asm) (by k_mem) (by first | size_fits | exact Nat.le_of_ble_eq_true rfl) ?_; intro g'; first | lct_lit | (with_unfolding_all change @LCt.CompRestT _ _ _ _ _ _ _ _ _ _ _ _ _ _ _ _ 4 _ _ _)) | (refine LCt.CompSrcT.range (by rfl) (by k_asm) (by k_asm) (by assumption) (by first | decide | rfl) (by first | rfl | decide) (by first | size_fits | exact Nat.le_of_ble_eq_true rfl) ?_; intro g'; first | lct_lit | (with_unfolding_all change @LCt.CompRestT _ _ _ _ _ _ _ _ _ _ _ _ _ _ _ _ 4 _ _ _)))))
      k_with "law box" => (first | exact bx_f3 _ | exact bx_r27 _ | exact frs_bx (by assumption) | assumption)
      k_with "tok pos" => ((dsimp only; first | assumption | exact Nat.succ_pos _))
      k_with "tok ne" => (first | assumption | exact Nat.succ_ne_zero _ | exact tok_ne (by assumption))
      k_with "law sweep0" => (((repeat (rename LCg.Off1 _ _ => zz; clear zz)); (repeat (rename LitOf _ _ _ _ _ _ _ => zz; clear zz)); (repeat (rename Obj.data _ = _ => zz; clear zz)); (repeat (rename News _ _ _ _ => zz; clear zz)); (repeat (rename Fr _ _ _ _ => zz; clear zz)); (repeat (rename CarriedAll _ _ => zz; clear zz)); (repeat (rename NewPlain _ _ _ => zz; clear zz)); (repeat (rename PySem.W.Dflts _ _ _ => zz; clear zz)); (repeat (rename Heap.CodeRec _ _ _ => zz; clear zz)); (repeat (rename _ ∧ _ => zz; clear zz)); (repeat (rename _ ≠ _ => zz; clear zz)); (repeat (rename IntsAre _ _ => zz; clear zz)); (repeat (rename @LT.lt Nat _ 0 _ => zz; clear zz)); (try dsimp only)))
      k_with "turn end" => ((dsimp only [TPost]; refine' JG_end ?F ?N ?hI ?hX ?c5 ?c4 ?c3 ?c2 ?c1 ?mP ?v1 ?v2 ?v3 ?v4 ?v5 ?hP ?hD ?n5 ?n6 ?n7 ?LO ?oP ?oD ?oX ?oI ?hit; (case hit => assumption); (case F => assumption); (case N => assumption); (case hI => k_mem); (case hX => k_mem); (case c5 => k_mem); (case c4 => k_mem); (case c3 => k_mem); (case c2 => k_mem); (case c1 => k_mem); (case mP => rfl); (case v1 => assumption); (case v2 => assumption); (case v3 => exact ⟨_, by assumption⟩); (case v4 => exact ⟨_, by assumption⟩); (case v5 => exact ⟨_, by assumption⟩); (case hP => k_mem); (case hD => k_mem); (case n5 => assumption); (case n6 => assumption); (case n7 => assumption); (case LO => assumption); (case oP => exact ⟨by k_ne, by k_ne, by k_ne, by k_ne, by k_ne, by k_ne, trivial⟩); (case oX => exact ⟨by k_ne, by k_ne, by k_ne, by k_ne, by k_ne, trivial⟩); (case oD => exact ⟨by k_ne, by k_ne, by k_ne, by k_ne, by k_ne, by k_ne, by k_ne, trivial⟩); (case oI => exact ⟨by k_ne, by k_ne, by k_ne, by k_ne, by k_ne, by k_ne, trivial⟩)))
      k_with "law sweep" => (((repeat (rename LCg.Off1 _ _ => zz; clear zz)); (repeat (rename LitOf _ _ _ _ _ _ _ => zz; clear zz)); (repeat (rename Obj.data _ = _ => zz; clear zz)); (repeat (rename News _ _ _ _ => zz; clear zz)); (repeat (rename Fr _ _ _ _ => zz; clear zz)); (repeat (rename CarriedAll _ _ => zz; clear zz)); (repeat (rename NewPlain _ _ _ => zz; clear zz)); (repeat (rename PySem.W.Dflts _ _ _ => zz; clear zz)); (repeat (rename Heap.CodeRec _ _ _ => zz; clear zz)); (repeat (rename _ < _ ∧ _ => zz; clear zz)); (repeat (rename _ ≠ _ => zz; clear zz)); (repeat (rename IntsAre _ _ => zz; clear zz)); (repeat (rename @LT.lt Nat _ 0 _ => zz; clear zz)); (try dsimp only)))
      k_with "law steps" => (repeat' ((fail_if_success (with_reducible refine Hold.mk ?_)); first | (k_unfold; (try dsimp only)) | ((with_reducible show wpAny _ _ (exec _ _) _ _ _); k_fold) | walk1 | (dsimp only; walk1) | (leave1; try dsimp only) | fail "no step"))
      k_with "execs cons" => (k_here; refine gen_toks (n := _ + 1) (Nat.succ_pos _) ?_; intro tk hpos; (rename Fr _ _ _ _ => lF9; (try dsimp only at lF9)); (try (rename Obj.data _ = Data.cell _ => ld9; dsimp only at ld9)))
      rename 0 ≤ _ ∧ _ < 3 => hg
      rename LitOf _ _ _ _ _ _ _ => LO
      rename 0 ≤ _ => hn0
      rename _ ≤ nl _ _ _ _ _ => hle
      rename IntsAre _ (lets _ _) => hi
      rename nl _ _ _ _ _ = 15 => e15
      have hn15 := e15 ▸ hle
      obtain ⟨ep, eq, er, eo⟩ := end_of LO hg e15
      dsimp only [WJPost]
      k_with "call type:list cons nil" => (k_dflt (refine' list_due rfl ?yF ?yN ?yr hn0 hn15 ?_; (case yF => k_asm); (case yN => k_asm); (case yr => assumption)); intro D' us' c' h' tk' F' N' l1 hus; (try k_lt l1); (try k_sweep))
      k_with "compareOp Eq ref ref" => (k_dflt (first
        | (refine' eq_letters ?yN ?ym ?ym' hi hle e15 hus ?yu ?_; (case yN => k_asm); (case ym => k_mem); (case ym' => k_mem); (case yu => exact Nat.le_of_ble_eq_true rfl))
        | (refine' eq_goal ?yN ?ym ?ym' ep eq er eo ?yu ?_; (case yN => k_asm); (case ym => k_mem); (case ym' => k_mem); (case yu => exact Nat.le_of_ble_eq_true rfl))))
      walk_at "law steps"
      k_with_none
      k_with "ne" => (first | exact off1_mem (by with_reducible assumption) (_, _) (by k_mem) | exact Ne.symm (off1_mem (by with_reducible assumption) (_, _) (by k_mem)) | with_reducible exact nd1 _ | with_reducible exact nd2 _ | with_reducible exact nd3 _ | with_reducible exact nd4 _ | with_reducible exact nd5 _ | with_reducible exact nd1' _ | with_reducible exact nd2' _ | with_reducible exact nd3' _ | with_reducible exact nd4' _ | with_reducible exact nd5' _ | (refine Nat.ne_of_lt ?_; with_reducible walk_at "lt") | (refine Nat.ne_of_gt ?_; with_reducible walk_at "lt"))
      k_with "lt" => (first | assumption | exact And.left (by assumption) | exact And.left (And.right (by assumption)) | exact And.right (by assumption) | exact And.left (And.right (And.right (by assumption))) | exact And.right (And.right (by assumption)) | exact And.left (And.right (And.right (And.right (by assumption)))) | exact And.right (And.right (And.right (by assumption))) | exact And.left (And.right (And.right (And.right (And.right (by assumption))))) | exact And.right (And.right (And.right (And.right (by assumption)))) | exact And.left (And.right (And.right (And.right (And.right (And.right (by assumption)))))) | exact And.right (And.right (And.right (And.right (And.right (by assumption))))) | exact And.left (And.right (And.right (And.right (And.right (And.right (And.right (by assumption))))))) | exact And.right (And.right (And.right (And.right (And.right (And.right (by assumption)))))) | exact And.left (And.right (And.right (And.right (And.right (And.right (And.right (And.right (by assumption)))))))) | exact And.right (And.right (And.right (And.right (And.right (And.right (And.right (by assumption))))))) | exact And.left (And.right (And.right (And.right (And.right (And.right (And.right (And.right (And.right (by assumption))))))))) | exact And.right (And.right (And.right (And.right (And.right (And.right (And.right (And.right (by assumption)))))))) | exact And.left (And.right (And.right (And.right (And.right (And.right (And.right (And.right (And.right (And.right (by assumption)))))))))) | exact And.right (And.right (And.right (And.right (And.right (And.right (And.right (And.right (And.right (by assumption))))))))) | exact And.left (And.right (And.right (And.right (And.right (And.right (And.right (And.right (And.right (And.right (And.right (by assumption))))))))))) | exact And.right (And.right (And.right (And.right (And.right (And.right (And.right (And.right (And.right (And.right (by assumption)))))))))) | exact lta1 (by assumption) | exact lta2 (by assumption) | exact lta3 (by assumption) | exact lta4 (by assumption) | exact lta5 (by assumption) | exact ltd1 (by assumption) | exact ltd2 (by assumption) | exact ltd3 (by assumption) | exact ltd4 (by assumption) | exact ltd5 (by assumption) | exact ltt3 (by assumption) (by assumption) | exact ltt5 (by assumption) (by assumption))
      k_with "eval Name" => ((k_here; (with_reducible show wpAny _ _ (eval (Expr.Name _ _) (compEnvC _ _ _ _)) _ _ _); k_dflt (first | (refine' LCgL.ld_own ?N ?m ?C ?x ?_ ?k ?l ?d; (case l => rfl); (case k => rfl); (case d => decide); (case N => k_asm); (case m => k_mem); (case C => assumption); (case x => assumption); k_whole) | (refine' lcf_free ?N ?c ?m ?d ?_ ?a ?b; (case b => rfl); (case a => rfl); (case N => k_asm); (case c => rfl); (case m => k_mem); (case d => k_asm); k_whole) | (refine' LCgL.ld_global ?F ?X ?T ?e ?_ ?g ?k ?x ?d; (case x => rfl); (case F => k_asm); (case X => k_asm); (case T => k_asm); (case e => k_is); (case g => rfl); (case k => rfl); (case d => decide); k_whole))))
      k_with "subscriptTail Name Name ref int" => ((k_here; (with_reducible show wpAny _ _ (subscriptTail _ _ (Value.ref _) (Value.int _ _)) _ _ _); k_dflt (refine' item_N ?N ?m ?h0 ?h1 ?hx ?_; (case N => k_asm); (case m => k_mem); (case h0 => decide); (case h1 => decide); (case hx => rfl); k_whole)))
      k_with "subscriptTail Name Constant ref int" => ((k_here; (with_reducible show wpAny _ _ (subscriptTail _ _ (Value.ref _) (Value.int _ _)) _ _ _); k_dflt (refine' item_N ?N ?m ?h0 ?h1 ?hx ?_; (case N => k_asm); (case m => k_mem); (case h0 => decide); (case h1 => decide); (case hx => rfl); k_whole)))
      k_with "CompSrc" => ((k_here; k_dflt (first | (refine LCg.CompSrc.ledger (by rfl) (by k_asm) (by k_asm) (by k_mem) (by first | size_fits | exact Nat.le_of_ble_eq_true rfl) ?_; intro g'; lcg_lit) | (refine LCg.CompSrc.range (by rfl) (by k_asm) (by k_asm) (by assumption) (by first | decide | rfl) (by first | rfl | decide) (by first | size_fits | exact Nat.le_of_ble_eq_true rfl) ?_; intro g'; lcg_lit))))
      k_with "CompRest" => ((with_unfolding_all first | (refine LCg.CompRest.succ ?_; intro v' I' oI' C' oC' D' m' h' tk' E' hv' hC' hx' F' N' off' ne'; clear ne'; (first | lcg_open hv' | (obtain ⟨t9', hv9'⟩ := hv'; subst hv9')); (try dsimp only); (try k_fold)) | refine LCg.CompRest.zero ?_))
      k_with "CompRestT" => ((with_unfolding_all first | (refine LCt.CompRestT.succ ?_; intro v' I' oI' C' oC' D' m' h' tk' E' hv' hC' hx' F' N' off' ne'; clear ne'; (first | lcg_open hv' | (obtain ⟨t9', hv9'⟩ := hv'; subst hv9')); (try dsimp only); (try k_fold)) | refine LCt.CompRestT.zero ?_))
      k_with "CompEnd" => ((refine LCg.CompEnd.intro (by assumption) (by assumption) _ (fun _ hp => hp) (by assumption) (by lcg_src) ?_))
      k_with "FinE" => (((unfold LCg.FinE); intro D' h' tk' F' N' o1'; (try simp only [List.nil_append, List.cons_append] at N'); (try dsimp only)))
      k_with "FinA" => (((unfold LCg.FinA); intro D' h' tk' F' N' o1'; (try simp only [List.nil_append, List.cons_append] at N'); (try dsimp only)))
      k_with "exec Assign cons ListComp" => ((k_here; lct_look; k_dflt (refine LCt.Assign_ListComp_T (F₀ := by k_asm) (by rfl) (by with_unfolding_all rfl) (by with_unfolding_all rfl) (by decide) (by rfl) (by decide) (by rfl) (by rfl) (by rfl) ?_)))
      k_with "CompSrcT" => ((k_here; k_dflt (first | (refine LCt.CompSrcT.ledger (by rfl) (by k_asm) (by k_asm) (by k_mem) (by first | size_fits | exact Nat.le_of_ble_eq_true rfl) ?_; intro g'; first | lct_lit | (with_unfolding_all change @LCt.CompRestT _ _ _ _ _ _ _ _ _ _ _ _ _ _ _ _ 4 _ _ _)) | (refine LCt.CompSrcT.range (by rfl) (by k_asm) (by k_asm) (by assumption) (by first | decide | rfl) (by first | rfl | decide) (by first | size_fits | exact Nat.le_of_ble_eq_true rfl) ?_; intro g'; first | lct_lit | (with_unfolding_all change @LCt.CompRestT _ _ _ _ _ _ _ _ _ _ _ _ _ _ _ _ 4 _ _ _)))))
      k_with "law box" => (first | exact bx_f3 _ | exact bx_r27 _ | exact frs_bx (by assumption) | assumption)
      k_with "tok pos" => ((dsimp only; first | assumption | exact Nat.succ_pos _))
      k_with "tok ne" => (first | assumption | exact Nat.succ_ne_zero _ | exact tok_ne (by assumption))
      k_with "law sweep0" => (((repeat (rename LCg.Off1 _ _ => zz; clear zz)); (repeat (rename LitOf _ _ _ _ _ _ _ => zz; clear zz)); (repeat (rename Obj.data _ = _ => zz; clear zz)); (repeat (rename News _ _ _ _ => zz; clear zz)); (repeat (rename Fr _ _ _ _ => zz; clear zz)); (repeat (rename CarriedAll _ _ => zz; clear zz)); (repeat (rename NewPlain _ _ _ => zz; clear zz)); (repeat (rename PySem.W.Dflts _ _ _ => zz; clear zz)); (repeat (rename Heap.CodeRec _ _ _ => zz; clear zz)); (repeat (rename _ ∧ _ => zz; clear zz)); (repeat (rename _ ≠ _ => zz; clear zz)); (repeat (rename IntsAre _ _ => zz; clear zz)); (repeat (rename @LT.lt Nat _ 0 _ => zz; clear zz)); (try dsimp only)))
      k_with "turn end" => ((dsimp only [TPost]; refine' JG_end ?F ?N ?hI ?hX ?c5 ?c4 ?c3 ?c2 ?c1 ?mP ?v1 ?v2 ?v3 ?v4 ?v5 ?hP ?hD ?n5 ?n6 ?n7 ?LO ?oP ?oD ?oX ?oI ?hit; (case hit => assumption); (case F => assumption); (case N => assumption); (case hI => k_mem); (case hX => k_mem); (case c5 => k_mem); (case c4 => k_mem); (case c3 => k_mem); (case c2 => k_mem); (case c1 => k_mem); (case mP => rfl); (case v1 => assumption); (case v2 => assumption); (case v3 => exact ⟨_, by assumption⟩); (case v4 => exact ⟨_, by assumption⟩); (case v5 => exact ⟨_, by assumption⟩); (case hP => k_mem); (case hD => k_mem); (case n5 => assumption); (case n6 => assumption); (case n7 => assumption); (case LO => assumption); (case oP => exact ⟨by k_ne, by k_ne, by k_ne, by k_ne, by k_ne, by k_ne, trivial⟩); (case oX => exact ⟨by k_ne, by k_ne, by k_ne, by k_ne, by k_ne, trivial⟩); (case oD => exact ⟨by k_ne, by k_ne, by k_ne, by k_ne, by k_ne, by k_ne, by k_ne, trivial⟩); (case oI => exact ⟨by k_ne, by k_ne, by k_ne, by k_ne, by k_ne, by k_ne, trivial⟩)))
      k_with "law sweep" => (((repeat (rename LCg.Off1 _ _ => zz; clear zz)); (repeat (rename LitOf _ _ _ _ _ _ _ => zz; clear zz)); (repeat (rename Obj.data _ = _ => zz; clear zz)); (repeat (rename News _ _ _ _ => zz; clear zz)); (repeat (rename Fr _ _ _ _ => zz; clear zz)); (repeat (rename CarriedAll _ _ => zz; clear zz)); (repeat (rename NewPlain _ _ _ => zz; clear zz)); (repeat (rename PySem.W.Dflts _ _ _ => zz; clear zz)); (repeat (rename Heap.CodeRec _ _ _ => zz; clear zz)); (repeat (rename _ < _ ∧ _ => zz; clear zz)); (repeat (rename _ ≠ _ => zz; clear zz)); (repeat (rename IntsAre _ _ => zz; clear zz)); (repeat (rename @LT.lt Nat _ 0 _ => zz; clear zz)); (try dsimp only)))
      k_with "law steps" => (repeat' ((fail_if_success (with_reducible refine Hold.mk ?_)); first | (k_unfold; (try dsimp only)) | ((with_reducible show wpAny _ _ (exec _ _) _ _ _); k_fold) | walk1 | (dsimp only; walk1) | (leave1; try dsimp only) | fail "no step"))
      w_end
      show GoodW _ _ _ _ _ (.ok (.ret (.bool _))) _
      refine goodW_bool (by assumption) (by assumption) (raisesW_false ?_) ?_
      · wrow_none_raised
      · exact postW_of rfl (w_eq_bool (w_res rfl) w_lit) (beq_self_eq_true _)
    · k_with_none
      k_with "ne" => (first | exact off1_mem (by with_reducible assumption) (_, _) (by k_mem) | exact Ne.symm (off1_mem (by with_reducible assumption) (_, _) (by k_mem)) | with_reducible exact nd1 _ | with_reducible exact nd2 _ | with_reducible exact nd3 _ | with_reducible exact nd4 _ | with_reducible exact nd5 _ | with_reducible exact nd1' _ | with_reducible exact nd2' _ | with_reducible exact nd3' _ | with_reducible exact nd4' _ | with_reducible exact nd5' _ | (refine Nat.ne_of_lt ?_; with_reducible walk_at "lt") | (refine Nat.ne_of_gt ?_; with_reducible walk_at "lt"))
      k_with "lt" => (first | assumption | exact And.left (by assumption) | exact And.left (And.right (by assumption)) | exact And.right (by assumption) | exact And.left (And.right (And.right (by assumption))) | exact And.right (And.right (by assumption)) | exact And.left (And.right (And.right (And.right (by assumption)))) | exact And.right (And.right (And.right (by assumption))) | exact And.left (And.right (And.right (And.right (And.right (by assumption))))) | exact And.right (And.right (And.right (And.right (by assumption)))) | exact And.left (And.right (And.right (And.right (And.right (And.right (by assumption)))))) | exact And.right (And.right (And.right (And.right (And.right (by assumption))))) | exact And.left (And.right (And.right (And.right (And.right (And.right (And.right (by assumption))))))) | exact And.right (And.right (And.right (And.right (And.right (And.right (by assumption)))))) | exact And.left (And.right (And.right (And.right (And.right (And.right (And.right (And.right (by assumption)))))))) | exact And.right (And.right (And.right (And.right (And.right (And.right (And.right (by assumption))))))) | exact And.left (And.right (And.right (And.right (And.right (And.right (And.right (And.right (And.right (by assumption))))))))) | exact And.right (And.right (And.right (And.right (And.right (And.right (And.right (And.right (by assumption)))))))) | exact And.left (And.right (And.right (And.right (And.right (And.right (And.right (And.right (And.right (And.right (by assumption)))))))))) | exact And.right (And.right (And.right (And.right (And.right (And.right (And.right (And.right (And.right (by assumption))))))))) | exact And.left (And.right (And.right (And.right (And.right (And.right (And.right (And.right (And.right (And.right (And.right (by assumption))))))))))) | exact And.right (And.right (And.right (And.right (And.right (And.right (And.right (And.right (And.right (And.right (by assumption)))))))))) | exact lta1 (by assumption) | exact lta2 (by assumption) | exact lta3 (by assumption) | exact lta4 (by assumption) | exact lta5 (by assumption) | exact ltd1 (by assumption) | exact ltd2 (by assumption) | exact ltd3 (by assumption) | exact ltd4 (by assumption) | exact ltd5 (by assumption) | exact ltt3 (by assumption) (by assumption) | exact ltt5 (by assumption) (by assumption))
      k_with "eval Name" => ((k_here; (with_reducible show wpAny _ _ (eval (Expr.Name _ _) (compEnvC _ _ _ _)) _ _ _); k_dflt (first | (refine' LCgL.ld_own ?N ?m ?C ?x ?_ ?k ?l ?d; (case l => rfl); (case k => rfl); (case d => decide); (case N => k_asm); (case m => k_mem); (case C => assumption); (case x => assumption); k_whole) | (refine' lcf_free ?N ?c ?m ?d ?_ ?a ?b; (case b => rfl); (case a => rfl); (case N => k_asm); (case c => rfl); (case m => k_mem); (case d => k_asm); k_whole) | (refine' LCgL.ld_global ?F ?X ?T ?e ?_ ?g ?k ?x ?d; (case x => rfl); (case F => k_asm); (case X => k_asm); (case T => k_asm); (case e => k_is); (case g => rfl); (case k => rfl); (case d => decide); k_whole))))
      k_with "subscriptTail Name Name ref int" => ((k_here; (with_reducible show wpAny _ _ (subscriptTail _ _ (Value.ref _) (Value.int _ _)) _ _ _); k_dflt (refine' item_N ?N ?m ?h0 ?h1 ?hx ?_; (case N => k_asm); (case m => k_mem); (case h0 => decide); (case h1 => decide); (case hx => rfl); k_whole)))
      k_with "subscriptTail Name Constant ref int" => ((k_here; (with_reducible show wpAny _ _ (subscriptTail _ _ (Value.ref _) (Value.int _ _)) _ _ _); k_dflt (refine' item_N ?N ?m ?h0 ?h1 ?hx ?_; (case N => k_asm); (case m => k_mem); (case h0 => decide); (case h1 => decide); (case hx => rfl); k_whole)))
      k_with "CompSrc" => ((k_here; k_dflt (first | (refine LCg.CompSrc.ledger (by rfl) (by k_asm) (by k_asm) (by k_mem) (by first | size_fits | exact Nat.le_of_ble_eq_true rfl) ?_; intro g'; lcg_lit) | (refine LCg.CompSrc.range (by rfl) (by k_asm) (by k_asm) (by assumption) (by first | decide | rfl) (by first | rfl | decide) (by first | size_fits | exact Nat.le_of_ble_eq_true rfl) ?_; intro g'; lcg_lit))))
      k_with "CompRest" => ((with_unfolding_all first | (refine LCg.CompRest.succ ?_; intro v' I' oI' C' oC' D' m' h' tk' E' hv' hC' hx' F' N' off' ne'; clear ne'; (first | lcg_open hv' | (obtain ⟨t9', hv9'⟩ := hv'; subst hv9')); (try dsimp only); (try k_fold)) | refine LCg.CompRest.zero ?_))
      k_with "CompRestT" => ((with_unfolding_all first | (refine LCt.CompRestT.succ ?_; intro v' I' oI' C' oC' D' m' h' tk' E' hv' hC' hx' F' N' off' ne'; clear ne'; (first | lcg_open hv' | (obtain ⟨t9', hv9'⟩ := hv'; subst hv9')); (try dsimp only); (try k_fold)) | refine LCt.CompRestT.zero ?_))
      k_with "CompEnd" => ((refine LCg.CompEnd.intro (by assumption) (by assumption) _ (fun _ hp => hp) (by assumption) (by lcg_src) ?_))
      k_with "FinE" => (((unfold LCg.FinE); intro D' h' tk' F' N' o1'; (try simp only [List.nil_append, List.cons_append] at N'); (try dsimp only)))
      k_with "FinA" => (((unfold LCg.FinA); intro D' h' tk' F' N' o1'; (try simp only [List.nil_append, List.cons_append] at N'); (try dsimp only)))
      k_with "exec Assign cons ListComp" => ((k_here; lct_look; k_dflt (refine LCt.Assign_ListComp_T (F₀ := by k_asm) (by rfl) (by with_unfolding_all rfl) (by with_unfolding_all rfl) (by decide) (by rfl) (by decide) (by rfl) (by rfl) (by rfl) ?_)))
      k_with "CompSrcT" => ((k_here; k_dflt (first | (refine LCt.CompSrcT.ledger (by rfl) (by k_asm) (by k_asm) (by k_mem) (by first | size_fits | exact Nat.le_of_ble_eq_true rfl) ?_; intro g'; first | lct_lit | (with_unfolding_all change @LCt.CompRestT _ _ _ _ _ _ _ _ _ _ _ _ _ _ _ _ 4 _ _ _)) | (refine LCt.CompSrcT.range (by rfl) (by k_asm) (by k_asm) (by assumption) (by first | decide | rfl) (by first | rfl | decide) (by first | size_fits | exact Nat.le_of_ble_eq_true rfl) ?_; intro g'; first | lct_lit | (with_unfolding_all change @LCt.CompRestT _ _ _ _ _ _ _ _ _ _ _ _ _ _ _ _ 4 _ _ _)))))
      k_with "law box" => (first | exact bx_f3 _ | exact bx_r27 _ | exact frs_bx (by assumption) | assumption)
      k_with "tok pos" => ((dsimp only; first | assumption | exact Nat.succ_pos _))
      k_with "tok ne" => (first | assumption | exact Nat.succ_ne_zero _ | exact tok_ne (by assumption))
      k_with "law sweep0" => (((repeat (rename LCg.Off1 _ _ => zz; clear zz)); (repeat (rename LitOf _ _ _ _ _ _ _ => zz; clear zz)); (repeat (rename Obj.data _ = _ => zz; clear zz)); (repeat (rename News _ _ _ _ => zz; clear zz)); (repeat (rename Fr _ _ _ _ => zz; clear zz)); (repeat (rename CarriedAll _ _ => zz; clear zz)); (repeat (rename NewPlain _ _ _ => zz; clear zz)); (repeat (rename PySem.W.Dflts _ _ _ => zz; clear zz)); (repeat (rename Heap.CodeRec _ _ _ => zz; clear zz)); (repeat (rename _ ∧ _ => zz; clear zz)); (repeat (rename _ ≠ _ => zz; clear zz)); (repeat (rename IntsAre _ _ => zz; clear zz)); (repeat (rename @LT.lt Nat _ 0 _ => zz; clear zz)); (try dsimp only)))
      k_with "turn end" => ((dsimp only [TPost]; refine' JG_end ?F ?N ?hI ?hX ?c5 ?c4 ?c3 ?c2 ?c1 ?mP ?v1 ?v2 ?v3 ?v4 ?v5 ?hP ?hD ?n5 ?n6 ?n7 ?LO ?oP ?oD ?oX ?oI ?hit; (case hit => assumption); (case F => assumption); (case N => assumption); (case hI => k_mem); (case hX => k_mem); (case c5 => k_mem); (case c4 => k_mem); (case c3 => k_mem); (case c2 => k_mem); (case c1 => k_mem); (case mP => rfl); (case v1 => assumption); (case v2 => assumption); (case v3 => exact ⟨_, by assumption⟩); (case v4 => exact ⟨_, by assumption⟩); (case v5 => exact ⟨_, by assumption⟩); (case hP => k_mem); (case hD => k_mem); (case n5 => assumption); (case n6 => assumption); (case n7 => assumption); (case LO => assumption); (case oP => exact ⟨by k_ne, by k_ne, by k_ne, by k_ne, by k_ne, by k_ne, trivial⟩); (case oX => exact ⟨by k_ne, by k_ne, by k_ne, by k_ne, by k_ne, trivial⟩); (case oD => exact ⟨by k_ne, by k_ne, by k_ne, by k_ne, by k_ne, by k_ne, by k_ne, trivial⟩); (case oI => exact ⟨by k_ne, by k_ne, by k_ne, by k_ne, by k_ne, by k_ne, trivial⟩)))
      k_with "law sweep" => (((repeat (rename LCg.Off1 _ _ => zz; clear zz)); (repeat (rename LitOf _ _ _ _ _ _ _ => zz; clear zz)); (repeat (rename Obj.data _ = _ => zz; clear zz)); (repeat (rename News _ _ _ _ => zz; clear zz)); (repeat (rename Fr _ _ _ _ => zz; clear zz)); (repeat (rename CarriedAll _ _ => zz; clear zz)); (repeat (rename NewPlain _ _ _ => zz; clear zz)); (repeat (rename PySem.W.Dflts _ _ _ => zz; clear zz)); (repeat (rename Heap.CodeRec _ _ _ => zz; clear zz)); (repeat (rename _ < _ ∧ _ => zz; clear zz)); (repeat (rename _ ≠ _ => zz; clear zz)); (repeat (rename IntsAre _ _ => zz; clear zz)); (repeat (rename @LT.lt Nat _ 0 _ => zz; clear zz)); (try dsimp only)))
      k_with "law steps" => (repeat' ((fail_if_success (with_reducible refine Hold.mk ?_)); first | (k_unfold; (try dsimp only)) | ((with_reducible show wpAny _ _ (exec _ _) _ _ _); k_fold) | walk1 | (dsimp only; walk1) | (leave1; try dsimp only) | fail "no step"))
      refine Hold.mk ?_
      (try dsimp only)
      k_dflt ((rename Fr _ _ _ _ => lF'); refine' For_invTF lF' ?_ (by intro _; rfl) (by first | passes_own | with_unfolding_all passes_own))
      k_with "pyIter ref" => (refine Hold.out ?_)
      walk_at "law steps"
      refine Hold.mk ?_
      k_with_none
      k_with "ne" => (first | exact off1_mem (by with_reducible assumption) (_, _) (by k_mem) | exact Ne.symm (off1_mem (by with_reducible assumption) (_, _) (by k_mem)) | with_reducible exact nd1 _ | with_reducible exact nd2 _ | with_reducible exact nd3 _ | with_reducible exact nd4 _ | with_reducible exact nd5 _ | with_reducible exact nd1' _ | with_reducible exact nd2' _ | with_reducible exact nd3' _ | with_reducible exact nd4' _ | with_reducible exact nd5' _ | (refine Nat.ne_of_lt ?_; with_reducible walk_at "lt") | (refine Nat.ne_of_gt ?_; with_reducible walk_at "lt"))
      k_with "lt" => (first | assumption | exact And.left (by assumption) | exact And.left (And.right (by assumption)) | exact And.right (by assumption) | exact And.left (And.right (And.right (by assumption))) | exact And.right (And.right (by assumption)) | exact And.left (And.right (And.right (And.right (by assumption)))) | exact And.right (And.right (And.right (by assumption))) | exact And.left (And.right (And.right (And.right (And.right (by assumption))))) | exact And.right (And.right (And.right (And.right (by assumption)))) | exact And.left (And.right (And.right (And.right (And.right (And.right (by assumption)))))) | exact And.right (And.right (And.right (And.right (And.right (by assumption))))) | exact And.left (And.right (And.right (And.right (And.right (And.right (And.right (by assumption))))))) | exact And.right (And.right (And.right (And.right (And.right (And.right (by assumption)))))) | exact And.left (And.right (And.right (And.right (And.right (And.right (And.right (And.right (by assumption)))))))) | exact And.right (And.right (And.right (And.right (And.right (And.right (And.right (by assumption))))))) | exact And.left (And.right (And.right (And.right (And.right (And.right (And.right (And.right (And.right (by assumption))))))))) | exact And.right (And.right (And.right (And.right (And.right (And.right (And.right (And.right (by assumption)))))))) | exact And.left (And.right (And.right (And.right (And.right (And.right (And.right (And.right (And.right (And.right (by assumption)))))))))) | exact And.right (And.right (And.right (And.right (And.right (And.right (And.right (And.right (And.right (by assumption))))))))) | exact And.left (And.right (And.right (And.right (And.right (And.right (And.right (And.right (And.right (And.right (And.right (by assumption))))))))))) | exact And.right (And.right (And.right (And.right (And.right (And.right (And.right (And.right (And.right (And.right (by assumption)))))))))) | exact lta1 (by assumption) | exact lta2 (by assumption) | exact lta3 (by assumption) | exact lta4 (by assumption) | exact lta5 (by assumption) | exact ltd1 (by assumption) | exact ltd2 (by assumption) | exact ltd3 (by assumption) | exact ltd4 (by assumption) | exact ltd5 (by assumption) | exact ltt3 (by assumption) (by assumption) | exact ltt5 (by assumption) (by assumption))
      k_with "eval Name" => ((k_here; (with_reducible show wpAny _ _ (eval (Expr.Name _ _) (compEnvC _ _ _ _)) _ _ _); k_dflt (first | (refine' LCgL.ld_own ?N ?m ?C ?x ?_ ?k ?l ?d; (case l => rfl); (case k => rfl); (case d => decide); (case N => k_asm); (case m => k_mem); (case C => assumption); (case x => assumption); k_whole) | (refine' lcf_free ?N ?c ?m ?d ?_ ?a ?b; (case b => rfl); (case a => rfl); (case N => k_asm); (case c => rfl); (case m => k_mem); (case d => k_asm); k_whole) | (refine' LCgL.ld_global ?F ?X ?T ?e ?_ ?g ?k ?x ?d; (case x => rfl); (case F => k_asm); (case X => k_asm); (case T => k_asm); (case e => k_is); (case g => rfl); (case k => rfl); (case d => decide); k_whole))))
      k_with "subscriptTail Name Name ref int" => ((k_here; (with_reducible show wpAny _ _ (subscriptTail _ _ (Value.ref _) (Value.int _ _)) _ _ _); k_dflt (refine' item_N ?N ?m ?h0 ?h1 ?hx ?_; (case N => k_asm); (case m => k_mem); (case h0 => decide); (case h1 => decide); (case hx => rfl); k_whole)))
      k_with "subscriptTail Name Constant ref int" => ((k_here; (with_reducible show wpAny _ _ (subscriptTail _ _ (Value.ref _) (Value.int _ _)) _ _ _); k_dflt (refine' item_N ?N ?m ?h0 ?h1 ?hx ?_; (case N => k_asm); (case m => k_mem); (case h0 => decide); (case h1 => decide); (case hx => rfl); k_whole)))
      k_with "CompSrc" => ((k_here; k_dflt (first | (refine LCg.CompSrc.ledger (by rfl) (by k_asm) (by k_asm) (by k_mem) (by first | size_fits | exact Nat.le_of_ble_eq_true rfl) ?_; intro g'; lcg_lit) | (refine LCg.CompSrc.range (by rfl) (by k_asm) (by k_asm) (by assumption) (by first | decide | rfl) (by first | rfl | decide) (by first | size_fits | exact Nat.le_of_ble_eq_true rfl) ?_; intro g'; lcg_lit))))
      k_with "CompRest" => ((with_unfolding_all first | (refine LCg.CompRest.succ ?_; intro v' I' oI' C' oC' D' m' h' tk' E' hv' hC' hx' F' N' off' ne'; clear ne'; (first | lcg_open hv' | (obtain ⟨t9', hv9'⟩ := hv'; subst hv9')); (try dsimp only); (try k_fold)) | refine LCg.CompRest.zero ?_))
      k_with "CompRestT" => ((with_unfolding_all first | (refine LCt.CompRestT.succ ?_; intro v' I' oI' C' oC' D' m' h' tk' E' hv' hC' hx' F' N' off' ne'; clear ne'; (first | lcg_open hv' | (obtain ⟨t9', hv9'⟩ := hv'; subst hv9')); (try dsimp only); (try k_fold)) | refine LCt.CompRestT.zero ?_))
      k_with "CompEnd" => ((refine LCg.CompEnd.intro (by assumption) (by assumption) _ (fun _ hp => hp) (by assumption) (by lcg_src) ?_))
      k_with "FinE" => (((unfold LCg.FinE); intro D' h' tk' F' N' o1'; (try simp only [List.nil_append, List.cons_append] at N'); (try dsimp only)))
      k_with "FinA" => (((unfold LCg.FinA); intro D' h' tk' F' N' o1'; (try simp only [List.nil_append, List.cons_append] at N'); (try dsimp only)))
      k_with "exec Assign cons ListComp" => ((k_here; lct_look; k_dflt (refine LCt.Assign_ListComp_T (F₀ := by k_asm) (by rfl) (by with_unfolding_all rfl) (by with_unfolding_all rfl) (by decide) (by rfl) (by decide) (by rfl) (by rfl) (by rfl) ?_)))
      k_with "CompSrcT" => ((k_here; k_dflt (first | (refine LCt.CompSrcT.ledger (by rfl) (by k_asm) (by k_asm) (by k_mem) (by first | size_fits | exact Nat.le_of_ble_eq_true rfl) ?_; intro g'; first | lct_lit | (with_unfolding_all change @LCt.CompRestT _ _ _ _ _ _ _ _ _ _ _ _ _ _ _ _ 4 _ _ _)) | (refine LCt.CompSrcT.range (by rfl) (by k_asm) (by k_asm) (by assumption) (by first | decide | rfl) (by first | rfl | decide) (by first | size_fits | exact Nat.le_of_ble_eq_true rfl) ?_; intro g'; first | lct_lit | (with_unfolding_all change @LCt.CompRestT _ _ _ _ _ _ _ _ _ _ _ _ _ _ _ _ 4 _ _ _)))))
      k_with "law box" => (first | exact bx_f3 _ | exact bx_r27 _ | exact frs_bx (by assumption) | assumption)
      k_with "tok pos" => ((dsimp only; first | assumption | exact Nat.succ_pos _))
      k_with "tok ne" => (first | assumption | exact Nat.succ_ne_zero _ | exact tok_ne (by assumption))
      k_with "law sweep0" => (((repeat (rename LCg.Off1 _ _ => zz; clear zz)); (repeat (rename LitOf _ _ _ _ _ _ _ => zz; clear zz)); (repeat (rename Obj.data _ = _ => zz; clear zz)); (repeat (rename News _ _ _ _ => zz; clear zz)); (repeat (rename Fr _ _ _ _ => zz; clear zz)); (repeat (rename CarriedAll _ _ => zz; clear zz)); (repeat (rename NewPlain _ _ _ => zz; clear zz)); (repeat (rename PySem.W.Dflts _ _ _ => zz; clear zz)); (repeat (rename Heap.CodeRec _ _ _ => zz; clear zz)); (repeat (rename _ ∧ _ => zz; clear zz)); (repeat (rename _ ≠ _ => zz; clear zz)); (repeat (rename IntsAre _ _ => zz; clear zz)); (repeat (rename @LT.lt Nat _ 0 _ => zz; clear zz)); (try dsimp only)))
      k_with "turn end" => ((dsimp only [TPost]; refine' JG_end ?F ?N ?hI ?hX ?c5 ?c4 ?c3 ?c2 ?c1 ?mP ?v1 ?v2 ?v3 ?v4 ?v5 ?hP ?hD ?n5 ?n6 ?n7 ?LO ?oP ?oD ?oX ?oI ?hit; (case hit => assumption); (case F => assumption); (case N => assumption); (case hI => k_mem); (case hX => k_mem); (case c5 => k_mem); (case c4 => k_mem); (case c3 => k_mem); (case c2 => k_mem); (case c1 => k_mem); (case mP => rfl); (case v1 => assumption); (case v2 => assumption); (case v3 => exact ⟨_, by assumption⟩); (case v4 => exact ⟨_, by assumption⟩); (case v5 => exact ⟨_, by assumption⟩); (case hP => k_mem); (case hD => k_mem); (case n5 => assumption); (case n6 => assumption); (case n7 => assumption); (case LO => assumption); (case oP => exact ⟨by k_ne, by k_ne, by k_ne, by k_ne, by k_ne, by k_ne, trivial⟩); (case oX => exact ⟨by k_ne, by k_ne, by k_ne, by k_ne, by k_ne, trivial⟩); (case oD => exact ⟨by k_ne, by k_ne, by k_ne, by k_ne, by k_ne, by k_ne, by k_ne, trivial⟩); (case oI => exact ⟨by k_ne, by k_ne, by k_ne, by k_ne, by k_ne, by k_ne, trivial⟩)))
      k_with "law sweep" => (((repeat (rename LCg.Off1 _ _ => zz; clear zz)); (repeat (rename LitOf _ _ _ _ _ _ _ => zz; clear zz)); (repeat (rename Obj.data _ = _ => zz; clear zz)); (repeat (rename News _ _ _ _ => zz; clear zz)); (repeat (rename Fr _ _ _ _ => zz; clear zz)); (repeat (rename CarriedAll _ _ => zz; clear zz)); (repeat (rename NewPlain _ _ _ => zz; clear zz)); (repeat (rename PySem.W.Dflts _ _ _ => zz; clear zz)); (repeat (rename Heap.CodeRec _ _ _ => zz; clear zz)); (repeat (rename _ < _ ∧ _ => zz; clear zz)); (repeat (rename _ ≠ _ => zz; clear zz)); (repeat (rename IntsAre _ _ => zz; clear zz)); (repeat (rename @LT.lt Nat _ 0 _ => zz; clear zz)); (try dsimp only)))
      k_with "law steps" => (repeat' ((fail_if_success (with_reducible refine Hold.mk ?_)); first | (k_unfold; (try dsimp only)) | ((with_reducible show wpAny _ _ (exec _ _) _ _ _); k_fold) | walk1 | (dsimp only; walk1) | (leave1; try dsimp only) | fail "no step"))
      (try dsimp only)
      rename LitOf _ _ _ _ _ _ _ => LO
      rename 0 ≤ _ ∧ _ < 3 => hg
      rename ¬ nl _ _ _ _ _ = 15 => hne
      have GO := goes_on LO hg hne
      k_dflt (refine' giver_law (nxt _ _ _ _ _) GO.hk.1 ?zchh ?zcF ?zcN ?zchL ?zchr ?zcc5 ?zcc4 ?zcc3 ?zcc2 ?zcc1 ?zcmP ?zcmD ?zcmQ ?zcmW ?zcv1 ?zcv4 ?zcv2 ?zcv3 ?zcv5 ?zchP ?zchQ ?zchPt ?zchW ?zcoP ?zcoQ ?zcoPt ?zcoW ?zchgo ?zcturn ?zcdone; (case zchh => rfl); (case zcF => assumption); (case zcN => assumption); (case zchL => exact rfl); (case zchr => assumption); (case zcc5 => k_mem); (case zcc4 => k_mem); (case zcc3 => k_mem); (case zcc2 => k_mem); (case zcc1 => k_mem); (case zcmP => rfl); (case zcmD => rfl); (case zcmQ => rfl); (case zcmW => rfl); (case zcv1 => assumption); (case zcv4 => assumption); (case zcv2 => exact ⟨_, by assumption⟩); (case zcv3 => exact ⟨_, by assumption⟩); (case zcv5 => exact ⟨_, by assumption⟩); (case zchP => k_mem); (case zchQ => k_mem); (case zchPt => k_mem); (case zchW => k_mem); (case zcoP => exact ⟨by k_ne, by k_ne, by k_ne, by k_ne, by k_ne, by k_ne, trivial⟩); (case zcoQ => exact ⟨by k_ne, by k_ne, by k_ne, by k_ne, by k_ne, trivial⟩); (case zcoPt => exact ⟨by k_ne, by k_ne, by k_ne, by k_ne, by k_ne, trivial⟩); (case zcoW => exact ⟨by k_ne, by k_ne, by k_ne, by k_ne, by k_ne, by k_ne, by k_ne, by k_ne, trivial⟩); (case zchgo => intro _ _; rfl))
      case' zcturn => walk_at "law sweep"
      case' zcdone => (rename IntsAre _ (lets _ _) => hi; have hiH := PySem.Flt.Hid.mk hi; have LOH := PySem.Flt.Hid.mk LO; clear hi; walk_at "law sweep")
      · k_with_none
        k_with "ne" => (first | exact off1_mem (by with_reducible assumption) (_, _) (by k_mem) | exact Ne.symm (off1_mem (by with_reducible assumption) (_, _) (by k_mem)) | with_reducible exact nd1 _ | with_reducible exact nd2 _ | with_reducible exact nd3 _ | with_reducible exact nd4 _ | with_reducible exact nd5 _ | with_reducible exact nd1' _ | with_reducible exact nd2' _ | with_reducible exact nd3' _ | with_reducible exact nd4' _ | with_reducible exact nd5' _ | (refine Nat.ne_of_lt ?_; with_reducible walk_at "lt") | (refine Nat.ne_of_gt ?_; with_reducible walk_at "lt"))
        k_with "lt" => (first | assumption | exact And.left (by assumption) | exact And.left (And.right (by assumption)) | exact And.right (by assumption) | exact And.left (And.right (And.right (by assumption))) | exact And.right (And.right (by assumption)) | exact And.left (And.right (And.right (And.right (by assumption)))) | exact And.right (And.right (And.right (by assumption))) | exact And.left (And.right (And.right (And.right (And.right (by assumption))))) | exact And.right (And.right (And.right (And.right (by assumption)))) | exact And.left (And.right (And.right (And.right (And.right (And.right (by assumption)))))) | exact And.right (And.right (And.right (And.right (And.right (by assumption))))) | exact And.left (And.right (And.right (And.right (And.right (And.right (And.right (by assumption))))))) | exact And.right (And.right (And.right (And.right (And.right (And.right (by assumption)))))) | exact And.left (And.right (And.right (And.right (And.right (And.right (And.right (And.right (by assumption)))))))) | exact And.right (And.right (And.right (And.right (And.right (And.right (And.right (by assumption))))))) | exact And.left (And.right (And.right (And.right (And.right (And.right (And.right (And.right (And.right (by assumption))))))))) | exact And.right (And.right (And.right (And.right (And.right (And.right (And.right (And.right (by assumption)))))))) | exact And.left (And.right (And.right (And.right (And.right (And.right (And.right (And.right (And.right (And.right (by assumption)))))))))) | exact And.right (And.right (And.right (And.right (And.right (And.right (And.right (And.right (And.right (by assumption))))))))) | exact And.left (And.right (And.right (And.right (And.right (And.right (And.right (And.right (And.right (And.right (And.right (by assumption))))))))))) | exact And.right (And.right (And.right (And.right (And.right (And.right (And.right (And.right (And.right (And.right (by assumption)))))))))) | exact lta1 (by assumption) | exact lta2 (by assumption) | exact lta3 (by assumption) | exact lta4 (by assumption) | exact lta5 (by assumption) | exact ltd1 (by assumption) | exact ltd2 (by assumption) | exact ltd3 (by assumption) | exact ltd4 (by assumption) | exact ltd5 (by assumption) | exact ltt3 (by assumption) (by assumption) | exact ltt5 (by assumption) (by assumption))
        k_with "eval Name" => ((k_here; (with_reducible show wpAny _ _ (eval (Expr.Name _ _) (compEnvC _ _ _ _)) _ _ _); k_dflt (first | (refine' LCgL.ld_own ?N ?m ?C ?x ?_ ?k ?l ?d; (case l => rfl); (case k => rfl); (case d => decide); (case N => k_asm); (case m => k_mem); (case C => assumption); (case x => assumption); k_whole) | (refine' lcf_free ?N ?c ?m ?d ?_ ?a ?b; (case b => rfl); (case a => rfl); (case N => k_asm); (case c => rfl); (case m => k_mem); (case d => k_asm); k_whole) | (refine' LCgL.ld_global ?F ?X ?T ?e ?_ ?g ?k ?x ?d; (case x => rfl); (case F => k_asm); (case X => k_asm); (case T => k_asm); (case e => k_is); (case g => rfl); (case k => rfl); (case d => decide); k_whole))))
        k_with "subscriptTail Name Name ref int" => ((k_here; (with_reducible show wpAny _ _ (subscriptTail _ _ (Value.ref _) (Value.int _ _)) _ _ _); k_dflt (refine' item_N ?N ?m ?h0 ?h1 ?hx ?_; (case N => k_asm); (case m => k_mem); (case h0 => decide); (case h1 => decide); (case hx => rfl); k_whole)))
        k_with "subscriptTail Name Constant ref int" => ((k_here; (with_reducible show wpAny _ _ (subscriptTail _ _ (Value.ref _) (Value.int _ _)) _ _ _); k_dflt (refine' item_N ?N ?m ?h0 ?h1 ?hx ?_; (case N => k_asm); (case m => k_mem); (case h0 => decide); (case h1 => decide); (case hx => rfl); k_whole)))
        k_with "CompSrc" => ((k_here; k_dflt (first | (refine LCg.CompSrc.ledger (by rfl) (by k_asm) (by k_asm) (by k_mem) (by first | size_fits | exact Nat.le_of_ble_eq_true rfl) ?_; intro g'; lcg_lit) | (refine LCg.CompSrc.range (by rfl) (by k_asm) (by k_asm) (by assumption) (by first | decide | rfl) (by first | rfl | decide) (by first | size_fits | exact Nat.le_of_ble_eq_true rfl) ?_; intro g'; lcg_lit))))
        k_with "CompRest" => ((with_unfolding_all first | (refine LCg.CompRest.succ ?_; intro v' I' oI' C' oC' D' m' h' tk' E' hv' hC' hx' F' N' off' ne'; clear ne'; (first | lcg_open hv' | (obtain ⟨t9', hv9'⟩ := hv'; subst hv9')); (try dsimp only); (try k_fold)) | refine LCg.CompRest.zero ?_))
        k_with "CompRestT" => ((with_unfolding_all first | (refine LCt.CompRestT.succ ?_; intro v' I' oI' C' oC' D' m' h' tk' E' hv' hC' hx' F' N' off' ne'; clear ne'; (first | lcg_open hv' | (obtain ⟨t9', hv9'⟩ := hv'; subst hv9')); (try dsimp only); (try k_fold)) | refine LCt.CompRestT.zero ?_))
        k_with "CompEnd" => ((refine LCg.CompEnd.intro (by assumption) (by assumption) _ (fun _ hp => hp) (by assumption) (by lcg_src) ?_))
        k_with "FinE" => (((unfold LCg.FinE); intro D' h' tk' F' N' o1'; (try simp only [List.nil_append, List.cons_append] at N'); (try dsimp only)))
        k_with "FinA" => (((unfold LCg.FinA); intro D' h' tk' F' N' o1'; (try simp only [List.nil_append, List.cons_append] at N'); (try dsimp only)))
        k_with "exec Assign cons ListComp" => ((k_here; lct_look; k_dflt (refine LCt.Assign_ListComp_T (F₀ := by k_asm) (by rfl) (by with_unfolding_all rfl) (by with_unfolding_all rfl) (by decide) (by rfl) (by decide) (by rfl) (by rfl) (by rfl) ?_)))
        k_with "CompSrcT" => ((k_here; k_dflt (first | (refine LCt.CompSrcT.ledger (by rfl) (by k_asm) (by k_asm) (by k_mem) (by first | size_fits | exact Nat.le_of_ble_eq_true rfl) ?_; intro g'; first | lct_lit | (with_unfolding_all change @LCt.CompRestT _ _ _ _ _ _ _ _ _ _ _ _ _ _ _ _ 4 _ _ _)) | (refine LCt.CompSrcT.range (by rfl) (by k_asm) (by k_asm) (by assumption) (by first | decide | rfl) (by first | rfl | decide) (by first | size_fits | exact Nat.le_of_ble_eq_true rfl) ?_; intro g'; first | lct_lit | (with_unfolding_all change @LCt.CompRestT _ _ _ _ _ _ _ _ _ _ _ _ _ _ _ _ 4 _ _ _)))))
        k_with "law box" => (first | exact bx_f3 _ | exact bx_r27 _ | exact frs_bx (by assumption) | assumption)
        k_with "tok pos" => ((dsimp only; first | assumption | exact Nat.succ_pos _))
        k_with "tok ne" => (first | assumption | exact Nat.succ_ne_zero _ | exact tok_ne (by assumption))
        k_with "law sweep0" => (((repeat (rename LCg.Off1 _ _ => zz; clear zz)); (repeat (rename LitOf _ _ _ _ _ _ _ => zz; clear zz)); (repeat (rename Obj.data _ = _ => zz; clear zz)); (repeat (rename News _ _ _ _ => zz; clear zz)); (repeat (rename Fr _ _ _ _ => zz; clear zz)); (repeat (rename CarriedAll _ _ => zz; clear zz)); (repeat (rename NewPlain _ _ _ => zz; clear zz)); (repeat (rename PySem.W.Dflts _ _ _ => zz; clear zz)); (repeat (rename Heap.CodeRec _ _ _ => zz; clear zz)); (repeat (rename _ ∧ _ => zz; clear zz)); (repeat (rename _ ≠ _ => zz; clear zz)); (repeat (rename IntsAre _ _ => zz; clear zz)); (repeat (rename @LT.lt Nat _ 0 _ => zz; clear zz)); (try dsimp only)))
        k_with "turn end" => ((dsimp only [TPost]; refine' JG_end ?F ?N ?hI ?hX ?c5 ?c4 ?c3 ?c2 ?c1 ?mP ?v1 ?v2 ?v3 ?v4 ?v5 ?hP ?hD ?n5 ?n6 ?n7 ?LO ?oP ?oD ?oX ?oI ?hit; (case hit => assumption); (case F => assumption); (case N => assumption); (case hI => k_mem); (case hX => k_mem); (case c5 => k_mem); (case c4 => k_mem); (case c3 => k_mem); (case c2 => k_mem); (case c1 => k_mem); (case mP => rfl); (case v1 => assumption); (case v2 => assumption); (case v3 => exact ⟨_, by assumption⟩); (case v4 => exact ⟨_, by assumption⟩); (case v5 => exact ⟨_, by assumption⟩); (case hP => k_mem); (case hD => k_mem); (case n5 => assumption); (case n6 => assumption); (case n7 => assumption); (case LO => assumption); (case oP => exact ⟨by k_ne, by k_ne, by k_ne, by k_ne, by k_ne, by k_ne, trivial⟩); (case oX => exact ⟨by k_ne, by k_ne, by k_ne, by k_ne, by k_ne, trivial⟩); (case oD => exact ⟨by k_ne, by k_ne, by k_ne, by k_ne, by k_ne, by k_ne, by k_ne, trivial⟩); (case oI => exact ⟨by k_ne, by k_ne, by k_ne, by k_ne, by k_ne, by k_ne, trivial⟩)))
        k_with "law sweep" => (((repeat (rename LCg.Off1 _ _ => zz; clear zz)); (repeat (rename LitOf _ _ _ _ _ _ _ => zz; clear zz)); (repeat (rename Obj.data _ = _ => zz; clear zz)); (repeat (rename News _ _ _ _ => zz; clear zz)); (repeat (rename Fr _ _ _ _ => zz; clear zz)); (repeat (rename CarriedAll _ _ => zz; clear zz)); (repeat (rename NewPlain _ _ _ => zz; clear zz)); (repeat (rename PySem.W.Dflts _ _ _ => zz; clear zz)); (repeat (rename Heap.CodeRec _ _ _ => zz; clear zz)); (repeat (rename _ < _ ∧ _ => zz; clear zz)); (repeat (rename _ ≠ _ => zz; clear zz)); (repeat (rename IntsAre _ _ => zz; clear zz)); (repeat (rename @LT.lt Nat _ 0 _ => zz; clear zz)); (try dsimp only)))
        k_with "law steps" => (repeat' ((fail_if_success (with_reducible refine Hold.mk ?_)); first | (k_unfold; (try dsimp only)) | ((with_reducible show wpAny _ _ (exec _ _) _ _ _); k_fold) | walk1 | (dsimp only; walk1) | (leave1; try dsimp only) | fail "no step"))
        k_with "execs cons" => (k_here; refine gen_toks (n := _ + 1) (Nat.succ_pos _) ?_; intro tk hpos; (rename Fr _ _ _ _ => lF9; (try dsimp only at lF9)); (try (rename Obj.data _ = Data.cell _ => ld9; dsimp only at ld9)))
        rename GoOn _ _ _ _ _ => GO
        rename 0 ≤ _ ∧ _ < 3 => hg
        rename PySem.Flt.Hid (LitOf _ _ _ _ _ _ _) => LOH
        have LO := LOH.out
        rintro m₁ nd h tk1 ⟨base, ⟨t1, t2, t3, t4, a1, a2, a3, k, kp, o1, o2, o3, o4, o5, e1, e2, e3, e4, rfl, oP, oQ, oPt, oW, ⟨v5, hv5⟩, hv4, ⟨v3, hv3⟩, ⟨v2, hv2⟩, hv1⟩, ⟨hik, kw, rfl⟩ | ⟨hik, R, u1, u2, u3, kw, kr, nu1, nu2, nu3, rfl, oR⟩⟩ F1 N1
        · exfalso
          have := GO.hk
          omega
        rw [pin_eq e4, pin_eq e3, pin_eq e2, pin_eq e1] at F1
        (try dsimp only at F1)
        clear e1 e2 e3 e4
        (try dsimp only)
        have LN := lit_go GO
        ((try k_unmd); (try k_fold); (try k_sweep))
        k_with "call ref" => (k_dflt (first
          | ((with_reducible show wpAny _ _ (call (Value.ref 54) _) _ _ _); refine' useop (lights_lit _ _ _ _ GO.bp GO.bq GO.br GO.bs) ?hp0 ?k1 ?k2 ?k3 ?k4 ?k5 ?k6 ?k7 ?k8 ?k9 ?_; (case hp0 => walk_at "tok pos"); (case k1 => k_asm); (case k2 => k_asm); (case k3 => k_asm); (case k4 => k_asm); (case k5 => k_asm); (case k6 => first | exact rfl | assumption); (case k7 => ktr_room); (case k8 => ktr_units); (case k9 => lcg_sub); k_whole; rintro r9 _ h9 tk9 ⟨x9, y9, z9, w1, w2, w3, w4, nz1, nz2, nz3, LO9, rfl⟩ hp9 F9 N9 O9; obtain ⟨ex0, ex1, ex2⟩ := lit_self2 LO9; (try dsimp only); (try k_fold); (try k_sweep); walk_say "CONTRACT lights")
          | ((with_reducible show wpAny _ _ (call (Value.ref 59) _) _ _ _); refine' useop1 (pegs_lit _ _ _ _ LN) ?hp0 ?k1 ?k2 ?k3 ?k4 ?k5 ?k6 ?k7 ?k8 ?k9 ?_; (case hp0 => walk_at "tok pos"); (case k1 => k_asm); (case k2 => k_asm); (case k3 => k_asm); (case k4 => k_asm); (case k5 => k_asm); (case k6 => first | exact rfl | assumption); (case k7 => ktr_room); (case k8 => ktr_units); (case k9 => lcg_sub); k_whole; rintro r9 _ h9 tk9 ⟨w1, w2, w3, w4, w5, rfl⟩ hp9 F9 N9 O9; (try dsimp only); (try k_fold); (try k_sweep); walk_say "CONTRACT pegs")
          | ((with_reducible show wpAny _ _ (call (Value.ref 64) _) _ _ _); refine' usevp (taken_go _ _ _ _ GO (by assumption)) ?hp0 ?k1 ?k2 ?k3 ?k4 ?k5 ?k6 ?k7 ?k8 ?k9 ?_; (case hp0 => walk_at "tok pos"); (case k1 => k_asm); (case k2 => k_asm); (case k3 => k_asm); (case k4 => k_asm); (case k5 => k_asm); (case k6 => first | exact rfl | assumption); (case k7 => ktr_room); (case k8 => ktr_units); (case k9 => lcg_sub); k_whole; intro t9 h9 tk9 hp9 F9 N9; (try dsimp only); (try k_fold); (try k_sweep); walk_say "CONTRACT taken")))
        k_with "compareOp NotEq ref ref" => (k_dflt (refine ne_fl3 (News.isList (by k_asm) (by k_mem)) (News.isList (by k_asm) (by k_mem)) (by k_units) (by walk_at "tok ne") (by walk_at "tok ne") (by walk_at "tok ne") (by walk_at "tok ne") (by walk_at "tok ne") (by walk_at "tok ne") (none_booked (by k_asm) (by k_asm)) (by assumption) (by assumption) (by assumption) ?_))
        walk_at "law steps"
        k_with_none
        k_with "ne" => (first | exact off1_mem (by with_reducible assumption) (_, _) (by k_mem) | exact Ne.symm (off1_mem (by with_reducible assumption) (_, _) (by k_mem)) | with_reducible exact nd1 _ | with_reducible exact nd2 _ | with_reducible exact nd3 _ | with_reducible exact nd4 _ | with_reducible exact nd5 _ | with_reducible exact nd1' _ | with_reducible exact nd2' _ | with_reducible exact nd3' _ | with_reducible exact nd4' _ | with_reducible exact nd5' _ | (refine Nat.ne_of_lt ?_; with_reducible walk_at "lt") | (refine Nat.ne_of_gt ?_; with_reducible walk_at "lt"))
        k_with "lt" => (first | assumption | exact And.left (by assumption) | exact And.left (And.right (by assumption)) | exact And.right (by assumption) | exact And.left (And.right (And.right (by assumption))) | exact And.right (And.right (by assumption)) | exact And.left (And.right (And.right (And.right (by assumption)))) | exact And.right (And.right (And.right (by assumption))) | exact And.left (And.right (And.right (And.right (And.right (by assumption))))) | exact And.right (And.right (And.right (And.right (by assumption)))) | exact And.left (And.right (And.right (And.right (And.right (And.right (by assumption)))))) | exact And.right (And.right (And.right (And.right (And.right (by assumption))))) | exact And.left (And.right (And.right (And.right (And.right (And.right (And.right (by assumption))))))) | exact And.right (And.right (And.right (And.right (And.right (And.right (by assumption)))))) | exact And.left (And.right (And.right (And.right (And.right (And.right (And.right (And.right (by assumption)))))))) | exact And.right (And.right (And.right (And.right (And.right (And.right (And.right (by assumption))))))) | exact And.left (And.right (And.right (And.right (And.right (And.right (And.right (And.right (And.right (by assumption))))))))) | exact And.right (And.right (And.right (And.right (And.right (And.right (And.right (And.right (by assumption)))))))) | exact And.left (And.right (And.right (And.right (And.right (And.right (And.right (And.right (And.right (And.right (by assumption)))))))))) | exact And.right (And.right (And.right (And.right (And.right (And.right (And.right (And.right (And.right (by assumption))))))))) | exact And.left (And.right (And.right (And.right (And.right (And.right (And.right (And.right (And.right (And.right (And.right (by assumption))))))))))) | exact And.right (And.right (And.right (And.right (And.right (And.right (And.right (And.right (And.right (And.right (by assumption)))))))))) | exact lta1 (by assumption) | exact lta2 (by assumption) | exact lta3 (by assumption) | exact lta4 (by assumption) | exact lta5 (by assumption) | exact ltd1 (by assumption) | exact ltd2 (by assumption) | exact ltd3 (by assumption) | exact ltd4 (by assumption) | exact ltd5 (by assumption) | exact ltt3 (by assumption) (by assumption) | exact ltt5 (by assumption) (by assumption))
        k_with "eval Name" => ((k_here; (with_reducible show wpAny _ _ (eval (Expr.Name _ _) (compEnvC _ _ _ _)) _ _ _); k_dflt (first | (refine' LCgL.ld_own ?N ?m ?C ?x ?_ ?k ?l ?d; (case l => rfl); (case k => rfl); (case d => decide); (case N => k_asm); (case m => k_mem); (case C => assumption); (case x => assumption); k_whole) | (refine' lcf_free ?N ?c ?m ?d ?_ ?a ?b; (case b => rfl); (case a => rfl); (case N => k_asm); (case c => rfl); (case m => k_mem); (case d => k_asm); k_whole) | (refine' LCgL.ld_global ?F ?X ?T ?e ?_ ?g ?k ?x ?d; (case x => rfl); (case F => k_asm); (case X => k_asm); (case T => k_asm); (case e => k_is); (case g => rfl); (case k => rfl); (case d => decide); k_whole))))
        k_with "subscriptTail Name Name ref int" => ((k_here; (with_reducible show wpAny _ _ (subscriptTail _ _ (Value.ref _) (Value.int _ _)) _ _ _); k_dflt (refine' item_N ?N ?m ?h0 ?h1 ?hx ?_; (case N => k_asm); (case m => k_mem); (case h0 => decide); (case h1 => decide); (case hx => rfl); k_whole)))
        k_with "subscriptTail Name Constant ref int" => ((k_here; (with_reducible show wpAny _ _ (subscriptTail _ _ (Value.ref _) (Value.int _ _)) _ _ _); k_dflt (refine' item_N ?N ?m ?h0 ?h1 ?hx ?_; (case N => k_asm); (case m => k_mem); (case h0 => decide); (case h1 => decide); (case hx => rfl); k_whole)))
        k_with "CompSrc" => ((k_here; k_dflt (first | (refine LCg.CompSrc.ledger (by rfl) (by k_asm) (by k_asm) (by k_mem) (by first | size_fits | exact Nat.le_of_ble_eq_true rfl) ?_; intro g'; lcg_lit) | (refine LCg.CompSrc.range (by rfl) (by k_asm) (by k_asm) (by assumption) (by first | decide | rfl) (by first | rfl | decide) (by first | size_fits | exact Nat.le_of_ble_eq_true rfl) ?_; intro g'; lcg_lit))))
        k_with "CompRest" => ((with_unfolding_all first | (refine LCg.CompRest.succ ?_; intro v' I' oI' C' oC' D' m' h' tk' E' hv' hC' hx' F' N' off' ne'; clear ne'; (first | lcg_open hv' | (obtain ⟨t9', hv9'⟩ := hv'; subst hv9')); (try dsimp only); (try k_fold)) | refine LCg.CompRest.zero ?_))
        k_with "CompRestT" => ((with_unfolding_all first | (refine LCt.CompRestT.succ ?_; intro v' I' oI' C' oC' D' m' h' tk' E' hv' hC' hx' F' N' off' ne'; clear ne'; (first | lcg_open hv' | (obtain ⟨t9', hv9'⟩ := hv'; subst hv9')); (try dsimp only); (try k_fold)) | refine LCt.CompRestT.zero ?_))
        k_with "CompEnd" => ((refine LCg.CompEnd.intro (by assumption) (by assumption) _ (fun _ hp => hp) (by assumption) (by lcg_src) ?_))
        k_with "FinE" => (((unfold LCg.FinE); intro D' h' tk' F' N' o1'; (try simp only [List.nil_append, List.cons_append] at N'); (try dsimp only)))
        k_with "FinA" => (((unfold LCg.FinA); intro D' h' tk' F' N' o1'; (try simp only [List.nil_append, List.cons_append] at N'); (try dsimp only)))
        k_with "exec Assign cons ListComp" => ((k_here; lct_look; k_dflt (refine LCt.Assign_ListComp_T (F₀ := by k_asm) (by rfl) (by with_unfolding_all rfl) (by with_unfolding_all rfl) (by decide) (by rfl) (by decide) (by rfl) (by rfl) (by rfl) ?_)))
        k_with "CompSrcT" => ((k_here; k_dflt (first | (refine LCt.CompSrcT.ledger (by rfl) (by k_asm) (by k_asm) (by k_mem) (by first | size_fits | exact Nat.le_of_ble_eq_true rfl) ?_; intro g'; first | lct_lit | (with_unfolding_all change @LCt.CompRestT _ _ _ _ _ _ _ _ _ _ _ _ _ _ _ _ 4 _ _ _)) | (refine LCt.CompSrcT.range (by rfl) (by k_asm) (by k_asm) (by assumption) (by first | decide | rfl) (by first | rfl | decide) (by first | size_fits | exact Nat.le_of_ble_eq_true rfl) ?_; intro g'; first | lct_lit | (with_unfolding_all change @LCt.CompRestT _ _ _ _ _ _ _ _ _ _ _ _ _ _ _ _ 4 _ _ _)))))
        k_with "law box" => (first | exact bx_f3 _ | exact bx_r27 _ | exact frs_bx (by assumption) | assumption)
        k_with "tok pos" => ((dsimp only; first | assumption | exact Nat.succ_pos _))
        k_with "tok ne" => (first | assumption | exact Nat.succ_ne_zero _ | exact tok_ne (by assumption))
        k_with "law sweep0" => (((repeat (rename LCg.Off1 _ _ => zz; clear zz)); (repeat (rename LitOf _ _ _ _ _ _ _ => zz; clear zz)); (repeat (rename Obj.data _ = _ => zz; clear zz)); (repeat (rename News _ _ _ _ => zz; clear zz)); (repeat (rename Fr _ _ _ _ => zz; clear zz)); (repeat (rename CarriedAll _ _ => zz; clear zz)); (repeat (rename NewPlain _ _ _ => zz; clear zz)); (repeat (rename PySem.W.Dflts _ _ _ => zz; clear zz)); (repeat (rename Heap.CodeRec _ _ _ => zz; clear zz)); (repeat (rename _ ∧ _ => zz; clear zz)); (repeat (rename _ ≠ _ => zz; clear zz)); (repeat (rename IntsAre _ _ => zz; clear zz)); (repeat (rename @LT.lt Nat _ 0 _ => zz; clear zz)); (try dsimp only)))
        k_with "turn end" => ((dsimp only [TPost]; refine' JG_end ?F ?N ?hI ?hX ?c5 ?c4 ?c3 ?c2 ?c1 ?mP ?v1 ?v2 ?v3 ?v4 ?v5 ?hP ?hD ?n5 ?n6 ?n7 ?LO ?oP ?oD ?oX ?oI ?hit; (case hit => assumption); (case F => assumption); (case N => assumption); (case hI => k_mem); (case hX => k_mem); (case c5 => k_mem); (case c4 => k_mem); (case c3 => k_mem); (case c2 => k_mem); (case c1 => k_mem); (case mP => rfl); (case v1 => assumption); (case v2 => assumption); (case v3 => exact ⟨_, by assumption⟩); (case v4 => exact ⟨_, by assumption⟩); (case v5 => exact ⟨_, by assumption⟩); (case hP => k_mem); (case hD => k_mem); (case n5 => assumption); (case n6 => assumption); (case n7 => assumption); (case LO => assumption); (case oP => exact ⟨by k_ne, by k_ne, by k_ne, by k_ne, by k_ne, by k_ne, trivial⟩); (case oX => exact ⟨by k_ne, by k_ne, by k_ne, by k_ne, by k_ne, trivial⟩); (case oD => exact ⟨by k_ne, by k_ne, by k_ne, by k_ne, by k_ne, by k_ne, by k_ne, trivial⟩); (case oI => exact ⟨by k_ne, by k_ne, by k_ne, by k_ne, by k_ne, by k_ne, trivial⟩)))
        k_with "law sweep" => (((repeat (rename LCg.Off1 _ _ => zz; clear zz)); (repeat (rename LitOf _ _ _ _ _ _ _ => zz; clear zz)); (repeat (rename Obj.data _ = _ => zz; clear zz)); (repeat (rename News _ _ _ _ => zz; clear zz)); (repeat (rename Fr _ _ _ _ => zz; clear zz)); (repeat (rename CarriedAll _ _ => zz; clear zz)); (repeat (rename NewPlain _ _ _ => zz; clear zz)); (repeat (rename PySem.W.Dflts _ _ _ => zz; clear zz)); (repeat (rename Heap.CodeRec _ _ _ => zz; clear zz)); (repeat (rename _ < _ ∧ _ => zz; clear zz)); (repeat (rename _ ≠ _ => zz; clear zz)); (repeat (rename IntsAre _ _ => zz; clear zz)); (repeat (rename @LT.lt Nat _ 0 _ => zz; clear zz)); (try dsimp only)))
        k_with "law steps" => (repeat' ((fail_if_success (with_reducible refine Hold.mk ?_)); first | (k_unfold; (try dsimp only)) | ((with_reducible show wpAny _ _ (exec _ _) _ _ _); k_fold) | walk1 | (dsimp only; walk1) | (leave1; try dsimp only) | fail "no step"))
        rename GoOn _ _ _ _ _ => GO
        rename 0 ≤ _ ∧ _ < 3 => hg
        rename PySem.Flt.Hid (IntsAre _ _) => hiH
        have hi := hiH.out
        rename _ ≤ nl _ _ _ _ _ => hle
        rename nl _ _ _ _ _ + _ = 15 => hsum
        rename LitOf (St4.p _) _ _ _ (fl16 _) _ _ => LN
        dsimp only [WJPost]
        refine' JW_end hg ?zdF ?zdN ?zdc5 ?zdc4 ?zdc3 ?zdc2 ?zdc1 ?zdmP ?zdmD ?zdmQ ?zdv1 ?zdv2 ?zdv3 ?zdv4 ?zdv5 ?zdhP ?zdhD ?zdhQ ?zdn5 ?zdn6 ?zdn7 LN hi hle hsum GO.hng ?zdoP ?zdoD ?zdoQ
        (case zdF => assumption)
        (case zdN => assumption)
        (case zdc5 => k_mem)
        (case zdc4 => k_mem)
        (case zdc3 => k_mem)
        (case zdc2 => k_mem)
        (case zdc1 => k_mem)
        (case zdmP => rfl)
        (case zdmD => rfl)
        (case zdmQ => rfl)
        (case zdv1 => assumption)
        (case zdv2 => assumption)
        (case zdv3 => exact ⟨_, by assumption⟩)
        (case zdv4 => exact ⟨_, by assumption⟩)
        (case zdv5 => exact ⟨_, by assumption⟩)
        (case zdhP => k_mem)
        (case zdhD => k_mem)
        (case zdhQ => k_mem)
        (case zdn5 => assumption)
        (case zdn6 => assumption)
        (case zdn7 => assumption)
        (case zdoP => exact ⟨by k_ne, by k_ne, by k_ne, by k_ne, by k_ne, by k_ne, trivial⟩)
        (case zdoD => exact ⟨by k_ne, by k_ne, by k_ne, by k_ne, by k_ne, by k_ne, by k_ne, trivial⟩)
        (case zdoQ => exact ⟨by k_ne, by k_ne, by k_ne, by k_ne, by k_ne, trivial⟩)
      · k_with_none
        k_with "ne" => (first | exact off1_mem (by with_reducible assumption) (_, _) (by k_mem) | exact Ne.symm (off1_mem (by with_reducible assumption) (_, _) (by k_mem)) | with_reducible exact nd1 _ | with_reducible exact nd2 _ | with_reducible exact nd3 _ | with_reducible exact nd4 _ | with_reducible exact nd5 _ | with_reducible exact nd1' _ | with_reducible exact nd2' _ | with_reducible exact nd3' _ | with_reducible exact nd4' _ | with_reducible exact nd5' _ | (refine Nat.ne_of_lt ?_; with_reducible walk_at "lt") | (refine Nat.ne_of_gt ?_; with_reducible walk_at "lt"))
        k_with "lt" => (first | assumption | exact And.left (by assumption) | exact And.left (And.right (by assumption)) | exact And.right (by assumption) | exact And.left (And.right (And.right (by assumption))) | exact And.right (And.right (by assumption)) | exact And.left (And.right (And.right (And.right (by assumption)))) | exact And.right (And.right (And.right (by assumption))) | exact And.left (And.right (And.right (And.right (And.right (by assumption))))) | exact And.right (And.right (And.right (And.right (by assumption)))) | exact And.left (And.right (And.right (And.right (And.right (And.right (by assumption)))))) | exact And.right (And.right (And.right (And.right (And.right (by assumption))))) | exact And.left (And.right (And.right (And.right (And.right (And.right (And.right (by assumption))))))) | exact And.right (And.right (And.right (And.right (And.right (And.right (by assumption)))))) | exact And.left (And.right (And.right (And.right (And.right (And.right (And.right (And.right (by assumption)))))))) | exact And.right (And.right (And.right (And.right (And.right (And.right (And.right (by assumption))))))) | exact And.left (And.right (And.right (And.right (And.right (And.right (And.right (And.right (And.right (by assumption))))))))) | exact And.right (And.right (And.right (And.right (And.right (And.right (And.right (And.right (by assumption)))))))) | exact And.left (And.right (And.right (And.right (And.right (And.right (And.right (And.right (And.right (And.right (by assumption)))))))))) | exact And.right (And.right (And.right (And.right (And.right (And.right (And.right (And.right (And.right (by assumption))))))))) | exact And.left (And.right (And.right (And.right (And.right (And.right (And.right (And.right (And.right (And.right (And.right (by assumption))))))))))) | exact And.right (And.right (And.right (And.right (And.right (And.right (And.right (And.right (And.right (And.right (by assumption)))))))))) | exact lta1 (by assumption) | exact lta2 (by assumption) | exact lta3 (by assumption) | exact lta4 (by assumption) | exact lta5 (by assumption) | exact ltd1 (by assumption) | exact ltd2 (by assumption) | exact ltd3 (by assumption) | exact ltd4 (by assumption) | exact ltd5 (by assumption) | exact ltt3 (by assumption) (by assumption) | exact ltt5 (by assumption) (by assumption))
        k_with "eval Name" => ((k_here; (with_reducible show wpAny _ _ (eval (Expr.Name _ _) (compEnvC _ _ _ _)) _ _ _); k_dflt (first | (refine' LCgL.ld_own ?N ?m ?C ?x ?_ ?k ?l ?d; (case l => rfl); (case k => rfl); (case d => decide); (case N => k_asm); (case m => k_mem); (case C => assumption); (case x => assumption); k_whole) | (refine' lcf_free ?N ?c ?m ?d ?_ ?a ?b; (case b => rfl); (case a => rfl); (case N => k_asm); (case c => rfl); (case m => k_mem); (case d => k_asm); k_whole) | (refine' LCgL.ld_global ?F ?X ?T ?e ?_ ?g ?k ?x ?d; (case x => rfl); (case F => k_asm); (case X => k_asm); (case T => k_asm); (case e => k_is); (case g => rfl); (case k => rfl); (case d => decide); k_whole))))
        k_with "subscriptTail Name Name ref int" => ((k_here; (with_reducible show wpAny _ _ (subscriptTail _ _ (Value.ref _) (Value.int _ _)) _ _ _); k_dflt (refine' item_N ?N ?m ?h0 ?h1 ?hx ?_; (case N => k_asm); (case m => k_mem); (case h0 => decide); (case h1 => decide); (case hx => rfl); k_whole)))
        k_with "subscriptTail Name Constant ref int" => ((k_here; (with_reducible show wpAny _ _ (subscriptTail _ _ (Value.ref _) (Value.int _ _)) _ _ _); k_dflt (refine' item_N ?N ?m ?h0 ?h1 ?hx ?_; (case N => k_asm); (case m => k_mem); (case h0 => decide); (case h1 => decide); (case hx => rfl); k_whole)))
        k_with "CompSrc" => ((k_here; k_dflt (first | (refine LCg.CompSrc.ledger (by rfl) (by k_asm) (by k_asm) (by k_mem) (by first | size_fits | exact Nat.le_of_ble_eq_true rfl) ?_; intro g'; lcg_lit) | (refine LCg.CompSrc.range (by rfl) (by k_asm) (by k_asm) (by assumption) (by first | decide | rfl) (by first | rfl | decide) (by first | size_fits | exact Nat.le_of_ble_eq_true rfl) ?_; intro g'; lcg_lit))))
        k_with "CompRest" => ((with_unfolding_all first | (refine LCg.CompRest.succ ?_; intro v' I' oI' C' oC' D' m' h' tk' E' hv' hC' hx' F' N' off' ne'; clear ne'; (first | lcg_open hv' | (obtain ⟨t9', hv9'⟩ := hv'; subst hv9')); (try dsimp only); (try k_fold)) | refine LCg.CompRest.zero ?_))
        k_with "CompRestT" => ((with_unfolding_all first | (refine LCt.CompRestT.succ ?_; intro v' I' oI' C' oC' D' m' h' tk' E' hv' hC' hx' F' N' off' ne'; clear ne'; (first | lcg_open hv' | (obtain ⟨t9', hv9'⟩ := hv'; subst hv9')); (try dsimp only); (try k_fold)) | refine LCt.CompRestT.zero ?_))
        k_with "CompEnd" => ((refine LCg.CompEnd.intro (by assumption) (by assumption) _ (fun _ hp => hp) (by assumption) (by lcg_src) ?_))
        k_with "FinE" => (((unfold LCg.FinE); intro D' h' tk' F' N' o1'; (try simp only [List.nil_append, List.cons_append] at N'); (try dsimp only)))
        k_with "FinA" => (((unfold LCg.FinA); intro D' h' tk' F' N' o1'; (try simp only [List.nil_append, List.cons_append] at N'); (try dsimp only)))
        k_with "exec Assign cons ListComp" => ((k_here; lct_look; k_dflt (refine LCt.Assign_ListComp_T (F₀ := by k_asm) (by rfl) (by with_unfolding_all rfl) (by with_unfolding_all rfl) (by decide) (by rfl) (by decide) (by rfl) (by rfl) (by rfl) ?_)))
        k_with "CompSrcT" => ((k_here; k_dflt (first | (refine LCt.CompSrcT.ledger (by rfl) (by k_asm) (by k_asm) (by k_mem) (by first | size_fits | exact Nat.le_of_ble_eq_true rfl) ?_; intro g'; first | lct_lit | (with_unfolding_all change @LCt.CompRestT _ _ _ _ _ _ _ _ _ _ _ _ _ _ _ _ 4 _ _ _)) | (refine LCt.CompSrcT.range (by rfl) (by k_asm) (by k_asm) (by assumption) (by first | decide | rfl) (by first | rfl | decide) (by first | size_fits | exact Nat.le_of_ble_eq_true rfl) ?_; intro g'; first | lct_lit | (with_unfolding_all change @LCt.CompRestT _ _ _ _ _ _ _ _ _ _ _ _ _ _ _ _ 4 _ _ _)))))
        k_with "law box" => (first | exact bx_f3 _ | exact bx_r27 _ | exact frs_bx (by assumption) | assumption)
        k_with "tok pos" => ((dsimp only; first | assumption | exact Nat.succ_pos _))
        k_with "tok ne" => (first | assumption | exact Nat.succ_ne_zero _ | exact tok_ne (by assumption))
        k_with "law sweep0" => (((repeat (rename LCg.Off1 _ _ => zz; clear zz)); (repeat (rename LitOf _ _ _ _ _ _ _ => zz; clear zz)); (repeat (rename Obj.data _ = _ => zz; clear zz)); (repeat (rename News _ _ _ _ => zz; clear zz)); (repeat (rename Fr _ _ _ _ => zz; clear zz)); (repeat (rename CarriedAll _ _ => zz; clear zz)); (repeat (rename NewPlain _ _ _ => zz; clear zz)); (repeat (rename PySem.W.Dflts _ _ _ => zz; clear zz)); (repeat (rename Heap.CodeRec _ _ _ => zz; clear zz)); (repeat (rename _ ∧ _ => zz; clear zz)); (repeat (rename _ ≠ _ => zz; clear zz)); (repeat (rename IntsAre _ _ => zz; clear zz)); (repeat (rename @LT.lt Nat _ 0 _ => zz; clear zz)); (try dsimp only)))
        k_with "turn end" => ((dsimp only [TPost]; refine' JG_end ?F ?N ?hI ?hX ?c5 ?c4 ?c3 ?c2 ?c1 ?mP ?v1 ?v2 ?v3 ?v4 ?v5 ?hP ?hD ?n5 ?n6 ?n7 ?LO ?oP ?oD ?oX ?oI ?hit; (case hit => assumption); (case F => assumption); (case N => assumption); (case hI => k_mem); (case hX => k_mem); (case c5 => k_mem); (case c4 => k_mem); (case c3 => k_mem); (case c2 => k_mem); (case c1 => k_mem); (case mP => rfl); (case v1 => assumption); (case v2 => assumption); (case v3 => exact ⟨_, by assumption⟩); (case v4 => exact ⟨_, by assumption⟩); (case v5 => exact ⟨_, by assumption⟩); (case hP => k_mem); (case hD => k_mem); (case n5 => assumption); (case n6 => assumption); (case n7 => assumption); (case LO => assumption); (case oP => exact ⟨by k_ne, by k_ne, by k_ne, by k_ne, by k_ne, by k_ne, trivial⟩); (case oX => exact ⟨by k_ne, by k_ne, by k_ne, by k_ne, by k_ne, trivial⟩); (case oD => exact ⟨by k_ne, by k_ne, by k_ne, by k_ne, by k_ne, by k_ne, by k_ne, trivial⟩); (case oI => exact ⟨by k_ne, by k_ne, by k_ne, by k_ne, by k_ne, by k_ne, trivial⟩)))
        k_with "law sweep" => (((repeat (rename LCg.Off1 _ _ => zz; clear zz)); (repeat (rename LitOf _ _ _ _ _ _ _ => zz; clear zz)); (repeat (rename Obj.data _ = _ => zz; clear zz)); (repeat (rename News _ _ _ _ => zz; clear zz)); (repeat (rename Fr _ _ _ _ => zz; clear zz)); (repeat (rename CarriedAll _ _ => zz; clear zz)); (repeat (rename NewPlain _ _ _ => zz; clear zz)); (repeat (rename PySem.W.Dflts _ _ _ => zz; clear zz)); (repeat (rename Heap.CodeRec _ _ _ => zz; clear zz)); (repeat (rename _ < _ ∧ _ => zz; clear zz)); (repeat (rename _ ≠ _ => zz; clear zz)); (repeat (rename IntsAre _ _ => zz; clear zz)); (repeat (rename @LT.lt Nat _ 0 _ => zz; clear zz)); (try dsimp only)))
        k_with "law steps" => (repeat' ((fail_if_success (with_reducible refine Hold.mk ?_)); first | (k_unfold; (try dsimp only)) | ((with_reducible show wpAny _ _ (exec _ _) _ _ _); k_fold) | walk1 | (dsimp only; walk1) | (leave1; try dsimp only) | fail "no step"))
        k_with "execs cons" => (k_here; refine gen_toks (n := _ + 1) (Nat.succ_pos _) ?_; intro tk hpos; (rename Fr _ _ _ _ => lF9; (try dsimp only at lF9)); (try (rename Obj.data _ = Data.cell _ => ld9; dsimp only at ld9)))
        rename GoOn _ _ _ _ _ => GO
        rintro i t I it m₁ nd h G Dr tk1 O hi3 hI ⟨base, ⟨t1, t2, t3, t4, a1, a2, a3, k, kp, o1, o2, o3, o4, o5, e1, e2, e3, e4, rfl, oP, oQ, oPt, oW, ⟨v5, hv5⟩, hv4, ⟨v3, hv3⟩, ⟨v2, hv2⟩, hv1⟩, ⟨hik, kw, rfl⟩ | ⟨hik, R, u1, u2, u3, kw, kr, nu1, nu2, nu3, rfl, oR⟩⟩ F1 N1
        all_goals (rw [pin_eq e4, pin_eq e3, pin_eq e2, pin_eq e1] at F1)
        all_goals (try dsimp only at F1)
        all_goals clear e1 e2 e3 e4
        all_goals ((try k_unmd); (try k_fold); (try k_sweep))
        walk_at "law steps"
        · k_with_none
          k_with "ne" => (first | exact off1_mem (by with_reducible assumption) (_, _) (by k_mem) | exact Ne.symm (off1_mem (by with_reducible assumption) (_, _) (by k_mem)) | with_reducible exact nd1 _ | with_reducible exact nd2 _ | with_reducible exact nd3 _ | with_reducible exact nd4 _ | with_reducible exact nd5 _ | with_reducible exact nd1' _ | with_reducible exact nd2' _ | with_reducible exact nd3' _ | with_reducible exact nd4' _ | with_reducible exact nd5' _ | (refine Nat.ne_of_lt ?_; with_reducible walk_at "lt") | (refine Nat.ne_of_gt ?_; with_reducible walk_at "lt"))
          k_with "lt" => (first | assumption | exact And.left (by assumption) | exact And.left (And.right (by assumption)) | exact And.right (by assumption) | exact And.left (And.right (And.right (by assumption))) | exact And.right (And.right (by assumption)) | exact And.left (And.right (And.right (And.right (by assumption)))) | exact And.right (And.right (And.right (by assumption))) | exact And.left (And.right (And.right (And.right (And.right (by assumption))))) | exact And.right (And.right (And.right (And.right (by assumption)))) | exact And.left (And.right (And.right (And.right (And.right (And.right (by assumption)))))) | exact And.right (And.right (And.right (And.right (And.right (by assumption))))) | exact And.left (And.right (And.right (And.right (And.right (And.right (And.right (by assumption))))))) | exact And.right (And.right (And.right (And.right (And.right (And.right (by assumption)))))) | exact And.left (And.right (And.right (And.right (And.right (And.right (And.right (And.right (by assumption)))))))) | exact And.right (And.right (And.right (And.right (And.right (And.right (And.right (by assumption))))))) | exact And.left (And.right (And.right (And.right (And.right (And.right (And.right (And.right (And.right (by assumption))))))))) | exact And.right (And.right (And.right (And.right (And.right (And.right (And.right (And.right (by assumption)))))))) | exact And.left (And.right (And.right (And.right (And.right (And.right (And.right (And.right (And.right (And.right (by assumption)))))))))) | exact And.right (And.right (And.right (And.right (And.right (And.right (And.right (And.right (And.right (by assumption))))))))) | exact And.left (And.right (And.right (And.right (And.right (And.right (And.right (And.right (And.right (And.right (And.right (by assumption))))))))))) | exact And.right (And.right (And.right (And.right (And.right (And.right (And.right (And.right (And.right (And.right (by assumption)))))))))) | exact lta1 (by assumption) | exact lta2 (by assumption) | exact lta3 (by assumption) | exact lta4 (by assumption) | exact lta5 (by assumption) | exact ltd1 (by assumption) | exact ltd2 (by assumption) | exact ltd3 (by assumption) | exact ltd4 (by assumption) | exact ltd5 (by assumption) | exact ltt3 (by assumption) (by assumption) | exact ltt5 (by assumption) (by assumption))
          k_with "eval Name" => ((k_here; (with_reducible show wpAny _ _ (eval (Expr.Name _ _) (compEnvC _ _ _ _)) _ _ _); k_dflt (first | (refine' LCgL.ld_own ?N ?m ?C ?x ?_ ?k ?l ?d; (case l => rfl); (case k => rfl); (case d => decide); (case N => k_asm); (case m => k_mem); (case C => assumption); (case x => assumption); k_whole) | (refine' lcf_free ?N ?c ?m ?d ?_ ?a ?b; (case b => rfl); (case a => rfl); (case N => k_asm); (case c => rfl); (case m => k_mem); (case d => k_asm); k_whole) | (refine' LCgL.ld_global ?F ?X ?T ?e ?_ ?g ?k ?x ?d; (case x => rfl); (case F => k_asm); (case X => k_asm); (case T => k_asm); (case e => k_is); (case g => rfl); (case k => rfl); (case d => decide); k_whole))))
          k_with "subscriptTail Name Name ref int" => ((k_here; (with_reducible show wpAny _ _ (subscriptTail _ _ (Value.ref _) (Value.int _ _)) _ _ _); k_dflt (refine' item_N ?N ?m ?h0 ?h1 ?hx ?_; (case N => k_asm); (case m => k_mem); (case h0 => decide); (case h1 => decide); (case hx => rfl); k_whole)))
          k_with "subscriptTail Name Constant ref int" => ((k_here; (with_reducible show wpAny _ _ (subscriptTail _ _ (Value.ref _) (Value.int _ _)) _ _ _); k_dflt (refine' item_N ?N ?m ?h0 ?h1 ?hx ?_; (case N => k_asm); (case m => k_mem); (case h0 => decide); (case h1 => decide); (case hx => rfl); k_whole)))
          k_with "CompSrc" => ((k_here; k_dflt (first | (refine LCg.CompSrc.ledger (by rfl) (by k_asm) (by k_asm) (by k_mem) (by first | size_fits | exact Nat.le_of_ble_eq_true rfl) ?_; intro g'; lcg_lit) | (refine LCg.CompSrc.range (by rfl) (by k_asm) (by k_asm) (by assumption) (by first | decide | rfl) (by first | rfl | decide) (by first | size_fits | exact Nat.le_of_ble_eq_true rfl) ?_; intro g'; lcg_lit))))
          k_with "CompRest" => ((with_unfolding_all first | (refine LCg.CompRest.succ ?_; intro v' I' oI' C' oC' D' m' h' tk' E' hv' hC' hx' F' N' off' ne'; clear ne'; (first | lcg_open hv' | (obtain ⟨t9', hv9'⟩ := hv'; subst hv9')); (try dsimp only); (try k_fold)) | refine LCg.CompRest.zero ?_))
          k_with "CompRestT" => ((with_unfolding_all first | (refine LCt.CompRestT.succ ?_; intro v' I' oI' C' oC' D' m' h' tk' E' hv' hC' hx' F' N' off' ne'; clear ne'; (first | lcg_open hv' | (obtain ⟨t9', hv9'⟩ := hv'; subst hv9')); (try dsimp only); (try k_fold)) | refine LCt.CompRestT.zero ?_))
          k_with "CompEnd" => ((refine LCg.CompEnd.intro (by assumption) (by assumption) _ (fun _ hp => hp) (by assumption) (by lcg_src) ?_))
          k_with "FinE" => (((unfold LCg.FinE); intro D' h' tk' F' N' o1'; (try simp only [List.nil_append, List.cons_append] at N'); (try dsimp only)))
          k_with "FinA" => (((unfold LCg.FinA); intro D' h' tk' F' N' o1'; (try simp only [List.nil_append, List.cons_append] at N'); (try dsimp only)))
          k_with "exec Assign cons ListComp" => ((k_here; lct_look; k_dflt (refine LCt.Assign_ListComp_T (F₀ := by k_asm) (by rfl) (by with_unfolding_all rfl) (by with_unfolding_all rfl) (by decide) (by rfl) (by decide) (by rfl) (by rfl) (by rfl) ?_)))
          k_with "CompSrcT" => ((k_here; k_dflt (first | (refine LCt.CompSrcT.ledger (by rfl) (by k_asm) (by k_asm) (by k_mem) (by first | size_fits | exact Nat.le_of_ble_eq_true rfl) ?_; intro g'; first | lct_lit | (with_unfolding_all change @LCt.CompRestT _ _ _ _ _ _ _ _ _ _ _ _ _ _ _ _ 4 _ _ _)) | (refine LCt.CompSrcT.range (by rfl) (by k_asm) (by k_asm) (by assumption) (by first | decide | rfl) (by first | rfl | decide) (by first | size_fits | exact Nat.le_of_ble_eq_true rfl) ?_; intro g'; first | lct_lit | (with_unfolding_all change @LCt.CompRestT _ _ _ _ _ _ _ _ _ _ _ _ _ _ _ _ 4 _ _ _)))))
          k_with "law box" => (first | exact bx_f3 _ | exact bx_r27 _ | exact frs_bx (by assumption) | assumption)
          k_with "tok pos" => ((dsimp only; first | assumption | exact Nat.succ_pos _))
          k_with "tok ne" => (first | assumption | exact Nat.succ_ne_zero _ | exact tok_ne (by assumption))
          k_with "law sweep0" => (((repeat (rename LCg.Off1 _ _ => zz; clear zz)); (repeat (rename LitOf _ _ _ _ _ _ _ => zz; clear zz)); (repeat (rename Obj.data _ = _ => zz; clear zz)); (repeat (rename News _ _ _ _ => zz; clear zz)); (repeat (rename Fr _ _ _ _ => zz; clear zz)); (repeat (rename CarriedAll _ _ => zz; clear zz)); (repeat (rename NewPlain _ _ _ => zz; clear zz)); (repeat (rename PySem.W.Dflts _ _ _ => zz; clear zz)); (repeat (rename Heap.CodeRec _ _ _ => zz; clear zz)); (repeat (rename _ ∧ _ => zz; clear zz)); (repeat (rename _ ≠ _ => zz; clear zz)); (repeat (rename IntsAre _ _ => zz; clear zz)); (repeat (rename @LT.lt Nat _ 0 _ => zz; clear zz)); (try dsimp only)))
          k_with "turn end" => ((dsimp only [TPost]; refine' JG_end ?F ?N ?hI ?hX ?c5 ?c4 ?c3 ?c2 ?c1 ?mP ?v1 ?v2 ?v3 ?v4 ?v5 ?hP ?hD ?n5 ?n6 ?n7 ?LO ?oP ?oD ?oX ?oI ?hit; (case hit => assumption); (case F => assumption); (case N => assumption); (case hI => k_mem); (case hX => k_mem); (case c5 => k_mem); (case c4 => k_mem); (case c3 => k_mem); (case c2 => k_mem); (case c1 => k_mem); (case mP => rfl); (case v1 => assumption); (case v2 => assumption); (case v3 => exact ⟨_, by assumption⟩); (case v4 => exact ⟨_, by assumption⟩); (case v5 => exact ⟨_, by assumption⟩); (case hP => k_mem); (case hD => k_mem); (case n5 => assumption); (case n6 => assumption); (case n7 => assumption); (case LO => assumption); (case oP => exact ⟨by k_ne, by k_ne, by k_ne, by k_ne, by k_ne, by k_ne, trivial⟩); (case oX => exact ⟨by k_ne, by k_ne, by k_ne, by k_ne, by k_ne, trivial⟩); (case oD => exact ⟨by k_ne, by k_ne, by k_ne, by k_ne, by k_ne, by k_ne, by k_ne, trivial⟩); (case oI => exact ⟨by k_ne, by k_ne, by k_ne, by k_ne, by k_ne, by k_ne, trivial⟩)))
          k_with "law sweep" => (((repeat (rename LCg.Off1 _ _ => zz; clear zz)); (repeat (rename LitOf _ _ _ _ _ _ _ => zz; clear zz)); (repeat (rename Obj.data _ = _ => zz; clear zz)); (repeat (rename News _ _ _ _ => zz; clear zz)); (repeat (rename Fr _ _ _ _ => zz; clear zz)); (repeat (rename CarriedAll _ _ => zz; clear zz)); (repeat (rename NewPlain _ _ _ => zz; clear zz)); (repeat (rename PySem.W.Dflts _ _ _ => zz; clear zz)); (repeat (rename Heap.CodeRec _ _ _ => zz; clear zz)); (repeat (rename _ < _ ∧ _ => zz; clear zz)); (repeat (rename _ ≠ _ => zz; clear zz)); (repeat (rename IntsAre _ _ => zz; clear zz)); (repeat (rename @LT.lt Nat _ 0 _ => zz; clear zz)); (try dsimp only)))
          k_with "law steps" => (repeat' ((fail_if_success (with_reducible refine Hold.mk ?_)); first | (k_unfold; (try dsimp only)) | ((with_reducible show wpAny _ _ (exec _ _) _ _ _); k_fold) | walk1 | (dsimp only; walk1) | (leave1; try dsimp only) | fail "no step"))
          rename GoOn _ _ _ _ _ => GO
          rename _ < 3 => hi3
          rename Builtin.bitOr _ _ = 15 => zo
          (repeat (rename (16 : Int) ≠ 0 => zz; clear zz))
          rename (Nat.cast _ : Int) ≠ _ => zn
          have ek := giv_yes GO hi3 tri_0 tri_1 tri_2 zn zo
          have r0 := row_val GO ek 0 (by decide) (tri_0 (i := _))
          have r1 := row_val GO ek 1 (by decide) (tri_1 (i := _))
          have r2 := row_val GO ek 2 (by decide) (tri_2 (i := _))
          rename News _ _ _ _ => NN
          rw [r0, r1, r2] at NN
          have p1 : ∀ v : Value, (List.toArray [] : Array Value).push v = List.toArray [v] := fun _ => rfl
          simp only [p1] at NN
          refine' JV_end ?z50F ?z50N ?z50hI ?z50c5 ?z50c4 ?z50c3 ?z50c2 ?z50c1 ?z50mP ?z50mD ?z50mQ ?z50mW ?z50v1 ?z50v4 ?z50v2 ?z50v3 ?z50v5 ?z50hP ?z50hQ ?z50hPt ?z50oP ?z50oQ ?z50oPt ?z50oW ?z50oI [(_, listOf #[Value.ref _] _), (_, fl3 _ _ _ _ _ _ _)] ?z50ht ?z50oIt (.inr ⟨by omega, _, _, _, _, _, _, Nat.succ_ne_zero _, Nat.succ_ne_zero _, Nat.succ_ne_zero _, rfl, ?z50oR⟩)
          ((case z50F => assumption); (case z50N => assumption); (case z50hI => k_mem); (case z50c5 => k_mem); (case z50c4 => k_mem); (case z50c3 => k_mem); (case z50c2 => k_mem); (case z50c1 => k_mem); (case z50mP => rfl); (case z50mD => rfl); (case z50mQ => rfl); (case z50mW => rfl); (case z50v1 => assumption); (case z50v4 => assumption); (case z50v2 => exact ⟨_, by assumption⟩); (case z50v3 => exact ⟨_, by assumption⟩); (case z50v5 => exact ⟨_, by assumption⟩); (case z50hP => k_mem); (case z50hQ => k_mem); (case z50hPt => k_mem); (case z50oP => exact ⟨by k_ne, by k_ne, by k_ne, by k_ne, by k_ne, by k_ne, trivial⟩); (case z50oQ => exact ⟨by k_ne, by k_ne, by k_ne, by k_ne, by k_ne, trivial⟩); (case z50oPt => exact ⟨by k_ne, by k_ne, by k_ne, by k_ne, by k_ne, trivial⟩); (case z50oW => exact ⟨by k_ne, by k_ne, by k_ne, by k_ne, by k_ne, by k_ne, by k_ne, by k_ne, trivial⟩); (case z50oI => exact ⟨by k_ne, by k_ne, by k_ne, by k_ne, by k_ne, by k_ne, by k_ne, by k_ne, trivial⟩); (case z50ht => lcg_sub))
          (case z50oIt => exact ⟨by k_ne, by k_ne, trivial⟩)
          (case z50oR => exact ⟨by k_ne, by k_ne, by k_ne, by k_ne, by k_ne, by k_ne, by k_ne, by k_ne, by k_ne, trivial⟩)
        · k_with_none
          k_with "ne" => (first | exact off1_mem (by with_reducible assumption) (_, _) (by k_mem) | exact Ne.symm (off1_mem (by with_reducible assumption) (_, _) (by k_mem)) | with_reducible exact nd1 _ | with_reducible exact nd2 _ | with_reducible exact nd3 _ | with_reducible exact nd4 _ | with_reducible exact nd5 _ | with_reducible exact nd1' _ | with_reducible exact nd2' _ | with_reducible exact nd3' _ | with_reducible exact nd4' _ | with_reducible exact nd5' _ | (refine Nat.ne_of_lt ?_; with_reducible walk_at "lt") | (refine Nat.ne_of_gt ?_; with_reducible walk_at "lt"))
          k_with "lt" => (first | assumption | exact And.left (by assumption) | exact And.left (And.right (by assumption)) | exact And.right (by assumption) | exact And.left (And.right (And.right (by assumption))) | exact And.right (And.right (by assumption)) | exact And.left (And.right (And.right (And.right (by assumption)))) | exact And.right (And.right (And.right (by assumption))) | exact And.left (And.right (And.right (And.right (And.right (by assumption))))) | exact And.right (And.right (And.right (And.right (by assumption)))) | exact And.left (And.right (And.right (And.right (And.right (And.right (by assumption)))))) | exact And.right (And.right (And.right (And.right (And.right (by assumption))))) | exact And.left (And.right (And.right (And.right (And.right (And.right (And.right (by assumption))))))) | exact And.right (And.right (And.right (And.right (And.right (And.right (by assumption)))))) | exact And.left (And.right (And.right (And.right (And.right (And.right (And.right (And.right (by assumption)))))))) | exact And.right (And.right (And.right (And.right (And.right (And.right (And.right (by assumption))))))) | exact And.left (And.right (And.right (And.right (And.right (And.right (And.right (And.right (And.right (by assumption))))))))) | exact And.right (And.right (And.right (And.right (And.right (And.right (And.right (And.right (by assumption)))))))) | exact And.left (And.right (And.right (And.right (And.right (And.right (And.right (And.right (And.right (And.right (by assumption)))))))))) | exact And.right (And.right (And.right (And.right (And.right (And.right (And.right (And.right (And.right (by assumption))))))))) | exact And.left (And.right (And.right (And.right (And.right (And.right (And.right (And.right (And.right (And.right (And.right (by assumption))))))))))) | exact And.right (And.right (And.right (And.right (And.right (And.right (And.right (And.right (And.right (And.right (by assumption)))))))))) | exact lta1 (by assumption) | exact lta2 (by assumption) | exact lta3 (by assumption) | exact lta4 (by assumption) | exact lta5 (by assumption) | exact ltd1 (by assumption) | exact ltd2 (by assumption) | exact ltd3 (by assumption) | exact ltd4 (by assumption) | exact ltd5 (by assumption) | exact ltt3 (by assumption) (by assumption) | exact ltt5 (by assumption) (by assumption))
          k_with "eval Name" => ((k_here; (with_reducible show wpAny _ _ (eval (Expr.Name _ _) (compEnvC _ _ _ _)) _ _ _); k_dflt (first | (refine' LCgL.ld_own ?N ?m ?C ?x ?_ ?k ?l ?d; (case l => rfl); (case k => rfl); (case d => decide); (case N => k_asm); (case m => k_mem); (case C => assumption); (case x => assumption); k_whole) | (refine' lcf_free ?N ?c ?m ?d ?_ ?a ?b; (case b => rfl); (case a => rfl); (case N => k_asm); (case c => rfl); (case m => k_mem); (case d => k_asm); k_whole) | (refine' LCgL.ld_global ?F ?X ?T ?e ?_ ?g ?k ?x ?d; (case x => rfl); (case F => k_asm); (case X => k_asm); (case T => k_asm); (case e => k_is); (case g => rfl); (case k => rfl); (case d => decide); k_whole))))
          k_with "subscriptTail Name Name ref int" => ((k_here; (with_reducible show wpAny _ _ (subscriptTail _ _ (Value.ref _) (Value.int _ _)) _ _ _); k_dflt (refine' item_N ?N ?m ?h0 ?h1 ?hx ?_; (case N => k_asm); (case m => k_mem); (case h0 => decide); (case h1 => decide); (case hx => rfl); k_whole)))
          k_with "subscriptTail Name Constant ref int" => ((k_here; (with_reducible show wpAny _ _ (subscriptTail _ _ (Value.ref _) (Value.int _ _)) _ _ _); k_dflt (refine' item_N ?N ?m ?h0 ?h1 ?hx ?_; (case N => k_asm); (case m => k_mem); (case h0 => decide); (case h1 => decide); (case hx => rfl); k_whole)))
          k_with "CompSrc" => ((k_here; k_dflt (first | (refine LCg.CompSrc.ledger (by rfl) (by k_asm) (by k_asm) (by k_mem) (by first | size_fits | exact Nat.le_of_ble_eq_true rfl) ?_; intro g'; lcg_lit) | (refine LCg.CompSrc.range (by rfl) (by k_asm) (by k_asm) (by assumption) (by first | decide | rfl) (by first | rfl | decide) (by first | size_fits | exact Nat.le_of_ble_eq_true rfl) ?_; intro g'; lcg_lit))))
          k_with "CompRest" => ((with_unfolding_all first | (refine LCg.CompRest.succ ?_; intro v' I' oI' C' oC' D' m' h' tk' E' hv' hC' hx' F' N' off' ne'; clear ne'; (first | lcg_open hv' | (obtain ⟨t9', hv9'⟩ := hv'; subst hv9')); (try dsimp only); (try k_fold)) | refine LCg.CompRest.zero ?_))
          k_with "CompRestT" => ((with_unfolding_all first | (refine LCt.CompRestT.succ ?_; intro v' I' oI' C' oC' D' m' h' tk' E' hv' hC' hx' F' N' off' ne'; clear ne'; (first | lcg_open hv' | (obtain ⟨t9', hv9'⟩ := hv'; subst hv9')); (try dsimp only); (try k_fold)) | refine LCt.CompRestT.zero ?_))
          k_with "CompEnd" => ((refine LCg.CompEnd.intro (by assumption) (by assumption) _ (fun _ hp => hp) (by assumption) (by lcg_src) ?_))
          k_with "FinE" => (((unfold LCg.FinE); intro D' h' tk' F' N' o1'; (try simp only [List.nil_append, List.cons_append] at N'); (try dsimp only)))
          k_with "FinA" => (((unfold LCg.FinA); intro D' h' tk' F' N' o1'; (try simp only [List.nil_append, List.cons_append] at N'); (try dsimp only)))
          k_with "exec Assign cons ListComp" => ((k_here; lct_look; k_dflt (refine LCt.Assign_ListComp_T (F₀ := by k_asm) (by rfl) (by with_unfolding_all rfl) (by with_unfolding_all rfl) (by decide) (by rfl) (by decide) (by rfl) (by rfl) (by rfl) ?_)))
          k_with "CompSrcT" => ((k_here; k_dflt (first | (refine LCt.CompSrcT.ledger (by rfl) (by k_asm) (by k_asm) (by k_mem) (by first | size_fits | exact Nat.le_of_ble_eq_true rfl) ?_; intro g'; first | lct_lit | (with_unfolding_all change @LCt.CompRestT _ _ _ _ _ _ _ _ _ _ _ _ _ _ _ _ 4 _ _ _)) | (refine LCt.CompSrcT.range (by rfl) (by k_asm) (by k_asm) (by assumption) (by first | decide | rfl) (by first | rfl | decide) (by first | size_fits | exact Nat.le_of_ble_eq_true rfl) ?_; intro g'; first | lct_lit | (with_unfolding_all change @LCt.CompRestT _ _ _ _ _ _ _ _ _ _ _ _ _ _ _ _ 4 _ _ _)))))
          k_with "law box" => (first | exact bx_f3 _ | exact bx_r27 _ | exact frs_bx (by assumption) | assumption)
          k_with "tok pos" => ((dsimp only; first | assumption | exact Nat.succ_pos _))
          k_with "tok ne" => (first | assumption | exact Nat.succ_ne_zero _ | exact tok_ne (by assumption))
          k_with "law sweep0" => (((repeat (rename LCg.Off1 _ _ => zz; clear zz)); (repeat (rename LitOf _ _ _ _ _ _ _ => zz; clear zz)); (repeat (rename Obj.data _ = _ => zz; clear zz)); (repeat (rename News _ _ _ _ => zz; clear zz)); (repeat (rename Fr _ _ _ _ => zz; clear zz)); (repeat (rename CarriedAll _ _ => zz; clear zz)); (repeat (rename NewPlain _ _ _ => zz; clear zz)); (repeat (rename PySem.W.Dflts _ _ _ => zz; clear zz)); (repeat (rename Heap.CodeRec _ _ _ => zz; clear zz)); (repeat (rename _ ∧ _ => zz; clear zz)); (repeat (rename _ ≠ _ => zz; clear zz)); (repeat (rename IntsAre _ _ => zz; clear zz)); (repeat (rename @LT.lt Nat _ 0 _ => zz; clear zz)); (try dsimp only)))
          k_with "turn end" => ((dsimp only [TPost]; refine' JG_end ?F ?N ?hI ?hX ?c5 ?c4 ?c3 ?c2 ?c1 ?mP ?v1 ?v2 ?v3 ?v4 ?v5 ?hP ?hD ?n5 ?n6 ?n7 ?LO ?oP ?oD ?oX ?oI ?hit; (case hit => assumption); (case F => assumption); (case N => assumption); (case hI => k_mem); (case hX => k_mem); (case c5 => k_mem); (case c4 => k_mem); (case c3 => k_mem); (case c2 => k_mem); (case c1 => k_mem); (case mP => rfl); (case v1 => assumption); (case v2 => assumption); (case v3 => exact ⟨_, by assumption⟩); (case v4 => exact ⟨_, by assumption⟩); (case v5 => exact ⟨_, by assumption⟩); (case hP => k_mem); (case hD => k_mem); (case n5 => assumption); (case n6 => assumption); (case n7 => assumption); (case LO => assumption); (case oP => exact ⟨by k_ne, by k_ne, by k_ne, by k_ne, by k_ne, by k_ne, trivial⟩); (case oX => exact ⟨by k_ne, by k_ne, by k_ne, by k_ne, by k_ne, trivial⟩); (case oD => exact ⟨by k_ne, by k_ne, by k_ne, by k_ne, by k_ne, by k_ne, by k_ne, trivial⟩); (case oI => exact ⟨by k_ne, by k_ne, by k_ne, by k_ne, by k_ne, by k_ne, trivial⟩)))
          k_with "law sweep" => (((repeat (rename LCg.Off1 _ _ => zz; clear zz)); (repeat (rename LitOf _ _ _ _ _ _ _ => zz; clear zz)); (repeat (rename Obj.data _ = _ => zz; clear zz)); (repeat (rename News _ _ _ _ => zz; clear zz)); (repeat (rename Fr _ _ _ _ => zz; clear zz)); (repeat (rename CarriedAll _ _ => zz; clear zz)); (repeat (rename NewPlain _ _ _ => zz; clear zz)); (repeat (rename PySem.W.Dflts _ _ _ => zz; clear zz)); (repeat (rename Heap.CodeRec _ _ _ => zz; clear zz)); (repeat (rename _ < _ ∧ _ => zz; clear zz)); (repeat (rename _ ≠ _ => zz; clear zz)); (repeat (rename IntsAre _ _ => zz; clear zz)); (repeat (rename @LT.lt Nat _ 0 _ => zz; clear zz)); (try dsimp only)))
          k_with "law steps" => (repeat' ((fail_if_success (with_reducible refine Hold.mk ?_)); first | (k_unfold; (try dsimp only)) | ((with_reducible show wpAny _ _ (exec _ _) _ _ _); k_fold) | walk1 | (dsimp only; walk1) | (leave1; try dsimp only) | fail "no step"))
          rename GoOn _ _ _ _ _ => GO
          rename _ < 3 => hi3
          rename ¬ Builtin.bitOr _ _ = 15 => zo
          have zne := giv_no2 GO hi3 tri_0 tri_1 tri_2 zo
          refine' JV_end ?z51F ?z51N ?z51hI ?z51c5 ?z51c4 ?z51c3 ?z51c2 ?z51c1 ?z51mP ?z51mD ?z51mQ ?z51mW ?z51v1 ?z51v4 ?z51v2 ?z51v3 ?z51v5 ?z51hP ?z51hQ ?z51hPt ?z51oP ?z51oQ ?z51oPt ?z51oW ?z51oI [(_, listOf (List.toArray []) _)] ?z51ht ?z51oIt (.inl ⟨by omega, _, rfl⟩)
          ((case z51F => assumption); (case z51N => assumption); (case z51hI => k_mem); (case z51c5 => k_mem); (case z51c4 => k_mem); (case z51c3 => k_mem); (case z51c2 => k_mem); (case z51c1 => k_mem); (case z51mP => rfl); (case z51mD => rfl); (case z51mQ => rfl); (case z51mW => rfl); (case z51v1 => assumption); (case z51v4 => assumption); (case z51v2 => exact ⟨_, by assumption⟩); (case z51v3 => exact ⟨_, by assumption⟩); (case z51v5 => exact ⟨_, by assumption⟩); (case z51hP => k_mem); (case z51hQ => k_mem); (case z51hPt => k_mem); (case z51oP => exact ⟨by k_ne, by k_ne, by k_ne, by k_ne, by k_ne, by k_ne, trivial⟩); (case z51oQ => exact ⟨by k_ne, by k_ne, by k_ne, by k_ne, by k_ne, trivial⟩); (case z51oPt => exact ⟨by k_ne, by k_ne, by k_ne, by k_ne, by k_ne, trivial⟩); (case z51oW => exact ⟨by k_ne, by k_ne, by k_ne, by k_ne, by k_ne, by k_ne, by k_ne, by k_ne, trivial⟩); (case z51oI => exact ⟨by k_ne, by k_ne, by k_ne, by k_ne, by k_ne, by k_ne, by k_ne, by k_ne, trivial⟩); (case z51ht => lcg_sub))
          (case z51oIt => exact ⟨by k_ne, trivial⟩)
        · k_with_none
          k_with "ne" => (first | exact off1_mem (by with_reducible assumption) (_, _) (by k_mem) | exact Ne.symm (off1_mem (by with_reducible assumption) (_, _) (by k_mem)) | with_reducible exact nd1 _ | with_reducible exact nd2 _ | with_reducible exact nd3 _ | with_reducible exact nd4 _ | with_reducible exact nd5 _ | with_reducible exact nd1' _ | with_reducible exact nd2' _ | with_reducible exact nd3' _ | with_reducible exact nd4' _ | with_reducible exact nd5' _ | (refine Nat.ne_of_lt ?_; with_reducible walk_at "lt") | (refine Nat.ne_of_gt ?_; with_reducible walk_at "lt"))
          k_with "lt" => (first | assumption | exact And.left (by assumption) | exact And.left (And.right (by assumption)) | exact And.right (by assumption) | exact And.left (And.right (And.right (by assumption))) | exact And.right (And.right (by assumption)) | exact And.left (And.right (And.right (And.right (by assumption)))) | exact And.right (And.right (And.right (by assumption))) | exact And.left (And.right (And.right (And.right (And.right (by assumption))))) | exact And.right (And.right (And.right (And.right (by assumption)))) | exact And.left (And.right (And.right (And.right (And.right (And.right (by assumption)))))) | exact And.right (And.right (And.right (And.right (And.right (by assumption))))) | exact And.left (And.right (And.right (And.right (And.right (And.right (And.right (by assumption))))))) | exact And.right (And.right (And.right (And.right (And.right (And.right (by assumption)))))) | exact And.left (And.right (And.right (And.right (And.right (And.right (And.right (And.right (by assumption)))))))) | exact And.right (And.right (And.right (And.right (And.right (And.right (And.right (by assumption))))))) | exact And.left (And.right (And.right (And.right (And.right (And.right (And.right (And.right (And.right (by assumption))))))))) | exact And.right (And.right (And.right (And.right (And.right (And.right (And.right (And.right (by assumption)))))))) | exact And.left (And.right (And.right (And.right (And.right (And.right (And.right (And.right (And.right (And.right (by assumption)))))))))) | exact And.right (And.right (And.right (And.right (And.right (And.right (And.right (And.right (And.right (by assumption))))))))) | exact And.left (And.right (And.right (And.right (And.right (And.right (And.right (And.right (And.right (And.right (And.right (by assumption))))))))))) | exact And.right (And.right (And.right (And.right (And.right (And.right (And.right (And.right (And.right (And.right (by assumption)))))))))) | exact lta1 (by assumption) | exact lta2 (by assumption) | exact lta3 (by assumption) | exact lta4 (by assumption) | exact lta5 (by assumption) | exact ltd1 (by assumption) | exact ltd2 (by assumption) | exact ltd3 (by assumption) | exact ltd4 (by assumption) | exact ltd5 (by assumption) | exact ltt3 (by assumption) (by assumption) | exact ltt5 (by assumption) (by assumption))
          k_with "eval Name" => ((k_here; (with_reducible show wpAny _ _ (eval (Expr.Name _ _) (compEnvC _ _ _ _)) _ _ _); k_dflt (first | (refine' LCgL.ld_own ?N ?m ?C ?x ?_ ?k ?l ?d; (case l => rfl); (case k => rfl); (case d => decide); (case N => k_asm); (case m => k_mem); (case C => assumption); (case x => assumption); k_whole) | (refine' lcf_free ?N ?c ?m ?d ?_ ?a ?b; (case b => rfl); (case a => rfl); (case N => k_asm); (case c => rfl); (case m => k_mem); (case d => k_asm); k_whole) | (refine' LCgL.ld_global ?F ?X ?T ?e ?_ ?g ?k ?x ?d; (case x => rfl); (case F => k_asm); (case X => k_asm); (case T => k_asm); (case e => k_is); (case g => rfl); (case k => rfl); (case d => decide); k_whole))))
          k_with "subscriptTail Name Name ref int" => ((k_here; (with_reducible show wpAny _ _ (subscriptTail _ _ (Value.ref _) (Value.int _ _)) _ _ _); k_dflt (refine' item_N ?N ?m ?h0 ?h1 ?hx ?_; (case N => k_asm); (case m => k_mem); (case h0 => decide); (case h1 => decide); (case hx => rfl); k_whole)))
          k_with "subscriptTail Name Constant ref int" => ((k_here; (with_reducible show wpAny _ _ (subscriptTail _ _ (Value.ref _) (Value.int _ _)) _ _ _); k_dflt (refine' item_N ?N ?m ?h0 ?h1 ?hx ?_; (case N => k_asm); (case m => k_mem); (case h0 => decide); (case h1 => decide); (case hx => rfl); k_whole)))
          k_with "CompSrc" => ((k_here; k_dflt (first | (refine LCg.CompSrc.ledger (by rfl) (by k_asm) (by k_asm) (by k_mem) (by first | size_fits | exact Nat.le_of_ble_eq_true rfl) ?_; intro g'; lcg_lit) | (refine LCg.CompSrc.range (by rfl) (by k_asm) (by k_asm) (by assumption) (by first | decide | rfl) (by first | rfl | decide) (by first | size_fits | exact Nat.le_of_ble_eq_true rfl) ?_; intro g'; lcg_lit))))
          k_with "CompRest" => ((with_unfolding_all first | (refine LCg.CompRest.succ ?_; intro v' I' oI' C' oC' D' m' h' tk' E' hv' hC' hx' F' N' off' ne'; clear ne'; (first | lcg_open hv' | (obtain ⟨t9', hv9'⟩ := hv'; subst hv9')); (try dsimp only); (try k_fold)) | refine LCg.CompRest.zero ?_))
          k_with "CompRestT" => ((with_unfolding_all first | (refine LCt.CompRestT.succ ?_; intro v' I' oI' C' oC' D' m' h' tk' E' hv' hC' hx' F' N' off' ne'; clear ne'; (first | lcg_open hv' | (obtain ⟨t9', hv9'⟩ := hv'; subst hv9')); (try dsimp only); (try k_fold)) | refine LCt.CompRestT.zero ?_))
          k_with "CompEnd" => ((refine LCg.CompEnd.intro (by assumption) (by assumption) _ (fun _ hp => hp) (by assumption) (by lcg_src) ?_))
          k_with "FinE" => (((unfold LCg.FinE); intro D' h' tk' F' N' o1'; (try simp only [List.nil_append, List.cons_append] at N'); (try dsimp only)))
          k_with "FinA" => (((unfold LCg.FinA); intro D' h' tk' F' N' o1'; (try simp only [List.nil_append, List.cons_append] at N'); (try dsimp only)))
          k_with "exec Assign cons ListComp" => ((k_here; lct_look; k_dflt (refine LCt.Assign_ListComp_T (F₀ := by k_asm) (by rfl) (by with_unfolding_all rfl) (by with_unfolding_all rfl) (by decide) (by rfl) (by decide) (by rfl) (by rfl) (by rfl) ?_)))
          k_with "CompSrcT" => ((k_here; k_dflt (first | (refine LCt.CompSrcT.ledger (by rfl) (by k_asm) (by k_asm) (by k_mem) (by first | size_fits | exact Nat.le_of_ble_eq_true rfl) ?_; intro g'; first | lct_lit | (with_unfolding_all change @LCt.CompRestT _ _ _ _ _ _ _ _ _ _ _ _ _ _ _ _ 4 _ _ _)) | (refine LCt.CompSrcT.range (by rfl) (by k_asm) (by k_asm) (by assumption) (by first | decide | rfl) (by first | rfl | decide) (by first | size_fits | exact Nat.le_of_ble_eq_true rfl) ?_; intro g'; first | lct_lit | (with_unfolding_all change @LCt.CompRestT _ _ _ _ _ _ _ _ _ _ _ _ _ _ _ _ 4 _ _ _)))))
          k_with "law box" => (first | exact bx_f3 _ | exact bx_r27 _ | exact frs_bx (by assumption) | assumption)
          k_with "tok pos" => ((dsimp only; first | assumption | exact Nat.succ_pos _))
          k_with "tok ne" => (first | assumption | exact Nat.succ_ne_zero _ | exact tok_ne (by assumption))
          k_with "law sweep0" => (((repeat (rename LCg.Off1 _ _ => zz; clear zz)); (repeat (rename LitOf _ _ _ _ _ _ _ => zz; clear zz)); (repeat (rename Obj.data _ = _ => zz; clear zz)); (repeat (rename News _ _ _ _ => zz; clear zz)); (repeat (rename Fr _ _ _ _ => zz; clear zz)); (repeat (rename CarriedAll _ _ => zz; clear zz)); (repeat (rename NewPlain _ _ _ => zz; clear zz)); (repeat (rename PySem.W.Dflts _ _ _ => zz; clear zz)); (repeat (rename Heap.CodeRec _ _ _ => zz; clear zz)); (repeat (rename _ ∧ _ => zz; clear zz)); (repeat (rename _ ≠ _ => zz; clear zz)); (repeat (rename IntsAre _ _ => zz; clear zz)); (repeat (rename @LT.lt Nat _ 0 _ => zz; clear zz)); (try dsimp only)))
          k_with "turn end" => ((dsimp only [TPost]; refine' JG_end ?F ?N ?hI ?hX ?c5 ?c4 ?c3 ?c2 ?c1 ?mP ?v1 ?v2 ?v3 ?v4 ?v5 ?hP ?hD ?n5 ?n6 ?n7 ?LO ?oP ?oD ?oX ?oI ?hit; (case hit => assumption); (case F => assumption); (case N => assumption); (case hI => k_mem); (case hX => k_mem); (case c5 => k_mem); (case c4 => k_mem); (case c3 => k_mem); (case c2 => k_mem); (case c1 => k_mem); (case mP => rfl); (case v1 => assumption); (case v2 => assumption); (case v3 => exact ⟨_, by assumption⟩); (case v4 => exact ⟨_, by assumption⟩); (case v5 => exact ⟨_, by assumption⟩); (case hP => k_mem); (case hD => k_mem); (case n5 => assumption); (case n6 => assumption); (case n7 => assumption); (case LO => assumption); (case oP => exact ⟨by k_ne, by k_ne, by k_ne, by k_ne, by k_ne, by k_ne, trivial⟩); (case oX => exact ⟨by k_ne, by k_ne, by k_ne, by k_ne, by k_ne, trivial⟩); (case oD => exact ⟨by k_ne, by k_ne, by k_ne, by k_ne, by k_ne, by k_ne, by k_ne, trivial⟩); (case oI => exact ⟨by k_ne, by k_ne, by k_ne, by k_ne, by k_ne, by k_ne, trivial⟩)))
          k_with "law sweep" => (((repeat (rename LCg.Off1 _ _ => zz; clear zz)); (repeat (rename LitOf _ _ _ _ _ _ _ => zz; clear zz)); (repeat (rename Obj.data _ = _ => zz; clear zz)); (repeat (rename News _ _ _ _ => zz; clear zz)); (repeat (rename Fr _ _ _ _ => zz; clear zz)); (repeat (rename CarriedAll _ _ => zz; clear zz)); (repeat (rename NewPlain _ _ _ => zz; clear zz)); (repeat (rename PySem.W.Dflts _ _ _ => zz; clear zz)); (repeat (rename Heap.CodeRec _ _ _ => zz; clear zz)); (repeat (rename _ < _ ∧ _ => zz; clear zz)); (repeat (rename _ ≠ _ => zz; clear zz)); (repeat (rename IntsAre _ _ => zz; clear zz)); (repeat (rename @LT.lt Nat _ 0 _ => zz; clear zz)); (try dsimp only)))
          k_with "law steps" => (repeat' ((fail_if_success (with_reducible refine Hold.mk ?_)); first | (k_unfold; (try dsimp only)) | ((with_reducible show wpAny _ _ (exec _ _) _ _ _); k_fold) | walk1 | (dsimp only; walk1) | (leave1; try dsimp only) | fail "no step"))
          rename GoOn _ _ _ _ _ => GO
          rename _ < 3 => hi3
          rename (Nat.cast _ : Int) = _ => zo
          have zne := giv_no1 GO hi3 zo
          refine' JV_end ?z51bF ?z51bN ?z51bhI ?z51bc5 ?z51bc4 ?z51bc3 ?z51bc2 ?z51bc1 ?z51bmP ?z51bmD ?z51bmQ ?z51bmW ?z51bv1 ?z51bv4 ?z51bv2 ?z51bv3 ?z51bv5 ?z51bhP ?z51bhQ ?z51bhPt ?z51boP ?z51boQ ?z51boPt ?z51boW ?z51boI [(_, listOf (List.toArray []) _)] ?z51bht ?z51boIt (.inl ⟨by omega, _, rfl⟩)
          ((case z51bF => assumption); (case z51bN => assumption); (case z51bhI => k_mem); (case z51bc5 => k_mem); (case z51bc4 => k_mem); (case z51bc3 => k_mem); (case z51bc2 => k_mem); (case z51bc1 => k_mem); (case z51bmP => rfl); (case z51bmD => rfl); (case z51bmQ => rfl); (case z51bmW => rfl); (case z51bv1 => assumption); (case z51bv4 => assumption); (case z51bv2 => exact ⟨_, by assumption⟩); (case z51bv3 => exact ⟨_, by assumption⟩); (case z51bv5 => exact ⟨_, by assumption⟩); (case z51bhP => k_mem); (case z51bhQ => k_mem); (case z51bhPt => k_mem); (case z51boP => exact ⟨by k_ne, by k_ne, by k_ne, by k_ne, by k_ne, by k_ne, trivial⟩); (case z51boQ => exact ⟨by k_ne, by k_ne, by k_ne, by k_ne, by k_ne, trivial⟩); (case z51boPt => exact ⟨by k_ne, by k_ne, by k_ne, by k_ne, by k_ne, trivial⟩); (case z51boW => exact ⟨by k_ne, by k_ne, by k_ne, by k_ne, by k_ne, by k_ne, by k_ne, by k_ne, trivial⟩); (case z51boI => exact ⟨by k_ne, by k_ne, by k_ne, by k_ne, by k_ne, by k_ne, by k_ne, by k_ne, trivial⟩); (case z51bht => lcg_sub))
          (case z51boIt => exact ⟨by k_ne, trivial⟩)
        · k_with_none
          k_with "ne" => (first | exact off1_mem (by with_reducible assumption) (_, _) (by k_mem) | exact Ne.symm (off1_mem (by with_reducible assumption) (_, _) (by k_mem)) | with_reducible exact nd1 _ | with_reducible exact nd2 _ | with_reducible exact nd3 _ | with_reducible exact nd4 _ | with_reducible exact nd5 _ | with_reducible exact nd1' _ | with_reducible exact nd2' _ | with_reducible exact nd3' _ | with_reducible exact nd4' _ | with_reducible exact nd5' _ | (refine Nat.ne_of_lt ?_; with_reducible walk_at "lt") | (refine Nat.ne_of_gt ?_; with_reducible walk_at "lt"))
          k_with "lt" => (first | assumption | exact And.left (by assumption) | exact And.left (And.right (by assumption)) | exact And.right (by assumption) | exact And.left (And.right (And.right (by assumption))) | exact And.right (And.right (by assumption)) | exact And.left (And.right (And.right (And.right (by assumption)))) | exact And.right (And.right (And.right (by assumption))) | exact And.left (And.right (And.right (And.right (And.right (by assumption))))) | exact And.right (And.right (And.right (And.right (by assumption)))) | exact And.left (And.right (And.right (And.right (And.right (And.right (by assumption)))))) | exact And.right (And.right (And.right (And.right (And.right (by assumption))))) | exact And.left (And.right (And.right (And.right (And.right (And.right (And.right (by assumption))))))) | exact And.right (And.right (And.right (And.right (And.right (And.right (by assumption)))))) | exact And.left (And.right (And.right (And.right (And.right (And.right (And.right (And.right (by assumption)))))))) | exact And.right (And.right (And.right (And.right (And.right (And.right (And.right (by assumption))))))) | exact And.left (And.right (And.right (And.right (And.right (And.right (And.right (And.right (And.right (by assumption))))))))) | exact And.right (And.right (And.right (And.right (And.right (And.right (And.right (And.right (by assumption)))))))) | exact And.left (And.right (And.right (And.right (And.right (And.right (And.right (And.right (And.right (And.right (by assumption)))))))))) | exact And.right (And.right (And.right (And.right (And.right (And.right (And.right (And.right (And.right (by assumption))))))))) | exact And.left (And.right (And.right (And.right (And.right (And.right (And.right (And.right (And.right (And.right (And.right (by assumption))))))))))) | exact And.right (And.right (And.right (And.right (And.right (And.right (And.right (And.right (And.right (And.right (by assumption)))))))))) | exact lta1 (by assumption) | exact lta2 (by assumption) | exact lta3 (by assumption) | exact lta4 (by assumption) | exact lta5 (by assumption) | exact ltd1 (by assumption) | exact ltd2 (by assumption) | exact ltd3 (by assumption) | exact ltd4 (by assumption) | exact ltd5 (by assumption) | exact ltt3 (by assumption) (by assumption) | exact ltt5 (by assumption) (by assumption))
          k_with "eval Name" => ((k_here; (with_reducible show wpAny _ _ (eval (Expr.Name _ _) (compEnvC _ _ _ _)) _ _ _); k_dflt (first | (refine' LCgL.ld_own ?N ?m ?C ?x ?_ ?k ?l ?d; (case l => rfl); (case k => rfl); (case d => decide); (case N => k_asm); (case m => k_mem); (case C => assumption); (case x => assumption); k_whole) | (refine' lcf_free ?N ?c ?m ?d ?_ ?a ?b; (case b => rfl); (case a => rfl); (case N => k_asm); (case c => rfl); (case m => k_mem); (case d => k_asm); k_whole) | (refine' LCgL.ld_global ?F ?X ?T ?e ?_ ?g ?k ?x ?d; (case x => rfl); (case F => k_asm); (case X => k_asm); (case T => k_asm); (case e => k_is); (case g => rfl); (case k => rfl); (case d => decide); k_whole))))
          k_with "subscriptTail Name Name ref int" => ((k_here; (with_reducible show wpAny _ _ (subscriptTail _ _ (Value.ref _) (Value.int _ _)) _ _ _); k_dflt (refine' item_N ?N ?m ?h0 ?h1 ?hx ?_; (case N => k_asm); (case m => k_mem); (case h0 => decide); (case h1 => decide); (case hx => rfl); k_whole)))
          k_with "subscriptTail Name Constant ref int" => ((k_here; (with_reducible show wpAny _ _ (subscriptTail _ _ (Value.ref _) (Value.int _ _)) _ _ _); k_dflt (refine' item_N ?N ?m ?h0 ?h1 ?hx ?_; (case N => k_asm); (case m => k_mem); (case h0 => decide); (case h1 => decide); (case hx => rfl); k_whole)))
          k_with "CompSrc" => ((k_here; k_dflt (first | (refine LCg.CompSrc.ledger (by rfl) (by k_asm) (by k_asm) (by k_mem) (by first | size_fits | exact Nat.le_of_ble_eq_true rfl) ?_; intro g'; lcg_lit) | (refine LCg.CompSrc.range (by rfl) (by k_asm) (by k_asm) (by assumption) (by first | decide | rfl) (by first | rfl | decide) (by first | size_fits | exact Nat.le_of_ble_eq_true rfl) ?_; intro g'; lcg_lit))))
          k_with "CompRest" => ((with_unfolding_all first | (refine LCg.CompRest.succ ?_; intro v' I' oI' C' oC' D' m' h' tk' E' hv' hC' hx' F' N' off' ne'; clear ne'; (first | lcg_open hv' | (obtain ⟨t9', hv9'⟩ := hv'; subst hv9')); (try dsimp only); (try k_fold)) | refine LCg.CompRest.zero ?_))
          k_with "CompRestT" => ((with_unfolding_all first | (refine LCt.CompRestT.succ ?_; intro v' I' oI' C' oC' D' m' h' tk' E' hv' hC' hx' F' N' off' ne'; clear ne'; (first | lcg_open hv' | (obtain ⟨t9', hv9'⟩ := hv'; subst hv9')); (try dsimp only); (try k_fold)) | refine LCt.CompRestT.zero ?_))
          k_with "CompEnd" => ((refine LCg.CompEnd.intro (by assumption) (by assumption) _ (fun _ hp => hp) (by assumption) (by lcg_src) ?_))
          k_with "FinE" => (((unfold LCg.FinE); intro D' h' tk' F' N' o1'; (try simp only [List.nil_append, List.cons_append] at N'); (try dsimp only)))
          k_with "FinA" => (((unfold LCg.FinA); intro D' h' tk' F' N' o1'; (try simp only [List.nil_append, List.cons_append] at N'); (try dsimp only)))
          k_with "exec Assign cons ListComp" => ((k_here; lct_look; k_dflt (refine LCt.Assign_ListComp_T (F₀ := by k_asm) (by rfl) (by with_unfolding_all rfl) (by with_unfolding_all rfl) (by decide) (by rfl) (by decide) (by rfl) (by rfl) (by rfl) ?_)))
          k_with "CompSrcT" => ((k_here; k_dflt (first | (refine LCt.CompSrcT.ledger (by rfl) (by k_asm) (by k_asm) (by k_mem) (by first | size_fits | exact Nat.le_of_ble_eq_true rfl) ?_; intro g'; first | lct_lit | (with_unfolding_all change @LCt.CompRestT _ _ _ _ _ _ _ _ _ _ _ _ _ _ _ _ 4 _ _ _)) | (refine LCt.CompSrcT.range (by rfl) (by k_asm) (by k_asm) (by assumption) (by first | decide | rfl) (by first | rfl | decide) (by first | size_fits | exact Nat.le_of_ble_eq_true rfl) ?_; intro g'; first | lct_lit | (with_unfolding_all change @LCt.CompRestT _ _ _ _ _ _ _ _ _ _ _ _ _ _ _ _ 4 _ _ _)))))
          k_with "law box" => (first | exact bx_f3 _ | exact bx_r27 _ | exact frs_bx (by assumption) | assumption)
          k_with "tok pos" => ((dsimp only; first | assumption | exact Nat.succ_pos _))
          k_with "tok ne" => (first | assumption | exact Nat.succ_ne_zero _ | exact tok_ne (by assumption))
          k_with "law sweep0" => (((repeat (rename LCg.Off1 _ _ => zz; clear zz)); (repeat (rename LitOf _ _ _ _ _ _ _ => zz; clear zz)); (repeat (rename Obj.data _ = _ => zz; clear zz)); (repeat (rename News _ _ _ _ => zz; clear zz)); (repeat (rename Fr _ _ _ _ => zz; clear zz)); (repeat (rename CarriedAll _ _ => zz; clear zz)); (repeat (rename NewPlain _ _ _ => zz; clear zz)); (repeat (rename PySem.W.Dflts _ _ _ => zz; clear zz)); (repeat (rename Heap.CodeRec _ _ _ => zz; clear zz)); (repeat (rename _ ∧ _ => zz; clear zz)); (repeat (rename _ ≠ _ => zz; clear zz)); (repeat (rename IntsAre _ _ => zz; clear zz)); (repeat (rename @LT.lt Nat _ 0 _ => zz; clear zz)); (try dsimp only)))
          k_with "turn end" => ((dsimp only [TPost]; refine' JG_end ?F ?N ?hI ?hX ?c5 ?c4 ?c3 ?c2 ?c1 ?mP ?v1 ?v2 ?v3 ?v4 ?v5 ?hP ?hD ?n5 ?n6 ?n7 ?LO ?oP ?oD ?oX ?oI ?hit; (case hit => assumption); (case F => assumption); (case N => assumption); (case hI => k_mem); (case hX => k_mem); (case c5 => k_mem); (case c4 => k_mem); (case c3 => k_mem); (case c2 => k_mem); (case c1 => k_mem); (case mP => rfl); (case v1 => assumption); (case v2 => assumption); (case v3 => exact ⟨_, by assumption⟩); (case v4 => exact ⟨_, by assumption⟩); (case v5 => exact ⟨_, by assumption⟩); (case hP => k_mem); (case hD => k_mem); (case n5 => assumption); (case n6 => assumption); (case n7 => assumption); (case LO => assumption); (case oP => exact ⟨by k_ne, by k_ne, by k_ne, by k_ne, by k_ne, by k_ne, trivial⟩); (case oX => exact ⟨by k_ne, by k_ne, by k_ne, by k_ne, by k_ne, trivial⟩); (case oD => exact ⟨by k_ne, by k_ne, by k_ne, by k_ne, by k_ne, by k_ne, by k_ne, trivial⟩); (case oI => exact ⟨by k_ne, by k_ne, by k_ne, by k_ne, by k_ne, by k_ne, trivial⟩)))
          k_with "law sweep" => (((repeat (rename LCg.Off1 _ _ => zz; clear zz)); (repeat (rename LitOf _ _ _ _ _ _ _ => zz; clear zz)); (repeat (rename Obj.data _ = _ => zz; clear zz)); (repeat (rename News _ _ _ _ => zz; clear zz)); (repeat (rename Fr _ _ _ _ => zz; clear zz)); (repeat (rename CarriedAll _ _ => zz; clear zz)); (repeat (rename NewPlain _ _ _ => zz; clear zz)); (repeat (rename PySem.W.Dflts _ _ _ => zz; clear zz)); (repeat (rename Heap.CodeRec _ _ _ => zz; clear zz)); (repeat (rename _ < _ ∧ _ => zz; clear zz)); (repeat (rename _ ≠ _ => zz; clear zz)); (repeat (rename IntsAre _ _ => zz; clear zz)); (repeat (rename @LT.lt Nat _ 0 _ => zz; clear zz)); (try dsimp only)))
          k_with "law steps" => (repeat' ((fail_if_success (with_reducible refine Hold.mk ?_)); first | (k_unfold; (try dsimp only)) | ((with_reducible show wpAny _ _ (exec _ _) _ _ _); k_fold) | walk1 | (dsimp only; walk1) | (leave1; try dsimp only) | fail "no step"))
          exfalso
          rename GoOn _ _ _ _ _ => GO
          rename _ < 3 => hi3
          rename Builtin.bitOr _ _ = 15 => zo
          (repeat (rename (16 : Int) ≠ 0 => zz; clear zz))
          rename (Nat.cast _ : Int) ≠ _ => zn
          have ek := giv_yes GO hi3 tri_0 tri_1 tri_2 zn zo
          omega
        · k_with_none
          k_with "ne" => (first | exact off1_mem (by with_reducible assumption) (_, _) (by k_mem) | exact Ne.symm (off1_mem (by with_reducible assumption) (_, _) (by k_mem)) | with_reducible exact nd1 _ | with_reducible exact nd2 _ | with_reducible exact nd3 _ | with_reducible exact nd4 _ | with_reducible exact nd5 _ | with_reducible exact nd1' _ | with_reducible exact nd2' _ | with_reducible exact nd3' _ | with_reducible exact nd4' _ | with_reducible exact nd5' _ | (refine Nat.ne_of_lt ?_; with_reducible walk_at "lt") | (refine Nat.ne_of_gt ?_; with_reducible walk_at "lt"))
          k_with "lt" => (first | assumption | exact And.left (by assumption) | exact And.left (And.right (by assumption)) | exact And.right (by assumption) | exact And.left (And.right (And.right (by assumption))) | exact And.right (And.right (by assumption)) | exact And.left (And.right (And.right (And.right (by assumption)))) | exact And.right (And.right (And.right (by assumption))) | exact And.left (And.right (And.right (And.right (And.right (by assumption))))) | exact And.right (And.right (And.right (And.right (by assumption)))) | exact And.left (And.right (And.right (And.right (And.right (And.right (by assumption)))))) | exact And.right (And.right (And.right (And.right (And.right (by assumption))))) | exact And.left (And.right (And.right (And.right (And.right (And.right (And.right (by assumption))))))) | exact And.right (And.right (And.right (And.right (And.right (And.right (by assumption)))))) | exact And.left (And.right (And.right (And.right (And.right (And.right (And.right (And.right (by assumption)))))))) | exact And.right (And.right (And.right (And.right (And.right (And.right (And.right (by assumption))))))) | exact And.left (And.right (And.right (And.right (And.right (And.right (And.right (And.right (And.right (by assumption))))))))) | exact And.right (And.right (And.right (And.right (And.right (And.right (And.right (And.right (by assumption)))))))) | exact And.left (And.right (And.right (And.right (And.right (And.right (And.right (And.right (And.right (And.right (by assumption)))))))))) | exact And.right (And.right (And.right (And.right (And.right (And.right (And.right (And.right (And.right (by assumption))))))))) | exact And.left (And.right (And.right (And.right (And.right (And.right (And.right (And.right (And.right (And.right (And.right (by assumption))))))))))) | exact And.right (And.right (And.right (And.right (And.right (And.right (And.right (And.right (And.right (And.right (by assumption)))))))))) | exact lta1 (by assumption) | exact lta2 (by assumption) | exact lta3 (by assumption) | exact lta4 (by assumption) | exact lta5 (by assumption) | exact ltd1 (by assumption) | exact ltd2 (by assumption) | exact ltd3 (by assumption) | exact ltd4 (by assumption) | exact ltd5 (by assumption) | exact ltt3 (by assumption) (by assumption) | exact ltt5 (by assumption) (by assumption))
          k_with "eval Name" => ((k_here; (with_reducible show wpAny _ _ (eval (Expr.Name _ _) (compEnvC _ _ _ _)) _ _ _); k_dflt (first | (refine' LCgL.ld_own ?N ?m ?C ?x ?_ ?k ?l ?d; (case l => rfl); (case k => rfl); (case d => decide); (case N => k_asm); (case m => k_mem); (case C => assumption); (case x => assumption); k_whole) | (refine' lcf_free ?N ?c ?m ?d ?_ ?a ?b; (case b => rfl); (case a => rfl); (case N => k_asm); (case c => rfl); (case m => k_mem); (case d => k_asm); k_whole) | (refine' LCgL.ld_global ?F ?X ?T ?e ?_ ?g ?k ?x ?d; (case x => rfl); (case F => k_asm); (case X => k_asm); (case T => k_asm); (case e => k_is); (case g => rfl); (case k => rfl); (case d => decide); k_whole))))
          k_with "subscriptTail Name Name ref int" => ((k_here; (with_reducible show wpAny _ _ (subscriptTail _ _ (Value.ref _) (Value.int _ _)) _ _ _); k_dflt (refine' item_N ?N ?m ?h0 ?h1 ?hx ?_; (case N => k_asm); (case m => k_mem); (case h0 => decide); (case h1 => decide); (case hx => rfl); k_whole)))
          k_with "subscriptTail Name Constant ref int" => ((k_here; (with_reducible show wpAny _ _ (subscriptTail _ _ (Value.ref _) (Value.int _ _)) _ _ _); k_dflt (refine' item_N ?N ?m ?h0 ?h1 ?hx ?_; (case N => k_asm); (case m => k_mem); (case h0 => decide); (case h1 => decide); (case hx => rfl); k_whole)))
          k_with "CompSrc" => ((k_here; k_dflt (first | (refine LCg.CompSrc.ledger (by rfl) (by k_asm) (by k_asm) (by k_mem) (by first | size_fits | exact Nat.le_of_ble_eq_true rfl) ?_; intro g'; lcg_lit) | (refine LCg.CompSrc.range (by rfl) (by k_asm) (by k_asm) (by assumption) (by first | decide | rfl) (by first | rfl | decide) (by first | size_fits | exact Nat.le_of_ble_eq_true rfl) ?_; intro g'; lcg_lit))))
          k_with "CompRest" => ((with_unfolding_all first | (refine LCg.CompRest.succ ?_; intro v' I' oI' C' oC' D' m' h' tk' E' hv' hC' hx' F' N' off' ne'; clear ne'; (first | lcg_open hv' | (obtain ⟨t9', hv9'⟩ := hv'; subst hv9')); (try dsimp only); (try k_fold)) | refine LCg.CompRest.zero ?_))
          k_with "CompRestT" => ((with_unfolding_all first | (refine LCt.CompRestT.succ ?_; intro v' I' oI' C' oC' D' m' h' tk' E' hv' hC' hx' F' N' off' ne'; clear ne'; (first | lcg_open hv' | (obtain ⟨t9', hv9'⟩ := hv'; subst hv9')); (try dsimp only); (try k_fold)) | refine LCt.CompRestT.zero ?_))
          k_with "CompEnd" => ((refine LCg.CompEnd.intro (by assumption) (by assumption) _ (fun _ hp => hp) (by assumption) (by lcg_src) ?_))
          k_with "FinE" => (((unfold LCg.FinE); intro D' h' tk' F' N' o1'; (try simp only [List.nil_append, List.cons_append] at N'); (try dsimp only)))
          k_with "FinA" => (((unfold LCg.FinA); intro D' h' tk' F' N' o1'; (try simp only [List.nil_append, List.cons_append] at N'); (try dsimp only)))
          k_with "exec Assign cons ListComp" => ((k_here; lct_look; k_dflt (refine LCt.Assign_ListComp_T (F₀ := by k_asm) (by rfl) (by with_unfolding_all rfl) (by with_unfolding_all rfl) (by decide) (by rfl) (by decide) (by rfl) (by rfl) (by rfl) ?_)))
          k_with "CompSrcT" => ((k_here; k_dflt (first | (refine LCt.CompSrcT.ledger (by rfl) (by k_asm) (by k_asm) (by k_mem) (by first | size_fits | exact Nat.le_of_ble_eq_true rfl) ?_; intro g'; first | lct_lit | (with_unfolding_all change @LCt.CompRestT _ _ _ _ _ _ _ _ _ _ _ _ _ _ _ _ 4 _ _ _)) | (refine LCt.CompSrcT.range (by rfl) (by k_asm) (by k_asm) (by assumption) (by first | decide | rfl) (by first | rfl | decide) (by first | size_fits | exact Nat.le_of_ble_eq_true rfl) ?_; intro g'; first | lct_lit | (with_unfolding_all change @LCt.CompRestT _ _ _ _ _ _ _ _ _ _ _ _ _ _ _ _ 4 _ _ _)))))
          k_with "law box" => (first | exact bx_f3 _ | exact bx_r27 _ | exact frs_bx (by assumption) | assumption)
          k_with "tok pos" => ((dsimp only; first | assumption | exact Nat.succ_pos _))
          k_with "tok ne" => (first | assumption | exact Nat.succ_ne_zero _ | exact tok_ne (by assumption))
          k_with "law sweep0" => (((repeat (rename LCg.Off1 _ _ => zz; clear zz)); (repeat (rename LitOf _ _ _ _ _ _ _ => zz; clear zz)); (repeat (rename Obj.data _ = _ => zz; clear zz)); (repeat (rename News _ _ _ _ => zz; clear zz)); (repeat (rename Fr _ _ _ _ => zz; clear zz)); (repeat (rename CarriedAll _ _ => zz; clear zz)); (repeat (rename NewPlain _ _ _ => zz; clear zz)); (repeat (rename PySem.W.Dflts _ _ _ => zz; clear zz)); (repeat (rename Heap.CodeRec _ _ _ => zz; clear zz)); (repeat (rename _ ∧ _ => zz; clear zz)); (repeat (rename _ ≠ _ => zz; clear zz)); (repeat (rename IntsAre _ _ => zz; clear zz)); (repeat (rename @LT.lt Nat _ 0 _ => zz; clear zz)); (try dsimp only)))
          k_with "turn end" => ((dsimp only [TPost]; refine' JG_end ?F ?N ?hI ?hX ?c5 ?c4 ?c3 ?c2 ?c1 ?mP ?v1 ?v2 ?v3 ?v4 ?v5 ?hP ?hD ?n5 ?n6 ?n7 ?LO ?oP ?oD ?oX ?oI ?hit; (case hit => assumption); (case F => assumption); (case N => assumption); (case hI => k_mem); (case hX => k_mem); (case c5 => k_mem); (case c4 => k_mem); (case c3 => k_mem); (case c2 => k_mem); (case c1 => k_mem); (case mP => rfl); (case v1 => assumption); (case v2 => assumption); (case v3 => exact ⟨_, by assumption⟩); (case v4 => exact ⟨_, by assumption⟩); (case v5 => exact ⟨_, by assumption⟩); (case hP => k_mem); (case hD => k_mem); (case n5 => assumption); (case n6 => assumption); (case n7 => assumption); (case LO => assumption); (case oP => exact ⟨by k_ne, by k_ne, by k_ne, by k_ne, by k_ne, by k_ne, trivial⟩); (case oX => exact ⟨by k_ne, by k_ne, by k_ne, by k_ne, by k_ne, trivial⟩); (case oD => exact ⟨by k_ne, by k_ne, by k_ne, by k_ne, by k_ne, by k_ne, by k_ne, trivial⟩); (case oI => exact ⟨by k_ne, by k_ne, by k_ne, by k_ne, by k_ne, by k_ne, trivial⟩)))
          k_with "law sweep" => (((repeat (rename LCg.Off1 _ _ => zz; clear zz)); (repeat (rename LitOf _ _ _ _ _ _ _ => zz; clear zz)); (repeat (rename Obj.data _ = _ => zz; clear zz)); (repeat (rename News _ _ _ _ => zz; clear zz)); (repeat (rename Fr _ _ _ _ => zz; clear zz)); (repeat (rename CarriedAll _ _ => zz; clear zz)); (repeat (rename NewPlain _ _ _ => zz; clear zz)); (repeat (rename PySem.W.Dflts _ _ _ => zz; clear zz)); (repeat (rename Heap.CodeRec _ _ _ => zz; clear zz)); (repeat (rename _ < _ ∧ _ => zz; clear zz)); (repeat (rename _ ≠ _ => zz; clear zz)); (repeat (rename IntsAre _ _ => zz; clear zz)); (repeat (rename @LT.lt Nat _ 0 _ => zz; clear zz)); (try dsimp only)))
          k_with "law steps" => (repeat' ((fail_if_success (with_reducible refine Hold.mk ?_)); first | (k_unfold; (try dsimp only)) | ((with_reducible show wpAny _ _ (exec _ _) _ _ _); k_fold) | walk1 | (dsimp only; walk1) | (leave1; try dsimp only) | fail "no step"))
          refine' JV_end ?z53F ?z53N ?z53hI ?z53c5 ?z53c4 ?z53c3 ?z53c2 ?z53c1 ?z53mP ?z53mD ?z53mQ ?z53mW ?z53v1 ?z53v4 ?z53v2 ?z53v3 ?z53v5 ?z53hP ?z53hQ ?z53hPt ?z53oP ?z53oQ ?z53oPt ?z53oW ?z53oI [(_, listOf #[Value.ref R] kw), (R, fl3 _ _ _ u1 u2 u3 kr)] ?z53ht ?z53oIt (.inr ⟨by omega, R, u1, u2, u3, kw, kr, nu1, nu2, nu3, rfl, ?z53oR⟩)
          ((case z53F => assumption); (case z53N => assumption); (case z53hI => k_mem); (case z53c5 => k_mem); (case z53c4 => k_mem); (case z53c3 => k_mem); (case z53c2 => k_mem); (case z53c1 => k_mem); (case z53mP => rfl); (case z53mD => rfl); (case z53mQ => rfl); (case z53mW => rfl); (case z53v1 => assumption); (case z53v4 => assumption); (case z53v2 => exact ⟨_, by assumption⟩); (case z53v3 => exact ⟨_, by assumption⟩); (case z53v5 => exact ⟨_, by assumption⟩); (case z53hP => k_mem); (case z53hQ => k_mem); (case z53hPt => k_mem); (case z53oP => exact ⟨by k_ne, by k_ne, by k_ne, by k_ne, by k_ne, by k_ne, trivial⟩); (case z53oQ => exact ⟨by k_ne, by k_ne, by k_ne, by k_ne, by k_ne, trivial⟩); (case z53oPt => exact ⟨by k_ne, by k_ne, by k_ne, by k_ne, by k_ne, trivial⟩); (case z53oW => exact ⟨by k_ne, by k_ne, by k_ne, by k_ne, by k_ne, by k_ne, by k_ne, by k_ne, trivial⟩); (case z53oI => exact ⟨by k_ne, by k_ne, by k_ne, by k_ne, by k_ne, by k_ne, by k_ne, by k_ne, trivial⟩); (case z53ht => lcg_sub))
          (case z53oIt => exact ⟨by k_ne, by k_ne, trivial⟩)
          (case z53oR => exact ⟨by k_ne, by k_ne, by k_ne, by k_ne, by k_ne, by k_ne, by k_ne, by k_ne, by k_ne, trivial⟩)
        · k_with_none
          k_with "ne" => (first | exact off1_mem (by with_reducible assumption) (_, _) (by k_mem) | exact Ne.symm (off1_mem (by with_reducible assumption) (_, _) (by k_mem)) | with_reducible exact nd1 _ | with_reducible exact nd2 _ | with_reducible exact nd3 _ | with_reducible exact nd4 _ | with_reducible exact nd5 _ | with_reducible exact nd1' _ | with_reducible exact nd2' _ | with_reducible exact nd3' _ | with_reducible exact nd4' _ | with_reducible exact nd5' _ | (refine Nat.ne_of_lt ?_; with_reducible walk_at "lt") | (refine Nat.ne_of_gt ?_; with_reducible walk_at "lt"))
          k_with "lt" => (first | assumption | exact And.left (by assumption) | exact And.left (And.right (by assumption)) | exact And.right (by assumption) | exact And.left (And.right (And.right (by assumption))) | exact And.right (And.right (by assumption)) | exact And.left (And.right (And.right (And.right (by assumption)))) | exact And.right (And.right (And.right (by assumption))) | exact And.left (And.right (And.right (And.right (And.right (by assumption))))) | exact And.right (And.right (And.right (And.right (by assumption)))) | exact And.left (And.right (And.right (And.right (And.right (And.right (by assumption)))))) | exact And.right (And.right (And.right (And.right (And.right (by assumption))))) | exact And.left (And.right (And.right (And.right (And.right (And.right (And.right (by assumption))))))) | exact And.right (And.right (And.right (And.right (And.right (And.right (by assumption)))))) | exact And.left (And.right (And.right (And.right (And.right (And.right (And.right (And.right (by assumption)))))))) | exact And.right (And.right (And.right (And.right (And.right (And.right (And.right (by assumption))))))) | exact And.left (And.right (And.right (And.right (And.right (And.right (And.right (And.right (And.right (by assumption))))))))) | exact And.right (And.right (And.right (And.right (And.right (And.right (And.right (And.right (by assumption)))))))) | exact And.left (And.right (And.right (And.right (And.right (And.right (And.right (And.right (And.right (And.right (by assumption)))))))))) | exact And.right (And.right (And.right (And.right (And.right (And.right (And.right (And.right (And.right (by assumption))))))))) | exact And.left (And.right (And.right (And.right (And.right (And.right (And.right (And.right (And.right (And.right (And.right (by assumption))))))))))) | exact And.right (And.right (And.right (And.right (And.right (And.right (And.right (And.right (And.right (And.right (by assumption)))))))))) | exact lta1 (by assumption) | exact lta2 (by assumption) | exact lta3 (by assumption) | exact lta4 (by assumption) | exact lta5 (by assumption) | exact ltd1 (by assumption) | exact ltd2 (by assumption) | exact ltd3 (by assumption) | exact ltd4 (by assumption) | exact ltd5 (by assumption) | exact ltt3 (by assumption) (by assumption) | exact ltt5 (by assumption) (by assumption))
          k_with "eval Name" => ((k_here; (with_reducible show wpAny _ _ (eval (Expr.Name _ _) (compEnvC _ _ _ _)) _ _ _); k_dflt (first | (refine' LCgL.ld_own ?N ?m ?C ?x ?_ ?k ?l ?d; (case l => rfl); (case k => rfl); (case d => decide); (case N => k_asm); (case m => k_mem); (case C => assumption); (case x => assumption); k_whole) | (refine' lcf_free ?N ?c ?m ?d ?_ ?a ?b; (case b => rfl); (case a => rfl); (case N => k_asm); (case c => rfl); (case m => k_mem); (case d => k_asm); k_whole) | (refine' LCgL.ld_global ?F ?X ?T ?e ?_ ?g ?k ?x ?d; (case x => rfl); (case F => k_asm); (case X => k_asm); (case T => k_asm); (case e => k_is); (case g => rfl); (case k => rfl); (case d => decide); k_whole))))
          k_with "subscriptTail Name Name ref int" => ((k_here; (with_reducible show wpAny _ _ (subscriptTail _ _ (Value.ref _) (Value.int _ _)) _ _ _); k_dflt (refine' item_N ?N ?m ?h0 ?h1 ?hx ?_; (case N => k_asm); (case m => k_mem); (case h0 => decide); (case h1 => decide); (case hx => rfl); k_whole)))
          k_with "subscriptTail Name Constant ref int" => ((k_here; (with_reducible show wpAny _ _ (subscriptTail _ _ (Value.ref _) (Value.int _ _)) _ _ _); k_dflt (refine' item_N ?N ?m ?h0 ?h1 ?hx ?_; (case N => k_asm); (case m => k_mem); (case h0 => decide); (case h1 => decide); (case hx => rfl); k_whole)))
          k_with "CompSrc" => ((k_here; k_dflt (first | (refine LCg.CompSrc.ledger (by rfl) (by k_asm) (by k_asm) (by k_mem) (by first | size_fits | exact Nat.le_of_ble_eq_true rfl) ?_; intro g'; lcg_lit) | (refine LCg.CompSrc.range (by rfl) (by k_asm) (by k_asm) (by assumption) (by first | decide | rfl) (by first | rfl | decide) (by first | size_fits | exact Nat.le_of_ble_eq_true rfl) ?_; intro g'; lcg_lit))))
          k_with "CompRest" => ((with_unfolding_all first | (refine LCg.CompRest.succ ?_; intro v' I' oI' C' oC' D' m' h' tk' E' hv' hC' hx' F' N' off' ne'; clear ne'; (first | lcg_open hv' | (obtain ⟨t9', hv9'⟩ := hv'; subst hv9')); (try dsimp only); (try k_fold)) | refine LCg.CompRest.zero ?_))
          k_with "CompRestT" => ((with_unfolding_all first | (refine LCt.CompRestT.succ ?_; intro v' I' oI' C' oC' D' m' h' tk' E' hv' hC' hx' F' N' off' ne'; clear ne'; (first | lcg_open hv' | (obtain ⟨t9', hv9'⟩ := hv'; subst hv9')); (try dsimp only); (try k_fold)) | refine LCt.CompRestT.zero ?_))
          k_with "CompEnd" => ((refine LCg.CompEnd.intro (by assumption) (by assumption) _ (fun _ hp => hp) (by assumption) (by lcg_src) ?_))
          k_with "FinE" => (((unfold LCg.FinE); intro D' h' tk' F' N' o1'; (try simp only [List.nil_append, List.cons_append] at N'); (try dsimp only)))
          k_with "FinA" => (((unfold LCg.FinA); intro D' h' tk' F' N' o1'; (try simp only [List.nil_append, List.cons_append] at N'); (try dsimp only)))
          k_with "exec Assign cons ListComp" => ((k_here; lct_look; k_dflt (refine LCt.Assign_ListComp_T (F₀ := by k_asm) (by rfl) (by with_unfolding_all rfl) (by with_unfolding_all rfl) (by decide) (by rfl) (by decide) (by rfl) (by rfl) (by rfl) ?_)))
          k_with "CompSrcT" => ((k_here; k_dflt (first | (refine LCt.CompSrcT.ledger (by rfl) (by k_asm) (by k_asm) (by k_mem) (by first | size_fits | exact Nat.le_of_ble_eq_true rfl) ?_; intro g'; first | lct_lit | (with_unfolding_all change @LCt.CompRestT _ _ _ _ _ _ _ _ _ _ _ _ _ _ _ _ 4 _ _ _)) | (refine LCt.CompSrcT.range (by rfl) (by k_asm) (by k_asm) (by assumption) (by first | decide | rfl) (by first | rfl | decide) (by first | size_fits | exact Nat.le_of_ble_eq_true rfl) ?_; intro g'; first | lct_lit | (with_unfolding_all change @LCt.CompRestT _ _ _ _ _ _ _ _ _ _ _ _ _ _ _ _ 4 _ _ _)))))
          k_with "law box" => (first | exact bx_f3 _ | exact bx_r27 _ | exact frs_bx (by assumption) | assumption)
          k_with "tok pos" => ((dsimp only; first | assumption | exact Nat.succ_pos _))
          k_with "tok ne" => (first | assumption | exact Nat.succ_ne_zero _ | exact tok_ne (by assumption))
          k_with "law sweep0" => (((repeat (rename LCg.Off1 _ _ => zz; clear zz)); (repeat (rename LitOf _ _ _ _ _ _ _ => zz; clear zz)); (repeat (rename Obj.data _ = _ => zz; clear zz)); (repeat (rename News _ _ _ _ => zz; clear zz)); (repeat (rename Fr _ _ _ _ => zz; clear zz)); (repeat (rename CarriedAll _ _ => zz; clear zz)); (repeat (rename NewPlain _ _ _ => zz; clear zz)); (repeat (rename PySem.W.Dflts _ _ _ => zz; clear zz)); (repeat (rename Heap.CodeRec _ _ _ => zz; clear zz)); (repeat (rename _ ∧ _ => zz; clear zz)); (repeat (rename _ ≠ _ => zz; clear zz)); (repeat (rename IntsAre _ _ => zz; clear zz)); (repeat (rename @LT.lt Nat _ 0 _ => zz; clear zz)); (try dsimp only)))
          k_with "turn end" => ((dsimp only [TPost]; refine' JG_end ?F ?N ?hI ?hX ?c5 ?c4 ?c3 ?c2 ?c1 ?mP ?v1 ?v2 ?v3 ?v4 ?v5 ?hP ?hD ?n5 ?n6 ?n7 ?LO ?oP ?oD ?oX ?oI ?hit; (case hit => assumption); (case F => assumption); (case N => assumption); (case hI => k_mem); (case hX => k_mem); (case c5 => k_mem); (case c4 => k_mem); (case c3 => k_mem); (case c2 => k_mem); (case c1 => k_mem); (case mP => rfl); (case v1 => assumption); (case v2 => assumption); (case v3 => exact ⟨_, by assumption⟩); (case v4 => exact ⟨_, by assumption⟩); (case v5 => exact ⟨_, by assumption⟩); (case hP => k_mem); (case hD => k_mem); (case n5 => assumption); (case n6 => assumption); (case n7 => assumption); (case LO => assumption); (case oP => exact ⟨by k_ne, by k_ne, by k_ne, by k_ne, by k_ne, by k_ne, trivial⟩); (case oX => exact ⟨by k_ne, by k_ne, by k_ne, by k_ne, by k_ne, trivial⟩); (case oD => exact ⟨by k_ne, by k_ne, by k_ne, by k_ne, by k_ne, by k_ne, by k_ne, trivial⟩); (case oI => exact ⟨by k_ne, by k_ne, by k_ne, by k_ne, by k_ne, by k_ne, trivial⟩)))
          k_with "law sweep" => (((repeat (rename LCg.Off1 _ _ => zz; clear zz)); (repeat (rename LitOf _ _ _ _ _ _ _ => zz; clear zz)); (repeat (rename Obj.data _ = _ => zz; clear zz)); (repeat (rename News _ _ _ _ => zz; clear zz)); (repeat (rename Fr _ _ _ _ => zz; clear zz)); (repeat (rename CarriedAll _ _ => zz; clear zz)); (repeat (rename NewPlain _ _ _ => zz; clear zz)); (repeat (rename PySem.W.Dflts _ _ _ => zz; clear zz)); (repeat (rename Heap.CodeRec _ _ _ => zz; clear zz)); (repeat (rename _ < _ ∧ _ => zz; clear zz)); (repeat (rename _ ≠ _ => zz; clear zz)); (repeat (rename IntsAre _ _ => zz; clear zz)); (repeat (rename @LT.lt Nat _ 0 _ => zz; clear zz)); (try dsimp only)))
          k_with "law steps" => (repeat' ((fail_if_success (with_reducible refine Hold.mk ?_)); first | (k_unfold; (try dsimp only)) | ((with_reducible show wpAny _ _ (exec _ _) _ _ _); k_fold) | walk1 | (dsimp only; walk1) | (leave1; try dsimp only) | fail "no step"))
          refine' JV_end ?z54F ?z54N ?z54hI ?z54c5 ?z54c4 ?z54c3 ?z54c2 ?z54c1 ?z54mP ?z54mD ?z54mQ ?z54mW ?z54v1 ?z54v4 ?z54v2 ?z54v3 ?z54v5 ?z54hP ?z54hQ ?z54hPt ?z54oP ?z54oQ ?z54oPt ?z54oW ?z54oI [(_, listOf #[Value.ref R] kw), (R, fl3 _ _ _ u1 u2 u3 kr)] ?z54ht ?z54oIt (.inr ⟨by omega, R, u1, u2, u3, kw, kr, nu1, nu2, nu3, rfl, ?z54oR⟩)
          ((case z54F => assumption); (case z54N => assumption); (case z54hI => k_mem); (case z54c5 => k_mem); (case z54c4 => k_mem); (case z54c3 => k_mem); (case z54c2 => k_mem); (case z54c1 => k_mem); (case z54mP => rfl); (case z54mD => rfl); (case z54mQ => rfl); (case z54mW => rfl); (case z54v1 => assumption); (case z54v4 => assumption); (case z54v2 => exact ⟨_, by assumption⟩); (case z54v3 => exact ⟨_, by assumption⟩); (case z54v5 => exact ⟨_, by assumption⟩); (case z54hP => k_mem); (case z54hQ => k_mem); (case z54hPt => k_mem); (case z54oP => exact ⟨by k_ne, by k_ne, by k_ne, by k_ne, by k_ne, by k_ne, trivial⟩); (case z54oQ => exact ⟨by k_ne, by k_ne, by k_ne, by k_ne, by k_ne, trivial⟩); (case z54oPt => exact ⟨by k_ne, by k_ne, by k_ne, by k_ne, by k_ne, trivial⟩); (case z54oW => exact ⟨by k_ne, by k_ne, by k_ne, by k_ne, by k_ne, by k_ne, by k_ne, by k_ne, trivial⟩); (case z54oI => exact ⟨by k_ne, by k_ne, by k_ne, by k_ne, by k_ne, by k_ne, by k_ne, by k_ne, trivial⟩); (case z54ht => lcg_sub))
          (case z54oIt => exact ⟨by k_ne, by k_ne, trivial⟩)
          (case z54oR => exact ⟨by k_ne, by k_ne, by k_ne, by k_ne, by k_ne, by k_ne, by k_ne, by k_ne, by k_ne, trivial⟩))
end
end Mine
theorem PySem.Challenge.cw_sn0018_01_holds : PySem.Challenge.rw_sn0018_01.Holds :=
  Mine.law_holds
