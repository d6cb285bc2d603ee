import PyProof.Rows.All
import Wide.All
import OpenK.AllK
import Wide.FinOn
import PyProof.MaxThree
import PySem.Challenge.RW_qu0034_01
open PySem PySem.W PySem.Spec PySem.Calls PyProof.Rows
set_option Elab.async false
set_option linter.all false
set_option maxRecDepth 100000
set_option maxHeartbeats 0
namespace Mine
/-- the program's text without its lines for «__name__» -/
def vw : Program := PySem.W.view PySem.Challenge.pw_qu0034_01 [1, 2, 3, 4, 5, 7, 8, 10, 11, 12, 13, 14, 16, 17]
/-- the looks at the law, each by the kernel apart -/
theorem said_looks : PySem.W.looksOpen PySem.Challenge.rw_qu0034_01.row.prog = true := by
  unfold looksOpen
  repeat' with_reducible refine look_both ?_ ?_
  all_goals decide +kernel
theorem said_row : PySem.W.OpenRow.wellSaid PySem.Challenge.rw_qu0034_01.row = true := by
  unfold OpenRow.wellSaid OpenRow.partSaid
  repeat' with_reducible refine look_both ?_ ?_
  all_goals first | with_reducible exact said_looks | decide +kernel
theorem said : PySem.W.OpenLaw.wellSaid PySem.Challenge.rw_qu0034_01 = true := by
  unfold OpenLaw.wellSaid
  repeat' with_reducible refine look_both ?_ ?_
  all_goals first | with_reducible exact said_row | decide +kernel
section
local macro_rules | `(tactic| o_law) => `(tactic| refine holds_law Mine.said fun said => ?_)
local macro_rules | `(tactic| o_head $H) => `(tactic| (
    refine holds_open (q := Mine.vw) (loose := []) (Xt := fun s => xlAt Mine.vw [] s && recOk (RowW.records (OpenRow.toRowW (OpenLaw.row PySem.Challenge.rw_qu0034_01))) s) (XP := XL Mine.vw []) (Yf := Hook.obs $H) (Ya := Hook.val $H) (YP := Hook.says $H) (N := 984) (fun w => by kernel_rfl) (Hook.of $H) (Hook.keeps $H) (fun s e => xl_of s (Bool.and_eq_true_iff.mp e).1) XL.keeps (by rfl) (by rfl) (by rfl) (fun s e => recFacts_of (Bool.and_eq_true_iff.mp e).2) (by rfl) (by assumption) (by decide +kernel) ⟨rfl, rfl, rfl, rfl, rfl, by decide +kernel⟩ ?hw ?hc))
open_top hd for PySem.Challenge.rw_qu0034_01
end
/-- the walk of the head leaves the top's lines on: they are laid off -/
theorem top_off : True := by w_top off; exact trivial
end Mine
namespace Mine

/-- what a frame of the walk knows of its surroundings -/
structure Cx (w : World) (mean : ExcName → Option Value) (mg mb : Str → Option Value) (dp un : Nat) (cs : Scope) (outer : List Env) (A₀ : Around) (base h₀ : Heap) (L : Addr) (m : Str → Option Value) (s : Shared) : Prop where
  B : Below A₀ base outer h₀
  F : Fr h₀ L s.heap m
  X : Frag.In (Mine.hd.heap_1 (World.params w)) h₀
  T : Top Mine.vw (looseW Mine.vw []) mean mg mb h₀
  hk : cs.kind = .function
  hd : dp + 20 < recursionLimit
  hu : un + 100 < cLine

/-- the end of a called def: the ledger as' that it leaves, over the ground g -/
def Out (g : Heap) (P : Value → List (Addr × Obj) → Shared → Prop) (v : Value) (s' : Shared) : Prop :=
  ∃ L' m' as', Fr g L' s'.heap m' ∧ News g L' s'.heap as' ∧ P v as' s'

section
variable {prog : Program} {w : World} {A₀ A : Around} {s : Shared} {base h₀ : Heap} {outer : List Env} {L : Addr} {m : Str → Option Value} {env : Env} {as : List (Addr × Obj)} {K : Frag}
  {p : Program} {loose : List Str} {mean : ExcName → Option Value} {mg mb : Str → Option Value}
  {name qual : Str} {params : Arguments} {body : List Stmt} {scope : Scope} {dV kV doc pm cdv ct oc : Value} {an od : Option Addr} {osl : Array (Option Value)} {f : Addr} {args : Args} {binds : List (Str × Value)}

theorem enter {P : Heap → Value → List (Addr × Obj) → Shared → Prop} {R : Result → Shared → Prop} (B : Below A₀ base outer h₀) (F : Fr h₀ L s.heap m) (X₀ : K.In h₀) (N : News h₀ L s.heap as) (T : Top p loose mean mg mb h₀) (hA : A.frames = some (env :: outer)) (hf : env.frame = some L) (hke : env.scope.kind = .function)
    (ho : K.lookup f = some ⟨oc, od, .func (fnOf name qual params body scope dV kV doc pm an cdv ct), osl⟩) (hcd : codeIn K cdv qual = true) (hroom : A.depth < recursionLimit)
    (hbind : BindsTo s (fnOf name qual params body scope dV kV doc pm an cdv ct) args binds) (hloc : ∀ y ∈ binds, scope.names.lookup y.1 = some .local)
    (h : ∀ g L' h₁, Fr g L' h₁ (fun y => binds.reverse.lookup y) → News g L' h₁ as → Below A base (env :: outer) g → K.In g → Top p loose mean mg mb g →
      wpAny (model prog w) (A.deeper (envOf qual scope L' f cdv)) (execs body (envOf qual scope L' f cdv))
        (fun fl s' => Out g (P g) (match fl with | .ret v => v | _ => .none) s')
        (fun _ _ => False)
        { s with heap := h₁, toks := s.toks + binds.length })
    (hR : ∀ v as' s', P (hideAll s.heap (as.map (·.1))) v as' s' → (∀ b o, b ∉ as.map (·.1) → s.heap.get? b = some o → s'.heap.get? b = some o) →
      (∀ q ∈ as', s'.heap.get? q.1 = some q.2 ∧ (q.1 ∈ as.map (·.1) ∨ s.heap.get? q.1 = none)) → R (.ok (.ret v)) s')
    (hco : scope.isCoroutine = false) (hgen : scope.isGenerator = false) (hk : scope.kind = .function)
    (hcell : ∀ x ∈ scope.names, x.2 ≠ .cell) : codeAny (model prog w) A (.call (.ref f) args) R s := by
  obtain ⟨FG, BG, st, -⟩ := groundX (R := R) B F N hA hf hke
  refine codeAny_call_def (fd := fnOf name qual params body scope dV kV doc pm an cdv ct) (body := body) (binds := binds) hroom ((X₀.keeps F.keep) _ _ ho) rfl (T.nolimit.keeps F.keep) (codeRec_of (X₀.keeps F.keep) hcd) rfl hbind hcell hloc (fun h₁ hns hk₁ => ?_) hco hgen hk
  refine wpAny_mono (h _ s.heap.objs.size h₁ ⟨hns, fun b o e => hk₁ b o (of_hideAll _ e), Nat.le_of_eq (hideAll_size _ _)⟩
    (fun p hp => ⟨hk₁ _ _ (N p hp).1, Nat.ne_of_lt (Heap.lt_size (N p hp).1), hideAll_none _ (List.mem_map_of_mem hp)⟩) BG (X₀.keeps st) (T.keeps st)) (fun fl s' hl => ?_) fun _ _ y => y.elim
  obtain ⟨L', m', as', F', N', hp⟩ := hl
  refine hR _ _ _ hp (fun b o hb e => F'.keep b o (hideAll_get _ e hb)) fun q hq => ⟨(N' q hq).1, ?_⟩
  by_cases hm : q.1 ∈ as.map (·.1)
  · exact .inl hm
  · refine .inr ?_
    cases e : s.heap.get? q.1 with
    | none => rfl
    | some o => have := (N' q hq).2.2; rw [hideAll_get _ e hm] at this; cases this
end

/-- the caller's frame and ledger behind a call that left all but l as it was -/
theorem back_upd {h₀ h h' : Heap} {L l : Addr} {m : Str → Option Value} {news : List (Addr × Obj)} {o o' : Obj} {g : Obj → List (Addr × Obj)} (F : Fr h₀ L h m) (N : News h₀ L h news) (U : UpdF l o news g)
    (hk : ∀ b ob, b ≠ l → h.get? b = some ob → h'.get? b = some ob) (hl : h'.get? l = some o') : Fr h₀ L h' m ∧ News h₀ L h' (g o') := by
  obtain ⟨pre, post, rfl, hg, h1, h2⟩ := U.split
  have D := N (l, o) (by simp)
  obtain ⟨oL, es, ep, hL, r⟩ := F.ns
  refine ⟨⟨⟨oL, es, ep, hk _ _ (Ne.symm D.2.1) hL, r⟩, fun b x q => hk _ _ (fun z => ?_) (F.keep b x q), F.above⟩, ?_⟩
  · have := D.2.2; rw [← z, q] at this; cases this
  · rw [hg]
    intro p hp
    rcases List.mem_append.mp hp with q | q
    · have P := N p (List.mem_append_left _ q); exact ⟨hk _ _ (h1 p q) P.1, P.2⟩
    · rcases List.mem_cons.mp q with rfl | q
      · exact ⟨hl, D.2⟩
      · have P := N p (List.mem_append_right _ (.tail _ q)); exact ⟨hk _ _ (h2 p q) P.1, P.2⟩

/-- the caller's frame and ledger behind a call that left all as it was -/
theorem back_all {h₀ h h' : Heap} {L : Addr} {m : Str → Option Value} {news : List (Addr × Obj)} (F : Fr h₀ L h m) (N : News h₀ L h news)
    (hk : ∀ b ob, h.get? b = some ob → h'.get? b = some ob) : Fr h₀ L h' m ∧ News h₀ L h' news := by
  obtain ⟨oL, es, ep, hL, r⟩ := F.ns
  exact ⟨⟨⟨oL, es, ep, hk _ _ hL, r⟩, fun b x q => hk _ _ (F.keep b x q), F.above⟩, fun p hp => ⟨hk _ _ (N p hp).1, (N p hp).2⟩⟩

/-- .. and made one object -/
theorem back_new {h₀ h h' : Heap} {L q : Addr} {m : Str → Option Value} {news : List (Addr × Obj)} {oq : Obj} (F : Fr h₀ L h m) (N : News h₀ L h news)
    (hk : ∀ b ob, h.get? b = some ob → h'.get? b = some ob) (hq : h'.get? q = some oq) (hn : h.get? q = none) : Fr h₀ L h' m ∧ News h₀ L h' ((q, oq) :: news) ∧ ∀ p ∈ news, p.1 ≠ q := by
  obtain ⟨F', N'⟩ := back_all F N hk
  obtain ⟨oL, es, ep, hL, r⟩ := F.ns
  refine ⟨F', fun p hp => ?_, fun p hp e => ?_⟩
  · rcases List.mem_cons.mp hp with rfl | hp
    · refine ⟨hq, fun e => ?_, ?_⟩
      · have e' : q = L := e
        rw [e', hL] at hn; cases hn
      · cases e : h₀.get? q with
        | none => rfl
        | some o => have := F.keep _ _ e; rw [hn] at this; cases this
    · exact N' p hp
  · have := (N p hp).1
    rw [e, hn] at this
    cases this
end Mine
namespace Mine

def pushF : List Int → Int → List Int
  | [], v => [v]
  | [a], v => if v < a then [v, a] else [a, v]
  | [a, b], v => if v < a then [v, b, a] else [a, b, v]
  | l, _ => l
def popF : List Int → List Int
  | [_, b] => [b]
  | [_, b, c] => if c < b then [c, b] else [b, c]
  | _ => []
def ppV : List Int → Int → Int
  | [], v => v
  | a :: _, v => if a < v then a else v
def ppL : List Int → Int → List Int
  | [a], v => if a < v then [v] else [a]
  | [a, b], v => if a < v then (if v < b then [v, b] else [b, v]) else [a, b]
  | [a, b, c], v => if a < v then (if b < c then (if v < b then [v, b, c] else [b, v, c]) else (if v < c then [v, b, c] else [c, b, v])) else [a, b, c]
  | l, _ => l

def sdF : List Int → List Int
  | [a, b] => if b < a then [b, a] else [a, b]
  | l => l
def sd3a : List Int → List Int
  | [a, b, c] => if b < a then [b, a, c] else [a, b, c]
  | l => l
def sd3b : List Int → List Int
  | [a, b, c] => if c < a then [c, b, a] else [a, b, c]
  | l => l
def suF : List Int → List Int
  | [a, b] => if a < b then [a, b] else [b, a]
  | [a, b, c] => if b < c then (if a < b then [a, b, c] else [b, a, c]) else (if a < c then [a, b, c] else [c, b, a])
  | l => l
/-- the end of a heap function: what comes back, the list as it is then -/
def HeapEnd (l : Addr) (s : Shared) (R : Value → Prop) (ns : List Int) (v : Value) (as' : List (Addr × Obj)) (s' : Shared) : Prop :=
  R v ∧ (∃ vs' n', as' = [(l, listOf (List.toArray vs') n')] ∧ IntsAre vs' ns) ∧ ∃ h' tk', s' = { s with heap := h', toks := tk' }
local macro_rules | `(tactic| walk_at "mine heap end") => `(tactic| (
  (try dsimp only)
  (repeat (k_unfold; (try dsimp only)))
  refine ⟨_, _, _, (by k_asm), (by first | k_asm | exact cb_drop (news := [(_, _)]) (by assumption) (List.forall_mem_cons.mpr ⟨by k_mem, List.forall_mem_nil _⟩)), ?_, ⟨_, _, rfl, ?_⟩, ⟨_, _, rfl⟩⟩
  · first
    | exact rfl
    | exact ⟨_, rfl⟩
    | (simp only [ppV]; first | (rw [if_pos (by assumption)]; exact ⟨_, rfl⟩) | (rw [if_neg (by assumption)]; exact ⟨_, rfl⟩))
  · (try simp only [pushF, popF, ppL, sdF, sd3a, sd3b, suF])
    (try first | rw [if_pos (by assumption)] | rw [if_neg (by assumption)])
    (try first | rw [if_pos (by assumption)] | rw [if_neg (by assumption)])
    (try first | rw [if_pos (by assumption)] | rw [if_neg (by assumption)])
    first | assumption | exact .nil | exact .cons _ _ .nil | exact .cons _ _ (.cons _ _ .nil) | exact .cons _ _ (.cons _ _ (.cons _ _ .nil))))
theorem UpdF_one (l : Addr) (o : Obj) : UpdF l o [(l, o)] fun o' => [(l, o')] := by k_updF
theorem ints_le3 {vs : List Value} {ns : List Int} (h : IntsAre vs ns) (hl : ns.length ≤ 3) : (vs = [] ∧ ns = []) ∨ (∃ x t, vs = [.int x t] ∧ ns = [x]) ∨ (∃ x y t u, vs = [.int x t, .int y u] ∧ ns = [x, y]) ∨ ∃ x y z t u v, vs = [.int x t, .int y u, .int z v] ∧ ns = [x, y, z] := by
  match ns, hl with
  | [], _ => exact .inl ⟨h.nil_inv, rfl⟩
  | [x], _ =>
    obtain ⟨t, w0, e0, h⟩ := h.cons_inv
    rw [h.nil_inv] at e0
    exact .inr (.inl ⟨x, t, e0, rfl⟩)
  | [x, y], _ =>
    obtain ⟨t, w0, e0, h⟩ := h.cons_inv
    obtain ⟨u, w1, e1, h⟩ := h.cons_inv
    rw [h.nil_inv] at e1
    rw [e1] at e0
    exact .inr (.inr (.inl ⟨x, y, t, u, e0, rfl⟩))
  | [x, y, z], _ =>
    obtain ⟨t, w0, e0, h⟩ := h.cons_inv
    obtain ⟨u, w1, e1, h⟩ := h.cons_inv
    obtain ⟨v, w2, e2, h⟩ := h.cons_inv
    rw [h.nil_inv] at e2
    rw [e2] at e1
    rw [e1] at e0
    exact .inr (.inr (.inr ⟨x, y, z, t, u, v, e0, rfl⟩))
  | _ :: _ :: _ :: _ :: _, hl => exact absurd hl (by simp)
theorem sd10 {w : World} {mean : ExcName → Option Value} {mg mb : Str → Option Value} {dp un : Nat} {cs : Scope} {outer : List Env} {A₀ : Around} {base h₀ : Heap} {L : Addr} {m : Str → Option Value} {s : Shared}
    {gd : Option (List Code)} {cn : Str} {a : Addr} {ccd : Value} {cl : List (Str × Addr)} {Q E : Value → Shared → Prop} {l : Addr} {x : Int} {t0 : Tok} {p : Int} {ts tp : Tok} {n : Nat}
    (B : Below A₀ base outer h₀) (F : Fr h₀ L s.heap m) (X : Frag.In (Mine.hd.heap_1 (World.params w)) h₀) (T : Top Mine.vw (looseW Mine.vw []) mean mg mb h₀) (hk : cs.kind = .function) (hd : dp + 5 < recursionLimit) (hu : un + 60 < cLine) (N : News h₀ L s.heap [(l, listOf #[.int x t0] n)]) (hp : p = 0)
    (hQ : ∀ vs' n' h' tk', IntsAre vs' ([x]) → Fr h₀ L h' m → News h₀ L h' [(l, listOf (List.toArray vs') n')] → Q .none { s with heap := h', toks := tk' }) :
    wpAny (model (RowW.prog (OpenRow.toRowW (OpenLaw.row PySem.Challenge.rw_qu0034_01))) w) (ktrTop dp un gd cn cs L a ccd cl outer) (call (.ref 70) [.ref l, .int 0 ts, .int p tp]) Q E s := by
  subst hp
  have fin : ∀ v' as' s', HeapEnd l s (fun v' => v' = Value.none) ([x]) v' as' s' → (∀ b o, b ∉ [l] → s.heap.get? b = some o → s'.heap.get? b = some o) → (∀ q ∈ as', s'.heap.get? q.1 = some q.2) → Q v' s' := by
    rintro v' as' s' ⟨rfl, ⟨vs', n', rfl, hi⟩, h', tk', rfl⟩ hb hq
    obtain ⟨F', N'⟩ := back_upd F N (g := fun o => [(l, o)]) (UpdF_one l _) (h' := h') (fun b ob hn e => hb b ob (by simpa using hn) e) (hq _ (.head _))
    exact hQ vs' n' h' tk' hi F' N'
  clear hQ
  revert X
  k_fill
  intro X
  refine wpAny_call ?_
  refine' enter (P := fun _ => HeapEnd l s (fun v' => v' = Value.none) ([x])) (binds := [(Str.ofString "heap", .ref l), (Str.ofString "startpos", .int 0 ts), (Str.ofString "pos", .int 0 tp)]) ?k1 ?k2 ?k3 ?k4 ?k5 ?kA ?kF ?kK ?k6 ?k7 ?k8 ?k9 ?kB ?_ ?kR ?c2 ?c3 ?c4 ?c5
  case kA => exact rfl
  case kF => exact rfl
  case kK => assumption
  case k1 => k_asm
  case k2 => k_asm
  case k3 => k_asm
  case k4 => k_asm
  case k5 => k_asm
  case k6 => k_is
  case k7 => k_is
  case k8 => ktr_room
  case k9 => exact BindsTo.of_eq rfl
  case c5 => decide
  case kB => exact locs rfl
  case c2 => exact rfl
  case c3 => exact rfl
  case c4 => exact rfl
  case kR => exact fun v' as' s' hp hb hq => fin v' as' s' hp hb fun q hm => (hq q hm).1
  clear F N fin
  intro g' L' h' F' N' B' X' T'
  (try dsimp only)
  (try k_fold)
  k_steps
  all_goals (walk_at "mine heap end")
theorem sd21 {w : World} {mean : ExcName → Option Value} {mg mb : Str → Option Value} {dp un : Nat} {cs : Scope} {outer : List Env} {A₀ : Around} {base h₀ : Heap} {L : Addr} {m : Str → Option Value} {s : Shared}
    {gd : Option (List Code)} {cn : Str} {a : Addr} {ccd : Value} {cl : List (Str × Addr)} {Q E : Value → Shared → Prop} {l : Addr} {x y : Int} {t0 t1 : Tok} {p : Int} {ts tp : Tok} {n : Nat}
    (B : Below A₀ base outer h₀) (F : Fr h₀ L s.heap m) (X : Frag.In (Mine.hd.heap_1 (World.params w)) h₀) (T : Top Mine.vw (looseW Mine.vw []) mean mg mb h₀) (hk : cs.kind = .function) (hd : dp + 5 < recursionLimit) (hu : un + 60 < cLine) (N : News h₀ L s.heap [(l, listOf #[.int x t0, .int y t1] n)]) (hp : p = 1)
    (hQ : ∀ vs' n' h' tk', IntsAre vs' (sdF [x, y]) → Fr h₀ L h' m → News h₀ L h' [(l, listOf (List.toArray vs') n')] → Q .none { s with heap := h', toks := tk' }) :
    wpAny (model (RowW.prog (OpenRow.toRowW (OpenLaw.row PySem.Challenge.rw_qu0034_01))) w) (ktrTop dp un gd cn cs L a ccd cl outer) (call (.ref 70) [.ref l, .int 0 ts, .int p tp]) Q E s := by
  subst hp
  have fin : ∀ v' as' s', HeapEnd l s (fun v' => v' = Value.none) (sdF [x, y]) v' as' s' → (∀ b o, b ∉ [l] → s.heap.get? b = some o → s'.heap.get? b = some o) → (∀ q ∈ as', s'.heap.get? q.1 = some q.2) → Q v' s' := by
    rintro v' as' s' ⟨rfl, ⟨vs', n', rfl, hi⟩, h', tk', rfl⟩ hb hq
    obtain ⟨F', N'⟩ := back_upd F N (g := fun o => [(l, o)]) (UpdF_one l _) (h' := h') (fun b ob hn e => hb b ob (by simpa using hn) e) (hq _ (.head _))
    exact hQ vs' n' h' tk' hi F' N'
  clear hQ
  revert X
  k_fill
  intro X
  refine wpAny_call ?_
  refine' enter (P := fun _ => HeapEnd l s (fun v' => v' = Value.none) (sdF [x, y])) (binds := [(Str.ofString "heap", .ref l), (Str.ofString "startpos", .int 0 ts), (Str.ofString "pos", .int 1 tp)]) ?k1 ?k2 ?k3 ?k4 ?k5 ?kA ?kF ?kK ?k6 ?k7 ?k8 ?k9 ?kB ?_ ?kR ?c2 ?c3 ?c4 ?c5
  case kA => exact rfl
  case kF => exact rfl
  case kK => assumption
  case k1 => k_asm
  case k2 => k_asm
  case k3 => k_asm
  case k4 => k_asm
  case k5 => k_asm
  case k6 => k_is
  case k7 => k_is
  case k8 => ktr_room
  case k9 => exact BindsTo.of_eq rfl
  case c5 => decide
  case kB => exact locs rfl
  case c2 => exact rfl
  case c3 => exact rfl
  case c4 => exact rfl
  case kR => exact fun v' as' s' hp hb hq => fin v' as' s' hp hb fun q hm => (hq q hm).1
  clear F N fin
  intro g' L' h' F' N' B' X' T'
  (try dsimp only)
  (try k_fold)
  k_steps
  all_goals (walk_at "mine heap end")
theorem sd31 {w : World} {mean : ExcName → Option Value} {mg mb : Str → Option Value} {dp un : Nat} {cs : Scope} {outer : List Env} {A₀ : Around} {base h₀ : Heap} {L : Addr} {m : Str → Option Value} {s : Shared}
    {gd : Option (List Code)} {cn : Str} {a : Addr} {ccd : Value} {cl : List (Str × Addr)} {Q E : Value → Shared → Prop} {l : Addr} {x y z : Int} {t0 t1 t2 : Tok} {p : Int} {ts tp : Tok} {n : Nat}
    (B : Below A₀ base outer h₀) (F : Fr h₀ L s.heap m) (X : Frag.In (Mine.hd.heap_1 (World.params w)) h₀) (T : Top Mine.vw (looseW Mine.vw []) mean mg mb h₀) (hk : cs.kind = .function) (hd : dp + 5 < recursionLimit) (hu : un + 60 < cLine) (N : News h₀ L s.heap [(l, listOf #[.int x t0, .int y t1, .int z t2] n)]) (hp : p = 1)
    (hQ : ∀ vs' n' h' tk', IntsAre vs' (sd3a [x, y, z]) → Fr h₀ L h' m → News h₀ L h' [(l, listOf (List.toArray vs') n')] → Q .none { s with heap := h', toks := tk' }) :
    wpAny (model (RowW.prog (OpenRow.toRowW (OpenLaw.row PySem.Challenge.rw_qu0034_01))) w) (ktrTop dp un gd cn cs L a ccd cl outer) (call (.ref 70) [.ref l, .int 0 ts, .int p tp]) Q E s := by
  subst hp
  have fin : ∀ v' as' s', HeapEnd l s (fun v' => v' = Value.none) (sd3a [x, y, z]) v' as' s' → (∀ b o, b ∉ [l] → s.heap.get? b = some o → s'.heap.get? b = some o) → (∀ q ∈ as', s'.heap.get? q.1 = some q.2) → Q v' s' := by
    rintro v' as' s' ⟨rfl, ⟨vs', n', rfl, hi⟩, h', tk', rfl⟩ hb hq
    obtain ⟨F', N'⟩ := back_upd F N (g := fun o => [(l, o)]) (UpdF_one l _) (h' := h') (fun b ob hn e => hb b ob (by simpa using hn) e) (hq _ (.head _))
    exact hQ vs' n' h' tk' hi F' N'
  clear hQ
  revert X
  k_fill
  intro X
  refine wpAny_call ?_
  refine' enter (P := fun _ => HeapEnd l s (fun v' => v' = Value.none) (sd3a [x, y, z])) (binds := [(Str.ofString "heap", .ref l), (Str.ofString "startpos", .int 0 ts), (Str.ofString "pos", .int 1 tp)]) ?k1 ?k2 ?k3 ?k4 ?k5 ?kA ?kF ?kK ?k6 ?k7 ?k8 ?k9 ?kB ?_ ?kR ?c2 ?c3 ?c4 ?c5
  case kA => exact rfl
  case kF => exact rfl
  case kK => assumption
  case k1 => k_asm
  case k2 => k_asm
  case k3 => k_asm
  case k4 => k_asm
  case k5 => k_asm
  case k6 => k_is
  case k7 => k_is
  case k8 => ktr_room
  case k9 => exact BindsTo.of_eq rfl
  case c5 => decide
  case kB => exact locs rfl
  case c2 => exact rfl
  case c3 => exact rfl
  case c4 => exact rfl
  case kR => exact fun v' as' s' hp hb hq => fin v' as' s' hp hb fun q hm => (hq q hm).1
  clear F N fin
  intro g' L' h' F' N' B' X' T'
  (try dsimp only)
  (try k_fold)
  k_steps
  all_goals (walk_at "mine heap end")
theorem sd32 {w : World} {mean : ExcName → Option Value} {mg mb : Str → Option Value} {dp un : Nat} {cs : Scope} {outer : List Env} {A₀ : Around} {base h₀ : Heap} {L : Addr} {m : Str → Option Value} {s : Shared}
    {gd : Option (List Code)} {cn : Str} {a : Addr} {ccd : Value} {cl : List (Str × Addr)} {Q E : Value → Shared → Prop} {l : Addr} {x y z : Int} {t0 t1 t2 : Tok} {p : Int} {ts tp : Tok} {n : Nat}
    (B : Below A₀ base outer h₀) (F : Fr h₀ L s.heap m) (X : Frag.In (Mine.hd.heap_1 (World.params w)) h₀) (T : Top Mine.vw (looseW Mine.vw []) mean mg mb h₀) (hk : cs.kind = .function) (hd : dp + 5 < recursionLimit) (hu : un + 60 < cLine) (N : News h₀ L s.heap [(l, listOf #[.int x t0, .int y t1, .int z t2] n)]) (hp : p = 2)
    (hQ : ∀ vs' n' h' tk', IntsAre vs' (sd3b [x, y, z]) → Fr h₀ L h' m → News h₀ L h' [(l, listOf (List.toArray vs') n')] → Q .none { s with heap := h', toks := tk' }) :
    wpAny (model (RowW.prog (OpenRow.toRowW (OpenLaw.row PySem.Challenge.rw_qu0034_01))) w) (ktrTop dp un gd cn cs L a ccd cl outer) (call (.ref 70) [.ref l, .int 0 ts, .int p tp]) Q E s := by
  subst hp
  have fin : ∀ v' as' s', HeapEnd l s (fun v' => v' = Value.none) (sd3b [x, y, z]) v' as' s' → (∀ b o, b ∉ [l] → s.heap.get? b = some o → s'.heap.get? b = some o) → (∀ q ∈ as', s'.heap.get? q.1 = some q.2) → Q v' s' := by
    rintro v' as' s' ⟨rfl, ⟨vs', n', rfl, hi⟩, h', tk', rfl⟩ hb hq
    obtain ⟨F', N'⟩ := back_upd F N (g := fun o => [(l, o)]) (UpdF_one l _) (h' := h') (fun b ob hn e => hb b ob (by simpa using hn) e) (hq _ (.head _))
    exact hQ vs' n' h' tk' hi F' N'
  clear hQ
  revert X
  k_fill
  intro X
  refine wpAny_call ?_
  refine' enter (P := fun _ => HeapEnd l s (fun v' => v' = Value.none) (sd3b [x, y, z])) (binds := [(Str.ofString "heap", .ref l), (Str.ofString "startpos", .int 0 ts), (Str.ofString "pos", .int 2 tp)]) ?k1 ?k2 ?k3 ?k4 ?k5 ?kA ?kF ?kK ?k6 ?k7 ?k8 ?k9 ?kB ?_ ?kR ?c2 ?c3 ?c4 ?c5
  case kA => exact rfl
  case kF => exact rfl
  case kK => assumption
  case k1 => k_asm
  case k2 => k_asm
  case k3 => k_asm
  case k4 => k_asm
  case k5 => k_asm
  case k6 => k_is
  case k7 => k_is
  case k8 => ktr_room
  case k9 => exact BindsTo.of_eq rfl
  case c5 => decide
  case kB => exact locs rfl
  case c2 => exact rfl
  case c3 => exact rfl
  case c4 => exact rfl
  case kR => exact fun v' as' s' hp hb hq => fin v' as' s' hp hb fun q hm => (hq q hm).1
  clear F N fin
  intro g' L' h' F' N' B' X' T'
  (try dsimp only)
  (try k_fold)
  k_steps
  all_goals (walk_at "mine heap end")
local macro_rules | `(tactic| walk_at "call ref") => `(tactic| (k_here; (with_reducible show wpAny _ _ (call (Value.ref 70) _) _ _ _); first
  | (refine' sd10 (cl := []) ?k1 ?k2 ?k3 ?k4 ?k5 ?k6 ?k7 ?k8 ?k9 ?_; (case k1 => k_asm); (case k2 => k_asm); (case k3 => k_asm); (case k4 => k_asm); (case k5 => rfl); (case k6 => first | omega | (dsimp only [ktrTop]; omega)); (case k7 => first | omega | (dsimp only [ktrTop]; omega)); (case k8 => first | k_asm | exact cb_drop (news := [(_, _)]) (by assumption) (List.forall_mem_cons.mpr ⟨by k_mem, List.forall_mem_nil _⟩)); (case k9 => first | rfl | omega | decide); intro _ _ _ _ _ _ _; (try dsimp only))
  | (refine' sd21 (cl := []) ?k1 ?k2 ?k3 ?k4 ?k5 ?k6 ?k7 ?k8 ?k9 ?_; (case k1 => k_asm); (case k2 => k_asm); (case k3 => k_asm); (case k4 => k_asm); (case k5 => rfl); (case k6 => first | omega | (dsimp only [ktrTop]; omega)); (case k7 => first | omega | (dsimp only [ktrTop]; omega)); (case k8 => first | k_asm | exact cb_drop (news := [(_, _)]) (by assumption) (List.forall_mem_cons.mpr ⟨by k_mem, List.forall_mem_nil _⟩)); (case k9 => first | rfl | omega | decide); intro _ _ _ _ _ _ _; (try dsimp only))
  | (refine' sd31 (cl := []) ?k1 ?k2 ?k3 ?k4 ?k5 ?k6 ?k7 ?k8 ?k9 ?_; (case k1 => k_asm); (case k2 => k_asm); (case k3 => k_asm); (case k4 => k_asm); (case k5 => rfl); (case k6 => first | omega | (dsimp only [ktrTop]; omega)); (case k7 => first | omega | (dsimp only [ktrTop]; omega)); (case k8 => first | k_asm | exact cb_drop (news := [(_, _)]) (by assumption) (List.forall_mem_cons.mpr ⟨by k_mem, List.forall_mem_nil _⟩)); (case k9 => first | rfl | omega | decide); intro _ _ _ _ _ _ _; (try dsimp only))
  | (refine' sd32 (cl := []) ?k1 ?k2 ?k3 ?k4 ?k5 ?k6 ?k7 ?k8 ?k9 ?_; (case k1 => k_asm); (case k2 => k_asm); (case k3 => k_asm); (case k4 => k_asm); (case k5 => rfl); (case k6 => first | omega | (dsimp only [ktrTop]; omega)); (case k7 => first | omega | (dsimp only [ktrTop]; omega)); (case k8 => first | k_asm | exact cb_drop (news := [(_, _)]) (by assumption) (List.forall_mem_cons.mpr ⟨by k_mem, List.forall_mem_nil _⟩)); (case k9 => first | rfl | omega | decide); intro _ _ _ _ _ _ _; (try dsimp only))))
theorem su1 {w : World} {mean : ExcName → Option Value} {mg mb : Str → Option Value} {dp un : Nat} {cs : Scope} {outer : List Env} {A₀ : Around} {base h₀ : Heap} {L : Addr} {m : Str → Option Value} {s : Shared}
    {gd : Option (List Code)} {cn : Str} {a : Addr} {ccd : Value} {cl : List (Str × Addr)} {Q E : Value → Shared → Prop} {l : Addr} {x : Int} {t0 : Tok} {ts : Tok} {n : Nat}
    (B : Below A₀ base outer h₀) (F : Fr h₀ L s.heap m) (X : Frag.In (Mine.hd.heap_1 (World.params w)) h₀) (T : Top Mine.vw (looseW Mine.vw []) mean mg mb h₀) (hk : cs.kind = .function) (hd : dp + 10 < recursionLimit) (hu : un + 80 < cLine) (N : News h₀ L s.heap [(l, listOf #[.int x t0] n)])
    (hQ : ∀ vs' n' h' tk', IntsAre vs' ([x]) → Fr h₀ L h' m → News h₀ L h' [(l, listOf (List.toArray vs') n')] → Q .none { s with heap := h', toks := tk' }) :
    wpAny (model (RowW.prog (OpenRow.toRowW (OpenLaw.row PySem.Challenge.rw_qu0034_01))) w) (ktrTop dp un gd cn cs L a ccd cl outer) (call (.ref 77) [.ref l, .int 0 ts]) Q E s := by
  have fin : ∀ v' as' s', HeapEnd l s (fun v' => v' = Value.none) ([x]) v' as' s' → (∀ b o, b ∉ [l] → s.heap.get? b = some o → s'.heap.get? b = some o) → (∀ q ∈ as', s'.heap.get? q.1 = some q.2) → Q v' s' := by
    rintro v' as' s' ⟨rfl, ⟨vs', n', rfl, hi⟩, h', tk', rfl⟩ hb hq
    obtain ⟨F', N'⟩ := back_upd F N (g := fun o => [(l, o)]) (UpdF_one l _) (h' := h') (fun b ob hn e => hb b ob (by simpa using hn) e) (hq _ (.head _))
    exact hQ vs' n' h' tk' hi F' N'
  clear hQ
  revert X
  k_fill
  intro X
  refine wpAny_call ?_
  refine' enter (P := fun _ => HeapEnd l s (fun v' => v' = Value.none) ([x])) (binds := [(Str.ofString "heap", .ref l), (Str.ofString "pos", .int 0 ts)]) ?k1 ?k2 ?k3 ?k4 ?k5 ?kA ?kF ?kK ?k6 ?k7 ?k8 ?k9 ?kB ?_ ?kR ?c2 ?c3 ?c4 ?c5
  case kA => exact rfl
  case kF => exact rfl
  case kK => assumption
  case k1 => k_asm
  case k2 => k_asm
  case k3 => k_asm
  case k4 => k_asm
  case k5 => k_asm
  case k6 => k_is
  case k7 => k_is
  case k8 => ktr_room
  case k9 => exact BindsTo.of_eq rfl
  case c5 => decide
  case kB => exact locs rfl
  case c2 => exact rfl
  case c3 => exact rfl
  case c4 => exact rfl
  case kR => exact fun v' as' s' hp hb hq => fin v' as' s' hp hb fun q hm => (hq q hm).1
  clear F N fin
  intro g' L' h' F' N' B' X' T'
  (try dsimp only)
  (try k_fold)
  k_steps
  all_goals (walk_at "mine heap end")
theorem su2 {w : World} {mean : ExcName → Option Value} {mg mb : Str → Option Value} {dp un : Nat} {cs : Scope} {outer : List Env} {A₀ : Around} {base h₀ : Heap} {L : Addr} {m : Str → Option Value} {s : Shared}
    {gd : Option (List Code)} {cn : Str} {a : Addr} {ccd : Value} {cl : List (Str × Addr)} {Q E : Value → Shared → Prop} {l : Addr} {x y : Int} {t0 t1 : Tok} {ts : Tok} {n : Nat}
    (B : Below A₀ base outer h₀) (F : Fr h₀ L s.heap m) (X : Frag.In (Mine.hd.heap_1 (World.params w)) h₀) (T : Top Mine.vw (looseW Mine.vw []) mean mg mb h₀) (hk : cs.kind = .function) (hd : dp + 10 < recursionLimit) (hu : un + 80 < cLine) (N : News h₀ L s.heap [(l, listOf #[.int x t0, .int y t1] n)])
    (hQ : ∀ vs' n' h' tk', IntsAre vs' (suF [x, y]) → Fr h₀ L h' m → News h₀ L h' [(l, listOf (List.toArray vs') n')] → Q .none { s with heap := h', toks := tk' }) :
    wpAny (model (RowW.prog (OpenRow.toRowW (OpenLaw.row PySem.Challenge.rw_qu0034_01))) w) (ktrTop dp un gd cn cs L a ccd cl outer) (call (.ref 77) [.ref l, .int 0 ts]) Q E s := by
  have fin : ∀ v' as' s', HeapEnd l s (fun v' => v' = Value.none) (suF [x, y]) v' as' s' → (∀ b o, b ∉ [l] → s.heap.get? b = some o → s'.heap.get? b = some o) → (∀ q ∈ as', s'.heap.get? q.1 = some q.2) → Q v' s' := by
    rintro v' as' s' ⟨rfl, ⟨vs', n', rfl, hi⟩, h', tk', rfl⟩ hb hq
    obtain ⟨F', N'⟩ := back_upd F N (g := fun o => [(l, o)]) (UpdF_one l _) (h' := h') (fun b ob hn e => hb b ob (by simpa using hn) e) (hq _ (.head _))
    exact hQ vs' n' h' tk' hi F' N'
  clear hQ
  revert X
  k_fill
  intro X
  refine wpAny_call ?_
  refine' enter (P := fun _ => HeapEnd l s (fun v' => v' = Value.none) (suF [x, y])) (binds := [(Str.ofString "heap", .ref l), (Str.ofString "pos", .int 0 ts)]) ?k1 ?k2 ?k3 ?k4 ?k5 ?kA ?kF ?kK ?k6 ?k7 ?k8 ?k9 ?kB ?_ ?kR ?c2 ?c3 ?c4 ?c5
  case kA => exact rfl
  case kF => exact rfl
  case kK => assumption
  case k1 => k_asm
  case k2 => k_asm
  case k3 => k_asm
  case k4 => k_asm
  case k5 => k_asm
  case k6 => k_is
  case k7 => k_is
  case k8 => ktr_room
  case k9 => exact BindsTo.of_eq rfl
  case c5 => decide
  case kB => exact locs rfl
  case c2 => exact rfl
  case c3 => exact rfl
  case c4 => exact rfl
  case kR => exact fun v' as' s' hp hb hq => fin v' as' s' hp hb fun q hm => (hq q hm).1
  clear F N fin
  intro g' L' h' F' N' B' X' T'
  (try dsimp only)
  (try k_fold)
  k_steps
  all_goals (walk_at "mine heap end")
theorem su3 {w : World} {mean : ExcName → Option Value} {mg mb : Str → Option Value} {dp un : Nat} {cs : Scope} {outer : List Env} {A₀ : Around} {base h₀ : Heap} {L : Addr} {m : Str → Option Value} {s : Shared}
    {gd : Option (List Code)} {cn : Str} {a : Addr} {ccd : Value} {cl : List (Str × Addr)} {Q E : Value → Shared → Prop} {l : Addr} {x y z : Int} {t0 t1 t2 : Tok} {ts : Tok} {n : Nat}
    (B : Below A₀ base outer h₀) (F : Fr h₀ L s.heap m) (X : Frag.In (Mine.hd.heap_1 (World.params w)) h₀) (T : Top Mine.vw (looseW Mine.vw []) mean mg mb h₀) (hk : cs.kind = .function) (hd : dp + 10 < recursionLimit) (hu : un + 80 < cLine) (N : News h₀ L s.heap [(l, listOf #[.int x t0, .int y t1, .int z t2] n)])
    (hQ : ∀ vs' n' h' tk', IntsAre vs' (suF [x, y, z]) → Fr h₀ L h' m → News h₀ L h' [(l, listOf (List.toArray vs') n')] → Q .none { s with heap := h', toks := tk' }) :
    wpAny (model (RowW.prog (OpenRow.toRowW (OpenLaw.row PySem.Challenge.rw_qu0034_01))) w) (ktrTop dp un gd cn cs L a ccd cl outer) (call (.ref 77) [.ref l, .int 0 ts]) Q E s := by
  have fin : ∀ v' as' s', HeapEnd l s (fun v' => v' = Value.none) (suF [x, y, z]) v' as' s' → (∀ b o, b ∉ [l] → s.heap.get? b = some o → s'.heap.get? b = some o) → (∀ q ∈ as', s'.heap.get? q.1 = some q.2) → Q v' s' := by
    rintro v' as' s' ⟨rfl, ⟨vs', n', rfl, hi⟩, h', tk', rfl⟩ hb hq
    obtain ⟨F', N'⟩ := back_upd F N (g := fun o => [(l, o)]) (UpdF_one l _) (h' := h') (fun b ob hn e => hb b ob (by simpa using hn) e) (hq _ (.head _))
    exact hQ vs' n' h' tk' hi F' N'
  clear hQ
  revert X
  k_fill
  intro X
  refine wpAny_call ?_
  refine' enter (P := fun _ => HeapEnd l s (fun v' => v' = Value.none) (suF [x, y, z])) (binds := [(Str.ofString "heap", .ref l), (Str.ofString "pos", .int 0 ts)]) ?k1 ?k2 ?k3 ?k4 ?k5 ?kA ?kF ?kK ?k6 ?k7 ?k8 ?k9 ?kB ?_ ?kR ?c2 ?c3 ?c4 ?c5
  case kA => exact rfl
  case kF => exact rfl
  case kK => assumption
  case k1 => k_asm
  case k2 => k_asm
  case k3 => k_asm
  case k4 => k_asm
  case k5 => k_asm
  case k6 => k_is
  case k7 => k_is
  case k8 => ktr_room
  case k9 => exact BindsTo.of_eq rfl
  case c5 => decide
  case kB => exact locs rfl
  case c2 => exact rfl
  case c3 => exact rfl
  case c4 => exact rfl
  case kR => exact fun v' as' s' hp hb hq => fin v' as' s' hp hb fun q hm => (hq q hm).1
  clear F N fin
  intro g' L' h' F' N' B' X' T'
  (try dsimp only)
  (try k_fold)
  k_steps
  all_goals (walk_at "mine heap end")
theorem push0 {w : World} {mean : ExcName → Option Value} {mg mb : Str → Option Value} {dp un : Nat} {cs : Scope} {outer : List Env} {A₀ : Around} {base h₀ : Heap} {L : Addr} {m : Str → Option Value} {s : Shared}
    {gd : Option (List Code)} {cn : Str} {a : Addr} {ccd : Value} {cl : List (Str × Addr)} {Q E : Value → Shared → Prop} {l : Addr}  {v : Int} {tv : Tok} {n : Nat}
    (C : Cx w mean mg mb dp un cs outer A₀ base h₀ L m s) (N : News h₀ L s.heap [(l, listOf #[] n)])
    (hQ : ∀ v' as' s', HeapEnd l s (fun v' => v' = Value.none) (pushF [] v) v' as' s' → (∀ b o, b ∉ [l] → s.heap.get? b = some o → s'.heap.get? b = some o) → (∀ q ∈ as', s'.heap.get? q.1 = some q.2) → Q v' s') :
    wpAny (model (RowW.prog (OpenRow.toRowW (OpenLaw.row PySem.Challenge.rw_qu0034_01))) w) (ktrTop dp un gd cn cs L a ccd cl outer) (call (.ref 49) [.ref l, .int v tv]) Q E s := by
  obtain ⟨B, F, X, T, hk, hd, hu⟩ := C
  revert X
  k_fill
  intro X
  refine wpAny_call ?_
  refine' enter (P := fun _ => HeapEnd l s (fun v' => v' = Value.none) (pushF [] v)) (binds := [(Str.ofString "heap", .ref l), (Str.ofString "item", .int v tv)]) ?k1 ?k2 ?k3 ?k4 ?k5 ?kA ?kF ?kK ?k6 ?k7 ?k8 ?k9 ?kB ?_ ?kR ?c2 ?c3 ?c4 ?c5
  case kA => exact rfl
  case kF => exact rfl
  case kK => assumption
  case k1 => k_asm
  case k2 => k_asm
  case k3 => k_asm
  case k4 => k_asm
  case k5 => k_asm
  case k6 => k_is
  case k7 => k_is
  case k8 => ktr_room
  case k9 => exact BindsTo.of_eq rfl
  case c5 => decide
  case kB => exact locs rfl
  case c2 => exact rfl
  case c3 => exact rfl
  case c4 => exact rfl
  case kR => exact fun v' as' s' hp hb hq => hQ v' as' s' hp hb fun q hm => (hq q hm).1
  clear F N hQ
  intro g' L' h' F' N' B' X' T'
  (try dsimp only)
  (try k_fold)
  k_steps
  all_goals (walk_at "mine heap end")
theorem push1 {w : World} {mean : ExcName → Option Value} {mg mb : Str → Option Value} {dp un : Nat} {cs : Scope} {outer : List Env} {A₀ : Around} {base h₀ : Heap} {L : Addr} {m : Str → Option Value} {s : Shared}
    {gd : Option (List Code)} {cn : Str} {a : Addr} {ccd : Value} {cl : List (Str × Addr)} {Q E : Value → Shared → Prop} {l : Addr} {x : Int} {t0 : Tok} {v : Int} {tv : Tok} {n : Nat}
    (C : Cx w mean mg mb dp un cs outer A₀ base h₀ L m s) (N : News h₀ L s.heap [(l, listOf #[.int x t0] n)])
    (hQ : ∀ v' as' s', HeapEnd l s (fun v' => v' = Value.none) (pushF [x] v) v' as' s' → (∀ b o, b ∉ [l] → s.heap.get? b = some o → s'.heap.get? b = some o) → (∀ q ∈ as', s'.heap.get? q.1 = some q.2) → Q v' s') :
    wpAny (model (RowW.prog (OpenRow.toRowW (OpenLaw.row PySem.Challenge.rw_qu0034_01))) w) (ktrTop dp un gd cn cs L a ccd cl outer) (call (.ref 49) [.ref l, .int v tv]) Q E s := by
  obtain ⟨B, F, X, T, hk, hd, hu⟩ := C
  revert X
  k_fill
  intro X
  refine wpAny_call ?_
  refine' enter (P := fun _ => HeapEnd l s (fun v' => v' = Value.none) (pushF [x] v)) (binds := [(Str.ofString "heap", .ref l), (Str.ofString "item", .int v tv)]) ?k1 ?k2 ?k3 ?k4 ?k5 ?kA ?kF ?kK ?k6 ?k7 ?k8 ?k9 ?kB ?_ ?kR ?c2 ?c3 ?c4 ?c5
  case kA => exact rfl
  case kF => exact rfl
  case kK => assumption
  case k1 => k_asm
  case k2 => k_asm
  case k3 => k_asm
  case k4 => k_asm
  case k5 => k_asm
  case k6 => k_is
  case k7 => k_is
  case k8 => ktr_room
  case k9 => exact BindsTo.of_eq rfl
  case c5 => decide
  case kB => exact locs rfl
  case c2 => exact rfl
  case c3 => exact rfl
  case c4 => exact rfl
  case kR => exact fun v' as' s' hp hb hq => hQ v' as' s' hp hb fun q hm => (hq q hm).1
  clear F N hQ
  intro g' L' h' F' N' B' X' T'
  (try dsimp only)
  (try k_fold)
  k_steps
  all_goals (walk_at "mine heap end")
theorem push2 {w : World} {mean : ExcName → Option Value} {mg mb : Str → Option Value} {dp un : Nat} {cs : Scope} {outer : List Env} {A₀ : Around} {base h₀ : Heap} {L : Addr} {m : Str → Option Value} {s : Shared}
    {gd : Option (List Code)} {cn : Str} {a : Addr} {ccd : Value} {cl : List (Str × Addr)} {Q E : Value → Shared → Prop} {l : Addr} {x y : Int} {t0 t1 : Tok} {v : Int} {tv : Tok} {n : Nat}
    (C : Cx w mean mg mb dp un cs outer A₀ base h₀ L m s) (N : News h₀ L s.heap [(l, listOf #[.int x t0, .int y t1] n)])
    (hQ : ∀ v' as' s', HeapEnd l s (fun v' => v' = Value.none) (pushF [x, y] v) v' as' s' → (∀ b o, b ∉ [l] → s.heap.get? b = some o → s'.heap.get? b = some o) → (∀ q ∈ as', s'.heap.get? q.1 = some q.2) → Q v' s') :
    wpAny (model (RowW.prog (OpenRow.toRowW (OpenLaw.row PySem.Challenge.rw_qu0034_01))) w) (ktrTop dp un gd cn cs L a ccd cl outer) (call (.ref 49) [.ref l, .int v tv]) Q E s := by
  obtain ⟨B, F, X, T, hk, hd, hu⟩ := C
  revert X
  k_fill
  intro X
  refine wpAny_call ?_
  refine' enter (P := fun _ => HeapEnd l s (fun v' => v' = Value.none) (pushF [x, y] v)) (binds := [(Str.ofString "heap", .ref l), (Str.ofString "item", .int v tv)]) ?k1 ?k2 ?k3 ?k4 ?k5 ?kA ?kF ?kK ?k6 ?k7 ?k8 ?k9 ?kB ?_ ?kR ?c2 ?c3 ?c4 ?c5
  case kA => exact rfl
  case kF => exact rfl
  case kK => assumption
  case k1 => k_asm
  case k2 => k_asm
  case k3 => k_asm
  case k4 => k_asm
  case k5 => k_asm
  case k6 => k_is
  case k7 => k_is
  case k8 => ktr_room
  case k9 => exact BindsTo.of_eq rfl
  case c5 => decide
  case kB => exact locs rfl
  case c2 => exact rfl
  case c3 => exact rfl
  case c4 => exact rfl
  case kR => exact fun v' as' s' hp hb hq => hQ v' as' s' hp hb fun q hm => (hq q hm).1
  clear F N hQ
  intro g' L' h' F' N' B' X' T'
  (try dsimp only)
  (try k_fold)
  k_steps
  all_goals (walk_at "mine heap end")
theorem push_spec {w : World} {mean : ExcName → Option Value} {mg mb : Str → Option Value} {dp un : Nat} {cs : Scope} {outer : List Env} {A₀ : Around} {base h₀ : Heap} {L : Addr} {m : Str → Option Value} {s : Shared}
    {gd : Option (List Code)} {cn : Str} {a : Addr} {ccd : Value} {cl : List (Str × Addr)} {Q E : Value → Shared → Prop} {l : Addr} {v : Int} {tv : Tok} {n : Nat} {news : List (Addr × Obj)} {g : Obj → List (Addr × Obj)} {vs : List Value} {ns : List Int}
    (C : Cx w mean mg mb dp un cs outer A₀ base h₀ L m s) (N : News h₀ L s.heap news) (U : UpdF l (listOf vs.toArray n) news g) (hI : IntsAre vs ns) (hlen : ns.length ≤ 2)
    (hQ : ∀ v' vs' n' h' tk', (fun v' => v' = Value.none) v' → IntsAre vs' (pushF ns v) → Fr h₀ L h' m → News h₀ L h' (g (listOf (List.toArray vs') n')) → Q v' { s with heap := h', toks := tk' }) :
    wpAny (model (RowW.prog (OpenRow.toRowW (OpenLaw.row PySem.Challenge.rw_qu0034_01))) w) (ktrTop dp un gd cn cs L a ccd cl outer) (call (.ref 49) [.ref l, .int v tv]) Q E s := by
  have N1 : News h₀ L s.heap [(l, listOf vs.toArray n)] := by
    obtain ⟨pre, post, rfl, -⟩ := U.split
    intro p hp
    exact N p (by simp at hp; subst hp; simp)
  have fin : ∀ v' as' s', HeapEnd l s (fun v' => v' = Value.none) (pushF ns v) v' as' s' → (∀ b o, b ∉ [l] → s.heap.get? b = some o → s'.heap.get? b = some o) → (∀ q ∈ as', s'.heap.get? q.1 = some q.2) → Q v' s' := by
    rintro v' as' s' ⟨hr, ⟨vs', n', rfl, hi⟩, h', tk', rfl⟩ hb hq
    obtain ⟨F', N'⟩ := back_upd C.F N U (h' := h') (fun b ob hn e => hb b ob (by simpa using hn) e) (hq _ (.head _))
    exact hQ v' vs' n' h' tk' hr hi F' N'
  rcases ints_le3 hI (by omega) with ⟨rfl, rfl⟩ | ⟨x, t0, rfl, rfl⟩ | ⟨x, y, t0, t1, rfl, rfl⟩ | ⟨x, y, z, t0, t1, t2, rfl, rfl⟩
  · exact push0 C N1 fin
  · exact push1 C N1 fin
  · exact push2 C N1 fin
  · exact absurd hlen (by simp)
local macro_rules | `(tactic| walk_at "call ref") => `(tactic| (k_here; (with_reducible show wpAny _ _ (call (Value.ref 77) _) _ _ _); first
  | (refine' su1 (cl := []) ?k1 ?k2 ?k3 ?k4 ?k5 ?k6 ?k7 ?k8 ?_; (case k1 => k_asm); (case k2 => k_asm); (case k3 => k_asm); (case k4 => k_asm); (case k5 => rfl); (case k6 => first | omega | (dsimp only [ktrTop]; omega)); (case k7 => first | omega | (dsimp only [ktrTop]; omega)); (case k8 => first | k_asm | exact cb_drop (news := [(_, _)]) (by assumption) (List.forall_mem_cons.mpr ⟨by k_mem, List.forall_mem_nil _⟩)); intro _ _ _ _ _ _ _; (try dsimp only))
  | (refine' su2 (cl := []) ?k1 ?k2 ?k3 ?k4 ?k5 ?k6 ?k7 ?k8 ?_; (case k1 => k_asm); (case k2 => k_asm); (case k3 => k_asm); (case k4 => k_asm); (case k5 => rfl); (case k6 => first | omega | (dsimp only [ktrTop]; omega)); (case k7 => first | omega | (dsimp only [ktrTop]; omega)); (case k8 => first | k_asm | exact cb_drop (news := [(_, _)]) (by assumption) (List.forall_mem_cons.mpr ⟨by k_mem, List.forall_mem_nil _⟩)); intro _ _ _ _ _ _ _; (try dsimp only))
  | (refine' su3 (cl := []) ?k1 ?k2 ?k3 ?k4 ?k5 ?k6 ?k7 ?k8 ?_; (case k1 => k_asm); (case k2 => k_asm); (case k3 => k_asm); (case k4 => k_asm); (case k5 => rfl); (case k6 => first | omega | (dsimp only [ktrTop]; omega)); (case k7 => first | omega | (dsimp only [ktrTop]; omega)); (case k8 => first | k_asm | exact cb_drop (news := [(_, _)]) (by assumption) (List.forall_mem_cons.mpr ⟨by k_mem, List.forall_mem_nil _⟩)); intro _ _ _ _ _ _ _; (try dsimp only))))
theorem pop1 {w : World} {mean : ExcName → Option Value} {mg mb : Str → Option Value} {dp un : Nat} {cs : Scope} {outer : List Env} {A₀ : Around} {base h₀ : Heap} {L : Addr} {m : Str → Option Value} {s : Shared}
    {gd : Option (List Code)} {cn : Str} {a : Addr} {ccd : Value} {cl : List (Str × Addr)} {Q E : Value → Shared → Prop} {l : Addr} {x : Int} {t0 : Tok} {n : Nat}
    (C : Cx w mean mg mb dp un cs outer A₀ base h₀ L m s) (N : News h₀ L s.heap [(l, listOf #[.int x t0] n)])
    (hQ : ∀ v' as' s', HeapEnd l s (fun v' => ∃ t, v' = Value.int ([x].headD 0) t) (popF [x]) v' as' s' → (∀ b o, b ∉ [l] → s.heap.get? b = some o → s'.heap.get? b = some o) → (∀ q ∈ as', s'.heap.get? q.1 = some q.2) → Q v' s') :
    wpAny (model (RowW.prog (OpenRow.toRowW (OpenLaw.row PySem.Challenge.rw_qu0034_01))) w) (ktrTop dp un gd cn cs L a ccd cl outer) (call (.ref 56) [.ref l]) Q E s := by
  obtain ⟨B, F, X, T, hk, hd, hu⟩ := C
  revert X
  k_fill
  intro X
  refine wpAny_call ?_
  refine' enter (P := fun _ => HeapEnd l s (fun v' => ∃ t, v' = Value.int ([x].headD 0) t) (popF [x])) (binds := [(Str.ofString "heap", .ref l)]) ?k1 ?k2 ?k3 ?k4 ?k5 ?kA ?kF ?kK ?k6 ?k7 ?k8 ?k9 ?kB ?_ ?kR ?c2 ?c3 ?c4 ?c5
  case kA => exact rfl
  case kF => exact rfl
  case kK => assumption
  case k1 => k_asm
  case k2 => k_asm
  case k3 => k_asm
  case k4 => k_asm
  case k5 => k_asm
  case k6 => k_is
  case k7 => k_is
  case k8 => ktr_room
  case k9 => exact BindsTo.of_eq rfl
  case c5 => decide
  case kB => exact locs rfl
  case c2 => exact rfl
  case c3 => exact rfl
  case c4 => exact rfl
  case kR => exact fun v' as' s' hp hb hq => hQ v' as' s' hp hb fun q hm => (hq q hm).1
  clear F N hQ
  intro g' L' h' F' N' B' X' T'
  (try dsimp only)
  (try k_fold)
  k_steps
  all_goals (walk_at "mine heap end")
theorem pop2 {w : World} {mean : ExcName → Option Value} {mg mb : Str → Option Value} {dp un : Nat} {cs : Scope} {outer : List Env} {A₀ : Around} {base h₀ : Heap} {L : Addr} {m : Str → Option Value} {s : Shared}
    {gd : Option (List Code)} {cn : Str} {a : Addr} {ccd : Value} {cl : List (Str × Addr)} {Q E : Value → Shared → Prop} {l : Addr} {x y : Int} {t0 t1 : Tok} {n : Nat}
    (C : Cx w mean mg mb dp un cs outer A₀ base h₀ L m s) (N : News h₀ L s.heap [(l, listOf #[.int x t0, .int y t1] n)])
    (hQ : ∀ v' as' s', HeapEnd l s (fun v' => ∃ t, v' = Value.int ([x, y].headD 0) t) (popF [x, y]) v' as' s' → (∀ b o, b ∉ [l] → s.heap.get? b = some o → s'.heap.get? b = some o) → (∀ q ∈ as', s'.heap.get? q.1 = some q.2) → Q v' s') :
    wpAny (model (RowW.prog (OpenRow.toRowW (OpenLaw.row PySem.Challenge.rw_qu0034_01))) w) (ktrTop dp un gd cn cs L a ccd cl outer) (call (.ref 56) [.ref l]) Q E s := by
  obtain ⟨B, F, X, T, hk, hd, hu⟩ := C
  revert X
  k_fill
  intro X
  refine wpAny_call ?_
  refine' enter (P := fun _ => HeapEnd l s (fun v' => ∃ t, v' = Value.int ([x, y].headD 0) t) (popF [x, y])) (binds := [(Str.ofString "heap", .ref l)]) ?k1 ?k2 ?k3 ?k4 ?k5 ?kA ?kF ?kK ?k6 ?k7 ?k8 ?k9 ?kB ?_ ?kR ?c2 ?c3 ?c4 ?c5
  case kA => exact rfl
  case kF => exact rfl
  case kK => assumption
  case k1 => k_asm
  case k2 => k_asm
  case k3 => k_asm
  case k4 => k_asm
  case k5 => k_asm
  case k6 => k_is
  case k7 => k_is
  case k8 => ktr_room
  case k9 => exact BindsTo.of_eq rfl
  case c5 => decide
  case kB => exact locs rfl
  case c2 => exact rfl
  case c3 => exact rfl
  case c4 => exact rfl
  case kR => exact fun v' as' s' hp hb hq => hQ v' as' s' hp hb fun q hm => (hq q hm).1
  clear F N hQ
  intro g' L' h' F' N' B' X' T'
  (try dsimp only)
  (try k_fold)
  k_steps
  all_goals (walk_at "mine heap end")
theorem pop3 {w : World} {mean : ExcName → Option Value} {mg mb : Str → Option Value} {dp un : Nat} {cs : Scope} {outer : List Env} {A₀ : Around} {base h₀ : Heap} {L : Addr} {m : Str → Option Value} {s : Shared}
    {gd : Option (List Code)} {cn : Str} {a : Addr} {ccd : Value} {cl : List (Str × Addr)} {Q E : Value → Shared → Prop} {l : Addr} {x y z : Int} {t0 t1 t2 : Tok} {n : Nat}
    (C : Cx w mean mg mb dp un cs outer A₀ base h₀ L m s) (N : News h₀ L s.heap [(l, listOf #[.int x t0, .int y t1, .int z t2] n)])
    (hQ : ∀ v' as' s', HeapEnd l s (fun v' => ∃ t, v' = Value.int ([x, y, z].headD 0) t) (popF [x, y, z]) v' as' s' → (∀ b o, b ∉ [l] → s.heap.get? b = some o → s'.heap.get? b = some o) → (∀ q ∈ as', s'.heap.get? q.1 = some q.2) → Q v' s') :
    wpAny (model (RowW.prog (OpenRow.toRowW (OpenLaw.row PySem.Challenge.rw_qu0034_01))) w) (ktrTop dp un gd cn cs L a ccd cl outer) (call (.ref 56) [.ref l]) Q E s := by
  obtain ⟨B, F, X, T, hk, hd, hu⟩ := C
  revert X
  k_fill
  intro X
  refine wpAny_call ?_
  refine' enter (P := fun _ => HeapEnd l s (fun v' => ∃ t, v' = Value.int ([x, y, z].headD 0) t) (popF [x, y, z])) (binds := [(Str.ofString "heap", .ref l)]) ?k1 ?k2 ?k3 ?k4 ?k5 ?kA ?kF ?kK ?k6 ?k7 ?k8 ?k9 ?kB ?_ ?kR ?c2 ?c3 ?c4 ?c5
  case kA => exact rfl
  case kF => exact rfl
  case kK => assumption
  case k1 => k_asm
  case k2 => k_asm
  case k3 => k_asm
  case k4 => k_asm
  case k5 => k_asm
  case k6 => k_is
  case k7 => k_is
  case k8 => ktr_room
  case k9 => exact BindsTo.of_eq rfl
  case c5 => decide
  case kB => exact locs rfl
  case c2 => exact rfl
  case c3 => exact rfl
  case c4 => exact rfl
  case kR => exact fun v' as' s' hp hb hq => hQ v' as' s' hp hb fun q hm => (hq q hm).1
  clear F N hQ
  intro g' L' h' F' N' B' X' T'
  (try dsimp only)
  (try k_fold)
  k_steps
  all_goals (walk_at "mine heap end")
theorem pop_spec {w : World} {mean : ExcName → Option Value} {mg mb : Str → Option Value} {dp un : Nat} {cs : Scope} {outer : List Env} {A₀ : Around} {base h₀ : Heap} {L : Addr} {m : Str → Option Value} {s : Shared}
    {gd : Option (List Code)} {cn : Str} {a : Addr} {ccd : Value} {cl : List (Str × Addr)} {Q E : Value → Shared → Prop} {l : Addr} {n : Nat} {news : List (Addr × Obj)} {g : Obj → List (Addr × Obj)} {vs : List Value} {ns : List Int}
    (C : Cx w mean mg mb dp un cs outer A₀ base h₀ L m s) (N : News h₀ L s.heap news) (U : UpdF l (listOf vs.toArray n) news g) (hI : IntsAre vs ns) (hlen : ns.length ≤ 3) (hlo : 1 ≤ ns.length)
    (hQ : ∀ v' vs' n' h' tk', (fun v' => ∃ t, v' = Value.int (ns.headD 0) t) v' → IntsAre vs' (popF ns) → Fr h₀ L h' m → News h₀ L h' (g (listOf (List.toArray vs') n')) → Q v' { s with heap := h', toks := tk' }) :
    wpAny (model (RowW.prog (OpenRow.toRowW (OpenLaw.row PySem.Challenge.rw_qu0034_01))) w) (ktrTop dp un gd cn cs L a ccd cl outer) (call (.ref 56) [.ref l]) Q E s := by
  have N1 : News h₀ L s.heap [(l, listOf vs.toArray n)] := by
    obtain ⟨pre, post, rfl, -⟩ := U.split
    intro p hp
    exact N p (by simp at hp; subst hp; simp)
  have fin : ∀ v' as' s', HeapEnd l s (fun v' => ∃ t, v' = Value.int (ns.headD 0) t) (popF ns) v' as' s' → (∀ b o, b ∉ [l] → s.heap.get? b = some o → s'.heap.get? b = some o) → (∀ q ∈ as', s'.heap.get? q.1 = some q.2) → Q v' s' := by
    rintro v' as' s' ⟨hr, ⟨vs', n', rfl, hi⟩, h', tk', rfl⟩ hb hq
    obtain ⟨F', N'⟩ := back_upd C.F N U (h' := h') (fun b ob hn e => hb b ob (by simpa using hn) e) (hq _ (.head _))
    exact hQ v' vs' n' h' tk' hr hi F' N'
  rcases ints_le3 hI (by omega) with ⟨rfl, rfl⟩ | ⟨x, t0, rfl, rfl⟩ | ⟨x, y, t0, t1, rfl, rfl⟩ | ⟨x, y, z, t0, t1, t2, rfl, rfl⟩
  · exact absurd hlo (by simp)
  · exact pop1 C N1 fin
  · exact pop2 C N1 fin
  · exact pop3 C N1 fin
theorem pp0 {w : World} {mean : ExcName → Option Value} {mg mb : Str → Option Value} {dp un : Nat} {cs : Scope} {outer : List Env} {A₀ : Around} {base h₀ : Heap} {L : Addr} {m : Str → Option Value} {s : Shared}
    {gd : Option (List Code)} {cn : Str} {a : Addr} {ccd : Value} {cl : List (Str × Addr)} {Q E : Value → Shared → Prop} {l : Addr}  {v : Int} {tv : Tok} {n : Nat}
    (C : Cx w mean mg mb dp un cs outer A₀ base h₀ L m s) (N : News h₀ L s.heap [(l, listOf #[] n)])
    (hQ : ∀ v' as' s', HeapEnd l s (fun v' => ∃ t, v' = Value.int (ppV [] v) t) (ppL [] v) v' as' s' → (∀ b o, b ∉ [l] → s.heap.get? b = some o → s'.heap.get? b = some o) → (∀ q ∈ as', s'.heap.get? q.1 = some q.2) → Q v' s') :
    wpAny (model (RowW.prog (OpenRow.toRowW (OpenLaw.row PySem.Challenge.rw_qu0034_01))) w) (ktrTop dp un gd cn cs L a ccd cl outer) (call (.ref 63) [.ref l, .int v tv]) Q E s := by
  obtain ⟨B, F, X, T, hk, hd, hu⟩ := C
  revert X
  k_fill
  intro X
  refine wpAny_call ?_
  refine' enter (P := fun _ => HeapEnd l s (fun v' => ∃ t, v' = Value.int (ppV [] v) t) (ppL [] v)) (binds := [(Str.ofString "heap", .ref l), (Str.ofString "item", .int v tv)]) ?k1 ?k2 ?k3 ?k4 ?k5 ?kA ?kF ?kK ?k6 ?k7 ?k8 ?k9 ?kB ?_ ?kR ?c2 ?c3 ?c4 ?c5
  case kA => exact rfl
  case kF => exact rfl
  case kK => assumption
  case k1 => k_asm
  case k2 => k_asm
  case k3 => k_asm
  case k4 => k_asm
  case k5 => k_asm
  case k6 => k_is
  case k7 => k_is
  case k8 => ktr_room
  case k9 => exact BindsTo.of_eq rfl
  case c5 => decide
  case kB => exact locs rfl
  case c2 => exact rfl
  case c3 => exact rfl
  case c4 => exact rfl
  case kR => exact fun v' as' s' hp hb hq => hQ v' as' s' hp hb fun q hm => (hq q hm).1
  clear F N hQ
  intro g' L' h' F' N' B' X' T'
  (try dsimp only)
  (try k_fold)
  k_steps
  all_goals (walk_at "mine heap end")
theorem pp1 {w : World} {mean : ExcName → Option Value} {mg mb : Str → Option Value} {dp un : Nat} {cs : Scope} {outer : List Env} {A₀ : Around} {base h₀ : Heap} {L : Addr} {m : Str → Option Value} {s : Shared}
    {gd : Option (List Code)} {cn : Str} {a : Addr} {ccd : Value} {cl : List (Str × Addr)} {Q E : Value → Shared → Prop} {l : Addr} {x : Int} {t0 : Tok} {v : Int} {tv : Tok} {n : Nat}
    (C : Cx w mean mg mb dp un cs outer A₀ base h₀ L m s) (N : News h₀ L s.heap [(l, listOf #[.int x t0] n)])
    (hQ : ∀ v' as' s', HeapEnd l s (fun v' => ∃ t, v' = Value.int (ppV [x] v) t) (ppL [x] v) v' as' s' → (∀ b o, b ∉ [l] → s.heap.get? b = some o → s'.heap.get? b = some o) → (∀ q ∈ as', s'.heap.get? q.1 = some q.2) → Q v' s') :
    wpAny (model (RowW.prog (OpenRow.toRowW (OpenLaw.row PySem.Challenge.rw_qu0034_01))) w) (ktrTop dp un gd cn cs L a ccd cl outer) (call (.ref 63) [.ref l, .int v tv]) Q E s := by
  obtain ⟨B, F, X, T, hk, hd, hu⟩ := C
  revert X
  k_fill
  intro X
  refine wpAny_call ?_
  refine' enter (P := fun _ => HeapEnd l s (fun v' => ∃ t, v' = Value.int (ppV [x] v) t) (ppL [x] v)) (binds := [(Str.ofString "heap", .ref l), (Str.ofString "item", .int v tv)]) ?k1 ?k2 ?k3 ?k4 ?k5 ?kA ?kF ?kK ?k6 ?k7 ?k8 ?k9 ?kB ?_ ?kR ?c2 ?c3 ?c4 ?c5
  case kA => exact rfl
  case kF => exact rfl
  case kK => assumption
  case k1 => k_asm
  case k2 => k_asm
  case k3 => k_asm
  case k4 => k_asm
  case k5 => k_asm
  case k6 => k_is
  case k7 => k_is
  case k8 => ktr_room
  case k9 => exact BindsTo.of_eq rfl
  case c5 => decide
  case kB => exact locs rfl
  case c2 => exact rfl
  case c3 => exact rfl
  case c4 => exact rfl
  case kR => exact fun v' as' s' hp hb hq => hQ v' as' s' hp hb fun q hm => (hq q hm).1
  clear F N hQ
  intro g' L' h' F' N' B' X' T'
  (try dsimp only)
  (try k_fold)
  k_steps
  all_goals (walk_at "mine heap end")
theorem pp2 {w : World} {mean : ExcName → Option Value} {mg mb : Str → Option Value} {dp un : Nat} {cs : Scope} {outer : List Env} {A₀ : Around} {base h₀ : Heap} {L : Addr} {m : Str → Option Value} {s : Shared}
    {gd : Option (List Code)} {cn : Str} {a : Addr} {ccd : Value} {cl : List (Str × Addr)} {Q E : Value → Shared → Prop} {l : Addr} {x y : Int} {t0 t1 : Tok} {v : Int} {tv : Tok} {n : Nat}
    (C : Cx w mean mg mb dp un cs outer A₀ base h₀ L m s) (N : News h₀ L s.heap [(l, listOf #[.int x t0, .int y t1] n)])
    (hQ : ∀ v' as' s', HeapEnd l s (fun v' => ∃ t, v' = Value.int (ppV [x, y] v) t) (ppL [x, y] v) v' as' s' → (∀ b o, b ∉ [l] → s.heap.get? b = some o → s'.heap.get? b = some o) → (∀ q ∈ as', s'.heap.get? q.1 = some q.2) → Q v' s') :
    wpAny (model (RowW.prog (OpenRow.toRowW (OpenLaw.row PySem.Challenge.rw_qu0034_01))) w) (ktrTop dp un gd cn cs L a ccd cl outer) (call (.ref 63) [.ref l, .int v tv]) Q E s := by
  obtain ⟨B, F, X, T, hk, hd, hu⟩ := C
  revert X
  k_fill
  intro X
  refine wpAny_call ?_
  refine' enter (P := fun _ => HeapEnd l s (fun v' => ∃ t, v' = Value.int (ppV [x, y] v) t) (ppL [x, y] v)) (binds := [(Str.ofString "heap", .ref l), (Str.ofString "item", .int v tv)]) ?k1 ?k2 ?k3 ?k4 ?k5 ?kA ?kF ?kK ?k6 ?k7 ?k8 ?k9 ?kB ?_ ?kR ?c2 ?c3 ?c4 ?c5
  case kA => exact rfl
  case kF => exact rfl
  case kK => assumption
  case k1 => k_asm
  case k2 => k_asm
  case k3 => k_asm
  case k4 => k_asm
  case k5 => k_asm
  case k6 => k_is
  case k7 => k_is
  case k8 => ktr_room
  case k9 => exact BindsTo.of_eq rfl
  case c5 => decide
  case kB => exact locs rfl
  case c2 => exact rfl
  case c3 => exact rfl
  case c4 => exact rfl
  case kR => exact fun v' as' s' hp hb hq => hQ v' as' s' hp hb fun q hm => (hq q hm).1
  clear F N hQ
  intro g' L' h' F' N' B' X' T'
  (try dsimp only)
  (try k_fold)
  k_steps
  all_goals (walk_at "mine heap end")
theorem pp3 {w : World} {mean : ExcName → Option Value} {mg mb : Str → Option Value} {dp un : Nat} {cs : Scope} {outer : List Env} {A₀ : Around} {base h₀ : Heap} {L : Addr} {m : Str → Option Value} {s : Shared}
    {gd : Option (List Code)} {cn : Str} {a : Addr} {ccd : Value} {cl : List (Str × Addr)} {Q E : Value → Shared → Prop} {l : Addr} {x y z : Int} {t0 t1 t2 : Tok} {v : Int} {tv : Tok} {n : Nat}
    (C : Cx w mean mg mb dp un cs outer A₀ base h₀ L m s) (N : News h₀ L s.heap [(l, listOf #[.int x t0, .int y t1, .int z t2] n)])
    (hQ : ∀ v' as' s', HeapEnd l s (fun v' => ∃ t, v' = Value.int (ppV [x, y, z] v) t) (ppL [x, y, z] v) v' as' s' → (∀ b o, b ∉ [l] → s.heap.get? b = some o → s'.heap.get? b = some o) → (∀ q ∈ as', s'.heap.get? q.1 = some q.2) → Q v' s') :
    wpAny (model (RowW.prog (OpenRow.toRowW (OpenLaw.row PySem.Challenge.rw_qu0034_01))) w) (ktrTop dp un gd cn cs L a ccd cl outer) (call (.ref 63) [.ref l, .int v tv]) Q E s := by
  obtain ⟨B, F, X, T, hk, hd, hu⟩ := C
  revert X
  k_fill
  intro X
  refine wpAny_call ?_
  refine' enter (P := fun _ => HeapEnd l s (fun v' => ∃ t, v' = Value.int (ppV [x, y, z] v) t) (ppL [x, y, z] v)) (binds := [(Str.ofString "heap", .ref l), (Str.ofString "item", .int v tv)]) ?k1 ?k2 ?k3 ?k4 ?k5 ?kA ?kF ?kK ?k6 ?k7 ?k8 ?k9 ?kB ?_ ?kR ?c2 ?c3 ?c4 ?c5
  case kA => exact rfl
  case kF => exact rfl
  case kK => assumption
  case k1 => k_asm
  case k2 => k_asm
  case k3 => k_asm
  case k4 => k_asm
  case k5 => k_asm
  case k6 => k_is
  case k7 => k_is
  case k8 => ktr_room
  case k9 => exact BindsTo.of_eq rfl
  case c5 => decide
  case kB => exact locs rfl
  case c2 => exact rfl
  case c3 => exact rfl
  case c4 => exact rfl
  case kR => exact fun v' as' s' hp hb hq => hQ v' as' s' hp hb fun q hm => (hq q hm).1
  clear F N hQ
  intro g' L' h' F' N' B' X' T'
  (try dsimp only)
  (try k_fold)
  k_steps
  all_goals (walk_at "mine heap end")
theorem pp_spec {w : World} {mean : ExcName → Option Value} {mg mb : Str → Option Value} {dp un : Nat} {cs : Scope} {outer : List Env} {A₀ : Around} {base h₀ : Heap} {L : Addr} {m : Str → Option Value} {s : Shared}
    {gd : Option (List Code)} {cn : Str} {a : Addr} {ccd : Value} {cl : List (Str × Addr)} {Q E : Value → Shared → Prop} {l : Addr} {v : Int} {tv : Tok} {n : Nat} {news : List (Addr × Obj)} {g : Obj → List (Addr × Obj)} {vs : List Value} {ns : List Int}
    (C : Cx w mean mg mb dp un cs outer A₀ base h₀ L m s) (N : News h₀ L s.heap news) (U : UpdF l (listOf vs.toArray n) news g) (hI : IntsAre vs ns) (hlen : ns.length ≤ 3)
    (hQ : ∀ v' vs' n' h' tk', (fun v' => ∃ t, v' = Value.int (ppV ns v) t) v' → IntsAre vs' (ppL ns v) → Fr h₀ L h' m → News h₀ L h' (g (listOf (List.toArray vs') n')) → Q v' { s with heap := h', toks := tk' }) :
    wpAny (model (RowW.prog (OpenRow.toRowW (OpenLaw.row PySem.Challenge.rw_qu0034_01))) w) (ktrTop dp un gd cn cs L a ccd cl outer) (call (.ref 63) [.ref l, .int v tv]) Q E s := by
  have N1 : News h₀ L s.heap [(l, listOf vs.toArray n)] := by
    obtain ⟨pre, post, rfl, -⟩ := U.split
    intro p hp
    exact N p (by simp at hp; subst hp; simp)
  have fin : ∀ v' as' s', HeapEnd l s (fun v' => ∃ t, v' = Value.int (ppV ns v) t) (ppL ns v) v' as' s' → (∀ b o, b ∉ [l] → s.heap.get? b = some o → s'.heap.get? b = some o) → (∀ q ∈ as', s'.heap.get? q.1 = some q.2) → Q v' s' := by
    rintro v' as' s' ⟨hr, ⟨vs', n', rfl, hi⟩, h', tk', rfl⟩ hb hq
    obtain ⟨F', N'⟩ := back_upd C.F N U (h' := h') (fun b ob hn e => hb b ob (by simpa using hn) e) (hq _ (.head _))
    exact hQ v' vs' n' h' tk' hr hi F' N'
  rcases ints_le3 hI (by omega) with ⟨rfl, rfl⟩ | ⟨x, t0, rfl, rfl⟩ | ⟨x, y, t0, t1, rfl, rfl⟩ | ⟨x, y, z, t0, t1, t2, rfl, rfl⟩
  · exact pp0 C N1 fin
  · exact pp1 C N1 fin
  · exact pp2 C N1 fin
  · exact pp3 C N1 fin
end Mine
namespace Mine

def fmax2 (x y : UInt64) : UInt64 := if (Float64.cmp x y == some .lt) = true then y else x
def fmin2 (x y : UInt64) : UInt64 := if (Float64.cmp y x == some .lt) = true then y else x
section
variable {prog : Program} {w : World} {A : Around} {E : Value → Shared → Prop} {s : Shared} {Q : Value → Shared → Prop} {x y z : UInt64} {t u r : Tok} {h₀ : Heap} {L : Addr} {m : Str → Option Value} {news : List (Addr × Obj)}

theorem tuple_walk_fp {s : Shared} {vs : Array Value} : ∀ d ∈ [(s.heap.push { cls := .type "tuple", data := .seq vs }).objs.size, s.heap.objs.size], ∀ (o : Obj), d < ((s.heap.push { cls := .type "tuple", data := .seq vs }).push o).objs.size := by
  intro d hd o
  simp only [Heap.size_push] at *
  simp at hd
  omega

theorem tuple_walk_old {s : Shared} {vs : Array Value} {o₁ : Obj} {h' : Heap} (hk : ∀ b o, b ∉ [(s.heap.push { cls := .type "tuple", data := .seq vs }).objs.size] → ((s.heap.push { cls := .type "tuple", data := .seq vs }).push o₁).get? b = some o → h'.get? b = some o) :
    ∀ b o, s.heap.get? b = some o → h'.get? b = some o := fun b o e => by
  refine hk b o (fun hm => ?_) (Heap.get?_push_of_some _ (Heap.get?_push_of_some _ e))
  have := Heap.lt_size e
  rw [List.mem_singleton.mp hm, Heap.size_push] at this
  exact Nat.lt_irrefl _ (Nat.lt_of_succ_lt this)

theorem max_three_ff (hh : A.handled = none) (F : Fr h₀ L s.heap m) (N : News h₀ L s.heap news)
    (h : ∀ h' tk v, Fr h₀ L h' m → News h₀ L h' news → Q (.float (fmax2 (fmax2 x y) z) v) { s with heap := h', toks := tk }) :
    wpAny (model prog w) A (call (.builtin "max") [.float x t, .float y u, .float z r]) Q E s := by
  have hT : (s.heap.push { cls := .type "tuple", data := .seq #[.float x t, .float y u, .float z r] }).IsTuple s.heap.objs.size #[.float x t, .float y u, .float z r] := ⟨_, Heap.get?_push_size _ rfl, rfl, 0, rfl⟩
  refine call_max_three (wpAny_pyIter_tuple hT ?_)
  refine ⟨_, [_, s.heap.objs.size], [_], _, _, _, _, rfl, Walks.tuple (A := A.in1) hh _ s.heap.objs.size (by rw [Heap.size_push]; exact Nat.ne_of_lt (Nat.lt_succ_self _)) #[.float x t, .float y u, .float z r],
    ⟨⟨_, Heap.get?_push_size _ rfl, rfl, rfl⟩, hT.push _⟩, fun d hd => tuple_walk_fp d hd _, by simp, Flt.cmpOf_gt #[.float x t, .float y u, .float z r] (by simp; exact ⟨.float _ _, .float _ _, .float _ _⟩), fun v h' tk hP hk => ?_⟩
  have hold := tuple_walk_old hk
  obtain ⟨F', N'⟩ := back_all F N hold
  obtain ⟨q, rfl⟩ : ∃ q, v = .float (fmax2 (fmax2 x y) z) q := by
    unfold fmax2
    by_cases h1 : (Float64.cmp x y == some .lt) = true
    · rw [if_pos h1]
      by_cases h2 : (Float64.cmp y z == some .lt) = true <;> simp [argBest, Flt.ltV, h1, h2] at hP ⊢ <;> exact ⟨_, hP.symm⟩
    · rw [if_neg h1]
      by_cases h2 : (Float64.cmp x z == some .lt) = true <;> simp [argBest, Flt.ltV, h1, h2] at hP ⊢ <;> exact ⟨_, hP.symm⟩
  exact h h' tk q F' N'

theorem min_three_ff (hh : A.handled = none) (F : Fr h₀ L s.heap m) (N : News h₀ L s.heap news)
    (h : ∀ h' tk v, Fr h₀ L h' m → News h₀ L h' news → Q (.float (fmin2 (fmin2 x y) z) v) { s with heap := h', toks := tk }) :
    wpAny (model prog w) A (call (.builtin "min") [.float x t, .float y u, .float z r]) Q E s := by
  have hT : (s.heap.push { cls := .type "tuple", data := .seq #[.float x t, .float y u, .float z r] }).IsTuple s.heap.objs.size #[.float x t, .float y u, .float z r] := ⟨_, Heap.get?_push_size _ rfl, rfl, 0, rfl⟩
  refine call_min_three (wpAny_pyIter_tuple hT ?_)
  refine ⟨_, [_, s.heap.objs.size], [_], _, _, _, _, rfl, Walks.tuple (A := A.in1) hh _ s.heap.objs.size (by rw [Heap.size_push]; exact Nat.ne_of_lt (Nat.lt_succ_self _)) #[.float x t, .float y u, .float z r],
    ⟨⟨_, Heap.get?_push_size _ rfl, rfl, rfl⟩, hT.push _⟩, fun d hd => tuple_walk_fp d hd _, by simp, Flt.cmpOf_lt #[.float x t, .float y u, .float z r] (by simp; exact ⟨.float _ _, .float _ _, .float _ _⟩), fun v h' tk hP hk => ?_⟩
  have hold := tuple_walk_old hk
  obtain ⟨F', N'⟩ := back_all F N hold
  obtain ⟨q, rfl⟩ : ∃ q, v = .float (fmin2 (fmin2 x y) z) q := by
    unfold fmin2
    by_cases h1 : (Float64.cmp y x == some .lt) = true
    · rw [if_pos h1]
      by_cases h2 : (Float64.cmp z y == some .lt) = true <;> simp [argBest, Flt.ltV, h1, h2] at hP ⊢ <;> exact ⟨_, hP.symm⟩
    · rw [if_neg h1]
      by_cases h2 : (Float64.cmp z x == some .lt) = true <;> simp [argBest, Flt.ltV, h1, h2] at hP ⊢ <;> exact ⟨_, hP.symm⟩
  exact h h' tk q F' N'
end
end Mine
namespace Mine

/-- an int over an int, as a float -/
def qf (a b : Int) : UInt64 := Float64.ofFrac (decide (a < 0) != decide (b < 0)) a.natAbs b.natAbs
/-- six, one, two, four -/
abbrev f6 : UInt64 := 4618441417868443648
abbrev f1 : UInt64 := 4607182418800017408
abbrev f2 : UInt64 := 4611686018427387904
abbrev f4 : UInt64 := 4616189618054758400
def hsvI (H : UInt64) : Int := Flt.toInt Float64.truncOf (Float64.mul H f6)
def hsvf (H : UInt64) : UInt64 := Float64.sub (Float64.mul H f6) (Float64.ofInt (hsvI H))
def hsvP (S V : UInt64) : UInt64 := Float64.mul V (Float64.sub f1 S)
def hsvQ (H S V : UInt64) : UInt64 := Float64.mul V (Float64.sub f1 (Float64.mul S (hsvf H)))
def hsvT (H S V : UInt64) : UInt64 := Float64.mul V (Float64.sub f1 (Float64.mul S (Float64.sub f1 (hsvf H))))
def hsvF (H S V : UInt64) : UInt64 × UInt64 × UInt64 :=
  if (hsvI H).fmod 6 = 0 then (V, hsvT H S V, hsvP S V)
  else if (hsvI H).fmod 6 = 1 then (hsvQ H S V, V, hsvP S V)
  else if (hsvI H).fmod 6 = 2 then (hsvP S V, V, hsvT H S V)
  else if (hsvI H).fmod 6 = 3 then (hsvP S V, hsvQ H S V, V)
  else if (hsvI H).fmod 6 = 4 then (hsvT H S V, hsvP S V, V)
  else (V, hsvP S V, hsvQ H S V)
def hsvOk (H S : UInt64) : Bool :=
  !(Float64.cmp S 0 == some .eq) && !Float64.isNaN (Float64.mul H f6) && !Float64.isInf (Float64.mul H f6) && decide ((hsvI H).natAbs < 2 ^ 1024 - 2 ^ 970)

def rgbM (R G B : UInt64) : UInt64 := fmax2 (fmax2 R G) B
def rgbN (R G B : UInt64) : UInt64 := fmin2 (fmin2 R G) B
def rgbD (R G B : UInt64) : UInt64 := Float64.sub (rgbM R G B) (rgbN R G B)
def rgbc (R G B x : UInt64) : UInt64 := Float64.div (Float64.sub (rgbM R G B) x) (rgbD R G B)
def rgbh (R G B : UInt64) : UInt64 :=
  if (Float64.cmp R (rgbM R G B) == some .eq) = true then Float64.sub (rgbc R G B B) (rgbc R G B G)
  else if (Float64.cmp G (rgbM R G B) == some .eq) = true then Float64.sub (Float64.add f2 (rgbc R G B R)) (rgbc R G B B)
  else Float64.sub (Float64.add f4 (rgbc R G B G)) (rgbc R G B R)
def rgbH (R G B : UInt64) : UInt64 := (Float64.divmod (Float64.div (rgbh R G B) f6) f1).2
def rgbOk (R G B : UInt64) : Bool := !(Float64.cmp (rgbN R G B) (rgbM R G B) == some .eq) && !Float64.isZero (rgbM R G B) && !Float64.isZero (rgbD R G B)

def hueBack (h : UInt64) : UInt64 := Float64.mul h (Float64.ofInt 64)
def hueOk (k a b : Int) : Bool :=
  let H := qf k 64
  let S := qf (a + 1) 4
  let V := qf (b + 1) 8
  hsvOk H S && (match hsvF H S V with
    | (R, G, B) => rgbOk R G B && (
      let x := hueBack (rgbH R G B)
      !Float64.isNaN x && !Float64.isInf x && decide (Flt.toInt Float64.truncOf x = k)))
/-- a float reckoned out before it is handed on (for the kernel's sake) -/
def frc (x : UInt64) (f : UInt64 → Bool) : Bool := match x.toNat with
  | 0 => f 0
  | n + 1 => f (UInt64.ofNat (n + 1))
theorem frc_eq (x : UInt64) (f : UInt64 → Bool) : frc x f = f x := by
  unfold frc
  split
  · rename_i h
    have : x = 0 := UInt64.toNat_inj.mp (by rw [h]; rfl)
    rw [this]
  · rename_i n h
    show f (UInt64.ofNat (Nat.succ n)) = f x
    rw [← h, UInt64.ofNat_toNat]
def rgbChk (k : Int) (R G B : UInt64) : Bool :=
  frc (fmax2 (fmax2 R G) B) fun M => frc (fmin2 (fmin2 R G) B) fun N => frc (Float64.sub M N) fun D =>
  !(Float64.cmp N M == some .eq) && !Float64.isZero M && !Float64.isZero D && (
    frc (Float64.div (Float64.sub M R) D) fun rc => frc (Float64.div (Float64.sub M G) D) fun gc => frc (Float64.div (Float64.sub M B) D) fun bc =>
    frc (if (Float64.cmp R M == some .eq) = true then Float64.sub bc gc else if (Float64.cmp G M == some .eq) = true then Float64.sub (Float64.add f2 rc) bc else Float64.sub (Float64.add f4 gc) rc) fun hh =>
    frc (Float64.div hh f6) fun h6 => frc (Float64.divmod h6 f1).2 fun h => frc (Float64.mul h (Float64.ofInt 64)) fun x =>
    !Float64.isNaN x && !Float64.isInf x && decide (Flt.toInt Float64.truncOf x = k))
def hueChk (k a b : Int) : Bool :=
  frc (qf k 64) fun H => frc (qf (a + 1) 4) fun S => frc (qf (b + 1) 8) fun V => frc (Float64.mul H f6) fun H6 =>
  !(Float64.cmp S 0 == some .eq) && !Float64.isNaN H6 && !Float64.isInf H6 && decide ((Flt.toInt Float64.truncOf H6).natAbs < 2 ^ 1024 - 2 ^ 970) && (
  frc (Float64.sub H6 (Float64.ofInt (Flt.toInt Float64.truncOf H6))) fun f =>
  frc (Float64.mul V (Float64.sub f1 S)) fun P => frc (Float64.mul V (Float64.sub f1 (Float64.mul S f))) fun Q => frc (Float64.mul V (Float64.sub f1 (Float64.mul S (Float64.sub f1 f)))) fun T =>
  if (Flt.toInt Float64.truncOf H6).fmod 6 = 0 then rgbChk k V T P
  else if (Flt.toInt Float64.truncOf H6).fmod 6 = 1 then rgbChk k Q V P
  else if (Flt.toInt Float64.truncOf H6).fmod 6 = 2 then rgbChk k P V T
  else if (Flt.toInt Float64.truncOf H6).fmod 6 = 3 then rgbChk k P Q V
  else if (Flt.toInt Float64.truncOf H6).fmod 6 = 4 then rgbChk k T P V
  else rgbChk k V P Q)
theorem rgbChk_eq (k : Int) (R G B : UInt64) : rgbChk k R G B = (rgbOk R G B && (!Float64.isNaN (hueBack (rgbH R G B)) && !Float64.isInf (hueBack (rgbH R G B)) && decide (Flt.toInt Float64.truncOf (hueBack (rgbH R G B)) = k))) := by
  unfold rgbChk
  simp only [frc_eq]
  rfl
theorem hueChk_eq (k a b : Int) : hueChk k a b = hueOk k a b := by
  unfold hueChk hueOk
  simp only [frc_eq, rgbChk_eq]
  unfold hsvOk hsvF
  by_cases h0 : (hsvI (qf k 64)).fmod 6 = 0
  · rw [if_pos h0]; unfold hsvI at h0; rw [if_pos h0]; rfl
  by_cases h1 : (hsvI (qf k 64)).fmod 6 = 1
  · rw [if_neg h0, if_pos h1]; unfold hsvI at h0 h1; rw [if_neg h0, if_pos h1]; rfl
  by_cases h2 : (hsvI (qf k 64)).fmod 6 = 2
  · rw [if_neg h0, if_neg h1, if_pos h2]; unfold hsvI at h0 h1 h2; rw [if_neg h0, if_neg h1, if_pos h2]; rfl
  by_cases h3 : (hsvI (qf k 64)).fmod 6 = 3
  · rw [if_neg h0, if_neg h1, if_neg h2, if_pos h3]; unfold hsvI at h0 h1 h2 h3; rw [if_neg h0, if_neg h1, if_neg h2, if_pos h3]; rfl
  by_cases h4 : (hsvI (qf k 64)).fmod 6 = 4
  · rw [if_neg h0, if_neg h1, if_neg h2, if_neg h3, if_pos h4]; unfold hsvI at h0 h1 h2 h3 h4; rw [if_neg h0, if_neg h1, if_neg h2, if_neg h3, if_pos h4]; rfl
  · rw [if_neg h0, if_neg h1, if_neg h2, if_neg h3, if_neg h4]; unfold hsvI at h0 h1 h2 h3 h4; rw [if_neg h0, if_neg h1, if_neg h2, if_neg h3, if_neg h4]; rfl
end Mine
namespace Mine
theorem hue0 : ((List.range 4).all fun a => (List.range 8).all fun b => hueChk 0 a b) = true := by decide +kernel
theorem hue1 : ((List.range 4).all fun a => (List.range 8).all fun b => hueChk 1 a b) = true := by decide +kernel
theorem hue2 : ((List.range 4).all fun a => (List.range 8).all fun b => hueChk 2 a b) = true := by decide +kernel
theorem hue3 : ((List.range 4).all fun a => (List.range 8).all fun b => hueChk 3 a b) = true := by decide +kernel
theorem hue4 : ((List.range 4).all fun a => (List.range 8).all fun b => hueChk 4 a b) = true := by decide +kernel
theorem hue5 : ((List.range 4).all fun a => (List.range 8).all fun b => hueChk 5 a b) = true := by decide +kernel
theorem hue6 : ((List.range 4).all fun a => (List.range 8).all fun b => hueChk 6 a b) = true := by decide +kernel
theorem hue7 : ((List.range 4).all fun a => (List.range 8).all fun b => hueChk 7 a b) = true := by decide +kernel
theorem hue8 : ((List.range 4).all fun a => (List.range 8).all fun b => hueChk 8 a b) = true := by decide +kernel
theorem hue9 : ((List.range 4).all fun a => (List.range 8).all fun b => hueChk 9 a b) = true := by decide +kernel
theorem hue10 : ((List.range 4).all fun a => (List.range 8).all fun b => hueChk 10 a b) = true := by decide +kernel
theorem hue11 : ((List.range 4).all fun a => (List.range 8).all fun b => hueChk 11 a b) = true := by decide +kernel
theorem hue12 : ((List.range 4).all fun a => (List.range 8).all fun b => hueChk 12 a b) = true := by decide +kernel
theorem hue13 : ((List.range 4).all fun a => (List.range 8).all fun b => hueChk 13 a b) = true := by decide +kernel
theorem hue14 : ((List.range 4).all fun a => (List.range 8).all fun b => hueChk 14 a b) = true := by decide +kernel
theorem hue15 : ((List.range 4).all fun a => (List.range 8).all fun b => hueChk 15 a b) = true := by decide +kernel
theorem hue16 : ((List.range 4).all fun a => (List.range 8).all fun b => hueChk 16 a b) = true := by decide +kernel
theorem hue17 : ((List.range 4).all fun a => (List.range 8).all fun b => hueChk 17 a b) = true := by decide +kernel
theorem hue18 : ((List.range 4).all fun a => (List.range 8).all fun b => hueChk 18 a b) = true := by decide +kernel
theorem hue19 : ((List.range 4).all fun a => (List.range 8).all fun b => hueChk 19 a b) = true := by decide +kernel
theorem hue20 : ((List.range 4).all fun a => (List.range 8).all fun b => hueChk 20 a b) = true := by decide +kernel
theorem hue21 : ((List.range 4).all fun a => (List.range 8).all fun b => hueChk 21 a b) = true := by decide +kernel
theorem hue22 : ((List.range 4).all fun a => (List.range 8).all fun b => hueChk 22 a b) = true := by decide +kernel
theorem hue23 : ((List.range 4).all fun a => (List.range 8).all fun b => hueChk 23 a b) = true := by decide +kernel
theorem hue24 : ((List.range 4).all fun a => (List.range 8).all fun b => hueChk 24 a b) = true := by decide +kernel
theorem hue25 : ((List.range 4).all fun a => (List.range 8).all fun b => hueChk 25 a b) = true := by decide +kernel
theorem hue26 : ((List.range 4).all fun a => (List.range 8).all fun b => hueChk 26 a b) = true := by decide +kernel
theorem hue27 : ((List.range 4).all fun a => (List.range 8).all fun b => hueChk 27 a b) = true := by decide +kernel
theorem hue28 : ((List.range 4).all fun a => (List.range 8).all fun b => hueChk 28 a b) = true := by decide +kernel
theorem hue29 : ((List.range 4).all fun a => (List.range 8).all fun b => hueChk 29 a b) = true := by decide +kernel
theorem hue30 : ((List.range 4).all fun a => (List.range 8).all fun b => hueChk 30 a b) = true := by decide +kernel
theorem hue31 : ((List.range 4).all fun a => (List.range 8).all fun b => hueChk 31 a b) = true := by decide +kernel
theorem hue32 : ((List.range 4).all fun a => (List.range 8).all fun b => hueChk 32 a b) = true := by decide +kernel
theorem hue33 : ((List.range 4).all fun a => (List.range 8).all fun b => hueChk 33 a b) = true := by decide +kernel
theorem hue34 : ((List.range 4).all fun a => (List.range 8).all fun b => hueChk 34 a b) = true := by decide +kernel
theorem hue35 : ((List.range 4).all fun a => (List.range 8).all fun b => hueChk 35 a b) = true := by decide +kernel
theorem hue36 : ((List.range 4).all fun a => (List.range 8).all fun b => hueChk 36 a b) = true := by decide +kernel
theorem hue37 : ((List.range 4).all fun a => (List.range 8).all fun b => hueChk 37 a b) = true := by decide +kernel
theorem hue38 : ((List.range 4).all fun a => (List.range 8).all fun b => hueChk 38 a b) = true := by decide +kernel
theorem hue39 : ((List.range 4).all fun a => (List.range 8).all fun b => hueChk 39 a b) = true := by decide +kernel
theorem hue40 : ((List.range 4).all fun a => (List.range 8).all fun b => hueChk 40 a b) = true := by decide +kernel
theorem hue41 : ((List.range 4).all fun a => (List.range 8).all fun b => hueChk 41 a b) = true := by decide +kernel
theorem hue42 : ((List.range 4).all fun a => (List.range 8).all fun b => hueChk 42 a b) = true := by decide +kernel
theorem hue43 : ((List.range 4).all fun a => (List.range 8).all fun b => hueChk 43 a b) = true := by decide +kernel
theorem hue44 : ((List.range 4).all fun a => (List.range 8).all fun b => hueChk 44 a b) = true := by decide +kernel
theorem hue45 : ((List.range 4).all fun a => (List.range 8).all fun b => hueChk 45 a b) = true := by decide +kernel
theorem hue46 : ((List.range 4).all fun a => (List.range 8).all fun b => hueChk 46 a b) = true := by decide +kernel
theorem hue47 : ((List.range 4).all fun a => (List.range 8).all fun b => hueChk 47 a b) = true := by decide +kernel
theorem hue48 : ((List.range 4).all fun a => (List.range 8).all fun b => hueChk 48 a b) = true := by decide +kernel
theorem hue49 : ((List.range 4).all fun a => (List.range 8).all fun b => hueChk 49 a b) = true := by decide +kernel
theorem hue50 : ((List.range 4).all fun a => (List.range 8).all fun b => hueChk 50 a b) = true := by decide +kernel
theorem hue51 : ((List.range 4).all fun a => (List.range 8).all fun b => hueChk 51 a b) = true := by decide +kernel
theorem hue52 : ((List.range 4).all fun a => (List.range 8).all fun b => hueChk 52 a b) = true := by decide +kernel
theorem hue53 : ((List.range 4).all fun a => (List.range 8).all fun b => hueChk 53 a b) = true := by decide +kernel
theorem hue54 : ((List.range 4).all fun a => (List.range 8).all fun b => hueChk 54 a b) = true := by decide +kernel
theorem hue55 : ((List.range 4).all fun a => (List.range 8).all fun b => hueChk 55 a b) = true := by decide +kernel
theorem hue56 : ((List.range 4).all fun a => (List.range 8).all fun b => hueChk 56 a b) = true := by decide +kernel
theorem hue57 : ((List.range 4).all fun a => (List.range 8).all fun b => hueChk 57 a b) = true := by decide +kernel
theorem hue58 : ((List.range 4).all fun a => (List.range 8).all fun b => hueChk 58 a b) = true := by decide +kernel
theorem hue59 : ((List.range 4).all fun a => (List.range 8).all fun b => hueChk 59 a b) = true := by decide +kernel
theorem hue60 : ((List.range 4).all fun a => (List.range 8).all fun b => hueChk 60 a b) = true := by decide +kernel
theorem hue61 : ((List.range 4).all fun a => (List.range 8).all fun b => hueChk 61 a b) = true := by decide +kernel
theorem hue62 : ((List.range 4).all fun a => (List.range 8).all fun b => hueChk 62 a b) = true := by decide +kernel
theorem hue63 : ((List.range 4).all fun a => (List.range 8).all fun b => hueChk 63 a b) = true := by decide +kernel
theorem hue_row {k : Int} (h : ((List.range 4).all fun a => (List.range 8).all fun b => hueChk k a b) = true) {a b : Nat} (ha : a < 4) (hb : b < 8) : hueOk k a b = true := by
  rw [← hueChk_eq]
  exact List.all_eq_true.mp (List.all_eq_true.mp h a (List.mem_range.mpr ha)) b (List.mem_range.mpr hb)
theorem hue_nat : ∀ (k : Nat), k < 64 → ((List.range 4).all fun a => (List.range 8).all fun b => hueChk k a b) = true
  | 0, _ => hue0
  | 1, _ => hue1
  | 2, _ => hue2
  | 3, _ => hue3
  | 4, _ => hue4
  | 5, _ => hue5
  | 6, _ => hue6
  | 7, _ => hue7
  | 8, _ => hue8
  | 9, _ => hue9
  | 10, _ => hue10
  | 11, _ => hue11
  | 12, _ => hue12
  | 13, _ => hue13
  | 14, _ => hue14
  | 15, _ => hue15
  | 16, _ => hue16
  | 17, _ => hue17
  | 18, _ => hue18
  | 19, _ => hue19
  | 20, _ => hue20
  | 21, _ => hue21
  | 22, _ => hue22
  | 23, _ => hue23
  | 24, _ => hue24
  | 25, _ => hue25
  | 26, _ => hue26
  | 27, _ => hue27
  | 28, _ => hue28
  | 29, _ => hue29
  | 30, _ => hue30
  | 31, _ => hue31
  | 32, _ => hue32
  | 33, _ => hue33
  | 34, _ => hue34
  | 35, _ => hue35
  | 36, _ => hue36
  | 37, _ => hue37
  | 38, _ => hue38
  | 39, _ => hue39
  | 40, _ => hue40
  | 41, _ => hue41
  | 42, _ => hue42
  | 43, _ => hue43
  | 44, _ => hue44
  | 45, _ => hue45
  | 46, _ => hue46
  | 47, _ => hue47
  | 48, _ => hue48
  | 49, _ => hue49
  | 50, _ => hue50
  | 51, _ => hue51
  | 52, _ => hue52
  | 53, _ => hue53
  | 54, _ => hue54
  | 55, _ => hue55
  | 56, _ => hue56
  | 57, _ => hue57
  | 58, _ => hue58
  | 59, _ => hue59
  | 60, _ => hue60
  | 61, _ => hue61
  | 62, _ => hue62
  | 63, _ => hue63
  | k + 64, h => absurd h (by omega)
theorem hue_all {k a b : Int} (hk : 0 ≤ k) (hk' : k < 64) (ha : 0 ≤ a) (ha' : a < 4) (hb : 0 ≤ b) (hb' : b < 8) : hueOk k a b = true := by
  obtain ⟨k, rfl⟩ := Int.eq_ofNat_of_zero_le hk
  obtain ⟨a, rfl⟩ := Int.eq_ofNat_of_zero_le ha
  obtain ⟨b, rfl⟩ := Int.eq_ofNat_of_zero_le hb
  exact hue_row (hue_nat k (by omega)) (by omega) (by omega)
end Mine
namespace Mine
local macro_rules | `(tactic| walk_at "call builtin:max") => `(tactic| ((with_reducible show wpAny _ _ (call _ [Value.float _ _, Value.float _ _, Value.float _ _]) _ _ _); refine max_three_ff rfl (by k_asm) (by k_asm) ?_; intro _ _ _ _ _; (try dsimp only)))
local macro_rules | `(tactic| walk_at "call builtin:min") => `(tactic| ((with_reducible show wpAny _ _ (call _ [Value.float _ _, Value.float _ _, Value.float _ _]) _ _ _); refine min_three_ff rfl (by k_asm) (by k_asm) ?_; intro _ _ _ _ _; (try dsimp only)))
/-- the end of a def that hands back a new tuple of three floats -/
def TupEnd (s : Shared) (P : UInt64 → UInt64 → UInt64 → Prop) (v : Value) (as' : List (Addr × Obj)) (s' : Shared) : Prop :=
  ∃ q x y z t1 t2 t3, v = .ref q ∧ as' = [(q, { cls := .type "tuple", data := .seq #[.float x t1, .float y t2, .float z t3] })] ∧ P x y z ∧ ∃ h' tk', s' = { s with heap := h', toks := tk' }
theorem fmod6 (i : Int) : i.fmod 6 = 0 ∨ i.fmod 6 = 1 ∨ i.fmod 6 = 2 ∨ i.fmod 6 = 3 ∨ i.fmod 6 = 4 ∨ i.fmod 6 = 5 := by
  rw [Int.fmod_eq_emod_of_nonneg i (by decide)]; omega
theorem hsv_spec {w : World} {mean : ExcName → Option Value} {mg mb : Str → Option Value} {dp un : Nat} {cs : Scope} {outer : List Env} {A₀ : Around} {base h₀ : Heap} {L : Addr} {m : Str → Option Value} {s : Shared}
    {gd : Option (List Code)} {cn : Str} {a : Addr} {ccd : Value} {cl : List (Str × Addr)} {Q E : Value → Shared → Prop} {H S V : UInt64} {t1 t2 t3 : Tok} {news : List (Addr × Obj)}
    (C : Cx w mean mg mb dp un cs outer A₀ base h₀ L m s) (N : News h₀ L s.heap news) (hok : hsvOk H S = true)
    (hQ : ∀ q x y z u1 u2 u3 h' tk', (fun x y z => (x, y, z) = hsvF H S V) x y z → Fr h₀ L h' m → News h₀ L h' ((q, { cls := .type "tuple", data := .seq #[.float x u1, .float y u2, .float z u3] }) :: news) → (∀ p ∈ news, p.1 ≠ q) → Q (.ref q) { s with heap := h', toks := tk' }) :
    wpAny (model (RowW.prog (OpenRow.toRowW (OpenLaw.row PySem.Challenge.rw_qu0034_01))) w) (ktrTop dp un gd cn cs L a ccd cl outer) (call (.ref 42) [.float H t1, .float S t2, .float V t3]) Q E s := by
  have fin : ∀ v' as' s', TupEnd s (fun x y z => (x, y, z) = hsvF H S V) v' as' s' → (∀ b o, b ∉ ([] : List Addr) → s.heap.get? b = some o → s'.heap.get? b = some o) → (∀ q ∈ as', s'.heap.get? q.1 = some q.2 ∧ (q.1 ∈ ([] : List Addr) ∨ s.heap.get? q.1 = none)) → Q v' s' := by
    rintro v' as' s' ⟨q, x, y, z, u1, u2, u3, rfl, rfl, hp, h', tk', rfl⟩ hb hq
    obtain ⟨e1, e2⟩ := hq _ (.head _)
    obtain ⟨F', N', hne⟩ := back_new C.F N (h' := h') (fun b ob e => hb b ob (by simp) e) e1 (e2.resolve_left (by simp))
    exact hQ q x y z u1 u2 u3 h' tk' hp F' N' hne
  clear hQ
  obtain ⟨B, F, X, T, hk, hd, hu⟩ := C
  have N0 : News h₀ L s.heap [] := News.nil
  clear N
  revert X
  k_fill
  intro X
  refine wpAny_call ?_
  refine' enter (P := fun _ => TupEnd s (fun x y z => (x, y, z) = hsvF H S V)) (binds := [(Str.ofString "h", .float H t1), (Str.ofString "s", .float S t2), (Str.ofString "v", .float V t3)]) ?k1 ?k2 ?k3 ?k4 ?k5 ?kA ?kF ?kK ?k6 ?k7 ?k8 ?k9 ?kB ?_ ?kR ?c2 ?c3 ?c4 ?c5
  case kA => exact rfl
  case kF => exact rfl
  case kK => assumption
  case k1 => k_asm
  case k2 => k_asm
  case k3 => k_asm
  case k4 => exact N0
  case k5 => k_asm
  case k6 => k_is
  case k7 => k_is
  case k8 => ktr_room
  case k9 => exact BindsTo.of_eq rfl
  case c5 => decide
  case kB => exact locs rfl
  case c2 => exact rfl
  case c3 => exact rfl
  case c4 => exact rfl
  case kR => exact fun v' as' s' hp hb hq => fin v' as' s' hp hb hq
  clear F N0 fin
  intro g' L' h' F' N' B' X' T'
  (try dsimp only)
  (try k_fold)
  k_steps
  all_goals (
    simp only [hsvOk, Bool.and_eq_true, Bool.not_eq_true', decide_eq_true_eq] at hok
    obtain ⟨⟨⟨o1, o2⟩, o3⟩, o4⟩ := hok
    unfold hsvI at o4
    first
      | exact Bool.false_ne_true (o1.symm.trans (by assumption))
      | exact Bool.false_ne_true (o2.symm.trans (by assumption))
      | exact Bool.false_ne_true (o3.symm.trans (by assumption))
      | exact absurd o4 (Nat.not_lt.mpr (by assumption))
      | (exfalso; exact Bool.false_ne_true (o1.symm.trans (by assumption)))
      | ((repeat (k_unfold; (try dsimp only)))
         refine ⟨_, _, _, (by k_asm), (by k_asm), _, _, _, _, _, _, _, rfl, rfl, ?_, _, _, rfl⟩
         unfold hsvF hsvT hsvQ hsvP hsvf hsvI
         (repeat rw [if_neg (by assumption)])
         first | done | rfl | (rw [if_pos (by assumption)]))
      | (exfalso; rcases fmod6 (Flt.toInt Float64.truncOf (Float64.mul H f6)) with e | e | e | e | e | e <;> contradiction))
theorem rgb_spec {w : World} {mean : ExcName → Option Value} {mg mb : Str → Option Value} {dp un : Nat} {cs : Scope} {outer : List Env} {A₀ : Around} {base h₀ : Heap} {L : Addr} {m : Str → Option Value} {s : Shared}
    {gd : Option (List Code)} {cn : Str} {a : Addr} {ccd : Value} {cl : List (Str × Addr)} {Q E : Value → Shared → Prop} {R G B1 : UInt64} {t1 t2 t3 : Tok} {news : List (Addr × Obj)}
    (C : Cx w mean mg mb dp un cs outer A₀ base h₀ L m s) (N : News h₀ L s.heap news) (hok : rgbOk R G B1 = true)
    (hQ : ∀ q x y z u1 u2 u3 h' tk', (fun x _ _ => x = rgbH R G B1) x y z → Fr h₀ L h' m → News h₀ L h' ((q, { cls := .type "tuple", data := .seq #[.float x u1, .float y u2, .float z u3] }) :: news) → (∀ p ∈ news, p.1 ≠ q) → Q (.ref q) { s with heap := h', toks := tk' }) :
    wpAny (model (RowW.prog (OpenRow.toRowW (OpenLaw.row PySem.Challenge.rw_qu0034_01))) w) (ktrTop dp un gd cn cs L a ccd cl outer) (call (.ref 35) [.float R t1, .float G t2, .float B1 t3]) Q E s := by
  have fin : ∀ v' as' s', TupEnd s (fun x _ _ => x = rgbH R G B1) v' as' s' → (∀ b o, b ∉ ([] : List Addr) → s.heap.get? b = some o → s'.heap.get? b = some o) → (∀ q ∈ as', s'.heap.get? q.1 = some q.2 ∧ (q.1 ∈ ([] : List Addr) ∨ s.heap.get? q.1 = none)) → Q v' s' := by
    rintro v' as' s' ⟨q, x, y, z, u1, u2, u3, rfl, rfl, hp, h', tk', rfl⟩ hb hq
    obtain ⟨e1, e2⟩ := hq _ (.head _)
    obtain ⟨F', N', hne⟩ := back_new C.F N (h' := h') (fun b ob e => hb b ob (by simp) e) e1 (e2.resolve_left (by simp))
    exact hQ q x y z u1 u2 u3 h' tk' hp F' N' hne
  clear hQ
  obtain ⟨B, F, X, T, hk, hd, hu⟩ := C
  have N0 : News h₀ L s.heap [] := News.nil
  clear N
  revert X
  k_fill
  intro X
  refine wpAny_call ?_
  refine' enter (P := fun _ => TupEnd s (fun x _ _ => x = rgbH R G B1)) (binds := [(Str.ofString "r", .float R t1), (Str.ofString "g", .float G t2), (Str.ofString "b", .float B1 t3)]) ?k1 ?k2 ?k3 ?k4 ?k5 ?kA ?kF ?kK ?k6 ?k7 ?k8 ?k9 ?kB ?_ ?kR ?c2 ?c3 ?c4 ?c5
  case kA => exact rfl
  case kF => exact rfl
  case kK => assumption
  case k1 => k_asm
  case k2 => k_asm
  case k3 => k_asm
  case k4 => exact N0
  case k5 => k_asm
  case k6 => k_is
  case k7 => k_is
  case k8 => ktr_room
  case k9 => exact BindsTo.of_eq rfl
  case c5 => decide
  case kB => exact locs rfl
  case c2 => exact rfl
  case c3 => exact rfl
  case c4 => exact rfl
  case kR => exact fun v' as' s' hp hb hq => fin v' as' s' hp hb hq
  clear F N0 fin
  intro g' L' h' F' N' B' X' T'
  (try dsimp only)
  (try k_fold)
  k_steps
  all_goals (
    simp only [rgbOk, rgbM, rgbN, rgbD, Bool.and_eq_true, Bool.not_eq_true'] at hok
    obtain ⟨⟨o1, o2⟩, o3⟩ := hok
    first
      | exact Bool.false_ne_true (o2.symm.trans (by assumption))
      | exact Bool.false_ne_true (o3.symm.trans (by assumption))
      | (exfalso; exact Bool.false_ne_true (o1.symm.trans (by assumption)))
      | ((repeat (k_unfold; (try dsimp only)))
         refine ⟨_, _, _, (by k_asm), (by k_asm), _, _, _, _, _, _, _, rfl, rfl, ?_, _, _, rfl⟩
         unfold rgbH rgbh rgbc rgbD rgbM rgbN
         (first
           | rw [if_pos (by assumption)]
           | (rw [if_neg (by rename_i h1 _ _ _ _ _ _ _ _ _ _; simp_all), if_pos (by assumption)])
           | simp_all)))
end Mine
namespace Mine
/-- does the place lie on the arc -/
def inArc (x arc : Int) : Bool := decide ((x - arc).fmod 64 ≤ (arc.fdiv 64).fmod 63)
def wordOf : Bool → Bool → Bool → Bool → Str
  | true, true, true, true => Str.ofString "ABCD"
  | true, true, true, false => Str.ofString "ABCd"
  | true, true, false, true => Str.ofString "ABcD"
  | true, true, false, false => Str.ofString "ABcd"
  | true, false, true, true => Str.ofString "AbCD"
  | true, false, true, false => Str.ofString "AbCd"
  | true, false, false, true => Str.ofString "AbcD"
  | true, false, false, false => Str.ofString "Abcd"
  | false, true, true, true => Str.ofString "aBCD"
  | false, true, true, false => Str.ofString "aBCd"
  | false, true, false, true => Str.ofString "aBcD"
  | false, true, false, false => Str.ofString "aBcd"
  | false, false, true, true => Str.ofString "abCD"
  | false, false, true, false => Str.ofString "abCd"
  | false, false, false, true => Str.ofString "abcD"
  | false, false, false, false => Str.ofString "abcd"
def WordEnd (l : Addr) (o : Obj) (s : Shared) (x : Str) (v : Value) (as' : List (Addr × Obj)) (s' : Shared) : Prop :=
  (∃ t, v = .str x t) ∧ as' = [(l, o)] ∧ ∃ h' tk', s' = { s with heap := h', toks := tk' }
theorem word_end {x y : Str} {t : Tok} (e : y = x) : ∃ t', Value.str y t = .str x t' := ⟨t, by rw [e]⟩
theorem word_spec {w : World} {mean : ExcName → Option Value} {mg mb : Str → Option Value} {dp un : Nat} {cs : Scope} {outer : List Env} {A₀ : Around} {base h₀ : Heap} {L : Addr} {m : Str → Option Value} {s : Shared}
    {gd : Option (List Code)} {cn : Str} {a : Addr} {ccd : Value} {cl : List (Str × Addr)} {Q E : Value → Shared → Prop} {l : Addr} {x a0 a1 a2 a3 : Int} {t : Tok} {n : Nat} {vs : List Value} {news : List (Addr × Obj)}
    (C : Cx w mean mg mb dp un cs outer A₀ base h₀ L m s) (N : News h₀ L s.heap news) (hmem : (l, listOf vs.toArray n) ∈ news) (hI : IntsAre vs [a0, a1, a2, a3])
    (hQ : ∀ t' h' tk', Fr h₀ L h' m → News h₀ L h' news → Q (.str (wordOf (inArc x a0) (inArc x a1) (inArc x a2) (inArc x a3)) t') { s with heap := h', toks := tk' }) :
    wpAny (model (RowW.prog (OpenRow.toRowW (OpenLaw.row PySem.Challenge.rw_qu0034_01))) w) (ktrTop dp un gd cn cs L a ccd cl outer) (call (.ref 84) [.int x t, .ref l]) Q E s := by
  have N1 : News h₀ L s.heap [(l, listOf vs.toArray n)] := fun p hp => by
    rw [List.mem_singleton.mp hp]; exact N _ hmem
  have fin : ∀ v' as' s', WordEnd l (listOf vs.toArray n) s (wordOf (inArc x a0) (inArc x a1) (inArc x a2) (inArc x a3)) v' as' s' → (∀ b o, b ∉ [l] → s.heap.get? b = some o → s'.heap.get? b = some o) → (∀ q ∈ as', s'.heap.get? q.1 = some q.2 ∧ (q.1 ∈ [l] ∨ s.heap.get? q.1 = none)) → Q v' s' := by
    rintro v' as' s' ⟨⟨t', rfl⟩, rfl, h', tk', rfl⟩ hb hq
    obtain ⟨F', N'⟩ := back_all C.F N (h' := h') (fun b ob e => by
      by_cases hl : b = l
      · subst hl
        have e1 := (N _ hmem).1
        rw [e] at e1
        cases e1
        exact (hq _ (.head _)).1
      · exact hb b ob (by simpa using hl) e)
    exact hQ t' h' tk' F' N'
  clear hQ N hmem
  cases hI with | cons _ t0 hI => ?_
  cases hI with | cons _ t1 hI => ?_
  cases hI with | cons _ t2 hI => ?_
  cases hI with | cons _ t3 hI => ?_
  cases hI
  obtain ⟨B, F, X, T, hk, hd, hu⟩ := C
  revert X
  k_fill
  intro X
  refine wpAny_call ?_
  refine' enter (P := fun _ => WordEnd l (listOf #[.int a0 t0, .int a1 t1, .int a2 t2, .int a3 t3] n) s (wordOf (inArc x a0) (inArc x a1) (inArc x a2) (inArc x a3))) (binds := [(Str.ofString "place", .int x t), (Str.ofString "arcs", .ref l)]) ?k1 ?k2 ?k3 ?k4 ?k5 ?kA ?kF ?kK ?k6 ?k7 ?k8 ?k9 ?kB ?_ ?kR ?c2 ?c3 ?c4 ?c5
  case kA => exact rfl
  case kF => exact rfl
  case kK => assumption
  case k1 => k_asm
  case k2 => k_asm
  case k3 => k_asm
  case k4 => exact N1
  case k5 => k_asm
  case k6 => k_is
  case k7 => k_is
  case k8 => ktr_room
  case k9 => exact BindsTo.of_eq rfl
  case c5 => decide
  case kB => exact locs rfl
  case c2 => exact rfl
  case c3 => exact rfl
  case c4 => exact rfl
  case kR => exact fin
  clear F N1 fin
  intro g' L' h' F' N' B' X' T'
  (try dsimp only)
  (try k_fold)
  k_steps
  all_goals (
    first | (have e0 : inArc x a0 = true := decide_eq_true (by assumption)) | (have e0 : inArc x a0 = false := decide_eq_false (by assumption))
    first | (have e1 : inArc x a1 = true := decide_eq_true (by assumption)) | (have e1 : inArc x a1 = false := decide_eq_false (by assumption))
    first | (have e2 : inArc x a2 = true := decide_eq_true (by assumption)) | (have e2 : inArc x a2 = false := decide_eq_false (by assumption))
    first | (have e3 : inArc x a3 = true := decide_eq_true (by assumption)) | (have e3 : inArc x a3 = false := decide_eq_false (by assumption))
    (try dsimp only)
    (repeat (k_unfold; (try dsimp only)))
    refine ⟨_, _, _, (by k_asm), (by k_asm), word_end ?_, rfl, _, _, rfl⟩
    rw [e0, e1, e2, e3]
    first | done | rfl)
end Mine
namespace Mine
local macro_rules | `(tactic| walk_at "call builtin:str.lower") => `(tactic| (refine SCL.lower (by omega) ?_; intro _; (try dsimp only)))
def subCost (x y : Str) : Int := if (x == y) = true then 0 else if (Txt.lower x == Txt.lower y) = true then 1 else 2
def IntEnd (s : Shared) (k : Int) (v : Value) (as' : List (Addr × Obj)) (s' : Shared) : Prop :=
  (∃ t, v = .int k t) ∧ ∃ h' tk', s' = { s with heap := h', toks := tk' }
theorem int_end {x y : Int} {t : Tok} (e : y = x) : ∃ t', Value.int y t = .int x t' := ⟨t, by rw [e]⟩
theorem sub_spec {w : World} {mean : ExcName → Option Value} {mg mb : Str → Option Value} {dp un : Nat} {cs : Scope} {outer : List Env} {A₀ : Around} {base h₀ : Heap} {L : Addr} {m : Str → Option Value} {s : Shared}
    {gd : Option (List Code)} {cn : Str} {a : Addr} {ccd : Value} {cl : List (Str × Addr)} {Q E : Value → Shared → Prop} {x y : Str} {t1 t2 : Tok} {news : List (Addr × Obj)}
    (C : Cx w mean mg mb dp un cs outer A₀ base h₀ L m s) (N : News h₀ L s.heap news) (hx : x.length = 1) (hy : y.length = 1)
    (hQ : ∀ t' h' tk', Fr h₀ L h' m → News h₀ L h' news → Q (.int (subCost x y) t') { s with heap := h', toks := tk' }) :
    wpAny (model (RowW.prog (OpenRow.toRowW (OpenLaw.row PySem.Challenge.rw_qu0034_01))) w) (ktrTop dp un gd cn cs L a ccd cl outer) (call (.ref 21) [.str x t1, .str y t2]) Q E s := by
  have fin : ∀ v' as' s', IntEnd s (subCost x y) v' as' s' → (∀ b o, b ∉ ([] : List Addr) → s.heap.get? b = some o → s'.heap.get? b = some o) → (∀ q ∈ as', s'.heap.get? q.1 = some q.2 ∧ (q.1 ∈ ([] : List Addr) ∨ s.heap.get? q.1 = none)) → Q v' s' := by
    rintro v' as' s' ⟨⟨t', rfl⟩, h', tk', rfl⟩ hb hq
    obtain ⟨F', N'⟩ := back_all C.F N (h' := h') (fun b ob e => hb b ob (by simp) e)
    exact hQ t' h' tk' F' N'
  clear hQ N
  obtain ⟨B, F, X, T, hk, hd, hu⟩ := C
  have N0 : News h₀ L s.heap [] := News.nil
  revert X
  k_fill
  intro X
  refine wpAny_call ?_
  refine' enter (P := fun _ => IntEnd s (subCost x y)) (binds := [(Str.ofString "ch_a", .str x t1), (Str.ofString "ch_b", .str y t2)]) ?k1 ?k2 ?k3 ?k4 ?k5 ?kA ?kF ?kK ?k6 ?k7 ?k8 ?k9 ?kB ?_ ?kR ?c2 ?c3 ?c4 ?c5
  case kA => exact rfl
  case kF => exact rfl
  case kK => assumption
  case k1 => k_asm
  case k2 => k_asm
  case k3 => k_asm
  case k4 => exact N0
  case k5 => k_asm
  case k6 => k_is
  case k7 => k_is
  case k8 => ktr_room
  case k9 => exact BindsTo.of_eq rfl
  case c5 => decide
  case kB => exact locs rfl
  case c2 => exact rfl
  case c3 => exact rfl
  case c4 => exact rfl
  case kR => exact fin
  clear F N0 fin
  intro g' L' h' F' N' B' X' T'
  (try dsimp only)
  (try k_fold)
  k_steps
  all_goals (
    (try dsimp only)
    (repeat (k_unfold; (try dsimp only)))
    refine ⟨_, _, _, (by k_asm), (by k_asm), int_end ?_, _, _, rfl⟩
    unfold subCost
    first
      | (rw [if_pos (by assumption)]; done)
      | (rw [if_neg (fun e => Bool.false_ne_true (Eq.trans (Eq.symm (by assumption)) e)), if_pos (by assumption)]; done)
      | (rw [if_neg (fun e => Bool.false_ne_true (Eq.trans (Eq.symm (by assumption)) e)), if_neg (fun e => Bool.false_ne_true (Eq.trans (Eq.symm (by assumption)) e))]; done))
end Mine
namespace Mine

/-- a text by its signs -/
def sl (xs : List Nat) : Str := ⟨xs.toArray⟩
theorem sl_length (xs : List Nat) : (sl xs).length = xs.length := by simp [sl, Str.length]
theorem sl_cps (xs : List Nat) : (sl xs).cps.toList = xs := by simp [sl]
theorem sl_inj {xs ys : List Nat} (h : sl xs = sl ys) : xs = ys := by
  have := congrArg (fun x => x.cps.toList) h
  simpa [sl] using this
theorem sl_beq (xs ys : List Nat) : (sl xs == sl ys) = decide (xs = ys) := by
  by_cases h : xs = ys
  · subst h; simp
  · rw [decide_eq_false h, beq_eq_false_iff_ne]
    exact fun e => h (sl_inj e)
theorem sl_from (xs : List Nat) (p : Nat) : Txt.slice (sl xs) (some (p : Int)) none = sl (xs.drop p) := by
  by_cases h : p ≤ xs.length
  · rw [slice_from_eq (b := (xs.length : Int)) (by omega) (by rw [sl_length]; omega) (by rw [sl_length])]
    rw [sl_cps, Int.toNat_natCast, show ((xs.length : Int) - (p : Int)).toNat = (xs.drop p).length by rw [List.length_drop]; omega, List.take_length]
    rfl
  · rw [slice_beyond (by rw [sl_length]; omega), List.drop_eq_nil_of_le (by omega)]
    rfl
theorem sl_all (xs : List Nat) : Txt.slice (sl xs) none none = sl xs := by
  have e : Txt.slice (sl xs) none none = Txt.slice (sl xs) (some ((0 : Nat) : Int)) none := by
    show StrLaws.sliceText (sl xs) none none = StrLaws.sliceText (sl xs) (some 0) none
    unfold StrLaws.sliceText
    rw [StrLaws.sliceIdx_none_lo]
  rw [e, sl_from]
  rfl
theorem sl_upto_neg (xs : List Nat) (q : Nat) (h0 : 0 < q) (h1 : q ≤ xs.length) : Txt.slice (sl xs) none (some (-(q : Int))) = sl (xs.take (xs.length - q)) := by
  show StrLaws.sliceText (sl xs) none (some (-(q : Int))) = _
  rw [StrLaws.sliceText_to_neg (by omega) (by rw [sl_length]; omega)]
  rw [sl_cps, sl_length, List.drop_zero, show (-(q : Int) + (xs.length : Int) - 0).toNat = xs.length - q by omega]
  rfl
theorem sl_item (xs : List Nat) (p : Nat) (h : p < xs.length) : Txt.item (sl xs) (p : Int) = sl [xs.getD p 0] := by
  have hs : seqIndex? (p : Int) (sl xs).length = some p := by
    rw [sl_length]
    unfold seqIndex?
    simp
    omega
  unfold Txt.item Txt.charAt
  rw [hs]
  simp [sl, h]
theorem sl_item_neg (xs : List Nat) (q : Nat) (h : q < xs.length) : Txt.item (sl xs) (-(q : Int) - 1) = sl [xs.getD (xs.length - q - 1) 0] := by
  have e := item_closes_neg (x := sl xs) (i := -(q : Int) - 1) (j := -(q : Int) - 1 + (sl xs).length) (by omega) (by rw [sl_length]; omega) rfl
  rw [beq_iff_eq.mp e, sl_length, show (-(q : Int) - 1 + (xs.length : Int)).toNat = xs.length - q - 1 by omega]
  simp [sl, show xs.length - q - 1 < xs.length by omega]

/-- the walk halts here -/
def Halt (P : Prop) : Prop := P
section
variable {prog : Program} {w : World} {A : Around} {E : Value → Shared → Prop} {s : Shared} {env : Env} {test : PySem.Expr} {body orelse : List Stmt} {Q : Flow → Shared → Prop}
theorem WhlIf.both {b : Bool} {T F : Prop} (t : b = true → T) (f : b = false → F) : WhlIf b T F := by
  cases b
  · exact WhlIf.no rfl (f rfl)
  · exact WhlIf.yes rfl (t rfl)
def WhlNext {σ : Type} (I : σ → Shared → Prop) (μ : σ → Nat) (x : σ) (Q : Flow → Shared → Prop) (f : Flow) (s : Shared) : Prop :=
  match f with
  | .next => ∃ y, μ y < μ x ∧ I y s
  | .cont => ∃ y, μ y < μ x ∧ I y s
  | .brk => Q .next s
  | .ret v => Q (.ret v) s
/-- a while by an invariant and a measure -/
theorem whl_ind {σ : Type} (I : σ → Shared → Prop) (μ : σ → Nat) {k : Nat} (hE : PassesOwn (model prog w) A env E)
    (h : ∀ x s, I x s → wpAny (model prog w) A (isTrue test env (eval test env)) (fun b s₂ => WhlIf b (wpAny (model prog w) A (execs body env) (WhlNext I μ x Q) E s₂) (Halt (wpAny (model prog w) A (execs orelse env) Q E s₂))) E s) :
    ∀ x s, I x s → WhlRest prog w A E env test body orelse Q k s := by
  have key : ∀ n x s, μ x = n → I x s → WhlRest prog w A E env test body orelse Q k s := by
    intro n
    induction n using Nat.strongRecOn with
    | ind n ih =>
      intro x s hm hi
      show WhlRest prog w A E env test body orelse Q (0 + 1) s
      refine whl_turn hE (wpAny_mono (h x s hi) (fun b s₂ hb => ?_) fun _ _ e => e)
      refine WhlIf.both (fun e => ?_) fun e => ?_
      · subst e
        refine wpAny_mono (show wpAny (model prog w) A (execs body env) (WhlNext I μ x Q) E s₂ from hb) (fun f s₃ hf => ?_) fun _ _ e => e
        cases f with
        | next => obtain ⟨y, hy, hI⟩ := hf; exact ih _ (hm ▸ hy) y s₃ rfl hI
        | cont => obtain ⟨y, hy, hI⟩ := hf; exact ih _ (hm ▸ hy) y s₃ rfl hI
        | brk => exact hf
        | ret v => exact hf
      · subst e
        unfold WhlIf at hb
        rw [if_neg Bool.false_ne_true] at hb
        exact hb
  exact fun x s hi => key _ x s rfl hi
end
section
variable {prog : Program} {w : World} {A : Around} {E : Value → Shared → Prop} {s : Shared} {value slice : PySem.Expr} {t : Tok} {Q : Value → Shared → Prop} {h₀ : Heap} {L : Addr} {m : Str → Option Value} {news : List (Addr × Obj)} {xs : List Nat}
theorem sl_size (h : xs.length ≤ 4) : (sl xs).length ≤ sizeLine := by rw [sl_length]; exact Nat.le_trans h (by decide)
theorem cut_from {p : Nat} {ui : Tok} (hn : xs.length ≤ 4) (hF : Fr h₀ L s.heap m) (hN : News h₀ L s.heap news) (h : ∀ h' t' k, Fr h₀ L h' m → News h₀ L h' news → Q (.str (sl (xs.drop p)) t') { s with heap := h', toks := k })
    (hs : subscripted slice false (.str (sl xs) t) (.ref s.heap.objs.size) = operate [.ref s.heap.objs.size, .str (sl xs) t] (getItem (.str (sl xs) t) (.ref s.heap.objs.size)) := by with_unfolding_all rfl)
    (ht : ∀ r, letTemporaryGo value (.str (sl xs) t) r = pure () := by intro _; with_unfolding_all rfl) :
    wpAny (model prog w) A (subscriptTail value slice (.str (sl xs) t) (.ref s.heap.objs.size)) Q E { s with heap := s.heap.push { cls := .type "slice", data := .fields #[.int (p : Int) ui, .none, .none] } } :=
  slice_strN_sn hF hN (fun h' t' k a b => by rw [sl_from]; exact h h' t' k a b) hs ht (sl_size hn)
theorem cut_all (hn : xs.length ≤ 4) (hF : Fr h₀ L s.heap m) (hN : News h₀ L s.heap news) (h : ∀ h' t' k, Fr h₀ L h' m → News h₀ L h' news → Q (.str (sl xs) t') { s with heap := h', toks := k })
    (hs : subscripted slice false (.str (sl xs) t) (.ref s.heap.objs.size) = operate [.ref s.heap.objs.size, .str (sl xs) t] (getItem (.str (sl xs) t) (.ref s.heap.objs.size)) := by with_unfolding_all rfl)
    (ht : ∀ r, letTemporaryGo value (.str (sl xs) t) r = pure () := by intro _; with_unfolding_all rfl) :
    wpAny (model prog w) A (subscriptTail value slice (.str (sl xs) t) (.ref s.heap.objs.size)) Q E { s with heap := s.heap.push { cls := .type "slice", data := .fields #[.none, .none, .none] } } :=
  slice_strN_nn hF hN (fun h' t' k a b => by rw [sl_all]; exact h h' t' k a b) hs ht (sl_size hn)
theorem cut_upto {q : Nat} {j : Int} {uj : Tok} (hj : j = -(q : Int)) (h0 : 0 < q) (h1 : q ≤ xs.length) (hn : xs.length ≤ 4) (hF : Fr h₀ L s.heap m) (hN : News h₀ L s.heap news) (h : ∀ h' t' k, Fr h₀ L h' m → News h₀ L h' news → Q (.str (sl (xs.take (xs.length - q))) t') { s with heap := h', toks := k })
    (hs : subscripted slice false (.str (sl xs) t) (.ref s.heap.objs.size) = operate [.ref s.heap.objs.size, .str (sl xs) t] (getItem (.str (sl xs) t) (.ref s.heap.objs.size)) := by with_unfolding_all rfl)
    (ht : ∀ r, letTemporaryGo value (.str (sl xs) t) r = pure () := by intro _; with_unfolding_all rfl) :
    wpAny (model prog w) A (subscriptTail value slice (.str (sl xs) t) (.ref s.heap.objs.size)) Q E { s with heap := s.heap.push { cls := .type "slice", data := .fields #[.none, .int j uj, .none] } } := by
  subst hj
  exact slice_strN_ns hF hN (fun h' t' k a b => by rw [sl_upto_neg xs q h0 h1]; exact h h' t' k a b) hs ht (sl_size hn)
theorem sign_at {p : Nat} {u : Tok} (hp : p < xs.length) (hn : xs.length ≤ 4) (h : Q (.str (sl [xs.getD p 0]) s.toks) { s with toks := s.toks + 1 })
    (hs : subscripted slice false (.str (sl xs) t) (.int (p : Int) u) = operate [.str (sl xs) t, .int (p : Int) u] (getItem (.str (sl xs) t) (.int (p : Int) u)) := by with_unfolding_all rfl)
    (ht : ∀ r, letTemporaryGo value (.str (sl xs) t) r = pure () := by intro _; with_unfolding_all rfl) :
    wpAny (model prog w) A (subscriptTail value slice (.str (sl xs) t) (.int (p : Int) u)) Q E s :=
  KXi.item (sl_length xs) (by omega) (by omega) (by omega) (fun _ => by rw [sl_item xs p hp]; exact h) hs ht
theorem sign_neg {q : Nat} {j : Int} {u : Tok} (hj : j = -(q : Int)) (hq : q < xs.length) (hn : xs.length ≤ 4) (h : Q (.str (sl [xs.getD (xs.length - q - 1) 0]) s.toks) { s with toks := s.toks + 1 })
    (hs : subscripted slice false (.str (sl xs) t) (.int (j - 1) u) = operate [.str (sl xs) t, .int (j - 1) u] (getItem (.str (sl xs) t) (.int (j - 1) u)) := by with_unfolding_all rfl)
    (ht : ∀ r, letTemporaryGo value (.str (sl xs) t) r = pure () := by intro _; with_unfolding_all rfl) :
    wpAny (model prog w) A (subscriptTail value slice (.str (sl xs) t) (.int (j - 1) u)) Q E s := by
  subst hj
  exact KXi.item (sl_length xs) (by omega) (by omega) (by omega) (fun _ => by rw [sl_item_neg xs q hq]; exact h) hs ht
end
section
variable {prog : Program} {w : World} {A : Around} {E : Value → Shared → Prop} {s : Shared} {t : Tok} {Q : Bool → Shared → Prop} {xs : List Nat} {p : Nat}
theorem truthy_sl (hn : xs.length ≤ 4) (h1 : 0 < xs.length → Q true { s with toks := s.toks + 1 + 1 }) (h0 : xs.length = 0 → Q false { s with toks := s.toks + 1 + 1 }) : wpAny (model prog w) A (truthy (.str (sl xs) t)) Q E s := by
  refine PySem.P.truthy_str (by rw [sl_length]; omega) ?_
  rw [sl_length]
  by_cases h : xs.length = 0
  · have e : (((xs.length : Nat) : Int) != 0) = false := by rw [h]; rfl
    rw [e]
    exact h0 h
  · have e : (((xs.length : Nat) : Int) != 0) = true := by
      rw [bne_iff_ne]
      omega
    rw [e]
    exact h1 (by omega)
theorem truthy_nz {j : Int} {u : Tok} (hj : j ≠ 0) (h : Q true s) : wpAny (model prog w) A (truthy (.int j u)) Q E s :=
  PySem.P.truthy_int (by rw [bne_iff_ne.mpr hj]; exact h)
theorem truthy_drop (hn : xs.length ≤ 4) (h1 : p < xs.length → Q true { s with toks := s.toks + 1 + 1 }) (h0 : xs.length ≤ p → Q false { s with toks := s.toks + 1 + 1 }) : wpAny (model prog w) A (truthy (.str (sl (xs.drop p)) t)) Q E s :=
  truthy_sl (by rw [List.length_drop]; omega) (fun h => h1 (by rw [List.length_drop] at h; omega)) (fun h => h0 (by rw [List.length_drop] at h; omega))
theorem truthy_take (hn : xs.length ≤ 4) (hp : p ≤ xs.length) (h1 : 0 < p → Q true { s with toks := s.toks + 1 + 1 }) (h0 : p = 0 → Q false { s with toks := s.toks + 1 + 1 }) : wpAny (model prog w) A (truthy (.str (sl (xs.take p)) t)) Q E s :=
  truthy_sl (by rw [List.length_take]; omega) (fun h => h1 (by rw [List.length_take] at h; omega)) (fun h => h0 (by rw [List.length_take] at h; omega))
end
end Mine
namespace Mine
/-- the i-th statement of the program's top, of a def's body -/
def topStmt (i : Nat) : Stmt := PySem.Challenge.pw_qu0034_01.main.body.getD i (.Pass ⟨0, 0, 0, 0⟩)
def defBody : Stmt → List Stmt
  | .FunctionDef _ _ b _ _ _ _ _ _ _ => b
  | _ => []
def defScope : Stmt → Scope
  | .FunctionDef _ _ _ _ _ _ sc _ _ _ => sc
  | _ => { kind := .function, names := [], isGenerator := false, isCoroutine := false }
def stmtOf (i k : Nat) : Stmt := (defBody (topStmt i)).getD k (.Pass ⟨0, 0, 0, 0⟩)

section
variable {prog : Program} {w : World} {A : Around} {E : Value → Shared → Prop} {s : Shared} {env : Env} {h₀ : Heap} {x : Str} {body : List Stmt} {Q : Flow → Shared → Prop}
/-- a turn's end -/
def Turn (h₀ : Heap) (L : Addr) (s₁ : Shared) (I : Addr) (it : Obj) (rest : (Str → Option Value) → List (Addr × Obj) → Prop) (Q : Flow → Shared → Prop) (f : Flow) (s₂ : Shared) : Prop := UnrPost h₀ L s₁ I it rest Q f s₂
theorem turn_mono {L : Addr} {s₁ : Shared} {I : Addr} {it : Obj} {rest rest' : (Str → Option Value) → List (Addr × Obj) → Prop} {f : Flow} {s₂ : Shared} (hr : ∀ m n, rest m n → rest' m n) (h : Turn h₀ L s₁ I it rest Q f s₂) : UnrPost h₀ L s₁ I it rest' Q f s₂ := by
  have key : UnrEnd h₀ L s₁ I it rest s₂ → UnrEnd h₀ L s₁ I it rest' s₂ := by
    rintro ⟨h', tk, m', news', a, b, c, d, r⟩
    exact ⟨h', tk, m', news', a, b, c, d, hr _ _ r⟩
  cases f with
  | ret v => exact h
  | brk => exact h
  | next => exact key h
  | cont => exact key h
/-- a for over a range from nought, by ones, by an invariant of the frame and the ledger -/
theorem range_loop {r : Addr} {b₀ : Int} {t₀ u₀ v₀ : Tok} {n : Nat} {m₀ : Str → Option Value} {news : List (Addr × Obj)} (Inv : Nat → (Str → Option Value) → List (Addr × Obj) → Prop)
    (hh : A.handled = none) (hr : IsRange s.heap r 0 b₀ 1 t₀ u₀ v₀) (hsmall : Builtin.Range.small 0 b₀ 1 = true) (hn : Builtin.Range.rangeSize 0 b₀ 1 = (n : Int)) (F : Fr h₀ env.locals s.heap m₀) (N : News h₀ env.locals s.heap news)
    (h0 : Inv 0 m₀ news)
    (step : ∀ (I : Addr) (i : Nat) (m : Str → Option Value) (nw : List (Addr × Obj)) (t : Tok) (h : Heap) (tk : Nat), i < n → Inv i m nw → (∀ p ∈ news, p.1 < I) → Fr h₀ env.locals h (fun y => if y = x then some (.int (0 + (i : Int)) t) else m y) →
      News h₀ env.locals h ((I, itR (0 + ((i + 1 : Nat) : Int)) ((n : Int) - ((i + 1 : Nat) : Int))) :: nw) →
      wpAny (model prog w) A (execs body env) (Turn h₀ env.locals { s with heap := h, toks := tk } I (itR (0 + ((i + 1 : Nat) : Int)) ((n : Int) - ((i + 1 : Nat) : Int))) (Inv (i + 1)) Q) E { s with heap := h, toks := tk })
    (fin : ∀ m nw h tk, Inv n m nw → Fr h₀ env.locals h m → News h₀ env.locals h nw → Q .next { s with heap := h, toks := tk }) :
    wpAny (model prog w) A (pyIter (.ref r)) (fun it s₂ => LoopAtV prog w A h₀ env x body Q E it s₂) E s := by
  refine iter_rangeUnr hh hr hsmall hn F N fun I hI => ?_
  have key : ∀ k i m nw, i + k = n → Inv i m nw → RangeRest prog w A E h₀ env x body Q s I 0 n k i m nw := by
    intro k
    induction k with
    | zero => intro i m nw e hi; obtain rfl : i = n := by omega
              exact RangeRest.zero fun h tk F' N' => fin m nw h tk hi F' N'
    | succ k ih =>
      intro i m nw e hi
      refine RangeRest.succ fun t h tk F' N' => ?_
      exact wpAny_mono (step I i m nw t h tk (by omega) hi hI F' N') (fun f s₂ hf => turn_mono (fun m' n' hr' => ih (i + 1) m' n' (by omega) hr') hf) fun _ _ e => e
  exact key n 0 m₀ news (by omega) h0
end
theorem range_size (n : Nat) : Builtin.Range.rangeSize 0 (n : Int) 1 = (n : Int) := by
  unfold Builtin.Range.rangeSize
  rw [if_pos (by decide)]
  split <;> omega

/-- the sum of the first k costs; the table's entry -/
def csum (c : Nat → Int) : Nat → Int
  | 0 => 0
  | k + 1 => csum c k + c k
def dpD (c : Nat → Int) (i j : Nat) : Int := if i ≤ j then 2 * ((j : Int) - i) + csum c i else 2 * ((i : Int) - j) + csum c j
def dpR (c : Nat → Int) (i j : Nat) : Int := if j = 0 then 2 * (i : Int) else dpD c (i + 1) j
theorem csum_le {c : Nat → Int} (h : ∀ k, 0 ≤ c k ∧ c k ≤ 1) : ∀ k, 0 ≤ csum c k ∧ csum c k ≤ k
  | 0 => by simp [csum]
  | k + 1 => by have := csum_le h k; have := h k; simp only [csum]; omega
theorem dp_step {c : Nat → Int} (h : ∀ k, 0 ≤ c k ∧ c k ≤ 1) (i j : Nat) : min (min (dpR c i j) (dpD c i (j + 1)) + 2) (dpD c i j + (if i = j then c i else 2)) = dpD c (i + 1) (j + 1) := by
  have hi := h i
  have hj := h j
  have a1 := csum_le h i
  have a2 := csum_le h j
  have e1 : csum c (i + 1) = csum c i + c i := rfl
  have e2 : csum c (j + 1) = csum c j + c j := rfl
  unfold dpR dpD
  rcases Nat.lt_trichotomy i j with hlt | heq | hgt
  · rw [if_neg (by omega : ¬ j = 0), if_pos (by omega : i + 1 ≤ j), if_pos (by omega : i ≤ j + 1), if_pos (by omega : i ≤ j), if_neg (by omega : ¬ i = j), if_pos (by omega : i + 1 ≤ j + 1)]
    omega
  · subst heq
    rw [if_pos (by omega : i ≤ i + 1), if_pos (by omega : i ≤ i), if_pos rfl, if_pos (by omega : i + 1 ≤ i + 1), if_neg (by omega : ¬ i + 1 ≤ i)]
    split
    · subst_vars; simp only [csum] at *; omega
    · omega
  · rw [if_neg (by omega : ¬ i + 1 ≤ j), if_neg (by omega : ¬ i ≤ j), if_neg (by omega : ¬ i = j), if_neg (by omega : ¬ i + 1 ≤ j + 1)]
    by_cases he : i = j + 1
    · subst he
      rw [if_pos (by omega : j + 1 ≤ j + 1)]
      split <;> omega
    · rw [if_neg (by omega : ¬ i ≤ j + 1)]
      split <;> omega
/-- the row while the outer turn is i and the inner j -/
def dpRow (c : Nat → Int) (n i j : Nat) : List Int := (List.range n).map fun k => if k < j then dpD c (i + 1) (k + 1) else dpD c i (k + 1)
theorem dpRow_length (c : Nat → Int) (n i j : Nat) : (dpRow c n i j).length = n := by simp [dpRow]
theorem dpRow_get {c : Nat → Int} {n i j k : Nat} (h : k < n) : (dpRow c n i j).getD k 0 = if k < j then dpD c (i + 1) (k + 1) else dpD c i (k + 1) := by simp [dpRow, h]
theorem dpRow_set {c : Nat → Int} {n i j : Nat} (h : j < n) : (dpRow c n i j).set j (dpD c (i + 1) (j + 1)) = dpRow c n i (j + 1) := by
  apply List.ext_getElem
  · simp [dpRow]
  · intro k h1 h2
    simp [dpRow] at h1 ⊢
    rw [List.getElem_set]
    simp
    by_cases e : j = k
    · subst e; simp
    · simp [e]
      by_cases hk : k < j
      · simp [hk, show k < j + 1 by omega]
      · simp [hk, show ¬ k < j + 1 by omega]
theorem dpRow_next {c : Nat → Int} {n i : Nat} : dpRow c n i n = dpRow c n (i + 1) 0 := by
  apply List.ext_getElem
  · simp [dpRow]
  · intro k h1 h2
    simp [dpRow] at h1 ⊢
    intro h
    omega
end Mine
namespace Mine
theorem halt_it {M : Model} {A : Around} {E : Value → Shared → Prop} {s : Shared} {v : Value} {Q : Value → Shared → Prop} (h : Halt (wpAny M A (pyIter v) Q E s)) : wpAny M A (pyIter v) Q E s := h
theorem len_sl {prog : Program} {w : World} {A : Around} {E : Value → Shared → Prop} {s : Shared} {Q : Value → Shared → Prop} {xs : List Nat} {t : Tok} (hn : xs.length ≤ 4) (h : Q (.int (xs.length : Int) (s.toks + 1)) { s with toks := s.toks + 1 + 1 }) :
    wpAny (model prog w) A (call (.builtin "len") [.str (sl xs) t]) Q E s :=
  PySem.P.len_str (by rw [sl_length]; omega) (by rw [sl_length]; exact h)
local macro_rules | `(tactic| walk_at "pyIter ref") => `(tactic| (refine halt_it ?_))
local macro_rules | `(tactic| walk_at "call builtin:len") => `(tactic| ((with_reducible show wpAny _ _ (call _ [Value.str (sl _) _]) _ _ _); refine len_sl (by assumption) ?_; (try dsimp only)))
local macro_rules | `(tactic| walk_at "exec For Name Call cons nil") => `(tactic| (k_here; (rename Fr _ _ _ _ => lF'); (with_unfolding_all refine' For_invVF lF' ?k1 ?k2 ?_; (case k1 => exact rfl); (case k2 => exact rfl); k_whole)))
local macro_rules | `(tactic| walk_at "subscriptTail Name Name str int") => `(tactic| (k_here; (with_reducible show wpAny _ _ (subscriptTail _ _ (Value.str (sl _) _) (Value.int _ _)) _ _ _); refine sign_at (by first | assumption | omega) (by assumption) ?_; (try dsimp only)))
local macro_rules | `(tactic| walk_at "eval Name") => `(tactic| (k_here; k_dflt (refine' ld ?k1 ?k2 ?_; (case k1 => k_asm); (case k2 => assumption); k_whole)))
local macro_rules | `(tactic| walk_at "loadName") => `(tactic| (k_here; k_dflt (refine' ldn ?k1 ?k2 ?_; (case k1 => k_asm); (case k2 => assumption); k_whole)))
local macro_rules | `(tactic| walk_at "call ref") => `(tactic| (k_here; (with_reducible show wpAny _ _ (call (Value.ref 21) _) _ _ _); refine sub_spec (cl := []) ⟨by k_asm, by k_asm, by k_asm, by k_asm, rfl, by omega, by omega⟩ (by k_asm) (sl_length _) (sl_length _) ?_; intro _ _ _ _ _; (try dsimp only)))
theorem dpD_zero (c : Nat → Int) (i : Nat) : dpD c i 0 = (i : Int) * 2 := by
  unfold dpD
  cases i with
  | zero => simp [csum]
  | succ k => rw [if_neg (by omega)]; simp only [csum]; omega
theorem dpR_zero (c : Nat → Int) (i : Nat) : dpR c i 0 = (i : Int) * 2 := by unfold dpR; rw [if_pos rfl]; omega
section
variable {prog : Program} {w : World} {A : Around} {E : Value → Shared → Prop} {s : Shared} {h₀ : Heap} {L D : Addr} {m : Str → Option Value} {news news' : List (Addr × Obj)} {its : List Value} {c : Nat → Int} {N i j n : Nat} {u : Tok}
theorem row_read {value slice : PySem.Expr} {Q : Value → Shared → Prop} (hN : News h₀ L s.heap news) (hm : (D, listOf its.toArray n) ∈ news) (hi : IntsAre its (dpRow c N i j)) (hj : j < N) (h4 : N ≤ 4) (h : ∀ t, Q (.int (dpD c i (j + 1)) t) s)
    (hs : subscripted slice false (.ref D) (.int (j : Int) u) = operate [.ref D, .int (j : Int) u] (getItem (.ref D) (.int (j : Int) u)) := by with_unfolding_all rfl) :
    wpAny (model prog w) A (subscriptTail value slice (.ref D) (.int (j : Int) u)) Q E s :=
  ksa_sub hN hm hi (by omega) (by rw [dpRow_length]; omega) (by omega) (fun t => by rw [Int.toNat_natCast, dpRow_get hj, if_neg (by omega)]; exact h t) hs
theorem row_write {x : Int} {t : Tok} {Q : Unit → Shared → Prop} (hF : Fr h₀ L s.heap m) (hN : News h₀ L s.heap news) (U : Upd D (listOf its.toArray n) (listOf (its.set j (.int x u)).toArray n) news news') (hi : IntsAre its (dpRow c N i j)) (hx : x = dpD c (i + 1) (j + 1)) (hj : j < N) (h4 : N ≤ 4)
    (h : ∀ h', Fr h₀ L h' m → News h₀ L h' news' → IntsAre (its.set j (.int x u)) (dpRow c N i (j + 1)) → Q () { s with heap := h' }) :
    wpAny (model prog w) A (setItem (.ref D) (.int (j : Int) t) (.int x u)) Q E s := by
  subst hx
  refine ksa_set (k := (j : Int)) hF hN U hi (by omega) (by rw [dpRow_length]; omega) (by omega) fun h' F' N' hi' _ _ => h h' F' N' ?_
  rw [Int.toNat_natCast, dpRow_set hj] at hi'
  exact hi'
end
theorem range_small : ∀ {n : Nat}, n ≤ 4 → Builtin.Range.small 0 (n : Int) 1 = true
  | 0, _ => by decide
  | 1, _ => by decide
  | 2, _ => by decide
  | 3, _ => by decide
  | 4, _ => by decide
  | n + 5, h => absurd h (by omega)
theorem dpD_self (c : Nat → Int) (n : Nat) : dpD c n n = csum c n := by unfold dpD; rw [if_pos (Nat.le_refl n)]; omega
local macro_rules | `(tactic| walk_at "subscriptTail Name Name ref int") => `(tactic| (k_here; (with_reducible show wpAny _ _ (subscriptTail _ _ (Value.ref _) (Value.int _ _)) _ _ _); refine row_read (by k_asm) (by k_mem) (by assumption) (by omega) (by omega) ?_; intro _; (try dsimp only)))
local macro_rules | `(tactic| walk_at "setItem ref int") => `(tactic| (k_here; (with_reducible show wpAny _ _ (setItem (Value.ref _) (Value.int _ _) (Value.int _ _)) _ _ _); refine row_write (by k_asm) (by k_asm) (by k_upd) (by assumption) (by assumption) (by omega) (by omega) ?_; intro _ _ _ _; (try dsimp only)))
/-- what holds between the outer turns -/
inductive DpOut (r : Addr) (c : Nat → Int) (us vs : List Nat) (ta tb tc : Tok) (i : Nat) (m' : Str → Option Value) (nw : List (Addr × Obj)) : Prop
  | mk (its' : List Value) (n1 : Nat) (h1 : nw = [(r, listOf (List.toArray its') n1)]) (h2 : IntsAre its' (dpRow c vs.length i 0)) (h3 : m' (Str.ofString "a") = some (.str (sl us) ta)) (h4 : m' (Str.ofString "b") = some (.str (sl vs) tb)) (h5 : m' (Str.ofString "max_cost") = some (.int 4 tc)) (h6 : m' (Str.ofString "row") = some (.ref r)) (h7 : i ≠ 0 → ∃ tr, m' (Str.ofString "result") = some (.int (dpD c i vs.length) tr)) : DpOut r c us vs ta tb tc i m' nw
/-- .. and between the inner -/
inductive DpIn (r : Addr) (c : Nat → Int) (us vs : List Nat) (ta tb tc : Tok) (I : Addr) (i : Nat) (j : Nat) (m2 : Str → Option Value) (nw : List (Addr × Obj)) : Prop
  | mk (its2 : List Value) (n2 : Nat) (td tr tm : Tok) (mn : Int) (tch : Tok) (h1 : nw = [(I, itR (0 + ((i + 1 : Nat) : Int)) ((vs.length : Int) - ((i + 1 : Nat) : Int))), (r, listOf (List.toArray its2) n2)]) (h2 : IntsAre its2 (dpRow c vs.length i j)) (h3 : m2 (Str.ofString "a") = some (.str (sl us) ta)) (h4 : m2 (Str.ofString "b") = some (.str (sl vs) tb)) (h5 : m2 (Str.ofString "max_cost") = some (.int 4 tc)) (h6 : m2 (Str.ofString "row") = some (.ref r)) (h7 : m2 (Str.ofString "bchar") = some (.str (sl [vs.getD i 0]) tch)) (h8 : m2 (Str.ofString "distance") = some (.int (dpD c i j) td)) (h9 : m2 (Str.ofString "result") = some (.int (dpR c i j) tr)) (h10 : m2 (Str.ofString "minimum") = some (.int mn tm)) (h11 : i < j → mn ≤ csum c (i + 1)) : DpIn r c us vs ta tb tc I i j m2 nw
theorem dp_loop {w : World} {mean : ExcName → Option Value} {mg mb : Str → Option Value} {dp un : Nat} {outer : List Env} {A₀ : Around} {base g : Heap} {L : Addr} {m : Str → Option Value} {s : Shared} {gd : Option (List Code)} {us vs : List Nat} {ta tb tc : Tok} {r : Addr} {its : List Value} {n0 n : Nat} {c : Nat → Int} {Q : Flow → Shared → Prop}
    (C : Cx w mean mg mb dp un (defScope (topStmt 5)) outer A₀ base g L m s) (N : News g L s.heap [(r, listOf its.toArray n0)]) (hI : IntsAre its (dpRow c n 0 0))
    (ma : m (Str.ofString "a") = some (.str (sl us) ta)) (mb' : m (Str.ofString "b") = some (.str (sl vs) tb)) (mc : m (Str.ofString "max_cost") = some (.int 4 tc)) (mr : m (Str.ofString "row") = some (.ref r))
    (hu : us.length = n) (hv : vs.length = n) (hn4 : n ≤ 4) (hn0 : 0 < n) (hc : ∀ k, 0 ≤ c k ∧ c k ≤ 1) (hcost : ∀ i j, i < n → j < n → subCost (sl [vs.getD i 0]) (sl [us.getD j 0]) = if i = j then c i else 2)
    (hQ : ∀ h' tk' m' t', Fr g L h' m' → m' (Str.ofString "result") = some (.int (csum c n) t') → Q .next { s with heap := h', toks := tk' }) :
    wpAny (model (RowW.prog (OpenRow.toRowW (OpenLaw.row PySem.Challenge.rw_qu0034_01))) w) (ktrTop dp un gd (Str.ofString "_levenshtein_distance") (defScope (topStmt 5)) L 28 (.ref 27) [] outer) (exec (stmtOf 5 15) (envOf (Str.ofString "_levenshtein_distance") (defScope (topStmt 5)) L 28 (.ref 27))) Q (fun _ _ => False) s := by
  have hu4 : us.length ≤ 4 := by omega
  have hv4 : vs.length ≤ 4 := by omega
  obtain ⟨B, F, X, T, hk, hd, hun⟩ := C
  revert X
  k_fill
  intro X
  clear hk
  conv in (occs := *) stmtOf 5 15 => all_goals whnf
  conv in (occs := *) defScope (topStmt 5) => all_goals whnf
  k_steps
  subst hv
  show wpAny _ _ _ _ _ _
  refine range_loop (n := vs.length) (DpOut r c us vs ta tb tc)
    rfl (by assumption) (range_small hn4) (range_size _) (by k_asm) (by k_asm) ⟨_, _, rfl, hI, ma, mb', mc, mr, fun h => absurd rfl h⟩ ?step ?fin
  case fin =>
    intro m' nw h tk hInv F' N'
    obtain ⟨its', n1, rfl, hI', ma', mb2, mc', mr', hres⟩ := hInv
    obtain ⟨tr, hres⟩ := hres (by omega)
    exact hQ h tk m' tr F' (by rw [← dpD_self]; exact hres)
  case step =>
    (repeat ((rename Fr _ _ _ _ => Fo); clear Fo))
    (repeat ((rename News _ _ _ _ => No); clear No))
    clear ma mb' mc mr hI hQ
    intro I i m' nw t h tk hi hInv hlt F' N'
    obtain ⟨its', n1, rfl, hI', ma, mb', mc, mr, hres⟩ := hInv
    clear hres
    rw [Int.zero_add] at F'
    have hIr := ltN (hlt _ (.head _))
    (try dsimp only)
    (try k_fold)
    k_steps
    show wpAny _ _ _ _ _ _
    refine range_loop (n := us.length) (DpIn r c us vs ta tb tc I i)
      rfl (by assumption) (range_small hu4) (range_size _) (by k_asm) (by k_asm) ⟨_, _, _, _, _, _, _, rfl, hI', by assumption, by assumption, by assumption, by assumption, rfl, (by rw [dpD_zero]; rfl), (by rw [dpR_zero]; rfl), rfl, fun h => absurd h (by omega)⟩ ?step2 ?fin2
    case fin2 =>
      (repeat ((rename Fr _ _ _ _ => Fo); clear Fo))
      (repeat ((rename News _ _ _ _ => No); clear No))
      clear ma mb' mc mr hI'
      intro m2 nw h2 tk2 hInv F2 N2
      obtain ⟨its2, n2, td, tr, tm, mn, tch, rfl, hI2, ma, mb', mc, mr, mch, md, mres, mmin, hmn⟩ := hInv
      have hmn := hmn (by omega)
      have hcs := csum_le hc (i + 1)
      have hres2 : dpR c i us.length = dpD c (i + 1) vs.length := by unfold dpR; rw [if_neg (by omega), hu]
      rw [hres2] at mres
      rw [hu, dpRow_next] at hI2
      (try dsimp only)
      k_steps
      · show UnrEnd _ _ _ _ _ _ _
        exact ⟨_, _, _, [(r, _)], rfl, (by k_asm), (by k_asm), (by k_all), _, _, rfl, (by assumption), (by assumption), (by assumption), (by assumption), (by assumption), fun _ => ⟨_, by assumption⟩⟩
    case step2 =>
      (repeat ((rename Fr _ _ _ _ => Fo); clear Fo))
      (repeat ((rename News _ _ _ _ => No); clear No))
      clear ma mb' mc mr hI'
      intro J j m2 nw t2 h2 tk2 hj hInv hlt2 F2 N2
      obtain ⟨its2, n2, td, tr, tm, mn, tch, rfl, hI2, ma, mb', mc, mr, mch, md, mres, mmin, hmn⟩ := hInv
      rw [Int.zero_add] at F2
      have hJ1 := ltN (hlt2 _ (.head _))
      have hJ2 := ltN (hlt2 _ (.tail _ (.head _)))
      have hval : (if dpD c i j + subCost (sl [vs.getD i 0]) (sl [us.getD j 0]) < (if dpD c i (j + 1) < dpR c i j then dpD c i (j + 1) else dpR c i j) + 2 then dpD c i j + subCost (sl [vs.getD i 0]) (sl [us.getD j 0]) else (if dpD c i (j + 1) < dpR c i j then dpD c i (j + 1) else dpR c i j) + 2) = dpD c (i + 1) (j + 1) := by
        rw [hcost i j hi (by omega)]
        have e := dp_step hc i j
        generalize (if i = j then c i else 2) = κ at e ⊢
        rw [← e]
        split <;> split <;> omega
      have hdiag : i = j → dpD c (i + 1) (j + 1) = csum c (i + 1) := fun e => by subst e; exact dpD_self c (i + 1)
      have hres2 : dpR c i (j + 1) = dpD c (i + 1) (j + 1) := by unfold dpR; rw [if_neg (by omega)]
      (try dsimp only)
      (try k_fold)
      k_steps
      · have hA : dpD c (i + 1) (j + 1) < mn := by rw [← hval]; assumption
        show UnrEnd _ _ _ _ _ _ _
        refine ⟨_, _, _, [(I, _), (r, _)], rfl, (by k_asm), (by k_asm), (by k_all), _, _, _, _, _, _, _, rfl, (by assumption), (by assumption), (by assumption), (by assumption), (by assumption), (by assumption), rfl, (by rw [hres2, ← hval]; rfl), rfl, fun h => ?_⟩
        rw [hval]
        by_cases e : i = j
        · rw [hdiag e]; exact Int.le_refl _
        · have := hmn (by omega); omega
      · have hB : ¬ dpD c (i + 1) (j + 1) < mn := by rw [← hval]; assumption
        show UnrEnd _ _ _ _ _ _ _
        refine ⟨_, _, _, [(I, _), (r, _)], rfl, (by k_asm), (by k_asm), (by k_all), _, _, _, _, _, _, _, rfl, (by assumption), (by assumption), (by assumption), (by assumption), (by assumption), (by assumption), rfl, (by rw [hres2, ← hval]; rfl), (by assumption), fun h => ?_⟩
        by_cases e : i = j
        · rw [← hdiag e]; omega
        · exact hmn (by omega)
end Mine
namespace Mine
theorem halt_call {M : Model} {A : Around} {E : Value → Shared → Prop} {s : Shared} {f : Value} {vs : List Value} {Q : Value → Shared → Prop} (h : Halt (wpAny M A (call f vs) Q E s)) : wpAny M A (call f vs) Q E s := h
section
variable {prog : Program} {w : World} {A : Around} {E : Value → Shared → Prop} {s : Shared} {env : Env} {h₀ : Heap} {x : Str} {body : List Stmt} {Q : Flow → Shared → Prop}
/-- a for over a list of ints of the ledger, by an invariant over what is taken -/
theorem list_loop {ax : Addr} {lo : Obj} {vs : List Value} {ns : List Int} {n : Nat} {m₀ : Str → Option Value} {news : List (Addr × Obj)} (Inv : List Int → (Str → Option Value) → List (Addr × Obj) → Prop)
    (hh : A.handled = none) (F : Fr h₀ env.locals s.heap m₀) (N : News h₀ env.locals s.heap news) (hm : (ax, lo) ∈ news) (hc : lo.cls = .type "list") (hd : lo.data = .seq vs.toArray n) (hI : IntsAre vs ns)
    (h0 : Inv [] m₀ news)
    (step : ∀ (I : Addr) (pre : List Int) (d : Int) (r : List Int) (m : Str → Option Value) (nw : List (Addr × Obj)) (it : Obj) (t : Tok) (h : Heap) (tk : Nat), ns = pre ++ d :: r → Inv pre m nw → (∀ p ∈ news, p.1 < I) → it.cls = .type "list_iterator" → Fr h₀ env.locals h (fun y => if y = x then some (.int d t) else m y) →
      News h₀ env.locals h ((I, it) :: nw) →
      wpAny (model prog w) A (execs body env) (Turn h₀ env.locals { s with heap := h, toks := tk } I it (fun m' n' => (ax, lo) ∈ n' ∧ Inv (pre ++ [d]) m' n') Q) E { s with heap := h, toks := tk })
    (fin : ∀ m nw h tk, Inv ns m nw → Fr h₀ env.locals h m → News h₀ env.locals h nw → Q .next { s with heap := h, toks := tk }) :
    wpAny (model prog w) A (pyIter (.ref ax)) (fun it s₂ => LoopAtV prog w A h₀ env x body Q E it s₂) E s := by
  refine iter_listUnr hh F N hm hc hd fun I hlt => ?_
  have key : ∀ (rv : List Value) (rn : List Int) (pre : List Int) (m : Str → Option Value) (nw : List (Addr × Obj)), IntsAre rv rn → ns = pre ++ rn → Inv pre m nw → ListRest prog w A E h₀ env x body Q s I (ax, lo) rv m nw := by
    intro rv
    induction rv with
    | nil =>
      intro rn pre m nw hi e hv
      cases hi
      rw [List.append_nil] at e
      subst e
      exact ListRest.zero fun h tk F' N' => fin m nw h tk hv F' N'
    | cons v rv ih =>
      intro rn pre m nw hi e hv
      cases hi with
      | cons d t hi =>
        rename_i rn
        refine ListRest.succ fun it h tk hcl F' N' => ?_
        exact wpAny_mono (step I pre d rn m nw it t h tk e hv hlt hcl F' N') (fun f s₂ hf => turn_mono (fun m' n' hr => ⟨hr.1, ih rn (pre ++ [d]) m' n' hi (by rw [e, List.append_assoc]; rfl) hr.2⟩) hf) fun _ _ e => e
  exact key vs ns [] m₀ news hI rfl h0
end
/-- one turn of the two heaps -/
def turnF (st : List Int × List Int) (h : Int) : List Int × List Int :=
  let ls := ppL st.1 (-h)
  let gr := pushF st.2 (-(ppV st.1 (-h)))
  if ls.length < gr.length then (pushF ls (-(gr.headD 0)), popF gr) else (ls, gr)
theorem pushF_length : ∀ (l : List Int) (v : Int), l.length ≤ 2 → (pushF l v).length = l.length + 1
  | [], _, _ => rfl
  | [a], v, _ => by simp only [pushF]; split <;> rfl
  | [a, b], v, _ => by simp only [pushF]; split <;> rfl
  | _ :: _ :: _ :: _, _, h => absurd h (by simp only [List.length_cons]; omega)
theorem ppL_length : ∀ (l : List Int) (v : Int), (ppL l v).length = l.length
  | [], _ => rfl
  | [a], v => by simp only [ppL]; split <;> rfl
  | [a, b], v => by simp only [ppL]; split <;> (try split) <;> rfl
  | [a, b, c], v => by simp only [ppL]; split <;> (try split) <;> (try split) <;> rfl
  | _ :: _ :: _ :: _ :: _, _ => rfl
theorem popF_length : ∀ (l : List Int), l.length ≤ 3 → (popF l).length = l.length - 1
  | [], _ => rfl
  | [a], _ => rfl
  | [a, b], _ => rfl
  | [a, b, c], _ => by simp only [popF]; split <;> rfl
  | _ :: _ :: _ :: _ :: _, h => absurd h (by simp only [List.length_cons]; omega)
end Mine
namespace Mine
theorem halt_while {prog : Program} {w : World} {A : Around} {E : Value → Shared → Prop} {s : Shared} {env : Env} {test : PySem.Expr} {body orelse : List Stmt} {Q : Flow → Shared → Prop} {pos : Pos} (h : Halt (WhlRest prog w A E env test body orelse Q 7 s)) :
    wpAny (model prog w) A (exec (.While test body orelse pos) env) Q E s := whl_start 7 h
local macro_rules | `(tactic| walk_at "exec While BoolOp") => `(tactic| (k_here; refine halt_while ?_))
local macro_rules | `(tactic| walk_at "WhlIf") => `(tactic| (first | refine WhlIf.yes rfl ?_ | refine WhlIf.no rfl ?_ | (refine WhlIf.both ?_ ?_ <;> intro _)))
local macro_rules | `(tactic| walk_at "subscriptTail") => `(tactic| (k_here; (with_reducible show wpAny _ _ (subscriptTail _ (Expr.Slice (some _) none none _) (Value.str (sl _) _) (Value.ref _)) _ _ _); (with_reducible rename Fr _ _ _ _ => F'); (with_reducible rename News _ _ _ _ => N'); refine cut_from (s := ⟨_, _, _, _, _⟩) (by assumption) F' N' ?_; intro _ _ _ _ _; (try dsimp only)))
local macro_rules | `(tactic| walk_at "subscriptTail Name Name str int") => `(tactic| (k_here; (with_reducible show wpAny _ _ (subscriptTail _ _ (Value.str (sl _) _) (Value.int _ _)) _ _ _); refine sign_at (by first | assumption | omega) (by assumption) ?_; (try dsimp only)))
local macro_rules | `(tactic| walk_at "subscriptTail") => `(tactic| (k_here; (with_reducible show wpAny _ _ (subscriptTail _ (Expr.Slice none (some _) none _) (Value.str (sl _) _) (Value.ref _)) _ _ _); (with_reducible rename Fr _ _ _ _ => F'); (with_reducible rename News _ _ _ _ => N'); (first | refine cut_all (s := ⟨_, _, _, _, _⟩) (by assumption) F' N' ?_ | refine cut_upto (s := ⟨_, _, _, _, _⟩) (by assumption) (by assumption) (by omega) (by assumption) F' N' ?_); intro _ _ _ _ _; (try dsimp only)))
local macro_rules | `(tactic| walk_at "subscriptTail Name BinOp str int") => `(tactic| (k_here; (with_reducible show wpAny _ _ (subscriptTail _ _ (Value.str (sl _) _) (Value.int _ _)) _ _ _); refine sign_neg (by assumption) (by first | assumption | omega) (by assumption) ?_; (try dsimp only)))
local macro_rules | `(tactic| walk_at "truthy int") => `(tactic| (refine truthy_nz (by assumption) ?_; (try dsimp only)))
local macro_rules | `(tactic| walk_at "eval Name") => `(tactic| (k_here; k_dflt (refine' ld ?k1 ?k2 ?_; (case k1 => k_asm); (case k2 => assumption); k_whole)))
local macro_rules | `(tactic| walk_at "loadName") => `(tactic| (k_here; k_dflt (refine' ldn ?k1 ?k2 ?_; (case k1 => k_asm); (case k2 => assumption); k_whole)))
local macro_rules | `(tactic| walk_at "truthy str") => `(tactic| (first
  | (refine truthy_drop (by assumption) ?_ ?_ <;> intro _ <;> (try dsimp only))
  | (refine truthy_take (by assumption) (by omega) ?_ ?_ <;> intro _ <;> (try dsimp only))
  | (refine truthy_sl (by assumption) ?_ ?_ <;> intro _ <;> (try dsimp only))))
theorem take_succ_eq {xs ys : List Nat} {p : Nat} (hx : p < xs.length) (hy : p < ys.length) (h : xs.take p = ys.take p) (e : (sl [xs.getD p 0] == sl [ys.getD p 0]) = true) : xs.take (p + 1) = ys.take (p + 1) := by
  rw [sl_beq] at e
  have e := of_decide_eq_true e
  simp [hx, hy] at e
  rw [List.take_succ, List.take_succ, h]
  simp [hx, hy, e]
local macro_rules | `(tactic| walk_at "call builtin:len") => `(tactic| ((with_reducible show wpAny _ _ (call _ [Value.str (sl _) _]) _ _ _); refine len_sl (by assumption) ?_; (try dsimp only)))
theorem dpRow_init (c : Nat → Int) (n : Nat) : dpRow c n 0 0 = (List.range n).map (fun (k : Nat) => 2 * (k : Int) + 2) := by
  unfold dpRow
  apply List.map_congr_left
  intro k _
  rw [if_neg (by omega)]
  unfold dpD
  rw [if_pos (by omega)]
  simp only [csum]
  omega
theorem small_two : ∀ {n : Nat}, n ≤ 4 → Builtin.Range.small 2 (2 * ((n : Int) + 1)) 2 = true
  | 0, _ => by decide
  | 1, _ => by decide
  | 2, _ => by decide
  | 3, _ => by decide
  | 4, _ => by decide
  | n + 5, h => absurd h (by omega)
theorem size_two (n : Nat) : Builtin.Range.rangeSize 2 (2 * ((n : Int) + 1)) 2 = (n : Int) := by
  unfold Builtin.Range.rangeSize
  rw [if_pos (by decide)]
  split <;> omega
theorem row_init {prog : Program} {w : World} {A : Around} {E : Value → Shared → Prop} {s : Shared} {h₀ : Heap} {L : Addr} {m : Str → Option Value} {Q : Value → Shared → Prop} {r : Addr} {t u v : Tok} {n : Nat} {news : List (Addr × Obj)} (hh : A.handled = none) (F : Fr h₀ L s.heap m) (N : News h₀ L s.heap news)
    (hr : IsRange s.heap r 2 (2 * ((n : Int) + 1)) 2 t u v) (h4 : n ≤ 4)
    (hQ : ∀ q h' tk (its : List Value) n0, Fr h₀ L h' m → News h₀ L h' ((q, listOf its.toArray n0) :: news) → (∀ c, IntsAre its (dpRow c n 0 0)) → Q (.ref q) { s with heap := h', toks := tk }) :
    wpAny (model prog w) A (call (.type "list") [.ref r]) Q E s := by
  refine list_rangeD hh F N hr (small_two h4) (size_two n) (by omega) fun h' tk ys F' N' hk hnew _ hpl hcar => ?_
  obtain ⟨⟨c', hget⟩, hne⟩ := hpl
  refine hQ _ h' tk ys c' F' (fun p hp => ?_) fun c => ?_
  · rcases List.mem_cons.mp hp with rfl | hp
    · obtain ⟨oL, _, _, hL, _⟩ := F.ns
      exact ⟨hget, Nat.ne_of_gt (Heap.lt_size hL), hnew⟩
    · exact N' p hp
  · have e : rangeInts 2 2 n = dpRow c n 0 0 := by
      rw [dpRow_init]
      apply List.ext_getElem?
      intro k
      by_cases hk' : k < n
      · rw [rangeInts_get hk']; simp [hk']; omega
      · rw [List.getElem?_eq_none (by rw [rangeInts_length]; omega), List.getElem?_eq_none (by simp; omega)]
    rw [← e]
    exact IntsAre.ofCarried hcar
local macro_rules | `(tactic| walk_at "call type:list") => `(tactic| ((with_reducible show wpAny _ _ (call (Value.type _) [Value.ref _]) _ _ _); refine row_init rfl (by k_asm) (by k_asm) (by assumption) (by assumption) ?_; intro _ _ _ _ _ _ _ _; (try dsimp only)))
theorem halt_exec {M : Model} {A : Around} {E : Value → Shared → Prop} {s : Shared} {st : Stmt} {env : Env} {Q : Flow → Shared → Prop} (h : Halt (wpAny M A (exec st env) Q E s)) : wpAny M A (exec st env) Q E s := h
local macro_rules | `(tactic| walk_at "exec For Name Call cons nil") => `(tactic| (refine halt_exec ?_))
theorem csum_zero {c : Nat → Int} : ∀ {n : Nat}, (∀ k, k < n → c k = 0) → csum c n = 0
  | 0, _ => rfl
  | n + 1, h => by simp only [csum]; rw [csum_zero fun k hk => h k (by omega), h n (by omega)]; rfl
theorem csum_add (c : Nat → Int) (p : Nat) : ∀ n, csum c (p + n) = csum c p + csum (fun k => c (p + k)) n
  | 0 => by simp [csum]
  | n + 1 => by
    have := csum_add c p n
    show csum c (p + n) + c (p + n) = _
    simp only [csum]
    omega
theorem subCost_self (x : Str) : subCost x x = 0 := by unfold subCost; rw [if_pos (by simp)]
theorem getD_of_take {xs ys : List Nat} {p k : Nat} (h : xs.take p = ys.take p) (hk : k < p) : xs.getD k 0 = ys.getD k 0 := by
  have e : (xs.take p)[k]? = (ys.take p)[k]? := by rw [h]
  rw [List.getElem?_take_of_lt hk, List.getElem?_take_of_lt hk] at e
  simp [e]
theorem getD_of_drop {xs ys : List Nat} {p k : Nat} (h : xs.drop p = ys.drop p) (hk : p ≤ k) : xs.getD k 0 = ys.getD k 0 := by
  have e : (xs.drop p)[k - p]? = (ys.drop p)[k - p]? := by rw [h]
  rw [List.getElem?_drop, List.getElem?_drop, show p + (k - p) = k by omega] at e
  simp [e]
theorem getD_drop (xs : List Nat) (p k : Nat) : (xs.drop p).getD k 0 = xs.getD (p + k) 0 := by simp
theorem getD_take (xs : List Nat) (n k : Nat) (h : k < n) : (xs.take n).getD k 0 = xs.getD k 0 := by simp [h]
/-- the costs that were cut off are nought -/
theorem csum_cut {xs ys : List Nat} {c : Nat → Int} {p n : Nat} (hcost : ∀ i j, i < xs.length → j < xs.length → subCost (sl [ys.getD i 0]) (sl [xs.getD j 0]) = if i = j then c i else 2)
    (hp : ∀ k, k < p → xs.getD k 0 = ys.getD k 0) (hq : ∀ k, p + n ≤ k → xs.getD k 0 = ys.getD k 0) (hn : p + n ≤ xs.length) : csum (fun k => c (p + k)) n = csum c xs.length := by
  have z : ∀ k, k < xs.length → xs.getD k 0 = ys.getD k 0 → c k = 0 := fun k hk e => by
    have := hcost k k hk hk
    rw [if_pos rfl, e, subCost_self] at this
    exact this.symm
  obtain ⟨q, hlen⟩ : ∃ q, xs.length = p + n + q := ⟨xs.length - (p + n), by omega⟩
  rw [hlen, csum_add, csum_add, csum_zero (n := p) fun k hk => z k (by omega) (hp k hk), csum_zero (n := q) fun k hk => z (p + n + k) (by omega) (hq _ (by omega))]
  omega
theorem drop_pred_eq {us vs : List Nat} {q : Nat} (hq : q < us.length) (hl : vs.length = us.length) (hsuf : us.drop (us.length - q) = vs.drop (us.length - q)) (e : (sl [us.getD (us.length - q - 1) 0] == sl [vs.getD (vs.length - q - 1) 0]) = true) : us.drop (us.length - (q + 1)) = vs.drop (us.length - (q + 1)) := by
  rw [sl_beq] at e
  have e := of_decide_eq_true e
  rw [hl] at e
  apply List.ext_getElem?
  intro k
  rw [List.getElem?_drop, List.getElem?_drop]
  rcases Nat.eq_zero_or_pos k with h0 | h0
  · subst h0
    have h1 : us.length - q - 1 < us.length := by omega
    have h2 : us.length - q - 1 < vs.length := by omega
    simp [h1, h2] at e
    rw [show us.length - (q + 1) + 0 = us.length - q - 1 by omega]
    simp [h1, h2, e]
  · have e2 : (us.drop (us.length - q))[k - 1]? = (vs.drop (us.length - q))[k - 1]? := by rw [hsuf]
    rw [List.getElem?_drop, List.getElem?_drop, show us.length - q + (k - 1) = us.length - (q + 1) + k by omega] at e2
    exact e2
theorem not_first {us vs : List Nat} {q : Nat} (hq : q < us.length) (hl : vs.length = us.length) (hfst : us.getD 0 0 ≠ vs.getD 0 0) (e : (sl [us.getD (us.length - q - 1) 0] == sl [vs.getD (vs.length - q - 1) 0]) = true) : q + 1 < us.length := by
  rw [sl_beq] at e
  have e := of_decide_eq_true e
  rw [hl] at e
  by_cases h : q + 1 = us.length
  · rw [show us.length - q - 1 = 0 by omega] at e
    exact absurd (List.cons.inj e).1 hfst
  · omega
/-- the state in the first loop -/
inductive LevPre (s : Shared) (g' : Heap) (L' : Addr) (xs ys : List Nat) (t1 t2 t3 : Tok) (p : Nat) (s' : Shared) : Prop
  | mk (h : Heap) (tk : Nat) (t : Tok) (m' : Str → Option Value) (h0 : s' = { s with heap := h, toks := tk }) (h1 : Fr g' L' h m') (h2 : News g' L' h []) (h3 : m' (Str.ofString "a") = some (.str (sl xs) t1)) (h4 : m' (Str.ofString "b") = some (.str (sl ys) t2)) (h5 : m' (Str.ofString "max_cost") = some (.int 4 t3)) (h6 : m' (Str.ofString "pre") = some (.int (p : Int) t)) (h7 : p ≤ xs.length) (h8 : xs.take p = ys.take p) : LevPre s g' L' xs ys t1 t2 t3 p s'
/-- .. in the second -/
inductive LevPost (s : Shared) (g' : Heap) (L' : Addr) (us vs : List Nat) (t3 : Tok) (q : Nat) (s' : Shared) : Prop
  | mk (h : Heap) (tk : Nat) (t : Tok) (m' : Str → Option Value) (ta tb : Tok) (j : Int) (h0 : s' = { s with heap := h, toks := tk }) (h1 : Fr g' L' h m') (h2 : News g' L' h []) (h3 : m' (Str.ofString "a") = some (.str (sl us) ta)) (h4 : m' (Str.ofString "b") = some (.str (sl vs) tb)) (h5 : m' (Str.ofString "max_cost") = some (.int 4 t3)) (h6 : m' (Str.ofString "post") = some (.int j t)) (h7 : j = -(q : Int)) (h8 : q < us.length) (h9 : us.drop (us.length - q) = vs.drop (us.length - q)) : LevPost s g' L' us vs t3 q s'
theorem lev_spec {w : World} {mean : ExcName → Option Value} {mg mb : Str → Option Value} {dp un : Nat} {cs : Scope} {outer : List Env} {A₀ : Around} {base h₀ : Heap} {L : Addr} {m : Str → Option Value} {s : Shared}
    {gd : Option (List Code)} {cn : Str} {a : Addr} {ccd : Value} {cl : List (Str × Addr)} {Q E : Value → Shared → Prop} {xs ys : List Nat} {t1 t2 t3 : Tok} {news : List (Addr × Obj)}
    (C : Cx w mean mg mb dp un cs outer A₀ base h₀ L m s) (hdeep : dp + 30 < recursionLimit) (hunits : un + 200 < cLine) (N : News h₀ L s.heap news) (hx4 : xs.length ≤ 4) (hy4 : ys.length ≤ 4) (hxy : xs.length = ys.length) (hne : xs ≠ ys) {c : Nat → Int} (hc : ∀ k, 0 ≤ c k ∧ c k ≤ 1) (hcost : ∀ i j, i < xs.length → j < xs.length → subCost (sl [ys.getD i 0]) (sl [xs.getD j 0]) = if i = j then c i else 2)
    (hQ : ∀ t' h' tk', Fr h₀ L h' m → News h₀ L h' news → Q (.int (csum c xs.length) t') { s with heap := h', toks := tk' }) :
    wpAny (model (RowW.prog (OpenRow.toRowW (OpenLaw.row PySem.Challenge.rw_qu0034_01))) w) (ktrTop dp un gd cn cs L a ccd cl outer) (call (.ref 28) [.str (sl xs) t1, .str (sl ys) t2, .int 4 t3]) Q E s := by
  have fin : ∀ v' as' s', IntEnd s (csum c xs.length) v' as' s' → (∀ b o, b ∉ ([] : List Addr) → s.heap.get? b = some o → s'.heap.get? b = some o) → (∀ q ∈ as', s'.heap.get? q.1 = some q.2 ∧ (q.1 ∈ ([] : List Addr) ∨ s.heap.get? q.1 = none)) → Q v' s' := by
    rintro v' as' s' ⟨⟨t', rfl⟩, h', tk', rfl⟩ hb hq
    obtain ⟨F', N'⟩ := back_all C.F N (h' := h') (fun b ob e => hb b ob (by simp) e)
    exact hQ t' h' tk' F' N'
  clear hQ N
  obtain ⟨B, F, X, T, hk, hd, hu⟩ := C
  have N0 : News h₀ L s.heap [] := News.nil
  revert X
  k_fill
  intro X
  refine wpAny_call ?_
  refine' enter (P := fun _ => IntEnd s (csum c xs.length)) (binds := [(Str.ofString "a", .str (sl xs) t1), (Str.ofString "b", .str (sl ys) t2), (Str.ofString "max_cost", .int 4 t3)]) ?k1 ?k2 ?k3 ?k4 ?k5 ?kA ?kF ?kK ?k6 ?k7 ?k8 ?k9 ?kB ?_ ?kR ?c2 ?c3 ?c4 ?c5
  case kA => exact rfl
  case kF => exact rfl
  case kK => assumption
  case k1 => k_asm
  case k2 => k_asm
  case k3 => k_asm
  case k4 => exact N0
  case k5 => k_asm
  case k6 => k_is
  case k7 => k_is
  case k8 => ktr_room
  case k9 => exact BindsTo.of_eq rfl
  case c5 => decide
  case kB => exact locs rfl
  case c2 => exact rfl
  case c3 => exact rfl
  case c4 => exact rfl
  case kR => exact fin
  clear F N0 fin
  intro g' L' h' F' N' B' X' T'
  (try dsimp only)
  (try k_fold)
  k_steps
  · exfalso
    rename_i e
    rw [sl_beq] at e
    exact hne (of_decide_eq_true e)
  show WhlRest _ _ _ _ _ _ _ _ _ _ _
  refine whl_ind (σ := Nat) (LevPre s g' L' xs ys t1 t2 t3)
    (fun p => xs.length - p) ?hE ?step 0 _ ?init
  case hE => first | passes_own | with_unfolding_all passes_own
  case init => exact ⟨_, _, _, _, rfl, by k_asm, by k_asm, rfl, rfl, rfl, rfl, Nat.zero_le _, rfl⟩
  case step =>
    (rename Fr _ _ _ _ => Fo); (rename News _ _ _ _ => No); clear Fo No
    intro p s' hI
    obtain ⟨h2, tk2, t4, m2, rfl, F2, N2, ma, mb, mc, mp, hp, hpre⟩ := hI
    (try dsimp only)
    k_steps
    · refine ⟨p + 1, (by show xs.length - (p + 1) < xs.length - p; omega), _, _, _, _, rfl, by k_asm, by k_asm, by assumption, by assumption, by assumption, rfl, by omega, take_succ_eq (by assumption) (by assumption) hpre (by assumption)⟩
    · rename_i hd1
      show wpAny _ _ _ _ _ _
      (try k_fold)
      k_steps
      obtain ⟨us, hus⟩ : ∃ us, us = xs.drop p := ⟨_, rfl⟩
      obtain ⟨vs, hvs⟩ : ∃ vs, vs = ys.drop p := ⟨_, rfl⟩
      have hlu : us.length = xs.length - p := by rw [hus, List.length_drop]
      have hlv : vs.length = us.length := by rw [hlu, hvs, List.length_drop]; omega
      have hu4 : us.length ≤ 4 := by omega
      have hv4 : vs.length ≤ 4 := by omega
      have hu0 : 0 < us.length := by omega
      have hfst : us.getD 0 0 ≠ vs.getD 0 0 := by
        rw [sl_beq] at hd1
        have := of_decide_eq_false hd1
        intro e
        apply this
        rw [hus, hvs] at e
        simp at e ⊢
        exact e
      show WhlRest _ _ _ _ _ _ _ _ _ _ _
      refine whl_ind (σ := Nat) (LevPost s g' L' us vs t3)
        (fun q => us.length - q) ?hE2 ?step2 0 _ ?init2
      case hE2 => first | passes_own | with_unfolding_all passes_own
      case init2 =>
        subst hus hvs
        exact ⟨_, _, _, _, _, _, _, rfl, by k_asm, by k_asm, rfl, rfl, by assumption, rfl, rfl, hu0, by rw [Nat.sub_zero, List.drop_length, ← hlv, List.drop_length]⟩
      case step2 =>
        (repeat ((rename Fr _ _ _ _ => Fo); clear Fo))
        (repeat ((rename News _ _ _ _ => No); clear No))
        clear ma mb mc mp
        intro q s' hI
        obtain ⟨h3, tk3, t5, m3, ta, tb, j, rfl, F3, N3, ma, mb, mc, mp, hj, hq, hsuf⟩ := hI
        (try dsimp only)
        rcases Nat.eq_zero_or_pos q with h0 | h0
        · subst h0
          obtain rfl : j = 0 := by omega
          k_steps
          · have hl1 := not_first hq hlv hfst (by assumption)
            exact ⟨1, (by show us.length - 1 < us.length - 0; omega), _, _, _, _, _, _, _, rfl, by k_asm, by k_asm, by assumption, by assumption, by assumption, rfl, (by omega), hl1, drop_pred_eq hq hlv hsuf (by assumption)⟩
          · show wpAny _ _ _ _ _ _
            have hUg : ∀ k, k < us.length → us.getD k 0 = xs.getD (p + k) 0 := fun k _ => by rw [hus, getD_drop]
            have hVg : ∀ k, k < us.length → vs.getD k 0 = ys.getD (p + k) 0 := fun k _ => by rw [hvs, getD_drop]
            have hbeyond : ∀ k, p + us.length ≤ k → xs.getD k 0 = ys.getD k 0 := fun k hk => by
              simp [show xs.length ≤ k by omega, show ys.length ≤ k by omega]
            (try k_fold)
            k_steps
            · show wpAny _ _ _ _ _ _
              have hIn := (by assumption : ∀ c', IntsAre _ (dpRow c' (us).length 0 0))
              refine dp_loop (us := us) (vs := vs) (c := fun k => c (p + k)) (n := (us).length) ⟨by k_asm, by k_asm, by k_asm, by k_asm, rfl, (by show dp + 1 + 20 < recursionLimit; omega), (by show un + 3 + 100 < cLine; omega)⟩ (by k_asm) (hIn _) (by first | exact rfl | assumption) (by first | exact rfl | assumption) (by first | exact rfl | assumption) rfl rfl (by omega) (by omega) (by omega) (fun k => hc (p + k)) ?hcs0 ?hfin0
              case hcs0 =>
                intro i1 j1 hi1 hj1
                rw [hVg i1 hi1, hUg j1 hj1, hcost (p + i1) (p + j1) (by omega) (by omega)]
                by_cases e : i1 = j1
                · rw [if_pos e, if_pos (by omega)]
                · rw [if_neg e, if_neg (by omega)]
              case hfin0 =>
                intro h9 tk9 m9 t9 F9 mr9
                (try dsimp only)
                k_steps
                (try dsimp only)
                (repeat (k_unfold; (try dsimp only)))
                exact ⟨_, _, [], F9, News.nil, int_end (csum_cut hcost (fun k hk => getD_of_take hpre hk) (fun k hk => hbeyond k (by omega)) (by omega)), _, _, rfl⟩
            · exfalso; omega
            · exfalso; omega
          · exfalso; omega
          · exfalso; omega
        · have hj0 : j ≠ 0 := by omega
          k_steps
          · have hl1 := not_first hq hlv hfst (by assumption)
            exact ⟨q + 1, (by show us.length - (q + 1) < us.length - q; omega), _, _, _, _, _, _, _, rfl, by k_asm, by k_asm, by assumption, by assumption, by assumption, rfl, (by omega), hl1, drop_pred_eq hq hlv hsuf (by assumption)⟩
          · show wpAny _ _ _ _ _ _
            have hut : (us.take (us.length - q)).length ≤ 4 := by rw [List.length_take]; omega
            have hvt : (vs.take (vs.length - q)).length ≤ 4 := by rw [List.length_take]; omega
            have hute : (us.take (us.length - q)).length = us.length - q := by rw [List.length_take]; omega
            have hvte : (vs.take (vs.length - q)).length = us.length - q := by rw [List.length_take]; omega
            have hUg : ∀ k, k < (us.take (us.length - q)).length → (us.take (us.length - q)).getD k 0 = xs.getD (p + k) 0 := fun k hk => by rw [getD_take _ _ _ (by omega), hus, getD_drop]
            have hVg : ∀ k, k < (us.take (us.length - q)).length → (vs.take (vs.length - q)).getD k 0 = ys.getD (p + k) 0 := fun k hk => by rw [getD_take _ _ _ (by omega), hvs, getD_drop]
            have hbeyond : ∀ k, p + (us.take (us.length - q)).length ≤ k → xs.getD k 0 = ys.getD k 0 := fun k hk => by
              have e := getD_of_drop (k := k - p) hsuf (by omega)
              rw [hus, hvs, getD_drop, getD_drop, show p + (k - p) = k by omega] at e
              exact e
            (try k_fold)
            k_steps
            · show wpAny _ _ _ _ _ _
              have hIn := (by assumption : ∀ c', IntsAre _ (dpRow c' (us.take (us.length - q)).length 0 0))
              refine dp_loop (us := us.take (us.length - q)) (vs := vs.take (vs.length - q)) (c := fun k => c (p + k)) (n := (us.take (us.length - q)).length) ⟨by k_asm, by k_asm, by k_asm, by k_asm, rfl, (by show dp + 1 + 20 < recursionLimit; omega), (by show un + 3 + 100 < cLine; omega)⟩ (by k_asm) (hIn _) (by first | exact rfl | assumption) (by first | exact rfl | assumption) (by first | exact rfl | assumption) rfl rfl (by omega) (by omega) (by omega) (fun k => hc (p + k)) ?hcs1 ?hfin1
              case hcs1 =>
                intro i1 j1 hi1 hj1
                rw [hVg i1 hi1, hUg j1 hj1, hcost (p + i1) (p + j1) (by omega) (by omega)]
                by_cases e : i1 = j1
                · rw [if_pos e, if_pos (by omega)]
                · rw [if_neg e, if_neg (by omega)]
              case hfin1 =>
                intro h9 tk9 m9 t9 F9 mr9
                (try dsimp only)
                k_steps
                (try dsimp only)
                (repeat (k_unfold; (try dsimp only)))
                exact ⟨_, _, [], F9, News.nil, int_end (csum_cut hcost (fun k hk => getD_of_take hpre hk) (fun k hk => hbeyond k (by omega)) (by omega)), _, _, rfl⟩
            · exfalso; omega
            · exfalso; omega
          · exfalso; omega
          · exfalso; omega
    · exact absurd (by rw [List.take_of_length_le (by omega), List.take_of_length_le (by omega)] at hpre; exact hpre) hne
    · exact absurd (by rw [List.take_of_length_le (by omega), List.take_of_length_le (by omega)] at hpre; exact hpre) hne
end Mine
namespace Mine
/-- the signs of a word -/
def sign (k : Nat) (b : Bool) : Nat := if b then 65 + k else 97 + k
def signs (b0 b1 b2 b3 : Bool) : List Nat := [sign 0 b0, sign 1 b1, sign 2 b2, sign 3 b3]
theorem wordOf_sl (b0 b1 b2 b3 : Bool) : wordOf b0 b1 b2 b3 = sl (signs b0 b1 b2 b3) := by
  cases b0 <;> cases b1 <;> cases b2 <;> cases b3 <;> decide +kernel
theorem cost_same (k : Fin 4) (b c : Bool) : subCost (sl [sign k b]) (sl [sign k c]) = if b = c then 0 else 1 := by
  revert k b c; decide +kernel
theorem cost_other (i j : Fin 4) (h : i ≠ j) (b c : Bool) : subCost (sl [sign i b]) (sl [sign j c]) = 2 := by
  revert i j b c; decide +kernel
end Mine
namespace Mine
theorem lev_same {w : World} {mean : ExcName → Option Value} {mg mb : Str → Option Value} {dp un : Nat} {cs : Scope} {outer : List Env} {A₀ : Around} {base h₀ : Heap} {L : Addr} {m : Str → Option Value} {s : Shared}
    {gd : Option (List Code)} {cn : Str} {a : Addr} {ccd : Value} {cl : List (Str × Addr)} {Q E : Value → Shared → Prop} {x : Str} {t1 t2 t3 : Tok} {news : List (Addr × Obj)}
    (C : Cx w mean mg mb dp un cs outer A₀ base h₀ L m s) (N : News h₀ L s.heap news)
    (hQ : ∀ t' h' tk', Fr h₀ L h' m → News h₀ L h' news → Q (.int 0 t') { s with heap := h', toks := tk' }) :
    wpAny (model (RowW.prog (OpenRow.toRowW (OpenLaw.row PySem.Challenge.rw_qu0034_01))) w) (ktrTop dp un gd cn cs L a ccd cl outer) (call (.ref 28) [.str x t1, .str x t2, .int 4 t3]) Q E s := by
  have fin : ∀ v' as' s', IntEnd s 0 v' as' s' → (∀ b o, b ∉ ([] : List Addr) → s.heap.get? b = some o → s'.heap.get? b = some o) → (∀ q ∈ as', s'.heap.get? q.1 = some q.2 ∧ (q.1 ∈ ([] : List Addr) ∨ s.heap.get? q.1 = none)) → Q v' s' := by
    rintro v' as' s' ⟨⟨t', rfl⟩, h', tk', rfl⟩ hb hq
    obtain ⟨F', N'⟩ := back_all C.F N (h' := h') (fun b ob e => hb b ob (by simp) e)
    exact hQ t' h' tk' F' N'
  clear hQ N
  obtain ⟨B, F, X, T, hk, hd, hu⟩ := C
  have N0 : News h₀ L s.heap [] := News.nil
  revert X
  k_fill
  intro X
  refine wpAny_call ?_
  refine' enter (P := fun _ => IntEnd s 0) (binds := [(Str.ofString "a", .str x t1), (Str.ofString "b", .str x t2), (Str.ofString "max_cost", .int 4 t3)]) ?k1 ?k2 ?k3 ?k4 ?k5 ?kA ?kF ?kK ?k6 ?k7 ?k8 ?k9 ?kB ?_ ?kR ?c2 ?c3 ?c4 ?c5
  case kA => exact rfl
  case kF => exact rfl
  case kK => assumption
  case k1 => k_asm
  case k2 => k_asm
  case k3 => k_asm
  case k4 => exact N0
  case k5 => k_asm
  case k6 => k_is
  case k7 => k_is
  case k8 => ktr_room
  case k9 => exact BindsTo.of_eq rfl
  case c5 => decide
  case kB => exact locs rfl
  case c2 => exact rfl
  case c3 => exact rfl
  case c4 => exact rfl
  case kR => exact fin
  clear F N0 fin
  intro g' L' h' F' N' B' X' T'
  (try dsimp only)
  (try k_fold)
  iterate 7 walk1
  have e : (x == x) = true := by simp
  rw [e]
  k_steps
  all_goals (
    (try dsimp only)
    (repeat (k_unfold; (try dsimp only)))
    exact ⟨_, _, _, (by k_asm), (by k_asm), ⟨_, rfl⟩, _, _, rfl⟩)
/-- in how many signs two words part -/
def apart (b c : Bool) : Int := if b = c then 0 else 1
def dist (b0 b1 b2 b3 c0 c1 c2 c3 : Bool) : Int := apart b0 c0 + apart b1 c1 + apart b2 c2 + apart b3 c3
def apartAt (b0 b1 b2 b3 c0 c1 c2 c3 : Bool) : Nat → Int
  | 0 => apart c0 b0
  | 1 => apart c1 b1
  | 2 => apart c2 b2
  | 3 => apart c3 b3
  | _ => 0
theorem apart_comm (b c : Bool) : apart b c = apart c b := by cases b <;> cases c <;> rfl
theorem apart_le (b c : Bool) : 0 ≤ apart b c ∧ apart b c ≤ 1 := by unfold apart; split <;> decide
theorem cost_words (b0 b1 b2 b3 c0 c1 c2 c3 : Bool) (i j : Nat) (hi : i < 4) (hj : j < 4) :
    subCost (sl [(signs c0 c1 c2 c3).getD i 0]) (sl [(signs b0 b1 b2 b3).getD j 0]) = if i = j then apartAt b0 b1 b2 b3 c0 c1 c2 c3 i else 2 := by
  have g : ∀ (x0 x1 x2 x3 : Bool) (k : Nat), k < 4 → ∃ x, (signs x0 x1 x2 x3).getD k 0 = sign k x ∧ x = [x0, x1, x2, x3].getD k false := by
    intro x0 x1 x2 x3 k hk
    match k, hk with
    | 0, _ => exact ⟨x0, rfl, rfl⟩
    | 1, _ => exact ⟨x1, rfl, rfl⟩
    | 2, _ => exact ⟨x2, rfl, rfl⟩
    | 3, _ => exact ⟨x3, rfl, rfl⟩
  by_cases e : i = j
  · subst e
    rw [if_pos rfl]
    match i, hi with
    | 0, _ => exact cost_same 0 c0 b0
    | 1, _ => exact cost_same 1 c1 b1
    | 2, _ => exact cost_same 2 c2 b2
    | 3, _ => exact cost_same 3 c3 b3
  · rw [if_neg e]
    obtain ⟨x, hx, -⟩ := g c0 c1 c2 c3 i hi
    obtain ⟨y, hy, -⟩ := g b0 b1 b2 b3 j hj
    rw [hx, hy]
    exact cost_other ⟨i, hi⟩ ⟨j, hj⟩ (fun h => e (Fin.mk.inj h)) x y
theorem signs_inj {b0 b1 b2 b3 c0 c1 c2 c3 : Bool} (h : signs b0 b1 b2 b3 = signs c0 c1 c2 c3) : b0 = c0 ∧ b1 = c1 ∧ b2 = c2 ∧ b3 = c3 := by
  revert h; revert b0 b1 b2 b3 c0 c1 c2 c3; decide +kernel
theorem levw_spec {w : World} {mean : ExcName → Option Value} {mg mb : Str → Option Value} {dp un : Nat} {cs : Scope} {outer : List Env} {A₀ : Around} {base h₀ : Heap} {L : Addr} {m : Str → Option Value} {s : Shared}
    {gd : Option (List Code)} {cn : Str} {a : Addr} {ccd : Value} {cl : List (Str × Addr)} {Q E : Value → Shared → Prop} {b0 b1 b2 b3 c0 c1 c2 c3 : Bool} {t1 t2 t3 : Tok} {news : List (Addr × Obj)}
    (C : Cx w mean mg mb dp un cs outer A₀ base h₀ L m s) (hdeep : dp + 30 < recursionLimit) (hunits : un + 200 < cLine) (N : News h₀ L s.heap news)
    (hQ : ∀ t' h' tk', Fr h₀ L h' m → News h₀ L h' news → Q (.int (dist b0 b1 b2 b3 c0 c1 c2 c3) t') { s with heap := h', toks := tk' }) :
    wpAny (model (RowW.prog (OpenRow.toRowW (OpenLaw.row PySem.Challenge.rw_qu0034_01))) w) (ktrTop dp un gd cn cs L a ccd cl outer) (call (.ref 28) [.str (wordOf b0 b1 b2 b3) t1, .str (wordOf c0 c1 c2 c3) t2, .int 4 t3]) Q E s := by
  rw [wordOf_sl, wordOf_sl]
  by_cases e : signs b0 b1 b2 b3 = signs c0 c1 c2 c3
  · obtain ⟨rfl, rfl, rfl, rfl⟩ := signs_inj e
    refine lev_same C N fun t' h' tk' F' N' => ?_
    have := hQ t' h' tk' F' N'
    simpa [dist, apart] using this
  · refine lev_spec C hdeep hunits N (Nat.le_refl 4) (Nat.le_refl 4) rfl e (c := apartAt b0 b1 b2 b3 c0 c1 c2 c3) (fun k => ?_) (fun i j hi hj => cost_words _ _ _ _ _ _ _ _ i j hi hj) fun t' h' tk' F' N' => ?_
    · match k with
      | 0 => exact apart_le _ _
      | 1 => exact apart_le _ _
      | 2 => exact apart_le _ _
      | 3 => exact apart_le _ _
      | _ + 4 => exact ⟨Int.le_refl 0, (show (0 : Int) ≤ 1 by decide)⟩
    · have z : csum (apartAt b0 b1 b2 b3 c0 c1 c2 c3) (signs b0 b1 b2 b3).length = dist b0 b1 b2 b3 c0 c1 c2 c3 := by
        show 0 + apart c0 b0 + apart c1 b1 + apart c2 b2 + apart c3 b3 = _
        rw [apart_comm c0, apart_comm c1, apart_comm c2, apart_comm c3]
        unfold dist
        omega
      rw [z]
      exact hQ t' h' tk' F' N'
end Mine
namespace Mine
local macro_rules | `(tactic| walk_at "eval Name") => `(tactic| (k_here; k_dflt (refine' nameX_L ?k1 ?k2 ?_; (case k1 => k_asm); (case k2 => assumption); k_whole)))
local macro_rules | `(tactic| walk_at "callWith") => `(tactic| ((with_reducible show wpAny _ _ (callWith _ (Value.builtin _) (_ :: _) (backTo _ (starEach (_ :: _) _)) []) _ _ _); with_reducible refine callWith_method1 ?_ rfl rfl))
section
local macro_rules | `(tactic| walk_at "pyIter ref") => `(tactic| (refine halt_it ?_))
local macro_rules | `(tactic| walk_at "exec For Name Call cons nil") => `(tactic| (k_here; (rename Fr _ _ _ _ => lF'); (with_unfolding_all refine' For_invVF lF' ?k1 ?k2 ?_; (case k1 => exact rfl); (case k2 => exact rfl); k_whole)))

theorem sum_pick {prog : Program} {w : World} {A : Around} {E : Value → Shared → Prop} {s : Shared} {h₀ : Heap} {L : Addr} {m : Str → Option Value} {news : List (Addr × Obj)} {l : Addr} {svs : List Value} {sns : List Int} {lo hi st : Option Int} {Q : Value → Shared → Prop} (hh : A.handled = none) (F : Fr h₀ L s.heap m) (N : News h₀ L s.heap news)
    (hm : (l, { cls := .type "list", data := .seq (slicePick svs.toArray lo hi st) }) ∈ news) (hI : IntsAre svs sns) (h : ∀ h' tk t' v', Fr h₀ L h' m → News h₀ L h' news → Q (.int v' t') { s with heap := h', toks := tk }) :
    wpAny (model prog w) A (call (.builtin "sum") [.ref l]) Q E s :=
  sumK hh F N (vs := (slicePick svs.toArray lo hi st).toList) ⟨_, (N _ hm).1, rfl, 0, rfl⟩ (IntsAre.pick hI lo hi st) fun h' tk t' F' N' => h h' tk t' _ F' N'
local macro_rules | `(tactic| walk_at "call builtin:sum") => `(tactic| (k_here; refine sum_pick rfl (by k_asm) (by k_asm) (by k_mem) (by assumption) ?_; intro _ _ _ _ _ _; (try dsimp only)))
theorem halt_callA {M : Model} {A : Around} {E : Value → Shared → Prop} {s : Shared} {f : Value} {vs : List Value} {Q : Value → Shared → Prop} (h : Halt (wpAny M A (call f vs) Q E s)) : wpAny M A (call f vs) Q E s := h
local macro_rules | `(tactic| walk_at "call builtin:list.append") => `(tactic| (refine halt_callA ?_))
theorem small_ten : Builtin.Range.small 0 10 1 = true := by decide
theorem seg_a1 {w : World} {mean : ExcName → Option Value} {mg mb : Str → Option Value} {dp un : Nat} {outer : List Env} {A₀ : Around} {base h₀ : Heap} {L : Addr} {m : Str → Option Value} {s : Shared} {gd : Option (List Code)} {a : Addr} {ccd : Value} {dl sc : Addr} {svs its : List Value} {sns : List Int} {n : Nat} {o1 o2 o3 o4 o5 : Obj} {Q : Flow → Shared → Prop}
    (C : Cx w mean mg mb dp un (defScope (topStmt 17)) outer A₀ base h₀ L m s)
    (N : News h₀ L s.heap [(dl, listOf #[] n), (L + 1, o1), (L + 1 + 1, o2), (L + 1 + 1 + 1, o3), (L + 1 + 1 + 1 + 1, o4), (L + 1 + 1 + 1 + 1 + 1, o5)])
    (hdl : @LT.lt Nat _ (L + 5) dl) (ho1 : o1.data = .cell (some (.ref dl))) (hs : base.IsList sc svs.toArray) (hsI : IntsAre svs sns) (hs63 : sns.length ≤ 63)
    (ms : m (Str.ofString "script") = some (.ref sc))
    (hQ : ∀ h' tk' m' its' n' ns, Fr h₀ L h' m' → News h₀ L h' [(dl, listOf (List.toArray its') n'), (L + 1, o1), (L + 1 + 1, o2), (L + 1 + 1 + 1, o3), (L + 1 + 1 + 1 + 1, o4), (L + 1 + 1 + 1 + 1 + 1, o5)] → IntsAre its' ns → ns.length = 10 → Q .next { s with heap := h', toks := tk' }) :
    wpAny (model (RowW.prog (OpenRow.toRowW (OpenLaw.row PySem.Challenge.rw_qu0034_01))) w) (ktrTop dp un gd (Str.ofString "law") (defScope (topStmt 17)) L a ccd (cellsFrom (L + 1) (defScope (topStmt 17)).names []) outer) (exec (stmtOf 17 1) (envX (Str.ofString "law") (defScope (topStmt 17)) L a ccd (cellsFrom (L + 1) (defScope (topStmt 17)).names []))) Q (fun _ _ => False) s := by
  obtain ⟨B, F, X, T, hk, hd, hun⟩ := C
  revert X
  k_fill
  intro X
  clear hk
  conv in (occs := *) stmtOf 17 1 => all_goals whnf
  conv in (occs := *) cellsFrom _ _ _ => all_goals whnf
  conv in (occs := *) defScope (topStmt 17) => all_goals whnf
  have hlift := stays_list B.stays hs
  k_steps
  show wpAny _ _ _ _ _ _
  refine range_loop (n := 10) (fun i m' nw => ∃ its' n1 ns, nw = [(dl, listOf (List.toArray its') n1), (L + 1, o1), (L + 1 + 1, o2), (L + 1 + 1 + 1, o3), (L + 1 + 1 + 1 + 1, o4), (L + 1 + 1 + 1 + 1 + 1, o5)] ∧ IntsAre its' ns ∧ ns.length = i ∧ m' (Str.ofString "script") = some (.ref sc))
    rfl (by assumption) small_ten (range_size 10) (by k_asm) (by k_asm) ⟨[], _, [], rfl, .nil, rfl, by assumption⟩ ?step ?fin
  case fin =>
    intro m' nw h tk hInv F' N'
    obtain ⟨its', n1, ns, rfl, hI', hlen, ms'⟩ := hInv
    exact hQ h tk m' its' n1 ns F' N' hI' hlen
  case step =>
    (repeat ((rename Fr _ _ _ _ => Fo); clear Fo))
    (repeat ((rename News _ _ _ _ => No); clear No))
    clear ms hQ
    intro I i m' nw t h tk hi hInv hlt F' N'
    obtain ⟨its', n1, ns, rfl, hI', hlen, ms⟩ := hInv
    rw [Int.zero_add] at F'
    have hIr := ltN (hlt _ (.head _))
    have hIr2 := ltN (hlt _ (.tail _ (.head _)))
    have hIr3 := ltN (hlt _ (.tail _ (.tail _ (.head _))))
    have hIr4 := ltN (hlt _ (.tail _ (.tail _ (.tail _ (.head _)))))
    have hIr5 := ltN (hlt _ (.tail _ (.tail _ (.tail _ (.tail _ (.head _))))))
    have hIr6 := ltN (hlt _ (.tail _ (.tail _ (.tail _ (.tail _ (.tail _ (.head _)))))))
    (try dsimp only)
    (try k_fold)
    k_steps
    show wpAny _ _ _ _ _ _
    have hl9 : its'.toArray.size ≤ sizeLine := by
      rw [List.size_toArray, hI'.length, hlen]
      exact Nat.le_trans (Nat.le_of_lt hi) (by decide)
    refine append_K (news := [(I, _), (dl, listOf its'.toArray n1), (L + 1, o1), (L + 1 + 1, o2), (L + 1 + 1 + 1, o3), (L + 1 + 1 + 1 + 1, o4), (L + 1 + 1 + 1 + 1 + 1, o5)]) (by k_asm) (cb_drop (by assumption) (List.forall_mem_cons.mpr ⟨by k_mem, List.forall_mem_cons.mpr ⟨by k_mem, List.forall_mem_cons.mpr ⟨by k_mem, List.forall_mem_cons.mpr ⟨by k_mem, List.forall_mem_cons.mpr ⟨by k_mem, List.forall_mem_cons.mpr ⟨by k_mem, List.forall_mem_cons.mpr ⟨by k_mem, List.forall_mem_nil _⟩⟩⟩⟩⟩⟩⟩)) (by k_upd) ?_ hl9
    intro h8 F8 N8
    (try dsimp only)
    k_steps
    show UnrEnd _ _ _ _ _ _ _
    rw [List.push_toArray] at N8
    exact ⟨_, _, _, [(dl, _), (L + 1, o1), (L + 1 + 1, o2), (L + 1 + 1 + 1, o3), (L + 1 + 1 + 1 + 1, o4), (L + 1 + 1 + 1 + 1 + 1, o5)], rfl, F8, N8, (by k_all), _, _, _, rfl, hI'.append (.cons _ _ .nil), (by rw [List.length_append, hlen]; rfl), (by assumption)⟩
end
section

theorem seg_0 {w : World} {mean : ExcName → Option Value} {mg mb : Str → Option Value} {dp un : Nat} {outer : List Env} {A₀ : Around} {base h₀ : Heap} {L : Addr} {m : Str → Option Value} {s : Shared} {gd : Option (List Code)} {a : Addr} {ccd : Value} {o1 o2 o3 o4 o5 : Obj} {Q : Flow → Shared → Prop}
    (C : Cx w mean mg mb dp un (defScope (topStmt 17)) outer A₀ base h₀ L m s)
    (N : News h₀ L s.heap [(L + 1, o1), (L + 1 + 1, o2), (L + 1 + 1 + 1, o3), (L + 1 + 1 + 1 + 1, o4), (L + 1 + 1 + 1 + 1 + 1, o5)])
    (ho1 : o1.data = .cell none)
    (hQ : ∀ h' tk' dl n (o1 : Obj), Fr h₀ L h' m → News h₀ L h' [(dl, listOf #[] n), (L + 1, o1), (L + 1 + 1, o2), (L + 1 + 1 + 1, o3), (L + 1 + 1 + 1 + 1, o4), (L + 1 + 1 + 1 + 1 + 1, o5)] → @LT.lt Nat _ (L + 5) dl → o1.data = .cell (some (.ref dl)) → Q .next { s with heap := h', toks := tk' }) :
    wpAny (model (RowW.prog (OpenRow.toRowW (OpenLaw.row PySem.Challenge.rw_qu0034_01))) w) (ktrTop dp un gd (Str.ofString "law") (defScope (topStmt 17)) L a ccd (cellsFrom (L + 1) (defScope (topStmt 17)).names []) outer) (exec (stmtOf 17 0) (envX (Str.ofString "law") (defScope (topStmt 17)) L a ccd (cellsFrom (L + 1) (defScope (topStmt 17)).names []))) Q (fun _ _ => False) s := by
  obtain ⟨B, F, X, T, hk, hd, hun⟩ := C
  revert X
  k_fill
  intro X
  clear hk
  conv in (occs := *) stmtOf 17 0 => all_goals whnf
  conv in (occs := *) cellsFrom _ _ _ => all_goals whnf
  conv in (occs := *) defScope (topStmt 17) => all_goals whnf
  k_steps
  exact hQ _ _ _ _ _ (by k_asm) (by k_asm) (by omega) (by assumption)
theorem seg_2 {w : World} {mean : ExcName → Option Value} {mg mb : Str → Option Value} {dp un : Nat} {outer : List Env} {A₀ : Around} {base h₀ : Heap} {L : Addr} {m : Str → Option Value} {s : Shared} {gd : Option (List Code)} {a : Addr} {ccd : Value} {dl : Addr} {d0 d1 d2 d3 d4 d5 d6 d7 d8 d9 : Int} {u0 u1 u2 u3 u4 u5 u6 u7 u8 u9 : Tok} {n : Nat} {o1 o2 o3 o4 o5 : Obj} {c2 : Option Value} {Q : Flow → Shared → Prop}
    (C : Cx w mean mg mb dp un (defScope (topStmt 17)) outer A₀ base h₀ L m s)
    (N : News h₀ L s.heap [(dl, listOf #[.int d0 u0, .int d1 u1, .int d2 u2, .int d3 u3, .int d4 u4, .int d5 u5, .int d6 u6, .int d7 u7, .int d8 u8, .int d9 u9] n), (L + 1, o1), (L + 1 + 1, o2), (L + 1 + 1 + 1, o3), (L + 1 + 1 + 1 + 1, o4), (L + 1 + 1 + 1 + 1 + 1, o5)])
    (hdl : @LT.lt Nat _ (L + 5) dl) (ho1 : o1.data = .cell (some (.ref dl))) (ho2 : o2.data = .cell c2)
    (hQ : ∀ h' tk' al n' (o2 : Obj), Fr h₀ L h' m → News h₀ L h' [(dl, listOf #[.int d0 u0, .int d1 u1, .int d2 u2, .int d3 u3, .int d4 u4, .int d5 u5, .int d6 u6, .int d7 u7, .int d8 u8, .int d9 u9] n), (L + 1, o1), (L + 1 + 1, o2), (L + 1 + 1 + 1, o3), (L + 1 + 1 + 1 + 1, o4), (L + 1 + 1 + 1 + 1 + 1, o5), (al, listOf #[.int d6 u6, .int d7 u7, .int d8 u8, .int d9 u9] n')] → @LT.lt Nat _ dl al → o2.data = .cell (some (.ref al)) → Q .next { s with heap := h', toks := tk' }) :
    wpAny (model (RowW.prog (OpenRow.toRowW (OpenLaw.row PySem.Challenge.rw_qu0034_01))) w) (ktrTop dp un gd (Str.ofString "law") (defScope (topStmt 17)) L a ccd (cellsFrom (L + 1) (defScope (topStmt 17)).names []) outer) (exec (stmtOf 17 2) (envX (Str.ofString "law") (defScope (topStmt 17)) L a ccd (cellsFrom (L + 1) (defScope (topStmt 17)).names []))) Q (fun _ _ => False) s := by
  obtain ⟨B, F, X, T, hk, hd, hun⟩ := C
  revert X
  k_fill
  intro X
  clear hk
  conv in (occs := *) stmtOf 17 2 => all_goals whnf
  conv in (occs := *) cellsFrom _ _ _ => all_goals whnf
  conv in (occs := *) defScope (topStmt 17) => all_goals whnf
  k_steps
  exact hQ _ _ _ _ _ (by k_asm) (cb_drop (by k_asm) (List.forall_mem_cons.mpr ⟨by k_mem, List.forall_mem_cons.mpr ⟨by k_mem, List.forall_mem_cons.mpr ⟨by k_mem, List.forall_mem_cons.mpr ⟨by k_mem, List.forall_mem_cons.mpr ⟨by k_mem, List.forall_mem_cons.mpr ⟨by k_mem, List.forall_mem_cons.mpr ⟨by k_mem, List.forall_mem_nil _⟩⟩⟩⟩⟩⟩⟩)) (by omega) (by assumption)

theorem seg_3 {w : World} {mean : ExcName → Option Value} {mg mb : Str → Option Value} {dp un : Nat} {outer : List Env} {A₀ : Around} {base h₀ : Heap} {L : Addr} {m : Str → Option Value} {s : Shared} {gd : Option (List Code)} {a : Addr} {ccd : Value} {dl  : Addr} {od  : Obj} {al : Addr} {o1 o2 o3 o4 o5 oa : Obj} {Q : Flow → Shared → Prop}
    (C : Cx w mean mg mb dp un (defScope (topStmt 17)) outer A₀ base h₀ L m s)
    (N : News h₀ L s.heap [(dl, od), (L + 1, o1), (L + 1 + 1, o2), (L + 1 + 1 + 1, o3), (L + 1 + 1 + 1 + 1, o4), (L + 1 + 1 + 1 + 1 + 1, o5), (al, oa)])
    (hQ : ∀ h' tk' ll n, Fr h₀ L h' (fun y => if y = Str.ofString "lesser" then some (.ref ll) else m y) → News h₀ L h' [(ll, listOf #[] n), (dl, od), (L + 1, o1), (L + 1 + 1, o2), (L + 1 + 1 + 1, o3), (L + 1 + 1 + 1 + 1, o4), (L + 1 + 1 + 1 + 1 + 1, o5), (al, oa)] → @LT.lt Nat _ al ll → Q .next { s with heap := h', toks := tk' }) :
    wpAny (model (RowW.prog (OpenRow.toRowW (OpenLaw.row PySem.Challenge.rw_qu0034_01))) w) (ktrTop dp un gd (Str.ofString "law") (defScope (topStmt 17)) L a ccd (cellsFrom (L + 1) (defScope (topStmt 17)).names []) outer) (exec (stmtOf 17 3) (envX (Str.ofString "law") (defScope (topStmt 17)) L a ccd (cellsFrom (L + 1) (defScope (topStmt 17)).names []))) Q (fun _ _ => False) s := by
  obtain ⟨B, F, X, T, hk, hd, hun⟩ := C
  revert X
  k_fill
  intro X
  clear hk
  conv in (occs := *) stmtOf 17 3 => all_goals whnf
  conv in (occs := *) cellsFrom _ _ _ => all_goals whnf
  conv in (occs := *) defScope (topStmt 17) => all_goals whnf
  k_steps
  exact hQ _ _ _ _ (by k_asm) (by k_asm) (by omega)

theorem seg_4 {w : World} {mean : ExcName → Option Value} {mg mb : Str → Option Value} {dp un : Nat} {outer : List Env} {A₀ : Around} {base h₀ : Heap} {L : Addr} {m : Str → Option Value} {s : Shared} {gd : Option (List Code)} {a : Addr} {ccd : Value} {dl l1 : Addr} {od p1 : Obj} {al : Addr} {o1 o2 o3 o4 o5 oa : Obj} {Q : Flow → Shared → Prop}
    (C : Cx w mean mg mb dp un (defScope (topStmt 17)) outer A₀ base h₀ L m s)
    (N : News h₀ L s.heap [(l1, p1), (dl, od), (L + 1, o1), (L + 1 + 1, o2), (L + 1 + 1 + 1, o3), (L + 1 + 1 + 1 + 1, o4), (L + 1 + 1 + 1 + 1 + 1, o5), (al, oa)])
    (hQ : ∀ h' tk' ll n, Fr h₀ L h' (fun y => if y = Str.ofString "greater" then some (.ref ll) else m y) → News h₀ L h' [(ll, listOf #[] n), (l1, p1), (dl, od), (L + 1, o1), (L + 1 + 1, o2), (L + 1 + 1 + 1, o3), (L + 1 + 1 + 1 + 1, o4), (L + 1 + 1 + 1 + 1 + 1, o5), (al, oa)] → @LT.lt Nat _ l1 ll → Q .next { s with heap := h', toks := tk' }) :
    wpAny (model (RowW.prog (OpenRow.toRowW (OpenLaw.row PySem.Challenge.rw_qu0034_01))) w) (ktrTop dp un gd (Str.ofString "law") (defScope (topStmt 17)) L a ccd (cellsFrom (L + 1) (defScope (topStmt 17)).names []) outer) (exec (stmtOf 17 4) (envX (Str.ofString "law") (defScope (topStmt 17)) L a ccd (cellsFrom (L + 1) (defScope (topStmt 17)).names []))) Q (fun _ _ => False) s := by
  obtain ⟨B, F, X, T, hk, hd, hun⟩ := C
  revert X
  k_fill
  intro X
  clear hk
  conv in (occs := *) stmtOf 17 4 => all_goals whnf
  conv in (occs := *) cellsFrom _ _ _ => all_goals whnf
  conv in (occs := *) defScope (topStmt 17) => all_goals whnf
  k_steps
  exact hQ _ _ _ _ (by k_asm) (by k_asm) (by omega)

theorem seg_6 {w : World} {mean : ExcName → Option Value} {mg mb : Str → Option Value} {dp un : Nat} {outer : List Env} {A₀ : Around} {base h₀ : Heap} {L : Addr} {m : Str → Option Value} {s : Shared} {gd : Option (List Code)} {a : Addr} {ccd : Value} {dl l2 l1 : Addr} {od p2 p1 : Obj} {al : Addr} {o1 o2 o3 o4 o5 oa : Obj} {Q : Flow → Shared → Prop}
    (C : Cx w mean mg mb dp un (defScope (topStmt 17)) outer A₀ base h₀ L m s)
    (N : News h₀ L s.heap [(l2, p2), (l1, p1), (dl, od), (L + 1, o1), (L + 1 + 1, o2), (L + 1 + 1 + 1, o3), (L + 1 + 1 + 1 + 1, o4), (L + 1 + 1 + 1 + 1 + 1, o5), (al, oa)])
    (hQ : ∀ h' tk' ll n, Fr h₀ L h' (fun y => if y = Str.ofString "row" then some (.ref ll) else m y) → News h₀ L h' [(ll, listOf #[] n), (l2, p2), (l1, p1), (dl, od), (L + 1, o1), (L + 1 + 1, o2), (L + 1 + 1 + 1, o3), (L + 1 + 1 + 1 + 1, o4), (L + 1 + 1 + 1 + 1 + 1, o5), (al, oa)] → @LT.lt Nat _ l2 ll → Q .next { s with heap := h', toks := tk' }) :
    wpAny (model (RowW.prog (OpenRow.toRowW (OpenLaw.row PySem.Challenge.rw_qu0034_01))) w) (ktrTop dp un gd (Str.ofString "law") (defScope (topStmt 17)) L a ccd (cellsFrom (L + 1) (defScope (topStmt 17)).names []) outer) (exec (stmtOf 17 6) (envX (Str.ofString "law") (defScope (topStmt 17)) L a ccd (cellsFrom (L + 1) (defScope (topStmt 17)).names []))) Q (fun _ _ => False) s := by
  obtain ⟨B, F, X, T, hk, hd, hun⟩ := C
  revert X
  k_fill
  intro X
  clear hk
  conv in (occs := *) stmtOf 17 6 => all_goals whnf
  conv in (occs := *) cellsFrom _ _ _ => all_goals whnf
  conv in (occs := *) defScope (topStmt 17) => all_goals whnf
  k_steps
  exact hQ _ _ _ _ (by k_asm) (by k_asm) (by omega)

theorem seg_11 {w : World} {mean : ExcName → Option Value} {mg mb : Str → Option Value} {dp un : Nat} {outer : List Env} {A₀ : Around} {base h₀ : Heap} {L : Addr} {m : Str → Option Value} {s : Shared} {gd : Option (List Code)} {a : Addr} {ccd : Value} {nw : List (Addr × Obj)} {Q : Flow → Shared → Prop}
    (C : Cx w mean mg mb dp un (defScope (topStmt 17)) outer A₀ base h₀ L m s)
    (N : News h₀ L s.heap nw)
    (hQ : ∀ h' tk' t, Fr h₀ L h' (fun y => if y = Str.ofString "whole" then some (.int 0 t) else m y) → News h₀ L h' nw → Q .next { s with heap := h', toks := tk' }) :
    wpAny (model (RowW.prog (OpenRow.toRowW (OpenLaw.row PySem.Challenge.rw_qu0034_01))) w) (ktrTop dp un gd (Str.ofString "law") (defScope (topStmt 17)) L a ccd (cellsFrom (L + 1) (defScope (topStmt 17)).names []) outer) (exec (stmtOf 17 11) (envX (Str.ofString "law") (defScope (topStmt 17)) L a ccd (cellsFrom (L + 1) (defScope (topStmt 17)).names []))) Q (fun _ _ => False) s := by
  obtain ⟨B, F, X, T, hk, hd, hun⟩ := C
  revert X
  k_fill
  intro X
  clear hk
  conv in (occs := *) stmtOf 17 11 => all_goals whnf
  conv in (occs := *) cellsFrom _ _ _ => all_goals whnf
  conv in (occs := *) defScope (topStmt 17) => all_goals whnf
  k_steps
  exact hQ _ _ _ (by k_asm) (by k_asm)

theorem seg_13 {w : World} {mean : ExcName → Option Value} {mg mb : Str → Option Value} {dp un : Nat} {outer : List Env} {A₀ : Around} {base h₀ : Heap} {L : Addr} {m : Str → Option Value} {s : Shared} {gd : Option (List Code)} {a : Addr} {ccd : Value} {nw : List (Addr × Obj)} {Q : Flow → Shared → Prop}
    (C : Cx w mean mg mb dp un (defScope (topStmt 17)) outer A₀ base h₀ L m s)
    (N : News h₀ L s.heap nw)
    (hQ : ∀ h' tk' t, Fr h₀ L h' (fun y => if y = Str.ofString "most" then some (.int 0 t) else m y) → News h₀ L h' nw → Q .next { s with heap := h', toks := tk' }) :
    wpAny (model (RowW.prog (OpenRow.toRowW (OpenLaw.row PySem.Challenge.rw_qu0034_01))) w) (ktrTop dp un gd (Str.ofString "law") (defScope (topStmt 17)) L a ccd (cellsFrom (L + 1) (defScope (topStmt 17)).names []) outer) (exec (stmtOf 17 13) (envX (Str.ofString "law") (defScope (topStmt 17)) L a ccd (cellsFrom (L + 1) (defScope (topStmt 17)).names []))) Q (fun _ _ => False) s := by
  obtain ⟨B, F, X, T, hk, hd, hun⟩ := C
  revert X
  k_fill
  intro X
  clear hk
  conv in (occs := *) stmtOf 17 13 => all_goals whnf
  conv in (occs := *) cellsFrom _ _ _ => all_goals whnf
  conv in (occs := *) defScope (topStmt 17) => all_goals whnf
  k_steps
  exact hQ _ _ _ (by k_asm) (by k_asm)
end
section
local macro_rules | `(tactic| k_mem) => `(tactic| assumption)
local macro_rules | `(tactic| k_all) => `(tactic| assumption)
local macro_rules | `(tactic| k_ne) => `(tactic| first | assumption | (refine Ne.symm ?_; assumption))

local macro_rules | `(tactic| walk_at "pyIter ref") => `(tactic| (refine halt_it ?_))
local macro_rules | `(tactic| walk_at "exec For Name Subscript cons nil") => `(tactic| (k_here; (rename Fr _ _ _ _ => lF'); (with_unfolding_all refine' For_invVF lF' ?k1 ?k2 ?_; (case k1 => exact rfl); (case k2 => exact rfl); k_whole)))
local macro_rules | `(tactic| walk_at "call ref") => `(tactic| (refine halt_call ?_))
theorem div_q {prog : Program} {w : World} {A : Around} {E : Value → Shared → Prop} {s : Shared} {Q : Value → Shared → Prop} {a b : Int} {t u : Tok} (hA : A.handled = none) (h0 : 0 ≤ a) (h1 : a < 100) (hb : b ≠ 0) (h : Q (.float (qf a b) s.toks) { s with toks := s.toks + 1 }) :
    wpAny (model prog w) A (binaryOp .Div (.int a t) (.int b u)) Q E s :=
  PySem.Flt.div_ii_fits hA (Nat.lt_of_lt_of_le (show a.natAbs < 100 by omega) (by decide)) (fun e => absurd e hb) fun _ _ => h
local macro_rules | `(tactic| walk_at "binaryOp Div int int") => `(tactic| (refine div_q rfl (by omega) (by omega) (by decide) ?_; (try dsimp only)))
theorem arg2 {M : Model} {A : Around} {E : Value → Shared → Prop} {s : Shared} {f v : Value} {x y : Int} {t : Tok} {Q : Value → Shared → Prop} (e : x = y) (h : wpAny M A (call f [v, .int y t]) Q E s) : Halt (wpAny M A (call f [v, .int x t]) Q E s) := by subst e; exact h
theorem len_led {prog : Program} {w : World} {A : Around} {E : Value → Shared → Prop} {s : Shared} {h₀ : Heap} {L l : Addr} {news : List (Addr × Obj)} {vs : List Value} {ns : List Int} {n : Nat} {Q : Value → Shared → Prop} (N : News h₀ L s.heap news) (hm : (l, listOf vs.toArray n) ∈ news) (hI : IntsAre vs ns) (h4 : ns.length ≤ 4)
    (h : ∀ t' tk', Q (.int (ns.length : Int) t') { s with toks := tk' }) : wpAny (model prog w) A (call (.builtin "len") [.ref l]) Q E s := by
  have e : vs.toArray.size = ns.length := by rw [List.size_toArray]; exact hI.length
  refine len_list (⟨_, (N _ hm).1, rfl, n, rfl⟩ : s.heap.IsList l vs.toArray) (by rw [e]; omega) ?_
  rw [e]
  exact h _ _
local macro_rules | `(tactic| walk_at "call builtin:len") => `(tactic| (k_here; refine len_led (by k_asm) (by k_mem) (by assumption) (by assumption) ?_; intro _ _; (try dsimp only)))
local macro_rules | `(tactic| walk_at "exec If") => `(tactic| (with_reducible refine wpAny_If ?_))
theorem fmod_bounds (x : Int) {n : Int} (hn : 0 < n) : 0 ≤ x.fmod n ∧ x.fmod n < n := by
  rw [Int.fmod_eq_emod_of_nonneg x (by omega)]
  exact ⟨Int.emod_nonneg _ (by omega), Int.emod_lt_of_pos _ hn⟩
/-- what the two colour functions need, and what comes back, for the colour of a draw -/
theorem hue_facts (d : Int) : hsvOk (qf (d.fmod 64) 64) (qf ((d.fdiv 64).fmod 4 + 1) 4) = true ∧ ∀ x y z, (x, y, z) = hsvF (qf (d.fmod 64) 64) (qf ((d.fdiv 64).fmod 4 + 1) 4) (qf ((d.fdiv 256).fmod 8 + 1) 8) →
    rgbOk x y z = true ∧ Float64.isNaN (hueBack (rgbH x y z)) = false ∧ Float64.isInf (hueBack (rgbH x y z)) = false ∧ Flt.toInt Float64.truncOf (hueBack (rgbH x y z)) = d.fmod 64 := by
  obtain ⟨a0, a1⟩ := fmod_bounds d (n := 64) (by decide)
  obtain ⟨b0, b1⟩ := fmod_bounds (d.fdiv 64) (n := 4) (by decide)
  obtain ⟨c0, c1⟩ := fmod_bounds (d.fdiv 256) (n := 8) (by decide)
  have h := hue_all a0 a1 b0 b1 c0 c1
  unfold hueOk at h
  obtain ⟨h1, h2⟩ := Bool.and_eq_true_iff.mp h
  refine ⟨h1, fun x y z e => ?_⟩
  rw [← e] at h2
  simp only [Bool.and_eq_true, Bool.not_eq_true', decide_eq_true_eq] at h2
  exact ⟨h2.1, h2.2.1.1, h2.2.1.2, h2.2.2⟩
/-- the two heaps behind the draws taken so far -/
def heapsOf (pre : List Int) : List Int × List Int := pre.foldl (fun st d => turnF st (d.fmod 64)) ([], [])
theorem heapsOf_snoc (pre : List Int) (d : Int) : heapsOf (pre ++ [d]) = turnF (heapsOf pre) (d.fmod 64) := by simp [heapsOf]
/-- what holds between the draws -/
inductive S5Inv (D9 ll gl : Addr) (bs : List (Addr × Obj)) (six : List Value) (pre : List Int) (m' : Str → Option Value) (nw : List (Addr × Obj)) : Prop
  | mk (vs1 vs2 : List Value) (k1 k2 : Nat) (h0 : nw = (D9, listOf (List.toArray six) 0) :: (ll, listOf (List.toArray vs1) k1) :: (gl, listOf (List.toArray vs2) k2) :: bs) (h1 : IntsAre vs1 (heapsOf pre).1) (h2 : IntsAre vs2 (heapsOf pre).2) (h3 : (heapsOf pre).1.length = (pre.length + 1) / 2) (h4 : (heapsOf pre).2.length = pre.length / 2) (h5 : m' (Str.ofString "lesser") = some (.ref ll)) (h6 : m' (Str.ofString "greater") = some (.ref gl)) : S5Inv D9 ll gl bs six pre m' nw
theorem seg_c {w : World} {mean : ExcName → Option Value} {mg mb : Str → Option Value} {dp un : Nat} {outer : List Env} {A₀ : Around} {base h₀ : Heap} {L : Addr} {m : Str → Option Value} {s : Shared} {gd : Option (List Code)} {a : Addr} {ccd : Value} {dl ll gl : Addr} {bs : List (Addr × Obj)} {d0 d1 d2 d3 d4 d5 d6 d7 d8 d9 : Int} {u0 u1 u2 u3 u4 u5 u6 u7 u8 u9 : Tok} {n n1 n2 : Nat} {o1 : Obj} {Q : Flow → Shared → Prop}
    (C : Cx w mean mg mb dp un (defScope (topStmt 17)) outer A₀ base h₀ L m s)
    (N : News h₀ L s.heap ((ll, listOf #[] n1) :: (gl, listOf #[] n2) :: bs)) (hlg : @Ne Nat ll gl) (hbl : ∀ p ∈ bs, @Ne Nat p.1 ll) (hbg : ∀ p ∈ bs, @Ne Nat p.1 gl)
    (hdl : (dl, listOf #[.int d0 u0, .int d1 u1, .int d2 u2, .int d3 u3, .int d4 u4, .int d5 u5, .int d6 u6, .int d7 u7, .int d8 u8, .int d9 u9] n) ∈ bs) (hd1 : ((L + 1 : Addr), o1) ∈ bs) (ho1 : o1.data = .cell (some (.ref dl)))
    (ml : m (Str.ofString "lesser") = some (.ref ll)) (mg' : m (Str.ofString "greater") = some (.ref gl))
    (hQ : ∀ h' tk' m' vs1 vs2 k1 k2, Fr h₀ L h' m' → News h₀ L h' ((ll, listOf (List.toArray vs1) k1) :: (gl, listOf (List.toArray vs2) k2) :: bs) → IntsAre vs1 (heapsOf [d0, d1, d2, d3, d4, d5]).1 → IntsAre vs2 (heapsOf [d0, d1, d2, d3, d4, d5]).2 →
      (heapsOf [d0, d1, d2, d3, d4, d5]).1.length = 3 → (heapsOf [d0, d1, d2, d3, d4, d5]).2.length = 3 → m' (Str.ofString "lesser") = some (.ref ll) → m' (Str.ofString "greater") = some (.ref gl) → Q .next { s with heap := h', toks := tk' }) :
    wpAny (model (RowW.prog (OpenRow.toRowW (OpenLaw.row PySem.Challenge.rw_qu0034_01))) w) (ktrTop dp un gd (Str.ofString "law") (defScope (topStmt 17)) L a ccd (cellsFrom (L + 1) (defScope (topStmt 17)).names []) outer) (exec (stmtOf 17 5) (envX (Str.ofString "law") (defScope (topStmt 17)) L a ccd (cellsFrom (L + 1) (defScope (topStmt 17)).names []))) Q (fun _ _ => False) s := by
  obtain ⟨B, F, X, T, hk, hd, hun⟩ := C
  revert X
  k_fill
  intro X
  clear hk
  conv in (occs := *) stmtOf 17 5 => all_goals whnf
  conv in (occs := *) cellsFrom _ _ _ => all_goals whnf
  conv in (occs := *) defScope (topStmt 17) => all_goals whnf
  k_steps
  rename_i D9 h9 F9 N9 l9
  obtain ⟨l0, l1, l2⟩ := l9
  show wpAny _ _ _ _ _ _
  refine list_loop (ns := [d0, d1, d2, d3, d4, d5]) (S5Inv D9 ll gl bs [.int d0 u0, .int d1 u1, .int d2 u2, .int d3 u3, .int d4 u4, .int d5 u5])
    rfl F9 N9 (.head _) rfl rfl (.cons _ _ (.cons _ _ (.cons _ _ (.cons _ _ (.cons _ _ (.cons _ _ .nil)))))) ⟨[], [], _, _, rfl, .nil, .nil, rfl, rfl, by assumption, by assumption⟩ ?step ?fin
  case fin =>
    intro m' nw h tk hInv F' N'
    obtain ⟨vs1, vs2, k1, k2, rfl, hI1, hI2, hl1, hl2, ml2, mg2⟩ := hInv
    exact hQ h tk m' vs1 vs2 k1 k2 F' (cb_drop N' fun p hp => .tail _ hp) hI1 hI2 (by rw [hl1]; simp) (by rw [hl2]; simp) ml2 mg2
  case step =>
    clear F9 N9 ml mg' hQ hdl hd1
    intro I pre d r m' nw it t h tk hns hInv hlt hcl F' N'
    obtain ⟨vs1, vs2, k1, k2, rfl, hI1, hI2, hl1, hl2, ml, mg'⟩ := hInv
    have hlen : pre.length ≤ 5 := by
      have := congrArg List.length hns
      simp at this
      omega
    have hbI : ∀ p ∈ bs, @Ne Nat p.1 I := fun p hp => Nat.ne_of_lt (hlt p (.tail _ (.tail _ (.tail _ hp))))
    clear hns
    have i0 := ltN (hlt _ (.head _))
    have i1 := ltN (hlt _ (.tail _ (.head _)))
    have i2 := ltN (hlt _ (.tail _ (.tail _ (.head _))))
    clear hlt
    obtain ⟨a0, a1⟩ := fmod_bounds d (n := 64) (by decide)
    obtain ⟨b0, b1⟩ := fmod_bounds (d.fdiv 64) (n := 4) (by decide)
    obtain ⟨c0, c1⟩ := fmod_bounds (d.fdiv 256) (n := 8) (by decide)
    obtain ⟨hok, hcol⟩ := hue_facts d
    (try dsimp only)
    (try k_fold)
    k_steps
    show wpAny _ _ _ _ _ _
    refine hsv_spec ⟨by k_asm, by k_asm, by k_asm, by k_asm, rfl, by omega, by omega⟩ (by k_asm) hok ?_
    intro q1 x y z v1 v2 v3 h1 tk1 exyz F1 N1 hne1
    obtain ⟨hrgb, hnan, hinf, hval⟩ := hcol x y z exyz
    clear hne1 exyz
    (try dsimp only)
    k_steps
    show wpAny _ _ _ _ _ _
    refine rgb_spec ⟨by k_asm, by k_asm, by k_asm, by k_asm, rfl, by omega, by omega⟩ (by k_asm) hrgb ?_
    intro q2 x2 y2 z2 w1 w2 w3 h2 tk2 ex2 F2 N2 hne2
    clear hne2
    subst ex2
    have hnan2 : Float64.isNaN (Float64.mul (rgbH x y z) (Float64.ofInt 64)) = false := hnan
    have hinf2 : Float64.isInf (Float64.mul (rgbH x y z) (Float64.ofInt 64)) = false := hinf
    have hval2 : Flt.toInt Float64.truncOf (Float64.mul (rgbH x y z) (Float64.ofInt 64)) = d.fmod 64 := hval
    (try dsimp only)
    k_steps
    all_goals first | exact Bool.false_ne_true (hnan2.symm.trans (by assumption)) | exact Bool.false_ne_true (hinf2.symm.trans (by assumption)) | skip
    refine arg2 (y := -(d.fmod 64)) (by rw [hval2]) ?_
    refine pp_spec (news := ((I, it) :: (D9, listOf #[.int d0 u0, .int d1 u1, .int d2 u2, .int d3 u3, .int d4 u4, .int d5 u5] 0) :: (ll, listOf vs1.toArray k1) :: (gl, listOf vs2.toArray k2) :: bs)) ⟨by k_asm, by k_asm, by k_asm, by k_asm, rfl, by omega, by omega⟩ (cb_drop (by assumption) (List.forall_mem_cons.mpr ⟨by k_mem, List.forall_mem_cons.mpr ⟨by k_mem, List.forall_mem_cons.mpr ⟨by k_mem, List.forall_mem_cons.mpr ⟨by k_mem, (fun p hp => by repeat (first | exact hp | refine List.Mem.tail _ ?_))⟩⟩⟩⟩)) (by k_updF) hI1 (by omega) ?_
    intro v3 vs3 k3 h3 tk3 hv3 hI3 F3 N3
    obtain ⟨t3, rfl⟩ := hv3
    (try dsimp only at N3)
    (try dsimp only)
    k_steps
    show wpAny _ _ _ _ _ _
    refine push_spec ⟨by k_asm, by k_asm, by k_asm, by k_asm, rfl, by omega, by omega⟩ (by k_asm) (by k_updF) hI2 (by omega) ?_
    intro v4 vs4 k4 h4 tk4 hv4 hI4 F4 N4
    subst hv4
    (try dsimp only at N4)
    (try dsimp only)
    have hl3 := ppL_length (heapsOf pre).1 (-(d.fmod 64))
    have hl4 := pushF_length (heapsOf pre).2 (-(ppV (heapsOf pre).1 (-(d.fmod 64)))) (by omega)
    have hl34 : (ppL (heapsOf pre).1 (-(d.fmod 64))).length ≤ 4 := by omega
    have hl44 : (pushF (heapsOf pre).2 (-(ppV (heapsOf pre).1 (-(d.fmod 64))))).length ≤ 4 := by omega
    clear hI1 hI2
    k_steps
    · show wpAny _ _ _ _ _ _
      refine pop_spec ⟨by k_asm, by k_asm, by k_asm, by k_asm, rfl, by omega, by omega⟩ (by k_asm) (by k_updF) hI4 (by omega) (by omega) ?_
      intro v5 vs5 k5 h5 tk5 hv5 hI5 F5 N5
      obtain ⟨t5, rfl⟩ := hv5
      (try dsimp only at N5)
      (try dsimp only)
      k_steps
      show wpAny _ _ _ _ _ _
      refine push_spec ⟨by k_asm, by k_asm, by k_asm, by k_asm, rfl, by omega, by omega⟩ (by k_asm) (by k_updF) hI3 (by omega) ?_
      intro v6 vs6 k6 h6 tk6 hv6 hI6 F6 N6
      subst hv6
      (try dsimp only at N6)
      (try dsimp only)
      k_steps
      have e := heapsOf_snoc pre d
      unfold turnF at e
      rw [if_pos (by omega)] at e
      have e1 := congrArg Prod.fst e
      have e2 := congrArg Prod.snd e
      have z1 := pushF_length (ppL (heapsOf pre).1 (-(d.fmod 64))) (-((pushF (heapsOf pre).2 (-(ppV (heapsOf pre).1 (-(d.fmod 64))))).headD 0)) (by omega)
      have z2 := popF_length (pushF (heapsOf pre).2 (-(ppV (heapsOf pre).1 (-(d.fmod 64))))) (by omega)
      show UnrEnd _ _ _ _ _ _ _
      exact ⟨_, _, _, (D9, _) :: (ll, _) :: (gl, _) :: bs, rfl, (by k_asm), (by k_asm), (by k_all), .head _, _, _, _, _, rfl, (by rw [e1]; exact hI6), (by rw [e2]; exact hI5), (by rw [e1]; (try simp only [List.length_append, List.length_cons, List.length_nil]); (try dsimp only); omega), (by rw [e2]; (try simp only [List.length_append, List.length_cons, List.length_nil]); (try dsimp only); omega), (by assumption), (by assumption)⟩
    · have e := heapsOf_snoc pre d
      unfold turnF at e
      rw [if_neg (by omega)] at e
      have e1 := congrArg Prod.fst e
      have e2 := congrArg Prod.snd e
      show UnrEnd _ _ _ _ _ _ _
      exact ⟨_, _, _, (D9, _) :: (ll, _) :: (gl, _) :: bs, rfl, (by k_asm), (by k_asm), (by k_all), .head _, _, _, _, _, rfl, (by rw [e1]; exact hI3), (by rw [e2]; exact hI4), (by rw [e1]; (try simp only [List.length_append, List.length_cons, List.length_nil]); (try dsimp only); omega), (by rw [e2]; (try simp only [List.length_append, List.length_cons, List.length_nil]); (try dsimp only); omega), (by assumption), (by assumption)⟩
end
section
local macro_rules | `(tactic| walk_at "pyIter ref") => `(tactic| (refine halt_it ?_))
local macro_rules | `(tactic| walk_at "exec For Name Call cons nil") => `(tactic| (k_here; (rename Fr _ _ _ _ => lF'); (with_unfolding_all refine' For_invVF lF' ?k1 ?k2 ?_; (case k1 => exact rfl); (case k2 => exact rfl); k_whole)))

local macro_rules | `(tactic| walk_at "call ref") => `(tactic| (refine halt_call ?_))
theorem cat_led {prog : Program} {w : World} {A : Around} {E : Value → Shared → Prop} {s : Shared} {h₀ : Heap} {L l b : Addr} {m : Str → Option Value} {news : List (Addr × Obj)} {vs ws : List Value} {n1 n2 : Nat} {Q : Value → Shared → Prop} (F : Fr h₀ L s.heap m) (N : News h₀ L s.heap news) (hm : (l, listOf vs.toArray n1) ∈ news) (hm2 : (b, listOf ws.toArray n2) ∈ news) (h4 : vs.length + ws.length ≤ 100)
    (h : ∀ q h', Fr h₀ L h' m → News h₀ L h' ((q, listOf (vs ++ ws).toArray 0) :: news) → (∀ p ∈ news, p.1 < q) → Q (.ref q) { s with heap := h' }) : wpAny (model prog w) A (binaryOp .Add (.ref l) (.ref b)) Q E s :=
  add_lists (hsz := Nat.le_trans h4 (by decide)) F N (⟨_, (N _ hm).1, rfl, n1, rfl⟩ : s.heap.IsList l vs.toArray) ⟨_, (N _ hm2).1, rfl, n2, rfl⟩ fun h' F' N' => h _ h' F' N' fun p hp => Heap.lt_size (N p hp).1
local macro_rules | `(tactic| walk_at "binaryOp Add ref ref") => `(tactic| (k_here; refine cat_led (by k_asm) (by k_asm) (by k_mem) (by k_mem) (by first | omega | (simp only [List.length_cons, List.length_nil]; omega)) ?_; intro q' h' F' N' l1'; k_lt l1'; (try dsimp only)))
theorem small_three : Builtin.Range.small 0 3 1 = true := by decide
/-- the pops, one after the other; the row that the lesser half makes -/
def pops : Nat → List Int → List Int
  | 0, l => l
  | k + 1, l => popF (pops k l)
def rowL (l : List Int) : Nat → List Int
  | 0 => []
  | k + 1 => -((pops k l).headD 0) :: rowL l k
theorem rowL_length (l : List Int) : ∀ k, (rowL l k).length = k
  | 0 => rfl
  | k + 1 => by simp only [rowL, List.length_cons]; rw [rowL_length l k]
theorem pops_length (l : List Int) (h : l.length = 3) : ∀ k, k ≤ 3 → (pops k l).length = 3 - k
  | 0, _ => h
  | k + 1, hk => by
    have := pops_length l h k (by omega)
    simp only [pops]
    rw [popF_length _ (by omega)]
    omega
theorem seg_d1 {w : World} {mean : ExcName → Option Value} {mg mb : Str → Option Value} {dp un : Nat} {outer : List Env} {A₀ : Around} {base h₀ : Heap} {L : Addr} {m : Str → Option Value} {s : Shared} {gd : Option (List Code)} {a : Addr} {ccd : Value} {dl ll gl rl : Addr} {al : Addr} {o1 o2 o3 o4 o5 oa : Obj} {od og : Obj} {vs1 : List Value} {ns : List Int} {k1 n1 : Nat} {Q : Flow → Shared → Prop}
    (C : Cx w mean mg mb dp un (defScope (topStmt 17)) outer A₀ base h₀ L m s)
    (N : News h₀ L s.heap [(rl, listOf #[] n1), (ll, listOf vs1.toArray k1), (gl, og), (dl, od), (L + 1, o1), (L + 1 + 1, o2), (L + 1 + 1 + 1, o3), (L + 1 + 1 + 1 + 1, o4), (L + 1 + 1 + 1 + 1 + 1, o5), (al, oa)])
    (hdl : @LT.lt Nat _ (L + 5) dl) (hal : @LT.lt Nat _ dl al) (hll : @LT.lt Nat _ al ll) (hgl : @LT.lt Nat _ ll gl) (hrl : @LT.lt Nat _ gl rl) (hI : IntsAre vs1 ns) (hlen : ns.length = 3)
    (ml : m (Str.ofString "lesser") = some (.ref ll)) (mg' : m (Str.ofString "greater") = some (.ref gl)) (mr : m (Str.ofString "row") = some (.ref rl))
    (hQ : ∀ h' tk' m' rl' (rv : List Value) kr vs k, Fr h₀ L h' m' → News h₀ L h' [(rl', listOf rv.toArray kr), (ll, listOf (List.toArray vs) k), (gl, og), (dl, od), (L + 1, o1), (L + 1 + 1, o2), (L + 1 + 1 + 1, o3), (L + 1 + 1 + 1 + 1, o4), (L + 1 + 1 + 1 + 1 + 1, o5), (al, oa)] → @LT.lt Nat _ gl rl' → IntsAre rv (rowL ns 3) → m' (Str.ofString "greater") = some (.ref gl) → m' (Str.ofString "row") = some (.ref rl') → Q .next { s with heap := h', toks := tk' }) :
    wpAny (model (RowW.prog (OpenRow.toRowW (OpenLaw.row PySem.Challenge.rw_qu0034_01))) w) (ktrTop dp un gd (Str.ofString "law") (defScope (topStmt 17)) L a ccd (cellsFrom (L + 1) (defScope (topStmt 17)).names []) outer) (exec (stmtOf 17 7) (envX (Str.ofString "law") (defScope (topStmt 17)) L a ccd (cellsFrom (L + 1) (defScope (topStmt 17)).names []))) Q (fun _ _ => False) s := by
  obtain ⟨B, F, X, T, hk, hd, hun⟩ := C
  revert X
  k_fill
  intro X
  clear hk
  conv in (occs := *) stmtOf 17 7 => all_goals whnf
  conv in (occs := *) cellsFrom _ _ _ => all_goals whnf
  conv in (occs := *) defScope (topStmt 17) => all_goals whnf
  k_steps
  show wpAny _ _ _ _ _ _
  refine range_loop (n := 3) (fun i m' nw => ∃ rl' rv kr vs k, nw = [(rl', listOf (List.toArray rv) kr), (ll, listOf (List.toArray vs) k), (gl, og), (dl, od), (L + 1, o1), (L + 1 + 1, o2), (L + 1 + 1 + 1, o3), (L + 1 + 1 + 1 + 1, o4), (L + 1 + 1 + 1 + 1 + 1, o5), (al, oa)] ∧ @LT.lt Nat _ gl rl' ∧ IntsAre rv (rowL ns i) ∧ IntsAre vs (pops i ns) ∧ m' (Str.ofString "lesser") = some (.ref ll) ∧ m' (Str.ofString "greater") = some (.ref gl) ∧ m' (Str.ofString "row") = some (.ref rl'))
    rfl (by assumption) small_three (range_size 3) (by k_asm) (by k_asm) ⟨rl, [], _, _, _, rfl, hrl, .nil, hI, by assumption, by assumption, by assumption⟩ ?step ?fin
  case fin =>
    intro m' nw h tk hInv F' N'
    obtain ⟨rl', rv, kr, vs, k, rfl, hr, hI1, hI2, e1, e2, e3⟩ := hInv
    exact hQ h tk m' rl' rv kr vs k F' N' hr hI1 e2 e3
  case step =>
    (repeat ((rename Fr _ _ _ _ => Fo); clear Fo))
    (repeat ((rename News _ _ _ _ => No); clear No))
    clear ml mg' mr hQ hI
    intro I i m' nw t h tk hi hInv hlt F' N'
    obtain ⟨rl', rv, kr, vs, k, rfl, hr, hI1, hI2, ml, mg', mr⟩ := hInv
    have hpl := pops_length ns hlen i (by omega)
    have hrv : rv.length ≤ 3 := by rw [hI1.length, rowL_length]; omega
    have i0 := ltN (hlt _ (.head _))
    have i1 := ltN (hlt _ (.tail _ (.head _)))
    have i2 := ltN (hlt _ (.tail _ (.tail _ (.head _))))
    have i3 := ltN (hlt _ (.tail _ (.tail _ (.tail _ (.head _)))))
    have i4 := ltN (hlt _ (.tail _ (.tail _ (.tail _ (.tail _ (.head _))))))
    have i5 := ltN (hlt _ (.tail _ (.tail _ (.tail _ (.tail _ (.tail _ (.head _)))))))
    have i6 := ltN (hlt _ (.tail _ (.tail _ (.tail _ (.tail _ (.tail _ (.tail _ (.head _))))))))
    have i7 := ltN (hlt _ (.tail _ (.tail _ (.tail _ (.tail _ (.tail _ (.tail _ (.tail _ (.head _)))))))))
    have i8 := ltN (hlt _ (.tail _ (.tail _ (.tail _ (.tail _ (.tail _ (.tail _ (.tail _ (.tail _ (.head _))))))))))
    have i9 := ltN (hlt _ (.tail _ (.tail _ (.tail _ (.tail _ (.tail _ (.tail _ (.tail _ (.tail _ (.tail _ (.head _)))))))))))
    (try dsimp only)
    (try k_fold)
    k_steps
    show wpAny _ _ _ _ _ _
    refine pop_spec ⟨by k_asm, by k_asm, by k_asm, by k_asm, rfl, by omega, by omega⟩ (by k_asm) (by k_updF) hI2 (by omega) (by omega) ?_
    intro v5 vs5 k5 h5 tk5 hv5 hI5 F5 N5
    obtain ⟨t5, rfl⟩ := hv5
    (try dsimp only at N5)
    (try dsimp only)
    k_steps
    show UnrEnd _ _ _ _ _ _ _
    exact ⟨_, _, _, [(_, _), (ll, _), (gl, og), (dl, od), (L + 1, o1), (L + 1 + 1, o2), (L + 1 + 1 + 1, o3), (L + 1 + 1 + 1 + 1, o4), (L + 1 + 1 + 1 + 1 + 1, o5), (al, oa)], rfl, (by k_asm), (cb_drop (by k_asm) (List.forall_mem_cons.mpr ⟨by k_mem, List.forall_mem_cons.mpr ⟨by k_mem, List.forall_mem_cons.mpr ⟨by k_mem, List.forall_mem_cons.mpr ⟨by k_mem, List.forall_mem_cons.mpr ⟨by k_mem, List.forall_mem_cons.mpr ⟨by k_mem, List.forall_mem_cons.mpr ⟨by k_mem, List.forall_mem_cons.mpr ⟨by k_mem, List.forall_mem_cons.mpr ⟨by k_mem, List.forall_mem_cons.mpr ⟨by k_mem, List.forall_mem_cons.mpr ⟨by k_mem, List.forall_mem_nil _⟩⟩⟩⟩⟩⟩⟩⟩⟩⟩⟩)), (by k_all), _, _, _, _, _, rfl, (by omega), .cons _ _ hI1, hI5, (by assumption), (by assumption), rfl⟩
def rowG (l : List Int) : Nat → List Int
  | 0 => []
  | k + 1 => rowG l k ++ [(pops k l).headD 0]
theorem rowG_length (l : List Int) : ∀ k, (rowG l k).length = k
  | 0 => rfl
  | k + 1 => by simp only [rowG, List.length_append, List.length_cons, List.length_nil]; rw [rowG_length l k]
local macro_rules | `(tactic| walk_at "call builtin:list.append") => `(tactic| (refine halt_call ?_))
theorem seg_d2 {w : World} {mean : ExcName → Option Value} {mg mb : Str → Option Value} {dp un : Nat} {outer : List Env} {A₀ : Around} {base h₀ : Heap} {L : Addr} {m : Str → Option Value} {s : Shared} {gd : Option (List Code)} {a : Addr} {ccd : Value} {dl gl rl : Addr} {al : Addr} {o1 o2 o3 o4 o5 oa : Obj} {od : Obj} {vs2 rv0 : List Value} {ns ms : List Int} {k2 n1 : Nat} {Q : Flow → Shared → Prop}
    (C : Cx w mean mg mb dp un (defScope (topStmt 17)) outer A₀ base h₀ L m s)
    (N : News h₀ L s.heap [(rl, listOf rv0.toArray n1), (gl, listOf vs2.toArray k2), (dl, od), (L + 1, o1), (L + 1 + 1, o2), (L + 1 + 1 + 1, o3), (L + 1 + 1 + 1 + 1, o4), (L + 1 + 1 + 1 + 1 + 1, o5), (al, oa)])
    (hdl : @LT.lt Nat _ (L + 5) dl) (hal : @LT.lt Nat _ dl al) (hgl : @LT.lt Nat _ al gl) (hrl : @LT.lt Nat _ gl rl) (hI : IntsAre vs2 ns) (hlen : ns.length = 3) (hI0 : IntsAre rv0 ms) (hlen0 : ms.length = 3)
    (mg' : m (Str.ofString "greater") = some (.ref gl)) (mr : m (Str.ofString "row") = some (.ref rl))
    (hQ : ∀ h' tk' m' (rv : List Value) kr, Fr h₀ L h' m' → News h₀ L h' [(rl, listOf rv.toArray kr), (dl, od), (L + 1, o1), (L + 1 + 1, o2), (L + 1 + 1 + 1, o3), (L + 1 + 1 + 1 + 1, o4), (L + 1 + 1 + 1 + 1 + 1, o5), (al, oa)] → IntsAre rv (ms ++ rowG ns 3) → m' (Str.ofString "row") = some (.ref rl) → Q .next { s with heap := h', toks := tk' }) :
    wpAny (model (RowW.prog (OpenRow.toRowW (OpenLaw.row PySem.Challenge.rw_qu0034_01))) w) (ktrTop dp un gd (Str.ofString "law") (defScope (topStmt 17)) L a ccd (cellsFrom (L + 1) (defScope (topStmt 17)).names []) outer) (exec (stmtOf 17 8) (envX (Str.ofString "law") (defScope (topStmt 17)) L a ccd (cellsFrom (L + 1) (defScope (topStmt 17)).names []))) Q (fun _ _ => False) s := by
  obtain ⟨B, F, X, T, hk, hd, hun⟩ := C
  revert X
  k_fill
  intro X
  clear hk
  conv in (occs := *) stmtOf 17 8 => all_goals whnf
  conv in (occs := *) cellsFrom _ _ _ => all_goals whnf
  conv in (occs := *) defScope (topStmt 17) => all_goals whnf
  k_steps
  show wpAny _ _ _ _ _ _
  refine range_loop (n := 3) (fun i m' nw => ∃ rv kr vs k, nw = [(rl, listOf (List.toArray rv) kr), (gl, listOf (List.toArray vs) k), (dl, od), (L + 1, o1), (L + 1 + 1, o2), (L + 1 + 1 + 1, o3), (L + 1 + 1 + 1 + 1, o4), (L + 1 + 1 + 1 + 1 + 1, o5), (al, oa)] ∧ IntsAre rv (ms ++ rowG ns i) ∧ IntsAre vs (pops i ns) ∧ m' (Str.ofString "greater") = some (.ref gl) ∧ m' (Str.ofString "row") = some (.ref rl))
    rfl (by assumption) small_three (range_size 3) (by k_asm) (by k_asm) ⟨_, _, _, _, rfl, (by rw [rowG, List.append_nil]; exact hI0), hI, by assumption, by assumption⟩ ?step ?fin
  case fin =>
    intro m' nw h tk hInv F' N'
    obtain ⟨rv, kr, vs, k, rfl, hI1, hI2, e2, e3⟩ := hInv
    exact hQ h tk m' rv kr F' (cb_drop N' fun p hp => by
      rcases List.mem_cons.mp hp with rfl | hp
      · exact .head _
      · exact .tail _ (.tail _ hp)) hI1 e3
  case step =>
    (repeat ((rename Fr _ _ _ _ => Fo); clear Fo))
    (repeat ((rename News _ _ _ _ => No); clear No))
    clear mg' mr hQ hI
    intro I i m' nw t h tk hi hInv hlt F' N'
    obtain ⟨rv, kr, vs, k, rfl, hI1, hI2, mg', mr⟩ := hInv
    have hpl := pops_length ns hlen i (by omega)
    have hrv : rv.length ≤ 10 := by rw [hI1.length, List.length_append, rowG_length, hlen0]; omega
    have i0 := ltN (hlt _ (.head _))
    have i1 := ltN (hlt _ (.tail _ (.head _)))
    have i2 := ltN (hlt _ (.tail _ (.tail _ (.head _))))
    have i3 := ltN (hlt _ (.tail _ (.tail _ (.tail _ (.head _)))))
    have i4 := ltN (hlt _ (.tail _ (.tail _ (.tail _ (.tail _ (.head _))))))
    have i5 := ltN (hlt _ (.tail _ (.tail _ (.tail _ (.tail _ (.tail _ (.head _)))))))
    have i6 := ltN (hlt _ (.tail _ (.tail _ (.tail _ (.tail _ (.tail _ (.tail _ (.head _))))))))
    have i7 := ltN (hlt _ (.tail _ (.tail _ (.tail _ (.tail _ (.tail _ (.tail _ (.tail _ (.head _)))))))))
    have i8 := ltN (hlt _ (.tail _ (.tail _ (.tail _ (.tail _ (.tail _ (.tail _ (.tail _ (.tail _ (.head _))))))))))
    (try dsimp only)
    (try k_fold)
    k_steps
    show wpAny _ _ _ _ _ _
    refine pop_spec ⟨by k_asm, by k_asm, by k_asm, by k_asm, rfl, by omega, by omega⟩ (by k_asm) (by k_updF) hI2 (by omega) (by omega) ?_
    intro v5 vs5 k5 h5 tk5 hv5 hI5 F5 N5
    obtain ⟨t5, rfl⟩ := hv5
    (try dsimp only at N5)
    (try dsimp only)
    k_steps
    show wpAny _ _ _ _ _ _
    refine append_K (by k_asm) (by k_asm) (by k_upd) ?_ (by rw [List.size_toArray]; exact Nat.le_trans hrv (by decide))
    intro h8 F8 N8
    (try dsimp only)
    k_steps
    show UnrEnd _ _ _ _ _ _ _
    rw [List.push_toArray] at N8
    exact ⟨_, _, _, [(rl, _), (gl, _), (dl, od), (L + 1, o1), (L + 1 + 1, o2), (L + 1 + 1 + 1, o3), (L + 1 + 1 + 1 + 1, o4), (L + 1 + 1 + 1 + 1 + 1, o5), (al, oa)], rfl, F8, N8, (by k_all), _, _, _, _, rfl, (by rw [rowG, ← List.append_assoc]; exact hI1.append (.cons _ _ .nil)), hI5, (by assumption), (by assumption)⟩
end
section
local macro_rules | `(tactic| walk_at "eval ListComp") => `(tactic| (k_here; k_dflt (refine LCg.ListComp_U (F₀ := by k_asm) (by with_unfolding_all rfl) (by decide) (by rfl) (by decide) (by rfl) ?_)))
local macro_rules | `(tactic| walk_at "exec Assign cons ListComp") => `(tactic| (k_here; k_dflt (refine LCg.Assign_ListComp_U (F₀ := by k_asm) (by rfl) (by with_unfolding_all rfl) (by with_unfolding_all rfl) (by decide) (by rfl) (by decide) (by rfl) (by rfl) (by rfl) ?_)))
local macro_rules | `(tactic| walk_at "CompSrc") => `(tactic| (k_here; k_dflt (first
  | (refine LCg.CompSrc.ledger (by rfl) (by k_asm) (by k_asm) (by k_mem) (by first | size_fits | exact Nat.le_of_ble_eq_true rfl) ?_; intro g'; lcg_lit)
  | (refine LCg.CompSrc.range (by rfl) (by k_asm) (by k_asm) (by assumption) (by first | decide | rfl) (by first | rfl | decide) (by first | size_fits | exact Nat.le_of_ble_eq_true rfl) ?_; intro g'; lcg_lit))))

section
variable {prog : Program} {w : World} {A : Around} {s : Shared} {h₀ : Heap} {L : Addr} {m : Str → Option Value} {env : Env} {elt : Expr} {x : Str} {scope : Scope} {cl : List (Str × Addr)}
/-- a list comprehension by an invariant -/
theorem comp_ind {S : List (Addr × Obj) → Prop} {P : Nat → Value → Prop} {Fin : List Value → List (Addr × Obj) → Prop} {n : Nat} {news : List (Addr × Obj)} (Inv : Nat → List Value → List (Addr × Obj) → Prop)
    (h0 : Inv 0 [] news)
    (step : ∀ i ys nw v I oI C oC D m₂ h tk (E' : Value → Shared → Prop), i < n → Inv i ys nw → P i v → LCg.NsObj oC m₂ → m₂ x = some v → Fr h₀ L h m → News h₀ L h ((I, oI) :: (C, oC) :: (D, LCg.lst ys) :: nw) → LCg.Off3 I C D nw → ((@Ne Nat I C) ∧ (@Ne Nat I D) ∧ (@Ne Nat C D)) →
      wpAny (model prog w) A (eval elt (compEnvC scope cl C env)) (LCg.CompEnd h₀ L m { s with heap := h, toks := tk } I oI C oC D (LCg.lst ys) S (fun y nw' => Inv (i + 1) (ys ++ [y]) nw')) E' { s with heap := h, toks := tk })
    (fin : ∀ ys nw, Inv n ys nw → Fin ys nw) : LCg.CompRest prog w A h₀ L m env elt x scope cl s S P Fin n 0 [] news := by
  have key : ∀ k i ys nw, i + k = n → Inv i ys nw → LCg.CompRest prog w A h₀ L m env elt x scope cl s S P Fin k i ys nw := by
    intro k
    induction k with
    | zero => intro i ys nw e hi; obtain rfl : i = n := by omega
              exact LCg.CompRest.zero (fin ys nw hi)
    | succ k ih =>
      intro i ys nw e hi
      refine LCg.CompRest.succ fun v I oI C oC D m₂ h tk E' hv hC hx F N off ne => ?_
      refine wpAny_mono (step i ys nw v I oI C oC D m₂ h tk E' (by omega) hi hv hC hx F N off ne) (fun y s₂ hq => ?_) fun _ _ e => e
      obtain ⟨h', tk', nw', e', F', N', off', hS, hr⟩ := hq
      exact ⟨h', tk', nw', e', F', N', off', hS, ih (i + 1) _ nw' (by omega) hr⟩
  exact key n 0 [] news (by omega) h0
end
theorem off1_mem {D : Addr} : ∀ {l : List (Addr × Obj)}, LCg.Off1 D l → ∀ p ∈ l, p.1 ≠ D
  | [], _, _, h => nomatch h
  | _ :: _, x, p, h => by
    rcases List.mem_cons.mp h with rfl | h
    · exact x.1
    · exact off1_mem x.2 p h
/-- a row of the table: its list, all nought -/
def Zeros (r : Addr) (nw : List (Addr × Obj)) : Prop := ∃ vs : List Value, IntsAre vs [0, 0, 0, 0, 0, 0] ∧ (r, listOf vs.toArray 0) ∈ nw
theorem off_lt {I C D b : Addr} {p : Addr × Obj} (h1 : I < b) (h2 : C < b) (h3 : D < b) (e : p.1 = b) : p.1 ≠ I ∧ p.1 ≠ C ∧ p.1 ≠ D := by
  rw [e]; exact ⟨(Nat.ne_of_lt h1).symm, (Nat.ne_of_lt h2).symm, (Nat.ne_of_lt h3).symm⟩
theorem allLt_mem {d : Nat} : ∀ {l : List (Addr × Obj)}, AllLt d l → ∀ p ∈ l, @LT.lt Nat _ p.1 d
  | [], _, _, h => nomatch h
  | _ :: _, x, p, h => by
    rcases List.mem_cons.mp h with rfl | h
    · exact x.1
    · exact allLt_mem x.2 p h
theorem six_of {rs : List Addr} (h : rs.length = 6) : ∃ r0 r1 r2 r3 r4 r5, rs = [r0, r1, r2, r3, r4, r5] := by
  match rs, h with
  | [a, b, c, d, e, f], _ => exact ⟨a, b, c, d, e, f, rfl⟩
theorem seg_10 {w : World} {mean : ExcName → Option Value} {mg mb : Str → Option Value} {dp un : Nat} {outer : List Env} {A₀ : Around} {base h₀ : Heap} {L : Addr} {m : Str → Option Value} {s : Shared} {gd : Option (List Code)} {a : Addr} {ccd : Value} {bs : List (Addr × Obj)} {Q : Flow → Shared → Prop}
    (C : Cx w mean mg mb dp un (defScope (topStmt 17)) outer A₀ base h₀ L m s)
    (N : News h₀ L s.heap bs)
    (hQ : ∀ h' tk' fl (rs : List Addr) nw, rs.length = 6 → Fr h₀ L h' (fun y => if y = Str.ofString "far" then some (.ref fl) else m y) → News h₀ L h' ((fl, LCg.lst (rs.map Value.ref)) :: nw) → (∀ p ∈ nw, p.1 ≠ fl) → (∀ p ∈ bs, p ∈ nw) → (∀ r ∈ rs, Zeros r nw) → rs.Pairwise (fun (a b : Nat) => a < b) → (∀ r ∈ rs, ∀ p ∈ bs, @LT.lt Nat _ p.1 r) → Q .next { s with heap := h', toks := tk' }) :
    wpAny (model (RowW.prog (OpenRow.toRowW (OpenLaw.row PySem.Challenge.rw_qu0034_01))) w) (ktrTop dp un gd (Str.ofString "law") (defScope (topStmt 17)) L a ccd (cellsFrom (L + 1) (defScope (topStmt 17)).names []) outer) (exec (stmtOf 17 10) (envX (Str.ofString "law") (defScope (topStmt 17)) L a ccd (cellsFrom (L + 1) (defScope (topStmt 17)).names []))) Q (fun _ _ => False) s := by
  obtain ⟨B, F, X, T, hk, hd, hun⟩ := C
  revert X
  k_fill
  intro X
  clear hk
  conv in (occs := *) stmtOf 17 10 => all_goals whnf
  conv in (occs := *) cellsFrom _ _ _ => all_goals whnf
  conv in (occs := *) defScope (topStmt 17) => all_goals whnf
  iterate 8 walk1
  show LCg.CompSrc _ _ _ _ _ _ _ _ _ _ _ _ _ _
  refine LCg.CompSrc.range (by rfl) (by k_asm) (by k_asm) (by assumption) (by first | decide | rfl) (by first | rfl | decide) (by first | size_fits | exact Nat.le_of_ble_eq_true rfl) ?_
  intro g'
  refine comp_ind (n := 6) (fun i ys nw => ∃ rs : List Addr, rs.length = i ∧ ys = rs.map Value.ref ∧ (∀ p ∈ bs, p ∈ nw) ∧ (∀ r ∈ rs, Zeros r nw) ∧ rs.Pairwise (fun (a b : Nat) => a < b) ∧ ∀ r ∈ rs, ∀ p ∈ bs, @LT.lt Nat _ p.1 r) ⟨[], rfl, rfl, fun _ h => h, (fun _ h => nomatch h), .nil, fun _ h => nomatch h⟩ ?step ?fin
  case step =>
    intro i ys nw v I oI C oC D m₂ h tk E' hi hInv hv hC hx F9 N9 off ne
    k_steps
    rename_i l8 h8 F8 N8 l9 D7 h7 F7 N7 i7 n7 s7 e7 e71 e72 l7
    show LCg.CompEnd _ _ _ _ _ _ _ _ _ _ _ _ _ _
    obtain ⟨rs, hr1, hr2, hr3, hr4, hr5, hr6⟩ := hInv
    obtain ⟨q1, q2, q3, q4, q5⟩ := l7
    refine LCg.CompEnd.intro F7 N7 ((D7, listOf (List.replicate (Int.toNat 6) [Value.int 0 tk]).flatten.toArray 0) :: nw) ?_ ?_ trivial ⟨rs ++ [D7], ?_, ?_, ?_, ?_, ?_, ?_⟩
    · intro p hp
      rcases List.mem_cons.mp hp with rfl | hp
      · exact .tail _ (.tail _ (.head _))
      rcases List.mem_cons.mp hp with rfl | hp
      · exact .tail _ (.tail _ (.tail _ (.head _)))
      rcases List.mem_cons.mp hp with rfl | hp
      · exact .tail _ (.tail _ (.tail _ (.tail _ (.head _))))
      rcases List.mem_cons.mp hp with rfl | hp
      · exact .head _
      · exact .tail _ (.tail _ (.tail _ (.tail _ (.tail _ hp))))
    · exact ⟨⟨(Nat.ne_of_lt q2).symm, (Nat.ne_of_lt q3).symm, (Nat.ne_of_lt q4).symm⟩, off⟩
    · rw [List.length_append, hr1]; rfl
    · rw [List.map_append, hr2]; rfl
    · exact fun p hp => .tail _ (hr3 p hp)
    · intro r hr
      rcases List.mem_append.mp hr with hr | hr
      · obtain ⟨vs, hv1, hv2⟩ := hr4 r hr
        exact ⟨vs, hv1, .tail _ hv2⟩
      · rw [List.mem_singleton.mp hr]
        exact ⟨_, i7, .head _⟩
    · refine List.pairwise_append.mpr ⟨hr5, List.pairwise_singleton _ _, fun a ha b hb => ?_⟩
      rw [List.mem_singleton.mp hb]
      obtain ⟨vs, hv1, hv2⟩ := hr4 a ha
      exact allLt_mem q5 _ hv2
    · intro r hr p hp
      rcases List.mem_append.mp hr with hr | hr
      · exact hr6 r hr p hp
      · rw [List.mem_singleton.mp hr]
        exact allLt_mem q5 _ (hr3 p hp)
  case fin =>
    rintro ys nw ⟨rs, hr1, rfl, hr3, hr4, hr5, hr6⟩ D h tk F' N' o1
    exact hQ h tk D rs nw hr1 F' N' (off1_mem o1) hr3 hr4 hr5 hr6
end
end Mine
namespace Mine
section
variable {prog : Program} {w : World} {A : Around} {E : Value → Shared → Prop} {s : Shared} {env : Env} {h₀ : Heap} {x : Str} {px : Pos} {body : List Stmt} {Q : Flow → Shared → Prop}
/-- a for over a range by ones, whatever kind of name it stores, by an invariant of the frame and the ledger -/
theorem range_turns {r : Addr} {a₀ b₀ : Int} {t₀ u₀ v₀ : Tok} {n : Nat} {m₀ : Str → Option Value} {news : List (Addr × Obj)} (Inv : Nat → (Str → Option Value) → List (Addr × Obj) → Prop)
    (hh : A.handled = none) (hr : IsRange s.heap r a₀ b₀ 1 t₀ u₀ v₀) (hsmall : Builtin.Range.small a₀ b₀ 1 = true) (hn : Builtin.Range.rangeSize a₀ b₀ 1 = (n : Int)) (F : Fr h₀ env.locals s.heap m₀) (N : News h₀ env.locals s.heap news)
    (h0 : Inv 0 m₀ news)
    (step : ∀ (I : Addr) (i : Nat) (m : Str → Option Value) (nw : List (Addr × Obj)) (t : Tok) (h : Heap) (tk : Nat), i < n → Inv i m nw → (∀ p ∈ news, p.1 < I) → (∀ p ∈ nw, p.1 ≠ I) → Fr h₀ env.locals h m →
      News h₀ env.locals h ((I, itR (a₀ + ((i + 1 : Nat) : Int)) ((n : Int) - ((i + 1 : Nat) : Int))) :: nw) →
      wpAny (model prog w) A (assign (.Name x px) env (.int (a₀ + (i : Int)) t)) (fun _ s₃ => wpAny (model prog w) A (execs body env) (Turn h₀ env.locals { s with heap := h, toks := tk } I (itR (a₀ + ((i + 1 : Nat) : Int)) ((n : Int) - ((i + 1 : Nat) : Int))) (Inv (i + 1)) Q) E s₃) E { s with heap := h, toks := tk })
    (fin : ∀ m nw h tk, Inv n m nw → Fr h₀ env.locals h m → News h₀ env.locals h nw → Q .next { s with heap := h, toks := tk }) :
    wpAny (model prog w) A (pyIter (.ref r)) (fun it s₂ => TurnsAt prog w A h₀ env (.Name x px) body Q E it s₂) E s := by
  refine wpAny_pyIter_range hr hsmall ?_
  have hIlt : ∀ p ∈ news, p.1 < s.heap.objs.size := fun p hp => Heap.lt_size (N p hp).1
  have W : Walks prog w A s.heap.objs.size [s.heap.objs.size] [s.heap.objs.size] n (fun i v => i < n ∧ ∃ t, v = .int (a₀ + i * 1) t)
      (fun i h => IsRangeIter h s.heap.objs.size (a₀ + (i : Nat) * 1) ((n : Int) - (i : Nat)) 1) := (Walks.range hh _ a₀ 1 n).bound
  have hnew := next_is_new F
  have KT := KTurns.ofWalks (target := .Name x px) W (fun i v s Q E st q => (wpAny_pure q : wpAny (model prog w) A (letOwnedTupleGo (.Name x px) (.ref _) v) Q E s))
  refine ⟨_, _, _, n, _, _, _, m₀, news, Inv, rfl, KT, ?_, ?_, ?_, (by show IsRangeIter _ _ _ _ _; rw [hn]; simpa using Heap.get?_push_size _ rfl), F.push _, (fun p hp => ⟨Heap.get?_push_of_some _ (N p hp).1, (N p hp).2⟩), h0, ?_, ?_⟩
  · intro hm
    exact absurd F.ns.lt ((List.mem_singleton.mp hm) ▸ Nat.lt_irrefl _)
  · intro b hb
    rw [List.mem_singleton.mp hb]
    exact hnew
  · intro p hp hI
    exact absurd (Heap.lt_size (N p hp).1) ((List.mem_singleton.mp hI) ▸ Nat.lt_irrefl _)
  · rintro i v m₁ news₁ hh' tk' own hin ⟨_, t, rfl⟩ hJ hoff hown hget hall hst F₁ N₁
    have hst' : hh'.get? s.heap.objs.size = some (itR (a₀ + ((i + 1 : Nat) : Int)) ((n : Int) - ((i + 1 : Nat) : Int))) := by
      have q : IsRangeIter hh' s.heap.objs.size (a₀ + ((i + 1 : Nat) : Int) * 1) ((n : Int) - ((i + 1 : Nat) : Int)) 1 := hst
      rw [Int.mul_one] at q
      exact q
    have hmem := hall s.heap.objs.size (List.mem_singleton.mpr rfl) hnew _ hst'
    have N₂ : News h₀ env.locals hh' ((s.heap.objs.size, itR (a₀ + ((i + 1 : Nat) : Int)) ((n : Int) - ((i + 1 : Nat) : Int))) :: news₁) := fun p hp => by
      rcases List.mem_cons.mp hp with rfl | hp
      · exact N₁ _ (List.mem_append_left _ hmem)
      · exact N₁ _ (List.mem_append_right _ hp)
    have e1 : a₀ + (i : Int) * 1 = a₀ + (i : Int) := by rw [Int.mul_one]
    rw [e1]
    have key := step s.heap.objs.size i m₁ news₁ t hh' tk' hin hJ hIlt (fun p hp e => hoff p hp (List.mem_singleton.mpr e)) F₁ N₂
    refine wpAny_mono key (fun _ s₃ h₃ => wpAny_mono h₃ (fun f s₂ p => ?_) fun _ _ e => e) fun _ _ e => e
    have fin : UnrEnd h₀ env.locals { s with heap := hh', toks := tk' } s.heap.objs.size (itR (a₀ + ((i + 1 : Nat) : Int)) ((n : Int) - ((i + 1 : Nat) : Int))) (Inv (i + 1)) s₂ →
        LoopStepU h₀ env.locals [s.heap.objs.size] own (Inv (i + 1)) { s with heap := hh', toks := tk' } .next s₂ := by
      rintro ⟨h', tk, m', news', e, F', N', ho, r⟩
      refine ⟨rfl, h', tk, m', news', e, F', fun p hp => ?_, fun p hp hI => ho p hp (List.mem_singleton.mp hI), r⟩
      rcases List.mem_append.mp hp with hp | hp
      · have h1 : p.1 = s.heap.objs.size := List.mem_singleton.mp (hown p hp)
        have h2 : hh'.get? p.1 = some p.2 := hget p hp
        have h3 : p = (s.heap.objs.size, itR (a₀ + ((i + 1 : Nat) : Int)) ((n : Int) - ((i + 1 : Nat) : Int))) := by
          rw [h1, hst'] at h2
          exact Prod.ext h1 (Option.some.inj h2).symm
        rw [h3]; exact N' _ (List.mem_cons_self ..)
      · exact N' _ (List.mem_cons_of_mem _ hp)
    cases f with
    | ret v => exact .ret p
    | brk => exact .brk p
    | next => exact .next (fin p)
    | cont => exact .cont (fin p)
  · rintro h' tk m' news' F' N' _ hJ
    exact fin m' news' h' tk hJ F' N'
end
def forBody : Stmt → List Stmt
  | .For _ _ b _ _ => b
  | _ => []
/-- what stands at place k of a statement's body -/
def bodyAt (st : Stmt) (k : Nat) : Stmt := (forBody st).getD k (.Pass ⟨0, 0, 0, 0⟩)
end Mine
namespace Mine
/-- the distance of two words told by their letters -/
def dB (B : Nat → Nat → Bool) (i j : Nat) : Int := dist (B i 0) (B i 1) (B i 2) (B i 3) (B j 0) (B j 1) (B j 2) (B j 3)
theorem apart_self (b : Bool) : apart b b = 0 := by cases b <;> rfl
theorem dB_self (B : Nat → Nat → Bool) (i : Nat) : dB B i i = 0 := by simp [dB, dist, apart_self]
theorem dB_comm (B : Nat → Nat → Bool) (i j : Nat) : dB B i j = dB B j i := by
  unfold dB dist
  rw [apart_comm (B i 0), apart_comm (B i 1), apart_comm (B i 2), apart_comm (B i 3)]
/-- the table's entry while the outer turn is i, the inner j -/
def tabF (B : Nat → Nat → Bool) (i j k m : Nat) : Int := if max k m < i ∨ (max k m = i ∧ min k m < j) then dB B k m else 0
def rowF (B : Nat → Nat → Bool) (i j k : Nat) : List Int := (List.range 6).map (tabF B i j k)
theorem rowF_length (B : Nat → Nat → Bool) (i j k : Nat) : (rowF B i j k).length = 6 := by simp [rowF]
theorem rowF_start (B : Nat → Nat → Bool) (k : Nat) : rowF B 0 0 k = [0, 0, 0, 0, 0, 0] := by
  have h : ∀ m, tabF B 0 0 k m = 0 := fun m => by unfold tabF; rw [if_neg (by omega)]
  unfold rowF
  rw [List.map_congr_left (fun m _ => h m)]
  rfl
theorem tabF_next (B : Nat → Nat → Bool) (i k m : Nat) : tabF B i i k m = tabF B (i + 1) 0 k m := by
  unfold tabF
  by_cases h : k = m
  · subst h; rw [dB_self]; simp
  · by_cases h2 : max k m < i + 1
    · rw [if_pos (by omega), if_pos (by omega)]
    · rw [if_neg (by omega), if_neg (by omega)]
theorem rowF_next (B : Nat → Nat → Bool) (i k : Nat) : rowF B i i k = rowF B (i + 1) 0 k := by
  unfold rowF
  exact List.map_congr_left fun m _ => tabF_next B i k m
theorem rowF_end (B : Nat → Nat → Bool) (k : Nat) (hk : k < 6) : rowF B 6 0 k = (List.range 6).map (dB B k) := by
  unfold rowF
  refine List.map_congr_left fun m hm => ?_
  have := List.mem_range.mp hm
  unfold tabF
  rw [if_pos (by omega)]
theorem tab_ext {f g : Nat → Int} {v : Int} {j : Nat} (h : ∀ m, g m = if m = j then v else f m) : ((List.range 6).map f).set j v = (List.range 6).map g := by
  apply List.ext_getElem
  · simp
  · intro k h1 h2
    rw [List.getElem_set]
    simp only [List.getElem_map, List.getElem_range]
    rw [h k]
    by_cases e : j = k
    · rw [if_pos e, if_pos e.symm]
    · rw [if_neg e, if_neg (fun x => e x.symm)]
theorem rowF_set_i (B : Nat → Nat → Bool) {i j : Nat} (h : j < i) : (rowF B i j i).set j (dB B i j) = rowF B i (j + 1) i := by
  refine tab_ext fun m => ?_
  unfold tabF
  by_cases e : m = j
  · subst e; rw [if_pos rfl, if_pos (by omega)]
  · rw [if_neg e]
    by_cases h2 : max i m < i ∨ (max i m = i ∧ min i m < j)
    · rw [if_pos h2, if_pos (by omega)]
    · rw [if_neg h2, if_neg (by omega)]
theorem rowF_set_j (B : Nat → Nat → Bool) {i j : Nat} (h : j < i) : (rowF B i j j).set i (dB B i j) = rowF B i (j + 1) j := by
  refine tab_ext fun m => ?_
  unfold tabF
  by_cases e : m = i
  · subst e; rw [if_pos rfl, if_pos (by omega), dB_comm]
  · rw [if_neg e]
    by_cases h2 : max j m < i ∨ (max j m = i ∧ min j m < j)
    · rw [if_pos h2, if_pos (by omega)]
    · rw [if_neg h2, if_neg (by omega)]
theorem rowF_other (B : Nat → Nat → Bool) {i j k : Nat} (h : j < i) (h1 : k ≠ i) (h2 : k ≠ j) : rowF B i j k = rowF B i (j + 1) k := by
  unfold rowF
  refine List.map_congr_left fun m _ => ?_
  unfold tabF
  by_cases h3 : max k m < i ∨ (max k m = i ∧ min k m < j)
  · rw [if_pos h3, if_pos (by omega)]
  · rw [if_neg h3, if_neg (by omega)]
/-- all the distances added up, while the outer turn is i, the inner j -/
def whF (B : Nat → Nat → Bool) (i j : Nat) : Int := csum (fun a => csum (dB B a) a) i + csum (dB B i) j
theorem whF_start (B : Nat → Nat → Bool) : whF B 0 0 = 0 := rfl
theorem whF_step (B : Nat → Nat → Bool) (i j : Nat) : whF B i j + dB B i j = whF B i (j + 1) := by
  unfold whF
  show _ = _ + (csum (dB B i) j + dB B i j)
  omega
theorem whF_next (B : Nat → Nat → Bool) (i : Nat) : whF B i i = whF B (i + 1) 0 := by
  unfold whF
  show _ = (csum (fun a => csum (dB B a) a) i + csum (dB B i) i) + 0
  omega
/-- the six rows in the ledger -/
def rowsL (rs : List Addr) (V : Nat → List Value) : List (Addr × Obj) := (List.range 6).map fun k => (rs.getD k 0, listOf (V k).toArray 0)
theorem rowsL_mem {rs : List Addr} {V : Nat → List Value} {k : Nat} (h : k < 6) : (rs.getD k 0, listOf (V k).toArray 0) ∈ rowsL rs V := List.mem_map.mpr ⟨k, List.mem_range.mpr h, rfl⟩
theorem rowsL_of {rs : List Addr} {V : Nat → List Value} {p : Addr × Obj} (h : p ∈ rowsL rs V) : ∃ k, k < 6 ∧ p = (rs.getD k 0, listOf (V k).toArray 0) := by
  obtain ⟨k, hk, e⟩ := List.mem_map.mp h
  exact ⟨k, List.mem_range.mp hk, e.symm⟩
theorem getD_at {rs : List Addr} {i : Nat} (hi : i < rs.length) : rs.getD i 0 = rs[i] := by simp [List.getD, hi]
theorem getD_inj {rs : List Addr} (hp : rs.Pairwise (fun (a b : Nat) => a < b)) {i j : Nat} (hi : i < rs.length) (hj : j < rs.length) (h : i ≠ j) : @Ne Nat (rs.getD i 0) (rs.getD j 0) := by
  have hp' := List.pairwise_iff_getElem.mp hp
  rw [getD_at hi, getD_at hj]
  rcases Nat.lt_or_gt_of_ne h with h | h
  · exact Nat.ne_of_lt (hp' i j hi hj h)
  · exact (Nat.ne_of_lt (hp' j i hj hi h)).symm
theorem getD_mem {rs : List Addr} {i : Nat} (hi : i < rs.length) : rs.getD i 0 ∈ rs := by
  rw [getD_at hi]; exact List.getElem_mem hi
theorem range_small6 : ∀ {n : Nat}, n ≤ 6 → Builtin.Range.small 0 (n : Int) 1 = true
  | 0, _ => by decide
  | 1, _ => by decide
  | 2, _ => by decide
  | 3, _ => by decide
  | 4, _ => by decide
  | 5, _ => by decide
  | 6, _ => by decide
  | n + 7, h => absurd h (by omega)
end Mine
namespace Mine
section
variable {prog : Program} {w : World} {A : Around} {s : Shared} {h₀ : Heap} {L : Addr} {m : Str → Option Value} {env : Env} {ct elt : Expr} {x : Str} {scope : Scope} {cl : List (Str × Addr)}
/-- a list comprehension with a test, by an invariant -/
theorem comp_indT {S : List (Addr × Obj) → Prop} {P : Nat → Value → Prop} {Fin : List Value → List (Addr × Obj) → Prop} {n : Nat} {news : List (Addr × Obj)} (Inv : Nat → List Value → List (Addr × Obj) → Prop)
    (h0 : Inv 0 [] news)
    (step : ∀ i ys nw v I oI C oC D m₂ h tk (E' : Value → Shared → Prop), i < n → Inv i ys nw → P i v → LCg.NsObj oC m₂ → m₂ x = some v → Fr h₀ L h m → News h₀ L h ((I, oI) :: (C, oC) :: (D, LCg.lst ys) :: nw) → LCg.Off3 I C D nw → ((@Ne Nat I C) ∧ (@Ne Nat I D) ∧ (@Ne Nat C D)) →
      wpAny (model prog w) A (isTrue ct (compEnvC scope cl C env) (eval ct (compEnvC scope cl C env))) (fun ok s' => if ok = true then
        wpAny (model prog w) A (eval elt (compEnvC scope cl C env)) (LCg.CompEnd h₀ L m { s with heap := h, toks := tk } I oI C oC D (LCg.lst ys) S (fun y nw' => Inv (i + 1) (ys ++ [y]) nw')) E' s'
        else LCg.CompEnd h₀ L m { s with heap := h, toks := tk } I oI C oC D (LCg.lst ys) S (fun _ nw' => Inv (i + 1) ys nw') Value.none s') E' { s with heap := h, toks := tk })
    (fin : ∀ ys nw, Inv n ys nw → Fin ys nw) : LCt.CompRestT prog w A h₀ L m env ct elt x scope cl s S P Fin n 0 [] news := by
  have key : ∀ k i ys nw, i + k = n → Inv i ys nw → LCt.CompRestT prog w A h₀ L m env ct elt x scope cl s S P Fin k i ys nw := by
    intro k
    induction k with
    | zero => intro i ys nw e hi; obtain rfl : i = n := by omega
              exact LCt.CompRestT.zero (fin ys nw hi)
    | succ k ih =>
      intro i ys nw e hi
      refine LCt.CompRestT.succ fun v I oI C oC D m₂ h tk E' hv hC hx F N off ne => ?_
      have conv : ∀ {oI oC : Obj} {ys' : Value → List Value} {y : Value} {s₂ : Shared}, LCg.CompEnd h₀ L m { s with heap := h, toks := tk } I oI C oC D (LCg.lst ys) S (fun y nw' => Inv (i + 1) (ys' y) nw') y s₂ →
          LCg.CompEnd h₀ L m { s with heap := h, toks := tk } I oI C oC D (LCg.lst ys) S (fun y nw' => LCt.CompRestT prog w A h₀ L m env ct elt x scope cl s S P Fin k (i + 1) (ys' y) nw') y s₂ := by
        rintro oI oC ys' y s₂ ⟨h', tk', nw', e', F', N', off', hS, hr⟩
        exact ⟨h', tk', nw', e', F', N', off', hS, ih (i + 1) _ nw' (by omega) hr⟩
      refine wpAny_mono (step i ys nw v I oI C oC D m₂ h tk E' (by omega) hi hv hC hx F N off ne) (fun ok s₂ hq => ?_) fun _ _ e => e
      cases ok with
      | true =>
        simp only [if_true] at hq ⊢
        exact wpAny_mono hq (fun y s₃ h₃ => conv (ys' := fun y => ys ++ [y]) h₃) fun _ _ e => e
      | false =>
        simp only [Bool.false_eq_true, if_false] at hq ⊢
        exact conv (ys' := fun _ => ys) hq
  exact key n 0 [] news (by omega) h0
theorem halt_srcT {Fin : Shared → List Value → List (Addr × Obj) → Prop} {xv : Value} {s₁ : Shared} (h : Halt (LCt.CompSrcT prog w A h₀ L m env ct elt x scope cl Fin xv s₁)) : LCt.CompSrcT prog w A h₀ L m env ct elt x scope cl Fin xv s₁ := h
theorem halt_src {Fin : Shared → List Value → List (Addr × Obj) → Prop} {xv : Value} {s₁ : Shared} (h : Halt (LCg.CompSrc prog w A h₀ L m env elt x scope cl Fin xv s₁)) : LCg.CompSrc prog w A h₀ L m env elt x scope cl Fin xv s₁ := h
end
section
variable {prog : Program} {w : World} {A : Around} {E : Value → Shared → Prop} {s : Shared} {h₀ : Heap} {L : Addr} {news : List (Addr × Obj)}
theorem led_ref {value slice : PySem.Expr} {l : Addr} {rs : List Addr} {n : Nat} {i : Int} {u : Tok} {Q : Value → Shared → Prop} (N : News h₀ L s.heap news) (hm : (l, ({ cls := .type "list", data := .seq (rs.map Value.ref).toArray n } : Obj)) ∈ news) (hrs : rs.length = 6) (h0 : 0 ≤ i) (h1 : i < 6) (h : Q (.ref (rs.getD i.toNat 0)) s)
    (hs : subscripted slice false (.ref l) (.int i u) = operate [.ref l, .int i u] (getItem (.ref l) (.int i u)) := by with_unfolding_all rfl) :
    wpAny (model prog w) A (subscriptTail value slice (.ref l) (.int i u)) Q E s := by
  have hl : s.heap.IsList l (rs.map Value.ref).toArray := PySem.IsL.isList (n := n) (N _ hm).1
  refine tail_any hl.typeIs slot_list_getitem.lookup (wpAny_getItem_list hl h0 (by omega) ?_ h) hs
  simp [show i.toNat < rs.length by omega]
theorem row_at {value slice : PySem.Expr} {rs : List Addr} {V : Nat → List Value} {T : Nat → Nat → Int} {x y : Int} {u : Tok} {Q : Value → Shared → Prop} (N : News h₀ L s.heap news) (hrows : ∀ k, k < 6 → (rs.getD k 0, listOf (V k).toArray 0) ∈ news) (hV : ∀ k, k < 6 → IntsAre (V k) ((List.range 6).map (T k)))
    (h0 : 0 ≤ x) (h1 : x < 6) (h2 : 0 ≤ y) (h3 : y < 6) (h : ∀ t, Q (.int (T x.toNat y.toNat) t) s)
    (hs : subscripted slice false (.ref (rs.getD x.toNat 0)) (.int y u) = operate [.ref (rs.getD x.toNat 0), .int y u] (getItem (.ref (rs.getD x.toNat 0)) (.int y u)) := by with_unfolding_all rfl) :
    wpAny (model prog w) A (subscriptTail value slice (.ref (rs.getD x.toNat 0)) (.int y u)) Q E s := by
  refine ksa_sub N (hrows _ (by omega)) (hV _ (by omega)) h2 (by simpa using h3) (by omega) (fun t => ?_) hs
  have e : ((List.range 6).map (T x.toNat)).getD y.toNat 0 = T x.toNat y.toNat := by
    simp [show y.toNat < 6 by omega]
  rw [e]
  exact h t
end
/-- the words left over beside the first and its mate; beside the second and its mate -/
def leftN (one : Nat) : List Nat := [1, 2, 3, 4, 5].filter (· ≠ one)
def lastN (one two : Nat) : List Nat := ([1, 2, 3].filter (· ≠ two)).map fun k => (leftN one).getD k 0
def pairW (T : Nat → Nat → Int) (one two : Nat) : Int := T 0 one + T ((leftN one).getD 0 0) ((leftN one).getD two 0) + T ((lastN one two).getD 0 0) ((lastN one two).getD 1 0)
theorem leftN_facts : ∀ one, one < 6 → 1 ≤ one → (leftN one).length = 4 ∧ ∀ k, k < 4 → 1 ≤ (leftN one).getD k 0 ∧ (leftN one).getD k 0 < 6 := by decide
theorem lastN_all : ∀ one ∈ [1, 2, 3, 4, 5], ∀ two ∈ [1, 2, 3], (lastN one two).length = 2 ∧ ∀ k ∈ [0, 1], 1 ≤ (lastN one two).getD k 0 ∧ (lastN one two).getD k 0 < 6 := by decide
theorem lastN_facts (one : Nat) (h : one < 6) (h1 : 1 ≤ one) (two : Nat) (h2 : two < 4) (h3 : 1 ≤ two) : (lastN one two).length = 2 ∧ ∀ k, k < 2 → 1 ≤ (lastN one two).getD k 0 ∧ (lastN one two).getD k 0 < 6 := by
  have key := lastN_all one (by simp; omega) two (by simp; omega)
  exact ⟨key.1, fun k hk => key.2 k (by simp; omega)⟩
def mostI (T : Nat → Nat → Int) (one : Nat) (v : Int) : Nat → Int
  | 0 => v
  | j + 1 => max (mostI T one v j) (pairW T one (1 + j))
def mostF (T : Nat → Nat → Int) : Nat → Int
  | 0 => 0
  | i + 1 => mostI T (1 + i) (mostF T i) 3
/-- the ints of a list of numbers -/
def intsN (l : List Nat) : List Int := l.map fun (k : Nat) => (k : Int)
theorem intsN_getD (l : List Nat) (k : Nat) : (intsN l).getD k 0 = ((l.getD k 0 : Nat) : Int) := by
  unfold intsN
  by_cases h : k < l.length
  · simp [h]
  · simp [Nat.le_of_not_lt h]
theorem intsN_length (l : List Nat) : (intsN l).length = l.length := by simp [intsN]
/-- the numbers from one on that are not x -/
def butN (x i : Nat) : List Nat := ((List.range i).map (1 + ·)).filter (· ≠ x)
theorem butN_yes {x i : Nat} (h : 1 + i ≠ x) : intsN (butN x (i + 1)) = intsN (butN x i) ++ [1 + (i : Int)] := by
  simp [intsN, butN, List.range_succ, List.filter_append, h]
theorem butN_no {x i : Nat} (h : 1 + i = x) : intsN (butN x (i + 1)) = intsN (butN x i) := by
  simp [intsN, butN, List.range_succ, List.filter_append, h]
end Mine
namespace Mine
local macro_rules | `(tactic| walk_at "eval Name") => `(tactic| (k_here; k_dflt (refine' nameX_L ?k1 ?k2 ?_; (case k1 => k_asm); (case k2 => assumption); k_whole)))
local macro_rules | `(tactic| k_mem) => `(tactic| assumption)
local macro_rules | `(tactic| k_all) => `(tactic| assumption)
local macro_rules | `(tactic| k_ne) => `(tactic| first | assumption | (refine Ne.symm ?_; assumption))
local macro_rules | `(tactic| walk_at "eval ListComp") => `(tactic| (k_here; k_dflt (first
  | ((fail_if_success lct_look); refine LCg.ListComp_U (F₀ := by k_asm) (by with_unfolding_all rfl) (by decide) (by rfl) (by decide) (by rfl) ?_)
  | (lct_look; refine LCt.ListComp_T (F₀ := by k_asm) (by with_unfolding_all rfl) (by decide) (by rfl) (by decide) (by rfl) ?_))))
local macro_rules | `(tactic| walk_at "exec Assign cons ListComp") => `(tactic| (k_here; k_dflt (first
  | ((fail_if_success lct_look); refine LCg.Assign_ListComp_U (F₀ := by k_asm) (by rfl) (by with_unfolding_all rfl) (by with_unfolding_all rfl) (by decide) (by rfl) (by decide) (by rfl) (by rfl) (by rfl) ?_)
  | (lct_look; refine LCt.Assign_ListComp_T (F₀ := by k_asm) (by rfl) (by with_unfolding_all rfl) (by with_unfolding_all rfl) (by decide) (by rfl) (by decide) (by rfl) (by rfl) (by rfl) ?_))))
local macro_rules | `(tactic| k_ne) => `(tactic| assumption)
local macro_rules | `(tactic| walk_at "pyIter ref") => `(tactic| (refine halt_it ?_))
local macro_rules | `(tactic| walk_at "exec For Name Call cons nil") => `(tactic| (k_here; (rename Fr _ _ _ _ => lF'); (with_unfolding_all refine' For_turns lF' ?_; k_whole)))
local macro_rules | `(tactic| walk_at "exec For Name Call cons nil") => `(tactic| (k_here; (rename Fr _ _ _ _ => lF'); (with_unfolding_all refine' For_invVF lF' ?k1 ?k2 ?_; (case k1 => exact rfl); (case k2 => exact rfl); k_whole)))
local macro_rules | `(tactic| walk_at "CompSrcT") => `(tactic| (refine halt_srcT ?_))
local macro_rules | `(tactic| walk_at "CompSrc") => `(tactic| (refine halt_src ?_))
section
theorem halt_srcG {prog : Program} {w : World} {A : Around} {h₀ : Heap} {L : Addr} {m : Str → Option Value} {env : Env} {elt : Expr} {x : Str} {scope : Scope} {cl : List (Str × Addr)} {Fin : Shared → List Value → List (Addr × Obj) → Prop} {xv : Value} {s₁ : Shared} (h : Halt (LCg.CompSrc prog w A h₀ L m env elt x scope cl Fin xv s₁)) : LCg.CompSrc prog w A h₀ L m env elt x scope cl Fin xv s₁ := h
local macro_rules | `(tactic| walk_at "CompSrc") => `(tactic| (refine halt_srcG ?_))

local macro_rules | `(tactic| walk_at "call ref") => `(tactic| (k_here; (with_reducible show wpAny _ _ (call (Value.ref 84) _) _ _ _); refine word_spec ⟨by k_asm, by k_asm, by k_asm, by k_asm, rfl, by omega, by omega⟩ (by k_asm) (by k_mem) (by assumption) ?_; intro _ _ _ _ _; (try dsimp only)))
/-- the word of a place -/
def wordAt (a0 a1 a2 a3 x : Int) : Str := wordOf (inArc x a0) (inArc x a1) (inArc x a2) (inArc x a3)
theorem seg_e {w : World} {mean : ExcName → Option Value} {mg mb : Str → Option Value} {dp un : Nat} {outer : List Env} {A₀ : Around} {base h₀ : Heap} {L : Addr} {m : Str → Option Value} {s : Shared} {gd : Option (List Code)} {a : Addr} {ccd : Value} {bs : List (Addr × Obj)} {rl al : Addr} {o2 : Obj} {rv avs : List Value} {xs : List Int} {a0 a1 a2 a3 : Int} {nr na : Nat} {Q : Flow → Shared → Prop}
    (C : Cx w mean mg mb dp un (defScope (topStmt 17)) outer A₀ base h₀ L m s)
    (N : News h₀ L s.heap bs) (hrl : (rl, listOf rv.toArray nr) ∈ bs) (hI : IntsAre rv xs) (hlx : xs.length = 6) (h2 : ((L + 1 + 1 : Addr), o2) ∈ bs) (ho2 : o2.data = .cell (some (.ref al))) (hal : (al, listOf avs.toArray na) ∈ bs) (hIa : IntsAre avs [a0, a1, a2, a3])
    (mr : m (Str.ofString "row") = some (.ref rl))
    (hQ : ∀ h' tk' wl ys, Fr h₀ L h' (fun y => if y = Str.ofString "words" then some (.ref wl) else m y) → News h₀ L h' ((wl, LCg.lst ys) :: bs) → (∀ p ∈ bs, @Ne Nat p.1 wl) → (∀ k, k < 6 → ∃ t, ys[k]? = some (.str (wordAt a0 a1 a2 a3 (xs.getD k 0)) t)) → Q .next { s with heap := h', toks := tk' }) :
    wpAny (model (RowW.prog (OpenRow.toRowW (OpenLaw.row PySem.Challenge.rw_qu0034_01))) w) (ktrTop dp un gd (Str.ofString "law") (defScope (topStmt 17)) L a ccd (cellsFrom (L + 1) (defScope (topStmt 17)).names []) outer) (exec (stmtOf 17 9) (envX (Str.ofString "law") (defScope (topStmt 17)) L a ccd (cellsFrom (L + 1) (defScope (topStmt 17)).names []))) Q (fun _ _ => False) s := by
  obtain ⟨B, F, X, T, hk, hd, hun⟩ := C
  revert X
  k_fill
  intro X
  clear hk
  conv in (occs := *) stmtOf 17 9 => all_goals whnf
  conv in (occs := *) cellsFrom _ _ _ => all_goals whnf
  conv in (occs := *) defScope (topStmt 17) => all_goals whnf
  show wpAny _ _ _ _ _ _
  k_steps
  show LCg.CompSrc _ _ _ _ _ _ _ _ _ _ _ _ _ _
  refine LCg.CompSrc.ledger (by rfl) (by k_asm) (by k_asm) hrl (by rw [List.size_toArray, hI.length, hlx]; decide) ?_
  intro g'
  (try dsimp only)
  refine comp_ind (n := rv.length) (fun i ys nw => nw = bs ∧ ys.length = i ∧ ∀ k, k < i → ∃ t, ys[k]? = some (.str (wordAt a0 a1 a2 a3 (xs.getD k 0)) t)) ⟨rfl, rfl, fun k hk => absurd hk (by omega)⟩ ?step ?fin
  case fin =>
    rintro ys nw ⟨rfl, hl, hy⟩ D h tk F' N' o1
    exact hQ h tk D ys F' N' (off1_mem o1) fun k hk => hy k (by rw [hI.length, hlx]; exact hk)
  case step =>
    (repeat ((rename Fr _ _ _ _ => Fo); clear Fo))
    (repeat ((rename News _ _ _ _ => No); clear No))
    clear hQ
    rintro i ys nw v I oI C oC D m₂ h tk E' hlt ⟨rfl, hl, hy⟩ hv hC hx F9 N9 off ne
    obtain ⟨x, tx, rfl, hk⟩ := IntsAre.at hI i v (by simpa using hv)
    have hS : LCg.SrcAt h₀ rl rv.toArray nw := .inr ⟨_, hrl, rfl, _, rfl⟩
    k_steps
    (try dsimp only)
    rename_i t3 h3 k3 F3 N3
    refine LCg.CompEnd.intro F3 N3 _ (fun p hp => hp) off hS ⟨rfl, by rw [List.length_append, hl]; rfl, fun k hk9 => ?_⟩
    by_cases e : k < i
    · obtain ⟨t, ht⟩ := hy k e
      exact ⟨t, by rw [List.getElem?_append_left (by omega)]; exact ht⟩
    · obtain rfl : k = i := by omega
      refine ⟨t3, ?_⟩
      rw [List.getElem?_append_right (by omega), hl, Nat.sub_self]
      have : xs.getD k 0 = x := by simp [List.getD, hk]
      rw [this]
      rfl
end
section
local macro_rules | `(tactic| walk_at "callWith") => `(tactic| ((with_reducible show wpAny _ _ (callWith _ (Value.builtin _) (_ :: _) (backTo _ (starEach (_ :: _) _)) []) _ _ _); with_reducible refine callWith_method1 ?_ rfl rfl))

section
variable {prog : Program} {w : World} {A : Around} {E : Value → Shared → Prop} {s : Shared} {h₀ : Heap} {L : Addr} {news : List (Addr × Obj)}
theorem led_item {value slice : PySem.Expr} {l : Addr} {vs : List Value} {n k : Nat} {u : Tok} {v : Value} {Q : Value → Shared → Prop} (N : News h₀ L s.heap news) (hm : (l, ({ cls := .type "list", data := .seq vs.toArray n } : Obj)) ∈ news) (hv : vs[k]? = some v) (hfit : (k : Int) < 2 ^ 63) (h : Q v s)
    (hs : subscripted slice false (.ref l) (.int (k : Int) u) = operate [.ref l, .int (k : Int) u] (getItem (.ref l) (.int (k : Int) u)) := by with_unfolding_all rfl) :
    wpAny (model prog w) A (subscriptTail value slice (.ref l) (.int (k : Int) u)) Q E s := by
  have hl : s.heap.IsList l vs.toArray := PySem.IsL.isList (n := n) (N _ hm).1
  exact tail_any hl.typeIs slot_list_getitem.lookup (wpAny_getItem_list hl (by omega) hfit (by simpa using hv) h) hs
end
local macro_rules | `(tactic| walk_at "subscriptTail Name Name ref int") => `(tactic| (k_here; (with_reducible show wpAny _ _ (subscriptTail _ _ (Value.ref _) (Value.int _ _)) _ _ _); refine led_item (by k_asm) (by k_mem) (by assumption) (by omega) ?_; (try dsimp only)))
local macro_rules | `(tactic| walk_at "call ref") => `(tactic| (k_here; (with_reducible show wpAny _ _ (call (Value.ref 28) _) _ _ _); refine levw_spec ⟨by k_asm, by k_asm, by k_asm, by k_asm, rfl, by omega, by omega⟩ (by omega) (by omega) (by k_asm) ?_; intro _ _ _ _ _; (try dsimp only)))
theorem fbody {w : World} {mean : ExcName → Option Value} {mg mb : Str → Option Value} {dp un : Nat} {outer : List Env} {A₀ : Around} {base h₀ : Heap} {L : Addr} {m : Str → Option Value} {s : Shared} {gd : Option (List Code)} {a : Addr} {ccd : Value} {ri rj fl wl : Addr} {rv rw refs ws : List Value} {Ri Rj : List Int} {i j ni nj nf nw : Nat} {ex : List (Addr × Obj)} {o3 : Obj} {b0 b1 b2 b3 c0 c1 c2 c3 : Bool} {z : Int} {ti tj t1 t2 tz : Tok} {Q : Flow → Shared → Prop}
    (C : Cx w mean mg mb dp un (defScope (topStmt 17)) outer A₀ base h₀ L m s) (hdeep : dp + 31 < recursionLimit) (hunits : un + 200 < cLine)
    (N : News h₀ L s.heap ((ri, listOf rv.toArray ni) :: (rj, listOf rw.toArray nj) :: ex))
    (hij : @Ne Nat rj ri) (hij' : @Ne Nat ri rj) (hxi : ∀ p ∈ ex, p.1 ≠ ri) (hxj : ∀ p ∈ ex, p.1 ≠ rj)
    (hIi : IntsAre rv Ri) (hIj : IntsAre rw Rj) (hli : Ri.length = 6) (hlj : Rj.length = 6) (hi6 : i < 6) (hj6 : j < 6)
    (hf : (fl, ({ cls := .type "list", data := .seq refs.toArray nf } : Obj)) ∈ ex) (hw : (wl, ({ cls := .type "list", data := .seq ws.toArray nw } : Obj)) ∈ ex) (hc : ((L + 1 + 1 + 1 : Addr), o3) ∈ ex) (ho3 : o3.data = .cell (some (.int (i : Int) ti)))
    (hfi : refs[i]? = some (.ref ri)) (hfj : refs[j]? = some (.ref rj)) (hwi : ws[i]? = some (.str (wordOf b0 b1 b2 b3) t1)) (hwj : ws[j]? = some (.str (wordOf c0 c1 c2 c3) t2))
    (mf : m (Str.ofString "far") = some (.ref fl)) (mw : m (Str.ofString "words") = some (.ref wl)) (mo : m (Str.ofString "other") = some (.int (j : Int) tj)) (mz : m (Str.ofString "whole") = some (.int z tz))
    (hQ : ∀ h' tk' (rv' rw' : List Value) t', Fr h₀ L h' (fun y => if y = Str.ofString "whole" then some (.int (z + dist b0 b1 b2 b3 c0 c1 c2 c3) t') else m y) → News h₀ L h' ((ri, listOf rv'.toArray ni) :: (rj, listOf rw'.toArray nj) :: ex) → IntsAre rv' (Ri.set j (dist b0 b1 b2 b3 c0 c1 c2 c3)) → IntsAre rw' (Rj.set i (dist b0 b1 b2 b3 c0 c1 c2 c3)) → Q .next { s with heap := h', toks := tk' }) :
    wpAny (model (RowW.prog (OpenRow.toRowW (OpenLaw.row PySem.Challenge.rw_qu0034_01))) w) (ktrTop dp un gd (Str.ofString "law") (defScope (topStmt 17)) L a ccd (cellsFrom (L + 1) (defScope (topStmt 17)).names []) outer) (execs (forBody (bodyAt (stmtOf 17 12) 0)) (envX (Str.ofString "law") (defScope (topStmt 17)) L a ccd (cellsFrom (L + 1) (defScope (topStmt 17)).names []))) Q (fun _ _ => False) s := by
  obtain ⟨B, F, X, T, hk, hd, hun⟩ := C
  revert X
  k_fill
  intro X
  clear hk
  conv in (occs := *) stmtOf 17 12 => all_goals whnf
  conv in (occs := *) bodyAt _ _ => all_goals whnf
  conv in (occs := *) forBody _ => all_goals whnf
  conv in (occs := *) cellsFrom _ _ _ => all_goals whnf
  conv in (occs := *) defScope (topStmt 17) => all_goals whnf
  k_steps
  rename_i tA hA tkA hB hiA hlA hsA tkB tB hC hiB hlB hsB tkC tC hD FD ND
  have e : (Ri.set ((j : Int).toNat) (dist b0 b1 b2 b3 c0 c1 c2 c3)).getD ((j : Int).toNat) 0 = dist b0 b1 b2 b3 c0 c1 c2 c3 := by
    rw [Int.toNat_natCast]
    simp [hli, hj6]
  rw [e] at FD ND hiB
  rw [Int.toNat_natCast] at hiA hiB
  exact hQ _ _ _ _ _ FD ND hiA hiB
end
section
local macro_rules | `(tactic| walk_at "callWith") => `(tactic| ((with_reducible show wpAny _ _ (callWith _ (Value.builtin _) (_ :: _) (backTo _ (starEach (_ :: _) _)) []) _ _ _); with_reducible refine callWith_method1 ?_ rfl rfl))

def offTwo (a b : Addr) (l : List (Addr × Obj)) : List (Addr × Obj) := l.filter fun p => decide (@Ne Nat p.1 a) && decide (@Ne Nat p.1 b)
theorem offTwo_mem {a b : Addr} {l : List (Addr × Obj)} {p : Addr × Obj} : p ∈ offTwo a b l ↔ p ∈ l ∧ @Ne Nat p.1 a ∧ @Ne Nat p.1 b := by
  unfold offTwo
  rw [List.mem_filter]
  simp
theorem rows_take {h₀ h : Heap} {L : Addr} {rs : List Addr} {V : Nat → List Value} {keep pre : List (Addr × Obj)} {i j : Nat} (hi : i < 6) (hj : j < 6) (N : News h₀ L h (pre ++ (rowsL rs V ++ keep))) :
    News h₀ L h ((rs.getD i 0, listOf (V i).toArray 0) :: (rs.getD j 0, listOf (V j).toArray 0) :: (pre ++ offTwo (rs.getD i 0) (rs.getD j 0) (rowsL rs V ++ keep))) := by
  intro p hp
  rcases List.mem_cons.mp hp with rfl | hp
  · exact N _ (List.mem_append_right _ (List.mem_append_left _ (rowsL_mem hi)))
  rcases List.mem_cons.mp hp with rfl | hp
  · exact N _ (List.mem_append_right _ (List.mem_append_left _ (rowsL_mem hj)))
  rcases List.mem_append.mp hp with hp | hp
  · exact N _ (List.mem_append_left _ hp)
  · exact N _ (List.mem_append_right _ (offTwo_mem.mp hp).1)
theorem rows_back {h₀ h : Heap} {L : Addr} {rs : List Addr} {V : Nat → List Value} {keep pre : List (Addr × Obj)} {rv rw : List Value} {i j : Nat} (hrs : rs.length = 6) (hpw : rs.Pairwise (fun (a b : Nat) => a < b)) (hkr : ∀ p ∈ keep, ∀ r ∈ rs, @Ne Nat p.1 r) (hi : i < 6) (hj : j < 6) (hij : j ≠ i)
    (N : News h₀ L h ((rs.getD i 0, listOf rv.toArray 0) :: (rs.getD j 0, listOf rw.toArray 0) :: (pre ++ offTwo (rs.getD i 0) (rs.getD j 0) (rowsL rs V ++ keep)))) :
    News h₀ L h (pre ++ (rowsL rs (fun k => if k = i then rv else if k = j then rw else V k) ++ keep)) := by
  intro p hp
  rcases List.mem_append.mp hp with hp | hp
  · exact N _ (.tail _ (.tail _ (List.mem_append_left _ hp)))
  rcases List.mem_append.mp hp with hp | hp
  · obtain ⟨k, hk, rfl⟩ := rowsL_of hp
    by_cases e1 : k = i
    · subst e1
      dsimp only
      rw [if_pos rfl]
      exact N _ (.head _)
    by_cases e2 : k = j
    · subst e2
      dsimp only
      rw [if_neg e1, if_pos rfl]
      exact N _ (.tail _ (.head _))
    · dsimp only
      rw [if_neg e1, if_neg e2]
      exact N _ (.tail _ (.tail _ (List.mem_append_right _ (offTwo_mem.mpr ⟨List.mem_append_left _ (rowsL_mem hk), getD_inj hpw (by omega) (by omega) e1, getD_inj hpw (by omega) (by omega) e2⟩))))
  · exact N _ (.tail _ (.tail _ (List.mem_append_right _ (offTwo_mem.mpr ⟨List.mem_append_right _ hp, hkr p hp _ (getD_mem (by omega)), hkr p hp _ (getD_mem (by omega))⟩))))
theorem rows_ne {rs : List Addr} {V : Nat → List Value} {keep : List (Addr × Obj)} {x : Addr} (h1 : ∀ k, k < 6 → @Ne Nat (rs.getD k 0) x) (h2 : ∀ p ∈ keep, @Ne Nat p.1 x) : ∀ p ∈ rowsL rs V ++ keep, @Ne Nat p.1 x := by
  intro p hp
  rcases List.mem_append.mp hp with hp | hp
  · obtain ⟨k, hk, rfl⟩ := rowsL_of hp
    exact h1 k hk
  · exact h2 p hp
theorem rows_ne_of {rs : List Addr} {V : Nat → List Value} {keep : List (Addr × Obj)} {x : Addr} (h : ∀ p ∈ rowsL rs V ++ keep, @Ne Nat p.1 x) : (∀ k, k < 6 → @Ne Nat (rs.getD k 0) x) ∧ ∀ p ∈ keep, @Ne Nat p.1 x :=
  ⟨fun _ hk => h _ (List.mem_append_left _ (rowsL_mem hk)), fun p hp => h p (List.mem_append_right _ hp)⟩
/-- what holds between the turns of one -/
inductive S12Out (L fl wl : Addr) (rs : List Addr) (keep : List (Addr × Obj)) (BB : Nat → Nat → Bool) (i : Nat) (m' : Str → Option Value) (nw : List (Addr × Obj)) : Prop
  | mk (V : Nat → List Value) (o3 : Obj) (c3 : Option Value) (z : Int) (tz : Tok) (h1 : nw = ((L + 1 + 1 + 1 : Addr), o3) :: (rowsL rs V ++ keep)) (h2 : o3.data = .cell c3) (h3 : ∀ k, k < 6 → IntsAre (V k) (rowF BB i 0 k)) (h4 : m' (Str.ofString "far") = some (.ref fl)) (h5 : m' (Str.ofString "words") = some (.ref wl)) (h6 : m' (Str.ofString "whole") = some (.int z tz)) (h7 : z = whF BB i 0) : S12Out L fl wl rs keep BB i m' nw
/-- .. and between the turns of other -/
inductive S12In (L fl wl : Addr) (rs : List Addr) (keep : List (Addr × Obj)) (BB : Nat → Nat → Bool) (oA : Obj) (I : Addr) (i : Nat) (j : Nat) (m' : Str → Option Value) (nw : List (Addr × Obj)) : Prop
  | mk (V : Nat → List Value) (z : Int) (tz : Tok) (h1 : nw = (I, itR (0 + ((i + 1 : Nat) : Int)) (((6 : Nat) : Int) - ((i + 1 : Nat) : Int))) :: ((L + 1 + 1 + 1 : Addr), oA) :: (rowsL rs V ++ keep)) (h2 : ∀ k, k < 6 → IntsAre (V k) (rowF BB i j k)) (h3 : m' (Str.ofString "far") = some (.ref fl)) (h4 : m' (Str.ofString "words") = some (.ref wl)) (h5 : m' (Str.ofString "whole") = some (.int z tz)) (h6 : z = whF BB i j) : S12In L fl wl rs keep BB oA I i j m' nw
theorem seg_12 {w : World} {mean : ExcName → Option Value} {mg mb : Str → Option Value} {dp un : Nat} {outer : List Env} {A₀ : Around} {base h₀ : Heap} {L : Addr} {m : Str → Option Value} {s : Shared} {gd : Option (List Code)} {a : Addr} {ccd : Value} {fl wl : Addr} {rs : List Addr} {ws : List Value} {nf nw : Nat} {keep : List (Addr × Obj)} {V : Nat → List Value} {o3 : Obj} {c3 : Option Value} {BB : Nat → Nat → Bool} {tz : Tok} {Q : Flow → Shared → Prop}
    (C : Cx w mean mg mb dp un (defScope (topStmt 17)) outer A₀ base h₀ L m s) (hdeep : dp + 31 < recursionLimit) (hunits : un + 200 < cLine)
    (N : News h₀ L s.heap (((L + 1 + 1 + 1 : Addr), o3) :: (rowsL rs V ++ keep))) (ho3 : o3.data = .cell c3) (hV : ∀ k, k < 6 → IntsAre (V k) [0, 0, 0, 0, 0, 0])
    (hrs : rs.length = 6) (hpw : rs.Pairwise (fun (a b : Nat) => a < b)) (hkr : ∀ p ∈ keep, ∀ r ∈ rs, @Ne Nat p.1 r) (hcr : ∀ r ∈ rs, @Ne Nat (L + 1 + 1 + 1) r) (hck : ∀ p ∈ keep, @Ne Nat p.1 (L + 1 + 1 + 1))
    (hf : (fl, ({ cls := .type "list", data := .seq (rs.map Value.ref).toArray nf } : Obj)) ∈ keep) (hw : (wl, ({ cls := .type "list", data := .seq (ws).toArray nw } : Obj)) ∈ keep)
    (hws : ∀ k, k < 6 → ∃ t, ws[k]? = some (.str (wordOf (BB k 0) (BB k 1) (BB k 2) (BB k 3)) t))
    (mf : m (Str.ofString "far") = some (.ref fl)) (mw : m (Str.ofString "words") = some (.ref wl)) (mz : m (Str.ofString "whole") = some (.int 0 tz))
    (hQ : ∀ h' tk' m' V' (o3 : Obj) c3' t', Fr h₀ L h' m' → News h₀ L h' (((L + 1 + 1 + 1 : Addr), o3) :: (rowsL rs V' ++ keep)) → o3.data = .cell c3' → (∀ k, k < 6 → IntsAre (V' k) ((List.range 6).map (dB BB k))) → m' (Str.ofString "far") = some (.ref fl) → m' (Str.ofString "whole") = some (.int (whF BB 6 0) t') → Q .next { s with heap := h', toks := tk' }) :
    wpAny (model (RowW.prog (OpenRow.toRowW (OpenLaw.row PySem.Challenge.rw_qu0034_01))) w) (ktrTop dp un gd (Str.ofString "law") (defScope (topStmt 17)) L a ccd (cellsFrom (L + 1) (defScope (topStmt 17)).names []) outer) (exec (stmtOf 17 12) (envX (Str.ofString "law") (defScope (topStmt 17)) L a ccd (cellsFrom (L + 1) (defScope (topStmt 17)).names []))) Q (fun _ _ => False) s := by
  obtain ⟨B, F, X, T, hk, hd, hun⟩ := C
  revert X
  k_fill
  intro X
  clear hk
  conv in (occs := *) stmtOf 17 12 => all_goals whnf
  conv in (occs := *) cellsFrom _ _ _ => all_goals whnf
  conv in (occs := *) defScope (topStmt 17) => all_goals whnf
  generalize hbs : rowsL rs V ++ keep = bs at *
  k_steps
  show wpAny _ _ _ _ _ _
  refine range_turns (n := 6) (S12Out L fl wl rs keep BB)
    rfl (by assumption) (by decide) rfl (by k_asm) (by k_asm) ⟨V, o3, c3, 0, tz, by rw [hbs], ho3, fun k hk => by rw [rowF_start]; exact hV k hk, mf, mw, mz, rfl⟩ ?step ?fin
  case fin =>
    rintro m' nw h tk ⟨V', o3', c3', z, t', rfl, hc, hI, mf', mw', mz', rfl⟩ F' N'
    exact hQ h tk m' V' o3' c3' t' F' N' hc (fun k hk => by rw [← rowF_end BB k hk]; exact hI k hk) mf' mz'
  case step =>
    (repeat ((rename Fr _ _ _ _ => Fo); clear Fo))
    (repeat ((rename News _ _ _ _ => No); clear No))
    clear mf mw mz hQ hV hbs
    intro I i m' nw t h tk hi hInv hlt hoff F' N'
    obtain ⟨V, o3, c3, z, tz, rfl, ho3, hI, mf, mw, mz, rfl⟩ := hInv
    have hI3 : @Ne Nat I (L + 1 + 1 + 1) := (hoff _ (.head _)).symm
    have hb3 : ∀ p ∈ rowsL rs V ++ keep, p.1 ≠ (L + 1 + 1 + 1) := by
      intro p hp
      rcases List.mem_append.mp hp with hp | hp
      · obtain ⟨k, hk, rfl⟩ := rowsL_of hp
        exact (hcr _ (getD_mem (by omega))).symm
      · exact hck p hp
    obtain ⟨hIr, hIk⟩ := rows_ne_of (fun p hp => hoff p (.tail _ hp))
    generalize hbs : rowsL rs V ++ keep = bs at *
    rw [Int.zero_add]
    (try dsimp only)
    (try k_fold)
    k_steps
    show wpAny _ _ _ _ _ _
    rename_i hA oA FA NA dA hB tkB tB uB vB rB FB NB kB
    clear FA NA F' N'
    refine range_loop (n := i) (S12In L fl wl rs keep BB oA I i)
      rfl (by assumption) (range_small6 (by omega)) (range_size i) (by assumption) (by assumption) ⟨V, _, tz, by rw [hbs], hI, mf, mw, mz, rfl⟩ ?step2 ?fin2
    case fin2 =>
      rintro m2 nw h2 tk2 ⟨V2, z2, tz2, rfl, hI2, mf2, mw2, mz2, rfl⟩ F2 N2
      (try dsimp only)
      k_steps
      show UnrEnd _ _ _ _ _ _ _
      refine ⟨h2, tk2, m2, ((L + 1 + 1 + 1 : Addr), oA) :: (rowsL rs V2 ++ keep), rfl, F2, N2, ?_, V2, oA, _, _, tz2, rfl, dA, (fun k hk => by rw [← rowF_next]; exact hI2 k hk), mf2, mw2, mz2, whF_next BB i⟩
      intro p hp
      rcases List.mem_cons.mp hp with rfl | hp
      · exact hI3.symm
      · exact rows_ne hIr hIk p hp
    case step2 =>
      clear FB NB kB rB
      intro J j m2 nw t2 h2 tk2 hj hInv hlt2 F2 N2
      obtain ⟨V2, z2, tz2, rfl, hI2, mf2, mw2, mz2, rfl⟩ := hInv
      rw [Int.zero_add] at F2
      obtain ⟨hJr, hJk⟩ := rows_ne_of (rs := rs) (V := V) (keep := keep) (x := J) (fun p hp => Nat.ne_of_lt (hlt2 p (.tail _ (.tail _ (hbs ▸ hp)))))
      have hJI : @Ne Nat I J := Nat.ne_of_lt (hlt2 _ (.head _))
      have hJ3 : @Ne Nat (L + 1 + 1 + 1) J := Nat.ne_of_lt (hlt2 _ (.tail _ (.head _)))
      obtain ⟨ta, hwi⟩ := hws i hi
      obtain ⟨tb, hwj⟩ := hws j (by omega)
      have key : ∀ q, q < 6 → ∀ p ∈ [(J, itR (0 + ((j + 1 : Nat) : Int)) ((i : Int) - ((j + 1 : Nat) : Int))), (I, itR (0 + ((i + 1 : Nat) : Int)) (((6 : Nat) : Int) - ((i + 1 : Nat) : Int))), ((L + 1 + 1 + 1 : Addr), oA)], @Ne Nat p.1 (rs.getD q 0) := by
        intro q hq p hp
        rcases List.mem_cons.mp hp with rfl | hp
        · exact (hJr q hq).symm
        rcases List.mem_cons.mp hp with rfl | hp
        · exact (hIr q hq).symm
        rcases List.mem_cons.mp hp with rfl | hp
        · exact hcr _ (getD_mem (by omega))
        · cases hp
      refine fbody (i := i) (j := j) (ni := 0) (nj := 0) (rv := V2 i) (rw := V2 j) (ex := [(J, itR (0 + ((j + 1 : Nat) : Int)) ((i : Int) - ((j + 1 : Nat) : Int))), (I, itR (0 + ((i + 1 : Nat) : Int)) (((6 : Nat) : Int) - ((i + 1 : Nat) : Int))), ((L + 1 + 1 + 1 : Addr), oA)] ++ offTwo (rs.getD i 0) (rs.getD j 0) (rowsL rs V2 ++ keep)) (refs := rs.map Value.ref) (ws := ws) ⟨B, F2, X, T, rfl, hd, hun⟩ hdeep hunits
        (rows_take hi (by omega) N2) (getD_inj hpw (by omega) (by omega) (by omega)) (getD_inj hpw (by omega) (by omega) (by omega)) ?_ ?_ (hI2 i hi) (hI2 j (by omega)) (rowF_length ..) (rowF_length ..) hi (by omega)
        (List.mem_append_right _ (offTwo_mem.mpr ⟨List.mem_append_right _ hf, hkr _ hf _ (getD_mem (by omega)), hkr _ hf _ (getD_mem (by omega))⟩)) (List.mem_append_right _ (offTwo_mem.mpr ⟨List.mem_append_right _ hw, hkr _ hw _ (getD_mem (by omega)), hkr _ hw _ (getD_mem (by omega))⟩)) (.tail _ (.tail _ (.head _))) dA
        (by rw [List.getElem?_map, List.getElem?_eq_getElem (by omega), getD_at (by omega)]; rfl) (by rw [List.getElem?_map, List.getElem?_eq_getElem (by omega), getD_at (by omega)]; rfl) hwi hwj mf2 mw2 rfl mz2 ?_
      · intro p hp
        rcases List.mem_append.mp hp with hp | hp
        · exact key i hi p hp
        · exact (offTwo_mem.mp hp).2.1
      · intro p hp
        rcases List.mem_append.mp hp with hp | hp
        · exact key j (by omega) p hp
        · exact (offTwo_mem.mp hp).2.2
      · intro h3 tk3 rv3 rw3 t3 F3 N3 hi3 hj3
        show UnrEnd _ _ _ _ _ _ _
        refine ⟨h3, tk3, _, (I, itR (0 + ((i + 1 : Nat) : Int)) (((6 : Nat) : Int) - ((i + 1 : Nat) : Int))) :: ((L + 1 + 1 + 1 : Addr), oA) :: (rowsL rs (fun k => if k = i then rv3 else if k = j then rw3 else V2 k) ++ keep), rfl, F3, rows_back hrs hpw hkr hi (by omega) (by omega) N3, ?_, _, _, t3, rfl, ?_, mf2, mw2, rfl, whF_step BB i j⟩
        · intro p hp
          rcases List.mem_cons.mp hp with rfl | hp
          · exact hJI
          rcases List.mem_cons.mp hp with rfl | hp
          · exact hJ3
          · exact rows_ne hJr hJk p hp
        · intro k hk
          by_cases e1 : k = i
          · subst e1; rw [if_pos rfl]; rw [← rowF_set_i BB hj]; exact hi3
          by_cases e2 : k = j
          · subst e2; rw [if_neg e1, if_pos rfl]; rw [← rowF_set_j BB hj]; exact hj3
          · rw [if_neg e1, if_neg e2, ← rowF_other BB hj e1 e2]; exact hI2 k hk
end
section

/-- left = [k for k in range(1, 6) if k != one] -/
theorem seg_left {w : World} {mean : ExcName → Option Value} {mg mb : Str → Option Value} {dp un : Nat} {outer : List Env} {A₀ : Around} {base h₀ : Heap} {L : Addr} {m : Str → Option Value} {s : Shared} {gd : Option (List Code)} {a : Addr} {ccd : Value} {bs : List (Addr × Obj)} {o3 o4 : Obj} {c4 : Option Value} {one : Nat} {t1 : Tok} {Q : Flow → Shared → Prop}
    (C : Cx w mean mg mb dp un (defScope (topStmt 17)) outer A₀ base h₀ L m s)
    (N : News h₀ L s.heap (((L + 1 + 1 + 1 + 1 : Addr), o4) :: bs)) (hone : ((L + 1 + 1 + 1 : Addr), o3) ∈ bs) (ho3 : o3.data = .cell (some (.int (one : Int) t1))) (ho4 : o4.data = .cell c4) (h4 : ∀ p ∈ bs, @Ne Nat p.1 (L + 1 + 1 + 1 + 1))
    (hQ : ∀ h' tk' D ys (o4 : Obj), Fr h₀ L h' m → News h₀ L h' ((D, LCg.lst ys) :: ((L + 1 + 1 + 1 + 1 : Addr), o4) :: bs) → @Ne Nat D (L + 1 + 1 + 1 + 1) → (∀ p ∈ bs, @Ne Nat p.1 D) → o4.data = .cell (some (.ref D)) → IntsAre ys (intsN (leftN one)) → Q .next { s with heap := h', toks := tk' }) :
    wpAny (model (RowW.prog (OpenRow.toRowW (OpenLaw.row PySem.Challenge.rw_qu0034_01))) w) (ktrTop dp un gd (Str.ofString "law") (defScope (topStmt 17)) L a ccd (cellsFrom (L + 1) (defScope (topStmt 17)).names []) outer) (exec (bodyAt (stmtOf 17 14) 0) (envX (Str.ofString "law") (defScope (topStmt 17)) L a ccd (cellsFrom (L + 1) (defScope (topStmt 17)).names []))) Q (fun _ _ => False) s := by
  obtain ⟨B, F, X, T, hk, hd, hun⟩ := C
  revert X
  k_fill
  intro X
  clear hk
  conv in (occs := *) stmtOf 17 14 => all_goals whnf
  conv in (occs := *) bodyAt _ _ => all_goals whnf
  conv in (occs := *) cellsFrom _ _ _ => all_goals whnf
  conv in (occs := *) defScope (topStmt 17) => all_goals whnf
  show wpAny _ _ _ _ _ _
  k_steps
  rename_i hA kA tA uA vA rA FA NA kpA
  show LCt.CompSrcT _ _ _ _ _ _ _ _ _ _ _ _ _ _ _
  refine LCt.CompSrcT.range (by rfl) FA NA rA (by decide) rfl (by exact Nat.le_of_ble_eq_true rfl) ?_
  intro g'
  refine comp_indT (n := 5) (fun i ys nw => nw = ((L + 1 + 1 + 1 + 1 : Addr), o4) :: bs ∧ IntsAre ys (intsN (butN one i))) ⟨rfl, .nil⟩ ?step ?fin
  case fin =>
    rintro ys nw ⟨rfl, hI⟩
    k_steps
    rename_i D hB tB oB hC2 oC2 FB NB dB2
    obtain ⟨e1, e2⟩ := oB
    exact hQ _ _ _ _ _ FB NB e1.symm (off1_mem e2) dB2 hI
  case step =>
    (repeat ((rename Fr _ _ _ _ => Fo); clear Fo))
    (repeat ((rename News _ _ _ _ => No); clear No))
    clear hQ
    rintro i ys nw v I oI C oC D m₂ h tk E' hi ⟨rfl, hI⟩ ⟨t, rfl⟩ hC hx F9 N9 off ne
    k_steps
    · rename_i e
      exact LCg.CompEnd.intro F9 N9 _ (fun p hp => hp) off trivial ⟨rfl, by rw [butN_yes (by omega)]; exact hI.append (.cons _ _ .nil)⟩
    · rename_i e
      exact LCg.CompEnd.intro F9 N9 _ (fun p hp => hp) off trivial ⟨rfl, by rw [butN_no (by omega)]; exact hI⟩
theorem last_yes {one two i : Nat} (h : 1 + i ≠ two) : intsN ((butN two (i + 1)).map fun k => (leftN one).getD k 0) = intsN ((butN two i).map fun k => (leftN one).getD k 0) ++ [(((leftN one).getD (1 + i) 0 : Nat) : Int)] := by
  simp [intsN, butN, List.range_succ, List.filter_append, h]
theorem last_no {one two i : Nat} (h : 1 + i = two) : intsN ((butN two (i + 1)).map fun k => (leftN one).getD k 0) = intsN ((butN two i).map fun k => (leftN one).getD k 0) := by
  simp [intsN, butN, List.range_succ, List.filter_append, h]
/-- last = [left[k] for k in range(1, 4) if k != two] -/
theorem seg_last {w : World} {mean : ExcName → Option Value} {mg mb : Str → Option Value} {dp un : Nat} {outer : List Env} {A₀ : Around} {base h₀ : Heap} {L : Addr} {m : Str → Option Value} {s : Shared} {gd : Option (List Code)} {a : Addr} {ccd : Value} {bs : List (Addr × Obj)} {o4 o5 : Obj} {D : Addr} {its : List Value} {n4 one two : Nat} {t2 : Tok} {Q : Flow → Shared → Prop}
    (C : Cx w mean mg mb dp un (defScope (topStmt 17)) outer A₀ base h₀ L m s)
    (N : News h₀ L s.heap bs) (hleft : ((L + 1 + 1 + 1 + 1 : Addr), o4) ∈ bs) (htwo : ((L + 1 + 1 + 1 + 1 + 1 : Addr), o5) ∈ bs) (hD : (D, ({ cls := .type "list", data := .seq (its).toArray n4 } : Obj)) ∈ bs) (ho5 : o5.data = .cell (some (.int (two : Int) t2))) (ho4 : o4.data = .cell (some (.ref D))) (hI4 : IntsAre its (intsN (leftN one))) (h1 : one < 6) (h2 : 1 ≤ one)
    (hQ : ∀ h' tk' D2 ys, Fr h₀ L h' (fun y => if y = Str.ofString "last" then some (.ref D2) else m y) → News h₀ L h' ((D2, LCg.lst ys) :: bs) → (∀ p ∈ bs, @Ne Nat p.1 D2) → IntsAre ys (intsN (lastN one two)) → Q .next { s with heap := h', toks := tk' }) :
    wpAny (model (RowW.prog (OpenRow.toRowW (OpenLaw.row PySem.Challenge.rw_qu0034_01))) w) (ktrTop dp un gd (Str.ofString "law") (defScope (topStmt 17)) L a ccd (cellsFrom (L + 1) (defScope (topStmt 17)).names []) outer) (exec (bodyAt (bodyAt (stmtOf 17 14) 1) 0) (envX (Str.ofString "law") (defScope (topStmt 17)) L a ccd (cellsFrom (L + 1) (defScope (topStmt 17)).names []))) Q (fun _ _ => False) s := by
  have hlen : (intsN (leftN one)).length = 4 := by rw [intsN_length]; exact (leftN_facts one h1 h2).1
  obtain ⟨B, F, X, T, hk, hd, hun⟩ := C
  revert X
  k_fill
  intro X
  clear hk
  conv in (occs := *) stmtOf 17 14 => all_goals whnf
  conv in (occs := *) bodyAt _ _ => all_goals whnf
  conv in (occs := *) cellsFrom _ _ _ => all_goals whnf
  conv in (occs := *) defScope (topStmt 17) => all_goals whnf
  show wpAny _ _ _ _ _ _
  k_steps
  rename_i hA kA tA uA vA rA FA NA kpA
  show LCt.CompSrcT _ _ _ _ _ _ _ _ _ _ _ _ _ _ _
  refine LCt.CompSrcT.range (by rfl) FA NA rA (by decide) rfl (by exact Nat.le_of_ble_eq_true rfl) ?_
  intro g'
  refine comp_indT (n := 3) (fun i ys nw => nw = bs ∧ IntsAre ys (intsN ((butN two i).map fun k => (leftN one).getD k 0))) ⟨rfl, .nil⟩ ?step ?fin
  case fin =>
    rintro ys nw ⟨rfl, hI⟩
    k_steps
    rename_i D2 h2 tk2 F2 N2 o2
    exact hQ _ _ _ _ F2 N2 (off1_mem o2) hI
  case step =>
    (repeat ((rename Fr _ _ _ _ => Fo); clear Fo))
    (repeat ((rename News _ _ _ _ => No); clear No))
    clear hQ
    rintro i ys nw v I oI C oC D m₂ h tk E' hi ⟨rfl, hI⟩ ⟨t, rfl⟩ hC hx F9 N9 off ne
    k_steps
    · refine LCg.CompEnd.intro F9 N9 _ (fun p hp => hp) off trivial ⟨rfl, ?_⟩
      rw [last_yes (by omega), ← intsN_getD, show (1 + (i : Int)).toNat = 1 + i by omega]
      exact hI.append (.cons _ _ .nil)
    · exact LCg.CompEnd.intro F9 N9 _ (fun p hp => hp) off trivial ⟨rfl, by rw [last_no (by omega)]; exact hI⟩
section
variable {prog : Program} {w : World} {A : Around} {E : Value → Shared → Prop} {s : Shared} {h₀ : Heap} {L : Addr} {news : List (Addr × Obj)}
theorem ix_ref {value slice : PySem.Expr} {l : Addr} {rs : List Addr} {n : Nat} {i : Int} {u : Tok} {Q : Value → Shared → Prop} (N : News h₀ L s.heap news) (hm : (l, ({ cls := .type "list", data := .seq (rs.map Value.ref).toArray n } : Obj)) ∈ news) (hrs : rs.length = 6) (hb : 0 ≤ i ∧ i < 6) (h : Q (.ref (rs.getD i.toNat 0)) s)
    (hs : subscripted slice false (.ref l) (.int i u) = operate [.ref l, .int i u] (getItem (.ref l) (.int i u)) := by with_unfolding_all rfl) :
    wpAny (model prog w) A (subscriptTail value slice (.ref l) (.int i u)) Q E s := led_ref N hm hrs hb.1 hb.2 h hs
theorem ix_row {value slice : PySem.Expr} {rs : List Addr} {V : Nat → List Value} {T : Nat → Nat → Int} {k : Nat} {y : Int} {u : Tok} {Q : Value → Shared → Prop} (N : News h₀ L s.heap news) (hrows : ∀ k, k < 6 → (rs.getD k 0, listOf (V k).toArray 0) ∈ news) (hV : ∀ k, k < 6 → IntsAre (V k) ((List.range 6).map (T k)))
    (hb : k < 6 ∧ 0 ≤ y ∧ y < 6) (h : ∀ t, Q (.int (T k y.toNat) t) s)
    (hs : subscripted slice false (.ref (rs.getD k 0)) (.int y u) = operate [.ref (rs.getD k 0), .int y u] (getItem (.ref (rs.getD k 0)) (.int y u)) := by with_unfolding_all rfl) :
    wpAny (model prog w) A (subscriptTail value slice (.ref (rs.getD k 0)) (.int y u)) Q E s :=
  row_at (x := (k : Int)) N hrows hV (by omega) (by omega) hb.2.1 hb.2.2 h hs
theorem ix_nat {value slice : PySem.Expr} {l : Addr} {its : List Value} {ns : List Nat} {n : Nat} {i : Int} {u : Tok} {Q : Value → Shared → Prop} (N : News h₀ L s.heap news) (hm : (l, ({ cls := .type "list", data := .seq (its).toArray n } : Obj)) ∈ news) (hI : IntsAre its (intsN ns)) (hb : 0 ≤ i ∧ i < ns.length ∧ i < 2 ^ 63) (h : ∀ t, Q (.int ((ns.getD i.toNat 0 : Nat) : Int) t) s)
    (hs : subscripted slice false (.ref l) (.int i u) = operate [.ref l, .int i u] (getItem (.ref l) (.int i u)) := by with_unfolding_all rfl) :
    wpAny (model prog w) A (subscriptTail value slice (.ref l) (.int i u)) Q E s := by
  refine ksa_sub N hm hI hb.1 (by rw [intsN_length]; exact hb.2.1) hb.2.2 (fun t => ?_) hs
  rw [intsN_getD]
  exact h t
end
end
section
local macro_rules | `(tactic| walk_at "subscriptTail") => `(tactic| (k_here; (with_reducible show wpAny _ _ (subscriptTail _ _ (Value.ref _) (Value.int _ _)) _ _ _); first
  | (refine' ix_row ?a ?b ?c ?d ?_; (case a => k_asm); (case b => assumption); (case c => assumption); (case d => (refine ⟨?_, ?_, ?_⟩ <;> omega)); intro _)
  | (refine' ix_ref ?a ?b ?c ?d ?_; (case a => k_asm); (case b => assumption); (case c => assumption); (case d => (refine ⟨?_, ?_⟩ <;> omega)))
  | (refine' ix_nat ?a ?b ?c ?d ?_; (case a => k_asm); (case b => assumption); (case c => assumption); (case d => (refine ⟨?_, ?_, ?_⟩ <;> omega)); intro _)))

/-- most = max(most, ...) -/
theorem seg_max {w : World} {mean : ExcName → Option Value} {mg mb : Str → Option Value} {dp un : Nat} {outer : List Env} {A₀ : Around} {base h₀ : Heap} {L : Addr} {m : Str → Option Value} {s : Shared} {gd : Option (List Code)} {a : Addr} {ccd : Value} {bs : List (Addr × Obj)} {o3 o4 o5 : Obj} {D D2 fl : Addr} {its ys : List Value} {rs : List Addr} {V : Nat → List Value} {TT : Nat → Nat → Int} {n4 n5 nf one two : Nat} {mv : Int} {t1 t2 tm : Tok} {Q : Flow → Shared → Prop}
    (C : Cx w mean mg mb dp un (defScope (topStmt 17)) outer A₀ base h₀ L m s)
    (N : News h₀ L s.heap bs) (hone : ((L + 1 + 1 + 1 : Addr), o3) ∈ bs) (hleft : ((L + 1 + 1 + 1 + 1 : Addr), o4) ∈ bs) (htwo : ((L + 1 + 1 + 1 + 1 + 1 : Addr), o5) ∈ bs) (hD : (D, ({ cls := .type "list", data := .seq (its).toArray n4 } : Obj)) ∈ bs) (hD2 : (D2, ({ cls := .type "list", data := .seq (ys).toArray n5 } : Obj)) ∈ bs) (hf : (fl, ({ cls := .type "list", data := .seq (rs.map Value.ref).toArray nf } : Obj)) ∈ bs) (hrows : ∀ k, k < 6 → (rs.getD k 0, listOf (V k).toArray 0) ∈ bs)
    (ho3 : o3.data = .cell (some (.int (one : Int) t1))) (ho5 : o5.data = .cell (some (.int (two : Int) t2))) (ho4 : o4.data = .cell (some (.ref D))) (hI4 : IntsAre its (intsN (leftN one))) (hI5 : IntsAre ys (intsN (lastN one two))) (hrs : rs.length = 6) (hV : ∀ k, k < 6 → IntsAre (V k) ((List.range 6).map (TT k)))
    (h1 : one < 6) (h2 : 1 ≤ one) (h3 : two < 4) (h4 : 1 ≤ two)
    (mf : m (Str.ofString "far") = some (.ref fl)) (ml : m (Str.ofString "last") = some (.ref D2)) (mm : m (Str.ofString "most") = some (.int mv tm))
    (hQ : ∀ h' tk' t, Fr h₀ L h' (fun y => if y = Str.ofString "most" then some (.int (max mv (pairW TT one two)) t) else m y) → News h₀ L h' bs → Q .next { s with heap := h', toks := tk' }) :
    wpAny (model (RowW.prog (OpenRow.toRowW (OpenLaw.row PySem.Challenge.rw_qu0034_01))) w) (ktrTop dp un gd (Str.ofString "law") (defScope (topStmt 17)) L a ccd (cellsFrom (L + 1) (defScope (topStmt 17)).names []) outer) (exec (bodyAt (bodyAt (stmtOf 17 14) 1) 1) (envX (Str.ofString "law") (defScope (topStmt 17)) L a ccd (cellsFrom (L + 1) (defScope (topStmt 17)).names []))) Q (fun _ _ => False) s := by
  obtain ⟨hll, hlf⟩ := leftN_facts one h1 h2
  obtain ⟨hal, haf⟩ := lastN_facts one h1 h2 two h3 h4
  have hl0 : (leftN one).getD (Int.toNat 0) 0 < 6 := (hlf 0 (by omega)).2
  have hl2 : (leftN one).getD (Int.toNat (two : Int)) 0 < 6 := (hlf two h3).2
  have ha0 : (lastN one two).getD (Int.toNat 0) 0 < 6 := (haf 0 (by omega)).2
  have ha1 : (lastN one two).getD (Int.toNat 1) 0 < 6 := (haf 1 (by omega)).2
  clear hlf haf
  obtain ⟨B, F, X, T, hk, hd, hun⟩ := C
  revert X
  k_fill
  intro X
  clear hk
  conv in (occs := *) stmtOf 17 14 => all_goals whnf
  conv in (occs := *) bodyAt _ _ => all_goals whnf
  conv in (occs := *) cellsFrom _ _ _ => all_goals whnf
  conv in (occs := *) defScope (topStmt 17) => all_goals whnf
  show wpAny _ _ _ _ _ _
  k_steps
  rename_i FB NB
  have e : max mv (pairW TT one two) = if pairW TT one two > mv then pairW TT one two else mv := by split <;> omega
  rw [e] at hQ
  exact hQ _ _ _ FB NB
theorem halt_execs {M : Model} {A : Around} {E : Value → Shared → Prop} {s : Shared} {sts : List Stmt} {env : Env} {Q : Flow → Shared → Prop} (h : Halt (wpAny M A (execs sts env) Q E s)) : wpAny M A (execs sts env) Q E s := h
end
section
local macro_rules | `(tactic| walk_at "a pad") => `(tactic| skip)
local macro_rules | `(tactic| walk_at "execs cons Assign cons") => `(tactic| (refine halt_execs ?_))

/-- what holds between the turns of one -/
inductive S14Out (L fl : Addr) (keep : List (Addr × Obj)) (TT : Nat → Nat → Int) (wv : Value) (i : Nat) (m' : Str → Option Value) (nw : List (Addr × Obj)) : Prop
  | mk (o3 o4 o5 : Obj) (c3 c4 c5 : Option Value) (mv : Int) (tm : Tok) (h1 : nw = ((L + 1 + 1 + 1 : Addr), o3) :: ((L + 1 + 1 + 1 + 1 : Addr), o4) :: ((L + 1 + 1 + 1 + 1 + 1 : Addr), o5) :: keep) (h2 : o3.data = .cell c3) (h3 : o4.data = .cell c4) (h4 : o5.data = .cell c5) (h5 : m' (Str.ofString "far") = some (.ref fl)) (h6 : m' (Str.ofString "most") = some (.int mv tm)) (h7 : m' (Str.ofString "whole") = some wv) (h8 : mv = mostF TT i) : S14Out L fl keep TT wv i m' nw
/-- .. and between the turns of two -/
inductive S14In (L fl : Addr) (keep : List (Addr × Obj)) (TT : Nat → Nat → Int) (wv : Value) (D : Addr) (ys : List Value) (oC oB : Obj) (I : Addr) (i : Nat) (j : Nat) (m' : Str → Option Value) (nw : List (Addr × Obj)) : Prop
  | mk (o5 : Obj) (c5 : Option Value) (mv : Int) (tm : Tok) (h1 : nw = (D, LCg.lst ys) :: ((L + 1 + 1 + 1 + 1 : Addr), oC) :: (I, itR (1 + ((i + 1 : Nat) : Int)) (((5 : Nat) : Int) - ((i + 1 : Nat) : Int))) :: ((L + 1 + 1 + 1 : Addr), oB) :: ((L + 1 + 1 + 1 + 1 + 1 : Addr), o5) :: keep) (h2 : o5.data = .cell c5) (h3 : m' (Str.ofString "far") = some (.ref fl)) (h4 : m' (Str.ofString "most") = some (.int mv tm)) (h5 : m' (Str.ofString "whole") = some wv) (h6 : mv = mostI TT (1 + i) (mostF TT i) j) : S14In L fl keep TT wv D ys oC oB I i j m' nw
theorem seg_14 {w : World} {mean : ExcName → Option Value} {mg mb : Str → Option Value} {dp un : Nat} {outer : List Env} {A₀ : Around} {base h₀ : Heap} {L : Addr} {m : Str → Option Value} {s : Shared} {gd : Option (List Code)} {a : Addr} {ccd : Value} {fl : Addr} {rs : List Addr} {keep : List (Addr × Obj)} {V : Nat → List Value} {TT : Nat → Nat → Int} {o3 o4 o5 : Obj} {c3 c4 c5 : Option Value} {nf : Nat} {tm : Tok} {wv : Value} {Q : Flow → Shared → Prop}
    (C : Cx w mean mg mb dp un (defScope (topStmt 17)) outer A₀ base h₀ L m s)
    (N : News h₀ L s.heap (((L + 1 + 1 + 1 : Addr), o3) :: ((L + 1 + 1 + 1 + 1 : Addr), o4) :: ((L + 1 + 1 + 1 + 1 + 1 : Addr), o5) :: keep)) (ho3 : o3.data = .cell c3) (ho4 : o4.data = .cell c4) (ho5 : o5.data = .cell c5)
    (hk3 : ∀ p ∈ keep, @Ne Nat p.1 (L + 1 + 1 + 1)) (hk4 : ∀ p ∈ keep, @Ne Nat p.1 (L + 1 + 1 + 1 + 1)) (hk5 : ∀ p ∈ keep, @Ne Nat p.1 (L + 1 + 1 + 1 + 1 + 1))
    (hf : (fl, ({ cls := .type "list", data := .seq (rs.map Value.ref).toArray nf } : Obj)) ∈ keep) (hrows : ∀ k, k < 6 → (rs.getD k 0, listOf (V k).toArray 0) ∈ keep) (hrs : rs.length = 6) (hV : ∀ k, k < 6 → IntsAre (V k) ((List.range 6).map (TT k)))
    (mf : m (Str.ofString "far") = some (.ref fl)) (mm : m (Str.ofString "most") = some (.int 0 tm)) (mw : m (Str.ofString "whole") = some wv)
    (hQ : ∀ h' tk' m' t, Fr h₀ L h' m' → News h₀ L h' keep → m' (Str.ofString "most") = some (.int (mostF TT 5) t) → m' (Str.ofString "far") = some (.ref fl) → m' (Str.ofString "whole") = some wv → Q .next { s with heap := h', toks := tk' }) :
    wpAny (model (RowW.prog (OpenRow.toRowW (OpenLaw.row PySem.Challenge.rw_qu0034_01))) w) (ktrTop dp un gd (Str.ofString "law") (defScope (topStmt 17)) L a ccd (cellsFrom (L + 1) (defScope (topStmt 17)).names []) outer) (exec (stmtOf 17 14) (envX (Str.ofString "law") (defScope (topStmt 17)) L a ccd (cellsFrom (L + 1) (defScope (topStmt 17)).names []))) Q (fun _ _ => False) s := by
  obtain ⟨B, F, X, T, hk, hd, hun⟩ := C
  revert X
  k_fill
  intro X
  clear hk
  conv in (occs := *) stmtOf 17 14 => all_goals whnf
  conv in (occs := *) cellsFrom _ _ _ => all_goals whnf
  conv in (occs := *) defScope (topStmt 17) => all_goals whnf
  show wpAny _ _ _ _ _ _
  k_steps
  rename_i hA kA tA uA vA rA FA NA kpA
  show wpAny _ _ _ _ _ _
  refine range_turns (n := 5) (S14Out L fl keep TT wv)
    rfl rA (by decide) rfl FA NA ⟨o3, o4, o5, c3, c4, c5, 0, tm, rfl, ho3, ho4, ho5, mf, mm, mw, rfl⟩ ?step ?fin
  case fin =>
    rintro m' nw h tk ⟨o3, o4, o5, c3, c4, c5, mv, tm, rfl, ho3, ho4, ho5, mf', mm', mw', rfl⟩ F' N'
    exact hQ h tk m' tm F' (cb_drop N' fun p hp => .tail _ (.tail _ (.tail _ hp))) mm' mf' mw'
  case step =>
    clear FA NA ho3 ho4 ho5 mf mm mw hQ kpA rA
    (repeat ((rename Fr _ _ _ _ => Fo); clear Fo))
    (repeat ((rename News _ _ _ _ => No); clear No))
    intro I i m' nw t h tk hi hInv hlt hoff F' N'
    obtain ⟨o3, o4, o5, c3, c4, c5, mv, tm, rfl, ho3, ho4, ho5, mf, mm, mw, rfl⟩ := hInv
    have hI3 : @Ne Nat I (L + 1 + 1 + 1) := (hoff _ (.head _)).symm
    have hI4 : @Ne Nat I (L + 1 + 1 + 1 + 1) := (hoff _ (.tail _ (.head _))).symm
    have hI5 : @Ne Nat I (L + 1 + 1 + 1 + 1 + 1) := (hoff _ (.tail _ (.tail _ (.head _)))).symm
    have e1 : (1 : Int) + (i : Int) = ((1 + i : Nat) : Int) := by omega
    rw [e1]
    (try dsimp only)
    (try k_fold)
    k_steps
    rename_i hB oB FB NB dB
    show wpAny _ _ (execs (_ :: _) _) _ _ _
    clear F' N'
    refine wpAny_execs_cons ?_
    refine seg_left (one := 1 + i) (bs := (I, itR (1 + ((i + 1 : Nat) : Int)) (((5 : Nat) : Int) - ((i + 1 : Nat) : Int))) :: ((L + 1 + 1 + 1 : Addr), oB) :: ((L + 1 + 1 + 1 + 1 + 1 : Addr), o5) :: keep) ⟨B, FB, X, T, rfl, hd, hun⟩ (cb_drop NB fun p hp => ?sub) (.tail _ (.head _)) dB ho4 ?ne4 ?hQ
    case sub =>
      rcases List.mem_cons.mp hp with rfl | hp
      · exact .tail _ (.tail _ (.head _))
      rcases List.mem_cons.mp hp with rfl | hp
      · exact .head _
      rcases List.mem_cons.mp hp with rfl | hp
      · exact .tail _ (.head _)
      · exact .tail _ (.tail _ (.tail _ hp))
    case ne4 =>
      intro p hp
      rcases List.mem_cons.mp hp with rfl | hp
      · exact hI4
      rcases List.mem_cons.mp hp with rfl | hp
      · exact neN (by dsimp only; omega)
      rcases List.mem_cons.mp hp with rfl | hp
      · exact neN (by dsimp only; omega)
      · exact hk4 p hp
    case hQ =>
      intro hC kC D ys oC FC NC hD4 hD dC hIy
      clear FB NB
      have hD3 : @Ne Nat D (L + 1 + 1 + 1) := (hD _ (.tail _ (.head _))).symm
      have hD5 : @Ne Nat D (L + 1 + 1 + 1 + 1 + 1) := (hD _ (.tail _ (.tail _ (.head _)))).symm
      have hDI : @Ne Nat D I := (hD _ (.head _)).symm
      have hDk : ∀ p ∈ keep, @Ne Nat p.1 D := fun p hp => hD p (.tail _ (.tail _ (.tail _ hp)))
      (try dsimp only)
      show wpAny _ _ (execs (_ :: _) _) _ _ _
      refine wpAny_execs_cons ?_
      k_steps
      rename_i hE kE tE uE vE rE FE NE kpE
      clear kpE
      show wpAny _ _ _ _ _ _
      refine range_turns (n := 3) (S14In L fl keep TT wv D ys oC oB I i)
        rfl rE (by decide) rfl FE NE ⟨o5, c5, _, tm, rfl, ho5, mf, mm, mw, rfl⟩ ?step2 ?fin2
      case fin2 =>
        clear FE NE rE
        rintro m2 nw h2 k2 ⟨o5, c5, mv, tm, rfl, ho5, mf', mm', mw', rfl⟩ F2 N2
        (try dsimp only)
        k_steps
        show UnrEnd _ _ _ _ _ _ _
        refine ⟨h2, k2, m2, ((L + 1 + 1 + 1 : Addr), oB) :: ((L + 1 + 1 + 1 + 1 : Addr), oC) :: ((L + 1 + 1 + 1 + 1 + 1 : Addr), o5) :: keep, rfl, F2, cb_drop N2 fun p hp => ?_, ?_, oB, oC, o5, _, _, c5, _, tm, rfl, dB, dC, ho5, mf', mm', mw', rfl⟩
        · rcases List.mem_cons.mp hp with rfl | hp
          · exact .tail _ (.tail _ (.head _))
          rcases List.mem_cons.mp hp with rfl | hp
          · exact .tail _ (.tail _ (.tail _ (.head _)))
          rcases List.mem_cons.mp hp with rfl | hp
          · exact .tail _ (.head _)
          · exact .tail _ (.tail _ (.tail _ (.tail _ hp)))
        · intro p hp
          rcases List.mem_cons.mp hp with rfl | hp
          · exact hI3.symm
          rcases List.mem_cons.mp hp with rfl | hp
          · exact hI4.symm
          rcases List.mem_cons.mp hp with rfl | hp
          · exact hI5.symm
          · exact hoff p (.tail _ (.tail _ (.tail _ hp)))
      case step2 =>
        clear FE NE rE ho5 mf mm mw tm
        intro J j m2 nw t2 h2 k2 hj hInv hlt2 hoff2 F2 N2
        obtain ⟨o5, c5, mv, tm, rfl, ho5, mf, mm, mw, rfl⟩ := hInv
        have hJ5 : @Ne Nat J (L + 1 + 1 + 1 + 1 + 1) := (hoff2 _ (.tail _ (.tail _ (.tail _ (.tail _ (.head _)))))).symm
        have e2 : (1 : Int) + (j : Int) = ((1 + j : Nat) : Int) := by omega
        rw [e2]
        (try dsimp only)
        (try k_fold)
        k_steps
        rename_i hF oF FF NF dF
        show wpAny _ _ (execs (_ :: _) _) _ _ _
        clear F2 N2
        refine wpAny_execs_cons ?_
        refine seg_last (one := 1 + i) (two := 1 + j) (D := D) (its := ys) ⟨B, FF, X, T, rfl, hd, hun⟩ NF (.tail _ (.tail _ (.head _))) (.tail _ (.tail _ (.tail _ (.tail _ (.tail _ (.head _)))))) (.tail _ (.head _)) dF dC hIy (by omega) (by omega) ?_
        intro hG kG D2 ys2 FG NG hD2 hIz
        (try dsimp only)
        show wpAny _ _ (execs (_ :: _) _) _ _ _
        refine wpAny_execs_cons ?_
        have up : ∀ p ∈ keep, p ∈ (D2, LCg.lst ys2) :: (J, itR (1 + ((j + 1 : Nat) : Int)) (((3 : Nat) : Int) - ((j + 1 : Nat) : Int))) :: (D, LCg.lst ys) :: ((L + 1 + 1 + 1 + 1 : Addr), oC) :: (I, itR (1 + ((i + 1 : Nat) : Int)) (((5 : Nat) : Int) - ((i + 1 : Nat) : Int))) :: ((L + 1 + 1 + 1 : Addr), oB) :: ((L + 1 + 1 + 1 + 1 + 1 : Addr), oF) :: keep := fun p hp => .tail _ (.tail _ (.tail _ (.tail _ (.tail _ (.tail _ (.tail _ hp))))))
        refine seg_max (one := 1 + i) (two := 1 + j) (D := D) (its := ys) (D2 := D2) (ys := ys2) (V := V) (rs := rs) (TT := TT) (o3 := oB) (o4 := oC) (o5 := oF) ⟨B, FG, X, T, rfl, hd, hun⟩ NG (.tail _ (.tail _ (.tail _ (.tail _ (.tail _ (.head _)))))) (.tail _ (.tail _ (.tail _ (.head _)))) (.tail _ (.tail _ (.tail _ (.tail _ (.tail _ (.tail _ (.head _))))))) (.tail _ (.tail _ (.head _))) (.head _) (up _ hf) (fun k hk => up _ (hrows k hk)) dB dF dC hIy hIz hrs hV (by omega) (by omega) (by omega) (by omega) mf rfl mm ?_
        intro hH kH tH FH NH
        (try dsimp only)
        refine wpAny_execs_nil ?_
        show UnrEnd _ _ _ _ _ _ _
        refine ⟨hH, kH, _, (D, LCg.lst ys) :: ((L + 1 + 1 + 1 + 1 : Addr), oC) :: (I, itR (1 + ((i + 1 : Nat) : Int)) (((5 : Nat) : Int) - ((i + 1 : Nat) : Int))) :: ((L + 1 + 1 + 1 : Addr), oB) :: ((L + 1 + 1 + 1 + 1 + 1 : Addr), oF) :: keep, rfl, FH, cb_drop NH (fun p hp => .tail _ hp), ?_, oF, _, _, tH, rfl, dF, mf, rfl, mw, rfl⟩
        intro p hp
        rcases List.mem_cons.mp hp with rfl | hp
        · exact hoff2 _ (.head _)
        rcases List.mem_cons.mp hp with rfl | hp
        · exact hoff2 _ (.tail _ (.head _))
        rcases List.mem_cons.mp hp with rfl | hp
        · exact hoff2 _ (.tail _ (.tail _ (.head _)))
        rcases List.mem_cons.mp hp with rfl | hp
        · exact hoff2 _ (.tail _ (.tail _ (.tail _ (.head _))))
        rcases List.mem_cons.mp hp with rfl | hp
        · exact hJ5.symm
        · exact hoff2 _ (.tail _ (.tail _ (.tail _ (.tail _ (.tail _ hp)))))
end
section
def cellNone : Obj := { cls := .type "cell", data := .cell none }
def dictNew : Obj := { cls := .type "dict", data := .dict #[] }
def listIt (l : Addr) : Obj := { cls := .type "list_iterator", data := .fields #[.ref l, .int 0 0] }
section
variable {h₀ h h' : Heap} {L d : Addr} {m : Str → Option Value} {o o' : Obj} {rest : List (Addr × Obj)}
/-- one object of the ledger changes, all else stands -/
theorem chg (F : Fr h₀ L h m) (N : News h₀ L h ((d, o) :: rest)) (hr : ∀ p ∈ rest, @Ne Nat p.1 d) (hk : ∀ b ob, @Ne Nat b d → h.get? b = some ob → h'.get? b = some ob) (ho : h'.get? d = some o') : Fr h₀ L h' m ∧ News h₀ L h' ((d, o') :: rest) := by
  have z := N _ (.head _)
  refine ⟨⟨F.ns.at' fun o e => hk L o (Ne.symm z.2.1) e, fun b x e => hk b x (fun q => ?_) (F.keep b x e), F.above⟩, fun p hp => ?_⟩
  · have y := z.2.2
    rw [← q] at y
    have y' : h₀.get? b = none := y
    rw [y'] at e
    cases e
  · rcases List.mem_cons.mp hp with rfl | hp
    · exact ⟨ho, z.2⟩
    · have zp := N p (.tail _ hp)
      exact ⟨hk _ _ (hr p hp) zp.1, zp.2⟩
end
theorem news_four {h₀ h : Heap} {L : Addr} {a b c d a' b' c' d' : Addr × Obj} {r : List (Addr × Obj)} (N : News h₀ L h (a :: b :: c :: d :: r)) (ha : a' ∈ [a, b, c, d]) (hb : b' ∈ [a, b, c, d]) (hc : c' ∈ [a, b, c, d]) (hd : d' ∈ [a, b, c, d]) : News h₀ L h (a' :: b' :: c' :: d' :: r) := by
  have up : ∀ p ∈ [a, b, c, d], p ∈ a :: b :: c :: d :: r := fun p hp => List.mem_append_left r hp
  intro p hp
  rcases List.mem_cons.mp hp with rfl | hp
  · exact N _ (up _ ha)
  rcases List.mem_cons.mp hp with rfl | hp
  · exact N _ (up _ hb)
  rcases List.mem_cons.mp hp with rfl | hp
  · exact N _ (up _ hc)
  rcases List.mem_cons.mp hp with rfl | hp
  · exact N _ (up _ hd)
  · exact N _ (.tail _ (.tail _ (.tail _ (.tail _ hp))))
theorem new_cell_env {M : Model} {A : Around} {E : Value → Shared → Prop} {s : Shared} {scope : Scope} {globals : Addr} {cl : List (Str × Addr)} {qual : Str} {outer : Env} {x : Str} {Q : Env → Shared → Prop}
    (hcells : ∀ k, cellsFrom k scope.names cl = (x, k) :: cl) (hpush : ∀ h, pushCells h scope.names = h.push cellNone)
    (h : Q { scope, locals := s.heap.objs.size, globals, cells := (x, s.heap.objs.size + 1) :: cl, qual, func := none, code := outer.code, frame := outer.frame, builtins := outer.builtins } { s with heap := (s.heap.push dictNew).push cellNone }) :
    wpAny M A (newFunctionEnv scope globals cl [] qual none .none (some outer)) Q E s := by
  unfold newFunctionEnv
  refine wpAny_bind (wpAny_alloc ?_)
  refine wpAny_bind (wpAny_layCells _ (fun name kind cells => by cases hkc : kind == NameKind.cell <;> simp [hkc]) _ _ _ _ ?_)
  rw [show ({ s with heap := s.heap.push { cls := .type (if (some outer).isSome then "dict" else "frame"), data := .dict #[] } } : Shared).heap.objs.size = s.heap.objs.size + 1 from Heap.size_push ..]
  rw [hcells, hpush]
  exact wpAny_bind (wpAny_pure (wpAny_pure h))
section
variable {prog : Program} {w : World} {A : Around} {E : Value → Shared → Prop} {s : Shared} {h₀ : Heap} {L : Addr} {m : Str → Option Value} {env : Env}
/-- a comprehension over a list of the ledger whose name is a cell, by an invariant of what is gathered -/
theorem block_cell {elt iter : Expr} {x : Str} {px : Pos} {scope : Scope} {cl : List (Str × Addr)} {pos : Pos} {l : Addr} {vs : List Value} {n : Nat} {bs : List (Addr × Obj)} {RR : Value → Addr → Result → Shared → Prop}
    (hcells : ∀ k, cellsFrom k scope.names cl = (x, k) :: cl) (hpush : ∀ h, pushCells h scope.names = h.push cellNone) (hkind : scope.kind = .function) (hx : (relabel scope env).names.lookup x = some .cell)
    (hh : A.handled = none) (F : Fr h₀ L s.heap m) (N : News h₀ L s.heap bs) (hm : (l, ({ cls := .type "list", data := .seq vs.toArray n } : Obj)) ∈ bs) (hsz : vs.length ≤ sizeLine)
    (Inv : Nat → List Value → Prop) (h0 : Inv 0 [])
    (step : ∀ i v ys I oI C oC c oc D h tk (E' : Value → Shared → Prop), vs[i]? = some v → Inv i ys → oc.data = .cell (some v) → Fr h₀ L h m → News h₀ L h ((c, oc) :: (I, oI) :: (C, oC) :: (D, LCg.lst ys) :: bs) →
      wpAny (model prog w) A (eval elt (compEnvC scope ((x, c) :: cl) C env)) (fun y s' => ∃ h' tk', s' = { s with heap := h', toks := tk' } ∧ Fr h₀ L h' m ∧ News h₀ L h' ((c, oc) :: (I, oI) :: (C, oC) :: (D, LCg.lst ys) :: bs) ∧ Inv (i + 1) (ys ++ [y])) E' { s with heap := h, toks := tk })
    (fin : ∀ D C h tk m' ys, Inv vs.length ys → Fr h₀ L h m → News h₀ L h ((D, LCg.lst ys) :: bs) → h.Ns C m' → h₀.get? C = none → C ≠ L → D ≠ L → h₀.get? D = none → @Ne Nat D C → (∀ p ∈ bs, @Ne Nat p.1 C ∧ @Ne Nat p.1 D) → RR (.ref D) C (.ok .next) { s with heap := h, toks := tk }) :
    wpAny (model prog w) A (pyIter (.ref l)) (fun it s₂ => wpAny (model prog w) A (newList []) (fun acc s₃ => wpAny (model prog w) A (newFunctionEnv scope env.globals cl [] env.qual none .none (some env)) (fun cenv s₄ =>
      codeAny (model prog w) A (.compStart (.ListComp elt [⟨.Name x px, iter, [], 0⟩] scope pos) 0 it acc { cenv with scope := relabel scope env }) (RR acc cenv.locals) s₄) E s₃) E s₂) E s := by
  have hl : s.heap.IsList l vs.toArray := PySem.IsL.isList (n := n) (N _ hm).1
  have hlt : l < s.heap.objs.size := Heap.lt_size (N _ hm).1
  refine wpAny_pyIter_list hl ?_
  refine wpAny_newObj_type ?_
  refine new_cell_env hcells hpush ?_
  have F1 := F.push (listIt l)
  have N1 := News.push F N (listIt l)
  have F2 := F1.push (LCg.lst [])
  have N2 := News.push F1 N1 (LCg.lst [])
  have F3 := F2.push dictNew
  have N3 := News.push F2 N2 dictNew
  have F4 := F3.push cellNone
  have N4 := News.push F3 N3 cellNone
  have e1 : (s.heap.push (listIt l)).objs.size = s.heap.objs.size + 1 := Heap.size_push ..
  have e2 : ((s.heap.push (listIt l)).push (LCg.lst [])).objs.size = s.heap.objs.size + 1 + 1 := by rw [Heap.size_push, e1]
  have e3 : (((s.heap.push (listIt l)).push (LCg.lst [])).push dictNew).objs.size = s.heap.objs.size + 1 + 1 + 1 := by rw [Heap.size_push, e2]
  have hbs : ∀ p ∈ bs, p.1 < s.heap.objs.size := fun p hp => Heap.lt_size (N p hp).1
  show codeAny (model prog w) A (.compStart (.ListComp elt [⟨.Name x px, iter, [], 0⟩] scope pos) 0 (.ref s.heap.objs.size) (.ref (s.heap.push (listIt l)).objs.size) (compEnvC scope ((x, ((s.heap.push (listIt l)).push (LCg.lst [])).objs.size + 1) :: cl) ((s.heap.push (listIt l)).push (LCg.lst [])).objs.size env)) (RR (.ref (s.heap.push (listIt l)).objs.size) ((s.heap.push (listIt l)).push (LCg.lst [])).objs.size) _
  rw [e1, e2, e3] at N4
  rw [e1, e2]
  generalize hz : s.heap.objs.size = z at *
  have W := Walks.list (prog := prog) (w := w) hh z l (Nat.ne_of_lt hlt) vs.toArray
  have hNs : LCg.NsObj dictNew (fun _ => none) := ⟨#[], 0, rfl, fun _ he => by simp at he, fun _ => rfl⟩
  have hH : { s with heap := ((((s.heap.push (listIt l)).push (LCg.lst [])).push dictNew).push cellNone) } = ({ s with heap := ((((s.heap.push (listIt l)).push (LCg.lst [])).push dictNew).push cellNone), toks := s.toks } : Shared) := rfl
  have loop : codeAny (model prog w) A (.compLoop (.ListComp elt [⟨.Name x px, iter, [], 0⟩] scope pos) 0 (.ref z) (.ref (z + 1)) (compEnvC scope ((x, z + 1 + 1 + 1) :: cl) (z + 1 + 1) env)) (RR (.ref (z + 1)) (z + 1 + 1))
      ({ s with heap := ((((s.heap.push (listIt l)).push (LCg.lst [])).push dictNew).push cellNone) } : Shared) := by
    refine codeAny_compLoop_tests (fun k s' => ∃ h' tk i ys oI oc, s' = { s with heap := h', toks := tk } ∧ i ≤ vs.length ∧ k = vs.length + 1 - i ∧ ys.length = i ∧ (h'.IsListIter z l i ∧ h'.IsList l vs.toArray) ∧ Fr h₀ L h' m ∧
      News h₀ L h' ((z + 1 + 1 + 1, oc) :: (z, oI) :: (z + 1 + 1, dictNew) :: (z + 1, LCg.lst ys) :: bs) ∧ (∃ v₀, oc.data = .cell v₀) ∧ Inv i ys) ?_ (vs.length + 1)
      ⟨_, s.toks, 0, [], listIt l, cellNone, rfl, Nat.zero_le _, rfl, rfl, ⟨⟨_, (N4 (z, listIt l) (.tail _ (.tail _ (.tail _ (.head _))))).1, rfl, rfl⟩, PySem.IsL.isList (n := n) (N4 _ (.tail _ (.tail _ (.tail _ (.tail _ hm))))).1⟩, F4, (news_four N4 (.head _) (.tail _ (.tail _ (.tail _ (.head _)))) (.tail _ (.head _)) (.tail _ (.tail _ (.head _)))), ⟨_, rfl⟩, h0⟩
    rintro k s' ⟨h', tk, i, ys, oI, oc, rfl, hi, rfl, hyl, hst, F', N', ⟨v₀, hoc⟩, hinv⟩
    have hbz : ∀ p ∈ bs, @Ne Nat p.1 z := fun p hp => Nat.ne_of_lt (hbs p hp)
    have hbD : ∀ p ∈ bs, @Ne Nat p.1 (z + 1) := fun p hp => Nat.ne_of_lt (Nat.lt_of_lt_of_le (hbs p hp) (by omega))
    have hbC : ∀ p ∈ bs, @Ne Nat p.1 (z + 1 + 1) := fun p hp => Nat.ne_of_lt (Nat.lt_of_lt_of_le (hbs p hp) (by omega))
    have hbc : ∀ p ∈ bs, @Ne Nat p.1 (z + 1 + 1 + 1) := fun p hp => Nat.ne_of_lt (Nat.lt_of_lt_of_le (hbs p hp) (by omega))
    by_cases hlt' : i < vs.length
    · refine W.item i _ _ _ (by simpa using hlt') hst fun v h₁ tk₁ hv hst₁ hk₁ => ?_
      obtain ⟨oI', hoI', hcI⟩ := hst₁.1
      obtain ⟨F₁, N₁⟩ := chg (d := z) (o := oI) F' (rest := (z + 1 + 1 + 1, oc) :: (z + 1 + 1, dictNew) :: (z + 1, LCg.lst ys) :: bs) (news_four N' (.tail _ (.head _)) (.head _) (.tail _ (.tail _ (.head _))) (.tail _ (.tail _ (.tail _ (.head _))))) (List.forall_mem_cons.mpr ⟨neN (by dsimp only; omega), List.forall_mem_cons.mpr ⟨neN (by dsimp only; omega), List.forall_mem_cons.mpr ⟨neN (by dsimp only; omega), hbz⟩⟩⟩) (fun b ob hb e => hk₁ b ob (by simpa using hb) e) hoI'
      refine wpAny_assign_Name (wpAny_storeName_cell (c := z + 1 + 1 + 1) (by simp [compEnvC, relabel, hkind]) hx (by simp [compEnvC]) ⟨oc, (N₁ _ (.tail _ (.head _))).1, hoc⟩ (fun h₂ hc₂ hs₂ => ?_))
      obtain ⟨oc', hoc', hdc⟩ := hc₂
      obtain ⟨F₂, N₂⟩ := chg (d := z + 1 + 1 + 1) (o := oc) F₁ (rest := (z, oI') :: (z + 1 + 1, dictNew) :: (z + 1, LCg.lst ys) :: bs) (news_four N₁ (.tail _ (.head _)) (.head _) (.tail _ (.tail _ (.head _))) (.tail _ (.tail _ (.tail _ (.head _))))) (List.forall_mem_cons.mpr ⟨neN (by dsimp only; omega), List.forall_mem_cons.mpr ⟨neN (by dsimp only; omega), List.forall_mem_cons.mpr ⟨neN (by dsimp only; omega), hbc⟩⟩⟩) (fun b ob hb e => (hs₂.2 b hb).trans e) hoc'
      refine wpAny_tests_nil ?_
      simp only [if_true]
      refine wpAny_mono (step i v ys z oI' (z + 1 + 1) dictNew (z + 1 + 1 + 1) oc' (z + 1) h₂ tk₁ _ (by simpa using hv) hinv hdc F₂ N₂) (fun y s₄ h₄ => ?_) fun _ _ e => e
      obtain ⟨h₄, tk₄, rfl, F₄, N₄', hinv'⟩ := h₄
      refine append_at (hsz := by show ys.toArray.size ≤ sizeLine; rw [List.size_toArray, hyl]; omega) (N₄' (z + 1, LCg.lst ys) (.tail _ (.tail _ (.tail _ (.head _))))).1 fun h₅ hs₅ hD₅ => ?_
      obtain ⟨F₅, N₅⟩ := chg (d := z + 1) (o := LCg.lst ys) F₄ (rest := (z + 1 + 1 + 1, oc') :: (z, oI') :: (z + 1 + 1, dictNew) :: bs) (news_four N₄' (.tail _ (.tail _ (.tail _ (.head _)))) (.head _) (.tail _ (.head _)) (.tail _ (.tail _ (.head _)))) (List.forall_mem_cons.mpr ⟨neN (by dsimp only; omega), List.forall_mem_cons.mpr ⟨neN (by dsimp only; omega), List.forall_mem_cons.mpr ⟨neN (by dsimp only; omega), hbD⟩⟩⟩) (fun b ob hb e => (hs₅.2 b hb).trans e) (hD₅.trans (congrArg some (LCg.lst_snoc ys y)))
      exact ⟨vs.length + 1 - (i + 1), by omega, h₅, tk₄, i + 1, ys ++ [y], oI', oc', rfl, hlt', rfl, by simp [hyl], ⟨⟨oI', (N₅ _ (.tail _ (.tail _ (.head _)))).1, hcI⟩, PySem.IsL.isList (n := n) (N₅ _ (.tail _ (.tail _ (.tail _ (.tail _ hm))))).1⟩, F₅, (news_four N₅ (.tail _ (.head _)) (.tail _ (.tail _ (.head _))) (.tail _ (.tail _ (.tail _ (.head _)))) (.head _)), ⟨_, hdc⟩, hinv'⟩
    · obtain rfl : i = vs.length := by omega
      refine W.done _ _ _ (by rw [List.size_toArray]; exact hst) fun h₁ tk₁ hk₁ => ?_
      have hzL : @Ne Nat L z := Nat.ne_of_lt (hz ▸ F.ns.lt)
      have zI := N' _ (.tail _ (.head _))
      have zC := N' _ (.tail _ (.tail _ (.head _)))
      have zD := N' _ (.tail _ (.tail _ (.tail _ (.head _))))
      have F₁ := LCg.fr_but F' hk₁ hzL zI.2.2
      have N₁ : News h₀ L h₁ ((z + 1, LCg.lst ys) :: (z + 1 + 1, dictNew) :: bs) := LCg.news_but (cb_drop (news_four N' (.tail _ (.tail _ (.tail _ (.head _)))) (.tail _ (.tail _ (.head _))) (.head _) (.tail _ (.head _))) fun p hp => (List.mem_cons.mp hp).elim (fun e => e ▸ .head _) fun hp => (List.mem_cons.mp hp).elim (fun e => e ▸ .tail _ (.head _)) fun hp => .tail _ (.tail _ (.tail _ (.tail _ hp)))) hk₁ (List.forall_mem_cons.mpr ⟨neN (by dsimp only; omega), List.forall_mem_cons.mpr ⟨neN (by dsimp only; omega), hbz⟩⟩)
      exact fin (z + 1) (z + 1 + 1) h₁ tk₁ (fun _ => none) ys hinv F₁ (cb_drop N₁ fun p hp => (List.mem_cons.mp hp).elim (fun e => e ▸ .head _) fun hp => .tail _ (.tail _ hp)) (hNs.ns (N₁ _ (.tail _ (.head _))).1) zC.2.2 zC.2.1 zD.2.1 zD.2.2 (neN (by omega)) fun p hp => ⟨hbC p hp, hbD p hp⟩
  exact codeAny_compStart_list loop (W.self 0 _ _ _ ⟨⟨_, (N4 (z, listIt l) (.tail _ (.tail _ (.tail _ (.head _))))).1, rfl, rfl⟩, PySem.IsL.isList (n := n) (N4 _ (.tail _ (.tail _ (.tail _ (.tail _ hm))))).1⟩ loop)
/-- what is asked where the source of such a comprehension is told -/
def CellSrc (prog : Program) (w : World) (A : Around) (h₀ : Heap) (env : Env) (elt : Expr) (x : Str) (scope : Scope) (cl : List (Str × Addr)) (y : Str) (Q : Flow → Shared → Prop) (xv : Value) (s₁ : Shared) : Prop :=
  ∃ (l : Addr) (vs : List Value) (n : Nat) (m : Str → Option Value) (bs : List (Addr × Obj)) (Inv : Nat → List Value → Prop), xv = .ref l ∧ A.handled = none ∧ Fr h₀ env.locals s₁.heap m ∧ News h₀ env.locals s₁.heap bs ∧ (l, ({ cls := .type "list", data := .seq vs.toArray n } : Obj)) ∈ bs ∧ vs.length ≤ sizeLine ∧ Inv 0 [] ∧
    (∀ i v ys I oI C oC c oc D h tk (E' : Value → Shared → Prop), vs[i]? = some v → Inv i ys → oc.data = .cell (some v) → Fr h₀ env.locals h m → News h₀ env.locals h ((c, oc) :: (I, oI) :: (C, oC) :: (D, LCg.lst ys) :: bs) →
      wpAny (model prog w) A (eval elt (compEnvC scope ((x, c) :: cl) C env)) (fun y s' => ∃ h' tk', s' = { s₁ with heap := h', toks := tk' } ∧ Fr h₀ env.locals h' m ∧ News h₀ env.locals h' ((c, oc) :: (I, oI) :: (C, oC) :: (D, LCg.lst ys) :: bs) ∧ Inv (i + 1) (ys ++ [y])) E' { s₁ with heap := h, toks := tk }) ∧
    (∀ D ys h tk, Inv vs.length ys → Fr h₀ env.locals h (fun z => if z = y then some (.ref D) else m z) → News h₀ env.locals h ((D, LCg.lst ys) :: bs) → (∀ p ∈ bs, @Ne Nat p.1 D) → Q .next { s₁ with heap := h, toks := tk })
theorem Assign_cell {elt iter : Expr} {x y : Str} {px py : Pos} {scope : Scope} {cl : List (Str × Addr)} {pos spos : Pos} {Q : Flow → Shared → Prop} (_F : Fr h₀ env.locals s.heap m)
    (hsw : swapsWith (.ListComp elt [⟨.Name x px, iter, [], 0⟩] scope pos) (some (.Name y py)) spos.line env = pure true)
    (hclos : closureFor scope env = pure cl) (hcells : ∀ k, cellsFrom k scope.names cl = (x, k) :: cl) (hpush : ∀ h, pushCells h scope.names = h.push cellNone) (hkind : scope.kind = .function)
    (hnames : ∀ z ∈ scope.names, z.2 = .local → scope.names.lookup z.1 = some .local) (hx : (relabel scope env).names.lookup x = some .cell)
    (hy : env.kindOf y = some .local) (hp : (env.scope.kind == .class || (env.scope.kind == .module && env.locals != env.globals)) = false)
    (h : wpAny (model prog w) A (eval iter env) (CellSrc prog w A h₀ env elt x scope cl y Q) E s)
    (hs : ∀ x, foldedSetIterable iter env x = pure x := by intro _; rfl) :
    wpAny (model prog w) A (exec (.Assign [.Name y py] (.ListComp elt [⟨.Name x px, iter, [], 0⟩] scope pos) spos) env) Q E s := by
  rw [exec_Assign_Name_used _ _ _ _ hsw]
  refine wpAny_bind (wpAny_standAt (wpAny_bind ?_))
  show wpAny _ A (do let _ ← comprehension (.ListComp elt [⟨.Name x px, iter, [], 0⟩] scope pos) scope env _ (newList []) false (eval iter env) (some (assign (.Name y py) env))) _ _ s
  refine wpAny_bind (wpAny_mono (wpAny_comprehension_free (use := some (assign (.Name y py) env)) (Q := fun _ s' => Q .next s') rfl hs hclos hkind hnames (wpAny_mono h (fun xv s₁ h₁ => ?_) fun _ _ e => e)) (fun _ s' hq => wpAny_pure (wpAny_pure hq)) fun _ _ e => e)
  obtain ⟨l, vs, n, m₁, bs, Inv, rfl, hh, F, N, hm, hsz, h0, hstep, hfin⟩ := h₁
  refine block_cell (RR := fun acc C => compPost (model prog w) A E (some (assign (.Name y py) env)) (fun _ s' => Q .next s') acc C) hcells hpush hkind hx hh F N hm hsz Inv h0 hstep ?_
  intro D C h₂ tk m' ys hinv F' N' hn hC0 hCL hDL hD0 hDC off
  show wpAny _ A (assign (.Name y py) env (.ref D)) _ _ _
  refine wpAny_assign_Name (wpAny_storeName_local hy F'.ns (fun h₃ hn₃ hs₃ => ?_) hp)
  have F₃ := Fr.set F' hn₃ hs₃
  refine ⟨m', hn.sameBut hs₃ hCL, fun h₄ hs₄ => hfin D ys h₄ _ hinv (F₃.change hs₄ hCL hC0) (fun p hp => ⟨hs₄.extBut _ _ ?_ (hs₃.extBut _ _ (N' p hp).2.1 (N' p hp).1), (N' p hp).2⟩) fun p hp => (off p hp).2⟩
  rcases List.mem_cons.mp hp with rfl | hp
  · exact hDC
  · exact (off p hp).1
end
end
section
local macro_rules | `(tactic| walk_at "call builtin:len") => `(tactic| (refine halt_call2 ?_))

/-- how many of the hues lie on the arc -/
def countOn (ds : List Int) (arc : Int) : Nat := (ds.filter fun d => inArc d arc).length
theorem countOn_le (ds : List Int) (arc : Int) : countOn ds arc ≤ ds.length := List.length_filter_le ..
theorem countOn_yes {ds : List Int} {arc d : Int} {j : Nat} (hj : ds[j]? = some d) (h : inArc d arc = true) : countOn (ds.take (j + 1)) arc = countOn (ds.take j) arc + 1 := by
  unfold countOn
  rw [List.take_add_one, hj]
  simp [h]
theorem countOn_no {ds : List Int} {arc d : Int} {j : Nat} (hj : ds[j]? = some d) (h : inArc d arc = false) : countOn (ds.take (j + 1)) arc = countOn (ds.take j) arc := by
  unfold countOn
  rw [List.take_add_one, hj]
  simp [h]
theorem halt_call2 {M : Model} {A : Around} {E : Value → Shared → Prop} {s : Shared} {f : Value} {vs : List Value} {Q : Value → Shared → Prop} (h : Halt (wpAny M A (call f vs) Q E s)) : wpAny M A (call f vs) Q E s := h
theorem len_lst {prog : Program} {w : World} {A : Around} {E : Value → Shared → Prop} {s : Shared} {h₀ : Heap} {L l : Addr} {news : List (Addr × Obj)} {ys : List Value} {c n : Nat} {Q : Value → Shared → Prop} (N : News h₀ L s.heap news) (hm : (l, ({ cls := .type "list", data := .seq (ys).toArray n } : Obj)) ∈ news) (hl : ys.length = c) (h4 : c ≤ 100)
    (h : ∀ t' tk', Q (.int (c : Int) t') { s with toks := tk' }) : wpAny (model prog w) A (call (.builtin "len") [.ref l]) Q E s := by
  have e : ys.toArray.size = c := by rw [List.size_toArray]; exact hl
  refine len_list (⟨_, (N _ hm).1, rfl, n, rfl⟩ : s.heap.IsList l ys.toArray) (by rw [e]; omega) ?_
  rw [e]
  exact h _ _
theorem seg_15 {w : World} {mean : ExcName → Option Value} {mg mb : Str → Option Value} {dp un : Nat} {outer : List Env} {A₀ : Around} {base h₀ : Heap} {L : Addr} {m : Str → Option Value} {s : Shared} {gd : Option (List Code)} {a : Addr} {ccd : Value} {bs : List (Addr × Obj)} {dl al : Addr} {o1 o2 : Obj} {vs : List Value} {as : List Int} {d0 d1 d2 d3 d4 d5 d6 d7 d8 d9 : Int} {u0 u1 u2 u3 u4 u5 u6 u7 u8 u9 : Tok} {n na : Nat} {Q : Flow → Shared → Prop}
    (C : Cx w mean mg mb dp un (defScope (topStmt 17)) outer A₀ base h₀ L m s)
    (N : News h₀ L s.heap bs) (hd1 : ((L + 1 : Addr), o1) ∈ bs) (ho1 : o1.data = .cell (some (.ref dl))) (hdl : (dl, listOf #[.int d0 u0, .int d1 u1, .int d2 u2, .int d3 u3, .int d4 u4, .int d5 u5, .int d6 u6, .int d7 u7, .int d8 u8, .int d9 u9] n) ∈ bs)
    (ha1 : ((L + 1 + 1 : Addr), o2) ∈ bs) (ho2 : o2.data = .cell (some (.ref al))) (hal : (al, ({ cls := .type "list", data := .seq (vs).toArray na } : Obj)) ∈ bs) (hIa : IntsAre vs as) (hla : as.length = 4)
    (hQ : ∀ h' tk' D ys, Fr h₀ L h' (fun y => if y = Str.ofString "on" then some (.ref D) else m y) → News h₀ L h' ((D, LCg.lst ys) :: bs) → (∀ p ∈ bs, @Ne Nat p.1 D) → IntsAre ys (as.map fun arc => (countOn [d0, d1, d2, d3, d4, d5] arc : Int)) → Q .next { s with heap := h', toks := tk' }) :
    wpAny (model (RowW.prog (OpenRow.toRowW (OpenLaw.row PySem.Challenge.rw_qu0034_01))) w) (ktrTop dp un gd (Str.ofString "law") (defScope (topStmt 17)) L a ccd (cellsFrom (L + 1) (defScope (topStmt 17)).names []) outer) (exec (stmtOf 17 15) (envX (Str.ofString "law") (defScope (topStmt 17)) L a ccd (cellsFrom (L + 1) (defScope (topStmt 17)).names []))) Q (fun _ _ => False) s := by
  obtain ⟨B, F, X, T, hk, hd, hun⟩ := C
  revert X
  k_fill
  intro X
  clear hk
  conv in (occs := *) stmtOf 17 15 => all_goals whnf
  conv in (occs := *) cellsFrom _ _ _ => all_goals whnf
  conv in (occs := *) defScope (topStmt 17) => all_goals whnf
  show wpAny _ _ _ _ _ _
  refine' Assign_cell (by assumption) ?sw ?cl ?cells ?push ?kind ?names ?x ?y ?p ?main
  case sw => with_unfolding_all rfl
  case cl => with_unfolding_all rfl
  case cells => intro _; rfl
  case push => intro _; rfl
  case kind => rfl
  case names => decide
  case x => with_unfolding_all rfl
  case y => rfl
  case p => rfl
  case main =>
    k_steps
    refine ⟨al, vs, na, m, bs, fun i ys => IntsAre ys ((as.take i).map fun arc => (countOn [d0, d1, d2, d3, d4, d5] arc : Int)), rfl, rfl, by assumption, by assumption, hal, (by rw [hIa.length, hla]; decide), .nil, ?step, ?fin⟩
    case fin =>
      intro D ys h tk hinv F' N' hD
      rw [hIa.length, List.take_length] at hinv
      exact hQ h tk D ys F' N' hD hinv
    case step =>
      (repeat ((rename Fr _ _ _ _ => Fo); clear Fo))
      (repeat ((rename News _ _ _ _ => No); clear No))
      clear hQ
      intro i v ys I oI C oC c oc D h tk E' hv hinv hoc F1 N1
      obtain ⟨arc, ta, rfl, ha⟩ := IntsAre.at hIa i v hv
      replace F1 : Fr h₀ L h m := F1
      replace N1 : News h₀ L h ((c, oc) :: (I, oI) :: (C, oC) :: (D, LCg.lst ys) :: bs) := N1
      k_steps
      rename_i G hG FG NG lG
      show LCt.CompSrcT _ _ _ _ _ _ _ _ _ _ _ _ _ _ _
      clear lG
      have hI6 : IntsAre [.int d0 u0, .int d1 u1, .int d2 u2, .int d3 u3, .int d4 u4, .int d5 u5] [d0, d1, d2, d3, d4, d5] := .cons _ _ (.cons _ _ (.cons _ _ (.cons _ _ (.cons _ _ (.cons _ _ .nil)))))
      refine LCt.CompSrcT.ledger (by rfl) FG NG (.head _) (by exact Nat.le_of_ble_eq_true rfl) ?_
      intro g'
      (try dsimp only)
      refine comp_indT (n := 6) (fun j zs nw => nw = (G, listOf #[.int d0 u0, .int d1 u1, .int d2 u2, .int d3 u3, .int d4 u4, .int d5 u5] 0) :: (c, oc) :: (I, oI) :: (C, oC) :: (D, LCg.lst ys) :: bs ∧ zs.length = countOn ([d0, d1, d2, d3, d4, d5].take j) arc) ⟨rfl, rfl⟩ ?step2 ?fin2
      case fin2 =>
        rintro zs nw ⟨rfl, hz⟩
        k_steps
        rename_i D2 h2 tk2 F2 N2 o2'
        show wpAny _ _ _ _ _ _
        refine len_lst N2 (.head _) hz (by have := countOn_le [d0, d1, d2, d3, d4, d5] arc; simp at this ⊢; omega) ?_
        intro t3 tk3
        refine ⟨_, _, rfl, F2, cb_drop N2 fun p hp => .tail _ (.tail _ hp), ?_⟩
        rw [show as.take (i + 1) = as.take i ++ as[i]?.toList from List.take_add_one, ha]
        simpa using hinv.append (.cons _ _ .nil)
      case step2 =>
        clear FG NG hinv
        rintro j zs nw v2 I2 oI2 C2 oC2 D2 m2 h2 tk2 E2 hj ⟨rfl, hz⟩ hv2 hC2 hx2 F2 N2 off2 ne2
        obtain ⟨d, td, rfl, hd'⟩ := IntsAre.at hI6 j v2 (by simpa using hv2)
        clear hI6 hv hv2
        have hS : LCg.SrcAt h₀ G #[.int d0 u0, .int d1 u1, .int d2 u2, .int d3 u3, .int d4 u4, .int d5 u5] ((G, listOf #[.int d0 u0, .int d1 u1, .int d2 u2, .int d3 u3, .int d4 u4, .int d5 u5] 0) :: (c, oc) :: (I, oI) :: (C, oC) :: (D, LCg.lst ys) :: bs) := .inr ⟨_, .head _, rfl, _, rfl⟩
        k_steps
        · rename_i e
          refine LCg.CompEnd.intro F2 N2 _ (fun p hp => hp) off2 hS ⟨rfl, ?_⟩
          rw [List.length_append, countOn_yes hd' (decide_eq_true e), hz]
          rfl
        · rename_i e
          exact LCg.CompEnd.intro F2 N2 _ (fun p hp => hp) off2 hS ⟨rfl, by rw [countOn_no hd' (decide_eq_false e), hz]⟩
end
section
local macro_rules | `(tactic| walk_at "a pad") => `(tactic| skip)
local macro_rules | `(tactic| walk_at "call builtin:sum") => `(tactic| (refine halt_call2 ?_))

def minOf (k : Int) : Int := if 6 - k < k then 6 - k else k
theorem seg_16 {w : World} {mean : ExcName → Option Value} {mg mb : Str → Option Value} {dp un : Nat} {outer : List Env} {A₀ : Around} {base h₀ : Heap} {L : Addr} {m : Str → Option Value} {s : Shared} {gd : Option (List Code)} {a : Addr} {ccd : Value} {bs : List (Addr × Obj)} {nl : Addr} {vs : List Value} {ns : List Int} {n : Nat} {Q : Flow → Shared → Prop}
    (C : Cx w mean mg mb dp un (defScope (topStmt 17)) outer A₀ base h₀ L m s)
    (N : News h₀ L s.heap bs) (hon : (nl, ({ cls := .type "list", data := .seq (vs).toArray n } : Obj)) ∈ bs) (hI : IntsAre vs ns) (hl : ns.length = 4) (mo : m (Str.ofString "on") = some (.ref nl))
    (hQ : ∀ h' tk' t, Fr h₀ L h' (fun y => if y = Str.ofString "due" then some (.int (ns.map minOf).sum t) else m y) → News h₀ L h' bs → Q .next { s with heap := h', toks := tk' }) :
    wpAny (model (RowW.prog (OpenRow.toRowW (OpenLaw.row PySem.Challenge.rw_qu0034_01))) w) (ktrTop dp un gd (Str.ofString "law") (defScope (topStmt 17)) L a ccd (cellsFrom (L + 1) (defScope (topStmt 17)).names []) outer) (exec (stmtOf 17 16) (envX (Str.ofString "law") (defScope (topStmt 17)) L a ccd (cellsFrom (L + 1) (defScope (topStmt 17)).names []))) Q (fun _ _ => False) s := by
  obtain ⟨B, F, X, T, hk, hd, hun⟩ := C
  revert X
  k_fill
  intro X
  clear hk
  conv in (occs := *) stmtOf 17 16 => all_goals whnf
  conv in (occs := *) cellsFrom _ _ _ => all_goals whnf
  conv in (occs := *) defScope (topStmt 17) => all_goals whnf
  show wpAny _ _ _ _ _ _
  k_steps
  show LCg.CompSrc _ _ _ _ _ _ _ _ _ _ _ _ _ _
  refine LCg.CompSrc.ledger (by rfl) (by k_asm) (by k_asm) (by k_mem) (by rw [List.size_toArray, hI.length, hl]; decide) ?_
  intro g'
  (try dsimp only)
  refine comp_ind (n := vs.length) (fun i ys nw => nw = bs ∧ IntsAre ys ((ns.take i).map minOf)) ⟨rfl, .nil⟩ ?step ?fin
  case fin =>
    rintro ys nw ⟨rfl, hi⟩
    rw [hI.length, List.take_length] at hi
    k_steps
    rename_i D h1 tk1 F1 N1 off
    show wpAny _ _ _ _ _ _
    refine sumK rfl F1 N1 ⟨_, (N1 _ (.head _)).1, rfl, _, rfl⟩ hi ?_
    intro h2 tk2 t2 F2 N2
    (try dsimp only)
    k_steps
    rename_i h3 F3 N3
    exact hQ _ _ _ F3 (cb_drop N3 fun p hp => .tail _ hp)
  case step =>
    (repeat ((rename Fr _ _ _ _ => Fo); clear Fo))
    (repeat ((rename News _ _ _ _ => No); clear No))
    clear hQ
    rintro i ys nw v I oI C oC D m₂ h tk E' hlt ⟨rfl, hi⟩ hv hC hx F9 N9 off ne
    obtain ⟨k, tk9, rfl, hk⟩ := IntsAre.at hI i v (by simpa using hv)
    have hS : LCg.SrcAt h₀ nl vs.toArray nw := .inr ⟨_, hon, rfl, _, rfl⟩
    k_steps
    rename_i h2 tk2 F2 N2
    refine LCg.CompEnd.intro F2 N2 _ (fun p hp => hp) off hS ⟨rfl, ?_⟩
    rw [show ns.take (i + 1) = ns.take i ++ ns[i]?.toList from List.take_add_one, hk, List.map_append]
    exact hi.append (.cons _ _ .nil)
local macro_rules | `(tactic| walk_at "subscriptTail") => `(tactic| (k_here; (with_reducible show wpAny _ _ (subscriptTail _ _ (Value.ref _) (Value.int _ _)) _ _ _); first
  | (refine' ix_row ?a ?b ?c ?d ?_; (case a => k_asm); (case b => assumption); (case c => assumption); (case d => (refine ⟨?_, ?_, ?_⟩ <;> omega)); intro _)
  | (refine' ix_ref ?a ?b ?c ?d ?_; (case a => k_asm); (case b => assumption); (case c => assumption); (case d => (refine ⟨?_, ?_⟩ <;> omega)))))
theorem seg_17 {w : World} {mean : ExcName → Option Value} {mg mb : Str → Option Value} {dp un : Nat} {outer : List Env} {A₀ : Around} {base h₀ : Heap} {L : Addr} {m : Str → Option Value} {s : Shared} {gd : Option (List Code)} {a : Addr} {ccd : Value} {bs : List (Addr × Obj)} {fl : Addr} {rs : List Addr} {V : Nat → List Value} {TT : Nat → Nat → Int} {nf : Nat} {Q : Flow → Shared → Prop}
    (C : Cx w mean mg mb dp un (defScope (topStmt 17)) outer A₀ base h₀ L m s)
    (N : News h₀ L s.heap bs) (hf : (fl, ({ cls := .type "list", data := .seq (rs.map Value.ref).toArray nf } : Obj)) ∈ bs) (hrows : ∀ k, k < 6 → (rs.getD k 0, listOf (V k).toArray 0) ∈ bs) (hrs : rs.length = 6) (hV : ∀ k, k < 6 → IntsAre (V k) ((List.range 6).map (TT k)))
    (mf : m (Str.ofString "far") = some (.ref fl))
    (hQ : ∀ h' tk' t, Fr h₀ L h' (fun y => if y = Str.ofString "told" then some (.int (TT 0 3 + TT 1 4 + TT 2 5) t) else m y) → News h₀ L h' bs → Q .next { s with heap := h', toks := tk' }) :
    wpAny (model (RowW.prog (OpenRow.toRowW (OpenLaw.row PySem.Challenge.rw_qu0034_01))) w) (ktrTop dp un gd (Str.ofString "law") (defScope (topStmt 17)) L a ccd (cellsFrom (L + 1) (defScope (topStmt 17)).names []) outer) (exec (stmtOf 17 17) (envX (Str.ofString "law") (defScope (topStmt 17)) L a ccd (cellsFrom (L + 1) (defScope (topStmt 17)).names []))) Q (fun _ _ => False) s := by
  obtain ⟨B, F, X, T, hk, hd, hun⟩ := C
  revert X
  k_fill
  intro X
  clear hk
  conv in (occs := *) stmtOf 17 17 => all_goals whnf
  conv in (occs := *) cellsFrom _ _ _ => all_goals whnf
  conv in (occs := *) defScope (topStmt 17) => all_goals whnf
  show wpAny _ _ _ _ _ _
  k_steps
  exact hQ _ _ _ (by k_asm) (by k_asm)
theorem seg_18 {w : World} {mean : ExcName → Option Value} {mg mb : Str → Option Value} {dp un : Nat} {outer : List Env} {A₀ : Around} {base h₀ : Heap} {L : Addr} {m : Str → Option Value} {s : Shared} {gd : Option (List Code)} {a : Addr} {ccd : Value} {bs : List (Addr × Obj)} {nl : Addr} {vs : List Value} {ns : List Int} {n : Nat} {x z : Int} {t1 t2 t3 t4 : Tok} {Q : Flow → Shared → Prop}
    (C : Cx w mean mg mb dp un (defScope (topStmt 17)) outer A₀ base h₀ L m s)
    (N : News h₀ L s.heap bs) (hon : (nl, ({ cls := .type "list", data := .seq (vs).toArray n } : Obj)) ∈ bs) (hI : IntsAre vs ns) (hl : ns.length = 4) (hb : ∀ k ∈ ns, 0 ≤ k ∧ k ≤ 6) (mo : m (Str.ofString "on") = some (.ref nl))
    (mt : m (Str.ofString "told") = some (.int x t1)) (md : m (Str.ofString "due") = some (.int x t2)) (mm : m (Str.ofString "most") = some (.int x t3)) (mw : m (Str.ofString "whole") = some (.int z t4)) (hz : z = (ns.map fun k => k * (6 - k)).sum)
    (hQ : ∀ h' tk', (∀ b o, h₀.get? b = some o → h'.get? b = some o) → Q (.ret (.bool true)) { s with heap := h', toks := tk' }) :
    wpAny (model (RowW.prog (OpenRow.toRowW (OpenLaw.row PySem.Challenge.rw_qu0034_01))) w) (ktrTop dp un gd (Str.ofString "law") (defScope (topStmt 17)) L a ccd (cellsFrom (L + 1) (defScope (topStmt 17)).names []) outer) (exec (stmtOf 17 18) (envX (Str.ofString "law") (defScope (topStmt 17)) L a ccd (cellsFrom (L + 1) (defScope (topStmt 17)).names []))) Q (fun _ _ => False) s := by
  obtain ⟨B, F, X, T, hk, hd, hun⟩ := C
  revert X
  k_fill
  intro X
  clear hk
  conv in (occs := *) stmtOf 17 18 => all_goals whnf
  conv in (occs := *) cellsFrom _ _ _ => all_goals whnf
  conv in (occs := *) defScope (topStmt 17) => all_goals whnf
  show wpAny _ _ _ _ _ _
  k_steps
  all_goals first | exact absurd rfl (by assumption) | skip
  show LCg.CompSrc _ _ _ _ _ _ _ _ _ _ _ _ _ _
  refine LCg.CompSrc.ledger (by rfl) (by k_asm) (by k_asm) (by k_mem) (by rw [List.size_toArray, hI.length, hl]; decide) ?_
  intro g'
  (try dsimp only)
  refine comp_ind (n := vs.length) (fun i ys nw => nw = bs ∧ IntsAre ys ((ns.take i).map fun k => k * (6 - k))) ⟨rfl, .nil⟩ ?step ?fin
  case fin =>
    rintro ys nw ⟨rfl, hi⟩
    rw [hI.length, List.take_length] at hi
    k_steps
    rename_i D h1 tk1 F1 N1 off
    show wpAny _ _ _ _ _ _
    refine sumK rfl F1 N1 ⟨_, (N1 _ (.head _)).1, rfl, _, rfl⟩ hi ?_
    intro h2 tk2 t2 F2 N2
    (try dsimp only)
    k_steps
    rw [← hz, show (z == z) = true by simp]
    exact hQ _ _ F2.keep
  case step =>
    (repeat ((rename Fr _ _ _ _ => Fo); clear Fo))
    (repeat ((rename News _ _ _ _ => No); clear No))
    clear hQ
    rintro i ys nw v I oI C oC D m₂ h tk E' hlt ⟨rfl, hi⟩ hv hC hx F9 N9 off ne
    obtain ⟨k, tk9, rfl, hk⟩ := IntsAre.at hI i v (by simpa using hv)
    have hS : LCg.SrcAt h₀ nl vs.toArray nw := .inr ⟨_, hon, rfl, _, rfl⟩
    obtain ⟨hk0, hk6⟩ := hb k (List.mem_of_getElem? hk)
    (try dsimp only)
    k_steps
    (try dsimp only)
    refine LCg.CompEnd.intro F9 N9 _ (fun p hp => hp) off hS ⟨rfl, ?_⟩
    rw [show ns.take (i + 1) = ns.take i ++ ns[i]?.toList from List.take_add_one, hk, List.map_append]
    exact hi.append (.cons _ _ .nil)
end
end Mine
namespace Mine
/-- a sum over a list -/
def wsum (f : Int → Int) (l : List Int) : Int := (l.map f).sum
theorem wsum_cons (f : Int → Int) (a : Int) (l : List Int) : wsum f (a :: l) = f a + wsum f l := by simp [wsum]
theorem wsum_nil (f : Int → Int) : wsum f [] = 0 := rfl
/-- the head is the least -/
def HeapOk (l : List Int) : Prop := ∀ x ∈ l, l.headD 0 ≤ x
theorem three : ∀ {l : List Int}, l.length ≤ 3 → l = [] ∨ (∃ a, l = [a]) ∨ (∃ a b, l = [a, b]) ∨ ∃ a b c, l = [a, b, c]
  | [], _ => .inl rfl
  | [a], _ => .inr (.inl ⟨a, rfl⟩)
  | [a, b], _ => .inr (.inr (.inl ⟨a, b, rfl⟩))
  | [a, b, c], _ => .inr (.inr (.inr ⟨a, b, c, rfl⟩))
  | _ :: _ :: _ :: _ :: _, h => absurd h (by simp only [List.length_cons]; omega)
theorem two : ∀ {l : List Int}, l.length ≤ 2 → l = [] ∨ (∃ a, l = [a]) ∨ (∃ a b, l = [a, b])
  | [], _ => .inl rfl
  | [a], _ => .inr (.inl ⟨a, rfl⟩)
  | [a, b], _ => .inr (.inr ⟨a, b, rfl⟩)
  | _ :: _ :: _ :: _, h => absurd h (by simp only [List.length_cons]; omega)
theorem push_ok {l : List Int} {v : Int} (h : HeapOk l) (hl : l.length ≤ 2) : HeapOk (pushF l v) ∧ (∀ x, x ∈ pushF l v → x = v ∨ x ∈ l) ∧ ∀ f, wsum f (pushF l v) = f v + wsum f l := by
  rcases two hl with rfl | ⟨a, rfl⟩ | ⟨a, b, rfl⟩
  · simp [pushF, HeapOk, wsum]
  · simp only [pushF]
    split
    · exact ⟨by simp [HeapOk] <;> omega, fun x hx => by simp at hx ⊢ <;> omega, fun f => by simp [wsum] <;> omega⟩
    · exact ⟨by simp [HeapOk] <;> omega, fun x hx => by simp at hx ⊢ <;> omega, fun f => by simp [wsum] <;> omega⟩
  · simp only [pushF]
    simp only [HeapOk, List.mem_cons, List.headD_cons] at h
    have hb := h b (by simp)
    split
    · exact ⟨by simp [HeapOk] <;> omega, fun x hx => by simp at hx ⊢ <;> omega, fun f => by simp [wsum] <;> omega⟩
    · exact ⟨by simp [HeapOk] <;> omega, fun x hx => by simp at hx ⊢ <;> omega, fun f => by simp [wsum] <;> omega⟩
theorem pop_ok {l : List Int} (h : HeapOk l) (hl : l.length ≤ 3) (h0 : l ≠ []) : HeapOk (popF l) ∧ (∀ x, x ∈ popF l → x ∈ l ∧ l.headD 0 ≤ x) ∧ l.headD 0 ∈ l ∧ ∀ f, f (l.headD 0) + wsum f (popF l) = wsum f l := by
  rcases three hl with rfl | ⟨a, rfl⟩ | ⟨a, b, rfl⟩ | ⟨a, b, c, rfl⟩
  · exact absurd rfl h0
  · simp [popF, HeapOk, wsum]
  · simp only [HeapOk, List.mem_cons, List.headD_cons] at h
    have hb := h b (by simp)
    simp only [popF]
    exact ⟨by simp [HeapOk] <;> omega, fun x hx => by simp at hx ⊢ <;> omega, by simp, fun f => by simp [wsum] <;> omega⟩
  · simp only [HeapOk, List.mem_cons, List.headD_cons] at h
    have hb := h b (by simp)
    have hc := h c (by simp)
    simp only [popF]
    split
    · exact ⟨by simp [HeapOk] <;> omega, fun x hx => by simp at hx ⊢ <;> omega, by simp, fun f => by simp [wsum] <;> omega⟩
    · exact ⟨by simp [HeapOk] <;> omega, fun x hx => by simp at hx ⊢ <;> omega, by simp, fun f => by simp [wsum] <;> omega⟩
theorem pp_ok {l : List Int} {v : Int} (h : HeapOk l) (hl : l.length ≤ 3) : HeapOk (ppL l v) ∧ (∀ x, x ∈ ppL l v → ppV l v ≤ x) ∧ ((ppV l v = v ∧ ppL l v = l) ∨ (ppV l v ∈ l ∧ ∀ x, x ∈ ppL l v → x = v ∨ x ∈ l)) ∧ ∀ f, f (ppV l v) + wsum f (ppL l v) = f v + wsum f l := by
  rcases three hl with rfl | ⟨a, rfl⟩ | ⟨a, b, rfl⟩ | ⟨a, b, c, rfl⟩
  · simp [ppL, ppV, HeapOk, wsum]
  · simp only [ppL, ppV]
    split
    · exact ⟨by simp [HeapOk] <;> omega, fun x hx => by simp at hx ⊢ <;> omega, by first | exact .inl ⟨rfl, rfl⟩ | exact .inr ⟨by simp, fun x hx => by simp at hx ⊢ <;> omega⟩, fun f => by simp [wsum] <;> omega⟩
    · exact ⟨by simp [HeapOk] <;> omega, fun x hx => by simp at hx ⊢ <;> omega, by first | exact .inl ⟨rfl, rfl⟩ | exact .inr ⟨by simp, fun x hx => by simp at hx ⊢ <;> omega⟩, fun f => by simp [wsum] <;> omega⟩
  · simp only [HeapOk, List.mem_cons, List.headD_cons] at h
    have hb := h b (by simp)
    simp only [ppL, ppV]
    split
    · split
      · exact ⟨by simp [HeapOk] <;> omega, fun x hx => by simp at hx ⊢ <;> omega, by first | exact .inl ⟨rfl, rfl⟩ | exact .inr ⟨by simp, fun x hx => by simp at hx ⊢ <;> omega⟩, fun f => by simp [wsum] <;> omega⟩
      · exact ⟨by simp [HeapOk] <;> omega, fun x hx => by simp at hx ⊢ <;> omega, by first | exact .inl ⟨rfl, rfl⟩ | exact .inr ⟨by simp, fun x hx => by simp at hx ⊢ <;> omega⟩, fun f => by simp [wsum] <;> omega⟩
    · exact ⟨by simp [HeapOk] <;> omega, fun x hx => by simp at hx ⊢ <;> omega, by first | exact .inl ⟨rfl, rfl⟩ | exact .inr ⟨by simp, fun x hx => by simp at hx ⊢ <;> omega⟩, fun f => by simp [wsum] <;> omega⟩
  · simp only [HeapOk, List.mem_cons, List.headD_cons] at h
    have hb := h b (by simp)
    have hc := h c (by simp)
    simp only [ppL, ppV]
    split
    · split
      · split
        · exact ⟨by simp [HeapOk] <;> omega, fun x hx => by simp at hx ⊢ <;> omega, by first | exact .inl ⟨rfl, rfl⟩ | exact .inr ⟨by simp, fun x hx => by simp at hx ⊢ <;> omega⟩, fun f => by simp [wsum] <;> omega⟩
        · exact ⟨by simp [HeapOk] <;> omega, fun x hx => by simp at hx ⊢ <;> omega, by first | exact .inl ⟨rfl, rfl⟩ | exact .inr ⟨by simp, fun x hx => by simp at hx ⊢ <;> omega⟩, fun f => by simp [wsum] <;> omega⟩
      · split
        · exact ⟨by simp [HeapOk] <;> omega, fun x hx => by simp at hx ⊢ <;> omega, by first | exact .inl ⟨rfl, rfl⟩ | exact .inr ⟨by simp, fun x hx => by simp at hx ⊢ <;> omega⟩, fun f => by simp [wsum] <;> omega⟩
        · exact ⟨by simp [HeapOk] <;> omega, fun x hx => by simp at hx ⊢ <;> omega, by first | exact .inl ⟨rfl, rfl⟩ | exact .inr ⟨by simp, fun x hx => by simp at hx ⊢ <;> omega⟩, fun f => by simp [wsum] <;> omega⟩
    · exact ⟨by simp [HeapOk] <;> omega, fun x hx => by simp at hx ⊢ <;> omega, by first | exact .inl ⟨rfl, rfl⟩ | exact .inr ⟨by simp, fun x hx => by simp at hx ⊢ <;> omega⟩, fun f => by simp [wsum] <;> omega⟩
end Mine
namespace Mine
/-- what holds of the two heaps between the turns -/
structure Halves (st : List Int × List Int) : Prop where
  lo : HeapOk st.1
  hi : HeapOk st.2
  cut : ∀ a ∈ st.1, ∀ b ∈ st.2, -a ≤ b
def wst (f : Int → Int) (st : List Int × List Int) : Int := wsum (fun x => f (-x)) st.1 + wsum f st.2
theorem turn_ok {st : List Int × List Int} (h : Int) (H : Halves st) (h1 : st.1.length ≤ 3) (h2 : st.2.length ≤ 2) (hsh : st.1.length ≤ 2 ∨ st.2.length = 2) (hle : st.2.length ≤ st.1.length) :
    Halves (turnF st h) ∧ ∀ f, wst f (turnF st h) = f h + wst f st := by
  obtain ⟨p1, p2, p3, p4⟩ := pp_ok (v := -h) H.lo h1
  obtain ⟨q1, q2, q3⟩ := push_ok (v := -(ppV st.1 (-h))) H.hi h2
  have lp := ppL_length st.1 (-h)
  have lq := pushF_length st.2 (-(ppV st.1 (-h))) h2
  have cut : ∀ a ∈ ppL st.1 (-h), ∀ b ∈ pushF st.2 (-(ppV st.1 (-h))), -a ≤ b := by
    intro a ha b hb
    have ta := p2 a ha
    rcases q2 b hb with rfl | hb
    · omega
    · rcases p3 with ⟨-, e⟩ | ⟨hm, -⟩
      · rw [e] at ha
        exact H.cut a ha b hb
      · have := H.cut _ hm b hb
        omega
  have wt : ∀ f : Int → Int, wsum (fun x => f (-x)) (ppL st.1 (-h)) + wsum f (pushF st.2 (-(ppV st.1 (-h)))) = f h + wst f st := by
    intro f
    have a1 := p4 (fun x => f (-x))
    have a2 := q3 f
    simp only [Int.neg_neg] at a1
    unfold wst
    omega
  unfold turnF
  dsimp only
  split
  · rename_i hlt
    have hne : pushF st.2 (-(ppV st.1 (-h))) ≠ [] := fun e => by rw [e] at lq; simp at lq
    obtain ⟨r1, r2, r3, r4⟩ := pop_ok q1 (by omega) hne
    obtain ⟨s1, s2, s3⟩ := push_ok (v := -((pushF st.2 (-(ppV st.1 (-h)))).headD 0)) p1 (by omega)
    refine ⟨⟨s1, r1, fun a ha b hb => ?_⟩, fun f => ?_⟩
    · obtain ⟨hb1, hb2⟩ := r2 b hb
      rcases s2 a ha with rfl | ha
      · omega
      · exact cut a ha b hb1
    · have a1 := s3 (fun x => f (-x))
      have a2 := r4 f
      have a3 := wt f
      simp only [Int.neg_neg] at a1
      unfold wst at a3 ⊢
      dsimp only
      omega
  · exact ⟨⟨p1, q1, cut⟩, wt⟩
theorem turn_lens (st : List Int × List Int) (h : Int) (h1 : st.1.length ≤ 3) (h2 : st.2.length ≤ 2) : ((turnF st h).1.length, (turnF st h).2.length) = if st.1.length < st.2.length + 1 then (st.1.length + 1, st.2.length) else (st.1.length, st.2.length + 1) := by
  have lp := ppL_length st.1 (-h)
  have lq := pushF_length st.2 (-(ppV st.1 (-h))) h2
  unfold turnF
  dsimp only
  split
  · rename_i hlt
    rw [if_pos (by omega)]
    have z1 := pushF_length (ppL st.1 (-h)) (-((pushF st.2 (-(ppV st.1 (-h)))).headD 0)) (by omega)
    have z2 := popF_length (pushF st.2 (-(ppV st.1 (-h)))) (by omega)
    rw [z1, z2, lp, lq]
    rfl
  · rename_i hlt
    rw [if_neg (by omega), lp, lq]
theorem turn_up {st : List Int × List Int} (h : Int) {n : Nat} (H : Halves st) (l1 : st.1.length = n) (l2 : st.2.length = n) (hn : n ≤ 2) : Halves (turnF st h) ∧ (turnF st h).1.length = n + 1 ∧ (turnF st h).2.length = n ∧ ∀ f, wst f (turnF st h) = f h + wst f st := by
  obtain ⟨a, b⟩ := turn_ok h H (by omega) (by omega) (by omega) (by omega)
  have e := turn_lens st h (by omega) (by omega)
  rw [if_pos (by omega)] at e
  have e1 := congrArg Prod.fst e
  have e2 := congrArg Prod.snd e
  dsimp only at e1 e2
  exact ⟨a, by omega, by omega, b⟩
theorem turn_over {st : List Int × List Int} (h : Int) {n : Nat} (H : Halves st) (l1 : st.1.length = n + 1) (l2 : st.2.length = n) (hn : n ≤ 2) : Halves (turnF st h) ∧ (turnF st h).1.length = n + 1 ∧ (turnF st h).2.length = n + 1 ∧ ∀ f, wst f (turnF st h) = f h + wst f st := by
  obtain ⟨a, b⟩ := turn_ok h H (by omega) (by omega) (by omega) (by omega)
  have e := turn_lens st h (by omega) (by omega)
  rw [if_neg (by omega)] at e
  have e1 := congrArg Prod.fst e
  have e2 := congrArg Prod.snd e
  dsimp only at e1 e2
  exact ⟨a, by omega, by omega, b⟩
theorem heaps_six (h0 h1 h2 h3 h4 h5 : Int) :
    Halves (turnF (turnF (turnF (turnF (turnF (turnF ([], []) h0) h1) h2) h3) h4) h5) ∧ (turnF (turnF (turnF (turnF (turnF (turnF ([], []) h0) h1) h2) h3) h4) h5).1.length = 3 ∧ (turnF (turnF (turnF (turnF (turnF (turnF ([], []) h0) h1) h2) h3) h4) h5).2.length = 3 ∧
      ∀ f, wst f (turnF (turnF (turnF (turnF (turnF (turnF ([], []) h0) h1) h2) h3) h4) h5) = f h0 + f h1 + f h2 + f h3 + f h4 + f h5 := by
  have H0 : Halves (([] : List Int), ([] : List Int)) := Halves.mk (fun _ h => by cases h) (fun _ h => by cases h) (fun _ h => by cases h)
  obtain ⟨H1, a1, b1, w1⟩ := turn_up h0 (n := 0) H0 rfl rfl (by omega)
  obtain ⟨H2, a2, b2, w2⟩ := turn_over h1 (n := 0) H1 a1 b1 (by omega)
  obtain ⟨H3, a3, b3, w3⟩ := turn_up h2 (n := 1) H2 a2 b2 (by omega)
  obtain ⟨H4, a4, b4, w4⟩ := turn_over h3 (n := 1) H3 a3 b3 (by omega)
  obtain ⟨H5, a5, b5, w5⟩ := turn_up h4 (n := 2) H4 a4 b4 (by omega)
  obtain ⟨H6, a6, b6, w6⟩ := turn_over h5 (n := 2) H5 a5 b5 (by omega)
  refine ⟨H6, a6, b6, fun f => ?_⟩
  rw [w6, w5, w4, w3, w2, w1]
  have : wst f (([] : List Int), ([] : List Int)) = 0 := rfl
  omega
/-- the row as it comes off the heaps: in rising order, the same hues -/
theorem row_six {st : List Int × List Int} (H : Halves st) (l1 : st.1.length = 3) (l2 : st.2.length = 3) : ∃ x0 x1 x2 x3 x4 x5, rowL st.1 3 ++ rowG st.2 3 = [x0, x1, x2, x3, x4, x5] ∧ x0 ≤ x1 ∧ x1 ≤ x2 ∧ x2 ≤ x3 ∧ x3 ≤ x4 ∧ x4 ≤ x5 ∧ ∀ f, wst f st = f x0 + f x1 + f x2 + f x3 + f x4 + f x5 := by
  have pops3 : ∀ l : List Int, HeapOk l → l.length = 3 → ∃ a b c, (pops 0 l).headD 0 = a ∧ (pops 1 l).headD 0 = b ∧ (pops 2 l).headD 0 = c ∧ a ≤ b ∧ b ≤ c ∧ a ∈ l ∧ ∀ f, wsum f l = f a + f b + f c := by
    intro l h hl
    have k0 : l ≠ [] := fun e => by rw [e] at hl; simp at hl
    obtain ⟨r1, r2, r3, r4⟩ := pop_ok h (by omega) k0
    have z1 := popF_length l (by omega)
    have k1 : popF l ≠ [] := fun e => by rw [e] at z1; simp at z1; omega
    obtain ⟨s1, s2, s3, s4⟩ := pop_ok r1 (by omega) k1
    have z2 := popF_length (popF l) (by omega)
    have k2 : popF (popF l) ≠ [] := fun e => by rw [e] at z2; simp at z2; omega
    obtain ⟨t1, t2, t3, t4⟩ := pop_ok s1 (by omega) k2
    have z3 := popF_length (popF (popF l)) (by omega)
    have k3 : popF (popF (popF l)) = [] := List.eq_nil_of_length_eq_zero (by omega)
    refine ⟨_, _, _, rfl, rfl, rfl, (r2 _ s3).2, (s2 _ t3).2, r3, fun f => ?_⟩
    have y1 := r4 f
    have y2 := s4 f
    have y3 := t4 f
    rw [k3, wsum_nil] at y3
    show _ = f (l.headD 0) + f ((popF l).headD 0) + f ((popF (popF l)).headD 0)
    omega
  obtain ⟨a, b, c, ea, eb, ec, hab, hbc, hal, hw1⟩ := pops3 st.1 H.lo l1
  obtain ⟨a', b', c', ea', eb', ec', hab', hbc', hal', hw2⟩ := pops3 st.2 H.hi l2
  have hcut := H.cut a hal a' hal'
  refine ⟨-c, -b, -a, a', b', c', ?_, by omega, by omega, hcut, hab', hbc', fun f => ?_⟩
  · simp only [rowL, rowG, ea, eb, ec, ea', eb', ec', List.nil_append, List.cons_append]
  · have y1 : wsum (fun x => f (-x)) st.1 = f (-a) + f (-b) + f (-c) := hw1 (fun x => f (-x))
    have y2 := hw2 f
    unfold wst
    omega
end Mine
namespace Mine
def b2i (b : Bool) : Int := if b then 1 else 0
/-- how many of six -/
def cnt (b : Nat → Bool) : Int := b2i (b 0) + b2i (b 1) + b2i (b 2) + b2i (b 3) + b2i (b 4) + b2i (b 5)
def ap (b : Nat → Bool) (i j : Nat) : Int := apart (b i) (b j)
theorem dB_sum (B : Nat → Nat → Bool) (i j : Nat) : dB B i j = ap (fun k => B k 0) i j + ap (fun k => B k 1) i j + ap (fun k => B k 2) i j + ap (fun k => B k 3) i j := rfl
theorem whF_eq (T : Nat → Nat → Int) : csum (fun a => csum (T a) a) 6 + csum (T 6) 0 = T 1 0 + T 2 0 + T 2 1 + T 3 0 + T 3 1 + T 3 2 + T 4 0 + T 4 1 + T 4 2 + T 4 3 + T 5 0 + T 5 1 + T 5 2 + T 5 3 + T 5 4 := by
  simp only [csum]; omega
theorem pw_eq (T : Nat → Nat → Int) : pairW T 1 1 = T 0 1 + T 2 3 + T 4 5 ∧ pairW T 1 2 = T 0 1 + T 2 4 + T 3 5 ∧ pairW T 1 3 = T 0 1 + T 2 5 + T 3 4 ∧
    pairW T 2 1 = T 0 2 + T 1 3 + T 4 5 ∧ pairW T 2 2 = T 0 2 + T 1 4 + T 3 5 ∧ pairW T 2 3 = T 0 2 + T 1 5 + T 3 4 ∧
    pairW T 3 1 = T 0 3 + T 1 2 + T 4 5 ∧ pairW T 3 2 = T 0 3 + T 1 4 + T 2 5 ∧ pairW T 3 3 = T 0 3 + T 1 5 + T 2 4 ∧
    pairW T 4 1 = T 0 4 + T 1 2 + T 3 5 ∧ pairW T 4 2 = T 0 4 + T 1 3 + T 2 5 ∧ pairW T 4 3 = T 0 4 + T 1 5 + T 2 3 ∧
    pairW T 5 1 = T 0 5 + T 1 2 + T 3 4 ∧ pairW T 5 2 = T 0 5 + T 1 3 + T 2 4 ∧ pairW T 5 3 = T 0 5 + T 1 4 + T 2 3 := ⟨rfl, rfl, rfl, rfl, rfl, rfl, rfl, rfl, rfl, rfl, rfl, rfl, rfl, rfl, rfl⟩
theorem most_eq (T : Nat → Nat → Int) : mostF T 5 = max (max (max (max (max (max (max (max (max (max (max (max (max (max (max 0 (pairW T 1 1)) (pairW T 1 2)) (pairW T 1 3)) (pairW T 2 1)) (pairW T 2 2)) (pairW T 2 3)) (pairW T 3 1)) (pairW T 3 2)) (pairW T 3 3)) (pairW T 4 1)) (pairW T 4 2)) (pairW T 4 3)) (pairW T 5 1)) (pairW T 5 2)) (pairW T 5 3) := rfl
theorem le11 : ∀ b0 b1 b2 b3 b4 b5 : Bool, apart b0 b1 + apart b2 b3 + apart b4 b5 ≤ minOf (b2i b0 + b2i b1 + b2i b2 + b2i b3 + b2i b4 + b2i b5) := by decide +kernel
theorem le12 : ∀ b0 b1 b2 b3 b4 b5 : Bool, apart b0 b1 + apart b2 b4 + apart b3 b5 ≤ minOf (b2i b0 + b2i b1 + b2i b2 + b2i b3 + b2i b4 + b2i b5) := by decide +kernel
theorem le13 : ∀ b0 b1 b2 b3 b4 b5 : Bool, apart b0 b1 + apart b2 b5 + apart b3 b4 ≤ minOf (b2i b0 + b2i b1 + b2i b2 + b2i b3 + b2i b4 + b2i b5) := by decide +kernel
theorem le21 : ∀ b0 b1 b2 b3 b4 b5 : Bool, apart b0 b2 + apart b1 b3 + apart b4 b5 ≤ minOf (b2i b0 + b2i b1 + b2i b2 + b2i b3 + b2i b4 + b2i b5) := by decide +kernel
theorem le22 : ∀ b0 b1 b2 b3 b4 b5 : Bool, apart b0 b2 + apart b1 b4 + apart b3 b5 ≤ minOf (b2i b0 + b2i b1 + b2i b2 + b2i b3 + b2i b4 + b2i b5) := by decide +kernel
theorem le23 : ∀ b0 b1 b2 b3 b4 b5 : Bool, apart b0 b2 + apart b1 b5 + apart b3 b4 ≤ minOf (b2i b0 + b2i b1 + b2i b2 + b2i b3 + b2i b4 + b2i b5) := by decide +kernel
theorem le31 : ∀ b0 b1 b2 b3 b4 b5 : Bool, apart b0 b3 + apart b1 b2 + apart b4 b5 ≤ minOf (b2i b0 + b2i b1 + b2i b2 + b2i b3 + b2i b4 + b2i b5) := by decide +kernel
theorem le32 : ∀ b0 b1 b2 b3 b4 b5 : Bool, apart b0 b3 + apart b1 b4 + apart b2 b5 ≤ minOf (b2i b0 + b2i b1 + b2i b2 + b2i b3 + b2i b4 + b2i b5) := by decide +kernel
theorem le33 : ∀ b0 b1 b2 b3 b4 b5 : Bool, apart b0 b3 + apart b1 b5 + apart b2 b4 ≤ minOf (b2i b0 + b2i b1 + b2i b2 + b2i b3 + b2i b4 + b2i b5) := by decide +kernel
theorem le41 : ∀ b0 b1 b2 b3 b4 b5 : Bool, apart b0 b4 + apart b1 b2 + apart b3 b5 ≤ minOf (b2i b0 + b2i b1 + b2i b2 + b2i b3 + b2i b4 + b2i b5) := by decide +kernel
theorem le42 : ∀ b0 b1 b2 b3 b4 b5 : Bool, apart b0 b4 + apart b1 b3 + apart b2 b5 ≤ minOf (b2i b0 + b2i b1 + b2i b2 + b2i b3 + b2i b4 + b2i b5) := by decide +kernel
theorem le43 : ∀ b0 b1 b2 b3 b4 b5 : Bool, apart b0 b4 + apart b1 b5 + apart b2 b3 ≤ minOf (b2i b0 + b2i b1 + b2i b2 + b2i b3 + b2i b4 + b2i b5) := by decide +kernel
theorem le51 : ∀ b0 b1 b2 b3 b4 b5 : Bool, apart b0 b5 + apart b1 b2 + apart b3 b4 ≤ minOf (b2i b0 + b2i b1 + b2i b2 + b2i b3 + b2i b4 + b2i b5) := by decide +kernel
theorem le52 : ∀ b0 b1 b2 b3 b4 b5 : Bool, apart b0 b5 + apart b1 b3 + apart b2 b4 ≤ minOf (b2i b0 + b2i b1 + b2i b2 + b2i b3 + b2i b4 + b2i b5) := by decide +kernel
theorem le53 : ∀ b0 b1 b2 b3 b4 b5 : Bool, apart b0 b5 + apart b1 b4 + apart b2 b3 ≤ minOf (b2i b0 + b2i b1 + b2i b2 + b2i b3 + b2i b4 + b2i b5) := by decide +kernel
theorem pw11 (b : Nat → Bool) : pairW (ap b) 1 1 ≤ minOf (cnt b) := le11 (b 0) (b 1) (b 2) (b 3) (b 4) (b 5)
theorem pw12 (b : Nat → Bool) : pairW (ap b) 1 2 ≤ minOf (cnt b) := le12 (b 0) (b 1) (b 2) (b 3) (b 4) (b 5)
theorem pw13 (b : Nat → Bool) : pairW (ap b) 1 3 ≤ minOf (cnt b) := le13 (b 0) (b 1) (b 2) (b 3) (b 4) (b 5)
theorem pw21 (b : Nat → Bool) : pairW (ap b) 2 1 ≤ minOf (cnt b) := le21 (b 0) (b 1) (b 2) (b 3) (b 4) (b 5)
theorem pw22 (b : Nat → Bool) : pairW (ap b) 2 2 ≤ minOf (cnt b) := le22 (b 0) (b 1) (b 2) (b 3) (b 4) (b 5)
theorem pw23 (b : Nat → Bool) : pairW (ap b) 2 3 ≤ minOf (cnt b) := le23 (b 0) (b 1) (b 2) (b 3) (b 4) (b 5)
theorem pw31 (b : Nat → Bool) : pairW (ap b) 3 1 ≤ minOf (cnt b) := le31 (b 0) (b 1) (b 2) (b 3) (b 4) (b 5)
theorem pw32 (b : Nat → Bool) : pairW (ap b) 3 2 ≤ minOf (cnt b) := le32 (b 0) (b 1) (b 2) (b 3) (b 4) (b 5)
theorem pw33 (b : Nat → Bool) : pairW (ap b) 3 3 ≤ minOf (cnt b) := le33 (b 0) (b 1) (b 2) (b 3) (b 4) (b 5)
theorem pw41 (b : Nat → Bool) : pairW (ap b) 4 1 ≤ minOf (cnt b) := le41 (b 0) (b 1) (b 2) (b 3) (b 4) (b 5)
theorem pw42 (b : Nat → Bool) : pairW (ap b) 4 2 ≤ minOf (cnt b) := le42 (b 0) (b 1) (b 2) (b 3) (b 4) (b 5)
theorem pw43 (b : Nat → Bool) : pairW (ap b) 4 3 ≤ minOf (cnt b) := le43 (b 0) (b 1) (b 2) (b 3) (b 4) (b 5)
theorem pw51 (b : Nat → Bool) : pairW (ap b) 5 1 ≤ minOf (cnt b) := le51 (b 0) (b 1) (b 2) (b 3) (b 4) (b 5)
theorem pw52 (b : Nat → Bool) : pairW (ap b) 5 2 ≤ minOf (cnt b) := le52 (b 0) (b 1) (b 2) (b 3) (b 4) (b 5)
theorem pw53 (b : Nat → Bool) : pairW (ap b) 5 3 ≤ minOf (cnt b) := le53 (b 0) (b 1) (b 2) (b 3) (b 4) (b 5)
theorem pairs_diff : ∀ b0 b1 b2 b3 b4 b5 : Bool, apart b1 b0 + apart b2 b0 + apart b2 b1 + apart b3 b0 + apart b3 b1 + apart b3 b2 + apart b4 b0 + apart b4 b1 + apart b4 b2 + apart b4 b3 + apart b5 b0 + apart b5 b1 + apart b5 b2 + apart b5 b3 + apart b5 b4 =
    (b2i b0 + b2i b1 + b2i b2 + b2i b3 + b2i b4 + b2i b5) * (6 - (b2i b0 + b2i b1 + b2i b2 + b2i b3 + b2i b4 + b2i b5)) := by decide +kernel
/-- two rising chains, one cut: what lies between, or outside, is opposed by what does not -/
theorem opp_and : ∀ p0 p1 p2 p3 p4 p5 : Bool, (p0 → p1) → (p1 → p2) → (p2 → p3) → (p3 → p4) → (p4 → p5) → ∀ q0 q1 q2 q3 q4 q5 : Bool, (q1 → q0) → (q2 → q1) → (q3 → q2) → (q4 → q3) → (q5 → q4) →
    apart (p0 && q0) (p3 && q3) + apart (p1 && q1) (p4 && q4) + apart (p2 && q2) (p5 && q5) = minOf (b2i (p0 && q0) + b2i (p1 && q1) + b2i (p2 && q2) + b2i (p3 && q3) + b2i (p4 && q4) + b2i (p5 && q5)) := by decide +kernel
theorem opp_or : ∀ p0 p1 p2 p3 p4 p5 : Bool, (p0 → p1) → (p1 → p2) → (p2 → p3) → (p3 → p4) → (p4 → p5) → ∀ q0 q1 q2 q3 q4 q5 : Bool, (q1 → q0) → (q2 → q1) → (q3 → q2) → (q4 → q3) → (q5 → q4) →
    apart (p0 || q0) (p3 || q3) + apart (p1 || q1) (p4 || q4) + apart (p2 || q2) (p5 || q5) = minOf (b2i (p0 || q0) + b2i (p1 || q1) + b2i (p2 || q2) + b2i (p3 || q3) + b2i (p4 || q4) + b2i (p5 || q5)) := by decide +kernel
theorem pairW_sum (B : Nat → Nat → Bool) (one two : Nat) : pairW (dB B) one two = pairW (ap fun k => B k 0) one two + pairW (ap fun k => B k 1) one two + pairW (ap fun k => B k 2) one two + pairW (ap fun k => B k 3) one two := by
  unfold pairW
  simp only [dB_sum]
  omega
/-- the opposite ones of a letter -/
def oppW (b : Nat → Bool) : Int := ap b 0 3 + ap b 1 4 + ap b 2 5
theorem told_eq (B : Nat → Nat → Bool) (h : ∀ l, l < 4 → oppW (fun k => B k l) = minOf (cnt fun k => B k l)) :
    dB B 0 3 + dB B 1 4 + dB B 2 5 = minOf (cnt fun k => B k 0) + minOf (cnt fun k => B k 1) + minOf (cnt fun k => B k 2) + minOf (cnt fun k => B k 3) := by
  rw [← h 0 (by omega), ← h 1 (by omega), ← h 2 (by omega), ← h 3 (by omega)]
  simp only [dB_sum, oppW]
  omega
theorem most_le (B : Nat → Nat → Bool) (one two : Nat) (h : ∀ b : Nat → Bool, pairW (ap b) one two ≤ minOf (cnt b)) :
    pairW (dB B) one two ≤ minOf (cnt fun k => B k 0) + minOf (cnt fun k => B k 1) + minOf (cnt fun k => B k 2) + minOf (cnt fun k => B k 3) := by
  rw [pairW_sum]
  have h0 := h fun k => B k 0
  have h1 := h fun k => B k 1
  have h2 := h fun k => B k 2
  have h3 := h fun k => B k 3
  omega
theorem minOf_pos : ∀ b : Nat → Bool, 0 ≤ minOf (cnt b) := by
  intro b
  have h : ∀ x : Bool, 0 ≤ b2i x ∧ b2i x ≤ 1 := by decide +kernel
  have a0 := h (b 0)
  have a1 := h (b 1)
  have a2 := h (b 2)
  have a3 := h (b 3)
  have a4 := h (b 4)
  have a5 := h (b 5)
  unfold minOf cnt
  split <;> omega
theorem most_told (B : Nat → Nat → Bool) (h : ∀ l, l < 4 → oppW (fun k => B k l) = minOf (cnt fun k => B k l)) :
    mostF (dB B) 5 = minOf (cnt fun k => B k 0) + minOf (cnt fun k => B k 1) + minOf (cnt fun k => B k 2) + minOf (cnt fun k => B k 3) := by
  have ht := told_eq B h
  have e32 : pairW (dB B) 3 2 = dB B 0 3 + dB B 1 4 + dB B 2 5 := rfl
  have p0 := minOf_pos fun k => B k 0
  have p1 := minOf_pos fun k => B k 1
  have p2 := minOf_pos fun k => B k 2
  have p3 := minOf_pos fun k => B k 3
  have l11 := most_le B 1 1 pw11
  have l12 := most_le B 1 2 pw12
  have l13 := most_le B 1 3 pw13
  have l21 := most_le B 2 1 pw21
  have l22 := most_le B 2 2 pw22
  have l23 := most_le B 2 3 pw23
  have l31 := most_le B 3 1 pw31
  have l33 := most_le B 3 3 pw33
  have l41 := most_le B 4 1 pw41
  have l42 := most_le B 4 2 pw42
  have l43 := most_le B 4 3 pw43
  have l51 := most_le B 5 1 pw51
  have l52 := most_le B 5 2 pw52
  have l53 := most_le B 5 3 pw53
  have l32 : pairW (dB B) 3 2 ≤ (minOf (cnt fun k => B k 0) + minOf (cnt fun k => B k 1) + minOf (cnt fun k => B k 2) + minOf (cnt fun k => B k 3)) := by rw [e32, ht]; exact Int.le_refl _
  have p : (0 : Int) ≤ (minOf (cnt fun k => B k 0) + minOf (cnt fun k => B k 1) + minOf (cnt fun k => B k 2) + minOf (cnt fun k => B k 3)) := by omega
  rw [most_eq]
  refine Int.le_antisymm (Int.max_le.mpr ⟨Int.max_le.mpr ⟨Int.max_le.mpr ⟨Int.max_le.mpr ⟨Int.max_le.mpr ⟨Int.max_le.mpr ⟨Int.max_le.mpr ⟨Int.max_le.mpr ⟨Int.max_le.mpr ⟨Int.max_le.mpr ⟨Int.max_le.mpr ⟨Int.max_le.mpr ⟨Int.max_le.mpr ⟨Int.max_le.mpr ⟨Int.max_le.mpr ⟨p, l11⟩, l12⟩, l13⟩, l21⟩, l22⟩, l23⟩, l31⟩, l32⟩, l33⟩, l41⟩, l42⟩, l43⟩, l51⟩, l52⟩, l53⟩) ?_
  rw [← ht, ← e32]
  exact Int.le_trans (Int.le_trans (Int.le_trans (Int.le_trans (Int.le_trans (Int.le_trans (Int.le_trans (Int.le_max_right _ _) (Int.le_max_left _ _)) (Int.le_max_left _ _)) (Int.le_max_left _ _)) (Int.le_max_left _ _)) (Int.le_max_left _ _)) (Int.le_max_left _ _)) (Int.le_max_left _ _)
theorem whole_eq (B : Nat → Nat → Bool) : whF B 6 0 = cnt (fun k => B k 0) * (6 - cnt fun k => B k 0) + cnt (fun k => B k 1) * (6 - cnt fun k => B k 1) + cnt (fun k => B k 2) * (6 - cnt fun k => B k 2) + cnt (fun k => B k 3) * (6 - cnt fun k => B k 3) := by
  unfold whF
  rw [whF_eq]
  have h0 := pairs_diff (B 0 0) (B 1 0) (B 2 0) (B 3 0) (B 4 0) (B 5 0)
  have h1 := pairs_diff (B 0 1) (B 1 1) (B 2 1) (B 3 1) (B 4 1) (B 5 1)
  have h2 := pairs_diff (B 0 2) (B 1 2) (B 2 2) (B 3 2) (B 4 2) (B 5 2)
  have h3 := pairs_diff (B 0 3) (B 1 3) (B 2 3) (B 3 3) (B 4 3) (B 5 3)
  unfold cnt
  rw [← h0, ← h1, ← h2, ← h3]
  simp only [dB_sum, ap]
  omega
end Mine
namespace Mine
theorem inArc_turn (d arc : Int) : inArc (d.fmod 64) arc = inArc d arc := by
  unfold inArc
  have e : (d.fmod 64 - arc).fmod 64 = (d - arc).fmod 64 := by
    rw [Int.fmod_eq_emod_of_nonneg _ (by decide), Int.fmod_eq_emod_of_nonneg _ (by decide), Int.fmod_eq_emod_of_nonneg _ (by decide)]
    omega
  rw [e]
theorem inArc_low {x arc r len : Int} (hr : r = arc.fmod 64) (hl : len = (arc.fdiv 64).fmod 63) (h : r + len < 64) (h0 : 0 ≤ x) (h1 : x < 64) : inArc x arc = (decide (r ≤ x) && decide (x ≤ r + len)) := by
  have hl0 := (fmod_bounds (arc.fdiv 64) (n := 63) (by decide)).1
  have hl1 := (fmod_bounds (arc.fdiv 64) (n := 63) (by decide)).2
  rw [← hl] at hl0 hl1
  rw [Int.fmod_eq_emod_of_nonneg _ (by decide)] at hr
  unfold inArc
  rw [← hl, Int.fmod_eq_emod_of_nonneg _ (by decide), ← Bool.decide_and]
  exact decide_eq_decide.mpr (by omega)
theorem inArc_high {x arc r len : Int} (hr : r = arc.fmod 64) (hl : len = (arc.fdiv 64).fmod 63) (h : 64 ≤ r + len) (h0 : 0 ≤ x) (h1 : x < 64) : inArc x arc = (decide (r ≤ x) || decide (x ≤ r + len - 64)) := by
  have hl0 := (fmod_bounds (arc.fdiv 64) (n := 63) (by decide)).1
  have hl1 := (fmod_bounds (arc.fdiv 64) (n := 63) (by decide)).2
  rw [← hl] at hl0 hl1
  rw [Int.fmod_eq_emod_of_nonneg _ (by decide)] at hr
  unfold inArc
  rw [← hl, Int.fmod_eq_emod_of_nonneg _ (by decide), ← Bool.decide_or]
  exact decide_eq_decide.mpr (by omega)
theorem imp_of {p q : Prop} [Decidable p] [Decidable q] (h : p → q) : (decide p = true → decide q = true) := fun e => decide_eq_true (h (of_decide_eq_true e))
/-- six places in rising order on a ring: an arc holds opposite ones as seldom as it can -/
theorem arc_opp {x0 x1 x2 x3 x4 x5 : Int} (arc : Int) (h0 : 0 ≤ x0) (h01 : x0 ≤ x1) (h12 : x1 ≤ x2) (h23 : x2 ≤ x3) (h34 : x3 ≤ x4) (h45 : x4 ≤ x5) (h5 : x5 < 64) :
    apart (inArc x0 arc) (inArc x3 arc) + apart (inArc x1 arc) (inArc x4 arc) + apart (inArc x2 arc) (inArc x5 arc) = minOf (b2i (inArc x0 arc) + b2i (inArc x1 arc) + b2i (inArc x2 arc) + b2i (inArc x3 arc) + b2i (inArc x4 arc) + b2i (inArc x5 arc)) := by
  obtain ⟨r, hr⟩ : ∃ r, r = arc.fmod 64 := ⟨_, rfl⟩
  obtain ⟨len, hl⟩ : ∃ len, len = (arc.fdiv 64).fmod 63 := ⟨_, rfl⟩
  by_cases h : r + len < 64
  · rw [inArc_low (x := x0) hr hl h (by omega) (by omega), inArc_low (x := x1) hr hl h (by omega) (by omega), inArc_low (x := x2) hr hl h (by omega) (by omega), inArc_low (x := x3) hr hl h (by omega) (by omega), inArc_low (x := x4) hr hl h (by omega) (by omega), inArc_low (x := x5) hr hl h (by omega) (by omega)]
    exact opp_and _ _ _ _ _ _ (imp_of (by omega)) (imp_of (by omega)) (imp_of (by omega)) (imp_of (by omega)) (imp_of (by omega)) _ _ _ _ _ _ (imp_of (by omega)) (imp_of (by omega)) (imp_of (by omega)) (imp_of (by omega)) (imp_of (by omega))
  · have h' : 64 ≤ r + len := by omega
    rw [inArc_high (x := x0) hr hl h' (by omega) (by omega), inArc_high (x := x1) hr hl h' (by omega) (by omega), inArc_high (x := x2) hr hl h' (by omega) (by omega), inArc_high (x := x3) hr hl h' (by omega) (by omega), inArc_high (x := x4) hr hl h' (by omega) (by omega), inArc_high (x := x5) hr hl h' (by omega) (by omega)]
    exact opp_or _ _ _ _ _ _ (imp_of (by omega)) (imp_of (by omega)) (imp_of (by omega)) (imp_of (by omega)) (imp_of (by omega)) _ _ _ _ _ _ (imp_of (by omega)) (imp_of (by omega)) (imp_of (by omega)) (imp_of (by omega)) (imp_of (by omega))
theorem countOn_cons (d : Int) (ds : List Int) (arc : Int) : (countOn (d :: ds) arc : Int) = b2i (inArc d arc) + countOn ds arc := by
  unfold countOn b2i
  rw [List.filter_cons]
  split
  · rw [List.length_cons]; omega
  · omega
theorem countOn_six (d0 d1 d2 d3 d4 d5 arc : Int) : (countOn [d0, d1, d2, d3, d4, d5] arc : Int) = b2i (inArc d0 arc) + b2i (inArc d1 arc) + b2i (inArc d2 arc) + b2i (inArc d3 arc) + b2i (inArc d4 arc) + b2i (inArc d5 arc) := by
  rw [countOn_cons, countOn_cons, countOn_cons, countOn_cons, countOn_cons, countOn_cons]
  have : (countOn [] arc : Int) = 0 := rfl
  omega
theorem heapsOf_six (d0 d1 d2 d3 d4 d5 : Int) : heapsOf [d0, d1, d2, d3, d4, d5] = turnF (turnF (turnF (turnF (turnF (turnF ([], []) (d0.fmod 64)) (d1.fmod 64)) (d2.fmod 64)) (d3.fmod 64)) (d4.fmod 64)) (d5.fmod 64) := by
  simp only [heapsOf, List.foldl]
/-- which hue lies on which arc -/
def onB (xs as : List Int) (k l : Nat) : Bool := inArc (xs.getD k 0) (as.getD l 0)
def outF (x : Int) : Int := if 0 ≤ x ∧ x < 64 then 0 else 1
theorem outF_in (d : Int) : outF (d.fmod 64) = 0 := if_pos (fmod_bounds d (by decide))
theorem outF_pos (x : Int) : 0 ≤ outF x := by unfold outF; split <;> decide
theorem outF_zero {x : Int} (h : outF x = 0) : 0 ≤ x ∧ x < 64 := by
  unfold outF at h
  by_cases q : 0 ≤ x ∧ x < 64
  · exact q
  · rw [if_neg q] at h; cases h
theorem plain_law (d0 d1 d2 d3 d4 d5 a0 a1 a2 a3 : Int) : ∃ x0 x1 x2 x3 x4 x5, rowL (heapsOf [d0, d1, d2, d3, d4, d5]).1 3 ++ rowG (heapsOf [d0, d1, d2, d3, d4, d5]).2 3 = [x0, x1, x2, x3, x4, x5] ∧
    dB (onB [x0, x1, x2, x3, x4, x5] [a0, a1, a2, a3]) 0 3 + dB (onB [x0, x1, x2, x3, x4, x5] [a0, a1, a2, a3]) 1 4 + dB (onB [x0, x1, x2, x3, x4, x5] [a0, a1, a2, a3]) 2 5 = (([a0, a1, a2, a3].map fun arc => (countOn [d0, d1, d2, d3, d4, d5] arc : Int)).map minOf).sum ∧
    mostF (dB (onB [x0, x1, x2, x3, x4, x5] [a0, a1, a2, a3])) 5 = (([a0, a1, a2, a3].map fun arc => (countOn [d0, d1, d2, d3, d4, d5] arc : Int)).map minOf).sum ∧
    whF (onB [x0, x1, x2, x3, x4, x5] [a0, a1, a2, a3]) 6 0 = (([a0, a1, a2, a3].map fun arc => (countOn [d0, d1, d2, d3, d4, d5] arc : Int)).map fun k => k * (6 - k)).sum := by
  obtain ⟨H, l1, l2, hw⟩ := heaps_six (d0.fmod 64) (d1.fmod 64) (d2.fmod 64) (d3.fmod 64) (d4.fmod 64) (d5.fmod 64)
  rw [← heapsOf_six] at H l1 l2 hw
  obtain ⟨x0, x1, x2, x3, x4, x5, hrow, h01, h12, h23, h34, h45, hx⟩ := row_six H l1 l2
  refine ⟨x0, x1, x2, x3, x4, x5, hrow, ?_⟩
  have key : ∀ f : Int → Int, f x0 + f x1 + f x2 + f x3 + f x4 + f x5 = f (d0.fmod 64) + f (d1.fmod 64) + f (d2.fmod 64) + f (d3.fmod 64) + f (d4.fmod 64) + f (d5.fmod 64) := fun f => (hx f).symm.trans (hw f)
  have bound : 0 ≤ x0 ∧ x5 < 64 := by
    have k := key outF
    rw [outF_in d0, outF_in d1, outF_in d2, outF_in d3, outF_in d4, outF_in d5] at k
    have n0 := outF_pos x0
    have n1 := outF_pos x1
    have n2 := outF_pos x2
    have n3 := outF_pos x3
    have n4 := outF_pos x4
    have n5 := outF_pos x5
    exact ⟨(outF_zero (x := x0) (by omega)).1, (outF_zero (x := x5) (by omega)).2⟩
  have cnts : ∀ arc, b2i (inArc x0 arc) + b2i (inArc x1 arc) + b2i (inArc x2 arc) + b2i (inArc x3 arc) + b2i (inArc x4 arc) + b2i (inArc x5 arc) = (countOn [d0, d1, d2, d3, d4, d5] arc : Int) := by
    intro arc
    have k := key (fun x => b2i (inArc x arc))
    simp only [inArc_turn] at k
    rw [countOn_six]
    exact k
  have c4 : ∀ l, l < 4 → cnt (fun k => onB [x0, x1, x2, x3, x4, x5] [a0, a1, a2, a3] k l) = (countOn [d0, d1, d2, d3, d4, d5] ([a0, a1, a2, a3].getD l 0) : Int) := fun l _ => cnts _
  have o4 : ∀ l, l < 4 → oppW (fun k => onB [x0, x1, x2, x3, x4, x5] [a0, a1, a2, a3] k l) = minOf (cnt fun k => onB [x0, x1, x2, x3, x4, x5] [a0, a1, a2, a3] k l) := fun l _ => arc_opp ([a0, a1, a2, a3].getD l 0) bound.1 h01 h12 h23 h34 h45 bound.2
  have m4 : minOf (cnt fun k => onB [x0, x1, x2, x3, x4, x5] [a0, a1, a2, a3] k 0) + minOf (cnt fun k => onB [x0, x1, x2, x3, x4, x5] [a0, a1, a2, a3] k 1) + minOf (cnt fun k => onB [x0, x1, x2, x3, x4, x5] [a0, a1, a2, a3] k 2) + minOf (cnt fun k => onB [x0, x1, x2, x3, x4, x5] [a0, a1, a2, a3] k 3) =
      (([a0, a1, a2, a3].map fun arc => (countOn [d0, d1, d2, d3, d4, d5] arc : Int)).map minOf).sum := by
    rw [c4 0 (by decide), c4 1 (by decide), c4 2 (by decide), c4 3 (by decide)]
    simp [Int.add_assoc]
  refine ⟨?_, ?_, ?_⟩
  · rw [told_eq _ o4]; exact m4
  · rw [most_told _ o4]; exact m4
  · rw [whole_eq, c4 0 (by decide), c4 1 (by decide), c4 2 (by decide), c4 3 (by decide)]
    simp [Int.add_assoc]
end Mine
namespace Mine

theorem law_body : defBody (topStmt 17) = [stmtOf 17 0, stmtOf 17 1, stmtOf 17 2, stmtOf 17 3, stmtOf 17 4, stmtOf 17 5, stmtOf 17 6, stmtOf 17 7, stmtOf 17 8, stmtOf 17 9, stmtOf 17 10, stmtOf 17 11, stmtOf 17 12, stmtOf 17 13, stmtOf 17 14, stmtOf 17 15, stmtOf 17 16, stmtOf 17 17, stmtOf 17 18] := by rfl
theorem ten {ns : List Int} (h : ns.length = 10) : ∃ d0 d1 d2 d3 d4 d5 d6 d7 d8 d9, ns = [d0, d1, d2, d3, d4, d5, d6, d7, d8, d9] := by
  match ns, h with
  | [a, b, c, d, e, f, g, h, i, j], _ => exact ⟨a, b, c, d, e, f, g, h, i, j, rfl⟩
theorem ints_ten {vs : List Value} {d0 d1 d2 d3 d4 d5 d6 d7 d8 d9 : Int} (h : IntsAre vs [d0, d1, d2, d3, d4, d5, d6, d7, d8, d9]) : ∃ u0 u1 u2 u3 u4 u5 u6 u7 u8 u9, vs = [.int d0 u0, .int d1 u1, .int d2 u2, .int d3 u3, .int d4 u4, .int d5 u5, .int d6 u6, .int d7 u7, .int d8 u8, .int d9 u9] := by
  obtain ⟨u0, w0, e0, h⟩ := h.cons_inv
  obtain ⟨u1, w1, e1, h⟩ := h.cons_inv
  obtain ⟨u2, w2, e2, h⟩ := h.cons_inv
  obtain ⟨u3, w3, e3, h⟩ := h.cons_inv
  obtain ⟨u4, w4, e4, h⟩ := h.cons_inv
  obtain ⟨u5, w5, e5, h⟩ := h.cons_inv
  obtain ⟨u6, w6, e6, h⟩ := h.cons_inv
  obtain ⟨u7, w7, e7, h⟩ := h.cons_inv
  obtain ⟨u8, w8, e8, h⟩ := h.cons_inv
  obtain ⟨u9, w9, e9, h⟩ := h.cons_inv
  have e10 := h.nil_inv
  rw [e10] at e9
  rw [e9] at e8
  rw [e8] at e7
  rw [e7] at e6
  rw [e6] at e5
  rw [e5] at e4
  rw [e4] at e3
  rw [e3] at e2
  rw [e2] at e1
  rw [e1] at e0
  exact ⟨u0, u1, u2, u3, u4, u5, u6, u7, u8, u9, e0⟩
theorem ints_six {vs : List Value} {d0 d1 d2 d3 d4 d5 : Int} (h : IntsAre vs [d0, d1, d2, d3, d4, d5]) : ∃ u0 u1 u2 u3 u4 u5, vs = [.int d0 u0, .int d1 u1, .int d2 u2, .int d3 u3, .int d4 u4, .int d5 u5] := by
  obtain ⟨u0, w0, e0, h⟩ := h.cons_inv
  obtain ⟨u1, w1, e1, h⟩ := h.cons_inv
  obtain ⟨u2, w2, e2, h⟩ := h.cons_inv
  obtain ⟨u3, w3, e3, h⟩ := h.cons_inv
  obtain ⟨u4, w4, e4, h⟩ := h.cons_inv
  obtain ⟨u5, w5, e5, h⟩ := h.cons_inv
  have e6 := h.nil_inv
  rw [e6] at e5
  rw [e5] at e4
  rw [e4] at e3
  rw [e3] at e2
  rw [e2] at e1
  rw [e1] at e0
  exact ⟨u0, u1, u2, u3, u4, u5, e0⟩
theorem zeros_choice {rs : List Addr} {nw : List (Addr × Obj)} (hrs : rs.length = 6) (h : ∀ r ∈ rs, Zeros r nw) : ∃ V : Nat → List Value, ∀ k, k < 6 → IntsAre (V k) [0, 0, 0, 0, 0, 0] ∧ (rs.getD k 0, listOf (V k).toArray 0) ∈ nw := by
  have g : ∀ k, ∃ vs : List Value, k < 6 → IntsAre vs [0, 0, 0, 0, 0, 0] ∧ (rs.getD k 0, listOf vs.toArray 0) ∈ nw := by
    intro k
    by_cases hk : k < 6
    · obtain ⟨vs, h1, h2⟩ := h _ (getD_mem (i := k) (by omega))
      exact ⟨vs, fun _ => ⟨h1, h2⟩⟩
    · exact ⟨[], fun h => absurd h hk⟩
  exact ⟨fun k => (g k).choose, fun k hk => (g k).choose_spec hk⟩
/-- the first half of the law: till the words stand -/
theorem law_first {w : World} {mean : ExcName → Option Value} {mg mb : Str → Option Value} {dp un : Nat} {outer : List Env} {A₀ : Around} {base h₀ : Heap} {L : Addr} {m : Str → Option Value} {s : Shared} {gd : Option (List Code)} {a : Addr} {ccd : Value} {sc : Addr} {svs : List Value} {sns : List Int} {o1 o2 o3 o4 o5 : Obj} {c2 : Option Value} {Q : Flow → Shared → Prop}
    (C : Cx w mean mg mb dp un (defScope (topStmt 17)) outer A₀ base h₀ L m s)
    (N : News h₀ L s.heap [(L + 1, o1), (L + 1 + 1, o2), (L + 1 + 1 + 1, o3), (L + 1 + 1 + 1 + 1, o4), (L + 1 + 1 + 1 + 1 + 1, o5)]) (ho1 : o1.data = .cell none) (ho2 : o2.data = .cell c2)
    (hs : base.IsList sc svs.toArray) (hsI : IntsAre svs sns) (hs63 : sns.length ≤ 63) (ms : m (Str.ofString "script") = some (.ref sc))
    (hQ : ∀ h' tk' m' wl dl al d0 d1 d2 d3 d4 d5 d6 d7 d8 d9 u0 u1 u2 u3 u4 u5 u6 u7 u8 u9 n na x0 x1 x2 x3 x4 x5 (ys : List Value) (o1 o2 : Obj),
      (dB (onB [x0, x1, x2, x3, x4, x5] [d6, d7, d8, d9]) 0 3 + dB (onB [x0, x1, x2, x3, x4, x5] [d6, d7, d8, d9]) 1 4 + dB (onB [x0, x1, x2, x3, x4, x5] [d6, d7, d8, d9]) 2 5 = (([d6, d7, d8, d9].map fun arc => (countOn [d0, d1, d2, d3, d4, d5] arc : Int)).map minOf).sum ∧ mostF (dB (onB [x0, x1, x2, x3, x4, x5] [d6, d7, d8, d9])) 5 = (([d6, d7, d8, d9].map fun arc => (countOn [d0, d1, d2, d3, d4, d5] arc : Int)).map minOf).sum ∧ whF (onB [x0, x1, x2, x3, x4, x5] [d6, d7, d8, d9]) 6 0 = (([d6, d7, d8, d9].map fun arc => (countOn [d0, d1, d2, d3, d4, d5] arc : Int)).map fun k => k * (6 - k)).sum) →
      (∀ k, k < 6 → ∃ t, ys[k]? = some (.str (wordAt d6 d7 d8 d9 ([x0, x1, x2, x3, x4, x5].getD k 0)) t)) →
      Fr h₀ L h' m' → News h₀ L h' [(wl, LCg.lst ys),
        (dl, listOf #[.int d0 u0, .int d1 u1, .int d2 u2, .int d3 u3, .int d4 u4, .int d5 u5, .int d6 u6, .int d7 u7, .int d8 u8, .int d9 u9] n), (L + 1, o1), (L + 1 + 1, o2), (L + 1 + 1 + 1, o3), (L + 1 + 1 + 1 + 1, o4), (L + 1 + 1 + 1 + 1 + 1, o5), (al, listOf (List.toArray [.int d6 u6, .int d7 u7, .int d8 u8, .int d9 u9]) na)] →
      @LT.lt Nat _ (L + 5) dl → @LT.lt Nat _ dl al → @Ne Nat dl wl → @Ne Nat al wl → @Ne Nat (L + 1) wl → @Ne Nat (L + 1 + 1) wl → @Ne Nat (L + 1 + 1 + 1) wl → @Ne Nat (L + 1 + 1 + 1 + 1) wl → @Ne Nat (L + 1 + 1 + 1 + 1 + 1) wl →
      o1.data = .cell (some (.ref dl)) → o2.data = .cell (some (.ref al)) → m' (Str.ofString "words") = some (.ref wl) →
      wpAny (model (RowW.prog (OpenRow.toRowW (OpenLaw.row PySem.Challenge.rw_qu0034_01))) w) (ktrTop dp un gd (Str.ofString "law") (defScope (topStmt 17)) L a ccd (cellsFrom (L + 1) (defScope (topStmt 17)).names []) outer) (execs ([stmtOf 17 10, stmtOf 17 11, stmtOf 17 12, stmtOf 17 13, stmtOf 17 14, stmtOf 17 15, stmtOf 17 16, stmtOf 17 17, stmtOf 17 18]) (envX (Str.ofString "law") (defScope (topStmt 17)) L a ccd (cellsFrom (L + 1) (defScope (topStmt 17)).names []))) Q (fun _ _ => False) { s with heap := h', toks := tk' }) :
    wpAny (model (RowW.prog (OpenRow.toRowW (OpenLaw.row PySem.Challenge.rw_qu0034_01))) w) (ktrTop dp un gd (Str.ofString "law") (defScope (topStmt 17)) L a ccd (cellsFrom (L + 1) (defScope (topStmt 17)).names []) outer) (execs (defBody (topStmt 17)) (envX (Str.ofString "law") (defScope (topStmt 17)) L a ccd (cellsFrom (L + 1) (defScope (topStmt 17)).names []))) Q (fun _ _ => False) s := by
  rw [law_body]
  obtain ⟨B, F, X, T, hk, hd, hun⟩ := C
  show wpAny _ _ (execs _ _) _ _ _
  refine wpAny_execs_cons ?_
  refine seg_0 ⟨B, F, X, T, hk, hd, hun⟩ N ho1 ?_
  intro h1 k1 dl n0 o1' F1 N1 hdl hd1
  show wpAny _ _ (execs _ _) _ _ _
  refine wpAny_execs_cons ?_
  refine seg_a1 (its := []) ⟨B, F1, X, T, hk, hd, hun⟩ N1 hdl hd1 hs hsI hs63 ms ?_
  intro h2 k2 m2 its n2 ns F2 N2 hI hlen
  obtain ⟨d0, d1, d2, d3, d4, d5, d6, d7, d8, d9, rfl⟩ := ten hlen
  obtain ⟨u0, u1, u2, u3, u4, u5, u6, u7, u8, u9, rfl⟩ := ints_ten hI
  show wpAny _ _ (execs _ _) _ _ _
  refine wpAny_execs_cons ?_
  refine seg_2 ⟨B, F2, X, T, hk, hd, hun⟩ N2 hdl hd1 ho2 ?_
  intro h3 k3 al na o2' F3 N3 hal hd2
  show wpAny _ _ (execs _ _) _ _ _
  refine wpAny_execs_cons ?_
  refine seg_3 ⟨B, F3, X, T, hk, hd, hun⟩ N3 ?_
  intro h4 k4 ll nl F4 N4 hll
  show wpAny _ _ (execs _ _) _ _ _
  refine wpAny_execs_cons ?_
  refine seg_4 ⟨B, F4, X, T, hk, hd, hun⟩ N4 ?_
  intro h5 k5 gl ng F5 N5 hgl
  have hb : ∀ x : Nat, @LT.lt Nat _ al x → ∀ p ∈ [(dl, listOf #[.int d0 u0, .int d1 u1, .int d2 u2, .int d3 u3, .int d4 u4, .int d5 u5, .int d6 u6, .int d7 u7, .int d8 u8, .int d9 u9] n2), (L + 1, o1'), (L + 1 + 1, o2'), (L + 1 + 1 + 1, o3), (L + 1 + 1 + 1 + 1, o4), (L + 1 + 1 + 1 + 1 + 1, o5), (al, listOf #[.int d6 u6, .int d7 u7, .int d8 u8, .int d9 u9] na)], @Ne Nat p.1 x := by
    intro x hx p hp
    simp only [List.mem_cons, List.not_mem_nil, or_false] at hp
    rcases hp with rfl | rfl | rfl | rfl | rfl | rfl | rfl <;> exact neN (by dsimp only; omega)
  show wpAny _ _ (execs _ _) _ _ _
  refine wpAny_execs_cons ?_
  refine seg_c (ll := ll) (gl := gl) ⟨B, F5, X, T, hk, hd, hun⟩ (cb_drop N5 (List.forall_mem_cons.mpr ⟨by k_mem, List.forall_mem_cons.mpr ⟨by k_mem, List.forall_mem_cons.mpr ⟨by k_mem, List.forall_mem_cons.mpr ⟨by k_mem, List.forall_mem_cons.mpr ⟨by k_mem, List.forall_mem_cons.mpr ⟨by k_mem, List.forall_mem_cons.mpr ⟨by k_mem, List.forall_mem_cons.mpr ⟨by k_mem, List.forall_mem_cons.mpr ⟨by k_mem, List.forall_mem_nil _⟩⟩⟩⟩⟩⟩⟩⟩⟩)) (Nat.ne_of_lt hgl) (hb ll hll) (hb gl (Nat.lt_trans hll hgl)) (.head _) (.tail _ (.head _)) hd1 rfl rfl ?_
  intro h6 k6 m6 vs1 vs2 e1 e2 F6 N6 hI1 hI2 hl1 hl2 ml mg6
  show wpAny _ _ (execs _ _) _ _ _
  refine wpAny_execs_cons ?_
  refine seg_6 (l2 := gl) (l1 := ll) (dl := dl) (al := al) ⟨B, F6, X, T, hk, hd, hun⟩ (cb_drop N6 (List.forall_mem_cons.mpr ⟨by k_mem, List.forall_mem_cons.mpr ⟨by k_mem, List.forall_mem_cons.mpr ⟨by k_mem, List.forall_mem_cons.mpr ⟨by k_mem, List.forall_mem_cons.mpr ⟨by k_mem, List.forall_mem_cons.mpr ⟨by k_mem, List.forall_mem_cons.mpr ⟨by k_mem, List.forall_mem_cons.mpr ⟨by k_mem, List.forall_mem_cons.mpr ⟨by k_mem, List.forall_mem_nil _⟩⟩⟩⟩⟩⟩⟩⟩⟩)) ?_
  intro h7 k7 rl nr F7 N7 hrl
  show wpAny _ _ (execs _ _) _ _ _
  refine wpAny_execs_cons ?_
  refine seg_d1 (rl := rl) (ll := ll) (gl := gl) (dl := dl) (al := al) (vs1 := vs1) ⟨B, F7, X, T, hk, hd, hun⟩ (cb_drop N7 (List.forall_mem_cons.mpr ⟨by k_mem, List.forall_mem_cons.mpr ⟨by k_mem, List.forall_mem_cons.mpr ⟨by k_mem, List.forall_mem_cons.mpr ⟨by k_mem, List.forall_mem_cons.mpr ⟨by k_mem, List.forall_mem_cons.mpr ⟨by k_mem, List.forall_mem_cons.mpr ⟨by k_mem, List.forall_mem_cons.mpr ⟨by k_mem, List.forall_mem_cons.mpr ⟨by k_mem, List.forall_mem_cons.mpr ⟨by k_mem, List.forall_mem_nil _⟩⟩⟩⟩⟩⟩⟩⟩⟩⟩)) hdl hal hll hgl hrl hI1 hl1 ml mg6 rfl ?_
  intro h8 k8 m8 rl' rv kr vs8 e8 F8 N8 hrl' hIr mg8 mr8
  show wpAny _ _ (execs _ _) _ _ _
  refine wpAny_execs_cons ?_
  refine seg_d2 (rl := rl') (gl := gl) (dl := dl) (al := al) (vs2 := vs2) (rv0 := rv) ⟨B, F8, X, T, hk, hd, hun⟩ (cb_drop N8 (List.forall_mem_cons.mpr ⟨by k_mem, List.forall_mem_cons.mpr ⟨by k_mem, List.forall_mem_cons.mpr ⟨by k_mem, List.forall_mem_cons.mpr ⟨by k_mem, List.forall_mem_cons.mpr ⟨by k_mem, List.forall_mem_cons.mpr ⟨by k_mem, List.forall_mem_cons.mpr ⟨by k_mem, List.forall_mem_cons.mpr ⟨by k_mem, List.forall_mem_cons.mpr ⟨by k_mem, List.forall_mem_nil _⟩⟩⟩⟩⟩⟩⟩⟩⟩)) hdl hal (Nat.lt_trans hll hgl) hrl' hI2 hl2 hIr (rowL_length _ 3) mg8 mr8 ?_
  intro h9 k9 m9 rv9 kr9 F9 N9 hI9 mr9
  obtain ⟨x0, x1, x2, x3, x4, x5, hrow, hplain⟩ := plain_law d0 d1 d2 d3 d4 d5 d6 d7 d8 d9
  rw [hrow] at hI9
  show wpAny _ _ (execs _ _) _ _ _
  refine wpAny_execs_cons ?_
  refine seg_e (avs := [.int d6 u6, .int d7 u7, .int d8 u8, .int d9 u9]) (xs := [x0, x1, x2, x3, x4, x5]) ⟨B, F9, X, T, hk, hd, hun⟩ N9 (.head _) hI9 rfl (.tail _ (.tail _ (.tail _ (.head _)))) hd2 (.tail _ (.tail _ (.tail _ (.tail _ (.tail _ (.tail _ (.tail _ (.head _)))))))) (.cons _ _ (.cons _ _ (.cons _ _ (.cons _ _ .nil)))) mr9 ?_
  intro h10 k10 wl ys F10 N10 hwl hws
  exact hQ h10 k10 _ wl dl al d0 d1 d2 d3 d4 d5 d6 d7 d8 d9 u0 u1 u2 u3 u4 u5 u6 u7 u8 u9 _ na x0 x1 x2 x3 x4 x5 ys o1' o2' hplain hws F10 (cb_drop N10 (List.forall_mem_cons.mpr ⟨by k_mem, List.forall_mem_cons.mpr ⟨by k_mem, List.forall_mem_cons.mpr ⟨by k_mem, List.forall_mem_cons.mpr ⟨by k_mem, List.forall_mem_cons.mpr ⟨by k_mem, List.forall_mem_cons.mpr ⟨by k_mem, List.forall_mem_cons.mpr ⟨by k_mem, List.forall_mem_cons.mpr ⟨by k_mem, List.forall_mem_nil _⟩⟩⟩⟩⟩⟩⟩⟩)) hdl hal (hwl _ (.tail _ (.head _))) (hwl _ (.tail _ (.tail _ (.tail _ (.tail _ (.tail _ (.tail _ (.tail _ (.head _)))))))))
    (hwl _ (.tail _ (.tail _ (.head _)))) (hwl _ (.tail _ (.tail _ (.tail _ (.head _))))) (hwl _ (.tail _ (.tail _ (.tail _ (.tail _ (.head _)))))) (hwl _ (.tail _ (.tail _ (.tail _ (.tail _ (.tail _ (.head _))))))) (hwl _ (.tail _ (.tail _ (.tail _ (.tail _ (.tail _ (.tail _ (.head _)))))))) hd1 hd2 rfl
end Mine
namespace Mine

/-- the second half: the table, the pairings, the counts -/
theorem law_rest {w : World} {mean : ExcName → Option Value} {mg mb : Str → Option Value} {dp un : Nat} {outer : List Env} {A₀ : Around} {base h₀ : Heap} {L : Addr} {m : Str → Option Value} {s : Shared} {gd : Option (List Code)} {a : Addr} {ccd : Value} {wl dl al : Addr} {d0 d1 d2 d3 d4 d5 d6 d7 d8 d9 x0 x1 x2 x3 x4 x5 : Int} {u0 u1 u2 u3 u4 u5 u6 u7 u8 u9 : Tok} {ys : List Value} {n na : Nat} {o1 o2 o3 o4 o5 : Obj} {c3 c4 c5 : Option Value} {Q : Flow → Shared → Prop}
    (C : Cx w mean mg mb dp un (defScope (topStmt 17)) outer A₀ base h₀ L m s) (hdeep : dp + 31 < recursionLimit) (hunits : un + 200 < cLine)
    (N : News h₀ L s.heap [(wl, LCg.lst ys), (dl, listOf #[.int d0 u0, .int d1 u1, .int d2 u2, .int d3 u3, .int d4 u4, .int d5 u5, .int d6 u6, .int d7 u7, .int d8 u8, .int d9 u9] n), (L + 1, o1), (L + 1 + 1, o2), (L + 1 + 1 + 1, o3), (L + 1 + 1 + 1 + 1, o4), (L + 1 + 1 + 1 + 1 + 1, o5), (al, listOf (List.toArray [.int d6 u6, .int d7 u7, .int d8 u8, .int d9 u9]) na)])
    (hdl : @LT.lt Nat _ (L + 5) dl) (hal : @LT.lt Nat _ dl al) (q1 : @Ne Nat dl wl) (q2 : @Ne Nat al wl) (q3 : @Ne Nat (L + 1) wl) (q4 : @Ne Nat (L + 1 + 1) wl) (q5 : @Ne Nat (L + 1 + 1 + 1) wl) (q6 : @Ne Nat (L + 1 + 1 + 1 + 1) wl) (q7 : @Ne Nat (L + 1 + 1 + 1 + 1 + 1) wl)
    (hd1 : o1.data = .cell (some (.ref dl))) (hd2 : o2.data = .cell (some (.ref al))) (ho3 : o3.data = .cell c3) (ho4 : o4.data = .cell c4) (ho5 : o5.data = .cell c5) (mw : m (Str.ofString "words") = some (.ref wl))
    (hp : (dB (onB [x0, x1, x2, x3, x4, x5] [d6, d7, d8, d9]) 0 3 + dB (onB [x0, x1, x2, x3, x4, x5] [d6, d7, d8, d9]) 1 4 + dB (onB [x0, x1, x2, x3, x4, x5] [d6, d7, d8, d9]) 2 5 = (([d6, d7, d8, d9].map fun arc => (countOn [d0, d1, d2, d3, d4, d5] arc : Int)).map minOf).sum ∧ mostF (dB (onB [x0, x1, x2, x3, x4, x5] [d6, d7, d8, d9])) 5 = (([d6, d7, d8, d9].map fun arc => (countOn [d0, d1, d2, d3, d4, d5] arc : Int)).map minOf).sum ∧ whF (onB [x0, x1, x2, x3, x4, x5] [d6, d7, d8, d9]) 6 0 = (([d6, d7, d8, d9].map fun arc => (countOn [d0, d1, d2, d3, d4, d5] arc : Int)).map fun k => k * (6 - k)).sum))
    (hws0 : (∀ k, k < 6 → ∃ t, ys[k]? = some (.str (wordAt d6 d7 d8 d9 ([x0, x1, x2, x3, x4, x5].getD k 0)) t)))
    (hQ : ∀ h' tk', (∀ b o, h₀.get? b = some o → h'.get? b = some o) → Q (.ret (.bool true)) { s with heap := h', toks := tk' }) :
    wpAny (model (RowW.prog (OpenRow.toRowW (OpenLaw.row PySem.Challenge.rw_qu0034_01))) w) (ktrTop dp un gd (Str.ofString "law") (defScope (topStmt 17)) L a ccd (cellsFrom (L + 1) (defScope (topStmt 17)).names []) outer) (execs ([stmtOf 17 10, stmtOf 17 11, stmtOf 17 12, stmtOf 17 13, stmtOf 17 14, stmtOf 17 15, stmtOf 17 16, stmtOf 17 17, stmtOf 17 18]) (envX (Str.ofString "law") (defScope (topStmt 17)) L a ccd (cellsFrom (L + 1) (defScope (topStmt 17)).names []))) Q (fun _ _ => False) s := by
  obtain ⟨B, F, X, T, hk, hd, hun⟩ := C
  obtain ⟨hp1, hp2, hp3⟩ := hp
  show wpAny _ _ (execs _ _) _ _ _
  refine wpAny_execs_cons ?_
  refine seg_10 ⟨B, F, X, T, hk, hd, hun⟩ N ?_
  intro h1 k1 fl rs nw hrs F1 N1 hfl hbs hz hpw hlt
  obtain ⟨V, hV⟩ := zeros_choice hrs hz
  show wpAny _ _ (execs _ _) _ _ _
  refine wpAny_execs_cons ?_
  refine seg_11 ⟨B, F1, X, T, hk, hd, hun⟩ N1 ?_
  intro h2 k2 t2 F2 N2
  have w0 : (wl, LCg.lst ys) ∈ nw := hbs _ (.head _)
  have w1 : (dl, listOf #[.int d0 u0, .int d1 u1, .int d2 u2, .int d3 u3, .int d4 u4, .int d5 u5, .int d6 u6, .int d7 u7, .int d8 u8, .int d9 u9] n) ∈ nw := hbs _ (.tail _ (.head _))
  have w2 : ((L + 1 : Addr), o1) ∈ nw := hbs _ (.tail _ (.tail _ (.head _)))
  have w3 : ((L + 1 + 1 : Addr), o2) ∈ nw := hbs _ (.tail _ (.tail _ (.tail _ (.head _))))
  have w4 : ((L + 1 + 1 + 1 : Addr), o3) ∈ nw := hbs _ (.tail _ (.tail _ (.tail _ (.tail _ (.head _)))))
  have w5 : ((L + 1 + 1 + 1 + 1 : Addr), o4) ∈ nw := hbs _ (.tail _ (.tail _ (.tail _ (.tail _ (.tail _ (.head _))))))
  have w6 : ((L + 1 + 1 + 1 + 1 + 1 : Addr), o5) ∈ nw := hbs _ (.tail _ (.tail _ (.tail _ (.tail _ (.tail _ (.tail _ (.head _)))))))
  have w7 : (al, listOf (List.toArray [.int d6 u6, .int d7 u7, .int d8 u8, .int d9 u9]) na) ∈ nw := hbs _ (.tail _ (.tail _ (.tail _ (.tail _ (.tail _ (.tail _ (.tail _ (.head _))))))))
  have f0 : @Ne Nat wl fl := hfl _ w0
  have f1 : @Ne Nat dl fl := hfl _ w1
  have f2 : @Ne Nat (L + 1) fl := hfl _ w2
  have f3 : @Ne Nat (L + 1 + 1) fl := hfl _ w3
  have f4 : @Ne Nat (L + 1 + 1 + 1) fl := hfl _ w4
  have f5 : @Ne Nat (L + 1 + 1 + 1 + 1) fl := hfl _ w5
  have f6 : @Ne Nat (L + 1 + 1 + 1 + 1 + 1) fl := hfl _ w6
  have hrf : ∀ r ∈ rs, @Ne Nat fl r := by
    intro r hr
    obtain ⟨vs, -, hm⟩ := hz r hr
    exact (hfl _ hm).symm
  have hbr : ∀ r ∈ rs, @LT.lt Nat _ wl r ∧ @LT.lt Nat _ dl r ∧ @LT.lt Nat _ (L + 1 + 1 + 1) r ∧ @LT.lt Nat _ (L + 1 + 1 + 1 + 1 + 1) r ∧ @LT.lt Nat _ al r := fun r hr => ⟨hlt r hr _ (.head _), hlt r hr _ (.tail _ (.head _)), hlt r hr _ (.tail _ (.tail _ (.tail _ (.tail _ (.head _))))), hlt r hr _ (.tail _ (.tail _ (.tail _ (.tail _ (.tail _ (.tail _ (.head _))))))), hlt r hr _ (.tail _ (.tail _ (.tail _ (.tail _ (.tail _ (.tail _ (.tail _ (.head _))))))))⟩
  have hkr : ∀ p ∈ ([(fl, LCg.lst (rs.map Value.ref)), (wl, LCg.lst ys), (dl, listOf #[.int d0 u0, .int d1 u1, .int d2 u2, .int d3 u3, .int d4 u4, .int d5 u5, .int d6 u6, .int d7 u7, .int d8 u8, .int d9 u9] n), ((L + 1 : Addr), o1), ((L + 1 + 1 : Addr), o2), ((L + 1 + 1 + 1 + 1 : Addr), o4), ((L + 1 + 1 + 1 + 1 + 1 : Addr), o5), (al, listOf (List.toArray [.int d6 u6, .int d7 u7, .int d8 u8, .int d9 u9]) na)] : List (Addr × Obj)), ∀ r ∈ rs, @Ne Nat p.1 r := by
    intro p hp r hr
    obtain ⟨b0, b1, b2, b3, b4⟩ := hbr r hr
    simp only [List.mem_cons, List.not_mem_nil, or_false] at hp
    rcases hp with rfl | rfl | rfl | rfl | rfl | rfl | rfl | rfl
    · exact hrf r hr
    all_goals exact neN (by dsimp only; omega)
  have hck : ∀ p ∈ ([(fl, LCg.lst (rs.map Value.ref)), (wl, LCg.lst ys), (dl, listOf #[.int d0 u0, .int d1 u1, .int d2 u2, .int d3 u3, .int d4 u4, .int d5 u5, .int d6 u6, .int d7 u7, .int d8 u8, .int d9 u9] n), ((L + 1 : Addr), o1), ((L + 1 + 1 : Addr), o2), ((L + 1 + 1 + 1 + 1 : Addr), o4), ((L + 1 + 1 + 1 + 1 + 1 : Addr), o5), (al, listOf (List.toArray [.int d6 u6, .int d7 u7, .int d8 u8, .int d9 u9]) na)] : List (Addr × Obj)), @Ne Nat p.1 (L + 1 + 1 + 1) := by
    intro p hp
    simp only [List.mem_cons, List.not_mem_nil, or_false] at hp
    rcases hp with rfl | rfl | rfl | rfl | rfl | rfl | rfl | rfl
    · exact f4.symm
    · exact q5.symm
    all_goals exact neN (by dsimp only; omega)
  have Nk : News h₀ L h2 (((L + 1 + 1 + 1 : Addr), o3) :: (rowsL rs V ++ [(fl, LCg.lst (rs.map Value.ref)), (wl, LCg.lst ys), (dl, listOf #[.int d0 u0, .int d1 u1, .int d2 u2, .int d3 u3, .int d4 u4, .int d5 u5, .int d6 u6, .int d7 u7, .int d8 u8, .int d9 u9] n), ((L + 1 : Addr), o1), ((L + 1 + 1 : Addr), o2), ((L + 1 + 1 + 1 + 1 : Addr), o4), ((L + 1 + 1 + 1 + 1 + 1 : Addr), o5), (al, listOf (List.toArray [.int d6 u6, .int d7 u7, .int d8 u8, .int d9 u9]) na)])) := by
    intro p hp
    rcases List.mem_cons.mp hp with rfl | hp
    · exact N2 _ (.tail _ w4)
    rcases List.mem_append.mp hp with hp | hp
    · obtain ⟨k, hk6, rfl⟩ := rowsL_of hp
      exact N2 _ (.tail _ (hV k hk6).2)
    · simp only [List.mem_cons, List.not_mem_nil, or_false] at hp
      rcases hp with rfl | rfl | rfl | rfl | rfl | rfl | rfl | rfl
      · exact N2 _ (.head _)
      · exact N2 _ (.tail _ w0)
      · exact N2 _ (.tail _ w1)
      · exact N2 _ (.tail _ w2)
      · exact N2 _ (.tail _ w3)
      · exact N2 _ (.tail _ w5)
      · exact N2 _ (.tail _ w6)
      · exact N2 _ (.tail _ w7)
  have hws : ∀ k, k < 6 → ∃ t, ys[k]? = some (.str (wordOf ((onB [x0, x1, x2, x3, x4, x5] [d6, d7, d8, d9]) k 0) ((onB [x0, x1, x2, x3, x4, x5] [d6, d7, d8, d9]) k 1) ((onB [x0, x1, x2, x3, x4, x5] [d6, d7, d8, d9]) k 2) ((onB [x0, x1, x2, x3, x4, x5] [d6, d7, d8, d9]) k 3)) t) := fun k hk6 => hws0 k hk6
  show wpAny _ _ (execs _ _) _ _ _
  refine wpAny_execs_cons ?_
  refine seg_12 (rs := rs) (V := V) (keep := [(fl, LCg.lst (rs.map Value.ref)), (wl, LCg.lst ys), (dl, listOf #[.int d0 u0, .int d1 u1, .int d2 u2, .int d3 u3, .int d4 u4, .int d5 u5, .int d6 u6, .int d7 u7, .int d8 u8, .int d9 u9] n), ((L + 1 : Addr), o1), ((L + 1 + 1 : Addr), o2), ((L + 1 + 1 + 1 + 1 : Addr), o4), ((L + 1 + 1 + 1 + 1 + 1 : Addr), o5), (al, listOf (List.toArray [.int d6 u6, .int d7 u7, .int d8 u8, .int d9 u9]) na)]) (BB := (onB [x0, x1, x2, x3, x4, x5] [d6, d7, d8, d9])) (ws := ys) ⟨B, F2, X, T, hk, hd, hun⟩ hdeep hunits Nk ho3 (fun k hk6 => (hV k hk6).1) hrs hpw hkr (fun r hr => Nat.ne_of_lt (hbr r hr).2.2.1) hck (.head _) (.tail _ (.head _)) hws rfl mw rfl ?_
  intro h3 k3 m3 V' o3' c3' t3 F3 N3 hc3 hV3 mf3 mz3
  show wpAny _ _ (execs _ _) _ _ _
  refine wpAny_execs_cons ?_
  refine seg_13 ⟨B, F3, X, T, hk, hd, hun⟩ N3 ?_
  intro h4 k4 t4 F4 N4
  have hrows : ∀ k, k < 6 → (rs.getD k 0, listOf (V' k).toArray 0) ∈ rowsL rs V' ++ [(fl, LCg.lst (rs.map Value.ref)), (wl, LCg.lst ys), (dl, listOf #[.int d0 u0, .int d1 u1, .int d2 u2, .int d3 u3, .int d4 u4, .int d5 u5, .int d6 u6, .int d7 u7, .int d8 u8, .int d9 u9] n), ((L + 1 : Addr), o1), ((L + 1 + 1 : Addr), o2), (al, listOf (List.toArray [.int d6 u6, .int d7 u7, .int d8 u8, .int d9 u9]) na)] := fun k hk6 => List.mem_append_left _ (rowsL_mem hk6)
  have hne : ∀ x : Nat, (∀ r ∈ rs, @Ne Nat r x) → (∀ p ∈ ([(fl, LCg.lst (rs.map Value.ref)), (wl, LCg.lst ys), (dl, listOf #[.int d0 u0, .int d1 u1, .int d2 u2, .int d3 u3, .int d4 u4, .int d5 u5, .int d6 u6, .int d7 u7, .int d8 u8, .int d9 u9] n), ((L + 1 : Addr), o1), ((L + 1 + 1 : Addr), o2), (al, listOf (List.toArray [.int d6 u6, .int d7 u7, .int d8 u8, .int d9 u9]) na)] : List (Addr × Obj)), @Ne Nat p.1 x) → ∀ p ∈ rowsL rs V' ++ [(fl, LCg.lst (rs.map Value.ref)), (wl, LCg.lst ys), (dl, listOf #[.int d0 u0, .int d1 u1, .int d2 u2, .int d3 u3, .int d4 u4, .int d5 u5, .int d6 u6, .int d7 u7, .int d8 u8, .int d9 u9] n), ((L + 1 : Addr), o1), ((L + 1 + 1 : Addr), o2), (al, listOf (List.toArray [.int d6 u6, .int d7 u7, .int d8 u8, .int d9 u9]) na)], @Ne Nat p.1 x := fun x g1 g2 => rows_ne (fun k hk6 => g1 _ (getD_mem (by omega))) g2
  show wpAny _ _ (execs _ _) _ _ _
  refine wpAny_execs_cons ?_
  refine seg_14 (rs := rs) (V := V') (TT := dB (onB [x0, x1, x2, x3, x4, x5] [d6, d7, d8, d9])) (keep := rowsL rs V' ++ [(fl, LCg.lst (rs.map Value.ref)), (wl, LCg.lst ys), (dl, listOf #[.int d0 u0, .int d1 u1, .int d2 u2, .int d3 u3, .int d4 u4, .int d5 u5, .int d6 u6, .int d7 u7, .int d8 u8, .int d9 u9] n), ((L + 1 : Addr), o1), ((L + 1 + 1 : Addr), o2), (al, listOf (List.toArray [.int d6 u6, .int d7 u7, .int d8 u8, .int d9 u9]) na)]) (o3 := o3') (o4 := o4) (o5 := o5) ⟨B, F4, X, T, hk, hd, hun⟩ ?n14 hc3 ho4 ho5 ?k3 ?k4 ?k5 (List.mem_append_right _ (.head _)) hrows hrs hV3 mf3 rfl mz3 ?q14
  case n14 =>
    intro p hp
    simp only [List.mem_cons, List.mem_append, List.not_mem_nil, or_false] at hp
    refine N4 p ?_
    simp only [List.mem_cons, List.mem_append, List.not_mem_nil, or_false]
    rcases hp with h | h | h | h | h | h | h | h | h | h <;> simp [h]
  case k3 =>
    refine hne _ (fun r hr => (Nat.ne_of_lt (hbr r hr).2.2.1).symm) fun p hp => ?_
    simp only [List.mem_cons, List.not_mem_nil, or_false] at hp
    rcases hp with rfl | rfl | rfl | rfl | rfl | rfl
    · exact f4.symm
    · exact q5.symm
    all_goals exact neN (by dsimp only; omega)
  case k4 =>
    refine hne _ (fun r hr => ?_) fun p hp => ?_
    · have := (hbr r hr).2.2.2.1
      exact neN (by omega)
    simp only [List.mem_cons, List.not_mem_nil, or_false] at hp
    rcases hp with rfl | rfl | rfl | rfl | rfl | rfl
    · exact f5.symm
    · exact q6.symm
    all_goals exact neN (by dsimp only; omega)
  case k5 =>
    refine hne _ (fun r hr => (Nat.ne_of_lt (hbr r hr).2.2.2.1).symm) fun p hp => ?_
    simp only [List.mem_cons, List.not_mem_nil, or_false] at hp
    rcases hp with rfl | rfl | rfl | rfl | rfl | rfl
    · exact f6.symm
    · exact q7.symm
    all_goals exact neN (by dsimp only; omega)
  intro h5 k5 m5 t5 F5 N5 mm5 mf5 mz5
  have hIa : IntsAre [.int d6 u6, .int d7 u7, .int d8 u8, .int d9 u9] [d6, d7, d8, d9] := .cons _ _ (.cons _ _ (.cons _ _ (.cons _ _ .nil)))
  show wpAny _ _ (execs _ _) _ _ _
  refine wpAny_execs_cons ?_
  refine seg_15 (dl := dl) (al := al) (o1 := o1) (o2 := o2) (vs := [.int d6 u6, .int d7 u7, .int d8 u8, .int d9 u9]) (as := [d6, d7, d8, d9]) ⟨B, F5, X, T, hk, hd, hun⟩ N5 (List.mem_append_right _ (.tail _ (.tail _ (.tail _ (.head _))))) hd1 (List.mem_append_right _ (.tail _ (.tail _ (.head _)))) (List.mem_append_right _ (.tail _ (.tail _ (.tail _ (.tail _ (.head _)))))) hd2 (List.mem_append_right _ (.tail _ (.tail _ (.tail _ (.tail _ (.tail _ (.head _))))))) hIa rfl ?_
  intro h6 k6 nl zs F6 N6 hnl hIy
  show wpAny _ _ (execs _ _) _ _ _
  refine wpAny_execs_cons ?_
  refine seg_16 (nl := nl) (vs := zs) (ns := ([d6, d7, d8, d9].map fun arc => (countOn [d0, d1, d2, d3, d4, d5] arc : Int))) ⟨B, F6, X, T, hk, hd, hun⟩ N6 (.head _) hIy rfl rfl ?_
  intro h7 k7 t7 F7 N7
  show wpAny _ _ (execs _ _) _ _ _
  refine wpAny_execs_cons ?_
  refine seg_17 (rs := rs) (V := V') (TT := dB (onB [x0, x1, x2, x3, x4, x5] [d6, d7, d8, d9])) ⟨B, F7, X, T, hk, hd, hun⟩ N7 (.tail _ (List.mem_append_right _ (.head _))) (fun k hk6 => .tail _ (hrows k hk6)) hrs hV3 mf5 ?_
  intro h8 k8 t8 F8 N8
  rw [hp1] at F8
  rw [hp2] at mm5
  have hb : ∀ k ∈ ([d6, d7, d8, d9].map fun arc => (countOn [d0, d1, d2, d3, d4, d5] arc : Int)), 0 ≤ k ∧ k ≤ 6 := by
    intro k hk9
    obtain ⟨arc, -, rfl⟩ := List.mem_map.mp hk9
    have := countOn_le [d0, d1, d2, d3, d4, d5] arc
    simp only [List.length_cons, List.length_nil] at this
    omega
  show wpAny _ _ (execs _ _) _ _ _
  refine wpAny_execs_cons ?_
  refine seg_18 (nl := nl) (vs := zs) (ns := ([d6, d7, d8, d9].map fun arc => (countOn [d0, d1, d2, d3, d4, d5] arc : Int))) (x := (([d6, d7, d8, d9].map fun arc => (countOn [d0, d1, d2, d3, d4, d5] arc : Int)).map minOf).sum) (z := whF (onB [x0, x1, x2, x3, x4, x5] [d6, d7, d8, d9]) 6 0) ⟨B, F8, X, T, hk, hd, hun⟩ N8 (.head _) hIy rfl hb rfl rfl rfl mm5 mz5 hp3 ?_
  intro h9 k9 hk9
  exact hQ _ _ hk9
end Mine
namespace Mine

/-- the whole body of the law -/
theorem law_walk {w : World} {mean : ExcName → Option Value} {mg mb : Str → Option Value} {dp un : Nat} {outer : List Env} {A₀ : Around} {base h₀ : Heap} {L : Addr} {m : Str → Option Value} {s : Shared} {gd : Option (List Code)} {a : Addr} {ccd : Value} {sc : Addr} {svs : List Value} {sns : List Int} {o1 o2 o3 o4 o5 : Obj} {c2 c3 c4 c5 : Option Value} {Q : Flow → Shared → Prop}
    (C : Cx w mean mg mb dp un (defScope (topStmt 17)) outer A₀ base h₀ L m s) (hdeep : dp + 31 < recursionLimit) (hunits : un + 200 < cLine)
    (N : News h₀ L s.heap [(L + 1, o1), (L + 1 + 1, o2), (L + 1 + 1 + 1, o3), (L + 1 + 1 + 1 + 1, o4), (L + 1 + 1 + 1 + 1 + 1, o5)]) (ho1 : o1.data = .cell none) (ho2 : o2.data = .cell c2) (ho3 : o3.data = .cell c3) (ho4 : o4.data = .cell c4) (ho5 : o5.data = .cell c5)
    (hs : base.IsList sc svs.toArray) (hsI : IntsAre svs sns) (hs63 : sns.length ≤ 63) (ms : m (Str.ofString "script") = some (.ref sc))
    (hQ : ∀ h' tk', (∀ b o, h₀.get? b = some o → h'.get? b = some o) → Q (.ret (.bool true)) { s with heap := h', toks := tk' }) :
    wpAny (model (RowW.prog (OpenRow.toRowW (OpenLaw.row PySem.Challenge.rw_qu0034_01))) w) (ktrTop dp un gd (Str.ofString "law") (defScope (topStmt 17)) L a ccd (cellsFrom (L + 1) (defScope (topStmt 17)).names []) outer) (execs (defBody (topStmt 17)) (envX (Str.ofString "law") (defScope (topStmt 17)) L a ccd (cellsFrom (L + 1) (defScope (topStmt 17)).names []))) Q (fun _ _ => False) s := by
  refine law_first C N ho1 ho2 hs hsI hs63 ms ?_
  intro h' tk' m' wl dl al d0 d1 d2 d3 d4 d5 d6 d7 d8 d9 u0 u1 u2 u3 u4 u5 u6 u7 u8 u9 n na x0 x1 x2 x3 x4 x5 ys o1 o2 hp hws F' N' hdl hal q1 q2 q3 q4 q5 q6 q7 hd1 hd2 mw
  refine law_rest ⟨C.B, F', C.X, C.T, C.hk, C.hd, C.hu⟩ hdeep hunits N' hdl hal q1 q2 q3 q4 q5 q6 q7 hd1 hd2 ho3 ho4 ho5 mw hp hws ?_
  exact fun h2 k2 hk2 => hQ h2 k2 hk2
end Mine
set_option maxRecDepth 100000 in
set_option maxHeartbeats 0 in
theorem PySem.Challenge.cw_qu0034_01_holds : PySem.Challenge.rw_qu0034_01.Holds := by
  refine Mine.hd ?_
  w_strict k_go0
  rename_i hL _ _ _ hI _ hcond _ K0 _ h1 tk1 F0 p5 p4 p3 p2 p1 g5 g4 g3 g2 g1 N0 X0
  refine wpAny_mono (Mine.law_walk (outer := []) (gd := some []) ⟨K0, F0, by assumption, by assumption, rfl, by decide, by decide⟩ (by decide) (by decide) ?_ g1 g2 g3 g4 g5 hL hI (by omega) rfl ?_) (fun _ _ h => h) (fun _ _ h => h.elim)
  · intro p hp
    refine N0 p ?_
    simp only [List.mem_cons, List.not_mem_nil, or_false] at hp ⊢
    rcases hp with h | h | h | h | h <;> simp [h]
  · intro h' tk' hk
    (try dsimp only)
    refine ⟨.inl ⟨.bool true, .bool true, [], rfl, ?_, ?_, ?_, ?_⟩, hk, rfl, by assumption⟩
    · exact fun _ => rfl
    · exact .bool true
    · exact postW_of (by wrow_shape) (by wtm_val) (by w_fin)
    · exact fun _ => ⟨List.nodup_nil, fun _ h => nomatch h⟩
