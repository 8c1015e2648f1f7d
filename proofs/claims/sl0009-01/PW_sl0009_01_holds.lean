import PyProof.Rows.All
import Wide.All
import OpenK.AllK
import Wide.FinOn
import PySem.Challenge.RW_sl0009_01
open PySem PySem.W PyProof.Rows
set_option Elab.async false
set_option genInjectivity false
set_option genSizeOf false
set_option maxRecDepth 100000
namespace Mine
open PySem.Spec PySem.Calls
set_option compiler.extract_closed false
set_option linter.all false
set_option maxHeartbeats 8000000 in
open_top hd for PySem.Challenge.rw_sl0009_01
section
noncomputable abbrev PG : Program := PySem.Challenge.rw_sl0009_01.row.prog
theorem hd_kept : PySem.Challenge.rw_sl0009_01.name = PySem.Challenge.rw_sl0009_01.name ∧ hd.heap_39 = hd.heap_39 := ⟨rfl, rfl⟩
theorem succ_of {i n : Nat} (h : i < n) : ∃ k, n - i = k + 1 := Nat.exists_eq_succ_of_ne_zero (Nat.sub_ne_zero_of_lt h)
theorem pred_of {i n k : Nat} (h : n - i = k + 1) : n - (i + 1) = k := by rw [Nat.sub_add_eq, h]; rfl
theorem room0 {a k n : Nat} (h : a + k < n) (_ : 0 ≤ k) : a < n := Nat.lt_of_le_of_lt (Nat.le_add_right a k) h
theorem room1 {a b k n : Nat} (h : a + k < n) (hb : b ≤ k) : a + b < n := Nat.lt_of_le_of_lt (Nat.add_le_add_left hb a) h
theorem room2 {a b c k n : Nat} (h : a + k < n) (hb : b + c ≤ k) : a + b + c < n := Nat.lt_of_le_of_lt (Nat.le_trans (Nat.le_of_eq (Nat.add_assoc a b c)) (Nat.add_le_add_left hb a)) h
theorem fmc {α : Type} {P : α → Prop} {a : α} {l : List α} (h : P a) (t : ∀ x ∈ l, P x) : ∀ x ∈ a :: l, P x := fun x hx => by
  cases hx with
  | head => exact h
  | tail _ hx => exact t x hx
theorem facts_nil {m : Str → Option Value} : ∀ p ∈ ([] : List (Str × Value)), m p.1 = some p.2 := fun _ h => nomatch h
theorem facts_cons {m : Str → Option Value} {x : Str} {v : Value} {l : List (Str × Value)} (h : m x = some v) (t : ∀ p ∈ l, m p.1 = some p.2) : ∀ p ∈ (x, v) :: l, m p.1 = some p.2 := fmc h t
/-- the end of a call whose own ledger is `mu` and whose still objects lie in the ground -/
noncomputable def LeaveS (h₀ : Heap) (L : Addr) (m : Str → Option Value) (g : Heap) (still : List (Addr × Obj)) (R : Result → Shared → Prop) (v : Value) (s' : Shared) : Prop :=
  ∃ L' m' mu', Fr g L' s'.heap m' ∧ News g L' s'.heap mu' ∧ (Fr h₀ L s'.heap m → News h₀ L s'.heap (mu' ++ still) → (∀ p ∈ still, ∀ q ∈ mu', p.1 ≠ q.1) → R (.ok (.ret v)) s')
theorem leaveS_ {h₀ g : Heap} {L L' : Addr} {m m' : Str → Option Value} {mu' still : List (Addr × Obj)} {R : Result → Shared → Prop} {v : Value} {s' : Shared} (F' : Fr g L' s'.heap m') (N' : News g L' s'.heap mu')
    (k : Fr h₀ L s'.heap m → News h₀ L s'.heap (mu' ++ still) → (∀ p ∈ still, ∀ q ∈ mu', p.1 ≠ q.1) → R (.ok (.ret v)) s') : LeaveS h₀ L m g still R v s' := ⟨L', m', mu', F', N', k⟩
/-- a heap as it was before the frame `L` was made, less the objects of `mu` -/
noncomputable def before (h : Heap) (L : Addr) (mu : List (Addr × Obj)) : Heap := hideAll ⟨h.objs.extract 0 L, h.life⟩ (mu.map (·.1))
theorem get_cut (h : Heap) (n b : Nat) : Heap.get? ⟨h.objs.extract 0 n, h.life⟩ b = if b < n then h.get? b else none := by
  unfold Heap.get?
  show (match (h.objs.extract 0 n)[b]? with | some ⟨_, _, .freed, _⟩ => none | o => o) = _
  rw [Array.getElem?_extract]
  by_cases e : b < n
  · rw [if_pos e]
    by_cases l : b < h.objs.size
    · rw [if_pos (by omega), Nat.zero_add]; rfl
    · rw [if_neg (by omega), Array.getElem?_eq_none (by omega)]
  · rw [if_neg e, if_neg (by omega)]
theorem before_sub {h : Heap} {L b : Addr} {o : Obj} {mu : List (Addr × Obj)} (e : (before h L mu).get? b = some o) : h.get? b = some o ∧ b < L := by
  have x := of_hideAll _ e
  rw [get_cut] at x
  by_cases l : b < L
  · rw [if_pos l] at x; exact ⟨x, l⟩
  · rw [if_neg l] at x; cases x
theorem before_sup {h : Heap} {L b : Addr} {o : Obj} {mu : List (Addr × Obj)} (e : h.get? b = some o) (l : b < L) (n : ∀ q ∈ mu, b ≠ q.1) : (before h L mu).get? b = some o :=
  hideAll_get _ (by rw [get_cut, if_pos l]; exact e) fun x => by
    obtain ⟨q, hq, y⟩ := List.mem_map.mp x
    exact n q hq y.symm
theorem before_none {h : Heap} {L : Addr} {mu : List (Addr × Obj)} {q : Addr × Obj} (hq : q ∈ mu) : (before h L mu).get? q.1 = none := hideAll_none _ (List.mem_map_of_mem hq)
theorem before_size (h : Heap) (L : Addr) (mu : List (Addr × Obj)) : (before h L mu).objs.size = min L h.objs.size := (hideAll_size _ _).trans (Array.size_extract ..)
theorem none_of {h g : Heap} {b : Addr} (k : ∀ o, h.get? b = some o → ∃ o', g.get? b = some o') (n : g.get? b = none) : h.get? b = none := by
  cases q : h.get? b with
  | none => rfl
  | some o =>
    obtain ⟨o', e⟩ := k o q
    rw [n] at e; cases e
/-- the ground of a call whose ledger is `mu ++ still`, widened by what stays still -/
theorem still_ground {A : Around} {base h₀ h₁ g : Heap} {outer : List Env} {L L' : Addr} {m m₁ : Str → Option Value} {mu still cells : List (Addr × Obj)} (hap : ∀ p ∈ still, ∀ q ∈ mu, p.1 ≠ q.1)
    (FG : Fr h₀ L g m) (F₁ : Fr g L' h₁ m₁) (N₁ : News g L' h₁ (cells ++ (mu ++ still))) (hc : ∀ p ∈ cells, L' < p.1) (B : Below A base outer g) (lt : ∀ p ∈ mu ++ still, p.1 < L') :
    ∃ g', Fr h₀ L g' m ∧ Fr g' L' h₁ m₁ ∧ News g' L' h₁ (cells ++ mu) ∧ Below A base outer g' ∧ (∀ p ∈ still, g'.get? p.1 = some p.2) ∧ ∀ R v s', LeaveS h₀ L m g' still R v s' → LeaveK h₀ L m g R v s' := by
  have Nm : ∀ q ∈ mu, g.get? q.1 = none := fun q hq => (N₁ q (List.mem_append_right _ (List.mem_append_left _ hq))).2.2
  have sub : ∀ b o, g.get? b = some o → (before h₁ L' mu).get? b = some o := fun b o e =>
    before_sup (F₁.keep b o e) (Nat.lt_of_lt_of_le (Heap.lt_size e) F₁.above) fun q hq x => by rw [x, Nm q hq] at e; cases e
  have stl : ∀ p ∈ still, (before h₁ L' mu).get? p.1 = some p.2 := fun p hp =>
    before_sup (N₁ p (List.mem_append_right _ (List.mem_append_right _ hp))).1 (lt p (List.mem_append_right _ hp)) (hap p hp)
  have hsz : g.objs.size ≤ (before h₁ L' mu).objs.size := by
    rw [before_size]
    exact Nat.le_min.mpr ⟨F₁.above, Nat.le_trans F₁.above (Nat.le_of_lt F₁.ns.lt)⟩
  refine ⟨before h₁ L' mu, FG.keeps sub, ⟨F₁.ns, fun b o e => (before_sub e).1, before_size .. ▸ Nat.min_le_left ..⟩, fun p hp => ?_, ⟨B.stack, fun b o e => sub b o (B.stays b o e), B.frames.of_keeps fun b o e _ => ⟨o, sub b o e, rfl⟩⟩, stl, fun R v s' hl => ?_⟩
  · have hp' : p ∈ cells ++ (mu ++ still) := by rw [← List.append_assoc]; exact List.mem_append_left _ hp
    refine ⟨(N₁ p hp').1, (N₁ p hp').2.1, ?_⟩
    rcases List.mem_append.mp hp with c | c
    · cases q : (before h₁ L' mu).get? p.1 with
      | none => rfl
      | some o => exact absurd (before_sub q).2 (Nat.not_lt_of_gt (hc p c))
    · exact before_none c
  · obtain ⟨L₂, m₂, mu₂, F₂, N₂, k⟩ := hl
    refine leaveK_ (news' := mu₂ ++ still) ⟨F₂.ns, fun b o e => F₂.keep b o (sub b o e), Nat.le_trans hsz F₂.above⟩ (fun p hp => ?_) fun Fz Nz => k Fz Nz fun p hp q hq e => ?_
    · rcases List.mem_append.mp hp with c | c
      · exact ⟨(N₂ p c).1, (N₂ p c).2.1, none_of (fun o e => ⟨o, sub _ o e⟩) (N₂ p c).2.2⟩
      · exact ⟨F₂.keep _ _ (stl p c), Nat.ne_of_lt (Nat.lt_of_lt_of_le (Heap.lt_size (stl p c)) F₂.above), (N₁ p (List.mem_append_right _ (List.mem_append_right _ c))).2.2⟩
    · have x := stl p hp
      rw [e, (N₂ q hq).2.2] at x; cases x
theorem cells_above {a : Nat} : ∀ (names : List (Str × NameKind)) (n : Nat) (acc : List (Str × Addr)), a ≤ n → (∀ x ∈ acc, a ≤ x.2) → ∀ x ∈ cellsFrom n names acc, a ≤ x.2
  | [], _, _, _, h => h
  | y :: r, n, acc, hn, h => by
    unfold cellsFrom
    by_cases e : (y.2 == .cell) = true
    · rw [if_pos e]; exact cells_above r _ _ (Nat.le_succ_of_le hn) (fmc hn h)
    · rw [if_neg e]; exact cells_above r _ _ hn h
theorem cellsAre_above {a : Nat} {cm : Str → Option Value} {cs : List (Str × Addr)} {cells : List (Addr × Obj)} (Y : CellsAre cm cs cells) : (∀ x ∈ cs, a ≤ x.2) → ∀ p ∈ cells, a ≤ p.1 := by
  induction Y with
  | nil => exact fun _ _ hp => nomatch hp
  | cons _ _ ih => exact fun h => fmc (h _ (.head _)) (ih fun x hx => h x (.tail _ hx))
/-- a frame's map that holds these names -/
noncomputable def withB (rest : Str → Option Value) : List (Str × Value) → Str → Option Value
  | [] => rest
  | p :: r => fun y => if y = p.1 then some p.2 else withB rest r y
theorem withB_eq {m : Str → Option Value} : ∀ {ps : List (Str × Value)}, (∀ p ∈ ps, m p.1 = some p.2) → withB m ps = m
  | [], _ => rfl
  | p :: r, h => by
    funext y
    show (if y = p.1 then some p.2 else withB m r y) = m y
    by_cases e : y = p.1
    · rw [if_pos e, e]; exact (h p (.head _)).symm
    · rw [if_neg e, withB_eq fun q hq => h q (.tail _ hq)]
theorem fr_withB {h₀ h : Heap} {L : Addr} {x : Str} {v : Value} {m : Str → Option Value} (ps : List (Str × Value)) (hp : ∀ p ∈ ps, m p.1 = some p.2) (F : Fr h₀ L h (fun y => if y = x then some v else m y)) :
    Fr h₀ L h (fun y => if y = x then some v else withB m ps y) := by rw [withB_eq hp]; exact F
theorem fr_withB0 {h₀ h : Heap} {L : Addr} {m : Str → Option Value} (ps : List (Str × Value)) (hp : ∀ p ∈ ps, m p.1 = some p.2) (F : Fr h₀ L h m) : Fr h₀ L h (withB m ps) := by rw [withB_eq hp]; exact F
theorem lookup_withB : ∀ l : List (Str × Value), (fun y => l.lookup y) = withB (fun _ => none) l
  | [] => rfl
  | (k, v) :: r => by
    funext y
    show List.lookup y ((k, v) :: r) = if y = k then some v else withB (fun _ => none) r y
    rw [List.lookup_cons, ← lookup_withB r]
    by_cases e : y = k
    · simp [e]
    · have : (y == k) = false := by simpa using e
      rw [this, if_neg e]
/-- what a call of f is known to do, whoever calls: `mu` is what it may change, `Pre` what it reads -/
noncomputable def Does (w : World) (p : Program) (loose : List Str) (mean : ExcName → Option Value) (mg mb : Str → Option Value) (D U : Nat) (Pre : Heap → Prop) (f : Value) (vs : List Value) (mu : List (Addr × Obj)) (Post : Value → List (Addr × Obj) → Prop) : Prop :=
  ∀ (dp un : Nat) (gd : Option (List Code)) (cn : Str) (cs : Scope) (a : Addr) (ccd : Value) (cl : List (Str × Addr)) (outer : List Env) (A₀ : Around) (base h₀ : Heap) (L : Addr) (m : Str → Option Value) (s : Shared) (Q E : Value → Shared → Prop) (still : List (Addr × Obj)),
    Below A₀ base outer h₀ → Fr h₀ L s.heap m → Frag.In (hd.heap_39 w.params) h₀ → News h₀ L s.heap (mu ++ still) → (∀ p ∈ still, ∀ q ∈ mu, p.1 ≠ q.1) → Top p loose mean mg mb h₀ → cs.kind = .function →
    (∀ g, h₀.StaysIn g → (∀ p ∈ still, g.get? p.1 = some p.2) → Pre g) → dp + D < recursionLimit → un + U < cLine →
    (∀ v mu' h' tk', Fr h₀ L h' m → News h₀ L h' (mu' ++ still) → (∀ p ∈ still, ∀ q ∈ mu', p.1 ≠ q.1) → Post v mu' → Q v { s with heap := h', toks := tk' }) →
    wpAny (model PySem.Challenge.rw_sl0009_01.row.prog w) (ktrTop dp un gd cn cs L a ccd cl outer) (call f vs) Q E s
noncomputable abbrev NoPre : Heap → Prop := fun _ => True
section
variable {w : World} {A A₀ : Around} {s : Shared} {K : Frag} {L : Addr} {h₀ base : Heap} {m mg mb : Str → Option Value} {mu still : List (Addr × Obj)} {p : Program} {loose : List Str} {mean : ExcName → Option Value} {prog : Program}
/-- a def of the text's top is entered -/
theorem enter_top {env : Env} {outer : List Env} {R : Result → Shared → Prop} {name qual : Str} {params : Arguments} {body : List Stmt} {scope : Scope} {dV kV doc pm cdv ct oc : Value} {an od : Option Addr} {osl : Array (Option Value)} {f : Addr} {vals : List Value}
    (B : Below A₀ base outer h₀) (F : Fr h₀ L s.heap m) (X₀ : K.In h₀) (N : News h₀ L s.heap (mu ++ still)) (hap : ∀ p ∈ still, ∀ q ∈ mu, p.1 ≠ q.1) (T : Top p loose mean mg mb h₀) (hA : A.frames = some (env :: outer)) (hf : env.frame = some L) (hke : env.scope.kind = .function)
    (ho : K.lookup f = some ⟨oc, od, .func (fnOf name qual params body scope dV kV doc pm an cdv ct), osl⟩) (hcd : codeIn K cdv qual = true) (hroom : A.depth < recursionLimit)
    (hbind : BindsTo s (fnOf name qual params body scope dV kV doc pm an cdv ct) ⟨vals, []⟩ ((params.args.map (·.arg)).zip vals)) (hloc : ∀ y ∈ (params.args.map (·.arg)).zip vals, scope.names.lookup y.1 = some .local)
    (h : ∀ g L' h₁ tk, Fr h₀ L g m → Fr g L' h₁ (withB (fun _ => none) ((params.args.map (·.arg)).zip vals).reverse) → News g L' h₁ mu → Below A base (env :: outer) g → K.In g → Top p loose mean mg mb g → h₀.StaysIn g → (∀ p ∈ still, g.get? p.1 = some p.2) → (∀ p ∈ mu, p.1 < L') →
      wpAny (model prog w) (A.deeper (envOf qual scope L' f cdv)) (execs body (envOf qual scope L' f cdv))
        (fun fl s' => LeaveS h₀ L m g still R (match fl with | .ret v => v | _ => .none) s')
        (fun e s' => wpAny (model prog w) (A.deeper (envOf qual scope L' f cdv)) (leaving (envOf qual scope L' f cdv) e) (fun _ s'' => R (.error e) s'') (fun e' s'' => R (.error e') s'') s')
        { s with heap := h₁, toks := tk })
    (hco : scope.isCoroutine = false) (hgen : scope.isGenerator = false) (hk : scope.kind = .function)
    (hcell : ∀ x ∈ scope.names, x.2 ≠ .cell) : codeAny (model prog w) A (.call (.ref f) ⟨vals, []⟩) R s :=
  callX_plain (cl := []) B F N T.nolimit hA hf hke ((X₀.keeps F.keep) _ _ ho) rfl (codeRec_of (X₀.keeps F.keep) hcd) hroom hbind hloc (fun g L' h₁ FG F₁ N₁ BG _ lt => by
    obtain ⟨g', FG', F₁', N', B', stl, lv⟩ := still_ground (cells := []) hap FG F₁ N₁ (fun _ hp => nomatch hp) BG lt
    exact wpAny_mono (h g' L' h₁ _ FG' (by rw [← lookup_withB]; exact F₁') N' B' (X₀.keeps FG'.keep) (T.keeps FG'.keep) FG'.keep stl fun p hp => lt p (List.mem_append_left _ hp)) (fun fl s' x => lv R _ _ x) fun _ _ y => y) hcell hco hgen hk
theorem enter_topC {env : Env} {outer : List Env} {R : Result → Shared → Prop} {name qual : Str} {params : Arguments} {body : List Stmt} {scope : Scope} {dV kV doc pm cdv ct oc : Value} {an od : Option Addr} {osl : Array (Option Value)} {f : Addr} {args : Args} {binds : List (Str × Value)}
    (B : Below A₀ base outer h₀) (F : Fr h₀ L s.heap m) (X₀ : K.In h₀) (N : News h₀ L s.heap (mu ++ still)) (hap : ∀ p ∈ still, ∀ q ∈ mu, p.1 ≠ q.1) (T : Top p loose mean mg mb h₀) (hA : A.frames = some (env :: outer)) (hf : env.frame = some L) (hke : env.scope.kind = .function)
    (ho : K.lookup f = some ⟨oc, od, .func (fnOf name qual params body scope dV kV doc pm an cdv ct), osl⟩) (hcd : codeIn K cdv qual = true) (hroom : A.depth < recursionLimit)
    (hbind : BindsTo s (fnOf name qual params body scope dV kV doc pm an cdv ct) args binds) (hkind : (binds.all fun y => scope.names.lookup y.1 == some .local || scope.names.lookup y.1 == some .cell) = true)
    (hnd : ((cellsFrom 0 scope.names []).map (·.1)).Nodup)
    (h : ∀ g L' h₁ tk cells, Fr h₀ L g m → Fr g L' h₁ (bindL (envOfC qual scope L' f cdv).kindOf binds fun _ => none) → News g L' h₁ (cells ++ mu) →
      CellsAre (bindC (envOfC qual scope L' f cdv).kindOf binds fun _ => none) (cellsFrom (L' + 1) scope.names []) cells → Below A base (env :: outer) g → K.In g → Top p loose mean mg mb g → h₀.StaysIn g → (∀ p ∈ still, g.get? p.1 = some p.2) → (∀ p ∈ mu, p.1 < L') →
      wpAny (model prog w) (A.deeper (envOfC qual scope L' f cdv)) (execs body (envOfC qual scope L' f cdv))
        (fun fl s' => LeaveS h₀ L m g still R (match fl with | .ret v => v | _ => .none) s')
        (fun e s' => wpAny (model prog w) (A.deeper (envOfC qual scope L' f cdv)) (leaving (envOfC qual scope L' f cdv) e) (fun _ s'' => R (.error e) s'') (fun e' s'' => R (.error e') s'') s')
        { s with heap := h₁, toks := tk })
    (hco : scope.isCoroutine = false) (hgen : scope.isGenerator = false) (hk : scope.kind = .function) : codeAny (model prog w) A (.call (.ref f) args) R s :=
  code_defC B F X₀ N T hA hf hke ho hcd hroom hbind hkind hnd (fun g L' h₁ tk cells FG F₁ N₁ Y BG _ _ lt => by
    obtain ⟨g', FG', F₁', N', B', stl, lv⟩ := still_ground hap FG F₁ N₁ (cellsAre_above Y (cells_above _ _ _ (Nat.le_refl _) fun _ hp => nomatch hp)) BG lt
    exact wpAny_mono (h g' L' h₁ tk cells FG' F₁' N' Y B' (X₀.keeps FG'.keep) (T.keeps FG'.keep) FG'.keep stl fun p hp => lt p (List.mem_append_left _ hp)) (fun fl s' x => lv R _ _ x) fun _ _ y => y) hco hgen hk
theorem enter_topQ {env : Env} {outer : List Env} {R : Result → Shared → Prop} {name qual : Str} {params : Arguments} {body : List Stmt} {scope : Scope} {dV kV doc pm cdv ct oc : Value} {an od : Option Addr} {osl : Array (Option Value)} {f : Addr} {vals : List Value}
    (B : Below A₀ base outer h₀) (F : Fr h₀ L s.heap m) (X₀ : K.In h₀) (N : News h₀ L s.heap (mu ++ still)) (hap : ∀ p ∈ still, ∀ q ∈ mu, p.1 ≠ q.1) (T : Top p loose mean mg mb h₀) (hA : A.frames = some (env :: outer)) (hf : env.frame = some L) (hke : env.scope.kind = .function)
    (ho : K.lookup f = some ⟨oc, od, .func (fnOf name qual params body scope dV kV doc pm an cdv ct), osl⟩) (hcd : codeIn K cdv qual = true) (hroom : A.depth < recursionLimit)
    (hbind : BindsTo s (fnOf name qual params body scope dV kV doc pm an cdv ct) ⟨vals, []⟩ ((params.args.map (·.arg)).zip vals)) (hloc : ∀ y ∈ (params.args.map (·.arg)).zip vals, scope.names.lookup y.1 = some .local)
    (h : ∀ g L' h₁ tk, Fr h₀ L g m → Fr g L' h₁ (withB (fun _ => none) ((params.args.map (·.arg)).zip vals).reverse) → News g L' h₁ mu → Below A base (env :: outer) g → K.In g → Top p loose mean mg mb g → h₀.StaysIn g → (∀ p ∈ still, g.get? p.1 = some p.2) → (∀ p ∈ mu, p.1 < L') → ∀ Q E' : Value → Shared → Prop, (∀ v s', LeaveS h₀ L m g still R v s' → Q v s') →
      wpAny (model prog w) (A.deeper (envOf qual scope L' f cdv)) (execs body (envOf qual scope L' f cdv))
        (fun fl s' => Q (match fl with | .ret v => v | _ => .none) s')
        E'
        { s with heap := h₁, toks := tk })
    (hco : scope.isCoroutine = false) (hgen : scope.isGenerator = false) (hk : scope.kind = .function)
    (hcell : ∀ x ∈ scope.names, x.2 ≠ .cell) : codeAny (model prog w) A (.call (.ref f) ⟨vals, []⟩) R s :=
  enter_top B F X₀ N hap T hA hf hke ho hcd hroom hbind hloc (fun g L' h₁ tk FG F' N' B' X T' st stl l => h g L' h₁ tk FG F' N' B' X T' st stl l _ _ fun _ _ x => x) hco hgen hk hcell
theorem enter_topCQ {env : Env} {outer : List Env} {R : Result → Shared → Prop} {name qual : Str} {params : Arguments} {body : List Stmt} {scope : Scope} {dV kV doc pm cdv ct oc : Value} {an od : Option Addr} {osl : Array (Option Value)} {f : Addr} {args : Args} {binds : List (Str × Value)}
    (B : Below A₀ base outer h₀) (F : Fr h₀ L s.heap m) (X₀ : K.In h₀) (N : News h₀ L s.heap (mu ++ still)) (hap : ∀ p ∈ still, ∀ q ∈ mu, p.1 ≠ q.1) (T : Top p loose mean mg mb h₀) (hA : A.frames = some (env :: outer)) (hf : env.frame = some L) (hke : env.scope.kind = .function)
    (ho : K.lookup f = some ⟨oc, od, .func (fnOf name qual params body scope dV kV doc pm an cdv ct), osl⟩) (hcd : codeIn K cdv qual = true) (hroom : A.depth < recursionLimit)
    (hbind : BindsTo s (fnOf name qual params body scope dV kV doc pm an cdv ct) args binds) (hkind : (binds.all fun y => scope.names.lookup y.1 == some .local || scope.names.lookup y.1 == some .cell) = true)
    (hnd : ((cellsFrom 0 scope.names []).map (·.1)).Nodup)
    (h : ∀ g L' h₁ tk cells, Fr h₀ L g m → Fr g L' h₁ (bindL (envOfC qual scope L' f cdv).kindOf binds fun _ => none) → News g L' h₁ (cells ++ mu) →
      CellsAre (bindC (envOfC qual scope L' f cdv).kindOf binds fun _ => none) (cellsFrom (L' + 1) scope.names []) cells → Below A base (env :: outer) g → K.In g → Top p loose mean mg mb g → h₀.StaysIn g → (∀ p ∈ still, g.get? p.1 = some p.2) → (∀ p ∈ mu, p.1 < L') → ∀ Q E' : Value → Shared → Prop, (∀ v s', LeaveS h₀ L m g still R v s' → Q v s') →
      wpAny (model prog w) (A.deeper (envOfC qual scope L' f cdv)) (execs body (envOfC qual scope L' f cdv))
        (fun fl s' => Q (match fl with | .ret v => v | _ => .none) s')
        E'
        { s with heap := h₁, toks := tk })
    (hco : scope.isCoroutine = false) (hgen : scope.isGenerator = false) (hk : scope.kind = .function) : codeAny (model prog w) A (.call (.ref f) args) R s :=
  enter_topC B F X₀ N hap T hA hf hke ho hcd hroom hbind hkind hnd (fun g L' h₁ tk cells FG F' N' Y B' X T' st stl l => h g L' h₁ tk cells FG F' N' Y B' X T' st stl l _ _ fun _ _ x => x) hco hgen hk
end
section
variable {w : World} {p : Program} {loose : List Str} {mean : ExcName → Option Value} {mg mb : Str → Option Value} {D U : Nat} {Pre : Heap → Prop} {f : Value} {vs : List Value} {Post : Value → List (Addr × Obj) → Prop}
  {dp un : Nat} {gd : Option (List Code)} {cn : Str} {cs : Scope} {a : Addr} {ccd : Value} {cl : List (Str × Addr)} {outer : List Env} {A₀ : Around} {base h₀ : Heap} {L : Addr} {m : Str → Option Value} {s : Shared} {Q E : Value → Shared → Prop} {news : List (Addr × Obj)}
theorem Does.use0 (H : Does w p loose mean mg mb D U Pre f vs [] Post) (B : Below A₀ base outer h₀) (F : Fr h₀ L s.heap m) (X : Frag.In (hd.heap_39 w.params) h₀) (N : News h₀ L s.heap news) (T : Top p loose mean mg mb h₀) (hk : cs.kind = .function)
    (hP : ∀ g, h₀.StaysIn g → (∀ q ∈ news, g.get? q.1 = some q.2) → Pre g) (hdp : dp + D < recursionLimit) (hun : un + U < cLine)
    (ret : ∀ v mu' h' tk', Fr h₀ L h' m → News h₀ L h' (mu' ++ news) → (∀ p ∈ news, ∀ q ∈ mu', p.1 ≠ q.1) → Post v mu' → Q v { s with heap := h', toks := tk' }) :
    wpAny (model PySem.Challenge.rw_sl0009_01.row.prog w) (ktrTop dp un gd cn cs L a ccd cl outer) (call f vs) Q E s :=
  H _ _ _ _ _ _ _ _ _ _ _ _ _ _ _ _ _ _ B F X N (fun _ _ _ hq => nomatch hq) T hk hP hdp hun ret
theorem Does.use0E {z : Value} (H : Does w p loose mean mg mb D U Pre f vs [] (fun v mu' => v = z ∧ mu' = [])) (B : Below A₀ base outer h₀) (F : Fr h₀ L s.heap m) (X : Frag.In (hd.heap_39 w.params) h₀) (N : News h₀ L s.heap news) (T : Top p loose mean mg mb h₀) (hk : cs.kind = .function)
    (hP : ∀ g, h₀.StaysIn g → (∀ q ∈ news, g.get? q.1 = some q.2) → Pre g) (hdp : dp + D < recursionLimit) (hun : un + U < cLine)
    (ret : ∀ h' tk', Fr h₀ L h' m → News h₀ L h' news → Q z { s with heap := h', toks := tk' }) :
    wpAny (model PySem.Challenge.rw_sl0009_01.row.prog w) (ktrTop dp un gd cn cs L a ccd cl outer) (call f vs) Q E s :=
  H.use0 B F X N T hk hP hdp hun fun v mu' h' tk' F' N' _ P => by
    obtain ⟨rfl, rfl⟩ := P
    exact ret h' tk' F' N'
theorem Does.use0T {z : Tok → Value} (H : Does w p loose mean mg mb D U Pre f vs [] (fun v mu' => ∃ t, v = z t ∧ mu' = [])) (B : Below A₀ base outer h₀) (F : Fr h₀ L s.heap m) (X : Frag.In (hd.heap_39 w.params) h₀) (N : News h₀ L s.heap news) (T : Top p loose mean mg mb h₀) (hk : cs.kind = .function)
    (hP : ∀ g, h₀.StaysIn g → (∀ q ∈ news, g.get? q.1 = some q.2) → Pre g) (hdp : dp + D < recursionLimit) (hun : un + U < cLine)
    (ret : ∀ t h' tk', Fr h₀ L h' m → News h₀ L h' news → Q (z t) { s with heap := h', toks := tk' }) :
    wpAny (model PySem.Challenge.rw_sl0009_01.row.prog w) (ktrTop dp un gd cn cs L a ccd cl outer) (call f vs) Q E s :=
  H.use0 B F X N T hk hP hdp hun fun v mu' h' tk' F' N' _ P => by
    obtain ⟨t, rfl, rfl⟩ := P
    exact ret t h' tk' F' N'
theorem Does.use0U {z : Tok → Value} (H : Does w p loose mean mg mb D U Pre f vs [] (fun v mu' => (∃ t, v = z t) ∧ mu' = [])) (B : Below A₀ base outer h₀) (F : Fr h₀ L s.heap m) (X : Frag.In (hd.heap_39 w.params) h₀) (N : News h₀ L s.heap news) (T : Top p loose mean mg mb h₀) (hk : cs.kind = .function)
    (hP : ∀ g, h₀.StaysIn g → (∀ q ∈ news, g.get? q.1 = some q.2) → Pre g) (hdp : dp + D < recursionLimit) (hun : un + U < cLine)
    (ret : ∀ t h' tk', Fr h₀ L h' m → News h₀ L h' news → Q (z t) { s with heap := h', toks := tk' }) :
    wpAny (model PySem.Challenge.rw_sl0009_01.row.prog w) (ktrTop dp un gd cn cs L a ccd cl outer) (call f vs) Q E s :=
  H.use0 B F X N T hk hP hdp hun fun v mu' h' tk' F' N' _ P => by
    obtain ⟨⟨t, rfl⟩, rfl⟩ := P
    exact ret t h' tk' F' N'
theorem Does.use {mu still : List (Addr × Obj)} (H : Does w p loose mean mg mb D U Pre f vs mu Post) (B : Below A₀ base outer h₀) (F : Fr h₀ L s.heap m) (X : Frag.In (hd.heap_39 w.params) h₀) (N : News h₀ L s.heap news) (T : Top p loose mean mg mb h₀) (hk : cs.kind = .function)
    (hsub : ∀ q ∈ mu ++ still, q ∈ news) (hap : ∀ p ∈ still, ∀ q ∈ mu, p.1 ≠ q.1)
    (hP : ∀ g, h₀.StaysIn g → (∀ q ∈ still, g.get? q.1 = some q.2) → Pre g) (hdp : dp + D < recursionLimit) (hun : un + U < cLine)
    (ret : ∀ v mu' h' tk', Fr h₀ L h' m → News h₀ L h' (mu' ++ still) → (∀ p ∈ still, ∀ q ∈ mu', p.1 ≠ q.1) → Post v mu' → Q v { s with heap := h', toks := tk' }) :
    wpAny (model PySem.Challenge.rw_sl0009_01.row.prog w) (ktrTop dp un gd cn cs L a ccd cl outer) (call f vs) Q E s :=
  H _ _ _ _ _ _ _ _ _ _ _ _ _ _ _ _ _ _ B F X (fun q hq => N q (hsub q hq)) hap T hk hP hdp hun ret
end
noncomputable def AllNe (d : Nat) : List (Addr × Obj) → Prop
  | [] => True
  | p :: r => @Ne Nat p.1 d ∧ AllNe d r
noncomputable def AllApart (still : List (Addr × Obj)) : List (Addr × Obj) → Prop
  | [] => True
  | q :: r => AllNe q.1 still ∧ AllApart still r
theorem allNe_of {d : Addr} : ∀ {l : List (Addr × Obj)}, (∀ p ∈ l, p.1 ≠ d) → AllNe d l
  | [], _ => trivial
  | p :: _, h => ⟨h p (.head _), allNe_of fun q hq => h q (.tail _ hq)⟩
theorem allApart_of {still : List (Addr × Obj)} : ∀ {mu : List (Addr × Obj)}, (∀ p ∈ still, ∀ q ∈ mu, p.1 ≠ q.1) → AllApart still mu
  | [], _ => trivial
  | q :: _, h => ⟨allNe_of fun p hp => h p hp q (.head _), allApart_of fun p hp r hr => h p hp r (.tail _ hr)⟩
theorem news_tail {h₀ h : Heap} {L : Addr} {p : Addr × Obj} {r : List (Addr × Obj)} (N : News h₀ L h (p :: r)) : News h₀ L h r := fun q hq => N q (.tail _ hq)
theorem news_sub {h₀ h : Heap} {L : Addr} {l r : List (Addr × Obj)} (N : News h₀ L h l) (hs : ∀ q ∈ r, q ∈ l) : News h₀ L h r := fun q hq => N q (hs q hq)
/-- a stop for the walk -/
noncomputable def Hold (P : Prop) : Prop := P
theorem hold_in {P : Prop} (h : Hold P) : P := h
theorem hold_out {P : Prop} (h : P) : Hold P := h
section
variable {prog : Program} {w : World} {A : Around} {E : Value → Shared → Prop} {s : Shared} {L l : Addr} {h₀ : Heap} {m : Str → Option Value} {news : List (Addr × Obj)}
/-- an item of a list, at any place -/
theorem item_at {value slice : Expr} {vs : Array Value} {k : Int} {u : Tok} {v : Value} {Q : Value → Shared → Prop} (hL : s.heap.IsList l vs)
    (h0 : 0 ≤ k) (hhi : k < 2 ^ 63) (hx : vs[k.toNat]? = some v) (h : Q v s)
    (hs : subscripted slice false (.ref l) (.int k u) = operate [.ref l, .int k u] (getItem (.ref l) (.int k u)) := by with_unfolding_all rfl) :
    wpAny (model prog w) A (subscriptTail value slice (.ref l) (.int k u)) Q E s :=
  tail_any hL.typeIs slot_list_getitem.lookup (wpAny_getItem_list hL h0 hhi hx h) hs
end
theorem isList_of {h : Heap} {l : Addr} {its : Array Value} {n : Nat} (hg : h.get? l = some (W.listOf its n)) : h.IsList l its := ⟨_, hg, rfl, _, rfl⟩
theorem allNe_to {d : Addr} {l : List (Addr × Obj)} (h : AllNe d l) : ∀ p ∈ l, p.1 ≠ d := by
  induction l with
  | nil => exact fun _ h => nomatch h
  | cons q r ih =>
    intro p hp
    rcases List.mem_cons.mp hp with e | hp
    · rw [e]; exact h.1
    · exact ih h.2 p hp
theorem apart_to {still mu : List (Addr × Obj)} (h : AllApart still mu) : ∀ p ∈ still, ∀ q ∈ mu, p.1 ≠ q.1 := by
  induction mu with
  | nil => exact fun _ _ _ h => nomatch h
  | cons r s ih =>
    intro p hp q hq
    rcases List.mem_cons.mp hq with e | hq
    · rw [e]; exact allNe_to h.1 p hp
    · exact ih h.2 p hp q hq
end
section
section
variable {prog : Program} {w : World} {A : Around} {E : Value → Shared → Prop} {s : Shared} {L l : Addr} {h₀ : Heap} {m : Str → Option Value} {news : List (Addr × Obj)} {Q : Value → Shared → Prop}
theorem ite_intV {c : Prop} [Decidable c] {a b : Int} {t u : Tok} : (if c then Value.int a t else Value.int b u) = Value.int (if c then a else b) (if c then t else u) := by split <;> rfl
theorem max3_lit {a b c M : Int} {t u x : Tok} (hh : A.handled = none) (F : Fr h₀ L s.heap m) (N : News h₀ L s.heap news) (hM : (if b > a then (if c > b then c else b) else (if c > a then c else a)) = M)
    (h : ∀ h' tk t', Fr h₀ L h' m → News h₀ L h' news → Q (.int M t') { s with heap := h', toks := tk }) :
    wpAny (model prog w) A (call (.builtin "max") [.int a t, .int b u, .int c x]) Q E s :=
  max_three_ints hh fun h' tk hk => by
    have := fun t' => h h' tk t' (F.grownK hk) (N.grown hk)
    simp only [ite_intV, hM]
    exact this _
theorem min3_lit {a b c M : Int} {t u x : Tok} (hh : A.handled = none) (F : Fr h₀ L s.heap m) (N : News h₀ L s.heap news) (hM : (if b < a then (if c < b then c else b) else (if c < a then c else a)) = M)
    (h : ∀ h' tk t', Fr h₀ L h' m → News h₀ L h' news → Q (.int M t') { s with heap := h', toks := tk }) :
    wpAny (model prog w) A (call (.builtin "min") [.int a t, .int b u, .int c x]) Q E s :=
  min_three_ints hh fun h' tk hk => by
    have := fun t' => h h' tk t' (F.grownK hk) (N.grown hk)
    simp only [ite_intV, hM]
    exact this _
end
/-! floats whose value is written -/
section
variable {prog : Program} {w : World} {A : Around} {E : Value → Shared → Prop} {s : Shared} {Q : Value → Shared → Prop} {a b z : UInt64} {i j : Int} {t u : Tok}
theorem fl_div_ii (hh : A.handled = none) (hb : j ≠ 0) (hfit : i.natAbs < 2 ^ 1023) (hz : Float64.ofFrac (decide (i < 0) != decide (j < 0)) i.natAbs j.natAbs = z) (h : ∀ t tk, Q (.float z t) { s with toks := tk }) :
    wpAny (model prog w) A (binaryOp .Div (.int i t) (.int j u)) Q E s := by
  subst hz
  exact Flt.div_ii_fits hh hfit (fun e => absurd e hb) fun _ _ => h _ _
theorem fl_div_if (hh : A.handled = none) (ho : ¬ Flt.Over i) (hn : ¬ Float64.isZero a = true) (hz : Float64.div (Float64.ofInt i) a = z) (h : ∀ t tk, Q (.float z t) { s with toks := tk }) :
    wpAny (model prog w) A (binaryOp .Div (.int i u) (.float a t)) Q E s := by
  subst hz
  exact Flt.truediv_if hh (fun e => absurd e ho) (fun _ e => absurd e hn) fun _ _ => h _ _
theorem fl_sub_fi (hh : A.handled = none) (ho : ¬ Flt.Over i) (hz : Float64.sub a (Float64.ofInt i) = z) (h : ∀ t tk, Q (.float z t) { s with toks := tk }) :
    wpAny (model prog w) A (binaryOp .Sub (.float a t) (.int i u)) Q E s := by
  subst hz
  exact sub_fi_sharp hh (fun e => absurd e ho) fun _ => h _ _
theorem fl_add (hz : Float64.add a b = z) (h : ∀ t tk, Q (.float z t) { s with toks := tk }) : wpAny (model prog w) A (binaryOp .Add (.float a t) (.float b u)) Q E s := by
  subst hz
  exact add_float (h _ _)
theorem fl_sub (hz : Float64.sub a b = z) (h : ∀ t tk, Q (.float z t) { s with toks := tk }) : wpAny (model prog w) A (binaryOp .Sub (.float a t) (.float b u)) Q E s := by
  subst hz
  exact sub_float (h _ _)
theorem fl_mul (hz : Float64.mul a b = z) (h : ∀ t tk, Q (.float z t) { s with toks := tk }) : wpAny (model prog w) A (binaryOp .Mult (.float a t) (.float b u)) Q E s := by
  subst hz
  exact mul_float (h _ _)
theorem fl_mul_fi (hh : A.handled = none) (ho : ¬ Flt.Over i) (hz : Float64.mul a (Float64.ofInt i) = z) (h : ∀ t tk, Q (.float z t) { s with toks := tk }) :
    wpAny (model prog w) A (binaryOp .Mult (.float a t) (.int i u)) Q E s := by
  subst hz
  exact mul_fi_sharp hh (fun e => absurd e ho) fun _ => h _ _
theorem fl_div (hh : A.handled = none) (hn : ¬ Float64.isZero b = true) (hz : Float64.div a b = z) (h : ∀ t tk, Q (.float z t) { s with toks := tk }) : wpAny (model prog w) A (binaryOp .Div (.float a t) (.float b u)) Q E s := by
  subst hz
  exact truediv_float_or hh (fun e => absurd e hn) fun _ => h _ _
theorem fl_mod (hh : A.handled = none) (hn : ¬ Float64.isZero b = true) (hz : (Float64.divmod a b).2 = z) (h : ∀ t tk, Q (.float z t) { s with toks := tk }) : wpAny (model prog w) A (binaryOp .Mod (.float a t) (.float b u)) Q E s := by
  subst hz
  exact Flt.mod_ff hh (fun e => absurd e hn) fun _ => h _ _
theorem fl_le {B : Bool} (hb : (Float64.cmp a b == some Ordering.lt || Float64.cmp a b == some Ordering.eq) = B) (h : Q (.bool B) s) : wpAny (model prog w) A (compareOp .LtE (.float a t) (.float b u)) Q E s := by
  subst hb
  exact AutoFloatOps.le_0 h
theorem fl_eq {B : Bool} (hb : (Float64.cmp a b == some Ordering.eq) = B) (h : Q (.bool B) s) : wpAny (model prog w) A (compareOp .Eq (.float a t) (.float b u)) Q E s := by
  subst hb
  exact AutoFloatOps.eq_0 h
theorem fl_int {k : Int} (hh : A.handled = none) (h0 : ¬ Float64.isNaN a = true) (h1 : ¬ Float64.isInf a = true) (hk : Flt.toInt Float64.truncOf a = k) (h : ∀ t tk, Q (.int k t) { s with toks := tk }) : wpAny (model prog w) A (call (.type "int") [.float a t]) Q E s := by
  subst hk
  exact Flt.call_int_float3 hh (fun e => absurd e h0) (fun e => absurd e h1) fun _ => h _ _
theorem fl_round {k : Int} (hh : A.handled = none) (h0 : ¬ Float64.isNaN a = true) (h1 : ¬ Float64.isInf a = true) (hk : Flt.toInt Float64.nearestOf a = k) (h : ∀ t tk, Q (.int k t) { s with toks := tk }) : wpAny (model prog w) A (call (.builtin "round") [.float a t]) Q E s := by
  subst hk
  exact Flt.call_round_float hh (fun e => absurd e h0) (fun e => absurd e h1) fun _ => h _ _
end
section
variable {prog : Program} {w : World} {A : Around} {E : Value → Shared → Prop} {s : Shared} {L q : Addr} {h₀ : Heap} {m : Str → Option Value} {news : List (Addr × Obj)} {Q : Value → Shared → Prop}
theorem tup2_walk {x y : Int} {t u : Tok} (hh : A.handled = none) (hT : s.heap.IsTuple q (intItems #[(x, t), (y, u)])) {op : CmpOp} (bt : Int → Int → Bool) (hc : CmpOf prog w A.in1 op (fun i v => (intItems #[(x, t), (y, u)])[i]? = some v) (fun i j => bt (numAt #[(x, t), (y, u)] i) (numAt #[(x, t), (y, u)] j)))
    (h : ∀ h' tk t', (∀ b o, s.heap.get? b = some o → h'.get? b = some o) → Q (.int (if bt y x then y else x) t') { s with heap := h', toks := tk }) :
    wpAny (model prog w) A.in1 (pyIter (.ref q)) (fun it s₂ => ∃ I fp wr n P St bt, it = .ref I ∧ Walks prog w A.in1 I fp wr n P St ∧ St 0 s₂.heap ∧ (∀ b ∈ fp, b < s₂.heap.objs.size) ∧ 0 < n ∧ CmpOf prog w A.in1 op P bt ∧
      ∀ v h' tk, P (argBest bt (n - 1)) v → (∀ b o, b ∉ wr → s₂.heap.get? b = some o → h'.get? b = some o) → Q v { s₂ with heap := h', toks := tk }) E s := by
  have hlt : q < s.heap.objs.size := by obtain ⟨o, ho, _⟩ := hT; exact Heap.lt_size ho
  refine wpAny_pyIter_tuple hT ?_
  refine ⟨_, [_, q], [_], _, _, _, _, rfl, Walks.tuple (A := A.in1) hh _ q (Nat.ne_of_lt hlt) (intItems #[(x, t), (y, u)]), ⟨⟨_, Heap.get?_push_size _ rfl, rfl, rfl⟩, hT.push _⟩, fun c hc => ?_, by simp [intItems], hc, fun v h' tk hP hk => ?_⟩
  · refine Nat.lt_of_le_of_lt (m := s.heap.objs.size) ?_ (Nat.lt_of_lt_of_eq (Nat.lt_succ_self _) (Heap.size_push ..).symm)
    rw [List.mem_cons, List.mem_singleton] at hc
    exact hc.elim Nat.le_of_eq fun e => Nat.le_of_lt (e ▸ hlt)
  · have hold : ∀ c o, s.heap.get? c = some o → h'.get? c = some o := fun c o e =>
      hk c o (by rw [List.mem_singleton]; exact Nat.ne_of_lt (Heap.lt_size e)) (Heap.get?_push_of_some _ e)
    have hP' : (intItems #[(x, t), (y, u)])[argBest (fun i j => bt (numAt #[(x, t), (y, u)] i) (numAt #[(x, t), (y, u)] j)) 1]? = some v := by
      have hsz2 : (intItems #[(x, t), (y, u)]).size - 1 = 1 := by simp [intItems]
      rw [← hsz2]; exact hP
    cases hb : bt y x with
    | true =>
      have e : argBest (fun i j => bt (numAt #[(x, t), (y, u)] i) (numAt #[(x, t), (y, u)] j)) 1 = 1 := by simp [argBest, numAt, hb]
      rw [e] at hP'
      have hv : v = .int y u := by simpa [intItems] using hP'.symm
      have := h h' tk u hold
      rw [hb] at this
      rw [hv]; exact this
    | false =>
      have e : argBest (fun i j => bt (numAt #[(x, t), (y, u)] i) (numAt #[(x, t), (y, u)] j)) 1 = 0 := by simp [argBest, numAt, hb]
      rw [e] at hP'
      have hv : v = .int x t := by simpa [intItems] using hP'.symm
      have := h h' tk t hold
      rw [hb] at this
      rw [hv]; exact this
theorem tup_ints {h : Heap} {x y : Int} {t u : Tok} (hT : IsTup h q [.int x t, .int y u].toArray) : h.IsTuple q (intItems #[(x, t), (y, u)]) := by
  obtain ⟨o, ho, hc, n, hd⟩ := hT
  exact ⟨o, ho, hc, n, by rw [hd]; simp [intItems]⟩
theorem min_tupI {x y : Int} {t u : Tok} (hh : A.handled = none) (F : Fr h₀ L s.heap m) (N : News h₀ L s.heap news) (hT : IsTup s.heap q [.int x t, .int y u].toArray)
    (h : ∀ h' tk t', Fr h₀ L h' m → News h₀ L h' news → Q (.int (min x y) t') { s with heap := h', toks := tk }) : wpAny (model prog w) A (call (.builtin "min") [.ref q]) Q E s :=
  call_min_walk (tup2_walk (x := x) (y := y) (t := t) (u := u) hh (tup_ints hT) (fun a b => decide (a < b)) (CmpOf.ints_lt (numAt #[(x, t), (y, u)]) (fun _ _ => intItems_at)) fun h' tk t' hk => by
    have := h h' tk t' (F.grownK hk) (N.grown hk)
    have e : (if decide (y < x) = true then y else x) = min x y := by
      by_cases hxy : y < x
      · rw [if_pos (decide_eq_true hxy), Int.min_eq_right (Int.le_of_lt hxy)]
      · rw [if_neg (fun z => hxy (of_decide_eq_true z)), Int.min_eq_left (Int.not_lt.mp hxy)]
    rw [e]; exact this)
theorem max_tupI {x y : Int} {t u : Tok} (hh : A.handled = none) (F : Fr h₀ L s.heap m) (N : News h₀ L s.heap news) (hT : IsTup s.heap q [.int x t, .int y u].toArray)
    (h : ∀ h' tk t', Fr h₀ L h' m → News h₀ L h' news → Q (.int (max x y) t') { s with heap := h', toks := tk }) : wpAny (model prog w) A (call (.builtin "max") [.ref q]) Q E s :=
  call_max_walk (tup2_walk (x := x) (y := y) (t := t) (u := u) hh (tup_ints hT) (fun a b => decide (a > b)) (CmpOf.ints_gt (numAt #[(x, t), (y, u)]) (fun _ _ => intItems_at)) fun h' tk t' hk => by
    have := h h' tk t' (F.grownK hk) (N.grown hk)
    have e : (if decide (y > x) = true then y else x) = max x y := by
      by_cases hxy : y > x
      · rw [if_pos (decide_eq_true hxy), Int.max_eq_right (Int.le_of_lt hxy)]
      · rw [if_neg (fun z => hxy (of_decide_eq_true z)), Int.max_eq_left (Int.not_lt.mp hxy)]
    rw [e]; exact this)
end
end
section
section
variable {prog : Program} {w : World} {A : Around} {E : Value → Shared → Prop} {s : Shared} {env : Env} {h₀ : Heap} {x : Str} {body : List Stmt} {Q : Flow → Shared → Prop}
/-- a loop over a range, by what holds ahead of each turn -/
theorem range_inv {I : Addr} {a : Int} {n : Nat} (Inv : Nat → (Str → Option Value) → List (Addr × Obj) → Prop)
    (turn : ∀ i m news t h tk, i < n → Inv i m news → Fr h₀ env.locals h (fun y => if y = x then some (.int (a + (i : Int)) t) else m y) →
      News h₀ env.locals h ((I, itR (a + ((i + 1 : Nat) : Int)) ((n : Int) - ((i + 1 : Nat) : Int))) :: news) →
      wpAny (model prog w) A (execs body env) (UnrPost h₀ env.locals { s with heap := h, toks := tk } I (itR (a + ((i + 1 : Nat) : Int)) ((n : Int) - ((i + 1 : Nat) : Int))) (Inv (i + 1)) Q) E { s with heap := h, toks := tk })
    (done : ∀ m news h tk, Inv n m news → Fr h₀ env.locals h m → News h₀ env.locals h news → Q .next { s with heap := h, toks := tk }) :
    ∀ k i m news, k + i = n → Inv i m news → RangeRest prog w A E h₀ env x body Q s I a n k i m news
  | 0, i, m, news, e, hI => RangeRest.zero fun h tk F N => done m news h tk (by rw [Nat.zero_add] at e; exact e ▸ hI) F N
  | k + 1, i, m, news, e, hI => RangeRest.succ fun t h tk F N => by
    refine wpAny_mono (turn i m news t h tk (by omega) hI F N) (fun f s₂ p => ?_) fun _ _ y => y
    have up : UnrEnd h₀ env.locals { s with heap := h, toks := tk } I (itR (a + ((i + 1 : Nat) : Int)) ((n : Int) - ((i + 1 : Nat) : Int))) (Inv (i + 1)) s₂ →
        UnrEnd h₀ env.locals { s with heap := h, toks := tk } I (itR (a + ((i + 1 : Nat) : Int)) ((n : Int) - ((i + 1 : Nat) : Int))) (RangeRest prog w A E h₀ env x body Q s I a n k (i + 1)) s₂ := by
      rintro ⟨h', tk', m', news', e', F', N', ho, hJ⟩
      exact ⟨h', tk', m', news', e', F', N', ho, range_inv Inv turn done k (i + 1) m' news' (by omega) hJ⟩
    cases f with
    | ret v => exact p
    | brk => exact p
    | next => exact up p
    | cont => exact up p
end
theorem led_apart {h₀ h : Heap} {L I : Addr} {it : Obj} {news : List (Addr × Obj)} (N : News h₀ L h ((I, it) :: news)) (hc : ∀ p ∈ news, p.2.cls ≠ it.cls) : ∀ p ∈ news, p.1 ≠ I := fun p hp e => by
  have h1 := (N p (.tail _ hp)).1
  have h2 := (N (I, it) (.head _)).1
  rw [e] at h1
  exact hc p hp (congrArg Obj.cls (Option.some.inj (h1.symm.trans h2)))
theorem unrEnd_ {h₀ : Heap} {L I : Addr} {it : Obj} {rest : (Str → Option Value) → List (Addr × Obj) → Prop} {s₁ : Shared} {h' : Heap} {tk : Nat} {m' : Str → Option Value} {all : List (Addr × Obj)} (F : Fr h₀ L h' m') (N : News h₀ L h' all) (news' : List (Addr × Obj))
    (sub : ∀ p ∈ (I, it) :: news', p ∈ all) (hc : ∀ p ∈ news', p.2.cls ≠ it.cls) (r : rest m' news') : UnrEnd h₀ L s₁ I it rest { s₁ with heap := h', toks := tk } :=
  UnrEnd.intro F N news' sub (led_apart (news_sub N sub) hc) r
/-- the ends of a walk by letters: the walk copies them at every step -/
theorem wpAny_cut {M : Model} {A : Around} {α : Type} {t : Sem α} {Q : α → Shared → Prop} {E : Value → Shared → Prop} {s : Shared}
    (h : ∀ (Q' : α → Shared → Prop) (E' : Value → Shared → Prop), (∀ v s', Q v s' → Q' v s') → wpAny M A t Q' E' s) : wpAny M A t Q E s := h Q E fun _ _ x => x
end
section
section
variable {prog : Program} {w : World} {A : Around} {E : Value → Shared → Prop} {s : Shared} {a b : Nat} {t u : Tok} {Q : Value → Shared → Prop}
theorem bitAnd_nat (a b : Nat) : Builtin.bitAnd (a : Int) (b : Int) = ((a &&& b : Nat) : Int) := rfl
theorem bitOr_nat (a b : Nat) : Builtin.bitOr (a : Int) (b : Int) = ((a ||| b : Nat) : Int) := by
  have e3 : (-(-(a : Int) - 1) - 1).toNat = a := by omega
  have e4 : (-(-(b : Int) - 1) - 1).toNat = b := by omega
  have e5 : ∀ z : Int, -(-z - 1) - 1 = z := fun z => by omega
  have key : Builtin.bitAnd (Builtin.bitNot a) (Builtin.bitNot b) = Builtin.bitNot (((Builtin.bitNot (Builtin.bitNot a)).toNat ||| (Builtin.bitNot (Builtin.bitNot b)).toNat : Nat) : Int) := by
    unfold Builtin.bitAnd
    split
    · rename_i h1 h2; rw [decide_eq_true_eq] at h1; unfold Builtin.bitNot at h1; omega
    · rename_i h1 h2; rw [decide_eq_true_eq] at h1; unfold Builtin.bitNot at h1; omega
    · rename_i h1 h2; rw [decide_eq_true_eq] at h2; unfold Builtin.bitNot at h2; omega
    · rfl
  unfold Builtin.bitOr
  rw [key]
  unfold Builtin.bitNot
  rw [e3, e4]
  exact e5 _
theorem nat_and (h : ∀ t tk, Q (.int ((a &&& b : Nat) : Int) t) { s with toks := tk }) : wpAny (model prog w) A (binaryOp .BitAnd (.int (a : Int) t) (.int (b : Int) u)) Q E s := and_int (h _ _)
theorem nat_or (h : ∀ t tk, Q (.int ((a ||| b : Nat) : Int) t) { s with toks := tk }) : wpAny (model prog w) A (binaryOp .BitOr (.int (a : Int) t) (.int (b : Int) u)) Q E s := by
  refine or_int ?_
  rw [bitOr_nat]; exact h _ _
theorem nat_shl {k : Int} {n : Nat} (hk : k = (n : Int)) (hn : n ≤ 1000) (ha : a < 2 ^ 60) (h : ∀ t tk, Q (.int ((a <<< n : Nat) : Int) t) { s with toks := tk }) : wpAny (model prog w) A (binaryOp .LShift (.int (a : Int) t) (.int k u)) Q E s := by
  subst hk
  refine lshift_int_small (by omega) (by omega) (by omega) ?_
  have e : (a : Int) * 2 ^ (n : Int).toNat = ((a <<< n : Nat) : Int) := by rw [Nat.shiftLeft_eq]; simp
  rw [e]; exact h _ _
theorem nat_shr {k : Int} {n : Nat} (hk : k = (n : Int)) (h : ∀ t tk, Q (.int ((a >>> n : Nat) : Int) t) { s with toks := tk }) : wpAny (model prog w) A (binaryOp .RShift (.int (a : Int) t) (.int k u)) Q E s := by
  subst hk
  refine rshift_int (by omega) ?_
  have e : (a : Int).fdiv (2 ^ (n : Int).toNat) = ((a >>> n : Nat) : Int) := by
    rw [Nat.shiftRight_eq_div_pow, Int.toNat_natCast, Int.fdiv_eq_ediv_of_nonneg _ (by exact_mod_cast Nat.zero_le _)]
    exact_mod_cast rfl
  rw [e]; exact h _ _
end
theorem one_nat : (1 : Int) = ((1 : Nat) : Int) := rfl
theorem succ_nat (n : Nat) : (n : Int) + 1 = ((n + 1 : Nat) : Int) := rfl
end
section
section
variable {prog : Program} {w : World} {A₀ A : Around} {s : Shared} {base h₀ : Heap} {outer : List Env} {L : Addr} {m : Str → Option Value} {env : Env} {mu still : List (Addr × Obj)}
  {R : Result → Shared → Prop} {name qual : Str} {params : Arguments} {body : List Stmt} {scope : Scope} {cl : List (Str × Addr)} {dV kV doc pm cdv ct oc : Value} {an od : Option Addr} {osl : Array (Option Value)} {f : Addr} {vals : List Value}
  {p : Program} {loose : List Str} {mean : ExcName → Option Value} {mg mb : Str → Option Value} {K : Frag}
/-- a made function is entered -/
theorem enter_fn (B : Below A₀ base outer h₀) (F : Fr h₀ L s.heap m) (X₀ : K.In h₀) (N : News h₀ L s.heap (mu ++ still)) (hap : ∀ p ∈ still, ∀ q ∈ mu, p.1 ≠ q.1) (T : Top p loose mean mg mb h₀) (hA : A.frames = some (env :: outer)) (hf : env.frame = some L) (hke : env.scope.kind = .function)
    (ho : s.heap.get? f = some ⟨oc, od, .func (fnX name qual params body scope cl dV kV doc pm an cdv ct), osl⟩) (hcd : s.heap.CodeRec cdv qual) (hroom : A.depth < recursionLimit)
    (hbind : BindsTo s (fnX name qual params body scope cl dV kV doc pm an cdv ct) ⟨vals, []⟩ ((params.args.map (·.arg)).zip vals)) (hloc : ∀ y ∈ (params.args.map (·.arg)).zip vals, scope.names.lookup y.1 = some .local)
    (h : ∀ g L' h₁ tk, Fr h₀ L g m → Fr g L' h₁ (withB (fun _ => none) ((params.args.map (·.arg)).zip vals).reverse) → News g L' h₁ mu → Below A base (env :: outer) g → K.In g → Top p loose mean mg mb g → h₀.StaysIn g → (∀ p ∈ still, g.get? p.1 = some p.2) → (∀ p ∈ mu, p.1 < L') →
      wpAny (model prog w) (A.deeper (envX qual scope L' f cdv cl)) (execs body (envX qual scope L' f cdv cl))
        (fun fl s' => LeaveS h₀ L m g still R (match fl with | .ret v => v | _ => .none) s')
        (fun e s' => wpAny (model prog w) (A.deeper (envX qual scope L' f cdv cl)) (leaving (envX qual scope L' f cdv cl) e) (fun _ s'' => R (.error e) s'') (fun e' s'' => R (.error e') s'') s')
        { s with heap := h₁, toks := tk })
    (hco : scope.isCoroutine = false) (hgen : scope.isGenerator = false) (hk : scope.kind = .function)
    (hcell : ∀ x ∈ scope.names, x.2 ≠ .cell) : codeAny (model prog w) A (.call (.ref f) ⟨vals, []⟩) R s :=
  callX_plain (cl := cl) B F N T.nolimit hA hf hke ho rfl hcd hroom hbind hloc (fun g L' h₁ FG F₁ N₁ BG _ lt => by
    obtain ⟨g', FG', F₁', N', B', stl, lv⟩ := still_ground (cells := []) hap FG F₁ N₁ (fun _ hp => nomatch hp) BG lt
    exact wpAny_mono (h g' L' h₁ _ FG' (by rw [← lookup_withB]; exact F₁') N' B' (X₀.keeps FG'.keep) (T.keeps FG'.keep) FG'.keep stl fun p hp => lt p (List.mem_append_left _ hp)) (fun fl s' x => lv R _ _ x) fun _ _ y => y) hcell hco hgen hk
theorem enter_fnQ (B : Below A₀ base outer h₀) (F : Fr h₀ L s.heap m) (X₀ : K.In h₀) (N : News h₀ L s.heap (mu ++ still)) (hap : ∀ p ∈ still, ∀ q ∈ mu, p.1 ≠ q.1) (T : Top p loose mean mg mb h₀) (hA : A.frames = some (env :: outer)) (hf : env.frame = some L) (hke : env.scope.kind = .function)
    (ho : s.heap.get? f = some ⟨oc, od, .func (fnX name qual params body scope cl dV kV doc pm an cdv ct), osl⟩) (hcd : s.heap.CodeRec cdv qual) (hroom : A.depth < recursionLimit)
    (hbind : BindsTo s (fnX name qual params body scope cl dV kV doc pm an cdv ct) ⟨vals, []⟩ ((params.args.map (·.arg)).zip vals)) (hloc : ∀ y ∈ (params.args.map (·.arg)).zip vals, scope.names.lookup y.1 = some .local)
    (h : ∀ g L' h₁ tk, Fr h₀ L g m → Fr g L' h₁ (withB (fun _ => none) ((params.args.map (·.arg)).zip vals).reverse) → News g L' h₁ mu → Below A base (env :: outer) g → K.In g → Top p loose mean mg mb g → h₀.StaysIn g → (∀ p ∈ still, g.get? p.1 = some p.2) → (∀ p ∈ mu, p.1 < L') → ∀ Q E' : Value → Shared → Prop, (∀ v s', LeaveS h₀ L m g still R v s' → Q v s') →
      wpAny (model prog w) (A.deeper (envX qual scope L' f cdv cl)) (execs body (envX qual scope L' f cdv cl))
        (fun fl s' => Q (match fl with | .ret v => v | _ => .none) s')
        E'
        { s with heap := h₁, toks := tk })
    (hco : scope.isCoroutine = false) (hgen : scope.isGenerator = false) (hk : scope.kind = .function)
    (hcell : ∀ x ∈ scope.names, x.2 ≠ .cell) : codeAny (model prog w) A (.call (.ref f) ⟨vals, []⟩) R s :=
  enter_fn B F X₀ N hap T hA hf hke ho hcd hroom hbind hloc (fun g L' h₁ tk FG F' N' B' X T' st stl l => h g L' h₁ tk FG F' N' B' X T' st stl l _ _ fun _ _ x => x) hco hgen hk hcell
end
/-- a cell and what it holds -/
noncomputable def CellAt (g : Heap) (c : Addr) (v : Value) : Prop := ∃ o, g.get? c = some o ∧ o.data = .cell (some v)
section
variable {M : Model} {A : Around} {E : Value → Shared → Prop} {s : Shared} {h₀ : Heap} {L a : Addr} {m : Str → Option Value} {cn : Str} {cs : Scope} {ccd : Value} {cl : List (Str × Addr)}
  {x : Str} {v : Value} {Q : Value → Shared → Prop} {c : Addr} {pos : Pos}
theorem nameX_G (hx : (envX cn cs L a ccd cl).kindOf x = some .free) (F : Fr h₀ L s.heap m) (hc : cl.lookup x = some c) (hg : CellAt h₀ c v) (h : Q v s)
    (hk : cs.kind = .function := by rfl) (hb : (x == ("__debug__" : Str)) = false := by decide) (hn : (x == ("__classdict__" : Str)) = false := by decide) :
    wpAny M A (eval (.Name x pos) (envX cn cs L a ccd cl)) Q E s := by
  obtain ⟨o, ho, hd⟩ := hg
  exact wpAny_Name (wpAny_loadName_free hk hx hc ⟨o, F.keep _ _ ho, hd⟩ h hn) hb
theorem CellAt.keeps {g g' : Heap} (H : CellAt g c v) (st : g.StaysIn g') : CellAt g' c v := let ⟨o, ho, hd⟩ := H; ⟨o, st _ _ ho, hd⟩
end
theorem hide_obj {o : Obj} {h : Heap} {f : Addr} (hf : h.get? f = some o) : ∃ oF, oF = o ∧ h.get? f = some oF := ⟨o, rfl, hf⟩
theorem mid_of {L R : Nat} : (((L : Int) + (R : Int)).fdiv (2 ^ Int.toNat 1)) = (((L + R) / 2 : Nat) : Int) := by
  show ((L : Int) + (R : Int)).fdiv 2 = _
  rw [Int.fdiv_eq_ediv_of_nonneg _ (by decide)]; rfl
theorem cut_in {I G : Prop} (main : I → G) (c : I) : G := main c
theorem FnG {h₀ h : Heap} {L q : Addr} {m : Str → Option Value} (F : Fr h₀ L h m) (H : FnAt q h₀) : FnAt q h := let ⟨oc, od, fd, sl, e⟩ := H; ⟨oc, od, fd, sl, F.keep _ _ e⟩
theorem mid_of2 {L d : Nat} : (((L : Int) + ((L + d : Nat) : Int)).fdiv (2 ^ Int.toNat 1)) = ((L + d / 2 : Nat) : Int) := by rw [mid_of, ← Nat.add_assoc, ← Nat.two_mul, Nat.mul_add_div (by decide)]
end
local macro_rules | `(tactic| walk_at "hx_steps") => `(tactic| repeat' (first | (k_unfold; (try dsimp only)) | (walk1; (try dsimp only)) | (dsimp only; walk1) | fail "no step"))
local macro_rules | `(tactic| walk_at $s:str) => if ["LeaveS", "binaryOp Div int int", "binaryOp Div int float", "binaryOp Div float int", "binaryOp Sub float int", "binaryOp Mult float int", "binaryOp Sub float float", "binaryOp Add float float", "binaryOp Mult float float", "binaryOp Div float float", "binaryOp Mod float float", "compareOp LtE float float", "compareOp Eq float float"].contains s.getString then `(tactic| refine hold_in ?_) else Lean.Macro.throwUnsupported
local macro_rules | `(tactic| walk_at "hx_01") => `(tactic| first | exact (show _ = (0 : Int) by decide) | exact (show _ = (1 : Int) by decide) | exact (show _ = (-1 : Int) by decide))
local macro_rules | `(tactic| walk_at "call builtin:max") => `(tactic| (k_dflt (refine' max3_lit ?k1 ?k2 ?k3 ?k4 ?_; (case k1 => rfl); (case k2 => k_asm); (case k3 => k_asm); (case k4 => walk_at "hx_01"); intro h' tk' t' F' N')))
local macro_rules | `(tactic| walk_at "call builtin:min") => `(tactic| (k_dflt (refine' min3_lit ?k1 ?k2 ?k3 ?k4 ?_; (case k1 => rfl); (case k2 => k_asm); (case k3 => k_asm); (case k4 => walk_at "hx_01"); intro h' tk' t' F' N')))
local macro_rules | `(tactic| walk_at "call type:int") => `(tactic| ((with_reducible show wpAny _ _ (call _ [Value.float _ _]) _ _ _); refine hold_in ?_))
local macro_rules | `(tactic| walk_at "call builtin:round") => `(tactic| ((with_reducible show wpAny _ _ (call _ [Value.float _ _]) _ _ _); refine hold_in ?_))
section
theorem off_A20_isred : True := by (w_top off); first | walk1 | trivial
noncomputable def isRed (n : Int) (bs : List Int) (x y : Int) : Bool := if x < 0 ∨ n ≤ x then true else if y < 0 ∨ n ≤ y then false else bs.getD (x + (n + 1) * y).toNat 0 == 1
theorem isred_place {n x y : Int} {bs : List Int} (hlen : bs.length = (n * (n + 1)).toNat) (hn4 : n ≤ 4) (h1 : ¬ x < 0) (h2 : ¬ n ≤ x) (h3 : ¬ y < 0) (h4 : ¬ n ≤ y) :
    0 ≤ x + (n + 1) * y ∧ x + (n + 1) * y < 2 ^ 63 ∧ (x + (n + 1) * y).toNat < bs.length := by
  obtain ⟨a, rfl⟩ : ∃ a : Nat, x = a := ⟨x.toNat, by omega⟩
  obtain ⟨b, rfl⟩ : ∃ b : Nat, y = b := ⟨y.toNat, by omega⟩
  obtain ⟨N, rfl⟩ : ∃ N : Nat, n = N := ⟨n.toNat, by omega⟩
  have e1 : (a : Int) + ((N : Int) + 1) * (b : Int) = ((a + (N + 1) * b : Nat) : Int) := by push_cast; rfl
  have e2 : (N : Int) * ((N : Int) + 1) = ((N * (N + 1) : Nat) : Int) := by push_cast; rfl
  rw [e1, hlen, e2, Int.toNat_natCast, Int.toNat_natCast]
  have hb : b + 1 ≤ N := by omega
  have hN : N ≤ 4 := by omega
  have h5 : (N + 1) * (b + 1) ≤ (N + 1) * N := Nat.mul_le_mul_left _ hb
  have h6 : N * (N + 1) ≤ 4 * 5 := Nat.mul_le_mul hN (by omega)
  rw [Nat.mul_succ, Nat.mul_comm (N + 1) N] at h5
  have hlt : a + (N + 1) * b < N * (N + 1) := by clear e1 e2 h6; omega
  exact ⟨Int.natCast_nonneg _, by clear e1 e2 h5; omega, hlt⟩
set_option maxHeartbeats 4000000 in
theorem does_isred {w : World} {p : Program} {loose : List Str} {mean : ExcName → Option Value} {mg mb : Str → Option Value} {n x y : Int} {tx ty tn : Tok} {lb : Addr} {bv : List Value} {bs : List Int}
    (hints : IntsAre bv bs) (hlen : bs.length = (n * (n + 1)).toNat) (hn4 : n ≤ 4) :
    Does w p loose mean mg mb 1 8 (fun g => g.IsList lb bv.toArray) (.ref 144) [.int x tx, .int y ty, .int n tn, .ref lb] [] (fun v mu' => v = .bool (isRed n bs x y) ∧ mu' = []) := by
  intro dp un gd cn cs a ccd cl outer A₀ base h₀ L m s Q E still hB hF hX hN hap hT hk hP hdp hun hret
  ((have hfill := hd_kept; (have : hd_kept = hd_kept := by (revert hfill; k_fill; intro _; rfl)); clear this hfill))
  ((refine wpAny_call ?_; k_dflt (refine' enter_topQ ?k1 ?k2 ?k3 ?k4 ?k4a ?k5 ?kA ?kF ?kK ?k6 ?k7 ?k8 ?k9 ?kB ?_ ?c2 ?c3 ?c4 ?c5; (case kA => exact rfl); (case kF => exact rfl); (case kK => first | exact rfl | assumption); (case k1 => k_asm); (case k2 => k_asm); (case k3 => k_asm); (case k4 => k_asm); (case k4a => k_asm); (case k5 => k_asm); (case k6 => k_is); (case k7 => k_is); (case k8 => ktr_room); (case k9 => exact BindsTo.of_eq (by rfl)); (case c5 => decide); (case kB => exact locs rfl); (case c2 => exact rfl); (case c3 => exact rfl); (case c4 => exact rfl); k_whole; intro g8' L8' h8' tk8' FG8' F8' N8' B8' X8' T8' st8' stl8' l8' Q8' E8' hQ8'; (dsimp only [List.map, List.zip, List.zipWith, List.reverse, List.reverseAux, withB] at F8'); (try dsimp only); (try k_lift B8'); (try k_fold))))
  have hb := hP _ (by assumption) (by assumption)
  walk_at "hx_steps"
  · (((first | refine hQ8' _ _ ?_ | refine hold_out ?_); refine' leaveS_ ?hxF ?hxN ?_; (case hxF => k_asm); (case hxN => k_asm); intro kF kN kD; (rename ∀ (v : Value) (mu' : List (Addr × Obj)) (h' : Heap) (tk' : Nat), _ → _ → _ → _ → _ => hxR); refine hxR _ _ _ _ kF kN kD ?_; clear hxR; try dsimp only)); exact ⟨congrArg _ (by unfold isRed; rw [if_pos (.inl (by assumption))]), rfl⟩
  · (((first | refine hQ8' _ _ ?_ | refine hold_out ?_); refine' leaveS_ ?hxF ?hxN ?_; (case hxF => k_asm); (case hxN => k_asm); intro kF kN kD; (rename ∀ (v : Value) (mu' : List (Addr × Obj)) (h' : Heap) (tk' : Nat), _ → _ → _ → _ → _ => hxR); refine hxR _ _ _ _ kF kN kD ?_; clear hxR; try dsimp only)); exact ⟨congrArg _ (by unfold isRed; rw [if_pos (.inr (by assumption))]), rfl⟩
  · (((first | refine hQ8' _ _ ?_ | refine hold_out ?_); refine' leaveS_ ?hxF ?hxN ?_; (case hxF => k_asm); (case hxN => k_asm); intro kF kN kD; (rename ∀ (v : Value) (mu' : List (Addr × Obj)) (h' : Heap) (tk' : Nat), _ → _ → _ → _ → _ => hxR); refine hxR _ _ _ _ kF kN kD ?_; clear hxR; try dsimp only)); exact ⟨congrArg _ (by unfold isRed; rw [if_neg (by omega), if_pos (.inl (by assumption))]), rfl⟩
  · (((first | refine hQ8' _ _ ?_ | refine hold_out ?_); refine' leaveS_ ?hxF ?hxN ?_; (case hxF => k_asm); (case hxN => k_asm); intro kF kN kD; (rename ∀ (v : Value) (mu' : List (Addr × Obj)) (h' : Heap) (tk' : Nat), _ → _ → _ → _ → _ => hxR); refine hxR _ _ _ _ kF kN kD ?_; clear hxR; try dsimp only)); exact ⟨congrArg _ (by unfold isRed; rw [if_neg (by omega), if_pos (.inr (by assumption))]), rfl⟩
  · obtain ⟨q1, q2, q3⟩ := isred_place (x := x) (y := y) hlen hn4 (by assumption) (by assumption) (by assumption) (by assumption)
    have q4 : bs[(x + (n + 1) * y).toNat]? = some (bs.getD (x + (n + 1) * y).toNat 0) := by rw [List.getD_eq_getElem?_getD, List.getElem?_eq_getElem q3]; rfl
    obtain ⟨t, ht⟩ := hints.get _ _ q4
    k_dflt (refine item_at (hb.at fun o e => Fr.keep (by k_asm) _ o e) q1 q2 (by simpa using ht) ?_)
    walk_at "hx_steps"
    (((first | refine hQ8' _ _ ?_ | refine hold_out ?_); refine' leaveS_ ?hxF ?hxN ?_; (case hxF => k_asm); (case hxN => k_asm); intro kF kN kD; (rename ∀ (v : Value) (mu' : List (Addr × Obj)) (h' : Heap) (tk' : Nat), _ → _ → _ → _ → _ => hxR); refine hxR _ _ _ _ kF kN kD ?_; clear hxR; try dsimp only))
    refine ⟨congrArg _ ?_, rfl⟩
    unfold isRed; rw [if_neg (by omega), if_neg (by omega), List.getD_eq_getElem?_getD]
end
section
theorem off_A22_rgb : True := by (w_top off); first | walk1 | trivial
noncomputable abbrev tupF (x y z : UInt64) (t u v : Tok) : Obj := { cls := .type "tuple", data := .seq #[.float x t, .float y u, .float z v] }
set_option maxHeartbeats 4000000 in
theorem does_rgb0 {w : World} {p : Program} {loose : List Str} {mean : ExcName → Option Value} {mg mb : Str → Option Value} {t1 t2 t3 : Tok} :
    Does w p loose mean mg mb 1 8 NoPre (.ref 38) [.int 1 t1, .int 0 t2, .int 0 t3] [] (fun v mu' => ∃ q t u x, v = .ref q ∧ mu' = [(q, tupF 0x0000000000000000 0x3fe0000000000000 0x3ff0000000000000 t u x)]) := by
  intro dp un gd cn cs a ccd cl outer A₀ base h₀ L m s Q E still hB hF hX hN hap hT hk hP hdp hun hret
  ((have hfill := hd_kept; (have : hd_kept = hd_kept := by (revert hfill; k_fill; intro _; rfl)); clear this hfill))
  ((refine wpAny_call ?_; k_dflt (refine' enter_topQ ?k1 ?k2 ?k3 ?k4 ?k4a ?k5 ?kA ?kF ?kK ?k6 ?k7 ?k8 ?k9 ?kB ?_ ?c2 ?c3 ?c4 ?c5; (case kA => exact rfl); (case kF => exact rfl); (case kK => first | exact rfl | assumption); (case k1 => k_asm); (case k2 => k_asm); (case k3 => k_asm); (case k4 => k_asm); (case k4a => k_asm); (case k5 => k_asm); (case k6 => k_is); (case k7 => k_is); (case k8 => ktr_room); (case k9 => exact BindsTo.of_eq (by rfl)); (case c5 => decide); (case kB => exact locs rfl); (case c2 => exact rfl); (case c3 => exact rfl); (case c4 => exact rfl); k_whole; intro g8' L8' h8' tk8' FG8' F8' N8' B8' X8' T8' st8' stl8' l8' Q8' E8' hQ8'; (dsimp only [List.map, List.zip, List.zipWith, List.reverse, List.reverseAux, withB] at F8'); (try dsimp only); (try k_lift B8'); (try k_fold))))
  walk_at "hx_steps"
  refine hold_out ?_; (with_reducible refine' fl_div_if (z := 0x3fe0000000000000) ?k0 ?k1 ?k2 ?k3 ?_); (case k0 => exact rfl); (case k1 => decide); (case k2 => decide +kernel); (case k3 => decide +kernel); intro t1 tk1; try dsimp only
  walk_at "hx_steps"
  refine hold_out ?_; (with_reducible refine' fl_le (B := true) ?k0 ?_); (case k0 => decide +kernel); skip
  walk_at "hx_steps"
  refine hold_out ?_; (with_reducible refine' fl_div_ii (z := 0x3ff0000000000000) ?k0 ?k1 ?k2 ?k3 ?_); (case k0 => exact rfl); (case k1 => decide); (case k2 => decide); (case k3 => decide +kernel); intro t1 tk1; try dsimp only
  walk_at "hx_steps"
  refine hold_out ?_; (with_reducible refine' fl_div_ii (z := 0x0000000000000000) ?k0 ?k1 ?k2 ?k3 ?_); (case k0 => exact rfl); (case k1 => decide); (case k2 => decide); (case k3 => decide +kernel); intro t1 tk1; try dsimp only
  walk_at "hx_steps"
  refine hold_out ?_; (with_reducible refine' fl_div_ii (z := 0x3ff0000000000000) ?k0 ?k1 ?k2 ?k3 ?_); (case k0 => exact rfl); (case k1 => decide); (case k2 => decide); (case k3 => decide +kernel); intro t1 tk1; try dsimp only
  walk_at "hx_steps"
  refine hold_out ?_; (with_reducible refine' fl_div_ii (z := 0x3ff0000000000000) ?k0 ?k1 ?k2 ?k3 ?_); (case k0 => exact rfl); (case k1 => decide); (case k2 => decide); (case k3 => decide +kernel); intro t1 tk1; try dsimp only
  walk_at "hx_steps"
  refine hold_out ?_; (with_reducible refine' fl_sub (z := 0x0000000000000000) ?k0 ?_); (case k0 => decide +kernel); intro t1 tk1; try dsimp only
  walk_at "hx_steps"
  refine hold_out ?_; (with_reducible refine' fl_div (z := 0x0000000000000000) ?k0 ?k1 ?k2 ?_); (case k0 => exact rfl); (case k1 => decide +kernel); (case k2 => decide +kernel); intro t1 tk1; try dsimp only
  walk_at "hx_steps"
  refine hold_out ?_; (with_reducible refine' fl_mod (z := 0x0000000000000000) ?k0 ?k1 ?k2 ?_); (case k0 => exact rfl); (case k1 => decide +kernel); (case k2 => decide +kernel); intro t1 tk1; try dsimp only
  walk_at "hx_steps"
  (((first | refine hQ8' _ _ ?_ | refine hold_out ?_); refine' leaveS_ ?hxF ?hxN ?_; (case hxF => k_asm); (case hxN => k_asm); intro kF kN kD; (rename ∀ (v : Value) (mu' : List (Addr × Obj)) (h' : Heap) (tk' : Nat), _ → _ → _ → _ → _ => hxR); refine hxR _ _ _ _ kF kN kD ?_; clear hxR; try dsimp only))
  exact ⟨_, _, _, _, rfl, rfl⟩
set_option maxHeartbeats 4000000 in
theorem does_rgb1 {w : World} {p : Program} {loose : List Str} {mean : ExcName → Option Value} {mg mb : Str → Option Value} {t1 t2 t3 : Tok} :
    Does w p loose mean mg mb 1 8 NoPre (.ref 38) [.int 1 t1, .int 1 t2, .int 0 t3] [] (fun v mu' => ∃ q t u x, v = .ref q ∧ mu' = [(q, tupF 0x3fc5555555555555 0x3fe0000000000000 0x3ff0000000000000 t u x)]) := by
  intro dp un gd cn cs a ccd cl outer A₀ base h₀ L m s Q E still hB hF hX hN hap hT hk hP hdp hun hret
  ((have hfill := hd_kept; (have : hd_kept = hd_kept := by (revert hfill; k_fill; intro _; rfl)); clear this hfill))
  ((refine wpAny_call ?_; k_dflt (refine' enter_topQ ?k1 ?k2 ?k3 ?k4 ?k4a ?k5 ?kA ?kF ?kK ?k6 ?k7 ?k8 ?k9 ?kB ?_ ?c2 ?c3 ?c4 ?c5; (case kA => exact rfl); (case kF => exact rfl); (case kK => first | exact rfl | assumption); (case k1 => k_asm); (case k2 => k_asm); (case k3 => k_asm); (case k4 => k_asm); (case k4a => k_asm); (case k5 => k_asm); (case k6 => k_is); (case k7 => k_is); (case k8 => ktr_room); (case k9 => exact BindsTo.of_eq (by rfl)); (case c5 => decide); (case kB => exact locs rfl); (case c2 => exact rfl); (case c3 => exact rfl); (case c4 => exact rfl); k_whole; intro g8' L8' h8' tk8' FG8' F8' N8' B8' X8' T8' st8' stl8' l8' Q8' E8' hQ8'; (dsimp only [List.map, List.zip, List.zipWith, List.reverse, List.reverseAux, withB] at F8'); (try dsimp only); (try k_lift B8'); (try k_fold))))
  walk_at "hx_steps"
  refine hold_out ?_; (with_reducible refine' fl_div_if (z := 0x3fe0000000000000) ?k0 ?k1 ?k2 ?k3 ?_); (case k0 => exact rfl); (case k1 => decide); (case k2 => decide +kernel); (case k3 => decide +kernel); intro t1 tk1; try dsimp only
  walk_at "hx_steps"
  refine hold_out ?_; (with_reducible refine' fl_le (B := true) ?k0 ?_); (case k0 => decide +kernel); skip
  walk_at "hx_steps"
  refine hold_out ?_; (with_reducible refine' fl_div_ii (z := 0x3ff0000000000000) ?k0 ?k1 ?k2 ?k3 ?_); (case k0 => exact rfl); (case k1 => decide); (case k2 => decide); (case k3 => decide +kernel); intro t1 tk1; try dsimp only
  walk_at "hx_steps"
  refine hold_out ?_; (with_reducible refine' fl_div_ii (z := 0x0000000000000000) ?k0 ?k1 ?k2 ?k3 ?_); (case k0 => exact rfl); (case k1 => decide); (case k2 => decide); (case k3 => decide +kernel); intro t1 tk1; try dsimp only
  walk_at "hx_steps"
  refine hold_out ?_; (with_reducible refine' fl_div_ii (z := 0x0000000000000000) ?k0 ?k1 ?k2 ?k3 ?_); (case k0 => exact rfl); (case k1 => decide); (case k2 => decide); (case k3 => decide +kernel); intro t1 tk1; try dsimp only
  walk_at "hx_steps"
  refine hold_out ?_; (with_reducible refine' fl_div_ii (z := 0x3ff0000000000000) ?k0 ?k1 ?k2 ?k3 ?_); (case k0 => exact rfl); (case k1 => decide); (case k2 => decide); (case k3 => decide +kernel); intro t1 tk1; try dsimp only
  walk_at "hx_steps"
  refine hold_out ?_; (with_reducible refine' fl_sub (z := 0x3ff0000000000000) ?k0 ?_); (case k0 => decide +kernel); intro t1 tk1; try dsimp only
  walk_at "hx_steps"
  refine hold_out ?_; (with_reducible refine' fl_div (z := 0x3fc5555555555555) ?k0 ?k1 ?k2 ?_); (case k0 => exact rfl); (case k1 => decide +kernel); (case k2 => decide +kernel); intro t1 tk1; try dsimp only
  walk_at "hx_steps"
  refine hold_out ?_; (with_reducible refine' fl_mod (z := 0x3fc5555555555555) ?k0 ?k1 ?k2 ?_); (case k0 => exact rfl); (case k1 => decide +kernel); (case k2 => decide +kernel); intro t1 tk1; try dsimp only
  walk_at "hx_steps"
  (((first | refine hQ8' _ _ ?_ | refine hold_out ?_); refine' leaveS_ ?hxF ?hxN ?_; (case hxF => k_asm); (case hxN => k_asm); intro kF kN kD; (rename ∀ (v : Value) (mu' : List (Addr × Obj)) (h' : Heap) (tk' : Nat), _ → _ → _ → _ → _ => hxR); refine hxR _ _ _ _ kF kN kD ?_; clear hxR; try dsimp only))
  exact ⟨_, _, _, _, rfl, rfl⟩
set_option maxHeartbeats 4000000 in
theorem does_rgb2 {w : World} {p : Program} {loose : List Str} {mean : ExcName → Option Value} {mg mb : Str → Option Value} {t1 t2 t3 : Tok} :
    Does w p loose mean mg mb 1 8 NoPre (.ref 38) [.int 0 t1, .int 1 t2, .int 0 t3] [] (fun v mu' => ∃ q t u x, v = .ref q ∧ mu' = [(q, tupF 0x3fd5555555555555 0x3fe0000000000000 0x3ff0000000000000 t u x)]) := by
  intro dp un gd cn cs a ccd cl outer A₀ base h₀ L m s Q E still hB hF hX hN hap hT hk hP hdp hun hret
  ((have hfill := hd_kept; (have : hd_kept = hd_kept := by (revert hfill; k_fill; intro _; rfl)); clear this hfill))
  ((refine wpAny_call ?_; k_dflt (refine' enter_topQ ?k1 ?k2 ?k3 ?k4 ?k4a ?k5 ?kA ?kF ?kK ?k6 ?k7 ?k8 ?k9 ?kB ?_ ?c2 ?c3 ?c4 ?c5; (case kA => exact rfl); (case kF => exact rfl); (case kK => first | exact rfl | assumption); (case k1 => k_asm); (case k2 => k_asm); (case k3 => k_asm); (case k4 => k_asm); (case k4a => k_asm); (case k5 => k_asm); (case k6 => k_is); (case k7 => k_is); (case k8 => ktr_room); (case k9 => exact BindsTo.of_eq (by rfl)); (case c5 => decide); (case kB => exact locs rfl); (case c2 => exact rfl); (case c3 => exact rfl); (case c4 => exact rfl); k_whole; intro g8' L8' h8' tk8' FG8' F8' N8' B8' X8' T8' st8' stl8' l8' Q8' E8' hQ8'; (dsimp only [List.map, List.zip, List.zipWith, List.reverse, List.reverseAux, withB] at F8'); (try dsimp only); (try k_lift B8'); (try k_fold))))
  walk_at "hx_steps"
  refine hold_out ?_; (with_reducible refine' fl_div_if (z := 0x3fe0000000000000) ?k0 ?k1 ?k2 ?k3 ?_); (case k0 => exact rfl); (case k1 => decide); (case k2 => decide +kernel); (case k3 => decide +kernel); intro t1 tk1; try dsimp only
  walk_at "hx_steps"
  refine hold_out ?_; (with_reducible refine' fl_le (B := true) ?k0 ?_); (case k0 => decide +kernel); skip
  walk_at "hx_steps"
  refine hold_out ?_; (with_reducible refine' fl_div_ii (z := 0x3ff0000000000000) ?k0 ?k1 ?k2 ?k3 ?_); (case k0 => exact rfl); (case k1 => decide); (case k2 => decide); (case k3 => decide +kernel); intro t1 tk1; try dsimp only
  walk_at "hx_steps"
  refine hold_out ?_; (with_reducible refine' fl_div_ii (z := 0x3ff0000000000000) ?k0 ?k1 ?k2 ?k3 ?_); (case k0 => exact rfl); (case k1 => decide); (case k2 => decide); (case k3 => decide +kernel); intro t1 tk1; try dsimp only
  walk_at "hx_steps"
  refine hold_out ?_; (with_reducible refine' fl_div_ii (z := 0x0000000000000000) ?k0 ?k1 ?k2 ?k3 ?_); (case k0 => exact rfl); (case k1 => decide); (case k2 => decide); (case k3 => decide +kernel); intro t1 tk1; try dsimp only
  walk_at "hx_steps"
  refine hold_out ?_; (with_reducible refine' fl_div_ii (z := 0x3ff0000000000000) ?k0 ?k1 ?k2 ?k3 ?_); (case k0 => exact rfl); (case k1 => decide); (case k2 => decide); (case k3 => decide +kernel); intro t1 tk1; try dsimp only
  walk_at "hx_steps"
  refine hold_out ?_; (with_reducible refine' fl_add (z := 0x4008000000000000) ?k0 ?_); (case k0 => decide +kernel); intro t1 tk1; try dsimp only
  walk_at "hx_steps"
  refine hold_out ?_; (with_reducible refine' fl_sub (z := 0x4000000000000000) ?k0 ?_); (case k0 => decide +kernel); intro t1 tk1; try dsimp only
  walk_at "hx_steps"
  refine hold_out ?_; (with_reducible refine' fl_div (z := 0x3fd5555555555555) ?k0 ?k1 ?k2 ?_); (case k0 => exact rfl); (case k1 => decide +kernel); (case k2 => decide +kernel); intro t1 tk1; try dsimp only
  walk_at "hx_steps"
  refine hold_out ?_; (with_reducible refine' fl_mod (z := 0x3fd5555555555555) ?k0 ?k1 ?k2 ?_); (case k0 => exact rfl); (case k1 => decide +kernel); (case k2 => decide +kernel); intro t1 tk1; try dsimp only
  walk_at "hx_steps"
  (((first | refine hQ8' _ _ ?_ | refine hold_out ?_); refine' leaveS_ ?hxF ?hxN ?_; (case hxF => k_asm); (case hxN => k_asm); intro kF kN kD; (rename ∀ (v : Value) (mu' : List (Addr × Obj)) (h' : Heap) (tk' : Nat), _ → _ → _ → _ → _ => hxR); refine hxR _ _ _ _ kF kN kD ?_; clear hxR; try dsimp only))
  exact ⟨_, _, _, _, rfl, rfl⟩
set_option maxHeartbeats 4000000 in
theorem does_rgb3 {w : World} {p : Program} {loose : List Str} {mean : ExcName → Option Value} {mg mb : Str → Option Value} {t1 t2 t3 : Tok} :
    Does w p loose mean mg mb 1 8 NoPre (.ref 38) [.int 0 t1, .int 1 t2, .int 1 t3] [] (fun v mu' => ∃ q t u x, v = .ref q ∧ mu' = [(q, tupF 0x3fe0000000000000 0x3fe0000000000000 0x3ff0000000000000 t u x)]) := by
  intro dp un gd cn cs a ccd cl outer A₀ base h₀ L m s Q E still hB hF hX hN hap hT hk hP hdp hun hret
  ((have hfill := hd_kept; (have : hd_kept = hd_kept := by (revert hfill; k_fill; intro _; rfl)); clear this hfill))
  ((refine wpAny_call ?_; k_dflt (refine' enter_topQ ?k1 ?k2 ?k3 ?k4 ?k4a ?k5 ?kA ?kF ?kK ?k6 ?k7 ?k8 ?k9 ?kB ?_ ?c2 ?c3 ?c4 ?c5; (case kA => exact rfl); (case kF => exact rfl); (case kK => first | exact rfl | assumption); (case k1 => k_asm); (case k2 => k_asm); (case k3 => k_asm); (case k4 => k_asm); (case k4a => k_asm); (case k5 => k_asm); (case k6 => k_is); (case k7 => k_is); (case k8 => ktr_room); (case k9 => exact BindsTo.of_eq (by rfl)); (case c5 => decide); (case kB => exact locs rfl); (case c2 => exact rfl); (case c3 => exact rfl); (case c4 => exact rfl); k_whole; intro g8' L8' h8' tk8' FG8' F8' N8' B8' X8' T8' st8' stl8' l8' Q8' E8' hQ8'; (dsimp only [List.map, List.zip, List.zipWith, List.reverse, List.reverseAux, withB] at F8'); (try dsimp only); (try k_lift B8'); (try k_fold))))
  walk_at "hx_steps"
  refine hold_out ?_; (with_reducible refine' fl_div_if (z := 0x3fe0000000000000) ?k0 ?k1 ?k2 ?k3 ?_); (case k0 => exact rfl); (case k1 => decide); (case k2 => decide +kernel); (case k3 => decide +kernel); intro t1 tk1; try dsimp only
  walk_at "hx_steps"
  refine hold_out ?_; (with_reducible refine' fl_le (B := true) ?k0 ?_); (case k0 => decide +kernel); skip
  walk_at "hx_steps"
  refine hold_out ?_; (with_reducible refine' fl_div_ii (z := 0x3ff0000000000000) ?k0 ?k1 ?k2 ?k3 ?_); (case k0 => exact rfl); (case k1 => decide); (case k2 => decide); (case k3 => decide +kernel); intro t1 tk1; try dsimp only
  walk_at "hx_steps"
  refine hold_out ?_; (with_reducible refine' fl_div_ii (z := 0x3ff0000000000000) ?k0 ?k1 ?k2 ?k3 ?_); (case k0 => exact rfl); (case k1 => decide); (case k2 => decide); (case k3 => decide +kernel); intro t1 tk1; try dsimp only
  walk_at "hx_steps"
  refine hold_out ?_; (with_reducible refine' fl_div_ii (z := 0x0000000000000000) ?k0 ?k1 ?k2 ?k3 ?_); (case k0 => exact rfl); (case k1 => decide); (case k2 => decide); (case k3 => decide +kernel); intro t1 tk1; try dsimp only
  walk_at "hx_steps"
  refine hold_out ?_; (with_reducible refine' fl_div_ii (z := 0x0000000000000000) ?k0 ?k1 ?k2 ?k3 ?_); (case k0 => exact rfl); (case k1 => decide); (case k2 => decide); (case k3 => decide +kernel); intro t1 tk1; try dsimp only
  walk_at "hx_steps"
  refine hold_out ?_; (with_reducible refine' fl_add (z := 0x4008000000000000) ?k0 ?_); (case k0 => decide +kernel); intro t1 tk1; try dsimp only
  walk_at "hx_steps"
  refine hold_out ?_; (with_reducible refine' fl_sub (z := 0x4008000000000000) ?k0 ?_); (case k0 => decide +kernel); intro t1 tk1; try dsimp only
  walk_at "hx_steps"
  refine hold_out ?_; (with_reducible refine' fl_div (z := 0x3fe0000000000000) ?k0 ?k1 ?k2 ?_); (case k0 => exact rfl); (case k1 => decide +kernel); (case k2 => decide +kernel); intro t1 tk1; try dsimp only
  walk_at "hx_steps"
  refine hold_out ?_; (with_reducible refine' fl_mod (z := 0x3fe0000000000000) ?k0 ?k1 ?k2 ?_); (case k0 => exact rfl); (case k1 => decide +kernel); (case k2 => decide +kernel); intro t1 tk1; try dsimp only
  walk_at "hx_steps"
  (((first | refine hQ8' _ _ ?_ | refine hold_out ?_); refine' leaveS_ ?hxF ?hxN ?_; (case hxF => k_asm); (case hxN => k_asm); intro kF kN kD; (rename ∀ (v : Value) (mu' : List (Addr × Obj)) (h' : Heap) (tk' : Nat), _ → _ → _ → _ → _ => hxR); refine hxR _ _ _ _ kF kN kD ?_; clear hxR; try dsimp only))
  exact ⟨_, _, _, _, rfl, rfl⟩
set_option maxHeartbeats 4000000 in
theorem does_rgb4 {w : World} {p : Program} {loose : List Str} {mean : ExcName → Option Value} {mg mb : Str → Option Value} {t1 t2 t3 : Tok} :
    Does w p loose mean mg mb 1 8 NoPre (.ref 38) [.int 0 t1, .int 0 t2, .int 1 t3] [] (fun v mu' => ∃ q t u x, v = .ref q ∧ mu' = [(q, tupF 0x3fe5555555555555 0x3fe0000000000000 0x3ff0000000000000 t u x)]) := by
  intro dp un gd cn cs a ccd cl outer A₀ base h₀ L m s Q E still hB hF hX hN hap hT hk hP hdp hun hret
  ((have hfill := hd_kept; (have : hd_kept = hd_kept := by (revert hfill; k_fill; intro _; rfl)); clear this hfill))
  ((refine wpAny_call ?_; k_dflt (refine' enter_topQ ?k1 ?k2 ?k3 ?k4 ?k4a ?k5 ?kA ?kF ?kK ?k6 ?k7 ?k8 ?k9 ?kB ?_ ?c2 ?c3 ?c4 ?c5; (case kA => exact rfl); (case kF => exact rfl); (case kK => first | exact rfl | assumption); (case k1 => k_asm); (case k2 => k_asm); (case k3 => k_asm); (case k4 => k_asm); (case k4a => k_asm); (case k5 => k_asm); (case k6 => k_is); (case k7 => k_is); (case k8 => ktr_room); (case k9 => exact BindsTo.of_eq (by rfl)); (case c5 => decide); (case kB => exact locs rfl); (case c2 => exact rfl); (case c3 => exact rfl); (case c4 => exact rfl); k_whole; intro g8' L8' h8' tk8' FG8' F8' N8' B8' X8' T8' st8' stl8' l8' Q8' E8' hQ8'; (dsimp only [List.map, List.zip, List.zipWith, List.reverse, List.reverseAux, withB] at F8'); (try dsimp only); (try k_lift B8'); (try k_fold))))
  walk_at "hx_steps"
  refine hold_out ?_; (with_reducible refine' fl_div_if (z := 0x3fe0000000000000) ?k0 ?k1 ?k2 ?k3 ?_); (case k0 => exact rfl); (case k1 => decide); (case k2 => decide +kernel); (case k3 => decide +kernel); intro t1 tk1; try dsimp only
  walk_at "hx_steps"
  refine hold_out ?_; (with_reducible refine' fl_le (B := true) ?k0 ?_); (case k0 => decide +kernel); skip
  walk_at "hx_steps"
  refine hold_out ?_; (with_reducible refine' fl_div_ii (z := 0x3ff0000000000000) ?k0 ?k1 ?k2 ?k3 ?_); (case k0 => exact rfl); (case k1 => decide); (case k2 => decide); (case k3 => decide +kernel); intro t1 tk1; try dsimp only
  walk_at "hx_steps"
  refine hold_out ?_; (with_reducible refine' fl_div_ii (z := 0x3ff0000000000000) ?k0 ?k1 ?k2 ?k3 ?_); (case k0 => exact rfl); (case k1 => decide); (case k2 => decide); (case k3 => decide +kernel); intro t1 tk1; try dsimp only
  walk_at "hx_steps"
  refine hold_out ?_; (with_reducible refine' fl_div_ii (z := 0x3ff0000000000000) ?k0 ?k1 ?k2 ?k3 ?_); (case k0 => exact rfl); (case k1 => decide); (case k2 => decide); (case k3 => decide +kernel); intro t1 tk1; try dsimp only
  walk_at "hx_steps"
  refine hold_out ?_; (with_reducible refine' fl_div_ii (z := 0x0000000000000000) ?k0 ?k1 ?k2 ?k3 ?_); (case k0 => exact rfl); (case k1 => decide); (case k2 => decide); (case k3 => decide +kernel); intro t1 tk1; try dsimp only
  walk_at "hx_steps"
  refine hold_out ?_; (with_reducible refine' fl_add (z := 0x4014000000000000) ?k0 ?_); (case k0 => decide +kernel); intro t1 tk1; try dsimp only
  walk_at "hx_steps"
  refine hold_out ?_; (with_reducible refine' fl_sub (z := 0x4010000000000000) ?k0 ?_); (case k0 => decide +kernel); intro t1 tk1; try dsimp only
  walk_at "hx_steps"
  refine hold_out ?_; (with_reducible refine' fl_div (z := 0x3fe5555555555555) ?k0 ?k1 ?k2 ?_); (case k0 => exact rfl); (case k1 => decide +kernel); (case k2 => decide +kernel); intro t1 tk1; try dsimp only
  walk_at "hx_steps"
  refine hold_out ?_; (with_reducible refine' fl_mod (z := 0x3fe5555555555555) ?k0 ?k1 ?k2 ?_); (case k0 => exact rfl); (case k1 => decide +kernel); (case k2 => decide +kernel); intro t1 tk1; try dsimp only
  walk_at "hx_steps"
  (((first | refine hQ8' _ _ ?_ | refine hold_out ?_); refine' leaveS_ ?hxF ?hxN ?_; (case hxF => k_asm); (case hxN => k_asm); intro kF kN kD; (rename ∀ (v : Value) (mu' : List (Addr × Obj)) (h' : Heap) (tk' : Nat), _ → _ → _ → _ → _ => hxR); refine hxR _ _ _ _ kF kN kD ?_; clear hxR; try dsimp only))
  exact ⟨_, _, _, _, rfl, rfl⟩
set_option maxHeartbeats 4000000 in
theorem does_rgb5 {w : World} {p : Program} {loose : List Str} {mean : ExcName → Option Value} {mg mb : Str → Option Value} {t1 t2 t3 : Tok} :
    Does w p loose mean mg mb 1 8 NoPre (.ref 38) [.int 1 t1, .int 0 t2, .int 1 t3] [] (fun v mu' => ∃ q t u x, v = .ref q ∧ mu' = [(q, tupF 0x3feaaaaaaaaaaaab 0x3fe0000000000000 0x3ff0000000000000 t u x)]) := by
  intro dp un gd cn cs a ccd cl outer A₀ base h₀ L m s Q E still hB hF hX hN hap hT hk hP hdp hun hret
  ((have hfill := hd_kept; (have : hd_kept = hd_kept := by (revert hfill; k_fill; intro _; rfl)); clear this hfill))
  ((refine wpAny_call ?_; k_dflt (refine' enter_topQ ?k1 ?k2 ?k3 ?k4 ?k4a ?k5 ?kA ?kF ?kK ?k6 ?k7 ?k8 ?k9 ?kB ?_ ?c2 ?c3 ?c4 ?c5; (case kA => exact rfl); (case kF => exact rfl); (case kK => first | exact rfl | assumption); (case k1 => k_asm); (case k2 => k_asm); (case k3 => k_asm); (case k4 => k_asm); (case k4a => k_asm); (case k5 => k_asm); (case k6 => k_is); (case k7 => k_is); (case k8 => ktr_room); (case k9 => exact BindsTo.of_eq (by rfl)); (case c5 => decide); (case kB => exact locs rfl); (case c2 => exact rfl); (case c3 => exact rfl); (case c4 => exact rfl); k_whole; intro g8' L8' h8' tk8' FG8' F8' N8' B8' X8' T8' st8' stl8' l8' Q8' E8' hQ8'; (dsimp only [List.map, List.zip, List.zipWith, List.reverse, List.reverseAux, withB] at F8'); (try dsimp only); (try k_lift B8'); (try k_fold))))
  walk_at "hx_steps"
  refine hold_out ?_; (with_reducible refine' fl_div_if (z := 0x3fe0000000000000) ?k0 ?k1 ?k2 ?k3 ?_); (case k0 => exact rfl); (case k1 => decide); (case k2 => decide +kernel); (case k3 => decide +kernel); intro t1 tk1; try dsimp only
  walk_at "hx_steps"
  refine hold_out ?_; (with_reducible refine' fl_le (B := true) ?k0 ?_); (case k0 => decide +kernel); skip
  walk_at "hx_steps"
  refine hold_out ?_; (with_reducible refine' fl_div_ii (z := 0x3ff0000000000000) ?k0 ?k1 ?k2 ?k3 ?_); (case k0 => exact rfl); (case k1 => decide); (case k2 => decide); (case k3 => decide +kernel); intro t1 tk1; try dsimp only
  walk_at "hx_steps"
  refine hold_out ?_; (with_reducible refine' fl_div_ii (z := 0x0000000000000000) ?k0 ?k1 ?k2 ?k3 ?_); (case k0 => exact rfl); (case k1 => decide); (case k2 => decide); (case k3 => decide +kernel); intro t1 tk1; try dsimp only
  walk_at "hx_steps"
  refine hold_out ?_; (with_reducible refine' fl_div_ii (z := 0x3ff0000000000000) ?k0 ?k1 ?k2 ?k3 ?_); (case k0 => exact rfl); (case k1 => decide); (case k2 => decide); (case k3 => decide +kernel); intro t1 tk1; try dsimp only
  walk_at "hx_steps"
  refine hold_out ?_; (with_reducible refine' fl_div_ii (z := 0x0000000000000000) ?k0 ?k1 ?k2 ?k3 ?_); (case k0 => exact rfl); (case k1 => decide); (case k2 => decide); (case k3 => decide +kernel); intro t1 tk1; try dsimp only
  walk_at "hx_steps"
  refine hold_out ?_; (with_reducible refine' fl_sub (z := 0xbff0000000000000) ?k0 ?_); (case k0 => decide +kernel); intro t1 tk1; try dsimp only
  walk_at "hx_steps"
  refine hold_out ?_; (with_reducible refine' fl_div (z := 0xbfc5555555555555) ?k0 ?k1 ?k2 ?_); (case k0 => exact rfl); (case k1 => decide +kernel); (case k2 => decide +kernel); intro t1 tk1; try dsimp only
  walk_at "hx_steps"
  refine hold_out ?_; (with_reducible refine' fl_mod (z := 0x3feaaaaaaaaaaaab) ?k0 ?k1 ?k2 ?_); (case k0 => exact rfl); (case k1 => decide +kernel); (case k2 => decide +kernel); intro t1 tk1; try dsimp only
  walk_at "hx_steps"
  (((first | refine hQ8' _ _ ?_ | refine hold_out ?_); refine' leaveS_ ?hxF ?hxN ?_; (case hxF => k_asm); (case hxN => k_asm); intro kF kN kD; (rename ∀ (v : Value) (mu' : List (Addr × Obj)) (h' : Heap) (tk' : Nat), _ → _ → _ → _ → _ => hxR); refine hxR _ _ _ _ kF kN kD ?_; clear hxR; try dsimp only))
  exact ⟨_, _, _, _, rfl, rfl⟩
end
section
theorem off_A23_hsv : True := by (w_top off); first | walk1 | trivial
set_option maxHeartbeats 4000000 in
theorem does_hsv0 {w : World} {p : Program} {loose : List Str} {mean : ExcName → Option Value} {mg mb : Str → Option Value} {t1 t2 t3 : Tok} :
    Does w p loose mean mg mb 1 8 NoPre (.ref 45) [.float 0x0000000000000000 t1, .float 0x3ff0000000000000 t2, .float 0x3ff0000000000000 t3] [] (fun v mu' => ∃ q t u x, v = .ref q ∧ mu' = [(q, tupF 0x3ff0000000000000 0x0000000000000000 0x0000000000000000 t u x)]) := by
  intro dp un gd cn cs a ccd cl outer A₀ base h₀ L m s Q E still hB hF hX hN hap hT hk hP hdp hun hret
  ((have hfill := hd_kept; (have : hd_kept = hd_kept := by (revert hfill; k_fill; intro _; rfl)); clear this hfill))
  ((refine wpAny_call ?_; k_dflt (refine' enter_topQ ?k1 ?k2 ?k3 ?k4 ?k4a ?k5 ?kA ?kF ?kK ?k6 ?k7 ?k8 ?k9 ?kB ?_ ?c2 ?c3 ?c4 ?c5; (case kA => exact rfl); (case kF => exact rfl); (case kK => first | exact rfl | assumption); (case k1 => k_asm); (case k2 => k_asm); (case k3 => k_asm); (case k4 => k_asm); (case k4a => k_asm); (case k5 => k_asm); (case k6 => k_is); (case k7 => k_is); (case k8 => ktr_room); (case k9 => exact BindsTo.of_eq (by rfl)); (case c5 => decide); (case kB => exact locs rfl); (case c2 => exact rfl); (case c3 => exact rfl); (case c4 => exact rfl); k_whole; intro g8' L8' h8' tk8' FG8' F8' N8' B8' X8' T8' st8' stl8' l8' Q8' E8' hQ8'; (dsimp only [List.map, List.zip, List.zipWith, List.reverse, List.reverseAux, withB] at F8'); (try dsimp only); (try k_lift B8'); (try k_fold))))
  walk_at "hx_steps"
  refine hold_out ?_; (with_reducible refine' fl_eq (B := false) ?k0 ?_); (case k0 => decide +kernel); skip
  walk_at "hx_steps"
  refine hold_out ?_; (with_reducible refine' fl_mul (z := 0x0000000000000000) ?k0 ?_); (case k0 => decide +kernel); intro t1 tk1; try dsimp only
  walk_at "hx_steps"
  refine hold_out ?_; (with_reducible refine' fl_int (k := 0) ?k0 ?k1 ?k2 ?k3 ?_); (case k0 => exact rfl); (case k1 => decide +kernel); (case k2 => decide +kernel); (case k3 => decide +kernel); intro t1 tk1; try dsimp only
  walk_at "hx_steps"
  refine hold_out ?_; (with_reducible refine' fl_mul (z := 0x0000000000000000) ?k0 ?_); (case k0 => decide +kernel); intro t1 tk1; try dsimp only
  walk_at "hx_steps"
  refine hold_out ?_; (with_reducible refine' fl_sub_fi (z := 0x0000000000000000) ?k0 ?k1 ?k2 ?_); (case k0 => exact rfl); (case k1 => decide); (case k2 => decide +kernel); intro t1 tk1; try dsimp only
  walk_at "hx_steps"
  refine hold_out ?_; (with_reducible refine' fl_sub (z := 0x0000000000000000) ?k0 ?_); (case k0 => decide +kernel); intro t1 tk1; try dsimp only
  walk_at "hx_steps"
  refine hold_out ?_; (with_reducible refine' fl_mul (z := 0x0000000000000000) ?k0 ?_); (case k0 => decide +kernel); intro t1 tk1; try dsimp only
  walk_at "hx_steps"
  refine hold_out ?_; (with_reducible refine' fl_mul (z := 0x0000000000000000) ?k0 ?_); (case k0 => decide +kernel); intro t1 tk1; try dsimp only
  walk_at "hx_steps"
  refine hold_out ?_; (with_reducible refine' fl_sub (z := 0x3ff0000000000000) ?k0 ?_); (case k0 => decide +kernel); intro t1 tk1; try dsimp only
  walk_at "hx_steps"
  refine hold_out ?_; (with_reducible refine' fl_mul (z := 0x3ff0000000000000) ?k0 ?_); (case k0 => decide +kernel); intro t1 tk1; try dsimp only
  walk_at "hx_steps"
  refine hold_out ?_; (with_reducible refine' fl_sub (z := 0x3ff0000000000000) ?k0 ?_); (case k0 => decide +kernel); intro t1 tk1; try dsimp only
  walk_at "hx_steps"
  refine hold_out ?_; (with_reducible refine' fl_mul (z := 0x3ff0000000000000) ?k0 ?_); (case k0 => decide +kernel); intro t1 tk1; try dsimp only
  walk_at "hx_steps"
  refine hold_out ?_; (with_reducible refine' fl_sub (z := 0x0000000000000000) ?k0 ?_); (case k0 => decide +kernel); intro t1 tk1; try dsimp only
  walk_at "hx_steps"
  refine hold_out ?_; (with_reducible refine' fl_mul (z := 0x0000000000000000) ?k0 ?_); (case k0 => decide +kernel); intro t1 tk1; try dsimp only
  walk_at "hx_steps"
  (((first | refine hQ8' _ _ ?_ | refine hold_out ?_); refine' leaveS_ ?hxF ?hxN ?_; (case hxF => k_asm); (case hxN => k_asm); intro kF kN kD; (rename ∀ (v : Value) (mu' : List (Addr × Obj)) (h' : Heap) (tk' : Nat), _ → _ → _ → _ → _ => hxR); refine hxR _ _ _ _ kF kN kD ?_; clear hxR; try dsimp only))
  exact ⟨_, _, _, _, rfl, rfl⟩
set_option maxHeartbeats 4000000 in
theorem does_hsv1 {w : World} {p : Program} {loose : List Str} {mean : ExcName → Option Value} {mg mb : Str → Option Value} {t1 t2 t3 : Tok} :
    Does w p loose mean mg mb 1 8 NoPre (.ref 45) [.float 0x3fc5555555555555 t1, .float 0x3ff0000000000000 t2, .float 0x3ff0000000000000 t3] [] (fun v mu' => ∃ q t u x, v = .ref q ∧ mu' = [(q, tupF 0x3ff0000000000000 0x3ff0000000000000 0x0000000000000000 t u x)]) := by
  intro dp un gd cn cs a ccd cl outer A₀ base h₀ L m s Q E still hB hF hX hN hap hT hk hP hdp hun hret
  ((have hfill := hd_kept; (have : hd_kept = hd_kept := by (revert hfill; k_fill; intro _; rfl)); clear this hfill))
  ((refine wpAny_call ?_; k_dflt (refine' enter_topQ ?k1 ?k2 ?k3 ?k4 ?k4a ?k5 ?kA ?kF ?kK ?k6 ?k7 ?k8 ?k9 ?kB ?_ ?c2 ?c3 ?c4 ?c5; (case kA => exact rfl); (case kF => exact rfl); (case kK => first | exact rfl | assumption); (case k1 => k_asm); (case k2 => k_asm); (case k3 => k_asm); (case k4 => k_asm); (case k4a => k_asm); (case k5 => k_asm); (case k6 => k_is); (case k7 => k_is); (case k8 => ktr_room); (case k9 => exact BindsTo.of_eq (by rfl)); (case c5 => decide); (case kB => exact locs rfl); (case c2 => exact rfl); (case c3 => exact rfl); (case c4 => exact rfl); k_whole; intro g8' L8' h8' tk8' FG8' F8' N8' B8' X8' T8' st8' stl8' l8' Q8' E8' hQ8'; (dsimp only [List.map, List.zip, List.zipWith, List.reverse, List.reverseAux, withB] at F8'); (try dsimp only); (try k_lift B8'); (try k_fold))))
  walk_at "hx_steps"
  refine hold_out ?_; (with_reducible refine' fl_eq (B := false) ?k0 ?_); (case k0 => decide +kernel); skip
  walk_at "hx_steps"
  refine hold_out ?_; (with_reducible refine' fl_mul (z := 0x3ff0000000000000) ?k0 ?_); (case k0 => decide +kernel); intro t1 tk1; try dsimp only
  walk_at "hx_steps"
  refine hold_out ?_; (with_reducible refine' fl_int (k := 1) ?k0 ?k1 ?k2 ?k3 ?_); (case k0 => exact rfl); (case k1 => decide +kernel); (case k2 => decide +kernel); (case k3 => decide +kernel); intro t1 tk1; try dsimp only
  walk_at "hx_steps"
  refine hold_out ?_; (with_reducible refine' fl_mul (z := 0x3ff0000000000000) ?k0 ?_); (case k0 => decide +kernel); intro t1 tk1; try dsimp only
  walk_at "hx_steps"
  refine hold_out ?_; (with_reducible refine' fl_sub_fi (z := 0x0000000000000000) ?k0 ?k1 ?k2 ?_); (case k0 => exact rfl); (case k1 => decide); (case k2 => decide +kernel); intro t1 tk1; try dsimp only
  walk_at "hx_steps"
  refine hold_out ?_; (with_reducible refine' fl_sub (z := 0x0000000000000000) ?k0 ?_); (case k0 => decide +kernel); intro t1 tk1; try dsimp only
  walk_at "hx_steps"
  refine hold_out ?_; (with_reducible refine' fl_mul (z := 0x0000000000000000) ?k0 ?_); (case k0 => decide +kernel); intro t1 tk1; try dsimp only
  walk_at "hx_steps"
  refine hold_out ?_; (with_reducible refine' fl_mul (z := 0x0000000000000000) ?k0 ?_); (case k0 => decide +kernel); intro t1 tk1; try dsimp only
  walk_at "hx_steps"
  refine hold_out ?_; (with_reducible refine' fl_sub (z := 0x3ff0000000000000) ?k0 ?_); (case k0 => decide +kernel); intro t1 tk1; try dsimp only
  walk_at "hx_steps"
  refine hold_out ?_; (with_reducible refine' fl_mul (z := 0x3ff0000000000000) ?k0 ?_); (case k0 => decide +kernel); intro t1 tk1; try dsimp only
  walk_at "hx_steps"
  refine hold_out ?_; (with_reducible refine' fl_sub (z := 0x3ff0000000000000) ?k0 ?_); (case k0 => decide +kernel); intro t1 tk1; try dsimp only
  walk_at "hx_steps"
  refine hold_out ?_; (with_reducible refine' fl_mul (z := 0x3ff0000000000000) ?k0 ?_); (case k0 => decide +kernel); intro t1 tk1; try dsimp only
  walk_at "hx_steps"
  refine hold_out ?_; (with_reducible refine' fl_sub (z := 0x0000000000000000) ?k0 ?_); (case k0 => decide +kernel); intro t1 tk1; try dsimp only
  walk_at "hx_steps"
  refine hold_out ?_; (with_reducible refine' fl_mul (z := 0x0000000000000000) ?k0 ?_); (case k0 => decide +kernel); intro t1 tk1; try dsimp only
  walk_at "hx_steps"
  (((first | refine hQ8' _ _ ?_ | refine hold_out ?_); refine' leaveS_ ?hxF ?hxN ?_; (case hxF => k_asm); (case hxN => k_asm); intro kF kN kD; (rename ∀ (v : Value) (mu' : List (Addr × Obj)) (h' : Heap) (tk' : Nat), _ → _ → _ → _ → _ => hxR); refine hxR _ _ _ _ kF kN kD ?_; clear hxR; try dsimp only))
  exact ⟨_, _, _, _, rfl, rfl⟩
set_option maxHeartbeats 4000000 in
theorem does_hsv2 {w : World} {p : Program} {loose : List Str} {mean : ExcName → Option Value} {mg mb : Str → Option Value} {t1 t2 t3 : Tok} :
    Does w p loose mean mg mb 1 8 NoPre (.ref 45) [.float 0x3fd5555555555555 t1, .float 0x3ff0000000000000 t2, .float 0x3ff0000000000000 t3] [] (fun v mu' => ∃ q t u x, v = .ref q ∧ mu' = [(q, tupF 0x0000000000000000 0x3ff0000000000000 0x0000000000000000 t u x)]) := by
  intro dp un gd cn cs a ccd cl outer A₀ base h₀ L m s Q E still hB hF hX hN hap hT hk hP hdp hun hret
  ((have hfill := hd_kept; (have : hd_kept = hd_kept := by (revert hfill; k_fill; intro _; rfl)); clear this hfill))
  ((refine wpAny_call ?_; k_dflt (refine' enter_topQ ?k1 ?k2 ?k3 ?k4 ?k4a ?k5 ?kA ?kF ?kK ?k6 ?k7 ?k8 ?k9 ?kB ?_ ?c2 ?c3 ?c4 ?c5; (case kA => exact rfl); (case kF => exact rfl); (case kK => first | exact rfl | assumption); (case k1 => k_asm); (case k2 => k_asm); (case k3 => k_asm); (case k4 => k_asm); (case k4a => k_asm); (case k5 => k_asm); (case k6 => k_is); (case k7 => k_is); (case k8 => ktr_room); (case k9 => exact BindsTo.of_eq (by rfl)); (case c5 => decide); (case kB => exact locs rfl); (case c2 => exact rfl); (case c3 => exact rfl); (case c4 => exact rfl); k_whole; intro g8' L8' h8' tk8' FG8' F8' N8' B8' X8' T8' st8' stl8' l8' Q8' E8' hQ8'; (dsimp only [List.map, List.zip, List.zipWith, List.reverse, List.reverseAux, withB] at F8'); (try dsimp only); (try k_lift B8'); (try k_fold))))
  walk_at "hx_steps"
  refine hold_out ?_; (with_reducible refine' fl_eq (B := false) ?k0 ?_); (case k0 => decide +kernel); skip
  walk_at "hx_steps"
  refine hold_out ?_; (with_reducible refine' fl_mul (z := 0x4000000000000000) ?k0 ?_); (case k0 => decide +kernel); intro t1 tk1; try dsimp only
  walk_at "hx_steps"
  refine hold_out ?_; (with_reducible refine' fl_int (k := 2) ?k0 ?k1 ?k2 ?k3 ?_); (case k0 => exact rfl); (case k1 => decide +kernel); (case k2 => decide +kernel); (case k3 => decide +kernel); intro t1 tk1; try dsimp only
  walk_at "hx_steps"
  refine hold_out ?_; (with_reducible refine' fl_mul (z := 0x4000000000000000) ?k0 ?_); (case k0 => decide +kernel); intro t1 tk1; try dsimp only
  walk_at "hx_steps"
  refine hold_out ?_; (with_reducible refine' fl_sub_fi (z := 0x0000000000000000) ?k0 ?k1 ?k2 ?_); (case k0 => exact rfl); (case k1 => decide); (case k2 => decide +kernel); intro t1 tk1; try dsimp only
  walk_at "hx_steps"
  refine hold_out ?_; (with_reducible refine' fl_sub (z := 0x0000000000000000) ?k0 ?_); (case k0 => decide +kernel); intro t1 tk1; try dsimp only
  walk_at "hx_steps"
  refine hold_out ?_; (with_reducible refine' fl_mul (z := 0x0000000000000000) ?k0 ?_); (case k0 => decide +kernel); intro t1 tk1; try dsimp only
  walk_at "hx_steps"
  refine hold_out ?_; (with_reducible refine' fl_mul (z := 0x0000000000000000) ?k0 ?_); (case k0 => decide +kernel); intro t1 tk1; try dsimp only
  walk_at "hx_steps"
  refine hold_out ?_; (with_reducible refine' fl_sub (z := 0x3ff0000000000000) ?k0 ?_); (case k0 => decide +kernel); intro t1 tk1; try dsimp only
  walk_at "hx_steps"
  refine hold_out ?_; (with_reducible refine' fl_mul (z := 0x3ff0000000000000) ?k0 ?_); (case k0 => decide +kernel); intro t1 tk1; try dsimp only
  walk_at "hx_steps"
  refine hold_out ?_; (with_reducible refine' fl_sub (z := 0x3ff0000000000000) ?k0 ?_); (case k0 => decide +kernel); intro t1 tk1; try dsimp only
  walk_at "hx_steps"
  refine hold_out ?_; (with_reducible refine' fl_mul (z := 0x3ff0000000000000) ?k0 ?_); (case k0 => decide +kernel); intro t1 tk1; try dsimp only
  walk_at "hx_steps"
  refine hold_out ?_; (with_reducible refine' fl_sub (z := 0x0000000000000000) ?k0 ?_); (case k0 => decide +kernel); intro t1 tk1; try dsimp only
  walk_at "hx_steps"
  refine hold_out ?_; (with_reducible refine' fl_mul (z := 0x0000000000000000) ?k0 ?_); (case k0 => decide +kernel); intro t1 tk1; try dsimp only
  walk_at "hx_steps"
  (((first | refine hQ8' _ _ ?_ | refine hold_out ?_); refine' leaveS_ ?hxF ?hxN ?_; (case hxF => k_asm); (case hxN => k_asm); intro kF kN kD; (rename ∀ (v : Value) (mu' : List (Addr × Obj)) (h' : Heap) (tk' : Nat), _ → _ → _ → _ → _ => hxR); refine hxR _ _ _ _ kF kN kD ?_; clear hxR; try dsimp only))
  exact ⟨_, _, _, _, rfl, rfl⟩
set_option maxHeartbeats 4000000 in
theorem does_hsv3 {w : World} {p : Program} {loose : List Str} {mean : ExcName → Option Value} {mg mb : Str → Option Value} {t1 t2 t3 : Tok} :
    Does w p loose mean mg mb 1 8 NoPre (.ref 45) [.float 0x3fe0000000000000 t1, .float 0x3ff0000000000000 t2, .float 0x3ff0000000000000 t3] [] (fun v mu' => ∃ q t u x, v = .ref q ∧ mu' = [(q, tupF 0x0000000000000000 0x3ff0000000000000 0x3ff0000000000000 t u x)]) := by
  intro dp un gd cn cs a ccd cl outer A₀ base h₀ L m s Q E still hB hF hX hN hap hT hk hP hdp hun hret
  ((have hfill := hd_kept; (have : hd_kept = hd_kept := by (revert hfill; k_fill; intro _; rfl)); clear this hfill))
  ((refine wpAny_call ?_; k_dflt (refine' enter_topQ ?k1 ?k2 ?k3 ?k4 ?k4a ?k5 ?kA ?kF ?kK ?k6 ?k7 ?k8 ?k9 ?kB ?_ ?c2 ?c3 ?c4 ?c5; (case kA => exact rfl); (case kF => exact rfl); (case kK => first | exact rfl | assumption); (case k1 => k_asm); (case k2 => k_asm); (case k3 => k_asm); (case k4 => k_asm); (case k4a => k_asm); (case k5 => k_asm); (case k6 => k_is); (case k7 => k_is); (case k8 => ktr_room); (case k9 => exact BindsTo.of_eq (by rfl)); (case c5 => decide); (case kB => exact locs rfl); (case c2 => exact rfl); (case c3 => exact rfl); (case c4 => exact rfl); k_whole; intro g8' L8' h8' tk8' FG8' F8' N8' B8' X8' T8' st8' stl8' l8' Q8' E8' hQ8'; (dsimp only [List.map, List.zip, List.zipWith, List.reverse, List.reverseAux, withB] at F8'); (try dsimp only); (try k_lift B8'); (try k_fold))))
  walk_at "hx_steps"
  refine hold_out ?_; (with_reducible refine' fl_eq (B := false) ?k0 ?_); (case k0 => decide +kernel); skip
  walk_at "hx_steps"
  refine hold_out ?_; (with_reducible refine' fl_mul (z := 0x4008000000000000) ?k0 ?_); (case k0 => decide +kernel); intro t1 tk1; try dsimp only
  walk_at "hx_steps"
  refine hold_out ?_; (with_reducible refine' fl_int (k := 3) ?k0 ?k1 ?k2 ?k3 ?_); (case k0 => exact rfl); (case k1 => decide +kernel); (case k2 => decide +kernel); (case k3 => decide +kernel); intro t1 tk1; try dsimp only
  walk_at "hx_steps"
  refine hold_out ?_; (with_reducible refine' fl_mul (z := 0x4008000000000000) ?k0 ?_); (case k0 => decide +kernel); intro t1 tk1; try dsimp only
  walk_at "hx_steps"
  refine hold_out ?_; (with_reducible refine' fl_sub_fi (z := 0x0000000000000000) ?k0 ?k1 ?k2 ?_); (case k0 => exact rfl); (case k1 => decide); (case k2 => decide +kernel); intro t1 tk1; try dsimp only
  walk_at "hx_steps"
  refine hold_out ?_; (with_reducible refine' fl_sub (z := 0x0000000000000000) ?k0 ?_); (case k0 => decide +kernel); intro t1 tk1; try dsimp only
  walk_at "hx_steps"
  refine hold_out ?_; (with_reducible refine' fl_mul (z := 0x0000000000000000) ?k0 ?_); (case k0 => decide +kernel); intro t1 tk1; try dsimp only
  walk_at "hx_steps"
  refine hold_out ?_; (with_reducible refine' fl_mul (z := 0x0000000000000000) ?k0 ?_); (case k0 => decide +kernel); intro t1 tk1; try dsimp only
  walk_at "hx_steps"
  refine hold_out ?_; (with_reducible refine' fl_sub (z := 0x3ff0000000000000) ?k0 ?_); (case k0 => decide +kernel); intro t1 tk1; try dsimp only
  walk_at "hx_steps"
  refine hold_out ?_; (with_reducible refine' fl_mul (z := 0x3ff0000000000000) ?k0 ?_); (case k0 => decide +kernel); intro t1 tk1; try dsimp only
  walk_at "hx_steps"
  refine hold_out ?_; (with_reducible refine' fl_sub (z := 0x3ff0000000000000) ?k0 ?_); (case k0 => decide +kernel); intro t1 tk1; try dsimp only
  walk_at "hx_steps"
  refine hold_out ?_; (with_reducible refine' fl_mul (z := 0x3ff0000000000000) ?k0 ?_); (case k0 => decide +kernel); intro t1 tk1; try dsimp only
  walk_at "hx_steps"
  refine hold_out ?_; (with_reducible refine' fl_sub (z := 0x0000000000000000) ?k0 ?_); (case k0 => decide +kernel); intro t1 tk1; try dsimp only
  walk_at "hx_steps"
  refine hold_out ?_; (with_reducible refine' fl_mul (z := 0x0000000000000000) ?k0 ?_); (case k0 => decide +kernel); intro t1 tk1; try dsimp only
  walk_at "hx_steps"
  (((first | refine hQ8' _ _ ?_ | refine hold_out ?_); refine' leaveS_ ?hxF ?hxN ?_; (case hxF => k_asm); (case hxN => k_asm); intro kF kN kD; (rename ∀ (v : Value) (mu' : List (Addr × Obj)) (h' : Heap) (tk' : Nat), _ → _ → _ → _ → _ => hxR); refine hxR _ _ _ _ kF kN kD ?_; clear hxR; try dsimp only))
  exact ⟨_, _, _, _, rfl, rfl⟩
set_option maxHeartbeats 4000000 in
theorem does_hsv4 {w : World} {p : Program} {loose : List Str} {mean : ExcName → Option Value} {mg mb : Str → Option Value} {t1 t2 t3 : Tok} :
    Does w p loose mean mg mb 1 8 NoPre (.ref 45) [.float 0x3fe5555555555555 t1, .float 0x3ff0000000000000 t2, .float 0x3ff0000000000000 t3] [] (fun v mu' => ∃ q t u x, v = .ref q ∧ mu' = [(q, tupF 0x0000000000000000 0x0000000000000000 0x3ff0000000000000 t u x)]) := by
  intro dp un gd cn cs a ccd cl outer A₀ base h₀ L m s Q E still hB hF hX hN hap hT hk hP hdp hun hret
  ((have hfill := hd_kept; (have : hd_kept = hd_kept := by (revert hfill; k_fill; intro _; rfl)); clear this hfill))
  ((refine wpAny_call ?_; k_dflt (refine' enter_topQ ?k1 ?k2 ?k3 ?k4 ?k4a ?k5 ?kA ?kF ?kK ?k6 ?k7 ?k8 ?k9 ?kB ?_ ?c2 ?c3 ?c4 ?c5; (case kA => exact rfl); (case kF => exact rfl); (case kK => first | exact rfl | assumption); (case k1 => k_asm); (case k2 => k_asm); (case k3 => k_asm); (case k4 => k_asm); (case k4a => k_asm); (case k5 => k_asm); (case k6 => k_is); (case k7 => k_is); (case k8 => ktr_room); (case k9 => exact BindsTo.of_eq (by rfl)); (case c5 => decide); (case kB => exact locs rfl); (case c2 => exact rfl); (case c3 => exact rfl); (case c4 => exact rfl); k_whole; intro g8' L8' h8' tk8' FG8' F8' N8' B8' X8' T8' st8' stl8' l8' Q8' E8' hQ8'; (dsimp only [List.map, List.zip, List.zipWith, List.reverse, List.reverseAux, withB] at F8'); (try dsimp only); (try k_lift B8'); (try k_fold))))
  walk_at "hx_steps"
  refine hold_out ?_; (with_reducible refine' fl_eq (B := false) ?k0 ?_); (case k0 => decide +kernel); skip
  walk_at "hx_steps"
  refine hold_out ?_; (with_reducible refine' fl_mul (z := 0x4010000000000000) ?k0 ?_); (case k0 => decide +kernel); intro t1 tk1; try dsimp only
  walk_at "hx_steps"
  refine hold_out ?_; (with_reducible refine' fl_int (k := 4) ?k0 ?k1 ?k2 ?k3 ?_); (case k0 => exact rfl); (case k1 => decide +kernel); (case k2 => decide +kernel); (case k3 => decide +kernel); intro t1 tk1; try dsimp only
  walk_at "hx_steps"
  refine hold_out ?_; (with_reducible refine' fl_mul (z := 0x4010000000000000) ?k0 ?_); (case k0 => decide +kernel); intro t1 tk1; try dsimp only
  walk_at "hx_steps"
  refine hold_out ?_; (with_reducible refine' fl_sub_fi (z := 0x0000000000000000) ?k0 ?k1 ?k2 ?_); (case k0 => exact rfl); (case k1 => decide); (case k2 => decide +kernel); intro t1 tk1; try dsimp only
  walk_at "hx_steps"
  refine hold_out ?_; (with_reducible refine' fl_sub (z := 0x0000000000000000) ?k0 ?_); (case k0 => decide +kernel); intro t1 tk1; try dsimp only
  walk_at "hx_steps"
  refine hold_out ?_; (with_reducible refine' fl_mul (z := 0x0000000000000000) ?k0 ?_); (case k0 => decide +kernel); intro t1 tk1; try dsimp only
  walk_at "hx_steps"
  refine hold_out ?_; (with_reducible refine' fl_mul (z := 0x0000000000000000) ?k0 ?_); (case k0 => decide +kernel); intro t1 tk1; try dsimp only
  walk_at "hx_steps"
  refine hold_out ?_; (with_reducible refine' fl_sub (z := 0x3ff0000000000000) ?k0 ?_); (case k0 => decide +kernel); intro t1 tk1; try dsimp only
  walk_at "hx_steps"
  refine hold_out ?_; (with_reducible refine' fl_mul (z := 0x3ff0000000000000) ?k0 ?_); (case k0 => decide +kernel); intro t1 tk1; try dsimp only
  walk_at "hx_steps"
  refine hold_out ?_; (with_reducible refine' fl_sub (z := 0x3ff0000000000000) ?k0 ?_); (case k0 => decide +kernel); intro t1 tk1; try dsimp only
  walk_at "hx_steps"
  refine hold_out ?_; (with_reducible refine' fl_mul (z := 0x3ff0000000000000) ?k0 ?_); (case k0 => decide +kernel); intro t1 tk1; try dsimp only
  walk_at "hx_steps"
  refine hold_out ?_; (with_reducible refine' fl_sub (z := 0x0000000000000000) ?k0 ?_); (case k0 => decide +kernel); intro t1 tk1; try dsimp only
  walk_at "hx_steps"
  refine hold_out ?_; (with_reducible refine' fl_mul (z := 0x0000000000000000) ?k0 ?_); (case k0 => decide +kernel); intro t1 tk1; try dsimp only
  walk_at "hx_steps"
  (((first | refine hQ8' _ _ ?_ | refine hold_out ?_); refine' leaveS_ ?hxF ?hxN ?_; (case hxF => k_asm); (case hxN => k_asm); intro kF kN kD; (rename ∀ (v : Value) (mu' : List (Addr × Obj)) (h' : Heap) (tk' : Nat), _ → _ → _ → _ → _ => hxR); refine hxR _ _ _ _ kF kN kD ?_; clear hxR; try dsimp only))
  exact ⟨_, _, _, _, rfl, rfl⟩
set_option maxHeartbeats 4000000 in
theorem does_hsv5 {w : World} {p : Program} {loose : List Str} {mean : ExcName → Option Value} {mg mb : Str → Option Value} {t1 t2 t3 : Tok} :
    Does w p loose mean mg mb 1 8 NoPre (.ref 45) [.float 0x3feaaaaaaaaaaaab t1, .float 0x3ff0000000000000 t2, .float 0x3ff0000000000000 t3] [] (fun v mu' => ∃ q t u x, v = .ref q ∧ mu' = [(q, tupF 0x3ff0000000000000 0x0000000000000000 0x3ff0000000000000 t u x)]) := by
  intro dp un gd cn cs a ccd cl outer A₀ base h₀ L m s Q E still hB hF hX hN hap hT hk hP hdp hun hret
  ((have hfill := hd_kept; (have : hd_kept = hd_kept := by (revert hfill; k_fill; intro _; rfl)); clear this hfill))
  ((refine wpAny_call ?_; k_dflt (refine' enter_topQ ?k1 ?k2 ?k3 ?k4 ?k4a ?k5 ?kA ?kF ?kK ?k6 ?k7 ?k8 ?k9 ?kB ?_ ?c2 ?c3 ?c4 ?c5; (case kA => exact rfl); (case kF => exact rfl); (case kK => first | exact rfl | assumption); (case k1 => k_asm); (case k2 => k_asm); (case k3 => k_asm); (case k4 => k_asm); (case k4a => k_asm); (case k5 => k_asm); (case k6 => k_is); (case k7 => k_is); (case k8 => ktr_room); (case k9 => exact BindsTo.of_eq (by rfl)); (case c5 => decide); (case kB => exact locs rfl); (case c2 => exact rfl); (case c3 => exact rfl); (case c4 => exact rfl); k_whole; intro g8' L8' h8' tk8' FG8' F8' N8' B8' X8' T8' st8' stl8' l8' Q8' E8' hQ8'; (dsimp only [List.map, List.zip, List.zipWith, List.reverse, List.reverseAux, withB] at F8'); (try dsimp only); (try k_lift B8'); (try k_fold))))
  walk_at "hx_steps"
  refine hold_out ?_; (with_reducible refine' fl_eq (B := false) ?k0 ?_); (case k0 => decide +kernel); skip
  walk_at "hx_steps"
  refine hold_out ?_; (with_reducible refine' fl_mul (z := 0x4014000000000000) ?k0 ?_); (case k0 => decide +kernel); intro t1 tk1; try dsimp only
  walk_at "hx_steps"
  refine hold_out ?_; (with_reducible refine' fl_int (k := 5) ?k0 ?k1 ?k2 ?k3 ?_); (case k0 => exact rfl); (case k1 => decide +kernel); (case k2 => decide +kernel); (case k3 => decide +kernel); intro t1 tk1; try dsimp only
  walk_at "hx_steps"
  refine hold_out ?_; (with_reducible refine' fl_mul (z := 0x4014000000000000) ?k0 ?_); (case k0 => decide +kernel); intro t1 tk1; try dsimp only
  walk_at "hx_steps"
  refine hold_out ?_; (with_reducible refine' fl_sub_fi (z := 0x0000000000000000) ?k0 ?k1 ?k2 ?_); (case k0 => exact rfl); (case k1 => decide); (case k2 => decide +kernel); intro t1 tk1; try dsimp only
  walk_at "hx_steps"
  refine hold_out ?_; (with_reducible refine' fl_sub (z := 0x0000000000000000) ?k0 ?_); (case k0 => decide +kernel); intro t1 tk1; try dsimp only
  walk_at "hx_steps"
  refine hold_out ?_; (with_reducible refine' fl_mul (z := 0x0000000000000000) ?k0 ?_); (case k0 => decide +kernel); intro t1 tk1; try dsimp only
  walk_at "hx_steps"
  refine hold_out ?_; (with_reducible refine' fl_mul (z := 0x0000000000000000) ?k0 ?_); (case k0 => decide +kernel); intro t1 tk1; try dsimp only
  walk_at "hx_steps"
  refine hold_out ?_; (with_reducible refine' fl_sub (z := 0x3ff0000000000000) ?k0 ?_); (case k0 => decide +kernel); intro t1 tk1; try dsimp only
  walk_at "hx_steps"
  refine hold_out ?_; (with_reducible refine' fl_mul (z := 0x3ff0000000000000) ?k0 ?_); (case k0 => decide +kernel); intro t1 tk1; try dsimp only
  walk_at "hx_steps"
  refine hold_out ?_; (with_reducible refine' fl_sub (z := 0x3ff0000000000000) ?k0 ?_); (case k0 => decide +kernel); intro t1 tk1; try dsimp only
  walk_at "hx_steps"
  refine hold_out ?_; (with_reducible refine' fl_mul (z := 0x3ff0000000000000) ?k0 ?_); (case k0 => decide +kernel); intro t1 tk1; try dsimp only
  walk_at "hx_steps"
  refine hold_out ?_; (with_reducible refine' fl_sub (z := 0x0000000000000000) ?k0 ?_); (case k0 => decide +kernel); intro t1 tk1; try dsimp only
  walk_at "hx_steps"
  refine hold_out ?_; (with_reducible refine' fl_mul (z := 0x0000000000000000) ?k0 ?_); (case k0 => decide +kernel); intro t1 tk1; try dsimp only
  walk_at "hx_steps"
  (((first | refine hQ8' _ _ ?_ | refine hold_out ?_); refine' leaveS_ ?hxF ?hxN ?_; (case hxF => k_asm); (case hxN => k_asm); intro kF kN kD; (rename ∀ (v : Value) (mu' : List (Addr × Obj)) (h' : Heap) (tk' : Nat), _ → _ → _ → _ → _ => hxR); refine hxR _ _ _ _ kF kN kD ?_; clear hxR; try dsimp only))
  exact ⟨_, _, _, _, rfl, rfl⟩
end
section
noncomputable abbrev tupI (x y : Int) (t u : Tok) : Obj := { cls := .type "tuple", data := .seq #[.int x t, .int y u] }
/-- the ledger of the six ways -/
noncomputable abbrev waysLed (l a0 a1 a2 a3 a4 a5 : Addr) (ep : Nat) (t0 t1 t2 t3 t4 t5 t6 t7 t8 t9 t10 t11 : Tok) : List (Addr × Obj) := [(l, W.listOf #[.ref a0, .ref a1, .ref a2, .ref a3, .ref a4, .ref a5] ep), (a0, tupI (1) (0) t0 t1), (a1, tupI (1) (1) t2 t3), (a2, tupI (0) (1) t4 t5), (a3, tupI (-1) (0) t6 t7), (a4, tupI (-1) (-1) t8 t9), (a5, tupI (0) (-1) t10 t11)]
end
section
theorem off_A30_walk : True := by (w_top off); first | walk1 | trivial
noncomputable def wX : Fin 6 → Int | 0 => 1 | 1 => 1 | 2 => 0 | 3 => -1 | 4 => -1 | 5 => 0
noncomputable def wY : Fin 6 → Int | 0 => 0 | 1 => 1 | 2 => 1 | 3 => 0 | 4 => -1 | 5 => -1
/-- the walk along the border: red at (rx, ry), blue one step in direction d -/
noncomputable def walkF (n : Int) (bs : List Int) : Nat → Int → Int → Fin 6 → Int → Int × Int
  | 0, _, _, _, more => (6, more)
  | k + 1, rx, ry, d, more =>
    if min (rx + wX (d + 5)) (ry + wY (d + 5)) < -1 ∨ n < max (rx + wX (d + 5)) (ry + wY (d + 5)) then ((d.val : Int), more)
    else if isRed n bs (rx + wX (d + 5)) (ry + wY (d + 5)) = true then walkF n bs k (rx + wX (d + 5)) (ry + wY (d + 5)) (d + 1) (more + 1)
    else walkF n bs k rx ry (d + 5) (more - 1)
noncomputable def walkTurns (n : Int) : Nat := (2 * (n + 1) ^ 2 + 1).toNat
noncomputable def hueF : Fin 6 → UInt64 | 0 => 0x0000000000000000 | 1 => 0x3fc5555555555555 | 2 => 0x3fd5555555555555 | 3 => 0x3fe0000000000000 | 4 => 0x3fe5555555555555 | 5 => 0x3feaaaaaaaaaaaab
theorem does_rgb {w : World} {p : Program} {loose : List Str} {mean : ExcName → Option Value} {mg mb : Str → Option Value} {t1 t2 t3 : Tok} (d : Fin 6) {r g b : Int}
    (hr : r = wX d - (if 3 ≤ d.val then (-1 : Int) else 0)) (hg : g = wY d - (if 3 ≤ d.val then (-1 : Int) else 0)) (hb : b = -(if 3 ≤ d.val then (-1 : Int) else 0)) :
    Does w p loose mean mg mb 1 8 NoPre (.ref 38) [.int r t1, .int g t2, .int b t3] [] (fun v mu' => ∃ q y z t u x, v = .ref q ∧ mu' = [(q, tupF (hueF d) y z t u x)]) := by
  have mono : ∀ {P P' : Value → List (Addr × Obj) → Prop} {vs : List Value}, (∀ v mu', P v mu' → P' v mu') → Does w p loose mean mg mb 1 8 NoPre (.ref 38) vs [] P → Does w p loose mean mg mb 1 8 NoPre (.ref 38) vs [] P' :=
    fun hh H _ _ _ _ _ _ _ _ _ _ _ _ _ _ _ _ _ _ a1 a2 a3 a4 a5 a6 a7 a8 a9 b1 b2 => H _ _ _ _ _ _ _ _ _ _ _ _ _ _ _ _ _ _ a1 a2 a3 a4 a5 a6 a7 a8 a9 b1 fun v mu' h' tk' c1 c2 c3 c4 => b2 v mu' h' tk' c1 c2 c3 (hh v mu' c4)
  subst hr hg hb
  match d with
  | 0 => exact mono (fun v mu' ⟨q, t, u, x, e1, e2⟩ => ⟨q, _, _, t, u, x, e1, e2⟩) does_rgb0
  | 1 => exact mono (fun v mu' ⟨q, t, u, x, e1, e2⟩ => ⟨q, _, _, t, u, x, e1, e2⟩) does_rgb1
  | 2 => exact mono (fun v mu' ⟨q, t, u, x, e1, e2⟩ => ⟨q, _, _, t, u, x, e1, e2⟩) does_rgb2
  | 3 => exact mono (fun v mu' ⟨q, t, u, x, e1, e2⟩ => ⟨q, _, _, t, u, x, e1, e2⟩) does_rgb3
  | 4 => exact mono (fun v mu' ⟨q, t, u, x, e1, e2⟩ => ⟨q, _, _, t, u, x, e1, e2⟩) does_rgb4
  | 5 => exact mono (fun v mu' ⟨q, t, u, x, e1, e2⟩ => ⟨q, _, _, t, u, x, e1, e2⟩) does_rgb5
theorem hue_six : ∀ d : Fin 6, Float64.isNaN (Float64.mul (hueF d) (Float64.ofInt 6)) = false ∧ Float64.isInf (Float64.mul (hueF d) (Float64.ofInt 6)) = false ∧ Flt.toInt Float64.nearestOf (Float64.mul (hueF d) (Float64.ofInt 6)) = (d.val : Int) := by decide +kernel
theorem ways_item (aW : Fin 6 → Addr) : ∀ d : Fin 6, (0 : Int) ≤ ((d.val : Int) + 5).fmod 6 ∧ ((d.val : Int) + 5).fmod 6 < 2 ^ 63 ∧ (#[.ref (aW 0), .ref (aW 1), .ref (aW 2), .ref (aW 3), .ref (aW 4), .ref (aW 5)] : Array Value)[(((d.val : Int) + 5).fmod 6).toNat]? = some (.ref (aW (d + 5)))
  | 0 => ⟨by decide, by decide, rfl⟩ | 1 => ⟨by decide, by decide, rfl⟩ | 2 => ⟨by decide, by decide, rfl⟩ | 3 => ⟨by decide, by decide, rfl⟩ | 4 => ⟨by decide, by decide, rfl⟩ | 5 => ⟨by decide, by decide, rfl⟩
theorem isTup_tupI {h : Heap} {q : Addr} {x y : Int} {t u : Tok} (hg : h.get? q = some (tupI x y t u)) : IsTup h q [.int x t, .int y u].toArray := ⟨_, hg, rfl, _, rfl⟩
section
variable {prog : Program} {w : World} {A : Around} {E : Value → Shared → Prop} {s : Shared}
theorem way_0 {value slice : Expr} {q : Addr} {x y : Int} {t u k : Tok} {Q : Value → Shared → Prop} (hg : s.heap.get? q = some (tupI x y t u)) (h : Q (.int x t) s)
    (hs : subscripted slice false (.ref q) (.int 0 k) = operate [.ref q, .int 0 k] (getItem (.ref q) (.int 0 k)) := by with_unfolding_all rfl) (hgo : ∀ r, letTemporaryGo value (.ref q) r = pure () := by intro _; with_unfolding_all rfl) :
    wpAny (model prog w) A (subscriptTail value slice (.ref q) (.int 0 k)) Q E s := item_tupleL (j := 0) (isTup_tupI hg) (by omega) (by omega) rfl rfl h hs hgo
theorem way_1 {value slice : Expr} {q : Addr} {x y : Int} {t u k : Tok} {Q : Value → Shared → Prop} (hg : s.heap.get? q = some (tupI x y t u)) (h : Q (.int y u) s)
    (hs : subscripted slice false (.ref q) (.int 1 k) = operate [.ref q, .int 1 k] (getItem (.ref q) (.int 1 k)) := by with_unfolding_all rfl) (hgo : ∀ r, letTemporaryGo value (.ref q) r = pure () := by intro _; with_unfolding_all rfl) :
    wpAny (model prog w) A (subscriptTail value slice (.ref q) (.int 1 k)) Q E s := item_tupleL (j := 1) (isTup_tupI hg) (by omega) (by omega) rfl rfl h hs hgo
end
theorem w_left : ∀ d : Fin 6, wX d - wX (d + 5) = wX (d + 1) ∧ wY d - wY (d + 5) = wY (d + 1) := by decide
structure WalkPre (n : Int) (lb lw : Addr) (bv : List Value) (aW : Fin 6 → Addr) (tW uW : Fin 6 → Tok) (g : Heap) : Prop where
  bits : g.IsList lb bv.toArray
  ways : g.IsList lw #[.ref (aW 0), .ref (aW 1), .ref (aW 2), .ref (aW 3), .ref (aW 4), .ref (aW 5)]
  way : ∀ d, g.get? (aW d) = some (tupI (wX d) (wY d) (tW d) (uW d))
inductive WalkInv (n : Int) (bs : List Int) (lb lw : Addr) (tn : Tok) (i : Nat) (m : Str → Option Value) (news : List (Addr × Obj)) : Prop
  | mk (rx ry cx cy more : Int) (d : Fin 6) (aR aB : Addr) (t1 t2 t3 t4 t5 : Tok) (qb0 : (∀ p ∈ ([(Str.ofString "red", .ref aR), (Str.ofString "blue", .ref aB), (Str.ofString "more", .int more t5), (Str.ofString "size", .int n tn), (Str.ofString "bits", .ref lb), (Str.ofString "ways", .ref lw)] : List (Str × Value)), m p.1 = some p.2)) (qb1 : news = [(aB, tupI cx cy t3 t4), (aR, tupI rx ry t1 t2)]) (qb2 : cx = rx + wX d) (qb3 : cy = ry + wY d) (qb4 : walkF n bs (walkTurns n) (-1) n 0 0 = walkF n bs (walkTurns n - i) rx ry d more) : WalkInv n bs lb lw tn i m news
theorem walk_low0 : ∀ d : Fin 6, (if wY d < wX d then (if 0 < wY d then 0 else wY d) else (if 0 < wX d then 0 else wX d)) = (if 3 ≤ d.val then (-1 : Int) else 0) := by decide
theorem walk_low {rx ry cx cy : Int} {d : Fin 6} (hx : cx = rx + wX d) (hy : cy = ry + wY d) : (if cy - ry < cx - rx then (if 0 < cy - ry then 0 else cy - ry) else (if 0 < cx - rx then 0 else cx - rx)) = (if 3 ≤ d.val then (-1 : Int) else 0) := by
  subst hx hy
  have e1 : rx + wX d - rx = wX d := by omega
  have e2 : ry + wY d - ry = wY d := by omega
  rw [e1, e2]
  exact walk_low0 d
local macro_rules | `(tactic| walk_at $s:str) => if ["pyIter ref", "UnrEnd", "call builtin:min", "call builtin:max", "call ref", "subscriptTail Name BinOp ref int"].contains s.getString then `(tactic| refine hold_in ?_) else Lean.Macro.throwUnsupported
local macro_rules | `(tactic| walk_at "subscriptTail") => `(tactic| ((with_reducible show wpAny _ _ (subscriptTail (Expr.Name (Str.ofString "way") _) _ (Value.ref _) (Value.int _ _)) _ _ _); (rename WalkPre _ _ _ _ _ _ _ _ => hwp); (first | (with_reducible refine' way_0 ?k1 ?_) | (with_reducible refine' way_1 ?k1 ?_)); (case k1 => exact Fr.keep (by k_asm) _ _ (hwp.way _))))
local macro_rules | `(tactic| walk_at "eval Call") => `(tactic| ((with_reducible show wpAny _ _ (eval (PySem.Expr.Call (PySem.Expr.Name (Str.ofString "_law_is_red") _) _ _ _) _) _ _ _); k_dflt (refine Call_ ?_)))
set_option maxHeartbeats 8000000 in
theorem does_walk {w : World} {p : Program} {loose : List Str} {mean : ExcName → Option Value} {mg mb : Str → Option Value} {n : Int} {tn : Tok} {lb lw : Addr} {bv : List Value} {bs : List Int} {aW : Fin 6 → Addr} {tW uW : Fin 6 → Tok}
    (hints : IntsAre bv bs) (hlen : bs.length = (n * (n + 1)).toNat) (hn : n = 3 ∨ n = 4) :
    Does w p loose mean mg mb 3 24 (WalkPre n lb lw bv aW tW uW) (.ref 151) [.int n tn, .ref lb, .ref lw] [] (fun v mu' => ∃ q t u, v = .ref q ∧ mu' = [(q, tupI (walkF n bs (walkTurns n) (-1) n 0 0).1 (walkF n bs (walkTurns n) (-1) n 0 0).2 t u)]) := by
  intro dp un gd cn cs a ccd cl outer A₀ base h₀ L m s Q E still hB hF hX hN hap hT hk hP hdp hun hret
  ((have hfill := hd_kept; (have : hd_kept = hd_kept := by (revert hfill; k_fill; intro _; rfl)); clear this hfill))
  ((refine wpAny_call ?_; k_dflt (refine' enter_top ?k1 ?k2 ?k3 ?k4 ?k4a ?k5 ?kA ?kF ?kK ?k6 ?k7 ?k8 ?k9 ?kB ?_ ?c2 ?c3 ?c4 ?c5; (case kA => exact rfl); (case kF => exact rfl); (case kK => first | exact rfl | assumption); (case k1 => k_asm); (case k2 => k_asm); (case k3 => k_asm); (case k4 => k_asm); (case k4a => k_asm); (case k5 => k_asm); (case k6 => k_is); (case k7 => k_is); (case k8 => ktr_room); (case k9 => exact BindsTo.of_eq (by rfl)); (case c5 => decide); (case kB => exact locs rfl); (case c2 => exact rfl); (case c3 => exact rfl); (case c4 => exact rfl); k_whole; intro g8' L8' h8' tk8' FG8' F8' N8' B8' X8' T8' st8' stl8' l8'; (dsimp only [List.map, List.zip, List.zipWith, List.reverse, List.reverseAux, withB] at F8'); (try dsimp only); (try k_lift B8'); (try k_fold))))
  have hp := hP _ (by assumption) (by assumption)
  walk_at "hx_steps"
  refine hold_out ?_
  (rename IsRange _ _ _ _ _ _ _ _ => hR)
  k_dflt (refine' iter_rangeUnr (n := walkTurns n) (by rfl) hR ?k1 ?k2 ?k3 ?k4 ?k5; (case k1 => (rcases hn with rfl | rfl <;> decide)); (case k2 => (rcases hn with rfl | rfl <;> decide)); (case k3 => assumption); (case k4 => assumption))
  intro I hI
  clear hI
  refine range_inv (WalkInv n bs lb lw tn) ?turn ?done _ 0 _ _ (by rw [Nat.add_zero]) ?start
  case start =>
    refine' ⟨-1, n, 0, n, 0, 0, _, _, _, _, _, _, ?t5, ?hm, rfl, rfl, (by simp [wY]), rfl⟩
    case hm =>
      repeat' (first | exact facts_nil | refine facts_cons rfl ?_ | exact List.forall_mem_nil _ | (refine' fmc ?qf9 (?_); (case qf9 => rfl)))
  case done =>
    rintro m2 news2 h2 tk2 ⟨rx, ry, cx, cy, more, d, aR, aB, t1, t2, t3, t4, t5, hm, rfl, hcx, hcy, hW⟩ F2 N2
    dsimp only
    replace F2 := fr_withB0 _ hm F2
    clear hm
    dsimp only [withB] at F2
    walk_at "hx_steps"
    (rename News _ _ _ (_ :: _) => hN9); (replace hN9 := news_sub (r := [_]) hN9 (fmc (.head _) (fun _ h => nomatch h)))
    (((first | refine hQ8' _ _ ?_ | refine hold_out ?_); refine' leaveS_ ?hxF ?hxN ?_; (case hxF => k_asm); (case hxN => k_asm); intro kF kN kD; (rename ∀ (v : Value) (mu' : List (Addr × Obj)) (h' : Heap) (tk' : Nat), _ → _ → _ → _ → _ => hxR); refine hxR _ _ _ _ kF kN kD ?_; clear hxR; try dsimp only))
    rw [hW, Nat.sub_self]
    exact ⟨_, _, _, rfl, rfl⟩
  case turn =>
    rintro i m2 news2 t2 h2 tk2 hi ⟨rx, ry, cx, cy, more, d, aR, aB, t1, t2, t3, t4, t5, hm, rfl, hcx, hcy, hW⟩ F2 N2
    replace F2 := fr_withB _ hm F2
    clear hm
    dsimp only [withB] at F2
    refine wpAny_cut ?_
    intro QC EC hQC
    walk_at "hx_steps"
    refine hold_out ?_
    k_dflt (refine' min3_lit (M := if 3 ≤ d.val then -1 else 0) ?k1 ?k2 ?k3 ?k4 ?_; (case k1 => rfl); (case k2 => k_asm); (case k3 => k_asm); (case k4 => exact walk_low hcx hcy); intro h' tk' t' F' N')
    walk_at "hx_steps"
    refine hold_out ?_
    k_dflt (refine' Does.use0 (does_rgb d ?r1 ?r2 ?r3) ?b1 ?b2 ?b3 ?b4 ?b5 ?b6 ?b7 ?b8 ?b9 ?_; (((case b1 => k_asm); (case b2 => k_asm); (case b3 => k_asm); (case b4 => k_asm); (case b5 => k_asm); (case b6 => first | exact rfl | assumption); (case b8 => (first | (refine' room0 ?qh ?qb; (case qh => assumption); (case qb => exact Nat.le_of_ble_eq_true rfl)) | (refine' room1 ?qh ?qb; (case qh => assumption); (case qb => exact Nat.le_of_ble_eq_true rfl)) | (refine' room2 ?qh ?qb; (case qh => assumption); (case qb => exact Nat.le_of_ble_eq_true rfl)) | omega | ((try simp only [depth_under_make, depth_under_kw, depth_in1, depth_deeper, depth_caller, units_in1, units_deeper, Around.mark_units, units_caller]); (try dsimp only [ktrTop]); omega))); (case b9 => (first | (refine' room0 ?qh ?qb; (case qh => assumption); (case qb => exact Nat.le_of_ble_eq_true rfl)) | (refine' room1 ?qh ?qb; (case qh => assumption); (case qb => exact Nat.le_of_ble_eq_true rfl)) | (refine' room2 ?qh ?qb; (case qh => assumption); (case qb => exact Nat.le_of_ble_eq_true rfl)) | omega | ((try simp only [depth_under_make, depth_under_kw, depth_in1, depth_deeper, depth_caller, units_in1, units_deeper, Around.mark_units, units_caller]); (try dsimp only [ktrTop]); omega))))); (case b7 => (intros; trivial)); (case r1 => rw [hcx]; omega); (case r2 => rw [hcy]; omega); (case r3 => rfl))
    intro v' mu' h' tk' F' N' D' P'
    obtain ⟨q', y', z', t1', t2', t3', e1', e2'⟩ := P'
    subst e1' e2'
    clear D'
    (simp only [List.cons_append, List.nil_append, List.append_nil] at N')
    (try dsimp only)
    walk_at "hx_steps"
    refine hold_out ?_; (with_reducible refine' fl_mul_fi ?k0 ?k1 ?k2 ?_); (case k0 => exact rfl); (case k1 => decide +kernel); (case k2 => exact rfl); intro t1 tk1; try dsimp only
    walk_at "hx_steps"
    refine hold_out ?_; (with_reducible refine' fl_round (k := d.val) ?k0 ?k1 ?k2 ?k3 ?_); (case k0 => exact rfl); (case k1 => (rw [(hue_six d).1]; decide)); (case k2 => (rw [(hue_six d).2.1]; decide)); (case k3 => exact (hue_six d).2.2); intro t1 tk1; try dsimp only
    walk_at "hx_steps"
    refine hold_out ?_
    (with_reducible refine' item_at ?k1 (ways_item aW d).1 (ways_item aW d).2.1 (ways_item aW d).2.2 ?_); (case k1 => exact hp.ways.at fun o e => Fr.keep (by k_asm) _ o e)
    walk_at "hx_steps"
    refine hold_out ?_
    (rename News _ _ _ (_ :: _) => hN9); have hN8 := (hN9 _ (.head _)).1; (with_reducible refine' min_tupI ?k1 ?k2 hN9 (isTup_tupI hN8) ?_); (case k1 => exact rfl); (case k2 => k_asm); intro h' tk' t' F' N'; clear hN9 hN8; try dsimp only
    walk_at "hx_steps"
    · refine hQC _ _ ?_
      try dsimp only
      walk_at "hx_steps"
      (rename News _ _ _ (_ :: _) => hN9); (replace hN9 := news_sub (r := [_]) hN9 (fmc (.head _) (fun _ h => nomatch h)))
      (((first | refine hQ8' _ _ ?_ | refine hold_out ?_); refine' leaveS_ ?hxF ?hxN ?_; (case hxF => k_asm); (case hxN => k_asm); intro kF kN kD; (rename ∀ (v : Value) (mu' : List (Addr × Obj)) (h' : Heap) (tk' : Nat), _ → _ → _ → _ → _ => hxR); refine hxR _ _ _ _ kF kN kD ?_; clear hxR; try dsimp only))
      obtain ⟨k, hk⟩ : ∃ k, walkTurns n - i = k + 1 := succ_of (by assumption)
      rw [hW, hk]
      unfold walkF
      subst hcx hcy
      rw [if_pos (by left; assumption)]
      exact ⟨_, _, _, rfl, rfl⟩
    refine hold_out ?_
    (rename News _ _ _ (_ :: _) => hN9); have hN8 := (hN9 _ (.head _)).1; (with_reducible refine' max_tupI ?k1 ?k2 hN9 (isTup_tupI hN8) ?_); (case k1 => exact rfl); (case k2 => k_asm); intro h' tk' t' F' N'; clear hN9 hN8; try dsimp only
    walk_at "hx_steps"
    · refine hQC _ _ ?_
      try dsimp only
      walk_at "hx_steps"
      (rename News _ _ _ (_ :: _) => hN9); (replace hN9 := news_sub (r := [_]) hN9 (fmc (.head _) (fun _ h => nomatch h)))
      (((first | refine hQ8' _ _ ?_ | refine hold_out ?_); refine' leaveS_ ?hxF ?hxN ?_; (case hxF => k_asm); (case hxN => k_asm); intro kF kN kD; (rename ∀ (v : Value) (mu' : List (Addr × Obj)) (h' : Heap) (tk' : Nat), _ → _ → _ → _ → _ => hxR); refine hxR _ _ _ _ kF kN kD ?_; clear hxR; try dsimp only))
      obtain ⟨k, hk⟩ : ∃ k, walkTurns n - i = k + 1 := succ_of (by assumption)
      rw [hW, hk]
      unfold walkF
      subst hcx hcy
      rw [if_pos (by right; omega)]
      exact ⟨_, _, _, rfl, rfl⟩
    refine hold_out ?_
    k_dflt (refine' Does.use0E (does_isred (n := n) (bs := bs) hints hlen ?n4) ?b1 ?b2 ?b3 ?b4 ?b5 ?b6 ?b7 ?b8 ?b9 ?_; (((case b1 => k_asm); (case b2 => k_asm); (case b3 => k_asm); (case b4 => k_asm); (case b5 => k_asm); (case b6 => first | exact rfl | assumption); (case b8 => (first | (refine' room0 ?qh ?qb; (case qh => assumption); (case qb => exact Nat.le_of_ble_eq_true rfl)) | (refine' room1 ?qh ?qb; (case qh => assumption); (case qb => exact Nat.le_of_ble_eq_true rfl)) | (refine' room2 ?qh ?qb; (case qh => assumption); (case qb => exact Nat.le_of_ble_eq_true rfl)) | omega | ((try simp only [depth_under_make, depth_under_kw, depth_in1, depth_deeper, depth_caller, units_in1, units_deeper, Around.mark_units, units_caller]); (try dsimp only [ktrTop]); omega))); (case b9 => (first | (refine' room0 ?qh ?qb; (case qh => assumption); (case qb => exact Nat.le_of_ble_eq_true rfl)) | (refine' room1 ?qh ?qb; (case qh => assumption); (case qb => exact Nat.le_of_ble_eq_true rfl)) | (refine' room2 ?qh ?qb; (case qh => assumption); (case qb => exact Nat.le_of_ble_eq_true rfl)) | omega | ((try simp only [depth_under_make, depth_under_kw, depth_in1, depth_deeper, depth_caller, units_in1, units_deeper, Around.mark_units, units_caller]); (try dsimp only [ktrTop]); omega))))); (case n4 => omega); (case b7 => (intro g hg hs; (rename WalkPre _ _ _ _ _ _ _ _ => hwp); exact hwp.bits.at fun o e => hg _ o e)))
    intro h' tk' F' N'
    (try dsimp only)
    walk_at "hx_steps"
    · refine hQC _ _ ?_
      try dsimp only
      walk_at "hx_steps"
      refine hold_out ?_
      (rename News _ _ _ (_ :: _) => hN9); (rename Fr _ _ _ _ => hF9)
      refine' unrEnd_ hF9 hN9 [(_, tupI cx cy _ _), (_, tupI (rx + wX (d + 5)) (ry + wY (d + 5)) _ _)] ?sub ?hc ?r
      case sub => (refine' fmc ?km1 (fmc ?km2 (fmc ?km3 (fun _ h => nomatch h))); (case km1 => k_mem); (case km2 => k_mem); (case km3 => k_mem))
      case hc => (refine' fmc ?km1 (fmc ?km2 (fun _ h => nomatch h)); (case km1 => (show (Value.type "tuple" : Value) ≠ Value.type "range_iterator"; simp)); (case km2 => (show (Value.type "tuple" : Value) ≠ Value.type "range_iterator"; simp)))
      case r =>
        obtain ⟨k, hk⟩ : ∃ k, walkTurns n - i = k + 1 := succ_of (by assumption)
        refine' ⟨_, _, _, _, more + 1, d + 1, _, _, _, _, _, _, _, ?hm, rfl, ?h1, ?h2, ?h3⟩
        case hm =>
          repeat' (first | exact facts_nil | refine facts_cons rfl ?_ | exact List.forall_mem_nil _ | (refine' fmc ?qf9 (?_); (case qf9 => rfl)))
        case h1 => (have := (w_left d).1; omega)
        case h2 => (have := (w_left d).2; omega)
        case h3 =>
          rw [hW, hk]
          conv => lhs; unfold walkF
          subst hcx hcy
          rw [if_neg (by omega), if_pos (by assumption)]
          exact congrArg (fun z => walkF n bs z _ _ _ _) (by first | exact (pred_of hk).symm | exact pred_of hk | omega)
    · refine hQC _ _ ?_
      try dsimp only
      walk_at "hx_steps"
      refine hold_out ?_
      (rename News _ _ _ (_ :: _) => hN9); (rename Fr _ _ _ _ => hF9)
      refine' unrEnd_ hF9 hN9 [(_, tupI (rx + wX (d + 5)) (ry + wY (d + 5)) _ _), (_, tupI rx ry _ _)] ?sub ?hc ?r
      case sub => (refine' fmc ?km1 (fmc ?km2 (fmc ?km3 (fun _ h => nomatch h))); (case km1 => k_mem); (case km2 => k_mem); (case km3 => k_mem))
      case hc => (refine' fmc ?km1 (fmc ?km2 (fun _ h => nomatch h)); (case km1 => (show (Value.type "tuple" : Value) ≠ Value.type "range_iterator"; simp)); (case km2 => (show (Value.type "tuple" : Value) ≠ Value.type "range_iterator"; simp)))
      case r =>
        obtain ⟨k, hk⟩ : ∃ k, walkTurns n - i = k + 1 := succ_of (by assumption)
        refine' ⟨_, _, _, _, more - 1, d + 5, _, _, _, _, _, _, _, ?hm, rfl, ?h1, ?h2, ?h3⟩
        case hm =>
          repeat' (first | exact facts_nil | refine facts_cons rfl ?_ | exact List.forall_mem_nil _ | (refine' fmc ?qf9 (?_); (case qf9 => rfl)))
        case h1 => rfl
        case h2 => rfl
        case h3 =>
          rw [hW, hk]
          conv => lhs; unfold walkF
          subst hcx hcy
          rw [if_neg (by omega), if_neg (by first | assumption | (rw [Bool.not_eq_true]; assumption))]
          exact congrArg (fun z => walkF n bs z _ _ _ _) (by first | exact (pred_of hk).symm | exact pred_of hk | omega)
end
section
theorem off_A32_rounds : True := by (w_top off); first | walk1 | trivial
noncomputable def growF (own wd have' : Nat) : Nat :=
  own &&& ((((((have' ||| have' <<< 1) ||| have' >>> 1) ||| have' <<< wd) ||| have' >>> wd) ||| have' <<< (wd + 1)) ||| have' >>> (wd + 1))
noncomputable def roundsF (own far wd : Nat) : Nat → Nat → Nat → Nat
  | 0, _, _ => 0
  | k + 1, c, h => if h &&& far ≠ 0 then c else roundsF own far wd k (c + 1) (growF own wd h)
theorem grow_lt {own wd h : Nat} (ho : own < 2 ^ 30) : growF own wd h < 2 ^ 30 := Nat.lt_of_le_of_lt Nat.and_le_left ho
inductive RoundsInv (own near far wd : Nat) (tO tF tW : Tok) (i : Nat) (m : Str → Option Value) (news : List (Addr × Obj)) : Prop
  | mk (h : Nat) (t1 : Tok) (qb0 : (∀ p ∈ ([(Str.ofString "have", .int h t1), (Str.ofString "own", .int own tO), (Str.ofString "far", .int far tF), (Str.ofString "wide", .int wd tW)] : List (Str × Value)), m p.1 = some p.2)) (qb1 : news = []) (qb2 : h < 2 ^ 30) (qb3 : roundsF own far wd (wd * wd - 1) 1 (own &&& near) = roundsF own far wd (wd * wd - 1 - i) (1 + i) h) : RoundsInv own near far wd tO tF tW i m news
local macro_rules | `(tactic| walk_at $s:str) => if ["pyIter ref", "UnrEnd"].contains s.getString then `(tactic| refine hold_in ?_) else Lean.Macro.throwUnsupported
local macro_rules | `(tactic| walk_at "binaryOp BitAnd int int") => `(tactic| ((with_reducible refine nat_and ?_); intro t1 tk1))
local macro_rules | `(tactic| walk_at "binaryOp BitOr int int") => `(tactic| ((with_reducible refine nat_or ?_); intro t1 tk1))
local macro_rules | `(tactic| walk_at "binaryOp LShift int int") => `(tactic| ((with_reducible refine' nat_shl ?k1 ?k2 ?k3 ?_); (case k1 => first | exact one_nat | exact rfl | exact succ_nat _); (case k2 => omega); (case k3 => omega); intro t1 tk1))
local macro_rules | `(tactic| walk_at "binaryOp RShift int int") => `(tactic| ((with_reducible refine' nat_shr ?k1 ?_); (case k1 => first | exact one_nat | exact rfl | exact succ_nat _); intro t1 tk1))
set_option maxHeartbeats 8000000 in
theorem does_rounds {w : World} {p : Program} {loose : List Str} {mean : ExcName → Option Value} {mg mb : Str → Option Value} {own near far wd : Nat} {tO tN tF tW : Tok}
    (ho : own < 2 ^ 30) (hw : wd = 4 ∨ wd = 5) :
    Does w p loose mean mg mb 2 16 NoPre (.ref 163) [.int own tO, .int near tN, .int far tF, .int wd tW] [] (fun v mu' => ∃ t, v = .int (roundsF own far wd (wd * wd - 1) 1 (own &&& near) : Nat) t ∧ mu' = []) := by
  intro dp un gd cn cs a ccd cl outer A₀ base h₀ L m s Q E still hB hF hX hN hap hT hk hP hdp hun hret
  have hwd : wd ≤ 5 := by omega
  ((have hfill := hd_kept; (have : hd_kept = hd_kept := by (revert hfill; k_fill; intro _; rfl)); clear this hfill))
  ((refine wpAny_call ?_; k_dflt (refine' enter_top ?k1 ?k2 ?k3 ?k4 ?k4a ?k5 ?kA ?kF ?kK ?k6 ?k7 ?k8 ?k9 ?kB ?_ ?c2 ?c3 ?c4 ?c5; (case kA => exact rfl); (case kF => exact rfl); (case kK => first | exact rfl | assumption); (case k1 => k_asm); (case k2 => k_asm); (case k3 => k_asm); (case k4 => k_asm); (case k4a => k_asm); (case k5 => k_asm); (case k6 => k_is); (case k7 => k_is); (case k8 => ktr_room); (case k9 => exact BindsTo.of_eq (by rfl)); (case c5 => decide); (case kB => exact locs rfl); (case c2 => exact rfl); (case c3 => exact rfl); (case c4 => exact rfl); k_whole; intro g8' L8' h8' tk8' FG8' F8' N8' B8' X8' T8' st8' stl8' l8'; (dsimp only [List.map, List.zip, List.zipWith, List.reverse, List.reverseAux, withB] at F8'); (try dsimp only); (try k_lift B8'); (try k_fold))))
  walk_at "hx_steps"
  refine hold_out ?_
  (rename IsRange _ _ _ _ _ _ _ _ => hR)
  k_dflt (refine' iter_rangeUnr (n := wd * wd - 1) (by rfl) hR ?k1 ?k2 ?k3 ?k4 ?k5; (case k1 => (rcases hw with rfl | rfl <;> decide)); (case k2 => (rcases hw with rfl | rfl <;> decide)); (case k3 => assumption); (case k4 => assumption))
  intro I hI
  clear hI
  refine range_inv (RoundsInv own near far wd tO tF tW) ?turn ?done _ 0 _ _ (by rw [Nat.add_zero]) ?start
  case start =>
    refine' ⟨own &&& near, _, ?hm, rfl, Nat.lt_of_le_of_lt Nat.and_le_left ho, rfl⟩
    case hm =>
      repeat' (first | exact facts_nil | refine facts_cons rfl ?_ | exact List.forall_mem_nil _ | (refine' fmc ?qf9 (?_); (case qf9 => rfl)))
  case done =>
    rintro m2 news2 h2 tk2 ⟨h, t1, hm, rfl, hlt, hW⟩ F2 N2
    dsimp only
    replace F2 := fr_withB0 _ hm F2
    clear hm
    dsimp only [withB] at F2
    walk_at "hx_steps"
    (((first | refine hQ8' _ _ ?_ | refine hold_out ?_); refine' leaveS_ ?hxF ?hxN ?_; (case hxF => k_asm); (case hxN => k_asm); intro kF kN kD; (rename ∀ (v : Value) (mu' : List (Addr × Obj)) (h' : Heap) (tk' : Nat), _ → _ → _ → _ → _ => hxR); refine hxR _ _ _ _ kF kN kD ?_; clear hxR; try dsimp only))
    rw [hW, Nat.sub_self]
    exact ⟨_, rfl, rfl⟩
  case turn =>
    rintro i m2 news2 t2 h2 tk2 hi ⟨h, t1, hm, rfl, hlt, hW⟩ F2 N2
    replace F2 := fr_withB _ hm F2
    clear hm
    dsimp only [withB] at F2
    refine wpAny_cut ?_
    intro QC EC hQC
    walk_at "hx_steps"
    · refine hQC _ _ ?_
      try dsimp only
      walk_at "hx_steps"
      (rename News _ _ _ (_ :: _) => hN9); (replace hN9 := news_sub (r := []) hN9 (fun _ h => nomatch h))
      (((first | refine hQ8' _ _ ?_ | refine hold_out ?_); refine' leaveS_ ?hxF ?hxN ?_; (case hxF => k_asm); (case hxN => k_asm); intro kF kN kD; (rename ∀ (v : Value) (mu' : List (Addr × Obj)) (h' : Heap) (tk' : Nat), _ → _ → _ → _ → _ => hxR); refine hxR _ _ _ _ kF kN kD ?_; clear hxR; try dsimp only))
      obtain ⟨k, hk⟩ : ∃ k, wd * wd - 1 - i = k + 1 := succ_of hi
      rw [hW, hk]
      unfold roundsF
      rw [if_pos (by omega)]
      exact ⟨_, congrArg (fun z => Value.int z _) (by omega), rfl⟩
    · refine hQC _ _ ?_
      try dsimp only
      walk_at "hx_steps"
      refine hold_out ?_
      (rename News _ _ _ (_ :: _) => hN9); (rename Fr _ _ _ _ => hF9)
      refine' unrEnd_ hF9 hN9 [] ?sub ?hc ?r
      case sub => (refine' fmc ?km1 (fun _ h => nomatch h); (case km1 => k_mem))
      case hc => exact fun _ h => nomatch h
      case r =>
        obtain ⟨k, hk⟩ : ∃ k, wd * wd - 1 - i = k + 1 := succ_of hi
        refine' ⟨growF own wd h, _, ?hm, rfl, grow_lt ho, ?h3⟩
        case hm =>
          repeat' (first | exact facts_nil | refine facts_cons rfl ?_ | exact List.forall_mem_nil _ | (refine' fmc ?qf9 (?_); (case qf9 => rfl)))
        case h3 =>
          rw [hW, hk]
          conv => lhs; unfold roundsF
          rw [if_neg (by omega)]
          have e1 : wd * wd - 1 - (i + 1) = k := pred_of hk
          have e2 : 1 + (i + 1) = 1 + i + 1 := rfl
          rw [e1, e2]
end
section
theorem off_A33_board : True := by (w_top off); first | walk1 | trivial
set_option maxHeartbeats 8000000 in
theorem does_board3 {w : World} {p : Program} {loose : List Str} {mean : ExcName → Option Value} {mg mb : Str → Option Value} {tn : Tok} :
    Does w p loose mean mg mb 2 16 NoPre (.ref 173) [.int 3 tn] [] (fun v mu' => ∃ t, v = .int ((1911 : Nat) : Int) t ∧ mu' = []) := by
  intro dp un gd cn cs a ccd cl outer A₀ base h₀ L m s Q E still hB hF hX hN hap hT hk hP hdp hun hret
  ((have hfill := hd_kept; (have : hd_kept = hd_kept := by (revert hfill; k_fill; intro _; rfl)); clear this hfill))
  ((refine wpAny_call ?_; k_dflt (refine' enter_topCQ ?k1 ?k2 ?k3 ?k4 ?k4a ?k5 ?kA ?kF ?kK ?k6 ?k7 ?k8 ?k9 ?kB ?kD ?_ ?c2 ?c3 ?c4; (case kA => exact rfl); (case kF => exact rfl); (case kK => first | exact rfl | assumption); (case k1 => k_asm); (case k2 => k_asm); (case k3 => k_asm); (case k4 => k_asm); (case k4a => k_asm); (case k5 => k_asm); (case k6 => k_is); (case k7 => k_is); (case k8 => ktr_room); (case k9 => exact BindsTo.of_eq rfl); (case kB => exact rfl); (case kD => decide +kernel); (case c2 => exact rfl); (case c3 => exact rfl); (case c4 => exact rfl); k_whole; intro g8' L8' h8' tk8' cells8' FG8' F8' N8' Y8' B8' X8' T8' st8' stl8' l18 Q8' E8' hQ8'; (try k_lt l18); k_cells Y8'; (try simp only [List.cons_append, List.nil_append, List.append_nil] at N8'); (try dsimp only); (try k_lift B8'); (try k_fold))))
  walk_at "hx_steps"
  (rename News _ _ _ (_ :: _) => hN9); (replace hN9 := news_sub (r := []) hN9 (fun _ h => nomatch h))
  (((first | refine hQ8' _ _ ?_ | refine hold_out ?_); refine' leaveS_ ?hxF ?hxN ?_; (case hxF => k_asm); (case hxN => k_asm); intro kF kN kD; (rename ∀ (v : Value) (mu' : List (Addr × Obj)) (h' : Heap) (tk' : Nat), _ → _ → _ → _ → _ => hxR); refine hxR _ _ _ _ kF kN kD ?_; clear hxR; try dsimp only))
  exact ⟨_, congrArg (fun z => Value.int z _) (by decide +kernel), rfl⟩
set_option maxHeartbeats 8000000 in
theorem does_board4 {w : World} {p : Program} {loose : List Str} {mean : ExcName → Option Value} {mg mb : Str → Option Value} {tn : Tok} :
    Does w p loose mean mg mb 2 16 NoPre (.ref 173) [.int 4 tn] [] (fun v mu' => ∃ t, v = .int ((507375 : Nat) : Int) t ∧ mu' = []) := by
  intro dp un gd cn cs a ccd cl outer A₀ base h₀ L m s Q E still hB hF hX hN hap hT hk hP hdp hun hret
  ((have hfill := hd_kept; (have : hd_kept = hd_kept := by (revert hfill; k_fill; intro _; rfl)); clear this hfill))
  ((refine wpAny_call ?_; k_dflt (refine' enter_topCQ ?k1 ?k2 ?k3 ?k4 ?k4a ?k5 ?kA ?kF ?kK ?k6 ?k7 ?k8 ?k9 ?kB ?kD ?_ ?c2 ?c3 ?c4; (case kA => exact rfl); (case kF => exact rfl); (case kK => first | exact rfl | assumption); (case k1 => k_asm); (case k2 => k_asm); (case k3 => k_asm); (case k4 => k_asm); (case k4a => k_asm); (case k5 => k_asm); (case k6 => k_is); (case k7 => k_is); (case k8 => ktr_room); (case k9 => exact BindsTo.of_eq rfl); (case kB => exact rfl); (case kD => decide +kernel); (case c2 => exact rfl); (case c3 => exact rfl); (case c4 => exact rfl); k_whole; intro g8' L8' h8' tk8' cells8' FG8' F8' N8' Y8' B8' X8' T8' st8' stl8' l18 Q8' E8' hQ8'; (try k_lt l18); k_cells Y8'; (try simp only [List.cons_append, List.nil_append, List.append_nil] at N8'); (try dsimp only); (try k_lift B8'); (try k_fold))))
  walk_at "hx_steps"
  (rename News _ _ _ (_ :: _) => hN9); (replace hN9 := news_sub (r := []) hN9 (fun _ h => nomatch h))
  (((first | refine hQ8' _ _ ?_ | refine hold_out ?_); refine' leaveS_ ?hxF ?hxN ?_; (case hxF => k_asm); (case hxN => k_asm); intro kF kN kD; (rename ∀ (v : Value) (mu' : List (Addr × Obj)) (h' : Heap) (tk' : Nat), _ → _ → _ → _ → _ => hxR); refine hxR _ _ _ _ kF kN kD ?_; clear hxR; try dsimp only))
  exact ⟨_, congrArg (fun z => Value.int z _) (by decide +kernel), rfl⟩
end
section
theorem off_A34_fewest : True := by (w_top off); first | walk1 | trivial
local macro_rules | `(tactic| walk_at "call ref") => `(tactic| refine hold_in ?_)
theorem does_roundsE {w : World} {p : Program} {loose : List Str} {mean : ExcName → Option Value} {mg mb : Str → Option Value} {own near far wd : Nat} {near' far' wd' : Int} {tO tN tF tW : Tok}
    (hn : near' = near) (hf : far' = far) (hw' : wd' = wd) (ho : own < 2 ^ 30) (hw : wd = 4 ∨ wd = 5) :
    Does w p loose mean mg mb 2 16 NoPre (.ref 163) [.int own tO, .int near' tN, .int far' tF, .int wd' tW] [] (fun v mu' => ∃ t, v = .int (roundsF own far wd (wd * wd - 1) 1 (own &&& near) : Nat) t ∧ mu' = []) := by
  subst hn hf hw'; exact does_rounds ho hw
set_option maxHeartbeats 8000000 in
theorem does_fewest3r {w : World} {p : Program} {loose : List Str} {mean : ExcName → Option Value} {mg mb : Str → Option Value} {tn tO : Tok} {own : Nat} (ho : own < 2 ^ 30) :
    Does w p loose mean mg mb 4 24 NoPre (.ref 168) [.int own tO, .int 3 tn, .bool true] [] (fun v mu' => ∃ t, v = .int (roundsF own 1092 4 15 1 (own &&& 273) : Nat) t ∧ mu' = []) := by
  intro dp un gd cn cs a ccd cl outer A₀ base h₀ L m s Q E still hB hF hX hN hap hT hk hP hdp hun hret
  ((have hfill := hd_kept; (have : hd_kept = hd_kept := by (revert hfill; k_fill; intro _; rfl)); clear this hfill))
  ((refine wpAny_call ?_; k_dflt (refine' enter_topCQ ?k1 ?k2 ?k3 ?k4 ?k4a ?k5 ?kA ?kF ?kK ?k6 ?k7 ?k8 ?k9 ?kB ?kD ?_ ?c2 ?c3 ?c4; (case kA => exact rfl); (case kF => exact rfl); (case kK => first | exact rfl | assumption); (case k1 => k_asm); (case k2 => k_asm); (case k3 => k_asm); (case k4 => k_asm); (case k4a => k_asm); (case k5 => k_asm); (case k6 => k_is); (case k7 => k_is); (case k8 => ktr_room); (case k9 => exact BindsTo.of_eq rfl); (case kB => exact rfl); (case kD => decide +kernel); (case c2 => exact rfl); (case c3 => exact rfl); (case c4 => exact rfl); k_whole; intro g8' L8' h8' tk8' cells8' FG8' F8' N8' Y8' B8' X8' T8' st8' stl8' l18 Q8' E8' hQ8'; (try k_lt l18); k_cells Y8'; (try simp only [List.cons_append, List.nil_append, List.append_nil] at N8'); (try dsimp only); (try k_lift B8'); (try k_fold))))
  walk_at "hx_steps"
  refine hold_out ?_
  k_dflt (refine' Does.use0T (does_roundsE (near := 273) (far := 1092) (wd := 4) ?r1 ?r2 ?r3 ho ?r4) ?b1 ?b2 ?b3 ?b4 ?b5 ?b6 ?b7 ?b8 ?b9 ?_; (((case b1 => k_asm); (case b2 => k_asm); (case b3 => k_asm); (case b4 => k_asm); (case b5 => k_asm); (case b6 => first | exact rfl | assumption); (case b8 => (first | (refine' room0 ?qh ?qb; (case qh => assumption); (case qb => exact Nat.le_of_ble_eq_true rfl)) | (refine' room1 ?qh ?qb; (case qh => assumption); (case qb => exact Nat.le_of_ble_eq_true rfl)) | (refine' room2 ?qh ?qb; (case qh => assumption); (case qb => exact Nat.le_of_ble_eq_true rfl)) | omega | ((try simp only [depth_under_make, depth_under_kw, depth_in1, depth_deeper, depth_caller, units_in1, units_deeper, Around.mark_units, units_caller]); (try dsimp only [ktrTop]); omega))); (case b9 => (first | (refine' room0 ?qh ?qb; (case qh => assumption); (case qb => exact Nat.le_of_ble_eq_true rfl)) | (refine' room1 ?qh ?qb; (case qh => assumption); (case qb => exact Nat.le_of_ble_eq_true rfl)) | (refine' room2 ?qh ?qb; (case qh => assumption); (case qb => exact Nat.le_of_ble_eq_true rfl)) | omega | ((try simp only [depth_under_make, depth_under_kw, depth_in1, depth_deeper, depth_caller, units_in1, units_deeper, Around.mark_units, units_caller]); (try dsimp only [ktrTop]); omega))))); (case b7 => (intros; trivial)); (case r1 => decide +kernel); (case r2 => decide +kernel); (case r3 => decide); (case r4 => decide))
  intro t1' h' tk' F' N'
  (try dsimp only)
  walk_at "hx_steps"
  (rename News _ _ _ (_ :: _) => hN9); (replace hN9 := news_sub (r := []) hN9 (fun _ h => nomatch h))
  (((first | refine hQ8' _ _ ?_ | refine hold_out ?_); refine' leaveS_ ?hxF ?hxN ?_; (case hxF => k_asm); (case hxN => k_asm); intro kF kN kD; (rename ∀ (v : Value) (mu' : List (Addr × Obj)) (h' : Heap) (tk' : Nat), _ → _ → _ → _ → _ => hxR); refine hxR _ _ _ _ kF kN kD ?_; clear hxR; try dsimp only))
  exact ⟨_, rfl, rfl⟩
set_option maxHeartbeats 8000000 in
theorem does_fewest3b {w : World} {p : Program} {loose : List Str} {mean : ExcName → Option Value} {mg mb : Str → Option Value} {tn tO : Tok} {own : Nat} (ho : own < 2 ^ 30) :
    Does w p loose mean mg mb 4 24 NoPre (.ref 168) [.int own tO, .int 3 tn, .bool false] [] (fun v mu' => ∃ t, v = .int (roundsF own 1792 4 15 1 (own &&& 7) : Nat) t ∧ mu' = []) := by
  intro dp un gd cn cs a ccd cl outer A₀ base h₀ L m s Q E still hB hF hX hN hap hT hk hP hdp hun hret
  ((have hfill := hd_kept; (have : hd_kept = hd_kept := by (revert hfill; k_fill; intro _; rfl)); clear this hfill))
  ((refine wpAny_call ?_; k_dflt (refine' enter_topCQ ?k1 ?k2 ?k3 ?k4 ?k4a ?k5 ?kA ?kF ?kK ?k6 ?k7 ?k8 ?k9 ?kB ?kD ?_ ?c2 ?c3 ?c4; (case kA => exact rfl); (case kF => exact rfl); (case kK => first | exact rfl | assumption); (case k1 => k_asm); (case k2 => k_asm); (case k3 => k_asm); (case k4 => k_asm); (case k4a => k_asm); (case k5 => k_asm); (case k6 => k_is); (case k7 => k_is); (case k8 => ktr_room); (case k9 => exact BindsTo.of_eq rfl); (case kB => exact rfl); (case kD => decide +kernel); (case c2 => exact rfl); (case c3 => exact rfl); (case c4 => exact rfl); k_whole; intro g8' L8' h8' tk8' cells8' FG8' F8' N8' Y8' B8' X8' T8' st8' stl8' l18 Q8' E8' hQ8'; (try k_lt l18); k_cells Y8'; (try simp only [List.cons_append, List.nil_append, List.append_nil] at N8'); (try dsimp only); (try k_lift B8'); (try k_fold))))
  walk_at "hx_steps"
  refine hold_out ?_
  k_dflt (refine' Does.use0T (does_roundsE (near := 7) (far := 1792) (wd := 4) ?r1 ?r2 ?r3 ho ?r4) ?b1 ?b2 ?b3 ?b4 ?b5 ?b6 ?b7 ?b8 ?b9 ?_; (((case b1 => k_asm); (case b2 => k_asm); (case b3 => k_asm); (case b4 => k_asm); (case b5 => k_asm); (case b6 => first | exact rfl | assumption); (case b8 => (first | (refine' room0 ?qh ?qb; (case qh => assumption); (case qb => exact Nat.le_of_ble_eq_true rfl)) | (refine' room1 ?qh ?qb; (case qh => assumption); (case qb => exact Nat.le_of_ble_eq_true rfl)) | (refine' room2 ?qh ?qb; (case qh => assumption); (case qb => exact Nat.le_of_ble_eq_true rfl)) | omega | ((try simp only [depth_under_make, depth_under_kw, depth_in1, depth_deeper, depth_caller, units_in1, units_deeper, Around.mark_units, units_caller]); (try dsimp only [ktrTop]); omega))); (case b9 => (first | (refine' room0 ?qh ?qb; (case qh => assumption); (case qb => exact Nat.le_of_ble_eq_true rfl)) | (refine' room1 ?qh ?qb; (case qh => assumption); (case qb => exact Nat.le_of_ble_eq_true rfl)) | (refine' room2 ?qh ?qb; (case qh => assumption); (case qb => exact Nat.le_of_ble_eq_true rfl)) | omega | ((try simp only [depth_under_make, depth_under_kw, depth_in1, depth_deeper, depth_caller, units_in1, units_deeper, Around.mark_units, units_caller]); (try dsimp only [ktrTop]); omega))))); (case b7 => (intros; trivial)); (case r1 => decide +kernel); (case r2 => decide +kernel); (case r3 => decide); (case r4 => decide))
  intro t1' h' tk' F' N'
  (try dsimp only)
  walk_at "hx_steps"
  (rename News _ _ _ (_ :: _) => hN9); (replace hN9 := news_sub (r := []) hN9 (fun _ h => nomatch h))
  (((first | refine hQ8' _ _ ?_ | refine hold_out ?_); refine' leaveS_ ?hxF ?hxN ?_; (case hxF => k_asm); (case hxN => k_asm); intro kF kN kD; (rename ∀ (v : Value) (mu' : List (Addr × Obj)) (h' : Heap) (tk' : Nat), _ → _ → _ → _ → _ => hxR); refine hxR _ _ _ _ kF kN kD ?_; clear hxR; try dsimp only))
  exact ⟨_, rfl, rfl⟩
set_option maxHeartbeats 8000000 in
theorem does_fewest4r {w : World} {p : Program} {loose : List Str} {mean : ExcName → Option Value} {mg mb : Str → Option Value} {tn tO : Tok} {own : Nat} (ho : own < 2 ^ 30) :
    Does w p loose mean mg mb 4 24 NoPre (.ref 168) [.int own tO, .int 4 tn, .bool true] [] (fun v mu' => ∃ t, v = .int (roundsF own 270600 5 24 1 (own &&& 33825) : Nat) t ∧ mu' = []) := by
  intro dp un gd cn cs a ccd cl outer A₀ base h₀ L m s Q E still hB hF hX hN hap hT hk hP hdp hun hret
  ((have hfill := hd_kept; (have : hd_kept = hd_kept := by (revert hfill; k_fill; intro _; rfl)); clear this hfill))
  ((refine wpAny_call ?_; k_dflt (refine' enter_topCQ ?k1 ?k2 ?k3 ?k4 ?k4a ?k5 ?kA ?kF ?kK ?k6 ?k7 ?k8 ?k9 ?kB ?kD ?_ ?c2 ?c3 ?c4; (case kA => exact rfl); (case kF => exact rfl); (case kK => first | exact rfl | assumption); (case k1 => k_asm); (case k2 => k_asm); (case k3 => k_asm); (case k4 => k_asm); (case k4a => k_asm); (case k5 => k_asm); (case k6 => k_is); (case k7 => k_is); (case k8 => ktr_room); (case k9 => exact BindsTo.of_eq rfl); (case kB => exact rfl); (case kD => decide +kernel); (case c2 => exact rfl); (case c3 => exact rfl); (case c4 => exact rfl); k_whole; intro g8' L8' h8' tk8' cells8' FG8' F8' N8' Y8' B8' X8' T8' st8' stl8' l18 Q8' E8' hQ8'; (try k_lt l18); k_cells Y8'; (try simp only [List.cons_append, List.nil_append, List.append_nil] at N8'); (try dsimp only); (try k_lift B8'); (try k_fold))))
  walk_at "hx_steps"
  refine hold_out ?_
  k_dflt (refine' Does.use0T (does_roundsE (near := 33825) (far := 270600) (wd := 5) ?r1 ?r2 ?r3 ho ?r4) ?b1 ?b2 ?b3 ?b4 ?b5 ?b6 ?b7 ?b8 ?b9 ?_; (((case b1 => k_asm); (case b2 => k_asm); (case b3 => k_asm); (case b4 => k_asm); (case b5 => k_asm); (case b6 => first | exact rfl | assumption); (case b8 => (first | (refine' room0 ?qh ?qb; (case qh => assumption); (case qb => exact Nat.le_of_ble_eq_true rfl)) | (refine' room1 ?qh ?qb; (case qh => assumption); (case qb => exact Nat.le_of_ble_eq_true rfl)) | (refine' room2 ?qh ?qb; (case qh => assumption); (case qb => exact Nat.le_of_ble_eq_true rfl)) | omega | ((try simp only [depth_under_make, depth_under_kw, depth_in1, depth_deeper, depth_caller, units_in1, units_deeper, Around.mark_units, units_caller]); (try dsimp only [ktrTop]); omega))); (case b9 => (first | (refine' room0 ?qh ?qb; (case qh => assumption); (case qb => exact Nat.le_of_ble_eq_true rfl)) | (refine' room1 ?qh ?qb; (case qh => assumption); (case qb => exact Nat.le_of_ble_eq_true rfl)) | (refine' room2 ?qh ?qb; (case qh => assumption); (case qb => exact Nat.le_of_ble_eq_true rfl)) | omega | ((try simp only [depth_under_make, depth_under_kw, depth_in1, depth_deeper, depth_caller, units_in1, units_deeper, Around.mark_units, units_caller]); (try dsimp only [ktrTop]); omega))))); (case b7 => (intros; trivial)); (case r1 => decide +kernel); (case r2 => decide +kernel); (case r3 => decide); (case r4 => decide))
  intro t1' h' tk' F' N'
  (try dsimp only)
  walk_at "hx_steps"
  (rename News _ _ _ (_ :: _) => hN9); (replace hN9 := news_sub (r := []) hN9 (fun _ h => nomatch h))
  (((first | refine hQ8' _ _ ?_ | refine hold_out ?_); refine' leaveS_ ?hxF ?hxN ?_; (case hxF => k_asm); (case hxN => k_asm); intro kF kN kD; (rename ∀ (v : Value) (mu' : List (Addr × Obj)) (h' : Heap) (tk' : Nat), _ → _ → _ → _ → _ => hxR); refine hxR _ _ _ _ kF kN kD ?_; clear hxR; try dsimp only))
  exact ⟨_, rfl, rfl⟩
set_option maxHeartbeats 8000000 in
theorem does_fewest4b {w : World} {p : Program} {loose : List Str} {mean : ExcName → Option Value} {mg mb : Str → Option Value} {tn tO : Tok} {own : Nat} (ho : own < 2 ^ 30) :
    Does w p loose mean mg mb 4 24 NoPre (.ref 168) [.int own tO, .int 4 tn, .bool false] [] (fun v mu' => ∃ t, v = .int (roundsF own 491520 5 24 1 (own &&& 15) : Nat) t ∧ mu' = []) := by
  intro dp un gd cn cs a ccd cl outer A₀ base h₀ L m s Q E still hB hF hX hN hap hT hk hP hdp hun hret
  ((have hfill := hd_kept; (have : hd_kept = hd_kept := by (revert hfill; k_fill; intro _; rfl)); clear this hfill))
  ((refine wpAny_call ?_; k_dflt (refine' enter_topCQ ?k1 ?k2 ?k3 ?k4 ?k4a ?k5 ?kA ?kF ?kK ?k6 ?k7 ?k8 ?k9 ?kB ?kD ?_ ?c2 ?c3 ?c4; (case kA => exact rfl); (case kF => exact rfl); (case kK => first | exact rfl | assumption); (case k1 => k_asm); (case k2 => k_asm); (case k3 => k_asm); (case k4 => k_asm); (case k4a => k_asm); (case k5 => k_asm); (case k6 => k_is); (case k7 => k_is); (case k8 => ktr_room); (case k9 => exact BindsTo.of_eq rfl); (case kB => exact rfl); (case kD => decide +kernel); (case c2 => exact rfl); (case c3 => exact rfl); (case c4 => exact rfl); k_whole; intro g8' L8' h8' tk8' cells8' FG8' F8' N8' Y8' B8' X8' T8' st8' stl8' l18 Q8' E8' hQ8'; (try k_lt l18); k_cells Y8'; (try simp only [List.cons_append, List.nil_append, List.append_nil] at N8'); (try dsimp only); (try k_lift B8'); (try k_fold))))
  walk_at "hx_steps"
  refine hold_out ?_
  k_dflt (refine' Does.use0T (does_roundsE (near := 15) (far := 491520) (wd := 5) ?r1 ?r2 ?r3 ho ?r4) ?b1 ?b2 ?b3 ?b4 ?b5 ?b6 ?b7 ?b8 ?b9 ?_; (((case b1 => k_asm); (case b2 => k_asm); (case b3 => k_asm); (case b4 => k_asm); (case b5 => k_asm); (case b6 => first | exact rfl | assumption); (case b8 => (first | (refine' room0 ?qh ?qb; (case qh => assumption); (case qb => exact Nat.le_of_ble_eq_true rfl)) | (refine' room1 ?qh ?qb; (case qh => assumption); (case qb => exact Nat.le_of_ble_eq_true rfl)) | (refine' room2 ?qh ?qb; (case qh => assumption); (case qb => exact Nat.le_of_ble_eq_true rfl)) | omega | ((try simp only [depth_under_make, depth_under_kw, depth_in1, depth_deeper, depth_caller, units_in1, units_deeper, Around.mark_units, units_caller]); (try dsimp only [ktrTop]); omega))); (case b9 => (first | (refine' room0 ?qh ?qb; (case qh => assumption); (case qb => exact Nat.le_of_ble_eq_true rfl)) | (refine' room1 ?qh ?qb; (case qh => assumption); (case qb => exact Nat.le_of_ble_eq_true rfl)) | (refine' room2 ?qh ?qb; (case qh => assumption); (case qb => exact Nat.le_of_ble_eq_true rfl)) | omega | ((try simp only [depth_under_make, depth_under_kw, depth_in1, depth_deeper, depth_caller, units_in1, units_deeper, Around.mark_units, units_caller]); (try dsimp only [ktrTop]); omega))))); (case b7 => (intros; trivial)); (case r1 => decide +kernel); (case r2 => decide +kernel); (case r3 => decide); (case r4 => decide))
  intro t1' h' tk' F' N'
  (try dsimp only)
  walk_at "hx_steps"
  (rename News _ _ _ (_ :: _) => hN9); (replace hN9 := news_sub (r := []) hN9 (fun _ h => nomatch h))
  (((first | refine hQ8' _ _ ?_ | refine hold_out ?_); refine' leaveS_ ?hxF ?hxN ?_; (case hxF => k_asm); (case hxN => k_asm); intro kF kN kD; (rename ∀ (v : Value) (mu' : List (Addr × Obj)) (h' : Heap) (tk' : Nat), _ → _ → _ → _ → _ => hxR); refine hxR _ _ _ _ kF kN kD ?_; clear hxR; try dsimp only))
  exact ⟨_, rfl, rfl⟩
end
section
local macro_rules | `(tactic| walk_at $s:str) => if ["pyIter ref", "UnrEnd"].contains s.getString then `(tactic| refine hold_in ?_) else Lean.Macro.throwUnsupported
local macro_rules | `(tactic| walk_at "binaryOp Mod int int") => `(tactic| ((with_reducible refine' mod_at ?k0 ?k1 ?_); (case k1 => assumption); (case k0 => decide); intro t1 tk1))
local macro_rules | `(tactic| walk_at "subscriptTail") => `(tactic| ((with_reducible show wpAny _ _ (subscriptTail (PySem.Expr.Name (Str.ofString "script") _) _ _ _) _ _ _); refine hold_in ?_))
local macro_rules | `(tactic| walk_at "subscriptTail") => `(tactic| ((with_reducible show wpAny _ _ (subscriptTail (PySem.Expr.Name (Str.ofString "drawn") _) _ _ _) _ _ _); refine hold_in ?_))
section
theorem off_A40_rows : True := by (w_top off); first | walk1 | trivial
theorem pick16 (vs : List Value) : W.kms_pick vs.toArray.toList none (some 16) = vs.take 16 := by
  unfold W.kms_pick W.kms_lo W.kms_hi
  simp only [show ¬ ((16 : Int) < 0) by decide, if_false, List.drop_zero, Nat.sub_zero]
  show List.take (min 16 vs.length) vs = _
  rcases Nat.le_total 16 vs.length with h | h
  · rw [Nat.min_eq_left h]
  · rw [Nat.min_eq_right h, List.take_of_length_le h, List.take_of_length_le (Nat.le_refl _)]
noncomputable abbrev fourL (c0 c1 c2 c3 : Int) (t0 t1 t2 t3 : Tok) (e : Nat) : Obj := W.listOf #[.int c0 t0, .int c1 t1, .int c2 t2, .int c3 t3] e
inductive RowsInv (aC aD aS : Addr) (oS : Obj) (ds : List Value) (i0 : Nat) (m : Str → Option Value) (news : List (Addr × Obj)) : Prop
  | mk (c0 c1 c2 c3 : Int) (t0 t1 t2 t3 : Tok) (e : Nat) (qb0 : (∀ p ∈ ([(Str.ofString "cells", .ref aC), (Str.ofString "drawn", .ref aD)] : List (Str × Value)), m p.1 = some p.2)) (qb1 : news = [(aD, W.listOf ds.toArray 0), (aC, fourL c0 c1 c2 c3 t0 t1 t2 t3 e), (aS, oS)]) (qb2 : @Ne Nat aD aC) (qb3 : @Ne Nat aS aC) : RowsInv aC aD aS oS ds i0 m news
theorem mod4_cases (i : Nat) : ((0 : Int) + (i : Int)).fmod 4 = 0 ∨ ((0 : Int) + (i : Int)).fmod 4 = 1 ∨ ((0 : Int) + (i : Int)).fmod 4 = 2 ∨ ((0 : Int) + (i : Int)).fmod 4 = 3 := by
  rw [Int.fmod_eq_emod_of_nonneg _ (by decide), Int.zero_add]
  show ((i % 4 : Nat) : Int) = 0 ∨ ((i % 4 : Nat) : Int) = 1 ∨ ((i % 4 : Nat) : Int) = 2 ∨ ((i % 4 : Nat) : Int) = 3
  exact match i % 4, Nat.mod_lt i (show 0 < 4 by decide) with
    | 0, _ => .inl rfl
    | 1, _ => .inr (.inl rfl)
    | 2, _ => .inr (.inr (.inl rfl))
    | 3, _ => .inr (.inr (.inr rfl))
section
variable {prog : Program} {w : World} {A : Around} {E : Value → Shared → Prop} {s : Shared} {a b K : Int} {t u : Tok} {Q : Value → Shared → Prop}
theorem mod_at (hb : 0 < b) (hk : a.fmod b = K) (h : ∀ t tk, Q (.int K t) { s with toks := tk }) : wpAny (model prog w) A (binaryOp .Mod (.int a t) (.int b u)) Q E s := by
  subst hk
  exact mod_int' (by omega) (h _ _)
end
theorem rows_small (vs : List Value) : Builtin.Range.small 0 (((vs.take 16).length : Nat) : Int) 1 = true := by
  have h16 : (vs.take 16).length ≤ 16 := by rw [List.length_take]; omega
  exact small_one (by decide) (by decide) (by omega) (by omega)
theorem rows_item {vs : List Value} {ns : List Int} (hints : IntsAre vs ns) {i : Nat} (hi : i < (vs.take 16).toArray.size) : ∃ z tz, (vs.take 16)[i]? = some (.int z tz) := by
  have hlen := hints.length
  rw [List.size_toArray, List.length_take] at hi
  obtain ⟨tz, hz⟩ := hints.get i (ns[i]'(by omega)) (List.getElem?_eq_getElem _)
  exact ⟨_, tz, by rw [List.getElem?_take_of_lt (by omega)]; exact hz⟩
noncomputable def RowsPost (n : Nat) (v : Value) (mu' : List (Addr × Obj)) : Prop := ∃ (q : Addr) (ys : List Value) (rs : List Nat), v = .ref q ∧ mu' = [(q, LCg.lst ys)] ∧ IntsAre ys (rs.map fun r : Nat => (r : Int)) ∧ rs.length = n ∧ ∀ r ∈ rs, r < 2 ^ n
theorem rows_post {n : Nat} {N : Int} {q : Addr} {ys : List Value} {cs : List Int} (hN : N = (2 ^ n : Nat)) (h : IntsAre ys (List.map (fun k' : Int => k'.fmod N) cs)) (hl : cs.length = n) : RowsPost n (.ref q) [(q, LCg.lst ys)] := by
  have hp : 0 < N := by rw [hN]; exact_mod_cast Nat.two_pow_pos n
  refine ⟨q, ys, cs.map fun k => (k.fmod N).toNat, rfl, rfl, ?_, by rw [List.length_map, hl], fun r hr => ?_⟩
  · rw [List.map_map]
    have e : List.map ((fun r : Nat => (r : Int)) ∘ fun k : Int => (k.fmod N).toNat) cs = List.map (fun k' : Int => k'.fmod N) cs := List.map_congr_left fun k _ => Int.toNat_of_nonneg (Int.fmod_nonneg_of_pos k hp)
    rw [e]; exact h
  · obtain ⟨k, _, rfl⟩ := List.mem_map.mp hr
    have h1 := Int.fmod_nonneg_of_pos k hp
    have h2 := Int.fmod_lt_of_pos k hp
    omega
set_option maxHeartbeats 8000000 in
theorem does_rows3 {w : World} {p : Program} {loose : List Str} {mean : ExcName → Option Value} {mg mb : Str → Option Value} {tn : Tok} {ls : Addr} {vs : List Value} {ns : List Int} (hints : IntsAre vs ns) (hfit : vs.length ≤ sizeLine) :
    Does w p loose mean mg mb 2 20 (fun g => g.IsList ls vs.toArray) (.ref 123) [.ref ls, .int 3 tn] [] (RowsPost 3) := by
  intro dp un gd cn cs a ccd cl outer A₀ base h₀ L m s Q E still hB hF hX hN hap hT hk hP hdp hun hret
  ((have hfill := hd_kept; (have : hd_kept = hd_kept := by (revert hfill; k_fill; intro _; rfl)); clear this hfill))
  ((refine wpAny_call ?_; k_dflt (refine' enter_topC ?k1 ?k2 ?k3 ?k4 ?k4a ?k5 ?kA ?kF ?kK ?k6 ?k7 ?k8 ?k9 ?kB ?kD ?_ ?c2 ?c3 ?c4; (case kA => exact rfl); (case kF => exact rfl); (case kK => first | exact rfl | assumption); (case k1 => k_asm); (case k2 => k_asm); (case k3 => k_asm); (case k4 => k_asm); (case k4a => k_asm); (case k5 => k_asm); (case k6 => k_is); (case k7 => k_is); (case k8 => ktr_room); (case k9 => exact BindsTo.of_eq rfl); (case kB => exact rfl); (case kD => decide +kernel); (case c2 => exact rfl); (case c3 => exact rfl); (case c4 => exact rfl); k_whole; intro g8' L8' h8' tk8' cells8' FG8' F8' N8' Y8' B8' X8' T8' st8' stl8' l18; (try k_lt l18); k_cells Y8'; (try simp only [List.cons_append, List.nil_append, List.append_nil] at N8'); (try dsimp only); (try k_lift B8'); (try k_fold))))
  have hls := hP _ (by assumption) (by assumption)
  walk_at "hx_steps"
  refine hold_out ?_
  k_dflt (refine' W.kms_slice_lit (s := { heap := _, gens := s.gens, drawn := s.drawn, toks := _, os := s.os }) (zs := vs.take 16) ?s1 ?s2 ?s3 ?s4 ?s5 ?s6 ?_ ?s7 ?s8 ?s9; (case s1 => k_asm); (case s2 => k_asm); (case s3 => exact hls.at fun o e => Fr.keep (by k_asm) _ o e); (case s4 => exact IsPart.none); (case s5 => exact IsPart.int _ _); (case s6 => exact pick16 vs); (case s7 => with_unfolding_all rfl); (case s8 => (intro _; with_unfolding_all rfl)); (case s9 => rw [List.size_toArray]; exact hfit))
  intro D' h' F' N' l1
  k_lt l1
  walk_at "hx_steps"
  (rename News _ _ _ (_ :: _) => hN9); have hN8 := (hN9 _ (.head _)).1
  (with_reducible refine' call_len_list (items := (vs.take 16).toArray) ?k1 ?k2 ?_); (case k1 => exact isList_of hN8); (case k2 => (rw [List.size_toArray, List.length_take]; omega))
  clear hN8
  walk_at "hx_steps"
  refine hold_out ?_
  (rename IsRange _ _ _ _ _ _ _ _ => hR)
  k_dflt (refine' iter_rangeUnr (n := (vs.take 16).toArray.size) (by rfl) hR ?k1 ?k2 ?k3 ?k4 ?k5; (case k1 => exact rows_small vs); (case k2 => exact rangeSize_nat _ _); (case k3 => assumption); (case k4 => assumption))
  intro I hI
  replace hI := allLt_of hI
  simp only [W.AllLt, and_true] at hI
  refine' range_inv (RowsInv _ _ _ _ (vs.take 16)) ?turn ?done _ 0 _ _ (by rw [Nat.add_zero]) ?start
  case start =>
    refine' ⟨5, 2, 6, 9, _, _, _, _, _, ?hm, rfl, ?ha, ?hb⟩
    case ha => omega
    case hb => omega
    case hm =>
      repeat' (first | exact facts_nil | refine facts_cons rfl ?_ | exact List.forall_mem_nil _ | (refine' fmc ?qf9 (?_); (case qf9 => rfl)))
  case done =>
    rintro m2 news2 h2 tk2 ⟨c0, c1, c2, c3, t0, t1, t2, t3, ep, hm, rfl, hne1, hne2⟩ F2 N2
    dsimp only
    replace F2 := fr_withB0 _ hm F2
    clear hm
    dsimp only [withB] at F2
    clear hne1 hne2
    walk_at "hx_steps"
    (rename News _ _ _ (_ :: _) => hN9); (replace hN9 := news_sub (r := [_]) hN9 (fmc (.head _) (fun _ h => nomatch h)))
    (rename IntsAre _ (List.map _ _) => hI9)
    (((first | refine hQ8' _ _ ?_ | refine hold_out ?_); refine' leaveS_ ?hxF ?hxN ?_; (case hxF => k_asm); (case hxN => k_asm); intro kF kN kD; (rename ∀ (v : Value) (mu' : List (Addr × Obj)) (h' : Heap) (tk' : Nat), _ → _ → _ → _ → _ => hxR); refine hxR _ _ _ _ kF kN kD ?_; clear hxR; try dsimp only))
    exact rows_post (by decide) hI9 rfl
  case turn =>
    rintro i m2 news2 t2 h2 tk2 hi ⟨c0, c1, c2, c3, t0, t1, t2, t3, ep, hm, rfl, hne1, hne2⟩ F2 N2
    replace F2 := fr_withB _ hm F2
    clear hm
    dsimp only [withB] at F2
    refine wpAny_cut ?_
    intro QC EC hQC
    have hne := And.intro hne1 hne2
    clear hne1 hne2
    obtain ⟨z, tz, hz⟩ := rows_item (by assumption) hi
    rcases mod4_cases i with hk4 | hk4 | hk4 | hk4
    all_goals walk_at "hx_steps"
    all_goals refine hold_out ?_
    all_goals (rename News _ _ _ (_ :: _) => hN9)
    all_goals have hN8 := (hN9 _ (.tail _ (.head _))).1
    all_goals ((refine' item_at (vs := (vs.take 16).toArray) ?k1 ?k2 ?k3 ?k4 ?_); (case k1 => exact isList_of hN8); (case k2 => omega); (case k3 => (rw [List.size_toArray, List.length_take] at hi; omega)); (case k4 => (have e9 : ((0 : Int) + (i : Int)).toNat = i := by omega); rw [e9]; simpa using hz))
    all_goals clear hN8
    all_goals walk_at "hx_steps"
    all_goals (refine hQC _ _ ?_; (try dsimp only); walk_at "hx_steps"; refine hold_out ?_; (rename News _ _ _ (_ :: _) => hN9); (rename Fr _ _ _ _ => hF9); (refine' UnrEnd.intro hF9 hN9 _ (fun _ hp => hp) ?off ?r); (case off => exact fmc (Nat.ne_of_lt hI.1) (fmc (Nat.ne_of_lt hI.2.1) (fmc (Nat.ne_of_lt hI.2.2) (fun _ h => nomatch h)))); (case r => (refine' ⟨_, _, _, _, _, _, _, _, _, ?hm, rfl, hne.1, hne.2⟩; (case hm => (repeat' (first | exact facts_nil | refine facts_cons rfl ?_ | exact List.forall_mem_nil _ | (refine' fmc ?qf9 (?_); (case qf9 => rfl))))))))
end
section
theorem off_A41_rows4 : True := by (w_top off); first | walk1 | trivial
set_option maxHeartbeats 8000000 in
theorem does_rows4 {w : World} {p : Program} {loose : List Str} {mean : ExcName → Option Value} {mg mb : Str → Option Value} {tn : Tok} {ls : Addr} {vs : List Value} {ns : List Int} (hints : IntsAre vs ns) (hfit : vs.length ≤ sizeLine) :
    Does w p loose mean mg mb 2 20 (fun g => g.IsList ls vs.toArray) (.ref 123) [.ref ls, .int 4 tn] [] (RowsPost 4) := by
  intro dp un gd cn cs a ccd cl outer A₀ base h₀ L m s Q E still hB hF hX hN hap hT hk hP hdp hun hret
  ((have hfill := hd_kept; (have : hd_kept = hd_kept := by (revert hfill; k_fill; intro _; rfl)); clear this hfill))
  ((refine wpAny_call ?_; k_dflt (refine' enter_topC ?k1 ?k2 ?k3 ?k4 ?k4a ?k5 ?kA ?kF ?kK ?k6 ?k7 ?k8 ?k9 ?kB ?kD ?_ ?c2 ?c3 ?c4; (case kA => exact rfl); (case kF => exact rfl); (case kK => first | exact rfl | assumption); (case k1 => k_asm); (case k2 => k_asm); (case k3 => k_asm); (case k4 => k_asm); (case k4a => k_asm); (case k5 => k_asm); (case k6 => k_is); (case k7 => k_is); (case k8 => ktr_room); (case k9 => exact BindsTo.of_eq rfl); (case kB => exact rfl); (case kD => decide +kernel); (case c2 => exact rfl); (case c3 => exact rfl); (case c4 => exact rfl); k_whole; intro g8' L8' h8' tk8' cells8' FG8' F8' N8' Y8' B8' X8' T8' st8' stl8' l18; (try k_lt l18); k_cells Y8'; (try simp only [List.cons_append, List.nil_append, List.append_nil] at N8'); (try dsimp only); (try k_lift B8'); (try k_fold))))
  have hls := hP _ (by assumption) (by assumption)
  walk_at "hx_steps"
  refine hold_out ?_
  k_dflt (refine' W.kms_slice_lit (s := { heap := _, gens := s.gens, drawn := s.drawn, toks := _, os := s.os }) (zs := vs.take 16) ?s1 ?s2 ?s3 ?s4 ?s5 ?s6 ?_ ?s7 ?s8 ?s9; (case s1 => k_asm); (case s2 => k_asm); (case s3 => exact hls.at fun o e => Fr.keep (by k_asm) _ o e); (case s4 => exact IsPart.none); (case s5 => exact IsPart.int _ _); (case s6 => exact pick16 vs); (case s7 => with_unfolding_all rfl); (case s8 => (intro _; with_unfolding_all rfl)); (case s9 => rw [List.size_toArray]; exact hfit))
  intro D' h' F' N' l1
  k_lt l1
  walk_at "hx_steps"
  (rename News _ _ _ (_ :: _) => hN9); have hN8 := (hN9 _ (.head _)).1
  (with_reducible refine' call_len_list (items := (vs.take 16).toArray) ?k1 ?k2 ?_); (case k1 => exact isList_of hN8); (case k2 => (rw [List.size_toArray, List.length_take]; omega))
  clear hN8
  walk_at "hx_steps"
  refine hold_out ?_
  (rename IsRange _ _ _ _ _ _ _ _ => hR)
  k_dflt (refine' iter_rangeUnr (n := (vs.take 16).toArray.size) (by rfl) hR ?k1 ?k2 ?k3 ?k4 ?k5; (case k1 => exact rows_small vs); (case k2 => exact rangeSize_nat _ _); (case k3 => assumption); (case k4 => assumption))
  intro I hI
  replace hI := allLt_of hI
  simp only [W.AllLt, and_true] at hI
  refine' range_inv (RowsInv _ _ _ _ (vs.take 16)) ?turn ?done _ 0 _ _ (by rw [Nat.add_zero]) ?start
  case start =>
    refine' ⟨5, 2, 6, 9, _, _, _, _, _, ?hm, rfl, ?ha, ?hb⟩
    case ha => omega
    case hb => omega
    case hm =>
      repeat' (first | exact facts_nil | refine facts_cons rfl ?_ | exact List.forall_mem_nil _ | (refine' fmc ?qf9 (?_); (case qf9 => rfl)))
  case done =>
    rintro m2 news2 h2 tk2 ⟨c0, c1, c2, c3, t0, t1, t2, t3, ep, hm, rfl, hne1, hne2⟩ F2 N2
    dsimp only
    replace F2 := fr_withB0 _ hm F2
    clear hm
    dsimp only [withB] at F2
    clear hne1 hne2
    walk_at "hx_steps"
    (rename News _ _ _ (_ :: _) => hN9); (replace hN9 := news_sub (r := [_]) hN9 (fmc (.head _) (fun _ h => nomatch h)))
    (rename IntsAre _ (List.map _ _) => hI9)
    (((first | refine hQ8' _ _ ?_ | refine hold_out ?_); refine' leaveS_ ?hxF ?hxN ?_; (case hxF => k_asm); (case hxN => k_asm); intro kF kN kD; (rename ∀ (v : Value) (mu' : List (Addr × Obj)) (h' : Heap) (tk' : Nat), _ → _ → _ → _ → _ => hxR); refine hxR _ _ _ _ kF kN kD ?_; clear hxR; try dsimp only))
    exact rows_post (by decide) hI9 rfl
  case turn =>
    rintro i m2 news2 t2 h2 tk2 hi ⟨c0, c1, c2, c3, t0, t1, t2, t3, ep, hm, rfl, hne1, hne2⟩ F2 N2
    replace F2 := fr_withB _ hm F2
    clear hm
    dsimp only [withB] at F2
    refine wpAny_cut ?_
    intro QC EC hQC
    have hne := And.intro hne1 hne2
    clear hne1 hne2
    obtain ⟨z, tz, hz⟩ := rows_item (by assumption) hi
    rcases mod4_cases i with hk4 | hk4 | hk4 | hk4
    all_goals walk_at "hx_steps"
    all_goals refine hold_out ?_
    all_goals (rename News _ _ _ (_ :: _) => hN9)
    all_goals have hN8 := (hN9 _ (.tail _ (.head _))).1
    all_goals ((refine' item_at (vs := (vs.take 16).toArray) ?k1 ?k2 ?k3 ?k4 ?_); (case k1 => exact isList_of hN8); (case k2 => omega); (case k3 => (rw [List.size_toArray, List.length_take] at hi; omega)); (case k4 => (have e9 : ((0 : Int) + (i : Int)).toNat = i := by omega); rw [e9]; simpa using hz))
    all_goals clear hN8
    all_goals walk_at "hx_steps"
    all_goals (refine hQC _ _ ?_; (try dsimp only); walk_at "hx_steps"; refine hold_out ?_; (rename News _ _ _ (_ :: _) => hN9); (rename Fr _ _ _ _ => hF9); (refine' UnrEnd.intro hF9 hN9 _ (fun _ hp => hp) ?off ?r); (case off => exact fmc (Nat.ne_of_lt hI.1) (fmc (Nat.ne_of_lt hI.2.1) (fmc (Nat.ne_of_lt hI.2.2) (fun _ h => nomatch h)))); (case r => (refine' ⟨_, _, _, _, _, _, _, _, _, ?hm, rfl, hne.1, hne.2⟩; (case hm => (repeat' (first | exact facts_nil | refine facts_cons rfl ?_ | exact List.forall_mem_nil _ | (refine' fmc ?qf9 (?_); (case qf9 => rfl))))))))
end
end
section
local macro_rules | `(tactic| walk_at "eval Name") => `(tactic| (k_dflt (refine' nameX_G ?x0 ?x1 ?x2 ?x3 ?_; (case x0 => exact rfl); (case x1 => k_asm); (case x2 => exact rfl); (case x3 => assumption))))
local macro_rules | `(tactic| walk_at "callWith ref") => `(tactic| (k_dflt (refine' callWith_F ?k1 ?_; (case k1 => exact FnG (by k_asm) (by assumption)); k_whole)))
local macro_rules | `(tactic| walk_at "FnAt") => `(tactic| (k_dflt (exact FnG (by k_asm) (by assumption))))
local macro_rules | `(tactic| walk_at "setAttr ref") => `(tactic| ((with_reducible show wpAny _ _ (setAttr _ (Str.ofString "read") _) _ _ _); refine hold_in ?_))
local macro_rules | `(tactic| walk_at "call ref") => `(tactic| ((with_reducible show wpAny _ _ (call (Value.ref 97) _) _ _ _); refine hold_in ?_))
section
theorem off_A44_d2i : True := by (w_top off); first | walk1 | trivial
theorem depth_ktr {dp un : Nat} {gd : Option (List Code)} {cn : Str} {cs : Scope} {L a : Addr} {ccd : Value} {cl : List (Str × Addr)} {outer : List Env} : (ktrTop dp un gd cn cs L a ccd cl outer).depth = dp := rfl
noncomputable def sumF (w : Nat) : List Nat → Nat
  | [] => 0
  | r :: rs => r + 2 ^ w * sumF w rs
structure InnerPre (f a1 a2 a3 : Addr) (oF : Obj) (cv : Value) (qual : Str) (q : Addr) (wd : Nat) (tn : Tok) (ys : List Value) (g : Heap) : Prop where
  fn : g.get? f = some oF
  cd : g.CodeRec cv qual
  dg : CellAt g a1 (.ref q)
  nn : CellAt g a2 (.int wd tn)
  inn : CellAt g a3 (.ref f)
  ls : g.IsList q ys.toArray
local macro_rules | `(tactic| walk_at "subscriptTail") => `(tactic| ((with_reducible show wpAny _ _ (subscriptTail (PySem.Expr.Name (Str.ofString "digits") _) _ _ _) _ _ _); refine hold_in ?_))
local macro_rules | `(tactic| walk_at $s:str) => if ["binaryOp LShift int int", "call ref", "call builtin:len"].contains s.getString then `(tactic| refine hold_in ?_) else Lean.Macro.throwUnsupported
theorem sum_leaf {w : Nat} {rs : List Nat} {Lo : Nat} (h : Lo < rs.length) : sumF w ((rs.drop Lo).take 1) = rs[Lo] := by
  rw [List.drop_eq_getElem_cons h, List.take_succ_cons, List.take_zero, sumF, sumF]; omega
theorem sum_app {w : Nat} : ∀ (a b : List Nat), sumF w (a ++ b) = (sumF w b) <<< (a.length * w) + sumF w a
  | [], b => by simp [sumF]
  | x :: a, b => by
    rw [List.cons_append, sumF, sum_app a b, sumF, List.length_cons, Nat.shiftLeft_eq, Nat.shiftLeft_eq, Nat.add_mul, Nat.one_mul, Nat.pow_add, Nat.mul_add]
    have : 2 ^ w * (sumF w b * 2 ^ (a.length * w)) = sumF w b * (2 ^ (a.length * w) * 2 ^ w) := by rw [Nat.mul_comm (2 ^ w), Nat.mul_assoc]
    omega
theorem sum_split {w : Nat} {rs : List Nat} {Lo d : Nat} (hle : Lo + d ≤ rs.length) :
    sumF w ((rs.drop Lo).take d) = (sumF w ((rs.drop (Lo + d / 2)).take (d - d / 2))) <<< (d / 2 * w) + sumF w ((rs.drop Lo).take (d / 2)) := by
  have e : (rs.drop Lo).take d = (rs.drop Lo).take (d / 2) ++ (rs.drop (Lo + d / 2)).take (d - d / 2) := by
    have : d = d / 2 + (d - d / 2) := (Nat.add_sub_cancel' (Nat.div_le_self d 2)).symm
    conv => lhs; rw [this, List.take_add, List.drop_drop]
  rw [e, sum_app, List.length_take, List.length_drop]
  have : min (d / 2) (rs.length - Lo) = d / 2 := Nat.min_eq_left (Nat.le_trans (Nat.div_le_self d 2) (Nat.le_sub_of_add_le' hle))
  rw [this]
theorem sum_lt {w : Nat} : ∀ {rs : List Nat}, (∀ r ∈ rs, r < 2 ^ w) → sumF w rs < 2 ^ (w * rs.length)
  | [], _ => by simp [sumF]
  | x :: a, h => by
    have h1 := h x (.head _)
    have h2 := sum_lt (w := w) (rs := a) fun r hr => h r (.tail _ hr)
    rw [sumF, List.length_cons, Nat.mul_add, Nat.mul_one, Nat.pow_add]
    have h3 : 2 ^ w * (sumF w a + 1) ≤ 2 ^ w * 2 ^ (w * a.length) := Nat.mul_le_mul_left _ h2
    rw [Nat.mul_add, Nat.mul_one] at h3
    rw [Nat.mul_comm (2 ^ (w * a.length))]
    omega
theorem shift_of {Lo d wd : Nat} : ((((Lo : Int) + ((Lo + d : Nat) : Int)).fdiv (2 ^ Int.toNat 1)) - (Lo : Int)) * (wd : Int) = ((d / 2 * wd : Nat) : Int) := by
  rw [mid_of2, Int.natCast_mul]
  have : ((Lo + d / 2 : Nat) : Int) - (Lo : Int) = ((d / 2 : Nat) : Int) := by omega
  rw [this]
theorem part_lt {wd : Nat} {rs : List Nat} {Lo d : Nat} (hw : wd = 4 ∨ wd = 5) (hl : rs.length = 3 ∨ rs.length = 4) (hr : ∀ r ∈ rs, r < 2 ^ wd) : sumF wd ((rs.drop Lo).take d) < 2 ^ 60 := by
  refine Nat.lt_of_lt_of_le (sum_lt fun r h => hr r (List.mem_of_mem_drop (List.mem_of_mem_take h))) (Nat.pow_le_pow_right (by decide) ?_)
  rw [List.length_take, List.length_drop]
  have h1 : min d (rs.length - Lo) ≤ 4 := Nat.le_trans (Nat.min_le_right _ _) (Nat.le_trans (Nat.sub_le _ _) (by rcases hl with h | h <;> rw [h] <;> decide))
  have h2 : wd ≤ 5 := by rcases hw with rfl | rfl <;> decide
  calc _ ≤ 5 * 4 := Nat.mul_le_mul h2 h1
    _ ≤ 60 := by decide
theorem sum_leaf' {w : Nat} {rs : List Nat} {Lo d : Nat} (hd : d = 1) (h : Lo < rs.length) : rs[Lo] = sumF w ((rs.drop Lo).take d) := by subst hd; exact (sum_leaf h).symm
theorem sum_join {w : Nat} {rs : List Nat} {Lo d : Nat} (hle : Lo + d ≤ rs.length) :
    (((sumF w ((rs.drop (Lo + d / 2)).take (d - d / 2))) <<< (d / 2 * w) : Nat) : Int) + ((sumF w ((rs.drop Lo).take (d / 2)) : Nat) : Int) = ((sumF w ((rs.drop Lo).take d) : Nat) : Int) := by
  rw [sum_split hle]; exact (Int.natCast_add _ _).symm
theorem innerPre_of {f a1 a2 a3 c' q : Addr} {oF oc o1 o2 o3 : Obj} {vs : Array Value} {qual : Str} {t tn : Tok} {wd : Nat} {ys : List Value} {g : Heap} {news : List (Addr × Obj)}
    (hs : ∀ p ∈ news, g.get? p.1 = some p.2) (mf : (f, oF) ∈ news) (mc : (c', oc) ∈ news) (hd : oc.data = .fields vs) (hv : vs[1]? = some (.str qual t)) (m1 : (a1, o1) ∈ news) (e1 : o1.data = .cell (some (.ref q)))
    (m2 : (a2, o2) ∈ news) (e2 : o2.data = .cell (some (.int wd tn))) (m3 : (a3, o3) ∈ news) (e3 : o3.data = .cell (some (.ref f))) (ls : g.IsList q ys.toArray) : InnerPre f a1 a2 a3 oF (.ref c') qual q wd tn ys g :=
  ⟨hs _ mf, ⟨c', oc, vs, t, rfl, hs _ mc, hd, hv⟩, ⟨o1, hs _ m1, e1⟩, ⟨o2, hs _ m2, e2⟩, ⟨o3, hs _ m3, e3⟩, ls⟩
theorem InnerPre.keeps {f a1 a2 a3 : Addr} {oF : Obj} {cv : Value} {qual : Str} {q : Addr} {wd : Nat} {tn : Tok} {ys : List Value} {g g' : Heap} (H : InnerPre f a1 a2 a3 oF cv qual q wd tn ys g) (st : g.StaysIn g') : InnerPre f a1 a2 a3 oF cv qual q wd tn ys g' :=
  ⟨st _ _ H.fn, let ⟨c, o, vs, t, e, ho, r⟩ := H.cd; ⟨c, o, vs, t, e, st _ _ ho, r⟩, H.dg.keeps st, H.nn.keeps st, H.inn.keeps st, H.ls.at fun o e => st _ o e⟩
noncomputable def InnerSpec (w : World) (p : Program) (loose : List Str) (mean : ExcName → Option Value) (mg mb : Str → Option Value) (f a1 a2 a3 : Addr) (oF : Obj) (cv : Value) (qual : Str) (q : Addr) (wd : Nat) (tn : Tok) (ys : List Value) (rs : List Nat) : Prop :=
  ∀ (d Lo : Nat) (lo hi : Int) (tL tR : Tok), lo = (Lo : Int) → hi = ((Lo + d : Nat) : Int) → 1 ≤ d → Lo + d ≤ rs.length →
    Does w p loose mean mg mb d (16 * d) (InnerPre f a1 a2 a3 oF cv qual q wd tn ys) (.ref f) [.int lo tL, .int hi tR] [] (fun v mu' => ∃ t, v = .int (sumF wd ((rs.drop Lo).take d) : Nat) t ∧ mu' = [])
set_option maxHeartbeats 8000000 in
theorem does_d2i {w : World} {p : Program} {loose : List Str} {mean : ExcName → Option Value} {mg mb : Str → Option Value} {wd : Nat} {tn : Tok} {q : Addr} {ys : List Value} {rs : List Nat}
    (hints : IntsAre ys (rs.map fun r : Nat => (r : Int))) (hw : wd = 4 ∨ wd = 5) (hl : rs.length = 3 ∨ rs.length = 4) (hr : ∀ r ∈ rs, r < 2 ^ wd) :
    Does w p loose mean mg mb 6 100 (fun g => CodeHd g 58 54 ∧ g.IsList q ys.toArray) (.ref 59) [.ref q, .int wd tn] [(54, tabObj #[])] (fun v mu' => ∃ t ps, v = .int (sumF wd rs : Nat) t ∧ mu' = [(54, tabObj ps)]) := by
  intro dp un gd cn cs a ccd cl outer A₀ base h₀ L m s Q E still hB hF hX hN hap hT hk hP hdp hun hret
  ((have hfill := hd_kept; (have : hd_kept = hd_kept := by (revert hfill; k_fill; intro _; rfl)); clear this hfill))
  ((refine wpAny_call ?_; k_dflt (refine' enter_topCQ ?k1 ?k2 ?k3 ?k4 ?k4a ?k5 ?kA ?kF ?kK ?k6 ?k7 ?k8 ?k9 ?kB ?kD ?_ ?c2 ?c3 ?c4; (case kA => exact rfl); (case kF => exact rfl); (case kK => first | exact rfl | assumption); (case k1 => k_asm); (case k2 => k_asm); (case k3 => k_asm); (case k4 => k_asm); (case k4a => k_asm); (case k5 => k_asm); (case k6 => k_is); (case k7 => k_is); (case k8 => ktr_room); (case k9 => exact BindsTo.of_eq rfl); (case kB => exact rfl); (case kD => decide +kernel); (case c2 => exact rfl); (case c3 => exact rfl); (case c4 => exact rfl); k_whole; intro g8' L8' h8' tk8' cells8' FG8' F8' N8' Y8' B8' X8' T8' st8' stl8' l18 Q8' E8' hQ8'; (try k_lt l18); k_cells Y8'; (try simp only [List.cons_append, List.nil_append, List.append_nil] at N8'); (try dsimp only); (try k_lift B8'); (try k_fold))))
  obtain ⟨hp, hls⟩ := hP _ (by assumption) (by assumption)
  walk_at "hx_steps"
  refine hold_out ?_
  (with_reducible refine' call_len_list (items := ys.toArray) ?k1 ?k2 ?_); (case k1 => exact hls.at fun o e => Fr.keep (by k_asm) _ o e); (case k2 => (have := hints.length; rw [List.length_map] at this; rw [List.size_toArray]; omega))
  walk_at "hx_steps"
  refine hold_out ?_
  (rename News _ _ _ (_ :: _ :: _ :: _ :: _ :: _ :: []) => hN9)
  refine' cut_in (I := InnerSpec w p loose mean mg mb _ _ _ _ _ _ _ q wd tn ys rs) ?main ?contract
  case main =>
    intro inner
    k_dflt (refine' Does.use0T (inner rs.length 0 _ _ _ _ ?r1 ?r2 ?r3 ?r4) ?b1 ?b2 ?b3 ?b4 ?b5 ?b6 ?b7 ?b8 ?b9 ?_; (((case b1 => k_asm); (case b2 => k_asm); (case b3 => k_asm); (case b4 => k_asm); (case b5 => k_asm); (case b6 => first | exact rfl | assumption); (case b8 => (first | (refine' room0 ?qh ?qb; (case qh => assumption); (case qb => exact Nat.le_of_ble_eq_true rfl)) | (refine' room1 ?qh ?qb; (case qh => assumption); (case qb => exact Nat.le_of_ble_eq_true rfl)) | (refine' room2 ?qh ?qb; (case qh => assumption); (case qb => exact Nat.le_of_ble_eq_true rfl)) | omega | ((try simp only [depth_under_make, depth_under_kw, depth_in1, depth_deeper, depth_caller, units_in1, units_deeper, Around.mark_units, units_caller]); (try dsimp only [ktrTop]); omega))); (case b9 => (first | (refine' room0 ?qh ?qb; (case qh => assumption); (case qb => exact Nat.le_of_ble_eq_true rfl)) | (refine' room1 ?qh ?qb; (case qh => assumption); (case qb => exact Nat.le_of_ble_eq_true rfl)) | (refine' room2 ?qh ?qb; (case qh => assumption); (case qb => exact Nat.le_of_ble_eq_true rfl)) | omega | ((try simp only [depth_under_make, depth_under_kw, depth_in1, depth_deeper, depth_caller, units_in1, units_deeper, Around.mark_units, units_caller]); (try dsimp only [ktrTop]); omega))))); (case r1 => rfl); (case r2 => (have := hints.length; rw [List.length_map] at this; rw [List.size_toArray]; omega)); (case r3 => omega); (case r4 => omega); (case b7 => (intro g hg hs; exact innerPre_of hs (.head _) (.tail _ (.head _)) (by assumption) (by assumption) (.tail _ (.tail _ (.tail _ (.tail _ (.head _))))) (by assumption) (.tail _ (.tail _ (.tail _ (.head _)))) (by assumption) (.tail _ (.tail _ (.head _))) (by assumption) (hls.at fun o e => hg _ o e))))
    intro t1' h' tk' F' N'
    (try dsimp only)
    walk_at "hx_steps"
    (rename News _ _ _ (_ :: _) => hN9); (replace hN9 := news_sub (r := [_]) hN9 (fmc (.tail _ (.tail _ (.tail _ (.tail _ (.tail _ (.head _)))))) (fun _ h => nomatch h)))
    (((first | refine hQ8' _ _ ?_ | refine hold_out ?_); refine' leaveS_ ?hxF ?hxN ?_; (case hxF => k_asm); (case hxN => k_asm); intro kF kN kD; (rename ∀ (v : Value) (mu' : List (Addr × Obj)) (h' : Heap) (tk' : Nat), _ → _ → _ → _ → _ => hxR); refine hxR _ _ _ _ kF kN kD ?_; clear hxR; try dsimp only))
    exact ⟨_, _, by rw [List.drop_zero, List.take_length], rfl⟩
  case contract =>
    clear hB hF hX hN hap hT hk hP hdp hun hret hp hls hN9
    intro d
    induction d using Nat.strongRecOn with
    | _ d ih =>
    intro Lo lo hi tL tR hlo hhi hd hle
    subst hlo hhi
    intro dp un gd cn cs a ccd cl outer A₀ base h₀ L m s Q E still hB hF hX hN hap hT hk hP hdp hun hret
    have hp0 := hP s.heap hF.keep (fun p hp => (hN p hp).1)
    have hp1 := hp0.fn
    have hp2 := hp0.cd
    refine wpAny_call ?_
    k_dflt (refine' enter_fnQ ?k1 ?k2 ?k3 ?k4 ?k4a ?k5 ?kA ?kF ?kK ?k6 ?k7 ?k8 ?k9 ?kB ?_ ?c2 ?c3 ?c4 ?c5; (case k6 => exact hp1); (case k7 => exact hp2); (case kA => exact rfl); (case kF => exact rfl); (case kK => first | exact rfl | assumption); (case k1 => exact hB); (case k2 => exact hF); (case k3 => exact hX); (case k4 => exact hN); (case k4a => exact hap); (case k5 => exact hT); (case k8 => (rw [depth_ktr]; omega)); (case k9 => exact BindsTo.of_eq (by rfl)); (case c5 => decide); (case kB => exact locs rfl); (case c2 => exact rfl); (case c3 => exact rfl); (case c4 => exact rfl))
    intro g' L' h' tk' FG' F' N' B' X' T' st' stl' l' Q8' E8' hQ8'
    dsimp only [List.map, List.zip, List.zipWith, List.reverse, List.reverseAux, withB] at F'
    try k_fold
    clear hp0 hp1 hp2
    have hp := hP _ (by assumption) (by assumption)
    have hpd := hp.dg
    have hpn := hp.nn
    have hpi := hp.inn
    have hpf : FnAt _ _ := ⟨_, _, _, _, hp.fn⟩
    walk_at "hx_steps"
    · refine hold_out ?_
      obtain ⟨tz, hz⟩ := hints.get Lo ((rs[Lo]'(by omega) : Nat) : Int) (by rw [List.getElem?_map, List.getElem?_eq_getElem (by omega)]; rfl)
      (refine' item_at (vs := ys.toArray) ?k1 ?k2 ?k3 ?k4 ?_); (case k1 => exact hp.ls.at fun o e => Fr.keep (by k_asm) _ o e); (case k2 => omega); (case k3 => omega); (case k4 => rw [Int.toNat_natCast]; simpa using hz)
      walk_at "hx_steps"
      (((first | refine hQ8' _ _ ?_ | refine hold_out ?_); refine' leaveS_ ?hxF ?hxN ?_; (case hxF => k_asm); (case hxN => k_asm); intro kF kN kD; (rename ∀ (v : Value) (mu' : List (Addr × Obj)) (h' : Heap) (tk' : Nat), _ → _ → _ → _ → _ => hxR); refine hxR _ _ _ _ kF kN kD ?_; clear hxR; try dsimp only))
      have hd1 : d = 1 := by omega
      exact ⟨tz, congrArg (fun z : Nat => Value.int (z : Int) tz) (sum_leaf' hd1 (by omega)), rfl⟩
    · refine hold_out ?_
      k_dflt (refine' Does.use0T (ih (d - d / 2) ?r5 (Lo + d / 2) _ _ _ _ ?r1 ?r2 ?r3 ?r4) ?b1 ?b2 ?b3 ?b4 ?b5 ?b6 ?b7 ?b8 ?b9 ?_; (((case b1 => k_asm); (case b2 => k_asm); (case b3 => k_asm); (case b4 => k_asm); (case b5 => k_asm); (case b6 => first | exact rfl | assumption); (case b8 => (first | (refine' room0 ?qh ?qb; (case qh => assumption); (case qb => exact Nat.le_of_ble_eq_true rfl)) | (refine' room1 ?qh ?qb; (case qh => assumption); (case qb => exact Nat.le_of_ble_eq_true rfl)) | (refine' room2 ?qh ?qb; (case qh => assumption); (case qb => exact Nat.le_of_ble_eq_true rfl)) | omega | ((try simp only [depth_under_make, depth_under_kw, depth_in1, depth_deeper, depth_caller, units_in1, units_deeper, Around.mark_units, units_caller]); (try dsimp only [ktrTop]); omega))); (case b9 => (first | (refine' room0 ?qh ?qb; (case qh => assumption); (case qb => exact Nat.le_of_ble_eq_true rfl)) | (refine' room1 ?qh ?qb; (case qh => assumption); (case qb => exact Nat.le_of_ble_eq_true rfl)) | (refine' room2 ?qh ?qb; (case qh => assumption); (case qb => exact Nat.le_of_ble_eq_true rfl)) | omega | ((try simp only [depth_under_make, depth_under_kw, depth_in1, depth_deeper, depth_caller, units_in1, units_deeper, Around.mark_units, units_caller]); (try dsimp only [ktrTop]); omega))))); (case r5 => omega); (case r1 => exact mid_of2); (case r2 => omega); (case r3 => omega); (case r4 => omega); (case b7 => (intro g hg hs; exact hp.keeps hg)))
      intro t1' h' tk' F' N'
      (try dsimp only)
      walk_at "hx_steps"
      refine hold_out ?_
      (with_reducible refine' nat_shl (n := d / 2 * wd) ?k1 ?k2 ?k3 ?_); (case k1 => exact shift_of); (case k2 => (have h1 : wd ≤ 5 := by omega); (have h2 : d / 2 ≤ 4 := by omega); (have h3 := Nat.mul_le_mul h2 h1); omega); (case k3 => exact part_lt hw hl hr)
      intro t9 tk9
      walk_at "hx_steps"
      refine hold_out ?_
      k_dflt (refine' Does.use0T (ih (d / 2) ?r5 Lo _ _ _ _ ?r1 ?r2 ?r3 ?r4) ?b1 ?b2 ?b3 ?b4 ?b5 ?b6 ?b7 ?b8 ?b9 ?_; (((case b1 => k_asm); (case b2 => k_asm); (case b3 => k_asm); (case b4 => k_asm); (case b5 => k_asm); (case b6 => first | exact rfl | assumption); (case b8 => (first | (refine' room0 ?qh ?qb; (case qh => assumption); (case qb => exact Nat.le_of_ble_eq_true rfl)) | (refine' room1 ?qh ?qb; (case qh => assumption); (case qb => exact Nat.le_of_ble_eq_true rfl)) | (refine' room2 ?qh ?qb; (case qh => assumption); (case qb => exact Nat.le_of_ble_eq_true rfl)) | omega | ((try simp only [depth_under_make, depth_under_kw, depth_in1, depth_deeper, depth_caller, units_in1, units_deeper, Around.mark_units, units_caller]); (try dsimp only [ktrTop]); omega))); (case b9 => (first | (refine' room0 ?qh ?qb; (case qh => assumption); (case qb => exact Nat.le_of_ble_eq_true rfl)) | (refine' room1 ?qh ?qb; (case qh => assumption); (case qb => exact Nat.le_of_ble_eq_true rfl)) | (refine' room2 ?qh ?qb; (case qh => assumption); (case qb => exact Nat.le_of_ble_eq_true rfl)) | omega | ((try simp only [depth_under_make, depth_under_kw, depth_in1, depth_deeper, depth_caller, units_in1, units_deeper, Around.mark_units, units_caller]); (try dsimp only [ktrTop]); omega))))); (case r5 => omega); (case r1 => rfl); (case r2 => exact mid_of2); (case r3 => omega); (case r4 => omega); (case b7 => (intro g hg hs; exact hp.keeps hg)))
      intro t1' h' tk' F' N'
      (try dsimp only)
      walk_at "hx_steps"
      (((first | refine hQ8' _ _ ?_ | refine hold_out ?_); refine' leaveS_ ?hxF ?hxN ?_; (case hxF => k_asm); (case hxN => k_asm); intro kF kN kD; (rename ∀ (v : Value) (mu' : List (Addr × Obj)) (h' : Heap) (tk' : Nat), _ → _ → _ → _ → _ => hxR); refine hxR _ _ _ _ kF kN kD ?_; clear hxR; try dsimp only))
      exact ⟨_, congrArg (fun z : Int => Value.int z _) (sum_join (by omega)), rfl⟩
  exfalso
  (rename ¬ _ < _ => h9); rw [List.length_map] at h9; omega
end
section
theorem ki_setL_eq : ∀ (its : List Value) (i : Nat) (v : Value), i < its.length → W.ki_setL its i v = some (its.set i v)
  | [], _, _, h => absurd h (Nat.not_lt_zero _)
  | _ :: r, 0, v, _ => rfl
  | x :: r, k + 1, v, h => by
    unfold W.ki_setL
    rw [ki_setL_eq r k v (Nat.lt_of_succ_lt_succ h)]; rfl
section
variable {prog : Program} {w : World} {A : Around} {E : Value → Shared → Prop} {s : Shared} {h₀ : Heap} {L D : Addr} {m : Str → Option Value} {news : List (Addr × Obj)}
theorem set_head {its : List Value} {n i : Nat} {k : Int} {t : Tok} {v : Value} {Q : Unit → Shared → Prop} (F : Fr h₀ L s.heap m) (N : News h₀ L s.heap ((D, W.listOf its.toArray n) :: news)) (hne : ∀ p ∈ news, p.1 ≠ D)
    (hk : k = (i : Int)) (hi : i < its.length) (hfit : i < 2 ^ 63)
    (h : ∀ h', Fr h₀ L h' m → News h₀ L h' ((D, W.listOf (its.set i v).toArray n) :: news) → Q () { s with heap := h' }) : wpAny (model prog w) A (setItem (.ref D) (.int k t) v) Q E s := by
  subst hk
  refine W.ki_set (its := its.toArray) (q := its.set i v) F N (by omega) (by omega) ?_ (.head hne) h
  rw [Int.toNat_natCast]
  exact ki_setL_eq its i v hi
end
theorem xor_low (x k : Nat) : Builtin.bitXor (x : Int) (((x >>> k) <<< k : Nat) : Int) = ((x % 2 ^ k : Nat) : Int) := by
  rw [bitXor_and, bitAnd_nat]
  have e : x &&& ((x >>> k) <<< k) = (x >>> k) <<< k := by
    apply Nat.eq_of_testBit_eq
    intro i
    rw [Nat.testBit_and, Nat.testBit_shiftLeft, Nat.testBit_shiftRight]
    by_cases h : k ≤ i
    · have : k + (i - k) = i := by omega
      simp [h, this]
    · simp [h]
  rw [e, Nat.shiftLeft_eq, Nat.shiftRight_eq_div_pow]
  have h1 := Nat.div_add_mod x (2 ^ k)
  rw [Nat.mul_comm] at h1
  omega
noncomputable def Digits (x d Lo : Nat) (vs vs' : List Value) : Prop :=
  vs'.length = vs.length ∧ (∀ i, i < Lo ∨ Lo + d ≤ i → vs'[i]? = vs[i]?) ∧ ∀ i, i < d → ∃ t, vs'[Lo + i]? = some (.int ((x.testBit i).toNat : Nat) t)
theorem digits_leaf {x Lo d : Nat} {vs : List Value} {t : Tok} (hd : d = 1) (hx : x < 2 ^ d) (hl : Lo < vs.length) : Digits x d Lo vs (vs.set Lo (.int x t)) := by
  subst hd
  refine ⟨List.length_set .., fun i hi => ?_, fun i hi => ⟨t, ?_⟩⟩
  · rw [List.getElem?_set_ne (by omega)]
  · have hi0 : i = 0 := by omega
    subst hi0
    rw [Nat.add_zero, List.getElem?_set_self hl]
    have : x = (x.testBit 0).toNat := by
      have : x = 0 ∨ x = 1 := by omega
      rcases this with rfl | rfl <;> rfl
    rw [← this]
theorem digits_join {x Lo d k : Nat} {vs vs1 vs2 : List Value} (hk : k ≤ d) (h1 : Digits (x % 2 ^ k) k Lo vs vs1) (h2 : Digits (x >>> k) (d - k) (Lo + k) vs1 vs2) : Digits x d Lo vs vs2 := by
  obtain ⟨a1, b1, c1⟩ := h1
  obtain ⟨a2, b2, c2⟩ := h2
  refine ⟨a2.trans a1, fun i hi => ?_, fun i hi => ?_⟩
  · rw [b2 i (by omega), b1 i (by omega)]
  · by_cases h : i < k
    · obtain ⟨t, ht⟩ := c1 i h
      refine ⟨t, ?_⟩
      rw [b2 (Lo + i) (by omega), ht, Nat.testBit_mod_two_pow]
      simp [h]
    · obtain ⟨t, ht⟩ := c2 (i - k) (by omega)
      refine ⟨t, ?_⟩
      have e : Lo + k + (i - k) = Lo + i := by omega
      have e2 : k + (i - k) = i := by omega
      rw [e, Nat.testBit_shiftRight, e2] at ht
      exact ht
end
section
theorem off_A46_i2d : True := by (w_top off); first | walk1 | trivial
theorem rep_one {v : Value} : ∀ k, (List.replicate k [v]).flatten = List.replicate k v
  | 0 => rfl
  | k + 1 => by rw [List.replicate_succ, List.flatten_cons, rep_one k]; rfl
theorem count_of {nb : Nat} : (((nb : Int) + 1 - 1).fdiv 1) = (nb : Int) := by
  have : (nb : Int) + 1 - 1 = (nb : Int) := by omega
  rw [this, Int.fdiv_one]
theorem bits_le {own : Nat} (ho : own < 2 ^ 20) : Builtin.Int.intBits (own : Int) ≤ 20 := intBits_le_iff.mpr (by simpa using ho)
section
variable {prog : Program} {w : World} {A : Around} {E : Value → Shared → Prop} {s : Shared} {h₀ : Heap} {L : Addr} {m : Str → Option Value} {news : List (Addr × Obj)} {l : Addr} {v : Value} {x : Int} {u : Tok} {Q : Value → Shared → Prop} {nb e : Nat}
theorem rep_mul (F : Fr h₀ L s.heap m) (N : News h₀ L s.heap news) (hg : s.heap.get? l = some (W.listOf #[v] e)) (hx : x = (nb : Int)) (hnb : nb ≤ 200)
    (h : ∀ D h', Fr h₀ L h' m → News h₀ L h' ((D, W.listOf (List.replicate nb v).toArray 0) :: news) → (∀ p ∈ news, p.1 < D) → Q (.ref D) { s with heap := h' }) : wpAny (model prog w) A (binaryOp .Mult (.ref l) (.int x u)) Q E s := by
  subst hx
  exact KMa.mul (vs := [v]) F N (isList_of hg) (by omega) (by omega) (by rw [Int.toNat_natCast, List.length_cons, List.length_nil]; omega) (by rw [Int.toNat_natCast]; exact rep_one _) h
end
theorem bits_pos {own : Nat} (h : (own : Int) ≠ 0) : 1 ≤ Builtin.Int.intBits (own : Int) := by
  refine Nat.pos_of_ne_zero fun e => ?_
  have := (intBits_le_iff (m := 0) (x := (own : Int))).mp (by omega)
  rw [Int.natAbs_natCast] at this
  omega
theorem bits_lt {own : Nat} : own < 2 ^ Builtin.Int.intBits (own : Int) := by
  have := (intBits_le_iff (m := Builtin.Int.intBits (own : Int)) (x := (own : Int))).mp (Nat.le_refl _)
  rwa [Int.natAbs_natCast] at this
theorem shift1 {Lo d : Nat} : ((((Lo : Int) + ((Lo + d : Nat) : Int)).fdiv (2 ^ Int.toNat 1)) - (Lo : Int)) * 1 = ((d / 2 : Nat) : Int) := by
  rw [Int.mul_one, mid_of2]; omega
section
variable {prog : Program} {w : World} {A : Around} {E : Value → Shared → Prop} {s : Shared} {t u : Tok} {Q : Value → Shared → Prop}
theorem nat_xor_low {x k : Nat} (h : ∀ t tk, Q (.int ((x % 2 ^ k : Nat) : Int) t) { s with toks := tk }) : wpAny (model prog w) A (binaryOp .BitXor (.int (x : Int) t) (.int (((x >>> k) <<< k : Nat) : Int) u)) Q E s := by
  refine xor_int ?_
  rw [xor_low]; exact h _ _
end
theorem pow20 {x d : Nat} (hx : x < 2 ^ d) (hd : d ≤ 20) : x < 2 ^ 60 := Nat.lt_of_lt_of_le hx (Nat.pow_le_pow_right (by decide) (by omega))
theorem up_lt {x d : Nat} (hx : x < 2 ^ d) : x >>> (d / 2) < 2 ^ (d - d / 2) := by
  rw [Nat.shiftRight_eq_div_pow]
  refine Nat.div_lt_of_lt_mul ?_
  rw [← Nat.pow_add]
  have : d / 2 + (d - d / 2) = d := by omega
  rw [this]; exact hx
theorem up_le {x k d : Nat} (hx : x < 2 ^ d) : x >>> k < 2 ^ d := by
  rw [Nat.shiftRight_eq_div_pow]
  exact Nat.lt_of_le_of_lt (Nat.div_le_self _ _) hx
structure I2Pre (f a1 a2 a3 : Addr) (oF : Obj) (cv : Value) (qual : Str) (aD : Addr) (tn : Tok) (g : Heap) : Prop where
  fn : g.get? f = some oF
  cd : g.CodeRec cv qual
  dg : CellAt g a1 (.ref aD)
  nn : CellAt g a2 (.int 1 tn)
  inn : CellAt g a3 (.ref f)
theorem i2Pre_of {f a1 a2 a3 c' aD : Addr} {oF oc o1 o2 o3 : Obj} {vs : Array Value} {qual : Str} {t tn : Tok} {g : Heap} {news : List (Addr × Obj)}
    (hs : ∀ p ∈ news, g.get? p.1 = some p.2) (mf : (f, oF) ∈ news) (mc : (c', oc) ∈ news) (hd : oc.data = .fields vs) (hv : vs[1]? = some (.str qual t)) (m1 : (a1, o1) ∈ news) (e1 : o1.data = .cell (some (.ref aD)))
    (m2 : (a2, o2) ∈ news) (e2 : o2.data = .cell (some (.int 1 tn))) (m3 : (a3, o3) ∈ news) (e3 : o3.data = .cell (some (.ref f))) : I2Pre f a1 a2 a3 oF (.ref c') qual aD tn g :=
  ⟨hs _ mf, ⟨c', oc, vs, t, rfl, hs _ mc, hd, hv⟩, ⟨o1, hs _ m1, e1⟩, ⟨o2, hs _ m2, e2⟩, ⟨o3, hs _ m3, e3⟩⟩
theorem I2Pre.keeps {f a1 a2 a3 : Addr} {oF : Obj} {cv : Value} {qual : Str} {aD : Addr} {tn : Tok} {g g' : Heap} (H : I2Pre f a1 a2 a3 oF cv qual aD tn g) (st : g.StaysIn g') : I2Pre f a1 a2 a3 oF cv qual aD tn g' :=
  ⟨st _ _ H.fn, let ⟨c, o, vs, t, e, ho, r⟩ := H.cd; ⟨c, o, vs, t, e, st _ _ ho, r⟩, H.dg.keeps st, H.nn.keeps st, H.inn.keeps st⟩
noncomputable def I2Spec (w : World) (p : Program) (loose : List Str) (mean : ExcName → Option Value) (mg mb : Str → Option Value) (f a1 a2 a3 : Addr) (oF : Obj) (cv : Value) (qual : Str) (aD : Addr) (tn : Tok) : Prop :=
  ∀ (d Lo x : Nat) (xi lo hi : Int) (tx tL tR : Tok) (vs : List Value), xi = (x : Int) → lo = (Lo : Int) → hi = ((Lo + d : Nat) : Int) → 1 ≤ d → Lo + d ≤ vs.length → vs.length ≤ 20 → x < 2 ^ d →
    Does w p loose mean mg mb d (16 * d) (I2Pre f a1 a2 a3 oF cv qual aD tn) (.ref f) [.int xi tx, .int lo tL, .int hi tR] [(aD, W.listOf vs.toArray 0)] (fun v mu' => v = .none ∧ ∃ vs', mu' = [(aD, W.listOf vs'.toArray 0)] ∧ Digits x d Lo vs vs')
inductive ToldPost (own : Nat) (v : Value) (mu' : List (Addr × Obj)) : Prop
  | mk (q : Addr) (vs' : List Value) (ps : Array Value) (qb0 : v = .ref q) (qb1 : mu' = [(q, W.listOf vs'.toArray 0), (47, tabObj ps)]) (qb2 : vs'.length = Builtin.Int.intBits (own : Int)) (qb3 : ∀ i, i < vs'.length → ∃ t, vs'[i]? = some (.int ((own.testBit i).toNat : Nat) t)) : ToldPost own v mu'
theorem apart6 {D a b c d e f : Addr} {oD o1 o2 o3 o4 o5 o6 : Obj} (h1 : @Ne Nat a D) (h2 : @Ne Nat b D) (h3 : @Ne Nat c D) (h4 : @Ne Nat d D) (h5 : @Ne Nat e D) (h6 : @Ne Nat f D) : ∀ p ∈ [(a, o1), (b, o2), (c, o3), (d, o4), (e, o5), (f, o6)], ∀ q ∈ [(D, oD)], p.1 ≠ q.1 :=
  fmc (List.forall_mem_singleton.mpr h1) (fmc (List.forall_mem_singleton.mpr h2) (fmc (List.forall_mem_singleton.mpr h3) (fmc (List.forall_mem_singleton.mpr h4) (fmc (List.forall_mem_singleton.mpr h5) (fmc (List.forall_mem_singleton.mpr h6) (fun _ h => nomatch h))))))
theorem apart5 {D a b c d e : Addr} {oD o1 o2 o3 o4 o5 : Obj} (h1 : @Ne Nat a D) (h2 : @Ne Nat b D) (h3 : @Ne Nat c D) (h4 : @Ne Nat d D) (h5 : @Ne Nat e D) : ∀ p ∈ [(a, o1), (b, o2), (c, o3), (d, o4), (e, o5)], ∀ q ∈ [(D, oD)], p.1 ≠ q.1 := by
  intro p hp q hq
  simp only [List.mem_cons, List.not_mem_nil, or_false] at hp hq
  subst hq
  rcases hp with rfl | rfl | rfl | rfl | rfl
  · exact h1
  · exact h2
  · exact h3
  · exact h4
  · exact h5
local macro_rules | `(tactic| walk_at $s:str) => if ["binaryOp LShift int int", "binaryOp BitXor int int", "setItem ref int", "binaryOp Mult ref int", "call builtin:len", "call ref"].contains s.getString then `(tactic| refine hold_in ?_) else Lean.Macro.throwUnsupported
local macro_rules | `(tactic| walk_at "binaryOp RShift int int") => `(tactic| ((fail_if_success (with_reducible show wpAny _ _ (binaryOp _ _ (Value.int 1 _)) _ _ _)); refine hold_in ?_))
set_option maxHeartbeats 8000000 in
theorem does_i2d {w : World} {p : Program} {loose : List Str} {mean : ExcName → Option Value} {mg mb : Str → Option Value} {own : Nat} {tn to : Tok} (ho : own < 2 ^ 20) :
    Does w p loose mean mg mb 30 600 (fun g => CodeHd g 51 47) (.ref 52) [.int own to, .int 1 tn] [(47, tabObj #[])] (ToldPost own) := by
  intro dp un gd cn cs a ccd cl outer A₀ base h₀ L m s Q E still hB hF hX hN hap hT hk hP hdp hun hret
  ((have hfill := hd_kept; (have : hd_kept = hd_kept := by (revert hfill; k_fill; intro _; rfl)); clear this hfill))
  ((refine wpAny_call ?_; k_dflt (refine' enter_topCQ ?k1 ?k2 ?k3 ?k4 ?k4a ?k5 ?kA ?kF ?kK ?k6 ?k7 ?k8 ?k9 ?kB ?kD ?_ ?c2 ?c3 ?c4; (case kA => exact rfl); (case kF => exact rfl); (case kK => first | exact rfl | assumption); (case k1 => k_asm); (case k2 => k_asm); (case k3 => k_asm); (case k4 => k_asm); (case k4a => k_asm); (case k5 => k_asm); (case k6 => k_is); (case k7 => k_is); (case k8 => ktr_room); (case k9 => exact BindsTo.of_eq rfl); (case kB => exact rfl); (case kD => decide +kernel); (case c2 => exact rfl); (case c3 => exact rfl); (case c4 => exact rfl); k_whole; intro g8' L8' h8' tk8' cells8' FG8' F8' N8' Y8' B8' X8' T8' st8' stl8' l18 Q8' E8' hQ8'; (try k_lt l18); k_cells Y8'; (try simp only [List.cons_append, List.nil_append, List.append_nil] at N8'); (try dsimp only); (try k_lift B8'); (try k_fold))))
  have hp : CodeHd _ 51 47 := hP _ (by assumption) (by assumption)
  walk_at "hx_steps"
  refine hold_out ?_
  (rename News _ _ _ (_ :: _) => hN9); have hN8 := (hN9 _ (.head _)).1
  k_dflt (refine' rep_mul ?m1 hN9 hN8 ?m3 ?m4 ?_; (case m1 => k_asm); (case m3 => exact count_of); (case m4 => exact Nat.le_trans (bits_le ho) (by decide)))
  intro D' h' F' N' l1
  clear hN8
  k_lt l1
  walk_at "hx_steps"
  refine hold_out ?_
  (rename News _ _ _ (_ :: _) => hN9); have hN8 := (hN9 _ (.tail _ (.tail _ (.head _)))).1
  have hL := isList_of hN8
  (with_reducible refine' call_len_list hL ?k2 ?_); (case k2 => (have := bits_le ho; rw [List.size_toArray, List.length_replicate]; omega))
  clear hL
  clear hN8
  walk_at "hx_steps"
  refine hold_out ?_
  refine' cut_in (I := I2Spec w p loose mean mg mb _ _ _ _ _ _ _ D' tn) ?main ?contract
  case main =>
    intro inner
    k_dflt (refine' Does.use (mu := [_]) (still := [_, _, _, _, _, _]) (inner (Builtin.Int.intBits (own : Int)) 0 own _ _ _ _ _ _ _ ?r1 ?r2 ?r3 ?r4 ?r5 ?r6 ?r7) ?b1 ?b2 ?b3 hN9 ?b5 ?b6 (fmc (.tail _ (.tail _ (.head _))) (fmc (.head _) (fmc (.tail _ (.head _)) (fmc (.tail _ (.tail _ (.tail _ (.tail _ (.head _))))) (fmc (.tail _ (.tail _ (.tail _ (.tail _ (.tail _ (.head _)))))) (fmc (.tail _ (.tail _ (.tail _ (.tail _ (.tail _ (.tail _ (.head _))))))) (fmc (.tail _ (.tail _ (.tail _ (.tail _ (.tail _ (.tail _ (.tail _ (.head _)))))))) (fun _ h => nomatch h)))))))) ?ba ?b7 ?b8 ?b9 ?_)
    case b1 => k_asm
    case b2 => k_asm
    case b3 => k_asm
    case b5 => k_asm
    case b6 => exact rfl
    case r1 => rfl
    case r2 => rfl
    case r3 => (rw [List.size_toArray, List.length_replicate, Nat.zero_add])
    case r4 => exact bits_pos (by assumption)
    case r5 => (rw [List.length_replicate]; omega)
    case r6 => (rw [List.length_replicate]; exact bits_le ho)
    case r7 => exact bits_lt
    case ba => exact apart6 (by omega) (by omega) (by omega) (by omega) (by omega) (show @Ne Nat _ _ by omega)
    case b7 => (intro g hg hs; exact i2Pre_of hs (.head _) (.tail _ (.head _)) (by assumption) (by assumption) (.tail _ (.tail _ (.tail _ (.head _)))) (by assumption) (.tail _ (.tail _ (.tail _ (.tail _ (.head _))))) (by assumption) (.tail _ (.tail _ (.head _))) (by assumption))
    case b8 => (have := bits_le ho; (try simp only [depth_under_make, depth_under_kw, depth_in1, depth_deeper, depth_caller, units_in1, units_deeper, Around.mark_units, units_caller]); (try dsimp only [ktrTop]); omega)
    case b9 => (have := bits_le ho; (try simp only [depth_under_make, depth_under_kw, depth_in1, depth_deeper, depth_caller, units_in1, units_deeper, Around.mark_units, units_caller]); (try dsimp only [ktrTop]); omega)
    intro v' mu' h' tk' F' N' D' P'
    obtain ⟨e1', vs', e2', P2⟩ := P'
    subst e1' e2'
    clear D'
    (simp only [List.cons_append, List.nil_append] at N')
    (try dsimp only)
    walk_at "hx_steps"
    (rename News _ _ _ (_ :: _) => hN7); (replace hN7 := news_sub (r := [_, _]) hN7 (fmc (.head _) (fmc (.tail _ (.tail _ (.tail _ (.tail _ (.tail _ (.tail _ (.head _))))))) (fun _ h => nomatch h))))
    (((first | refine hQ8' _ _ ?_ | refine hold_out ?_); refine' leaveS_ ?hxF ?hxN ?_; (case hxF => k_asm); (case hxN => k_asm); intro kF kN kD; (rename ∀ (v : Value) (mu' : List (Addr × Obj)) (h' : Heap) (tk' : Nat), _ → _ → _ → _ → _ => hxR); refine hxR _ _ _ _ kF kN kD ?_; clear hxR; try dsimp only))
    refine ⟨_, vs', _, rfl, rfl, P2.1.trans (List.length_replicate ..), fun i hi => ?_⟩
    obtain ⟨t, ht⟩ := P2.2.2 i (by rw [P2.1, List.length_replicate] at hi; exact hi)
    exact ⟨t, by rw [Nat.zero_add] at ht; exact ht⟩
  case contract =>
    clear hB hF hX hN hap hT hk hP hdp hun hret hp hN9
    intro d
    induction d using Nat.strongRecOn with
    | _ d ih =>
    intro Lo x xi lo hi tx tL tR vs hxi hlo hhi hd hle hv hx
    subst hxi hlo hhi
    intro dp un gd cn cs a ccd cl outer A₀ base h₀ L m s Q E still hB hF hX hN hap hT hk hP hdp hun hret
    have hp0 := hP s.heap hF.keep (fun p hp => (hN p (List.mem_append_right _ hp)).1)
    have hp1 := hp0.fn
    have hp2 := hp0.cd
    refine wpAny_call ?_
    k_dflt (refine' enter_fnQ ?k1 ?k2 ?k3 ?k4 ?k4a ?k5 ?kA ?kF ?kK ?k6 ?k7 ?k8 ?k9 ?kB ?_ ?c2 ?c3 ?c4 ?c5; (case k6 => exact hp1); (case k7 => exact hp2); (case kA => exact rfl); (case kF => exact rfl); (case kK => first | exact rfl | assumption); (case k1 => exact hB); (case k2 => exact hF); (case k3 => exact hX); (case k4 => exact hN); (case k4a => exact hap); (case k5 => exact hT); (case k8 => (rw [depth_ktr]; omega)); (case k9 => exact BindsTo.of_eq (by rfl)); (case c5 => decide); (case kB => exact locs rfl); (case c2 => exact rfl); (case c3 => exact rfl); (case c4 => exact rfl))
    intro g' L' h' tk' FG' F' N' B' X' T' st' stl' l' Q8' E8' hQ8'
    dsimp only [List.map, List.zip, List.zipWith, List.reverse, List.reverseAux, withB] at F'
    try k_fold
    clear hp0 hp1 hp2
    have hp := hP _ (by assumption) (by assumption)
    have hpd := hp.dg
    have hpn := hp.nn
    have hpi := hp.inn
    have hpf : FnAt _ _ := ⟨_, _, _, _, hp.fn⟩
    walk_at "hx_steps"
    · refine hold_out ?_
      (rename News _ _ _ (_ :: _) => hN9)
      have hx1 : d = 1 := by omega
      (with_reducible refine' set_head (i := Lo) ?k1 hN9 ?k2 ?k3 ?k4 ?k5 ?_); (case k1 => k_asm); (case k2 => exact fun _ h => nomatch h); (case k3 => rfl); (case k4 => omega); (case k5 => omega)
      clear hN9
      intro h9 F9 N9
      walk_at "hx_steps"
      (((first | refine hQ8' _ _ ?_ | refine hold_out ?_); refine' leaveS_ ?hxF ?hxN ?_; (case hxF => k_asm); (case hxN => k_asm); intro kF kN kD; (rename ∀ (v : Value) (mu' : List (Addr × Obj)) (h' : Heap) (tk' : Nat), _ → _ → _ → _ → _ => hxR); refine hxR _ _ _ _ kF kN kD ?_; clear hxR; try dsimp only))
      exact ⟨rfl, _, rfl, digits_leaf hx1 hx (by omega)⟩
    · refine hold_out ?_
      (with_reducible refine' nat_shr (n := d / 2) ?k1 ?_); (case k1 => exact shift1)
      intro t9 tk9
      walk_at "hx_steps"
      refine hold_out ?_
      (with_reducible refine' nat_shl (n := d / 2) ?k1 ?k2 ?k3 ?_); (case k1 => exact shift1); (case k2 => omega); (case k3 => exact pow20 (up_le hx) (by omega))
      intro t8 tk8
      walk_at "hx_steps"
      refine hold_out ?_
      with_reducible refine' nat_xor_low ?_
      intro t7 tk7
      walk_at "hx_steps"
      refine hold_out ?_
      (rename News _ _ _ (_ :: _) => hN9)
      k_dflt (refine' Does.use (mu := [_]) (still := []) (ih (d / 2) ?r0 Lo (x % 2 ^ (d / 2)) _ _ _ _ _ _ _ ?r1 ?r2 ?r3 ?r4 ?r5 ?r6 ?r7) ?b1 ?b2 ?b3 hN9 ?b5 ?b6 (fmc (.head _) (fun _ h => nomatch h)) ?ba ?b7 ?b8 ?b9 ?_)
      case b1 => k_asm
      case b2 => k_asm
      case b3 => k_asm
      case b5 => k_asm
      case b6 => first | exact rfl | assumption
      case r0 => omega
      case r1 => rfl
      case r2 => rfl
      case r3 => exact mid_of2
      case r4 => omega
      case r5 => omega
      case r6 => omega
      case r7 => exact Nat.mod_lt _ (Nat.two_pow_pos _)
      case ba => exact fun _ h => nomatch h
      case b7 => (intro g hg hs; exact hp.keeps hg)
      case b8 => (first | (refine' room0 ?qh ?qb; (case qh => assumption); (case qb => exact Nat.le_of_ble_eq_true rfl)) | (refine' room1 ?qh ?qb; (case qh => assumption); (case qb => exact Nat.le_of_ble_eq_true rfl)) | (refine' room2 ?qh ?qb; (case qh => assumption); (case qb => exact Nat.le_of_ble_eq_true rfl)) | omega | ((try simp only [depth_under_make, depth_under_kw, depth_in1, depth_deeper, depth_caller, units_in1, units_deeper, Around.mark_units, units_caller]); (try dsimp only [ktrTop]); omega))
      case b9 => (first | (refine' room0 ?qh ?qb; (case qh => assumption); (case qb => exact Nat.le_of_ble_eq_true rfl)) | (refine' room1 ?qh ?qb; (case qh => assumption); (case qb => exact Nat.le_of_ble_eq_true rfl)) | (refine' room2 ?qh ?qb; (case qh => assumption); (case qb => exact Nat.le_of_ble_eq_true rfl)) | omega | ((try simp only [depth_under_make, depth_under_kw, depth_in1, depth_deeper, depth_caller, units_in1, units_deeper, Around.mark_units, units_caller]); (try dsimp only [ktrTop]); omega))
      intro v' mu' h' tk' F' N' D' P'
      obtain ⟨e1', vs1, e2', P1⟩ := P'
      subst e1' e2'
      clear D' hN9
      (simp only [List.cons_append, List.nil_append, List.append_nil] at N')
      (try dsimp only)
      walk_at "hx_steps"
      refine hold_out ?_
      (rename News _ _ _ (_ :: _) => hN9)
      k_dflt (refine' Does.use (mu := [_]) (still := []) (ih (d - d / 2) ?r0 (Lo + d / 2) (x >>> (d / 2)) _ _ _ _ _ _ _ ?r1 ?r2 ?r3 ?r4 ?r5 ?r6 ?r7) ?b1 ?b2 ?b3 hN9 ?b5 ?b6 (fmc (.head _) (fun _ h => nomatch h)) ?ba ?b7 ?b8 ?b9 ?_)
      case b1 => k_asm
      case b2 => k_asm
      case b3 => k_asm
      case b5 => k_asm
      case b6 => first | exact rfl | assumption
      case r0 => omega
      case r1 => rfl
      case r2 => exact mid_of2
      case r3 => omega
      case r4 => omega
      case r5 => (have := P1.1; omega)
      case r6 => (have := P1.1; omega)
      case r7 => exact up_lt hx
      case ba => exact fun _ h => nomatch h
      case b7 => (intro g hg hs; exact hp.keeps hg)
      case b8 => (first | (refine' room0 ?qh ?qb; (case qh => assumption); (case qb => exact Nat.le_of_ble_eq_true rfl)) | (refine' room1 ?qh ?qb; (case qh => assumption); (case qb => exact Nat.le_of_ble_eq_true rfl)) | (refine' room2 ?qh ?qb; (case qh => assumption); (case qb => exact Nat.le_of_ble_eq_true rfl)) | omega | ((try simp only [depth_under_make, depth_under_kw, depth_in1, depth_deeper, depth_caller, units_in1, units_deeper, Around.mark_units, units_caller]); (try dsimp only [ktrTop]); omega))
      case b9 => (first | (refine' room0 ?qh ?qb; (case qh => assumption); (case qb => exact Nat.le_of_ble_eq_true rfl)) | (refine' room1 ?qh ?qb; (case qh => assumption); (case qb => exact Nat.le_of_ble_eq_true rfl)) | (refine' room2 ?qh ?qb; (case qh => assumption); (case qb => exact Nat.le_of_ble_eq_true rfl)) | omega | ((try simp only [depth_under_make, depth_under_kw, depth_in1, depth_deeper, depth_caller, units_in1, units_deeper, Around.mark_units, units_caller]); (try dsimp only [ktrTop]); omega))
      intro v' mu' h' tk' F' N' D' P'
      obtain ⟨e1', vs2, e2', P2⟩ := P'
      subst e1' e2'
      clear D' hN9
      (simp only [List.cons_append, List.nil_append, List.append_nil] at N')
      (try dsimp only)
      walk_at "hx_steps"
      (((first | refine hQ8' _ _ ?_ | refine hold_out ?_); refine' leaveS_ ?hxF ?hxN ?_; (case hxF => k_asm); (case hxN => k_asm); intro kF kN kD; (rename ∀ (v : Value) (mu' : List (Addr × Obj)) (h' : Heap) (tk' : Nat), _ → _ → _ → _ → _ => hxR); refine hxR _ _ _ _ kF kN kD ?_; clear hxR; try dsimp only))
      exact ⟨rfl, _, rfl, digits_join (by omega) P1 P2⟩
  (rename News _ _ _ (_ :: _) => hN7); (replace hN7 := news_sub (r := [_, _]) hN7 (fmc (.tail _ (.tail _ (.head _))) (fmc (.tail _ (.tail _ (.tail _ (.tail _ (.tail _ (.tail _ (.tail _ (.head _)))))))) (fun _ h => nomatch h))))
  (((first | refine hQ8' _ _ ?_ | refine hold_out ?_); refine' leaveS_ ?hxF ?hxN ?_; (case hxF => k_asm); (case hxN => k_asm); intro kF kN kD; (rename ∀ (v : Value) (mu' : List (Addr × Obj)) (h' : Heap) (tk' : Nat), _ → _ → _ → _ → _ => hxR); refine hxR _ _ _ _ kF kN kD ?_; clear hxR; try dsimp only))
  have e0 : own = 0 := by omega
  refine ⟨_, _, _, rfl, rfl, List.length_replicate .., fun i hi => ?_⟩
  rw [List.length_replicate, e0] at hi
  exact absurd hi (Nat.not_lt_zero _)
end
section
theorem slot_fn_setattr : Slot "function" "__setattr__" "object.__setattr__" :=
  .of (owner := "object") (n := "__setattr__") (by rw [typeLookup_type, builtinLookup_eq_fast]; kernel_rfl) (by decide +kernel) (by decide +kernel) (by decide +kernel)
    (by first | exact .inl (by decide +kernel) | exact .inr (by decide +kernel)) (by rw [isSubtype_type]; kernel_rfl)
theorem mro_fn : mroOf (.type "function") = pure [.type "function", .type "object"] := by rw [mroOf]; kernel_rfl
theorem refuse_fn (self : Value) : refuseLoop self "__setattr__" [.type "function", .type "object"] = pure () := by kernel_rfl
section
variable {prog : Program} {w : World} {A : Around} {E : Value → Shared → Prop} {s : Shared} {x L : Addr} {h₀ : Heap} {m : Str → Option Value} {fd : FuncData} {name : Str} {v : Value} {news news' : List (Addr × Obj)}
noncomputable abbrev fnObj (od : Option Addr) (fd : FuncData) : Obj := { cls := .type "function", dict := od, data := .func fd }
open Builtin Builtin.ObjectAttr in
theorem setAttr_fn {Q : Unit → Shared → Prop} {sl : Array (Option Value)} (F : Fr h₀ L s.heap m) (N : News h₀ L s.heap ((x, ⟨.type "function", none, .func fd, sl⟩) :: news)) (hl : typeLookup (.type "function") name = pure none)
    (hne : ∀ p ∈ news, p.1 ≠ x)
    (h : ∀ d h' tk, Fr h₀ L h' m → News h₀ L h' ((d, dictOf [⟨PyData.keyHash w.params name, .str name tk, v⟩] 1) :: (x, ⟨.type "function", some d, .func fd, sl⟩) :: news) → @LT.lt Nat _ x d → (∀ p ∈ news, p.1 < d) → Q () { s with heap := h', toks := s.toks + 2 }) :
    wpAny (model prog w) A (setAttr (.ref x) name v) Q E s := by
  obtain ⟨hh, g, dr, t, os⟩ := s
  have hx := (N _ (.head _)).1
  have hlt : ∀ p ∈ news, p.1 < hh.objs.size := fun p hp => Heap.lt_size (N p (.tail _ hp)).1
  have F1 := F.push emptyDict
  have N1 := N.push F emptyDict
  have hxl : @LT.lt Nat _ x hh.objs.size := Heap.lt_size hx
  dsimp only at F1 N1 hx
  have hx1 := (N1 _ (.tail _ (.head _))).1
  obtain ⟨F2, N2⟩ := news_upd (pre := [(hh.objs.size, emptyDict)]) (f := fun o => { o with dict := some hh.objs.size }) (o' := ⟨.type "function", some hh.objs.size, .func fd, sl⟩) F1 N1 (fun p hp => by
    rcases List.mem_cons.mp hp with rfl | hp
    · exact fun e => (Nat.ne_of_lt hxl) e.symm
    · exact (List.not_mem_nil hp).elim) hne rfl rfl
  have D := (N2 (hh.objs.size, emptyDict) (.head _)).1
  obtain ⟨F3, N3⟩ := news_upd (pre := []) (f := Obj.putName name (PyData.keyHash w.params name) (.str name (t + 1)) v) (o' := dictOf [⟨PyData.keyHash w.params name, .str name (t + 1), v⟩] 1) F2 N2 (fun _ h => nomatch h) (fun p hp => by
    rcases List.mem_cons.mp hp with rfl | hp
    · exact Nat.ne_of_lt hxl
    · exact Nat.ne_of_lt (hlt p hp)) (putName_dict _ _ _ _ [] 0) rfl
  have D' := (N3 _ (.head _)).1
  have ty : ∀ {M : Model}, Looks M hh (typeOf (.ref x)) (.type "function") := fun {_} => (Looks.ld hx).andThen .now
  have SF := PySem.F.store_object
  have fin := h hh.objs.size _ (t + 1) F3 N3 hxl hlt
  refine wpAny_bind (wpAny_mkText (wpAny_bind (wpAny_bind (wpAny_bind (ty.here ?_)))))
  rw [slot_fn_setattr.lookup]
  refine wpAny_pure (wpAny_holding ?_)
  rw [slot_fn_setattr.bind]
  refine wpAny_bind (wpAny_pure (wpAny_bind (wpAny_call ?_)))
  have sub : Looks (model prog w) hh (isInstance (.ref x) (.type "object")) true := ty.andThen (Looks.of_pure (by rw [isSubtype_type]; kernel_rfl))
  refine codeAny_call_builtin SF.slot.plain SF.entry (@check_slot (model prog w) _ _ _ "object.__setattr__" "object" "__setattr__" (.ref x) [.str name t, v] [] _ SF.kind SF.split sub (SF.args (.ref x) (.str name t) v) ?_)
  show wpAny _ _ (Builtin.«object.__setattr__» ⟨[.ref x, .str name t, v], []⟩) _ _ _
  rw [osa_eq, refuse_eq]
  refine wpAny_bind (wpAny_bind (ty.here (wpAny_bind ?_)))
  rw [mro_fn]
  refine wpAny_pure ?_
  rw [refuse_fn]
  refine wpAny_pure (wpAny_bind (ty.here (wpAny_bind ?_)))
  rw [hl]
  refine wpAny_pure (wpAny_bind (wpAny_pure ?_))
  show wpAny _ _ (storeInOwnDict (.ref x) (.type "function") (.str name t) name v _) _ _ _
  have e1 : ownStreamTells (.ref x) (.type "function") = pure () := by kernel_rfl
  have e2 : (Value.type "function" == Value.type "module") = false := by decide +kernel
  have e3 : finalisedInACycleAlone "function" = false := by decide +kernel
  have e4 : typeHasDict (.type "function") = true := by decide +kernel
  unfold storeInOwnDict ownDictForStores instanceDict
  rw [e1, e2]
  refine wpAny_bind (wpAny_pure (wpAny_bind ?_))
  dsimp only
  refine wpAny_bind (wpAny_loadPart hx ?_)
  dsimp only
  rw [e4]
  refine wpAny_bind (wpAny_alloc (wpAny_bind (wpAny_update hx1 ?_)))
  unfold dictMade
  dsimp only
  rw [e3]
  refine wpAny_pure ?_
  unfold storeInDict newKeyGuard nsSet
  refine wpAny_bind (wpAny_pure (wpAny_bind (wpAny_bind (wpAny_bind (wpAny_askSetting (wpAny_pure (wpAny_bind (wpAny_mkText (wpAny_bind (wpAny_loadPart D ?_))))))))))
  dsimp only
  have c0 : aRefKeyMayBeTheName name #[] = false := by rw [aRefKeyMayBeTheName_at]; simp
  simp only [c0, Bool.false_eq_true, if_false]
  refine wpAny_updatePart D ?_
  refine wpAny_bind (wpAny_lookBehind D' (by exact pastItsLine_dict (by show 1 ≤ _; rw [sizeLine_eq]; decide)) ?_)
  exact wpAny_pure (wpAny_pure (wpAny_pure fin))
end
end
section
/-- what a machine that reads a text stands on -/
noncomputable def charAt (x : Str) (k : Nat) : Str := Txt.slice x (some (k : Int)) (some ((k : Int) + 1))
noncomputable def stepAt (x : Str) (k : Nat) : Nat := k + (charAt x k).length
structure ReadPre (f aT aA : Addr) (oF : Obj) (cv : Value) (qual : Str) (x : Str) (tx : Tok) (aL : Addr) (g : Heap) : Prop where
  fn : g.get? f = some oF
  cd : g.CodeRec cv qual
  tt : CellAt g aT (.str x tx)
  an : CellAt g aA (.ref aL)
theorem ReadPre.keeps {f aT aA : Addr} {oF : Obj} {cv : Value} {qual : Str} {x : Str} {tx : Tok} {aL : Addr} {g g' : Heap} (H : ReadPre f aT aA oF cv qual x tx aL g) (st : g.StaysIn g') : ReadPre f aT aA oF cv qual x tx aL g' :=
  ⟨st _ _ H.fn, let ⟨c, o, vs, t, e, ho, r⟩ := H.cd; ⟨c, o, vs, t, e, st _ _ ho, r⟩, H.tt.keeps st, H.an.keeps st⟩
noncomputable def ReadSpec (w : World) (p : Program) (loose : List Str) (mean : ExcName → Option Value) (mg mb : Str → Option Value) (f aT aA : Addr) (oF : Obj) (cv : Value) (qual : Str) (x : Str) (tx : Tok) (aL : Addr) : Prop :=
  ∀ (k : Nat) (ki : Int) (t1 tk : Tok) (e : Nat), ki = (k : Int) → k ≤ x.length → Does w p loose mean mg mb 1 16 (ReadPre f aT aA oF cv qual x tx aL) (.ref f) [.int 1 t1] [(aL, W.listOf #[.int ki tk] e)]
    (fun v mu' => ∃ t t' e', v = .str (charAt x k) t ∧ mu' = [(aL, W.listOf #[.int ((stepAt x k : Nat) : Int) t'] e')])
noncomputable abbrev netEs (w : World) (k1 k2 k3 k4 tl tw : Tok) (ln : Int) (st pb : Addr) : List DictEntry :=
  [⟨PyData.keyHash w.params (Str.ofString "lineno"), .str (Str.ofString "lineno") k1, .int ln tl⟩, ⟨PyData.keyHash w.params (Str.ofString "instream"), .str (Str.ofString "instream") k2, .ref st⟩,
   ⟨PyData.keyHash w.params (Str.ofString "whitespace"), .str (Str.ofString "whitespace") k3, .str (Str.ofString "\n\t\r ") tw⟩, ⟨PyData.keyHash w.params (Str.ofString "pushback"), .str (Str.ofString "pushback") k4, .ref pb⟩]
noncomputable abbrev machL (w : World) (pb xM dM dd st f c1 aL aT aA : Addr) (k1 k2 k3 k4 tl tw kr ta : Tok) (ln : Int) (words : Array Value) (ew : Nat) (pos : Int) (ep : Nat) (fdS fdF : FuncData) (o1 oA oT tab : Obj) : List (Addr × Obj) :=
  [(pb, W.listOf words ew), (xM, instObj 97 dM), (dM, dictOf (netEs w k1 k2 k3 k4 tl tw ln st pb) 4), (aL, W.listOf #[.int pos ta] ep), (dd, dictOf [⟨PyData.keyHash w.params (Str.ofString "read"), .str (Str.ofString "read") kr, .ref f⟩] 1),
   (st, ⟨.type "function", some dd, .func fdS, #[]⟩), (f, ⟨.type "function", none, .func fdF, #[]⟩), (aA, oA), (aT, oT), (c1, o1), (125, tab)]
/-- the machine's addresses lie apart -/
structure MachApart (pb xM dM dd st f c1 aL aT aA : Nat) : Prop where
  h1 : 125 < aT
  h2 : 125 < aA
  h3 : aT ≠ aA
  h4 : aT < aL
  h5 : aA < aL
  h6 : aL < f
  h7 : f < st
  h8 : st < dd
  h9 : dd < dM
  ha : dM < xM
  hb : xM < pb
  hc : c1 < f
  hd : c1 ≠ aL
  he : c1 ≠ aT
  hf : c1 ≠ aA
  hg : c1 ≠ 125
inductive MachFacts (w : World) (p : Program) (loose : List Str) (mean : ExcName → Option Value) (mg mb : Str → Option Value) (x : Str) (tx : Tok) (pb xM dM dd st f c1 aL aT aA : Addr) (fdF : FuncData) (o1 oA oT : Obj) (qual : Str) : Prop
  | mk  (qb0 : MachApart pb xM dM dd st f c1 aL aT aA) (qb1 : (∃ vs t, o1.data = .fields vs ∧ vs[1]? = some (.str qual t))) (qb2 : oT.data = .cell (some (.str x tx))) (qb3 : oA.data = .cell (some (.ref aL))) (qb4 : ReadSpec w p loose mean mg mb f aT aA ⟨.type "function", none, .func fdF, #[]⟩ (.ref c1) qual x tx aL) : MachFacts w p loose mean mg mb x tx pb xM dM dd st f c1 aL aT aA fdF o1 oA oT qual
inductive MachPost (w : World) (p : Program) (loose : List Str) (mean : ExcName → Option Value) (mg mb : Str → Option Value) (x : Str) (tx : Tok) (tabOk : Addr → Obj → Obj → Prop) (v : Value) (mu' : List (Addr × Obj)) : Prop
  | mk (pb xM dM dd st f c1 aL aT aA : Addr) (k1 k2 k3 k4 tl tw kr ta : Tok) (fdS fdF : FuncData) (o1 oA oT tab : Obj) (qual : Str) (qb0 : v = .ref xM) (qb1 : mu' = machL w pb xM dM dd st f c1 aL aT aA k1 k2 k3 k4 tl tw kr ta 1 #[] 0 0 0 fdS fdF o1 oA oT tab) (qb2 : MachFacts w p loose mean mg mb x tx pb xM dM dd st f c1 aL aT aA fdF o1 oA oT qual) (qb3 : tabOk c1 o1 tab) : MachPost w p loose mean mg mb x tx tabOk v mu'
theorem readPre_of {f aT aA aL c1 : Addr} {oF o1 oA oT : Obj} {vs : Array Value} {qual : Str} {t tx : Tok} {x : Str} {g : Heap} {news : List (Addr × Obj)}
    (hs : ∀ p ∈ news, g.get? p.1 = some p.2) (mf : (f, oF) ∈ news) (mc : (c1, o1) ∈ news) (hd : o1.data = .fields vs) (hv : vs[1]? = some (.str qual t)) (m1 : (aT, oT) ∈ news) (e1 : oT.data = .cell (some (.str x tx)))
    (m2 : (aA, oA) ∈ news) (e2 : oA.data = .cell (some (.ref aL))) : ReadPre f aT aA oF (.ref c1) qual x tx aL g :=
  ⟨hs _ mf, ⟨c1, o1, vs, t, rfl, hs _ mc, hd, hv⟩, ⟨oT, hs _ m1, e1⟩, ⟨oA, hs _ m2, e2⟩⟩
end
section
theorem off_A50_machine : True := by (w_top off); first | walk1 | trivial
theorem nameRead : typeLookup (.type "function") (Str.ofString "read") = pure none := by rw [typeLookup_type, builtinLookup_eq_fast]; kernel_rfl
noncomputable def TabOk1 (c1 : Addr) (o1 : Obj) (tab : Obj) : Prop := (∃ vs t, o1.data = .fields vs ∧ vs[1]? = some (.str (Str.ofString "_law_machine.<locals>._law_read_on") t)) ∧ ∃ c2 : Addr, tab = tabObj (#[] ++ #[rawInt 133, rawInt 4, .ref c1] ++ #[rawInt 137, rawInt 13, .ref c2])
set_option maxHeartbeats 8000000 in
theorem does_machine {w : World} {p : Program} {loose : List Str} {mean : ExcName → Option Value} {mg mb : Str → Option Value} {x : Str} {tx : Tok} (hsz : x.length ≤ 64) :
    Does w p loose mean mg mb 10 500 (fun g => CodeHd g 129 125) (.ref 130) [.str x tx] [(125, tabObj #[])] (MachPost w p loose mean mg mb x tx (fun c1 o1 tab => TabOk1 c1 o1 tab)) := by
  intro dp un gd cn cs a ccd cl outer A₀ base h₀ L m s Q E still hB hF hX hN hap hT hk hP hdp hun hret
  ((have hfill := hd_kept; (have : hd_kept = hd_kept := by (revert hfill; k_fill; intro _; rfl)); clear this hfill))
  ((refine wpAny_call ?_; k_dflt (refine' enter_topCQ ?k1 ?k2 ?k3 ?k4 ?k4a ?k5 ?kA ?kF ?kK ?k6 ?k7 ?k8 ?k9 ?kB ?kD ?_ ?c2 ?c3 ?c4; (case kA => exact rfl); (case kF => exact rfl); (case kK => first | exact rfl | assumption); (case k1 => k_asm); (case k2 => k_asm); (case k3 => k_asm); (case k4 => k_asm); (case k4a => k_asm); (case k5 => k_asm); (case k6 => k_is); (case k7 => k_is); (case k8 => ktr_room); (case k9 => exact BindsTo.of_eq rfl); (case kB => exact rfl); (case kD => decide +kernel); (case c2 => exact rfl); (case c3 => exact rfl); (case c4 => exact rfl); k_whole; intro g8' L8' h8' tk8' cells8' FG8' F8' N8' Y8' B8' X8' T8' st8' stl8' l18 Q8' E8' hQ8'; (try k_lt l18); k_cells Y8'; (try simp only [List.cons_append, List.nil_append, List.append_nil] at N8'); (try dsimp only); (try k_lift B8'); (try k_fold))))
  have hp : CodeHd _ 129 125 := hP _ (by assumption) (by assumption)
  walk_at "hx_steps"
  refine hold_out ?_
  (rename News _ _ _ (_ :: _) => hN9); (rename Fr _ _ _ _ => hF9)
  refine setAttr_fn hF9 hN9 nameRead ?ne ?_
  case ne => ((refine Mine.allNe_to ?_; repeat' (first | exact trivial | refine And.intro ?_ ?_ | (show @Ne Nat _ _; (try dsimp only); first | (with_reducible exact Nat.ne_of_lt (by assumption)) | (with_reducible exact Nat.ne_of_gt (by assumption)) | (with_reducible ((repeat (rename @LT.lt Nat _ _ _ ∧ _ => hcj; first | exact Nat.ne_of_lt hcj.1 | exact Nat.ne_of_gt hcj.1 | exact Nat.ne_of_lt hcj.2.1 | exact Nat.ne_of_gt hcj.2.1 | exact Nat.ne_of_lt hcj.2 | exact Nat.ne_of_gt hcj.2 | exact Nat.ne_of_lt hcj.2.2.1 | exact Nat.ne_of_gt hcj.2.2.1 | exact Nat.ne_of_lt hcj.2.2 | exact Nat.ne_of_gt hcj.2.2 | exact Nat.ne_of_lt hcj.2.2.2.1 | exact Nat.ne_of_gt hcj.2.2.2.1 | exact Nat.ne_of_lt hcj.2.2.2 | exact Nat.ne_of_gt hcj.2.2.2 | exact Nat.ne_of_lt hcj.2.2.2.2.1 | exact Nat.ne_of_gt hcj.2.2.2.2.1 | exact Nat.ne_of_lt hcj.2.2.2.2 | exact Nat.ne_of_gt hcj.2.2.2.2 | exact Nat.ne_of_lt hcj.2.2.2.2.2.1 | exact Nat.ne_of_gt hcj.2.2.2.2.2.1 | exact Nat.ne_of_lt hcj.2.2.2.2.2 | exact Nat.ne_of_gt hcj.2.2.2.2.2 | exact Nat.ne_of_lt hcj.2.2.2.2.2.2.1 | exact Nat.ne_of_gt hcj.2.2.2.2.2.2.1 | exact Nat.ne_of_lt hcj.2.2.2.2.2.2 | exact Nat.ne_of_gt hcj.2.2.2.2.2.2 | exact Nat.ne_of_lt hcj.2.2.2.2.2.2.2.1 | exact Nat.ne_of_gt hcj.2.2.2.2.2.2.2.1 | exact Nat.ne_of_lt hcj.2.2.2.2.2.2.2 | exact Nat.ne_of_gt hcj.2.2.2.2.2.2.2 | exact Nat.ne_of_lt hcj.2.2.2.2.2.2.2.2.1 | exact Nat.ne_of_gt hcj.2.2.2.2.2.2.2.2.1 | exact Nat.ne_of_lt hcj.2.2.2.2.2.2.2.2 | exact Nat.ne_of_gt hcj.2.2.2.2.2.2.2.2 | exact Nat.ne_of_lt hcj.2.2.2.2.2.2.2.2.2.1 | exact Nat.ne_of_gt hcj.2.2.2.2.2.2.2.2.2.1 | exact Nat.ne_of_lt hcj.2.2.2.2.2.2.2.2.2 | exact Nat.ne_of_gt hcj.2.2.2.2.2.2.2.2.2 | exact Nat.ne_of_lt hcj.2.2.2.2.2.2.2.2.2.2.1 | exact Nat.ne_of_gt hcj.2.2.2.2.2.2.2.2.2.2.1 | exact Nat.ne_of_lt hcj.2.2.2.2.2.2.2.2.2.2 | exact Nat.ne_of_gt hcj.2.2.2.2.2.2.2.2.2.2 | clear hcj))); done) | omega))))
  intro dd h' tk F' N' l1 l2
  replace l2 := allLt_of l2
  simp only [W.AllLt, and_true] at l2
  clear hN9 hF9
  walk_at "hx_steps"
  refine hold_out ?_
  k_dflt (refine' call_cls ?k1 ?k2 ?k3 ?k4 ?k5 ?k6 ?_; (case k1 => k_asm); (case k2 => k_asm); (case k3 => k_asm); (case k4 => k_is); (case k5 => k_is); (case k6 => k_is))
  intro xM dM h' F' N' l3 l4
  k_lt l3
  k_lt2 l4
  k_dflt (refine' enter_top (still := []) ?k1 ?k2 ?k3 ?k4 ?k4a ?k5 ?kA ?kF ?kK ?k6 ?k7 ?k8 ?k9 ?kB ?_ ?c2 ?c3 ?c4 ?c5; (case kA => exact rfl); (case kF => exact rfl); (case kK => first | exact rfl | assumption); (case k1 => k_asm); (case k2 => k_asm); (case k3 => k_asm); (case k4 => (rw [List.append_nil]; k_asm)); (case k4a => exact fun _ h => nomatch h); (case k5 => k_asm); (case k6 => k_is); (case k7 => k_is); (case k8 => (first | (refine' room0 ?qh ?qb; (case qh => assumption); (case qb => exact Nat.le_of_ble_eq_true rfl)) | (refine' room1 ?qh ?qb; (case qh => assumption); (case qb => exact Nat.le_of_ble_eq_true rfl)) | (refine' room2 ?qh ?qb; (case qh => assumption); (case qb => exact Nat.le_of_ble_eq_true rfl)) | omega | ((try simp only [depth_under_make, depth_under_kw, depth_in1, depth_deeper, depth_caller, units_in1, units_deeper, Around.mark_units, units_caller]); (try dsimp only [ktrTop]); omega))); (case k9 => exact BindsTo.of_eq (by rfl)); (case c5 => decide); (case kB => exact locs rfl); (case c2 => exact rfl); (case c3 => exact rfl); (case c4 => exact rfl))
  intro g' L' h' tk' FG' F' N' B' X' T' st' stl' l'; (dsimp only [List.map, List.zip, List.zipWith, List.reverse, List.reverseAux, withB] at F'); (try dsimp only); (try k_lift B'); (try k_fold)
  walk_at "hx_steps"
  refine hold_out ?_
  refine' leaveS_ ?hxF ?hxN ?_
  case hxF => k_asm
  case hxN => k_asm
  intro kF kN kD
  refine ⟨rfl, ?_⟩
  clear kD
  simp only [List.append_nil] at kN
  try dsimp only
  walk_at "hx_steps"
  (rename News _ _ _ (_ :: _ :: _ :: _ :: _ :: _ :: _ :: _ :: _ :: _ :: _ :: _ :: []) => hN9)
  refine' cut_in (I := ReadSpec w p loose mean mg mb _ _ _ _ _ _ x tx _) ?main ?contract
  case main =>
    intro hread
    (replace hN9 := news_sub (r := [_, _, _, _, _, _, _, _, _, _, _]) hN9 (fmc (.head _) (fmc (.tail _ (.head _)) (fmc (.tail _ (.tail _ (.head _))) (fmc (.tail _ (.tail _ (.tail _ (.tail _ (.tail _ (.tail _ (.tail _ (.tail _ (.head _))))))))) (fmc (.tail _ (.tail _ (.tail _ (.head _)))) (fmc (.tail _ (.tail _ (.tail _ (.tail _ (.head _))))) (fmc (.tail _ (.tail _ (.tail _ (.tail _ (.tail _ (.tail _ (.head _))))))) (fmc (.tail _ (.tail _ (.tail _ (.tail _ (.tail _ (.tail _ (.tail _ (.tail _ (.tail _ (.head _)))))))))) (fmc (.tail _ (.tail _ (.tail _ (.tail _ (.tail _ (.tail _ (.tail _ (.tail _ (.tail _ (.tail _ (.head _))))))))))) (fmc (.tail _ (.tail _ (.tail _ (.tail _ (.tail _ (.tail _ (.tail _ (.head _)))))))) (fmc (.tail _ (.tail _ (.tail _ (.tail _ (.tail _ (.tail _ (.tail _ (.tail _ (.tail _ (.tail _ (.tail _ (.head _)))))))))))) (fun _ h => nomatch h)))))))))))))
    refine hQ8' _ _ ?_
    refine' leaveS_ ?hxF ?hxN ?_
    case hxF => k_asm
    case hxN => exact hN9
    intro kF kN kD
    refine hret _ _ _ _ kF kN kD ?_
    refine' ⟨_, _, _, _, _, _, _, _, _, _, _, _, _, _, _, _, _, _, _, _, _, _, _, _, _, rfl, rfl, ⟨?ap, ?co, ?ct, ?ca, hread⟩, ?tb⟩
    case ap => constructor <;> first | (with_reducible exact Nat.ne_of_lt (by assumption)) | (with_reducible exact Nat.ne_of_gt (by assumption)) | (with_reducible ((repeat (rename @LT.lt Nat _ _ _ ∧ _ => hcj; first | exact Nat.ne_of_lt hcj.1 | exact Nat.ne_of_gt hcj.1 | exact Nat.ne_of_lt hcj.2.1 | exact Nat.ne_of_gt hcj.2.1 | exact Nat.ne_of_lt hcj.2 | exact Nat.ne_of_gt hcj.2 | exact Nat.ne_of_lt hcj.2.2.1 | exact Nat.ne_of_gt hcj.2.2.1 | exact Nat.ne_of_lt hcj.2.2 | exact Nat.ne_of_gt hcj.2.2 | exact Nat.ne_of_lt hcj.2.2.2.1 | exact Nat.ne_of_gt hcj.2.2.2.1 | exact Nat.ne_of_lt hcj.2.2.2 | exact Nat.ne_of_gt hcj.2.2.2 | exact Nat.ne_of_lt hcj.2.2.2.2.1 | exact Nat.ne_of_gt hcj.2.2.2.2.1 | exact Nat.ne_of_lt hcj.2.2.2.2 | exact Nat.ne_of_gt hcj.2.2.2.2 | exact Nat.ne_of_lt hcj.2.2.2.2.2.1 | exact Nat.ne_of_gt hcj.2.2.2.2.2.1 | exact Nat.ne_of_lt hcj.2.2.2.2.2 | exact Nat.ne_of_gt hcj.2.2.2.2.2 | exact Nat.ne_of_lt hcj.2.2.2.2.2.2.1 | exact Nat.ne_of_gt hcj.2.2.2.2.2.2.1 | exact Nat.ne_of_lt hcj.2.2.2.2.2.2 | exact Nat.ne_of_gt hcj.2.2.2.2.2.2 | exact Nat.ne_of_lt hcj.2.2.2.2.2.2.2.1 | exact Nat.ne_of_gt hcj.2.2.2.2.2.2.2.1 | exact Nat.ne_of_lt hcj.2.2.2.2.2.2.2 | exact Nat.ne_of_gt hcj.2.2.2.2.2.2.2 | exact Nat.ne_of_lt hcj.2.2.2.2.2.2.2.2.1 | exact Nat.ne_of_gt hcj.2.2.2.2.2.2.2.2.1 | exact Nat.ne_of_lt hcj.2.2.2.2.2.2.2.2 | exact Nat.ne_of_gt hcj.2.2.2.2.2.2.2.2 | exact Nat.ne_of_lt hcj.2.2.2.2.2.2.2.2.2.1 | exact Nat.ne_of_gt hcj.2.2.2.2.2.2.2.2.2.1 | exact Nat.ne_of_lt hcj.2.2.2.2.2.2.2.2.2 | exact Nat.ne_of_gt hcj.2.2.2.2.2.2.2.2.2 | exact Nat.ne_of_lt hcj.2.2.2.2.2.2.2.2.2.2.1 | exact Nat.ne_of_gt hcj.2.2.2.2.2.2.2.2.2.2.1 | exact Nat.ne_of_lt hcj.2.2.2.2.2.2.2.2.2.2 | exact Nat.ne_of_gt hcj.2.2.2.2.2.2.2.2.2.2 | clear hcj))); done) | omega
    case co => exact ⟨_, _, by assumption, by assumption⟩
    case ct => assumption
    case ca => assumption
    case tb => exact ⟨⟨_, _, by assumption, by assumption⟩, _, rfl⟩
  case contract =>
    clear hB hF hX hN hap hT hk hP hdp hun hret hp hN9
    intro k ki t1 tk e hki hkx
    subst hki
    intro dp un gd cn cs a ccd cl outer A₀ base h₀ L m s Q E still hB hF hX hN hap hT hk hP hdp hun hret
    have hp0 := hP s.heap hF.keep (fun p hp => (hN p (List.mem_append_right _ hp)).1)
    have hp1 := hp0.fn
    have hp2 := hp0.cd
    refine wpAny_call ?_
    k_dflt (refine' enter_fnQ ?k1 ?k2 ?k3 ?k4 ?k4a ?k5 ?kA ?kF ?kK ?k6 ?k7 ?k8 ?k9 ?kB ?_ ?c2 ?c3 ?c4 ?c5; (case k6 => exact hp1); (case k7 => exact hp2); (case kA => exact rfl); (case kF => exact rfl); (case kK => first | exact rfl | assumption); (case k1 => exact hB); (case k2 => exact hF); (case k3 => exact hX); (case k4 => exact hN); (case k4a => exact hap); (case k5 => exact hT); (case k8 => (first | (refine' room0 ?qh ?qb; (case qh => assumption); (case qb => exact Nat.le_of_ble_eq_true rfl)) | (refine' room1 ?qh ?qb; (case qh => assumption); (case qb => exact Nat.le_of_ble_eq_true rfl)) | (refine' room2 ?qh ?qb; (case qh => assumption); (case qb => exact Nat.le_of_ble_eq_true rfl)) | omega | ((try simp only [depth_under_make, depth_under_kw, depth_in1, depth_deeper, depth_caller, units_in1, units_deeper, Around.mark_units, units_caller]); (try dsimp only [ktrTop]); omega))); (case k9 => exact BindsTo.of_eq (by rfl)); (case c5 => decide); (case kB => exact locs rfl); (case c2 => exact rfl); (case c3 => exact rfl); (case c4 => exact rfl))
    intro g' L' h' tk' FG' F' N' B' X' T' st' stl' l' Q8' E8' hQ8'
    dsimp only [List.map, List.zip, List.zipWith, List.reverse, List.reverseAux, withB] at F'
    try k_fold
    clear hp0 hp1 hp2
    have hp := hP _ (by assumption) (by assumption)
    have hpt := hp.tt
    have hpa := hp.an
    walk_at "hx_steps"
    (((first | refine hQ8' _ _ ?_ | refine hold_out ?_); refine' leaveS_ ?hxF ?hxN ?_; (case hxF => k_asm); (case hxN => k_asm); intro kF kN kD; (rename ∀ (v : Value) (mu' : List (Addr × Obj)) (h' : Heap) (tk' : Nat), _ → _ → _ → _ → _ => hxR); refine hxR _ _ _ _ kF kN kD ?_; clear hxR; try dsimp only))
    exact ⟨_, _, _, rfl, rfl⟩
end
section
theorem off_A51_machine2 : True := by (w_top off); first | walk1 | trivial
set_option maxHeartbeats 8000000 in
theorem does_machine2 {w : World} {p : Program} {loose : List Str} {mean : ExcName → Option Value} {mg mb : Str → Option Value} {x : Str} {tx : Tok} (hsz : x.length ≤ 64) {c1 c2 : Addr} {o1 : Obj} (hc1 : @Ne Nat c1 125) (ho1 : ∃ vs t, o1.data = .fields vs ∧ vs[1]? = some (.str (Str.ofString "_law_machine.<locals>._law_read_on") t)) :
    Does w p loose mean mg mb 10 500 (fun g => CodeHd g 129 125) (.ref 130) [.str x tx] [(c1, o1), (125, tabObj (#[] ++ #[rawInt 133, rawInt 4, .ref c1] ++ #[rawInt 137, rawInt 13, .ref c2]))] (MachPost w p loose mean mg mb x tx (fun _ _ tab => ∃ ps, tab = tabObj ps)) := by
  intro dp un gd cn cs a ccd cl outer A₀ base h₀ L m s Q E still hB hF hX hN hap hT hk hP hdp hun hret
  ((have hfill := hd_kept; (have : hd_kept = hd_kept := by (revert hfill; k_fill; intro _; rfl)); clear this hfill))
  ((refine wpAny_call ?_; k_dflt (refine' enter_topCQ ?k1 ?k2 ?k3 ?k4 ?k4a ?k5 ?kA ?kF ?kK ?k6 ?k7 ?k8 ?k9 ?kB ?kD ?_ ?c2 ?c3 ?c4; (case kA => exact rfl); (case kF => exact rfl); (case kK => first | exact rfl | assumption); (case k1 => k_asm); (case k2 => k_asm); (case k3 => k_asm); (case k4 => k_asm); (case k4a => k_asm); (case k5 => k_asm); (case k6 => k_is); (case k7 => k_is); (case k8 => ktr_room); (case k9 => exact BindsTo.of_eq rfl); (case kB => exact rfl); (case kD => decide +kernel); (case c2 => exact rfl); (case c3 => exact rfl); (case c4 => exact rfl); k_whole; intro g8' L8' h8' tk8' cells8' FG8' F8' N8' Y8' B8' X8' T8' st8' stl8' l18 Q8' E8' hQ8'; (try k_lt l18); k_cells Y8'; (try simp only [List.cons_append, List.nil_append, List.append_nil] at N8'); (try dsimp only); (try k_lift B8'); (try k_fold))))
  have hp : CodeHd _ 129 125 := hP _ (by assumption) (by assumption)
  walk_at "hx_steps"
  refine hold_out ?_
  (rename News _ _ _ (_ :: _) => hN9); (rename Fr _ _ _ _ => hF9)
  refine setAttr_fn hF9 hN9 nameRead ?ne ?_
  case ne => (first | ((refine Mine.allNe_to ?_; repeat' (first | exact trivial | (refine And.intro ?_ ?_; focus (first | (with_reducible exact Nat.ne_of_lt (by assumption)) | (with_reducible exact Nat.ne_of_gt (by assumption)) | (with_reducible ((repeat (rename @LT.lt Nat _ _ _ ∧ _ => hcj; first | exact Nat.ne_of_lt hcj.1 | exact Nat.ne_of_gt hcj.1 | exact Nat.ne_of_lt hcj.2.1 | exact Nat.ne_of_gt hcj.2.1 | exact Nat.ne_of_lt hcj.2 | exact Nat.ne_of_gt hcj.2 | exact Nat.ne_of_lt hcj.2.2.1 | exact Nat.ne_of_gt hcj.2.2.1 | exact Nat.ne_of_lt hcj.2.2 | exact Nat.ne_of_gt hcj.2.2 | exact Nat.ne_of_lt hcj.2.2.2.1 | exact Nat.ne_of_gt hcj.2.2.2.1 | exact Nat.ne_of_lt hcj.2.2.2 | exact Nat.ne_of_gt hcj.2.2.2 | exact Nat.ne_of_lt hcj.2.2.2.2.1 | exact Nat.ne_of_gt hcj.2.2.2.2.1 | exact Nat.ne_of_lt hcj.2.2.2.2 | exact Nat.ne_of_gt hcj.2.2.2.2 | exact Nat.ne_of_lt hcj.2.2.2.2.2.1 | exact Nat.ne_of_gt hcj.2.2.2.2.2.1 | exact Nat.ne_of_lt hcj.2.2.2.2.2 | exact Nat.ne_of_gt hcj.2.2.2.2.2 | exact Nat.ne_of_lt hcj.2.2.2.2.2.2.1 | exact Nat.ne_of_gt hcj.2.2.2.2.2.2.1 | exact Nat.ne_of_lt hcj.2.2.2.2.2.2 | exact Nat.ne_of_gt hcj.2.2.2.2.2.2 | exact Nat.ne_of_lt hcj.2.2.2.2.2.2.2.1 | exact Nat.ne_of_gt hcj.2.2.2.2.2.2.2.1 | exact Nat.ne_of_lt hcj.2.2.2.2.2.2.2 | exact Nat.ne_of_gt hcj.2.2.2.2.2.2.2 | exact Nat.ne_of_lt hcj.2.2.2.2.2.2.2.2.1 | exact Nat.ne_of_gt hcj.2.2.2.2.2.2.2.2.1 | exact Nat.ne_of_lt hcj.2.2.2.2.2.2.2.2 | exact Nat.ne_of_gt hcj.2.2.2.2.2.2.2.2 | exact Nat.ne_of_lt hcj.2.2.2.2.2.2.2.2.2.1 | exact Nat.ne_of_gt hcj.2.2.2.2.2.2.2.2.2.1 | exact Nat.ne_of_lt hcj.2.2.2.2.2.2.2.2.2 | exact Nat.ne_of_gt hcj.2.2.2.2.2.2.2.2.2 | exact Nat.ne_of_lt hcj.2.2.2.2.2.2.2.2.2.2.1 | exact Nat.ne_of_gt hcj.2.2.2.2.2.2.2.2.2.2.1 | exact Nat.ne_of_lt hcj.2.2.2.2.2.2.2.2.2.2 | exact Nat.ne_of_gt hcj.2.2.2.2.2.2.2.2.2.2 | clear hcj))); done) | omega))))) | ((refine Mine.allNe_to ?_; repeat' (first | exact trivial | refine And.intro ?_ ?_ | (show @Ne Nat _ _; (try dsimp only); first | (with_reducible exact Nat.ne_of_lt (by assumption)) | (with_reducible exact Nat.ne_of_gt (by assumption)) | (with_reducible ((repeat (rename @LT.lt Nat _ _ _ ∧ _ => hcj; first | exact Nat.ne_of_lt hcj.1 | exact Nat.ne_of_gt hcj.1 | exact Nat.ne_of_lt hcj.2.1 | exact Nat.ne_of_gt hcj.2.1 | exact Nat.ne_of_lt hcj.2 | exact Nat.ne_of_gt hcj.2 | exact Nat.ne_of_lt hcj.2.2.1 | exact Nat.ne_of_gt hcj.2.2.1 | exact Nat.ne_of_lt hcj.2.2 | exact Nat.ne_of_gt hcj.2.2 | exact Nat.ne_of_lt hcj.2.2.2.1 | exact Nat.ne_of_gt hcj.2.2.2.1 | exact Nat.ne_of_lt hcj.2.2.2 | exact Nat.ne_of_gt hcj.2.2.2 | exact Nat.ne_of_lt hcj.2.2.2.2.1 | exact Nat.ne_of_gt hcj.2.2.2.2.1 | exact Nat.ne_of_lt hcj.2.2.2.2 | exact Nat.ne_of_gt hcj.2.2.2.2 | exact Nat.ne_of_lt hcj.2.2.2.2.2.1 | exact Nat.ne_of_gt hcj.2.2.2.2.2.1 | exact Nat.ne_of_lt hcj.2.2.2.2.2 | exact Nat.ne_of_gt hcj.2.2.2.2.2 | exact Nat.ne_of_lt hcj.2.2.2.2.2.2.1 | exact Nat.ne_of_gt hcj.2.2.2.2.2.2.1 | exact Nat.ne_of_lt hcj.2.2.2.2.2.2 | exact Nat.ne_of_gt hcj.2.2.2.2.2.2 | exact Nat.ne_of_lt hcj.2.2.2.2.2.2.2.1 | exact Nat.ne_of_gt hcj.2.2.2.2.2.2.2.1 | exact Nat.ne_of_lt hcj.2.2.2.2.2.2.2 | exact Nat.ne_of_gt hcj.2.2.2.2.2.2.2 | exact Nat.ne_of_lt hcj.2.2.2.2.2.2.2.2.1 | exact Nat.ne_of_gt hcj.2.2.2.2.2.2.2.2.1 | exact Nat.ne_of_lt hcj.2.2.2.2.2.2.2.2 | exact Nat.ne_of_gt hcj.2.2.2.2.2.2.2.2 | exact Nat.ne_of_lt hcj.2.2.2.2.2.2.2.2.2.1 | exact Nat.ne_of_gt hcj.2.2.2.2.2.2.2.2.2.1 | exact Nat.ne_of_lt hcj.2.2.2.2.2.2.2.2.2 | exact Nat.ne_of_gt hcj.2.2.2.2.2.2.2.2.2 | exact Nat.ne_of_lt hcj.2.2.2.2.2.2.2.2.2.2.1 | exact Nat.ne_of_gt hcj.2.2.2.2.2.2.2.2.2.2.1 | exact Nat.ne_of_lt hcj.2.2.2.2.2.2.2.2.2.2 | exact Nat.ne_of_gt hcj.2.2.2.2.2.2.2.2.2.2 | clear hcj))); done) | omega)))))
  intro dd h' tk F' N' l1 l2
  replace l2 := allLt_of l2
  simp only [W.AllLt, and_true] at l2
  clear hN9 hF9
  walk_at "hx_steps"
  refine hold_out ?_
  k_dflt (refine' call_cls ?k1 ?k2 ?k3 ?k4 ?k5 ?k6 ?_; (case k1 => k_asm); (case k2 => k_asm); (case k3 => k_asm); (case k4 => k_is); (case k5 => k_is); (case k6 => k_is))
  intro xM dM h' F' N' l3 l4
  k_lt l3
  k_lt2 l4
  k_dflt (refine' enter_top (still := []) ?k1 ?k2 ?k3 ?k4 ?k4a ?k5 ?kA ?kF ?kK ?k6 ?k7 ?k8 ?k9 ?kB ?_ ?c2 ?c3 ?c4 ?c5; (case kA => exact rfl); (case kF => exact rfl); (case kK => first | exact rfl | assumption); (case k1 => k_asm); (case k2 => k_asm); (case k3 => k_asm); (case k4 => (rw [List.append_nil]; k_asm)); (case k4a => exact fun _ h => nomatch h); (case k5 => k_asm); (case k6 => k_is); (case k7 => k_is); (case k8 => (first | (refine' room0 ?qh ?qb; (case qh => assumption); (case qb => exact Nat.le_of_ble_eq_true rfl)) | (refine' room1 ?qh ?qb; (case qh => assumption); (case qb => exact Nat.le_of_ble_eq_true rfl)) | (refine' room2 ?qh ?qb; (case qh => assumption); (case qb => exact Nat.le_of_ble_eq_true rfl)) | omega | ((try simp only [depth_under_make, depth_under_kw, depth_in1, depth_deeper, depth_caller, units_in1, units_deeper, Around.mark_units, units_caller]); (try dsimp only [ktrTop]); omega))); (case k9 => exact BindsTo.of_eq (by rfl)); (case c5 => decide); (case kB => exact locs rfl); (case c2 => exact rfl); (case c3 => exact rfl); (case c4 => exact rfl))
  intro g' L' h' tk' FG' F' N' B' X' T' st' stl' l'; (dsimp only [List.map, List.zip, List.zipWith, List.reverse, List.reverseAux, withB] at F'); (try dsimp only); (try k_lift B'); (try k_fold)
  walk_at "hx_steps"
  refine hold_out ?_
  refine' leaveS_ ?hxF ?hxN ?_
  case hxF => k_asm
  case hxN => k_asm
  intro kF kN kD
  refine ⟨rfl, ?_⟩
  clear kD
  simp only [List.append_nil] at kN
  try dsimp only
  walk_at "hx_steps"
  (rename News _ _ _ (_ :: _ :: _ :: _ :: _ :: _ :: _ :: _ :: _ :: _ :: _ :: []) => hN9)
  refine' cut_in (I := ReadSpec w p loose mean mg mb _ _ _ _ _ _ x tx _) ?main ?contract
  case main =>
    intro hread
    (replace hN9 := news_sub (r := [_, _, _, _, _, _, _, _, _, _, _]) hN9 (fmc (.head _) (fmc (.tail _ (.head _)) (fmc (.tail _ (.tail _ (.head _))) (fmc (.tail _ (.tail _ (.tail _ (.tail _ (.tail _ (.tail _ (.head _))))))) (fmc (.tail _ (.tail _ (.tail _ (.head _)))) (fmc (.tail _ (.tail _ (.tail _ (.tail _ (.head _))))) (fmc (.tail _ (.tail _ (.tail _ (.tail _ (.tail _ (.head _)))))) (fmc (.tail _ (.tail _ (.tail _ (.tail _ (.tail _ (.tail _ (.tail _ (.head _)))))))) (fmc (.tail _ (.tail _ (.tail _ (.tail _ (.tail _ (.tail _ (.tail _ (.tail _ (.head _))))))))) (fmc (.tail _ (.tail _ (.tail _ (.tail _ (.tail _ (.tail _ (.tail _ (.tail _ (.tail _ (.head _)))))))))) (fmc (.tail _ (.tail _ (.tail _ (.tail _ (.tail _ (.tail _ (.tail _ (.tail _ (.tail _ (.tail _ (.head _))))))))))) (fun _ h => nomatch h)))))))))))))
    refine hQ8' _ _ ?_
    refine' leaveS_ ?hxF ?hxN ?_
    case hxF => k_asm
    case hxN => exact hN9
    intro kF kN kD
    refine hret _ _ _ _ kF kN kD ?_
    refine' ⟨_, _, _, _, _, _, _, _, _, _, _, _, _, _, _, _, _, _, _, _, _, _, _, _, _, rfl, rfl, ⟨?ap, ?co, ?ct, ?ca, hread⟩, ?tb⟩
    case ap => constructor <;> first | (with_reducible exact Nat.ne_of_lt (by assumption)) | (with_reducible exact Nat.ne_of_gt (by assumption)) | (with_reducible ((repeat (rename @LT.lt Nat _ _ _ ∧ _ => hcj; first | exact Nat.ne_of_lt hcj.1 | exact Nat.ne_of_gt hcj.1 | exact Nat.ne_of_lt hcj.2.1 | exact Nat.ne_of_gt hcj.2.1 | exact Nat.ne_of_lt hcj.2 | exact Nat.ne_of_gt hcj.2 | exact Nat.ne_of_lt hcj.2.2.1 | exact Nat.ne_of_gt hcj.2.2.1 | exact Nat.ne_of_lt hcj.2.2 | exact Nat.ne_of_gt hcj.2.2 | exact Nat.ne_of_lt hcj.2.2.2.1 | exact Nat.ne_of_gt hcj.2.2.2.1 | exact Nat.ne_of_lt hcj.2.2.2 | exact Nat.ne_of_gt hcj.2.2.2 | exact Nat.ne_of_lt hcj.2.2.2.2.1 | exact Nat.ne_of_gt hcj.2.2.2.2.1 | exact Nat.ne_of_lt hcj.2.2.2.2 | exact Nat.ne_of_gt hcj.2.2.2.2 | exact Nat.ne_of_lt hcj.2.2.2.2.2.1 | exact Nat.ne_of_gt hcj.2.2.2.2.2.1 | exact Nat.ne_of_lt hcj.2.2.2.2.2 | exact Nat.ne_of_gt hcj.2.2.2.2.2 | exact Nat.ne_of_lt hcj.2.2.2.2.2.2.1 | exact Nat.ne_of_gt hcj.2.2.2.2.2.2.1 | exact Nat.ne_of_lt hcj.2.2.2.2.2.2 | exact Nat.ne_of_gt hcj.2.2.2.2.2.2 | exact Nat.ne_of_lt hcj.2.2.2.2.2.2.2.1 | exact Nat.ne_of_gt hcj.2.2.2.2.2.2.2.1 | exact Nat.ne_of_lt hcj.2.2.2.2.2.2.2 | exact Nat.ne_of_gt hcj.2.2.2.2.2.2.2 | exact Nat.ne_of_lt hcj.2.2.2.2.2.2.2.2.1 | exact Nat.ne_of_gt hcj.2.2.2.2.2.2.2.2.1 | exact Nat.ne_of_lt hcj.2.2.2.2.2.2.2.2 | exact Nat.ne_of_gt hcj.2.2.2.2.2.2.2.2 | exact Nat.ne_of_lt hcj.2.2.2.2.2.2.2.2.2.1 | exact Nat.ne_of_gt hcj.2.2.2.2.2.2.2.2.2.1 | exact Nat.ne_of_lt hcj.2.2.2.2.2.2.2.2.2 | exact Nat.ne_of_gt hcj.2.2.2.2.2.2.2.2.2 | exact Nat.ne_of_lt hcj.2.2.2.2.2.2.2.2.2.2.1 | exact Nat.ne_of_gt hcj.2.2.2.2.2.2.2.2.2.2.1 | exact Nat.ne_of_lt hcj.2.2.2.2.2.2.2.2.2.2 | exact Nat.ne_of_gt hcj.2.2.2.2.2.2.2.2.2.2 | clear hcj))); done) | omega
    case co => exact ho1
    case ct => assumption
    case ca => assumption
    case tb => exact ⟨_, rfl⟩
  case contract =>
    clear hB hF hX hN hap hT hk hP hdp hun hret hp hN9 ho1 hc1
    intro k ki t1 tk e hki hkx
    subst hki
    intro dp un gd cn cs a ccd cl outer A₀ base h₀ L m s Q E still hB hF hX hN hap hT hk hP hdp hun hret
    have hp0 := hP s.heap hF.keep (fun p hp => (hN p (List.mem_append_right _ hp)).1)
    have hp1 := hp0.fn
    have hp2 := hp0.cd
    refine wpAny_call ?_
    k_dflt (refine' enter_fnQ ?k1 ?k2 ?k3 ?k4 ?k4a ?k5 ?kA ?kF ?kK ?k6 ?k7 ?k8 ?k9 ?kB ?_ ?c2 ?c3 ?c4 ?c5; (case k6 => exact hp1); (case k7 => exact hp2); (case kA => exact rfl); (case kF => exact rfl); (case kK => first | exact rfl | assumption); (case k1 => exact hB); (case k2 => exact hF); (case k3 => exact hX); (case k4 => exact hN); (case k4a => exact hap); (case k5 => exact hT); (case k8 => (first | (refine' room0 ?qh ?qb; (case qh => assumption); (case qb => exact Nat.le_of_ble_eq_true rfl)) | (refine' room1 ?qh ?qb; (case qh => assumption); (case qb => exact Nat.le_of_ble_eq_true rfl)) | (refine' room2 ?qh ?qb; (case qh => assumption); (case qb => exact Nat.le_of_ble_eq_true rfl)) | omega | ((try simp only [depth_under_make, depth_under_kw, depth_in1, depth_deeper, depth_caller, units_in1, units_deeper, Around.mark_units, units_caller]); (try dsimp only [ktrTop]); omega))); (case k9 => exact BindsTo.of_eq (by rfl)); (case c5 => decide); (case kB => exact locs rfl); (case c2 => exact rfl); (case c3 => exact rfl); (case c4 => exact rfl))
    intro g' L' h' tk' FG' F' N' B' X' T' st' stl' l' Q8' E8' hQ8'
    dsimp only [List.map, List.zip, List.zipWith, List.reverse, List.reverseAux, withB] at F'
    try k_fold
    clear hp0 hp1 hp2
    have hp := hP _ (by assumption) (by assumption)
    have hpt := hp.tt
    have hpa := hp.an
    walk_at "hx_steps"
    (((first | refine hQ8' _ _ ?_ | refine hold_out ?_); refine' leaveS_ ?hxF ?hxN ?_; (case hxF => k_asm); (case hxN => k_asm); intro kF kN kD; (rename ∀ (v : Value) (mu' : List (Addr × Obj)) (h' : Heap) (tk' : Nat), _ → _ → _ → _ → _ => hxR); refine hxR _ _ _ _ kF kN kD ?_; clear hxR; try dsimp only))
    exact ⟨_, _, _, rfl, rfl⟩
end
end
section
theorem slot_fn_ga : Slot "function" "__getattribute__" "object.__getattribute__" :=
  .of (owner := "object") (n := "__getattribute__") (by rw [typeLookup_type, builtinLookup_eq_fast]; kernel_rfl) (by decide +kernel) (by decide +kernel) (by decide +kernel)
    (by first | exact .inl (by decide +kernel) | exact .inr (by decide +kernel)) (by rw [isSubtype_type]; kernel_rfl)
theorem no_getattr_fn : typeLookup (.type "function") (Str.ofString "__getattr__") = pure none := by rw [typeLookup_type, builtinLookup_eq_fast]; kernel_rfl
theorem entry_oga : entryFor table "object.__getattribute__" = some Builtin.«object.__getattribute__» := entryFor_of_tree (by kernel_rfl)
theorem args_oga (a b : Value) : argsOk "object.__getattribute__" ⟨[a, b], []⟩ := by unfold argsOk; kernel_rfl
section
variable {prog : Program} {w : World} {A : Around} {E : Value → Shared → Prop} {s : Shared} {x d : Addr} {fd : FuncData} {sl : Array (Option Value)} {name : Str} {v : Value} {es : List DictEntry} {n : Nat}
open Builtin Builtin.ObjectAttr in
theorem looks_find_fn {M : Model} {h : Heap} (hx : h.get? x = some ⟨.type "function", some d, .func fd, sl⟩) (hd : h.get? d = some (dictOf es n)) (hl : typeLookup (.type "function") name = pure none)
    (hg : getL name es = some (some v)) : Looks M h (find (.ref x) (.type "function") name) (.value v) := by
  intro A Q E s k q
  unfold find
  rw [hl]
  refine wpAny_bind (wpAny_pure (wpAny_bind (wpAny_pure (wpAny_bind (wpAny_pure ?_)))))
  show wpAny _ _ (ownThenClass _ _ _ _) _ _ _
  unfold ownThenClass inOwnDict ObjectAttr.ownDict
  refine wpAny_bind (wpAny_bind (wpAny_bind (wpAny_loadPart (k _ _ hx) ?_)))
  dsimp only
  unfold instanceDict
  refine wpAny_bind (wpAny_loadPart (k _ _ hx) ?_)
  dsimp only
  refine wpAny_pure ?_
  unfold inDict nsGet
  refine wpAny_bind (wpAny_loadPart (k _ _ hd) ?_)
  rw [nsLook_of (show lookIn name (dictOf es n) = some (some v) from hg)]
  repeat lk
  exact q
open Builtin Builtin.ObjectAttr in
theorem getAttr_fn {expr : Bool} {Q : Value → Shared → Prop} (hx : s.heap.get? x = some ⟨.type "function", some d, .func fd, sl⟩) (hd : s.heap.get? d = some (dictOf es n)) (hl : typeLookup (.type "function") name = pure none)
    (hg : getL name es = some (some v)) (hv : handedIn v = true) (h : Q v { s with toks := s.toks + 1 }) : wpAny (model prog w) A (getAttr (.ref x) name expr) Q E s := by
  obtain ⟨hh, g, dr, t, os⟩ := s
  dsimp only at hx hd
  have ty : Looks (model prog w) hh (typeOf (.ref x)) (.type "function") := (Looks.ld hx).andThen .now
  have fi : Looks (model prog w) hh (find (.ref x) (.type "function") name) (.value v) := looks_find_fn hx hd hl hg
  have hT : (⟨hh, g, dr, t + 1, os⟩ : Shared).TypeIs (.ref x) "function" := ⟨_, hx, rfl⟩
  refine wpAny_bind (wpAny_mkText ?_)
  unfold getAttrBy
  refine wpAny_holding (wpAny_bind (ty.at (wpAny_bind ?_)))
  rw [slot_fn_ga.lookup]
  refine wpAny_pure ?_
  have e1 : (onTheHeap (.type "function") && Value.builtin "object.__getattribute__" == Value.builtin "object.__getattribute__") = false := rfl
  simp only [e1, Bool.false_eq_true, if_false]
  unfold getAttrByItsOwn
  refine wpAny_bind (wpAny_pure (wpAny_bind (wpAny_attempt (wpAny_holding ?_))))
  have e2 : (expr && onTheHeap (.builtin "object.__getattribute__")) = false := Bool.and_false _
  unfold callGetattribute
  simp only [e2, Bool.false_eq_true, if_false]
  unfold boundAndCalled
  rw [slot_fn_ga.bind]
  refine wpAny_bind (wpAny_pure ?_)
  refine wpAny_call_entry slot_fn_ga hT entry_oga ?_ (args_oga _ _)
  unfold Builtin.«object.__getattribute__»
  repeat lk
  exact ⟨v, rfl, by rw [handedOut_of hv]; exact wpAny_pure h⟩
theorem getMethod_fn {pl : Sem Bool} {Q : Value × List Value → Shared → Prop} (hx : s.heap.get? x = some ⟨.type "function", some d, .func fd, sl⟩) (hd : s.heap.get? d = some (dictOf es n)) (hl : typeLookup (.type "function") name = pure none)
    (hg : getL name es = some (some v)) (hv : handedIn v = true) (h : Q (v, []) { s with toks := s.toks + 1 }) : wpAny (model prog w) A (getMethod (.ref x) name pl) Q E s := by
  obtain ⟨hh, g, dr, t, os⟩ := s
  dsimp only at hx hd
  have ty : Looks (model prog w) hh (typeOf (.ref x)) (.type "function") := (Looks.ld hx).andThen .now
  have ga : Looks (model prog w) hh (specialOf (.ref x) "__getattribute__") (some (.builtin "object.__getattribute__")) := ty.andThen (Looks.of_pure slot_fn_ga.lookup)
  have gt : Looks (model prog w) hh (specialOf (.ref x) "__getattr__") none := ty.andThen (Looks.of_pure no_getattr_fn)
  have gn : Looks (model prog w) hh (specialOf (.ref x) name) none := ty.andThen (Looks.of_pure hl)
  have e0 : (Manifest.canonical "object.__getattribute__" != "object.__getattribute__") = false := by decide +kernel
  unfold getMethod
  refine wpAny_bind (ga.at ?_)
  simp only [e0, Bool.false_eq_true, if_false]
  refine wpAny_bind (gt.at ?_)
  simp only [Option.isSome_none, Bool.false_eq_true, if_false]
  refine wpAny_bind (gn.at ?_)
  exact wpAny_bind (getAttr_fn hx hd hl hg hv (wpAny_pure h))
end
end
section
/-- a for loop at its head -/
noncomputable def ForAt (prog : Program) (w : World) (A : Around) (x : Str) (px : Pos) (body : List Stmt) (env : Env) (R : Result → Shared → Prop) (it : Value) (s : Shared) : Prop := codeAny (model prog w) A (.forLoop (.Name x px) it body [] env) R s
noncomputable def ForPost (prog : Program) (w : World) (A : Around) (x : Str) (px : Pos) (body : List Stmt) (env : Env) (R : Result → Shared → Prop) (it : Value) (f : Flow) (s : Shared) : Prop := match f with
  | .next => ForAt prog w A x px body env R it s
  | .cont => ForAt prog w A x px body env R it s
  | .brk => R (.ok .next) s
  | .ret v => R (.ok (.ret v)) s
section
variable {prog : Program} {w : World} {A : Around} {E : Value → Shared → Prop} {s : Shared} {env : Env} {x : Str} {px : Pos} {body : List Stmt} {R : Result → Shared → Prop}
noncomputable def ForEnd (prog : Program) (w : World) (A : Around) (env : Env) (Q : Flow → Shared → Prop) (E : Value → Shared → Prop) (r : Result) (s' : Shared) : Prop := match r with
  | .ok f => Q f s'
  | .error e => cameBackBy (model prog w) A env E e s'
theorem For_open {Q : Flow → Shared → Prop} {iter : Expr} {pos : Pos} (h : wpAny (model prog w) A (eval iter env) (fun xv s₁ => wpAny (model prog w) A (pyIter xv) (fun it s₂ => ForAt prog w A x px body env (ForEnd prog w A env Q E) it s₂) E s₁) E s)
    (hs : ∀ x, foldedSetIterable iter env x = pure x := by intro _; rfl) : wpAny (model prog w) A (exec (.For (.Name x px) iter body [] pos) env) Q E s :=
  wpAny_For (wpAny_mono h (fun _ _ h₁ => wpAny_mono h₁ (fun _ _ h₂ => codeAny_mono h₂ fun r _ z => by cases r <;> exact z) fun _ _ e => e) fun _ _ e => e) hs
theorem ForAt.step {it : Value} (h : wpAny (model prog w) A (pyNext it) (fun r s₁ => match r with
      | none => R (.ok .next) s₁
      | some v => wpAny (model prog w) A (storeName env x v) (fun _ s₂ => wpAny (model prog w) A (execs body env) (ForPost prog w A x px body env R it) (notedBy (model prog w) A env fun e s' => R (.error e) s') s₂) (notedBy (model prog w) A env fun e s' => R (.error e) s') s₁)
      (notedBy (model prog w) A env fun e s' => R (.error e) s') s) : ForAt prog w A x px body env R it s := by
  unfold ForAt
  refine codeAny_of_tree ?_
  show wpAny _ A ((forTurn (.Name x px) it body [] env).onRaise (fun x => do noteFrame x env; theTreesLotGoes x)) _ _ s
  refine wpAny_noted ?_
  simp only [forTurn]
  refine wpAny_bind (wpAny_standAt (wpAny_bind (wpAny_onRaise (wpAny_mono h (fun r s₁ h₁ => ?_) fun _ _ h' => wpAny_standAt h'))))
  cases r with
  | none => exact wpAny_pure ⟨rfl, codeAny_block (wpAny_execs_nil h₁)⟩
  | some v =>
    refine wpAny_bind (wpAny_of_eq (show letOwnedTupleGo (.Name x px) it v = pure () from rfl) ?_)
    refine wpAny_bind (wpAny_assign_Name (wpAny_mono h₁ (fun _ s₂ h₂ => wpAny_bind (wpAny_mono h₂ (fun f s₃ h₃ => ?_) fun _ _ h' => h')) fun _ _ h' => h'))
    cases f with
    | next => exact wpAny_pure ⟨rfl, h₃⟩
    | cont => exact wpAny_pure ⟨rfl, h₃⟩
    | brk => exact wpAny_pure h₃
    | ret v => exact wpAny_pure h₃
end
/-! an iterator that calls until it meets its sentinel -/
theorem slot_ci_iter : Slot "callable_iterator" "__iter__" "callable_iterator.__iter__" :=
  .of (owner := "callable_iterator") (n := "__iter__") (by rw [typeLookup_type, builtinLookup_eq_fast]; kernel_rfl) (by decide +kernel) (by decide +kernel) (by decide +kernel)
    (by first | exact .inl (by decide +kernel) | exact .inr (by decide +kernel)) (by rw [isSubtype_type]; kernel_rfl)
theorem entry_ci_iter : entryFor table "callable_iterator.__iter__" = some Builtin.«dict_keyiterator.__iter__» := entryFor_alias (id' := "dict_keyiterator.__iter__") (by kernel_rfl) rfl (by decide +kernel) (by kernel_rfl)
theorem args_ci_iter (a : Value) : argsOk "callable_iterator.__iter__" ⟨[a], []⟩ := by unfold argsOk; kernel_rfl
theorem slot_ci_next : Slot "callable_iterator" "__next__" "callable_iterator.__next__" :=
  .of (owner := "callable_iterator") (n := "__next__") (by rw [typeLookup_type, builtinLookup_eq_fast]; kernel_rfl) (by decide +kernel) (by decide +kernel) (by decide +kernel)
    (by first | exact .inl (by decide +kernel) | exact .inr (by decide +kernel)) (by rw [isSubtype_type]; kernel_rfl)
theorem entry_ci_next : entryFor table "callable_iterator.__next__" = some Builtin.«callable_iterator.__next__» := entryFor_of_tree (by kernel_rfl)
theorem args_ci_next (a : Value) : argsOk "callable_iterator.__next__" ⟨[a], []⟩ := by unfold argsOk; kernel_rfl
noncomputable abbrev ciObj (q : Addr) (t : Tok) : Obj := { cls := .type "callable_iterator", data := .fields #[.ref q, .str Str.empty t, .bool false] }
noncomputable abbrev ciDead : Obj := { cls := .type "callable_iterator", data := .fields #[.none, .none, .bool true] }
theorem nd_call {α : Type} {M : Model} {A : Around} {E : Value → Shared → Prop} {s : Shared} {Q : α → Shared → Prop} {c : Code} {gg : Bool} {l : List Value} {k : Result → Sem α} (hc : codeAny M A c (fun r s' => wpAny M A (k r) Q E s') s) : wpAny M A (.call c none gg l k) Q E s :=
  fun Γ p hΓ => by
    rw [Sem.wp_call]
    exact wpCode_mono (fun r s' z => z Γ p hΓ) (hc _ p rfl (hΓ.enter c none p (by intro x; cases x)))
section
variable {prog : Program} {w : World} {A : Around} {E : Value → Shared → Prop} {s : Shared} {I q f x : Addr} {t : Tok}
theorem iter_ci {cl : Obj} {Q : Value → Shared → Prop} (hI : s.heap.get? I = some cl) (hc : cl.cls = .type "callable_iterator") (h : Q (.ref I) s) : wpAny (model prog w) A (pyIter (.ref I)) Q E s := by
  have hT : s.TypeIs (.ref I) "callable_iterator" := ⟨_, hI, hc⟩
  refine wpAny_pyIter_slot hT slot_ci_iter (wpAny_call_entry slot_ci_iter hT entry_ci_iter ?_ (args_ci_iter _))
  exact wpAny_pure ⟨_, rfl, "callable_iterator", _, hT, slot_ci_next.lookup, h⟩
theorem next_ci_go {fo : Obj} {fd : FuncData} {Q : Option Value → Shared → Prop} (hI : s.heap.get? I = some (ciObj q t)) (hq : s.heap.get? q = some (methodObj (.ref f) (.ref x))) (hf : s.heap.get? f = some fo) (hfd : fo.data = .func fd)
    (h : codeAny (model prog w) A.in1 (.call (.ref f) ⟨[.ref x], []⟩) (fun r s' => match r with
      | .ok (.ret v) => s'.heap.get? I = some (ciObj q t) ∧ ∃ y u, v = .str y u ∧ y ≠ Str.empty ∧ Q (some v) s'
      | .ok _ => False
      | .error e => False) s) : wpAny (model prog w) A (pyNext (.ref I)) Q E s := by
  have hT : s.TypeIs (.ref I) "callable_iterator" := ⟨_, hI, rfl⟩
  unfold pyNext
  refine wpAny_bind (wpAny_attempt (wpAny_callSpecial?_slot (name := Str.ofString "__next__") hT slot_ci_next (wpAny_call_entry slot_ci_next hT entry_ci_next ?_ (args_ci_next _))))
  obtain ⟨hh, g, dr, tk, os⟩ := s
  dsimp only at hI hq hf
  obtain ⟨oc, od, oda, osl⟩ := fo
  cases hfd
  unfold Builtin.«callable_iterator.__next__»
  repeat lk
  refine nd_call (method_call hq (codeAny_mono h fun r s' z => ?_))
  rcases r with e | (v | _ | _ | _) <;> first | exact z.elim | skip
  obtain ⟨hI', y, u, rfl, hy, hQ⟩ := z
  obtain ⟨hh', g', dr', tk', os'⟩ := s'
  dsimp only at hI'
  repeat (first | ((show wpAny _ _ (eqBool (.str Str.empty t) (.str y u)) _ _ _); refine wpAny_eqBool_str ?_; rw [decide_eq_false (fun e => hy e.symm)]) | lk)
  exact ⟨_, rfl, wpAny_pure hQ⟩
theorem next_ci_end {fo : Obj} {fd : FuncData} {Q : Option Value → Shared → Prop} (hh0 : A.handled = none) (hI : s.heap.get? I = some (ciObj q t)) (hq : s.heap.get? q = some (methodObj (.ref f) (.ref x))) (hf : s.heap.get? f = some fo) (hfd : fo.data = .func fd)
    (h : codeAny (model prog w) A.in1 (.call (.ref f) ⟨[.ref x], []⟩) (fun r s' => match r with
      | .ok (.ret v) => s'.heap.get? I = some (ciObj q t) ∧ s'.heap.get? q = some (methodObj (.ref f) (.ref x)) ∧ s'.heap.get? f = some fo ∧ ∃ u, v = .str Str.empty u ∧
          ∀ h' tk', h'.get? I = some ciDead → (∀ b o, b ≠ I → s'.heap.get? b = some o → h'.get? b = some o) → Q none { s' with heap := h', toks := tk' }
      | .ok _ => False
      | .error e => False) s) : wpAny (model prog w) A (pyNext (.ref I)) Q E s := by
  have hT : s.TypeIs (.ref I) "callable_iterator" := ⟨_, hI, rfl⟩
  unfold pyNext
  refine wpAny_bind (wpAny_attempt (wpAny_callSpecial?_slot (name := Str.ofString "__next__") hT slot_ci_next (wpAny_call_entry slot_ci_next hT entry_ci_next ?_ (args_ci_next _))))
  obtain ⟨hh, g, dr, tk, os⟩ := s
  dsimp only at hI hq hf
  obtain ⟨oc, od, oda, osl⟩ := fo
  cases hfd
  unfold Builtin.«callable_iterator.__next__»
  repeat lk
  refine nd_call (method_call hq (codeAny_mono h fun r s' z => ?_))
  rcases r with e | (v | _ | _ | _) <;> first | exact z.elim | skip
  obtain ⟨hI', hq', hf', u, rfl, hQ⟩ := z
  obtain ⟨hh', g', dr', tk', os'⟩ := s'
  dsimp only at hI' hq' hf' hQ
  repeat (first | ((show wpAny _ _ (eqBool (.str Str.empty t) (.str Str.empty u)) _ _ _); refine wpAny_eqBool_str ?_; rw [decide_eq_true rfl]) | lk)
  have u1 : (hh'.update I (Obj.mapFields fun x => x.setIfInBounds 0 Value.none)).get? I = some { cls := .type "callable_iterator", data := .fields #[.none, .str Str.empty t, .bool false] } := Heap.get?_update_self _ hI' rfl
  have u2 : ((hh'.update I (Obj.mapFields fun x => x.setIfInBounds 0 Value.none)).update I (Obj.mapFields fun x => x.setIfInBounds 1 Value.none)).get? I = some { cls := .type "callable_iterator", data := .fields #[.none, .none, .bool false] } := Heap.get?_update_self _ u1 rfl
  have u3 : (((hh'.update I (Obj.mapFields fun x => x.setIfInBounds 0 Value.none)).update I (Obj.mapFields fun x => x.setIfInBounds 1 Value.none)).update I (Obj.mapFields fun x => x.setIfInBounds 2 (.bool true))).get? I = some ciDead := Heap.get?_update_self _ u2 rfl
  show wpAny _ _ (update I (Obj.mapFields fun x => x.setIfInBounds 0 Value.none)) _ _ _
  refine wpAny_update hI' ?_
  refine wpAny_bind (wpAny_setField u1 rfl (by simp) ?_)
  refine wpAny_setField u2 rfl (by simp) ?_
  show wpAny _ _ (newExc (.type "StopIteration") [] >>= _) _ _ _
  refine wpAny_bind ?_
  simp only [newExc, newTuple]
  refine wpAny_bind (wpAny_newObj_type ?_ (by size_fits))
  refine wpAny_bind (m := firstArgMember _ _) (wpAny_of_eq (a := Value.none) (by first | rfl | (simp only [firstArgMember]; rfl)) ?_)
  refine wpAny_newObj_type ?_ (by size_fits)
  simp only [raiseNew]
  refine wpAny_bind (wpAny_handled ?_)
  rw [show A.in1.handled = none from hh0]
  refine wpAny_bind (wpAny_pure (wpAny_throw ?_))
  refine wpAny_bind (wpAny_isInstance (T := "StopIteration") (b := true) ⟨_, Heap.get?_push_size _ rfl, rfl⟩ isSubtype_stop ?_)
  refine wpAny_pure (hQ _ _ (Heap.get?_push_of_some _ (Heap.get?_push_of_some _ u3)) fun b o hb e => ?_)
  refine Heap.get?_push_of_some _ (Heap.get?_push_of_some _ ?_)
  rw [Heap.get?_update_ne _ _ _ _ hb, Heap.get?_update_ne _ _ _ _ hb, Heap.get?_update_ne _ _ _ _ hb]
  exact e
theorem next_ci_dead {Q : Option Value → Shared → Prop} (hh0 : A.handled = none) (hI : s.heap.get? I = some ciDead)
    (h : ∀ h' tk', (∀ b o, s.heap.get? b = some o → h'.get? b = some o) → Q none { s with heap := h', toks := tk' }) : wpAny (model prog w) A (pyNext (.ref I)) Q E s := by
  have hT : s.TypeIs (.ref I) "callable_iterator" := ⟨_, hI, rfl⟩
  unfold pyNext
  refine wpAny_bind (wpAny_attempt (wpAny_callSpecial?_slot (name := Str.ofString "__next__") hT slot_ci_next (wpAny_call_entry slot_ci_next hT entry_ci_next ?_ (args_ci_next _))))
  obtain ⟨hh, g, dr, tk, os⟩ := s
  dsimp only at hI h
  show wpAny _ _ (field (.ref I) 2 >>= _) _ _ _
  refine wpAny_bind (wpAny_field hI rfl (x := .bool true) rfl ?_)
  show wpAny _ _ (if (Value.bool true == Value.bool true) = true then _ else _) _ _ _
  rw [if_pos (by rfl)]
  refine wpAny_bind (wpAny_rule (wpAny_bind ?_))
  show wpAny _ _ (newExc (.type "StopIteration") [] >>= _) _ _ _
  refine wpAny_bind ?_
  simp only [newExc, newTuple]
  refine wpAny_bind (wpAny_newObj_type ?_ (by size_fits))
  refine wpAny_bind (m := firstArgMember _ _) (wpAny_of_eq (a := Value.none) (by first | rfl | (simp only [firstArgMember]; rfl)) ?_)
  refine wpAny_newObj_type ?_ (by size_fits)
  simp only [raiseNew]
  refine wpAny_bind (wpAny_handled ?_)
  rw [show A.in1.handled = none from hh0]
  refine wpAny_bind (wpAny_pure (wpAny_throw ?_))
  refine wpAny_bind (wpAny_isInstance (T := "StopIteration") (b := true) ⟨_, Heap.get?_push_size _ rfl, rfl⟩ isSubtype_stop ?_)
  exact wpAny_pure (h _ _ fun b o e => Heap.get?_push_of_some _ (Heap.get?_push_of_some _ e))
end
end
section
theorem meth_call_slot : typeLookup (.type "method") (Str.ofString "__call__") = pure (some (.builtin "method.__call__")) := by rw [typeLookup_type, builtinLookup_eq_fast]; kernel_rfl
theorem kind_iter' : builtinKind "iter" = none := by decide +kernel
theorem plain_iter' : plainId "iter" = true := by decide +kernel
theorem entry_iter' : entryFor table "iter" = some Builtin.«iter» := entryFor_of_fast (by kernel_rfl)
theorem args_iter2 (a b : Value) : argsOk "iter" ⟨[a, b], []⟩ := by unfold argsOk; kernel_rfl
section
variable {prog : Program} {w : World} {A : Around} {E : Value → Shared → Prop} {s : Shared} {q : Addr} {f x : Value} {t : Tok} {h₀ : Heap} {L : Addr} {m : Str → Option Value} {news : List (Addr × Obj)}
theorem iter2_call {Q : Value → Shared → Prop} (F : Fr h₀ L s.heap m) (N : News h₀ L s.heap news) (hq : s.heap.get? q = some (methodObj f x))
    (h : ∀ I h', Fr h₀ L h' m → News h₀ L h' ((I, ciObj q t) :: news) → (∀ p ∈ news, p.1 < I) → Q (.ref I) { s with heap := h' }) : wpAny (model prog w) A (call (.builtin "iter") [.ref q, .str Str.empty t]) Q E s := by
  refine Calls.call_function_entry kind_iter' plain_iter' entry_iter' (args_iter2 _ _) ?_
  obtain ⟨hh, g, dr, tk, os⟩ := s
  dsimp only at hq
  have ty : Looks (model prog w) hh (typeOf (.ref q)) (.type "method") := (Looks.ld hq).andThen .now
  have sp : Looks (model prog w) hh (specialOf (.ref q) "__call__") (some (.builtin "method.__call__")) := ty.andThen (Looks.of_pure meth_call_slot)
  show wpAny _ _ (specialOf (.ref q) "__call__" >>= _) _ _ _
  refine wpAny_bind (sp.at ?_)
  show wpAny _ _ (rule "iter.sentinel" >>= _) _ _ _
  refine wpAny_bind (wpAny_rule (wpAny_bind ?_))
  exact wpAny_newObj_type (wpAny_pure ⟨_, rfl, h hh.objs.size _ (F.push _) (N.push F _) fun p hp => Heap.lt_size (N p hp).1⟩) (by size_fits)
end
/-- as Does, for whoever calls by a code of his own -/
noncomputable def DoesC (w : World) (p : Program) (loose : List Str) (mean : ExcName → Option Value) (mg mb : Str → Option Value) (D U : Nat) (Pre : Heap → Prop) (f : Value) (vs : List Value) (mu : List (Addr × Obj)) (Post : Value → List (Addr × Obj) → Prop) : Prop :=
  ∀ (dp un : Nat) (gd : Option (List Code)) (cn : Str) (cs : Scope) (a : Addr) (ccd : Value) (cl : List (Str × Addr)) (outer : List Env) (A₀ : Around) (base h₀ : Heap) (L : Addr) (m : Str → Option Value) (s : Shared) (R : Result → Shared → Prop) (still : List (Addr × Obj)),
    Below A₀ base outer h₀ → Fr h₀ L s.heap m → Frag.In (hd.heap_39 w.params) h₀ → News h₀ L s.heap (mu ++ still) → (∀ p ∈ still, ∀ q ∈ mu, p.1 ≠ q.1) → Top p loose mean mg mb h₀ → cs.kind = .function →
    (∀ g, h₀.StaysIn g → (∀ p ∈ still, g.get? p.1 = some p.2) → Pre g) → dp + D < recursionLimit → un + U < cLine →
    (∀ v mu' h' tk', Fr h₀ L h' m → News h₀ L h' (mu' ++ still) → (∀ p ∈ still, ∀ q ∈ mu', p.1 ≠ q.1) → Post v mu' → R (.ok (.ret v)) { s with heap := h', toks := tk' }) →
    codeAny (model PySem.Challenge.rw_sl0009_01.row.prog w) (ktrTop dp un gd cn cs L a ccd cl outer) (.call f ⟨vs, []⟩) R s
theorem DoesC.does {w : World} {p : Program} {loose : List Str} {mean : ExcName → Option Value} {mg mb : Str → Option Value} {D U : Nat} {Pre : Heap → Prop} {f : Value} {vs : List Value} {mu : List (Addr × Obj)} {Post : Value → List (Addr × Obj) → Prop}
    (H : DoesC w p loose mean mg mb D U Pre f vs mu Post) : Does w p loose mean mg mb D U Pre f vs mu Post :=
  fun _ _ _ _ _ _ _ _ _ _ _ _ _ _ _ _ _ _ a1 a2 a3 a4 a5 a6 a7 a8 a9 b1 b2 => wpAny_call (H _ _ _ _ _ _ _ _ _ _ _ _ _ _ _ _ _ a1 a2 a3 a4 a5 a6 a7 a8 a9 b1 fun v mu' h' tk' c1 c2 c3 c4 => b2 v mu' h' tk' c1 c2 c3 c4)
end
section
theorem off_A55_readchar : True := by (w_top off); first | walk1 | trivial
/-- what stays of a machine -/
structure MachStill (w : World) (p : Program) (loose : List Str) (mean : ExcName → Option Value) (mg mb : Str → Option Value) (x : Str) (tx : Tok) (dd st f aL aT aA : Addr) (kr : Tok) (fdS fdF : FuncData) (cv : Value) (qual : Str) (g : Heap) : Prop where
  st : g.get? st = some ⟨.type "function", some dd, .func fdS, #[]⟩
  dd : g.get? dd = some (dictOf [⟨PyData.keyHash w.params (Str.ofString "read"), .str (Str.ofString "read") kr, .ref f⟩] 1)
  rd : ReadPre f aT aA ⟨.type "function", none, .func fdF, #[]⟩ cv qual x tx aL g
theorem MachStill.keeps {w : World} {p : Program} {loose : List Str} {mean : ExcName → Option Value} {mg mb : Str → Option Value} {x : Str} {tx : Tok} {dd st f aL aT aA : Addr} {kr : Tok} {fdS fdF : FuncData} {cv : Value} {qual : Str} {g g' : Heap}
    (H : MachStill w p loose mean mg mb x tx dd st f aL aT aA kr fdS fdF cv qual g) (k : g.StaysIn g') : MachStill w p loose mean mg mb x tx dd st f aL aT aA kr fdS fdF cv qual g' := ⟨k _ _ H.st, k _ _ H.dd, H.rd.keeps k⟩
local macro_rules | `(tactic| walk_at "getMethod ref") => `(tactic| ((with_reducible show wpAny _ _ (getMethod _ (Str.ofString "read") _) _ _ _); refine hold_in ?_))
local macro_rules | `(tactic| walk_at "callWith ref") => `(tactic| (k_dflt (refine' callWith_F ?k1 ?_; (case k1 => exact FnG (by k_asm) (by assumption)); k_whole)))
local macro_rules | `(tactic| walk_at "FnAt") => `(tactic| (k_dflt (exact FnG (by k_asm) (by assumption))))
local macro_rules | `(tactic| walk_at $s:str) => if ["call ref", "callWith builtin"].contains s.getString then `(tactic| refine hold_in ?_) else Lean.Macro.throwUnsupported
set_option maxHeartbeats 8000000 in
theorem does_readchar {w : World} {p : Program} {loose : List Str} {mean : ExcName → Option Value} {mg mb : Str → Option Value} {x : Str} {tx : Tok} {pb xM dM dd st f aL aT aA : Addr} {k1 k2 k3 k4 tl tw kr ta : Tok} {ln : Int} {ki : Int} {k ep : Nat} {fdS fdF : FuncData} {cv : Value} {qual : Str}
    (hread : ReadSpec w p loose mean mg mb f aT aA ⟨.type "function", none, .func fdF, #[]⟩ cv qual x tx aL) (hki : ki = (k : Int)) (hkx : k ≤ x.length) (h1 : @LT.lt Nat _ aL dM) (h2 : @LT.lt Nat _ dM xM) :
    DoesC w p loose mean mg mb 4 40 (MachStill w p loose mean mg mb x tx dd st f aL aT aA kr fdS fdF cv qual) (.ref 80) [.ref xM]
      [(xM, instObj 97 dM), (dM, dictOf (netEs w k1 k2 k3 k4 tl tw ln st pb) 4), (aL, W.listOf #[.int ki ta] ep)]
      (fun v mu' => ∃ t tl' ta' ln' ep', v = .str (charAt x k) t ∧ mu' = [(xM, instObj 97 dM), (dM, dictOf (netEs w k1 k2 k3 k4 tl' tw ln' st pb) 4), (aL, W.listOf #[.int ((stepAt x k : Nat) : Int) ta'] ep')]) := by
  intro dp un gd cn cs a ccd cl outer A₀ base h₀ L m s R still hB hF hX hN hap hT hk hP hdp hun hret
  subst hki
  ((have hfill := hd_kept; (have : hd_kept = hd_kept := by (revert hfill; k_fill; intro _; rfl)); clear this hfill))
  k_dflt (refine' enter_top ?k1 ?k2 ?k3 ?k4 ?k4a ?k5 ?kA ?kF ?kK ?k6 ?k7 ?k8 ?k9 ?kB ?_ ?c2 ?c3 ?c4 ?c5; (case kA => exact rfl); (case kF => exact rfl); (case kK => first | exact rfl | assumption); (case k1 => k_asm); (case k2 => k_asm); (case k3 => k_asm); (case k4 => k_asm); (case k4a => k_asm); (case k5 => k_asm); (case k6 => k_is); (case k7 => k_is); (case k8 => (first | (refine' room0 ?qh ?qb; (case qh => assumption); (case qb => exact Nat.le_of_ble_eq_true rfl)) | (refine' room1 ?qh ?qb; (case qh => assumption); (case qb => exact Nat.le_of_ble_eq_true rfl)) | (refine' room2 ?qh ?qb; (case qh => assumption); (case qb => exact Nat.le_of_ble_eq_true rfl)) | omega | ((try simp only [depth_under_make, depth_under_kw, depth_in1, depth_deeper, depth_caller, units_in1, units_deeper, Around.mark_units, units_caller]); (try dsimp only [ktrTop]); omega))); (case k9 => exact BindsTo.of_eq (by rfl)); (case c5 => decide); (case kB => exact locs rfl); (case c2 => exact rfl); (case c3 => exact rfl); (case c4 => exact rfl))
  intro g' L' h' tk' FG' F' N' B' X' T' st' stl' l'; (dsimp only [List.map, List.zip, List.zipWith, List.reverse, List.reverseAux, withB] at F'); (try dsimp only); (try k_lift B'); (try k_fold)
  have hp := hP _ (by assumption) (by assumption)
  have hpf : FnAt _ _ := ⟨_, _, _, _, hp.rd.fn⟩
  walk_at "hx_steps"
  refine hold_out ?_
  refine' getMethod_fn ?x1 ?x2 nameRead ?x3 ?x4 ?_
  case x1 => exact Fr.keep (by k_asm) _ _ hp.st
  case x2 => exact Fr.keep (by k_asm) _ _ hp.dd
  case x3 => exact rfl
  case x4 => exact rfl
  try dsimp only
  walk_at "hx_steps"
  refine hold_out ?_
  (rename News _ _ _ (_ :: _) => hN9)
  k_dflt (refine' Does.use (mu := [_]) (still := [_, _]) (hread k _ _ _ _ rfl hkx) ?b1 ?b2 ?b3 hN9 ?b5 ?b6 (fmc (.tail _ (.tail _ (.head _))) (fmc (.head _) (fmc (.tail _ (.head _)) (fun _ h => nomatch h)))) ?ba ?b7 ?b8 ?b9 ?_)
  case b1 => k_asm
  case b2 => k_asm
  case b3 => k_asm
  case b5 => k_asm
  case b6 => exact rfl
  case ba => exact fmc (fmc (show @Ne Nat _ _ by omega) (fun _ h => nomatch h)) (fmc (fmc (show @Ne Nat _ _ by omega) (fun _ h => nomatch h)) (fun _ h => nomatch h))
  case b7 => (intro g hg hs; exact hp.rd.keeps hg)
  case b8 => (first | (refine' room0 ?qh ?qb; (case qh => assumption); (case qb => exact Nat.le_of_ble_eq_true rfl)) | (refine' room1 ?qh ?qb; (case qh => assumption); (case qb => exact Nat.le_of_ble_eq_true rfl)) | (refine' room2 ?qh ?qb; (case qh => assumption); (case qb => exact Nat.le_of_ble_eq_true rfl)) | omega | ((try simp only [depth_under_make, depth_under_kw, depth_in1, depth_deeper, depth_caller, units_in1, units_deeper, Around.mark_units, units_caller]); (try dsimp only [ktrTop]); omega))
  case b9 => (first | (refine' room0 ?qh ?qb; (case qh => assumption); (case qb => exact Nat.le_of_ble_eq_true rfl)) | (refine' room1 ?qh ?qb; (case qh => assumption); (case qb => exact Nat.le_of_ble_eq_true rfl)) | (refine' room2 ?qh ?qb; (case qh => assumption); (case qb => exact Nat.le_of_ble_eq_true rfl)) | omega | ((try simp only [depth_under_make, depth_under_kw, depth_in1, depth_deeper, depth_caller, units_in1, units_deeper, Around.mark_units, units_caller]); (try dsimp only [ktrTop]); omega))
  intro v' mu' h' tk' F' N' D' P'
  obtain ⟨t1', t2', e3', e1', e2'⟩ := P'
  subst e1' e2'
  clear D' hN9
  (simp only [List.cons_append, List.nil_append, List.append_nil] at N')
  (try dsimp only)
  walk_at "hx_steps"
  all_goals ((rename News _ _ _ (_ :: _) => hN9); (replace hN9 := news_sub (r := [_, _, _]) hN9 (fmc (.tail _ (.head _)) (fmc (.tail _ (.tail _ (.head _))) (fmc (.head _) (fun _ h => nomatch h))))))
  · (((first | refine hQ8' _ _ ?_ | refine hold_out ?_); refine' leaveS_ ?hxF ?hxN ?_; (case hxF => k_asm); (case hxN => k_asm); intro kF kN kD; (rename ∀ (v : Value) (mu' : List (Addr × Obj)) (h' : Heap) (tk' : Nat), _ → _ → _ → _ → _ => hxR); refine hxR _ _ _ _ kF kN kD ?_; clear hxR; try dsimp only))
    exact ⟨_, _, _, _, _, rfl, rfl⟩
  · (((first | refine hQ8' _ _ ?_ | refine hold_out ?_); refine' leaveS_ ?hxF ?hxN ?_; (case hxF => k_asm); (case hxN => k_asm); intro kF kN kD; (rename ∀ (v : Value) (mu' : List (Addr × Obj)) (h' : Heap) (tk' : Nat), _ → _ → _ → _ → _ => hxR); refine hxR _ _ _ _ kF kN kD ?_; clear hxR; try dsimp only))
    exact ⟨_, _, _, _, _, rfl, rfl⟩
end
section
theorem off_A56_push : True := by (w_top off); first | walk1 | trivial
theorem seq0 {v : Value} {ws : List Value} : seqIndex? 0 ((v :: ws).toArray.size : Nat) = some 0 := by
  simp [seqIndex?]
local macro_rules | `(tactic| walk_at "call builtin:list.pop") => `(tactic| refine hold_in ?_)
set_option maxHeartbeats 8000000 in
theorem does_push {w : World} {p : Program} {loose : List Str} {mean : ExcName → Option Value} {mg mb : Str → Option Value} {v : Value} {pb xM dM st : Addr} {k1 k2 k3 k4 tl tw : Tok} {ln : Int} {ew : Nat} {ws : List Value} (hws : ws.length ≤ 1000)
    (h1 : @LT.lt Nat _ xM pb) (h2 : @LT.lt Nat _ dM xM) :
    Does w p loose mean mg mb 4 40 NoPre (.ref 94) [.ref xM, v]
      [(pb, W.listOf ws.toArray ew), (xM, instObj 97 dM), (dM, dictOf (netEs w k1 k2 k3 k4 tl tw ln st pb) 4)]
      (fun r mu' => r = .none ∧ ∃ ew', mu' = [(pb, W.listOf (ws ++ [v]).toArray ew'), (xM, instObj 97 dM), (dM, dictOf (netEs w k1 k2 k3 k4 tl tw ln st pb) 4)]) := by
  intro dp un gd cn cs a ccd cl outer A₀ base h₀ L m s Q E still hB hF hX hN hap hT hk hP hdp hun hret
  ((have hfill := hd_kept; (have : hd_kept = hd_kept := by (revert hfill; k_fill; intro _; rfl)); clear this hfill))
  ((refine wpAny_call ?_; k_dflt (refine' enter_topQ ?k1 ?k2 ?k3 ?k4 ?k4a ?k5 ?kA ?kF ?kK ?k6 ?k7 ?k8 ?k9 ?kB ?_ ?c2 ?c3 ?c4 ?c5; (case kA => exact rfl); (case kF => exact rfl); (case kK => first | exact rfl | assumption); (case k1 => k_asm); (case k2 => k_asm); (case k3 => k_asm); (case k4 => k_asm); (case k4a => k_asm); (case k5 => k_asm); (case k6 => k_is); (case k7 => k_is); (case k8 => ktr_room); (case k9 => exact BindsTo.of_eq (by rfl)); (case c5 => decide); (case kB => exact locs rfl); (case c2 => exact rfl); (case c3 => exact rfl); (case c4 => exact rfl); k_whole; intro g8' L8' h8' tk8' FG8' F8' N8' B8' X8' T8' st8' stl8' l8' Q8' E8' hQ8'; (dsimp only [List.map, List.zip, List.zipWith, List.reverse, List.reverseAux, withB] at F8'); (try dsimp only); (try k_lift B8'); (try k_fold))))
  walk_at "hx_steps"
  (((first | refine hQ8' _ _ ?_ | refine hold_out ?_); refine' leaveS_ ?hxF ?hxN ?_; (case hxF => k_asm); (case hxN => k_asm); intro kF kN kD; (rename ∀ (v : Value) (mu' : List (Addr × Obj)) (h' : Heap) (tk' : Nat), _ → _ → _ → _ → _ => hxR); refine hxR _ _ _ _ kF kN kD ?_; clear hxR; try dsimp only))
  exact ⟨rfl, ew + 1, by rw [List.push_toArray]⟩
set_option maxHeartbeats 8000000 in
theorem does_pop {w : World} {p : Program} {loose : List Str} {mean : ExcName → Option Value} {mg mb : Str → Option Value} {v : Value} {pb xM dM st : Addr} {k1 k2 k3 k4 tl tw : Tok} {ln : Int} {ew : Nat} {ws : List Value} (hws : ws.length ≤ 1000)
    (h1 : @LT.lt Nat _ xM pb) (h2 : @LT.lt Nat _ dM xM) :
    Does w p loose mean mg mb 4 40 NoPre (.ref 87) [.ref xM]
      [(pb, W.listOf (v :: ws).toArray ew), (xM, instObj 97 dM), (dM, dictOf (netEs w k1 k2 k3 k4 tl tw ln st pb) 4)]
      (fun r mu' => r = v ∧ ∃ ew', mu' = [(pb, W.listOf ws.toArray ew'), (xM, instObj 97 dM), (dM, dictOf (netEs w k1 k2 k3 k4 tl tw ln st pb) 4)]) := by
  intro dp un gd cn cs a ccd cl outer A₀ base h₀ L m s Q E still hB hF hX hN hap hT hk hP hdp hun hret
  ((have hfill := hd_kept; (have : hd_kept = hd_kept := by (revert hfill; k_fill; intro _; rfl)); clear this hfill))
  ((refine wpAny_call ?_; k_dflt (refine' enter_topQ ?k1 ?k2 ?k3 ?k4 ?k4a ?k5 ?kA ?kF ?kK ?k6 ?k7 ?k8 ?k9 ?kB ?_ ?c2 ?c3 ?c4 ?c5; (case kA => exact rfl); (case kF => exact rfl); (case kK => first | exact rfl | assumption); (case k1 => k_asm); (case k2 => k_asm); (case k3 => k_asm); (case k4 => k_asm); (case k4a => k_asm); (case k5 => k_asm); (case k6 => k_is); (case k7 => k_is); (case k8 => ktr_room); (case k9 => exact BindsTo.of_eq (by rfl)); (case c5 => decide); (case kB => exact locs rfl); (case c2 => exact rfl); (case c3 => exact rfl); (case c4 => exact rfl); k_whole; intro g8' L8' h8' tk8' FG8' F8' N8' B8' X8' T8' st8' stl8' l8' Q8' E8' hQ8'; (dsimp only [List.map, List.zip, List.zipWith, List.reverse, List.reverseAux, withB] at F8'); (try dsimp only); (try k_lift B8'); (try k_fold))))
  walk_at "hx_steps"
  refine hold_out ?_
  k_dflt (refine' kl_popAt (k := 0) (p := []) (q := ws) (y := v) ?F ?N ?f ?k ?e ?U ?z ?_; (case F => k_asm); (case N => k_asm); (case U => k_upd); (case f => rfl); (case k => exact seq0); (case e => rfl); (case z => (rw [sizeLine_eq]; simp only [List.length_cons]; omega)))
  intro h' F' N'
  (try dsimp only [List.nil_append, List.cons_append] at N')
  walk_at "hx_steps"
  (((first | refine hQ8' _ _ ?_ | refine hold_out ?_); refine' leaveS_ ?hxF ?hxN ?_; (case hxF => k_asm); (case hxN => k_asm); intro kF kN kD; (rename ∀ (v : Value) (mu' : List (Addr × Obj)) (h' : Heap) (tk' : Nat), _ → _ → _ → _ → _ => hxR); refine hxR _ _ _ _ kF kN kD ?_; clear hxR; try dsimp only))
  exact ⟨rfl, _, rfl⟩
end
section
section
variable {w : World} {p : Program} {loose : List Str} {mean : ExcName → Option Value} {mg mb : Str → Option Value} {D U : Nat} {Pre : Heap → Prop} {f xM : Addr} {Post : Value → List (Addr × Obj) → Prop} {mu still : List (Addr × Obj)}
  {dp un : Nat} {gd : Option (List Code)} {cn : Str} {cs : Scope} {a : Addr} {ccd : Value} {cl : List (Str × Addr)} {outer : List Env} {A₀ : Around} {base h₀ : Heap} {L : Addr} {m : Str → Option Value} {s : Shared} {E : Value → Shared → Prop} {Q : Option Value → Shared → Prop} {news : List (Addr × Obj)} {I q : Addr} {t : Tok}
theorem next_read_go (H : DoesC w p loose mean mg mb D U Pre (.ref f) [.ref xM] mu Post) (B : Below A₀ base outer h₀) (F : Fr h₀ L s.heap m) (X : Frag.In (hd.heap_39 w.params) h₀) (N : News h₀ L s.heap news) (T : Top p loose mean mg mb h₀) (hk : cs.kind = .function)
    (hf : FnAt f h₀) (hsub : ∀ r ∈ mu ++ ((I, ciObj q t) :: (q, methodObj (.ref f) (.ref xM)) :: still), r ∈ news) (hap : ∀ r ∈ ((I, ciObj q t) :: (q, methodObj (.ref f) (.ref xM)) :: still), ∀ q ∈ mu, r.1 ≠ q.1)
    (hP : ∀ g, h₀.StaysIn g → (∀ r ∈ ((I, ciObj q t) :: (q, methodObj (.ref f) (.ref xM)) :: still), g.get? r.1 = some r.2) → Pre g) (hdp : dp + D < recursionLimit) (hun : un + 1 + U < cLine)
    (ret : ∀ v mu' h' tk', Fr h₀ L h' m → News h₀ L h' (mu' ++ ((I, ciObj q t) :: (q, methodObj (.ref f) (.ref xM)) :: still)) → (∀ r ∈ ((I, ciObj q t) :: (q, methodObj (.ref f) (.ref xM)) :: still), ∀ q ∈ mu', r.1 ≠ q.1) → Post v mu' →
      ∃ y u, v = .str y u ∧ y ≠ Str.empty ∧ Q (some v) { s with heap := h', toks := tk' }) :
    wpAny (model PySem.Challenge.rw_sl0009_01.row.prog w) (ktrTop dp un gd cn cs L a ccd cl outer) (pyNext (.ref I)) Q E s := by
  have N' := news_sub N hsub
  obtain ⟨oc, od, fd, sl, hfo⟩ := hf
  have mI : (I, ciObj q t) ∈ mu ++ ((I, ciObj q t) :: (q, methodObj (.ref f) (.ref xM)) :: still) := List.mem_append_right _ (.head _)
  have mq : (q, methodObj (.ref f) (.ref xM)) ∈ mu ++ ((I, ciObj q t) :: (q, methodObj (.ref f) (.ref xM)) :: still) := List.mem_append_right _ (.tail _ (.head _))
  refine next_ci_go (f := f) (x := xM) (N' _ mI).1 (N' _ mq).1 (F.keep _ _ hfo) rfl ?_
  refine H dp (un + 1) gd cn cs a ccd cl outer A₀ base h₀ L m s _ _ B F X N' hap T hk hP hdp hun fun v mu' h' tk' c1 c2 c3 c4 => ?_
  obtain ⟨y, u, e1, e2, e3⟩ := ret v mu' h' tk' c1 c2 c3 c4
  exact ⟨(c2 _ (List.mem_append_right _ (.head _))).1, y, u, e1, e2, e3⟩
theorem next_read_end (H : DoesC w p loose mean mg mb D U Pre (.ref f) [.ref xM] mu Post) (B : Below A₀ base outer h₀) (F : Fr h₀ L s.heap m) (X : Frag.In (hd.heap_39 w.params) h₀) (N : News h₀ L s.heap news) (T : Top p loose mean mg mb h₀) (hk : cs.kind = .function)
    (hf : FnAt f h₀) (hsub : ∀ r ∈ mu ++ ((I, ciObj q t) :: (q, methodObj (.ref f) (.ref xM)) :: still), r ∈ news) (hap : ∀ r ∈ ((I, ciObj q t) :: (q, methodObj (.ref f) (.ref xM)) :: still), ∀ q ∈ mu, r.1 ≠ q.1) (hI : ∀ r ∈ ((q, methodObj (.ref f) (.ref xM)) :: still), r.1 ≠ I)
    (hP : ∀ g, h₀.StaysIn g → (∀ r ∈ ((I, ciObj q t) :: (q, methodObj (.ref f) (.ref xM)) :: still), g.get? r.1 = some r.2) → Pre g) (hdp : dp + D < recursionLimit) (hun : un + 1 + U < cLine)
    (ret : ∀ v mu', Post v mu' → (∃ u, v = .str Str.empty u) ∧ ∀ h' tk', Fr h₀ L h' m → News h₀ L h' (mu' ++ ((I, ciDead) :: (q, methodObj (.ref f) (.ref xM)) :: still)) → (∀ r ∈ ((I, ciDead) :: (q, methodObj (.ref f) (.ref xM)) :: still), ∀ q ∈ mu', r.1 ≠ q.1) →
      Q none { s with heap := h', toks := tk' }) :
    wpAny (model PySem.Challenge.rw_sl0009_01.row.prog w) (ktrTop dp un gd cn cs L a ccd cl outer) (pyNext (.ref I)) Q E s := by
  have N' := news_sub N hsub
  obtain ⟨oc, od, fd, sl, hfo⟩ := hf
  have mI : (I, ciObj q t) ∈ mu ++ ((I, ciObj q t) :: (q, methodObj (.ref f) (.ref xM)) :: still) := List.mem_append_right _ (.head _)
  have mq : (q, methodObj (.ref f) (.ref xM)) ∈ mu ++ ((I, ciObj q t) :: (q, methodObj (.ref f) (.ref xM)) :: still) := List.mem_append_right _ (.tail _ (.head _))
  refine next_ci_end (f := f) (x := xM) rfl (N' _ mI).1 (N' _ mq).1 (F.keep _ _ hfo) rfl ?_
  refine H dp (un + 1) gd cn cs a ccd cl outer A₀ base h₀ L m s _ _ B F X N' hap T hk hP hdp hun fun v mu' h' tk' c1 c2 c3 c4 => ?_
  obtain ⟨⟨u, e1⟩, e3⟩ := ret v mu' c4
  have zI := c2 _ (List.mem_append_right _ (.head _))
  refine ⟨zI.1, (c2 _ (List.mem_append_right _ (.tail _ (.head _)))).1, c1.keep _ _ hfo, u, e1, fun h'' tk'' k1 k2 => e3 h'' tk'' ?_ (fun r hr => ?_) ?_⟩
  · obtain ⟨oL, es, ep, n1, n2⟩ := c1.ns
    exact ⟨⟨oL, es, ep, k2 _ _ (Ne.symm zI.2.1) n1, n2⟩, fun b o e => k2 _ _ (fun z => by rw [z, zI.2.2] at e; cases e) (c1.keep _ _ e), c1.above⟩
  · rcases List.mem_append.mp hr with hr | hr
    · exact ⟨k2 _ _ (fun z => c3 _ (.head _) r hr z.symm) (c2 r (List.mem_append_left _ hr)).1, (c2 r (List.mem_append_left _ hr)).2⟩
    · rcases List.mem_cons.mp hr with rfl | hr
      · exact ⟨k1, zI.2⟩
      · exact ⟨k2 _ _ (hI r hr) (c2 r (List.mem_append_right _ (.tail _ hr))).1, (c2 r (List.mem_append_right _ (.tail _ hr))).2⟩
  · intro r hr
    rcases List.mem_cons.mp hr with rfl | hr
    · intro b hb
      exact c3 (I, ciObj q t) (.head _) b hb
    · exact c3 r (.tail _ hr)
theorem next_read_dead (F : Fr h₀ L s.heap m) (N : News h₀ L s.heap news) (hI : (I, ciDead) ∈ news)
    (ret : ∀ h' tk', Fr h₀ L h' m → News h₀ L h' news → Q none { s with heap := h', toks := tk' }) :
    wpAny (model PySem.Challenge.rw_sl0009_01.row.prog w) (ktrTop dp un gd cn cs L a ccd cl outer) (pyNext (.ref I)) Q E s :=
  next_ci_dead rfl (N _ hI).1 fun h' tk' k => ret h' tk' (F.grownK k) (N.grown k)
end
end
section
theorem off_A58_token : True := by (w_top off); first | walk1 | trivial
noncomputable abbrev blanks : Str := Str.ofString "\n\t\r "
noncomputable def blank (c : Str) : Bool := !(Builtin.Str.occurrences blanks c 0 blanks.length 1).isEmpty
section
variable {prog : Program} {w : World} {A : Around} {E : Value → Shared → Prop} {s : Shared} {x y : Str} {t u : Tok} {B : Bool}
theorem in_at {Q : Value → Shared → Prop} (hb : blank y = B) (h : Q (.bool B) s) : wpAny (model prog w) A (compareOp .In (.str y u) (.str (Str.ofString "\n\t\r ") t)) Q E s := by
  subst hb
  exact in_str h
theorem eq_at {Q : Value → Shared → Prop} (hb : decide (x = y) = B) (h : Q (.bool B) s) : wpAny (model prog w) A (compareOp .Eq (.str x t) (.str y u)) Q E s := by
  subst hb
  exact eq_str h
end
inductive TokRes (x : Str) (k : Nat) : Str → Nat → Prop
  | none : charAt x k = Str.empty → stepAt x k = k → TokRes x k Str.empty k
  | line {c : Str} : charAt x k = Str.ofString "." → stepAt x k = k + 1 → k + 1 ≤ x.length → charAt x (k + 1) = c → c ≠ Str.empty → c.length ≤ 8 → blank c = false → decide (c = Str.ofString "\\") = false → stepAt x (k + 1) = k + 1 + 1 → k + 1 + 1 ≤ x.length → charAt x (k + 1 + 1) = Str.ofString "\n" → stepAt x (k + 1 + 1) = k + 1 + 1 + 1 → TokRes x k (Str.ofString "." ++ c) (k + 1 + 1 + 1)
  | last {c : Str} : charAt x k = Str.ofString "." → stepAt x k = k + 1 → k + 1 ≤ x.length → charAt x (k + 1) = c → c ≠ Str.empty → c.length ≤ 8 → blank c = false → decide (c = Str.ofString "\\") = false → stepAt x (k + 1) = k + 1 + 1 → k + 1 + 1 ≤ x.length → charAt x (k + 1 + 1) = Str.empty → stepAt x (k + 1 + 1) = k + 1 + 1 → TokRes x k (Str.ofString "." ++ c) (k + 1 + 1)
section
variable {w : World} {p : Program} {loose : List Str} {mean : ExcName → Option Value} {mg mb : Str → Option Value} {x c : Str} {tx : Tok} {pb xM dM dd st f aL aT aA : Addr} {k1 k2 k3 k4 tl tw kr ta : Tok} {ln : Int} {k ep e : Nat} {fdS fdF : FuncData} {cv : Value} {qual : Str}
  {dp un : Nat} {gd : Option (List Code)} {cn : Str} {cs : Scope} {a : Addr} {ccd : Value} {cl : List (Str × Addr)} {outer : List Env} {A₀ : Around} {base h₀ : Heap} {L : Addr} {m : Str → Option Value} {s : Shared} {E : Value → Shared → Prop} {Q : Option Value → Shared → Prop} {news still : List (Addr × Obj)} {I q : Addr} {t : Tok}
theorem read_go (hread : ReadSpec w p loose mean mg mb f aT aA ⟨.type "function", none, .func fdF, #[]⟩ cv qual x tx aL) (hkx : k ≤ x.length) (h1 : @LT.lt Nat _ aL dM) (h2 : @LT.lt Nat _ dM xM) (hc : charAt x k = c) (hs : stepAt x k = e) (hne : c ≠ Str.empty)
    (B : Below A₀ base outer h₀) (F : Fr h₀ L s.heap m) (X : Frag.In (hd.heap_39 w.params) h₀) (N : News h₀ L s.heap news) (T : Top p loose mean mg mb h₀) (hk : cs.kind = .function) (hf : FnAt 80 h₀)
    (hsub : ∀ r ∈ [(xM, instObj 97 dM), (dM, dictOf (netEs w k1 k2 k3 k4 tl tw ln st pb) 4), (aL, W.listOf #[.int ((k : Nat) : Int) ta] ep)] ++ ((I, ciObj q t) :: (q, methodObj (.ref 80) (.ref xM)) :: still), r ∈ news) (hap : ∀ r ∈ ((I, ciObj q t) :: (q, methodObj (.ref 80) (.ref xM)) :: still), ∀ q ∈ [(xM, instObj 97 dM), (dM, dictOf (netEs w k1 k2 k3 k4 tl tw ln st pb) 4), (aL, W.listOf #[.int ((k : Nat) : Int) ta] ep)], r.1 ≠ q.1)
    (hP : ∀ g, h₀.StaysIn g → (∀ r ∈ ((I, ciObj q t) :: (q, methodObj (.ref 80) (.ref xM)) :: still), g.get? r.1 = some r.2) → MachStill w p loose mean mg mb x tx dd st f aL aT aA kr fdS fdF cv qual g) (hdp : dp + 4 < recursionLimit) (hun : un + 1 + 40 < cLine)
    (ret : ∀ u  tl' ta' ln' ep' h' tk', Fr h₀ L h' m → News h₀ L h' ((xM, instObj 97 dM) :: (dM, dictOf (netEs w k1 k2 k3 k4 tl' tw ln' st pb) 4) :: (aL, W.listOf #[.int ((e : Nat) : Int) ta'] ep') :: (I, ciObj q t) :: (q, methodObj (.ref 80) (.ref xM)) :: still) → Q (some (.str c u)) { s with heap := h', toks := tk' }) :
    wpAny (model PySem.Challenge.rw_sl0009_01.row.prog w) (ktrTop dp un gd cn cs L a ccd cl outer) (pyNext (.ref I)) Q E s := by
  subst hs
  subst hc
  refine next_read_go (does_readchar hread rfl hkx h1 h2) B F X N T hk hf hsub hap hP hdp hun fun v mu' h' tk' F' N' D' P' => ?_
  obtain ⟨t1', tl', ta', ln', ep', rfl, rfl⟩ := P'
  exact ⟨_, _, rfl, hne, ret _ _ _ _ _ _ _ F' N'⟩
theorem read_end (hread : ReadSpec w p loose mean mg mb f aT aA ⟨.type "function", none, .func fdF, #[]⟩ cv qual x tx aL) (hkx : k ≤ x.length) (h1 : @LT.lt Nat _ aL dM) (h2 : @LT.lt Nat _ dM xM) (hc : charAt x k = Str.empty) (hs : stepAt x k = e)
    (B : Below A₀ base outer h₀) (F : Fr h₀ L s.heap m) (X : Frag.In (hd.heap_39 w.params) h₀) (N : News h₀ L s.heap news) (T : Top p loose mean mg mb h₀) (hk : cs.kind = .function) (hf : FnAt 80 h₀)
    (hsub : ∀ r ∈ [(xM, instObj 97 dM), (dM, dictOf (netEs w k1 k2 k3 k4 tl tw ln st pb) 4), (aL, W.listOf #[.int ((k : Nat) : Int) ta] ep)] ++ ((I, ciObj q t) :: (q, methodObj (.ref 80) (.ref xM)) :: still), r ∈ news) (hap : ∀ r ∈ ((I, ciObj q t) :: (q, methodObj (.ref 80) (.ref xM)) :: still), ∀ q ∈ [(xM, instObj 97 dM), (dM, dictOf (netEs w k1 k2 k3 k4 tl tw ln st pb) 4), (aL, W.listOf #[.int ((k : Nat) : Int) ta] ep)], r.1 ≠ q.1) (hI : ∀ r ∈ ((q, methodObj (.ref 80) (.ref xM)) :: still), r.1 ≠ I)
    (hP : ∀ g, h₀.StaysIn g → (∀ r ∈ ((I, ciObj q t) :: (q, methodObj (.ref 80) (.ref xM)) :: still), g.get? r.1 = some r.2) → MachStill w p loose mean mg mb x tx dd st f aL aT aA kr fdS fdF cv qual g) (hdp : dp + 4 < recursionLimit) (hun : un + 1 + 40 < cLine)
    (ret : ∀  tl' ta' ln' ep' h' tk', Fr h₀ L h' m → News h₀ L h' ((xM, instObj 97 dM) :: (dM, dictOf (netEs w k1 k2 k3 k4 tl' tw ln' st pb) 4) :: (aL, W.listOf #[.int ((e : Nat) : Int) ta'] ep') :: (I, ciDead) :: (q, methodObj (.ref 80) (.ref xM)) :: still) → Q (none) { s with heap := h', toks := tk' }) :
    wpAny (model PySem.Challenge.rw_sl0009_01.row.prog w) (ktrTop dp un gd cn cs L a ccd cl outer) (pyNext (.ref I)) Q E s := by
  subst hs
  refine next_read_end (does_readchar hread rfl hkx h1 h2) B F X N T hk hf hsub hap hI hP hdp hun fun v mu' P' => ?_
  obtain ⟨t1', tl', ta', ln', ep', rfl, rfl⟩ := P'
  rw [hc]
  exact ⟨⟨_, rfl⟩, fun h' tk' F' N' D' => ret _ _ _ _ _ _ F' N'⟩
end
local macro_rules | `(tactic| walk_at "compareOp In str str") => `(tactic| first | ((with_reducible refine' in_at (B := false) ?hb ?_); (case hb => first | assumption | decide +kernel)) | ((with_reducible refine' in_at (B := true) ?hb ?_); (case hb => first | assumption | decide +kernel)))
local macro_rules | `(tactic| walk_at "compareOp Eq str str") => `(tactic| first | ((with_reducible refine' eq_at (B := false) ?hb ?_); (case hb => first | assumption | decide +kernel)) | ((with_reducible refine' eq_at (B := true) ?hb ?_); (case hb => first | assumption | decide +kernel)))
theorem dot_len : (Str.ofString ".").length = 1 := by decide
local macro_rules | `(tactic| walk_at "inplaceOp Add str str") => `(tactic| ((refine iadd_str (hsz := ?hsz) ?_); (case hsz => (rw [sizeLine_eq, Mine.dot_len]; omega)); intro _ _))
local macro_rules | `(tactic| walk_at $s:str) => if ["call builtin:iter", "exec For", "exec For Name Name cons nil", "pyIter ref"].contains s.getString then `(tactic| refine hold_in ?_) else Lean.Macro.throwUnsupported
set_option maxHeartbeats 8000000 in
theorem does_token {w : World} {p : Program} {loose : List Str} {mean : ExcName → Option Value} {mg mb : Str → Option Value} {x : Str} {tx : Tok} {pb xM dM dd st f aL aT aA : Addr} {k1 k2 k3 k4 tl tw kr ta : Tok} {ln : Int} {ki : Int} {k ep ew : Nat} {fdS fdF : FuncData} {cv : Value} {qual : Str}
    (hread : ReadSpec w p loose mean mg mb f aT aA ⟨.type "function", none, .func fdF, #[]⟩ cv qual x tx aL) (hki : ki = (k : Int)) (hkx : k ≤ x.length) (h1 : @LT.lt Nat _ aL dM) (h2 : @LT.lt Nat _ dM xM) (h3 : @LT.lt Nat _ xM pb) {rr : Str} {ee : Nat} (htok : TokRes x k rr ee) :
    Does w p loose mean mg mb 6 80 (MachStill w p loose mean mg mb x tx dd st f aL aT aA kr fdS fdF cv qual) (.ref 87) [.ref xM]
      [(pb, W.listOf #[] ew), (xM, instObj 97 dM), (dM, dictOf (netEs w k1 k2 k3 k4 tl tw ln st pb) 4), (aL, W.listOf #[.int ki ta] ep)]
      (fun v mu' => ∃ t tl' ta' ln' ep', v = .str rr t ∧ mu' = [(pb, W.listOf #[] ew), (xM, instObj 97 dM), (dM, dictOf (netEs w k1 k2 k3 k4 tl' tw ln' st pb) 4), (aL, W.listOf #[.int ((ee : Nat) : Int) ta'] ep')]) := by
  intro dp un gd cn cs a ccd cl outer A₀ base h₀ L m s Q E still hB hF hX hN hap hT hk hP hdp hun hret
  subst hki
  ((have hfill := hd_kept; (have : hd_kept = hd_kept := by (revert hfill; k_fill; intro _; rfl)); clear this hfill))
  ((refine wpAny_call ?_; k_dflt (refine' enter_topQ ?k1 ?k2 ?k3 ?k4 ?k4a ?k5 ?kA ?kF ?kK ?k6 ?k7 ?k8 ?k9 ?kB ?_ ?c2 ?c3 ?c4 ?c5; (case kA => exact rfl); (case kF => exact rfl); (case kK => first | exact rfl | assumption); (case k1 => k_asm); (case k2 => k_asm); (case k3 => k_asm); (case k4 => k_asm); (case k4a => k_asm); (case k5 => k_asm); (case k6 => k_is); (case k7 => k_is); (case k8 => ktr_room); (case k9 => exact BindsTo.of_eq (by rfl)); (case c5 => decide); (case kB => exact locs rfl); (case c2 => exact rfl); (case c3 => exact rfl); (case c4 => exact rfl); k_whole; intro g8' L8' h8' tk8' FG8' F8' N8' B8' X8' T8' st8' stl8' l8' Q8' E8' hQ8'; (dsimp only [List.map, List.zip, List.zipWith, List.reverse, List.reverseAux, withB] at F8'); (try dsimp only); (try k_lift B8'); (try k_fold))))
  have hp := hP _ (by assumption) (by assumption)
  walk_at "hx_steps"
  refine hold_out ?_
  (rename News _ _ _ (_ :: _) => hN9); (rename Fr _ _ _ _ => hF9)
  refine iter2_call hF9 hN9 (hN9 _ (.head _)).1 ?_
  intro I h' F' N' l1
  clear hN9 hF9
  k_lt l1
  try dsimp only
  walk_at "hx_steps"
  refine hold_out ?_
  refine For_open ?_
  walk_at "hx_steps"
  refine hold_out ?_
  (rename News _ _ _ (_ :: _) => hN9)
  refine iter_ci (hN9 _ (.head _)).1 rfl ?_
  cases htok with
  | none hc0 hs0 =>
    refine ForAt.step ?_
    k_dflt (refine' read_end (still := [(pb, W.listOf #[] ew)]) hread hkx h1 h2 hc0 hs0 ?B ?F ?X hN9 ?T ?hk ?hf ?hsub ?hap ?hI ?hP ?hdp ?hun ?ret)
    (((case B => k_asm); (case F => k_asm); (case X => k_asm); (case T => k_asm); (case hk => exact rfl); (case hf => exact ⟨_, _, _, _, (by assumption : Frag.In _ _) _ _ (by k_is)⟩); (case hsub => ((refine' fmc ?m1 (fmc ?m2 (fmc ?m3 (fmc ?m4 (fmc ?m5 (fmc ?m6 (fun _ h => nomatch h)))))); (case m1 => k_mem); (case m2 => k_mem); (case m3 => k_mem); (case m4 => k_mem); (case m5 => k_mem); (case m6 => k_mem)))); (case hap => ((refine Mine.apart_to ?_; repeat' (first | exact trivial | refine And.intro ?_ ?_ | (show @Ne Nat _ _; (try dsimp only); first | (with_reducible exact Nat.ne_of_lt (by assumption)) | (with_reducible exact Nat.ne_of_gt (by assumption)) | (with_reducible ((repeat (rename @LT.lt Nat _ _ _ ∧ _ => hcj; first | exact Nat.ne_of_lt hcj.1 | exact Nat.ne_of_gt hcj.1 | exact Nat.ne_of_lt hcj.2.1 | exact Nat.ne_of_gt hcj.2.1 | exact Nat.ne_of_lt hcj.2 | exact Nat.ne_of_gt hcj.2 | exact Nat.ne_of_lt hcj.2.2.1 | exact Nat.ne_of_gt hcj.2.2.1 | exact Nat.ne_of_lt hcj.2.2 | exact Nat.ne_of_gt hcj.2.2 | exact Nat.ne_of_lt hcj.2.2.2.1 | exact Nat.ne_of_gt hcj.2.2.2.1 | exact Nat.ne_of_lt hcj.2.2.2 | exact Nat.ne_of_gt hcj.2.2.2 | exact Nat.ne_of_lt hcj.2.2.2.2.1 | exact Nat.ne_of_gt hcj.2.2.2.2.1 | exact Nat.ne_of_lt hcj.2.2.2.2 | exact Nat.ne_of_gt hcj.2.2.2.2 | exact Nat.ne_of_lt hcj.2.2.2.2.2.1 | exact Nat.ne_of_gt hcj.2.2.2.2.2.1 | exact Nat.ne_of_lt hcj.2.2.2.2.2 | exact Nat.ne_of_gt hcj.2.2.2.2.2 | exact Nat.ne_of_lt hcj.2.2.2.2.2.2.1 | exact Nat.ne_of_gt hcj.2.2.2.2.2.2.1 | exact Nat.ne_of_lt hcj.2.2.2.2.2.2 | exact Nat.ne_of_gt hcj.2.2.2.2.2.2 | exact Nat.ne_of_lt hcj.2.2.2.2.2.2.2.1 | exact Nat.ne_of_gt hcj.2.2.2.2.2.2.2.1 | exact Nat.ne_of_lt hcj.2.2.2.2.2.2.2 | exact Nat.ne_of_gt hcj.2.2.2.2.2.2.2 | exact Nat.ne_of_lt hcj.2.2.2.2.2.2.2.2.1 | exact Nat.ne_of_gt hcj.2.2.2.2.2.2.2.2.1 | exact Nat.ne_of_lt hcj.2.2.2.2.2.2.2.2 | exact Nat.ne_of_gt hcj.2.2.2.2.2.2.2.2 | exact Nat.ne_of_lt hcj.2.2.2.2.2.2.2.2.2.1 | exact Nat.ne_of_gt hcj.2.2.2.2.2.2.2.2.2.1 | exact Nat.ne_of_lt hcj.2.2.2.2.2.2.2.2.2 | exact Nat.ne_of_gt hcj.2.2.2.2.2.2.2.2.2 | exact Nat.ne_of_lt hcj.2.2.2.2.2.2.2.2.2.2.1 | exact Nat.ne_of_gt hcj.2.2.2.2.2.2.2.2.2.2.1 | exact Nat.ne_of_lt hcj.2.2.2.2.2.2.2.2.2.2 | exact Nat.ne_of_gt hcj.2.2.2.2.2.2.2.2.2.2 | clear hcj))); done) | omega))))); (case hdp => (first | (refine' room0 ?qh ?qb; (case qh => assumption); (case qb => exact Nat.le_of_ble_eq_true rfl)) | (refine' room1 ?qh ?qb; (case qh => assumption); (case qb => exact Nat.le_of_ble_eq_true rfl)) | (refine' room2 ?qh ?qb; (case qh => assumption); (case qb => exact Nat.le_of_ble_eq_true rfl)) | omega | ((try simp only [depth_under_make, depth_under_kw, depth_in1, depth_deeper, depth_caller, units_in1, units_deeper, Around.mark_units, units_caller]); (try dsimp only [ktrTop]); omega))); (case hun => (first | (refine' room0 ?qh ?qb; (case qh => assumption); (case qb => exact Nat.le_of_ble_eq_true rfl)) | (refine' room1 ?qh ?qb; (case qh => assumption); (case qb => exact Nat.le_of_ble_eq_true rfl)) | (refine' room2 ?qh ?qb; (case qh => assumption); (case qb => exact Nat.le_of_ble_eq_true rfl)) | omega | ((try simp only [depth_under_make, depth_under_kw, depth_in1, depth_deeper, depth_caller, units_in1, units_deeper, Around.mark_units, units_caller]); (try dsimp only [ktrTop]); omega)))))
    case hI => ((refine Mine.allNe_to ?_; repeat' (first | exact trivial | refine And.intro ?_ ?_ | (show @Ne Nat _ _; (try dsimp only); first | (with_reducible exact Nat.ne_of_lt (by assumption)) | (with_reducible exact Nat.ne_of_gt (by assumption)) | (with_reducible ((repeat (rename @LT.lt Nat _ _ _ ∧ _ => hcj; first | exact Nat.ne_of_lt hcj.1 | exact Nat.ne_of_gt hcj.1 | exact Nat.ne_of_lt hcj.2.1 | exact Nat.ne_of_gt hcj.2.1 | exact Nat.ne_of_lt hcj.2 | exact Nat.ne_of_gt hcj.2 | exact Nat.ne_of_lt hcj.2.2.1 | exact Nat.ne_of_gt hcj.2.2.1 | exact Nat.ne_of_lt hcj.2.2 | exact Nat.ne_of_gt hcj.2.2 | exact Nat.ne_of_lt hcj.2.2.2.1 | exact Nat.ne_of_gt hcj.2.2.2.1 | exact Nat.ne_of_lt hcj.2.2.2 | exact Nat.ne_of_gt hcj.2.2.2 | exact Nat.ne_of_lt hcj.2.2.2.2.1 | exact Nat.ne_of_gt hcj.2.2.2.2.1 | exact Nat.ne_of_lt hcj.2.2.2.2 | exact Nat.ne_of_gt hcj.2.2.2.2 | exact Nat.ne_of_lt hcj.2.2.2.2.2.1 | exact Nat.ne_of_gt hcj.2.2.2.2.2.1 | exact Nat.ne_of_lt hcj.2.2.2.2.2 | exact Nat.ne_of_gt hcj.2.2.2.2.2 | exact Nat.ne_of_lt hcj.2.2.2.2.2.2.1 | exact Nat.ne_of_gt hcj.2.2.2.2.2.2.1 | exact Nat.ne_of_lt hcj.2.2.2.2.2.2 | exact Nat.ne_of_gt hcj.2.2.2.2.2.2 | exact Nat.ne_of_lt hcj.2.2.2.2.2.2.2.1 | exact Nat.ne_of_gt hcj.2.2.2.2.2.2.2.1 | exact Nat.ne_of_lt hcj.2.2.2.2.2.2.2 | exact Nat.ne_of_gt hcj.2.2.2.2.2.2.2 | exact Nat.ne_of_lt hcj.2.2.2.2.2.2.2.2.1 | exact Nat.ne_of_gt hcj.2.2.2.2.2.2.2.2.1 | exact Nat.ne_of_lt hcj.2.2.2.2.2.2.2.2 | exact Nat.ne_of_gt hcj.2.2.2.2.2.2.2.2 | exact Nat.ne_of_lt hcj.2.2.2.2.2.2.2.2.2.1 | exact Nat.ne_of_gt hcj.2.2.2.2.2.2.2.2.2.1 | exact Nat.ne_of_lt hcj.2.2.2.2.2.2.2.2.2 | exact Nat.ne_of_gt hcj.2.2.2.2.2.2.2.2.2 | exact Nat.ne_of_lt hcj.2.2.2.2.2.2.2.2.2.2.1 | exact Nat.ne_of_gt hcj.2.2.2.2.2.2.2.2.2.2.1 | exact Nat.ne_of_lt hcj.2.2.2.2.2.2.2.2.2.2 | exact Nat.ne_of_gt hcj.2.2.2.2.2.2.2.2.2.2 | clear hcj))); done) | omega))))
    case hP => (intro g hg hs; exact hp.keeps hg)
    case ret =>
      intro tl' ta' ln' ep' h' tk' F' N'
      dsimp only [ForEnd]
      walk_at "hx_steps"
      (rename News _ _ _ (_ :: _) => hN9); (replace hN9 := news_sub (r := [_, _, _, _]) hN9 (fmc (.tail _ (.tail _ (.tail _ (.tail _ (.tail _ (.head _)))))) (fmc (.head _) (fmc (.tail _ (.head _)) (fmc (.tail _ (.tail _ (.head _))) (fun _ h => nomatch h))))))
      (((first | refine hQ8' _ _ ?_ | refine hold_out ?_); refine' leaveS_ ?hxF ?hxN ?_; (case hxF => k_asm); (case hxN => k_asm); intro kF kN kD; (rename ∀ (v : Value) (mu' : List (Addr × Obj)) (h' : Heap) (tk' : Nat), _ → _ → _ → _ → _ => hxR); refine hxR _ _ _ _ kF kN kD ?_; clear hxR; try dsimp only))
      exact ⟨_, _, _, _, _, congrArg (fun z => Value.str z _) (by decide), rfl⟩
  | line hc0 hs0 hk1 hc1 hcn hcl hcw hcb hs1 hk2 hc2 hs2 =>
    refine ForAt.step ?_
    k_dflt (refine' read_go (still := [(pb, W.listOf #[] ew)]) hread hkx h1 h2 hc0 hs0 (by decide) ?B ?F ?X hN9 ?T ?hk ?hf ?hsub ?hap ?hP ?hdp ?hun ?ret)
    (((case B => k_asm); (case F => k_asm); (case X => k_asm); (case T => k_asm); (case hk => exact rfl); (case hf => exact ⟨_, _, _, _, (by assumption : Frag.In _ _) _ _ (by k_is)⟩); (case hsub => ((refine' fmc ?m1 (fmc ?m2 (fmc ?m3 (fmc ?m4 (fmc ?m5 (fmc ?m6 (fun _ h => nomatch h)))))); (case m1 => k_mem); (case m2 => k_mem); (case m3 => k_mem); (case m4 => k_mem); (case m5 => k_mem); (case m6 => k_mem)))); (case hap => ((refine Mine.apart_to ?_; repeat' (first | exact trivial | refine And.intro ?_ ?_ | (show @Ne Nat _ _; (try dsimp only); first | (with_reducible exact Nat.ne_of_lt (by assumption)) | (with_reducible exact Nat.ne_of_gt (by assumption)) | (with_reducible ((repeat (rename @LT.lt Nat _ _ _ ∧ _ => hcj; first | exact Nat.ne_of_lt hcj.1 | exact Nat.ne_of_gt hcj.1 | exact Nat.ne_of_lt hcj.2.1 | exact Nat.ne_of_gt hcj.2.1 | exact Nat.ne_of_lt hcj.2 | exact Nat.ne_of_gt hcj.2 | exact Nat.ne_of_lt hcj.2.2.1 | exact Nat.ne_of_gt hcj.2.2.1 | exact Nat.ne_of_lt hcj.2.2 | exact Nat.ne_of_gt hcj.2.2 | exact Nat.ne_of_lt hcj.2.2.2.1 | exact Nat.ne_of_gt hcj.2.2.2.1 | exact Nat.ne_of_lt hcj.2.2.2 | exact Nat.ne_of_gt hcj.2.2.2 | exact Nat.ne_of_lt hcj.2.2.2.2.1 | exact Nat.ne_of_gt hcj.2.2.2.2.1 | exact Nat.ne_of_lt hcj.2.2.2.2 | exact Nat.ne_of_gt hcj.2.2.2.2 | exact Nat.ne_of_lt hcj.2.2.2.2.2.1 | exact Nat.ne_of_gt hcj.2.2.2.2.2.1 | exact Nat.ne_of_lt hcj.2.2.2.2.2 | exact Nat.ne_of_gt hcj.2.2.2.2.2 | exact Nat.ne_of_lt hcj.2.2.2.2.2.2.1 | exact Nat.ne_of_gt hcj.2.2.2.2.2.2.1 | exact Nat.ne_of_lt hcj.2.2.2.2.2.2 | exact Nat.ne_of_gt hcj.2.2.2.2.2.2 | exact Nat.ne_of_lt hcj.2.2.2.2.2.2.2.1 | exact Nat.ne_of_gt hcj.2.2.2.2.2.2.2.1 | exact Nat.ne_of_lt hcj.2.2.2.2.2.2.2 | exact Nat.ne_of_gt hcj.2.2.2.2.2.2.2 | exact Nat.ne_of_lt hcj.2.2.2.2.2.2.2.2.1 | exact Nat.ne_of_gt hcj.2.2.2.2.2.2.2.2.1 | exact Nat.ne_of_lt hcj.2.2.2.2.2.2.2.2 | exact Nat.ne_of_gt hcj.2.2.2.2.2.2.2.2 | exact Nat.ne_of_lt hcj.2.2.2.2.2.2.2.2.2.1 | exact Nat.ne_of_gt hcj.2.2.2.2.2.2.2.2.2.1 | exact Nat.ne_of_lt hcj.2.2.2.2.2.2.2.2.2 | exact Nat.ne_of_gt hcj.2.2.2.2.2.2.2.2.2 | exact Nat.ne_of_lt hcj.2.2.2.2.2.2.2.2.2.2.1 | exact Nat.ne_of_gt hcj.2.2.2.2.2.2.2.2.2.2.1 | exact Nat.ne_of_lt hcj.2.2.2.2.2.2.2.2.2.2 | exact Nat.ne_of_gt hcj.2.2.2.2.2.2.2.2.2.2 | clear hcj))); done) | omega))))); (case hdp => (first | (refine' room0 ?qh ?qb; (case qh => assumption); (case qb => exact Nat.le_of_ble_eq_true rfl)) | (refine' room1 ?qh ?qb; (case qh => assumption); (case qb => exact Nat.le_of_ble_eq_true rfl)) | (refine' room2 ?qh ?qb; (case qh => assumption); (case qb => exact Nat.le_of_ble_eq_true rfl)) | omega | ((try simp only [depth_under_make, depth_under_kw, depth_in1, depth_deeper, depth_caller, units_in1, units_deeper, Around.mark_units, units_caller]); (try dsimp only [ktrTop]); omega))); (case hun => (first | (refine' room0 ?qh ?qb; (case qh => assumption); (case qb => exact Nat.le_of_ble_eq_true rfl)) | (refine' room1 ?qh ?qb; (case qh => assumption); (case qb => exact Nat.le_of_ble_eq_true rfl)) | (refine' room2 ?qh ?qb; (case qh => assumption); (case qb => exact Nat.le_of_ble_eq_true rfl)) | omega | ((try simp only [depth_under_make, depth_under_kw, depth_in1, depth_deeper, depth_caller, units_in1, units_deeper, Around.mark_units, units_caller]); (try dsimp only [ktrTop]); omega)))))
    case hP => (intro g hg hs; exact hp.keeps hg)
    case ret =>
      intro t1' tl' ta' ln' ep' h' tk' F' N'
      clear hN9
      dsimp only
      walk_at "hx_steps"
      refine hold_out ?_
      refine For_open ?_
      walk_at "hx_steps"
      refine hold_out ?_
      (rename News _ _ _ (_ :: _) => hN9)
      refine iter_ci (hN9 _ (.tail _ (.tail _ (.tail _ (.head _))))).1 rfl ?_
      refine ForAt.step ?_
      k_dflt (refine' read_go (still := [(pb, W.listOf #[] ew)]) hread hk1 h1 h2 hc1 hs1 hcn ?B ?F ?X hN9 ?T ?hk ?hf ?hsub ?hap ?hP ?hdp ?hun ?_)
      (((case B => k_asm); (case F => k_asm); (case X => k_asm); (case T => k_asm); (case hk => exact rfl); (case hf => exact ⟨_, _, _, _, (by assumption : Frag.In _ _) _ _ (by k_is)⟩); (case hsub => ((refine' fmc ?m1 (fmc ?m2 (fmc ?m3 (fmc ?m4 (fmc ?m5 (fmc ?m6 (fun _ h => nomatch h)))))); (case m1 => k_mem); (case m2 => k_mem); (case m3 => k_mem); (case m4 => k_mem); (case m5 => k_mem); (case m6 => k_mem)))); (case hap => ((refine Mine.apart_to ?_; repeat' (first | exact trivial | refine And.intro ?_ ?_ | (show @Ne Nat _ _; (try dsimp only); first | (with_reducible exact Nat.ne_of_lt (by assumption)) | (with_reducible exact Nat.ne_of_gt (by assumption)) | (with_reducible ((repeat (rename @LT.lt Nat _ _ _ ∧ _ => hcj; first | exact Nat.ne_of_lt hcj.1 | exact Nat.ne_of_gt hcj.1 | exact Nat.ne_of_lt hcj.2.1 | exact Nat.ne_of_gt hcj.2.1 | exact Nat.ne_of_lt hcj.2 | exact Nat.ne_of_gt hcj.2 | exact Nat.ne_of_lt hcj.2.2.1 | exact Nat.ne_of_gt hcj.2.2.1 | exact Nat.ne_of_lt hcj.2.2 | exact Nat.ne_of_gt hcj.2.2 | exact Nat.ne_of_lt hcj.2.2.2.1 | exact Nat.ne_of_gt hcj.2.2.2.1 | exact Nat.ne_of_lt hcj.2.2.2 | exact Nat.ne_of_gt hcj.2.2.2 | exact Nat.ne_of_lt hcj.2.2.2.2.1 | exact Nat.ne_of_gt hcj.2.2.2.2.1 | exact Nat.ne_of_lt hcj.2.2.2.2 | exact Nat.ne_of_gt hcj.2.2.2.2 | exact Nat.ne_of_lt hcj.2.2.2.2.2.1 | exact Nat.ne_of_gt hcj.2.2.2.2.2.1 | exact Nat.ne_of_lt hcj.2.2.2.2.2 | exact Nat.ne_of_gt hcj.2.2.2.2.2 | exact Nat.ne_of_lt hcj.2.2.2.2.2.2.1 | exact Nat.ne_of_gt hcj.2.2.2.2.2.2.1 | exact Nat.ne_of_lt hcj.2.2.2.2.2.2 | exact Nat.ne_of_gt hcj.2.2.2.2.2.2 | exact Nat.ne_of_lt hcj.2.2.2.2.2.2.2.1 | exact Nat.ne_of_gt hcj.2.2.2.2.2.2.2.1 | exact Nat.ne_of_lt hcj.2.2.2.2.2.2.2 | exact Nat.ne_of_gt hcj.2.2.2.2.2.2.2 | exact Nat.ne_of_lt hcj.2.2.2.2.2.2.2.2.1 | exact Nat.ne_of_gt hcj.2.2.2.2.2.2.2.2.1 | exact Nat.ne_of_lt hcj.2.2.2.2.2.2.2.2 | exact Nat.ne_of_gt hcj.2.2.2.2.2.2.2.2 | exact Nat.ne_of_lt hcj.2.2.2.2.2.2.2.2.2.1 | exact Nat.ne_of_gt hcj.2.2.2.2.2.2.2.2.2.1 | exact Nat.ne_of_lt hcj.2.2.2.2.2.2.2.2.2 | exact Nat.ne_of_gt hcj.2.2.2.2.2.2.2.2.2 | exact Nat.ne_of_lt hcj.2.2.2.2.2.2.2.2.2.2.1 | exact Nat.ne_of_gt hcj.2.2.2.2.2.2.2.2.2.2.1 | exact Nat.ne_of_lt hcj.2.2.2.2.2.2.2.2.2.2 | exact Nat.ne_of_gt hcj.2.2.2.2.2.2.2.2.2.2 | clear hcj))); done) | omega))))); (case hdp => (first | (refine' room0 ?qh ?qb; (case qh => assumption); (case qb => exact Nat.le_of_ble_eq_true rfl)) | (refine' room1 ?qh ?qb; (case qh => assumption); (case qb => exact Nat.le_of_ble_eq_true rfl)) | (refine' room2 ?qh ?qb; (case qh => assumption); (case qb => exact Nat.le_of_ble_eq_true rfl)) | omega | ((try simp only [depth_under_make, depth_under_kw, depth_in1, depth_deeper, depth_caller, units_in1, units_deeper, Around.mark_units, units_caller]); (try dsimp only [ktrTop]); omega))); (case hun => (first | (refine' room0 ?qh ?qb; (case qh => assumption); (case qb => exact Nat.le_of_ble_eq_true rfl)) | (refine' room1 ?qh ?qb; (case qh => assumption); (case qb => exact Nat.le_of_ble_eq_true rfl)) | (refine' room2 ?qh ?qb; (case qh => assumption); (case qb => exact Nat.le_of_ble_eq_true rfl)) | omega | ((try simp only [depth_under_make, depth_under_kw, depth_in1, depth_deeper, depth_caller, units_in1, units_deeper, Around.mark_units, units_caller]); (try dsimp only [ktrTop]); omega)))))
      case hP => (intro g hg hs; exact hp.keeps hg)
      intro t1' tl' ta' ln' ep' h' tk' F' N'
      clear hN9
      dsimp only
      walk_at "hx_steps"
      dsimp only [ForPost]
      (rename News _ _ _ (_ :: _) => hN9)
      refine ForAt.step ?_
      k_dflt (refine' read_go (still := [(pb, W.listOf #[] ew)]) hread hk2 h1 h2 hc2 hs2 (by decide) ?B ?F ?X hN9 ?T ?hk ?hf ?hsub ?hap ?hP ?hdp ?hun ?_)
      (((case B => k_asm); (case F => k_asm); (case X => k_asm); (case T => k_asm); (case hk => exact rfl); (case hf => exact ⟨_, _, _, _, (by assumption : Frag.In _ _) _ _ (by k_is)⟩); (case hsub => ((refine' fmc ?m1 (fmc ?m2 (fmc ?m3 (fmc ?m4 (fmc ?m5 (fmc ?m6 (fun _ h => nomatch h)))))); (case m1 => k_mem); (case m2 => k_mem); (case m3 => k_mem); (case m4 => k_mem); (case m5 => k_mem); (case m6 => k_mem)))); (case hap => ((refine Mine.apart_to ?_; repeat' (first | exact trivial | refine And.intro ?_ ?_ | (show @Ne Nat _ _; (try dsimp only); first | (with_reducible exact Nat.ne_of_lt (by assumption)) | (with_reducible exact Nat.ne_of_gt (by assumption)) | (with_reducible ((repeat (rename @LT.lt Nat _ _ _ ∧ _ => hcj; first | exact Nat.ne_of_lt hcj.1 | exact Nat.ne_of_gt hcj.1 | exact Nat.ne_of_lt hcj.2.1 | exact Nat.ne_of_gt hcj.2.1 | exact Nat.ne_of_lt hcj.2 | exact Nat.ne_of_gt hcj.2 | exact Nat.ne_of_lt hcj.2.2.1 | exact Nat.ne_of_gt hcj.2.2.1 | exact Nat.ne_of_lt hcj.2.2 | exact Nat.ne_of_gt hcj.2.2 | exact Nat.ne_of_lt hcj.2.2.2.1 | exact Nat.ne_of_gt hcj.2.2.2.1 | exact Nat.ne_of_lt hcj.2.2.2 | exact Nat.ne_of_gt hcj.2.2.2 | exact Nat.ne_of_lt hcj.2.2.2.2.1 | exact Nat.ne_of_gt hcj.2.2.2.2.1 | exact Nat.ne_of_lt hcj.2.2.2.2 | exact Nat.ne_of_gt hcj.2.2.2.2 | exact Nat.ne_of_lt hcj.2.2.2.2.2.1 | exact Nat.ne_of_gt hcj.2.2.2.2.2.1 | exact Nat.ne_of_lt hcj.2.2.2.2.2 | exact Nat.ne_of_gt hcj.2.2.2.2.2 | exact Nat.ne_of_lt hcj.2.2.2.2.2.2.1 | exact Nat.ne_of_gt hcj.2.2.2.2.2.2.1 | exact Nat.ne_of_lt hcj.2.2.2.2.2.2 | exact Nat.ne_of_gt hcj.2.2.2.2.2.2 | exact Nat.ne_of_lt hcj.2.2.2.2.2.2.2.1 | exact Nat.ne_of_gt hcj.2.2.2.2.2.2.2.1 | exact Nat.ne_of_lt hcj.2.2.2.2.2.2.2 | exact Nat.ne_of_gt hcj.2.2.2.2.2.2.2 | exact Nat.ne_of_lt hcj.2.2.2.2.2.2.2.2.1 | exact Nat.ne_of_gt hcj.2.2.2.2.2.2.2.2.1 | exact Nat.ne_of_lt hcj.2.2.2.2.2.2.2.2 | exact Nat.ne_of_gt hcj.2.2.2.2.2.2.2.2 | exact Nat.ne_of_lt hcj.2.2.2.2.2.2.2.2.2.1 | exact Nat.ne_of_gt hcj.2.2.2.2.2.2.2.2.2.1 | exact Nat.ne_of_lt hcj.2.2.2.2.2.2.2.2.2 | exact Nat.ne_of_gt hcj.2.2.2.2.2.2.2.2.2 | exact Nat.ne_of_lt hcj.2.2.2.2.2.2.2.2.2.2.1 | exact Nat.ne_of_gt hcj.2.2.2.2.2.2.2.2.2.2.1 | exact Nat.ne_of_lt hcj.2.2.2.2.2.2.2.2.2.2 | exact Nat.ne_of_gt hcj.2.2.2.2.2.2.2.2.2.2 | clear hcj))); done) | omega))))); (case hdp => (first | (refine' room0 ?qh ?qb; (case qh => assumption); (case qb => exact Nat.le_of_ble_eq_true rfl)) | (refine' room1 ?qh ?qb; (case qh => assumption); (case qb => exact Nat.le_of_ble_eq_true rfl)) | (refine' room2 ?qh ?qb; (case qh => assumption); (case qb => exact Nat.le_of_ble_eq_true rfl)) | omega | ((try simp only [depth_under_make, depth_under_kw, depth_in1, depth_deeper, depth_caller, units_in1, units_deeper, Around.mark_units, units_caller]); (try dsimp only [ktrTop]); omega))); (case hun => (first | (refine' room0 ?qh ?qb; (case qh => assumption); (case qb => exact Nat.le_of_ble_eq_true rfl)) | (refine' room1 ?qh ?qb; (case qh => assumption); (case qb => exact Nat.le_of_ble_eq_true rfl)) | (refine' room2 ?qh ?qb; (case qh => assumption); (case qb => exact Nat.le_of_ble_eq_true rfl)) | omega | ((try simp only [depth_under_make, depth_under_kw, depth_in1, depth_deeper, depth_caller, units_in1, units_deeper, Around.mark_units, units_caller]); (try dsimp only [ktrTop]); omega)))))
      case hP => (intro g hg hs; exact hp.keeps hg)
      intro t1' tl' ta' ln' ep' h' tk' F' N'
      clear hN9
      dsimp only
      walk_at "hx_steps"
      dsimp only [ForPost, ForEnd]
      walk_at "hx_steps"
      (rename News _ _ _ (_ :: _) => hN9); (replace hN9 := news_sub (r := [_, _, _, _]) hN9 (fmc (.tail _ (.tail _ (.tail _ (.tail _ (.tail _ (.head _)))))) (fmc (.head _) (fmc (.tail _ (.head _)) (fmc (.tail _ (.tail _ (.head _))) (fun _ h => nomatch h))))))
      (((first | refine hQ8' _ _ ?_ | refine hold_out ?_); refine' leaveS_ ?hxF ?hxN ?_; (case hxF => k_asm); (case hxN => k_asm); intro kF kN kD; (rename ∀ (v : Value) (mu' : List (Addr × Obj)) (h' : Heap) (tk' : Nat), _ → _ → _ → _ → _ => hxR); refine hxR _ _ _ _ kF kN kD ?_; clear hxR; try dsimp only))
      exact ⟨_, _, _, _, _, rfl, rfl⟩
  | last hc0 hs0 hk1 hc1 hcn hcl hcw hcb hs1 hk2 hc2 hs2 =>
    refine ForAt.step ?_
    k_dflt (refine' read_go (still := [(pb, W.listOf #[] ew)]) hread hkx h1 h2 hc0 hs0 (by decide) ?B ?F ?X hN9 ?T ?hk ?hf ?hsub ?hap ?hP ?hdp ?hun ?ret)
    (((case B => k_asm); (case F => k_asm); (case X => k_asm); (case T => k_asm); (case hk => exact rfl); (case hf => exact ⟨_, _, _, _, (by assumption : Frag.In _ _) _ _ (by k_is)⟩); (case hsub => ((refine' fmc ?m1 (fmc ?m2 (fmc ?m3 (fmc ?m4 (fmc ?m5 (fmc ?m6 (fun _ h => nomatch h)))))); (case m1 => k_mem); (case m2 => k_mem); (case m3 => k_mem); (case m4 => k_mem); (case m5 => k_mem); (case m6 => k_mem)))); (case hap => ((refine Mine.apart_to ?_; repeat' (first | exact trivial | refine And.intro ?_ ?_ | (show @Ne Nat _ _; (try dsimp only); first | (with_reducible exact Nat.ne_of_lt (by assumption)) | (with_reducible exact Nat.ne_of_gt (by assumption)) | (with_reducible ((repeat (rename @LT.lt Nat _ _ _ ∧ _ => hcj; first | exact Nat.ne_of_lt hcj.1 | exact Nat.ne_of_gt hcj.1 | exact Nat.ne_of_lt hcj.2.1 | exact Nat.ne_of_gt hcj.2.1 | exact Nat.ne_of_lt hcj.2 | exact Nat.ne_of_gt hcj.2 | exact Nat.ne_of_lt hcj.2.2.1 | exact Nat.ne_of_gt hcj.2.2.1 | exact Nat.ne_of_lt hcj.2.2 | exact Nat.ne_of_gt hcj.2.2 | exact Nat.ne_of_lt hcj.2.2.2.1 | exact Nat.ne_of_gt hcj.2.2.2.1 | exact Nat.ne_of_lt hcj.2.2.2 | exact Nat.ne_of_gt hcj.2.2.2 | exact Nat.ne_of_lt hcj.2.2.2.2.1 | exact Nat.ne_of_gt hcj.2.2.2.2.1 | exact Nat.ne_of_lt hcj.2.2.2.2 | exact Nat.ne_of_gt hcj.2.2.2.2 | exact Nat.ne_of_lt hcj.2.2.2.2.2.1 | exact Nat.ne_of_gt hcj.2.2.2.2.2.1 | exact Nat.ne_of_lt hcj.2.2.2.2.2 | exact Nat.ne_of_gt hcj.2.2.2.2.2 | exact Nat.ne_of_lt hcj.2.2.2.2.2.2.1 | exact Nat.ne_of_gt hcj.2.2.2.2.2.2.1 | exact Nat.ne_of_lt hcj.2.2.2.2.2.2 | exact Nat.ne_of_gt hcj.2.2.2.2.2.2 | exact Nat.ne_of_lt hcj.2.2.2.2.2.2.2.1 | exact Nat.ne_of_gt hcj.2.2.2.2.2.2.2.1 | exact Nat.ne_of_lt hcj.2.2.2.2.2.2.2 | exact Nat.ne_of_gt hcj.2.2.2.2.2.2.2 | exact Nat.ne_of_lt hcj.2.2.2.2.2.2.2.2.1 | exact Nat.ne_of_gt hcj.2.2.2.2.2.2.2.2.1 | exact Nat.ne_of_lt hcj.2.2.2.2.2.2.2.2 | exact Nat.ne_of_gt hcj.2.2.2.2.2.2.2.2 | exact Nat.ne_of_lt hcj.2.2.2.2.2.2.2.2.2.1 | exact Nat.ne_of_gt hcj.2.2.2.2.2.2.2.2.2.1 | exact Nat.ne_of_lt hcj.2.2.2.2.2.2.2.2.2 | exact Nat.ne_of_gt hcj.2.2.2.2.2.2.2.2.2 | exact Nat.ne_of_lt hcj.2.2.2.2.2.2.2.2.2.2.1 | exact Nat.ne_of_gt hcj.2.2.2.2.2.2.2.2.2.2.1 | exact Nat.ne_of_lt hcj.2.2.2.2.2.2.2.2.2.2 | exact Nat.ne_of_gt hcj.2.2.2.2.2.2.2.2.2.2 | clear hcj))); done) | omega))))); (case hdp => (first | (refine' room0 ?qh ?qb; (case qh => assumption); (case qb => exact Nat.le_of_ble_eq_true rfl)) | (refine' room1 ?qh ?qb; (case qh => assumption); (case qb => exact Nat.le_of_ble_eq_true rfl)) | (refine' room2 ?qh ?qb; (case qh => assumption); (case qb => exact Nat.le_of_ble_eq_true rfl)) | omega | ((try simp only [depth_under_make, depth_under_kw, depth_in1, depth_deeper, depth_caller, units_in1, units_deeper, Around.mark_units, units_caller]); (try dsimp only [ktrTop]); omega))); (case hun => (first | (refine' room0 ?qh ?qb; (case qh => assumption); (case qb => exact Nat.le_of_ble_eq_true rfl)) | (refine' room1 ?qh ?qb; (case qh => assumption); (case qb => exact Nat.le_of_ble_eq_true rfl)) | (refine' room2 ?qh ?qb; (case qh => assumption); (case qb => exact Nat.le_of_ble_eq_true rfl)) | omega | ((try simp only [depth_under_make, depth_under_kw, depth_in1, depth_deeper, depth_caller, units_in1, units_deeper, Around.mark_units, units_caller]); (try dsimp only [ktrTop]); omega)))))
    case hP => (intro g hg hs; exact hp.keeps hg)
    case ret =>
      intro t1' tl' ta' ln' ep' h' tk' F' N'
      clear hN9
      dsimp only
      walk_at "hx_steps"
      refine hold_out ?_
      refine For_open ?_
      walk_at "hx_steps"
      refine hold_out ?_
      (rename News _ _ _ (_ :: _) => hN9)
      refine iter_ci (hN9 _ (.tail _ (.tail _ (.tail _ (.head _))))).1 rfl ?_
      refine ForAt.step ?_
      k_dflt (refine' read_go (still := [(pb, W.listOf #[] ew)]) hread hk1 h1 h2 hc1 hs1 hcn ?B ?F ?X hN9 ?T ?hk ?hf ?hsub ?hap ?hP ?hdp ?hun ?_)
      (((case B => k_asm); (case F => k_asm); (case X => k_asm); (case T => k_asm); (case hk => exact rfl); (case hf => exact ⟨_, _, _, _, (by assumption : Frag.In _ _) _ _ (by k_is)⟩); (case hsub => ((refine' fmc ?m1 (fmc ?m2 (fmc ?m3 (fmc ?m4 (fmc ?m5 (fmc ?m6 (fun _ h => nomatch h)))))); (case m1 => k_mem); (case m2 => k_mem); (case m3 => k_mem); (case m4 => k_mem); (case m5 => k_mem); (case m6 => k_mem)))); (case hap => ((refine Mine.apart_to ?_; repeat' (first | exact trivial | refine And.intro ?_ ?_ | (show @Ne Nat _ _; (try dsimp only); first | (with_reducible exact Nat.ne_of_lt (by assumption)) | (with_reducible exact Nat.ne_of_gt (by assumption)) | (with_reducible ((repeat (rename @LT.lt Nat _ _ _ ∧ _ => hcj; first | exact Nat.ne_of_lt hcj.1 | exact Nat.ne_of_gt hcj.1 | exact Nat.ne_of_lt hcj.2.1 | exact Nat.ne_of_gt hcj.2.1 | exact Nat.ne_of_lt hcj.2 | exact Nat.ne_of_gt hcj.2 | exact Nat.ne_of_lt hcj.2.2.1 | exact Nat.ne_of_gt hcj.2.2.1 | exact Nat.ne_of_lt hcj.2.2 | exact Nat.ne_of_gt hcj.2.2 | exact Nat.ne_of_lt hcj.2.2.2.1 | exact Nat.ne_of_gt hcj.2.2.2.1 | exact Nat.ne_of_lt hcj.2.2.2 | exact Nat.ne_of_gt hcj.2.2.2 | exact Nat.ne_of_lt hcj.2.2.2.2.1 | exact Nat.ne_of_gt hcj.2.2.2.2.1 | exact Nat.ne_of_lt hcj.2.2.2.2 | exact Nat.ne_of_gt hcj.2.2.2.2 | exact Nat.ne_of_lt hcj.2.2.2.2.2.1 | exact Nat.ne_of_gt hcj.2.2.2.2.2.1 | exact Nat.ne_of_lt hcj.2.2.2.2.2 | exact Nat.ne_of_gt hcj.2.2.2.2.2 | exact Nat.ne_of_lt hcj.2.2.2.2.2.2.1 | exact Nat.ne_of_gt hcj.2.2.2.2.2.2.1 | exact Nat.ne_of_lt hcj.2.2.2.2.2.2 | exact Nat.ne_of_gt hcj.2.2.2.2.2.2 | exact Nat.ne_of_lt hcj.2.2.2.2.2.2.2.1 | exact Nat.ne_of_gt hcj.2.2.2.2.2.2.2.1 | exact Nat.ne_of_lt hcj.2.2.2.2.2.2.2 | exact Nat.ne_of_gt hcj.2.2.2.2.2.2.2 | exact Nat.ne_of_lt hcj.2.2.2.2.2.2.2.2.1 | exact Nat.ne_of_gt hcj.2.2.2.2.2.2.2.2.1 | exact Nat.ne_of_lt hcj.2.2.2.2.2.2.2.2 | exact Nat.ne_of_gt hcj.2.2.2.2.2.2.2.2 | exact Nat.ne_of_lt hcj.2.2.2.2.2.2.2.2.2.1 | exact Nat.ne_of_gt hcj.2.2.2.2.2.2.2.2.2.1 | exact Nat.ne_of_lt hcj.2.2.2.2.2.2.2.2.2 | exact Nat.ne_of_gt hcj.2.2.2.2.2.2.2.2.2 | exact Nat.ne_of_lt hcj.2.2.2.2.2.2.2.2.2.2.1 | exact Nat.ne_of_gt hcj.2.2.2.2.2.2.2.2.2.2.1 | exact Nat.ne_of_lt hcj.2.2.2.2.2.2.2.2.2.2 | exact Nat.ne_of_gt hcj.2.2.2.2.2.2.2.2.2.2 | clear hcj))); done) | omega))))); (case hdp => (first | (refine' room0 ?qh ?qb; (case qh => assumption); (case qb => exact Nat.le_of_ble_eq_true rfl)) | (refine' room1 ?qh ?qb; (case qh => assumption); (case qb => exact Nat.le_of_ble_eq_true rfl)) | (refine' room2 ?qh ?qb; (case qh => assumption); (case qb => exact Nat.le_of_ble_eq_true rfl)) | omega | ((try simp only [depth_under_make, depth_under_kw, depth_in1, depth_deeper, depth_caller, units_in1, units_deeper, Around.mark_units, units_caller]); (try dsimp only [ktrTop]); omega))); (case hun => (first | (refine' room0 ?qh ?qb; (case qh => assumption); (case qb => exact Nat.le_of_ble_eq_true rfl)) | (refine' room1 ?qh ?qb; (case qh => assumption); (case qb => exact Nat.le_of_ble_eq_true rfl)) | (refine' room2 ?qh ?qb; (case qh => assumption); (case qb => exact Nat.le_of_ble_eq_true rfl)) | omega | ((try simp only [depth_under_make, depth_under_kw, depth_in1, depth_deeper, depth_caller, units_in1, units_deeper, Around.mark_units, units_caller]); (try dsimp only [ktrTop]); omega)))))
      case hP => (intro g hg hs; exact hp.keeps hg)
      intro t1' tl' ta' ln' ep' h' tk' F' N'
      clear hN9
      dsimp only
      walk_at "hx_steps"
      dsimp only [ForPost]
      (rename News _ _ _ (_ :: _) => hN9)
      refine ForAt.step ?_
      k_dflt (refine' read_end (still := [(pb, W.listOf #[] ew)]) hread hk2 h1 h2 hc2 hs2 ?B ?F ?X hN9 ?T ?hk ?hf ?hsub ?hap ?hI ?hP ?hdp ?hun ?_)
      (((case B => k_asm); (case F => k_asm); (case X => k_asm); (case T => k_asm); (case hk => exact rfl); (case hf => exact ⟨_, _, _, _, (by assumption : Frag.In _ _) _ _ (by k_is)⟩); (case hsub => ((refine' fmc ?m1 (fmc ?m2 (fmc ?m3 (fmc ?m4 (fmc ?m5 (fmc ?m6 (fun _ h => nomatch h)))))); (case m1 => k_mem); (case m2 => k_mem); (case m3 => k_mem); (case m4 => k_mem); (case m5 => k_mem); (case m6 => k_mem)))); (case hap => ((refine Mine.apart_to ?_; repeat' (first | exact trivial | refine And.intro ?_ ?_ | (show @Ne Nat _ _; (try dsimp only); first | (with_reducible exact Nat.ne_of_lt (by assumption)) | (with_reducible exact Nat.ne_of_gt (by assumption)) | (with_reducible ((repeat (rename @LT.lt Nat _ _ _ ∧ _ => hcj; first | exact Nat.ne_of_lt hcj.1 | exact Nat.ne_of_gt hcj.1 | exact Nat.ne_of_lt hcj.2.1 | exact Nat.ne_of_gt hcj.2.1 | exact Nat.ne_of_lt hcj.2 | exact Nat.ne_of_gt hcj.2 | exact Nat.ne_of_lt hcj.2.2.1 | exact Nat.ne_of_gt hcj.2.2.1 | exact Nat.ne_of_lt hcj.2.2 | exact Nat.ne_of_gt hcj.2.2 | exact Nat.ne_of_lt hcj.2.2.2.1 | exact Nat.ne_of_gt hcj.2.2.2.1 | exact Nat.ne_of_lt hcj.2.2.2 | exact Nat.ne_of_gt hcj.2.2.2 | exact Nat.ne_of_lt hcj.2.2.2.2.1 | exact Nat.ne_of_gt hcj.2.2.2.2.1 | exact Nat.ne_of_lt hcj.2.2.2.2 | exact Nat.ne_of_gt hcj.2.2.2.2 | exact Nat.ne_of_lt hcj.2.2.2.2.2.1 | exact Nat.ne_of_gt hcj.2.2.2.2.2.1 | exact Nat.ne_of_lt hcj.2.2.2.2.2 | exact Nat.ne_of_gt hcj.2.2.2.2.2 | exact Nat.ne_of_lt hcj.2.2.2.2.2.2.1 | exact Nat.ne_of_gt hcj.2.2.2.2.2.2.1 | exact Nat.ne_of_lt hcj.2.2.2.2.2.2 | exact Nat.ne_of_gt hcj.2.2.2.2.2.2 | exact Nat.ne_of_lt hcj.2.2.2.2.2.2.2.1 | exact Nat.ne_of_gt hcj.2.2.2.2.2.2.2.1 | exact Nat.ne_of_lt hcj.2.2.2.2.2.2.2 | exact Nat.ne_of_gt hcj.2.2.2.2.2.2.2 | exact Nat.ne_of_lt hcj.2.2.2.2.2.2.2.2.1 | exact Nat.ne_of_gt hcj.2.2.2.2.2.2.2.2.1 | exact Nat.ne_of_lt hcj.2.2.2.2.2.2.2.2 | exact Nat.ne_of_gt hcj.2.2.2.2.2.2.2.2 | exact Nat.ne_of_lt hcj.2.2.2.2.2.2.2.2.2.1 | exact Nat.ne_of_gt hcj.2.2.2.2.2.2.2.2.2.1 | exact Nat.ne_of_lt hcj.2.2.2.2.2.2.2.2.2 | exact Nat.ne_of_gt hcj.2.2.2.2.2.2.2.2.2 | exact Nat.ne_of_lt hcj.2.2.2.2.2.2.2.2.2.2.1 | exact Nat.ne_of_gt hcj.2.2.2.2.2.2.2.2.2.2.1 | exact Nat.ne_of_lt hcj.2.2.2.2.2.2.2.2.2.2 | exact Nat.ne_of_gt hcj.2.2.2.2.2.2.2.2.2.2 | clear hcj))); done) | omega))))); (case hdp => (first | (refine' room0 ?qh ?qb; (case qh => assumption); (case qb => exact Nat.le_of_ble_eq_true rfl)) | (refine' room1 ?qh ?qb; (case qh => assumption); (case qb => exact Nat.le_of_ble_eq_true rfl)) | (refine' room2 ?qh ?qb; (case qh => assumption); (case qb => exact Nat.le_of_ble_eq_true rfl)) | omega | ((try simp only [depth_under_make, depth_under_kw, depth_in1, depth_deeper, depth_caller, units_in1, units_deeper, Around.mark_units, units_caller]); (try dsimp only [ktrTop]); omega))); (case hun => (first | (refine' room0 ?qh ?qb; (case qh => assumption); (case qb => exact Nat.le_of_ble_eq_true rfl)) | (refine' room1 ?qh ?qb; (case qh => assumption); (case qb => exact Nat.le_of_ble_eq_true rfl)) | (refine' room2 ?qh ?qb; (case qh => assumption); (case qb => exact Nat.le_of_ble_eq_true rfl)) | omega | ((try simp only [depth_under_make, depth_under_kw, depth_in1, depth_deeper, depth_caller, units_in1, units_deeper, Around.mark_units, units_caller]); (try dsimp only [ktrTop]); omega)))))
      case hI => ((refine Mine.allNe_to ?_; repeat' (first | exact trivial | refine And.intro ?_ ?_ | (show @Ne Nat _ _; (try dsimp only); first | (with_reducible exact Nat.ne_of_lt (by assumption)) | (with_reducible exact Nat.ne_of_gt (by assumption)) | (with_reducible ((repeat (rename @LT.lt Nat _ _ _ ∧ _ => hcj; first | exact Nat.ne_of_lt hcj.1 | exact Nat.ne_of_gt hcj.1 | exact Nat.ne_of_lt hcj.2.1 | exact Nat.ne_of_gt hcj.2.1 | exact Nat.ne_of_lt hcj.2 | exact Nat.ne_of_gt hcj.2 | exact Nat.ne_of_lt hcj.2.2.1 | exact Nat.ne_of_gt hcj.2.2.1 | exact Nat.ne_of_lt hcj.2.2 | exact Nat.ne_of_gt hcj.2.2 | exact Nat.ne_of_lt hcj.2.2.2.1 | exact Nat.ne_of_gt hcj.2.2.2.1 | exact Nat.ne_of_lt hcj.2.2.2 | exact Nat.ne_of_gt hcj.2.2.2 | exact Nat.ne_of_lt hcj.2.2.2.2.1 | exact Nat.ne_of_gt hcj.2.2.2.2.1 | exact Nat.ne_of_lt hcj.2.2.2.2 | exact Nat.ne_of_gt hcj.2.2.2.2 | exact Nat.ne_of_lt hcj.2.2.2.2.2.1 | exact Nat.ne_of_gt hcj.2.2.2.2.2.1 | exact Nat.ne_of_lt hcj.2.2.2.2.2 | exact Nat.ne_of_gt hcj.2.2.2.2.2 | exact Nat.ne_of_lt hcj.2.2.2.2.2.2.1 | exact Nat.ne_of_gt hcj.2.2.2.2.2.2.1 | exact Nat.ne_of_lt hcj.2.2.2.2.2.2 | exact Nat.ne_of_gt hcj.2.2.2.2.2.2 | exact Nat.ne_of_lt hcj.2.2.2.2.2.2.2.1 | exact Nat.ne_of_gt hcj.2.2.2.2.2.2.2.1 | exact Nat.ne_of_lt hcj.2.2.2.2.2.2.2 | exact Nat.ne_of_gt hcj.2.2.2.2.2.2.2 | exact Nat.ne_of_lt hcj.2.2.2.2.2.2.2.2.1 | exact Nat.ne_of_gt hcj.2.2.2.2.2.2.2.2.1 | exact Nat.ne_of_lt hcj.2.2.2.2.2.2.2.2 | exact Nat.ne_of_gt hcj.2.2.2.2.2.2.2.2 | exact Nat.ne_of_lt hcj.2.2.2.2.2.2.2.2.2.1 | exact Nat.ne_of_gt hcj.2.2.2.2.2.2.2.2.2.1 | exact Nat.ne_of_lt hcj.2.2.2.2.2.2.2.2.2 | exact Nat.ne_of_gt hcj.2.2.2.2.2.2.2.2.2 | exact Nat.ne_of_lt hcj.2.2.2.2.2.2.2.2.2.2.1 | exact Nat.ne_of_gt hcj.2.2.2.2.2.2.2.2.2.2.1 | exact Nat.ne_of_lt hcj.2.2.2.2.2.2.2.2.2.2 | exact Nat.ne_of_gt hcj.2.2.2.2.2.2.2.2.2.2 | clear hcj))); done) | omega))))
      case hP => (intro g hg hs; exact hp.keeps hg)
      intro tl' ta' ln' ep' h' tk' F' N'
      clear hN9
      dsimp only [ForEnd]
      walk_at "hx_steps"
      dsimp only [ForPost]
      refine ForAt.step ?_
      (rename News _ _ _ (_ :: _) => hN9); (rename Fr _ _ _ _ => hF9)
      refine next_read_dead hF9 hN9 (.tail _ (.tail _ (.tail _ (.head _)))) ?_
      intro h' tk' F' N'
      clear hF9 hN9
      dsimp only [ForEnd]
      walk_at "hx_steps"
      (rename News _ _ _ (_ :: _) => hN9); (replace hN9 := news_sub (r := [_, _, _, _]) hN9 (fmc (.tail _ (.tail _ (.tail _ (.tail _ (.tail _ (.head _)))))) (fmc (.head _) (fmc (.tail _ (.head _)) (fmc (.tail _ (.tail _ (.head _))) (fun _ h => nomatch h))))))
      (((first | refine hQ8' _ _ ?_ | refine hold_out ?_); refine' leaveS_ ?hxF ?hxN ?_; (case hxF => k_asm); (case hxN => k_asm); intro kF kN kD; (rename ∀ (v : Value) (mu' : List (Addr × Obj)) (h' : Heap) (tk' : Nat), _ → _ → _ → _ → _ => hxR); refine hxR _ _ _ _ kF kN kD ?_; clear hxR; try dsimp only))
      exact ⟨_, _, _, _, _, rfl, rfl⟩
end
section
/-! the matcher, run over words of dots and a letter -/
noncomputable def driveS : Nat → Sre.M → Option Sre.M
  | 0, _ => none
  | k + 1, m => if (m.runFor Builtin.Re.reTurnSteps).outcome.isSome then some (m.runFor Builtin.Re.reTurnSteps) else driveS k (m.runFor Builtin.Re.reTurnSteps)
noncomputable def code1 : Array Nat := #[14, 4, 0, 1, 1, 6, 1, 16, 46, 1]
noncomputable def code2 : Array Nat := #[14, 9, 4, 1, 2, 16, 10, 16, 13, 0, 7, 7, 16, 13, 16, 10, 15, 18, 5, 16, 10, 15, 13, 11, 16, 13, 5, 5, 0, 16, 10, 1, 15, 2, 0, 1]
noncomputable def wordA (k c : Nat) : Array Nat := (List.replicate k 46 ++ [c + 97]).toArray
noncomputable def failedS (o : Option Sre.M) : Bool := match o with
  | some m => match m.outcome with | some .failed => true | _ => false
  | none => false
noncomputable def matchedS (o : Option Sre.M) : Option (Nat × Nat) := match o with
  | some m => match m.outcome with | some .matched => some (m.start, m.handed) | _ => none
  | none => none
noncomputable def chkW (k c : Nat) : Bool := failedS (driveS 60 (Sre.forSearch code2 (wordA k c) 0 0 (k + 1) false)) && (matchedS (driveS 60 (Sre.forSearch code1 (wordA k c) 0 0 (k + 1) false)) == some (0, 1)) && failedS (driveS 60 (Sre.forSearch code1 (wordA k c) 0 1 (k + 1) false))
theorem chkW_1 (c : Nat) : chkW 1 c = true := by kernel_rfl
theorem chkW_2 (c : Nat) : chkW 2 c = true := by kernel_rfl
theorem chkW_3 (c : Nat) : chkW 3 c = true := by kernel_rfl
theorem chkW_4 (c : Nat) : chkW 4 c = true := by kernel_rfl
theorem chkW_5 (c : Nat) : chkW 5 c = true := by kernel_rfl
theorem chkW_6 (c : Nat) : chkW 6 c = true := by kernel_rfl
theorem chkW_7 (c : Nat) : chkW 7 c = true := by kernel_rfl
theorem chkW_8 (c : Nat) : chkW 8 c = true := by kernel_rfl
theorem chkW_9 (c : Nat) : chkW 9 c = true := by kernel_rfl
theorem chkW_10 (c : Nat) : chkW 10 c = true := by kernel_rfl
theorem chkW_11 (c : Nat) : chkW 11 c = true := by kernel_rfl
theorem chkW_12 (c : Nat) : chkW 12 c = true := by kernel_rfl
theorem chkW_13 (c : Nat) : chkW 13 c = true := by kernel_rfl
theorem chkW_14 (c : Nat) : chkW 14 c = true := by kernel_rfl
theorem chkW_15 (c : Nat) : chkW 15 c = true := by kernel_rfl
theorem chkW_16 (c : Nat) : chkW 16 c = true := by kernel_rfl
theorem chk_word {k : Nat} (h1 : 1 ≤ k) (h16 : k ≤ 16) (c : Nat) : chkW k c = true := by
  match k, h1, h16 with
  | 1, _, _ => exact chkW_1 c
  | 2, _, _ => exact chkW_2 c
  | 3, _, _ => exact chkW_3 c
  | 4, _, _ => exact chkW_4 c
  | 5, _, _ => exact chkW_5 c
  | 6, _, _ => exact chkW_6 c
  | 7, _, _ => exact chkW_7 c
  | 8, _, _ => exact chkW_8 c
  | 9, _, _ => exact chkW_9 c
  | 10, _, _ => exact chkW_10 c
  | 11, _, _ => exact chkW_11 c
  | 12, _, _ => exact chkW_12 c
  | 13, _, _ => exact chkW_13 c
  | 14, _, _ => exact chkW_14 c
  | 15, _, _ => exact chkW_15 c
  | 16, _, _ => exact chkW_16 c
  | n + 17, _, h => exact absurd h (by omega)
section
variable {M : Model} {A : Around} {E : Value → Shared → Prop} {s : Shared}
theorem wp_reDrive {Q : Sre.M → Shared → Prop} : ∀ (k n : Nat) (m m' : Sre.M), driveS k m = some m' → k ≤ n → Q m' s → wpAny M A (Builtin.Re.reDrive n m) Q E s
  | 0, _, _, _, h, _, _ => nomatch h
  | k + 1, 0, _, _, _, hn, _ => absurd hn (Nat.not_succ_le_zero _)
  | k + 1, n + 1, m, m', h, hn, q => by
    unfold driveS at h
    unfold Builtin.Re.reDrive
    cases ho : (m.runFor Builtin.Re.reTurnSteps).outcome.isSome with
    | true =>
      rw [ho, if_pos rfl] at h
      cases h
      simp only [ho, if_true]
      exact wpAny_pure q
    | false =>
      rw [ho, if_neg Bool.false_ne_true] at h
      simp only [ho, Bool.false_eq_true, if_false]
      exact wpAny_bind (wpAny_rule (wp_reDrive k n _ m' h (Nat.le_of_succ_le_succ hn) q))
theorem forIn_quiet {f : Nat → PUnit → Sem (ForInStep PUnit)} (hf : ∀ i (Q : ForInStep PUnit → Shared → Prop) (E : Value → Shared → Prop) (s : Shared), Q (.yield ⟨⟩) s → wpAny M A (f i ⟨⟩) Q E s) {Q : PUnit → Shared → Prop} (q : Q ⟨⟩ s) : ∀ l : List Nat, wpAny M A (forIn l PUnit.unit f) Q E s
  | [] => wpAny_pure q
  | i :: l => by
    rw [List.forIn_cons]
    refine wpAny_bind (hf i _ _ _ ?_)
    exact forIn_quiet hf q l
theorem wp_reRun {Q : Option Sre.M → Shared → Prop} {m m' : Sre.M} (h : driveS 60 m = some m') (q : wpAny M A (match m'.outcome with
    | some .matched => pure (some m')
    | some .failed => pure none
    | some (.stuck why) => unsupported s!"_sre:{why}"
    | none => unsupported "internal:sre:no-outcome" : Sem (Option Sre.M)) Q E s) : wpAny M A (Builtin.Re.reRunToEnd m) Q E s := by
  unfold Builtin.Re.reRunToEnd
  refine wpAny_bind (wp_reDrive 60 _ m m' h (by decide) ?_)
  refine wpAny_bind (forIn_quiet (fun i Q E s q => ?_) q _)
  split
  · exact wpAny_bind (wpAny_rule (wpAny_pure q))
  · exact wpAny_pure q
theorem wp_reFail {Q : Option Sre.M → Shared → Prop} {m : Sre.M} (h : failedS (driveS 60 m) = true) (q : Q none s) : wpAny M A (Builtin.Re.reRunToEnd m) Q E s := by
  unfold failedS at h
  split at h
  · rename_i m' e
    refine wp_reRun e ?_
    split at h
    · rename_i e2; rw [e2]; exact wpAny_pure q
    · cases h
  · cases h
theorem wp_reHit {Q : Option Sre.M → Shared → Prop} {m : Sre.M} {a b : Nat} (h : matchedS (driveS 60 m) = some (a, b)) (q : ∀ m', m'.start = a → m'.handed = b → Q (some m') s) : wpAny M A (Builtin.Re.reRunToEnd m) Q E s := by
  unfold matchedS at h
  split at h
  · rename_i m' e
    refine wp_reRun e ?_
    split at h
    · rename_i e2
      rw [e2]
      obtain ⟨h1, h2⟩ := Prod.mk.inj (Option.some.inj h)
      exact wpAny_pure (q m' h1 h2)
    · cases h
  · cases h
end
end
section
theorem plainAttrs_pat : PySem.PlainAttrs "re.Pattern" :=
  ⟨⟨"object.__getattribute__", by rw [typeLookup_type, builtinLookup_eq_fast]; kernel_rfl, by decide +kernel⟩, by rw [typeLookup_type, builtinLookup_eq_fast]; kernel_rfl⟩
theorem slot_pat_sub : Slot "re.Pattern" "sub" "re.Pattern.sub" :=
  .of (owner := "re.Pattern") (n := "sub") (by rw [typeLookup_type, builtinLookup_eq_fast]; kernel_rfl) (by decide +kernel) (by decide +kernel) (by decide +kernel)
    (by first | exact .inl (by decide +kernel) | exact .inr (by decide +kernel)) (by rw [isSubtype_type]; kernel_rfl)
theorem type_pat_sub : typeOf (.builtin "re.Pattern.sub") = pure (.type "method_descriptor") := by show builtinType _ = _; rw [builtinType_eq_fast]; kernel_rfl
theorem entry_pat_sub : entryFor table "re.Pattern.sub" = some Builtin.«re.Pattern.sub» := entryFor_of_tree (by kernel_rfl)
theorem entry_pat_subloop : entryFor table "re.Pattern.sub.loop" = some Builtin.«re.Pattern.sub.loop» := entryFor_of_tree (by kernel_rfl)
theorem args_pat_sub (a b c : Value) : argsOk "re.Pattern.sub" ⟨[a, b, c], []⟩ := by unfold argsOk; kernel_rfl
theorem str_no_call : typeLookup (.type "str") (Str.ofString "__call__") = pure none := by rw [typeLookup_type, builtinLookup_eq_fast]; kernel_rfl
noncomputable abbrev patObj (s1 : Value) (fl cl : Value) : Obj := { cls := .type "re.Pattern", data := .fields #[s1, fl, .int 0 0, .none, .none, cl, .int 0 0] }
noncomputable abbrev tupO (vs : Array Value) : Obj := { cls := .type "tuple", data := .seq vs 0 }
noncomputable def codeIs (vs : Array Value) (code : Array Nat) : Prop := (vs.map Builtin.Re.reRawOf).map (·.toNat) = code
section
variable {prog : Program} {w : World} {A : Around} {E : Value → Shared → Prop} {s : Shared} {p cl : Addr} {s1 fl : Value} {vs : Array Value} {code : Array Nat} {x : Str} {tx : Tok}
theorem getMethod_pat {pl : Sem Bool} {Q : Value × List Value → Shared → Prop} (hp : s.heap.get? p = some (patObj s1 fl (.ref cl))) (h : Q (.builtin "re.Pattern.sub", [.ref p]) s) : wpAny (model prog w) A (getMethod (.ref p) (Str.ofString "sub") pl) Q E s :=
  getMethod_builtin (T := "re.Pattern") ⟨_, hp, rfl⟩ plainAttrs_pat slot_pat_sub type_pat_sub (fun a e => by cases e; exact ⟨_, hp, rfl⟩) h
theorem looks_target {M : Model} {h : Heap} (hp : h.get? p = some (patObj s1 fl (.ref cl))) (hc : h.get? cl = some (tupO vs)) (hcode : codeIs vs code) :
    Looks M h (Builtin.Re.reWholeTarget (.ref p) (.str x tx)) ⟨.ref p, .str x tx, code, x.cps, 0, 0, 0, x.cps.size⟩ := by
  subst hcode
  intro A Q E s k q
  obtain ⟨hh, g, dr, t, os⟩ := s
  have hp' := k _ _ hp
  have hc' := k _ _ hc
  dsimp only at hp' hc' q
  unfold Builtin.Re.reWholeTarget Builtin.Re.reTextOf
  repeat lk
  exact q
theorem named3 (r y : Value) : Builtin.Re.reNamed "re.Pattern.sub" "sub" ["repl", "string", "count"] 2 [r, y] [] = pure [some r, some y, none] := by kernel_rfl
noncomputable abbrev loopArgs (p : Addr) (x r : Value) (n done start : Nat) (must : Bool) (l : Addr) : Args := ⟨[.ref p, x, r, rawInt 0, rawInt 0, rawInt n, rawInt done, rawInt start, .bool must, .ref l, .bool false], []⟩
theorem sub_enter {r : Str} {tr : Tok} {R : Result → Shared → Prop} (hp : s.heap.get? p = some (patObj s1 fl (.ref cl))) (hc : s.heap.get? cl = some (tupO vs)) (hcode : codeIs vs code) (hr : r.cps.contains 92 = false)
    (h : codeAny (model prog w) A (.builtin "re.Pattern.sub.loop" (loopArgs p (.str x tx) (.str r tr) 0 0 0 false s.heap.objs.size)) R { s with heap := s.heap.push (W.listOf #[] 0) }) :
    codeAny (model prog w) A (.call (.builtin "re.Pattern.sub") ⟨[.ref p, .str r tr, .str x tx], []⟩) R s := by
  have hT : s.TypeIs (.ref p) "re.Pattern" := ⟨_, hp, rfl⟩
  refine codeAny_call_builtin slot_pat_sub.plain entry_pat_sub (slot_pat_sub.check _ _ _ _ _ _ _ _ hT (args_pat_sub _ _ _) ?_)
  obtain ⟨hh, g, dr, t, os⟩ := s
  dsimp only at hp hc h
  have tg : Looks (model prog w) hh (Builtin.Re.reWholeTarget (.ref p) (.str x tx)) ⟨.ref p, .str x tx, code, x.cps, 0, 0, 0, x.cps.size⟩ := looks_target hp hc hcode
  have ns : Looks (model prog w) hh (specialOf (.str r tr) "__call__") none := (Looks.of_pure (r := Value.type "str") rfl).andThen (Looks.of_pure str_no_call)
  show wpAny _ _ (Builtin.Re.reNamed "re.Pattern.sub" "sub" ["repl", "string", "count"] 2 [.str r tr, .str x tx] [] >>= _) _ _ _
  rw [named3]
  refine wpAny_bind (wpAny_pure (wpAny_bind (wpAny_pure ?_)))
  dsimp only
  refine wpAny_bind (ns.at ?_)
  simp only [Option.isSome_none, Bool.false_eq_true, if_false]
  refine wpAny_bind (wpAny_pure ?_)
  dsimp only
  refine wpAny_bind (wpAny_pure ?_)
  simp only [hr, Bool.not_false, if_true]
  refine wpAny_bind (wpAny_pure ?_)
  dsimp only
  refine wpAny_bind (wpAny_holding (tg.at ?_))
  rw [if_neg (by decide)]
  refine wpAny_bind (wpAny_newObj_type (wpAny_pure ⟨Code.quiet_builtin _ (by decide +kernel), ?_⟩) (by size_fits))
  exact h
end
section
variable {prog : Program} {w : World} {A : Around} {s : Shared} {p cl l L : Addr} {s1 fl : Value} {vs : Array Value} {code : Array Nat} {x r : Str} {tx tr : Tok} {h₀ : Heap} {m : Str → Option Value} {news : List (Addr × Obj)} {R : Result → Shared → Prop} {ps : List (Str × Tok)} {e n done start : Nat} {must : Bool}
theorem lit_str (r : Str) (tr : Tok) : Builtin.Re.reLiteralCannotBeTurned (.str r tr) = pure () := by kernel_rfl
theorem loop_end (F : Fr h₀ L s.heap m) (N : News h₀ L s.heap ((l, W.listOf (strValues ps).toArray e) :: news)) (hne : ∀ q ∈ news, q.1 ≠ l) (hp : h₀.get? p = some (patObj s1 fl (.ref cl))) (hc : h₀.get? cl = some (tupO vs)) (hcode : codeIs vs code)
    (hd : done < x.cps.size) (hx : x.length ≤ 64) (hps : ps.length ≤ 4) (hfail : failedS (driveS 60 (Sre.forSearch code x.cps 0 start x.cps.size must)) = true) (hok : JoinOk Str.empty (ps.map (·.1) ++ [⟨x.cps.extract done x.cps.size⟩]) = true)
    (h : ∀ t' h' tk', Fr h₀ L h' m → News h₀ L h' news → R (.ok (.ret (.str (Txt.join Str.empty (ps.map (·.1) ++ [⟨x.cps.extract done x.cps.size⟩])) t'))) { s with heap := h', toks := tk' }) :
    codeAny (model prog w) A (.builtin "re.Pattern.sub.loop" (loopArgs p (.str x tx) (.str r tr) n done start must l)) R s := by
  refine codeAny_builtin entry_pat_subloop ?_
  obtain ⟨hh, g, dr, t, os⟩ := s
  have hp' := F.keep _ _ hp
  have hc' := F.keep _ _ hc
  have hl := (N _ (.head _)).1
  dsimp only at hp' hc' hl h
  have tg : Looks (model prog w) hh (Builtin.Re.reWholeTarget (.ref p) (.str x tx)) ⟨.ref p, .str x tx, code, x.cps, 0, 0, 0, x.cps.size⟩ := looks_target hp' hc' hcode
  show wpAny _ _ (Builtin.Re.reWholeTarget (.ref p) (.str x tx) >>= _) _ _ _
  refine wpAny_bind (tg.at ?_)
  try dsimp only
  rw [if_pos (by decide)]
  refine wpAny_bind (wpAny_of_eq (lit_str r tr) ?_)
  try dsimp only
  rw [if_neg (by simp)]
  refine wpAny_bind ?_
  show wpAny _ _ (Builtin.Re.reRunToEnd (Sre.forSearch code x.cps 0 ((start : Int)).toNat x.cps.size must)) _ _ _
  rw [Int.toNat_natCast]
  refine wp_reFail hfail ?_
  try dsimp only
  rw [Int.toNat_natCast, if_pos hd]
  have hlen : (⟨x.cps.extract done x.cps.size⟩ : Str).length ≤ 64 := Nat.le_trans (by show (x.cps.extract done x.cps.size).size ≤ x.cps.size; simp) hx
  refine wpAny_bind (wpAny_mkStr ?_ (by rw [sizeLine_eq]; omega))
  obtain ⟨F3, N3⟩ := news_upd (pre := []) (f := Obj.mapSeq fun z => z.push (.str ⟨x.cps.extract done x.cps.size⟩ t)) (o' := W.listOf (strValues (ps ++ [(⟨x.cps.extract done x.cps.size⟩, t)])).toArray (e + 1)) F N (fun _ h => nomatch h) hne (by simp [Obj.mapSeq, strValues, W.listOf]) rfl
  have hl3 := (N3 _ (.head _)).1
  refine wpAny_bind (wpAny_updateSeq hl rfl ?_ (by rw [sizeLine_eq]; simp [strValues]; omega) (by rw [sizeLine_eq]; simp [strValues]; omega))
  try dsimp only
  refine wpAny_bind (wpAny_mkStr ?_ (by rw [sizeLine_eq]; show (x.cps.extract 0 0).size ≤ _; simp))
  refine wpAny_bind (wpAny_seqItems hl3 rfl ?_)
  rw [if_neg (by simp [strValues])]
  try dsimp only
  have e0 : (⟨x.cps.extract 0 0⟩ : Str) = Str.empty := by
    show (⟨x.cps.extract 0 0⟩ : Str) = ⟨#[]⟩
    congr 1
    simp
  rw [e0]
  refine wpAny_bind ?_
  show wpAny _ _ (call (.builtin "str.join") [.str Str.empty (t + 1), .ref l]) _ _ _
  refine SC.join (l := ps ++ [(⟨x.cps.extract done x.cps.size⟩, t)]) ⟨_, hl3, rfl, _, rfl⟩ (by rw [List.map_append]; rfl) hok fun t' k => ?_
  try dsimp only
  rw [if_neg Bool.false_ne_true]
  exact wpAny_pure (h _ _ _ F3 (news_tail N3))
theorem loop_hit (F : Fr h₀ L s.heap m) (N : News h₀ L s.heap ((l, W.listOf #[] 0) :: news)) (hne : ∀ q ∈ news, q.1 ≠ l) (hp : h₀.get? p = some (patObj s1 fl (.ref cl))) (hc : h₀.get? cl = some (tupO vs)) (hcode : codeIs vs code)
    (hhit : matchedS (driveS 60 (Sre.forSearch code x.cps 0 0 x.cps.size false)) = some (0, 1))
    (h : ∀ h', Fr h₀ L h' m → News h₀ L h' ((l, W.listOf (strValues [(r, tr)]).toArray 1) :: news) → codeAny (model prog w) A (.builtin "re.Pattern.sub.loop" (loopArgs p (.str x tx) (.str r tr) 1 1 1 false l)) R { s with heap := h' }) :
    codeAny (model prog w) A (.builtin "re.Pattern.sub.loop" (loopArgs p (.str x tx) (.str r tr) 0 0 0 false l)) R s := by
  refine codeAny_builtin entry_pat_subloop ?_
  obtain ⟨hh, g, dr, t, os⟩ := s
  have hp' := F.keep _ _ hp
  have hc' := F.keep _ _ hc
  have hl := (N _ (.head _)).1
  dsimp only at hp' hc' hl h
  have tg : Looks (model prog w) hh (Builtin.Re.reWholeTarget (.ref p) (.str x tx)) ⟨.ref p, .str x tx, code, x.cps, 0, 0, 0, x.cps.size⟩ := looks_target hp' hc' hcode
  show wpAny _ _ (Builtin.Re.reWholeTarget (.ref p) (.str x tx) >>= _) _ _ _
  refine wpAny_bind (tg.at ?_)
  try dsimp only
  rw [if_pos (by decide)]
  refine wpAny_bind (wpAny_of_eq (lit_str r tr) ?_)
  try dsimp only
  rw [if_neg (by simp)]
  refine wpAny_bind ?_
  show wpAny _ _ (Builtin.Re.reRunToEnd (Sre.forSearch code x.cps 0 0 x.cps.size false)) _ _ _
  refine wp_reHit hhit fun m' hs hh' => ?_
  try dsimp only
  rw [hs, hh', if_neg (by decide), if_pos (by decide)]
  refine wpAny_bind (wpAny_pure ?_)
  try dsimp only
  rw [if_pos (by rfl)]
  obtain ⟨F3, N3⟩ := news_upd (pre := []) (f := Obj.mapSeq fun z => z.push (.str r tr)) (o' := W.listOf (strValues [(r, tr)]).toArray 1) F N (fun _ h => nomatch h) hne (by simp [Obj.mapSeq, strValues, W.listOf]) rfl
  refine wpAny_bind (wpAny_updateSeq hl rfl ?_ (by rw [sizeLine_eq]; decide) (by rw [sizeLine_eq]; simp))
  refine wpAny_pure (a := Fin.again _) ⟨Code.quiet_builtin _ (by decide +kernel), ?_⟩
  exact h _ F3 N3
theorem sub_none {Q E : Value → Shared → Prop} {A : Around} (F : Fr h₀ L s.heap m) (N : News h₀ L s.heap news) (hp : h₀.get? p = some (patObj s1 fl (.ref cl))) (hc : h₀.get? cl = some (tupO vs)) (hcode : codeIs vs code) (hr : r.cps.contains 92 = false)
    (hd : 0 < x.cps.size) (hx : x.length ≤ 64) (hfail : failedS (driveS 60 (Sre.forSearch code x.cps 0 0 x.cps.size false)) = true)
    (h : ∀ t' h' tk', Fr h₀ L h' m → News h₀ L h' news → Q (.str x t') { s with heap := h', toks := tk' }) : wpAny (model prog w) A (call (.builtin "re.Pattern.sub") [.ref p, .str r tr, .str x tx]) Q E s := by
  refine wpAny_call (sub_enter (F.keep _ _ hp) (F.keep _ _ hc) hcode hr ?_)
  have ex : Txt.join Str.empty (([] : List (Str × Tok)).map (·.1) ++ [⟨x.cps.extract 0 x.cps.size⟩]) = x := by
    show (⟨x.cps.extract 0 x.cps.size⟩ : Str) = x
    rw [Array.extract_size]
  refine loop_end (ps := []) (F.push _) (N.push F _) (fun q hq => Nat.ne_of_lt (Heap.lt_size (N q hq).1)) hp hc hcode hd hx (by decide) hfail ?_ fun t' h' tk' F' N' => ?_
  · refine joinOk_of_weight ?_ (by decide)
    have : (⟨x.cps.extract 0 x.cps.size⟩ : Str).length ≤ 64 := Nat.le_trans (by show (x.cps.extract 0 x.cps.size).size ≤ x.cps.size; simp) hx
    simp only [List.map_nil, List.nil_append, List.map_cons, List.sum_cons, List.sum_nil, List.length_cons, List.length_nil]
    omega
  · rw [ex]; exact h t' h' tk' F' N'
theorem sub_hit {Q E : Value → Shared → Prop} {A : Around} (F : Fr h₀ L s.heap m) (N : News h₀ L s.heap news) (hp : h₀.get? p = some (patObj s1 fl (.ref cl))) (hc : h₀.get? cl = some (tupO vs)) (hcode : codeIs vs code) (hr : r.cps.contains 92 = false) (hrl : r.length ≤ 8)
    (hd : 1 < x.cps.size) (hx : x.length ≤ 64) (hhit : matchedS (driveS 60 (Sre.forSearch code x.cps 0 0 x.cps.size false)) = some (0, 1)) (hfail : failedS (driveS 60 (Sre.forSearch code x.cps 0 1 x.cps.size false)) = true)
    (h : ∀ t' h' tk', Fr h₀ L h' m → News h₀ L h' news → Q (.str (r ++ ⟨x.cps.extract 1 x.cps.size⟩) t') { s with heap := h', toks := tk' }) : wpAny (model prog w) A (call (.builtin "re.Pattern.sub") [.ref p, .str r tr, .str x tx]) Q E s := by
  refine wpAny_call (sub_enter (F.keep _ _ hp) (F.keep _ _ hc) hcode hr ?_)
  have hne : ∀ q ∈ news, q.1 ≠ s.heap.objs.size := fun q hq => Nat.ne_of_lt (Heap.lt_size (N q hq).1)
  refine loop_hit (F.push _) (N.push F _) hne hp hc hcode hhit fun h' F' N' => ?_
  have ex : Txt.join Str.empty (([(r, tr)] : List (Str × Tok)).map (·.1) ++ [⟨x.cps.extract 1 x.cps.size⟩]) = r ++ ⟨x.cps.extract 1 x.cps.size⟩ := by
    show Str.join Str.empty [r, _] = _
    simp only [Str.join]
    rw [Str.append_empty]
  refine loop_end (ps := [(r, tr)]) F' N' hne hp hc hcode hd hx (by simp) hfail ?_ fun t' h' tk' F' N' => ?_
  · refine joinOk_of_weight ?_ (by decide)
    have : (⟨x.cps.extract 1 x.cps.size⟩ : Str).length ≤ 64 := Nat.le_trans (by show (x.cps.extract 1 x.cps.size).size ≤ x.cps.size; simp) hx
    simp only [List.map_nil, List.nil_append, List.map_cons, List.cons_append, List.sum_cons, List.sum_nil, List.length_cons, List.length_nil]
    omega
  · rw [ex]; exact h t' h' tk' F' N'
end
end
section
theorem off_A62_quote : True := by (w_top off); first | walk1 | trivial
noncomputable def wordS (k c : Nat) : Str := ⟨wordA k c⟩
theorem wordS_size (k c : Nat) : (wordS k c).cps.size = k + 1 := by simp [wordS, wordA]
theorem wordS_len (k c : Nat) : (wordS k c).length = k + 1 := wordS_size k c
theorem wordS_quote {k c : Nat} (hk : 1 ≤ k) : Str.ofString ".." ++ ⟨(wordS k c).cps.extract 1 (wordS k c).cps.size⟩ = wordS (k + 1) c := by
  obtain ⟨j, rfl⟩ : ∃ j, k = j + 1 := ⟨k - 1, by omega⟩
  have e : Str.ofString ".." = ⟨#[46, 46]⟩ := by decide +kernel
  rw [e]
  show (⟨#[46, 46] ++ (wordS (j + 1) c).cps.extract 1 (wordS (j + 1) c).cps.size⟩ : Str) = wordS (j + 1 + 1) c
  unfold wordS wordA
  congr 1
  apply Array.ext'
  simp [List.replicate_succ]
  exact List.take_of_length_le (by simp)
local macro_rules | `(tactic| walk_at "getMethod ref") => `(tactic| ((with_reducible show wpAny _ _ (getMethod _ (Str.ofString "sub") _) _ _ _); refine hold_in ?_))
local macro_rules | `(tactic| walk_at "call builtin:re.Pattern.sub") => `(tactic| refine hold_in ?_)
set_option maxHeartbeats 8000000 in
theorem does_quote {w : World} {p : Program} {loose : List Str} {mean : ExcName → Option Value} {mg mb : Str → Option Value} {k c : Nat} {tx : Tok} (hk1 : 1 ≤ k) (hk16 : k ≤ 16) :
    Does w p loose mean mg mb 6 80 NoPre (.ref 118) [.str (wordS k c) tx] [] (fun v mu' => (∃ t, v = .str (wordS (k + 1) c) t) ∧ mu' = []) := by
  intro dp un gd cn cs a ccd cl outer A₀ base h₀ L m s Q E still hB hF hX hN hap hT hk hP hdp hun hret
  ((have hfill := hd_kept; (have : hd_kept = hd_kept := by (revert hfill; k_fill; intro _; rfl)); clear this hfill))
  ((refine wpAny_call ?_; k_dflt (refine' enter_topQ ?k1 ?k2 ?k3 ?k4 ?k4a ?k5 ?kA ?kF ?kK ?k6 ?k7 ?k8 ?k9 ?kB ?_ ?c2 ?c3 ?c4 ?c5; (case kA => exact rfl); (case kF => exact rfl); (case kK => first | exact rfl | assumption); (case k1 => k_asm); (case k2 => k_asm); (case k3 => k_asm); (case k4 => k_asm); (case k4a => k_asm); (case k5 => k_asm); (case k6 => k_is); (case k7 => k_is); (case k8 => ktr_room); (case k9 => exact BindsTo.of_eq (by rfl)); (case c5 => decide); (case kB => exact locs rfl); (case c2 => exact rfl); (case c3 => exact rfl); (case c4 => exact rfl); k_whole; intro g8' L8' h8' tk8' FG8' F8' N8' B8' X8' T8' st8' stl8' l8' Q8' E8' hQ8'; (dsimp only [List.map, List.zip, List.zipWith, List.reverse, List.reverseAux, withB] at F8'); (try dsimp only); (try k_lift B8'); (try k_fold))))
  have hX9 := (by assumption : Frag.In (hd.heap_39 w.params) _)
  obtain ⟨s1, f1, hp1⟩ : ∃ s1 fl, Heap.get? _ 106 = some (patObj s1 fl (.ref 105)) := ⟨_, _, hX9 _ _ (by k_is)⟩
  obtain ⟨v1, hc1, hd1⟩ : ∃ vs, Heap.get? _ 105 = some (tupO vs) ∧ codeIs vs code1 := ⟨_, hX9 _ _ (by k_is), by unfold codeIs; decide +kernel⟩
  obtain ⟨s2, f2, hp2⟩ : ∃ s1 fl, Heap.get? _ 111 = some (patObj s1 fl (.ref 110)) := ⟨_, _, hX9 _ _ (by k_is)⟩
  obtain ⟨v2, hc2, hd2⟩ : ∃ vs, Heap.get? _ 110 = some (tupO vs) ∧ codeIs vs code2 := ⟨_, hX9 _ _ (by k_is), by unfold codeIs; decide +kernel⟩
  clear hX9
  have hw := chk_word hk1 hk16 c
  unfold chkW at hw
  simp only [Bool.and_eq_true, beq_iff_eq] at hw
  obtain ⟨⟨w1, w2⟩, w3⟩ := hw
  walk_at "hx_steps"
  refine hold_out ?_
  refine getMethod_pat (Fr.keep (by k_asm) _ _ hp1) ?_
  walk_at "hx_steps"
  refine hold_out ?_
  refine getMethod_pat (Fr.keep (by k_asm) _ _ hp2) ?_
  walk_at "hx_steps"
  refine hold_out ?_
  (rename News _ _ _ _ => hN9); (rename Fr _ _ _ _ => hF9)
  refine sub_none hF9 hN9 hp2 hc2 hd2 (by decide +kernel) (by rw [wordS_size]; omega) (by rw [wordS_len]; omega) (by rw [wordS_size]; exact w1) ?_
  intro t' h' tk' F' N'
  clear hF9 hN9
  try dsimp only
  walk_at "hx_steps"
  refine hold_out ?_
  (rename News _ _ _ _ => hN9); (rename Fr _ _ _ _ => hF9)
  refine sub_hit hF9 hN9 hp1 hc1 hd1 (by decide +kernel) (by decide +kernel) (by rw [wordS_size]; omega) (by rw [wordS_len]; omega) (by rw [wordS_size]; exact w2) (by rw [wordS_size]; exact w3) ?_
  intro t' h' tk' F' N'
  clear hF9 hN9
  rw [wordS_quote hk1]
  try dsimp only
  walk_at "hx_steps"
  (((first | refine hQ8' _ _ ?_ | refine hold_out ?_); refine' leaveS_ ?hxF ?hxN ?_; (case hxF => k_asm); (case hxN => k_asm); intro kF kN kD; (rename ∀ (v : Value) (mu' : List (Addr × Obj)) (h' : Heap) (tk' : Nat), _ → _ → _ → _ → _ => hxR); refine hxR _ _ _ _ kF kN kD ?_; clear hxR; try dsimp only))
  exact ⟨⟨_, rfl⟩, rfl⟩
end
section
noncomputable def SizeOk (N : Nat) : Prop := N = 3 ∨ N = 4
theorem SizeOk.le {N : Nat} (h : SizeOk N) : N ≤ 4 := by unfold SizeOk at h; omega
theorem SizeOk.ge {N : Nat} (h : SizeOk N) : 3 ≤ N := by unfold SizeOk at h; omega
/-- a cell's own colour, told by its number -/
noncomputable def ownC (N : Nat) (bs : List Int) (red : Bool) (c : Nat) : Bool := isRed N bs ((c % N : Nat) : Int) ((c / N : Nat) : Int) == red
noncomputable def startF (N : Nat) (bs : List Int) (red : Bool) (i : Nat) : List Nat := ((List.range i).map fun k => if red then N * k else k).filter (ownC N bs red)
theorem startF_succ (N : Nat) (bs : List Int) (red : Bool) (i : Nat) : startF N bs red (i + 1) = startF N bs red i ++ (if ownC N bs red (if red then N * i else i) = true then [if red then N * i else i] else []) := by
  unfold startF
  rw [List.range_succ, List.map_append, List.filter_append]
  simp only [List.map_cons, List.map_nil, List.filter_cons, List.filter_nil]
/-- the tuples that stand for cells -/
inductive SpotsAre (N : Nat) : List (Addr × Obj) → List Nat → Prop
  | nil : SpotsAre N [] []
  | cons (a : Addr) (c : Nat) (x y : Int) (t u : Tok) {T : List (Addr × Obj)} {cs : List Nat} : x = ((c % N : Nat) : Int) → y = ((c / N : Nat) : Int) → SpotsAre N T cs → SpotsAre N ((a, tupI x y t u) :: T) (c :: cs)
theorem SpotsAre.snoc {N : Nat} {T : List (Addr × Obj)} {cs : List Nat} (h : SpotsAre N T cs) (a : Addr) (c : Nat) (x y : Int) (t u : Tok) (hx : x = ((c % N : Nat) : Int)) (hy : y = ((c / N : Nat) : Int)) : SpotsAre N (T ++ [(a, tupI x y t u)]) (cs ++ [c]) := by
  induction h with
  | nil => exact .cons a c x y t u hx hy .nil
  | cons a' c' x' y' t' u' hx' hy' _ ih => exact .cons a' c' x' y' t' u' hx' hy' ih
theorem SpotsAre.length {N : Nat} {T : List (Addr × Obj)} {cs : List Nat} (h : SpotsAre N T cs) : T.length = cs.length := by
  induction h with
  | nil => rfl
  | cons _ _ _ _ _ _ _ _ _ ih => rw [List.length_cons, List.length_cons, ih]
theorem SpotsAre.cls {N : Nat} {T : List (Addr × Obj)} {cs : List Nat} (h : SpotsAre N T cs) : ∀ p ∈ T, p.2.cls = .type "tuple" := by
  induction h with
  | nil => exact fun _ h => nomatch h
  | cons a c x y t u _ _ _ ih =>
    intro p hp
    rcases List.mem_cons.mp hp with rfl | hp
    · rfl
    · exact ih p hp
theorem SpotsAre.at {N : Nat} {T : List (Addr × Obj)} {cs : List Nat} (h : SpotsAre N T cs) : ∀ {i : Nat} {c : Nat}, cs[i]? = some c → ∃ a x y t u, T[i]? = some (a, tupI x y t u) ∧ x = ((c % N : Nat) : Int) ∧ y = ((c / N : Nat) : Int) := by
  induction h with
  | nil => intro i c e; simp at e
  | cons a c' x y t u hx hy _ ih =>
    intro i c e
    cases i with
    | zero => simp at e; subst e; exact ⟨a, x, y, t, u, rfl, hx, hy⟩
    | succ j => exact ih (by simpa using e)
noncomputable def refsOf (T : List (Addr × Obj)) : List Value := T.map fun p => .ref p.1
theorem refsOf_snoc (T : List (Addr × Obj)) (q : Addr × Obj) : refsOf (T ++ [q]) = refsOf T ++ [.ref q.1] := by simp [refsOf]
theorem refsOf_length (T : List (Addr × Obj)) : (refsOf T).length = T.length := by simp [refsOf]
/-- entries of other classes lie apart from a list -/
theorem apart_cls {h₀ h : Heap} {L D : Addr} {o : Obj} {news : List (Addr × Obj)} (N : News h₀ L h ((D, o) :: news)) {T : List (Addr × Obj)} (hT : ∀ p ∈ T, p ∈ news) (hc : ∀ p ∈ T, p.2.cls ≠ o.cls) : ∀ p ∈ T, p.1 ≠ D := fun p hp e => by
  have h1 := (N p (.tail _ (hT p hp))).1
  have h2 := (N (D, o) (.head _)).1
  rw [e] at h1
  exact hc p hp (congrArg Obj.cls (Option.some.inj (h1.symm.trans h2)))
section
variable {prog : Program} {w : World} {A : Around} {E : Value → Shared → Prop} {s : Shared} {h₀ : Heap} {L D : Addr} {m : Str → Option Value} {news : List (Addr × Obj)} {its : List Value} {n : Nat} {v : Value}
theorem append_head {Q : Value → Shared → Prop} (F : Fr h₀ L s.heap m) (N : News h₀ L s.heap ((D, W.listOf its.toArray n) :: news)) (hne : ∀ p ∈ news, p.1 ≠ D) (hl : its.length ≤ 1000)
    (h : ∀ h', Fr h₀ L h' m → News h₀ L h' ((D, W.listOf (its ++ [v]).toArray (n + 1)) :: news) → Q .none { s with heap := h' }) : wpAny (model prog w) A (call (.builtin "list.append") [.ref D, v]) Q E s :=
  append_K F N (.head hne) (fun h' F' N' => h h' F' (by rw [← List.push_toArray]; exact N')) (by rw [List.size_toArray, sizeLine_eq]; omega)
end
theorem ne_tail {h₀ h : Heap} {L D : Addr} {o : Obj} {news T : List (Addr × Obj)} (N : News h₀ L h ((D, o) :: news)) (hT : ∀ p ∈ T, p ∈ news) (hc : ∀ p ∈ T, p.2.cls = .type "tuple") (ho : o.cls ≠ .type "tuple") : ∀ p ∈ T, p.1 ≠ D :=
  apart_cls N hT fun p hp e => ho (e ▸ hc p hp)
theorem snoc_all {α : Type} {P : α → Prop} {T : List α} {q : α} (h1 : ∀ p ∈ T, P p) (h2 : P q) : ∀ p ∈ T ++ [q], P p := fun p hp => by
  rcases List.mem_append.mp hp with hp | hp
  · exact h1 p hp
  · rw [List.mem_singleton.mp hp]; exact h2
theorem SizeOk.pos {N : Nat} (h : SizeOk N) : 0 < N := by have := h.ge; omega
theorem own_red {N i : Nat} {bs : List Int} (h : SizeOk N) : ownC N bs true (N * i) = (isRed N bs 0 (0 + (i : Int)) == true) := by
  unfold ownC
  rw [Nat.mul_mod_right, Nat.mul_div_cancel_left _ h.pos, Int.zero_add]
  rfl
theorem own_blue {N i : Nat} {bs : List Int} (hi : i < N) : ownC N bs false i = (isRed N bs (0 + (i : Int)) 0 == false) := by
  unfold ownC
  rw [Nat.mod_eq_of_lt hi, Nat.div_eq_of_lt hi, Int.zero_add]
  rfl
theorem start_redT {N i : Nat} {bs : List Int} (h : SizeOk N) (ho : (isRed N bs 0 (0 + (i : Int)) == true) = true) : startF N bs true (i + 1) = startF N bs true i ++ [N * i] := by
  rw [startF_succ]
  simp only [if_true]
  rw [own_red h, ho, if_pos rfl]
theorem start_redF {N i : Nat} {bs : List Int} (h : SizeOk N) (ho : ¬ (isRed N bs 0 (0 + (i : Int)) == true) = true) : startF N bs true (i + 1) = startF N bs true i := by
  rw [startF_succ]
  simp only [if_true]
  rw [own_red h, if_neg ho, List.append_nil]
theorem start_blueT {N i : Nat} {bs : List Int} (hi : i < N) (ho : (isRed N bs (0 + (i : Int)) 0 == false) = true) : startF N bs false (i + 1) = startF N bs false i ++ [i] := by
  rw [startF_succ]
  simp only [Bool.false_eq_true, if_false]
  rw [own_blue hi, ho, if_pos rfl]
theorem start_blueF {N i : Nat} {bs : List Int} (hi : i < N) (ho : ¬ (isRed N bs (0 + (i : Int)) 0 == false) = true) : startF N bs false (i + 1) = startF N bs false i := by
  rw [startF_succ]
  simp only [Bool.false_eq_true, if_false]
  rw [own_blue hi, if_neg ho, List.append_nil]
theorem startF_length {N : Nat} {bs : List Int} {red : Bool} {i : Nat} : (startF N bs red i).length ≤ i := by
  unfold startF
  exact Nat.le_trans (List.length_filter_le _ _) (by simp)
theorem apart_mem {h₀ h : Heap} {L D : Addr} {o : Obj} {all T : List (Addr × Obj)} (N : News h₀ L h all) (hD : (D, o) ∈ all) (hT : ∀ p ∈ T, p ∈ all) (hc : ∀ p ∈ T, p.2.cls = .type "tuple") (ho : o.cls ≠ .type "tuple") : ∀ p ∈ T, p.1 ≠ D := fun p hp e => by
  have h1 := (N p (hT p hp)).1
  have h2 := (N (D, o) hD).1
  rw [e] at h1
  exact ho ((congrArg Obj.cls (Option.some.inj (h1.symm.trans h2))).symm.trans (hc p hp))
theorem list_ne_tup (a : Array Value) (n : Nat) : (W.listOf a n).cls ≠ .type "tuple" := by show Value.type "list" ≠ Value.type "tuple"; simp
theorem rit_ne_tup (x y : Int) : (itR x y).cls ≠ .type "tuple" := by show Value.type "range_iterator" ≠ Value.type "tuple"; simp
inductive Fl1Inv (N : Nat) (bs : List Int) (red : Bool) (aS lb lw : Addr) (rest : List (Addr × Obj)) (i : Nat) (m : Str → Option Value) (news : List (Addr × Obj)) : Prop
  | mk (T : List (Addr × Obj)) (e : Nat) (qb0 : (∀ p ∈ ([(Str.ofString "seen", .ref aS), (Str.ofString "bits", .ref lb), (Str.ofString "ways", .ref lw), (Str.ofString "is_red", .bool red)] : List (Str × Value)), m p.1 = some p.2)) (qb1 : news = (aS, W.listOf (refsOf T).toArray e) :: (rest ++ T)) (qb2 : SpotsAre N T (startF N bs red i)) : Fl1Inv N bs red aS lb lw rest i m news
theorem fl1_step {N : Nat} {bs : List Int} {red : Bool} {aS lb lw a : Addr} {rest T : List (Addr × Obj)} {i e c : Nat} {m : Str → Option Value} {x y : Int} {t u : Tok}
    (hm : ∀ p ∈ ([(Str.ofString "seen", .ref aS), (Str.ofString "bits", .ref lb), (Str.ofString "ways", .ref lw), (Str.ofString "is_red", .bool red)] : List (Str × Value)), m p.1 = some p.2)
    (hS : SpotsAre N T (startF N bs red i)) (h : startF N bs red (i + 1) = startF N bs red i ++ [c]) (hx : x = ((c % N : Nat) : Int)) (hy : y = ((c / N : Nat) : Int)) :
    Fl1Inv N bs red aS lb lw rest (i + 1) m ((aS, W.listOf (refsOf T ++ [Value.ref a]).toArray (e + 1)) :: (rest ++ (T ++ [(a, tupI x y t u)]))) :=
  ⟨T ++ [(a, tupI x y t u)], e + 1, hm, by rw [refsOf_snoc], by rw [h]; exact hS.snoc _ _ _ _ _ _ hx hy⟩
noncomputable def letterS (c : Nat) : Str := ⟨#[c + 97]⟩
theorem word1 (c : Nat) : Str.ofString "." ++ letterS c = wordS 1 c := by
  have e : Str.ofString "." = ⟨#[46]⟩ := by decide +kernel
  rw [e]; rfl
theorem mulN {N : Nat} {b : Int} (h : SizeOk N) : IntMulOk (N : Int) b := IntMulOk.of_left (intBits_le_iff.mpr (by have := h.le; rw [Int.natAbs_natCast]; exact Nat.lt_of_le_of_lt this (by decide)))
theorem code_eq {N c : Nat} {x y : Int} (hx : x = ((c % N : Nat) : Int)) (hy : y = ((c / N : Nat) : Int)) : 97 + x + (N : Int) * y = ((c + 97 : Nat) : Int) := by
  subst hx hy
  have h := Nat.mod_add_div c N
  have h2 : ((c % N : Nat) : Int) + (N : Int) * ((c / N : Nat) : Int) = (c : Int) := by exact_mod_cast h
  omega
theorem startF_lt {N : Nat} {bs : List Int} {red : Bool} (h : SizeOk N) {i : Nat} (hi : i ≤ N) : ∀ c ∈ startF N bs red i, c < N * N := fun c hc => by
  unfold startF at hc
  obtain ⟨k, hk, rfl⟩ := List.mem_map.mp (List.mem_filter.mp hc).1
  have hk' := List.mem_range.mp hk
  cases red with
  | true => exact Nat.mul_lt_mul_of_pos_left (show k < N by omega) h.pos
  | false =>
    show k < N * N
    exact Nat.lt_of_lt_of_le (show k < N by omega) (Nat.le_mul_of_pos_left N h.pos)
theorem SizeOk.sq {N : Nat} (h : SizeOk N) : N * N ≤ 16 := Nat.mul_le_mul h.le h.le
section
variable {prog : Program} {w : World} {A : Around} {E : Value → Shared → Prop} {s : Shared} {c : Nat} {i : Int} {t : Tok}
theorem chr_at {Q : Value → Shared → Prop} (hi : i = ((c + 97 : Nat) : Int)) (hc : c < 16) (h : ∀ t tk, Q (.str (letterS c) t) { s with toks := tk }) : wpAny (model prog w) A (call (.builtin "chr") [.int i t]) Q E s := by
  subst hi
  refine P.chr_of_int (by rw [Bool.or_eq_false_iff]; exact ⟨decide_eq_false (by omega), decide_eq_false (by omega)⟩) ?_
  rw [Int.toNat_natCast]
  exact h _ _
end
theorem SpotsAre.isTup {N : Nat} {T : List (Addr × Obj)} {cs : List Nat} (h : SpotsAre N T cs) : ∀ p ∈ T, ∃ x y t u, p.2 = tupI x y t u := by
  induction h with
  | nil => exact fun _ h => nomatch h
  | cons a c x y t u _ _ _ ih =>
    intro p hp
    rcases List.mem_cons.mp hp with rfl | hp
    · exact ⟨x, y, t, u, rfl⟩
    · exact ih p hp
theorem apart_cell {h₀ h : Heap} {L D : Addr} {o : Obj} {v : Option Value} {all T : List (Addr × Obj)} {NN : Nat} {cs : List Nat} (N : News h₀ L h all) (hD : (D, o) ∈ all) (hT : ∀ p ∈ T, p ∈ all) (hS : SpotsAre NN T cs) (ho : o.data = .cell v) : ∀ p ∈ T, p.1 ≠ D := fun p hp e => by
  have h1 := (N p (hT p hp)).1
  have h2 := (N (D, o) hD).1
  rw [e] at h1
  obtain ⟨x, y, t, u, ep⟩ := hS.isTup p hp
  have := Option.some.inj (h1.symm.trans h2)
  rw [ep] at this
  have h3 := congrArg Obj.data this
  rw [ho] at h3
  cases h3
end
section
/-! the flood, told as a plain function -/
noncomputable def allDirs : List (_root_.Fin 6) := [0, 1, 2, 3, 4, 5]
noncomputable def spotX (N c : Nat) (d : _root_.Fin 6) : Int := ((c % N : Nat) : Int) + wX d
noncomputable def spotY (N c : Nat) (d : _root_.Fin 6) : Int := ((c / N : Nat) : Int) + wY d
noncomputable def codeI (N : Nat) (x y : Int) : Nat := (x + (N : Int) * y).toNat
noncomputable abbrev inside (N : Nat) (x y : Int) : Prop := 0 ≤ min x y ∧ max x y < (N : Int)
noncomputable def wayStep (N : Nat) (bs : List Int) (red : Bool) (dots c : Nat) (σ : List Nat × List (Nat × Nat)) (d : _root_.Fin 6) : List Nat × List (Nat × Nat) :=
  if inside N (spotX N c d) (spotY N c d) ∧ codeI N (spotX N c d) (spotY N c d) ∉ σ.1 ∧ (isRed N bs (spotX N c d) (spotY N c d) == red) = true then
    (σ.1 ++ [codeI N (spotX N c d) (spotY N c d)], σ.2 ++ [(dots + 1, codeI N (spotX N c d) (spotY N c d))])
  else σ
noncomputable def waysF (N : Nat) (bs : List Int) (red : Bool) (dots c : Nat) (σ : List Nat × List (Nat × Nat)) (i : Nat) : List Nat × List (Nat × Nat) := (allDirs.take i).foldl (wayStep N bs red dots c) σ
noncomputable abbrev farC (N : Nat) (red : Bool) (c : Nat) : Prop := (if red then c % N else c / N) = N - 1
noncomputable def floodF (N : Nat) (bs : List Int) (red : Bool) : Nat → List Nat → List (Nat × Nat) → Nat → Nat
  | 0, _, _, few => few
  | _ + 1, _, [], few => few
  | k + 1, seen, (dots, c) :: q, few =>
    floodF N bs red k (waysF N bs red dots c (seen, q) 6).1 (waysF N bs red dots c (seen, q) 6).2 (if few = 0 ∧ farC N red c then dots else few)
noncomputable def floodRes (N : Nat) (bs : List Int) (red : Bool) : Nat := floodF N bs red 40 (startF N bs red N) ((startF N bs red N).map fun c => (1, c)) 0
noncomputable def unseen (N : Nat) (seen : List Nat) : Nat := ((List.range (N * N)).filter fun c => decide (c ∉ seen)).length
theorem filter_one {seen : List Nat} {c : Nat} (hs : c ∉ seen) : ∀ l : List Nat, l.Nodup → c ∈ l → (l.filter fun d => decide (d ∉ seen ++ [c])).length + 1 = (l.filter fun d => decide (d ∉ seen)).length
  | [], _, h => nomatch h
  | e :: l, hn, h => by
    obtain ⟨h1, h2⟩ := List.nodup_cons.mp hn
    by_cases he : e = c
    · subst he
      have same : (l.filter fun d => decide (d ∉ seen ++ [e])) = l.filter fun d => decide (d ∉ seen) := List.filter_congr fun d hd => by
        have : d ≠ e := fun q => h1 (q ▸ hd)
        simp [this]
      rw [List.filter_cons, List.filter_cons, same]
      simp [hs]
    · have hc : c ∈ l := by
        rcases List.mem_cons.mp h with q | q
        · exact absurd q.symm he
        · exact q
      have ih := filter_one hs l h2 hc
      rw [List.filter_cons, List.filter_cons]
      by_cases hes : e ∈ seen
      · simp [hes]; simpa using ih
      · simp [hes, he]; simpa using ih
theorem unseen_snoc {N : Nat} {seen : List Nat} {c : Nat} (hs : c ∉ seen) (hc : c < N * N) : unseen N (seen ++ [c]) + 1 = unseen N seen := filter_one hs _ List.nodup_range (List.mem_range.mpr hc)
structure StOk (N : Nat) (seen : List Nat) (q : List (Nat × Nat)) : Prop where
  lt : ∀ c ∈ seen, c < N * N
  all : seen.length + unseen N seen = N * N
  q : ∀ p ∈ q, 1 ≤ p.1 ∧ p.1 ≤ seen.length ∧ p.2 < N * N
noncomputable def measQ (N : Nat) (seen : List Nat) (q : List (Nat × Nat)) : Nat := q.length + 2 * unseen N seen
theorem inside_code {N : Nat} {x y : Int} (h : inside N x y) : codeI N x y < N * N ∧ x = ((codeI N x y % N : Nat) : Int) ∧ y = ((codeI N x y / N : Nat) : Int) := by
  unfold inside at h
  obtain ⟨h1, h2⟩ := h
  obtain ⟨a, rfl⟩ : ∃ a : Nat, x = a := ⟨x.toNat, by omega⟩
  obtain ⟨b, rfl⟩ : ∃ b : Nat, y = b := ⟨y.toNat, by omega⟩
  have ha : a < N := by omega
  have hb : b < N := by omega
  have e : codeI N a b = a + N * b := by
    unfold codeI
    have : (a : Int) + (N : Int) * (b : Int) = ((a + N * b : Nat) : Int) := by push_cast; rfl
    rw [this, Int.toNat_natCast]
  rw [e]
  refine ⟨?_, ?_, ?_⟩
  · calc a + N * b < N + N * b := by omega
      _ = N * (b + 1) := by rw [Nat.mul_succ, Nat.add_comm]
      _ ≤ N * N := Nat.mul_le_mul_left _ hb
  · rw [Nat.add_mul_mod_self_left, Nat.mod_eq_of_lt ha]
  · rw [Nat.add_mul_div_left _ _ (by omega), Nat.div_eq_of_lt ha, Nat.zero_add]
theorem wayStep_ok {N : Nat} {bs : List Int} {red : Bool} {dots c : Nat} {σ : List Nat × List (Nat × Nat)} {d : _root_.Fin 6} (h : StOk N σ.1 σ.2) (hd : dots ≤ σ.1.length) :
    StOk N (wayStep N bs red dots c σ d).1 (wayStep N bs red dots c σ d).2 ∧ dots ≤ (wayStep N bs red dots c σ d).1.length ∧ measQ N (wayStep N bs red dots c σ d).1 (wayStep N bs red dots c σ d).2 ≤ measQ N σ.1 σ.2 := by
  unfold wayStep
  split
  · rename_i hc
    obtain ⟨h1, h2, h3⟩ := hc
    have hlt := (inside_code h1).1
    have hu := unseen_snoc h2 hlt
    refine ⟨⟨fun e he => ?_, ?_, fun p hp => ?_⟩, ?_, ?_⟩
    · rcases List.mem_append.mp he with he | he
      · exact h.lt e he
      · rw [List.mem_singleton.mp he]; exact hlt
    · have := h.all
      simp only [List.length_append, List.length_cons, List.length_nil]
      omega
    · rcases List.mem_append.mp hp with hp | hp
      · have := h.q p hp
        simp only [List.length_append, List.length_cons, List.length_nil]
        omega
      · rw [List.mem_singleton.mp hp]
        simp only [List.length_append, List.length_cons, List.length_nil]
        exact ⟨by omega, by omega, hlt⟩
    · simp only [List.length_append, List.length_cons, List.length_nil]; omega
    · unfold measQ
      simp only [List.length_append, List.length_cons, List.length_nil]
      omega
  · exact ⟨h, hd, Nat.le_refl _⟩
theorem waysF_succ {N : Nat} {bs : List Int} {red : Bool} {dots c : Nat} {σ : List Nat × List (Nat × Nat)} (d : _root_.Fin 6) : waysF N bs red dots c σ (d.val + 1) = wayStep N bs red dots c (waysF N bs red dots c σ d.val) d := by
  unfold waysF
  have e : allDirs.take (d.val + 1) = allDirs.take d.val ++ [d] := by revert d; decide
  rw [e, List.foldl_append]
  rfl
theorem waysF_ok {N : Nat} {bs : List Int} {red : Bool} {dots c : Nat} {σ : List Nat × List (Nat × Nat)} (h : StOk N σ.1 σ.2) (hd : dots ≤ σ.1.length) : ∀ i, i ≤ 6 →
    StOk N (waysF N bs red dots c σ i).1 (waysF N bs red dots c σ i).2 ∧ dots ≤ (waysF N bs red dots c σ i).1.length ∧ measQ N (waysF N bs red dots c σ i).1 (waysF N bs red dots c σ i).2 ≤ measQ N σ.1 σ.2
  | 0, _ => ⟨h, hd, Nat.le_refl _⟩
  | i + 1, hi => by
    obtain ⟨a1, a2, a3⟩ := waysF_ok (bs := bs) (red := red) (c := c) h hd i (by omega)
    have e : waysF N bs red dots c σ (i + 1) = wayStep N bs red dots c (waysF N bs red dots c σ i) ⟨i, by omega⟩ := waysF_succ ⟨i, by omega⟩
    rw [e]
    obtain ⟨b1, b2, b3⟩ := wayStep_ok (bs := bs) (red := red) (c := c) (d := ⟨i, by omega⟩) a1 a2
    exact ⟨b1, b2, Nat.le_trans b3 a3⟩
theorem start_mem {N : Nat} {bs : List Int} {red : Bool} (h : SizeOk N) {i : Nat} : (if red then N * i else i) ∉ startF N bs red i := fun hm => by
  unfold startF at hm
  obtain ⟨k, hk, e⟩ := List.mem_map.mp (List.mem_filter.mp hm).1
  have hk' := List.mem_range.mp hk
  cases red with
  | true => have := Nat.eq_of_mul_eq_mul_left h.pos (show N * k = N * i from e); omega
  | false => have : k = i := e; omega
theorem start_code {N : Nat} {red : Bool} (h : SizeOk N) {i : Nat} (hi : i < N) : (if red then N * i else i) < N * N := by
  cases red with
  | true => exact Nat.mul_lt_mul_of_pos_left hi h.pos
  | false => exact Nat.lt_of_lt_of_le hi (Nat.le_mul_of_pos_left N h.pos)
theorem start_ok {N : Nat} {bs : List Int} {red : Bool} (h : SizeOk N) : ∀ i, i ≤ N → (startF N bs red i).length + unseen N (startF N bs red i) = N * N
  | 0, _ => by
    show 0 + ((List.range (N * N)).filter fun c => decide (c ∉ ([] : List Nat))).length = N * N
    rw [List.filter_eq_self.mpr (by simp), List.length_range, Nat.zero_add]
  | i + 1, hi => by
    have ih := start_ok (bs := bs) (red := red) h i (by omega)
    rw [startF_succ]
    by_cases ho : ownC N bs red (if red then N * i else i) = true
    · rw [if_pos ho]
      have := unseen_snoc (start_mem (bs := bs) (red := red) h (i := i)) (start_code (red := red) h (show i < N by omega))
      rw [List.length_append, List.length_singleton]
      omega
    · rw [if_neg ho, List.append_nil]; exact ih
theorem start_st {N : Nat} {bs : List Int} {red : Bool} (h : SizeOk N) : StOk N (startF N bs red N) ((startF N bs red N).map fun c => (1, c)) where
  lt := startF_lt h (Nat.le_refl N)
  all := start_ok h N (Nat.le_refl N)
  q := fun p hp => by
    obtain ⟨c, hc, rfl⟩ := List.mem_map.mp hp
    exact ⟨Nat.le_refl 1, List.length_pos_of_mem hc, startF_lt h (Nat.le_refl N) c hc⟩
theorem start_meas {N : Nat} {bs : List Int} {red : Bool} (h : SizeOk N) : measQ N (startF N bs red N) ((startF N bs red N).map fun c => (1, c)) ≤ 40 := by
  have h1 := start_ok (bs := bs) (red := red) h N (Nat.le_refl N)
  have h2 := h.sq
  unfold measQ
  rw [List.length_map]
  omega
end
section
section
variable {prog : Program} {w : World} {A : Around} {h₀ : Heap} {L : Addr} {m : Str → Option Value} {env : Env} {elt : PySem.Expr} {x : Str} {scope : Scope} {cl : List (Str × Addr)} {s : Shared} {S : List (Addr × Obj) → Prop} {P : Nat → Value → Prop} {Fin : List Value → List (Addr × Obj) → Prop}
/-- a comprehension, by what holds ahead of each turn -/
theorem comp_inv {n : Nat} (Inv : Nat → List Value → List (Addr × Obj) → Prop)
    (turn : ∀ i v ys news I oI C oC D m₂ h tk (E' : Value → Shared → Prop), i < n → Inv i ys news → P i v → LCg.NsObj oC m₂ → m₂ x = some v → Fr h₀ L h m → News h₀ L h ((I, oI) :: (C, oC) :: (D, LCg.lst ys) :: news) → LCg.Off3 I C D news → ((@Ne Nat I C) ∧ (@Ne Nat I D) ∧ (@Ne Nat C D)) →
      wpAny (model prog w) A (eval elt (compEnvC scope cl C env)) (LCg.CompEnd h₀ L m { s with heap := h, toks := tk } I oI C oC D (LCg.lst ys) S (fun y news' => Inv (i + 1) (ys ++ [y]) news')) E' { s with heap := h, toks := tk })
    (fin : ∀ ys news, Inv n ys news → Fin ys news) : ∀ k i ys news, k + i = n → Inv i ys news → LCg.CompRest prog w A h₀ L m env elt x scope cl s S P Fin k i ys news
  | 0, i, ys, news, e, hI => LCg.CompRest.zero (fin ys news (by rw [Nat.zero_add] at e; exact e ▸ hI))
  | k + 1, i, ys, news, e, hI => by
    refine LCg.CompRest.succ ?_
    intro v I oI C oC D m₂ h tk E' hv hC hx F N off ne
    refine wpAny_mono (turn i v ys news I oI C oC D m₂ h tk E' (by omega) hI hv hC hx F N off ne) (fun y s₂ hq => ?_) fun _ _ e => e
    obtain ⟨h', tk', nw, e', F', N', off', hS, hI'⟩ := hq
    exact ⟨h', tk', nw, e', F', N', off', hS, comp_inv Inv turn fin k (i + 1) _ _ (by omega) hI'⟩
end
/-- values that are words -/
inductive WordsV : List Value → List (Nat × Nat) → Prop
  | nil : WordsV [] []
  | cons (k c : Nat) (t : Tok) {vs : List Value} {q : List (Nat × Nat)} : WordsV vs q → WordsV (.str (wordS k c) t :: vs) ((k, c) :: q)
theorem WordsV.snoc {vs : List Value} {q : List (Nat × Nat)} (h : WordsV vs q) (k c : Nat) (t : Tok) : WordsV (vs ++ [.str (wordS k c) t]) (q ++ [(k, c)]) := by
  induction h with
  | nil => exact .cons k c t .nil
  | cons k' c' t' _ ih => exact .cons k' c' t' ih
theorem WordsV.length {vs : List Value} {q : List (Nat × Nat)} (h : WordsV vs q) : vs.length = q.length := by
  induction h with
  | nil => rfl
  | cons _ _ _ _ ih => rw [List.length_cons, List.length_cons, ih]
theorem WordsV.texts {vs : List Value} {q : List (Nat × Nat)} (h : WordsV vs q) : ∃ l : List (Str × Tok), vs = strValues l ∧ l.map (·.1) = q.map fun p => wordS p.1 p.2 := by
  induction h with
  | nil => exact ⟨[], rfl, rfl⟩
  | cons k c t _ ih =>
    obtain ⟨l, e1, e2⟩ := ih
    exact ⟨(wordS k c, t) :: l, by rw [e1]; rfl, by rw [List.map_cons, List.map_cons, e2]⟩
noncomputable def nlS : Str := Str.ofString "\n"
noncomputable def textOf (S : List Nat) : Str := Str.join nlS (S.map fun c => wordS 1 c)
theorem glued_text (S : List Nat) : Txt.join (Str.ofString "\n") (S.map fun c => wordS 1 c) = textOf S := by
  show Builtin.Str.glued _ _ = _
  rw [StrLaws.glued_eq_join]; rfl
theorem sum_words (S : List Nat) : ((S.map fun c => wordS 1 c).map (·.length)).sum = 2 * S.length := by
  induction S with
  | nil => rfl
  | cons c S ih => rw [List.map_cons, List.map_cons, List.sum_cons, ih, List.length_cons, wordS_len]; omega
section
variable {prog : Program} {w : World} {A : Around} {E : Value → Shared → Prop} {s : Shared} {D : Addr} {t : Tok}
theorem join_words {S : List Nat} {ys : List Value} {Q : Value → Shared → Prop} (hw : WordsV ys (S.map fun c => (1, c))) (hq : S.length ≤ 16) (hl : s.heap.get? D = some (LCg.lst ys))
    (h : ∀ t tk, Q (.str (textOf S) t) { s with toks := tk }) : wpAny (model prog w) A (call (.builtin "str.join") [.str (Str.ofString "\n") t, .ref D]) Q E s := by
  obtain ⟨l, e1, e2⟩ := hw.texts
  subst e1
  rw [List.map_map] at e2
  have e3 : l.map (·.1) = S.map fun c => wordS 1 c := e2
  refine SC.join (l := l) ⟨_, hl, rfl, _, rfl⟩ e3 (joinOk_of_weight ?_ (by decide +kernel)) fun t' k => by rw [glued_text]; exact h t' k
  rw [sum_words, List.length_map]
  omega
end
theorem join_len (S : List Nat) (h : S.length ≤ 4) : (textOf S).length ≤ 64 := by
  show (Str.join nlS (S.map fun c => wordS 1 c)).length ≤ 64
  refine Nat.le_trans (StrLaws.join_length_le _ _) ?_
  rw [sum_words, List.length_map, show nlS.length = 1 from by decide +kernel]
  omega
end
section
structure ItL (ax : Addr) (i : Nat) (it : Obj) : Prop where
  cls : it.cls = .type "list_iterator"
  data : it.data = .fields #[.ref ax, .int i 0]
noncomputable def ListEnd (h₀ : Heap) (L : Addr) (s : Shared) (I : Addr) (it : Obj) (Inv : (Str → Option Value) → List (Addr × Obj) → Prop) (R : Result → Shared → Prop) (f : Flow) (s₂ : Shared) : Prop := match f with
  | .ret v => R (.ok (.ret v)) s₂
  | .brk => R (.ok .next) s₂
  | _ => ∃ h' tk' m' news', s₂ = { s with heap := h', toks := tk' } ∧ Fr h₀ L h' m' ∧ News h₀ L h' ((I, it) :: news') ∧ (∀ p ∈ news', p.1 ≠ I) ∧ Inv m' news'
theorem ListEnd.next {h₀ : Heap} {L : Addr} {s : Shared} {I : Addr} {it : Obj} {Inv : (Str → Option Value) → List (Addr × Obj) → Prop} {R : Result → Shared → Prop} {h' : Heap} {tk' : Nat} {m' : Str → Option Value} {news' : List (Addr × Obj)}
    (F : Fr h₀ L h' m') (N : News h₀ L h' ((I, it) :: news')) (ne : ∀ p ∈ news', p.1 ≠ I) (hI : Inv m' news') : ListEnd h₀ L s I it Inv R .next { s with heap := h', toks := tk' } := ⟨h', tk', m', news', rfl, F, N, ne, hI⟩
section
variable {prog : Program} {w : World} {A : Around} {E : Value → Shared → Prop} {s : Shared} {env : Env} {h₀ : Heap} {x : Str} {px : Pos} {body : List Stmt} {R : Result → Shared → Prop} {m : Str → Option Value} {news : List (Addr × Obj)} {ax : Addr} {its : Array Value}
theorem forlist_inv (hh : A.handled = none) (F : Fr h₀ env.locals s.heap m) (N : News h₀ env.locals s.heap news) (hx : env.kindOf x = some .local) (hp : (env.scope.kind == .class || (env.scope.kind == .module && env.locals != env.globals)) = false)
    (Inv : Nat → (Str → Option Value) → List (Addr × Obj) → Prop) (hS : ∀ i m news, Inv i m news → LCg.SrcAt h₀ ax its news) (start : Inv 0 m news)
    (turn : ∀ i v m news I it h tk, its[i]? = some v → Inv i m news → ItL ax (i + 1) it → Fr h₀ env.locals h (fun y => if y = x then some v else m y) → News h₀ env.locals h ((I, it) :: news) → (∀ p ∈ news, p.1 ≠ I) →
      wpAny (model prog w) A (execs body env) (ListEnd h₀ env.locals { s with heap := h, toks := tk } I it (Inv (i + 1)) R) (notedBy (model prog w) A env fun e s' => R (.error e) s') { s with heap := h, toks := tk })
    (done : ∀ m news h tk, Inv its.size m news → Fr h₀ env.locals h m → News h₀ env.locals h news → R (.ok .next) { s with heap := h, toks := tk }) :
    wpAny (model prog w) A (pyIter (.ref ax)) (fun it s₂ => ForAt prog w A x px body env R it s₂) E s := by
  have hl := (hS _ _ _ start).list F.keep N
  refine wpAny_pyIter_list hl ?_
  have key : ∀ (k i : Nat) (m : Str → Option Value) (news : List (Addr × Obj)) (I : Addr) (it : Obj) (h : Heap) (tk : Nat), k + i = its.size → Inv i m news → ItL ax i it → Fr h₀ env.locals h m → News h₀ env.locals h ((I, it) :: news) → (∀ p ∈ news, p.1 ≠ I) →
      ForAt prog w A x px body env R (.ref I) { s with heap := h, toks := tk } := by
    intro k
    induction k with
    | zero =>
      intro i m news I it h tk hk hI hit F N ne
      have hi : i = its.size := by omega
      subst hi
      have hl := (hS _ _ _ hI).list F.keep (news_tail N)
      refine ForAt.step (wpAny_pyNext_list_end (i := its.size) hh ⟨it, (N _ (.head _)).1, hit.cls, hit.data⟩ hl (by simp) fun h' ex => ?_)
      have zI := N _ (.head _)
      refine done m news h' tk hI ⟨?_, fun b o e => ex b o (fun z => by rw [z, zI.2.2] at e; cases e) (F.keep _ _ e), F.above⟩ fun p hp => ⟨ex _ _ (ne p hp) (N p (.tail _ hp)).1, (N p (.tail _ hp)).2⟩
      obtain ⟨oL, es, ep, n1, n2⟩ := F.ns
      exact ⟨oL, es, ep, ex _ _ (Ne.symm zI.2.1) n1, n2⟩
    | succ k ih =>
      intro i m news I it h tk hk hI hit F N ne
      have hi : i < its.size := by omega
      have hl := (hS _ _ _ hI).list F.keep (news_tail N)
      have hv : its[i]? = some its[i] := Array.getElem?_eq_getElem hi
      refine ForAt.step (wpAny_pyNext_list_item (i := i) ⟨it, (N _ (.head _)).1, hit.cls, hit.data⟩ hl hv fun h' hit' sb => ?_)
      obtain ⟨it', e1, e2, e3⟩ := hit'
      have zI := N _ (.head _)
      have F' : Fr h₀ env.locals h' m := F.change sb zI.2.1 zI.2.2
      have N' : News h₀ env.locals h' ((I, it') :: news) := fun p hp => by
        rcases List.mem_cons.mp hp with rfl | hp
        · exact ⟨e1, zI.2⟩
        · exact ⟨sb.extBut _ _ (ne p hp) (N p (.tail _ hp)).1, (N p (.tail _ hp)).2⟩
      refine wpAny_storeName_local hx F'.ns (fun h₂ hn₂ hs₂ => ?_) hp
      refine wpAny_mono (turn i _ m news I it' h₂ _ hv hI ⟨e2, e3⟩ (F'.set hn₂ hs₂) (N'.set hs₂) ne) (fun f s₂ q => ?_) fun _ _ e => e
      cases f with
      | ret v => exact q
      | brk => exact q
      | next =>
        obtain ⟨h3, tk3, m3, news3, rfl, F3, N3, ne3, hI3⟩ := q
        exact ih (i + 1) m3 news3 I it' h3 tk3 (by omega) hI3 ⟨e2, e3⟩ F3 N3 ne3
      | cont =>
        obtain ⟨h3, tk3, m3, news3, rfl, F3, N3, ne3, hI3⟩ := q
        exact ih (i + 1) m3 news3 I it' h3 tk3 (by omega) hI3 ⟨e2, e3⟩ F3 N3 ne3
  exact key its.size 0 m news s.heap.objs.size _ _ s.toks (by omega) start ⟨rfl, rfl⟩ (F.push _) (N.push F _) fun p hp => Nat.ne_of_lt (Heap.lt_size (N p hp).1)
end
end
section
theorem off_A68_floodled : True := by (w_top off); first | walk1 | trivial
structure FM where
  (pb xM dM dd st f c1 aL aT aA aS aM aZ : Addr)
  (k1 k2 k3 k4 tw kr : Tok)
  (fdS fdF : FuncData)
  (o1 oA oT tab oM oZ : Obj)
  (qual tx : Str)
  (tT : Tok)
noncomputable abbrev floodL (w : World) (K : FM) (tl : Tok) (ln : Int) (words : List Value) (ew : Nat) (pos : Int) (ta : Tok) (ep : Nat) (refs : List Value) (es : Nat) (X : List (Addr × Obj)) : List (Addr × Obj) :=
  (K.pb, W.listOf words.toArray ew) :: (K.xM, instObj 97 K.dM) :: (K.dM, dictOf (netEs w K.k1 K.k2 K.k3 K.k4 tl K.tw ln K.st K.pb) 4) :: (K.aL, W.listOf #[.int pos ta] ep) ::
    (K.dd, dictOf [⟨PyData.keyHash w.params (Str.ofString "read"), .str (Str.ofString "read") K.kr, .ref K.f⟩] 1) :: (K.st, ⟨.type "function", some K.dd, .func K.fdS, #[]⟩) :: (K.f, ⟨.type "function", none, .func K.fdF, #[]⟩) ::
    (K.aA, K.oA) :: (K.aT, K.oT) :: (K.c1, K.o1) :: (125, K.tab) :: (K.aS, W.listOf refs.toArray es) :: (K.aM, K.oM) :: (K.aZ, K.oZ) :: X
/-- one list's entry apart from the machine's -/
structure OutOf (D pb xM dM dd st f c1 aL aT aA : Nat) : Prop where
  h1 : D ≠ pb
  h2 : D ≠ xM
  h3 : D ≠ dM
  h4 : D ≠ dd
  h5 : D ≠ st
  h6 : D ≠ f
  h7 : D ≠ c1
  h8 : D ≠ aL
  h9 : D ≠ aT
  ha : D ≠ aA
  hb : D ≠ 125
structure FloodOk (w : World) (p : Program) (loose : List Str) (mean : ExcName → Option Value) (mg mb : Str → Option Value) (K : FM) (N : Nat) (tn : Tok) : Prop where
  ap : MachApart K.pb K.xM K.dM K.dd K.st K.f K.c1 K.aL K.aT K.aA
  sS : OutOf K.aS K.pb K.xM K.dM K.dd K.st K.f K.c1 K.aL K.aT K.aA
  sM : OutOf K.aM K.pb K.xM K.dM K.dd K.st K.f K.c1 K.aL K.aT K.aA
  sZ : OutOf K.aZ K.pb K.xM K.dM K.dd K.st K.f K.c1 K.aL K.aT K.aA
  s1 : @Ne Nat K.aS K.aM
  s2 : @Ne Nat K.aS K.aZ
  hq : ∃ vs t, K.o1.data = .fields vs ∧ vs[1]? = some (.str K.qual t)
  hT : K.oT.data = .cell (some (.str K.tx K.tT))
  hA : K.oA.data = .cell (some (.ref K.aL))
  hM : K.oM.data = .cell (some (.ref K.xM))
  hZ : K.oZ.data = .cell (some (.int N tn))
  rd : ReadSpec w p loose mean mg mb K.f K.aT K.aA ⟨.type "function", none, .func K.fdF, #[]⟩ (.ref K.c1) K.qual K.tx K.tT K.aL
noncomputable def OffX (K : FM) (X : List (Addr × Obj)) : Prop := ∀ p ∈ X, (@Ne Nat p.1 K.pb) ∧ (@Ne Nat p.1 K.xM) ∧ (@Ne Nat p.1 K.dM) ∧ (@Ne Nat p.1 K.aL) ∧ (@Ne Nat p.1 K.aS)
theorem MachApart.aLdM {pb xM dM dd st f c1 aL aT aA : Nat} (h : MachApart pb xM dM dd st f c1 aL aT aA) : aL < dM := Nat.lt_trans h.h6 (Nat.lt_trans h.h7 (Nat.lt_trans h.h8 h.h9))
/-- what stands still lies apart from what turns -/
theorem MachApart.off {pb xM dM dd st f c1 aL aT aA : Nat} (h : MachApart pb xM dM dd st f c1 aL aT aA) : ∀ D ∈ [dd, st, f, aA, aT, c1, 125], D ≠ pb ∧ D ≠ xM ∧ D ≠ dM ∧ D ≠ aL := by
  have low : ∀ D : Nat, D < dM → D ≠ aL → D ≠ pb ∧ D ≠ xM ∧ D ≠ dM ∧ D ≠ aL := fun D h1 h2 => ⟨Nat.ne_of_lt (Nat.lt_trans h1 (Nat.lt_trans h.ha h.hb)), Nat.ne_of_lt (Nat.lt_trans h1 h.ha), Nat.ne_of_lt h1, h2⟩
  have st2 := Nat.lt_trans h.h8 h.h9
  have f2 := Nat.lt_trans h.h7 st2
  have aL2 := Nat.lt_trans h.h6 f2
  have f3 := Nat.lt_trans h.h6 h.h7
  refine fmc (low _ h.h9 (Ne.symm (Nat.ne_of_lt (Nat.lt_trans f3 h.h8)))) (fmc (low _ st2 (Ne.symm (Nat.ne_of_lt f3))) (fmc (low _ f2 (Ne.symm (Nat.ne_of_lt h.h6))) (fmc (low _ (Nat.lt_trans h.h5 aL2) (Nat.ne_of_lt h.h5)) (fmc (low _ (Nat.lt_trans h.h4 aL2) (Nat.ne_of_lt h.h4)) (fmc (low _ (Nat.lt_trans h.hc f2) h.hd) (fmc (low _ (Nat.lt_trans (Nat.lt_trans h.h1 h.h4) aL2) (Nat.ne_of_lt (Nat.lt_trans h.h1 h.h4))) (fun _ h => nomatch h)))))))
theorem MachApart.offL {pb xM dM dd st f c1 aL aT aA : Nat} (h : MachApart pb xM dM dd st f c1 aL aT aA) : aL ≠ pb ∧ aL ≠ xM ∧ aL ≠ dM := ⟨Nat.ne_of_lt (Nat.lt_trans h.aLdM (Nat.lt_trans h.ha h.hb)), Nat.ne_of_lt (Nat.lt_trans h.aLdM h.ha), Nat.ne_of_lt h.aLdM⟩
section
variable {w : World} {p : Program} {loose : List Str} {mean : ExcName → Option Value} {mg mb : Str → Option Value} {K : FM} {NN : Nat} {tn : Tok}
  {dp un : Nat} {gd : Option (List Code)} {cn : Str} {cs : Scope} {a : Addr} {ccd : Value} {cl : List (Str × Addr)} {outer : List Env} {A₀ : Around} {base h₀ : Heap} {L : Addr} {m : Str → Option Value} {s : Shared} {Q E : Value → Shared → Prop}
  {tl ta : Tok} {ln pos : Int} {words : List Value} {ew ep es : Nat} {refs : List Value} {X : List (Addr × Obj)}
theorem flood_read {k ee : Nat} {rr : Str} (H : FloodOk w p loose mean mg mb K NN tn) (htok : TokRes K.tx k rr ee) (hkx : k ≤ K.tx.length) (hX : OffX K X)
    (B : Below A₀ base outer h₀) (F : Fr h₀ L s.heap m) (XX : Frag.In (hd.heap_39 w.params) h₀) (N : News h₀ L s.heap (floodL w K tl ln [] ew (k : Int) ta ep refs es X)) (T : Top p loose mean mg mb h₀) (hk : cs.kind = .function)
    (hdp : dp + 6 < recursionLimit) (hun : un + 80 < cLine)
    (ret : ∀ t tl' ta' ln' ep' h' tk', Fr h₀ L h' m → News h₀ L h' (floodL w K tl' ln' [] ew (ee : Int) ta' ep' refs es X) → Q (.str rr t) { s with heap := h', toks := tk' }) :
    wpAny (model PySem.Challenge.rw_sl0009_01.row.prog w) (ktrTop dp un gd cn cs L a ccd cl outer) (call (.ref 87) [.ref K.xM]) Q E s := by
  have o := H.ap.off
  obtain ⟨vs, tq, hq1, hq2⟩ := H.hq
  have sS := H.sS
  have sM := H.sM
  have sZ := H.sZ
  refine Does.use (mu := [(K.pb, W.listOf #[] ew), (K.xM, instObj 97 K.dM), (K.dM, dictOf (netEs w K.k1 K.k2 K.k3 K.k4 tl K.tw ln K.st K.pb) 4), (K.aL, W.listOf #[.int (k : Int) ta] ep)])
    (still := (K.dd, dictOf [⟨PyData.keyHash w.params (Str.ofString "read"), .str (Str.ofString "read") K.kr, .ref K.f⟩] 1) :: (K.st, ⟨.type "function", some K.dd, .func K.fdS, #[]⟩) :: (K.f, ⟨.type "function", none, .func K.fdF, #[]⟩) ::
    (K.aA, K.oA) :: (K.aT, K.oT) :: (K.c1, K.o1) :: (125, K.tab) :: (K.aS, W.listOf refs.toArray es) :: (K.aM, K.oM) :: (K.aZ, K.oZ) :: X)
    (does_token (dd := K.dd) (kr := K.kr) (fdS := K.fdS) H.rd rfl hkx H.ap.aLdM H.ap.ha H.ap.hb htok) B F XX N T hk (fun q hq => hq) ?_ ?_ hdp hun ?_
  · have tt : ∀ (D : Nat), OutOf D K.pb K.xM K.dM K.dd K.st K.f K.c1 K.aL K.aT K.aA → ∀ q ∈ [(K.pb, W.listOf #[] ew), (K.xM, instObj 97 K.dM), (K.dM, dictOf (netEs w K.k1 K.k2 K.k3 K.k4 tl K.tw ln K.st K.pb) 4), (K.aL, W.listOf #[.int (k : Int) ta] ep)], D ≠ q.1 := fun D h =>
      fmc (h.h1) (fmc (h.h2) (fmc (h.h3) (fmc (h.h8) (fun _ h => nomatch h))))
    have uu : ∀ (D : Nat), D ≠ K.pb → D ≠ K.xM → D ≠ K.dM → D ≠ K.aL → ∀ q ∈ [(K.pb, W.listOf #[] ew), (K.xM, instObj 97 K.dM), (K.dM, dictOf (netEs w K.k1 K.k2 K.k3 K.k4 tl K.tw ln K.st K.pb) 4), (K.aL, W.listOf #[.int (k : Int) ta] ep)], D ≠ q.1 := fun D h1 h2 h3 h4 =>
      fmc h1 (fmc h2 (fmc h3 (fmc h4 (fun _ h => nomatch h))))
    exact fmc (uu K.dd (o _ (.head _)).1 (o _ (.head _)).2.1 (o _ (.head _)).2.2.1 (o _ (.head _)).2.2.2) (fmc (uu K.st (o _ (.tail _ (.head _))).1 (o _ (.tail _ (.head _))).2.1 (o _ (.tail _ (.head _))).2.2.1 (o _ (.tail _ (.head _))).2.2.2) (fmc (uu K.f (o _ (.tail _ (.tail _ (.head _)))).1 (o _ (.tail _ (.tail _ (.head _)))).2.1 (o _ (.tail _ (.tail _ (.head _)))).2.2.1 (o _ (.tail _ (.tail _ (.head _)))).2.2.2) (fmc (uu K.aA (o _ (.tail _ (.tail _ (.tail _ (.head _))))).1 (o _ (.tail _ (.tail _ (.tail _ (.head _))))).2.1 (o _ (.tail _ (.tail _ (.tail _ (.head _))))).2.2.1 (o _ (.tail _ (.tail _ (.tail _ (.head _))))).2.2.2) (fmc (uu K.aT (o _ (.tail _ (.tail _ (.tail _ (.tail _ (.head _)))))).1 (o _ (.tail _ (.tail _ (.tail _ (.tail _ (.head _)))))).2.1 (o _ (.tail _ (.tail _ (.tail _ (.tail _ (.head _)))))).2.2.1 (o _ (.tail _ (.tail _ (.tail _ (.tail _ (.head _)))))).2.2.2) (fmc (uu K.c1 (o _ (.tail _ (.tail _ (.tail _ (.tail _ (.tail _ (.head _))))))).1 (o _ (.tail _ (.tail _ (.tail _ (.tail _ (.tail _ (.head _))))))).2.1 (o _ (.tail _ (.tail _ (.tail _ (.tail _ (.tail _ (.head _))))))).2.2.1 (o _ (.tail _ (.tail _ (.tail _ (.tail _ (.tail _ (.head _))))))).2.2.2) (fmc (uu 125 (o _ (.tail _ (.tail _ (.tail _ (.tail _ (.tail _ (.tail _ (.head _)))))))).1 (o _ (.tail _ (.tail _ (.tail _ (.tail _ (.tail _ (.tail _ (.head _)))))))).2.1 (o _ (.tail _ (.tail _ (.tail _ (.tail _ (.tail _ (.tail _ (.head _)))))))).2.2.1 (o _ (.tail _ (.tail _ (.tail _ (.tail _ (.tail _ (.tail _ (.head _)))))))).2.2.2) (fmc (tt K.aS sS) (fmc (tt K.aM sM) (fmc (tt K.aZ sZ) (fun q hq => uu q.1 (hX q hq).1 (hX q hq).2.1 (hX q hq).2.2.1 (hX q hq).2.2.2.1))))))))))
  · intro g hg hs
    exact ⟨hs _ (.tail _ (.head _)), hs _ (.head _), readPre_of hs (.tail _ (.tail _ (.head _))) (.tail _ (.tail _ (.tail _ (.tail _ (.tail _ (.head _)))))) hq1 hq2 (.tail _ (.tail _ (.tail _ (.tail _ (.head _))))) H.hT (.tail _ (.tail _ (.tail _ (.head _)))) H.hA⟩
  · intro v mu' h' tk' F' N' D' P'
    obtain ⟨t, tl', ta', ln', ep', rfl, rfl⟩ := P'
    exact ret t tl' ta' ln' ep' h' tk' F' N'
theorem flood_push {v : Value} {ws : List Value} (H : FloodOk w p loose mean mg mb K NN tn) (hwl : ws.length ≤ 1000) (hX : OffX K X)
    (B : Below A₀ base outer h₀) (F : Fr h₀ L s.heap m) (XX : Frag.In (hd.heap_39 w.params) h₀) (N : News h₀ L s.heap (floodL w K tl ln (ws) ew pos ta ep refs es X)) (T : Top p loose mean mg mb h₀) (hk : cs.kind = .function)
    (hdp : dp + 4 < recursionLimit) (hun : un + 40 < cLine)
    (ret : ∀ ew' h' tk', Fr h₀ L h' m → News h₀ L h' (floodL w K tl ln (ws ++ [v]) ew' pos ta ep refs es X) → Q .none { s with heap := h', toks := tk' }) :
    wpAny (model PySem.Challenge.rw_sl0009_01.row.prog w) (ktrTop dp un gd cn cs L a ccd cl outer) (call (.ref 94) [.ref K.xM, v]) Q E s := by
  have o := H.ap.off
  have sS := H.sS
  have sM := H.sM
  have sZ := H.sZ
  refine Does.use (mu := [(K.pb, W.listOf (ws).toArray ew), (K.xM, instObj 97 K.dM), (K.dM, dictOf (netEs w K.k1 K.k2 K.k3 K.k4 tl K.tw ln K.st K.pb) 4)])
    (still := (K.aL, W.listOf #[.int pos ta] ep) :: (K.dd, dictOf [⟨PyData.keyHash w.params (Str.ofString "read"), .str (Str.ofString "read") K.kr, .ref K.f⟩] 1) :: (K.st, ⟨.type "function", some K.dd, .func K.fdS, #[]⟩) :: (K.f, ⟨.type "function", none, .func K.fdF, #[]⟩) ::
    (K.aA, K.oA) :: (K.aT, K.oT) :: (K.c1, K.o1) :: (125, K.tab) :: (K.aS, W.listOf refs.toArray es) :: (K.aM, K.oM) :: (K.aZ, K.oZ) :: X)
    (does_push hwl H.ap.hb H.ap.ha) B F XX N T hk (fun q hq => hq) ?_ ?_ hdp hun ?_
  · have tt : ∀ (D : Nat), OutOf D K.pb K.xM K.dM K.dd K.st K.f K.c1 K.aL K.aT K.aA → ∀ q ∈ [(K.pb, W.listOf (ws).toArray ew), (K.xM, instObj 97 K.dM), (K.dM, dictOf (netEs w K.k1 K.k2 K.k3 K.k4 tl K.tw ln K.st K.pb) 4)], D ≠ q.1 := fun D h =>
      fmc (h.h1) (fmc (h.h2) (fmc (h.h3) (fun _ h => nomatch h)))
    have uu : ∀ (D : Nat), D ≠ K.pb → D ≠ K.xM → D ≠ K.dM → ∀ q ∈ [(K.pb, W.listOf (ws).toArray ew), (K.xM, instObj 97 K.dM), (K.dM, dictOf (netEs w K.k1 K.k2 K.k3 K.k4 tl K.tw ln K.st K.pb) 4)], D ≠ q.1 := fun D h1 h2 h3 =>
      fmc h1 (fmc h2 (fmc h3 (fun _ h => nomatch h)))
    exact fmc (uu K.aL H.ap.offL.1 H.ap.offL.2.1 H.ap.offL.2.2) (fmc (uu K.dd (o _ (.head _)).1 (o _ (.head _)).2.1 (o _ (.head _)).2.2.1) (fmc (uu K.st (o _ (.tail _ (.head _))).1 (o _ (.tail _ (.head _))).2.1 (o _ (.tail _ (.head _))).2.2.1) (fmc (uu K.f (o _ (.tail _ (.tail _ (.head _)))).1 (o _ (.tail _ (.tail _ (.head _)))).2.1 (o _ (.tail _ (.tail _ (.head _)))).2.2.1) (fmc (uu K.aA (o _ (.tail _ (.tail _ (.tail _ (.head _))))).1 (o _ (.tail _ (.tail _ (.tail _ (.head _))))).2.1 (o _ (.tail _ (.tail _ (.tail _ (.head _))))).2.2.1) (fmc (uu K.aT (o _ (.tail _ (.tail _ (.tail _ (.tail _ (.head _)))))).1 (o _ (.tail _ (.tail _ (.tail _ (.tail _ (.head _)))))).2.1 (o _ (.tail _ (.tail _ (.tail _ (.tail _ (.head _)))))).2.2.1) (fmc (uu K.c1 (o _ (.tail _ (.tail _ (.tail _ (.tail _ (.tail _ (.head _))))))).1 (o _ (.tail _ (.tail _ (.tail _ (.tail _ (.tail _ (.head _))))))).2.1 (o _ (.tail _ (.tail _ (.tail _ (.tail _ (.tail _ (.head _))))))).2.2.1) (fmc (uu 125 (o _ (.tail _ (.tail _ (.tail _ (.tail _ (.tail _ (.tail _ (.head _)))))))).1 (o _ (.tail _ (.tail _ (.tail _ (.tail _ (.tail _ (.tail _ (.head _)))))))).2.1 (o _ (.tail _ (.tail _ (.tail _ (.tail _ (.tail _ (.tail _ (.head _)))))))).2.2.1) (fmc (tt K.aS sS) (fmc (tt K.aM sM) (fmc (tt K.aZ sZ) (fun q hq => uu q.1 (hX q hq).1 (hX q hq).2.1 (hX q hq).2.2.1)))))))))))
  · intro _ _ _; trivial
  · intro v' mu' h' tk' F' N' D' P'
    obtain ⟨rfl, ew', rfl⟩ := P'
    exact ret ew' h' tk' F' N'
theorem flood_pop {v : Value} {ws : List Value} (H : FloodOk w p loose mean mg mb K NN tn) (hwl : ws.length ≤ 1000) (hX : OffX K X)
    (B : Below A₀ base outer h₀) (F : Fr h₀ L s.heap m) (XX : Frag.In (hd.heap_39 w.params) h₀) (N : News h₀ L s.heap (floodL w K tl ln (v :: ws) ew pos ta ep refs es X)) (T : Top p loose mean mg mb h₀) (hk : cs.kind = .function)
    (hdp : dp + 4 < recursionLimit) (hun : un + 40 < cLine)
    (ret : ∀ ew' h' tk', Fr h₀ L h' m → News h₀ L h' (floodL w K tl ln (ws) ew' pos ta ep refs es X) → Q v { s with heap := h', toks := tk' }) :
    wpAny (model PySem.Challenge.rw_sl0009_01.row.prog w) (ktrTop dp un gd cn cs L a ccd cl outer) (call (.ref 87) [.ref K.xM]) Q E s := by
  have o := H.ap.off
  have sS := H.sS
  have sM := H.sM
  have sZ := H.sZ
  refine Does.use (mu := [(K.pb, W.listOf (v :: ws).toArray ew), (K.xM, instObj 97 K.dM), (K.dM, dictOf (netEs w K.k1 K.k2 K.k3 K.k4 tl K.tw ln K.st K.pb) 4)])
    (still := (K.aL, W.listOf #[.int pos ta] ep) :: (K.dd, dictOf [⟨PyData.keyHash w.params (Str.ofString "read"), .str (Str.ofString "read") K.kr, .ref K.f⟩] 1) :: (K.st, ⟨.type "function", some K.dd, .func K.fdS, #[]⟩) :: (K.f, ⟨.type "function", none, .func K.fdF, #[]⟩) ::
    (K.aA, K.oA) :: (K.aT, K.oT) :: (K.c1, K.o1) :: (125, K.tab) :: (K.aS, W.listOf refs.toArray es) :: (K.aM, K.oM) :: (K.aZ, K.oZ) :: X)
    (does_pop hwl H.ap.hb H.ap.ha) B F XX N T hk (fun q hq => hq) ?_ ?_ hdp hun ?_
  · have tt : ∀ (D : Nat), OutOf D K.pb K.xM K.dM K.dd K.st K.f K.c1 K.aL K.aT K.aA → ∀ q ∈ [(K.pb, W.listOf (v :: ws).toArray ew), (K.xM, instObj 97 K.dM), (K.dM, dictOf (netEs w K.k1 K.k2 K.k3 K.k4 tl K.tw ln K.st K.pb) 4)], D ≠ q.1 := fun D h =>
      fmc (h.h1) (fmc (h.h2) (fmc (h.h3) (fun _ h => nomatch h)))
    have uu : ∀ (D : Nat), D ≠ K.pb → D ≠ K.xM → D ≠ K.dM → ∀ q ∈ [(K.pb, W.listOf (v :: ws).toArray ew), (K.xM, instObj 97 K.dM), (K.dM, dictOf (netEs w K.k1 K.k2 K.k3 K.k4 tl K.tw ln K.st K.pb) 4)], D ≠ q.1 := fun D h1 h2 h3 =>
      fmc h1 (fmc h2 (fmc h3 (fun _ h => nomatch h)))
    exact fmc (uu K.aL H.ap.offL.1 H.ap.offL.2.1 H.ap.offL.2.2) (fmc (uu K.dd (o _ (.head _)).1 (o _ (.head _)).2.1 (o _ (.head _)).2.2.1) (fmc (uu K.st (o _ (.tail _ (.head _))).1 (o _ (.tail _ (.head _))).2.1 (o _ (.tail _ (.head _))).2.2.1) (fmc (uu K.f (o _ (.tail _ (.tail _ (.head _)))).1 (o _ (.tail _ (.tail _ (.head _)))).2.1 (o _ (.tail _ (.tail _ (.head _)))).2.2.1) (fmc (uu K.aA (o _ (.tail _ (.tail _ (.tail _ (.head _))))).1 (o _ (.tail _ (.tail _ (.tail _ (.head _))))).2.1 (o _ (.tail _ (.tail _ (.tail _ (.head _))))).2.2.1) (fmc (uu K.aT (o _ (.tail _ (.tail _ (.tail _ (.tail _ (.head _)))))).1 (o _ (.tail _ (.tail _ (.tail _ (.tail _ (.head _)))))).2.1 (o _ (.tail _ (.tail _ (.tail _ (.tail _ (.head _)))))).2.2.1) (fmc (uu K.c1 (o _ (.tail _ (.tail _ (.tail _ (.tail _ (.tail _ (.head _))))))).1 (o _ (.tail _ (.tail _ (.tail _ (.tail _ (.tail _ (.head _))))))).2.1 (o _ (.tail _ (.tail _ (.tail _ (.tail _ (.tail _ (.head _))))))).2.2.1) (fmc (uu 125 (o _ (.tail _ (.tail _ (.tail _ (.tail _ (.tail _ (.tail _ (.head _)))))))).1 (o _ (.tail _ (.tail _ (.tail _ (.tail _ (.tail _ (.tail _ (.head _)))))))).2.1 (o _ (.tail _ (.tail _ (.tail _ (.tail _ (.tail _ (.tail _ (.head _)))))))).2.2.1) (fmc (tt K.aS sS) (fmc (tt K.aM sM) (fmc (tt K.aZ sZ) (fun q hq => uu q.1 (hX q hq).1 (hX q hq).2.1 (hX q hq).2.2.1)))))))))))
  · intro _ _ _; trivial
  · intro v' mu' h' tk' F' N' D' P'
    obtain ⟨rfl, ew', rfl⟩ := P'
    exact ret ew' h' tk' F' N'
end
theorem store_cellH {M : Model} {A : Around} {E : Value → Shared → Prop} {s : Shared} {h₀ : Heap} {L a c : Addr} {m : Str → Option Value} {news : List (Addr × Obj)} {cn : Str} {cs : Scope} {ccd : Value} {cl : List (Str × Addr)} {x : Str} {v : Value} {v₀ : Option Value} {o : Obj} {Q : Unit → Shared → Prop}
    (F : Fr h₀ L s.heap m) (N : News h₀ L s.heap ((c, o) :: news)) (hne : ∀ p ∈ news, p.1 ≠ c) (hc : cl.lookup x = some c) (hd : o.data = .cell v₀)
    (h : ∀ h' o', Fr h₀ L h' m → News h₀ L h' ((c, o') :: news) → o'.data = .cell (some v) → Q () { s with heap := h' })
    (hk : cs.kind = .function := by rfl) (hx : (envX cn cs L a ccd cl).kindOf x = some .cell := by rfl) : wpAny M A (storeName (envX cn cs L a ccd cl) x v) Q E s :=
  storeX_C F N hc (UpdF.head hne) hd h hk hx
theorem outOf_of {w : World} {D pb xM dM dd st f c1 aL aT aA : Addr} {k1 k2 k3 k4 tl tw kr ta : Tok} {ln : Int} {words : Array Value} {ew : Nat} {pos : Int} {ep : Nat} {fdS fdF : FuncData} {o1 oA oT tab : Obj}
    (h : ∀ q ∈ machL w pb xM dM dd st f c1 aL aT aA k1 k2 k3 k4 tl tw kr ta ln words ew pos ep fdS fdF o1 oA oT tab, D ≠ q.1) : OutOf D pb xM dM dd st f c1 aL aT aA where
  h1 := h _ (.head _)
  h2 := h _ (.tail _ (.head _))
  h3 := h _ (.tail _ (.tail _ (.head _)))
  h8 := h _ (.tail _ (.tail _ (.tail _ (.head _))))
  h4 := h _ (.tail _ (.tail _ (.tail _ (.tail _ (.head _)))))
  h5 := h _ (.tail _ (.tail _ (.tail _ (.tail _ (.tail _ (.head _))))))
  h6 := h _ (.tail _ (.tail _ (.tail _ (.tail _ (.tail _ (.tail _ (.head _)))))))
  ha := h _ (.tail _ (.tail _ (.tail _ (.tail _ (.tail _ (.tail _ (.tail _ (.head _))))))))
  h9 := h _ (.tail _ (.tail _ (.tail _ (.tail _ (.tail _ (.tail _ (.tail _ (.tail _ (.head _)))))))))
  h7 := h _ (.tail _ (.tail _ (.tail _ (.tail _ (.tail _ (.tail _ (.tail _ (.tail _ (.tail _ (.head _))))))))))
  hb := h _ (.tail _ (.tail _ (.tail _ (.tail _ (.tail _ (.tail _ (.tail _ (.tail _ (.tail _ (.tail _ (.head _)))))))))))
/-- tuples lie apart from all that the machine turns -/
theorem offX_tup {w : World} {K : FM} {h₀ h : Heap} {L : Addr} {tl ta : Tok} {ln pos : Int} {words : List Value} {ew ep es : Nat} {refs : List Value} {X T : List (Addr × Obj)} (N : News h₀ L h (floodL w K tl ln words ew pos ta ep refs es X)) (hT : ∀ p ∈ T, p ∈ X) (hc : ∀ p ∈ T, p.2.cls = .type "tuple") : OffX K T := fun p hp => by
  have m := hT p hp
  have hm : p ∈ floodL w K tl ln words ew pos ta ep refs es X := .tail _ (.tail _ (.tail _ (.tail _ (.tail _ (.tail _ (.tail _ (.tail _ (.tail _ (.tail _ (.tail _ (.tail _ (.tail _ (.tail _ m)))))))))))))
  have sing : ∀ q ∈ [p], q ∈ floodL w K tl ln words ew pos ta ep refs es X := fun q hq => by rw [List.mem_singleton.mp hq]; exact hm
  have cl : ∀ q ∈ [p], q.2.cls = .type "tuple" := fun q hq => by rw [List.mem_singleton.mp hq]; exact hc p hp
  exact ⟨apart_mem N (.head _) sing cl (list_ne_tup _ _) p (.head _), apart_mem N (.tail _ (.head _)) sing cl (by show Value.ref 97 ≠ Value.type "tuple"; simp) p (.head _), apart_mem N (.tail _ (.tail _ (.head _))) sing cl (by show Value.type "dict" ≠ Value.type "tuple"; simp) p (.head _),
    apart_mem N (.tail _ (.tail _ (.tail _ (.head _)))) sing cl (list_ne_tup _ _) p (.head _), apart_mem N (.tail _ (.tail _ (.tail _ (.tail _ (.tail _ (.tail _ (.tail _ (.tail _ (.tail _ (.tail _ (.tail _ (.head _)))))))))))) sing cl (list_ne_tup _ _) p (.head _)⟩
theorem apart_data {h₀ h : Heap} {L D : Addr} {o : Obj} {all T : List (Addr × Obj)} (N : News h₀ L h all) (hD : (D, o) ∈ all) (hT : ∀ p ∈ T, p ∈ all) (hc : ∀ p ∈ T, p.2.cls = .type "tuple") (ho : o.cls ≠ .type "tuple") : ∀ p ∈ T, p.1 ≠ D := apart_mem N hD hT hc ho
theorem app3 {α : Type} {P : α → Prop} {U T : List α} {q : α} (h0 : ∀ p ∈ U, P p) (h1 : ∀ p ∈ T, P p) (h2 : P q) : ∀ p ∈ U ++ (T ++ [q]), P p := fun p hp => by
  rcases List.mem_append.mp hp with hp | hp
  · exact h0 p hp
  · exact snoc_all h1 h2 p hp
theorem apart_tups {h₀ h : Heap} {L : Addr} {all T U : List (Addr × Obj)} {NN : Nat} {cs : List Nat} (N : News h₀ L h all) (hT : ∀ p ∈ T, p ∈ all) (hU : ∀ p ∈ U, p ∈ all) (hS : SpotsAre NN T cs) (hu : ∀ q ∈ U, ∀ x y t u, q.2 ≠ tupI x y t u) : ∀ p ∈ T, ∀ q ∈ U, p.1 ≠ q.1 := fun p hp q hq e => by
  have h1 := (N p (hT p hp)).1
  have h2 := (N q (hU q hq)).1
  rw [e] at h1
  obtain ⟨x, y, t, u, ep⟩ := hS.isTup p hp
  exact hu q hq x y t u ((Option.some.inj (h1.symm.trans h2)).symm.trans ep)
/-- a flood's end -/
noncomputable def FloodPost (tabOk : Addr → Obj → Obj → Prop) (r : Nat) (v : Value) (mu' : List (Addr × Obj)) : Prop := ∃ (c1 : Addr) (o1 tab : Obj) (t : Tok), v = .int (r : Int) t ∧ mu' = [(c1, o1), (125, tab)] ∧ (@Ne Nat c1 125) ∧ tabOk c1 o1 tab
theorem floodOk_of {w : World} {p : Program} {loose : List Str} {mean : ExcName → Option Value} {mg mb : Str → Option Value} {h₀ h : Heap} {L pb xM dM dd st f c1 aL aT aA aS aM aZ : Addr} {k1 k2 k3 k4 tl tw kr ta tT tn : Tok} {ln pos : Int} {words refs : List Value} {ew ep es : Nat} {fdS fdF : FuncData} {o1 oA oT tab oM oZ : Obj} {qual tx : Str} {X : List (Addr × Obj)} {N : Nat}
    (_N9 : News h₀ L h ((pb, W.listOf words.toArray ew) :: (xM, instObj 97 dM) :: (dM, dictOf (netEs w k1 k2 k3 k4 tl tw ln st pb) 4) :: (aL, W.listOf #[.int pos ta] ep) :: (dd, dictOf [⟨PyData.keyHash w.params (Str.ofString "read"), .str (Str.ofString "read") kr, .ref f⟩] 1) ::
      (st, ⟨.type "function", some dd, .func fdS, #[]⟩) :: (f, ⟨.type "function", none, .func fdF, #[]⟩) :: (aA, oA) :: (aT, oT) :: (c1, o1) :: (125, tab) :: (aS, W.listOf refs.toArray es) :: (aM, oM) :: (aZ, oZ) :: X))
    (ap : MachApart pb xM dM dd st f c1 aL aT aA) (sS : OutOf aS pb xM dM dd st f c1 aL aT aA) (sM : OutOf aM pb xM dM dd st f c1 aL aT aA) (sZ : OutOf aZ pb xM dM dd st f c1 aL aT aA) (s1 : @Ne Nat aS aM) (s2 : @Ne Nat aS aZ)
    (hq : ∃ vs t, o1.data = .fields vs ∧ vs[1]? = some (.str qual t)) (hT : oT.data = .cell (some (.str tx tT))) (hA : oA.data = .cell (some (.ref aL))) (hM : oM.data = .cell (some (.ref xM))) (hZ : oZ.data = .cell (some (.int N tn)))
    (rd : ReadSpec w p loose mean mg mb f aT aA ⟨.type "function", none, .func fdF, #[]⟩ (.ref c1) qual tx tT aL) :
    FloodOk w p loose mean mg mb ⟨pb, xM, dM, dd, st, f, c1, aL, aT, aA, aS, aM, aZ, k1, k2, k3, k4, tw, kr, fdS, fdF, o1, oA, oT, tab, oM, oZ, qual, tx, tT⟩ N tn := ⟨ap, sS, sM, sZ, s1, s2, hq, hT, hA, hM, hZ, rd⟩
theorem FloodOk.offX {w : World} {p : Program} {loose : List Str} {mean : ExcName → Option Value} {mg mb : Str → Option Value} {K : FM} {NN : Nat} {tn : Tok} (_H : FloodOk w p loose mean mg mb K NN tn) {h₀ h : Heap} {L : Addr} {tl ta : Tok} {ln pos : Int} {words : List Value} {ew ep es : Nat} {refs : List Value} {X T : List (Addr × Obj)}
    (N : News h₀ L h (floodL w K tl ln words ew pos ta ep refs es X)) (hT : ∀ p ∈ T, p ∈ X) (hc : ∀ p ∈ T, p.2.cls = .type "tuple") : OffX K T := offX_tup N hT hc
theorem offX_comp {w : World} {K : FM} {tl ta : Tok} {ln pos : Int} {words : List Value} {ew ep es : Nat} {refs : List Value} {T : List (Addr × Obj)} {I C D : Addr} {oI oC oD : Obj} (off : LCg.Off3 I C D (floodL w K tl ln words ew pos ta ep refs es T)) (hT : OffX K T) : OffX K ((I, oI) :: (C, oC) :: (D, oD) :: T) := by
  have h1 := off.1
  have h2 := off.2.1
  have h3 := off.2.2.1
  have h4 := off.2.2.2.1
  have h5 := off.2.2.2.2.2.2.2.2.2.2.2.1
  refine fmc (⟨Ne.symm h1.1, Ne.symm h2.1, Ne.symm h3.1, Ne.symm h4.1, Ne.symm h5.1⟩) (fmc (⟨Ne.symm h1.2.1, Ne.symm h2.2.1, Ne.symm h3.2.1, Ne.symm h4.2.1, Ne.symm h5.2.1⟩) (fmc (⟨Ne.symm h1.2.2, Ne.symm h2.2.2, Ne.symm h3.2.2, Ne.symm h4.2.2, Ne.symm h5.2.2⟩) hT))
theorem offX_cons {K : FM} {T : List (Addr × Obj)} {I : Addr} {oI : Obj} (h : (@Ne Nat I K.pb) ∧ (@Ne Nat I K.xM) ∧ (@Ne Nat I K.dM) ∧ (@Ne Nat I K.aL) ∧ (@Ne Nat I K.aS)) (hT : OffX K T) : OffX K ((I, oI) :: T) := fmc h hT
theorem offX_end1 {w : World} {K : FM} {tl ta : Tok} {ln pos : Int} {words : List Value} {ew ep es : Nat} {refs : List Value} {T : List (Addr × Obj)} {D : Addr} {oD : Obj} (off : LCg.Off1 D (floodL w K tl ln words ew pos ta ep refs es T)) (hT : OffX K T) : OffX K ((D, oD) :: T) :=
  offX_cons ⟨Ne.symm off.1, Ne.symm off.2.1, Ne.symm off.2.2.1, Ne.symm off.2.2.2.1, Ne.symm off.2.2.2.2.2.2.2.2.2.2.2.1⟩ hT
theorem offX_it {w : World} {K : FM} {tl ta : Tok} {ln pos : Int} {words : List Value} {ew ep es : Nat} {refs : List Value} {X : List (Addr × Obj)} {I : Addr} {it : Obj} (off : ∀ p ∈ floodL w K tl ln words ew pos ta ep refs es X, p.1 ≠ I) (hX : OffX K X) : OffX K ((I, it) :: X) :=
  offX_cons ⟨Ne.symm (off _ (.head _)), Ne.symm (off _ (.tail _ (.head _))), Ne.symm (off _ (.tail _ (.tail _ (.head _)))), Ne.symm (off _ (.tail _ (.tail _ (.tail _ (.head _))))), Ne.symm (off _ (.tail _ (.tail _ (.tail _ (.tail _ (.tail _ (.tail _ (.tail _ (.tail _ (.tail _ (.tail _ (.tail _ (.head _)))))))))))))⟩ hX
theorem take_snoc {α : Type} {l : List α} {i : Nat} {v : α} (h : l[i]? = some v) : l.take i ++ [v] = l.take (i + 1) := by
  rw [List.take_add_one, h]; rfl
theorem floodL_ne {w : World} {K : FM} {tl ta tl' ta' : Tok} {ln pos ln' pos' : Int} {words words' : List Value} {ew ep es ew' ep' es' : Nat} {refs refs' : List Value} {X : List (Addr × Obj)} {I : Addr}
    (h : ∀ p ∈ floodL w K tl ln words ew pos ta ep refs es X, p.1 ≠ I) : ∀ p ∈ floodL w K tl' ln' words' ew' pos' ta' ep' refs' es' X, p.1 ≠ I := by
  simp only [floodL, List.forall_mem_cons] at h ⊢
  exact h
/-! the machine's part of the ledger, shut -/
structure FZ where
  (aS aM aZ : Addr)
  (oM oZ : Obj)
structure KAt (K : FM) (Z : FZ) : Prop where
  s : K.aS = Z.aS
  m : K.aM = Z.aM
  z : K.aZ = Z.aZ
  om : K.oM = Z.oM
  oz : K.oZ = Z.oZ
noncomputable def machK (w : World) (K : FM) (tl : Tok) (ln : Int) (words : List Value) (ew : Nat) (pos : Int) (ta : Tok) (ep : Nat) : List (Addr × Obj) :=
  [(K.pb, W.listOf words.toArray ew), (K.xM, instObj 97 K.dM), (K.dM, dictOf (netEs w K.k1 K.k2 K.k3 K.k4 tl K.tw ln K.st K.pb) 4), (K.aL, W.listOf #[.int pos ta] ep),
    (K.dd, dictOf [⟨PyData.keyHash w.params (Str.ofString "read"), .str (Str.ofString "read") K.kr, .ref K.f⟩] 1), (K.st, ⟨.type "function", some K.dd, .func K.fdS, #[]⟩), (K.f, ⟨.type "function", none, .func K.fdF, #[]⟩),
    (K.aA, K.oA), (K.aT, K.oT), (K.c1, K.o1), (125, K.tab)]
noncomputable abbrev floodX (w : World) (K : FM) (Z : FZ) (tl : Tok) (ln : Int) (words : List Value) (ew : Nat) (pos : Int) (ta : Tok) (ep : Nat) (refs : List Value) (es : Nat) (X : List (Addr × Obj)) : List (Addr × Obj) :=
  (Z.aS, W.listOf refs.toArray es) :: (Z.aM, Z.oM) :: (Z.aZ, Z.oZ) :: (X ++ machK w K tl ln words ew pos ta ep)
section
variable {w : World} {p : Program} {loose : List Str} {mean : ExcName → Option Value} {mg mb : Str → Option Value} {K : FM} {Z : FZ} {NN : Nat} {tn : Tok} {tl ta tl' ta' : Tok} {ln pos ln' pos' : Int} {words words' : List Value} {ew ep es ew' ep' es' : Nat} {refs refs' : List Value} {X : List (Addr × Obj)} {h₀ h : Heap} {L : Addr}
theorem floodX_to (hK : KAt K Z) : ∀ q ∈ floodL w K tl ln words ew pos ta ep refs es X, q ∈ floodX w K Z tl ln words ew pos ta ep refs es X := by
  intro q hq
  have e : floodL w K tl ln words ew pos ta ep refs es X = machK w K tl ln words ew pos ta ep ++ ((K.aS, W.listOf refs.toArray es) :: (K.aM, K.oM) :: (K.aZ, K.oZ) :: X) := rfl
  rw [e, hK.s, hK.m, hK.z, hK.om, hK.oz] at hq
  rcases List.mem_append.mp hq with hq | hq
  · exact .tail _ (.tail _ (.tail _ (List.mem_append_right _ hq)))
  · rcases List.mem_cons.mp hq with rfl | hq
    · exact .head _
    · rcases List.mem_cons.mp hq with rfl | hq
      · exact .tail _ (.head _)
      · rcases List.mem_cons.mp hq with rfl | hq
        · exact .tail _ (.tail _ (.head _))
        · exact .tail _ (.tail _ (.tail _ (List.mem_append_left _ hq)))
theorem floodX_of (hK : KAt K Z) : ∀ q ∈ floodX w K Z tl ln words ew pos ta ep refs es X, q ∈ floodL w K tl ln words ew pos ta ep refs es X := by
  intro q hq
  have e : floodL w K tl ln words ew pos ta ep refs es X = machK w K tl ln words ew pos ta ep ++ ((K.aS, W.listOf refs.toArray es) :: (K.aM, K.oM) :: (K.aZ, K.oZ) :: X) := rfl
  rw [e, hK.s, hK.m, hK.z, hK.om, hK.oz]
  rcases List.mem_cons.mp hq with rfl | hq
  · exact List.mem_append_right _ (.head _)
  · rcases List.mem_cons.mp hq with rfl | hq
    · exact List.mem_append_right _ (.tail _ (.head _))
    · rcases List.mem_cons.mp hq with rfl | hq
      · exact List.mem_append_right _ (.tail _ (.tail _ (.head _)))
      · rcases List.mem_append.mp hq with hq | hq
        · exact List.mem_append_right _ (.tail _ (.tail _ (.tail _ hq)))
        · exact List.mem_append_left _ hq
theorem machK_addr {P : Nat → Prop} (h : ∀ p ∈ machK w K tl ln words ew pos ta ep, P p.1) : ∀ p ∈ machK w K tl' ln' words' ew' pos' ta' ep', P p.1 := by
  simp only [machK, List.forall_mem_cons] at h ⊢
  exact h
theorem machK_ne (H : FloodOk w p loose mean mg mb K NN tn) (hK : KAt K Z) : ∀ p ∈ machK w K tl ln words ew pos ta ep, p.1 ≠ Z.aS := by
  have s := H.sS
  rw [hK.s] at s
  simp only [machK, List.forall_mem_cons]
  exact ⟨Ne.symm s.h1, Ne.symm s.h2, Ne.symm s.h3, Ne.symm s.h8, Ne.symm s.h4, Ne.symm s.h5, Ne.symm s.h6, Ne.symm s.ha, Ne.symm s.h9, Ne.symm s.h7, Ne.symm s.hb, fun _ h => nomatch h⟩
theorem machK_c1 : (K.c1, K.o1) ∈ machK w K tl ln words ew pos ta ep := .tail _ (.tail _ (.tail _ (.tail _ (.tail _ (.tail _ (.tail _ (.tail _ (.tail _ (.head _)))))))))
theorem machK_tab : ((125 : Addr), K.tab) ∈ machK w K tl ln words ew pos ta ep := .tail _ (.tail _ (.tail _ (.tail _ (.tail _ (.tail _ (.tail _ (.tail _ (.tail _ (.tail _ (.head _))))))))))
theorem floodX_ne {I : Addr} (h : ∀ p ∈ floodX w K Z tl ln words ew pos ta ep refs es X, p.1 ≠ I) : ∀ p ∈ floodX w K Z tl' ln' words' ew' pos' ta' ep' refs' es' X, p.1 ≠ I := by
  simp only [floodX, List.forall_mem_cons, List.forall_mem_append] at h ⊢
  exact ⟨h.1, h.2.1, h.2.2.1, h.2.2.2.1, machK_addr (P := fun x => x ≠ I) h.2.2.2.2⟩
theorem floodX_ne_snoc {I D : Addr} {o : Obj} (h : ∀ p ∈ floodX w K Z tl ln words ew pos ta ep refs es X, p.1 ≠ I) (hD : D ≠ I) : ∀ p ∈ floodX w K Z tl' ln' words' ew' pos' ta' ep' refs' es' (X ++ [(D, o)]), p.1 ≠ I := by
  simp only [floodX, List.forall_mem_cons] at h ⊢
  obtain ⟨h1, h2, h3, h4⟩ := h
  obtain ⟨h5, h6⟩ := List.forall_mem_append.mp h4
  exact ⟨h1, h2, h3, List.forall_mem_append.mpr ⟨snoc_all h5 hD, machK_addr (P := fun x => x ≠ I) h6⟩⟩
theorem off3_X {I C D : Addr} : ∀ {l : List (Addr × Obj)}, LCg.Off3 I C D (l ++ machK w K tl ln words ew pos ta ep) → LCg.Off3 I C D (l ++ machK w K tl' ln' words' ew' pos' ta' ep')
  | [], h => h
  | _ :: _, h => ⟨h.1, off3_X h.2⟩
theorem offX_compX {I C D : Addr} {oI oC oD : Obj} {T : List (Addr × Obj)} (hK : KAt K Z) (off : LCg.Off3 I C D (floodX w K Z tl ln words ew pos ta ep refs es T)) (hT : OffX K T) : OffX K ((I, oI) :: (C, oC) :: (D, oD) :: T) := by
  have m := fun p hp => off.mem p (floodX_to hK p hp)
  have h1 := m _ (.head _)
  have h2 := m _ (.tail _ (.head _))
  have h3 := m _ (.tail _ (.tail _ (.head _)))
  have h4 := m _ (.tail _ (.tail _ (.tail _ (.head _))))
  have h5 := m _ (.tail _ (.tail _ (.tail _ (.tail _ (.tail _ (.tail _ (.tail _ (.tail _ (.tail _ (.tail _ (.tail _ (.head _))))))))))))
  refine fmc (⟨Ne.symm h1.1, Ne.symm h2.1, Ne.symm h3.1, Ne.symm h4.1, Ne.symm h5.1⟩) (fmc (⟨Ne.symm h1.2.1, Ne.symm h2.2.1, Ne.symm h3.2.1, Ne.symm h4.2.1, Ne.symm h5.2.1⟩) (fmc (⟨Ne.symm h1.2.2, Ne.symm h2.2.2, Ne.symm h3.2.2, Ne.symm h4.2.2, Ne.symm h5.2.2⟩) hT))
theorem offX_itX {I : Addr} {it : Obj} {Y : List (Addr × Obj)} (hK : KAt K Z) (off : ∀ p ∈ floodX w K Z tl ln words ew pos ta ep refs es Y, p.1 ≠ I) (hX : OffX K X) : OffX K ((I, it) :: X) := by
  have m := fun p hp => off p (floodX_to hK p hp)
  exact offX_cons ⟨Ne.symm (m _ (.head _)), Ne.symm (m _ (.tail _ (.head _))), Ne.symm (m _ (.tail _ (.tail _ (.head _)))), Ne.symm (m _ (.tail _ (.tail _ (.tail _ (.head _))))), Ne.symm (m _ (.tail _ (.tail _ (.tail _ (.tail _ (.tail _ (.tail _ (.tail _ (.tail _ (.tail _ (.tail _ (.tail _ (.head _)))))))))))))⟩ hX
theorem off1_mem {D : Addr} : ∀ {l : List (Addr × Obj)}, LCg.Off1 D l → ∀ p ∈ l, p.1 ≠ D
  | [], _, _, h => nomatch h
  | _ :: _, x, p, h => by
    rcases List.mem_cons.mp h with rfl | h
    · exact x.1
    · exact off1_mem x.2 p h
theorem FloodOk.offXX (H : FloodOk w p loose mean mg mb K NN tn) (hK : KAt K Z) {T : List (Addr × Obj)} (N : News h₀ L h (floodX w K Z tl ln words ew pos ta ep refs es X)) (hT : ∀ p ∈ T, p ∈ X) (hc : ∀ p ∈ T, p.2.cls = .type "tuple") : OffX K T :=
  H.offX (news_sub N (floodX_to hK)) hT hc
theorem offX_newX {I D : Addr} {it : Obj} {x y : Int} {t u : Tok} {T : List (Addr × Obj)} (H : FloodOk w p loose mean mg mb K NN tn) (hK : KAt K Z)
    (N : News h₀ L h (floodX w K Z tl ln words ew pos ta ep refs es ((D, tupI x y t u) :: (I, it) :: T))) (hc : ∀ p ∈ T, p.2.cls = .type "tuple") (ne : ∀ p ∈ floodX w K Z tl' ln' words' ew' pos' ta' ep' refs' es' T, p.1 ≠ I) : OffX K ((D, tupI x y t u) :: (I, it) :: T) := by
  have h := H.offXX hK N (T := (D, tupI x y t u) :: T) (fmc (.head _) (fun p hp => .tail _ (.tail _ hp))) (fmc rfl hc)
  exact fmc (h _ (.head _)) (offX_itX hK ne fun p hp => h p (.tail _ hp))
end
section
variable {w : World} {p : Program} {loose : List Str} {mean : ExcName → Option Value} {mg mb : Str → Option Value} {K : FM} {Z : FZ} {NN : Nat} {tn : Tok}
  {dp un : Nat} {gd : Option (List Code)} {cn : Str} {cs : Scope} {a : Addr} {ccd : Value} {cl : List (Str × Addr)} {outer : List Env} {A₀ : Around} {base h₀ : Heap} {L : Addr} {m : Str → Option Value} {s : Shared} {Q E : Value → Shared → Prop}
  {tl ta : Tok} {ln pos : Int} {words : List Value} {ew ep es : Nat} {refs : List Value} {X : List (Addr × Obj)}
theorem flood_readX {k ee : Nat} {rr : Str} (H : FloodOk w p loose mean mg mb K NN tn) (hK : KAt K Z) (htok : TokRes K.tx k rr ee) (hkx : k ≤ K.tx.length) (hX : OffX K X)
    (B : Below A₀ base outer h₀) (F : Fr h₀ L s.heap m) (XX : Frag.In (hd.heap_39 w.params) h₀) (N : News h₀ L s.heap (floodX w K Z tl ln [] ew (k : Int) ta ep refs es X)) (T : Top p loose mean mg mb h₀) (hk : cs.kind = .function)
    (hdp : dp + 6 < recursionLimit) (hun : un + 80 < cLine)
    (ret : ∀ t tl' ta' ln' ep' h' tk', Fr h₀ L h' m → News h₀ L h' (floodX w K Z tl' ln' [] ew (ee : Int) ta' ep' refs es X) → Q (.str rr t) { s with heap := h', toks := tk' }) :
    wpAny (model PySem.Challenge.rw_sl0009_01.row.prog w) (ktrTop dp un gd cn cs L a ccd cl outer) (call (.ref 87) [.ref K.xM]) Q E s :=
  flood_read H htok hkx hX B F XX (news_sub N (floodX_to hK)) T hk hdp hun fun t tl' ta' ln' ep' h' tk' F' N' => ret t tl' ta' ln' ep' h' tk' F' (news_sub N' (floodX_of hK))
theorem machK_xM : (K.xM, instObj 97 K.dM) ∈ machK w K tl ln words ew pos ta ep := .tail _ (.head _)
theorem machK_dM : (K.dM, dictOf (netEs w K.k1 K.k2 K.k3 K.k4 tl K.tw ln K.st K.pb) 4) ∈ machK w K tl ln words ew pos ta ep := .tail _ (.tail _ (.head _))
theorem mach_get {A : Around} {pl : Sem Bool} {R : Value × List Value → Shared → Prop} (F : Fr h₀ L s.heap m) (XX : Frag.In (hd.heap_39 w.params) h₀) (N : News h₀ L s.heap X) (h1 : (K.xM, instObj 97 K.dM) ∈ X)
    (h2 : (K.dM, dictOf (netEs w K.k1 K.k2 K.k3 K.k4 tl K.tw ln K.st K.pb) 4) ∈ X) (h : R (.ref 87, [.ref K.xM]) s) : wpAny (model PySem.Challenge.rw_sl0009_01.row.prog w) A (getMethod (.ref K.xM) (Str.ofString "get_token") pl) R E s := by
  ((have hfill := hd_kept; (have : hd_kept = hd_kept := by (revert hfill; k_fill; intro _; rfl)); clear this hfill))
  exact method_inst F XX (InstAt.of_news N h1 h2) (by k_is) (by k_is) (by k_is) (by rfl) h
theorem mach_push {A : Around} {pl : Sem Bool} {R : Value × List Value → Shared → Prop} (F : Fr h₀ L s.heap m) (XX : Frag.In (hd.heap_39 w.params) h₀) (N : News h₀ L s.heap X) (h1 : (K.xM, instObj 97 K.dM) ∈ X)
    (h2 : (K.dM, dictOf (netEs w K.k1 K.k2 K.k3 K.k4 tl K.tw ln K.st K.pb) 4) ∈ X) (h : R (.ref 94, [.ref K.xM]) s) : wpAny (model PySem.Challenge.rw_sl0009_01.row.prog w) A (getMethod (.ref K.xM) (Str.ofString "push_token") pl) R E s := by
  ((have hfill := hd_kept; (have : hd_kept = hd_kept := by (revert hfill; k_fill; intro _; rfl)); clear this hfill))
  exact method_inst F XX (InstAt.of_news N h1 h2) (by k_is) (by k_is) (by k_is) (by rfl) h
theorem flood_pushX {v : Value} {ws : List Value} (H : FloodOk w p loose mean mg mb K NN tn) (hK : KAt K Z) (hwl : ws.length ≤ 1000) (hX : OffX K X)
    (B : Below A₀ base outer h₀) (F : Fr h₀ L s.heap m) (XX : Frag.In (hd.heap_39 w.params) h₀) (N : News h₀ L s.heap (floodX w K Z tl ln ws ew pos ta ep refs es X)) (T : Top p loose mean mg mb h₀) (hk : cs.kind = .function)
    (hdp : dp + 4 < recursionLimit) (hun : un + 40 < cLine)
    (ret : ∀ ew' h' tk', Fr h₀ L h' m → News h₀ L h' (floodX w K Z tl ln (ws ++ [v]) ew' pos ta ep refs es X) → Q .none { s with heap := h', toks := tk' }) :
    wpAny (model PySem.Challenge.rw_sl0009_01.row.prog w) (ktrTop dp un gd cn cs L a ccd cl outer) (call (.ref 94) [.ref K.xM, v]) Q E s :=
  flood_push H hwl hX B F XX (news_sub N (floodX_to hK)) T hk hdp hun fun ew' h' tk' F' N' => ret ew' h' tk' F' (news_sub N' (floodX_of hK))
end
end
section
theorem letter_ok : ∀ c : _root_.Fin 16, blank (letterS c.val) = false ∧ decide (letterS c.val = Str.ofString "\\") = false := by decide +kernel
theorem letter_blank {c : Nat} (h : c < 16) : blank (letterS c) = false := (letter_ok ⟨c, h⟩).1
theorem letter_slash {c : Nat} (h : c < 16) : decide (letterS c = Str.ofString "\\") = false := (letter_ok ⟨c, h⟩).2
theorem letter_ne (c : Nat) : letterS c ≠ Str.empty := fun e => by have := congrArg (fun s : Str => s.cps.size) e; simp [letterS, Str.empty] at this
theorem letter_len (c : Nat) : (letterS c).length ≤ 8 := by show 1 ≤ 8; decide
noncomputable def endPos (S : List Nat) : Nat := 3 * S.length - 1
theorem len_0 : (textOf []).length = 0 := by kernel_rfl
theorem end_0 : TokRes (textOf []) 0 Str.empty 0 := .none (by kernel_rfl) (by kernel_rfl)
theorem len_1 (a : Nat) : (textOf [a]).length = 2 := by kernel_rfl
theorem end_1 (a : Nat) : TokRes (textOf [a]) 2 Str.empty 2 := .none (by kernel_rfl) (by kernel_rfl)
theorem tok_1_0 (a : Nat) (ha : a < 16) : TokRes (textOf [a]) 0 (wordS 1 a) 2 := by
  rw [← word1]
  exact .last (by kernel_rfl) (by kernel_rfl) (by rw [len_1]; decide) (by kernel_rfl) (letter_ne _) (letter_len _) (letter_blank ha) (letter_slash ha) (by kernel_rfl) (by rw [len_1]; decide) (by kernel_rfl) (by kernel_rfl)
theorem len_2 (a b : Nat) : (textOf [a, b]).length = 5 := by kernel_rfl
theorem end_2 (a b : Nat) : TokRes (textOf [a, b]) 5 Str.empty 5 := .none (by kernel_rfl) (by kernel_rfl)
theorem tok_2_0 (a b : Nat) (ha : a < 16) : TokRes (textOf [a, b]) 0 (wordS 1 a) 3 := by
  rw [← word1]
  exact .line (by kernel_rfl) (by kernel_rfl) (by rw [len_2]; decide) (by kernel_rfl) (letter_ne _) (letter_len _) (letter_blank ha) (letter_slash ha) (by kernel_rfl) (by rw [len_2]; decide) (by kernel_rfl) (by kernel_rfl)
theorem tok_2_1 (a b : Nat) (hb : b < 16) : TokRes (textOf [a, b]) 3 (wordS 1 b) 5 := by
  rw [← word1]
  exact .last (by kernel_rfl) (by kernel_rfl) (by rw [len_2]; decide) (by kernel_rfl) (letter_ne _) (letter_len _) (letter_blank hb) (letter_slash hb) (by kernel_rfl) (by rw [len_2]; decide) (by kernel_rfl) (by kernel_rfl)
theorem len_3 (a b c : Nat) : (textOf [a, b, c]).length = 8 := by kernel_rfl
theorem end_3 (a b c : Nat) : TokRes (textOf [a, b, c]) 8 Str.empty 8 := .none (by kernel_rfl) (by kernel_rfl)
theorem tok_3_0 (a b c : Nat) (ha : a < 16) : TokRes (textOf [a, b, c]) 0 (wordS 1 a) 3 := by
  rw [← word1]
  exact .line (by kernel_rfl) (by kernel_rfl) (by rw [len_3]; decide) (by kernel_rfl) (letter_ne _) (letter_len _) (letter_blank ha) (letter_slash ha) (by kernel_rfl) (by rw [len_3]; decide) (by kernel_rfl) (by kernel_rfl)
theorem tok_3_1 (a b c : Nat) (hb : b < 16) : TokRes (textOf [a, b, c]) 3 (wordS 1 b) 6 := by
  rw [← word1]
  exact .line (by kernel_rfl) (by kernel_rfl) (by rw [len_3]; decide) (by kernel_rfl) (letter_ne _) (letter_len _) (letter_blank hb) (letter_slash hb) (by kernel_rfl) (by rw [len_3]; decide) (by kernel_rfl) (by kernel_rfl)
theorem tok_3_2 (a b c : Nat) (hc : c < 16) : TokRes (textOf [a, b, c]) 6 (wordS 1 c) 8 := by
  rw [← word1]
  exact .last (by kernel_rfl) (by kernel_rfl) (by rw [len_3]; decide) (by kernel_rfl) (letter_ne _) (letter_len _) (letter_blank hc) (letter_slash hc) (by kernel_rfl) (by rw [len_3]; decide) (by kernel_rfl) (by kernel_rfl)
theorem len_4 (a b c d : Nat) : (textOf [a, b, c, d]).length = 11 := by kernel_rfl
theorem end_4 (a b c d : Nat) : TokRes (textOf [a, b, c, d]) 11 Str.empty 11 := .none (by kernel_rfl) (by kernel_rfl)
theorem tok_4_0 (a b c d : Nat) (ha : a < 16) : TokRes (textOf [a, b, c, d]) 0 (wordS 1 a) 3 := by
  rw [← word1]
  exact .line (by kernel_rfl) (by kernel_rfl) (by rw [len_4]; decide) (by kernel_rfl) (letter_ne _) (letter_len _) (letter_blank ha) (letter_slash ha) (by kernel_rfl) (by rw [len_4]; decide) (by kernel_rfl) (by kernel_rfl)
theorem tok_4_1 (a b c d : Nat) (hb : b < 16) : TokRes (textOf [a, b, c, d]) 3 (wordS 1 b) 6 := by
  rw [← word1]
  exact .line (by kernel_rfl) (by kernel_rfl) (by rw [len_4]; decide) (by kernel_rfl) (letter_ne _) (letter_len _) (letter_blank hb) (letter_slash hb) (by kernel_rfl) (by rw [len_4]; decide) (by kernel_rfl) (by kernel_rfl)
theorem tok_4_2 (a b c d : Nat) (hc : c < 16) : TokRes (textOf [a, b, c, d]) 6 (wordS 1 c) 9 := by
  rw [← word1]
  exact .line (by kernel_rfl) (by kernel_rfl) (by rw [len_4]; decide) (by kernel_rfl) (letter_ne _) (letter_len _) (letter_blank hc) (letter_slash hc) (by kernel_rfl) (by rw [len_4]; decide) (by kernel_rfl) (by kernel_rfl)
theorem tok_4_3 (a b c d : Nat) (hd : d < 16) : TokRes (textOf [a, b, c, d]) 9 (wordS 1 d) 11 := by
  rw [← word1]
  exact .last (by kernel_rfl) (by kernel_rfl) (by rw [len_4]; decide) (by kernel_rfl) (letter_ne _) (letter_len _) (letter_blank hd) (letter_slash hd) (by kernel_rfl) (by rw [len_4]; decide) (by kernel_rfl) (by kernel_rfl)
/-- where the reader stands ahead of the i-th word -/
noncomputable def posOf (S : List Nat) (i : Nat) : Nat := min (3 * i) (endPos S)
theorem posOf_zero (S : List Nat) : posOf S 0 = 0 := Nat.zero_min _
theorem tok_at : ∀ (S : List Nat), S.length ≤ 4 → (∀ c ∈ S, c < 16) → ∀ (i : Nat) (hi : i < S.length), TokRes (textOf S) (posOf S i) (wordS 1 S[i]) (posOf S (i + 1))
  | [], _, _, i, hi => absurd hi (Nat.not_lt_zero _)
  | [a], _, hc, 0, _ => tok_1_0 a (hc a (.head _))
  | [a], _, _, i + 1, hi => absurd hi (by simp only [List.length_cons, List.length_nil]; omega)
  | [a, b], _, hc, 0, _ => tok_2_0 a b (hc a (.head _))
  | [a, b], _, hc, 1, _ => tok_2_1 a b (hc b (.tail _ (.head _)))
  | [a, b], _, _, i + 2, hi => absurd hi (by simp only [List.length_cons, List.length_nil]; omega)
  | [a, b, c], _, hc, 0, _ => tok_3_0 a b c (hc a (.head _))
  | [a, b, c], _, hc, 1, _ => tok_3_1 a b c (hc b (.tail _ (.head _)))
  | [a, b, c], _, hc, 2, _ => tok_3_2 a b c (hc c (.tail _ (.tail _ (.head _))))
  | [a, b, c], _, _, i + 3, hi => absurd hi (by simp only [List.length_cons, List.length_nil]; omega)
  | [a, b, c, d], _, hc, 0, _ => tok_4_0 a b c d (hc a (.head _))
  | [a, b, c, d], _, hc, 1, _ => tok_4_1 a b c d (hc b (.tail _ (.head _)))
  | [a, b, c, d], _, hc, 2, _ => tok_4_2 a b c d (hc c (.tail _ (.tail _ (.head _))))
  | [a, b, c, d], _, hc, 3, _ => tok_4_3 a b c d (hc d (.tail _ (.tail _ (.tail _ (.head _)))))
  | [a, b, c, d], _, _, i + 4, hi => absurd hi (by simp only [List.length_cons, List.length_nil]; omega)
  | _ :: _ :: _ :: _ :: _ :: _, h, _, _, _ => absurd h (by simp only [List.length_cons]; omega)
theorem tok_end : ∀ (S : List Nat), S.length ≤ 4 → TokRes (textOf S) (posOf S S.length) Str.empty (posOf S S.length)
  | [], _ => end_0 
  | [a], _ => end_1 a
  | [a, b], _ => end_2 a b
  | [a, b, c], _ => end_3 a b c
  | [a, b, c, d], _ => end_4 a b c d
  | _ :: _ :: _ :: _ :: _ :: _, h => absurd h (by simp only [List.length_cons]; omega)
theorem pos_le : ∀ (S : List Nat), S.length ≤ 4 → ∀ i, posOf S i ≤ (textOf S).length
  | [], _, i => by rw [len_0]; exact Nat.min_le_right _ _
  | [a], _, i => by rw [len_1]; exact Nat.min_le_right _ _
  | [a, b], _, i => by rw [len_2]; exact Nat.min_le_right _ _
  | [a, b, c], _, i => by rw [len_3]; exact Nat.min_le_right _ _
  | [a, b, c, d], _, i => by rw [len_4]; exact Nat.min_le_right _ _
  | _ :: _ :: _ :: _ :: _ :: _, h, _ => absurd h (by simp only [List.length_cons]; omega)
end
section
noncomputable def WhileEnd (h₀ : Heap) (L : Addr) (s : Shared) (n : Nat) (Inv : Nat → (Str → Option Value) → List (Addr × Obj) → Prop) (R : Result → Shared → Prop) (f : Flow) (s₂ : Shared) : Prop := match f with
  | .ret v => R (.ok (.ret v)) s₂
  | .brk => R (.ok .next) s₂
  | _ => ∃ n' h' tk' m' news', n' < n ∧ s₂ = { s with heap := h', toks := tk' } ∧ Fr h₀ L h' m' ∧ News h₀ L h' news' ∧ Inv n' m' news'
theorem WhileEnd.next {h₀ : Heap} {L : Addr} {s : Shared} {n : Nat} {Inv : Nat → (Str → Option Value) → List (Addr × Obj) → Prop} {R : Result → Shared → Prop} {n' : Nat} {h' : Heap} {tk' : Nat} {m' : Str → Option Value} {news' : List (Addr × Obj)}
    (F : Fr h₀ L h' m') (N : News h₀ L h' news') (hn : n' < n) (hI : Inv n' m' news') : WhileEnd h₀ L s n Inv R .next { s with heap := h', toks := tk' } := ⟨n', h', tk', m', news', hn, rfl, F, N, hI⟩
section
variable {prog : Program} {w : World} {A : Around} {E : Value → Shared → Prop} {s : Shared} {env : Env} {h₀ : Heap} {test : PySem.Expr} {body : List Stmt} {Q : Flow → Shared → Prop} {m : Str → Option Value} {news : List (Addr × Obj)}
/-- a while loop, by what holds ahead of each turn and a number that falls -/
theorem while_inv {pos : Pos} (Inv : Nat → (Str → Option Value) → List (Addr × Obj) → Prop) (n : Nat) (F : Fr h₀ env.locals s.heap m) (N : News h₀ env.locals s.heap news) (start : Inv n m news)
    (turn : ∀ n m news h tk, Inv n m news → Fr h₀ env.locals h m → News h₀ env.locals h news →
      wpAny (model prog w) A (isTrue test env (eval test env)) (fun b s₁ => if b = true then wpAny (model prog w) A (execs body env) (WhileEnd h₀ env.locals { s with heap := h, toks := tk } n Inv (ForEnd prog w A env Q E)) (notedBy (model prog w) A env fun e s' => ForEnd prog w A env Q E (.error e) s') s₁ else Q .next s₁)
        (notedBy (model prog w) A env fun e s' => ForEnd prog w A env Q E (.error e) s') { s with heap := h, toks := tk }) :
    wpAny (model prog w) A (exec (.While test body [] pos) env) Q E s := by
  have key : ∀ (n : Nat) (m : Str → Option Value) (news : List (Addr × Obj)) (h : Heap) (tk : Nat), Inv n m news → Fr h₀ env.locals h m → News h₀ env.locals h news → codeAny (model prog w) A (.whileLoop test body [] env) (ForEnd prog w A env Q E) { s with heap := h, toks := tk } := by
    intro n
    induction n using Nat.strongRecOn with
    | _ n ih =>
    intro m news h tk hI F N
    refine codeAny_of_tree ?_
    show wpAny _ A ((whileTurn test body [] env).onRaise (fun x => do noteFrame x env; theTreesLotGoes x)) _ _ _
    refine wpAny_noted ?_
    unfold whileTurn
    refine wpAny_bind (wpAny_mono (turn n m news h tk hI F N) (fun b s₁ q => ?_) fun _ _ e => e)
    cases b with
    | true =>
      rw [if_pos rfl] at q
      rw [if_pos rfl]
      refine wpAny_bind (wpAny_mono q (fun f s₂ z => ?_) fun _ _ e => e)
      cases f with
      | ret v => exact wpAny_pure z
      | brk => exact wpAny_pure z
      | next =>
        obtain ⟨n', h', tk', m', news', hlt, rfl, F', N', hI'⟩ := z
        exact wpAny_pure ⟨rfl, ih n' hlt m' news' h' tk' hI' F' N'⟩
      | cont =>
        obtain ⟨n', h', tk', m', news', hlt, rfl, F', N', hI'⟩ := z
        exact wpAny_pure ⟨rfl, ih n' hlt m' news' h' tk' hI' F' N'⟩
    | false =>
      rw [if_neg Bool.false_ne_true] at q
      rw [if_neg Bool.false_ne_true]
      exact wpAny_bind (wpAny_execs_nil (wpAny_pure q))
  exact wpAny_While (codeAny_mono (key n m news s.heap s.toks start F N) fun r s' z => by cases r <;> exact z)
end
end
section
noncomputable def headS : List (Nat × Nat) → Str
  | [] => Str.empty
  | (d, c) :: _ => wordS d c
section
variable {w : World} {p : Program} {loose : List Str} {mean : ExcName → Option Value} {mg mb : Str → Option Value} {K : FM} {NN : Nat} {tn : Tok}
  {dp un : Nat} {gd : Option (List Code)} {cn : Str} {cs : Scope} {a : Addr} {ccd : Value} {cl : List (Str × Addr)} {outer : List Env} {A₀ : Around} {base h₀ : Heap} {L : Addr} {m : Str → Option Value} {s : Shared} {Q E : Value → Shared → Prop}
  {tl ta : Tok} {ln : Int} {words : List Value} {ew ep es : Nat} {refs : List Value} {X : List (Addr × Obj)}
/-- the next word: a pushed one, or none at the text's end -/
theorem flood_next {Z : FZ} {k : Nat} {q : List (Nat × Nat)} (H : FloodOk w p loose mean mg mb K NN tn) (hK : KAt K Z) (htok : TokRes K.tx k Str.empty k) (hkx : k ≤ K.tx.length) (hw : WordsV words q) (hwl : words.length ≤ 1000) (hX : OffX K X)
    (B : Below A₀ base outer h₀) (F : Fr h₀ L s.heap m) (XX : Frag.In (hd.heap_39 w.params) h₀) (N : News h₀ L s.heap (floodX w K Z tl ln words ew (k : Int) ta ep refs es X)) (T : Top p loose mean mg mb h₀) (hk : cs.kind = .function)
    (hdp : dp + 6 < recursionLimit) (hun : un + 80 < cLine)
    (ret : ∀ t words' ew' tl' ta' ln' ep' h' tk', Fr h₀ L h' m → News h₀ L h' (floodX w K Z tl' ln' words' ew' (k : Int) ta' ep' refs es X) → WordsV words' q.tail → Q (.str (headS q) t) { s with heap := h', toks := tk' }) :
    wpAny (model PySem.Challenge.rw_sl0009_01.row.prog w) (ktrTop dp un gd cn cs L a ccd cl outer) (call (.ref 87) [.ref K.xM]) Q E s := by
  cases hw with
  | nil => exact flood_readX H hK htok hkx hX B F XX N T hk hdp hun fun t tl' ta' ln' ep' h' tk' F' N' => ret t [] ew tl' ta' ln' ep' h' tk' F' N' .nil
  | cons d c t hw' => exact flood_pop H (Nat.le_of_succ_le hwl) hX B F XX (news_sub N (floodX_to hK)) T hk (by omega) (by omega) fun ew' h' tk' F' N' => ret t _ ew' tl ta ln ep h' tk' F' (news_sub N' (floodX_of hK)) hw'
end
inductive FlInv (w : World) (K : FM) (Z : FZ) (N : Nat) (bs : List Int) (red : Bool) (lb lw : Addr) (kk : Nat) (n : Nat) (m : Str → Option Value) (news : List (Addr × Obj)) : Prop
  | mk (seen : List Nat) (q : List (Nat × Nat)) (few : Nat) (tw tf tl ta : Tok) (ln : Int) (T : List (Addr × Obj)) (words : List Value) (ew ep es : Nat) (qb0 : StOk N seen q) (qb1 : (measQ N seen q ≤ n ∧ n ≤ 40)) (qb2 : floodF N bs red n seen q few = floodRes N bs red) (qb3 : SpotsAre N T seen) (qb4 : WordsV words q.tail) (qb5 : (∀ p ∈ ([(Str.ofString "seen", .ref Z.aS), (Str.ofString "bits", .ref lb), (Str.ofString "ways", .ref lw), (Str.ofString "is_red", .bool red), (Str.ofString "fewest", .int (few : Int) tf), (Str.ofString "word", .str (headS q) tw)] : List (Str × Value)), m p.1 = some p.2)) (qb6 : news = floodX w K Z tl ln words ew (kk : Int) ta ep (refsOf T) es T) : FlInv w K Z N bs red lb lw kk n m news
section
variable {prog : Program} {w : World} {A : Around} {E : Value → Shared → Prop} {s : Shared} {x y : Str} {t u : Tok} {B : Bool}
theorem ne_at {Q : Value → Shared → Prop} (hb : (x != y) = B) (h : Q (.bool B) s) : wpAny (model prog w) A (compareOp .NotEq (.str x t) (.str y u)) Q E s := by
  subst hb
  exact ne_str h
end
theorem word_ne (d c : Nat) : (wordS d c != Str.ofString "") = true := by
  have e : Str.ofString "" = Str.empty := by decide +kernel
  rw [e, bne_iff_ne]
  intro h
  have := congrArg (fun s : Str => s.cps.size) h
  simp [wordS, wordA, Str.empty] at this
theorem empty_ne : (Str.empty != Str.ofString "") = false := by decide +kernel
theorem floodF_nil (N : Nat) (bs : List Int) (red : Bool) (n : Nat) (seen : List Nat) (few : Nat) : floodF N bs red n seen [] few = few := by cases n <;> rfl
theorem item_word (d c : Nat) : Txt.item (wordS d c) (-1) = letterS c := by
  have hl : (wordS d c).length = d + 1 := wordS_len d c
  have e : Txt.charAt (wordS d c) (-1) = some (c + 97) := by
    unfold Txt.charAt
    rw [hl]
    have e1 : seqIndex? (-1) (d + 1) = some d := by
      unfold seqIndex?
      have : (-1 : Int) + ((d + 1 : Nat) : Int) = (d : Int) := by omega
      simp only [show ((-1 : Int) < 0) from by decide, if_true, this]
      simp
      omega
    rw [e1]
    show (wordS d c).cps[d]? = some (c + 97)
    simp [wordS, wordA]
  unfold Txt.item
  rw [e]; rfl
noncomputable def dotsS (k : Nat) : Str := ⟨(List.replicate k 46).toArray⟩
theorem dots_letter (k c : Nat) : dotsS k ++ letterS c = wordS k c := by
  show (⟨(List.replicate k 46).toArray ++ #[c + 97]⟩ : Str) = _
  unfold wordS wordA
  congr 1
  apply Array.ext'
  simp
theorem filterMap_same {f : Nat → Option Nat} {b : Nat} : ∀ l : List Nat, (∀ k ∈ l, f k = some b) → l.filterMap f = List.replicate l.length b
  | [], _ => rfl
  | k :: l, h => by rw [List.filterMap_cons, h k (.head _), filterMap_same l fun k hk => h k (.tail _ hk)]; rfl
theorem cut_word (d c : Nat) : Txt.slice (wordS d c) none (some (-1)) = dotsS d := by
  have hl : (wordS d c).length = d + 1 := wordS_len d c
  have e1 : PySem.Builtin.Str.strSliceIndices none (some (-1)) 1 (d + 1) = List.range d := by
    unfold PySem.Builtin.Str.strSliceIndices PySem.sliceRange
    have e2 : max (0 : Int) (min (-1 + ((d + 1 : Nat) : Int)) ((d + 1 : Nat) : Int)) = (d : Int) := by omega
    simp only [show ((1 : Int) > 0) from by decide, show ((-1 : Int) < 0) from by decide, if_true, e2]
    by_cases hd : d = 0
    · subst hd; rfl
    · rw [if_pos (by omega)]
      have e3 : (((d : Int) - 0 + 1 - 1) / 1).toNat = d := by simp
      rw [e3]
      refine List.ext_getElem (by simp) fun k h1 h2 => ?_
      simp
  unfold Txt.slice
  rw [hl, e1, List.length_range]
  rw [if_neg (by simp)]
  unfold dotsS
  have e4 : List.filterMap (fun k => (wordS d c).cps[k]?) (List.range d) = List.replicate (List.range d).length 46 := by
    refine filterMap_same _ fun k hk => ?_
    have hk' := List.mem_range.mp hk
    simp [wordS, wordA, List.getElem?_append, List.getElem?_replicate, hk']
  rw [e4, List.length_range]
inductive IfEnd (h₀ : Heap) (L : Addr) (s : Shared) (news : List (Addr × Obj)) (facts : Tok × Tok × Tok → List (Str × Value)) (f : Flow) (s' : Shared) : Prop
  | mk (qa0 : f = .next) (tf : Tok × Tok × Tok) (h' : Heap) (tk' : Nat) (m' : Str → Option Value) (qb0 : s' = { s with heap := h', toks := tk' }) (qb1 : Fr h₀ L h' m') (qb2 : News h₀ L h' news) (qb3 : ∀ p ∈ facts tf, m' p.1 = some p.2) : IfEnd h₀ L s news facts f s'
theorem IfEnd.intro {h₀ : Heap} {L : Addr} {s : Shared} {news : List (Addr × Obj)} {facts : Tok × Tok × Tok → List (Str × Value)} {h' : Heap} {tk' : Nat} {m' : Str → Option Value} (tf : Tok × Tok × Tok) (F : Fr h₀ L h' m') (N : News h₀ L h' news) (hm : ∀ p ∈ facts tf, m' p.1 = some p.2) :
    IfEnd h₀ L s news facts .next { s with heap := h', toks := tk' } := ⟨rfl, tf, h', tk', m', rfl, F, N, hm⟩
theorem if_join {M : Model} {A : Around} {E : Value → Shared → Prop} {s : Shared} {env : Env} {h₀ : Heap} {L : Addr} {m : Str → Option Value} {news : List (Addr × Obj)} {st : Stmt} {Q : Flow → Shared → Prop} (_F : Fr h₀ L s.heap m) (_N : News h₀ L s.heap news) (facts : Tok × Tok × Tok → List (Str × Value))
    (h1 : wpAny M A (exec st env) (IfEnd h₀ L s news facts) E s)
    (h2 : ∀ tf h' tk' m', Fr h₀ L h' m' → News h₀ L h' news → (∀ p ∈ facts tf, m' p.1 = some p.2) → Q .next { s with heap := h', toks := tk' }) : wpAny M A (exec st env) Q E s :=
  wpAny_mono h1 (fun f s' z => by
    obtain ⟨rfl, tf, h', tk', m', rfl, F, N, hm⟩ := z
    exact h2 tf h' tk' m' F N hm) fun _ _ e => e
noncomputable def fewNext (N : Nat) (red : Bool) (few dots c : Nat) : Nat := if few = 0 ∧ farC N red c then dots else few
theorem fewNext_red {N : Nat} {red : Bool} {few dots c : Nat} (h1 : (few : Int) = 0) (h2 : red = true) (h3 : ((c % N : Nat) : Int) = (N : Int) - 1) : fewNext N red few dots c = dots := by
  subst h2
  exact if_pos ⟨by omega, (by unfold farC; rw [if_pos rfl]; omega)⟩
theorem fewNext_redn {N : Nat} {red : Bool} {few dots c : Nat} (hN : 0 < N) (h2 : red = true) (h3 : ((c % N : Nat) : Int) ≠ (N : Int) - 1) : fewNext N red few dots c = few := by
  subst h2
  exact if_neg fun ⟨_, h⟩ => h3 (by unfold farC at h; rw [if_pos rfl] at h; omega)
theorem fewNext_blue {N : Nat} {red : Bool} {few dots c : Nat} (h1 : (few : Int) = 0) (h2 : red = false) (h3 : ((c / N : Nat) : Int) = (N : Int) - 1) : fewNext N red few dots c = dots := by
  subst h2
  exact if_pos ⟨by omega, (by unfold farC; rw [if_neg Bool.false_ne_true]; generalize c / N = z at *; omega)⟩
theorem fewNext_bluen {N : Nat} {red : Bool} {few dots c : Nat} (hN : 0 < N) (h2 : red = false) (h3 : ((c / N : Nat) : Int) ≠ (N : Int) - 1) : fewNext N red few dots c = few := by
  subst h2
  exact if_neg fun ⟨_, h⟩ => h3 (by unfold farC at h; rw [if_neg Bool.false_ne_true] at h; generalize c / N = z at *; omega)
theorem fewNext_few {N : Nat} {red : Bool} {few dots c : Nat} (h1 : ¬ (few : Int) = 0) : fewNext N red few dots c = few := if_neg fun ⟨h, _⟩ => h1 (by omega)
inductive WInv (w : World) (K : FM) (Z : FZ) (N : Nat) (bs : List Int) (red : Bool) (lb lw : Addr) (kk dots c : Nat) (seen : List Nat) (q : List (Nat × Nat)) (few : Nat) (tf : Tok × Tok × Tok) (tw tl ta : Tok) (ln : Int) (ep : Nat) (i : Nat) (m : Str → Option Value) (news : List (Addr × Obj)) : Prop
  | mk (T : List (Addr × Obj)) (words : List Value) (ew es : Nat) (qb0 : SpotsAre N T (waysF N bs red dots c (seen, q) i).1) (qb1 : WordsV words (waysF N bs red dots c (seen, q) i).2) (qb2 : (∀ p ∈ ([(Str.ofString "seen", .ref Z.aS), (Str.ofString "bits", .ref lb), (Str.ofString "ways", .ref lw), (Str.ofString "is_red", .bool red), (Str.ofString "fewest", .int (few : Int) tf.1), (Str.ofString "word", .str (wordS dots c) tw), (Str.ofString "across", .int ((c % N : Nat) : Int) tf.2.1), (Str.ofString "up", .int ((c / N : Nat) : Int) tf.2.2)] : List (Str × Value)), m p.1 = some p.2)) (qb3 : news = floodX w K Z tl ln words ew (kk : Int) ta ep (refsOf T) es T) : WInv w K Z N bs red lb lw kk dots c seen q few tf tw tl ta ln ep i m news
theorem ways_get {aW : _root_.Fin 6 → Addr} {i : Nat} {v : Value} (h : (#[.ref (aW 0), .ref (aW 1), .ref (aW 2), .ref (aW 3), .ref (aW 4), .ref (aW 5)] : Array Value)[i]? = some v) : ∃ d : _root_.Fin 6, i = d.val ∧ v = .ref (aW d) :=
  match i, h with
  | 0, h => ⟨0, rfl, (Option.some.inj h).symm⟩
  | 1, h => ⟨1, rfl, (Option.some.inj h).symm⟩
  | 2, h => ⟨2, rfl, (Option.some.inj h).symm⟩
  | 3, h => ⟨3, rfl, (Option.some.inj h).symm⟩
  | 4, h => ⟨4, rfl, (Option.some.inj h).symm⟩
  | 5, h => ⟨5, rfl, (Option.some.inj h).symm⟩
  | _ + 6, h => by simp at h
end
section
noncomputable def spotD (N c : Nat) : PySem.W.Dat := .tuple [.int ((c % N : Nat) : Int), .int ((c / N : Nat) : Int)]
theorem SpotsAre.dat {N : Nat} {T : List (Addr × Obj)} {seen : List Nat} (h : SpotsAre N T seen) : ∀ news : List (Addr × Obj), (∀ p ∈ T, p ∈ news) → PySem.W.DatAll news (refsOf T) (seen.map (spotD N)) := by
  induction h with
  | nil => exact fun _ _ => .nil
  | cons a c x y t u hx hy _ ih =>
    subst hx hy
    intro news hn
    exact .cons (.tuple (vs := [.int _ t, .int _ u]) (hn _ (.head _)) (.cons (.int _ _) (.cons (.int _ _) .nil))) (ih news fun p hp => hn p (.tail _ hp))
theorem spotD_ok (N c : Nat) : PySem.W.kqdOk 8 (spotD N c) = true := by
  simp [spotD, PySem.W.kqdOk]
theorem spotD_in {N c : Nat} {seen : List Nat} : spotD N c ∈ seen.map (spotD N) ↔ c ∈ seen := by
  constructor
  · intro h
    obtain ⟨e, he, q⟩ := List.mem_map.mp h
    unfold spotD at q
    simp only [PySem.W.Dat.tuple.injEq, List.cons.injEq, PySem.W.Dat.int.injEq, and_true] at q
    have h1 : e % N = c % N := by exact_mod_cast q.1
    have h2 : e / N = c / N := by exact_mod_cast q.2
    have : e = c := by rw [← Nat.mod_add_div e N, ← Nat.mod_add_div c N, h1, h2]
    exact this ▸ he
  · exact fun h => List.mem_map_of_mem h
section
variable {prog : Program} {w : World} {A : Around} {E : Value → Shared → Prop} {s : Shared} {h₀ : Heap} {L aS q : Addr} {news T : List (Addr × Obj)} {N es : Nat} {seen : List Nat} {X Y : Int} {t u : Tok} {Q : Value → Shared → Prop}
theorem spot_notIn (Nw : News h₀ L s.heap news) (hSp : SpotsAre N T seen) (hT : ∀ p ∈ T, p ∈ news) (ha : (aS, W.listOf (refsOf T).toArray es) ∈ news) (hx : (q, tupI X Y t u) ∈ news) (hin : inside N X Y) (hu : A.units + 64 < cLine)
    (h : Q (.bool (decide (codeI N X Y ∉ seen))) s) : wpAny (model prog w) A (compareOp .NotIn (.ref q) (.ref aS)) Q E s := by
  obtain ⟨_, hX, hY⟩ := inside_code hin
  have dx : PySem.W.DatIn news (.ref q) (spotD N (codeI N X Y)) := by
    have hx' := hx
    unfold spotD
    rw [← hX, ← hY]
    exact .tuple (vs := [.int X t, .int Y u]) hx' (.cons (.int _ _) (.cons (.int _ _) .nil))
  refine PySem.W.kqd_notIn Nw ha rfl rfl (hSp.dat news hT) (fun _ h => h) dx (fun _ h => h) ?_ (spotD_ok _ _) hu ?_
  · intro d hd
    obtain ⟨e, _, rfl⟩ := List.mem_map.mp hd
    exact spotD_ok _ _
  · by_cases hc : codeI N X Y ∈ seen
    · rw [decide_eq_false (fun z => z hc)] at h
      have e := spotD_in (N := N).mpr hc
      simpa [e] using h
    · rw [decide_eq_true hc] at h
      have e : spotD N (codeI N X Y) ∉ seen.map (spotD N) := fun z => hc (spotD_in.mp z)
      simpa [e] using h
end
theorem waysF_stay {N : Nat} {bs : List Int} {red : Bool} {dots c : Nat} {σ : List Nat × List (Nat × Nat)} {d : _root_.Fin 6} (h : ¬ (inside N (spotX N c d) (spotY N c d) ∧ codeI N (spotX N c d) (spotY N c d) ∉ (waysF N bs red dots c σ d.val).1 ∧ (isRed N bs (spotX N c d) (spotY N c d) == red) = true)) :
    waysF N bs red dots c σ (d.val + 1) = waysF N bs red dots c σ d.val := by
  rw [waysF_succ]
  exact if_neg h
theorem waysF_go {N : Nat} {bs : List Int} {red : Bool} {dots c : Nat} {σ : List Nat × List (Nat × Nat)} {d : _root_.Fin 6} (h1 : inside N (spotX N c d) (spotY N c d)) (h2 : codeI N (spotX N c d) (spotY N c d) ∉ (waysF N bs red dots c σ d.val).1) (h3 : (isRed N bs (spotX N c d) (spotY N c d) == red) = true) :
    waysF N bs red dots c σ (d.val + 1) = ((waysF N bs red dots c σ d.val).1 ++ [codeI N (spotX N c d) (spotY N c d)], (waysF N bs red dots c σ d.val).2 ++ [(dots + 1, codeI N (spotX N c d) (spotY N c d))]) := by
  rw [waysF_succ]
  exact if_pos ⟨h1, h2, h3⟩
theorem WInv.stay {w : World} {K : FM} {Z : FZ} {N : Nat} {bs : List Int} {red : Bool} {lb lw : Addr} {kk dots c : Nat} {seen : List Nat} {q : List (Nat × Nat)} {few : Nat} {tf : Tok × Tok × Tok} {tw tl ta : Tok} {ln : Int} {ep : Nat} {d : _root_.Fin 6} {m : Str → Option Value} {T : List (Addr × Obj)} {words : List Value} {ew es : Nat}
    (hSp : SpotsAre N T (waysF N bs red dots c (seen, q) d.val).1) (hw : WordsV words (waysF N bs red dots c (seen, q) d.val).2)
    (h : ¬ (inside N (spotX N c d) (spotY N c d) ∧ codeI N (spotX N c d) (spotY N c d) ∉ (waysF N bs red dots c (seen, q) d.val).1 ∧ (isRed N bs (spotX N c d) (spotY N c d) == red) = true))
    (hm : ∀ p ∈ ([(Str.ofString "seen", .ref Z.aS), (Str.ofString "bits", .ref lb), (Str.ofString "ways", .ref lw), (Str.ofString "is_red", .bool red), (Str.ofString "fewest", .int (few : Int) tf.1), (Str.ofString "word", .str (wordS dots c) tw), (Str.ofString "across", .int ((c % N : Nat) : Int) tf.2.1), (Str.ofString "up", .int ((c / N : Nat) : Int) tf.2.2)] : List (Str × Value)), m p.1 = some p.2) :
    WInv w K Z N bs red lb lw kk dots c seen q few tf tw tl ta ln ep (d.val + 1) m (floodX w K Z tl ln words ew (kk : Int) ta ep (refsOf T) es T) :=
  ⟨T, words, ew, es, by rw [waysF_stay h]; exact hSp, by rw [waysF_stay h]; exact hw, hm, rfl⟩
section
variable {prog : Program} {w : World} {A : Around} {E : Value → Shared → Prop} {s : Shared} {value slice : PySem.Expr} {x : Str} {t : Tok} {h₀ h : Heap} {tk : Nat} {L : Addr} {m : Str → Option Value} {news : List (Addr × Obj)} {Q : Value → Shared → Prop}
theorem slice_cut {j : Int} {uj : Tok} (hF : Fr h₀ L h m) (hN : News h₀ L h news) (hQ : ∀ h' t' k, Fr h₀ L h' m → News h₀ L h' news → Q (.str (Txt.slice x none (some j)) t') { s with heap := h', toks := k })
    (hs : subscripted slice false (.str x t) (.ref h.objs.size) = operate [.ref h.objs.size, .str x t] (getItem (.str x t) (.ref h.objs.size))) (ht : ∀ r, letTemporaryGo value (.str x t) r = pure ()) (hsz : x.length ≤ sizeLine) :
    wpAny (model prog w) A (subscriptTail value slice (.str x t) (.ref h.objs.size)) Q E { s with heap := h.push { cls := .type "slice", data := .fields #[.none, .int j uj, .none] }, toks := tk } :=
  PyProof.Rows.slice_strN_ns (s := { s with heap := h, toks := tk }) hF hN hQ hs ht hsz
end
theorem WInv.go {w : World} {K : FM} {Z : FZ} {N : Nat} {bs : List Int} {red : Bool} {lb lw : Addr} {kk dots c : Nat} {seen : List Nat} {q : List (Nat × Nat)} {few : Nat} {tf : Tok × Tok × Tok} {tw tl ta : Tok} {ln : Int} {ep : Nat} {d : _root_.Fin 6} {m : Str → Option Value} {T : List (Addr × Obj)} {words : List Value} {ew es : Nat} {D : Addr} {t u tw9 : Tok}
    (hSp : SpotsAre N T (waysF N bs red dots c (seen, q) d.val).1) (hw : WordsV words (waysF N bs red dots c (seen, q) d.val).2)
    (h1 : inside N (spotX N c d) (spotY N c d)) (h2 : codeI N (spotX N c d) (spotY N c d) ∉ (waysF N bs red dots c (seen, q) d.val).1) (h3 : (isRed N bs (spotX N c d) (spotY N c d) == red) = true)
    (hm : ∀ p ∈ ([(Str.ofString "seen", .ref Z.aS), (Str.ofString "bits", .ref lb), (Str.ofString "ways", .ref lw), (Str.ofString "is_red", .bool red), (Str.ofString "fewest", .int (few : Int) tf.1), (Str.ofString "word", .str (wordS dots c) tw), (Str.ofString "across", .int ((c % N : Nat) : Int) tf.2.1), (Str.ofString "up", .int ((c / N : Nat) : Int) tf.2.2)] : List (Str × Value)), m p.1 = some p.2) :
    WInv w K Z N bs red lb lw kk dots c seen q few tf tw tl ta ln ep (d.val + 1) m (floodX w K Z tl ln (words ++ [.str (wordS (dots + 1) (codeI N (spotX N c d) (spotY N c d))) tw9]) ew (kk : Int) ta ep (refsOf T ++ [Value.ref D]) es (T ++ [(D, tupI (spotX N c d) (spotY N c d) t u)])) :=
  ⟨T ++ [(D, tupI (spotX N c d) (spotY N c d) t u)], words ++ [.str (wordS (dots + 1) (codeI N (spotX N c d) (spotY N c d))) tw9], ew, es, by rw [waysF_go h1 h2 h3]; exact hSp.snoc _ _ _ _ _ _ (inside_code h1).2.1 (inside_code h1).2.2,
    by rw [waysF_go h1 h2 h3]; exact hw.snoc (dots + 1) _ _, hm, by rw [refsOf_snoc]⟩
theorem dots_size (k c : Nat) : (dotsS k).length + (letterS c).length = k + 1 := by
  show (List.replicate k 46).toArray.size + 1 = k + 1
  simp
theorem StOk.tail {N : Nat} {seen : List Nat} {z : Nat × Nat} {q : List (Nat × Nat)} (h : StOk N seen (z :: q)) : StOk N seen q := ⟨h.lt, h.all, fun p hp => h.q p (.tail _ hp)⟩
theorem waysF_len {N n : Nat} {bs : List Int} {red : Bool} {seen : List Nat} {dots c : Nat} {q : List (Nat × Nat)} {words : List Value} (hst : StOk N seen ((dots, c) :: q)) (hms : measQ N seen ((dots, c) :: q) ≤ n ∧ n ≤ 40) {i : Nat} (hi : i ≤ 6) (hw : WordsV words (waysF N bs red dots c (seen, q) i).2) : words.length ≤ 1000 := by
  have h := (waysF_ok (bs := bs) (red := red) (dots := dots) (c := c) (σ := (seen, q)) hst.tail (hst.q _ (.head _)).2.1 i hi).2.2
  rw [hw.length]
  obtain ⟨h1, h2⟩ := hms
  unfold measQ at h h1
  rw [List.length_cons] at h1
  dsimp only at h
  omega
theorem FlInv.turn {w : World} {K : FM} {Z : FZ} {N : Nat} {bs : List Int} {red : Bool} {lb lw : Addr} {kk n dots c few : Nat} {seen : List Nat} {q : List (Nat × Nat)} {tf tw tl ta : Tok} {ln : Int} {ep ew es : Nat} {m : Str → Option Value} {T : List (Addr × Obj)} {words : List Value}
    (hst : StOk N seen ((dots, c) :: q)) (hms : measQ N seen ((dots, c) :: q) ≤ n ∧ n ≤ 40) (hfl : floodF N bs red n seen ((dots, c) :: q) few = floodRes N bs red)
    (hSp : SpotsAre N T (waysF N bs red dots c (seen, q) 6).1) (hw : WordsV words (waysF N bs red dots c (seen, q) 6).2.tail)
    (hm : ∀ p ∈ ([(Str.ofString "seen", .ref Z.aS), (Str.ofString "bits", .ref lb), (Str.ofString "ways", .ref lw), (Str.ofString "is_red", .bool red), (Str.ofString "fewest", .int (fewNext N red few dots c : Nat) tf), (Str.ofString "word", .str (headS (waysF N bs red dots c (seen, q) 6).2) tw)] : List (Str × Value)), m p.1 = some p.2) :
    FlInv w K Z N bs red lb lw kk (n - 1) m (floodX w K Z tl ln words ew (kk : Int) ta ep (refsOf T) es T) := by
  obtain ⟨a1, a2, a3⟩ := waysF_ok (bs := bs) (red := red) (dots := dots) (c := c) (σ := (seen, q)) hst.tail (hst.q _ (.head _)).2.1 6 (Nat.le_refl _)
  obtain ⟨h1, h2⟩ := hms
  have h1' := h1
  unfold measQ at h1
  rw [List.length_cons] at h1
  obtain ⟨k, rfl⟩ : ∃ k, n = k + 1 := ⟨n - 1, by omega⟩
  refine ⟨_, _, _, tw, tf, tl, ta, ln, T, words, ew, ep, es, a1, ⟨?_, by omega⟩, hfl, hSp, hw, hm, rfl⟩
  dsimp only at a3
  unfold measQ at a3 ⊢
  omega
theorem meas_pos {N n : Nat} {seen : List Nat} {z : Nat × Nat} {q : List (Nat × Nat)} (hms : measQ N seen (z :: q) ≤ n ∧ n ≤ 40) : n - 1 < n := by
  obtain ⟨h1, _⟩ := hms
  unfold measQ at h1
  rw [List.length_cons] at h1
  omega
end
section
theorem off_A72_flood : True := by (w_top off); first | walk1 | trivial
local macro_rules | `(tactic| walk_at $s:str) => if ["pyIter ref", "exec For Name Name cons nil", "exec While", "exec While Compare cons nil", "call builtin:min", "call builtin:max", "compareOp NotIn", "ListEnd", "call builtin:ord", "call builtin:divmod", "IfEnd", "UnrEnd", "CompSrc", "CompEnd", "call ref", "call builtin:list.append", "call builtin:str.join", "call builtin:chr", "binaryOp Mult int int", "binaryOp Add str str"].contains s.getString then `(tactic| refine hold_in ?_) else Lean.Macro.throwUnsupported
local macro_rules | `(tactic| walk_at "compareOp NotEq str str") => `(tactic| first | ((with_reducible refine' ne_at (B := true) ?hb ?_); (case hb => exact word_ne _ _)) | ((with_reducible refine' ne_at (B := false) ?hb ?_); (case hb => exact empty_ne)))
local macro_rules | `(tactic| walk_at "subscriptTail") => `(tactic| ((with_reducible show wpAny _ _ (subscriptTail (PySem.Expr.Name (Str.ofString "word") _) _ (Value.str _ _) (Value.int _ _)) _ _ _); refine hold_in ?_))
local macro_rules | `(tactic| walk_at "subscriptTail") => `(tactic| ((with_reducible show wpAny _ _ (subscriptTail (Expr.Name (Str.ofString "way") _) _ (Value.ref _) (Value.int _ _)) _ _ _); (rename WalkPre _ _ _ _ _ _ _ _ => hwp); (first | (with_reducible refine' way_0 ?k1 ?_) | (with_reducible refine' way_1 ?k1 ?_)); (case k1 => exact Fr.keep (by k_asm) _ _ (hwp.way _))))
local macro_rules | `(tactic| walk_at "exec If") => `(tactic| ((fail_if_success (with_reducible show wpAny _ _ _ (IfEnd _ _ _ _ _) _ _)); (with_reducible show wpAny _ _ (exec (PySem.Stmt.If (PySem.Expr.BoolOp _ (PySem.Expr.Compare (PySem.Expr.Name (Str.ofString "fewest") _) _ _ _ :: _) _) _ _ _) _) _ _ _); refine hold_in ?_))
local macro_rules | `(tactic| walk_at "getMethod ref") => `(tactic| ((with_reducible show wpAny _ _ (getMethod (Value.ref (FM.xM _)) _ _) _ _ _); refine hold_in ?_))
local macro_rules | `(tactic| walk_at "storeName") => `(tactic| ((with_reducible show wpAny _ _ (storeName _ (Str.ofString "machine") _) _ _ _); refine hold_in ?_))
local macro_rules | `(tactic| walk_at "eval Call") => `(tactic| ((with_reducible show wpAny _ _ (eval (PySem.Expr.Call (PySem.Expr.Name (Str.ofString "_law_is_red") _) _ _ _) _) _ _ _); k_dflt (refine Call_ ?_)))
set_option maxHeartbeats 16000000 in
theorem does_flood {w : World} {p : Program} {loose : List Str} {mean : ExcName → Option Value} {mg mb : Str → Option Value} {N : Nat} {tn : Tok} {lb lw : Addr} {bv : List Value} {bs : List Int} {aW : _root_.Fin 6 → Addr} {tW uW : _root_.Fin 6 → Tok} {red : Bool}
    {PreM : Heap → Prop} {mu0 : List (Addr × Obj)} {tabOk : Addr → Obj → Obj → Prop} (hPk : ∀ g g', g.StaysIn g' → PreM g → PreM g') (hmu : ∀ q ∈ mu0, ∀ x y t u, q.2 ≠ tupI x y t u)
    (hMach : ∀ (x : Str) (tx : Tok), x.length ≤ 64 → Does w p loose mean mg mb 10 500 PreM (.ref 130) [.str x tx] mu0 (MachPost w p loose mean mg mb x tx tabOk))
    (hints : IntsAre bv bs) (hlen : bs.length = ((N : Int) * ((N : Int) + 1)).toNat) (hn : SizeOk N) :
    Does w p loose mean mg mb 40 800 (fun g => WalkPre N lb lw bv aW tW uW g ∧ PreM g) (.ref 156) [.int N tn, .ref lb, .ref lw, .bool red] mu0 (FloodPost tabOk (floodRes N bs red)) := by
  intro dp un gd cn cs a ccd cl outer A₀ base h₀ L m s Q E still hB hF hX hN hap hT hk hP hdp hun hret
  ((have hfill := hd_kept; (have : hd_kept = hd_kept := by (revert hfill; k_fill; intro _; rfl)); clear this hfill))
  ((refine wpAny_call ?_; k_dflt (refine' enter_topC ?k1 ?k2 ?k3 ?k4 ?k4a ?k5 ?kA ?kF ?kK ?k6 ?k7 ?k8 ?k9 ?kB ?kD ?_ ?c2 ?c3 ?c4; (case kA => exact rfl); (case kF => exact rfl); (case kK => first | exact rfl | assumption); (case k1 => k_asm); (case k2 => k_asm); (case k3 => k_asm); (case k4 => k_asm); (case k4a => k_asm); (case k5 => k_asm); (case k6 => k_is); (case k7 => k_is); (case k8 => ktr_room); (case k9 => exact BindsTo.of_eq rfl); (case kB => exact rfl); (case kD => decide +kernel); (case c2 => exact rfl); (case c3 => exact rfl); (case c4 => exact rfl); k_whole; intro g8' L8' h8' tk8' cells8' FG8' F8' N8' Y8' B8' X8' T8' st8' stl8' l18; (try k_lt l18); k_cells Y8'; (try simp only [List.cons_append, List.nil_append, List.append_nil] at N8'); (try dsimp only); (try k_lift B8'); (try k_fold))))
  (rename ∀ p ∈ mu0, p.1 < _ => hl1)
  have hl0 : ∀ p ∈ mu0, @LT.lt Nat _ p.1 _ := hl1
  clear hl1
  obtain ⟨hp, hcd⟩ := hP _ (by assumption) (by assumption)
  walk_at "hx_steps"
  refine hold_out ?_
  (rename IsRange _ _ _ _ _ _ _ _ => hR)
  k_dflt (refine' iter_rangeUnr (n := N) (by rfl) hR ?k1 ?k2 ?k3 ?k4 ?k5; (case k1 => (rcases hn with rfl | rfl <;> decide)); (case k2 => (rcases hn with rfl | rfl <;> decide)); (case k3 => assumption); (case k4 => assumption))
  intro I hI
  replace hI := allLt_of hI
  simp only [W.AllLt, and_true] at hI
  refine' range_inv (Fl1Inv N bs red _ lb lw (_ :: _ :: mu0)) ?turn ?done _ 0 _ _ (by rw [Nat.add_zero]) ?start
  case start =>
    refine' ⟨[], 0, ?hm, by simp only [List.append_nil]; rfl, .nil⟩
    case hm =>
      repeat' (first | exact facts_nil | refine facts_cons rfl ?_ | exact List.forall_mem_nil _ | (refine' fmc ?qf9 (?_); (case qf9 => rfl)))
  case turn =>
    rintro i m2 news2 t2 h2 tk2 hi ⟨T, ep, hm, rfl, hS⟩ F2 N2
    replace F2 := fr_withB _ hm F2
    clear hm
    dsimp only [withB] at F2
    simp only [List.cons_append, List.nil_append] at N2
    cases red with
    | true =>
      refine wpAny_cut ?_
      intro QC EC hQC
      walk_at "hx_steps"
      refine hold_out ?_
      k_dflt (refine' Does.use0E (does_isred (n := N) (bs := bs) hints hlen ?n4) ?b1 ?b2 ?b3 ?b4 ?b5 ?b6 ?b7 ?b8 ?b9 ?_; (((case b1 => k_asm); (case b2 => k_asm); (case b3 => k_asm); (case b4 => k_asm); (case b5 => k_asm); (case b6 => first | exact rfl | assumption); (case b8 => (first | (refine' room0 ?qh ?qb; (case qh => assumption); (case qb => exact Nat.le_of_ble_eq_true rfl)) | (refine' room1 ?qh ?qb; (case qh => assumption); (case qb => exact Nat.le_of_ble_eq_true rfl)) | (refine' room2 ?qh ?qb; (case qh => assumption); (case qb => exact Nat.le_of_ble_eq_true rfl)) | omega | ((try simp only [depth_under_make, depth_under_kw, depth_in1, depth_deeper, depth_caller, units_in1, units_deeper, Around.mark_units, units_caller]); (try dsimp only [ktrTop]); omega))); (case b9 => (first | (refine' room0 ?qh ?qb; (case qh => assumption); (case qb => exact Nat.le_of_ble_eq_true rfl)) | (refine' room1 ?qh ?qb; (case qh => assumption); (case qb => exact Nat.le_of_ble_eq_true rfl)) | (refine' room2 ?qh ?qb; (case qh => assumption); (case qb => exact Nat.le_of_ble_eq_true rfl)) | omega | ((try simp only [depth_under_make, depth_under_kw, depth_in1, depth_deeper, depth_caller, units_in1, units_deeper, Around.mark_units, units_caller]); (try dsimp only [ktrTop]); omega))))); (case n4 => (have := hn.le; omega)); (case b7 => (intro g hg hs; exact hp.bits.at fun o e => hg _ o e)))
      intro h' tk' F' N'
      (try dsimp only)
      walk_at "hx_steps"
      · refine hold_out ?_
        (rename News _ _ _ (_ :: _) => hN9); (rename Fr _ _ _ _ => hF9)
        (replace hN9 := news_sub (r := _ :: _ :: _ :: _ :: (mu0 ++ (T ++ [_]))) hN9 (fmc (.tail _ (.tail _ (.head _))) (fmc (.tail _ (.head _)) (fmc (.tail _ (.tail _ (.tail _ (.head _)))) (fmc (.tail _ (.tail _ (.tail _ (.tail _ (.head _))))) (app3 (fun p hp => (.tail _ (.tail _ (.tail _ (.tail _ (.tail _ (List.mem_append_left _ hp))))))) (fun p hp => (.tail _ (.tail _ (.tail _ (.tail _ (.tail _ (List.mem_append_right _ hp))))))) (.head _)))))))
        refine append_head hF9 hN9 (fmc (show @Ne Nat _ _ by omega) (fmc (show @Ne Nat _ _ by omega) (fmc (show @Ne Nat _ _ by omega) (app3 (fun p hp => Nat.ne_of_lt (show @LT.lt Nat _ p.1 _ from by have := hl0 p hp; omega)) (fun p hp => ne_tail hN9 (fun p hp => (.tail _ (.tail _ (.tail _ (List.mem_append_right _ hp))))) (snoc_all hS.cls rfl) (list_ne_tup _ _) p (List.mem_append_left _ hp)) (ne_tail hN9 (fun p hp => (.tail _ (.tail _ (.tail _ (List.mem_append_right _ hp))))) (snoc_all hS.cls rfl) (list_ne_tup _ _) _ (List.mem_append_right _ (.head _))))))) ?_ ?_
        · rw [refsOf_length, hS.length]
          have := startF_length (N := N) (bs := bs) (red := true) (i := i)
          have := hn.le
          omega
        intro h' F' N'
        clear hF9 hN9
        walk_at "hx_steps"
        refine hQC _ _ ?_
        try dsimp only
        walk_at "hx_steps"
        refine hold_out ?_
        (rename News _ _ _ (_ :: _) => hN9); (rename Fr _ _ _ _ => hF9)
        refine UnrEnd.intro hF9 hN9 (_ :: _ :: _ :: (mu0 ++ (T ++ [_]))) (fmc (.tail _ (.head _)) (fmc (.head _) (fmc (.tail _ (.tail _ (.head _))) (fmc (.tail _ (.tail _ (.tail _ (.head _)))) (fun p hp => (.tail _ (.tail _ (.tail _ (.tail _ hp))))))))) (fmc (show @Ne Nat _ _ by omega) (fmc (show @Ne Nat _ _ by omega) (fmc (show @Ne Nat _ _ by omega) (app3 (fun p hp => Nat.ne_of_lt (show @LT.lt Nat _ p.1 _ from by have := hl0 p hp; omega)) (fun p hp => apart_mem hN9 (.tail _ (.head _)) (fun p hp => (.tail _ (.tail _ (.tail _ (.tail _ (List.mem_append_right _ hp)))))) (snoc_all hS.cls rfl) (rit_ne_tup _ _) p (List.mem_append_left _ hp)) (apart_mem hN9 (.tail _ (.head _)) (fun p hp => (.tail _ (.tail _ (.tail _ (.tail _ (List.mem_append_right _ hp)))))) (snoc_all hS.cls rfl) (rit_ne_tup _ _) _ (List.mem_append_right _ (.head _))))))) ?_
        exact fl1_step (rest := _ :: _ :: mu0) (by
        repeat' (first | exact facts_nil | refine facts_cons rfl ?_ | exact List.forall_mem_nil _ | (refine' fmc ?qf9 (?_); (case qf9 => rfl)))) hS (start_redT hn (by assumption)) (by rw [Nat.mul_mod_right]; rfl) (by rw [Nat.mul_div_cancel_left _ hn.pos]; omega)
      · refine hQC _ _ ?_
        try dsimp only
        walk_at "hx_steps"
        refine hold_out ?_
        (rename News _ _ _ (_ :: _) => hN9); (rename Fr _ _ _ _ => hF9)
        refine UnrEnd.intro hF9 hN9 (_ :: _ :: _ :: (mu0 ++ T)) (fmc (.tail _ (.head _)) (fmc (.tail _ (.tail _ (.head _))) (fmc (.tail _ (.tail _ (.tail _ (.head _)))) (fmc (.tail _ (.tail _ (.tail _ (.tail _ (.head _))))) (fun p hp => (.tail _ (.tail _ (.tail _ (.tail _ (.tail _ hp)))))))))) (fmc (show @Ne Nat _ _ by omega) (fmc (show @Ne Nat _ _ by omega) (fmc (show @Ne Nat _ _ by omega) (List.forall_mem_append.mpr ⟨fun p hp => Nat.ne_of_lt (show @LT.lt Nat _ p.1 _ from by have := hl0 p hp; omega), apart_mem hN9 (.tail _ (.head _)) (fun p hp => (.tail _ (.tail _ (.tail _ (.tail _ (.tail _ (List.mem_append_right _ hp))))))) hS.cls (rit_ne_tup _ _)⟩)))) ?_
        exact ⟨T, ep, (by
        repeat' (first | exact facts_nil | refine facts_cons rfl ?_ | exact List.forall_mem_nil _ | (refine' fmc ?qf9 (?_); (case qf9 => rfl)))), rfl, by rw [start_redF hn (by first | assumption | (rw [Bool.not_eq_true]; assumption))]; exact hS⟩
    | false =>
      refine wpAny_cut ?_
      intro QC EC hQC
      walk_at "hx_steps"
      refine hold_out ?_
      k_dflt (refine' Does.use0E (does_isred (n := N) (bs := bs) hints hlen ?n4) ?b1 ?b2 ?b3 ?b4 ?b5 ?b6 ?b7 ?b8 ?b9 ?_; (((case b1 => k_asm); (case b2 => k_asm); (case b3 => k_asm); (case b4 => k_asm); (case b5 => k_asm); (case b6 => first | exact rfl | assumption); (case b8 => (first | (refine' room0 ?qh ?qb; (case qh => assumption); (case qb => exact Nat.le_of_ble_eq_true rfl)) | (refine' room1 ?qh ?qb; (case qh => assumption); (case qb => exact Nat.le_of_ble_eq_true rfl)) | (refine' room2 ?qh ?qb; (case qh => assumption); (case qb => exact Nat.le_of_ble_eq_true rfl)) | omega | ((try simp only [depth_under_make, depth_under_kw, depth_in1, depth_deeper, depth_caller, units_in1, units_deeper, Around.mark_units, units_caller]); (try dsimp only [ktrTop]); omega))); (case b9 => (first | (refine' room0 ?qh ?qb; (case qh => assumption); (case qb => exact Nat.le_of_ble_eq_true rfl)) | (refine' room1 ?qh ?qb; (case qh => assumption); (case qb => exact Nat.le_of_ble_eq_true rfl)) | (refine' room2 ?qh ?qb; (case qh => assumption); (case qb => exact Nat.le_of_ble_eq_true rfl)) | omega | ((try simp only [depth_under_make, depth_under_kw, depth_in1, depth_deeper, depth_caller, units_in1, units_deeper, Around.mark_units, units_caller]); (try dsimp only [ktrTop]); omega))))); (case n4 => (have := hn.le; omega)); (case b7 => (intro g hg hs; exact hp.bits.at fun o e => hg _ o e)))
      intro h' tk' F' N'
      (try dsimp only)
      walk_at "hx_steps"
      · refine hold_out ?_
        (rename News _ _ _ (_ :: _) => hN9); (rename Fr _ _ _ _ => hF9)
        (replace hN9 := news_sub (r := _ :: _ :: _ :: _ :: (mu0 ++ (T ++ [_]))) hN9 (fmc (.tail _ (.tail _ (.head _))) (fmc (.tail _ (.head _)) (fmc (.tail _ (.tail _ (.tail _ (.head _)))) (fmc (.tail _ (.tail _ (.tail _ (.tail _ (.head _))))) (app3 (fun p hp => (.tail _ (.tail _ (.tail _ (.tail _ (.tail _ (List.mem_append_left _ hp))))))) (fun p hp => (.tail _ (.tail _ (.tail _ (.tail _ (.tail _ (List.mem_append_right _ hp))))))) (.head _)))))))
        refine append_head hF9 hN9 (fmc (show @Ne Nat _ _ by omega) (fmc (show @Ne Nat _ _ by omega) (fmc (show @Ne Nat _ _ by omega) (app3 (fun p hp => Nat.ne_of_lt (show @LT.lt Nat _ p.1 _ from by have := hl0 p hp; omega)) (fun p hp => ne_tail hN9 (fun p hp => (.tail _ (.tail _ (.tail _ (List.mem_append_right _ hp))))) (snoc_all hS.cls rfl) (list_ne_tup _ _) p (List.mem_append_left _ hp)) (ne_tail hN9 (fun p hp => (.tail _ (.tail _ (.tail _ (List.mem_append_right _ hp))))) (snoc_all hS.cls rfl) (list_ne_tup _ _) _ (List.mem_append_right _ (.head _))))))) ?_ ?_
        · rw [refsOf_length, hS.length]
          have := startF_length (N := N) (bs := bs) (red := false) (i := i)
          have := hn.le
          omega
        intro h' F' N'
        clear hF9 hN9
        walk_at "hx_steps"
        refine hQC _ _ ?_
        try dsimp only
        walk_at "hx_steps"
        refine hold_out ?_
        (rename News _ _ _ (_ :: _) => hN9); (rename Fr _ _ _ _ => hF9)
        refine UnrEnd.intro hF9 hN9 (_ :: _ :: _ :: (mu0 ++ (T ++ [_]))) (fmc (.tail _ (.head _)) (fmc (.head _) (fmc (.tail _ (.tail _ (.head _))) (fmc (.tail _ (.tail _ (.tail _ (.head _)))) (fun p hp => (.tail _ (.tail _ (.tail _ (.tail _ hp))))))))) (fmc (show @Ne Nat _ _ by omega) (fmc (show @Ne Nat _ _ by omega) (fmc (show @Ne Nat _ _ by omega) (app3 (fun p hp => Nat.ne_of_lt (show @LT.lt Nat _ p.1 _ from by have := hl0 p hp; omega)) (fun p hp => apart_mem hN9 (.tail _ (.head _)) (fun p hp => (.tail _ (.tail _ (.tail _ (.tail _ (List.mem_append_right _ hp)))))) (snoc_all hS.cls rfl) (rit_ne_tup _ _) p (List.mem_append_left _ hp)) (apart_mem hN9 (.tail _ (.head _)) (fun p hp => (.tail _ (.tail _ (.tail _ (.tail _ (List.mem_append_right _ hp)))))) (snoc_all hS.cls rfl) (rit_ne_tup _ _) _ (List.mem_append_right _ (.head _))))))) ?_
        exact fl1_step (rest := _ :: _ :: mu0) (by
        repeat' (first | exact facts_nil | refine facts_cons rfl ?_ | exact List.forall_mem_nil _ | (refine' fmc ?qf9 (?_); (case qf9 => rfl)))) hS (start_blueT (by omega) (by assumption)) (by rw [Nat.mod_eq_of_lt (by omega)]; omega) (by rw [Nat.div_eq_of_lt (by omega)]; rfl)
      · refine hQC _ _ ?_
        try dsimp only
        walk_at "hx_steps"
        refine hold_out ?_
        (rename News _ _ _ (_ :: _) => hN9); (rename Fr _ _ _ _ => hF9)
        refine UnrEnd.intro hF9 hN9 (_ :: _ :: _ :: (mu0 ++ T)) (fmc (.tail _ (.head _)) (fmc (.tail _ (.tail _ (.head _))) (fmc (.tail _ (.tail _ (.tail _ (.head _)))) (fmc (.tail _ (.tail _ (.tail _ (.tail _ (.head _))))) (fun p hp => (.tail _ (.tail _ (.tail _ (.tail _ (.tail _ hp)))))))))) (fmc (show @Ne Nat _ _ by omega) (fmc (show @Ne Nat _ _ by omega) (fmc (show @Ne Nat _ _ by omega) (List.forall_mem_append.mpr ⟨fun p hp => Nat.ne_of_lt (show @LT.lt Nat _ p.1 _ from by have := hl0 p hp; omega), apart_mem hN9 (.tail _ (.head _)) (fun p hp => (.tail _ (.tail _ (.tail _ (.tail _ (.tail _ (List.mem_append_right _ hp))))))) hS.cls (rit_ne_tup _ _)⟩)))) ?_
        exact ⟨T, ep, (by
        repeat' (first | exact facts_nil | refine facts_cons rfl ?_ | exact List.forall_mem_nil _ | (refine' fmc ?qf9 (?_); (case qf9 => rfl)))), rfl, by rw [start_blueF (by omega) (by first | assumption | (rw [Bool.not_eq_true]; assumption))]; exact hS⟩
  case done =>
    rintro m2 news2 h2 tk2 ⟨T, ep, hm, rfl, hS⟩ F2 N2
    dsimp only
    replace F2 := fr_withB0 _ hm F2
    clear hm
    dsimp only [withB] at F2
    simp only [List.cons_append, List.nil_append] at N2
    have hlt0 := startF_lt (bs := bs) (red := red) hn (Nat.le_refl N)
    have hle0 := startF_length (N := N) (bs := bs) (red := red) (i := N)
    generalize hS0 : startF N bs red N = S0 at hS hlt0 hle0
    walk_at "hx_steps"
    refine hold_out ?_
    (rename News _ _ _ (_ :: _) => hN9); (rename Fr _ _ _ _ => hF9)
    refine LCg.CompSrc.ledger (k := ep) rfl hF9 hN9 (.head _) (by rw [sizeLine_eq, List.size_toArray, refsOf_length, hS.length]; have := hn.le; omega) ?_
    intro gc
    refine' comp_inv (fun i ys news => news = _ ∧ WordsV ys ((S0.take i).map fun c => (1, c))) ?turn1 ?fin1 _ 0 [] _ (by rw [Nat.add_zero]) ⟨rfl, .nil⟩
    case turn1 =>
      rintro i v ys news I oI C oC D m₂ h tk E' hi ⟨rfl, hw⟩ hv hC hx F2 N2 off ne
      have hi2 : i < S0.length := by rw [← hS.length, ← refsOf_length]; simpa using hi
      obtain ⟨a, x, y, ta, ua, hTi, hxc, hyc⟩ := hS.at (List.getElem?_eq_getElem hi2)
      have hva : v = .ref a := by
        have e : (refsOf T)[i]? = some (.ref a) := by unfold refsOf; rw [List.getElem?_map, hTi]; rfl
        have e2 : (refsOf T)[i]? = some v := by simpa using hv
        rw [e] at e2; exact (Option.some.inj e2).symm
      subst hva
      have hmem := List.mem_of_getElem? hTi
      have N3 := news_sub (r := (a, tupI x y ta ua) :: _) N2 (fmc (.tail _ (.tail _ (.tail _ (.tail _ (.tail _ (.tail _ (List.mem_append_right _ hmem))))))) (fun _ h => h))
      clear N2 hTi hv hmem
      walk_at "hx_steps"
      refine hold_out ?_
      refine mul_int ?_ (mulN hn)
      try dsimp only
      walk_at "hx_steps"
      refine hold_out ?_
      refine chr_at (code_eq hxc hyc) (Nat.lt_of_lt_of_le (hlt0 _ (List.getElem_mem hi2)) hn.sq) ?_
      intro t9 tk9
      walk_at "hx_steps"
      refine hold_out ?_
      refine add_str ?_ (by rw [sizeLine_eq, dot_len]; show 1 + 1 ≤ _; decide)
      intro t8 tk8
      rw [word1]
      walk_at "hx_steps"
      refine hold_out ?_
      refine LCg.CompEnd.intro F2 N3 _ (fun p hp => .tail _ hp) off (.inr ⟨_, .head _, rfl, _, rfl⟩) ⟨rfl, ?_⟩
      rw [List.take_succ_eq_append_getElem hi2, List.map_append]
      exact hw.snoc 1 _ _
    case fin1 =>
      rintro ys news ⟨rfl, hw⟩
      unfold LCg.FinE
      intro D h tk F2 N2 off1
      have hT0 : S0.take (refsOf T).toArray.size = S0 := List.take_of_length_le (by rw [List.size_toArray, refsOf_length, hS.length]; exact Nat.le_refl _)
      rw [hT0] at hw
      clear hT0
      walk_at "hx_steps"
      refine hold_out ?_
      refine join_words hw (by have := hn.le; omega) (N2 _ (.head _)).1 ?_
      intro tT tkT
      have htl := join_len S0 (Nat.le_trans hle0 hn.le)
      generalize hTx : textOf S0 = tx at htl
      clear hw off1
      walk_at "hx_steps"
      refine hold_out ?_
      (rename News _ _ _ (_ :: _) => hN9)
      k_dflt (refine' Does.use (mu := mu0) (still := _ :: _ :: _ :: T) (hMach tx tT htl) ?b1 ?b2 ?b3 hN9 ?b5 ?b6 (List.forall_mem_append.mpr ⟨fun p hp => (.tail _ (.tail _ (.tail _ (.tail _ (List.mem_append_left _ hp))))), (fmc (.tail _ (.head _)) (fmc (.tail _ (.tail _ (.head _))) (fmc (.tail _ (.tail _ (.tail _ (.head _)))) (fun p hp => (.tail _ (.tail _ (.tail _ (.tail _ (List.mem_append_right _ hp)))))))))⟩) ?ba ?b7 ?b8 ?b9 ?_)
      case b1 => k_asm
      case b2 => k_asm
      case b3 => k_asm
      case b5 => k_asm
      case b6 => exact rfl
      case ba => exact fmc (fun q hq => (show @Ne Nat _ q.1 from by have := hl0 q hq; omega)) (fmc (fun q hq => (show @Ne Nat _ q.1 from by have := hl0 q hq; omega)) (fmc (fun q hq => (show @Ne Nat _ q.1 from by have := hl0 q hq; omega)) (apart_tups hN9 (fun p hp => (.tail _ (.tail _ (.tail _ (.tail _ (List.mem_append_right _ hp)))))) (fun q hq => (.tail _ (.tail _ (.tail _ (.tail _ (List.mem_append_left _ hq)))))) hS hmu)))
      case b7 => (intro g hg hs; exact hPk _ _ hg hcd)
      case b8 => (first | (refine' room0 ?qh ?qb; (case qh => assumption); (case qb => exact Nat.le_of_ble_eq_true rfl)) | (refine' room1 ?qh ?qb; (case qh => assumption); (case qb => exact Nat.le_of_ble_eq_true rfl)) | (refine' room2 ?qh ?qb; (case qh => assumption); (case qb => exact Nat.le_of_ble_eq_true rfl)) | omega | ((try simp only [depth_under_make, depth_under_kw, depth_in1, depth_deeper, depth_caller, units_in1, units_deeper, Around.mark_units, units_caller]); (try dsimp only [ktrTop]); omega))
      case b9 => (first | (refine' room0 ?qh ?qb; (case qh => assumption); (case qb => exact Nat.le_of_ble_eq_true rfl)) | (refine' room1 ?qh ?qb; (case qh => assumption); (case qb => exact Nat.le_of_ble_eq_true rfl)) | (refine' room2 ?qh ?qb; (case qh => assumption); (case qb => exact Nat.le_of_ble_eq_true rfl)) | omega | ((try simp only [depth_under_make, depth_under_kw, depth_in1, depth_deeper, depth_caller, units_in1, units_deeper, Around.mark_units, units_caller]); (try dsimp only [ktrTop]); omega))
      intro v' mu' h' tk' F' N' D' P'
      obtain ⟨pb, xM, dM, dd, st, f, c1, aL, aT, aA, k1, k2, k3, k4, tl, tw, kr, ta, fdS, fdF, o1, oA, oT, tab, qual, rfl, rfl, ⟨hap9, hqual, hoT, hoA, hread⟩, htab⟩ := P'
      have oS9 := outOf_of (D' _ (.head _))
      have oM9 := outOf_of (D' _ (.tail _ (.head _)))
      have oZ9 := outOf_of (D' _ (.tail _ (.tail _ (.head _))))
      clear D' hN9
      simp only [machL, List.cons_append, List.nil_append] at N'
      try dsimp only
      walk_at "hx_steps"
      refine hold_out ?_
      (rename News _ _ _ (_ :: _) => hN9); (rename Fr _ _ _ _ => hF9)
      (replace hN9 := news_sub (r := _ :: _ :: _ :: _ :: _ :: _ :: _ :: _ :: _ :: _ :: _ :: _ :: _ :: _ :: T) hN9 (fmc (.tail _ (.tail _ (.tail _ (.tail _ (.tail _ (.tail _ (.tail _ (.tail _ (.tail _ (.tail _ (.tail _ (.tail _ (.head _))))))))))))) (fmc (.head _) (fmc (.tail _ (.head _)) (fmc (.tail _ (.tail _ (.head _))) (fmc (.tail _ (.tail _ (.tail _ (.head _)))) (fmc (.tail _ (.tail _ (.tail _ (.tail _ (.head _))))) (fmc (.tail _ (.tail _ (.tail _ (.tail _ (.tail _ (.head _)))))) (fmc (.tail _ (.tail _ (.tail _ (.tail _ (.tail _ (.tail _ (.head _))))))) (fmc (.tail _ (.tail _ (.tail _ (.tail _ (.tail _ (.tail _ (.tail _ (.head _)))))))) (fmc (.tail _ (.tail _ (.tail _ (.tail _ (.tail _ (.tail _ (.tail _ (.tail _ (.head _))))))))) (fmc (.tail _ (.tail _ (.tail _ (.tail _ (.tail _ (.tail _ (.tail _ (.tail _ (.tail _ (.head _)))))))))) (fmc (.tail _ (.tail _ (.tail _ (.tail _ (.tail _ (.tail _ (.tail _ (.tail _ (.tail _ (.tail _ (.head _))))))))))) (fmc (.tail _ (.tail _ (.tail _ (.tail _ (.tail _ (.tail _ (.tail _ (.tail _ (.tail _ (.tail _ (.tail _ (.head _)))))))))))) (fmc (.tail _ (.tail _ (.tail _ (.tail _ (.tail _ (.tail _ (.tail _ (.tail _ (.tail _ (.tail _ (.tail _ (.tail _ (.tail _ (.head _)))))))))))))) (fun p hp => (.tail _ (.tail _ (.tail _ (.tail _ (.tail _ (.tail _ (.tail _ (.tail _ (.tail _ (.tail _ (.tail _ (.tail _ (.tail _ (.tail _ hp))))))))))))))))))))))))))))))
      obtain ⟨b1, b2, b3, b4, b5, b6, b7, b8, b9, ba, bb⟩ := id oM9
      k_dflt (refine' store_cellH hF9 hN9 ?ne ?cl1 ?cd1 ?_)
      case ne => exact (fmc (Ne.symm b1) (fmc (Ne.symm b2) (fmc (Ne.symm b3) (fmc (Ne.symm b8) (fmc (Ne.symm b4) (fmc (Ne.symm b5) (fmc (Ne.symm b6) (fmc (Ne.symm ba) (fmc (Ne.symm b9) (fmc (Ne.symm b7) (fmc (Ne.symm bb) (fmc (show @Ne Nat _ _ by omega) (fmc (show @Ne Nat _ _ by omega) (apart_cell hN9 (.head _) (fun p hp => (.tail _ (.tail _ (.tail _ (.tail _ (.tail _ (.tail _ (.tail _ (.tail _ (.tail _ (.tail _ (.tail _ (.tail _ (.tail _ (.tail _ hp))))))))))))))) hS (by assumption)))))))))))))))
      case cl1 => exact rfl
      case cd1 => assumption
      intro h9 oM' F9 N9 hoM
      clear hN9 hF9
      clear b1 b2 b3 b4 b5 b6 b7 b8 b9 ba bb
      replace N9 := news_sub (r := _ :: _ :: _ :: _ :: _ :: _ :: _ :: _ :: _ :: _ :: _ :: _ :: _ :: _ :: T) N9 (fmc (.tail _ (.head _)) (fmc (.tail _ (.tail _ (.head _))) (fmc (.tail _ (.tail _ (.tail _ (.head _)))) (fmc (.tail _ (.tail _ (.tail _ (.tail _ (.head _))))) (fmc (.tail _ (.tail _ (.tail _ (.tail _ (.tail _ (.head _)))))) (fmc (.tail _ (.tail _ (.tail _ (.tail _ (.tail _ (.tail _ (.head _))))))) (fmc (.tail _ (.tail _ (.tail _ (.tail _ (.tail _ (.tail _ (.tail _ (.head _)))))))) (fmc (.tail _ (.tail _ (.tail _ (.tail _ (.tail _ (.tail _ (.tail _ (.tail _ (.head _))))))))) (fmc (.tail _ (.tail _ (.tail _ (.tail _ (.tail _ (.tail _ (.tail _ (.tail _ (.tail _ (.head _)))))))))) (fmc (.tail _ (.tail _ (.tail _ (.tail _ (.tail _ (.tail _ (.tail _ (.tail _ (.tail _ (.tail _ (.head _))))))))))) (fmc (.tail _ (.tail _ (.tail _ (.tail _ (.tail _ (.tail _ (.tail _ (.tail _ (.tail _ (.tail _ (.tail _ (.head _)))))))))))) (fmc (.tail _ (.tail _ (.tail _ (.tail _ (.tail _ (.tail _ (.tail _ (.tail _ (.tail _ (.tail _ (.tail _ (.tail _ (.head _))))))))))))) (fmc (.head _) (fmc (.tail _ (.tail _ (.tail _ (.tail _ (.tail _ (.tail _ (.tail _ (.tail _ (.tail _ (.tail _ (.tail _ (.tail _ (.tail _ (.head _)))))))))))))) (fun p hp => (.tail _ (.tail _ (.tail _ (.tail _ (.tail _ (.tail _ (.tail _ (.tail _ (.tail _ (.tail _ (.tail _ (.tail _ (.tail _ (.tail _ hp)))))))))))))))))))))))))))))
      have HF0 := floodOk_of (words := []) N9 hap9 oS9 oM9 oZ9 (by omega) (by omega) hqual hoT hoA hoM (show _ = _ by assumption) hread
      have hOX0 := HF0.offX (words := []) N9 (fun p hp => hp) hS.cls
      obtain ⟨K, Z, HF, hOX, hKA, hKx0, hc1K, htabK, N5, hZe⟩ : ∃ (K : FM) (Z : FZ), FloodOk w p loose mean mg mb K N tn ∧ OffX K T ∧ KAt K Z ∧ K.tx = tx ∧ (@Ne Nat K.c1 125) ∧ tabOk K.c1 K.o1 K.tab ∧ News _ _ _ (floodX w K Z tl 1 [] 0 0 ta 0 (refsOf T) ep T) ∧ Z = ⟨_, _, _, _, _⟩ :=
        ⟨_, ⟨_, _, _, _, _⟩, HF0, hOX0, ⟨rfl, rfl, rfl, rfl, rfl⟩, rfl, hap9.hg, htab, news_sub N9 (floodX_of (K := ⟨pb, xM, dM, dd, st, f, c1, aL, aT, aA, _, _, _, k1, k2, k3, k4, tw, kr, fdS, fdF, o1, oA, oT, tab, oM', _, qual, tx, tT⟩) ⟨rfl, rfl, rfl, rfl, rfl⟩), rfl⟩
      have hKx : K.tx = textOf S0 := hKx0.trans hTx.symm
      have hoMK := HF.hM
      rw [hKA.om, hZe] at hoMK
      have N6 := N5
      rw [hZe] at N6
      dsimp only [floodX] at N6
      dsimp only at hoMK
      clear HF0 hOX0 hap9 oS9 oM9 oZ9 hqual hoT hoA hread hoM N9 N5 htab hKx0
      have hb1 := hn.le
      have hS4 : S0.length ≤ 4 := Nat.le_trans hle0 hb1
      have hc16 : ∀ c ∈ S0, c < 16 := fun c hc => Nat.lt_of_lt_of_le (hlt0 c hc) hn.sq
      walk_at "hx_steps"
      refine hold_out ?_
      (rename News _ _ _ (_ :: _) => hN9); (rename Fr _ _ _ _ => hF9)
      refine LCg.CompSrc.ledger (its := (refsOf T).toArray) (k := ep) rfl hF9 hN9 (.head _) (by rw [sizeLine_eq, List.size_toArray, refsOf_length, hS.length]; omega) ?_
      intro gc
      refine' comp_inv (fun i ys news => (∃ tl ta ln ep', news = floodX w K Z tl ln [] 0 ((posOf S0 i : Nat) : Int) ta ep' (refsOf T) ep T) ∧ WordsV ys ((S0.take i).map fun c => (1, c))) ?turn2 ?fin2 _ 0 [] _ (by rw [Nat.add_zero]) ⟨⟨tl, ta, 1, 0, by rw [hZe, posOf_zero]; rfl⟩, .nil⟩
      case turn2 =>
        rintro i v ys news I oI C oC D m₂ h tk E' hi ⟨⟨tl2, ta2, ln2, ep2, rfl⟩, hw⟩ hv hC hx F2 N2 off ne
        have hi2 : i < S0.length := by rw [← hS.length, ← refsOf_length]; simpa using hi
        clear hF9 hN9 hv hi
        obtain ⟨nIC, nID, nCD⟩ := ne
        have htk := tok_at S0 hS4 hc16 i hi2
        have hple := pos_le S0 hS4 i
        have hOX2 : OffX K ((I, oI) :: (C, oC) :: (D, LCg.lst ys) :: T) := offX_compX hKA off hOX
        subst hZe
        dsimp only [floodX] at N2
        walk_at "hx_steps"
        refine hold_out ?_
        k_dflt (refine' mach_get ?q1 ?q2 ?q3 ?q4 ?q5 ?_; (case q1 => k_asm); (case q2 => k_asm); (case q3 => k_asm); (case q4 => (repeat (first | exact List.mem_append_right _ machK_xM | refine List.Mem.tail _ ?_))); (case q5 => (repeat (first | exact List.mem_append_right _ machK_dM | refine List.Mem.tail _ ?_))))
        try dsimp only
        walk_at "hx_steps"
        refine hold_out ?_
        (rename News _ _ _ (_ :: _) => hN9)
        (replace hN9 := news_sub (r := _ :: _ :: _ :: _ :: _ :: _ :: _) hN9 (fmc (.tail _ (.tail _ (.tail _ (.head _)))) (fmc (.tail _ (.tail _ (.tail _ (.tail _ (.head _))))) (fmc (.tail _ (.tail _ (.tail _ (.tail _ (.tail _ (.head _)))))) (fmc (.head _) (fmc (.tail _ (.head _)) (fmc (.tail _ (.tail _ (.head _))) (fun p hp => (.tail _ (.tail _ (.tail _ (.tail _ (.tail _ (.tail _ hp))))))))))))))
        have hN7 : News _ _ _ (floodX w K ⟨_, _, _, _, _⟩ tl2 ln2 [] 0 ((posOf S0 i : Nat) : Int) ta2 ep2 (refsOf T) ep ((I, oI) :: (C, oC) :: (D, LCg.lst ys) :: T)) := hN9
        k_dflt (refine' flood_readX (k := posOf S0 i) (tl := tl2) (ln := ln2) (ew := 0) (ta := ta2) (ep := ep2) (refs := refsOf T) (es := ep) HF hKA ?g1 ?g2 hOX2 ?b1 ?b2 ?b3 hN7 ?b5 ?b6 ?b8 ?b9 ?_)
        case g1 => (rw [← hKx] at htk; exact htk)
        case g2 => (rw [← hKx] at hple; exact hple)
        case b1 => k_asm
        case b2 => k_asm
        case b3 => k_asm
        case b5 => k_asm
        case b6 => exact rfl
        case b8 => (first | (refine' room0 ?qh ?qb; (case qh => assumption); (case qb => exact Nat.le_of_ble_eq_true rfl)) | (refine' room1 ?qh ?qb; (case qh => assumption); (case qb => exact Nat.le_of_ble_eq_true rfl)) | (refine' room2 ?qh ?qb; (case qh => assumption); (case qb => exact Nat.le_of_ble_eq_true rfl)) | omega | ((try simp only [depth_under_make, depth_under_kw, depth_in1, depth_deeper, depth_caller, units_in1, units_deeper, Around.mark_units, units_caller]); (try dsimp only [ktrTop]); omega))
        case b9 => (first | (refine' room0 ?qh ?qb; (case qh => assumption); (case qb => exact Nat.le_of_ble_eq_true rfl)) | (refine' room1 ?qh ?qb; (case qh => assumption); (case qb => exact Nat.le_of_ble_eq_true rfl)) | (refine' room2 ?qh ?qb; (case qh => assumption); (case qb => exact Nat.le_of_ble_eq_true rfl)) | omega | ((try simp only [depth_under_make, depth_under_kw, depth_in1, depth_deeper, depth_caller, units_in1, units_deeper, Around.mark_units, units_caller]); (try dsimp only [ktrTop]); omega))
        intro t9 tl9 ta9 ln9 ep9 h' tk' F' N'
        dsimp only [floodX, List.cons_append] at N'
        clear hN9 hN7
        try dsimp only
        walk_at "hx_steps"
        refine hold_out ?_
        (rename News _ _ _ (_ :: _) => hN9); (rename Fr _ _ _ _ => hF9)
        refine LCg.CompEnd.intro hF9 hN9 (_ :: _ :: _ :: _) (fmc (.tail _ (.tail _ (.tail _ (.head _)))) (fmc (.tail _ (.tail _ (.tail _ (.tail _ (.head _))))) (fmc (.tail _ (.tail _ (.tail _ (.tail _ (.tail _ (.head _)))))) (fmc (.head _) (fmc (.tail _ (.head _)) (fmc (.tail _ (.tail _ (.head _))) (fun p hp => (.tail _ (.tail _ (.tail _ (.tail _ (.tail _ (.tail _ hp))))))))))))) (off3_X (l := [_, _, _] ++ T) off) (.inr ⟨_, (.head _), rfl, _, rfl⟩) ⟨⟨tl9, ta9, ln9, ep9, rfl⟩, ?_⟩
        rw [List.take_succ_eq_append_getElem hi2, List.map_append]
        exact hw.snoc 1 _ _
      case fin2 =>
        clear hF9 hN9
        rintro ys news ⟨⟨tl2, ta2, ln2, ep2, rfl⟩, hw⟩
        unfold LCg.FinA
        intro D h tk F2 N2 off1
        have hT0 : S0.take (refsOf T).toArray.size = S0 := List.take_of_length_le (by rw [List.size_toArray, refsOf_length, hS.length]; exact Nat.le_refl _)
        have hT1 : (refsOf T).toArray.size = S0.length := by rw [List.size_toArray, refsOf_length, hS.length]
        rw [hT0] at hw
        rw [hT1] at N2 off1
        clear hT0 hT1
        have hylen : ys.length ≤ 4 := by rw [hw.length, List.length_map]; exact hS4
        have hOXD : OffX K ((D, LCg.lst ys) :: T) := offX_itX hKA (off1_mem off1) hOX
        clear off1
        have N4 := N2
        rw [hZe] at N4
        dsimp only [floodX] at N4
        clear N2
        dsimp only
        walk_at "hx_steps"
        refine hold_out ?_
        refine For_open ?_
        walk_at "hx_steps"
        refine hold_out ?_
        (rename News _ _ _ (_ :: _) => hN9); (rename Fr _ _ _ _ => hF9)
        (replace hN9 := news_sub (r := _ :: _ :: _ :: _ :: _) hN9 (fmc (.tail _ (.head _)) (fmc (.tail _ (.tail _ (.head _))) (fmc (.tail _ (.tail _ (.tail _ (.head _)))) (fmc (.head _) (fun p hp => (.tail _ (.tail _ (.tail _ (.tail _ hp))))))))))
        refine' forlist_inv (its := ys.toArray) rfl hF9 hN9 (by rfl) (by rfl) (fun i m news => (∀ p ∈ ([(Str.ofString "seen", .ref Z.aS), (Str.ofString "bits", .ref lb), (Str.ofString "ways", .ref lw), (Str.ofString "is_red", .bool red)] : List (Str × Value)), m p.1 = some p.2) ∧ ∃ ew, news = floodX w K Z tl2 ln2 (ys.take i) ew ((posOf S0 S0.length : Nat) : Int) ta2 ep2 (refsOf T) ep ((D, LCg.lst ys) :: T)) ?hS3 ?start3 ?turn3 ?done3
        case hS3 =>
          rintro i m3 news3 ⟨_, ew3, rfl⟩
          exact .inr ⟨_, (.tail _ (.tail _ (.tail _ (.head _)))), rfl, _, rfl⟩
        case start3 =>
          subst hZe
          refine ⟨?_, 0, rfl⟩
          repeat' (first | exact facts_nil | refine facts_cons rfl ?_ | exact List.forall_mem_nil _ | (refine' fmc ?qf9 (?_); (case qf9 => rfl)))
        case turn3 =>
          clear hF9 hN9
          rintro i v m3 news3 I it h tk hv ⟨hm, ew3, rfl⟩ hit F3 N3 ne3
          have hOX3 : OffX K ((I, it) :: (D, LCg.lst ys) :: T) := offX_itX hKA ne3 hOXD
          subst hZe
          replace F3 := fr_withB _ hm F3
          clear hm
          dsimp only [withB] at F3
          dsimp only [floodX, List.cons_append] at N3
          refine wpAny_cut ?_
          intro QC EC hQC
          walk_at "hx_steps"
          refine hold_out ?_
          k_dflt (refine' mach_push ?q1 ?q2 ?q3 ?q4 ?q5 ?_; (case q1 => k_asm); (case q2 => k_asm); (case q3 => k_asm); (case q4 => (repeat (first | exact List.mem_append_right _ machK_xM | refine List.Mem.tail _ ?_))); (case q5 => (repeat (first | exact List.mem_append_right _ machK_dM | refine List.Mem.tail _ ?_))))
          try dsimp only
          walk_at "hx_steps"
          refine hold_out ?_
          (rename News _ _ _ (_ :: _) => hN9)
          (replace hN9 := news_sub (r := _ :: _ :: _ :: _ :: _ :: _) hN9 (fmc (.tail _ (.head _)) (fmc (.tail _ (.tail _ (.head _))) (fmc (.tail _ (.tail _ (.tail _ (.head _)))) (fmc (.head _) (fmc (.tail _ (.tail _ (.tail _ (.tail _ (.head _))))) (fun p hp => (.tail _ (.tail _ (.tail _ (.tail _ (.tail _ hp))))))))))))
          k_dflt (refine' flood_pushX HF hKA ?g1 hOX3 ?b1 ?b2 ?b3 hN9 ?b5 ?b6 ?b8 ?b9 ?_)
          case g1 => (rw [List.length_take]; omega)
          case b1 => k_asm
          case b2 => k_asm
          case b3 => k_asm
          case b5 => k_asm
          case b6 => exact rfl
          case b8 => (first | (refine' room0 ?qh ?qb; (case qh => assumption); (case qb => exact Nat.le_of_ble_eq_true rfl)) | (refine' room1 ?qh ?qb; (case qh => assumption); (case qb => exact Nat.le_of_ble_eq_true rfl)) | (refine' room2 ?qh ?qb; (case qh => assumption); (case qb => exact Nat.le_of_ble_eq_true rfl)) | omega | ((try simp only [depth_under_make, depth_under_kw, depth_in1, depth_deeper, depth_caller, units_in1, units_deeper, Around.mark_units, units_caller]); (try dsimp only [ktrTop]); omega))
          case b9 => (first | (refine' room0 ?qh ?qb; (case qh => assumption); (case qb => exact Nat.le_of_ble_eq_true rfl)) | (refine' room1 ?qh ?qb; (case qh => assumption); (case qb => exact Nat.le_of_ble_eq_true rfl)) | (refine' room2 ?qh ?qb; (case qh => assumption); (case qb => exact Nat.le_of_ble_eq_true rfl)) | omega | ((try simp only [depth_under_make, depth_under_kw, depth_in1, depth_deeper, depth_caller, units_in1, units_deeper, Around.mark_units, units_caller]); (try dsimp only [ktrTop]); omega))
          intro ew9 h' tk' F' N'
          dsimp only [floodX, List.cons_append] at N'
          clear hN9
          try dsimp only
          walk_at "hx_steps"
          (rename News _ _ _ (_ :: _) => hN9); (rename Fr _ _ _ _ => hF9)
          have eys : ys.take i ++ [v] = ys.take (i + 1) := take_snoc (by simpa using hv)
          rw [eys] at hN9
          refine hQC _ _ ?_
          refine ListEnd.next (news' := _ :: _ :: _ :: _ :: _) hF9 (news_sub hN9 (fmc (.tail _ (.tail _ (.tail _ (.head _)))) (fmc (.head _) (fmc (.tail _ (.head _)) (fmc (.tail _ (.tail _ (.head _))) (fmc (.tail _ (.tail _ (.tail _ (.tail _ (.head _))))) (fun p hp => (.tail _ (.tail _ (.tail _ (.tail _ (.tail _ hp)))))))))))) (floodX_ne ne3) ⟨?_, ew9, rfl⟩
          repeat' (first | exact facts_nil | refine facts_cons rfl ?_ | exact List.forall_mem_nil _ | (refine' fmc ?qf9 (?_); (case qf9 => rfl)))
        case done3 =>
          clear hF9 hN9
          rintro m3 news3 h tk ⟨hm, ew3, rfl⟩ F3 N3
          have e9 : ys.take ys.toArray.size = ys := List.take_of_length_le (by simp)
          rw [e9] at N3
          clear e9
          have hKA2 := hKA
          rw [hZe] at N3 hm hKA2
          dsimp only [ForEnd]
          replace F3 := fr_withB0 _ hm F3
          clear hm
          dsimp only [withB] at F3
          dsimp only [floodX, List.cons_append] at N3
          have hend := tok_end S0 hS4
          have hple := pos_le S0 hS4 S0.length
          walk_at "hx_steps"
          refine hold_out ?_
          k_dflt (refine' mach_get ?q1 ?q2 ?q3 ?q4 ?q5 ?_; (case q1 => k_asm); (case q2 => k_asm); (case q3 => k_asm); (case q4 => (repeat (first | exact List.mem_append_right _ machK_xM | refine List.Mem.tail _ ?_))); (case q5 => (repeat (first | exact List.mem_append_right _ machK_dM | refine List.Mem.tail _ ?_))))
          try dsimp only
          walk_at "hx_steps"
          refine hold_out ?_
          (rename News _ _ _ (_ :: _) => hN9)
          have hN7 : News _ _ _ (floodX w K ⟨_, _, _, _, _⟩ tl2 ln2 ys ew3 ((posOf S0 S0.length : Nat) : Int) ta2 ep2 (refsOf T) ep ((D, LCg.lst ys) :: T)) := hN9
          k_dflt (refine' flood_next (k := posOf S0 S0.length) (tl := tl2) (ln := ln2) (ew := ew3) (ta := ta2) (ep := ep2) (refs := refsOf T) (es := ep) HF hKA2 ?g1 ?g2 hw ?g3 hOXD ?b1 ?b2 ?b3 hN7 ?b5 ?b6 ?b8 ?b9 ?_)
          case g1 => (rw [← hKx] at hend; exact hend)
          case g2 => (rw [← hKx] at hple; exact hple)
          case g3 => omega
          case b1 => k_asm
          case b2 => k_asm
          case b3 => k_asm
          case b5 => k_asm
          case b6 => exact rfl
          case b8 => (first | (refine' room0 ?qh ?qb; (case qh => assumption); (case qb => exact Nat.le_of_ble_eq_true rfl)) | (refine' room1 ?qh ?qb; (case qh => assumption); (case qb => exact Nat.le_of_ble_eq_true rfl)) | (refine' room2 ?qh ?qb; (case qh => assumption); (case qb => exact Nat.le_of_ble_eq_true rfl)) | omega | ((try simp only [depth_under_make, depth_under_kw, depth_in1, depth_deeper, depth_caller, units_in1, units_deeper, Around.mark_units, units_caller]); (try dsimp only [ktrTop]); omega))
          case b9 => (first | (refine' room0 ?qh ?qb; (case qh => assumption); (case qb => exact Nat.le_of_ble_eq_true rfl)) | (refine' room1 ?qh ?qb; (case qh => assumption); (case qb => exact Nat.le_of_ble_eq_true rfl)) | (refine' room2 ?qh ?qb; (case qh => assumption); (case qb => exact Nat.le_of_ble_eq_true rfl)) | omega | ((try simp only [depth_under_make, depth_under_kw, depth_in1, depth_deeper, depth_caller, units_in1, units_deeper, Around.mark_units, units_caller]); (try dsimp only [ktrTop]); omega))
          intro t9 words9 ew9 tl9 ta9 ln9 ep9 h' tk' F' N' hw9
          dsimp only [floodX, List.cons_append] at N'
          clear hN9 hN7
          try dsimp only
          walk_at "hx_steps"
          refine hold_out ?_
          (rename News _ _ _ (_ :: _) => hN9); (rename Fr _ _ _ _ => hF9)
          (replace hN9 := news_sub (r := _ :: _ :: _ :: _) hN9 (fmc (.head _) (fmc (.tail _ (.head _)) (fmc (.tail _ (.tail _ (.head _))) (fun p hp => (.tail _ (.tail _ (.tail _ (.tail _ hp)))))))))
          refine' while_inv (FlInv w K Z N bs red lb lw (posOf S0 S0.length)) 40 hF9 hN9 ?startW ?turnW
          case startW =>
            rw [hZe]
            refine' ⟨S0, S0.map fun c => (1, c), 0, _, _, tl9, ta9, ln9, T, words9, ew9, ep9, ep, hS0 ▸ start_st hn, ⟨hS0 ▸ start_meas hn, Nat.le_refl _⟩, by rw [← hS0]; rfl, hS, hw9, ?hmW, rfl⟩
            case hmW =>
              repeat' (first | exact facts_nil | refine facts_cons rfl ?_ | exact List.forall_mem_nil _ | (refine' fmc ?qf9 (?_); (case qf9 => rfl)))
          case turnW =>
            clear hF9 hN9 hw9 hw hylen hOXD hS hOX hlt0 hle0
            rintro n m4 news4 h tk ⟨seen, q, few, tw4, tf4, tl4, ta4, ln4, T4, words4, ew4, ep4, es4, hst, hms, hfl, hSp, hw4, hm, rfl⟩ F4 N4
            rw [hZe] at N4 hm
            replace F4 := fr_withB0 _ hm F4
            clear hm
            dsimp only [withB] at F4
            dsimp only [floodX] at N4
            have hHt : headS q = headS q := rfl
            cases q with
            | nil =>
              dsimp only [headS] at F4
              walk_at "hx_steps"
              (rename News _ _ _ (_ :: _) => hN9)
              (replace hN9 := news_sub (r := [(K.c1, K.o1), (125, K.tab)]) hN9 (fmc (.tail _ (.tail _ (.tail _ (List.mem_append_right _ machK_c1)))) (fmc (.tail _ (.tail _ (.tail _ (List.mem_append_right _ machK_tab)))) (fun _ h => nomatch h))))
              (((first | refine hQ8' _ _ ?_ | refine hold_out ?_); refine' leaveS_ ?hxF ?hxN ?_; (case hxF => k_asm); (case hxN => k_asm); intro kF kN kD; (rename ∀ (v : Value) (mu' : List (Addr × Obj)) (h' : Heap) (tk' : Nat), _ → _ → _ → _ → _ => hxR); refine hxR _ _ _ _ kF kN kD ?_; clear hxR; try dsimp only))
              rw [floodF_nil] at hfl
              exact ⟨_, _, _, _, by rw [hfl], rfl, hc1K, htabK⟩
            | cons dc q =>
              obtain ⟨dots, c⟩ := dc
              dsimp only [headS] at F4
              have hq4 := hst.q _ (.head _)
              have hsq := hn.sq
              have hnpos := hn.pos
              have hdot : dots ≤ 16 := by have := hst.all; dsimp only at hq4; omega
              have hc16' : c < 16 := Nat.lt_of_lt_of_le hq4.2.2 hsq
              clear hsq hHt
              refine wpAny_cut ?_
              intro Q0 E0 hQ0
              walk_at "hx_steps"
              refine hQ0 _ _ ?_
              try dsimp only
              first | rw [if_pos rfl] | walk1
              refine wpAny_cut ?_
              intro QW EW hQW
              walk_at "hx_steps"
              refine hold_out ?_
              k_dflt (refine' item_str (x := wordS dots c) ?i1 ?i2 ?i3 ?_ ?i4 ?i5; (case i1 => decide); (case i2 => (rw [wordS_len]; omega)); (case i3 => (rw [wordS_len]; omega)); (case i4 => with_unfolding_all rfl); (case i5 => (intro _; with_unfolding_all rfl)))
              intro _
              rw [item_word]
              try dsimp only
              walk_at "hx_steps"
              refine hold_out ?_
              refine P.ord_of_char ?_
              try dsimp only
              walk_at "hx_steps"
              refine hold_out ?_
              (rename News _ _ _ (_ :: _) => hN9); (rename Fr _ _ _ _ => hF9)
              have ecn : ((c + 97 : Nat) : Int) - 97 = (c : Int) := by omega
              rw [ecn]
              k_dflt (refine' divmod_N hF9 hN9 ?d1 ?_ ?d2; (case d1 => (have := hn.pos; omega)); (case d2 => exact .inl (PyProof.noPylong_small (by omega))))
              intro h' F' N'
              clear hF9 hN9 ecn
              have efd : (c : Int).fdiv (N : Int) = ((c / N : Nat) : Int) := Int.fdiv_eq_ediv_of_nonneg _ (Int.natCast_nonneg _)
              have efm : (c : Int).fmod (N : Int) = ((c % N : Nat) : Int) := Int.fmod_eq_emod_of_nonneg _ (Int.natCast_nonneg _)
              rw [efd, efm] at N'
              clear efd efm
              try dsimp only
              walk_at "hx_steps"
              refine hold_out ?_
              (rename News _ _ _ (_ :: _) => hN9); (rename Fr _ _ _ _ => hF9)
              refine if_join hF9 hN9 (fun tf => [(Str.ofString "seen", .ref Z.aS), (Str.ofString "bits", .ref lb), (Str.ofString "ways", .ref lw), (Str.ofString "is_red", .bool red), (Str.ofString "fewest", .int (fewNext N red few dots c : Nat) tf.1), (Str.ofString "word", .str (wordS dots c) tw4), (Str.ofString "across", .int ((c % N : Nat) : Int) tf.2.1), (Str.ofString "up", .int ((c / N : Nat) : Int) tf.2.2)]) ?ifs ?cont
              case ifs =>
                subst hZe
                have hfit : ¬ ((wordS dots c).length : Int) ≥ 2 ^ 63 := by rw [wordS_len]; omega
                have elen : ((wordS dots c).length : Int) - 1 = (dots : Int) := by rw [wordS_len]; omega
                walk_at "hx_steps"
                · refine hold_out ?_
                  (rename News _ _ _ (_ :: _) => hN9); (rename Fr _ _ _ _ => hF9)
                  rw [elen] at hF9
                  refine' IfEnd.intro (?u10, ?u20, ?u30) hF9 hN9 ?hm0
                  case hm0 =>
                    rw [fewNext_red (by assumption) (by assumption) (by assumption)]
                    (repeat' (first | exact facts_nil | refine facts_cons rfl ?_ | exact List.forall_mem_nil _ | (refine' fmc ?qf9 (?_); (case qf9 => rfl))))
                · refine hold_out ?_
                  (rename News _ _ _ (_ :: _) => hN9); (rename Fr _ _ _ _ => hF9)
                  refine' IfEnd.intro (?u11, ?u21, ?u31) hF9 hN9 ?hm1
                  case hm1 =>
                    rw [fewNext_redn hn.pos (by assumption) (by assumption)]
                    (repeat' (first | exact facts_nil | refine facts_cons rfl ?_ | exact List.forall_mem_nil _ | (refine' fmc ?qf9 (?_); (case qf9 => rfl))))
                · refine hold_out ?_
                  (rename News _ _ _ (_ :: _) => hN9); (rename Fr _ _ _ _ => hF9)
                  rw [elen] at hF9
                  refine' IfEnd.intro (?u12, ?u22, ?u32) hF9 hN9 ?hm2
                  case hm2 =>
                    rw [fewNext_blue (by assumption) (by assumption) (by assumption)]
                    (repeat' (first | exact facts_nil | refine facts_cons rfl ?_ | exact List.forall_mem_nil _ | (refine' fmc ?qf9 (?_); (case qf9 => rfl))))
                · refine hold_out ?_
                  (rename News _ _ _ (_ :: _) => hN9); (rename Fr _ _ _ _ => hF9)
                  refine' IfEnd.intro (?u13, ?u23, ?u33) hF9 hN9 ?hm3
                  case hm3 =>
                    rw [fewNext_bluen hn.pos (by assumption) (by assumption)]
                    (repeat' (first | exact facts_nil | refine facts_cons rfl ?_ | exact List.forall_mem_nil _ | (refine' fmc ?qf9 (?_); (case qf9 => rfl))))
                · refine hold_out ?_
                  (rename News _ _ _ (_ :: _) => hN9); (rename Fr _ _ _ _ => hF9)
                  refine' IfEnd.intro (?u14, ?u24, ?u34) hF9 hN9 ?hm4
                  case hm4 =>
                    rw [fewNext_few (by assumption)]
                    (repeat' (first | exact facts_nil | refine facts_cons rfl ?_ | exact List.forall_mem_nil _ | (refine' fmc ?qf9 (?_); (case qf9 => rfl))))
              case cont =>
                clear hF9 hN9
                rintro tf h5 tk5 m5 F5 N5 hm5
                rw [hZe] at hm5
                replace F5 := fr_withB0 _ hm5 F5
                clear hm5
                dsimp only [withB] at F5
                walk_at "hx_steps"
                refine hold_out ?_
                refine For_open ?_
                walk_at "hx_steps"
                refine hold_out ?_
                (rename News _ _ _ (_ :: _) => hN9); (rename Fr _ _ _ _ => hF9)
                (replace hN9 := news_sub (r := _ :: _ :: _ :: _) hN9 (fmc (.tail _ (.head _)) (fmc (.tail _ (.tail _ (.head _))) (fmc (.tail _ (.tail _ (.tail _ (.head _)))) (fun p hp => (.tail _ (.tail _ (.tail _ (.tail _ hp)))))))))
                refine' forlist_inv (its := #[.ref (aW 0), .ref (aW 1), .ref (aW 2), .ref (aW 3), .ref (aW 4), .ref (aW 5)]) rfl hF9 hN9 (by rfl) (by rfl) (WInv w K Z N bs red lb lw (posOf S0 S0.length) dots c seen q (fewNext N red few dots c) tf tw4 tl4 ta4 ln4 ep4) ?hS6 ?start6 ?turn6 ?done6
                case hS6 => exact fun i m news _ => .inl hp.ways
                case start6 =>
                  subst hZe
                  refine' ⟨T4, words4, ew4, es4, hSp, hw4, ?hm6, rfl⟩
                  case hm6 => (repeat' (first | exact facts_nil | refine facts_cons rfl ?_ | exact List.forall_mem_nil _ | (refine' fmc ?qf9 (?_); (case qf9 => rfl))))
                case turn6 =>
                  clear hF9 hN9
                  rintro i v m6 news6 I it h6 tk6 hv ⟨T6, words6, ew6, es6, hSp6, hw6, hm6, rfl⟩ hit F6 N6 ne6
                  obtain ⟨d, rfl, rfl⟩ := ways_get hv
                  have hz1 : @Ne Nat Z.aS Z.aM := (by rw [← hKA.s, ← hKA.m]; exact HF.s1)
                  have hz2 : @Ne Nat Z.aS Z.aZ := (by rw [← hKA.s, ← hKA.z]; exact HF.s2)
                  have hzm := machK_ne (w := w) (tl := tl4) (ln := ln4) (words := words6) (ew := ew6) (pos := ((posOf S0 S0.length : Nat) : Int)) (ta := ta4) (ep := ep4) HF hKA
                  subst hZe
                  have hpb := hp.bits
                  have hst5 : StOk N seen q := ⟨hst.lt, hst.all, fun p hp => hst.q p (.tail _ hp)⟩
                  have hst6 := (waysF_ok (bs := bs) (red := red) (dots := dots) (c := c) (σ := (seen, q)) hst5 hq4.2.1 d.val (Nat.le_of_lt d.isLt)).1
                  clear hst5
                  replace F6 := fr_withB _ hm6 F6
                  clear hm6 hv
                  dsimp only [withB] at F6
                  dsimp only [floodX] at N6
                  refine wpAny_cut ?_
                  intro QC EC hQC
                  walk_at "hx_steps"
                  refine hold_out ?_
                  (rename News _ _ _ (_ :: _) => hN9); have hN8 := (hN9 _ (.head _)).1
                  (with_reducible refine' min_tupI ?k1 ?k2 hN9 (isTup_tupI hN8) ?_); (case k1 => exact rfl); (case k2 => k_asm)
                  intro h' tk' t' F' N'
                  clear hN9 hN8
                  try dsimp only
                  walk_at "hx_steps"
                  rotate_left
                  · refine hQC _ _ ?_
                    (rename News _ _ _ (_ :: _) => hN9); (rename Fr _ _ _ _ => hF9)
                    refine' ListEnd.next hF9 (news_sub (r := _ :: _ :: _ :: _ :: _) hN9 (fmc (.tail _ (.head _)) (fmc (.tail _ (.tail _ (.head _))) (fmc (.tail _ (.tail _ (.tail _ (.head _)))) (fmc (.tail _ (.tail _ (.tail _ (.tail _ (.head _))))) (fun p hp => (.tail _ (.tail _ (.tail _ (.tail _ (.tail _ hp))))))))))) ne6 (WInv.stay hSp6 hw6 (fun z => absurd z.1.1 (by assumption)) ?hm70)
                    case hm70 => (repeat' (first | exact facts_nil | refine facts_cons rfl ?_ | exact List.forall_mem_nil _ | (refine' fmc ?qf9 (?_); (case qf9 => rfl))))
                  refine hold_out ?_
                  (rename News _ _ _ (_ :: _) => hN9); have hN8 := (hN9 _ (.head _)).1
                  (with_reducible refine' max_tupI ?k3 ?k4 hN9 (isTup_tupI hN8) ?_); (case k3 => exact rfl); (case k4 => k_asm)
                  intro h' tk' t' F' N'
                  clear hN9 hN8
                  try dsimp only
                  walk_at "hx_steps"
                  rotate_left
                  · refine hQC _ _ ?_
                    (rename News _ _ _ (_ :: _) => hN9); (rename Fr _ _ _ _ => hF9)
                    refine' ListEnd.next hF9 (news_sub (r := _ :: _ :: _ :: _ :: _) hN9 (fmc (.tail _ (.head _)) (fmc (.tail _ (.tail _ (.head _))) (fmc (.tail _ (.tail _ (.tail _ (.head _)))) (fmc (.tail _ (.tail _ (.tail _ (.tail _ (.head _))))) (fun p hp => (.tail _ (.tail _ (.tail _ (.tail _ (.tail _ hp))))))))))) ne6 (WInv.stay hSp6 hw6 (fun z => absurd z.1.2 (by assumption)) ?hm71)
                    case hm71 => (repeat' (first | exact facts_nil | refine facts_cons rfl ?_ | exact List.forall_mem_nil _ | (refine' fmc ?qf9 (?_); (case qf9 => rfl))))
                  refine hold_out ?_
                  (rename News _ _ _ (_ :: _) => hN9)
                  k_dflt (refine' spot_notIn (N := N) hN9 hSp6 (fun p hp => (.tail _ (.tail _ (.tail _ (.tail _ (.tail _ (List.mem_append_left _ hp))))))) (.tail _ (.tail _ (.head _))) (.head _) ⟨?n1, ?n2⟩ ?n3 ?_)
                  case n1 => assumption
                  case n2 => assumption
                  case n3 => (first | (refine' room0 ?qh ?qb; (case qh => assumption); (case qb => exact Nat.le_of_ble_eq_true rfl)) | (refine' room1 ?qh ?qb; (case qh => assumption); (case qb => exact Nat.le_of_ble_eq_true rfl)) | (refine' room2 ?qh ?qb; (case qh => assumption); (case qb => exact Nat.le_of_ble_eq_true rfl)) | omega | ((try simp only [depth_under_make, depth_under_kw, depth_in1, depth_deeper, depth_caller, units_in1, units_deeper, Around.mark_units, units_caller]); (try dsimp only [ktrTop]); omega))
                  walk_at "hx_steps"
                  rotate_left
                  · refine hQC _ _ ?_
                    (rename News _ _ _ (_ :: _) => hN9); (rename Fr _ _ _ _ => hF9)
                    refine' ListEnd.next hF9 (news_sub (r := _ :: _ :: _ :: _ :: _) hN9 (fmc (.tail _ (.head _)) (fmc (.tail _ (.tail _ (.head _))) (fmc (.tail _ (.tail _ (.tail _ (.head _)))) (fmc (.tail _ (.tail _ (.tail _ (.tail _ (.head _))))) (fun p hp => (.tail _ (.tail _ (.tail _ (.tail _ (.tail _ hp))))))))))) ne6 (WInv.stay hSp6 hw6 (fun z => absurd z.2.1 (by assumption)) ?hm72)
                    case hm72 => (repeat' (first | exact facts_nil | refine facts_cons rfl ?_ | exact List.forall_mem_nil _ | (refine' fmc ?qf9 (?_); (case qf9 => rfl))))
                  refine hold_out ?_
                  k_dflt (refine' Does.use0E (does_isred (n := N) (bs := bs) hints hlen ?n4) ?b1 ?b2 ?b3 ?b4 ?b5 ?b6 ?b7 ?b8 ?b9 ?_; (((case b1 => k_asm); (case b2 => k_asm); (case b3 => k_asm); (case b4 => k_asm); (case b5 => k_asm); (case b6 => first | exact rfl | assumption); (case b8 => (first | (refine' room0 ?qh ?qb; (case qh => assumption); (case qb => exact Nat.le_of_ble_eq_true rfl)) | (refine' room1 ?qh ?qb; (case qh => assumption); (case qb => exact Nat.le_of_ble_eq_true rfl)) | (refine' room2 ?qh ?qb; (case qh => assumption); (case qb => exact Nat.le_of_ble_eq_true rfl)) | omega | ((try simp only [depth_under_make, depth_under_kw, depth_in1, depth_deeper, depth_caller, units_in1, units_deeper, Around.mark_units, units_caller]); (try dsimp only [ktrTop]); omega))); (case b9 => (first | (refine' room0 ?qh ?qb; (case qh => assumption); (case qb => exact Nat.le_of_ble_eq_true rfl)) | (refine' room1 ?qh ?qb; (case qh => assumption); (case qb => exact Nat.le_of_ble_eq_true rfl)) | (refine' room2 ?qh ?qb; (case qh => assumption); (case qb => exact Nat.le_of_ble_eq_true rfl)) | omega | ((try simp only [depth_under_make, depth_under_kw, depth_in1, depth_deeper, depth_caller, units_in1, units_deeper, Around.mark_units, units_caller]); (try dsimp only [ktrTop]); omega))))); (case n4 => (have := hn.le; omega)); (case b7 => (intro g hg hs; exact hpb.at fun o e => hg _ o e)))
                  intro h' tk' F' N'
                  (try dsimp only)
                  walk_at "hx_steps"
                  rotate_left
                  · refine hQC _ _ ?_
                    (rename News _ _ _ (_ :: _) => hN9); (rename Fr _ _ _ _ => hF9)
                    refine' ListEnd.next hF9 (news_sub (r := _ :: _ :: _ :: _ :: _) hN9 (fmc (.tail _ (.head _)) (fmc (.tail _ (.tail _ (.head _))) (fmc (.tail _ (.tail _ (.tail _ (.head _)))) (fmc (.tail _ (.tail _ (.tail _ (.tail _ (.head _))))) (fun p hp => (.tail _ (.tail _ (.tail _ (.tail _ (.tail _ hp))))))))))) ne6 (WInv.stay hSp6 hw6 (fun z => absurd z.2.2 (by have := (show (isRed N bs (spotX N c d) (spotY N c d) == red) = false by assumption); rw [this]; exact Bool.false_ne_true)) ?hm73)
                    case hm73 => (repeat' (first | exact facts_nil | refine facts_cons rfl ?_ | exact List.forall_mem_nil _ | (refine' fmc ?qf9 (?_); (case qf9 => rfl))))
                  refine hold_out ?_
                  (rename News _ _ _ (_ :: _) => hN9); (rename Fr _ _ _ _ => hF9)
                  (replace hN9 := news_sub (r := _ :: _ :: _ :: _ :: _ :: _) hN9 (fmc (.tail _ (.tail _ (.head _))) (fmc (.head _) (fmc (.tail _ (.head _)) (fmc (.tail _ (.tail _ (.tail _ (.head _)))) (fmc (.tail _ (.tail _ (.tail _ (.tail _ (.head _))))) (fun p hp => (.tail _ (.tail _ (.tail _ (.tail _ (.tail _ hp))))))))))))
                  refine append_head hF9 hN9 (fmc (apart_mem (T := [_]) hN9 (.head _) (List.forall_mem_singleton.mpr (.tail _ (.head _))) (List.forall_mem_singleton.mpr rfl) (list_ne_tup _ _) _ (.head _)) ((fmc (Ne.symm (ne6 _ (.head _))) ((fmc (Ne.symm hz1) ((fmc (Ne.symm hz2) (List.forall_mem_append.mpr ⟨ne_tail hN9 (fun p hp => (.tail _ (.tail _ (.tail _ (.tail _ (List.mem_append_left _ hp)))))) hSp6.cls (list_ne_tup _ _), hzm⟩)))))))) ?_ ?_
                  · rw [refsOf_length, hSp6.length]
                    have := hst6.all
                    have := hn.sq
                    omega
                  intro h' F' N'
                  clear hF9 hN9
                  walk_at "hx_steps"
                  refine hold_out ?_
                  k_dflt (refine' mach_push ?q1 ?q2 ?q3 ?q4 ?q5 ?_; (case q1 => k_asm); (case q2 => k_asm); (case q3 => k_asm); (case q4 => (repeat (first | exact List.mem_append_right _ machK_xM | refine List.Mem.tail _ ?_))); (case q5 => (repeat (first | exact List.mem_append_right _ machK_dM | refine List.Mem.tail _ ?_))))
                  try dsimp only
                  walk_at "hx_steps"
                  refine hold_out ?_
                  k_dflt (refine' Does.use0U (does_quote hq4.1 hdot) ?b1 ?b2 ?b3 ?b4 ?b5 ?b6 ?b7 ?b8 ?b9 ?_; (((case b1 => k_asm); (case b2 => k_asm); (case b3 => k_asm); (case b4 => k_asm); (case b5 => k_asm); (case b6 => first | exact rfl | assumption); (case b8 => (first | (refine' room0 ?qh ?qb; (case qh => assumption); (case qb => exact Nat.le_of_ble_eq_true rfl)) | (refine' room1 ?qh ?qb; (case qh => assumption); (case qb => exact Nat.le_of_ble_eq_true rfl)) | (refine' room2 ?qh ?qb; (case qh => assumption); (case qb => exact Nat.le_of_ble_eq_true rfl)) | omega | ((try simp only [depth_under_make, depth_under_kw, depth_in1, depth_deeper, depth_caller, units_in1, units_deeper, Around.mark_units, units_caller]); (try dsimp only [ktrTop]); omega))); (case b9 => (first | (refine' room0 ?qh ?qb; (case qh => assumption); (case qb => exact Nat.le_of_ble_eq_true rfl)) | (refine' room1 ?qh ?qb; (case qh => assumption); (case qb => exact Nat.le_of_ble_eq_true rfl)) | (refine' room2 ?qh ?qb; (case qh => assumption); (case qb => exact Nat.le_of_ble_eq_true rfl)) | omega | ((try simp only [depth_under_make, depth_under_kw, depth_in1, depth_deeper, depth_caller, units_in1, units_deeper, Around.mark_units, units_caller]); (try dsimp only [ktrTop]); omega))))); (case b7 => (intros; trivial)))
                  intro t7 h' tk' F' N'
                  (try dsimp only)
                  walk_at "hx_steps"
                  (with_reducible refine' slice_cut (j := -1) (x := wordS (dots + 1) c) ?sF ?sN ?_ ?sh ?sg ?sz); (case sF => k_asm); (case sN => k_asm); (case sh => with_unfolding_all rfl); (case sg => (intro _; with_unfolding_all rfl)); (case sz => (rw [wordS_len, sizeLine_eq]; omega))
                  intro h' t8 tk8 F' N'
                  rw [cut_word]
                  try dsimp only
                  walk_at "hx_steps"
                  refine hold_out ?_
                  refine mul_int ?_ (mulN hn)
                  try dsimp only
                  walk_at "hx_steps"
                  refine hold_out ?_
                  have hin : inside N (spotX N c d) (spotY N c d) := ⟨by assumption, by assumption⟩
                  refine chr_at (code_eq (inside_code hin).2.1 (inside_code hin).2.2) (Nat.lt_of_lt_of_le (inside_code hin).1 hn.sq) ?_
                  intro t9 tk9
                  walk_at "hx_steps"
                  refine hold_out ?_
                  refine add_str ?_ (by rw [sizeLine_eq]; exact Nat.le_trans (Nat.le_of_eq (dots_size _ _)) (by omega))
                  intro t8 tk8
                  rw [dots_letter]
                  try dsimp only
                  walk_at "hx_steps"
                  refine hold_out ?_
                  (rename News _ _ _ (_ :: _) => hN9)
                  (replace hN9 := news_sub (r := _ :: _ :: _ :: _ :: _ :: _) hN9 (fmc (.head _) (fmc (.tail _ (.tail _ (.tail _ (.head _)))) (fmc (.tail _ (.tail _ (.tail _ (.tail _ (.head _))))) (fmc (.tail _ (.head _)) (fmc (.tail _ (.tail _ (.head _))) (fun p hp => (.tail _ (.tail _ (.tail _ (.tail _ (.tail _ hp))))))))))))
                  have hN7 : News _ _ _ (floodX w K ⟨_, _, _, _, _⟩ tl4 ln4 words6 ew6 ((posOf S0 S0.length : Nat) : Int) ta4 ep4 (refsOf T6 ++ [_]) _ ((_, tupI _ _ _ _) :: (I, it) :: T6)) := hN9
                  k_dflt (refine' flood_pushX HF hKA ?g1 ?gX ?b1 ?b2 ?b3 hN7 ?b5 ?b6 ?b8 ?b9 ?_)
                  case g1 => exact waysF_len hst hms (Nat.le_of_lt d.isLt) hw6
                  case gX => exact offX_newX (words := words6) (refs := refsOf T6 ++ [_]) HF hKA hN7 hSp6.cls ne6
                  case b1 => k_asm
                  case b2 => k_asm
                  case b3 => k_asm
                  case b5 => k_asm
                  case b6 => exact rfl
                  case b8 => (first | (refine' room0 ?qh ?qb; (case qh => assumption); (case qb => exact Nat.le_of_ble_eq_true rfl)) | (refine' room1 ?qh ?qb; (case qh => assumption); (case qb => exact Nat.le_of_ble_eq_true rfl)) | (refine' room2 ?qh ?qb; (case qh => assumption); (case qb => exact Nat.le_of_ble_eq_true rfl)) | omega | ((try simp only [depth_under_make, depth_under_kw, depth_in1, depth_deeper, depth_caller, units_in1, units_deeper, Around.mark_units, units_caller]); (try dsimp only [ktrTop]); omega))
                  case b9 => (first | (refine' room0 ?qh ?qb; (case qh => assumption); (case qb => exact Nat.le_of_ble_eq_true rfl)) | (refine' room1 ?qh ?qb; (case qh => assumption); (case qb => exact Nat.le_of_ble_eq_true rfl)) | (refine' room2 ?qh ?qb; (case qh => assumption); (case qb => exact Nat.le_of_ble_eq_true rfl)) | omega | ((try simp only [depth_under_make, depth_under_kw, depth_in1, depth_deeper, depth_caller, units_in1, units_deeper, Around.mark_units, units_caller]); (try dsimp only [ktrTop]); omega))
                  intro ew9 h' tk' F' N'
                  dsimp only [floodX, List.cons_append] at N'
                  clear hN9 hN7
                  try dsimp only
                  walk_at "hx_steps"
                  (rename News _ _ _ (_ :: _) => hN9); (rename Fr _ _ _ _ => hF9)
                  refine hQC _ _ ?_
                  refine' ListEnd.next (news' := _ :: _ :: _ :: ((T6 ++ [_]) ++ _)) hF9 (news_sub hN9 (fmc (.tail _ (.tail _ (.tail _ (.tail _ (.head _))))) (fmc (.head _) (fmc (.tail _ (.head _)) (fmc (.tail _ (.tail _ (.head _))) (List.forall_mem_append.mpr ⟨snoc_all (fun p hp => (.tail _ (.tail _ (.tail _ (.tail _ (.tail _ (List.mem_append_left _ hp))))))) (.tail _ (.tail _ (.tail _ (.head _)))), fun p hp => (.tail _ (.tail _ (.tail _ (.tail _ (.tail _ (List.mem_append_right _ hp))))))⟩)))))) (floodX_ne_snoc ne6 (show @Ne Nat _ _ by omega)) (WInv.go hSp6 hw6 hin (by assumption) (by assumption) ?hm8)
                  case hm8 => (repeat' (first | exact facts_nil | refine facts_cons rfl ?_ | exact List.forall_mem_nil _ | (refine' fmc ?qf9 (?_); (case qf9 => rfl))))
                case done6 =>
                  clear hF9 hN9
                  rintro m6 news6 h6 tk6 ⟨T6, words6, ew6, es6, hSp6, hw6, hm6, rfl⟩ F6 N6
                  replace hSp6 : SpotsAre N T6 (waysF N bs red dots c (seen, q) 6).1 := hSp6
                  replace hw6 : WordsV words6 (waysF N bs red dots c (seen, q) 6).2 := hw6
                  have hOX6 := HF.offXX hKA (words := words6) (refs := refsOf T6) N6 (fun p hp => hp) hSp6.cls
                  have hKA2 := hKA
                  rw [hZe] at N6 hm6 hKA2
                  dsimp only [ForEnd]
                  replace F6 := fr_withB0 _ hm6 F6
                  clear hm6
                  dsimp only [withB] at F6
                  dsimp only [floodX] at N6
                  have hend := tok_end S0 hS4
                  have hple := pos_le S0 hS4 S0.length
                  walk_at "hx_steps"
                  refine hold_out ?_
                  k_dflt (refine' mach_get ?q1 ?q2 ?q3 ?q4 ?q5 ?_; (case q1 => k_asm); (case q2 => k_asm); (case q3 => k_asm); (case q4 => (repeat (first | exact List.mem_append_right _ machK_xM | refine List.Mem.tail _ ?_))); (case q5 => (repeat (first | exact List.mem_append_right _ machK_dM | refine List.Mem.tail _ ?_))))
                  try dsimp only
                  walk_at "hx_steps"
                  refine hold_out ?_
                  (rename News _ _ _ (_ :: _) => hN9)
                  k_dflt (refine' flood_next (k := posOf S0 S0.length) (tl := tl4) (ln := ln4) (ew := ew6) (ta := ta4) (ep := ep4) (refs := refsOf T6) (es := es6) HF hKA2 ?g1 ?g2 hw6 ?g3 hOX6 ?b1 ?b2 ?b3 hN9 ?b5 ?b6 ?b8 ?b9 ?_)
                  case g1 => (rw [← hKx] at hend; exact hend)
                  case g2 => (rw [← hKx] at hple; exact hple)
                  case g3 => exact waysF_len hst hms (Nat.le_refl 6) hw6
                  case b1 => k_asm
                  case b2 => k_asm
                  case b3 => k_asm
                  case b5 => k_asm
                  case b6 => exact rfl
                  case b8 => (first | (refine' room0 ?qh ?qb; (case qh => assumption); (case qb => exact Nat.le_of_ble_eq_true rfl)) | (refine' room1 ?qh ?qb; (case qh => assumption); (case qb => exact Nat.le_of_ble_eq_true rfl)) | (refine' room2 ?qh ?qb; (case qh => assumption); (case qb => exact Nat.le_of_ble_eq_true rfl)) | omega | ((try simp only [depth_under_make, depth_under_kw, depth_in1, depth_deeper, depth_caller, units_in1, units_deeper, Around.mark_units, units_caller]); (try dsimp only [ktrTop]); omega))
                  case b9 => (first | (refine' room0 ?qh ?qb; (case qh => assumption); (case qb => exact Nat.le_of_ble_eq_true rfl)) | (refine' room1 ?qh ?qb; (case qh => assumption); (case qb => exact Nat.le_of_ble_eq_true rfl)) | (refine' room2 ?qh ?qb; (case qh => assumption); (case qb => exact Nat.le_of_ble_eq_true rfl)) | omega | ((try simp only [depth_under_make, depth_under_kw, depth_in1, depth_deeper, depth_caller, units_in1, units_deeper, Around.mark_units, units_caller]); (try dsimp only [ktrTop]); omega))
                  intro t9 words9 ew9 tl9 ta9 ln9 ep9 h' tk' F' N' hw9
                  dsimp only [floodX, List.cons_append] at N'
                  clear hN9
                  try dsimp only
                  walk_at "hx_steps"
                  (rename News _ _ _ (_ :: _) => hN9); (rename Fr _ _ _ _ => hF9)
                  refine hQW _ _ ?_
                  refine' WhileEnd.next hF9 hN9 (meas_pos hms) ?hI9
                  case hI9 =>
                    rw [hZe]
                    refine' FlInv.turn hst hms hfl hSp6 hw9 ?hm9
                    case hm9 =>
                      repeat' (first | exact facts_nil | refine facts_cons rfl ?_ | exact List.forall_mem_nil _ | (refine' fmc ?qf9 (?_); (case qf9 => rfl)))
end
section
/-! the flood finds the levels: plain lists and numbers -/
noncomputable def nbs (N c : Nat) : List Nat := allDirs.filterMap fun d => if inside N (spotX N c d) (spotY N c d) then some (codeI N (spotX N c d) (spotY N c d)) else none
noncomputable def nearC (N : Nat) (red : Bool) (c : Nat) : Bool := (if red then c % N else c / N) == 0
noncomputable def Lev (N : Nat) (O : Nat → Bool) (red : Bool) : Nat → Nat → Bool
  | 0, c => O c && nearC N red c
  | k + 1, c => O c && (Lev N O red k c || (nbs N c).any fun e => Lev N O red k e)
theorem mem_allDirs : ∀ d : _root_.Fin 6, d ∈ allDirs := by decide
theorem mem_nbs {N c e : Nat} : e ∈ nbs N c ↔ ∃ d, inside N (spotX N c d) (spotY N c d) ∧ e = codeI N (spotX N c d) (spotY N c d) := by
  unfold nbs
  rw [List.mem_filterMap]
  constructor
  · rintro ⟨d, _, h⟩
    split at h
    · exact ⟨d, by assumption, (Option.some.inj h).symm⟩
    · cases h
  · rintro ⟨d, h, rfl⟩
    exact ⟨d, mem_allDirs d, if_pos h⟩
theorem nbs_lt {N c e : Nat} (h : e ∈ nbs N c) : e < N * N := by
  obtain ⟨d, h1, rfl⟩ := mem_nbs.mp h
  exact (inside_code h1).1
theorem nbs_symm0 : (∀ c, c < 3 * 3 → ∀ e ∈ nbs 3 c, c ∈ nbs 3 e) ∧ ∀ c, c < 4 * 4 → ∀ e ∈ nbs 4 c, c ∈ nbs 4 e := by decide +kernel
theorem nbs_symm {N c e : Nat} (hn : SizeOk N) (hc : c < N * N) (h : e ∈ nbs N c) : c ∈ nbs N e := by
  rcases hn with rfl | rfl
  · exact nbs_symm0.1 c hc e h
  · exact nbs_symm0.2 c hc e h
section
variable {N : Nat} {O : Nat → Bool} {red : Bool}
theorem lev_own {k c : Nat} (h : Lev N O red k c = true) : O c = true := by
  cases k <;> (unfold Lev at h; exact (Bool.and_eq_true_iff.mp h).1)
theorem lev_up {k c : Nat} (h : Lev N O red k c = true) : Lev N O red (k + 1) c = true := by
  unfold Lev
  rw [lev_own h, h, Bool.true_or]; rfl
theorem lev_mono {j k c : Nat} (hjk : j ≤ k) (h : Lev N O red j c = true) : Lev N O red k c = true := by
  induction hjk with
  | refl => exact h
  | step _ ih => exact lev_up ih
theorem lev_step {k c : Nat} (h : Lev N O red (k + 1) c = true) : Lev N O red k c = true ∨ ∃ e ∈ nbs N c, Lev N O red k e = true := by
  unfold Lev at h
  rcases Bool.or_eq_true_iff.mp (Bool.and_eq_true_iff.mp h).2 with h | h
  · exact .inl h
  · obtain ⟨e, he, h⟩ := List.any_eq_true.mp h
    exact .inr ⟨e, he, h⟩
theorem lev_next {k c e : Nat} (ho : O c = true) (he : e ∈ nbs N c) (h : Lev N O red k e = true) : Lev N O red (k + 1) c = true := by
  unfold Lev
  rw [ho, Bool.true_and, Bool.or_eq_true_iff]
  exact .inr (List.any_eq_true.mpr ⟨e, he, h⟩)
end
noncomputable def FirstAt (N : Nat) (O : Nat → Bool) (red : Bool) (j : Nat) : Prop := (∃ c, c < N * N ∧ Lev N O red j c = true ∧ farC N red c) ∧ ∀ i, i < j → ∀ c, c < N * N → Lev N O red i c = true → ¬ farC N red c
/-- what a count of rounds says -/
noncomputable def Tells (N : Nat) (O : Nat → Bool) (red : Bool) (r : Nat) : Prop := (r = 0 ∧ ∀ j c, c < N * N → Lev N O red j c = true → ¬ farC N red c) ∨ (r ≠ 0 ∧ r ≤ N * N ∧ FirstAt N O red (r - 1))
structure BInv (N : Nat) (O : Nat → Bool) (red : Bool) (k : Nat) (seen A B : List Nat) (few : Nat) : Prop where
  lev : ∀ c, c < N * N → Lev N O red k c = true → c ∈ seen
  seenOk : ∀ c ∈ seen, Lev N O red k c = true ∨ c ∈ B
  bOk : ∀ c ∈ B, c < N * N ∧ c ∈ seen ∧ Lev N O red (k + 1) c = true ∧ ¬ Lev N O red k c = true
  aOk : ∀ c ∈ A, c < N * N ∧ Lev N O red k c = true ∧ ∀ j, j < k → ¬ Lev N O red j c = true
  ex : ∀ e, e < N * N → Lev N O red k e = true → e ∉ A → ∀ c ∈ nbs N e, O c = true → c ∈ seen
  few0 : few = 0 → ∀ e, e < N * N → Lev N O red k e = true → e ∉ A → ¬ farC N red e
  few1 : few ≠ 0 → few ≤ N * N ∧ FirstAt N O red (few - 1)
theorem BInv.shift {N : Nat} {O : Nat → Bool} {red : Bool} {k few : Nat} {seen B : List Nat} (hn : SizeOk N) (h : BInv N O red k seen [] B few) : BInv N O red (k + 1) seen B [] few := by
  have up : ∀ c, c < N * N → Lev N O red (k + 1) c = true → c ∈ seen := fun c hc hl => by
    rcases lev_step hl with h1 | ⟨e, he, h1⟩
    · exact h.lev c hc h1
    · exact h.ex e (nbs_lt he) h1 (List.not_mem_nil) c (nbs_symm hn hc he) (lev_own hl)
  have down : ∀ c, c < N * N → Lev N O red (k + 1) c = true → c ∉ B → Lev N O red k c = true := fun c hc hl hB => by
    rcases h.seenOk c (up c hc hl) with h1 | h1
    · exact h1
    · exact absurd h1 hB
  refine ⟨up, fun c hc => .inl ?_, (fun c hc => nomatch hc), fun c hc => ?_, fun e he hl hB c hc ho => ?_, fun h0 e he hl hB => ?_, h.few1⟩
  · rcases h.seenOk c hc with h1 | h1
    · exact lev_up h1
    · exact (h.bOk c h1).2.2.1
  · obtain ⟨h1, h2, h3, h4⟩ := h.bOk c hc
    exact ⟨h1, h3, fun j hj hl => h4 (lev_mono (Nat.le_of_lt_succ hj) hl)⟩
  · exact h.ex e he (down e he hl hB) (List.not_mem_nil) c hc ho
  · exact h.few0 h0 e he (down e he hl hB) (List.not_mem_nil)
theorem BInv.done {N : Nat} {O : Nat → Bool} {red : Bool} {k few : Nat} {seen : List Nat} (hn : SizeOk N) (h : BInv N O red k seen [] [] few) : Tells N O red few := by
  have clos : ∀ c, c < N * N → Lev N O red (k + 1) c = true → Lev N O red k c = true := fun c hc hl => by
    have : c ∈ seen := by
      rcases lev_step hl with h1 | ⟨e, he, h1⟩
      · exact h.lev c hc h1
      · exact h.ex e (nbs_lt he) h1 (List.not_mem_nil) c (nbs_symm hn hc he) (lev_own hl)
    rcases h.seenOk c this with h1 | h1
    · exact h1
    · exact nomatch h1
  have all : ∀ i c, c < N * N → Lev N O red (k + i) c = true → Lev N O red k c = true := by
    intro i
    induction i with
    | zero => exact fun c _ h => h
    | succ i ih =>
      intro c hc hl
      refine clos c hc ?_
      rcases lev_step (k := k + i) hl with h1 | ⟨e, he, h1⟩
      · exact lev_up (ih c hc h1)
      · exact lev_next (lev_own hl) he (ih e (nbs_lt he) h1)
  by_cases h0 : few = 0
  · refine .inl ⟨h0, fun j c hc hl => h.few0 h0 c hc ?_ (List.not_mem_nil)⟩
    exact all j c hc (lev_mono (Nat.le_add_left j k) hl)
  · exact .inr ⟨h0, h.few1 h0⟩
theorem own_code {N : Nat} {bs : List Int} {red : Bool} {x y : Int} (h : inside N x y) : ownC N bs red (codeI N x y) = (isRed N bs x y == red) := by
  obtain ⟨_, h1, h2⟩ := inside_code h
  unfold ownC
  rw [← h1, ← h2]
theorem ways_spec {N : Nat} {bs : List Int} {red : Bool} {dots c : Nat} : ∀ (ds : List (_root_.Fin 6)) (σ : List Nat × List (Nat × Nat)), ∃ new : List Nat, ds.foldl (wayStep N bs red dots c) σ = (σ.1 ++ new, σ.2 ++ new.map fun e => (dots + 1, e)) ∧
    (∀ e ∈ new, e ∉ σ.1 ∧ ownC N bs red e = true ∧ ∃ d ∈ ds, inside N (spotX N c d) (spotY N c d) ∧ e = codeI N (spotX N c d) (spotY N c d)) ∧
    ∀ d ∈ ds, inside N (spotX N c d) (spotY N c d) → ownC N bs red (codeI N (spotX N c d) (spotY N c d)) = true → codeI N (spotX N c d) (spotY N c d) ∈ σ.1 ++ new
  | [], σ => ⟨[], by simp, (fun _ h => nomatch h), (fun _ h => nomatch h)⟩
  | d :: ds, σ => by
    obtain ⟨new, e1, e2, e3⟩ := ways_spec (N := N) (bs := bs) (red := red) (dots := dots) (c := c) ds (wayStep N bs red dots c σ d)
    rw [List.foldl_cons, e1]
    by_cases hc : inside N (spotX N c d) (spotY N c d) ∧ codeI N (spotX N c d) (spotY N c d) ∉ σ.1 ∧ (isRed N bs (spotX N c d) (spotY N c d) == red) = true
    · have ew : wayStep N bs red dots c σ d = (σ.1 ++ [codeI N (spotX N c d) (spotY N c d)], σ.2 ++ [(dots + 1, codeI N (spotX N c d) (spotY N c d))]) := if_pos hc
      rw [ew] at e2 e3 ⊢
      refine ⟨codeI N (spotX N c d) (spotY N c d) :: new, by simp, fun e he => ?_, fun d' hd' hi ho => ?_⟩
      · rcases List.mem_cons.mp he with rfl | he
        · exact ⟨hc.2.1, by rw [own_code hc.1]; exact hc.2.2, d, .head _, hc.1, rfl⟩
        · obtain ⟨h1, h2, d', h3, h4⟩ := e2 e he
          exact ⟨fun z => h1 (List.mem_append_left _ z), h2, d', .tail _ h3, h4⟩
      · rcases List.mem_cons.mp hd' with rfl | hd'
        · simp
        · have := e3 d' hd' hi ho
          simpa using this
    · have ew : wayStep N bs red dots c σ d = σ := if_neg hc
      rw [ew] at e2 e3 ⊢
      refine ⟨new, rfl, fun e he => ?_, fun d' hd' hi ho => ?_⟩
      · obtain ⟨h1, h2, d', h3, h4⟩ := e2 e he
        exact ⟨h1, h2, d', .tail _ h3, h4⟩
      · rcases List.mem_cons.mp hd' with rfl | hd'
        · by_cases hs : codeI N (spotX N c d') (spotY N c d') ∈ σ.1
          · exact List.mem_append_left _ hs
          · exact absurd ⟨hi, hs, by rw [← own_code hi]; exact ho⟩ hc
        · exact e3 d' hd' hi ho
theorem BInv.pop {N : Nat} {bs : List Int} {red : Bool} {k few c0 : Nat} {seen A B : List Nat} {q : List (Nat × Nat)} (hn : SizeOk N) (hk : k + 1 ≤ N * N) (h : BInv N (ownC N bs red) red k seen (c0 :: A) B few) :
    ∃ new, waysF N bs red (k + 1) c0 (seen, q) 6 = (seen ++ new, q ++ new.map fun e => (k + 2, e)) ∧ BInv N (ownC N bs red) red k (seen ++ new) A (B ++ new) (if few = 0 ∧ farC N red c0 then k + 1 else few) := by
  obtain ⟨new, e1, e2, e3⟩ := ways_spec (N := N) (bs := bs) (red := red) (dots := k + 1) (c := c0) allDirs (seen, q)
  obtain ⟨c1, c2, c3⟩ := h.aOk c0 (.head _)
  refine ⟨new, e1, fun c hc hl => List.mem_append_left _ (h.lev c hc hl), fun c hc => ?_, fun c hc => ?_, fun c hc => h.aOk c (.tail _ hc), fun e he hl hA c hc ho => ?_, fun h0 e he hl hA => ?_, fun h0 => ?_⟩
  · rcases List.mem_append.mp hc with hc | hc
    · rcases h.seenOk c hc with h1 | h1
      · exact .inl h1
      · exact .inr (List.mem_append_left _ h1)
    · exact .inr (List.mem_append_right _ hc)
  · rcases List.mem_append.mp hc with hc | hc
    · obtain ⟨h1, h2, h3⟩ := h.bOk c hc
      exact ⟨h1, List.mem_append_left _ h2, h3⟩
    · obtain ⟨h1, h2, d, _, h3, h4⟩ := e2 c hc
      have hm : c ∈ nbs N c0 := mem_nbs.mpr ⟨d, h3, h4⟩
      exact ⟨nbs_lt hm, List.mem_append_right _ hc, lev_next h2 (nbs_symm hn c1 hm) c2, fun z => h1 (h.lev c (nbs_lt hm) z)⟩
  · by_cases hec : e = c0
    · subst hec
      obtain ⟨d, h3, rfl⟩ := mem_nbs.mp hc
      exact e3 d (mem_allDirs d) h3 ho
    · refine List.mem_append_left _ (h.ex e he hl (fun z => ?_) c hc ho)
      rcases List.mem_cons.mp z with z | z
      · exact hec z
      · exact hA z
  · by_cases hc : few = 0 ∧ farC N red c0
    · rw [if_pos hc] at h0; omega
    · rw [if_neg hc] at h0
      by_cases hec : e = c0
      · subst hec; exact fun z => hc ⟨h0, z⟩
      · refine h.few0 h0 e he hl fun z => ?_
        rcases List.mem_cons.mp z with z | z
        · exact hec z
        · exact hA z
  · by_cases hc : few = 0 ∧ farC N red c0
    · rw [if_pos hc]
      refine ⟨hk, ⟨c0, c1, c2, hc.2⟩, fun i hi c hcc hl => ?_⟩
      have hi' : i < k := hi
      refine h.few0 hc.1 c hcc (lev_mono (Nat.le_of_lt hi') hl) fun z => ?_
      exact (h.aOk c z).2.2 i hi' hl
    · rw [if_neg hc] at h0 ⊢
      exact h.few1 h0
theorem flood_tells {N : Nat} {bs : List Int} {red : Bool} (hn : SizeOk N) : ∀ (n : Nat) (seen : List Nat) (q : List (Nat × Nat)) (few k : Nat) (A B : List Nat), BInv N (ownC N bs red) red k seen A B few → q = (A.map fun c => (k + 1, c)) ++ B.map (fun c => (k + 2, c)) → StOk N seen q → measQ N seen q ≤ n →
    Tells N (ownC N bs red) red (floodF N bs red n seen q few) := by
  intro n
  induction n with
  | zero =>
    intro seen q few k A B h hq hst hm
    have hq0 : q = [] := by
      cases q with
      | nil => rfl
      | cons z q => unfold measQ at hm; rw [List.length_cons] at hm; omega
    subst hq0
    have hA : A = [] := by cases A with | nil => rfl | cons _ _ => simp at hq
    have hB : B = [] := by subst hA; cases B with | nil => rfl | cons _ _ => simp at hq
    subst hA hB
    exact h.done hn
  | succ n ih =>
    have pop : ∀ (seen : List Nat) (q : List (Nat × Nat)) (few k c0 : Nat) (A B : List Nat), BInv N (ownC N bs red) red k seen (c0 :: A) B few → q = (A.map fun c => (k + 1, c)) ++ B.map (fun c => (k + 2, c)) → StOk N seen ((k + 1, c0) :: q) → measQ N seen ((k + 1, c0) :: q) ≤ n + 1 →
        Tells N (ownC N bs red) red (floodF N bs red (n + 1) seen ((k + 1, c0) :: q) few) := by
      intro seen q few k c0 A B h hq hst hm
      have hst' : StOk N seen q := ⟨hst.lt, hst.all, fun p hp => hst.q p (.tail _ hp)⟩
      have hd := hst.q _ (.head _)
      have hk : k + 1 ≤ N * N := by have := hst.all; dsimp only at hd; omega
      obtain ⟨new, e1, h'⟩ := h.pop (q := q) hn hk
      obtain ⟨a1, a2, a3⟩ := waysF_ok (bs := bs) (red := red) (dots := k + 1) (c := c0) (σ := (seen, q)) hst' hd.2.1 6 (Nat.le_refl _)
      rw [e1] at a1 a3
      unfold floodF
      rw [e1]
      refine ih _ _ _ k A (B ++ new) h' ?_ a1 ?_
      · rw [hq, List.map_append, List.append_assoc]
      · dsimp only at a3 ⊢
        unfold measQ at a3 hm ⊢
        rw [List.length_cons] at hm
        omega
    intro seen q few k A B h hq hst hm
    cases A with
    | cons c0 A =>
      subst hq
      exact pop seen _ few k c0 A B h rfl hst hm
    | nil =>
      have h2 := h.shift hn
      cases B with
      | nil => subst hq; exact h.done hn
      | cons c0 B =>
        subst hq
        exact pop seen _ few (k + 1) c0 B [] h2 (by simp) hst hm
theorem start_lev {N : Nat} {bs : List Int} {red : Bool} (hn : SizeOk N) {c : Nat} (hc : c < N * N) : c ∈ startF N bs red N ↔ Lev N (ownC N bs red) red 0 c = true := by
  unfold Lev startF
  rw [List.mem_filter, List.mem_map, Bool.and_eq_true_iff]
  have hp := hn.pos
  constructor
  · rintro ⟨⟨k, hk, rfl⟩, ho⟩
    refine ⟨ho, ?_⟩
    have hk' := List.mem_range.mp hk
    unfold nearC
    cases red with
    | true => simp
    | false => simp [Nat.div_eq_of_lt hk']
  · rintro ⟨ho, h⟩
    refine ⟨?_, ho⟩
    unfold nearC at h
    cases red with
    | true =>
      simp at h
      refine ⟨c / N, List.mem_range.mpr (Nat.div_lt_of_lt_mul hc), ?_⟩
      have := Nat.div_add_mod c N
      simp only [if_true]
      omega
    | false =>
      simp at h
      refine ⟨c, List.mem_range.mpr ?_, by simp⟩
      have h1 := Nat.div_add_mod c N
      rcases h with h | h
      · omega
      · exact h
theorem floodRes_tells {N : Nat} {bs : List Int} {red : Bool} (hn : SizeOk N) : Tells N (ownC N bs red) red (floodRes N bs red) := by
  unfold floodRes
  refine flood_tells hn 40 _ _ 0 0 (startF N bs red N) [] ?_ (by simp) (start_st hn) (start_meas hn)
  have hlt := startF_lt (bs := bs) (red := red) hn (Nat.le_refl N)
  refine ⟨fun c hc hl => (start_lev hn hc).mpr hl, fun c hc => .inl ((start_lev hn (hlt c hc)).mp hc), (fun c hc => nomatch hc), fun c hc => ⟨hlt c hc, (start_lev hn (hlt c hc)).mp hc, fun j hj => absurd hj (Nat.not_lt_zero _)⟩, fun e he hl hA => absurd ((start_lev hn he).mpr hl) hA, fun _ e he hl hA => absurd ((start_lev hn he).mpr hl) hA, fun h => absurd rfl h⟩
theorem Tells.unique {N : Nat} {O : Nat → Bool} {red : Bool} {r r' : Nat} (h : Tells N O red r) (h' : Tells N O red r') : r = r' := by
  rcases h with ⟨h0, h1⟩ | ⟨h0, h1, ⟨c, c1, c2, c3⟩, h2⟩
  · rcases h' with ⟨h0', h1'⟩ | ⟨h0', h1', ⟨c', c1', c2', c3'⟩, h2'⟩
    · exact h0.trans h0'.symm
    · exact absurd c3' (h1 _ _ c1' c2')
  · rcases h' with ⟨h0', h1'⟩ | ⟨h0', h1', ⟨c', c1', c2', c3'⟩, h2'⟩
    · exact absurd c3 (h1' _ _ c1 c2)
    · rcases Nat.lt_trichotomy (r - 1) (r' - 1) with hlt | heq | hlt
      · exact absurd c3 (h2' _ hlt c c1 c2)
      · exact Nat.sub_one_cancel (Nat.pos_of_ne_zero h0) (Nat.pos_of_ne_zero h0') heq
      · exact absurd c3' (h2 _ hlt c' c1' c2')
end
section
/-! the rounds of shifts are the levels too -/
noncomputable def Hs (own near wd : Nat) : Nat → Nat
  | 0 => own &&& near
  | j + 1 => growF own wd (Hs own near wd j)
theorem rounds_spec {own near far wd : Nat} : ∀ (k i : Nat), (roundsF own far wd k (i + 1) (Hs own near wd i) = 0 ∧ ∀ j, i ≤ j → j < i + k → Hs own near wd j &&& far = 0) ∨
    ∃ j, i ≤ j ∧ j < i + k ∧ roundsF own far wd k (i + 1) (Hs own near wd i) = j + 1 ∧ Hs own near wd j &&& far ≠ 0 ∧ ∀ j', i ≤ j' → j' < j → Hs own near wd j' &&& far = 0
  | 0, i => .inl ⟨rfl, fun j h1 h2 => by omega⟩
  | k + 1, i => by
    unfold roundsF
    by_cases h : Hs own near wd i &&& far ≠ 0
    · rw [if_pos h]
      exact .inr ⟨i, Nat.le_refl i, by omega, rfl, h, fun j' h1 h2 => by omega⟩
    · rw [if_neg h]
      have h0 : Hs own near wd i &&& far = 0 := Classical.byContradiction h
      have e : growF own wd (Hs own near wd i) = Hs own near wd (i + 1) := rfl
      rw [e]
      rcases rounds_spec (own := own) (near := near) (far := far) (wd := wd) k (i + 1) with ⟨h1, h2⟩ | ⟨j, h1, h2, h3, h4, h5⟩
      · refine .inl ⟨h1, fun j h3 h4 => ?_⟩
        by_cases hj : j = i
        · rw [hj]; exact h0
        · exact h2 j (by omega) (by omega)
      · refine .inr ⟨j, by omega, by omega, h3, h4, fun j' h6 h7 => ?_⟩
        by_cases hj : j' = i
        · rw [hj]; exact h0
        · exact h5 j' (by omega) h7
noncomputable def posC (N c : Nat) : Nat := c % N + (N + 1) * (c / N)
/-- a whole number tells the cells of one colour -/
structure Link (N : Nat) (O : Nat → Bool) (own : Nat) : Prop where
  bit : ∀ c, c < N * N → own.testBit (posC N c) = O c
  pad : ∀ p, own.testBit p = true → ∃ c, c < N * N ∧ p = posC N c
noncomputable def adjP (wd p q : Nat) : Bool := (q + 1 == p) || (q == p + 1) || (q + wd == p) || (q == p + wd) || (q + (wd + 1) == p) || (q == p + (wd + 1))
theorem shl_bit {h i p : Nat} : (h <<< i).testBit p = true ↔ ∃ q, h.testBit q = true ∧ q + i = p := by
  rw [Nat.testBit_shiftLeft, Bool.and_eq_true_iff, decide_eq_true_eq]
  constructor
  · rintro ⟨h1, h2⟩; exact ⟨p - i, h2, by omega⟩
  · rintro ⟨q, h1, rfl⟩; exact ⟨by omega, by rw [Nat.add_sub_cancel]; exact h1⟩
theorem shr_bit {h i p : Nat} : (h >>> i).testBit p = true ↔ ∃ q, h.testBit q = true ∧ q = p + i := by
  rw [Nat.testBit_shiftRight]
  constructor
  · intro h1; exact ⟨i + p, h1, by omega⟩
  · rintro ⟨q, h1, rfl⟩; rw [Nat.add_comm]; exact h1
theorem grow_bit {own wd h p : Nat} : (growF own wd h).testBit p = true ↔ own.testBit p = true ∧ (h.testBit p = true ∨ ∃ q, h.testBit q = true ∧ adjP wd p q = true) := by
  unfold growF adjP
  simp only [Nat.testBit_and, Nat.testBit_or, Bool.and_eq_true_iff, Bool.or_eq_true_iff, shl_bit, shr_bit, beq_iff_eq]
  constructor
  · rintro ⟨h0, h1⟩
    refine ⟨h0, ?_⟩
    rcases h1 with (((((h1 | ⟨q, h1, e⟩) | ⟨q, h1, e⟩) | ⟨q, h1, e⟩) | ⟨q, h1, e⟩) | ⟨q, h1, e⟩) | ⟨q, h1, e⟩
    · exact .inl h1
    · exact .inr ⟨q, h1, .inl (.inl (.inl (.inl (.inl e))))⟩
    · exact .inr ⟨q, h1, .inl (.inl (.inl (.inl (.inr e))))⟩
    · exact .inr ⟨q, h1, .inl (.inl (.inl (.inr e)))⟩
    · exact .inr ⟨q, h1, .inl (.inl (.inr e))⟩
    · exact .inr ⟨q, h1, .inl (.inr e)⟩
    · exact .inr ⟨q, h1, .inr e⟩
  · rintro ⟨h0, h1⟩
    refine ⟨h0, ?_⟩
    rcases h1 with h1 | ⟨q, h1, ((((e | e) | e) | e) | e) | e⟩
    · exact .inl (.inl (.inl (.inl (.inl (.inl h1)))))
    · exact .inl (.inl (.inl (.inl (.inl (.inr ⟨q, h1, e⟩)))))
    · exact .inl (.inl (.inl (.inl (.inr ⟨q, h1, e⟩))))
    · exact .inl (.inl (.inl (.inr ⟨q, h1, e⟩)))
    · exact .inl (.inl (.inr ⟨q, h1, e⟩))
    · exact .inl (.inr ⟨q, h1, e⟩)
    · exact .inr ⟨q, h1, e⟩
theorem adj_nbs0 : (∀ c, c < 3 * 3 → ∀ e, e < 3 * 3 → (adjP 4 (posC 3 c) (posC 3 e) = true ↔ e ∈ nbs 3 c)) ∧ ∀ c, c < 4 * 4 → ∀ e, e < 4 * 4 → (adjP 5 (posC 4 c) (posC 4 e) = true ↔ e ∈ nbs 4 c) := by decide +kernel
theorem adj_nbs {N c e : Nat} (hn : SizeOk N) (hc : c < N * N) (he : e < N * N) : adjP (N + 1) (posC N c) (posC N e) = true ↔ e ∈ nbs N c := by
  rcases hn with rfl | rfl
  · exact adj_nbs0.1 c hc e he
  · exact adj_nbs0.2 c hc e he
theorem link_lev {N : Nat} {O : Nat → Bool} {own near : Nat} {red : Bool} (hn : SizeOk N) (hL : Link N O own) (hnear : ∀ c, c < N * N → near.testBit (posC N c) = nearC N red c) :
    ∀ j, (∀ c, c < N * N → (Hs own near (N + 1) j).testBit (posC N c) = Lev N O red j c) ∧ ∀ p, (Hs own near (N + 1) j).testBit p = true → own.testBit p = true
  | 0 => by
    refine ⟨fun c hc => ?_, fun p h => ?_⟩
    · unfold Hs Lev
      rw [Nat.testBit_and, hL.bit c hc, hnear c hc]
    · unfold Hs at h
      rw [Nat.testBit_and] at h
      exact (Bool.and_eq_true_iff.mp h).1
  | j + 1 => by
    obtain ⟨h1, h2⟩ := link_lev hn hL hnear j
    refine ⟨fun c hc => ?_, fun p h => ?_⟩
    · rw [Bool.eq_iff_iff]
      show (growF own (N + 1) (Hs own near (N + 1) j)).testBit (posC N c) = true ↔ _
      rw [grow_bit, hL.bit c hc, h1 c hc]
      constructor
      · rintro ⟨ho, h | ⟨q, hq, ha⟩⟩
        · exact lev_up h
        · obtain ⟨e, he, rfl⟩ := hL.pad q (h2 q hq)
          rw [h1 e he] at hq
          exact lev_next ho ((adj_nbs hn hc he).mp ha) hq
      · intro h
        refine ⟨lev_own h, ?_⟩
        rcases lev_step h with h | ⟨e, he, h⟩
        · exact .inl h
        · exact .inr ⟨posC N e, by rw [h1 e (nbs_lt he)]; exact h, (adj_nbs hn hc (nbs_lt he)).mpr he⟩
    · exact (grow_bit.mp h).1
theorem hs_far {N : Nat} {O : Nat → Bool} {own near far : Nat} {red : Bool} (hn : SizeOk N) (hL : Link N O own) (hnear : ∀ c, c < N * N → near.testBit (posC N c) = nearC N red c) (hfar : ∀ c, c < N * N → far.testBit (posC N c) = decide (farC N red c)) (j : Nat) :
    Hs own near (N + 1) j &&& far ≠ 0 ↔ ∃ c, c < N * N ∧ Lev N O red j c = true ∧ farC N red c := by
  obtain ⟨h1, h2⟩ := link_lev hn hL hnear j
  constructor
  · intro h
    obtain ⟨p, hp⟩ := Nat.exists_testBit_of_ne_zero h
    rw [Nat.testBit_and, Bool.and_eq_true_iff] at hp
    obtain ⟨c, hc, rfl⟩ := hL.pad p (h2 p hp.1)
    rw [h1 c hc, hfar c hc, decide_eq_true_eq] at hp
    exact ⟨c, hc, hp⟩
  · rintro ⟨c, hc, h3, h4⟩ h
    have e : (Hs own near (N + 1) j &&& far).testBit (posC N c) = true := by
      rw [Nat.testBit_and, h1 c hc, hfar c hc, h3, decide_eq_true h4]; rfl
    rw [h, Nat.zero_testBit] at e
    cases e
theorem rounds_eq {N : Nat} {O : Nat → Bool} {own near far r : Nat} {red : Bool} (hn : SizeOk N) (hL : Link N O own) (hnear : ∀ c, c < N * N → near.testBit (posC N c) = nearC N red c) (hfar : ∀ c, c < N * N → far.testBit (posC N c) = decide (farC N red c))
    (h : Tells N O red r) : roundsF own far (N + 1) ((N + 1) * (N + 1) - 1) 1 (own &&& near) = r := by
  have hs := hs_far hn hL hnear hfar
  have hK : N * N ≤ (N + 1) * (N + 1) - 1 := by rcases hn with rfl | rfl <;> decide
  have hr := rounds_spec (own := own) (near := near) (far := far) (wd := N + 1) ((N + 1) * (N + 1) - 1) 0
  have e0 : Hs own near (N + 1) 0 = own &&& near := rfl
  rw [e0, Nat.zero_add] at hr
  rcases h with ⟨h0, h1⟩ | ⟨h0, h1, ⟨c, c1, c2, c3⟩, h2⟩
  · rcases hr with ⟨r1, _⟩ | ⟨j, _, _, _, r4, _⟩
    · rw [r1, h0]
    · obtain ⟨c, c1, c2, c3⟩ := (hs j).mp r4
      exact absurd c3 (h1 j c c1 c2)
  · rcases hr with ⟨_, r2⟩ | ⟨j, _, _, r3, r4, r5⟩
    · exact absurd (r2 (r - 1) (Nat.zero_le _) (by rw [Nat.zero_add]; exact Nat.lt_of_lt_of_le (Nat.sub_lt (Nat.pos_of_ne_zero h0) Nat.one_pos) (Nat.le_trans h1 hK))) ((hs (r - 1)).mpr ⟨c, c1, c2, c3⟩)
    · rw [r3]
      obtain ⟨d, d1, d2, d3⟩ := (hs j).mp r4
      rcases Nat.lt_trichotomy (r - 1) j with hlt | heq | hlt
      · exact absurd (r5 _ (Nat.zero_le _) hlt) ((hs (r - 1)).mpr ⟨c, c1, c2, c3⟩)
      · rw [← heq]; exact Nat.sub_add_cancel (Nat.pos_of_ne_zero h0)
      · exact absurd d3 (h2 j hlt d d1 d2)
end
section
/-! truth tables: a number's bit b tells what holds on the board b -/
noncomputable def fullT (m : Nat) : Nat := 2 ^ (2 ^ m) - 1
noncomputable def varT (c : Nat) : Nat → Nat
  | 0 => 0
  | m + 1 => bif Nat.beq c m then (fullT m) <<< (2 ^ m) else varT c m ||| (varT c m) <<< (2 ^ m)
theorem fullT_bit {m b : Nat} (hb : b < 2 ^ m) : (fullT m).testBit b = true := by
  unfold fullT
  rw [Nat.testBit_two_pow_sub_one, decide_eq_true hb]
theorem varT_lt (c : Nat) : ∀ m, varT c m < 2 ^ (2 ^ m)
  | 0 => by unfold varT; decide
  | m + 1 => by
    have e : 2 ^ (2 ^ (m + 1)) = 2 ^ (2 ^ m) * 2 ^ (2 ^ m) := by rw [← Nat.pow_add, Nat.pow_succ, Nat.mul_two]
    have hp : 0 < 2 ^ (2 ^ m) := Nat.two_pow_pos _
    unfold varT
    cases Nat.beq c m with
    | true =>
      show (fullT m) <<< (2 ^ m) < _
      rw [Nat.shiftLeft_eq, e]
      exact Nat.mul_lt_mul_of_pos_right (by unfold fullT; omega) hp
    | false =>
      show varT c m ||| (varT c m) <<< (2 ^ m) < _
      have h := varT_lt c m
      refine Nat.or_lt_two_pow (Nat.lt_of_lt_of_le h ?_) ?_
      · rw [e]; exact Nat.le_mul_of_pos_right _ hp
      · rw [Nat.shiftLeft_eq, e]
        exact Nat.mul_lt_mul_of_pos_right h hp
theorem varT_bit {c : Nat} : ∀ {m b : Nat}, c < m → b < 2 ^ m → (varT c m).testBit b = b.testBit c
  | 0, _, h, _ => absurd h (Nat.not_lt_zero _)
  | m + 1, b, hc, hb => by
    have e : 2 ^ (m + 1) = 2 ^ m + 2 ^ m := by rw [Nat.pow_succ, Nat.mul_two]
    unfold varT
    by_cases hcm : c = m
    · have h1 : Nat.beq c m = true := by rw [hcm]; exact Nat.beq_refl m
      rw [h1, hcm]
      show ((fullT m) <<< (2 ^ m)).testBit b = b.testBit m
      rw [Nat.testBit_shiftLeft]
      by_cases hlt : b < 2 ^ m
      · rw [Nat.testBit_lt_two_pow hlt, decide_eq_false (by omega)]; rfl
      · obtain ⟨b', rfl⟩ : ∃ b', b = 2 ^ m + b' := ⟨b - 2 ^ m, by omega⟩
        have hb' : b' < 2 ^ m := by omega
        rw [Nat.testBit_two_pow_add_eq, Nat.testBit_lt_two_pow hb', decide_eq_true (by omega), Nat.add_sub_cancel_left, fullT_bit hb']; rfl
    · have h1 : Nat.beq c m = false := by
        cases h : Nat.beq c m with
        | false => rfl
        | true => exact absurd (Nat.eq_of_beq_eq_true h) hcm
      have hcm' : c < m := by omega
      rw [h1]
      show (varT c m ||| (varT c m) <<< (2 ^ m)).testBit b = b.testBit c
      rw [Nat.testBit_or, Nat.testBit_shiftLeft]
      by_cases hlt : b < 2 ^ m
      · rw [varT_bit hcm' hlt, decide_eq_false (by omega), Bool.false_and, Bool.or_false]
      · obtain ⟨b', rfl⟩ : ∃ b', b = 2 ^ m + b' := ⟨b - 2 ^ m, by omega⟩
        have hb' : b' < 2 ^ m := by omega
        have h0 : (varT c m).testBit (2 ^ m + b') = false := Nat.testBit_lt_two_pow (Nat.lt_of_lt_of_le (varT_lt c m) (Nat.pow_le_pow_right (by decide) (by omega)))
        rw [h0, decide_eq_true (by omega), Nat.add_sub_cancel_left, varT_bit hcm' hb', Nat.testBit_two_pow_add_gt hcm']; rfl
noncomputable def nbT (N : Nat) : List (List Nat) := if N = 3 then [[1, 4, 3], [2, 5, 4, 0], [5, 1], [4, 7, 6, 0], [5, 8, 7, 3, 0, 1], [8, 4, 1, 2], [7, 3], [8, 6, 3, 4], [7, 4, 5]] else
  [[1, 5, 4], [2, 6, 5, 0], [3, 7, 6, 1], [7, 2], [5, 9, 8, 0], [6, 10, 9, 4, 0, 1], [7, 11, 10, 5, 1, 2], [11, 6, 2, 3], [9, 13, 12, 4], [10, 14, 13, 8, 4, 5], [11, 15, 14, 9, 5, 6], [15, 10, 6, 7], [13, 8], [14, 12, 8, 9], [15, 13, 9, 10], [14, 10, 11]]
noncomputable def nbL (N c : Nat) : List Nat := (nbT N).getD c []
theorem nbL_eq0 : (∀ c, c < 3 * 3 → nbL 3 c = nbs 3 c) ∧ ∀ c, c < 4 * 4 → nbL 4 c = nbs 4 c := by decide +kernel
theorem nbL_eq {N c : Nat} (hn : SizeOk N) (hc : c < N * N) : nbL N c = nbs N c := by
  rcases hn with rfl | rfl
  · exact nbL_eq0.1 c hc
  · exact nbL_eq0.2 c hc
noncomputable def ownT (N : Nat) (red : Bool) (c : Nat) : Nat := bif red then varT c (N * N) else fullT (N * N) ^^^ varT c (N * N)
noncomputable def symLev (N : Nat) (red : Bool) (k : Nat) : Nat → Nat :=
  Nat.rec (motive := fun _ => Nat → Nat) (fun c => bif nearC N red c then ownT N red c else 0) (fun _ ih c => ownT N red c &&& (nbL N c).foldl (fun a e => a ||| ih e) (ih c)) k
noncomputable def ownB (b : Nat) (red : Bool) (c : Nat) : Bool := b.testBit c == red
theorem ownT_bit {N c b : Nat} {red : Bool} (hc : c < N * N) (hb : b < 2 ^ (N * N)) : (ownT N red c).testBit b = ownB b red c := by
  unfold ownT ownB
  cases red with
  | true =>
    show (varT c (N * N)).testBit b = _
    rw [varT_bit hc hb]
    cases b.testBit c <;> rfl
  | false =>
    show (fullT (N * N) ^^^ varT c (N * N)).testBit b = _
    rw [Nat.testBit_xor, fullT_bit hb, varT_bit hc hb]
    cases b.testBit c <;> rfl
theorem foldl_or_bit {f : Nat → Nat} {b : Nat} : ∀ (l : List Nat) (a : Nat), (l.foldl (fun a e => a ||| f e) a).testBit b = (a.testBit b || l.any fun e => (f e).testBit b)
  | [], a => by simp
  | e :: l, a => by
    rw [List.foldl_cons, foldl_or_bit l, Nat.testBit_or, List.any_cons, Bool.or_assoc]
theorem any_same {f g : Nat → Bool} : ∀ {l : List Nat}, (∀ e ∈ l, f e = g e) → l.any f = l.any g
  | [], _ => rfl
  | e :: l, h => by rw [List.any_cons, List.any_cons, h e (.head _), any_same fun d hd => h d (.tail _ hd)]
theorem symLev_bit {N b : Nat} {red : Bool} (hn : SizeOk N) (hb : b < 2 ^ (N * N)) : ∀ (k c : Nat), c < N * N → (symLev N red k c).testBit b = Lev N (ownB b red) red k c
  | 0, c, hc => by
    show (bif nearC N red c then ownT N red c else 0).testBit b = (ownB b red c && nearC N red c)
    cases nearC N red c with
    | true => rw [cond_true, ownT_bit hc hb, Bool.and_true]
    | false => rw [cond_false, Nat.zero_testBit, Bool.and_false]
  | k + 1, c, hc => by
    show (ownT N red c &&& (nbL N c).foldl (fun a e => a ||| symLev N red k e) (symLev N red k c)).testBit b = _
    unfold Lev
    rw [Nat.testBit_and, ownT_bit hc hb, foldl_or_bit, symLev_bit hn hb k c hc, nbL_eq hn hc]
    congr 2
    exact any_same fun e he => symLev_bit hn hb k e (nbs_lt he)
noncomputable def farL (N : Nat) (red : Bool) : List Nat := if N = 3 then (if red then [2, 5, 8] else [6, 7, 8]) else if red then [3, 7, 11, 15] else [12, 13, 14, 15]
noncomputable def winT (N : Nat) (red : Bool) : Nat := (farL N red).foldl (fun a c => a ||| symLev N red ((N + 1) * (N + 1) - 2) c) 0
theorem farL_mem3 : (∀ red : Bool, ∀ c ∈ farL 3 red, c < 3 * 3 ∧ farC 3 red c) ∧ ∀ red : Bool, ∀ c, c < 3 * 3 → farC 3 red c → c ∈ farL 3 red := by decide +kernel
theorem farL_mem4 : (∀ red : Bool, ∀ c ∈ farL 4 red, c < 4 * 4 ∧ farC 4 red c) ∧ ∀ red : Bool, ∀ c, c < 4 * 4 → farC 4 red c → c ∈ farL 4 red := by decide +kernel
theorem farL_mem {N c : Nat} {red : Bool} (hn : SizeOk N) : c ∈ farL N red ↔ c < N * N ∧ farC N red c := by
  rcases hn with rfl | rfl
  · exact ⟨farL_mem3.1 red c, fun h => farL_mem3.2 red c h.1 h.2⟩
  · exact ⟨farL_mem4.1 red c, fun h => farL_mem4.2 red c h.1 h.2⟩
theorem hexT3 : winT 3 true ^^^ winT 3 false = fullT (3 * 3) := by decide +kernel
theorem hexT4 : winT 4 true ^^^ winT 4 false = fullT (4 * 4) := by decide +kernel
theorem winT_bit {N b r : Nat} {red : Bool} (hn : SizeOk N) (hb : b < 2 ^ (N * N)) (h : Tells N (ownB b red) red r) : (winT N red).testBit b = true ↔ r ≠ 0 := by
  have hK : N * N ≤ (N + 1) * (N + 1) - 1 := by rcases hn with rfl | rfl <;> decide
  unfold winT
  rw [foldl_or_bit, Nat.zero_testBit, Bool.false_or, List.any_eq_true]
  rcases h with ⟨h0, h1⟩ | ⟨h0, h1, ⟨c, c1, c2, c3⟩, _⟩
  · constructor
    · rintro ⟨e, he, hl⟩
      obtain ⟨e1, e2⟩ := (farL_mem hn).mp he
      rw [symLev_bit hn hb _ e e1] at hl
      exact absurd e2 (h1 _ e e1 hl)
    · intro z; exact absurd h0 z
  · refine ⟨fun _ => h0, fun _ => ⟨c, (farL_mem hn).mpr ⟨c1, c3⟩, ?_⟩⟩
    rw [symLev_bit hn hb _ c c1]
    exact lev_mono (by first | exact Nat.sub_le_sub_right (Nat.le_trans h1 hK) 1 | omega) c2
/-- one of the two leads across, never both -/
theorem hex_one {N b r s : Nat} (hn : SizeOk N) (hb : b < 2 ^ (N * N)) (hr : Tells N (ownB b true) true r) (hs : Tells N (ownB b false) false s) : (r = 0 ↔ s ≠ 0) := by
  have h1 := winT_bit hn hb hr
  have h2 := winT_bit hn hb hs
  have h3 : ((winT N true).testBit b ^^ (winT N false).testBit b) = true := by
    rw [← Nat.testBit_xor]
    rcases hn with rfl | rfl
    · rw [hexT3]; exact fullT_bit hb
    · rw [hexT4]; exact fullT_bit hb
  cases e1 : (winT N true).testBit b <;> cases e2 : (winT N false).testBit b <;> simp_all
end
section
/-! the walk along the border, for all boards at once: a state and the boards that reach it -/
noncomputable abbrev WEnt := Nat × Nat × Nat × Nat
noncomputable def wXN (k : Nat) : Nat := [2, 2, 1, 0, 0, 1].getD k 0
noncomputable def wYN (k : Nat) : Nat := [1, 2, 2, 1, 0, 0].getD k 0
noncomputable def wSucc (N win full x y m S : Nat) : Option (List WEnt) :=
  if x + wXN ((m + 1) % 6) < 1 ∨ y + wYN ((m + 1) % 6) < 1 ∨ N + 2 < x + wXN ((m + 1) % 6) ∨ N + 2 < y + wYN ((m + 1) % 6) then
    (if m = 19 then (if S &&& (win ^^^ full) = 0 then some [] else none) else if m = 16 then (if S &&& win = 0 then some [] else none) else none)
  else if x + wXN ((m + 1) % 6) < 2 ∨ N + 2 ≤ x + wXN ((m + 1) % 6) then some [(x + wXN ((m + 1) % 6) - 1, y + wYN ((m + 1) % 6) - 1, m + 1, S)]
  else if m = 0 then none
  else if y + wYN ((m + 1) % 6) < 2 ∨ N + 2 ≤ y + wYN ((m + 1) % 6) then some [(x, y, m - 1, S)]
  else some [(x + wXN ((m + 1) % 6) - 1, y + wYN ((m + 1) % 6) - 1, m + 1, S &&& varT (x + wXN ((m + 1) % 6) - 2 + N * (y + wYN ((m + 1) % 6) - 2)) (N * N)),
    (x, y, m - 1, S &&& (full ^^^ varT (x + wXN ((m + 1) % 6) - 2 + N * (y + wYN ((m + 1) % 6) - 2)) (N * N)))]
noncomputable def wIns (x y m S : Nat) : List WEnt → List WEnt
  | [] => [(x, y, m, S)]
  | (x', y', m', S') :: r => if x = x' ∧ y = y' ∧ m = m' then (x', y', m', S' ||| S) :: r else (x', y', m', S') :: wIns x y m S r
noncomputable def wAdd (e : WEnt) (l : List WEnt) : List WEnt := if e.2.2.2 = 0 then l else wIns e.1 e.2.1 e.2.2.1 e.2.2.2 l
noncomputable def wStep (N win full : Nat) : List WEnt → Option (List WEnt)
  | [] => some []
  | e :: r => match wSucc N win full e.1 e.2.1 e.2.2.1 e.2.2.2 with
    | none => none
    | some ss => match wStep N win full r with
      | none => none
      | some acc => some (ss.foldr wAdd acc)
noncomputable def wRun (N win full : Nat) : Nat → List WEnt → Bool
  | 0, l => l.isEmpty
  | k + 1, l => match wStep N win full l with
    | none => false
    | some l' => wRun N win full k l'
theorem wRun3 : wRun 3 (winT 3 true) (fullT (3 * 3)) 33 [(0, 4, 16, fullT (3 * 3))] = true := by decide +kernel
theorem wRun4 : wRun 4 (winT 4 true) (fullT (4 * 4)) 51 [(0, 5, 16, fullT (4 * 4))] = true := by decide +kernel
noncomputable def dOf (m : Nat) : _root_.Fin 6 := ⟨(m + 2) % 6, Nat.mod_lt _ (by decide)⟩
theorem dOf_back (m : Nat) : (dOf m + 5).val = (m + 1) % 6 := by
  exact (Nat.mod_add_mod (m + 2) 6 5).trans (Nat.add_mod_right (m + 1) 6)
theorem dOf_up (m : Nat) : dOf (m + 1) = dOf m + 1 := by
  apply Fin.ext
  exact (Nat.mod_add_mod (m + 2) 6 1).symm
theorem dOf_down {m : Nat} (h : m ≠ 0) : dOf (m - 1) = dOf m + 5 := by
  apply Fin.ext
  obtain ⟨k, rfl⟩ := Nat.exists_eq_succ_of_ne_zero h
  exact ((Nat.mod_add_mod (k + 3) 6 5).trans (Nat.add_mod_right (k + 2) 6)).symm
theorem wX_tab : ∀ d : _root_.Fin 6, wX d = (wXN d.val : Int) - 1 ∧ wY d = (wYN d.val : Int) - 1 := by decide
theorem wX_back (m : Nat) : wX (dOf m + 5) = (wXN ((m + 1) % 6) : Int) - 1 ∧ wY (dOf m + 5) = (wYN ((m + 1) % 6) : Int) - 1 := by
  have h := wX_tab (dOf m + 5)
  rw [dOf_back] at h
  exact h
noncomputable def Has (l : List WEnt) (b x y m : Nat) : Prop := ∃ S, (x, y, m, S) ∈ l ∧ S.testBit b = true
theorem has_ins {b x y m S x' y' m' : Nat} : ∀ {l : List WEnt}, Has l b x' y' m' → Has (wIns x y m S l) b x' y' m'
  | [], h => nomatch h.choose_spec.1
  | (x2, y2, m2, S2) :: r, ⟨S', h1, h2⟩ => by
    unfold wIns
    split
    · rcases List.mem_cons.mp h1 with e | h1
      · cases e
        exact ⟨_, .head _, by rw [Nat.testBit_or, h2]; rfl⟩
      · exact ⟨S', .tail _ h1, h2⟩
    · rcases List.mem_cons.mp h1 with e | h1
      · cases e; exact ⟨_, .head _, h2⟩
      · obtain ⟨S3, h3, h4⟩ := has_ins (S := S) (x := x) (y := y) (m := m) (l := r) ⟨S', h1, h2⟩
        exact ⟨S3, .tail _ h3, h4⟩
theorem ins_has {b x y m S : Nat} (hS : S.testBit b = true) : ∀ l : List WEnt, Has (wIns x y m S l) b x y m
  | [] => ⟨S, .head _, hS⟩
  | (x2, y2, m2, S2) :: r => by
    unfold wIns
    split
    · rename_i h
      obtain ⟨rfl, rfl, rfl⟩ := h
      exact ⟨_, .head _, by rw [Nat.testBit_or, hS, Bool.or_true]⟩
    · obtain ⟨S3, h3, h4⟩ := ins_has (x := x) (y := y) (m := m) hS r
      exact ⟨S3, .tail _ h3, h4⟩
theorem has_fold {b x y m : Nat} : ∀ {ss acc : List WEnt}, Has acc b x y m → Has (ss.foldr wAdd acc) b x y m
  | [], _, h => h
  | e :: ss, acc, h => by
    rw [List.foldr_cons]
    unfold wAdd
    split
    · exact has_fold h
    · exact has_ins (has_fold h)
theorem fold_has {b x y m : Nat} : ∀ {ss acc : List WEnt}, Has ss b x y m → Has (ss.foldr wAdd acc) b x y m
  | [], _, h => nomatch h.choose_spec.1
  | e :: ss, acc, ⟨S, h1, h2⟩ => by
    rw [List.foldr_cons]
    unfold wAdd
    rcases List.mem_cons.mp h1 with e1 | h1
    · subst e1
      split
      · rename_i h0
        have h0' : S = 0 := h0
        rw [h0', Nat.zero_testBit] at h2; cases h2
      · exact ins_has h2 _
    · split
      · exact fold_has ⟨S, h1, h2⟩
      · exact has_ins (fold_has ⟨S, h1, h2⟩)
theorem step_has {N win full b : Nat} : ∀ {l l' : List WEnt}, wStep N win full l = some l' → ∀ {x y m S : Nat}, (x, y, m, S) ∈ l → ∃ ss, wSucc N win full x y m S = some ss ∧ ∀ x' y' m', Has ss b x' y' m' → Has l' b x' y' m'
  | [], _, _, _, _, _, _, h => nomatch h
  | e :: r, l', hs, x, y, m, S, h => by
    unfold wStep at hs
    split at hs
    · cases hs
    · rename_i ss hss
      split at hs
      · cases hs
      · rename_i acc hacc
        cases hs
        rcases List.mem_cons.mp h with e1 | h
        · subst e1
          exact ⟨ss, hss, fun _ _ _ z => fold_has z⟩
        · obtain ⟨ss', h1, h2⟩ := step_has (b := b) hacc h
          exact ⟨ss', h1, fun _ _ _ z => has_fold (h2 _ _ _ z)⟩
theorem and_zero_bit {a b i : Nat} (h : a &&& b = 0) (ha : a.testBit i = true) : b.testBit i = false := by
  have e : (a &&& b).testBit i = false := by rw [h, Nat.zero_testBit]
  rw [Nat.testBit_and, ha, Bool.true_and] at e
  exact e
theorem bo_sh {x w X : Nat} (h : x + w = X) : (x : Int) - 1 + ((w : Int) - 1) = (X : Int) - 2 := by omega
theorem bo_out {X Y N : Nat} (h : X < 1 ∨ Y < 1 ∨ N + 2 < X ∨ N + 2 < Y) : min ((X : Int) - 2) ((Y : Int) - 2) < -1 ∨ (N : Int) < max ((X : Int) - 2) ((Y : Int) - 2) := by
  rcases h with h | h | h | h
  · exact .inl (Int.lt_of_le_of_lt (Int.min_le_left _ _) (by rw [Nat.lt_one_iff.mp h]; decide))
  · exact .inl (Int.lt_of_le_of_lt (Int.min_le_right _ _) (by rw [Nat.lt_one_iff.mp h]; decide))
  · exact .inr (Int.lt_of_lt_of_le (Int.lt_sub_right_of_add_lt (Int.ofNat_lt.mpr h)) (Int.le_max_left _ _))
  · exact .inr (Int.lt_of_lt_of_le (Int.lt_sub_right_of_add_lt (Int.ofNat_lt.mpr h)) (Int.le_max_right _ _))
theorem bo_in {X Y N : Nat} (h : ¬ (X < 1 ∨ Y < 1 ∨ N + 2 < X ∨ N + 2 < Y)) : ¬ (min ((X : Int) - 2) ((Y : Int) - 2) < -1 ∨ (N : Int) < max ((X : Int) - 2) ((Y : Int) - 2)) := by omega
theorem bo_pos {X Y N : Nat} (h : ¬ (X < 1 ∨ Y < 1 ∨ N + 2 < X ∨ N + 2 < Y)) : 1 ≤ X ∧ 1 ≤ Y := by omega
theorem bo_up {m : Nat} : ((m : Int) - 16) + 1 = ((m + 1 : Nat) : Int) - 16 := by omega
theorem bo_down {m : Nat} (h : ¬ m = 0) : ((m : Int) - 16) - 1 = ((m - 1 : Nat) : Int) - 16 := by omega
theorem bo_back {X : Nat} (h : 1 ≤ X) : (X : Int) - 2 = ((X - 1 : Nat) : Int) - 1 := by omega
theorem bo_back2 {X : Nat} (h : ¬ X < 2) : ((X - 2 : Nat) : Int) = (X : Int) - 2 := by omega
theorem bo_side {X N : Nat} (h : X < 2 ∨ N + 2 ≤ X) : (X : Int) - 2 < 0 ∨ (N : Int) ≤ (X : Int) - 2 := by omega
theorem bo_noside {X N : Nat} (h : ¬ (X < 2 ∨ N + 2 ≤ X)) : ¬ ((X : Int) - 2 < 0 ∨ (N : Int) ≤ (X : Int) - 2) := by omega
theorem bo_cell {X N : Nat} (h : ¬ (X < 2 ∨ N + 2 ≤ X)) : ¬ X < 2 ∧ X - 2 < N := by omega
theorem bo_lt {X Y N : Nat} (hx : X < N) (hy : Y < N) : X + N * Y < N * N := by
  have h5 : N * (Y + 1) ≤ N * N := Nat.mul_le_mul_left _ hy
  rw [Nat.mul_succ] at h5
  omega
theorem run_ok {N win b : Nat} {bs : List Int} (hb : b < 2 ^ (N * N)) (hcol : ∀ x y : Nat, x < N → y < N → isRed (N : Int) bs (x : Int) (y : Int) = b.testBit (x + N * y)) :
    ∀ (k : Nat) (l : List WEnt), wRun N win (fullT (N * N)) k l = true → ∀ x y m S, (x, y, m, S) ∈ l → S.testBit b = true →
      walkF (N : Int) bs k ((x : Int) - 1) ((y : Int) - 1) (dOf m) ((m : Int) - 16) = if win.testBit b = true then (3, 3) else (0, 0)
  | 0, l, hr, x, y, m, S, hm, _ => by
    unfold wRun at hr
    rw [List.isEmpty_iff] at hr
    subst hr
    cases hm
  | k + 1, l, hr, x, y, m, S, hm, hS => by
    unfold wRun at hr
    split at hr
    · cases hr
    · rename_i l' hl'
      obtain ⟨ss, h1, h2⟩ := step_has (b := b) hl' hm
      have ih := run_ok hb hcol k l' hr
      have go : ∀ x' y' m' S', (x', y', m', S') ∈ ss → S'.testBit b = true → walkF (N : Int) bs k ((x' : Int) - 1) ((y' : Int) - 1) (dOf m') ((m' : Int) - 16) = if win.testBit b = true then (3, 3) else (0, 0) := fun x' y' m' S' h3 h4 => by
        obtain ⟨S2, h5, h6⟩ := h2 x' y' m' ⟨S', h3, h4⟩
        exact ih x' y' m' S2 h5 h6
      obtain ⟨ex, ey⟩ := wX_back m
      have hd : ((dOf m).val : Int) = (((m + 2) % 6 : Nat) : Int) := rfl
      unfold walkF
      rw [ex, ey, hd, ← dOf_up]
      unfold wSucc at h1
      generalize hX : x + wXN ((m + 1) % 6) = X at h1
      generalize hY : y + wYN ((m + 1) % 6) = Y at h1
      have eX : (x : Int) - 1 + ((wXN ((m + 1) % 6) : Int) - 1) = (X : Int) - 2 := bo_sh hX
      have eY : (y : Int) - 1 + ((wYN ((m + 1) % 6) : Int) - 1) = (Y : Int) - 2 := bo_sh hY
      rw [eX, eY]
      split at h1
      · rename_i hout
        rw [if_pos (bo_out hout)]
        split at h1
        · rename_i hm19
          split at h1
          · rename_i h0
            have hb1 := and_zero_bit h0 hS
            rw [Nat.testBit_xor, fullT_bit hb] at hb1
            have hw : win.testBit b = true := by revert hb1; cases win.testBit b <;> simp
            rw [if_pos hw, hm19]
            rfl
          · cases h1
        · split at h1
          · rename_i hm16
            split at h1
            · rename_i h0
              have hb1 := and_zero_bit h0 hS
              rw [hb1, hm16]
              rfl
            · cases h1
          · cases h1
      · rename_i hout
        rw [if_neg (bo_in hout)]
        have eu : ((m : Int) - 16) + 1 = ((m + 1 : Nat) : Int) - 16 := bo_up
        have eX1 : (X : Int) - 2 = ((X - 1 : Nat) : Int) - 1 := bo_back (bo_pos hout).1
        have eY1 : (Y : Int) - 2 = ((Y - 1 : Nat) : Int) - 1 := bo_back (bo_pos hout).2
        split at h1
        · rename_i hside
          cases h1
          have hred : isRed (N : Int) bs ((X : Int) - 2) ((Y : Int) - 2) = true := by
            unfold isRed
            rw [if_pos (bo_side hside)]
          rw [if_pos hred, eu, eX1, eY1]
          exact go _ _ _ _ (.head _) hS
        · rename_i hside
          split at h1
          · cases h1
          · rename_i hm0
            have ed : ((m : Int) - 16) - 1 = ((m - 1 : Nat) : Int) - 16 := bo_down hm0
            rw [← dOf_down hm0]
            split at h1
            · rename_i hend
              cases h1
              have hblue : ¬ isRed (N : Int) bs ((X : Int) - 2) ((Y : Int) - 2) = true := by
                unfold isRed
                rw [if_neg (bo_noside hside), if_pos (bo_side hend)]
                exact Bool.false_ne_true
              rw [if_neg hblue, ed]
              exact go _ _ _ _ (.head _) hS
            · rename_i hend
              cases h1
              have hc := hcol (X - 2) (Y - 2) (bo_cell hside).2 (bo_cell hend).2
              have eX2 : ((X - 2 : Nat) : Int) = (X : Int) - 2 := bo_back2 (bo_cell hside).1
              have eY2 : ((Y - 2 : Nat) : Int) = (Y : Int) - 2 := bo_back2 (bo_cell hend).1
              rw [eX2, eY2] at hc
              have hlt : X - 2 + N * (Y - 2) < N * N := bo_lt (bo_cell hside).2 (bo_cell hend).2
              rw [hc, ed]
              by_cases hbit : b.testBit (X - 2 + N * (Y - 2)) = true
              · rw [if_pos hbit, eu, eX1, eY1]
                exact go _ _ _ _ (.head _) (by rw [Nat.testBit_and, hS, varT_bit hlt hb, hbit]; rfl)
              · rw [if_neg hbit]
                rw [Bool.not_eq_true] at hbit
                exact go _ _ _ _ (.tail _ (.head _)) (by rw [Nat.testBit_and, hS, Nat.testBit_xor, fullT_bit hb, varT_bit hlt hb, hbit]; rfl)
theorem border {N b : Nat} {bs : List Int} (hn : SizeOk N) (hb : b < 2 ^ (N * N)) (hcol : ∀ x y : Nat, x < N → y < N → isRed (N : Int) bs (x : Int) (y : Int) = b.testBit (x + N * y)) :
    walkF (N : Int) bs (walkTurns N) (-1) N 0 0 = if (winT N true).testBit b = true then (3, 3) else (0, 0) := by
  rcases hn with rfl | rfl
  · exact run_ok hb hcol 33 _ wRun3 0 4 16 _ (.head _) (fullT_bit hb)
  · exact run_ok hb hcol 51 _ wRun4 0 5 16 _ (.head _) (fullT_bit hb)
end
section
/-! a board told by a whole number -/
noncomputable def bsOf (N own : Nat) : List Int := (List.range (N * (N + 1))).map fun i => ((own.testBit i).toNat : Int)
theorem bsOf_length (N own : Nat) : (bsOf N own).length = N * (N + 1) := by unfold bsOf; rw [List.length_map, List.length_range]
theorem bsOf_red {N own x y : Nat} (hx : x < N) (hy : y < N) : isRed (N : Int) (bsOf N own) (x : Int) (y : Int) = own.testBit (x + (N + 1) * y) := by
  have hp : x + (N + 1) * y < N * (N + 1) := by
    have h5 : (N + 1) * (y + 1) ≤ (N + 1) * N := Nat.mul_le_mul_left _ hy
    rw [Nat.mul_succ, Nat.mul_comm (N + 1) N] at h5
    omega
  have e : ((x : Int) + ((N : Int) + 1) * (y : Int)).toNat = x + (N + 1) * y := by
    have : (x : Int) + ((N : Int) + 1) * (y : Int) = ((x + (N + 1) * y : Nat) : Int) := by push_cast; rfl
    rw [this, Int.toNat_natCast]
  unfold isRed
  rw [if_neg (by omega), if_neg (by omega), e]
  unfold bsOf
  rw [List.getD_eq_getElem?_getD, List.getElem?_map, List.getElem?_range hp]
  show ((((own.testBit (x + (N + 1) * y)).toNat : Nat) : Int) == 1) = _
  cases own.testBit (x + (N + 1) * y) <;> rfl
theorem bsOf_own {N own c : Nat} {red : Bool} (hn : SizeOk N) (hc : c < N * N) : ownC N (bsOf N own) red c = (own.testBit (posC N c) == red) := by
  unfold ownC posC
  rw [bsOf_red (Nat.mod_lt _ hn.pos) (Nat.div_lt_of_lt_mul hc)]
theorem lev_congr {N : Nat} {O O' : Nat → Bool} {red : Bool} (h : ∀ c, c < N * N → O c = O' c) : ∀ (k c : Nat), c < N * N → Lev N O red k c = Lev N O' red k c
  | 0, c, hc => by unfold Lev; rw [h c hc]
  | k + 1, c, hc => by
    unfold Lev
    rw [h c hc, lev_congr h k c hc, any_same fun e he => lev_congr h k e (nbs_lt he)]
theorem first_congr {N : Nat} {O O' : Nat → Bool} {red : Bool} {j : Nat} (h : ∀ c, c < N * N → O c = O' c) (ht : FirstAt N O red j) : FirstAt N O' red j := by
  obtain ⟨⟨c, c1, c2, c3⟩, h2⟩ := ht
  exact ⟨⟨c, c1, by rw [← lev_congr h j c c1]; exact c2, c3⟩, fun i hi d hd hl => h2 i hi d hd (by rw [lev_congr h i d hd]; exact hl)⟩
theorem tells_congr {N : Nat} {O O' : Nat → Bool} {red : Bool} {r : Nat} (h : ∀ c, c < N * N → O c = O' c) (ht : Tells N O red r) : Tells N O' red r := by
  rcases ht with ⟨h0, h1⟩ | ⟨h0, h1, h2⟩
  · exact .inl ⟨h0, fun j c hc hl => h1 j c hc (by rw [lev_congr h j c hc]; exact hl)⟩
  · exact .inr ⟨h0, h1, first_congr h h2⟩
/-- the board's number among all boards -/
noncomputable def idxF (f : Nat → Bool) : Nat → Nat
  | 0 => 0
  | k + 1 => if f k = true then 2 ^ k + idxF f k else idxF f k
theorem idxF_lt (f : Nat → Bool) : ∀ k, idxF f k < 2 ^ k
  | 0 => by unfold idxF; decide
  | k + 1 => by
    have h := idxF_lt f k
    unfold idxF
    rw [Nat.pow_succ]
    split <;> omega
theorem idxF_bit (f : Nat → Bool) : ∀ {k c : Nat}, c < k → (idxF f k).testBit c = f c
  | 0, _, h => absurd h (Nat.not_lt_zero _)
  | k + 1, c, h => by
    have hl := idxF_lt f k
    unfold idxF
    by_cases hck : c = k
    · subst hck
      split
      · rename_i hf
        rw [Nat.testBit_two_pow_add_eq, Nat.testBit_lt_two_pow hl, hf]; rfl
      · rename_i hf
        rw [Nat.testBit_lt_two_pow hl]
        exact ((Bool.not_eq_true _).mp hf).symm
    · have hlt : c < k := by omega
      split
      · rw [Nat.testBit_two_pow_add_gt hlt, idxF_bit f hlt]
      · exact idxF_bit f hlt
theorem sumF_bit {w : Nat} : ∀ {rs : List Nat}, (∀ r ∈ rs, r < 2 ^ w) → ∀ {x y : Nat}, x < w → (sumF w rs).testBit (x + w * y) = (rs.getD y 0).testBit x
  | [], _, x, y, _ => by
    rw [sumF, Nat.zero_testBit, List.getD_nil, Nat.zero_testBit]
  | r :: rs, h, x, y, hx => by
    rw [sumF, Nat.add_comm, Nat.testBit_two_pow_mul_add _ (h r (.head _))]
    cases y with
    | zero => rw [if_pos (by omega)]; rfl
    | succ y =>
      rw [Nat.mul_succ, if_neg (by omega)]
      have e : x + (w * y + w) - w = x + w * y := by omega
      rw [e, sumF_bit (fun r hr => h r (.tail _ hr)) hx, List.getD_cons_succ]
/-- rows a bit wider than the board -/
structure RowsOk (N : Nat) (rs : List Nat) : Prop where
  len : rs.length = N
  lt : ∀ r ∈ rs, r < 2 ^ N
theorem RowsOk.wide {N : Nat} {rs : List Nat} (h : RowsOk N rs) : ∀ r ∈ rs, r < 2 ^ (N + 1) := fun r hr => Nat.lt_of_lt_of_le (h.lt r hr) (Nat.pow_le_pow_right (by decide) (by omega))
theorem rows_pad {N : Nat} {rs : List Nat} (hn : SizeOk N) (h : RowsOk N rs) (p : Nat) (hp : (sumF (N + 1) rs).testBit p = true) : ∃ c, c < N * N ∧ p = posC N c := by
  have hm := Nat.mod_add_div p (N + 1)
  have hx : p % (N + 1) < N + 1 := Nat.mod_lt _ (by omega)
  rw [← hm, sumF_bit h.wide hx] at hp
  have hy : p / (N + 1) < N := by
    refine Classical.byContradiction fun z => ?_
    rw [List.getD_eq_getElem?_getD, List.getElem?_eq_none (by rw [h.len]; omega)] at hp
    simp at hp
  have hxn : p % (N + 1) < N := by
    refine Classical.byContradiction fun z => ?_
    have e : p % (N + 1) = N := by omega
    rw [e, List.getD_eq_getElem?_getD, List.getElem?_eq_getElem (by rw [h.len]; exact hy)] at hp
    have hlt := h.lt _ (List.getElem_mem (by rw [h.len]; exact hy : p / (N + 1) < rs.length))
    rw [Option.getD_some, Nat.testBit_lt_two_pow hlt] at hp
    cases hp
  generalize hxe : p % (N + 1) = x at *
  generalize hye : p / (N + 1) = y at *
  refine ⟨x + N * y, ?_, ?_⟩
  · have h5 : N * (y + 1) ≤ N * N := Nat.mul_le_mul_left _ hy
    rw [Nat.mul_succ] at h5
    omega
  · unfold posC
    rw [Nat.add_mul_mod_self_left, Nat.mod_eq_of_lt hxn, Nat.add_mul_div_left _ _ hn.pos, Nat.div_eq_of_lt hxn, Nat.zero_add]
    exact hm.symm
noncomputable def compR (N : Nat) (rs : List Nat) : List Nat := rs.map fun r => 2 ^ N - (r + 1)
theorem comp_ok {N : Nat} {rs : List Nat} (h : RowsOk N rs) : RowsOk N (compR N rs) := by
  refine ⟨by unfold compR; rw [List.length_map, h.len], fun r hr => ?_⟩
  unfold compR at hr
  obtain ⟨z, _, rfl⟩ := List.mem_map.mp hr
  have := Nat.two_pow_pos N
  omega
theorem comp_bit {N : Nat} {rs : List Nat} (hn : SizeOk N) (h : RowsOk N rs) {c : Nat} (hc : c < N * N) : (sumF (N + 1) (compR N rs)).testBit (posC N c) = !(sumF (N + 1) rs).testBit (posC N c) := by
  unfold posC
  have hx : c % N < N := Nat.mod_lt _ hn.pos
  have hy : c / N < N := Nat.div_lt_of_lt_mul hc
  rw [sumF_bit (comp_ok h).wide (by omega), sumF_bit h.wide (by omega)]
  have hl : c / N < rs.length := by rw [h.len]; exact hy
  unfold compR
  rw [List.getD_eq_getElem?_getD, List.getElem?_map, List.getElem?_eq_getElem hl, List.getD_eq_getElem?_getD, List.getElem?_eq_getElem hl]
  show (2 ^ N - (rs[c / N] + 1)).testBit (c % N) = !(rs[c / N]).testBit (c % N)
  rw [Nat.testBit_two_pow_sub_succ (h.lt _ (List.getElem_mem hl)), decide_eq_true hx, Bool.true_and]
noncomputable def boardN (N : Nat) : Nat := if N = 3 then 1911 else 507375
theorem comp_sum {N w : Nat} : ∀ {rs : List Nat}, (∀ r ∈ rs, r < 2 ^ N) → sumF w (compR N rs) + sumF w rs = sumF w (rs.map fun _ => 2 ^ N - 1)
  | [], _ => rfl
  | r :: rs, h => by
    have ih := comp_sum (w := w) fun x hx => h x (.tail _ hx)
    have hr := h r (.head _)
    show (2 ^ N - (r + 1)) + 2 ^ w * sumF w (compR N rs) + (r + 2 ^ w * sumF w rs) = (2 ^ N - 1) + 2 ^ w * sumF w (rs.map fun _ => 2 ^ N - 1)
    have e : 2 ^ N - (r + 1) + r = 2 ^ N - 1 := by rw [Nat.add_comm r 1, Nat.sub_add_eq, Nat.sub_add_cancel (Nat.le_sub_one_of_lt hr)]
    rw [← ih, Nat.mul_add, Nat.add_add_add_comm, e]
theorem board_sum {N : Nat} {rs : List Nat} (hn : SizeOk N) (h : rs.length = N) : sumF (N + 1) (rs.map fun _ => 2 ^ N - 1) = boardN N := by
  rw [List.map_const', h]
  rcases hn with rfl | rfl <;> decide
theorem comp_sub {N : Nat} {rs : List Nat} (hn : SizeOk N) (h : RowsOk N rs) : boardN N - sumF (N + 1) rs = sumF (N + 1) (compR N rs) ∧ sumF (N + 1) rs ≤ boardN N := by
  have e := comp_sum (w := N + 1) h.lt
  rw [board_sum hn h.len] at e
  exact ⟨by rw [← e, Nat.add_sub_cancel], by rw [← e]; exact Nat.le_add_left _ _⟩
noncomputable def nearN (N : Nat) (red : Bool) : Nat := if N = 3 then (if red then 273 else 7) else if red then 33825 else 15
noncomputable def farN (N : Nat) (red : Bool) : Nat := if N = 3 then (if red then 1092 else 1792) else if red then 270600 else 491520
theorem sides3 : (∀ red : Bool, ∀ c, c < 3 * 3 → (nearN 3 red).testBit (posC 3 c) = nearC 3 red c) ∧ ∀ red : Bool, ∀ c, c < 3 * 3 → (farN 3 red).testBit (posC 3 c) = decide (farC 3 red c) := by decide +kernel
theorem sides4 : (∀ red : Bool, ∀ c, c < 4 * 4 → (nearN 4 red).testBit (posC 4 c) = nearC 4 red c) ∧ ∀ red : Bool, ∀ c, c < 4 * 4 → (farN 4 red).testBit (posC 4 c) = decide (farC 4 red c) := by decide +kernel
theorem sides {N : Nat} {red : Bool} (hn : SizeOk N) : (∀ c, c < N * N → (nearN N red).testBit (posC N c) = nearC N red c) ∧ ∀ c, c < N * N → (farN N red).testBit (posC N c) = decide (farC N red c) := by
  rcases hn with rfl | rfl
  · exact ⟨sides3.1 red, sides3.2 red⟩
  · exact ⟨sides4.1 red, sides4.2 red⟩
/-- all that the law asks of a board -/
theorem pure_law {N : Nat} {rs : List Nat} (hn : SizeOk N) (h : RowsOk N rs) {own : Nat} (ho : own = sumF (N + 1) rs) {reds blues : Nat} (hr : reds = floodRes N (bsOf N own) true) (hb : blues = floodRes N (bsOf N own) false) :
    roundsF own (farN N true) (N + 1) ((N + 1) * (N + 1) - 1) 1 (own &&& nearN N true) = reds ∧
    roundsF (boardN N - own) (farN N false) (N + 1) ((N + 1) * (N + 1) - 1) 1 ((boardN N - own) &&& nearN N false) = blues ∧
    (reds = 0 ↔ blues ≠ 0) ∧ walkF (N : Int) (bsOf N own) (walkTurns N) (-1) N 0 0 = if reds ≠ 0 then (3, 3) else (0, 0) := by
  subst ho
  have tr : Tells N (ownC N (bsOf N (sumF (N + 1) rs)) true) true reds := by rw [hr]; exact floodRes_tells hn
  have tb : Tells N (ownC N (bsOf N (sumF (N + 1) rs)) false) false blues := by rw [hb]; exact floodRes_tells hn
  have hcol : ∀ c, c < N * N → (idxF (fun c => (sumF (N + 1) rs).testBit (posC N c)) (N * N)).testBit c = (sumF (N + 1) rs).testBit (posC N c) := fun c hc => idxF_bit _ hc
  have hlt := idxF_lt (fun c => (sumF (N + 1) rs).testBit (posC N c)) (N * N)
  generalize hB : idxF (fun c => (sumF (N + 1) rs).testBit (posC N c)) (N * N) = B at hcol hlt
  have cong : ∀ red : Bool, ∀ c, c < N * N → ownC N (bsOf N (sumF (N + 1) rs)) red c = ownB B red c := fun red c hc => by
    rw [bsOf_own hn hc]
    unfold ownB
    rw [hcol c hc]
  have l1 : Link N (ownC N (bsOf N (sumF (N + 1) rs)) true) (sumF (N + 1) rs) := ⟨fun c hc => by rw [bsOf_own hn hc]; simp, fun p hp => rows_pad hn h p hp⟩
  have l2 : Link N (ownC N (bsOf N (sumF (N + 1) rs)) false) (boardN N - sumF (N + 1) rs) := by
    rw [(comp_sub hn h).1]
    exact ⟨fun c hc => by rw [bsOf_own hn hc, comp_bit hn h hc]; simp, fun p hp => rows_pad hn (comp_ok h) p hp⟩
  have tr' := tells_congr (cong true) tr
  have tb' := tells_congr (cong false) tb
  refine ⟨rounds_eq hn l1 (sides hn).1 (sides hn).2 tr, rounds_eq hn l2 (sides hn).1 (sides hn).2 tb, hex_one hn hlt tr' tb', ?_⟩
  rw [border hn hlt fun x y hx hy => ?_]
  · have hw := winT_bit hn hlt tr'
    by_cases h0 : reds ≠ 0
    · rw [if_pos h0, if_pos (hw.mpr h0)]
    · rw [if_neg h0, if_neg fun z => h0 (hw.mp z)]
  · have hlt2 : x + N * y < N * N := by
      have h5 : N * (y + 1) ≤ N * N := Nat.mul_le_mul_left _ hy
      rw [Nat.mul_succ] at h5
      omega
    rw [bsOf_red hx hy, hcol _ hlt2]
    unfold posC
    rw [Nat.add_mul_mod_self_left, Nat.mod_eq_of_lt hx, Nat.add_mul_div_left _ _ hn.pos, Nat.div_eq_of_lt hx, Nat.zero_add]
end
section
theorem off_A85_ways : True := by (w_top off); first | walk1 | trivial
/-! the six ways, one turn for all -/
noncomputable def hsvR : _root_.Fin 6 → UInt64 | 0 => 0x3ff0000000000000 | 1 => 0x3ff0000000000000 | 2 => 0 | 3 => 0 | 4 => 0 | 5 => 0x3ff0000000000000
noncomputable def hsvG : _root_.Fin 6 → UInt64 | 0 => 0 | 1 => 0x3ff0000000000000 | 2 => 0x3ff0000000000000 | 3 => 0x3ff0000000000000 | 4 => 0 | 5 => 0
noncomputable def hsvB : _root_.Fin 6 → UInt64 | 0 => 0 | 1 => 0 | 2 => 0 | 3 => 0x3ff0000000000000 | 4 => 0x3ff0000000000000 | 5 => 0x3ff0000000000000
theorem does_hsvN {w : World} {p : Program} {loose : List Str} {mean : ExcName → Option Value} {mg mb : Str → Option Value} {t1 t2 t3 : Tok} (d : _root_.Fin 6) :
    Does w p loose mean mg mb 1 8 NoPre (.ref 45) [.float (hueF d) t1, .float 0x3ff0000000000000 t2, .float 0x3ff0000000000000 t3] [] (fun v mu' => ∃ q t u x, v = .ref q ∧ mu' = [(q, tupF (hsvR d) (hsvG d) (hsvB d) t u x)]) := by
  match d with
  | 0 => exact does_hsv0
  | 1 => exact does_hsv1
  | 2 => exact does_hsv2
  | 3 => exact does_hsv3
  | 4 => exact does_hsv4
  | 5 => exact does_hsv5
noncomputable def wayDX : _root_.Fin 6 → UInt64 := fun d => Float64.sub (hsvR d) (hsvB d)
noncomputable def wayDY : _root_.Fin 6 → UInt64 := fun d => Float64.sub (hsvG d) (hsvB d)
theorem way_div : ∀ d : _root_.Fin 6, Float64.ofFrac (decide ((0 + (d.val : Int)) < 0) != decide ((6 : Int) < 0)) (0 + (d.val : Int)).natAbs (6 : Int).natAbs = hueF d := by decide +kernel
theorem way_ints : ∀ d : _root_.Fin 6, (Float64.isNaN (wayDX d) = false ∧ Float64.isInf (wayDX d) = false ∧ Flt.toInt Float64.truncOf (wayDX d) = wX d) ∧ (Float64.isNaN (wayDY d) = false ∧ Float64.isInf (wayDY d) = false ∧ Flt.toInt Float64.truncOf (wayDY d) = wY d) := by decide +kernel
inductive WaysT : Nat → List (Addr × Obj) → Prop
  | nil : WaysT 0 []
  | snoc {i : Nat} {T : List (Addr × Obj)} (d : _root_.Fin 6) (a : Addr) (t u : Tok) : WaysT i T → i = d.val → WaysT (i + 1) (T ++ [(a, tupI (wX d) (wY d) t u)])
theorem WaysT.cls {i : Nat} {T : List (Addr × Obj)} (h : WaysT i T) : ∀ p ∈ T, p.2.cls = .type "tuple" := by
  induction h with
  | nil => exact fun _ h => nomatch h
  | snoc _ _ _ _ _ _ ih => exact snoc_all ih rfl
theorem WaysT.length {i : Nat} {T : List (Addr × Obj)} (h : WaysT i T) : T.length = i := by
  induction h with
  | nil => rfl
  | snoc _ _ _ _ _ _ ih => rw [List.length_append, ih]; rfl
theorem WaysT.step {i : Nat} {T : List (Addr × Obj)} (h : WaysT (i + 1) T) : ∃ d a t u T', i = d.val ∧ WaysT i T' ∧ T = T' ++ [(a, tupI (wX d) (wY d) t u)] := by
  cases h with
  | snoc d a t u h e => exact ⟨d, a, t, u, _, e, h, rfl⟩
inductive Ways6 (T : List (Addr × Obj)) : Prop
  | mk (a0 a1 a2 a3 a4 a5 : Addr) (t0 t1 t2 t3 t4 t5 t6 t7 t8 t9 t10 t11 : Tok) (qb0 : T = [(a0, tupI 1 0 t0 t1), (a1, tupI 1 1 t2 t3), (a2, tupI 0 1 t4 t5), (a3, tupI (-1) 0 t6 t7), (a4, tupI (-1) (-1) t8 t9), (a5, tupI 0 (-1) t10 t11)]) : Ways6 T
theorem WaysT.out {T : List (Addr × Obj)} (h : WaysT 6 T) : Ways6 T := by
  have dd : ∀ (k : Nat) (hk : k < 6) (d : _root_.Fin 6), k = d.val → d = ⟨k, hk⟩ := fun k hk d e => Fin.ext e.symm
  obtain ⟨d5, a5, t10, t11, T5, e5, h5, rfl⟩ := h.step
  obtain ⟨d4, a4, t8, t9, T4, e4, h4, rfl⟩ := h5.step
  obtain ⟨d3, a3, t6, t7, T3, e3, h3, rfl⟩ := h4.step
  obtain ⟨d2, a2, t4, t5, T2, e2, h2, rfl⟩ := h3.step
  obtain ⟨d1, a1, t2, t3, T1, e1, h1, rfl⟩ := h2.step
  obtain ⟨d0, a0, t0, t1, T0, e0, h0, rfl⟩ := h1.step
  cases h0
  cases dd _ (by decide) d5 e5
  cases dd _ (by decide) d4 e4
  cases dd _ (by decide) d3 e3
  cases dd _ (by decide) d2 e2
  cases dd _ (by decide) d1 e1
  cases dd _ (by decide) d0 e0
  exact ⟨a0, a1, a2, a3, a4, a5, t0, t1, t2, t3, t4, t5, t6, t7, t8, t9, t10, t11, rfl⟩
inductive WaysInv (aW : Addr) (i : Nat) (m : Str → Option Value) (news : List (Addr × Obj)) : Prop
  | mk (T : List (Addr × Obj)) (e : Nat) (qb0 : (∀ p ∈ ([(Str.ofString "ways", .ref aW)] : List (Str × Value)), m p.1 = some p.2)) (qb1 : news = (aW, W.listOf (refsOf T).toArray e) :: T) (qb2 : WaysT i T) : WaysInv aW i m news
local macro_rules | `(tactic| walk_at $s:str) => if ["call ref", "pyIter ref", "UnrEnd", "call builtin:list.append"].contains s.getString then `(tactic| refine hold_in ?_) else Lean.Macro.throwUnsupported
set_option maxHeartbeats 8000000 in
theorem does_ways {w : World} {p : Program} {loose : List Str} {mean : ExcName → Option Value} {mg mb : Str → Option Value} :
    Does w p loose mean mg mb 2 16 NoPre (.ref 137) [] [] (fun v mu' => ∃ l a0 a1 a2 a3 a4 a5 ep t0 t1 t2 t3 t4 t5 t6 t7 t8 t9 t10 t11, v = .ref l ∧ ∀ q ∈ waysLed l a0 a1 a2 a3 a4 a5 ep t0 t1 t2 t3 t4 t5 t6 t7 t8 t9 t10 t11, q ∈ mu') := by
  intro dp un gd cn cs a ccd cl outer A₀ base h₀ L m s Q E still hB hF hX hN hap hT hk hP hdp hun hret
  ((have hfill := hd_kept; (have : hd_kept = hd_kept := by (revert hfill; k_fill; intro _; rfl)); clear this hfill))
  ((refine wpAny_call ?_; k_dflt (refine' enter_top ?k1 ?k2 ?k3 ?k4 ?k4a ?k5 ?kA ?kF ?kK ?k6 ?k7 ?k8 ?k9 ?kB ?_ ?c2 ?c3 ?c4 ?c5; (case kA => exact rfl); (case kF => exact rfl); (case kK => first | exact rfl | assumption); (case k1 => k_asm); (case k2 => k_asm); (case k3 => k_asm); (case k4 => k_asm); (case k4a => k_asm); (case k5 => k_asm); (case k6 => k_is); (case k7 => k_is); (case k8 => ktr_room); (case k9 => exact BindsTo.of_eq (by rfl)); (case c5 => decide); (case kB => exact locs rfl); (case c2 => exact rfl); (case c3 => exact rfl); (case c4 => exact rfl); k_whole; intro g8' L8' h8' tk8' FG8' F8' N8' B8' X8' T8' st8' stl8' l8'; (dsimp only [List.map, List.zip, List.zipWith, List.reverse, List.reverseAux, withB] at F8'); (try dsimp only); (try k_lift B8'); (try k_fold))))
  walk_at "hx_steps"
  refine hold_out ?_
  (rename IsRange _ _ _ _ _ _ _ _ => hR)
  k_dflt (refine' iter_rangeUnr (n := 6) (by rfl) hR ?k1 ?k2 ?k3 ?k4 ?k5; (case k1 => decide); (case k2 => decide); (case k3 => assumption); (case k4 => assumption))
  intro I hI
  replace hI := allLt_of hI
  simp only [W.AllLt, and_true] at hI
  refine' range_inv (WaysInv _) ?turn ?done _ 0 _ _ (by rw [Nat.add_zero]) ?start
  case start =>
    refine' ⟨[], 0, ?hm, rfl, .nil⟩
    case hm => (repeat' (first | exact facts_nil | refine facts_cons rfl ?_ | exact List.forall_mem_nil _ | (refine' fmc ?qf9 (?_); (case qf9 => rfl))))
  case done =>
    rintro m2 news2 h2 tk2 ⟨T, ep, hm, rfl, hS⟩ F2 N2
    dsimp only
    replace F2 := fr_withB0 _ hm F2
    clear hm
    dsimp only [withB] at F2
    walk_at "hx_steps"
    obtain ⟨a0, a1, a2, a3, a4, a5, t0, t1, t2, t3, t4, t5, t6, t7, t8, t9, t10, t11, rfl⟩ := hS.out
    (((first | refine hQ8' _ _ ?_ | refine hold_out ?_); refine' leaveS_ ?hxF ?hxN ?_; (case hxF => k_asm); (case hxN => k_asm); intro kF kN kD; (rename ∀ (v : Value) (mu' : List (Addr × Obj)) (h' : Heap) (tk' : Nat), _ → _ → _ → _ → _ => hxR); refine hxR _ _ _ _ kF kN kD ?_; clear hxR; try dsimp only))
    exact ⟨_, a0, a1, a2, a3, a4, a5, ep, t0, t1, t2, t3, t4, t5, t6, t7, t8, t9, t10, t11, rfl, fun q hq => hq⟩
  case turn =>
    rintro i m2 news2 t2 h2 tk2 hi ⟨T, ep, hm, rfl, hS⟩ F2 N2
    obtain ⟨d, rfl⟩ : ∃ d : _root_.Fin 6, i = d.val := ⟨⟨i, hi⟩, rfl⟩
    replace F2 := fr_withB _ hm F2
    clear hm
    dsimp only [withB] at F2
    refine wpAny_cut ?_
    intro QC EC hQC
    walk_at "hx_steps"
    refine hold_out ?_; (with_reducible refine' fl_div_ii (z := hueF d) ?k0 ?k1 ?k2 ?k3 ?_); (case k0 => exact rfl); (case k1 => decide); (case k2 => exact Nat.lt_of_lt_of_le (show (0 + (d.val : Int)).natAbs < 2 ^ 3 by omega) (Nat.pow_le_pow_right (by decide) (by decide))); (case k3 => exact way_div d); intro t1 tk1; try dsimp only
    walk_at "hx_steps"
    refine hold_out ?_; k_dflt (refine' Does.use0 (does_hsvN d) ?b1 ?b2 ?b3 ?b4 ?b5 ?b6 ?b7 ?b8 ?b9 ?_; (((case b1 => k_asm); (case b2 => k_asm); (case b3 => k_asm); (case b4 => k_asm); (case b5 => k_asm); (case b6 => first | exact rfl | assumption); (case b8 => (first | (refine' room0 ?qh ?qb; (case qh => assumption); (case qb => exact Nat.le_of_ble_eq_true rfl)) | (refine' room1 ?qh ?qb; (case qh => assumption); (case qb => exact Nat.le_of_ble_eq_true rfl)) | (refine' room2 ?qh ?qb; (case qh => assumption); (case qb => exact Nat.le_of_ble_eq_true rfl)) | omega | ((try simp only [depth_under_make, depth_under_kw, depth_in1, depth_deeper, depth_caller, units_in1, units_deeper, Around.mark_units, units_caller]); (try dsimp only [ktrTop]); omega))); (case b9 => (first | (refine' room0 ?qh ?qb; (case qh => assumption); (case qb => exact Nat.le_of_ble_eq_true rfl)) | (refine' room1 ?qh ?qb; (case qh => assumption); (case qb => exact Nat.le_of_ble_eq_true rfl)) | (refine' room2 ?qh ?qb; (case qh => assumption); (case qb => exact Nat.le_of_ble_eq_true rfl)) | omega | ((try simp only [depth_under_make, depth_under_kw, depth_in1, depth_deeper, depth_caller, units_in1, units_deeper, Around.mark_units, units_caller]); (try dsimp only [ktrTop]); omega))))); (case b7 => (intros; trivial))); intro v' mu' h' tk' F' N' D' P'; obtain ⟨q', t1', t2', t3', e1', e2'⟩ := P'; subst e1' e2'; clear D'; (simp only [List.cons_append, List.nil_append, List.append_nil] at N'); (try dsimp only)
    walk_at "hx_steps"
    (rename News _ _ _ ((_, tupF _ _ _ _ _ _) :: _) => hN9); (replace hN9 := news_tail hN9)
    refine hold_out ?_; (with_reducible refine' fl_sub (z := wayDX d) ?k0 ?_); (case k0 => exact rfl); intro t1 tk1; try dsimp only
    walk_at "hx_steps"
    refine hold_out ?_; (with_reducible refine' fl_int (k := wX d) ?k0 ?k1 ?k2 ?k3 ?_); (case k0 => exact rfl); (case k1 => (rw [(way_ints d).1.1]; decide)); (case k2 => (rw [(way_ints d).1.2.1]; decide)); (case k3 => exact (way_ints d).1.2.2); intro t1 tk1; try dsimp only
    walk_at "hx_steps"
    refine hold_out ?_; (with_reducible refine' fl_sub (z := wayDY d) ?k0 ?_); (case k0 => exact rfl); intro t1 tk1; try dsimp only
    walk_at "hx_steps"
    refine hold_out ?_; (with_reducible refine' fl_int (k := wY d) ?k0 ?k1 ?k2 ?k3 ?_); (case k0 => exact rfl); (case k1 => (rw [(way_ints d).2.1]; decide)); (case k2 => (rw [(way_ints d).2.2.1]; decide)); (case k3 => exact (way_ints d).2.2.2); intro t1 tk1; try dsimp only
    walk_at "hx_steps"
    refine hold_out ?_
    (rename News _ _ _ (_ :: _) => hN9); (rename Fr _ _ _ _ => hF9)
    (replace hN9 := news_sub (r := _ :: _ :: _ :: T) hN9 (fmc (.tail _ (.tail _ (.head _))) (fmc (.head _) (fmc (.tail _ (.head _)) (fun p hp => (.tail _ (.tail _ (.tail _ hp))))))))
    refine append_head hF9 hN9 (fmc (show @Ne Nat _ _ by omega) (fmc (show @Ne Nat _ _ by omega) (ne_tail hN9 (fun p hp => (.tail _ (.tail _ hp))) hS.cls (list_ne_tup _ _)))) ?_ ?_
    · rw [refsOf_length, hS.length]
      omega
    intro h' F' N'
    clear hF9 hN9
    walk_at "hx_steps"
    refine hQC _ _ ?_
    try dsimp only
    walk_at "hx_steps"
    refine hold_out ?_
    (rename News _ _ _ (_ :: _) => hN9); (rename Fr _ _ _ _ => hF9)
    refine' UnrEnd.intro hF9 hN9 (_ :: (T ++ [_])) (fmc (.tail _ (.tail _ (.head _))) (fmc (.head _) (snoc_all (fun p hp => (.tail _ (.tail _ (.tail _ hp)))) (.tail _ (.head _))))) (fmc (show @Ne Nat _ _ by omega) (snoc_all (apart_mem hN9 (.tail _ (.tail _ (.head _))) (fun p hp => (.tail _ (.tail _ (.tail _ hp)))) hS.cls (rit_ne_tup _ _)) (show @Ne Nat _ _ by omega))) ⟨T ++ [_], ep + 1, ?hm, by rw [refsOf_snoc], hS.snoc d _ _ _ rfl⟩
    case hm => (repeat' (first | exact facts_nil | refine facts_cons rfl ?_ | exact List.forall_mem_nil _ | (refine' fmc ?qf9 (?_); (case qf9 => rfl))))
end
section
/-! the calls of the law, for either size -/
theorem does_rowsN {w : World} {p : Program} {loose : List Str} {mean : ExcName → Option Value} {mg mb : Str → Option Value} {N : Nat} {tn : Tok} {ls : Addr} {vs : List Value} {ns : List Int} (hn : SizeOk N) (hints : IntsAre vs ns) (hfit : vs.length ≤ sizeLine) :
    Does w p loose mean mg mb 2 20 (fun g => g.IsList ls vs.toArray) (.ref 123) [.ref ls, .int (N : Int) tn] [] (RowsPost N) := by
  rcases hn with rfl | rfl
  · exact does_rows3 hints hfit
  · exact does_rows4 hints hfit
theorem does_boardN {w : World} {p : Program} {loose : List Str} {mean : ExcName → Option Value} {mg mb : Str → Option Value} {N : Nat} {tn : Tok} (hn : SizeOk N) :
    Does w p loose mean mg mb 2 16 NoPre (.ref 173) [.int (N : Int) tn] [] (fun v mu' => ∃ t, v = .int ((boardN N : Nat) : Int) t ∧ mu' = []) := by
  rcases hn with rfl | rfl
  · exact does_board3
  · exact does_board4
theorem does_fewestN {w : World} {p : Program} {loose : List Str} {mean : ExcName → Option Value} {mg mb : Str → Option Value} {N : Nat} {red : Bool} {own : Nat} {own' : Int} {tO tn : Tok} (hn : SizeOk N) (ho : own < 2 ^ 30) (he : own' = (own : Int)) :
    Does w p loose mean mg mb 4 24 NoPre (.ref 168) [.int own' tO, .int (N : Int) tn, .bool red] [] (fun v mu' => ∃ t, v = .int ((roundsF own (farN N red) (N + 1) ((N + 1) * (N + 1) - 1) 1 (own &&& nearN N red) : Nat) : Int) t ∧ mu' = []) := by
  subst he
  rcases hn with rfl | rfl <;> cases red
  · exact does_fewest3b ho
  · exact does_fewest3r ho
  · exact does_fewest4b ho
  · exact does_fewest4r ho
inductive SizeEnd (h₀ : Heap) (L : Addr) (s : Shared) (news : List (Addr × Obj)) (ls : Addr) (f : Flow) (s' : Shared) : Prop
  | mk (qa0 : f = .next) (N : Nat) (tn : Tok) (h' : Heap) (tk' : Nat) (m' : Str → Option Value) (qb0 : SizeOk N) (qb1 : s' = { s with heap := h', toks := tk' }) (qb2 : Fr h₀ L h' m') (qb3 : News h₀ L h' news) (qb4 : ∀ p ∈ ([(Str.ofString "size", .int (N : Int) tn), (Str.ofString "script", .ref ls)] : List (Str × Value)), m' p.1 = some p.2) : SizeEnd h₀ L s news ls f s'
theorem SizeEnd.intro {h₀ : Heap} {L : Addr} {s : Shared} {news : List (Addr × Obj)} {ls : Addr} {h' : Heap} {tk' : Nat} {m' : Str → Option Value} (N : Nat) (tn : Tok) (hn : SizeOk N) (F : Fr h₀ L h' m') (Nw : News h₀ L h' news) (hm : ∀ p ∈ ([(Str.ofString "size", .int (N : Int) tn), (Str.ofString "script", .ref ls)] : List (Str × Value)), m' p.1 = some p.2) :
    SizeEnd h₀ L s news ls .next { s with heap := h', toks := tk' } := ⟨rfl, N, tn, h', tk', m', hn, rfl, F, Nw, hm⟩
theorem size_join {M : Model} {A : Around} {E : Value → Shared → Prop} {s : Shared} {env : Env} {h₀ : Heap} {L : Addr} {m : Str → Option Value} {news : List (Addr × Obj)} {st : Stmt} {Q : Flow → Shared → Prop} (_F : Fr h₀ L s.heap m) (_N : News h₀ L s.heap news) {g : Heap} {ls : Addr} {its : Array Value} (_hL : g.IsList ls its)
    (h1 : wpAny M A (exec st env) (SizeEnd h₀ L s news ls) E s)
    (h2 : ∀ N tn h' tk' m', SizeOk N → Fr h₀ L h' m' → News h₀ L h' news → (∀ p ∈ ([(Str.ofString "size", .int (N : Int) tn), (Str.ofString "script", .ref ls)] : List (Str × Value)), m' p.1 = some p.2) → Q .next { s with heap := h', toks := tk' }) : wpAny M A (exec st env) Q E s :=
  wpAny_mono h1 (fun f s' z => by
    obtain ⟨rfl, N, tn, h', tk', m', hn, rfl, F, Nw, hm⟩ := z
    exact h2 N tn h' tk' m' hn F Nw hm) fun _ _ e => e
theorem ints_of_get : ∀ {vs : List Value} {ns : List Int}, vs.length = ns.length → (∀ (i : Nat) (n : Int), ns[i]? = some n → ∃ t : Tok, vs[i]? = some (Value.int n t)) → IntsAre vs ns
  | [], [], _, _ => .nil
  | [], _ :: _, h, _ => by cases h
  | _ :: _, [], h, _ => by cases h
  | v :: vs, n :: ns, h, g => by
    obtain ⟨t, e⟩ := g 0 n rfl
    have e' : v = .int n t := Option.some.inj e
    subst e'
    exact .cons n t (ints_of_get (Nat.succ.inj h) fun i k hk => g (i + 1) k hk)
theorem told_bits {N own : Nat} {vs : List Value} {t0 : Tok} (ho : own < 2 ^ (N * (N + 1))) (hl : vs.length = Builtin.Int.intBits (own : Int)) (hg : ∀ i, i < vs.length → ∃ t : Tok, vs[i]? = some (Value.int ((own.testBit i).toNat : Nat) t)) :
    vs.length ≤ N * (N + 1) ∧ IntsAre (vs ++ List.replicate (N * (N + 1) - vs.length) (Value.int 0 t0)) (bsOf N own) := by
  have hle : vs.length ≤ N * (N + 1) := by rw [hl]; exact intBits_le_iff.mpr (by rw [Int.natAbs_natCast]; exact ho)
  refine ⟨hle, ints_of_get ?_ fun i n hn => ?_⟩
  · rw [List.length_append, List.length_replicate, bsOf_length]; omega
  · have hi : i < N * (N + 1) := by
      have := (List.getElem?_eq_some_iff.mp hn).1
      rw [bsOf_length] at this; exact this
    unfold bsOf at hn
    rw [List.getElem?_map, List.getElem?_range hi] at hn
    have hn' : ((own.testBit i).toNat : Int) = n := Option.some.inj hn
    subst hn'
    by_cases h : i < vs.length
    · obtain ⟨t, e⟩ := hg i h
      exact ⟨t, by rw [List.getElem?_append_left h]; exact e⟩
    · have hb : own.testBit i = false := Nat.testBit_lt_two_pow (Nat.lt_of_lt_of_le bits_lt (Nat.pow_le_pow_right (by decide) (by omega)))
      refine ⟨t0, ?_⟩
      rw [List.getElem?_append_right (by omega), List.getElem?_replicate, if_pos (by omega), hb]
      rfl
theorem own_lt {N : Nat} {rs : List Nat} (h : rs.length = N) (hr : ∀ r ∈ rs, r < 2 ^ N) : sumF (N + 1) rs < 2 ^ (N * (N + 1)) := by
  have h1 := sum_lt (w := N + 1) (rs := rs) fun r hm => Nat.lt_of_lt_of_le (hr r hm) (Nat.pow_le_pow_right (by decide) (by omega))
  rw [h, Nat.mul_comm] at h1
  exact h1
theorem own_lt20 {N own : Nat} (hn : SizeOk N) (h : own < 2 ^ (N * (N + 1))) : own < 2 ^ 20 := by
  refine Nat.lt_of_lt_of_le h (Nat.pow_le_pow_right (by decide) ?_)
  rcases hn with rfl | rfl <;> decide
theorem does_d2iN {w : World} {p : Program} {loose : List Str} {mean : ExcName → Option Value} {mg mb : Str → Option Value} {N : Nat} {wd' : Int} {tn : Tok} {q : Addr} {ys : List Value} {rs : List Nat}
    (hn : SizeOk N) (he : wd' = ((N + 1 : Nat) : Int)) (hints : IntsAre ys (rs.map fun r : Nat => (r : Int))) (hl : rs.length = N) (hr : ∀ r ∈ rs, r < 2 ^ N) :
    Does w p loose mean mg mb 6 100 (fun g => CodeHd g 58 54 ∧ g.IsList q ys.toArray) (.ref 59) [.ref q, .int wd' tn] [(54, tabObj #[])] (fun v mu' => ∃ t ps, v = .int (sumF (N + 1) rs : Nat) t ∧ mu' = [(54, tabObj ps)]) := by
  subst he
  exact does_d2i hints (by rcases hn with rfl | rfl <;> simp) (by rcases hn with rfl | rfl <;> omega) fun r hm => Nat.lt_of_lt_of_le (hr r hm) (Nat.pow_le_pow_right (by decide) (by omega))
theorem mulNN {N : Nat} {b : Int} (h : SizeOk N) : IntMulOk (N : Int) b := mulN h
noncomputable def vec6 {α : Type} (a0 a1 a2 a3 a4 a5 : α) : _root_.Fin 6 → α
  | 0 => a0 | 1 => a1 | 2 => a2 | 3 => a3 | 4 => a4 | 5 => a5
theorem walkPre_of {N : Nat} {g : Heap} {l a0 a1 a2 a3 a4 a5 lb : Addr} {ep eb : Nat} {t0 t1 t2 t3 t4 t5 t6 t7 t8 t9 t10 t11 : Tok} {bv : List Value} {news : List (Addr × Obj)} (hs : ∀ p ∈ news, g.get? p.1 = some p.2)
    (hw : ∀ q ∈ waysLed l a0 a1 a2 a3 a4 a5 ep t0 t1 t2 t3 t4 t5 t6 t7 t8 t9 t10 t11, q ∈ news) (hb : (lb, W.listOf bv.toArray eb) ∈ news) :
    WalkPre (N : Int) lb l bv (vec6 a0 a1 a2 a3 a4 a5) (vec6 t0 t2 t4 t6 t8 t10) (vec6 t1 t3 t5 t7 t9 t11) g := by
  refine ⟨isList_of (hs _ hb), isList_of (hs _ (hw _ (.head _))), fun d => ?_⟩
  match d with
  | 0 => exact hs _ (hw _ (.tail _ (.head _)))
  | 1 => exact hs _ (hw _ (.tail _ (.tail _ (.head _))))
  | 2 => exact hs _ (hw _ (.tail _ (.tail _ (.tail _ (.head _)))))
  | 3 => exact hs _ (hw _ (.tail _ (.tail _ (.tail _ (.tail _ (.head _))))))
  | 4 => exact hs _ (hw _ (.tail _ (.tail _ (.tail _ (.tail _ (.tail _ (.head _)))))))
  | 5 => exact hs _ (hw _ (.tail _ (.tail _ (.tail _ (.tail _ (.tail _ (.tail _ (.head _))))))))
theorem bs_len {N own : Nat} : (bsOf N own).length = ((N : Int) * ((N : Int) + 1)).toNat := by
  rw [bsOf_length]
  have : (N : Int) * ((N : Int) + 1) = ((N * (N + 1) : Nat) : Int) := by push_cast; rfl
  rw [this, Int.toNat_natCast]
/-- what the law asks, as one word -/
noncomputable def LawFacts (N own reds blues : Nat) : Prop :=
  roundsF own (farN N true) (N + 1) ((N + 1) * (N + 1) - 1) 1 (own &&& nearN N true) = reds ∧
    roundsF (boardN N - own) (farN N false) (N + 1) ((N + 1) * (N + 1) - 1) 1 ((boardN N - own) &&& nearN N false) = blues ∧
    (reds = 0 ↔ blues ≠ 0) ∧ walkF (N : Int) (bsOf N own) (walkTurns N) (-1) N 0 0 = if reds ≠ 0 then (3, 3) else (0, 0)
theorem lawFacts_of {N : Nat} {rs : List Nat} (hn : SizeOk N) (hl : rs.length = N) (hr : ∀ r ∈ rs, r < 2 ^ N) {own : Nat} (ho : sumF (N + 1) rs = own) : LawFacts N own (floodRes N (bsOf N own) true) (floodRes N (bsOf N own) false) :=
  pure_law hn ⟨hl, hr⟩ ho.symm rfl rfl
theorem board_le {N : Nat} {rs : List Nat} (hn : SizeOk N) (hl : rs.length = N) (hr : ∀ r ∈ rs, r < 2 ^ N) {own : Nat} (ho : sumF (N + 1) rs = own) : ((boardN N : Nat) : Int) - (own : Int) = ((boardN N - own : Nat) : Int) ∧ boardN N - own < 2 ^ 30 := by
  have h := (comp_sub hn ⟨hl, hr⟩).2
  rw [ho] at h
  refine ⟨by omega, ?_⟩
  have : boardN N < 2 ^ 30 := by rcases hn with rfl | rfl <;> decide
  omega
section
variable {prog : Program} {w : World} {A : Around} {E : Value → Shared → Prop} {s : Shared} {a b : Int} {t u : Tok}
theorem ne_same {Q : Value → Shared → Prop} (e : a = b) (h : Q (.bool false) s) : wpAny (model prog w) A (compareOp .NotEq (.int a t) (.int b u)) Q E s := by
  subst e
  refine ne_int ?_
  simpa using h
end
theorem toList_app (a b : List Value) : a.toArray.toList ++ b.toArray.toList = a ++ b := by simp
theorem hmu_one : ∀ q ∈ [((125 : Addr), tabObj #[])], ∀ x y t u, q.2 ≠ tupI x y t u := List.forall_mem_singleton.mpr fun _ _ _ _ h => by cases h
theorem hmu_two {c1 : Addr} {o1 : Obj} {ps : Array Value} (h1 : ∃ vs t, o1.data = .fields vs ∧ vs[1]? = some (.str (Str.ofString "_law_machine.<locals>._law_read_on") t)) : ∀ q ∈ [(c1, o1), ((125 : Addr), tabObj ps)], ∀ x y t u, q.2 ≠ tupI x y t u := by
  obtain ⟨vs, t, e, _⟩ := h1
  refine fmc (fun x y t u h => ?_) (List.forall_mem_singleton.mpr fun _ _ _ _ h => by cases h)
  have h' : o1 = tupI x y t u := h
  rw [h'] at e
  cases e
/-- a count, told as a flood's -/
noncomputable def IsRes (N own : Nat) (red : Bool) (r : Nat) : Prop := r = floodRes N (bsOf N own) red
theorem floodPost_out {tabOk : Addr → Obj → Obj → Prop} {N own : Nat} {red : Bool} {v : Value} {mu' : List (Addr × Obj)} (h : FloodPost tabOk (floodRes N (bsOf N own) red) v mu') : ∃ (r : Nat) (c1 : Addr) (o1 tab : Obj) (t : Tok), IsRes N own red r ∧ v = .int (r : Int) t ∧ mu' = [(c1, o1), (125, tab)] ∧ (@Ne Nat c1 125) ∧ tabOk c1 o1 tab := by
  obtain ⟨c1, o1, tab, t, h1, h2⟩ := h
  exact ⟨_, c1, o1, tab, t, rfl, h1, h2⟩
theorem lawFacts_res {N : Nat} {rs : List Nat} (hn : SizeOk N) (hl : rs.length = N) (hr : ∀ r ∈ rs, r < 2 ^ N) {own reds blues : Nat} (ho : sumF (N + 1) rs = own) (h1 : IsRes N own true reds) (h2 : IsRes N own false blues) : LawFacts N own reds blues := by
  unfold IsRes at h1 h2
  subst h1 h2
  exact lawFacts_of hn hl hr ho
section
variable {prog : Program} {w : World} {A : Around} {E : Value → Shared → Prop} {s : Shared} {q q2 : Addr} {x y x2 y2 : Int} {t u t2 u2 : Tok}
theorem tup_eqI {Q : Value → Shared → Prop} (h1 : s.heap.get? q = some (tupI x y t u)) (h2 : s.heap.get? q2 = some (tupI x2 y2 t2 u2)) (ex : x = x2) (ey : y = y2) (hu : A.units < cLine) (h : Q (.bool true) s) : wpAny (model prog w) A (compareOp .Eq (.ref q) (.ref q2)) Q E s := by
  subst ex ey
  refine SeqAt.eq_tupleAt (e := fun _ => true) (items := #[.int x t, .int y u]) (items2 := #[.int x t2, .int y u2]) ⟨_, h1, rfl, _, rfl⟩ ⟨_, h2, rfl, _, rfl⟩ hu (fun j hj1 hj2 => ?_) h
  have hj : j = 0 ∨ j = 1 := by simp at hj1; omega
  rcases hj with rfl | rfl
  · have e := SeqAt.EqAt.int_int (A := A.in1) (s := s) x t x t2
    rw [beq_self_eq_true] at e
    exact e
  · have e := SeqAt.EqAt.int_int (A := A.in1) (s := s) y u y u2
    rw [beq_self_eq_true] at e
    exact e
end
/-- one is nought, the other is not -/
theorem one_nought {reds blues : Nat} (h : reds = 0 ↔ blues ≠ 0) : (((reds : Int) == 0) != ((blues : Int) == 0)) = true := by
  by_cases h0 : reds = 0
  · have h1 := h.mp h0
    rw [h0, bne_iff_ne]
    simp [h1]
  · have h1 : blues = 0 := Classical.byContradiction fun z => h0 (h.mpr z)
    rw [h1, bne_iff_ne]
    simp [h0]
theorem does_walkN {w : World} {p : Program} {loose : List Str} {mean : ExcName → Option Value} {mg mb : Str → Option Value} {N own reds : Nat} {tn : Tok} {lb lw : Addr} {bv : List Value} {aW : _root_.Fin 6 → Addr} {tW uW : _root_.Fin 6 → Tok}
    (hints : IntsAre bv (bsOf N own)) (hn : SizeOk N) (hw : walkF (N : Int) (bsOf N own) (walkTurns N) (-1) N 0 0 = if reds ≠ 0 then (3, 3) else (0, 0)) :
    Does w p loose mean mg mb 3 24 (WalkPre (N : Int) lb lw bv aW tW uW) (.ref 151) [.int (N : Int) tn, .ref lb, .ref lw] [] (fun v mu' => ∃ q x y t u, v = .ref q ∧ mu' = [(q, tupI x y t u)] ∧ (reds ≠ 0 → x = 3 ∧ y = 3) ∧ (reds = 0 → x = 0 ∧ y = 0)) := by
  have mono : ∀ {P P' : Value → List (Addr × Obj) → Prop} {vs : List Value} {Pre : Heap → Prop}, (∀ v mu', P v mu' → P' v mu') → Does w p loose mean mg mb 3 24 Pre (.ref 151) vs [] P → Does w p loose mean mg mb 3 24 Pre (.ref 151) vs [] P' :=
    fun hh H _ _ _ _ _ _ _ _ _ _ _ _ _ _ _ _ _ _ a1 a2 a3 a4 a5 a6 a7 a8 a9 b1 b2 => H _ _ _ _ _ _ _ _ _ _ _ _ _ _ _ _ _ _ a1 a2 a3 a4 a5 a6 a7 a8 a9 b1 fun v mu' h' tk' c1 c2 c3 c4 => b2 v mu' h' tk' c1 c2 c3 (hh v mu' c4)
  refine mono (fun v mu' ⟨q, t, u, e1, e2⟩ => ?_) (does_walk hints bs_len (by rcases hn with rfl | rfl <;> simp))
  refine ⟨q, _, _, t, u, e1, e2, fun h0 => ?_, fun h0 => ?_⟩
  · rw [hw, if_pos h0]; exact ⟨rfl, rfl⟩
  · rw [hw, if_neg (by omega)]; exact ⟨rfl, rfl⟩
theorem hu_law {env : Env} : (callerA.deeper env).units < cLine := by
  rw [units_deeper, units_caller]; decide
theorem law_post {args : List WData} : PySem.Challenge.rw_sl0009_01.row.claim.post args (.bool true) args = true := postW_of rfl (w_eq_bool (w_res rfl) w_lit) rfl
end
section
theorem off_A90_law : True := by (w_top off); first | walk1 | trivial
local macro_rules | `(tactic| walk_at $s:str) => if ["call builtin:len", "call ref", "SizeEnd", "binaryOp Add ref ref", "binaryOp Mult ref int", "binaryOp Mult int int", "compareOp NotEq int int", "compareOp NotEq bool bool", "compareOp Eq ref ref"].contains s.getString then `(tactic| refine hold_in ?_) else Lean.Macro.throwUnsupported
local macro_rules | `(tactic| walk_at "exec Assign") => `(tactic| ((with_reducible show wpAny _ _ (exec (PySem.Stmt.Assign [PySem.Expr.Name (Str.ofString "size") _] _ _) _) _ _ _); (fail_if_success (with_reducible show wpAny _ _ _ (SizeEnd _ _ _ _ _) _ _)); refine hold_in ?_))
set_option maxHeartbeats 16000000 in
theorem law_holds : PySem.Challenge.rw_sl0009_01.Holds := hd (by
  k_go0
  all_goals (try k_fold)
  walk_at "hx_steps"
  refine hold_out ?_
  (rename News _ _ _ (_ :: _) => hN9); (rename Fr _ _ _ _ => hF9)
  (rename Heap.IsList _ _ _ => hL9)
  refine' size_join hF9 hN9 hL9 ?sz ?cont
  case sz =>
    walk_at "hx_steps"
    refine hold_out ?_
    (rename IntsAre _ _ => hI9)
    (with_reducible refine' call_len_list ?k1 ?k2 ?_)
    case k1 => exact hL9.at fun o e => Fr.keep (by k_asm) _ o e
    case k2 => (have := hI9.length; rw [List.size_toArray]; omega)
    walk_at "hx_steps"
    · refine hold_out ?_
      (rename News _ _ _ (_ :: _) => hN9); (rename Fr _ _ _ _ => hF9)
      refine' SizeEnd.intro 3 _ (.inl rfl) hF9 hN9 ?hm1
      case hm1 => (repeat' (first | exact facts_nil | refine facts_cons rfl ?_ | exact List.forall_mem_nil _ | (refine' fmc ?qf9 (?_); (case qf9 => rfl))))
    · refine hold_out ?_
      (rename News _ _ _ (_ :: _) => hN9); (rename Fr _ _ _ _ => hF9)
      refine' SizeEnd.intro 4 _ (.inr rfl) hF9 hN9 ?hm2
      case hm2 => (repeat' (first | exact facts_nil | refine facts_cons rfl ?_ | exact List.forall_mem_nil _ | (refine' fmc ?qf9 (?_); (case qf9 => rfl))))
  case cont =>
    clear hF9 hN9
    rintro N tn h2 tk2 m2 hn F2 N2 hm
    replace F2 := fr_withB0 _ hm F2
    clear hm
    dsimp only [withB] at F2
    (rename IntsAre _ _ => hI9)
    try dsimp only
    refine wpAny_cut ?_
    intro QC EC hQC
    walk_at "hx_steps"
    refine hold_out ?_
    k_dflt (refine' Does.use0 (does_rowsN hn hI9 ?hf) ?b1 ?b2 ?b3 ?b4 ?b5 ?b6 ?b7 ?b8 ?b9 ?_; (((case b1 => k_asm); (case b2 => k_asm); (case b3 => k_asm); (case b4 => k_asm); (case b5 => k_asm); (case b6 => first | exact rfl | assumption); (case b8 => (first | (decide) | (first | (refine' room0 ?qh ?qb; (case qh => assumption); (case qb => exact Nat.le_of_ble_eq_true rfl)) | (refine' room1 ?qh ?qb; (case qh => assumption); (case qb => exact Nat.le_of_ble_eq_true rfl)) | (refine' room2 ?qh ?qb; (case qh => assumption); (case qb => exact Nat.le_of_ble_eq_true rfl)) | omega | ((try simp only [depth_under_make, depth_under_kw, depth_in1, depth_deeper, depth_caller, units_in1, units_deeper, Around.mark_units, units_caller]); (try dsimp only [ktrTop]); omega)))); (case b9 => (first | (decide) | (first | (refine' room0 ?qh ?qb; (case qh => assumption); (case qb => exact Nat.le_of_ble_eq_true rfl)) | (refine' room1 ?qh ?qb; (case qh => assumption); (case qb => exact Nat.le_of_ble_eq_true rfl)) | (refine' room2 ?qh ?qb; (case qh => assumption); (case qb => exact Nat.le_of_ble_eq_true rfl)) | omega | ((try simp only [depth_under_make, depth_under_kw, depth_in1, depth_deeper, depth_caller, units_in1, units_deeper, Around.mark_units, units_caller]); (try dsimp only [ktrTop]); omega)))))); (case hf => (have := hI9.length; rw [sizeLine_eq]; omega)); (case b7 => (intro g hg hs; exact hL9.at fun o e => hg _ o e)))
    intro v' mu' h' tk' F' N' D' P'
    obtain ⟨q, ys, rs, rfl, rfl, hys, hrl, hrlt⟩ := P'
    have q54 : @Ne Nat 54 q := D' _ (.tail _ (.head _)) _ (.head _)
    clear D'
    simp only [List.cons_append, List.nil_append] at N'
    try dsimp only
    walk_at "hx_steps"
    refine hold_out ?_
    (rename News _ _ _ (_ :: _) => hN9)
    k_dflt (refine' Does.use (mu := [_]) (still := [_, _, _]) (does_d2iN hn (by omega) hys hrl hrlt) ?b1 ?b2 ?b3 hN9 ?b5 ?b6 (fmc ((.tail _ (.tail _ (.head _)))) (fmc (.head _) (fmc ((.tail _ (.head _))) (fmc ((.tail _ (.tail _ (.tail _ (.head _))))) (fun _ h => nomatch h))))) ?ba ?b7 ?b8 ?b9 ?_)
    case b1 => k_asm
    case b2 => k_asm
    case b3 => k_asm
    case b5 => k_asm
    case b6 => exact rfl
    case ba => exact (fmc (List.forall_mem_singleton.mpr (Ne.symm q54)) (fmc (List.forall_mem_singleton.mpr (show @Ne Nat 125 54 by decide)) (fmc (List.forall_mem_singleton.mpr (show @Ne Nat 47 54 by decide)) (fun _ h => nomatch h))))
    case b7 => (intro g hg hs; exact ⟨(by assumption : CodeHd _ 58 54).keeps hg, isList_of (hs _ (.head _))⟩)
    case b8 => (first | (decide) | (first | (refine' room0 ?qh ?qb; (case qh => assumption); (case qb => exact Nat.le_of_ble_eq_true rfl)) | (refine' room1 ?qh ?qb; (case qh => assumption); (case qb => exact Nat.le_of_ble_eq_true rfl)) | (refine' room2 ?qh ?qb; (case qh => assumption); (case qb => exact Nat.le_of_ble_eq_true rfl)) | omega | ((try simp only [depth_under_make, depth_under_kw, depth_in1, depth_deeper, depth_caller, units_in1, units_deeper, Around.mark_units, units_caller]); (try dsimp only [ktrTop]); omega)))
    case b9 => (first | (decide) | (first | (refine' room0 ?qh ?qb; (case qh => assumption); (case qb => exact Nat.le_of_ble_eq_true rfl)) | (refine' room1 ?qh ?qb; (case qh => assumption); (case qb => exact Nat.le_of_ble_eq_true rfl)) | (refine' room2 ?qh ?qb; (case qh => assumption); (case qb => exact Nat.le_of_ble_eq_true rfl)) | omega | ((try simp only [depth_under_make, depth_under_kw, depth_in1, depth_deeper, depth_caller, units_in1, units_deeper, Around.mark_units, units_caller]); (try dsimp only [ktrTop]); omega)))
    intro v' mu' h' tk' F' N' D' P'
    obtain ⟨to, ps1, rfl, rfl⟩ := P'
    clear D' hN9
    have hown := own_lt hrl hrlt
    generalize hoe : sumF (N + 1) rs = own at hown
    simp only [List.cons_append, List.nil_append] at N'
    try dsimp only
    walk_at "hx_steps"
    refine hold_out ?_
    (rename News _ _ _ (_ :: _) => hN9)
    k_dflt (refine' Does.use (mu := [_]) (still := [_, _]) (does_i2d (own_lt20 hn hown)) ?b1 ?b2 ?b3 hN9 ?b5 ?b6 (fmc ((.tail _ (.tail _ (.tail _ (.head _))))) (fmc (.head _) (fmc ((.tail _ (.tail _ (.head _)))) (fun _ h => nomatch h)))) ?ba ?b7 ?b8 ?b9 ?_)
    case b1 => k_asm
    case b2 => k_asm
    case b3 => k_asm
    case b5 => k_asm
    case b6 => exact rfl
    case ba => exact (fmc (List.forall_mem_singleton.mpr (show @Ne Nat 54 47 by decide)) (fmc (List.forall_mem_singleton.mpr (show @Ne Nat 125 47 by decide)) (fun _ h => nomatch h)))
    case b7 => (intro g hg hs; exact (by assumption : CodeHd _ 51 47).keeps hg)
    case b8 => (first | (decide) | (first | (refine' room0 ?qh ?qb; (case qh => assumption); (case qb => exact Nat.le_of_ble_eq_true rfl)) | (refine' room1 ?qh ?qb; (case qh => assumption); (case qb => exact Nat.le_of_ble_eq_true rfl)) | (refine' room2 ?qh ?qb; (case qh => assumption); (case qb => exact Nat.le_of_ble_eq_true rfl)) | omega | ((try simp only [depth_under_make, depth_under_kw, depth_in1, depth_deeper, depth_caller, units_in1, units_deeper, Around.mark_units, units_caller]); (try dsimp only [ktrTop]); omega)))
    case b9 => (first | (decide) | (first | (refine' room0 ?qh ?qb; (case qh => assumption); (case qb => exact Nat.le_of_ble_eq_true rfl)) | (refine' room1 ?qh ?qb; (case qh => assumption); (case qb => exact Nat.le_of_ble_eq_true rfl)) | (refine' room2 ?qh ?qb; (case qh => assumption); (case qb => exact Nat.le_of_ble_eq_true rfl)) | omega | ((try simp only [depth_under_make, depth_under_kw, depth_in1, depth_deeper, depth_caller, units_in1, units_deeper, Around.mark_units, units_caller]); (try dsimp only [ktrTop]); omega)))
    intro v' mu' h' tk' F' N' D' P'
    obtain ⟨q2, vs2, ps2, rfl, rfl, hvl, hvg⟩ := P'
    clear D' hN9
    simp only [List.cons_append, List.nil_append] at N'
    try dsimp only
    walk_at "hx_steps"
    refine hold_out ?_
    refine mul_int ?_ (mulN hn)
    try dsimp only
    walk_at "hx_steps"
    refine hold_out ?_
    (rename News _ _ _ (_ :: _) => hN9); have hN8 := (hN9 _ (.tail _ (.head _))).1
    have hle2 := (told_bits (t0 := 0) hown hvl hvg).1
    have hle3 : N * (N + 1) ≤ 20 := (by rcases hn with rfl | rfl <;> decide)
    (with_reducible refine' call_len_list (isList_of hN8) ?k2 ?_); (case k2 => (rw [List.size_toArray]; omega))
    clear hN8
    walk_at "hx_steps"
    refine hold_out ?_
    (rename News _ _ _ (_ :: _) => hN9); have hN8 := (hN9 _ (.head _)).1
    k_dflt (refine' rep_mul (nb := N * (N + 1) - vs2.length) ?m1 hN9 hN8 ?m3 ?m4 ?_; (case m1 => k_asm); (case m3 => (rw [List.size_toArray, Int.natCast_sub hle2]; push_cast; rfl)); (case m4 => omega))
    intro D1 h' F' N' l1
    clear hN8 hN9
    k_lt l1
    walk_at "hx_steps"
    refine hold_out ?_
    (rename News _ _ _ (_ :: _) => hN9); (rename Fr _ _ _ _ => hF9)
    have hN8 := (hN9 _ (.tail _ (.tail _ (.head _)))).1
    have hN7 := (hN9 _ (.head _)).1
    k_dflt (refine' kmk_add_lit hF9 hN9 (isList_of hN8) (isList_of hN7) (toList_app _ _) ?_ ?qz9)
    case qz9 => (simp only [List.length_replicate, sizeLine_eq]; omega)
    intro D2 h' F' N' l2
    have d125 : @Ne Nat D2 125 := Ne.symm (Nat.ne_of_lt (l2 _ (.tail _ (.tail _ (.tail _ (.tail _ (.tail _ (.head _))))))))
    obtain ⟨zs, hzs, hzN⟩ : ∃ zs : List Value, IntsAre zs (bsOf N own) ∧ News _ _ h' [(D2, W.listOf zs.toArray 0), (47, tabObj ps2), (54, tabObj ps1), (125, tabObj #[])] := ⟨_, (told_bits hown hvl hvg).2, news_sub N' (fmc (.head _) (fmc ((.tail _ (.tail _ (.tail _ (.tail _ (.head _)))))) (fmc ((.tail _ (.tail _ (.tail _ (.tail _ (.tail _ (.head _))))))) (fmc ((.tail _ (.tail _ (.tail _ (.tail _ (.tail _ (.tail _ (.head _)))))))) (fun _ h => nomatch h)))))⟩
    clear N' hN9 hF9 hN8 hN7 l2 l1 hle2 hle3 hvl hvg
    walk_at "hx_steps"
    refine hold_out ?_
    k_dflt (refine' Does.use0 does_ways ?b1 ?b2 ?b3 ?b4 ?b5 ?b6 ?b7 ?b8 ?b9 ?_; (((case b1 => k_asm); (case b2 => k_asm); (case b3 => k_asm); (case b4 => k_asm); (case b5 => k_asm); (case b6 => first | exact rfl | assumption); (case b8 => (first | (decide) | (first | (refine' room0 ?qh ?qb; (case qh => assumption); (case qb => exact Nat.le_of_ble_eq_true rfl)) | (refine' room1 ?qh ?qb; (case qh => assumption); (case qb => exact Nat.le_of_ble_eq_true rfl)) | (refine' room2 ?qh ?qb; (case qh => assumption); (case qb => exact Nat.le_of_ble_eq_true rfl)) | omega | ((try simp only [depth_under_make, depth_under_kw, depth_in1, depth_deeper, depth_caller, units_in1, units_deeper, Around.mark_units, units_caller]); (try dsimp only [ktrTop]); omega)))); (case b9 => (first | (decide) | (first | (refine' room0 ?qh ?qb; (case qh => assumption); (case qb => exact Nat.le_of_ble_eq_true rfl)) | (refine' room1 ?qh ?qb; (case qh => assumption); (case qb => exact Nat.le_of_ble_eq_true rfl)) | (refine' room2 ?qh ?qb; (case qh => assumption); (case qb => exact Nat.le_of_ble_eq_true rfl)) | omega | ((try simp only [depth_under_make, depth_under_kw, depth_in1, depth_deeper, depth_caller, units_in1, units_deeper, Around.mark_units, units_caller]); (try dsimp only [ktrTop]); omega)))))); (case b7 => (intros; trivial)))
    intro v' mu' h' tk' F' N' D' P'
    obtain ⟨l, a0, a1, a2, a3, a4, a5, ew, t0, t1, t2, t3, t4, t5, t6, t7, t8, t9, t10, t11, rfl, hsub⟩ := P'
    have n125 : ∀ q ∈ waysLed l a0 a1 a2 a3 a4 a5 ew t0 t1 t2 t3 t4 t5 t6 t7 t8 t9 t10 t11, @Ne Nat 125 q.1 := fun q hq => D' _ (.tail _ (.tail _ (.tail _ (.head _)))) q (hsub q hq)
    (replace N' := news_sub (r := waysLed l a0 a1 a2 a3 a4 a5 ew t0 t1 t2 t3 t4 t5 t6 t7 t8 t9 t10 t11 ++ [_, _, _, _]) N' (List.forall_mem_append.mpr ⟨fun q hq => List.mem_append_left _ (hsub q hq), (fmc (List.mem_append_right _ (.head _)) (fmc (List.mem_append_right _ (.tail _ (.head _))) (fmc (List.mem_append_right _ (.tail _ (.tail _ (.head _)))) (fmc (List.mem_append_right _ (.tail _ (.tail _ (.tail _ (.head _))))) (fun _ h => nomatch h)))))⟩))
    clear D' hsub
    simp only [waysLed, List.forall_mem_cons] at n125
    obtain ⟨n0, n1, n2, n3, n4, n5, n6, _⟩ := n125
    simp only [waysLed, List.cons_append, List.nil_append] at N'
    try dsimp only
    walk_at "hx_steps"
    refine hold_out ?_
    (rename News _ _ _ (_ :: _) => hN9)
    k_dflt (refine' Does.use (mu := [(125, tabObj #[])]) (still := [_, _, _, _, _, _, _, _, _, _]) (does_flood (N := N) (red := true) (bs := bsOf N own) (aW := vec6 a0 a1 a2 a3 a4 a5) (tW := vec6 t0 t2 t4 t6 t8 t10) (uW := vec6 t1 t3 t5 t7 t9 t11) (PreM := fun g => CodeHd g 129 125) (tabOk := fun c1 o1 tab => TabOk1 c1 o1 tab) (fun _ _ st h => h.keeps st) hmu_one (fun x tx hx => does_machine hx) hzs bs_len hn) ?b1 ?b2 ?b3 hN9 ?b5 ?b6 (fmc ((.tail _ (.tail _ (.tail _ (.tail _ (.tail _ (.tail _ (.tail _ (.tail _ (.tail _ (.tail _ (.head _)))))))))))) (fmc (.head _) (fmc ((.tail _ (.head _))) (fmc ((.tail _ (.tail _ (.head _)))) (fmc ((.tail _ (.tail _ (.tail _ (.head _))))) (fmc ((.tail _ (.tail _ (.tail _ (.tail _ (.head _)))))) (fmc ((.tail _ (.tail _ (.tail _ (.tail _ (.tail _ (.head _))))))) (fmc ((.tail _ (.tail _ (.tail _ (.tail _ (.tail _ (.tail _ (.head _)))))))) (fmc ((.tail _ (.tail _ (.tail _ (.tail _ (.tail _ (.tail _ (.tail _ (.head _))))))))) (fmc ((.tail _ (.tail _ (.tail _ (.tail _ (.tail _ (.tail _ (.tail _ (.tail _ (.head _)))))))))) (fmc ((.tail _ (.tail _ (.tail _ (.tail _ (.tail _ (.tail _ (.tail _ (.tail _ (.tail _ (.head _))))))))))) (fun _ h => nomatch h)))))))))))) ?ba ?b7 ?b8 ?b9 ?_)
    case b1 => k_asm
    case b2 => k_asm
    case b3 => k_asm
    case b5 => k_asm
    case b6 => exact rfl
    case ba => exact (fmc (List.forall_mem_singleton.mpr (Ne.symm n0)) (fmc (List.forall_mem_singleton.mpr (Ne.symm n1)) (fmc (List.forall_mem_singleton.mpr (Ne.symm n2)) (fmc (List.forall_mem_singleton.mpr (Ne.symm n3)) (fmc (List.forall_mem_singleton.mpr (Ne.symm n4)) (fmc (List.forall_mem_singleton.mpr (Ne.symm n5)) (fmc (List.forall_mem_singleton.mpr (Ne.symm n6)) (fmc (List.forall_mem_singleton.mpr (d125)) (fmc (List.forall_mem_singleton.mpr (show @Ne Nat 47 125 by decide)) (fmc (List.forall_mem_singleton.mpr (show @Ne Nat 54 125 by decide)) (fun _ h => nomatch h)))))))))))
    case b7 => (intro g hg hs; exact ⟨walkPre_of hs (fmc (.head _) (fmc ((.tail _ (.head _))) (fmc ((.tail _ (.tail _ (.head _)))) (fmc ((.tail _ (.tail _ (.tail _ (.head _))))) (fmc ((.tail _ (.tail _ (.tail _ (.tail _ (.head _)))))) (fmc ((.tail _ (.tail _ (.tail _ (.tail _ (.tail _ (.head _))))))) (fmc ((.tail _ (.tail _ (.tail _ (.tail _ (.tail _ (.tail _ (.head _)))))))) (fun _ h => nomatch h)))))))) (.tail _ (.tail _ (.tail _ (.tail _ (.tail _ (.tail _ (.tail _ (.head _)))))))), (by assumption : CodeHd _ 129 125).keeps hg⟩)
    case b8 => (first | (decide) | (first | (refine' room0 ?qh ?qb; (case qh => assumption); (case qb => exact Nat.le_of_ble_eq_true rfl)) | (refine' room1 ?qh ?qb; (case qh => assumption); (case qb => exact Nat.le_of_ble_eq_true rfl)) | (refine' room2 ?qh ?qb; (case qh => assumption); (case qb => exact Nat.le_of_ble_eq_true rfl)) | omega | ((try simp only [depth_under_make, depth_under_kw, depth_in1, depth_deeper, depth_caller, units_in1, units_deeper, Around.mark_units, units_caller]); (try dsimp only [ktrTop]); omega)))
    case b9 => (first | (decide) | (first | (refine' room0 ?qh ?qb; (case qh => assumption); (case qb => exact Nat.le_of_ble_eq_true rfl)) | (refine' room1 ?qh ?qb; (case qh => assumption); (case qb => exact Nat.le_of_ble_eq_true rfl)) | (refine' room2 ?qh ?qb; (case qh => assumption); (case qb => exact Nat.le_of_ble_eq_true rfl)) | omega | ((try simp only [depth_under_make, depth_under_kw, depth_in1, depth_deeper, depth_caller, units_in1, units_deeper, Around.mark_units, units_caller]); (try dsimp only [ktrTop]); omega)))
    intro v' mu' h' tk' F' N' hD8 P'
    obtain ⟨reds, c1, o1, tab, tr, hre, rfl, rfl, hc1, ho1, c2, rfl⟩ := floodPost_out P'
    clear hN9
    simp only [List.cons_append, List.nil_append] at N'
    try dsimp only
    walk_at "hx_steps"
    refine hold_out ?_
    (rename News _ _ _ (_ :: _) => hN9)
    k_dflt (refine' Does.use (mu := [(c1, o1), (125, tabObj _)]) (still := [_, _, _, _, _, _, _, _, _, _]) (does_flood (N := N) (red := false) (bs := bsOf N own) (aW := vec6 a0 a1 a2 a3 a4 a5) (tW := vec6 t0 t2 t4 t6 t8 t10) (uW := vec6 t1 t3 t5 t7 t9 t11) (PreM := fun g => CodeHd g 129 125) (tabOk := fun _ _ tab => ∃ ps, tab = tabObj ps) (fun _ _ st h => h.keeps st) (hmu_two ho1) (fun x tx hx => does_machine2 hx hc1 ho1) hzs bs_len hn) ?b1 ?b2 ?b3 hN9 ?b5 ?b6 (fmc (.head _) (fmc ((.tail _ (.head _))) (fmc ((.tail _ (.tail _ (.head _)))) (fmc ((.tail _ (.tail _ (.tail _ (.head _))))) (fmc ((.tail _ (.tail _ (.tail _ (.tail _ (.head _)))))) (fmc ((.tail _ (.tail _ (.tail _ (.tail _ (.tail _ (.head _))))))) (fmc ((.tail _ (.tail _ (.tail _ (.tail _ (.tail _ (.tail _ (.head _)))))))) (fmc ((.tail _ (.tail _ (.tail _ (.tail _ (.tail _ (.tail _ (.tail _ (.head _))))))))) (fmc ((.tail _ (.tail _ (.tail _ (.tail _ (.tail _ (.tail _ (.tail _ (.tail _ (.head _)))))))))) (fmc ((.tail _ (.tail _ (.tail _ (.tail _ (.tail _ (.tail _ (.tail _ (.tail _ (.tail _ (.head _))))))))))) (fmc ((.tail _ (.tail _ (.tail _ (.tail _ (.tail _ (.tail _ (.tail _ (.tail _ (.tail _ (.tail _ (.head _)))))))))))) (fmc ((.tail _ (.tail _ (.tail _ (.tail _ (.tail _ (.tail _ (.tail _ (.tail _ (.tail _ (.tail _ (.tail _ (.head _))))))))))))) (fun _ h => nomatch h))))))))))))) hD8 ?b7 ?b8 ?b9 ?_)
    case b1 => k_asm
    case b2 => k_asm
    case b3 => k_asm
    case b5 => k_asm
    case b6 => exact rfl
    case b7 => (intro g hg hs; exact ⟨walkPre_of hs (fmc (.head _) (fmc ((.tail _ (.head _))) (fmc ((.tail _ (.tail _ (.head _)))) (fmc ((.tail _ (.tail _ (.tail _ (.head _))))) (fmc ((.tail _ (.tail _ (.tail _ (.tail _ (.head _)))))) (fmc ((.tail _ (.tail _ (.tail _ (.tail _ (.tail _ (.head _))))))) (fmc ((.tail _ (.tail _ (.tail _ (.tail _ (.tail _ (.tail _ (.head _)))))))) (fun _ h => nomatch h)))))))) (.tail _ (.tail _ (.tail _ (.tail _ (.tail _ (.tail _ (.tail _ (.head _)))))))), (by assumption : CodeHd _ 129 125).keeps hg⟩)
    case b8 => (first | (decide) | (first | (refine' room0 ?qh ?qb; (case qh => assumption); (case qb => exact Nat.le_of_ble_eq_true rfl)) | (refine' room1 ?qh ?qb; (case qh => assumption); (case qb => exact Nat.le_of_ble_eq_true rfl)) | (refine' room2 ?qh ?qb; (case qh => assumption); (case qb => exact Nat.le_of_ble_eq_true rfl)) | omega | ((try simp only [depth_under_make, depth_under_kw, depth_in1, depth_deeper, depth_caller, units_in1, units_deeper, Around.mark_units, units_caller]); (try dsimp only [ktrTop]); omega)))
    case b9 => (first | (decide) | (first | (refine' room0 ?qh ?qb; (case qh => assumption); (case qb => exact Nat.le_of_ble_eq_true rfl)) | (refine' room1 ?qh ?qb; (case qh => assumption); (case qb => exact Nat.le_of_ble_eq_true rfl)) | (refine' room2 ?qh ?qb; (case qh => assumption); (case qb => exact Nat.le_of_ble_eq_true rfl)) | omega | ((try simp only [depth_under_make, depth_under_kw, depth_in1, depth_deeper, depth_caller, units_in1, units_deeper, Around.mark_units, units_caller]); (try dsimp only [ktrTop]); omega)))
    intro v' mu' h' tk' F' N' D' P'
    obtain ⟨blues, c3, o3, tab3, tb, hbe, rfl, rfl, hc3, ps3, rfl⟩ := floodPost_out P'
    clear hN9 D' hD8 ho1 hc1
    simp only [List.cons_append, List.nil_append] at N'
    try dsimp only
    walk_at "hx_steps"
    refine hold_out ?_
    (rename News _ _ _ (_ :: _) => hN9); (replace hN9 := news_sub (r := [_, _, _, _, _, _, _, _, _, _, _]) hN9 (fmc ((.tail _ (.head _))) (fmc ((.tail _ (.tail _ (.head _)))) (fmc ((.tail _ (.tail _ (.tail _ (.head _))))) (fmc ((.tail _ (.tail _ (.tail _ (.tail _ (.head _)))))) (fmc ((.tail _ (.tail _ (.tail _ (.tail _ (.tail _ (.head _))))))) (fmc ((.tail _ (.tail _ (.tail _ (.tail _ (.tail _ (.tail _ (.head _)))))))) (fmc ((.tail _ (.tail _ (.tail _ (.tail _ (.tail _ (.tail _ (.tail _ (.head _))))))))) (fmc ((.tail _ (.tail _ (.tail _ (.tail _ (.tail _ (.tail _ (.tail _ (.tail _ (.head _)))))))))) (fmc ((.tail _ (.tail _ (.tail _ (.tail _ (.tail _ (.tail _ (.tail _ (.tail _ (.tail _ (.head _))))))))))) (fmc ((.tail _ (.tail _ (.tail _ (.tail _ (.tail _ (.tail _ (.tail _ (.tail _ (.tail _ (.tail _ (.head _)))))))))))) (fmc ((.tail _ (.tail _ (.tail _ (.tail _ (.tail _ (.tail _ (.tail _ (.tail _ (.tail _ (.tail _ (.tail _ (.head _))))))))))))) (fun _ h => nomatch h)))))))))))))
    obtain ⟨p1, p2, p3, p4⟩ := id (lawFacts_res hn hrl hrlt hoe hre hbe)
    obtain ⟨hb1, hb2⟩ := board_le hn hrl hrlt hoe
    clear hre hbe
    k_dflt (refine' Does.use0T (does_fewestN (red := true) hn (Nat.lt_of_lt_of_le (own_lt20 hn hown) (by decide)) rfl) ?b1 ?b2 ?b3 ?b4 ?b5 ?b6 ?b7 ?b8 ?b9 ?_; (((case b1 => k_asm); (case b2 => k_asm); (case b3 => k_asm); (case b4 => k_asm); (case b5 => k_asm); (case b6 => first | exact rfl | assumption); (case b8 => (first | (decide) | (first | (refine' room0 ?qh ?qb; (case qh => assumption); (case qb => exact Nat.le_of_ble_eq_true rfl)) | (refine' room1 ?qh ?qb; (case qh => assumption); (case qb => exact Nat.le_of_ble_eq_true rfl)) | (refine' room2 ?qh ?qb; (case qh => assumption); (case qb => exact Nat.le_of_ble_eq_true rfl)) | omega | ((try simp only [depth_under_make, depth_under_kw, depth_in1, depth_deeper, depth_caller, units_in1, units_deeper, Around.mark_units, units_caller]); (try dsimp only [ktrTop]); omega)))); (case b9 => (first | (decide) | (first | (refine' room0 ?qh ?qb; (case qh => assumption); (case qb => exact Nat.le_of_ble_eq_true rfl)) | (refine' room1 ?qh ?qb; (case qh => assumption); (case qb => exact Nat.le_of_ble_eq_true rfl)) | (refine' room2 ?qh ?qb; (case qh => assumption); (case qb => exact Nat.le_of_ble_eq_true rfl)) | omega | ((try simp only [depth_under_make, depth_under_kw, depth_in1, depth_deeper, depth_caller, units_in1, units_deeper, Around.mark_units, units_caller]); (try dsimp only [ktrTop]); omega)))))); (case b7 => (intros; trivial)))
    intro t20 h' tk' F' N'
    rw [p1]
    try dsimp only
    walk_at "hx_steps"
    refine hold_out ?_
    refine ne_same rfl ?_
    try dsimp only
    walk_at "hx_steps"
    refine hold_out ?_
    k_dflt (refine' Does.use0T (does_boardN hn) ?b1 ?b2 ?b3 ?b4 ?b5 ?b6 ?b7 ?b8 ?b9 ?_; (((case b1 => k_asm); (case b2 => k_asm); (case b3 => k_asm); (case b4 => k_asm); (case b5 => k_asm); (case b6 => first | exact rfl | assumption); (case b8 => (first | (decide) | (first | (refine' room0 ?qh ?qb; (case qh => assumption); (case qb => exact Nat.le_of_ble_eq_true rfl)) | (refine' room1 ?qh ?qb; (case qh => assumption); (case qb => exact Nat.le_of_ble_eq_true rfl)) | (refine' room2 ?qh ?qb; (case qh => assumption); (case qb => exact Nat.le_of_ble_eq_true rfl)) | omega | ((try simp only [depth_under_make, depth_under_kw, depth_in1, depth_deeper, depth_caller, units_in1, units_deeper, Around.mark_units, units_caller]); (try dsimp only [ktrTop]); omega)))); (case b9 => (first | (decide) | (first | (refine' room0 ?qh ?qb; (case qh => assumption); (case qb => exact Nat.le_of_ble_eq_true rfl)) | (refine' room1 ?qh ?qb; (case qh => assumption); (case qb => exact Nat.le_of_ble_eq_true rfl)) | (refine' room2 ?qh ?qb; (case qh => assumption); (case qb => exact Nat.le_of_ble_eq_true rfl)) | omega | ((try simp only [depth_under_make, depth_under_kw, depth_in1, depth_deeper, depth_caller, units_in1, units_deeper, Around.mark_units, units_caller]); (try dsimp only [ktrTop]); omega)))))); (case b7 => (intros; trivial)))
    intro t21 h' tk' F' N'
    try dsimp only
    walk_at "hx_steps"
    refine hold_out ?_
    k_dflt (refine' Does.use0T (does_fewestN (red := false) hn hb2 hb1) ?b1 ?b2 ?b3 ?b4 ?b5 ?b6 ?b7 ?b8 ?b9 ?_; (((case b1 => k_asm); (case b2 => k_asm); (case b3 => k_asm); (case b4 => k_asm); (case b5 => k_asm); (case b6 => first | exact rfl | assumption); (case b8 => (first | (decide) | (first | (refine' room0 ?qh ?qb; (case qh => assumption); (case qb => exact Nat.le_of_ble_eq_true rfl)) | (refine' room1 ?qh ?qb; (case qh => assumption); (case qb => exact Nat.le_of_ble_eq_true rfl)) | (refine' room2 ?qh ?qb; (case qh => assumption); (case qb => exact Nat.le_of_ble_eq_true rfl)) | omega | ((try simp only [depth_under_make, depth_under_kw, depth_in1, depth_deeper, depth_caller, units_in1, units_deeper, Around.mark_units, units_caller]); (try dsimp only [ktrTop]); omega)))); (case b9 => (first | (decide) | (first | (refine' room0 ?qh ?qb; (case qh => assumption); (case qb => exact Nat.le_of_ble_eq_true rfl)) | (refine' room1 ?qh ?qb; (case qh => assumption); (case qb => exact Nat.le_of_ble_eq_true rfl)) | (refine' room2 ?qh ?qb; (case qh => assumption); (case qb => exact Nat.le_of_ble_eq_true rfl)) | omega | ((try simp only [depth_under_make, depth_under_kw, depth_in1, depth_deeper, depth_caller, units_in1, units_deeper, Around.mark_units, units_caller]); (try dsimp only [ktrTop]); omega)))))); (case b7 => (intros; trivial)))
    intro t22 h' tk' F' N'
    rw [p2]
    try dsimp only
    walk_at "hx_steps"
    refine hold_out ?_
    refine ne_same rfl ?_
    clear p1 p2 hb1 hb2
    have hxor := one_nought p3
    try dsimp only
    walk_at "hx_steps"
    refine hold_out ?_
    refine ne_bool ?_
    rw [hxor]
    clear hxor
    try dsimp only
    walk_at "hx_steps"
    refine hold_out ?_
    k_dflt (refine' Does.use0 (does_walkN (reds := reds) (aW := vec6 a0 a1 a2 a3 a4 a5) (tW := vec6 t0 t2 t4 t6 t8 t10) (uW := vec6 t1 t3 t5 t7 t9 t11) hzs hn p4) ?b1 ?b2 ?b3 ?b4 ?b5 ?b6 ?b7 ?b8 ?b9 ?_; (((case b1 => k_asm); (case b2 => k_asm); (case b3 => k_asm); (case b4 => k_asm); (case b5 => k_asm); (case b6 => first | exact rfl | assumption); (case b8 => (first | (decide) | (first | (refine' room0 ?qh ?qb; (case qh => assumption); (case qb => exact Nat.le_of_ble_eq_true rfl)) | (refine' room1 ?qh ?qb; (case qh => assumption); (case qb => exact Nat.le_of_ble_eq_true rfl)) | (refine' room2 ?qh ?qb; (case qh => assumption); (case qb => exact Nat.le_of_ble_eq_true rfl)) | omega | ((try simp only [depth_under_make, depth_under_kw, depth_in1, depth_deeper, depth_caller, units_in1, units_deeper, Around.mark_units, units_caller]); (try dsimp only [ktrTop]); omega)))); (case b9 => (first | (decide) | (first | (refine' room0 ?qh ?qb; (case qh => assumption); (case qb => exact Nat.le_of_ble_eq_true rfl)) | (refine' room1 ?qh ?qb; (case qh => assumption); (case qb => exact Nat.le_of_ble_eq_true rfl)) | (refine' room2 ?qh ?qb; (case qh => assumption); (case qb => exact Nat.le_of_ble_eq_true rfl)) | omega | ((try simp only [depth_under_make, depth_under_kw, depth_in1, depth_deeper, depth_caller, units_in1, units_deeper, Around.mark_units, units_caller]); (try dsimp only [ktrTop]); omega)))))); (case b7 => (intro g hg hs; exact walkPre_of hs (fmc ((.tail _ (.head _))) (fmc ((.tail _ (.tail _ (.head _)))) (fmc ((.tail _ (.tail _ (.tail _ (.head _))))) (fmc ((.tail _ (.tail _ (.tail _ (.tail _ (.head _)))))) (fmc ((.tail _ (.tail _ (.tail _ (.tail _ (.tail _ (.head _))))))) (fmc ((.tail _ (.tail _ (.tail _ (.tail _ (.tail _ (.tail _ (.head _)))))))) (fmc ((.tail _ (.tail _ (.tail _ (.tail _ (.tail _ (.tail _ (.tail _ (.head _))))))))) (fun _ h => nomatch h)))))))) (.tail _ (.tail _ (.tail _ (.tail _ (.tail _ (.tail _ (.tail _ (.tail _ (.head _))))))))))))
    intro v' mu' h' tk' F' N' D' P'
    obtain ⟨qw, x9, y9, t23, t24, rfl, rfl, hx3, hx0⟩ := P'
    clear p3 p4
    clear D'
    simp only [List.cons_append, List.nil_append] at N'
    try dsimp only
    walk_at "hx_steps"
    · refine hold_out ?_
      (rename News _ _ _ (_ :: _) => hN9)
      have h9 := hx3 (by omega)
      k_dflt (refine' tup_eqI (hN9 _ (.tail _ (.head _))).1 (hN9 _ (.head _)).1 h9.1 h9.2 ?hu1 ?_)
      case hu1 => exact hu_law
      clear h9 hx3 hx0
      try dsimp only
      walk_at "hx_steps"
      refine hQC _ _ ?_
      try dsimp only
      walk_at "hx_steps"
      (rename Fr _ _ _ _ => hF9)
      refine goodW_bool hF9 (by assumption) (raisesW_false ?_) ?_
      · wrow_none_raised
      · exact law_post
    · refine hold_out ?_
      (rename News _ _ _ (_ :: _) => hN9)
      have h9 := hx0 (by omega)
      k_dflt (refine' tup_eqI (hN9 _ (.tail _ (.head _))).1 (hN9 _ (.head _)).1 h9.1 h9.2 ?hu2 ?_)
      case hu2 => exact hu_law
      clear h9 hx3 hx0
      try dsimp only
      walk_at "hx_steps"
      refine hQC _ _ ?_
      try dsimp only
      walk_at "hx_steps"
      (rename Fr _ _ _ _ => hF9)
      refine goodW_bool hF9 (by assumption) (raisesW_false ?_) ?_
      · wrow_none_raised
      · exact law_post)
end
end Mine

theorem PySem.Challenge.cw_sl0009_01_holds : PySem.Challenge.rw_sl0009_01.Holds := by
  exact Mine.law_holds
