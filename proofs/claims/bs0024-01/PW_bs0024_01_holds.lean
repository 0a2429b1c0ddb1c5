import PyProof.Rows.All
import Wide.All
import OpenK.AllK
import Wide.FinOn
import Lean
import PySem.Challenge.RW_bs0024_01
set_option Elab.async false
section
open PySem PySem.W PyProof.Rows
namespace Mine
set_option maxRecDepth 100000
set_option maxHeartbeats 8000000
open_top hd for PySem.Challenge.rw_bs0024_01
end Mine
end
section
open PySem PySem.W PySem.Calls PyProof.Rows
namespace Mine
set_option maxRecDepth 100000
set_option maxHeartbeats 2000000
/-- everything stays but what stands in mu -/
def Ext (mu : List Addr) (h h' : Heap) : Prop := ∀ b o, h.get? b = some o → b ∉ mu → h'.get? b = some o
theorem Ext.refl (mu : List Addr) (h : Heap) : Ext mu h h := fun _ _ e _ => e
theorem Ext.trans {mu : List Addr} {h₁ h₂ h₃ : Heap} (x : Ext mu h₁ h₂) (y : Ext mu h₂ h₃) : Ext mu h₁ h₃ := fun b o e n => y b o (x b o e n) n
theorem Ext.weaken {mu nu : List Addr} {h h' : Heap} (x : Ext mu h h') (s : ∀ a ∈ mu, a ∈ nu) : Ext nu h h' := fun b o e n => x b o e fun q => n (s b q)
theorem Ext.of_keep {mu : List Addr} {h h' : Heap} (x : ∀ b o, h.get? b = some o → h'.get? b = some o) : Ext mu h h' := fun b o e _ => x b o e
abbrev prg : Program := PySem.Challenge.pw_bs0024_01
/-- a call of a plain def (no cells of its own; a closure it may have), its changed objects laid aside -/
theorem enterP {w : World} {A : Around} {s : Shared} {R : Result → Shared → Prop} {name qual : Str} {params : Arguments} {body : List Stmt} {scope : Scope} {cl : List (Str × Addr)} {dV kV doc pm cdv ct : Value} {an : Option Addr} {fo : Obj} {f : Addr} {args : Args}
    {binds : List (Str × Value)} {G0 : Heap} (mu : List (Addr × Obj)) (hmu : ∀ p ∈ mu, s.heap.get? p.1 = some p.2) (hm0 : ∀ p ∈ mu, G0.get? p.1 = none) (k : G0.StaysIn s.heap) (hlim : G0.NoLimit)
    (ho : s.heap.get? f = some fo) (hd : fo.data = .func (fnX name qual params body scope cl dV kV doc pm an cdv ct)) (hcd : s.heap.CodeRec cdv qual) (hroom : A.depth < recursionLimit)
    (hbind : BindsTo s (fnX name qual params body scope cl dV kV doc pm an cdv ct) args binds) (hloc : ∀ y ∈ binds, scope.names.lookup y.1 = some .local)
    (h : ∀ g L' h₁, G0.StaysIn g → Ext (mu.map (·.1)) s.heap g → (∀ b o, g.get? b = some o → s.heap.get? b = some o) → s.heap.objs.size = L' → Fr g L' h₁ (fun y => binds.reverse.lookup y) → News g L' h₁ mu →
      wpAny (model prg w) (A.deeper (envX qual scope L' f cdv cl)) (execs body (envX qual scope L' f cdv cl))
        (fun fl s' => R (.ok (.ret (match fl with | .ret v => v | _ => .none))) s') (fun _ _ => False) { s with heap := h₁, toks := s.toks + binds.length })
    (hcell : ∀ x ∈ scope.names, x.2 ≠ .cell) (hco : scope.isCoroutine = false) (hgen : scope.isGenerator = false) (hk : scope.kind = .function) :
    codeAny (model prg w) A (.call (.ref f) args) R s := by
  have nm : ∀ b o, G0.get? b = some o → b ∉ mu.map (·.1) := fun b o e q => by
    obtain ⟨p, hp, rfl⟩ := List.mem_map.mp q
    rw [hm0 p hp] at e; cases e
  refine codeAny_call_def (fd := fnX name qual params body scope cl dV kV doc pm an cdv ct) (body := body) (binds := binds) hroom ho hd (hlim.keeps k) hcd rfl hbind hcell hloc (fun h₁ hns hk₁ => ?_) hco hgen hk
  refine wpAny_mono (h (hideAll s.heap (mu.map (·.1))) s.heap.objs.size h₁ (fun b o e => hideAll_get _ (k b o e) (nm b o e)) (fun b o e n => hideAll_get _ e n) (fun b o e => of_hideAll _ e) rfl
    ⟨hns, fun b o e => hk₁ b o (of_hideAll _ e), Nat.le_of_eq (hideAll_size _ _)⟩
    (fun p hp => ⟨hk₁ _ _ (hmu p hp), Nat.ne_of_lt (Heap.lt_size (hmu p hp)), hideAll_none _ (List.mem_map_of_mem hp)⟩)) (fun fl s' hl => hl) fun _ _ y => y.elim
theorem enterK {w : World} {A : Around} {s : Shared} {R : Result → Shared → Prop} {name qual : Str} {params : Arguments} {body : List Stmt} {scope : Scope} {cl : List (Str × Addr)} {dV kV doc pm cdv ct oc : Value} {an od : Option Addr} {osl : Array (Option Value)} {f : Addr} {args : Args}
    {binds : List (Str × Value)} {G0 : Heap} (mu : List (Addr × Obj)) (hmu : ∀ p ∈ mu, s.heap.get? p.1 = some p.2) (hm0 : ∀ p ∈ mu, G0.get? p.1 = none) (k : G0.StaysIn s.heap) (X : (hd.heap_39 w.params).In G0) (hlim : G0.NoLimit)
    (ho : (hd.heap_39 w.params).lookup f = some ⟨oc, od, .func (fnX name qual params body scope cl dV kV doc pm an cdv ct), osl⟩) (hcd : codeIn (hd.heap_39 w.params) cdv qual = true) (hroom : A.depth < recursionLimit)
    (hbind : BindsTo s (fnX name qual params body scope cl dV kV doc pm an cdv ct) args binds) (hloc : ∀ y ∈ binds, scope.names.lookup y.1 = some .local)
    (h : ∀ g L' h₁, G0.StaysIn g → Ext (mu.map (·.1)) s.heap g → (∀ b o, g.get? b = some o → s.heap.get? b = some o) → s.heap.objs.size = L' → Fr g L' h₁ (fun y => binds.reverse.lookup y) → News g L' h₁ mu →
      wpAny (model prg w) (A.deeper (envX qual scope L' f cdv cl)) (execs body (envX qual scope L' f cdv cl))
        (fun fl s' => R (.ok (.ret (match fl with | .ret v => v | _ => .none))) s') (fun _ _ => False) { s with heap := h₁, toks := s.toks + binds.length })
    (hcell : ∀ x ∈ scope.names, x.2 ≠ .cell) (hco : scope.isCoroutine = false) (hgen : scope.isGenerator = false) (hk : scope.kind = .function) :
    codeAny (model prg w) A (.call (.ref f) args) R s :=
  enterP mu hmu hm0 k hlim (k _ _ (X _ _ ho)) rfl (codeRec_of (X.keeps k) hcd) hroom hbind hloc h hcell hco hgen hk
section
variable {M : Model} {A : Around} {E : Value → Shared → Prop} {s₀ s : Shared} {m cm : Str → Option Value} {env : Env} {cs : List (Str × Addr)}
theorem stL2 {n : Str} {v : Value} {Q : Unit → Shared → Prop} (x : InCallC s₀ env.locals m cs cm s) (hk : env.scope.kind = .function) (hl : env.kindOf n = some .local)
    (h : ∀ s', InCallC s₀ env.locals (fun y => if y = n then some v else m y) cs cm s' → Q () s') : wpAny M A (storeName env n v) Q E s := by
  refine wpAny_storeName_local hl x.toInCall.ns (fun h' hn' hs' => h _ ⟨⟨?_, hn', fun b o e => ?_, x.toInCall.fresh⟩, fun k c hc => ?_, x.apart, x.above⟩) (by rw [hk]; rfl)
  · obtain ⟨h₁, tk, e⟩ := x.toInCall.same
    exact ⟨h', _, by rw [e]⟩
  · exact hs'.extBut b o (Nat.ne_of_lt (Nat.lt_of_lt_of_le (Heap.lt_size e) x.toInCall.fresh)) (x.toInCall.keep b o e)
  · exact (x.cell k c hc).sameBut hs' (Nat.ne_of_gt (x.above k c (mem_of_lookup hc)))
theorem stC2 {n : Str} {c : Addr} {v : Value} {Q : Unit → Shared → Prop} (x : InCallC s₀ env.locals m cs cm s) (hk : env.scope.kind = .function) (hl : env.kindOf n = some .cell)
    (hc : cs.lookup n = some c) (he : env.cells.lookup n = some c)
    (h : ∀ s', InCallC s₀ env.locals m cs (fun y => if y = n then some v else cm y) s' → Q () s') : wpAny M A (storeName env n v) Q E s := by
  have hLc := x.above n c (mem_of_lookup hc)
  refine wpAny_storeName_cell hk hl he (x.cell n c hc) fun h' hc' hs' => h _ ⟨⟨?_, x.toInCall.ns.sameBut hs' (Nat.ne_of_lt hLc), fun b o e => ?_, x.toInCall.fresh⟩, fun k c' hk' => ?_, x.apart, x.above⟩
  · obtain ⟨h₁, tk, e⟩ := x.toInCall.same
    exact ⟨h', _, by rw [e]⟩
  · exact hs'.extBut b o (Nat.ne_of_lt (Nat.lt_trans (Nat.lt_of_lt_of_le (Heap.lt_size e) x.toInCall.fresh) hLc)) (x.toInCall.keep b o e)
  · by_cases hkn : k = n
    · subst hkn
      rw [hc] at hk'; cases hk'
      simpa using hc'
    · rw [if_neg hkn]
      exact (x.cell k c' hk').sameBut hs' fun e => hkn (name_of_addr x.apart (mem_of_lookup hk') (e ▸ mem_of_lookup hc))
theorem bindP2 (f : Str × Value → PUnit → Sem (ForInStep PUnit)) (hf : ∀ n v u, f (n, v) u = (do storeName env n v; pure (.yield ⟨⟩))) (hk : env.scope.kind = .function) (hcs : ∀ n c, cs.lookup n = some c → env.cells.lookup n = some c) :
    ∀ (binds : List (Str × Value)) (m cm : Str → Option Value) (s : Shared) (Q : PUnit → Shared → Prop), InCallC s₀ env.locals m cs cm s →
      (∀ x ∈ binds, env.kindOf x.1 = some .local ∨ (env.kindOf x.1 = some .cell ∧ (cs.lookup x.1).isSome = true)) →
      (∀ s', InCallC s₀ env.locals (bindL env.kindOf binds m) cs (bindC env.kindOf binds cm) s' → Q ⟨⟩ s') → wpAny M A (forIn binds ⟨⟩ f) Q E s
  | [], m, cm, s, Q, x, _, h => by rw [List.forIn_nil]; exact wpAny_pure (h s x)
  | (n, v) :: r, m, cm, s, Q, x, hkind, h => by
    rw [List.forIn_cons, hf]
    have hr : ∀ y ∈ r, env.kindOf y.1 = some .local ∨ (env.kindOf y.1 = some .cell ∧ (cs.lookup y.1).isSome = true) := fun y hy => hkind y (List.mem_cons_of_mem _ hy)
    rcases hkind (n, v) List.mem_cons_self with hl | ⟨hl, hc⟩
    · refine wpAny_bind (wpAny_bind (stL2 x hk hl fun s' x' => wpAny_pure (bindP2 f hf hk hcs r _ _ s' Q x' hr fun s'' x'' => h s'' ?_)))
      unfold bindL bindC; rw [if_pos hl, if_pos hl]; exact x''
    · obtain ⟨c, hc⟩ := Option.isSome_iff_exists.mp hc
      have hnl : ¬ env.kindOf n = some .local := by rw [hl]; decide
      refine wpAny_bind (wpAny_bind (stC2 x hk hl hc (hcs _ _ hc) fun s' x' => wpAny_pure (bindP2 f hf hk hcs r _ _ s' Q x' hr fun s'' x'' => h s'' ?_)))
      unfold bindL bindC; rw [if_neg hnl, if_neg hnl]; exact x''
end
theorem cellsFrom_append : ∀ (names : List (Str × NameKind)) (n : Nat) (acc cl : List (Str × Addr)), cellsFrom n names (acc ++ cl) = cellsFrom n names acc ++ cl
  | [], _, _, _ => rfl
  | (x, kd) :: r, n, acc, cl => by
    unfold cellsFrom
    split
    · exact cellsFrom_append r (n + 1) ((x, n) :: acc) cl
    · exact cellsFrom_append r n acc cl
theorem lookup_append_some {cs cl : List (Str × Addr)} {n : Str} {c : Addr} (h : cs.lookup n = some c) : (cs ++ cl).lookup n = some c := by
  rw [List.lookup_append, h]; rfl
theorem newEnvCC {M : Model} {A : Around} {E : Value → Shared → Prop} {s : Shared} {scope : Scope} {globals : Addr} {cl : List (Str × Addr)} {binds : List (Str × Value)} {qual : Str} {func : Option Addr} {code : Value} {builtins : Addr} {Q : Env → Shared → Prop}
    (hk : scope.kind = .function)
    (hkind : ∀ x ∈ binds, scope.names.lookup x.1 = some .local ∨ (scope.names.lookup x.1 = some .cell ∧ ((cellsFrom (s.heap.objs.size + 1) scope.names []).lookup x.1).isSome = true))
    (hQ : ∀ env, env = newEnv scope s.heap.objs.size globals (cellsFrom (s.heap.objs.size + 1) scope.names cl) qual func code none builtins →
      ∀ s', InCallC s env.locals (bindL env.kindOf binds fun _ => none) (cellsFrom (s.heap.objs.size + 1) scope.names []) (bindC env.kindOf binds fun _ => none) s' → Q env s') :
    wpAny M A (newFunctionEnv scope globals cl binds qual func code none builtins) Q E s := by
  simp only [newFunctionEnv, Option.isSome_none, Bool.false_eq_true, if_false]
  refine wpAny_bind (wpAny_alloc ?_)
  refine wpAny_bind (wpAny_layCells _ (fun name kind cells => by cases hkc : kind == NameKind.cell <;> simp [hkc]) _ _ _ _ ?_)
  have ok := cellsFrom_ok scope.names (s.heap.push { cls := .type "frame", data := .dict #[] }) (s.heap.objs.size + 1) [] ⟨fun _ _ hm => (nomatch hm), List.Pairwise.nil⟩ (by rw [Heap.size_push]; exact Nat.le_refl _)
  rw [Heap.size_push] at ok
  rw [show ({ s with heap := s.heap.push { cls := .type "frame", data := .dict #[] } } : Shared).heap.objs.size = s.heap.objs.size + 1 from Heap.size_push ..]
  have ea : cellsFrom (s.heap.objs.size + 1) scope.names cl = cellsFrom (s.heap.objs.size + 1) scope.names [] ++ cl := cellsFrom_append scope.names _ [] cl
  refine wpAny_bind (bindP2 (s₀ := s) (env := newEnv scope s.heap.objs.size globals (cellsFrom (s.heap.objs.size + 1) scope.names cl) qual func code none builtins) (cs := cellsFrom (s.heap.objs.size + 1) scope.names [])
    _ (fun _ _ _ => rfl) hk (fun n c hc => ?_) binds (fun _ => none) (fun _ => none) _ _
    ⟨⟨⟨_, _, rfl⟩, (Heap.Ns.new s.heap (.type "frame")).keeps (pushCells_keeps _ _), fun b o e => pushCells_keeps _ _ b o (Heap.get?_push_of_some _ e), Nat.le_refl _⟩,
      fun n c hc => (ok.empty n c (mem_of_lookup hc)).1, ok.apart, fun n c hm => (ok.empty n c hm).2⟩
    hkind fun s' x => wpAny_pure (hQ _ rfl s' x))
  show (cellsFrom (s.heap.objs.size + 1) scope.names cl).lookup n = some c
  rw [ea]; exact lookup_append_some hc
/-- a call of a def with cells of its own and a closure -/
theorem enterC {w : World} {A : Around} {s : Shared} {R : Result → Shared → Prop} {name qual : Str} {params : Arguments} {body : List Stmt} {scope : Scope} {cl : List (Str × Addr)} {dV kV doc pm cdv ct : Value} {an : Option Addr} {fo : Obj} {f : Addr} {args : Args}
    {binds : List (Str × Value)} {G0 : Heap} (mu : List (Addr × Obj)) (hmu : ∀ p ∈ mu, s.heap.get? p.1 = some p.2) (hm0 : ∀ p ∈ mu, G0.get? p.1 = none) (k : G0.StaysIn s.heap) (hlim : G0.NoLimit)
    (ho : s.heap.get? f = some fo) (hd : fo.data = .func (fnX name qual params body scope cl dV kV doc pm an cdv ct)) (hcd : s.heap.CodeRec cdv qual) (hroom : A.depth < recursionLimit)
    (hbind : BindsTo s (fnX name qual params body scope cl dV kV doc pm an cdv ct) args binds) (hkind : (binds.all fun y => scope.names.lookup y.1 == some .local || scope.names.lookup y.1 == some .cell) = true)
    (hnd : ((cellsFrom 0 scope.names []).map (·.1)).Nodup)
    (h : ∀ g L' h₁ tk cells, G0.StaysIn g → Ext (mu.map (·.1)) s.heap g → (∀ b o, g.get? b = some o → s.heap.get? b = some o) → s.heap.objs.size = L' →
      Fr g L' h₁ (bindL (envX qual scope L' f cdv (cellsFrom (L' + 1) scope.names cl)).kindOf binds fun _ => none) → News g L' h₁ (cells ++ mu) →
      CellsAre (bindC (envX qual scope L' f cdv (cellsFrom (L' + 1) scope.names cl)).kindOf binds fun _ => none) (cellsFrom (L' + 1) scope.names []) cells →
      wpAny (model prg w) (A.deeper (envX qual scope L' f cdv (cellsFrom (L' + 1) scope.names cl))) (execs body (envX qual scope L' f cdv (cellsFrom (L' + 1) scope.names cl)))
        (fun fl s' => R (.ok (.ret (match fl with | .ret v => v | _ => .none))) s') (fun _ _ => False) { s with heap := h₁, toks := tk })
    (hco : scope.isCoroutine = false) (hgen : scope.isGenerator = false) (hk : scope.kind = .function) :
    codeAny (model prg w) A (.call (.ref f) args) R s := by
  have nm : ∀ b o, G0.get? b = some o → b ∉ mu.map (·.1) := fun b o e q => by
    obtain ⟨p, hp, rfl⟩ := List.mem_map.mp q
    rw [hm0 p hp] at e; cases e
  refine codeAny_call_function hroom ho hd hco hgen rfl hcd (hbind _ _ _ _ ?_)
  refine newEnvCC hk (kindsX hkind _) fun env' he s' x => ?_
  subst he
  refine ⟨(hlim.keeps k).keeps x.toInCall.keep, codeAny_func ?_⟩
  obtain ⟨h₁, tk, rfl, _⟩ := x.done
  have hk₁ := x.toInCall.keep
  obtain ⟨cells, NC, Y⟩ := Cl.news (h₀ := s.heap) (Nat.le_refl _) fun n c hm => ⟨x.cell n c (lookup_of_mem_nodup (cellsFrom_names scope.names 0 (s.heap.objs.size + 1) [] [] rfl ▸ hnd) hm), x.above n c hm⟩
  refine wpAny_mono (h (hideAll s.heap (mu.map (·.1))) s.heap.objs.size h₁ tk cells (fun b o e => hideAll_get _ (k b o e) (nm b o e)) (fun b o e n => hideAll_get _ e n) (fun b o e => of_hideAll _ e) rfl
    ⟨x.toInCall.ns, fun b o e => hk₁ b o (of_hideAll _ e), Nat.le_of_eq (hideAll_size _ _)⟩ (fun p hp => ?_) Y) (fun fl s' hl => hl) fun _ _ y => y.elim
  rcases List.mem_append.mp hp with hp | hp
  · refine ⟨(NC p hp).1, (NC p hp).2.1, ?_⟩
    cases q : (hideAll s.heap (mu.map (·.1))).get? p.1 with
    | none => rfl
    | some o => have := of_hideAll _ q; rw [(NC p hp).2.2] at this; cases this
  · exact ⟨hk₁ _ _ (hmu p hp), Nat.ne_of_lt (Heap.lt_size (hmu p hp)), hideAll_none _ (List.mem_map_of_mem hp)⟩
theorem enterKC {w : World} {A : Around} {s : Shared} {R : Result → Shared → Prop} {name qual : Str} {params : Arguments} {body : List Stmt} {scope : Scope} {cl : List (Str × Addr)} {dV kV doc pm cdv ct oc : Value} {an od : Option Addr} {osl : Array (Option Value)} {f : Addr} {args : Args}
    {binds : List (Str × Value)} {G0 : Heap} (mu : List (Addr × Obj)) (hmu : ∀ p ∈ mu, s.heap.get? p.1 = some p.2) (hm0 : ∀ p ∈ mu, G0.get? p.1 = none) (k : G0.StaysIn s.heap) (X : (hd.heap_39 w.params).In G0) (hlim : G0.NoLimit)
    (ho : (hd.heap_39 w.params).lookup f = some ⟨oc, od, .func (fnX name qual params body scope cl dV kV doc pm an cdv ct), osl⟩) (hcd : codeIn (hd.heap_39 w.params) cdv qual = true) (hroom : A.depth < recursionLimit)
    (hbind : BindsTo s (fnX name qual params body scope cl dV kV doc pm an cdv ct) args binds) (hkind : (binds.all fun y => scope.names.lookup y.1 == some .local || scope.names.lookup y.1 == some .cell) = true)
    (hnd : ((cellsFrom 0 scope.names []).map (·.1)).Nodup)
    (h : ∀ g L' h₁ tk cells, G0.StaysIn g → Ext (mu.map (·.1)) s.heap g → (∀ b o, g.get? b = some o → s.heap.get? b = some o) → s.heap.objs.size = L' →
      Fr g L' h₁ (bindL (envX qual scope L' f cdv (cellsFrom (L' + 1) scope.names cl)).kindOf binds fun _ => none) → News g L' h₁ (cells ++ mu) →
      CellsAre (bindC (envX qual scope L' f cdv (cellsFrom (L' + 1) scope.names cl)).kindOf binds fun _ => none) (cellsFrom (L' + 1) scope.names []) cells →
      wpAny (model prg w) (A.deeper (envX qual scope L' f cdv (cellsFrom (L' + 1) scope.names cl))) (execs body (envX qual scope L' f cdv (cellsFrom (L' + 1) scope.names cl)))
        (fun fl s' => R (.ok (.ret (match fl with | .ret v => v | _ => .none))) s') (fun _ _ => False) { s with heap := h₁, toks := tk })
    (hco : scope.isCoroutine = false) (hgen : scope.isGenerator = false) (hk : scope.kind = .function) :
    codeAny (model prg w) A (.call (.ref f) args) R s :=
  enterC mu hmu hm0 k hlim (k _ _ (X _ _ ho)) rfl (codeRec_of (X.keeps k) hcd) hroom hbind hkind hnd h hco hgen hk
theorem Fr.ext {h₀ g h : Heap} {L : Addr} {m : Str → Option Value} {mu : List Addr} (F : Fr g L h m) (e : Ext mu h₀ g) : Ext mu h₀ h := fun b o q n => F.keep b o (e b o q n)
/-- a tuple of strs stands at a -/
def IsNm (h : Heap) (a : Addr) (ks : List Str) : Prop := ∃ vs n, h.get? a = some { cls := .type "tuple", data := .seq vs n } ∧ StrsAre vs.toList ks
theorem IsNm.keeps {h h' : Heap} {a : Addr} {ks : List Str} (x : IsNm h a ks) (k : ∀ o, h.get? a = some o → h'.get? a = some o) : IsNm h' a ks :=
  let ⟨vs, n, e, r⟩ := x; ⟨vs, n, k _ e, r⟩
theorem IsNm.tup {h : Heap} {a : Addr} {ks : List Str} (x : IsNm h a ks) : ∃ its, IsTup h a its ∧ StrsAre its.toList ks :=
  let ⟨vs, n, e, r⟩ := x; ⟨vs, ⟨_, e, rfl, n, rfl⟩, r⟩
theorem fillme : (fun (_ : OpenLaw) (_ : Params → Frag) => True) PySem.Challenge.rw_bs0024_01 hd.heap_39 := by
  w_top off
  k_fill
  trivial
end Mine
end
section
open PySem PySem.W PySem.Calls PyProof.Rows
namespace Mine
local macro_rules | `(tactic| walk_at "no key") => `(tactic| skip)
set_option maxRecDepth 100000
set_option maxHeartbeats 2000000
set_option pp.deepTerms false
set_option pp.deepTerms.threshold 6
theorem fillme2 : (fun (_ : OpenLaw) (_ : Params → Frag) => True) PySem.Challenge.rw_bs0024_01 hd.heap_39 := by
  w_top off
  k_fill
  trivial
theorem toTuple_str {w : World} {A : Around} {s : Shared} {G0 : Heap} {loose mean mg mb} {Q E : Value → Shared → Prop} {x : Str} {t : Tok} (X : (hd.heap_39 w.params).In G0) (T : Top topProg loose mean mg mb G0) (k : G0.StaysIn s.heap)
    (hdp : A.depth + 20 < recursionLimit)
    (h : ∀ a h' tk, Ext [] s.heap h' → h'.get? a = some { cls := .type "tuple", data := .seq #[.str x t] } → Q (.ref a) { s with heap := h', toks := tk }) :
    wpAny (model prg w) A (call (.ref 64) [.str x t]) Q E s := by
  refine wpAny_call ?_
  refine' enterK [] (fun _ h => nomatch h) (fun _ h => nomatch h) k X T.nolimit ?ho ?hcd ?hroom ?hb ?hl ?_ ?hcell ?c1 ?c2 ?c3
  (case ho => k_is)
  (case hcd => k_is)
  (case hroom => omega)
  (case hb => exact BindsTo.of_eq rfl)
  (case hl => exact locs rfl)
  (case hcell => decide)
  (case c1 => exact rfl)
  (case c2 => exact rfl)
  (case c3 => exact rfl)
  intro g L' h₁ kg eg og hL F N
  have X' := X.keeps kg
  have T' := T.keeps kg
  dsimp only
  k_steps
  rename News _ _ _ _ => N9
  rename Fr _ _ _ _ => F9
  exact h _ _ _ (Fr.ext F9 eg) (N9.get (by k_mem))
theorem isi_tup {w : World} {A : Around} {E : Value → Shared → Prop} {s : Shared} {h₀ : Heap} {L a : Addr} {m : Str → Option Value} {items : Array Value} {Q : Value → Shared → Prop} (F : Fr h₀ L s.heap m) (tp : IsTup h₀ a items) (h : Q (.bool true) s) :
    wpAny (model prg w) A (call (.builtin "isinstance") [.ref a, .type "tuple"]) Q E s :=
  let ⟨_, ho, hc, _⟩ := tp; call_isinstance (isinstance_true (Tx := "tuple") PySem.F.isi_meta_tuple PySem.F.sub_tuple_tuple) ⟨⟨_, F.keep _ _ ho, hc⟩, h⟩
local macro_rules | `(tactic| walk_at "call builtin:isinstance") => `(tactic| (k_here; (with_reducible show wpAny _ _ (call _ [Value.ref _, Value.type _]) _ _ _); refine' isi_tup ?F ?t ?_; (case F => k_asm); (case t => assumption); k_whole))
theorem toTuple_tup {w : World} {A : Around} {s : Shared} {G0 : Heap} {loose mean mg mb} {Q E : Value → Shared → Prop} {a : Addr} {items : Array Value} (X : (hd.heap_39 w.params).In G0) (T : Top topProg loose mean mg mb G0) (k : G0.StaysIn s.heap)
    (hdp : A.depth + 20 < recursionLimit) (ht : IsTup s.heap a items)
    (h : ∀ h' tk, Ext [] s.heap h' → Q (.ref a) { s with heap := h', toks := tk }) :
    wpAny (model prg w) A (call (.ref 64) [.ref a]) Q E s := by
  refine wpAny_call ?_
  refine' enterK [] (fun _ h => nomatch h) (fun _ h => nomatch h) k X T.nolimit ?ho ?hcd ?hroom ?hb ?hl ?_ ?hcell ?c1 ?c2 ?c3
  (case ho => k_is)
  (case hcd => k_is)
  (case hroom => omega)
  (case hb => exact BindsTo.of_eq rfl)
  (case hl => exact locs rfl)
  (case hcell => decide)
  (case c1 => exact rfl)
  (case c2 => exact rfl)
  (case c3 => exact rfl)
  intro g L' h₁ kg eg og hL F N
  have X' := X.keeps kg
  have T' := T.keeps kg
  dsimp only
  have tp : IsTup g a items := let ⟨o, ho, r⟩ := ht; ⟨o, eg _ _ ho (fun h => nomatch h), r⟩
  clear ht
  k_steps
  rename Fr _ _ _ _ => F9
  exact h _ _ (Fr.ext F9 eg)
end Mine
end
section
open PySem PySem.W PySem.Calls PyProof.Rows
namespace Mine
set_option maxRecDepth 100000
set_option maxHeartbeats 4000000
set_option pp.deepTerms false
set_option pp.deepTerms.threshold 6
theorem fillme3 : (fun (_ : OpenLaw) (_ : Params → Frag) => True) PySem.Challenge.rw_bs0024_01 hd.heap_39 := by
  w_top off
  k_fill
  trivial
/-- the letter at place k of a drawn name -/
def ltrIx (d k : Int) : Int := (Int.fmod (Int.fdiv (Int.fdiv d 3) (2 ^ k.toNat)) 2) + (if Int.fmod d 5 = 4 then 1 else 0)
def ltr (d k : Int) : Str := Txt.item (PySem.Str.ofString "abc") (ltrIx d k)
def nameOf (d : Int) : List Str := (rangeKs 0 (1 + d.fmod 3 - 0).toNat).map (ltr d)
theorem lawName {w : World} {A : Around} {s : Shared} {G0 : Heap} {loose mean mg mb} {Q E : Value → Shared → Prop} {d : Int} {t : Tok} (X : (hd.heap_39 w.params).In G0) (T : Top topProg loose mean mg mb G0) (k : G0.StaysIn s.heap)
    (hh : A.handled = none) (hdp : A.depth + 20 < recursionLimit) (hu : A.units + 100 < cLine) (h0 : 0 ≤ d) (h1 : d < 1000000)
    (h : ∀ a h' tk, Ext [] s.heap h' → IsNm h' a (nameOf d) → Q (.ref a) { s with heap := h', toks := tk }) :
    wpAny (model prg w) A (call (.ref 69) [.int d t]) Q E s := by
  refine wpAny_call ?_
  refine' enterKC [] (fun _ h => nomatch h) (fun _ h => nomatch h) k X T.nolimit ?ho ?hcd ?hroom ?hb ?hl ?hn ?_ ?c1 ?c2 ?c3
  (case ho => k_is)
  (case hcd => k_is)
  (case hroom => omega)
  (case hb => exact BindsTo.of_eq rfl)
  (case hl => exact rfl)
  (case hn => decide)
  (case c1 => exact rfl)
  (case c2 => exact rfl)
  (case c3 => exact rfl)
  intro g L' h₁ tk₁ cells kg eg og hL F N Y
  have X' := X.keeps kg
  have T' := T.keeps kg
  obtain ⟨o, rfl, ho⟩ := CellsAre.one Y
  replace ho : o.data = .cell (some (.int d t)) := ho
  clear Y
  simp only [List.cons_append, List.nil_append] at N
  dsimp only
  k_steps
  refine LCg.CompSrc.range hh (by k_asm) (by k_asm) (by assumption) (small_one ?_ ?_ ?_ ?_) (rangeSize_nat _ _) ?_ ?_
  · decide
  · decide
  · have := Int.fmod_nonneg_of_pos d (by decide : (0:Int) < 3); omega
  · have := Int.fmod_lt_of_pos d (by decide : (0:Int) < 3); omega
  · have := Int.fmod_lt_of_pos d (by decide : (0:Int) < 3); rw [PySem.sizeLine_eq]; omega
  intro g'
  refine kct_range (ltr d) ?turn ?fin
  case turn =>
    intro k' t' I' oI' C' oC' D' m' ys' h' tk' E' hlo' hhi' hC' hx' F' N' off' ne' hm'
    (try (simp only [LCg.Off3, and_true] at off'))
    clear hm'
    k_steps
    all_goals refine kct_el ?_ rfl rfl
    all_goals (unfold ltr ltrIx; congr 1; simp_all)
  case fin =>
    unfold KPfDone
    intro ys hys hlen
    unfold LCg.FinE
    intro D h2 tk2 F2 N2 off2
    dsimp only
    have hy := CarriedAll.strsOf hys
    have hlen2 : ys.length ≤ 16384 := by
      have e := hys.length_eq
      rw [List.length_map, hlen] at e
      have := Int.fmod_lt_of_pos d (by decide : (0:Int) < 3)
      omega
    k_steps
    rename Fr _ _ _ _ => F9
    rename News _ _ _ _ => N9
    exact h _ _ _ (Fr.ext F9 eg) ⟨_, _, N9.get (by k_mem), hy⟩
end Mine
end
section
open PySem PySem.W PySem.Calls PyProof.Rows
namespace Mine
set_option maxRecDepth 100000
set_option maxHeartbeats 2000000
def fdBody : Stmt → List Stmt | .FunctionDef _ _ b .. => b | _ => []
def fdParams : Stmt → Arguments | .FunctionDef _ a .. => a | _ => default
def fdScope : Stmt → Scope | .FunctionDef _ _ _ _ _ _ sc _ _ _ => sc | _ => default
def lawStmt : Stmt := prg.main.body.getD 6 default
def listenerStmt : Stmt := (fdBody lawStmt).getD 3 default
def addedStmt : Stmt := (fdBody lawStmt).getD 4 default
def hearsStmt : Stmt := (fdBody listenerStmt).getD 0 default
def hearsBody : List Stmt := fdBody hearsStmt
def hearsScope : Scope := fdScope hearsStmt
def hearsParams : Arguments := fdParams hearsStmt
def hearsQual : Str := PySem.Str.ofString "law.<locals>.listener.<locals>.hears"
theorem cls_ne {h : Heap} {a b : Addr} {o o' : Obj} (e : h.get? a = some o) (e' : h.get? b = some o') (n : o.cls ≠ o'.cls) : a ≠ b := fun q => by
  subst q; rw [e] at e'; cases e'; exact n rfl
theorem tup_ne_list : (Value.type "tuple") ≠ (Value.type "list") := by decide
theorem IsNm.ne_list {h : Heap} {a b : Addr} {ks : List Str} {its : Array Value} {n : Nat} (x : IsNm h a ks) (e : h.get? b = some (W.listOf its n)) : a ≠ b :=
  let ⟨_, _, e', _⟩ := x; cls_ne e' e tup_ne_list
/-- one listener, as the law tells it -/
structure Lis where
  num : Int
  own : List Str
  sieve : Int
  ans : Option (List Str)
/-- the addresses that stay through a call of law -/
structure Adr where
  bus : Addr
  bd : Addr
  D : Addr
  log : Addr
  cL : Addr
  cB : Addr
abbrev tupObj (vs : Array Value) (n : Nat) : Obj := { cls := .type "tuple", data := .seq vs n }
abbrev funObj (fd : FuncData) : Obj := { cls := .type "function", data := .func fd }
def AnsAt (h : Heap) (v : Value) : Option (List Str) → Prop
  | none => v = .none
  | some ks => ∃ x, v = .ref x ∧ IsNm h x ks
def HearsAt (h : Heap) (f : Addr) (num : Int) (ans : Option (List Str)) (cL cB : Addr) : Prop :=
  ∃ cn ca doc pm cdv ct t v, h.get? f = some (funObj (fnX "hears" hearsQual hearsParams hearsBody hearsScope [("number", cn), ("log", cL), ("bus", cB), ("answer", ca)] .none .none doc pm none cdv ct)) ∧
    h.CodeRec cdv hearsQual ∧ h.IsCell cn (some (.int num t)) ∧ h.IsCell ca (some v) ∧ AnsAt h v ans
theorem codeRec_keeps {h h' : Heap} {c : Value} {q : Str} (x : h.CodeRec c q) (k : ∀ b o, h.get? b = some o → h'.get? b = some o) : h'.CodeRec c q :=
  let ⟨a, o, vs, t, e, ho, r⟩ := x; ⟨a, o, vs, t, e, k _ _ ho, r⟩
theorem AnsAt.keeps {h h' : Heap} {v : Value} {ans : Option (List Str)} (x : AnsAt h v ans) (k : ∀ b o, h.get? b = some o → h'.get? b = some o) : AnsAt h' v ans := by
  cases ans with
  | none => exact x
  | some ks => obtain ⟨y, e, z⟩ := x; exact ⟨y, e, z.keeps (k _)⟩
theorem HearsAt.keeps {h h' : Heap} {f : Addr} {num : Int} {ans : Option (List Str)} {cL cB : Addr} (x : HearsAt h f num ans cL cB) (k : ∀ b o, h.get? b = some o → h'.get? b = some o) : HearsAt h' f num ans cL cB := by
  obtain ⟨cn, ca, doc, pm, cdv, ct, t, v, h1, h2, h3, h4, h5⟩ := x
  exact ⟨cn, ca, doc, pm, cdv, ct, t, v, k _ _ h1, codeRec_keeps h2 k, h3.keeps k, h4.keeps k, h5.keeps k⟩
theorem nameFree_G {M : Model} {A : Around} {E : Value → Shared → Prop} {s : Shared} {h₀ : Heap} {L a : Addr} {m : Str → Option Value} {cn : Str} {cs : Scope} {ccd : Value} {cl : List (Str × Addr)} {x : Str} {pos : Pos} {v : Value} {Q : Value → Shared → Prop} {c : Addr}
    (F : Fr h₀ L s.heap m) (hc : cl.lookup x = some c) (hv : h₀.IsCell c (some v)) (h : Q v s)
    (hk : cs.kind = .function) (hx : (envX cn cs L a ccd cl).kindOf x = some .free) (hb : (x == ("__debug__" : Str)) = false) (hn : (x == ("__classdict__" : Str)) = false) :
    wpAny M A (eval (.Name x pos) (envX cn cs L a ccd cl)) Q E s := wpAny_Name (wpAny_loadName_free hk hx hc (hv.keeps F.keep) h hn) hb
theorem nameCell_G {M : Model} {A : Around} {E : Value → Shared → Prop} {s : Shared} {h₀ : Heap} {L a : Addr} {m : Str → Option Value} {cn : Str} {cs : Scope} {ccd : Value} {cl : List (Str × Addr)} {x : Str} {pos : Pos} {v : Value} {Q : Value → Shared → Prop} {c : Addr}
    (F : Fr h₀ L s.heap m) (hc : cl.lookup x = some c) (hv : h₀.IsCell c (some v)) (h : Q v s)
    (hk : cs.kind = .function) (hx : (envX cn cs L a ccd cl).kindOf x = some .cell) (hb : (x == ("__debug__" : Str)) = false) :
    wpAny M A (eval (.Name x pos) (envX cn cs L a ccd cl)) Q E s := wpAny_Name (wpAny_loadName_cell hk hx hc (hv.keeps F.keep) h) hb
theorem fr_ext {g h h' : Heap} {L : Addr} {m : Str → Option Value} {mu : List Addr} (F : Fr g L h m) (x : Ext mu h h') (hL : L ∉ mu) (hg : ∀ a ∈ mu, g.get? a = none) : Fr g L h' m := by
  obtain ⟨o, es, ep, ho, r⟩ := F.ns
  refine ⟨⟨o, es, ep, x _ _ ho hL, r⟩, fun b o e => x _ _ (F.keep b o e) fun q => ?_, F.above⟩
  rw [hg b q] at e; cases e
theorem news_ext {g h h' : Heap} {L : Addr} {mu : List Addr} {news : List (Addr × Obj)} (N : News g L h news) (x : Ext mu h h') (hn : ∀ p ∈ news, p.1 ∉ mu) : News g L h' news :=
  fun p hp => ⟨x _ _ (N p hp).1 (hn p hp), (N p hp).2⟩
theorem news_cons {g h : Heap} {L : Addr} {a : Addr} {o : Obj} {news : List (Addr × Obj)} (e : h.get? a = some o) (hL : a ≠ L) (hg : g.get? a = none) (N : News g L h news) : News g L h ((a, o) :: news) := fun p hp => by
  rcases List.mem_cons.mp hp with rfl | hp
  · exact ⟨e, hL, hg⟩
  · exact N p hp
theorem Ext.shrink {a : Addr} {mu : List Addr} {h h' : Heap} (x : Ext (a :: mu) h h') (k : ∀ o, h.get? a = some o → h'.get? a = some o) : Ext mu h h' := fun b o e n => by
  by_cases q : b = a
  · subst q; exact k o e
  · exact x b o e (by simp [q, n])
theorem Ext.swap {a b : Addr} {mu : List Addr} {h h' : Heap} (x : Ext (a :: b :: mu) h h') : Ext (b :: a :: mu) h h' := x.weaken fun c hc => by
  simp only [List.mem_cons] at hc ⊢
  rcases hc with h | h | h
  · exact .inr (.inl h)
  · exact .inl h
  · exact .inr (.inr h)
inductive All2 {α β : Type} (R : α → β → Prop) : List α → List β → Prop
  | nil : All2 R [] []
  | cons {a : α} {b : β} {as : List α} {bs : List β} : R a b → All2 R as bs → All2 R (a :: as) (b :: bs)
namespace All2
variable {α β : Type} {R R' : α → β → Prop}
theorem length_eq : ∀ {as : List α} {bs : List β}, All2 R as bs → as.length = bs.length
  | _, _, .nil => rfl
  | _, _, .cons _ r => by simp [r.length_eq]
theorem mono (k : ∀ a b, R a b → R' a b) : ∀ {as : List α} {bs : List β}, All2 R as bs → All2 R' as bs
  | _, _, .nil => .nil
  | _, _, .cons h r => .cons (k _ _ h) (r.mono k)
theorem append : ∀ {as as' : List α} {bs bs' : List β}, All2 R as bs → All2 R as' bs' → All2 R (as ++ as') (bs ++ bs')
  | _, _, _, _, .nil, y => y
  | _, _, _, _, .cons h r, y => .cons h (r.append y)
theorem get : ∀ {as : List α} {bs : List β} {i : Nat} {a : α}, All2 R as bs → as[i]? = some a → ∃ b, bs[i]? = some b ∧ R a b
  | _, _, 0, _, .cons h _, e => by cases e; exact ⟨_, rfl, h⟩
  | _, _, i + 1, _, .cons _ r, e => by simpa using r.get (by simpa using e)
end All2
abbrev Ent := Int × List Str × Int
def EntAt (h : Heap) (v : Value) (e : Ent) : Prop := ∃ x nm t1 t2 n, v = .ref x ∧ h.get? x = some (tupObj #[.int e.1 t1, .ref nm, .int e.2.2 t2] n) ∧ IsNm h nm e.2.1
abbrev EntsAt (h : Heap) (vs : List Value) (es : List Ent) : Prop := All2 (EntAt h) vs es
def answers (rc : List Str → Int → List Ent) (l : Lis) (data : Int) : List Ent := match l.ans with
  | some a => if data < 2 then rc a (data + 1) else []
  | none => []
def lets (l : Lis) (data : Int) : Bool := l.sieve == 2 || data.fmod 2 == l.sieve
def one (rc : List Str → Int → List Ent) (name : List Str) (data : Int) (l : Lis) : List Ent := if lets l data = true then (l.num, name, data) :: answers rc l data else []
def hits (ls : List Lis) (name : List Str) : List Lis := ls.filter fun l => name.isPrefixOf l.own
def heard (ls : List Lis) : Nat → List Str → Int → List Ent
  | 0 => fun _ _ => []
  | r + 1 => fun name data => (hits ls name).flatMap (one (heard ls r) name data)
def cap (n : Nat) : Nat → Nat
  | 0 => 0
  | r + 1 => n * (1 + cap n r)
theorem answers_cap {rc : List Str → Int → List Ent} {c : Nat} (h : ∀ nm d, (rc nm d).length ≤ c) (l : Lis) (data : Int) : (answers rc l data).length ≤ c := by
  unfold answers
  split
  · split
    · exact h _ _
    · exact Nat.zero_le _
  · exact Nat.zero_le _
theorem one_cap {rc : List Str → Int → List Ent} {c : Nat} (h : ∀ nm d, (rc nm d).length ≤ c) (name : List Str) (data : Int) (l : Lis) : (one rc name data l).length ≤ 1 + c := by
  unfold one
  split
  · have := answers_cap h l data
    simp only [List.length_cons]; omega
  · exact Nat.zero_le _
theorem flatMap_cap {α β : Type} {f : α → List β} {c : Nat} (h : ∀ x, (f x).length ≤ c) : ∀ l : List α, (l.flatMap f).length ≤ l.length * c
  | [] => by simp
  | x :: l => by
    rw [List.flatMap_cons, List.length_append, List.length_cons, Nat.add_mul, Nat.one_mul]
    have := h x
    have := flatMap_cap h l
    omega
theorem hits_len (ls : List Lis) (name : List Str) : (hits ls name).length ≤ ls.length := List.length_filter_le _ _
theorem heard_cap (ls : List Lis) : ∀ (r : Nat) (name : List Str) (data : Int), (heard ls r name data).length ≤ cap ls.length r
  | 0, _, _ => Nat.le_refl _
  | r + 1, name, data => by
    show ((hits ls name).flatMap (one (heard ls r) name data)).length ≤ ls.length * (1 + cap ls.length r)
    exact Nat.le_trans (flatMap_cap (one_cap (heard_cap ls r) name data) _) (Nat.mul_le_mul_right _ (hits_len ls name))
def IdAt (h : Heap) (id : Value) (name : List Str) : Prop := (∃ x, id = .ref x ∧ IsNm h x name) ∨ ∃ x t, id = .str x t ∧ name = [x]
/-- a filter: none lets all by; a lambda of added's -/
def lamExpr : Expr := match (match (fdBody addedStmt).getD 3 default with | .If _ _ o _ => o.getD 0 default | s => s) with
  | .Expr (.Call _ as _ _) _ => as.getD 2 default
  | _ => default
def lamParams : Arguments := match lamExpr with | .Lambda a _ _ _ => a | _ => default
def lamBody : Expr := match lamExpr with | .Lambda _ b _ _ => b | _ => default
def lamScope : Scope := match lamExpr with | .Lambda _ _ sc _ => sc | _ => default
def lamQual : Str := PySem.Str.ofString "law.<locals>.added.<locals>.<lambda>"
abbrev lamFd (cS : Addr) (doc pm cdv ct : Value) : FuncData :=
  { name := PySem.Str.ofString "<lambda>", qualname := lamQual, params := lamParams, body := .expr lamBody, scope := lamScope, globals := mainGlobals, closure := [("sieve", cS)], defaults := .none, kwdefaults := .none, doc := doc, pyModule := pm, annotations := none, code := cdv, closureTuple := ct, builtins := builtinsNs }
def FltAt (h : Heap) (q : Addr) (sv : Int) : Prop := ∃ cS doc pm cdv ct t, h.get? q = some (funObj (lamFd cS doc pm cdv ct)) ∧ h.CodeRec cdv lamQual ∧ h.IsCell cS (some (.int sv t))
theorem FltAt.keeps {h h' : Heap} {q : Addr} {sv : Int} (x : FltAt h q sv) (k : ∀ b o, h.get? b = some o → h'.get? b = some o) : FltAt h' q sv := by
  obtain ⟨cS, doc, pm, cdv, ct, t, h1, h2, h3⟩ := x
  exact ⟨cS, doc, pm, cdv, ct, t, k _ _ h1, codeRec_keeps h2 k, h3.keeps k⟩
def FvAt (h : Heap) (fv : Value) (sv : Int) : Prop := (fv = .none ∧ sv = 2) ∨ ∃ q, fv = .ref q ∧ FltAt h q sv
/-- a registered pair: the hearer and its filter -/
def PairAt (h : Heap) (cL cB : Addr) (v : Value) (l : Lis) : Prop := ∃ p f fv n, v = .ref p ∧ h.get? p = some (tupObj #[.ref f, fv] n) ∧ HearsAt h f l.num l.ans cL cB ∧ FvAt h fv l.sieve
theorem PairAt.keeps {h h' : Heap} {cL cB : Addr} {v : Value} {l : Lis} (x : PairAt h cL cB v l) (k : ∀ b o, h.get? b = some o → h'.get? b = some o) : PairAt h' cL cB v l := by
  obtain ⟨p, f, fv, n, h1, h2, h3, h4⟩ := x
  refine ⟨p, f, fv, n, h1, k _ _ h2, h3.keeps k, ?_⟩
  rcases h4 with h | ⟨q, e, z⟩
  · exact .inl h
  · exact .inr ⟨q, e, z.keeps k⟩
abbrev tKind (w : World) := tupleKind (PySem.strKind prg w)
abbrev lisEntry (hsh : Int) (tl : Tok) (D : Addr) : List DictEntry := [⟨hsh, .str "_listeners" tl, .ref D⟩]
structure BusObj (w : World) (a : Adr) (hsh : Int) (tl : Tok) (nb : Nat) (h : Heap) : Prop where
  inst : h.get? a.bus = some (instObj 53 a.bd)
  dict : h.get? a.bd = some (dictOf (lisEntry hsh tl a.D) nb)
  cl : h.IsCell a.cL (some (.ref a.log))
  cb : h.IsCell a.cB (some (.ref a.bus))
/-- the table of listeners -/
structure TabAt (w : World) (a : Adr) (I : Heap) (xs : List (List Str × Addr × Value)) (ls : List Lis) (h : Heap) : Prop where
  dict : h.DictOfH (tKind w) a.D xs
  lists : ∀ x ∈ xs, ∃ l its n, x.2.2 = .ref l ∧ h.get? l = some (W.listOf its n) ∧ All2 (PairAt I a.cL a.cB) its.toList (hits ls x.1) ∧ l ≠ a.log
  miss : ∀ k, k ≠ [] → (∀ x ∈ xs, x.1 ≠ k) → hits ls k = []
  apart : a.D ≠ a.bd
  dne : (a.D == sysModules) = false
structure Fresh (G0 : Heap) (a : Adr) : Prop where
  bus : G0.get? a.bus = none
  bd : G0.get? a.bd = none
  log : G0.get? a.log = none
def EmitSpec (w : World) (G0 : Heap) (a : Adr) (r : Nat) : Prop :=
  ∀ (I H : Heap) (hsh : Int) (tl : Tok) (nb : Nat) (xs : List (List Str × Addr × Value)) (ls : List Lis) (A : Around) (s : Shared) (Q E : Value → Shared → Prop) (id : Value) (name : List Str) (data : Int) (t : Tok) (vs : List Value) (n : Nat),
    G0.StaysIn H → H.StaysIn s.heap → I.StaysIn H → I.get? a.bus = none → I.get? a.bd = none → BusObj w a hsh tl nb H → TabAt w a I xs ls H → (∀ l ∈ ls, l.ans ≠ some []) → H.get? a.log = none → s.heap.get? a.log = some (W.listOf vs.toArray n) → IdAt s.heap id name → name ≠ [] → data + r = 3 → A.handled = none →
    A.depth + 40 * r + 40 < recursionLimit → A.units + 100 * r + 100 < cLine → vs.length + cap ls.length r ≤ 1000000 →
    (∀ h' tk vs' n', Ext [a.log] s.heap h' → h'.get? a.log = some (W.listOf (vs ++ vs').toArray n') → EntsAt h' vs' (heard ls r name data) → Q .none { s with heap := h', toks := tk }) →
    wpAny (model prg w) A (call (.ref 35) [.ref a.bus, id, .int data t]) Q E s
end Mine
end
section
open PySem PySem.W PySem.Calls PyProof.Rows
namespace Mine
set_option maxRecDepth 100000
set_option maxHeartbeats 4000000
set_option pp.deepTerms false
set_option pp.deepTerms.threshold 6
theorem fillme4 : (fun (_ : OpenLaw) (_ : Params → Frag) => True) PySem.Challenge.rw_bs0024_01 hd.heap_39 := by
  w_top off
  k_fill
  trivial
local macro_rules | `(tactic| walk_at "eval Name") => `(tactic| (k_here; k_dflt (refine' nameFree_G ?F ?c ?v ?_ ?k ?a ?b ?n; (case k => rfl); (case a => rfl); (case b => rfl); (case n => rfl); (case F => k_asm); (case c => rfl); (case v => assumption); k_whole)))
theorem hears_none {w : World} {G0 : Heap} {a : Adr} {r : Nat} {loose mean mg mb} (X : (hd.heap_39 w.params).In G0) (T : Top topProg loose mean mg mb G0) (Z : Fresh G0 a)
    {H : Heap} {hsh : Int} {tl : Tok} {nb : Nat} {A : Around} {s : Shared} {Q E : Value → Shared → Prop} {f nm : Addr} {num : Int} {name : List Str} {data : Int} {t : Tok} {vs : List Value} {n : Nat}
    (kG : G0.StaysIn H) (kH : H.StaysIn s.heap) (BO : BusObj w a hsh tl nb H) (hl0 : H.get? a.log = none) (hlog : s.heap.get? a.log = some (W.listOf vs.toArray n)) (hf : HearsAt H f num none a.cL a.cB) (hnm : IsNm s.heap nm name)
    (hdp : A.depth + 40 * r + 50 < recursionLimit) (hsz : vs.length ≤ 1000000)
    (h : ∀ h' tk v n', Ext [a.log] s.heap h' → h'.get? a.log = some (W.listOf (vs ++ [v]).toArray n') → EntAt h' v (num, name, data) → Q .none { s with heap := h', toks := tk }) :
    wpAny (model prg w) A (call (.ref f) [.ref nm, .int data t]) Q E s := by
  obtain ⟨cn, ca, doc, pm, cdv, ct, t', v, h1, h2, h3, h4, h5⟩ := hf
  replace h5 : v = .none := h5
  subst h5
  refine wpAny_call ?_
  have hlne : ∀ {b : Addr} {o : Obj}, H.get? b = some o → b ≠ a.log := fun e q => by rw [q, hl0] at e; cases e
  refine' enterP (G0 := G0) [(a.log, W.listOf vs.toArray n)] ?hmu ?hm0 (fun b o e => kH _ _ (kG _ _ e)) T.nolimit (kH _ _ h1) rfl (codeRec_keeps h2 kH) ?hroom ?hb ?hl ?_ ?hcell ?c1 ?c2 ?c3
  (case hmu => intro p hp; rcases List.mem_singleton.mp hp with rfl; exact hlog)
  (case hm0 => intro p hp; rcases List.mem_singleton.mp hp with rfl; exact Z.log)
  (case hroom => omega)
  (case hb => exact BindsTo.of_eq rfl)
  (case hl => exact locs rfl)
  (case hcell => decide)
  (case c1 => exact rfl)
  (case c2 => exact rfl)
  (case c3 => exact rfl)
  intro g L' h₁ kg eg og hL F N
  have X' := X.keeps kg
  have T' := T.keeps kg
  have gk : ∀ {b : Addr} {o : Obj}, H.get? b = some o → g.get? b = some o := fun e => eg _ _ (kH _ _ e) (by simpa using hlne e)
  have g3 : g.IsCell cn (some (.int num t')) := h3.keeps fun _ _ => gk
  have g4 : g.IsCell ca (some .none) := h4.keeps fun _ _ => gk
  have g5 : g.IsCell a.cL (some (.ref a.log)) := BO.cl.keeps fun _ _ => gk
  conv in (occs := *) hearsBody => all_goals whnf
  conv in (occs := *) hearsScope => all_goals whnf
  conv in (occs := *) hearsParams => all_goals whnf
  dsimp only
  k_steps
  rename News _ _ _ _ => N9
  rename Fr _ _ _ _ => F9
  have ea : ∀ v : Value, W.listOf (vs.toArray.push v) (n + 1) = W.listOf (vs ++ [v]).toArray (n + 1) := fun v => by simp
  have eg' : Ext [a.log] s.heap g := eg
  refine h _ _ _ (n + 1) (Fr.ext F9 eg') ((N9.get (by k_mem)).trans (congrArg some (ea _))) ⟨_, nm, _, _, _, rfl, N9.get (by k_mem), hnm.keeps fun o e => ?_⟩
  exact Fr.ext F9 eg' _ _ e (by simpa using hnm.ne_list hlog)
theorem hears_some {w : World} {G0 : Heap} {a : Adr} {r : Nat} {loose mean mg mb} {data : Int} (X : (hd.heap_39 w.params).In G0) (T : Top topProg loose mean mg mb G0) (Z : Fresh G0 a) (S : data < 2 → EmitSpec w G0 a r)
    {I H : Heap} {hsh : Int} {tl : Tok} {nb : Nat} {xs : List (List Str × Addr × Value)} {ls : List Lis} {A : Around} {s : Shared} {Q E : Value → Shared → Prop} {f nm : Addr} {num : Int} {ks name : List Str} {t : Tok} {vs : List Value} {n : Nat}
    (kG : G0.StaysIn H) (kH : H.StaysIn s.heap) (BO : BusObj w a hsh tl nb H) (kI : I.StaysIn H) (zb : I.get? a.bus = none) (zd : I.get? a.bd = none) (TA : TabAt w a I xs ls H) (la : ∀ l ∈ ls, l.ans ≠ some []) (hl0 : H.get? a.log = none) (hlog : s.heap.get? a.log = some (W.listOf vs.toArray n)) (hf : HearsAt H f num (some ks) a.cL a.cB) (hnm : IsNm s.heap nm name)
    (hks : ks ≠ []) (hd2 : data ≤ 2) (hdr : data + r = 2) (hh : A.handled = none) (hdp : A.depth + 40 * r + 60 < recursionLimit) (hu : A.units + 100 * r + 150 < cLine) (hsz : vs.length + 1 + cap ls.length r ≤ 1000000)
    (h : ∀ h' tk vs' n', Ext [a.log] s.heap h' → h'.get? a.log = some (W.listOf (vs ++ vs').toArray n') → EntsAt h' vs' ((num, name, data) :: (if data < 2 then heard ls r ks (data + 1) else [])) → Q .none { s with heap := h', toks := tk }) :
    wpAny (model prg w) A (call (.ref f) [.ref nm, .int data t]) Q E s := by
  obtain ⟨cn, ca, doc, pm, cdv, ct, t', v, h1, h2, h3, h4, h5⟩ := hf
  obtain ⟨x, rfl, hx⟩ := h5
  refine wpAny_call ?_
  have hlne : ∀ {b : Addr} {o : Obj}, H.get? b = some o → b ≠ a.log := fun e q => by rw [q, hl0] at e; cases e
  refine' enterP (G0 := G0) [(a.log, W.listOf vs.toArray n), (a.bus, instObj 53 a.bd), (a.bd, dictOf (lisEntry hsh tl a.D) nb)] ?hmu ?hm0 (fun b o e => kH _ _ (kG _ _ e)) T.nolimit (kH _ _ h1) rfl (codeRec_keeps h2 kH) ?hroom ?hb ?hl ?_ ?hcell ?c1 ?c2 ?c3
  (case hmu =>
    intro p hp
    simp only [List.mem_cons, List.not_mem_nil, or_false] at hp
    rcases hp with rfl | rfl | rfl
    · exact hlog
    · exact kH _ _ BO.inst
    · exact kH _ _ BO.dict)
  (case hm0 =>
    intro p hp
    simp only [List.mem_cons, List.not_mem_nil, or_false] at hp
    rcases hp with rfl | rfl | rfl
    · exact Z.log
    · exact Z.bus
    · exact Z.bd)
  (case hroom => omega)
  (case hb => exact BindsTo.of_eq rfl)
  (case hl => exact locs rfl)
  (case hcell => decide)
  (case c1 => exact rfl)
  (case c2 => exact rfl)
  (case c3 => exact rfl)
  intro g L' h₁ kg eg og hL F N
  have X' := X.keeps kg
  have T' := T.keeps kg
  have eg' : Ext [a.log, a.bus, a.bd] s.heap g := eg
  have gk : ∀ {b : Addr} {o : Obj}, H.get? b = some o → b ≠ a.bus → b ≠ a.bd → g.get? b = some o := fun e n1 n2 => eg' _ _ (kH _ _ e) (by simp [hlne e, n1, n2])
  have cell_ne : ∀ {c : Addr} {v : Option Value}, H.IsCell c v → c ≠ a.bus ∧ c ≠ a.bd := by
    rintro c v ⟨o, ho, hd⟩
    exact ⟨fun q => (by rw [q, BO.inst] at ho; cases ho; cases hd), fun q => (by rw [q, BO.dict] at ho; cases ho; cases hd)⟩
  have gcell : ∀ {c : Addr} {v : Option Value}, H.IsCell c v → g.IsCell c v := fun {c v} hc => by
    obtain ⟨n1, n2⟩ := cell_ne hc
    obtain ⟨o, ho, hd⟩ := hc
    exact ⟨o, gk ho n1 n2, hd⟩
  have ne1 : @Ne Nat a.bus a.log := hlne BO.inst
  have ne2 : @Ne Nat a.bd a.log := hlne BO.dict
  have ne3 : @Ne Nat a.bus a.bd := cls_ne BO.inst BO.dict (by simp)
  have g3 : g.IsCell cn (some (.int num t')) := gcell h3
  have g4 : g.IsCell ca (some (.ref x)) := gcell h4
  have g5 : g.IsCell a.cL (some (.ref a.log)) := gcell BO.cl
  have g6 : g.IsCell a.cB (some (.ref a.bus)) := gcell BO.cb
  conv in (occs := *) hearsBody => all_goals whnf
  conv in (occs := *) hearsScope => all_goals whnf
  conv in (occs := *) hearsParams => all_goals whnf
  dsimp only
  have kH' : ∀ {h' : Heap} {m' : Str → Option Value}, Fr g L' h' m' → h'.get? a.bus = some (instObj 53 a.bd) → h'.get? a.bd = some (dictOf (lisEntry hsh tl a.D) nb) → H.StaysIn h' := by
    intro h' m' F' e1 e2 b o e
    by_cases q1 : b = a.bus
    · subst q1; rw [BO.inst] at e; cases e; exact e1
    · by_cases q2 : b = a.bd
      · subst q2; rw [BO.dict] at e; cases e; exact e2
      · exact F'.keep _ _ (gk e q1 q2)
  have fin : ∀ {h' : Heap} {m' : Str → Option Value}, Fr g L' h' m' → h'.get? a.bus = some (instObj 53 a.bd) → h'.get? a.bd = some (dictOf (lisEntry hsh tl a.D) nb) → Ext [a.log] s.heap h' := by
    intro h' m' F' e1 e2 b o e hb
    by_cases q1 : b = a.bus
    · subst q1; rw [kH _ _ BO.inst] at e; cases e; exact e1
    · by_cases q2 : b = a.bd
      · subst q2; rw [kH _ _ BO.dict] at e; cases e; exact e2
      · exact F'.keep _ _ (eg' _ _ e (by simp at hb; simp [hb, q1, q2]))
  have ea : ∀ v : Value, W.listOf (vs.toArray.push v) (n + 1) = W.listOf (vs ++ [v]).toArray (n + 1) := fun v => by simp
  have hnl : nm ≠ a.log := hnm.ne_list hlog
  k_steps
  · rename News _ _ _ _ => N9
    rename Fr _ _ _ _ => F9
    rename (data < 2) => hlt
    have x1 := fin F9 (N9.get (by k_mem)) (N9.get (by k_mem))
    refine S hlt I H hsh tl nb xs ls _ _ _ _ (.ref x) ks (data + 1) _ (vs ++ [.ref _]) (n + 1) kG (kH' F9 (N9.get (by k_mem)) (N9.get (by k_mem))) kI zb zd BO TA la hl0 ((N9.get (by k_mem)).trans (congrArg some (ea _))) (.inl ⟨x, rfl, hx.keeps fun o e => kH' F9 (N9.get (by k_mem)) (N9.get (by k_mem)) _ _ e⟩) hks (by omega) hh ?_ ?_ ?_ ?_
    · simp only [depth_deeper]; omega
    · simp only [Around.deeper_units]; omega
    · simp only [List.length_append, List.length_cons, List.length_nil]; omega
    · intro h2 tk2 vs2 n2 x2 l2 e2
      dsimp only
      refine wpAny_execs_nil ?_
      dsimp only
      refine wpAny_execs_nil ?_
      dsimp only
      have x3 := x1.trans x2
      have hD := N9.get (List.Mem.head _)
      refine h h2 tk2 (_ :: vs2) n2 x3 (l2.trans (by simp)) (.cons ⟨_, nm, _, _, _, rfl, x2 _ _ hD ?_, hnm.keeps fun o e => x3 _ _ e (by simpa using hnl)⟩ ?_)
      · simpa using cls_ne hD (N9.get (List.Mem.tail _ (List.Mem.head _))) tup_ne_list
      · rw [if_pos hlt]; exact e2
  · rename News _ _ _ _ => N9
    rename Fr _ _ _ _ => F9
    have x1 := fin F9 (N9.get (by k_mem)) (N9.get (by k_mem))
    refine h _ _ [_] (n + 1) x1 ((N9.get (by k_mem)).trans (congrArg some (ea _))) (.cons ⟨_, nm, _, _, _, rfl, N9.get (List.Mem.head _), hnm.keeps fun o e => x1 _ _ e (by simpa using hnl)⟩ ?_)
    rw [if_neg (by omega)]
    exact .nil
theorem hears_call {w : World} {G0 : Heap} {a : Adr} {r : Nat} {loose mean mg mb} (X : (hd.heap_39 w.params).In G0) (T : Top topProg loose mean mg mb G0) (Z : Fresh G0 a) (S : 1 ≤ r → EmitSpec w G0 a r)
    {I H : Heap} {hsh : Int} {tl : Tok} {nb : Nat} {xs : List (List Str × Addr × Value)} {ls : List Lis} {A : Around} {s : Shared} {Q E : Value → Shared → Prop} {f nm : Addr} {lis : Lis} {name : List Str} {data : Int} {t : Tok} {vs : List Value} {n : Nat}
    (kG : G0.StaysIn H) (kH : H.StaysIn s.heap) (BO : BusObj w a hsh tl nb H) (kI : I.StaysIn H) (zb : I.get? a.bus = none) (zd : I.get? a.bd = none) (TA : TabAt w a I xs ls H) (la : ∀ l ∈ ls, l.ans ≠ some []) (hl0 : H.get? a.log = none) (hlog : s.heap.get? a.log = some (W.listOf vs.toArray n)) (hf : HearsAt H f lis.num lis.ans a.cL a.cB) (hnm : IsNm s.heap nm name)
    (hla : lis.ans ≠ some []) (hdr : data + r = 2) (hh : A.handled = none) (hdp : A.depth + 40 * r + 60 < recursionLimit) (hu : A.units + 100 * r + 150 < cLine) (hsz : vs.length + 1 + cap ls.length r ≤ 1000000)
    (h : ∀ h' tk vs' n', Ext [a.log] s.heap h' → h'.get? a.log = some (W.listOf (vs ++ vs').toArray n') → EntsAt h' vs' ((lis.num, name, data) :: answers (heard ls r) lis data) → Q .none { s with heap := h', toks := tk }) :
    wpAny (model prg w) A (call (.ref f) [.ref nm, .int data t]) Q E s := by
  cases ha : lis.ans with
  | none =>
    rw [ha] at hf
    refine hears_none (r := r) X T Z kG kH BO hl0 hlog hf hnm (by omega) (by omega) fun h' tk v n' x e1 e2 => h h' tk [v] n' x e1 (.cons e2 ?_)
    unfold answers; rw [ha]; exact .nil
  | some ks =>
    rw [ha] at hf
    refine hears_some X T Z (fun hlt => S (by omega)) kG kH BO kI zb zd TA la hl0 hlog hf hnm (fun q => hla (by rw [ha, q])) (by omega) hdr hh hdp hu hsz fun h' tk vs' n' x e1 e2 => h h' tk vs' n' x e1 ?_
    unfold answers; rw [ha]; exact e2
end Mine
end
section
open PySem PySem.W PySem.Calls PyProof.Rows
namespace Mine
set_option maxRecDepth 100000
set_option maxHeartbeats 2000000
def IterO (o : Obj) (l : Addr) (i : Nat) : Prop := o.cls = .type "list_iterator" ∧ o.data = .fields #[.ref l, .int i 0]
theorem IterO.at {h : Heap} {it l : Addr} {i : Nat} {o : Obj} (x : IterO o l i) (e : h.get? it = some o) : h.IsListIter it l i := ⟨_, e, x⟩
/-- what a turn of loopN shows at its end -/
def TurnEnd (s₀ : Shared) (g : Heap) (L it : Addr) (o : Obj) (P : Heap → (Str → Option Value) → List (Addr × Obj) → Prop) (f : Flow) (s₃ : Shared) : Prop :=
  f = .next ∧ ∃ h' tk' m' nw', s₃ = { s₀ with heap := h', toks := tk' } ∧ P h' m' nw' ∧ Fr g L h' m' ∧ News g L h' ((it, o) :: nw') ∧ ∀ p ∈ nw', p.1 ≠ it
/-- a for over a list that stands, its target a tuple; the body goes on at every turn -/
theorem loopN {w : World} {A : Around} {env : Env} {g : Heap} {L l it : Addr} {items : Array Value} {elts : List Expr} {x1 : Nat} {pt : Pos} {body : List Stmt} {R : Result → Shared → Prop} {s₀ : Shared} (hh : A.handled = none) (git : g.get? it = none) (itL : it ≠ L)
    (htup : ∀ (i : Nat) x, items[i]? = some x → ∃ T, x = Value.ref T)
    (P : Nat → Heap → (Str → Option Value) → List (Addr × Obj) → Prop)
    (hl : ∀ i h m nw, P i h m nw → Fr g L h m → News g L h nw → h.IsList l items)
    (hP : ∀ i h h' m nw o, P i h m nw → h.get? it = some o → o.cls = .type "list_iterator" → Ext [it] h h' → P i h' m nw)
    (turn : ∀ (i : Nat) x h tk m nw o, items[i]? = some x → P i h m nw → IterO o l (i + 1) → Fr g L h m → News g L h ((it, o) :: nw) → (∀ p ∈ nw, p.1 ≠ it) →
      wpAny (model prg w) A (assign (.Tuple elts x1 pt) env x) (fun _ s₂ => wpAny (model prg w) A (execs body env)
        (TurnEnd s₀ g L it o (P (i + 1))) (fun _ _ => False) s₂) (fun _ _ => False) { s₀ with heap := h, toks := tk })
    (fin : ∀ h tk m nw, P items.size h m nw → Fr g L h m → News g L h nw → R (.ok .next) { s₀ with heap := h, toks := tk })
    {h : Heap} {tk : Nat} {m : Str → Option Value} {nw : List (Addr × Obj)} {o₀ : Obj} (p0 : P 0 h m nw) (F : Fr g L h m) (I0 : IterO o₀ l 0) (N : News g L h ((it, o₀) :: nw)) (off : ∀ p ∈ nw, p.1 ≠ it) :
    codeAny (model prg w) A (.forLoop (.Tuple elts x1 pt) (.ref it) body [] env) R { s₀ with heap := h, toks := tk } := by
  refine codeAny_forLoop_any
    (fun k s' => ∃ h' tk' m' nw' i o, s' = { s₀ with heap := h', toks := tk' } ∧ i ≤ items.size ∧ k = items.size + 1 - i ∧ P i h' m' nw' ∧ Fr g L h' m' ∧ IterO o l i ∧ News g L h' ((it, o) :: nw') ∧ ∀ p ∈ nw', p.1 ≠ it) ?_ (items.size + 1)
    ⟨h, tk, m, nw, 0, o₀, rfl, Nat.zero_le _, rfl, p0, F, I0, N, off⟩
  rintro k s' ⟨h', tk', m', nw', i, o, rfl, hi, rfl, p', F', I', N', off'⟩
  have eit := (N' (it, o) (.head _)).1
  have Nt : News g L h' nw' := fun p hp => N' p (.tail _ hp)
  by_cases hlt : i < items.size
  · refine wpAny_pyNext_list_item (x := items[i]) (I'.at eit) (hl _ _ _ _ p' F' Nt) (Array.getElem?_eq_getElem hlt) fun h2 hit2 hs2 => ?_
    obtain ⟨T, hT⟩ := htup i _ (Array.getElem?_eq_getElem hlt)
    obtain ⟨o2, e2, I2⟩ := hit2
    replace I2 : IterO o2 l (i + 1) := I2
    have x2 : Ext [it] h' h2 := fun b o e n => (hs2.2 b (by simpa using n)).trans e
    have F2 : Fr g L h2 m' := fr_ext F' x2 (by simpa using Ne.symm itL) (by intro a ha; rcases List.mem_singleton.mp ha with rfl; exact git)
    have N2 : News g L h2 ((it, o2) :: nw') := news_cons e2 itL git (news_ext Nt x2 fun p hp => by simpa using off' p hp)
    dsimp only
    rw [hT]
    refine wpAny_letOwnedTupleGo_listiter (I2.at e2) ?_
    refine wpAny_mono (turn i (.ref T) h2 tk' m' nw' o2 (by rw [← hT]; exact Array.getElem?_eq_getElem hlt) (hP _ _ _ _ _ _ p' eit I'.1 x2) I2 F2 N2 off') (fun _ s2 h3 => wpAny_mono h3 (fun f s3 h4 => ?_) fun _ _ z => z.elim) fun _ _ z => z.elim
    obtain ⟨rfl, h5, tk5, m5, nw5, rfl, p5, F5, N5, off5⟩ := h4
    exact ⟨items.size + 1 - (i + 1), by omega, h5, tk5, m5, nw5, i + 1, o2, rfl, hlt, rfl, p5, F5, I2, N5, off5⟩
  · obtain rfl : i = items.size := by omega
    refine wpAny_pyNext_list_end hh (I'.at eit) (hl _ _ _ _ p' F' Nt) (by simp) fun h2 hx => ?_
    have x2 : Ext [it] h' h2 := fun b o e n => hx b o (by simpa using n) e
    dsimp only
    refine wpAny_execs_nil ?_
    exact fin h2 tk' m' nw' (hP _ _ _ _ _ _ p' eit I'.1 x2) (fr_ext F' x2 (by simpa using Ne.symm itL) (by intro a ha; rcases List.mem_singleton.mp ha with rfl; exact git)) (news_ext Nt x2 fun p hp => by simpa using off' p hp)
end Mine
end
section
open PySem PySem.W PySem.Calls PyProof.Rows
namespace Mine
local macro_rules | `(tactic| walk_at "no key") => `(tactic| skip)
local macro_rules | `(tactic| walk_at "no key") => `(tactic| skip)
set_option maxRecDepth 100000
set_option maxHeartbeats 4000000
set_option pp.deepTerms false
set_option pp.deepTerms.threshold 6
theorem fillme6 : (fun (_ : OpenLaw) (_ : Params → Frag) => True) PySem.Challenge.rw_bs0024_01 hd.heap_39 := by
  w_top off
  k_fill
  trivial
theorem lk_fn_bool : typeLookup (.type "function") "__bool__" = pure none := by rw [typeLookup_type, builtinLookup_eq_fast]; kernel_rfl
theorem lk_fn_len : typeLookup (.type "function") "__len__" = pure none := by rw [typeLookup_type, builtinLookup_eq_fast]; kernel_rfl
theorem truthy_fn {w : World} {A : Around} {E : Value → Shared → Prop} {s : Shared} {q : Addr} {Q : Bool → Shared → Prop} (hT : s.TypeIs (.ref q) "function") (h : Q true s) : wpAny (model prg w) A (truthy (.ref q)) Q E s := by
  unfold truthy
  refine wpAny_bind (m := callSpecial? (.ref q) (Str.ofString "__bool__")) (wpAny_bind (wpAny_specialOf hT lk_fn_bool (wpAny_pure ?_)))
  exact wpAny_bind (wpAny_specialOf hT lk_fn_len (wpAny_pure h))
/-- a call of a lambda (no cells of its own; a closure it may have) -/
theorem enterL {w : World} {A : Around} {s : Shared} {R : Result → Shared → Prop} {name qual : Str} {params : Arguments} {body : Expr} {scope : Scope} {cl : List (Str × Addr)} {dV kV doc pm cdv ct : Value} {an : Option Addr} {fo : Obj} {f : Addr} {args : Args}
    {binds : List (Str × Value)} {G0 : Heap} (k : G0.StaysIn s.heap) (hlim : G0.NoLimit)
    (ho : s.heap.get? f = some fo) (hd : fo.data = .func { name, qualname := qual, params, body := .expr body, scope, globals := mainGlobals, closure := cl, defaults := dV, kwdefaults := kV, doc, pyModule := pm, annotations := an, code := cdv, closureTuple := ct, builtins := builtinsNs }) (hcd : s.heap.CodeRec cdv qual) (hroom : A.depth < recursionLimit)
    (hbind : BindsTo s { name, qualname := qual, params, body := .expr body, scope, globals := mainGlobals, closure := cl, defaults := dV, kwdefaults := kV, doc, pyModule := pm, annotations := an, code := cdv, closureTuple := ct, builtins := builtinsNs } args binds) (hloc : ∀ y ∈ binds, scope.names.lookup y.1 = some .local)
    (h : ∀ L' h₁, s.heap.objs.size = L' → Fr s.heap L' h₁ (fun y => binds.reverse.lookup y) →
      wpAny (model prg w) (A.deeper (envX qual scope L' f cdv cl)) (eval body (envX qual scope L' f cdv cl))
        (fun v s' => R (.ok (.ret v)) s') (fun _ _ => False) { s with heap := h₁, toks := s.toks + binds.length })
    (hcell : ∀ x ∈ scope.names, x.2 ≠ .cell) (hco : scope.isCoroutine = false) (hgen : scope.isGenerator = false) (hk : scope.kind = .function) :
    codeAny (model prg w) A (.call (.ref f) args) R s := by
  refine kla_callFunE hroom ho hd hco hgen rfl hcd (hbind _ _ _ _ ?_)
  refine wpAny_newFunctionEnv hcell hloc (fun h₁ hns hsb => ⟨(hlim.keeps k).fresh _ hsb, kla_codeExpr ?_⟩) hk
  have hk₁ : ∀ b o, s.heap.get? b = some o → h₁.get? b = some o := fun b o e => hsb.extBut b o (Nat.ne_of_lt (Heap.lt_size e)) (Heap.get?_push_of_some _ e)
  exact wpAny_mono (h s.heap.objs.size h₁ rfl ⟨hns, hk₁, Nat.le_refl _⟩) (fun _ _ z => z) fun _ _ z => z.elim
local macro_rules | `(tactic| walk_at "eval Name") => `(tactic| (k_here; k_dflt (refine' nameFree_G ?F ?c ?v ?_ ?k ?a ?b ?n; (case k => rfl); (case a => rfl); (case b => rfl); (case n => rfl); (case F => k_asm); (case c => rfl); (case v => assumption); k_whole)))
theorem flt_call {w : World} {A : Around} {s : Shared} {G0 : Heap} {loose mean mg mb} {Q E : Value → Shared → Prop} {q : Addr} {sv data : Int} {t : Tok} (X : (hd.heap_39 w.params).In G0) (T : Top topProg loose mean mg mb G0) (k : G0.StaysIn s.heap)
    (hdp : A.depth + 20 < recursionLimit) (hf : FltAt s.heap q sv)
    (h : ∀ h' tk, Ext [] s.heap h' → Q (.bool (sv == 2 || data.fmod 2 == sv)) { s with heap := h', toks := tk }) :
    wpAny (model prg w) A (call (.ref q) [.int data t]) Q E s := by
  obtain ⟨cS, doc, pm, cdv, ct, t', h1, h2, h3⟩ := hf
  refine wpAny_call ?_
  refine' enterL k T.nolimit h1 rfl h2 ?hroom ?hb ?hl ?_ ?hcell ?c1 ?c2 ?c3
  (case hroom => omega)
  (case hb => exact BindsTo.of_eq rfl)
  (case hl => exact locs rfl)
  (case hcell => decide)
  (case c1 => exact rfl)
  (case c2 => exact rfl)
  (case c3 => exact rfl)
  intro L' h₁ hL F
  have N : News s.heap L' h₁ [] := News.nil
  have X' := X.keeps k
  have T' := T.keeps k
  conv in (occs := *) lamBody => all_goals whnf
  conv in (occs := *) lamScope => all_goals whnf
  conv in (occs := *) lamParams => all_goals whnf
  dsimp only
  k_steps
  · rename (sv = 2) => e9
    rename Fr _ _ _ _ => F9
    have e8 : (sv == 2) = (sv == 2 || data.fmod 2 == sv) := by simp [e9]
    rw [e8]
    exact h _ _ (fun b o z _ => F9.keep b o z)
  · rename (sv ≠ 2) => e9
    rename Fr _ _ _ _ => F9
    have e8 : (data.fmod 2 == sv) = (sv == 2 || data.fmod 2 == sv) := by simp [e9]
    rw [e8]
    exact h _ _ (fun b o z _ => F9.keep b o z)
end Mine
end
section
open PySem PySem.W PySem.Calls PyProof.Rows
namespace Mine
local macro_rules | `(tactic| walk_at "no key") => `(tactic| skip)
local macro_rules | `(tactic| walk_at "no key") => `(tactic| skip)
local macro_rules | `(tactic| walk_at "no key") => `(tactic| skip)
local macro_rules | `(tactic| walk_at "no key") => `(tactic| skip)
set_option maxRecDepth 100000
set_option maxHeartbeats 4000000
set_option pp.deepTerms false
set_option pp.deepTerms.threshold 6
theorem fillme5 : (fun (_ : OpenLaw) (_ : Params → Frag) => True) PySem.Challenge.rw_bs0024_01 hd.heap_39 := by
  w_top off
  k_fill
  trivial
theorem toTuple {w : World} {A : Around} {s : Shared} {G0 : Heap} {loose mean mg mb} {Q E : Value → Shared → Prop} {id : Value} {name : List Str} (X : (hd.heap_39 w.params).In G0) (T : Top topProg loose mean mg mb G0) (k : G0.StaysIn s.heap)
    (hdp : A.depth + 20 < recursionLimit) (hid : IdAt s.heap id name)
    (h : ∀ x h' tk, Ext [] s.heap h' → IsNm h' x name → Q (.ref x) { s with heap := h', toks := tk }) :
    wpAny (model prg w) A (call (.ref 64) [id]) Q E s := by
  rcases hid with ⟨x, rfl, hx⟩ | ⟨x, t, rfl, rfl⟩
  · obtain ⟨its, hi, _⟩ := hx.tup
    exact toTuple_tup X T k hdp hi fun h' tk e => h x h' tk e (hx.keeps fun o q => e _ _ q (fun z => nomatch z))
  · exact toTuple_str X T k hdp fun a h' tk e q => h a h' tk e ⟨_, _, q, .cons _ _ .nil⟩
theorem fr_keep {g h h' : Heap} {L : Addr} {m : Str → Option Value} (F : Fr g L h m) (x : Ext [] h h') : Fr g L h' m := fr_ext F x (fun z => nomatch z) (fun _ z => nomatch z)
theorem news_keep {g h h' : Heap} {L : Addr} {news : List (Addr × Obj)} (N : News g L h news) (x : Ext [] h h') : News g L h' news := news_ext N x fun _ _ z => nomatch z
theorem getMethod_dict {w : World} {A : Around} {E : Value → Shared → Prop} {s : Shared} {g : Heap} {L D : Addr} {m : Str → Option Value} {pl : Sem Bool} {Q : Value × List Value → Shared → Prop} {o : Obj} (F : Fr g L s.heap m) (ho : g.get? D = some o) (hc : o.cls = .type "dict") (hd : o.dict = none)
    (h : Q (.builtin "dict.get", [.ref D]) s) : wpAny (model prg w) A (getMethod (.ref D) "get" pl) Q E s :=
  getMethod_builtin ⟨_, F.keep _ _ ho, hc⟩ PySem.F.plainAttrs_dict PySem.F.slot_dict_get PySem.F.type_dict_get (fun a e => by cases e; exact ⟨_, F.keep _ _ ho, hd⟩) h
theorem strs_items {w : World} : ∀ {vs : List Value} {ks : List Str}, StrsAre vs ks → ItemsAre (PySem.strKind prg w) ks vs
  | _, _, .nil => .nil
  | _, _, .cons y t r => .cons (show Value.isStrOf y (.str y t) = true by simp [Value.isStrOf]) (strs_items r)
theorem IsNm.key {w : World} {h : Heap} {x : Addr} {ks : List Str} (y : IsNm h x ks) : (tKind w).is h ks x :=
  let ⟨vs, n, e, r⟩ := y; ⟨_, vs, n, e, rfl, rfl, strs_items r⟩
theorem dictOfH_keeps {w : World} {h h' : Heap} {D : Addr} {xs : List (List Str × Addr × Value)} (x : h.DictOfH (tKind w) D xs) (kD : ∀ o, h.get? D = some o → h'.get? D = some o) (k : ∀ b o, o.cls = .type "tuple" → h.get? b = some o → h'.get? b = some o) : h'.DictOfH (tKind w) D xs := by
  obtain ⟨o, es, ep, ho, r1, r2, r3, r4, r5⟩ := x
  refine ⟨o, es, ep, kD _ ho, r1, r2, r3, fun y hy => ?_, r5⟩
  obtain ⟨o', its, n, h1, h2, h3⟩ := r4 y hy
  exact ⟨o', its, n, k _ _ h2 h1, h2, h3⟩
theorem dictGet_call {w : World} {A : Around} {E : Value → Shared → Prop} {s : Shared} {D x : Addr} {name : List Str} {dflt : Value} {xs : List (List Str × Addr × Value)} {Q : Value → Shared → Prop} (hu : A.units + 50 < cLine) (hd : (D == sysModules) = false) (hx : IsNm s.heap x name) (hm : s.heap.DictOfH (tKind w) D xs)
    (h : Q (((atKey xs name).map (·.2)).getD dflt) { s with toks := s.toks + (tKind w).draws name }) : wpAny (model prg w) A (call (.builtin "dict.get") [.ref D, .ref x, dflt]) Q E s :=
  call_meetsIn PySem.F.slot_dict_get hm.typeIs PySem.F.entry_dict_get (PySem.F.args_dict_get_3 _ _ _) (meetsH_dict_get_default (tKind w) D x hd dflt) ⟨(show A.units + 1 < cLine by omega), name, xs, hx.key, hm, h⟩
theorem atKey_mem {K : Type} [DecidableEq K] {xs : List (K × Addr × Value)} {k : K} {p : Addr × Value} (h : atKey xs k = some p) : (k, p) ∈ xs := by
  unfold atKey at h
  cases e : xs.find? (fun x => decide (x.1 = k)) with
  | none => rw [e] at h; cases h
  | some y =>
    rw [e] at h
    cases h
    have h1 := List.find?_some e
    have h2 := List.mem_of_find?_eq_some e
    have h3 : y.1 = k := by simpa using h1
    rw [← h3]; exact h2
theorem atKey_none {K : Type} [DecidableEq K] {xs : List (K × Addr × Value)} {k : K} (h : atKey xs k = none) : ∀ x ∈ xs, x.1 ≠ k := by
  intro x hx e
  unfold atKey at h
  rw [Option.map_eq_none_iff, List.find?_eq_none] at h
  exact h x hx (by simpa using e)
theorem unpackG {w : World} {A : Around} {E : Value → Shared → Prop} {s : Shared} {g : Heap} {L t : Addr} {m : Str → Option Value} {its : Array Value} {news : List (Addr × Obj)} {env : Env} {elts : List Expr} {x1 : Nat} {pos : Pos} {Q : Unit → Shared → Prop}
    (hh : A.handled = none) (F : Fr g L s.heap m) (N : News g L s.heap news) (tp : IsTup g t its) (hn : (assignEach elts env).length = its.size) (hstar : (assignEach elts env).findIdx? (·.1) = none)
    (h : ∀ h', Fr g L h' m → News g L h' news → wpAny (model prg w) A (assignInOrder ((assignEach elts env).map (·.2)) its.toList) Q E { s with heap := h' }) :
    wpAny (model prg w) A (assign (.Tuple elts x1 pos) env (.ref t)) Q E s := by
  obtain ⟨o, ho, hc, n, hd⟩ := tp
  refine wpAny_assign_Tuple hh ⟨o, F.keep _ _ ho, hc, n, hd⟩ hn hstar fun h' x => h h' ?_ ?_
  · exact F.keeps fun b o e => x b o (Nat.ne_of_lt (Heap.lt_size e)) e
  · exact fun p hp => ⟨x _ _ (Nat.ne_of_lt (Heap.lt_size (N p hp).1)) (N p hp).1, (N p hp).2⟩
def FnG (g : Heap) (q : Addr) : Prop := ∃ fd, g.get? q = some (funObj fd)
theorem fnAt_G {g h : Heap} {L q : Addr} {m : Str → Option Value} (F : Fr g L h m) (x : FnG g q) : FnAt q h := let ⟨fd, e⟩ := x; ⟨_, _, fd, _, F.keep _ _ e⟩
theorem truthy_G {w : World} {A : Around} {E : Value → Shared → Prop} {s : Shared} {g : Heap} {L q : Addr} {m : Str → Option Value} {Q : Bool → Shared → Prop} (F : Fr g L s.heap m) (x : FnG g q) (h : Q true s) : wpAny (model prg w) A (truthy (.ref q)) Q E s :=
  let ⟨_, e⟩ := x; truthy_fn ⟨_, F.keep _ _ e, rfl⟩ h
/-- a name that is not in the base goes onto the ledger -/
theorem nmLedger {g h : Heap} {L x : Addr} {m : Str → Option Value} {ks : List Str} (F : Fr g L h m) (hx : IsNm h x ks) :
    ∃ ex : List (Addr × Obj), News g L h ex ∧ (∀ h' m', Fr g L h' m' → News g L h' ex → IsNm h' x ks) ∧ (∀ p ∈ ex, p.2.cls = .type "tuple") := by
  obtain ⟨vs, n, e, q⟩ := hx
  cases eg : g.get? x with
  | some o =>
    have e2 := F.keep _ _ eg
    rw [e] at e2
    cases e2
    exact ⟨[], News.nil, fun h' m' F' _ => ⟨vs, n, F'.keep _ _ eg, q⟩, fun p hp => nomatch hp⟩
  | none =>
    refine ⟨[(x, tupObj vs n)], news_cons e (fun z => ?_) eg News.nil, fun h' m' _ N' => ⟨vs, n, N'.get (.head _), q⟩, fun p hp => ?_⟩
    · obtain ⟨o, es, ep, ho, hd, _⟩ := F.ns
      rw [← z, e] at ho; cases ho; cases hd
    · rcases List.mem_singleton.mp hp with rfl; rfl
theorem tupLedger {g h : Heap} {L x : Addr} {m : Str → Option Value} {its : Array Value} {n : Nat} (F : Fr g L h m) (e : h.get? x = some (tupObj its n)) :
    ∃ ex : List (Addr × Obj), News g L h ex ∧ (∀ h' m', Fr g L h' m' → News g L h' ex → h'.get? x = some (tupObj its n)) ∧ (∀ p ∈ ex, p.2.cls = .type "tuple") := by
  cases eg : g.get? x with
  | some o =>
    have e2 := F.keep _ _ eg
    rw [e] at e2
    cases e2
    exact ⟨[], News.nil, fun h' m' F' _ => F'.keep _ _ eg, fun p hp => nomatch hp⟩
  | none =>
    refine ⟨[(x, tupObj its n)], news_cons e (fun z => ?_) eg News.nil, fun h' m' _ N' => N'.get (.head _), fun p hp => ?_⟩
    · obtain ⟨o, es, ep, ho, hd, _⟩ := F.ns
      rw [← z, e] at ho; cases ho; cases hd
    · rcases List.mem_singleton.mp hp with rfl; rfl
theorem news_app {g h : Heap} {L : Addr} {n1 n2 : List (Addr × Obj)} (a : News g L h n1) (b : News g L h n2) : News g L h (n1 ++ n2) := fun p hp => (List.mem_append.mp hp).elim (a p) (b p)
theorem news_left {g h : Heap} {L : Addr} {n1 n2 : List (Addr × Obj)} (a : News g L h (n1 ++ n2)) : News g L h n1 := fun p hp => a p (List.mem_append_left _ hp)
theorem news_right {g h : Heap} {L : Addr} {n1 n2 : List (Addr × Obj)} (a : News g L h (n1 ++ n2)) : News g L h n2 := fun p hp => a p (List.mem_append_right _ hp)
theorem cls_app {n1 n2 : List (Addr × Obj)} {c : Value} (a : ∀ p ∈ n1, p.2.cls = c) (b : ∀ p ∈ n2, p.2.cls = c) : ∀ p ∈ n1 ++ n2, p.2.cls = c := fun p hp => (List.mem_append.mp hp).elim (a p) (b p)
theorem entsLedger {g h : Heap} {L : Addr} {m : Str → Option Value} (F : Fr g L h m) : ∀ {vs : List Value} {es : List Ent}, EntsAt h vs es →
    ∃ ex : List (Addr × Obj), News g L h ex ∧ (∀ h' m', Fr g L h' m' → News g L h' ex → EntsAt h' vs es) ∧ (∀ p ∈ ex, p.2.cls = .type "tuple")
  | _, _, .nil => ⟨[], News.nil, fun _ _ _ _ => .nil, fun _ hp => nomatch hp⟩
  | _, _, .cons hv r => by
    obtain ⟨y, nm, t1, t2, k, e, h2, h3⟩ := hv
    obtain ⟨ex, N1, k1, c1⟩ := entsLedger F r
    obtain ⟨ex2, N2, k2, c2⟩ := tupLedger F h2
    obtain ⟨ex3, N3, k3, c3⟩ := nmLedger F h3
    exact ⟨ex2 ++ (ex3 ++ ex), news_app N2 (news_app N3 N1), fun h' m' F' N' => .cons ⟨y, nm, t1, t2, k, e, k2 h' m' F' (news_left N'), k3 h' m' F' (news_left (news_right N'))⟩ (k1 h' m' F' (news_right (news_right N'))), cls_app c2 (cls_app c3 c1)⟩
theorem ledger_upd {g h h' : Heap} {L lg : Addr} {o o' : Obj} {pre post : List (Addr × Obj)} (N : News g L h (pre ++ (lg, o) :: post)) (x : Ext [lg] h h') (e : h'.get? lg = some o') (n1 : ∀ p ∈ pre, p.1 ≠ lg) (n2 : ∀ p ∈ post, p.1 ≠ lg) : News g L h' (pre ++ (lg, o') :: post) := fun p hp => by
  rcases List.mem_append.mp hp with hp | hp
  · exact ⟨x _ _ (N p (List.mem_append_left _ hp)).1 (by simpa using n1 p hp), (N p (List.mem_append_left _ hp)).2⟩
  · rcases List.mem_cons.mp hp with rfl | hp
    · exact ⟨e, (N (lg, o) (List.mem_append_right _ (.head _))).2⟩
    · exact ⟨x _ _ (N p (List.mem_append_right _ (.tail _ hp))).1 (by simpa using n2 p hp), (N p (List.mem_append_right _ (.tail _ hp))).2⟩
local macro_rules | `(tactic| walk_at "getMethod ref") => `(tactic| (k_here; (with_reducible show wpAny _ _ (getMethod (Value.ref _) (PySem.Str.ofString "get") _) _ _ _); k_dflt (refine' getMethod_dict ?F ?o ?c ?d ?_; (case F => k_asm); (case o => assumption); (case c => assumption); (case d => assumption); k_whole)))
local macro_rules | `(tactic| walk_at "assign Tuple") => `(tactic| (k_here; (with_reducible show wpAny _ _ (assign (Expr.Tuple _ _ _) _ (Value.ref _)) _ _ _); k_dflt (refine' unpackG ?h ?F ?N ?t ?n ?z ?_; (case h => assumption); (case F => k_asm); (case N => k_asm); (case t => assumption); (case n => rfl); (case z => rfl); k_whole); intro h' F' N'))
local macro_rules | `(tactic| walk_at "eval Name") => `(tactic| (k_here; k_dflt (refine' nameX_L ?F ?v ?_ ?k ?a ?b; (case k => rfl); (case a => rfl); (case b => rfl); (case F => k_asm); (case v => first | exact rfl | assumption); k_whole)))
local macro_rules | `(tactic| walk_at "truthy ref") => `(tactic| (k_here; (with_reducible show wpAny _ _ (truthy (Value.ref _)) _ _ _); k_dflt (refine' truthy_G ?F ?x ?_; (case F => k_asm); (case x => assumption); k_whole)))
local macro_rules | `(tactic| walk_at "callWith ref") => `(tactic| (k_here; k_dflt (refine' callWith_F ?k1 ?_; (case k1 => exact fnAt_G (by k_asm) (by assumption)); k_whole)))
local macro_rules | `(tactic| walk_at "FnAt") => `(tactic| (k_here; k_dflt (exact fnAt_G (by k_asm) (by assumption))))
theorem emit_step {w : World} {G0 : Heap} {a : Adr} {r : Nat} {loose mean mg mb} (X : (hd.heap_39 w.params).In G0) (T : Top topProg loose mean mg mb G0) (Z : Fresh G0 a) (S : 1 ≤ r → EmitSpec w G0 a r) : EmitSpec w G0 a (r + 1) := by
  intro I H hsh tl nb xs ls A s Q E id name data t vs n kG kH kI zb zd BO TA la hl0 hlog hid hne hdr hh hdp hu hsz hQ
  refine wpAny_call ?_
  have hlne : ∀ {b : Addr} {o : Obj}, H.get? b = some o → b ≠ a.log := fun e q => by rw [q, hl0] at e; cases e
  refine' enterK (G0 := G0) [(a.log, W.listOf vs.toArray n), (a.bus, instObj 53 a.bd), (a.bd, dictOf (lisEntry hsh tl a.D) nb)] ?hmu ?hm0 (fun b o e => kH _ _ (kG _ _ e)) X T.nolimit ?ho ?hcd ?hroom ?hb ?hl ?_ ?hcell ?c1 ?c2 ?c3
  (case ho => k_is)
  (case hcd => k_is)
  (case hmu =>
    intro p hp
    simp only [List.mem_cons, List.not_mem_nil, or_false] at hp
    rcases hp with rfl | rfl | rfl
    · exact hlog
    · exact kH _ _ BO.inst
    · exact kH _ _ BO.dict)
  (case hm0 =>
    intro p hp
    simp only [List.mem_cons, List.not_mem_nil, or_false] at hp
    rcases hp with rfl | rfl | rfl
    · exact Z.log
    · exact Z.bus
    · exact Z.bd)
  (case hroom => omega)
  (case hb => exact BindsTo.of_eq rfl)
  (case hl => exact locs rfl)
  (case hcell => decide)
  (case c1 => exact rfl)
  (case c2 => exact rfl)
  (case c3 => exact rfl)
  intro g L' h₁ kg eg og hL F N
  have X' := X.keeps kg
  have T' := T.keeps kg
  have eg' : Ext [a.log, a.bus, a.bd] s.heap g := eg
  have gk : ∀ {b : Addr} {o : Obj}, H.get? b = some o → b ≠ a.bus → b ≠ a.bd → g.get? b = some o := fun e n1 n2 => eg' _ _ (kH _ _ e) (by simp [hlne e, n1, n2])
  have ne1 : @Ne Nat a.bus a.log := hlne BO.inst
  have ne2 : @Ne Nat a.bd a.log := hlne BO.dict
  have ne3 : @Ne Nat a.bus a.bd := cls_ne BO.inst BO.dict (by simp)
  have nmg : ∀ {y : Addr} {ks : List Str}, IsNm s.heap y ks → IsNm g y ks := fun {y ks} hy => by
    have n0 := hy.ne_list hlog
    obtain ⟨vs', n', e', q'⟩ := hy
    have n1 : y ≠ a.bus := cls_ne e' (kH _ _ BO.inst) (by simp)
    have n2 : y ≠ a.bd := cls_ne e' (kH _ _ BO.dict) (by simp)
    exact ⟨vs', n', eg' _ _ e' (by simp [n0, n1, n2]), q'⟩
  have hid1 : IdAt g id name := by
    rcases hid with ⟨x, rfl, hx⟩ | hx
    · exact .inl ⟨x, rfl, nmg hx⟩
    · exact .inr hx
  have ZD := TA.dne
  obtain ⟨oD, es, ep, hoD, hxD, hdD, heD, hisD, hndD⟩ := TA.dict
  have cD : oD.cls = .type "dict" := hxD.1
  have dD : oD.dict = none := hxD.2.1
  have gD : g.get? a.D = some oD := gk hoD (cls_ne hoD BO.inst (by rw [hxD.1]; simp)) TA.apart
  dsimp only
  k_steps
  rename Fr _ _ _ _ => F9
  rename News _ _ _ _ => N9
  refine toTuple X' T' F9.keep (by simp only [depth_deeper]; omega) (by
    rcases hid1 with ⟨x, rfl, hx⟩ | hx
    · exact .inl ⟨x, rfl, hx.keeps (F9.keep _)⟩
    · exact .inr hx) fun x h2 tk2 e2 hx2 => ?_
  replace F9 := fr_keep F9 e2
  replace N9 := news_keep N9 e2
  obtain ⟨ex, Nex, hex, cex⟩ := nmLedger F9 hx2
  have N8 : News g L' h2 ((a.log, W.listOf vs.toArray n) :: (a.bus, instObj 53 a.bd) :: (a.bd, dictOf (lisEntry hsh tl a.D) nb) :: ex) := fun p hp => by
    simp only [List.mem_cons] at hp
    rcases hp with rfl | rfl | rfl | hp
    · exact N9 _ (by simp)
    · exact N9 _ (by simp)
    · exact N9 _ (by simp)
    · exact Nex _ hp
  clear N9 hx2 e2
  dsimp only
  k_steps
  refine wpAny_For ?_ (fun _ => rfl)
  k_steps
  rename Fr _ _ _ _ => F9
  rename News _ _ _ _ => N9
  rename_i l0 h5 lt5
  have gDict : g.DictOfH (tKind w) a.D xs := dictOfH_keeps TA.dict (fun o e => by rw [hoD] at e; cases e; exact gD) fun b o hc e => gk e (cls_ne e BO.inst (by rw [hc]; simp)) (cls_ne e BO.dict (by rw [hc]; simp))
  refine dictGet_call (by simp only [Around.deeper_units]; omega) ZD (hex _ _ F9 fun p hp => N9 p (by simp [hp])) (dictOfH_keeps gDict (F9.keep _) fun b o _ e => F9.keep _ _ e) ?_
  have Ig : I.StaysIn g := fun b o e => gk (kI _ _ e) (fun q => by rw [q, zb] at e; cases e) (fun q => by rw [q, zd] at e; cases e)
  obtain ⟨l, its, hv, hlist, hpairs⟩ : ∃ l its, (Option.map (fun x => x.snd) (atKey xs name)).getD (.ref l0) = Value.ref l ∧ (∀ h' m', Fr g L' h' m' → h'.get? l0 = some (W.listOf #[] 0) → h'.IsList l its) ∧ All2 (PairAt I a.cL a.cB) its.toList (hits ls name) := by
    cases hk : atKey xs name with
    | some p =>
      obtain ⟨l, its, nl, h1, h2, h3, h4⟩ := TA.lists _ (atKey_mem hk)
      refine ⟨l, its, h1, fun h' m' F' _ => ?_, h3⟩
      have e3 := F'.keep _ _ (gk h2 (cls_ne h2 BO.inst (by simp)) (cls_ne h2 BO.dict (by simp)))
      exact ⟨_, e3, rfl, nl, rfl⟩
    | none =>
      refine ⟨l0, #[], rfl, fun h' m' F' e => ⟨_, e, rfl, 0, rfl⟩, ?_⟩
      rw [TA.miss name hne (atKey_none hk)]
      exact .nil
  rw [hv]
  refine wpAny_pyIter_list (hlist _ _ F9 (N9.get (.head _))) ?_
  dsimp only
  have N10 := N9.push F9 { cls := .type "list_iterator", data := .fields #[.ref l, .int 0 0] }
  have F10 := F9.push { cls := .type "list_iterator", data := .fields #[.ref l, .int 0 0] }
  refine loopN (s₀ := s) (A := A.deeper _) hh (N10 _ (.head _)).2.2 (N10 _ (.head _)).2.1 (items := its) (fun i xv hx => ?_)
    (fun i h m nw => ∃ vs' n' tl', nw = (l0, W.listOf #[] 0) :: (a.log, W.listOf (vs ++ vs').toArray n') :: (a.bus, instObj 53 a.bd) :: (a.bd, dictOf (lisEntry hsh tl a.D) nb) :: tl' ∧
      (∀ h' m', Fr g L' h' m' → News g L' h' tl' → IsNm h' x name ∧ EntsAt h' vs' (((hits ls name).take i).flatMap (one (heard ls r) name data))) ∧ (∀ p ∈ tl', p.2.cls = .type "tuple") ∧ m "identifier" = some (.ref x) ∧ m "data" = some (.int data t))
    ?hl ?hP ?turn ?fin ⟨[], n, ex, by simp, fun h' m' F' N' => ⟨hex h' m' F' N', .nil⟩, cex, rfl, rfl⟩ F10 ⟨rfl, rfl⟩ N10 (fun p hp => Nat.ne_of_lt (Heap.lt_size (N9 p hp).1))
  · obtain ⟨lis, _, p, f, fv, np, e1, _⟩ := hpairs.get (by simpa using hx)
    exact ⟨p, e1⟩
  case hl =>
    rintro i h m nw ⟨vs', n', tl', rfl, _⟩ F' N'
    exact hlist _ _ F' (N'.get (.head _))
  case hP =>
    rintro i h h' m nw o p0 e1 e2 x1
    exact p0
  case turn =>
    rintro i xv h tk m nw o hxi ⟨vs', n', tl', rfl, he, ctl, hm1, hm2⟩ Io F N off
    obtain ⟨lis, hlis, p, f, fv, np, rfl, hp, hhe, hfv⟩ := hpairs.get (by simpa using hxi)
    have tp : IsTup g p #[.ref f, fv] := ⟨_, Ig _ _ hp, rfl, np, rfl⟩
    have fnf : FnG g f := by
      obtain ⟨cn, ca, doc, pm, cdv, ct, t', v, h1, _⟩ := hhe
      exact ⟨_, Ig _ _ h1⟩
    have hlm : lis ∈ ls := (List.mem_filter.mp (List.mem_of_getElem? hlis)).1
    have htake : (hits ls name).take (i + 1) = (hits ls name).take i ++ [lis] := by rw [List.take_add_one, hlis]; rfl
    have hlen : vs'.length ≤ ls.length * (1 + cap ls.length r) - (1 + cap ls.length r) := by
      have e1 := (he _ _ F fun p hp => N p (by simp [hp])).2.length_eq
      have hi : i < (hits ls name).length := (List.getElem?_eq_some_iff.mp hlis).1
      have e2 := flatMap_cap (one_cap (heard_cap ls r) name data) ((hits ls name).take i)
      have e3 := hits_len ls name
      have e4 : ((hits ls name).take i).length ≤ ls.length - 1 := by rw [List.length_take]; omega
      have e5 := Nat.mul_le_mul_right (1 + cap ls.length r) e4
      rw [Nat.sub_mul, Nat.one_mul] at e5
      omega
    clear F9 N9 F10 N10
    -- the hearer's call, from any heap of this turn
    have hear : ∀ {A9 : Around} {h9 : Heap} {tk9 : Nat} {m9 : Str → Option Value} {Q9 E9 : Value → Shared → Prop}, A9.handled = none → A9.depth = A.depth + 1 → A9.units = A.units + 3 → Fr g L' h9 m9 → m9 "identifier" = some (.ref x) → m9 "data" = some (.int data t) → lets lis data = true →
        News g L' h9 ((h5.objs.size, o) :: (l0, W.listOf #[] 0) :: (a.log, W.listOf (vs ++ vs').toArray n') :: (a.bus, instObj 53 a.bd) :: (a.bd, dictOf (lisEntry hsh tl a.D) nb) :: tl') →
        (∀ h2 tk2 nw2, (∃ vs' n' tl', nw2 = (l0, W.listOf #[] 0) :: (a.log, W.listOf (vs ++ vs').toArray n') :: (a.bus, instObj 53 a.bd) :: (a.bd, dictOf (lisEntry hsh tl a.D) nb) :: tl' ∧
            (∀ h' m', Fr g L' h' m' → News g L' h' tl' → IsNm h' x name ∧ EntsAt h' vs' (((hits ls name).take (i + 1)).flatMap (one (heard ls r) name data))) ∧ (∀ p ∈ tl', p.2.cls = .type "tuple") ∧ m9 "identifier" = some (.ref x) ∧ m9 "data" = some (.int data t)) →
          Fr g L' h2 m9 → News g L' h2 ((h5.objs.size, o) :: nw2) → (∀ p ∈ nw2, p.1 ≠ h5.objs.size) → Q9 .none { s with heap := h2, toks := tk2 }) →
        wpAny (model prg w) A9 (call (.ref f) [.ref x, .int data t]) Q9 E9 { s with heap := h9, toks := tk9 } := by
      intro A9 h9 tk9 m9 Q9 E9 a1 a2 a3 F9 hm3 hm4 hlets N9 hQ
      obtain ⟨hx9, he9⟩ := he _ _ F9 fun p hp => N9 p (by simp [hp])
      have kH9 : H.StaysIn h9 := by
        intro b o e
        by_cases q1 : b = a.bus
        · subst q1; rw [BO.inst] at e; cases e; exact N9.get (by k_mem)
        · by_cases q2 : b = a.bd
          · subst q2; rw [BO.dict] at e; cases e; exact N9.get (by k_mem)
          · exact F9.keep _ _ (gk e q1 q2)
      have log9 : h9.get? a.log = some (W.listOf (vs ++ vs').toArray n') := N9.get (by k_mem)
      refine hears_call X T Z S kG kH9 BO kI zb zd TA la hl0 log9 (hhe.keeps kI) hx9 (la _ hlm) (by omega) a1 (by omega) (by omega) ?_ ?_
      · rw [List.length_append]
        have e6 : cap ls.length (r + 1) = ls.length * (1 + cap ls.length r) := rfl
        have e7 : 1 ≤ ls.length := List.length_pos_of_mem hlm
        have e8 := Nat.mul_le_mul_right (1 + cap ls.length r) e7
        omega
      · intro h2 tk2 vs2 n2 x2 l2 ents2
        have F2 : Fr g L' h2 m9 := fr_ext F9 x2 (by simpa using Ne.symm (N9 _ (List.Mem.tail _ (List.Mem.tail _ (List.Mem.head _)))).2.1) (by intro b hb; rcases List.mem_singleton.mp hb with rfl; exact (N9 _ (List.Mem.tail _ (List.Mem.tail _ (List.Mem.head _)))).2.2)
        have nlog : ∀ p ∈ tl', p.1 ≠ a.log := fun p hp => cls_ne (N9 p (by simp [hp])).1 log9 (by rw [ctl p hp]; simp)
        have N2 := ledger_upd (pre := [(h5.objs.size, o), (l0, W.listOf #[] 0)]) N9 x2 l2 (by
          intro p hp
          simp only [List.mem_cons, List.not_mem_nil, or_false] at hp
          rcases hp with rfl | rfl
          · exact Ne.symm (off (a.log, W.listOf (vs ++ vs').toArray n') (by simp))
          · exact Nat.ne_of_gt lt5.1) (by
          intro p hp
          simp only [List.mem_cons] at hp
          rcases hp with rfl | rfl | hp
          · exact ne1
          · exact ne2
          · exact nlog p hp)
        obtain ⟨tl2, N3, k3, c3⟩ := entsLedger F2 ents2
        have eit : h2.get? h5.objs.size = some o := N2.get (by simp)
        refine hQ h2 tk2 _ ⟨vs' ++ vs2, n2, tl2 ++ tl', rfl, fun h' m' F' N' => ?_, cls_app c3 ctl, hm3, hm4⟩ F2 ?_ ?_
        · obtain ⟨z1, z2⟩ := he h' m' F' (news_right N')
          refine ⟨z1, ?_⟩
          rw [htake, List.flatMap_append, List.flatMap_cons, List.flatMap_nil, List.append_nil]
          refine z2.append ?_
          unfold one
          rw [if_pos hlets]
          exact k3 h' m' F' (news_left N')
        · intro p hp
          simp only [List.mem_cons, List.mem_append] at hp
          rcases hp with rfl | rfl | rfl | rfl | rfl | hp | hp
          · exact N2 _ (by simp)
          · exact N2 _ (by simp)
          · rw [← List.append_assoc]; exact N2 _ (by simp)
          · exact N2 _ (by simp)
          · exact N2 _ (by simp)
          · exact N3 _ hp
          · exact N2 _ (by simp [hp])
        · intro p hp
          simp only [List.mem_cons, List.mem_append] at hp
          rcases hp with rfl | rfl | rfl | rfl | hp | hp
          · exact off _ (by simp)
          · exact off (a.log, W.listOf (vs ++ vs').toArray n') (by simp)
          · exact off _ (by simp)
          · exact off _ (by simp)
          · exact cls_ne (N3 p hp).1 eit (by rw [c3 p hp, Io.1]; simp)
          · exact off p (by simp [hp])
    rcases hfv with ⟨rfl, hs⟩ | ⟨q, rfl, hq⟩
    · k_steps
      rename News _ _ _ _ => N9
      rename Fr _ _ _ _ => F9
      refine hear hh rfl rfl F9 hm1 hm2 (by unfold lets; simp [hs]) N9 fun h2 tk2 nw2 hp2 F2 N2 off2 => ?_
      (try dsimp only)
      refine wpAny_execs_nil ?_
      (try dsimp only)
      refine wpAny_execs_nil ?_
      refine' ⟨rfl, h2, tk2, ?m80, nw2, rfl, ?p80, ?F80, N2, off2⟩
      (case F80 => exact F2)
      (case p80 => exact hp2)
    · have fnq : FnG g q := by
        obtain ⟨cS, doc, pm, cdv, ct, t', h1, _⟩ := hq
        exact ⟨_, Ig _ _ h1⟩
      k_steps
      rename News _ _ _ _ => N9
      rename Fr _ _ _ _ => F9
      refine flt_call X' T' F9.keep (by simp only [depth_deeper]; omega) ((hq.keeps Ig).keeps F9.keep) fun h2 tk2 x2 => ?_
      have F2 := fr_keep F9 x2
      have N2 := news_keep N9 x2
      clear F9 N9
      cases hlets : lets lis data with
      | true =>
        rw [show (lis.sieve == 2 || data.fmod 2 == lis.sieve) = true from hlets]
        dsimp only
        k_steps
        rename News _ _ _ _ => N9
        rename Fr _ _ _ _ => F9
        refine hear hh rfl rfl F9 hm1 hm2 hlets N9 fun h2 tk2 nw2 hp2 F2 N2 off2 => ?_
        (try dsimp only)
        refine wpAny_execs_nil ?_
        (try dsimp only)
        refine wpAny_execs_nil ?_
        refine' ⟨rfl, h2, tk2, ?m81, nw2, rfl, ?p81, ?F81, N2, off2⟩
        (case F81 => exact F2)
        (case p81 => exact hp2)
      | false =>
        rw [show (lis.sieve == 2 || data.fmod 2 == lis.sieve) = false from hlets]
        dsimp only
        k_steps
        rename News _ _ _ _ => N9
        rename Fr _ _ _ _ => F9
        refine' ⟨rfl, h2, _, ?m82, _, rfl, ?p82, ?F82, N9, off⟩
        (case F82 => exact F9)
        (case p82 =>
          refine ⟨vs', n', tl', rfl, fun h' m' F' N' => ?_, ctl, hm1, hm2⟩
          obtain ⟨z1, z2⟩ := he h' m' F' N'
          refine ⟨z1, ?_⟩
          rw [htake, List.flatMap_append, List.flatMap_cons, List.flatMap_nil, List.append_nil]
          have e9 : one (heard ls r) name data lis = [] := by unfold one; rw [if_neg (by rw [hlets]; simp)]
          rw [e9, List.append_nil]
          exact z2)
  case fin =>
    rintro h tk m nw ⟨vs', n', tl', rfl, he, ctl, hm1, hm2⟩ F N
    dsimp only
    refine wpAny_execs_nil ?_
    dsimp only
    obtain ⟨_, ents⟩ := he _ _ F fun p hp => N p (by simp [hp])
    rw [List.take_of_length_le (by rw [← hpairs.length_eq]; simp)] at ents
    refine hQ h tk vs' n' ?_ (N.get (by k_mem)) ents
    intro b o e hb
    by_cases q1 : b = a.bus
    · subst q1; rw [kH _ _ BO.inst] at e; cases e; exact N.get (by k_mem)
    · by_cases q2 : b = a.bd
      · subst q2; rw [kH _ _ BO.dict] at e; cases e; exact N.get (by k_mem)
      · exact F.keep _ _ (eg' _ _ e (by simp at hb; simp [hb, q1, q2]))
theorem emit_spec {w : World} {G0 : Heap} {a : Adr} {loose mean mg mb} (X : (hd.heap_39 w.params).In G0) (T : Top topProg loose mean mg mb G0) (Z : Fresh G0 a) : ∀ r, 1 ≤ r → EmitSpec w G0 a r
  | r + 1, _ => emit_step X T Z fun h => emit_spec X T Z r h
end Mine
end
section
open PySem PySem.W PySem.Calls PyProof.Rows
namespace Mine
set_option maxRecDepth 100000
set_option maxHeartbeats 2000000
theorem adjust_upto (b n : Nat) : Builtin.Slice.sliceAdjust none (some (b : Int)) 1 (n : Int) = (0, ((min b n : Nat) : Int)) := by
  unfold Builtin.Slice.sliceAdjust
  have h1 : ¬ ((1 : Int) < 0) := by omega
  have h2 : ¬ ((b : Int) < 0) := by omega
  simp only [h1, h2, if_false]
  congr 1
  omega
theorem places_upto (k : Nat) : Builtin.Slice.slicePlaces 0 (k : Int) 1 = k := by
  unfold Builtin.Slice.slicePlaces
  have h1 : (1 : Int) > 0 := by omega
  simp only [h1, if_true, Int.ediv_one]
  split <;> omega
theorem sliceApplied_upto {prog : Program} {w : World} {A : Around} {E : Value → Shared → Prop} {s : Shared} {sl : Addr} {b n : Nat} {u : Tok} {Q : Int × Int × Nat → Shared → Prop} (hs : s.heap.IsSliceOf sl .none (.int b u) .none) (h : Q (0, 1, min b n) s) :
    wpAny (model prog w) A (Builtin.Slice.sliceApplied (.ref sl) (pure (n : Int))) Q E s := by
  obtain ⟨os, hos, hcs, hds⟩ := id hs
  unfold Builtin.Slice.sliceApplied Builtin.Slice.sliceFields
  refine wpAny_bind (wpAny_bind (wpAny_field hos hds (x := .none) rfl (wpAny_bind (wpAny_field hos hds (x := .int b u) rfl (wpAny_bind (wpAny_field hos hds (x := .none) rfl (wpAny_pure ?_)))))))
  refine wpAny_bind (slicePart_none ?_)
  show wpAny _ _ (if ((1 : Int) == 0) = true then _ else _) _ _ s
  rw [if_neg (by decide)]
  refine wpAny_bind (slicePart_none (wpAny_bind (slicePart_int (wpAny_bind (wpAny_pure ?_)))))
  show wpAny _ _ (match Builtin.Slice.sliceAdjust none (some (b : Int)) 1 (n : Int) with | (lo, hi) => pure (lo, (1 : Int), Builtin.Slice.slicePlaces lo hi 1)) _ _ s
  rw [adjust_upto b n]
  show wpAny _ _ (pure ((0 : Int), (1 : Int), Builtin.Slice.slicePlaces 0 ((min b n : Nat) : Int) 1)) _ _ s
  rw [places_upto]
  exact wpAny_pure h
theorem range_pick (xs : List Value) : ∀ k : Nat, k ≤ xs.length → (List.range k).filterMap (fun i => xs[i]?) = xs.take k
  | 0, _ => rfl
  | k + 1, h => by
    rw [List.range_succ, List.filterMap_append, range_pick xs k (by omega)]
    rw [List.take_add_one]
    congr 1
theorem pick_upto (xs : Array Value) (k : Nat) (hk : k ≤ xs.size) : ((List.range k).filterMap fun (i : Nat) => xs[((0 : Int) + (i : Int) * 1).toNat]?).toArray = (xs.toList.take k).toArray := by
  have e : (fun (i : Nat) => xs[((0 : Int) + (i : Int) * 1).toNat]?) = fun i => xs.toList[i]? := by
    funext i
    have : ((0 : Int) + (i : Int) * 1).toNat = i := by omega
    rw [this, Array.getElem?_toList]
  rw [e, range_pick _ _ (by simpa using hk)]
theorem getItem_tuple_upto {w : World} {A : Around} {E : Value → Shared → Prop} {s : Shared} {t sl : Addr} {items : Array Value} {b : Nat} {u : Tok} {Q : Value → Shared → Prop} (ht : IsTup s.heap t items) (hs : s.heap.IsSliceOf sl .none (.int b u) .none)
    (h1 : items.size ≤ b → Q (.ref t) s)
    (h2 : b < items.size → Q (.ref s.heap.objs.size) { s with heap := s.heap.push (tupObj (items.toList.take b).toArray 0) })
    (hsz : items.size ≤ sizeLine) : wpAny (model prg w) A (getItem (.ref t) (.ref sl)) Q E s := by
  have htake : sizeOk (.seq (items.toList.take b).toArray) := by
    show (items.toList.take b).toArray.size ≤ sizeLine
    rw [List.size_toArray, List.length_take, Array.length_toList]
    omega
  obtain ⟨os, hos, hcs, hds⟩ := id hs
  have hTs : s.TypeIs (.ref sl) "slice" := ⟨os, hos, hcs⟩
  unfold getItem
  try with_reducible refine wpAny_holding ?_
  first | refine wpAny_bind (wpAny_pure ?_) | skip
  refine wpAny_bind (wpAny_sequenceKey ht.typeIs (by decide) ?_)
  refine wpAny_bind (wpAny_callSpecial?_slot (name := Str.ofString "__getitem__") ht.typeIs slot_tuple_getitem
    (wpAny_call_entry slot_tuple_getitem ht.typeIs entry_tuple_getitem ?_ (args_tuple_getitem _ _)))
  show wpAny _ _ (Builtin.Tuple.tupleItemsOf (.ref t) >>= _) _ _ s
  refine wpAny_bind (tupleItemsOf_ ht ?_)
  refine wpAny_bind (wpAny_typeOf hTs ?_)
  rw [if_pos (by decide)]
  refine wpAny_bind (sliceApplied_upto hs ?_)
  show wpAny _ _ (if ((0 : Int) == 0 && (1 : Int) == 1 && (min b items.size) == items.size) = true then _ else _) _ _ s
  by_cases hb : items.size ≤ b
  · rw [if_pos (by simp; omega)]
    unfold Builtin.Tuple.tupleIsExact
    refine wpAny_bind (wpAny_bind (wpAny_typeOf ht.typeIs (wpAny_pure ?_)))
    rw [if_pos (by decide)]
    refine wpAny_bind (wpAny_rule ?_)
    first
      | exact wpAny_bind (wpAny_pure (wpAny_pure ⟨_, rfl, wpAny_pure (h1 hb)⟩))
      | exact wpAny_pure ⟨_, rfl, wpAny_pure (h1 hb)⟩
      | exact wpAny_bind (wpAny_pure ⟨_, rfl, wpAny_pure (h1 hb)⟩)
  · have hno : ¬ (((0 : Int) == 0 && (1 : Int) == 1 && (min b items.size) == items.size) = true) := by
      have e : (min b items.size == items.size) = false := by rw [beq_eq_false_iff_ne]; omega
      rw [e]; simp
    rw [if_neg hno]
    have e : min b items.size = b := by omega
    rw [e, pick_upto items b (by omega)]
    have h2' := h2 (by omega)
    first
      | exact wpAny_bind (m := Builtin.Tuple.tupleExact _) (wpAny_newObj_type (wpAny_pure ⟨_, rfl, wpAny_pure h2'⟩) htake)
      | exact wpAny_bind (m := Builtin.Tuple.tupleExact _) (wpAny_newObj_type (wpAny_bind (wpAny_pure (wpAny_pure ⟨_, rfl, wpAny_pure h2'⟩))) htake)
      | exact wpAny_bind (wpAny_bind (m := Builtin.Tuple.tupleExact _) (wpAny_newObj_type (wpAny_pure (wpAny_pure ⟨_, rfl, wpAny_pure h2'⟩)) htake))
      | exact wpAny_bind (wpAny_bind (m := Builtin.Tuple.tupleExact _) (wpAny_newObj_type (wpAny_pure ⟨_, rfl, wpAny_pure h2'⟩) htake))
theorem StrsAre.len : ∀ {vs : List Value} {ks : List Str}, StrsAre vs ks → vs.length = ks.length
  | _, _, .nil => rfl
  | _, _, .cons _ _ r => by simp [StrsAre.len r]
theorem StrsAre.tk : ∀ {vs : List Value} {ks : List Str} (b : Nat), StrsAre vs ks → StrsAre (vs.take b) (ks.take b)
  | _, _, 0, _ => by simp only [List.take_zero]; exact .nil
  | _, _, _ + 1, .nil => by simp only [List.take_nil]; exact .nil
  | _, _, b + 1, .cons y t r => .cons y t (StrsAre.tk b r)
/-- name[:b], as the walk meets it -/
theorem slice_nm {w : World} {A : Around} {E : Value → Shared → Prop} {s : Shared} {g : Heap} {L : Addr} {m : Str → Option Value} {news : List (Addr × Obj)} {value slice : Expr} {t : Addr} {ks : List Str} {b : Nat} {u : Tok} {Q : Value → Shared → Prop}
    (F : Fr g L s.heap m) (N : News g L s.heap news) (ht : IsNm s.heap t ks) (hks : ks.length ≤ 1000)
    (h : ∀ y h', Ext [] s.heap h' → Fr g L h' m → News g L h' news → IsNm h' y (ks.take b) → Q (.ref y) { s with heap := h' })
    (hs : subscripted slice false (.ref t) (.ref s.heap.objs.size) = operate [.ref s.heap.objs.size, .ref t] (getItem (.ref t) (.ref s.heap.objs.size)))
    (hg : ∀ r, letTemporaryGo value (.ref t) r = pure ()) :
    wpAny (model prg w) A (subscriptTail value slice (.ref t) (.ref s.heap.objs.size)) Q E { s with heap := s.heap.push { cls := .type "slice", data := .fields #[.none, .int b u, .none] } } := by
  obtain ⟨vs, n, e, q⟩ := ht
  have e' : (s.heap.push { cls := .type "slice", data := .fields #[.none, .int b u, .none] }).get? t = some (tupObj vs n) := Heap.get?_push_of_some _ e
  have hl : vs.size = ks.length := by rw [← Array.length_toList]; exact StrsAre.len q
  refine subscriptTail_ops (s := { s with heap := s.heap.push { cls := .type "slice", data := .fields #[.none, .int b u, .none] } }) (show Shared.TypeIs { s with heap := s.heap.push { cls := .type "slice", data := .fields #[.none, .int b u, .none] } } (.ref t) "tuple" from ⟨_, e', rfl⟩) slot_tuple_getitem.lookup
    (getItem_tuple_upto ⟨_, e', rfl, n, rfl⟩ (Heap.IsSliceOf.new ..) (fun hb => ?_) (fun hb => ?_) (by rw [hl, PySem.sizeLine_eq]; omega)) hs hg
  · refine h t _ (fun b o z _ => Heap.get?_push_of_some _ z) (F.push _) (N.grown fun _ _ z => Heap.get?_push_of_some _ z) ⟨vs, n, e', ?_⟩
    rw [List.take_of_length_le (by omega)]; exact q
  · refine h _ _ (fun b o z _ => Heap.get?_push_of_some _ (Heap.get?_push_of_some _ z)) ((F.push _).push _) (N.grown fun _ _ z => Heap.get?_push_of_some _ (Heap.get?_push_of_some _ z)) ⟨_, 0, Heap.get?_push_size _ rfl, ?_⟩
    exact StrsAre.tk b q
theorem eq_names {w : World} {A : Around} {E : Value → Shared → Prop} {s : Shared} {a b : Addr} {x y : List Str} {Q : Value → Shared → Prop} (hu : A.units < cLine) (hx : IsNm s.heap a x) (hy : IsNm s.heap b y) (h : Q (.bool (decide (x = y))) s) :
    wpAny (model prg w) A (compareOp .Eq (.ref a) (.ref b)) Q E s := by
  have hx' : IsTupleKey (PySem.strKind prg w) s.heap x a := hx.key
  have hy' : IsTupleKey (PySem.strKind prg w) s.heap y b := hy.key
  refine cmp_ofEq ?_
  exact wpAny_richCompare_same_room (op := .Eq) hx'.typeIs hy'.typeIs PySem.F.slot_tuple_eq
    (wpAny_call_entry PySem.F.slot_tuple_eq hx'.typeIs PySem.F.entry_tuple_eq (tuple_eq_tree hx' hy' ⟨_, rfl, (fun e => nomatch e), h⟩) (PySem.F.args_tuple_eq_2 _ _)) hu
theorem len_tupG {w : World} {A : Around} {E : Value → Shared → Prop} {s : Shared} {g : Heap} {L t : Addr} {m : Str → Option Value} {its : Array Value} {Q : Value → Shared → Prop} (F : Fr g L s.heap m) (tp : IsTup g t its) (hfit : (its.size : Int) < 2 ^ 63)
    (h : Q (.int its.size (s.toks + 1)) { s with toks := s.toks + 1 + 1 }) : wpAny (model prg w) A (call (.builtin "len") [.ref t]) Q E s := by
  exact call_function_entry kind_len plain_len entry_len (args_len1 _) (len_entry_tuple (tp.keeps F.keep) hfit h)
end Mine
end
section
open PySem PySem.W PySem.Calls PyProof.Rows
namespace Mine
set_option maxRecDepth 100000
set_option maxHeartbeats 4000000
set_option pp.deepTerms false
set_option pp.deepTerms.threshold 6
theorem fillme7 : (fun (_ : OpenLaw) (_ : Params → Frag) => True) PySem.Challenge.rw_bs0024_01 hd.heap_39 := by
  w_top off
  k_fill
  trivial
def KeptAt (I : Heap) (v : Value) (l : Lis) : Prop := ∃ p o av t1 t2 n, v = .ref p ∧ I.get? p = some (tupObj #[.int l.num t1, .ref o, .int l.sieve t2, av] n) ∧ IsNm I o l.own ∧ AnsAt I av l.ans
theorem KeptAt.keeps {h h' : Heap} {v : Value} {l : Lis} (x : KeptAt h v l) (k : ∀ b o, h.get? b = some o → h'.get? b = some o) : KeptAt h' v l := by
  obtain ⟨p, o, av, t1, t2, n, e, h1, h2, h3⟩ := x
  exact ⟨p, o, av, t1, t2, n, e, k _ _ h1, h2.keeps (k _), h3.keeps k⟩
def HeardSpec (w : World) (G0 : Heap) (lg : Addr) (r : Nat) : Prop :=
  ∀ (I H : Heap) (kp : Addr) (its : Array Value) (nk : Nat) (ls : List Lis) (A : Around) (s : Shared) (Q E : Value → Shared → Prop) (nm : Addr) (name : List Str) (data : Int) (t : Tok) (vs : List Value) (n : Nat),
    G0.StaysIn H → H.StaysIn s.heap → I.StaysIn H → H.get? kp = some (W.listOf its nk) → All2 (KeptAt I) its.toList ls → (∀ l ∈ ls, l.own.length ≤ 1000 ∧ ∀ ks, l.ans = some ks → ks.length ≤ 1000) → name.length ≤ 1000 → H.get? lg = none → G0.get? lg = none → s.heap.get? lg = some (W.listOf vs.toArray n) → IsNm s.heap nm name → data + r = 3 → A.handled = none →
    A.depth + 40 * r + 40 < recursionLimit → A.units + 100 * r + 100 < cLine → vs.length + cap ls.length r ≤ 1000000 →
    (∀ h' tk vs' n', Ext [lg] s.heap h' → h'.get? lg = some (W.listOf (vs ++ vs').toArray n') → EntsAt h' vs' (heard ls r name data) → Q .none { s with heap := h', toks := tk }) →
    wpAny (model prg w) A (call (.ref 76) [.ref kp, .ref nm, .int data t, .ref lg]) Q E s
theorem flatMap_filter' {α β : Type} (p : α → Bool) (f : α → List β) : ∀ l : List α, (l.filter p).flatMap f = l.flatMap fun x => if p x = true then f x else []
  | [] => rfl
  | x :: l => by
    rw [List.filter_cons]
    cases hp : p x with
    | true => rw [if_pos rfl, List.flatMap_cons, List.flatMap_cons, flatMap_filter' p f l, if_pos hp]
    | false => rw [if_neg (by simp), List.flatMap_cons, flatMap_filter' p f l, if_neg (by rw [hp]; simp)]; rfl
local macro_rules | `(tactic| walk_at "assign Tuple") => `(tactic| (k_here; (with_reducible show wpAny _ _ (assign (Expr.Tuple _ _ _) _ (Value.ref _)) _ _ _); k_dflt (refine' unpackG ?h ?F ?N ?t ?n ?z ?_; (case h => assumption); (case F => k_asm); (case N => k_asm); (case t => assumption); (case n => rfl); (case z => rfl); k_whole); intro h' F' N'))
local macro_rules | `(tactic| walk_at "eval Name") => `(tactic| (k_here; k_dflt (refine' nameX_L ?F ?v ?_ ?k ?a ?b; (case k => rfl); (case a => rfl); (case b => rfl); (case F => k_asm); (case v => first | exact rfl | assumption); k_whole)))
local macro_rules | `(tactic| walk_at "call builtin:len") => `(tactic| (k_here; (with_reducible show wpAny _ _ (call _ [Value.ref _]) _ _ _); k_dflt (refine' len_tupG ?F ?t ?z ?_; (case F => k_asm); (case t => assumption); (case z => assumption); k_whole)))
local macro_rules | `(tactic| k_all) => `(tactic| assumption)
theorem heard_step {w : World} {G0 : Heap} {lg : Addr} {r : Nat} {loose mean mg mb} (X : (hd.heap_39 w.params).In G0) (T : Top topProg loose mean mg mb G0) (S : 1 ≤ r → HeardSpec w G0 lg r) : HeardSpec w G0 lg (r + 1) := by
  intro I H kp its nk ls A s Q E nm name data t vs n kG kH kI hkp hkept hown hnl hl0 g0 hlog hnm hdr hh hdp hu hsz hQ
  refine wpAny_call ?_
  have hlne : ∀ {b : Addr} {o : Obj}, H.get? b = some o → b ≠ lg := fun e q => by rw [q, hl0] at e; cases e
  refine' enterK (G0 := G0) [(lg, W.listOf vs.toArray n)] ?hmu ?hm0 (fun b o e => kH _ _ (kG _ _ e)) X T.nolimit ?ho ?hcd ?hroom ?hb ?hl ?_ ?hcell ?c1 ?c2 ?c3
  (case ho => k_is)
  (case hcd => k_is)
  (case hmu => intro p hp; rcases List.mem_singleton.mp hp with rfl; exact hlog)
  (case hm0 => intro p hp; rcases List.mem_singleton.mp hp with rfl; exact g0)
  (case hroom => omega)
  (case hb => exact BindsTo.of_eq rfl)
  (case hl => exact locs rfl)
  (case hcell => decide)
  (case c1 => exact rfl)
  (case c2 => exact rfl)
  (case c3 => exact rfl)
  intro g L' h₁ kg eg og hL F N
  have X' := X.keeps kg
  have T' := T.keeps kg
  have eg' : Ext [lg] s.heap g := eg
  have Hg : H.StaysIn g := fun b o e => eg' _ _ (kH _ _ e) (by simpa using hlne e)
  have Ig : I.StaysIn g := fun b o e => Hg _ _ (kI _ _ e)
  have gnm : IsNm g nm name := hnm.keeps fun o e => eg' _ _ e (by simpa using hnm.ne_list hlog)
  have gkp : g.IsList kp its := ⟨_, Hg _ _ hkp, rfl, nk, rfl⟩
  dsimp only
  k_steps
  refine wpAny_For ?_ (fun _ => rfl)
  k_steps
  rename Fr _ _ _ _ => F9
  rename News _ _ _ _ => N9
  refine wpAny_pyIter_list (items := its) ⟨_, F9.keep _ _ (Hg _ _ hkp), rfl, nk, rfl⟩ ?_
  have N10 := N9.push F9 { cls := .type "list_iterator", data := .fields #[.ref kp, .int 0 0] }
  have F10 := F9.push { cls := .type "list_iterator", data := .fields #[.ref kp, .int 0 0] }
  let ad : List Lis → List Ent := fun l => l.flatMap fun x => if name.isPrefixOf x.own = true then one (heard ls r) name data x else []
  refine loopN (s₀ := s) (A := A.deeper _) hh (N10 _ (.head _)).2.2 (N10 _ (.head _)).2.1 (items := its) (fun i xv hx => ?_)
    (fun i h m nw => ∃ vs' n' tl', nw = (lg, W.listOf (vs ++ vs').toArray n') :: tl' ∧
      (∀ h' m', Fr g L' h' m' → News g L' h' tl' → EntsAt h' vs' (ad (ls.take i))) ∧ (∀ p ∈ tl', p.2.cls = .type "tuple") ∧ m "kept" = some (.ref kp) ∧ m "name" = some (.ref nm) ∧ m "data" = some (.int data t) ∧ m "log" = some (.ref lg))
    ?hl ?hP ?turn ?fin ⟨[], n, [], by simp, fun h' m' F' N' => .nil, (fun _ z => nomatch z), rfl, rfl, rfl, rfl⟩ F10 ⟨rfl, rfl⟩ N10 (fun p hp => Nat.ne_of_lt (Heap.lt_size (N9 p hp).1))
  · obtain ⟨lis, _, p, o, av, t1, t2, k, e1, _⟩ := hkept.get (by simpa using hx)
    exact ⟨p, e1⟩
  case hl =>
    rintro i h m nw _ F' N'
    exact ⟨_, F'.keep _ _ (Hg _ _ hkp), rfl, nk, rfl⟩
  case hP =>
    rintro i h h' m nw o p0 e1 e2 x1
    exact p0
  case turn =>
    rintro i xv h tk m nw o hxi ⟨vs', n', tl', rfl, he, ctl, hm1, hm2, hm3, hm4⟩ Io F N off
    obtain ⟨lis, hlis, p, ow, av, t1, t2, np, rfl, hp, how, hans⟩ := hkept.get (by simpa using hxi)
    have tp : IsTup g p #[.int lis.num t1, .ref ow, .int lis.sieve t2, av] := ⟨_, Ig _ _ hp, rfl, np, rfl⟩
    have gow : IsNm g ow lis.own := how.keeps (Ig _)
    obtain ⟨inm, tnm, snm⟩ := gnm.tup
    obtain ⟨iow, tow, sow⟩ := gow.tup
    have szn' : inm.size = name.length := by rw [← Array.length_toList]; exact StrsAre.len snm
    have szn : (inm.size : Int) < 2 ^ 63 := by rw [szn']; omega
    have nit : @Ne Nat h₁.objs.size lg := fun z => off (lg, W.listOf (vs ++ vs').toArray n') (by simp) z.symm
    have ntl : ∀ p ∈ tl', p.1 ≠ lg := fun p hp => cls_ne (N p (by simp [hp])).1 (N (lg, W.listOf (vs ++ vs').toArray n') (by simp)).1 (by rw [ctl p hp]; simp)
    have htake : ls.take (i + 1) = ls.take i ++ [lis] := by rw [List.take_add_one, hlis]; rfl
    have hlen : vs'.length ≤ ls.length * (1 + cap ls.length r) - (1 + cap ls.length r) := by
      have e1 := (he _ _ F fun p hp => N p (by simp [hp])).length_eq
      have hi : i < ls.length := (List.getElem?_eq_some_iff.mp hlis).1
      have e2 : (ad (ls.take i)).length ≤ (ls.take i).length * (1 + cap ls.length r) := flatMap_cap (fun x => by
        split
        · exact one_cap (heard_cap ls r) name data x
        · exact Nat.zero_le _) (ls.take i)
      have e4 : (ls.take i).length ≤ ls.length - 1 := by rw [List.length_take]; omega
      have e5 := Nat.mul_le_mul_right (1 + cap ls.length r) e4
      rw [Nat.sub_mul, Nat.one_mul] at e5
      omega
    have hcap : cap ls.length (r + 1) = ls.length * (1 + cap ls.length r) := rfl
    have hpos : 1 + cap ls.length r ≤ ls.length * (1 + cap ls.length r) := by
      have e7 : 1 ≤ ls.length := List.length_pos_of_mem (List.mem_of_getElem? hlis)
      have e8 := Nat.mul_le_mul_right (1 + cap ls.length r) e7
      omega
    have hz9 : (vs ++ vs').toArray.size ≤ sizeLine := by
      rw [List.size_toArray, List.length_append, PySem.sizeLine_eq]
      omega
    have hlm : lis ∈ ls := List.mem_of_getElem? hlis
    have hpf : decide (lis.own.take inm.size = name) = name.isPrefixOf lis.own := by
      rw [szn', Bool.eq_iff_iff, decide_eq_true_iff, List.isPrefixOf_iff_prefix, List.prefix_iff_eq_take, eq_comm]
    have close : ∀ {h9 : Heap} {tk9 : Nat} {m9 : Str → Option Value} {vs2 : List Value} {n2 : Nat} {tl2 : List (Addr × Obj)}, Fr g L' h9 m9 → (m9 "kept" = some (.ref kp) ∧ m9 "name" = some (.ref nm) ∧ m9 "data" = some (.int data t) ∧ m9 "log" = some (.ref lg)) →
        h9.get? h₁.objs.size = some o → h9.get? lg = some (W.listOf (vs ++ (vs' ++ vs2)).toArray n2) → News g L' h9 tl' → News g L' h9 tl2 →
        (∀ h' m', Fr g L' h' m' → News g L' h' tl2 → EntsAt h' vs2 (if name.isPrefixOf lis.own = true then one (heard ls r) name data lis else [])) → (∀ p ∈ tl2, p.2.cls = .type "tuple") →
        TurnEnd s g L' h₁.objs.size o (fun h m nw => ∃ vs' n' tl', nw = (lg, W.listOf (vs ++ vs').toArray n') :: tl' ∧
          (∀ h' m', Fr g L' h' m' → News g L' h' tl' → EntsAt h' vs' (ad (ls.take (i + 1)))) ∧ (∀ p ∈ tl', p.2.cls = .type "tuple") ∧ m "kept" = some (.ref kp) ∧ m "name" = some (.ref nm) ∧ m "data" = some (.int data t) ∧ m "log" = some (.ref lg))
          .next { s with heap := h9, toks := tk9 } := by
      intro h9 tk9 m9 vs2 n2 tl2 F9 hm9 eit elg N3 N4 k4 c4
      have git := (N (h₁.objs.size, o) (.head _)).2
      have glg := (N (lg, W.listOf (vs ++ vs').toArray n') (by simp)).2
      refine ⟨rfl, h9, tk9, m9, _, rfl, ⟨vs' ++ vs2, n2, tl2 ++ tl', rfl, fun h' m' F' N' => ?_, cls_app c4 ctl, hm9⟩, F9, ?_, ?_⟩
      · show EntsAt h' (vs' ++ vs2) ((ls.take (i + 1)).flatMap _)
        rw [htake, List.flatMap_append, List.flatMap_cons, List.flatMap_nil, List.append_nil]
        exact (he h' m' F' (news_right N')).append (k4 h' m' F' (news_left N'))
      · exact news_cons eit git.1 git.2 (news_cons elg glg.1 glg.2 (news_app N4 N3))
      · intro p hp
        simp only [List.mem_cons, List.mem_append] at hp
        rcases hp with rfl | hp | hp
        · exact off (lg, W.listOf (vs ++ vs').toArray n') (by simp)
        · exact cls_ne (N4 p hp).1 eit (by rw [c4 p hp, Io.1]; simp)
        · exact off p (by simp [hp])
    have ea : ∀ (v : Value) (k : Nat), W.listOf ((vs ++ vs').toArray.push v) k = W.listOf (vs ++ (vs' ++ [v])).toArray k := fun v k => by simp
    have ent1 : ∀ {D : Addr} {k : Nat} {rest : List Ent}, (∀ h' m', Fr g L' h' m' → News g L' h' [(D, tupObj #[.int lis.num t1, .ref nm, .int data t] k)] → EntsAt h' [Value.ref D] ((lis.num, name, data) :: [])) := fun {D k rest} h' m' F' N' =>
      .cons ⟨D, nm, t1, t, k, rfl, N'.get (.head _), gnm.keeps (F'.keep _)⟩ .nil
    have rec1 : ∀ {A9 : Around} {h9 : Heap} {tk9 : Nat} {m9 : Str → Option Value} {D x : Addr} {ks : List Str} {t9 : Tok} {k : Nat} {Q9 E9 : Value → Shared → Prop}, A9.handled = none → A9.depth = A.depth + 1 → A9.units = A.units + 3 → Fr g L' h9 m9 → data < 2 → lis.ans = some ks → IsNm I x ks → name.isPrefixOf lis.own = true → lets lis data = true →
        (m9 "kept" = some (.ref kp) ∧ m9 "name" = some (.ref nm) ∧ m9 "data" = some (.int data t) ∧ m9 "log" = some (.ref lg)) →
        News g L' h9 ((D, tupObj #[.int lis.num t1, .ref nm, .int data t] k) :: (h₁.objs.size, o) :: (lg, W.listOf ((vs ++ vs').toArray.push (.ref D)) (n' + 1)) :: tl') →
        (∀ h2 tk2, TurnEnd s g L' h₁.objs.size o (fun h m nw => ∃ vs' n' tl', nw = (lg, W.listOf (vs ++ vs').toArray n') :: tl' ∧
          (∀ h' m', Fr g L' h' m' → News g L' h' tl' → EntsAt h' vs' (ad (ls.take (i + 1)))) ∧ (∀ p ∈ tl', p.2.cls = .type "tuple") ∧ m "kept" = some (.ref kp) ∧ m "name" = some (.ref nm) ∧ m "data" = some (.int data t) ∧ m "log" = some (.ref lg))
          .next { s with heap := h2, toks := tk2 } → Q9 .none { s with heap := h2, toks := tk2 }) →
        wpAny (model prg w) A9 (call (.ref 76) [.ref kp, .ref x, .int (data + 1) t9, .ref lg]) Q9 E9 { s with heap := h9, toks := tk9 } := by
      intro A9 h9 tk9 m9 D x ks t9 k Q9 E9 a1 a2 a3 F9 hlt ha hx hpre hlets hm9 N9 hQ9
      have log9 : h9.get? lg = some (W.listOf (vs ++ (vs' ++ [Value.ref D])).toArray (n' + 1)) := (N9.get (by k_mem)).trans (congrArg some (ea _ _))
      have Hh : H.StaysIn h9 := fun b o e => F9.keep _ _ (Hg _ _ e)
      have glg := (N (lg, W.listOf (vs ++ vs').toArray n') (by simp)).2
      have eD : h9.get? D = some (tupObj #[.int lis.num t1, .ref nm, .int data t] k) := N9.get (.head _)
      have nD : D ≠ lg := cls_ne eD log9 tup_ne_list
      refine S (by omega) I H kp its nk ls A9 _ _ _ x ks (data + 1) t9 (vs ++ (vs' ++ [Value.ref D])) (n' + 1) kG Hh kI hkp hkept hown ((hown _ hlm).2 _ ha) hl0 g0 log9 (hx.keeps fun o e => Hh _ _ (kI _ _ e)) (by omega) a1 (by omega) (by omega) ?_ ?_
      · simp only [List.length_append, List.length_cons, List.length_nil]; omega
      · intro h2 tk2 vs2 n2 x2 l2 e2
        have F2 : Fr g L' h2 m9 := fr_ext F9 x2 (by simpa using Ne.symm glg.1) (by intro b hb; rcases List.mem_singleton.mp hb with rfl; exact glg.2)
        have N3 : News g L' h2 tl' := news_ext (fun p hp => N9 p (by simp [hp])) x2 fun p hp => by simpa using ntl p hp
        have eit : h2.get? h₁.objs.size = some o := x2 _ _ (N9.get (by k_mem)) (by simpa using nit)
        obtain ⟨exs, Nex, kex, cex⟩ := entsLedger F2 e2
        have eD2 : h2.get? D = some (tupObj #[.int lis.num t1, .ref nm, .int data t] k) := x2 _ _ eD (by simpa using nD)
        have gD := (N9 _ (List.Mem.head _)).2
        refine hQ9 h2 tk2 (close (vs2 := Value.ref D :: vs2) (n2 := n2) (tl2 := (D, tupObj #[.int lis.num t1, .ref nm, .int data t] k) :: exs) F2 hm9 eit (l2.trans (by simp)) N3 (news_cons eD2 gD.1 gD.2 Nex) (fun h' m' F' N' => ?_) (fun p hp => ?_))
        · rw [if_pos hpre]
          unfold one
          rw [if_pos hlets]
          unfold answers
          rw [ha]
          dsimp only
          rw [if_pos hlt]
          exact .cons ⟨D, nm, t1, t, k, rfl, N'.get (.head _), gnm.keeps (F'.keep _)⟩ (kex h' m' F' fun p hp => N' p (.tail _ hp))
        · rcases List.mem_cons.mp hp with rfl | hp
          · rfl
          · exact cex p hp
    clear F9 N9 F10 N10
    k_steps
    rename Fr _ _ _ _ => F9
    rename News _ _ _ _ => N9
    refine slice_nm F9 N9 (gow.keeps (F9.keep _)) (hown _ hlm).1 (fun y h7 e7 F7 N7 hy7 => ?_) (by with_unfolding_all rfl) (fun _ => by with_unfolding_all rfl)
    clear F9 N9
    dsimp only
    k_steps
    refine eq_names (by simp only [Around.deeper_units]; omega) hy7 (gnm.keeps (Fr.keep (by assumption) _)) ?_
    rw [hpf]
    cases hpre : name.isPrefixOf lis.own with
    | false =>
      k_steps
      rename Fr _ _ _ _ => F9
      rename News _ _ _ _ => N9
      refine close (vs2 := []) (n2 := n') (tl2 := []) F9 ⟨hm1, hm2, hm3, hm4⟩ (N9.get (by k_mem)) ((N9.get (by k_mem)).trans (by simp)) (fun p hp => N9 p (by simp [hp])) News.nil (fun h' m' F' N' => ?_) (fun _ z => nomatch z)
      rw [hpre]; exact .nil
    | true =>
      cases ha : lis.ans with
      | none =>
        rw [ha] at hans
        replace hans : av = .none := hans
        subst hans
        k_steps
        · rename (lis.sieve = 2) => c1
          rename Fr _ _ _ _ => F9
          rename News _ _ _ _ => N9
          refine close (vs2 := [Value.ref _]) (n2 := n' + 1) (tl2 := [(_, tupObj #[.int lis.num t1, .ref nm, .int data t] 0)]) F9 ⟨hm1, hm2, hm3, hm4⟩ (N9.get (by k_mem)) ((N9.get (by k_mem)).trans (congrArg some (ea _ _))) (fun p hp => N9 p (by simp [hp])) (fun p hp => N9 p (by rcases List.mem_singleton.mp hp with rfl; exact List.Mem.head _)) (fun h' m' F' N' => ?_) (by simp)
          rw [if_pos hpre]
          unfold one
          rw [if_pos (show lets lis data = true by unfold lets; simp [c1])]
          unfold answers
          rw [ha]
          exact ent1 (rest := []) h' m' F' N'
        · rename (lis.sieve ≠ 2) => c1
          rename (data.fmod 2 = lis.sieve) => c2
          rename Fr _ _ _ _ => F9
          rename News _ _ _ _ => N9
          refine close (vs2 := [Value.ref _]) (n2 := n' + 1) (tl2 := [(_, tupObj #[.int lis.num t1, .ref nm, .int data t] 0)]) F9 ⟨hm1, hm2, hm3, hm4⟩ (N9.get (by k_mem)) ((N9.get (by k_mem)).trans (congrArg some (ea _ _))) (fun p hp => N9 p (by simp [hp])) (fun p hp => N9 p (by rcases List.mem_singleton.mp hp with rfl; exact List.Mem.head _)) (fun h' m' F' N' => ?_) (by simp)
          rw [if_pos hpre]
          unfold one
          rw [if_pos (show lets lis data = true by unfold lets; simp [c2])]
          unfold answers
          rw [ha]
          exact ent1 (rest := []) h' m' F' N'
        · rename (lis.sieve ≠ 2) => c1
          rename (data.fmod 2 ≠ lis.sieve) => c2
          rename Fr _ _ _ _ => F9
          rename News _ _ _ _ => N9
          refine close (vs2 := []) (n2 := n') (tl2 := []) F9 ⟨hm1, hm2, hm3, hm4⟩ (N9.get (by k_mem)) ((N9.get (by k_mem)).trans (by simp)) (fun p hp => N9 p (by simp [hp])) News.nil (fun h' m' F' N' => ?_) (fun _ z => nomatch z)
          rw [if_pos hpre]
          unfold one
          rw [if_neg (show ¬ lets lis data = true by unfold lets; simp [c1, c2])]
          exact .nil
      | some ks =>
        rw [ha] at hans
        obtain ⟨x, rfl, hx⟩ := hans
        k_steps
        · rename (lis.sieve = 2) => c1
          rename Fr _ _ _ _ => F9
          rename News _ _ _ _ => N9
          rename (data < 2) => hlt
          refine rec1 hh rfl rfl F9 hlt ha hx hpre (by unfold lets; simp [c1]) ⟨hm1, hm2, hm3, hm4⟩ N9 fun h2 tk2 te => ?_
          repeat (first | exact te | (refine wpAny_execs_nil ?_) | dsimp only)
        · rename (lis.sieve = 2) => c1
          rename Fr _ _ _ _ => F9
          rename News _ _ _ _ => N9
          refine close (vs2 := [Value.ref _]) (n2 := n' + 1) (tl2 := [(_, tupObj #[.int lis.num t1, .ref nm, .int data t] 0)]) F9 ⟨hm1, hm2, hm3, hm4⟩ (N9.get (by k_mem)) ((N9.get (by k_mem)).trans (congrArg some (ea _ _))) (fun p hp => N9 p (by simp [hp])) (fun p hp => N9 p (by rcases List.mem_singleton.mp hp with rfl; exact List.Mem.head _)) (fun h' m' F' N' => ?_) (by simp)
          rw [if_pos hpre]
          unfold one
          rw [if_pos (show lets lis data = true by unfold lets; simp [c1])]
          unfold answers
          rw [ha]
          dsimp only
          rw [if_neg (by omega)]
          exact ent1 (rest := []) h' m' F' N'
        · rename (lis.sieve ≠ 2) => c1
          rename (data.fmod 2 = lis.sieve) => c2
          rename Fr _ _ _ _ => F9
          rename News _ _ _ _ => N9
          rename (data < 2) => hlt
          refine rec1 hh rfl rfl F9 hlt ha hx hpre (by unfold lets; simp [c2]) ⟨hm1, hm2, hm3, hm4⟩ N9 fun h2 tk2 te => ?_
          repeat (first | exact te | (refine wpAny_execs_nil ?_) | dsimp only)
        · rename (lis.sieve ≠ 2) => c1
          rename (data.fmod 2 = lis.sieve) => c2
          rename Fr _ _ _ _ => F9
          rename News _ _ _ _ => N9
          refine close (vs2 := [Value.ref _]) (n2 := n' + 1) (tl2 := [(_, tupObj #[.int lis.num t1, .ref nm, .int data t] 0)]) F9 ⟨hm1, hm2, hm3, hm4⟩ (N9.get (by k_mem)) ((N9.get (by k_mem)).trans (congrArg some (ea _ _))) (fun p hp => N9 p (by simp [hp])) (fun p hp => N9 p (by rcases List.mem_singleton.mp hp with rfl; exact List.Mem.head _)) (fun h' m' F' N' => ?_) (by simp)
          rw [if_pos hpre]
          unfold one
          rw [if_pos (show lets lis data = true by unfold lets; simp [c2])]
          unfold answers
          rw [ha]
          dsimp only
          rw [if_neg (by omega)]
          exact ent1 (rest := []) h' m' F' N'
        · rename (lis.sieve ≠ 2) => c1
          rename (data.fmod 2 ≠ lis.sieve) => c2
          rename Fr _ _ _ _ => F9
          rename News _ _ _ _ => N9
          refine close (vs2 := []) (n2 := n') (tl2 := []) F9 ⟨hm1, hm2, hm3, hm4⟩ (N9.get (by k_mem)) ((N9.get (by k_mem)).trans (by simp)) (fun p hp => N9 p (by simp [hp])) News.nil (fun h' m' F' N' => ?_) (fun _ z => nomatch z)
          rw [if_pos hpre]
          unfold one
          rw [if_neg (show ¬ lets lis data = true by unfold lets; simp [c1, c2])]
          exact .nil
  case fin =>
    rintro h tk m nw ⟨vs', n', tl', rfl, he, ctl, hm⟩ F N
    dsimp only
    refine wpAny_execs_nil ?_
    dsimp only
    have ents := he _ _ F fun p hp => N p (by simp [hp])
    rw [List.take_of_length_le (by rw [← hkept.length_eq]; simp)] at ents
    have e9 : ad ls = heard ls (r + 1) name data := by
      show ls.flatMap _ = (ls.filter _).flatMap _
      exact (flatMap_filter' _ _ ls).symm
    rw [e9] at ents
    exact hQ h tk vs' n' (Fr.ext F eg') (N.get (by k_mem)) ents
theorem heard_spec {w : World} {G0 : Heap} {lg : Addr} {loose mean mg mb} (X : (hd.heap_39 w.params).In G0) (T : Top topProg loose mean mg mb G0) : ∀ r, 1 ≤ r → HeardSpec w G0 lg r
  | r + 1, _ => heard_step X T fun h => heard_spec X T r h
end Mine
end
section
open PySem PySem.W PySem.Calls PyProof.Rows
namespace Mine
set_option maxRecDepth 100000
set_option maxHeartbeats 2000000
/-- what a generator expression hands on: a value and what the heap says of it -/
def gpH (C : Addr) (fp wr : List Addr) (n₀ : Nat) (F : Nat → Heap → Value → Prop) : Protocol := fun m s₀ v s kap =>
  F (n₀ - 1 - m) s.heap v ∧ GenSince C wr s₀ s ∧ ∀ s'' : Shared, (∀ b ∈ C :: fp, ∀ o, s.heap.get? b = some o → s''.heap.get? b = some o) → kap (.send .none) s''
def endH (C : Addr) (wr : List Addr) : GenEnd := fun n s₀ r s₁ => r = .ok .next ∧ (n = 0 ∧ GenSince C wr s₀ s₁)
section
variable {w : World} {A : Around}
theorem segLoopH {elt iter : Expr} {x : Str} {px : Pos} {scope : Scope} {pos : Pos} {I : Addr} {fp wr : List Addr} {n₀ : Nat} {P : Nat → Value → Prop} {St₀ : Nat → Heap → Prop} {cenv : Env}
    (hh : A.handled = none) (W₀ : ∀ A' : Around, A'.handled = none → Walks prg w A' I fp wr n₀ P St₀) (F : Nat → Heap → Value → Prop) (href : Heap)
    (hx : cenv.kindOf x = some .local) (hp : (cenv.scope.kind == .class || (cenv.scope.kind == .module && cenv.locals != cenv.globals)) = false)
    (hco : cenv.scope.isCoroutine = false) (hCf : cenv.locals ∉ fp)
    (hq : ∀ (A' : Around) E' i v (s₂ : Shared) m₂, A'.handled = none → P i v → s₂.heap.Ns cenv.locals m₂ → m₂ x = some v → (∀ b ∈ fp, b ∉ wr → ∀ o, href.get? b = some o → s₂.heap.get? b = some o) → St₀ (i + 1) s₂.heap →
      wpAny (model prg w) A' (eval elt cenv) (fun y s₃ => F i s₃.heap y ∧ Keeps s₂ s₃) E' s₂) :
    ∀ (k i : Nat) (s₀ s : Shared) (m : Str → Option Value), n₀ - i = k → i ≤ n₀ → St₀ i s.heap → s.heap.Ns cenv.locals m → GenSince cenv.locals wr s₀ s →
      (∀ b ∈ fp, b ∉ wr → ∀ o, href.get? b = some o → s.heap.get? b = some o) →
      Seg (model prg w) A (endH cenv.locals wr) (gpH cenv.locals fp wr n₀ F) k s₀
        (.compLoop (.GeneratorExp elt [⟨.Name x px, iter, [], 0⟩] scope pos) 0 (.ref I) .none cenv)
        ((model prg w).den (.compLoop (.GeneratorExp elt [⟨.Name x px, iter, [], 0⟩] scope pos) 0 (.ref I) .none cenv)) [] s := by
  have hh' : (A.over (.compLoop (.GeneratorExp elt [⟨.Name x px, iter, [], 0⟩] scope pos) 0 (.ref I) .none cenv) []).handled = none := hh
  have hCw : cenv.locals ∉ wr := fun h => hCf ((W₀ A hh).sub _ h)
  intro k
  induction k with
  | zero =>
    intro i s₀ s m hk hi hst hn hsince hkp
    have hin : i = n₀ := by omega
    subst hin
    show Seg _ A _ _ _ s₀ _ ((compTurn (.GeneratorExp elt [⟨.Name x px, iter, [], 0⟩] scope pos) 0 (.ref I) .none cenv).onRaise (leaving cenv)) [] s
    rw [compTurn_gen, Sem.onRaise_eq_wrap]
    refine seg_bind_wrap (wpAny_standAt ?_)
    refine seg_bind_wrap ((W₀ _ hh').done s _ _ hst fun h' tk hk' => ?_)
    exact seg_end (.ok .next) ⟨rfl, rfl, hsince.step fun b o _ hw e => hk' b o hw e⟩
  | succ k ih =>
    intro i s₀ s m hk hi hst hn hsince hkp
    have hlt : i < n₀ := by omega
    show Seg _ A _ _ _ s₀ _ ((compTurn (.GeneratorExp elt [⟨.Name x px, iter, [], 0⟩] scope pos) 0 (.ref I) .none cenv).onRaise (leaving cenv)) [] s
    rw [compTurn_gen, Sem.onRaise_eq_wrap]
    refine seg_bind_wrap (wpAny_standAt ?_)
    refine seg_bind_wrap ((W₀ _ hh').item i s _ _ hlt hst fun v h₁ tk₁ hPv hst₁ hk₁ => ?_)
    refine seg_bind_wrap (wpAny_of_eq (rfl : letOwnedTupleGo (.Name x px) (.ref I) v = pure ()) ?_)
    refine seg_bind_wrap (wpAny_assign_Name (wpAny_storeName_local hx (hn.at' fun o e => hk₁ _ o hCw e) (fun h₂ hn₂ hs₂ => ?_) hp))
    have up₂ : ∀ b o, b ≠ cenv.locals → b ∉ wr → s.heap.get? b = some o → h₂.get? b = some o := fun b o hbC hbw e => hs₂.extBut b o hbC (hk₁ b o hbw e)
    have hst₂ : St₀ (i + 1) h₂ := (W₀ A hh).frame _ _ _ hst₁ fun b hb o e => hs₂.extBut b o (fun h => hCf (h ▸ hb)) e
    have hkp₂ : ∀ b ∈ fp, b ∉ wr → ∀ o, href.get? b = some o → h₂.get? b = some o := fun b hb hbw o e => up₂ b o (fun h => hCf (h ▸ hb)) hbw (hkp b hb hbw o e)
    have hsince₂ : GenSince cenv.locals wr s₀ { s with heap := h₂, toks := tk₁ + 1 } := hsince.step up₂
    refine seg_bind_wrap (wpAny_pure ?_)
    simp only [if_true]
    have hy : ∀ v, yieldOut cenv v = yieldValue v := fun v => by simp only [yieldOut, hco, Bool.false_eq_true, if_false]
    simp only [hy]
    rw [Sem.bind_eq_wrap', Sem.bind_eq_wrap', Sem.wrap_wrap, Sem.wrap_wrap]
    refine seg_wrap (wpAny_mono (hq _ _ i v _ _ hh' hPv hn₂ (by simp) hkp₂ hst₂) (fun y s₄ h₄ => ?_) fun _ _ e => e)
    obtain ⟨hFy, h₄, tk₄, rfl, hk₄⟩ := h₄
    refine seg_at (seg_yield rfl rfl rfl ⟨?_, hsince₂.step fun b o _ _ e => hk₄ b o e, fun s'' hal => ?_⟩)
    · have e : n₀ - 1 - k = i := by omega
      show F (n₀ - 1 - k) h₄ y
      rw [e]; exact hFy
    · refine seg_again rfl (ih (i + 1) s'' s'' _ (by omega) hlt ((W₀ A hh).frame _ _ _ hst₂ fun b hb o e => hal b (List.mem_cons_of_mem _ hb) o (hk₄ b o e))
        ((hn₂.keeps hk₄).at' fun o e => hal _ (List.mem_cons_self ..) o e) (GenSince.refl _ _ _) fun b hb hbw o e => hal b (List.mem_cons_of_mem _ hb) o (hk₄ b o (hkp₂ b hb hbw o e)))
theorem segStartH {elt iter : Expr} {x : Str} {px : Pos} {scope : Scope} {pos : Pos} {I : Addr} {fp wr : List Addr} {n₀ : Nat} {P : Nat → Value → Prop} {St₀ : Nat → Heap → Prop} {cenv : Env}
    (hh : A.handled = none) (W₀ : ∀ A' : Around, A'.handled = none → Walks prg w A' I fp wr n₀ P St₀) (F : Nat → Heap → Value → Prop) (href : Heap)
    (hx : cenv.kindOf x = some .local) (hp : (cenv.scope.kind == .class || (cenv.scope.kind == .module && cenv.locals != cenv.globals)) = false)
    (hco : cenv.scope.isCoroutine = false) (hCf : cenv.locals ∉ fp)
    (hq : ∀ (A' : Around) E' i v (s₂ : Shared) m₂, A'.handled = none → P i v → s₂.heap.Ns cenv.locals m₂ → m₂ x = some v → (∀ b ∈ fp, b ∉ wr → ∀ o, href.get? b = some o → s₂.heap.get? b = some o) → St₀ (i + 1) s₂.heap →
      wpAny (model prg w) A' (eval elt cenv) (fun y s₃ => F i s₃.heap y ∧ Keeps s₂ s₃) E' s₂)
    (s₀ s : Shared) (m : Str → Option Value) (hst : St₀ 0 s.heap) (hn : s.heap.Ns cenv.locals m) (hsince : GenSince cenv.locals wr s₀ s)
    (hkp : ∀ b ∈ fp, b ∉ wr → ∀ o, href.get? b = some o → s.heap.get? b = some o) :
    Seg (model prg w) A (endH cenv.locals wr) (gpH cenv.locals fp wr n₀ F) n₀ s₀
      (.compStart (.GeneratorExp elt [⟨.Name x px, iter, [], 0⟩] scope pos) 0 (.ref I) .none cenv)
      ((model prg w).den (.compStart (.GeneratorExp elt [⟨.Name x px, iter, [], 0⟩] scope pos) 0 (.ref I) .none cenv)) [] s := by
  have hh' : (A.over (.compStart (.GeneratorExp elt [⟨.Name x px, iter, [], 0⟩] scope pos) 0 (.ref I) .none cenv) []).handled = none := hh
  have loop := segLoopH (iter := iter) (px := px) (scope := scope) (pos := pos) hh W₀ F href hx hp hco hCf hq n₀ 0 s₀ s m (Nat.sub_zero _) (Nat.zero_le _) hst hn hsince hkp
  show Seg _ A _ _ _ s₀ _ ((compStart (.GeneratorExp elt [⟨.Name x px, iter, [], 0⟩] scope pos) 0 (.ref I) .none cenv).onRaise (leaving cenv)) [] s
  unfold compStart
  rw [Sem.onRaise_eq_wrap]
  show Seg _ A _ _ _ s₀ _ ((ask >>= _).wrap _ _ _ _) [] s
  refine seg_bind_wrap (wpAny_askSetting ?_)
  split
  · exact seg_again rfl loop
  · first
      | exact seg_bind_wrap (wpAny_rule (seg_bind_wrap (wpAny_standAt (seg_bind_wrap ((W₀ _ hh').self 0 s _ _ hst (seg_again rfl loop))))))
      | (refine seg_bind_wrap (wpAny_rule ?_); show Seg _ A _ _ _ s₀ _ ((standAt iter.pos >>= _).wrap _ _ _ _) [] s; exact seg_bind_wrap (wpAny_standAt (seg_bind_wrap ((W₀ _ hh').self 0 s _ _ hst (seg_again rfl loop)))))
/-- the generator object a, its number g, j values handed on -/
def GenAtH (w : World) (A : Around) (a : Addr) (g : Nat) (C : Addr) (fp wr : List Addr) (n₀ : Nat) (F : Nat → Heap → Value → Prop) (j : Nat) (s : Shared) : Prop :=
  s.heap.IsGen a g ∧ ∃ gs, s.gens[g]? = some gs ∧ ∀ s'' : Shared, (∀ b ∈ C :: fp, ∀ o, s.heap.get? b = some o → s''.heap.get? b = some o) →
    gs.Goes (model prg w) A.in1 (endH C wr) (gpH C fp wr n₀ F) (n₀ - j) (.send .none) s''
theorem GenAtH.move {a : Addr} {g : Nat} {C : Addr} {fp wr : List Addr} {n₀ : Nat} {F : Nat → Heap → Value → Prop} {j : Nat} {s s' : Shared} (x : GenAtH w A a g C fp wr n₀ F j s) (hg : s'.gens = s.gens)
    (k : ∀ b ∈ a :: C :: fp, ∀ o, s.heap.get? b = some o → s'.heap.get? b = some o) : GenAtH w A a g C fp wr n₀ F j s' := by
  obtain ⟨⟨o, nm, qn, ho, r⟩, gs, e, go⟩ := x
  exact ⟨⟨o, nm, qn, k a (.head _) o ho, r⟩, gs, by rw [hg]; exact e, fun s'' hal => go s'' fun b hb o e => hal b hb o (k b (.tail _ hb) o e)⟩
theorem gen_item {E : Value → Shared → Prop} {s : Shared} {a : Addr} {g : Nat} {C : Addr} {fp wr : List Addr} {n₀ : Nat} {F : Nat → Heap → Value → Prop} {j : Nat} {Q : Option Value → Shared → Prop} (hh : A.handled = none) (hroom : A.depth < recursionLimit) (hl : s.heap.NoLimit)
    (haC : a ≠ C) (haw : a ∉ wr) (hj : j < n₀) (st : GenAtH w A a g C fp wr n₀ F j s)
    (hQ : ∀ v h' tk gs', gs'.bare = true → F j h' v → (∀ b o, b ≠ C → b ∉ wr → s.heap.get? b = some o → h'.get? b = some o) →
      GenAtH w A a g C fp wr n₀ F (j + 1) { s with heap := h', toks := tk, gens := s.gens.setIfInBounds g gs' } → Q (some v) { s with heap := h', toks := tk, gens := s.gens.setIfInBounds g gs' }) :
    wpAny (model prg w) A (pyNext (.ref a)) Q E s := by
  obtain ⟨hg, gs, hgs, hgo⟩ := st
  obtain ⟨m, hm⟩ : ∃ m, n₀ - j = m + 1 := ⟨n₀ - j - 1, by omega⟩
  rw [hm] at hgo
  refine wpAny_pyNext_genexpQ (P := fun n s₀ s₁ => n = 0 ∧ GenSince C wr s₀ s₁) hh hl hroom hg hgs (hgo _ fun _ _ _ e => e) (fun v s₁ gs' hb hv => ?_) (fun s₁ hp h' hk => ?_)
  · obtain ⟨hF, ⟨h₁, tk₁, rfl, hk₁⟩, hkap⟩ := hv
    have hidx : n₀ - 1 - (m + 1 - 1) = j := by omega
    rw [hidx] at hF
    have e9 : (Shared.setGen { s.setGen g .running with heap := h₁, toks := tk₁ } g gs') = { s with heap := h₁, toks := tk₁, gens := s.gens.setIfInBounds g gs' } := by
      simp [Shared.setGen]
    rw [e9]
    refine hQ v h₁ tk₁ gs' hb hF hk₁ ⟨let ⟨o, nm, qn, ho, r⟩ := hg; ⟨o, nm, qn, hk₁ a o haC haw ho, r⟩, gs', ?_, fun s'' hal => ?_⟩
    · have := setGen_self (gs := gs) (x := gs') hgs
      simpa [Shared.setGen] using this
    · have e : n₀ - (j + 1) = m := by omega
      rw [e]
      exact hkap s'' hal
  · exact absurd hp.1 (Nat.succ_ne_zero m)
theorem gen_done {E : Value → Shared → Prop} {s : Shared} {a : Addr} {g : Nat} {C : Addr} {fp wr : List Addr} {n₀ : Nat} {F : Nat → Heap → Value → Prop} {Q : Option Value → Shared → Prop} (hh : A.handled = none) (hroom : A.depth < recursionLimit) (hl : s.heap.NoLimit)
    (st : GenAtH w A a g C fp wr n₀ F n₀ s)
    (hQ : ∀ h' tk, (∀ b o, b ≠ C → b ∉ wr → s.heap.get? b = some o → h'.get? b = some o) → Q none { s with heap := h', toks := tk, gens := s.gens.setIfInBounds g .finished }) :
    wpAny (model prg w) A (pyNext (.ref a)) Q E s := by
  obtain ⟨hg, gs, hgs, hgo⟩ := st
  rw [Nat.sub_self] at hgo
  refine wpAny_pyNext_genexpQ (P := fun n s₀ s₁ => n = 0 ∧ GenSince C wr s₀ s₁) hh hl hroom hg hgs (hgo _ fun _ _ _ e => e) (fun v s₁ gs' hb hv => ?_) (fun s₁ hp h' hk => ?_)
  · obtain ⟨_, _, hkap⟩ := hv
    exact False.elim (hkap s₁ fun _ _ _ e => e)
  · obtain ⟨_, h₁, tk₁, rfl, hk₁⟩ := hp
    have := hQ h' tk₁ fun b o hb hw e => hk b o (hk₁ b o hb hw e)
    simpa [Shared.setGen] using this
theorem GenAtH.fresh {elt iter : Expr} {x : Str} {px : Pos} {scope : Scope} {pos : Pos} {I a : Addr} {g : Nat} {fp wr : List Addr} {n₀ : Nat} {P : Nat → Value → Prop} {St₀ : Nat → Heap → Prop} {cenv : Env}
    (hh : A.handled = none) (W₀ : ∀ A' : Around, A'.handled = none → Walks prg w A' I fp wr n₀ P St₀) (F : Nat → Heap → Value → Prop)
    (hx : cenv.kindOf x = some .local) (hp : (cenv.scope.kind == .class || (cenv.scope.kind == .module && cenv.locals != cenv.globals)) = false)
    (hco : cenv.scope.isCoroutine = false) (hCf : cenv.locals ∉ fp) {s : Shared} {m : Str → Option Value}
    (hq : ∀ (A' : Around) E' i v (s₂ : Shared) m₂, A'.handled = none → P i v → s₂.heap.Ns cenv.locals m₂ → m₂ x = some v → (∀ b ∈ fp, b ∉ wr → ∀ o, s.heap.get? b = some o → s₂.heap.get? b = some o) → St₀ (i + 1) s₂.heap →
      wpAny (model prg w) A' (eval elt cenv) (fun y s₃ => F i s₃.heap y ∧ Keeps s₂ s₃) E' s₂)
    (hg : s.heap.IsGen a g) (hgs : s.gens[g]? = some (.fresh (.compStart (.GeneratorExp elt [⟨.Name x px, iter, [], 0⟩] scope pos) 0 (.ref I) .none cenv)))
    (hst : St₀ 0 s.heap) (hn : s.heap.Ns cenv.locals m) : GenAtH w A a g cenv.locals fp wr n₀ F 0 s :=
  ⟨hg, _, hgs, fun s'' hal => ⟨rfl, segStartH (A := A.in1) hh W₀ F s.heap hx hp hco hCf hq s'' s'' m ((W₀ A hh).frame _ _ _ hst fun b hb o e => hal b (List.mem_cons_of_mem _ hb) o e)
    (hn.at' fun o e => hal _ (List.mem_cons_self ..) o e) (GenSince.refl _ _ _) fun b hb _ o e => hal b (List.mem_cons_of_mem _ hb) o e⟩⟩
end
end Mine
end
section
open PySem PySem.W PySem.Calls PyProof.Rows
namespace Mine
set_option maxRecDepth 100000
set_option maxHeartbeats 2000000
section
variable {prog : Program} {w : World} {K : Type} [DecidableEq K] {knd : HeapKind prog w K} {A : Around} {E : Value → Shared → Prop} {s : Shared}
theorem setDefault_heap {d a : Addr} {xs : List (K × Addr × Value)} {k : K} {dflt : Value} {Q : Value → Shared → Prop} (hu : knd.room A) (hkey : knd.is s.heap k a) (hm : s.heap.DictOfH knd d xs)
    (h1 : ∀ p, atKey xs k = some p → Q p.2 { s with toks := s.toks + knd.draws k })
    (h2 : atKey xs k = none → ∀ h', h'.DictOfH knd d (xs ++ [(k, a, dflt)]) → Heap.SameBut d s.heap h' → Q dflt { s with heap := h', toks := s.toks + knd.draws k })
    (hsz : xs.length ≤ sizeLine) :
    wpAny (model prog w) A (dictSetDefault d (.ref a) dflt) Q E s := by
  obtain ⟨o, es, ep, ho, hc, hd, he, his, hn⟩ := hm
  unfold dictSetDefault
  try with_reducible refine wpAny_holding ?_
  refine wpAny_bind (knd.pyHash hu hkey ?_)
  refine wpAny_bind (wpAny_dictFind_heap (s := { s with toks := s.toks + knd.draws k }) hu hkey ho hd he his hn ?_ ?_)
  · intro hno
    have hnone := atKey_none_of_get hno
    have hnot : k ∉ xs.map (·.1) := not_mem_keys_of_get hno
    have hQ := h2 hnone
    refine wpAny_bind (wpAny_rule (wpAny_bind (wpAny_updateDictKeys (hz := by have e := size_of_entries he; omega) (s := { s with toks := s.toks + knd.draws k }) ho hd (wpAny_pure (hQ _ ⟨_, _, ep + 1, Heap.get?_update_self _ ho (Obj.isFreed_of_dict (Obj.data_mapDictKeys hd _)),
      hc.mapDictKeys _, Obj.data_mapDictKeys hd _, ?_, ?_, ?_⟩ (Heap.SameBut.update ..))))))
    · simp [he, entryOfKey]
    · intro x hx
      rcases List.mem_append.mp hx with hx | hx
      · exact knd.keeps (his x hx) ho hd (Heap.SameBut.update ..)
      · simp only [List.mem_singleton] at hx
        subst hx
        exact knd.keeps hkey ho hd (Heap.SameBut.update ..)
    · rw [List.map_append, List.nodup_append]
      refine ⟨hn, by simp, ?_⟩
      intro x hx y hy
      simp only [List.map_cons, List.map_nil, List.mem_singleton] at hy
      subst hy
      exact fun e => hnot (e ▸ hx)
  · intro j p hj
    have hQ := h1 p (atKey_of_get hn hj)
    refine wpAny_bind (wpAny_dictEntries (s := { s with toks := s.toks + knd.draws k }) ho hd ?_)
    rw [entry_at he j, hj]
    exact wpAny_bind (wpAny_rule (wpAny_pure hQ))
end
theorem setDefault_call {w : World} {A : Around} {E : Value → Shared → Prop} {s : Shared} {D x : Addr} {name : List Str} {dflt : Value} {xs : List (List Str × Addr × Value)} {Q : Value → Shared → Prop} (hu : A.units + 50 < cLine) (hd : (D == sysModules) = false) (hx : IsNm s.heap x name) (hm : s.heap.DictOfH (tKind w) D xs) (hsz : xs.length ≤ 1000000)
    (h1 : ∀ p, atKey xs name = some p → Q p.2 { s with toks := s.toks + (tKind w).draws name })
    (h2 : atKey xs name = none → ∀ h', h'.DictOfH (tKind w) D (xs ++ [(name, x, dflt)]) → Heap.SameBut D s.heap h' → Q dflt { s with heap := h', toks := s.toks + (tKind w).draws name }) :
    wpAny (model prg w) A (call (.builtin "dict.setdefault") [.ref D, .ref x, dflt]) Q E s := by
  refine call_meetsIn PySem.F.slot_dict_setdefault hm.typeIs PySem.F.entry_dict_setdefault (PySem.F.args_dict_setdefault_3 _ _ _)
    (S := fun A R s => A.units + 1 < cLine ∧ ∃ name xs, IsNm s.heap x name ∧ s.heap.DictOfH (tKind w) D xs ∧ xs.length ≤ 1000000 ∧ (∀ p, atKey xs name = some p → R (.ok (.ret p.2)) { s with toks := s.toks + (tKind w).draws name }) ∧
      (atKey xs name = none → ∀ h', h'.DictOfH (tKind w) D (xs ++ [(name, x, dflt)]) → Heap.SameBut D s.heap h' → R (.ok (.ret dflt)) { s with heap := h', toks := s.toks + (tKind w).draws name }))
    (MeetsIn.of_wp fun A R s hP => ?_) ⟨(show A.units + 1 < cLine by omega), name, xs, hx, hm, hsz, h1, h2⟩
  obtain ⟨hu, name, xs, hx, hm, hsz, h1, h2⟩ := hP
  unfold Builtin.«dict.setdefault»
  refine wpAny_bind ?_
  unfold Builtin.Dict.keyAndDefault
  refine wpAny_bind (wpAny_notOrdered_dict hm.typeIs ?_)
  show wpAny _ _ (pure (D, Value.ref x, some dflt)) _ _ s
  refine wpAny_pure ?_
  show wpAny _ _ (if (D == sysModules) = true then _ else (dictSetDefault D (.ref x) dflt >>= _)) _ _ s
  rw [if_neg (by rw [hd]; exact Bool.false_ne_true)]
  exact wpAny_bind (setDefault_heap (knd := tKind w) (show A.units + 1 < cLine by omega) hx.key hm (fun p hp => wpAny_pure ⟨_, rfl, h1 p hp⟩) (fun hn h' hm' hs' => wpAny_pure ⟨dflt, rfl, h2 hn h' hm' hs'⟩) (by rw [PySem.sizeLine_eq]; omega))
/-- the standing heap grows by the objects at P -/
theorem growJ {J h' : Heap} (P : List Addr) (k : J.StaysIn h') : ∃ J' : Heap, J.StaysIn J' ∧ J'.StaysIn h' ∧ (∀ b ∈ P, ∀ o, h'.get? b = some o → J'.get? b = some o) ∧ ∀ b, J.get? b = none → b ∉ P → J'.get? b = none := by
  refine ⟨hideAll h' ((List.range h'.objs.size).filter fun b => (J.get? b).isNone && !P.contains b), fun b o e => hideAll_get _ (k b o e) ?_, fun b o e => of_hideAll _ e, fun b hb o e => hideAll_get _ e ?_, fun b e hb => ?_⟩
  · intro q
    have := (List.mem_filter.mp q).2
    rw [e] at this
    simp at this
  · intro q
    have := (List.mem_filter.mp q).2
    simp [hb] at this
  · cases q : h'.get? b with
    | none =>
      cases q2 : (hideAll h' ((List.range h'.objs.size).filter fun b => (J.get? b).isNone && !P.contains b)).get? b with
      | none => rfl
      | some o => have := of_hideAll _ q2; rw [q] at this; cases this
    | some o =>
      refine hideAll_none _ (List.mem_filter.mpr ⟨List.mem_range.mpr (Heap.lt_size q), ?_⟩)
      rw [e]
      simp [hb]
end Mine
end
section
open PySem PySem.W PySem.Calls PyProof.Rows
namespace Mine
set_option maxRecDepth 100000
set_option maxHeartbeats 2000000
/-- what a turn of loopG shows at its end -/
def TurnEndG (s₁ : Shared) (g : Heap) (L : Addr) (gl : List (Addr × Obj)) (P : Heap → (Str → Option Value) → List (Addr × Obj) → Prop) (f : Flow) (s₃ : Shared) : Prop :=
  f = .next ∧ ∃ h' tk' m' nw', s₃ = { s₁ with heap := h', toks := tk' } ∧ P h' m' nw' ∧ Fr g L h' m' ∧ News g L h' nw' ∧ News g L h' gl ∧ ∀ p ∈ nw', ∀ q ∈ gl, p.1 ≠ q.1
/-- a for over a generator expression whose objects are a, C, I -/
theorem loopG {w : World} {A : Around} {env : Env} {g : Heap} {L a C I : Addr} {gi : Nat} {fpo : List (Addr × Obj)} {n₀ : Nat} {Fv : Nat → Heap → Value → Prop} {x : Str} {px : Pos} {body : List Stmt} {R : Result → Shared → Prop} {s₀ : Shared} (hh : A.handled = none) (hroom : A.depth < recursionLimit) (hlim : g.NoLimit)
    (hgz : ∀ b ∈ [a, C, I], g.get? b = none ∧ b ≠ L) (hab : a ≠ C ∧ a ≠ I ∧ C ≠ I)
    (hF : ∀ j h v, Fv j h v → (∃ o, h.get? C = some o ∧ ∀ vs n, o ≠ tupObj vs n) ∧ ∃ o, h.get? I = some o ∧ ∀ vs n, o ≠ tupObj vs n)
    (Gp : Array GenState → Prop) (hG : ∀ gens gs', Gp gens → gs'.bare = true → Gp (gens.setIfInBounds gi gs'))
    (P : Nat → Heap → (Str → Option Value) → List (Addr × Obj) → Prop)
    (hfp : ∀ i h m nw, P i h m nw → Fr g L h m → News g L h nw → ∀ p ∈ fpo, h.get? p.1 = some p.2)
    (hfpo : ∀ p ∈ fpo, p.1 ≠ C ∧ p.1 ≠ I)
    (hP : ∀ i h h' m nw, P i h m nw → Ext [C, I] h h' → P i h' m nw)
    (turn : ∀ (i : Nat) v h tk gens m nw gl, i < n₀ → P i h m nw → Fv i h v → Gp gens → Fr g L h m → News g L h nw → News g L h gl → (∀ q ∈ gl, ∀ vs n, q.2 ≠ tupObj vs n) → (∀ p ∈ nw, ∀ q ∈ gl, p.1 ≠ q.1) →
      wpAny (model prg w) A (assign (.Name x px) env v) (fun _ s₂ => wpAny (model prg w) A (execs body env)
        (TurnEndG { s₀ with heap := h, toks := tk, gens := gens } g L gl (P (i + 1))) (fun _ _ => False) s₂) (fun _ _ => False) { s₀ with heap := h, toks := tk, gens := gens })
    (fin : ∀ h tk gens m nw, P n₀ h m nw → Gp gens → Fr g L h m → News g L h nw → R (.ok .next) { s₀ with heap := h, toks := tk, gens := gens })
    {h : Heap} {tk : Nat} {gens : Array GenState} {m : Str → Option Value} {nw : List (Addr × Obj)} (p0 : P 0 h m nw) (G0 : Gp gens) (F : Fr g L h m) (N : News g L h nw) (off : ∀ p ∈ nw, p.1 ∉ [a, C, I])
    (st : GenAtH w A a gi C (I :: fpo.map (·.1)) [I] n₀ Fv 0 { s₀ with heap := h, toks := tk, gens := gens }) :
    codeAny (model prg w) A (.forLoop (.Name x px) (.ref a) body [] env) R { s₀ with heap := h, toks := tk, gens := gens } := by
  refine codeAny_forLoop_any
    (fun k s' => ∃ h' tk' gens' m' nw' i, s' = { s₀ with heap := h', toks := tk', gens := gens' } ∧ i ≤ n₀ ∧ k = n₀ + 1 - i ∧ P i h' m' nw' ∧ Gp gens' ∧ Fr g L h' m' ∧ News g L h' nw' ∧ (∀ p ∈ nw', p.1 ∉ [a, C, I]) ∧
      GenAtH w A a gi C (I :: fpo.map (·.1)) [I] n₀ Fv i { s₀ with heap := h', toks := tk', gens := gens' }) ?_ (n₀ + 1)
    ⟨h, tk, gens, m, nw, 0, rfl, Nat.zero_le _, rfl, p0, G0, F, N, off, st⟩
  rintro k s' ⟨h', tk', gens', m', nw', i, rfl, hi, rfl, p', G', F', N', off', st'⟩
  have nolim : h'.NoLimit := hlim.keeps F'.keep
  have ext : ∀ {h2 : Heap}, (∀ b o, b ≠ C → b ∉ [I] → h'.get? b = some o → h2.get? b = some o) → Ext [C, I] h' h2 := fun q b o e n => by
    simp only [List.mem_cons, List.not_mem_nil, or_false, not_or] at n
    exact q b o n.1 (by simpa using n.2) e
  have fr2 : ∀ {h2 : Heap}, Ext [C, I] h' h2 → Fr g L h2 m' := fun x2 => fr_ext F' x2 (by
    simp only [List.mem_cons, List.not_mem_nil, or_false, not_or]
    exact ⟨(hgz C (by simp)).2.symm, (hgz I (by simp)).2.symm⟩) (by
    intro b hb
    exact (hgz b (List.mem_cons_of_mem _ hb)).1)
  have nw2 : ∀ {h2 : Heap}, Ext [C, I] h' h2 → News g L h2 nw' := fun x2 => news_ext N' x2 fun p hp q => off' p hp (List.mem_cons_of_mem _ q)
  by_cases hlt : i < n₀
  · refine gen_item hh hroom nolim hab.1 (by simpa using hab.2.1) hlt st' fun v h2 tk2 gs' hb hv hk st2 => ?_
    have x2 := ext hk
    have F2 := fr2 x2
    have N2 := nw2 x2
    obtain ⟨⟨oC, eC, cC⟩, oI, eI, cI⟩ := hF _ _ _ hv
    obtain ⟨oA, _, _, eA, _, dA, _⟩ := id st2.1
    dsimp only
    refine wpAny_of_eq (rfl : letOwnedTupleGo (.Name x px) (.ref a) v = pure ()) ?_
    have Ngl : News g L h2 [(a, oA), (C, oC), (I, oI)] := by
      refine news_cons eA (hgz a (by simp)).2 (hgz a (by simp)).1 (news_cons eC (hgz C (by simp)).2 (hgz C (by simp)).1 (news_cons eI (hgz I (by simp)).2 (hgz I (by simp)).1 News.nil))
    refine wpAny_mono (turn i v h2 tk2 _ m' nw' [(a, oA), (C, oC), (I, oI)] hlt (hP _ _ _ _ _ p' x2) hv (hG _ _ G' hb) F2 N2 Ngl (fun q hq vs n e => by
      simp only [List.mem_cons, List.not_mem_nil, or_false] at hq
      rcases hq with rfl | rfl | rfl
      · dsimp only at e; rw [e] at dA; cases dA
      · exact cC _ _ e
      · exact cI _ _ e) (fun p hp q hq e => off' p hp (by
      rw [e]
      simp only [List.mem_cons, List.not_mem_nil, or_false] at hq
      rcases hq with rfl | rfl | rfl <;> simp)))
      (fun _ s2 h3 => wpAny_mono h3 (fun f s3 h4 => ?_) fun _ _ z => z.elim) fun _ _ z => z.elim
    obtain ⟨rfl, h5, tk5, m5, nw5, rfl, p5, F5, N5, Ng5, off5⟩ := h4
    refine ⟨n₀ + 1 - (i + 1), by omega, h5, tk5, _, m5, nw5, i + 1, rfl, hlt, rfl, p5, hG _ _ G' hb, F5, N5, fun p hp q => ?_, st2.move rfl fun b hb o e => ?_⟩
    · simp only [List.mem_cons, List.not_mem_nil, or_false] at q
      rcases q with q | q | q
      · exact off5 p hp (a, oA) (by simp) q
      · exact off5 p hp (C, oC) (by simp) q
      · exact off5 p hp (I, oI) (by simp) q
    · simp only [List.mem_cons, List.mem_map] at hb
      rcases hb with rfl | rfl | rfl | ⟨p, hp, rfl⟩
      · rw [eA] at e; cases e; exact (Ng5 (_, oA) (by simp)).1
      · rw [eC] at e; cases e; exact (Ng5 (_, oC) (by simp)).1
      · rw [eI] at e; cases e; exact (Ng5 (_, oI) (by simp)).1
      · have e1 := hfp _ _ _ _ (hP _ _ _ _ _ p' x2) F2 N2 p hp
        rw [e1] at e; cases e
        exact hfp _ _ _ _ p5 F5 N5 p hp
  · obtain rfl : i = n₀ := by omega
    refine gen_done hh hroom nolim st' fun h2 tk2 hk => ?_
    have x2 := ext hk
    dsimp only
    refine wpAny_execs_nil ?_
    exact fin h2 tk2 _ m' nw' (hP _ _ _ _ _ p' x2) (hG _ _ G' rfl) (fr2 x2) (nw2 x2)
end Mine
end
section
open PySem PySem.W PySem.Calls PyProof.Rows
namespace Mine
set_option maxRecDepth 100000
set_option maxHeartbeats 2000000
theorem All2.split {α β : Type} {R : α → β → Prop} {y : α} : ∀ {as : List α} {bs : List β}, All2 R as bs → y ∈ as → ∃ a1 a2 b b1 b2, as = a1 ++ y :: a2 ∧ bs = b1 ++ b :: b2 ∧ All2 R a1 b1 ∧ R y b ∧ All2 R a2 b2
  | _, _, .nil, h => nomatch h
  | a :: as, b :: bs, .cons h r, hm => by
    rcases List.mem_cons.mp hm with rfl | hm
    · exact ⟨[], as, b, [], bs, rfl, rfl, .nil, h, r⟩
    · obtain ⟨a1, a2, b', b1, b2, rfl, rfl, x, y', z⟩ := r.split hm
      exact ⟨a :: a1, a2, b', b :: b1, b2, rfl, rfl, .cons h x, y', z⟩
theorem All2.monoL {α β : Type} {R R' : α → β → Prop} : ∀ {as : List α} {bs : List β}, (∀ a ∈ as, ∀ b ∈ bs, R a b → R' a b) → All2 R as bs → All2 R' as bs
  | _, _, _, .nil => .nil
  | _, _, k, .cons h r => .cons (k _ (.head _) _ (.head _) h) (r.monoL fun a ha b hb => k a (.tail _ ha) b (.tail _ hb))
/-- a list of the table while a listener is being registered -/
def PairOr (J : Heap) (cL cB f : Addr) (fv : Value) (lis : Lis) (tlt : List (Addr × Obj)) (v : Value) (l : Lis) : Prop :=
  PairAt J cL cB v l ∨ (l = lis ∧ ∃ p n, v = .ref p ∧ (p, tupObj #[.ref f, fv] n) ∈ tlt)
def flagged (own : List Str) (j : Nat) (k : List Str) : Bool := k.isPrefixOf own && decide (k.length ≤ j)
def cnt (ls : List Lis) (lis : Lis) (j : Nat) (k : List Str) : List Lis := hits ls k ++ if flagged lis.own j k = true then [lis] else []
def LstAt (J : Heap) (cL cB f : Addr) (fv : Value) (ls : List Lis) (lis : Lis) (tlt : List (Addr × Obj)) (j : Nat) (y : List Str × Addr × Value) (p : Addr × Obj) : Prop :=
  y.2.2 = .ref p.1 ∧ ∃ its n, p.2 = W.listOf its n ∧ All2 (PairOr J cL cB f fv lis tlt) its.toList (cnt ls lis j y.1)
structure DictL (w : World) (g : Heap) (L : Addr) (oD : Obj) (xs : List (List Str × Addr × Value)) (tl : List (Addr × Obj)) : Prop where
  ex : oD.ExactDict
  ents : ∃ es ep, oD.data = .dict es ep ∧ es.toList = xs.map (entryOfKey (tKind w))
  nod : (xs.map (·.1)).Nodup
  keys : ∀ h' m', Fr g L h' m' → News g L h' tl → ∀ y ∈ xs, (tKind w).is h' y.1 y.2.1
theorem DictL.at' {w : World} {g h : Heap} {L D : Addr} {oD : Obj} {xs : List (List Str × Addr × Value)} {tl : List (Addr × Obj)} {m : Str → Option Value} (x : DictL w g L oD xs tl) (F : Fr g L h m) (N : News g L h tl) (e : h.get? D = some oD) : h.DictOfH (tKind w) D xs := by
  obtain ⟨es, ep, h1, h2⟩ := x.ents
  exact ⟨oD, es, ep, e, x.ex, h1, h2, x.keys _ _ F N, x.nod⟩
theorem flagged_step {own : List Str} {j : Nat} {k : List Str} (hj : j < own.length) (hk : k ≠ own.take (j + 1)) : flagged own (j + 1) k = flagged own j k := by
  unfold flagged
  cases hp : k.isPrefixOf own with
  | false => rfl
  | true =>
    have e1 := List.prefix_iff_eq_take.mp (List.isPrefixOf_iff_prefix.mp hp)
    have hne : k.length ≠ j + 1 := fun q => hk (by rw [q] at e1; exact e1)
    simp only [Bool.true_and]
    rw [decide_eq_decide]
    omega
theorem flagged_self {own : List Str} {j : Nat} (hj : j < own.length) : flagged own (j + 1) (own.take (j + 1)) = true := by
  unfold flagged
  have e : (own.take (j + 1)).isPrefixOf own = true := List.isPrefixOf_iff_prefix.mpr (List.take_prefix _ _)
  rw [e]
  simp
  exact Nat.min_le_left ..
theorem flagged_no {own : List Str} {j : Nat} (hj : j < own.length) : flagged own j (own.take (j + 1)) = false := by
  unfold flagged
  rw [Bool.and_eq_false_iff]
  right
  rw [decide_eq_false_iff_not, List.length_take]
  omega
theorem LstAt.step {J : Heap} {cL cB f : Addr} {fv : Value} {ls : List Lis} {lis : Lis} {tlt tlt' : List (Addr × Obj)} {j : Nat} {y : List Str × Addr × Value} {p : Addr × Obj} (hj : j < lis.own.length) (hk : y.1 ≠ lis.own.take (j + 1)) (hs : ∀ q ∈ tlt, q ∈ tlt') (x : LstAt J cL cB f fv ls lis tlt j y p) : LstAt J cL cB f fv ls lis tlt' (j + 1) y p := by
  obtain ⟨h1, its, n, h2, h3⟩ := x
  refine ⟨h1, its, n, h2, ?_⟩
  unfold cnt at h3 ⊢
  rw [flagged_step hj hk]
  exact h3.mono fun v l hv => hv.elim .inl fun ⟨e, p, n, e2, hp⟩ => .inr ⟨e, p, n, e2, hs _ hp⟩
/-- setdefault on the table: the key's list stands afterwards -/
theorem sd_reg {w : World} {A : Around} {E : Value → Shared → Prop} {s : Shared} {g J : Heap} {L D y l cL cB f : Addr} {fv : Value} {ls : List Lis} {lis : Lis} {j : Nat} {m : Str → Option Value} {oD : Obj} {xs : List (List Str × Addr × Value)} {LL tlt pre : List (Addr × Obj)} {name : List Str} {Q : Value → Shared → Prop}
    (hu : A.units + 50 < cLine) (hd : (D == sysModules) = false) (F : Fr g L s.heap m) (N : News g L s.heap (pre ++ (D, oD) :: (LL ++ tlt))) (Nl : News g L s.heap [(l, W.listOf #[] 0)]) (hn1 : ∀ p ∈ pre, p.1 ≠ D) (hn2 : ∀ p ∈ LL ++ tlt, p.1 ≠ D) (hn3 : l ≠ D) (hn4 : ∀ p ∈ LL ++ tlt, p.1 ≠ l)
    (DL : DictL w g L oD xs tlt) (hy : ∀ h' m', Fr g L h' m' → News g L h' tlt → IsNm h' y name) (hsz : xs.length ≤ 1000000) (al : All2 (LstAt J cL cB f fv ls lis tlt j) xs LL) (nd : (LL.map (·.1)).Nodup) (miss : ∀ k, k ≠ [] → (∀ x ∈ xs, x.1 ≠ k) → hits ls k = [] ∧ flagged lis.own j k = false) (hne : name ≠ [])
    (h : ∀ h' tk oD' xs' LL' l0, Fr g L h' m → News g L h' (pre ++ (D, oD') :: (LL' ++ tlt)) → DictL w g L oD' xs' tlt → xs'.length ≤ xs.length + 1 → All2 (LstAt J cL cB f fv ls lis tlt j) xs' LL' → (LL'.map (·.1)).Nodup → (∀ x ∈ xs, x ∈ xs') → (∃ y0, (name, y0, Value.ref l0) ∈ xs') → (∀ x ∈ xs', x.1 = name ∨ x ∈ xs) → (∀ p ∈ LL', p ∈ LL ∨ p.1 = l) → (∀ p ∈ LL, p ∈ LL') → Ext [D] s.heap h' → Q (.ref l0) { s with heap := h', toks := tk }) :
    wpAny (model prg w) A (call (.builtin "dict.setdefault") [.ref D, .ref y, .ref l]) Q E s := by
  have Nt : News g L s.heap (LL ++ tlt) := fun p hp => N p (by simp at hp ⊢; rcases hp with hp | hp <;> simp [hp])
  have eD := N (D, oD) (by simp)
  refine setDefault_call hu hd (hy _ _ F (news_right Nt)) (DL.at' F (news_right Nt) eD.1) hsz (fun p hp => ?_) (fun hnone h' hD' hs' => ?_)
  · have hm := atKey_mem hp
    obtain ⟨p1, p2⟩ := p
    obtain ⟨a1, a2, b, b1, b2, rfl, rfl, r1, r2, r3⟩ := al.split hm
    have e2 : p2 = .ref b.1 := r2.1
    subst e2
    exact h s.heap _ oD _ _ b.1 F N DL (by omega) al nd (fun _ hx => hx) ⟨p1, by simp⟩ (fun x hx => .inr hx) (fun p hp => .inl hp) (fun _ hx => hx) (fun _ _ e _ => e)
  · obtain ⟨oD', es, ep, eD', hx, hd1, he, his, hnd⟩ := hD'
    have x2 : Ext [D] s.heap h' := fun b o e n => hs'.extBut b o (by simpa using n) e
    have F2 := fr_ext F x2 (by simpa using eD.2.1.symm) (by intro b hb; rcases List.mem_singleton.mp hb with rfl; exact eD.2.2)
    have N2 := ledger_upd N x2 eD' hn1 hn2
    have Nl2 : News g L h' [(l, W.listOf #[] 0)] := news_ext Nl x2 (by intro p hp; rcases List.mem_singleton.mp hp with rfl; simpa using hn3)
    obtain ⟨hm1, hm2⟩ := miss name hne (atKey_none hnone)
    refine h h' _ oD' (xs ++ [(name, y, .ref l)]) (LL ++ [(l, W.listOf #[] 0)]) l F2 (fun p hp => ?_) ⟨hx, ⟨es, ep, hd1, he⟩, hnd, fun h2 m2 F3 N3 z hz => ?_⟩ (by simp) (al.append (.cons ⟨rfl, #[], 0, rfl, ?_⟩ .nil)) ?_ (fun x hx => by simp [hx]) ⟨y, by simp⟩ (fun x hx => ?_) (fun p hp => ?_) (fun p hp => by simp [hp]) x2
    · simp only [List.mem_append, List.mem_cons, List.not_mem_nil, or_false] at hp
      rcases hp with hp | rfl | (hp | rfl) | hp
      · exact N2 p (by simp [hp])
      · exact N2 _ (by simp)
      · exact N2 p (by simp [hp])
      · exact Nl2 _ (by simp)
      · exact N2 p (by simp [hp])
    · rcases List.mem_append.mp hz with hz | hz
      · exact DL.keys h2 m2 F3 N3 z hz
      · rcases List.mem_singleton.mp hz with rfl
        exact (hy h2 m2 F3 N3).key
    · show All2 _ [] (cnt ls lis j name)
      unfold cnt
      rw [hm1, hm2]
      exact .nil
    · rw [List.map_append, List.nodup_append]
      refine ⟨nd, by simp, ?_⟩
      intro a ha b hb
      simp only [List.map_cons, List.map_nil, List.mem_singleton] at hb
      subst hb
      obtain ⟨p, hp, rfl⟩ := List.mem_map.mp ha
      exact hn4 p (by simp [hp])
    · rcases List.mem_append.mp hx with hx | hx
      · exact .inr hx
      · rcases List.mem_singleton.mp hx with rfl; exact .inl rfl
    · rcases List.mem_append.mp hp with hp | hp
      · exact .inl hp
      · rcases List.mem_singleton.mp hp with rfl; exact .inr rfl
theorem DictL.more {w : World} {g : Heap} {L : Addr} {oD : Obj} {xs : List (List Str × Addr × Value)} {tl tl' : List (Addr × Obj)} (x : DictL w g L oD xs tl) (hs : ∀ q ∈ tl, q ∈ tl') : DictL w g L oD xs tl' :=
  ⟨x.ex, x.ents, x.nod, fun h' m' F N => x.keys h' m' F fun p hp => N p (hs p hp)⟩
theorem nodup_mid {α β : Type} {a1 a2 : List α} {y z : α} {f : α → β} (h : ((a1 ++ y :: a2).map f).Nodup) (hz : z ∈ a1 ∨ z ∈ a2) : f z ≠ f y := by
  rw [List.map_append, List.map_cons, List.nodup_append] at h
  obtain ⟨_, h2, h3⟩ := h
  rcases hz with hz | hz
  · exact h3 _ (List.mem_map_of_mem hz) _ (.head _)
  · intro e
    exact (List.nodup_cons.mp h2).1 (e ▸ List.mem_map_of_mem hz)
/-- the pair goes onto the key's list -/
theorem ap_reg {w : World} {A : Around} {E : Value → Shared → Prop} {s : Shared} {g J : Heap} {L D l0 p y0 cL cB f : Addr} {fv : Value} {ls : List Lis} {lis : Lis} {j n0 : Nat} {m : Str → Option Value} {oD : Obj} {xs : List (List Str × Addr × Value)} {LL tlt tlt' pre : List (Addr × Obj)} {Q : Value → Shared → Prop}
    (F : Fr g L s.heap m) (N : News g L s.heap (pre ++ (D, oD) :: (LL ++ tlt'))) (hn1 : ∀ q ∈ pre ++ [(D, oD)], ∀ r ∈ LL, q.1 ≠ r.1) (hn2 : ∀ q ∈ tlt', ∀ r ∈ LL, q.1 ≠ r.1) (hs : ∀ q ∈ tlt, q ∈ tlt') (hp : (p, tupObj #[.ref f, fv] n0) ∈ tlt')
    (xnd : (xs.map (·.1)).Nodup) (hj : j < lis.own.length) (al : All2 (LstAt J cL cB f fv ls lis tlt j) xs LL) (nd : (LL.map (·.1)).Nodup) (hm : (lis.own.take (j + 1), y0, Value.ref l0) ∈ xs) (hls : ls.length ≤ 100000)
    (h : ∀ h' LL', Fr g L h' m → News g L h' (pre ++ (D, oD) :: (LL' ++ tlt')) → All2 (LstAt J cL cB f fv ls lis tlt' (j + 1)) xs LL' → LL'.map (·.1) = LL.map (·.1) → (∃ r ∈ LL, r.1 = l0) → Ext [l0] s.heap h' → Q .none { s with heap := h' }) :
    wpAny (model prg w) A (call (.builtin "list.append") [.ref l0, .ref p]) Q E s := by
  obtain ⟨a1, a2, ⟨b, ob⟩, b1, b2, rfl, rfl, r1, r2, r3⟩ := al.split hm
  obtain ⟨e1, its, n, rfl, hits'⟩ := r2
  have e1' : l0 = b := by cases e1; rfl
  clear e1
  subst e1'
  have hc : cnt ls lis j (lis.own.take (j + 1)) = hits ls (lis.own.take (j + 1)) := by
    unfold cnt; rw [flagged_no hj]; simp
  dsimp only at hits'
  rw [hc] at hits'
  have hlen : its.size ≤ 100000 := by
    have h1 := hits'.length_eq
    have h2 := hits_len ls (lis.own.take (j + 1))
    rw [Array.length_toList] at h1
    omega
  have el := N (l0, W.listOf its n) (by simp)
  refine append_at (hsz := by rw [PySem.sizeLine_eq]; omega) el.1 fun h' hs' e' => ?_
  have x2 : Ext [l0] s.heap h' := fun b o e n => hs'.extBut b o (by simpa using n) e
  have F2 := fr_ext F x2 (by simpa using el.2.1.symm) (by intro b hb; rcases List.mem_singleton.mp hb with rfl; exact el.2.2)
  have np : ∀ q ∈ pre ++ (D, oD) :: b1, q.1 ≠ l0 := fun q hq => by
    simp only [List.mem_append, List.mem_cons] at hq
    rcases hq with hq | rfl | hq
    · exact hn1 q (by simp [hq]) (l0, W.listOf its n) (by simp)
    · exact hn1 _ (by simp) (l0, W.listOf its n) (by simp)
    · exact nodup_mid nd (.inl hq)
  have nq : ∀ q ∈ b2 ++ tlt', q.1 ≠ l0 := fun q hq => by
    rcases List.mem_append.mp hq with hq | hq
    · exact nodup_mid nd (.inr hq)
    · exact hn2 q hq (l0, W.listOf its n) (by simp)
  have N2 := ledger_upd (pre := pre ++ (D, oD) :: b1) (post := b2 ++ tlt') (by simpa using N) x2 e' np nq
  refine h h' (b1 ++ (l0, W.listOf (its.push (.ref p)) (n + 1)) :: b2) F2 (by simpa using N2) ?_ (by simp) ⟨(l0, W.listOf its n), by simp, rfl⟩ x2
  have key_ne : ∀ x, x ∈ a1 ∨ x ∈ a2 → x.1 ≠ lis.own.take (j + 1) := fun x hx => nodup_mid xnd hx
  refine (r1.monoL fun x hx q _ hq => hq.step hj (key_ne x (.inl hx)) hs).append (.cons ⟨rfl, _, _, rfl, ?_⟩ (r3.monoL fun x hx q _ hq => hq.step hj (key_ne x (.inr hx)) hs))
  show All2 _ (its.push (Value.ref p)).toList (cnt ls lis (j + 1) (lis.own.take (j + 1)))
  unfold cnt
  rw [flagged_self hj, if_pos rfl, Array.toList_push]
  exact (hits'.mono fun v l hv => hv.elim .inl fun ⟨e, p, n, e2, hp⟩ => .inr ⟨e, p, n, e2, hs _ hp⟩).append (.cons (.inr ⟨rfl, p, n0, rfl, hp⟩) .nil)
theorem lstCls {J : Heap} {cL cB f : Addr} {fv : Value} {ls : List Lis} {lis : Lis} {tlt : List (Addr × Obj)} {j : Nat} : ∀ {xs : List (List Str × Addr × Value)} {LL : List (Addr × Obj)}, All2 (LstAt J cL cB f fv ls lis tlt j) xs LL → ∀ {p}, p ∈ LL → ∃ its n, p.2 = W.listOf its n
  | _, _, .nil, _, hp => nomatch hp
  | _, _, .cons ⟨_, its, n, e, _⟩ r, p, hp => by
    rcases List.mem_cons.mp hp with rfl | hp
    · exact ⟨its, n, e⟩
    · exact lstCls r hp
theorem lstMem {J : Heap} {cL cB f : Addr} {fv : Value} {ls : List Lis} {lis : Lis} {tlt : List (Addr × Obj)} {j : Nat} {xs : List (List Str × Addr × Value)} {LL : List (Addr × Obj)} {k : List Str} {y0 l0 : Addr} (al : All2 (LstAt J cL cB f fv ls lis tlt j) xs LL) (h : (k, y0, Value.ref l0) ∈ xs) : ∃ its n, (l0, W.listOf its n) ∈ LL := by
  obtain ⟨a1, a2, ⟨b, ob⟩, b1, b2, rfl, rfl, r1, ⟨r2, its, n, r4, r5⟩, r3⟩ := al.split h
  cases r2
  dsimp only at r4
  exact ⟨its, n, by rw [← r4]; simp⟩
theorem allLt {d : Addr} : ∀ {l : List (Addr × Obj)}, AllLt d l → ∀ p ∈ l, p.1 < d
  | [], _, _, h => nomatch h
  | _ :: _, ⟨h1, h2⟩, p, hp => by
    rcases List.mem_cons.mp hp with rfl | hp
    · exact h1
    · exact allLt h2 p hp
theorem nmLedger2 {g h : Heap} {L x : Addr} {m : Str → Option Value} {ks : List Str} (F : Fr g L h m) (hx : IsNm h x ks) :
    ∃ ex : List (Addr × Obj), News g L h ex ∧ (∀ h' m', Fr g L h' m' → News g L h' ex → IsNm h' x ks) ∧ (∀ p ∈ ex, ∃ vs n, p.2 = tupObj vs n) := by
  obtain ⟨vs, n, e, q⟩ := hx
  cases eg : g.get? x with
  | some o =>
    have e2 := F.keep _ _ eg
    rw [e] at e2
    cases e2
    exact ⟨[], News.nil, fun h' m' F' _ => ⟨vs, n, F'.keep _ _ eg, q⟩, fun p hp => nomatch hp⟩
  | none =>
    refine ⟨[(x, tupObj vs n)], news_cons e (fun z => ?_) eg News.nil, fun h' m' _ N' => ⟨vs, n, N'.get (.head _), q⟩, fun p hp => ?_⟩
    · obtain ⟨o, es, ep, ho, hd, _⟩ := F.ns
      rw [← z, e] at ho; cases ho; cases hd
    · rcases List.mem_singleton.mp hp with rfl; exact ⟨_, _, rfl⟩
theorem flagged_zero {own k : List Str} (h : k ≠ []) : flagged own 0 k = false := by
  unfold flagged
  rw [Bool.and_eq_false_iff]
  right
  rw [decide_eq_false_iff_not]
  intro q
  exact h (List.length_eq_zero_iff.mp (by omega))
theorem cnt_zero {ls : List Lis} {lis : Lis} {k : List Str} (h : k ≠ []) : cnt ls lis 0 k = hits ls k := by
  unfold cnt; rw [flagged_zero h]; simp
theorem flagged_full {own k : List Str} : flagged own own.length k = k.isPrefixOf own := by
  unfold flagged
  cases hp : k.isPrefixOf own with
  | false => rfl
  | true =>
    have := (List.isPrefixOf_iff_prefix.mp hp).length_le
    simp [this]
theorem hits_snoc {ls : List Lis} {lis : Lis} {k : List Str} : hits (ls ++ [lis]) k = hits ls k ++ if k.isPrefixOf lis.own = true then [lis] else [] := by
  unfold hits
  rw [List.filter_append, List.filter_cons]
  rfl
theorem cnt_full {ls : List Lis} {lis : Lis} {k : List Str} : cnt ls lis lis.own.length k = hits (ls ++ [lis]) k := by
  unfold cnt; rw [flagged_full, hits_snoc]
end Mine
end
section
open PySem PySem.W PySem.Calls PyProof.Rows
namespace Mine
set_option maxRecDepth 100000
set_option maxHeartbeats 4000000
set_option pp.deepTerms false
set_option pp.deepTerms.threshold 6
theorem fillme8 : (fun (_ : OpenLaw) (_ : Params → Frag) => True) PySem.Challenge.rw_bs0024_01 hd.heap_39 := by
  w_top off
  k_fill
  trivial
local macro_rules | `(tactic| walk_at "eval Name") => `(tactic| (k_here; k_dflt (refine' nameX_L ?F ?v ?_ ?k ?a ?b; (case k => rfl); (case a => rfl); (case b => rfl); (case F => k_asm); (case v => first | exact rfl | assumption); k_whole)))
theorem len_nmL {w : World} {A : Around} {E : Value → Shared → Prop} {s : Shared} {g : Heap} {L t : Addr} {m : Str → Option Value} {ks : List Str} {news ex : List (Addr × Obj)} {Q : Value → Shared → Prop} (F : Fr g L s.heap m) (N : News g L s.heap news) (hex : ∀ h' m', Fr g L h' m' → News g L h' ex → IsNm h' t ks) (hks : ks.length ≤ 1000) (sub : ∀ p ∈ ex, p ∈ news)
    (h : Q (.int ks.length (s.toks + 1)) { s with toks := s.toks + 1 + 1 }) : wpAny (model prg w) A (call (.builtin "len") [.ref t]) Q E s := by
  obtain ⟨its, tp, hs⟩ := (hex _ _ F fun p hp => N p (sub p hp)).tup
  have e : its.size = ks.length := by rw [← Array.length_toList]; exact StrsAre.len hs
  refine call_function_entry kind_len plain_len entry_len (args_len1 _) (len_entry_tuple tp (by omega) ?_)
  rw [e]; exact h
local macro_rules | `(tactic| walk_at "call builtin:len") => `(tactic| (k_here; (with_reducible show wpAny _ _ (call _ [Value.ref _]) _ _ _); k_dflt (refine' len_nmL ?F ?N ?x ?z ?s ?_; (case F => k_asm); (case N => k_asm); (case x => with_reducible assumption); (case z => with_reducible assumption); (case s => exact fun p hp => by simp [hp]); k_whole)))
local macro_rules | `(tactic| k_all) => `(tactic| assumption)
theorem elt_ok {w : World} {A : Around} {E : Value → Shared → Prop} {s : Shared} {cenv : Env} {m : Str → Option Value} {c x : Addr} {own : List Str} {b : Nat} {t : Tok} {p1 p2 p3 p4 : Pos} (hk : cenv.scope.kind = .function) (hi : cenv.kindOf "i" = some .local) (hid : cenv.kindOf "identifier" = some .free) (hcell : cenv.cells.lookup ("identifier" : Str) = some c)
    (hns : s.heap.Ns cenv.locals m) (hm : m "i" = some (.int (b : Int) t)) (hc : s.heap.IsCell c (some (.ref x))) (hx : IsNm s.heap x own) (hlen : own.length ≤ 1000) :
    wpAny (model prg w) A (eval (.Subscript (.Name "identifier" p1) (.Slice none (some (.Name "i" p2)) none p3) p4) cenv) (fun v s₃ => (∃ y, v = .ref y ∧ IsNm s₃.heap y (own.take b)) ∧ Keeps s s₃) E s := by
  obtain ⟨vs, n, e, q⟩ := hx
  have hl : vs.size = own.length := by rw [← Array.length_toList]; exact StrsAre.len q
  refine wpAny_Subscript_Slice (T := "tuple") slot_tuple_getitem.lookup (wpAny_Name (wpAny_loadName_free hk hid hcell hc ?_ rfl) rfl) (fun _ _ => rfl)
  refine wpAny_Slice ?_
  rw [evalPart_none]
  refine wpAny_pure ?_
  rw [evalPart_some]
  refine wpAny_Name (wpAny_loadName_local (v := .int (b : Int) t) hk hi hns hm ?_) rfl
  refine wpAny_pure ?_
  have e' : (s.heap.push { cls := .type "slice", data := .fields #[.none, .int (b : Int) t, .none] }).get? x = some (tupObj vs n) := Heap.get?_push_of_some _ e
  refine ⟨⟨_, e', rfl⟩, getItem_tuple_upto ⟨_, e', rfl, n, rfl⟩ (Heap.IsSliceOf.new ..) (fun hb => ?_) (fun hb => ?_) (by rw [hl, PySem.sizeLine_eq]; omega)⟩
  · refine ⟨⟨x, rfl, vs, n, e', ?_⟩, _, _, rfl, fun b o z => Heap.get?_push_of_some _ z⟩
    rw [List.take_of_length_le (by omega)]; exact q
  · exact ⟨⟨_, rfl, _, 0, Heap.get?_push_size _ rfl, StrsAre.tk _ q⟩, _, _, rfl, fun b o z => Heap.get?_push_of_some _ (Heap.get?_push_of_some _ z)⟩
theorem codeMove {h h' : Heap} {c P : Addr} {ps : Array Value} (x : h.IsCode c P ps ∧ h.TableAt c P ps) (kc : ∀ o, h.get? c = some o → h'.get? c = some o) (kP : ∀ o, h.get? P = some o → h'.get? P = some o) : h'.IsCode c P ps ∧ h'.TableAt c P ps := by
  obtain ⟨⟨o, vs, file, tf, flags, tg, inF, text, tt, op, a, r1, r2, r3, r4, r5, r6, b, r⟩, ⟨o2, vs2, a2, r7⟩, t2⟩ := x
  exact ⟨⟨o, vs, file, tf, flags, tg, inF, text, tt, op, kc _ a, r1, r2, r3, r4, r5, r6, kP _ b, r⟩, ⟨o2, vs2, kc _ a2, r7⟩, kP _ t2⟩
theorem genexprCode_any {M : Model} {A : Around} {E : Value → Shared → Prop} {s : Shared} {env : Env} {c P : Addr} {ps : Array Value} {pos : Pos} {qualname : Str} {scope : Scope} {Q : Value → Shared → Prop} (hc : env.code = .ref c) (hok : s.heap.IsCode c P ps ∧ s.heap.TableAt c P ps)
    (hQ : ∀ code h' tk ps', Heap.ExtBut P s.heap h' → (h'.IsCode c P ps' ∧ h'.TableAt c P ps') → Q code { s with heap := h', toks := tk }) :
    wpAny M A (genexprCode env pos qualname scope) Q E s := by
  cases hf : codeAmong pos ps.toList with
  | some c' => exact wpAny_genexprCode_hit hc hok.1 hf (hQ c' s.heap s.toks ps (Heap.ExtBut.refl _ _) hok)
  | none => exact wpAny_genexprCodeX hc hok.1 hok.2 hf fun c' h' tk x _ _ h1 _ h2 _ => hQ _ h' tk _ x ⟨h1, h2⟩
/-- the lists of the table, in its order -/
def ListsAt (J : Heap) (cL cB : Addr) (ls : List Lis) (h : Heap) (x : List Str × Addr × Value) (p : Addr × Obj) : Prop :=
  x.2.2 = .ref p.1 ∧ ∃ its n, p.2 = W.listOf its n ∧ All2 (PairAt J cL cB) its.toList (hits ls x.1)
structure RegIn (w : World) (G0 J : Heap) (a : Adr) (hsh : Int) (tl : Tok) (nb : Nat) (xs : List (List Str × Addr × Value)) (ls : List Lis) (LL : List (Addr × Obj)) (ps : Array Value) (h : Heap) : Prop where
  inst : h.get? a.bus = some (instObj 53 a.bd)
  dict : h.get? a.bd = some (dictOf (lisEntry hsh tl a.D) nb)
  tab : h.DictOfH (tKind w) a.D xs
  lists : All2 (ListsAt J a.cL a.cB ls h) xs LL
  at' : ∀ p ∈ LL, h.get? p.1 = some p.2
  nodup : (LL.map (·.1)).Nodup
  miss : ∀ k, k ≠ [] → (∀ x ∈ xs, x.1 ≠ k) → hits ls k = []
  apart : a.D ≠ a.bd
  dne : (a.D == sysModules) = false
  code : h.IsCode 42 38 ps ∧ h.TableAt 42 38 ps
  kne : ∀ y ∈ xs, y.1 ≠ []
  none0 : ∀ b ∈ a.bus :: a.bd :: a.D :: 38 :: LL.map (·.1), G0.get? b = none ∧ J.get? b = none
theorem tupNotList {J : Heap} {cL cB : Addr} {ls : List Lis} {h : Heap} : ∀ {xs : List (List Str × Addr × Value)} {LL : List (Addr × Obj)}, All2 (ListsAt J cL cB ls h) xs LL → ∀ {p}, p ∈ LL → p.2.cls = .type "tuple" → False
  | _, _, .nil, _, hp, _ => nomatch hp
  | _, _, .cons ⟨_, its, n, e, _⟩ r, p, hp, hc => by
    rcases List.mem_cons.mp hp with rfl | hp
    · rw [e] at hc; simp at hc
    · exact tupNotList r hp hc
theorem listCls {J : Heap} {cL cB : Addr} {ls : List Lis} {h : Heap} : ∀ {xs : List (List Str × Addr × Value)} {LL : List (Addr × Obj)}, All2 (ListsAt J cL cB ls h) xs LL → ∀ {p}, p ∈ LL → p.2.cls = .type "list"
  | _, _, .nil, _, hp => nomatch hp
  | _, _, .cons ⟨_, its, n, e, _⟩ r, p, hp => by
    rcases List.mem_cons.mp hp with rfl | hp
    · rw [e]
    · exact listCls r hp
theorem with_state {M : Model} {α : Type} {A : Around} {c : Sem α} {Q : α → Shared → Prop} {E : Value → Shared → Prop} {s : Shared} {P : Around → Shared → Prop} (h : P A s) (k : P A s → wpAny M A c Q E s) : wpAny M A c Q E s := k h
def FvG (C I : Addr) (own : List Str) (j : Nat) (h : Heap) (v : Value) : Prop := (∃ y, v = .ref y ∧ IsNm h y (own.take (j + 1))) ∧ (∃ o, h.get? C = some o ∧ ∀ vs n, o ≠ tupObj vs n) ∧ ∃ o, h.get? I = some o ∧ ∀ vs n, o ≠ tupObj vs n
theorem fr_store {g h h' : Heap} {L : Addr} {m m' : Str → Option Value} (F : Fr g L h m) (n : h'.Ns L m') (x : Heap.SameBut L h h') : Fr g L h' m' :=
  ⟨n, fun b o e => x.extBut b o (Nat.ne_of_lt (Nat.lt_of_lt_of_le (Heap.lt_size e) F.above)) (F.keep b o e), F.above⟩
theorem news_store {g h h' : Heap} {L : Addr} {nw : List (Addr × Obj)} (N : News g L h nw) (x : Heap.SameBut L h h') : News g L h' nw := fun p hp => ⟨x.extBut _ _ (N p hp).2.1 (N p hp).1, (N p hp).2⟩
theorem AllBare.set {gens : Array GenState} {i : Nat} {g : GenState} (x : AllBare gens) (hg : g.bare = true) : AllBare (gens.setIfInBounds i g) := fun y hy => by
  rcases Array.mem_or_eq_of_mem_setIfInBounds hy with h | rfl
  · exact x _ h
  · exact hg
theorem register {w : World} {A : Around} {s : Shared} {G0 J : Heap} {a : Adr} {hsh : Int} {tl : Tok} {nb : Nat} {xs : List (List Str × Addr × Value)} {ls : List Lis} {LL : List (Addr × Obj)} {ps : Array Value} {loose mean mg mb} {Q E : Value → Shared → Prop} {id : Value} {f : Addr} {fv : Value} {as : List Value} {lis : Lis} (X : (hd.heap_39 w.params).In G0) (T : Top topProg loose mean mg mb G0) (k : G0.StaysIn s.heap)
    (R : RegIn w G0 J a hsh tl nb xs ls LL ps s.heap) (kJ : J.StaysIn s.heap) (hh : A.handled = none) (hdp : A.depth + 60 < recursionLimit) (hu : A.units + 100 < cLine)
    (hid : IdAt s.heap id lis.own) (hne : lis.own ≠ []) (hlen : lis.own.length ≤ 1000) (hxs : xs.length + lis.own.length ≤ 1000000) (hls : ls.length ≤ 100000)
    (has : as = [] ∧ fv = .none ∨ as = [fv])
    (hf : HearsAt J f lis.num lis.ans a.cL a.cB) (hfv : FvAt J fv lis.sieve)
    (h : ∀ h' tk gens' J' xs' LL' ps', (AllBare s.gens → AllBare gens') → Ext (a.D :: 38 :: LL.map (·.1)) s.heap h' → J.StaysIn J' → J'.StaysIn h' → (∀ b, J.get? b = none → (∃ o, s.heap.get? b = some o) → J'.get? b = none) →
      RegIn w G0 J' a hsh tl nb xs' (ls ++ [lis]) LL' ps' h' → xs'.length ≤ xs.length + lis.own.length → (∀ b ∈ LL'.map (·.1), b ∈ a.bus :: a.bd :: a.D :: 38 :: LL.map (·.1) ∨ ∀ o, s.heap.get? b ≠ some o) → Q .none { s with heap := h', toks := tk, gens := gens' }) :
    wpAny (model prg w) A (call (.ref 43) (.ref a.bus :: id :: .ref f :: as)) Q E s := by
  obtain ⟨oD, es, ep, hoD, hxD, hdD, heD, hisD, hndD⟩ := R.tab
  have hoT := R.code.2.2
  have mulim : ∀ b ∈ a.bus :: a.bd :: a.D :: 38 :: LL.map (·.1), b < s.heap.objs.size := fun b hb => by
    simp only [List.mem_cons] at hb
    rcases hb with rfl | rfl | rfl | rfl | hb
    · exact Heap.lt_size R.inst
    · exact Heap.lt_size R.dict
    · exact Heap.lt_size hoD
    · exact Heap.lt_size hoT
    · obtain ⟨p, hp, rfl⟩ := List.mem_map.mp hb
      exact Heap.lt_size (R.at' p hp)
  refine wpAny_call ?_
  refine' enterKC (G0 := G0) (binds := [("self", .ref a.bus), ("identifier", id), ("func", .ref f), ("filter_func", fv)]) ((a.bus, instObj 53 a.bd) :: (a.bd, dictOf (lisEntry hsh tl a.D) nb) :: (a.D, oD) :: (38, { cls := .none, data := .fields ps }) :: LL) ?hmu ?hm0 k X T.nolimit ?ho ?hcd ?hroom ?hb ?hl ?hn ?_ ?c1 ?c2 ?c3
  (case ho => k_is)
  (case hcd => k_is)
  (case hmu =>
    intro p hp
    simp only [List.mem_cons] at hp
    rcases hp with rfl | rfl | rfl | rfl | hp
    · exact R.inst
    · exact R.dict
    · exact hoD
    · exact hoT
    · exact R.at' _ hp)
  (case hm0 =>
    intro p hp
    refine (R.none0 p.1 ?_).1
    simp only [List.mem_cons] at hp ⊢
    rcases hp with rfl | rfl | rfl | rfl | hp
    · simp
    · simp
    · simp
    · simp
    · exact .inr (.inr (.inr (.inr (List.mem_map_of_mem hp)))))
  (case hroom => omega)
  (case hb =>
    rcases has with ⟨rfl, rfl⟩ | rfl
    · have KX := X.keeps k
      exact binds_K (by k_in) rfl (by k_is) rfl rfl rfl
    · have KX := X.keeps k
      exact binds_K (by k_in) rfl (by k_is) rfl rfl rfl)
  (case hl => exact rfl)
  (case hn => decide)
  (case c1 => exact rfl)
  (case c2 => exact rfl)
  (case c3 => exact rfl)
  intro g L' h₁ tk₁ cells kg eg og hL F N Y
  have X' := X.keeps kg
  have T' := T.keeps kg
  obtain ⟨o, rfl, ho⟩ := CellsAre.one Y
  replace ho : o.data = .cell (some id) := ho
  clear Y
  simp only [List.cons_append, List.nil_append] at N
  dsimp only
  have gk : ∀ {b : Addr} {o : Obj}, J.get? b = some o → g.get? b = some o := fun {b o} e => eg _ _ (kJ _ _ e) fun q => by
    have q2 : b ∈ a.bus :: a.bd :: a.D :: 38 :: LL.map (·.1) := by simpa using q
    rw [(R.none0 b q2).2] at e; cases e
  have tupg : ∀ {b : Addr} {o : Obj}, o.cls = .type "tuple" → s.heap.get? b = some o → g.get? b = some o := fun {b o} hc e => eg _ _ e fun q => by
    simp only [List.map_cons, List.mem_cons] at q
    rcases q with rfl | rfl | rfl | rfl | q
    · rw [R.inst] at e; cases e; simp at hc
    · rw [R.dict] at e; cases e; simp at hc
    · rw [hoD] at e; cases e; rw [hxD.1] at hc; simp at hc
    · rw [hoT] at e; cases e; simp at hc
    · obtain ⟨p, hp, rfl⟩ := List.mem_map.mp q
      have e2 := R.at' p hp
      rw [e] at e2
      cases e2
      exact tupNotList R.lists hp hc
  have hid1 : IdAt g id lis.own := by
    rcases hid with ⟨x, rfl, y⟩ | y
    · obtain ⟨vs, n, e, q⟩ := y
      exact .inl ⟨x, rfl, vs, n, tupg rfl e, q⟩
    · exact .inr y
  have DN := R.dne
  k_steps
  rename Fr _ _ _ _ => F9
  rename News _ _ _ _ => N9
  refine toTuple X' T' F9.keep (by simp only [depth_deeper]; omega) (by
    rcases hid1 with ⟨x, rfl, hx⟩ | hx
    · exact .inl ⟨x, rfl, hx.keeps (F9.keep _)⟩
    · exact .inr hx) fun x h2 tk2 e2 hx2 => ?_
  replace F9 := fr_keep F9 e2
  replace N9 := news_keep N9 e2
  dsimp only
  refine wpAny_storeName_cell (c := L' + 1) rfl rfl rfl ⟨o, N9.get (.head _), ho⟩ fun h3 hc3 hs3 => ?_
  obtain ⟨o3, e3, ho3⟩ := hc3
  have x3 : Ext [L' + 1] h2 h3 := fun b o e n => hs3.extBut b o (by simpa using n) e
  have nxc : x ≠ L' + 1 := fun q => by
    obtain ⟨vs, n, e, _⟩ := hx2
    rw [q, N9.get (.head _)] at e
    cases e
    cases ho
  replace hx2 : IsNm h3 x lis.own := hx2.keeps fun o e => x3 _ _ e (by simpa using nxc)
  have gc := (N9 _ (.head _)).2
  replace F9 := fr_ext F9 x3 (by simpa using gc.1.symm) (by intro b hb; rcases List.mem_singleton.mp hb with rfl; exact gc.2)
  replace N9 := ledger_upd (pre := []) N9 x3 e3 (fun _ z => nomatch z) (fun p hp => by
    have e := mulim p.1 (by simpa using List.mem_map_of_mem (f := (·.1)) hp)
    have e' : p.1 < L' := by rw [← hL]; exact e
    exact Nat.ne_of_lt (Nat.lt_succ_of_lt e'))
  obtain ⟨vs0, nx0, e0, q0⟩ := hx2
  obtain ⟨ex, Nex, hexo, cex⟩ := tupLedger F9 e0
  have hex : ∀ h' m', Fr g L' h' m' → News g L' h' ex → IsNm h' x lis.own := fun h' m' F' N' => ⟨vs0, nx0, hexo h' m' F' N', q0⟩
  obtain ⟨tl1, htl1⟩ : ∃ tl1, tl1 = LL ++ ex := ⟨_, rfl⟩
  have hex1 : ∀ h' m', Fr g L' h' m' → News g L' h' tl1 → IsNm h' x lis.own := fun h' m' F' N' => hex h' m' F' (news_right (htl1 ▸ N'))
  replace N9 : News g L' h3 ((L' + 1, o3) :: (a.bus, instObj 53 a.bd) :: (a.bd, dictOf (lisEntry hsh tl a.D) nb) :: (a.D, oD) :: (38, { cls := .none, data := .fields ps }) :: tl1) := fun p hp => by
    rw [htl1] at hp
    simp only [List.mem_cons, List.mem_append] at hp
    rcases hp with rfl | rfl | rfl | rfl | rfl | hp | hp
    · exact N9 _ (by simp)
    · exact N9 _ (by simp)
    · exact N9 _ (by simp)
    · exact N9 _ (by simp)
    · exact N9 _ (by simp)
    · exact N9 _ (by simp [hp])
    · exact Nex _ hp
  clear Nex
  k_steps
  refine wpAny_GeneratorExp_make (cl := [("identifier", L' + 1)]) rfl (by with_unfolding_all rfl) (by decide) rfl rfl (by simp only [depth_deeper]; omega) ?_ (fun _ => rfl)
  k_steps
  rename Fr _ _ _ _ => F9
  rename News _ _ _ _ => N9
  rename Heap => h4
  have n0 : Builtin.Range.rangeSize 1 ((lis.own.length : Int) + 1) 1 = ((lis.own.length : Nat) : Int) := by
    rw [rangeSize_nat]; congr 1; omega
  rename IsRange _ _ _ _ _ _ _ _ => hr
  refine wpAny_pyIter_range hr (small_one (by decide) (by decide) (by omega) (by omega)) ?_
  rw [n0]
  have n38 : (38 : Nat) < L' := by rw [← hL]; exact Heap.lt_size hoT
  have nL4 : L' < h4.objs.size := F9.ns.lt
  have g42 : ∃ o, g.get? 42 = some o := ⟨_, X' _ _ (by k_is)⟩
  have C4 : h4.IsCode 42 38 ps ∧ h4.TableAt 42 38 ps := codeMove R.code (fun o e => by
    obtain ⟨o', e'⟩ := g42
    have e2 := og _ _ e'
    rw [e] at e2
    cases e2
    exact F9.keep _ _ e') (fun o e => by rw [hoT] at e; cases e; exact N9.get (by k_mem))
  have ctl1 : ∀ p ∈ tl1, p.2.cls ≠ .none := fun p hp => by
    rw [htl1] at hp
    rcases List.mem_append.mp hp with hp | hp
    · rw [listCls R.lists hp]; simp
    · rw [cex p hp]; simp
  generalize hro : ({ cls := .type "range_iterator", data := .fields #[rawInt 1, rawInt ((lis.own.length : Nat) : Int), rawInt 1] } : Obj) = ro
  have N5 := N9.push F9 ro (by rw [← hro]; rfl)
  have F5 := F9.push ro
  refine ⟨T'.nolimit.keeps F5.keep, ?_⟩
  refine genexprCode_any rfl (codeMove C4 (fun o e => Heap.get?_push_of_some _ e) (fun o e => Heap.get?_push_of_some _ e)) fun code h6 tk6 ps6 x6 C6 => ?_
  have x6' : Ext [38] (h4.push ro) h6 := fun b o e n => x6 b o (by simpa using n) e
  have e38 := C6.2.2
  have m38 := N5 _ (show ((38 : Nat), ({ cls := .none, data := .fields ps } : Obj)) ∈ _ by simp)
  have N6 := ledger_upd (pre := [_, _, _, _, _]) N5 x6' e38 (fun p hp => by
    simp only [List.mem_cons, List.not_mem_nil, or_false] at hp
    rcases hp with rfl | rfl | rfl | rfl | rfl
    · exact Nat.ne_of_gt (Nat.lt_trans n38 nL4)
    · exact Nat.ne_of_gt (Nat.lt_succ_of_lt n38)
    · exact cls_ne (N5 _ (by simp)).1 m38.1 (by simp)
    · exact cls_ne (N5 _ (by simp)).1 m38.1 (by simp)
    · exact cls_ne (N5 (a.D, oD) (by simp)).1 m38.1 (by rw [hxD.1]; simp)) (fun p hp => cls_ne (N5 p (by simp [hp])).1 m38.1 (ctl1 p hp))
  have F6 := fr_ext F5 x6' (by simpa using Nat.ne_of_gt n38) (by intro b hb; rcases List.mem_singleton.mp hb with rfl; exact m38.2.2)
  have F6k := F6.keep
  obtain ⟨bm, ob, b1, b2, b3, b4, b5, b6⟩ := T'.bmain
  refine wpAny_builtinsFor (T'.g.keeps F6.keep) b1 b2 (F6.keep _ _ b3) b4 b5 b6 ?_
  intro h7 hns7 hs7
  have hns7' := hns7
  obtain ⟨oC, _, _, eC7, _⟩ := hns7'
  have nL6 : L' < h6.objs.size := F6.ns.lt
  have sz7 : h7.objs.size = h6.objs.size + 1 := by rw [hs7.1, Heap.size_push]
  have k67 : ∀ b o, h6.get? b = some o → h7.get? b = some o := fun b o e => hs7.extBut b o (Nat.ne_of_lt (Heap.lt_size e)) (Heap.get?_push_of_some _ e)
  have F7 := F6.keeps k67
  have N7 := N6.grown k67
  have gC : g.get? h6.objs.size = none := Heap.get?_none_of_le (Nat.le_trans F6.above (Nat.le_of_lt nL6))
  have ga : g.get? h7.objs.size = none := Heap.get?_none_of_le (by have := F6.above; omega)
  have N7' := news_cons eC7 (Nat.ne_of_gt nL6) gC N7
  generalize hgo : ({ cls := .type "generator", data := _ } : Obj) = go
  have N8 := N7'.push F7 go (by rw [← hgo]; rfl)
  have F8 := F7.push go
  have nI6 : h4.objs.size < h6.objs.size := Heap.lt_size (N6 (h4.objs.size, ro) (by simp)).1
  have hex8 : ∀ h' m', Fr g L' h' m' → News g L' h' tl1 → h'.get? x = some (tupObj vs0 nx0) := fun h' m' F' N' => hexo h' m' F' (news_right (htl1 ▸ N'))
  have ex8 : (h7.push go).get? x = some (tupObj vs0 nx0) := hex8 _ _ F8 fun p hp => N8 p (by simp [hp])
  have nx4 : x < h4.objs.size := Heap.lt_size (hex8 _ _ F9 fun p hp => N9 p (by simp [hp]))
  have nc4 : L' + 1 < h4.objs.size := Heap.lt_size (N9 _ (.head _)).1
  have old4 : ∀ b ∈ (L' + 1) :: a.bus :: a.bd :: a.D :: 38 :: tl1.map (·.1), b < h4.objs.size := fun b hb => by
    simp only [List.mem_cons] at hb
    rcases hb with rfl | rfl | rfl | rfl | rfl | hb
    · exact nc4
    · exact Heap.lt_size (N9 (a.bus, instObj 53 a.bd) (by simp)).1
    · exact Heap.lt_size (N9 (a.bd, dictOf (lisEntry hsh tl a.D) nb) (by simp)).1
    · exact Heap.lt_size (N9 (a.D, oD) (by simp)).1
    · exact Nat.lt_trans n38 nL4
    · obtain ⟨p, hp, rfl⟩ := List.mem_map.mp hb
      exact Heap.lt_size (N9 p (by simp [hp])).1
  have ego := (N8 (_, go) (.head _)).1
  have hgen : (h7.push go).IsGen h7.objs.size s.gens.size := by
    rw [← hgo] at ego
    rw [← hgo]
    exact ⟨_, _, _, ego, rfl, rfl, rfl⟩
  refine with_state (P := fun A' S => GenAtH w A' h7.objs.size s.gens.size h6.objs.size [h4.objs.size, L' + 1, x] [h4.objs.size] lis.own.length (FvG h6.objs.size h4.objs.size lis.own) 0 S) ?hfresh fun st8 => ?_
  case hfresh =>
    refine' GenAtH.fresh (cenv := genEnv ?sc ?cl h6.objs.size ?cd ?bi ?en) (m := fun y => if y = ".0" then some (.ref h4.objs.size) else none) (St₀ := fun i h => IsRangeIter h h4.objs.size (1 + (i : Nat) * 1) ((lis.own.length : Int) - (i : Nat)) 1) (P := fun i v => ∃ t, v = .int (1 + (i : Int)) t) ?h1 ?hW _ ?h2 ?h3 ?h4 ?hCf ?hq ?h0 ?h5 ?hst ?h6
    case h5 => exact Array.getElem?_push_size ..
    case h1 => exact hh
    case h0 => exact hgen
    case hW => exact fun A' hA => (LCg.range_walks (prog := prg) (w := w) (I := h4.objs.size) hA 1 lis.own.length).mono_fp (by intro b hb; simp at hb; simp [hb])
    case h2 => exact rfl
    case h3 => exact rfl
    case h4 => exact rfl
    case h6 => exact hns7.push _
    case hCf =>
      simp only [List.mem_cons, List.not_mem_nil, or_false, not_or]
      refine ⟨?_, ?_, ?_⟩
      · exact Nat.ne_of_gt nI6
      · exact Nat.ne_of_gt (Nat.lt_trans nc4 nI6)
      · exact Nat.ne_of_gt (Nat.lt_trans nx4 nI6)
    case hst =>
      have e := (N8 (h4.objs.size, ro) (by simp)).1
      rw [← hro] at e
      show (h7.push go).get? h4.objs.size = some _
      rw [e]; simp
    case hq =>
      rintro A' E' i v s₂ m₂ hA ⟨t, rfl⟩ hns hm hkp hst
      have ec : s₂.heap.get? (L' + 1) = some o3 := hkp (L' + 1) (by simp) (by simp; exact Nat.ne_of_lt nc4) _ (N8 (L' + 1, o3) (by simp)).1
      have ex : s₂.heap.get? x = some (tupObj vs0 nx0) := hkp x (by simp) (by simp; exact Nat.ne_of_lt nx4) _ ex8
      have e1 : (1 : Int) + (i : Int) = ((i + 1 : Nat) : Int) := by omega
      refine wpAny_mono (elt_ok (own := lis.own) (c := L' + 1) (x := x) rfl rfl rfl rfl hns (by rw [hm, e1]) ⟨o3, ec, ho3⟩ ⟨vs0, nx0, ex, q0⟩ hlen) (fun v s₃ hv => ?_) fun _ _ z => z
      obtain ⟨hv, hk3⟩ := hv
      obtain ⟨h9, tk9, rfl, hk9⟩ := hk3
      obtain ⟨oC2, _, _, eC2, dC2, _⟩ := hns
      exact ⟨⟨hv, ⟨_, hk9 _ _ eC2, fun vs n q => by rw [q] at dC2; cases dC2⟩, _, hk9 _ _ (show s₂.heap.get? _ = some _ from hst), fun vs n q => by simp at q⟩, _, _, rfl, hk9⟩
  refine wpAny_storeName_local rfl F8.ns (fun h9 hns9 hs9 => ?_) rfl
  replace F9 := fr_store F8 hns9 hs9
  replace N9 := news_store N8 hs9
  replace st8 := st8.move (s' := { s with heap := h9, gens := _ }) rfl (fun b hb o e => hs9.extBut b o (by
    simp only [List.mem_cons, List.not_mem_nil, or_false] at hb
    rcases hb with rfl | rfl | rfl | rfl | rfl
    · exact (N8 (_, go) (by simp)).2.1
    · exact (N8 (_, oC) (by simp)).2.1
    · exact (N8 (_, ro) (by simp)).2.1
    · exact (N8 (_, o3) (by simp)).2.1
    · intro q
      obtain ⟨o9, _, _, e9, d9, _⟩ := F8.ns
      rw [q, e9] at ex8
      cases ex8
      cases d9) e)
  clear F5 N5 F6 N6 F7 N7 N7' F8 N8
  simp only [List.cons_append, List.nil_append] at N9
  dsimp only at N9 ⊢
  k_steps
  refine wpAny_For ?_ (fun _ => rfl)
  k_steps
  refine wpAny_pyIter_gen st8.1 ?_
  rename Fr _ _ _ _ => F9
  rename News _ _ _ _ => N9
  have tupg2 : True := trivial
  refine loopG (s₀ := s) (gi := s.gens.size) (C := h6.objs.size) (I := h4.objs.size) (n₀ := lis.own.length) (Fv := FvG h6.objs.size h4.objs.size lis.own) (fpo := [(L' + 1, o3), (x, tupObj vs0 nx0)]) ?hh9 ?hroom9 T'.nolimit ?hgz ?hab (fun j h v hv => hv.2)
    (fun gens => AllBare s.gens → AllBare gens) (fun gens gs' y hb z => AllBare.set (y z) hb)
    (fun j h m nw => ∃ oD' xs' LL' tlt, nw = (L' + 1, o3) :: (a.bus, instObj 53 a.bd) :: (a.bd, dictOf (lisEntry hsh tl a.D) nb) :: (a.D, oD') :: (38, { cls := .none, data := .fields ps6 }) :: (LL' ++ tlt) ∧
      DictL w g L' oD' xs' tlt ∧ (∀ p ∈ tlt, p.2.cls = .type "tuple") ∧ (∀ h' m', Fr g L' h' m' → News g L' h' tlt → h'.get? x = some (tupObj vs0 nx0)) ∧
      All2 (LstAt J a.cL a.cB f fv ls lis tlt j) xs' LL' ∧ (LL'.map (·.1)).Nodup ∧ xs'.length ≤ xs.length + j ∧ (∀ k, k ≠ [] → (∀ y ∈ xs', y.1 ≠ k) → hits ls k = [] ∧ flagged lis.own j k = false) ∧ (∀ y ∈ xs', y.1 ≠ []) ∧ (∀ p ∈ LL, p.1 ∈ LL'.map (·.1)) ∧
      m "self" = some (.ref a.bus) ∧ m "func" = some (.ref f) ∧ m "filter_func" = some fv)
    ?hfp ?hfpo ?hP ?turn ?fin (nw := (L' + 1, o3) :: (a.bus, instObj 53 a.bd) :: (a.bd, dictOf (lisEntry hsh tl a.D) nb) :: (a.D, oD) :: (38, { cls := .none, data := .fields ps6 }) :: (LL ++ ex)) ?p0 ?G0 F9 ?N0 ?off ?st0
  case hh9 => exact hh
  case hroom9 => simp only [depth_deeper]; omega
  case hgz =>
    intro b hb
    simp only [List.mem_cons, List.not_mem_nil, or_false] at hb
    rcases hb with rfl | rfl | rfl
    · exact ⟨(N9 (_, go) (by simp)).2.2, (N9 (_, go) (by simp)).2.1⟩
    · exact ⟨(N9 (_, oC) (by simp)).2.2, (N9 (_, oC) (by simp)).2.1⟩
    · exact ⟨(N9 (_, ro) (by simp)).2.2, (N9 (_, ro) (by simp)).2.1⟩
  case hab =>
    refine ⟨?_, ?_, ?_⟩
    · exact Nat.ne_of_gt (by rw [sz7]; exact Nat.lt_succ_self _)
    · exact Nat.ne_of_gt (by rw [sz7]; exact Nat.lt_succ_of_lt nI6)
    · exact Nat.ne_of_gt nI6
  case hfp =>
    rintro i h m nw ⟨oD', xs', LL', tlt, rfl, DL, ctl, hxt, _⟩ F N p hp
    simp only [List.mem_cons, List.not_mem_nil, or_false] at hp
    rcases hp with rfl | rfl
    · exact (N _ (by simp)).1
    · exact hxt h m F fun p hp => N p (by simp [hp])
  case hfpo =>
    intro p hp
    simp only [List.mem_cons, List.not_mem_nil, or_false] at hp
    rcases hp with rfl | rfl
    · exact ⟨Nat.ne_of_lt (Nat.lt_trans nc4 nI6), Nat.ne_of_lt nc4⟩
    · exact ⟨Nat.ne_of_lt (Nat.lt_trans nx4 nI6), Nat.ne_of_lt nx4⟩
  case hP => exact fun i h h' m nw p _ => p
  case p0 =>
    refine ⟨oD, xs, LL, ex, rfl, ⟨hxD, ⟨es, ep, hdD, heD⟩, hndD, fun h' m' F' _ y hy => ?_⟩, cex, hexo, R.lists.monoL (fun y hy p _ hp => ?_), R.nodup, by omega, fun k hk hx => ⟨R.miss k hk hx, flagged_zero hk⟩, R.kne, fun p hp => List.mem_map_of_mem hp, rfl, rfl, rfl⟩
    · obtain ⟨o', its, n, h1, h2, h3⟩ := hisD y hy
      exact ⟨o', its, n, F'.keep _ _ (tupg h2 h1), h2, h3⟩
    · obtain ⟨h1, its, n, h2, h3⟩ := hp
      refine ⟨h1, its, n, h2, ?_⟩
      rw [cnt_zero (R.kne y hy)]
      exact h3.mono fun v l hv => .inl hv
  case G0 => exact fun z => z.push rfl
  case N0 =>
    intro p hp
    rw [← htl1] at hp
    refine N9 p ?_
    simp only [List.mem_cons] at hp ⊢
    rcases hp with h | h | h | h | h | h <;> simp [h]
  case off =>
    intro p hp q
    have e : p.1 < h4.objs.size := old4 p.1 (by
      rw [← htl1] at hp
      simp only [List.mem_cons] at hp ⊢
      rcases hp with rfl | rfl | rfl | rfl | rfl | hp
      · simp
      · simp
      · simp
      · simp
      · simp
      · exact .inr (.inr (.inr (.inr (.inr (List.mem_map_of_mem hp))))))
    simp only [List.mem_cons, List.not_mem_nil, or_false] at q
    rcases q with q | q | q
    · rw [q, sz7] at e
      exact Nat.lt_irrefl _ (Nat.lt_trans e (Nat.lt_succ_of_lt nI6))
    · rw [q] at e
      exact Nat.lt_irrefl _ (Nat.lt_trans e nI6)
    · rw [q] at e
      exact Nat.lt_irrefl _ e
  case st0 => exact st8
  case fin =>
    rintro h16 tk16 gens16 m16 nw ⟨oD', xs', LL', tlt, rfl, DL, ctl, hxt, al, nd, hxl, miss, kne, subLL, hm1, hm2, hm3⟩ hG F N
    refine wpAny_execs_nil ?_
    dsimp only
    have hJ : J.StaysIn h16 := fun b o e => F.keep _ _ (gk e)
    obtain ⟨J', j1, j2, j3, j4⟩ := growJ (tlt.map (·.1)) hJ
    have ntup : ∀ {p : Addr × Obj}, p ∈ ((L' + 1, o3) :: (a.bus, instObj 53 a.bd) :: (a.bd, dictOf (lisEntry hsh tl a.D) nb) :: (a.D, oD') :: (38, ({ cls := .none, data := .fields ps6 } : Obj)) :: (LL' ++ tlt)) → p.2.cls ≠ .type "tuple" → p.1 ∉ tlt.map (·.1) := fun {p} hp hc q => by
      obtain ⟨r, hr, e⟩ := List.mem_map.mp q
      exact cls_ne (N r (by simp [hr])).1 (N p hp).1 (by rw [ctl r hr]; exact fun z => hc z.symm) e
    have nonb : ∀ {p : Addr × Obj}, p ∈ ((L' + 1, o3) :: (a.bus, instObj 53 a.bd) :: (a.bd, dictOf (lisEntry hsh tl a.D) nb) :: (a.D, oD') :: (38, ({ cls := .none, data := .fields ps6 } : Obj)) :: (LL' ++ tlt)) → p.2.cls ≠ .type "tuple" → G0.get? p.1 = none ∧ J'.get? p.1 = none := fun {p} hp hc => by
      have gn := (N p hp).2.2
      have Jn : J.get? p.1 = none := by
        cases q : J.get? p.1 with
        | none => rfl
        | some o => have := gk q; rw [gn] at this; cases this
      refine ⟨?_, j4 _ Jn (ntup hp hc)⟩
      cases q : G0.get? p.1 with
      | none => rfl
      | some o => have := kg _ _ q; rw [gn] at this; cases this
    have lcls : ∀ {p : Addr × Obj}, p ∈ LL' → p.2.cls ≠ .type "tuple" := fun {p} hp => by
      obtain ⟨its, n, e⟩ := lstCls al hp
      rw [e]; simp
    refine h h16 tk16 gens16 J' xs' LL' ps6 hG (fun b o e nb9 => ?e1) j1 j2 (fun b e ho => j4 b e fun q => ?e2) ⟨(N (a.bus, instObj 53 a.bd) (by simp)).1, (N (a.bd, dictOf (lisEntry hsh tl a.D) nb) (by simp)).1, DL.at' F (fun p hp => N p (by simp [hp])) (N (a.D, oD') (by simp)).1, al.mono fun y p hp => ?e3, fun p hp => (N p (by simp [hp])).1, nd, fun k hk hx => ?e4, R.apart, R.dne,
      codeMove C6 (fun o e => ?e5) (fun o e => ?e6), kne, fun b hb => ?e7⟩ hxl (fun b hb => ?e8)
    case e8 =>
      obtain ⟨p, hp, rfl⟩ := List.mem_map.mp hb
      by_cases q : p.1 ∈ a.bus :: a.bd :: a.D :: 38 :: LL.map (·.1)
      · exact .inl q
      · refine .inr fun o e => ?_
        have e1 := eg _ _ e (by simpa using q)
        rw [(N p (by simp [hp])).2.2] at e1; cases e1
    case e1 =>
      simp only [List.mem_cons, not_or] at nb9
      by_cases q1 : b = a.bus
      · rw [q1, R.inst] at e; cases e; rw [q1]; exact (N (a.bus, instObj 53 a.bd) (by simp)).1
      · by_cases q2 : b = a.bd
        · rw [q2, R.dict] at e; cases e; rw [q2]; exact (N (a.bd, dictOf (lisEntry hsh tl a.D) nb) (by simp)).1
        · refine F.keep _ _ (eg _ _ e ?_)
          simp only [List.map_cons, List.mem_cons, not_or]
          exact ⟨q1, q2, nb9.1, nb9.2.1, nb9.2.2⟩
    case e2 =>
      obtain ⟨o, ho⟩ := ho
      obtain ⟨r, hr, rfl⟩ := List.mem_map.mp q
      have gn := (N r (by simp [hr])).2.2
      by_cases hb : r.1 ∈ a.bus :: a.bd :: a.D :: 38 :: LL.map (·.1)
      · simp only [List.mem_cons] at hb
        rcases hb with e | e | e | e | e
        · exact ntup (p := (a.bus, instObj 53 a.bd)) (by simp) (by simp) (e ▸ q)
        · exact ntup (p := (a.bd, dictOf (lisEntry hsh tl a.D) nb)) (by simp) (by simp) (e ▸ q)
        · exact ntup (p := (a.D, oD')) (by simp) (by rw [DL.ex.1]; simp) (e ▸ q)
        · exact ntup (p := ((38 : Nat), ({ cls := .none, data := .fields ps6 } : Obj))) (by simp) (by simp) (e ▸ q)
        · obtain ⟨p, hp, e'⟩ := List.mem_map.mp e
          obtain ⟨p2, hp2, e2⟩ := List.mem_map.mp (subLL p hp)
          exact ntup (p := p2) (by simp [hp2]) (lcls hp2) (by rw [e2, e']; exact q)
      · have := eg _ _ ho (by simpa using hb)
        rw [gn] at this; cases this
    case e3 =>
      obtain ⟨h1, its, n, h2, h3⟩ := hp
      refine ⟨h1, its, n, h2, ?_⟩
      rw [← cnt_full]
      refine h3.mono fun v l hv => ?_
      rcases hv with hv | ⟨rfl, p, n, rfl, hp⟩
      · exact hv.keeps j1
      · refine ⟨p, f, fv, n, rfl, j3 p (List.mem_map_of_mem (f := (·.1)) hp) _ (N (p, tupObj #[.ref f, fv] n) (by simp [hp])).1, hf.keeps j1, ?_⟩
        rcases hfv with h | ⟨q, e, z⟩
        · exact .inl h
        · exact .inr ⟨q, e, z.keeps j1⟩
    case e4 =>
      obtain ⟨e1, e2⟩ := miss k hk hx
      rw [hits_snoc, e1]
      rw [flagged_full] at e2
      rw [e2]; rfl
    case e5 =>
      obtain ⟨o', e'⟩ := g42
      have e2 := F6k _ _ e'
      rw [e] at e2
      cases e2
      exact F.keep _ _ e'
    case e6 =>
      rw [C6.2.2] at e; cases e
      exact (N ((38 : Nat), ({ cls := .none, data := .fields ps6 } : Obj)) (by simp)).1
    case e7 =>
      simp only [List.mem_cons] at hb
      rcases hb with rfl | rfl | rfl | rfl | hb
      · exact nonb (p := (a.bus, instObj 53 a.bd)) (by simp) (by simp)
      · exact nonb (p := (a.bd, dictOf (lisEntry hsh tl a.D) nb)) (by simp) (by simp)
      · exact nonb (p := (a.D, oD')) (by simp) (by rw [DL.ex.1]; simp)
      · exact nonb (p := ((38 : Nat), ({ cls := .none, data := .fields ps6 } : Obj))) (by simp) (by simp)
      · obtain ⟨p, hp, rfl⟩ := List.mem_map.mp hb
        exact nonb (p := p) (by simp [hp]) (lcls hp)
  case turn =>
    rintro j v h0 tk0 gens0 m0 nw gl hj ⟨oD', xs', LL', tlt, rfl, DL, ctl, hxt, al, nd, hxl, miss, kne, subLL, hm1, hm2, hm3⟩ ⟨⟨y, rfl, hy⟩, _, _⟩ hG F N Ng hgl off
    obtain ⟨ey, Ney, hey, cey'⟩ := nmLedger2 F hy
    have cey : ∀ p ∈ ey, p.2.cls = .type "tuple" := fun p hp => by obtain ⟨vs, n, e⟩ := cey' p hp; rw [e]
    obtain ⟨tl2, htl2⟩ : ∃ tl2, tl2 = LL' ++ (tlt ++ ey) := ⟨_, rfl⟩
    have N2 : News g L' h0 ((L' + 1, o3) :: (a.bus, instObj 53 a.bd) :: (a.bd, dictOf (lisEntry hsh tl a.D) nb) :: (a.D, oD') :: (38, { cls := .none, data := .fields ps6 }) :: (gl ++ tl2)) := fun p hp => by
      rw [htl2] at hp
      simp only [List.mem_cons, List.mem_append] at hp
      rcases hp with rfl | rfl | rfl | rfl | rfl | hp | hp | hp | hp
      · exact N _ (by simp)
      · exact N _ (by simp)
      · exact N _ (by simp)
      · exact N _ (by simp)
      · exact N _ (by simp)
      · exact Ng _ hp
      · exact N _ (by simp [hp])
      · exact N _ (by simp [hp])
      · exact Ney _ hp
    have eDin := N (a.D, oD') (by simp)
    have Dlt : a.D < L' := by rw [← hL]; exact mulim a.D (by simp)
    have Dcls : oD'.cls = .type "dict" := DL.ex.1
    have ntup : ∀ {h' : Heap} {p : Addr × Obj} {q : Addr × Obj}, h'.get? p.1 = some p.2 → h'.get? q.1 = some q.2 → p.2.cls = .type "tuple" → q.2.cls ≠ .type "tuple" → p.1 ≠ q.1 := fun e1 e2 c1 c2 => cls_ne e1 e2 (by rw [c1]; exact fun z => c2 z.symm)
    have ctl2 : ∀ p ∈ tlt ++ ey, p.2.cls = .type "tuple" := cls_app ctl cey
    have pre1 : ∀ p ∈ ((L' + 1, o3) :: (a.bus, instObj 53 a.bd) :: (a.bd, dictOf (lisEntry hsh tl a.D) nb) :: (38, ({ cls := .none, data := .fields ps6 } : Obj)) :: gl), p.1 ≠ a.D := by
      intro p hp
      simp only [List.mem_cons] at hp
      rcases hp with rfl | rfl | rfl | rfl | hp
      · exact Nat.ne_of_gt (Nat.lt_succ_of_lt Dlt)
      · exact cls_ne (N (a.bus, instObj 53 a.bd) (by simp)).1 eDin.1 (by rw [Dcls]; simp)
      · exact fun q => R.apart q.symm
      · exact cls_ne (N ((38 : Nat), ({ cls := .none, data := .fields ps6 } : Obj)) (by simp)).1 eDin.1 (by rw [Dcls]; simp)
      · exact fun q => off (a.D, oD') (by simp) p hp q.symm
    have lstn : ∀ p ∈ LL' ++ (tlt ++ ey), p.1 ≠ a.D := fun p hp => by
      have e1 := N2 p (by rw [htl2]; simp only [List.mem_append, List.mem_cons] at hp ⊢; exact .inr (.inr (.inr (.inr (.inr (.inr hp))))))
      have e2 := N2 (a.D, oD') (by simp)
      rcases List.mem_append.mp hp with hp | hp
      · obtain ⟨its, n, e⟩ := lstCls al hp
        exact cls_ne e1.1 e2.1 (by rw [e, Dcls]; simp)
      · exact cls_ne e1.1 e2.1 (by rw [ctl2 p hp, Dcls]; simp)
    have eyoff : ∀ p ∈ ey, ∀ q ∈ gl, p.1 ≠ q.1 := by
      intro p hp q hq z
      obtain ⟨vs, n, e⟩ := cey' p hp
      have e1 := (N2 p (by rw [htl2]; simp [hp])).1
      have e2 := (N2 q (by simp [hq])).1
      rw [z, e2] at e1
      exact hgl q hq vs n ((Option.some.inj e1).trans e)
    clear F9 N9
    k_steps
    rename Fr _ _ _ _ => F5
    rename News _ _ _ _ => N5
    have eD5 := N5.get (show (a.D, oD') ∈ _ by k_mem)
    refine getMethod_builtin ⟨_, eD5, DL.ex.1⟩ PySem.F.plainAttrs_dict PySem.F.slot_dict_setdefault PySem.F.type_dict_setdefault (fun a e => by cases e; exact ⟨_, eD5, DL.ex.2.1⟩) ?_
    k_steps
    rename Fr _ _ _ _ => F6
    rename News _ _ _ _ => N6
    rename (_ ∧ _) => lts
    obtain ⟨lt1, lt2, lt3, lt4, lt5, lt6⟩ := lts
    have N7 : News g L' _ (((L' + 1, o3) :: (a.bus, instObj 53 a.bd) :: (a.bd, dictOf (lisEntry hsh tl a.D) nb) :: (38, ({ cls := .none, data := .fields ps6 } : Obj)) :: gl) ++ (a.D, oD') :: (LL' ++ (tlt ++ ey))) := fun p hp => N6 p (by
      rw [htl2]
      simp only [List.mem_cons, List.mem_append] at hp ⊢
      rcases hp with (h | h | h | h | h) | h | h | h | h <;> simp [h])
    refine sd_reg (tlt := tlt ++ ey) (lis := lis) (j := j) (ls := ls) (J := J) (cL := a.cL) (cB := a.cB) (f := f) (fv := fv) (by simp only [Around.deeper_units]; omega) R.dne F6 N7 (fun p hp => N6 p (by simp at hp; simp [hp])) pre1 lstn (Nat.ne_of_gt lt4) (fun p hp => Nat.ne_of_lt (allLt lt6 p (by rw [htl2]; simp only [List.mem_append] at hp ⊢; exact .inr hp)))
      (DL.more fun q hq => by simp [hq]) (name := lis.own.take (j + 1)) (fun h' m' F' N' => hey h' m' F' (news_right N')) (by omega) (al.mono fun y p hp => ?lm) nd miss ?nne
      fun h10 tk10 oD2 xs2 LL2 l0 F10 N10 DL2 xl2 al2 nd2 sub1 hmem sub2 sub3 sub4 x10 => ?_
    case lm =>
      obtain ⟨h1, its, n, h2, h3⟩ := hp
      exact ⟨h1, its, n, h2, h3.mono fun v l hv => hv.elim .inl fun ⟨e, p, n, e2, hp⟩ => .inr ⟨e, p, n, e2, by simp [hp]⟩⟩
    case nne =>
      intro q
      have := congrArg List.length q
      rw [List.length_take, List.length_nil] at this
      omega
    obtain ⟨y0, hmem⟩ := hmem
    obtain ⟨its0, nn0, hl0⟩ := lstMem al2 hmem
    have el0 := (N10 (l0, W.listOf its0 nn0) (by simp only [List.mem_append, List.mem_cons]; exact .inr (.inr (.inl hl0)))).1
    dsimp only
    refine getMethod_builtin ⟨_, el0, rfl⟩ PySem.F.plainAttrs_list PySem.F.slot_list_append PySem.F.type_list_append (fun a e => by cases e; exact ⟨_, el0, rfl⟩) ?_
    clear F6 N6 N7
    obtain ⟨tl3, htl3⟩ : ∃ tl3, tl3 = gl ++ (a.D, oD2) :: (LL2 ++ (tlt ++ ey)) := ⟨_, rfl⟩
    have N11 : News g L' h10 ((L' + 1, o3) :: (a.bus, instObj 53 a.bd) :: (a.bd, dictOf (lisEntry hsh tl a.D) nb) :: (38, ({ cls := .none, data := .fields ps6 } : Obj)) :: tl3) := by rw [htl3]; exact N10
    have hm1' : (fun y_1 => if y_1 = PySem.Str.ofString "partial_id" then some (Value.ref y) else m0 y_1) "func" = some (.ref f) := hm2
    k_steps
    rename Fr _ _ _ _ => F12
    rename News _ _ _ _ => N12
    rename (_ ∧ _) => lts2
    obtain ⟨mt1, mt2, mt3, mt4, mt5⟩ := lts2
    have N13 := N12
    have ePr := N12.get (.head _)
    rename Addr => pr
    have N12t : News g L' _ tl3 := fun p hp => N12 p (by simp [hp])
    have L2mem : ∀ r ∈ LL2, r ∈ tl3 := fun r hr => by rw [htl3]; simp [hr]
    have N14 : News g L' _ (((L' + 1, o3) :: (a.bus, instObj 53 a.bd) :: (a.bd, dictOf (lisEntry hsh tl a.D) nb) :: (38, ({ cls := .none, data := .fields ps6 } : Obj)) :: gl) ++ (a.D, oD2) :: (LL2 ++ ((pr, tupObj #[.ref f, fv] 0) :: (tlt ++ ey)))) := fun p hp => N12 p (by
      rw [htl3]
      simp only [List.mem_cons, List.mem_append] at hp ⊢
      rcases hp with (h | h | h | h | h) | h | h | h | h | h <;> simp [h])
    have prelst : ∀ q ∈ ((L' + 1, o3) :: (a.bus, instObj 53 a.bd) :: (a.bd, dictOf (lisEntry hsh tl a.D) nb) :: (38, ({ cls := .none, data := .fields ps6 } : Obj)) :: gl) ++ [(a.D, oD2)], ∀ r ∈ LL2, q.1 ≠ r.1 := by
      intro q hq r hr
      obtain ⟨itsr, nr, er⟩ := lstCls al2 hr
      have er1 := (N12t r (L2mem r hr)).1
      simp only [List.mem_append, List.mem_cons, List.not_mem_nil, or_false] at hq
      rcases hq with (rfl | rfl | rfl | rfl | hq) | rfl
      · intro z
        have ec := (N12 (L' + 1, o3) (by simp)).1
        rw [z, er1] at ec
        cases ec
        have e8 := ho3.symm.trans (congrArg Obj.data er)
        cases e8
      · exact cls_ne (N12 (a.bus, instObj 53 a.bd) (by simp)).1 er1 (by rw [er]; simp)
      · exact cls_ne (N12 (a.bd, dictOf (lisEntry hsh tl a.D) nb) (by simp)).1 er1 (by rw [er]; simp)
      · exact cls_ne (N12 ((38 : Nat), ({ cls := .none, data := .fields ps6 } : Obj)) (by simp)).1 er1 (by rw [er]; simp)
      · rcases sub3 r hr with hr' | hr'
        · exact fun z => off r (by simp [hr']) q hq z.symm
        · rw [hr']; exact Nat.ne_of_lt (allLt lt6 q (by simp [hq]))
      · exact cls_ne (N12t (a.D, oD2) (by rw [htl3]; simp)).1 er1 (by rw [er, DL2.ex.1]; simp)
    refine ap_reg (tlt := tlt ++ ey) (lis := lis) (j := j) (ls := ls) (J := J) (cL := a.cL) (cB := a.cB) (f := f) (fv := fv) F12 N14 prelst (fun q hq r hr => ?tn) (fun q hq => List.mem_cons_of_mem _ hq) (.head _) DL2.nod hj al2 nd2 hmem hls
      fun h15 LL3 F15 N15 al3 eqL hl0L x15 => ?_
    case tn =>
      obtain ⟨itsr, nr, er⟩ := lstCls al2 hr
      have er1 := (N12t r (L2mem r hr)).1
      rcases List.mem_cons.mp hq with rfl | hq
      · exact cls_ne ePr er1 (by rw [er]; simp)
      · exact cls_ne (N12t q (by rw [htl3]; simp only [List.mem_append, List.mem_cons] at hq ⊢; exact .inr (.inr (.inr hq)))).1 er1 (by rw [er, ctl2 q hq]; simp)
    dsimp only
    refine wpAny_execs_nil ?_
    refine ⟨rfl, h15, _, (fun y_1 => if y_1 = PySem.Str.ofString "partial_id" then some (Value.ref y) else m0 y_1), (L' + 1, o3) :: (a.bus, instObj 53 a.bd) :: (a.bd, dictOf (lisEntry hsh tl a.D) nb) :: (a.D, oD2) :: (38, { cls := .none, data := .fields ps6 }) :: (LL3 ++ ((pr, tupObj #[.ref f, fv] 0) :: (tlt ++ ey))), rfl,
      ⟨oD2, xs2, LL3, _, rfl, DL2.more (fun q hq => List.mem_cons_of_mem _ hq), fun p hp => ?q1, fun h' m' F' N' => hxt h' m' F' fun p hp => N' p (by simp [hp]), al3, by rw [eqL]; exact nd2, by omega, fun k hk hx => ?q2, fun y hy => ?q3, fun p hp => ?q4, hm1, hm2, hm3⟩, F15, fun p hp => N15 p ?q5, fun p hp => N15 p (by simp [hp]), ?q6⟩
    case q1 =>
      rcases List.mem_cons.mp hp with rfl | hp
      · rfl
      · exact ctl2 p hp
    case q2 =>
      obtain ⟨e1, e2⟩ := miss k hk fun x hx' => hx x (sub1 x hx')
      refine ⟨e1, ?_⟩
      rw [flagged_step hj fun q => hx _ hmem q.symm]
      exact e2
    case q3 =>
      rcases sub2 y hy with e | e
      · rw [e]
        intro q
        have := congrArg List.length q
        rw [List.length_take, List.length_nil] at this
        omega
      · exact kne y e
    case q4 =>
      rw [eqL]
      obtain ⟨r, hr, e⟩ := List.mem_map.mp (subLL p hp)
      exact List.mem_map.mpr ⟨r, sub4 r hr, e⟩
    case q5 =>
      simp only [List.mem_cons, List.mem_append] at hp ⊢
      rcases hp with h | h | h | h | h | h | h | h | h <;> simp [h]
    case q6 =>
      intro p hp q hq
      simp only [List.mem_cons, List.mem_append] at hp
      rcases hp with rfl | rfl | rfl | rfl | rfl | hp | rfl | hp | hp
      · exact off (L' + 1, o3) (by simp) q hq
      · exact off (a.bus, instObj 53 a.bd) (by simp) q hq
      · exact off (a.bd, dictOf (lisEntry hsh tl a.D) nb) (by simp) q hq
      · exact off (a.D, oD') (by simp) q hq
      · exact off ((38 : Nat), ({ cls := .none, data := .fields ps6 } : Obj)) (by simp) q hq
      · have : p.1 ∈ LL2.map (·.1) := by rw [← eqL]; exact List.mem_map_of_mem hp
        obtain ⟨r, hr, e⟩ := List.mem_map.mp this
        rw [← e]
        exact fun z => prelst q (by simp [hq]) r hr z.symm
      · exact Nat.ne_of_gt (allLt mt5 q (by rw [htl3]; simp [hq]))
      · exact off p (by simp [hp]) q hq
      · exact eyoff p hp q hq
end Mine
end
section
open PySem PySem.W PySem.Calls PyProof.Rows
namespace Mine
set_option maxRecDepth 100000
set_option maxHeartbeats 2000000
/-- a code and its table, one inner code in it at most of account -/
structure TabL (h : Heap) (c P : Addr) (ps : Array Value) (pos : Pos) (qual : Str) : Prop where
  hd : CodeHd h c P
  tab : h.get? P = some (tabObj ps)
  tri : TriplesOk ps.toList
  alt : codeAmong pos ps.toList = none ∨ ∃ c', codeAmong pos ps.toList = some (.ref c') ∧ h.CodeRec (.ref c') qual
/-- the same, its immutable part in the standing heap -/
structure TabJ (J h : Heap) (c P : Addr) (ps : Array Value) (pos : Pos) (qual : Str) : Prop where
  hd : CodeHd J c P
  tab : h.get? P = some (tabObj ps)
  tri : TriplesOk ps.toList
  alt : codeAmong pos ps.toList = none ∨ ∃ c', codeAmong pos ps.toList = some (.ref c') ∧ J.CodeRec (.ref c') qual
theorem TabJ.at' {J h : Heap} {c P : Addr} {ps : Array Value} {pos : Pos} {qual : Str} (x : TabJ J h c P ps pos qual) (k : J.StaysIn h) : TabL h c P ps pos qual :=
  ⟨x.hd.keeps k, x.tab, x.tri, x.alt.imp (fun z => z) fun ⟨c', e, r⟩ => ⟨c', e, codeRec_keeps r k⟩⟩
theorem TabJ.grow {J J' h : Heap} {c P : Addr} {ps : Array Value} {pos : Pos} {qual : Str} (x : TabJ J h c P ps pos qual) (k : J.StaysIn J') : TabJ J' h c P ps pos qual :=
  ⟨x.hd.keeps k, x.tab, x.tri, x.alt.imp (fun z => z) fun ⟨c', e, r⟩ => ⟨c', e, codeRec_keeps r k⟩⟩
theorem TabJ.ext {J h h' : Heap} {c P : Addr} {ps : Array Value} {pos : Pos} {qual : Str} {mu : List Addr} (x : TabJ J h c P ps pos qual) (e : Ext mu h h') (n : P ∉ mu) : TabJ J h' c P ps pos qual := ⟨x.hd, e _ _ x.tab n, x.tri, x.alt⟩
theorem TabL.keeps {h h' : Heap} {c P : Addr} {ps : Array Value} {pos : Pos} {qual : Str} (x : TabL h c P ps pos qual) (k : ∀ b o, h.get? b = some o → h'.get? b = some o) : TabL h' c P ps pos qual :=
  ⟨x.hd.keeps k, k _ _ x.tab, x.tri, x.alt.imp (fun z => z) fun ⟨c', e, r⟩ => ⟨c', e, codeRec_keeps r k⟩⟩
theorem Ext.of_but {P : Addr} {h h' : Heap} (x : Heap.ExtBut P h h') : Ext [P] h h' := fun b o e n => x b o (by simpa using n) e
theorem codeHd_ext {h h' : Heap} {c P : Addr} {mu : List Addr} (x : CodeHd h c P) (e : Ext mu h h') (hc : c ∉ mu) : CodeHd h' c P :=
  let ⟨o, vs, file, tf, flags, tg, inF, text, tt, ho, r⟩ := x; ⟨o, vs, file, tf, flags, tg, inF, text, tt, e _ _ ho hc, r⟩
theorem codeHd_ne {h : Heap} {c P : Addr} (x : CodeHd h c P) : c ≠ P := let ⟨_, _, _, _, _, _, _, _, _, _, _, _, _, _, _, _, _, _, r⟩ := x; r
theorem fr_rebase {g h h' : Heap} {L : Addr} {m : Str → Option Value} {mu : List Addr} (F : Fr g L h m) (x : Ext mu h h') (hL : L ∉ mu) : Fr (hideAll g mu) L h' m := by
  obtain ⟨o, es, ep, ho, r⟩ := F.ns
  refine ⟨⟨o, es, ep, x _ _ ho hL, r⟩, fun b o e => ?_, by rw [hideAll_size]; exact F.above⟩
  by_cases hb : b ∈ mu
  · rw [hideAll_none _ hb] at e; cases e
  · exact x _ _ (F.keep b o (of_hideAll _ e)) hb
theorem news_rebase {g h h' : Heap} {L : Addr} {mu : List Addr} {news : List (Addr × Obj)} (N : News g L h news) (x : Ext mu h h') (hn : ∀ p ∈ news, p.1 ∉ mu) : News (hideAll g mu) L h' news := fun p hp => by
  refine ⟨x _ _ (N p hp).1 (hn p hp), (N p hp).2.1, ?_⟩
  cases e : (hideAll g mu).get? p.1 with
  | none => rfl
  | some o => have := of_hideAll _ e; rw [(N p hp).2.2] at this; cases this
section
variable {M : Model} {A : Around} {E : Value → Shared → Prop} {s : Shared} {g : Heap} {name qual : Str} {params : Arguments} {scope : Scope} {env : Env} {c P : Addr} {ps : Array Value} {pos : Pos} {firstLine : Nat} {mg mb : Str → Option Value} {loose : List Str} {mean : ExcName → Option Value}
  {clos : List (Str × Addr)} {Q : Value → Shared → Prop}
theorem builtinsAt_T (T : Top topProg loose mean mg mb g) (kg : g.StaysIn s.heap) (hP : s.heap.get? P = some (tabObj ps)) : mainGlobals ≠ P ∧ s.heap.BuiltinsAt mg P := by
  obtain ⟨bm, ob, b1, b2, b3, b4, b5, b6⟩ := T.bmain
  refine ⟨fun q => ?_, bm, ob, b1, b2, fun q => ?_, fun q => ?_, kg _ _ b3, b4, b5, b6⟩
  · obtain ⟨o, es, ep, e, hd, _⟩ := T.g
    have e' := kg _ _ e
    rw [q, hP] at e'; cases e'; cases hd
  · obtain ⟨o, es, ep, e, hd, _⟩ := T.g
    rw [q, e] at b3; cases b3; rw [hd] at b6; cases b6
  · have e := kg _ _ b3
    rw [q, hP] at e; cases e; cases b4
/-- def in a def: the inner code stands in the table or comes into it -/
theorem mkFn {body : List Stmt} (T : Top topProg loose mean mg mb g) (kg : g.StaysIn s.heap) (TL : TabL s.heap c P ps pos qual) (hcl : closureFor scope env = pure clos) (hge0 : env.globals = mainGlobals) (hcode : env.code = .ref c)
    (h : ∀ f c' ctv doc h' tk ps', Ext [P] s.heap h' → (∀ o, s.heap.get? f ≠ some o) → h'.get? f = some (fnMade name qual params body scope clos doc ((mg "__name__").getD .none) c' ctv) → h'.CodeRec (.ref c') qual → ((∀ o, s.heap.get? c' ≠ some o) ∨ codeAmong pos ps.toList = some (.ref c')) → h'.get? P = some (tabObj ps') → TriplesOk ps'.toList → codeAmong pos ps'.toList = some (.ref c') → Q (.ref f) { s with heap := h', toks := tk }) :
    wpAny M A (makeFunction name qual params (.stmts body) scope env [] [] [] pos firstLine) Q E s := by
  obtain ⟨gP, BA⟩ := builtinsAt_T (P := P) T kg TL.tab
  have hg := T.g.keeps kg
  rcases TL.alt with hnf | ⟨c', hf, hrec⟩
  · refine makeFunction_K (mg := mg) hcl hge0 hg hcode TL.hd TL.tab TL.tri hnf gP BA fun c' ctv doc h' tk hx hge hlt hrec htb => ?_
    have x1 : Ext [P] s.heap (h'.push (fnMade name qual params body scope clos doc ((mg "__name__").getD .none) c' ctv)) := fun b o e n => Heap.get?_push_of_some _ (hx b o (by simpa using n) e)
    have hr := codeRec_keeps (h' := h'.push (fnMade name qual params body scope clos doc ((mg "__name__").getD .none) c' ctv)) hrec fun b o e => Heap.get?_push_of_some _ e
    refine h _ c' ctv doc _ tk _ x1 (fun o e => ?_) (Heap.get?_push_size _ rfl) hr (.inl fun o e => ?_) (Heap.get?_push_of_some _ htb) ?_ ?_
    · exact absurd (Heap.lt_size e) (Nat.not_lt.mpr (Nat.le_of_lt (Nat.lt_of_le_of_lt hge hlt)))
    · exact absurd (Heap.lt_size e) (Nat.not_lt.mpr hge)
    · rw [Array.toList_append]; exact TriplesOk_snoc _ _ _ _ TL.tri
    · rw [Array.toList_append]; exact codeAmong_snoc _ TL.tri hnf
  · refine makeFunction_hit (mg := mg) hcl hge0 hg hcode TL.hd TL.tab TL.tri hf BA fun ctv doc h' tk hk hsz => ?_
    have x0 : ∀ b o, s.heap.get? b = some o → (h'.push (fnMade name qual params body scope clos doc ((mg "__name__").getD .none) c' ctv)).get? b = some o := fun b o e => Heap.get?_push_of_some _ (hk b o e)
    refine h _ c' ctv doc _ tk ps (.of_keep x0) (fun o e => ?_) (Heap.get?_push_size _ rfl) (codeRec_keeps hrec x0) (.inr hf) (x0 _ _ TL.tab) TL.tri hf
    exact absurd (Heap.lt_size e) (Nat.not_lt.mpr hsz)
/-- lambda in a def -/
theorem mkLam {body : Expr} (T : Top topProg loose mean mg mb g) (kg : g.StaysIn s.heap) (TL : TabL s.heap c P ps pos qual) (hcl : closureFor scope env = pure clos) (hge0 : env.globals = mainGlobals) (hcode : env.code = .ref c)
    (h : ∀ f c' ctv h' tk ps', Ext [P] s.heap h' → (∀ o, s.heap.get? f ≠ some o) → h'.get? f = some (kla_obj name qual params body scope clos ((mg "__name__").getD .none) c' ctv) → h'.CodeRec (.ref c') qual → ((∀ o, s.heap.get? c' ≠ some o) ∨ codeAmong pos ps.toList = some (.ref c')) → h'.get? P = some (tabObj ps') → TriplesOk ps'.toList → codeAmong pos ps'.toList = some (.ref c') → Q (.ref f) { s with heap := h', toks := tk }) :
    wpAny M A (makeFunction name qual params (.expr body) scope env [] [] [] pos firstLine) Q E s := by
  obtain ⟨gP, BA⟩ := builtinsAt_T (P := P) T kg TL.tab
  have hg := T.g.keeps kg
  rcases TL.alt with hnf | ⟨c', hf, hrec⟩
  · refine kla_makeFunction (mg := mg) hcl hge0 hg hcode TL.hd TL.tab TL.tri hnf gP BA fun c' ctv h' tk hx hge hlt hrec htb => ?_
    have x1 : Ext [P] s.heap (h'.push (kla_obj name qual params body scope clos ((mg "__name__").getD .none) c' ctv)) := fun b o e n => Heap.get?_push_of_some _ (hx b o (by simpa using n) e)
    have hr := codeRec_keeps (h' := h'.push (kla_obj name qual params body scope clos ((mg "__name__").getD .none) c' ctv)) hrec fun b o e => Heap.get?_push_of_some _ e
    refine h _ c' ctv _ tk _ x1 (fun o e => ?_) (Heap.get?_push_size _ rfl) hr (.inl fun o e => ?_) (Heap.get?_push_of_some _ htb) ?_ ?_
    · exact absurd (Heap.lt_size e) (Nat.not_lt.mpr (Nat.le_of_lt (Nat.lt_of_le_of_lt hge hlt)))
    · exact absurd (Heap.lt_size e) (Nat.not_lt.mpr hge)
    · rw [Array.toList_append]; exact TriplesOk_snoc _ _ _ _ TL.tri
    · rw [Array.toList_append]; exact codeAmong_snoc _ TL.tri hnf
  · refine kla_makeFunctionHit (mg := mg) hcl hge0 hg hcode TL.hd TL.tab TL.tri hf BA fun ctv h' tk hk hsz => ?_
    have x0 : ∀ b o, s.heap.get? b = some o → (h'.push (kla_obj name qual params body scope clos ((mg "__name__").getD .none) c' ctv)).get? b = some o := fun b o e => Heap.get?_push_of_some _ (hk b o e)
    refine h _ c' ctv _ tk ps (.of_keep x0) (fun o e => ?_) (Heap.get?_push_size _ rfl) (codeRec_keeps hrec x0) (.inr hf) (x0 _ _ TL.tab) TL.tri hf
    exact absurd (Heap.lt_size e) (Nat.not_lt.mpr hsz)
end
end Mine
end
section
open PySem PySem.W PySem.Calls PyProof.Rows
namespace Mine
set_option maxRecDepth 100000
set_option maxHeartbeats 4000000
set_option pp.deepTerms false
set_option pp.deepTerms.threshold 6
theorem fillme9 : (fun (_ : OpenLaw) (_ : Params → Frag) => True) PySem.Challenge.rw_bs0024_01 hd.heap_39 := by
  w_top off
  k_fill
  trivial
def stPos : Stmt → Pos | .FunctionDef _ _ _ _ _ _ _ _ _ p => p | _ => default
def hearsPos : Pos := stPos hearsStmt
def lsnBody : List Stmt := fdBody listenerStmt
def lsnScope : Scope := fdScope listenerStmt
def lsnParams : Arguments := fdParams listenerStmt
def lsnQual : Str := PySem.Str.ofString "law.<locals>.listener"
/-- the function listener of this call of law, its table -/
structure LsnAt (J h : Heap) (a : Adr) (fl c P : Addr) (ps : Array Value) : Prop where
  fn : ∃ doc pm ct, J.get? fl = some (funObj (fnX "listener" lsnQual lsnParams lsnBody lsnScope [("log", a.cL), ("bus", a.cB)] .none .none doc pm none (.ref c) ct))
  rec' : J.CodeRec (.ref c) lsnQual
  tl : TabJ J h c P ps hearsPos hearsQual
theorem LsnAt.grow {J J' h : Heap} {a : Adr} {fl c P : Addr} {ps : Array Value} (x : LsnAt J h a fl c P ps) (k : J.StaysIn J') : LsnAt J' h a fl c P ps :=
  ⟨let ⟨d, p, t, e⟩ := x.fn; ⟨d, p, t, k _ _ e⟩, codeRec_keeps x.rec' k, x.tl.grow k⟩
theorem LsnAt.ext {J h h' : Heap} {a : Adr} {fl c P : Addr} {ps : Array Value} {mu : List Addr} (x : LsnAt J h a fl c P ps) (e : Ext mu h h') (n : P ∉ mu) : LsnAt J h' a fl c P ps := ⟨x.fn, x.rec', x.tl.ext e n⟩
theorem listener {w : World} {A : Around} {s : Shared} {G0 J : Heap} {a : Adr} {fl c P : Addr} {ps : Array Value} {loose mean mg mb} {Q E : Value → Shared → Prop} {num : Int} {t : Tok} {av : Value} {ans : Option (List Str)} (X : (hd.heap_39 w.params).In G0) (T : Top topProg loose mean mg mb G0) (k : G0.StaysIn s.heap)
    (kJ : J.StaysIn s.heap) (L : LsnAt J s.heap a fl c P ps) (hP : G0.get? P = none) (JP : J.get? P = none) (hh : A.handled = none) (hdp : A.depth + 20 < recursionLimit) (ha : AnsAt J av ans)
    (h : ∀ f h' tk ps' J', Ext [P] s.heap h' → J.StaysIn J' → J'.StaysIn h' → (∀ b, J.get? b = none → (∃ o, s.heap.get? b = some o) → J'.get? b = none) → HearsAt J' f num ans a.cL a.cB → LsnAt J' h' a fl c P ps' → Q (.ref f) { s with heap := h', toks := tk }) :
    wpAny (model prg w) A (call (.ref fl) [.int num t, av]) Q E s := by
  obtain ⟨doc, pm, ct, hfl⟩ := L.fn
  refine wpAny_call ?_
  refine' enterC (G0 := G0) (binds := [("number", .int num t), ("answer", av)]) [(P, tabObj ps)] ?hmu ?hm0 k T.nolimit (kJ _ _ hfl) rfl (codeRec_keeps L.rec' kJ) ?hroom ?hb ?hl ?hn ?_ ?c1 ?c2 ?c3
  (case hmu => intro p hp; rcases List.mem_singleton.mp hp with rfl; exact L.tl.tab)
  (case hm0 => intro p hp; rcases List.mem_singleton.mp hp with rfl; exact hP)
  (case hroom => omega)
  (case hb => exact BindsTo.of_eq rfl)
  (case hl => exact rfl)
  (case hn => decide)
  (case c1 => exact rfl)
  (case c2 => exact rfl)
  (case c3 => exact rfl)
  intro g L' h₁ tk₁ cells kg eg og hL F N Y
  have X' := X.keeps kg
  have T' := T.keeps kg
  obtain ⟨o1, o2, rfl, ho1, ho2⟩ := CellsAre.two Y
  replace ho1 : o1.data = .cell (some av) := ho1
  replace ho2 : o2.data = .cell (some (.int num t)) := ho2
  clear Y
  simp only [List.cons_append, List.nil_append] at N
  conv in (occs := *) lsnBody => all_goals whnf
  conv in (occs := *) lsnScope => all_goals whnf
  dsimp only
  have x1 : ∀ b o, s.heap.get? b = some o → h₁.get? b = some o := fun b o e => by
    by_cases q : b = P
    · rw [q, L.tl.tab] at e; cases e; rw [q]; exact (N (P, tabObj ps) (by simp)).1
    · exact F.keep _ _ (eg _ _ e (by simpa using q))
  have m1 := N (L' + 1 + 1, o1) (by simp)
  have m2 := N (L' + 1, o2) (by simp)
  have mP := N (P, tabObj ps) (by simp)
  k_steps
  rename Fr _ _ _ _ => F9
  refine nestDef_K rfl rfl rfl ?_
  refine mkFn (qual := hearsQual) T' F9.keep (L.tl.at' kJ |>.keeps x1) (clos := [("number", L' + 1), ("log", a.cL), ("bus", a.cB), ("answer", L' + 1 + 1)]) rfl rfl rfl fun f c' ctv doc2 h2 tk2 ps2 x2 nf2 ef2 hr2 nc2 eP2 tri2 hit2 => ?_
  have F2 := fr_ext F9 x2 (by simpa using mP.2.1.symm) (by intro b hb; rcases List.mem_singleton.mp hb with rfl; exact mP.2.2)
  refine wpAny_storeName_local rfl F2.ns (fun h3 hns3 hs3 => ?_) rfl
  have F3 := fr_store F2 hns3 hs3
  have x3 : Ext [L'] h2 h3 := fun b o e n => hs3.extBut b o (by simpa using n) e
  have F2ns := F2.ns
  clear F9 F2
  dsimp only
  k_steps
  have bL : ∀ {b : Addr} {o : Obj}, s.heap.get? b = some o → b < L' := fun e => by rw [← hL]; exact Heap.lt_size e
  have x13 : ∀ {b : Addr} {o : Obj}, h₁.get? b = some o → b ≠ P → b ≠ L' → h3.get? b = some o := fun {b o} e n1 n2 => x3 _ _ (x2 _ _ e (by simpa using n1)) (by simpa using n2)
  have hJ3 : J.StaysIn h3 := fun b o e => x13 (x1 _ _ (kJ _ _ e)) (fun q => by rw [q, JP] at e; cases e) (Nat.ne_of_lt (bL (kJ _ _ e)))
  have nL : ∀ {b : Addr} {o : Obj}, h2.get? b = some o → (∀ es ep, o.data ≠ .dict es ep) → b ≠ L' := fun {b o} e n q => by
    obtain ⟨o9, es, ep, e9, d9, _⟩ := F2ns
    rw [q, e9] at e
    cases e
    exact n _ _ d9
  obtain ⟨cc, oc, vs, tq, ec, hoc, hdc, hvc⟩ := hr2
  cases ec
  have ef3 := x3 f _ ef2 (by simpa using nL ef2 (fun es ep q => by cases q))
  have hoc3 := x3 c' _ hoc (by simpa using nL hoc (fun es ep q => by rw [hdc] at q; cases q))
  have e13 := x13 m1.1 (fun q => by
    have e := mP.1
    rw [← q, m1.1] at e; cases e; cases ho1) m1.2.1
  have e23 := x13 m2.1 (fun q => by
    have e := mP.1
    rw [← q, m2.1] at e; cases e; cases ho2) m2.2.1
  obtain ⟨J', j1, j2, j3, j4⟩ := growJ [f, c', L' + 1, L' + 1 + 1] hJ3
  have eP3 := x3 P _ eP2 (by simpa using mP.2.1)
  have rc : J'.CodeRec (.ref c') hearsQual := ⟨c', oc, vs, tq, rfl, j3 c' (by simp) _ hoc3, hdc, hvc⟩
  refine h f h3 _ ps2 J' (fun b o e n => x13 (x1 _ _ e) (by simpa using n) (Nat.ne_of_lt (bL e))) j1 j2 (fun b eb ho => j4 b eb fun q => ?_)
    ⟨L' + 1, L' + 1 + 1, _, _, _, _, t, av, j3 f (by simp) _ ef3, rc, ⟨o2, j3 _ (by simp) _ e23, ho2⟩, ⟨o1, j3 _ (by simp) _ e13, ho1⟩, ha.keeps j1⟩ ⟨let ⟨d, p, t, e⟩ := L.fn; ⟨d, p, t, j1 _ _ e⟩, codeRec_keeps L.rec' j1, ⟨L.tl.hd.keeps j1, eP3, tri2, .inr ⟨c', hit2, rc⟩⟩⟩
  obtain ⟨o, ho⟩ := ho
  simp only [List.mem_cons, List.not_mem_nil, or_false] at q
  rcases q with rfl | rfl | rfl | rfl
  · exact nf2 _ (x1 _ _ ho)
  · rcases nc2 with nc2 | nc2
    · exact nc2 _ (x1 _ _ ho)
    · change codeAmong hearsPos ps.toList = _ at nc2
      rcases L.tl.alt with z | ⟨c2, z, r⟩
      · rw [z] at nc2; cases nc2
      · rw [z] at nc2
        cases nc2
        obtain ⟨_, _, _, _, e, z, _⟩ := r
        cases e
        rw [eb] at z; cases z
  · exact Nat.lt_irrefl _ (Nat.lt_of_succ_lt (bL ho))
  · exact Nat.lt_irrefl _ (Nat.lt_of_succ_lt (Nat.lt_of_succ_lt (bL ho)))
end Mine
end
section
open PySem PySem.W PySem.Calls PyProof.Rows
namespace Mine
set_option maxRecDepth 100000
set_option maxHeartbeats 2000000
theorem RegIn.grow {w : World} {G0 J J' h : Heap} {a : Adr} {hsh : Int} {tl : Tok} {nb : Nat} {xs : List (List Str × Addr × Value)} {ls : List Lis} {LL : List (Addr × Obj)} {ps : Array Value} (x : RegIn w G0 J a hsh tl nb xs ls LL ps h) (k : J.StaysIn J')
    (n : ∀ b ∈ a.bus :: a.bd :: a.D :: 38 :: LL.map (·.1), J'.get? b = none) : RegIn w G0 J' a hsh tl nb xs ls LL ps h :=
  { x with
    lists := x.lists.mono fun _ _ ⟨h1, its, n, h2, h3⟩ => ⟨h1, its, n, h2, h3.mono fun _ _ z => z.keeps k⟩
    none0 := fun b hb => ⟨(x.none0 b hb).1, n b hb⟩ }
theorem RegIn.ext {w : World} {G0 J h h' : Heap} {a : Adr} {hsh : Int} {tl : Tok} {nb : Nat} {xs : List (List Str × Addr × Value)} {ls : List Lis} {LL : List (Addr × Obj)} {ps : Array Value} {mu : List Addr} (x : RegIn w G0 J a hsh tl nb xs ls LL ps h) (e : Ext mu h h')
    (n : ∀ b ∈ a.bus :: a.bd :: a.D :: 38 :: LL.map (·.1), b ∉ mu) (nt : ∀ b ∈ mu, ∀ o, h.get? b = some o → o.cls = .type "tuple" → ∀ its n, o.data ≠ .seq its n) (n42 : 42 ∉ mu) : RegIn w G0 J a hsh tl nb xs ls LL ps h' where
  inst := e _ _ x.inst (n _ (by simp))
  dict := e _ _ x.dict (n _ (by simp))
  tab := by
    obtain ⟨o, es, ep, ho, r1, r2, r3, r4, r5⟩ := x.tab
    refine ⟨o, es, ep, e _ _ ho (n _ (by simp)), r1, r2, r3, fun y hy => ?_, r5⟩
    obtain ⟨o', its, m, h1, h2, h3, h4⟩ := r4 y hy
    exact ⟨o', its, m, e _ _ h1 (fun z => nt _ z _ h1 h2 _ _ h3), h2, h3, h4⟩
  lists := x.lists
  at' := fun p hp => e _ _ (x.at' p hp) (n _ (by simp only [List.mem_cons]; exact .inr (.inr (.inr (.inr (List.mem_map_of_mem hp))))))
  nodup := x.nodup
  miss := x.miss
  apart := x.apart
  dne := x.dne
  code := codeMove x.code (fun o q => e _ _ q n42) (fun o q => e _ _ q (n 38 (by simp)))
  kne := x.kne
  none0 := x.none0
theorem growNm {J h : Heap} {x : Addr} {ks : List Str} {av : Value} {ans : Option (List Str)} (k : J.StaysIn h) (hx : IsNm h x ks) (ha : AnsAt h av ans) :
    ∃ J' : Heap, J.StaysIn J' ∧ J'.StaysIn h ∧ IsNm J' x ks ∧ AnsAt J' av ans ∧ ∀ b, J.get? b = none → (∀ vs n, h.get? b ≠ some (tupObj vs n)) → J'.get? b = none := by
  have one : ∀ {J : Heap} {y : Addr} {l : List Str}, J.StaysIn h → IsNm h y l → ∃ J' : Heap, J.StaysIn J' ∧ J'.StaysIn h ∧ IsNm J' y l ∧ ∀ b, J.get? b = none → (∀ vs n, h.get? b ≠ some (tupObj vs n)) → J'.get? b = none := by
    intro J y l k hy
    obtain ⟨vs, n, e, q⟩ := hy
    obtain ⟨J', j1, j2, j3, j4⟩ := growJ [y] k
    refine ⟨J', j1, j2, ⟨vs, n, j3 y (by simp) _ e, q⟩, fun b e1 e2 => j4 b e1 fun z => ?_⟩
    rw [List.mem_singleton] at z
    subst z
    exact e2 _ _ e
  obtain ⟨J1, a1, a2, a3, a4⟩ := one k hx
  cases ans with
  | none => exact ⟨J1, a1, a2, a3, ha, a4⟩
  | some l =>
    obtain ⟨y, rfl, hy⟩ := ha
    obtain ⟨J2, b1, b2, b3, b4⟩ := one a2 hy
    exact ⟨J2, fun c o e => b1 _ _ (a1 _ _ e), b2, a3.keeps (b1 _), ⟨y, rfl, b3⟩, fun c e1 e2 => b4 c (a4 c e1 e2) e2⟩
/-- no tuple -/
def NT (o : Obj) : Prop := ∀ vs n, o ≠ tupObj vs n
theorem NT.of_cls {o : Obj} (h : o.cls ≠ .type "tuple") : NT o := fun _ _ z => h (by rw [z])
theorem nameOf_len {d : Int} : (nameOf d).length ≤ 3 ∧ nameOf d ≠ [] := by
  have h0 := Int.fmod_nonneg_of_pos d (by decide : (0:Int) < 3)
  have h1 := Int.fmod_lt_of_pos d (by decide : (0:Int) < 3)
  have e : (nameOf d).length = (1 + d.fmod 3 - 0).toNat := by
    unfold nameOf
    rw [List.length_map, rangeKs_length]
  refine ⟨by omega, fun q => ?_⟩
  rw [q, List.length_nil] at e
  omega
def addBody : List Stmt := fdBody addedStmt
def addScope : Scope := fdScope addedStmt
def addParams : Arguments := fdParams addedStmt
def addQual : Str := PySem.Str.ofString "law.<locals>.added"
def exPos : Expr → Pos | .Lambda _ _ _ p => p | _ => default
def lamPos : Pos := exPos lamExpr
structure Law where
  cLn : Addr
  cK : Addr
  cC : Addr
  kp : Addr
  cs : Addr
  fl : Addr
  cl : Addr
  Pl : Addr
  fa : Addr
  ca : Addr
  Pa : Addr
theorem unpackH {w : World} {A : Around} {E : Value → Shared → Prop} {s : Shared} {g : Heap} {L t : Addr} {m : Str → Option Value} {its : Array Value} {news : List (Addr × Obj)} {env : Env} {elts : List Expr} {x1 : Nat} {pos : Pos} {Q : Unit → Shared → Prop}
    (hh : A.handled = none) (F : Fr g L s.heap m) (N : News g L s.heap news) (tp : IsTup s.heap t its) (hn : (assignEach elts env).length = its.size) (hstar : (assignEach elts env).findIdx? (·.1) = none)
    (h : ∀ h', Fr g L h' m → News g L h' news → wpAny (model prg w) A (assignInOrder ((assignEach elts env).map (·.2)) its.toList) Q E { s with heap := h' }) :
    wpAny (model prg w) A (assign (.Tuple elts x1 pos) env (.ref t)) Q E s := by
  obtain ⟨o, ho, hc, n, hd⟩ := tp
  refine wpAny_assign_Tuple hh ⟨o, ho, hc, n, hd⟩ hn hstar fun h' x => h h' ?_ ?_
  · exact F.keeps fun b o e => x b o (Nat.ne_of_lt (Heap.lt_size e)) e
  · exact fun p hp => ⟨x _ _ (Nat.ne_of_lt (Heap.lt_size (N p hp).1)) (N p hp).1, (N p hp).2⟩
def NextP (P : Shared → Prop) (f : Flow) (s' : Shared) : Prop := f = .next ∧ P s'
theorem execs_cut {M : Model} {A : Around} {st : Stmt} {rest : List Stmt} {env : Env} {Q : Flow → Shared → Prop} {E : Value → Shared → Prop} {s : Shared} {P : Shared → Prop} (h1 : wpAny M A (exec st env) (NextP P) E s) (h2 : ∀ s', P s' → wpAny M A (execs rest env) Q E s') : wpAny M A (execs (st :: rest) env) Q E s :=
  wpAny_execs_cons (wpAny_mono h1 (fun f s' h => by obtain ⟨rfl, h⟩ := h; exact h2 s' h) fun _ _ z => z)
/-- the listener that added makes of the draws -/
def drawnLis (dr num : Int) : Lis :=
  { num := num, own := nameOf dr, sieve := (dr.fdiv 24).fmod 3, ans := if (dr.fdiv 2000).fmod 3 = 1 ∧ num < 2 then some (nameOf (dr.fdiv 72)) else none }
structure AddIn (w : World) (G0 J : Heap) (a : Adr) (b : Law) (hsh : Int) (tl : Tok) (nb : Nat) (vals : List Int) (xs : List (List Str × Addr × Value)) (ls kl : List Lis) (LL : List (Addr × Obj)) (ps psL psA : Array Value) (kits : Array Value) (nk : Nat) (h : Heap) : Prop where
  reg : RegIn w G0 J a hsh tl nb xs ls LL ps h
  lsn : LsnAt J h a b.fl b.cl b.Pl psL
  fn : ∃ doc pm ct, J.get? b.fa = some (funObj (fnX "added" addQual addParams addBody addScope [("listener", b.cLn), ("kept", b.cK), ("cells", b.cC), ("bus", a.cB)] .none .none doc pm none (.ref b.ca) ct))
  rec' : J.CodeRec (.ref b.ca) addQual
  tl : TabJ J h b.ca b.Pa psA lamPos lamQual
  kept : h.get? b.kp = some (W.listOf kits nk)
  keptJ : All2 (KeptAt J) kits.toList kl
  cB : J.IsCell a.cB (some (.ref a.bus))
  cLn : J.IsCell b.cLn (some (.ref b.fl))
  cK : J.IsCell b.cK (some (.ref b.kp))
  cC : J.IsCell b.cC (some (.ref b.cs))
  cells : ∃ its n, J.get? b.cs = some (W.listOf its n) ∧ All2 (fun v (d : Int) => ∃ t, v = Value.int d t) its.toList vals
  range : ∀ d ∈ vals, 0 ≤ d ∧ d < 1000000
  none1 : ∀ q ∈ [b.kp, b.Pl, b.Pa], G0.get? q = none ∧ J.get? q = none ∧ q ∉ a.bus :: a.bd :: a.D :: 38 :: LL.map (·.1)
  apart1 : b.kp ≠ b.Pl ∧ b.kp ≠ b.Pa ∧ b.Pl ≠ b.Pa
theorem All2.get' {α β : Type} {R : α → β → Prop} : ∀ {as : List α} {bs : List β} {i : Nat} {b : β}, All2 R as bs → bs[i]? = some b → ∃ a, as[i]? = some a ∧ R a b
  | _, _, 0, _, .cons h _, e => by cases e; exact ⟨_, rfl, h⟩
  | _, _, i + 1, _, .cons _ r, e => by simpa using r.get' (by simpa using e)
def AnsDone (g : Heap) (L : Addr) (s : Shared) (nw : List (Addr × Obj)) (x : Addr) (dr : Int) (num : Nat) (t t9 : Tok) (s' : Shared) : Prop :=
  ∃ av h5 tk5 m5 ex5, s' = { s with heap := h5, toks := tk5 } ∧ Fr g L h5 m5 ∧ News g L h5 (nw ++ ex5) ∧ (∀ p ∈ ex5, ∃ vs n, p.2 = tupObj vs n) ∧
      (∀ h' m', Fr g L h' m' → News g L h' ex5 → IsNm h' x (nameOf dr) ∧ AnsAt h' av (drawnLis dr num).ans) ∧ m5 "answer" = some av ∧ m5 "name" = some (.ref x) ∧ m5 "draw" = some (.int dr t9) ∧ m5 "number" = some (.int num t)
theorem AddIn.at42 {w : World} {G0 J : Heap} {a : Adr} {b : Law} {hsh : Int} {tl : Tok} {nb : Nat} {vals : List Int} {xs : List (List Str × Addr × Value)} {ls kl : List Lis} {LL : List (Addr × Obj)} {ps psL psA kits : Array Value} {nk : Nat} {h : Heap}
    (x : AddIn w G0 J a b hsh tl nb vals xs ls kl LL ps psL psA kits nk h) : ∀ q o, h.get? q = some o → o.cls ≠ .type "code" → 42 ≠ q := fun q o e n z => by
  obtain ⟨⟨o', vs, e', hc, _⟩, _⟩ := x.reg.code.2
  rw [← z, e'] at e
  cases e
  exact n hc
/-- the law's state after a step that changes the tables of listener and added alone, the standing heap grown -/
theorem AddIn.step {w : World} {G0 J J' : Heap} {a : Adr} {b : Law} {hsh : Int} {tl : Tok} {nb : Nat} {vals : List Int} {xs : List (List Str × Addr × Value)} {ls kl : List Lis} {LL : List (Addr × Obj)} {ps psL psA psL' psA' kits : Array Value} {nk : Nat} {h h' : Heap} {mu : List Addr}
    (x : AddIn w G0 J a b hsh tl nb vals xs ls kl LL ps psL psA kits nk h) (e : Ext mu h h') (hmu : ∀ q ∈ mu, q = b.Pl ∨ q = b.Pa) (k : J.StaysIn J')
    (nn : ∀ q, (q ∈ a.bus :: a.bd :: a.D :: 38 :: LL.map (·.1) ∨ q ∈ [b.kp, b.Pl, b.Pa]) → J.get? q = none → (∃ o, h.get? q = some o) → (∀ o, h.get? q = some o → o.cls ≠ .type "tuple") → J'.get? q = none)
    (l : LsnAt J' h' a b.fl b.cl b.Pl psL') (tb : TabJ J' h' b.ca b.Pa psA' lamPos lamQual) : AddIn w G0 J' a b hsh tl nb vals xs ls kl LL ps psL' psA' kits nk h' := by
  have eL := x.lsn.tl.tab
  have eA := x.tl.tab
  have hPl := x.none1 b.Pl (by simp)
  have hPa := x.none1 b.Pa (by simp)
  have hkp := x.none1 b.kp (by simp)
  have nreg : ∀ q ∈ a.bus :: a.bd :: a.D :: 38 :: LL.map (·.1), J'.get? q = none := by
    intro q hq
    have e0 := (x.reg.none0 q hq).2
    have hq0 := hq
    simp only [List.mem_cons] at hq
    rcases hq with rfl | rfl | rfl | rfl | hq
    · exact nn _ (.inl hq0) e0 ⟨_, x.reg.inst⟩ fun o z => by rw [x.reg.inst] at z; cases z; simp
    · exact nn _ (.inl hq0) e0 ⟨_, x.reg.dict⟩ fun o z => by rw [x.reg.dict] at z; cases z; simp
    · obtain ⟨o, _, _, ho, hx, _⟩ := x.reg.tab
      exact nn _ (.inl hq0) e0 ⟨_, ho⟩ fun o' z => by rw [ho] at z; cases z; rw [hx.1]; simp
    · exact nn _ (.inl hq0) e0 ⟨_, x.reg.code.2.2⟩ fun o z => by rw [x.reg.code.2.2] at z; cases z; simp
    · obtain ⟨p, hp, rfl⟩ := List.mem_map.mp hq
      exact nn _ (.inl hq0) e0 ⟨_, x.reg.at' p hp⟩ fun o z => by rw [x.reg.at' p hp] at z; cases z; rw [listCls x.reg.lists hp]; simp
  have mun : ∀ q ∈ mu, ∀ o, h.get? q = some o → o = tabObj psL ∨ o = tabObj psA := fun q hq o z => by
    rcases hmu q hq with rfl | rfl
    · rw [eL] at z; cases z; exact .inl rfl
    · rw [eA] at z; cases z; exact .inr rfl
  have kpn : b.kp ∉ mu := fun q => by
    rcases hmu _ q with z | z
    · exact x.apart1.1 z
    · exact x.apart1.2.1 z
  refine ⟨(x.reg.ext e (fun q hq z => ?_) (fun q hq o z => ?_) (fun z => ?_)).grow k nreg, l, let ⟨d, p, t, z⟩ := x.fn; ⟨d, p, t, k _ _ z⟩, codeRec_keeps x.rec' k, tb, e _ _ x.kept kpn, x.keptJ.mono fun _ _ z => z.keeps k, x.cB.keeps k, x.cLn.keeps k, x.cK.keeps k, x.cC.keeps k, let ⟨i, n, z, r⟩ := x.cells; ⟨i, n, k _ _ z, r⟩, x.range, fun q hq => ⟨(x.none1 q hq).1, ?_, (x.none1 q hq).2.2⟩, x.apart1⟩
  · rcases hmu q z with rfl | rfl
    · exact hPl.2.2 hq
    · exact hPa.2.2 hq
  · intro hc
    rcases mun q hq o z with rfl | rfl <;> simp at hc
  · rcases hmu _ z with z | z
    · exact x.at42 b.Pl _ eL (by simp) z
    · exact x.at42 b.Pa _ eA (by simp) z
  · have e0 := (x.none1 q hq).2.1
    have hq0 := hq
    simp only [List.mem_cons, List.not_mem_nil, or_false] at hq
    rcases hq with rfl | rfl | rfl
    · exact nn _ (.inr hq0) e0 ⟨_, x.kept⟩ fun o z => by rw [x.kept] at z; cases z; simp
    · exact nn _ (.inr hq0) e0 ⟨_, eL⟩ fun o z => by rw [eL] at z; cases z; simp
    · exact nn _ (.inr hq0) e0 ⟨_, eA⟩ fun o z => by rw [eA] at z; cases z; simp
theorem AddIn.registered {w : World} {G0 J J' : Heap} {a : Adr} {b : Law} {hsh : Int} {tl : Tok} {nb : Nat} {vals : List Int} {xs xs' : List (List Str × Addr × Value)} {ls ls' kl : List Lis} {LL LL' : List (Addr × Obj)} {ps ps' psL psA kits : Array Value} {nk : Nat} {h h' : Heap}
    (x : AddIn w G0 J a b hsh tl nb vals xs ls kl LL ps psL psA kits nk h) (e : Ext (a.D :: 38 :: LL.map (·.1)) h h') (k : J.StaysIn J')
    (nn : ∀ q, J.get? q = none → (∃ o, h.get? q = some o) → J'.get? q = none) (reg : RegIn w G0 J' a hsh tl nb xs' ls' LL' ps' h') (fresh : ∀ q ∈ LL'.map (·.1), q ∈ a.bus :: a.bd :: a.D :: 38 :: LL.map (·.1) ∨ ∀ o, h.get? q ≠ some o) :
    AddIn w G0 J' a b hsh tl nb vals xs' ls' kl LL' ps' psL psA kits nk h' := by
  have off : ∀ q ∈ [b.kp, b.Pl, b.Pa], q ∉ a.D :: 38 :: LL.map (·.1) := fun q hq z => (x.none1 q hq).2.2 (by
    simp only [List.mem_cons] at z ⊢
    exact .inr (.inr z))
  have ex : ∀ q ∈ [b.kp, b.Pl, b.Pa], ∃ o, h.get? q = some o := fun q hq => by
    simp only [List.mem_cons, List.not_mem_nil, or_false] at hq
    rcases hq with rfl | rfl | rfl
    · exact ⟨_, x.kept⟩
    · exact ⟨_, x.lsn.tl.tab⟩
    · exact ⟨_, x.tl.tab⟩
  refine ⟨reg, (x.lsn.grow k).ext e (off _ (by simp)), let ⟨d, p, t, z⟩ := x.fn; ⟨d, p, t, k _ _ z⟩, codeRec_keeps x.rec' k, (x.tl.grow k).ext e (off _ (by simp)), e _ _ x.kept (off _ (by simp)), x.keptJ.mono fun _ _ z => z.keeps k, x.cB.keeps k, x.cLn.keeps k, x.cK.keeps k, x.cC.keeps k, let ⟨i, n, z, r⟩ := x.cells; ⟨i, n, k _ _ z, r⟩, x.range, fun q hq => ⟨(x.none1 q hq).1, nn q (x.none1 q hq).2.1 (ex q hq), fun z => ?_⟩, x.apart1⟩
  have n2 := (x.none1 q hq).2.2
  simp only [List.mem_cons, not_or] at n2
  simp only [List.mem_cons] at z
  rcases z with z | z | z | z | z
  · exact n2.1 z
  · exact n2.2.1 z
  · exact n2.2.2.1 z
  · exact n2.2.2.2.1 z
  · rcases fresh q z with z | z
    · exact (x.none1 q hq).2.2 z
    · obtain ⟨o, ho⟩ := ex q hq
      exact z o ho
/-- all that stands in the heap but the frame, as a ledger -/
theorem bigLedger {g h : Heap} {L : Addr} {m : Str → Option Value} (F : Fr g L h m) : ∃ bl : List (Addr × Obj), News g L h bl ∧ ∀ h' m', Fr g L h' m' → News g L h' bl → ∀ c o, c ≠ L → h.get? c = some o → h'.get? c = some o := by
  refine ⟨(List.range h.objs.size).filterMap fun c => if c ≠ L ∧ (g.get? c).isNone = true then (h.get? c).map fun o => (c, o) else none, fun p hp => ?_, fun h' m' F' N' c o n e => ?_⟩
  · obtain ⟨c, _, hc⟩ := List.mem_filterMap.mp hp
    split at hc
    · rename_i q
      cases e : h.get? c with
      | none => rw [e] at hc; cases hc
      | some o =>
        rw [e] at hc
        cases hc
        exact ⟨e, q.1, Option.isNone_iff_eq_none.mp q.2⟩
    · cases hc
  · cases eg : g.get? c with
    | some o2 =>
      have e2 := F.keep _ _ eg
      rw [e] at e2
      cases e2
      exact F'.keep _ _ eg
    | none =>
      refine (N' (c, o) (List.mem_filterMap.mpr ⟨c, List.mem_range.mpr (Heap.lt_size e), ?_⟩)).1
      rw [if_pos ⟨n, by rw [eg]; rfl⟩, e]
      rfl
theorem AddIn.kept1 {w : World} {G0 J J' : Heap} {a : Adr} {b : Law} {hsh : Int} {tl : Tok} {nb : Nat} {vals : List Int} {xs : List (List Str × Addr × Value)} {ls kl : List Lis} {LL : List (Addr × Obj)} {ps psL psA kits kits' : Array Value} {nk nk' : Nat} {h h' : Heap} {l : Lis}
    (x : AddIn w G0 J a b hsh tl nb vals xs ls kl LL ps psL psA kits nk h) {L : Addr} (e : Ext [b.kp, L] h h') (hLf : ∀ q, (q ∈ a.bus :: a.bd :: a.D :: 38 :: LL.map (·.1) ∨ q ∈ [b.kp, b.Pl, b.Pa]) → q ≠ L) (hLt : ∀ o, h.get? L = some o → ∀ its n, o.data ≠ .seq its n) (hL42 : 42 ≠ L) (k : J.StaysIn J') (nn : ∀ q, q < h.objs.size → J.get? q = none → (∃ o, h.get? q = some o ∧ NT o) → J'.get? q = none)
    (ek : h'.get? b.kp = some (W.listOf kits' nk')) (al : All2 (KeptAt J') kits'.toList (kl ++ [l])) : AddIn w G0 J' a b hsh tl nb vals xs ls (kl ++ [l]) LL ps psL psA kits' nk' h' := by
  have hkp := x.none1 b.kp (by simp)
  have nreg : ∀ q ∈ a.bus :: a.bd :: a.D :: 38 :: LL.map (·.1), J'.get? q = none := by
    intro q hq
    have e0 := (x.reg.none0 q hq).2
    have go : ∀ {o : Obj}, h.get? q = some o → o.cls ≠ .type "tuple" → J'.get? q = none := fun {o} e c => nn q (Heap.lt_size e) e0 ⟨o, e, .of_cls c⟩
    simp only [List.mem_cons] at hq
    rcases hq with rfl | rfl | rfl | rfl | hq
    · exact go x.reg.inst (by simp)
    · exact go x.reg.dict (by simp)
    · obtain ⟨o, _, _, ho, hx, _⟩ := x.reg.tab
      exact go ho (by rw [hx.1]; simp)
    · exact go x.reg.code.2.2 (by simp)
    · obtain ⟨p, hp, rfl⟩ := List.mem_map.mp hq
      exact go (x.reg.at' p hp) (by rw [listCls x.reg.lists hp]; simp)
  refine ⟨(x.reg.ext e (fun q hq z => ?_) (fun q hq o z => ?_) (fun z => ?_)).grow k nreg, (x.lsn.grow k).ext e (by simp only [List.mem_cons, List.not_mem_nil, or_false, not_or]; exact ⟨x.apart1.1.symm, hLf _ (.inr (by simp))⟩), let ⟨d, p, t, z⟩ := x.fn; ⟨d, p, t, k _ _ z⟩, codeRec_keeps x.rec' k, (x.tl.grow k).ext e (by simp only [List.mem_cons, List.not_mem_nil, or_false, not_or]; exact ⟨x.apart1.2.1.symm, hLf _ (.inr (by simp))⟩), ek, al, x.cB.keeps k, x.cLn.keeps k, x.cK.keeps k, x.cC.keeps k, let ⟨i, n, z, r⟩ := x.cells; ⟨i, n, k _ _ z, r⟩, x.range, fun q hq => ⟨(x.none1 q hq).1, ?_, (x.none1 q hq).2.2⟩, x.apart1⟩
  · simp only [List.mem_cons, List.not_mem_nil, or_false] at z
    rcases z with z | z
    · rw [z] at hq
      exact hkp.2.2 hq
    · exact hLf q (.inl hq) z
  · simp only [List.mem_cons, List.not_mem_nil, or_false] at hq
    rcases hq with hq | hq
    · rw [hq, x.kept] at z
      cases z
      intro hc
      simp at hc
    · exact fun _ => hLt o (hq ▸ z)
  · simp only [List.mem_cons, List.not_mem_nil, or_false] at z
    rcases z with z | z
    · exact x.at42 b.kp _ x.kept (by simp) z
    · exact hL42 z
  · have e0 := (x.none1 q hq).2.1
    have go : ∀ {o : Obj}, h.get? q = some o → o.cls ≠ .type "tuple" → J'.get? q = none := fun {o} e c => nn q (Heap.lt_size e) e0 ⟨o, e, .of_cls c⟩
    simp only [List.mem_cons, List.not_mem_nil, or_false] at hq
    rcases hq with rfl | rfl | rfl
    · exact go x.kept (by simp)
    · exact go x.lsn.tl.tab (by simp)
    · exact go x.tl.tab (by simp)
end Mine
end
section
open PySem PySem.W PySem.Calls PyProof.Rows
namespace Mine
set_option maxRecDepth 100000
set_option maxHeartbeats 2000000
/-- the state once the listener is registered, before it is kept -/
def RegDone (w : World) (G0 J : Heap) (a : Adr) (b : Law) (hsh : Int) (tl : Tok) (nb : Nat) (vals : List Int) (xs : List (List Str × Addr × Value)) (ls kl : List Lis) (LL : List (Addr × Obj)) (kits : Array Value) (nk : Nat) (dr : Int) (num : Nat) (t : Tok) (x L : Addr) (o4 : Obj) (s s' : Shared) : Prop :=
  ∃ g9 h9 tk9 gens9 J9 m9 av xs' LL' ps' psL' psA', s' = { s with heap := h9, toks := tk9, gens := gens9 } ∧ (AllBare s.gens → AllBare gens9) ∧ Fr g9 L h9 m9 ∧ News g9 L h9 [(L + 1, o4)] ∧ G0.StaysIn g9 ∧ J.StaysIn J9 ∧ J.StaysIn g9 ∧ J9.StaysIn h9 ∧ IsNm J9 x (nameOf dr) ∧ AnsAt J9 av (drawnLis dr num).ans ∧
    AddIn w G0 J9 a b hsh tl nb vals xs' (ls ++ [drawnLis dr num]) kl LL' ps' psL' psA' kits nk h9 ∧ (∀ q, J.get? q = none → (∃ o, s.heap.get? q = some o ∧ NT o) → J9.get? q = none) ∧ Ext (b.Pl :: b.Pa :: a.D :: 38 :: LL.map (·.1)) s.heap h9 ∧ xs'.length ≤ xs.length + 3 ∧
    (∀ q ∈ LL'.map (·.1), q ∈ a.bus :: a.bd :: a.D :: 38 :: LL.map (·.1) ∨ ∀ o, s.heap.get? q ≠ some o) ∧ J9.get? L = none ∧ m9 "answer" = some av ∧ m9 "name" = some (.ref x) ∧ m9 "number" = some (.int num t)
theorem regStep {w : World} {A : Around} {s : Shared} {G0 J J7 g7 h7 : Heap} {a : Adr} {b : Law} {hsh : Int} {tl : Tok} {nb : Nat} {vals : List Int} {xs : List (List Str × Addr × Value)} {ls kl : List Lis} {LL : List (Addr × Obj)} {ps psL psA kits : Array Value} {nk : Nat} {loose mean mg mb} {Q E : Value → Shared → Prop} {num : Nat} {t : Tok} {dr : Int} {x L f : Addr} {o4 : Obj} {m5 : Str → Option Value} {av fv id : Value} {as : List Value} {tk7 : Nat}
    (X : (hd.heap_39 w.params).In G0) (T : Top topProg loose mean mg mb G0) (hL : s.heap.objs.size = L)
    (F7 : Fr g7 L h7 m5) (N7 : News g7 L h7 [(L + 1, o4)]) (kg7 : G0.StaysIn g7) (kJg : J.StaysIn g7) (j1 : J.StaysIn J7) (j2 : J7.StaysIn h7) (hx : IsNm J7 x (nameOf dr)) (ha : AnsAt J7 av (drawnLis dr num).ans)
    (R0 : RegIn w G0 J a hsh tl nb xs ls LL ps s.heap) (R7 : AddIn w G0 J7 a b hsh tl nb vals xs ls kl LL ps psL psA kits nk h7) (nn : ∀ q, J.get? q = none → (∃ o, s.heap.get? q = some o ∧ NT o) → J7.get? q = none) (x7 : Ext [b.Pl, b.Pa] s.heap h7)
    (hf : HearsAt J7 f num (drawnLis dr num).ans a.cL a.cB) (hfv : FvAt J7 fv (drawnLis dr num).sieve) (has : as = [] ∧ fv = .none ∨ as = [fv]) (hid : IdAt h7 id (nameOf dr)) (hh : A.handled = none) (hdp : A.depth + 60 < recursionLimit) (hu : A.units + 100 < cLine) (hls : ls.length ≤ 1000) (hxs : xs.length ≤ 100000) (JL : J7.get? L = none)
    (e1 : m5 "answer" = some av) (e2 : m5 "name" = some (.ref x)) (e3 : m5 "number" = some (.int num t))
    (hQ : ∀ s', RegDone w G0 J a b hsh tl nb vals xs ls kl LL kits nk dr num t x L o4 s s' → Q .none s') :
    wpAny (model prg w) A (call (.ref 43) (.ref a.bus :: id :: .ref f :: as)) Q E { s with heap := h7, toks := tk7 } := by
  have hlen := (nameOf_len (d := dr)).1
  refine register (lis := drawnLis dr num) X T (fun c o e => F7.keep _ _ (kg7 _ _ e)) R7.reg j2 hh hdp hu hid nameOf_len.2 (Nat.le_trans hlen (by decide)) (by show _ + (nameOf dr).length ≤ _; omega) (by omega) has hf hfv fun h9 tk9 gens9 J9 xs9 LL9 ps9 hg x9 c1 c2 c3 reg9 hxl fresh9 => ?_
  have hxl' : xs9.length ≤ xs.length + (nameOf dr).length := hxl
  have R9 := R7.registered x9 c1 (fun q e0 he => c3 q e0 he) reg9 fresh9
  have old : ∀ q ∈ a.D :: 38 :: LL.map (·.1), q < L := fun q hq => by
    rw [← hL]
    simp only [List.mem_cons] at hq
    rcases hq with rfl | rfl | hq
    · obtain ⟨o, _, _, ho, _⟩ := R0.tab
      exact Heap.lt_size ho
    · exact Heap.lt_size R0.code.2.2
    · obtain ⟨p, hp, rfl⟩ := List.mem_map.mp hq
      exact Heap.lt_size (R0.at' p hp)
  have F9 := fr_rebase F7 x9 (fun z => Nat.lt_irrefl _ (old _ z))
  have N9 := news_rebase N7 x9 (fun p hp z => by
    rcases List.mem_singleton.mp hp with rfl
    exact Nat.lt_irrefl _ (Nat.lt_of_succ_lt (old _ z)))
  have mu0 : ∀ q ∈ a.D :: 38 :: LL.map (·.1), G0.get? q = none ∧ J.get? q = none := fun q hq => R0.none0 q (by simp only [List.mem_cons] at hq ⊢; exact .inr (.inr hq))
  refine hQ _ ⟨_, h9, tk9, gens9, J9, m5, av, xs9, LL9, ps9, psL, psA, rfl, hg, F9, N9, fun c o e => hideAll_get _ (kg7 _ _ e) (fun z => by rw [(mu0 c z).1] at e; cases e), fun c o e => c1 _ _ (j1 _ _ e), fun c o e => hideAll_get _ (kJg _ _ e) (fun z => by rw [(mu0 c z).2] at e; cases e), c2,
    hx.keeps (c1 _), ha.keeps c1, R9, fun q e0 ⟨o, ho, hc⟩ => c3 q (nn q e0 ⟨o, ho, hc⟩) ?_, fun c o e n => ?_, by omega, fun q hq => ?_, c3 L JL (let ⟨o, _, _, e, _⟩ := F7.ns; ⟨o, e⟩), e1, e2, e3⟩
  · by_cases z : q = b.Pl ∨ q = b.Pa
    · rcases z with z | z
      · exact ⟨_, z ▸ R7.lsn.tl.tab⟩
      · exact ⟨_, z ▸ R7.tl.tab⟩
    · exact ⟨o, x7 _ _ ho (by simpa using z)⟩
  · simp only [List.mem_cons, not_or] at n
    refine x9 _ _ (x7 _ _ e (by simp [n.1, n.2.1])) ?_
    simp only [List.mem_cons, not_or]
    exact n.2.2
  · rcases fresh9 q hq with z | z
    · exact .inl z
    · by_cases y : q = b.Pl ∨ q = b.Pa
      · rcases y with y | y
        · exact absurd (y ▸ R7.lsn.tl.tab) (z _)
        · exact absurd (y ▸ R7.tl.tab) (z _)
      · exact .inr fun o e => z o (x7 _ _ e (by simpa using y))
end Mine
end
section
open PySem PySem.W PySem.Calls PyProof.Rows
namespace Mine
local macro_rules | `(tactic| walk_at "no key") => `(tactic| skip)
local macro_rules | `(tactic| walk_at "no key") => `(tactic| skip)
local macro_rules | `(tactic| walk_at "no key") => `(tactic| skip)
local macro_rules | `(tactic| walk_at "no key") => `(tactic| skip)
set_option maxRecDepth 100000
set_option maxHeartbeats 4000000
set_option pp.deepTerms false
set_option pp.deepTerms.threshold 6
theorem fillme10 : (fun (_ : OpenLaw) (_ : Params → Frag) => True) PySem.Challenge.rw_bs0024_01 hd.heap_39 := by
  w_top off
  k_fill
  trivial
local macro_rules | `(tactic| walk_at "eval Name") => `(tactic| (k_here; k_dflt (refine' nameX_L ?F ?v ?_ ?k ?a ?b; (case k => rfl); (case a => rfl); (case b => rfl); (case F => k_asm); (case v => first | exact rfl | assumption); k_whole)))
local macro_rules | `(tactic| walk_at "eval Name") => `(tactic| (k_here; k_dflt (refine' nameFree_G ?F ?c ?v ?_ ?k ?a ?b ?n; (case k => rfl); (case a => rfl); (case b => rfl); (case n => rfl); (case F => k_asm); (case c => rfl); (case v => assumption); k_whole)))
local macro_rules | `(tactic| walk_at "call builtin:len") => `(tactic| (k_here; (with_reducible show wpAny _ _ (call _ [Value.ref _]) _ _ _); k_dflt (refine' len_nmL ?F ?N ?x ?z ?s ?_; (case F => k_asm); (case N => k_asm); (case x => with_reducible assumption); (case z => with_reducible assumption); (case s => exact fun p hp => by simp [hp]); k_whole)))
local macro_rules | `(tactic| walk_at "callWith ref") => `(tactic| (k_here; k_dflt (refine' callWith_F ?k1 ?_; (case k1 => exact fnAt_G (by k_asm) (by assumption)); k_whole)))
local macro_rules | `(tactic| walk_at "FnAt") => `(tactic| (k_here; k_dflt (exact fnAt_G (by k_asm) (by assumption))))
theorem lstObj {J : Heap} {cL cB : Addr} {ls : List Lis} {h : Heap} : ∀ {xs : List (List Str × Addr × Value)} {LL : List (Addr × Obj)}, All2 (ListsAt J cL cB ls h) xs LL → ∀ {p}, p ∈ LL → ∃ its n, p.2 = W.listOf its n
  | _, _, .nil, _, hp => nomatch hp
  | _, _, .cons ⟨_, its, n, e, _⟩ r, p, hp => by
    rcases List.mem_cons.mp hp with rfl | hp
    · exact ⟨its, n, e⟩
    · exact lstObj r hp
theorem added {w : World} {A : Around} {s : Shared} {G0 J : Heap} {a : Adr} {b : Law} {hsh : Int} {tl : Tok} {nb : Nat} {vals : List Int} {xs : List (List Str × Addr × Value)} {ls kl : List Lis} {LL : List (Addr × Obj)} {ps psL psA kits : Array Value} {nk : Nat} {loose mean mg mb} {Q E : Value → Shared → Prop} {num : Nat} {t : Tok} {dr : Int} (X : (hd.heap_39 w.params).In G0) (T : Top topProg loose mean mg mb G0) (k : G0.StaysIn s.heap)
    (R : AddIn w G0 J a b hsh tl nb vals xs ls kl LL ps psL psA kits nk s.heap) (kJ : J.StaysIn s.heap) (hh : A.handled = none) (hdp : A.depth + 160 < recursionLimit) (hu : A.units + 200 < cLine) (hdr : vals[1 + num]? = some dr) (hvl : vals.length ≤ 11) (hkl : kl.length ≤ 1000) (hls : ls.length ≤ 1000) (hxs : xs.length ≤ 100000)
    (h : ∀ h' tk gens' J' xs' LL' ps' psL' psA' kits' nk', (AllBare s.gens → AllBare gens') → J.StaysIn J' → J'.StaysIn h' → (∀ q, J.get? q = none → (∃ o, s.heap.get? q = some o ∧ NT o) → J'.get? q = none) →
      AddIn w G0 J' a b hsh tl nb vals xs' (ls ++ [drawnLis dr num]) (kl ++ [drawnLis dr num]) LL' ps' psL' psA' kits' nk' h' → Ext (b.kp :: b.Pl :: b.Pa :: a.D :: 38 :: LL.map (·.1)) s.heap h' → xs'.length ≤ xs.length + 3 → (∀ q ∈ LL'.map (·.1), q ∈ a.bus :: a.bd :: a.D :: 38 :: LL.map (·.1) ∨ ∀ o, s.heap.get? q ≠ some o) →
      Q .none { s with heap := h', toks := tk, gens := gens' }) :
    wpAny (model prg w) A (call (.ref b.fa) [.int num t]) Q E s := by
  obtain ⟨doc, pm, ct, hfa⟩ := R.fn
  obtain ⟨its, nc, hcs, hvals⟩ := R.cells
  refine wpAny_call ?_
  refine' enterC (G0 := G0) (binds := [("number", .int num t)]) [(a.bus, instObj 53 a.bd), (a.bd, dictOf (lisEntry hsh tl a.D) nb)] ?hmu ?hm0 k T.nolimit (kJ _ _ hfa) rfl (codeRec_keeps R.rec' kJ) ?hroom ?hb ?hl ?hn ?_ ?c1 ?c2 ?c3
  (case hmu =>
    intro p hp
    simp only [List.mem_cons, List.not_mem_nil, or_false] at hp
    rcases hp with rfl | rfl
    · exact R.reg.inst
    · exact R.reg.dict)
  (case hm0 =>
    intro p hp
    simp only [List.mem_cons, List.not_mem_nil, or_false] at hp
    rcases hp with rfl | rfl
    · exact (R.reg.none0 a.bus (by simp)).1
    · exact (R.reg.none0 a.bd (by simp)).1)
  (case hroom => omega)
  (case hb => exact BindsTo.of_eq rfl)
  (case hl => exact rfl)
  (case hn => decide)
  (case c1 => exact rfl)
  (case c2 => exact rfl)
  (case c3 => exact rfl)
  intro g L' h₁ tk₁ cells kg eg og hL F N Y
  have X' := X.keeps kg
  have T' := T.keeps kg
  obtain ⟨o1, rfl, ho1⟩ := CellsAre.one Y
  replace ho1 : o1.data = .cell none := ho1
  clear Y
  simp only [List.cons_append, List.nil_append] at N
  have eg' : Ext [a.bus, a.bd] s.heap g := eg
  have kg' : J.StaysIn g := fun c o e => eg' _ _ (kJ _ _ e) (fun z => by
    simp only [List.mem_cons, List.not_mem_nil, or_false] at z
    rcases z with rfl | rfl
    · rw [(R.reg.none0 a.bus (by simp)).2] at e; cases e
    · rw [(R.reg.none0 a.bd (by simp)).2] at e; cases e)
  have g1 : g.IsCell a.cB (some (.ref a.bus)) := R.cB.keeps kg'
  have g2 : g.IsCell b.cLn (some (.ref b.fl)) := R.cLn.keeps kg'
  have g3 : g.IsCell b.cK (some (.ref b.kp)) := R.cK.keeps kg'
  have g4 : g.IsCell b.cC (some (.ref b.cs)) := R.cC.keeps kg'
  have g5 : g.IsList b.cs its := ⟨_, kg' _ _ hcs, rfl, nc, rfl⟩
  conv in (occs := *) addBody => all_goals whnf
  conv in (occs := *) addScope => all_goals whnf
  dsimp only
  k_steps
  rename Fr _ _ _ _ => F9
  rename News _ _ _ _ => N9
  obtain ⟨dv, hdv, t9, rfl⟩ := hvals.get' hdr
  have hnum : 1 + num < vals.length := (List.getElem?_eq_some_iff.mp hdr).1
  have e9 := F9.keep _ _ (kg' _ _ hcs)
  refine subscriptTail_builtin (T := "list") ⟨_, e9, rfl⟩ slot_list_getitem.lookup (wpAny_getItem_list ⟨_, e9, rfl, nc, rfl⟩ (by omega) (by omega) (x := .int dr t9) (by rw [← Array.getElem?_toList, show (1 + (num : Int)).toNat = 1 + num by omega]; exact hdv) ?_) (by with_unfolding_all rfl) (by intro _; with_unfolding_all rfl)
  obtain ⟨dr0, dr1⟩ := R.range dr (List.mem_of_getElem? hdr)
  dsimp only
  k_steps
  clear e9
  rename Fr _ _ _ _ => F9
  rename News _ _ _ _ => N9
  refine lawName X' T' F9.keep hh (by simp only [depth_deeper]; omega) (by simp only [Around.deeper_units]; omega) dr0 dr1 fun x h2 tk2 e2 hx2 => ?_
  replace F9 := fr_keep F9 e2
  replace N9 := news_keep N9 e2
  obtain ⟨ex, Nex, hex, cex⟩ := nmLedger2 F9 hx2
  replace N9 : News g L' h2 ((L' + 1, o1) :: (a.bus, instObj 53 a.bd) :: (a.bd, dictOf (lisEntry hsh tl a.D) nb) :: ex) := fun p hp => by
    simp only [List.mem_cons] at hp
    rcases hp with rfl | rfl | rfl | hp
    · exact N9 _ (by simp)
    · exact N9 _ (by simp)
    · exact N9 _ (by simp)
    · exact Nex _ hp
  clear Nex hx2 e2
  dsimp only
  k_steps
  rename Fr _ _ _ _ => F9
  rename News _ _ _ _ => N9
  refine unpackH hh F9 N9 (its := #[_, _]) ⟨_, N9.get (.head _), rfl, _, rfl⟩ rfl rfl fun h3 F3 N3 => ?_
  clear F9 N9
  replace N3 : News g L' h3 ((L' + 1, o1) :: (a.bus, instObj 53 a.bd) :: (a.bd, dictOf (lisEntry hsh tl a.D) nb) :: ex) := fun p hp => N3 p (List.mem_cons_of_mem _ hp)
  dsimp only
  k_steps
  rename Fr _ _ _ _ => F9
  rename News _ _ _ _ => N9
  refine wpAny_storeName_cell (c := L' + 1) rfl rfl rfl ⟨o1, N9.get (.head _), ho1⟩ fun h4 hc4 hs4 => ?_
  obtain ⟨o4, e4, ho4⟩ := hc4
  have x4 : Ext [L' + 1] _ h4 := fun b o e n => hs4.extBut b o (by simpa using n) e
  have gc := (N9 _ (.head _)).2
  replace F9 := fr_ext F9 x4 (by simpa using gc.1.symm) (by intro b hb; rcases List.mem_singleton.mp hb with rfl; exact gc.2)
  have oc1 := (N9 _ (.head _)).1
  replace N9 := ledger_upd (pre := []) N9 x4 e4 (fun _ z => nomatch z) (fun p hp q => by
    have e := (N9 p (List.mem_cons_of_mem _ hp)).1
    have e7 : p.2.data ≠ .cell none := by
      simp only [List.mem_cons] at hp
      rcases hp with rfl | rfl | hp
      · simp
      · simp
      · obtain ⟨vs, n, e2⟩ := cex p hp
        rw [e2]; simp
    rw [q, oc1] at e
    have e3 : o1 = p.2 := Option.some.inj e
    exact e7 (by rw [← e3]; exact ho1))
  simp only [List.nil_append] at N9
  refine wpAny_pure ?_
  dsimp only
  refine execs_cut (P := AnsDone g L' s [(L' + 1, o4), (a.bus, instObj 53 a.bd), (a.bd, dictOf (lisEntry hsh tl a.D) nb)] x dr num t t9) ?ifexp ?rest
  case ifexp =>
    k_steps
    · rename Fr _ _ _ _ => F9
      rename News _ _ _ _ => N9
      rename ((dr.fdiv 2000).fmod 3 = 1) => q1
      rename ((num : Int) < 2) => q2
      refine lawName X' T' F9.keep hh (by simp only [depth_deeper]; omega) (by simp only [Around.deeper_units]; omega) (by rw [Int.fdiv_eq_ediv_of_nonneg _ (by omega)]; omega) (by rw [Int.fdiv_eq_ediv_of_nonneg _ (by omega)]; omega) fun y h5 tk5 e5 hy5 => ?_
      replace F9 := fr_keep F9 e5
      replace N9 := news_keep N9 e5
      obtain ⟨ey, Ney, hey, cey⟩ := nmLedger2 F9 hy5
      replace N9 : News g L' h5 ((L' + 1, o4) :: (a.bus, instObj 53 a.bd) :: (a.bd, dictOf (lisEntry hsh tl a.D) nb) :: (ex ++ ey)) := fun p hp => by
        simp only [List.mem_cons, List.mem_append] at hp
        rcases hp with rfl | rfl | rfl | hp | hp
        · exact N9 _ (by simp)
        · exact N9 _ (by simp)
        · exact N9 _ (by simp)
        · exact N9 _ (by simp [hp])
        · exact Ney _ hp
      clear Ney hy5 e5
      dsimp only
      k_steps
      rename Fr _ _ _ _ => F9
      rename News _ _ _ _ => N9
      refine ⟨rfl, .ref y, _, _, _, ex ++ ey, rfl, F9, N9, fun p hp => (List.mem_append.mp hp).elim (cex p) (cey p), fun h' m' F' N' => ⟨hex h' m' F' (news_left N'), ?_⟩, rfl, rfl, rfl, rfl⟩
      show AnsAt h' (.ref y) (if _ then _ else _)
      rw [if_pos ⟨q1, q2⟩]
      exact ⟨y, rfl, hey h' m' F' (news_right N')⟩
    all_goals
      rename Fr _ _ _ _ => F9
      rename News _ _ _ _ => N9
      refine ⟨rfl, .none, _, _, _, ex, rfl, F9, N9, cex, fun h' m' F' N' => ⟨hex h' m' F' N', ?_⟩, rfl, rfl, rfl, rfl⟩
      show AnsAt h' .none (if _ then _ else _)
      rw [if_neg (by intro z; simp_all)]
      exact rfl
  case rest =>
    rintro s' ⟨av, h5, tk5, m5, ex5, rfl, F5, N5, cex5, hex5, hm1, hm2, hm3, hm4⟩
    clear F9 N9
    simp only [List.cons_append, List.nil_append] at N5
    have hexn : ∀ h' m', Fr g L' h' m' → News g L' h' ex5 → IsNm h' x (nameOf dr) := fun h' m' F' N' => (hex5 h' m' F' N').1
    have hnl : (nameOf dr).length ≤ 1000 := Nat.le_trans nameOf_len.1 (by decide)
    have fnl : FnG g b.fl := let ⟨_, _, _, e⟩ := R.lsn.fn; ⟨_, kg' _ _ e⟩
    have Pl0 := R.none1 b.Pl (by simp)
    have Pa0 := R.none1 b.Pa (by simp)
    have ltL : ∀ {q : Addr} {o : Obj}, s.heap.get? q = some o → q < L' := fun e => by rw [← hL]; exact Heap.lt_size e
    have PlL : b.Pl < L' := ltL R.lsn.tl.tab
    have PaL : b.Pa < L' := ltL R.tl.tab
    have JL0 : J.get? L' = none := by
      cases e : J.get? L' with
      | none => rfl
      | some o => exact absurd (ltL (kJ _ _ e)) (Nat.lt_irrefl _)
    have stage : ∀ {hx : Heap} {mx : Str → Option Value}, Fr g L' hx mx → News g L' hx ((L' + 1, o4) :: (a.bus, instObj 53 a.bd) :: (a.bd, dictOf (lisEntry hsh tl a.D) nb) :: ex5) →
        (∀ c o, s.heap.get? c = some o → hx.get? c = some o) ∧ ∃ J5 : Heap, J.StaysIn J5 ∧ J5.StaysIn hx ∧ IsNm J5 x (nameOf dr) ∧ AnsAt J5 av (drawnLis dr num).ans ∧ AddIn w G0 J5 a b hsh tl nb vals xs ls kl LL ps psL psA kits nk hx ∧ (∀ q, J.get? q = none → (∃ o, s.heap.get? q = some o ∧ NT o) → J5.get? q = none) ∧ J5.get? L' = none := by
      intro hx mx F9 N9
      have xs9 : ∀ c o, s.heap.get? c = some o → hx.get? c = some o := fun c o e => by
        by_cases q1 : c = a.bus
        · rw [q1, R.reg.inst] at e; cases e; rw [q1]; exact (N9 (a.bus, instObj 53 a.bd) (by simp)).1
        · by_cases q2 : c = a.bd
          · rw [q2, R.reg.dict] at e; cases e; rw [q2]; exact (N9 (a.bd, dictOf (lisEntry hsh tl a.D) nb) (by simp)).1
          · exact F9.keep _ _ (eg' _ _ e (by simp [q1, q2]))
      obtain ⟨hx9, ha9⟩ := hex5 _ _ F9 fun p hp => N9 p (by simp [hp])
      obtain ⟨J5, a1, a2, a3, a4, a5⟩ := growNm (J := J) (fun c o e => xs9 _ _ (kJ _ _ e)) hx9 ha9
      have a6 : ∀ q, J.get? q = none → (∃ o, s.heap.get? q = some o) → (∀ o, s.heap.get? q = some o → NT o) → J5.get? q = none := fun q e0 ⟨o, ho⟩ nt => a5 q e0 fun vs n z => by
        rw [xs9 _ _ ho] at z
        cases z
        exact nt _ ho _ _ rfl
      refine ⟨xs9, J5, a1, a2, a3, a4, R.step (mu := []) (.of_keep xs9) (fun _ z => nomatch z) a1 (fun q _ e0 he nt => a6 q e0 he fun o e => .of_cls (nt o e)) ((R.lsn.grow a1).ext (.of_keep (mu := []) xs9) (fun z => nomatch z)) ((R.tl.grow a1).ext (.of_keep (mu := []) xs9) (fun z => nomatch z)), fun q e0 ⟨o, ho, hc⟩ => a6 q e0 ⟨o, ho⟩ fun o' z => by rw [ho] at z; cases z; exact hc, a5 L' JL0 fun vs n z => by
        obtain ⟨o9, _, _, e9, d9, _⟩ := F9.ns
        rw [z] at e9
        cases e9
        cases d9⟩
    have mem_lt : ∀ q', (q' ∈ a.bus :: a.bd :: a.D :: 38 :: LL.map (·.1) ∨ q' ∈ [b.kp, b.Pl, b.Pa]) → q' < L' := by
      rintro q' (hq | hq)
      · simp only [List.mem_cons] at hq
        rcases hq with rfl | rfl | rfl | rfl | hq
        · exact ltL R.reg.inst
        · exact ltL R.reg.dict
        · obtain ⟨o, _, _, ho, _⟩ := R.reg.tab
          exact ltL ho
        · exact ltL R.reg.code.2.2
        · obtain ⟨p, hp, rfl⟩ := List.mem_map.mp hq
          exact ltL (R.reg.at' p hp)
      · simp only [List.mem_cons, List.not_mem_nil, or_false] at hq
        rcases hq with rfl | rfl | rfl
        · exact ltL R.kept
        · exact PlL
        · exact PaL
    have ex5n : ∀ {hx : Heap} {mx : Str → Option Value} {P : Addr} {ps : Array Value}, Fr g L' hx mx → News g L' hx ((L' + 1, o4) :: (a.bus, instObj 53 a.bd) :: (a.bd, dictOf (lisEntry hsh tl a.D) nb) :: ex5) → hx.get? P = some (tabObj ps) → P < L' →
        ∀ p ∈ [(L' + 1, o4)], p.1 ∉ [P] := by
      intro hx mx P ps F N e lt p hp z
      rcases List.mem_singleton.mp hp with rfl
      rw [List.mem_singleton] at z
      have z' : L' + 1 = P := z
      rw [← z'] at lt
      exact Nat.lt_irrefl _ (Nat.lt_of_succ_lt lt)
    have two : ∀ {hx h7 : Heap} {mx : Str → Option Value}, Fr g L' hx mx → News g L' hx ((L' + 1, o4) :: (a.bus, instObj 53 a.bd) :: (a.bd, dictOf (lisEntry hsh tl a.D) nb) :: ex5) → (∀ c o, s.heap.get? c = some o → hx.get? c = some o) → Ext [b.Pl] hx h7 →
        Fr (hideAll g [b.Pl]) L' h7 mx ∧ News (hideAll g [b.Pl]) L' h7 [(L' + 1, o4)] ∧ G0.StaysIn (hideAll g [b.Pl]) ∧ J.StaysIn (hideAll g [b.Pl]) ∧ Ext [b.Pl, b.Pa] s.heap h7 := by
      intro hx h7 mx F N xs9 x7
      refine ⟨fr_rebase F x7 (by simpa using Nat.ne_of_gt PlL), news_rebase (fun p hp => N p (by rcases List.mem_singleton.mp hp with rfl; simp)) x7 (ex5n F N (xs9 _ _ R.lsn.tl.tab) PlL), fun c o e => hideAll_get _ (kg _ _ e) (fun z => by rw [List.mem_singleton] at z; rw [z, Pl0.1] at e; cases e), fun c o e => hideAll_get _ (kg' _ _ e) (fun z => by rw [List.mem_singleton] at z; rw [z, Pl0.2.1] at e; cases e), fun c o e n => x7 _ _ (xs9 _ _ e) (fun z => n (by simp at z; simp [z]))⟩
    refine execs_cut (P := RegDone w G0 J a b hsh tl nb vals xs ls kl LL kits nk dr num t x (L') o4 s) ?ifreg ?rest2
    case ifreg =>
      k_steps
      · rename Fr _ _ _ _ => F9
        rename News _ _ _ _ => N9
        rename (((nameOf dr).length : Int) = 1) => q2
        obtain ⟨hx9, _⟩ := hex5 _ _ F9 fun p hp => N9 p (by simp [hp])
        obtain ⟨vs1, n1, e1, s1⟩ := hx9
        obtain ⟨k0, hk0⟩ : ∃ k0, nameOf dr = [k0] := by
          match hq : nameOf dr, q2 with
          | [k0], _ => exact ⟨k0, rfl⟩
          | [], q2 => simp at q2
          | _ :: _ :: _, q2 => simp at q2; omega
        rw [hk0] at s1
        obtain ⟨t0, hvs⟩ : ∃ t0, vs1.toList = [Value.str k0 t0] := by
          generalize vs1.toList = l at s1
          cases s1 with
          | cons y t r => cases r; exact ⟨_, rfl⟩
        have hsz1 : vs1.size = 1 := by rw [← Array.length_toList, hvs]; rfl
        refine item_tuple (items := vs1) (j := 0) (x := .str k0 t0) ⟨_, e1, rfl, n1, rfl⟩ (by decide) (by decide) (by rw [hsz1]; rfl) (by rw [← Array.getElem?_toList, hvs]; rfl) ?_ (by with_unfolding_all rfl) (by intro _; with_unfolding_all rfl)
        k_steps
        rename Fr _ _ _ _ => F9
        rename News _ _ _ _ => N9
        obtain ⟨xs9, J5, a1, a2, a3, a4, R5, a5, JL5⟩ := stage F9 N9
        have Lx : ∃ o, Heap.get? _ L' = some o := let ⟨o, _, _, e, _⟩ := F9.ns; ⟨o, e⟩
        refine listener X T (fun c o e => F9.keep _ _ (kg _ _ e)) a2 R5.lsn Pl0.1 (R5.none1 b.Pl (by simp)).2.1 hh (by simp only [depth_deeper]; omega) a4 fun f h7 tk7 ps7 J7 x7 b1 b2 b3 hf7 L7 => ?_
        have R7 := R5.step x7 (fun q hq => .inl (by simpa using hq)) b1 (fun q _ e0 he _ => b3 q e0 he) L7 ((R5.tl.grow b1).ext x7 (by simpa using R.apart1.2.2.symm))
        obtain ⟨F7, N7, kg7, kJ7, x77⟩ := two F9 N9 xs9 x7
        have JL7 := b3 L' JL5 Lx
        have X7 := X.keeps kg7
        have T7 := T.keeps kg7
        clear F9 N9 X' T'
        dsimp only
        k_steps
        rename Fr _ _ _ _ => F9
        rename News _ _ _ _ => N9
        rename ((dr.fdiv 24).fmod 3 = 2) => q1
        refine regStep (tk7 := tk7) X T hL F9 N9 kg7 kJ7 (fun c o e => b1 _ _ (a1 _ _ e)) b2 (a3.keeps (b1 _)) (a4.keeps b1) R.reg R7 (fun q e0 he => b3 q (a5 q e0 he) ?_) x77 hf7 (.inl ⟨rfl, q1⟩) (.inl ⟨rfl, rfl⟩) (.inr ⟨k0, t0, rfl, hk0⟩) hh (by simp only [depth_deeper]; omega) (by simp only [Around.deeper_units]; omega) hls hxs JL7 hm1 hm2 hm4 fun s' hs' => ?_
        · obtain ⟨o, ho, _⟩ := he
          exact ⟨o, xs9 _ _ ho⟩
        · refine wpAny_execs_nil ?_
          exact ⟨rfl, hs'⟩
      · rename Fr _ _ _ _ => F9
        rename News _ _ _ _ => N9
        obtain ⟨xs9, J5, a1, a2, a3, a4, R5, a5, JL5⟩ := stage F9 N9
        have Lx : ∃ o, Heap.get? _ L' = some o := let ⟨o, _, _, e, _⟩ := F9.ns; ⟨o, e⟩
        refine listener X T (fun c o e => F9.keep _ _ (kg _ _ e)) a2 R5.lsn Pl0.1 (R5.none1 b.Pl (by simp)).2.1 hh (by simp only [depth_deeper]; omega) a4 fun f h7 tk7 ps7 J7 x7 b1 b2 b3 hf7 L7 => ?_
        have R7 := R5.step x7 (fun q hq => .inl (by simpa using hq)) b1 (fun q _ e0 he _ => b3 q e0 he) L7 ((R5.tl.grow b1).ext x7 (by simpa using R.apart1.2.2.symm))
        obtain ⟨F7, N7, kg7, kJ7, x77⟩ := two F9 N9 xs9 x7
        have JL7 := b3 L' JL5 Lx
        have X7 := X.keeps kg7
        have T7 := T.keeps kg7
        clear F9 N9 X' T'
        dsimp only
        k_steps
        rename Fr _ _ _ _ => F9
        rename News _ _ _ _ => N9
        rename ((dr.fdiv 24).fmod 3 = 2) => q1
        refine regStep (tk7 := tk7) X T hL F9 N9 kg7 kJ7 (fun c o e => b1 _ _ (a1 _ _ e)) b2 (a3.keeps (b1 _)) (a4.keeps b1) R.reg R7 (fun q e0 he => b3 q (a5 q e0 he) ?_) x77 hf7 (.inl ⟨rfl, q1⟩) (.inl ⟨rfl, rfl⟩) (.inl ⟨x, rfl, (a3.keeps (b1 _)).keeps (b2 _)⟩) hh (by simp only [depth_deeper]; omega) (by simp only [Around.deeper_units]; omega) hls hxs JL7 hm1 hm2 hm4 fun s' hs' => ?_
        · obtain ⟨o, ho, _⟩ := he
          exact ⟨o, xs9 _ _ ho⟩
        · refine wpAny_execs_nil ?_
          exact ⟨rfl, hs'⟩
      all_goals
        rename Fr _ _ _ _ => F9
        rename News _ _ _ _ => N9
        obtain ⟨xs9, J5, a1, a2, a3, a4, R5, a5, JL5⟩ := stage F9 N9
        have Lx : ∃ o, Heap.get? _ L' = some o := let ⟨o, _, _, e, _⟩ := F9.ns; ⟨o, e⟩
        refine listener X T (fun c o e => F9.keep _ _ (kg _ _ e)) a2 R5.lsn Pl0.1 (R5.none1 b.Pl (by simp)).2.1 hh (by simp only [depth_deeper]; omega) a4 fun f h7 tk7 ps7 J7 x7 b1 b2 b3 hf7 L7 => ?_
        have R7 := R5.step x7 (fun q hq => .inl (by simpa using hq)) b1 (fun q _ e0 he _ => b3 q e0 he) L7 ((R5.tl.grow b1).ext x7 (by simpa using R.apart1.2.2.symm))
        obtain ⟨F7, N7, kg7, kJ7, x77⟩ := two F9 N9 xs9 x7
        have JL7 := b3 L' JL5 Lx
        have X7 := X.keeps kg7
        have T7 := T.keeps kg7
        clear F9 N9 X' T'
        dsimp only
        k_steps
        rename Fr _ _ _ _ => F9
        rename News _ _ _ _ => N9
        have JPa := R7.none1 b.Pa (by simp)
        have oc7 := N9 (L' + 1, o4) (by simp)
        refine kla_eval rfl ?_
        refine mkLam (qual := lamQual) T7 F9.keep (R7.tl.at' b2) (clos := [("sieve", L' + 1)]) rfl rfl rfl fun q c2 ctv h8 tk8 ps8 x8 nf8 ef8 hr8 nc8 eP8 tri8 hit8 => ?_
        have hJ8 : J7.StaysIn h8 := fun c o e => x8 _ _ (b2 _ _ e) (fun z => by rw [List.mem_singleton] at z; rw [z, JPa.2.1] at e; cases e)
        obtain ⟨J8, d1, d2, d3, d4⟩ := growJ [q, c2, L' + 1] hJ8
        have oc8 : h8.get? (L' + 1) = some o4 := x8 _ _ oc7.1 (fun z => by
          rw [List.mem_singleton] at z
          rw [← z] at PaL
          exact Nat.lt_irrefl _ (Nat.lt_of_succ_lt PaL))
        obtain ⟨cc, oc, vsc, tq, ec, hoc, hdc, hvc⟩ := hr8
        cases ec
        have rc : J8.CodeRec (.ref c2) lamQual := ⟨c2, oc, vsc, tq, rfl, d3 c2 (by simp) _ hoc, hdc, hvc⟩
        have fv8 : FvAt J8 (.ref q) (drawnLis dr num).sieve := .inr ⟨q, rfl, L' + 1, _, _, _, _, _, d3 q (by simp) _ ef8, rc, o4, d3 _ (by simp) _ oc8, ho4⟩
        have J8n : ∀ q', J7.get? q' = none → (∃ o, h7.get? q' = some o) → q' ≠ L' + 1 → J8.get? q' = none := fun q' e0 ⟨o, ho⟩ lt => d4 q' e0 fun z => by
          simp only [List.mem_cons, List.not_mem_nil, or_false] at z
          rcases z with rfl | rfl | rfl
          · exact nf8 _ ho
          · rcases nc8 with nc8 | nc8
            · exact nc8 _ ho
            · change codeAmong lamPos psA.toList = _ at nc8
              rcases R7.tl.alt with z | ⟨c3, z, r⟩
              · rw [z] at nc8; cases nc8
              · rw [z] at nc8
                cases nc8
                obtain ⟨_, _, _, _, e, z, _⟩ := r
                cases e
                rw [e0] at z; cases z
          · exact lt rfl
        have JL8 := J8n L' JL7 (let ⟨o, _, _, e, _⟩ := F9.ns; ⟨o, e⟩) (Nat.ne_of_lt (Nat.lt_succ_self _))
        have R8 := R7.step (mu := [b.Pa]) x8 (fun q' hq => .inr (by simpa using hq)) d1 (fun q' hq' e0 he _ => J8n q' e0 he (Nat.ne_of_lt (Nat.lt_succ_of_lt (mem_lt q' hq')))) ((L7.grow d1).ext x8 (by simpa using R.apart1.2.2)) ⟨R7.tl.hd.keeps d1, eP8, tri8, .inr ⟨c2, hit8, rc⟩⟩
        have F8 := fr_rebase F9 x8 (by simpa using Nat.ne_of_gt PaL)
        have N8 := news_rebase N9 x8 (fun p hp z => by
          rcases List.mem_singleton.mp hp with rfl
          rw [List.mem_singleton] at z
          rw [← z] at PaL
          exact Nat.lt_irrefl _ (Nat.lt_of_succ_lt PaL))
        have kg8 : G0.StaysIn (hideAll (hideAll g [b.Pl]) [b.Pa]) := fun c o e => hideAll_get _ (kg7 _ _ e) (fun z => by rw [List.mem_singleton] at z; rw [z, Pa0.1] at e; cases e)
        have kJ8 : J.StaysIn (hideAll (hideAll g [b.Pl]) [b.Pa]) := fun c o e => hideAll_get _ (kJ7 _ _ e) (fun z => by rw [List.mem_singleton] at z; rw [z, Pa0.2.1] at e; cases e)
        have x88 : Ext [b.Pl, b.Pa] s.heap h8 := fun c o e n => by
          simp only [List.mem_cons, List.not_mem_nil, or_false, not_or] at n
          exact x8 _ _ (x7 _ _ (xs9 _ _ e) (by simpa using n.1)) (by simpa using n.2)
        have X8 := X.keeps kg8
        have T8 := T.keeps kg8
        clear F9 N9 X7 T7
        k_steps
        rename Fr _ _ _ _ => F9
        rename News _ _ _ _ => N9
        refine regStep (tk7 := tk8) X T hL F9 N9 kg8 kJ8 (fun c o e => d1 _ _ (b1 _ _ (a1 _ _ e))) d2 ((a3.keeps (b1 _)).keeps (d1 _)) ((a4.keeps b1).keeps d1) R.reg R8 (fun q' e0 he => J8n q' (b3 q' (a5 q' e0 he) ?_) ?_ ?_) x88 (hf7.keeps d1) fv8 (.inr rfl) (.inl ⟨x, rfl, ((a3.keeps (b1 _)).keeps (d1 _)).keeps (d2 _)⟩) hh (by simp only [depth_deeper]; omega) (by simp only [Around.deeper_units]; omega) hls hxs JL8 hm1 hm2 hm4 fun s' hs' => ?_
        · obtain ⟨o, ho, _⟩ := he
          exact ⟨o, xs9 _ _ ho⟩
        · obtain ⟨o, ho, _⟩ := he
          by_cases z : q' = b.Pl
          · exact ⟨_, z ▸ R7.lsn.tl.tab⟩
          · exact ⟨o, x7 _ _ (xs9 _ _ ho) (by simpa using z)⟩
        · obtain ⟨o, ho, _⟩ := he
          exact Nat.ne_of_lt (Nat.lt_succ_of_lt (ltL ho))
        · refine wpAny_execs_nil ?_
          exact ⟨rfl, hs'⟩
    case rest2 =>
      rintro s' ⟨g9, h9, tk9, gens9, J9, m9, av9, xs9, LL9, ps9, psL9, psA9, rfl, hg9, F9, N9, kg9, j9, kJ9, j99, hx9, ha9, R9, nn9, x9, hxl9, fr9, JL9, q1, q2, q3⟩
      have X9 := X.keeps kg9
      have T9 := T.keeps kg9
      have g39 : g9.IsCell b.cK (some (.ref b.kp)) := R.cK.keeps kJ9
      clear X' T' F5 N5
      have F9ns := F9.ns
      obtain ⟨bl, Nb, kb⟩ := bigLedger F9
      have N10 : News g9 L' h9 ((L' + 1, o4) :: bl) := fun p hp => (List.mem_cons.mp hp).elim (fun e => e ▸ N9 _ (.head _)) (Nb p)
      clear N9 Nb
      k_steps
      refine getMethod_builtin ⟨_, R9.kept, rfl⟩ PySem.F.plainAttrs_list PySem.F.slot_list_append PySem.F.type_list_append (fun a e => by cases e; exact ⟨_, R9.kept, rfl⟩) ?_
      k_steps
      rename Fr _ _ _ _ => F12
      rename News _ _ _ _ => N12
      rename (_ ∧ _) => lt12
      have k12 := kb _ _ F12 fun p hp => N12 p (by simp [hp])
      have kpL : b.kp ≠ L' := Nat.ne_of_lt (ltL R.kept)
      have lk := R9.keptJ.length_eq
      refine append_at (hsz := by rw [PySem.sizeLine_eq]; rw [Array.length_toList] at lk; omega) (k12 _ _ kpL R9.kept) fun h13 hs13 e13 => ?_
      refine wpAny_execs_nil ?_
      rename Addr => pr
      have ePr := (N12 _ (.head _)).1
      have prL := (N12 _ (.head _)).2.1
      have x13 : ∀ {c : Addr} {o : Obj}, h9.get? c = some o → c ≠ L' → c ≠ b.kp → h13.get? c = some o := fun {c o} e n1 n2 => hs13.extBut c o n2 (k12 _ _ n1 e)
      have Jkp := (R9.none1 b.kp (by simp)).2.1
      have hJ13 : J9.StaysIn h13 := fun c o e => x13 (j99 _ _ e) (fun z => by rw [z, JL9] at e; cases e) (fun z => by rw [z, Jkp] at e; cases e)
      obtain ⟨J13, d1, d2, d3, d4⟩ := growJ [pr] hJ13
      have prkp : pr ≠ b.kp := cls_ne ePr (k12 _ _ kpL R9.kept) (by simp)
      have ePr13 := d3 pr (by simp) _ (hs13.extBut pr _ prkp ePr)
      have nn13 : ∀ q, J9.get? q = none → (∃ o, h9.get? q = some o ∧ NT o) → J13.get? q = none := fun q e0 ⟨o, ho, hc⟩ => d4 q e0 fun z => by
        rw [List.mem_singleton] at z
        have e := k12 q o (by rw [z]; exact prL) ho
        rw [z, ePr] at e
        cases e
        exact hc _ _ rfl
      obtain ⟨oL, _, _, eL, dL, _⟩ := F9ns
      have R13 := R9.kept1 (L := L') (kits' := kits.push (.ref pr)) (nk' := nk + 1) (l := drawnLis dr num) (J' := J13) (h' := h13) (fun c o e n => x13 e (fun z => n (by simp [z])) (fun z => n (by simp [z]))) ?k1 ?k2 ?k3 d1 (fun q _ => nn13 q) e13 ?k4
      refine h h13 _ gens9 J13 xs9 LL9 ps9 psL9 psA9 _ _ hg9 (fun c o e => d1 _ _ (j9 _ _ e)) d2 (fun q e0 he => d4 q (nn9 q e0 he) fun z => ?k5) R13 (fun c o e n => ?k6) hxl9 fr9
      case k1 =>
        rintro q (hq | hq)
        · simp only [List.mem_cons] at hq
          rcases hq with rfl | rfl | rfl | rfl | hq
          · exact Nat.ne_of_lt (mem_lt _ (.inl (by simp)))
          · exact Nat.ne_of_lt (mem_lt _ (.inl (by simp)))
          · exact Nat.ne_of_lt (mem_lt _ (.inl (by simp)))
          · exact Nat.ne_of_lt (mem_lt _ (.inl (by simp)))
          · obtain ⟨p, hp, rfl⟩ := List.mem_map.mp hq
            intro z
            have e := R9.reg.at' p hp
            rw [z, eL] at e
            obtain ⟨its, n, e2⟩ := lstObj R9.reg.lists hp
            rw [Option.some.inj e, e2] at dL
            cases dL
        · exact Nat.ne_of_lt (mem_lt q (.inr hq))
      case k2 =>
        intro o e its n q
        rw [eL] at e
        cases e
        rw [dL] at q
        cases q
      case k3 =>
        obtain ⟨⟨o, vs, e, _⟩, _⟩ := R.reg.code.2
        exact Nat.ne_of_lt (ltL e)
      case k4 =>
        rw [Array.toList_push]
        exact (R9.keptJ.mono fun _ _ z => z.keeps d1).append (.cons ⟨pr, x, av9, _, _, _, rfl, ePr13, hx9.keeps (d1 _), ha9.keeps d1⟩ .nil)
      case k5 =>
        obtain ⟨o, ho, hc⟩ := he
        rw [List.mem_singleton] at z
        have e1 := ltL ho
        rw [z] at e1
        exact Nat.lt_irrefl _ (Nat.lt_trans e1 (Nat.lt_of_succ_lt lt12.1))
      case k6 =>
        simp only [List.mem_cons, not_or] at n
        refine x13 (x9 _ _ e (by simp only [List.mem_cons, not_or]; exact n.2)) (Nat.ne_of_lt (ltL e)) n.1
end Mine
end
section
open PySem PySem.W PySem.Calls PyProof.Rows
namespace Mine
set_option maxRecDepth 100000
set_option maxHeartbeats 2000000
/-- def in a def, a new code: its own table is known -/
theorem mkFnX {M : Model} {A : Around} {E : Value → Shared → Prop} {s : Shared} {g : Heap} {name qual : Str} {params : Arguments} {scope : Scope} {env : Env} {c P : Addr} {ps : Array Value} {pos : Pos} {firstLine : Nat} {mg mb : Str → Option Value} {loose : List Str} {mean : ExcName → Option Value}
    {q0 : Str × Addr} {r0 : List (Str × Addr)} {Q : Value → Shared → Prop} {body : List Stmt} (T : Top topProg loose mean mg mb g) (kg : g.StaysIn s.heap) (C : CodeHd s.heap c P) (hP : s.heap.get? P = some (tabObj ps)) (ht : TriplesOk ps.toList) (hnf : codeAmong pos ps.toList = none)
    (hcl : closureFor scope env = pure (q0 :: r0)) (hge0 : env.globals = mainGlobals) (hcode : env.code = .ref c) (hdoc : docOf body = none)
    (h : ∀ f c' P' ctv doc h' tk, Ext [P] s.heap h' → s.heap.objs.size ≤ f → s.heap.objs.size ≤ c' → s.heap.objs.size ≤ P' → f ≠ c' → f ≠ P' → h'.get? f = some (fnMade name qual params body scope (q0 :: r0) doc ((mg "__name__").getD .none) c' ctv) → h'.CodeRec (.ref c') qual → CodeHd h' c' P' → h'.get? P' = some (tabObj #[]) →
      h'.get? P = some (tabObj (ps ++ #[rawInt pos.line, rawInt pos.col, .ref c'])) → Q (.ref f) { s with heap := h', toks := tk }) :
    wpAny M A (makeFunction name qual params (.stmts body) scope env [] [] [] pos firstLine) Q E s := by
  obtain ⟨gP, bm, ob, hbm, hne0, _, hneP, hbo, hcls, hdict, hdata⟩ := builtinsAt_T (P := P) T kg hP
  have hg := T.g.keeps kg
  rw [makeFunction_eq]
  simp only [List.zip_nil_right, List.filterMap_nil, List.isEmpty_nil, if_true, pure_bind]
  unfold makeTail
  rw [hcl, hge0]
  refine wpAny_bind (wpAny_pure ?_)
  simp only [List.isEmpty_cons, Bool.false_eq_true, if_false]
  refine wpAny_bind (wpAny_newTextTuple ?_)
  refine wpAny_bind (wpAny_functionCodeX hcode ((C.keeps fun b o e => Heap.get?_push_of_some _ e).code (Heap.get?_push_of_some _ hP) ht) ((C.keeps fun b o e => Heap.get?_push_of_some _ e).tab (Heap.get?_push_of_some _ hP)) hnf fun c' h' tk hx hge hlt _ hrec htb hown => ?_)
  obtain ⟨P', gP', ic, it⟩ := hown
  have x1 : Heap.ExtBut P s.heap h' := fun b o n e => hx b o n (Heap.get?_push_of_some _ e)
  have sz : s.heap.objs.size ≤ c' := Nat.le_trans (Nat.le_of_lt (by rw [Heap.size_push] at hge; exact hge)) (Nat.le_refl _)
  have szP : s.heap.objs.size ≤ P' := Nat.le_of_lt (by rw [Heap.size_push] at gP'; exact gP')
  have hg' := hg.extBut x1 gP
  refine wpAny_bind (wpAny_builtinsFor hg' hbm hne0 (x1 _ _ hneP hbo) hcls hdict hdata ?_)
  refine wpAny_bind (wpAny_nsGet hg' ?_)
  rw [hdoc]
  refine wpAny_bind (wpAny_pure (wpAny_newObj_type ?_ (by size_fits)))
  have up : ∀ {o : Obj} {b : Addr} {o' : Obj}, h'.get? b = some o' → (h'.push o).get? b = some o' := fun e => Heap.get?_push_of_some _ e
  have hlP : P' < h'.objs.size := Heap.lt_size it.2
  exact h _ c' P' _ .none _ tk (fun b o e n => up (x1 b o (by simpa using n) e)) (Nat.le_trans sz (Nat.le_of_lt hlt)) sz szP (Nat.ne_of_gt hlt) (Nat.ne_of_gt hlP) (Heap.get?_push_size _ rfl) (codeRec_keeps hrec fun _ _ e => up e) ((CodeHd.of ic it).keeps fun _ _ e => up e) (up it.2) (up htb.2)
end Mine
end
section
open PySem PySem.W PySem.Calls PyProof.Rows
namespace Mine
set_option maxRecDepth 100000
set_option maxHeartbeats 4000000
set_option pp.deepTerms false
set_option pp.deepTerms.threshold 6
theorem fillme11 : (fun (_ : OpenLaw) (_ : Params → Frag) => True) PySem.Challenge.rw_bs0024_01 hd.heap_39 := by
  w_top off
  k_fill
  trivial
theorem unreg {w : World} {A : Around} {s : Shared} {G0 : Heap} {a : Adr} {hsh : Int} {tl : Tok} {nb : Nat} {loose mean mg mb} {Q E : Value → Shared → Prop} (X : (hd.heap_39 w.params).In G0) (T : Top topProg loose mean mg mb G0) (k : G0.StaysIn s.heap)
    (h1 : s.heap.get? a.bus = some (instObj 53 a.bd)) (h2 : s.heap.get? a.bd = some (dictOf (lisEntry hsh tl a.D) nb)) (g1 : G0.get? a.bus = none) (g2 : G0.get? a.bd = none) (hh : A.handled = none) (hdp : A.depth + 20 < recursionLimit)
    (h : ∀ d h' tk nb', Ext [a.bd] s.heap h' → h'.get? a.bd = some (dictOf (lisEntry hsh tl d) nb') → h'.DictOfH (tKind w) d [] → (∀ o, s.heap.get? d ≠ some o) → (d == sysModules) = false → Q .none { s with heap := h', toks := tk }) :
    wpAny (model prg w) A (call (.ref 50) [.ref a.bus]) Q E s := by
  refine wpAny_call ?_
  refine' enterK (G0 := G0) [(a.bus, instObj 53 a.bd), (a.bd, dictOf (lisEntry hsh tl a.D) nb)] ?hmu ?hm0 k X T.nolimit ?ho ?hcd ?hroom ?hb ?hl ?_ ?hcell ?c1 ?c2 ?c3
  (case ho => k_is)
  (case hcd => k_is)
  (case hmu =>
    intro p hp
    simp only [List.mem_cons, List.not_mem_nil, or_false] at hp
    rcases hp with rfl | rfl
    · exact h1
    · exact h2)
  (case hm0 =>
    intro p hp
    simp only [List.mem_cons, List.not_mem_nil, or_false] at hp
    rcases hp with rfl | rfl
    · exact g1
    · exact g2)
  (case hroom => omega)
  (case hb => exact BindsTo.of_eq rfl)
  (case hl => exact locs rfl)
  (case hcell => decide)
  (case c1 => exact rfl)
  (case c2 => exact rfl)
  (case c3 => exact rfl)
  intro g L' h₁ kg eg og hL F N
  have X' := X.keeps kg
  have T' := T.keeps kg
  have ne3 : @Ne Nat a.bus a.bd := cls_ne h1 h2 (by simp)
  dsimp only
  k_steps
  rename Fr _ _ _ _ => F9
  rename News _ _ _ _ => N9
  rename Addr => d
  rename Obj => o
  rename (_ ∧ _) => lt
  have ne4 : @Ne Nat d a.bd := Nat.ne_of_gt lt.2
  refine' set_dict (K := hd.heap_39 w.params) (dx := a.bd) (C := 53) (es := lisEntry hsh tl a.D) (es' := lisEntry hsh tl d) (n := nb) (n' := ?n2) F9 X' N9 ?k4 ?k5 ?k6 ?k7 ?k8 ?k9 ?k10 ?k11 ?k12 ?k13 ?_
  case k4 => k_inst
  case k5 => exact rfl
  case k6 => k_is
  case k7 => k_is
  case k8 => k_is
  case k9 => k_is
  case k10 => exact rfl
  case k11 => exact rfl
  case k12 => k_upd
  case k13 => exact Nat.le_of_ble_eq_true rfl
  rename (d == sysModules) = false => lo
  rename Obj.IsDictOf (PySem.strKind prg w) o [] => hs
  clear F9 N9
  intro h9 F9 N9
  dsimp only
  refine wpAny_execs_nil ?_
  have eg' : Ext [a.bus, a.bd] s.heap g := eg
  refine h d h9 _ _ (fun c o' e n => ?_) (N9.get (by k_mem)) ?_ ?_ lo
  · by_cases q : c = a.bus
    · rw [q, h1] at e; cases e; rw [q]; exact N9.get (by k_mem)
    · exact F9.keep _ _ (eg' _ _ e (by simp at n; simp [q, n]))
  · obtain ⟨es, ep, hx, hd1, _, hp, _⟩ := hs
    refine ⟨o, es, ep, N9.get (by k_mem), hx, hd1, ?_, fun _ z => (nomatch z), by simp⟩
    generalize es.toList = l at hp
    cases l with
    | nil => rfl
    | cons x r => cases hp
  · intro o' e
    have e2 := (N9 (d, o) (by simp)).2.2
    have e3 := eg' _ _ e (by
      simp only [List.mem_cons, List.not_mem_nil, or_false, not_or]
      exact ⟨Nat.ne_of_gt lt.1, Nat.ne_of_gt lt.2⟩)
    rw [e2] at e3; cases e3
/-- the law's state after unregister_all -/
theorem AddIn.cleared {w : World} {G0 J : Heap} {a : Adr} {b : Law} {hsh : Int} {tl : Tok} {nb nb' : Nat} {vals : List Int} {xs : List (List Str × Addr × Value)} {ls kl : List Lis} {LL : List (Addr × Obj)} {ps psL psA kits : Array Value} {nk : Nat} {h h' : Heap} {d : Addr}
    (x : AddIn w G0 J a b hsh tl nb vals xs ls kl LL ps psL psA kits nk h) (kG : G0.StaysIn h) (kJ : J.StaysIn h) (e : Ext [a.bd] h h') (e1 : h'.get? a.bd = some (dictOf (lisEntry hsh tl d) nb')) (e2 : h'.DictOfH (tKind w) d []) (e3 : ∀ o, h.get? d ≠ some o) (e4 : (d == sysModules) = false) :
    AddIn w G0 J { a with D := d } b hsh tl nb' vals [] [] kl [] ps psL psA kits nk h' := by
  have bdn := x.reg.dict
  have dn : ∀ q, (∃ o, h.get? q = some o) → q ≠ d := fun q ⟨o, ho⟩ z => e3 o (z ▸ ho)
  have nbd : ∀ {q : Addr} {o : Obj}, h.get? q = some o → o ≠ dictOf (lisEntry hsh tl a.D) nb → q ∉ [a.bd] := fun {q o} ho n z => by
    rw [List.mem_singleton] at z
    rw [z, bdn] at ho
    exact n (Option.some.inj ho).symm
  have dG : G0.get? d = none ∧ J.get? d = none := by
    constructor
    · cases q : G0.get? d with
      | none => rfl
      | some o => exact absurd (kG _ _ q) (e3 o)
    · cases q : J.get? d with
      | none => rfl
      | some o => exact absurd (kJ _ _ q) (e3 o)
  have kpO := nbd x.kept (by simp)
  have PlO := nbd x.lsn.tl.tab (by simp)
  have PaO := nbd x.tl.tab (by simp)
  refine ⟨⟨e _ _ x.reg.inst (nbd x.reg.inst (by simp)), e1, e2, .nil, fun _ z => (nomatch z), .nil, fun _ _ _ => rfl, (dn a.bd ⟨_, bdn⟩).symm, e4, codeMove x.reg.code (fun o ho => ?_) (fun o ho => ?_), fun _ z => (nomatch z), fun q hq => ?_⟩, ⟨x.lsn.fn, x.lsn.rec', x.lsn.tl.ext e PlO⟩, x.fn, x.rec', x.tl.ext e PaO, e _ _ x.kept kpO, x.keptJ, x.cB, x.cLn, x.cK, x.cC, x.cells, x.range, fun q hq => ?_, x.apart1⟩
  · obtain ⟨⟨o', vs, ho', hc, _⟩, _⟩ := x.reg.code.2
    rw [ho] at ho'
    cases ho'
    exact e _ _ ho (nbd ho (fun z => by rw [z] at hc; simp at hc))
  · have z := x.reg.code.2.2
    rw [ho] at z
    exact e _ _ ho (nbd ho (by rw [Option.some.inj z]; simp))
  · simp only [List.map_nil, List.mem_cons, List.not_mem_nil, or_false] at hq
    rcases hq with rfl | rfl | rfl | rfl
    · exact x.reg.none0 _ (by simp)
    · exact x.reg.none0 _ (by simp)
    · exact dG
    · exact x.reg.none0 _ (by simp)
  · have n := x.none1 q hq
    have ex : ∃ o, h.get? q = some o := by
      simp only [List.mem_cons, List.not_mem_nil, or_false] at hq
      rcases hq with rfl | rfl | rfl
      · exact ⟨_, x.kept⟩
      · exact ⟨_, x.lsn.tl.tab⟩
      · exact ⟨_, x.tl.tab⟩
    refine ⟨n.1, n.2.1, fun z => ?_⟩
    have n2 := n.2.2
    simp only [List.mem_cons, not_or] at n2
    simp only [List.map_nil, List.mem_cons, List.not_mem_nil, or_false] at z
    rcases z with z | z | z | z
    · exact n2.1 z
    · exact n2.2.1 z
    · exact dn q ex z
    · exact n2.2.2.2.1 z
end Mine
end
section
open PySem PySem.W PySem.Calls PyProof.Rows
namespace Mine
set_option maxRecDepth 100000
set_option maxHeartbeats 2000000
/-- emit_signal from the law's state -/
theorem emit_law {w : World} {A : Around} {s : Shared} {G0 J : Heap} {a : Adr} {b : Law} {hsh : Int} {tl : Tok} {nb : Nat} {vals : List Int} {xs : List (List Str × Addr × Value)} {ls kl : List Lis} {LL : List (Addr × Obj)} {ps psL psA kits : Array Value} {nk : Nat} {loose mean mg mb} {Q E : Value → Shared → Prop} {id : Value} {name : List Str} {data : Int} {t : Tok} {vs : List Value} {n r : Nat}
    (X : (hd.heap_39 w.params).In G0) (T : Top topProg loose mean mg mb G0) (k : G0.StaysIn s.heap) (R : AddIn w G0 J a b hsh tl nb vals xs ls kl LL ps psL psA kits nk s.heap) (kJ : J.StaysIn s.heap)
    (hcL : J.IsCell a.cL (some (.ref a.log))) (hlog : s.heap.get? a.log = some (W.listOf vs.toArray n)) (lg : G0.get? a.log = none ∧ J.get? a.log = none ∧ a.log ∉ a.bus :: a.bd :: a.D :: 38 :: LL.map (·.1))
    (la : ∀ l ∈ ls, l.ans ≠ some []) (hid : IdAt s.heap id name) (hne : name ≠ []) (hdr : data + r = 3) (hr : 1 ≤ r) (hh : A.handled = none) (hdp : A.depth + 40 * r + 40 < recursionLimit) (hu : A.units + 100 * r + 100 < cLine) (hsz : vs.length + cap ls.length r ≤ 1000000)
    (h : ∀ h' tk vs' n', Ext [a.log] s.heap h' → h'.get? a.log = some (W.listOf (vs ++ vs').toArray n') → EntsAt h' vs' (heard ls r name data) → Q .none { s with heap := h', toks := tk }) :
    wpAny (model prg w) A (call (.ref 35) [.ref a.bus, id, .int data t]) Q E s := by
  have b0 := R.reg.none0 a.bus (by simp)
  have d0 := R.reg.none0 a.bd (by simp)
  have Hk : (hideAll s.heap [a.log]).StaysIn s.heap := fun c o e => of_hideAll _ e
  have Hg : ∀ {c : Addr} {o : Obj}, s.heap.get? c = some o → c ≠ a.log → (hideAll s.heap [a.log]).get? c = some o := fun {c o} e n => hideAll_get _ e (by simpa using n)
  have n2 := lg.2.2
  simp only [List.mem_cons, not_or] at n2
  have JH : J.StaysIn (hideAll s.heap [a.log]) := fun c o e => Hg (kJ _ _ e) (fun z => by rw [z, lg.2.1] at e; cases e)
  refine emit_spec X T ⟨b0.1, d0.1, lg.1⟩ r hr J (hideAll s.heap [a.log]) hsh tl nb xs ls A s Q E id name data t vs n (fun c o e => Hg (k _ _ e) (fun z => by rw [z, lg.1] at e; cases e)) Hk JH b0.2 d0.2
    ⟨Hg R.reg.inst (fun z => n2.1 z.symm), Hg R.reg.dict (fun z => n2.2.1 z.symm), hcL.keeps JH, R.cB.keeps JH⟩
    ⟨dictOfH_keeps R.reg.tab (fun o e => Hg e (fun z => n2.2.2.1 z.symm)) (fun c o hc e => Hg e (fun z => by rw [z, hlog] at e; cases e; simp at hc)), fun x hx => ?_, R.reg.miss, R.reg.apart, R.reg.dne⟩ la (hideAll_none _ (by simp)) hlog hid hne hdr hh hdp hu hsz h
  obtain ⟨a1, a2, p, b1, b2, rfl, rfl, _, ⟨h1, its, m, h2, h3⟩, _⟩ := R.reg.lists.split hx
  have np : p.1 ≠ a.log := fun z => n2.2.2.2.2 (by rw [← z]; simp)
  refine ⟨p.1, its, m, h1, Hg ?_ np, h3, np⟩
  rw [← h2]
  exact R.reg.at' p (by simp)
end Mine
end
section
open PySem PySem.W PySem.Calls PyProof.Rows
namespace Mine
set_option maxRecDepth 100000
set_option maxHeartbeats 2000000
/-- what a turn of loopR shows at its end -/
def TurnR (I : Addr) (oI : Obj) (P : Shared → Prop) (f : Flow) (s₃ : Shared) : Prop := f = .next ∧ P s₃ ∧ s₃.heap.get? I = some oI
/-- a for over a range, its state told of the whole shared state -/
theorem loopR {w : World} {A : Around} {env : Env} {I : Addr} {n : Nat} {a : Int} {x : Str} {px : Pos} {body : List Stmt} {R : Result → Shared → Prop} (hh : A.handled = none) (P : Nat → Shared → Prop)
    (hP : ∀ i (s : Shared) h' tk oI, P i s → s.heap.get? I = some oI → oI.cls = .type "range_iterator" → Ext [I] s.heap h' → P i { s with heap := h', toks := tk })
    (turn : ∀ i (s : Shared) t oI, i < n → P i s → s.heap.get? I = some oI → oI.cls = .type "range_iterator" → wpAny (model prg w) A (assign (.Name x px) env (.int (a + (i : Int)) t)) (fun _ s₂ => wpAny (model prg w) A (execs body env) (TurnR I oI (P (i + 1))) (fun _ _ => False) s₂) (fun _ _ => False) s)
    (fin : ∀ s, P n s → R (.ok .next) s) {s : Shared} (p0 : P 0 s) (st : IsRangeIter s.heap I a n 1) :
    codeAny (model prg w) A (.forLoop (.Name x px) (.ref I) body [] env) R s := by
  refine codeAny_forLoop_any (fun k s' => ∃ i, i ≤ n ∧ k = n + 1 - i ∧ P i s' ∧ IsRangeIter s'.heap I (a + (i : Nat) * 1) ((n : Int) - (i : Nat)) 1) ?_ (n + 1) ⟨0, Nat.zero_le _, rfl, p0, by simpa using st⟩
  rintro k s' ⟨i, hi, rfl, p, it⟩
  have W := LCg.range_walks (prog := prg) (w := w) (A := A) (I := I) hh a n
  by_cases hlt : i < n
  · refine W.item i s' _ _ hlt it fun v h2 tk2 hv it2 hk => ?_
    obtain ⟨t, rfl⟩ := hv
    have x2 : Ext [I] s'.heap h2 := fun b o e nb => hk b o nb e
    dsimp only
    refine wpAny_of_eq (rfl : letOwnedTupleGo (.Name x px) (.ref I) (.int (a + (i : Int)) t) = pure ()) ?_
    have eI : h2.get? I = some _ := it2
    refine wpAny_mono (turn i { s' with heap := h2, toks := tk2 } t _ hlt (hP i s' h2 tk2 _ p it rfl x2) eI rfl) (fun _ s2 h3 => wpAny_mono h3 (fun f s3 h4 => ?_) fun _ _ z => z.elim) fun _ _ z => z.elim
    obtain ⟨rfl, p5, e5⟩ := h4
    exact ⟨n + 1 - (i + 1), by omega, i + 1, hlt, rfl, p5, e5⟩
  · obtain rfl : i = n := by omega
    refine W.done s' _ _ it fun h2 tk2 hk => ?_
    dsimp only
    refine wpAny_execs_nil ?_
    exact fin _ (hP i s' h2 tk2 _ p it rfl fun b o e nb => hk b o nb e)
end Mine
end
section
open PySem PySem.W PySem.Calls PyProof.Rows
namespace Mine
set_option maxRecDepth 100000
set_option maxHeartbeats 2000000
def entData (e : Ent) : PyData := .tuple [.int e.1, .tuple (e.2.1.map PyData.str), .int e.2.2]
theorem strs_reads {h : Heap} : ∀ {vs : List Value} {ks : List Str}, StrsAre vs ks → ∃ as, ReadsAll h vs (ks.map PyData.str) as
  | _, _, .nil => ⟨_, .nil⟩
  | _, _, .cons y t r => let ⟨_, x⟩ := strs_reads r; ⟨_, .cons (.str y t) x⟩
theorem ent_reads {h : Heap} {v : Value} {e : Ent} (x : EntAt h v e) : ∃ as, Reads h v (entData e) as := by
  obtain ⟨a, nm, t1, t2, n, rfl, h1, vs, m, h2, q⟩ := x
  obtain ⟨as, r⟩ := strs_reads (h := h) q
  exact ⟨_, .tuple h1 rfl rfl (.cons (.int _ _) (.cons (.tuple h2 rfl rfl r) (.cons (.int _ _) .nil)))⟩
theorem ents_reads {h : Heap} : ∀ {vs : List Value} {es : List Ent}, EntsAt h vs es → ∃ as, ReadsAll h vs (es.map entData) as
  | _, _, .nil => ⟨_, .nil⟩
  | _, _, .cons x r => let ⟨_, a⟩ := ent_reads x; let ⟨_, b⟩ := ents_reads r; ⟨_, .cons a b⟩
/-- log != due, where both hold the same entries -/
theorem ne_same {w : World} {A : Around} {E : Value → Shared → Prop} {s : Shared} {l1 l2 : Addr} {v1 v2 : List Value} {n1 n2 : Nat} {es : List Ent} {Q : Value → Shared → Prop} (h1 : s.heap.get? l1 = some (W.listOf v1.toArray n1)) (h2 : s.heap.get? l2 = some (W.listOf v2.toArray n2)) (e1 : EntsAt s.heap v1 es) (e2 : EntsAt s.heap v2 es)
    (hc : PyData.canLay0 (.list (es.map entData)) = true) (hu : A.units + PyData.depth (.list (es.map entData)) < cLine) (h : Q (.bool false) s) : wpAny (model prg w) A (compareOp .NotEq (.ref l1) (.ref l2)) Q E s := by
  obtain ⟨as, r1⟩ := ents_reads e1
  obtain ⟨bs, r2⟩ := ents_reads e2
  refine SeqAt.compareNe_reads (da := .list (es.map entData)) (db := .list (es.map entData)) (.list h1 rfl rfl (by simpa using r1)) (.list h2 rfl rfl (by simpa using r2)) hc hc (by rw [Nat.min_self]; exact hu) ?_
  rw [SeqAt.eqv_refl _ hc]
  exact h
theorem depth_strs : ∀ ks : List Str, PyData.depthAll (ks.map PyData.str) = 0
  | [] => rfl
  | k :: r => by
    show max (PyData.depth (.str k)) (PyData.depthAll (r.map PyData.str)) = 0
    rw [depth_strs r]; rfl
theorem depth_ent (e : Ent) : PyData.depth (entData e) ≤ 2 := by
  show PyData.depthAll [PyData.int e.1, .tuple (e.2.1.map PyData.str), .int e.2.2] + 1 ≤ 2
  show max 0 (max (PyData.depthAll (e.2.1.map PyData.str) + 1) (max 0 0)) + 1 ≤ 2
  rw [depth_strs]; decide
theorem depth_ents : ∀ es : List Ent, PyData.depthAll (es.map entData) ≤ 2
  | [] => Nat.zero_le _
  | e :: r => by
    show max (PyData.depth (entData e)) (PyData.depthAll (r.map entData)) ≤ 2
    exact Nat.max_le.mpr ⟨depth_ent e, depth_ents r⟩
theorem depth_log (es : List Ent) : PyData.depth (.list (es.map entData)) ≤ 3 := Nat.succ_le_succ (depth_ents es)
theorem lay_strs : ∀ ks : List Str, (∀ k ∈ ks, PyData.strOk k = true) → PyData.canLayAll0 (ks.map PyData.str) = true
  | [], _ => rfl
  | k :: r, h => by
    show (PyData.canLay0 (.str k) && PyData.canLayAll0 (r.map PyData.str)) = true
    rw [lay_strs r fun x hx => h x (.tail _ hx), Bool.and_true]
    unfold PyData.canLay0
    exact h k (.head _)
theorem lay_ent (e : Ent) (h : ∀ k ∈ e.2.1, PyData.strOk k = true) : PyData.canLay0 (entData e) = true := by
  show (true && (PyData.canLayAll0 (e.2.1.map PyData.str) && (true && true))) = true
  rw [lay_strs _ h]; rfl
theorem lay_log : ∀ es : List Ent, (∀ e ∈ es, ∀ k ∈ e.2.1, PyData.strOk k = true) → PyData.canLayAll0 (es.map entData) = true
  | [], _ => rfl
  | e :: r, h => by
    show (PyData.canLay0 (entData e) && PyData.canLayAll0 (r.map entData)) = true
    rw [lay_ent e (h e (.head _)), lay_log r fun x hx => h x (.tail _ hx)]; rfl
theorem ltr_ok {d k : Int} : PyData.strOk (ltr d k) = true := by
  have h1 := Int.fmod_nonneg_of_pos (Int.fdiv (Int.fdiv d 3) (2 ^ k.toNat)) (by decide : (0:Int) < 2)
  have h2 := Int.fmod_lt_of_pos (Int.fdiv (Int.fdiv d 3) (2 ^ k.toNat)) (by decide : (0:Int) < 2)
  have h3 : ltrIx d k = 0 ∨ ltrIx d k = 1 ∨ ltrIx d k = 2 := by
    unfold ltrIx
    split <;> omega
  unfold ltr
  rcases h3 with h | h | h <;> (rw [h]; decide +kernel)
theorem nameOf_ok {d : Int} : ∀ k ∈ nameOf d, PyData.strOk k = true := by
  intro k hk
  unfold nameOf at hk
  obtain ⟨i, _, rfl⟩ := List.mem_map.mp hk
  exact ltr_ok
/-- the names in the entries are the signal's or answers -/
theorem heard_ok {ls : List Lis} (hl : ∀ l ∈ ls, ∀ ks, l.ans = some ks → ∀ k ∈ ks, PyData.strOk k = true) : ∀ (r : Nat) (name : List Str) (data : Int), (∀ k ∈ name, PyData.strOk k = true) → ∀ e ∈ heard ls r name data, ∀ k ∈ e.2.1, PyData.strOk k = true
  | 0, _, _, _, _, he => nomatch he
  | r + 1, name, data, hn, e, he => by
    have he' : e ∈ (hits ls name).flatMap (one (heard ls r) name data) := he
    obtain ⟨l, hll, he2⟩ := List.mem_flatMap.mp he'
    unfold one at he2
    split at he2
    · rcases List.mem_cons.mp he2 with rfl | he2
      · exact hn
      · unfold answers at he2
        cases ha : l.ans with
        | none => rw [ha] at he2; exact nomatch he2
        | some ks =>
          rw [ha] at he2
          dsimp only at he2
          split at he2
          · exact heard_ok hl r ks (data + 1) (hl l (List.mem_filter.mp hll).1 ks ha) e he2
          · exact nomatch he2
    · exact nomatch he2
end Mine
end
section
open PySem PySem.W PySem.Calls PyProof.Rows
namespace Mine
set_option maxRecDepth 100000
set_option maxHeartbeats 2000000
/-- _law_heard from the law's state; lg: the list due -/
theorem heard_law {w : World} {A : Around} {s : Shared} {G0 J : Heap} {a : Adr} {b : Law} {hsh : Int} {tl : Tok} {nb : Nat} {vals : List Int} {xs : List (List Str × Addr × Value)} {ls kl : List Lis} {LL : List (Addr × Obj)} {ps psL psA kits : Array Value} {nk : Nat} {loose mean mg mb} {Q E : Value → Shared → Prop} {nm lg : Addr} {name : List Str} {data : Int} {t : Tok} {vs : List Value} {n r : Nat}
    (X : (hd.heap_39 w.params).In G0) (T : Top topProg loose mean mg mb G0) (k : G0.StaysIn s.heap) (R : AddIn w G0 J a b hsh tl nb vals xs ls kl LL ps psL psA kits nk s.heap) (kJ : J.StaysIn s.heap)
    (hlog : s.heap.get? lg = some (W.listOf vs.toArray n)) (l0 : G0.get? lg = none ∧ J.get? lg = none ∧ b.kp ≠ lg)
    (hown : ∀ l ∈ kl, l.own.length ≤ 1000 ∧ ∀ ks, l.ans = some ks → ks.length ≤ 1000) (hnl : name.length ≤ 1000) (hnm : IsNm s.heap nm name) (hdr : data + r = 3) (hr : 1 ≤ r) (hh : A.handled = none) (hdp : A.depth + 40 * r + 40 < recursionLimit) (hu : A.units + 100 * r + 100 < cLine) (hsz : vs.length + cap kl.length r ≤ 1000000)
    (h : ∀ h' tk vs' n', Ext [lg] s.heap h' → h'.get? lg = some (W.listOf (vs ++ vs').toArray n') → EntsAt h' vs' (heard kl r name data) → Q .none { s with heap := h', toks := tk }) :
    wpAny (model prg w) A (call (.ref 76) [.ref b.kp, .ref nm, .int data t, .ref lg]) Q E s := by
  have Hk : (hideAll s.heap [lg]).StaysIn s.heap := fun c o e => of_hideAll _ e
  have Hg : ∀ {c : Addr} {o : Obj}, s.heap.get? c = some o → c ≠ lg → (hideAll s.heap [lg]).get? c = some o := fun {c o} e n => hideAll_get _ e (by simpa using n)
  exact heard_spec X T r hr J (hideAll s.heap [lg]) b.kp kits nk kl A s Q E nm name data t vs n (fun c o e => Hg (k _ _ e) (fun z => by rw [z, l0.1] at e; cases e)) Hk (fun c o e => Hg (kJ _ _ e) (fun z => by rw [z, l0.2.1] at e; cases e)) (Hg R.kept l0.2.2) R.keptJ hown hnl (hideAll_none _ (by simp)) l0.1 hlog hnm hdr hh hdp hu hsz h
/-- the law's state, where other objects alone change -/
theorem AddIn.move {w : World} {G0 J : Heap} {a : Adr} {b : Law} {hsh : Int} {tl : Tok} {nb : Nat} {vals : List Int} {xs : List (List Str × Addr × Value)} {ls kl : List Lis} {LL : List (Addr × Obj)} {ps psL psA kits : Array Value} {nk : Nat} {h h' : Heap} {mu : List Addr}
    (x : AddIn w G0 J a b hsh tl nb vals xs ls kl LL ps psL psA kits nk h) (e : Ext mu h h') (n1 : ∀ q ∈ a.bus :: a.bd :: a.D :: 38 :: LL.map (·.1), q ∉ mu) (n2 : ∀ q ∈ [b.kp, b.Pl, b.Pa], q ∉ mu) (nt : ∀ q ∈ mu, ∀ o, h.get? q = some o → o.cls = .type "tuple" → ∀ its n, o.data ≠ .seq its n) (n42 : 42 ∉ mu) :
    AddIn w G0 J a b hsh tl nb vals xs ls kl LL ps psL psA kits nk h' :=
  ⟨x.reg.ext e n1 nt n42, x.lsn.ext e (n2 _ (by simp)), x.fn, x.rec', x.tl.ext e (n2 _ (by simp)), e _ _ x.kept (n2 _ (by simp)), x.keptJ, x.cB, x.cLn, x.cK, x.cC, x.cells, x.range, x.none1, x.apart1⟩
/-- kept.clear() -/
theorem AddIn.forgot {w : World} {G0 J : Heap} {a : Adr} {b : Law} {hsh : Int} {tl : Tok} {nb : Nat} {vals : List Int} {xs : List (List Str × Addr × Value)} {ls kl : List Lis} {LL : List (Addr × Obj)} {ps psL psA kits : Array Value} {nk nk' : Nat} {h h' : Heap}
    (x : AddIn w G0 J a b hsh tl nb vals xs ls kl LL ps psL psA kits nk h) (e : Ext [b.kp] h h') (ek : h'.get? b.kp = some (W.listOf #[] nk')) : AddIn w G0 J a b hsh tl nb vals xs ls [] LL ps psL psA #[] nk' h' := by
  have hk := x.none1 b.kp (by simp)
  exact ⟨x.reg.ext e (fun q hq z => by rw [List.mem_singleton] at z; rw [z] at hq; exact hk.2.2 hq) (fun q hq o z hc => by rw [List.mem_singleton] at hq; rw [hq, x.kept] at z; cases z; simp at hc) (fun z => by rw [List.mem_singleton] at z; exact x.at42 b.kp _ x.kept (by simp) z),
    x.lsn.ext e (by simpa using x.apart1.1.symm), x.fn, x.rec', x.tl.ext e (by simpa using x.apart1.2.1.symm), ek, .nil, x.cB, x.cLn, x.cK, x.cC, x.cells, x.range, x.none1, x.apart1⟩
end Mine
end
section
open PySem PySem.W PySem.Calls PyProof.Rows
namespace Mine
set_option maxRecDepth 100000
set_option maxHeartbeats 2000000
/-- the old heap stands, but for the two tables that grew -/
theorem oldK_of {h₀ h : Heap} {tabs : List (Addr × Addr)} (hT : TabsAt tabs h₀) (k : (ghostOf h₀ tabs).StaysIn h) (g : ∀ q ∈ tabs, ∃ ps, h.get? q.2 = some (tabObj ps)) : OldK h₀ h := by
  refine ⟨fun b o e => ?_, fun b o e => ?_⟩
  · by_cases hb : b ∈ tabs.map (·.2)
    · obtain ⟨q, hq, rfl⟩ := List.mem_map.mp hb
      obtain ⟨C, t⟩ := hT q hq
      rw [e] at t
      cases t
      obtain ⟨ps, e2⟩ := g q hq
      refine .inr (.inl ⟨(C.tab e).isCodeTable, rfl, #[], ps, rfl, ?_⟩)
      rw [e2]
      simp
    · exact .inl (k _ _ (ghost_ne e hb))
  · by_cases hb : b ∈ tabs.map (·.2)
    · obtain ⟨q, hq, rfl⟩ := List.mem_map.mp hb
      obtain ⟨ps, e2⟩ := g q hq
      exact ⟨_, e2⟩
    · exact ⟨o, k _ _ (ghost_ne e hb)⟩
end Mine
end
section
open PySem
namespace Mine
def restL : List Int := [4, 1, 2007, 30, 14, 51, 0, 33, 1, 1500, 30]
def cellsL (script : List Int) : List Int := (script.take 11).map (fun k => k.fmod 1000000) ++ restL.drop (((script.take 11).length : Int)).toNat
theorem cells_len (script : List Int) : (cellsL script).length = 11 := by
  unfold cellsL
  rw [List.length_append, List.length_map, List.length_drop, Int.toNat_natCast]
  have : (script.take 11).length ≤ 11 := by rw [List.length_take]; omega
  have e : restL.length = 11 := rfl
  omega
theorem cells_range (script : List Int) : ∀ d ∈ cellsL script, 0 ≤ d ∧ d < 1000000 := by
  intro d hd
  unfold cellsL at hd
  rcases List.mem_append.mp hd with hd | hd
  · obtain ⟨k, _, rfl⟩ := List.mem_map.mp hd
    exact ⟨Int.fmod_nonneg_of_pos k (by decide), Int.fmod_lt_of_pos k (by decide)⟩
  · have h := List.mem_of_mem_drop hd
    unfold restL at h
    simp only [List.mem_cons, List.not_mem_nil, or_false] at h
    omega
end Mine
end
section
open PySem PySem.W PySem.Calls PyProof.Rows
namespace Mine
set_option maxRecDepth 100000
set_option maxHeartbeats 2000000
def lawScope : Scope := fdScope lawStmt
def lawBody : List Stmt := fdBody lawStmt
def lawRest5 : List Stmt := lawBody.drop 5
def lawRest3 : List Stmt := lawBody.drop 3
theorem ints_vals : ∀ {vs : List Value} {ds : List Int}, IntsAre vs ds → All2 (fun v (d : Int) => ∃ t, v = Value.int d t) vs ds
  | _, _, .nil => .nil
  | _, _, .cons _ t r => .cons ⟨t, rfl⟩ (ints_vals r)
abbrev lawEnv (L fa : Addr) : Env := envX "law" lawScope L fa (.ref 80) (cellsFrom (L + 1) lawScope.names [])
/-- def listener -/
theorem lawDef1 {w : World} {A : Around} {s : Shared} {g : Heap} {L fa : Addr} {m : Str → Option Value} {ps : Array Value} {oc : Obj} {loose mean mg mb} {Q : Flow → Shared → Prop} {E : Value → Shared → Prop} (T : Top topProg loose mean mg mb g) (F : Fr g L s.heap m) (C : CodeHd s.heap 80 78) (hP : s.heap.get? 78 = some (tabObj ps)) (ht : TriplesOk ps.toList) (hnf : codeAmong (stPos listenerStmt) ps.toList = none)
    (hc : s.heap.get? (L + 4) = some oc) (hoc : oc.data = .cell none) (n78 : (78 : Nat) < L) (g78 : g.get? 78 = none) (gc : g.get? (L + 4) = none)
    (h : ∀ f c' P' ctv doc h' tk, Ext [78, L + 4] s.heap h' → Fr g L h' m → s.heap.objs.size ≤ f → s.heap.objs.size ≤ c' → s.heap.objs.size ≤ P' → f ≠ c' → f ≠ P' → h'.get? f = some (fnMade "listener" lsnQual lsnParams lsnBody lsnScope [("log", L + 5), ("bus", L + 1)] doc ((mg "__name__").getD .none) c' ctv) → h'.CodeRec (.ref c') lsnQual → CodeHd h' c' P' → h'.get? P' = some (tabObj #[]) →
      h'.get? 78 = some (tabObj (ps ++ #[rawInt (stPos listenerStmt).line, rawInt (stPos listenerStmt).col, .ref c'])) → h'.IsCell (L + 4) (some (.ref f)) → Q .next { s with heap := h', toks := tk }) :
    wpAny (model prg w) A (exec listenerStmt (lawEnv L fa)) Q E s := by
  have e : listenerStmt = .FunctionDef "listener" lsnParams lsnBody [] none [] lsnScope none "listener" (stPos listenerStmt) := by with_unfolding_all rfl
  rw [e]
  refine nestDef_K (by with_unfolding_all rfl) (by with_unfolding_all rfl) (by with_unfolding_all rfl) ?_
  refine mkFnX (qual := lsnQual) T F.keep C hP ht hnf (q0 := ("log", L + 5)) (r0 := [("bus", L + 1)]) (by with_unfolding_all rfl) rfl rfl (by with_unfolding_all rfl) fun f c' P' ctv doc h2 tk2 x2 s1 s2 s3 n1 n2 ef hr hC eP' e78 => ?_
  have lt4 : L + 4 < s.heap.objs.size := Heap.lt_size hc
  have n478 : (78 : Nat) ≠ L + 4 := Nat.ne_of_lt (Nat.lt_add_right 4 n78)
  have oc2 : h2.get? (L + 4) = some oc := x2 _ _ hc (by simpa using n478.symm)
  refine wpAny_storeName_cell (c := L + 4) rfl (by with_unfolding_all rfl) (by with_unfolding_all rfl) ⟨oc, oc2, hoc⟩ fun h3 hc3 hs3 => ?_
  have x3 : Ext [L + 4] h2 h3 := fun b o e n => hs3.extBut b o (by simpa using n) e
  have big : ∀ {b : Addr} {o : Obj}, h2.get? b = some o → s.heap.objs.size ≤ b → h3.get? b = some o := fun e le => x3 _ _ e (by simpa using Nat.ne_of_gt (Nat.lt_of_lt_of_le lt4 le))
  have x23 : Ext [78, L + 4] s.heap h3 := fun b o e n => by
    simp only [List.mem_cons, List.not_mem_nil, or_false, not_or] at n
    exact x3 _ _ (x2 _ _ e (by simpa using n.1)) (by simpa using n.2)
  have F3 : Fr g L h3 m := fr_ext F x23 (by
    simp only [List.mem_cons, List.not_mem_nil, or_false, not_or]
    exact ⟨Nat.ne_of_gt n78, Nat.ne_of_lt (Nat.lt_add_of_pos_right (by decide))⟩) (by
    intro b hb
    simp only [List.mem_cons, List.not_mem_nil, or_false] at hb
    rcases hb with rfl | rfl
    · exact g78
    · exact gc)
  obtain ⟨cc, occ, vs, tq, ec, hocc, hdc, hvc⟩ := hr
  cases ec
  exact h f c' P' ctv doc h3 _ x23 F3 s1 s2 s3 n1 n2 (big ef s1) ⟨c', occ, vs, tq, rfl, big hocc s2, hdc, hvc⟩ (codeHd_ext hC x3 (by simpa using Nat.ne_of_gt (Nat.lt_of_lt_of_le lt4 s2))) (big eP' s3) (x3 _ _ e78 (by simpa using n478)) hc3
/-- def added -/
theorem lawDef2 {w : World} {A : Around} {s : Shared} {g : Heap} {L fa : Addr} {m : Str → Option Value} {ps : Array Value} {loose mean mg mb} {Q : Flow → Shared → Prop} {E : Value → Shared → Prop} (T : Top topProg loose mean mg mb g) (F : Fr g L s.heap m) (C : CodeHd s.heap 80 78) (hP : s.heap.get? 78 = some (tabObj ps)) (ht : TriplesOk ps.toList) (hnf : codeAmong (stPos addedStmt) ps.toList = none)
    (n78 : (78 : Nat) < L) (g78 : g.get? 78 = none)
    (h : ∀ f c' P' ctv doc h' tk, Ext [78, L] s.heap h' → Fr g L h' (fun y => if y = "added" then some (.ref f) else m y) → s.heap.objs.size ≤ f → s.heap.objs.size ≤ c' → s.heap.objs.size ≤ P' → f ≠ c' → f ≠ P' → h'.get? f = some (fnMade "added" addQual addParams addBody addScope [("listener", L + 4), ("kept", L + 3), ("cells", L + 2), ("bus", L + 1)] doc ((mg "__name__").getD .none) c' ctv) → h'.CodeRec (.ref c') addQual → CodeHd h' c' P' → h'.get? P' = some (tabObj #[]) →
      h'.get? 78 = some (tabObj (ps ++ #[rawInt (stPos addedStmt).line, rawInt (stPos addedStmt).col, .ref c'])) → Q .next { s with heap := h', toks := tk }) :
    wpAny (model prg w) A (exec addedStmt (lawEnv L fa)) Q E s := by
  have e : addedStmt = .FunctionDef "added" addParams addBody [] none [] addScope none "added" (stPos addedStmt) := by with_unfolding_all rfl
  rw [e]
  refine nestDef_K (by with_unfolding_all rfl) (by with_unfolding_all rfl) (by with_unfolding_all rfl) ?_
  refine mkFnX (qual := addQual) T F.keep C hP ht hnf (q0 := ("listener", L + 4)) (r0 := [("kept", L + 3), ("cells", L + 2), ("bus", L + 1)]) (by with_unfolding_all rfl) rfl rfl (by with_unfolding_all rfl) fun f c' P' ctv doc h2 tk2 x2 s1 s2 s3 n1 n2 ef hr hC eP' e78 => ?_
  have ltL : L < s.heap.objs.size := F.ns.lt
  have F2 : Fr g L h2 m := fr_ext F x2 (by simpa using Nat.ne_of_gt n78) (by intro b hb; rcases List.mem_singleton.mp hb with rfl; exact g78)
  refine wpAny_storeName_local (by with_unfolding_all rfl) F2.ns (fun h3 hns3 hs3 => ?_) rfl
  have F3 := fr_store F2 hns3 hs3
  have x3 : Ext [L] h2 h3 := fun b o e n => hs3.extBut b o (by simpa using n) e
  have big : ∀ {b : Addr} {o : Obj}, h2.get? b = some o → s.heap.objs.size ≤ b → h3.get? b = some o := fun e le => x3 _ _ e (by simpa using Nat.ne_of_gt (Nat.lt_of_lt_of_le ltL le))
  have x23 : Ext [78, L] s.heap h3 := fun b o e n => by
    simp only [List.mem_cons, List.not_mem_nil, or_false, not_or] at n
    exact x3 _ _ (x2 _ _ e (by simpa using n.1)) (by simpa using n.2)
  obtain ⟨cc, occ, vs, tq, ec, hocc, hdc, hvc⟩ := hr
  cases ec
  exact h f c' P' ctv doc h3 _ x23 F3 s1 s2 s3 n1 n2 (big ef s1) ⟨c', occ, vs, tq, rfl, big hocc s2, hdc, hvc⟩ (codeHd_ext hC x3 (by simpa using Nat.ne_of_gt (Nat.lt_of_lt_of_le ltL s2))) (big eP' s3) (x3 _ _ e78 (by simpa using Nat.ne_of_lt n78))
end Mine
end
section
open PySem PySem.W PySem.Calls PyProof.Rows
namespace Mine
/-- all listeners are drawn ones -/
def Drawn (ls : List Lis) : Prop := ∀ l ∈ ls, ∃ dr num : Int, l = drawnLis dr num
theorem Drawn.nil : Drawn [] := fun _ h => nomatch h
theorem Drawn.snoc {ls : List Lis} (x : Drawn ls) (dr num : Int) : Drawn (ls ++ [drawnLis dr num]) := fun l hl => by
  rcases List.mem_append.mp hl with hl | hl
  · exact x l hl
  · exact ⟨dr, num, List.mem_singleton.mp hl⟩
theorem drawn_ans {dr num : Int} {ks : List Str} (h : (drawnLis dr num).ans = some ks) : ks = nameOf (dr.fdiv 72) := by
  unfold drawnLis at h
  dsimp only at h
  split at h
  · exact (Option.some.inj h).symm
  · cases h
theorem Drawn.ne {ls : List Lis} (x : Drawn ls) : ∀ l ∈ ls, l.ans ≠ some [] := fun l hl e => by
  obtain ⟨dr, num, rfl⟩ := x l hl
  exact nameOf_len.2 (drawn_ans e).symm
theorem Drawn.own {ls : List Lis} (x : Drawn ls) : ∀ l ∈ ls, l.own.length ≤ 1000 ∧ ∀ ks, l.ans = some ks → ks.length ≤ 1000 := fun l hl => by
  obtain ⟨dr, num, rfl⟩ := x l hl
  refine ⟨Nat.le_trans (nameOf_len (d := dr)).1 (by decide), fun ks e => ?_⟩
  rw [drawn_ans e]
  exact Nat.le_trans nameOf_len.1 (by decide)
theorem Drawn.ok {ls : List Lis} (x : Drawn ls) : ∀ l ∈ ls, ∀ ks, l.ans = some ks → ∀ k ∈ ks, PyData.strOk k = true := fun l hl ks e => by
  obtain ⟨dr, num, rfl⟩ := x l hl
  rw [drawn_ans e]
  exact nameOf_ok
end Mine
end
section
open PySem PySem.W PySem.Calls PyProof.Rows
namespace Mine
set_option maxRecDepth 100000
set_option maxHeartbeats 2000000
/-- what stays of one call of law; a.D is not meant -/
structure LC where
  a : Adr
  b : Law
  due : Addr
  hsh : Int
  tl : Tok
  vals : List Int
  L : Addr
/-- what moves -/
structure LD where
  J : Heap
  D : Addr
  nb : Nat
  xs : List (List Str × Addr × Value)
  ls : List Lis
  kl : List Lis
  LL : List (Addr × Obj)
  ps : Array Value
  psL : Array Value
  psA : Array Value
  kits : Array Value
  nk : Nat
  vs : List Value
  nl : Nat
  vd : List Value
  nd : Nat
  e1 : List Ent
  e2 : List Ent
abbrev LC.at (c : LC) (D : Addr) : Adr := { c.a with D := D }
abbrev LC.own (c : LC) : List Addr := [c.b.kp, c.b.Pl, c.b.Pa]
abbrev LD.trk (d : LD) (c : LC) : List Addr := c.a.bus :: c.a.bd :: d.D :: 38 :: d.LL.map (·.1)
structure Apart (G0 : Heap) (c : LC) (d : LD) (q : Addr) : Prop where
  g : G0.get? q = none
  j : d.J.get? q = none
  t : q ∉ d.trk c
  o : q ∉ c.own
abbrev LD.AddAt (w : World) (G0 : Heap) (c : LC) (d : LD) (h : Heap) : Prop := AddIn w G0 d.J (c.at d.D) c.b c.hsh c.tl d.nb c.vals d.xs d.ls d.kl d.LL d.ps d.psL d.psA d.kits d.nk h
/-- the state of a call of law; off: addresses that nothing is told of; st: objects that stand -/
structure LawAt (w : World) (G0 : Heap) (c : LC) (d : LD) (off : List Addr) (st : List (Addr × Obj)) (h : Heap) : Prop where
  add : d.AddAt w G0 c h
  kJ : d.J.StaysIn h
  cl : d.J.IsCell c.a.cL (some (.ref c.a.log))
  log : h.get? c.a.log = some (W.listOf d.vs.toArray d.nl)
  due : h.get? c.due = some (W.listOf d.vd.toArray d.nd)
  n1 : EntsAt d.J d.vs d.e1
  n2 : EntsAt d.J d.vd d.e2
  dr1 : Drawn d.ls
  dr2 : Drawn d.kl
  xl : d.xs.length ≤ 3 * d.ls.length
  ap : ∀ q ∈ c.a.log :: c.due :: c.L :: 78 :: (off ++ st.map (·.1)), Apart G0 c d q
  nd : (c.a.log :: c.due :: c.L :: (78 : Addr) :: (off ++ st.map (·.1))).Nodup
  h42 : (∃ o, G0.get? 42 = some o) ∧ G0.get? c.b.fa = none
  t78 : ∃ ps, h.get? 78 = some (tabObj ps)
  st' : ∀ p ∈ st, h.get? p.1 = some p.2 ∧ NT p.2
theorem EntAt.keeps {h h' : Heap} {v : Value} {e : Ent} (x : EntAt h v e) (k : h.StaysIn h') : EntAt h' v e := by
  obtain ⟨x, nm, t1, t2, n, h1, h2, h3⟩ := x
  exact ⟨x, nm, t1, t2, n, h1, k _ _ h2, h3.keeps (k _)⟩
theorem NT.frame {h : Heap} {L : Addr} {m : Str → Option Value} (n : h.Ns L m) : ∃ o, h.get? L = some o ∧ NT o := by
  obtain ⟨o, es, ep, e, hd, _⟩ := n
  exact ⟨o, e, fun vs n z => by rw [z] at hd; cases hd⟩
/-- the addresses apart hold objects that are no tuples -/
theorem LawAt.held {w : World} {G0 : Heap} {c : LC} {d : LD} {st : List (Addr × Obj)} {h : Heap} {m : Str → Option Value} (R : LawAt w G0 c d [] st h) (F : Fr G0 c.L h m) : ∀ q ∈ c.a.log :: c.due :: c.L :: 78 :: ([] ++ st.map (·.1)), ∃ o, h.get? q = some o ∧ NT o := by
  intro q hq
  simp only [List.nil_append, List.mem_cons] at hq
  rcases hq with rfl | rfl | rfl | rfl | hq
  · exact ⟨_, R.log, .of_cls (by simp)⟩
  · exact ⟨_, R.due, .of_cls (by simp)⟩
  · exact NT.frame F.ns
  · obtain ⟨ps, e⟩ := R.t78
    exact ⟨_, e, .of_cls (by simp)⟩
  · obtain ⟨p, hp, rfl⟩ := List.mem_map.mp hq
    exact ⟨_, R.st' p hp⟩
/-- a step that changes the bus, its table, the functions' tables and kept alone -/
theorem LawAt.upd {w : World} {G0 : Heap} {c : LC} {d d' : LD} {st : List (Addr × Obj)} {h h' : Heap} {m : Str → Option Value} {mu : List Addr} (R : LawAt w G0 c d [] st h) (F : Fr G0 c.L h m) (x : Ext mu h h') (hmu : ∀ q ∈ mu, q ∈ d.trk c ∨ q ∈ c.own)
    (e : d'.vs = d.vs ∧ d'.nl = d.nl ∧ d'.vd = d.vd ∧ d'.nd = d.nd ∧ d'.e1 = d.e1 ∧ d'.e2 = d.e2) (k : d.J.StaysIn d'.J) (kJ' : d'.J.StaysIn h') (nn : ∀ q, d.J.get? q = none → (∃ o, h.get? q = some o ∧ NT o) → d'.J.get? q = none)
    (add' : d'.AddAt w G0 c h') (fresh : ∀ q ∈ d'.trk c, q ∈ d.trk c ∨ ∀ o, h.get? q ≠ some o) (dr1 : Drawn d'.ls) (dr2 : Drawn d'.kl) (xl : d'.xs.length ≤ 3 * d'.ls.length) : LawAt w G0 c d' [] st h' ∧ Fr G0 c.L h' m := by
  obtain ⟨v1, v2, v3, v4, v5, v6⟩ := e
  have keep : ∀ q ∈ c.a.log :: c.due :: c.L :: 78 :: ([] ++ st.map (·.1)), q ∉ mu := fun q hq z => (hmu q z).elim (R.ap q hq).t (R.ap q hq).o
  refine ⟨⟨add', kJ', R.cl.keeps k, ?_, ?_, ?_, ?_, dr1, dr2, xl, fun q hq => ⟨(R.ap q hq).g, nn q (R.ap q hq).j (R.held F q hq), fun z => ?_, (R.ap q hq).o⟩, R.nd, R.h42, ?_, fun p hp => ⟨x _ _ (R.st' p hp).1 (keep _ ?_), (R.st' p hp).2⟩⟩, fr_ext F x (keep _ (by simp)) (fun q hq => ?_)⟩
  · rw [v1, v2]; exact x _ _ R.log (keep _ (by simp))
  · rw [v3, v4]; exact x _ _ R.due (keep _ (by simp))
  · rw [v1, v5]; exact R.n1.mono fun v e z => z.keeps k
  · rw [v3, v6]; exact R.n2.mono fun v e z => z.keeps k
  · rcases fresh q z with z | z
    · exact (R.ap q hq).t z
    · obtain ⟨o, ho, _⟩ := R.held F q hq
      exact z o ho
  · obtain ⟨ps, e⟩ := R.t78
    exact ⟨ps, x _ _ e (keep _ (by simp))⟩
  · simp only [List.nil_append, List.mem_cons]
    exact .inr (.inr (.inr (.inr (List.mem_map_of_mem hp))))
  · rcases hmu q hq with z | z
    · exact (R.add.reg.none0 q z).1
    · exact (R.add.none1 q z).1
/-- objects apart alone change -/
theorem LawAt.move {w : World} {G0 : Heap} {c : LC} {d : LD} {off : List Addr} {st : List (Addr × Obj)} {h h' : Heap} {mu : List Addr} (R : LawAt w G0 c d off st h) (x : Ext mu h h') (hmu : ∀ q ∈ mu, q = c.L ∨ q ∈ off) (nt : ∀ q ∈ mu, ∀ o, h.get? q = some o → o.cls = .type "tuple" → ∀ its n, o.data ≠ .seq its n) : LawAt w G0 c d off st h' := by
  have apm : ∀ q ∈ mu, Apart G0 c d q := fun q hq => R.ap q (by
    rcases hmu q hq with rfl | z
    · simp
    · simp [z])
  have nd := R.nd
  simp only [List.nodup_cons, List.mem_cons, List.mem_append, not_or] at nd
  obtain ⟨⟨a1, a2, a3, a4, a5⟩, ⟨b1, b2, b3, b4⟩, ⟨c1, c2, c3⟩, ⟨e1, e2⟩, nd⟩ := nd
  have nd2 := (List.nodup_append.mp nd).2.2
  have off1 : ∀ q, q ≠ c.L → q ∉ off → q ∉ mu := fun q h1 h2 z => (hmu q z).elim h1 h2
  have no42 : (42 : Addr) ∉ mu := fun z => by
    obtain ⟨o, e⟩ := R.h42.1
    rw [(apm _ z).g] at e; cases e
  refine ⟨R.add.move x (fun q hq z => (apm q z).t hq) (fun q hq z => (apm q z).o hq) nt no42, fun b o e => x _ _ (R.kJ _ _ e) (fun z => by rw [(apm b z).j] at e; cases e), R.cl, x _ _ R.log (off1 _ a2 a4), x _ _ R.due (off1 _ b1 b3), R.n1, R.n2, R.dr1, R.dr2, R.xl, R.ap, R.nd, R.h42, ?_, fun p hp => ⟨x _ _ (R.st' p hp).1 (off1 _ ?_ ?_), (R.st' p hp).2⟩⟩
  · obtain ⟨ps, e⟩ := R.t78
    exact ⟨ps, x _ _ e (off1 _ (fun z => c1 z.symm) e1)⟩
  · exact fun z => c3 (z ▸ List.mem_map_of_mem hp)
  · exact fun z => nd2 _ z _ (List.mem_map_of_mem hp) rfl
/-- the frame changes -/
theorem LawAt.frame {w : World} {G0 : Heap} {c : LC} {d : LD} {off : List Addr} {st : List (Addr × Obj)} {h h' : Heap} {m : Str → Option Value} (R : LawAt w G0 c d off st h) (F : Fr G0 c.L h m) (x : Ext [c.L] h h') : LawAt w G0 c d off st h' :=
  R.move x (fun q hq => .inl (by simpa using hq)) fun q hq o e _ its n z => by
    rw [List.mem_singleton] at hq
    subst hq
    obtain ⟨o', es, ep, e', hd, _⟩ := F.ns
    rw [e] at e'; cases e'; rw [z] at hd; cases hd
theorem growEnts {h : Heap} : ∀ {vs : List Value} {es : List Ent} {J : Heap}, J.StaysIn h → EntsAt h vs es → ∃ J' : Heap, J.StaysIn J' ∧ J'.StaysIn h ∧ EntsAt J' vs es ∧ ∀ b, J.get? b = none → (∃ o, h.get? b = some o ∧ NT o) → J'.get? b = none
  | _, _, J, k, .nil => ⟨J, fun _ _ e => e, k, .nil, fun _ e _ => e⟩
  | _, _, J, k, .cons (b := e) x r => by
    obtain ⟨p, nm, t1, t2, n, h1, h2, vs, m, h3, h4⟩ := x
    obtain ⟨J1, a1, a2, a3, a4⟩ := growJ [p, nm] k
    obtain ⟨J2, b1, b2, b3, b4⟩ := growEnts a2 r
    refine ⟨J2, fun _ _ e => b1 _ _ (a1 _ _ e), b2, .cons ⟨p, nm, t1, t2, n, h1, b1 _ _ (a3 p (by simp) _ h2), vs, m, b1 _ _ (a3 nm (by simp) _ h3), h4⟩ b3, fun b e0 ⟨o, ho, hn⟩ => b4 b (a4 b e0 fun z => ?_) ⟨o, ho, hn⟩⟩
    simp only [List.mem_cons, List.not_mem_nil, or_false] at z
    rcases z with rfl | rfl
    · rw [h2] at ho; cases ho; exact hn _ _ rfl
    · rw [h3] at ho; cases ho; exact hn _ _ rfl
/-- the standing heap grows -/
theorem AddIn.growS {w : World} {G0 J J' : Heap} {a : Adr} {b : Law} {hsh : Int} {tl : Tok} {nb : Nat} {vals : List Int} {xs : List (List Str × Addr × Value)} {ls kl : List Lis} {LL : List (Addr × Obj)} {ps psL psA kits : Array Value} {nk : Nat} {h : Heap}
    (x : AddIn w G0 J a b hsh tl nb vals xs ls kl LL ps psL psA kits nk h) (k : J.StaysIn J') (nn : ∀ q, J.get? q = none → (∃ o, h.get? q = some o ∧ NT o) → J'.get? q = none) : AddIn w G0 J' a b hsh tl nb vals xs ls kl LL ps psL psA kits nk h :=
  x.step (mu := []) (Ext.refl _ _) (fun _ z => nomatch z) k (fun q _ e0 ⟨o, ho⟩ hc => nn q e0 ⟨o, ho, .of_cls (hc o ho)⟩) (x.lsn.grow k) (x.tl.grow k)
/-- log or due grows -/
theorem LawAt.said {w : World} {G0 : Heap} {c : LC} {d : LD} {st : List (Addr × Obj)} {h h' : Heap} {m : Str → Option Value} {q : Addr} {vs' : List Value} {es' : List Ent} (R : LawAt w G0 c d [] st h) (F : Fr G0 c.L h m) (x : Ext [q] h h') (hq : q = c.a.log ∨ q = c.due) (hq' : ∃ o, h'.get? q = some o ∧ NT o) (hE : EntsAt h' vs' es') :
    ∃ J', d.J.StaysIn J' ∧ J'.StaysIn h' ∧ EntsAt J' vs' es' ∧ { d with J := J' }.AddAt w G0 c h' ∧ (∀ p ∈ c.a.log :: c.due :: c.L :: 78 :: ([] ++ st.map (·.1)), J'.get? p = none) ∧ Fr G0 c.L h' m := by
  have aq : Apart G0 c d q := R.ap q (by rcases hq with rfl | rfl <;> simp)
  have oq : ∃ o, h.get? q = some o ∧ o.cls = .type "list" := by
    rcases hq with rfl | rfl
    · exact ⟨_, R.log, rfl⟩
    · exact ⟨_, R.due, rfl⟩
  have nm : ∀ {b : Addr}, b ≠ q → b ∉ [q] := fun n z => n (List.mem_singleton.mp z)
  have nL : c.L ≠ q := by
    have nd := R.nd
    simp only [List.nodup_cons, List.mem_cons, not_or] at nd
    rcases hq with rfl | rfl
    · exact fun z => nd.1.2.1 z.symm
    · exact fun z => nd.2.1.1 z.symm
  have kJ : d.J.StaysIn h' := fun b o e => x _ _ (R.kJ _ _ e) (nm fun z => by rw [z, aq.j] at e; cases e)
  have F' : Fr G0 c.L h' m := fr_ext F x (nm nL) (fun b hb => by rw [List.mem_singleton.mp hb]; exact aq.g)
  have A1 : d.AddAt w G0 c h' := R.add.move x (fun b hb => nm fun z => aq.t (z ▸ hb)) (fun b hb => nm fun z => aq.o (z ▸ hb)) (fun b hb o e hc its n hd => by
    obtain ⟨o', e', c'⟩ := oq
    rw [List.mem_singleton.mp hb, e'] at e
    cases e
    rw [hc] at c'; simp at c') (nm fun z => by
    obtain ⟨o, e⟩ := R.h42.1
    rw [z, aq.g] at e; cases e)
  obtain ⟨J', a1, a2, a3, a4⟩ := growEnts kJ hE
  refine ⟨J', a1, a2, a3, A1.growS a1 a4, fun p hp => a4 p (R.ap p hp).j ?_, F'⟩
  by_cases z : p = q
  · exact z ▸ hq'
  · obtain ⟨o, e, n⟩ := R.held F p hp
    exact ⟨o, x _ _ e (nm z), n⟩
theorem LawAt.saidLog {w : World} {G0 : Heap} {c : LC} {d : LD} {st : List (Addr × Obj)} {h h' : Heap} {m : Str → Option Value} {vs' : List Value} {es' : List Ent} {n' : Nat} (R : LawAt w G0 c d [] st h) (F : Fr G0 c.L h m) (x : Ext [c.a.log] h h') (e : h'.get? c.a.log = some (W.listOf (d.vs ++ vs').toArray n')) (hE : EntsAt h' vs' es') :
    ∃ J', d.J.StaysIn J' ∧ LawAt w G0 c { d with J := J', vs := d.vs ++ vs', nl := n', e1 := d.e1 ++ es' } [] st h' ∧ Fr G0 c.L h' m := by
  obtain ⟨J', a1, a2, a3, a4, a5, a6⟩ := R.said F x (.inl rfl) ⟨_, e, .of_cls (by simp)⟩ hE
  have nd := R.nd
  simp only [List.nil_append, List.nodup_cons, List.mem_cons, not_or] at nd
  obtain ⟨⟨b1, b2, b3, b4⟩, _⟩ := nd
  have nm : ∀ {b : Addr}, c.a.log ≠ b → b ∉ [c.a.log] := fun n z => n (List.mem_singleton.mp z).symm
  refine ⟨J', a1, ⟨a4, a2, R.cl.keeps a1, e, x _ _ R.due (nm b1), (R.n1.mono fun _ _ z => z.keeps a1).append a3, R.n2.mono fun _ _ z => z.keeps a1, R.dr1, R.dr2, R.xl, fun p hp => ⟨(R.ap p hp).g, a5 p hp, (R.ap p hp).t, (R.ap p hp).o⟩, R.nd, R.h42, ?_, fun p hp => ⟨x _ _ (R.st' p hp).1 (nm fun z => b4 (z ▸ List.mem_map_of_mem hp)), (R.st' p hp).2⟩⟩, a6⟩
  obtain ⟨ps, e⟩ := R.t78
  exact ⟨ps, x _ _ e (nm b3)⟩
theorem LawAt.saidDue {w : World} {G0 : Heap} {c : LC} {d : LD} {st : List (Addr × Obj)} {h h' : Heap} {m : Str → Option Value} {vs' : List Value} {es' : List Ent} {n' : Nat} (R : LawAt w G0 c d [] st h) (F : Fr G0 c.L h m) (x : Ext [c.due] h h') (e : h'.get? c.due = some (W.listOf (d.vd ++ vs').toArray n')) (hE : EntsAt h' vs' es') :
    ∃ J', d.J.StaysIn J' ∧ LawAt w G0 c { d with J := J', vd := d.vd ++ vs', nd := n', e2 := d.e2 ++ es' } [] st h' ∧ Fr G0 c.L h' m := by
  obtain ⟨J', a1, a2, a3, a4, a5, a6⟩ := R.said F x (.inr rfl) ⟨_, e, .of_cls (by simp)⟩ hE
  have nd := R.nd
  simp only [List.nil_append, List.nodup_cons, List.mem_cons, not_or] at nd
  obtain ⟨⟨b1, _⟩, ⟨c1, c2, c3⟩, _⟩ := nd
  have nm : ∀ {b : Addr}, c.due ≠ b → b ∉ [c.due] := fun n z => n (List.mem_singleton.mp z).symm
  refine ⟨J', a1, ⟨a4, a2, R.cl.keeps a1, x _ _ R.log (nm fun z => b1 z.symm), e, R.n1.mono fun _ _ z => z.keeps a1, (R.n2.mono fun _ _ z => z.keeps a1).append a3, R.dr1, R.dr2, R.xl, fun p hp => ⟨(R.ap p hp).g, a5 p hp, (R.ap p hp).t, (R.ap p hp).o⟩, R.nd, R.h42, ?_, fun p hp => ⟨x _ _ (R.st' p hp).1 (nm fun z => c3 (z ▸ List.mem_map_of_mem hp)), (R.st' p hp).2⟩⟩, a6⟩
  obtain ⟨ps, e⟩ := R.t78
  exact ⟨ps, x _ _ e (nm c2)⟩
/-- added(number) from the law's state -/
theorem law_added {w : World} {A : Around} {s : Shared} {G0 : Heap} {c : LC} {d : LD} {st : List (Addr × Obj)} {m : Str → Option Value} {loose mean mg mb} {Q E : Value → Shared → Prop} {num : Nat} {t : Tok} {dr : Int} (X : (hd.heap_39 w.params).In G0) (T : Top topProg loose mean mg mb G0)
    (R : LawAt w G0 c d [] st s.heap) (F : Fr G0 c.L s.heap m) (hh : A.handled = none) (hdp : A.depth + 160 < recursionLimit) (hu : A.units + 200 < cLine) (hdr : c.vals[1 + num]? = some dr) (hvl : c.vals.length ≤ 11) (hls : d.ls.length ≤ 300) (hkl : d.kl.length ≤ 300)
    (h : ∀ h' tk gens' d', (AllBare s.gens → AllBare gens') → LawAt w G0 c d' [] st h' → Fr G0 c.L h' m → d'.ls = d.ls ++ [drawnLis dr num] → d'.kl = d.kl ++ [drawnLis dr num] → d'.e1 = d.e1 → d'.e2 = d.e2 → Q .none { s with heap := h', toks := tk, gens := gens' }) :
    wpAny (model prg w) A (call (.ref c.b.fa) [.int num t]) Q E s := by
  have hxl := R.xl
  refine added X T (F.keep) R.add R.kJ hh hdp hu hdr hvl (by omega) (by omega) (by omega) fun h' tk gens' J' xs' LL' ps' psL' psA' kits' nk' a1 a2 a3 a4 a5 a6 a7 a8 => ?_
  have U := R.upd (d' := { d with J := J', xs := xs', ls := d.ls ++ [drawnLis dr num], kl := d.kl ++ [drawnLis dr num], LL := LL', ps := ps', psL := psL', psA := psA', kits := kits', nk := nk' }) F a6 (fun q hq => ?_) ⟨rfl, rfl, rfl, rfl, rfl, rfl⟩ a2 a3 a4 a5 (fun q hq => ?_) (R.dr1.snoc _ _) (R.dr2.snoc _ _) ?_
  · exact h h' tk gens' _ a1 U.1 U.2 rfl rfl rfl rfl
  · simp only [List.mem_cons] at hq ⊢
    rcases hq with h | h | h | h | h | h <;> simp [h]
  · simp only [List.mem_cons] at hq
    rcases hq with h | h | h | h | h
    · exact .inl (by simp [h])
    · exact .inl (by simp [h])
    · exact .inl (by simp [h])
    · exact .inl (by simp [h])
    · exact a8 q h
  · rw [List.length_append, List.length_singleton]
    show xs'.length ≤ _
    omega
end Mine
end
section
open PySem PySem.W PySem.Calls PyProof.Rows
namespace Mine
set_option maxRecDepth 100000
set_option maxHeartbeats 2000000
theorem law_unreg {w : World} {A : Around} {s : Shared} {G0 : Heap} {c : LC} {d : LD} {st : List (Addr × Obj)} {m : Str → Option Value} {loose mean mg mb} {Q E : Value → Shared → Prop} (X : (hd.heap_39 w.params).In G0) (T : Top topProg loose mean mg mb G0)
    (R : LawAt w G0 c d [] st s.heap) (F : Fr G0 c.L s.heap m) (hh : A.handled = none) (hdp : A.depth + 160 < recursionLimit)
    (h : ∀ h' tk d', LawAt w G0 c d' [] st h' → Fr G0 c.L h' m → d'.ls = [] → d'.kl = d.kl → d'.e1 = d.e1 → d'.e2 = d.e2 → Q .none { s with heap := h', toks := tk }) :
    wpAny (model prg w) A (call (.ref 50) [.ref c.a.bus]) Q E s := by
  have b0 := R.add.reg.none0 c.a.bus (by simp)
  have d0 := R.add.reg.none0 c.a.bd (by simp)
  refine unreg (a := c.at d.D) X T F.keep R.add.reg.inst R.add.reg.dict b0.1 d0.1 hh (by omega) fun dn h' tk nb' x e1 e2 e3 e4 => ?_
  have A1 := R.add.cleared F.keep R.kJ x e1 e2 e3 e4
  have U := R.upd (d' := { d with D := dn, nb := nb', xs := [], ls := [], LL := [], ps := d.ps }) F x (fun q hq => ?_) ⟨rfl, rfl, rfl, rfl, rfl, rfl⟩ (fun _ _ e => e) (fun b o e => x _ _ (R.kJ _ _ e) fun z => ?_) (fun _ e _ => e) A1 (fun q hq => ?_) Drawn.nil R.dr2 (Nat.zero_le _)
  · exact h h' tk _ U.1 U.2 rfl rfl rfl rfl
  · rw [List.mem_singleton.mp hq]; exact .inl (by simp)
  · rw [List.mem_singleton.mp z] at e
    have := d0.2
    rw [e] at this; cases this
  · simp only [List.map_nil, List.mem_cons, List.not_mem_nil, or_false] at hq
    rcases hq with h | h | h | h
    · exact .inl (by simp [h])
    · exact .inl (by simp [h])
    · exact .inr (h ▸ e3)
    · exact .inl (by simp [h])
theorem LawAt.forgot {w : World} {G0 : Heap} {c : LC} {d : LD} {st : List (Addr × Obj)} {h h' : Heap} {m : Str → Option Value} {nk' : Nat} (R : LawAt w G0 c d [] st h) (F : Fr G0 c.L h m) (x : Ext [c.b.kp] h h') (e : h'.get? c.b.kp = some (W.listOf #[] nk')) :
    LawAt w G0 c { d with kl := [], kits := #[], nk := nk' } [] st h' ∧ Fr G0 c.L h' m := by
  have k0 := R.add.none1 c.b.kp (by simp)
  refine R.upd (d' := { d with kl := [], kits := #[], nk := nk' }) F x (fun q hq => ?_) ⟨rfl, rfl, rfl, rfl, rfl, rfl⟩ (fun _ _ e => e) (fun b o e => x _ _ (R.kJ _ _ e) fun z => ?_) (fun _ e _ => e) (R.add.forgot x e) (fun q hq => .inl hq) R.dr1 Drawn.nil R.xl
  · rw [List.mem_singleton.mp hq]; exact .inr (by simp)
  · rw [List.mem_singleton.mp z, k0.2.1] at e; cases e
theorem law_emit {w : World} {A : Around} {s : Shared} {G0 : Heap} {c : LC} {d : LD} {st : List (Addr × Obj)} {m : Str → Option Value} {loose mean mg mb} {Q E : Value → Shared → Prop} {id : Value} {name : List Str} {data : Int} {t : Tok} {r : Nat} (X : (hd.heap_39 w.params).In G0) (T : Top topProg loose mean mg mb G0)
    (R : LawAt w G0 c d [] st s.heap) (F : Fr G0 c.L s.heap m) (hid : IdAt s.heap id name) (hne : name ≠ []) (hdr : data + r = 3) (hr : 1 ≤ r) (hh : A.handled = none) (hdp : A.depth + 40 * r + 40 < recursionLimit) (hu : A.units + 100 * r + 100 < cLine) (hsz : d.e1.length + cap d.ls.length r ≤ 1000000)
    (h : ∀ h' tk d', d.J.StaysIn d'.J → LawAt w G0 c d' [] st h' → Fr G0 c.L h' m → d'.ls = d.ls → d'.kl = d.kl → d'.e1 = d.e1 ++ heard d.ls r name data → d'.e2 = d.e2 → Q .none { s with heap := h', toks := tk }) :
    wpAny (model prg w) A (call (.ref 35) [.ref c.a.bus, id, .int data t]) Q E s := by
  have lg := R.ap c.a.log (by simp)
  refine emit_law (a := c.at d.D) X T F.keep R.add R.kJ R.cl R.log ⟨lg.g, lg.j, lg.t⟩ R.dr1.ne hid hne hdr hr hh hdp hu (by rw [R.n1.length_eq]; exact hsz) fun h' tk vs' n' x e hE => ?_
  obtain ⟨J', k, U, F'⟩ := R.saidLog F x e hE
  exact h h' tk _ k U F' rfl rfl rfl rfl
theorem law_heard {w : World} {A : Around} {s : Shared} {G0 : Heap} {c : LC} {d : LD} {st : List (Addr × Obj)} {m : Str → Option Value} {loose mean mg mb} {Q E : Value → Shared → Prop} {nm : Addr} {name : List Str} {data : Int} {t : Tok} {r : Nat} (X : (hd.heap_39 w.params).In G0) (T : Top topProg loose mean mg mb G0)
    (R : LawAt w G0 c d [] st s.heap) (F : Fr G0 c.L s.heap m) (hnm : IsNm s.heap nm name) (hnl : name.length ≤ 1000) (hdr : data + r = 3) (hr : 1 ≤ r) (hh : A.handled = none) (hdp : A.depth + 40 * r + 40 < recursionLimit) (hu : A.units + 100 * r + 100 < cLine) (hsz : d.e2.length + cap d.kl.length r ≤ 1000000)
    (h : ∀ h' tk d', LawAt w G0 c d' [] st h' → Fr G0 c.L h' m → d'.ls = d.ls → d'.kl = d.kl → d'.e1 = d.e1 → d'.e2 = d.e2 ++ heard d.kl r name data → Q .none { s with heap := h', toks := tk }) :
    wpAny (model prg w) A (call (.ref 76) [.ref c.b.kp, .ref nm, .int data t, .ref c.due]) Q E s := by
  have lg := R.ap c.due (by simp)
  refine heard_law (a := c.at d.D) X T F.keep R.add R.kJ R.due ⟨lg.g, lg.j, fun z => lg.o (by simp [z])⟩ R.dr2.own hnl hnm hdr hr hh hdp hu (by rw [R.n2.length_eq]; exact hsz) fun h' tk vs' n' x e hE => ?_
  obtain ⟨J', _, U, F'⟩ := R.saidDue F x e hE
  exact h h' tk _ U F' rfl rfl rfl rfl
theorem law_ne {w : World} {A : Around} {s : Shared} {G0 : Heap} {c : LC} {d : LD} {st : List (Addr × Obj)} {Q E : Value → Shared → Prop} (R : LawAt w G0 c d [] st s.heap) (he : d.e1 = d.e2) (ok : ∀ e ∈ d.e1, ∀ k ∈ e.2.1, PyData.strOk k = true) (hu : A.units + 3 < cLine) (h : Q (.bool false) s) :
    wpAny (model prg w) A (compareOp .NotEq (.ref c.a.log) (.ref c.due)) Q E s := by
  refine ne_same R.log R.due (R.n1.mono fun _ _ z => z.keeps R.kJ) (by rw [he]; exact R.n2.mono fun _ _ z => z.keeps R.kJ) (lay_log _ ok) ?_ h
  have := depth_log d.e1
  omega
end Mine
end
section
open PySem PySem.W PySem.Calls PyProof.Rows
namespace Mine
set_option maxRecDepth 100000
set_option maxHeartbeats 4000000
set_option pp.deepTerms false
set_option pp.deepTerms.threshold 6
theorem fillme12 : (fun (_ : OpenLaw) (_ : Params → Frag) => True) PySem.Challenge.rw_bs0024_01 hd.heap_39 := by
  w_top off
  k_fill
  trivial
local macro_rules | `(tactic| walk_at "eval Name") => `(tactic| (k_here; k_dflt (refine' nameX_L ?F ?v ?_ ?k ?a ?b; (case k => rfl); (case a => rfl); (case b => rfl); (case F => k_asm); (case v => first | exact rfl | assumption); k_whole)))
local macro_rules | `(tactic| walk_at "eval Name") => `(tactic| (k_here; k_dflt (refine' nameX_C ?N ?c ?m ?d ?_ ?k ?a ?b; (case k => rfl); (case a => rfl); (case b => rfl); (case N => k_asm); (case c => rfl); (case m => k_mem); (case d => assumption); k_whole)))
structure LC.Ok (c : LC) : Prop where
  cB : c.a.cB = c.L + 1
  cC : c.b.cC = c.L + 2
  cK : c.b.cK = c.L + 3
  cLn : c.b.cLn = c.L + 4
  cL : c.a.cL = c.L + 5
  len : c.vals.length = 11
abbrev lawE (L fa : Addr) : Env := envX "law" lawScope L fa (.ref 80) [("log", L + 5), ("listener", L + 4), ("kept", L + 3), ("cells", L + 2), ("bus", L + 1)]
theorem lawE_eq (L fa : Addr) : lawEnv L fa = lawE L fa := by with_unfolding_all rfl
def for1 : Stmt := lawBody.getD 5 default
def for2 : Stmt := lawBody.getD 6 default
def forBody : Stmt → List Stmt | .For _ _ b _ _ => b | _ => []
def turnBody : List Stmt := forBody for2
def turnSt (i : Nat) : Stmt := turnBody.getD i default
/-- the state between two statements of law -/
structure Mid (w : World) (G0 : Heap) (c : LC) (off : List Addr) (st : List (Addr × Obj)) (so : Shared) (K : LD → (Str → Option Value) → Prop) (s : Shared) : Prop where
  os : s.os = so.os
  ab : AllBare s.gens
  at' : ∃ d m, LawAt w G0 c d off st s.heap ∧ Fr G0 c.L s.heap m ∧ m "added" = some (.ref c.b.fa) ∧ m "due" = some (.ref c.due) ∧ K d m
/-- what the walk is told of the state -/
theorem LawAt.ledger {w : World} {G0 : Heap} {c : LC} {d : LD} {st : List (Addr × Obj)} {h : Heap} {m : Str → Option Value} (R : LawAt w G0 c d [] st h) (F : Fr G0 c.L h m) (ok : c.Ok) :
    ∃ o1 o2 o3 o5 fd bl, News G0 c.L h ((c.L + 1, o1) :: (c.L + 2, o2) :: (c.L + 3, o3) :: (c.L + 5, o5) :: (c.b.fa, funObj fd) :: (c.a.bus, instObj 53 c.a.bd) :: (c.a.bd, dictOf (lisEntry c.hsh c.tl d.D) d.nb) :: bl) ∧
      o1.data = .cell (some (.ref c.a.bus)) ∧ o2.data = .cell (some (.ref c.b.cs)) ∧ o3.data = .cell (some (.ref c.b.kp)) ∧ o5.data = .cell (some (.ref c.a.log)) ∧ ∀ h' m', Fr G0 c.L h' m' → News G0 c.L h' bl → Ext [c.L] h h' ∧ LawAt w G0 c d [] st h' := by
  obtain ⟨o1, e1, d1⟩ := ok.cB ▸ R.add.cB
  obtain ⟨o2, e2, d2⟩ := ok.cC ▸ R.add.cC
  obtain ⟨o3, e3, d3⟩ := ok.cK ▸ R.add.cK
  obtain ⟨o5, e5, d5⟩ := ok.cL ▸ R.cl
  obtain ⟨doc, pm, ct, ef⟩ := R.add.fn
  obtain ⟨bl, Nb, kb⟩ := bigLedger F
  have gn : ∀ {q : Addr}, c.L < q → G0.get? q = none := fun {q} lt => by
    cases e : G0.get? q with
    | none => rfl
    | some o => exact absurd (Nat.lt_of_lt_of_le (Heap.lt_size e) F.above) (Nat.not_lt.mpr (Nat.le_of_lt lt))
  have aL := R.ap c.L (by simp)
  have lt : ∀ i, c.L < c.L + (i + 1) := fun i => Nat.lt_add_of_pos_right (Nat.succ_pos i)
  have b0 := R.add.reg.none0 c.a.bus (by simp)
  have d0 := R.add.reg.none0 c.a.bd (by simp)
  refine ⟨o1, o2, o3, o5, fnX "added" addQual addParams addBody addScope [("listener", c.b.cLn), ("kept", c.b.cK), ("cells", c.b.cC), ("bus", c.a.cB)] .none .none doc pm none (.ref c.b.ca) ct, bl, ?_, d1, d2, d3, d5, fun h' m' F' N' => ?_⟩
  case refine_2 =>
    have x : Ext [c.L] h h' := fun b o e n => kb h' m' F' N' b o (fun z => n (List.mem_singleton.mpr z)) e
    exact ⟨x, R.frame F x⟩
  intro p hp
  simp only [List.mem_cons] at hp
  rcases hp with rfl | rfl | rfl | rfl | rfl | rfl | rfl | hp
  · exact ⟨R.kJ _ _ e1, Nat.ne_of_gt (lt 0), gn (lt 0)⟩
  · exact ⟨R.kJ _ _ e2, Nat.ne_of_gt (lt 1), gn (lt 1)⟩
  · exact ⟨R.kJ _ _ e3, Nat.ne_of_gt (lt 2), gn (lt 2)⟩
  · exact ⟨R.kJ _ _ e5, Nat.ne_of_gt (lt 4), gn (lt 4)⟩
  · refine ⟨R.kJ _ _ ef, fun z => ?_, R.h42.2⟩
    have z' : c.b.fa = c.L := z
    rw [z', aL.j] at ef
    cases ef
  · exact ⟨R.add.reg.inst, fun z => aL.t (by simp [← (show c.a.bus = c.L from z)]), b0.1⟩
  · exact ⟨R.add.reg.dict, fun z => aL.t (by simp [← (show c.a.bd = c.L from z)]), d0.1⟩
  · exact Nb p hp
theorem fnAt_N {g h : Heap} {L q : Addr} {fd : FuncData} {news : List (Addr × Obj)} (N : News g L h news) (hm : (q, funObj fd) ∈ news) : FnAt q h := ⟨_, _, fd, _, (N _ hm).1⟩
local macro_rules | `(tactic| walk_at "callWith ref") => `(tactic| (k_here; k_dflt (refine' callWith_F ?k1 ?_; (case k1 => exact fnAt_N (by k_asm) (by k_mem)); k_whole)))
local macro_rules | `(tactic| walk_at "FnAt") => `(tactic| (k_here; k_dflt (exact fnAt_N (by k_asm) (by k_mem))))
/-- cells[i] -/
theorem cell_item {w : World} {A : Around} {s : Shared} {G0 : Heap} {c : LC} {d : LD} {off : List Addr} {st : List (Addr × Obj)} {E : Value → Shared → Prop} {Q : Value → Shared → Prop} {e1 e2 : Expr} {i : Int} {t : Tok} {n : Nat} {dr : Int} (R : LawAt w G0 c d off st s.heap) (hi : i = n) (hn : n < 1000) (hdr : c.vals[n]? = some dr) (h : ∀ t9, Q (.int dr t9) s)
    (hs : subscripted e2 false (.ref c.b.cs) (.int i t) = operate [.ref c.b.cs, .int i t] (getItem (.ref c.b.cs) (.int i t)) := by with_unfolding_all rfl) (ht : ∀ r, letTemporaryGo e1 (.ref c.b.cs) r = pure () := by intro _; with_unfolding_all rfl) : wpAny (model prg w) A (subscriptTail e1 e2 (.ref c.b.cs) (.int i t)) Q E s := by
  obtain ⟨its, nc, hcs, hvals⟩ := R.add.cells
  obtain ⟨dv, hdv, t9, rfl⟩ := hvals.get' hdr
  have e9 := R.kJ _ _ hcs
  subst hi
  exact subscriptTail_builtin (T := "list") ⟨_, e9, rfl⟩ slot_list_getitem.lookup (wpAny_getItem_list ⟨_, e9, rfl, nc, rfl⟩ (by omega) (by omega) (x := .int dr t9) (by rw [← Array.getElem?_toList, Int.toNat_natCast]; exact hdv) (h t9)) hs ht
/-- draw = cells[6 + k] -/
theorem turn0 {w : World} {A : Around} {s so : Shared} {G0 : Heap} {c : LC} {st : List (Addr × Obj)} {loose mean mg mb} {E : Value → Shared → Prop} {fa : Addr} {k : Nat} {t : Tok} {dr : Int} {KD : LD → Prop} (X : (hd.heap_39 w.params).In G0) (T : Top topProg loose mean mg mb G0) (ok : c.Ok) (hh : A.handled = none) (hdp : A.depth + 200 < recursionLimit) (hu : A.units + 600 < cLine)
    (hk : k ≤ 4) (hdr : c.vals[6 + k]? = some dr) (S : Mid w G0 c [] st so (fun d m => KD d ∧ m "k" = some (.int k t)) s) :
    wpAny (model prg w) A (exec (turnSt 0) (lawE c.L fa)) (NextP (Mid w G0 c [] st so fun d m => KD d ∧ m "k" = some (.int k t) ∧ ∃ t', m "draw" = some (.int dr t'))) E s := by
  obtain ⟨os, ab, d, m, R, F, m1, m2, kd, m3⟩ := S
  obtain ⟨o1, o2, o3, o5, fd, bl, N, d1, d2, d3, d5, kb⟩ := R.ledger F ok
  have X' := X
  have T' := T
  unfold lawE
  conv in (occs := *) turnSt 0 => all_goals whnf
  conv in (occs := *) lawScope => all_goals whnf
  try dsimp only
  k_steps
  refine cell_item R (n := 6 + k) (by omega) (by omega) hdr fun t9 => ?_
  dsimp only
  k_steps
  rename Fr _ _ _ _ => F9
  rename News _ _ _ _ => N9
  have x9 := kb _ _ F9 fun p hp => N9 p (by simp [hp])
  exact ⟨rfl, os, ab, d, _, x9.2, F9, m1, m2, kd, m3, t9, rfl⟩
end Mine
end
section
open PySem PySem.W PySem.Calls PyProof.Rows
namespace Mine
local macro_rules | `(tactic| walk_at "no key") => `(tactic| skip)
local macro_rules | `(tactic| walk_at "no key") => `(tactic| skip)
local macro_rules | `(tactic| walk_at "no key") => `(tactic| skip)
local macro_rules | `(tactic| walk_at "no key") => `(tactic| skip)
local macro_rules | `(tactic| walk_at "no key") => `(tactic| skip)
set_option maxRecDepth 100000
set_option maxHeartbeats 4000000
set_option pp.deepTerms false
set_option pp.deepTerms.threshold 6
theorem fillme13 : (fun (_ : OpenLaw) (_ : Params → Frag) => True) PySem.Challenge.rw_bs0024_01 hd.heap_39 := by
  w_top off
  k_fill
  trivial
local macro_rules | `(tactic| walk_at "eval Name") => `(tactic| (k_here; k_dflt (refine' nameX_L ?F ?v ?_ ?k ?a ?b; (case k => rfl); (case a => rfl); (case b => rfl); (case F => k_asm); (case v => first | exact rfl | assumption); k_whole)))
local macro_rules | `(tactic| walk_at "eval Name") => `(tactic| (k_here; k_dflt (refine' nameX_C ?N ?c ?m ?d ?_ ?k ?a ?b; (case k => rfl); (case a => rfl); (case b => rfl); (case N => k_asm); (case c => rfl); (case m => k_mem); (case d => assumption); k_whole)))
local macro_rules | `(tactic| walk_at "callWith ref") => `(tactic| (k_here; k_dflt (refine' callWith_F ?k1 ?_; (case k1 => exact fnAt_N (by k_asm) (by k_mem)); k_whole)))
local macro_rules | `(tactic| walk_at "FnAt") => `(tactic| (k_here; k_dflt (exact fnAt_N (by k_asm) (by k_mem))))
/-- an address apart whose object is known now -/
theorem LawAt.pin {w : World} {G0 : Heap} {c : LC} {d : LD} {I : Addr} {oI : Obj} {st : List (Addr × Obj)} {h : Heap} (R : LawAt w G0 c d [I] st h) (e : h.get? I = some oI) (n : NT oI) : LawAt w G0 c d [] ((I, oI) :: st) h :=
  ⟨R.add, R.kJ, R.cl, R.log, R.due, R.n1, R.n2, R.dr1, R.dr2, R.xl, R.ap, R.nd, R.h42, R.t78, fun p hp => by
    rcases List.mem_cons.mp hp with rfl | hp
    · exact ⟨e, n⟩
    · exact R.st' p hp⟩
theorem LawAt.unpin {w : World} {G0 : Heap} {c : LC} {d : LD} {I : Addr} {oI : Obj} {st : List (Addr × Obj)} {h : Heap} (R : LawAt w G0 c d [] ((I, oI) :: st) h) : LawAt w G0 c d [I] st h ∧ h.get? I = some oI :=
  ⟨⟨R.add, R.kJ, R.cl, R.log, R.due, R.n1, R.n2, R.dr1, R.dr2, R.xl, R.ap, R.nd, R.h42, R.t78, fun p hp => R.st' p (.tail _ hp)⟩, (R.st' _ (.head _)).1⟩
theorem Mid.moveI {w : World} {G0 : Heap} {c : LC} {I : Addr} {oI : Obj} {st : List (Addr × Obj)} {so : Shared} {K : LD → (Str → Option Value) → Prop} {s : Shared} {h' : Heap} {tk : Nat} (M : Mid w G0 c [I] st so K s) (e : s.heap.get? I = some oI) (hc : oI.cls = .type "range_iterator") (x : Ext [I] s.heap h') : Mid w G0 c [I] st so K { s with heap := h', toks := tk } := by
  obtain ⟨os, ab, d, m, R, F, r⟩ := M
  have nd := R.nd
  simp only [List.nodup_cons, List.mem_cons, List.mem_append, not_or] at nd
  refine ⟨os, ab, d, m, R.move x (fun q hq => .inr hq) (fun q hq o z hc' => ?_), fr_ext F x (by simpa using nd.2.2.1.2.1) (fun q hq => (R.ap q ?_).g), r⟩
  · rw [List.mem_singleton.mp hq, e] at z
    cases z
    rw [hc] at hc'; simp at hc'
  · rw [List.mem_singleton.mp hq]; simp
def KA (b : Nat) (e1 e2 : List Ent) (ok od : Option Value) (d : LD) (m : Str → Option Value) : Prop := d.kl = d.ls ∧ d.ls.length ≤ b ∧ d.e1 = e1 ∧ d.e2 = e2 ∧ m "k" = ok ∧ m "draw" = od
/-- for number in range(n): added(number) -/
theorem addLoop {w : World} {A : Around} {s so : Shared} {G0 : Heap} {c : LC} {st : List (Addr × Obj)} {loose mean mg mb} {fa I : Addr} {n b : Nat} {e1 e2 : List Ent} {ok od : Option Value} {px p1 p2 p3 p4 : Pos} {R : Result → Shared → Prop} (X : (hd.heap_39 w.params).In G0) (T : Top topProg loose mean mg mb G0) (ok' : c.Ok) (hh : A.handled = none) (hdp : A.depth + 200 < recursionLimit) (hu : A.units + 600 < cLine)
    (hn : n ≤ 5) (hb : b ≤ 100) (S : Mid w G0 c [I] st so (KA b e1 e2 ok od) s) (it : IsRangeIter s.heap I 0 n 1) (fin : ∀ s, Mid w G0 c [I] st so (KA (b + n) e1 e2 ok od) s → R (.ok .next) s) :
    codeAny (model prg w) A (.forLoop (.Name "number" px) (.ref I) [.Expr (.Call (.Name "added" p1) [.Name "number" p2] [] p3) p4] [] (lawE c.L fa)) R s := by
  refine loopR (n := n) (a := 0) hh (fun i s => Mid w G0 c [I] st so (KA (b + i) e1 e2 ok od) s) (fun i s h' tk oI p e hc x => p.moveI e hc x) ?turn fin S it
  case turn =>
    rintro i s t oI hi ⟨os, ab, d, m, R, F, m1, m2, k1, k2, k3, k4, k5, k6⟩ eI hcI
    have R1 := R.pin eI (.of_cls (by rw [hcI]; simp))
    clear R
    obtain ⟨o1, o2, o3, o5, fd, bl, N, d1, d2, d3, d5, kb⟩ := R1.ledger F ok'
    have X' := X
    have T' := T
    unfold lawE
    conv in (occs := *) lawScope => all_goals whnf
    k_steps
    rename Fr _ _ _ _ => F9
    rename News _ _ _ _ => N9
    have R9 := (kb _ _ F9 fun p hp => N9 p (by simp [hp])).2
    have hlen := ok'.len
    obtain ⟨dr, hdr⟩ : ∃ dr, c.vals[1 + i]? = some dr := ⟨_, List.getElem?_eq_getElem (by omega)⟩
    rw [Int.zero_add]
    refine law_added (m := _) X T R9 F9 hh (by omega) (by omega) hdr (by omega) (by omega) (by rw [k1]; omega) fun h' tk gens' d' a1 a2 a3 a4 a5 a6 a7 => ?_
    refine wpAny_execs_nil ?_
    obtain ⟨U, eI'⟩ := a2.unpin
    refine ⟨rfl, ⟨os, a1 ab, d', _, U, a3, m1, m2, by rw [a4, a5, k1], ?_, a6.trans k3, a7.trans k4, k5, k6⟩, eI'⟩
    rw [a4, List.length_append, List.length_singleton]
    omega
end Mine
end
section
open PySem PySem.W PySem.Calls PyProof.Rows
namespace Mine
set_option maxRecDepth 100000
set_option maxHeartbeats 4000000
set_option pp.deepTerms false
set_option pp.deepTerms.threshold 6
theorem fillme14 : (fun (_ : OpenLaw) (_ : Params → Frag) => True) PySem.Challenge.rw_bs0024_01 hd.heap_39 := by
  w_top off
  k_fill
  trivial
local macro_rules | `(tactic| walk_at "eval Name") => `(tactic| (k_here; k_dflt (refine' nameX_L ?F ?v ?_ ?k ?a ?b; (case k => rfl); (case a => rfl); (case b => rfl); (case F => k_asm); (case v => first | exact rfl | assumption); k_whole)))
local macro_rules | `(tactic| walk_at "eval Name") => `(tactic| (k_here; k_dflt (refine' nameX_C ?N ?c ?m ?d ?_ ?k ?a ?b; (case k => rfl); (case a => rfl); (case b => rfl); (case N => k_asm); (case c => rfl); (case m => k_mem); (case d => assumption); k_whole)))
/-- what is tracked stands in the heap -/
theorem LawAt.stands {w : World} {G0 : Heap} {c : LC} {d : LD} {st : List (Addr × Obj)} {h : Heap} {m : Str → Option Value} (R : LawAt w G0 c d [] st h) (F : Fr G0 c.L h m) : (∀ q ∈ d.trk c, ∃ o, h.get? q = some o) ∧ (∀ q ∈ c.own, ∃ o, h.get? q = some o) ∧ ∀ q ∈ c.a.log :: c.due :: c.L :: 78 :: ([] ++ st.map (·.1)), ∃ o, h.get? q = some o := by
  refine ⟨fun q hq => ?_, fun q hq => ?_, fun q hq => let ⟨o, e, _⟩ := R.held F q hq; ⟨o, e⟩⟩
  · simp only [List.mem_cons] at hq
    rcases hq with rfl | rfl | rfl | rfl | hq
    · exact ⟨_, R.add.reg.inst⟩
    · exact ⟨_, R.add.reg.dict⟩
    · obtain ⟨o, _, _, e, _⟩ := R.add.reg.tab
      exact ⟨o, e⟩
    · exact ⟨_, R.add.reg.code.2.2⟩
    · obtain ⟨p, hp, rfl⟩ := List.mem_map.mp hq
      exact ⟨_, R.add.reg.at' p hp⟩
  · simp only [List.mem_cons, List.not_mem_nil, or_false] at hq
    rcases hq with rfl | rfl | rfl
    · exact ⟨_, R.add.kept⟩
    · exact ⟨_, R.add.lsn.tl.tab⟩
    · exact ⟨_, R.add.tl.tab⟩
/-- a new address comes apart -/
theorem LawAt.offI {w : World} {G0 : Heap} {c : LC} {d : LD} {st : List (Addr × Obj)} {h h' : Heap} {m : Str → Option Value} {I : Addr} (R : LawAt w G0 c d [] st h) (F : Fr G0 c.L h m) (x : Ext [] h h') (hI : ∀ o, h.get? I ≠ some o) : LawAt w G0 c d [I] st h' ∧ Fr G0 c.L h' m := by
  have R' := R.move x (fun _ z => nomatch z) (fun _ z => nomatch z)
  obtain ⟨s1, s2, s3⟩ := R.stands F
  have no : ∀ {q : Addr}, (∃ o, h.get? q = some o) → q ≠ I := fun ⟨o, e⟩ z => hI o (z ▸ e)
  have none' : ∀ {H : Heap}, H.StaysIn h → H.get? I = none := fun {H} k => by
    cases e : H.get? I with
    | none => rfl
    | some o => exact absurd (k _ _ e) (hI o)
  refine ⟨⟨R'.add, R'.kJ, R'.cl, R'.log, R'.due, R'.n1, R'.n2, R'.dr1, R'.dr2, R'.xl, fun q hq => ?_, ?_, R'.h42, R'.t78, R'.st'⟩, fr_keep F x⟩
  · by_cases z : q = I
    · subst z
      exact ⟨none' F.keep, none' R.kJ, fun z => no (s1 _ z) rfl, fun z => no (s2 _ z) rfl⟩
    · refine R.ap q ?_
      simp only [List.cons_append, List.nil_append, List.mem_cons] at hq ⊢
      rcases hq with h | h | h | h | h | h
      · simp [h]
      · simp [h]
      · simp [h]
      · simp [h]
      · exact absurd h z
      · simp [h]
  · have nd := R.nd
    simp only [List.nil_append, List.cons_append, List.nodup_cons, List.mem_cons, not_or] at nd s3 ⊢
    obtain ⟨⟨a1, a2, a3, a4⟩, ⟨b1, b2, b3⟩, ⟨c1, c2⟩, e1, nd⟩ := nd
    exact ⟨⟨a1, a2, a3, no (s3 _ (by simp)), a4⟩, ⟨b1, b2, no (s3 _ (by simp)), b3⟩, ⟨c1, no (s3 _ (by simp)), c2⟩, ⟨no (s3 _ (by simp)), e1⟩, fun z => no (s3 I (by simp [z])) rfl, nd⟩
/-- it is forgotten -/
theorem LawAt.drop {w : World} {G0 : Heap} {c : LC} {d : LD} {st : List (Addr × Obj)} {h : Heap} {I : Addr} (R : LawAt w G0 c d [I] st h) : LawAt w G0 c d [] st h := by
  refine ⟨R.add, R.kJ, R.cl, R.log, R.due, R.n1, R.n2, R.dr1, R.dr2, R.xl, fun q hq => R.ap q ?_, ?_, R.h42, R.t78, R.st'⟩
  · simp only [List.cons_append, List.nil_append, List.mem_cons] at hq ⊢
    rcases hq with h | h | h | h | h <;> simp [h]
  · have nd := R.nd
    simp only [List.nil_append, List.cons_append, List.nodup_cons, List.mem_cons, not_or] at nd ⊢
    obtain ⟨⟨a1, a2, a3, a5, a4⟩, ⟨b1, b2, b5, b3⟩, ⟨c1, c5, c2⟩, ⟨e5, e1⟩, _, nd⟩ := nd
    exact ⟨⟨a1, a2, a3, a4⟩, ⟨b1, b2, b3⟩, ⟨c1, c2⟩, e1, nd⟩
theorem Mid.drop {w : World} {G0 : Heap} {c : LC} {I : Addr} {st : List (Addr × Obj)} {so : Shared} {K : LD → (Str → Option Value) → Prop} {s : Shared} (M : Mid w G0 c [I] st so K s) : Mid w G0 c [] st so K s :=
  ⟨M.os, M.ab, let ⟨d, m, R, r⟩ := M.at'; ⟨d, m, R.drop, r⟩⟩
/-- the first loop -/
theorem loop1 {w : World} {A : Around} {s so : Shared} {G0 : Heap} {c : LC} {st : List (Addr × Obj)} {loose mean mg mb} {E : Value → Shared → Prop} {fa : Addr} {e1 e2 : List Ent} {ok od : Option Value} (X : (hd.heap_39 w.params).In G0) (T : Top topProg loose mean mg mb G0) (ok' : c.Ok) (hh : A.handled = none) (hdp : A.depth + 200 < recursionLimit) (hu : A.units + 600 < cLine)
    (S : Mid w G0 c [] st so (KA 0 e1 e2 ok od) s) : wpAny (model prg w) A (exec for1 (lawE c.L fa)) (NextP (Mid w G0 c [] st so (KA 5 e1 e2 ok od))) E s := by
  obtain ⟨os, ab, d, m, R, F, m1, m2, k1, k2, k3, k4, k5, k6⟩ := S
  obtain ⟨o1, o2, o3, o5, fd, bl, N, d1, d2, d3, d5, kb⟩ := R.ledger F ok'
  have X' := X
  have T' := T
  have hlen := ok'.len
  obtain ⟨dr, hdr⟩ : ∃ dr, c.vals[0]? = some dr := ⟨_, List.getElem?_eq_getElem (by omega)⟩
  unfold lawE
  conv in (occs := *) for1 => all_goals whnf
  conv in (occs := *) lawScope => all_goals whnf
  refine wpAny_For ?_ (fun _ => rfl)
  k_steps
  refine cell_item R (n := 0) (by omega) (by omega) hdr fun t9 => ?_
  obtain ⟨dr0, dr1⟩ := R.add.range dr (List.mem_of_getElem? hdr)
  dsimp only
  k_steps
  rename IsRange _ _ _ _ _ _ _ _ => rg
  rename Fr _ _ _ _ => F9
  rename News _ _ _ _ => N9
  have f0 := Int.fmod_nonneg_of_pos dr (by decide : (0:Int) < 5)
  have f1 := Int.fmod_lt_of_pos dr (by decide : (0:Int) < 5)
  have R9 := (kb _ _ F9 fun p hp => N9 p (by simp [hp])).2
  refine wpAny_pyIter_range rg (small_one (by omega) (by omega) (by omega) (by omega)) ?_
  rw [rangeSize_nat]
  obtain ⟨U, F10⟩ := R9.offI F9 (.of_keep fun b o e => Heap.get?_push_of_some { cls := .type "range_iterator", data := .fields #[rawInt 0, rawInt (((1 + dr.fmod 5 - 0).toNat : Nat) : Int), rawInt 1] } e) (I := Array.size (Heap.objs _)) (fun o e => absurd (Heap.lt_size e) (Nat.lt_irrefl _))
  refine addLoop (n := (1 + dr.fmod 5 - 0).toNat) (b := 0) X T ok' hh (by omega) (by omega) (by omega) (by omega) ⟨os, ab, d, m, U, F10, m1, m2, k1, k2, k3, k4, k5, k6⟩ (Heap.get?_push_size _ rfl) fun s' S' => ?_
  obtain ⟨os', ab', d', m', R', F', n1, n2, j1, j2, j3⟩ := S'.drop
  exact ⟨rfl, os', ab', d', m', R', F', n1, n2, j1, by omega, j3⟩
end Mine
end
section
open PySem PySem.W PySem.Calls PyProof.Rows
namespace Mine
local macro_rules | `(tactic| walk_at "no key") => `(tactic| skip)
local macro_rules | `(tactic| walk_at "no key") => `(tactic| skip)
local macro_rules | `(tactic| walk_at "no key") => `(tactic| skip)
set_option maxRecDepth 100000
set_option maxHeartbeats 4000000
set_option pp.deepTerms false
set_option pp.deepTerms.threshold 6
theorem fillme15 : (fun (_ : OpenLaw) (_ : Params → Frag) => True) PySem.Challenge.rw_bs0024_01 hd.heap_39 := by
  w_top off
  k_fill
  trivial
local macro_rules | `(tactic| walk_at "eval Name") => `(tactic| (k_here; k_dflt (refine' nameX_L ?F ?v ?_ ?k ?a ?b; (case k => rfl); (case a => rfl); (case b => rfl); (case F => k_asm); (case v => first | exact rfl | assumption); k_whole)))
local macro_rules | `(tactic| walk_at "eval Name") => `(tactic| (k_here; k_dflt (refine' nameX_C ?N ?c ?m ?d ?_ ?k ?a ?b; (case k => rfl); (case a => rfl); (case b => rfl); (case N => k_asm); (case c => rfl); (case m => k_mem); (case d => assumption); k_whole)))
local macro_rules | `(tactic| walk_at "callWith ref") => `(tactic| (k_here; k_dflt (refine' callWith_F ?k1 ?_; (case k1 => exact fnAt_N (by k_asm) (by k_mem)); k_whole)))
local macro_rules | `(tactic| walk_at "FnAt") => `(tactic| (k_here; k_dflt (exact fnAt_N (by k_asm) (by k_mem))))
/-- if draw // 100 % 4 == 2 and k == cells[0] // 5 % 5: added(0) -/
theorem turn2 {w : World} {A : Around} {s so : Shared} {G0 : Heap} {c : LC} {st : List (Addr × Obj)} {loose mean mg mb} {E : Value → Shared → Prop} {fa : Addr} {k : Nat} {t t0 : Tok} {dr : Int} {e1 e2 : List Ent} {b : Nat} (X : (hd.heap_39 w.params).In G0) (T : Top topProg loose mean mg mb G0) (ok : c.Ok) (hh : A.handled = none) (hdp : A.depth + 200 < recursionLimit) (hu : A.units + 600 < cLine)
    (hk : k ≤ 4) (hb : b ≤ 100) (dr0 : 0 ≤ dr) (dr1 : dr < 1000000) (S : Mid w G0 c [] st so (KA b e1 e2 (some (.int k t)) (some (.int dr t0))) s) :
    wpAny (model prg w) A (exec (turnSt 2) (lawE c.L fa)) (NextP (Mid w G0 c [] st so (KA (b + 1) e1 e2 (some (.int k t)) (some (.int dr t0))))) E s := by
  obtain ⟨os, ab, d, m, R, F, m1, m2, k1, k2, k3, k4, k5, k6⟩ := S
  obtain ⟨o1, o2, o3, o5, fd, bl, N, d1, d2, d3, d5, kb⟩ := R.ledger F ok
  have X' := X
  have T' := T
  have hlen := ok.len
  obtain ⟨d0, hd0⟩ : ∃ dr, c.vals[0]? = some dr := ⟨_, List.getElem?_eq_getElem (by omega)⟩
  obtain ⟨d00, d01⟩ := R.add.range d0 (List.mem_of_getElem? hd0)
  obtain ⟨d1', hd1⟩ : ∃ dr, c.vals[1 + 0]? = some dr := ⟨_, List.getElem?_eq_getElem (by omega)⟩
  unfold lawE
  conv in (occs := *) turnSt 2 => all_goals whnf
  conv in (occs := *) lawScope => all_goals whnf
  k_steps
  · refine cell_item R (n := 0) (by omega) (by omega) hd0 fun t9 => ?_
    dsimp only
    k_steps
    · have R9 := R
      refine law_added (num := 0) X T R9 F hh (by omega) (by omega) hd1 (by omega) (by omega) (by rw [k1]; omega) fun h' tk gens' d' a1 a2 a3 a4 a5 a6 a7 => ?_
      refine wpAny_execs_nil ?_
      refine ⟨rfl, os, a1 ab, d', _, a2, a3, m1, m2, by rw [a4, a5, k1], ?_, a6.trans k3, a7.trans k4, k5, k6⟩
      rw [a4, List.length_append, List.length_singleton]
      omega
    · exact ⟨rfl, os, ab, d, m, R, F, m1, m2, k1, Nat.le_succ_of_le k2, k3, k4, k5, k6⟩
  · exact ⟨rfl, os, ab, d, m, R, F, m1, m2, k1, Nat.le_succ_of_le k2, k3, k4, k5, k6⟩
end Mine
end
section
open PySem PySem.W PySem.Calls PyProof.Rows
namespace Mine
set_option maxRecDepth 100000
set_option maxHeartbeats 4000000
set_option pp.deepTerms false
set_option pp.deepTerms.threshold 6
theorem fillme16 : (fun (_ : OpenLaw) (_ : Params → Frag) => True) PySem.Challenge.rw_bs0024_01 hd.heap_39 := by
  w_top off
  k_fill
  trivial
local macro_rules | `(tactic| walk_at "eval Name") => `(tactic| (k_here; k_dflt (refine' nameX_L ?F ?v ?_ ?k ?a ?b; (case k => rfl); (case a => rfl); (case b => rfl); (case F => k_asm); (case v => first | exact rfl | assumption); k_whole)))
local macro_rules | `(tactic| walk_at "eval Name") => `(tactic| (k_here; k_dflt (refine' nameX_C ?N ?c ?m ?d ?_ ?k ?a ?b; (case k => rfl); (case a => rfl); (case b => rfl); (case N => k_asm); (case c => rfl); (case m => k_mem); (case d => assumption); k_whole)))
local macro_rules | `(tactic| walk_at "callWith ref") => `(tactic| (k_here; k_dflt (refine' callWith_F ?k1 ?_; (case k1 => exact fnAt_N (by k_asm) (by k_mem)); k_whole)))
local macro_rules | `(tactic| walk_at "FnAt") => `(tactic| (k_here; k_dflt (exact fnAt_N (by k_asm) (by k_mem))))
theorem clear_at {w : World} {A : Around} {s : Shared} {E : Value → Shared → Prop} {D : Addr} {its : Array Value} {n : Nat} {Q : Value → Shared → Prop} (ho : s.heap.get? D = some (W.listOf its n)) (hsz : its.size ≤ sizeLine) (h : ∀ h' n', Ext [D] s.heap h' → h'.get? D = some (W.listOf #[] n') → Q .none { s with heap := h' }) :
    wpAny (model prg w) A (call (.builtin "list.clear") [.ref D]) Q E s := by
  refine call_meets PySem.F.slot_list_clear ⟨_, ho, rfl⟩ PySem.F.entry_list_clear (PySem.F.args_list_clear_1 _) (PySem.AutoSeq1.list_clear_list_0 D its n hsz) ⟨ho, h _ _ (fun b o e n => (Heap.SameBut.update _ _ _).extBut b o (fun z => n (by simp [z])) e) (PySem.IsL.update ho _)⟩
/-- if draw // 100 % 4 == 3: all are taken off, some registered anew -/
theorem turn1 {w : World} {A : Around} {s so : Shared} {G0 : Heap} {c : LC} {st : List (Addr × Obj)} {loose mean mg mb} {E : Value → Shared → Prop} {fa : Addr} {k : Nat} {t t0 : Tok} {dr : Int} {e1 e2 : List Ent} {b : Nat} (X : (hd.heap_39 w.params).In G0) (T : Top topProg loose mean mg mb G0) (ok : c.Ok) (hh : A.handled = none) (hdp : A.depth + 200 < recursionLimit) (hu : A.units + 600 < cLine)
    (hb : b ≤ 100) (hb3 : 3 ≤ b) (S : Mid w G0 c [] st so (KA b e1 e2 (some (.int k t)) (some (.int dr t0))) s) :
    wpAny (model prg w) A (exec (turnSt 1) (lawE c.L fa)) (NextP (Mid w G0 c [] st so (KA b e1 e2 (some (.int k t)) (some (.int dr t0))))) E s := by
  obtain ⟨os, ab, d, m, R, F, m1, m2, k1, k2, k3, k4, k5, k6⟩ := S
  obtain ⟨o1, o2, o3, o5, fd, bl, N, d1, d2, d3, d5, kb⟩ := R.ledger F ok
  have X' := X
  have T' := T
  unfold lawE
  conv in (occs := *) turnSt 1 => all_goals whnf
  conv in (occs := *) lawScope => all_goals whnf
  k_steps
  · refine law_unreg X T R F hh (by omega) fun h2 tk2 d2' R2 F2 a1 a2 a3 a4 => ?_
    clear N F kb
    obtain ⟨o1, o2, o3, o5, fd, bl, N, d1, d2, d3, d5, kb⟩ := R2.ledger F2 ok
    dsimp only
    k_steps
    refine getMethod_builtin ⟨_, R2.add.kept, rfl⟩ PySem.F.plainAttrs_list PySem.F.slot_list_clear PySem.F.type_list_clear (fun a e => by cases e; exact ⟨_, R2.add.kept, rfl⟩) ?_
    k_steps
    have lk := R2.add.keptJ.length_eq
    refine clear_at R2.add.kept ?hsz fun h3 n3 x3 e3 => ?_
    case hsz =>
      rw [PySem.sizeLine_eq, ← Array.length_toList, lk, a2, k1]
      omega
    obtain ⟨R3, F3⟩ := R2.forgot F2 x3 e3
    clear N F2 kb
    obtain ⟨o1, o2, o3, o5, fd, bl, N, d1, d2, d3, d5, kb⟩ := R3.ledger F3 ok
    dsimp only
    k_steps
    refine wpAny_For ?_ (fun _ => rfl)
    k_steps
    rename IsRange _ _ _ _ _ _ _ _ => rg
    rename Fr _ _ _ _ => F9
    rename News _ _ _ _ => N9
    have f0 := Int.fmod_nonneg_of_pos (dr.fdiv 400) (by decide : (0:Int) < 4)
    have f1 := Int.fmod_lt_of_pos (dr.fdiv 400) (by decide : (0:Int) < 4)
    have R9 := (kb _ _ F9 fun p hp => N9 p (by simp [hp])).2
    refine wpAny_pyIter_range rg (small_one (by omega) (by omega) (by omega) (by omega)) ?_
    rw [rangeSize_nat]
    obtain ⟨U, F10⟩ := R9.offI F9 (.of_keep fun b o e => Heap.get?_push_of_some { cls := .type "range_iterator", data := .fields #[rawInt 0, rawInt ((((dr.fdiv 400).fmod 4 - 0).toNat : Nat) : Int), rawInt 1] } e) (I := Array.size (Heap.objs _)) (fun o e => absurd (Heap.lt_size e) (Nat.lt_irrefl _))
    refine addLoop (n := ((dr.fdiv 400).fmod 4 - 0).toNat) (b := 0) (e1 := e1) (e2 := e2) (ok := some (.int k t)) (od := some (.int dr t0)) X T ok hh (by omega) (by omega) (by omega) (by omega) ⟨os, ab, _, m, U, F10, m1, m2, a1.symm, by show d2'.ls.length ≤ 0; rw [a1]; exact Nat.le_refl _, a3.trans k3, a4.trans k4, k5, k6⟩ (Heap.get?_push_size _ rfl) fun s' S' => ?_
    obtain ⟨os', ab', d', m', R', F', n1, n2, j1, j2, j3⟩ := S'.drop
    refine wpAny_execs_nil ?_
    exact ⟨rfl, os', ab', d', m', R', F', n1, n2, j1, by omega, j3⟩
  · exact ⟨rfl, os, ab, d, m, R, F, m1, m2, k1, k2, k3, k4, k5, k6⟩
end Mine
end
section
open PySem PySem.W PySem.Calls PyProof.Rows
namespace Mine
set_option maxRecDepth 100000
set_option maxHeartbeats 4000000
set_option pp.deepTerms false
set_option pp.deepTerms.threshold 6
theorem fillme17 : (fun (_ : OpenLaw) (_ : Params → Frag) => True) PySem.Challenge.rw_bs0024_01 hd.heap_39 := by
  w_top off
  k_fill
  trivial
local macro_rules | `(tactic| walk_at "eval Name") => `(tactic| (k_here; k_dflt (refine' nameX_L ?F ?v ?_ ?k ?a ?b; (case k => rfl); (case a => rfl); (case b => rfl); (case F => k_asm); (case v => first | exact rfl | assumption); k_whole)))
local macro_rules | `(tactic| walk_at "eval Name") => `(tactic| (k_here; k_dflt (refine' nameX_C ?N ?c ?m ?d ?_ ?k ?a ?b; (case k => rfl); (case a => rfl); (case b => rfl); (case N => k_asm); (case c => rfl); (case m => k_mem); (case d => assumption); k_whole)))
/-- the state with the signal drawn -/
def KN (b : Nat) (e1 e2 : List Ent) (dr : Int) (d : LD) (m : Str → Option Value) : Prop :=
  d.kl = d.ls ∧ d.ls.length ≤ b ∧ d.e1 = e1 ∧ d.e2 = e2 ∧ (∃ t, m "draw" = some (.int dr t)) ∧ (∃ t, m "data" = some (.int ((dr.fdiv 30).fmod 2) t)) ∧ ∃ x, m "name" = some (.ref x) ∧ IsNm d.J x (nameOf dr)
/-- a name stands from now on -/
theorem LawAt.named {w : World} {G0 : Heap} {c : LC} {d : LD} {st : List (Addr × Obj)} {h : Heap} {m : Str → Option Value} {x : Addr} {ks : List Str} (R : LawAt w G0 c d [] st h) (F : Fr G0 c.L h m) (hx : IsNm h x ks) : ∃ J', LawAt w G0 c { d with J := J' } [] st h ∧ IsNm J' x ks := by
  obtain ⟨J', a1, a2, a3, _, a5⟩ := growNm (ans := none) (av := .none) R.kJ hx rfl
  have nn : ∀ q, d.J.get? q = none → (∃ o, h.get? q = some o ∧ NT o) → J'.get? q = none := fun q e0 ⟨o, ho, hn⟩ => a5 q e0 fun vs n z => by
    rw [ho] at z; cases z; exact hn _ _ rfl
  exact ⟨J', (R.upd (d' := { d with J := J' }) (mu := []) F (Ext.refl _ _) (fun _ z => nomatch z) ⟨rfl, rfl, rfl, rfl, rfl, rfl⟩ a1 a2 nn (R.add.growS a1 nn) (fun q hq => .inl hq) R.dr1 R.dr2 R.xl).1, a3⟩
/-- name, data = (_law_name(draw), draw // 30 % 2) -/
theorem turn3 {w : World} {A : Around} {s so : Shared} {G0 : Heap} {c : LC} {st : List (Addr × Obj)} {loose mean mg mb} {E : Value → Shared → Prop} {fa : Addr} {dr : Int} {e1 e2 : List Ent} {b : Nat} {ok : Option Value} {t0 : Tok} (X : (hd.heap_39 w.params).In G0) (T : Top topProg loose mean mg mb G0) (ok' : c.Ok) (hh : A.handled = none) (hdp : A.depth + 200 < recursionLimit) (hu : A.units + 600 < cLine)
    (dr0 : 0 ≤ dr) (dr1 : dr < 1000000) (S : Mid w G0 c [] st so (KA b e1 e2 ok (some (.int dr t0))) s) :
    wpAny (model prg w) A (exec (turnSt 3) (lawE c.L fa)) (NextP (Mid w G0 c [] st so (KN b e1 e2 dr))) E s := by
  obtain ⟨os, ab, d, m, R, F, m1, m2, k1, k2, k3, k4, k5, k6⟩ := S
  obtain ⟨o1, o2, o3, o5, fd, bl, N, d1, d2, d3, d5, kb⟩ := R.ledger F ok'
  have X' := X
  have T' := T
  unfold lawE
  conv in (occs := *) turnSt 3 => all_goals whnf
  conv in (occs := *) lawScope => all_goals whnf
  k_steps
  refine lawName X T F.keep hh (by omega) (by omega) dr0 dr1 fun x h2 tk2 e2 hx2 => ?_
  have F2 := fr_keep F e2
  obtain ⟨J2, R2, hx3⟩ := (R.move e2 (fun _ z => nomatch z) (fun _ z => nomatch z)).named F2 hx2
  clear N F kb R
  obtain ⟨o1, o2, o3, o5, fd, bl, N, d1, d2, d3, d5, kb⟩ := R2.ledger F2 ok'
  try dsimp only
  k_steps
  rename Fr _ _ _ _ => F9
  rename News _ _ _ _ => N9
  refine unpackItemsN_ F9 N9 ⟨_, N9.get (.head _), rfl, _, rfl⟩ hh rfl fun h3 F3 N3 => ?_
  clear F9 N9
  dsimp only
  k_steps
  rename Fr _ _ _ _ => F9
  rename News _ _ _ _ => N9
  have R9 := (kb _ _ F9 fun p hp => N9 p (by simp [hp])).2
  exact ⟨rfl, os, ab, _, _, R9, F9, m1, m2, k1, k2, k3, k4, ⟨t0, k6⟩, ⟨_, rfl⟩, x, rfl, hx3⟩
end Mine
end
section
open PySem PySem.W PySem.Calls PyProof.Rows
namespace Mine
local macro_rules | `(tactic| walk_at "no key") => `(tactic| skip)
local macro_rules | `(tactic| walk_at "no key") => `(tactic| skip)
local macro_rules | `(tactic| walk_at "no key") => `(tactic| skip)
set_option maxRecDepth 100000
set_option maxHeartbeats 4000000
set_option pp.deepTerms false
set_option pp.deepTerms.threshold 6
theorem fillme18 : (fun (_ : OpenLaw) (_ : Params → Frag) => True) PySem.Challenge.rw_bs0024_01 hd.heap_39 := by
  w_top off
  k_fill
  trivial
local macro_rules | `(tactic| walk_at "eval Name") => `(tactic| (k_here; k_dflt (refine' nameX_L ?F ?v ?_ ?k ?a ?b; (case k => rfl); (case a => rfl); (case b => rfl); (case F => k_asm); (case v => first | exact rfl | assumption); k_whole)))
local macro_rules | `(tactic| walk_at "eval Name") => `(tactic| (k_here; k_dflt (refine' nameX_C ?N ?c ?m ?d ?_ ?k ?a ?b; (case k => rfl); (case a => rfl); (case b => rfl); (case N => k_asm); (case c => rfl); (case m => k_mem); (case d => assumption); k_whole)))
local macro_rules | `(tactic| walk_at "call builtin:len") => `(tactic| (k_here; (with_reducible show wpAny _ _ (call _ [Value.ref _]) _ _ _); k_dflt (refine' len_nmL ?F ?N ?x ?z ?s ?_; (case F => k_asm); (case N => k_asm); (case x => with_reducible assumption); (case z => with_reducible assumption); (case s => exact fun p hp => by simp [hp]); k_whole)))
def dtOf (dr : Int) : Int := (dr.fdiv 30).fmod 2
def rOf (dr : Int) : Nat := (3 - dtOf dr).toNat
theorem dt_range (dr : Int) : 0 ≤ dtOf dr ∧ dtOf dr < 2 ∧ dtOf dr + (rOf dr : Nat) = 3 ∧ 1 ≤ rOf dr ∧ rOf dr ≤ 3 := by
  have h0 := Int.fmod_nonneg_of_pos (dr.fdiv 30) (by decide : (0:Int) < 2)
  have h1 := Int.fmod_lt_of_pos (dr.fdiv 30) (by decide : (0:Int) < 2)
  unfold rOf dtOf
  omega
theorem cap_small {n r : Nat} (hn : n ≤ 10) (hr : r ≤ 3) : cap n r ≤ 1110 :=
  (by decide +kernel : ∀ n < 11, ∀ r < 4, cap n r ≤ 1110) n (by omega) r (by omega)
/-- the entries of one signal more -/
def more (es : List Ent) (ls : List Lis) (dr : Int) : List Ent := es ++ heard ls (rOf dr) (nameOf dr) (dtOf dr)
/-- bus.emit_signal(name[0] if len(name) == 1 and draw % 2 == 0 else name, data) -/
theorem turn4 {w : World} {A : Around} {s so : Shared} {G0 : Heap} {c : LC} {st : List (Addr × Obj)} {loose mean mg mb} {E : Value → Shared → Prop} {fa : Addr} {dr : Int} {es : List Ent} {b : Nat} (X : (hd.heap_39 w.params).In G0) (T : Top topProg loose mean mg mb G0) (ok' : c.Ok) (hh : A.handled = none) (hdp : A.depth + 200 < recursionLimit) (hu : A.units + 600 < cLine)
    (hb : b ≤ 10) (hes : es.length ≤ 100000) (S : Mid w G0 c [] st so (KN b es es dr) s) :
    wpAny (model prg w) A (exec (turnSt 4) (lawE c.L fa)) (NextP (Mid w G0 c [] st so fun d m => KN b (more es d.ls dr) es dr d m)) E s := by
  obtain ⟨os, ab, d, m, R, F, m1, m2, k1, k2, k3, k4, ⟨t0, k5⟩, ⟨t1, k6⟩, x, k7, k8⟩ := S
  obtain ⟨o1, o2, o3, o5, fd, bl, N, d1, d2, d3, d5, kb⟩ := R.ledger F ok'
  have hexn : ∀ h' m', Fr G0 c.L h' m' → News G0 c.L h' bl → IsNm h' x (nameOf dr) := fun h' m' F' N' => k8.keeps ((kb h' m' F' N').2.kJ _)
  have hnl : (nameOf dr).length ≤ 1000 := Nat.le_trans nameOf_len.1 (by decide)
  have X' := X
  have T' := T
  unfold lawE
  conv in (occs := *) turnSt 4 => all_goals whnf
  conv in (occs := *) lawScope => all_goals whnf
  obtain ⟨t2, t3, t4, t5, t6⟩ := dt_range dr
  have hcap := cap_small (n := d.ls.length) (r := rOf dr) (by omega) t6
  have fin : ∀ (id : Value) (tk : Nat), IdAt s.heap id (nameOf dr) → wpAny (model prg w) A (call (.ref 35) [.ref c.a.bus, id, .int ((dr.fdiv 30).fmod 2) t1]) (fun _ => NextP (Mid w G0 c [] st so fun d m => KN b (more es d.ls dr) es dr d m) .next) E { s with toks := tk } := by
    intro id tk hid
    refine law_emit (s := { s with toks := tk }) (m := m) X T R F hid nameOf_len.2 t4 t5 hh (by omega) (by omega) (by rw [k3]; omega) fun h' tk' d' a1 a2 a3 a4 a5 a6 a7 => ?_
    refine ⟨rfl, os, ab, d', m, a2, a3, m1, m2, by rw [a4, a5, k1], by rw [a4]; exact k2, ?_, a7.trans k4, ⟨t0, k5⟩, ⟨t1, k6⟩, x, k7, k8.keeps (a1 _)⟩
    rw [a6, a4, k3]
    rfl
  have hx := k8.keeps (R.kJ _)
  k_steps
  · rename (((nameOf dr).length : Int) = 1) => q2
    obtain ⟨vs1, n1, e1, s1⟩ := hx
    obtain ⟨k0, hk0⟩ : ∃ k0, nameOf dr = [k0] := by
      match hq : nameOf dr, q2 with
      | [k0], _ => exact ⟨k0, rfl⟩
      | [], q2 => simp at q2
      | _ :: _ :: _, q2 => simp at q2; omega
    rw [hk0] at s1
    obtain ⟨t0, hvs⟩ : ∃ t0, vs1.toList = [Value.str k0 t0] := by
      generalize vs1.toList = l at s1
      cases s1 with
      | cons y t r => cases r; exact ⟨_, rfl⟩
    have hsz1 : vs1.size = 1 := by rw [← Array.length_toList, hvs]; rfl
    refine item_tuple (items := vs1) (j := 0) (x := .str k0 t0) ⟨_, e1, rfl, n1, rfl⟩ (by decide) (by decide) (by rw [hsz1]; rfl) (by rw [← Array.getElem?_toList, hvs]; rfl) ?_ (by with_unfolding_all rfl) (by intro _; with_unfolding_all rfl)
    k_steps
    exact fin _ _ (.inr ⟨k0, t0, rfl, hk0⟩)
  · exact fin _ _ (.inl ⟨x, rfl, hx⟩)
  · exact fin _ _ (.inl ⟨x, rfl, hx⟩)
end Mine
end
section
open PySem PySem.W PySem.Calls PyProof.Rows
namespace Mine
set_option maxRecDepth 100000
set_option maxHeartbeats 4000000
set_option pp.deepTerms false
set_option pp.deepTerms.threshold 6
theorem fillme19 : (fun (_ : OpenLaw) (_ : Params → Frag) => True) PySem.Challenge.rw_bs0024_01 hd.heap_39 := by
  w_top off
  k_fill
  trivial
local macro_rules | `(tactic| walk_at "eval Name") => `(tactic| (k_here; k_dflt (refine' nameX_L ?F ?v ?_ ?k ?a ?b; (case k => rfl); (case a => rfl); (case b => rfl); (case F => k_asm); (case v => first | exact rfl | assumption); k_whole)))
local macro_rules | `(tactic| walk_at "eval Name") => `(tactic| (k_here; k_dflt (refine' nameX_C ?N ?c ?m ?d ?_ ?k ?a ?b; (case k => rfl); (case a => rfl); (case b => rfl); (case N => k_asm); (case c => rfl); (case m => k_mem); (case d => assumption); k_whole)))
/-- both have heard the same -/
def KE (b : Nat) (es : List Ent) (dr : Int) (d : LD) (m9 : Str → Option Value) : Prop := d.kl = d.ls ∧ d.ls.length ≤ b ∧ d.e1 = more es d.ls dr ∧ d.e2 = d.e1
/-- _law_heard(kept, name, data, due) -/
theorem turn5 {w : World} {A : Around} {s so : Shared} {G0 : Heap} {c : LC} {st : List (Addr × Obj)} {loose mean mg mb} {E : Value → Shared → Prop} {fa : Addr} {dr : Int} {es : List Ent} {b : Nat} (X : (hd.heap_39 w.params).In G0) (T : Top topProg loose mean mg mb G0) (ok' : c.Ok) (hh : A.handled = none) (hdp : A.depth + 200 < recursionLimit) (hu : A.units + 600 < cLine)
    (hb : b ≤ 10) (hes : es.length ≤ 100000) (S : Mid w G0 c [] st so (fun d m => KN b (more es d.ls dr) es dr d m) s) :
    wpAny (model prg w) A (exec (turnSt 5) (lawE c.L fa)) (NextP (Mid w G0 c [] st so (KE b es dr))) E s := by
  obtain ⟨os, ab, d, m, R, F, m1, m2, k1, k2, k3, k4, ⟨t0, k5⟩, ⟨t1, k6⟩, x, k7, k8⟩ := S
  obtain ⟨o1, o2, o3, o5, fd, bl, N, d1, d2, d3, d5, kb⟩ := R.ledger F ok'
  have X' := X
  have T' := T
  unfold lawE
  conv in (occs := *) turnSt 5 => all_goals whnf
  conv in (occs := *) lawScope => all_goals whnf
  obtain ⟨t2, t3, t4, t5, t6⟩ := dt_range dr
  have hcap := cap_small (n := d.kl.length) (r := rOf dr) (by rw [k1]; omega) t6
  have hx := k8.keeps (R.kJ _)
  k_steps
  refine law_heard (m := m) X T R F hx (Nat.le_trans nameOf_len.1 (by decide)) t4 t5 hh (by omega) (by omega) (by rw [k4]; omega) fun h' tk' d' a2 a3 a4 a5 a6 a7 => ?_
  refine ⟨rfl, os, ab, d', m, a2, a3, m1, m2, by rw [a4, a5, k1], by rw [a4]; exact k2, by rw [a6, a4, k3], ?_⟩
  rw [a7, a6, k3, k4, k1]
  rfl
/-- if log != due: return False -/
theorem turn6 {w : World} {A : Around} {s so : Shared} {G0 : Heap} {c : LC} {st : List (Addr × Obj)} {loose mean mg mb} {E : Value → Shared → Prop} {fa : Addr} {dr : Int} {es : List Ent} {b : Nat} (X : (hd.heap_39 w.params).In G0) (T : Top topProg loose mean mg mb G0) (ok' : c.Ok) (hu : A.units + 600 < cLine)
    (hok : ∀ e ∈ es, ∀ k ∈ e.2.1, PyData.strOk k = true) (S : Mid w G0 c [] st so (KE b es dr) s) :
    wpAny (model prg w) A (exec (turnSt 6) (lawE c.L fa)) (NextP (Mid w G0 c [] st so fun d m => KE b es dr d m ∧ ∀ e ∈ d.e1, ∀ k ∈ e.2.1, PyData.strOk k = true)) E s := by
  obtain ⟨os, ab, d, m, R, F, m1, m2, k1, k2, k3, k4⟩ := S
  obtain ⟨o1, o2, o3, o5, fd, bl, N, d1, d2, d3, d5, kb⟩ := R.ledger F ok'
  have X' := X
  have T' := T
  unfold lawE
  conv in (occs := *) turnSt 6 => all_goals whnf
  conv in (occs := *) lawScope => all_goals whnf
  have ok1 : ∀ e ∈ d.e1, ∀ k ∈ e.2.1, PyData.strOk k = true := by
    rw [k3]
    intro e he
    rcases List.mem_append.mp he with he | he
    · exact hok e he
    · exact heard_ok R.dr1.ok _ _ _ nameOf_ok e he
  k_steps
  refine law_ne (s := { s with toks := _ }) R k4.symm ok1 (by omega) ?_
  k_steps
  exact ⟨rfl, os, ab, d, m, R, F, m1, m2, ⟨k1, k2, k3, k4⟩, ok1⟩
end Mine
end
section
open PySem PySem.W PySem.Calls PyProof.Rows
namespace Mine
set_option maxRecDepth 100000
set_option maxHeartbeats 4000000
set_option pp.deepTerms false
set_option pp.deepTerms.threshold 6
theorem fillme20 : (fun (_ : OpenLaw) (_ : Params → Frag) => True) PySem.Challenge.rw_bs0024_01 hd.heap_39 := by
  w_top off
  k_fill
  trivial
theorem turnBody_eq : turnBody = [turnSt 0, turnSt 1, turnSt 2, turnSt 3, turnSt 4, turnSt 5, turnSt 6] := by with_unfolding_all rfl
/-- between two turns -/
def KT (i : Nat) (d : LD) (m9 : Str → Option Value) : Prop := d.kl = d.ls ∧ d.ls.length ≤ 5 + i ∧ d.e2 = d.e1 ∧ d.e1.length ≤ 1110 * i ∧ ∀ e ∈ d.e1, ∀ k ∈ e.2.1, PyData.strOk k = true
/-- one turn's body -/
theorem turn {w : World} {A : Around} {s so : Shared} {G0 : Heap} {c : LC} {st : List (Addr × Obj)} {loose mean mg mb} {E : Value → Shared → Prop} {fa : Addr} {i : Nat} {t : Tok} (X : (hd.heap_39 w.params).In G0) (T : Top topProg loose mean mg mb G0) (ok : c.Ok) (hh : A.handled = none) (hdp : A.depth + 200 < recursionLimit) (hu : A.units + 600 < cLine)
    (hi : i < 5) (S : Mid w G0 c [] st so (fun d m => KT i d m ∧ m "k" = some (.int i t)) s) : wpAny (model prg w) A (execs turnBody (lawE c.L fa)) (NextP (Mid w G0 c [] st so (KT (i + 1)))) E s := by
  obtain ⟨os, ab, d, m, R, F, m1, m2, ⟨k1, k2, k3, k4, k5⟩, m3⟩ := S
  have hlen := ok.len
  obtain ⟨dr, hdr⟩ : ∃ dr, c.vals[6 + i]? = some dr := ⟨_, List.getElem?_eq_getElem (by omega)⟩
  obtain ⟨dr0, dr1⟩ := R.add.range dr (List.mem_of_getElem? hdr)
  have hes : d.e1.length ≤ 100000 := by omega
  rw [turnBody_eq]
  refine execs_cut (turn0 (KD := fun d' => d'.kl = d'.ls ∧ d'.ls.length ≤ 5 + i ∧ d'.e1 = d.e1 ∧ d'.e2 = d.e1) X T ok hh hdp hu (by omega) hdr ⟨os, ab, d, m, R, F, m1, m2, ⟨k1, k2, rfl, k3⟩, m3⟩) ?_
  rintro s1 ⟨os1, ab1, d1, q1, R1, F1, n1, n2, ⟨j1, j2, j3, j4⟩, j5, t', j6⟩
  refine execs_cut (turn1 (k := i) (t := t) (t0 := t') (dr := dr) (b := 5 + i) (e1 := d.e1) (e2 := d.e1) X T ok hh hdp hu (by omega) (by omega) ⟨os1, ab1, d1, q1, R1, F1, n1, n2, j1, j2, j3, j4, j5, j6⟩) ?_
  intro s2 S2
  refine execs_cut (turn2 X T ok hh hdp hu (by omega) (by omega) dr0 dr1 S2) ?_
  intro s3 S3
  refine execs_cut (turn3 X T ok hh hdp hu dr0 dr1 S3) ?_
  intro s4 S4
  refine execs_cut (turn4 X T ok hh hdp hu (by omega) hes S4) ?_
  intro s5 S5
  refine execs_cut (turn5 X T ok hh hdp hu (by omega) hes S5) ?_
  intro s6 S6
  refine execs_cut (turn6 X T ok hu k5 S6) ?_
  rintro s7 ⟨os7, ab7, d7, q7, R7, F7, p1, p2, ⟨l1, l2, l3, l4⟩, l5⟩
  refine wpAny_execs_nil ⟨rfl, os7, ab7, d7, q7, R7, F7, p1, p2, l1, by omega, l4, ?_, l5⟩
  obtain ⟨t2, t3, t4, t5, t6⟩ := dt_range dr
  have h1 := cap_small (n := d7.ls.length) (r := rOf dr) (by omega) t6
  have h2 := heard_cap d7.ls (rOf dr) (nameOf dr) (dtOf dr)
  rw [l3]
  unfold more
  rw [List.length_append]
  omega
/-- the second loop -/
theorem loop2 {w : World} {A : Around} {s so : Shared} {G0 : Heap} {c : LC} {loose mean mg mb} {fa I : Addr} {px : Pos} {R : Result → Shared → Prop} (X : (hd.heap_39 w.params).In G0) (T : Top topProg loose mean mg mb G0) (ok : c.Ok) (hh : A.handled = none) (hdp : A.depth + 200 < recursionLimit) (hu : A.units + 600 < cLine)
    (S : Mid w G0 c [I] [] so (KT 0) s) (it : IsRangeIter s.heap I 0 5 1) (fin : ∀ s, Mid w G0 c [I] [] so (KT 5) s → R (.ok .next) s) :
    codeAny (model prg w) A (.forLoop (.Name "k" px) (.ref I) turnBody [] (lawE c.L fa)) R s := by
  refine loopR (n := 5) (a := 0) hh (fun i s => Mid w G0 c [I] [] so (KT i) s) (fun i s h' tk oI p e hc x => p.moveI e hc x) ?turn fin S it
  case turn =>
    rintro i s t oI hi ⟨os, ab, d, m, R, F, m1, m2, kt⟩ eI hcI
    have R1 := R.pin eI (.of_cls (by rw [hcI]; simp))
    rw [Int.zero_add]
    refine wpAny_assign_Name (wpAny_storeName_local (by with_unfolding_all rfl) F.ns (fun h3 hns3 hs3 => ?_) rfl)
    have F3 := fr_store F hns3 hs3
    have x3 : Ext [c.L] s.heap h3 := fun b o e n => hs3.extBut b o (by simpa using n) e
    refine wpAny_mono (turn (fa := fa) (i := i) (t := t) X T ok hh hdp hu hi ⟨os, ab, d, _, R1.frame F x3, F3, m1, m2, kt, rfl⟩) ?_ (fun _ _ z => z)
    rintro f s' ⟨rfl, os', ab', d', m', R', F', p1, p2, kt'⟩
    obtain ⟨U, eI'⟩ := R'.unpin
    exact ⟨rfl, ⟨os', ab', d', m', U, F', p1, p2, kt'⟩, eI'⟩
end Mine
end
section
open PySem PySem.W PySem.Calls PyProof.Rows
namespace Mine
set_option maxRecDepth 100000
set_option maxHeartbeats 4000000
set_option pp.deepTerms false
set_option pp.deepTerms.threshold 6
theorem fillme21 : (fun (_ : OpenLaw) (_ : Params → Frag) => True) PySem.Challenge.rw_bs0024_01 hd.heap_39 := by
  w_top off
  k_fill
  trivial
def retSt : Stmt := lawBody.getD 7 default
theorem rest5_eq : lawRest5 = [for1, for2, retSt] := by with_unfolding_all rfl
theorem rest3_eq : lawRest3 = [listenerStmt, addedStmt, for1, for2, retSt] := by with_unfolding_all rfl
theorem for2_eq : ∃ px p1 p2 p3 p4 n, for2 = .For (.Name "k" px) (.Call (.Name "range" p1) [.Constant (.int 5) n p2] [] p3) turnBody [] p4 := ⟨_, _, _, _, _, _, by with_unfolding_all rfl⟩
theorem ret_eq : ∃ p1 p2 n, retSt = .Return (some (.Constant (.bool true) n p1)) p2 := ⟨_, _, _, by with_unfolding_all rfl⟩
theorem law2 {w : World} {A : Around} {s so : Shared} {G0 : Heap} {c : LC} {loose mean mg mb} {E : Value → Shared → Prop} {fa : Addr} (X : (hd.heap_39 w.params).In G0) (T : Top topProg loose mean mg mb G0) (ok : c.Ok) (hh : A.handled = none) (hdp : A.depth + 200 < recursionLimit) (hu : A.units + 600 < cLine)
    (S : Mid w G0 c [] [] so (KT 0) s) : wpAny (model prg w) A (exec for2 (lawE c.L fa)) (NextP (Mid w G0 c [] [] so (KT 5))) E s := by
  obtain ⟨px, p1, p2, p3, p4, n, e⟩ := for2_eq
  rw [e]
  obtain ⟨os, ab, d, m, R, F, m1, m2, kt⟩ := S
  obtain ⟨o1, o2, o3, o5, fd, bl, N, d1, d2, d3, d5, kb⟩ := R.ledger F ok
  have X' := X
  have T' := T
  refine wpAny_For ?_ (fun _ => rfl)
  unfold lawE
  conv in (occs := *) lawScope => all_goals whnf
  k_steps
  rename IsRange _ _ _ _ _ _ _ _ => rg
  rename Fr _ _ _ _ => F9
  rename News _ _ _ _ => N9
  have R9 := (kb _ _ F9 fun p hp => N9 p (by simp [hp])).2
  refine wpAny_pyIter_range rg (small_one (by omega) (by omega) (by omega) (by omega)) ?_
  rw [rangeSize_nat]
  obtain ⟨U, F10⟩ := R9.offI F9 (.of_keep fun b o e => Heap.get?_push_of_some { cls := .type "range_iterator", data := .fields #[rawInt 0, rawInt (((5 - 0 : Int).toNat : Nat) : Int), rawInt 1] } e) (I := Array.size (Heap.objs _)) (fun o e => absurd (Heap.lt_size e) (Nat.lt_irrefl _))
  refine loop2 X T ok hh hdp hu ⟨os, ab, d, m, U, F10, m1, m2, kt⟩ (Heap.get?_push_size _ rfl) fun s' S' => ?_
  exact ⟨rfl, S'.drop⟩
/-- the law's end -/
theorem lawTail {w : World} {A : Around} {s so : Shared} {G0 : Heap} {c : LC} {loose mean mg mb} {Q : Flow → Shared → Prop} {E : Value → Shared → Prop} {fa : Addr} {ok od : Option Value} (X : (hd.heap_39 w.params).In G0) (T : Top topProg loose mean mg mb G0) (ok' : c.Ok) (hh : A.handled = none) (hdp : A.depth + 200 < recursionLimit) (hu : A.units + 600 < cLine)
    (S : Mid w G0 c [] [] so (KA 0 [] [] ok od) s) (hQ : ∀ s' d m, s'.os = so.os → AllBare s'.gens → LawAt w G0 c d [] [] s'.heap → Fr G0 c.L s'.heap m → Q (.ret (.bool true)) s') :
    wpAny (model prg w) A (execs lawRest5 (lawE c.L fa)) Q E s := by
  rw [rest5_eq]
  refine execs_cut (loop1 X T ok' hh hdp hu S) ?_
  rintro s1 ⟨os1, ab1, d1, q1, R1, F1, n1, n2, j1, j2, j3, j4, j5, j6⟩
  refine execs_cut (law2 X T ok' hh hdp hu ⟨os1, ab1, d1, q1, R1, F1, n1, n2, j1, j2, j4.trans j3.symm, by rw [j3]; exact Nat.zero_le _, by rw [j3]; exact fun _ z => nomatch z⟩) ?_
  rintro s2 ⟨os2, ab2, d2, q2, R2, F2, _⟩
  obtain ⟨p1, p2, n, e⟩ := ret_eq
  rw [e]
  have N2 : News G0 c.L s2.heap [] := fun _ z => nomatch z
  k_steps
  exact hQ _ d2 q2 os2 ab2 R2 F2
end Mine
end
section
open PySem PySem.W PySem.Calls PyProof.Rows
namespace Mine
set_option maxRecDepth 100000
set_option maxHeartbeats 4000000
/-- an object of a kind that the law changes -/
def HidP (o : Obj) : Prop := (∃ es ep, o.data = .dict es ep) ∨ (∃ d, o = instObj 53 d) ∨ (∃ ps, o = tabObj ps) ∨ o = W.listOf #[] 0
theorem initKeep {h : Heap} {hid : List Addr} (hh : ∀ q ∈ hid, ∃ o, h.get? q = some o ∧ HidP o) {b : Addr} {o : Obj} (e : h.get? b = some o) (n : ¬ HidP o) : (hideAll h hid).get? b = some o := hideAll_get _ e fun z => by
  obtain ⟨o', e', p⟩ := hh b z
  rw [e] at e'; cases e'; exact n p
theorem notHid_func {o : Obj} {fd : FuncData} (h : o.data = .func fd) : ¬ HidP o := by
  rintro (⟨es, ep, z⟩ | ⟨d, z⟩ | ⟨ps, z⟩ | z)
  · rw [h] at z; cases z
  all_goals (rw [z] at h; cases h)
theorem notHid_cell {o : Obj} {v : Option Value} (h : o.data = .cell v) : ¬ HidP o := by
  rintro (⟨es, ep, z⟩ | ⟨d, z⟩ | ⟨ps, z⟩ | z)
  · rw [h] at z; cases z
  all_goals (rw [z] at h; cases h)
theorem notHid_code {o : Obj} {vs : Array Value} (hc : o.cls = .type "code") (h : o.data = .fields vs) : ¬ HidP o := by
  rintro (⟨es, ep, z⟩ | ⟨d, z⟩ | ⟨ps, z⟩ | z)
  · rw [h] at z; cases z
  all_goals (rw [z] at hc; simp at hc)
theorem notHid_list {vs : Array Value} {n : Nat} (h : vs.size ≠ 0) : ¬ HidP (W.listOf vs n) := by
  rintro (⟨es, ep, z⟩ | ⟨d, z⟩ | ⟨ps, z⟩ | z)
  · cases z
  · cases z
  · have := congrArg Obj.cls z; simp at this
  · have := congrArg Obj.data z
    simp only [Data.seq.injEq] at this
    rw [this.1] at h; exact h rfl
theorem keepCell {h J : Heap} {q : Addr} {v : Option Value} (k : ∀ b o, h.get? b = some o → ¬ HidP o → J.get? b = some o) (x : h.IsCell q v) : J.IsCell q v := let ⟨o, e, d⟩ := x; ⟨o, k _ _ e (notHid_cell d), d⟩
theorem keepRec {h J : Heap} {c P : Addr} {q : Str} (k : ∀ b o, h.get? b = some o → ¬ HidP o → J.get? b = some o) (C : CodeHd h c P) (x : h.CodeRec (.ref c) q) : J.CodeRec (.ref c) q := by
  obtain ⟨a, o, vs, t, e, ho, hd, hv⟩ := x
  cases e
  obtain ⟨o', vs', _, _, _, _, _, _, _, ho', hc, _⟩ := C
  rw [ho] at ho'
  cases ho'
  exact ⟨c, o, vs, t, rfl, k _ _ ho (notHid_code hc hd), hd, hv⟩
theorem keepHd {h J : Heap} {c P : Addr} (k : ∀ b o, h.get? b = some o → ¬ HidP o → J.get? b = some o) (C : CodeHd h c P) : CodeHd J c P := by
  obtain ⟨o, vs, file, tf, flags, tg, inF, text, tt, ho, hc, hd, r⟩ := C
  exact ⟨o, vs, file, tf, flags, tg, inF, text, tt, k _ _ ho (notHid_code hc hd), hc, hd, r⟩
/-- the state as the loops find it -/
theorem lawInit {w : World} {G0 h : Heap} {L bus bd D log due kp cs fl cl Pl fa ca Pa : Addr} {m : Str → Option Value} {hsh : Int} {tl : Tok} {nb : Nat} {vals : List Int} {ws : List Value} {oD : Obj} {dl pl tl' da pa ta : Value}
    (F : Fr G0 L h m) (C42 : CodeHd G0 42 38) (g38 : G0.get? 38 = none) (g78 : G0.get? 78 = none) (e38 : h.get? 38 = some (tabObj #[])) (e78 : ∃ ps, h.get? 78 = some (tabObj ps))
    (ebus : h.get? bus = some (instObj 53 bd)) (ebd : h.get? bd = some (dictOf (lisEntry hsh tl D) nb)) (eD : h.get? D = some oD) (hD : Obj.IsDictOf (PySem.strKind prg w) oD []) (lo : (D == sysModules) = false)
    (elog : h.get? log = some (W.listOf #[] 0)) (edue : h.get? due = some (W.listOf #[] 0)) (ekp : h.get? kp = some (W.listOf #[] 0)) (ecs : h.get? cs = some (W.listOf ws.toArray 0)) (hws : IntsAre ws vals) (hlen : vals.length = 11) (hrange : ∀ d ∈ vals, 0 ≤ d ∧ d < 1000000)
    (c1 : h.IsCell (L + 1) (some (.ref bus))) (c2 : h.IsCell (L + 2) (some (.ref cs))) (c3 : h.IsCell (L + 3) (some (.ref kp))) (c4 : h.IsCell (L + 4) (some (.ref fl))) (c5 : h.IsCell (L + 5) (some (.ref log)))
    (efl : h.get? fl = some (funObj (fnX "listener" lsnQual lsnParams lsnBody lsnScope [("log", L + 5), ("bus", L + 1)] .none .none dl pl none (.ref cl) tl'))) (rl : h.CodeRec (.ref cl) lsnQual) (Cl : CodeHd h cl Pl) (ePl : h.get? Pl = some (tabObj #[]))
    (efa : h.get? fa = some (funObj (fnX "added" addQual addParams addBody addScope [("listener", L + 4), ("kept", L + 3), ("cells", L + 2), ("bus", L + 1)] .none .none da pa none (.ref ca) ta))) (ra : h.CodeRec (.ref ca) addQual) (Ca : CodeHd h ca Pa) (ePa : h.get? Pa = some (tabObj #[]))
    (o1 : (78 : Nat) < L) (o2 : @LT.lt Nat _ L bd) (o3 : @LT.lt Nat _ bd bus) (o4 : @LT.lt Nat _ bus D) (o5 : @LT.lt Nat _ D log) (o6 : @LT.lt Nat _ log due) (o7 : @LT.lt Nat _ due kp) (o8 : @LT.lt Nat _ kp Pl) (o9 : @LT.lt Nat _ Pl Pa) (gfa : G0.get? fa = none) :
    ∃ J, LawAt w G0 { a := { bus := bus, bd := bd, D := D, log := log, cL := L + 5, cB := L + 1 }, b := { cLn := L + 4, cK := L + 3, cC := L + 2, kp := kp, cs := cs, fl := fl, cl := cl, Pl := Pl, fa := fa, ca := ca, Pa := Pa }, due := due, hsh := hsh, tl := tl, vals := vals, L := L }
      { J := J, D := D, nb := nb, xs := [], ls := [], kl := [], LL := [], ps := #[], psL := #[], psA := #[], kits := #[], nk := 0, vs := [], nl := 0, vd := [], nd := 0, e1 := [], e2 := [] } [] [] h := by
  have hidP : ∀ q ∈ [38, 78, L, bd, bus, D, log, due, kp, Pl, Pa], ∃ o, h.get? q = some o ∧ HidP o := by
    intro q hq
    simp only [List.mem_cons, List.not_mem_nil, or_false] at hq
    rcases hq with rfl | rfl | rfl | rfl | rfl | rfl | rfl | rfl | rfl | rfl | rfl
    · exact ⟨_, e38, .inr (.inr (.inl ⟨_, rfl⟩))⟩
    · obtain ⟨ps, e⟩ := e78
      exact ⟨_, e, .inr (.inr (.inl ⟨_, rfl⟩))⟩
    · obtain ⟨o, es, ep, e, hd, _⟩ := F.ns
      exact ⟨_, e, .inl ⟨_, _, hd⟩⟩
    · exact ⟨_, ebd, .inl ⟨_, _, rfl⟩⟩
    · exact ⟨_, ebus, .inr (.inl ⟨_, rfl⟩)⟩
    · obtain ⟨es, ep, _, hd, _⟩ := hD
      exact ⟨_, eD, .inl ⟨_, _, hd⟩⟩
    · exact ⟨_, elog, .inr (.inr (.inr rfl))⟩
    · exact ⟨_, edue, .inr (.inr (.inr rfl))⟩
    · exact ⟨_, ekp, .inr (.inr (.inr rfl))⟩
    · exact ⟨_, ePl, .inr (.inr (.inl ⟨_, rfl⟩))⟩
    · exact ⟨_, ePa, .inr (.inr (.inl ⟨_, rfl⟩))⟩
  have k : ∀ b o, h.get? b = some o → ¬ HidP o → (hideAll h [38, 78, L, bd, bus, D, log, due, kp, Pl, Pa]).get? b = some o := fun b o e n => initKeep hidP e n
  have jn : ∀ q ∈ [38, 78, L, bd, bus, D, log, due, kp, Pl, Pa], (hideAll h [38, 78, L, bd, bus, D, log, due, kp, Pl, Pa]).get? q = none := fun q hq => hideAll_none _ hq
  have kJ : (hideAll h [38, 78, L, bd, bus, D, log, due, kp, Pl, Pa]).StaysIn h := fun b o e => of_hideAll _ e
  generalize hideAll h [38, 78, L, bd, bus, D, log, due, kp, Pl, Pa] = J at k jn kJ
  have gn : ∀ {q : Addr}, @LE.le Nat _ L q → G0.get? q = none := fun {q} le => by
    cases e : G0.get? q with
    | none => rfl
    | some o => exact absurd (Nat.lt_of_lt_of_le (Heap.lt_size e) F.above) (Nat.not_lt.mpr le)
  have C42' := C42.keeps F.keep
  have hsz : ws.toArray.size ≠ 0 := by
    have := hws.length
    rw [List.size_toArray]; omega
  refine ⟨J, ⟨⟨⟨ebus, ebd, ?tab, .nil, fun _ z => (nomatch z), .nil, fun _ _ _ => rfl, Nat.ne_of_gt (Nat.lt_trans o3 o4), lo, ⟨C42'.code e38 trivial, C42'.tab e38⟩, fun _ z => (nomatch z), ?none0⟩,
      ⟨⟨dl, pl, tl', k _ _ efl (notHid_func rfl)⟩, keepRec k Cl rl, ⟨keepHd k Cl, ePl, trivial, .inl rfl⟩⟩, ⟨da, pa, ta, k _ _ efa (notHid_func rfl)⟩, keepRec k Ca ra, ⟨keepHd k Ca, ePa, trivial, .inl rfl⟩, ekp, .nil, keepCell k c1, keepCell k c4, keepCell k c3, keepCell k c2, ⟨_, _, k _ _ ecs (notHid_list hsz), ints_vals hws⟩, hrange, ?none1, ?apart1⟩,
    kJ, keepCell k c5, elog, edue, .nil, .nil, Drawn.nil, Drawn.nil, Nat.le_refl _, ?ap, ?nd, ⟨?h42, gfa⟩, e78, fun _ z => (nomatch z)⟩⟩
  case tab =>
    obtain ⟨es, ep, hx, hd1, _, hp, _⟩ := hD
    refine ⟨oD, es, ep, eD, hx, hd1, ?_, fun _ z => (nomatch z), by simp⟩
    generalize es.toList = l at hp
    cases l with
    | nil => rfl
    | cons x r => cases hp
  case none0 =>
    intro q hq
    simp only [List.map_nil, List.mem_cons, List.not_mem_nil, or_false] at hq
    rcases hq with rfl | rfl | rfl | rfl
    · exact ⟨gn (by omega), jn _ (by simp)⟩
    · exact ⟨gn (by omega), jn _ (by simp)⟩
    · exact ⟨gn (by omega), jn _ (by simp)⟩
    · exact ⟨g38, jn _ (by simp)⟩
  case none1 =>
    intro q hq
    simp only [List.mem_cons, List.not_mem_nil, or_false] at hq
    rcases hq with rfl | rfl | rfl <;> (refine ⟨gn (by omega), jn _ (by simp), ?_⟩; simp only [List.map_nil, List.mem_cons, List.not_mem_nil, or_false, not_or]; refine ⟨?_, ?_, ?_, ?_⟩ <;> (intro z; have z' : @Eq Nat _ _ := z; omega))
  case apart1 => refine ⟨?_, ?_, ?_⟩ <;> (intro z; have z' : @Eq Nat _ _ := z; dsimp only at z'; omega)
  case ap =>
    intro q hq
    simp only [List.append_nil, List.map_nil, List.mem_cons, List.not_mem_nil, or_false] at hq
    rcases hq with rfl | rfl | rfl | rfl
    · refine ⟨gn (by omega), jn _ (by simp), ?_, ?_⟩ <;> (simp only [List.map_nil, List.mem_cons, List.not_mem_nil, or_false, not_or]; (first | refine ⟨?_, ?_, ?_, ?_⟩ | refine ⟨?_, ?_, ?_⟩) <;> (intro z; have z' : @Eq Nat _ _ := z; omega))
    · refine ⟨gn (by omega), jn _ (by simp), ?_, ?_⟩ <;> (simp only [List.map_nil, List.mem_cons, List.not_mem_nil, or_false, not_or]; (first | refine ⟨?_, ?_, ?_, ?_⟩ | refine ⟨?_, ?_, ?_⟩) <;> (intro z; have z' : @Eq Nat _ _ := z; omega))
    · refine ⟨gn (by omega), jn _ (by simp), ?_, ?_⟩ <;> (simp only [List.map_nil, List.mem_cons, List.not_mem_nil, or_false, not_or]; (first | refine ⟨?_, ?_, ?_, ?_⟩ | refine ⟨?_, ?_, ?_⟩) <;> (intro z; have z' : @Eq Nat _ _ := z; omega))
    · refine ⟨g78, jn _ (by simp), ?_, ?_⟩ <;> (simp only [List.map_nil, List.mem_cons, List.not_mem_nil, or_false, not_or]; (first | refine ⟨?_, ?_, ?_, ?_⟩ | refine ⟨?_, ?_, ?_⟩) <;> (intro z; have z' : @Eq Nat _ _ := z; omega))
  case nd =>
    simp only [List.append_nil, List.map_nil, List.nodup_cons, List.mem_cons, List.not_mem_nil, or_false, not_or, List.nodup_nil, and_true, not_false_eq_true]
    refine ⟨⟨?_, ?_, ?_⟩, ⟨?_, ?_⟩, ?_⟩ <;> (intro z; have z' : @Eq Nat _ _ := z; omega)
  case h42 =>
    obtain ⟨o, vs, _, _, _, _, _, _, _, ho, _⟩ := C42
    exact ⟨o, ho⟩
end Mine
end
section
open PySem PySem.W PySem.Calls PyProof.Rows
namespace Mine
set_option maxRecDepth 100000
set_option maxHeartbeats 1000000
abbrev lawTabs : List (Addr × Addr) := [(80, 78), (42, 38)]
theorem ghost38 (h : Heap) : (ghostOf h lawTabs).get? 38 = none := hideAll_none [78, 38] (List.Mem.tail _ (List.Mem.head _))
theorem ghost78 (h : Heap) : (ghostOf h lawTabs).get? 78 = none := hideAll_none [78, 38] (List.Mem.head _)
/-- the law from its fourth statement on -/
theorem lawStart {w : World} {A : Around} {s s₁ : Shared} {loose mean mg mb} {Q : Flow → Shared → Prop} {E : Value → Shared → Prop} {f0 : Addr} {m : Str → Option Value} {L bus bd D log due kp cs : Addr} {oD oc1 oc2 oc3 oc4 oc5 : Obj} {hsh : Int} {tl : Tok} {nb : Nat} {vals : List Int} {ws : List Value}
    (hT : TabsAt lawTabs s₁.heap) (X : (hd.heap_39 w.params).In (ghostOf s₁.heap lawTabs)) (T : Top topProg loose mean mg mb (ghostOf s₁.heap lawTabs)) (C80 : CodeHd (ghostOf s₁.heap lawTabs) 80 78) (C42 : CodeHd (ghostOf s₁.heap lawTabs) 42 38)
    (hh : A.handled = none) (hdp : A.depth + 200 < recursionLimit) (hu : A.units + 600 < cLine) (F : Fr (ghostOf s₁.heap lawTabs) L s.heap m) (md : m "due" = some (.ref due))
    (e38 : s.heap.get? 38 = some (tabObj #[])) (e78 : s.heap.get? 78 = some (tabObj #[])) (ebus : s.heap.get? bus = some (instObj 53 bd)) (ebd : s.heap.get? bd = some (dictOf (lisEntry hsh tl D) nb)) (eD : s.heap.get? D = some oD) (hD : Obj.IsDictOf (PySem.strKind prg w) oD []) (lo : (D == sysModules) = false)
    (elog : s.heap.get? log = some (W.listOf #[] 0)) (edue : s.heap.get? due = some (W.listOf #[] 0)) (ekp : s.heap.get? kp = some (W.listOf #[] 0)) (ecs : s.heap.get? cs = some (W.listOf ws.toArray 0)) (hws : IntsAre ws vals) (hlen : vals.length = 11) (hrange : ∀ d ∈ vals, 0 ≤ d ∧ d < 1000000)
    (e1 : s.heap.get? (L + 1) = some oc1) (d1 : oc1.data = .cell (some (.ref bus))) (e2 : s.heap.get? (L + 2) = some oc2) (d2 : oc2.data = .cell (some (.ref cs))) (e3 : s.heap.get? (L + 3) = some oc3) (d3 : oc3.data = .cell (some (.ref kp))) (e4 : s.heap.get? (L + 4) = some oc4) (d4 : oc4.data = .cell none) (e5 : s.heap.get? (L + 5) = some oc5) (d5 : oc5.data = .cell (some (.ref log)))
    (o0 : (38 : Nat) < L) (o1 : (78 : Nat) < L) (o2 : @LT.lt Nat _ (L + 5) bd) (o3 : @LT.lt Nat _ bd bus) (o4 : @LT.lt Nat _ bus D) (o5 : @LT.lt Nat _ D log) (o6 : @LT.lt Nat _ log due) (o7 : @LT.lt Nat _ due kp) (o10 : @LT.lt Nat _ (L + 5) cs)
    (hos : s.os = s₁.os) (hab : AllBare s.gens) (hQ : ∀ s', s'.os = s₁.os → AllBare s'.gens → OldK s₁.heap s'.heap → Q (.ret (.bool true)) s') :
    wpAny (model prg w) A (execs lawRest3 (lawEnv L f0)) Q E s := by
  have g38 : (ghostOf s₁.heap lawTabs).get? 38 = none := ghost38 _
  have g78 : (ghostOf s₁.heap lawTabs).get? 78 = none := ghost78 _
  have gn : ∀ {q : Addr}, @LE.le Nat _ L q → (ghostOf s₁.heap lawTabs).get? q = none := fun {q} le => by
    cases e : (ghostOf s₁.heap lawTabs).get? q with
    | none => rfl
    | some o => exact absurd (Nat.lt_of_lt_of_le (Heap.lt_size e) F.above) (Nat.not_lt.mpr le)
  have z1 := Heap.lt_size ekp
  rw [rest3_eq]
  refine wpAny_execs_cons (lawDef1 T F (C80.keeps F.keep) e78 trivial rfl e4 d4 o1 g78 (gn (Nat.le_add_right _ _)) fun fl cl Pl ctl dl h1 tk1 x1 F1 a1 a2 a3 a4 a5 efl rl Cl ePl e78' c4 => ?_)
  dsimp only
  have up1 : ∀ {b : Addr} {o : Obj}, s.heap.get? b = some o → @Ne Nat b 78 → @Ne Nat b (L + 4) → h1.get? b = some o := fun e n1 n2 => x1 _ _ e (by
    simp only [List.mem_cons, List.not_mem_nil, or_false, not_or]; exact ⟨n1, n2⟩)
  refine wpAny_execs_cons (lawDef2 (s := { s with heap := h1, toks := tk1 }) T F1 (C80.keeps F1.keep) e78' ?_ ?_ o1 g78 fun fa ca Pa cta da h2 tk2 x2 F2 b1 b2 b3 b4 b5 efa ra Ca ePa e78'' => ?_)
  · trivial
  · with_unfolding_all rfl
  dsimp only
  have up2 : ∀ {b : Addr} {o : Obj}, h1.get? b = some o → @Ne Nat b 78 → @Ne Nat b L → h2.get? b = some o := fun e n1 n2 => x2 _ _ e (by
    simp only [List.mem_cons, List.not_mem_nil, or_false, not_or]; exact ⟨n1, n2⟩)
  have up : ∀ {b : Addr} {o : Obj}, s.heap.get? b = some o → @Ne Nat b 78 → @Ne Nat b (L + 4) → @Ne Nat b L → h2.get? b = some o := fun e n1 n2 n3 => up2 (up1 e n1 n2) n1 n3
  have z2 := Heap.lt_size ePl
  have z3 := Heap.lt_size efl
  have b1' : @LE.le Nat _ h1.objs.size fa := b1
  have b3' : @LE.le Nat _ h1.objs.size Pa := b3
  have a1' : @LE.le Nat _ s.heap.objs.size fl := a1
  have a2' : @LE.le Nat _ s.heap.objs.size cl := a2
  have a3' : @LE.le Nat _ s.heap.objs.size Pl := a3
  have z1' : @LT.lt Nat _ kp s.heap.objs.size := z1
  have z2' : @LT.lt Nat _ Pl h1.objs.size := z2
  have gcl : h1.CodeRec (.ref cl) lsnQual := rl
  obtain ⟨cc, occ, vs, tq, ec, hocc, hdc, hvc⟩ := rl
  cases ec
  obtain ⟨J, R⟩ := lawInit (w := w) (hsh := hsh) (tl := tl) (nb := nb) F2 C42 g38 g78 (up e38 (by decide) (by omega) (by omega)) ⟨_, e78''⟩ (up ebus (by omega) (by omega) (by omega)) (up ebd (by omega) (by omega) (by omega)) (up eD (by omega) (by omega) (by omega)) hD lo (up elog (by omega) (by omega) (by omega)) (up edue (by omega) (by omega) (by omega)) (up ekp (by omega) (by omega) (by omega)) (up ecs (by omega) (by omega) (by omega)) hws hlen hrange
    ⟨_, up e1 (by omega) (by omega) (by omega), d1⟩ ⟨_, up e2 (by omega) (by omega) (by omega), d2⟩ ⟨_, up e3 (by omega) (by omega) (by omega), d3⟩ (let ⟨o, e, d⟩ := c4; ⟨o, up2 e (by omega) (by omega), d⟩) ⟨_, up e5 (by omega) (by omega) (by omega), d5⟩
    (up2 efl (by omega) (by omega)) ⟨cl, occ, vs, tq, rfl, up2 hocc (by omega) (by omega), hdc, hvc⟩ (codeHd_ext Cl x2 (by simp only [List.mem_cons, List.not_mem_nil, or_false, not_or]; exact ⟨(by omega : @Ne Nat cl 78), (by omega : @Ne Nat cl L)⟩)) (up2 ePl (by omega) (by omega)) efa ra Ca ePa o1 (by omega) o3 o4 o5 o6 o7 (by omega) (by omega) (gn (by omega))
  rw [← rest5_eq, lawE_eq]
  have S0 : Mid w (ghostOf s₁.heap lawTabs) { a := { bus := bus, bd := bd, D := D, log := log, cL := L + 5, cB := L + 1 }, b := { cLn := L + 4, cK := L + 3, cC := L + 2, kp := kp, cs := cs, fl := fl, cl := cl, Pl := Pl, fa := fa, ca := ca, Pa := Pa }, due := due, hsh := hsh, tl := tl, vals := vals, L := L } [] [] s₁ (KA 0 [] [] (m "k") (m "draw")) { s with heap := h2, toks := tk2 } := ⟨hos, hab, _, _, R, F2, rfl, md, rfl, Nat.le_refl _, rfl, rfl, rfl, rfl⟩
  refine lawTail (s := { s with heap := h2, toks := tk2 }) (c := { a := { bus := bus, bd := bd, D := D, log := log, cL := L + 5, cB := L + 1 }, b := { cLn := L + 4, cK := L + 3, cC := L + 2, kp := kp, cs := cs, fl := fl, cl := cl, Pl := Pl, fa := fa, ca := ca, Pa := Pa }, due := due, hsh := hsh, tl := tl, vals := vals, L := L }) X T ⟨rfl, rfl, rfl, rfl, rfl, hlen⟩ hh hdp hu S0 fun s' d m' os' ab' R' F' => ?_
  refine hQ s' os' ab' (oldK_of hT F'.keep fun q hq => ?_)
  simp only [List.mem_cons, List.not_mem_nil, or_false] at hq
  rcases hq with rfl | rfl
  · exact R'.t78
  · exact ⟨_, R'.add.reg.code.2.2⟩
end Mine
end
section
open PySem PySem.W PyProof.Rows
namespace Mine
theorem cut3 {M : Model} {A : Around} {a b c : Stmt} {rest : List Stmt} {env : Env} {Q : Flow → Shared → Prop} {E s}
   (h : ∀ rest', rest' = rest → wpAny M A (execs (a :: b :: c :: rest') env) Q E s) : wpAny M A (execs (a :: b :: c :: rest) env) Q E s := h rest rfl
end Mine
end
open PySem PySem.W PyProof.Rows
set_option maxRecDepth 100000 in
set_option maxHeartbeats 40000000 in
theorem PySem.Challenge.cw_bs0024_01_holds : PySem.Challenge.rw_bs0024_01.Holds := by
  w_top off
  w_on; o_law
  o_head (kmHook Mine.hd.heap_39 [2, 3, 6, 15, 22, 24, 25, 27, 28, 29, 31, 32, 34, 35, 36, 37, 39, 40, 42, 43, 44, 46, 47, 49, 50, 51, 52, 53,
          54, 55, 58, 60, 61, 63, 64, 65, 68, 69, 70, 72, 73, 75, 76, 77, 80, 81] (fun _ => by kernel_rfl) [78, 38])
  (case hw => w_witness2)
  w_strict (
    k_fill
    intro w s₀ s₁ mg mb G Y fa o pm cd doc dV kV ho hd hcd hD hmg hg args vals as hpre hlay hrd hwl hlo
    have KX := km_in_of Y
    have hT8 := km_tabs_of Y
    have X := (Ground.X G).1
    have V := (Ground.X G).2
    refine Ground.open G ?_
    intro T B D TE TW
    try (refine guard_noD D (by decide +kernel) ?_; clear D)
    have hT9 : TabsAt ((80, 78) :: (42, 38) :: [] : List (Addr × Addr)) _ :=
      List.forall_mem_cons.mpr ⟨⟨codeHd_of_K (c := 80) (P := 78) KX (by kernel_rfl), hT8 78 (by k_mem)⟩,
       List.forall_mem_cons.mpr ⟨⟨codeHd_of_K (c := 42) (P := 38) KX (by kernel_rfl), hT8 38 (by k_mem)⟩, fun _ h => nomatch h⟩⟩
    have he9 : cd = PySem.Value.ref 80 := law_code (x := PySem.Str.ofString "law") (c := 80) (P := 78) KX (Top.g T) (by kernel_rfl) hmg ho hd
    subst he9
    clear hmg
    wrow_args hpre hlay hrd hwl hlo
    all_goals (
      first | refine callC_kw (enter_call ?_) | refine enter_call ?_
      w_top on
      w_call any ho hd hcd hD T F
      clear hd
      kn_ghosts F T
      k_drop
      skip)
    all_goals try k_fold
    dsimp only
    with_reducible refine Mine.cut3 ?_
    intro rest' hrest
    k_steps
    rename Fr _ _ _ _ => F9
    rename News _ _ _ _ => N9
    rename Obj.IsDictOf (PySem.strKind _ _) _ [] => hDD
    have hr9 : rest' = Mine.lawRest3 := hrest.trans (by with_unfolding_all rfl)
    clear hrest
    subst hr9
    refine' Mine.lawStart (w := w) (s₁ := s₁) (L := s₁.heap.objs.size) (hsh := PyData.keyHash w.params "_listeners") hT9 ?cX ?cT ?c80 ?c42 ?chh ?cdp ?cu F9 ?cmd ?c38 ?c78 ?cbus ?cbd ?ceD ?chD ?clo ?clog ?cdue ?ckp ?ccs ?chws ?clen ?crange ?ce1 ?cd1 ?ce2 ?cd2 ?ce3 ?cd3 ?ce4 ?cd4 ?ce5 ?cd5 ?co0 ?co1 ?co2 ?co3 ?co4 ?co5 ?co6 ?co7 ?co10 ?cos ?cab ?cQ
    case cX => assumption
    case cT => assumption
    case c80 => assumption
    case c42 => assumption
    case chh => exact rfl
    case cdp => exact Nat.le_of_ble_eq_true rfl
    case cu => first | exact Nat.le_of_ble_eq_true rfl | (rw [PySem.cLine_eq]; exact Nat.le_of_ble_eq_true rfl) | omega
    case cmd => exact rfl
    case ce1 => exact N9.get (a := s₁.heap.objs.size + 1) (by k_mem)
    case ce2 => exact N9.get (a := s₁.heap.objs.size + 1 + 1) (by k_mem)
    case ce3 => exact N9.get (a := s₁.heap.objs.size + 1 + 1 + 1) (by k_mem)
    case ce4 => exact N9.get (a := s₁.heap.objs.size + 1 + 1 + 1 + 1) (by k_mem)
    case ce5 => exact N9.get (a := s₁.heap.objs.size + 1 + 1 + 1 + 1 + 1) (by k_mem)
    case cd1 => with_reducible assumption
    case cd2 => with_reducible assumption
    case cd3 => with_reducible assumption
    case cd5 => with_reducible assumption
    case cd4 => first | with_reducible assumption | assumption | with_unfolding_all assumption
    case c38 => exact N9.get (by k_mem)
    case c78 => exact N9.get (by k_mem)
    case cbus => exact N9.get (by k_mem)
    case cbd => exact N9.get (by k_mem)
    case ceD => exact N9.get (by k_mem)
    case chD => exact hDD
    case clo => assumption
    case clog => exact N9.get (by k_mem)
    case cdue => exact N9.get (by k_mem)
    case ckp => exact N9.get (by k_mem)
    case ccs => exact N9.get (by k_mem)
    case chws => with_reducible assumption
    case clen => exact Mine.cells_len _
    case crange => exact Mine.cells_range _
    case co0 => omega
    case co1 => omega
    case co2 => omega
    case co3 => omega
    case co4 => omega
    case co5 => omega
    case co6 => omega
    case co7 => omega
    case co10 => omega
    case cos => exact rfl
    case cab => exact AllBare.of_eq hg
    case cQ =>
      intro s' h1 h2 h3
      refine ⟨.inl ⟨_, .bool true, [], rfl, ?hn, .bool true, ?hp, fun _ => ⟨.nil, fun _ h => nomatch h⟩⟩, h3, h1, h2⟩
      case hn =>
        refine raisesW_false ?_
        wrow_none_raised
      case hp => first | exact rfl | wrow_post)
