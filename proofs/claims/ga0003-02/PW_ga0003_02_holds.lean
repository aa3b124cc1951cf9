import PyProof.Rows.All
import Wide.All
import OpenK.AllK
import Wide.FinOn
import PySem.Challenge.RW_ga0003_02
open PySem PySem.W PyProof.Rows PySem.Calls
set_option Elab.async false
set_option maxRecDepth 100000
set_option maxHeartbeats 8000000
namespace Mine
open_top hd for PySem.Challenge.rw_ga0003_02
section
/-- the two lists of entries have no address in common -/
def Off (xs ys : List (Addr × Obj)) : Prop := ∀ p ∈ xs, ∀ q ∈ ys, p.1 ≠ q.1

/-- a ledger may be read in any order, in part -/
theorem newsSub {h₀ h : Heap} {L : Addr} {xs ys : List (Addr × Obj)} (N : News h₀ L h ys) (hs : ∀ p ∈ xs, p ∈ ys) : News h₀ L h xs := fun p hp => N p (hs p hp)

/-- what a call of the def at f does, from any frame: hd is what it may read and turn of the caller's ledger -/
def Ctr (prog : Program) (w : World) (K : Frag) (p : Program) (loose : List Str) (mean : ExcName → Option Value) (mg mb : Str → Option Value) (f : Addr) (dN uN : Nat) (args : List Value) (hd : List (Addr × Obj)) (Post : Value → List (Addr × Obj) → Prop) : Prop :=
  ∀ (dp un : Nat) (gd : Option (List Code)) (cn : Str) (cs : Scope) (a : Addr) (ccd : Value) (cl : List (Str × Addr)) (outer : List Env) (A₀ : Around) (base h₀ : Heap) (L : Addr) (m : Str → Option Value) (s : Shared) (rest : List (Addr × Obj)) (Q E : Value → Shared → Prop),
    Below A₀ base outer h₀ → CodeHd base 34 30 → CodeHd base 41 37 → Fr h₀ L s.heap m → K.In h₀ → News h₀ L s.heap (hd ++ rest) → Off hd rest → Top p loose mean mg mb h₀ → cs.kind = .function →
    dp + dN < recursionLimit → un + uN < cLine →
    (∀ (r : Value) (hd' : List (Addr × Obj)) (h' : Heap) (tk' : Nat), Fr h₀ L h' m → News h₀ L h' (hd' ++ rest) → Off hd' rest → Post r hd' → Q r { s with heap := h', toks := tk' }) →
    wpAny (model prog w) (ktrTop dp un gd cn cs L a ccd cl outer) (call (.ref f) args) Q E s

theorem Ctr.up {prog : Program} {w : World} {K : Frag} {p : Program} {loose : List Str} {mean : ExcName → Option Value} {mg mb : Str → Option Value} {f : Addr} {dN uN dM uM : Nat} {args : List Value} {hd : List (Addr × Obj)} {Post : Value → List (Addr × Obj) → Prop}
    (h : Ctr prog w K p loose mean mg mb f dN uN args hd Post) (h1 : dN ≤ dM) (h2 : uN ≤ uM) : Ctr prog w K p loose mean mg mb f dM uM args hd Post :=
  fun dp un gd cn cs a ccd cl outer A₀ base h₀ L m s rest Q E b1 b2 b3 b4 b5 b6 b7 b8 b9 b10 b11 b12 => h dp un gd cn cs a ccd cl outer A₀ base h₀ L m s rest Q E b1 b2 b3 b4 b5 b6 b7 b8 b9 (by omega) (by omega) b12

section
variable {prog : Program} {w : World} {A₀ A : Around} {s : Shared} {base h₀ : Heap} {outer : List Env} {L : Addr} {m : Str → Option Value} {env : Env} {hd rest : List (Addr × Obj)}
  {R : Result → Shared → Prop} {name qual : Str} {params : Arguments} {body : List Stmt} {scope : Scope} {cl : List (Str × Addr)} {dV kV doc pm cdv ct : Value} {an : Option Addr} {fo : Obj} {f : Addr} {args : Args} {binds : List (Str × Value)}

/-- a def with no cells is entered: what is not handed over stands in the new ground -/
theorem callF_plain (B : Below A₀ base outer h₀) (F : Fr h₀ L s.heap m) (N : News h₀ L s.heap (hd ++ rest)) (D : Off hd rest) (hlim : h₀.NoLimit) (hA : A.frames = some (env :: outer)) (hf : env.frame = some L) (hke : env.scope.kind = .function)
    (ho : s.heap.get? f = some fo) (hdat : fo.data = .func (fnX name qual params body scope cl dV kV doc pm an cdv ct)) (hcd : s.heap.CodeRec cdv qual) (hroom : A.depth < recursionLimit)
    (hbind : BindsTo s (fnX name qual params body scope cl dV kV doc pm an cdv ct) args binds) (hloc : ∀ y ∈ binds, scope.names.lookup y.1 = some .local)
    (h : ∀ g L' h₁, Fr h₀ L g m → Fr g L' h₁ (fun y => binds.reverse.lookup y) → News g L' h₁ hd → Below A base (env :: outer) g → h₀.StaysIn g → (∀ q ∈ rest, g.get? q.1 = some q.2) → (∀ p ∈ hd, p.1 < L') →
      wpAny (model prog w) (A.deeper (envX qual scope L' f cdv cl)) (execs body (envX qual scope L' f cdv cl))
        (fun fl s' => LeaveK h₀ L m g R (match fl with | .ret v => v | _ => .none) s')
        (fun e s' => wpAny (model prog w) (A.deeper (envX qual scope L' f cdv cl)) (leaving (envX qual scope L' f cdv cl) e) (fun _ s'' => R (.error e) s'') (fun e' s'' => R (.error e') s'') s')
        { s with heap := h₁, toks := s.toks + binds.length })
    (hcell : ∀ x ∈ scope.names, x.2 ≠ .cell) (hco : scope.isCoroutine = false) (hgen : scope.isGenerator = false) (hk : scope.kind = .function) : codeAny (model prog w) A (.call (.ref f) args) R s := by
  have NH : News h₀ L s.heap hd := newsSub N fun p hp => List.mem_append_left _ hp
  obtain ⟨FG, BG, st, lv⟩ := groundX (R := R) B F NH hA hf hke
  refine codeAny_call_def (fd := fnX name qual params body scope cl dV kV doc pm an cdv ct) (body := body) (binds := binds) hroom ho hdat (hlim.keeps F.keep) hcd rfl hbind hcell hloc (fun h₁ hns hk₁ => ?_) hco hgen hk
  refine wpAny_mono (h _ s.heap.objs.size h₁ FG ⟨hns, fun b o e => hk₁ b o (of_hideAll _ e), Nat.le_of_eq (hideAll_size _ _)⟩ (fun p hp => ?_) BG st (fun q hq => ?_) fun p hp => Heap.lt_size (NH p hp).1) (fun fl s' hl => lv _ _ hl) fun _ _ y => y
  · exact ⟨hk₁ _ _ (NH p hp).1, Nat.ne_of_lt (Heap.lt_size (NH p hp).1), hideAll_none _ (List.mem_map_of_mem hp)⟩
  · refine hideAll_get _ (N q (List.mem_append_right _ hq)).1 fun hm => ?_
    obtain ⟨p, hp, e⟩ := List.mem_map.mp hm
    exact D p hp q hq e

/-- a def with cells is entered -/
theorem callF_cells (B : Below A₀ base outer h₀) (F : Fr h₀ L s.heap m) (N : News h₀ L s.heap (hd ++ rest)) (D : Off hd rest) (hlim : h₀.NoLimit) (hA : A.frames = some (env :: outer)) (hf : env.frame = some L) (hke : env.scope.kind = .function)
    (ho : s.heap.get? f = some fo) (hdat : fo.data = .func (fnX name qual params body scope [] dV kV doc pm an cdv ct)) (hcd : s.heap.CodeRec cdv qual) (hroom : A.depth < recursionLimit)
    (hbind : BindsTo s (fnX name qual params body scope [] dV kV doc pm an cdv ct) args binds)
    (hkind : ∀ n, ∀ x ∈ binds, scope.names.lookup x.1 = some .local ∨ (scope.names.lookup x.1 = some .cell ∧ ((cellsFrom n scope.names []).lookup x.1).isSome = true))
    (hnd : ((cellsFrom 0 scope.names []).map (·.1)).Nodup)
    (h : ∀ g L' h₁ tk cells, Fr h₀ L g m → Fr g L' h₁ (bindL (envOfC qual scope L' f cdv).kindOf binds fun _ => none) → News g L' h₁ (cells ++ hd) →
      CellsAre (bindC (envOfC qual scope L' f cdv).kindOf binds fun _ => none) (cellsFrom (L' + 1) scope.names []) cells → Below A base (env :: outer) g → h₀.StaysIn g → (∀ q ∈ rest, g.get? q.1 = some q.2) → (∀ p ∈ hd, p.1 < L') →
      wpAny (model prog w) (A.deeper (envOfC qual scope L' f cdv)) (execs body (envOfC qual scope L' f cdv))
        (fun fl s' => LeaveK h₀ L m g R (match fl with | .ret v => v | _ => .none) s')
        (fun e s' => wpAny (model prog w) (A.deeper (envOfC qual scope L' f cdv)) (leaving (envOfC qual scope L' f cdv) e) (fun _ s'' => R (.error e) s'') (fun e' s'' => R (.error e') s'') s')
        { s with heap := h₁, toks := tk })
    (hco : scope.isCoroutine = false) (hgen : scope.isGenerator = false) (hk : scope.kind = .function) : codeAny (model prog w) A (.call (.ref f) args) R s := by
  have NH : News h₀ L s.heap hd := newsSub N fun p hp => List.mem_append_left _ hp
  obtain ⟨FG, BG, st, lv⟩ := groundX (R := R) B F NH hA hf hke
  refine codeAny_call_function hroom ho hdat hco hgen rfl hcd (hbind _ _ _ _ ?_)
  refine wpAny_newFunctionEnv_cells hk (hkind _) fun env' he s' x => ?_
  subst he
  refine ⟨(hlim.keeps F.keep).keeps x.toInCall.keep, codeAny_func ?_⟩
  obtain ⟨h₁, tk, rfl, _⟩ := x.done
  have hk₁ := x.toInCall.keep
  obtain ⟨cells, NC, Y⟩ := Cl.news (h₀ := s.heap) (Nat.le_refl _) fun n c hm => ⟨x.cell n c (lookup_of_mem_nodup (cellsFrom_names scope.names 0 (s.heap.objs.size + 1) [] [] rfl ▸ hnd) hm), x.above n c hm⟩
  refine wpAny_mono (h _ s.heap.objs.size h₁ tk cells FG ⟨x.toInCall.ns, fun b o e => hk₁ b o (of_hideAll _ e), Nat.le_of_eq (hideAll_size _ _)⟩ (fun p hp => ?_) Y BG st (fun q hq => ?_) fun p hp => Heap.lt_size (NH p hp).1) (fun fl s' hl => lv _ _ hl) fun _ _ y => y
  · rcases List.mem_append.mp hp with hp | hp
    · refine ⟨(NC p hp).1, (NC p hp).2.1, ?_⟩
      cases q : (hideAll s.heap (hd.map (·.1))).get? p.1 with
      | none => rfl
      | some o => have := of_hideAll _ q; rw [(NC p hp).2.2] at this; cases this
    · exact ⟨hk₁ _ _ (NH p hp).1, Nat.ne_of_lt (Heap.lt_size (NH p hp).1), hideAll_none _ (List.mem_map_of_mem hp)⟩
  · refine hideAll_get _ (N q (List.mem_append_right _ hq)).1 fun hm => ?_
    obtain ⟨p, hp, e⟩ := List.mem_map.mp hm
    exact D p hp q hq e
end

section
variable {prog : Program} {w : World} {A A₀ : Around} {s : Shared} {K : Frag} {L : Addr} {h₀ base : Heap} {m mg mb : Str → Option Value} {hd rest : List (Addr × Obj)} {p : Program} {loose : List Str} {mean : ExcName → Option Value}
  {env : Env} {outer : List Env} {R : Result → Shared → Prop} {name qual : Str} {params : Arguments} {body : List Stmt} {scope : Scope} {cl : List (Str × Addr)} {dV kV doc pm cdv ct oc ctv : Value} {an od : Option Addr} {osl : Array (Option Value)} {f c' : Addr} {args : Args} {binds : List (Str × Value)}

theorem codeF_def
    (B : Below A₀ base outer h₀) (F : Fr h₀ L s.heap m) (X₀ : K.In h₀) (N : News h₀ L s.heap (hd ++ rest)) (D : Off hd rest) (T : Top p loose mean mg mb h₀) (hA : A.frames = some (env :: outer)) (hf : env.frame = some L) (hke : env.scope.kind = .function)
    (ho : K.lookup f = some ⟨oc, od, .func (fnOf name qual params body scope dV kV doc pm an cdv ct), osl⟩) (hcd : codeIn K cdv qual = true) (hroom : A.depth < recursionLimit)
    (hbind : BindsTo s (fnOf name qual params body scope dV kV doc pm an cdv ct) args binds) (hloc : ∀ y ∈ binds, scope.names.lookup y.1 = some .local)
    (h : ∀ g L' h₁, Fr h₀ L g m → Fr g L' h₁ (fun y => binds.reverse.lookup y) → News g L' h₁ hd → Below A base (env :: outer) g → K.In g → Top p loose mean mg mb g → (∀ q ∈ rest, g.get? q.1 = some q.2) → (∀ p ∈ hd, p.1 < L') →
      wpAny (model prog w) (A.deeper (envOf qual scope L' f cdv)) (execs body (envOf qual scope L' f cdv))
        (fun fl s' => LeaveK h₀ L m g R (match fl with | .ret v => v | _ => .none) s')
        (fun e s' => wpAny (model prog w) (A.deeper (envOf qual scope L' f cdv)) (leaving (envOf qual scope L' f cdv) e) (fun _ s'' => R (.error e) s'') (fun e' s'' => R (.error e') s'') s')
        { s with heap := h₁, toks := s.toks + binds.length })
    (hco : scope.isCoroutine = false) (hgen : scope.isGenerator = false) (hk : scope.kind = .function)
    (hcell : ∀ x ∈ scope.names, x.2 ≠ .cell) : codeAny (model prog w) A (.call (.ref f) args) R s :=
  callF_plain (cl := []) B F N D T.nolimit hA hf hke ((X₀.keeps F.keep) _ _ ho) rfl (codeRec_of (X₀.keeps F.keep) hcd) hroom hbind hloc (fun g L' h₁ FG F' N' B' st RR l => h g L' h₁ FG F' N' B' (X₀.keeps st) (T.keeps st) RR l) hcell hco hgen hk

theorem codeF_defC
    (B : Below A₀ base outer h₀) (F : Fr h₀ L s.heap m) (X₀ : K.In h₀) (N : News h₀ L s.heap (hd ++ rest)) (D : Off hd rest) (T : Top p loose mean mg mb h₀) (hA : A.frames = some (env :: outer)) (hf : env.frame = some L) (hke : env.scope.kind = .function)
    (ho : K.lookup f = some ⟨oc, od, .func (fnOf name qual params body scope dV kV doc pm an cdv ct), osl⟩) (hcd : codeIn K cdv qual = true) (hroom : A.depth < recursionLimit)
    (hbind : BindsTo s (fnOf name qual params body scope dV kV doc pm an cdv ct) args binds) (hkind : (binds.all fun y => scope.names.lookup y.1 == some .local || scope.names.lookup y.1 == some .cell) = true)
    (hnd : ((cellsFrom 0 scope.names []).map (·.1)).Nodup)
    (h : ∀ g L' h₁ tk cells, Fr h₀ L g m → Fr g L' h₁ (bindL (envOfC qual scope L' f cdv).kindOf binds fun _ => none) → News g L' h₁ (cells ++ hd) →
      CellsAre (bindC (envOfC qual scope L' f cdv).kindOf binds fun _ => none) (cellsFrom (L' + 1) scope.names []) cells → Below A base (env :: outer) g → K.In g → Top p loose mean mg mb g → (∀ q ∈ rest, g.get? q.1 = some q.2) → (∀ p ∈ hd, p.1 < L') →
      wpAny (model prog w) (A.deeper (envOfC qual scope L' f cdv)) (execs body (envOfC qual scope L' f cdv))
        (fun fl s' => LeaveK h₀ L m g R (match fl with | .ret v => v | _ => .none) s')
        (fun e s' => wpAny (model prog w) (A.deeper (envOfC qual scope L' f cdv)) (leaving (envOfC qual scope L' f cdv) e) (fun _ s'' => R (.error e) s'') (fun e' s'' => R (.error e') s'') s')
        { s with heap := h₁, toks := tk })
    (hco : scope.isCoroutine = false) (hgen : scope.isGenerator = false) (hk : scope.kind = .function) : codeAny (model prog w) A (.call (.ref f) args) R s :=
  callF_cells B F N D T.nolimit hA hf hke ((X₀.keeps F.keep) _ _ ho) rfl (codeRec_of (X₀.keeps F.keep) hcd) hroom hbind (kindsX hkind) hnd (fun g L' h₁ tk cells FG F' N' Y B' st RR l => h g L' h₁ tk cells FG F' N' Y B' (X₀.keeps st) (T.keeps st) RR l) hco hgen hk

theorem codeF_nest
    (B : Below A₀ base outer h₀) (F : Fr h₀ L s.heap m) (X₀ : K.In h₀) (N : News h₀ L s.heap (hd ++ rest)) (D : Off hd rest) (T : Top p loose mean mg mb h₀) (hA : A.frames = some (env :: outer)) (hf : env.frame = some L) (hke : env.scope.kind = .function)
    (ho : (f, fnMade name qual params body scope cl doc pm c' ctv) ∈ hd ++ rest) (hcd : s.heap.CodeRec (.ref c') qual) (hroom : A.depth < recursionLimit)
    (hbind : BindsTo s (fnX name qual params body scope cl .none .none doc pm none (.ref c') ctv) args binds) (hloc : ∀ y ∈ binds, scope.names.lookup y.1 = some .local)
    (h : ∀ g L' h₁, Fr h₀ L g m → Fr g L' h₁ (fun y => binds.reverse.lookup y) → News g L' h₁ hd → Below A base (env :: outer) g → K.In g → Top p loose mean mg mb g → (∀ q ∈ rest, g.get? q.1 = some q.2) → (∀ p ∈ hd, p.1 < L') →
      wpAny (model prog w) (A.deeper (envX qual scope L' f (.ref c') cl)) (execs body (envX qual scope L' f (.ref c') cl))
        (fun fl s' => LeaveK h₀ L m g R (match fl with | .ret v => v | _ => .none) s')
        (fun e s' => wpAny (model prog w) (A.deeper (envX qual scope L' f (.ref c') cl)) (leaving (envX qual scope L' f (.ref c') cl) e) (fun _ s'' => R (.error e) s'') (fun e' s'' => R (.error e') s'') s')
        { s with heap := h₁, toks := s.toks + binds.length })
    (hco : scope.isCoroutine = false) (hgen : scope.isGenerator = false) (hk : scope.kind = .function)
    (hcell : ∀ x ∈ scope.names, x.2 ≠ .cell) : codeAny (model prog w) A (.call (.ref f) args) R s :=
  callF_plain (cl := cl) B F N D T.nolimit hA hf hke (N _ ho).1 rfl hcd hroom hbind hloc (fun g L' h₁ FG F' N' B' st RR l => h g L' h₁ FG F' N' B' (X₀.keeps st) (T.keeps st) RR l) hcell hco hgen hk
end

section
variable {h₀ g h' : Heap} {L L' : Addr} {m m' : Str → Option Value} {s : Shared} {rest hd' : List (Addr × Obj)} {Q : Value → Shared → Prop} {Post : Value → List (Addr × Obj) → Prop} {r : Value} {tk' : Nat}
/-- the end of a contract's walk -/
theorem ctr_ret (hret : ∀ (r : Value) (hd' : List (Addr × Obj)) (h' : Heap) (tk' : Nat), Fr h₀ L h' m → News h₀ L h' (hd' ++ rest) → Off hd' rest → Post r hd' → Q r { s with heap := h', toks := tk' })
    (NR : News h₀ L s.heap rest) (RR : ∀ q ∈ rest, g.get? q.1 = some q.2) (F' : Fr g L' h' m') (N' : News g L' h' hd') (kF : Fr h₀ L h' m) (kN : News h₀ L h' hd') (hP : Post r hd') :
    Q r { s with heap := h', toks := tk' } := by
  refine hret r hd' h' tk' kF (fun p hp => ?_) (fun p hp q hq e => ?_) hP
  · rcases List.mem_append.mp hp with hp | hp
    · exact kN p hp
    · exact ⟨F'.keep _ _ (RR p hp), (NR p hp).2⟩
  · have := (N' p hp).2.2
    rw [e, RR q hq] at this
    cases this
end

theorem Off.cons {a : Addr} {o : Obj} {xs ys : List (Addr × Obj)} (h : ∀ q ∈ ys, q.1 ≠ a) (t : Off xs ys) : Off ((a, o) :: xs) ys := fun p hp q hq => (List.mem_cons.mp hp).elim (fun e => by rw [e]; exact fun e2 => h q hq e2.symm) fun hp => t p hp q hq
theorem Off.symm {xs ys : List (Addr × Obj)} (h : Off xs ys) : Off ys xs := fun p hp q hq e => h q hq p hp e.symm
theorem Off.nilR (xs : List (Addr × Obj)) : Off xs [] := fun _ _ _ hq => nomatch hq
theorem offNil (xs : List (Addr × Obj)) : Off [] xs := fun _ hp => nomatch hp
theorem newsLt {h₀ h : Heap} {L : Addr} {xs : List (Addr × Obj)} (N : News h₀ L h xs) : ∀ p ∈ xs, p.1 < h.objs.size := fun p hp => Heap.lt_size (N p hp).1

theorem foldReplicate (v : Value) (k : Nat) : List.foldl (fun x1 x2 => x1 ++ x2) #[] (List.replicate k #[v]) = (List.replicate k v).toArray := by
  have h : ∀ (k : Nat) (acc : Array Value), List.foldl (fun x1 x2 => x1 ++ x2) acc (List.replicate k #[v]) = acc ++ (List.replicate k v).toArray := by
    intro k
    induction k with
    | zero => intro acc; simp
    | succ k ih => intro acc; rw [List.replicate_succ, List.foldl_cons, ih, List.replicate_succ]; apply Array.toList_inj.mp; simp
  rw [h]; simp

section
variable {prog : Program} {w : World} {A : Around} {E : Value → Shared → Prop} {s : Shared} {L : Addr} {h₀ : Heap} {m : Str → Option Value} {news : List (Addr × Obj)}
/-- [v] * k -/
theorem mulK {l : Addr} {v : Value} {c k : Nat} {x : Int} {u : Tok} {Q : Value → Shared → Prop} (F : Fr h₀ L s.heap m) (N : News h₀ L s.heap news) (hm : (l, listOf [v].toArray c) ∈ news) (e : x = (k : Int)) (hx : k ≤ 2 ^ 24)
    (h : ∀ l' h' vs, Fr h₀ L h' m → vs = List.replicate k v → News h₀ L h' ((l', listOf vs.toArray 0) :: news) → (∀ p ∈ news, p.1 < l') → Q (.ref l') { s with heap := h' }) :
    wpAny (model prog w) A (binaryOp .Mult (.ref l) (.int x u)) Q E s := by
  subst e
  refine mul_list F N (N _ hm).1 (by omega) (by omega) (by simp; omega) fun h' F' N' => ?_
  rw [if_neg (by simp)] at N'
  rw [foldReplicate] at N'
  exact h _ h' _ F' rfl N' (newsLt N)
end
section
variable {α : Type}
/-- the item at a place; what is behind a place; the items at the places, then a tail -/
def ixGet : List α → Nat → Option α
  | [], _ => none
  | a :: _, 0 => some a
  | _ :: r, n + 1 => ixGet r n
def ixDrop : Nat → List α → List α
  | 0, l => l
  | n + 1, l => ixDrop n l.tail
def ixPick (ys tl : List α) : List Nat → List α
  | [] => tl
  | i :: is => (ixGet ys i).elim (ixPick ys tl is) fun a => a :: ixPick ys tl is
theorem ixMem {a : α} : ∀ {ys : List α} (i : Nat), ixGet ys i = some a → a ∈ ys
  | _ :: _, 0, h => by cases h; exact .head _
  | _ :: _, n + 1, h => .tail _ (ixMem n h)
theorem ixDropMem {a : α} : ∀ {k : Nat} {ys : List α}, a ∈ ixDrop k ys → a ∈ ys
  | 0, _, h => h
  | n + 1, _, h => List.mem_of_mem_tail (ixDropMem (k := n) h)
theorem ixPickMem {a : α} {ys tl : List α} (ht : a ∈ tl → a ∈ ys) : ∀ {is : List Nat}, a ∈ ixPick ys tl is → a ∈ ys
  | [], h => ht h
  | i :: is, h => by
    rw [ixPick] at h
    cases e : ixGet ys i with
    | none => rw [e] at h; exact ixPickMem ht h
    | some b =>
      rw [e] at h
      rcases List.mem_cons.mp h with rfl | h
      · exact ixMem i e
      · exact ixPickMem ht h
/-- a ledger's part, told by its places: short terms (a compiled file has a lid) -/
theorem ixSub {xs ys : List α} (is : List Nat) (h : xs = ixPick ys [] is) : ∀ p ∈ xs, p ∈ ys := fun _ hp => ixPickMem (tl := []) (fun h => absurd h List.not_mem_nil) (h ▸ hp)
theorem ixSubT {xs ys : List α} (k : Nat) (is : List Nat) (h : xs = ixPick ys (ixDrop k ys) is) : ∀ p ∈ xs, p ∈ ys := fun _ hp => ixPickMem ixDropMem (h ▸ hp)
end
end
section
section
variable {prog : Program} {w : World} {A : Around} {E : Value → Shared → Prop} {s : Shared} {a b n x : Int} {t u : Tok} {Q : Value → Shared → Prop}
theorem rsh1 (h : Q (.int (a / 2) s.toks) { s with toks := s.toks + 1 }) : wpAny (model prog w) A (binaryOp .RShift (.int a t) (.int 1 u)) Q E s := by
  refine rshift_int (by omega) ?_
  have e : a.fdiv (2 ^ Int.toNat 1) = a / 2 := by
    rw [Int.fdiv_eq_ediv_of_nonneg _ (by decide)]; rfl
  rw [e]; exact h
theorem rshN {lo hi : Nat} (h : Q (.int (((lo + hi) / 2 : Nat) : Int) s.toks) { s with toks := s.toks + 1 }) : wpAny (model prog w) A (binaryOp .RShift (.int ((lo : Int) + hi) t) (.int 1 u)) Q E s := by
  refine rsh1 ?_
  have e : ((lo : Int) + hi) / 2 = (((lo + hi) / 2 : Nat) : Int) := by simp
  rw [e]; exact h
theorem rshG (hn : 0 ≤ n) (h : ∀ v, v = a / 2 ^ n.toNat → Q (.int v s.toks) { s with toks := s.toks + 1 }) : wpAny (model prog w) A (binaryOp .RShift (.int a t) (.int n u)) Q E s :=
  rshift_int hn (h _ (Int.fdiv_eq_ediv_of_nonneg _ (Int.pow_nonneg (by decide))))
theorem lshG (hn : 0 ≤ n) (hb : (Builtin.Int.intBits a : Int) + n ≤ 2 ^ 27) (h : ∀ v, v = a * 2 ^ n.toNat → Q (.int v s.toks) { s with toks := s.toks + 1 }) : wpAny (model prog w) A (binaryOp .LShift (.int a t) (.int n u)) Q E s :=
  lshift_int hn hb (h _ rfl)
theorem mulG (hm : IntMulOk a b) (h : ∀ v, v = a * b → Q (.int v s.toks) { s with toks := s.toks + 1 }) : wpAny (model prog w) A (binaryOp .Mult (.int a t) (.int b u)) Q E s :=
  PyProof.Rows.mul_int (h _ rfl) hm

theorem natAnd_high (x k : Nat) : x &&& (x / 2 ^ k * 2 ^ k) = x / 2 ^ k * 2 ^ k := by
  apply Nat.eq_of_testBit_eq
  intro i
  rw [Nat.testBit_and, ← Nat.shiftLeft_eq, Nat.testBit_shiftLeft, Nat.testBit_div_two_pow]
  by_cases h : i ≥ k
  · rw [Nat.sub_add_cancel h]; simp
  · simp [h]
theorem bitAnd_nat (x y : Nat) : Builtin.bitAnd (x : Int) (y : Int) = ((x &&& y : Nat) : Int) := by
  simp [Builtin.bitAnd]
theorem bitXor_high {x : Int} (hx : 0 ≤ x) (k : Nat) : Builtin.bitXor x (x / 2 ^ k * 2 ^ k) = x % 2 ^ k := by
  obtain ⟨y, rfl⟩ := Int.eq_ofNat_of_zero_le hx
  have e : ((y : Int) / 2 ^ k * 2 ^ k) = ((y / 2 ^ k * 2 ^ k : Nat) : Int) := by simp
  rw [bitXor_and, e, bitAnd_nat, natAnd_high]
  have h := Nat.div_add_mod y (2 ^ k)
  have e2 : ((y : Int) % 2 ^ k) = ((y % 2 ^ k : Nat) : Int) := by simp
  rw [e2]
  rw [Nat.mul_comm] at h
  omega
theorem xorG {k : Nat} {v : Int} (hx : 0 ≤ x) (hv : v = x / 2 ^ k * 2 ^ k) (h : ∀ r, r = x % 2 ^ k → Q (.int r s.toks) { s with toks := s.toks + 1 }) : wpAny (model prog w) A (binaryOp .BitXor (.int x t) (.int v u)) Q E s := by
  refine PyProof.Rows.xor_int ?_
  rw [hv, bitXor_high hx]
  exact h _ rfl
theorem lenG {h₀ : Heap} {L l : Addr} {news : List (Addr × Obj)} {us : List Value} {c k : Nat} (N : News h₀ L s.heap news) (hm : (l, listOf us.toArray c) ∈ news) (e : us.length = k) (hfit : (k : Int) < 2 ^ 63)
    (h : Q (.int (k : Int) (s.toks + 1)) { s with toks := s.toks + 1 + 1 }) : wpAny (model prog w) A (call (.builtin "len") [.ref l]) Q E s := kst_len N hm e hfit h

end

theorem shiftFacts {lo hi n len : Nat} {v : Int} (hlo : lo < hi) (hhi : hi ≤ len) (hnn : n * len ≤ 2 ^ 22) (hv : v = ((((lo + hi) / 2 : Nat) : Int) - lo) * n) : 0 ≤ v ∧ v ≤ 2 ^ 22 ∧ v.toNat = n * ((lo + hi) / 2 - lo) := by
  have e : v = ((n * ((lo + hi) / 2 - lo) : Nat) : Int) := by
    rw [hv, Int.natCast_mul, Int.natCast_sub (by omega)]
    rw [Int.mul_comm]
  have h1 : n * ((lo + hi) / 2 - lo) ≤ n * len := Nat.mul_le_mul_left _ (by omega)
  refine ⟨by omega, by omega, by omega⟩
theorem bits_of_lt {x : Int} {k : Nat} (h0 : 0 ≤ x) (h : x < 2 ^ k) : Builtin.Int.intBits x ≤ k := by
  refine intBits_le_iff.mpr ?_
  obtain ⟨y, rfl⟩ := Int.eq_ofNat_of_zero_le h0
  rw [Int.natAbs_natCast]
  have : ((y : Nat) : Int) < ((2 ^ k : Nat) : Int) := by simpa using h
  exact Int.ofNat_lt.mp this
theorem lshBound {x up sh : Int} {k : Nat} (hx : Builtin.Int.intBits x ≤ 2 ^ 22) (hup : up = x / 2 ^ k) (hsh : sh ≤ 2 ^ 22) : (Builtin.Int.intBits up : Int) + sh ≤ 2 ^ 27 := by
  have e : x / 2 ^ k = x.fdiv (2 ^ k) := (Int.fdiv_eq_ediv_of_nonneg _ (Int.pow_nonneg (by decide))).symm
  have := intBits_fdiv_le (y := 2 ^ k) hx
  rw [hup, e]
  omega
theorem lt_pow_hi {x : Int} {n lo mid hi : Nat} (hx : x < 2 ^ (n * (hi - lo))) (h1 : lo ≤ mid) (h2 : mid ≤ hi) : x / 2 ^ (n * (mid - lo)) < 2 ^ (n * (hi - mid)) := by
  have e : n * (hi - lo) = n * (hi - mid) + n * (mid - lo) := by rw [← Nat.mul_add]; congr 1; omega
  rw [e, Int.pow_add] at hx
  exact Int.ediv_lt_of_lt_mul (Int.pow_pos (by decide)) hx
theorem div_mod_pow (x : Int) (k : Nat) : x % 2 ^ k + 2 ^ k * (x / 2 ^ k) = x := Int.emod_add_mul_ediv x (2 ^ k)
theorem countFacts {x : Int} {n b k : Nat} (hn : 0 < n) (h0 : 0 ≤ x) (hb : b = Builtin.Int.intBits x) (hk : k = (b + n - 1) / n) (h3 : b ≤ 2 ^ 21) (h2 : n < 64) : n * k ≤ 2 ^ 22 ∧ x < 2 ^ (n * k) ∧ k ≤ 2 ^ 22 ∧ (x ≠ 0 → 0 < k) := by
  have h1 := Nat.div_add_mod (b + n - 1) n
  have h4 := Nat.mod_lt (b + n - 1) hn
  rw [← hk] at h1
  have h5 : b ≤ n * k := by omega
  have h6 : x.natAbs < 2 ^ b := intBits_le_iff.mp (by omega)
  have h7 : (2 : Nat) ^ b ≤ 2 ^ (n * k) := Nat.pow_le_pow_right (by decide) h5
  have h8 : x < ((2 ^ (n * k) : Nat) : Int) := by omega
  refine ⟨by omega, by simpa using h8, ?_, fun hx => ?_⟩
  · have : k ≤ n * k := Nat.le_mul_of_pos_left _ hn
    omega
  · false_or_by_contra
    have hk0 : k = 0 := by omega
    subst hk0
    have : b = 0 := by omega
    rw [this] at h6
    omega
theorem fdiv_nat {b n : Nat} (hn : 0 < n) : ((b : Int) + n - 1).fdiv n = (((b + n - 1) / n : Nat) : Int) := by
  rw [Int.fdiv_eq_ediv_of_nonneg _ (by omega)]
  have e : ((b : Int) + n - 1) = ((b + n - 1 : Nat) : Int) := by omega
  rw [e]; simp
theorem ints_replicate {k : Nat} {t : Tok} : IntsAre (List.replicate k (Value.int 0 t)) (List.replicate k 0) := by
  induction k with
  | zero => exact .nil
  | succ k ih => rw [List.replicate_succ, List.replicate_succ]; exact .cons 0 t ih
/-- the number that the digits stand for, the lowest first, n bits each -/
def val (n : Nat) : List Int → Int
  | [] => 0
  | d :: r => d + 2 ^ n * val n r
theorem val_append (n : Nat) : ∀ xs ys : List Int, val n (xs ++ ys) = val n xs + 2 ^ (n * xs.length) * val n ys
  | [], ys => by simp [val]
  | x :: xs, ys => by
    rw [List.cons_append, val, val, val_append n xs ys, List.length_cons, Nat.mul_add, Nat.mul_one, Int.pow_add]
    rw [Int.mul_add, Int.mul_comm (2 ^ (n * xs.length) : Int) (2 ^ n), Int.mul_assoc, Int.add_assoc]

theorem val_bounds {n : Nat} : ∀ {ds : List Int}, (∀ y ∈ ds, 0 ≤ y ∧ y < 2 ^ n) → 0 ≤ val n ds ∧ val n ds < 2 ^ (n * ds.length)
  | [], _ => by simp [val]
  | d :: r, h => by
    have h1 := h d (.head _)
    have h2 := val_bounds (n := n) (ds := r) fun y hy => h y (.tail _ hy)
    have hp : (0 : Int) < 2 ^ n := Int.pow_pos (by decide)
    have h3 : 0 ≤ 2 ^ n * val n r := Int.mul_nonneg (by omega) h2.1
    have h4 : 2 ^ n * (val n r + 1) ≤ (2 ^ n * 2 ^ (n * r.length) : Int) := Int.mul_le_mul_of_nonneg_left (by omega) (by omega)
    rw [List.length_cons, Nat.mul_add, Nat.mul_one, Int.pow_add, Int.mul_comm (2 ^ (n * r.length) : Int), val]
    rw [Int.mul_add, Int.mul_one] at h4
    omega
theorem seg_cut {ns : List Int} {lo mid hi : Nat} (h1 : lo ≤ mid) (h2 : mid ≤ hi) (h3 : hi ≤ ns.length) : (ns.take hi).drop lo = (ns.take mid).drop lo ++ (ns.take hi).drop mid := by
  have e : ns.take hi = ns.take mid ++ (ns.take hi).drop mid := by
    have := List.take_append_drop mid (ns.take hi)
    rw [List.take_take, Nat.min_eq_left h2] at this
    exact this.symm
  conv => lhs; rw [e]
  rw [List.drop_append_of_le_length (by rw [List.length_take]; omega)]
theorem seg_cutLen {ns : List Int} {lo hi : Nat} (h3 : hi ≤ ns.length) : ((ns.take hi).drop lo).length = hi - lo := by
  rw [List.length_drop, List.length_take]; omega
theorem seg_cutOne {ns : List Int} {lo : Nat} (h : lo < ns.length) : (ns.take (lo + 1)).drop lo = [ns.getD lo 0] := by
  rw [List.drop_take, show lo + 1 - lo = 1 by omega, List.getD_eq_getElem?_getD, List.getElem?_eq_getElem h]
  simp only [Option.getD_some]
  rw [List.drop_eq_getElem_cons h]; rfl
theorem seg_mem {ns : List Int} {lo hi : Nat} {P : Int → Prop} (h : ∀ y ∈ ns, P y) : ∀ y ∈ (ns.take hi).drop lo, P y := fun y hy => h y (List.mem_of_mem_take (List.mem_of_mem_drop hy))
theorem bitsSeg {n : Nat} {ds : List Int} (h : ∀ y ∈ ds, 0 ≤ y ∧ y < 2 ^ n) (hl : n * ds.length ≤ 2 ^ 22) : Builtin.Int.intBits (val n ds) ≤ 2 ^ 22 :=
  Nat.le_trans (bits_of_lt (val_bounds h).1 (val_bounds h).2) hl
theorem lshBound2 {x sh : Int} (hx : Builtin.Int.intBits x ≤ 2 ^ 22) (hsh : sh ≤ 2 ^ 22) : (Builtin.Int.intBits x : Int) + sh ≤ 2 ^ 27 := by omega
theorem seg_one {ns : List Int} {lo : Nat} (h : lo < ns.length) (x : Int) : ns.set lo x = ns.take lo ++ [x] ++ ns.drop (lo + 1) := by
  rw [List.set_eq_take_append_cons_drop, if_pos h]; simp

theorem seg_join {ns ds es : List Int} {lo mid hi : Nat} (h1 : lo ≤ mid) (h2 : mid ≤ hi) (h3 : hi ≤ ns.length) (hd : ds.length = mid - lo) :
    (ns.take lo ++ ds ++ ns.drop mid).take mid ++ es ++ (ns.take lo ++ ds ++ ns.drop mid).drop hi = ns.take lo ++ (ds ++ es) ++ ns.drop hi := by
  have hl : (ns.take lo ++ ds).length = mid := by rw [List.length_append, List.length_take, hd]; omega
  rw [List.take_left' hl, List.drop_append, hl, List.drop_drop]
  rw [List.drop_of_length_le (by omega), List.nil_append, show mid + (hi - mid) = hi by omega]
  simp
theorem seg_len {ns ds : List Int} {lo hi : Nat} (h1 : lo ≤ hi) (h3 : hi ≤ ns.length) (hd : ds.length = hi - lo) : (ns.take lo ++ ds ++ ns.drop hi).length = ns.length := by
  rw [List.length_append, List.length_append, List.length_take, List.length_drop, hd]; omega
theorem mulGs {prog : Program} {w : World} {A : Around} {E : Value → Shared → Prop} {s : Shared} {lo hi n len : Nat} {t u : Tok} {Q : Value → Shared → Prop} (hlo : lo < hi) (hhi : hi ≤ len) (hnn : n * len ≤ 2 ^ 22) (hm : IntMulOk ((((lo + hi) / 2 : Nat) : Int) - lo) n)
    (h : ∀ v, v = ((((lo + hi) / 2 : Nat) : Int) - lo) * n → 0 ≤ v ∧ v ≤ 2 ^ 22 ∧ v.toNat = n * ((lo + hi) / 2 - lo) → Q (.int v s.toks) { s with toks := s.toks + 1 }) : wpAny (model prog w) A (binaryOp .Mult (.int ((((lo + hi) / 2 : Nat) : Int) - lo) t) (.int n u)) Q E s :=
  PyProof.Rows.mul_int (h _ rfl (shiftFacts hlo hhi hnn rfl)) hm
theorem midLt {lo hi : Nat} (h : lo < hi) (h1 : (lo : Int) + 1 ≠ hi) : lo < (lo + hi) / 2 ∧ (lo + hi) / 2 < hi := by omega
theorem midLo {lo hi d : Nat} (h : lo < hi) (h2 : hi - lo ≤ 2 ^ (d + 1)) : (lo + hi) / 2 - lo ≤ 2 ^ d := by rw [Nat.pow_succ] at h2; generalize 2 ^ d = k at *; omega
theorem midHi {lo hi d : Nat} (h : lo < hi) (h2 : hi - lo ≤ 2 ^ (d + 1)) : hi - (lo + hi) / 2 ≤ 2 ^ d := by rw [Nat.pow_succ] at h2; generalize 2 ^ d = k at *; omega
theorem midSum {lo hi x y : Nat} (h : lo < hi) (h1 : x = (lo + hi) / 2 - lo) (h2 : y = hi - (lo + hi) / 2) : x + y = hi - lo := by omega
theorem midLe {lo hi : Nat} (h : lo < hi) : lo ≤ (lo + hi) / 2 ∧ (lo + hi) / 2 ≤ hi := by omega
end
section
abbrev tupObj (vs : List Value) (n : Nat) : Obj := { cls := .type "tuple", data := .seq vs.toArray n }
abbrev qI2 : Str := (Str.ofString "_int2digits" ++ Str.ofString ".<locals>.") ++ Str.ofString "inner"
abbrev qI3 : Str := (Str.ofString "_digits2int" ++ Str.ofString ".<locals>.") ++ Str.ofString "inner"

/-- the code table at P: empty, or with the one nested def's code -/
def Tab (P : Addr) (ln cl : Int) (q : Str) (T : List (Addr × Obj)) : Prop :=
  T = [(P, tabObj #[])] ∨ ∃ c' oc vs t, T = [(P, tabObj #[rawInt ln, rawInt cl, .ref c']), (c', oc)] ∧ oc.data = .fields vs ∧ vs[1]? = some (.str q t) ∧ c' ≠ P

/-- inner of _int2digits -/
def InnerC (prog : Program) (w : World) (K : Frag) (p : Program) (loose : List Str) (mean : ExcName → Option Value) (mg mb : Str → Option Value) (n : Nat) (f l cA cI cN c' : Addr) (fo oA oI oN oc : Obj) (d : Nat) : Prop :=
  ∀ (x : Int) (lo hi : Nat) (tx tl th : Tok) (vs : List Value) (ns : List Int) (e : Nat),
    0 ≤ x → x < 2 ^ (n * (hi - lo)) → lo < hi → hi ≤ ns.length → hi - lo ≤ 2 ^ d → IntsAre vs ns → n * ns.length ≤ 2 ^ 22 → 0 < n →
    Ctr prog w K p loose mean mg mb f (d + 2) (8 * (d + 2)) [.int x tx, .int lo tl, .int hi th] [(l, listOf vs.toArray e), (f, fo), (c', oc), (cA, oA), (cI, oI), (cN, oN)]
      (fun r hd' => r = .none ∧ ∃ vs' ds, hd' = [(l, listOf vs'.toArray e), (f, fo), (c', oc), (cA, oA), (cI, oI), (cN, oN)] ∧ IntsAre vs' (ns.take lo ++ ds ++ ns.drop hi) ∧ ds.length = hi - lo ∧ val n ds = x ∧ ∀ y ∈ ds, 0 ≤ y ∧ y < 2 ^ n)

theorem innerC_all {prog : Program} {w : World} {K : Frag} {p : Program} {loose : List Str} {mean : ExcName → Option Value} {mg mb : Str → Option Value} {n : Nat} {f l cA cI cN c' : Addr} {fo oA oI oN oc : Obj}
    (step : ∀ d, (∀ d', d = d' + 1 → InnerC prog w K p loose mean mg mb n f l cA cI cN c' fo oA oI oN oc d') → InnerC prog w K p loose mean mg mb n f l cA cI cN c' fo oA oI oN oc d) (d : Nat) : InnerC prog w K p loose mean mg mb n f l cA cI cN c' fo oA oI oN oc d := by
  induction d with
  | zero => exact step 0 fun d' h => by omega
  | succ d ih => exact step (d + 1) fun d' h => by have : d' = d := by omega
                                                   rw [this]; exact ih

theorem inner_use {w : World} {p : Program} {loose : List Str} {mean : ExcName → Option Value} {mg mb : Str → Option Value} {K : Frag} {prog : Program} {n d : Nat} {f l cA cI cN c' : Addr} {fo oA oI oN oc : Obj} {g : Heap} {L : Addr} {h : Heap} {news : List (Addr × Obj)} {P : Prop}
    (Nq : News g L h news) (hmq : (f, fo) ∈ news) {tn : Tok} (dA : oA.data = .cell (some (.ref l))) (dI : oI.data = .cell (some (.ref f))) (dN : oN.data = .cell (some (.int n tn))) (hAq : (cA, oA) ∈ news) (hIq : (cI, oI) ∈ news) (hNq : (cN, oN) ∈ news) (step : oA.data = .cell (some (.ref l)) → oI.data = .cell (some (.ref f)) → oN.data = .cell (some (.int n tn)) → ∀ d, (∀ d', d = d' + 1 → InnerC prog w K p loose mean mg mb n f l cA cI cN c' fo oA oI oN oc d') → InnerC prog w K p loose mean mg mb n f l cA cI cN c' fo oA oI oN oc d)
    (h : oA.data = .cell (some (.ref l)) → oI.data = .cell (some (.ref f)) → oN.data = .cell (some (.int n tn)) → InnerC prog w K p loose mean mg mb n f l cA cI cN c' fo oA oI oN oc d → P) : P := h dA dI dN (innerC_all (step dA dI dN) d)

/-- inner of _digits2int -/
def InnerD (prog : Program) (w : World) (K : Frag) (p : Program) (loose : List Str) (mean : ExcName → Option Value) (mg mb : Str → Option Value) (n : Nat) (f l cA cI cN c' : Addr) (fo oA oI oN oc : Obj) (vs : List Value) (ns : List Int) (e : Nat) (d : Nat) : Prop :=
  ∀ (lo hi : Nat) (tl th : Tok), lo < hi → hi ≤ ns.length → hi - lo ≤ 2 ^ d →
    Ctr prog w K p loose mean mg mb f (d + 2) (8 * (d + 2)) [.int lo tl, .int hi th] [(l, listOf vs.toArray e), (f, fo), (c', oc), (cA, oA), (cI, oI), (cN, oN)]
      (fun r hd' => hd' = [(l, listOf vs.toArray e), (f, fo), (c', oc), (cA, oA), (cI, oI), (cN, oN)] ∧ ∃ t, r = .int (val n ((ns.take hi).drop lo)) t)

theorem innerD_all {prog : Program} {w : World} {K : Frag} {p : Program} {loose : List Str} {mean : ExcName → Option Value} {mg mb : Str → Option Value} {n : Nat} {f l cA cI cN c' : Addr} {fo oA oI oN oc : Obj} {vs : List Value} {ns : List Int} {e : Nat}
    (step : ∀ d, (∀ d', d = d' + 1 → InnerD prog w K p loose mean mg mb n f l cA cI cN c' fo oA oI oN oc vs ns e d') → InnerD prog w K p loose mean mg mb n f l cA cI cN c' fo oA oI oN oc vs ns e d) (d : Nat) : InnerD prog w K p loose mean mg mb n f l cA cI cN c' fo oA oI oN oc vs ns e d := by
  induction d with
  | zero => exact step 0 fun d' h => by omega
  | succ d ih => exact step (d + 1) fun d' h => by have : d' = d := by omega
                                                   rw [this]; exact ih

theorem innerD_use {w : World} {p : Program} {loose : List Str} {mean : ExcName → Option Value} {mg mb : Str → Option Value} {K : Frag} {prog : Program} {n d : Nat} {f l cA cI cN c' : Addr} {fo oA oI oN oc : Obj} {vs : List Value} {ns : List Int} {e : Nat} {g : Heap} {L : Addr} {h : Heap} {news : List (Addr × Obj)} {P : Prop}
    (Nq : News g L h news) (hmq : (f, fo) ∈ news) {tn : Tok} (dA : oA.data = .cell (some (.ref l))) (dI : oI.data = .cell (some (.ref f))) (dN : oN.data = .cell (some (.int n tn))) (hAq : (cA, oA) ∈ news) (hIq : (cI, oI) ∈ news) (hNq : (cN, oN) ∈ news)
    (step : oA.data = .cell (some (.ref l)) → oI.data = .cell (some (.ref f)) → oN.data = .cell (some (.int n tn)) → ∀ d, (∀ d', d = d' + 1 → InnerD prog w K p loose mean mg mb n f l cA cI cN c' fo oA oI oN oc vs ns e d') → InnerD prog w K p loose mean mg mb n f l cA cI cN c' fo oA oI oN oc vs ns e d)
    (h : oA.data = .cell (some (.ref l)) → oI.data = .cell (some (.ref f)) → oN.data = .cell (some (.int n tn)) → InnerD prog w K p loose mean mg mb n f l cA cI cN c' fo oA oI oN oc vs ns e d → P) : P := h dA dI dN (innerD_all (step dA dI dN) d)
end
section
/-- a stop of the walk -/
def Hold (P : Prop) : Prop := P
theorem hold {P : Prop} (h : Hold P) : P := h
section
variable {M : Model} {A : Around} {E : Value → Shared → Prop} {s : Shared} {h₀ : Heap} {L a c P : Addr} {m mg mb : Str → Option Value} {cn : Str} {cs : Scope} {ccd : Value} {cl : List (Str × Addr)} {own Tb : List (Addr × Obj)}
  {p : Program} {loose : List Str} {mean : ExcName → Option Value} {name q : Str} {params : Arguments} {body : List Stmt} {scope : Scope} {pos : Pos} {firstLine : Nat} {clos : List (Str × Addr)} {ln cl0 : Int}
theorem updLast {P : Addr} {o : Obj} : ∀ {own : List (Addr × Obj)}, (∀ x ∈ own, x.1 ≠ P) → UpdF P o (own ++ [(P, o)]) (fun o' => own ++ [(P, o')])
  | [], _ => .head fun _ h => nomatch h
  | x :: r, h => .tail (h x (.head _)) (updLast fun y hy => h y (.tail _ hy))
/-- a def within a def: the first time its code is made and laid in the table, later it is found there; both ways end alike -/
theorem nestTab {Q : Value → Shared → Prop} (hT : Tab P ln cl0 q Tb) (F : Fr h₀ L s.heap m) (N : News h₀ L s.heap (own ++ Tb)) (D : Off own Tb) (T : Top p loose mean mg mb h₀) (C : CodeHd h₀ c P) (hcd : ccd = .ref c)
    (hp1 : (pos.line : Int) = ln) (hp2 : (pos.col : Int) = cl0) (hcl : closureFor scope (envX cn cs L a ccd cl) = pure clos)
    (h : ∀ f c' oc vs t ctv doc h' tk, Fr h₀ L h' m →
      News h₀ L h' ((f, fnMade name q params body scope clos doc ((mg "__name__").getD .none) c' ctv) :: (c', oc) :: (P, tabObj #[rawInt ln, rawInt cl0, .ref c']) :: own) →
      oc.data = .fields vs → vs[1]? = some (.str q t) → (∀ x ∈ own, (@Ne Nat x.1 c') ∧ (@LT.lt Nat instLTNat x.1 f)) → (∀ x ∈ own, @Ne Nat x.1 P) → (@Ne Nat c' P) → (@LT.lt Nat instLTNat c' f) → (@LT.lt Nat instLTNat P f) → Q (.ref f) { s with heap := h', toks := tk }) :
    wpAny M A (makeFunction name q params (.stmts body) scope (envX cn cs L a ccd cl) [] [] [] pos firstLine) Q E s := by
  subst hp1 hp2
  have hP : ∀ x ∈ own, x.1 ≠ P := by
    rcases hT with rfl | ⟨c0, oc0, vs0, t0, rfl, d1, d2, hne⟩ <;> exact fun x hx => D x hx _ (.head _)
  rcases hT with rfl | ⟨c0, oc0, vs0, t0, rfl, d1, d2, hne⟩
  · refine nest_K F N T C hcd (updLast hP) (by simp [TriplesOk]) (by simp [codeAmong]) hcl fun f c' oc vs t ctv doc h' tk F' N' e1 e2 l1 l2 => ?_
    refine h f c' oc vs t ctv doc h' tk F' (newsSub N' fun x hx => ?_) e1 e2 (fun x hx => ?_) hP (Nat.ne_of_gt (l1 (P, _) (List.mem_append_right _ (.head _)))) l2 (Nat.lt_trans (l1 (P, _) (List.mem_append_right _ (.head _))) l2)
    · rcases List.mem_cons.mp hx with rfl | hx
      · exact .head _
      · rcases List.mem_cons.mp hx with rfl | hx
        · exact .tail _ (.head _)
        · rcases List.mem_cons.mp hx with rfl | hx
          · exact .tail _ (.tail _ (List.mem_append_right _ (.head _)))
          · exact .tail _ (.tail _ (List.mem_append_left _ hx))
    · have := l1 x (List.mem_append_left _ hx)
      exact ⟨Nat.ne_of_lt this, Nat.lt_trans this l2⟩
  · refine nestHit_K (c' := c0) F N T C hcd (List.mem_append_right _ (.head _)) (by simp [TriplesOk, rawInt]) (by simp [codeAmong, rawInt]) hcl fun f ctv doc h' tk F' N' l1 => ?_
    refine h f c0 oc0 vs0 t0 ctv doc h' tk F' (newsSub N' fun x hx => ?_) d1 d2 (fun x hx => ?_) hP hne (l1 (c0, _) (List.mem_append_right _ (.tail _ (.head _)))) (l1 (P, _) (List.mem_append_right _ (.head _)))
    · rcases List.mem_cons.mp hx with rfl | hx
      · exact .head _
      · rcases List.mem_cons.mp hx with rfl | hx
        · exact .tail _ (List.mem_append_right _ (.tail _ (.head _)))
        · rcases List.mem_cons.mp hx with rfl | hx
          · exact .tail _ (List.mem_append_right _ (.head _))
          · exact .tail _ (List.mem_append_left _ hx)
    · exact ⟨fun e => D x hx (c0, oc0) (.tail _ (.head _)) e, l1 x (List.mem_append_left _ hx)⟩
end
theorem ltNe3 {T : List (Addr × Obj)} {L : Addr} (h : ∀ p ∈ T, p.1 < L) : (∀ p ∈ T, p.1 ≠ L + 1) ∧ (∀ p ∈ T, p.1 ≠ L + 1 + 1) ∧ (∀ p ∈ T, p.1 ≠ L + 1 + 1 + 1) :=
  ⟨fun p hp => Nat.ne_of_lt (Nat.lt_succ_of_lt (h p hp)), fun p hp => Nat.ne_of_lt (Nat.lt_succ_of_lt (Nat.lt_succ_of_lt (h p hp))), fun p hp => Nat.ne_of_lt (Nat.lt_succ_of_lt (Nat.lt_succ_of_lt (Nat.lt_succ_of_lt (h p hp))))⟩
end
local macro_rules | `(tactic| walk_at $s:str) => `(tactic| k_extra $s)
section
variable {w : World} {p : Program} {loose : List Str} {mean : ExcName → Option Value} {mg mb : Str → Option Value}


theorem div2n1n_ctr (x y n : Int) (tx ty tn : Tok) (h1 : y ≠ 0) (h2 : y.natAbs < 1073741824) (h3 : (Builtin.Int.intBits x : Int) - n ≤ 4000) :
    Ctr PySem.Challenge.rw_ga0003_02.row.prog w (hd.heap_39 w.params) p loose mean mg mb 21 8 64 [.int x tx, .int y ty, .int n tn] []
      (fun r hd' => ∃ l t1 t2 e, r = .ref l ∧ hd' = [(l, tupObj [.int (Int.fdiv x y) t1, .int (Int.fmod x y) t2] e)]) := by
  k_with_none
  k_with "tb_start_1" => (refine wpAny_call ?_; k_dflt (refine' codeF_def ?w1k1 ?w1k2 ?w1k3 ?w1k4 ?w1kD ?w1k5 ?w1kA ?w1kF ?w1kK ?w1k6 ?w1k7 ?w1k8 ?w1k9 ?w1kB ?_ ?w1c2 ?w1c3 ?w1c4 ?w1c5; (case w1kA => exact rfl); (case w1kF => exact rfl); (case w1kK => assumption); (case w1k1 => k_asm); (case w1k2 => k_asm); (case w1k3 => k_asm); (case w1k4 => k_asm); (case w1kD => assumption); (case w1k5 => k_asm); (case w1k6 => k_is); (case w1k7 => k_is); (case w1k8 => ktr_room); (case w1k9 => first | exact BindsTo.of_eq rfl | exact binds_K (by k_in) rfl (by k_is) rfl rfl rfl | (refine' kp_binds ?w1kx ?w1ke; (case w1kx => k_in); (case w1ke => exact fun _ => rfl))); (case w1c5 => decide); (case w1kB => exact locs rfl); (case w1c2 => exact rfl); (case w1c3 => exact rfl); (case w1c4 => exact rfl); k_whole; intro _ _ _ _ _ _ _ _ _ _ l1; (try dsimp only); (try k_lt l1); revert l1; intro _; (try k_fold)))
  k_with "spliced" => (first | refine args_cons ?_ | refine args_nil ⟨Fr.keep (by assumption) _ _ (by assumption), ?_⟩ | (refine args_nil ?_; try simp only [List.cons_append, List.nil_append]))
  k_fill
  intro dp un gd cn cs a ccd cl outer A₀ base h₀ L m s rest Q E B C1 C2 F X N D T hk hdp hun hret
  k_extra "tb_start_1"
  have NR : News h₀ L s.heap rest := newsSub N fun p hp => List.mem_append_right _ hp
  k_steps
  exact ctr_ret hret NR (by assumption) (by assumption) (by assumption) (by assumption) (by assumption) ⟨_, _, _, _, rfl, rfl⟩
end
local macro_rules | `(tactic| k_all) => `(tactic| first | assumption | ((with_reducible refine List.forall_mem_append.mpr ⟨?ka, ?kb⟩); (case ka => k_all); (case kb => k_all)) | ((with_reducible refine List.forall_mem_cons.mpr ⟨?ka, ?kb⟩); (case ka => (first | assumption | (refine Ne.symm ?_; assumption) | k_ne)); (case kb => k_all)))
section
section
variable {w : World} {p : Program} {loose : List Str} {mean : ExcName → Option Value} {mg mb : Str → Option Value}

theorem int2digits_ctr (x : Int) (n : Nat) (tx tn : Tok) (Tb : List (Addr × Obj)) (hT : Tab 30 32 4 qI2 Tb) (h0 : 0 ≤ x) (h1 : 0 < n) (h2 : n < 64) (h3 : Builtin.Int.intBits x ≤ 2 ^ 21) :
    Ctr PySem.Challenge.rw_ga0003_02.row.prog w (hd.heap_39 w.params) p loose mean mg mb 35 64 512 [.int x tx, .int n tn] Tb
      (fun r hd' => ∃ l vs ds e T', r = .ref l ∧ hd' = (l, listOf vs.toArray e) :: T' ∧ Tab 30 32 4 qI2 T' ∧ IntsAre vs ds ∧ val n ds = x ∧ (∀ y ∈ ds, 0 ≤ y ∧ y < 2 ^ n) ∧ ds.length ≤ 2 ^ 22 ∧ n * ds.length ≤ 2 ^ 22) := by
  k_with_none
  k_with "tb_rel_1" => (refine wpAny_call ?_; k_dflt (refine' codeF_defC ?w1k1 ?w1k2 ?w1k3 ?w1k4 ?w1kE ?w1k5 ?w1kA ?w1kF ?w1kK ?w1k6 ?w1k7 ?w1k8 ?w1k9 ?w1kB ?w1kD ?_ ?w1c2 ?w1c3 ?w1c4; (case w1kA => exact rfl); (case w1kF => exact rfl); (case w1kK => assumption); (case w1k1 => k_asm); (case w1k2 => k_asm); (case w1k3 => k_asm); (case w1k4 => k_asm); (case w1kE => assumption); (case w1k5 => k_asm); (case w1k6 => k_is); (case w1k7 => k_is); (case w1k8 => ktr_room); (case w1k9 => first | exact BindsTo.of_eq rfl | exact binds_K (by k_in) rfl (by k_is) rfl rfl rfl | (refine' kp_binds ?w1kx ?w1ke; (case w1kx => k_in); (case w1ke => exact fun _ => rfl))); (case w1kB => exact rfl); (case w1kD => decide +kernel); (case w1c2 => exact rfl); (case w1c3 => exact rfl); (case w1c4 => exact rfl); k_whole; intro _ _ _ _ _ _ _ N' Y' _ _ _ _ l1; (try k_lt l1); revert l1; intro _; k_cells Y'; (try simp only [List.cons_append, List.nil_append] at N'); revert N'; intro _; (try dsimp only); (try k_fold)))
  k_with "kwd_rel_2" => (refine wpAny_call ?_; k_dflt (refine' codeF_nest ?w2k1 ?w2k2 ?w2k3 ?w2k4 ?w2kD ?w2k5 ?w2kA ?w2kF ?w2kK ?w2k6 ?w2k7 ?w2k8 ?w2k9 ?w2kB ?_ ?w2c2 ?w2c3 ?w2c4 ?w2c5; (case w2kA => exact rfl); (case w2kF => exact rfl); (case w2kK => first | exact rfl | assumption); (case w2k1 => k_asm); (case w2k2 => k_asm); (case w2k3 => k_asm); (case w2k4 => k_asm); (case w2kD => assumption); (case w2k5 => k_asm); (case w2k6 => k_mem); (case w2k7 => exact codeRec_news (by k_asm) (by k_mem) (by assumption) (by assumption)); (case w2k8 => ktr_room); (case w2k9 => exact BindsTo.of_eq rfl); (case w2c5 => decide); (case w2kB => exact locs rfl); (case w2c2 => exact rfl); (case w2c3 => exact rfl); (case w2c4 => exact rfl); k_whole; intro _ _ _ _ _ _ _ _ _ _ l1; (try dsimp only); (try k_lt l1); revert l1; intro _; (try k_fold)))
  k_with "spliced" => (first | refine args_cons ?_ | refine args_nil ⟨Fr.keep (by assumption) _ _ (by assumption), ?_⟩ | (refine args_nil ?_; try simp only [List.cons_append, List.nil_append]))
  k_with "binaryOp Mult int int" => ((refine mulGs (by assumption) (by assumption) (by assumption) (IntMulOk.of_right (intBits_le_64 (by omega) (by omega))) ?_; intros))
  k_with "binaryOp RShift int int" => ((refine rshG (by omega) ?_; intros))
  k_with "binaryOp RShift int int" => ((refine rshN ?_))
  k_with "binaryOp LShift int int" => ((refine lshG (by omega) (lshBound (by assumption) (by assumption) (by omega)) ?_; intros))
  k_with "binaryOp BitXor int int" => ((refine xorG (by assumption) (by subst_vars; rfl) ?_; intros))
  k_with "setItem ref int" => ((k_dflt (refine' ksa_set ?k1 ?k2 ?k3 ?k4 ?k5 ?k6 ?k7 ?_; (case k1 => k_asm); (case k2 => k_asm); (case k3 => k_upd); (case k4 => assumption); (case k5 => omega); (case k6 => omega); (case k7 => omega)); intros))
  k_with "exec FunctionDef" => (k_here; kn_here; k_dflt (refine nestDef_K (by exact rfl) (by exact rfl) (by exact rfl) ?_); refine hold ?_)
  k_fill
  intro dp un gd cn cs a ccd cl outer A₀ base h₀ L m s rest Q E B C1 C2 F X N D T hk hdp hun hret
  have hn0 : (n : Int) ≠ 0 := by omega
  obtain ⟨k, hkd⟩ : ∃ k, k = (Builtin.Int.intBits x + n - 1) / n := ⟨_, rfl⟩
  obtain ⟨ck1, ck2, ck3, ck4⟩ := countFacts h1 h0 rfl hkd h3 h2
  k_extra "tb_rel_1"
  rename (∀ (p : Addr × Obj), p ∈ Tb → p.1 < _) => lTb
  obtain ⟨hc1, hc2, hc3⟩ := ltNe3 lTb
  have NR : News h₀ L s.heap rest := newsSub N fun p hp => List.mem_append_right _ hp
  k_steps
  refine mulK (k := k) (by k_asm) (by k_asm) (ixMem 0 rfl) (by rw [hkd]; exact fdiv_nat h1) (by omega) ?_
  intro l' h' vl F' hvl N' l1
  (try k_lt l1)
  have hvlen : vl.length = k := by rw [hvl, List.length_replicate]
  have hIl : IntsAre vl (List.replicate k 0) := by rw [hvl]; exact ints_replicate
  k_steps
  unfold Hold
  rename_i gg LL hh5 tk5 FG5 B5 X5 T5 RR5 oI oA0 oN dI0 dA0 dN0 l00 h00 l100 hA oA FA NA dA
  k_dflt (refine nestTab (own := [(l', listOf vl.toArray 0), (l00, listOf [.int 0 _].toArray 0), (LL + 1 + 1 + 1, oI), (LL + 1 + 1, oA), (LL + 1, oN)]) hT FA NA (Off.cons (fun q hq => Nat.ne_of_lt (kst_ltOf l1.2.2.2.2 q hq)) (Off.cons (fun q hq => Nat.ne_of_lt (kst_ltOf l100.2.2.2 q hq)) (Off.cons hc3 (Off.cons hc2 (Off.cons hc1 (offNil _)))))) T5 (by kn_code) rfl rfl rfl rfl ?_)
  intro fI cI ocI vsI tI ctI dcI h1' tk1 FN NN d1 d2 lown lP hcP lcf lPf
  obtain ⟨g0, f0⟩ : (@Ne Nat (l') cI) ∧ (@LT.lt Nat instLTNat (l') fI) := lown _ (.head _)
  have p0 : @Ne Nat (l') 30 := lP _ (.head _)
  obtain ⟨g1, f1⟩ : (@Ne Nat (l00) cI) ∧ (@LT.lt Nat instLTNat (l00) fI) := lown _ (.tail _ (.head _))
  have p1 : @Ne Nat (l00) 30 := lP _ (.tail _ (.head _))
  obtain ⟨g2, f2⟩ : (@Ne Nat (LL + 1 + 1 + 1) cI) ∧ (@LT.lt Nat instLTNat (LL + 1 + 1 + 1) fI) := lown _ (.tail _ (.tail _ (.head _)))
  have p2 : @Ne Nat (LL + 1 + 1 + 1) 30 := lP _ (.tail _ (.tail _ (.head _)))
  obtain ⟨g3, f3⟩ : (@Ne Nat (LL + 1 + 1) cI) ∧ (@LT.lt Nat instLTNat (LL + 1 + 1) fI) := lown _ (.tail _ (.tail _ (.tail _ (.head _))))
  have p3 : @Ne Nat (LL + 1 + 1) 30 := lP _ (.tail _ (.tail _ (.tail _ (.head _))))
  obtain ⟨g4, f4⟩ : (@Ne Nat (LL + 1) cI) ∧ (@LT.lt Nat instLTNat (LL + 1) fI) := lown _ (.tail _ (.tail _ (.tail _ (.tail _ (.head _)))))
  have p4 : @Ne Nat (LL + 1) 30 := lP _ (.tail _ (.tail _ (.tail _ (.tail _ (.head _)))))
  clear lown lP
  have q30 : @Ne Nat fI 30 := Nat.ne_of_gt lPf
  dsimp only
  k_steps
  · refine lenG (k := k) (by k_asm) (ixMem 3 rfl) hvlen (by omega) ?_
    k_steps
    rename_i h2' oI F2 N2 dI hx0
    k_dflt (refine inner_use (w := w) (p := p) (loose := loose) (mean := mean) (mg := mg) (mb := mb) (K := hd.heap_39 w.params) (prog := PySem.Challenge.rw_ga0003_02.row.prog) (d := 22) (n := n) (f := fI) (l := l') (tn := tn) (c' := cI) (oI := oI) (oc := ocI) N2 (ixMem 0 rfl) (by assumption) (by assumption) (by assumption) (ixMem 6 rfl) (ixMem 5 rfl) (ixMem 7 rfl) ?_ ?_)
    · intro dA dI dN d IH x lo hi tx tl th vs ns e hx0 hx1 hlo hhi hd2 hI hnn hn1
      clear hret F X N T B C1 C2 D hk hdp hun
      intro dp un gd cn cs a ccd cl outer A₀ base h₀ L m s rest Q E B C1 C2 F X N D T hk hdp hun hret
      have hlen : ns.length ≤ 2 ^ 22 := Nat.le_trans (Nat.le_mul_of_pos_left _ hn1) hnn
      have hbx : Builtin.Int.intBits x ≤ 2 ^ 22 := Nat.le_trans (bits_of_lt hx0 hx1) (Nat.le_trans (Nat.mul_le_mul_left n (by omega)) hnn)
      k_extra "kwd_rel_2"
      have NR : News h₀ L s.heap rest := newsSub N fun p hp => List.mem_append_right _ hp
      k_steps
      · rename_i hone tk0 hh F2' N2' hi1 hl1 hs1 kF1 kN1 T1 X1
        have e1 : hi - lo = 1 := by omega
        refine ctr_ret hret NR (by assumption) F2' N2' kF1 kN1 ⟨rfl, _, [x], rfl, ?_, by rw [e1]; rfl, by simp [val], ?_⟩
        · have e2 : hi = lo + 1 := by omega
          rw [e2, ← seg_one (by omega)]
          exact hi1
        · rw [e1, Nat.mul_one] at hx1
          intro y hy
          rw [List.mem_singleton.mp hy]
          exact ⟨hx0, hx1⟩
      · rename_i hne tk0 _ sh hsh hsf _ up hup _ lu hlu lw hlw hh F2' N2'
        obtain ⟨d', rfl⟩ : ∃ d', d = d' + 1 := ⟨d - 1, by
          have : 0 < d := by
            false_or_by_contra
            have : d = 0 := by omega
            subst this
            omega
          omega⟩
        have hml := midLt hlo (by assumption)
        have elw : lw = x % 2 ^ (n * ((lo + hi) / 2 - lo)) := by rw [hlw, ← hsh, hsf.2.2]
        have eup : up = x / 2 ^ (n * ((lo + hi) / 2 - lo)) := by rw [hup, hsf.2.2]
        have hpp : (0 : Int) < 2 ^ (n * ((lo + hi) / 2 - lo)) := Int.pow_pos (by decide)
        k_dflt (refine' IH d' rfl lw lo ((lo + hi) / 2) _ _ _ vs ns e ?q13xa0 ?q13xa1 ?q13xa2 ?q13xa3 ?q13xa4 hI hnn hn1 _ _ _ _ _ _ _ _ _ _ _ _ _ _ _ ([]) _ _ ?q13xk1 ?q13xk2 ?q13xk3 ?q13xk4 ?q13xk5 ?q13xk6 ?q13xk7 ?q13xk8 ?q13xk9 ?q13xk10 ?q13xk11 ?q13xkR)
        case q13xa0 => rw [elw]; exact Int.emod_nonneg _ (by omega)
        case q13xa1 => rw [elw]; exact Int.emod_lt_of_pos _ hpp
        case q13xa2 => first | exact hml.1 | omega
        case q13xa3 => first | exact Nat.le_trans (Nat.le_of_lt hml.2) hhi | omega
        case q13xa4 => first | exact midLo hlo hd2 | omega
        case q13xk1 => k_asm
        case q13xk2 => assumption
        case q13xk3 => assumption
        case q13xk4 => k_asm
        case q13xk5 => k_asm
        case q13xk6 => rw [List.append_nil]; k_asm
        case q13xk7 => exact Off.nilR _
        case q13xk8 => k_asm
        case q13xk9 => first | exact rfl | assumption
        case q13xk10 => ktr_room
        case q13xk11 => ktr_units
        intro r hd' h' tk' F3 N3 D3 ⟨hr, vs1, ds1, ehd, hI1, hl1, hv1, hb1⟩
        subst hr ehd
        rw [List.append_nil] at N3
        dsimp only
        have hlen1 : (ns.take lo ++ ds1 ++ ns.drop ((lo + hi) / 2)).length = ns.length := seg_len (by omega) (by omega) hl1
        k_steps
        k_dflt (refine' IH d' rfl up ((lo + hi) / 2) hi _ _ _ vs1 _ e ?q14xa0 ?q14xa1 ?q14xa2 ?q14xa3 ?q14xa4 hI1 ?q14xa5 hn1 _ _ _ _ _ _ _ _ _ _ _ _ _ _ _ ([]) _ _ ?q14xk1 ?q14xk2 ?q14xk3 ?q14xk4 ?q14xk5 ?q14xk6 ?q14xk7 ?q14xk8 ?q14xk9 ?q14xk10 ?q14xk11 ?q14xkR)
        case q14xa0 => rw [eup]; exact Int.ediv_nonneg hx0 (by omega)
        case q14xa1 => rw [eup]; exact lt_pow_hi hx1 (by omega) (by omega)
        case q14xa2 => first | exact hml.2 | omega
        case q14xa3 => first | exact hhi | omega
        case q14xa4 => first | exact midHi hlo hd2 | omega
        case q14xa5 => rw [hlen1]; exact hnn
        case q14xk1 => k_asm
        case q14xk2 => assumption
        case q14xk3 => assumption
        case q14xk4 => k_asm
        case q14xk5 => k_asm
        case q14xk6 => rw [List.append_nil]; k_asm
        case q14xk7 => exact Off.nilR _
        case q14xk8 => k_asm
        case q14xk9 => first | exact rfl | assumption
        case q14xk10 => ktr_room
        case q14xk11 => ktr_units
        intro r hd' h'' tk'' F4 N4 D4 ⟨hr, vs2, ds2, ehd, hI2, hl2, hv2, hb2⟩
        subst hr ehd
        rw [List.append_nil] at N4
        dsimp only
        k_steps
        refine ctr_ret hret NR (by assumption) (by assumption) (by assumption) (by assumption) (by assumption) ⟨rfl, vs2, ds1 ++ ds2, rfl, ?_, ?_, ?_, ?_⟩
        · rw [← seg_join (by omega) (by omega) (by omega) hl1]; exact hI2
        · rw [List.length_append]; first | exact midSum hlo hl1 hl2 | omega
        · rw [val_append, hl1, hv1, hv2, elw, eup]; exact div_mod_pow x _
        · intro y hy
          exact (List.mem_append.mp hy).elim (hb1 y) (hb2 y)
    · intro dA dI dN HC
      k_dflt (refine' HC x 0 k _ _ _ vl (List.replicate k 0) 0 h0 ?q15xa1 ?q15xa2 ?q15xa3 ?q15xa4 hIl ?q15xa5 h1 _ _ _ _ _ _ _ _ _ _ _ _ _ _ _ ([(30, tabObj #[rawInt 32, rawInt 4, .ref cI])]) _ _ ?q15xk1 ?q15xk2 ?q15xk3 ?q15xk4 ?q15xk5 ?q15xk6 ?q15xk7 ?q15xk8 ?q15xk9 ?q15xk10 ?q15xk11 ?q15xkR)
      case q15xa1 => exact ck2
      case q15xa2 => exact ck4 (by assumption)
      case q15xa3 => rw [List.length_replicate]; exact Nat.le_refl _
      case q15xa4 => omega
      case q15xa5 => rw [List.length_replicate]; exact ck1
      case q15xk1 => k_asm
      case q15xk2 => assumption
      case q15xk3 => assumption
      case q15xk4 => k_asm
      case q15xk5 => k_asm
      case q15xk6 => exact newsSub N2 (ixSub [3, 0, 1, 6, 5, 7, 2] rfl)
      case q15xk7 => (repeat (refine Off.cons (by k_all) ?_)); exact offNil _
      case q15xk8 => k_asm
      case q15xk9 => first | exact rfl | assumption
      case q15xk10 => ktr_room
      case q15xk11 => ktr_units
      intro r hd' h5 tk5 F5 N5 D5 ⟨hr, vs1, ds1, ehd, hI1, hl1, hv1, hb1⟩
      subst hr ehd
      dsimp only
      simp only [List.cons_append, List.nil_append] at N5
      k_steps
      rename_i kF7 kN7 T7 X7
      have hds : (List.replicate k (0 : Int)).take 0 ++ ds1 ++ (List.replicate k (0 : Int)).drop k = ds1 := by
        rw [List.take_zero, List.nil_append, List.drop_of_length_le (by rw [List.length_replicate]; exact Nat.le_refl _), List.append_nil]
      rw [hds] at hI1
      exact ctr_ret (hd' := (l', listOf vs1.toArray 0) :: [(30, tabObj #[rawInt 32, rawInt 4, .ref cI]), (cI, ocI)]) hret NR (by assumption) F5 (newsSub N5 (ixSub [0, 6, 2] rfl)) kF7 (newsSub kN7 (ixSub [0, 6, 2] rfl)) ⟨l', vs1, ds1, 0, _, rfl, rfl, Or.inr ⟨cI, ocI, _, _, rfl, d1, d2, hcP⟩, hI1, hv1, hb1, by omega, by rw [hl1]; exact ck1⟩
  · rename_i h2' oI F2 N2 dI hx0 kF7 kN7 T7 X7
    have hk0 : k = 0 := by
      rw [hkd, hx0]
      show (0 + n - 1) / n = 0
      rw [Nat.zero_add]
      exact Nat.div_eq_of_lt (by omega)
    rw [hk0] at hIl
    exact ctr_ret (hd' := (l', listOf vl.toArray 0) :: [(30, tabObj #[rawInt 32, rawInt 4, .ref cI]), (cI, ocI)]) hret NR (by assumption) F2 (newsSub N2 (ixSub [3, 2, 1] rfl)) kF7 (newsSub kN7 (ixSub [3, 2, 1] rfl)) ⟨l', vl, [], 0, _, rfl, rfl, Or.inr ⟨cI, ocI, _, _, rfl, d1, d2, hcP⟩, hIl, by rw [hx0]; rfl, (fun _ hy => nomatch hy), by simp, by simp⟩
end
end
section
section
variable {w : World} {p : Program} {loose : List Str} {mean : ExcName → Option Value} {mg mb : Str → Option Value}

theorem digits2int_ctr (l : Addr) (vs : List Value) (ns : List Int) (e : Nat) (n : Nat) (tn : Tok) (Tb : List (Addr × Obj)) (hT : Tab 37 47 4 qI3 Tb) (hoff : ∀ q ∈ Tb, l ≠ q.1) (h1 : 0 < n) (h2 : n < 64) (hI : IntsAre vs ns) (hb : ∀ y ∈ ns, 0 ≤ y ∧ y < 2 ^ n) (hnn : n * ns.length ≤ 2 ^ 22) :
    Ctr PySem.Challenge.rw_ga0003_02.row.prog w (hd.heap_39 w.params) p loose mean mg mb 42 64 512 [.ref l, .int n tn] ((l, listOf vs.toArray e) :: Tb)
      (fun r hd' => ∃ Tb' t, r = .int (val n ns) t ∧ hd' = (l, listOf vs.toArray e) :: Tb' ∧ Tab 37 47 4 qI3 Tb') := by
  k_with_none
  k_with "tb_rel_1" => (refine wpAny_call ?_; k_dflt (refine' codeF_defC ?w1k1 ?w1k2 ?w1k3 ?w1k4 ?w1kE ?w1k5 ?w1kA ?w1kF ?w1kK ?w1k6 ?w1k7 ?w1k8 ?w1k9 ?w1kB ?w1kD ?_ ?w1c2 ?w1c3 ?w1c4; (case w1kA => exact rfl); (case w1kF => exact rfl); (case w1kK => assumption); (case w1k1 => k_asm); (case w1k2 => k_asm); (case w1k3 => k_asm); (case w1k4 => k_asm); (case w1kE => assumption); (case w1k5 => k_asm); (case w1k6 => k_is); (case w1k7 => k_is); (case w1k8 => ktr_room); (case w1k9 => first | exact BindsTo.of_eq rfl | exact binds_K (by k_in) rfl (by k_is) rfl rfl rfl | (refine' kp_binds ?w1kx ?w1ke; (case w1kx => k_in); (case w1ke => exact fun _ => rfl))); (case w1kB => exact rfl); (case w1kD => decide +kernel); (case w1c2 => exact rfl); (case w1c3 => exact rfl); (case w1c4 => exact rfl); k_whole; intro _ _ _ _ _ _ _ N' Y' _ _ _ _ l1; (try k_lt l1); revert l1; intro _; k_cells Y'; (try simp only [List.cons_append, List.nil_append] at N'); revert N'; intro _; (try dsimp only); (try k_fold)))
  k_with "kwd_rel_2" => (refine wpAny_call ?_; k_dflt (refine' codeF_nest ?w2k1 ?w2k2 ?w2k3 ?w2k4 ?w2kD ?w2k5 ?w2kA ?w2kF ?w2kK ?w2k6 ?w2k7 ?w2k8 ?w2k9 ?w2kB ?_ ?w2c2 ?w2c3 ?w2c4 ?w2c5; (case w2kA => exact rfl); (case w2kF => exact rfl); (case w2kK => first | exact rfl | assumption); (case w2k1 => k_asm); (case w2k2 => k_asm); (case w2k3 => k_asm); (case w2k4 => k_asm); (case w2kD => assumption); (case w2k5 => k_asm); (case w2k6 => k_mem); (case w2k7 => exact codeRec_news (by k_asm) (by k_mem) (by assumption) (by assumption)); (case w2k8 => ktr_room); (case w2k9 => exact BindsTo.of_eq rfl); (case w2c5 => decide); (case w2kB => exact locs rfl); (case w2c2 => exact rfl); (case w2c3 => exact rfl); (case w2c4 => exact rfl); k_whole; intro _ _ _ _ _ _ _ _ _ _ l1; (try dsimp only); (try k_lt l1); revert l1; intro _; (try k_fold)))
  k_with "spliced" => (first | refine args_cons ?_ | refine args_nil ⟨Fr.keep (by assumption) _ _ (by assumption), ?_⟩ | (refine args_nil ?_; try simp only [List.cons_append, List.nil_append]))
  k_with "binaryOp Mult int int" => ((refine mulGs (by assumption) (by assumption) (by assumption) (IntMulOk.of_right (intBits_le_64 (by omega) (by omega))) ?_; intros))
  k_with "binaryOp RShift int int" => ((refine rshN ?_))
  k_with "binaryOp LShift int int" => ((refine lshG (by omega) (lshBound2 (by assumption) (by omega)) ?_; intros))
  k_with "exec FunctionDef" => (k_here; kn_here; k_dflt (refine nestDef_K (by exact rfl) (by exact rfl) (by exact rfl) ?_); refine hold ?_)
  k_fill
  intro dp un gd cn cs a ccd cl outer A₀ base h₀ L m s rest Q E B C1 C2 F X N D T hk hdp hun hret
  have hlen : ns.length ≤ 2 ^ 22 := Nat.le_trans (Nat.le_mul_of_pos_left _ h1) hnn
  have hvl : vs.length = ns.length := hI.length
  k_extra "tb_rel_1"
  rename (l < _ ∧ _) => lTb
  obtain ⟨hc1, hc2, hc3⟩ := ltNe3 (fun q hq => kst_ltOf lTb.2 q hq)
  have NR : News h₀ L s.heap rest := newsSub N fun p hp => List.mem_append_right _ hp
  k_steps
  unfold Hold
  rename_i gg LL hh5 tk5 FG5 FA B5 X5 T5 RR5 oI oA oN dI dA dN NA
  k_dflt (refine nestTab (own := [(LL + 1 + 1 + 1, oI), (LL + 1 + 1, oA), (LL + 1, oN), (l, listOf vs.toArray e)]) hT FA NA (Off.cons hc3 (Off.cons hc2 (Off.cons hc1 (Off.cons (fun q hq => (hoff q hq).symm) (offNil _))))) T5 (by kn_code) rfl rfl rfl rfl ?_)
  intro fI cI ocI vsI tI ctI dcI h1' tk1 FN NN d1 d2 lown lP hcP lcf lPf
  obtain ⟨g0, f0⟩ : (@Ne Nat (LL + 1 + 1 + 1) cI) ∧ (@LT.lt Nat instLTNat (LL + 1 + 1 + 1) fI) := lown _ (.head _)
  have p0 : @Ne Nat (LL + 1 + 1 + 1) 37 := lP _ (.head _)
  obtain ⟨g1, f1⟩ : (@Ne Nat (LL + 1 + 1) cI) ∧ (@LT.lt Nat instLTNat (LL + 1 + 1) fI) := lown _ (.tail _ (.head _))
  have p1 : @Ne Nat (LL + 1 + 1) 37 := lP _ (.tail _ (.head _))
  obtain ⟨g2, f2⟩ : (@Ne Nat (LL + 1) cI) ∧ (@LT.lt Nat instLTNat (LL + 1) fI) := lown _ (.tail _ (.tail _ (.head _)))
  have p2 : @Ne Nat (LL + 1) 37 := lP _ (.tail _ (.tail _ (.head _)))
  obtain ⟨g3, f3⟩ : (@Ne Nat (l) cI) ∧ (@LT.lt Nat instLTNat (l) fI) := lown _ (.tail _ (.tail _ (.tail _ (.head _))))
  have p3 : @Ne Nat (l) 37 := lP _ (.tail _ (.tail _ (.tail _ (.head _))))
  clear lown lP
  have q30 : @Ne Nat fI 37 := Nat.ne_of_gt lPf
  dsimp only
  k_steps
  · rename_i h2' oI F2 N2 dI hx0
    k_dflt (refine innerD_use (w := w) (p := p) (loose := loose) (mean := mean) (mg := mg) (mb := mb) (K := hd.heap_39 w.params) (prog := PySem.Challenge.rw_ga0003_02.row.prog) (d := 22) (n := n) (f := fI) (l := l) (tn := tn) (c' := cI) (oI := oI) (oc := ocI) (vs := vs) (ns := ns) (e := e) N2 (ixMem 0 rfl) (by assumption) (by assumption) (by assumption) (ixMem 5 rfl) (ixMem 3 rfl) (ixMem 4 rfl) ?_ ?_)
    · intro dA dI dN d IH lo hi tl th hlo hhi hd2
      clear hret F X N T B C1 C2 D hk hdp hun
      intro dp un gd cn cs a ccd cl outer A₀ base h₀ L m s rest Q E B C1 C2 F X N D T hk hdp hun hret
      k_extra "kwd_rel_2"
      have NR : News h₀ L s.heap rest := newsSub N fun p hp => List.mem_append_right _ hp
      k_steps
      · rename_i hone tk0 t3 kF1 kN1 T1 X1
        have e2 : hi = lo + 1 := by omega
        refine ctr_ret hret NR (by assumption) (by assumption) (by assumption) (by assumption) (by assumption) ⟨rfl, _, congrArg (fun z => Value.int z _) ?_⟩
        rw [e2, seg_cutOne (by omega)]
        simp [val]
      · rename_i hne tk0 _ sh hsh hsf hh F2' N2'
        obtain ⟨d', rfl⟩ : ∃ d', d = d' + 1 := ⟨d - 1, by
          have : 0 < d := by
            false_or_by_contra
            have : d = 0 := by omega
            subst this
            omega
          omega⟩
        have hml := midLt hlo (by assumption)
        have hm1 := seg_cutLen (ns := ns) (lo := (lo + hi) / 2) (hi := hi) hhi
        have hm2 := seg_cutLen (ns := ns) (lo := lo) (hi := (lo + hi) / 2) (by omega)
        have hbs : Builtin.Int.intBits (val n ((ns.take hi).drop ((lo + hi) / 2))) ≤ 2 ^ 22 := bitsSeg (seg_mem hb) (Nat.le_trans (Nat.mul_le_mul_left n (by omega)) hnn)
        k_dflt (refine' IH d' rfl ((lo + hi) / 2) hi _ _ ?q7xa2 ?q7xa3 ?q7xa4 _ _ _ _ _ _ _ _ _ _ _ _ _ _ _ ([]) _ _ ?q7xk1 ?q7xk2 ?q7xk3 ?q7xk4 ?q7xk5 ?q7xk6 ?q7xk7 ?q7xk8 ?q7xk9 ?q7xk10 ?q7xk11 ?q7xkR)
        case q7xa2 => first | exact hml.2 | omega
        case q7xa3 => first | exact hhi | omega
        case q7xa4 => first | exact midHi hlo hd2 | omega
        case q7xk1 => k_asm
        case q7xk2 => assumption
        case q7xk3 => assumption
        case q7xk4 => k_asm
        case q7xk5 => k_asm
        case q7xk6 => rw [List.append_nil]; k_asm
        case q7xk7 => exact Off.nilR _
        case q7xk8 => k_asm
        case q7xk9 => first | exact rfl | assumption
        case q7xk10 => ktr_room
        case q7xk11 => ktr_units
        intro r hd' h' tk' F3 N3 D3 ⟨ehd, t3, hr⟩
        subst hr ehd
        rw [List.append_nil] at N3
        dsimp only
        k_steps
        rename_i lv hlv
        k_dflt (refine' IH d' rfl lo ((lo + hi) / 2) _ _ ?q8xa2 ?q8xa3 ?q8xa4 _ _ _ _ _ _ _ _ _ _ _ _ _ _ _ ([]) _ _ ?q8xk1 ?q8xk2 ?q8xk3 ?q8xk4 ?q8xk5 ?q8xk6 ?q8xk7 ?q8xk8 ?q8xk9 ?q8xk10 ?q8xk11 ?q8xkR)
        case q8xa2 => first | exact hml.1 | omega
        case q8xa3 => first | exact Nat.le_trans (Nat.le_of_lt hml.2) hhi | omega
        case q8xa4 => first | exact midLo hlo hd2 | omega
        case q8xk1 => k_asm
        case q8xk2 => assumption
        case q8xk3 => assumption
        case q8xk4 => k_asm
        case q8xk5 => k_asm
        case q8xk6 => rw [List.append_nil]; k_asm
        case q8xk7 => exact Off.nilR _
        case q8xk8 => k_asm
        case q8xk9 => first | exact rfl | assumption
        case q8xk10 => ktr_room
        case q8xk11 => ktr_units
        intro r hd' h'' tk'' F4 N4 D4 ⟨ehd, t4, hr⟩
        subst hr ehd
        rw [List.append_nil] at N4
        dsimp only
        k_steps
        refine ctr_ret hret NR (by assumption) (by assumption) (by assumption) (by assumption) (by assumption) ⟨rfl, _, congrArg (fun z => Value.int z _) ?_⟩
        rw [seg_cut (ns := ns) (lo := lo) (mid := (lo + hi) / 2) (hi := hi) (by omega) (by omega) hhi, val_append, hm2, hlv, hsf.2.2, Int.mul_comm (2 ^ _), Int.add_comm]
    · intro dA dI dN HC
      k_dflt (refine' HC 0 ns.length _ _ ?q9xa2 (Nat.le_refl _) ?q9xa4 _ _ _ _ _ _ _ _ _ _ _ _ _ _ _ ([(37, tabObj #[rawInt 47, rawInt 4, .ref cI])]) _ _ ?q9xk1 ?q9xk2 ?q9xk3 ?q9xk4 ?q9xk5 ?q9xk6 ?q9xk7 ?q9xk8 ?q9xk9 ?q9xk10 ?q9xk11 ?q9xkR)
      case q9xa2 => omega
      case q9xa4 => omega
      case q9xk1 => k_asm
      case q9xk2 => assumption
      case q9xk3 => assumption
      case q9xk4 => k_asm
      case q9xk5 => k_asm
      case q9xk6 => exact newsSub N2 (ixSub [6, 0, 1, 5, 3, 4, 2] rfl)
      case q9xk7 => (repeat (refine Off.cons (by k_all) ?_)); exact offNil _
      case q9xk8 => k_asm
      case q9xk9 => first | exact rfl | assumption
      case q9xk10 => ktr_room
      case q9xk11 => ktr_units
      intro r hd' h5 tk5 F5 N5 D5 ⟨ehd, t5, hr⟩
      subst hr ehd
      dsimp only
      simp only [List.cons_append, List.nil_append] at N5
      k_steps
      rename_i kF7 kN7 T7 X7
      have hds : (ns.take ns.length).drop 0 = ns := by simp
      rw [hds]
      exact ctr_ret (hd' := (l, listOf vs.toArray e) :: [(37, tabObj #[rawInt 47, rawInt 4, .ref cI]), (cI, ocI)]) hret NR (by assumption) F5 (newsSub N5 (ixSub [0, 6, 2] rfl)) kF7 (newsSub kN7 (ixSub [0, 6, 2] rfl)) ⟨_, _, rfl, rfl, Or.inr ⟨cI, ocI, _, _, rfl, d1, d2, hcP⟩⟩
  · rename_i h2' oI F2 N2 dI hx0 kF7 kN7 T7 X7
    have hk0 : ns = [] := List.eq_nil_of_length_eq_zero (by omega)
    exact ctr_ret (hd' := (l, listOf vs.toArray e) :: [(37, tabObj #[rawInt 47, rawInt 4, .ref cI]), (cI, ocI)]) hret NR (by assumption) F2 (newsSub N2 (ixSub [6, 2, 1] rfl)) kF7 (newsSub kN7 (ixSub [6, 2, 1] rfl)) ⟨_, _, by rw [hk0]; rfl, rfl, Or.inr ⟨cI, ocI, _, _, rfl, d1, d2, hcP⟩⟩
end
end
section
theorem Fr.know {h₀ h : Heap} {L : Addr} {m : Str → Option Value} {k : Str} {v : Value} (F : Fr h₀ L h m) (hk : m k = some v) : Fr h₀ L h (fun z => if z = k then some v else m z) := by
  have e : (fun z => if z = k then some v else m z) = m := by
    funext z
    by_cases hz : z = k
    · rw [if_pos hz, hz, hk]
    · rw [if_neg hz]
  rw [e]; exact F
theorem Tab.offSeq {P : Addr} {ln cl : Int} {q : Str} {T led : List (Addr × Obj)} {h₀ h : Heap} {L l : Addr} {o : Obj} {its : Array Value} {ep : Nat} (hT : Tab P ln cl q T) (N : News h₀ L h led) (hm : (l, o) ∈ led) (hs : o.data = .seq its ep) (hsub : ∀ p ∈ T, p ∈ led) : ∀ p ∈ T, p.1 ≠ l := by
  have h1 := (N _ hm).1
  have key : ∀ p ∈ T, (∃ vs, p.2.data = .fields vs) → p.1 ≠ l := fun p hp ⟨vs, hv⟩ e => by
    have h2 := (N _ (hsub p hp)).1
    rw [e, h1] at h2
    cases h2
    rw [hs] at hv
    cases hv
  intro p hp
  refine key p hp ?_
  rcases hT with rfl | ⟨c', oc, vs, t, rfl, d1, _, _⟩
  · rw [List.mem_singleton.mp hp]; exact ⟨_, rfl⟩
  · rcases List.mem_cons.mp hp with rfl | hp
    · exact ⟨_, rfl⟩
    · rw [List.mem_singleton.mp hp]; exact ⟨_, d1⟩
theorem intsGet {vs : List Value} {ns : List Int} {i : Nat} {v : Value} (h : IntsAre vs ns) (hv : vs[i]? = some v) : ∃ d t, ns[i]? = some d ∧ v = .int d t := by
  have hl := h.length
  have hi : i < vs.length := (List.getElem?_eq_some_iff.mp hv).1
  obtain ⟨t, ht⟩ := h.get i (ns[i]'(by omega)) (List.getElem?_eq_getElem (by omega))
  rw [hv] at ht
  exact ⟨_, t, List.getElem?_eq_getElem (by omega), Option.some.inj ht⟩

/-- one turn of the school's division -/
theorem digitStep {n : Nat} {ds qs : List Int} {y R d : Int} {i : Nat} (hi : i < ds.length) (hd : ds[ds.length - 1 - i]? = some d) (hy : 0 < y) (hR : 0 ≤ R) (hRy : R < y) (hd0 : 0 ≤ d) (hdn : d < 2 ^ n)
    (hv : val n (ds.drop (ds.length - i)) = val n qs.reverse * y + R) :
    val n (ds.drop (ds.length - (i + 1))) = val n (qs ++ [(R * 2 ^ n + d).fdiv y]).reverse * y + (R * 2 ^ n + d).fmod y ∧ 0 ≤ (R * 2 ^ n + d).fmod y ∧ (R * 2 ^ n + d).fmod y < y ∧ 0 ≤ (R * 2 ^ n + d).fdiv y ∧ (R * 2 ^ n + d).fdiv y < 2 ^ n := by
  have hp : (0 : Int) < 2 ^ n := Int.pow_pos (by decide)
  have h0 : 0 ≤ R * 2 ^ n := Int.mul_nonneg hR (by omega)
  rw [Int.fdiv_eq_ediv_of_nonneg _ (by omega), Int.fmod_eq_emod_of_nonneg _ (by omega)]
  have hx : ds.drop (ds.length - (i + 1)) = d :: ds.drop (ds.length - i) := by
    have e1 : ds.length - (i + 1) = ds.length - 1 - i := by omega
    have e2 : ds.length - i = ds.length - 1 - i + 1 := by omega
    obtain ⟨hlt, he⟩ := List.getElem?_eq_some_iff.mp hd
    rw [e1, e2, List.drop_eq_getElem_cons hlt, he]
  have hm := Int.emod_add_mul_ediv (R * 2 ^ n + d) y
  refine ⟨?_, Int.emod_nonneg _ (by omega), Int.emod_lt_of_pos _ hy, Int.ediv_nonneg (by omega) (by omega), Int.ediv_lt_of_lt_mul hy ?_⟩
  · rw [hx, val, hv, List.reverse_append, List.reverse_cons, List.reverse_nil, List.nil_append, List.singleton_append, val]
    rw [Int.add_mul, Int.mul_add, ← Int.mul_assoc, Int.mul_comm (2 ^ n : Int) R]
    rw [Int.mul_comm y] at hm
    omega
  · have : (R + 1) * 2 ^ n ≤ y * 2 ^ n := Int.mul_le_mul_of_nonneg_right (by omega) (by omega)
    rw [Int.add_mul, Int.one_mul] at this
    rw [Int.mul_comm y] at this
    omega

theorem bitsStep {n : Nat} {R y d : Int} (hn : Builtin.Int.intBits y = n) (hn2 : n < 64) (hR : 0 ≤ R) (hRy : R < y) (hd0 : 0 ≤ d) (hdn : d < 2 ^ n) : (Builtin.Int.intBits (R * 2 ^ n + d) : Int) - n ≤ 4000 := by
  have hp : (0 : Int) < 2 ^ n := Int.pow_pos (by decide)
  have h1 : y.natAbs < 2 ^ n := intBits_le_iff.mp (by omega)
  have h2 : y < ((2 ^ n : Nat) : Int) := by omega
  have h2' : y < 2 ^ n := by simpa using h2
  have h3 : (R + 1) * 2 ^ n ≤ 2 ^ n * 2 ^ n := Int.mul_le_mul_of_nonneg_right (by omega) (by omega)
  rw [Int.add_mul, Int.one_mul, ← Int.pow_add] at h3
  have h4 : 0 ≤ R * 2 ^ n := Int.mul_nonneg hR (by omega)
  have := bits_of_lt (x := R * 2 ^ n + d) (k := n + n) (by omega) (by omega)
  omega

theorem intsPush {x : Int} {t : Tok} : ∀ {vs : List Value} {ns : List Int}, IntsAre vs ns → IntsAre (vs ++ [.int x t]) (ns ++ [x])
  | _, _, .nil => .cons x t .nil
  | _, _, .cons n u h => .cons n u (intsPush h)
theorem intsRev : ∀ {vs : List Value} {ns : List Int}, IntsAre vs ns → IntsAre vs.reverse ns.reverse
  | _, _, .nil => .nil
  | _, _, .cons n u h => by rw [List.reverse_cons, List.reverse_cons]; exact intsPush (intsRev h)
theorem divEnd {x Q y R : Int} (h : x = Q * y + R) (h0 : 0 ≤ R) (h1 : R < y) : x.fdiv y = Q ∧ x.fmod y = R := by
  rw [Int.fdiv_eq_ediv_of_nonneg _ (by omega), Int.fmod_eq_emod_of_nonneg _ (by omega), h]
  refine ⟨?_, ?_⟩
  · rw [Int.add_comm, Int.add_mul_ediv_right _ _ (by omega), Int.ediv_eq_zero_of_lt h0 h1]; omega
  · rw [Int.add_comm, Int.add_mul_emod_self_right, Int.emod_eq_of_lt h0 h1]

theorem negDiv {x y : Int} (h1 : 0 < y) : -((-x - 1).fdiv y) - 1 = x.fdiv y ∧ y + (-((-x - 1).fmod y) - 1) = x.fmod y := by
  have f1 : (-x - 1).fdiv y = (-x - 1) / y := Int.fdiv_eq_ediv_of_nonneg _ (by omega)
  have f2 : (-x - 1).fmod y = (-x - 1) % y := Int.fmod_eq_emod_of_nonneg _ (by omega)
  rw [f1, f2]
  have a1 := Int.emod_add_mul_ediv (-x - 1) y
  have a2 := Int.emod_nonneg (-x - 1) (b := y) (by omega)
  have a3 := Int.emod_lt_of_pos (-x - 1) h1
  generalize (-x - 1) / y = q at *
  generalize (-x - 1) % y = r at *
  have e : x = (-q - 1) * y + (y - r - 1) := by
    rw [Int.sub_mul, Int.neg_mul, Int.one_mul, Int.mul_comm q y]; omega
  have := divEnd e (by omega) (by omega)
  omega

/-- a turn's end: the ledger is the iterator's own and what the word says -/
def TurnEnd (h₀ : Heap) (L : Addr) (own : List (Addr × Obj)) (J : (Str → Option Value) → List (Addr × Obj) → Prop) (s₁ s₂ : Shared) : Prop :=
  ∃ h' tk m' news', s₂ = { s₁ with heap := h', toks := tk } ∧ Fr h₀ L h' m' ∧ News h₀ L h' (own ++ news') ∧ Off own news' ∧ J m' news'
def TurnPost (h₀ : Heap) (L : Addr) (own : List (Addr × Obj)) (J : (Str → Option Value) → List (Addr × Obj) → Prop) (Q : Flow → Shared → Prop) (s₁ : Shared) (f : Flow) (s₂ : Shared) : Prop :=
  match f with
  | .ret v => Q (.ret v) s₂
  | .brk => Q .next s₂
  | _ => TurnEnd h₀ L own J s₁ s₂

section
variable {prog : Program} {w : World} {A : Around} {E : Value → Shared → Prop} {s : Shared} {env : Env} {h₀ : Heap} {x : Str} {body : List Stmt} {Q : Flow → Shared → Prop}

theorem loopG {I : Addr} {fp wr : List Addr} {n : Nat} {P : Nat → Value → Prop} {St : Nat → Heap → Prop} {m₀ : Str → Option Value} {news keep : List (Addr × Obj)} (J : Nat → (Str → Option Value) → List (Addr × Obj) → Prop)
    (W : Walks prog w A I fp wr n P St) (hobj : ∀ i h, St i h → ∀ b ∈ fp, ∃ o, h.get? b = some o) (hLf : env.locals ∉ fp) (hwr : ∀ b ∈ wr, h₀.get? b = none) (hkw : ∀ p ∈ keep, p.1 ∈ fp ∧ p.1 ∉ wr) (hfp : ∀ p ∈ news, p.1 ∉ fp) (hst : St 0 s.heap) (F : Fr h₀ env.locals s.heap m₀)
    (N : News h₀ env.locals s.heap (news ++ keep)) (hj : J 0 m₀ news)
    (turn : ∀ i v m₁ news₁ h tk own, i < n → P i v → J i m₁ news₁ → Off own news₁ → (∀ b ∈ fp, h₀.get? b = none → ∀ o, h.get? b = some o → (b, o) ∈ own) → (∀ p ∈ keep, p ∈ own) → St (i + 1) h → Fr h₀ env.locals h (fun y => if y = x then some v else m₁ y) → News h₀ env.locals h (own ++ news₁) →
      wpAny (model prog w) A (execs body env) (TurnPost h₀ env.locals own (J (i + 1)) Q { s with heap := h, toks := tk }) E { s with heap := h, toks := tk })
    (done : ∀ m₁ news₁ h tk, J n m₁ news₁ → (∀ p ∈ news₁, p.1 ∉ fp) → Fr h₀ env.locals h m₁ → News h₀ env.locals h (news₁ ++ keep) → Q .next { s with heap := h, toks := tk }) :
    LoopAtV prog w A h₀ env x body Q E (.ref I) s := by
  let J' : Nat → (Str → Option Value) → List (Addr × Obj) → Prop := fun i m nx => ∃ news₁, nx = news₁ ++ keep ∧ (∀ p ∈ news₁, p.1 ∉ fp) ∧ J i m news₁
  refine ⟨I, fp, wr, n, P, St, m₀, news ++ keep, J', rfl, W, hLf, hwr, ?_, hst, F, N, ⟨news, rfl, hfp, hj⟩, ?_, ?_⟩
  · intro p hp hm
    rcases List.mem_append.mp hp with hp | hp
    · exact hfp p hp (W.sub _ hm)
    · exact (hkw p hp).2 hm
  · rintro i v m₁ nx s₁ own ⟨hh', tk', rfl⟩ hin hP ⟨news₁, rfl, hoff, hJ⟩ _ hown hget hall hst' F₁ N₁
    have hk : ∀ p ∈ keep, p ∈ own := fun p hp => hall p.1 (hkw p hp).1 (N p (List.mem_append_right _ hp)).2.2 p.2 (N₁ p (List.mem_append_right _ (List.mem_append_right _ hp))).1
    have N₂ : News h₀ env.locals hh' (own ++ news₁) := fun p hp => N₁ p ((List.mem_append.mp hp).elim (fun h => List.mem_append_left _ h) fun h => List.mem_append_right _ (List.mem_append_left _ h))
    refine wpAny_mono (turn i v m₁ news₁ hh' tk' own hin hP hJ (fun p hp q hq e => hoff q hq (e ▸ hown p hp)) hall hk hst' F₁ N₂) (fun f s₂ p => ?_) fun _ _ e => e
    have fin : TurnEnd h₀ env.locals own (J (i + 1)) { s with heap := hh', toks := tk' } s₂ → LoopStepU h₀ env.locals wr own (J' (i + 1)) { s with heap := hh', toks := tk' } .next s₂ := by
      rintro ⟨h', tk, m', news', e, F', N', hO, hm⟩
      have hno : ∀ p ∈ news', p.1 ∉ fp := fun p hp hb => by
        cases q : h₀.get? p.1 with
        | some o => have := (N' p (List.mem_append_right _ hp)).2.2; rw [q] at this; cases this
        | none =>
          obtain ⟨o, ho⟩ := hobj _ _ hst' p.1 hb
          exact hO _ (hall _ hb q o ho) p hp rfl
      refine ⟨rfl, h', tk, m', news' ++ keep, e, F', fun p hp => ?_, fun p hp hb => ?_, news', rfl, hno, hm⟩
      · rcases List.mem_append.mp hp with h | h
        · exact N' p (List.mem_append_left _ h)
        · rcases List.mem_append.mp h with h | h
          · exact N' p (List.mem_append_right _ h)
          · exact N' p (List.mem_append_left _ (hk p h))
      · rcases List.mem_append.mp hp with h | h
        · exact hno p h (W.sub _ hb)
        · exact (hkw p h).2 hb
    cases f with
    | ret v => exact .ret p
    | brk => exact .brk p
    | next => exact .next (fin p)
    | cont => exact .cont (fin p)
  · rintro h' tk m' news' F' N' _ ⟨news₁, rfl, hno, hJ⟩
    exact done m' news₁ h' tk hJ hno F' N'

/-- over reversed(l), the iterator and the list in the ledger; the list is not asked for behind it -/
theorem iterRevG {I l : Addr} {vs : List Value} {e : Nat} {led news : List (Addr × Obj)} {m₀ : Str → Option Value} (J : Nat → (Str → Option Value) → List (Addr × Obj) → Prop)
    (hh : A.handled = none) (F : Fr h₀ env.locals s.heap m₀) (N : News h₀ env.locals s.heap led) (hI : (I, revObj l ((vs.length : Int) - 1)) ∈ led) (hl : (l, listOf vs.toArray e) ∈ led) (hne : l ≠ I) (hsub : ∀ p ∈ news, p ∈ led) (hnI : ∀ p ∈ news, p.1 ≠ I) (hnl : ∀ p ∈ news, p.1 ≠ l) (hj : J 0 m₀ news)
    (turn : ∀ i v m₁ news₁ h tk own, i < vs.length → vs[vs.length - 1 - i]? = some v → J i m₁ news₁ → Off own news₁ → Fr h₀ env.locals h (fun y => if y = x then some v else m₁ y) → News h₀ env.locals h (own ++ news₁) →
      wpAny (model prog w) A (execs body env) (TurnPost h₀ env.locals own (J (i + 1)) Q { s with heap := h, toks := tk }) E { s with heap := h, toks := tk })
    (done : ∀ m₁ news₁ h tk, J vs.length m₁ news₁ → Fr h₀ env.locals h m₁ → News h₀ env.locals h news₁ → Q .next { s with heap := h, toks := tk }) :
    wpAny (model prog w) A (pyIter (.ref I)) (fun it s₂ => LoopAtV prog w A h₀ env x body Q E it s₂) E s := by
  have hL : s.heap.IsList l vs.toArray := ⟨_, (N _ hl).1, rfl, e, rfl⟩
  have hit : s.heap.IsRevIter I l ((vs.length : Int) - 1) := ⟨_, (N _ hI).1, rfl, rfl⟩
  refine wpAny_pyIter_revIter hit ?_
  have W := Walks.listRev (prog := prog) (w := w) hh I l hne vs.toArray
  have hlen : vs.toArray.size = vs.length := by simp
  rw [hlen] at W
  refine loopG (keep := []) J W ?_ ?_ ?_ (fun _ hp => nomatch hp) ?_ ⟨Nat.zero_le _, by simpa using hit, hL⟩ F (newsSub N fun p hp => hsub p (by simpa using hp)) hj ?_ ?_
  · rintro i h ⟨_, ⟨o1, h1, _⟩, ⟨o2, h2, _⟩⟩ b hb
    rcases List.mem_cons.mp hb with rfl | hb
    · exact ⟨o1, h1⟩
    · rw [List.mem_singleton.mp hb]; exact ⟨o2, h2⟩
  · intro hm
    rcases List.mem_cons.mp hm with e1 | hm
    · exact (N _ hI).2.1 e1.symm
    · exact (N _ hl).2.1 (List.mem_singleton.mp hm).symm
  · intro b hb
    rw [List.mem_singleton.mp hb]; exact (N _ hI).2.2
  · intro p hp hm
    rcases List.mem_cons.mp hm with e1 | hm
    · exact hnI p hp e1
    · exact hnl p hp (List.mem_singleton.mp hm)
  · intro i v m₁ news₁ h tk own hi hP hJ hO _ _ _ F₁ N₁
    exact turn i v m₁ news₁ h tk own hi (by simpa using hP) hJ hO F₁ N₁
  · intro m₁ news₁ h tk hJ _ F₁ N₁
    exact done m₁ news₁ h tk hJ F₁ (by simpa using N₁)

/-- over a range, of any step -/
theorem iterRangeG {r : Addr} {a b c : Int} {t u v : Tok} {n : Nat} {news : List (Addr × Obj)} {m₀ : Str → Option Value} (J : Nat → (Str → Option Value) → List (Addr × Obj) → Prop)
    (hh : A.handled = none) (hr : IsRange s.heap r a b c t u v) (hsmall : Builtin.Range.small a b c = true) (hn : Builtin.Range.rangeSize a b c = (n : Int)) (F : Fr h₀ env.locals s.heap m₀) (N : News h₀ env.locals s.heap news) (hj : J 0 m₀ news)
    (turn : ∀ i (t : Tok) m₁ news₁ h tk own, i < n → J i m₁ news₁ → Off own news₁ → Fr h₀ env.locals h (fun y => if y = x then some (.int (a + i * c) t) else m₁ y) → News h₀ env.locals h (own ++ news₁) →
      wpAny (model prog w) A (execs body env) (TurnPost h₀ env.locals own (J (i + 1)) Q { s with heap := h, toks := tk }) E { s with heap := h, toks := tk })
    (done : ∀ m₁ news₁ h tk, J n m₁ news₁ → Fr h₀ env.locals h m₁ → News h₀ env.locals h news₁ → Q .next { s with heap := h, toks := tk }) :
    wpAny (model prog w) A (pyIter (.ref r)) (fun it s₂ => LoopAtV prog w A h₀ env x body Q E it s₂) E s := by
  refine wpAny_pyIter_range hr hsmall ?_
  have W := Walks.range (prog := prog) (w := w) hh s.heap.objs.size a c n
  have hnew : h₀.get? s.heap.objs.size = none := by
    cases q : h₀.get? s.heap.objs.size with
    | none => rfl
    | some o => exact absurd (Heap.lt_size (F.keep _ _ q)) (Nat.lt_irrefl _)
  refine loopG (keep := []) J W ?_ ?_ ?_ (fun _ hp => nomatch hp) ?_ (by show IsRangeIter _ _ _ _ _; rw [hn]; simpa using Heap.get?_push_size _ rfl) (F.push _) (fun p hp => ⟨Heap.get?_push_of_some _ (N p (by simpa using hp)).1, (N p (by simpa using hp)).2⟩) hj ?_ ?_
  · intro i h hs b hb
    rw [List.mem_singleton.mp hb]; exact ⟨_, hs⟩
  · intro hm
    exact absurd F.ns.lt ((List.mem_singleton.mp hm) ▸ Nat.lt_irrefl _)
  · intro b hb
    rw [List.mem_singleton.mp hb]; exact hnew
  · intro p hp hm
    exact absurd (Heap.lt_size (N p hp).1) ((List.mem_singleton.mp hm) ▸ Nat.lt_irrefl _)
  · rintro i v m₁ news₁ h tk own hi ⟨t, rfl⟩ hJ hO _ _ _ F₁ N₁
    exact turn i t m₁ news₁ h tk own hi hJ hO F₁ N₁
  · intro m₁ news₁ h tk hJ _ F₁ N₁
    exact done m₁ news₁ h tk hJ F₁ (by simpa using N₁)

/-- over a list of the ledger, which stands -/
theorem iterListG {l : Addr} {vs : List Value} {e : Nat} {led news : List (Addr × Obj)} {m₀ : Str → Option Value} (J : Nat → (Str → Option Value) → List (Addr × Obj) → Prop)
    (hh : A.handled = none) (F : Fr h₀ env.locals s.heap m₀) (N : News h₀ env.locals s.heap led) (hl : (l, listOf vs.toArray e) ∈ led) (hsub : ∀ p ∈ news, p ∈ led) (hnl : ∀ p ∈ news, p.1 ≠ l) (hj : J 0 m₀ news)
    (turn : ∀ i v m₁ news₁ h tk own, i < vs.length → vs[i]? = some v → J i m₁ news₁ → Off own news₁ → (l, listOf vs.toArray e) ∈ own → Fr h₀ env.locals h (fun y => if y = x then some v else m₁ y) → News h₀ env.locals h (own ++ news₁) →
      wpAny (model prog w) A (execs body env) (TurnPost h₀ env.locals own (J (i + 1)) Q { s with heap := h, toks := tk }) E { s with heap := h, toks := tk })
    (done : ∀ m₁ news₁ h tk, J vs.length m₁ news₁ → (∀ p ∈ news₁, p.1 ≠ l) → Fr h₀ env.locals h m₁ → News h₀ env.locals h (news₁ ++ [(l, listOf vs.toArray e)]) → Q .next { s with heap := h, toks := tk }) :
    wpAny (model prog w) A (pyIter (.ref l)) (fun it s₂ => LoopAtV prog w A h₀ env x body Q E it s₂) E s := by
  have hL : s.heap.IsList l vs.toArray := ⟨_, (N _ hl).1, rfl, e, rfl⟩
  refine wpAny_pyIter_list hL ?_
  have hlt : l < s.heap.objs.size := Heap.lt_size (N _ hl).1
  have hne : l ≠ s.heap.objs.size := Nat.ne_of_lt hlt
  have W := Walks.list (prog := prog) (w := w) hh s.heap.objs.size l hne vs.toArray
  have hlen : vs.toArray.size = vs.length := by simp
  rw [hlen] at W
  have hnew : h₀.get? s.heap.objs.size = none := by
    cases q : h₀.get? s.heap.objs.size with
    | none => rfl
    | some o => exact absurd (Heap.lt_size (F.keep _ _ q)) (Nat.lt_irrefl _)
  have hin : ∀ p ∈ news ++ [(l, listOf vs.toArray e)], p ∈ led := fun p hp => (List.mem_append.mp hp).elim (hsub p) fun h => (List.mem_singleton.mp h) ▸ hl
  refine loopG (keep := [(l, listOf vs.toArray e)]) J W ?_ ?_ ?_ ?_ ?_ ⟨⟨_, Heap.get?_push_size _ rfl, rfl, rfl⟩, hL.at fun o e => Heap.get?_push_of_some _ e⟩ (F.push _) (fun p hp => ⟨Heap.get?_push_of_some _ (N p (hin p hp)).1, (N p (hin p hp)).2⟩) hj ?_ ?_
  · rintro i h ⟨⟨o1, h1, _⟩, ⟨o2, h2, _⟩⟩ b hb
    rcases List.mem_cons.mp hb with rfl | hb
    · exact ⟨o1, h1⟩
    · rw [List.mem_singleton.mp hb]; exact ⟨o2, h2⟩
  · intro hm
    rcases List.mem_cons.mp hm with e1 | hm
    · exact absurd F.ns.lt (e1 ▸ Nat.lt_irrefl _)
    · exact (N _ hl).2.1 (List.mem_singleton.mp hm).symm
  · intro b hb
    rw [List.mem_singleton.mp hb]; exact hnew
  · intro p hp
    rw [List.mem_singleton.mp hp]
    exact ⟨by simp, fun hm => hne (List.mem_singleton.mp hm)⟩
  · intro p hp hm
    rcases List.mem_cons.mp hm with e1 | hm
    · exact absurd (Heap.lt_size (N p (hsub p hp)).1) (e1 ▸ Nat.lt_irrefl _)
    · exact hnl p hp (List.mem_singleton.mp hm)
  · intro i v m₁ news₁ h tk own hi hP hJ hO _ hk _ F₁ N₁
    exact turn i v m₁ news₁ h tk own hi (by simpa using hP) hJ hO (hk _ (.head _)) F₁ N₁
  · intro m₁ news₁ h tk hJ hno F₁ N₁
    exact done m₁ news₁ h tk hJ (fun p hp e => hno p hp (by rw [e]; simp)) F₁ N₁
end
end
local macro_rules | `(tactic| k_all) => `(tactic| assumption)
section
section
local macro_rules | `(tactic| walk_at "exec For Name Call cons nil") => `(tactic| (k_here; (rename Fr _ _ _ _ => lF'); (with_unfolding_all refine' For_invVF lF' ?k1 ?k2 ?_; (case k1 => exact rfl); (case k2 => exact rfl); k_whole)))
variable {w : World} {p : Program} {loose : List Str} {mean : ExcName → Option Value} {mg mb : Str → Option Value}

theorem divmod_pos_ctr (x y : Int) (tx ty : Tok) (T2 T3 : List (Addr × Obj)) (hT2 : Tab 30 32 4 qI2 T2) (hT3 : Tab 37 47 4 qI3 T3) (hO : Off T2 T3) (h0 : 0 ≤ x) (h1 : 0 < y) (h2 : y < 1073741824) (h3 : Builtin.Int.intBits x ≤ 2 ^ 21) :
    Ctr PySem.Challenge.rw_ga0003_02.row.prog w (hd.heap_39 w.params) p loose mean mg mb 49 80 700 [.int x tx, .int y ty] (T2 ++ T3)
      (fun r hd' => ∃ l t1 t2 e T2' T3', r = .ref l ∧ hd' = (l, tupObj [.int (Int.fdiv x y) t1, .int (Int.fmod x y) t2] e) :: (T2' ++ T3') ∧ Tab 30 32 4 qI2 T2' ∧ Tab 37 47 4 qI3 T3' ∧ Off T2' T3') := by
  k_with_none
  k_with "tb_start_1" => (refine wpAny_call ?_; k_dflt (refine' codeF_def ?w1k1 ?w1k2 ?w1k3 ?w1k4 ?w1kD ?w1k5 ?w1kA ?w1kF ?w1kK ?w1k6 ?w1k7 ?w1k8 ?w1k9 ?w1kB ?_ ?w1c2 ?w1c3 ?w1c4 ?w1c5; (case w1kA => exact rfl); (case w1kF => exact rfl); (case w1kK => assumption); (case w1k1 => k_asm); (case w1k2 => k_asm); (case w1k3 => k_asm); (case w1k4 => k_asm); (case w1kD => assumption); (case w1k5 => k_asm); (case w1k6 => k_is); (case w1k7 => k_is); (case w1k8 => ktr_room); (case w1k9 => first | exact BindsTo.of_eq rfl | exact binds_K (by k_in) rfl (by k_is) rfl rfl rfl | (refine' kp_binds ?w1kx ?w1ke; (case w1kx => k_in); (case w1ke => exact fun _ => rfl))); (case w1c5 => decide); (case w1kB => exact locs rfl); (case w1c2 => exact rfl); (case w1c3 => exact rfl); (case w1c4 => exact rfl); k_whole; intro _ _ _ _ _ _ _ _ _ _ l1; (try dsimp only); (try k_lt l1); revert l1; intro _; (try k_fold)))
  k_with "spliced" => (first | refine args_cons ?_ | refine args_nil ⟨Fr.keep (by assumption) _ _ (by assumption), ?_⟩ | (refine args_nil ?_; try simp only [List.cons_append, List.nil_append]))
  k_fill
  intro dp un gd cn cs a ccd cl outer A₀ base h₀ L m s rest Q E B C1 C2 F X N D T hk hdp hun hret
  k_extra "tb_start_1"
  have NR : News h₀ L s.heap rest := newsSub N fun p hp => List.mem_append_right _ hp
  k_steps
  generalize hn : Builtin.Int.intBits y = n at *
  have hn1 : 0 < n := by
    rw [← hn]; unfold Builtin.Int.intBits
    rw [if_neg (by simp; omega)]; omega
  have hn2 : n < 64 := by
    have : Builtin.Int.intBits y ≤ 30 := intBits_le_iff.mpr (by omega)
    omega
  k_dflt (refine' int2digits_ctr x n _ _ T2 hT2 h0 hn1 hn2 h3 _ _ _ _ _ _ _ _ _ _ _ _ _ _ _ (T3) _ _ ?q1xk1 ?q1xk2 ?q1xk3 ?q1xk4 ?q1xk5 ?q1xk6 ?q1xk7 ?q1xk8 ?q1xk9 ?q1xk10 ?q1xk11 ?q1xkR)
  case q1xk1 => k_asm
  case q1xk2 => assumption
  case q1xk3 => assumption
  case q1xk4 => k_asm
  case q1xk5 => k_asm
  case q1xk6 => k_asm
  case q1xk7 => exact hO
  case q1xk8 => k_asm
  case q1xk9 => first | exact rfl | assumption
  case q1xk10 => ktr_room
  case q1xk11 => ktr_units
  intro r hd' h' tk' F' N' D' ⟨l, vs, ds, e, T2', hr, ehd, hT2', hI, hval, hdb, hdl, hdn⟩
  subst hr ehd
  dsimp only
  simp only [List.cons_append] at N'
  k_steps
  rename_i hh4 tk4 hh3 lq hh2 ml1 hh1 D hh F2 N2 ml2
  have hvl : vs.length = ds.length := hI.length
  have hO32 : Off T3 T2' := fun p hp q hq e => D' q (.tail _ hq) p hp e.symm
  have hnT : ∀ p ∈ T2' ++ T3, p.1 ≠ lq := fun p hp => Nat.ne_of_lt (kst_ltOf ml1.2 p hp)
  have hoT2 := Tab.offSeq hT2' N2 (l := l) (ixMem 2 rfl) rfl (by intro p hp; simp [hp])
  have hoT3 := Tab.offSeq hT3 N2 (l := l) (ixMem 2 rfl) rfl (by intro p hp; simp [hp])
  k_dflt (refine iterRevG (l := l) (vs := vs) (e := e) (news := (lq, listOf [].toArray 0) :: (T2' ++ T3)) (fun i m news => ∃ (R : Int) (tR tn : Tok) (qs : List Int) (vq : List Value) (eq : Nat), news = (lq, listOf vq.toArray eq) :: (T2' ++ T3) ∧ IntsAre vq qs ∧ m (Str.ofString "r") = some (.int R tR) ∧ m (Str.ofString "n") = some (.int n tn) ∧ m (Str.ofString "b") = some (.int y ty) ∧ m (Str.ofString "q_digits") = some (.ref lq) ∧ 0 ≤ R ∧ R < y ∧ val n (ds.drop (ds.length - i)) = val n qs.reverse * y + R ∧ qs.length = i ∧ ∀ q ∈ qs, 0 ≤ q ∧ q < 2 ^ n) rfl F2 N2 (ixMem 0 rfl) (ixMem 2 rfl) ?_ ?_ ?_ ?_ ?_ ?_ ?_)
  · k_ne
  · intro p hp; simp at hp ⊢; rcases hp with h | h | h <;> simp [h]
  · refine List.forall_mem_cons.mpr ⟨by k_ne, fun p hp => Nat.ne_of_lt (kst_ltOf (by first | exact ml2 | exact ml2.2 | exact ml2.2.2 | exact ml2.2.2.2) p hp)⟩
  · refine List.forall_mem_cons.mpr ⟨by k_ne, fun p hp => (List.mem_append.mp hp).elim (hoT2 p) (hoT3 p)⟩
  · exact ⟨0, _, _, [], [], 0, rfl, .nil, rfl, rfl, rfl, rfl, Int.le_refl _, h1, by simp [val], rfl, fun _ hq => nomatch hq⟩
  · rintro i v m₁ news₁ h tk own hi hv ⟨R, tR, tn, qs, vq, eq, rfl, hIq, hmr, hmn, hmb, hmq, hR0, hRy, hvv, hql, hqb⟩ hO F3 N3
    obtain ⟨d, td, hdd, rfl⟩ := intsGet hI hv
    rw [hvl] at hdd
    have hd1 := hdb d (List.mem_of_getElem? hdd)
    have hstep := digitStep (by omega) hdd h1 hR0 hRy hd1.1 hd1.2 hvv
    have F4 := Fr.know (k := Str.ofString "r") (v := .int R tR) F3 ((if_neg (by decide)).trans hmr)
    have F5 := Fr.know (k := Str.ofString "n") (v := .int n tn) F4 ((if_neg (by decide)).trans ((if_neg (by decide)).trans hmn))
    have F6 := Fr.know (k := Str.ofString "b") (v := .int y ty) F5 ((if_neg (by decide)).trans ((if_neg (by decide)).trans ((if_neg (by decide)).trans hmb)))
    have F7 := Fr.know (k := Str.ofString "q_digits") (v := .ref lq) F6 ((if_neg (by decide)).trans ((if_neg (by decide)).trans ((if_neg (by decide)).trans ((if_neg (by decide)).trans hmq))))
    have N4 := newsSub (xs := (lq, listOf vq.toArray eq) :: (own ++ (T2' ++ T3))) N3 (by intro p hp; simp at hp ⊢; rcases hp with h | h | h | h <;> simp [h])
    have hne : ∀ p ∈ own ++ (T2' ++ T3), p.1 ≠ lq := List.forall_mem_append.mpr ⟨fun p hp => hO p hp _ (.head _), hnT⟩
    clear F3 F4 F5 F6 F2 N2 N3
    k_steps
    rw [Int.toNat_natCast]
    k_dflt (refine' div2n1n_ctr (R * 2 ^ n + d) y n _ _ _ (by omega) (by omega) (bitsStep hn hn2 hR0 hRy hd1.1 hd1.2) _ _ _ _ _ _ _ _ _ _ _ _ _ _ _ ((lq, listOf vq.toArray eq) :: (own ++ (T2' ++ T3))) _ _ ?q2xk1 ?q2xk2 ?q2xk3 ?q2xk4 ?q2xk5 ?q2xk6 ?q2xk7 ?q2xk8 ?q2xk9 ?q2xk10 ?q2xk11 ?q2xkR)
    case q2xk1 => k_asm
    case q2xk2 => assumption
    case q2xk3 => assumption
    case q2xk4 => k_asm
    case q2xk5 => k_asm
    case q2xk6 => k_asm
    case q2xk7 => exact offNil _
    case q2xk8 => k_asm
    case q2xk9 => first | exact rfl | assumption
    case q2xk10 => ktr_room
    case q2xk11 => ktr_units
    intro r hd' h' tk' F' N' D' ⟨lt, t1, t2, et, hr, ehd⟩
    subst hr ehd
    dsimp only
    simp only [List.cons_append, List.nil_append] at N'
    have hlt : lt ≠ lq := neN (D' _ (.head _) _ (.head _))
    have hvq : vq.length = i := by rw [hIq.length]; exact hql
    k_steps
    rename_i F9 N9
    simp only [List.push_toArray] at N9
    refine ⟨_, _, _, (lq, listOf (vq ++ [Value.int ((R * 2 ^ n + d).fdiv y) t1]).toArray (eq + 1)) :: (T2' ++ T3), rfl, F9, newsSub N9 ?_, ?_, ⟨_, _, _, qs ++ [_], _, _, rfl, intsPush hIq, rfl, rfl, rfl, rfl, hstep.2.1, hstep.2.2.1, hstep.1, by rw [List.length_append, hql]; rfl, ?_⟩⟩
    · intro p hp; simp at hp ⊢; rcases hp with h | h | h | h <;> simp [h]
    · intro p hp q hq
      rcases List.mem_cons.mp hq with rfl | hq
      · exact hne p (List.mem_append_left _ hp)
      · exact hO p hp q (.tail _ hq)
    · intro q hq
      rcases List.mem_append.mp hq with hq | hq
      · exact hqb q hq
      · rw [List.mem_singleton.mp hq]; exact hstep.2.2.2
  · rintro m₁ news₁ h tk ⟨R, tR, tn, qs, vq, eq, rfl, hIq, hmr, hmn, hmb, hmq, hR0, hRy, hvv, hql, hqb⟩ F3 N3
    have F4 := Fr.know (k := Str.ofString "r") (v := .int R tR) F3 hmr
    have F5 := Fr.know (k := Str.ofString "n") (v := .int n tn) F4 ((if_neg (by decide)).trans hmn)
    have F7 := Fr.know (k := Str.ofString "q_digits") (v := .ref lq) F5 ((if_neg (by decide)).trans ((if_neg (by decide)).trans hmq))
    clear F3 F4 F5 F2 N2
    have hvq : vq.length = vs.length := by rw [hIq.length]; exact hql
    have hend := divEnd (x := x) (Q := val n qs.reverse) (y := y) (R := R) (by rw [← hval, ← hvv, hvl, Nat.sub_self, List.drop_zero]) hR0 hRy
    have hnq : n * ds.length ≤ 2 ^ 22 := hdn
    k_steps
    rename_i F4 N4 hI4
    have hI5 : IntsAre vq.reverse qs.reverse := intsRev hIq
    have N5 : News _ _ _ ((lq, listOf vq.reverse.toArray eq) :: (T2' ++ T3)) := N4
    have hq1 : ∀ q ∈ qs.reverse, 0 ≤ q ∧ q < 2 ^ n := fun q hq => hqb q (List.mem_reverse.mp hq)
    k_dflt (refine' digits2int_ctr lq vq.reverse qs.reverse eq n _ T3 hT3 ?q3xa1 hn1 hn2 hI5 hq1 ?q3xa2 _ _ _ _ _ _ _ _ _ _ _ _ _ _ _ (T2') _ _ ?q3xk1 ?q3xk2 ?q3xk3 ?q3xk4 ?q3xk5 ?q3xk6 ?q3xk7 ?q3xk8 ?q3xk9 ?q3xk10 ?q3xk11 ?q3xkR)
    case q3xa1 => exact fun q hq e => hnT q (List.mem_append_right _ hq) e.symm
    case q3xa2 => rw [List.length_reverse, hql, hvl]; exact hnq
    case q3xk1 => k_asm
    case q3xk2 => assumption
    case q3xk3 => assumption
    case q3xk4 => k_asm
    case q3xk5 => k_asm
    case q3xk6 => exact newsSub N5 (by intro p hp; simp at hp ⊢; rcases hp with h | h | h <;> simp [h])
    case q3xk7 => exact fun p hp q hq => (List.mem_cons.mp hp).elim (fun e1 e2 => hnT q (List.mem_append_left _ hq) (by rw [← e2, e1])) fun hp e2 => hO32 p hp q hq e2
    case q3xk8 => k_asm
    case q3xk9 => first | exact rfl | assumption
    case q3xk10 => ktr_room
    case q3xk11 => ktr_units
    intro r hd' h' tk' F' N' D' ⟨T3', tq, hr, ehd, hT3'⟩
    subst hr ehd
    dsimp only
    simp only [List.cons_append] at N'
    k_steps
    rename_i hh5 D9 hh6 F9 N9 l9 kF9 kN9 T9 X9
    refine ctr_ret (hd' := (D9, tupObj [.int (val n qs.reverse) tq, .int R tR] 0) :: (T2' ++ T3')) hret NR (by assumption) F9 (newsSub N9 ?_) kF9 (newsSub kN9 ?_) ⟨_, tq, tR, _, T2', T3', rfl, by rw [hend.1, hend.2], hT2', hT3', fun p hp q hq e2 => D' q (.tail _ hq) p hp e2.symm⟩
    · intro p hp; simp at hp ⊢; rcases hp with h | h | h <;> simp [h]
    · intro p hp; simp at hp ⊢; rcases hp with h | h | h <;> simp [h]
end
end
section
variable {w : World} {p : Program} {loose : List Str} {mean : ExcName → Option Value} {mg mb : Str → Option Value}


theorem int_divmod_ctr0 (x y : Int) (tx ty : Tok) (T2 T3 : List (Addr × Obj)) (hT2 : Tab 30 32 4 qI2 T2) (hT3 : Tab 37 47 4 qI3 T3) (hO : Off T2 T3) (h0 : 0 ≤ x) (h1 : 0 < y) (h2 : y < 1073741824) (h3 : Builtin.Int.intBits x ≤ 2 ^ 21) :
    Ctr PySem.Challenge.rw_ga0003_02.row.prog w (hd.heap_39 w.params) p loose mean mg mb 56 82 720 [.int x tx, .int y ty] (T2 ++ T3)
      (fun r hd' => ∃ l t1 t2 e T2' T3', r = .ref l ∧ hd' = (l, tupObj [.int (Int.fdiv x y) t1, .int (Int.fmod x y) t2] e) :: (T2' ++ T3') ∧ Tab 30 32 4 qI2 T2' ∧ Tab 37 47 4 qI3 T3' ∧ Off T2' T3') := by
  k_with_none
  k_with "tb_start_1" => (refine wpAny_call ?_; k_dflt (refine' codeF_def ?w1k1 ?w1k2 ?w1k3 ?w1k4 ?w1kD ?w1k5 ?w1kA ?w1kF ?w1kK ?w1k6 ?w1k7 ?w1k8 ?w1k9 ?w1kB ?_ ?w1c2 ?w1c3 ?w1c4 ?w1c5; (case w1kA => exact rfl); (case w1kF => exact rfl); (case w1kK => assumption); (case w1k1 => k_asm); (case w1k2 => k_asm); (case w1k3 => k_asm); (case w1k4 => k_asm); (case w1kD => assumption); (case w1k5 => k_asm); (case w1k6 => k_is); (case w1k7 => k_is); (case w1k8 => ktr_room); (case w1k9 => first | exact BindsTo.of_eq rfl | exact binds_K (by k_in) rfl (by k_is) rfl rfl rfl | (refine' kp_binds ?w1kx ?w1ke; (case w1kx => k_in); (case w1ke => exact fun _ => rfl))); (case w1c5 => decide); (case w1kB => exact locs rfl); (case w1c2 => exact rfl); (case w1c3 => exact rfl); (case w1c4 => exact rfl); k_whole; intro _ _ _ _ _ _ _ _ _ _ l1; (try dsimp only); (try k_lt l1); revert l1; intro _; (try k_fold)))
  k_with "spliced" => (first | refine args_cons ?_ | refine args_nil ⟨Fr.keep (by assumption) _ _ (by assumption), ?_⟩ | (refine args_nil ?_; try simp only [List.cons_append, List.nil_append]))
  k_fill
  intro dp un gd cn cs a ccd cl outer A₀ base h₀ L m s rest Q E B C1 C2 F X N D T hk hdp hun hret
  have hy0 : y ≠ 0 := by omega
  k_extra "tb_start_1"
  have NR : News h₀ L s.heap rest := newsSub N fun p hp => List.mem_append_right _ hp
  k_steps
  · omega
  k_dflt (refine' divmod_pos_ctr x y _ _ T2 T3 hT2 hT3 hO h0 h1 h2 h3 _ _ _ _ _ _ _ _ _ _ _ _ _ _ _ ([]) _ _ ?q4xk1 ?q4xk2 ?q4xk3 ?q4xk4 ?q4xk5 ?q4xk6 ?q4xk7 ?q4xk8 ?q4xk9 ?q4xk10 ?q4xk11 ?q4xkR)
  case q4xk1 => k_asm
  case q4xk2 => assumption
  case q4xk3 => assumption
  case q4xk4 => k_asm
  case q4xk5 => k_asm
  case q4xk6 => rw [List.append_nil]; k_asm
  case q4xk7 => exact Off.nilR _
  case q4xk8 => k_asm
  case q4xk9 => first | exact rfl | assumption
  case q4xk10 => ktr_room
  case q4xk11 => ktr_units
  intro r hd' h' tk' F' N' D' hP
  rw [List.append_nil] at N'
  dsimp only
  k_steps
  exact ctr_ret hret NR (by assumption) (by assumption) (by assumption) (by assumption) (by assumption) hP

theorem int_divmod_ctr (x y : Int) (tx ty : Tok) (T2 T3 : List (Addr × Obj)) (hT2 : Tab 30 32 4 qI2 T2) (hT3 : Tab 37 47 4 qI3 T3) (hO : Off T2 T3) (h1 : 0 < y) (h2 : y < 1073741824) (h3 : Builtin.Int.intBits x ≤ 2 ^ 21) :
    Ctr PySem.Challenge.rw_ga0003_02.row.prog w (hd.heap_39 w.params) p loose mean mg mb 56 84 740 [.int x tx, .int y ty] (T2 ++ T3)
      (fun r hd' => ∃ l t1 t2 e T2' T3', r = .ref l ∧ hd' = (l, tupObj [.int (Int.fdiv x y) t1, .int (Int.fmod x y) t2] e) :: (T2' ++ T3') ∧ Tab 30 32 4 qI2 T2' ∧ Tab 37 47 4 qI3 T3' ∧ Off T2' T3') := by
  k_with_none
  k_with "tb_start_2" => (refine wpAny_call ?_; k_dflt (refine' codeF_def ?w2k1 ?w2k2 ?w2k3 ?w2k4 ?w2kD ?w2k5 ?w2kA ?w2kF ?w2kK ?w2k6 ?w2k7 ?w2k8 ?w2k9 ?w2kB ?_ ?w2c2 ?w2c3 ?w2c4 ?w2c5; (case w2kA => exact rfl); (case w2kF => exact rfl); (case w2kK => assumption); (case w2k1 => k_asm); (case w2k2 => k_asm); (case w2k3 => k_asm); (case w2k4 => k_asm); (case w2kD => assumption); (case w2k5 => k_asm); (case w2k6 => k_is); (case w2k7 => k_is); (case w2k8 => ktr_room); (case w2k9 => first | exact BindsTo.of_eq rfl | exact binds_K (by k_in) rfl (by k_is) rfl rfl rfl | (refine' kp_binds ?w2kx ?w2ke; (case w2kx => k_in); (case w2ke => exact fun _ => rfl))); (case w2c5 => decide); (case w2kB => exact locs rfl); (case w2c2 => exact rfl); (case w2c3 => exact rfl); (case w2c4 => exact rfl); k_whole; intro _ _ _ _ _ _ _ _ _ _ l1; (try dsimp only); (try k_lt l1); revert l1; intro _; (try k_fold)))
  k_with "spliced" => (first | refine args_cons ?_ | refine args_nil ⟨Fr.keep (by assumption) _ _ (by assumption), ?_⟩ | (refine args_nil ?_; try simp only [List.cons_append, List.nil_append]))
  by_cases h0 : 0 ≤ x
  · exact Ctr.up (int_divmod_ctr0 x y tx ty T2 T3 hT2 hT3 hO h0 h1 h2 h3) (by decide) (by decide)
  k_fill
  intro dp un gd cn cs a ccd cl outer A₀ base h₀ L m s rest Q E B C1 C2 F X N D T hk hdp hun hret
  have hy0 : y ≠ 0 := by omega
  have eN : Builtin.bitNot x = -x - 1 := by unfold Builtin.bitNot; omega
  have hbN : Builtin.Int.intBits (-x - 1) ≤ 2 ^ 21 := intBits_le_of_natAbs (by omega) h3
  have hnd := negDiv (x := x) h1
  k_extra "tb_start_2"
  have NR : News h₀ L s.heap rest := newsSub N fun p hp => List.mem_append_right _ hp
  k_steps
  · omega
  rw [eN]
  k_dflt (refine' int_divmod_ctr0 (-x - 1) y _ _ T2 T3 hT2 hT3 hO (by omega) h1 h2 hbN _ _ _ _ _ _ _ _ _ _ _ _ _ _ _ ([]) _ _ ?q5xk1 ?q5xk2 ?q5xk3 ?q5xk4 ?q5xk5 ?q5xk6 ?q5xk7 ?q5xk8 ?q5xk9 ?q5xk10 ?q5xk11 ?q5xkR)
  case q5xk1 => k_asm
  case q5xk2 => assumption
  case q5xk3 => assumption
  case q5xk4 => k_asm
  case q5xk5 => k_asm
  case q5xk6 => rw [List.append_nil]; k_asm
  case q5xk7 => exact Off.nilR _
  case q5xk8 => k_asm
  case q5xk9 => first | exact rfl | assumption
  case q5xk10 => ktr_room
  case q5xk11 => ktr_units
  intro r hd' h' tk' F' N' D' ⟨l, t1, t2, e, T2', T3', hr, ehd, hT2', hT3', hO'⟩
  subst hr ehd
  rw [List.append_nil] at N'
  dsimp only
  k_steps
  rename_i hh4 hh5 hh6 D9 hh7 F9 N9 l9 kF9 kN9 T9 X9
  refine ctr_ret hret NR (by assumption) F9 (newsSub N9 (List.forall_mem_cons.mpr ⟨List.Mem.head _, fun p hp => List.mem_cons_of_mem _ (List.mem_cons_of_mem _ hp)⟩)) kF9 (newsSub kN9 (List.forall_mem_cons.mpr ⟨List.Mem.head _, fun p hp => List.mem_cons_of_mem _ (List.mem_cons_of_mem _ hp)⟩)) ⟨D9, _, _, 0, T2', T3', rfl, by rw [← hnd.1, ← hnd.2]; rfl, hT2', hT3', hO'⟩
end
section
/-- a kind of list items, ordered by «<» -/
structure Kind (α : Type) where
  rel : List (Addr × Obj) → Value → α → Prop
  lt : α → α → Bool
  mono : ∀ {T T' : List (Addr × Obj)} {v : Value} {a : α}, (∀ p ∈ T, p ∈ T') → rel T v a → rel T' v a
  cmp : ∀ {prog : Program} {w : World} {A : Around} {E : Value → Shared → Prop} {s : Shared} {Q : Value → Shared → Prop} {h₀ : Heap} {L : Addr} {T : List (Addr × Obj)} {v x : Value} {a b : α},
    News h₀ L s.heap T → rel T v a → rel T x b → A.units < cLine → Q (.bool (lt a b)) s → wpAny (model prog w) A (compareOp .Lt v x) Q E s

def kInt : Kind Int where
  rel := fun _ v a => ∃ t, v = .int a t
  lt := fun a b => decide (a < b)
  mono := fun _ h => h
  cmp := by
    rintro prog w A E s Q h₀ L T v x a b _ ⟨t, rfl⟩ ⟨u, rfl⟩ _ h
    exact lt_int h

/-- the list's items are those, in order -/
def Are {α : Type} (κ : Kind α) (T : List (Addr × Obj)) (vs : List Value) (as : List α) : Prop :=
  vs.length = as.length ∧ ∀ (i : Nat) (v : Value) (a : α), vs[i]? = some v → as[i]? = some a → κ.rel T v a

theorem Are.mono {α : Type} {κ : Kind α} {T T' : List (Addr × Obj)} {vs : List Value} {as : List α} (h : Are κ T vs as) (hs : ∀ p ∈ T, p ∈ T') : Are κ T' vs as :=
  ⟨h.1, fun i v a h1 h2 => κ.mono hs (h.2 i v a h1 h2)⟩
theorem Are.nil {α : Type} {κ : Kind α} {T : List (Addr × Obj)} : Are κ T [] [] := ⟨rfl, fun i v a h1 _ => by simp at h1⟩
theorem Are.get {α : Type} {κ : Kind α} {T : List (Addr × Obj)} {vs : List Value} {as : List α} (h : Are κ T vs as) {i : Nat} (hi : i < as.length) : ∃ v, vs[i]? = some v ∧ κ.rel T v as[i] := by
  have hv : i < vs.length := by rw [h.1]; exact hi
  exact ⟨vs[i], List.getElem?_eq_getElem hv, h.2 i _ _ (List.getElem?_eq_getElem hv) (List.getElem?_eq_getElem hi)⟩
theorem Are.append {α : Type} {κ : Kind α} {T : List (Addr × Obj)} {vs ws : List Value} {as bs : List α} (h : Are κ T vs as) (h' : Are κ T ws bs) : Are κ T (vs ++ ws) (as ++ bs) := by
  refine ⟨by rw [List.length_append, List.length_append, h.1, h'.1], fun i v a h1 h2 => ?_⟩
  rcases Nat.lt_or_ge i vs.length with hi | hi
  · rw [List.getElem?_append_left hi] at h1
    rw [List.getElem?_append_left (by rw [← h.1]; exact hi)] at h2
    exact h.2 i v a h1 h2
  · rw [List.getElem?_append_right hi] at h1
    rw [List.getElem?_append_right (by rw [← h.1]; exact hi), ← h.1] at h2
    exact h'.2 _ v a h1 h2
theorem Are.one {α : Type} {κ : Kind α} {T : List (Addr × Obj)} {v : Value} {a : α} (h : κ.rel T v a) : Are κ T [v] [a] := by
  refine ⟨rfl, fun i w b h1 h2 => ?_⟩
  cases i with
  | zero => simp at h1 h2; rw [← h1, ← h2]; exact h
  | succ i => simp at h1
theorem Are.take {α : Type} {κ : Kind α} {T : List (Addr × Obj)} {vs : List Value} {as : List α} (h : Are κ T vs as) (p : Nat) : Are κ T (vs.take p) (as.take p) := by
  refine ⟨by rw [List.length_take, List.length_take, h.1], fun i v a h1 h2 => ?_⟩
  rw [List.getElem?_take] at h1 h2
  by_cases hi : i < p
  · rw [if_pos hi] at h1 h2; exact h.2 i v a h1 h2
  · rw [if_neg hi] at h1; cases h1
theorem Are.drop {α : Type} {κ : Kind α} {T : List (Addr × Obj)} {vs : List Value} {as : List α} (h : Are κ T vs as) (p : Nat) : Are κ T (vs.drop p) (as.drop p) := by
  refine ⟨by rw [List.length_drop, List.length_drop, h.1], fun i v a h1 h2 => ?_⟩
  rw [List.getElem?_drop] at h1 h2
  exact h.2 _ v a h1 h2
theorem Are.ints {T : List (Addr × Obj)} {vs : List Value} {ns : List Int} (h : IntsAre vs ns) : Are kInt T vs ns := by
  refine ⟨h.length, fun i v a h1 h2 => ?_⟩
  obtain ⟨d, t, h3, rfl⟩ := intsGet h h1
  rw [h2] at h3; cases h3
  exact ⟨t, rfl⟩

section
variable {prog : Program} {w : World} {A : Around} {E : Value → Shared → Prop} {s : Shared} {h₀ : Heap} {L : Addr} {m : Str → Option Value} {news : List (Addr × Obj)}
theorem itemG {value slice : PySem.Expr} {l : Addr} {vs : List Value} {c j : Nat} {u : Tok} {v : Value} {Q : Value → Shared → Prop} (N : News h₀ L s.heap news) (hm : (l, listOf vs.toArray c) ∈ news) (hx : vs[j]? = some v) (hj : j < 2 ^ 62) (h : Q v s)
    (hs : subscripted slice false (.ref l) (.int (j : Int) u) = operate [.ref l, .int (j : Int) u] (getItem (.ref l) (.int (j : Int) u)) := by with_unfolding_all rfl) :
    wpAny (model prog w) A (subscriptTail value slice (.ref l) (.int (j : Int) u)) Q E s := by
  have hl : s.heap.IsList l vs.toArray := ⟨_, (N _ hm).1, rfl, c, rfl⟩
  exact tail_any hl.typeIs slot_list_getitem.lookup (wpAny_getItem_list hl (by omega) (by omega) (by simpa using hx) h) hs
theorem itemZ {value slice : PySem.Expr} {l : Addr} {vs : List Value} {c j : Nat} {z : Int} {u : Tok} {v : Value} {Q : Value → Shared → Prop} (N : News h₀ L s.heap news) (hm : (l, listOf vs.toArray c) ∈ news) (hx : vs[j]? = some v) (ez : z = (j : Int)) (hj : j < 2 ^ 62) (h : Q v s)
    (hs : subscripted slice false (.ref l) (.int z u) = operate [.ref l, .int z u] (getItem (.ref l) (.int z u)) := by with_unfolding_all rfl) :
    wpAny (model prog w) A (subscriptTail value slice (.ref l) (.int z u)) Q E s := by
  subst ez
  have hl : s.heap.IsList l vs.toArray := ⟨_, (N _ hm).1, rfl, c, rfl⟩
  exact tail_any hl.typeIs slot_list_getitem.lookup (wpAny_getItem_list hl (by omega) (by omega) (by simpa using hx) h) hs
theorem fdN {lo hi : Nat} {t u : Tok} {Q : Value → Shared → Prop} (h : Q (.int (((lo + hi) / 2 : Nat) : Int) s.toks) { s with toks := s.toks + 1 }) : wpAny (model prog w) A (binaryOp .FloorDiv (.int ((lo : Int) + hi) t) (.int 2 u)) Q E s := by
  have e : ((lo : Int) + hi).fdiv 2 = (((lo + hi) / 2 : Nat) : Int) := by
    rw [Int.fdiv_eq_ediv_of_nonneg _ (by decide)]; simp
  exact PyProof.Rows.floordiv_int (by decide) (by rw [e]; exact h)
theorem insertG {l : Addr} {vs : List Value} {c p : Nat} {u : Tok} {y : Value} {rest : List (Addr × Obj)} {Q : Value → Shared → Prop} (F : Fr h₀ L s.heap m) (N : News h₀ L s.heap ((l, listOf vs.toArray c) :: rest)) (hne : ∀ q ∈ rest, q.1 ≠ l) (hp : p ≤ vs.length) (hz : vs.length ≤ 2 ^ 22)
    (h : ∀ h', Fr h₀ L h' m → News h₀ L h' ((l, listOf (vs.take p ++ y :: vs.drop p).toArray (c + 1)) :: rest) → Q .none { s with heap := h' }) :
    wpAny (model prog w) A (call (.builtin "list.insert") [.ref l, .int (p : Int) u, y]) Q E s := by
  refine kl_insert (l := vs.take p ++ y :: vs.drop p) F N ?_ ?_ (Upd.head hne) ?_ h
  · unfold Builtin.List.listFitsIndex
    simp only [Bool.and_eq_true, decide_eq_true_eq]; omega
  · show kl_ins vs (p : Int) y = _
    unfold kl_ins
    rw [if_neg (by omega), Int.toNat_natCast, Nat.min_eq_left hp]
  · rw [sizeLine_eq]; show vs.length ≤ _; omega
end
end
section
section
variable {w : World} {p : Program} {loose : List Str} {mean : ExcName → Option Value} {mg mb : Str → Option Value}

theorem bisect_ctr {α : Type} (κ : Kind α) (l : Addr) (vs : List Value) (as : List α) (e : Nat) (x : Value) (b : α) (t0 : Tok) (TT : List (Addr × Obj)) (p' : Nat) (hA : Are κ TT vs as) (hb : κ.rel TT x b) (hle : p' ≤ as.length) (hp : ∀ i a, as[i]? = some a → κ.lt a b = decide (i < p')) (hlen : as.length ≤ 2 ^ 22) :
    Ctr PySem.Challenge.rw_ga0003_02.row.prog w (hd.heap_39 w.params) p loose mean mg mb 74 20 200 [.ref l, x, .int 0 t0, .none] ((l, listOf vs.toArray e) :: TT)
      (fun r hd' => (∃ t, r = .int p' t) ∧ hd' = (l, listOf vs.toArray e) :: TT) := by
  k_with_none
  k_with "tb_start_1" => (refine wpAny_call ?_; k_dflt (refine' codeF_def ?w1k1 ?w1k2 ?w1k3 ?w1k4 ?w1kD ?w1k5 ?w1kA ?w1kF ?w1kK ?w1k6 ?w1k7 ?w1k8 ?w1k9 ?w1kB ?_ ?w1c2 ?w1c3 ?w1c4 ?w1c5; (case w1kA => exact rfl); (case w1kF => exact rfl); (case w1kK => assumption); (case w1k1 => k_asm); (case w1k2 => k_asm); (case w1k3 => k_asm); (case w1k4 => k_asm); (case w1kD => assumption); (case w1k5 => k_asm); (case w1k6 => k_is); (case w1k7 => k_is); (case w1k8 => ktr_room); (case w1k9 => first | exact BindsTo.of_eq rfl | exact binds_K (by k_in) rfl (by k_is) rfl rfl rfl | (refine' kp_binds ?w1kx ?w1ke; (case w1kx => k_in); (case w1ke => exact fun _ => rfl))); (case w1c5 => decide); (case w1kB => exact locs rfl); (case w1c2 => exact rfl); (case w1c3 => exact rfl); (case w1c4 => exact rfl); k_whole; intro _ _ _ _ _ _ _ _ _ _ l1; (try dsimp only); (try k_lt l1); revert l1; intro _; (try k_fold)))
  k_with "spliced" => (first | refine args_cons ?_ | refine args_nil ⟨Fr.keep (by assumption) _ _ (by assumption), ?_⟩ | (refine args_nil ?_; try simp only [List.cons_append, List.nil_append]))
  k_with "binaryOp FloorDiv int int" => ((refine fdN ?_))
  k_with "exec While Compare cons nil" => ((refine hold ?_))
  k_fill
  intro dp un gd cn cs a ccd cl outer A₀ base h₀ L m s rest Q E B C1 C2 F X N D T hk hdp hun hret
  k_extra "tb_start_1"
  have NR : News h₀ L s.heap rest := newsSub N fun p hp => List.mem_append_right _ hp
  k_steps
  refine lenG (k := as.length) (by k_asm) (ixMem 0 rfl) hA.1 (by omega) ?_
  k_steps
  unfold Hold
  rename_i tk1 h1 F1 N1
  k_dflt (refine While_inv (n₀ := as.length) (fun n m news => ∃ (lo hi : Nat) (tl th : Tok), news = (l, listOf vs.toArray e) :: TT ∧ m (Str.ofString "a") = some (.ref l) ∧ m (Str.ofString "x") = some x ∧ m (Str.ofString "lo") = some (.int lo tl) ∧ m (Str.ofString "hi") = some (.int hi th) ∧ lo ≤ p' ∧ p' ≤ hi ∧ hi ≤ as.length ∧ n = hi - lo) F1 N1 ?_ ?_ ?_)
  · exact ⟨0, as.length, _, _, rfl, rfl, rfl, rfl, rfl, Nat.zero_le _, hle, Nat.le_refl _, rfl⟩
  · rintro n m₁ news₁ h₁ tk₁ F3 N3 ⟨lo, hi, tl, th, rfl, hma, hmx, hml, hmh, hlo, hhi, hhn, rfl⟩
    have F4 := Fr.know F3 hma
    have F5 := Fr.know F4 ((if_neg (by decide)).trans hmx)
    have F6 := Fr.know F5 ((if_neg (by decide)).trans ((if_neg (by decide)).trans hml))
    have F7 := Fr.know F6 ((if_neg (by decide)).trans ((if_neg (by decide)).trans ((if_neg (by decide)).trans hmh)))
    clear F3 F4 F5 F6 F1 N1
    k_steps
    · rename_i hlt h5 F8 N8
      obtain ⟨v, hv1, hv2⟩ := hA.get (i := (lo + hi) / 2) (by omega)
      refine itemG (by k_asm) (ixMem 0 rfl) hv1 (by omega) ?_
      k_steps
      refine κ.cmp (newsSub N8 fun q hq => List.mem_cons_of_mem _ hq) hv2 hb (by ktr_units) ?_
      rw [hp _ _ (List.getElem?_eq_getElem (by omega))]
      by_cases hm : (lo + hi) / 2 < p'
      · rw [decide_eq_true hm]
        k_steps
        exact WhileStep.intro (n' := hi - ((lo + hi) / 2 + 1)) (by assumption) (by assumption) (by omega) ⟨(lo + hi) / 2 + 1, hi, _, _, rfl, rfl, rfl, rfl, rfl, by omega, by omega, by omega, rfl⟩
      · rw [decide_eq_false hm]
        k_steps
        exact WhileStep.intro (n' := (lo + hi) / 2 - lo) (by assumption) (by assumption) (by omega) ⟨lo, (lo + hi) / 2, _, _, rfl, rfl, rfl, rfl, rfl, by omega, by omega, by omega, rfl⟩
    · rename_i hlt kF9 kN9 T9 X9
      have e1 : lo = p' := by omega
      subst e1
      exact ctr_ret hret NR (by assumption) F7 N3 kF9 kN9 ⟨⟨_, rfl⟩, rfl⟩
  · passes_own
theorem bisect2_ctr {α : Type} (κ : Kind α) (l : Addr) (vs : List Value) (as : List α) (e : Nat) (x : Value) (b : α) (TT : List (Addr × Obj)) (p' : Nat) (hA : Are κ TT vs as) (hb : κ.rel TT x b) (hle : p' ≤ as.length) (hp : ∀ i a, as[i]? = some a → κ.lt a b = decide (i < p')) (hlen : as.length ≤ 2 ^ 22) :
    Ctr PySem.Challenge.rw_ga0003_02.row.prog w (hd.heap_39 w.params) p loose mean mg mb 74 20 200 [.ref l, x] ((l, listOf vs.toArray e) :: TT)
      (fun r hd' => (∃ t, r = .int p' t) ∧ hd' = (l, listOf vs.toArray e) :: TT) := by
  k_with_none
  k_with "tb_start_2" => (refine wpAny_call ?_; k_dflt (refine' codeF_def ?w2k1 ?w2k2 ?w2k3 ?w2k4 ?w2kD ?w2k5 ?w2kA ?w2kF ?w2kK ?w2k6 ?w2k7 ?w2k8 ?w2k9 ?w2kB ?_ ?w2c2 ?w2c3 ?w2c4 ?w2c5; (case w2kA => exact rfl); (case w2kF => exact rfl); (case w2kK => assumption); (case w2k1 => k_asm); (case w2k2 => k_asm); (case w2k3 => k_asm); (case w2k4 => k_asm); (case w2kD => assumption); (case w2k5 => k_asm); (case w2k6 => k_is); (case w2k7 => k_is); (case w2k8 => ktr_room); (case w2k9 => first | exact BindsTo.of_eq rfl | exact binds_K (by k_in) rfl (by k_is) rfl rfl rfl | (refine' kp_binds ?w2kx ?w2ke; (case w2kx => k_in); (case w2ke => exact fun _ => rfl))); (case w2c5 => decide); (case w2kB => exact locs rfl); (case w2c2 => exact rfl); (case w2c3 => exact rfl); (case w2c4 => exact rfl); k_whole; intro _ _ _ _ _ _ _ _ _ _ l1; (try dsimp only); (try k_lt l1); revert l1; intro _; (try k_fold)))
  k_with "spliced" => (first | refine args_cons ?_ | refine args_nil ⟨Fr.keep (by assumption) _ _ (by assumption), ?_⟩ | (refine args_nil ?_; try simp only [List.cons_append, List.nil_append]))
  k_with "binaryOp FloorDiv int int" => ((refine fdN ?_))
  k_with "exec While Compare cons nil" => ((refine hold ?_))
  k_fill
  intro dp un gd cn cs a ccd cl outer A₀ base h₀ L m s rest Q E B C1 C2 F X N D T hk hdp hun hret
  k_extra "tb_start_2"
  have NR : News h₀ L s.heap rest := newsSub N fun p hp => List.mem_append_right _ hp
  k_steps
  refine lenG (k := as.length) (by k_asm) (ixMem 0 rfl) hA.1 (by omega) ?_
  k_steps
  unfold Hold
  rename_i tk1 h1 F1 N1
  k_dflt (refine While_inv (n₀ := as.length) (fun n m news => ∃ (lo hi : Nat) (tl th : Tok), news = (l, listOf vs.toArray e) :: TT ∧ m (Str.ofString "a") = some (.ref l) ∧ m (Str.ofString "x") = some x ∧ m (Str.ofString "lo") = some (.int lo tl) ∧ m (Str.ofString "hi") = some (.int hi th) ∧ lo ≤ p' ∧ p' ≤ hi ∧ hi ≤ as.length ∧ n = hi - lo) F1 N1 ?_ ?_ ?_)
  · exact ⟨0, as.length, _, _, rfl, rfl, rfl, rfl, rfl, Nat.zero_le _, hle, Nat.le_refl _, rfl⟩
  · rintro n m₁ news₁ h₁ tk₁ F3 N3 ⟨lo, hi, tl, th, rfl, hma, hmx, hml, hmh, hlo, hhi, hhn, rfl⟩
    have F4 := Fr.know F3 hma
    have F5 := Fr.know F4 ((if_neg (by decide)).trans hmx)
    have F6 := Fr.know F5 ((if_neg (by decide)).trans ((if_neg (by decide)).trans hml))
    have F7 := Fr.know F6 ((if_neg (by decide)).trans ((if_neg (by decide)).trans ((if_neg (by decide)).trans hmh)))
    clear F3 F4 F5 F6 F1 N1
    k_steps
    · rename_i hlt h5 F8 N8
      obtain ⟨v, hv1, hv2⟩ := hA.get (i := (lo + hi) / 2) (by omega)
      refine itemG (by k_asm) (ixMem 0 rfl) hv1 (by omega) ?_
      k_steps
      refine κ.cmp (newsSub N8 fun q hq => List.mem_cons_of_mem _ hq) hv2 hb (by ktr_units) ?_
      rw [hp _ _ (List.getElem?_eq_getElem (by omega))]
      by_cases hm : (lo + hi) / 2 < p'
      · rw [decide_eq_true hm]
        k_steps
        exact WhileStep.intro (n' := hi - ((lo + hi) / 2 + 1)) (by assumption) (by assumption) (by omega) ⟨(lo + hi) / 2 + 1, hi, _, _, rfl, rfl, rfl, rfl, rfl, by omega, by omega, by omega, rfl⟩
      · rw [decide_eq_false hm]
        k_steps
        exact WhileStep.intro (n' := (lo + hi) / 2 - lo) (by assumption) (by assumption) (by omega) ⟨lo, (lo + hi) / 2, _, _, rfl, rfl, rfl, rfl, rfl, by omega, by omega, by omega, rfl⟩
    · rename_i hlt kF9 kN9 T9 X9
      have e1 : lo = p' := by omega
      subst e1
      exact ctr_ret hret NR (by assumption) F7 N3 kF9 kN9 ⟨⟨_, rfl⟩, rfl⟩
  · passes_own

theorem insort_ctr {α : Type} (κ : Kind α) (l : Addr) (vs : List Value) (as : List α) (e : Nat) (x : Value) (b : α) (TT : List (Addr × Obj)) (p' : Nat) (hne : ∀ q ∈ TT, q.1 ≠ l) (hA : Are κ TT vs as) (hb : κ.rel TT x b) (hle : p' ≤ as.length) (hp : ∀ i a, as[i]? = some a → κ.lt a b = decide (i < p')) (hlen : as.length ≤ 2 ^ 22) :
    Ctr PySem.Challenge.rw_ga0003_02.row.prog w (hd.heap_39 w.params) p loose mean mg mb 65 24 240 [.ref l, x] ((l, listOf vs.toArray e) :: TT)
      (fun r hd' => r = .none ∧ hd' = (l, listOf (vs.take p' ++ x :: vs.drop p').toArray (e + 1)) :: TT) := by
  k_with_none
  k_with "tb_start_3" => (refine wpAny_call ?_; k_dflt (refine' codeF_def ?w3k1 ?w3k2 ?w3k3 ?w3k4 ?w3kD ?w3k5 ?w3kA ?w3kF ?w3kK ?w3k6 ?w3k7 ?w3k8 ?w3k9 ?w3kB ?_ ?w3c2 ?w3c3 ?w3c4 ?w3c5; (case w3kA => exact rfl); (case w3kF => exact rfl); (case w3kK => assumption); (case w3k1 => k_asm); (case w3k2 => k_asm); (case w3k3 => k_asm); (case w3k4 => k_asm); (case w3kD => assumption); (case w3k5 => k_asm); (case w3k6 => k_is); (case w3k7 => k_is); (case w3k8 => ktr_room); (case w3k9 => first | exact BindsTo.of_eq rfl | exact binds_K (by k_in) rfl (by k_is) rfl rfl rfl | (refine' kp_binds ?w3kx ?w3ke; (case w3kx => k_in); (case w3ke => exact fun _ => rfl))); (case w3c5 => decide); (case w3kB => exact locs rfl); (case w3c2 => exact rfl); (case w3c3 => exact rfl); (case w3c4 => exact rfl); k_whole; intro _ _ _ _ _ _ _ _ _ _ l1; (try dsimp only); (try k_lt l1); revert l1; intro _; (try k_fold)))
  k_with "spliced" => (first | refine args_cons ?_ | refine args_nil ⟨Fr.keep (by assumption) _ _ (by assumption), ?_⟩ | (refine args_nil ?_; try simp only [List.cons_append, List.nil_append]))
  k_with "binaryOp FloorDiv int int" => ((refine fdN ?_))
  k_with "exec While Compare cons nil" => ((refine hold ?_))
  k_fill
  intro dp un gd cn cs a ccd cl outer A₀ base h₀ L m s rest Q E B C1 C2 F X N D T hk hdp hun hret
  k_extra "tb_start_3"
  have NR : News h₀ L s.heap rest := newsSub N fun p hp => List.mem_append_right _ hp
  k_steps
  k_dflt (refine' bisect_ctr κ l vs as e x b _ TT p' hA hb hle hp hlen _ _ _ _ _ _ _ _ _ _ _ _ _ _ _ ([]) _ _ ?q6xk1 ?q6xk2 ?q6xk3 ?q6xk4 ?q6xk5 ?q6xk6 ?q6xk7 ?q6xk8 ?q6xk9 ?q6xk10 ?q6xk11 ?q6xkR)
  case q6xk1 => k_asm
  case q6xk2 => assumption
  case q6xk3 => assumption
  case q6xk4 => k_asm
  case q6xk5 => k_asm
  case q6xk6 => rw [List.append_nil]; k_asm
  case q6xk7 => exact Off.nilR _
  case q6xk8 => k_asm
  case q6xk9 => first | exact rfl | assumption
  case q6xk10 => ktr_room
  case q6xk11 => ktr_units
  intro r hd' h' tk' F' N' D' ⟨⟨tp, hr⟩, ehd⟩
  subst hr ehd
  rw [List.append_nil] at N'
  dsimp only
  k_steps
  refine insertG (by k_asm) (by k_asm) hne (by rw [hA.1]; exact hle) (by rw [hA.1]; exact hlen) ?_
  intro h7 F7 N7
  dsimp only
  k_steps
  rename_i kF9 kN9 T9 X9
  exact ctr_ret hret NR (by assumption) F7 N7 kF9 kN9 ⟨rfl, rfl⟩
end
end
section
/-- what an object is, roughly: two of one ledger that are not the same stand apart -/
def tag (o : Obj) : Nat := match o.data with
  | .fields _ => 0
  | .seq _ _ => if o.cls == .type "list" then 1 else 2
  | .cell _ => 3
  | _ => 4
theorem tag_list (vs : List Value) (e : Nat) : tag (listOf vs.toArray e) = 1 := rfl
theorem tag_tup (vs : List Value) (e : Nat) : tag (tupObj vs e) = 2 := rfl
theorem tag_cell {o : Obj} {v : Option Value} (h : o.data = .cell v) : tag o = 3 := by unfold tag; rw [h]
theorem Tab.tags {P : Addr} {ln cl : Int} {q : Str} {T : List (Addr × Obj)} (hT : Tab P ln cl q T) : ∀ p ∈ T, tag p.2 = 0 := by
  intro p hp
  rcases hT with rfl | ⟨c', oc, vs, t, rfl, d1, _, _⟩
  · rw [List.mem_singleton.mp hp]; rfl
  · rcases List.mem_cons.mp hp with rfl | hp
    · rfl
    · rw [List.mem_singleton.mp hp]; unfold tag; rw [d1]
theorem tagNe {h₀ h : Heap} {L : Addr} {led : List (Addr × Obj)} (N : News h₀ L h led) {p q : Addr × Obj} (hp : p ∈ led) (hq : q ∈ led) (ht : tag p.2 ≠ tag q.2) : p.1 ≠ q.1 := fun e => by
  have h1 := (N p hp).1
  have h2 := (N q hq).1
  rw [e, h2] at h1
  exact ht (by rw [Option.some.inj h1])
theorem offTag {h₀ h : Heap} {L : Addr} {led xs ys : List (Addr × Obj)} (N : News h₀ L h led) (hx : ∀ p ∈ xs, p ∈ led) (hy : ∀ p ∈ ys, p ∈ led) (ht : ∀ p ∈ xs, ∀ q ∈ ys, tag p.2 ≠ tag q.2) : Off xs ys :=
  fun p hp q hq => tagNe N (hx p hp) (hy q hq) (ht p hp q hq)
theorem offTag0 {h₀ h : Heap} {L : Addr} {led xs ys : List (Addr × Obj)} (N : News h₀ L h led) (hx : ∀ p ∈ xs, p ∈ led) (hy : ∀ p ∈ ys, p ∈ led) (h0 : ∀ p ∈ xs, tag p.2 = 0) (h1 : ∀ q ∈ ys, tag q.2 ≠ 0) : Off xs ys :=
  offTag N hx hy fun p hp q hq e => h1 q hq (e ▸ h0 p hp)
theorem tabs0 {P1 P2 : Addr} {a b c d : Int} {q1 q2 : Str} {T2 T3 : List (Addr × Obj)} (h2 : Tab P1 a b q1 T2) (h3 : Tab P2 c d q2 T3) : ∀ p ∈ T2 ++ T3, tag p.2 = 0 := fun p hp => (List.mem_append.mp hp).elim (h2.tags p) (h3.tags p)
theorem rangeSize_k {a b : Int} {n : Nat} (h : b - a = (n : Int)) : Builtin.Range.rangeSize a b 1 = ((n : Nat) : Int) := by
  rw [rangeSize_nat]; omega
theorem bits_small {x : Int} (h0 : -(2 ^ 64) < x) (h1 : x < 2 ^ 64) : Builtin.Int.intBits x ≤ 2 ^ 21 := Nat.le_trans (intBits_le_64 h0 h1) (by decide)
theorem Off.appL {xs ys zs : List (Addr × Obj)} (h1 : Off xs zs) (h2 : Off ys zs) : Off (xs ++ ys) zs := fun p hp => (List.mem_append.mp hp).elim (h1 p) (h2 p)
theorem Off.appR {xs ys zs : List (Addr × Obj)} (h1 : Off xs ys) (h2 : Off xs zs) : Off xs (ys ++ zs) := fun p hp q hq => (List.mem_append.mp hq).elim (h1 p hp q) (h2 p hp q)
theorem Off.consR {a : Addr} {o : Obj} {xs ys : List (Addr × Obj)} (h : ∀ p ∈ xs, p.1 ≠ a) (t : Off xs ys) : Off xs ((a, o) :: ys) := fun p hp q hq => (List.mem_cons.mp hq).elim (fun e => by rw [e]; exact h p hp) (t p hp q)
theorem Off.subL {xs xs' ys : List (Addr × Obj)} (h : Off xs ys) (hs : ∀ p ∈ xs', p ∈ xs) : Off xs' ys := fun p hp => h p (hs p hp)
theorem Off.subR {xs ys ys' : List (Addr × Obj)} (h : Off xs ys) (hs : ∀ p ∈ ys', p ∈ ys) : Off xs ys' := fun p hp q hq => h p hp q (hs q hq)

section
variable {prog : Program} {w : World} {A : Around} {s : Shared} {h₀ : Heap} {L : Addr} {m : Str → Option Value} {env : Env}
/-- a comprehension by what holds between its turns -/
theorem compInv {elt : Expr} {x : Str} {scope : Scope} {cl : List (Str × Addr)} {S : List (Addr × Obj) → Prop} {P : Nat → Value → Prop} {Fin : List Value → List (Addr × Obj) → Prop} {n : Nat} (J : Nat → List Value → List (Addr × Obj) → Prop)
    (fin : ∀ ys news, J n ys news → Fin ys news)
    (turn : ∀ i ys news v I oI C oC D m₂ h tk (E' : Value → Shared → Prop), i < n → J i ys news → P i v → LCg.NsObj oC m₂ → m₂ x = some v → Fr h₀ L h m → News h₀ L h ((I, oI) :: (C, oC) :: (D, LCg.lst ys) :: news) → LCg.Off3 I C D news → ((@Ne Nat I C) ∧ (@Ne Nat I D) ∧ (@Ne Nat C D)) →
      wpAny (model prog w) A (eval elt (compEnvC scope cl C env)) (LCg.CompEnd h₀ L m { s with heap := h, toks := tk } I oI C oC D (LCg.lst ys) S (fun y news' => J (i + 1) (ys ++ [y]) news')) E' { s with heap := h, toks := tk }) :
    ∀ k i ys news, i + k = n → J i ys news → LCg.CompRest prog w A h₀ L m env elt x scope cl s S P Fin k i ys news := by
  intro k
  induction k with
  | zero =>
    intro i ys news e hJ
    have : i = n := by omega
    subst this
    exact LCg.CompRest.zero (fin ys news hJ)
  | succ k ih =>
    intro i ys news e hJ
    refine LCg.CompRest.succ fun v I oI C oC D m₂ h tk E' hP hC hx F N off ne => ?_
    refine wpAny_mono (turn i ys news v I oI C oC D m₂ h tk E' (by omega) hJ hP hC hx F N off ne) (fun y s₂ h₂ => ?_) fun _ _ x => x
    obtain ⟨h', tk', news', e1, F', N', off', hS, hJ'⟩ := h₂
    exact ⟨h', tk', news', e1, F', N', off', hS, ih (i + 1) _ news' (by omega) hJ'⟩
end
end
section
section
variable {α : Type} {lt : α → α → Bool}
def Srt (lt : α → α → Bool) (as : List α) : Prop := as.Pairwise fun a b => lt a b = true
theorem cutAt (htr : ∀ a b c, lt a b = true → lt b c = true → lt a c = true) : ∀ {as : List α}, Srt lt as → ∀ b, ∃ p, p ≤ as.length ∧ ∀ i a, as[i]? = some a → lt a b = decide (i < p)
  | [], _, b => ⟨0, Nat.le_refl _, fun i a h => by simp at h⟩
  | a :: r, hs, b => by
    obtain ⟨h1, h2⟩ := List.pairwise_cons.mp hs
    cases hab : lt a b with
    | true =>
      obtain ⟨p, hp, hr⟩ := cutAt htr h2 b
      refine ⟨p + 1, by simp; omega, fun i c hc => ?_⟩
      cases i with
      | zero => simp at hc; rw [← hc, hab]; simp
      | succ i => rw [hr i c (by simpa using hc)]; simp
    | false =>
      refine ⟨0, Nat.zero_le _, fun i c hc => ?_⟩
      have e : decide (i < 0) = false := by simp
      rw [e]
      cases i with
      | zero => simp at hc; rw [← hc, hab]
      | succ i =>
        cases hcb : lt c b with
        | false => rfl
        | true =>
          have hm : c ∈ r := List.mem_of_getElem? (by simpa using hc)
          rw [htr _ _ _ (h1 c hm) hcb] at hab; cases hab
theorem mem_ins {as : List α} {p : Nat} {b x : α} : x ∈ as.take p ++ b :: as.drop p ↔ x = b ∨ x ∈ as := by
  have e : x ∈ as ↔ x ∈ as.take p ∨ x ∈ as.drop p := by rw [← List.mem_append, List.take_append_drop]
  rw [List.mem_append, List.mem_cons, e]
  constructor
  · rintro (h | h | h)
    · exact .inr (.inl h)
    · exact .inl h
    · exact .inr (.inr h)
  · rintro (h | h | h)
    · exact .inr (.inl h)
    · exact .inl h
    · exact .inr (.inr h)
theorem ins_len {as : List α} {p : Nat} {b : α} (hp : p ≤ as.length) : (as.take p ++ b :: as.drop p).length = as.length + 1 := by
  rw [List.length_append, List.length_cons, List.length_take, List.length_drop]; omega
theorem ins_srt (htot : ∀ a b, a ≠ b → lt a b = true ∨ lt b a = true) {as : List α} {p : Nat} {b : α} (hs : Srt lt as) (hp : p ≤ as.length) (hr : ∀ (i : Nat) a, as[i]? = some a → lt a b = decide (i < p)) (hb : b ∉ as) : Srt lt (as.take p ++ b :: as.drop p) := by
  have hs' : Srt lt (as.take p ++ as.drop p) := by rw [List.take_append_drop]; exact hs
  obtain ⟨h1, h2, h3⟩ := List.pairwise_append.mp hs'
  have ht : ∀ x ∈ as.take p, lt x b = true := fun x hx => by
    obtain ⟨i, hi, e⟩ := List.mem_take_iff_getElem.mp hx
    have : i < p := by omega
    rw [hr i x (by rw [← e]; exact List.getElem?_eq_getElem _)]
    simpa using this
  have hd : ∀ y ∈ as.drop p, lt b y = true := fun y hy => by
    obtain ⟨i, hi, e⟩ := List.mem_drop_iff_getElem.mp hy
    have hf : lt y b = false := by
      rw [hr (p + i) y (by rw [← e]; exact List.getElem?_eq_getElem _)]
      simp
    rcases htot y b (fun q => hb (q ▸ List.mem_of_mem_drop hy)) with h | h
    · rw [hf] at h; cases h
    · exact h
  refine List.pairwise_append.mpr ⟨h1, List.pairwise_cons.mpr ⟨hd, h2⟩, fun x hx y hy => ?_⟩
  rcases List.mem_cons.mp hy with rfl | hy
  · exact ht x hx
  · exact h3 x hx y hy
end
theorem int_tr : ∀ a b c : Int, kInt.lt a b = true → kInt.lt b c = true → kInt.lt a c = true := by
  intro a b c h1 h2
  simp only [kInt, decide_eq_true_eq] at *
  omega
theorem int_tot : ∀ a b : Int, a ≠ b → kInt.lt a b = true ∨ kInt.lt b a = true := by
  intro a b h
  simp only [kInt, decide_eq_true_eq]
  omega
end
section
/-- the tests of a clause -/
def tst (ifs : List PySem.Expr) (env : Env) : Sem Bool :=
  forIn ifs true fun c r => if r = true then do let ok ← isTrue c env (eval c env); pure (ForInStep.yield ok) else pure (ForInStep.yield r)
theorem turn_in (elt t1 i1 t2 i2 : PySem.Expr) (f1 f2 : List PySem.Expr) (scope : Scope) (pos : Pos) (it acc : Value) (env : Env) :
    compTurn (.ListComp elt [⟨t1, i1, f1, 0⟩, ⟨t2, i2, f2, 0⟩] scope pos) 1 it acc env = (standAt i2.pos >>= fun _ => pyNext it >>= fun r => match r with
      | none => pure (.done .next)
      | some v => letOwnedTupleGo t2 it v >>= fun _ => assign t2 env v >>= fun _ => tst f2 env >>= fun ok =>
         if ok = true then (eval elt env >>= fun x => call (.builtin "list.append") [acc, x] >>= fun _ => pure ()) >>= fun _ => again (.compLoop (.ListComp elt [⟨t1, i1, f1, 0⟩, ⟨t2, i2, f2, 0⟩] scope pos) 1 it acc env) else again (.compLoop (.ListComp elt [⟨t1, i1, f1, 0⟩, ⟨t2, i2, f2, 0⟩] scope pos) 1 it acc env)) := by rfl
theorem turn_out (elt t1 i1 t2 i2 : PySem.Expr) (f1 f2 : List PySem.Expr) (scope : Scope) (pos : Pos) (it acc : Value) (env : Env) :
    compTurn (.ListComp elt [⟨t1, i1, f1, 0⟩, ⟨t2, i2, f2, 0⟩] scope pos) 0 it acc env = (standAt i1.pos >>= fun _ => pyNext it >>= fun r => match r with
      | none => pure (.done .next)
      | some v => letOwnedTupleGo t1 it v >>= fun _ => assign t1 env v >>= fun _ => tst f1 env >>= fun ok =>
         if ok = true then (eval i2 env >>= fun x => standAt i2.pos >>= fun _ => foldedSetIterable i2 env x >>= fun x => holding [x] (pyIter x) >>= fun it2 => runOwn (.compStart (.ListComp elt [⟨t1, i1, f1, 0⟩, ⟨t2, i2, f2, 0⟩] scope pos) 1 it2 acc env) env >>= fun _ => again (.compLoop (.ListComp elt [⟨t1, i1, f1, 0⟩, ⟨t2, i2, f2, 0⟩] scope pos) 0 it acc env)) else again (.compLoop (.ListComp elt [⟨t1, i1, f1, 0⟩, ⟨t2, i2, f2, 0⟩] scope pos) 0 it acc env)) := by rfl
theorem turn_one (elt t1 i1 : PySem.Expr) (f1 : List PySem.Expr) (scope : Scope) (pos : Pos) (it acc : Value) (env : Env) :
    compTurn (.ListComp elt [⟨t1, i1, f1, 0⟩] scope pos) 0 it acc env = (standAt i1.pos >>= fun _ => pyNext it >>= fun r => match r with
      | none => pure (.done .next)
      | some v => letOwnedTupleGo t1 it v >>= fun _ => assign t1 env v >>= fun _ => tst f1 env >>= fun ok =>
         if ok = true then (eval elt env >>= fun x => call (.builtin "list.append") [acc, x] >>= fun _ => pure ()) >>= fun _ => again (.compLoop (.ListComp elt [⟨t1, i1, f1, 0⟩] scope pos) 0 it acc env) else again (.compLoop (.ListComp elt [⟨t1, i1, f1, 0⟩] scope pos) 0 it acc env)) := by rfl
section
variable {prog : Program} {w : World} {A : Around} {E : Value → Shared → Prop} {s : Shared} {h₀ : Heap} {L : Addr} {m : Str → Option Value}

/-- what holds behind a turn -/
def LEnd (h₀ : Heap) (L : Addr) (m : Str → Option Value) (I V : Addr) (oI : Obj) (VP : Obj → Prop) (J : List (Addr × Obj) → Prop) (s s₂ : Shared) : Prop :=
  ∃ h' tk news' oV, s₂ = { s with heap := h', toks := tk } ∧ Fr h₀ L h' m ∧ News h₀ L h' ((I, oI) :: (V, oV) :: news') ∧ VP oV ∧ (∀ p ∈ news', p.1 ≠ I ∧ p.1 ≠ V) ∧ J news'

theorem level {elt : PySem.Expr} {gens : List Comprehension} {scope : Scope} {pos : Pos} {d : Nat} {x : Str} {px ip : Pos} {ifs : List PySem.Expr} {I V : Addr} {acc : Value} {cenv : Env} {B : Sem Fin} {fp : List Addr} {n : Nat} {P : Nat → Value → Prop} {St : Nat → Heap → Prop}
    {VP : Obj → Prop} {VX : Value → Obj → Prop} {S : List (Addr × Obj) → Prop} {R : Result → Shared → Prop} {news : List (Addr × Obj)} {oV : Obj}
    (J : Nat → List (Addr × Obj) → Prop)
    (hturn : compTurn (.ListComp elt gens scope pos) d (.ref I) acc cenv = (standAt ip >>= fun _ => pyNext (.ref I) >>= fun r => match r with
      | none => pure (.done .next)
      | some v => letOwnedTupleGo (.Name x px) (.ref I) v >>= fun _ => assign (.Name x px) cenv v >>= fun _ => tst ifs cenv >>= fun ok =>
         if ok = true then B else again (.compLoop (.ListComp elt gens scope pos) d (.ref I) acc cenv)))
    (W : Walks prog w A I fp [I] n P St) (hIo : ∀ i h, St i h → ∃ o, h.get? I = some o)
    (hSt : ∀ i h h' o nw, St i h → h.get? I = some o → h'.get? I = some o → (∀ b o, h₀.get? b = some o → h'.get? b = some o) → News h₀ L h' nw → S nw → St i h')
    (hVf : V ∉ fp) (hLI : L ≠ I) (hLV : L ≠ V) (hI₀ : h₀.get? I = none) (hV₀ : h₀.get? V = none) (hIV : I ≠ V)
    (hasg : ∀ v s₁ oV (E' : Value → Shared → Prop) (Q : Unit → Shared → Prop), VP oV → s₁.heap.get? V = some oV → (∀ h' oV' tk', VP oV' → VX v oV' → h'.get? V = some oV' → Heap.SameBut V s₁.heap h' → Q () { s₁ with heap := h', toks := tk' }) → wpAny (model prog w) A (assign (.Name x px) cenv v) Q E' s₁)
    (hS : ∀ i nw, J i nw → S nw)
    (turn : ∀ i v oI oV h tk news (E' : Value → Shared → Prop), i < n → P i v → J i news → VP oV → VX v oV → Fr h₀ L h m → News h₀ L h ((I, oI) :: (V, oV) :: news) → (∀ p ∈ news, p.1 ≠ I ∧ p.1 ≠ V) →
      wpAny (model prog w) A (tst ifs cenv) (fun ok s' => if ok = true then wpAny (model prog w) A B (fun fin s'' => fin = .again (.compLoop (.ListComp elt gens scope pos) d (.ref I) acc cenv) ∧ LEnd h₀ L m I V oI VP (J (i + 1)) s s'') E' s'
        else LEnd h₀ L m I V oI VP (J (i + 1)) s s') E' { s with heap := h, toks := tk })
    (done : ∀ h tk news oV, J n news → VP oV → Fr h₀ L h m → News h₀ L h ((V, oV) :: news) → (∀ p ∈ news, p.1 ≠ I ∧ p.1 ≠ V) → R (.ok .next) { s with heap := h, toks := tk })
    (hV : VP oV) (hst : St 0 s.heap) (F : Fr h₀ L s.heap m) (N : News h₀ L s.heap ((V, oV) :: news)) (hoff : ∀ p ∈ news, p.1 ≠ I ∧ p.1 ≠ V) (hJ : J 0 news) :
    codeAny (model prog w) A (.compLoop (.ListComp elt gens scope pos) d (.ref I) acc cenv) R s := by
  have key : ∀ k s', (∃ h tk news oV i, s' = { s with heap := h, toks := tk } ∧ i ≤ n ∧ k = n - i ∧ VP oV ∧ St i h ∧ Fr h₀ L h m ∧ News h₀ L h ((V, oV) :: news) ∧ (∀ p ∈ news, p.1 ≠ I ∧ p.1 ≠ V) ∧ J i news) →
      codeAny (model prog w) A (.compLoop (.ListComp elt gens scope pos) d (.ref I) acc cenv) R s' := by
    intro k s' hI
    refine codeAny_loop rfl (fun k s' => ∃ h tk news oV i, s' = { s with heap := h, toks := tk } ∧ i ≤ n ∧ k = n - i ∧ VP oV ∧ St i h ∧ Fr h₀ L h m ∧ News h₀ L h ((V, oV) :: news) ∧ (∀ p ∈ news, p.1 ≠ I ∧ p.1 ≠ V) ∧ J i news) ?_ k hI
    rintro k s' ⟨h, tk, news, oV, i, rfl, hi, rfl, hV, hst, F, N, hoff, hJ⟩
    show wpAny _ A ((compTurn (.ListComp elt gens scope pos) d (.ref I) acc cenv).onRaise (fun x => do noteFrame x cenv; theTreesLotGoes x)) _ _ _
    refine wpAny_noted ?_
    rw [hturn]
    refine wpAny_bind (wpAny_standAt (wpAny_bind ?_))
    by_cases hlt : i < n
    · refine W.item i _ _ _ hlt hst fun v h₂ tk₂ hPv hst₂ hk₂ => ?_
      refine wpAny_bind (wpAny_of_eq (show letOwnedTupleGo (.Name x px) (.ref I) v = pure () from rfl) (wpAny_bind ?_))
      have zV := (N _ (.head _)).1
      have zV2 : h₂.get? V = some oV := hk₂ V oV (by simpa using Ne.symm hIV) zV
      refine hasg v _ oV _ _ hV zV2 fun h₃ oV' tk₃ hVP hVX hg hs₃ => ?_
      dsimp only at hs₃ ⊢
      refine wpAny_bind ?_
      have hst₃ : St (i + 1) h₃ := W.frame _ _ _ hst₂ fun b hb o e => hs₃.extBut b o (fun q => hVf (by rw [← q]; exact hb)) e
      obtain ⟨oI, heI⟩ := hIo _ _ hst₃
      have F₃ : Fr h₀ L h₃ m := (LCg.fr_but F hk₂ hLI hI₀).change hs₃ hLV.symm hV₀
      have N₂ : News h₀ L h₂ ((V, oV) :: news) := LCg.news_but N hk₂ fun p hp => by
        rcases List.mem_cons.mp hp with rfl | hp
        · exact Ne.symm hIV
        · exact (hoff p hp).1
      have N₃ : News h₀ L h₃ ((I, oI) :: (V, oV') :: news) := fun p hp => by
        rcases List.mem_cons.mp hp with rfl | hp
        · exact ⟨heI, Ne.symm hLI, hI₀⟩
        · rcases List.mem_cons.mp hp with rfl | hp
          · exact ⟨hg, Ne.symm hLV, hV₀⟩
          · have z := N₂ p (List.mem_cons_of_mem _ hp)
            exact ⟨hs₃.extBut _ _ (hoff p hp).2 z.1, z.2⟩
      have fin : ∀ {s₂ : Shared}, LEnd h₀ L m I V oI VP (J (i + 1)) s s₂ → ∃ k', k' < n - i ∧ ∃ h tk news oV i, s₂ = { s with heap := h, toks := tk } ∧ i ≤ n ∧ k' = n - i ∧ VP oV ∧ St i h ∧ Fr h₀ L h m ∧ News h₀ L h ((V, oV) :: news) ∧ (∀ p ∈ news, p.1 ≠ I ∧ p.1 ≠ V) ∧ J i news := by
        rintro s₂ ⟨h', tk', news', oV2, rfl, F', N', hVP', hoff', hJ'⟩
        have N4 : News h₀ L h' ((V, oV2) :: news') := fun p hp => N' p (List.mem_cons_of_mem _ hp)
        exact ⟨n - (i + 1), by omega, h', tk', news', oV2, i + 1, rfl, hlt, rfl, hVP', hSt _ _ _ _ _ hst₃ heI (N' _ (.head _)).1 F'.keep (fun p hp => N4 p (List.mem_cons_of_mem _ hp)) (hS _ _ hJ'), F', N4, hoff', hJ'⟩
      refine wpAny_mono (turn i v oI oV' h₃ tk₃ news _ hlt hPv hJ hVP hVX F₃ N₃ hoff) (fun ok s₄ h₄ => ?_) fun _ _ e => e
      cases ok with
      | true =>
        simp only [if_true] at h₄ ⊢
        refine wpAny_mono h₄ (fun fn s₅ h₅ => ?_) fun _ _ e => e
        obtain ⟨rfl, h₅⟩ := h₅
        exact ⟨rfl, fin h₅⟩
      | false =>
        simp only [Bool.false_eq_true, if_false] at h₄ ⊢
        exact wpAny_pure ⟨rfl, fin h₄⟩
    · obtain rfl : i = n := Nat.le_antisymm hi (Nat.not_lt.mp hlt)
      refine W.done _ _ _ hst fun h₂ tk₂ hk₂ => ?_
      refine wpAny_pure ?_
      exact done h₂ tk₂ news oV hJ hV (LCg.fr_but F hk₂ hLI hI₀) (LCg.news_but N hk₂ fun p hp => by
        rcases List.mem_cons.mp hp with rfl | hp
        · exact Ne.symm hIV
        · exact (hoff p hp).1) hoff
  exact key n s ⟨s.heap, s.toks, news, oV, 0, rfl, Nat.zero_le _, rfl, hV, hst, F, N, hoff, hJ⟩
end
end
section
section
variable {prog : Program} {w : World} {A : Around} {E : Value → Shared → Prop} {s : Shared} {h₀ : Heap} {L : Addr} {m : Str → Option Value} {env : Env}

/-- what a loop may go over: a list that stands, or a range by ones -/
def Src (A : Around) (h₀ : Heap) (xv : Value) (h : Heap) (n : Nat) (P : Nat → Value → Prop) (S : List (Addr × Obj) → Prop) (nw : List (Addr × Obj)) : Prop :=
  A.handled = none ∧ n ≤ sizeLine ∧ ((∃ ax its, xv = .ref ax ∧ its.size = n ∧ P = (fun i v => its[i]? = some v) ∧ S = LCg.SrcAt h₀ ax its ∧ LCg.SrcAt h₀ ax its nw) ∨
    (∃ r a b t u v, xv = .ref r ∧ IsRange h r a b 1 t u v ∧ Builtin.Range.small a b 1 = true ∧ Builtin.Range.rangeSize a b 1 = (n : Int) ∧ P = (fun i v => ∃ t, v = .int (a + (i : Int)) t) ∧ S = fun _ => True))
theorem Src.ledger {ax : Addr} {its : Array Value} {k : Nat} {nw : List (Addr × Obj)} {h : Heap} (hh : A.handled = none) (hsz : its.size ≤ sizeLine) (hm : (ax, ({ cls := .type "list", data := .seq its k } : Obj)) ∈ nw) :
    Src A h₀ (.ref ax) h its.size (fun i v => its[i]? = some v) (LCg.SrcAt h₀ ax its) nw := ⟨hh, hsz, .inl ⟨ax, its, rfl, rfl, rfl, rfl, .inr ⟨_, hm, rfl, _, rfl⟩⟩⟩
theorem Src.list {ax : Addr} {vs : List Value} {k n : Nat} {nw : List (Addr × Obj)} {h : Heap} (hh : A.handled = none) (hn : vs.length = n) (hsz : n ≤ sizeLine) (hm : (ax, listOf vs.toArray k) ∈ nw) :
    Src A h₀ (.ref ax) h n (fun i v => vs[i]? = some v) (LCg.SrcAt h₀ ax vs.toArray) nw := ⟨hh, hsz, .inl ⟨ax, vs.toArray, rfl, by simpa using hn, by funext i v; simp, rfl, .inr ⟨_, hm, rfl, _, rfl⟩⟩⟩
theorem Src.range {r : Addr} {a b : Int} {t u v : Tok} {n : Nat} {nw : List (Addr × Obj)} {h : Heap} (hh : A.handled = none) (hsz : n ≤ sizeLine) (hr : IsRange h r a b 1 t u v) (hsm : Builtin.Range.small a b 1 = true) (hn : Builtin.Range.rangeSize a b 1 = (n : Int)) :
    Src A h₀ (.ref r) h n (fun i v => ∃ t, v = .int (a + (i : Int)) t) (fun _ => True) nw := ⟨hh, hsz, .inr ⟨r, a, b, t, u, v, rfl, hr, hsm, hn, rfl, rfl⟩⟩

theorem Src.iter {xv : Value} {n : Nat} {P : Nat → Value → Prop} {S : List (Addr × Obj) → Prop} {nw : List (Addr × Obj)} {Q : Value → Shared → Prop} (hs : Src A h₀ xv s.heap n P S nw) (F : Fr h₀ L s.heap m) (N : News h₀ L s.heap nw)
    (h : ∀ (fp : List Addr) (St : Nat → Heap → Prop) (oI : Obj), Walks prog w A s.heap.objs.size fp [s.heap.objs.size] n P St → (∀ i h, St i h → ∃ o, h.get? s.heap.objs.size = some o) →
      (∀ i h h' o nw, St i h → h.get? s.heap.objs.size = some o → h'.get? s.heap.objs.size = some o → (∀ b o, h₀.get? b = some o → h'.get? b = some o) → News h₀ L h' nw → S nw → St i h') →
      (∀ nw nw', (∀ p ∈ nw, p ∈ nw') → S nw → S nw') → S nw → (∀ b ∈ fp, b < (s.heap.push oI).objs.size) → (∀ b ∈ fp, b = s.heap.objs.size ∨ (∃ o, h₀.get? b = some o) ∨ ∃ o, (b, o) ∈ nw) → St 0 (s.heap.push oI) → Q (.ref s.heap.objs.size) { s with heap := s.heap.push oI }) :
    wpAny (model prog w) A (pyIter xv) Q E s := by
  obtain ⟨hh, hsz, ⟨ax, its, rfl, rfl, rfl, rfl, hS⟩ | ⟨r, a, b, t, u, v, rfl, hr, hsm, hn, rfl, rfl⟩⟩ := hs
  · have hl := hS.list F.keep N
    have hlt : ax < s.heap.objs.size := by obtain ⟨_, e, _⟩ := hl; exact Heap.lt_size e
    refine wpAny_pyIter_list hl ?_
    refine h _ _ _ (Walks.list hh s.heap.objs.size ax (Nat.ne_of_lt hlt) its) (fun i h st => by obtain ⟨o, e, _⟩ := st.1; exact ⟨o, e⟩) LCg.list_st ?_ hS ?_ ?_ ⟨⟨_, Heap.get?_push_size _ rfl, rfl, rfl⟩, hl.push _⟩
    · rintro nw nw' hsub (h | ⟨o, hm, r⟩)
      · exact .inl h
      · exact .inr ⟨o, hsub _ hm, r⟩
    · intro b hb
      rw [Heap.size_push]
      rcases List.mem_cons.mp hb with rfl | hb
      · exact Nat.lt_succ_self _
      · rw [List.mem_singleton.mp hb]; exact Nat.lt_succ_of_lt hlt
    · intro b hb
      rcases List.mem_cons.mp hb with rfl | hb
      · exact .inl rfl
      · rw [List.mem_singleton.mp hb]
        rcases hS with ⟨o, e, _⟩ | ⟨o, hm, _⟩
        · exact .inr (.inl ⟨o, e⟩)
        · exact .inr (.inr ⟨o, hm⟩)
  · refine wpAny_pyIter_range hr hsm ?_
    refine h _ _ _ (LCg.range_walks hh a n) (fun i h st => ⟨_, st⟩) LCg.range_st (fun _ _ _ _ => trivial) trivial ?_ (fun b hb => .inl (List.mem_singleton.mp hb)) (by show IsRangeIter _ _ _ _ _; rw [hn]; simpa using Heap.get?_push_size _ rfl)
    intro b hb
    rw [List.mem_singleton.mp hb, Heap.size_push]
    exact Nat.lt_succ_self _

/-- a turn's end of a comprehension: own stands, the rest is as J says -/
def CEnd (h₀ : Heap) (L : Addr) (m : Str → Option Value) (own : List (Addr × Obj)) (s : Shared) (J : Value → List (Addr × Obj) → Prop) (y : Value) (s₂ : Shared) : Prop :=
  ∃ h' tk news', s₂ = { s with heap := h', toks := tk } ∧ Fr h₀ L h' m ∧ News h₀ L h' (own ++ news') ∧ Off own news' ∧ J y news'
theorem CEnd.intro {h' : Heap} {tk : Nat} {own all news' : List (Addr × Obj)} {J : Value → List (Addr × Obj) → Prop} {y : Value} (F : Fr h₀ L h' m) (N : News h₀ L h' all) (sub : ∀ p ∈ own ++ news', p ∈ all) (off : Off own news') (hJ : J y news') :
    CEnd h₀ L m own s J y { s with heap := h', toks := tk } := ⟨h', tk, news', rfl, F, fun p hp => N p (sub p hp), off, hJ⟩

/-- what a level's ledger says: the list that grows, and what stands with it -/
def JD (D : Addr) (X : List (Addr × Obj)) (J : List Value → List (Addr × Obj) → Prop) (nw : List (Addr × Obj)) : Prop :=
  ∃ ys news, nw = (D, LCg.lst ys) :: (X ++ news) ∧ Off ((D, LCg.lst ys) :: X) news ∧ (∀ p ∈ X, p.1 ≠ D) ∧ ys.length ≤ sizeLine ∧ J ys news

/-- the element is put to the list -/
theorem emit {I V D : Addr} {oI oV : Obj} {VP : Obj → Prop} {X : List (Addr × Obj)} {ys : List Value} {elt : PySem.Expr} {cenv : Env} {c : Code} {J' : List Value → List (Addr × Obj) → Prop} {E' : Value → Shared → Prop} {s₁ : Shared}
    (hD : D ≠ L ∧ h₀.get? D = none) (hys : ys.length ≤ sizeLine) (hDI : D ≠ I) (hDV : D ≠ V) (hX : ∀ p ∈ X, p.1 ≠ D ∧ p.1 ≠ I ∧ p.1 ≠ V) (hVP : VP oV) (hJl : ∀ ys nw, J' ys nw → ys.length ≤ sizeLine)
    (h : wpAny (model prog w) A (eval elt cenv) (CEnd h₀ L m ((I, oI) :: (V, oV) :: (D, LCg.lst ys) :: X) s (fun y nw => J' (ys ++ [y]) nw)) E' s₁) :
    wpAny (model prog w) A ((eval elt cenv >>= fun x => call (.builtin "list.append") [.ref D, x] >>= fun _ => pure ()) >>= fun _ => again c)
      (fun fin s'' => fin = .again c ∧ LEnd h₀ L m I V oI VP (JD D X J') s s'') E' s₁ := by
  refine wpAny_bind (wpAny_bind (wpAny_mono h (fun y s₂ h₂ => ?_) fun _ _ e => e))
  obtain ⟨h', tk, news', rfl, F', N', off, hJ⟩ := h₂
  have zD := (N' (D, LCg.lst ys) (by simp)).1
  refine wpAny_bind (append_at (hsz := by show ys.toArray.size ≤ sizeLine; rw [List.size_toArray]; exact hys) zD fun h₅ hs₅ hD₅ => ?_)
  refine wpAny_pure (wpAny_pure ⟨rfl, h₅, tk, (D, LCg.lst (ys ++ [y])) :: (X ++ news'), oV, rfl, F'.change hs₅ hD.1 hD.2, ?_, hVP, ?_, ys ++ [y], news', rfl, ?_, fun p hp => (hX p hp).1, hJl _ _ hJ, hJ⟩)
  · have st : ∀ p, p ∈ (I, oI) :: (V, oV) :: (D, LCg.lst ys) :: X ++ news' → p.1 ≠ D → h₅.get? p.1 = some p.2 ∧ p.1 ≠ L ∧ h₀.get? p.1 = none := fun p hp hne => ⟨hs₅.extBut _ _ hne (N' p hp).1, (N' p hp).2⟩
    intro p hp
    rcases List.mem_cons.mp hp with rfl | hp
    · exact st _ (by simp) hDI.symm
    rcases List.mem_cons.mp hp with rfl | hp
    · exact st _ (by simp) hDV.symm
    rcases List.mem_cons.mp hp with rfl | hp
    · exact ⟨hD₅.trans (congrArg some (LCg.lst_snoc ys y)), hD⟩
    rcases List.mem_append.mp hp with hp | hp
    · exact st _ (by simp [hp]) (hX p hp).1
    · exact st _ (by simp [hp]) fun e => off (D, LCg.lst ys) (by simp) p hp e.symm
  · intro p hp
    rcases List.mem_cons.mp hp with rfl | hp
    · exact ⟨hDI, hDV⟩
    rcases List.mem_append.mp hp with hp | hp
    · exact (hX p hp).2
    · exact ⟨fun e => off _ (.head _) p hp e.symm, fun e => off _ (.tail _ (.head _)) p hp e.symm⟩
  · intro p hp q hq
    rcases List.mem_cons.mp hp with rfl | hp
    · exact off (D, LCg.lst ys) (by simp) q hq
    · exact off p (by simp [hp]) q hq
theorem noEmit {I V D : Addr} {oI oV : Obj} {VP : Obj → Prop} {X : List (Addr × Obj)} {ys : List Value} {J' : List Value → List (Addr × Obj) → Prop} {s₁ : Shared}
    (hys : ys.length ≤ sizeLine) (hDI : D ≠ I) (hDV : D ≠ V) (hX : ∀ p ∈ X, p.1 ≠ D ∧ p.1 ≠ I ∧ p.1 ≠ V) (hVP : VP oV)
    (h : CEnd h₀ L m ((I, oI) :: (V, oV) :: (D, LCg.lst ys) :: X) s (fun _ nw => J' ys nw) .none s₁) : LEnd h₀ L m I V oI VP (JD D X J') s s₁ := by
  obtain ⟨h', tk, news', rfl, F', N', off, hJ⟩ := h
  refine ⟨h', tk, (D, LCg.lst ys) :: (X ++ news'), oV, rfl, F', N', hVP, ?_, ys, news', rfl, ?_, fun p hp => (hX p hp).1, hys, hJ⟩
  · intro p hp
    rcases List.mem_cons.mp hp with rfl | hp
    · exact ⟨hDI, hDV⟩
    rcases List.mem_append.mp hp with hp | hp
    · exact (hX p hp).2
    · exact ⟨fun e => off _ (.head _) p hp e.symm, fun e => off _ (.tail _ (.head _)) p hp e.symm⟩
  · intro p hp q hq
    rcases List.mem_cons.mp hp with rfl | hp
    · exact off (D, LCg.lst ys) (by simp) q hq
    · exact off p (by simp [hp]) q hq
end
end
section
section
variable {prog : Program} {w : World} {A : Around} {E : Value → Shared → Prop} {R : Result → Shared → Prop} {s : Shared} {h₀ : Heap} {L : Addr} {m : Str → Option Value} {env : Env}
theorem compStart1 {elt t1 i1 t2 i2 : PySem.Expr} {f1 f2 : List PySem.Expr} {scope : Scope} {pos : Pos} {it acc : Value}
    (h0 : codeAny (model prog w) A (.compLoop (.ListComp elt [⟨t1, i1, f1, 0⟩, ⟨t2, i2, f2, 0⟩] scope pos) 1 it acc env) R s)
    (h : wpAny (model prog w) A (pyIter it) (fun it' s' => codeAny (model prog w) A (.compLoop (.ListComp elt [⟨t1, i1, f1, 0⟩, ⟨t2, i2, f2, 0⟩] scope pos) 1 it' acc env) R s')
      (notedBy (model prog w) A env fun x s' => R (.error x) s') s) :
    codeAny (model prog w) A (.compStart (.ListComp elt [⟨t1, i1, f1, 0⟩, ⟨t2, i2, f2, 0⟩] scope pos) 1 it acc env) R s := by
  refine codeAny_of_tree ?_
  show wpAny _ _ ((compStart (.ListComp elt [⟨t1, i1, f1, 0⟩, ⟨t2, i2, f2, 0⟩] scope pos) 1 it acc env).onRaise (fun x => do noteFrame x env; standAt theWindowsPlace)) _ _ s
  refine wpAny_notedAt ?_
  unfold compStart
  show wpAny _ _ (ask >>= _) _ _ s
  refine wpAny_bind (wpAny_askSetting (wpAny_ite ?_))
  split
  · first
      | exact wpAny_bind (wpAny_pure (wpAny_pure (And.intro rfl h0)))
      | exact wpAny_pure (And.intro rfl h0)
  · first
      | exact wpAny_bind (wpAny_rule (wpAny_bind (wpAny_standAt (wpAny_bind (wpAny_mono h (fun it' s' h' => wpAny_pure (And.intro rfl h')) fun _ _ x => x)))))
      | (refine wpAny_bind (wpAny_rule ?_); show wpAny _ _ (standAt i2.pos >>= _) _ _ s; exact wpAny_bind (wpAny_standAt (wpAny_bind (wpAny_mono h (fun it' s' h' => wpAny_pure (And.intro rfl h')) fun _ _ x => x))))

theorem szN {h : Heap} {b : Addr} {o : Obj} (e : h.get? b = some o) : @LT.lt Nat instLTNat b h.objs.size := Heap.lt_size e
theorem frN {h₀ h : Heap} {L : Addr} {m : Str → Option Value} (F : Fr h₀ L h m) : @LT.lt Nat instLTNat L h.objs.size := F.ns.lt
theorem adNe {a b : Addr} (h : @LT.lt Nat instLTNat a b ∨ @LT.lt Nat instLTNat b a) : a ≠ b := fun e => by subst e; exact h.elim (Nat.lt_irrefl _) (Nat.lt_irrefl _)
theorem compStart1' {elt t1 i1 t2 i2 : PySem.Expr} {f1 f2 : List PySem.Expr} {scope : Scope} {pos : Pos} {acc : Value} {I : Addr} {fp wr : List Addr} {n i : Nat} {P : Nat → Value → Prop} {St : Nat → Heap → Prop} (W : Walks prog w A I fp wr n P St) (hst : St i s.heap)
    (h0 : codeAny (model prog w) A (.compLoop (.ListComp elt [⟨t1, i1, f1, 0⟩, ⟨t2, i2, f2, 0⟩] scope pos) 1 (.ref I) acc env) R s) :
    codeAny (model prog w) A (.compStart (.ListComp elt [⟨t1, i1, f1, 0⟩, ⟨t2, i2, f2, 0⟩] scope pos) 1 (.ref I) acc env) R s := compStart1 h0 (W.self i s _ _ hst h0)
/-- what the inner iterable gives -/
def Comp2In (prog : Program) (w : World) (A : Around) (h₀ : Heap) (L : Addr) (m : Str → Option Value) (env : Env) (elt : PySem.Expr) (x1 x2 : Str) (ifs : List PySem.Expr) (scope : Scope) (cl : List (Str × Addr)) (s₁ : Shared)
    (v1 : Value) (I : Addr) (oI : Obj) (C : Addr) (oC : Obj) (D : Addr) (ys : List Value) (Jout : List Value → List (Addr × Obj) → Prop) (xv : Value) (s₂ : Shared) : Prop :=
  ∃ h tk news n2 P2 S2, s₂ = { s₁ with heap := h, toks := tk } ∧ Fr h₀ L h m ∧ News h₀ L h ((I, oI) :: (C, oC) :: (D, LCg.lst ys) :: news) ∧ Off [(I, oI), (C, oC), (D, LCg.lst ys)] news ∧ Src A h₀ xv h n2 P2 S2 news ∧
    ∃ J2 : Nat → List Value → List (Addr × Obj) → Prop, J2 0 ys news ∧ (∀ j ys nw, J2 j ys nw → S2 nw ∧ ys.length ≤ sizeLine) ∧ (∀ ys nw, J2 n2 ys nw → Jout ys nw) ∧
    ∀ j v2 I2 oI2 oC' m₂ h tk ys news (E' : Value → Shared → Prop), j < n2 → P2 j v2 → J2 j ys news → LCg.NsObj oC' m₂ → m₂ x1 = some v1 → m₂ x2 = some v2 → Fr h₀ L h m →
      News h₀ L h ((I2, oI2) :: (C, oC') :: (D, LCg.lst ys) :: (I, oI) :: news) → Off [(I2, oI2), (C, oC'), (D, LCg.lst ys), (I, oI)] news → ((@Ne Nat I2 C) ∧ (@Ne Nat I2 D) ∧ (@Ne Nat I2 I) ∧ (@Ne Nat C D) ∧ (@Ne Nat C I) ∧ (@Ne Nat D I)) →
      wpAny (model prog w) A (tst ifs (compEnvC scope cl C env)) (fun ok s' => if ok = true then
        wpAny (model prog w) A (eval elt (compEnvC scope cl C env)) (CEnd h₀ L m [(I2, oI2), (C, oC'), (D, LCg.lst ys), (I, oI)] s₁ (fun y nw => J2 (j + 1) (ys ++ [y]) nw)) E' s'
        else CEnd h₀ L m [(I2, oI2), (C, oC'), (D, LCg.lst ys), (I, oI)] s₁ (fun _ nw => J2 (j + 1) ys nw) .none s') E' { s₁ with heap := h, toks := tk }

/-- what the outer iterable gives -/
def Comp2 (prog : Program) (w : World) (A : Around) (h₀ : Heap) (L : Addr) (m : Str → Option Value) (env : Env) (elt i2 : PySem.Expr) (x1 x2 : Str) (ifs : List PySem.Expr) (scope : Scope) (cl : List (Str × Addr)) (Fin : Shared → List Value → List (Addr × Obj) → Prop) (xv : Value) (s₁ : Shared) : Prop :=
  ∃ news n1 P1 S1, Fr h₀ L s₁.heap m ∧ News h₀ L s₁.heap news ∧ Src A h₀ xv s₁.heap n1 P1 S1 news ∧
    ∃ J1 : Nat → List Value → List (Addr × Obj) → Prop, J1 0 [] news ∧ (∀ i ys nw, J1 i ys nw → S1 nw ∧ ys.length ≤ sizeLine) ∧ (∀ g ys nw, J1 n1 ys nw → Fin { s₁ with heap := g } ys nw) ∧
    ∀ i v1 I oI C oC D m₂ h tk ys news (E' : Value → Shared → Prop), i < n1 → P1 i v1 → J1 i ys news → LCg.NsObj oC m₂ → m₂ x1 = some v1 → Fr h₀ L h m →
      News h₀ L h ((I, oI) :: (C, oC) :: (D, LCg.lst ys) :: news) → Off [(I, oI), (C, oC), (D, LCg.lst ys)] news → ((@Ne Nat I C) ∧ (@Ne Nat I D) ∧ (@Ne Nat C D)) →
      wpAny (model prog w) A (eval i2 (compEnvC scope cl C env)) (Comp2In prog w A h₀ L m env elt x1 x2 ifs scope cl s₁ v1 I oI C oC D ys (J1 (i + 1))) E' { s₁ with heap := h, toks := tk }

theorem off1Of {D : Addr} : ∀ {l : List (Addr × Obj)}, (∀ p ∈ l, p.1 ≠ D) → LCg.Off1 D l
  | [], _ => trivial
  | _ :: _, h => ⟨h _ List.mem_cons_self, off1Of fun p hp => h p (List.mem_cons_of_mem _ hp)⟩
theorem nsObj_of {h : Heap} {C : Addr} {o : Obj} {m : Str → Option Value} (hn : h.Ns C m) (e : h.get? C = some o) : LCg.NsObj o m := by
  obtain ⟨o', e', r⟩ := LCg.ns_obj hn
  rw [e] at e'; cases e'; exact r

theorem listComp2 {elt i1 i2 : PySem.Expr} {x1 x2 : Str} {p1 p2 : Pos} {ifs : List PySem.Expr} {scope : Scope} {cl : List (Str × Addr)} {pos : Pos} {Q : Value → Shared → Prop} (F₀ : Fr h₀ L s.heap m)
    (hclos : closureFor scope env = pure cl) (hcell : ∀ y ∈ scope.names, y.2 ≠ .cell) (hkind : scope.kind = .function)
    (hnames : ∀ y ∈ scope.names, y.2 = .local → scope.names.lookup y.1 = some .local) (hx1 : scope.names.lookup x1 = some .local) (hx2 : scope.names.lookup x2 = some .local) (hne : x1 ≠ x2)
    (h : wpAny (model prog w) A (eval i1 env) (Comp2 prog w A h₀ L m env elt i2 x1 x2 ifs scope cl (fun s₂ => LCg.FinE h₀ L m s₂ Q)) E s)
    (hs : ∀ x, foldedSetIterable i1 env x = pure x := by intro _; rfl) (hs2 : ∀ C x, foldedSetIterable i2 (compEnvC scope cl C env) x = pure x := by intro _ _; rfl) :
    wpAny (model prog w) A (eval (.ListComp elt [⟨.Name x1 p1, i1, [], 0⟩, ⟨.Name x2 p2, i2, ifs, 0⟩] scope pos) env) Q E s := by
  rw [eval_ListComp]
  refine wpAny_comprehension_free (use := none) rfl hs hclos hkind hnames (wpAny_mono h (fun xv s₁ h₁ => ?_) fun _ _ e => e)
  obtain ⟨news, n1, P1, S1, F, N, src, J1, hJ0, hJS, hFin, enter⟩ := h₁
  refine src.iter F N fun fp St oI W hIo hSt hmono hS hfp _ hst => ?_
  generalize hI : s₁.heap.objs.size = I at *
  refine wpAny_newObj_type (wpAny_newFunctionEnv hcell (by intro y hy; simp at hy) (fun h₁ hns₁ hsb₁ => ?_) hkind)
  dsimp only at hns₁ hsb₁ ⊢
  generalize hH1 : s₁.heap.push oI = H1 at *
  have hH1s : H1.objs.size = I + 1 := by rw [← hH1, Heap.size_push, hI]
  generalize hH2 : H1.push { cls := .type "list", dict := none, data := .seq ([] : List Value).toArray } = H2 at *
  have hC : H2.objs.size = I + 2 := by rw [← hH2, Heap.size_push, hH1s]
  rw [hH1s]
  generalize hDD : I + 1 = D at *
  generalize hCC : H2.objs.size = C at *
  have hDC : D ≠ C := by omega
  have hID : I ≠ D := by omega
  have hIC : I ≠ C := by omega
  have old1 : ∀ b o, s₁.heap.get? b = some o → H1.get? b = some o := fun b o e => hH1 ▸ Heap.get?_push_of_some _ e
  have old2 : ∀ b o, H1.get? b = some o → h₁.get? b = some o := fun b o e => hsb₁.extBut b o (adNe (by have := szN e; omega)) (Heap.get?_push_of_some _ (hH2 ▸ Heap.get?_push_of_some _ e))
  have old : ∀ b o, s₁.heap.get? b = some o → h₁.get? b = some o := fun b o e => old2 b o (old1 b o e)
  have hacc : h₁.get? D = some (LCg.lst []) := hsb₁.extBut _ _ hDC (Heap.get?_push_of_some _ (by rw [← hH2, ← hH1s]; exact Heap.get?_push_size _ rfl))
  have hst₁ : St 0 h₁ := W.frame _ _ _ hst fun b _ o e => old2 b o e
  have fresh₀ : ∀ a : Addr, @LE.le Nat instLENat I a → h₀.get? a = none := fun a ha => by
    cases e : h₀.get? a with
    | none => rfl
    | some o' => have := szN (F.keep a o' e); omega
  have hLlt : @LT.lt Nat instLTNat L I := by have := frN F; omega
  have hCf : C ∉ fp := fun hm => by have : @LT.lt Nat instLTNat C H1.objs.size := hfp _ hm; omega
  obtain ⟨oC, heC, hoC⟩ := LCg.ns_obj hns₁
  have newsLt : ∀ p ∈ news, @LT.lt Nat instLTNat p.1 I := fun p hp => by have := szN (N p hp).1; omega
  have F₁ : Fr h₀ L h₁ m := F.keeps old
  have hD0 : D ≠ L ∧ h₀.get? D = none := ⟨adNe (by omega), fresh₀ _ (by omega)⟩
  have loop : ∀ s₃ : Shared, s₃ = { s₁ with heap := h₁, toks := s₁.toks + ([] : List (Str × Value)).length } →
      codeAny (model prog w) A (.compLoop (.ListComp elt [⟨.Name x1 p1, i1, [], 0⟩, ⟨.Name x2 p2, i2, ifs, 0⟩] scope pos) 0 (.ref I) (.ref D) (compEnvC scope cl C env))
        (compPost (model prog w) A E none Q (.ref D) C) s₃ := by
    rintro s₃ rfl
    refine level (d := 0) (V := C) (VP := fun o => ∃ m₂, LCg.NsObj o m₂) (VX := fun v o => ∃ m₂, LCg.NsObj o m₂ ∧ m₂ x1 = some v) (S := S1) (news := [(D, LCg.lst [])] ++ news) (oV := oC) (fun i nw => JD D [] (J1 i) nw)
      (turn_out _ _ _ _ _ _ _ _ _ _ _ _) W hIo hSt hCf (Nat.ne_of_lt hLlt) (adNe (by omega)) (fresh₀ _ (Nat.le_refl _)) (fresh₀ _ (by omega)) hIC ?_ ?_ ?_ ?_ ⟨_, hoC⟩ hst₁ F₁ ?_ ?_ ⟨[], news, rfl, ?_, (fun _ hp => nomatch hp), by simp, hJ0⟩
    · rintro v s₂ oV E' Q' ⟨m₂, hoV⟩ hget hQ
      refine wpAny_assign_Name (wpAny_storeName_local (lookup_relabel_local hx1) (hoV.ns hget) (fun h₃ hn₃ hs₃ => ?_) (by simp [compEnvC, relabel, hkind]))
      obtain ⟨o₃, e₃, r₃⟩ := LCg.ns_obj hn₃
      exact hQ _ _ _ ⟨_, r₃⟩ ⟨_, r₃, by simp⟩ e₃ hs₃
    · rintro i nw ⟨ys, nw', rfl, _, _, _, hj⟩
      exact hmono _ _ (fun p hp => by simp [hp]) (hJS i ys nw' hj).1
    · rintro i v oI' oV h tk nw E' hi hPv ⟨ys, nw', rfl, hoffD, _, hysl, hj⟩ _ ⟨m₂, hoV, hm₂⟩ F' N' hoff
      refine wpAny_tests_nil ?_
      simp only [if_true]
      have hoff3 : Off [(I, oI'), (C, oV), (D, LCg.lst ys)] nw' := fun p hp q hq => by
        simp at hp
        have := hoff q (by simp [hq])
        rcases hp with rfl | rfl | rfl
        · exact this.1.symm
        · exact this.2.symm
        · exact hoffD _ (.head _) q hq
      refine wpAny_bind (wpAny_mono (enter i v I oI' C oV D m₂ h tk ys nw' _ hi hPv hj hoV hm₂ F' N' hoff3 ⟨hIC, hID, hDC.symm⟩) (fun xv2 s₂ h₂ => ?_) fun _ _ e => e)
      obtain ⟨hh, tk2, news2, n2, P2, S2, rfl, F2, N2, off2, src2, J2, hj0, hjS, hjout, turn2⟩ := h₂
      refine wpAny_bind (wpAny_standAt (wpAny_bind (wpAny_of_eq (hs2 C xv2) (wpAny_bind (wpAny_holding ?_)))))
      refine src2.iter F2 (fun p hp => N2 p (by simp [hp])) fun fp2 St2 oI2 W2 hIo2 hSt2 hmono2 hS2 _ hfp2 hst2 => ?_
      dsimp only at W2 hIo2 hSt2 hfp2 hst2 ⊢
      generalize hI2 : hh.objs.size = I2 at *
      have lt2 : ∀ p ∈ (I, oI') :: (C, oV) :: (D, LCg.lst ys) :: news2, @LT.lt Nat instLTNat p.1 I2 := fun p hp => by have := szN (N2 p hp).1; omega
      have l1 := lt2 _ (.head _)
      have l2 := lt2 _ (.tail _ (.head _))
      have l3 := lt2 _ (.tail _ (.tail _ (.head _)))
      have l4 : ∀ p ∈ news2, @LT.lt Nat instLTNat p.1 I2 := fun p hp => lt2 p (by simp [hp])
      dsimp only at l1 l2 l3
      have hLI2 : @LT.lt Nat instLTNat L I2 := by have := frN F2; omega
      have new2 : h₀.get? I2 = none := fresh₀ _ (by omega)
      refine wpAny_bind (wpAny_runOwn ?_)
      rw [Around.mark_none]
      have up : ∀ b o, hh.get? b = some o → (hh.push oI2).get? b = some o := fun b o e => Heap.get?_push_of_some _ e
      refine compStart1' W2 hst2 ?_
      refine level (s := { s₁ with heap := hh.push oI2, toks := tk2 }) (d := 1) (V := C) (VP := fun o => ∃ m₂, LCg.NsObj o m₂ ∧ m₂ x1 = some v) (VX := fun u o => ∃ m₂, LCg.NsObj o m₂ ∧ m₂ x1 = some v ∧ m₂ x2 = some u) (S := S2)
          (news := (D, LCg.lst ys) :: ([(I, oI')] ++ news2)) (oV := oV) (fun j nw => JD D [(I, oI')] (J2 j) nw)
          (turn_in _ _ _ _ _ _ _ _ _ _ _ _) W2 hIo2 hSt2 ?_ (Nat.ne_of_lt hLI2) (adNe (by omega)) new2 (fresh₀ _ (by omega)) (adNe (by omega)) ?_ ?_ ?_ ?_ ⟨m₂, hoV, hm₂⟩ hst2 (F2.keeps up) ?_ ?_ ⟨ys, news2, rfl, ?_, ?_, hysl, hj0⟩
      · intro hm
        rcases hfp2 _ hm with e | ⟨o, e⟩ | ⟨o, hm⟩
        · exact adNe (.inl l2) e
        · rw [fresh₀ _ (by omega)] at e; cases e
        · exact off2 (C, oV) (by simp) _ hm rfl
      · rintro v2 s₂ oV2 E2 Q2 ⟨m₂', hoV2, hm2⟩ hget hQ
        refine wpAny_assign_Name (wpAny_storeName_local (lookup_relabel_local hx2) (hoV2.ns hget) (fun h₃ hn₃ hs₃ => ?_) (by simp [compEnvC, relabel, hkind]))
        obtain ⟨o₃, e₃, r₃⟩ := LCg.ns_obj hn₃
        have e1 : (fun y => if y = x2 then some v2 else m₂' y) x1 = some v := by simp [hne, hm2]
        exact hQ _ _ _ ⟨_, r₃, e1⟩ ⟨_, r₃, e1, by simp⟩ e₃ hs₃
      · rintro j nw ⟨ys, nw', rfl, _, _, _, hj⟩
        exact hmono2 _ _ (fun p hp => by simp [hp]) (hjS j ys nw' hj).1
      · rintro j u oI3 oV3 h3 tk3 nw E3 hj2 hPu ⟨ys3, nw3, rfl, hoff3D, _, hysl3, hj3⟩ _ ⟨m₃, hoV3, hm3, hm4⟩ F3 N3 hoff4
        have off4 : Off [(I2, oI3), (C, oV3), (D, LCg.lst ys3), (I, oI')] nw3 := fun p hp q hq => by
          simp at hp
          have := hoff4 q (by simp [hq])
          rcases hp with rfl | rfl | rfl | rfl
          · exact this.1.symm
          · exact this.2.symm
          · exact hoff3D _ (.head _) q hq
          · exact hoff3D _ (.tail _ (.head _)) q hq
        have ne4 : ((@Ne Nat I2 C) ∧ (@Ne Nat I2 D) ∧ (@Ne Nat I2 I) ∧ (@Ne Nat C D) ∧ (@Ne Nat C I) ∧ (@Ne Nat D I)) := ⟨by omega, by omega, by omega, by omega, by omega, by omega⟩
        have hX : ∀ p ∈ [(I, oI')], p.1 ≠ D ∧ p.1 ≠ I2 ∧ p.1 ≠ C := fun p hp => by
          rw [List.mem_singleton.mp hp]
          exact ⟨hID, adNe (.inl l1), hIC⟩
        refine wpAny_mono (turn2 j u I2 oI3 oV3 m₃ h3 tk3 ys3 nw3 _ hj2 hPu hj3 hoV3 hm3 hm4 F3 N3 off4 ne4) (fun ok s₄ h₄ => ?_) fun _ _ e => e
        cases ok with
        | true =>
          simp only [if_true] at h₄ ⊢
          exact emit hD0 hysl3 (adNe (.inl l3)) hDC hX ⟨m₃, hoV3, hm3⟩ (fun ys nw hh => (hjS _ ys nw hh).2) h₄
        | false =>
          simp only [Bool.false_eq_true, if_false] at h₄ ⊢
          exact noEmit hysl3 (adNe (.inl l3)) hDC hX ⟨m₃, hoV3, hm3⟩ h₄
      · rintro h3 tk3 nw oV3 ⟨ys3, nw3, rfl, hoff3D, _, hysl3, hj3⟩ ⟨m₃, hoV3, hm3⟩ F3 N3 hoff4
        refine wpAny_pure ⟨rfl, h3, tk3, (D, LCg.lst ys3) :: nw3, oV3, rfl, F3, ?_, ⟨m₃, hoV3⟩, ?_, ys3, nw3, rfl, fun p hp q hq => ?_, (fun _ hp => nomatch hp), hysl3, hjout _ _ hj3⟩
        · intro p hp
          exact N3 p (by simp at hp ⊢; rcases hp with h9 | h9 | h9 | h9 <;> simp [h9])
        · intro p hp
          rcases List.mem_cons.mp hp with rfl | hp
          · exact ⟨hID.symm, hDC⟩
          · exact ⟨fun e => hoff3D (I, oI') (by simp) p hp e.symm, (hoff4 p (by simp [hp])).2⟩
        · exact hoff3D p (by simp at hp; simp [hp]) q hq
      · intro p hp
        refine ⟨up _ _ (N2 p ?_).1, (N2 p ?_).2⟩ <;> (simp at hp ⊢; rcases hp with h9 | h9 | h9 | h9 <;> simp [h9])
      · intro p hp
        simp at hp
        rcases hp with rfl | rfl | hp
        · exact ⟨adNe (.inl l3), hDC⟩
        · exact ⟨adNe (.inl l1), hIC⟩
        · exact ⟨adNe (.inl (l4 p hp)), (off2 (C, oV) (by simp) p hp).symm⟩
      · intro p hp q hq
        simp at hp
        rcases hp with rfl | rfl
        · exact off2 (D, LCg.lst ys) (by simp) q hq
        · exact off2 (I, oI') (by simp) q hq
      · intro p hp
        rw [List.mem_singleton.mp hp]; exact hID
    · rintro h3 tk3 nw oV3 ⟨ys3, nw3, rfl, hoff3D, _, hysl3, hj3⟩ ⟨m₃, hoV3⟩ F3 N3 hoff4
      have zC := (N3 (C, oV3) (.head _))
      refine ⟨m₃, hoV3.ns zC.1, fun h'' hs'' => hFin h₁ ys3 nw3 hj3 D h'' tk3 (F3.change hs'' zC.2.1 zC.2.2) (fun p hp => ?_) ?_⟩
      · have z := N3 p (List.mem_cons_of_mem _ (by simpa using hp))
        exact ⟨hs''.extBut _ _ (hoff4 p (by simpa using hp)).2 z.1, z.2⟩
      · exact off1Of fun p hp e => hoff3D (D, LCg.lst ys3) (.head _) p hp e.symm
    · intro p hp
      rcases List.mem_cons.mp hp with rfl | hp
      · exact ⟨heC, adNe (by omega), fresh₀ _ (by omega)⟩
      · rcases List.mem_append.mp hp with hp | hp
        · rw [List.mem_singleton.mp hp]; exact ⟨hacc, hD0.1, hD0.2⟩
        · exact ⟨old _ _ (N p hp).1, (N p hp).2⟩
    · intro p hp
      rcases List.mem_append.mp hp with hp | hp
      · rw [List.mem_singleton.mp hp]; exact ⟨hID.symm, hDC⟩
      · have := newsLt p hp
        exact ⟨adNe (by omega), adNe (by omega)⟩
    · intro p hp q hq
      rw [List.mem_singleton.mp hp]
      have := newsLt q hq
      exact adNe (by omega)
  exact codeAny_compStart_list (loop _ rfl) (W.self 0 _ _ _ hst₁ (loop _ rfl))
end
end
section
section
variable {prog : Program} {w : World} {A : Around} {E : Value → Shared → Prop} {R : Result → Shared → Prop} {s : Shared} {h₀ : Heap} {L : Addr} {m : Str → Option Value} {env : Env}

/-- a comprehension's block with one cell -/
theorem newEnvC1 {scope : Scope} {globals : Addr} {cl : List (Str × Addr)} {qual : Str} {outer : Env} {x : Str} {b : Addr} {Q : Env → Shared → Prop}
    (hc : ∀ a, cellsFrom a scope.names cl = (x, a) :: cl) (hp : ∀ h, pushCells h scope.names = h.push { cls := .type "cell", data := .cell none })
    (h : Q { scope, locals := s.heap.objs.size, globals, cells := (x, s.heap.objs.size + 1) :: cl, qual, func := none, code := outer.code, frame := outer.frame, builtins := outer.builtins }
      { s with heap := (s.heap.push { cls := .type "dict", data := .dict #[] }).push { cls := .type "cell", data := .cell none } }) :
    wpAny (model prog w) A (newFunctionEnv scope globals cl [] qual none .none (some outer) b) Q E s := by
  simp only [newFunctionEnv, Option.isSome_some, if_true]
  refine wpAny_bind (wpAny_alloc ?_)
  refine wpAny_bind (wpAny_layCells _ (fun name kind cells => by cases hkc : kind == NameKind.cell <;> simp) _ _ _ _ ?_)
  rw [hc]
  dsimp only
  rw [hp, Heap.size_push]
  exact wpAny_bind (wpAny_pure (wpAny_pure h))

/-- what the iterable gives, the name in a cell -/
def Comp1C (prog : Program) (w : World) (A : Around) (h₀ : Heap) (L : Addr) (m : Str → Option Value) (env : Env) (elt : PySem.Expr) (x : Str) (ifs : List PySem.Expr) (scope : Scope) (cl : List (Str × Addr)) (Fin : Shared → List Value → List (Addr × Obj) → Prop) (xv : Value) (s₁ : Shared) : Prop :=
  ∃ news n1 P1 S1, Fr h₀ L s₁.heap m ∧ News h₀ L s₁.heap news ∧ Src A h₀ xv s₁.heap n1 P1 S1 news ∧
    ∃ J1 : Nat → List Value → List (Addr × Obj) → Prop, J1 0 [] news ∧ (∀ i ys nw, J1 i ys nw → S1 nw ∧ ys.length ≤ sizeLine) ∧ (∀ g ys nw, J1 n1 ys nw → Fin { s₁ with heap := g } ys nw) ∧
    ∀ i v1 I oI c oc C oC D h tk ys news (E' : Value → Shared → Prop), i < n1 → P1 i v1 → J1 i ys news → oc.data = .cell (some v1) → Fr h₀ L h m →
      News h₀ L h ((I, oI) :: (c, oc) :: (D, LCg.lst ys) :: (C, oC) :: news) → Off [(I, oI), (c, oc), (D, LCg.lst ys), (C, oC)] news → ((@Ne Nat I c) ∧ (@Ne Nat I D) ∧ (@Ne Nat I C) ∧ (@Ne Nat c D) ∧ (@Ne Nat c C) ∧ (@Ne Nat D C)) →
      wpAny (model prog w) A (tst ifs (compEnvC scope ((x, c) :: cl) C env)) (fun ok s' => if ok = true then
        wpAny (model prog w) A (eval elt (compEnvC scope ((x, c) :: cl) C env)) (CEnd h₀ L m [(I, oI), (c, oc), (D, LCg.lst ys), (C, oC)] s₁ (fun y nw => J1 (i + 1) (ys ++ [y]) nw)) E' s'
        else CEnd h₀ L m [(I, oI), (c, oc), (D, LCg.lst ys), (C, oC)] s₁ (fun _ nw => J1 (i + 1) ys nw) .none s') E' { s₁ with heap := h, toks := tk }

theorem listCompC {elt i1 : PySem.Expr} {x : Str} {p1 : Pos} {ifs : List PySem.Expr} {scope : Scope} {cl : List (Str × Addr)} {pos : Pos} {Q : Value → Shared → Prop} (F₀ : Fr h₀ L s.heap m)
    (hclos : closureFor scope env = pure cl) (hc : ∀ a, cellsFrom a scope.names cl = (x, a) :: cl) (hp : ∀ h, pushCells h scope.names = h.push { cls := .type "cell", data := .cell none }) (hkind : scope.kind = .function)
    (hnames : ∀ y ∈ scope.names, y.2 = .local → scope.names.lookup y.1 = some .local) (hx : ∀ a C, (compEnvC scope ((x, a) :: cl) C env).kindOf x = some .cell)
    (h : wpAny (model prog w) A (eval i1 env) (Comp1C prog w A h₀ L m env elt x ifs scope cl (fun s₂ => LCg.FinE h₀ L m s₂ Q)) E s)
    (hs : ∀ x, foldedSetIterable i1 env x = pure x := by intro _; rfl) :
    wpAny (model prog w) A (eval (.ListComp elt [⟨.Name x p1, i1, ifs, 0⟩] scope pos) env) Q E s := by
  rw [eval_ListComp]
  refine wpAny_comprehension_free (use := none) rfl hs hclos hkind hnames (wpAny_mono h (fun xv s₁ h₁ => ?_) fun _ _ e => e)
  obtain ⟨news, n1, P1, S1, F, N, src, J1, hJ0, hJS, hFin, turn⟩ := h₁
  refine src.iter F N fun fp St oI W hIo hSt hmono hS hfp _ hst => ?_
  generalize hI : s₁.heap.objs.size = I at *
  refine wpAny_newObj_type (newEnvC1 hc hp ?_)
  dsimp only
  generalize hH1 : s₁.heap.push oI = H1 at *
  have hH1s : H1.objs.size = I + 1 := by rw [← hH1, Heap.size_push, hI]
  generalize hH2 : H1.push { cls := .type "list", dict := none, data := .seq ([] : List Value).toArray } = H2 at *
  have hC : H2.objs.size = I + 2 := by rw [← hH2, Heap.size_push, hH1s]
  generalize hH3 : H2.push { cls := .type "dict", data := .dict #[] } = H3 at *
  have hc3 : H3.objs.size = I + 3 := by rw [← hH3, Heap.size_push, hC]
  generalize hH4 : H3.push { cls := .type "cell", data := .cell none } = H4 at *
  rw [hC, hH1s]
  have ec : I + 2 + 1 = I + 3 := rfl
  rw [ec]
  have oldD : H2.get? (I + 1) = some (LCg.lst []) := by rw [← hH2, ← hH1s]; exact Heap.get?_push_size _ rfl
  have heC3 : H3.get? (I + 2) = some { cls := .type "dict", data := .dict #[] } := by rw [← hH3, ← hC]; exact Heap.get?_push_size _ rfl
  have hec4 : H4.get? (I + 3) = some { cls := .type "cell", data := .cell none } := by rw [← hH4, ← hc3]; exact Heap.get?_push_size _ rfl
  have up1 : ∀ b o, s₁.heap.get? b = some o → H1.get? b = some o := fun b o e => hH1 ▸ Heap.get?_push_of_some _ e
  have up2 : ∀ b o, H1.get? b = some o → H2.get? b = some o := fun b o e => hH2 ▸ Heap.get?_push_of_some _ e
  have up3 : ∀ b o, H2.get? b = some o → H3.get? b = some o := fun b o e => hH3 ▸ Heap.get?_push_of_some _ e
  have up4 : ∀ b o, H3.get? b = some o → H4.get? b = some o := fun b o e => hH4 ▸ Heap.get?_push_of_some _ e
  have old : ∀ b o, s₁.heap.get? b = some o → H4.get? b = some o := fun b o e => up4 _ _ (up3 _ _ (up2 _ _ (up1 _ _ e)))
  generalize hDD : I + 1 = D at *
  generalize hCC : I + 2 = C at *
  generalize hcc : I + 3 = c at *
  have hacc : H4.get? D = some (LCg.lst []) := up4 _ _ (up3 _ _ oldD)
  have heC : H4.get? C = some { cls := .type "dict", data := .dict #[] } := up4 _ _ heC3
  have hoC : LCg.NsObj { cls := .type "dict", data := .dict #[] } (fun _ => none) := nsObj_of (Heap.Ns.new H2 (.type "dict")) (by rw [hC, hH3]; exact heC3)
  have hst₁ : St 0 H4 := W.frame _ _ _ hst fun b _ o e => up4 _ _ (up3 _ _ (up2 _ _ e))
  have fresh₀ : ∀ a : Addr, @LE.le Nat instLENat I a → h₀.get? a = none := fun a ha => by
    cases e : h₀.get? a with
    | none => rfl
    | some o' => have := szN (F.keep a o' e); omega
  have hLlt : @LT.lt Nat instLTNat L I := by have := frN F; omega
  have hcf : c ∉ fp := fun hm => by have : @LT.lt Nat instLTNat c H1.objs.size := hfp _ hm; omega
  have newsLt : ∀ p ∈ news, @LT.lt Nat instLTNat p.1 I := fun p hp => by have := szN (N p hp).1; omega
  have F₁ : Fr h₀ L H4 m := F.keeps old
  have hD0 : D ≠ L ∧ h₀.get? D = none := ⟨adNe (by omega), fresh₀ _ (by omega)⟩
  have hIc : I ≠ c := by omega
  have hID : I ≠ D := by omega
  have hIC : I ≠ C := by omega
  have hcD : c ≠ D := by omega
  have hcC : c ≠ C := by omega
  have hDC : D ≠ C := by omega
  have loop : ∀ s₃ : Shared, s₃ = { s₁ with heap := H4 } →
      codeAny (model prog w) A (.compLoop (.ListComp elt [⟨.Name x p1, i1, ifs, 0⟩] scope pos) 0 (.ref I) (.ref D) (compEnvC scope ((x, c) :: cl) C env))
        (compPost (model prog w) A E none Q (.ref D) C) s₃ := by
    rintro s₃ rfl
    have hX : ∀ p ∈ [(C, ({ cls := .type "dict", data := .dict #[] } : Obj))], p.1 ≠ D ∧ p.1 ≠ I ∧ p.1 ≠ c := fun p hp => by
      rw [List.mem_singleton.mp hp]; exact ⟨hDC.symm, hIC.symm, hcC.symm⟩
    refine level (d := 0) (V := c) (VP := fun o => ∃ u, o.data = .cell u) (VX := fun v o => o.data = .cell (some v)) (S := S1) (news := (D, LCg.lst []) :: ([(C, { cls := .type "dict", data := .dict #[] })] ++ news)) (oV := { cls := .type "cell", data := .cell none }) (fun i nw => JD D [(C, { cls := .type "dict", data := .dict #[] })] (J1 i) nw)
      (turn_one _ _ _ _ _ _ _ _ _) W hIo hSt hcf (Nat.ne_of_lt hLlt) (adNe (by omega)) (fresh₀ _ (Nat.le_refl _)) (fresh₀ _ (by omega)) hIc ?_ ?_ ?_ ?_ ⟨_, rfl⟩ hst₁ F₁ ?_ ?_ ⟨[], news, rfl, ?_, (fun p hp => (hX p hp).1), by simp, hJ0⟩
    · rintro v s₂ oV E' Q' ⟨u, hu⟩ hget hQ
      refine wpAny_assign_Name (wpAny_storeName_cell (c := c) (v₀ := u) hkind (hx c C) (by simp [compEnvC]) ⟨oV, hget, hu⟩ fun h' hc' hs' => ?_)
      obtain ⟨o', e', d'⟩ := hc'
      exact hQ h' o' s₂.toks ⟨_, d'⟩ d' e' hs'
    · rintro i nw ⟨ys, nw', rfl, _, _, _, hj⟩
      exact hmono _ _ (fun p hp => by simp [hp]) (hJS i ys nw' hj).1
    · rintro i u oI3 oV3 h3 tk3 nw E3 hi hPu ⟨ys3, nw3, rfl, hoff3D, _, hysl3, hj3⟩ hVP hVX F3 N3 hoff4
      have off4 : Off [(I, oI3), (c, oV3), (D, LCg.lst ys3), (C, { cls := .type "dict", data := .dict #[] })] nw3 := fun p hp q hq => by
        simp at hp
        have := hoff4 q (by simp [hq])
        rcases hp with rfl | rfl | rfl | rfl
        · exact this.1.symm
        · exact this.2.symm
        · exact hoff3D _ (.head _) q hq
        · exact hoff3D _ (.tail _ (.head _)) q hq
      refine wpAny_mono (turn i u I oI3 c oV3 C _ D h3 tk3 ys3 nw3 _ hi hPu hj3 hVX F3 N3 off4 ⟨hIc, hID, hIC, hcD, hcC, hDC⟩) (fun ok s₄ h₄ => ?_) fun _ _ e => e
      cases ok with
      | true =>
        simp only [if_true] at h₄ ⊢
        exact emit hD0 hysl3 hID.symm hcD.symm hX hVP (fun ys nw hh => (hJS _ ys nw hh).2) h₄
      | false =>
        simp only [Bool.false_eq_true, if_false] at h₄ ⊢
        exact noEmit hysl3 hID.symm hcD.symm hX hVP h₄
    · rintro h3 tk3 nw oV3 ⟨ys3, nw3, rfl, hoff3D, _, hysl3, hj3⟩ hVP F3 N3 hoff4
      have zC := N3 (C, { cls := .type "dict", data := .dict #[] }) (by simp)
      refine ⟨_, hoC.ns zC.1, fun h'' hs'' => hFin H4 ys3 nw3 hj3 D h'' tk3 (F3.change hs'' zC.2.1 zC.2.2) (fun p hp => ?_) ?_⟩
      · have z := N3 p (by simp at hp ⊢; rcases hp with h9 | h9 <;> simp [h9])
        refine ⟨hs''.extBut _ _ ?_ z.1, z.2⟩
        rcases List.mem_cons.mp hp with rfl | hp
        · exact hDC
        · exact fun e => hoff3D _ (.tail _ (.head _)) p hp e.symm
      · exact off1Of fun p hp e => hoff3D (D, LCg.lst ys3) (.head _) p hp e.symm
    · intro p hp
      rcases List.mem_cons.mp hp with rfl | hp
      · exact ⟨hec4, adNe (by omega), fresh₀ _ (by omega)⟩
      rcases List.mem_cons.mp hp with rfl | hp
      · exact ⟨hacc, hD0.1, hD0.2⟩
      rcases List.mem_append.mp hp with hp | hp
      · rw [List.mem_singleton.mp hp]; exact ⟨heC, adNe (by omega), fresh₀ _ (by omega)⟩
      · exact ⟨old _ _ (N p hp).1, (N p hp).2⟩
    · intro p hp
      rcases List.mem_cons.mp hp with rfl | hp
      · exact ⟨hID.symm, hcD.symm⟩
      rcases List.mem_append.mp hp with hp | hp
      · exact (hX p hp).2
      · have := newsLt p hp
        exact ⟨adNe (by omega), adNe (by omega)⟩
    · intro p hp q hq
      have := newsLt q hq
      rcases List.mem_cons.mp hp with rfl | hp
      · exact adNe (by omega)
      · rw [List.mem_singleton.mp hp]; exact adNe (by omega)
  exact codeAny_compStart_list (loop _ rfl) (W.self 0 _ _ _ hst₁ (loop _ rfl))
end
end
section
theorem hasMem {ns : List Int} {x : Int} {p' : Nat} (_h : True) (hs : Srt kInt.lt ns) (hp1 : p' ≤ ns.length) (hp2 : ∀ (i : Nat) (a : Int), ns[i]? = some a → kInt.lt a x = decide (i < p')) : x ∈ ns ↔ ns[p']? = some x := by
  constructor
  · intro hm
    obtain ⟨i, hi, e⟩ := List.getElem_of_mem hm
    have h1 := hp2 i x (by rw [← e]; exact List.getElem?_eq_getElem hi)
    have h2 : ¬ i < p' := by
      intro h; rw [decide_eq_true h] at h1
      simp [kInt] at h1
    have h3 : i = p' := by
      false_or_by_contra
      have hlt : p' < i := by omega
      have h4 := hp2 p' ns[p'] (List.getElem?_eq_getElem (by omega))
      have h5 := (List.pairwise_iff_getElem.mp hs) p' i (by omega) hi hlt
      rw [e] at h5
      rw [h5] at h4
      simp at h4
    rw [← h3, List.getElem?_eq_getElem hi, e]
  · exact List.mem_of_getElem?
theorem hasIn {ns : List Int} {x y : Int} {p' : Nat} (hm : x ∈ ns ↔ ns[p']? = some x) (hlt : p' < ns.length) (hy : y = ns.getD p' 0) : (y == x) = decide (x ∈ ns) := by
  have e : ns.getD p' 0 = ns[p'] := by simp [List.getD_eq_getElem?_getD, hlt]
  rw [hy, e, Bool.eq_iff_iff, decide_eq_true_eq, hm, List.getElem?_eq_getElem hlt]
  simp
theorem hasOut {ns : List Int} {x : Int} {p' : Nat} (hm : x ∈ ns ↔ ns[p']? = some x) (hlt : ¬ (p' : Int) < (ns.length : Int)) : decide ((p' : Int) < (ns.length : Int)) = decide (x ∈ ns) := by
  have : ns[p']? = none := List.getElem?_eq_none (by omega)
  have hn : x ∉ ns := by rw [hm, this]; simp
  rw [decide_eq_false hlt, decide_eq_false hn]


section
variable {w : World} {p : Program} {loose : List Str} {mean : ExcName → Option Value} {mg mb : Str → Option Value}

theorem has_ctr (l : Addr) (vs : List Value) (ns : List Int) (e : Nat) (x : Int) (tx : Tok) (hI : IntsAre vs ns) (hs : Srt kInt.lt ns) (hlen : ns.length ≤ 2 ^ 22) :
    Ctr PySem.Challenge.rw_ga0003_02.row.prog w (hd.heap_39 w.params) p loose mean mg mb 81 40 300 [.ref l, .int x tx] [(l, listOf vs.toArray e)]
      (fun r hd' => r = .bool (decide (x ∈ ns)) ∧ hd' = [(l, listOf vs.toArray e)]) := by
  k_with_none
  k_with "tb_start_1" => (refine wpAny_call ?_; k_dflt (refine' codeF_def ?w1k1 ?w1k2 ?w1k3 ?w1k4 ?w1kD ?w1k5 ?w1kA ?w1kF ?w1kK ?w1k6 ?w1k7 ?w1k8 ?w1k9 ?w1kB ?_ ?w1c2 ?w1c3 ?w1c4 ?w1c5; (case w1kA => exact rfl); (case w1kF => exact rfl); (case w1kK => assumption); (case w1k1 => k_asm); (case w1k2 => k_asm); (case w1k3 => k_asm); (case w1k4 => k_asm); (case w1kD => assumption); (case w1k5 => k_asm); (case w1k6 => k_is); (case w1k7 => k_is); (case w1k8 => ktr_room); (case w1k9 => first | exact BindsTo.of_eq rfl | exact binds_K (by k_in) rfl (by k_is) rfl rfl rfl | (refine' kp_binds ?w1kx ?w1ke; (case w1kx => k_in); (case w1ke => exact fun _ => rfl))); (case w1c5 => decide); (case w1kB => exact locs rfl); (case w1c2 => exact rfl); (case w1c3 => exact rfl); (case w1c4 => exact rfl); k_whole; intro _ _ _ _ _ _ _ _ _ _ l1; (try dsimp only); (try k_lt l1); revert l1; intro _; (try k_fold)))
  k_with "spliced" => (first | refine args_cons ?_ | refine args_nil ⟨Fr.keep (by assumption) _ _ (by assumption), ?_⟩ | (refine args_nil ?_; try simp only [List.cons_append, List.nil_append]))
  k_with "call builtin:len" => ((k_dflt (refine lenG (by k_asm) (by k_mem) (by assumption) (by omega) ?_)))
  k_with "subscriptTail" => ((k_here; (with_reducible show wpAny _ _ (subscriptTail _ _ (Value.ref _) (Value.int (Nat.cast _) _)) _ _ _); refine hold ?_))
  k_fill
  intro dp un gd cn cs a ccd cl outer A₀ base h₀ L m s rest Q E B C1 C2 F X N D T hk hdp hun hret
  obtain ⟨p', hp1, hp2⟩ := cutAt int_tr hs x
  have hvl : vs.length = ns.length := hI.length
  k_extra "tb_start_1"
  have NR : News h₀ L s.heap rest := newsSub N fun p hp => List.mem_append_right _ hp
  k_steps
  k_dflt (refine' bisect2_ctr kInt l vs ns e (.int x tx) x [] p' (Are.ints hI) ⟨tx, rfl⟩ hp1 hp2 hlen _ _ _ _ _ _ _ _ _ _ _ _ _ _ _ ([]) _ _ ?q19xk1 ?q19xk2 ?q19xk3 ?q19xk4 ?q19xk5 ?q19xk6 ?q19xk7 ?q19xk8 ?q19xk9 ?q19xk10 ?q19xk11 ?q19xkR)
  case q19xk1 => k_asm
  case q19xk2 => assumption
  case q19xk3 => assumption
  case q19xk4 => k_asm
  case q19xk5 => k_asm
  case q19xk6 => rw [List.append_nil]; k_asm
  case q19xk7 => exact Off.nilR _
  case q19xk8 => k_asm
  case q19xk9 => first | exact rfl | assumption
  case q19xk10 => ktr_room
  case q19xk11 => ktr_units
  intro r hd' h' tk' F' N' D' ⟨⟨tp, hr⟩, ehd⟩
  subst hr ehd
  dsimp only
  simp only [List.append_nil] at N'
  k_steps
  · rename_i hlt _ _ _ _
    have hm := hasMem trivial hs hp1 hp2
    exact ctr_ret hret NR (by assumption) (by assumption) (by assumption) (by assumption) (by assumption) ⟨congrArg Value.bool (hasIn hm (by omega) (by first | rfl | simp)), rfl⟩
  · rename_i hlt _ _ _ _
    have hm := hasMem trivial hs hp1 hp2
    exact ctr_ret hret NR (by assumption) (by assumption) (by assumption) (by assumption) (by assumption) ⟨congrArg Value.bool (hasOut hm hlt), rfl⟩
end
end
local macro_rules | `(tactic| k_all) => `(tactic| first | assumption | ((with_reducible refine List.forall_mem_append.mpr ⟨?ka, ?kb⟩); (case ka => k_all); (case kb => k_all)))
section
/-- the rests by p, each once, in order -/
def LotIs (p : Int) (ns rs : List Int) : Prop := Srt kInt.lt rs ∧ ∀ x, x ∈ rs ↔ ∃ n ∈ ns, n % p = x
theorem lotB {p : Int} {ns rs : List Int} (h : LotIs p ns rs) (hp : 0 < p) : ∀ x ∈ rs, 0 ≤ x ∧ x < p := fun x hx => by
  obtain ⟨n, _, rfl⟩ := (h.2 x).mp hx
  exact ⟨Int.emod_nonneg _ (by omega), Int.emod_lt_of_pos _ hp⟩
theorem lotNil (p : Int) : LotIs p [] [] := ⟨List.Pairwise.nil, fun x => by simp⟩
theorem lotSkip {p : Int} {ns rs : List Int} {n : Int} (h : LotIs p ns rs) (hn : n % p ∈ rs) : LotIs p (ns ++ [n]) rs := by
  refine ⟨h.1, fun x => ?_⟩
  rw [h.2]
  constructor
  · rintro ⟨k, hk, e⟩; exact ⟨k, by simp [hk], e⟩
  · rintro ⟨k, hk, e⟩
    rcases List.mem_append.mp hk with hk | hk
    · exact ⟨k, hk, e⟩
    · rw [List.mem_singleton.mp hk] at e
      rw [← h.2, ← e]; exact hn
theorem lotPut {p : Int} {ns rs : List Int} {n : Int} {q : Nat} (h : LotIs p ns rs) (hn : n % p ∉ rs) (hq : q ≤ rs.length) (hr : ∀ (j : Nat) a, rs[j]? = some a → kInt.lt a (n % p) = decide (j < q)) : LotIs p (ns ++ [n]) (rs.take q ++ n % p :: rs.drop q) := by
  refine ⟨ins_srt int_tot h.1 hq hr hn, fun x => ?_⟩
  rw [mem_ins, h.2]
  constructor
  · rintro (rfl | ⟨k, hk, e⟩)
    · exact ⟨n, by simp, rfl⟩
    · exact ⟨k, by simp [hk], e⟩
  · rintro ⟨k, hk, e⟩
    rcases List.mem_append.mp hk with hk | hk
    · exact .inr ⟨k, hk, e⟩
    · rw [List.mem_singleton.mp hk] at e
      exact .inl e.symm
theorem intsApp : ∀ {vs us : List Value} {ns ms : List Int}, IntsAre vs ns → IntsAre us ms → IntsAre (vs ++ us) (ns ++ ms)
  | _, _, _, _, .nil, h => h
  | _, _, _, _, .cons n t h, h' => .cons n t (intsApp h h')
theorem intsTake : ∀ {vs : List Value} {ns : List Int} (p : Nat), IntsAre vs ns → IntsAre (vs.take p) (ns.take p)
  | _, _, 0, _ => .nil
  | _, _, _ + 1, .nil => .nil
  | _, _, p + 1, .cons n t h => .cons n t (intsTake p h)
theorem intsDrop : ∀ {vs : List Value} {ns : List Int} (p : Nat), IntsAre vs ns → IntsAre (vs.drop p) (ns.drop p)
  | _, _, 0, h => h
  | _, _, _ + 1, .nil => .nil
  | _, _, p + 1, .cons _ _ h => intsDrop p h
theorem intsIns {vs : List Value} {ns : List Int} {p : Nat} {x : Int} {t : Tok} (h : IntsAre vs ns) : IntsAre (vs.take p ++ .int x t :: vs.drop p) (ns.take p ++ x :: ns.drop p) :=
  intsApp (intsTake p h) (.cons x t (intsDrop p h))
theorem take_snoc {α : Type} {ns : List α} {i : Nat} {n : α} (h : ns[i]? = some n) : ns.take (i + 1) = ns.take i ++ [n] := by
  rw [List.take_add_one, h]; rfl

section
local macro_rules | `(tactic| walk_at "exec For Name Name cons nil") => `(tactic| (k_here; (rename Fr _ _ _ _ => lF'); (with_unfolding_all refine' For_invVF lF' ?k1 ?k2 ?_; (case k1 => exact rfl); (case k2 => exact rfl); k_whole)))
variable {w : World} {p : Program} {loose : List Str} {mean : ExcName → Option Value} {mg mb : Str → Option Value}

theorem lot_ctr (l : Addr) (vs : List Value) (ns : List Int) (e : Nat) (pr : Int) (tp : Tok) (T2 T3 : List (Addr × Obj)) (hT2 : Tab 30 32 4 qI2 T2) (hT3 : Tab 37 47 4 qI3 T3) (hO : Off T2 T3) (hp0 : 0 < pr) (hp1 : pr < 1073741824) (hI : IntsAre vs ns) (hb : ∀ n ∈ ns, Builtin.Int.intBits n ≤ 2 ^ 21) (hlen : ns.length ≤ 2 ^ 20) :
    Ctr PySem.Challenge.rw_ga0003_02.row.prog w (hd.heap_39 w.params) p loose mean mg mb 88 130 1100 [.ref l, .int pr tp] ((l, listOf vs.toArray e) :: (T2 ++ T3))
      (fun r hd' => ∃ lo ws rs e' T2' T3', r = .ref lo ∧ hd' = (lo, listOf ws.toArray e') :: (l, listOf vs.toArray e) :: (T2' ++ T3') ∧ Tab 30 32 4 qI2 T2' ∧ Tab 37 47 4 qI3 T3' ∧ Off T2' T3' ∧ IntsAre ws rs ∧ LotIs pr ns rs ∧ rs.length ≤ ns.length) := by
  k_with_none
  k_with "tb_start_1" => (refine wpAny_call ?_; k_dflt (refine' codeF_def ?w1k1 ?w1k2 ?w1k3 ?w1k4 ?w1kD ?w1k5 ?w1kA ?w1kF ?w1kK ?w1k6 ?w1k7 ?w1k8 ?w1k9 ?w1kB ?_ ?w1c2 ?w1c3 ?w1c4 ?w1c5; (case w1kA => exact rfl); (case w1kF => exact rfl); (case w1kK => assumption); (case w1k1 => k_asm); (case w1k2 => k_asm); (case w1k3 => k_asm); (case w1k4 => k_asm); (case w1kD => assumption); (case w1k5 => k_asm); (case w1k6 => k_is); (case w1k7 => k_is); (case w1k8 => ktr_room); (case w1k9 => first | exact BindsTo.of_eq rfl | exact binds_K (by k_in) rfl (by k_is) rfl rfl rfl | (refine' kp_binds ?w1kx ?w1ke; (case w1kx => k_in); (case w1ke => exact fun _ => rfl))); (case w1c5 => decide); (case w1kB => exact locs rfl); (case w1c2 => exact rfl); (case w1c3 => exact rfl); (case w1c4 => exact rfl); k_whole; intro _ _ _ _ _ _ _ _ _ _ l1; (try dsimp only); (try k_lt l1); revert l1; intro _; (try k_fold)))
  k_with "spliced" => (first | refine args_cons ?_ | refine args_nil ⟨Fr.keep (by assumption) _ _ (by assumption), ?_⟩ | (refine args_nil ?_; try simp only [List.cons_append, List.nil_append]))
  k_with "pyIter ref" => ((refine hold ?_))
  k_with "call ref" => ((refine hold ?_))
  k_fill
  intro dp un gd cn cs a ccd cl outer A₀ base h₀ L m s rest Q E B C1 C2 F X N D T hk hdp hun hret
  k_extra "tb_start_1"
  have NR : News h₀ L s.heap rest := newsSub N fun p hp => List.mem_append_right _ hp
  have hvl : vs.length = ns.length := hI.length
  k_steps
  unfold Hold
  rename_i gg LL hh5 FG5 B5 X5 T5 RR5 l5 lo hh3 ml1 hh F1 N1
  have hlol : lo ≠ l := (Nat.ne_of_lt ml1.1).symm
  k_dflt (refine iterListG (news := (lo, listOf [].toArray 0) :: (T2 ++ T3)) (fun i m news => ∃ (ws : List Value) (rs : List Int) (e1 : Nat) (T2 T3 : List (Addr × Obj)), news = (lo, listOf ws.toArray e1) :: (T2 ++ T3) ∧ Tab 30 32 4 qI2 T2 ∧ Tab 37 47 4 qI3 T3 ∧ Off T2 T3 ∧ IntsAre ws rs ∧ LotIs pr (ns.take i) rs ∧ rs.length ≤ i ∧ m (Str.ofString "prime") = some (.int pr tp) ∧ m (Str.ofString "order") = some (.ref lo)) rfl F1 N1 (l := l) (vs := vs) (e := e) (ixMem 1 rfl) ?_ ?_ ?_ ?_ ?_)
  · intro p hp; simp at hp ⊢; rcases hp with h | h | h <;> simp [h]
  · refine List.forall_mem_cons.mpr ⟨hlol, fun p hp => tagNe N1 (q := (l, listOf vs.toArray e)) (by simp at hp ⊢; rcases hp with h | h <;> simp [h]) (by simp) (by rw [tabs0 hT2 hT3 p hp]; exact (show (0 : Nat) ≠ 1 by decide))⟩
  · exact ⟨[], [], 0, T2, T3, rfl, hT2, hT3, hO, .nil, lotNil pr, Nat.le_refl _, rfl, rfl⟩
  · rintro i v m₁ news₁ h tkL own hi hv ⟨ws, rs, e1, T2, T3, rfl, hT2, hT3, hO, hIw, hL, hrl, hmp, hmo⟩ hOw hlow F3 N3
    obtain ⟨n, tn, hn, rfl⟩ := intsGet hI hv
    have F4 := Fr.know (k := Str.ofString "prime") (v := .int pr tp) F3 ((if_neg (by decide)).trans hmp)
    have F5 := Fr.know (k := Str.ofString "order") (v := .ref lo) F4 ((if_neg (by decide)).trans ((if_neg (by decide)).trans hmo))
    have N4 := newsSub (xs := (lo, listOf ws.toArray e1) :: (own ++ (T2 ++ T3))) N3 (by intro p hp; simp at hp ⊢; rcases hp with h | h | h | h <;> simp [h])
    clear F4 F3 N3 F1 N1
    have hbn := hb n (List.mem_of_getElem? hn)
    have htk := take_snoc hn
    k_steps
    unfold Hold
    k_dflt (refine' int_divmod_ctr n pr _ _ T2 T3 hT2 hT3 hO hp0 hp1 hbn _ _ _ _ _ _ _ _ _ _ _ _ _ _ _ (own ++ [(lo, listOf ws.toArray e1)]) _ _ ?q20xk1 ?q20xk2 ?q20xk3 ?q20xk4 ?q20xk5 ?q20xk6 ?q20xk7 ?q20xk8 ?q20xk9 ?q20xk10 ?q20xk11 ?q20xkR)
    case q20xk1 => k_asm
    case q20xk2 => assumption
    case q20xk3 => assumption
    case q20xk4 => k_asm
    case q20xk5 => k_asm
    case q20xk6 => exact newsSub N4 (by intro p hp; simp at hp ⊢; rcases hp with h | h | h | h <;> simp [h])
    case q20xk7 => exact Off.appR (Off.symm (Off.subR hOw (ixSubT 1 [] rfl))) (offTag0 N4 (by intro p hp; simp at hp ⊢; rcases hp with h | h <;> simp [h]) (ixSub [0] rfl) (tabs0 hT2 hT3) (List.forall_mem_cons.mpr ⟨Nat.one_ne_zero, fun _ hp => nomatch hp⟩))
    case q20xk8 => k_asm
    case q20xk9 => first | exact rfl | assumption
    case q20xk10 => ktr_room
    case q20xk11 => ktr_units
    intro r hd' h' tk' F' N' D' ⟨ld, td1, td2, ed, T2', T3', hr, ehd, hT2', hT3', hO'⟩
    subst hr ehd
    dsimp only
    have eF : n.fmod pr = n % pr := Int.fmod_eq_emod_of_nonneg _ (by omega)
    have N5 := newsSub (xs := (ld, tupObj [.int (n.fdiv pr) td1, .int (n.fmod pr) td2] ed) :: (lo, listOf ws.toArray e1) :: (own ++ (T2' ++ T3'))) N' (by intro p hp; simp at hp ⊢; rcases hp with h | h | h | h | h <;> simp [h])
    have DO : Off (T2' ++ T3') own := fun p hp q hq => D' p (.tail _ hp) q (List.mem_append_left _ hq)
    clear N' N4
    rw [eF] at N5
    generalize hq : n % pr = q at *
    k_steps
    unfold Hold
    rename_i F6 N6
    have N7 := newsSub (xs := (lo, listOf ws.toArray e1) :: (own ++ (T2' ++ T3'))) N6 (ixSubT 2 [1] rfl)
    have hLo : Off [(lo, listOf ws.toArray e1)] (own ++ (T2' ++ T3')) := by
      refine Off.symm (Off.consR (fun p hp => ?_) (fun _ _ _ h => nomatch h))
      rcases List.mem_append.mp hp with hp | hp
      · exact hOw p hp _ (.head _)
      · exact tagNe N7 (q := (lo, listOf ws.toArray e1)) (by simp at hp ⊢; rcases hp with h | h <;> simp [h]) (by simp) (by rw [tabs0 hT2' hT3' p hp]; exact (show (0 : Nat) ≠ 1 by decide))
    k_dflt (refine' has_ctr lo ws rs e1 q _ hIw hL.1 (by omega) _ _ _ _ _ _ _ _ _ _ _ _ _ _ _ (own ++ (T2' ++ T3')) _ _ ?q21xk1 ?q21xk2 ?q21xk3 ?q21xk4 ?q21xk5 ?q21xk6 ?q21xk7 ?q21xk8 ?q21xk9 ?q21xk10 ?q21xk11 ?q21xkR)
    case q21xk1 => k_asm
    case q21xk2 => assumption
    case q21xk3 => assumption
    case q21xk4 => k_asm
    case q21xk5 => k_asm
    case q21xk6 => exact N7
    case q21xk7 => exact hLo
    case q21xk8 => k_asm
    case q21xk9 => first | exact rfl | assumption
    case q21xk10 => ktr_room
    case q21xk11 => ktr_units
    intro r hd' h' tk' F' N' D2 ⟨hr, ehd⟩
    subst hr ehd
    dsimp only
    have hend : ∀ {h' : Heap} {tk' : Nat} {mm : Str → Option Value} {ws' : List Value} {rs' : List Int} {e' : Nat}, Fr gg LL h' mm → News gg LL h' ((lo, listOf ws'.toArray e') :: (own ++ (T2' ++ T3'))) → mm (Str.ofString "prime") = some (.int pr tp) → mm (Str.ofString "order") = some (.ref lo) → IntsAre ws' rs' → LotIs pr (ns.take i ++ [n]) rs' → rs'.length ≤ i + 1 →
        TurnEnd gg LL own (fun m news => ∃ (ws : List Value) (rs : List Int) (e1 : Nat) (T2 T3 : List (Addr × Obj)), news = (lo, listOf ws.toArray e1) :: (T2 ++ T3) ∧ Tab 30 32 4 qI2 T2 ∧ Tab 37 47 4 qI3 T3 ∧ Off T2 T3 ∧ IntsAre ws rs ∧ LotIs pr (ns.take (i + 1)) rs ∧ rs.length ≤ i + 1 ∧ m (Str.ofString "prime") = some (.int pr tp) ∧ m (Str.ofString "order") = some (.ref lo)) { s with heap := h, toks := tkL } { s with heap := h', toks := tk' } := by
      intro h' tk' mm ws' rs' e' F' N' h1 h2 h3 h4 h5
      refine ⟨_, _, _, (lo, listOf ws'.toArray e') :: (T2' ++ T3'), rfl, F', newsSub N' (by intro p hp; simp at hp ⊢; rcases hp with h | h | h | h <;> simp [h]), ?_, ws', rs', e', T2', T3', rfl, hT2', hT3', hO', h3, by rw [htk]; exact h4, h5, h1, h2⟩
      exact Off.consR (fun p hp => hOw p hp _ (.head _)) (Off.symm DO)
    by_cases hin : q ∈ rs
    · rw [decide_eq_true hin]
      k_steps
      exact hend F' N' rfl rfl hIw (lotSkip hL (by rw [hq]; exact hin)) (by omega)
    · rw [decide_eq_false hin]
      k_steps
      unfold Hold
      obtain ⟨p', hp3, hp4⟩ := cutAt int_tr hL.1 q
      k_dflt (refine' insort_ctr kInt lo ws rs e1 (.int q td2) q [] p' (fun _ h => nomatch h) (Are.ints hIw) ⟨td2, rfl⟩ hp3 hp4 (by omega) _ _ _ _ _ _ _ _ _ _ _ _ _ _ _ (own ++ (T2' ++ T3')) _ _ ?q22xk1 ?q22xk2 ?q22xk3 ?q22xk4 ?q22xk5 ?q22xk6 ?q22xk7 ?q22xk8 ?q22xk9 ?q22xk10 ?q22xk11 ?q22xkR)
      case q22xk1 => k_asm
      case q22xk2 => assumption
      case q22xk3 => assumption
      case q22xk4 => k_asm
      case q22xk5 => k_asm
      case q22xk6 => exact N'
      case q22xk7 => exact hLo
      case q22xk8 => k_asm
      case q22xk9 => first | exact rfl | assumption
      case q22xk10 => ktr_room
      case q22xk11 => ktr_units
      intro r hd' h' tk' F8 N8 D8 ⟨hr, ehd⟩
      subst hr ehd
      dsimp only
      k_steps
      exact hend F8 N8 rfl rfl (intsIns hIw) (by rw [← hq]; exact lotPut hL (by rw [hq]; exact hin) hp3 (by rw [hq]; exact hp4)) (by rw [ins_len hp3]; omega)
  · rintro m₁ news₁ h tk ⟨ws, rs, e1, T2, T3, rfl, hT2, hT3, hO, hIw, hL, hrl, hmp, hmo⟩ hnl F3 N3
    clear F1 N1
    have F4 := Fr.know (k := Str.ofString "order") (v := .ref lo) F3 hmo
    clear F3
    k_steps
    rename_i kF kN kT kX
    rw [hvl, List.take_length] at hL
    exact ctr_ret (hd' := (lo, listOf ws.toArray e1) :: (l, listOf vs.toArray e) :: (T2 ++ T3)) hret NR (by assumption) F4 (newsSub N3 (by intro p hp; simp at hp ⊢; rcases hp with h | h | h | h <;> simp [h])) kF (newsSub kN (by intro p hp; simp at hp ⊢; rcases hp with h | h | h | h <;> simp [h])) ⟨lo, ws, rs, e1, T2, T3, rfl, rfl, hT2, hT3, hO, hIw, hL, by omega⟩
end
end
section
def sumsOf (ms ns : List Int) : List Int := ms.flatMap fun a => ns.map fun b => a + b

theorem sumsLen : ∀ (ms ns : List Int), (sumsOf ms ns).length = ms.length * ns.length
  | [], ns => by simp [sumsOf]
  | a :: ms, ns => by rw [sumsOf, List.flatMap_cons, List.length_append, List.length_map]; have := sumsLen ms ns; rw [sumsOf] at this; rw [this, List.length_cons, Nat.succ_mul]; omega
theorem sumsSnoc (ms ns : List Int) (a : Int) : sumsOf (ms ++ [a]) ns = sumsOf ms ns ++ ns.map (a + ·) := by simp [sumsOf, List.flatMap_append]
theorem sumsMem {ms ns : List Int} {x : Int} : x ∈ sumsOf ms ns ↔ ∃ a ∈ ms, ∃ b ∈ ns, a + b = x := by simp [sumsOf]
section
variable {w : World} {p : Program} {loose : List Str} {mean : ExcName → Option Value} {mg mb : Str → Option Value}

theorem sums_ctr (l1 l2 : Addr) (us vs : List Value) (ms ns : List Int) (e1 e2 : Nat) (pr : Int) (tp : Tok) (T2 T3 : List (Addr × Obj)) (hne : l1 ≠ l2) (hT2 : Tab 30 32 4 qI2 T2) (hT3 : Tab 37 47 4 qI3 T3) (hO : Off T2 T3) (hp0 : 0 < pr) (hp1 : pr < 1073741824) (hI1 : IntsAre us ms) (hI2 : IntsAre vs ns) (hb1 : ∀ a ∈ ms, 0 ≤ a ∧ a < 1073741824) (hb2 : ∀ a ∈ ns, 0 ≤ a ∧ a < 1073741824) (hl1 : ms.length ≤ 64) (hl2 : ns.length ≤ 64) :
    Ctr PySem.Challenge.rw_ga0003_02.row.prog w (hd.heap_39 w.params) p loose mean mg mb 93 140 1200 [.ref l1, .ref l2, .int pr tp] ((l1, listOf us.toArray e1) :: (l2, listOf vs.toArray e2) :: (T2 ++ T3))
      (fun r hd' => ∃ lo ws rs e' T2' T3', r = .ref lo ∧ hd' = (lo, listOf ws.toArray e') :: (l1, listOf us.toArray e1) :: (l2, listOf vs.toArray e2) :: (T2' ++ T3') ∧ Tab 30 32 4 qI2 T2' ∧ Tab 37 47 4 qI3 T3' ∧ Off T2' T3' ∧ IntsAre ws rs ∧ LotIs pr (sumsOf ms ns) rs ∧ lo ≠ l1 ∧ lo ≠ l2) := by
  k_with_none
  k_with "tb_rel_1" => (refine wpAny_call ?_; k_dflt (refine' codeF_defC ?w1k1 ?w1k2 ?w1k3 ?w1k4 ?w1kE ?w1k5 ?w1kA ?w1kF ?w1kK ?w1k6 ?w1k7 ?w1k8 ?w1k9 ?w1kB ?w1kD ?_ ?w1c2 ?w1c3 ?w1c4; (case w1kA => exact rfl); (case w1kF => exact rfl); (case w1kK => assumption); (case w1k1 => k_asm); (case w1k2 => k_asm); (case w1k3 => k_asm); (case w1k4 => k_asm); (case w1kE => assumption); (case w1k5 => k_asm); (case w1k6 => k_is); (case w1k7 => k_is); (case w1k8 => ktr_room); (case w1k9 => first | exact BindsTo.of_eq rfl | exact binds_K (by k_in) rfl (by k_is) rfl rfl rfl | (refine' kp_binds ?w1kx ?w1ke; (case w1kx => k_in); (case w1ke => exact fun _ => rfl))); (case w1kB => exact rfl); (case w1kD => decide +kernel); (case w1c2 => exact rfl); (case w1c3 => exact rfl); (case w1c4 => exact rfl); k_whole; intro _ _ _ _ _ _ _ N' Y' _ _ _ _ l1; (try k_lt l1); revert l1; intro _; k_cells Y'; (try simp only [List.cons_append, List.nil_append] at N'); revert N'; intro _; (try dsimp only); (try k_fold)))
  k_with "spliced" => (first | refine args_cons ?_ | refine args_nil ⟨Fr.keep (by assumption) _ _ (by assumption), ?_⟩ | (refine args_nil ?_; try simp only [List.cons_append, List.nil_append]))
  k_with "call ref" => ((refine hold ?_))
  k_with "eval ListComp" => ((refine hold ?_))
  k_with "Comp2" => ((refine hold ?_))
  k_with "Comp2In" => ((refine hold ?_))
  k_fill
  intro dp un gd cn cs a ccd cl outer A₀ base h₀ L m s rest Q E B C1 C2 F X N D T hk hdp hun hret
  have hnN := neN hne
  k_extra "tb_rel_1"
  rename_i gg LL hh5 tk5 FG5 F5 B5 X5 T5 RR5 l5 oc dc N5
  have NR : News h₀ L s.heap rest := newsSub N fun p hp => List.mem_append_right _ hp
  have hcell := fun (p : Addr × Obj) hp => Nat.ne_of_lt (Nat.lt_succ_of_lt (kst_ltOf l5.2.2 p hp))
  have hvl : us.length = ms.length := hI1.length
  have hwl : vs.length = ns.length := hI2.length
  k_steps
  unfold Hold
  k_dflt (refine listComp2 (by k_asm) (by with_unfolding_all rfl) (by decide) (by rfl) (by decide) (by rfl) (by rfl) (by decide) ?_)
  k_steps
  unfold Hold
  have hszT : ∀ i, (sumsOf (ms.take i) ns).length ≤ 4096 := fun i => by
    rw [sumsLen]
    exact Nat.mul_le_mul (Nat.le_trans (List.length_take_le' _ _) hl1) hl2
  have hszU : ∀ i j a, (sumsOf (ms.take i) ns ++ (ns.take j).map (fun b => a + b)).length ≤ 4096 + 64 := fun i j a => by
    rw [List.length_append, List.length_map]
    exact Nat.add_le_add (hszT i) (Nat.le_trans (List.length_take_le' _ _) hl2)
  refine ⟨_, ms.length, _, _, F5, N5, Src.list rfl hvl (by rw [sizeLine_eq]; omega) (ixMem 1 rfl), fun i ys nw => nw = (LL + 1, oc) :: (l1, listOf us.toArray e1) :: (l2, listOf vs.toArray e2) :: (T2 ++ T3) ∧ IntsAre ys (sumsOf (ms.take i) ns), ⟨rfl, .nil⟩, ?_, ?_, ?_⟩
  · rintro i ys nw ⟨rfl, hy⟩
    refine ⟨.inr ⟨_, by k_mem, rfl, _, rfl⟩, ?_⟩
    rw [hy.length, sizeLine_eq]
    exact Nat.le_trans (hszT i) (by decide)
  · rintro g9 ys nw ⟨rfl, hy⟩
    rw [List.take_length] at hy
    unfold LCg.FinE
    intro DG hG1 tkG FG NG oG
    clear F5 N5
    dsimp only
    k_steps
    unfold Hold
    have hne1 : ∀ q ∈ T2 ++ T3, q.1 ≠ l1 := fun q hq => tagNe NG (q := (l1, listOf us.toArray e1)) ((ixSubT 4 [] rfl) q hq) (by simp) (by rw [tabs0 hT2 hT3 q hq]; exact (show (0 : Nat) ≠ 1 by decide))
    have hne2 : ∀ q ∈ T2 ++ T3, q.1 ≠ l2 := fun q hq => tagNe NG (q := (l2, listOf vs.toArray e2)) ((ixSubT 4 [] rfl) q hq) (by simp) (by rw [tabs0 hT2 hT3 q hq]; exact (show (0 : Nat) ≠ 1 by decide))
    have hbs : ∀ x ∈ sumsOf ms ns, Builtin.Int.intBits x ≤ 2 ^ 21 := fun x hx => by
      obtain ⟨a, ha, b, hb, rfl⟩ := sumsMem.mp hx
      have h1 := hb1 a ha
      have h2 := hb2 b hb
      exact bits_small (by omega) (by omega)
    k_dflt (refine' lot_ctr DG ys (sumsOf ms ns) ys.length pr tp T2 T3 hT2 hT3 hO hp0 hp1 hy hbs ?q23xa1 _ _ _ _ _ _ _ _ _ _ _ _ _ _ _ ([(LL + 1, oc), (l1, listOf us.toArray e1), (l2, listOf vs.toArray e2)]) _ _ ?q23xk1 ?q23xk2 ?q23xk3 ?q23xk4 ?q23xk5 ?q23xk6 ?q23xk7 ?q23xk8 ?q23xk9 ?q23xk10 ?q23xk11 ?q23xkR)
    case q23xa1 => (have := hszT ms.length; rw [List.take_length] at this; omega)
    case q23xk1 => k_asm
    case q23xk2 => assumption
    case q23xk3 => assumption
    case q23xk4 => k_asm
    case q23xk5 => k_asm
    case q23xk6 => exact newsSub NG (by intro p hp; simp at hp ⊢; rcases hp with h | h | h | h | h | h <;> simp [h])
    case q23xk7 => exact Off.consR (List.forall_mem_cons.mpr ⟨oG.1.symm, hcell⟩) (Off.consR (List.forall_mem_cons.mpr ⟨oG.2.1.symm, hne1⟩) (Off.consR (List.forall_mem_cons.mpr ⟨oG.2.2.1.symm, hne2⟩) (Off.nilR _)))
    case q23xk8 => k_asm
    case q23xk9 => first | exact rfl | assumption
    case q23xk10 => ktr_room
    case q23xk11 => ktr_units
    intro r hd' h' tk' F' N' D' ⟨lo, ws, rs, e', T2', T3', hr, ehd, hT2', hT3', hO', hIw, hL, _⟩
    subst hr ehd
    dsimp only
    k_steps
    rename_i kF kN kT kX
    exact ctr_ret (hd' := (lo, listOf ws.toArray e') :: (l1, listOf us.toArray e1) :: (l2, listOf vs.toArray e2) :: (T2' ++ T3')) hret NR (by assumption) F' (newsSub N' (by intro p hp; simp at hp ⊢; rcases hp with h | h | h | h | h <;> simp [h])) kF (newsSub kN (by intro p hp; simp at hp ⊢; rcases hp with h | h | h | h | h <;> simp [h])) ⟨lo, ws, rs, e', T2', T3', rfl, rfl, hT2', hT3', hO', hIw, hL, D' (lo, listOf ws.toArray e') (by simp) (l1, listOf us.toArray e1) (by simp), D' (lo, listOf ws.toArray e') (by simp) (l2, listOf vs.toArray e2) (by simp)⟩
  · rintro i v1 I oI C oC Dl m2 h tk ys nw E' hi hv ⟨rfl, hy⟩ hC hx F6 N6 off ne
    clear F5 N5
    obtain ⟨av, ta, hav, rfl⟩ := intsGet hI1 hv
    k_steps
    unfold Hold
    refine ⟨_, _, (LL + 1, oc) :: (l1, listOf us.toArray e1) :: (l2, listOf vs.toArray e2) :: (T2 ++ T3), ns.length, _, _, rfl, F6, N6, off, Src.list rfl hwl (by rw [sizeLine_eq]; omega) (ixMem 2 rfl), fun j ys nw => nw = (LL + 1, oc) :: (l1, listOf us.toArray e1) :: (l2, listOf vs.toArray e2) :: (T2 ++ T3) ∧ IntsAre ys (sumsOf (ms.take i) ns ++ (ns.take j).map (fun b => av + b)), ⟨rfl, by simpa using hy⟩, ?_, ?_, ?_⟩
    · rintro j ys nw ⟨rfl, hy⟩
      refine ⟨.inr ⟨_, by k_mem, rfl, _, rfl⟩, ?_⟩
      rw [hy.length, sizeLine_eq]
      exact Nat.le_trans (hszU i j av) (by decide)
    · rintro ys nw ⟨rfl, hy⟩
      refine ⟨rfl, ?_⟩
      rw [take_snoc hav, sumsSnoc]
      rwa [List.take_length] at hy
    · rintro j v2 I2 oI2 oC' m3 h tk ys nw E' hj hv2 ⟨rfl, hy⟩ hC' hx1 hx2 F7 N7 off7 ne7
      clear N6
      obtain ⟨bv, tb, hbv, rfl⟩ := intsGet hI2 hv2
      refine wpAny_tests_nil ?_
      simp only [if_true]
      k_steps
      refine CEnd.intro F7 N7 (fun p hp => hp) off7 ⟨rfl, ?_⟩
      rw [take_snoc hbv, List.map_append, ← List.append_assoc]
      exact intsPush hy
end
end
section
def Pr (p : Nat) : Prop := p = 5 ∨ p = 7 ∨ p = 11
theorem prPos {p : Nat} (h : Pr p) : 0 < p := by rcases h with rfl | rfl | rfl <;> decide
def cnt (p : Nat) (f : Nat → Bool) : Nat := (List.range p).countP f
theorem cntMono {p : Nat} {f g : Nat → Bool} (h : ∀ i, i < p → f i = true → g i = true) : cnt p f ≤ cnt p g := List.countP_mono_left fun i hi => h i (List.mem_range.mp hi)
theorem cntCongr {p : Nat} {f g : Nat → Bool} (h : ∀ i, i < p → f i = g i) : cnt p f = cnt p g := Nat.le_antisymm (cntMono fun i hi e => by rw [← h i hi]; exact e) (cntMono fun i hi e => by rw [h i hi]; exact e)
theorem cntLe {p : Nat} {f : Nat → Bool} : cnt p f ≤ p := by
  have := List.countP_le_length (p := f) (l := List.range p)
  rwa [List.length_range] at this
theorem cntFull {p : Nat} {f : Nat → Bool} (h : ∀ i, i < p → f i = true) : cnt p f = p := by
  have : (List.range p).countP f = (List.range p).length := List.countP_eq_length.mpr fun i hi => h i (List.mem_range.mp hi)
  rwa [List.length_range] at this
theorem cntPos {p : Nat} {f : Nat → Bool} {i : Nat} (hi : i < p) (h : f i = true) : 1 ≤ cnt p f := List.countP_pos_iff.mpr ⟨i, List.mem_range.mpr hi, h⟩
theorem cntUnion (p : Nat) (f g : Nat → Bool) : cnt p (fun i => f i || g i) + cnt p (fun i => f i && g i) = cnt p f + cnt p g := by
  unfold cnt
  induction List.range p with
  | nil => rfl
  | cons a l ih =>
    simp only [List.countP_cons]
    cases f a <;> cases g a <;> simp <;> (first | lia | omega)
theorem shiftPerm {p : Nat} (hp : Pr p) : ∀ e, e ≤ p → ((List.range p).map fun i => (i + e) % p).isPerm (List.range p) = true := by
  have h5 : ∀ e : Fin 6, ((List.range 5).map fun i => (i + e.1) % 5).isPerm (List.range 5) = true := by decide +kernel
  have h7 : ∀ e : Fin 8, ((List.range 7).map fun i => (i + e.1) % 7).isPerm (List.range 7) = true := by decide +kernel
  have h11 : ∀ e : Fin 12, ((List.range 11).map fun i => (i + e.1) % 11).isPerm (List.range 11) = true := by decide +kernel
  intro e he
  rcases hp with rfl | rfl | rfl
  · exact h5 ⟨e, by (first | lia | omega)⟩
  · exact h7 ⟨e, by (first | lia | omega)⟩
  · exact h11 ⟨e, by (first | lia | omega)⟩
theorem cntShift {p : Nat} (hp : Pr p) (f : Nat → Bool) {e : Nat} (he : e ≤ p) : cnt p (fun i => f ((i + e) % p)) = cnt p f := by
  have h := (List.isPerm_iff.mp (shiftPerm hp e he)).countP_eq f
  rw [List.countP_map] at h
  exact h
theorem cntOne {p : Nat} (hp : Pr p) {j : Nat} (hj : j < p) : cnt p (fun i => i == j) ≤ 1 := by
  have h5 : ∀ e : Fin 5, cnt 5 (fun i => i == e.1) ≤ 1 := by decide +kernel
  have h7 : ∀ e : Fin 7, cnt 7 (fun i => i == e.1) ≤ 1 := by decide +kernel
  have h11 : ∀ e : Fin 11, cnt 11 (fun i => i == e.1) ≤ 1 := by decide +kernel
  rcases hp with rfl | rfl | rfl
  · exact h5 ⟨j, hj⟩
  · exact h7 ⟨j, hj⟩
  · exact h11 ⟨j, hj⟩
theorem orbit {p : Nat} (hp : Pr p) {a d i : Nat} (ha : a < p) (hd0 : 0 < d) (hd : d < p) (hi : i < p) : ∃ k, (a + k * d) % p = i := by
  have h5 : ∀ a d i : Fin 5, d.1 = 0 ∨ ∃ k : Fin 5, (a.1 + k.1 * d.1) % 5 = i.1 := by decide +kernel
  have h7 : ∀ a d i : Fin 7, d.1 = 0 ∨ ∃ k : Fin 7, (a.1 + k.1 * d.1) % 7 = i.1 := by decide +kernel
  have h11 : ∀ a d i : Fin 11, d.1 = 0 ∨ ∃ k : Fin 11, (a.1 + k.1 * d.1) % 11 = i.1 := by decide +kernel
  rcases hp with rfl | rfl | rfl
  · rcases h5 ⟨a, ha⟩ ⟨d, hd⟩ ⟨i, hi⟩ with e | ⟨k, e⟩
    · exact absurd e (by simp; (first | lia | omega))
    · exact ⟨k.1, e⟩
  · rcases h7 ⟨a, ha⟩ ⟨d, hd⟩ ⟨i, hi⟩ with e | ⟨k, e⟩
    · exact absurd e (by simp; (first | lia | omega))
    · exact ⟨k.1, e⟩
  · rcases h11 ⟨a, ha⟩ ⟨d, hd⟩ ⟨i, hi⟩ with e | ⟨k, e⟩
    · exact absurd e (by simp; (first | lia | omega))
    · exact ⟨k.1, e⟩
theorem leaves {p : Nat} (hp : Pr p) {f : Nat → Bool} {a d i0 : Nat} (ha : a < p) (hfa : f a = true) (hd0 : 0 < d) (hd : d < p) (hi : i0 < p) (hfi : f i0 = false) : ∃ i, i < p ∧ f i = true ∧ f ((i + d) % p) = false := by
  false_or_by_contra
  rename_i hn
  have hp0 : 0 < p := prPos hp
  have step : ∀ i, i < p → f i = true → f ((i + d) % p) = true := fun i h1 h2 => by
    cases e : f ((i + d) % p) with
    | true => rfl
    | false => exact absurd ⟨i, h1, h2, e⟩ hn
  have all : ∀ k, f ((a + k * d) % p) = true := by
    intro k
    induction k with
    | zero => rw [Nat.zero_mul, Nat.add_zero, Nat.mod_eq_of_lt ha]; exact hfa
    | succ k ih =>
      have := step _ (Nat.mod_lt _ hp0) ih
      rw [Nat.mod_add_mod] at this
      rw [Nat.succ_mul, ← Nat.add_assoc]; exact this
  obtain ⟨k, hk⟩ := orbit hp ha hd0 hd hi
  have := all k
  rw [hk, hfi] at this
  cases this

theorem bk {p k j : Nat} (hk : k < p) (hj : j ≤ p) : ((k + (p - j)) % p + j) % p = k := by
  rw [Nat.mod_add_mod, Nat.add_assoc, Nat.sub_add_cancel hj, Nat.add_mod_right, Nat.mod_eq_of_lt hk]
theorem bk2 {p k j : Nat} (hk : k < p) (hj : j ≤ p) : ((k + j) % p + (p - j)) % p = k := by
  rw [Nat.mod_add_mod, Nat.add_assoc, Nat.add_sub_cancel' hj, Nat.add_mod_right, Nat.mod_eq_of_lt hk]
theorem bk3 {p x y e : Nat} (he : e ≤ p) : ((y + e) % p + (x + (p - e)) % p) % p = (x + y) % p := by
  rw [Nat.mod_add_mod, Nat.add_mod_mod, Nat.add_left_comm, Nat.add_assoc, Nat.add_sub_cancel' he, ← Nat.add_assoc, Nat.add_mod_right]
theorem bk0 {p i j : Nat} (hi : i < p) (hj : j < p) (h : i ≠ j) : 0 < (i + (p - j)) % p := Nat.pos_of_ne_zero fun e => h (by
  have := bk hi (Nat.le_of_lt hj)
  rwa [e, Nat.zero_add, Nat.mod_eq_of_lt hj, eq_comm] at this)
theorem cdA {p F G H u i s i2 j2 k z w : Nat} (u1 : u + i = F + s) (u2 : s = G) (u3 : i2 = i) (u4 : i2 = j2) (r : min p (u + j2 - 1) ≤ H) : min p (F + G - 1) ≤ H := by
  rw [← u2, ← u1, ← u3, u4]; exact r
theorem cdB {G j2 k z w : Nat} (u5 : k + z = j2 + w) (u6 : k = G) (u8 : z = 0) (u7 : 1 ≤ w) : j2 < G := by
  rw [← u6, ← Nat.add_zero k, ← u8, u5]; exact Nat.lt_add_of_pos_right u7
theorem cdC {p F G H : Nat} (h1 : G ≤ 1) (h2 : F ≤ H) : min p (F + G - 1) ≤ H :=
  Nat.le_trans (Nat.min_le_right _ _) (Nat.le_trans (Nat.sub_le_of_le_add (Nat.add_le_add_left h1 F)) h2)

theorem cdF {p : Nat} (hp : Pr p) : ∀ (n : Nat) (f g h : Nat → Bool), cnt p g = n → (∃ i, i < p ∧ f i = true) → (∃ j, j < p ∧ g j = true) → (∀ i j, i < p → j < p → f i = true → g j = true → h ((i + j) % p) = true) → min p (cnt p f + cnt p g - 1) ≤ cnt p h := by
  intro n
  induction n using Nat.strongRecOn with
  | ind n ih =>
    rintro f g h hn ⟨a, ha, hfa⟩ ⟨j, hj, hgj⟩ hS
    have hp0 : 0 < p := Nat.lt_of_le_of_lt (Nat.zero_le _) hj
    by_cases hex : ∃ j', j' < p ∧ j' ≠ j ∧ g j' = true
    · obtain ⟨j', hj', hne, hgj'⟩ := hex
      by_cases hfull : ∀ i, i < p → f i = true
      · have : cnt p h = p := cntFull fun k hk => by
          have e1 : ((k + (p - j)) % p + j) % p = k := bk hk (Nat.le_of_lt hj)
          have := hS ((k + (p - j)) % p) j (Nat.mod_lt _ hp0) hj (hfull _ (Nat.mod_lt _ hp0)) hgj
          rwa [e1] at this
        exact Nat.le_trans (Nat.min_le_left _ _) (Nat.le_of_eq this.symm)
      · obtain ⟨i0, hi0, hf0⟩ : ∃ i0, i0 < p ∧ f i0 = false := by
          false_or_by_contra
          rename_i hx
          exact hfull fun i hi => by
            cases e : f i with
            | true => rfl
            | false => exact absurd ⟨i, hi, e⟩ hx
        obtain ⟨i, hi, hfi, hfd⟩ := leaves hp (d := (j' + (p - j)) % p) ha hfa (bk0 hj' hj hne) (Nat.mod_lt _ hp0) hi0 hf0
        obtain ⟨e, he⟩ : ∃ e, e = (i + (p - j)) % p := ⟨_, rfl⟩
        have hep : e < p := by rw [he]; exact Nat.mod_lt _ hp0
        have a1 : (j + e) % p = i := by rw [he, Nat.add_comm]; exact bk hi (Nat.le_of_lt hj)
        have a2 : (j' + e) % p = (i + (j' + (p - j)) % p) % p := by rw [he, Nat.add_mod_mod, Nat.add_mod_mod, Nat.add_left_comm]
        have u1 := cntUnion p f fun k => g ((k + (p - e)) % p)
        have u2 := cntShift hp g (e := p - e) (Nat.sub_le _ _)
        have u3 := cntShift hp (fun k => f k && g ((k + (p - e)) % p)) (e := e) (Nat.le_of_lt hep)
        have u4 : cnt p (fun k => f ((k + e) % p) && g (((k + e) % p + (p - e)) % p)) = cnt p (fun k => g k && f ((k + e) % p)) := cntCongr fun k hk => by
          have : ((k + e) % p + (p - e)) % p = k := bk2 hk (Nat.le_of_lt hep)
          rw [this, Bool.and_comm]
        have u5 := cntUnion p (fun k => g k && f ((k + e) % p)) fun k => g k && !f ((k + e) % p)
        have u6 : cnt p (fun k => (g k && f ((k + e) % p)) || (g k && !f ((k + e) % p))) = cnt p g := cntCongr fun k _ => by cases g k <;> cases f ((k + e) % p) <;> rfl
        have u7 : 1 ≤ cnt p (fun k => g k && !f ((k + e) % p)) := cntPos hj' (by rw [a2, hgj', hfd]; rfl)
        have u8 : cnt p (fun k => (g k && f ((k + e) % p)) && (g k && !f ((k + e) % p))) = 0 := by
          have : cnt p (fun _ => false) = 0 := by unfold cnt; simp
          rw [← this]
          exact cntCongr fun k _ => by cases g k <;> cases f ((k + e) % p) <;> rfl
        have r := ih (cnt p (fun k => g k && f ((k + e) % p))) (hn ▸ cdB u5 u6 u8 u7) (fun k => f k || g ((k + (p - e)) % p)) (fun k => g k && f ((k + e) % p)) h rfl ⟨a, ha, by rw [hfa]; rfl⟩ ⟨j, hj, by rw [a1, hgj, hfi]; rfl⟩ (fun x y hx hy hfx hgy => by
          simp only [Bool.and_eq_true, Bool.or_eq_true] at hfx hgy
          rcases hfx with hfx | hgx
          · exact hS x y hx hy hfx hgy.1
          · have := hS ((y + e) % p) ((x + (p - e)) % p) (Nat.mod_lt _ hp0) (Nat.mod_lt _ hp0) hgy.2 hgx
            have e9 : ((y + e) % p + (x + (p - e)) % p) % p = (x + y) % p := bk3 (Nat.le_of_lt hep)
            rwa [e9] at this)
        exact cdA (k := 0) (z := 0) (w := 0) u1 u2 u3 u4 r
    · have h1 : cnt p g ≤ 1 := Nat.le_trans (cntMono fun i hi e => by
        have : i = j := by
          false_or_by_contra
          rename_i hij
          exact hex ⟨i, hi, hij, e⟩
        simp [this]) (cntOne hp hj)
      have h2 : cnt p f ≤ cnt p h := by
        rw [← cntShift hp h (e := j) (Nat.le_of_lt hj)]
        exact cntMono fun i hi e => hS i j hi hj e hgj
      exact cdC h1 h2

theorem srtUniq : ∀ {a b : List Int}, Srt kInt.lt a → Srt kInt.lt b → (∀ x, x ∈ a ↔ x ∈ b) → a = b
  | [], [], _, _, _ => rfl
  | [], y :: b, _, _, h => absurd ((h y).mpr (.head _)) (by simp)
  | x :: a, [], _, _, h => absurd ((h x).mp (.head _)) (by simp)
  | x :: a, y :: b, ha, hb, h => by
    obtain ⟨ha1, ha2⟩ := List.pairwise_cons.mp ha
    obtain ⟨hb1, hb2⟩ := List.pairwise_cons.mp hb
    have lt1 : ∀ z ∈ a, x < z := fun z hz => by have := ha1 z hz; simpa [kInt] using this
    have lt2 : ∀ z ∈ b, y < z := fun z hz => by have := hb1 z hz; simpa [kInt] using this
    have e : x = y := by
      rcases List.mem_cons.mp ((h x).mp (.head _)) with e | hx
      · exact e
      · rcases List.mem_cons.mp ((h y).mpr (.head _)) with e | hy
        · exact e.symm
        · have := lt1 y hy; have := lt2 x hx; (first | lia | omega)
    subst e
    have : a = b := srtUniq ha2 hb2 fun z => by
      constructor
      · intro hz
        rcases List.mem_cons.mp ((h z).mp (.tail _ hz)) with e | hz'
        · have := lt1 z hz; (first | lia | omega)
        · exact hz'
      · intro hz
        rcases List.mem_cons.mp ((h z).mpr (.tail _ hz)) with e | hz'
        · have := lt2 z hz; (first | lia | omega)
        · exact hz'
    rw [this]
theorem srtOf {a : List Int} (h : a.Pairwise (· ≤ ·)) (hn : a.Nodup) : Srt kInt.lt a := by
  refine (List.Pairwise.and h hn).imp fun ⟨h1, h2⟩ => ?_
  simp only [kInt, decide_eq_true_eq]; (first | lia | omega)
def has (A : List Int) (i : Nat) : Bool := decide ((i : Int) ∈ A)
theorem cntLen {p : Nat} {A : List Int} (hs : Srt kInt.lt A) (hb : ∀ a ∈ A, 0 ≤ a ∧ a < p) : cnt p (has A) = A.length := by
  have e : A = ((List.range p).filter (has A)).map (fun i : Nat => (i : Int)) := by
    refine srtUniq hs ?_ fun x => ?_
    · refine List.pairwise_map.mpr ((List.pairwise_lt_range.filter _).imp fun h => ?_)
      simp only [kInt, decide_eq_true_eq]; (first | lia | omega)
    · rw [List.mem_map]
      constructor
      · intro hx
        have := hb x hx
        exact ⟨x.toNat, List.mem_filter.mpr ⟨List.mem_range.mpr (by (first | lia | omega)), by unfold has; rw [decide_eq_true_eq, Int.toNat_of_nonneg this.1]; exact hx⟩, Int.toNat_of_nonneg this.1⟩
      · rintro ⟨i, hi, rfl⟩
        have := (List.mem_filter.mp hi).2
        simpa [has] using this
  unfold cnt
  rw [List.countP_eq_length_filter]
  conv => rhs; rw [e]
  rw [List.length_map]
theorem hasMemI {A : List Int} {x : Int} (h0 : 0 ≤ x) : has A x.toNat = true ↔ x ∈ A := by
  unfold has; rw [decide_eq_true_eq, Int.toNat_of_nonneg h0]

/-- Cauchy and Davenport -/
theorem cauchyDavenport {p : Nat} (hp : Pr p) {A B S : List Int} (hA : Srt kInt.lt A) (hB : Srt kInt.lt B) (hS : Srt kInt.lt S) (bA : ∀ a ∈ A, 0 ≤ a ∧ a < p) (bB : ∀ a ∈ B, 0 ≤ a ∧ a < p) (bS : ∀ a ∈ S, 0 ≤ a ∧ a < p)
    (nA : A ≠ []) (nB : B ≠ []) (h : ∀ a ∈ A, ∀ b ∈ B, (a + b) % (p : Int) ∈ S) : min p (A.length + B.length - 1) ≤ S.length := by
  rw [← cntLen hA bA, ← cntLen hB bB, ← cntLen hS bS]
  obtain ⟨a, ha⟩ := List.exists_mem_of_ne_nil A nA
  obtain ⟨b, hb⟩ := List.exists_mem_of_ne_nil B nB
  have ba := bA a ha
  have bb := bB b hb
  refine cdF hp _ _ _ _ rfl ⟨a.toNat, by (first | lia | omega), (hasMemI ba.1).mpr ha⟩ ⟨b.toNat, by (first | lia | omega), (hasMemI bb.1).mpr hb⟩ fun i j hi hj h1 h2 => ?_
  have := h i (by simpa [has] using h1) j (by simpa [has] using h2)
  unfold has
  rw [decide_eq_true_eq]
  simpa using this
theorem lenLe {p : Nat} {A : List Int} (hs : Srt kInt.lt A) (hb : ∀ a ∈ A, 0 ≤ a ∧ a < p) : A.length ≤ p := by
  rw [← cntLen hs hb]; exact cntLe
theorem castMod {p i : Nat} {c : Int} (hp : (p : Int) ≠ 0) : (((i + (c % (p : Int)).toNat) % p : Nat) : Int) = ((i : Int) + c) % (p : Int) := by
  rw [Int.natCast_emod, Int.natCast_add, Int.toNat_of_nonneg (Int.emod_nonneg c hp), Int.add_emod_emod]
theorem modCancel {p : Int} {a b c : Int} (ha : 0 ≤ a) (ha2 : a < p) (hb : 0 ≤ b) (hb2 : b < p) (e : (a + c) % p = (b + c) % p) : a = b := by
  have := Int.emod_add_cancel_right c |>.mp e
  rwa [Int.emod_eq_of_lt ha ha2, Int.emod_eq_of_lt hb hb2] at this
/-- a lot moved on -/
theorem movedLen {p : Nat} (hp : Pr p) {S T : List Int} {c : Int} (hS : Srt kInt.lt S) (hT : Srt kInt.lt T) (bS : ∀ a ∈ S, 0 ≤ a ∧ a < p) (hm : ∀ x, x ∈ T ↔ ∃ a ∈ S, (a + c) % (p : Int) = x) : T.length = S.length := by
  have hp0 : 0 < p := prPos hp
  have bT : ∀ a ∈ T, 0 ≤ a ∧ a < p := fun x hx => by
    obtain ⟨a, _, rfl⟩ := (hm x).mp hx
    exact ⟨Int.emod_nonneg _ (Int.natCast_ne_zero.mpr (Nat.ne_of_gt hp0)), Int.emod_lt_of_pos _ (Int.natCast_pos.mpr hp0)⟩
  have hpI : (p : Int) ≠ 0 := Int.natCast_ne_zero.mpr (Nat.ne_of_gt hp0)
  have hc := Int.emod_nonneg c hpI
  have hc2 := Int.emod_lt_of_pos c (Int.natCast_pos.mpr hp0)
  rw [← cntLen hT bT, ← cntLen hS bS, ← cntShift hp (has T) (e := (c % (p : Int)).toNat) (by clear bT hm bS hS hT hp; omega)]
  refine cntCongr fun i hi => ?_
  rw [Bool.eq_iff_iff]
  unfold has
  rw [decide_eq_true_eq, decide_eq_true_eq, hm]
  constructor
  · rintro ⟨a, ha, e⟩
    have ba := bS a ha
    have : a = i := modCancel ba.1 ba.2 (Int.natCast_nonneg i) (Int.ofNat_lt.mpr hi) (e.trans (castMod hpI))
    exact this ▸ ha
  · intro ha
    exact ⟨i, ha, (castMod hpI).symm⟩

theorem cntOneEq {p : Nat} (hp : Pr p) {j : Nat} (hj : j < p) : cnt p (fun i => i == j) = 1 := Nat.le_antisymm (cntOne hp hj) (cntPos hj (by simp))
theorem noNought {p : Nat} (hp : Pr p) {d s : Nat} (hd0 : 0 < d) (hd : d < p) (hs0 : 0 < s) (hs : s < p) : (d * s) % p ≠ 0 := by
  have h5 : ∀ d s : Fin 5, d.1 = 0 ∨ s.1 = 0 ∨ (d.1 * s.1) % 5 ≠ 0 := by decide +kernel
  have h7 : ∀ d s : Fin 7, d.1 = 0 ∨ s.1 = 0 ∨ (d.1 * s.1) % 7 ≠ 0 := by decide +kernel
  have h11 : ∀ d s : Fin 11, d.1 = 0 ∨ s.1 = 0 ∨ (d.1 * s.1) % 11 ≠ 0 := by decide +kernel
  have key : d = 0 ∨ s = 0 ∨ (d * s) % p ≠ 0 := by
    rcases hp with rfl | rfl | rfl
    · exact h5 ⟨d, hd⟩ ⟨s, hs⟩
    · exact h7 ⟨d, hd⟩ ⟨s, hs⟩
    · exact h11 ⟨d, hd⟩ ⟨s, hs⟩
  exact key.elim (fun e => absurd e (Nat.ne_of_gt hd0)) fun k => k.elim (fun e => absurd e (Nat.ne_of_gt hs0)) id
theorem apart {p : Nat} (hp : Pr p) {b s : Int} {n k : Nat} (hs1 : 1 ≤ s) (hs2 : s < p) (hk : k < n) (hn : n < p) : (b + n * s) % (p : Int) ≠ (b + k * s) % (p : Int) := by
  intro e
  obtain ⟨s, rfl⟩ := Int.eq_ofNat_of_zero_le (Int.le_trans (by decide) hs1)
  obtain ⟨d, rfl⟩ := Nat.exists_eq_add_of_lt hk
  have e2 := Int.emod_eq_emod_iff_emod_sub_eq_zero.mp e
  rw [Int.add_sub_add_left, ← Int.sub_mul, Nat.add_assoc, Int.natCast_add, Int.add_comm, Int.add_sub_cancel, ← Int.natCast_mul, ← Int.natCast_emod] at e2
  exact noNought hp (Nat.succ_pos d) (Nat.lt_of_le_of_lt (by rw [Nat.add_assoc]; exact Nat.le_add_left _ _) hn) (Int.ofNat_lt.mp hs1) (Int.ofNat_lt.mp hs2) (Int.ofNat_eq_zero.mp e2)
def ap (p : Nat) (b s : Int) : Nat → Nat → Bool
  | 0, _ => false
  | n + 1, i => ap p b s n i || i == ((b + n * s) % (p : Int)).toNat
theorem apMem {p : Nat} {b s : Int} (hp0 : 0 < p) : ∀ {n i : Nat}, ap p b s n i = true ↔ ∃ k : Nat, k < n ∧ (b + k * s) % (p : Int) = i
  | 0, i => by simp [ap]
  | n + 1, i => by
    have h0 := Int.emod_nonneg (b + n * s) (b := (p : Int)) (by (first | lia | omega))
    simp only [ap, Bool.or_eq_true, beq_iff_eq]
    rw [apMem hp0]
    constructor
    · rintro (⟨k, hk, e⟩ | e)
      · exact ⟨k, by (first | lia | omega), e⟩
      · exact ⟨n, by (first | lia | omega), by (first | lia | omega)⟩
    · rintro ⟨k, hk, e⟩
      by_cases hkn : k = n
      · subst hkn; exact .inr (by (first | lia | omega))
      · exact .inl ⟨k, by (first | lia | omega), e⟩
theorem apCnt {p : Nat} (hp : Pr p) {b s : Int} (hs1 : 1 ≤ s) (hs2 : s < p) : ∀ n : Nat, n ≤ p → cnt p (ap p b s n) = n
  | 0, _ => by unfold cnt; simp [ap]
  | n + 1, hn => by
    have hp0 : 0 < p := prPos hp
    have h0 := Int.emod_nonneg (b + n * s) (b := (p : Int)) (by (first | lia | omega))
    have h1 := Int.emod_lt_of_pos (b + n * s) (b := (p : Int)) (by (first | lia | omega))
    have u := cntUnion p (ap p b s n) (fun i => i == ((b + n * s) % (p : Int)).toNat)
    have v := cntOneEq hp (j := ((b + n * s) % (p : Int)).toNat) (by (first | lia | omega))
    have r := apCnt hp hs1 hs2 n (by (first | lia | omega)) (b := b)
    have z : cnt p (fun i => ap p b s n i && i == ((b + n * s) % (p : Int)).toNat) = 0 := by
      have : cnt p (fun _ => false) = 0 := by unfold cnt; simp
      rw [← this]
      refine cntCongr fun i hi => ?_
      cases e : ap p b s n i with
      | false => rfl
      | true =>
        obtain ⟨k, hk, ek⟩ := (apMem hp0).mp e
        have := apart hp hs1 hs2 hk (by (first | lia | omega)) (b := b)
        simp only [Bool.true_and, beq_eq_false_iff_ne]
        (first | lia | omega)
    show cnt p (fun i => ap p b s n i || i == ((b + n * s) % (p : Int)).toNat) = n + 1
    (first | lia | omega)
theorem apLen {p : Nat} (hp : Pr p) {b s : Int} {n : Nat} {R : List Int} (hs1 : 1 ≤ s) (hs2 : s < p) (hR : Srt kInt.lt R) (hm : ∀ x, x ∈ R ↔ ∃ k : Nat, k < n ∧ (b + k * s) % (p : Int) = x) : R.length = min p n := by
  have hp0 : 0 < p := prPos hp
  have bR : ∀ a ∈ R, 0 ≤ a ∧ a < p := fun x hx => by
    obtain ⟨k, _, rfl⟩ := (hm x).mp hx
    exact ⟨Int.emod_nonneg _ (Int.natCast_ne_zero.mpr (Nat.ne_of_gt hp0)), Int.emod_lt_of_pos _ (Int.natCast_pos.mpr hp0)⟩
  have e : cnt p (has R) = cnt p (ap p b s n) := cntCongr fun i _ => by
    rw [Bool.eq_iff_iff, apMem hp0]
    unfold has
    rw [decide_eq_true_eq, hm]
  rw [← cntLen hR bR, e]
  by_cases hn : n ≤ p
  · rw [apCnt hp hs1 hs2 n hn]; (first | lia | omega)
  · have h1 : cnt p (ap p b s p) ≤ cnt p (ap p b s n) := cntMono fun i _ h => by
      obtain ⟨k, hk, ek⟩ := (apMem hp0).mp h
      exact (apMem hp0).mpr ⟨k, by (first | lia | omega), ek⟩
    rw [apCnt hp hs1 hs2 p (Nat.le_refl _)] at h1
    have h2 : cnt p (ap p b s n) ≤ p := cntLe
    (first | lia | omega)
theorem modAdd {p : Nat} (hp : Pr p) (x y : Int) : (x % (p : Int) + y % (p : Int)) % (p : Int) = (x + y) % (p : Int) := (Int.add_emod x y p).symm
/-- the sums of two lots that go on by one step -/
theorem apSums {p : Nat} (hp : Pr p) {b c s : Int} {m n : Nat} {A B S : List Int} (hm1 : 1 ≤ m) (hn1 : 1 ≤ n) (hA : ∀ x, x ∈ A ↔ ∃ k : Nat, k < m ∧ (b + k * s) % (p : Int) = x) (hB : ∀ x, x ∈ B ↔ ∃ k : Nat, k < n ∧ (c + k * s) % (p : Int) = x)
    (hS : ∀ x, x ∈ S ↔ ∃ a ∈ A, ∃ b ∈ B, (a + b) % (p : Int) = x) : ∀ x, x ∈ S ↔ ∃ k : Nat, k < m + n - 1 ∧ (b + c + k * s) % (p : Int) = x := by
  intro x
  rw [hS]
  constructor
  · rintro ⟨a, ha, d, hd, rfl⟩
    obtain ⟨k, hk, rfl⟩ := (hA a).mp ha
    obtain ⟨l, hl, rfl⟩ := (hB d).mp hd
    refine ⟨k + l, by (first | lia | omega), ?_⟩
    rw [modAdd hp, Int.natCast_add, Int.add_mul]
    congr 1; (first | lia | omega)
  · rintro ⟨t, ht, rfl⟩
    obtain ⟨k, l, hk, hl, e⟩ : ∃ k l : Nat, k < m ∧ l < n ∧ t = k + l := by
      by_cases h : t < m
      · exact ⟨t, 0, h, by (first | lia | omega), rfl⟩
      · exact ⟨m - 1, t - (m - 1), by (first | lia | omega), by (first | lia | omega), by (first | lia | omega)⟩
    refine ⟨_, (hA _).mpr ⟨k, hk, rfl⟩, _, (hB _).mpr ⟨l, hl, rfl⟩, ?_⟩
    rw [modAdd hp, e, Int.natCast_add, Int.add_mul]
    congr 1; (first | lia | omega)
end
section
theorem lk_list_keys : typeLookup (.type "list") "keys" = pure none := by rw [typeLookup_type, builtinLookup_eq_fast]; kernel_rfl
section
variable {prog : Program} {w : World} {A : Around} {E : Value → Shared → Prop} {h : Heap} {g : Array GenState} {d : Drawn} {t : Nat} {os : OsState} {a : Addr} {o : Obj}
theorem keys_entry {tk : Tok} {Q : Fin → Shared → Prop} {its : Array Value} {n : Nat} (hx : h.get? a = some { cls := .type "list", data := .seq its n }) (hh : A.handled = none) (hq : ∀ e h' tk, (∀ b o, h.get? b = some o → h'.get? b = some o) → (⟨h', g, d, tk, os⟩ : Shared).TypeIs e "AttributeError" → E e ⟨h', g, d, tk, os⟩) :
    wpAny (model prog w) A (Builtin.«object.__getattribute__» ⟨[.ref a, .str "keys" tk], []⟩) Q E ⟨h, g, d, t, os⟩ := by
  have hT : (⟨h, g, d, t, os⟩ : Shared).TypeIs (.ref a) "list" := ⟨_, hx, rfl⟩
  have f4 := lk_list_keys
  have f6 := F.slot_gs_get.lookup
  have f7 := F.slot_gs_set.lookup
  repeat (any_goals (first | assumption | wp_step))
  unfold raiseAttrError
  refine wpAny_bind (wpAny_mkStr ?_ (by rw [sizeLine_eq]; decide))
  refine wpAny_bind ?_
  unfold newExc newTuple
  refine wpAny_bind (wpAny_newObj_type ?_)
  refine wpAny_bind (m := firstArgMember _ _) (wpAny_of_eq (a := Value.none) (by rfl) ?_)
  refine wpAny_newObj_type ?_
  dsimp only
  generalize hv : Value.str _ t = v
  generalize hH1 : h.push _ = H1
  generalize hF : #[Value.ref h.objs.size, Value.none, Value.none, Value.none, Value.bool false, Value.none] ++ ownMembersOf _ _ = fs
  have hfs : fs = #[Value.ref h.objs.size, Value.none, Value.none, Value.none, Value.bool false, Value.none, unsetMember, unsetMember] := hF.symm
  clear hF
  generalize hea : H1.objs.size = ea
  have hE : (H1.push { cls := .type "AttributeError", data := .fields fs }).get? ea = some { cls := .type "AttributeError", data := .fields fs } := by rw [← hea]; exact Heap.get?_push_size _ rfl
  have up : ∀ b o, h.get? b = some o → (H1.push { cls := .type "AttributeError", data := .fields fs }).get? b = some o := fun b o e => Heap.get?_push_of_some _ (hH1 ▸ Heap.get?_push_of_some _ e)
  have hea2 : h.get? ea = none := by rw [← hea, ← hH1]; exact Heap.get?_none_of_le (by simp)
  generalize H1.push { cls := .type "AttributeError", data := .fields fs } = H2 at *
  refine wpAny_bind (wpAny_mkText ?_)
  have hTe : ∀ tk, (⟨H2, g, d, tk, os⟩ : Shared).TypeIs (.ref ea) "AttributeError" := fun tk => ⟨_, hE, rfl⟩
  have sub1 : isSubtype (.type "AttributeError") (.type "AttributeError") = pure true := by rw [isSubtype_type]; kernel_rfl
  refine wpAny_bind ?_
  unfold noteAttr
  show wpAny _ A (lacksNameAndObj (.ref ea) >>= _) _ _ _
  refine wpAny_bind ?_
  unfold lacksNameAndObj
  show wpAny _ A (isInstance (.ref ea) _ >>= _) _ _ _
  refine wpAny_bind (wpAny_isInstance (hTe _) sub1 ?_)
  simp only [Bool.not_true, Bool.false_eq_true, if_false]
  refine wpAny_bind (wpAny_load hE ?_)
  subst hfs
  repeat (any_goals (first | assumption | wp_step))
  unfold raiseNew
  refine wpAny_bind (wpAny_handled ?_)
  rw [hh]
  first
    | refine wpAny_throw ?_
    | refine wpAny_bind (wpAny_pure (wpAny_throw ?_))
  refine hq _ _ _ (fun b o' e => ?_) ⟨_, Heap.get?_update_self _ hE rfl, rfl⟩
  have hbe : b ≠ ea := fun q => by rw [q, hea2] at e; cases e
  exact (Heap.SameBut.update ..).extBut _ _ hbe (up b o' e)
theorem keys_call {tk : Tok} {R : Result → Shared → Prop} {its : Array Value} {n : Nat} (hx : h.get? a = some { cls := .type "list", data := .seq its n }) (hh : A.handled = none) (hq : ∀ e h' tk, (∀ b o, h.get? b = some o → h'.get? b = some o) → (⟨h', g, d, tk, os⟩ : Shared).TypeIs e "AttributeError" → R (.error e) ⟨h', g, d, tk, os⟩) :
    codeAny (model prog w) A (.call (.builtin "list.__getattribute__") ⟨[.ref a, .str "keys" tk], []⟩) R ⟨h, g, d, t, os⟩ :=
  codeAny_call_builtin F.slot_list_getattribute.plain F.entry_list_ga (F.slot_list_getattribute.check _ _ _ _ _ _ _ _ (show (⟨h, g, d, t, os⟩ : Shared).TypeIs (.ref a) "list" from ⟨_, hx, rfl⟩) (F.args_list_getattribute_2 _ _) (keys_entry hx hh hq))
theorem lk_list_hook : typeLookup (.type "list") "__getattr__" = pure none := by rw [typeLookup_type, builtinLookup_eq_fast]; kernel_rfl
theorem keys_by {tk : Tok} {Q : Value → Shared → Prop} {its : Array Value} {n : Nat} (hx : h.get? a = some { cls := .type "list", data := .seq its n }) (hh : A.handled = none) (hq : ∀ e h' tk, (∀ b o, h.get? b = some o → h'.get? b = some o) → (⟨h', g, d, tk, os⟩ : Shared).TypeIs e "AttributeError" → E e ⟨h', g, d, tk, os⟩) :
    wpAny (model prog w) A (getAttrBy (.ref a) (.str "keys" tk) false) Q E ⟨h, g, d, t, os⟩ := by
  have hT : (⟨h, g, d, t, os⟩ : Shared).TypeIs (.ref a) "list" := ⟨_, hx, rfl⟩
  have f2 := F.slot_list_getattribute.lookup
  have f3 := F.slot_list_getattribute.bind (.ref a)
  have f4 := lk_list_hook
  have sub1 : isSubtype (.type "AttributeError") (.type "AttributeError") = pure true := by rw [isSubtype_type]; kernel_rfl
  repeat (any_goals (first | assumption | wp_step))
  refine keys_call hx hh fun e h' tk hk hTe => ?_
  dsimp only
  unfold getattributeRaised
  refine wpAny_bind (wpAny_isInstance hTe sub1 ?_)
  simp only [if_true]
  repeat (any_goals (first | assumption | wp_step))
  exact hq e h' _ hk hTe
/-- a list has no «keys» -/
theorem keys_none {Q : Option Value → Shared → Prop} {s : Shared} {its : Array Value} {n : Nat} (hx : s.heap.get? a = some { cls := .type "list", data := .seq its n }) (hh : A.handled = none) (hq : ∀ h' tk, (∀ b o, s.heap.get? b = some o → h'.get? b = some o) → Q none { s with heap := h', toks := tk }) :
    wpAny (model prog w) A (getAttr? (.ref a) "keys") Q E s := by
  obtain ⟨h, g, d, t, os⟩ := s
  have sub1 : isSubtype (.type "AttributeError") (.type "AttributeError") = pure true := by rw [isSubtype_type]; kernel_rfl
  unfold getAttr? getAttrBy?
  refine wpAny_bind (wpAny_mkText (wpAny_bind (wpAny_attempt (keys_by hx hh fun e h' tk hk hTe => ?_))))
  dsimp only
  refine wpAny_bind (wpAny_isInstance hTe sub1 ?_)
  simp only [if_true]
  exact wpAny_pure (hq h' _ hk)
end
end
section
theorem entry_updloop : entryFor table "dict.update.loop" = some Builtin.«dict.update.loop» := entryFor_of_tree (by kernel_rfl)
theorem plain_updloop : plainId "dict.update.loop" = true := by decide +kernel
section
variable {prog : Program} {w : World} {A : Around} {E : Value → Shared → Prop}
theorem pairItems_tup {s : Shared} {p : Addr} {a b : Value} {n : Nat} {Q : List Value → Shared → Prop} (hx : s.heap.get? p = some (tupObj [a, b] n)) (h : Q [a, b] s) : wpAny (model prog w) A (Builtin.Dict.pairItems (.ref p)) Q E s := by
  have hT : s.TypeIs (.ref p) "tuple" := ⟨_, hx, rfl⟩
  unfold Builtin.Dict.pairItems
  refine wpAny_bind (wpAny_typeOf hT ?_)
  rw [if_pos (by decide)]
  unfold seqItems?
  refine wpAny_bind (wpAny_bind (wpAny_load hx ?_))
  exact wpAny_pure (wpAny_pure h)
theorem storedKeys {kvs : List (Int × Value)} {k x : Int} {v : Value} : x ∈ (stored kvs k v).map (·.1) ↔ x = k ∨ x ∈ kvs.map (·.1) := by
  unfold stored
  split
  · rename_i h
    obtain ⟨q, hq, e⟩ := List.any_eq_true.mp h
    have e' : q.1 = k := by simpa using e
    have em : (kvs.map fun kv => if kv.1 = k then (kv.1, v) else kv).map (·.1) = kvs.map (·.1) := by
      rw [List.map_map]
      refine List.map_congr_left fun p _ => ?_
      simp only [Function.comp]
      split <;> rfl
    rw [em]
    constructor
    · exact .inr
    · rintro (rfl | h)
      · exact e' ▸ List.mem_map_of_mem hq
      · exact h
  · rw [List.map_append, List.mem_append]
    simp only [List.map_cons, List.map_nil, List.mem_singleton]
    exact Or.comm
theorem storedLen {kvs : List (Int × Value)} {k : Int} {v : Value} : (stored kvs k v).length ≤ kvs.length + 1 := by
  unfold stored
  split
  · rw [List.length_map]; omega
  · rw [List.length_append]; simp
theorem dictLoop {R : Result → Shared → Prop} {D I l : Addr} {vs : List Value} {ks : List Int} (hDI : D ≠ I) (hDl : D ≠ l) (hIl : I ≠ l) (hh : A.handled = none) (hlen : vs.length ≤ 2 ^ 20) : ∀ (k i : Nat) (s : Shared) (kvs : List (Int × Value)), i + k = vs.length → s.heap.IsListIter I l i → s.heap.IsList l vs.toArray →
    s.heap.DictOf (intKind prog w) D kvs → (∀ (j : Nat) (v : Value), vs[j]? = some v → ∃ (p : Addr) (x : Int) (t : Tok) (u : Value) (n : Nat), v = .ref p ∧ ks[j]? = some x ∧ s.heap.get? p = some (tupObj [.int x t, u] n) ∧ p ≠ D ∧ p ≠ I) → kvs.length ≤ i →
    (∀ h' tk kvs', h'.DictOf (intKind prog w) D kvs' → (∀ b o, b ≠ D → b ≠ I → s.heap.get? b = some o → h'.get? b = some o) → (∀ x, x ∈ kvs'.map (·.1) ↔ x ∈ kvs.map (·.1) ∨ ∃ j, i ≤ j ∧ j < vs.length ∧ ks[j]? = some x) → kvs'.length ≤ vs.length → R (.ok (.ret .none)) { s with heap := h', toks := tk }) →
    codeAny (model prog w) A (.builtin "dict.update.loop" ⟨[.ref D, .ref I, rawInt i, .none], []⟩) R s := by
  intro k
  induction k with
  | zero =>
    intro i s kvs hi hit hl hd hv hkl done
    refine codeAny_builtin entry_updloop ?_
    rw [Around.under_plainId plain_updloop _]
    unfold Builtin.«dict.update.loop»
    refine wpAny_bind (wpAny_pyNext_list_end hh hit hl (by simp; omega) fun h₁ he₁ => ?_)
    dsimp only
    unfold Builtin.Dict.addKeywords
    refine wpAny_bind (wpAny_bind (wpAny_pure (wpAny_pure ?_)))
    refine wpAny_pure ?_
    refine done h₁ s.toks kvs (hd.extBut he₁ hDI) (fun b o _ hb e => he₁ b o hb e) (fun x => ?_) (by omega)
    constructor
    · exact .inl
    · rintro (h | ⟨j, h1, h2, _⟩)
      · exact h
      · omega
  | succ k ih =>
    intro i s kvs hi hit hl hd hv hkl done
    refine codeAny_builtin entry_updloop ?_
    rw [Around.under_plainId plain_updloop _]
    have hlt : i < vs.length := by omega
    unfold Builtin.«dict.update.loop»
    refine wpAny_bind (wpAny_pyNext_list_item hit hl (x := vs[i]) (by simp [hlt]) fun h₁ hit₁ hs₁ => ?_)
    obtain ⟨p, x, tx, u, n, e1, hkx, hp, hpD, hpI⟩ := hv i vs[i] (List.getElem?_eq_getElem hlt)
    rw [e1]
    dsimp only
    refine wpAny_bind (wpAny_holding ?_)
    refine wpAny_bind (wpAny_tryCatch ?_)
    have hp₁ := hs₁.extBut _ _ hpI hp
    refine pairItems_tup hp₁ ?_
    dsimp only
    refine wpAny_holding ?_
    have hd₁ := hd.extBut hs₁.extBut hDI
    refine wpAny_dictSet_pairs (knd := intKind prog w) (k := x) (by simp [intKind, Value.isInt]) hd₁ (fun h₂ hd₂ hs₂ => ?_) (by rw [sizeLine_eq]; omega)
    refine wpAny_pure ⟨plainId_quiet plain_updloop _, ?_⟩
    have e9 : rawInt ((i : Int) + 1) = rawInt ((i + 1 : Nat) : Int) := by rw [Int.natCast_add]; rfl
    rw [e9]
    refine ih (i + 1) { s with heap := h₂, toks := _ } (stored kvs x u) (by omega) (hit₁.extBut hs₂.extBut hDI.symm) ((hl.extBut hs₁.extBut hIl.symm).extBut hs₂.extBut hDl.symm) hd₂ (fun j v hj => ?_) ?_ (fun h' tk kvs' hd' hk' hm' hl' => ?_)
    · obtain ⟨p', x', t', u', n', e', hk', hp', hpD', hpI'⟩ := hv j v hj
      exact ⟨p', x', t', u', n', e', hk', hs₂.extBut _ _ hpD' (hs₁.extBut _ _ hpI' hp'), hpD', hpI'⟩
    · exact Nat.le_trans storedLen (by omega)
    · refine done h' tk kvs' hd' (fun b o hb hb' e => hk' b o hb hb' (hs₂.extBut _ _ hb (hs₁.extBut _ _ hb' e))) (fun y => ?_) hl'
      rw [hm', storedKeys]
      constructor
      · rintro ((rfl | h) | ⟨j, h1, h2, h3⟩)
        · exact .inr ⟨i, Nat.le_refl _, hlt, hkx⟩
        · exact .inl h
        · exact .inr ⟨j, by omega, h2, h3⟩
      · rintro (h | ⟨j, h1, h2, h3⟩)
        · exact .inl (.inr h)
        · by_cases hj : j = i
          · subst hj
            rw [hkx] at h3; cases h3
            exact .inl (.inl rfl)
          · exact .inr ⟨j, by omega, h2, h3⟩
end
end
section
theorem intsOfGet : ∀ {vs : List Value} {ns : List Int}, vs.length = ns.length → (∀ (j : Nat) (v : Value), vs[j]? = some v → ∃ k t, ns[j]? = some k ∧ v = .int k t) → IntsAre vs ns
  | [], [], _, _ => .nil
  | v :: vs, n :: ns, hl, h => by
    obtain ⟨k, t, hk, rfl⟩ := h 0 v rfl
    simp at hk
    subst hk
    exact .cons n t (intsOfGet (by simpa using hl) fun j v hj => by
      obtain ⟨k, t, hk, e⟩ := h (j + 1) v (by simpa using hj)
      exact ⟨k, t, by simpa using hk, e⟩)
section
variable {prog : Program} {w : World} {A : Around} {E : Value → Shared → Prop} {s : Shared} {h₀ : Heap} {L : Addr} {m : Str → Option Value} {news : List (Addr × Obj)}
/-- dict([(k, v), ..]) -/
theorem dictOfPairs {l : Addr} {vs : List Value} {ks : List Int} {e : Nat} {Q : Value → Shared → Prop} (hh : A.handled = none) (hbig : sysModules < h₀.objs.size) (F : Fr h₀ L s.heap m) (N : News h₀ L s.heap news) (hm : (l, listOf vs.toArray e) ∈ news) (hlen : vs.length ≤ 2 ^ 20)
    (htup : ∀ (j : Nat) (v : Value), vs[j]? = some v → ∃ (p : Addr) (x : Int) (t : Tok) (u : Value) (n : Nat), v = .ref p ∧ ks[j]? = some x ∧ (p, tupObj [.int x t, u] n) ∈ news)
    (h : ∀ D h' tk o kvs, Fr h₀ L h' m → News h₀ L h' ((D, o) :: news) → (∀ p ∈ news, p.1 < D) → h'.DictOf (intKind prog w) D kvs → (∀ x, x ∈ kvs.map (·.1) ↔ ∃ j, j < vs.length ∧ ks[j]? = some x) → kvs.length ≤ vs.length → (D == sysModules) = false → (kvs.map (·.1)).Nodup → Q (.ref D) { s with heap := h', toks := tk }) :
    wpAny (model prog w) A (call (.type "dict") [.ref l]) Q E s := by
  refine callType_codes (Q₁ := fun obj s₁ => obj = .ref s.heap.objs.size ∧ s₁ = { s with heap := s.heap.push { cls := .type "dict", data := .dict #[] } }) PySem.F.kt_called_dict (PySem.F.kt_typeCall_dict_1 _) PySem.F.entry_dict_init (kt_code_dict_new _ ⟨rfl, rfl⟩) ?_
  rintro obj s₁ ⟨rfl, rfl⟩
  have hlo := F.notModules hbig
  have hnew : (s.heap.push { cls := .type "dict", data := .dict #[] }).DictOf (intKind prog w) s.heap.objs.size [] := Heap.DictOf.new s.heap
  have up1 : ∀ b o, s.heap.get? b = some o → (s.heap.push { cls := .type "dict", data := .dict #[] }).get? b = some o := fun b o e => Heap.get?_push_of_some _ e
  generalize hD : s.heap.objs.size = D at *
  generalize hH1 : s.heap.push { cls := .type "dict", data := .dict #[] } = H1 at *
  have hsz1 : H1.objs.size = D + 1 := by rw [← hH1, Heap.size_push, hD]
  have hlD : ∀ p ∈ news, @LT.lt Nat instLTNat p.1 D := fun p hp => by have := szN (N p hp).1; omega
  have hLD : @LT.lt Nat instLTNat L D := by have := frN F; omega
  have hl1 := up1 _ _ (N _ hm).1
  refine ⟨hnew.typeIs, PySem.F.args_dict_init_2 _ _, ?_⟩
  unfold Builtin.«dict.__init__»
  refine wpAny_bind ?_
  unfold Builtin.Dict.selfAndRest
  refine wpAny_bind (wpAny_notOrdered_dict hnew.typeIs ?_)
  show wpAny _ _ (pure (D, [Value.ref l])) _ _ _
  refine wpAny_pure ?_
  show wpAny _ _ (Builtin.Dict.updateFrom "dict.__init__" D (.ref l) [] .none) _ _ _
  unfold Builtin.Dict.updateFrom
  refine wpAny_bind (wpAny_typeOf (show ({ s with heap := H1 } : Shared).TypeIs (.ref l) "list" from ⟨_, hl1, rfl⟩) ?_)
  rw [if_pos (by decide)]
  refine wpAny_bind (keys_none hl1 hh fun h₂ tk₂ hk₂ => ?_)
  simp only [Option.isNone_none, if_true]
  refine wpAny_bind (wpAny_rule ?_)
  have hl2 : h₂.IsList l vs.toArray := ⟨_, hk₂ _ _ hl1, rfl, e, rfl⟩
  refine wpAny_bind (wpAny_pyIter_list hl2 ?_)
  have hd2 : h₂.DictOf (intKind prog w) D [] := by
    obtain ⟨o, es, ep, ho, r⟩ := hnew
    exact ⟨o, es, ep, hk₂ _ _ ho, r⟩
  dsimp only
  have hsz2 : @LE.le Nat instLENat H1.objs.size h₂.objs.size := by
    obtain ⟨o, es, ep, ho, r⟩ := hnew
    have := szN (hk₂ D o ho)
    omega
  generalize hI : h₂.objs.size = I at *
  have upI : ∀ b o, h₂.get? b = some o → (h₂.push { cls := .type "list_iterator", data := .fields #[.ref l, .int 0 0] }).get? b = some o := fun b o e => Heap.get?_push_of_some _ e
  have hit : (h₂.push { cls := .type "list_iterator", data := .fields #[.ref l, .int 0 0] }).IsListIter I l 0 := ⟨_, by rw [← hI]; exact Heap.get?_push_size _ rfl, rfl, rfl⟩
  have hlI : ∀ p ∈ news, @LT.lt Nat instLTNat p.1 I := fun p hp => by have := hlD p hp; omega
  have e0 : rawInt 0 = rawInt ((0 : Nat) : Int) := rfl
  refine wpAny_pure ⟨plainId_quiet plain_updloop _, ?_⟩
  rw [e0]
  refine dictLoop (A := A.in1) (ks := ks) (adNe (by omega)) (adNe (.inr (hlD _ hm))) (adNe (.inr (hlI _ hm))) hh hlen vs.length 0 _ [] (by omega) hit (hl2.at fun o e => upI _ _ e) ?_ (fun j v hj => ?_) (Nat.le_refl _) (fun h' tk kvs' hd' hk' hm' hl' => ?_)
  · obtain ⟨o, es, ep, ho, r⟩ := hd2
    exact ⟨o, es, ep, upI _ _ ho, r⟩
  · obtain ⟨p, x, t, u, n, e1, e2, e3⟩ := htup j v hj
    exact ⟨p, x, t, u, n, e1, e2, upI _ _ (hk₂ _ _ (up1 _ _ (N _ e3).1)), adNe (.inl (hlD _ e3)), adNe (.inl (hlI _ e3))⟩
  · obtain ⟨o, es, ep, ho, r⟩ := id hd'
    have kp : ∀ b o, @LT.lt Nat instLTNat b D → s.heap.get? b = some o → h'.get? b = some o := fun b o hb e => hk' b o (adNe (.inl hb)) (adNe (.inl (by omega))) (upI _ _ (hk₂ _ _ (up1 _ _ e)))
    have nD : h₀.get? D = none := by
      cases q : h₀.get? D with
      | none => rfl
      | some o' => have := szN (F.keep D o' q); omega
    refine ⟨rfl, h D h' tk o kvs' (F.keeps fun b o e => kp b o (by have := szN e; omega) e) (fun p hp => ?_) (fun p hp => hlD p hp) hd' (fun x => ?_) hl' hlo (let ⟨_, _, _, _, _, _, _, _, hn⟩ := hd'; hn)⟩
    · rcases List.mem_cons.mp hp with rfl | hp
      · exact ⟨ho, adNe (.inr hLD), nD⟩
      · exact ⟨kp _ _ (hlD p hp) (N p hp).1, (N p hp).2⟩
    · rw [hm']
      simp

/-- list.sort of ints, in place -/
theorem sortG {D : Addr} {vs : List Value} {ns : List Int} {n : Nat} {Q : Value → Shared → Prop} (F : Fr h₀ L s.heap m) (N : News h₀ L s.heap ((D, listOf vs.toArray n) :: news)) (hI : IntsAre vs ns) (h64 : vs.length < 64) (hlt : ∀ q ∈ news, q.1 ≠ D)
    (h : ∀ h' out ns' c, Fr h₀ L h' m → News h₀ L h' ((D, listOf (List.toArray out) c) :: news) → IntsAre out ns' → ns'.Perm ns → ns'.Pairwise (· ≤ ·) → Q .none { s with heap := h' }) :
    wpAny (model prog w) A (call (.builtin "list.sort") [.ref D]) Q E s := by
  have z := N _ (.head _)
  refine wpAny_call_entry PyProof.Rows.slot_list_sort ⟨_, z.1, rfl⟩ PyProof.Rows.entry_list_sort (list_sort_tree (n := n) (vs := vs) z.1 hI h64 fun out ns' hI' hp hP => ⟨.none, rfl, ?_⟩) (PyProof.Rows.args_list_sort _)
  have e1 := get?_update_seq (c := "list") z.1 (fun _ => #[])
  have e2 := get?_update_seq (c := "list") (Heap.get?_push_of_some (seqObj "list" #[] 0) (Heap.get?_push_of_some (seqObj "tuple" vs.toArray 0) e1)) (fun _ => out)
  have kp : ∀ b o, b ≠ D → s.heap.get? b = some o → (sortedHeap s.heap D vs out).get? b = some o := fun b o hb e =>
    (Heap.SameBut.update ..).extBut _ _ hb (Heap.get?_push_of_some _ (Heap.get?_push_of_some _ ((Heap.SameBut.update ..).extBut _ _ hb e)))
  have nD : h₀.get? D = none := z.2.2
  have hLs : D ≠ L := z.2.1
  obtain ⟨oL, a1, a2, hoL, a3⟩ := F.ns
  have F' : Fr h₀ L (sortedHeap s.heap D vs out) m := ⟨⟨oL, a1, a2, kp _ _ hLs.symm hoL, a3⟩, fun b o e => kp b o (fun q => by rw [q, nD] at e; cases e) (F.keep b o e), F.above⟩
  have eo : (List.toArray out.toList) = out := by simp
  obtain ⟨c, e3⟩ : ∃ c, (sortedHeap s.heap D vs out).get? D = some (listOf out c) := ⟨_, e2⟩
  have N' : News h₀ L (sortedHeap s.heap D vs out) ((D, listOf (List.toArray out.toList) c) :: news) := fun p hp => by
    rcases List.mem_cons.mp hp with rfl | hp
    · rw [eo]; exact ⟨e3, z.2⟩
    · exact ⟨kp _ _ (hlt p hp) (N p (.tail _ hp)).1, (N p (.tail _ hp)).2⟩
  exact h _ out.toList ns' c F' N' hI' hp hP

/-- sorted(d): its keys in order -/
theorem sortedDict {D : Addr} {kvs : List (Int × Value)} {Q : Value → Shared → Prop} (hh : A.handled = none) (lo : (D == sysModules) = false) (F : Fr h₀ L s.heap m) (N : News h₀ L s.heap news) (hd : s.heap.DictOf (intKind prog w) D kvs) (hlen : kvs.length < 64)
    (h : ∀ B h' tk out ns c, Fr h₀ L h' m → News h₀ L h' ((B, listOf (List.toArray out) c) :: news) → (∀ q ∈ news, q.1 < B) → IntsAre out ns → ns.Perm (kvs.map (·.1)) → ns.Pairwise (· ≤ ·) → Q (.ref B) { s with heap := h', toks := tk }) :
    wpAny (model prog w) A (call (.builtin "sorted") [.ref D]) Q E s := by
  obtain ⟨ep, hat⟩ := hd.dictAt
  refine kdu_sorted (kdl_dict (knd := intKind prog w) (kvs := kvs) (ep := ep) lo) hh F N hat (kdl_size (by omega)) fun B h' tk vs F' N' l1 hl hv => ?_
  have hI : IntsAre vs (kvs.map (·.1)) := by
    refine intsOfGet (by rw [hl, List.length_map]) fun j v hj => ?_
    obtain ⟨k, x, hx, hk⟩ := hv j v hj
    obtain ⟨t, rfl⟩ := Value.isInt_shape hk
    exact ⟨k, t, by rw [List.getElem?_map, hx]; rfl, rfl⟩
  exact sortG F' N' hI (by rw [hl]; omega) (fun q hq => Nat.ne_of_lt (l1 q hq)) fun h2 out ns' c F2 N2 hI2 hp hP => h B h2 tk out ns' c F2 N2 l1 hI2 hp hP
end
end
section
theorem subNil {A : Type} (P : A → Prop) : ∀ p ∈ ([] : List A), P p := fun _ h => nomatch h

theorem pick3 {prog : Program} {w : World} {A : Around} {E : Value → Shared → Prop} {s : Shared} {h₀ : Heap} {L : Addr} {news : List (Addr × Obj)} {value slice : PySem.Expr} {l : Addr} {c : Nat} {t1 t2 t3 u : Tok} {x : Int} {Q : Value → Shared → Prop}
    (N : News h₀ L s.heap news) (hm : (l, listOf #[.int 5 t1, .int 7 t2, .int 11 t3] c) ∈ news) (h : ∀ p t, (p = 5 ∨ p = 7 ∨ p = 11) → Q (.int p t) s)
    (hs : ∀ z : Int, subscripted slice false (.ref l) (.int z u) = operate [.ref l, .int z u] (getItem (.ref l) (.int z u)) := by intro _; with_unfolding_all rfl) :
    wpAny (model prog w) A (subscriptTail value slice (.ref l) (.int (x.fmod 3) u)) Q E s := by
  have h0 := Int.fmod_nonneg_of_pos x (b := 3) (by decide)
  have h1 := Int.fmod_lt_of_pos x (b := 3) (by decide)
  have hc : x.fmod 3 = ((0 : Nat) : Int) ∨ x.fmod 3 = ((1 : Nat) : Int) ∨ x.fmod 3 = ((2 : Nat) : Int) := by omega
  rcases hc with e | e | e <;> rw [e]
  · exact itemG (vs := [.int 5 t1, .int 7 t2, .int 11 t3]) N hm rfl (by decide) (h _ _ (.inl rfl)) (hs _)
  · exact itemG (vs := [.int 5 t1, .int 7 t2, .int 11 t3]) N hm rfl (by decide) (h _ _ (.inr (.inl rfl))) (hs _)
  · exact itemG (vs := [.int 5 t1, .int 7 t2, .int 11 t3]) N hm rfl (by decide) (h _ _ (.inr (.inr rfl))) (hs _)
theorem slice3G {prog : Program} {w : World} {A : Around} {E : Value → Shared → Prop} {s : Shared} {h₀ : Heap} {L l : Addr} {m : Str → Option Value} {news : List (Addr × Obj)} {value slice : PySem.Expr} {vs : List Value} {vl vu vk : Value} {lo hi st : Option Int} {ops : List Value} {Q : Value → Shared → Prop}
    (F : Fr h₀ L s.heap m) (N : News h₀ L s.heap news) (hl : s.heap.IsList l vs.toArray) (pl : IsPart vl lo) (pu : IsPart vu hi) (pk : IsPart vk st) (h0 : st ≠ some 0)
    (h : ∀ D h' us, us = (slicePick vs.toArray lo hi st).toList → Fr h₀ L h' m → News h₀ L h' ((D, listOf (List.toArray us) 0) :: news) → (∀ p ∈ news, p.1 < D) → Q (.ref D) { s with heap := h' })
    (hs : subscripted slice false (.ref l) (.ref s.heap.objs.size) = operate ops (getItem (.ref l) (.ref s.heap.objs.size))) (ht : ∀ r, letTemporaryGo value (.ref l) r = pure ()) (hz : vs.toArray.size ≤ sizeLine) :
    wpAny (model prog w) A (subscriptTail value slice (.ref l) (.ref s.heap.objs.size)) Q E { s with heap := s.heap.push { cls := .type "slice", data := .fields #[vl, vu, vk] } } := by
  refine slice_list3 F N hl pl pu pk h0 (fun h' F' N' => h _ h' _ rfl F' ?_ fun p hp => Nat.lt_succ_of_lt (Heap.lt_size (N p hp).1)) hs ht hz
  have e : (List.toArray (slicePick vs.toArray lo hi st).toList) = slicePick vs.toArray lo hi st := by simp
  rw [e]; exact N'
theorem filterMapInts {vs : List Value} {ns : List Int} (hI : IntsAre vs ns) : ∀ (js : List Nat), ∃ ms, IntsAre (js.filterMap (vs.toArray[·]?)) ms ∧ (∀ x ∈ ms, x ∈ ns) ∧ ms.length ≤ js.length
  | [] => ⟨[], .nil, (fun _ h => nomatch h), Nat.le_refl _⟩
  | j :: js => by
    obtain ⟨ms, h1, h2, h3⟩ := filterMapInts hI js
    cases e : vs[j]? with
    | none => exact ⟨ms, by simpa [List.filterMap_cons, e] using h1, h2, by simp; omega⟩
    | some v =>
      obtain ⟨d, t, hd, rfl⟩ := intsGet hI e
      refine ⟨d :: ms, ?_, fun x hx => ?_, by simp; omega⟩
      · have : (j :: js).filterMap (vs.toArray[·]?) = .int d t :: js.filterMap (vs.toArray[·]?) := by simp [List.filterMap_cons, e]
        rw [this]; exact .cons d t h1
      · rcases List.mem_cons.mp hx with rfl | hx
        · exact List.mem_of_getElem? hd
        · exact h2 x hx
theorem sliceInts {vs us : List Value} {ns : List Int} {lo hi st : Option Int} (hI : IntsAre vs ns) (e : us = (slicePick vs.toArray lo hi st).toList) : ∃ ms, IntsAre us ms ∧ (∀ x ∈ ms, x ∈ ns) ∧ ms.length ≤ ns.length := by
  obtain ⟨ms, h1, h2, _⟩ := filterMapInts hI (sliceRange (sliceBounds lo hi st vs.toArray.size).1 (sliceBounds lo hi st vs.toArray.size).2.1 (sliceBounds lo hi st vs.toArray.size).2.2)
  have h3 : IntsAre us ms := by rw [e]; unfold slicePick; simpa using h1
  refine ⟨ms, h3, h2, ?_⟩
  have := slicePick_size_le vs.toArray lo hi st
  rw [← h3.length, ← hI.length, e]
  simpa using this
theorem intsFun : ∀ {vs : List Value} {a b : List Int}, IntsAre vs a → IntsAre vs b → a = b
  | _, _, _, .nil, .nil => rfl
  | _, _, _, .cons n t h, .cons _ _ h' => by rw [intsFun h h']
theorem off3Mid {I C D : Addr} {xs ys : List (Addr × Obj)} (off : LCg.Off3 I C D xs) (h : ∀ p ∈ ys, p ∈ xs ∨ ((@Ne Nat I p.1) ∧ (@Ne Nat C p.1) ∧ (@Ne Nat D p.1))) : LCg.Off3 I C D ys :=
  LCg.Off3.of fun p hp => (h p hp).elim (fun h => LCg.Off3.mem off p h) fun ⟨a, b, c⟩ => ⟨a.symm, b.symm, c.symm⟩
theorem keysEq {P : Nat} {ms A zs : List Int} {kvs : List (Int × Value)} {n : Nat} (hLA : LotIs P ms A) (hm : ∀ x, x ∈ kvs.map (·.1) ↔ ∃ j, j < n ∧ (ms.map (· % (P : Int)))[j]? = some x) (hn : n = ms.length) (hnd : (kvs.map (·.1)).Nodup) (hp : zs.Perm (kvs.map (·.1))) (hw : zs.Pairwise (· ≤ ·)) : A = zs := by
  refine srtUniq hLA.1 (srtOf hw (hp.nodup_iff.mpr hnd)) fun x => ?_
  rw [hLA.2, hp.mem_iff, hm]
  constructor
  · rintro ⟨k, hk, e⟩
    obtain ⟨j, hj, ej⟩ := List.getElem_of_mem hk
    exact ⟨j, by omega, by rw [List.getElem?_map, List.getElem?_eq_getElem hj, ej, ← e]; rfl⟩
  · rintro ⟨j, hj, e⟩
    rw [List.getElem?_map, List.getElem?_eq_getElem (by omega)] at e
    exact ⟨_, List.getElem_mem _, Option.some.inj e⟩
inductive Stop : Prop
  | mk
inductive StopC : Prop
  | mk
inductive StopB : Prop
  | mk
structure Ap (a b : Addr) : Prop where
  ne : a ≠ b
theorem boolMid {prog : Program} {w : World} {A : Around} {E : Value → Shared → Prop} {s : Shared} {h₀ : Heap} {L : Addr} {m : Str → Option Value} {news : List (Addr × Obj)} {t : Sem Bool} {Q : Bool → Shared → Prop} (b : Bool) (F₀ : Fr h₀ L s.heap m) (N₀ : News h₀ L s.heap news)
    (h : wpAny (model prog w) A t (fun r s' => r = b ∧ ∃ h' tk', s' = { s with heap := h', toks := tk' } ∧ Fr h₀ L h' m ∧ News h₀ L h' news) E s) (k : ∀ h' tk', Fr h₀ L h' m → News h₀ L h' news → Q b { s with heap := h', toks := tk' }) : wpAny (model prog w) A t Q E s :=
  wpAny_mono h (fun r s' ⟨e, h', tk', e2, F, N⟩ => by subst e e2; exact k h' tk' F N) fun _ _ x => x
theorem sumsNil {P : Int} {A B S : List Int} (h : A = [] ∨ B = []) (hS : LotIs P (sumsOf A B) S) : S = [] := by
  cases S with
  | nil => rfl
  | cons x r =>
    obtain ⟨n, hn, _⟩ := (hS.2 x).mp (.head _)
    obtain ⟨a, ha, b, hb, _⟩ := sumsMem.mp hn
    rcases h with rfl | rfl
    · exact nomatch ha
    · exact nomatch hb
theorem sumLot {P : Nat} (hP : Pr P) {A B S : List Int} (hS : LotIs P (sumsOf A B) S) : ∀ x, x ∈ S ↔ ∃ a ∈ A, ∃ b ∈ B, (a + b) % (P : Int) = x := fun x => by
  rw [hS.2]
  constructor
  · rintro ⟨n, hn, e⟩
    obtain ⟨a, ha, b, hb, rfl⟩ := sumsMem.mp hn
    exact ⟨a, ha, b, hb, e⟩
  · rintro ⟨a, ha, b, hb, e⟩
    exact ⟨_, sumsMem.mpr ⟨a, ha, b, hb, rfl⟩, e⟩
/-- the ones of the inner comprehension: a turns of the outer loop, b of the inner one with av -/
def OnesJ (P : Nat) (A B : List Int) (z : Nat) (a : Nat) (av : Int) (b : Nat) (ys : List Value) : Prop :=
  (∃ zs, IntsAre ys zs) ∧ a ≤ A.length ∧ b ≤ B.length ∧ ys.length ≤ a * B.length + b ∧ (ys ≠ [] ↔ (∃ x ∈ A.take a, ∃ y ∈ B, (x + y) % (P : Int) = z) ∨ (∃ y ∈ B.take b, (av + y) % (P : Int) = z))
theorem onesNil {P : Nat} {A B : List Int} {z : Nat} : OnesJ P A B z 0 0 0 [] := ⟨⟨[], .nil⟩, by simp, by simp, by simp, by simp⟩
theorem onesLen {P : Nat} {A B : List Int} {z a b : Nat} {av : Int} {ys : List Value} (hA : A.length ≤ P) (hB : B.length ≤ P) (h : OnesJ P A B z a av b ys) (hP : P ≤ 11) : ys.length ≤ sizeLine := by
  obtain ⟨_, h1, h2, h3, _⟩ := h
  have : a * B.length ≤ 11 * 11 := Nat.mul_le_mul (by omega) (by omega)
  rw [sizeLine_eq]; omega
theorem onesIn {P : Nat} {A B : List Int} {z a : Nat} {av : Int} {ys : List Value} (h : OnesJ P A B z a 0 0 ys) : OnesJ P A B z a av 0 ys := ⟨h.1, h.2.1, h.2.2.1, h.2.2.2.1, by simpa using h.2.2.2.2⟩
theorem onesOut {P : Nat} {A B : List Int} {z a : Nat} {av : Int} {ys : List Value} (hav : A[a]? = some av) (h : OnesJ P A B z a av B.length ys) : OnesJ P A B z (a + 1) 0 0 ys := by
  refine ⟨h.1, (List.getElem?_eq_some_iff.mp hav).1, Nat.zero_le _, by have := h.2.2.2.1; rw [Nat.succ_mul]; omega, ?_⟩
  rw [h.2.2.2.2, take_snoc hav, List.take_length, List.take_zero]
  constructor
  · rintro (⟨x, hx, y, hy, e⟩ | ⟨y, hy, e⟩)
    · exact .inl ⟨x, by simp [hx], y, hy, e⟩
    · exact .inl ⟨av, by simp, y, hy, e⟩
  · rintro (⟨x, hx, y, hy, e⟩ | ⟨y, hy, e⟩)
    · rcases List.mem_append.mp hx with hx | hx
      · exact .inl ⟨x, hx, y, hy, e⟩
      · rw [List.mem_singleton.mp hx] at e
        exact .inr ⟨y, hy, e⟩
    · exact nomatch hy
theorem onesPut {P : Nat} {A B : List Int} {z a b : Nat} {av bv : Int} {t : Tok} {ys : List Value} (hbv : B[b]? = some bv) (h : OnesJ P A B z a av b ys) (e : (av + bv) % (P : Int) = z) : OnesJ P A B z a av (b + 1) (ys ++ [.int 1 t]) := by
  obtain ⟨⟨zs, hz⟩, h1, _, h2, h3⟩ := h
  refine ⟨⟨_, intsPush hz⟩, h1, (List.getElem?_eq_some_iff.mp hbv).1, by rw [List.length_append]; simp; omega, ?_⟩
  constructor
  · intro _
    exact .inr ⟨bv, by rw [take_snoc hbv]; simp, e⟩
  · intro _
    simp
theorem onesSkip {P : Nat} {A B : List Int} {z a b : Nat} {av bv : Int} {ys : List Value} (hbv : B[b]? = some bv) (h : OnesJ P A B z a av b ys) (e : (av + bv) % (P : Int) ≠ z) : OnesJ P A B z a av (b + 1) ys := by
  refine ⟨h.1, h.2.1, (List.getElem?_eq_some_iff.mp hbv).1, by have := h.2.2.2.1; omega, ?_⟩
  rw [h.2.2.2.2, take_snoc hbv]
  constructor
  · rintro (h | ⟨y, hy, e⟩)
    · exact .inl h
    · exact .inr ⟨y, by simp [hy], e⟩
  · rintro (h | ⟨y, hy, e'⟩)
    · exact .inl h
    · rcases List.mem_append.mp hy with hy | hy
      · exact .inr ⟨y, hy, e'⟩
      · rw [List.mem_singleton.mp hy] at e'
        exact absurd e' e
theorem onesEnd {P : Nat} (hP : Pr P) {A B S : List Int} {z : Nat} {ys : List Value} {zs : List Int} (hz : IntsAre ys zs) (hS : LotIs P (sumsOf A B) S) (h : OnesJ P A B z A.length 0 0 ys) : (!decide (zs = [])) = decide ((z : Int) ∈ S) := by
  have h3 := h.2.2.2.2
  rw [List.take_length, List.take_zero] at h3
  have h4 : zs = [] ↔ ys = [] := by
    have := hz.length
    constructor
    · rintro rfl; exact List.eq_nil_of_length_eq_zero (by simpa using this)
    · rintro rfl; exact List.eq_nil_of_length_eq_zero (by simpa using this.symm)
  rw [Bool.eq_iff_iff, Bool.not_eq_true', decide_eq_false_iff_not, decide_eq_true_eq, h4, sumLot hP hS]
  constructor
  · intro hn
    rcases h3.mp hn with h | ⟨_, hy, _⟩
    · exact h
    · exact nomatch hy
  · exact fun h => h3.mpr (.inl h)
theorem stepB {P : Nat} (hP : Pr P) {x stp : Int} (h : 1 + x.fmod ((P : Int) - 1) = stp) : 1 ≤ stp ∧ stp < P := by
  have h0 : (0 : Int) < (P : Int) - 1 := by rcases hP with rfl | rfl | rfl <;> decide
  have h1 := Int.fmod_nonneg_of_pos x h0
  have h2 := Int.fmod_lt_of_pos x h0
  omega
theorem getB {A : List Int} {P : Int} (hb : ∀ a ∈ A, 0 ≤ a ∧ a < P) (h : 1 ≤ A.length) {b : Int} (e : A.getD (Int.toNat 0) 0 = b) : 0 ≤ b ∧ b < P := by
  have : A.getD (Int.toNat 0) 0 = A[0] := by simp [List.getD_eq_getElem?_getD, show 0 < A.length by omega]
  rw [this] at e
  exact e ▸ hb _ (List.getElem_mem _)
/-- the numbers from b on by s -/
def apL (b s : Int) (n : Nat) : List Int := (List.range n).map fun k : Nat => b + k * s
theorem apLSucc (b s : Int) (n : Nat) : apL b s (n + 1) = apL b s n ++ [b + n * s] := by unfold apL; rw [List.range_succ, List.map_append]; rfl
theorem apLLen (b s : Int) (n : Nat) : (apL b s n).length = n := by simp [apL]
theorem apLot {P : Nat} {b s : Int} {n : Nat} {R : List Int} (h : LotIs P (apL b s n) R) : ∀ x, x ∈ R ↔ ∃ k : Nat, k < n ∧ (b + k * s) % (P : Int) = x := fun x => by
  rw [h.2]
  unfold apL
  constructor
  · rintro ⟨y, hy, e⟩
    obtain ⟨k, hk, rfl⟩ := List.mem_map.mp hy
    exact ⟨k, List.mem_range.mp hk, e⟩
  · rintro ⟨k, hk, e⟩
    exact ⟨_, List.mem_map.mpr ⟨k, List.mem_range.mpr hk, rfl⟩, e⟩
theorem apBits {P : Nat} (hP : Pr P) {b s : Int} {n : Nat} (hb : 0 ≤ b ∧ b < P) (hs : 1 ≤ s ∧ s < P) (hn : n ≤ P) : ∀ x ∈ apL b s n, Builtin.Int.intBits x ≤ 2 ^ 21 := fun x hx => by
  obtain ⟨k, hk, rfl⟩ := List.mem_map.mp hx
  have hk' := List.mem_range.mp hk
  have hP11 : P ≤ 11 := by rcases hP with rfl | rfl | rfl <;> decide
  have h1 : (k : Int) * s ≤ 11 * 11 := Int.mul_le_mul (by omega) (by omega) (by omega) (by omega)
  have h2 : 0 ≤ (k : Int) * s := Int.mul_nonneg (by omega) (by omega)
  exact bits_small (by omega) (by omega)
structure Box (p : Prop) : Prop where
  out : p
theorem lotPP {P : Nat} {A R : List Int} {stp : Int} (h : LotIs P (A.map (· + stp)) R) : ∀ x, x ∈ R ↔ ∃ a ∈ A, (a + stp) % (P : Int) = x := fun x => by
  rw [h.2]
  constructor
  · rintro ⟨y, hy, e⟩
    obtain ⟨a, ha, rfl⟩ := List.mem_map.mp hy
    exact ⟨a, ha, e⟩
  · rintro ⟨a, ha, e⟩
    exact ⟨_, List.mem_map.mpr ⟨a, ha, rfl⟩, e⟩
theorem moveSums {P : Nat} (hP : Pr P) {A B S M T : List Int} {stp : Int} (hS : LotIs P (sumsOf A B) S) (hM : LotIs P (A.map (· + stp)) M) (hT : LotIs P (sumsOf M B) T) : T.length = S.length := by
  have hp0 : (0 : Int) < P := by rcases hP with rfl | rfl | rfl <;> omega
  refine movedLen hP hS.1 hT.1 (lotB hS hp0) (c := stp) fun x => ?_
  rw [sumLot hP hT]
  constructor
  · rintro ⟨m, hm, b, hb, e⟩
    obtain ⟨a, ha, rfl⟩ := (lotPP hM m).mp hm
    refine ⟨_, (sumLot hP hS _).mpr ⟨a, ha, b, hb, rfl⟩, ?_⟩
    rw [← e, Int.emod_add_emod, Int.emod_add_emod, Int.add_right_comm]
  · rintro ⟨y, hy, e⟩
    obtain ⟨a, ha, b, hb, rfl⟩ := (sumLot hP hS y).mp hy
    refine ⟨_, (lotPP hM _).mpr ⟨a, ha, rfl⟩, b, hb, ?_⟩
    rw [← e, Int.emod_add_emod, Int.emod_add_emod, Int.add_right_comm]
theorem sumsComm {P : Nat} (hP : Pr P) {A B S T : List Int} (hS : LotIs P (sumsOf A B) S) (hT : LotIs P (sumsOf B A) T) : T = S := by
  refine srtUniq hT.1 hS.1 fun x => ?_
  rw [sumLot hP hT, sumLot hP hS]
  constructor
  · rintro ⟨b, hb, a, ha, e⟩
    exact ⟨a, ha, b, hb, by rw [Int.add_comm]; exact e⟩
  · rintro ⟨a, ha, b, hb, e⟩
    exact ⟨b, hb, a, ha, by rw [Int.add_comm]; exact e⟩
theorem sumsOne {P : Nat} (hP : Pr P) {A M T : List Int} {stp : Int} (hM : LotIs P (A.map (· + stp)) M) (hT : LotIs P (sumsOf [stp] A) T) : T = M := by
  refine srtUniq hT.1 hM.1 fun x => ?_
  rw [sumLot hP hT, lotPP hM]
  constructor
  · rintro ⟨b, hb, a, ha, e⟩
    rw [List.mem_singleton.mp hb] at e
    exact ⟨a, ha, by rw [Int.add_comm]; exact e⟩
  · rintro ⟨a, ha, e⟩
    exact ⟨stp, .head _, a, ha, by rw [Int.add_comm]; exact e⟩
theorem isL {h₀ h : Heap} {L : Addr} {news : List (Addr × Obj)} (N : News h₀ L h news) (l : Addr) (vs : List Value) (e : Nat) (hm : (l, listOf vs.toArray e) ∈ news) : h.IsList l vs.toArray := ⟨_, (N _ hm).1, rfl, e, rfl⟩
theorem cdLot {P : Nat} (hP : Pr P) {xs ys A B S : List Int} (hA : LotIs P xs A) (hB : LotIs P ys B) (hS : LotIs P (sumsOf A B) S) (nA : A ≠ []) (nB : B ≠ []) : min P (A.length + B.length - 1) ≤ S.length ∧ S.length ≤ P ∧ 1 ≤ A.length ∧ 1 ≤ B.length ∧ A.length ≤ P ∧ B.length ≤ P := by
  have hp0 : (0 : Int) < P := by rcases hP with rfl | rfl | rfl <;> omega
  exact ⟨cauchyDavenport hP hA.1 hB.1 hS.1 (lotB hA hp0) (lotB hB hp0) (lotB hS hp0) nA nB fun a ha b hb => (sumLot hP hS _).mpr ⟨a, ha, b, hb, rfl⟩, lenLe hS.1 (lotB hS hp0), List.length_pos_iff.mpr nA, List.length_pos_iff.mpr nB, lenLe hA.1 (lotB hA hp0), lenLe hB.1 (lotB hB hp0)⟩
theorem min2G {prog : Program} {w : World} {A : Around} {E : Value → Shared → Prop} {s : Shared} {h₀ : Heap} {L : Addr} {m : Str → Option Value} {news : List (Addr × Obj)} {a b : Int} {t u : Tok} {Q : Value → Shared → Prop} (hh : A.handled = none) (F : Fr h₀ L s.heap m) (N : News h₀ L s.heap news)
    (h : ∀ h' tk v t', v = min a b → Fr h₀ L h' m → News h₀ L h' news → Q (.int v t') { s with heap := h', toks := tk }) :
    wpAny (model prog w) A (call (.builtin "min") [.int a t, .int b u]) Q E s :=
  min_two_N hh F N fun h' tk F' N' => h h' tk _ _ (by split <;> omega) F' N'
theorem minEnd {P a b r4 r5 s6 : Nat} {v : Int} (ha : a ≤ P) (hb : b ≤ P) (h1 : 1 ≤ a) (h2 : 1 ≤ b) (hv : v = min (P : Int) ((r4 : Int) + r5 - 1)) (h4 : r4 = min P a) (h5 : r5 = min P b) (h6 : s6 = min P (a + b - 1)) : (s6 : Int) = v := by
  rw [Nat.min_eq_right ha] at h4
  rw [Nat.min_eq_right hb] at h5
  subst h4 h5 h6 hv
  omega
section
variable {h₀ : Heap} {L : Addr} {m : Str → Option Value} {s : Shared} {rest : List (Addr × Obj)} {Q : Value → Shared → Prop}
theorem lotPost {l : Addr} {vs : List Value} {e : Nat} {pr : Int} {ns : List Int}
    (k : ∀ lo ws rs e' T2' T3' h' tk', Fr h₀ L h' m → News h₀ L h' (((lo, listOf ws.toArray e') :: (l, listOf vs.toArray e) :: (T2' ++ T3')) ++ rest) → Off ((lo, listOf ws.toArray e') :: (l, listOf vs.toArray e) :: (T2' ++ T3')) rest → Tab 30 32 4 qI2 T2' → Tab 37 47 4 qI3 T3' → Off T2' T3' → IntsAre ws rs → LotIs pr ns rs → rs.length ≤ ns.length → Q (.ref lo) { s with heap := h', toks := tk' }) :
    ∀ (r : Value) (hd' : List (Addr × Obj)) (h' : Heap) (tk' : Nat), Fr h₀ L h' m → News h₀ L h' (hd' ++ rest) → Off hd' rest → (∃ lo ws rs e' T2' T3', r = .ref lo ∧ hd' = (lo, listOf ws.toArray e') :: (l, listOf vs.toArray e) :: (T2' ++ T3') ∧ Tab 30 32 4 qI2 T2' ∧ Tab 37 47 4 qI3 T3' ∧ Off T2' T3' ∧ IntsAre ws rs ∧ LotIs pr ns rs ∧ rs.length ≤ ns.length) → Q r { s with heap := h', toks := tk' } := by
  rintro r hd' h' tk' F N D ⟨lo, ws, rs, e', T2', T3', rfl, rfl, h1, h2, h3, h4, h5, h6⟩
  exact k lo ws rs e' T2' T3' h' tk' F N D h1 h2 h3 h4 h5 h6
theorem sumsPost {l1 l2 : Addr} {us vs : List Value} {e1 e2 : Nat} {pr : Int} {ns : List Int}
    (k : ∀ lo ws rs e' T2' T3' h' tk', Fr h₀ L h' m → News h₀ L h' (((lo, listOf ws.toArray e') :: (l1, listOf us.toArray e1) :: (l2, listOf vs.toArray e2) :: (T2' ++ T3')) ++ rest) → Off ((lo, listOf ws.toArray e') :: (l1, listOf us.toArray e1) :: (l2, listOf vs.toArray e2) :: (T2' ++ T3')) rest → Tab 30 32 4 qI2 T2' → Tab 37 47 4 qI3 T3' → Off T2' T3' → IntsAre ws rs → LotIs pr ns rs → lo ≠ l1 → lo ≠ l2 → Q (.ref lo) { s with heap := h', toks := tk' }) :
    ∀ (r : Value) (hd' : List (Addr × Obj)) (h' : Heap) (tk' : Nat), Fr h₀ L h' m → News h₀ L h' (hd' ++ rest) → Off hd' rest → (∃ lo ws rs e' T2' T3', r = .ref lo ∧ hd' = (lo, listOf ws.toArray e') :: (l1, listOf us.toArray e1) :: (l2, listOf vs.toArray e2) :: (T2' ++ T3') ∧ Tab 30 32 4 qI2 T2' ∧ Tab 37 47 4 qI3 T3' ∧ Off T2' T3' ∧ IntsAre ws rs ∧ LotIs pr ns rs ∧ lo ≠ l1 ∧ lo ≠ l2) → Q r { s with heap := h', toks := tk' } := by
  rintro r hd' h' tk' F N D ⟨lo, ws, rs, e', T2', T3', rfl, rfl, h1, h2, h3, h4, h5, h6, h7⟩
  exact k lo ws rs e' T2' T3' h' tk' F N D h1 h2 h3 h4 h5 h6 h7
end
theorem offMain {h₀ h : Heap} {L : Addr} {led H CC LS T : List (Addr × Obj)} (N : News h₀ L h led) (hH : ∀ p ∈ H, p ∈ led) (hC : ∀ p ∈ CC, p ∈ led) (hL : ∀ p ∈ LS, p ∈ led) (hT : ∀ p ∈ T, p ∈ led)
    (tH : ∀ p ∈ H, tag p.2 = 1) (tC : ∀ p ∈ CC, tag p.2 = 3) (tL : ∀ p ∈ LS, tag p.2 = 1) (tT : ∀ p ∈ T, tag p.2 = 0) (hne : Off H LS) : Off (H ++ T) (CC ++ LS) := by
  refine Off.appL (Off.appR ?_ hne) (Off.appR ?_ ?_)
  · exact offTag N hH hC fun p hp q hq => by rw [tH p hp, tC q hq]; decide
  · exact offTag N hT hC fun p hp q hq => by rw [tT p hp, tC q hq]; decide
  · exact offTag N hT hL fun p hp q hq => by rw [tT p hp, tL q hq]; decide

section
theorem cw : PySem.Challenge.rw_ga0003_02.Holds := hd (by
  k_with_none
  k_with "spliced" => (first | refine args_cons ?_ | refine args_nil ⟨Fr.keep (by assumption) _ _ (by assumption), ?_⟩ | (refine args_nil ?_; try simp only [List.cons_append, List.nil_append]))
  k_with "call ref" => ((refine hold ?_))
  k_with "eval ListComp" => ((refine hold ?_))
  k_with "call type:dict" => ((refine hold ?_))
  k_with "call builtin:sorted" => ((refine hold ?_))
  k_with "call builtin:min" => ((k_here; (with_reducible show wpAny _ _ (call (Value.builtin _) [Value.int _ _, Value.int _ _]) _ _ _); k_dflt (refine min2G (by rfl) (by k_asm) (by k_asm) ?_); intros))
  k_with "exec If" => (((with_reducible rename Stop => s'); clear s'; refine hold ?_))
  k_with "isTrue BoolOp" => (((with_reducible rename StopB => s'); clear s'; refine hold ?_))
  k_with "compareOp Lt int int" => (((with_reducible rename StopC => s'); clear s'; refine hold ?_))
  k_with "compareOp Eq int int" => (((with_reducible rename StopC => s'); clear s'; refine hold ?_))
  k_with "compareOp Gt int int" => (((with_reducible rename StopC => s'); clear s'; refine hold ?_))
  k_with "compareOp NotEq int int" => (((with_reducible rename StopC => s'); clear s'; refine hold ?_))
  k_with "CompSrc" => ((refine hold ?_))
  k_with "Comp2" => ((refine hold ?_))
  k_with "Comp2In" => ((refine hold ?_))
  k_with "Comp1C" => ((refine hold ?_))
  k_with "compareOp Eq ref ref" => ((refine hold ?_))
  k_with "compareOp NotEq ref ref" => ((refine hold ?_))
  k_with "call builtin:len" => ((k_dflt (refine lenG (by k_asm) (by k_mem) (by assumption) (by omega) ?_)))
  k_with "subscriptTail" => ((k_here; (with_reducible show wpAny _ _ (subscriptTail _ _ (Value.ref _) (Value.int (Int.fmod _ _) _)) _ _ _); k_dflt (refine pick3 (by k_asm) (by k_mem) ?_); intros))
  k_with "subscriptTail Name Slice ref ref" => ((k_here; k_dflt (refine slice3G (by k_asm) (by k_asm) (by kmk_list) (by kmk_part) (by kmk_part) (by kmk_part) (by decide) ?_ (by with_unfolding_all rfl) (by kmk_pure) (by kmk_size)); intro _ _ _ _ _ _ l1; (try k_lt l1); revert l1; intro _))
  w_strict (k_go0; (all_goals try k_fold); k_steps; skip)
  unfold Hold
  rename_i ww s0 s1 mg mb GG YY fa oo9 pm cd doc ho hcd hg XX VV TT BB TE TW ns hs0 hlay hLa hra hl2 wA1 wA2 la vs wA3 hLL ra w1 r0 hIA hr1 hc1 hc2 hDD h1 tk1 ob os ou ot oo op0 db ds du dt dd dp0 X0 Xh Th Kh ch1 l0 lm hm1 lm1 hm2 tk2 t2 pr tp hpr hm3 op Fm Nm dp D1 hm4 us1 hus1 F1 N1 l1
  generalize hLL0 : s1.heap.objs.size = LL at *
  obtain ⟨P, rfl⟩ : ∃ P : Nat, pr = (P : Int) := ⟨pr.toNat, by omega⟩
  have hP : Pr P := by unfold Pr; omega
  have hp0 : (0 : Int) < (P : Int) := by omega
  have hp1 : (P : Int) < 1073741824 := by omega
  have hP11 : P ≤ 11 := by omega
  have hP5 : 5 ≤ P := by omega
  clear hpr
  have hbits : ∀ x ∈ ns, Builtin.Int.intBits x ≤ 2 ^ 21 := fun x hx => Nat.le_trans (PyData.bits_item_of_ints hLa hx) (by decide)
  have hnl : ns.length ≤ 63 := by omega
  obtain ⟨ms1, hI1, hsub1, hlen1⟩ := sliceInts hIA hus1
  have hT2 : Tab 30 32 4 qI2 [(30, tabObj #[])] := .inl rfl
  have hT3 : Tab 37 47 4 qI3 [(37, tabObj #[])] := .inl rfl
  have hO : Off [((30 : Addr), tabObj #[])] [((37 : Addr), tabObj #[])] := fun p hp q hq e => by rw [List.mem_singleton.mp hp, List.mem_singleton.mp hq] at e; exact absurd e (by decide)
  have htC : ∀ p ∈ [(LL + 1 + 1 + 1 + 1 + 1 + 1, ob), (LL + 1 + 1 + 1 + 1 + 1, os), (LL + 1 + 1 + 1 + 1, ou), (LL + 1 + 1 + 1, ot), (LL + 1 + 1, oo), (LL + 1, op)], tag p.2 = 3 := by intro p hp; simp at hp; rcases hp with rfl | rfl | rfl | rfl | rfl | rfl <;> first | exact tag_cell db | exact tag_cell ds | exact tag_cell du | exact tag_cell dt | exact tag_cell dd | exact tag_cell dp
  have N2 := newsSub (xs := (LL + 1 + 1 + 1 + 1 + 1 + 1, ob) :: (LL + 1 + 1 + 1 + 1 + 1, os) :: (LL + 1 + 1 + 1 + 1, ou) :: (LL + 1 + 1 + 1, ot) :: (LL + 1 + 1, oo) :: (LL + 1, op) :: (D1, listOf us1.toArray 0) :: ([(30, tabObj #[])] ++ [(37, tabObj #[])])) N1 (ixSub [2, 3, 4, 5, 6, 7, 0, 9, 8] rfl)
  clear N1 Fm Nm
  k_dflt (refine' lot_ctr D1 us1 ms1 0 P _ [(30, tabObj #[])] [(37, tabObj #[])] hT2 hT3 hO hp0 hp1 hI1 (fun x hx => hbits x (hsub1 x hx)) (by omega) _ _ _ _ _ _ _ _ _ _ _ _ _ _ _ ([(LL + 1 + 1 + 1 + 1 + 1 + 1, ob), (LL + 1 + 1 + 1 + 1 + 1, os), (LL + 1 + 1 + 1 + 1, ou), (LL + 1 + 1 + 1, ot), (LL + 1 + 1, oo), (LL + 1, op)] ++ []) _ _ ?q24xk1 ?q24xk2 ?q24xk3 ?q24xk4 ?q24xk5 ?q24xk6 ?q24xk7 ?q24xk8 ?q24xk9 ?q24xk10 ?q24xk11 ?q24xkR)
  case q24xk1 => k_asm
  case q24xk2 => assumption
  case q24xk3 => assumption
  case q24xk4 => k_asm
  case q24xk5 => k_asm
  case q24xk6 => exact newsSub N2 (ixSub [6, 7, 8, 0, 1, 2, 3, 4, 5] rfl)
  case q24xk7 => exact offMain (H := [(D1, listOf us1.toArray 0)]) (CC := [(LL + 1 + 1 + 1 + 1 + 1 + 1, ob), (LL + 1 + 1 + 1 + 1 + 1, os), (LL + 1 + 1 + 1 + 1, ou), (LL + 1 + 1 + 1, ot), (LL + 1 + 1, oo), (LL + 1, op)]) (LS := []) (T := ([(30, tabObj #[])] ++ [(37, tabObj #[])])) N2 (ixSub [6] rfl) (ixSub [0, 1, 2, 3, 4, 5] rfl) (fun _ h => nomatch h) (ixSub [7, 8] rfl) (by first | ((repeat (first | (refine List.forall_mem_cons.mpr (And.intro ?_ ?_); (focus (rfl; done))) | with_reducible exact subNil _)); done) | (intro p hp; simp at hp; rcases hp with rfl <;> rfl)) htC (fun _ h => nomatch h) (tabs0 hT2 hT3) (fun _ _ _ h => nomatch h)
  case q24xk8 => k_asm
  case q24xk9 => first | exact rfl | assumption
  case q24xk10 => ktr_room
  case q24xk11 => ktr_units
  refine lotPost ?_
  intro lo1 ws1 A e1 T2a T3a h' tk' F' N' D' hT2a hT3a hT2aO hIA1 hLA hlA
  dsimp only
  have N3 := newsSub (xs := (LL + 1 + 1 + 1 + 1 + 1 + 1, ob) :: (LL + 1 + 1 + 1 + 1 + 1, os) :: (LL + 1 + 1 + 1 + 1, ou) :: (LL + 1 + 1 + 1, ot) :: (LL + 1 + 1, oo) :: (LL + 1, op) :: (lo1, listOf ws1.toArray e1) :: (T2a ++ T3a)) N' (by first | ((try simp only [List.cons_append, List.nil_append, List.append_assoc]); (repeat (first | (refine List.forall_mem_cons.mpr (And.intro ?_ ?_); (focus ((repeat (first | with_reducible exact List.mem_cons_self | with_reducible apply List.mem_cons_of_mem | with_reducible apply List.mem_append_right)); done))) | with_reducible exact subNil _ | with_reducible refine List.forall_mem_append.mpr (And.intro ?_ ?_) | (focus (intro p hp; (repeat (first | with_reducible exact hp | with_reducible exact List.mem_append_left _ hp | with_reducible apply List.mem_cons_of_mem | with_reducible apply List.mem_append_right)); done)))); done) | (intro p hp; simp at hp ⊢; rcases hp with h9 | h9 | h9 | h9 | h9 | h9 | h9 | h9 | h9 <;> simp [h9]))
  clear N2 N'
  k_steps
  unfold Hold
  rename_i D2 hm5 us2 hus2 FA2 NA2 lA2
  obtain ⟨ms2, hI2, hsub2, hlen2⟩ := sliceInts hIA hus2
  have n_lo1_D2 : Ap lo1 D2 := ⟨Nat.ne_of_lt lA2.2.2.2.2.2.2.1⟩
  have N4 := newsSub (xs := (LL + 1 + 1 + 1 + 1 + 1 + 1, ob) :: (LL + 1 + 1 + 1 + 1 + 1, os) :: (LL + 1 + 1 + 1 + 1, ou) :: (LL + 1 + 1 + 1, ot) :: (LL + 1 + 1, oo) :: (LL + 1, op) :: (D2, listOf us2.toArray 0) :: (lo1, listOf ws1.toArray e1) :: (T2a ++ T3a)) NA2 (ixSubT 8 [1, 2, 3, 4, 5, 6, 0, 7] rfl)
  clear N3 NA2 F1 F'
  k_dflt (refine' lot_ctr D2 us2 ms2 0 P _ T2a T3a hT2a hT3a hT2aO hp0 hp1 hI2 (fun x hx => hbits x (hsub2 x hx)) (by omega) _ _ _ _ _ _ _ _ _ _ _ _ _ _ _ ([(LL + 1 + 1 + 1 + 1 + 1 + 1, ob), (LL + 1 + 1 + 1 + 1 + 1, os), (LL + 1 + 1 + 1 + 1, ou), (LL + 1 + 1 + 1, ot), (LL + 1 + 1, oo), (LL + 1, op)] ++ [(lo1, listOf ws1.toArray e1)]) _ _ ?q25xk1 ?q25xk2 ?q25xk3 ?q25xk4 ?q25xk5 ?q25xk6 ?q25xk7 ?q25xk8 ?q25xk9 ?q25xk10 ?q25xk11 ?q25xkR)
  case q25xk1 => k_asm
  case q25xk2 => assumption
  case q25xk3 => assumption
  case q25xk4 => k_asm
  case q25xk5 => k_asm
  case q25xk6 => exact newsSub N4 (by first | ((try simp only [List.cons_append, List.nil_append, List.append_assoc]); (repeat (first | (refine List.forall_mem_cons.mpr (And.intro ?_ ?_); (focus ((repeat (first | with_reducible exact List.mem_cons_self | with_reducible apply List.mem_cons_of_mem | with_reducible apply List.mem_append_right)); done))) | with_reducible exact subNil _ | with_reducible refine List.forall_mem_append.mpr (And.intro ?_ ?_) | (focus (intro p hp; (repeat (first | with_reducible exact hp | with_reducible exact List.mem_append_left _ hp | with_reducible apply List.mem_cons_of_mem | with_reducible apply List.mem_append_right)); done)))); done) | (intro p hp; simp at hp ⊢; rcases hp with h9 | h9 | h9 | h9 | h9 | h9 | h9 | h9 | h9 | h9 <;> simp [h9]))
  case q25xk7 => exact offMain (H := [(D2, listOf us2.toArray 0)]) (CC := [(LL + 1 + 1 + 1 + 1 + 1 + 1, ob), (LL + 1 + 1 + 1 + 1 + 1, os), (LL + 1 + 1 + 1 + 1, ou), (LL + 1 + 1 + 1, ot), (LL + 1 + 1, oo), (LL + 1, op)]) (LS := [(lo1, listOf ws1.toArray e1)]) (T := (T2a ++ T3a)) N4 (ixSub [6] rfl) (ixSub [0, 1, 2, 3, 4, 5] rfl) (ixSub [7] rfl) (ixSubT 8 [] rfl) (by first | ((repeat (first | (refine List.forall_mem_cons.mpr (And.intro ?_ ?_); (focus (rfl; done))) | with_reducible exact subNil _)); done) | (intro p hp; simp at hp; rcases hp with rfl <;> rfl)) htC (by first | ((repeat (first | (refine List.forall_mem_cons.mpr (And.intro ?_ ?_); (focus (rfl; done))) | with_reducible exact subNil _)); done) | (intro p hp; simp at hp; rcases hp with rfl <;> rfl)) (tabs0 hT2a hT3a) (Off.cons (List.forall_mem_cons.mpr ⟨n_lo1_D2.ne, (fun _ h => nomatch h)⟩) (offNil _))
  case q25xk8 => k_asm
  case q25xk9 => first | exact rfl | assumption
  case q25xk10 => ktr_room
  case q25xk11 => ktr_units
  refine lotPost ?_
  intro lo2 ws2 B e2 T2b T3b h' tk' F' N' D' hT2b hT3b hT2bO hIB hLB hlB
  dsimp only
  have n_lo2_lo1 : Ap lo2 lo1 := ⟨D' (lo2, listOf ws2.toArray e2) (ixMem 0 rfl) (lo1, listOf ws1.toArray e1) (ixMem 6 rfl)⟩
  have N5 := newsSub (xs := (LL + 1 + 1 + 1 + 1 + 1 + 1, ob) :: (LL + 1 + 1 + 1 + 1 + 1, os) :: (LL + 1 + 1 + 1 + 1, ou) :: (LL + 1 + 1 + 1, ot) :: (LL + 1 + 1, oo) :: (LL + 1, op) :: (lo2, listOf ws2.toArray e2) :: (lo1, listOf ws1.toArray e1) :: (T2b ++ T3b)) N' (by first | ((try simp only [List.cons_append, List.nil_append, List.append_assoc]); (repeat (first | (refine List.forall_mem_cons.mpr (And.intro ?_ ?_); (focus ((repeat (first | with_reducible exact List.mem_cons_self | with_reducible apply List.mem_cons_of_mem | with_reducible apply List.mem_append_right)); done))) | with_reducible exact subNil _ | with_reducible refine List.forall_mem_append.mpr (And.intro ?_ ?_) | (focus (intro p hp; (repeat (first | with_reducible exact hp | with_reducible exact List.mem_append_left _ hp | with_reducible apply List.mem_cons_of_mem | with_reducible apply List.mem_append_right)); done)))); done) | (intro p hp; simp at hp ⊢; rcases hp with h9 | h9 | h9 | h9 | h9 | h9 | h9 | h9 | h9 | h9 <;> simp [h9]))
  have x_one_lo2 : @Ne Nat lo2 (LL + 1 + 1) := tagNe N5 (p := (lo2, listOf ws2.toArray e2)) (q := (LL + 1 + 1, oo)) (ixMem 6 rfl) (ixMem 4 rfl) (by rw [tag_cell (o := oo) dd]; exact (show (1 : Nat) ≠ 3 by decide))
  have x_one_lo1 : @Ne Nat lo1 (LL + 1 + 1) := tagNe N5 (p := (lo1, listOf ws1.toArray e1)) (q := (LL + 1 + 1, oo)) (ixMem 7 rfl) (ixMem 4 rfl) (by rw [tag_cell (o := oo) dd]; exact (show (1 : Nat) ≠ 3 by decide))
  have x_one_T2b : ∀ p ∈ T2b, p.1 ≠ LL + 1 + 1 := fun p hp => tagNe N5 (q := (LL + 1 + 1, oo)) (by simp [hp]) (ixMem 4 rfl) (by rw [hT2b.tags p hp, tag_cell (o := oo) dd]; decide)
  have x_one_T3b : ∀ p ∈ T3b, p.1 ≠ LL + 1 + 1 := fun p hp => tagNe N5 (q := (LL + 1 + 1, oo)) (by simp [hp]) (ixMem 4 rfl) (by rw [hT3b.tags p hp, tag_cell (o := oo) dd]; decide)
  have x_other_lo2 : @Ne Nat lo2 (LL + 1 + 1 + 1) := tagNe N5 (p := (lo2, listOf ws2.toArray e2)) (q := (LL + 1 + 1 + 1, ot)) (ixMem 6 rfl) (ixMem 3 rfl) (by rw [tag_cell (o := ot) dt]; exact (show (1 : Nat) ≠ 3 by decide))
  have x_other_lo1 : @Ne Nat lo1 (LL + 1 + 1 + 1) := tagNe N5 (p := (lo1, listOf ws1.toArray e1)) (q := (LL + 1 + 1 + 1, ot)) (ixMem 7 rfl) (ixMem 3 rfl) (by rw [tag_cell (o := ot) dt]; exact (show (1 : Nat) ≠ 3 by decide))
  have x_other_T2b : ∀ p ∈ T2b, p.1 ≠ LL + 1 + 1 + 1 := fun p hp => tagNe N5 (q := (LL + 1 + 1 + 1, ot)) (by simp [hp]) (ixMem 3 rfl) (by rw [hT2b.tags p hp, tag_cell (o := ot) dt]; decide)
  have x_other_T3b : ∀ p ∈ T3b, p.1 ≠ LL + 1 + 1 + 1 := fun p hp => tagNe N5 (q := (LL + 1 + 1 + 1, ot)) (by simp [hp]) (ixMem 3 rfl) (by rw [hT3b.tags p hp, tag_cell (o := ot) dt]; decide)
  clear N4 N' D' FA2
  (try clear lm1); (try clear l1); (try clear lA2)
  k_steps
  unfold Hold
  rename_i Dt hq1 lq1 hq2 hq3 oo2 dd2 hq4 ot2 FB NB dt2
  (try clear lq1)
  (try clear x_one_lo2)
  (try clear x_one_lo1)
  (try clear x_one_T2b)
  (try clear x_one_T3b)
  (try clear x_other_lo2)
  (try clear x_other_lo1)
  (try clear x_other_T2b)
  (try clear x_other_T3b)
  have htC : ∀ p ∈ [(LL + 1 + 1 + 1 + 1 + 1 + 1, ob), (LL + 1 + 1 + 1 + 1 + 1, os), (LL + 1 + 1 + 1 + 1, ou), (LL + 1 + 1 + 1, ot2), (LL + 1 + 1, oo2), (LL + 1, op)], tag p.2 = 3 := by intro p hp; simp at hp; rcases hp with rfl | rfl | rfl | rfl | rfl | rfl <;> first | exact tag_cell db | exact tag_cell ds | exact tag_cell du | exact tag_cell dt2 | exact tag_cell dd2 | exact tag_cell dp
  have N6 := newsSub (xs := (LL + 1 + 1 + 1 + 1 + 1 + 1, ob) :: (LL + 1 + 1 + 1 + 1 + 1, os) :: (LL + 1 + 1 + 1 + 1, ou) :: (LL + 1 + 1 + 1, ot2) :: (LL + 1 + 1, oo2) :: (LL + 1, op) :: (lo2, listOf ws2.toArray e2) :: (lo1, listOf ws1.toArray e1) :: (T2b ++ T3b)) NB (ixSubT 9 [1, 2, 3, 4, 5, 6, 7, 8] rfl)
  have hPne : (P : Int) ≠ 0 := by omega
  clear NB
  k_dflt (refine LCg.ListComp_U (F₀ := FB) (by with_unfolding_all rfl) (by decide) (by rfl) (by decide) (by rfl) ?_)
  k_steps
  unfold Hold
  rename_i FB' D3 hm6 us3 hus3 FC NC lC
  have e3 : us3 = us1 := hus3.trans hus1.symm
  subst e3
  have N7 := newsSub (xs := (LL + 1 + 1 + 1 + 1 + 1 + 1, ob) :: (LL + 1 + 1 + 1 + 1 + 1, os) :: (LL + 1 + 1 + 1 + 1, ou) :: (LL + 1 + 1 + 1, ot2) :: (LL + 1 + 1, oo2) :: (LL + 1, op) :: (D3, listOf us3.toArray 0) :: (lo2, listOf ws2.toArray e2) :: (lo1, listOf ws1.toArray e1) :: (T2b ++ T3b)) NC (ixSubT 9 [1, 2, 3, 4, 5, 6, 0, 7, 8] rfl)
  clear NC FB' N6
  k_dflt (refine LCg.CompSrc.ledger (by rfl) FC N7 (ixMem 6 rfl) (by rw [sizeLine_eq]; simp; have := hI1.length; omega) ?_)
  intro g9
  k_dflt (refine compInv (n := (List.toArray us3).size) (fun i ys news => ∃ TG, news = (LL + 1 + 1 + 1 + 1 + 1 + 1, ob) :: (LL + 1 + 1 + 1 + 1 + 1, os) :: (LL + 1 + 1 + 1 + 1, ou) :: (LL + 1 + 1 + 1, ot2) :: (LL + 1 + 1, oo2) :: (LL + 1, op) :: (D3, listOf us3.toArray 0) :: (lo2, listOf ws2.toArray e2) :: (lo1, listOf ws1.toArray e1) :: (TG ++ (T2b ++ T3b)) ∧ (∀ p ∈ TG, tag p.2 = 2) ∧ ys.length = i ∧ ∀ (j : Nat) (v : Value), ys[j]? = some v → ∃ (p : Addr) (x : Int) (t : Tok) (u : Value) (n : Nat), v = .ref p ∧ (ms1.map (· % (P : Int)))[j]? = some x ∧ (p, tupObj [.int x t, u] n) ∈ TG) ?_ ?_ (List.toArray us3).size 0 [] _ (by omega) ⟨[], rfl, (fun _ h => nomatch h), rfl, fun j v h => by simp at h⟩)
  · rintro ys news ⟨TG, rfl, hTG, hyl, hyt⟩
    unfold LCg.FinE
    intro DG hG1 tkG FG NG oG
    clear FC N7
    dsimp only
    k_steps
    unfold Hold
    have hysl : ys.length = ms1.length := by rw [hyl]; simp; exact hI1.length
    k_dflt (refine dictOfPairs (l := DG) (vs := ys) (e := ys.length) (ks := ms1.map (· % (P : Int))) (by rfl) (modules_low (Top.nolimit (by k_asm))) FG NG (by simp) (by omega) ?_ ?_)
    · intro j v hj
      obtain ⟨p, x, t, u, n, e1, e2, e3⟩ := hyt j v hj
      exact ⟨p, x, t, u, n, e1, e2, by simp [e3]⟩
    intro DD hD1 tkD oD kvs FD ND lD hdk hmk hlk hloD hndk
    have N8 := newsSub (xs := (DD, oD) :: (LL + 1 + 1 + 1 + 1 + 1 + 1, ob) :: (LL + 1 + 1 + 1 + 1 + 1, os) :: (LL + 1 + 1 + 1 + 1, ou) :: (LL + 1 + 1 + 1, ot2) :: (LL + 1 + 1, oo2) :: (LL + 1, op) :: (lo2, listOf ws2.toArray e2) :: (lo1, listOf ws1.toArray e1) :: (T2b ++ T3b)) ND (by first | ((try simp only [List.cons_append, List.nil_append, List.append_assoc]); (repeat (first | (refine List.forall_mem_cons.mpr (And.intro ?_ ?_); (focus ((repeat (first | with_reducible exact List.mem_cons_self | with_reducible apply List.mem_cons_of_mem | with_reducible apply List.mem_append_right)); done))) | with_reducible exact subNil _ | with_reducible refine List.forall_mem_append.mpr (And.intro ?_ ?_) | (focus (intro p hp; (repeat (first | with_reducible exact hp | with_reducible exact List.mem_append_left _ hp | with_reducible apply List.mem_cons_of_mem | with_reducible apply List.mem_append_right)); done)))); done) | (intro p hp; simp at hp ⊢; rcases hp with h9 | h9 | h9 | h9 | h9 | h9 | h9 | h9 | h9 | h9 | h9 <;> simp [h9]))
    clear ND NG FG
    k_steps
    unfold Hold
    k_dflt (refine sortedDict (by rfl) hloD FD N8 hdk (by omega) ?_)
    intro BB hB1 tkB out zs cB FZ NZ lZ hIz hperm hpw
    have hAz := keysEq hLA hmk hysl hndk hperm hpw
    subst hAz
    k_steps
    unfold Hold
    k_dflt (refine ke_ne_ints (isL NZ lo1 ws1 e1 (ixMem 9 rfl)) (isL NZ BB out cB (ixMem 0 rfl)) hIA1 hIz (by first | ktr_units | decide) ?_)
    rw [decide_eq_true rfl]
    dsimp only [Bool.not_true]
    have N9 := newsSub (xs := (LL + 1 + 1 + 1 + 1 + 1 + 1, ob) :: (LL + 1 + 1 + 1 + 1 + 1, os) :: (LL + 1 + 1 + 1 + 1, ou) :: (LL + 1 + 1 + 1, ot2) :: (LL + 1 + 1, oo2) :: (LL + 1, op) :: (lo2, listOf ws2.toArray e2) :: (lo1, listOf ws1.toArray e1) :: (T2b ++ T3b)) NZ (ixSubT 10 [2, 3, 4, 5, 6, 7, 8, 9] rfl)
    clear NZ N8
    k_steps
    unfold Hold
    rename_i lE1 hE1 FE1 NE1 lE1'
    k_dflt (refine ke_eq_ints (isL NE1 lo1 ws1 e1 (ixMem 8 rfl)) (isL NE1 lE1 [] 0 (ixMem 0 rfl)) hIA1 .nil (by first | ktr_units | decide) ?_)
    have bA := lotB hLA hp0
    have bB := lotB hLB hp0
    have bA' : ∀ a ∈ A, 0 ≤ a ∧ a < 1073741824 := fun a ha => by have := bA a ha; omega
    have bB' : ∀ a ∈ B, 0 ≤ a ∧ a < 1073741824 := fun a ha => by have := bB a ha; omega
    have N10 := newsSub (xs := (LL + 1 + 1 + 1 + 1 + 1 + 1, ob) :: (LL + 1 + 1 + 1 + 1 + 1, os) :: (LL + 1 + 1 + 1 + 1, ou) :: (LL + 1 + 1 + 1, ot2) :: (LL + 1 + 1, oo2) :: (LL + 1, op) :: (lo2, listOf ws2.toArray e2) :: (lo1, listOf ws1.toArray e1) :: (T2b ++ T3b)) NE1 (ixSubT 9 [1, 2, 3, 4, 5, 6, 7, 8] rfl)
    (try clear NE1); (try clear N9); (try clear lE1'); (try clear lC)
    by_cases hA0 : A = []
    · rw [decide_eq_true hA0]
      k_steps
      unfold Hold
      k_dflt (refine' sums_ctr lo1 lo2 ws1 ws2 A B e1 e2 P _ T2b T3b n_lo2_lo1.ne.symm hT2b hT3b hT2bO hp0 hp1 hIA1 hIB bA' bB' (by omega) (by omega) _ _ _ _ _ _ _ _ _ _ _ _ _ _ _ ([(LL + 1 + 1 + 1 + 1 + 1 + 1, ob), (LL + 1 + 1 + 1 + 1 + 1, os), (LL + 1 + 1 + 1 + 1, ou), (LL + 1 + 1 + 1, ot2), (LL + 1 + 1, oo2), (LL + 1, op)] ++ []) _ _ ?q26xk1 ?q26xk2 ?q26xk3 ?q26xk4 ?q26xk5 ?q26xk6 ?q26xk7 ?q26xk8 ?q26xk9 ?q26xk10 ?q26xk11 ?q26xkR)
      case q26xk1 => k_asm
      case q26xk2 => assumption
      case q26xk3 => assumption
      case q26xk4 => k_asm
      case q26xk5 => k_asm
      case q26xk6 => exact newsSub N10 (by first | ((try simp only [List.cons_append, List.nil_append, List.append_assoc]); (repeat (first | (refine List.forall_mem_cons.mpr (And.intro ?_ ?_); (focus ((repeat (first | with_reducible exact List.mem_cons_self | with_reducible apply List.mem_cons_of_mem | with_reducible apply List.mem_append_right)); done))) | with_reducible exact subNil _ | with_reducible refine List.forall_mem_append.mpr (And.intro ?_ ?_) | (focus (intro p hp; (repeat (first | with_reducible exact hp | with_reducible exact List.mem_append_left _ hp | with_reducible apply List.mem_cons_of_mem | with_reducible apply List.mem_append_right)); done)))); done) | (intro p hp; simp at hp ⊢; rcases hp with h9 | h9 | h9 | h9 | h9 | h9 | h9 | h9 | h9 | h9 <;> simp [h9]))
      case q26xk7 => exact offMain (H := [(lo1, listOf ws1.toArray e1), (lo2, listOf ws2.toArray e2)]) (CC := [(LL + 1 + 1 + 1 + 1 + 1 + 1, ob), (LL + 1 + 1 + 1 + 1 + 1, os), (LL + 1 + 1 + 1 + 1, ou), (LL + 1 + 1 + 1, ot2), (LL + 1 + 1, oo2), (LL + 1, op)]) (LS := []) (T := (T2b ++ T3b)) N10 (ixSub [7, 6] rfl) (ixSub [0, 1, 2, 3, 4, 5] rfl) (fun _ h => nomatch h) (ixSubT 8 [] rfl) (by first | ((repeat (first | (refine List.forall_mem_cons.mpr (And.intro ?_ ?_); (focus (rfl; done))) | with_reducible exact subNil _)); done) | (intro p hp; simp at hp; rcases hp with rfl | rfl <;> rfl)) htC (fun _ h => nomatch h) (tabs0 hT2b hT3b) (Off.cons (fun _ h => nomatch h) (Off.cons (fun _ h => nomatch h) (offNil _)))
      case q26xk8 => k_asm
      case q26xk9 => first | exact rfl | assumption
      case q26xk10 => ktr_room
      case q26xk11 => ktr_units
      refine sumsPost ?_
      intro lo3 ws3 Sm e3 T2c T3c h' tk' F' N' D' hT2c hT3c hT2cO hIS hLS n1x n2x
      have n_lo3_lo1 := Ap.mk n1x
      have n_lo3_lo2 := Ap.mk n2x
      clear n1x n2x
      dsimp only
      have N11 := newsSub (xs := (LL + 1 + 1 + 1 + 1 + 1 + 1, ob) :: (LL + 1 + 1 + 1 + 1 + 1, os) :: (LL + 1 + 1 + 1 + 1, ou) :: (LL + 1 + 1 + 1, ot2) :: (LL + 1 + 1, oo2) :: (LL + 1, op) :: (lo3, listOf ws3.toArray e3) :: (lo2, listOf ws2.toArray e2) :: (lo1, listOf ws1.toArray e1) :: (T2c ++ T3c)) N' (by first | ((try simp only [List.cons_append, List.nil_append, List.append_assoc]); (repeat (first | (refine List.forall_mem_cons.mpr (And.intro ?_ ?_); (focus ((repeat (first | with_reducible exact List.mem_cons_self | with_reducible apply List.mem_cons_of_mem | with_reducible apply List.mem_append_right)); done))) | with_reducible exact subNil _ | with_reducible refine List.forall_mem_append.mpr (And.intro ?_ ?_) | (focus (intro p hp; (repeat (first | with_reducible exact hp | with_reducible exact List.mem_append_left _ hp | with_reducible apply List.mem_cons_of_mem | with_reducible apply List.mem_append_right)); done)))); done) | (intro p hp; simp at hp ⊢; rcases hp with h9 | h9 | h9 | h9 | h9 | h9 | h9 | h9 | h9 | h9 | h9 <;> simp [h9]))
      (try clear N'); (try clear N10)
      k_steps
      unfold Hold
      rename_i lE hE FE NE lE'
      have hSm : Sm = [] := sumsNil (by first | exact .inl hA0 | exact .inr hB0) hLS
      subst hSm
      k_dflt (refine ke_eq_ints (isL NE lo3 ws3 e3 (ixMem 7 rfl)) (isL NE lE [] 0 (ixMem 0 rfl)) hIS .nil (by first | ktr_units | decide) ?_)
      rw [decide_eq_true rfl]
      rcases hT2c with rfl | ⟨v1, v2, v3, v4, rfl, v5, v6, v7⟩ <;> rcases hT3c with rfl | ⟨u1, u2, u3, u4, rfl, u5, u6, u7⟩
      all_goals k_steps
    · rw [decide_eq_false hA0]
      k_steps
      unfold Hold
      rename_i lE2 hE2 FE2 NE2 lE2'
      k_dflt (refine ke_eq_ints (isL NE2 lo2 ws2 e2 (ixMem 7 rfl)) (isL NE2 lE2 [] 0 (ixMem 0 rfl)) hIB .nil (by first | ktr_units | decide) ?_)
      have N12 := newsSub (xs := (LL + 1 + 1 + 1 + 1 + 1 + 1, ob) :: (LL + 1 + 1 + 1 + 1 + 1, os) :: (LL + 1 + 1 + 1 + 1, ou) :: (LL + 1 + 1 + 1, ot2) :: (LL + 1 + 1, oo2) :: (LL + 1, op) :: (lo2, listOf ws2.toArray e2) :: (lo1, listOf ws1.toArray e1) :: (T2b ++ T3b)) NE2 (ixSubT 9 [1, 2, 3, 4, 5, 6, 7, 8] rfl)
      (try clear NE2); (try clear N10); (try clear lE2')
      by_cases hB0 : B = []
      · rw [decide_eq_true hB0]
        k_steps
        unfold Hold
        k_dflt (refine' sums_ctr lo1 lo2 ws1 ws2 A B e1 e2 P _ T2b T3b n_lo2_lo1.ne.symm hT2b hT3b hT2bO hp0 hp1 hIA1 hIB bA' bB' (by omega) (by omega) _ _ _ _ _ _ _ _ _ _ _ _ _ _ _ ([(LL + 1 + 1 + 1 + 1 + 1 + 1, ob), (LL + 1 + 1 + 1 + 1 + 1, os), (LL + 1 + 1 + 1 + 1, ou), (LL + 1 + 1 + 1, ot2), (LL + 1 + 1, oo2), (LL + 1, op)] ++ []) _ _ ?q27xk1 ?q27xk2 ?q27xk3 ?q27xk4 ?q27xk5 ?q27xk6 ?q27xk7 ?q27xk8 ?q27xk9 ?q27xk10 ?q27xk11 ?q27xkR)
        case q27xk1 => k_asm
        case q27xk2 => assumption
        case q27xk3 => assumption
        case q27xk4 => k_asm
        case q27xk5 => k_asm
        case q27xk6 => exact newsSub N12 (by first | ((try simp only [List.cons_append, List.nil_append, List.append_assoc]); (repeat (first | (refine List.forall_mem_cons.mpr (And.intro ?_ ?_); (focus ((repeat (first | with_reducible exact List.mem_cons_self | with_reducible apply List.mem_cons_of_mem | with_reducible apply List.mem_append_right)); done))) | with_reducible exact subNil _ | with_reducible refine List.forall_mem_append.mpr (And.intro ?_ ?_) | (focus (intro p hp; (repeat (first | with_reducible exact hp | with_reducible exact List.mem_append_left _ hp | with_reducible apply List.mem_cons_of_mem | with_reducible apply List.mem_append_right)); done)))); done) | (intro p hp; simp at hp ⊢; rcases hp with h9 | h9 | h9 | h9 | h9 | h9 | h9 | h9 | h9 | h9 <;> simp [h9]))
        case q27xk7 => exact offMain (H := [(lo1, listOf ws1.toArray e1), (lo2, listOf ws2.toArray e2)]) (CC := [(LL + 1 + 1 + 1 + 1 + 1 + 1, ob), (LL + 1 + 1 + 1 + 1 + 1, os), (LL + 1 + 1 + 1 + 1, ou), (LL + 1 + 1 + 1, ot2), (LL + 1 + 1, oo2), (LL + 1, op)]) (LS := []) (T := (T2b ++ T3b)) N12 (ixSub [7, 6] rfl) (ixSub [0, 1, 2, 3, 4, 5] rfl) (fun _ h => nomatch h) (ixSubT 8 [] rfl) (by first | ((repeat (first | (refine List.forall_mem_cons.mpr (And.intro ?_ ?_); (focus (rfl; done))) | with_reducible exact subNil _)); done) | (intro p hp; simp at hp; rcases hp with rfl | rfl <;> rfl)) htC (fun _ h => nomatch h) (tabs0 hT2b hT3b) (Off.cons (fun _ h => nomatch h) (Off.cons (fun _ h => nomatch h) (offNil _)))
        case q27xk8 => k_asm
        case q27xk9 => first | exact rfl | assumption
        case q27xk10 => ktr_room
        case q27xk11 => ktr_units
        refine sumsPost ?_
        intro lo3 ws3 Sm e3 T2c T3c h' tk' F' N' D' hT2c hT3c hT2cO hIS hLS n1x n2x
        have n_lo3_lo1 := Ap.mk n1x
        have n_lo3_lo2 := Ap.mk n2x
        clear n1x n2x
        dsimp only
        have N11 := newsSub (xs := (LL + 1 + 1 + 1 + 1 + 1 + 1, ob) :: (LL + 1 + 1 + 1 + 1 + 1, os) :: (LL + 1 + 1 + 1 + 1, ou) :: (LL + 1 + 1 + 1, ot2) :: (LL + 1 + 1, oo2) :: (LL + 1, op) :: (lo3, listOf ws3.toArray e3) :: (lo2, listOf ws2.toArray e2) :: (lo1, listOf ws1.toArray e1) :: (T2c ++ T3c)) N' (by first | ((try simp only [List.cons_append, List.nil_append, List.append_assoc]); (repeat (first | (refine List.forall_mem_cons.mpr (And.intro ?_ ?_); (focus ((repeat (first | with_reducible exact List.mem_cons_self | with_reducible apply List.mem_cons_of_mem | with_reducible apply List.mem_append_right)); done))) | with_reducible exact subNil _ | with_reducible refine List.forall_mem_append.mpr (And.intro ?_ ?_) | (focus (intro p hp; (repeat (first | with_reducible exact hp | with_reducible exact List.mem_append_left _ hp | with_reducible apply List.mem_cons_of_mem | with_reducible apply List.mem_append_right)); done)))); done) | (intro p hp; simp at hp ⊢; rcases hp with h9 | h9 | h9 | h9 | h9 | h9 | h9 | h9 | h9 | h9 | h9 <;> simp [h9]))
        (try clear N'); (try clear N12)
        k_steps
        unfold Hold
        rename_i lE hE FE NE lE'
        have hSm : Sm = [] := sumsNil (by first | exact .inl hA0 | exact .inr hB0) hLS
        subst hSm
        k_dflt (refine ke_eq_ints (isL NE lo3 ws3 e3 (ixMem 7 rfl)) (isL NE lE [] 0 (ixMem 0 rfl)) hIS .nil (by first | ktr_units | decide) ?_)
        rw [decide_eq_true rfl]
        rcases hT2c with rfl | ⟨v1, v2, v3, v4, rfl, v5, v6, v7⟩ <;> rcases hT3c with rfl | ⟨u1, u2, u3, u4, rfl, u5, u6, u7⟩
        all_goals k_steps
      rw [decide_eq_false hB0]
      k_steps
      unfold Hold
      k_dflt (refine' sums_ctr lo1 lo2 ws1 ws2 A B e1 e2 P _ T2b T3b n_lo2_lo1.ne.symm hT2b hT3b hT2bO hp0 hp1 hIA1 hIB bA' bB' (by omega) (by omega) _ _ _ _ _ _ _ _ _ _ _ _ _ _ _ ([(LL + 1 + 1 + 1 + 1 + 1 + 1, ob), (LL + 1 + 1 + 1 + 1 + 1, os), (LL + 1 + 1 + 1 + 1, ou), (LL + 1 + 1 + 1, ot2), (LL + 1 + 1, oo2), (LL + 1, op)] ++ []) _ _ ?q28xk1 ?q28xk2 ?q28xk3 ?q28xk4 ?q28xk5 ?q28xk6 ?q28xk7 ?q28xk8 ?q28xk9 ?q28xk10 ?q28xk11 ?q28xkR)
      case q28xk1 => k_asm
      case q28xk2 => assumption
      case q28xk3 => assumption
      case q28xk4 => k_asm
      case q28xk5 => k_asm
      case q28xk6 => exact newsSub N12 (by first | ((try simp only [List.cons_append, List.nil_append, List.append_assoc]); (repeat (first | (refine List.forall_mem_cons.mpr (And.intro ?_ ?_); (focus ((repeat (first | with_reducible exact List.mem_cons_self | with_reducible apply List.mem_cons_of_mem | with_reducible apply List.mem_append_right)); done))) | with_reducible exact subNil _ | with_reducible refine List.forall_mem_append.mpr (And.intro ?_ ?_) | (focus (intro p hp; (repeat (first | with_reducible exact hp | with_reducible exact List.mem_append_left _ hp | with_reducible apply List.mem_cons_of_mem | with_reducible apply List.mem_append_right)); done)))); done) | (intro p hp; simp at hp ⊢; rcases hp with h9 | h9 | h9 | h9 | h9 | h9 | h9 | h9 | h9 | h9 <;> simp [h9]))
      case q28xk7 => exact offMain (H := [(lo1, listOf ws1.toArray e1), (lo2, listOf ws2.toArray e2)]) (CC := [(LL + 1 + 1 + 1 + 1 + 1 + 1, ob), (LL + 1 + 1 + 1 + 1 + 1, os), (LL + 1 + 1 + 1 + 1, ou), (LL + 1 + 1 + 1, ot2), (LL + 1 + 1, oo2), (LL + 1, op)]) (LS := []) (T := (T2b ++ T3b)) N12 (ixSub [7, 6] rfl) (ixSub [0, 1, 2, 3, 4, 5] rfl) (fun _ h => nomatch h) (ixSubT 8 [] rfl) (by first | ((repeat (first | (refine List.forall_mem_cons.mpr (And.intro ?_ ?_); (focus (rfl; done))) | with_reducible exact subNil _)); done) | (intro p hp; simp at hp; rcases hp with rfl | rfl <;> rfl)) htC (fun _ h => nomatch h) (tabs0 hT2b hT3b) (Off.cons (fun _ h => nomatch h) (Off.cons (fun _ h => nomatch h) (offNil _)))
      case q28xk8 => k_asm
      case q28xk9 => first | exact rfl | assumption
      case q28xk10 => ktr_room
      case q28xk11 => ktr_units
      refine sumsPost ?_
      intro lo3 ws3 Sm e3 T2c T3c h' tk' F' N' D' hT2c hT3c hT2cO hIS hLS n1x n2x
      have n_lo3_lo1 := Ap.mk n1x
      have n_lo3_lo2 := Ap.mk n2x
      clear n1x n2x
      dsimp only
      have N13 := newsSub (xs := (LL + 1 + 1 + 1 + 1 + 1 + 1, ob) :: (LL + 1 + 1 + 1 + 1 + 1, os) :: (LL + 1 + 1 + 1 + 1, ou) :: (LL + 1 + 1 + 1, ot2) :: (LL + 1 + 1, oo2) :: (LL + 1, op) :: (lo3, listOf ws3.toArray e3) :: (lo2, listOf ws2.toArray e2) :: (lo1, listOf ws1.toArray e1) :: (T2c ++ T3c)) N' (by first | ((try simp only [List.cons_append, List.nil_append, List.append_assoc]); (repeat (first | (refine List.forall_mem_cons.mpr (And.intro ?_ ?_); (focus ((repeat (first | with_reducible exact List.mem_cons_self | with_reducible apply List.mem_cons_of_mem | with_reducible apply List.mem_append_right)); done))) | with_reducible exact subNil _ | with_reducible refine List.forall_mem_append.mpr (And.intro ?_ ?_) | (focus (intro p hp; (repeat (first | with_reducible exact hp | with_reducible exact List.mem_append_left _ hp | with_reducible apply List.mem_cons_of_mem | with_reducible apply List.mem_append_right)); done)))); done) | (intro p hp; simp at hp ⊢; rcases hp with h9 | h9 | h9 | h9 | h9 | h9 | h9 | h9 | h9 | h9 | h9 <;> simp [h9]))
      have x_sums_lo3 : @Ne Nat lo3 (LL + 1 + 1 + 1 + 1) := tagNe N13 (p := (lo3, listOf ws3.toArray e3)) (q := (LL + 1 + 1 + 1 + 1, ou)) (ixMem 6 rfl) (ixMem 2 rfl) (by rw [tag_cell (o := ou) du]; exact (show (1 : Nat) ≠ 3 by decide))
      have x_sums_lo2 : @Ne Nat lo2 (LL + 1 + 1 + 1 + 1) := tagNe N13 (p := (lo2, listOf ws2.toArray e2)) (q := (LL + 1 + 1 + 1 + 1, ou)) (ixMem 7 rfl) (ixMem 2 rfl) (by rw [tag_cell (o := ou) du]; exact (show (1 : Nat) ≠ 3 by decide))
      have x_sums_lo1 : @Ne Nat lo1 (LL + 1 + 1 + 1 + 1) := tagNe N13 (p := (lo1, listOf ws1.toArray e1)) (q := (LL + 1 + 1 + 1 + 1, ou)) (ixMem 8 rfl) (ixMem 2 rfl) (by rw [tag_cell (o := ou) du]; exact (show (1 : Nat) ≠ 3 by decide))
      have x_sums_T2c : ∀ p ∈ T2c, p.1 ≠ LL + 1 + 1 + 1 + 1 := fun p hp => tagNe N13 (q := (LL + 1 + 1 + 1 + 1, ou)) (by simp [hp]) (ixMem 2 rfl) (by rw [hT2c.tags p hp, tag_cell (o := ou) du]; decide)
      have x_sums_T3c : ∀ p ∈ T3c, p.1 ≠ LL + 1 + 1 + 1 + 1 := fun p hp => tagNe N13 (q := (LL + 1 + 1 + 1 + 1, ou)) (by simp [hp]) (ixMem 2 rfl) (by rw [hT3c.tags p hp, tag_cell (o := ou) du]; decide)
      (try clear N'); (try clear N12)
      have hw1 := hIA1.length
      have hw2 := hIB.length
      have hw3 := hIS.length
      obtain ⟨hCD, hSP, hA1, hB1, hAP, hBP⟩ := cdLot hP hLA hLB hLS hA0 hB0
      replace hCD := Box.mk hCD
      have stop := Stop.mk
      k_steps
      unfold Hold
      rename_i hs1 ou2 FS NS du2
      (try clear x_sums_lo3)
      (try clear x_sums_lo2)
      (try clear x_sums_lo1)
      (try clear x_sums_T2c)
      (try clear x_sums_T3c)
      have htC : ∀ p ∈ [(LL + 1 + 1 + 1 + 1 + 1 + 1, ob), (LL + 1 + 1 + 1 + 1 + 1, os), (LL + 1 + 1 + 1 + 1, ou2), (LL + 1 + 1 + 1, ot2), (LL + 1 + 1, oo2), (LL + 1, op)], tag p.2 = 3 := by intro p hp; simp at hp; rcases hp with rfl | rfl | rfl | rfl | rfl | rfl <;> first | exact tag_cell db | exact tag_cell ds | exact tag_cell du2 | exact tag_cell dt2 | exact tag_cell dd2 | exact tag_cell dp
      have stop := StopB.mk
      k_steps
      unfold Hold
      have N14 := newsSub (xs := (LL + 1 + 1 + 1 + 1 + 1 + 1, ob) :: (LL + 1 + 1 + 1 + 1 + 1, os) :: (LL + 1 + 1 + 1 + 1, ou2) :: (LL + 1 + 1 + 1, ot2) :: (LL + 1 + 1, oo2) :: (LL + 1, op) :: (lo3, listOf ws3.toArray e3) :: (lo2, listOf ws2.toArray e2) :: (lo1, listOf ws1.toArray e1) :: (T2c ++ T3c)) NS (ixSubT 9 [0, 1, 2, 3, 4, 5, 6, 7, 8] rfl)
      refine boolMid false FS N14 ?_ ?_
      · have stop := StopC.mk
        k_steps
        unfold Hold
        refine lt_int ?_
        have hCD' := hCD.out
        rw [decide_eq_false (by omega)]
        clear hCD'
        have stop := StopC.mk
        k_steps
        unfold Hold
        refine gt_int ?_
        by_cases hgt : (A.length : Int) + B.length > P
        · rw [decide_eq_true hgt]
          have stop := StopC.mk
          k_steps
          unfold Hold
          refine ne_int ?_
          have hCD' := hCD.out
          have eSP : (Sm.length : Int) = P := by omega
          clear hCD'
          rw [eSP, bne_self_eq_false]
          k_steps
          all_goals assumption
        · rw [decide_eq_false hgt]
          k_steps
          all_goals assumption
      intro hs2 tks2 FS2 NS2
      (try clear FS); (try clear NS); (try clear N14)
      k_steps
      unfold Hold
      have N15 := newsSub (xs := (LL + 1 + 1 + 1 + 1 + 1 + 1, ob) :: (LL + 1 + 1 + 1 + 1 + 1, os) :: (LL + 1 + 1 + 1 + 1, ou2) :: (LL + 1 + 1 + 1, ot2) :: (LL + 1 + 1, oo2) :: (LL + 1, op) :: (lo3, listOf ws3.toArray e3) :: (lo2, listOf ws2.toArray e2) :: (lo1, listOf ws1.toArray e1) :: (T2c ++ T3c)) NS2 (ixSubT 9 [0, 1, 2, 3, 4, 5, 6, 7, 8] rfl)
      (try clear NS2)
      k_dflt (refine listCompC FS2 (by with_unfolding_all rfl) (fun _ => rfl) (fun _ => rfl) (by rfl) (by decide) (fun _ _ => rfl) ?_)
      k_steps
      unfold Hold
      rename_i FQ NQ hR1 tkR t1x u1x v1x hRg FR NR9 hKR
      refine ⟨_, P, _, _, FR, NR9, Src.range (n := P) rfl (by rw [sizeLine_eq]; omega) hRg (small_one (by omega) (by omega) (by omega) (by omega)) (rangeSize_k (by omega)), fun i ys nw => nw = (LL + 1 + 1 + 1 + 1 + 1 + 1, ob) :: (LL + 1 + 1 + 1 + 1 + 1, os) :: (LL + 1 + 1 + 1 + 1, ou2) :: (LL + 1 + 1 + 1, ot2) :: (LL + 1 + 1, oo2) :: (LL + 1, op) :: (lo3, listOf ws3.toArray e3) :: (lo2, listOf ws2.toArray e2) :: (lo1, listOf ws1.toArray e1) :: (T2c ++ T3c) ∧ ys = [], ⟨rfl, rfl⟩, ?_, ?_, ?_⟩
      · rintro i ys nw ⟨rfl, rfl⟩
        exact ⟨trivial, by simp⟩
      · rintro g9 ys nw ⟨rfl, rfl⟩
        unfold LCg.FinE
        intro DG hG1 tkG FG NG oG
        (try clear FR); (try clear NR9); (try clear FQ); (try clear NQ)
        dsimp only
        k_steps
        unfold Hold
        rename_i lE3 hE3 FE3 NE3 lE3'
        k_dflt (refine ke_ne_ints (isL NE3 DG [] 0 (by first | ((repeat (first | with_reducible exact List.mem_cons_self | with_reducible apply List.mem_cons_of_mem | with_reducible apply List.mem_append_right)); done) | simp)) (isL NE3 lE3 [] 0 (ixMem 0 rfl)) .nil .nil (by first | ktr_units | decide) ?_)
        rw [decide_eq_true rfl]
        dsimp only [Bool.not_true]
        have N17 := newsSub (xs := (LL + 1 + 1 + 1 + 1 + 1 + 1, ob) :: (LL + 1 + 1 + 1 + 1 + 1, os) :: (LL + 1 + 1 + 1 + 1, ou2) :: (LL + 1 + 1 + 1, ot2) :: (LL + 1 + 1, oo2) :: (LL + 1, op) :: (lo3, listOf ws3.toArray e3) :: (lo2, listOf ws2.toArray e2) :: (lo1, listOf ws1.toArray e1) :: (T2c ++ T3c)) NE3 (ixSubT 11 [2, 3, 4, 5, 6, 7, 8, 9, 10] rfl)
        have x_step_lo3 : @Ne Nat lo3 (LL + 1 + 1 + 1 + 1 + 1) := tagNe N17 (p := (lo3, listOf ws3.toArray e3)) (q := (LL + 1 + 1 + 1 + 1 + 1, os)) (ixMem 6 rfl) (ixMem 1 rfl) (by rw [tag_cell (o := os) ds]; exact (show (1 : Nat) ≠ 3 by decide))
        have x_step_lo2 : @Ne Nat lo2 (LL + 1 + 1 + 1 + 1 + 1) := tagNe N17 (p := (lo2, listOf ws2.toArray e2)) (q := (LL + 1 + 1 + 1 + 1 + 1, os)) (ixMem 7 rfl) (ixMem 1 rfl) (by rw [tag_cell (o := os) ds]; exact (show (1 : Nat) ≠ 3 by decide))
        have x_step_lo1 : @Ne Nat lo1 (LL + 1 + 1 + 1 + 1 + 1) := tagNe N17 (p := (lo1, listOf ws1.toArray e1)) (q := (LL + 1 + 1 + 1 + 1 + 1, os)) (ixMem 8 rfl) (ixMem 1 rfl) (by rw [tag_cell (o := os) ds]; exact (show (1 : Nat) ≠ 3 by decide))
        have x_step_T2c : ∀ p ∈ T2c, p.1 ≠ LL + 1 + 1 + 1 + 1 + 1 := fun p hp => tagNe N17 (q := (LL + 1 + 1 + 1 + 1 + 1, os)) (by simp [hp]) (ixMem 1 rfl) (by rw [hT2c.tags p hp, tag_cell (o := os) ds]; decide)
        have x_step_T3c : ∀ p ∈ T3c, p.1 ≠ LL + 1 + 1 + 1 + 1 + 1 := fun p hp => tagNe N17 (q := (LL + 1 + 1 + 1 + 1 + 1, os)) (by simp [hp]) (ixMem 1 rfl) (by rw [hT3c.tags p hp, tag_cell (o := os) ds]; decide)
        have x_begin_lo3 : @Ne Nat lo3 (LL + 1 + 1 + 1 + 1 + 1 + 1) := tagNe N17 (p := (lo3, listOf ws3.toArray e3)) (q := (LL + 1 + 1 + 1 + 1 + 1 + 1, ob)) (ixMem 6 rfl) (ixMem 0 rfl) (by rw [tag_cell (o := ob) db]; exact (show (1 : Nat) ≠ 3 by decide))
        have x_begin_lo2 : @Ne Nat lo2 (LL + 1 + 1 + 1 + 1 + 1 + 1) := tagNe N17 (p := (lo2, listOf ws2.toArray e2)) (q := (LL + 1 + 1 + 1 + 1 + 1 + 1, ob)) (ixMem 7 rfl) (ixMem 0 rfl) (by rw [tag_cell (o := ob) db]; exact (show (1 : Nat) ≠ 3 by decide))
        have x_begin_lo1 : @Ne Nat lo1 (LL + 1 + 1 + 1 + 1 + 1 + 1) := tagNe N17 (p := (lo1, listOf ws1.toArray e1)) (q := (LL + 1 + 1 + 1 + 1 + 1 + 1, ob)) (ixMem 8 rfl) (ixMem 0 rfl) (by rw [tag_cell (o := ob) db]; exact (show (1 : Nat) ≠ 3 by decide))
        have x_begin_T2c : ∀ p ∈ T2c, p.1 ≠ LL + 1 + 1 + 1 + 1 + 1 + 1 := fun p hp => tagNe N17 (q := (LL + 1 + 1 + 1 + 1 + 1 + 1, ob)) (by simp [hp]) (ixMem 0 rfl) (by rw [hT2c.tags p hp, tag_cell (o := ob) db]; decide)
        have x_begin_T3c : ∀ p ∈ T3c, p.1 ≠ LL + 1 + 1 + 1 + 1 + 1 + 1 := fun p hp => tagNe N17 (q := (LL + 1 + 1 + 1 + 1 + 1 + 1, ob)) (by simp [hp]) (ixMem 0 rfl) (by rw [hT3c.tags p hp, tag_cell (o := ob) db]; decide)
        (try clear NE3); (try clear lE3')
        have hP1 : (P : Int) - 1 ≠ 0 := by omega
        k_steps
        unfold Hold
        rename_i hA1x tkA ta9 tb9 Dt2 hA2x lt2 hA3x hA4x os2 ds2 hA5x ob2 FT2 NT2 db2
        (try clear lt2)
        generalize hstp : 1 + ns.sum.fmod ((P : Int) - 1) = stp at ds2
        have hst := stepB hP hstp
        generalize hb0 : A.getD (Int.toNat 0) 0 = b0 at db2
        have bb0 := getB bA hA1 hb0
        have hst1 := hst.1
        have hst2 := hst.2
        (try clear x_step_lo3)
        (try clear x_step_lo2)
        (try clear x_step_lo1)
        (try clear x_step_T2c)
        (try clear x_step_T3c)
        (try clear x_begin_lo3)
        (try clear x_begin_lo2)
        (try clear x_begin_lo1)
        (try clear x_begin_T2c)
        (try clear x_begin_T3c)
        have htC : ∀ p ∈ [(LL + 1 + 1 + 1 + 1 + 1 + 1, ob2), (LL + 1 + 1 + 1 + 1 + 1, os2), (LL + 1 + 1 + 1 + 1, ou2), (LL + 1 + 1 + 1, ot2), (LL + 1 + 1, oo2), (LL + 1, op)], tag p.2 = 3 := by intro p hp; simp at hp; rcases hp with rfl | rfl | rfl | rfl | rfl | rfl <;> first | exact tag_cell db2 | exact tag_cell ds2 | exact tag_cell du2 | exact tag_cell dt2 | exact tag_cell dd2 | exact tag_cell dp
        have N18 := newsSub (xs := (LL + 1 + 1 + 1 + 1 + 1 + 1, ob2) :: (LL + 1 + 1 + 1 + 1 + 1, os2) :: (LL + 1 + 1 + 1 + 1, ou2) :: (LL + 1 + 1 + 1, ot2) :: (LL + 1 + 1, oo2) :: (LL + 1, op) :: (lo3, listOf ws3.toArray e3) :: (lo2, listOf ws2.toArray e2) :: (lo1, listOf ws1.toArray e1) :: (T2c ++ T3c)) NT2 (ixSubT 10 [1, 2, 3, 4, 5, 6, 7, 8, 9] rfl)
        (try clear NT2); (try clear N17)
        k_dflt (refine LCg.ListComp_U (F₀ := FT2) (by with_unfolding_all rfl) (by decide) (by rfl) (by decide) (by rfl) ?_)
        k_steps
        unfold Hold
        rename_i FQ NQ hR1 tkR t1x u1x v1x hRg FR NR9 hKR
        k_dflt (refine LCg.CompSrc.range (n := A.length) (by rfl) FR NR9 hRg (small_one (by omega) (by omega) (by omega) (by omega)) (rangeSize_k (by omega)) (by rw [sizeLine_eq]; omega) ?_)
        intro g9
        k_dflt (refine compInv (n := A.length) (fun i ys news => news = (LL + 1 + 1 + 1 + 1 + 1 + 1, ob2) :: (LL + 1 + 1 + 1 + 1 + 1, os2) :: (LL + 1 + 1 + 1 + 1, ou2) :: (LL + 1 + 1 + 1, ot2) :: (LL + 1 + 1, oo2) :: (LL + 1, op) :: (lo3, listOf ws3.toArray e3) :: (lo2, listOf ws2.toArray e2) :: (lo1, listOf ws1.toArray e1) :: (T2c ++ T3c) ∧ IntsAre ys (apL b0 stp i)) ?_ ?_ A.length 0 [] _ (by omega) ⟨rfl, .nil⟩)
        · rintro ys news ⟨rfl, hy⟩
          unfold LCg.FinE
          intro DG hG1 tkG FG NG oG
          (try clear FR); (try clear NR9); (try clear FQ); (try clear NQ); (try clear N18)
          dsimp only
          k_steps
          unfold Hold
          have oG' := oG
          obtain ⟨-, -, -, -, -, -, q0z, q1z, q2z, -⟩ := oG'
          have n_lo3_DG : Ap lo3 DG := ⟨q0z⟩
          clear q0z
          have n_lo2_DG : Ap lo2 DG := ⟨q1z⟩
          clear q1z
          have n_lo1_DG : Ap lo1 DG := ⟨q2z⟩
          clear q2z
          k_dflt (refine' lot_ctr DG ys (apL b0 stp A.length) ys.length P _ T2c T3c hT2c hT3c hT2cO hp0 hp1 hy (apBits hP bb0 hst hAP) (by rw [apLLen]; omega) _ _ _ _ _ _ _ _ _ _ _ _ _ _ _ ([(LL + 1 + 1 + 1 + 1 + 1 + 1, ob2), (LL + 1 + 1 + 1 + 1 + 1, os2), (LL + 1 + 1 + 1 + 1, ou2), (LL + 1 + 1 + 1, ot2), (LL + 1 + 1, oo2), (LL + 1, op)] ++ [(lo3, listOf ws3.toArray e3), (lo2, listOf ws2.toArray e2), (lo1, listOf ws1.toArray e1)]) _ _ ?q30xk1 ?q30xk2 ?q30xk3 ?q30xk4 ?q30xk5 ?q30xk6 ?q30xk7 ?q30xk8 ?q30xk9 ?q30xk10 ?q30xk11 ?q30xkR)
          case q30xk1 => k_asm
          case q30xk2 => assumption
          case q30xk3 => assumption
          case q30xk4 => k_asm
          case q30xk5 => k_asm
          case q30xk6 => exact newsSub NG (by first | ((try simp only [List.cons_append, List.nil_append, List.append_assoc]); (repeat (first | (refine List.forall_mem_cons.mpr (And.intro ?_ ?_); (focus ((repeat (first | with_reducible exact List.mem_cons_self | with_reducible apply List.mem_cons_of_mem | with_reducible apply List.mem_append_right)); done))) | with_reducible exact subNil _ | with_reducible refine List.forall_mem_append.mpr (And.intro ?_ ?_) | (focus (intro p hp; (repeat (first | with_reducible exact hp | with_reducible exact List.mem_append_left _ hp | with_reducible apply List.mem_cons_of_mem | with_reducible apply List.mem_append_right)); done)))); done) | (intro p hp; simp at hp ⊢; rcases hp with h9 | h9 | h9 | h9 | h9 | h9 | h9 | h9 | h9 | h9 | h9 | h9 <;> simp [h9]))
          case q30xk7 => exact offMain (H := [(DG, listOf ys.toArray ys.length)]) (CC := [(LL + 1 + 1 + 1 + 1 + 1 + 1, ob2), (LL + 1 + 1 + 1 + 1 + 1, os2), (LL + 1 + 1 + 1 + 1, ou2), (LL + 1 + 1 + 1, ot2), (LL + 1 + 1, oo2), (LL + 1, op)]) (LS := [(lo3, listOf ws3.toArray e3), (lo2, listOf ws2.toArray e2), (lo1, listOf ws1.toArray e1)]) (T := (T2c ++ T3c)) NG (ixSub [0] rfl) (ixSub [1, 2, 3, 4, 5, 6] rfl) (ixSub [7, 8, 9] rfl) (ixSubT 10 [] rfl) (by first | ((repeat (first | (refine List.forall_mem_cons.mpr (And.intro ?_ ?_); (focus (rfl; done))) | with_reducible exact subNil _)); done) | (intro p hp; simp at hp; rcases hp with rfl <;> rfl)) htC (by first | ((repeat (first | (refine List.forall_mem_cons.mpr (And.intro ?_ ?_); (focus (rfl; done))) | with_reducible exact subNil _)); done) | (intro p hp; simp at hp; rcases hp with rfl | rfl | rfl <;> rfl)) (tabs0 hT2c hT3c) (Off.cons (List.forall_mem_cons.mpr ⟨n_lo3_DG.ne, (List.forall_mem_cons.mpr ⟨n_lo2_DG.ne, (List.forall_mem_cons.mpr ⟨n_lo1_DG.ne, (fun _ h => nomatch h)⟩)⟩)⟩) (offNil _))
          case q30xk8 => k_asm
          case q30xk9 => first | exact rfl | assumption
          case q30xk10 => ktr_room
          case q30xk11 => ktr_units
          refine lotPost ?_
          intro lo4 ws4 R4 e4 T2d T3d h' tk' F' N' D' hT2d hT3d hT2dO hIR4 hLR4 hlR4
          dsimp only
          have n_lo4_lo3 : Ap lo4 lo3 := ⟨D' (lo4, listOf ws4.toArray e4) (ixMem 0 rfl) (lo3, listOf ws3.toArray e3) (ixMem 6 rfl)⟩
          have n_lo4_lo2 : Ap lo4 lo2 := ⟨D' (lo4, listOf ws4.toArray e4) (ixMem 0 rfl) (lo2, listOf ws2.toArray e2) (ixMem 7 rfl)⟩
          have n_lo4_lo1 : Ap lo4 lo1 := ⟨D' (lo4, listOf ws4.toArray e4) (ixMem 0 rfl) (lo1, listOf ws1.toArray e1) (ixMem 8 rfl)⟩
          have N19 := newsSub (xs := (LL + 1 + 1 + 1 + 1 + 1 + 1, ob2) :: (LL + 1 + 1 + 1 + 1 + 1, os2) :: (LL + 1 + 1 + 1 + 1, ou2) :: (LL + 1 + 1 + 1, ot2) :: (LL + 1 + 1, oo2) :: (LL + 1, op) :: (lo4, listOf ws4.toArray e4) :: (lo3, listOf ws3.toArray e3) :: (lo2, listOf ws2.toArray e2) :: (lo1, listOf ws1.toArray e1) :: (T2d ++ T3d)) N' (by first | ((try simp only [List.cons_append, List.nil_append, List.append_assoc]); (repeat (first | (refine List.forall_mem_cons.mpr (And.intro ?_ ?_); (focus ((repeat (first | with_reducible exact List.mem_cons_self | with_reducible apply List.mem_cons_of_mem | with_reducible apply List.mem_append_right)); done))) | with_reducible exact subNil _ | with_reducible refine List.forall_mem_append.mpr (And.intro ?_ ?_) | (focus (intro p hp; (repeat (first | with_reducible exact hp | with_reducible exact List.mem_append_left _ hp | with_reducible apply List.mem_cons_of_mem | with_reducible apply List.mem_append_right)); done)))); done) | (intro p hp; simp at hp ⊢; rcases hp with h9 | h9 | h9 | h9 | h9 | h9 | h9 | h9 | h9 | h9 | h9 | h9 <;> simp [h9]))
          (try clear N'); (try clear NG); (try clear D')
          (try clear n_lo4_DG)
          (try clear n_lo3_DG)
          (try clear n_lo2_DG)
          (try clear n_lo1_DG)
          have hw4 := hIR4.length
          have hR4 := Box.mk (apLen hP hst1 hst2 hLR4.1 (apLot hLR4))
          have bc0 := getB bB hB1 (rfl : (B.getD (Int.toNat 0) 0) = _)
          k_steps
          unfold Hold
          rename_i FL4 NL4
          (try clear FG); (try clear N19)
          k_dflt (refine LCg.ListComp_U (F₀ := FL4) (by with_unfolding_all rfl) (by decide) (by rfl) (by decide) (by rfl) ?_)
          k_steps
          unfold Hold
          rename_i FQ NQ hR1 tkR t1x u1x v1x hRg FR NR9 hKR
          k_dflt (refine LCg.CompSrc.range (n := B.length) (by rfl) FR NR9 hRg (small_one (by omega) (by omega) (by omega) (by omega)) (rangeSize_k (by omega)) (by rw [sizeLine_eq]; omega) ?_)
          intro g9
          k_dflt (refine compInv (n := B.length) (fun i ys news => news = (LL + 1 + 1 + 1 + 1 + 1 + 1, ob2) :: (LL + 1 + 1 + 1 + 1 + 1, os2) :: (LL + 1 + 1 + 1 + 1, ou2) :: (LL + 1 + 1 + 1, ot2) :: (LL + 1 + 1, oo2) :: (LL + 1, op) :: (lo4, listOf ws4.toArray e4) :: (lo3, listOf ws3.toArray e3) :: (lo2, listOf ws2.toArray e2) :: (lo1, listOf ws1.toArray e1) :: (T2d ++ T3d) ∧ IntsAre ys (apL (B.getD (Int.toNat 0) 0) stp i)) ?_ ?_ B.length 0 [] _ (by omega) ⟨rfl, .nil⟩)
          · rintro ys news ⟨rfl, hy⟩
            unfold LCg.FinE
            intro DG hG1 tkG FG NG oG
            (try clear FR); (try clear NR9); (try clear FQ); (try clear NQ); (try clear N19); (try clear FL4)
            dsimp only
            k_steps
            unfold Hold
            have oG' := oG
            obtain ⟨-, -, -, -, -, -, q0z, q1z, q2z, q3z, -⟩ := oG'
            have n_lo4_DG : Ap lo4 DG := ⟨q0z⟩
            clear q0z
            have n_lo3_DG : Ap lo3 DG := ⟨q1z⟩
            clear q1z
            have n_lo2_DG : Ap lo2 DG := ⟨q2z⟩
            clear q2z
            have n_lo1_DG : Ap lo1 DG := ⟨q3z⟩
            clear q3z
            k_dflt (refine' lot_ctr DG ys (apL (B.getD (Int.toNat 0) 0) stp B.length) ys.length P _ T2d T3d hT2d hT3d hT2dO hp0 hp1 hy (apBits hP bc0 hst hBP) (by rw [apLLen]; omega) _ _ _ _ _ _ _ _ _ _ _ _ _ _ _ ([(LL + 1 + 1 + 1 + 1 + 1 + 1, ob2), (LL + 1 + 1 + 1 + 1 + 1, os2), (LL + 1 + 1 + 1 + 1, ou2), (LL + 1 + 1 + 1, ot2), (LL + 1 + 1, oo2), (LL + 1, op)] ++ [(lo4, listOf ws4.toArray e4), (lo3, listOf ws3.toArray e3), (lo2, listOf ws2.toArray e2), (lo1, listOf ws1.toArray e1)]) _ _ ?q31xk1 ?q31xk2 ?q31xk3 ?q31xk4 ?q31xk5 ?q31xk6 ?q31xk7 ?q31xk8 ?q31xk9 ?q31xk10 ?q31xk11 ?q31xkR)
            case q31xk1 => k_asm
            case q31xk2 => assumption
            case q31xk3 => assumption
            case q31xk4 => k_asm
            case q31xk5 => k_asm
            case q31xk6 => exact newsSub NG (by first | ((try simp only [List.cons_append, List.nil_append, List.append_assoc]); (repeat (first | (refine List.forall_mem_cons.mpr (And.intro ?_ ?_); (focus ((repeat (first | with_reducible exact List.mem_cons_self | with_reducible apply List.mem_cons_of_mem | with_reducible apply List.mem_append_right)); done))) | with_reducible exact subNil _ | with_reducible refine List.forall_mem_append.mpr (And.intro ?_ ?_) | (focus (intro p hp; (repeat (first | with_reducible exact hp | with_reducible exact List.mem_append_left _ hp | with_reducible apply List.mem_cons_of_mem | with_reducible apply List.mem_append_right)); done)))); done) | (intro p hp; simp at hp ⊢; rcases hp with h9 | h9 | h9 | h9 | h9 | h9 | h9 | h9 | h9 | h9 | h9 | h9 | h9 <;> simp [h9]))
            case q31xk7 => exact offMain (H := [(DG, listOf ys.toArray ys.length)]) (CC := [(LL + 1 + 1 + 1 + 1 + 1 + 1, ob2), (LL + 1 + 1 + 1 + 1 + 1, os2), (LL + 1 + 1 + 1 + 1, ou2), (LL + 1 + 1 + 1, ot2), (LL + 1 + 1, oo2), (LL + 1, op)]) (LS := [(lo4, listOf ws4.toArray e4), (lo3, listOf ws3.toArray e3), (lo2, listOf ws2.toArray e2), (lo1, listOf ws1.toArray e1)]) (T := (T2d ++ T3d)) NG (ixSub [0] rfl) (ixSub [1, 2, 3, 4, 5, 6] rfl) (ixSub [7, 8, 9, 10] rfl) (ixSubT 11 [] rfl) (by first | ((repeat (first | (refine List.forall_mem_cons.mpr (And.intro ?_ ?_); (focus (rfl; done))) | with_reducible exact subNil _)); done) | (intro p hp; simp at hp; rcases hp with rfl <;> rfl)) htC (by first | ((repeat (first | (refine List.forall_mem_cons.mpr (And.intro ?_ ?_); (focus (rfl; done))) | with_reducible exact subNil _)); done) | (intro p hp; simp at hp; rcases hp with rfl | rfl | rfl | rfl <;> rfl)) (tabs0 hT2d hT3d) (Off.cons (List.forall_mem_cons.mpr ⟨n_lo4_DG.ne, (List.forall_mem_cons.mpr ⟨n_lo3_DG.ne, (List.forall_mem_cons.mpr ⟨n_lo2_DG.ne, (List.forall_mem_cons.mpr ⟨n_lo1_DG.ne, (fun _ h => nomatch h)⟩)⟩)⟩)⟩) (offNil _))
            case q31xk8 => k_asm
            case q31xk9 => first | exact rfl | assumption
            case q31xk10 => ktr_room
            case q31xk11 => ktr_units
            refine lotPost ?_
            intro lo5 ws5 R5 e5 T2e T3e h' tk' F' N' D' hT2e hT3e hT2eO hIR5 hLR5 hlR5
            dsimp only
            have n_lo5_lo4 : Ap lo5 lo4 := ⟨D' (lo5, listOf ws5.toArray e5) (ixMem 0 rfl) (lo4, listOf ws4.toArray e4) (ixMem 6 rfl)⟩
            have n_lo5_lo3 : Ap lo5 lo3 := ⟨D' (lo5, listOf ws5.toArray e5) (ixMem 0 rfl) (lo3, listOf ws3.toArray e3) (ixMem 7 rfl)⟩
            have n_lo5_lo2 : Ap lo5 lo2 := ⟨D' (lo5, listOf ws5.toArray e5) (ixMem 0 rfl) (lo2, listOf ws2.toArray e2) (ixMem 8 rfl)⟩
            have n_lo5_lo1 : Ap lo5 lo1 := ⟨D' (lo5, listOf ws5.toArray e5) (ixMem 0 rfl) (lo1, listOf ws1.toArray e1) (ixMem 9 rfl)⟩
            have N20 := newsSub (xs := (LL + 1 + 1 + 1 + 1 + 1 + 1, ob2) :: (LL + 1 + 1 + 1 + 1 + 1, os2) :: (LL + 1 + 1 + 1 + 1, ou2) :: (LL + 1 + 1 + 1, ot2) :: (LL + 1 + 1, oo2) :: (LL + 1, op) :: (lo5, listOf ws5.toArray e5) :: (lo4, listOf ws4.toArray e4) :: (lo3, listOf ws3.toArray e3) :: (lo2, listOf ws2.toArray e2) :: (lo1, listOf ws1.toArray e1) :: (T2e ++ T3e)) N' (by first | ((try simp only [List.cons_append, List.nil_append, List.append_assoc]); (repeat (first | (refine List.forall_mem_cons.mpr (And.intro ?_ ?_); (focus ((repeat (first | with_reducible exact List.mem_cons_self | with_reducible apply List.mem_cons_of_mem | with_reducible apply List.mem_append_right)); done))) | with_reducible exact subNil _ | with_reducible refine List.forall_mem_append.mpr (And.intro ?_ ?_) | (focus (intro p hp; (repeat (first | with_reducible exact hp | with_reducible exact List.mem_append_left _ hp | with_reducible apply List.mem_cons_of_mem | with_reducible apply List.mem_append_right)); done)))); done) | (intro p hp; simp at hp ⊢; rcases hp with h9 | h9 | h9 | h9 | h9 | h9 | h9 | h9 | h9 | h9 | h9 | h9 | h9 <;> simp [h9]))
            (try clear N'); (try clear NG); (try clear D')
            (try clear n_lo5_DG)
            (try clear n_lo4_DG)
            (try clear n_lo3_DG)
            (try clear n_lo2_DG)
            (try clear n_lo1_DG)
            rw [apLLen] at hlR4 hlR5
            have hw5 := hIR5.length
            have hR5 := Box.mk (apLen hP hst1 hst2 hLR5.1 (apLot hLR5))
            have bR4 := lotB hLR4 hp0
            have bR5 := lotB hLR5 hp0
            k_steps
            unfold Hold
            rename_i FL5 NL5
            k_dflt (refine' sums_ctr lo4 lo5 ws4 ws5 R4 R5 e4 e5 P _ T2e T3e (n_lo5_lo4.ne.symm) hT2e hT3e hT2eO hp0 hp1 hIR4 hIR5 (fun a ha => by have := bR4 a ha; omega) (fun a ha => by have := bR5 a ha; omega) (by omega) (by omega) _ _ _ _ _ _ _ _ _ _ _ _ _ _ _ ([(LL + 1 + 1 + 1 + 1 + 1 + 1, ob2), (LL + 1 + 1 + 1 + 1 + 1, os2), (LL + 1 + 1 + 1 + 1, ou2), (LL + 1 + 1 + 1, ot2), (LL + 1 + 1, oo2), (LL + 1, op)] ++ [(lo3, listOf ws3.toArray e3), (lo2, listOf ws2.toArray e2), (lo1, listOf ws1.toArray e1)]) _ _ ?q32xk1 ?q32xk2 ?q32xk3 ?q32xk4 ?q32xk5 ?q32xk6 ?q32xk7 ?q32xk8 ?q32xk9 ?q32xk10 ?q32xk11 ?q32xkR)
            case q32xk1 => k_asm
            case q32xk2 => assumption
            case q32xk3 => assumption
            case q32xk4 => k_asm
            case q32xk5 => k_asm
            case q32xk6 => exact newsSub NL5 (by first | ((try simp only [List.cons_append, List.nil_append, List.append_assoc]); (repeat (first | (refine List.forall_mem_cons.mpr (And.intro ?_ ?_); (focus ((repeat (first | with_reducible exact List.mem_cons_self | with_reducible apply List.mem_cons_of_mem | with_reducible apply List.mem_append_right)); done))) | with_reducible exact subNil _ | with_reducible refine List.forall_mem_append.mpr (And.intro ?_ ?_) | (focus (intro p hp; (repeat (first | with_reducible exact hp | with_reducible exact List.mem_append_left _ hp | with_reducible apply List.mem_cons_of_mem | with_reducible apply List.mem_append_right)); done)))); done) | (intro p hp; simp at hp ⊢; rcases hp with h9 | h9 | h9 | h9 | h9 | h9 | h9 | h9 | h9 | h9 | h9 | h9 | h9 <;> simp [h9]))
            case q32xk7 => exact offMain (H := [(lo4, listOf ws4.toArray e4), (lo5, listOf ws5.toArray e5)]) (CC := [(LL + 1 + 1 + 1 + 1 + 1 + 1, ob2), (LL + 1 + 1 + 1 + 1 + 1, os2), (LL + 1 + 1 + 1 + 1, ou2), (LL + 1 + 1 + 1, ot2), (LL + 1 + 1, oo2), (LL + 1, op)]) (LS := [(lo3, listOf ws3.toArray e3), (lo2, listOf ws2.toArray e2), (lo1, listOf ws1.toArray e1)]) (T := (T2e ++ T3e)) NL5 (ixSub [7, 6] rfl) (ixSub [0, 1, 2, 3, 4, 5] rfl) (ixSub [8, 9, 10] rfl) (ixSubT 11 [] rfl) (by first | ((repeat (first | (refine List.forall_mem_cons.mpr (And.intro ?_ ?_); (focus (rfl; done))) | with_reducible exact subNil _)); done) | (intro p hp; simp at hp; rcases hp with rfl | rfl <;> rfl)) htC (by first | ((repeat (first | (refine List.forall_mem_cons.mpr (And.intro ?_ ?_); (focus (rfl; done))) | with_reducible exact subNil _)); done) | (intro p hp; simp at hp; rcases hp with rfl | rfl | rfl <;> rfl)) (tabs0 hT2e hT3e) (Off.cons (List.forall_mem_cons.mpr ⟨n_lo4_lo3.ne.symm, (List.forall_mem_cons.mpr ⟨n_lo4_lo2.ne.symm, (List.forall_mem_cons.mpr ⟨n_lo4_lo1.ne.symm, (fun _ h => nomatch h)⟩)⟩)⟩) (Off.cons (List.forall_mem_cons.mpr ⟨n_lo5_lo3.ne.symm, (List.forall_mem_cons.mpr ⟨n_lo5_lo2.ne.symm, (List.forall_mem_cons.mpr ⟨n_lo5_lo1.ne.symm, (fun _ h => nomatch h)⟩)⟩)⟩) (offNil _)))
            case q32xk8 => k_asm
            case q32xk9 => first | exact rfl | assumption
            case q32xk10 => ktr_room
            case q32xk11 => ktr_units
            refine sumsPost ?_
            intro lo6 ws6 S6 e6 T2f T3f h' tk' F' N' D' hT2f hT3f hT2fO hIS6 hLS6 n1x n2x
            have n_lo6_lo4 := Ap.mk n1x
            have n_lo6_lo5 := Ap.mk n2x
            clear n1x n2x
            dsimp only
            have n_lo6_lo3 : Ap lo6 lo3 := ⟨D' (lo6, listOf ws6.toArray e6) (ixMem 0 rfl) (lo3, listOf ws3.toArray e3) (ixMem 6 rfl)⟩
            have n_lo6_lo2 : Ap lo6 lo2 := ⟨D' (lo6, listOf ws6.toArray e6) (ixMem 0 rfl) (lo2, listOf ws2.toArray e2) (ixMem 7 rfl)⟩
            have n_lo6_lo1 : Ap lo6 lo1 := ⟨D' (lo6, listOf ws6.toArray e6) (ixMem 0 rfl) (lo1, listOf ws1.toArray e1) (ixMem 8 rfl)⟩
            have N21 := newsSub (xs := (LL + 1 + 1 + 1 + 1 + 1 + 1, ob2) :: (LL + 1 + 1 + 1 + 1 + 1, os2) :: (LL + 1 + 1 + 1 + 1, ou2) :: (LL + 1 + 1 + 1, ot2) :: (LL + 1 + 1, oo2) :: (LL + 1, op) :: (lo6, listOf ws6.toArray e6) :: (lo5, listOf ws5.toArray e5) :: (lo4, listOf ws4.toArray e4) :: (lo3, listOf ws3.toArray e3) :: (lo2, listOf ws2.toArray e2) :: (lo1, listOf ws1.toArray e1) :: (T2f ++ T3f)) N' (by first | ((try simp only [List.cons_append, List.nil_append, List.append_assoc]); (repeat (first | (refine List.forall_mem_cons.mpr (And.intro ?_ ?_); (focus ((repeat (first | with_reducible exact List.mem_cons_self | with_reducible apply List.mem_cons_of_mem | with_reducible apply List.mem_append_right)); done))) | with_reducible exact subNil _ | with_reducible refine List.forall_mem_append.mpr (And.intro ?_ ?_) | (focus (intro p hp; (repeat (first | with_reducible exact hp | with_reducible exact List.mem_append_left _ hp | with_reducible apply List.mem_cons_of_mem | with_reducible apply List.mem_append_right)); done)))); done) | (intro p hp; simp at hp ⊢; rcases hp with h9 | h9 | h9 | h9 | h9 | h9 | h9 | h9 | h9 | h9 | h9 | h9 | h9 | h9 <;> simp [h9]))
            (try clear N'); (try clear D')
            have hw6 := hIS6.length
            have hS6P : S6.length ≤ P := lenLe hLS6.1 (lotB hLS6 hp0)
            have hS6 := Box.mk (apLen hP hst1 hst2 hLS6.1 (apSums hP hA1 hB1 (apLot hLR4) (apLot hLR5) (sumLot hP hLS6)))
            have stop := StopC.mk
            k_steps
            unfold Hold
            rename_i hm9 tkm9 vm9 tm9 hvm9 FM NM
            refine ne_int ?_
            have e9 : (S6.length : Int) = vm9 := minEnd (by assumption) (by assumption) (by assumption) (by assumption) hvm9 hR4.out hR5.out hS6.out
            rw [e9, bne_self_eq_false]
            clear e9 hvm9
            have N22 := newsSub (xs := (LL + 1 + 1 + 1 + 1 + 1 + 1, ob2) :: (LL + 1 + 1 + 1 + 1 + 1, os2) :: (LL + 1 + 1 + 1 + 1, ou2) :: (LL + 1 + 1 + 1, ot2) :: (LL + 1 + 1, oo2) :: (LL + 1, op) :: (lo3, listOf ws3.toArray e3) :: (lo2, listOf ws2.toArray e2) :: (lo1, listOf ws1.toArray e1) :: (T2f ++ T3f)) NM (ixSubT 12 [0, 1, 2, 3, 4, 5, 9, 10, 11] rfl)
            (try clear NM); (try clear N21)
            k_steps
            unfold Hold
            k_dflt (refine LCg.ListComp_U (F₀ := FM) (by with_unfolding_all rfl) (by decide) (by rfl) (by decide) (by rfl) ?_)
            k_steps
            unfold Hold
            k_dflt (refine LCg.CompSrc.ledger (by rfl) FM N22 (ax := lo1) (its := List.toArray ws1) (k := e1) (ixMem 8 rfl) (by rw [sizeLine_eq]; simp; omega) ?_)
            intro g9
            k_dflt (refine compInv (n := (List.toArray ws1).size) (fun i ys news => news = (LL + 1 + 1 + 1 + 1 + 1 + 1, ob2) :: (LL + 1 + 1 + 1 + 1 + 1, os2) :: (LL + 1 + 1 + 1 + 1, ou2) :: (LL + 1 + 1 + 1, ot2) :: (LL + 1 + 1, oo2) :: (LL + 1, op) :: (lo3, listOf ws3.toArray e3) :: (lo2, listOf ws2.toArray e2) :: (lo1, listOf ws1.toArray e1) :: (T2f ++ T3f) ∧ IntsAre ys ((A.take i).map (· + stp))) ?_ ?_ (List.toArray ws1).size 0 [] _ (by omega) ⟨rfl, .nil⟩)
            · rintro ys news ⟨rfl, hy⟩
              rw [show (List.toArray ws1).size = A.length by simpa using hw1, List.take_length] at hy
              unfold LCg.FinE
              intro DG hG1 tkG FG NG oG
              (try clear FM); (try clear N22)
              dsimp only
              k_steps
              unfold Hold
              have oG' := oG
              obtain ⟨-, -, -, -, -, -, q0z, q1z, q2z, -⟩ := oG'
              have n_lo3_DG : Ap lo3 DG := ⟨q0z⟩
              clear q0z
              have n_lo2_DG : Ap lo2 DG := ⟨q1z⟩
              clear q1z
              have n_lo1_DG : Ap lo1 DG := ⟨q2z⟩
              clear q2z
              k_dflt (refine' lot_ctr DG ys (A.map (· + stp)) ys.length P _ T2f T3f hT2f hT3f hT2fO hp0 hp1 hy (fun x hx => by obtain ⟨a, ha, rfl⟩ := List.mem_map.mp hx; have := bA a ha; exact bits_small (by omega) (by omega)) (by rw [List.length_map]; omega) _ _ _ _ _ _ _ _ _ _ _ _ _ _ _ ([(LL + 1 + 1 + 1 + 1 + 1 + 1, ob2), (LL + 1 + 1 + 1 + 1 + 1, os2), (LL + 1 + 1 + 1 + 1, ou2), (LL + 1 + 1 + 1, ot2), (LL + 1 + 1, oo2), (LL + 1, op)] ++ [(lo3, listOf ws3.toArray e3), (lo2, listOf ws2.toArray e2), (lo1, listOf ws1.toArray e1)]) _ _ ?q33xk1 ?q33xk2 ?q33xk3 ?q33xk4 ?q33xk5 ?q33xk6 ?q33xk7 ?q33xk8 ?q33xk9 ?q33xk10 ?q33xk11 ?q33xkR)
              case q33xk1 => k_asm
              case q33xk2 => assumption
              case q33xk3 => assumption
              case q33xk4 => k_asm
              case q33xk5 => k_asm
              case q33xk6 => exact newsSub NG (by first | ((try simp only [List.cons_append, List.nil_append, List.append_assoc]); (repeat (first | (refine List.forall_mem_cons.mpr (And.intro ?_ ?_); (focus ((repeat (first | with_reducible exact List.mem_cons_self | with_reducible apply List.mem_cons_of_mem | with_reducible apply List.mem_append_right)); done))) | with_reducible exact subNil _ | with_reducible refine List.forall_mem_append.mpr (And.intro ?_ ?_) | (focus (intro p hp; (repeat (first | with_reducible exact hp | with_reducible exact List.mem_append_left _ hp | with_reducible apply List.mem_cons_of_mem | with_reducible apply List.mem_append_right)); done)))); done) | (intro p hp; simp at hp ⊢; rcases hp with h9 | h9 | h9 | h9 | h9 | h9 | h9 | h9 | h9 | h9 | h9 | h9 <;> simp [h9]))
              case q33xk7 => exact offMain (H := [(DG, listOf ys.toArray ys.length)]) (CC := [(LL + 1 + 1 + 1 + 1 + 1 + 1, ob2), (LL + 1 + 1 + 1 + 1 + 1, os2), (LL + 1 + 1 + 1 + 1, ou2), (LL + 1 + 1 + 1, ot2), (LL + 1 + 1, oo2), (LL + 1, op)]) (LS := [(lo3, listOf ws3.toArray e3), (lo2, listOf ws2.toArray e2), (lo1, listOf ws1.toArray e1)]) (T := (T2f ++ T3f)) NG (ixSub [0] rfl) (ixSub [1, 2, 3, 4, 5, 6] rfl) (ixSub [7, 8, 9] rfl) (ixSubT 10 [] rfl) (by first | ((repeat (first | (refine List.forall_mem_cons.mpr (And.intro ?_ ?_); (focus (rfl; done))) | with_reducible exact subNil _)); done) | (intro p hp; simp at hp; rcases hp with rfl <;> rfl)) htC (by first | ((repeat (first | (refine List.forall_mem_cons.mpr (And.intro ?_ ?_); (focus (rfl; done))) | with_reducible exact subNil _)); done) | (intro p hp; simp at hp; rcases hp with rfl | rfl | rfl <;> rfl)) (tabs0 hT2f hT3f) (Off.cons (List.forall_mem_cons.mpr ⟨n_lo3_DG.ne, (List.forall_mem_cons.mpr ⟨n_lo2_DG.ne, (List.forall_mem_cons.mpr ⟨n_lo1_DG.ne, (fun _ h => nomatch h)⟩)⟩)⟩) (offNil _))
              case q33xk8 => k_asm
              case q33xk9 => first | exact rfl | assumption
              case q33xk10 => ktr_room
              case q33xk11 => ktr_units
              refine lotPost ?_
              intro lo7 ws7 Mv e7 T2g T3g h' tk' F' N' D' hT2g hT3g hT2gO hIM hLM hlM
              dsimp only
              have n_lo7_lo3 : Ap lo7 lo3 := ⟨D' (lo7, listOf ws7.toArray e7) (ixMem 0 rfl) (lo3, listOf ws3.toArray e3) (ixMem 6 rfl)⟩
              have n_lo7_lo2 : Ap lo7 lo2 := ⟨D' (lo7, listOf ws7.toArray e7) (ixMem 0 rfl) (lo2, listOf ws2.toArray e2) (ixMem 7 rfl)⟩
              have n_lo7_lo1 : Ap lo7 lo1 := ⟨D' (lo7, listOf ws7.toArray e7) (ixMem 0 rfl) (lo1, listOf ws1.toArray e1) (ixMem 8 rfl)⟩
              have N23 := newsSub (xs := (LL + 1 + 1 + 1 + 1 + 1 + 1, ob2) :: (LL + 1 + 1 + 1 + 1 + 1, os2) :: (LL + 1 + 1 + 1 + 1, ou2) :: (LL + 1 + 1 + 1, ot2) :: (LL + 1 + 1, oo2) :: (LL + 1, op) :: (lo7, listOf ws7.toArray e7) :: (lo3, listOf ws3.toArray e3) :: (lo2, listOf ws2.toArray e2) :: (lo1, listOf ws1.toArray e1) :: (T2g ++ T3g)) N' (by first | ((try simp only [List.cons_append, List.nil_append, List.append_assoc]); (repeat (first | (refine List.forall_mem_cons.mpr (And.intro ?_ ?_); (focus ((repeat (first | with_reducible exact List.mem_cons_self | with_reducible apply List.mem_cons_of_mem | with_reducible apply List.mem_append_right)); done))) | with_reducible exact subNil _ | with_reducible refine List.forall_mem_append.mpr (And.intro ?_ ?_) | (focus (intro p hp; (repeat (first | with_reducible exact hp | with_reducible exact List.mem_append_left _ hp | with_reducible apply List.mem_cons_of_mem | with_reducible apply List.mem_append_right)); done)))); done) | (intro p hp; simp at hp ⊢; rcases hp with h9 | h9 | h9 | h9 | h9 | h9 | h9 | h9 | h9 | h9 | h9 | h9 <;> simp [h9]))
              (try clear N'); (try clear NG); (try clear D')
              (try clear n_lo7_DG)
              (try clear n_lo3_DG)
              (try clear n_lo2_DG)
              (try clear n_lo1_DG)
              rw [List.length_map] at hlM
              have hw7 := hIM.length
              have bM := lotB hLM hp0
              k_steps
              unfold Hold
              rename_i FL7 NL7
              k_dflt (refine' sums_ctr lo7 lo2 ws7 ws2 Mv B e7 e2 P _ T2g T3g (n_lo7_lo2.ne) hT2g hT3g hT2gO hp0 hp1 hIM hIB (fun a ha => by have := bM a ha; omega) bB' (by omega) (by omega) _ _ _ _ _ _ _ _ _ _ _ _ _ _ _ ([(LL + 1 + 1 + 1 + 1 + 1 + 1, ob2), (LL + 1 + 1 + 1 + 1 + 1, os2), (LL + 1 + 1 + 1 + 1, ou2), (LL + 1 + 1 + 1, ot2), (LL + 1 + 1, oo2), (LL + 1, op)] ++ [(lo3, listOf ws3.toArray e3), (lo1, listOf ws1.toArray e1)]) _ _ ?q34xk1 ?q34xk2 ?q34xk3 ?q34xk4 ?q34xk5 ?q34xk6 ?q34xk7 ?q34xk8 ?q34xk9 ?q34xk10 ?q34xk11 ?q34xkR)
              case q34xk1 => k_asm
              case q34xk2 => assumption
              case q34xk3 => assumption
              case q34xk4 => k_asm
              case q34xk5 => k_asm
              case q34xk6 => exact newsSub NL7 (by first | ((try simp only [List.cons_append, List.nil_append, List.append_assoc]); (repeat (first | (refine List.forall_mem_cons.mpr (And.intro ?_ ?_); (focus ((repeat (first | with_reducible exact List.mem_cons_self | with_reducible apply List.mem_cons_of_mem | with_reducible apply List.mem_append_right)); done))) | with_reducible exact subNil _ | with_reducible refine List.forall_mem_append.mpr (And.intro ?_ ?_) | (focus (intro p hp; (repeat (first | with_reducible exact hp | with_reducible exact List.mem_append_left _ hp | with_reducible apply List.mem_cons_of_mem | with_reducible apply List.mem_append_right)); done)))); done) | (intro p hp; simp at hp ⊢; rcases hp with h9 | h9 | h9 | h9 | h9 | h9 | h9 | h9 | h9 | h9 | h9 | h9 <;> simp [h9]))
              case q34xk7 => exact offMain (H := [(lo7, listOf ws7.toArray e7), (lo2, listOf ws2.toArray e2)]) (CC := [(LL + 1 + 1 + 1 + 1 + 1 + 1, ob2), (LL + 1 + 1 + 1 + 1 + 1, os2), (LL + 1 + 1 + 1 + 1, ou2), (LL + 1 + 1 + 1, ot2), (LL + 1 + 1, oo2), (LL + 1, op)]) (LS := [(lo3, listOf ws3.toArray e3), (lo1, listOf ws1.toArray e1)]) (T := (T2g ++ T3g)) NL7 (ixSub [6, 8] rfl) (ixSub [0, 1, 2, 3, 4, 5] rfl) (ixSub [7, 9] rfl) (ixSubT 10 [] rfl) (by first | ((repeat (first | (refine List.forall_mem_cons.mpr (And.intro ?_ ?_); (focus (rfl; done))) | with_reducible exact subNil _)); done) | (intro p hp; simp at hp; rcases hp with rfl | rfl <;> rfl)) htC (by first | ((repeat (first | (refine List.forall_mem_cons.mpr (And.intro ?_ ?_); (focus (rfl; done))) | with_reducible exact subNil _)); done) | (intro p hp; simp at hp; rcases hp with rfl | rfl <;> rfl)) (tabs0 hT2g hT3g) (Off.cons (List.forall_mem_cons.mpr ⟨n_lo7_lo3.ne.symm, (List.forall_mem_cons.mpr ⟨n_lo7_lo1.ne.symm, (fun _ h => nomatch h)⟩)⟩) (Off.cons (List.forall_mem_cons.mpr ⟨n_lo3_lo2.ne, (List.forall_mem_cons.mpr ⟨n_lo2_lo1.ne.symm, (fun _ h => nomatch h)⟩)⟩) (offNil _)))
              case q34xk8 => k_asm
              case q34xk9 => first | exact rfl | assumption
              case q34xk10 => ktr_room
              case q34xk11 => ktr_units
              refine sumsPost ?_
              intro lo8 ws8 S8 e8 T2h T3h h' tk' F' N' D' hT2h hT3h hT2hO hIS8 hLS8 n1x n2x
              have n_lo8_lo7 := Ap.mk n1x
              have n_lo8_lo2 := Ap.mk n2x
              clear n1x n2x
              dsimp only
              have n_lo8_lo3 : Ap lo8 lo3 := ⟨D' (lo8, listOf ws8.toArray e8) (ixMem 0 rfl) (lo3, listOf ws3.toArray e3) (ixMem 6 rfl)⟩
              have n_lo8_lo1 : Ap lo8 lo1 := ⟨D' (lo8, listOf ws8.toArray e8) (ixMem 0 rfl) (lo1, listOf ws1.toArray e1) (ixMem 7 rfl)⟩
              have N24 := newsSub (xs := (LL + 1 + 1 + 1 + 1 + 1 + 1, ob2) :: (LL + 1 + 1 + 1 + 1 + 1, os2) :: (LL + 1 + 1 + 1 + 1, ou2) :: (LL + 1 + 1 + 1, ot2) :: (LL + 1 + 1, oo2) :: (LL + 1, op) :: (lo8, listOf ws8.toArray e8) :: (lo7, listOf ws7.toArray e7) :: (lo3, listOf ws3.toArray e3) :: (lo2, listOf ws2.toArray e2) :: (lo1, listOf ws1.toArray e1) :: (T2h ++ T3h)) N' (by first | ((try simp only [List.cons_append, List.nil_append, List.append_assoc]); (repeat (first | (refine List.forall_mem_cons.mpr (And.intro ?_ ?_); (focus ((repeat (first | with_reducible exact List.mem_cons_self | with_reducible apply List.mem_cons_of_mem | with_reducible apply List.mem_append_right)); done))) | with_reducible exact subNil _ | with_reducible refine List.forall_mem_append.mpr (And.intro ?_ ?_) | (focus (intro p hp; (repeat (first | with_reducible exact hp | with_reducible exact List.mem_append_left _ hp | with_reducible apply List.mem_cons_of_mem | with_reducible apply List.mem_append_right)); done)))); done) | (intro p hp; simp at hp ⊢; rcases hp with h9 | h9 | h9 | h9 | h9 | h9 | h9 | h9 | h9 | h9 | h9 | h9 | h9 <;> simp [h9]))
              (try clear N'); (try clear D')
              have hw8 := hIS8.length
              have hS8 := moveSums hP hLS hLM hLS8
              have stop := StopC.mk
              k_steps
              unfold Hold
              refine ne_int ?_
              have e9 : (S8.length : Int) = Sm.length := by omega
              rw [e9, bne_self_eq_false]
              clear e9
              k_steps
              unfold Hold
              k_dflt (refine' sums_ctr lo2 lo1 ws2 ws1 B A e2 e1 P _ T2h T3h (n_lo2_lo1.ne) hT2h hT3h hT2hO hp0 hp1 hIB hIA1 bB' bA' (by omega) (by omega) _ _ _ _ _ _ _ _ _ _ _ _ _ _ _ ([(LL + 1 + 1 + 1 + 1 + 1 + 1, ob2), (LL + 1 + 1 + 1 + 1 + 1, os2), (LL + 1 + 1 + 1 + 1, ou2), (LL + 1 + 1 + 1, ot2), (LL + 1 + 1, oo2), (LL + 1, op)] ++ [(lo8, listOf ws8.toArray e8), (lo7, listOf ws7.toArray e7), (lo3, listOf ws3.toArray e3)]) _ _ ?q35xk1 ?q35xk2 ?q35xk3 ?q35xk4 ?q35xk5 ?q35xk6 ?q35xk7 ?q35xk8 ?q35xk9 ?q35xk10 ?q35xk11 ?q35xkR)
              case q35xk1 => k_asm
              case q35xk2 => assumption
              case q35xk3 => assumption
              case q35xk4 => k_asm
              case q35xk5 => k_asm
              case q35xk6 => exact newsSub N24 (by first | ((try simp only [List.cons_append, List.nil_append, List.append_assoc]); (repeat (first | (refine List.forall_mem_cons.mpr (And.intro ?_ ?_); (focus ((repeat (first | with_reducible exact List.mem_cons_self | with_reducible apply List.mem_cons_of_mem | with_reducible apply List.mem_append_right)); done))) | with_reducible exact subNil _ | with_reducible refine List.forall_mem_append.mpr (And.intro ?_ ?_) | (focus (intro p hp; (repeat (first | with_reducible exact hp | with_reducible exact List.mem_append_left _ hp | with_reducible apply List.mem_cons_of_mem | with_reducible apply List.mem_append_right)); done)))); done) | (intro p hp; simp at hp ⊢; rcases hp with h9 | h9 | h9 | h9 | h9 | h9 | h9 | h9 | h9 | h9 | h9 | h9 | h9 <;> simp [h9]))
              case q35xk7 => exact offMain (H := [(lo2, listOf ws2.toArray e2), (lo1, listOf ws1.toArray e1)]) (CC := [(LL + 1 + 1 + 1 + 1 + 1 + 1, ob2), (LL + 1 + 1 + 1 + 1 + 1, os2), (LL + 1 + 1 + 1 + 1, ou2), (LL + 1 + 1 + 1, ot2), (LL + 1 + 1, oo2), (LL + 1, op)]) (LS := [(lo8, listOf ws8.toArray e8), (lo7, listOf ws7.toArray e7), (lo3, listOf ws3.toArray e3)]) (T := (T2h ++ T3h)) N24 (ixSub [9, 10] rfl) (ixSub [0, 1, 2, 3, 4, 5] rfl) (ixSub [6, 7, 8] rfl) (ixSubT 11 [] rfl) (by first | ((repeat (first | (refine List.forall_mem_cons.mpr (And.intro ?_ ?_); (focus (rfl; done))) | with_reducible exact subNil _)); done) | (intro p hp; simp at hp; rcases hp with rfl | rfl <;> rfl)) htC (by first | ((repeat (first | (refine List.forall_mem_cons.mpr (And.intro ?_ ?_); (focus (rfl; done))) | with_reducible exact subNil _)); done) | (intro p hp; simp at hp; rcases hp with rfl | rfl | rfl <;> rfl)) (tabs0 hT2h hT3h) (Off.cons (List.forall_mem_cons.mpr ⟨n_lo8_lo2.ne, (List.forall_mem_cons.mpr ⟨n_lo7_lo2.ne, (List.forall_mem_cons.mpr ⟨n_lo3_lo2.ne, (fun _ h => nomatch h)⟩)⟩)⟩) (Off.cons (List.forall_mem_cons.mpr ⟨n_lo8_lo1.ne, (List.forall_mem_cons.mpr ⟨n_lo7_lo1.ne, (List.forall_mem_cons.mpr ⟨n_lo3_lo1.ne, (fun _ h => nomatch h)⟩)⟩)⟩) (offNil _)))
              case q35xk8 => k_asm
              case q35xk9 => first | exact rfl | assumption
              case q35xk10 => ktr_room
              case q35xk11 => ktr_units
              refine sumsPost ?_
              intro lo9 ws9 S9 e9 T2i T3i h' tk' F' N' D' hT2i hT3i hT2iO hIS9 hLS9 n1x n2x
              have n_lo9_lo2 := Ap.mk n1x
              have n_lo9_lo1 := Ap.mk n2x
              clear n1x n2x
              dsimp only
              have n_lo9_lo7 : Ap lo9 lo7 := ⟨D' (lo9, listOf ws9.toArray e9) (ixMem 0 rfl) (lo7, listOf ws7.toArray e7) (ixMem 7 rfl)⟩
              have n_lo9_lo3 : Ap lo9 lo3 := ⟨D' (lo9, listOf ws9.toArray e9) (ixMem 0 rfl) (lo3, listOf ws3.toArray e3) (ixMem 8 rfl)⟩
              have N25 := newsSub (xs := (LL + 1 + 1 + 1 + 1 + 1 + 1, ob2) :: (LL + 1 + 1 + 1 + 1 + 1, os2) :: (LL + 1 + 1 + 1 + 1, ou2) :: (LL + 1 + 1 + 1, ot2) :: (LL + 1 + 1, oo2) :: (LL + 1, op) :: (lo9, listOf ws9.toArray e9) :: (lo7, listOf ws7.toArray e7) :: (lo3, listOf ws3.toArray e3) :: (lo2, listOf ws2.toArray e2) :: (lo1, listOf ws1.toArray e1) :: (T2i ++ T3i)) N' (by first | ((try simp only [List.cons_append, List.nil_append, List.append_assoc]); (repeat (first | (refine List.forall_mem_cons.mpr (And.intro ?_ ?_); (focus ((repeat (first | with_reducible exact List.mem_cons_self | with_reducible apply List.mem_cons_of_mem | with_reducible apply List.mem_append_right)); done))) | with_reducible exact subNil _ | with_reducible refine List.forall_mem_append.mpr (And.intro ?_ ?_) | (focus (intro p hp; (repeat (first | with_reducible exact hp | with_reducible exact List.mem_append_left _ hp | with_reducible apply List.mem_cons_of_mem | with_reducible apply List.mem_append_right)); done)))); done) | (intro p hp; simp at hp ⊢; rcases hp with h9 | h9 | h9 | h9 | h9 | h9 | h9 | h9 | h9 | h9 | h9 | h9 | h9 <;> simp [h9]))
              (try clear N'); (try clear D')
              k_steps
              unfold Hold
              k_dflt (refine ke_ne_ints (isL N25 lo9 ws9 e9 (ixMem 6 rfl)) (isL N25 lo3 ws3 e3 (ixMem 8 rfl)) hIS9 hIS (by first | ktr_units | decide) ?_)
              rw [decide_eq_true (sumsComm hP hLS hLS9)]
              (try dsimp only [Bool.not_true])
              k_steps
              unfold Hold
              rename_i lN hN FN NN lN'
              obtain ⟨tq, NN'⟩ : ∃ tq, News _ LL hN ((lN, listOf [.int stp tq].toArray 0) :: ((LL + 1 + 1 + 1 + 1 + 1 + 1, ob2) :: (LL + 1 + 1 + 1 + 1 + 1, os2) :: (LL + 1 + 1 + 1 + 1, ou2) :: (LL + 1 + 1 + 1, ot2) :: (LL + 1 + 1, oo2) :: (LL + 1, op) :: (lo9, listOf ws9.toArray e9) :: (lo7, listOf ws7.toArray e7) :: (lo3, listOf ws3.toArray e3) :: (lo2, listOf ws2.toArray e2) :: (lo1, listOf ws1.toArray e1) :: (T2i ++ T3i))) := ⟨_, NN⟩
              clear NN
              have n_lN_lo9 : Ap lN lo9 := ⟨by k_ne⟩
              have n_lN_lo7 : Ap lN lo7 := ⟨by k_ne⟩
              have n_lN_lo3 : Ap lN lo3 := ⟨by k_ne⟩
              have n_lN_lo2 : Ap lN lo2 := ⟨by k_ne⟩
              have n_lN_lo1 : Ap lN lo1 := ⟨by k_ne⟩
              clear lN'
              have N26 := newsSub (xs := (LL + 1 + 1 + 1 + 1 + 1 + 1, ob2) :: (LL + 1 + 1 + 1 + 1 + 1, os2) :: (LL + 1 + 1 + 1 + 1, ou2) :: (LL + 1 + 1 + 1, ot2) :: (LL + 1 + 1, oo2) :: (LL + 1, op) :: (lN, listOf [.int stp tq].toArray 0) :: (lo7, listOf ws7.toArray e7) :: (lo3, listOf ws3.toArray e3) :: (lo2, listOf ws2.toArray e2) :: (lo1, listOf ws1.toArray e1) :: (T2i ++ T3i)) NN' (ixSubT 12 [1, 2, 3, 4, 5, 6, 0, 8, 9, 10, 11] rfl)
              clear NN'
              k_dflt (refine' sums_ctr lN lo1 [.int stp tq] ws1 [stp] A 0 e1 P _ T2i T3i (n_lN_lo1.ne) hT2i hT3i hT2iO hp0 hp1 (.cons stp tq .nil) hIA1 (fun a ha => by rw [List.mem_singleton.mp ha]; omega) bA' (by simp) (by omega) _ _ _ _ _ _ _ _ _ _ _ _ _ _ _ ([(LL + 1 + 1 + 1 + 1 + 1 + 1, ob2), (LL + 1 + 1 + 1 + 1 + 1, os2), (LL + 1 + 1 + 1 + 1, ou2), (LL + 1 + 1 + 1, ot2), (LL + 1 + 1, oo2), (LL + 1, op)] ++ [(lo7, listOf ws7.toArray e7), (lo3, listOf ws3.toArray e3), (lo2, listOf ws2.toArray e2)]) _ _ ?q36xk1 ?q36xk2 ?q36xk3 ?q36xk4 ?q36xk5 ?q36xk6 ?q36xk7 ?q36xk8 ?q36xk9 ?q36xk10 ?q36xk11 ?q36xkR)
              case q36xk1 => k_asm
              case q36xk2 => assumption
              case q36xk3 => assumption
              case q36xk4 => k_asm
              case q36xk5 => k_asm
              case q36xk6 => exact newsSub N26 (by first | ((try simp only [List.cons_append, List.nil_append, List.append_assoc]); (repeat (first | (refine List.forall_mem_cons.mpr (And.intro ?_ ?_); (focus ((repeat (first | with_reducible exact List.mem_cons_self | with_reducible apply List.mem_cons_of_mem | with_reducible apply List.mem_append_right)); done))) | with_reducible exact subNil _ | with_reducible refine List.forall_mem_append.mpr (And.intro ?_ ?_) | (focus (intro p hp; (repeat (first | with_reducible exact hp | with_reducible exact List.mem_append_left _ hp | with_reducible apply List.mem_cons_of_mem | with_reducible apply List.mem_append_right)); done)))); done) | (intro p hp; simp at hp ⊢; rcases hp with h9 | h9 | h9 | h9 | h9 | h9 | h9 | h9 | h9 | h9 | h9 | h9 | h9 <;> simp [h9]))
              case q36xk7 => exact offMain (H := [(lN, listOf [.int stp tq].toArray 0), (lo1, listOf ws1.toArray e1)]) (CC := [(LL + 1 + 1 + 1 + 1 + 1 + 1, ob2), (LL + 1 + 1 + 1 + 1 + 1, os2), (LL + 1 + 1 + 1 + 1, ou2), (LL + 1 + 1 + 1, ot2), (LL + 1 + 1, oo2), (LL + 1, op)]) (LS := [(lo7, listOf ws7.toArray e7), (lo3, listOf ws3.toArray e3), (lo2, listOf ws2.toArray e2)]) (T := (T2i ++ T3i)) N26 (ixSub [6, 10] rfl) (ixSub [0, 1, 2, 3, 4, 5] rfl) (ixSub [7, 8, 9] rfl) (ixSubT 11 [] rfl) (by first | ((repeat (first | (refine List.forall_mem_cons.mpr (And.intro ?_ ?_); (focus (rfl; done))) | with_reducible exact subNil _)); done) | (intro p hp; simp at hp; rcases hp with rfl | rfl <;> rfl)) htC (by first | ((repeat (first | (refine List.forall_mem_cons.mpr (And.intro ?_ ?_); (focus (rfl; done))) | with_reducible exact subNil _)); done) | (intro p hp; simp at hp; rcases hp with rfl | rfl | rfl <;> rfl)) (tabs0 hT2i hT3i) (Off.cons (List.forall_mem_cons.mpr ⟨n_lN_lo7.ne.symm, (List.forall_mem_cons.mpr ⟨n_lN_lo3.ne.symm, (List.forall_mem_cons.mpr ⟨n_lN_lo2.ne.symm, (fun _ h => nomatch h)⟩)⟩)⟩) (Off.cons (List.forall_mem_cons.mpr ⟨n_lo7_lo1.ne, (List.forall_mem_cons.mpr ⟨n_lo3_lo1.ne, (List.forall_mem_cons.mpr ⟨n_lo2_lo1.ne, (fun _ h => nomatch h)⟩)⟩)⟩) (offNil _)))
              case q36xk8 => k_asm
              case q36xk9 => first | exact rfl | assumption
              case q36xk10 => ktr_room
              case q36xk11 => ktr_units
              refine sumsPost ?_
              intro lo10 ws10 S10 e10 T2j T3j h' tk' F' N' D' hT2j hT3j hT2jO hIS10 hLS10 n1x n2x
              have n_lo10_lN := Ap.mk n1x
              have n_lo10_lo1 := Ap.mk n2x
              clear n1x n2x
              dsimp only
              have n_lo10_lo7 : Ap lo10 lo7 := ⟨D' (lo10, listOf ws10.toArray e10) (ixMem 0 rfl) (lo7, listOf ws7.toArray e7) (ixMem 6 rfl)⟩
              have n_lo10_lo3 : Ap lo10 lo3 := ⟨D' (lo10, listOf ws10.toArray e10) (ixMem 0 rfl) (lo3, listOf ws3.toArray e3) (ixMem 7 rfl)⟩
              have n_lo10_lo2 : Ap lo10 lo2 := ⟨D' (lo10, listOf ws10.toArray e10) (ixMem 0 rfl) (lo2, listOf ws2.toArray e2) (ixMem 8 rfl)⟩
              have N27 := newsSub (xs := (LL + 1 + 1 + 1 + 1 + 1 + 1, ob2) :: (LL + 1 + 1 + 1 + 1 + 1, os2) :: (LL + 1 + 1 + 1 + 1, ou2) :: (LL + 1 + 1 + 1, ot2) :: (LL + 1 + 1, oo2) :: (LL + 1, op) :: (lo10, listOf ws10.toArray e10) :: (lN, listOf [.int stp tq].toArray 0) :: (lo7, listOf ws7.toArray e7) :: (lo3, listOf ws3.toArray e3) :: (lo2, listOf ws2.toArray e2) :: (lo1, listOf ws1.toArray e1) :: (T2j ++ T3j)) N' (by first | ((try simp only [List.cons_append, List.nil_append, List.append_assoc]); (repeat (first | (refine List.forall_mem_cons.mpr (And.intro ?_ ?_); (focus ((repeat (first | with_reducible exact List.mem_cons_self | with_reducible apply List.mem_cons_of_mem | with_reducible apply List.mem_append_right)); done))) | with_reducible exact subNil _ | with_reducible refine List.forall_mem_append.mpr (And.intro ?_ ?_) | (focus (intro p hp; (repeat (first | with_reducible exact hp | with_reducible exact List.mem_append_left _ hp | with_reducible apply List.mem_cons_of_mem | with_reducible apply List.mem_append_right)); done)))); done) | (intro p hp; simp at hp ⊢; rcases hp with h9 | h9 | h9 | h9 | h9 | h9 | h9 | h9 | h9 | h9 | h9 | h9 | h9 | h9 <;> simp [h9]))
              (try clear N'); (try clear D')
              k_steps
              unfold Hold
              k_dflt (refine ke_eq_ints (isL N27 lo10 ws10 e10 (ixMem 6 rfl)) (isL N27 lo7 ws7 e7 (ixMem 8 rfl)) hIS10 hIM (by first | ktr_units | decide) ?_)
              rw [decide_eq_true (sumsOne hP hLM hLS10)]
              have stop := StopC.mk
              k_steps
              unfold Hold
              refine eq_int ?_
              have e11 : (Mv.length : Int) = A.length := by
                have := movedLen hP hLA.1 hLM.1 bA (lotPP hLM)
                omega
              rw [e11, beq_self_eq_true]
              rcases hT2j with rfl | ⟨v1, v2, v3, v4, rfl, v5, v6, v7⟩ <;> rcases hT3j with rfl | ⟨u1, u2, u3, u4, rfl, u5, u6, u7⟩
              all_goals k_steps
            · rintro i ys news v I oI C oC Dl m₂ h tk E' hi ⟨rfl, hy⟩ hv hC hx F10 N10 off nen
              (try clear FM); (try clear N22)
              obtain ⟨av, ta, hav, rfl⟩ := intsGet hIA1 (i := i) (v := v) (by simpa using hv)
              k_steps
              exact LCg.CompEnd.intro F10 N10 ((LL + 1 + 1 + 1 + 1 + 1 + 1, ob2) :: (LL + 1 + 1 + 1 + 1 + 1, os2) :: (LL + 1 + 1 + 1 + 1, ou2) :: (LL + 1 + 1 + 1, ot2) :: (LL + 1 + 1, oo2) :: (LL + 1, op) :: (lo3, listOf ws3.toArray e3) :: (lo2, listOf ws2.toArray e2) :: (lo1, listOf ws1.toArray e1) :: (T2f ++ T3f)) (fun p hp => hp) off (.inr ⟨listOf ws1.toArray e1, by simp, rfl, _, rfl⟩) ⟨rfl, by rw [take_snoc hav, List.map_append]; exact intsPush hy⟩
          · rintro i ys news v I oI C oC Dl m₂ h tk E' hi ⟨rfl, hy⟩ ⟨ti, rfl⟩ hC hx F10 N10 off nen
            (try clear FR); (try clear NR9); (try clear FQ); (try clear NQ); (try clear N19); (try clear FL4)
            have ez : (0 : Int) + (i : Int) = i := by omega
            rw [ez] at hx
            k_steps
            exact LCg.CompEnd.intro F10 N10 ((LL + 1 + 1 + 1 + 1 + 1 + 1, ob2) :: (LL + 1 + 1 + 1 + 1 + 1, os2) :: (LL + 1 + 1 + 1 + 1, ou2) :: (LL + 1 + 1 + 1, ot2) :: (LL + 1 + 1, oo2) :: (LL + 1, op) :: (lo4, listOf ws4.toArray e4) :: (lo3, listOf ws3.toArray e3) :: (lo2, listOf ws2.toArray e2) :: (lo1, listOf ws1.toArray e1) :: (T2d ++ T3d)) (fun p hp => hp) off trivial ⟨rfl, by rw [apLSucc]; exact intsPush hy⟩
        · rintro i ys news v I oI C oC Dl m₂ h tk E' hi ⟨rfl, hy⟩ ⟨ti, rfl⟩ hC hx F10 N10 off nen
          (try clear FR); (try clear NR9); (try clear FQ); (try clear NQ); (try clear N18)
          have ez : (0 : Int) + (i : Int) = i := by omega
          rw [ez] at hx
          k_steps
          exact LCg.CompEnd.intro F10 N10 ((LL + 1 + 1 + 1 + 1 + 1 + 1, ob2) :: (LL + 1 + 1 + 1 + 1 + 1, os2) :: (LL + 1 + 1 + 1 + 1, ou2) :: (LL + 1 + 1 + 1, ot2) :: (LL + 1 + 1, oo2) :: (LL + 1, op) :: (lo3, listOf ws3.toArray e3) :: (lo2, listOf ws2.toArray e2) :: (lo1, listOf ws1.toArray e1) :: (T2c ++ T3c)) (fun p hp => hp) off trivial ⟨rfl, by rw [apLSucc]; exact intsPush hy⟩
      · rintro i v1 I oI c oc C oC Dl h tk ys news E' hi ⟨ti, rfl⟩ ⟨rfl, rfl⟩ hoc F10 N10 off10 ne10
        (try clear FR); (try clear NR9); (try clear FQ); (try clear NQ)
        have ez : (0 : Int) + (i : Int) = i := by omega
        rw [ez] at hoc
        refine wpAny_tests_one ?_
        k_steps
        unfold Hold
        k_dflt (refine' has_ctr lo3 ws3 Sm e3 i ti hIS hLS.1 (by omega) _ _ _ _ _ _ _ _ _ _ _ _ _ _ _ ([(I, oI), (c, oc), (Dl, LCg.lst []), (C, oC)] ++ ([(LL + 1 + 1 + 1 + 1 + 1 + 1, ob), (LL + 1 + 1 + 1 + 1 + 1, os), (LL + 1 + 1 + 1 + 1, ou2), (LL + 1 + 1 + 1, ot2), (LL + 1 + 1, oo2), (LL + 1, op)] ++ ([(lo2, listOf ws2.toArray e2), (lo1, listOf ws1.toArray e1)] ++ (T2c ++ T3c)))) _ _ ?q29xk1 ?q29xk2 ?q29xk3 ?q29xk4 ?q29xk5 ?q29xk6 ?q29xk7 ?q29xk8 ?q29xk9 ?q29xk10 ?q29xk11 ?q29xkR)
        case q29xk1 => k_asm
        case q29xk2 => assumption
        case q29xk3 => assumption
        case q29xk4 => k_asm
        case q29xk5 => k_asm
        case q29xk6 => exact newsSub N10 (ixSubT 13 [10, 0, 1, 2, 3, 4, 5, 6, 7, 8, 9, 11, 12] rfl)
        case q29xk7 => exact Off.cons (List.forall_mem_append.mpr ⟨fun q hq => off10 q (by simpa using hq) (lo3, listOf ws3.toArray e3) (ixMem 6 rfl), List.forall_mem_append.mpr ⟨fun q hq => tagNe N10 (p := q) (q := (lo3, listOf ws3.toArray e3)) ((ixSub [4, 5, 6, 7, 8, 9] rfl) q hq) (ixMem 10 rfl) (by rw [htC q hq]; exact (show (3 : Nat) ≠ 1 by decide)), List.forall_mem_append.mpr ⟨(List.forall_mem_cons.mpr ⟨n_lo3_lo2.ne.symm, (List.forall_mem_cons.mpr ⟨n_lo3_lo1.ne.symm, (fun _ h => nomatch h)⟩)⟩), fun q hq => tagNe N10 (p := q) (q := (lo3, listOf ws3.toArray e3)) ((ixSubT 13 [] rfl) q hq) (ixMem 10 rfl) (by rw [tabs0 hT2c hT3c q hq]; exact (show (0 : Nat) ≠ 1 by decide))⟩⟩⟩) (offNil _)
        case q29xk8 => k_asm
        case q29xk9 => first | exact rfl | assumption
        case q29xk10 => ktr_room
        case q29xk11 => ktr_units
        intro r hd' h' tk' F' N' D' ⟨hr, ehd⟩
        subst hr ehd
        dsimp only
        have N16 := newsSub (xs := (I, oI) :: (c, oc) :: (Dl, LCg.lst []) :: (C, oC) :: ((LL + 1 + 1 + 1 + 1 + 1 + 1, ob) :: (LL + 1 + 1 + 1 + 1 + 1, os) :: (LL + 1 + 1 + 1 + 1, ou2) :: (LL + 1 + 1 + 1, ot2) :: (LL + 1 + 1, oo2) :: (LL + 1, op) :: (lo3, listOf ws3.toArray e3) :: (lo2, listOf ws2.toArray e2) :: (lo1, listOf ws1.toArray e1) :: (T2c ++ T3c))) N' (ixSubT 13 [1, 2, 3, 4, 5, 6, 7, 8, 9, 10, 0, 11, 12] rfl)
        (try clear N'); (try clear N10); (try clear D')
        k_steps
        unfold Hold
        k_dflt (refine listComp2 F' (by with_unfolding_all rfl) (by decide) (by rfl) (by decide) (by rfl) (by rfl) (by decide) ?_)
        k_steps
        unfold Hold
        refine ⟨_, A.length, _, _, F', N16, Src.list rfl hw1 (by rw [sizeLine_eq]; omega) (ixMem 12 rfl), fun a ys nw => nw = (I, oI) :: (c, oc) :: (Dl, LCg.lst []) :: (C, oC) :: ((LL + 1 + 1 + 1 + 1 + 1 + 1, ob) :: (LL + 1 + 1 + 1 + 1 + 1, os) :: (LL + 1 + 1 + 1 + 1, ou2) :: (LL + 1 + 1 + 1, ot2) :: (LL + 1 + 1, oo2) :: (LL + 1, op) :: (lo3, listOf ws3.toArray e3) :: (lo2, listOf ws2.toArray e2) :: (lo1, listOf ws1.toArray e1) :: (T2c ++ T3c)) ∧ OnesJ P A B i a 0 0 ys, ⟨rfl, onesNil⟩, ?_, ?_, ?_⟩
        · rintro a ys nw ⟨rfl, hy⟩
          exact ⟨.inr ⟨listOf ws1.toArray e1, by simp, rfl, _, rfl⟩, onesLen hAP hBP hy (by omega)⟩
        · rintro g9 ys nw ⟨rfl, hy⟩
          unfold LCg.FinE
          intro DG hG1 tkG FG NG oG
          (try clear F'); (try clear N16)
          dsimp only
          k_steps
          unfold Hold
          rename_i lE4 hE4 FE4 NE4 lE4'
          obtain ⟨zs, hz⟩ := hy.1
          k_dflt (refine ke_ne_ints (isL NE4 DG ys ys.length (ixMem 1 rfl)) (isL NE4 lE4 [] 0 (ixMem 0 rfl)) hz .nil (by first | ktr_units | decide) ?_)
          rw [onesEnd hP hz hLS hy]
          cases hbb : decide ((i : Int) ∈ Sm)
          all_goals (k_steps; exact CEnd.intro FE4 NE4 (ixSubT 15 [2, 3, 4, 5, 6, 7, 8, 9, 10, 11, 12, 13, 14] rfl) off10 ⟨rfl, rfl⟩)
        · rintro a v1 I1 oI1 C1 oC1 D1' m2 h tk ys nw E2 ha hv1 ⟨rfl, hy⟩ hC1 hx1 F11 N11 off11 ne11
          (try clear F'); (try clear N16)
          obtain ⟨av, ta, hav, rfl⟩ := intsGet hIA1 hv1
          k_steps
          unfold Hold
          refine ⟨_, _, (I, oI) :: (c, oc) :: (Dl, LCg.lst []) :: (C, oC) :: ((LL + 1 + 1 + 1 + 1 + 1 + 1, ob) :: (LL + 1 + 1 + 1 + 1 + 1, os) :: (LL + 1 + 1 + 1 + 1, ou2) :: (LL + 1 + 1 + 1, ot2) :: (LL + 1 + 1, oo2) :: (LL + 1, op) :: (lo3, listOf ws3.toArray e3) :: (lo2, listOf ws2.toArray e2) :: (lo1, listOf ws1.toArray e1) :: (T2c ++ T3c)), B.length, _, _, rfl, F11, N11, off11, Src.list rfl hw2 (by rw [sizeLine_eq]; omega) (ixMem 11 rfl), fun b ys nw => nw = (I, oI) :: (c, oc) :: (Dl, LCg.lst []) :: (C, oC) :: ((LL + 1 + 1 + 1 + 1 + 1 + 1, ob) :: (LL + 1 + 1 + 1 + 1 + 1, os) :: (LL + 1 + 1 + 1 + 1, ou2) :: (LL + 1 + 1 + 1, ot2) :: (LL + 1 + 1, oo2) :: (LL + 1, op) :: (lo3, listOf ws3.toArray e3) :: (lo2, listOf ws2.toArray e2) :: (lo1, listOf ws1.toArray e1) :: (T2c ++ T3c)) ∧ OnesJ P A B i a av b ys, ⟨rfl, onesIn hy⟩, ?_, ?_, ?_⟩
          · rintro b ys nw ⟨rfl, hy⟩
            exact ⟨.inr ⟨listOf ws2.toArray e2, by simp, rfl, _, rfl⟩, onesLen hAP hBP hy (by omega)⟩
          · rintro ys nw ⟨rfl, hy⟩
            exact ⟨rfl, onesOut hav hy⟩
          · rintro b v2 I2 oI2 oC2 m3 h tk ys nw E3 hb hv2 ⟨rfl, hy⟩ hC2 hxa hxb F12 N12' off12 ne12
            (try clear F11); (try clear N11)
            obtain ⟨bv, tb, hbv, rfl⟩ := intsGet hIB hv2
            refine wpAny_tests_one ?_
            have eF : (av + bv).fmod (P : Int) = (av + bv) % (P : Int) := Int.fmod_eq_emod_of_nonneg _ (by omega)
            k_steps
            · rename_i hc
              exact CEnd.intro F12 N12' (fun p hp => hp) off12 ⟨rfl, onesPut hbv hy (eF.symm.trans hc)⟩
            · rename_i hc
              exact CEnd.intro F12 N12' (fun p hp => hp) off12 ⟨rfl, onesSkip hbv hy (fun e => hc (eF.trans e))⟩
  · rintro i ys news v I oI C oC Dl m₂ h tk E' hi ⟨TG, rfl, hTG, hyl, hyt⟩ hv hC hx F10 N10 off nen
    clear FC N7
    obtain ⟨n, tn, hn, rfl⟩ := intsGet hI1 (i := i) (v := v) (by simpa using hv)
    k_steps
    rename_i lt hh7 FT NT lT
    have eF : n.fmod (P : Int) = n % (P : Int) := Int.fmod_eq_emod_of_nonneg _ (by omega)
    obtain ⟨tu1, tu2, NT'⟩ : ∃ tu1 tu2, News _ LL hh7 ((lt, tupObj [.int (n % (P : Int)) tu1, .int 1 tu2] 0) :: (I, oI) :: (C, oC) :: (Dl, LCg.lst ys) :: ((LL + 1 + 1 + 1 + 1 + 1 + 1, ob) :: (LL + 1 + 1 + 1 + 1 + 1, os) :: (LL + 1 + 1 + 1 + 1, ou) :: (LL + 1 + 1 + 1, ot2) :: (LL + 1 + 1, oo2) :: (LL + 1, op) :: (D3, listOf us3.toArray 0) :: (lo2, listOf ws2.toArray e2) :: (lo1, listOf ws1.toArray e1) :: (TG ++ (T2b ++ T3b)))) := ⟨_, _, eF ▸ NT⟩
    refine LCg.CompEnd.intro FT NT' ((LL + 1 + 1 + 1 + 1 + 1 + 1, ob) :: (LL + 1 + 1 + 1 + 1 + 1, os) :: (LL + 1 + 1 + 1 + 1, ou) :: (LL + 1 + 1 + 1, ot2) :: (LL + 1 + 1, oo2) :: (LL + 1, op) :: (D3, listOf us3.toArray 0) :: (lo2, listOf ws2.toArray e2) :: (lo1, listOf ws1.toArray e1) :: (((lt, tupObj [.int (n % (P : Int)) tu1, .int 1 tu2] 0) :: TG) ++ (T2b ++ T3b))) (ixSubT 13 [1, 2, 3, 4, 5, 6, 7, 8, 9, 10, 11, 12, 0] rfl) (off3Mid off fun p hp => ?_) (.inr ⟨listOf us3.toArray 0, by simp, rfl, 0, rfl⟩) ⟨(lt, tupObj [.int (n % (P : Int)) tu1, .int 1 tu2] 0) :: TG, rfl, List.forall_mem_cons.mpr ⟨rfl, hTG⟩, by rw [List.length_append, hyl]; rfl, fun j v hj => ?_⟩
    · by_cases hpl : p = (lt, tupObj [.int (n % (P : Int)) tu1, .int 1 tu2] 0)
      · subst hpl
        exact .inr ⟨Nat.ne_of_lt lT.1, Nat.ne_of_lt lT.2.1, Nat.ne_of_lt lT.2.2.1⟩
      · refine .inl ?_
        simp [hpl] at hp ⊢
        exact hp
    · rcases Nat.lt_or_ge j ys.length with hlt | hge
      · rw [List.getElem?_append_left hlt] at hj
        obtain ⟨p, x, t, u, n', e1, e2, e3⟩ := hyt j v hj
        exact ⟨p, x, t, u, n', e1, e2, List.mem_cons_of_mem _ e3⟩
      · rw [List.getElem?_append_right hge] at hj
        have hj0 : j - ys.length = 0 := by
          have := (List.getElem?_eq_some_iff.mp hj).1
          simp at this; omega
        rw [hj0] at hj
        have hji : j = i := by omega
        subst hji
        exact ⟨lt, n % (P : Int), tu1, _, 0, (Option.some.inj hj).symm, by rw [List.getElem?_map, hn]; rfl, List.Mem.head _⟩
)
end
end
end Mine
theorem PySem.Challenge.cw_ga0003_02_holds : PySem.Challenge.rw_ga0003_02.Holds := by
  exact Mine.cw
