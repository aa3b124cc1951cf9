import PyProof.Rows.All
import Wide.All
import OpenK.AllK
import Wide.FinOn
import PyProof.WalksEnum
import PyProof.Rows.EnumRows
import PySem.Challenge.RW_ga0003_01
open PySem PySem.W PyProof.Rows PySem.Calls
set_option Elab.async false
set_option maxRecDepth 100000
set_option maxHeartbeats 8000000
namespace Mine
open_top hd for PySem.Challenge.rw_ga0003_01
section
/-- the two lists of entries have no address in common -/
def Off (xs ys : List (Addr × Obj)) : Prop := ∀ p ∈ xs, ∀ q ∈ ys, p.1 ≠ q.1

/-- a ledger may be read in any order, in part -/
theorem newsSub {h₀ h : Heap} {L : Addr} {xs ys : List (Addr × Obj)} (N : News h₀ L h ys) (hs : ∀ p ∈ xs, p ∈ ys) : News h₀ L h xs := fun p hp => N p (hs p hp)

/-- what a call of the def at f does, from any frame: hd is what it may read and turn of the caller's ledger -/
def Ctr (prog : Program) (w : World) (K : Frag) (p : Program) (loose : List Str) (mean : ExcName → Option Value) (mg mb : Str → Option Value) (f : Addr) (dN uN : Nat) (args : List Value) (hd : List (Addr × Obj)) (Post : Value → List (Addr × Obj) → Prop) : Prop :=
  ∀ (dp un : Nat) (gd : Option (List Code)) (cn : Str) (cs : Scope) (a : Addr) (ccd : Value) (cl : List (Str × Addr)) (outer : List Env) (A₀ : Around) (base h₀ : Heap) (L : Addr) (m : Str → Option Value) (s : Shared) (rest : List (Addr × Obj)) (Q E : Value → Shared → Prop),
    Below A₀ base outer h₀ → CodeHd base 34 30 → CodeHd base 41 37 → Fr h₀ L s.heap m → K.In h₀ → News h₀ L s.heap (hd ++ rest) → Off hd rest → Top p loose mean mg mb h₀ → cs.kind = .function →
    dp + dN < recursionLimit → un + uN < cLine →
    (∀ (r : Value) (hd' : List (Addr × Obj)) (h' : Heap) (tk' : Nat), Fr h₀ L h' m → News h₀ L h' (hd' ++ rest) → Off hd' rest → Post r hd' → Q r { s with heap := h', toks := tk' }) →
    wpAny (model prog w) (ktrTop dp un gd cn cs L a ccd cl outer) (call (.ref f) args) Q E s

theorem Ctr.up {prog : Program} {w : World} {K : Frag} {p : Program} {loose : List Str} {mean : ExcName → Option Value} {mg mb : Str → Option Value} {f : Addr} {dN uN dM uM : Nat} {args : List Value} {hd : List (Addr × Obj)} {Post : Value → List (Addr × Obj) → Prop}
    (h : Ctr prog w K p loose mean mg mb f dN uN args hd Post) (h1 : dN ≤ dM) (h2 : uN ≤ uM) : Ctr prog w K p loose mean mg mb f dM uM args hd Post :=
  fun dp un gd cn cs a ccd cl outer A₀ base h₀ L m s rest Q E b1 b2 b3 b4 b5 b6 b7 b8 b9 b10 b11 b12 => h dp un gd cn cs a ccd cl outer A₀ base h₀ L m s rest Q E b1 b2 b3 b4 b5 b6 b7 b8 b9 (by omega) (by omega) b12

section
variable {prog : Program} {w : World} {A₀ A : Around} {s : Shared} {base h₀ : Heap} {outer : List Env} {L : Addr} {m : Str → Option Value} {env : Env} {hd rest : List (Addr × Obj)}
  {R : Result → Shared → Prop} {name qual : Str} {params : Arguments} {body : List Stmt} {scope : Scope} {cl : List (Str × Addr)} {dV kV doc pm cdv ct : Value} {an : Option Addr} {fo : Obj} {f : Addr} {args : Args} {binds : List (Str × Value)}

/-- a def with no cells is entered: what is not handed over stands in the new ground -/
theorem callF_plain (B : Below A₀ base outer h₀) (F : Fr h₀ L s.heap m) (N : News h₀ L s.heap (hd ++ rest)) (D : Off hd rest) (hlim : h₀.NoLimit) (hA : A.frames = some (env :: outer)) (hf : env.frame = some L) (hke : env.scope.kind = .function)
    (ho : s.heap.get? f = some fo) (hdat : fo.data = .func (fnX name qual params body scope cl dV kV doc pm an cdv ct)) (hcd : s.heap.CodeRec cdv qual) (hroom : A.depth < recursionLimit)
    (hbind : BindsTo s (fnX name qual params body scope cl dV kV doc pm an cdv ct) args binds) (hloc : ∀ y ∈ binds, scope.names.lookup y.1 = some .local)
    (h : ∀ g L' h₁, Fr h₀ L g m → Fr g L' h₁ (fun y => binds.reverse.lookup y) → News g L' h₁ hd → Below A base (env :: outer) g → h₀.StaysIn g → (∀ q ∈ rest, g.get? q.1 = some q.2) → (∀ p ∈ hd, p.1 < L') →
      wpAny (model prog w) (A.deeper (envX qual scope L' f cdv cl)) (execs body (envX qual scope L' f cdv cl))
        (fun fl s' => LeaveK h₀ L m g R (match fl with | .ret v => v | _ => .none) s')
        (fun e s' => wpAny (model prog w) (A.deeper (envX qual scope L' f cdv cl)) (leaving (envX qual scope L' f cdv cl) e) (fun _ s'' => R (.error e) s'') (fun e' s'' => R (.error e') s'') s')
        { s with heap := h₁, toks := s.toks + binds.length })
    (hcell : ∀ x ∈ scope.names, x.2 ≠ .cell) (hco : scope.isCoroutine = false) (hgen : scope.isGenerator = false) (hk : scope.kind = .function) : codeAny (model prog w) A (.call (.ref f) args) R s := by
  have NH : News h₀ L s.heap hd := newsSub N fun p hp => List.mem_append_left _ hp
  obtain ⟨FG, BG, st, lv⟩ := groundX (R := R) B F NH hA hf hke
  refine codeAny_call_def (fd := fnX name qual params body scope cl dV kV doc pm an cdv ct) (body := body) (binds := binds) hroom ho hdat (hlim.keeps F.keep) hcd rfl hbind hcell hloc (fun h₁ hns hk₁ => ?_) hco hgen hk
  refine wpAny_mono (h _ s.heap.objs.size h₁ FG ⟨hns, fun b o e => hk₁ b o (of_hideAll _ e), Nat.le_of_eq (hideAll_size _ _)⟩ (fun p hp => ?_) BG st (fun q hq => ?_) fun p hp => Heap.lt_size (NH p hp).1) (fun fl s' hl => lv _ _ hl) fun _ _ y => y
  · exact ⟨hk₁ _ _ (NH p hp).1, Nat.ne_of_lt (Heap.lt_size (NH p hp).1), hideAll_none _ (List.mem_map_of_mem hp)⟩
  · refine hideAll_get _ (N q (List.mem_append_right _ hq)).1 fun hm => ?_
    obtain ⟨p, hp, e⟩ := List.mem_map.mp hm
    exact D p hp q hq e

/-- a def with cells is entered -/
theorem callF_cells (B : Below A₀ base outer h₀) (F : Fr h₀ L s.heap m) (N : News h₀ L s.heap (hd ++ rest)) (D : Off hd rest) (hlim : h₀.NoLimit) (hA : A.frames = some (env :: outer)) (hf : env.frame = some L) (hke : env.scope.kind = .function)
    (ho : s.heap.get? f = some fo) (hdat : fo.data = .func (fnX name qual params body scope [] dV kV doc pm an cdv ct)) (hcd : s.heap.CodeRec cdv qual) (hroom : A.depth < recursionLimit)
    (hbind : BindsTo s (fnX name qual params body scope [] dV kV doc pm an cdv ct) args binds)
    (hkind : ∀ n, ∀ x ∈ binds, scope.names.lookup x.1 = some .local ∨ (scope.names.lookup x.1 = some .cell ∧ ((cellsFrom n scope.names []).lookup x.1).isSome = true))
    (hnd : ((cellsFrom 0 scope.names []).map (·.1)).Nodup)
    (h : ∀ g L' h₁ tk cells, Fr h₀ L g m → Fr g L' h₁ (bindL (envOfC qual scope L' f cdv).kindOf binds fun _ => none) → News g L' h₁ (cells ++ hd) →
      CellsAre (bindC (envOfC qual scope L' f cdv).kindOf binds fun _ => none) (cellsFrom (L' + 1) scope.names []) cells → Below A base (env :: outer) g → h₀.StaysIn g → (∀ q ∈ rest, g.get? q.1 = some q.2) → (∀ p ∈ hd, p.1 < L') →
      wpAny (model prog w) (A.deeper (envOfC qual scope L' f cdv)) (execs body (envOfC qual scope L' f cdv))
        (fun fl s' => LeaveK h₀ L m g R (match fl with | .ret v => v | _ => .none) s')
        (fun e s' => wpAny (model prog w) (A.deeper (envOfC qual scope L' f cdv)) (leaving (envOfC qual scope L' f cdv) e) (fun _ s'' => R (.error e) s'') (fun e' s'' => R (.error e') s'') s')
        { s with heap := h₁, toks := tk })
    (hco : scope.isCoroutine = false) (hgen : scope.isGenerator = false) (hk : scope.kind = .function) : codeAny (model prog w) A (.call (.ref f) args) R s := by
  have NH : News h₀ L s.heap hd := newsSub N fun p hp => List.mem_append_left _ hp
  obtain ⟨FG, BG, st, lv⟩ := groundX (R := R) B F NH hA hf hke
  refine codeAny_call_function hroom ho hdat hco hgen rfl hcd (hbind _ _ _ _ ?_)
  refine wpAny_newFunctionEnv_cells hk (hkind _) fun env' he s' x => ?_
  subst he
  refine ⟨(hlim.keeps F.keep).keeps x.toInCall.keep, codeAny_func ?_⟩
  obtain ⟨h₁, tk, rfl, _⟩ := x.done
  have hk₁ := x.toInCall.keep
  obtain ⟨cells, NC, Y⟩ := Cl.news (h₀ := s.heap) (Nat.le_refl _) fun n c hm => ⟨x.cell n c (lookup_of_mem_nodup (cellsFrom_names scope.names 0 (s.heap.objs.size + 1) [] [] rfl ▸ hnd) hm), x.above n c hm⟩
  refine wpAny_mono (h _ s.heap.objs.size h₁ tk cells FG ⟨x.toInCall.ns, fun b o e => hk₁ b o (of_hideAll _ e), Nat.le_of_eq (hideAll_size _ _)⟩ (fun p hp => ?_) Y BG st (fun q hq => ?_) fun p hp => Heap.lt_size (NH p hp).1) (fun fl s' hl => lv _ _ hl) fun _ _ y => y
  · rcases List.mem_append.mp hp with hp | hp
    · refine ⟨(NC p hp).1, (NC p hp).2.1, ?_⟩
      cases q : (hideAll s.heap (hd.map (·.1))).get? p.1 with
      | none => rfl
      | some o => have := of_hideAll _ q; rw [(NC p hp).2.2] at this; cases this
    · exact ⟨hk₁ _ _ (NH p hp).1, Nat.ne_of_lt (Heap.lt_size (NH p hp).1), hideAll_none _ (List.mem_map_of_mem hp)⟩
  · refine hideAll_get _ (N q (List.mem_append_right _ hq)).1 fun hm => ?_
    obtain ⟨p, hp, e⟩ := List.mem_map.mp hm
    exact D p hp q hq e
end

section
variable {prog : Program} {w : World} {A A₀ : Around} {s : Shared} {K : Frag} {L : Addr} {h₀ base : Heap} {m mg mb : Str → Option Value} {hd rest : List (Addr × Obj)} {p : Program} {loose : List Str} {mean : ExcName → Option Value}
  {env : Env} {outer : List Env} {R : Result → Shared → Prop} {name qual : Str} {params : Arguments} {body : List Stmt} {scope : Scope} {cl : List (Str × Addr)} {dV kV doc pm cdv ct oc ctv : Value} {an od : Option Addr} {osl : Array (Option Value)} {f c' : Addr} {args : Args} {binds : List (Str × Value)}

theorem codeF_def
    (B : Below A₀ base outer h₀) (F : Fr h₀ L s.heap m) (X₀ : K.In h₀) (N : News h₀ L s.heap (hd ++ rest)) (D : Off hd rest) (T : Top p loose mean mg mb h₀) (hA : A.frames = some (env :: outer)) (hf : env.frame = some L) (hke : env.scope.kind = .function)
    (ho : K.lookup f = some ⟨oc, od, .func (fnOf name qual params body scope dV kV doc pm an cdv ct), osl⟩) (hcd : codeIn K cdv qual = true) (hroom : A.depth < recursionLimit)
    (hbind : BindsTo s (fnOf name qual params body scope dV kV doc pm an cdv ct) args binds) (hloc : ∀ y ∈ binds, scope.names.lookup y.1 = some .local)
    (h : ∀ g L' h₁, Fr h₀ L g m → Fr g L' h₁ (fun y => binds.reverse.lookup y) → News g L' h₁ hd → Below A base (env :: outer) g → K.In g → Top p loose mean mg mb g → (∀ q ∈ rest, g.get? q.1 = some q.2) → (∀ p ∈ hd, p.1 < L') →
      wpAny (model prog w) (A.deeper (envOf qual scope L' f cdv)) (execs body (envOf qual scope L' f cdv))
        (fun fl s' => LeaveK h₀ L m g R (match fl with | .ret v => v | _ => .none) s')
        (fun e s' => wpAny (model prog w) (A.deeper (envOf qual scope L' f cdv)) (leaving (envOf qual scope L' f cdv) e) (fun _ s'' => R (.error e) s'') (fun e' s'' => R (.error e') s'') s')
        { s with heap := h₁, toks := s.toks + binds.length })
    (hco : scope.isCoroutine = false) (hgen : scope.isGenerator = false) (hk : scope.kind = .function)
    (hcell : ∀ x ∈ scope.names, x.2 ≠ .cell) : codeAny (model prog w) A (.call (.ref f) args) R s :=
  callF_plain (cl := []) B F N D T.nolimit hA hf hke ((X₀.keeps F.keep) _ _ ho) rfl (codeRec_of (X₀.keeps F.keep) hcd) hroom hbind hloc (fun g L' h₁ FG F' N' B' st RR l => h g L' h₁ FG F' N' B' (X₀.keeps st) (T.keeps st) RR l) hcell hco hgen hk

theorem codeF_defC
    (B : Below A₀ base outer h₀) (F : Fr h₀ L s.heap m) (X₀ : K.In h₀) (N : News h₀ L s.heap (hd ++ rest)) (D : Off hd rest) (T : Top p loose mean mg mb h₀) (hA : A.frames = some (env :: outer)) (hf : env.frame = some L) (hke : env.scope.kind = .function)
    (ho : K.lookup f = some ⟨oc, od, .func (fnOf name qual params body scope dV kV doc pm an cdv ct), osl⟩) (hcd : codeIn K cdv qual = true) (hroom : A.depth < recursionLimit)
    (hbind : BindsTo s (fnOf name qual params body scope dV kV doc pm an cdv ct) args binds) (hkind : (binds.all fun y => scope.names.lookup y.1 == some .local || scope.names.lookup y.1 == some .cell) = true)
    (hnd : ((cellsFrom 0 scope.names []).map (·.1)).Nodup)
    (h : ∀ g L' h₁ tk cells, Fr h₀ L g m → Fr g L' h₁ (bindL (envOfC qual scope L' f cdv).kindOf binds fun _ => none) → News g L' h₁ (cells ++ hd) →
      CellsAre (bindC (envOfC qual scope L' f cdv).kindOf binds fun _ => none) (cellsFrom (L' + 1) scope.names []) cells → Below A base (env :: outer) g → K.In g → Top p loose mean mg mb g → (∀ q ∈ rest, g.get? q.1 = some q.2) → (∀ p ∈ hd, p.1 < L') →
      wpAny (model prog w) (A.deeper (envOfC qual scope L' f cdv)) (execs body (envOfC qual scope L' f cdv))
        (fun fl s' => LeaveK h₀ L m g R (match fl with | .ret v => v | _ => .none) s')
        (fun e s' => wpAny (model prog w) (A.deeper (envOfC qual scope L' f cdv)) (leaving (envOfC qual scope L' f cdv) e) (fun _ s'' => R (.error e) s'') (fun e' s'' => R (.error e') s'') s')
        { s with heap := h₁, toks := tk })
    (hco : scope.isCoroutine = false) (hgen : scope.isGenerator = false) (hk : scope.kind = .function) : codeAny (model prog w) A (.call (.ref f) args) R s :=
  callF_cells B F N D T.nolimit hA hf hke ((X₀.keeps F.keep) _ _ ho) rfl (codeRec_of (X₀.keeps F.keep) hcd) hroom hbind (kindsX hkind) hnd (fun g L' h₁ tk cells FG F' N' Y B' st RR l => h g L' h₁ tk cells FG F' N' Y B' (X₀.keeps st) (T.keeps st) RR l) hco hgen hk

theorem codeF_nest
    (B : Below A₀ base outer h₀) (F : Fr h₀ L s.heap m) (X₀ : K.In h₀) (N : News h₀ L s.heap (hd ++ rest)) (D : Off hd rest) (T : Top p loose mean mg mb h₀) (hA : A.frames = some (env :: outer)) (hf : env.frame = some L) (hke : env.scope.kind = .function)
    (ho : (f, fnMade name qual params body scope cl doc pm c' ctv) ∈ hd ++ rest) (hcd : s.heap.CodeRec (.ref c') qual) (hroom : A.depth < recursionLimit)
    (hbind : BindsTo s (fnX name qual params body scope cl .none .none doc pm none (.ref c') ctv) args binds) (hloc : ∀ y ∈ binds, scope.names.lookup y.1 = some .local)
    (h : ∀ g L' h₁, Fr h₀ L g m → Fr g L' h₁ (fun y => binds.reverse.lookup y) → News g L' h₁ hd → Below A base (env :: outer) g → K.In g → Top p loose mean mg mb g → (∀ q ∈ rest, g.get? q.1 = some q.2) → (∀ p ∈ hd, p.1 < L') →
      wpAny (model prog w) (A.deeper (envX qual scope L' f (.ref c') cl)) (execs body (envX qual scope L' f (.ref c') cl))
        (fun fl s' => LeaveK h₀ L m g R (match fl with | .ret v => v | _ => .none) s')
        (fun e s' => wpAny (model prog w) (A.deeper (envX qual scope L' f (.ref c') cl)) (leaving (envX qual scope L' f (.ref c') cl) e) (fun _ s'' => R (.error e) s'') (fun e' s'' => R (.error e') s'') s')
        { s with heap := h₁, toks := s.toks + binds.length })
    (hco : scope.isCoroutine = false) (hgen : scope.isGenerator = false) (hk : scope.kind = .function)
    (hcell : ∀ x ∈ scope.names, x.2 ≠ .cell) : codeAny (model prog w) A (.call (.ref f) args) R s :=
  callF_plain (cl := cl) B F N D T.nolimit hA hf hke (N _ ho).1 rfl hcd hroom hbind hloc (fun g L' h₁ FG F' N' B' st RR l => h g L' h₁ FG F' N' B' (X₀.keeps st) (T.keeps st) RR l) hcell hco hgen hk
end

section
variable {h₀ g h' : Heap} {L L' : Addr} {m m' : Str → Option Value} {s : Shared} {rest hd' : List (Addr × Obj)} {Q : Value → Shared → Prop} {Post : Value → List (Addr × Obj) → Prop} {r : Value} {tk' : Nat}
/-- the end of a contract's walk -/
theorem ctr_ret (hret : ∀ (r : Value) (hd' : List (Addr × Obj)) (h' : Heap) (tk' : Nat), Fr h₀ L h' m → News h₀ L h' (hd' ++ rest) → Off hd' rest → Post r hd' → Q r { s with heap := h', toks := tk' })
    (NR : News h₀ L s.heap rest) (RR : ∀ q ∈ rest, g.get? q.1 = some q.2) (F' : Fr g L' h' m') (N' : News g L' h' hd') (kF : Fr h₀ L h' m) (kN : News h₀ L h' hd') (hP : Post r hd') :
    Q r { s with heap := h', toks := tk' } := by
  refine hret r hd' h' tk' kF (fun p hp => ?_) (fun p hp q hq e => ?_) hP
  · rcases List.mem_append.mp hp with hp | hp
    · exact kN p hp
    · exact ⟨F'.keep _ _ (RR p hp), (NR p hp).2⟩
  · have := (N' p hp).2.2
    rw [e, RR q hq] at this
    cases this
end

theorem Off.cons {a : Addr} {o : Obj} {xs ys : List (Addr × Obj)} (h : ∀ q ∈ ys, q.1 ≠ a) (t : Off xs ys) : Off ((a, o) :: xs) ys := fun p hp q hq => (List.mem_cons.mp hp).elim (fun e => by rw [e]; exact fun e2 => h q hq e2.symm) fun hp => t p hp q hq
theorem Off.symm {xs ys : List (Addr × Obj)} (h : Off xs ys) : Off ys xs := fun p hp q hq e => h q hq p hp e.symm
theorem Off.nilR (xs : List (Addr × Obj)) : Off xs [] := fun _ _ _ hq => nomatch hq
theorem offNil (xs : List (Addr × Obj)) : Off [] xs := fun _ hp => nomatch hp
theorem newsLt {h₀ h : Heap} {L : Addr} {xs : List (Addr × Obj)} (N : News h₀ L h xs) : ∀ p ∈ xs, p.1 < h.objs.size := fun p hp => Heap.lt_size (N p hp).1

theorem foldReplicate (v : Value) (k : Nat) : List.foldl (fun x1 x2 => x1 ++ x2) #[] (List.replicate k #[v]) = (List.replicate k v).toArray := by
  have h : ∀ (k : Nat) (acc : Array Value), List.foldl (fun x1 x2 => x1 ++ x2) acc (List.replicate k #[v]) = acc ++ (List.replicate k v).toArray := by
    intro k
    induction k with
    | zero => intro acc; simp
    | succ k ih => intro acc; rw [List.replicate_succ, List.foldl_cons, ih, List.replicate_succ]; apply Array.toList_inj.mp; simp
  rw [h]; simp

section
variable {prog : Program} {w : World} {A : Around} {E : Value → Shared → Prop} {s : Shared} {L : Addr} {h₀ : Heap} {m : Str → Option Value} {news : List (Addr × Obj)}
/-- [v] * k -/
theorem mulK {l : Addr} {v : Value} {c k : Nat} {x : Int} {u : Tok} {Q : Value → Shared → Prop} (F : Fr h₀ L s.heap m) (N : News h₀ L s.heap news) (hm : (l, listOf [v].toArray c) ∈ news) (e : x = (k : Int)) (hx : k ≤ 2 ^ 24)
    (h : ∀ l' h' vs, Fr h₀ L h' m → vs = List.replicate k v → News h₀ L h' ((l', listOf vs.toArray 0) :: news) → (∀ p ∈ news, p.1 < l') → Q (.ref l') { s with heap := h' }) :
    wpAny (model prog w) A (binaryOp .Mult (.ref l) (.int x u)) Q E s := by
  subst e
  refine mul_list F N (N _ hm).1 (by omega) (by omega) (by simp; omega) fun h' F' N' => ?_
  rw [if_neg (by simp)] at N'
  rw [foldReplicate] at N'
  exact h _ h' _ F' rfl N' (newsLt N)
end
section
variable {α : Type}
/-- the item at a place; what is behind a place; the items at the places, then a tail -/
def ixGet : List α → Nat → Option α
  | [], _ => none
  | a :: _, 0 => some a
  | _ :: r, n + 1 => ixGet r n
def ixDrop : Nat → List α → List α
  | 0, l => l
  | n + 1, l => ixDrop n l.tail
def ixPick (ys tl : List α) : List Nat → List α
  | [] => tl
  | i :: is => (ixGet ys i).elim (ixPick ys tl is) fun a => a :: ixPick ys tl is
theorem ixMem {a : α} : ∀ {ys : List α} (i : Nat), ixGet ys i = some a → a ∈ ys
  | _ :: _, 0, h => by cases h; exact .head _
  | _ :: _, n + 1, h => .tail _ (ixMem n h)
theorem ixDropMem {a : α} : ∀ {k : Nat} {ys : List α}, a ∈ ixDrop k ys → a ∈ ys
  | 0, _, h => h
  | n + 1, _, h => List.mem_of_mem_tail (ixDropMem (k := n) h)
theorem ixPickMem {a : α} {ys tl : List α} (ht : a ∈ tl → a ∈ ys) : ∀ {is : List Nat}, a ∈ ixPick ys tl is → a ∈ ys
  | [], h => ht h
  | i :: is, h => by
    rw [ixPick] at h
    cases e : ixGet ys i with
    | none => rw [e] at h; exact ixPickMem ht h
    | some b =>
      rw [e] at h
      rcases List.mem_cons.mp h with rfl | h
      · exact ixMem i e
      · exact ixPickMem ht h
/-- a ledger's part, told by its places: short terms (a compiled file has a lid) -/
theorem ixSub {xs ys : List α} (is : List Nat) (h : xs = ixPick ys [] is) : ∀ p ∈ xs, p ∈ ys := fun _ hp => ixPickMem (tl := []) (fun h => absurd h List.not_mem_nil) (h ▸ hp)
theorem ixSubT {xs ys : List α} (k : Nat) (is : List Nat) (h : xs = ixPick ys (ixDrop k ys) is) : ∀ p ∈ xs, p ∈ ys := fun _ hp => ixPickMem ixDropMem (h ▸ hp)
end
end
section
section
variable {prog : Program} {w : World} {A : Around} {E : Value → Shared → Prop} {s : Shared} {a b n x : Int} {t u : Tok} {Q : Value → Shared → Prop}
theorem rsh1 (h : Q (.int (a / 2) s.toks) { s with toks := s.toks + 1 }) : wpAny (model prog w) A (binaryOp .RShift (.int a t) (.int 1 u)) Q E s := by
  refine rshift_int (by omega) ?_
  have e : a.fdiv (2 ^ Int.toNat 1) = a / 2 := by
    rw [Int.fdiv_eq_ediv_of_nonneg _ (by decide)]; rfl
  rw [e]; exact h
theorem rshN {lo hi : Nat} (h : Q (.int (((lo + hi) / 2 : Nat) : Int) s.toks) { s with toks := s.toks + 1 }) : wpAny (model prog w) A (binaryOp .RShift (.int ((lo : Int) + hi) t) (.int 1 u)) Q E s := by
  refine rsh1 ?_
  have e : ((lo : Int) + hi) / 2 = (((lo + hi) / 2 : Nat) : Int) := by simp
  rw [e]; exact h
theorem rshG (hn : 0 ≤ n) (h : ∀ v, v = a / 2 ^ n.toNat → Q (.int v s.toks) { s with toks := s.toks + 1 }) : wpAny (model prog w) A (binaryOp .RShift (.int a t) (.int n u)) Q E s :=
  rshift_int hn (h _ (Int.fdiv_eq_ediv_of_nonneg _ (Int.pow_nonneg (by decide))))
theorem lshG (hn : 0 ≤ n) (hb : (Builtin.Int.intBits a : Int) + n ≤ 2 ^ 27) (h : ∀ v, v = a * 2 ^ n.toNat → Q (.int v s.toks) { s with toks := s.toks + 1 }) : wpAny (model prog w) A (binaryOp .LShift (.int a t) (.int n u)) Q E s :=
  lshift_int hn hb (h _ rfl)
theorem natAnd_high (x k : Nat) : x &&& (x / 2 ^ k * 2 ^ k) = x / 2 ^ k * 2 ^ k := by
  apply Nat.eq_of_testBit_eq
  intro i
  rw [Nat.testBit_and, ← Nat.shiftLeft_eq, Nat.testBit_shiftLeft, Nat.testBit_div_two_pow]
  by_cases h : i ≥ k
  · rw [Nat.sub_add_cancel h]; simp
  · simp [h]
theorem bitAnd_nat (x y : Nat) : Builtin.bitAnd (x : Int) (y : Int) = ((x &&& y : Nat) : Int) := by
  simp [Builtin.bitAnd]
theorem bitXor_high {x : Int} (hx : 0 ≤ x) (k : Nat) : Builtin.bitXor x (x / 2 ^ k * 2 ^ k) = x % 2 ^ k := by
  obtain ⟨y, rfl⟩ := Int.eq_ofNat_of_zero_le hx
  have e : ((y : Int) / 2 ^ k * 2 ^ k) = ((y / 2 ^ k * 2 ^ k : Nat) : Int) := by simp
  rw [bitXor_and, e, bitAnd_nat, natAnd_high]
  have h := Nat.div_add_mod y (2 ^ k)
  have e2 : ((y : Int) % 2 ^ k) = ((y % 2 ^ k : Nat) : Int) := by simp
  rw [e2]
  rw [Nat.mul_comm] at h
  omega
theorem xorG {k : Nat} {v : Int} (hx : 0 ≤ x) (hv : v = x / 2 ^ k * 2 ^ k) (h : ∀ r, r = x % 2 ^ k → Q (.int r s.toks) { s with toks := s.toks + 1 }) : wpAny (model prog w) A (binaryOp .BitXor (.int x t) (.int v u)) Q E s := by
  refine PyProof.Rows.xor_int ?_
  rw [hv, bitXor_high hx]
  exact h _ rfl
theorem lenG {h₀ : Heap} {L l : Addr} {news : List (Addr × Obj)} {us : List Value} {c k : Nat} (N : News h₀ L s.heap news) (hm : (l, listOf us.toArray c) ∈ news) (e : us.length = k) (hfit : (k : Int) < 2 ^ 63)
    (h : Q (.int (k : Int) (s.toks + 1)) { s with toks := s.toks + 1 + 1 }) : wpAny (model prog w) A (call (.builtin "len") [.ref l]) Q E s := kst_len N hm e hfit h

end

theorem shiftFacts {lo hi n len : Nat} {v : Int} (hlo : lo < hi) (hhi : hi ≤ len) (hnn : n * len ≤ 2 ^ 22) (hv : v = ((((lo + hi) / 2 : Nat) : Int) - lo) * n) : 0 ≤ v ∧ v ≤ 2 ^ 22 ∧ v.toNat = n * ((lo + hi) / 2 - lo) := by
  have e : v = ((n * ((lo + hi) / 2 - lo) : Nat) : Int) := by
    rw [hv, Int.natCast_mul, Int.natCast_sub (by omega)]
    rw [Int.mul_comm]
  have h1 : n * ((lo + hi) / 2 - lo) ≤ n * len := Nat.mul_le_mul_left _ (by omega)
  refine ⟨by omega, by omega, by omega⟩
theorem bits_of_lt {x : Int} {k : Nat} (h0 : 0 ≤ x) (h : x < 2 ^ k) : Builtin.Int.intBits x ≤ k := by
  refine intBits_le_iff.mpr ?_
  obtain ⟨y, rfl⟩ := Int.eq_ofNat_of_zero_le h0
  rw [Int.natAbs_natCast]
  have : ((y : Nat) : Int) < ((2 ^ k : Nat) : Int) := by simpa using h
  exact Int.ofNat_lt.mp this
theorem lshBound {x up sh : Int} {k : Nat} (hx : Builtin.Int.intBits x ≤ 2 ^ 22) (hup : up = x / 2 ^ k) (hsh : sh ≤ 2 ^ 22) : (Builtin.Int.intBits up : Int) + sh ≤ 2 ^ 27 := by
  have e : x / 2 ^ k = x.fdiv (2 ^ k) := (Int.fdiv_eq_ediv_of_nonneg _ (Int.pow_nonneg (by decide))).symm
  have := intBits_fdiv_le (y := 2 ^ k) hx
  rw [hup, e]
  omega
theorem lt_pow_hi {x : Int} {n lo mid hi : Nat} (hx : x < 2 ^ (n * (hi - lo))) (h1 : lo ≤ mid) (h2 : mid ≤ hi) : x / 2 ^ (n * (mid - lo)) < 2 ^ (n * (hi - mid)) := by
  have e : n * (hi - lo) = n * (hi - mid) + n * (mid - lo) := by rw [← Nat.mul_add]; congr 1; omega
  rw [e, Int.pow_add] at hx
  exact Int.ediv_lt_of_lt_mul (Int.pow_pos (by decide)) hx
theorem div_mod_pow (x : Int) (k : Nat) : x % 2 ^ k + 2 ^ k * (x / 2 ^ k) = x := Int.emod_add_mul_ediv x (2 ^ k)
theorem countFacts {x : Int} {n b k : Nat} (hn : 0 < n) (h0 : 0 ≤ x) (hb : b = Builtin.Int.intBits x) (hk : k = (b + n - 1) / n) (h3 : b ≤ 2 ^ 21) (h2 : n < 64) : n * k ≤ 2 ^ 22 ∧ x < 2 ^ (n * k) ∧ k ≤ 2 ^ 22 ∧ (x ≠ 0 → 0 < k) := by
  have h1 := Nat.div_add_mod (b + n - 1) n
  have h4 := Nat.mod_lt (b + n - 1) hn
  rw [← hk] at h1
  have h5 : b ≤ n * k := by omega
  have h6 : x.natAbs < 2 ^ b := intBits_le_iff.mp (by omega)
  have h7 : (2 : Nat) ^ b ≤ 2 ^ (n * k) := Nat.pow_le_pow_right (by decide) h5
  have h8 : x < ((2 ^ (n * k) : Nat) : Int) := by omega
  refine ⟨by omega, by simpa using h8, ?_, fun hx => ?_⟩
  · have : k ≤ n * k := Nat.le_mul_of_pos_left _ hn
    omega
  · false_or_by_contra
    have hk0 : k = 0 := by omega
    subst hk0
    have : b = 0 := by omega
    rw [this] at h6
    omega
theorem fdiv_nat {b n : Nat} (hn : 0 < n) : ((b : Int) + n - 1).fdiv n = (((b + n - 1) / n : Nat) : Int) := by
  rw [Int.fdiv_eq_ediv_of_nonneg _ (by omega)]
  have e : ((b : Int) + n - 1) = ((b + n - 1 : Nat) : Int) := by omega
  rw [e]; simp
theorem ints_replicate {k : Nat} {t : Tok} : IntsAre (List.replicate k (Value.int 0 t)) (List.replicate k 0) := by
  induction k with
  | zero => exact .nil
  | succ k ih => rw [List.replicate_succ, List.replicate_succ]; exact .cons 0 t ih
/-- the number that the digits stand for, the lowest first, n bits each -/
def val (n : Nat) : List Int → Int
  | [] => 0
  | d :: r => d + 2 ^ n * val n r
theorem val_append (n : Nat) : ∀ xs ys : List Int, val n (xs ++ ys) = val n xs + 2 ^ (n * xs.length) * val n ys
  | [], ys => by simp [val]
  | x :: xs, ys => by
    rw [List.cons_append, val, val, val_append n xs ys, List.length_cons, Nat.mul_add, Nat.mul_one, Int.pow_add]
    rw [Int.mul_add, Int.mul_comm (2 ^ (n * xs.length) : Int) (2 ^ n), Int.mul_assoc, Int.add_assoc]

theorem val_bounds {n : Nat} : ∀ {ds : List Int}, (∀ y ∈ ds, 0 ≤ y ∧ y < 2 ^ n) → 0 ≤ val n ds ∧ val n ds < 2 ^ (n * ds.length)
  | [], _ => by simp [val]
  | d :: r, h => by
    have h1 := h d (.head _)
    have h2 := val_bounds (n := n) (ds := r) fun y hy => h y (.tail _ hy)
    have hp : (0 : Int) < 2 ^ n := Int.pow_pos (by decide)
    have h3 : 0 ≤ 2 ^ n * val n r := Int.mul_nonneg (by omega) h2.1
    have h4 : 2 ^ n * (val n r + 1) ≤ (2 ^ n * 2 ^ (n * r.length) : Int) := Int.mul_le_mul_of_nonneg_left (by omega) (by omega)
    rw [List.length_cons, Nat.mul_add, Nat.mul_one, Int.pow_add, Int.mul_comm (2 ^ (n * r.length) : Int), val]
    rw [Int.mul_add, Int.mul_one] at h4
    omega
theorem seg_cut {ns : List Int} {lo mid hi : Nat} (h1 : lo ≤ mid) (h2 : mid ≤ hi) (h3 : hi ≤ ns.length) : (ns.take hi).drop lo = (ns.take mid).drop lo ++ (ns.take hi).drop mid := by
  have e : ns.take hi = ns.take mid ++ (ns.take hi).drop mid := by
    have := List.take_append_drop mid (ns.take hi)
    rw [List.take_take, Nat.min_eq_left h2] at this
    exact this.symm
  conv => lhs; rw [e]
  rw [List.drop_append_of_le_length (by rw [List.length_take]; omega)]
theorem seg_cutLen {ns : List Int} {lo hi : Nat} (h3 : hi ≤ ns.length) : ((ns.take hi).drop lo).length = hi - lo := by
  rw [List.length_drop, List.length_take]; omega
theorem seg_cutOne {ns : List Int} {lo : Nat} (h : lo < ns.length) : (ns.take (lo + 1)).drop lo = [ns.getD lo 0] := by
  rw [List.drop_take, show lo + 1 - lo = 1 by omega, List.getD_eq_getElem?_getD, List.getElem?_eq_getElem h]
  simp only [Option.getD_some]
  rw [List.drop_eq_getElem_cons h]; rfl
theorem seg_mem {ns : List Int} {lo hi : Nat} {P : Int → Prop} (h : ∀ y ∈ ns, P y) : ∀ y ∈ (ns.take hi).drop lo, P y := fun y hy => h y (List.mem_of_mem_take (List.mem_of_mem_drop hy))
theorem bitsSeg {n : Nat} {ds : List Int} (h : ∀ y ∈ ds, 0 ≤ y ∧ y < 2 ^ n) (hl : n * ds.length ≤ 2 ^ 22) : Builtin.Int.intBits (val n ds) ≤ 2 ^ 22 :=
  Nat.le_trans (bits_of_lt (val_bounds h).1 (val_bounds h).2) hl
theorem lshBound2 {x sh : Int} (hx : Builtin.Int.intBits x ≤ 2 ^ 22) (hsh : sh ≤ 2 ^ 22) : (Builtin.Int.intBits x : Int) + sh ≤ 2 ^ 27 := by omega
theorem seg_one {ns : List Int} {lo : Nat} (h : lo < ns.length) (x : Int) : ns.set lo x = ns.take lo ++ [x] ++ ns.drop (lo + 1) := by
  rw [List.set_eq_take_append_cons_drop, if_pos h]; simp

theorem seg_join {ns ds es : List Int} {lo mid hi : Nat} (h1 : lo ≤ mid) (h2 : mid ≤ hi) (h3 : hi ≤ ns.length) (hd : ds.length = mid - lo) :
    (ns.take lo ++ ds ++ ns.drop mid).take mid ++ es ++ (ns.take lo ++ ds ++ ns.drop mid).drop hi = ns.take lo ++ (ds ++ es) ++ ns.drop hi := by
  have hl : (ns.take lo ++ ds).length = mid := by rw [List.length_append, List.length_take, hd]; omega
  rw [List.take_left' hl, List.drop_append, hl, List.drop_drop]
  rw [List.drop_of_length_le (by omega), List.nil_append, show mid + (hi - mid) = hi by omega]
  simp
theorem seg_len {ns ds : List Int} {lo hi : Nat} (h1 : lo ≤ hi) (h3 : hi ≤ ns.length) (hd : ds.length = hi - lo) : (ns.take lo ++ ds ++ ns.drop hi).length = ns.length := by
  rw [List.length_append, List.length_append, List.length_take, List.length_drop, hd]; omega
theorem mulGs {prog : Program} {w : World} {A : Around} {E : Value → Shared → Prop} {s : Shared} {lo hi n len : Nat} {t u : Tok} {Q : Value → Shared → Prop} (hlo : lo < hi) (hhi : hi ≤ len) (hnn : n * len ≤ 2 ^ 22) (hm : IntMulOk ((((lo + hi) / 2 : Nat) : Int) - lo) n)
    (h : ∀ v, v = ((((lo + hi) / 2 : Nat) : Int) - lo) * n → 0 ≤ v ∧ v ≤ 2 ^ 22 ∧ v.toNat = n * ((lo + hi) / 2 - lo) → Q (.int v s.toks) { s with toks := s.toks + 1 }) : wpAny (model prog w) A (binaryOp .Mult (.int ((((lo + hi) / 2 : Nat) : Int) - lo) t) (.int n u)) Q E s :=
  PyProof.Rows.mul_int (h _ rfl (shiftFacts hlo hhi hnn rfl)) hm
theorem midLt {lo hi : Nat} (h : lo < hi) (h1 : (lo : Int) + 1 ≠ hi) : lo < (lo + hi) / 2 ∧ (lo + hi) / 2 < hi := by omega
theorem midLo {lo hi d : Nat} (h : lo < hi) (h2 : hi - lo ≤ 2 ^ (d + 1)) : (lo + hi) / 2 - lo ≤ 2 ^ d := by rw [Nat.pow_succ] at h2; generalize 2 ^ d = k at *; omega
theorem midHi {lo hi d : Nat} (h : lo < hi) (h2 : hi - lo ≤ 2 ^ (d + 1)) : hi - (lo + hi) / 2 ≤ 2 ^ d := by rw [Nat.pow_succ] at h2; generalize 2 ^ d = k at *; omega
theorem midSum {lo hi x y : Nat} (h : lo < hi) (h1 : x = (lo + hi) / 2 - lo) (h2 : y = hi - (lo + hi) / 2) : x + y = hi - lo := by omega
end
section
abbrev tupObj (vs : List Value) (n : Nat) : Obj := { cls := .type "tuple", data := .seq vs.toArray n }
abbrev qI2 : Str := (Str.ofString "_int2digits" ++ Str.ofString ".<locals>.") ++ Str.ofString "inner"
abbrev qI3 : Str := (Str.ofString "_digits2int" ++ Str.ofString ".<locals>.") ++ Str.ofString "inner"

/-- the code table at P: empty, or with the one nested def's code -/
def Tab (P : Addr) (ln cl : Int) (q : Str) (T : List (Addr × Obj)) : Prop :=
  T = [(P, tabObj #[])] ∨ ∃ c' oc vs t, T = [(P, tabObj #[rawInt ln, rawInt cl, .ref c']), (c', oc)] ∧ oc.data = .fields vs ∧ vs[1]? = some (.str q t) ∧ c' ≠ P

/-- inner of _int2digits -/
def InnerC (prog : Program) (w : World) (K : Frag) (p : Program) (loose : List Str) (mean : ExcName → Option Value) (mg mb : Str → Option Value) (n : Nat) (f l cA cI cN c' : Addr) (fo oA oI oN oc : Obj) (d : Nat) : Prop :=
  ∀ (x : Int) (lo hi : Nat) (tx tl th : Tok) (vs : List Value) (ns : List Int) (e : Nat),
    0 ≤ x → x < 2 ^ (n * (hi - lo)) → lo < hi → hi ≤ ns.length → hi - lo ≤ 2 ^ d → IntsAre vs ns → n * ns.length ≤ 2 ^ 22 → 0 < n →
    Ctr prog w K p loose mean mg mb f (d + 2) (8 * (d + 2)) [.int x tx, .int lo tl, .int hi th] [(l, listOf vs.toArray e), (f, fo), (c', oc), (cA, oA), (cI, oI), (cN, oN)]
      (fun r hd' => r = .none ∧ ∃ vs' ds, hd' = [(l, listOf vs'.toArray e), (f, fo), (c', oc), (cA, oA), (cI, oI), (cN, oN)] ∧ IntsAre vs' (ns.take lo ++ ds ++ ns.drop hi) ∧ ds.length = hi - lo ∧ val n ds = x ∧ ∀ y ∈ ds, 0 ≤ y ∧ y < 2 ^ n)

theorem innerC_all {prog : Program} {w : World} {K : Frag} {p : Program} {loose : List Str} {mean : ExcName → Option Value} {mg mb : Str → Option Value} {n : Nat} {f l cA cI cN c' : Addr} {fo oA oI oN oc : Obj}
    (step : ∀ d, (∀ d', d = d' + 1 → InnerC prog w K p loose mean mg mb n f l cA cI cN c' fo oA oI oN oc d') → InnerC prog w K p loose mean mg mb n f l cA cI cN c' fo oA oI oN oc d) (d : Nat) : InnerC prog w K p loose mean mg mb n f l cA cI cN c' fo oA oI oN oc d := by
  induction d with
  | zero => exact step 0 fun d' h => by omega
  | succ d ih => exact step (d + 1) fun d' h => by have : d' = d := by omega
                                                   rw [this]; exact ih

theorem inner_use {w : World} {p : Program} {loose : List Str} {mean : ExcName → Option Value} {mg mb : Str → Option Value} {K : Frag} {prog : Program} {n d : Nat} {f l cA cI cN c' : Addr} {fo oA oI oN oc : Obj} {g : Heap} {L : Addr} {h : Heap} {news : List (Addr × Obj)} {P : Prop}
    (Nq : News g L h news) (hmq : (f, fo) ∈ news) {tn : Tok} (dA : oA.data = .cell (some (.ref l))) (dI : oI.data = .cell (some (.ref f))) (dN : oN.data = .cell (some (.int n tn))) (hAq : (cA, oA) ∈ news) (hIq : (cI, oI) ∈ news) (hNq : (cN, oN) ∈ news) (step : oA.data = .cell (some (.ref l)) → oI.data = .cell (some (.ref f)) → oN.data = .cell (some (.int n tn)) → ∀ d, (∀ d', d = d' + 1 → InnerC prog w K p loose mean mg mb n f l cA cI cN c' fo oA oI oN oc d') → InnerC prog w K p loose mean mg mb n f l cA cI cN c' fo oA oI oN oc d)
    (h : oA.data = .cell (some (.ref l)) → oI.data = .cell (some (.ref f)) → oN.data = .cell (some (.int n tn)) → InnerC prog w K p loose mean mg mb n f l cA cI cN c' fo oA oI oN oc d → P) : P := h dA dI dN (innerC_all (step dA dI dN) d)

/-- inner of _digits2int -/
def InnerD (prog : Program) (w : World) (K : Frag) (p : Program) (loose : List Str) (mean : ExcName → Option Value) (mg mb : Str → Option Value) (n : Nat) (f l cA cI cN c' : Addr) (fo oA oI oN oc : Obj) (vs : List Value) (ns : List Int) (e : Nat) (d : Nat) : Prop :=
  ∀ (lo hi : Nat) (tl th : Tok), lo < hi → hi ≤ ns.length → hi - lo ≤ 2 ^ d →
    Ctr prog w K p loose mean mg mb f (d + 2) (8 * (d + 2)) [.int lo tl, .int hi th] [(l, listOf vs.toArray e), (f, fo), (c', oc), (cA, oA), (cI, oI), (cN, oN)]
      (fun r hd' => hd' = [(l, listOf vs.toArray e), (f, fo), (c', oc), (cA, oA), (cI, oI), (cN, oN)] ∧ ∃ t, r = .int (val n ((ns.take hi).drop lo)) t)

theorem innerD_all {prog : Program} {w : World} {K : Frag} {p : Program} {loose : List Str} {mean : ExcName → Option Value} {mg mb : Str → Option Value} {n : Nat} {f l cA cI cN c' : Addr} {fo oA oI oN oc : Obj} {vs : List Value} {ns : List Int} {e : Nat}
    (step : ∀ d, (∀ d', d = d' + 1 → InnerD prog w K p loose mean mg mb n f l cA cI cN c' fo oA oI oN oc vs ns e d') → InnerD prog w K p loose mean mg mb n f l cA cI cN c' fo oA oI oN oc vs ns e d) (d : Nat) : InnerD prog w K p loose mean mg mb n f l cA cI cN c' fo oA oI oN oc vs ns e d := by
  induction d with
  | zero => exact step 0 fun d' h => by omega
  | succ d ih => exact step (d + 1) fun d' h => by have : d' = d := by omega
                                                   rw [this]; exact ih

theorem innerD_use {w : World} {p : Program} {loose : List Str} {mean : ExcName → Option Value} {mg mb : Str → Option Value} {K : Frag} {prog : Program} {n d : Nat} {f l cA cI cN c' : Addr} {fo oA oI oN oc : Obj} {vs : List Value} {ns : List Int} {e : Nat} {g : Heap} {L : Addr} {h : Heap} {news : List (Addr × Obj)} {P : Prop}
    (Nq : News g L h news) (hmq : (f, fo) ∈ news) {tn : Tok} (dA : oA.data = .cell (some (.ref l))) (dI : oI.data = .cell (some (.ref f))) (dN : oN.data = .cell (some (.int n tn))) (hAq : (cA, oA) ∈ news) (hIq : (cI, oI) ∈ news) (hNq : (cN, oN) ∈ news)
    (step : oA.data = .cell (some (.ref l)) → oI.data = .cell (some (.ref f)) → oN.data = .cell (some (.int n tn)) → ∀ d, (∀ d', d = d' + 1 → InnerD prog w K p loose mean mg mb n f l cA cI cN c' fo oA oI oN oc vs ns e d') → InnerD prog w K p loose mean mg mb n f l cA cI cN c' fo oA oI oN oc vs ns e d)
    (h : oA.data = .cell (some (.ref l)) → oI.data = .cell (some (.ref f)) → oN.data = .cell (some (.int n tn)) → InnerD prog w K p loose mean mg mb n f l cA cI cN c' fo oA oI oN oc vs ns e d → P) : P := h dA dI dN (innerD_all (step dA dI dN) d)
end
section
/-- a stop of the walk -/
def Hold (P : Prop) : Prop := P
theorem hold {P : Prop} (h : Hold P) : P := h
section
variable {M : Model} {A : Around} {E : Value → Shared → Prop} {s : Shared} {h₀ : Heap} {L a c P : Addr} {m mg mb : Str → Option Value} {cn : Str} {cs : Scope} {ccd : Value} {cl : List (Str × Addr)} {own Tb : List (Addr × Obj)}
  {p : Program} {loose : List Str} {mean : ExcName → Option Value} {name q : Str} {params : Arguments} {body : List Stmt} {scope : Scope} {pos : Pos} {firstLine : Nat} {clos : List (Str × Addr)} {ln cl0 : Int}
theorem updLast {P : Addr} {o : Obj} : ∀ {own : List (Addr × Obj)}, (∀ x ∈ own, x.1 ≠ P) → UpdF P o (own ++ [(P, o)]) (fun o' => own ++ [(P, o')])
  | [], _ => .head fun _ h => nomatch h
  | x :: r, h => .tail (h x (.head _)) (updLast fun y hy => h y (.tail _ hy))
/-- a def within a def: the first time its code is made and laid in the table, later it is found there; both ways end alike -/
theorem nestTab {Q : Value → Shared → Prop} (hT : Tab P ln cl0 q Tb) (F : Fr h₀ L s.heap m) (N : News h₀ L s.heap (own ++ Tb)) (D : Off own Tb) (T : Top p loose mean mg mb h₀) (C : CodeHd h₀ c P) (hcd : ccd = .ref c)
    (hp1 : (pos.line : Int) = ln) (hp2 : (pos.col : Int) = cl0) (hcl : closureFor scope (envX cn cs L a ccd cl) = pure clos)
    (h : ∀ f c' oc vs t ctv doc h' tk, Fr h₀ L h' m →
      News h₀ L h' ((f, fnMade name q params body scope clos doc ((mg "__name__").getD .none) c' ctv) :: (c', oc) :: (P, tabObj #[rawInt ln, rawInt cl0, .ref c']) :: own) →
      oc.data = .fields vs → vs[1]? = some (.str q t) → (∀ x ∈ own, (@Ne Nat x.1 c') ∧ (@LT.lt Nat instLTNat x.1 f)) → (∀ x ∈ own, @Ne Nat x.1 P) → (@Ne Nat c' P) → (@LT.lt Nat instLTNat c' f) → (@LT.lt Nat instLTNat P f) → Q (.ref f) { s with heap := h', toks := tk }) :
    wpAny M A (makeFunction name q params (.stmts body) scope (envX cn cs L a ccd cl) [] [] [] pos firstLine) Q E s := by
  subst hp1 hp2
  have hP : ∀ x ∈ own, x.1 ≠ P := by
    rcases hT with rfl | ⟨c0, oc0, vs0, t0, rfl, d1, d2, hne⟩ <;> exact fun x hx => D x hx _ (.head _)
  rcases hT with rfl | ⟨c0, oc0, vs0, t0, rfl, d1, d2, hne⟩
  · refine nest_K F N T C hcd (updLast hP) (by simp [TriplesOk]) (by simp [codeAmong]) hcl fun f c' oc vs t ctv doc h' tk F' N' e1 e2 l1 l2 => ?_
    refine h f c' oc vs t ctv doc h' tk F' (newsSub N' fun x hx => ?_) e1 e2 (fun x hx => ?_) hP (Nat.ne_of_gt (l1 (P, _) (List.mem_append_right _ (.head _)))) l2 (Nat.lt_trans (l1 (P, _) (List.mem_append_right _ (.head _))) l2)
    · rcases List.mem_cons.mp hx with rfl | hx
      · exact .head _
      · rcases List.mem_cons.mp hx with rfl | hx
        · exact .tail _ (.head _)
        · rcases List.mem_cons.mp hx with rfl | hx
          · exact .tail _ (.tail _ (List.mem_append_right _ (.head _)))
          · exact .tail _ (.tail _ (List.mem_append_left _ hx))
    · have := l1 x (List.mem_append_left _ hx)
      exact ⟨Nat.ne_of_lt this, Nat.lt_trans this l2⟩
  · refine nestHit_K (c' := c0) F N T C hcd (List.mem_append_right _ (.head _)) (by simp [TriplesOk, rawInt]) (by simp [codeAmong, rawInt]) hcl fun f ctv doc h' tk F' N' l1 => ?_
    refine h f c0 oc0 vs0 t0 ctv doc h' tk F' (newsSub N' fun x hx => ?_) d1 d2 (fun x hx => ?_) hP hne (l1 (c0, _) (List.mem_append_right _ (.tail _ (.head _)))) (l1 (P, _) (List.mem_append_right _ (.head _)))
    · rcases List.mem_cons.mp hx with rfl | hx
      · exact .head _
      · rcases List.mem_cons.mp hx with rfl | hx
        · exact .tail _ (List.mem_append_right _ (.tail _ (.head _)))
        · rcases List.mem_cons.mp hx with rfl | hx
          · exact .tail _ (List.mem_append_right _ (.head _))
          · exact .tail _ (List.mem_append_left _ hx)
    · exact ⟨fun e => D x hx (c0, oc0) (.tail _ (.head _)) e, l1 x (List.mem_append_left _ hx)⟩
end
theorem ltNe3 {T : List (Addr × Obj)} {L : Addr} (h : ∀ p ∈ T, p.1 < L) : (∀ p ∈ T, p.1 ≠ L + 1) ∧ (∀ p ∈ T, p.1 ≠ L + 1 + 1) ∧ (∀ p ∈ T, p.1 ≠ L + 1 + 1 + 1) :=
  ⟨fun p hp => Nat.ne_of_lt (Nat.lt_succ_of_lt (h p hp)), fun p hp => Nat.ne_of_lt (Nat.lt_succ_of_lt (Nat.lt_succ_of_lt (h p hp))), fun p hp => Nat.ne_of_lt (Nat.lt_succ_of_lt (Nat.lt_succ_of_lt (Nat.lt_succ_of_lt (h p hp))))⟩
end
local macro_rules | `(tactic| walk_at $s:str) => `(tactic| k_extra $s)
section
variable {w : World} {p : Program} {loose : List Str} {mean : ExcName → Option Value} {mg mb : Str → Option Value}


theorem div2n1n_ctr (x y n : Int) (tx ty tn : Tok) (h1 : y ≠ 0) (h2 : y.natAbs < 1073741824) (h3 : (Builtin.Int.intBits x : Int) - n ≤ 4000) :
    Ctr PySem.Challenge.rw_ga0003_01.row.prog w (hd.heap_39 w.params) p loose mean mg mb 21 8 64 [.int x tx, .int y ty, .int n tn] []
      (fun r hd' => ∃ l t1 t2 e, r = .ref l ∧ hd' = [(l, tupObj [.int (Int.fdiv x y) t1, .int (Int.fmod x y) t2] e)]) := by
  k_with_none
  k_with "tb_start_1" => (refine wpAny_call ?_; k_dflt (refine' codeF_def ?w1k1 ?w1k2 ?w1k3 ?w1k4 ?w1kD ?w1k5 ?w1kA ?w1kF ?w1kK ?w1k6 ?w1k7 ?w1k8 ?w1k9 ?w1kB ?_ ?w1c2 ?w1c3 ?w1c4 ?w1c5; (case w1kA => exact rfl); (case w1kF => exact rfl); (case w1kK => assumption); (case w1k1 => k_asm); (case w1k2 => k_asm); (case w1k3 => k_asm); (case w1k4 => k_asm); (case w1kD => assumption); (case w1k5 => k_asm); (case w1k6 => k_is); (case w1k7 => k_is); (case w1k8 => ktr_room); (case w1k9 => first | exact BindsTo.of_eq rfl | exact binds_K (by k_in) rfl (by k_is) rfl rfl rfl | (refine' kp_binds ?w1kx ?w1ke; (case w1kx => k_in); (case w1ke => exact fun _ => rfl))); (case w1c5 => decide); (case w1kB => exact locs rfl); (case w1c2 => exact rfl); (case w1c3 => exact rfl); (case w1c4 => exact rfl); k_whole; intro _ _ _ _ _ _ _ _ _ _ l1; (try dsimp only); (try k_lt l1); revert l1; intro _; (try k_fold)))
  k_with "spliced" => (first | refine args_cons ?_ | refine args_nil ⟨Fr.keep (by assumption) _ _ (by assumption), ?_⟩ | (refine args_nil ?_; try simp only [List.cons_append, List.nil_append]))
  k_fill
  intro dp un gd cn cs a ccd cl outer A₀ base h₀ L m s rest Q E B C1 C2 F X N D T hk hdp hun hret
  k_extra "tb_start_1"
  have NR : News h₀ L s.heap rest := newsSub N fun p hp => List.mem_append_right _ hp
  k_steps
  exact ctr_ret hret NR (by assumption) (by assumption) (by assumption) (by assumption) (by assumption) ⟨_, _, _, _, rfl, rfl⟩
end
local macro_rules | `(tactic| k_all) => `(tactic| first | assumption | ((with_reducible refine List.forall_mem_append.mpr ⟨?ka, ?kb⟩); (case ka => k_all); (case kb => k_all)) | ((with_reducible refine List.forall_mem_cons.mpr ⟨?ka, ?kb⟩); (case ka => (first | assumption | (refine Ne.symm ?_; assumption) | k_ne)); (case kb => k_all)))
section
section
variable {w : World} {p : Program} {loose : List Str} {mean : ExcName → Option Value} {mg mb : Str → Option Value}

theorem int2digits_ctr (x : Int) (n : Nat) (tx tn : Tok) (Tb : List (Addr × Obj)) (hT : Tab 30 32 4 qI2 Tb) (h0 : 0 ≤ x) (h1 : 0 < n) (h2 : n < 64) (h3 : Builtin.Int.intBits x ≤ 2 ^ 21) :
    Ctr PySem.Challenge.rw_ga0003_01.row.prog w (hd.heap_39 w.params) p loose mean mg mb 35 64 512 [.int x tx, .int n tn] Tb
      (fun r hd' => ∃ l vs ds e T', r = .ref l ∧ hd' = (l, listOf vs.toArray e) :: T' ∧ Tab 30 32 4 qI2 T' ∧ IntsAre vs ds ∧ val n ds = x ∧ (∀ y ∈ ds, 0 ≤ y ∧ y < 2 ^ n) ∧ ds.length ≤ 2 ^ 22 ∧ n * ds.length ≤ 2 ^ 22) := by
  k_with_none
  k_with "tb_rel_1" => (refine wpAny_call ?_; k_dflt (refine' codeF_defC ?w1k1 ?w1k2 ?w1k3 ?w1k4 ?w1kE ?w1k5 ?w1kA ?w1kF ?w1kK ?w1k6 ?w1k7 ?w1k8 ?w1k9 ?w1kB ?w1kD ?_ ?w1c2 ?w1c3 ?w1c4; (case w1kA => exact rfl); (case w1kF => exact rfl); (case w1kK => assumption); (case w1k1 => k_asm); (case w1k2 => k_asm); (case w1k3 => k_asm); (case w1k4 => k_asm); (case w1kE => assumption); (case w1k5 => k_asm); (case w1k6 => k_is); (case w1k7 => k_is); (case w1k8 => ktr_room); (case w1k9 => first | exact BindsTo.of_eq rfl | exact binds_K (by k_in) rfl (by k_is) rfl rfl rfl | (refine' kp_binds ?w1kx ?w1ke; (case w1kx => k_in); (case w1ke => exact fun _ => rfl))); (case w1kB => exact rfl); (case w1kD => decide +kernel); (case w1c2 => exact rfl); (case w1c3 => exact rfl); (case w1c4 => exact rfl); k_whole; intro _ _ _ _ _ _ _ N' Y' _ _ _ _ l1; (try k_lt l1); revert l1; intro _; k_cells Y'; (try simp only [List.cons_append, List.nil_append] at N'); revert N'; intro _; (try dsimp only); (try k_fold)))
  k_with "kwd_rel_2" => (refine wpAny_call ?_; k_dflt (refine' codeF_nest ?w2k1 ?w2k2 ?w2k3 ?w2k4 ?w2kD ?w2k5 ?w2kA ?w2kF ?w2kK ?w2k6 ?w2k7 ?w2k8 ?w2k9 ?w2kB ?_ ?w2c2 ?w2c3 ?w2c4 ?w2c5; (case w2kA => exact rfl); (case w2kF => exact rfl); (case w2kK => first | exact rfl | assumption); (case w2k1 => k_asm); (case w2k2 => k_asm); (case w2k3 => k_asm); (case w2k4 => k_asm); (case w2kD => assumption); (case w2k5 => k_asm); (case w2k6 => k_mem); (case w2k7 => exact codeRec_news (by k_asm) (by k_mem) (by assumption) (by assumption)); (case w2k8 => ktr_room); (case w2k9 => exact BindsTo.of_eq rfl); (case w2c5 => decide); (case w2kB => exact locs rfl); (case w2c2 => exact rfl); (case w2c3 => exact rfl); (case w2c4 => exact rfl); k_whole; intro _ _ _ _ _ _ _ _ _ _ l1; (try dsimp only); (try k_lt l1); revert l1; intro _; (try k_fold)))
  k_with "spliced" => (first | refine args_cons ?_ | refine args_nil ⟨Fr.keep (by assumption) _ _ (by assumption), ?_⟩ | (refine args_nil ?_; try simp only [List.cons_append, List.nil_append]))
  k_with "binaryOp Mult int int" => ((refine mulGs (by assumption) (by assumption) (by assumption) (IntMulOk.of_right (intBits_le_64 (by omega) (by omega))) ?_; intros))
  k_with "binaryOp RShift int int" => ((refine rshG (by omega) ?_; intros))
  k_with "binaryOp RShift int int" => ((refine rshN ?_))
  k_with "binaryOp LShift int int" => ((refine lshG (by omega) (lshBound (by assumption) (by assumption) (by omega)) ?_; intros))
  k_with "binaryOp BitXor int int" => ((refine xorG (by assumption) (by subst_vars; rfl) ?_; intros))
  k_with "setItem ref int" => ((k_dflt (refine' ksa_set ?k1 ?k2 ?k3 ?k4 ?k5 ?k6 ?k7 ?_; (case k1 => k_asm); (case k2 => k_asm); (case k3 => k_upd); (case k4 => assumption); (case k5 => omega); (case k6 => omega); (case k7 => omega)); intros))
  k_with "exec FunctionDef" => (k_here; kn_here; k_dflt (refine nestDef_K (by exact rfl) (by exact rfl) (by exact rfl) ?_); refine hold ?_)
  k_fill
  intro dp un gd cn cs a ccd cl outer A₀ base h₀ L m s rest Q E B C1 C2 F X N D T hk hdp hun hret
  have hn0 : (n : Int) ≠ 0 := by omega
  obtain ⟨k, hkd⟩ : ∃ k, k = (Builtin.Int.intBits x + n - 1) / n := ⟨_, rfl⟩
  obtain ⟨ck1, ck2, ck3, ck4⟩ := countFacts h1 h0 rfl hkd h3 h2
  k_extra "tb_rel_1"
  rename (∀ (p : Addr × Obj), p ∈ Tb → p.1 < _) => lTb
  obtain ⟨hc1, hc2, hc3⟩ := ltNe3 lTb
  have NR : News h₀ L s.heap rest := newsSub N fun p hp => List.mem_append_right _ hp
  k_steps
  refine mulK (k := k) (by k_asm) (by k_asm) (ixMem 0 rfl) (by rw [hkd]; exact fdiv_nat h1) (by omega) ?_
  intro l' h' vl F' hvl N' l1
  (try k_lt l1)
  have hvlen : vl.length = k := by rw [hvl, List.length_replicate]
  have hIl : IntsAre vl (List.replicate k 0) := by rw [hvl]; exact ints_replicate
  k_steps
  unfold Hold
  rename_i gg LL hh5 tk5 FG5 B5 X5 T5 RR5 oI oA0 oN dI0 dA0 dN0 l00 h00 l100 hA oA FA NA dA
  k_dflt (refine nestTab (own := [(l', listOf vl.toArray 0), (l00, listOf [.int 0 _].toArray 0), (LL + 1 + 1 + 1, oI), (LL + 1 + 1, oA), (LL + 1, oN)]) hT FA NA (Off.cons (fun q hq => Nat.ne_of_lt (kst_ltOf l1.2.2.2.2 q hq)) (Off.cons (fun q hq => Nat.ne_of_lt (kst_ltOf l100.2.2.2 q hq)) (Off.cons hc3 (Off.cons hc2 (Off.cons hc1 (offNil _)))))) T5 (by kn_code) rfl rfl rfl rfl ?_)
  intro fI cI ocI vsI tI ctI dcI h1' tk1 FN NN d1 d2 lown lP hcP lcf lPf
  obtain ⟨g0, f0⟩ : (@Ne Nat (l') cI) ∧ (@LT.lt Nat instLTNat (l') fI) := lown _ (.head _)
  have p0 : @Ne Nat (l') 30 := lP _ (.head _)
  obtain ⟨g1, f1⟩ : (@Ne Nat (l00) cI) ∧ (@LT.lt Nat instLTNat (l00) fI) := lown _ (.tail _ (.head _))
  have p1 : @Ne Nat (l00) 30 := lP _ (.tail _ (.head _))
  obtain ⟨g2, f2⟩ : (@Ne Nat (LL + 1 + 1 + 1) cI) ∧ (@LT.lt Nat instLTNat (LL + 1 + 1 + 1) fI) := lown _ (.tail _ (.tail _ (.head _)))
  have p2 : @Ne Nat (LL + 1 + 1 + 1) 30 := lP _ (.tail _ (.tail _ (.head _)))
  obtain ⟨g3, f3⟩ : (@Ne Nat (LL + 1 + 1) cI) ∧ (@LT.lt Nat instLTNat (LL + 1 + 1) fI) := lown _ (.tail _ (.tail _ (.tail _ (.head _))))
  have p3 : @Ne Nat (LL + 1 + 1) 30 := lP _ (.tail _ (.tail _ (.tail _ (.head _))))
  obtain ⟨g4, f4⟩ : (@Ne Nat (LL + 1) cI) ∧ (@LT.lt Nat instLTNat (LL + 1) fI) := lown _ (.tail _ (.tail _ (.tail _ (.tail _ (.head _)))))
  have p4 : @Ne Nat (LL + 1) 30 := lP _ (.tail _ (.tail _ (.tail _ (.tail _ (.head _)))))
  clear lown lP
  have q30 : @Ne Nat fI 30 := Nat.ne_of_gt lPf
  dsimp only
  k_steps
  · refine lenG (k := k) (by k_asm) (ixMem 3 rfl) hvlen (by omega) ?_
    k_steps
    rename_i h2' oI F2 N2 dI hx0
    k_dflt (refine inner_use (w := w) (p := p) (loose := loose) (mean := mean) (mg := mg) (mb := mb) (K := hd.heap_39 w.params) (prog := PySem.Challenge.rw_ga0003_01.row.prog) (d := 22) (n := n) (f := fI) (l := l') (tn := tn) (c' := cI) (oI := oI) (oc := ocI) N2 (ixMem 0 rfl) (by assumption) (by assumption) (by assumption) (ixMem 6 rfl) (ixMem 5 rfl) (ixMem 7 rfl) ?_ ?_)
    · intro dA dI dN d IH x lo hi tx tl th vs ns e hx0 hx1 hlo hhi hd2 hI hnn hn1
      clear hret F X N T B C1 C2 D hk hdp hun
      intro dp un gd cn cs a ccd cl outer A₀ base h₀ L m s rest Q E B C1 C2 F X N D T hk hdp hun hret
      have hlen : ns.length ≤ 2 ^ 22 := Nat.le_trans (Nat.le_mul_of_pos_left _ hn1) hnn
      have hbx : Builtin.Int.intBits x ≤ 2 ^ 22 := Nat.le_trans (bits_of_lt hx0 hx1) (Nat.le_trans (Nat.mul_le_mul_left n (by omega)) hnn)
      k_extra "kwd_rel_2"
      have NR : News h₀ L s.heap rest := newsSub N fun p hp => List.mem_append_right _ hp
      k_steps
      · rename_i hone tk0 hh F2' N2' hi1 hl1 hs1 kF1 kN1 T1 X1
        have e1 : hi - lo = 1 := by omega
        refine ctr_ret hret NR (by assumption) F2' N2' kF1 kN1 ⟨rfl, _, [x], rfl, ?_, by rw [e1]; rfl, by simp [val], ?_⟩
        · have e2 : hi = lo + 1 := by omega
          rw [e2, ← seg_one (by omega)]
          exact hi1
        · rw [e1, Nat.mul_one] at hx1
          intro y hy
          rw [List.mem_singleton.mp hy]
          exact ⟨hx0, hx1⟩
      · rename_i hne tk0 _ sh hsh hsf _ up hup _ lu hlu lw hlw hh F2' N2'
        obtain ⟨d', rfl⟩ : ∃ d', d = d' + 1 := ⟨d - 1, by
          have : 0 < d := by
            false_or_by_contra
            have : d = 0 := by omega
            subst this
            omega
          omega⟩
        have hml := midLt hlo (by assumption)
        have elw : lw = x % 2 ^ (n * ((lo + hi) / 2 - lo)) := by rw [hlw, ← hsh, hsf.2.2]
        have eup : up = x / 2 ^ (n * ((lo + hi) / 2 - lo)) := by rw [hup, hsf.2.2]
        have hpp : (0 : Int) < 2 ^ (n * ((lo + hi) / 2 - lo)) := Int.pow_pos (by decide)
        k_dflt (refine' IH d' rfl lw lo ((lo + hi) / 2) _ _ _ vs ns e ?q13xa0 ?q13xa1 ?q13xa2 ?q13xa3 ?q13xa4 hI hnn hn1 _ _ _ _ _ _ _ _ _ _ _ _ _ _ _ ([]) _ _ ?q13xk1 ?q13xk2 ?q13xk3 ?q13xk4 ?q13xk5 ?q13xk6 ?q13xk7 ?q13xk8 ?q13xk9 ?q13xk10 ?q13xk11 ?q13xkR)
        case q13xa0 => rw [elw]; exact Int.emod_nonneg _ (by omega)
        case q13xa1 => rw [elw]; exact Int.emod_lt_of_pos _ hpp
        case q13xa2 => first | exact hml.1 | omega
        case q13xa3 => first | exact Nat.le_trans (Nat.le_of_lt hml.2) hhi | omega
        case q13xa4 => first | exact midLo hlo hd2 | omega
        case q13xk1 => k_asm
        case q13xk2 => assumption
        case q13xk3 => assumption
        case q13xk4 => k_asm
        case q13xk5 => k_asm
        case q13xk6 => rw [List.append_nil]; k_asm
        case q13xk7 => exact Off.nilR _
        case q13xk8 => k_asm
        case q13xk9 => first | exact rfl | assumption
        case q13xk10 => ktr_room
        case q13xk11 => ktr_units
        intro r hd' h' tk' F3 N3 D3 ⟨hr, vs1, ds1, ehd, hI1, hl1, hv1, hb1⟩
        subst hr ehd
        rw [List.append_nil] at N3
        dsimp only
        have hlen1 : (ns.take lo ++ ds1 ++ ns.drop ((lo + hi) / 2)).length = ns.length := seg_len (by omega) (by omega) hl1
        k_steps
        k_dflt (refine' IH d' rfl up ((lo + hi) / 2) hi _ _ _ vs1 _ e ?q14xa0 ?q14xa1 ?q14xa2 ?q14xa3 ?q14xa4 hI1 ?q14xa5 hn1 _ _ _ _ _ _ _ _ _ _ _ _ _ _ _ ([]) _ _ ?q14xk1 ?q14xk2 ?q14xk3 ?q14xk4 ?q14xk5 ?q14xk6 ?q14xk7 ?q14xk8 ?q14xk9 ?q14xk10 ?q14xk11 ?q14xkR)
        case q14xa0 => rw [eup]; exact Int.ediv_nonneg hx0 (by omega)
        case q14xa1 => rw [eup]; exact lt_pow_hi hx1 (by omega) (by omega)
        case q14xa2 => first | exact hml.2 | omega
        case q14xa3 => first | exact hhi | omega
        case q14xa4 => first | exact midHi hlo hd2 | omega
        case q14xa5 => rw [hlen1]; exact hnn
        case q14xk1 => k_asm
        case q14xk2 => assumption
        case q14xk3 => assumption
        case q14xk4 => k_asm
        case q14xk5 => k_asm
        case q14xk6 => rw [List.append_nil]; k_asm
        case q14xk7 => exact Off.nilR _
        case q14xk8 => k_asm
        case q14xk9 => first | exact rfl | assumption
        case q14xk10 => ktr_room
        case q14xk11 => ktr_units
        intro r hd' h'' tk'' F4 N4 D4 ⟨hr, vs2, ds2, ehd, hI2, hl2, hv2, hb2⟩
        subst hr ehd
        rw [List.append_nil] at N4
        dsimp only
        k_steps
        refine ctr_ret hret NR (by assumption) (by assumption) (by assumption) (by assumption) (by assumption) ⟨rfl, vs2, ds1 ++ ds2, rfl, ?_, ?_, ?_, ?_⟩
        · rw [← seg_join (by omega) (by omega) (by omega) hl1]; exact hI2
        · rw [List.length_append]; first | exact midSum hlo hl1 hl2 | omega
        · rw [val_append, hl1, hv1, hv2, elw, eup]; exact div_mod_pow x _
        · intro y hy
          exact (List.mem_append.mp hy).elim (hb1 y) (hb2 y)
    · intro dA dI dN HC
      k_dflt (refine' HC x 0 k _ _ _ vl (List.replicate k 0) 0 h0 ?q15xa1 ?q15xa2 ?q15xa3 ?q15xa4 hIl ?q15xa5 h1 _ _ _ _ _ _ _ _ _ _ _ _ _ _ _ ([(30, tabObj #[rawInt 32, rawInt 4, .ref cI])]) _ _ ?q15xk1 ?q15xk2 ?q15xk3 ?q15xk4 ?q15xk5 ?q15xk6 ?q15xk7 ?q15xk8 ?q15xk9 ?q15xk10 ?q15xk11 ?q15xkR)
      case q15xa1 => exact ck2
      case q15xa2 => exact ck4 (by assumption)
      case q15xa3 => rw [List.length_replicate]; exact Nat.le_refl _
      case q15xa4 => omega
      case q15xa5 => rw [List.length_replicate]; exact ck1
      case q15xk1 => k_asm
      case q15xk2 => assumption
      case q15xk3 => assumption
      case q15xk4 => k_asm
      case q15xk5 => k_asm
      case q15xk6 => exact newsSub N2 (ixSub [3, 0, 1, 6, 5, 7, 2] rfl)
      case q15xk7 => (repeat (refine Off.cons (by k_all) ?_)); exact offNil _
      case q15xk8 => k_asm
      case q15xk9 => first | exact rfl | assumption
      case q15xk10 => ktr_room
      case q15xk11 => ktr_units
      intro r hd' h5 tk5 F5 N5 D5 ⟨hr, vs1, ds1, ehd, hI1, hl1, hv1, hb1⟩
      subst hr ehd
      dsimp only
      simp only [List.cons_append, List.nil_append] at N5
      k_steps
      rename_i kF7 kN7 T7 X7
      have hds : (List.replicate k (0 : Int)).take 0 ++ ds1 ++ (List.replicate k (0 : Int)).drop k = ds1 := by
        rw [List.take_zero, List.nil_append, List.drop_of_length_le (by rw [List.length_replicate]; exact Nat.le_refl _), List.append_nil]
      rw [hds] at hI1
      exact ctr_ret (hd' := (l', listOf vs1.toArray 0) :: [(30, tabObj #[rawInt 32, rawInt 4, .ref cI]), (cI, ocI)]) hret NR (by assumption) F5 (newsSub N5 (ixSub [0, 6, 2] rfl)) kF7 (newsSub kN7 (ixSub [0, 6, 2] rfl)) ⟨l', vs1, ds1, 0, _, rfl, rfl, Or.inr ⟨cI, ocI, _, _, rfl, d1, d2, hcP⟩, hI1, hv1, hb1, by omega, by rw [hl1]; exact ck1⟩
  · rename_i h2' oI F2 N2 dI hx0 kF7 kN7 T7 X7
    have hk0 : k = 0 := by
      rw [hkd, hx0]
      show (0 + n - 1) / n = 0
      rw [Nat.zero_add]
      exact Nat.div_eq_of_lt (by omega)
    rw [hk0] at hIl
    exact ctr_ret (hd' := (l', listOf vl.toArray 0) :: [(30, tabObj #[rawInt 32, rawInt 4, .ref cI]), (cI, ocI)]) hret NR (by assumption) F2 (newsSub N2 (ixSub [3, 2, 1] rfl)) kF7 (newsSub kN7 (ixSub [3, 2, 1] rfl)) ⟨l', vl, [], 0, _, rfl, rfl, Or.inr ⟨cI, ocI, _, _, rfl, d1, d2, hcP⟩, hIl, by rw [hx0]; rfl, (fun _ hy => nomatch hy), by simp, by simp⟩
end
end
section
section
variable {w : World} {p : Program} {loose : List Str} {mean : ExcName → Option Value} {mg mb : Str → Option Value}

theorem digits2int_ctr (l : Addr) (vs : List Value) (ns : List Int) (e : Nat) (n : Nat) (tn : Tok) (Tb : List (Addr × Obj)) (hT : Tab 37 47 4 qI3 Tb) (hoff : ∀ q ∈ Tb, l ≠ q.1) (h1 : 0 < n) (h2 : n < 64) (hI : IntsAre vs ns) (hb : ∀ y ∈ ns, 0 ≤ y ∧ y < 2 ^ n) (hnn : n * ns.length ≤ 2 ^ 22) :
    Ctr PySem.Challenge.rw_ga0003_01.row.prog w (hd.heap_39 w.params) p loose mean mg mb 42 64 512 [.ref l, .int n tn] ((l, listOf vs.toArray e) :: Tb)
      (fun r hd' => ∃ Tb' t, r = .int (val n ns) t ∧ hd' = (l, listOf vs.toArray e) :: Tb' ∧ Tab 37 47 4 qI3 Tb') := by
  k_with_none
  k_with "tb_rel_1" => (refine wpAny_call ?_; k_dflt (refine' codeF_defC ?w1k1 ?w1k2 ?w1k3 ?w1k4 ?w1kE ?w1k5 ?w1kA ?w1kF ?w1kK ?w1k6 ?w1k7 ?w1k8 ?w1k9 ?w1kB ?w1kD ?_ ?w1c2 ?w1c3 ?w1c4; (case w1kA => exact rfl); (case w1kF => exact rfl); (case w1kK => assumption); (case w1k1 => k_asm); (case w1k2 => k_asm); (case w1k3 => k_asm); (case w1k4 => k_asm); (case w1kE => assumption); (case w1k5 => k_asm); (case w1k6 => k_is); (case w1k7 => k_is); (case w1k8 => ktr_room); (case w1k9 => first | exact BindsTo.of_eq rfl | exact binds_K (by k_in) rfl (by k_is) rfl rfl rfl | (refine' kp_binds ?w1kx ?w1ke; (case w1kx => k_in); (case w1ke => exact fun _ => rfl))); (case w1kB => exact rfl); (case w1kD => decide +kernel); (case w1c2 => exact rfl); (case w1c3 => exact rfl); (case w1c4 => exact rfl); k_whole; intro _ _ _ _ _ _ _ N' Y' _ _ _ _ l1; (try k_lt l1); revert l1; intro _; k_cells Y'; (try simp only [List.cons_append, List.nil_append] at N'); revert N'; intro _; (try dsimp only); (try k_fold)))
  k_with "kwd_rel_2" => (refine wpAny_call ?_; k_dflt (refine' codeF_nest ?w2k1 ?w2k2 ?w2k3 ?w2k4 ?w2kD ?w2k5 ?w2kA ?w2kF ?w2kK ?w2k6 ?w2k7 ?w2k8 ?w2k9 ?w2kB ?_ ?w2c2 ?w2c3 ?w2c4 ?w2c5; (case w2kA => exact rfl); (case w2kF => exact rfl); (case w2kK => first | exact rfl | assumption); (case w2k1 => k_asm); (case w2k2 => k_asm); (case w2k3 => k_asm); (case w2k4 => k_asm); (case w2kD => assumption); (case w2k5 => k_asm); (case w2k6 => k_mem); (case w2k7 => exact codeRec_news (by k_asm) (by k_mem) (by assumption) (by assumption)); (case w2k8 => ktr_room); (case w2k9 => exact BindsTo.of_eq rfl); (case w2c5 => decide); (case w2kB => exact locs rfl); (case w2c2 => exact rfl); (case w2c3 => exact rfl); (case w2c4 => exact rfl); k_whole; intro _ _ _ _ _ _ _ _ _ _ l1; (try dsimp only); (try k_lt l1); revert l1; intro _; (try k_fold)))
  k_with "spliced" => (first | refine args_cons ?_ | refine args_nil ⟨Fr.keep (by assumption) _ _ (by assumption), ?_⟩ | (refine args_nil ?_; try simp only [List.cons_append, List.nil_append]))
  k_with "binaryOp Mult int int" => ((refine mulGs (by assumption) (by assumption) (by assumption) (IntMulOk.of_right (intBits_le_64 (by omega) (by omega))) ?_; intros))
  k_with "binaryOp RShift int int" => ((refine rshN ?_))
  k_with "binaryOp LShift int int" => ((refine lshG (by omega) (lshBound2 (by assumption) (by omega)) ?_; intros))
  k_with "exec FunctionDef" => (k_here; kn_here; k_dflt (refine nestDef_K (by exact rfl) (by exact rfl) (by exact rfl) ?_); refine hold ?_)
  k_fill
  intro dp un gd cn cs a ccd cl outer A₀ base h₀ L m s rest Q E B C1 C2 F X N D T hk hdp hun hret
  have hlen : ns.length ≤ 2 ^ 22 := Nat.le_trans (Nat.le_mul_of_pos_left _ h1) hnn
  have hvl : vs.length = ns.length := hI.length
  k_extra "tb_rel_1"
  rename (l < _ ∧ _) => lTb
  obtain ⟨hc1, hc2, hc3⟩ := ltNe3 (fun q hq => kst_ltOf lTb.2 q hq)
  have NR : News h₀ L s.heap rest := newsSub N fun p hp => List.mem_append_right _ hp
  k_steps
  unfold Hold
  rename_i gg LL hh5 tk5 FG5 FA B5 X5 T5 RR5 oI oA oN dI dA dN NA
  k_dflt (refine nestTab (own := [(LL + 1 + 1 + 1, oI), (LL + 1 + 1, oA), (LL + 1, oN), (l, listOf vs.toArray e)]) hT FA NA (Off.cons hc3 (Off.cons hc2 (Off.cons hc1 (Off.cons (fun q hq => (hoff q hq).symm) (offNil _))))) T5 (by kn_code) rfl rfl rfl rfl ?_)
  intro fI cI ocI vsI tI ctI dcI h1' tk1 FN NN d1 d2 lown lP hcP lcf lPf
  obtain ⟨g0, f0⟩ : (@Ne Nat (LL + 1 + 1 + 1) cI) ∧ (@LT.lt Nat instLTNat (LL + 1 + 1 + 1) fI) := lown _ (.head _)
  have p0 : @Ne Nat (LL + 1 + 1 + 1) 37 := lP _ (.head _)
  obtain ⟨g1, f1⟩ : (@Ne Nat (LL + 1 + 1) cI) ∧ (@LT.lt Nat instLTNat (LL + 1 + 1) fI) := lown _ (.tail _ (.head _))
  have p1 : @Ne Nat (LL + 1 + 1) 37 := lP _ (.tail _ (.head _))
  obtain ⟨g2, f2⟩ : (@Ne Nat (LL + 1) cI) ∧ (@LT.lt Nat instLTNat (LL + 1) fI) := lown _ (.tail _ (.tail _ (.head _)))
  have p2 : @Ne Nat (LL + 1) 37 := lP _ (.tail _ (.tail _ (.head _)))
  obtain ⟨g3, f3⟩ : (@Ne Nat (l) cI) ∧ (@LT.lt Nat instLTNat (l) fI) := lown _ (.tail _ (.tail _ (.tail _ (.head _))))
  have p3 : @Ne Nat (l) 37 := lP _ (.tail _ (.tail _ (.tail _ (.head _))))
  clear lown lP
  have q30 : @Ne Nat fI 37 := Nat.ne_of_gt lPf
  dsimp only
  k_steps
  · rename_i h2' oI F2 N2 dI hx0
    k_dflt (refine innerD_use (w := w) (p := p) (loose := loose) (mean := mean) (mg := mg) (mb := mb) (K := hd.heap_39 w.params) (prog := PySem.Challenge.rw_ga0003_01.row.prog) (d := 22) (n := n) (f := fI) (l := l) (tn := tn) (c' := cI) (oI := oI) (oc := ocI) (vs := vs) (ns := ns) (e := e) N2 (ixMem 0 rfl) (by assumption) (by assumption) (by assumption) (ixMem 5 rfl) (ixMem 3 rfl) (ixMem 4 rfl) ?_ ?_)
    · intro dA dI dN d IH lo hi tl th hlo hhi hd2
      clear hret F X N T B C1 C2 D hk hdp hun
      intro dp un gd cn cs a ccd cl outer A₀ base h₀ L m s rest Q E B C1 C2 F X N D T hk hdp hun hret
      k_extra "kwd_rel_2"
      have NR : News h₀ L s.heap rest := newsSub N fun p hp => List.mem_append_right _ hp
      k_steps
      · rename_i hone tk0 t3 kF1 kN1 T1 X1
        have e2 : hi = lo + 1 := by omega
        refine ctr_ret hret NR (by assumption) (by assumption) (by assumption) (by assumption) (by assumption) ⟨rfl, _, congrArg (fun z => Value.int z _) ?_⟩
        rw [e2, seg_cutOne (by omega)]
        simp [val]
      · rename_i hne tk0 _ sh hsh hsf hh F2' N2'
        obtain ⟨d', rfl⟩ : ∃ d', d = d' + 1 := ⟨d - 1, by
          have : 0 < d := by
            false_or_by_contra
            have : d = 0 := by omega
            subst this
            omega
          omega⟩
        have hml := midLt hlo (by assumption)
        have hm1 := seg_cutLen (ns := ns) (lo := (lo + hi) / 2) (hi := hi) hhi
        have hm2 := seg_cutLen (ns := ns) (lo := lo) (hi := (lo + hi) / 2) (by omega)
        have hbs : Builtin.Int.intBits (val n ((ns.take hi).drop ((lo + hi) / 2))) ≤ 2 ^ 22 := bitsSeg (seg_mem hb) (Nat.le_trans (Nat.mul_le_mul_left n (by omega)) hnn)
        k_dflt (refine' IH d' rfl ((lo + hi) / 2) hi _ _ ?q7xa2 ?q7xa3 ?q7xa4 _ _ _ _ _ _ _ _ _ _ _ _ _ _ _ ([]) _ _ ?q7xk1 ?q7xk2 ?q7xk3 ?q7xk4 ?q7xk5 ?q7xk6 ?q7xk7 ?q7xk8 ?q7xk9 ?q7xk10 ?q7xk11 ?q7xkR)
        case q7xa2 => first | exact hml.2 | omega
        case q7xa3 => first | exact hhi | omega
        case q7xa4 => first | exact midHi hlo hd2 | omega
        case q7xk1 => k_asm
        case q7xk2 => assumption
        case q7xk3 => assumption
        case q7xk4 => k_asm
        case q7xk5 => k_asm
        case q7xk6 => rw [List.append_nil]; k_asm
        case q7xk7 => exact Off.nilR _
        case q7xk8 => k_asm
        case q7xk9 => first | exact rfl | assumption
        case q7xk10 => ktr_room
        case q7xk11 => ktr_units
        intro r hd' h' tk' F3 N3 D3 ⟨ehd, t3, hr⟩
        subst hr ehd
        rw [List.append_nil] at N3
        dsimp only
        k_steps
        rename_i lv hlv
        k_dflt (refine' IH d' rfl lo ((lo + hi) / 2) _ _ ?q8xa2 ?q8xa3 ?q8xa4 _ _ _ _ _ _ _ _ _ _ _ _ _ _ _ ([]) _ _ ?q8xk1 ?q8xk2 ?q8xk3 ?q8xk4 ?q8xk5 ?q8xk6 ?q8xk7 ?q8xk8 ?q8xk9 ?q8xk10 ?q8xk11 ?q8xkR)
        case q8xa2 => first | exact hml.1 | omega
        case q8xa3 => first | exact Nat.le_trans (Nat.le_of_lt hml.2) hhi | omega
        case q8xa4 => first | exact midLo hlo hd2 | omega
        case q8xk1 => k_asm
        case q8xk2 => assumption
        case q8xk3 => assumption
        case q8xk4 => k_asm
        case q8xk5 => k_asm
        case q8xk6 => rw [List.append_nil]; k_asm
        case q8xk7 => exact Off.nilR _
        case q8xk8 => k_asm
        case q8xk9 => first | exact rfl | assumption
        case q8xk10 => ktr_room
        case q8xk11 => ktr_units
        intro r hd' h'' tk'' F4 N4 D4 ⟨ehd, t4, hr⟩
        subst hr ehd
        rw [List.append_nil] at N4
        dsimp only
        k_steps
        refine ctr_ret hret NR (by assumption) (by assumption) (by assumption) (by assumption) (by assumption) ⟨rfl, _, congrArg (fun z => Value.int z _) ?_⟩
        rw [seg_cut (ns := ns) (lo := lo) (mid := (lo + hi) / 2) (hi := hi) (by omega) (by omega) hhi, val_append, hm2, hlv, hsf.2.2, Int.mul_comm (2 ^ _), Int.add_comm]
    · intro dA dI dN HC
      k_dflt (refine' HC 0 ns.length _ _ ?q9xa2 (Nat.le_refl _) ?q9xa4 _ _ _ _ _ _ _ _ _ _ _ _ _ _ _ ([(37, tabObj #[rawInt 47, rawInt 4, .ref cI])]) _ _ ?q9xk1 ?q9xk2 ?q9xk3 ?q9xk4 ?q9xk5 ?q9xk6 ?q9xk7 ?q9xk8 ?q9xk9 ?q9xk10 ?q9xk11 ?q9xkR)
      case q9xa2 => omega
      case q9xa4 => omega
      case q9xk1 => k_asm
      case q9xk2 => assumption
      case q9xk3 => assumption
      case q9xk4 => k_asm
      case q9xk5 => k_asm
      case q9xk6 => exact newsSub N2 (ixSub [6, 0, 1, 5, 3, 4, 2] rfl)
      case q9xk7 => (repeat (refine Off.cons (by k_all) ?_)); exact offNil _
      case q9xk8 => k_asm
      case q9xk9 => first | exact rfl | assumption
      case q9xk10 => ktr_room
      case q9xk11 => ktr_units
      intro r hd' h5 tk5 F5 N5 D5 ⟨ehd, t5, hr⟩
      subst hr ehd
      dsimp only
      simp only [List.cons_append, List.nil_append] at N5
      k_steps
      rename_i kF7 kN7 T7 X7
      have hds : (ns.take ns.length).drop 0 = ns := by simp
      rw [hds]
      exact ctr_ret (hd' := (l, listOf vs.toArray e) :: [(37, tabObj #[rawInt 47, rawInt 4, .ref cI]), (cI, ocI)]) hret NR (by assumption) F5 (newsSub N5 (ixSub [0, 6, 2] rfl)) kF7 (newsSub kN7 (ixSub [0, 6, 2] rfl)) ⟨_, _, rfl, rfl, Or.inr ⟨cI, ocI, _, _, rfl, d1, d2, hcP⟩⟩
  · rename_i h2' oI F2 N2 dI hx0 kF7 kN7 T7 X7
    have hk0 : ns = [] := List.eq_nil_of_length_eq_zero (by omega)
    exact ctr_ret (hd' := (l, listOf vs.toArray e) :: [(37, tabObj #[rawInt 47, rawInt 4, .ref cI]), (cI, ocI)]) hret NR (by assumption) F2 (newsSub N2 (ixSub [6, 2, 1] rfl)) kF7 (newsSub kN7 (ixSub [6, 2, 1] rfl)) ⟨_, _, by rw [hk0]; rfl, rfl, Or.inr ⟨cI, ocI, _, _, rfl, d1, d2, hcP⟩⟩
end
end
section
theorem Fr.know {h₀ h : Heap} {L : Addr} {m : Str → Option Value} {k : Str} {v : Value} (F : Fr h₀ L h m) (hk : m k = some v) : Fr h₀ L h (fun z => if z = k then some v else m z) := by
  have e : (fun z => if z = k then some v else m z) = m := by
    funext z
    by_cases hz : z = k
    · rw [if_pos hz, hz, hk]
    · rw [if_neg hz]
  rw [e]; exact F
theorem Tab.offSeq {P : Addr} {ln cl : Int} {q : Str} {T led : List (Addr × Obj)} {h₀ h : Heap} {L l : Addr} {o : Obj} {its : Array Value} {ep : Nat} (hT : Tab P ln cl q T) (N : News h₀ L h led) (hm : (l, o) ∈ led) (hs : o.data = .seq its ep) (hsub : ∀ p ∈ T, p ∈ led) : ∀ p ∈ T, p.1 ≠ l := by
  have h1 := (N _ hm).1
  have key : ∀ p ∈ T, (∃ vs, p.2.data = .fields vs) → p.1 ≠ l := fun p hp ⟨vs, hv⟩ e => by
    have h2 := (N _ (hsub p hp)).1
    rw [e, h1] at h2
    cases h2
    rw [hs] at hv
    cases hv
  intro p hp
  refine key p hp ?_
  rcases hT with rfl | ⟨c', oc, vs, t, rfl, d1, _, _⟩
  · rw [List.mem_singleton.mp hp]; exact ⟨_, rfl⟩
  · rcases List.mem_cons.mp hp with rfl | hp
    · exact ⟨_, rfl⟩
    · rw [List.mem_singleton.mp hp]; exact ⟨_, d1⟩
theorem intsGet {vs : List Value} {ns : List Int} {i : Nat} {v : Value} (h : IntsAre vs ns) (hv : vs[i]? = some v) : ∃ d t, ns[i]? = some d ∧ v = .int d t := by
  have hl := h.length
  have hi : i < vs.length := (List.getElem?_eq_some_iff.mp hv).1
  obtain ⟨t, ht⟩ := h.get i (ns[i]'(by omega)) (List.getElem?_eq_getElem (by omega))
  rw [hv] at ht
  exact ⟨_, t, List.getElem?_eq_getElem (by omega), Option.some.inj ht⟩

/-- one turn of the school's division -/
theorem digitStep {n : Nat} {ds qs : List Int} {y R d : Int} {i : Nat} (hi : i < ds.length) (hd : ds[ds.length - 1 - i]? = some d) (hy : 0 < y) (hR : 0 ≤ R) (hRy : R < y) (hd0 : 0 ≤ d) (hdn : d < 2 ^ n)
    (hv : val n (ds.drop (ds.length - i)) = val n qs.reverse * y + R) :
    val n (ds.drop (ds.length - (i + 1))) = val n (qs ++ [(R * 2 ^ n + d).fdiv y]).reverse * y + (R * 2 ^ n + d).fmod y ∧ 0 ≤ (R * 2 ^ n + d).fmod y ∧ (R * 2 ^ n + d).fmod y < y ∧ 0 ≤ (R * 2 ^ n + d).fdiv y ∧ (R * 2 ^ n + d).fdiv y < 2 ^ n := by
  have hp : (0 : Int) < 2 ^ n := Int.pow_pos (by decide)
  have h0 : 0 ≤ R * 2 ^ n := Int.mul_nonneg hR (by omega)
  rw [Int.fdiv_eq_ediv_of_nonneg _ (by omega), Int.fmod_eq_emod_of_nonneg _ (by omega)]
  have hx : ds.drop (ds.length - (i + 1)) = d :: ds.drop (ds.length - i) := by
    have e1 : ds.length - (i + 1) = ds.length - 1 - i := by omega
    have e2 : ds.length - i = ds.length - 1 - i + 1 := by omega
    obtain ⟨hlt, he⟩ := List.getElem?_eq_some_iff.mp hd
    rw [e1, e2, List.drop_eq_getElem_cons hlt, he]
  have hm := Int.emod_add_mul_ediv (R * 2 ^ n + d) y
  refine ⟨?_, Int.emod_nonneg _ (by omega), Int.emod_lt_of_pos _ hy, Int.ediv_nonneg (by omega) (by omega), Int.ediv_lt_of_lt_mul hy ?_⟩
  · rw [hx, val, hv, List.reverse_append, List.reverse_cons, List.reverse_nil, List.nil_append, List.singleton_append, val]
    rw [Int.add_mul, Int.mul_add, ← Int.mul_assoc, Int.mul_comm (2 ^ n : Int) R]
    rw [Int.mul_comm y] at hm
    omega
  · have : (R + 1) * 2 ^ n ≤ y * 2 ^ n := Int.mul_le_mul_of_nonneg_right (by omega) (by omega)
    rw [Int.add_mul, Int.one_mul] at this
    rw [Int.mul_comm y] at this
    omega

theorem bitsStep {n : Nat} {R y d : Int} (hn : Builtin.Int.intBits y = n) (hn2 : n < 64) (hR : 0 ≤ R) (hRy : R < y) (hd0 : 0 ≤ d) (hdn : d < 2 ^ n) : (Builtin.Int.intBits (R * 2 ^ n + d) : Int) - n ≤ 4000 := by
  have hp : (0 : Int) < 2 ^ n := Int.pow_pos (by decide)
  have h1 : y.natAbs < 2 ^ n := intBits_le_iff.mp (by omega)
  have h2 : y < ((2 ^ n : Nat) : Int) := by omega
  have h2' : y < 2 ^ n := by simpa using h2
  have h3 : (R + 1) * 2 ^ n ≤ 2 ^ n * 2 ^ n := Int.mul_le_mul_of_nonneg_right (by omega) (by omega)
  rw [Int.add_mul, Int.one_mul, ← Int.pow_add] at h3
  have h4 : 0 ≤ R * 2 ^ n := Int.mul_nonneg hR (by omega)
  have := bits_of_lt (x := R * 2 ^ n + d) (k := n + n) (by omega) (by omega)
  omega

theorem intsPush {x : Int} {t : Tok} : ∀ {vs : List Value} {ns : List Int}, IntsAre vs ns → IntsAre (vs ++ [.int x t]) (ns ++ [x])
  | _, _, .nil => .cons x t .nil
  | _, _, .cons n u h => .cons n u (intsPush h)
theorem intsRev : ∀ {vs : List Value} {ns : List Int}, IntsAre vs ns → IntsAre vs.reverse ns.reverse
  | _, _, .nil => .nil
  | _, _, .cons n u h => by rw [List.reverse_cons, List.reverse_cons]; exact intsPush (intsRev h)
theorem divEnd {x Q y R : Int} (h : x = Q * y + R) (h0 : 0 ≤ R) (h1 : R < y) : x.fdiv y = Q ∧ x.fmod y = R := by
  rw [Int.fdiv_eq_ediv_of_nonneg _ (by omega), Int.fmod_eq_emod_of_nonneg _ (by omega), h]
  refine ⟨?_, ?_⟩
  · rw [Int.add_comm, Int.add_mul_ediv_right _ _ (by omega), Int.ediv_eq_zero_of_lt h0 h1]; omega
  · rw [Int.add_comm, Int.add_mul_emod_self_right, Int.emod_eq_of_lt h0 h1]

theorem negDiv {x y : Int} (h1 : 0 < y) : -((-x - 1).fdiv y) - 1 = x.fdiv y ∧ y + (-((-x - 1).fmod y) - 1) = x.fmod y := by
  have f1 : (-x - 1).fdiv y = (-x - 1) / y := Int.fdiv_eq_ediv_of_nonneg _ (by omega)
  have f2 : (-x - 1).fmod y = (-x - 1) % y := Int.fmod_eq_emod_of_nonneg _ (by omega)
  rw [f1, f2]
  have a1 := Int.emod_add_mul_ediv (-x - 1) y
  have a2 := Int.emod_nonneg (-x - 1) (b := y) (by omega)
  have a3 := Int.emod_lt_of_pos (-x - 1) h1
  generalize (-x - 1) / y = q at *
  generalize (-x - 1) % y = r at *
  have e : x = (-q - 1) * y + (y - r - 1) := by
    rw [Int.sub_mul, Int.neg_mul, Int.one_mul, Int.mul_comm q y]; omega
  have := divEnd e (by omega) (by omega)
  omega

/-- a turn's end: the ledger is the iterator's own and what the word says -/
def TurnEnd (h₀ : Heap) (L : Addr) (own : List (Addr × Obj)) (J : (Str → Option Value) → List (Addr × Obj) → Prop) (s₁ s₂ : Shared) : Prop :=
  ∃ h' tk m' news', s₂ = { s₁ with heap := h', toks := tk } ∧ Fr h₀ L h' m' ∧ News h₀ L h' (own ++ news') ∧ Off own news' ∧ J m' news'
def TurnPost (h₀ : Heap) (L : Addr) (own : List (Addr × Obj)) (J : (Str → Option Value) → List (Addr × Obj) → Prop) (Q : Flow → Shared → Prop) (s₁ : Shared) (f : Flow) (s₂ : Shared) : Prop :=
  match f with
  | .ret v => Q (.ret v) s₂
  | .brk => Q .next s₂
  | _ => TurnEnd h₀ L own J s₁ s₂

section
variable {prog : Program} {w : World} {A : Around} {E : Value → Shared → Prop} {s : Shared} {env : Env} {h₀ : Heap} {x : Str} {body : List Stmt} {Q : Flow → Shared → Prop}

theorem loopG {I : Addr} {fp wr : List Addr} {n : Nat} {P : Nat → Value → Prop} {St : Nat → Heap → Prop} {m₀ : Str → Option Value} {news keep : List (Addr × Obj)} (J : Nat → (Str → Option Value) → List (Addr × Obj) → Prop)
    (W : Walks prog w A I fp wr n P St) (hobj : ∀ i h, St i h → ∀ b ∈ fp, ∃ o, h.get? b = some o) (hLf : env.locals ∉ fp) (hwr : ∀ b ∈ wr, h₀.get? b = none) (hkw : ∀ p ∈ keep, p.1 ∈ fp ∧ p.1 ∉ wr) (hfp : ∀ p ∈ news, p.1 ∉ fp) (hst : St 0 s.heap) (F : Fr h₀ env.locals s.heap m₀)
    (N : News h₀ env.locals s.heap (news ++ keep)) (hj : J 0 m₀ news)
    (turn : ∀ i v m₁ news₁ h tk own, i < n → P i v → J i m₁ news₁ → Off own news₁ → (∀ b ∈ fp, h₀.get? b = none → ∀ o, h.get? b = some o → (b, o) ∈ own) → (∀ p ∈ keep, p ∈ own) → St (i + 1) h → Fr h₀ env.locals h (fun y => if y = x then some v else m₁ y) → News h₀ env.locals h (own ++ news₁) →
      wpAny (model prog w) A (execs body env) (TurnPost h₀ env.locals own (J (i + 1)) Q { s with heap := h, toks := tk }) E { s with heap := h, toks := tk })
    (done : ∀ m₁ news₁ h tk, J n m₁ news₁ → (∀ p ∈ news₁, p.1 ∉ fp) → Fr h₀ env.locals h m₁ → News h₀ env.locals h (news₁ ++ keep) → Q .next { s with heap := h, toks := tk }) :
    LoopAtV prog w A h₀ env x body Q E (.ref I) s := by
  let J' : Nat → (Str → Option Value) → List (Addr × Obj) → Prop := fun i m nx => ∃ news₁, nx = news₁ ++ keep ∧ (∀ p ∈ news₁, p.1 ∉ fp) ∧ J i m news₁
  refine ⟨I, fp, wr, n, P, St, m₀, news ++ keep, J', rfl, W, hLf, hwr, ?_, hst, F, N, ⟨news, rfl, hfp, hj⟩, ?_, ?_⟩
  · intro p hp hm
    rcases List.mem_append.mp hp with hp | hp
    · exact hfp p hp (W.sub _ hm)
    · exact (hkw p hp).2 hm
  · rintro i v m₁ nx s₁ own ⟨hh', tk', rfl⟩ hin hP ⟨news₁, rfl, hoff, hJ⟩ _ hown hget hall hst' F₁ N₁
    have hk : ∀ p ∈ keep, p ∈ own := fun p hp => hall p.1 (hkw p hp).1 (N p (List.mem_append_right _ hp)).2.2 p.2 (N₁ p (List.mem_append_right _ (List.mem_append_right _ hp))).1
    have N₂ : News h₀ env.locals hh' (own ++ news₁) := fun p hp => N₁ p ((List.mem_append.mp hp).elim (fun h => List.mem_append_left _ h) fun h => List.mem_append_right _ (List.mem_append_left _ h))
    refine wpAny_mono (turn i v m₁ news₁ hh' tk' own hin hP hJ (fun p hp q hq e => hoff q hq (e ▸ hown p hp)) hall hk hst' F₁ N₂) (fun f s₂ p => ?_) fun _ _ e => e
    have fin : TurnEnd h₀ env.locals own (J (i + 1)) { s with heap := hh', toks := tk' } s₂ → LoopStepU h₀ env.locals wr own (J' (i + 1)) { s with heap := hh', toks := tk' } .next s₂ := by
      rintro ⟨h', tk, m', news', e, F', N', hO, hm⟩
      have hno : ∀ p ∈ news', p.1 ∉ fp := fun p hp hb => by
        cases q : h₀.get? p.1 with
        | some o => have := (N' p (List.mem_append_right _ hp)).2.2; rw [q] at this; cases this
        | none =>
          obtain ⟨o, ho⟩ := hobj _ _ hst' p.1 hb
          exact hO _ (hall _ hb q o ho) p hp rfl
      refine ⟨rfl, h', tk, m', news' ++ keep, e, F', fun p hp => ?_, fun p hp hb => ?_, news', rfl, hno, hm⟩
      · rcases List.mem_append.mp hp with h | h
        · exact N' p (List.mem_append_left _ h)
        · rcases List.mem_append.mp h with h | h
          · exact N' p (List.mem_append_right _ h)
          · exact N' p (List.mem_append_left _ (hk p h))
      · rcases List.mem_append.mp hp with h | h
        · exact hno p h (W.sub _ hb)
        · exact (hkw p h).2 hb
    cases f with
    | ret v => exact .ret p
    | brk => exact .brk p
    | next => exact .next (fin p)
    | cont => exact .cont (fin p)
  · rintro h' tk m' news' F' N' _ ⟨news₁, rfl, hno, hJ⟩
    exact done m' news₁ h' tk hJ hno F' N'

/-- over reversed(l), the iterator and the list in the ledger; the list is not asked for behind it -/
theorem iterRevG {I l : Addr} {vs : List Value} {e : Nat} {led news : List (Addr × Obj)} {m₀ : Str → Option Value} (J : Nat → (Str → Option Value) → List (Addr × Obj) → Prop)
    (hh : A.handled = none) (F : Fr h₀ env.locals s.heap m₀) (N : News h₀ env.locals s.heap led) (hI : (I, revObj l ((vs.length : Int) - 1)) ∈ led) (hl : (l, listOf vs.toArray e) ∈ led) (hne : l ≠ I) (hsub : ∀ p ∈ news, p ∈ led) (hnI : ∀ p ∈ news, p.1 ≠ I) (hnl : ∀ p ∈ news, p.1 ≠ l) (hj : J 0 m₀ news)
    (turn : ∀ i v m₁ news₁ h tk own, i < vs.length → vs[vs.length - 1 - i]? = some v → J i m₁ news₁ → Off own news₁ → Fr h₀ env.locals h (fun y => if y = x then some v else m₁ y) → News h₀ env.locals h (own ++ news₁) →
      wpAny (model prog w) A (execs body env) (TurnPost h₀ env.locals own (J (i + 1)) Q { s with heap := h, toks := tk }) E { s with heap := h, toks := tk })
    (done : ∀ m₁ news₁ h tk, J vs.length m₁ news₁ → Fr h₀ env.locals h m₁ → News h₀ env.locals h news₁ → Q .next { s with heap := h, toks := tk }) :
    wpAny (model prog w) A (pyIter (.ref I)) (fun it s₂ => LoopAtV prog w A h₀ env x body Q E it s₂) E s := by
  have hL : s.heap.IsList l vs.toArray := ⟨_, (N _ hl).1, rfl, e, rfl⟩
  have hit : s.heap.IsRevIter I l ((vs.length : Int) - 1) := ⟨_, (N _ hI).1, rfl, rfl⟩
  refine wpAny_pyIter_revIter hit ?_
  have W := Walks.listRev (prog := prog) (w := w) hh I l hne vs.toArray
  have hlen : vs.toArray.size = vs.length := by simp
  rw [hlen] at W
  refine loopG (keep := []) J W ?_ ?_ ?_ (fun _ hp => nomatch hp) ?_ ⟨Nat.zero_le _, by simpa using hit, hL⟩ F (newsSub N fun p hp => hsub p (by simpa using hp)) hj ?_ ?_
  · rintro i h ⟨_, ⟨o1, h1, _⟩, ⟨o2, h2, _⟩⟩ b hb
    rcases List.mem_cons.mp hb with rfl | hb
    · exact ⟨o1, h1⟩
    · rw [List.mem_singleton.mp hb]; exact ⟨o2, h2⟩
  · intro hm
    rcases List.mem_cons.mp hm with e1 | hm
    · exact (N _ hI).2.1 e1.symm
    · exact (N _ hl).2.1 (List.mem_singleton.mp hm).symm
  · intro b hb
    rw [List.mem_singleton.mp hb]; exact (N _ hI).2.2
  · intro p hp hm
    rcases List.mem_cons.mp hm with e1 | hm
    · exact hnI p hp e1
    · exact hnl p hp (List.mem_singleton.mp hm)
  · intro i v m₁ news₁ h tk own hi hP hJ hO _ _ _ F₁ N₁
    exact turn i v m₁ news₁ h tk own hi (by simpa using hP) hJ hO F₁ N₁
  · intro m₁ news₁ h tk hJ _ F₁ N₁
    exact done m₁ news₁ h tk hJ F₁ (by simpa using N₁)

/-- over a range, of any step -/
theorem iterRangeG {r : Addr} {a b c : Int} {t u v : Tok} {n : Nat} {news : List (Addr × Obj)} {m₀ : Str → Option Value} (J : Nat → (Str → Option Value) → List (Addr × Obj) → Prop)
    (hh : A.handled = none) (hr : IsRange s.heap r a b c t u v) (hsmall : Builtin.Range.small a b c = true) (hn : Builtin.Range.rangeSize a b c = (n : Int)) (F : Fr h₀ env.locals s.heap m₀) (N : News h₀ env.locals s.heap news) (hj : J 0 m₀ news)
    (turn : ∀ i (t : Tok) m₁ news₁ h tk own, i < n → J i m₁ news₁ → Off own news₁ → Fr h₀ env.locals h (fun y => if y = x then some (.int (a + i * c) t) else m₁ y) → News h₀ env.locals h (own ++ news₁) →
      wpAny (model prog w) A (execs body env) (TurnPost h₀ env.locals own (J (i + 1)) Q { s with heap := h, toks := tk }) E { s with heap := h, toks := tk })
    (done : ∀ m₁ news₁ h tk, J n m₁ news₁ → Fr h₀ env.locals h m₁ → News h₀ env.locals h news₁ → Q .next { s with heap := h, toks := tk }) :
    wpAny (model prog w) A (pyIter (.ref r)) (fun it s₂ => LoopAtV prog w A h₀ env x body Q E it s₂) E s := by
  refine wpAny_pyIter_range hr hsmall ?_
  have W := Walks.range (prog := prog) (w := w) hh s.heap.objs.size a c n
  have hnew : h₀.get? s.heap.objs.size = none := by
    cases q : h₀.get? s.heap.objs.size with
    | none => rfl
    | some o => exact absurd (Heap.lt_size (F.keep _ _ q)) (Nat.lt_irrefl _)
  refine loopG (keep := []) J W ?_ ?_ ?_ (fun _ hp => nomatch hp) ?_ (by show IsRangeIter _ _ _ _ _; rw [hn]; simpa using Heap.get?_push_size _ rfl) (F.push _) (fun p hp => ⟨Heap.get?_push_of_some _ (N p (by simpa using hp)).1, (N p (by simpa using hp)).2⟩) hj ?_ ?_
  · intro i h hs b hb
    rw [List.mem_singleton.mp hb]; exact ⟨_, hs⟩
  · intro hm
    exact absurd F.ns.lt ((List.mem_singleton.mp hm) ▸ Nat.lt_irrefl _)
  · intro b hb
    rw [List.mem_singleton.mp hb]; exact hnew
  · intro p hp hm
    exact absurd (Heap.lt_size (N p hp).1) ((List.mem_singleton.mp hm) ▸ Nat.lt_irrefl _)
  · rintro i v m₁ news₁ h tk own hi ⟨t, rfl⟩ hJ hO _ _ _ F₁ N₁
    exact turn i t m₁ news₁ h tk own hi hJ hO F₁ N₁
  · intro m₁ news₁ h tk hJ _ F₁ N₁
    exact done m₁ news₁ h tk hJ F₁ (by simpa using N₁)

end
end
local macro_rules | `(tactic| k_all) => `(tactic| assumption)
section
section
local macro_rules | `(tactic| walk_at "exec For Name Call cons nil") => `(tactic| (k_here; (rename Fr _ _ _ _ => lF'); (with_unfolding_all refine' For_invVF lF' ?k1 ?k2 ?_; (case k1 => exact rfl); (case k2 => exact rfl); k_whole)))
variable {w : World} {p : Program} {loose : List Str} {mean : ExcName → Option Value} {mg mb : Str → Option Value}

theorem divmod_pos_ctr (x y : Int) (tx ty : Tok) (T2 T3 : List (Addr × Obj)) (hT2 : Tab 30 32 4 qI2 T2) (hT3 : Tab 37 47 4 qI3 T3) (hO : Off T2 T3) (h0 : 0 ≤ x) (h1 : 0 < y) (h2 : y < 1073741824) (h3 : Builtin.Int.intBits x ≤ 2 ^ 21) :
    Ctr PySem.Challenge.rw_ga0003_01.row.prog w (hd.heap_39 w.params) p loose mean mg mb 49 80 700 [.int x tx, .int y ty] (T2 ++ T3)
      (fun r hd' => ∃ l t1 t2 e T2' T3', r = .ref l ∧ hd' = (l, tupObj [.int (Int.fdiv x y) t1, .int (Int.fmod x y) t2] e) :: (T2' ++ T3') ∧ Tab 30 32 4 qI2 T2' ∧ Tab 37 47 4 qI3 T3' ∧ Off T2' T3') := by
  k_with_none
  k_with "tb_start_1" => (refine wpAny_call ?_; k_dflt (refine' codeF_def ?w1k1 ?w1k2 ?w1k3 ?w1k4 ?w1kD ?w1k5 ?w1kA ?w1kF ?w1kK ?w1k6 ?w1k7 ?w1k8 ?w1k9 ?w1kB ?_ ?w1c2 ?w1c3 ?w1c4 ?w1c5; (case w1kA => exact rfl); (case w1kF => exact rfl); (case w1kK => assumption); (case w1k1 => k_asm); (case w1k2 => k_asm); (case w1k3 => k_asm); (case w1k4 => k_asm); (case w1kD => assumption); (case w1k5 => k_asm); (case w1k6 => k_is); (case w1k7 => k_is); (case w1k8 => ktr_room); (case w1k9 => first | exact BindsTo.of_eq rfl | exact binds_K (by k_in) rfl (by k_is) rfl rfl rfl | (refine' kp_binds ?w1kx ?w1ke; (case w1kx => k_in); (case w1ke => exact fun _ => rfl))); (case w1c5 => decide); (case w1kB => exact locs rfl); (case w1c2 => exact rfl); (case w1c3 => exact rfl); (case w1c4 => exact rfl); k_whole; intro _ _ _ _ _ _ _ _ _ _ l1; (try dsimp only); (try k_lt l1); revert l1; intro _; (try k_fold)))
  k_with "spliced" => (first | refine args_cons ?_ | refine args_nil ⟨Fr.keep (by assumption) _ _ (by assumption), ?_⟩ | (refine args_nil ?_; try simp only [List.cons_append, List.nil_append]))
  k_fill
  intro dp un gd cn cs a ccd cl outer A₀ base h₀ L m s rest Q E B C1 C2 F X N D T hk hdp hun hret
  k_extra "tb_start_1"
  have NR : News h₀ L s.heap rest := newsSub N fun p hp => List.mem_append_right _ hp
  k_steps
  generalize hn : Builtin.Int.intBits y = n at *
  have hn1 : 0 < n := by
    rw [← hn]; unfold Builtin.Int.intBits
    rw [if_neg (by simp; omega)]; omega
  have hn2 : n < 64 := by
    have : Builtin.Int.intBits y ≤ 30 := intBits_le_iff.mpr (by omega)
    omega
  k_dflt (refine' int2digits_ctr x n _ _ T2 hT2 h0 hn1 hn2 h3 _ _ _ _ _ _ _ _ _ _ _ _ _ _ _ (T3) _ _ ?q1xk1 ?q1xk2 ?q1xk3 ?q1xk4 ?q1xk5 ?q1xk6 ?q1xk7 ?q1xk8 ?q1xk9 ?q1xk10 ?q1xk11 ?q1xkR)
  case q1xk1 => k_asm
  case q1xk2 => assumption
  case q1xk3 => assumption
  case q1xk4 => k_asm
  case q1xk5 => k_asm
  case q1xk6 => k_asm
  case q1xk7 => exact hO
  case q1xk8 => k_asm
  case q1xk9 => first | exact rfl | assumption
  case q1xk10 => ktr_room
  case q1xk11 => ktr_units
  intro r hd' h' tk' F' N' D' ⟨l, vs, ds, e, T2', hr, ehd, hT2', hI, hval, hdb, hdl, hdn⟩
  subst hr ehd
  dsimp only
  simp only [List.cons_append] at N'
  k_steps
  rename_i hh4 tk4 hh3 lq hh2 ml1 hh1 D hh F2 N2 ml2
  have hvl : vs.length = ds.length := hI.length
  have hO32 : Off T3 T2' := fun p hp q hq e => D' q (.tail _ hq) p hp e.symm
  have hnT : ∀ p ∈ T2' ++ T3, p.1 ≠ lq := fun p hp => Nat.ne_of_lt (kst_ltOf ml1.2 p hp)
  have hoT2 := Tab.offSeq hT2' N2 (l := l) (ixMem 2 rfl) rfl (by intro p hp; simp [hp])
  have hoT3 := Tab.offSeq hT3 N2 (l := l) (ixMem 2 rfl) rfl (by intro p hp; simp [hp])
  k_dflt (refine iterRevG (l := l) (vs := vs) (e := e) (news := (lq, listOf [].toArray 0) :: (T2' ++ T3)) (fun i m news => ∃ (R : Int) (tR tn : Tok) (qs : List Int) (vq : List Value) (eq : Nat), news = (lq, listOf vq.toArray eq) :: (T2' ++ T3) ∧ IntsAre vq qs ∧ m (Str.ofString "r") = some (.int R tR) ∧ m (Str.ofString "n") = some (.int n tn) ∧ m (Str.ofString "b") = some (.int y ty) ∧ m (Str.ofString "q_digits") = some (.ref lq) ∧ 0 ≤ R ∧ R < y ∧ val n (ds.drop (ds.length - i)) = val n qs.reverse * y + R ∧ qs.length = i ∧ ∀ q ∈ qs, 0 ≤ q ∧ q < 2 ^ n) rfl F2 N2 (ixMem 0 rfl) (ixMem 2 rfl) ?_ ?_ ?_ ?_ ?_ ?_ ?_)
  · k_ne
  · intro p hp; simp at hp ⊢; rcases hp with h | h | h <;> simp [h]
  · refine List.forall_mem_cons.mpr ⟨by k_ne, fun p hp => Nat.ne_of_lt (kst_ltOf (by first | exact ml2 | exact ml2.2 | exact ml2.2.2 | exact ml2.2.2.2) p hp)⟩
  · refine List.forall_mem_cons.mpr ⟨by k_ne, fun p hp => (List.mem_append.mp hp).elim (hoT2 p) (hoT3 p)⟩
  · exact ⟨0, _, _, [], [], 0, rfl, .nil, rfl, rfl, rfl, rfl, Int.le_refl _, h1, by simp [val], rfl, fun _ hq => nomatch hq⟩
  · rintro i v m₁ news₁ h tk own hi hv ⟨R, tR, tn, qs, vq, eq, rfl, hIq, hmr, hmn, hmb, hmq, hR0, hRy, hvv, hql, hqb⟩ hO F3 N3
    obtain ⟨d, td, hdd, rfl⟩ := intsGet hI hv
    rw [hvl] at hdd
    have hd1 := hdb d (List.mem_of_getElem? hdd)
    have hstep := digitStep (by omega) hdd h1 hR0 hRy hd1.1 hd1.2 hvv
    have F4 := Fr.know (k := Str.ofString "r") (v := .int R tR) F3 ((if_neg (by decide)).trans hmr)
    have F5 := Fr.know (k := Str.ofString "n") (v := .int n tn) F4 ((if_neg (by decide)).trans ((if_neg (by decide)).trans hmn))
    have F6 := Fr.know (k := Str.ofString "b") (v := .int y ty) F5 ((if_neg (by decide)).trans ((if_neg (by decide)).trans ((if_neg (by decide)).trans hmb)))
    have F7 := Fr.know (k := Str.ofString "q_digits") (v := .ref lq) F6 ((if_neg (by decide)).trans ((if_neg (by decide)).trans ((if_neg (by decide)).trans ((if_neg (by decide)).trans hmq))))
    have N4 := newsSub (xs := (lq, listOf vq.toArray eq) :: (own ++ (T2' ++ T3))) N3 (by intro p hp; simp at hp ⊢; rcases hp with h | h | h | h <;> simp [h])
    have hne : ∀ p ∈ own ++ (T2' ++ T3), p.1 ≠ lq := List.forall_mem_append.mpr ⟨fun p hp => hO p hp _ (.head _), hnT⟩
    clear F3 F4 F5 F6 F2 N2 N3
    k_steps
    rw [Int.toNat_natCast]
    k_dflt (refine' div2n1n_ctr (R * 2 ^ n + d) y n _ _ _ (by omega) (by omega) (bitsStep hn hn2 hR0 hRy hd1.1 hd1.2) _ _ _ _ _ _ _ _ _ _ _ _ _ _ _ ((lq, listOf vq.toArray eq) :: (own ++ (T2' ++ T3))) _ _ ?q2xk1 ?q2xk2 ?q2xk3 ?q2xk4 ?q2xk5 ?q2xk6 ?q2xk7 ?q2xk8 ?q2xk9 ?q2xk10 ?q2xk11 ?q2xkR)
    case q2xk1 => k_asm
    case q2xk2 => assumption
    case q2xk3 => assumption
    case q2xk4 => k_asm
    case q2xk5 => k_asm
    case q2xk6 => k_asm
    case q2xk7 => exact offNil _
    case q2xk8 => k_asm
    case q2xk9 => first | exact rfl | assumption
    case q2xk10 => ktr_room
    case q2xk11 => ktr_units
    intro r hd' h' tk' F' N' D' ⟨lt, t1, t2, et, hr, ehd⟩
    subst hr ehd
    dsimp only
    simp only [List.cons_append, List.nil_append] at N'
    have hlt : lt ≠ lq := neN (D' _ (.head _) _ (.head _))
    have hvq : vq.length = i := by rw [hIq.length]; exact hql
    k_steps
    rename_i F9 N9
    simp only [List.push_toArray] at N9
    refine ⟨_, _, _, (lq, listOf (vq ++ [Value.int ((R * 2 ^ n + d).fdiv y) t1]).toArray (eq + 1)) :: (T2' ++ T3), rfl, F9, newsSub N9 ?_, ?_, ⟨_, _, _, qs ++ [_], _, _, rfl, intsPush hIq, rfl, rfl, rfl, rfl, hstep.2.1, hstep.2.2.1, hstep.1, by rw [List.length_append, hql]; rfl, ?_⟩⟩
    · intro p hp; simp at hp ⊢; rcases hp with h | h | h | h <;> simp [h]
    · intro p hp q hq
      rcases List.mem_cons.mp hq with rfl | hq
      · exact hne p (List.mem_append_left _ hp)
      · exact hO p hp q (.tail _ hq)
    · intro q hq
      rcases List.mem_append.mp hq with hq | hq
      · exact hqb q hq
      · rw [List.mem_singleton.mp hq]; exact hstep.2.2.2
  · rintro m₁ news₁ h tk ⟨R, tR, tn, qs, vq, eq, rfl, hIq, hmr, hmn, hmb, hmq, hR0, hRy, hvv, hql, hqb⟩ F3 N3
    have F4 := Fr.know (k := Str.ofString "r") (v := .int R tR) F3 hmr
    have F5 := Fr.know (k := Str.ofString "n") (v := .int n tn) F4 ((if_neg (by decide)).trans hmn)
    have F7 := Fr.know (k := Str.ofString "q_digits") (v := .ref lq) F5 ((if_neg (by decide)).trans ((if_neg (by decide)).trans hmq))
    clear F3 F4 F5 F2 N2
    have hvq : vq.length = vs.length := by rw [hIq.length]; exact hql
    have hend := divEnd (x := x) (Q := val n qs.reverse) (y := y) (R := R) (by rw [← hval, ← hvv, hvl, Nat.sub_self, List.drop_zero]) hR0 hRy
    have hnq : n * ds.length ≤ 2 ^ 22 := hdn
    k_steps
    rename_i F4 N4 hI4
    have hI5 : IntsAre vq.reverse qs.reverse := intsRev hIq
    have N5 : News _ _ _ ((lq, listOf vq.reverse.toArray eq) :: (T2' ++ T3)) := N4
    have hq1 : ∀ q ∈ qs.reverse, 0 ≤ q ∧ q < 2 ^ n := fun q hq => hqb q (List.mem_reverse.mp hq)
    k_dflt (refine' digits2int_ctr lq vq.reverse qs.reverse eq n _ T3 hT3 ?q3xa1 hn1 hn2 hI5 hq1 ?q3xa2 _ _ _ _ _ _ _ _ _ _ _ _ _ _ _ (T2') _ _ ?q3xk1 ?q3xk2 ?q3xk3 ?q3xk4 ?q3xk5 ?q3xk6 ?q3xk7 ?q3xk8 ?q3xk9 ?q3xk10 ?q3xk11 ?q3xkR)
    case q3xa1 => exact fun q hq e => hnT q (List.mem_append_right _ hq) e.symm
    case q3xa2 => rw [List.length_reverse, hql, hvl]; exact hnq
    case q3xk1 => k_asm
    case q3xk2 => assumption
    case q3xk3 => assumption
    case q3xk4 => k_asm
    case q3xk5 => k_asm
    case q3xk6 => exact newsSub N5 (by intro p hp; simp at hp ⊢; rcases hp with h | h | h <;> simp [h])
    case q3xk7 => exact fun p hp q hq => (List.mem_cons.mp hp).elim (fun e1 e2 => hnT q (List.mem_append_left _ hq) (by rw [← e2, e1])) fun hp e2 => hO32 p hp q hq e2
    case q3xk8 => k_asm
    case q3xk9 => first | exact rfl | assumption
    case q3xk10 => ktr_room
    case q3xk11 => ktr_units
    intro r hd' h' tk' F' N' D' ⟨T3', tq, hr, ehd, hT3'⟩
    subst hr ehd
    dsimp only
    simp only [List.cons_append] at N'
    k_steps
    rename_i hh5 D9 hh6 F9 N9 l9 kF9 kN9 T9 X9
    refine ctr_ret (hd' := (D9, tupObj [.int (val n qs.reverse) tq, .int R tR] 0) :: (T2' ++ T3')) hret NR (by assumption) F9 (newsSub N9 ?_) kF9 (newsSub kN9 ?_) ⟨_, tq, tR, _, T2', T3', rfl, by rw [hend.1, hend.2], hT2', hT3', fun p hp q hq e2 => D' q (.tail _ hq) p hp e2.symm⟩
    · intro p hp; simp at hp ⊢; rcases hp with h | h | h <;> simp [h]
    · intro p hp; simp at hp ⊢; rcases hp with h | h | h <;> simp [h]
end
end
section
variable {w : World} {p : Program} {loose : List Str} {mean : ExcName → Option Value} {mg mb : Str → Option Value}


theorem int_divmod_ctr0 (x y : Int) (tx ty : Tok) (T2 T3 : List (Addr × Obj)) (hT2 : Tab 30 32 4 qI2 T2) (hT3 : Tab 37 47 4 qI3 T3) (hO : Off T2 T3) (h0 : 0 ≤ x) (h1 : 0 < y) (h2 : y < 1073741824) (h3 : Builtin.Int.intBits x ≤ 2 ^ 21) :
    Ctr PySem.Challenge.rw_ga0003_01.row.prog w (hd.heap_39 w.params) p loose mean mg mb 56 82 720 [.int x tx, .int y ty] (T2 ++ T3)
      (fun r hd' => ∃ l t1 t2 e T2' T3', r = .ref l ∧ hd' = (l, tupObj [.int (Int.fdiv x y) t1, .int (Int.fmod x y) t2] e) :: (T2' ++ T3') ∧ Tab 30 32 4 qI2 T2' ∧ Tab 37 47 4 qI3 T3' ∧ Off T2' T3') := by
  k_with_none
  k_with "tb_start_1" => (refine wpAny_call ?_; k_dflt (refine' codeF_def ?w1k1 ?w1k2 ?w1k3 ?w1k4 ?w1kD ?w1k5 ?w1kA ?w1kF ?w1kK ?w1k6 ?w1k7 ?w1k8 ?w1k9 ?w1kB ?_ ?w1c2 ?w1c3 ?w1c4 ?w1c5; (case w1kA => exact rfl); (case w1kF => exact rfl); (case w1kK => assumption); (case w1k1 => k_asm); (case w1k2 => k_asm); (case w1k3 => k_asm); (case w1k4 => k_asm); (case w1kD => assumption); (case w1k5 => k_asm); (case w1k6 => k_is); (case w1k7 => k_is); (case w1k8 => ktr_room); (case w1k9 => first | exact BindsTo.of_eq rfl | exact binds_K (by k_in) rfl (by k_is) rfl rfl rfl | (refine' kp_binds ?w1kx ?w1ke; (case w1kx => k_in); (case w1ke => exact fun _ => rfl))); (case w1c5 => decide); (case w1kB => exact locs rfl); (case w1c2 => exact rfl); (case w1c3 => exact rfl); (case w1c4 => exact rfl); k_whole; intro _ _ _ _ _ _ _ _ _ _ l1; (try dsimp only); (try k_lt l1); revert l1; intro _; (try k_fold)))
  k_with "spliced" => (first | refine args_cons ?_ | refine args_nil ⟨Fr.keep (by assumption) _ _ (by assumption), ?_⟩ | (refine args_nil ?_; try simp only [List.cons_append, List.nil_append]))
  k_fill
  intro dp un gd cn cs a ccd cl outer A₀ base h₀ L m s rest Q E B C1 C2 F X N D T hk hdp hun hret
  have hy0 : y ≠ 0 := by omega
  k_extra "tb_start_1"
  have NR : News h₀ L s.heap rest := newsSub N fun p hp => List.mem_append_right _ hp
  k_steps
  · omega
  k_dflt (refine' divmod_pos_ctr x y _ _ T2 T3 hT2 hT3 hO h0 h1 h2 h3 _ _ _ _ _ _ _ _ _ _ _ _ _ _ _ ([]) _ _ ?q4xk1 ?q4xk2 ?q4xk3 ?q4xk4 ?q4xk5 ?q4xk6 ?q4xk7 ?q4xk8 ?q4xk9 ?q4xk10 ?q4xk11 ?q4xkR)
  case q4xk1 => k_asm
  case q4xk2 => assumption
  case q4xk3 => assumption
  case q4xk4 => k_asm
  case q4xk5 => k_asm
  case q4xk6 => rw [List.append_nil]; k_asm
  case q4xk7 => exact Off.nilR _
  case q4xk8 => k_asm
  case q4xk9 => first | exact rfl | assumption
  case q4xk10 => ktr_room
  case q4xk11 => ktr_units
  intro r hd' h' tk' F' N' D' hP
  rw [List.append_nil] at N'
  dsimp only
  k_steps
  exact ctr_ret hret NR (by assumption) (by assumption) (by assumption) (by assumption) (by assumption) hP

theorem int_divmod_ctr (x y : Int) (tx ty : Tok) (T2 T3 : List (Addr × Obj)) (hT2 : Tab 30 32 4 qI2 T2) (hT3 : Tab 37 47 4 qI3 T3) (hO : Off T2 T3) (h1 : 0 < y) (h2 : y < 1073741824) (h3 : Builtin.Int.intBits x ≤ 2 ^ 21) :
    Ctr PySem.Challenge.rw_ga0003_01.row.prog w (hd.heap_39 w.params) p loose mean mg mb 56 84 740 [.int x tx, .int y ty] (T2 ++ T3)
      (fun r hd' => ∃ l t1 t2 e T2' T3', r = .ref l ∧ hd' = (l, tupObj [.int (Int.fdiv x y) t1, .int (Int.fmod x y) t2] e) :: (T2' ++ T3') ∧ Tab 30 32 4 qI2 T2' ∧ Tab 37 47 4 qI3 T3' ∧ Off T2' T3') := by
  k_with_none
  k_with "tb_start_2" => (refine wpAny_call ?_; k_dflt (refine' codeF_def ?w2k1 ?w2k2 ?w2k3 ?w2k4 ?w2kD ?w2k5 ?w2kA ?w2kF ?w2kK ?w2k6 ?w2k7 ?w2k8 ?w2k9 ?w2kB ?_ ?w2c2 ?w2c3 ?w2c4 ?w2c5; (case w2kA => exact rfl); (case w2kF => exact rfl); (case w2kK => assumption); (case w2k1 => k_asm); (case w2k2 => k_asm); (case w2k3 => k_asm); (case w2k4 => k_asm); (case w2kD => assumption); (case w2k5 => k_asm); (case w2k6 => k_is); (case w2k7 => k_is); (case w2k8 => ktr_room); (case w2k9 => first | exact BindsTo.of_eq rfl | exact binds_K (by k_in) rfl (by k_is) rfl rfl rfl | (refine' kp_binds ?w2kx ?w2ke; (case w2kx => k_in); (case w2ke => exact fun _ => rfl))); (case w2c5 => decide); (case w2kB => exact locs rfl); (case w2c2 => exact rfl); (case w2c3 => exact rfl); (case w2c4 => exact rfl); k_whole; intro _ _ _ _ _ _ _ _ _ _ l1; (try dsimp only); (try k_lt l1); revert l1; intro _; (try k_fold)))
  k_with "spliced" => (first | refine args_cons ?_ | refine args_nil ⟨Fr.keep (by assumption) _ _ (by assumption), ?_⟩ | (refine args_nil ?_; try simp only [List.cons_append, List.nil_append]))
  by_cases h0 : 0 ≤ x
  · exact Ctr.up (int_divmod_ctr0 x y tx ty T2 T3 hT2 hT3 hO h0 h1 h2 h3) (by decide) (by decide)
  k_fill
  intro dp un gd cn cs a ccd cl outer A₀ base h₀ L m s rest Q E B C1 C2 F X N D T hk hdp hun hret
  have hy0 : y ≠ 0 := by omega
  have eN : Builtin.bitNot x = -x - 1 := by unfold Builtin.bitNot; omega
  have hbN : Builtin.Int.intBits (-x - 1) ≤ 2 ^ 21 := intBits_le_of_natAbs (by omega) h3
  have hnd := negDiv (x := x) h1
  k_extra "tb_start_2"
  have NR : News h₀ L s.heap rest := newsSub N fun p hp => List.mem_append_right _ hp
  k_steps
  · omega
  rw [eN]
  k_dflt (refine' int_divmod_ctr0 (-x - 1) y _ _ T2 T3 hT2 hT3 hO (by omega) h1 h2 hbN _ _ _ _ _ _ _ _ _ _ _ _ _ _ _ ([]) _ _ ?q5xk1 ?q5xk2 ?q5xk3 ?q5xk4 ?q5xk5 ?q5xk6 ?q5xk7 ?q5xk8 ?q5xk9 ?q5xk10 ?q5xk11 ?q5xkR)
  case q5xk1 => k_asm
  case q5xk2 => assumption
  case q5xk3 => assumption
  case q5xk4 => k_asm
  case q5xk5 => k_asm
  case q5xk6 => rw [List.append_nil]; k_asm
  case q5xk7 => exact Off.nilR _
  case q5xk8 => k_asm
  case q5xk9 => first | exact rfl | assumption
  case q5xk10 => ktr_room
  case q5xk11 => ktr_units
  intro r hd' h' tk' F' N' D' ⟨l, t1, t2, e, T2', T3', hr, ehd, hT2', hT3', hO'⟩
  subst hr ehd
  rw [List.append_nil] at N'
  dsimp only
  k_steps
  rename_i hh4 hh5 hh6 D9 hh7 F9 N9 l9 kF9 kN9 T9 X9
  refine ctr_ret hret NR (by assumption) F9 (newsSub N9 (List.forall_mem_cons.mpr ⟨List.Mem.head _, fun p hp => List.mem_cons_of_mem _ (List.mem_cons_of_mem _ hp)⟩)) kF9 (newsSub kN9 (List.forall_mem_cons.mpr ⟨List.Mem.head _, fun p hp => List.mem_cons_of_mem _ (List.mem_cons_of_mem _ hp)⟩)) ⟨D9, _, _, 0, T2', T3', rfl, by rw [← hnd.1, ← hnd.2]; rfl, hT2', hT3', hO'⟩
end
section
section
variable {prog : Program} {w : World} {A : Around} {E : Value → Shared → Prop} {s : Shared} {Q : Value → Shared → Prop}
theorem lt_tup2 {p q : Addr} {a1 a2 b1 b2 : Int} {t1 t2 u1 u2 : Tok} {n k : Nat} (hp : s.heap.get? p = some (tupObj [.int a1 t1, .int a2 t2] n)) (hq : s.heap.get? q = some (tupObj [.int b1 u1, .int b2 u2] k)) (hu : A.units < cLine)
    (h : Q (.bool (decide (a1 < b1 ∨ (a1 = b1 ∧ a2 < b2)))) s) : wpAny (model prog w) A (compareOp .Lt (.ref p) (.ref q)) Q E s := by
  show wpAny (model prog w) A (richCompare .Lt (.ref p) (.ref q)) Q E s
  refine wpAny_richCompare_same_room (T := "tuple") ⟨_, hp, rfl⟩ ⟨_, hq, rfl⟩ F.slot_tuple_lt ?_ hu
  refine wpAny_call_entry F.slot_tuple_lt ⟨_, hp, rfl⟩ F.entry_tuple_lt ?_ (F.args_tuple_lt_2 _ _)
  have f2 := AutoSeq1.sub_tuple_tuple
  obtain ⟨hh, g, d, tk, os⟩ := s
  have rc : ∀ (x y : Int) (t u : Tok) (A : Around) (E : Value → Shared → Prop) (Q : Value → Shared → Prop) (s : Shared), Q (.bool (decide (x < y))) s → wpAny (model prog w) A (richCompare .Lt (.int x t) (.int y u)) Q E s :=
    fun x y t u A E Q s hq => show wpAny (model prog w) A (compareOp .Lt (.int x t) (.int y u)) Q E s from lt_int hq
  wp_walk using wpAny_loadPart' hp, wpAny_loadPart' hq, wpAny_eqBool_int
  by_cases e1 : a1 = b1
  · subst e1
    have e2 : (!a1 == a1) = false := by simp
    rw [e2]
    wp_walk using wpAny_loadPart' hp, wpAny_loadPart' hq, wpAny_eqBool_int
    by_cases e3 : a2 = b2
    · subst e3
      have e2 : (!a2 == a2) = false := by simp
      rw [e2]
      wp_walk using wpAny_loadPart' hp, wpAny_loadPart' hq, wpAny_eqBool_int
      refine ⟨_, rfl, by simp [Builtin.Tuple.tupleCompareSizes], ?_⟩
      simpa [Builtin.Tuple.tupleCompareSizes] using h
    · have e2 : (!a2 == b2) = true := by simp [e3]
      rw [e2]
      wp_walk using rc, wpAny_loadPart' hp, wpAny_loadPart' hq, wpAny_eqBool_int
      refine ⟨_, rfl, by simp, ?_⟩
      simpa using h
  · have e2 : (!a1 == b1) = true := by simp [e1]
    rw [e2]
    wp_walk using rc, wpAny_loadPart' hp, wpAny_loadPart' hq, wpAny_eqBool_int
    refine ⟨_, rfl, by simp, ?_⟩
    simpa [e1] using h
end
end
section
/-- a kind of list items, ordered by «<» -/
structure Kind (α : Type) where
  rel : List (Addr × Obj) → Value → α → Prop
  lt : α → α → Bool
  mono : ∀ {T T' : List (Addr × Obj)} {v : Value} {a : α}, (∀ p ∈ T, p ∈ T') → rel T v a → rel T' v a
  cmp : ∀ {prog : Program} {w : World} {A : Around} {E : Value → Shared → Prop} {s : Shared} {Q : Value → Shared → Prop} {h₀ : Heap} {L : Addr} {T : List (Addr × Obj)} {v x : Value} {a b : α},
    News h₀ L s.heap T → rel T v a → rel T x b → A.units < cLine → Q (.bool (lt a b)) s → wpAny (model prog w) A (compareOp .Lt v x) Q E s

def kTup : Kind (Int × Int) where
  rel := fun T v a => ∃ l t1 t2 n, v = .ref l ∧ (l, tupObj [.int a.1 t1, .int a.2 t2] n) ∈ T
  lt := fun a b => decide (a.1 < b.1 ∨ (a.1 = b.1 ∧ a.2 < b.2))
  mono := fun h ⟨l, t1, t2, n, e, hm⟩ => ⟨l, t1, t2, n, e, h _ hm⟩
  cmp := by
    rintro prog w A E s Q h₀ L T v x a b N ⟨l, t1, t2, n, rfl, hm⟩ ⟨l', u1, u2, k, rfl, hm'⟩ hu h
    exact lt_tup2 (N _ hm).1 (N _ hm').1 hu h

/-- the list's items are those, in order -/
def Are {α : Type} (κ : Kind α) (T : List (Addr × Obj)) (vs : List Value) (as : List α) : Prop :=
  vs.length = as.length ∧ ∀ (i : Nat) (v : Value) (a : α), vs[i]? = some v → as[i]? = some a → κ.rel T v a

theorem Are.mono {α : Type} {κ : Kind α} {T T' : List (Addr × Obj)} {vs : List Value} {as : List α} (h : Are κ T vs as) (hs : ∀ p ∈ T, p ∈ T') : Are κ T' vs as :=
  ⟨h.1, fun i v a h1 h2 => κ.mono hs (h.2 i v a h1 h2)⟩
theorem Are.get {α : Type} {κ : Kind α} {T : List (Addr × Obj)} {vs : List Value} {as : List α} (h : Are κ T vs as) {i : Nat} (hi : i < as.length) : ∃ v, vs[i]? = some v ∧ κ.rel T v as[i] := by
  have hv : i < vs.length := by rw [h.1]; exact hi
  exact ⟨vs[i], List.getElem?_eq_getElem hv, h.2 i _ _ (List.getElem?_eq_getElem hv) (List.getElem?_eq_getElem hi)⟩
theorem Are.append {α : Type} {κ : Kind α} {T : List (Addr × Obj)} {vs ws : List Value} {as bs : List α} (h : Are κ T vs as) (h' : Are κ T ws bs) : Are κ T (vs ++ ws) (as ++ bs) := by
  refine ⟨by rw [List.length_append, List.length_append, h.1, h'.1], fun i v a h1 h2 => ?_⟩
  rcases Nat.lt_or_ge i vs.length with hi | hi
  · rw [List.getElem?_append_left hi] at h1
    rw [List.getElem?_append_left (by rw [← h.1]; exact hi)] at h2
    exact h.2 i v a h1 h2
  · rw [List.getElem?_append_right hi] at h1
    rw [List.getElem?_append_right (by rw [← h.1]; exact hi), ← h.1] at h2
    exact h'.2 _ v a h1 h2
theorem Are.one {α : Type} {κ : Kind α} {T : List (Addr × Obj)} {v : Value} {a : α} (h : κ.rel T v a) : Are κ T [v] [a] := by
  refine ⟨rfl, fun i w b h1 h2 => ?_⟩
  cases i with
  | zero => simp at h1 h2; rw [← h1, ← h2]; exact h
  | succ i => simp at h1
theorem Are.take {α : Type} {κ : Kind α} {T : List (Addr × Obj)} {vs : List Value} {as : List α} (h : Are κ T vs as) (p : Nat) : Are κ T (vs.take p) (as.take p) := by
  refine ⟨by rw [List.length_take, List.length_take, h.1], fun i v a h1 h2 => ?_⟩
  rw [List.getElem?_take] at h1 h2
  by_cases hi : i < p
  · rw [if_pos hi] at h1 h2; exact h.2 i v a h1 h2
  · rw [if_neg hi] at h1; cases h1
theorem Are.drop {α : Type} {κ : Kind α} {T : List (Addr × Obj)} {vs : List Value} {as : List α} (h : Are κ T vs as) (p : Nat) : Are κ T (vs.drop p) (as.drop p) := by
  refine ⟨by rw [List.length_drop, List.length_drop, h.1], fun i v a h1 h2 => ?_⟩
  rw [List.getElem?_drop] at h1 h2
  exact h.2 _ v a h1 h2
section
variable {prog : Program} {w : World} {A : Around} {E : Value → Shared → Prop} {s : Shared} {h₀ : Heap} {L : Addr} {m : Str → Option Value} {news : List (Addr × Obj)}
theorem itemG {value slice : PySem.Expr} {l : Addr} {vs : List Value} {c j : Nat} {u : Tok} {v : Value} {Q : Value → Shared → Prop} (N : News h₀ L s.heap news) (hm : (l, listOf vs.toArray c) ∈ news) (hx : vs[j]? = some v) (hj : j < 2 ^ 62) (h : Q v s)
    (hs : subscripted slice false (.ref l) (.int (j : Int) u) = operate [.ref l, .int (j : Int) u] (getItem (.ref l) (.int (j : Int) u)) := by with_unfolding_all rfl) :
    wpAny (model prog w) A (subscriptTail value slice (.ref l) (.int (j : Int) u)) Q E s := by
  have hl : s.heap.IsList l vs.toArray := ⟨_, (N _ hm).1, rfl, c, rfl⟩
  exact tail_any hl.typeIs slot_list_getitem.lookup (wpAny_getItem_list hl (by omega) (by omega) (by simpa using hx) h) hs
theorem itemZ {value slice : PySem.Expr} {l : Addr} {vs : List Value} {c j : Nat} {z : Int} {u : Tok} {v : Value} {Q : Value → Shared → Prop} (N : News h₀ L s.heap news) (hm : (l, listOf vs.toArray c) ∈ news) (hx : vs[j]? = some v) (ez : z = (j : Int)) (hj : j < 2 ^ 62) (h : Q v s)
    (hs : subscripted slice false (.ref l) (.int z u) = operate [.ref l, .int z u] (getItem (.ref l) (.int z u)) := by with_unfolding_all rfl) :
    wpAny (model prog w) A (subscriptTail value slice (.ref l) (.int z u)) Q E s := by
  subst ez
  have hl : s.heap.IsList l vs.toArray := ⟨_, (N _ hm).1, rfl, c, rfl⟩
  exact tail_any hl.typeIs slot_list_getitem.lookup (wpAny_getItem_list hl (by omega) (by omega) (by simpa using hx) h) hs
theorem fdN {lo hi : Nat} {t u : Tok} {Q : Value → Shared → Prop} (h : Q (.int (((lo + hi) / 2 : Nat) : Int) s.toks) { s with toks := s.toks + 1 }) : wpAny (model prog w) A (binaryOp .FloorDiv (.int ((lo : Int) + hi) t) (.int 2 u)) Q E s := by
  have e : ((lo : Int) + hi).fdiv 2 = (((lo + hi) / 2 : Nat) : Int) := by
    rw [Int.fdiv_eq_ediv_of_nonneg _ (by decide)]; simp
  exact PyProof.Rows.floordiv_int (by decide) (by rw [e]; exact h)
theorem insertG {l : Addr} {vs : List Value} {c p : Nat} {u : Tok} {y : Value} {rest : List (Addr × Obj)} {Q : Value → Shared → Prop} (F : Fr h₀ L s.heap m) (N : News h₀ L s.heap ((l, listOf vs.toArray c) :: rest)) (hne : ∀ q ∈ rest, q.1 ≠ l) (hp : p ≤ vs.length) (hz : vs.length ≤ 2 ^ 22)
    (h : ∀ h', Fr h₀ L h' m → News h₀ L h' ((l, listOf (vs.take p ++ y :: vs.drop p).toArray (c + 1)) :: rest) → Q .none { s with heap := h' }) :
    wpAny (model prog w) A (call (.builtin "list.insert") [.ref l, .int (p : Int) u, y]) Q E s := by
  refine kl_insert (l := vs.take p ++ y :: vs.drop p) F N ?_ ?_ (Upd.head hne) ?_ h
  · unfold Builtin.List.listFitsIndex
    simp only [Bool.and_eq_true, decide_eq_true_eq]; omega
  · show kl_ins vs (p : Int) y = _
    unfold kl_ins
    rw [if_neg (by omega), Int.toNat_natCast, Nat.min_eq_left hp]
  · rw [sizeLine_eq]; show vs.length ≤ _; omega
end
end
section
section
variable {w : World} {p : Program} {loose : List Str} {mean : ExcName → Option Value} {mg mb : Str → Option Value}

theorem bisect_ctr {α : Type} (κ : Kind α) (l : Addr) (vs : List Value) (as : List α) (e : Nat) (x : Value) (b : α) (t0 : Tok) (TT : List (Addr × Obj)) (p' : Nat) (hA : Are κ TT vs as) (hb : κ.rel TT x b) (hle : p' ≤ as.length) (hp : ∀ i a, as[i]? = some a → κ.lt a b = decide (i < p')) (hlen : as.length ≤ 2 ^ 22) :
    Ctr PySem.Challenge.rw_ga0003_01.row.prog w (hd.heap_39 w.params) p loose mean mg mb 74 20 200 [.ref l, x, .int 0 t0, .none] ((l, listOf vs.toArray e) :: TT)
      (fun r hd' => (∃ t, r = .int p' t) ∧ hd' = (l, listOf vs.toArray e) :: TT) := by
  k_with_none
  k_with "tb_start_1" => (refine wpAny_call ?_; k_dflt (refine' codeF_def ?w1k1 ?w1k2 ?w1k3 ?w1k4 ?w1kD ?w1k5 ?w1kA ?w1kF ?w1kK ?w1k6 ?w1k7 ?w1k8 ?w1k9 ?w1kB ?_ ?w1c2 ?w1c3 ?w1c4 ?w1c5; (case w1kA => exact rfl); (case w1kF => exact rfl); (case w1kK => assumption); (case w1k1 => k_asm); (case w1k2 => k_asm); (case w1k3 => k_asm); (case w1k4 => k_asm); (case w1kD => assumption); (case w1k5 => k_asm); (case w1k6 => k_is); (case w1k7 => k_is); (case w1k8 => ktr_room); (case w1k9 => first | exact BindsTo.of_eq rfl | exact binds_K (by k_in) rfl (by k_is) rfl rfl rfl | (refine' kp_binds ?w1kx ?w1ke; (case w1kx => k_in); (case w1ke => exact fun _ => rfl))); (case w1c5 => decide); (case w1kB => exact locs rfl); (case w1c2 => exact rfl); (case w1c3 => exact rfl); (case w1c4 => exact rfl); k_whole; intro _ _ _ _ _ _ _ _ _ _ l1; (try dsimp only); (try k_lt l1); revert l1; intro _; (try k_fold)))
  k_with "spliced" => (first | refine args_cons ?_ | refine args_nil ⟨Fr.keep (by assumption) _ _ (by assumption), ?_⟩ | (refine args_nil ?_; try simp only [List.cons_append, List.nil_append]))
  k_with "binaryOp FloorDiv int int" => ((refine fdN ?_))
  k_with "exec While Compare cons nil" => ((refine hold ?_))
  k_fill
  intro dp un gd cn cs a ccd cl outer A₀ base h₀ L m s rest Q E B C1 C2 F X N D T hk hdp hun hret
  k_extra "tb_start_1"
  have NR : News h₀ L s.heap rest := newsSub N fun p hp => List.mem_append_right _ hp
  k_steps
  refine lenG (k := as.length) (by k_asm) (ixMem 0 rfl) hA.1 (by omega) ?_
  k_steps
  unfold Hold
  rename_i tk1 h1 F1 N1
  k_dflt (refine While_inv (n₀ := as.length) (fun n m news => ∃ (lo hi : Nat) (tl th : Tok), news = (l, listOf vs.toArray e) :: TT ∧ m (Str.ofString "a") = some (.ref l) ∧ m (Str.ofString "x") = some x ∧ m (Str.ofString "lo") = some (.int lo tl) ∧ m (Str.ofString "hi") = some (.int hi th) ∧ lo ≤ p' ∧ p' ≤ hi ∧ hi ≤ as.length ∧ n = hi - lo) F1 N1 ?_ ?_ ?_)
  · exact ⟨0, as.length, _, _, rfl, rfl, rfl, rfl, rfl, Nat.zero_le _, hle, Nat.le_refl _, rfl⟩
  · rintro n m₁ news₁ h₁ tk₁ F3 N3 ⟨lo, hi, tl, th, rfl, hma, hmx, hml, hmh, hlo, hhi, hhn, rfl⟩
    have F4 := Fr.know F3 hma
    have F5 := Fr.know F4 ((if_neg (by decide)).trans hmx)
    have F6 := Fr.know F5 ((if_neg (by decide)).trans ((if_neg (by decide)).trans hml))
    have F7 := Fr.know F6 ((if_neg (by decide)).trans ((if_neg (by decide)).trans ((if_neg (by decide)).trans hmh)))
    clear F3 F4 F5 F6 F1 N1
    k_steps
    · rename_i hlt h5 F8 N8
      obtain ⟨v, hv1, hv2⟩ := hA.get (i := (lo + hi) / 2) (by omega)
      refine itemG (by k_asm) (ixMem 0 rfl) hv1 (by omega) ?_
      k_steps
      refine κ.cmp (newsSub N8 fun q hq => List.mem_cons_of_mem _ hq) hv2 hb (by ktr_units) ?_
      rw [hp _ _ (List.getElem?_eq_getElem (by omega))]
      by_cases hm : (lo + hi) / 2 < p'
      · rw [decide_eq_true hm]
        k_steps
        exact WhileStep.intro (n' := hi - ((lo + hi) / 2 + 1)) (by assumption) (by assumption) (by omega) ⟨(lo + hi) / 2 + 1, hi, _, _, rfl, rfl, rfl, rfl, rfl, by omega, by omega, by omega, rfl⟩
      · rw [decide_eq_false hm]
        k_steps
        exact WhileStep.intro (n' := (lo + hi) / 2 - lo) (by assumption) (by assumption) (by omega) ⟨lo, (lo + hi) / 2, _, _, rfl, rfl, rfl, rfl, rfl, by omega, by omega, by omega, rfl⟩
    · rename_i hlt kF9 kN9 T9 X9
      have e1 : lo = p' := by omega
      subst e1
      exact ctr_ret hret NR (by assumption) F7 N3 kF9 kN9 ⟨⟨_, rfl⟩, rfl⟩
  · passes_own
theorem insort_ctr {α : Type} (κ : Kind α) (l : Addr) (vs : List Value) (as : List α) (e : Nat) (x : Value) (b : α) (TT : List (Addr × Obj)) (p' : Nat) (hne : ∀ q ∈ TT, q.1 ≠ l) (hA : Are κ TT vs as) (hb : κ.rel TT x b) (hle : p' ≤ as.length) (hp : ∀ i a, as[i]? = some a → κ.lt a b = decide (i < p')) (hlen : as.length ≤ 2 ^ 22) :
    Ctr PySem.Challenge.rw_ga0003_01.row.prog w (hd.heap_39 w.params) p loose mean mg mb 65 24 240 [.ref l, x] ((l, listOf vs.toArray e) :: TT)
      (fun r hd' => r = .none ∧ hd' = (l, listOf (vs.take p' ++ x :: vs.drop p').toArray (e + 1)) :: TT) := by
  k_with_none
  k_with "tb_start_3" => (refine wpAny_call ?_; k_dflt (refine' codeF_def ?w3k1 ?w3k2 ?w3k3 ?w3k4 ?w3kD ?w3k5 ?w3kA ?w3kF ?w3kK ?w3k6 ?w3k7 ?w3k8 ?w3k9 ?w3kB ?_ ?w3c2 ?w3c3 ?w3c4 ?w3c5; (case w3kA => exact rfl); (case w3kF => exact rfl); (case w3kK => assumption); (case w3k1 => k_asm); (case w3k2 => k_asm); (case w3k3 => k_asm); (case w3k4 => k_asm); (case w3kD => assumption); (case w3k5 => k_asm); (case w3k6 => k_is); (case w3k7 => k_is); (case w3k8 => ktr_room); (case w3k9 => first | exact BindsTo.of_eq rfl | exact binds_K (by k_in) rfl (by k_is) rfl rfl rfl | (refine' kp_binds ?w3kx ?w3ke; (case w3kx => k_in); (case w3ke => exact fun _ => rfl))); (case w3c5 => decide); (case w3kB => exact locs rfl); (case w3c2 => exact rfl); (case w3c3 => exact rfl); (case w3c4 => exact rfl); k_whole; intro _ _ _ _ _ _ _ _ _ _ l1; (try dsimp only); (try k_lt l1); revert l1; intro _; (try k_fold)))
  k_with "spliced" => (first | refine args_cons ?_ | refine args_nil ⟨Fr.keep (by assumption) _ _ (by assumption), ?_⟩ | (refine args_nil ?_; try simp only [List.cons_append, List.nil_append]))
  k_with "binaryOp FloorDiv int int" => ((refine fdN ?_))
  k_with "exec While Compare cons nil" => ((refine hold ?_))
  k_fill
  intro dp un gd cn cs a ccd cl outer A₀ base h₀ L m s rest Q E B C1 C2 F X N D T hk hdp hun hret
  k_extra "tb_start_3"
  have NR : News h₀ L s.heap rest := newsSub N fun p hp => List.mem_append_right _ hp
  k_steps
  k_dflt (refine' bisect_ctr κ l vs as e x b _ TT p' hA hb hle hp hlen _ _ _ _ _ _ _ _ _ _ _ _ _ _ _ ([]) _ _ ?q6xk1 ?q6xk2 ?q6xk3 ?q6xk4 ?q6xk5 ?q6xk6 ?q6xk7 ?q6xk8 ?q6xk9 ?q6xk10 ?q6xk11 ?q6xkR)
  case q6xk1 => k_asm
  case q6xk2 => assumption
  case q6xk3 => assumption
  case q6xk4 => k_asm
  case q6xk5 => k_asm
  case q6xk6 => rw [List.append_nil]; k_asm
  case q6xk7 => exact Off.nilR _
  case q6xk8 => k_asm
  case q6xk9 => first | exact rfl | assumption
  case q6xk10 => ktr_room
  case q6xk11 => ktr_units
  intro r hd' h' tk' F' N' D' ⟨⟨tp, hr⟩, ehd⟩
  subst hr ehd
  rw [List.append_nil] at N'
  dsimp only
  k_steps
  refine insertG (by k_asm) (by k_asm) hne (by rw [hA.1]; exact hle) (by rw [hA.1]; exact hlen) ?_
  intro h7 F7 N7
  dsimp only
  k_steps
  rename_i kF9 kN9 T9 X9
  exact ctr_ret hret NR (by assumption) F7 N7 kF9 kN9 ⟨rfl, rfl⟩
end
end
section
/-- what an object is, roughly: two of one ledger that are not the same stand apart -/
def tag (o : Obj) : Nat := match o.data with
  | .fields _ => 0
  | .seq _ _ => if o.cls == .type "list" then 1 else 2
  | .cell _ => 3
  | _ => 4
theorem tag_list (vs : List Value) (e : Nat) : tag (listOf vs.toArray e) = 1 := rfl
theorem tag_cell {o : Obj} {v : Option Value} (h : o.data = .cell v) : tag o = 3 := by unfold tag; rw [h]
theorem Tab.tags {P : Addr} {ln cl : Int} {q : Str} {T : List (Addr × Obj)} (hT : Tab P ln cl q T) : ∀ p ∈ T, tag p.2 = 0 := by
  intro p hp
  rcases hT with rfl | ⟨c', oc, vs, t, rfl, d1, _, _⟩
  · rw [List.mem_singleton.mp hp]; rfl
  · rcases List.mem_cons.mp hp with rfl | hp
    · rfl
    · rw [List.mem_singleton.mp hp]; unfold tag; rw [d1]
theorem tagNe {h₀ h : Heap} {L : Addr} {led : List (Addr × Obj)} (N : News h₀ L h led) {p q : Addr × Obj} (hp : p ∈ led) (hq : q ∈ led) (ht : tag p.2 ≠ tag q.2) : p.1 ≠ q.1 := fun e => by
  have h1 := (N p hp).1
  have h2 := (N q hq).1
  rw [e, h2] at h1
  exact ht (by rw [Option.some.inj h1])
theorem offTag {h₀ h : Heap} {L : Addr} {led xs ys : List (Addr × Obj)} (N : News h₀ L h led) (hx : ∀ p ∈ xs, p ∈ led) (hy : ∀ p ∈ ys, p ∈ led) (ht : ∀ p ∈ xs, ∀ q ∈ ys, tag p.2 ≠ tag q.2) : Off xs ys :=
  fun p hp q hq => tagNe N (hx p hp) (hy q hq) (ht p hp q hq)
theorem offTag0 {h₀ h : Heap} {L : Addr} {led xs ys : List (Addr × Obj)} (N : News h₀ L h led) (hx : ∀ p ∈ xs, p ∈ led) (hy : ∀ p ∈ ys, p ∈ led) (h0 : ∀ p ∈ xs, tag p.2 = 0) (h1 : ∀ q ∈ ys, tag q.2 ≠ 0) : Off xs ys :=
  offTag N hx hy fun p hp q hq e => h1 q hq (e ▸ h0 p hp)
theorem tabs0 {P1 P2 : Addr} {a b c d : Int} {q1 q2 : Str} {T2 T3 : List (Addr × Obj)} (h2 : Tab P1 a b q1 T2) (h3 : Tab P2 c d q2 T3) : ∀ p ∈ T2 ++ T3, tag p.2 = 0 := fun p hp => (List.mem_append.mp hp).elim (h2.tags p) (h3.tags p)
theorem rangeSize_k {a b : Int} {n : Nat} (h : b - a = (n : Int)) : Builtin.Range.rangeSize a b 1 = ((n : Nat) : Int) := by
  rw [rangeSize_nat]; omega
theorem bits_small {x : Int} (h0 : -(2 ^ 64) < x) (h1 : x < 2 ^ 64) : Builtin.Int.intBits x ≤ 2 ^ 21 := Nat.le_trans (intBits_le_64 h0 h1) (by decide)
theorem Off.appL {xs ys zs : List (Addr × Obj)} (h1 : Off xs zs) (h2 : Off ys zs) : Off (xs ++ ys) zs := fun p hp => (List.mem_append.mp hp).elim (h1 p) (h2 p)
theorem Off.appR {xs ys zs : List (Addr × Obj)} (h1 : Off xs ys) (h2 : Off xs zs) : Off xs (ys ++ zs) := fun p hp q hq => (List.mem_append.mp hq).elim (h1 p hp q) (h2 p hp q)
theorem Off.consR {a : Addr} {o : Obj} {xs ys : List (Addr × Obj)} (h : ∀ p ∈ xs, p.1 ≠ a) (t : Off xs ys) : Off xs ((a, o) :: ys) := fun p hp q hq => (List.mem_cons.mp hq).elim (fun e => by rw [e]; exact h p hp) (t p hp q)
theorem Off.subR {xs ys ys' : List (Addr × Obj)} (h : Off xs ys) (hs : ∀ p ∈ ys', p ∈ ys) : Off xs ys' := fun p hp q hq => h p hp q (hs q hq)

section
variable {prog : Program} {w : World} {A : Around} {s : Shared} {h₀ : Heap} {L : Addr} {m : Str → Option Value} {env : Env}
/-- a comprehension by what holds between its turns -/
theorem compInv {elt : Expr} {x : Str} {scope : Scope} {cl : List (Str × Addr)} {S : List (Addr × Obj) → Prop} {P : Nat → Value → Prop} {Fin : List Value → List (Addr × Obj) → Prop} {n : Nat} (J : Nat → List Value → List (Addr × Obj) → Prop)
    (fin : ∀ ys news, J n ys news → Fin ys news)
    (turn : ∀ i ys news v I oI C oC D m₂ h tk (E' : Value → Shared → Prop), i < n → J i ys news → P i v → LCg.NsObj oC m₂ → m₂ x = some v → Fr h₀ L h m → News h₀ L h ((I, oI) :: (C, oC) :: (D, LCg.lst ys) :: news) → LCg.Off3 I C D news → ((@Ne Nat I C) ∧ (@Ne Nat I D) ∧ (@Ne Nat C D)) →
      wpAny (model prog w) A (eval elt (compEnvC scope cl C env)) (LCg.CompEnd h₀ L m { s with heap := h, toks := tk } I oI C oC D (LCg.lst ys) S (fun y news' => J (i + 1) (ys ++ [y]) news')) E' { s with heap := h, toks := tk }) :
    ∀ k i ys news, i + k = n → J i ys news → LCg.CompRest prog w A h₀ L m env elt x scope cl s S P Fin k i ys news := by
  intro k
  induction k with
  | zero =>
    intro i ys news e hJ
    have : i = n := by omega
    subst this
    exact LCg.CompRest.zero (fin ys news hJ)
  | succ k ih =>
    intro i ys news e hJ
    refine LCg.CompRest.succ fun v I oI C oC D m₂ h tk E' hP hC hx F N off ne => ?_
    refine wpAny_mono (turn i ys news v I oI C oC D m₂ h tk E' (by omega) hJ hP hC hx F N off ne) (fun y s₂ h₂ => ?_) fun _ _ x => x
    obtain ⟨h', tk', news', e1, F', N', off', hS, hJ'⟩ := h₂
    exact ⟨h', tk', news', e1, F', N', off', hS, ih (i + 1) _ news' (by omega) hJ'⟩
/-- a comprehension with a test, likewise -/
theorem compInvT {ct elt : Expr} {x : Str} {scope : Scope} {cl : List (Str × Addr)} {S : List (Addr × Obj) → Prop} {P : Nat → Value → Prop} {Fin : List Value → List (Addr × Obj) → Prop} {n : Nat} (J : Nat → List Value → List (Addr × Obj) → Prop)
    (fin : ∀ ys news, J n ys news → Fin ys news)
    (turn : ∀ i ys news v I oI C oC D m₂ h tk (E' : Value → Shared → Prop), i < n → J i ys news → P i v → LCg.NsObj oC m₂ → m₂ x = some v → Fr h₀ L h m → News h₀ L h ((I, oI) :: (C, oC) :: (D, LCg.lst ys) :: news) → LCg.Off3 I C D news → ((@Ne Nat I C) ∧ (@Ne Nat I D) ∧ (@Ne Nat C D)) →
      wpAny (model prog w) A (isTrue ct (compEnvC scope cl C env) (eval ct (compEnvC scope cl C env))) (fun ok s' => if ok = true then
        wpAny (model prog w) A (eval elt (compEnvC scope cl C env)) (LCg.CompEnd h₀ L m { s with heap := h, toks := tk } I oI C oC D (LCg.lst ys) S (fun y news' => J (i + 1) (ys ++ [y]) news')) E' s'
        else LCg.CompEnd h₀ L m { s with heap := h, toks := tk } I oI C oC D (LCg.lst ys) S (fun _ news' => J (i + 1) ys news') Value.none s') E' { s with heap := h, toks := tk }) :
    ∀ k i ys news, i + k = n → J i ys news → LCt.CompRestT prog w A h₀ L m env ct elt x scope cl s S P Fin k i ys news := by
  intro k
  induction k with
  | zero =>
    intro i ys news e hJ
    have : i = n := by omega
    subst this
    exact LCt.CompRestT.zero (fin ys news hJ)
  | succ k ih =>
    intro i ys news e hJ
    refine LCt.CompRestT.succ fun v I oI C oC D m₂ h tk E' hP hC hx F N off ne => ?_
    refine wpAny_mono (turn i ys news v I oI C oC D m₂ h tk E' (by omega) hJ hP hC hx F N off ne) (fun ok s₁ h₁ => ?_) fun _ _ x => x
    cases ok with
    | true =>
      simp only [if_true] at h₁ ⊢
      refine wpAny_mono h₁ (fun y s₂ h₂ => ?_) fun _ _ x => x
      obtain ⟨h', tk', news', e1, F', N', off', hS, hJ'⟩ := h₂
      exact ⟨h', tk', news', e1, F', N', off', hS, ih (i + 1) _ news' (by omega) hJ'⟩
    | false =>
      simp only [Bool.false_eq_true, if_false] at h₁ ⊢
      obtain ⟨h', tk', news', e1, F', N', off', hS, hJ'⟩ := h₁
      exact ⟨h', tk', news', e1, F', N', off', hS, ih (i + 1) _ news' (by omega) hJ'⟩
end
end
section
section
variable {prog : Program} {w : World} {A : Around} {E : Value → Shared → Prop} {s : Shared} {Q : Value → Shared → Prop}
end

section
variable {prog : Program} {w : World} {A : Around} {I S : Addr} {fp wr : List Addr} {n : Nat} {P : Nat → Value → Prop} {St : Nat → Heap → Prop} {Kp : Heap → Prop} {R : Result → Shared → Prop}
end

section
variable {prog : Program} {w : World} {A : Around} {E : Value → Shared → Prop} {s : Shared} {h₀ : Heap} {L : Addr} {m : Str → Option Value}
end
end
section
section
variable {α : Type} {lt : α → α → Bool}
def Srt (lt : α → α → Bool) (as : List α) : Prop := as.Pairwise fun a b => lt a b = true
theorem cutAt (htr : ∀ a b c, lt a b = true → lt b c = true → lt a c = true) : ∀ {as : List α}, Srt lt as → ∀ b, ∃ p, p ≤ as.length ∧ ∀ i a, as[i]? = some a → lt a b = decide (i < p)
  | [], _, b => ⟨0, Nat.le_refl _, fun i a h => by simp at h⟩
  | a :: r, hs, b => by
    obtain ⟨h1, h2⟩ := List.pairwise_cons.mp hs
    cases hab : lt a b with
    | true =>
      obtain ⟨p, hp, hr⟩ := cutAt htr h2 b
      refine ⟨p + 1, by simp; omega, fun i c hc => ?_⟩
      cases i with
      | zero => simp at hc; rw [← hc, hab]; simp
      | succ i => rw [hr i c (by simpa using hc)]; simp
    | false =>
      refine ⟨0, Nat.zero_le _, fun i c hc => ?_⟩
      have e : decide (i < 0) = false := by simp
      rw [e]
      cases i with
      | zero => simp at hc; rw [← hc, hab]
      | succ i =>
        cases hcb : lt c b with
        | false => rfl
        | true =>
          have hm : c ∈ r := List.mem_of_getElem? (by simpa using hc)
          rw [htr _ _ _ (h1 c hm) hcb] at hab; cases hab
theorem mem_ins {as : List α} {p : Nat} {b x : α} : x ∈ as.take p ++ b :: as.drop p ↔ x = b ∨ x ∈ as := by
  have e : x ∈ as ↔ x ∈ as.take p ∨ x ∈ as.drop p := by rw [← List.mem_append, List.take_append_drop]
  rw [List.mem_append, List.mem_cons, e]
  constructor
  · rintro (h | h | h)
    · exact .inr (.inl h)
    · exact .inl h
    · exact .inr (.inr h)
  · rintro (h | h | h)
    · exact .inr (.inl h)
    · exact .inl h
    · exact .inr (.inr h)
theorem ins_len {as : List α} {p : Nat} {b : α} (hp : p ≤ as.length) : (as.take p ++ b :: as.drop p).length = as.length + 1 := by
  rw [List.length_append, List.length_cons, List.length_take, List.length_drop]; omega
theorem ins_srt (htot : ∀ a b, a ≠ b → lt a b = true ∨ lt b a = true) {as : List α} {p : Nat} {b : α} (hs : Srt lt as) (hp : p ≤ as.length) (hr : ∀ (i : Nat) a, as[i]? = some a → lt a b = decide (i < p)) (hb : b ∉ as) : Srt lt (as.take p ++ b :: as.drop p) := by
  have hs' : Srt lt (as.take p ++ as.drop p) := by rw [List.take_append_drop]; exact hs
  obtain ⟨h1, h2, h3⟩ := List.pairwise_append.mp hs'
  have ht : ∀ x ∈ as.take p, lt x b = true := fun x hx => by
    obtain ⟨i, hi, e⟩ := List.mem_take_iff_getElem.mp hx
    have : i < p := by omega
    rw [hr i x (by rw [← e]; exact List.getElem?_eq_getElem _)]
    simpa using this
  have hd : ∀ y ∈ as.drop p, lt b y = true := fun y hy => by
    obtain ⟨i, hi, e⟩ := List.mem_drop_iff_getElem.mp hy
    have hf : lt y b = false := by
      rw [hr (p + i) y (by rw [← e]; exact List.getElem?_eq_getElem _)]
      simp
    rcases htot y b (fun q => hb (q ▸ List.mem_of_mem_drop hy)) with h | h
    · rw [hf] at h; cases h
    · exact h
  refine List.pairwise_append.mpr ⟨h1, List.pairwise_cons.mpr ⟨hd, h2⟩, fun x hx y hy => ?_⟩
  rcases List.mem_cons.mp hy with rfl | hy
  · exact ht x hx
  · exact h3 x hx y hy
end
theorem tup_tr : ∀ a b c : Int × Int, kTup.lt a b = true → kTup.lt b c = true → kTup.lt a c = true := by
  intro a b c h1 h2
  simp only [kTup, decide_eq_true_eq] at *
  omega
theorem tup_tot : ∀ a b : Int × Int, a ≠ b → kTup.lt a b = true ∨ kTup.lt b a = true := by
  rintro ⟨a1, a2⟩ ⟨b1, b2⟩ h
  simp only [kTup, decide_eq_true_eq]
  have : ¬ (a1 = b1 ∧ a2 = b2) := fun ⟨e1, e2⟩ => h (by rw [e1, e2])
  omega
end
section
/-- the tests of a clause -/
def tst (ifs : List PySem.Expr) (env : Env) : Sem Bool :=
  forIn ifs true fun c r => if r = true then do let ok ← isTrue c env (eval c env); pure (ForInStep.yield ok) else pure (ForInStep.yield r)
theorem turn_in (elt t1 i1 t2 i2 : PySem.Expr) (f1 f2 : List PySem.Expr) (scope : Scope) (pos : Pos) (it acc : Value) (env : Env) :
    compTurn (.ListComp elt [⟨t1, i1, f1, 0⟩, ⟨t2, i2, f2, 0⟩] scope pos) 1 it acc env = (standAt i2.pos >>= fun _ => pyNext it >>= fun r => match r with
      | none => pure (.done .next)
      | some v => letOwnedTupleGo t2 it v >>= fun _ => assign t2 env v >>= fun _ => tst f2 env >>= fun ok =>
         if ok = true then (eval elt env >>= fun x => call (.builtin "list.append") [acc, x] >>= fun _ => pure ()) >>= fun _ => again (.compLoop (.ListComp elt [⟨t1, i1, f1, 0⟩, ⟨t2, i2, f2, 0⟩] scope pos) 1 it acc env) else again (.compLoop (.ListComp elt [⟨t1, i1, f1, 0⟩, ⟨t2, i2, f2, 0⟩] scope pos) 1 it acc env)) := by rfl
theorem turn_out (elt t1 i1 t2 i2 : PySem.Expr) (f1 f2 : List PySem.Expr) (scope : Scope) (pos : Pos) (it acc : Value) (env : Env) :
    compTurn (.ListComp elt [⟨t1, i1, f1, 0⟩, ⟨t2, i2, f2, 0⟩] scope pos) 0 it acc env = (standAt i1.pos >>= fun _ => pyNext it >>= fun r => match r with
      | none => pure (.done .next)
      | some v => letOwnedTupleGo t1 it v >>= fun _ => assign t1 env v >>= fun _ => tst f1 env >>= fun ok =>
         if ok = true then (eval i2 env >>= fun x => standAt i2.pos >>= fun _ => foldedSetIterable i2 env x >>= fun x => holding [x] (pyIter x) >>= fun it2 => runOwn (.compStart (.ListComp elt [⟨t1, i1, f1, 0⟩, ⟨t2, i2, f2, 0⟩] scope pos) 1 it2 acc env) env >>= fun _ => again (.compLoop (.ListComp elt [⟨t1, i1, f1, 0⟩, ⟨t2, i2, f2, 0⟩] scope pos) 0 it acc env)) else again (.compLoop (.ListComp elt [⟨t1, i1, f1, 0⟩, ⟨t2, i2, f2, 0⟩] scope pos) 0 it acc env)) := by rfl
section
variable {prog : Program} {w : World} {A : Around} {E : Value → Shared → Prop} {s : Shared} {h₀ : Heap} {L : Addr} {m : Str → Option Value}

/-- what holds behind a turn -/
def LEnd (h₀ : Heap) (L : Addr) (m : Str → Option Value) (I V : Addr) (oI : Obj) (VP : Obj → Prop) (J : List (Addr × Obj) → Prop) (s s₂ : Shared) : Prop :=
  ∃ h' tk news' oV, s₂ = { s with heap := h', toks := tk } ∧ Fr h₀ L h' m ∧ News h₀ L h' ((I, oI) :: (V, oV) :: news') ∧ VP oV ∧ (∀ p ∈ news', p.1 ≠ I ∧ p.1 ≠ V) ∧ J news'

theorem level {elt : PySem.Expr} {gens : List Comprehension} {scope : Scope} {pos : Pos} {d : Nat} {x : Str} {px ip : Pos} {ifs : List PySem.Expr} {I V : Addr} {acc : Value} {cenv : Env} {B : Sem Fin} {fp : List Addr} {n : Nat} {P : Nat → Value → Prop} {St : Nat → Heap → Prop}
    {VP : Obj → Prop} {VX : Value → Obj → Prop} {S : List (Addr × Obj) → Prop} {R : Result → Shared → Prop} {news : List (Addr × Obj)} {oV : Obj}
    (J : Nat → List (Addr × Obj) → Prop)
    (hturn : compTurn (.ListComp elt gens scope pos) d (.ref I) acc cenv = (standAt ip >>= fun _ => pyNext (.ref I) >>= fun r => match r with
      | none => pure (.done .next)
      | some v => letOwnedTupleGo (.Name x px) (.ref I) v >>= fun _ => assign (.Name x px) cenv v >>= fun _ => tst ifs cenv >>= fun ok =>
         if ok = true then B else again (.compLoop (.ListComp elt gens scope pos) d (.ref I) acc cenv)))
    (W : Walks prog w A I fp [I] n P St) (hIo : ∀ i h, St i h → ∃ o, h.get? I = some o)
    (hSt : ∀ i h h' o nw, St i h → h.get? I = some o → h'.get? I = some o → (∀ b o, h₀.get? b = some o → h'.get? b = some o) → News h₀ L h' nw → S nw → St i h')
    (hVf : V ∉ fp) (hLI : L ≠ I) (hLV : L ≠ V) (hI₀ : h₀.get? I = none) (hV₀ : h₀.get? V = none) (hIV : I ≠ V)
    (hasg : ∀ v s₁ oV (E' : Value → Shared → Prop) (Q : Unit → Shared → Prop), VP oV → s₁.heap.get? V = some oV → (∀ h' oV' tk', VP oV' → VX v oV' → h'.get? V = some oV' → Heap.SameBut V s₁.heap h' → Q () { s₁ with heap := h', toks := tk' }) → wpAny (model prog w) A (assign (.Name x px) cenv v) Q E' s₁)
    (hS : ∀ i nw, J i nw → S nw)
    (turn : ∀ i v oI oV h tk news (E' : Value → Shared → Prop), i < n → P i v → J i news → VP oV → VX v oV → Fr h₀ L h m → News h₀ L h ((I, oI) :: (V, oV) :: news) → (∀ p ∈ news, p.1 ≠ I ∧ p.1 ≠ V) →
      wpAny (model prog w) A (tst ifs cenv) (fun ok s' => if ok = true then wpAny (model prog w) A B (fun fin s'' => fin = .again (.compLoop (.ListComp elt gens scope pos) d (.ref I) acc cenv) ∧ LEnd h₀ L m I V oI VP (J (i + 1)) s s'') E' s'
        else LEnd h₀ L m I V oI VP (J (i + 1)) s s') E' { s with heap := h, toks := tk })
    (done : ∀ h tk news oV, J n news → VP oV → Fr h₀ L h m → News h₀ L h ((V, oV) :: news) → (∀ p ∈ news, p.1 ≠ I ∧ p.1 ≠ V) → R (.ok .next) { s with heap := h, toks := tk })
    (hV : VP oV) (hst : St 0 s.heap) (F : Fr h₀ L s.heap m) (N : News h₀ L s.heap ((V, oV) :: news)) (hoff : ∀ p ∈ news, p.1 ≠ I ∧ p.1 ≠ V) (hJ : J 0 news) :
    codeAny (model prog w) A (.compLoop (.ListComp elt gens scope pos) d (.ref I) acc cenv) R s := by
  have key : ∀ k s', (∃ h tk news oV i, s' = { s with heap := h, toks := tk } ∧ i ≤ n ∧ k = n - i ∧ VP oV ∧ St i h ∧ Fr h₀ L h m ∧ News h₀ L h ((V, oV) :: news) ∧ (∀ p ∈ news, p.1 ≠ I ∧ p.1 ≠ V) ∧ J i news) →
      codeAny (model prog w) A (.compLoop (.ListComp elt gens scope pos) d (.ref I) acc cenv) R s' := by
    intro k s' hI
    refine codeAny_loop rfl (fun k s' => ∃ h tk news oV i, s' = { s with heap := h, toks := tk } ∧ i ≤ n ∧ k = n - i ∧ VP oV ∧ St i h ∧ Fr h₀ L h m ∧ News h₀ L h ((V, oV) :: news) ∧ (∀ p ∈ news, p.1 ≠ I ∧ p.1 ≠ V) ∧ J i news) ?_ k hI
    rintro k s' ⟨h, tk, news, oV, i, rfl, hi, rfl, hV, hst, F, N, hoff, hJ⟩
    show wpAny _ A ((compTurn (.ListComp elt gens scope pos) d (.ref I) acc cenv).onRaise (fun x => do noteFrame x cenv; theTreesLotGoes x)) _ _ _
    refine wpAny_noted ?_
    rw [hturn]
    refine wpAny_bind (wpAny_standAt (wpAny_bind ?_))
    by_cases hlt : i < n
    · refine W.item i _ _ _ hlt hst fun v h₂ tk₂ hPv hst₂ hk₂ => ?_
      refine wpAny_bind (wpAny_of_eq (show letOwnedTupleGo (.Name x px) (.ref I) v = pure () from rfl) (wpAny_bind ?_))
      have zV := (N _ (.head _)).1
      have zV2 : h₂.get? V = some oV := hk₂ V oV (by simpa using Ne.symm hIV) zV
      refine hasg v _ oV _ _ hV zV2 fun h₃ oV' tk₃ hVP hVX hg hs₃ => ?_
      dsimp only at hs₃ ⊢
      refine wpAny_bind ?_
      have hst₃ : St (i + 1) h₃ := W.frame _ _ _ hst₂ fun b hb o e => hs₃.extBut b o (fun q => hVf (by rw [← q]; exact hb)) e
      obtain ⟨oI, heI⟩ := hIo _ _ hst₃
      have F₃ : Fr h₀ L h₃ m := (LCg.fr_but F hk₂ hLI hI₀).change hs₃ hLV.symm hV₀
      have N₂ : News h₀ L h₂ ((V, oV) :: news) := LCg.news_but N hk₂ fun p hp => by
        rcases List.mem_cons.mp hp with rfl | hp
        · exact Ne.symm hIV
        · exact (hoff p hp).1
      have N₃ : News h₀ L h₃ ((I, oI) :: (V, oV') :: news) := fun p hp => by
        rcases List.mem_cons.mp hp with rfl | hp
        · exact ⟨heI, Ne.symm hLI, hI₀⟩
        · rcases List.mem_cons.mp hp with rfl | hp
          · exact ⟨hg, Ne.symm hLV, hV₀⟩
          · have z := N₂ p (List.mem_cons_of_mem _ hp)
            exact ⟨hs₃.extBut _ _ (hoff p hp).2 z.1, z.2⟩
      have fin : ∀ {s₂ : Shared}, LEnd h₀ L m I V oI VP (J (i + 1)) s s₂ → ∃ k', k' < n - i ∧ ∃ h tk news oV i, s₂ = { s with heap := h, toks := tk } ∧ i ≤ n ∧ k' = n - i ∧ VP oV ∧ St i h ∧ Fr h₀ L h m ∧ News h₀ L h ((V, oV) :: news) ∧ (∀ p ∈ news, p.1 ≠ I ∧ p.1 ≠ V) ∧ J i news := by
        rintro s₂ ⟨h', tk', news', oV2, rfl, F', N', hVP', hoff', hJ'⟩
        have N4 : News h₀ L h' ((V, oV2) :: news') := fun p hp => N' p (List.mem_cons_of_mem _ hp)
        exact ⟨n - (i + 1), by omega, h', tk', news', oV2, i + 1, rfl, hlt, rfl, hVP', hSt _ _ _ _ _ hst₃ heI (N' _ (.head _)).1 F'.keep (fun p hp => N4 p (List.mem_cons_of_mem _ hp)) (hS _ _ hJ'), F', N4, hoff', hJ'⟩
      refine wpAny_mono (turn i v oI oV' h₃ tk₃ news _ hlt hPv hJ hVP hVX F₃ N₃ hoff) (fun ok s₄ h₄ => ?_) fun _ _ e => e
      cases ok with
      | true =>
        simp only [if_true] at h₄ ⊢
        refine wpAny_mono h₄ (fun fn s₅ h₅ => ?_) fun _ _ e => e
        obtain ⟨rfl, h₅⟩ := h₅
        exact ⟨rfl, fin h₅⟩
      | false =>
        simp only [Bool.false_eq_true, if_false] at h₄ ⊢
        exact wpAny_pure ⟨rfl, fin h₄⟩
    · obtain rfl : i = n := Nat.le_antisymm hi (Nat.not_lt.mp hlt)
      refine W.done _ _ _ hst fun h₂ tk₂ hk₂ => ?_
      refine wpAny_pure ?_
      exact done h₂ tk₂ news oV hJ hV (LCg.fr_but F hk₂ hLI hI₀) (LCg.news_but N hk₂ fun p hp => by
        rcases List.mem_cons.mp hp with rfl | hp
        · exact Ne.symm hIV
        · exact (hoff p hp).1) hoff
  exact key n s ⟨s.heap, s.toks, news, oV, 0, rfl, Nat.zero_le _, rfl, hV, hst, F, N, hoff, hJ⟩
end
end
section
section
variable {prog : Program} {w : World} {A : Around} {E : Value → Shared → Prop} {s : Shared} {h₀ : Heap} {L : Addr} {m : Str → Option Value} {env : Env}

/-- what a loop may go over: a list that stands, or a range by ones -/
def Src (A : Around) (h₀ : Heap) (xv : Value) (h : Heap) (n : Nat) (P : Nat → Value → Prop) (S : List (Addr × Obj) → Prop) (nw : List (Addr × Obj)) : Prop :=
  A.handled = none ∧ n ≤ sizeLine ∧ ((∃ ax its, xv = .ref ax ∧ its.size = n ∧ P = (fun i v => its[i]? = some v) ∧ S = LCg.SrcAt h₀ ax its ∧ LCg.SrcAt h₀ ax its nw) ∨
    (∃ r a b t u v, xv = .ref r ∧ IsRange h r a b 1 t u v ∧ Builtin.Range.small a b 1 = true ∧ Builtin.Range.rangeSize a b 1 = (n : Int) ∧ P = (fun i v => ∃ t, v = .int (a + (i : Int)) t) ∧ S = fun _ => True))
theorem Src.range {r : Addr} {a b : Int} {t u v : Tok} {n : Nat} {nw : List (Addr × Obj)} {h : Heap} (hh : A.handled = none) (hsz : n ≤ sizeLine) (hr : IsRange h r a b 1 t u v) (hsm : Builtin.Range.small a b 1 = true) (hn : Builtin.Range.rangeSize a b 1 = (n : Int)) :
    Src A h₀ (.ref r) h n (fun i v => ∃ t, v = .int (a + (i : Int)) t) (fun _ => True) nw := ⟨hh, hsz, .inr ⟨r, a, b, t, u, v, rfl, hr, hsm, hn, rfl, rfl⟩⟩

theorem Src.iter {xv : Value} {n : Nat} {P : Nat → Value → Prop} {S : List (Addr × Obj) → Prop} {nw : List (Addr × Obj)} {Q : Value → Shared → Prop} (hs : Src A h₀ xv s.heap n P S nw) (F : Fr h₀ L s.heap m) (N : News h₀ L s.heap nw)
    (h : ∀ (fp : List Addr) (St : Nat → Heap → Prop) (oI : Obj), Walks prog w A s.heap.objs.size fp [s.heap.objs.size] n P St → (∀ i h, St i h → ∃ o, h.get? s.heap.objs.size = some o) →
      (∀ i h h' o nw, St i h → h.get? s.heap.objs.size = some o → h'.get? s.heap.objs.size = some o → (∀ b o, h₀.get? b = some o → h'.get? b = some o) → News h₀ L h' nw → S nw → St i h') →
      (∀ nw nw', (∀ p ∈ nw, p ∈ nw') → S nw → S nw') → S nw → (∀ b ∈ fp, b < (s.heap.push oI).objs.size) → (∀ b ∈ fp, b = s.heap.objs.size ∨ (∃ o, h₀.get? b = some o) ∨ ∃ o, (b, o) ∈ nw) → St 0 (s.heap.push oI) → Q (.ref s.heap.objs.size) { s with heap := s.heap.push oI }) :
    wpAny (model prog w) A (pyIter xv) Q E s := by
  obtain ⟨hh, hsz, ⟨ax, its, rfl, rfl, rfl, rfl, hS⟩ | ⟨r, a, b, t, u, v, rfl, hr, hsm, hn, rfl, rfl⟩⟩ := hs
  · have hl := hS.list F.keep N
    have hlt : ax < s.heap.objs.size := by obtain ⟨_, e, _⟩ := hl; exact Heap.lt_size e
    refine wpAny_pyIter_list hl ?_
    refine h _ _ _ (Walks.list hh s.heap.objs.size ax (Nat.ne_of_lt hlt) its) (fun i h st => by obtain ⟨o, e, _⟩ := st.1; exact ⟨o, e⟩) LCg.list_st ?_ hS ?_ ?_ ⟨⟨_, Heap.get?_push_size _ rfl, rfl, rfl⟩, hl.push _⟩
    · rintro nw nw' hsub (h | ⟨o, hm, r⟩)
      · exact .inl h
      · exact .inr ⟨o, hsub _ hm, r⟩
    · intro b hb
      rw [Heap.size_push]
      rcases List.mem_cons.mp hb with rfl | hb
      · exact Nat.lt_succ_self _
      · rw [List.mem_singleton.mp hb]; exact Nat.lt_succ_of_lt hlt
    · intro b hb
      rcases List.mem_cons.mp hb with rfl | hb
      · exact .inl rfl
      · rw [List.mem_singleton.mp hb]
        rcases hS with ⟨o, e, _⟩ | ⟨o, hm, _⟩
        · exact .inr (.inl ⟨o, e⟩)
        · exact .inr (.inr ⟨o, hm⟩)
  · refine wpAny_pyIter_range hr hsm ?_
    refine h _ _ _ (LCg.range_walks hh a n) (fun i h st => ⟨_, st⟩) LCg.range_st (fun _ _ _ _ => trivial) trivial ?_ (fun b hb => .inl (List.mem_singleton.mp hb)) (by show IsRangeIter _ _ _ _ _; rw [hn]; simpa using Heap.get?_push_size _ rfl)
    intro b hb
    rw [List.mem_singleton.mp hb, Heap.size_push]
    exact Nat.lt_succ_self _

/-- a turn's end of a comprehension: own stands, the rest is as J says -/
def CEnd (h₀ : Heap) (L : Addr) (m : Str → Option Value) (own : List (Addr × Obj)) (s : Shared) (J : Value → List (Addr × Obj) → Prop) (y : Value) (s₂ : Shared) : Prop :=
  ∃ h' tk news', s₂ = { s with heap := h', toks := tk } ∧ Fr h₀ L h' m ∧ News h₀ L h' (own ++ news') ∧ Off own news' ∧ J y news'
theorem CEnd.intro {h' : Heap} {tk : Nat} {own all news' : List (Addr × Obj)} {J : Value → List (Addr × Obj) → Prop} {y : Value} (F : Fr h₀ L h' m) (N : News h₀ L h' all) (sub : ∀ p ∈ own ++ news', p ∈ all) (off : Off own news') (hJ : J y news') :
    CEnd h₀ L m own s J y { s with heap := h', toks := tk } := ⟨h', tk, news', rfl, F, fun p hp => N p (sub p hp), off, hJ⟩

/-- what a level's ledger says: the list that grows, and what stands with it -/
def JD (D : Addr) (X : List (Addr × Obj)) (J : List Value → List (Addr × Obj) → Prop) (nw : List (Addr × Obj)) : Prop :=
  ∃ ys news, nw = (D, LCg.lst ys) :: (X ++ news) ∧ Off ((D, LCg.lst ys) :: X) news ∧ (∀ p ∈ X, p.1 ≠ D) ∧ ys.length ≤ sizeLine ∧ J ys news

/-- the element is put to the list -/
theorem emit {I V D : Addr} {oI oV : Obj} {VP : Obj → Prop} {X : List (Addr × Obj)} {ys : List Value} {elt : PySem.Expr} {cenv : Env} {c : Code} {J' : List Value → List (Addr × Obj) → Prop} {E' : Value → Shared → Prop} {s₁ : Shared}
    (hD : D ≠ L ∧ h₀.get? D = none) (hys : ys.length ≤ sizeLine) (hDI : D ≠ I) (hDV : D ≠ V) (hX : ∀ p ∈ X, p.1 ≠ D ∧ p.1 ≠ I ∧ p.1 ≠ V) (hVP : VP oV) (hJl : ∀ ys nw, J' ys nw → ys.length ≤ sizeLine)
    (h : wpAny (model prog w) A (eval elt cenv) (CEnd h₀ L m ((I, oI) :: (V, oV) :: (D, LCg.lst ys) :: X) s (fun y nw => J' (ys ++ [y]) nw)) E' s₁) :
    wpAny (model prog w) A ((eval elt cenv >>= fun x => call (.builtin "list.append") [.ref D, x] >>= fun _ => pure ()) >>= fun _ => again c)
      (fun fin s'' => fin = .again c ∧ LEnd h₀ L m I V oI VP (JD D X J') s s'') E' s₁ := by
  refine wpAny_bind (wpAny_bind (wpAny_mono h (fun y s₂ h₂ => ?_) fun _ _ e => e))
  obtain ⟨h', tk, news', rfl, F', N', off, hJ⟩ := h₂
  have zD := (N' (D, LCg.lst ys) (by simp)).1
  refine wpAny_bind (append_at (hsz := by show ys.toArray.size ≤ sizeLine; rw [List.size_toArray]; exact hys) zD fun h₅ hs₅ hD₅ => ?_)
  refine wpAny_pure (wpAny_pure ⟨rfl, h₅, tk, (D, LCg.lst (ys ++ [y])) :: (X ++ news'), oV, rfl, F'.change hs₅ hD.1 hD.2, ?_, hVP, ?_, ys ++ [y], news', rfl, ?_, fun p hp => (hX p hp).1, hJl _ _ hJ, hJ⟩)
  · have st : ∀ p, p ∈ (I, oI) :: (V, oV) :: (D, LCg.lst ys) :: X ++ news' → p.1 ≠ D → h₅.get? p.1 = some p.2 ∧ p.1 ≠ L ∧ h₀.get? p.1 = none := fun p hp hne => ⟨hs₅.extBut _ _ hne (N' p hp).1, (N' p hp).2⟩
    intro p hp
    rcases List.mem_cons.mp hp with rfl | hp
    · exact st _ (by simp) hDI.symm
    rcases List.mem_cons.mp hp with rfl | hp
    · exact st _ (by simp) hDV.symm
    rcases List.mem_cons.mp hp with rfl | hp
    · exact ⟨hD₅.trans (congrArg some (LCg.lst_snoc ys y)), hD⟩
    rcases List.mem_append.mp hp with hp | hp
    · exact st _ (by simp [hp]) (hX p hp).1
    · exact st _ (by simp [hp]) fun e => off (D, LCg.lst ys) (by simp) p hp e.symm
  · intro p hp
    rcases List.mem_cons.mp hp with rfl | hp
    · exact ⟨hDI, hDV⟩
    rcases List.mem_append.mp hp with hp | hp
    · exact (hX p hp).2
    · exact ⟨fun e => off _ (.head _) p hp e.symm, fun e => off _ (.tail _ (.head _)) p hp e.symm⟩
  · intro p hp q hq
    rcases List.mem_cons.mp hp with rfl | hp
    · exact off (D, LCg.lst ys) (by simp) q hq
    · exact off p (by simp [hp]) q hq
theorem noEmit {I V D : Addr} {oI oV : Obj} {VP : Obj → Prop} {X : List (Addr × Obj)} {ys : List Value} {J' : List Value → List (Addr × Obj) → Prop} {s₁ : Shared}
    (hys : ys.length ≤ sizeLine) (hDI : D ≠ I) (hDV : D ≠ V) (hX : ∀ p ∈ X, p.1 ≠ D ∧ p.1 ≠ I ∧ p.1 ≠ V) (hVP : VP oV)
    (h : CEnd h₀ L m ((I, oI) :: (V, oV) :: (D, LCg.lst ys) :: X) s (fun _ nw => J' ys nw) .none s₁) : LEnd h₀ L m I V oI VP (JD D X J') s s₁ := by
  obtain ⟨h', tk, news', rfl, F', N', off, hJ⟩ := h
  refine ⟨h', tk, (D, LCg.lst ys) :: (X ++ news'), oV, rfl, F', N', hVP, ?_, ys, news', rfl, ?_, fun p hp => (hX p hp).1, hys, hJ⟩
  · intro p hp
    rcases List.mem_cons.mp hp with rfl | hp
    · exact ⟨hDI, hDV⟩
    rcases List.mem_append.mp hp with hp | hp
    · exact (hX p hp).2
    · exact ⟨fun e => off _ (.head _) p hp e.symm, fun e => off _ (.tail _ (.head _)) p hp e.symm⟩
  · intro p hp q hq
    rcases List.mem_cons.mp hp with rfl | hp
    · exact off (D, LCg.lst ys) (by simp) q hq
    · exact off p (by simp [hp]) q hq
end
end
section
section
variable {prog : Program} {w : World} {A : Around} {E : Value → Shared → Prop} {R : Result → Shared → Prop} {s : Shared} {h₀ : Heap} {L : Addr} {m : Str → Option Value} {env : Env}
theorem compStart1 {elt t1 i1 t2 i2 : PySem.Expr} {f1 f2 : List PySem.Expr} {scope : Scope} {pos : Pos} {it acc : Value}
    (h0 : codeAny (model prog w) A (.compLoop (.ListComp elt [⟨t1, i1, f1, 0⟩, ⟨t2, i2, f2, 0⟩] scope pos) 1 it acc env) R s)
    (h : wpAny (model prog w) A (pyIter it) (fun it' s' => codeAny (model prog w) A (.compLoop (.ListComp elt [⟨t1, i1, f1, 0⟩, ⟨t2, i2, f2, 0⟩] scope pos) 1 it' acc env) R s')
      (notedBy (model prog w) A env fun x s' => R (.error x) s') s) :
    codeAny (model prog w) A (.compStart (.ListComp elt [⟨t1, i1, f1, 0⟩, ⟨t2, i2, f2, 0⟩] scope pos) 1 it acc env) R s := by
  refine codeAny_of_tree ?_
  show wpAny _ _ ((compStart (.ListComp elt [⟨t1, i1, f1, 0⟩, ⟨t2, i2, f2, 0⟩] scope pos) 1 it acc env).onRaise (fun x => do noteFrame x env; standAt theWindowsPlace)) _ _ s
  refine wpAny_notedAt ?_
  unfold compStart
  show wpAny _ _ (ask >>= _) _ _ s
  refine wpAny_bind (wpAny_askSetting (wpAny_ite ?_))
  split
  · first
      | exact wpAny_bind (wpAny_pure (wpAny_pure (And.intro rfl h0)))
      | exact wpAny_pure (And.intro rfl h0)
  · first
      | exact wpAny_bind (wpAny_rule (wpAny_bind (wpAny_standAt (wpAny_bind (wpAny_mono h (fun it' s' h' => wpAny_pure (And.intro rfl h')) fun _ _ x => x)))))
      | (refine wpAny_bind (wpAny_rule ?_); show wpAny _ _ (standAt i2.pos >>= _) _ _ s; exact wpAny_bind (wpAny_standAt (wpAny_bind (wpAny_mono h (fun it' s' h' => wpAny_pure (And.intro rfl h')) fun _ _ x => x))))

theorem szN {h : Heap} {b : Addr} {o : Obj} (e : h.get? b = some o) : @LT.lt Nat instLTNat b h.objs.size := Heap.lt_size e
theorem frN {h₀ h : Heap} {L : Addr} {m : Str → Option Value} (F : Fr h₀ L h m) : @LT.lt Nat instLTNat L h.objs.size := F.ns.lt
theorem adNe {a b : Addr} (h : @LT.lt Nat instLTNat a b ∨ @LT.lt Nat instLTNat b a) : a ≠ b := fun e => by subst e; exact h.elim (Nat.lt_irrefl _) (Nat.lt_irrefl _)
theorem compStart1' {elt t1 i1 t2 i2 : PySem.Expr} {f1 f2 : List PySem.Expr} {scope : Scope} {pos : Pos} {acc : Value} {I : Addr} {fp wr : List Addr} {n i : Nat} {P : Nat → Value → Prop} {St : Nat → Heap → Prop} (W : Walks prog w A I fp wr n P St) (hst : St i s.heap)
    (h0 : codeAny (model prog w) A (.compLoop (.ListComp elt [⟨t1, i1, f1, 0⟩, ⟨t2, i2, f2, 0⟩] scope pos) 1 (.ref I) acc env) R s) :
    codeAny (model prog w) A (.compStart (.ListComp elt [⟨t1, i1, f1, 0⟩, ⟨t2, i2, f2, 0⟩] scope pos) 1 (.ref I) acc env) R s := compStart1 h0 (W.self i s _ _ hst h0)
/-- what the inner iterable gives -/
def Comp2In (prog : Program) (w : World) (A : Around) (h₀ : Heap) (L : Addr) (m : Str → Option Value) (env : Env) (elt : PySem.Expr) (x1 x2 : Str) (ifs : List PySem.Expr) (scope : Scope) (cl : List (Str × Addr)) (s₁ : Shared)
    (v1 : Value) (I : Addr) (oI : Obj) (C : Addr) (oC : Obj) (D : Addr) (ys : List Value) (Jout : List Value → List (Addr × Obj) → Prop) (xv : Value) (s₂ : Shared) : Prop :=
  ∃ h tk news n2 P2 S2, s₂ = { s₁ with heap := h, toks := tk } ∧ Fr h₀ L h m ∧ News h₀ L h ((I, oI) :: (C, oC) :: (D, LCg.lst ys) :: news) ∧ Off [(I, oI), (C, oC), (D, LCg.lst ys)] news ∧ Src A h₀ xv h n2 P2 S2 news ∧
    ∃ J2 : Nat → List Value → List (Addr × Obj) → Prop, J2 0 ys news ∧ (∀ j ys nw, J2 j ys nw → S2 nw ∧ ys.length ≤ sizeLine) ∧ (∀ ys nw, J2 n2 ys nw → Jout ys nw) ∧
    ∀ j v2 I2 oI2 oC' m₂ h tk ys news (E' : Value → Shared → Prop), j < n2 → P2 j v2 → J2 j ys news → LCg.NsObj oC' m₂ → m₂ x1 = some v1 → m₂ x2 = some v2 → Fr h₀ L h m →
      News h₀ L h ((I2, oI2) :: (C, oC') :: (D, LCg.lst ys) :: (I, oI) :: news) → Off [(I2, oI2), (C, oC'), (D, LCg.lst ys), (I, oI)] news → ((@Ne Nat I2 C) ∧ (@Ne Nat I2 D) ∧ (@Ne Nat I2 I) ∧ (@Ne Nat C D) ∧ (@Ne Nat C I) ∧ (@Ne Nat D I)) →
      wpAny (model prog w) A (tst ifs (compEnvC scope cl C env)) (fun ok s' => if ok = true then
        wpAny (model prog w) A (eval elt (compEnvC scope cl C env)) (CEnd h₀ L m [(I2, oI2), (C, oC'), (D, LCg.lst ys), (I, oI)] s₁ (fun y nw => J2 (j + 1) (ys ++ [y]) nw)) E' s'
        else CEnd h₀ L m [(I2, oI2), (C, oC'), (D, LCg.lst ys), (I, oI)] s₁ (fun _ nw => J2 (j + 1) ys nw) .none s') E' { s₁ with heap := h, toks := tk }

/-- what the outer iterable gives -/
def Comp2 (prog : Program) (w : World) (A : Around) (h₀ : Heap) (L : Addr) (m : Str → Option Value) (env : Env) (elt i2 : PySem.Expr) (x1 x2 : Str) (ifs : List PySem.Expr) (scope : Scope) (cl : List (Str × Addr)) (Fin : Shared → List Value → List (Addr × Obj) → Prop) (xv : Value) (s₁ : Shared) : Prop :=
  ∃ news n1 P1 S1, Fr h₀ L s₁.heap m ∧ News h₀ L s₁.heap news ∧ Src A h₀ xv s₁.heap n1 P1 S1 news ∧
    ∃ J1 : Nat → List Value → List (Addr × Obj) → Prop, J1 0 [] news ∧ (∀ i ys nw, J1 i ys nw → S1 nw ∧ ys.length ≤ sizeLine) ∧ (∀ g ys nw, J1 n1 ys nw → Fin { s₁ with heap := g } ys nw) ∧
    ∀ i v1 I oI C oC D m₂ h tk ys news (E' : Value → Shared → Prop), i < n1 → P1 i v1 → J1 i ys news → LCg.NsObj oC m₂ → m₂ x1 = some v1 → Fr h₀ L h m →
      News h₀ L h ((I, oI) :: (C, oC) :: (D, LCg.lst ys) :: news) → Off [(I, oI), (C, oC), (D, LCg.lst ys)] news → ((@Ne Nat I C) ∧ (@Ne Nat I D) ∧ (@Ne Nat C D)) →
      wpAny (model prog w) A (eval i2 (compEnvC scope cl C env)) (Comp2In prog w A h₀ L m env elt x1 x2 ifs scope cl s₁ v1 I oI C oC D ys (J1 (i + 1))) E' { s₁ with heap := h, toks := tk }

theorem off1Of {D : Addr} : ∀ {l : List (Addr × Obj)}, (∀ p ∈ l, p.1 ≠ D) → LCg.Off1 D l
  | [], _ => trivial
  | _ :: _, h => ⟨h _ List.mem_cons_self, off1Of fun p hp => h p (List.mem_cons_of_mem _ hp)⟩
theorem comp2Core {elt i1 i2 : PySem.Expr} {x1 x2 : Str} {p1 p2 : Pos} {ifs : List PySem.Expr} {scope : Scope} {cl : List (Str × Addr)} {pos pp : Pos} {use : Option (Value → Sem Unit)} {Q : Value → Shared → Prop} {Fin : Shared → List Value → List (Addr × Obj) → Prop}
    (hclos : closureFor scope env = pure cl) (hcell : ∀ y ∈ scope.names, y.2 ≠ .cell) (hkind : scope.kind = .function)
    (hnames : ∀ y ∈ scope.names, y.2 = .local → scope.names.lookup y.1 = some .local) (hx1 : scope.names.lookup x1 = some .local) (hx2 : scope.names.lookup x2 = some .local) (hne : x1 ≠ x2)
    (h : wpAny (model prog w) A (eval i1 env) (Comp2 prog w A h₀ L m env elt i2 x1 x2 ifs scope cl Fin) E s)
    (hend : ∀ (s₃ : Shared) (g h3 : Heap) (tk3 : Nat) (ys : List Value) (nw : List (Addr × Obj)) (D C : Addr) (oC : Obj), Fin { s₃ with heap := g } ys nw → Fr h₀ L h3 m → News h₀ L h3 ((C, oC) :: (D, LCg.lst ys) :: nw) → LCg.Off1 D nw → (∀ p ∈ (D, LCg.lst ys) :: nw, p.1 ≠ C) → (∃ m₂, h3.Ns C m₂) →
      compPost (model prog w) A E use Q (.ref D) C (.ok .next) { s₃ with heap := h3, toks := tk3 })
    (hs : ∀ x, foldedSetIterable i1 env x = pure x) (hs2 : ∀ C x, foldedSetIterable i2 (compEnvC scope cl C env) x = pure x) :
    wpAny (model prog w) A (comprehension (.ListComp elt [⟨.Name x1 p1, i1, [], 0⟩, ⟨.Name x2 p2, i2, ifs, 0⟩] scope pos) scope env pp (newList []) false (eval i1 env) use) Q E s := by
  refine wpAny_comprehension_free (use := use) rfl hs hclos hkind hnames (wpAny_mono h (fun xv s₁ h₁ => ?_) fun _ _ e => e)
  obtain ⟨news, n1, P1, S1, F, N, src, J1, hJ0, hJS, hFin, enter⟩ := h₁
  refine src.iter F N fun fp St oI W hIo hSt hmono hS hfp _ hst => ?_
  generalize hI : s₁.heap.objs.size = I at *
  refine wpAny_newObj_type (wpAny_newFunctionEnv hcell (by intro y hy; simp at hy) (fun h₁ hns₁ hsb₁ => ?_) hkind)
  dsimp only at hns₁ hsb₁ ⊢
  generalize hH1 : s₁.heap.push oI = H1 at *
  have hH1s : H1.objs.size = I + 1 := by rw [← hH1, Heap.size_push, hI]
  generalize hH2 : H1.push { cls := .type "list", dict := none, data := .seq ([] : List Value).toArray } = H2 at *
  have hC : H2.objs.size = I + 2 := by rw [← hH2, Heap.size_push, hH1s]
  rw [hH1s]
  generalize hDD : I + 1 = D at *
  generalize hCC : H2.objs.size = C at *
  have hDC : D ≠ C := by omega
  have hID : I ≠ D := by omega
  have hIC : I ≠ C := by omega
  have old1 : ∀ b o, s₁.heap.get? b = some o → H1.get? b = some o := fun b o e => hH1 ▸ Heap.get?_push_of_some _ e
  have old2 : ∀ b o, H1.get? b = some o → h₁.get? b = some o := fun b o e => hsb₁.extBut b o (adNe (by have := szN e; omega)) (Heap.get?_push_of_some _ (hH2 ▸ Heap.get?_push_of_some _ e))
  have old : ∀ b o, s₁.heap.get? b = some o → h₁.get? b = some o := fun b o e => old2 b o (old1 b o e)
  have hacc : h₁.get? D = some (LCg.lst []) := hsb₁.extBut _ _ hDC (Heap.get?_push_of_some _ (by rw [← hH2, ← hH1s]; exact Heap.get?_push_size _ rfl))
  have hst₁ : St 0 h₁ := W.frame _ _ _ hst fun b _ o e => old2 b o e
  have fresh₀ : ∀ a : Addr, @LE.le Nat instLENat I a → h₀.get? a = none := fun a ha => by
    cases e : h₀.get? a with
    | none => rfl
    | some o' => have := szN (F.keep a o' e); omega
  have hLlt : @LT.lt Nat instLTNat L I := by have := frN F; omega
  have hCf : C ∉ fp := fun hm => by have : @LT.lt Nat instLTNat C H1.objs.size := hfp _ hm; omega
  obtain ⟨oC, heC, hoC⟩ := LCg.ns_obj hns₁
  have newsLt : ∀ p ∈ news, @LT.lt Nat instLTNat p.1 I := fun p hp => by have := szN (N p hp).1; omega
  have F₁ : Fr h₀ L h₁ m := F.keeps old
  have hD0 : D ≠ L ∧ h₀.get? D = none := ⟨adNe (by omega), fresh₀ _ (by omega)⟩
  have loop : ∀ s₃ : Shared, s₃ = { s₁ with heap := h₁, toks := s₁.toks + ([] : List (Str × Value)).length } →
      codeAny (model prog w) A (.compLoop (.ListComp elt [⟨.Name x1 p1, i1, [], 0⟩, ⟨.Name x2 p2, i2, ifs, 0⟩] scope pos) 0 (.ref I) (.ref D) (compEnvC scope cl C env))
        (compPost (model prog w) A E use Q (.ref D) C) s₃ := by
    rintro s₃ rfl
    refine level (d := 0) (V := C) (VP := fun o => ∃ m₂, LCg.NsObj o m₂) (VX := fun v o => ∃ m₂, LCg.NsObj o m₂ ∧ m₂ x1 = some v) (S := S1) (news := [(D, LCg.lst [])] ++ news) (oV := oC) (fun i nw => JD D [] (J1 i) nw)
      (turn_out _ _ _ _ _ _ _ _ _ _ _ _) W hIo hSt hCf (Nat.ne_of_lt hLlt) (adNe (by omega)) (fresh₀ _ (Nat.le_refl _)) (fresh₀ _ (by omega)) hIC ?_ ?_ ?_ ?_ ⟨_, hoC⟩ hst₁ F₁ ?_ ?_ ⟨[], news, rfl, ?_, (fun _ hp => nomatch hp), by simp, hJ0⟩
    · rintro v s₂ oV E' Q' ⟨m₂, hoV⟩ hget hQ
      refine wpAny_assign_Name (wpAny_storeName_local (lookup_relabel_local hx1) (hoV.ns hget) (fun h₃ hn₃ hs₃ => ?_) (by simp [compEnvC, relabel, hkind]))
      obtain ⟨o₃, e₃, r₃⟩ := LCg.ns_obj hn₃
      exact hQ _ _ _ ⟨_, r₃⟩ ⟨_, r₃, by simp⟩ e₃ hs₃
    · rintro i nw ⟨ys, nw', rfl, _, _, _, hj⟩
      exact hmono _ _ (fun p hp => by simp [hp]) (hJS i ys nw' hj).1
    · rintro i v oI' oV h tk nw E' hi hPv ⟨ys, nw', rfl, hoffD, _, hysl, hj⟩ _ ⟨m₂, hoV, hm₂⟩ F' N' hoff
      refine wpAny_tests_nil ?_
      simp only [if_true]
      have hoff3 : Off [(I, oI'), (C, oV), (D, LCg.lst ys)] nw' := fun p hp q hq => by
        simp at hp
        have := hoff q (by simp [hq])
        rcases hp with rfl | rfl | rfl
        · exact this.1.symm
        · exact this.2.symm
        · exact hoffD _ (.head _) q hq
      refine wpAny_bind (wpAny_mono (enter i v I oI' C oV D m₂ h tk ys nw' _ hi hPv hj hoV hm₂ F' N' hoff3 ⟨hIC, hID, hDC.symm⟩) (fun xv2 s₂ h₂ => ?_) fun _ _ e => e)
      obtain ⟨hh, tk2, news2, n2, P2, S2, rfl, F2, N2, off2, src2, J2, hj0, hjS, hjout, turn2⟩ := h₂
      refine wpAny_bind (wpAny_standAt (wpAny_bind (wpAny_of_eq (hs2 C xv2) (wpAny_bind (wpAny_holding ?_)))))
      refine src2.iter F2 (fun p hp => N2 p (by simp [hp])) fun fp2 St2 oI2 W2 hIo2 hSt2 hmono2 hS2 _ hfp2 hst2 => ?_
      dsimp only at W2 hIo2 hSt2 hfp2 hst2 ⊢
      generalize hI2 : hh.objs.size = I2 at *
      have lt2 : ∀ p ∈ (I, oI') :: (C, oV) :: (D, LCg.lst ys) :: news2, @LT.lt Nat instLTNat p.1 I2 := fun p hp => by have := szN (N2 p hp).1; omega
      have l1 := lt2 _ (.head _)
      have l2 := lt2 _ (.tail _ (.head _))
      have l3 := lt2 _ (.tail _ (.tail _ (.head _)))
      have l4 : ∀ p ∈ news2, @LT.lt Nat instLTNat p.1 I2 := fun p hp => lt2 p (by simp [hp])
      dsimp only at l1 l2 l3
      have hLI2 : @LT.lt Nat instLTNat L I2 := by have := frN F2; omega
      have new2 : h₀.get? I2 = none := fresh₀ _ (by omega)
      refine wpAny_bind (wpAny_runOwn ?_)
      rw [Around.mark_none]
      have up : ∀ b o, hh.get? b = some o → (hh.push oI2).get? b = some o := fun b o e => Heap.get?_push_of_some _ e
      refine compStart1' W2 hst2 ?_
      refine level (s := { s₁ with heap := hh.push oI2, toks := tk2 }) (d := 1) (V := C) (VP := fun o => ∃ m₂, LCg.NsObj o m₂ ∧ m₂ x1 = some v) (VX := fun u o => ∃ m₂, LCg.NsObj o m₂ ∧ m₂ x1 = some v ∧ m₂ x2 = some u) (S := S2)
          (news := (D, LCg.lst ys) :: ([(I, oI')] ++ news2)) (oV := oV) (fun j nw => JD D [(I, oI')] (J2 j) nw)
          (turn_in _ _ _ _ _ _ _ _ _ _ _ _) W2 hIo2 hSt2 ?_ (Nat.ne_of_lt hLI2) (adNe (by omega)) new2 (fresh₀ _ (by omega)) (adNe (by omega)) ?_ ?_ ?_ ?_ ⟨m₂, hoV, hm₂⟩ hst2 (F2.keeps up) ?_ ?_ ⟨ys, news2, rfl, ?_, ?_, hysl, hj0⟩
      · intro hm
        rcases hfp2 _ hm with e | ⟨o, e⟩ | ⟨o, hm⟩
        · exact adNe (.inl l2) e
        · rw [fresh₀ _ (by omega)] at e; cases e
        · exact off2 (C, oV) (by simp) _ hm rfl
      · rintro v2 s₂ oV2 E2 Q2 ⟨m₂', hoV2, hm2⟩ hget hQ
        refine wpAny_assign_Name (wpAny_storeName_local (lookup_relabel_local hx2) (hoV2.ns hget) (fun h₃ hn₃ hs₃ => ?_) (by simp [compEnvC, relabel, hkind]))
        obtain ⟨o₃, e₃, r₃⟩ := LCg.ns_obj hn₃
        have e1 : (fun y => if y = x2 then some v2 else m₂' y) x1 = some v := by simp [hne, hm2]
        exact hQ _ _ _ ⟨_, r₃, e1⟩ ⟨_, r₃, e1, by simp⟩ e₃ hs₃
      · rintro j nw ⟨ys, nw', rfl, _, _, _, hj⟩
        exact hmono2 _ _ (fun p hp => by simp [hp]) (hjS j ys nw' hj).1
      · rintro j u oI3 oV3 h3 tk3 nw E3 hj2 hPu ⟨ys3, nw3, rfl, hoff3D, _, hysl3, hj3⟩ _ ⟨m₃, hoV3, hm3, hm4⟩ F3 N3 hoff4
        have off4 : Off [(I2, oI3), (C, oV3), (D, LCg.lst ys3), (I, oI')] nw3 := fun p hp q hq => by
          simp at hp
          have := hoff4 q (by simp [hq])
          rcases hp with rfl | rfl | rfl | rfl
          · exact this.1.symm
          · exact this.2.symm
          · exact hoff3D _ (.head _) q hq
          · exact hoff3D _ (.tail _ (.head _)) q hq
        have ne4 : ((@Ne Nat I2 C) ∧ (@Ne Nat I2 D) ∧ (@Ne Nat I2 I) ∧ (@Ne Nat C D) ∧ (@Ne Nat C I) ∧ (@Ne Nat D I)) := ⟨by omega, by omega, by omega, by omega, by omega, by omega⟩
        have hX : ∀ p ∈ [(I, oI')], p.1 ≠ D ∧ p.1 ≠ I2 ∧ p.1 ≠ C := fun p hp => by
          rw [List.mem_singleton.mp hp]
          exact ⟨hID, adNe (.inl l1), hIC⟩
        refine wpAny_mono (turn2 j u I2 oI3 oV3 m₃ h3 tk3 ys3 nw3 _ hj2 hPu hj3 hoV3 hm3 hm4 F3 N3 off4 ne4) (fun ok s₄ h₄ => ?_) fun _ _ e => e
        cases ok with
        | true =>
          simp only [if_true] at h₄ ⊢
          exact emit hD0 hysl3 (adNe (.inl l3)) hDC hX ⟨m₃, hoV3, hm3⟩ (fun ys nw hh => (hjS _ ys nw hh).2) h₄
        | false =>
          simp only [Bool.false_eq_true, if_false] at h₄ ⊢
          exact noEmit hysl3 (adNe (.inl l3)) hDC hX ⟨m₃, hoV3, hm3⟩ h₄
      · rintro h3 tk3 nw oV3 ⟨ys3, nw3, rfl, hoff3D, _, hysl3, hj3⟩ ⟨m₃, hoV3, hm3⟩ F3 N3 hoff4
        refine wpAny_pure ⟨rfl, h3, tk3, (D, LCg.lst ys3) :: nw3, oV3, rfl, F3, ?_, ⟨m₃, hoV3⟩, ?_, ys3, nw3, rfl, fun p hp q hq => ?_, (fun _ hp => nomatch hp), hysl3, hjout _ _ hj3⟩
        · intro p hp
          exact N3 p (by simp at hp ⊢; rcases hp with h9 | h9 | h9 | h9 <;> simp [h9])
        · intro p hp
          rcases List.mem_cons.mp hp with rfl | hp
          · exact ⟨hID.symm, hDC⟩
          · exact ⟨fun e => hoff3D (I, oI') (by simp) p hp e.symm, (hoff4 p (by simp [hp])).2⟩
        · exact hoff3D p (by simp at hp; simp [hp]) q hq
      · intro p hp
        refine ⟨up _ _ (N2 p ?_).1, (N2 p ?_).2⟩ <;> (simp at hp ⊢; rcases hp with h9 | h9 | h9 | h9 <;> simp [h9])
      · intro p hp
        simp at hp
        rcases hp with rfl | rfl | hp
        · exact ⟨adNe (.inl l3), hDC⟩
        · exact ⟨adNe (.inl l1), hIC⟩
        · exact ⟨adNe (.inl (l4 p hp)), (off2 (C, oV) (by simp) p hp).symm⟩
      · intro p hp q hq
        simp at hp
        rcases hp with rfl | rfl
        · exact off2 (D, LCg.lst ys) (by simp) q hq
        · exact off2 (I, oI') (by simp) q hq
      · intro p hp
        rw [List.mem_singleton.mp hp]; exact hID
    · rintro h3 tk3 nw oV3 ⟨ys3, nw3, rfl, hoff3D, _, hysl3, hj3⟩ ⟨m₃, hoV3⟩ F3 N3 hoff4
      have zC := (N3 (C, oV3) (.head _))
      refine hend s₁ h₁ h3 tk3 ys3 nw3 D C oV3 (hFin h₁ ys3 nw3 hj3) F3 N3 (off1Of fun p hp e => hoff3D (D, LCg.lst ys3) (.head _) p hp e.symm) (fun p hp => (hoff4 p (by simpa using hp)).2) ⟨m₃, hoV3.ns zC.1⟩
    · intro p hp
      rcases List.mem_cons.mp hp with rfl | hp
      · exact ⟨heC, adNe (by omega), fresh₀ _ (by omega)⟩
      · rcases List.mem_append.mp hp with hp | hp
        · rw [List.mem_singleton.mp hp]; exact ⟨hacc, hD0.1, hD0.2⟩
        · exact ⟨old _ _ (N p hp).1, (N p hp).2⟩
    · intro p hp
      rcases List.mem_append.mp hp with hp | hp
      · rw [List.mem_singleton.mp hp]; exact ⟨hID.symm, hDC⟩
      · have := newsLt p hp
        exact ⟨adNe (by omega), adNe (by omega)⟩
    · intro p hp q hq
      rw [List.mem_singleton.mp hp]
      have := newsLt q hq
      exact adNe (by omega)
  exact codeAny_compStart_list (loop _ rfl) (W.self 0 _ _ _ hst₁ (loop _ rfl))
theorem listComp2 {elt i1 i2 : PySem.Expr} {x1 x2 : Str} {p1 p2 : Pos} {ifs : List PySem.Expr} {scope : Scope} {cl : List (Str × Addr)} {pos : Pos} {Q : Value → Shared → Prop} (F₀ : Fr h₀ L s.heap m)
    (hclos : closureFor scope env = pure cl) (hcell : ∀ y ∈ scope.names, y.2 ≠ .cell) (hkind : scope.kind = .function)
    (hnames : ∀ y ∈ scope.names, y.2 = .local → scope.names.lookup y.1 = some .local) (hx1 : scope.names.lookup x1 = some .local) (hx2 : scope.names.lookup x2 = some .local) (hne : x1 ≠ x2)
    (h : wpAny (model prog w) A (eval i1 env) (Comp2 prog w A h₀ L m env elt i2 x1 x2 ifs scope cl (fun s₂ => LCg.FinE h₀ L m s₂ Q)) E s)
    (hs : ∀ x, foldedSetIterable i1 env x = pure x := by intro _; rfl) (hs2 : ∀ C x, foldedSetIterable i2 (compEnvC scope cl C env) x = pure x := by intro _ _; rfl) :
    wpAny (model prog w) A (eval (.ListComp elt [⟨.Name x1 p1, i1, [], 0⟩, ⟨.Name x2 p2, i2, ifs, 0⟩] scope pos) env) Q E s := by
  rw [eval_ListComp]
  refine comp2Core (use := none) hclos hcell hkind hnames hx1 hx2 hne h (fun s₃ g h3 tk3 ys nw D C oC fin F3 N3 o1 oC' hn => ?_) hs hs2
  obtain ⟨m₂, hn⟩ := hn
  have zC := N3 (C, oC) (.head _)
  refine ⟨m₂, hn, fun h'' hs'' => fin D h'' tk3 (F3.change hs'' zC.2.1 zC.2.2) (fun p hp => ?_) o1⟩
  have z := N3 p (List.mem_cons_of_mem _ hp)
  exact ⟨hs''.extBut _ _ (oC' p hp) z.1, z.2⟩
/-- .. and its value is stored under a local name at once -/
theorem assignComp2 {elt i1 i2 : PySem.Expr} {x1 x2 y : Str} {p1 p2 py : Pos} {ifs : List PySem.Expr} {scope : Scope} {cl : List (Str × Addr)} {pos spos : Pos} {Q : Flow → Shared → Prop} (F₀ : Fr h₀ L s.heap m) (hLe : env.locals = L)
    (hsw : swapsWith (.ListComp elt [⟨.Name x1 p1, i1, [], 0⟩, ⟨.Name x2 p2, i2, ifs, 0⟩] scope pos) (some (.Name y py)) spos.line env = pure true)
    (hclos : closureFor scope env = pure cl) (hcell : ∀ y ∈ scope.names, y.2 ≠ .cell) (hkind : scope.kind = .function)
    (hnames : ∀ y ∈ scope.names, y.2 = .local → scope.names.lookup y.1 = some .local) (hx1 : scope.names.lookup x1 = some .local) (hx2 : scope.names.lookup x2 = some .local) (hne : x1 ≠ x2)
    (hy : env.kindOf y = some .local) (hp : (env.scope.kind == .class || (env.scope.kind == .module && env.locals != env.globals)) = false)
    (h : wpAny (model prog w) A (eval i1 env) (Comp2 prog w A h₀ L m env elt i2 x1 x2 ifs scope cl (fun s₂ => LCg.FinA h₀ L m s₂ y Q)) E s)
    (hs : ∀ x, foldedSetIterable i1 env x = pure x := by intro _; rfl) (hs2 : ∀ C x, foldedSetIterable i2 (compEnvC scope cl C env) x = pure x := by intro _ _; rfl) :
    wpAny (model prog w) A (exec (.Assign [.Name y py] (.ListComp elt [⟨.Name x1 p1, i1, [], 0⟩, ⟨.Name x2 p2, i2, ifs, 0⟩] scope pos) spos) env) Q E s := by
  subst hLe
  rw [exec_Assign_Name_used _ _ _ _ hsw]
  refine wpAny_bind (wpAny_standAt (wpAny_bind ?_))
  show wpAny _ A (do let _ ← comprehension (.ListComp elt [⟨.Name x1 p1, i1, [], 0⟩, ⟨.Name x2 p2, i2, ifs, 0⟩] scope pos) scope env _ (newList []) false (eval i1 env) (some (assign (.Name y py) env))) _ _ s
  refine wpAny_bind (wpAny_mono (comp2Core (use := some (assign (.Name y py) env)) (Q := fun _ s' => Q .next s') hclos hcell hkind hnames hx1 hx2 hne h (fun s₃ g h3 tk3 ys nw D C oC fin F3 N3 o1 oC' hn => ?_) hs hs2) (fun _ s' hq => wpAny_pure (wpAny_pure hq)) fun _ _ e => e)
  obtain ⟨m₂, hn⟩ := hn
  have zC := N3 (C, oC) (.head _)
  show wpAny _ A (assign (.Name y py) env (.ref D)) _ _ _
  refine wpAny_assign_Name (wpAny_storeName_local hy F3.ns (fun h₂ hn₂ hs₂ => ?_) hp)
  have hL₀ : h₀.get? env.locals = none := Heap.get?_none_of_le F3.above
  have F₂ : Fr h₀ env.locals h₂ (fun z => if z = y then some (.ref D) else m z) := ⟨hn₂, fun b o e => hs₂.extBut b o (fun q => by rw [q, hL₀] at e; cases e) (F3.keep b o e), F3.above⟩
  refine ⟨m₂, hn.sameBut hs₂ zC.2.1, fun h'' hs'' => fin D h'' _ (F₂.change hs'' zC.2.1 zC.2.2) (fun p hp => ?_) o1⟩
  have z := N3 p (List.mem_cons_of_mem _ hp)
  have z2 : h₂.get? p.1 = some p.2 := hs₂.extBut _ _ z.2.1 z.1
  exact ⟨hs''.extBut _ _ (oC' p hp) z2, z.2⟩
end
end
section
section
variable {prog : Program} {w : World} {A : Around} {E : Value → Shared → Prop} {s : Shared} {env : Env} {h₀ : Heap} {Q : Flow → Shared → Prop} {xi xc : Str} {body : List Stmt}

/-- a loop over enumerate(list), its ledger free -/
theorem forLoop_enum {R : Result → Shared → Prop} {pk pv pt : Pos} {x1 : Nat} {I : Addr} {fp wr : List Addr} {n : Nat} {Pt : Nat → Array Value → Prop} {St : Nat → Heap → Prop} {Mid : Nat → Addr → Heap → Prop}
    {P2 : Nat → Value → Value → Prop} {m : Str → Option Value} {news keep : List (Addr × Obj)} (hh : A.handled = none) (W : WalksT prog w A I fp wr n Pt St Mid) (h2 : ∀ i vals, Pt i vals → ∃ v0 v1, vals = #[v0, v1] ∧ P2 i v0 v1)
    (hxi : env.kindOf xi = some .local) (hxc : env.kindOf xc = some .local)
    (hp : (env.scope.kind == .class || (env.scope.kind == .module && env.locals != env.globals)) = false)
    (hLf : env.locals ∉ fp) (hwr : ∀ b ∈ wr, h₀.get? b = none) (hobj : ∀ i h, St i h → ∀ b ∈ fp, ∃ o, h.get? b = some o) (hnw : ∀ p ∈ news, p.1 ∉ fp) (hkw : ∀ p ∈ keep, p.1 ∈ fp ∧ p.1 ∉ wr) (NK : News h₀ env.locals s.heap keep)
    (hst : St 0 s.heap) (F : Fr h₀ env.locals s.heap m) (N : News h₀ env.locals s.heap news)
    (J : Nat → (Str → Option Value) → List (Addr × Obj) → Prop) (h0 : J 0 m news)
    (turn : ∀ i v0 v1 m₁ news₁ h tk own, i < n → P2 i v0 v1 → J i m₁ news₁ → Off own news₁ → (∀ b ∈ fp, h₀.get? b = none → ∀ o, h.get? b = some o → (b, o) ∈ own) → (∀ p ∈ keep, p ∈ own) →
      Fr h₀ env.locals h (fun y => if y = xc then some v1 else if y = xi then some v0 else m₁ y) → News h₀ env.locals h (own ++ news₁) →
      wpAny (model prog w) A (execs body env) (TurnPost h₀ env.locals own (J (i + 1)) (fun f s' => R (.ok f) s') { s with heap := h, toks := tk }) (notedBy (model prog w) A env fun e s' => R (.error e) s') { s with heap := h, toks := tk })
    (done : ∀ h' tk m' news', Fr h₀ env.locals h' m' → News h₀ env.locals h' news' → (∀ p ∈ news', p.1 ∉ fp) → News h₀ env.locals h' keep → J n m' news' → R (.ok .next) { s with heap := h', toks := tk }) :
    codeAny (model prog w) A (.forLoop (.Tuple [.Name xi pk, .Name xc pv] x1 pt) (.ref I) body [] env) R s := by
  have hLw : env.locals ∉ wr := fun h => hLf (W.sub _ h)
  have old : ∀ b o, h₀.get? b = some o → b ∉ wr := fun b o e hb => by rw [hwr b hb] at e; cases e
  refine codeAny_forLoop_any
    (fun k s' => ∃ h' tk m' news' i, s' = { s with heap := h', toks := tk } ∧ St i h' ∧ Fr h₀ env.locals h' m' ∧ News h₀ env.locals h' news' ∧ (∀ p ∈ news', p.1 ∉ fp) ∧ J i m' news' ∧ i ≤ n ∧ News h₀ env.locals h' keep ∧ k = n + 1 - i) ?_ (n + 1)
    ⟨s.heap, s.toks, m, news, 0, rfl, hst, F, N, hnw, h0, Nat.zero_le _, NK, rfl⟩
  rintro k s' ⟨H, tk, m', news', i, rfl, hst', F', N', hnf, hJ, hi, NK', rfl⟩
  have nextK : ∀ h₁ : Heap, (∀ b o, b ∉ wr → H.get? b = some o → h₁.get? b = some o) → News h₀ env.locals h₁ keep := fun h₁ hk₁ p hp => ⟨hk₁ _ _ (hkw p hp).2 (NK' p hp).1, (NK' p hp).2⟩
  have next : ∀ h₁ : Heap, (∀ b o, b ∉ wr → H.get? b = some o → h₁.get? b = some o) → Fr h₀ env.locals h₁ m' ∧ News h₀ env.locals h₁ news' := fun h₁ hk₁ =>
    ⟨⟨F'.ns.at' fun o e => hk₁ _ o hLw e, fun b o e => hk₁ b o (old b o e) (F'.keep b o e), F'.above⟩, fun p hp => ⟨hk₁ _ _ (fun hm => hnf p hp (W.sub _ hm)) (N' p hp).1, (N' p hp).2⟩⟩
  by_cases hlt : i < n
  · refine W.item i _ _ _ hlt hst' fun T vals h₁ tk₁ hPt _ hT hMid hk₁ => ?_
    obtain ⟨v0, v1, rfl, hP2⟩ := h2 i vals hPt
    refine W.go _ x1 pt i T _ _ _ hMid fun h₂ hst₂ hk₂ => ?_
    have ht₂ : h₂.IsTuple T #[v0, v1] := hT.at fun o e => hk₂ T o (W.apart i T h₁ hMid) e
    refine wpAny_assign_Tuple hh ht₂ rfl rfl fun h₃ hx₃ => ?_
    replace hx₃ : Heap.ExtBut h₂.objs.size h₂ h₃ := hx₃
    have up₃ : ∀ b o, h₂.get? b = some o → h₃.get? b = some o := fun b o x => hx₃ b o (Nat.ne_of_lt (Heap.lt_size x)) x
    obtain ⟨F₃, N₃⟩ := next h₃ fun b o hb x => up₃ b o (hk₂ b o hb (hk₁ b o hb x))
    show wpAny _ A (do holding [v1] (assign (.Name xi pk) env v0); do holding [] (assign (.Name xc pv) env v1); pure ()) _ _ _
    refine wpAny_bind (wpAny_holding (wpAny_assign_Name (wpAny_storeName_local hxi F₃.ns (fun h₄ hn₄ hs₄ => ?_) hp)))
    replace hs₄ : Heap.SameBut env.locals h₃ h₄ := hs₄
    have F₄ := F₃.set hn₄ hs₄
    refine wpAny_bind (wpAny_holding (wpAny_assign_Name (wpAny_storeName_local hxc F₄.ns (fun h₅ hn₅ hs₅ => wpAny_pure ?_) hp)))
    replace hs₅ : Heap.SameBut env.locals h₄ h₅ := hs₅
    have F₅ := F₄.set hn₅ hs₅
    have N₅ : News h₀ env.locals h₅ news' := (N₃.set hs₄).set hs₅
    have hst₅ : St (i + 1) h₅ := W.frame _ _ _ hst₂ fun b hb o e => hs₅.extBut b o (fun q => hLf (q ▸ hb)) (hs₄.extBut b o (fun q => hLf (q ▸ hb)) (up₃ b o e))
    have NK₅ : News h₀ env.locals h₅ keep := (((nextK h₃ fun b o hb x => up₃ b o (hk₂ b o hb (hk₁ b o hb x)))).set hs₄).set hs₅
    have hOff : Off (ownOf h₀ fp h₅) news' := fun p hp q hq e => hnf q hq (e ▸ ownOf_sub p hp)
    have fin : ∀ {tk0 : Nat} {s₂ : Shared}, TurnEnd h₀ env.locals (ownOf h₀ fp h₅) (J (i + 1)) { s with heap := h₅, toks := tk0 } s₂ → ∃ k', k' < n + 1 - i ∧ ∃ h' tk m' news' i', s₂ = { s with heap := h', toks := tk } ∧ St i' h' ∧ Fr h₀ env.locals h' m' ∧ News h₀ env.locals h' news' ∧ (∀ p ∈ news', p.1 ∉ fp) ∧ J i' m' news' ∧ i' ≤ n ∧ News h₀ env.locals h' keep ∧ k' = n + 1 - i' := by
      rintro tk0 s₂ ⟨h₆, tk₆, m₂, news₂, rfl, F₆, N₆, hO₆, hJ₆⟩
      refine ⟨n + 1 - (i + 1), by omega, h₆, tk₆, m₂, news₂, i + 1, rfl, ?_, F₆, fun p hp => N₆ p (List.mem_append_right _ hp), fun p hp hb => ?_, hJ₆, hlt, fun p hp => N₆ p (List.mem_append_left _ (mem_ownOf (hkw p hp).1 (NK₅ p hp).2.2 (NK₅ p hp).1)), rfl⟩
      · refine W.frame _ _ _ hst₅ fun b hb o e => ?_
        cases hn : h₀.get? b with
        | some o₀ =>
          have : o₀ = o := by have q := F₅.keep b o₀ hn; rw [e] at q; exact (Option.some.inj q).symm
          exact this ▸ F₆.keep b o₀ hn
        | none => exact (N₆ _ (List.mem_append_left _ (mem_ownOf hb hn e))).1
      · obtain ⟨o, ho⟩ := hobj _ _ hst₅ p.1 hb
        cases hn : h₀.get? p.1 with
        | some o₀ => have := (N₆ p (List.mem_append_right _ hp)).2.2; rw [hn] at this; cases this
        | none => exact hO₆ _ (mem_ownOf hb hn ho) p hp rfl
    refine wpAny_mono (turn i v0 v1 m' news' h₅ _ (ownOf h₀ fp h₅) hlt hP2 hJ hOff (fun b hb hn o ho => mem_ownOf hb hn ho) (fun p hp => mem_ownOf (hkw p hp).1 (NK₅ p hp).2.2 (NK₅ p hp).1) F₅ ((news_ownOf hLf).append N₅)) (fun f s₃ h₆ => ?_) fun _ _ e => e
    cases f with
    | ret v => exact h₆
    | brk => exact h₆
    | cont => exact fin h₆
    | next => exact fin h₆
  · have hin : i = n := by omega
    subst hin
    refine W.done _ _ _ hst' fun h₁ tk₁ hk₁ => wpAny_execs_nil ?_
    obtain ⟨F₁, N₁⟩ := next h₁ hk₁
    exact done h₁ tk₁ m' news' F₁ N₁ hnf (nextK h₁ hk₁) hJ

/-- what enumerate(list) gives the loop -/
def EnumG (prog : Program) (w : World) (A : Around) (h₀ : Heap) (env : Env) (xi xc : Str) (body : List Stmt) (Q : Flow → Shared → Prop) (E : Value → Shared → Prop) (xv : Value) (s₁ : Shared) : Prop :=
  ∃ (e it l : Addr) (vs : List Value) (ep : Nat) (led news : List (Addr × Obj)) (m : Str → Option Value) (J : Nat → (Str → Option Value) → List (Addr × Obj) → Prop), xv = .ref e ∧ e ≠ it ∧ l ≠ e ∧ l ≠ it ∧ h₀.get? e = none ∧ h₀.get? it = none ∧ e ≠ env.locals ∧ it ≠ env.locals ∧
    IsEnum s₁.heap e it 0 .none ∧ s₁.heap.IsListIter it l 0 ∧ (l, listOf vs.toArray ep) ∈ led ∧ Fr h₀ env.locals s₁.heap m ∧ News h₀ env.locals s₁.heap led ∧ (∀ p ∈ news, p ∈ led) ∧ (∀ p ∈ news, p.1 ≠ e ∧ p.1 ≠ it ∧ p.1 ≠ l) ∧ J 0 m news ∧
    (∀ i v t m₁ news₁ h tk own, i < vs.length → vs[i]? = some v → J i m₁ news₁ → Off own news₁ → (l, listOf vs.toArray ep) ∈ own → Fr h₀ env.locals h (fun y => if y = xc then some v else if y = xi then some (.int i t) else m₁ y) → News h₀ env.locals h (own ++ news₁) →
      wpAny (model prog w) A (execs body env) (TurnPost h₀ env.locals own (J (i + 1)) Q { s₁ with heap := h, toks := tk }) E { s₁ with heap := h, toks := tk }) ∧
    (∀ m₁ news₁ h tk, J vs.length m₁ news₁ → (∀ p ∈ news₁, p.1 ≠ l) → Fr h₀ env.locals h m₁ → News h₀ env.locals h (news₁ ++ [(l, listOf vs.toArray ep)]) → Q .next { s₁ with heap := h, toks := tk })

theorem for_enumG {pk pv pt pos : Pos} {x1 : Nat} {iter : PySem.Expr} {m₀ : Str → Option Value} (F₀ : Fr h₀ env.locals s.heap m₀) (hh : A.handled = none)
    (hxi : env.kindOf xi = some .local) (hxc : env.kindOf xc = some .local)
    (hp : (env.scope.kind == .class || (env.scope.kind == .module && env.locals != env.globals)) = false)
    (h : wpAny (model prog w) A (eval iter env) (EnumG prog w A h₀ env xi xc body Q E) E s)
    (hs : ∀ x, foldedSetIterable iter env x = pure x := by intro _; rfl)
    (hE : PassesOwn (model prog w) A env E := by passes_own) :
    wpAny (model prog w) A (exec (.For (.Tuple [.Name xi pk, .Name xc pv] x1 pt) iter body [] pos) env) Q E s := by
  refine wpAny_For (wpAny_mono h (fun xv s₁ h₁ => ?_) fun _ _ e => e) hs
  obtain ⟨e, it, l, vs, ep, led, news, m, J, rfl, hei, hle, hli, hne, hni, heL, hiL, he, hit, hl, F, N, hsub, hoff, hJ, turn, done⟩ := h₁
  refine wpAny_pyIter_enum he ?_
  have hL : s₁.heap.IsList l vs.toArray := ⟨_, (N _ hl).1, rfl, ep, rfl⟩
  have W := WalksT.enumerate (prog := prog) (w := w) hh e it l hei hle hli vs.toArray
  have hlen : vs.toArray.size = vs.length := by simp
  rw [hlen] at W
  have hl0 := (N _ hl)
  refine forLoop_enum (keep := [(l, listOf vs.toArray ep)]) (R := fun r s' => match r with | .ok f => Q f s' | .error e => cameBackBy (model prog w) A env E e s') hh W (P2 := fun i v0 v1 => ∃ t, v0 = .int i t ∧ vs[i]? = some v1) ?_ hxi hxc hp ?_ ?_ ?_ ?_ ?_ (fun p hp => by rw [List.mem_singleton.mp hp]; exact N _ hl) ⟨⟨_, by simpa using he⟩, hit, hL⟩ F (fun p hp => N p (hsub p hp)) (fun i m₁ nw => J i m₁ nw) hJ ?_ ?_
  · rintro i vals ⟨t, x, hx, rfl⟩
    exact ⟨_, _, rfl, t, rfl, by simpa using hx⟩
  · intro hm
    simp at hm
    rcases hm with h | h | h
    · exact heL h.symm
    · exact hiL h.symm
    · exact hl0.2.1 h.symm
  · intro b hb
    rcases List.mem_cons.mp hb with rfl | hb
    · exact hne
    · rw [List.mem_singleton.mp hb]; exact hni
  · rintro i h ⟨⟨old, h1⟩, ⟨o2, h2, _⟩, ⟨o3, h3, _⟩⟩ b hb
    simp at hb
    rcases hb with rfl | rfl | rfl
    · exact ⟨_, h1⟩
    · exact ⟨o2, h2⟩
    · exact ⟨o3, h3⟩
  · intro p hp hm
    simp at hm
    have := hoff p hp
    rcases hm with h | h | h
    · exact this.1 h
    · exact this.2.1 h
    · exact this.2.2 h
  · intro p hp
    rw [List.mem_singleton.mp hp]
    exact ⟨by simp, by simp [hle, hli]⟩
  · rintro i v0 v1 m₁ news₁ h tk own hi ⟨t, rfl, hv⟩ hJ' hO hown hk F₁ N₁
    exact wpAny_passesOwn hE (turn i v1 t m₁ news₁ h tk own hi hv hJ' hO (hk _ (.head _)) F₁ N₁)
  · intro h' tk m' news' F' N' hno NK' hJ'
    exact done m' news' h' tk hJ' (fun p hp e => hno p hp (by rw [e]; simp)) F' fun p hp => (List.mem_append.mp hp).elim (N' p) (NK' p)

/-- enumerate(list) -/
theorem enumCall {l : Addr} {vs : List Value} {ep : Nat} {L : Addr} {m : Str → Option Value} {led : List (Addr × Obj)} {Q : Value → Shared → Prop} (F : Fr h₀ L s.heap m) (N : News h₀ L s.heap led) (hl : (l, listOf vs.toArray ep) ∈ led)
    (h : ∀ h', Fr h₀ L h' m → News h₀ L h' led → IsEnum h' (s.heap.objs.size + 1) s.heap.objs.size 0 .none → h'.IsListIter s.heap.objs.size l 0 → h₀.get? (s.heap.objs.size + 1) = none → h₀.get? s.heap.objs.size = none → (∀ p ∈ led, @LT.lt Nat instLTNat p.1 s.heap.objs.size) → @LT.lt Nat instLTNat L s.heap.objs.size → Q (.ref (s.heap.objs.size + 1)) { s with heap := h' }) :
    wpAny (model prog w) A (call (.type "enumerate") [.ref l]) Q E s := by
  refine call_enumerate_1 (N _ hl).1 fun h' he hit hsz hk => ?_
  have fresh : ∀ a : Addr, @LE.le Nat instLENat s.heap.objs.size a → h₀.get? a = none := fun a ha => by
    cases e : h₀.get? a with
    | none => rfl
    | some o' => have := szN (F.keep a o' e); omega
  exact h h' (F.keeps hk) (fun p hp => ⟨hk _ _ (N p hp).1, (N p hp).2⟩) he hit (fresh _ (Nat.le_succ _)) (fresh _ (Nat.le_refl _)) (fun p hp => szN (N p hp).1) (frN F)
end
end
local macro_rules | `(tactic| k_all) => `(tactic| first | assumption | ((with_reducible refine List.forall_mem_append.mpr ⟨?ka, ?kb⟩); (case ka => k_all); (case kb => k_all)))
section
variable {prog : Program} {w : World} {A : Around} {E : Value → Shared → Prop} {s : Shared} {h₀ : Heap} {L : Addr} {m : Str → Option Value} {news : List (Addr × Obj)} in
theorem itemP1 {value slice : PySem.Expr} {l : Addr} {vs : List Value} {c j : Nat} {u : Tok} {v : Value} {Q : Value → Shared → Prop} (N : News h₀ L s.heap news) (hm : (l, listOf vs.toArray c) ∈ news) (hx : vs[j]? = some v) (hj : j < 2 ^ 62) (h : Q v s)
    (hs : subscripted slice false (.ref l) (.int (((j + 1 : Nat) : Int) - 1) u) = operate [.ref l, .int (((j + 1 : Nat) : Int) - 1) u] (getItem (.ref l) (.int (((j + 1 : Nat) : Int) - 1) u)) := by with_unfolding_all rfl) :
    wpAny (model prog w) A (subscriptTail value slice (.ref l) (.int (((j + 1 : Nat) : Int) - 1) u)) Q E s := itemZ N hm hx (by omega) hj h hs
/-- the tuples that _law_stretch lays in order -/
def StrL (c : Int) (ns : List Int) (n : Nat) (as : List (Int × Int)) : Prop :=
  as.length = n + 1 ∧ Srt kTup.lt as ∧ ∀ x, x ∈ as ↔ ∃ t : Nat, t ≤ n ∧ x = ((ns.take t).sum % c, (t : Int))
theorem sumB1 {c : Int} : ∀ (ns : List Int) (_ : ∀ n ∈ ns, 0 ≤ n ∧ n < c), 0 ≤ ns.sum ∧ ns.sum ≤ ns.length * c
  | [], _ => by simp
  | n :: ns, h => by
    have a := sumB1 ns fun x hx => h x (List.mem_cons_of_mem _ hx)
    have b := h n (.head _)
    rw [List.sum_cons, List.length_cons]
    have e : ((ns.length + 1 : Nat) : Int) * c = ns.length * c + c := by rw [Int.natCast_add, Int.add_mul]; simp
    omega
theorem sumB {c : Int} {ns : List Int} (hb : ∀ n ∈ ns, 0 ≤ n ∧ n < c) (hc : 0 ≤ c) (i : Nat) (hl : ns.length ≤ 4) : 0 ≤ (ns.take i).sum ∧ (ns.take i).sum ≤ 4 * c := by
  have a := sumB1 (ns.take i) fun x hx => hb x (List.mem_of_mem_take hx)
  have b : ((ns.take i).length : Int) * c ≤ 4 * c := Int.mul_le_mul_of_nonneg_right (by rw [List.length_take]; omega) hc
  omega
/-- a fact that omega does not see -/
structure Boxd (P : Prop) : Prop where
  out : P
def StrOk (c : Int) (ns : List Int) (a b : Int) : Prop := 0 ≤ a ∧ a < b ∧ b ≤ ns.length ∧ (((ns.take b.toNat).drop a.toNat).sum) % c = 0
theorem strNone {c : Int} {ns : List Int} {as : List (Int × Int)} (hl : (ns.length : Int) = c) (h : StrL c ns ns.length as) (hdis : ∀ (j : Nat) c0 d0, j < ns.length → as[j]? = some c0 → as[j + 1]? = some d0 → c0.1 ≠ d0.1) (hc : 1 ≤ c) : False := by
  obtain ⟨h1, h2, h3⟩ := h
  have hr : ∀ x ∈ as, 0 ≤ x.1 ∧ x.1 < c := by
    intro x hx
    obtain ⟨t, _, rfl⟩ := (h3 x).mp hx
    exact ⟨Int.emod_nonneg _ (by omega), Int.emod_lt_of_pos _ (by omega)⟩
  have up : ∀ (j : Nat) (hj : j < as.length), (j : Int) ≤ as[j].1 := by
    intro j
    induction j with
    | zero => intro hj; exact (hr _ (List.getElem_mem hj)).1
    | succ j ih =>
      intro hj
      have a1 := ih (by omega)
      have a2 := (List.pairwise_iff_getElem.mp h2) j (j + 1) (by omega) hj (by omega)
      have a3 := hdis j _ _ (by omega) (List.getElem?_eq_getElem (by omega : j < as.length)) (List.getElem?_eq_getElem hj)
      have a4 : as[j].1 ≤ as[j + 1].1 := by
        simp only [kTup, Bool.or_eq_true, Bool.and_eq_true, decide_eq_true_eq, beq_iff_eq] at a2
        omega
      omega
  have a := up ns.length (by omega)
  have b := (hr _ (List.getElem_mem (by omega : ns.length < as.length))).2
  omega
theorem strOk {c : Int} {ns : List Int} {as : List (Int × Int)} {n i : Nat} {c0 d0 : Int × Int} (hn : n = ns.length) (h : StrL c ns n as) (hc : 1 ≤ c) (e0 : as[i]? = some c0) (e1 : as[i + 1]? = some d0) (e : c0.1 = d0.1) : StrOk c ns c0.2 d0.2 := by
  obtain ⟨h1, h2, h3⟩ := h
  obtain ⟨t, ht, e2⟩ := (h3 c0).mp (List.mem_of_getElem? e0)
  obtain ⟨u, hu, e3⟩ := (h3 d0).mp (List.mem_of_getElem? e1)
  obtain ⟨hi0, g0⟩ := List.getElem?_eq_some_iff.mp e0
  obtain ⟨hi1, g1⟩ := List.getElem?_eq_some_iff.mp e1
  have a2 := (List.pairwise_iff_getElem.mp h2) i (i + 1) hi0 hi1 (by omega)
  rw [g0, g1] at a2
  simp only [kTup, Bool.or_eq_true, Bool.and_eq_true, decide_eq_true_eq, beq_iff_eq] at a2
  have hlt : c0.2 < d0.2 := by omega
  subst e2 e3
  refine ⟨by simp, hlt, by simp; omega, ?_⟩
  simp only [Int.toNat_natCast] at *
  have hs : (ns.take u).sum = (ns.take t).sum + ((ns.take u).drop t).sum := by
    rw [← List.sum_append]
    congr 1
    conv => lhs; rw [← List.take_append_drop t (ns.take u)]
    rw [List.take_take, Nat.min_eq_left (by omega)]
  have e4 : (ns.take t).sum % c = (ns.take u).sum % c := e
  have : ((ns.take u).drop t).sum = (ns.take u).sum - (ns.take t).sum := by omega
  rw [this]
  exact Int.emod_eq_zero_of_dvd (Int.dvd_of_emod_eq_zero (by rw [Int.sub_emod, e4, Int.sub_self]; simp))
theorem strNil (c : Int) (ns : List Int) : StrL c ns 0 [(0, 0)] := by
  refine ⟨rfl, List.pairwise_singleton _ _, fun x => ?_⟩
  rw [List.mem_singleton]
  constructor
  · rintro rfl; exact ⟨0, Nat.le_refl _, by simp⟩
  · rintro ⟨t, ht, e⟩
    have : t = 0 := by omega
    subst this
    simpa using e
theorem strSum {ns : List Int} {i : Nat} {n : Int} (hn : ns[i]? = some n) : (ns.take i).sum + n = (ns.take (i + 1)).sum := by rw [List.take_add_one, hn]; simp
theorem strStep {c : Int} {ns : List Int} {i p : Nat} {as : List (Int × Int)} {n : Int} (h : StrL c ns i as) (hp : p ≤ as.length) (hr : ∀ (j : Nat) a, as[j]? = some a → kTup.lt a (((ns.take i).sum + n) % c, (i : Int) + 1) = decide (j < p)) (hn : ns[i]? = some n) :
    StrL c ns (i + 1) (as.take p ++ (((ns.take i).sum + n) % c, (i : Int) + 1) :: as.drop p) := by
  obtain ⟨h1, h2, h3⟩ := h
  have es : (ns.take (i + 1)).sum = (ns.take i).sum + n := by rw [List.take_add_one, hn]; simp
  refine ⟨by rw [ins_len hp, h1], ins_srt tup_tot h2 hp hr ?_, fun x => ?_⟩
  · intro hm
    obtain ⟨t, ht, e⟩ := (h3 _).mp hm
    have := congrArg Prod.snd e
    simp at this
    omega
  · rw [mem_ins, h3]
    constructor
    · rintro (h | ⟨t, ht, e⟩)
      · exact ⟨i + 1, Nat.le_refl _, by rw [h, es]; simp⟩
      · exact ⟨t, by omega, e⟩
    · rintro ⟨t, ht, e⟩
      rcases Nat.lt_or_ge t (i + 1) with h | h
      · exact .inr ⟨t, by omega, e⟩
      · have : t = i + 1 := by omega
        subst this
        exact .inl (by rw [e, es]; simp)

section
local macro_rules | `(tactic| walk_at "exec For Tuple Call") => `(tactic| (k_here; (rename Fr _ _ _ _ => lF'); (with_unfolding_all refine' for_enumG lF' ?k1 ?k2 ?k3 ?k4 ?k5; (case k1 => exact rfl); (case k2 => exact rfl); (case k3 => exact rfl); (case k4 => exact rfl))))
local macro_rules | `(tactic| walk_at "exec For Name Call cons nil") => `(tactic| (k_here; (rename Fr _ _ _ _ => lF'); (with_unfolding_all refine' For_invVF lF' ?k1 ?k2 ?_; (case k1 => exact rfl); (case k2 => exact rfl); k_whole)))
variable {w : World} {p : Program} {loose : List Str} {mean : ExcName → Option Value} {mg mb : Str → Option Value}

theorem stretch_ctr (l : Addr) (vs : List Value) (ns : List Int) (e : Nat) (c : Int) (tc : Tok) (T2 T3 : List (Addr × Obj)) (hT2 : Tab 30 32 4 qI2 T2) (hT3 : Tab 37 47 4 qI3 T3) (hO : Off T2 T3) (hc0 : 1 ≤ c) (hc1 : c ≤ 4) (hI : IntsAre vs ns) (hl : (ns.length : Int) = c) (hb : ∀ n ∈ ns, 0 ≤ n ∧ n < c) :
    Ctr PySem.Challenge.rw_ga0003_01.row.prog w (hd.heap_39 w.params) p loose mean mg mb 86 130 1100 [.ref l, .int c tc] ((l, listOf vs.toArray e) :: (T2 ++ T3))
      (fun r hd' => ∃ lt a b ta tb e' T2' T3', r = .ref lt ∧ hd' = (lt, tupObj [.int a ta, .int b tb] e') :: (l, listOf vs.toArray e) :: (T2' ++ T3') ∧ Tab 30 32 4 qI2 T2' ∧ Tab 37 47 4 qI3 T3' ∧ Off T2' T3' ∧ StrOk c ns a b) := by
  k_with_none
  k_with "tb_start_1" => (refine wpAny_call ?_; k_dflt (refine' codeF_def ?w1k1 ?w1k2 ?w1k3 ?w1k4 ?w1kD ?w1k5 ?w1kA ?w1kF ?w1kK ?w1k6 ?w1k7 ?w1k8 ?w1k9 ?w1kB ?_ ?w1c2 ?w1c3 ?w1c4 ?w1c5; (case w1kA => exact rfl); (case w1kF => exact rfl); (case w1kK => assumption); (case w1k1 => k_asm); (case w1k2 => k_asm); (case w1k3 => k_asm); (case w1k4 => k_asm); (case w1kD => assumption); (case w1k5 => k_asm); (case w1k6 => k_is); (case w1k7 => k_is); (case w1k8 => ktr_room); (case w1k9 => first | exact BindsTo.of_eq rfl | exact binds_K (by k_in) rfl (by k_is) rfl rfl rfl | (refine' kp_binds ?w1kx ?w1ke; (case w1kx => k_in); (case w1ke => exact fun _ => rfl))); (case w1c5 => decide); (case w1kB => exact locs rfl); (case w1c2 => exact rfl); (case w1c3 => exact rfl); (case w1c4 => exact rfl); k_whole; intro _ _ _ _ _ _ _ _ _ _ l1; (try dsimp only); (try k_lt l1); revert l1; intro _; (try k_fold)))
  k_with "spliced" => (first | refine args_cons ?_ | refine args_nil ⟨Fr.keep (by assumption) _ _ (by assumption), ?_⟩ | (refine args_nil ?_; try simp only [List.cons_append, List.nil_append]))
  k_with "call type:enumerate" => ((refine hold ?_))
  k_with "pyIter ref" => ((refine hold ?_))
  k_with "call ref" => ((refine hold ?_))
  k_with "call builtin:len" => ((k_dflt (refine lenG (by k_asm) (by k_mem) (by assumption) (by omega) ?_)))
  k_with "subscriptTail" => ((k_here; (with_reducible show wpAny _ _ (subscriptTail _ _ (Value.ref _) (Value.int (Nat.cast _) _)) _ _ _); k_dflt (refine itemG (by k_asm) (by k_mem) (by assumption) (by omega) ?_)))
  k_with "subscriptTail" => ((k_here; (with_reducible show wpAny _ _ (subscriptTail _ _ (Value.ref _) (Value.int (HSub.hSub _ _) _)) _ _ _); k_dflt (refine itemP1 (by k_asm) (by k_mem) (by assumption) (by omega) ?_)))
  k_fill
  intro dp un gd cn cs a ccd cl outer A₀ base h₀ L m s rest Q E B C1 C2 F X N D T hk hdp hun hret
  k_extra "tb_start_1"
  have NR : News h₀ L s.heap rest := newsSub N fun p hp => List.mem_append_right _ hp
  have hvl : vs.length = ns.length := hI.length
  k_steps
  unfold Hold
  rename_i gg LL hh5 FG5 B5 X5 T5 RR5 l5 Dz hh1 lz lo hh2 llo Dt hh3 ldt hh4 hh6 hh7 F1 N1
  obtain ⟨oDt, tz1, tz2, N1'⟩ : ∃ oDt tz1 tz2, News gg LL hh7 ((Dt, oDt) :: (lo, listOf [.ref Dz].toArray 0) :: (Dz, tupObj [.int 0 tz1, .int 0 tz2] 0) :: (l, listOf vs.toArray e) :: (T2 ++ T3)) := ⟨_, _, _, N1⟩
  have N2 := newsSub (xs := (lo, listOf [.ref Dz].toArray 0) :: (Dz, tupObj [.int 0 tz1, .int 0 tz2] 0) :: (l, listOf vs.toArray e) :: (T2 ++ T3)) N1' (ixSubT 4 [1, 2, 3] rfl)
  have hlol : lo ≠ l := (Nat.ne_of_lt llo.2.1).symm
  have hDzl : Dz ≠ l := (Nat.ne_of_lt lz.1).symm
  have hTl : ∀ p ∈ T2 ++ T3, p.1 ≠ l := fun p hp => tagNe N2 (q := (l, listOf vs.toArray e)) (by simp at hp ⊢; rcases hp with h | h <;> simp [h]) (by simp) (by rw [tabs0 hT2 hT3 p hp]; exact (show (0 : Nat) ≠ 1 by decide))
  clear N1 N1'
  k_dflt (refine enumCall F1 N2 (l := l) (vs := vs) (ep := e) (by simp) ?_)
  intro hh8 F3 N3 hen hit hne1 hne2 hlt hLlt
  generalize hS : hh7.objs.size = Sz at *
  refine ⟨Sz + 1, Sz, l, vs, e, _, (lo, listOf [.ref Dz].toArray 0) :: (Dz, tupObj [.int 0 tz1, .int 0 tz2] 0) :: (T2 ++ T3), _, fun i m news => ∃ (ws : List Value) (as : List (Int × Int)) (e1 : Nat) (TT T2 T3 : List (Addr × Obj)) (tw : Tok), news = (lo, listOf ws.toArray e1) :: (TT ++ (T2 ++ T3)) ∧ Tab 30 32 4 qI2 T2 ∧ Tab 37 47 4 qI3 T3 ∧ Off T2 T3 ∧ (∀ p ∈ TT, tag p.2 = 2) ∧ Are kTup TT ws as ∧ StrL c ns i as ∧ m (Str.ofString "count") = some (.int c tc) ∧ m (Str.ofString "order") = some (.ref lo) ∧ m (Str.ofString "whole") = some (.int (ns.take i).sum tw),
    rfl, Nat.succ_ne_self _, adNe (.inl (Nat.lt_succ_of_lt (hlt (l, listOf vs.toArray e) (ixMem 2 rfl)))), adNe (.inl (hlt (l, listOf vs.toArray e) (ixMem 2 rfl))), hne1, hne2, adNe (.inr (Nat.lt_succ_of_lt hLlt)), adNe (.inr hLlt), hen, hit, by simp, F3, N3, ?_, ?_, ?_, ?_, ?_⟩
  · intro p hp; simp at hp ⊢; rcases hp with h | h | h | h <;> simp [h]
  · intro p hp
    have h1 := hlt p (by simp at hp ⊢; rcases hp with h | h | h | h <;> simp [h])
    refine ⟨adNe (.inl (Nat.lt_succ_of_lt h1)), adNe (.inl h1), ?_⟩
    simp at hp
    rcases hp with rfl | rfl | h | h
    · exact hlol
    · exact hDzl
    · exact hTl p (List.mem_append_left _ h)
    · exact hTl p (List.mem_append_right _ h)
  · exact ⟨[.ref Dz], [(0, 0)], 0, [(Dz, tupObj [.int 0 tz1, .int 0 tz2] 0)], T2, T3, _, rfl, hT2, hT3, hO, (fun p hp => by rw [List.mem_singleton.mp hp]; rfl), Are.one (a := (0, 0)) ⟨Dz, tz1, tz2, 0, rfl, List.Mem.head _⟩, strNil c ns, rfl, rfl, rfl⟩
  · rintro i v ti m₁ news₁ h tkL own hi hv ⟨ws, as, e1, TT, T2, T3, tw, rfl, hT2, hT3, hO, hTT, hA, hSt, hmc, hmo, hmw⟩ hOw hlow F4 N4
    obtain ⟨n, tn, hn, rfl⟩ := intsGet hI hv
    have F5 := Fr.know (k := Str.ofString "count") (v := .int c tc) F4 ((if_neg (by decide)).trans ((if_neg (by decide)).trans hmc))
    have F6 := Fr.know (k := Str.ofString "order") (v := .ref lo) F5 ((if_neg (by decide)).trans ((if_neg (by decide)).trans ((if_neg (by decide)).trans hmo)))
    have F7 := Fr.know (k := Str.ofString "whole") (v := .int (ns.take i).sum tw) F6 ((if_neg (by decide)).trans ((if_neg (by decide)).trans ((if_neg (by decide)).trans ((if_neg (by decide)).trans hmw))))
    have N5 := newsSub (xs := (lo, listOf ws.toArray e1) :: (own ++ (TT ++ (T2 ++ T3)))) N4 (by intro p hp; simp at hp ⊢; rcases hp with h | h | h | h | h <;> simp [h])
    clear F4 F5 F6 N4 F3 N3 N2 F1
    have hnb := hb n (List.mem_of_getElem? hn)
    have hsb := sumB hb (by omega) i (by omega)
    have hbt : Builtin.Int.intBits ((ns.take i).sum + n) ≤ 2 ^ 21 := bits_small (by omega) (by omega)
    have hlen : as.length ≤ 2 ^ 22 := by rw [hSt.1]; omega
    k_steps
    k_dflt (refine' int_divmod_ctr ((ns.take i).sum + n) c _ _ T2 T3 hT2 hT3 hO (by omega) (by omega) hbt _ _ _ _ _ _ _ _ _ _ _ _ _ _ _ (own ++ ((lo, listOf ws.toArray e1) :: TT)) _ _ ?q19xk1 ?q19xk2 ?q19xk3 ?q19xk4 ?q19xk5 ?q19xk6 ?q19xk7 ?q19xk8 ?q19xk9 ?q19xk10 ?q19xk11 ?q19xkR)
    case q19xk1 => k_asm
    case q19xk2 => assumption
    case q19xk3 => assumption
    case q19xk4 => k_asm
    case q19xk5 => k_asm
    case q19xk6 => exact newsSub (by assumption) (by intro p hp; simp at hp ⊢; rcases hp with h | h | h | h | h <;> simp [h])
    case q19xk7 => exact Off.appR (Off.symm (Off.subR hOw (by intro p hp; simp at hp ⊢; rcases hp with h | h <;> simp [h]))) (offTag0 N5 (by intro p hp; simp at hp ⊢; rcases hp with h | h <;> simp [h]) (by intro p hp; simp at hp ⊢; rcases hp with h | h <;> simp [h]) (tabs0 hT2 hT3) (List.forall_mem_cons.mpr ⟨Nat.one_ne_zero, fun q hq => by rw [hTT q hq]; decide⟩))
    case q19xk8 => k_asm
    case q19xk9 => first | exact rfl | assumption
    case q19xk10 => ktr_room
    case q19xk11 => ktr_units
    intro r hd' h' tk' F' N' D' ⟨ld, td1, td2, ed, T2', T3', hr, ehd, hT2', hT3', hO'⟩
    subst hr ehd
    dsimp only
    have N6 := newsSub (xs := (ld, tupObj [.int (((ns.take i).sum + n).fdiv c) td1, .int (((ns.take i).sum + n).fmod c) td2] ed) :: (lo, listOf ws.toArray e1) :: (own ++ (TT ++ (T2' ++ T3')))) N' (by intro p hp; simp at hp ⊢; rcases hp with h | h | h | h | h | h <;> simp [h])
    clear N' N5
    k_steps
    rename_i lt hh7 F7 N7 ml7
    have hq : ((ns.take i).sum + n).fmod c = ((ns.take i).sum + n) % c := Int.fmod_eq_emod_of_nonneg _ (by omega)
    obtain ⟨tu2, N8⟩ : ∃ tu2, News gg LL hh7 ((lt, tupObj [.int (((ns.take i).sum + n).fmod c) td2, .int ((i : Int) + 1) tu2] 0) :: (ld, tupObj [.int (((ns.take i).sum + n).fdiv c) td1, .int (((ns.take i).sum + n).fmod c) td2] ed) :: (lo, listOf ws.toArray e1) :: (own ++ (TT ++ (T2' ++ T3')))) := ⟨_, N7⟩
    obtain ⟨p', hp1, hp2⟩ := cutAt tup_tr hSt.2.1 (((ns.take i).sum + n) % c, (i : Int) + 1)
    have hne : ∀ q ∈ (lt, tupObj [.int (((ns.take i).sum + n).fmod c) td2, .int ((i : Int) + 1) tu2] 0) :: TT, q.1 ≠ lo := List.forall_mem_cons.mpr ⟨by k_ne, fun q hq => tagNe N8 (q := (lo, listOf ws.toArray e1)) (by simp [hq]) (by simp) (by rw [hTT q hq]; exact (show (2 : Nat) ≠ 1 by decide))⟩
    have hAn : Are kTup ((lt, tupObj [.int (((ns.take i).sum + n).fmod c) td2, .int ((i : Int) + 1) tu2] 0) :: TT) ws as := hA.mono fun p hp => List.mem_cons_of_mem _ hp
    have hbn : kTup.rel ((lt, tupObj [.int (((ns.take i).sum + n).fmod c) td2, .int ((i : Int) + 1) tu2] 0) :: TT) (.ref lt) (((ns.take i).sum + n) % c, (i : Int) + 1) := ⟨lt, td2, tu2, 0, rfl, by rw [hq]; exact List.Mem.head _⟩
    have hlo : Off own [(lt, tupObj [.int (((ns.take i).sum + n).fmod c) td2, .int ((i : Int) + 1) tu2] 0)] := fun p hp q hq e9 => by
      rw [List.mem_singleton.mp hq] at e9
      exact absurd (kst_ltOf ml7.2.2 p (List.mem_append_left _ hp)) (by rw [e9]; exact Nat.lt_irrefl _)
    have hOff : Off ((lo, listOf ws.toArray e1) :: (lt, tupObj [.int (((ns.take i).sum + n).fmod c) td2, .int ((i : Int) + 1) tu2] 0) :: TT) (own ++ (T2' ++ T3')) := by
      refine Off.appR ?_ ?_
      · refine Off.symm fun p hp q hq => ?_
        rcases List.mem_cons.mp hq with rfl | hq
        · exact hOw p hp _ (.head _)
        · rcases List.mem_cons.mp hq with rfl | hq
          · exact hlo p hp _ (.head _)
          · exact hOw p hp q (.tail _ (List.mem_append_left _ hq))
      · exact Off.symm (offTag0 N8 (by intro p hp; simp at hp ⊢; rcases hp with h | h <;> simp [h]) (by intro p hp; simp at hp ⊢; rcases hp with h | h | h <;> simp [h]) (tabs0 hT2' hT3') (List.forall_mem_cons.mpr ⟨Nat.one_ne_zero, List.forall_mem_cons.mpr ⟨(show (2 : Nat) ≠ 0 by decide), fun q hq => by rw [hTT q hq]; decide⟩⟩))
    clear N7
    k_dflt (refine' insort_ctr kTup lo ws as e1 (.ref lt) _ _ p' hne hAn hbn hp1 hp2 hlen _ _ _ _ _ _ _ _ _ _ _ _ _ _ _ (own ++ (T2' ++ T3')) _ _ ?q20xk1 ?q20xk2 ?q20xk3 ?q20xk4 ?q20xk5 ?q20xk6 ?q20xk7 ?q20xk8 ?q20xk9 ?q20xk10 ?q20xk11 ?q20xkR)
    case q20xk1 => k_asm
    case q20xk2 => assumption
    case q20xk3 => assumption
    case q20xk4 => k_asm
    case q20xk5 => k_asm
    case q20xk6 => exact newsSub N8 (by intro p hp; simp at hp ⊢; rcases hp with h | h | h | h | h | h <;> simp [h])
    case q20xk7 => exact hOff
    case q20xk8 => k_asm
    case q20xk9 => first | exact rfl | assumption
    case q20xk10 => ktr_room
    case q20xk11 => ktr_units
    intro r hd' h' tk' F8 N9 D8 ⟨hr, ehd⟩
    subst hr ehd
    dsimp only
    k_steps
    refine ⟨_, _, _, (lo, listOf (ws.take p' ++ .ref lt :: ws.drop p').toArray (e1 + 1)) :: (((lt, tupObj [.int (((ns.take i).sum + n).fmod c) td2, .int ((i : Int) + 1) tu2] 0) :: TT) ++ (T2' ++ T3')), rfl, F8, newsSub N9 ?_, ?_, ⟨_, _, e1 + 1, (lt, tupObj [.int (((ns.take i).sum + n).fmod c) td2, .int ((i : Int) + 1) tu2] 0) :: TT, T2', T3', _, rfl, hT2', hT3', hO', List.forall_mem_cons.mpr ⟨rfl, hTT⟩, (hAn.take p').append ((Are.one hbn).append (hAn.drop p')), strStep hSt hp1 hp2 hn, rfl, rfl, by rw [← strSum hn]; rfl⟩⟩
    · intro p hp; simp at hp ⊢; rcases hp with h | h | h | h | h | h <;> simp [h]
    · refine Off.consR (fun p hp => hOw p hp _ (.head _)) (Off.appR (Off.consR (fun p hp => hlo p hp _ (.head _)) fun p hp q hq => hOw p hp q (.tail _ (List.mem_append_left _ hq))) fun p hp q hq => ?_)
      exact (D' q (.tail _ hq) p (List.mem_append_left _ hp)).symm
  · rintro m₁ news₁ h tkL ⟨ws, as, e1, TT, T2, T3, tw, rfl, hT2, hT3, hO, hTT, hA, hSt, hmc, hmo, hmw⟩ hnl F4 N4
    clear F3 N3 N2 F1
    have F5 := Fr.know (k := Str.ofString "count") (v := .int c tc) F4 hmc
    have F6 := Fr.know (k := Str.ofString "order") (v := .ref lo) F5 ((if_neg (by decide)).trans hmo)
    clear F4 F5
    obtain ⟨n2, hn2⟩ : ∃ n2, n2 = ns.length := ⟨_, rfl⟩
    have hwl : ws.length = n2 + 1 := by rw [hA.1, hSt.1, hvl, hn2]
    have hlen : n2 ≤ 1000 := by omega
    have hn0 : 1 ≤ n2 := by omega
    have hB1 : Boxd (n2 = ns.length) := ⟨hn2⟩
    have hB2 : Boxd ((ns.length : Int) = c) := ⟨hl⟩
    have hSt' : StrL c ns n2 as := by rw [hn2, ← hvl]; exact hSt
    clear hn2 hl hvl hc1 hSt
    k_steps
    unfold Hold
    rename_i hh9 tk9 t9 u9 v9 hR9 F9 N9 hK9
    k_dflt (refine iterRangeG (n := n2) (news := (lo, listOf ws.toArray e1) :: (TT ++ (T2 ++ T3)) ++ [(l, listOf vs.toArray e)]) (fun i m news => news = (lo, listOf ws.toArray e1) :: (TT ++ (T2 ++ T3)) ++ [(l, listOf vs.toArray e)] ∧ m (Str.ofString "order") = some (.ref lo) ∧ ∀ (j : Nat) c0 d0, j < i → as[j]? = some c0 → as[j + 1]? = some d0 → c0.1 ≠ d0.1) rfl hR9 ?_ ?_ F9 N9 ?_ ?_ ?_)
    · exact small_one (by omega) (by omega) (by omega) (by omega)
    · exact rangeSize_k (by omega)
    · exact ⟨rfl, rfl, fun j _ _ h => absurd h (Nat.not_lt_zero _)⟩
    · rintro i ti m₂ news₂ h₂ tk₂ own₂ hi ⟨rfl, hmo2, hdis⟩ hOw2 F3 N3
      have ek : (1 : Int) + (i : Int) * 1 = ((i + 1 : Nat) : Int) := by omega
      rw [ek] at F3
      have F4 := Fr.know (k := Str.ofString "order") (v := .ref lo) F3 ((if_neg (by decide)).trans hmo2)
      have hi0 : i < as.length := by rw [hSt'.1]; omega
      have hi1 : i + 1 < as.length := by rw [hSt'.1]; omega
      obtain ⟨w0, hw0, r0⟩ := hA.get hi0
      obtain ⟨w1, hw1, r1⟩ := hA.get hi1
      have hc0 := List.getElem?_eq_getElem hi0
      have hc1 := List.getElem?_eq_getElem hi1
      generalize as[i] = c0 at *
      generalize as[i + 1] = d0 at *
      obtain ⟨l0, ta1, ta2, na, rfl, hm0⟩ := r0
      obtain ⟨l1, tb1, tb2, nb, rfl, hm1⟩ := r1
      have N4 := newsSub (xs := (lo, listOf ws.toArray e1) :: (l0, tupObj [.int c0.1 ta1, .int c0.2 ta2] na) :: (l1, tupObj [.int d0.1 tb1, .int d0.2 tb2] nb) :: (l, listOf vs.toArray e) :: (own₂ ++ (TT ++ (T2 ++ T3)))) N3 (by intro p hp; simp at hp ⊢; rcases hp with h | h | h | h | h | h | h | h <;> simp [h, hm0, hm1])
      have hc0' : 1 ≤ c := by assumption
      clear F3 N3 F9 N9
      have hd0 := hSt'.2.1
      k_steps
      · rename_i lt hh7 F7 N7 ml7
        unfold TurnPost
        dsimp only
        refine leaveK_ F7 N7 fun kF kN => ?_
        obtain ⟨ty1, ty2, N8, kN8⟩ : ∃ ty1 ty2, News gg LL hh7 ((lt, tupObj [.int c0.2 ty1, .int d0.2 ty2] 0) :: (lo, listOf ws.toArray e1) :: (l0, tupObj [.int c0.1 ta1, .int c0.2 ta2] na) :: (l1, tupObj [.int d0.1 tb1, .int d0.2 tb2] nb) :: (l, listOf vs.toArray e) :: (own₂ ++ (TT ++ (T2 ++ T3)))) ∧ News h₀ L hh7 ((lt, tupObj [.int c0.2 ty1, .int d0.2 ty2] 0) :: (lo, listOf ws.toArray e1) :: (l0, tupObj [.int c0.1 ta1, .int c0.2 ta2] na) :: (l1, tupObj [.int d0.1 tb1, .int d0.2 tb2] nb) :: (l, listOf vs.toArray e) :: (own₂ ++ (TT ++ (T2 ++ T3)))) := ⟨_, _, N7, kN⟩
        exact ctr_ret (hd' := (lt, tupObj [.int c0.2 ty1, .int d0.2 ty2] 0) :: (l, listOf vs.toArray e) :: (T2 ++ T3)) hret NR (by assumption) F7 (newsSub N8 (by intro p hp; simp at hp ⊢; rcases hp with h | h | h | h <;> simp [h])) kF (newsSub kN8 (by intro p hp; simp at hp ⊢; rcases hp with h | h | h | h <;> simp [h])) ⟨lt, c0.2, d0.2, ty1, ty2, 0, T2, T3, rfl, rfl, hT2, hT3, hO, strOk hB1.out hSt' hc0' hc0 hc1 (by assumption)⟩
      · refine ⟨_, _, _, _, rfl, F4, newsSub N4 ?_, ?_, rfl, rfl, fun j a0 b0 hj h0 h1 => ?_⟩
        · intro p hp; simp at hp ⊢; rcases hp with h | h | h | h | h | h <;> simp [h]
        · exact hOw2
        · rcases Nat.lt_or_ge j i with h | h
          · exact hdis j a0 b0 h h0 h1
          · obtain rfl : j = i := by omega
            rw [hc0] at h0; rw [hc1] at h1
            cases h0; cases h1
            assumption
    · rintro m₂ news₂ h₂ tk₂ ⟨rfl, hmo2, hdis⟩ F3 N3
      exact (strNone hB2.out (by rw [← hB1.out]; exact hSt') (by rw [← hB1.out]; exact hdis) hc0).elim
end
end
section
/-- the lots that _law_chosen gives -/
def chosenL : List Int → Nat → List (List Int)
  | _, 0 => [[]]
  | [], _ + 1 => []
  | n :: ns, k + 1 => (chosenL ns k).map (n :: ·) ++ chosenL ns (k + 1)
/-- values that are lists of ints of the ledger -/
def AreL (T : List (Addr × Obj)) (ws : List Value) (lss : List (List Int)) : Prop :=
  ws.length = lss.length ∧ ∀ (i : Nat) (v : Value) (ls : List Int), ws[i]? = some v → lss[i]? = some ls → ∃ a us e, v = .ref a ∧ IntsAre us ls ∧ (a, listOf us.toArray e) ∈ T
theorem AreL.nil {T : List (Addr × Obj)} : AreL T [] [] := ⟨rfl, fun i v ls h => by simp at h⟩
theorem AreL.one {T : List (Addr × Obj)} {a : Addr} {us : List Value} {ls : List Int} {e : Nat} (h : (a, listOf us.toArray e) ∈ T) (hI : IntsAre us ls) : AreL T [.ref a] [ls] := by
  refine ⟨rfl, fun i v ls' h1 h2 => ?_⟩
  match i, h1, h2 with
  | 0, h1, h2 =>
    simp at h1 h2
    exact ⟨a, us, e, h1.symm, h2 ▸ hI, h⟩
theorem AreL.mono {T T' : List (Addr × Obj)} {ws : List Value} {lss : List (List Int)} (h : AreL T ws lss) (hs : ∀ p ∈ T, p ∈ T') : AreL T' ws lss :=
  ⟨h.1, fun i v ls h1 h2 => by obtain ⟨a, us, e, x1, x2, x3⟩ := h.2 i v ls h1 h2; exact ⟨a, us, e, x1, x2, hs _ x3⟩⟩
theorem AreL.append {T : List (Addr × Obj)} {ws us : List Value} {lss kss : List (List Int)} (h : AreL T ws lss) (h' : AreL T us kss) : AreL T (ws ++ us) (lss ++ kss) := by
  refine ⟨by rw [List.length_append, List.length_append, h.1, h'.1], fun i v ls h1 h2 => ?_⟩
  rcases Nat.lt_or_ge i ws.length with hi | hi
  · rw [List.getElem?_append_left hi] at h1
    rw [List.getElem?_append_left (by rw [← h.1]; exact hi)] at h2
    exact h.2 i v ls h1 h2
  · rw [List.getElem?_append_right hi] at h1
    rw [List.getElem?_append_right (by rw [← h.1]; exact hi), ← h.1] at h2
    exact h'.2 _ v ls h1 h2
theorem AreL.get {T : List (Addr × Obj)} {ws : List Value} {lss : List (List Int)} (h : AreL T ws lss) {i : Nat} (hi : i < lss.length) : ∃ a us e, ws[i]? = some (.ref a) ∧ IntsAre us lss[i] ∧ (a, listOf us.toArray e) ∈ T := by
  have h1 : i < ws.length := by rw [h.1]; exact hi
  obtain ⟨a, us, e, x1, x2, x3⟩ := h.2 i ws[i] lss[i] (List.getElem?_eq_getElem h1) (List.getElem?_eq_getElem hi)
  exact ⟨a, us, e, by rw [List.getElem?_eq_getElem h1, x1], x2, x3⟩
theorem offNil1 (xs : List (Addr × Obj)) : Off ([] : List (Addr × Obj)) xs := fun _ h => nomatch h
theorem chosenLen : ∀ (ns : List Int) (k : Nat), (chosenL ns k).length ≤ 2 ^ ns.length
  | ns, 0 => by rw [show chosenL ns 0 = [[]] by cases ns <;> rfl]; exact Nat.one_le_two_pow
  | [], _ + 1 => Nat.zero_le _
  | n :: ns, k + 1 => by
    have a := chosenLen ns k
    have b := chosenLen ns (k + 1)
    rw [chosenL, List.length_append, List.length_map, List.length_cons, Nat.pow_succ]
    omega
theorem chosenIn : ∀ {ns : List Int} {k : Nat} {ls : List Int}, ls ∈ chosenL ns k → ls.length ≤ ns.length
  | ns, 0, ls, h => by
    rw [show chosenL ns 0 = [[]] by cases ns <;> rfl] at h
    rw [List.mem_singleton.mp h]; exact Nat.zero_le _
  | [], _ + 1, ls, h => nomatch h
  | n :: ns, k + 1, ls, h => by
    rw [chosenL] at h
    rcases List.mem_append.mp h with h | h
    · obtain ⟨a, ha, rfl⟩ := List.mem_map.mp h
      have := chosenIn ha
      simp; exact this
    · have := chosenIn h
      simp; omega
section
variable {prog : Program} {w : World} {A : Around} {E : Value → Shared → Prop} {s : Shared} {h₀ : Heap} {L : Addr} {m : Str → Option Value} {news : List (Addr × Obj)} {Q : Value → Shared → Prop} in
/-- list + list -/
theorem addG {l b : Addr} {vs ws : List Value} {e e' : Nat} (F : Fr h₀ L s.heap m) (N : News h₀ L s.heap news) (hl : (l, listOf vs.toArray e) ∈ news) (hb : (b, listOf ws.toArray e') ∈ news) (hz : vs.length + ws.length ≤ 1000)
    (h : ∀ D h', Fr h₀ L h' m → News h₀ L h' ((D, listOf (vs ++ ws).toArray 0) :: news) → (∀ p ∈ news, @LT.lt Nat instLTNat p.1 D) → Q (.ref D) { s with heap := h' }) :
    wpAny (model prog w) A (binaryOp .Add (.ref l) (.ref b)) Q E s := by
  refine add_arrays (its := vs.toArray) (its2 := ws.toArray) F N ⟨_, (N _ hl).1, rfl, e, rfl⟩ ⟨_, (N _ hb).1, rfl, e', rfl⟩ (fun h' F' N' => h _ h' F' N' fun p hp => szN (N p hp).1) ?_
  rw [sizeLine_eq]; simp; omega
end
theorem chosen0 (ns : List Int) : chosenL ns 0 = [[]] := by cases ns <;> rfl
theorem chosenShort : ∀ (ns : List Int) (k : Nat), ns.length < k → chosenL ns k = []
  | [], k + 1, _ => rfl
  | n :: ns, k + 1, h => by
    simp at h
    rw [chosenL, chosenShort ns k h, chosenShort ns (k + 1) (by omega)]; rfl

section
variable {w : World} {p : Program} {loose : List Str} {mean : ExcName → Option Value} {mg mb : Str → Option Value}

theorem chosen_ctr : ∀ (N : Nat) (_ : N ≤ 7) (l : Addr) (vs : List Value) (ns : List Int) (e k : Nat) (tk : Tok) (_ : ns.length ≤ N) (_ : k ≤ 100) (_ : IntsAre vs ns),
    Ctr PySem.Challenge.rw_ga0003_01.row.prog w (hd.heap_39 w.params) p loose mean mg mb 79 (40 + 40 * N) (300 + 300 * N) [.ref l, .int k tk] [(l, listOf vs.toArray e)]
      (fun r hd' => ∃ lo ws e' TL, r = .ref lo ∧ hd' = (lo, listOf ws.toArray e') :: (TL ++ [(l, listOf vs.toArray e)]) ∧ (∀ p ∈ TL, tag p.2 = 1) ∧ AreL TL ws (chosenL ns k)) := by
  k_with_none
  k_with "tb_rel_1" => (refine wpAny_call ?_; k_dflt (refine' codeF_defC ?w1k1 ?w1k2 ?w1k3 ?w1k4 ?w1kE ?w1k5 ?w1kA ?w1kF ?w1kK ?w1k6 ?w1k7 ?w1k8 ?w1k9 ?w1kB ?w1kD ?_ ?w1c2 ?w1c3 ?w1c4; (case w1kA => exact rfl); (case w1kF => exact rfl); (case w1kK => assumption); (case w1k1 => k_asm); (case w1k2 => k_asm); (case w1k3 => k_asm); (case w1k4 => k_asm); (case w1kE => assumption); (case w1k5 => k_asm); (case w1k6 => k_is); (case w1k7 => k_is); (case w1k8 => ktr_room); (case w1k9 => first | exact BindsTo.of_eq rfl | exact binds_K (by k_in) rfl (by k_is) rfl rfl rfl | (refine' kp_binds ?w1kx ?w1ke; (case w1kx => k_in); (case w1ke => exact fun _ => rfl))); (case w1kB => exact rfl); (case w1kD => decide +kernel); (case w1c2 => exact rfl); (case w1c3 => exact rfl); (case w1c4 => exact rfl); k_whole; intro _ _ _ _ _ _ _ N' Y' _ _ _ _ l1; (try k_lt l1); revert l1; intro _; k_cells Y'; (try simp only [List.cons_append, List.nil_append] at N'); revert N'; intro _; (try dsimp only); (try k_fold)))
  k_with "tb_rel_2" => (refine wpAny_call ?_; k_dflt (refine' codeF_defC ?w2k1 ?w2k2 ?w2k3 ?w2k4 ?w2kE ?w2k5 ?w2kA ?w2kF ?w2kK ?w2k6 ?w2k7 ?w2k8 ?w2k9 ?w2kB ?w2kD ?_ ?w2c2 ?w2c3 ?w2c4; (case w2kA => exact rfl); (case w2kF => exact rfl); (case w2kK => assumption); (case w2k1 => k_asm); (case w2k2 => k_asm); (case w2k3 => k_asm); (case w2k4 => k_asm); (case w2kE => assumption); (case w2k5 => k_asm); (case w2k6 => k_is); (case w2k7 => k_is); (case w2k8 => ktr_room); (case w2k9 => first | exact BindsTo.of_eq rfl | exact binds_K (by k_in) rfl (by k_is) rfl rfl rfl | (refine' kp_binds ?w2kx ?w2ke; (case w2kx => k_in); (case w2ke => exact fun _ => rfl))); (case w2kB => exact rfl); (case w2kD => decide +kernel); (case w2c2 => exact rfl); (case w2c3 => exact rfl); (case w2c4 => exact rfl); k_whole; intro _ _ _ _ _ _ _ N' Y' _ _ _ _ l1; (try k_lt l1); revert l1; intro _; k_cells Y'; (try simp only [List.cons_append, List.nil_append] at N'); revert N'; intro _; (try dsimp only); (try k_fold)))
  k_with "spliced" => (first | refine args_cons ?_ | refine args_nil ⟨Fr.keep (by assumption) _ _ (by assumption), ?_⟩ | (refine args_nil ?_; try simp only [List.cons_append, List.nil_append]))
  k_with "pyIter ref" => ((refine hold ?_))
  k_with "call ref" => ((refine hold ?_))
  k_with "eval ListComp" => ((refine hold ?_))
  k_with "call builtin:len" => ((k_dflt (refine lenG (by k_asm) (by k_mem) (by assumption) (by omega) ?_)))
  intro N
  induction N with
  | zero =>
    intro hN l vs ns e k tkk hlN hk100 hI
    have hvl : vs.length = ns.length := hI.length
    k_fill
    intro dp un gd cn cs a ccd cl outer A₀ base h₀ L m s rest Q E B C1 C2 F X ND D T hk hdp hun hret
    k_extra "tb_rel_1"
    have NR : News h₀ L s.heap rest := newsSub ND fun p hp => List.mem_append_right _ hp
    k_steps
    · rename_i hk0 l2 hh2 ml2 l3 hh3 F3 N3 ml3 kF3 kN3 T3 X3
      have e0 : k = 0 := by omega
      exact ctr_ret (hd' := (l3, listOf [.ref l2].toArray 0) :: ([(l2, listOf [].toArray 0)] ++ [(l, listOf vs.toArray e)])) hret NR (by assumption) F3 (newsSub N3 (ixSub [0, 1, 3] rfl)) kF3 (newsSub kN3 (ixSub [0, 1, 3] rfl)) ⟨l3, [.ref l2], 0, [(l2, listOf [].toArray 0)], rfl, rfl, fun p hp => by rw [List.mem_singleton.mp hp]; rfl, by rw [e0, chosen0]; exact AreL.one (List.Mem.head _) .nil⟩
    · rename_i hk0 tk9 hk1 l3 hh3 F3 N3 ml3 kF3 kN3 T3 X3
      exact ctr_ret (hd' := (l3, listOf [].toArray 0) :: ([] ++ [(l, listOf vs.toArray e)])) hret NR (by assumption) F3 (newsSub N3 (ixSub [0, 2] rfl)) kF3 (newsSub kN3 (ixSub [0, 2] rfl)) ⟨l3, [], 0, [], rfl, rfl, (fun _ hp => nomatch hp), by rw [chosenShort _ _ (by omega)]; exact AreL.nil⟩
  | succ N IH =>
    intro hN l vs ns e k tkk hlN hk100 hI
    have hvl : vs.length = ns.length := hI.length
    k_fill
    intro dp un gd cn cs a ccd cl outer A₀ base h₀ L m s rest Q E B C1 C2 F X ND D T hk hdp hun hret
    k_extra "tb_rel_2"
    have NR : News h₀ L s.heap rest := newsSub ND fun p hp => List.mem_append_right _ hp
    k_steps
    · rename_i hk0 l2 hh2 ml2 l3 hh3 F3 N3 ml3 kF3 kN3 T3 X3
      have e0 : k = 0 := by omega
      exact ctr_ret (hd' := (l3, listOf [.ref l2].toArray 0) :: ([(l2, listOf [].toArray 0)] ++ [(l, listOf vs.toArray e)])) hret NR (by assumption) F3 (newsSub N3 (ixSub [0, 1, 3] rfl)) kF3 (newsSub kN3 (ixSub [0, 1, 3] rfl)) ⟨l3, [.ref l2], 0, [(l2, listOf [].toArray 0)], rfl, rfl, fun p hp => by rw [List.mem_singleton.mp hp]; rfl, by rw [e0, chosen0]; exact AreL.one (List.Mem.head _) .nil⟩
    · rename_i hk0 tk9 hk1 l3 hh3 F3 N3 ml3 kF3 kN3 T3 X3
      exact ctr_ret (hd' := (l3, listOf [].toArray 0) :: ([] ++ [(l, listOf vs.toArray e)])) hret NR (by assumption) F3 (newsSub N3 (ixSub [0, 2] rfl)) kF3 (newsSub kN3 (ixSub [0, 2] rfl)) ⟨l3, [], 0, [], rfl, rfl, (fun _ hp => nomatch hp), by rw [chosenShort _ _ (by omega)]; exact AreL.nil⟩
    unfold Hold
    rename_i gg LL hh5 tk5 FG5 F5 B5 X5 T5 RR5 ml5 oc dc N5 hk0 tk9 hk1
    k_dflt (refine LCg.ListComp_U (F₀ := F5) (by with_unfolding_all rfl) (by decide) (by rfl) (by decide) (by rfl) ?_)
    obtain ⟨k', rfl⟩ : ∃ k', k = k' + 1 := ⟨k - 1, by omega⟩
    obtain ⟨n0, ns', rfl⟩ : ∃ n0 ns', ns = n0 :: ns' := by
      cases ns with
      | nil => simp at hk1
      | cons n0 ns' => exact ⟨n0, ns', rfl⟩
    k_steps
    unfold Hold
    rename_i D2 us2 hh6 F6 N6 hI2 hC2 hL2 ml6
    simp only [List.drop_succ_cons, List.drop_zero] at hI2
    have ek : ((k' + 1 : Nat) : Int) - 1 = (k' : Nat) := by omega
    rw [ek]
    have hl2 : ns'.length ≤ N := by simp at hlN; exact hlN
    clear hC2 hL2
    k_dflt (refine' IH (by omega) D2 us2 ns' 0 k' _ hl2 (by omega) hI2 _ _ _ _ _ _ _ _ _ _ _ _ _ _ _ ([(LL + 1, oc), (l, listOf vs.toArray e)]) _ _ ?q21xk1 ?q21xk2 ?q21xk3 ?q21xk4 ?q21xk5 ?q21xk6 ?q21xk7 ?q21xk8 ?q21xk9 ?q21xk10 ?q21xk11 ?q21xkR)
    case q21xk1 => k_asm
    case q21xk2 => assumption
    case q21xk3 => assumption
    case q21xk4 => k_asm
    case q21xk5 => k_asm
    case q21xk6 => exact N6
    case q21xk7 => exact Off.cons (List.forall_mem_cons.mpr ⟨Nat.ne_of_lt ml6.1, List.forall_mem_cons.mpr ⟨Nat.ne_of_lt ml6.2, fun _ h => nomatch h⟩⟩) (offNil1 _)
    case q21xk8 => k_asm
    case q21xk9 => first | exact rfl | assumption
    case q21xk10 => ktr_room
    case q21xk11 => ktr_units
    intro r hd' h' tk' F7 N7 D7 ⟨lo1, ws1, e1, TL1, hr, ehd, hTL1, hA1⟩
    subst hr ehd
    dsimp only
    have hL7 : ws1.length ≤ 128 := by rw [hA1.1]; exact Nat.le_trans (chosenLen ns' k') (Nat.le_trans (Nat.pow_le_pow_right (by decide) (by omega : ns'.length ≤ 7)) (by decide))
    have N8 := newsSub (xs := (lo1, listOf ws1.toArray e1) :: (LL + 1, oc) :: (l, listOf vs.toArray e) :: TL1) N7 (by intro p hp; simp at hp ⊢; rcases hp with h | h | h | h <;> simp [h])
    clear N7 N6 F6
    k_dflt (refine LCg.CompSrc.ledger (by rfl) F7 N8 (ax := lo1) (its := ws1.toArray) (k := e1) (List.Mem.head _) (by rw [sizeLine_eq]; simp; omega) ?_)
    intro g9
    k_dflt (refine compInv (n := ws1.toArray.size) (fun i ys news => ∃ TG, news = (lo1, listOf ws1.toArray e1) :: (LL + 1, oc) :: (l, listOf vs.toArray e) :: (TG ++ TL1) ∧ (∀ p ∈ TG, tag p.2 = 1) ∧ AreL TG ys (((chosenL ns' k').take i).map (n0 :: ·))) ?_ ?_ ws1.toArray.size 0 [] _ (by omega) ⟨[], rfl, (fun _ h => nomatch h), AreL.nil⟩)
    · rintro ys news ⟨TG, rfl, hTG, hAG⟩
      unfold LCg.FinE
      intro DG hG1 tkG FG NG oG
      clear F7 N8
      dsimp only
      k_steps
      unfold Hold
      rename_i D3 us4 hh8 F8 N8 hI4 hC4 hL4 ml8
      simp only [List.drop_succ_cons, List.drop_zero] at hI4
      clear hC4 hL4
      have hne8 : ∀ q ∈ (DG, LCg.lst ys) :: (lo1, listOf ws1.toArray e1) :: (LL + 1, oc) :: (l, listOf vs.toArray e) :: (TG ++ TL1), q.1 ≠ D3 := by
        refine List.forall_mem_cons.mpr ⟨Nat.ne_of_lt ml8.1, List.forall_mem_cons.mpr ⟨Nat.ne_of_lt ml8.2.1, List.forall_mem_cons.mpr ⟨Nat.ne_of_lt ml8.2.2.1, List.forall_mem_cons.mpr ⟨Nat.ne_of_lt ml8.2.2.2.1, fun q hq => Nat.ne_of_lt (kst_ltOf ml8.2.2.2.2 q hq)⟩⟩⟩⟩
      k_dflt (refine' IH (by omega) D3 us4 ns' 0 (k' + 1) _ hl2 (by omega) hI4 _ _ _ _ _ _ _ _ _ _ _ _ _ _ _ ((DG, LCg.lst ys) :: (lo1, listOf ws1.toArray e1) :: (LL + 1, oc) :: (l, listOf vs.toArray e) :: (TG ++ TL1)) _ _ ?q22xk1 ?q22xk2 ?q22xk3 ?q22xk4 ?q22xk5 ?q22xk6 ?q22xk7 ?q22xk8 ?q22xk9 ?q22xk10 ?q22xk11 ?q22xkR)
      case q22xk1 => k_asm
      case q22xk2 => assumption
      case q22xk3 => assumption
      case q22xk4 => k_asm
      case q22xk5 => k_asm
      case q22xk6 => exact N8
      case q22xk7 => exact Off.cons hne8 (offNil1 _)
      case q22xk8 => k_asm
      case q22xk9 => first | exact rfl | assumption
      case q22xk10 => ktr_room
      case q22xk11 => ktr_units
      intro r hd' h'' tk'' F9 N9 D9 ⟨lo2, ws2, e2, TL2, hr, ehd, hTL2, hA2⟩
      subst hr ehd
      dsimp only
      have hyl : ys.length ≤ 128 := by rw [hAG.1, List.length_map, List.length_take]; exact Nat.le_trans (Nat.min_le_right _ _) (by rw [← hA1.1]; exact hL7)
      have hL8 : ws2.length ≤ 128 := by rw [hA2.1]; exact Nat.le_trans (chosenLen ns' (k' + 1)) (Nat.le_trans (Nat.pow_le_pow_right (by decide) (by omega : ns'.length ≤ 7)) (by decide))
      have NA := newsSub (xs := (DG, LCg.lst ys) :: (lo2, listOf ws2.toArray e2) :: (l, listOf vs.toArray e) :: (TG ++ TL2)) N9 (by intro p hp; simp at hp ⊢; rcases hp with h | h | h | h | h <;> simp [h])
      clear N9 N8 F8
      k_dflt (refine addG (vs := ys) (ws := ws2) (e := ys.length) (e' := e2) F9 NA (List.Mem.head _) (.tail _ (.head _)) (by omega) ?_)
      intro D6 h6 F6 N6 ml9
      k_steps
      rename_i kF kN kT kX
      refine ctr_ret (hd' := (D6, listOf (ys ++ ws2).toArray 0) :: ((TG ++ TL2) ++ [(l, listOf vs.toArray e)])) hret NR (by assumption) F6 (newsSub N6 ?_) kF (newsSub kN ?_) ⟨D6, ys ++ ws2, 0, TG ++ TL2, rfl, rfl, fun p hp => (List.mem_append.mp hp).elim (hTG p) (hTL2 p), ?_⟩
      · intro p hp; simp at hp ⊢; rcases hp with h | h | h | h <;> simp [h]
      · intro p hp; simp at hp ⊢; rcases hp with h | h | h | h <;> simp [h]
      · rw [chosenL]
        rw [show List.take ws1.toArray.size (chosenL ns' k') = chosenL ns' k' from List.take_of_length_le (by rw [← hA1.1]; simp)] at hAG
        exact (hAG.mono fun p hp => List.mem_append_left _ hp).append (hA2.mono fun p hp => List.mem_append_right _ hp)
    · rintro i ys news v I oI C oC Dl m₂ h tk E' hi ⟨TG, rfl, hTG, hAG⟩ hv hC hx F10 N10 off nen
      have hi1 : i < (chosenL ns' k').length := by rw [← hA1.1]; simpa using hi
      obtain ⟨a2, us3, e3, hw, hI3, hm3⟩ := hA1.get hi1
      obtain rfl : v = .ref a2 := by simp at hv; rw [hw] at hv; exact (Option.some.inj hv).symm
      have N11 := newsSub (xs := (I, oI) :: (C, oC) :: (Dl, LCg.lst ys) :: (lo1, listOf ws1.toArray e1) :: (LL + 1, oc) :: (l, listOf vs.toArray e) :: (a2, listOf us3.toArray e3) :: (TG ++ TL1)) N10 (by intro p hp; simp at hp ⊢; rcases hp with h | h | h | h | h | h | h | h | h <;> simp [h, hm3])
      clear N10 F7 N8
      k_steps
      rename_i t0 l4 hh4 F4 N4 ml4
      have hl3 : us3.length ≤ 7 := by rw [hI3.length]; exact Nat.le_trans (chosenIn (List.getElem_mem hi1)) (by omega)
      k_dflt (refine addG (vs := [.int n0 t0]) (ws := us3) (e := 0) (e' := e3) F4 N4 (List.Mem.head _) (.tail _ (.tail _ (.tail _ (.tail _ (.tail _ (.tail _ (.tail _ (.head _)))))))) (by simp; omega) ?_)
      intro D6 h6 F6 N6 ml9
      obtain ⟨us5, hus⟩ : ∃ us5, us5 = [Value.int n0 t0] ++ us3 := ⟨_, rfl⟩
      have hI6 : IntsAre us5 (n0 :: (chosenL ns' k')[i]) := by rw [hus]; exact .cons n0 t0 hI3
      rw [← hus] at N6
      refine LCg.CompEnd.intro F6 N6 ((lo1, listOf ws1.toArray e1) :: (LL + 1, oc) :: (l, listOf vs.toArray e) :: (((D6, listOf us5.toArray 0) :: TG) ++ TL1)) ?_ ⟨off.1, off.2.1, off.2.2.1, ⟨(Nat.ne_of_lt (ml9 (I, oI) (.tail _ (.head _)))).symm, (Nat.ne_of_lt (ml9 (C, oC) (.tail _ (.tail _ (.head _))))).symm, (Nat.ne_of_lt (ml9 (Dl, LCg.lst ys) (.tail _ (.tail _ (.tail _ (.head _)))))).symm⟩, off.2.2.2⟩ (.inr ⟨listOf ws1.toArray e1, List.Mem.head _, rfl, e1, rfl⟩) ⟨(D6, listOf us5.toArray 0) :: TG, rfl, List.forall_mem_cons.mpr ⟨rfl, hTG⟩, ?_⟩
      · intro p hp; simp at hp ⊢; rcases hp with h | h | h | h | h | h | h | h | h <;> simp [h]
      · rw [List.take_add_one, List.getElem?_eq_getElem hi1, List.map_append]
        exact (hAG.mono fun p hp => List.mem_cons_of_mem _ hp).append (AreL.one (List.Mem.head _) hI6)
end
end
section
/-- takes from the list as many of each kind as the quota says -/
def pickQ : List Int → (Int → Nat) → List Int
  | [], _ => []
  | n :: ns, q => if 0 < q n then n :: pickQ ns (fun x => if x = n then q x - 1 else q x) else pickQ ns q
theorem pickIn : ∀ (ns : List Int) (q : Int → Nat), pickQ ns q ∈ chosenL ns (pickQ ns q).length
  | [], _ => by simp [pickQ, chosenL]
  | n :: ns, q => by
    rw [pickQ]
    split
    · rw [List.length_cons, chosenL]
      exact List.mem_append_left _ (List.mem_map_of_mem (pickIn ns _))
    · cases hl : (pickQ ns q).length with
      | zero =>
        rw [chosen0, List.eq_nil_of_length_eq_zero hl]
        exact List.mem_singleton.mpr rfl
      | succ k =>
        rw [chosenL]
        refine List.mem_append_right _ ?_
        rw [← hl]
        exact pickIn ns q
theorem pickCount : ∀ (ns : List Int) (q : Int → Nat) (v : Int), (pickQ ns q).count v = min (q v) (ns.count v)
  | [], q, v => by simp [pickQ]
  | n :: ns, q, v => by
    rw [pickQ]
    split
    · rename_i h
      rw [List.count_cons, List.count_cons, pickCount ns _ v]
      by_cases e : v = n
      · subst e
        simp
        omega
      · have : (n == v) = false := by simp; exact fun h => e h.symm
        simp [this, e]
    · rename_i h
      rw [List.count_cons, pickCount ns q v]
      by_cases e : v = n
      · subst e
        simp
        omega
      · have : (n == v) = false := by simp; exact fun h => e h.symm
        simp [this]
theorem countSum : ∀ (ls : List Int) (_ : ∀ x ∈ ls, 0 ≤ x ∧ x < 4), ls.sum = ls.count 1 + 2 * ls.count 2 + 3 * ls.count 3 ∧ (ls.length : Int) = ls.count 0 + ls.count 1 + ls.count 2 + ls.count 3
  | [], _ => by simp
  | n :: ns, h => by
    have ih := countSum ns fun x hx => h x (List.mem_cons_of_mem _ hx)
    have hn := h n (.head _)
    have hc : n = 0 ∨ n = 1 ∨ n = 2 ∨ n = 3 := by omega
    simp only [List.sum_cons, List.length_cons, List.count_cons]
    rcases hc with rfl | rfl | rfl | rfl <;> simp <;> omega
/-- some quota serves, for each way the kinds may be spread -/
def quotas (c : Nat) : List (Nat × Nat × Nat × Nat) :=
  (List.range (c + 1)).flatMap fun a => (List.range (c + 1 - a)).flatMap fun b => (List.range (c + 1 - a - b)).map fun d => (a, b, d, c - a - b - d)
def serves (c n0 n1 n2 n3 : Nat) : Bool := (quotas c).any fun q => decide (q.1 ≤ n0) && decide (q.2.1 ≤ n1) && decide (q.2.2.1 ≤ n2) && decide (q.2.2.2 ≤ n3) && (q.2.1 + 2 * q.2.2.1 + 3 * q.2.2.2) % c == 0
def allServe (c : Nat) : Bool := (quotas (2 * c - 1)).all fun q => (decide (c ≤ 1) && (q.2.1 != 0)) || (decide (c ≤ 2) && (q.2.2.1 != 0)) || (decide (c ≤ 3) && (q.2.2.2 != 0)) || serves c q.1 q.2.1 q.2.2.1 q.2.2.2
theorem all1 : allServe 1 = true := by decide +kernel
theorem all2 : allServe 2 = true := by decide +kernel
theorem all3 : allServe 3 = true := by decide +kernel
theorem all4 : allServe 4 = true := by decide +kernel
theorem quotaMem {c a b d e : Nat} (h : a + b + d + e = c) : (a, b, d, e) ∈ quotas c := by
  refine List.mem_flatMap.mpr ⟨a, List.mem_range.mpr (by omega), List.mem_flatMap.mpr ⟨b, List.mem_range.mpr (by omega), List.mem_map.mpr ⟨d, List.mem_range.mpr (by omega), ?_⟩⟩⟩
  have : c - a - b - d = e := by omega
  rw [this]
theorem quotaSum {c : Nat} {q : Nat × Nat × Nat × Nat} (h : q ∈ quotas c) : q.1 + q.2.1 + q.2.2.1 + q.2.2.2 = c := by
  obtain ⟨a, ha, h⟩ := List.mem_flatMap.mp h
  obtain ⟨b, hb, h⟩ := List.mem_flatMap.mp h
  obtain ⟨d, hd, rfl⟩ := List.mem_map.mp h
  rw [List.mem_range] at ha hb hd
  dsimp only
  omega
theorem egz {c : Nat} {ns : List Int} (h0 : 1 ≤ c) (h4 : c ≤ 4) (hl : ns.length = 2 * c - 1) (hb : ∀ n ∈ ns, 0 ≤ n ∧ n < (c : Int)) : ∃ ls ∈ chosenL ns c, ls.sum % (c : Int) = 0 := by
  have hall : allServe c = true := by
    have : c = 1 ∨ c = 2 ∨ c = 3 ∨ c = 4 := by omega
    rcases this with rfl | rfl | rfl | rfl
    · exact all1
    · exact all2
    · exact all3
    · exact all4
  have hb4 : ∀ n ∈ ns, 0 ≤ n ∧ n < 4 := fun n hn => by have := hb n hn; omega
  have hs := countSum ns hb4
  have z : ∀ v : Int, (c : Int) ≤ v → ns.count v = 0 := fun v hv => List.count_eq_zero.mpr fun hm => by have := hb v hm; omega
  have h1 := List.all_eq_true.mp hall (ns.count 0, ns.count 1, ns.count 2, ns.count 3) (quotaMem (by omega))
  simp only [Bool.or_eq_true, Bool.and_eq_true, decide_eq_true_eq, bne_iff_ne] at h1
  have h2 : serves c (ns.count 0) (ns.count 1) (ns.count 2) (ns.count 3) = true := by
    rcases h1 with ((⟨a, b⟩ | ⟨a, b⟩) | ⟨a, b⟩) | h
    · exact absurd (z 1 (by omega)) b
    · exact absurd (z 2 (by omega)) b
    · exact absurd (z 3 (by omega)) b
    · exact h
  obtain ⟨q, hq, h3⟩ := List.any_eq_true.mp h2
  simp only [Bool.and_eq_true, decide_eq_true_eq, beq_iff_eq] at h3
  obtain ⟨⟨⟨⟨g0, g1⟩, g2⟩, g3⟩, g4⟩ := h3
  have hqs := quotaSum hq
  let f : Int → Nat := fun v => if v = 0 then q.1 else if v = 1 then q.2.1 else if v = 2 then q.2.2.1 else if v = 3 then q.2.2.2 else 0
  have c0 : (pickQ ns f).count 0 = q.1 := by rw [pickCount]; show min (f 0) _ = _; rw [show f 0 = q.1 from rfl]; omega
  have c1 : (pickQ ns f).count 1 = q.2.1 := by rw [pickCount, show f 1 = q.2.1 from rfl]; omega
  have c2 : (pickQ ns f).count 2 = q.2.2.1 := by rw [pickCount, show f 2 = q.2.2.1 from rfl]; omega
  have c3 : (pickQ ns f).count 3 = q.2.2.2 := by rw [pickCount, show f 3 = q.2.2.2 from rfl]; omega
  have hsub : ∀ x ∈ pickQ ns f, 0 ≤ x ∧ x < 4 := fun x hx => by
    have : 0 < (pickQ ns f).count x := List.count_pos_iff.mpr hx
    rw [pickCount] at this
    exact hb4 x (List.count_pos_iff.mp (by omega))
  have hps := countSum _ hsub
  have hlen : (pickQ ns f).length = c := by omega
  refine ⟨pickQ ns f, hlen ▸ pickIn ns f, ?_⟩
  rw [hps.1, c1, c2, c3]
  have e : ((q.2.1 : Int) + 2 * q.2.2.1 + 3 * q.2.2.2) = ((q.2.1 + 2 * q.2.2.1 + 3 * q.2.2.2 : Nat) : Int) := by simp
  rw [e, ← Int.natCast_emod, g4]
  rfl
/-- the rests that have no such lot -/
def shortL (c : Nat) : List Int := List.replicate (c - 1) 0 ++ List.replicate (c - 1) 1
theorem shortNone {c : Nat} (h0 : 1 ≤ c) (h4 : c ≤ 4) : ∀ ls ∈ chosenL (shortL c) c, ls.sum % (c : Int) ≠ 0 := by
  have : c = 1 ∨ c = 2 ∨ c = 3 ∨ c = 4 := by omega
  rcases this with rfl | rfl | rfl | rfl <;> decide
end
section
/-- of three ints two leave the same by two -/
theorem twoAgree {xs : List Int} (h : 3 ≤ xs.length) : ∃ a b, b < a ∧ a < xs.length ∧ ∃ x y, xs[a]? = some x ∧ xs[b]? = some y ∧ (x + y) % 2 = 0 := by
  obtain ⟨x, y, z, r, rfl⟩ : ∃ x y z r, xs = x :: y :: z :: r := by
    match xs, h with
    | x :: y :: z :: r, _ => exact ⟨x, y, z, r, rfl⟩
  by_cases h1 : (y + x) % 2 = 0
  · exact ⟨1, 0, by decide, by simp, y, x, rfl, rfl, h1⟩
  · by_cases h2 : (z + x) % 2 = 0
    · exact ⟨2, 0, by decide, by simp, z, x, rfl, rfl, h2⟩
    · exact ⟨2, 1, by decide, by simp, z, y, rfl, rfl, by omega⟩
/-- the places that stay -/
def stayP (n a b : Nat) : List Nat := (List.range n).filter fun k => !(k == a || k == b)
theorem stayLen {n a b : Nat} (hn : n ≤ 7) (ha : a < n) (hb : b < a) : (stayP n a b).length = n - 2 := by
  have h : ∀ n a b : Fin 8, b.1 < a.1 → a.1 < n.1 → (stayP n.1 a.1 b.1).length = n.1 - 2 := by decide +kernel
  exact h ⟨n, by omega⟩ ⟨a, by omega⟩ ⟨b, by omega⟩ hb ha
theorem staySucc {n a b : Nat} : stayP (n + 1) a b = if n = a ∨ n = b then stayP n a b else stayP n a b ++ [n] := by
  unfold stayP
  rw [List.range_succ, List.filter_append]
  by_cases h : n = a ∨ n = b
  · rw [if_pos h]
    have e : (List.filter (fun k => !(k == a || k == b)) [n]) = [] := List.filter_eq_nil_iff.mpr fun k hk => by
      rw [List.mem_singleton.mp hk]
      rcases h with rfl | rfl <;> simp
    rw [e, List.append_nil]
  · rw [if_neg h]
    have e : (List.filter (fun k => !(k == a || k == b)) [n]) = [n] := List.filter_eq_self.mpr fun k hk => by
      rw [List.mem_singleton.mp hk]
      simp only [Bool.not_eq_true', Bool.or_eq_false_iff, beq_eq_false_iff_ne]
      exact ⟨fun e => h (.inl e), fun e => h (.inr e)⟩
    rw [e]
theorem stayLt {n a b k : Nat} (h : k ∈ stayP n a b) : k < n := List.mem_range.mp (List.mem_filter.mp h).1
/-- two lots whose halves agree leave nothing by four -/
theorem halves4 {s t : Int} (hs : s % 2 = 0) (ht : t % 2 = 0) (h : (s.fdiv 2 + t.fdiv 2) % 2 = 0) : (s + t) % 4 = 0 := by
  rw [Int.fdiv_eq_ediv_of_nonneg _ (by decide), Int.fdiv_eq_ediv_of_nonneg _ (by decide)] at h
  omega
end
section
theorem offMain {h₀ h : Heap} {L : Addr} {led H CC LS T : List (Addr × Obj)} (N : News h₀ L h led) (hH : ∀ p ∈ H, p ∈ led) (hC : ∀ p ∈ CC, p ∈ led) (hL : ∀ p ∈ LS, p ∈ led) (hT : ∀ p ∈ T, p ∈ led)
    (tH : ∀ p ∈ H, tag p.2 = 1) (tC : ∀ p ∈ CC, tag p.2 = 3) (tL : ∀ p ∈ LS, tag p.2 = 1) (tT : ∀ p ∈ T, tag p.2 = 0) (hne : Off H LS) : Off (H ++ T) (CC ++ LS) := by
  refine Off.appL (Off.appR ?_ hne) (Off.appR ?_ ?_)
  · exact offTag N hH hC fun p hp q hq => by rw [tH p hp, tC q hq]; decide
  · exact offTag N hT hC fun p hp q hq => by rw [tT p hp, tC q hq]; decide
  · exact offTag N hT hL fun p hp q hq => by rw [tT p hp, tL q hq]; decide
theorem tagAll {n : Nat} {xs : List (Addr × Obj)} (h : (xs.all fun p => tag p.2 == n) = true) : ∀ p ∈ xs, tag p.2 = n := fun p hp => by simpa using List.all_eq_true.mp h p hp
theorem off1 {a b : Addr} {x y : Obj} (h : a ≠ b) : Off [(a, x)] [(b, y)] := fun p hp q hq => by rw [List.mem_singleton.mp hp, List.mem_singleton.mp hq]; exact h
end
section
/-- a value that reads as plain data, wherever the ledger stands -/
def Plain (T : List (Addr × Obj)) (v : Value) : Prop := ∃ d : PyData, d.canLay0 = true ∧ d.depth ≤ 8 ∧ ∀ (h₀ h : Heap) (L : Addr), News h₀ L h T → ∃ as, Reads h v d as
theorem Plain.mono {T T' : List (Addr × Obj)} {v : Value} (h : Plain T v) (hs : ∀ p ∈ T, p ∈ T') : Plain T' v := by
  obtain ⟨d, h1, h2, h3⟩ := h
  exact ⟨d, h1, h2, fun h₀ h L N => h3 h₀ h L (newsSub N hs)⟩
theorem readsInts {h : Heap} : ∀ {vs : List Value} {ns : List Int}, IntsAre vs ns → ReadsAll h vs (ns.map PyData.int) []
  | _, _, .nil => .nil
  | _, _, .cons n t r => .cons (.int n t) (readsInts r)
theorem Plain.ints {T : List (Addr × Obj)} {a : Addr} {us : List Value} {ls : List Int} {e : Nat} (hm : (a, listOf us.toArray e) ∈ T) (hI : IntsAre us ls) : Plain T (.ref a) := by
  refine ⟨.list (ls.map PyData.int), ?_, ?_, fun h₀ h L N => ⟨_, reads_list_at (N _ hm).1 rfl rfl (by simpa using readsInts hI)⟩⟩
  · rw [PyData.canLay0]; exact ke_canLayAll0 ls
  · rw [PyData.depth, ke_depthAll]; decide
theorem Plain.pair {T : List (Addr × Obj)} {l : Addr} {a b : Int} {t u : Tok} {n : Nat} (hm : (l, tupObj [.int a t, .int b u] n) ∈ T) : Plain T (.ref l) := by
  refine ⟨.tuple [.int a, .int b], rfl, by simp [PyData.depth, PyData.depthAll], fun h₀ h L N => ⟨_, reads_tuple_at (N _ hm).1 rfl rfl (.cons (.int a t) (.cons (.int b u) .nil))⟩⟩
theorem Plain.all {T : List (Addr × Obj)} : ∀ {ys : List Value}, (∀ v ∈ ys, Plain T v) → ∃ ds : List PyData, PyData.canLayAll0 ds = true ∧ PyData.depthAll ds ≤ 8 ∧ (ds = [] ↔ ys = []) ∧ ∀ (h₀ h : Heap) (L : Addr), News h₀ L h T → ∃ as, ReadsAll h ys ds as
  | [], _ => ⟨[], rfl, by decide, by simp, fun _ _ _ _ => ⟨_, .nil⟩⟩
  | y :: ys, hp => by
    obtain ⟨d, h1, h2, h3⟩ := hp y (.head _)
    obtain ⟨ds, g1, g2, _, g4⟩ := Plain.all fun v hv => hp v (.tail _ hv)
    refine ⟨d :: ds, ?_, ?_, by simp, fun h₀ h L N => ?_⟩
    · rw [PyData.canLayAll0, h1, g1]; rfl
    · rw [PyData.depthAll]; exact Nat.max_le.mpr ⟨h2, g2⟩
    · obtain ⟨as, r⟩ := h3 h₀ h L N
      obtain ⟨bs, rs⟩ := g4 h₀ h L N
      exact ⟨_, .cons r rs⟩
section
variable {prog : Program} {w : World} {A : Around} {E : Value → Shared → Prop} {s : Shared} {h₀ : Heap} {L a b : Addr} {T : List (Addr × Obj)} {ys : List Value} {e e' : Nat} {Q : Value → Shared → Prop}
theorem sameNil (ds : List PyData) : PySem.Spec.same (.list ds) (.list []) = decide (ds = []) := by
  cases ds <;> simp [PySem.Spec.same, PySem.Spec.sameAll]
theorem eqNilG (N : News h₀ L s.heap T) (ha : (a, listOf ys.toArray e) ∈ T) (hb : (b, listOf [].toArray e') ∈ T) (hp : ∀ v ∈ ys, Plain T v) (hu : A.units + 64 < cLine) (h : Q (.bool (decide (ys = []))) s) :
    wpAny (model prog w) A (compareOp .Eq (.ref a) (.ref b)) Q E s := by
  obtain ⟨ds, h1, h2, h3, h4⟩ := Plain.all hp
  obtain ⟨as, r⟩ := h4 _ _ _ N
  refine eq_dataH_same (reads_list_at (N _ ha).1 rfl rfl (by simpa using r)) (reads_list_at (N _ hb).1 rfl rfl (by simpa using (.nil : ReadsAll s.heap [] [] []))) ?_ (by decide) hu ?_ ?_
  · unfold SeqAt.shaped
    rw [PyData.canLay0, PyData.depth, h1, Bool.true_and, decide_eq_true_eq]; omega
  · cases ds <;> rfl
  · rw [sameNil, show decide (ds = []) = decide (ys = []) from decide_eq_decide.mpr h3]; exact h
theorem neNilG (N : News h₀ L s.heap T) (ha : (a, listOf ys.toArray e) ∈ T) (hb : (b, listOf [].toArray e') ∈ T) (hp : ∀ v ∈ ys, Plain T v) (hu : A.units + 64 < cLine) (h : Q (.bool (!decide (ys = []))) s) :
    wpAny (model prog w) A (compareOp .NotEq (.ref a) (.ref b)) Q E s := by
  obtain ⟨ds, h1, h2, h3, h4⟩ := Plain.all hp
  obtain ⟨as, r⟩ := h4 _ _ _ N
  refine ne_dataH_same (reads_list_at (N _ ha).1 rfl rfl (by simpa using r)) (reads_list_at (N _ hb).1 rfl rfl (by simpa using (.nil : ReadsAll s.heap [] [] []))) ?_ (by decide) hu ?_ ?_
  · unfold SeqAt.shaped
    rw [PyData.canLay0, PyData.depth, h1, Bool.true_and, decide_eq_true_eq]; omega
  · cases ds <;> rfl
  · rw [sameNil, show decide (ds = []) = decide (ys = []) from decide_eq_decide.mpr h3]; exact h
end
end
section
theorem intsApp2 : ∀ {vs us : List Value} {ns ms : List Int}, IntsAre vs ns → IntsAre us ms → IntsAre (vs ++ us) (ns ++ ms)
  | _, _, _, _, .nil, h => h
  | _, _, _, _, .cons y t h, h' => .cons y t (intsApp2 h h')
/-- neither tables nor cells -/
def Lay (T : List (Addr × Obj)) : Prop := ∀ p ∈ T, tag p.2 ≠ 0 ∧ tag p.2 ≠ 3
theorem Lay.nil : Lay [] := fun _ h => nomatch h
theorem Lay.list {T : List (Addr × Obj)} {a : Addr} {vs : List Value} {e : Nat} (h : Lay T) : Lay ((a, listOf vs.toArray e) :: T) := List.forall_mem_cons.mpr ⟨⟨fun h => Nat.noConfusion (show (1 : Nat) = 0 from h), fun h => absurd (show (1 : Nat) = 3 from h) (by decide)⟩, h⟩
theorem Lay.tup {T : List (Addr × Obj)} {a : Addr} {vs : List Value} {e : Nat} (h : Lay T) : Lay ((a, tupObj vs e) :: T) := List.forall_mem_cons.mpr ⟨⟨fun h => Nat.noConfusion (show (2 : Nat) = 0 from h), fun h => absurd (show (2 : Nat) = 3 from h) (by decide)⟩, h⟩
theorem Lay.no0 {T : List (Addr × Obj)} (h : Lay T) : ∀ p ∈ T, tag p.2 ≠ 0 := fun p hp => (h p hp).1
theorem off4 {O own TL T T' X : List (Addr × Obj)} (off : Off O (own ++ (TL ++ T))) (D : Off T' X) (hs : ∀ p ∈ O, p ∈ X) : Off O (own ++ (TL ++ T')) := fun p hp q hq => by
  rcases List.mem_append.mp hq with h | h
  · exact off p hp q (List.mem_append_left _ h)
  · rcases List.mem_append.mp h with h | h
    · exact off p hp q (List.mem_append_right _ (List.mem_append_left _ h))
    · exact (D q h p (hs p hp)).symm
theorem off4put {O own TL T : List (Addr × Obj)} {l : Addr} {o : Obj} (off : Off O (own ++ (TL ++ T))) (hl : ∀ p ∈ O, p.1 ≠ l) : Off O (own ++ (((l, o) :: TL) ++ T)) := fun p hp q hq => by
  rcases List.mem_append.mp hq with h | h
  · exact off p hp q (List.mem_append_left _ h)
  · rcases List.mem_cons.mp h with rfl | h
    · exact hl p hp
    · exact off p hp q (List.mem_append_right _ h)
/-- the tables are off what a comprehension of two clauses and the law made -/
theorem offDiv4 {h₀ h : Heap} {L : Addr} {O own TL T : List (Addr × Obj)} (off : Off O (own ++ (TL ++ T))) (N : News h₀ L h (O ++ (own ++ (TL ++ T)))) (hT : ∀ p ∈ T, tag p.2 = 0) (ho : ∀ p ∈ own, tag p.2 ≠ 0) (hL : ∀ p ∈ TL, tag p.2 ≠ 0) :
    Off T ((O ++ own) ++ TL) := by
  have mT : ∀ p ∈ T, p ∈ own ++ (TL ++ T) := fun p hp => List.mem_append_right _ (List.mem_append_right _ hp)
  refine Off.appR (Off.appR (fun p hp q hq => (off q hq p (mT p hp)).symm) ?_) ?_
  · exact offTag0 N (fun p hp => List.mem_append_right _ (mT p hp)) (fun p hp => List.mem_append_right _ (List.mem_append_left _ hp)) hT ho
  · exact offTag0 N (fun p hp => List.mem_append_right _ (mT p hp)) (fun p hp => List.mem_append_right _ (List.mem_append_right _ (List.mem_append_left _ hp))) hT hL
/-- what is no cell stands off a cell -/
theorem cellOff {n : Nat} {h₀ h : Heap} {L c : Addr} {o : Obj} {led xs : List (Addr × Obj)} (N : News h₀ L h led) (hc : (c, o) ∈ led) (ho : tag o = n) (hx : ∀ p ∈ xs, p ∈ led) (ht : ∀ p ∈ xs, tag p.2 ≠ n) : ∀ p ∈ xs, p.1 ≠ c := fun p hp => tagNe N (hx p hp) hc (by rw [ho]; exact ht p hp)
theorem Lay.no3 {T : List (Addr × Obj)} (h : Lay T) : ∀ p ∈ T, tag p.2 ≠ 3 := fun p hp => (h p hp).2
theorem no3 {n k : Nat} {xs : List (Addr × Obj)} (h : ∀ p ∈ xs, tag p.2 = n) (hn : n ≠ k) : ∀ p ∈ xs, tag p.2 ≠ k := fun p hp => by rw [h p hp]; exact hn
theorem midTL {α : Type} {own TL T : List α} : ∀ p ∈ TL, p ∈ own ++ (TL ++ T) := fun _ hp => List.mem_append_right _ (List.mem_append_left _ hp)
theorem midT2 {α : Type} {own TL T U : List α} : ∀ p ∈ T, p ∈ own ++ (TL ++ (T ++ U)) := fun _ hp => List.mem_append_right _ (List.mem_append_right _ (List.mem_append_left _ hp))
theorem midT3 {α : Type} {own TL T U : List α} : ∀ p ∈ U, p ∈ own ++ (TL ++ (T ++ U)) := fun _ hp => List.mem_append_right _ (List.mem_append_right _ (List.mem_append_right _ hp))
theorem halfSum {s : Int} (h0 : 0 ≤ s) (h8 : s ≤ 8) : 0 ≤ s.fdiv 2 ∧ s.fdiv 2 ≤ 4 := by
  rw [Int.fdiv_eq_ediv_of_nonneg _ (by decide)]; omega
theorem lotSum4 {lots : List (List Int)} (hev : ∀ ls ∈ lots, ∃ x y, ls = [x, y] ∧ 0 ≤ x ∧ x < 4 ∧ 0 ≤ y ∧ y < 4 ∧ (x + y) % 2 = 0) {ls : List Int} (h : ls ∈ lots) : ls.length = 2 ∧ 0 ≤ ls.sum ∧ ls.sum ≤ 8 ∧ ls.sum % 2 = 0 := by
  obtain ⟨x, y, rfl, h1, h2, h3, h4, h5⟩ := hev ls h
  refine ⟨rfl, ?_⟩
  simp only [List.sum_cons, List.sum_nil]
  omega
theorem intsAt {vs : List Value} {ns : List Int} {i : Nat} (h : IntsAre vs ns) (hi : i < ns.length) : ∃ d t, ns[i]? = some d ∧ vs[i]? = some (.int d t) := by
  obtain ⟨t, ht⟩ := h.get i ns[i] (List.getElem?_eq_getElem hi)
  exact ⟨_, t, List.getElem?_eq_getElem hi, ht⟩
theorem getDAt {ns : List Int} {i : Nat} {x : Int} (h : ns[i]? = some x) : ns.getD (i : Int).toNat 0 = x := by
  rw [Int.toNat_natCast, List.getD_eq_getElem?_getD, h, Option.getD_some]
/-- two of the list whose sum is even -/
def EvenAt (xs : List Int) (a b : Nat) : Prop := ∃ x y, xs[a]? = some x ∧ xs[b]? = some y ∧ (x + y) % 2 = 0
theorem sum4 {lots : List (List Int)} {hs : List Int} (hev : ∀ ls ∈ lots, ∃ x y, ls = [x, y] ∧ 0 ≤ x ∧ x < 4 ∧ 0 ≤ y ∧ y < 4 ∧ (x + y) % 2 = 0) (hhs : hs = lots.map fun l => l.sum.fdiv 2) {a b : Nat} (ha : a < lots.length) (hb : b < lots.length) (h : EvenAt hs a b) :
    0 ≤ (lots[a] ++ lots[b]).sum ∧ (lots[a] ++ lots[b]).sum ≤ 16 ∧ (lots[a] ++ lots[b]).sum.fmod 4 = 0 ∧ (lots[a] ++ lots[b]).length = 4 := by
  obtain ⟨x, y, h1, h2, h3⟩ := h
  have z1 := lotSum4 hev (List.getElem_mem ha)
  have z2 := lotSum4 hev (List.getElem_mem hb)
  rw [hhs, List.getElem?_map, List.getElem?_eq_getElem ha] at h1
  rw [hhs, List.getElem?_map, List.getElem?_eq_getElem hb] at h2
  obtain rfl : lots[a].sum.fdiv 2 = x := by simpa using h1
  obtain rfl : lots[b].sum.fdiv 2 = y := by simpa using h2
  rw [List.sum_append, List.length_append, Int.fmod_eq_emod_of_nonneg _ (by decide)]
  exact ⟨by omega, by omega, halves4 z1.2.2.2 z2.2.2.2 h3, by omega⟩
theorem subRot2 {α : Type} {own own' TL T : List α} (h : ∀ p ∈ own', p ∈ own) : ∀ p ∈ T ++ own', p ∈ own ++ (TL ++ T) := fun p hp =>
  (List.mem_append.mp hp).elim (fun h => List.mem_append_right _ (List.mem_append_right _ h)) fun hp => List.mem_append_left _ (h p hp)
theorem subMid2 {α : Type} {own own' TL TL' T : List α} (h : ∀ p ∈ own', p ∈ own) (h2 : ∀ p ∈ TL', p ∈ TL) : ∀ p ∈ own' ++ (TL' ++ T), p ∈ own ++ (TL ++ T) := fun p hp => by
  rcases List.mem_append.mp hp with hp | hp
  · exact List.mem_append_left _ (h p hp)
  · rcases List.mem_append.mp hp with hp | hp
    · exact List.mem_append_right _ (List.mem_append_left _ (h2 p hp))
    · exact List.mem_append_right _ (List.mem_append_right _ hp)
section
variable {prog : Program} {w : World} {A : Around} {E : Value → Shared → Prop} {s : Shared} {h₀ : Heap} {L : Addr} {m : Str → Option Value}
theorem appendG {l : Addr} {vs : List Value} {c : Nat} {y : Value} {rest : List (Addr × Obj)} {Q : Value → Shared → Prop} (F : Fr h₀ L s.heap m) (N : News h₀ L s.heap ((l, listOf vs.toArray c) :: rest)) (hne : ∀ q ∈ rest, q.1 ≠ l) (hz : vs.length ≤ 1000)
    (h : ∀ h', Fr h₀ L h' m → News h₀ L h' ((l, listOf (vs ++ [y]).toArray (c + 1)) :: rest) → Q .none { s with heap := h' }) :
    wpAny (model prog w) A (call (.builtin "list.append") [.ref l, y]) Q E s := by
  have z := N _ (.head _)
  refine append_at (hsz := by rw [sizeLine_eq, List.size_toArray]; exact Nat.le_trans hz (by decide)) z.1 fun h' hs hD => h h' (F.change hs z.2.1 z.2.2) fun p hp => ?_
  rcases List.mem_cons.mp hp with rfl | hp
  · exact ⟨by rw [hD, List.push_toArray], z.2⟩
  · have y := N p (.tail _ hp)
    exact ⟨hs.extBut _ _ (hne p hp) y.1, y.2⟩
end
theorem notIn2 {i a b : Nat} (h : i = a ∨ i = b) : (!([(a : Int), (b : Int)].any (· == (i : Int)))) = false := by
  rcases h with rfl | rfl <;> simp
theorem isIn2 {i a b : Nat} (h : ¬(i = a ∨ i = b)) : (!([(a : Int), (b : Int)].any (· == (i : Int)))) = true := by
  have h1 : i ≠ a := fun e => h (.inl e)
  have h2 : i ≠ b := fun e => h (.inr e)
  simp
  omega
/-- what stays of the numbers -/
def stayXs (xs : List Int) (n a b : Nat) : List Int := (stayP n a b).map fun k => xs.getD k 0
theorem stayPut {xs : List Int} {n a b : Nat} {x : Int} {ys : List Value} {t : Tok} (h : IntsAre ys (stayXs xs n a b)) (hx : xs[n]? = some x) (ha : n ≠ a) (hb : n ≠ b) : IntsAre (ys ++ [.int x t]) (stayXs xs (n + 1) a b) := by
  unfold stayXs
  rw [staySucc, if_neg (fun h => h.elim ha hb), List.map_append, List.map_singleton, List.getD_eq_getElem?_getD, hx, Option.getD_some]
  exact intsApp2 h (.cons _ _ .nil)
theorem staySkip {xs : List Int} {n a b : Nat} {ys : List Value} (h : IntsAre ys (stayXs xs n a b)) (hab : n = a ∨ n = b) : IntsAre ys (stayXs xs (n + 1) a b) := by
  unfold stayXs
  rw [staySucc, if_pos hab]
  exact h
theorem stayXsLen {xs : List Int} {a b : Nat} (hn : xs.length ≤ 7) (ha : a < xs.length) (hb : b < a) : (stayXs xs xs.length a b).length = xs.length - 2 := by
  unfold stayXs
  rw [List.length_map, stayLen hn ha hb]
theorem stayXsIn {xs : List Int} {a b : Nat} : ∀ x ∈ stayXs xs xs.length a b, x ∈ xs := fun x hx => by
  obtain ⟨k, hk, rfl⟩ := List.mem_map.mp hx
  have := stayLt hk
  rw [List.getD_eq_getElem?_getD, List.getElem?_eq_getElem this, Option.getD_some]
  exact List.getElem_mem this
theorem evPut {lots : List (List Int)} {x y : Int} (hev : ∀ ls ∈ lots, ∃ x y, ls = [x, y] ∧ 0 ≤ x ∧ x < 4 ∧ 0 ≤ y ∧ y < 4 ∧ (x + y) % 2 = 0) (hx : 0 ≤ x ∧ x < 4) (hy : 0 ≤ y ∧ y < 4) (h : (x + y) % 2 = 0) : ∀ ls ∈ lots ++ [[x, y]], ∃ x y, ls = [x, y] ∧ 0 ≤ x ∧ x < 4 ∧ 0 ≤ y ∧ y < 4 ∧ (x + y) % 2 = 0 := fun ls hl =>
  (List.mem_append.mp hl).elim (hev ls) fun hl => ⟨x, y, List.mem_singleton.mp hl, hx.1, hx.2, hy.1, hy.2, h⟩
/-- the pairs, as far as the comprehension has come -/
def PairsJ (xs : List Int) (TL : List (Addr × Obj)) (i j : Nat) (ys : List Value) : Prop :=
  (ys.length ≤ 8 * i + j ∧ i ≤ 8 ∧ j ≤ i) ∧ (∀ v ∈ ys, ∃ (l : Addr) (a b : Nat) (t u : Tok) (e : Nat), v = .ref l ∧ (l, tupObj [.int a t, .int b u] e) ∈ TL ∧ b < a ∧ EvenAt xs a b) ∧
    ∀ a b, b < a → a < i ∨ (a = i ∧ b < j) → EvenAt xs a b → ys ≠ []
section
variable {xs : List Int} {TL TL' : List (Addr × Obj)} {i j : Nat} {ys : List Value}
theorem pairsNil : PairsJ xs TL 0 0 [] := ⟨⟨Nat.le_refl _, Nat.zero_le _, Nat.le_refl _⟩, (fun _ h => nomatch h), fun a b h1 h2 _ => by omega⟩
theorem pairsOut (h : PairsJ xs TL i i ys) (hi : i < 8) : PairsJ xs TL (i + 1) 0 ys :=
  ⟨⟨by have := h.1; omega, hi, Nat.zero_le _⟩, h.2.1, fun a b h1 h2 => h.2.2 a b h1 (by omega)⟩
theorem pairsPut {l : Addr} {t u : Tok} {e : Nat} {x y : Int} (h : PairsJ xs TL i j ys) (hj : j < i) (hx : xs[i]? = some x) (hy : xs[j]? = some y) (e0 : (x + y).fmod 2 = 0) :
    PairsJ xs ((l, tupObj [.int i t, .int j u] e) :: TL) i (j + 1) (ys ++ [.ref l]) := by
  refine ⟨⟨by rw [List.length_append]; have := h.1; simp; omega, h.1.2.1, hj⟩, fun v hv => ?_, fun _ _ _ _ _ => by simp⟩
  rcases List.mem_append.mp hv with hv | hv
  · obtain ⟨l', a, b, t', u', e', r1, r2, r3⟩ := h.2.1 v hv
    exact ⟨l', a, b, t', u', e', r1, List.mem_cons_of_mem _ r2, r3⟩
  · rw [Int.fmod_eq_emod_of_nonneg _ (by decide)] at e0
    exact ⟨l, i, j, t, u, e, List.mem_singleton.mp hv, .head _, hj, x, y, hx, hy, e0⟩
theorem pairsSkip {x y : Int} (h : PairsJ xs TL i j ys) (hj : j < i) (hx : xs[i]? = some x) (hy : xs[j]? = some y) (e0 : (x + y).fmod 2 ≠ 0) : PairsJ xs TL i (j + 1) ys := by
  refine ⟨⟨by have := h.1; omega, h.1.2.1, hj⟩, h.2.1, fun a b h1 h2 h3 => ?_⟩
  rcases h2 with h2 | ⟨rfl, h2⟩
  · exact h.2.2 a b h1 (.inl h2) h3
  · by_cases hb : b = j
    · subst hb
      obtain ⟨x', y', e1, e2, e3⟩ := h3
      rw [hx] at e1; rw [hy] at e2
      cases e1; cases e2
      rw [Int.fmod_eq_emod_of_nonneg _ (by decide)] at e0
      exact absurd e3 e0
    · exact h.2.2 a b h1 (.inr ⟨rfl, by omega⟩) h3
theorem pairsLen (h : PairsJ xs TL i j ys) : ys.length ≤ sizeLine := by
  rw [sizeLine_eq]
  have := h.1
  exact Nat.le_trans h.1.1 (by omega)
/-- .. with the ledger -/
def PairsB (TG TL T2 T3 : List (Addr × Obj)) (xs : List Int) (i j : Nat) (ys : List Value) : Prop :=
  (∀ p ∈ TG, p ∈ TL) ∧ Lay TL ∧ Tab 30 32 4 qI2 T2 ∧ Tab 37 47 4 qI3 T3 ∧ Off T2 T3 ∧ PairsJ xs TL i j ys
def PairsL (own TG : List (Addr × Obj)) (xs : List Int) (i j : Nat) (ys : List Value) (nw : List (Addr × Obj)) : Prop :=
  ∃ TL T2 T3, nw = own ++ (TL ++ (T2 ++ T3)) ∧ PairsB TG TL T2 T3 xs i j ys
theorem PairsL.len {own TG nw : List (Addr × Obj)} (h : PairsL own TG xs i j ys nw) : ys.length ≤ sizeLine := by
  obtain ⟨_, _, _, _, _, _, _, _, _, h⟩ := h
  exact pairsLen h
theorem PairsL.out {own TG nw : List (Addr × Obj)} (h : PairsL own TG xs i i ys nw) (hi : i < 8) : PairsL own TG xs (i + 1) 0 ys nw := by
  obtain ⟨TL, T2, T3, h1, h2, h3, h4, h5, h6, h⟩ := h
  exact ⟨TL, T2, T3, h1, h2, h3, h4, h5, h6, pairsOut h hi⟩
theorem pairsHead (h : PairsJ xs TL xs.length 0 ys) (hl : 3 ≤ xs.length) : ∃ (l : Addr) (a b : Nat) (t u : Tok) (e : Nat) (zs : List Value), ys = .ref l :: zs ∧ (l, tupObj [.int a t, .int b u] e) ∈ TL ∧ b < a ∧ a < xs.length ∧ EvenAt xs a b := by
  obtain ⟨a, b, h1, h2, h3⟩ := twoAgree hl
  match ys, h, h.2.2 a b h1 (.inl h2) h3 with
  | v :: zs, h, _ =>
    obtain ⟨l, a, b, t, u, e, rfl, r1, r2, r3⟩ := h.2.1 v (.head _)
    have ha : a < xs.length := by obtain ⟨x, y, r4, _⟩ := r3; exact (List.getElem?_eq_some_iff.mp r4).1
    exact ⟨l, a, b, t, u, e, zs, rfl, r1, r2, ha, r3⟩
theorem pairsPlain (h : PairsJ xs TL i j ys) : ∀ v ∈ ys, Plain TL v := fun v hv => by
  obtain ⟨l, a, b, t, u, e, rfl, r1, _⟩ := h.2.1 v hv
  exact Plain.pair r1
end
end
section
section
variable {prog : Program} {w : World} {A : Around} {s₁ : Shared} {h₀ : Heap} {L : Addr} {m : Str → Option Value} {env : Env}
theorem pairsOuter {elt i2 : PySem.Expr} {x1 x2 : Str} {ifs : List PySem.Expr} {scope : Scope} {cl : List (Str × Addr)} {Fin : Shared → List Value → List (Addr × Obj) → Prop} {r : Addr} {nm : Int} {t u v : Tok} {n : Nat} {own TG T2 T3 news : List (Addr × Obj)} {xs : List Int}
    (hr : IsRange s₁.heap r 0 nm 1 t u v) (F : Fr h₀ L s₁.heap m) (N : News h₀ L s₁.heap news) (hsub : ∀ p ∈ own ++ (TG ++ (T2 ++ T3)), p ∈ news)
    (hnm : nm = (n : Int)) (hn : n ≤ 7) (hh : A.handled = none) (hTG : Lay TG) (h2 : Tab 30 32 4 qI2 T2) (h3 : Tab 37 47 4 qI3 T3) (hO : Off T2 T3)
    (fin : ∀ g ys TL U2 U3, PairsB TG TL U2 U3 xs n 0 ys → Fin { s₁ with heap := g } ys (own ++ (TL ++ (U2 ++ U3))))
    (turn : ∀ i ta I oI C oC D m₂ h tk ys TL U2 U3 (E' : Value → Shared → Prop), i < n → m₂ x1 = some (.int (i : Nat) ta) → LCg.NsObj oC m₂ → PairsB TG TL U2 U3 xs i 0 ys → Fr h₀ L h m → News h₀ L h ((I, oI) :: (C, oC) :: (D, LCg.lst ys) :: (own ++ (TL ++ (U2 ++ U3)))) →
      Off [(I, oI), (C, oC), (D, LCg.lst ys)] (own ++ (TL ++ (U2 ++ U3))) →
      wpAny (model prog w) A (eval i2 (compEnvC scope cl C env)) (Comp2In prog w A h₀ L m env elt x1 x2 ifs scope cl s₁ (.int (i : Nat) ta) I oI C oC D ys (PairsL own TG xs (i + 1) 0)) E' { s₁ with heap := h, toks := tk }) :
    Comp2 prog w A h₀ L m env elt i2 x1 x2 ifs scope cl Fin (.ref r) s₁ := by
  subst hnm
  refine ⟨_, n, _, _, F, newsSub N hsub, Src.range (n := n) hh (by rw [sizeLine_eq]; exact Nat.le_trans hn (by decide)) hr (small_one (by omega) (by omega) (by omega) (by omega)) (rangeSize_k (by omega)), fun i ys nw => PairsL own TG xs i 0 ys nw, ⟨TG, T2, T3, rfl, (fun _ h => h), hTG, h2, h3, hO, pairsNil⟩, (fun i ys nw h => ⟨trivial, h.len⟩), ?_, ?_⟩
  · rintro g ys nw ⟨TL, U2, U3, rfl, hB⟩
    exact fin g ys TL U2 U3 hB
  · rintro i v1 I oI C oC D m₂ h tk ys nw E' hi ⟨ta, rfl⟩ ⟨TL, U2, U3, rfl, hB⟩ hC hx F' N' off ne
    rw [Int.zero_add] at hx ⊢
    exact turn i ta I oI C oC D m₂ h tk ys TL U2 U3 E' hi hx hC hB F' N' off
theorem pairsInner {elt : PySem.Expr} {x1 x2 : Str} {ifs : List PySem.Expr} {scope : Scope} {cl : List (Str × Addr)} {r : Addr} {nm : Int} {t u v ta : Tok} {i : Nat} {own TG TL U2 U3 news : List (Addr × Obj)} {xs : List Int} {vs ys₀ : List Value} {I C D : Addr} {oI oC : Obj} {h' : Heap} {tk' : Nat}
    (hr : IsRange h' r 0 nm 1 t u v) (F : Fr h₀ L h' m) (N : News h₀ L h' news) (hsub : ∀ p ∈ (I, oI) :: (C, oC) :: (D, LCg.lst ys₀) :: (own ++ (TL ++ (U2 ++ U3))), p ∈ news) (off : Off [(I, oI), (C, oC), (D, LCg.lst ys₀)] (own ++ (TL ++ (U2 ++ U3))))
    (hnm : nm = (i : Int)) (hi : i < xs.length) (hn : xs.length ≤ 7) (hh : A.handled = none) (hI : IntsAre vs xs) (hbd : ∀ x ∈ xs, 0 ≤ x ∧ x ≤ 4) (hown : ∀ p ∈ own, tag p.2 ≠ 0) (hB : PairsB TG TL U2 U3 xs i 0 ys₀)
    (turn : ∀ j tb x y tx ty I2 oI2 C2 m3 h tk ys TL T2 T3 (E' : Value → Shared → Prop), j < i → m3 x1 = some (.int (i : Nat) ta) → m3 x2 = some (.int (j : Nat) tb) → LCg.NsObj C2 m3 → xs[i]? = some x → xs[j]? = some y → vs[i]? = some (.int x tx) → vs[j]? = some (.int y ty) → Builtin.Int.intBits (x + y) ≤ 2 ^ 21 →
      PairsB TG TL T2 T3 xs i j ys → Tab 30 32 4 qI2 T2 → Tab 37 47 4 qI3 T3 → Off T2 T3 → Fr h₀ L h m → News h₀ L h ((I2, oI2) :: (C, C2) :: (D, LCg.lst ys) :: (I, oI) :: (own ++ (TL ++ (T2 ++ T3)))) →
      Off [(I2, oI2), (C, C2), (D, LCg.lst ys), (I, oI)] (own ++ (TL ++ (T2 ++ T3))) → Off (T2 ++ T3) (([(I2, oI2), (C, C2), (D, LCg.lst ys), (I, oI)] ++ own) ++ TL) →
      wpAny (model prog w) A (tst ifs (compEnvC scope cl C env)) (fun ok s' => if ok = true then
        wpAny (model prog w) A (eval elt (compEnvC scope cl C env)) (CEnd h₀ L m [(I2, oI2), (C, C2), (D, LCg.lst ys), (I, oI)] s₁ (fun y nw => PairsL own TG xs i (j + 1) (ys ++ [y]) nw)) E' s'
        else CEnd h₀ L m [(I2, oI2), (C, C2), (D, LCg.lst ys), (I, oI)] s₁ (fun _ nw => PairsL own TG xs i (j + 1) ys nw) .none s') E' { s₁ with heap := h, toks := tk }) :
    Comp2In prog w A h₀ L m env elt x1 x2 ifs scope cl s₁ (.int (i : Nat) ta) I oI C oC D ys₀ (PairsL own TG xs (i + 1) 0) (.ref r) { s₁ with heap := h', toks := tk' } := by
  subst hnm
  refine ⟨_, _, own ++ (TL ++ (U2 ++ U3)), i, _, _, rfl, F, newsSub N hsub, off, Src.range (n := i) hh (by rw [sizeLine_eq]; omega) hr (small_one (by omega) (by omega) (by omega) (by omega)) (rangeSize_k (by omega)), fun j ys nw => PairsL own TG xs i j ys nw, ⟨TL, U2, U3, rfl, hB⟩, (fun j ys nw h => ⟨trivial, h.len⟩), (fun ys nw h => h.out (by omega)), ?_⟩
  rintro j v2 I2 oI2 C2 m3 h tk ys nw E3 hj ⟨tb, rfl⟩ ⟨TL, T2, T3, rfl, hB⟩ hC2 hqa hqb F12 N12 off12 ne12
  rw [Int.zero_add] at hqb
  obtain ⟨x, tx, hax, hvx⟩ := intsAt hI hi
  obtain ⟨y, ty, hay, hvy⟩ := intsAt hI (i := j) (by omega)
  have hbx := hbd x (List.mem_of_getElem? hax)
  have hby := hbd y (List.mem_of_getElem? hay)
  obtain ⟨hs, hL, h2, h3, hO, hJ⟩ := hB
  exact turn j tb x y tx ty I2 oI2 C2 m3 h tk ys TL T2 T3 E3 hj hqa hqb hC2 hax hay hvx hvy (bits_small (by omega) (by omega)) ⟨hs, hL, h2, h3, hO, hJ⟩ h2 h3 hO F12 N12 off12 (offDiv4 off12 N12 (tabs0 h2 h3) hown hL.no0)
theorem pairsPutEnd {O own TG TL T2 T3 U2 U3 : List (Addr × Obj)} {xs : List Int} {i j : Nat} {ys : List Value} {lp lt : Addr} {o : Obj} {ta tb : Tok} {e tk : Nat} {x y : Int} {h' : Heap}
    (hB : PairsB TG TL T2 T3 xs i j ys) (off : Off O (own ++ (TL ++ (T2 ++ T3)))) (D : Off (U2 ++ U3) ((O ++ own) ++ TL)) (F : Fr h₀ L h' m) (N : News h₀ L h' ((lp, tupObj [.int (i : Nat) ta, .int (j : Nat) tb] e) :: (lt, o) :: (((O ++ own) ++ TL) ++ (U2 ++ U3))))
    (l1 : @LT.lt Nat instLTNat lt lp ∧ AllLt lp (((O ++ own) ++ TL) ++ (U2 ++ U3))) (t2 : Tab 30 32 4 qI2 U2) (t3 : Tab 37 47 4 qI3 U3) (tO : Off U2 U3) (hj : j < i) (hx : xs[i]? = some x) (hy : xs[j]? = some y) (e0 : (x + y).fmod 2 = 0) :
    CEnd h₀ L m O s₁ (fun y nw => PairsL own TG xs i (j + 1) (ys ++ [y]) nw) (.ref lp) { s₁ with heap := h', toks := tk } := by
  obtain ⟨hs, hL, h2, h3, hO, hJ⟩ := hB
  have mO : ∀ p ∈ O, p ∈ (O ++ own) ++ TL := fun p hp => List.mem_append_left _ (List.mem_append_left _ hp)
  refine CEnd.intro (news' := own ++ (((lp, tupObj [.int (i : Nat) ta, .int (j : Nat) tb] e) :: TL) ++ (U2 ++ U3))) F N (fun p hp => ?_) (off4put (off4 off D mO) fun p hp => Nat.ne_of_lt (kst_ltOf l1.2 p (List.mem_append_left _ (mO p hp)))) ⟨_, U2, U3, rfl, (fun p hp => .tail _ (hs p hp)), hL.tup, t2, t3, tO, pairsPut hJ hj hx hy e0⟩
  rcases List.mem_append.mp hp with hp | hp
  · exact .tail _ (.tail _ (List.mem_append_left _ (mO p hp)))
  rcases List.mem_append.mp hp with hp | hp
  · exact .tail _ (.tail _ (List.mem_append_left _ (List.mem_append_left _ (List.mem_append_right _ hp))))
  rcases List.mem_cons.mp hp with rfl | hp
  · exact .head _
  rcases List.mem_append.mp hp with hp | hp
  · exact .tail _ (.tail _ (List.mem_append_left _ (List.mem_append_right _ hp)))
  · exact .tail _ (.tail _ (List.mem_append_right _ hp))
theorem pairsSkipEnd {O own TG TL T2 T3 U2 U3 : List (Addr × Obj)} {xs : List Int} {i j : Nat} {ys : List Value} {lt : Addr} {o : Obj} {tk : Nat} {x y : Int} {h' : Heap}
    (hB : PairsB TG TL T2 T3 xs i j ys) (off : Off O (own ++ (TL ++ (T2 ++ T3)))) (D : Off (U2 ++ U3) ((O ++ own) ++ TL)) (F : Fr h₀ L h' m) (N : News h₀ L h' ((lt, o) :: (((O ++ own) ++ TL) ++ (U2 ++ U3))))
    (t2 : Tab 30 32 4 qI2 U2) (t3 : Tab 37 47 4 qI3 U3) (tO : Off U2 U3) (hj : j < i) (hx : xs[i]? = some x) (hy : xs[j]? = some y) (e0 : (x + y).fmod 2 ≠ 0) :
    CEnd h₀ L m O s₁ (fun _ nw => PairsL own TG xs i (j + 1) ys nw) .none { s₁ with heap := h', toks := tk } := by
  obtain ⟨hs, hL, h2, h3, hO, hJ⟩ := hB
  have mO : ∀ p ∈ O, p ∈ (O ++ own) ++ TL := fun p hp => List.mem_append_left _ (List.mem_append_left _ hp)
  refine CEnd.intro (news' := own ++ (TL ++ (U2 ++ U3))) F N (fun p hp => ?_) (off4 off D mO) ⟨_, U2, U3, rfl, hs, hL, t2, t3, tO, pairsSkip hJ hj hx hy e0⟩
  rcases List.mem_append.mp hp with hp | hp
  · exact .tail _ (List.mem_append_left _ (mO p hp))
  rcases List.mem_append.mp hp with hp | hp
  · exact .tail _ (List.mem_append_left _ (List.mem_append_left _ (List.mem_append_right _ hp)))
  rcases List.mem_append.mp hp with hp | hp
  · exact .tail _ (List.mem_append_left _ (List.mem_append_right _ hp))
  · exact .tail _ (List.mem_append_right _ hp)
theorem pairsUse {TG TL T2 T3 : List (Addr × Obj)} {xs : List Int} {n : Nat} {ys : List Value} {C : List Value → Prop} (hB : PairsB TG TL T2 T3 xs n 0 ys) (hn : n = xs.length) (hl : 3 ≤ xs.length)
    (k : ∀ (lp : Addr) (a b : Nat) (t u : Tok) (e : Nat) (zs : List Value), (∀ p ∈ TG, p ∈ TL) → Tab 30 32 4 qI2 T2 → Tab 37 47 4 qI3 T3 → Off T2 T3 → (lp, tupObj [.int a t, .int b u] e) ∈ TL → b < a → a < xs.length → EvenAt xs a b → (∀ v ∈ Value.ref lp :: zs, Plain TL v) → C (.ref lp :: zs)) : C ys := by
  subst hn
  obtain ⟨hs, hL, h2, h3, hO, hJ⟩ := hB
  have hp := pairsPlain hJ
  obtain ⟨lp, a, b, t, u, e, zs, rfl, h4, h5, h6, h7⟩ := pairsHead hJ hl
  exact k lp a b t u e zs hs h2 h3 hO h4 h5 h6 h7 hp
end
end
section
theorem numsFacts {c : Nat} {ns xs : List Int} {k : Int} (h0 : 1 ≤ (c : Int)) (hk : k = 2 * (c : Int) - 1) (h4 : (c : Int) ≤ 4) (he : xs = (ns.map (· % (c : Int)) ++ [0, 1, 0, 2, 1, 3, 2].map (· % (c : Int))).take k.toNat) : xs.length = 2 * c - 1 ∧ ∀ n ∈ xs, 0 ≤ n ∧ n < (c : Int) := by
  refine ⟨?_, fun n hn => ?_⟩
  · rw [he, List.length_take, List.length_append, List.length_map, List.length_map]
    simp only [List.length_cons, List.length_nil]
    omega
  · have h1 : n ∈ ns.map (· % (c : Int)) ++ [0, 1, 0, 2, 1, 3, 2].map (· % (c : Int)) := List.mem_of_mem_take (he ▸ hn)
    rw [← List.map_append] at h1
    obtain ⟨m, _, rfl⟩ := List.mem_map.mp h1
    exact ⟨Int.emod_nonneg _ (by omega), Int.emod_lt_of_pos _ (by omega)⟩
section
variable {h₀ : Heap} {L : Addr} {m : Str → Option Value} {s : Shared} {rest : List (Addr × Obj)} {Q : Value → Shared → Prop}
theorem stretchPost {l : Addr} {vs : List Value} {e : Nat} {c : Int} {ns : List Int}
    (k : ∀ lt a b ta tb e' T2' T3' h' tk', Fr h₀ L h' m → News h₀ L h' ((lt, tupObj [.int a ta, .int b tb] e') :: (l, listOf vs.toArray e) :: (rest ++ (T2' ++ T3'))) → Tab 30 32 4 qI2 T2' → Tab 37 47 4 qI3 T3' → Off T2' T3' → StrOk c ns a b → Q (.ref lt) { s with heap := h', toks := tk' }) :
    ∀ (r : Value) (hd' : List (Addr × Obj)) (h' : Heap) (tk' : Nat), Fr h₀ L h' m → News h₀ L h' (hd' ++ rest) → Off hd' rest → (∃ lt a b ta tb e' T2' T3', r = .ref lt ∧ hd' = (lt, tupObj [.int a ta, .int b tb] e') :: (l, listOf vs.toArray e) :: (T2' ++ T3') ∧ Tab 30 32 4 qI2 T2' ∧ Tab 37 47 4 qI3 T3' ∧ Off T2' T3' ∧ StrOk c ns a b) → Q r { s with heap := h', toks := tk' } := by
  rintro r hd' h' tk' F N D ⟨lt, a, b, ta, tb, e', T2', T3', rfl, rfl, h1, h2, h3, h4⟩
  exact k lt a b ta tb e' T2' T3' h' tk' F (newsSub N (by intro p hp; simp at hp ⊢; rcases hp with h | h | h | h | h <;> simp [h])) h1 h2 h3 h4
theorem chosenPost {own T : List (Addr × Obj)} {l : Addr} {vs : List Value} {e : Nat} {lss : List (List Int)}
    (k : ∀ lo ws e' TL h' tk', Fr h₀ L h' m → News h₀ L h' ((lo, listOf ws.toArray e') :: (l, listOf vs.toArray e) :: (own ++ (TL ++ T))) → (∀ p ∈ TL, tag p.2 = 1) → AreL TL ws lss → Q (.ref lo) { s with heap := h', toks := tk' }) :
    ∀ (r : Value) (hd' : List (Addr × Obj)) (h' : Heap) (tk' : Nat), Fr h₀ L h' m → News h₀ L h' (hd' ++ (own ++ T)) → Off hd' (own ++ T) → (∃ lo ws e' TL, r = .ref lo ∧ hd' = (lo, listOf ws.toArray e') :: (TL ++ [(l, listOf vs.toArray e)]) ∧ (∀ p ∈ TL, tag p.2 = 1) ∧ AreL TL ws lss) → Q r { s with heap := h', toks := tk' } := by
  rintro r hd' h' tk' F N D ⟨lo, ws, e', TL, rfl, rfl, h1, h2⟩
  exact k lo ws e' TL h' tk' F (newsSub N (by intro p hp; simp at hp ⊢; rcases hp with h | h | h | h | h <;> simp [h])) h1 h2
theorem divPost {x y : Int}
    (k : ∀ l t1 t2 e T2' T3' h' tk', Fr h₀ L h' m → News h₀ L h' ((l, tupObj [.int (Int.fdiv x y) t1, .int (Int.fmod x y) t2] e) :: (rest ++ (T2' ++ T3'))) → Off (T2' ++ T3') rest → Tab 30 32 4 qI2 T2' → Tab 37 47 4 qI3 T3' → Off T2' T3' → Q (.ref l) { s with heap := h', toks := tk' }) :
    ∀ (r : Value) (hd' : List (Addr × Obj)) (h' : Heap) (tk' : Nat), Fr h₀ L h' m → News h₀ L h' (hd' ++ rest) → Off hd' rest → (∃ l t1 t2 e T2' T3', r = .ref l ∧ hd' = (l, tupObj [.int (Int.fdiv x y) t1, .int (Int.fmod x y) t2] e) :: (T2' ++ T3') ∧ Tab 30 32 4 qI2 T2' ∧ Tab 37 47 4 qI3 T3' ∧ Off T2' T3') → Q r { s with heap := h', toks := tk' } := by
  rintro r hd' h' tk' F N D ⟨l, t1, t2, e, T2', T3', rfl, rfl, h1, h2, h3⟩
  exact k l t1 t2 e T2' T3' h' tk' F (newsSub N (by intro p hp; simp at hp ⊢; rcases hp with h | h | h | h <;> simp [h])) (fun p hp => D p (.tail _ hp)) h1 h2 h3
theorem subMid {own own' TL T : List (Addr × Obj)} (h : ∀ p ∈ own', p ∈ own) : ∀ p ∈ own' ++ T, p ∈ own ++ (TL ++ T) := fun p hp => (List.mem_append.mp hp).elim (fun hp => List.mem_append_left _ (h p hp)) fun hp => List.mem_append_right _ (List.mem_append_right _ hp)
theorem shortEq {c : Nat} : (List.replicate ((c : Int) - 1).toNat [(0 : Int)]).flatten ++ (List.replicate ((c : Int) - 1).toNat [(1 : Int)]).flatten = shortL c := by
  unfold shortL
  rw [List.flatten_replicate_singleton, List.flatten_replicate_singleton, show ((c : Int) - 1).toNat = c - 1 by omega]
theorem shortLen {c : Nat} (h0 : 1 ≤ c) (h4 : c ≤ 4) : (shortL c).length ≤ 7 := by unfold shortL; rw [List.length_append, List.length_replicate, List.length_replicate]; omega
theorem shortB {c : Nat} : ∀ n ∈ shortL c, 0 ≤ n ∧ n < (c : Int) := fun n hn => by
  unfold shortL at hn
  rcases List.mem_append.mp hn with h | h
  · have := List.mem_replicate.mp h; omega
  · have := List.mem_replicate.mp h; omega
theorem tabHead {P : Addr} {ln cl : Int} {q : Str} {T : List (Addr × Obj)} (h : Tab P ln cl q T) : ∃ ps, (P, tabObj ps) ∈ T := by
  rcases h with rfl | ⟨_, _, _, _, rfl, _, _, _⟩
  · exact ⟨_, .head _⟩
  · exact ⟨_, .head _⟩
theorem newsIn {h₀ h : Heap} {L : Addr} {led : List (Addr × Obj)} {x : Addr × Obj} (N : News h₀ L h led) (hm : x ∈ led) : News h₀ L h (x :: led) := fun p hp => (List.mem_cons.mp hp).elim (fun e => e ▸ N x hm) (N p)
theorem subRot {own TL T : List (Addr × Obj)} : ∀ p ∈ T ++ (own ++ TL), p ∈ own ++ (TL ++ T) := fun p hp => by
  rcases List.mem_append.mp hp with h | h
  · exact List.mem_append_right _ (List.mem_append_right _ h)
  · rcases List.mem_append.mp h with h | h
    · exact List.mem_append_left _ h
    · exact List.mem_append_right _ (List.mem_append_left _ h)
theorem off3Mid {I C D : Addr} {xs ys : List (Addr × Obj)} (off : LCg.Off3 I C D xs) (h : ∀ p ∈ ys, p ∈ xs ∨ ((@Ne Nat I p.1) ∧ (@Ne Nat C p.1) ∧ (@Ne Nat D p.1))) : LCg.Off3 I C D ys :=
  LCg.Off3.of fun p hp => (h p hp).elim (fun h => LCg.Off3.mem off p h) fun ⟨a, b, c⟩ => ⟨a.symm, b.symm, c.symm⟩
/-- the tables are off all that the comprehension and the law made -/
theorem offDiv {I C D : Addr} {oI oC oD : Obj} {h₀ h : Heap} {L : Addr} {own TL T own2 TL2 : List (Addr × Obj)} (off : LCg.Off3 I C D (own ++ (TL ++ T))) (N : News h₀ L h (own2 ++ (TL2 ++ T))) (hT : ∀ p ∈ T, tag p.2 = 0) (hs : ∀ p ∈ own, p ∈ own2) (ho : ∀ p ∈ own, tag p.2 ≠ 0) (hL : ∀ p ∈ TL, tag p.2 ≠ 0) (hs2 : ∀ p ∈ TL, p ∈ TL2) :
    Off T ((I, oI) :: (C, oC) :: (D, oD) :: (own ++ TL)) := by
  have mT : ∀ p ∈ T, p ∈ own ++ (TL ++ T) := fun p hp => List.mem_append_right _ (List.mem_append_right _ hp)
  refine Off.consR (fun p hp => (LCg.Off3.mem off p (mT p hp)).1) (Off.consR (fun p hp => (LCg.Off3.mem off p (mT p hp)).2.1) (Off.consR (fun p hp => (LCg.Off3.mem off p (mT p hp)).2.2) ?_))
  refine Off.appR (offTag0 N (fun p hp => List.mem_append_right _ (List.mem_append_right _ hp)) (fun p hp => List.mem_append_left _ (hs p hp)) hT ho) (offTag0 N (fun p hp => List.mem_append_right _ (List.mem_append_right _ hp)) (fun p hp => List.mem_append_right _ (List.mem_append_left _ (hs2 p hp))) hT hL)
/-- .. and remain so -/
theorem off3Div {I C D : Addr} {oI oC oD : Obj} {own TL T T' : List (Addr × Obj)} (off : LCg.Off3 I C D (own ++ (TL ++ T))) (D' : Off T' ((I, oI) :: (C, oC) :: (D, oD) :: (own ++ TL))) : LCg.Off3 I C D (own ++ (TL ++ T')) :=
  off3Mid off fun p hp => by
    rcases List.mem_append.mp hp with h | h
    · exact .inl (List.mem_append_left _ h)
    · rcases List.mem_append.mp h with h | h
      · exact .inl (List.mem_append_right _ (List.mem_append_left _ h))
      · exact .inr ⟨(D' p h _ (.head _)).symm, (D' p h _ (.tail _ (.head _))).symm, (D' p h _ (.tail _ (.tail _ (.head _)))).symm⟩
theorem tagNot {n : Nat} {xs : List (Addr × Obj)} (h : ∀ p ∈ xs, tag p.2 = n + 1) : ∀ p ∈ xs, tag p.2 ≠ 0 := fun p hp => by rw [h p hp]; exact Nat.succ_ne_zero n
theorem tagApp {xs ys : List (Addr × Obj)} (h : ∀ p ∈ xs, tag p.2 ≠ 0) (h' : ∀ p ∈ ys, tag p.2 ≠ 0) : ∀ p ∈ xs ++ ys, tag p.2 ≠ 0 := fun p hp => (List.mem_append.mp hp).elim (h p) (h' p)
theorem chosenSub : ∀ {ns : List Int} {k : Nat} {ls : List Int}, ls ∈ chosenL ns k → ∀ x ∈ ls, x ∈ ns
  | ns, 0, ls, h => by rw [chosen0] at h; rw [List.mem_singleton.mp h]; exact fun _ h => nomatch h
  | [], k + 1, ls, h => by rw [chosenShort _ _ (by simp)] at h; exact nomatch h
  | n :: ns, k + 1, ls, h => by
    rw [chosenL] at h
    rcases List.mem_append.mp h with h | h
    · obtain ⟨r, hr, rfl⟩ := List.mem_map.mp h
      intro x hx
      rcases List.mem_cons.mp hx with rfl | hx
      · exact .head _
      · exact .tail _ (chosenSub hr x hx)
    · exact fun x hx => .tail _ (chosenSub h x hx)
theorem lotSum {c : Int} {ns ls : List Int} {k : Nat} (hb : ∀ n ∈ ns, 0 ≤ n ∧ n < c) (hc0 : 1 ≤ c) (hc : c ≤ 4) (hl : ns.length ≤ 7) (h : ls ∈ chosenL ns k) : 0 ≤ ls.sum ∧ ls.sum ≤ 28 := by
  have h1 := sumB1 (c := c) ls fun n hn => hb n (chosenSub h n hn)
  have h2 := chosenIn h
  refine ⟨h1.1, Int.le_trans h1.2 ?_⟩
  have h3 : (ls.length : Int) * c ≤ 7 * 4 := Int.mul_le_mul (by omega) hc (by omega) (by omega)
  omega
/-- the lots with nothing left, as far as the comprehension has come -/
def LotsJ (c : Int) (lss : List (List Int)) (TL : List (Addr × Obj)) (i : Nat) (ys : List Value) : Prop :=
  ys.length ≤ i ∧ (∀ v ∈ ys, Plain TL v) ∧ (ys ≠ [] ↔ ∃ ls ∈ lss.take i, ls.sum % c = 0)
theorem lotsNil {c : Int} {lss : List (List Int)} {TL : List (Addr × Obj)} : LotsJ c lss TL 0 [] := ⟨Nat.le_refl _, (fun _ h => nomatch h), by simp⟩
theorem lotsPut {c : Int} {lss : List (List Int)} {TL : List (Addr × Obj)} {i : Nat} {ys : List Value} {v : Value} (hi : i < lss.length) (h : LotsJ c lss TL i ys) (hp : Plain TL v) (e : lss[i].sum % c = 0) : LotsJ c lss TL (i + 1) (ys ++ [v]) := by
  refine ⟨by rw [List.length_append]; exact Nat.succ_le_succ h.1, fun x hx => (List.mem_append.mp hx).elim (h.2.1 x) fun hx => List.mem_singleton.mp hx ▸ hp, fun _ => ⟨lss[i], ?_, e⟩, fun _ => by simp⟩
  rw [List.take_add_one, List.getElem?_eq_getElem hi]; exact List.mem_append_right _ (List.mem_singleton.mpr rfl)
theorem runSeg {vs : List Value} {ns : List Int} {a b : Int} (hI : IntsAre vs ns) (ha : 0 ≤ a) (hab : a < b) (hb : b ≤ ns.length) : IntsAre (slicePick vs.toArray (some a) (some b) none).toList ((ns.take b.toNat).drop a.toNat) := by
  have := kmk_run hI ha (y := b) (by omega)
  rw [Nat.min_eq_left (by omega)] at this
  rw [List.drop_take]
  exact this
theorem segZero {c a b : Int} {n : Nat} {nm : List Int} (hb : b ≤ n) (hc : 1 ≤ c) (h : (((nm.take n).take b.toNat).drop a.toNat).sum % c = 0) : (((nm.take b.toNat).drop a.toNat).sum).fmod c = 0 := by
  rw [List.take_take, Nat.min_eq_left (by omega)] at h
  rw [Int.fmod_eq_emod_of_nonneg _ (by omega)]
  exact h
theorem lotsSkip {c : Int} {lss : List (List Int)} {TL : List (Addr × Obj)} {i : Nat} {ys : List Value} (hi : i < lss.length) (h : LotsJ c lss TL i ys) (e : lss[i].sum % c ≠ 0) : LotsJ c lss TL (i + 1) ys := by
  refine ⟨Nat.le_succ_of_le h.1, h.2.1, ?_⟩
  rw [h.2.2, List.take_add_one, List.getElem?_eq_getElem hi]
  constructor
  · rintro ⟨ls, hl, e1⟩; exact ⟨ls, List.mem_append_left _ hl, e1⟩
  · rintro ⟨ls, hl, e1⟩
    rcases List.mem_append.mp hl with hl | hl
    · exact ⟨ls, hl, e1⟩
    · simp at hl; exact absurd (hl ▸ e1) e
end
end
section
section
variable {prog : Program} {w : World} {A : Around} {E : Value → Shared → Prop} {s s₂ : Shared} {h₀ : Heap} {L : Addr} {m : Str → Option Value} {env : Env}
/-- the lots' comprehension between its turns -/
def LotsL (own TL : List (Addr × Obj)) (c : Int) (lss : List (List Int)) (i : Nat) (ys : List Value) (nw : List (Addr × Obj)) : Prop :=
  ∃ T2 T3, nw = own ++ (TL ++ (T2 ++ T3)) ∧ Tab 30 32 4 qI2 T2 ∧ Tab 37 47 4 qI3 T3 ∧ Off T2 T3 ∧ LotsJ c lss TL i ys
theorem offDiv3 {I C D : Addr} {oI oC oD : Obj} {own TL T : List (Addr × Obj)} {h : Heap} (off : LCg.Off3 I C D (own ++ (TL ++ T))) (N : News h₀ L h ((I, oI) :: (C, oC) :: (D, oD) :: (own ++ (TL ++ T)))) (hT : ∀ p ∈ T, tag p.2 = 0) (ho : ∀ p ∈ own, tag p.2 ≠ 0) (hL : ∀ p ∈ TL, tag p.2 ≠ 0) :
    Off T (([(I, oI), (C, oC), (D, oD)] ++ own) ++ TL) :=
  offDiv (own2 := [(I, oI), (C, oC), (D, oD)] ++ own) (TL2 := TL) off N hT (fun p hp => List.mem_append_right _ hp) ho hL (fun _ h => h)
theorem lotsComp {ct elt : PySem.Expr} {x : Str} {scope : Scope} {cl : List (Str × Addr)} {Fin : List Value → List (Addr × Obj) → Prop} {lo : Addr} {ws : List Value} {c : Int} {lss : List (List Int)} {own TL T2 T3 : List (Addr × Obj)}
    (hA : AreL TL ws lss) (hb : ∀ ls ∈ lss, 0 ≤ ls.sum ∧ ls.sum ≤ 28) (h2 : Tab 30 32 4 qI2 T2) (h3 : Tab 37 47 4 qI3 T3) (hO : Off T2 T3) (hown : ∀ p ∈ own, tag p.2 ≠ 0) (hTL : ∀ p ∈ TL, tag p.2 = 1)
    (fin : ∀ ys T2 T3, Tab 30 32 4 qI2 T2 → Tab 37 47 4 qI3 T3 → Off T2 T3 → ys.length ≤ lss.length → (∀ v ∈ ys, Plain TL v) → (ys ≠ [] ↔ ∃ ls ∈ lss, ls.sum % c = 0) → Fin ys (own ++ (TL ++ (T2 ++ T3))))
    (turn : ∀ i ys T2 T3 a us e ls I oI C oC D m₂ h tk (E' : Value → Shared → Prop), LotsJ c lss TL i ys → lss[i]? = some ls → Builtin.Int.intBits ls.sum ≤ 2 ^ 21 → IntsAre us ls → Plain TL (.ref a) → m₂ x = some (.ref a) → LCg.NsObj oC m₂ → Fr h₀ L h m →
      News h₀ L h ((a, listOf us.toArray e) :: (I, oI) :: (C, oC) :: (D, LCg.lst ys) :: (own ++ (TL ++ (T2 ++ T3)))) → LCg.Off3 I C D (own ++ (TL ++ (T2 ++ T3))) → Tab 30 32 4 qI2 T2 → Tab 37 47 4 qI3 T3 → Off T2 T3 → Off (T2 ++ T3) (([(I, oI), (C, oC), (D, LCg.lst ys)] ++ own) ++ TL) →
      wpAny (model prog w) A (isTrue ct (compEnvC scope cl C env) (eval ct (compEnvC scope cl C env))) (fun ok s' => if ok = true then
        wpAny (model prog w) A (eval elt (compEnvC scope cl C env)) (LCg.CompEnd h₀ L m { s with heap := h, toks := tk } I oI C oC D (LCg.lst ys) (LCg.SrcAt h₀ lo ws.toArray) (fun y nw => LotsL own TL c lss (i + 1) (ys ++ [y]) nw)) E' s'
        else LCg.CompEnd h₀ L m { s with heap := h, toks := tk } I oI C oC D (LCg.lst ys) (LCg.SrcAt h₀ lo ws.toArray) (fun _ nw => LotsL own TL c lss (i + 1) ys nw) Value.none s') E' { s with heap := h, toks := tk }) :
    LCt.CompRestT prog w A h₀ L m env ct elt x scope cl s (LCg.SrcAt h₀ lo ws.toArray) (fun i v => ws.toArray[i]? = some v) Fin ws.toArray.size 0 [] (own ++ (TL ++ (T2 ++ T3))) := by
  refine compInvT (n := ws.toArray.size) (LotsL own TL c lss) ?_ ?_ ws.toArray.size 0 [] _ (by omega) ⟨T2, T3, rfl, h2, h3, hO, lotsNil⟩
  · rintro ys nw ⟨U2, U3, rfl, t2, t3, tO, hJ⟩
    have e : ws.toArray.size = lss.length := by rw [List.size_toArray, hA.1]
    rw [e] at hJ
    refine fin ys U2 U3 t2 t3 tO hJ.1 hJ.2.1 ?_
    have := hJ.2.2
    rwa [List.take_length] at this
  · rintro i ys nw v I oI C oC D m₂ h tk E' hi ⟨U2, U3, rfl, t2, t3, tO, hJ⟩ hv hC hx F N off ne
    have hi1 : i < lss.length := by rw [← hA.1]; simpa using hi
    obtain ⟨a, us, e, hw, hI, hm⟩ := hA.get hi1
    obtain rfl : v = .ref a := by simp at hv; rw [hw] at hv; exact (Option.some.inj hv).symm
    have hsb := hb _ (List.getElem_mem hi1)
    exact turn i ys U2 U3 a us e lss[i] I oI C oC D m₂ h tk E' hJ (List.getElem?_eq_getElem hi1) (bits_small (by omega) (by omega)) hI (Plain.ints hm hI) hx hC F (newsIn N (List.mem_append_right [(I, oI), (C, oC), (D, LCg.lst ys)] (midTL _ hm))) off t2 t3 tO (offDiv3 off N (tabs0 t2 t3) hown (tagNot (n := 0) hTL))
theorem srcIn {lo : Addr} {ws : List Value} {el : Nat} {nw : List (Addr × Obj)} (hm : (lo, listOf ws.toArray el) ∈ nw) : LCg.SrcAt h₀ lo ws.toArray nw := .inr ⟨_, hm, rfl, _, rfl⟩
theorem subEnd {α : Type} {x : α} {O own TL T : List α} : ∀ p ∈ O ++ (own ++ (TL ++ T)), p ∈ x :: (((O ++ own) ++ TL) ++ T) := fun p hp => by
  rcases List.mem_append.mp hp with hp | hp
  · exact .tail _ (List.mem_append_left _ (List.mem_append_left _ (List.mem_append_left _ hp)))
  rcases List.mem_append.mp hp with hp | hp
  · exact .tail _ (List.mem_append_left _ (List.mem_append_left _ (List.mem_append_right _ hp)))
  rcases List.mem_append.mp hp with hp | hp
  · exact .tail _ (List.mem_append_left _ (List.mem_append_right _ hp))
  · exact .tail _ (List.mem_append_right _ hp)
section
variable {I C D lt : Addr} {oI oC o : Obj} {own TL T U2 U3 : List (Addr × Obj)} {c : Int} {lss : List (List Int)} {ls : List Int} {i tk el : Nat} {ys : List Value} {v : Value} {lo : Addr} {ws : List Value} {h' : Heap}
theorem lotsPutEnd (hJ : LotsJ c lss TL i ys) (hi : lss[i]? = some ls) (hc : 0 ≤ c) (hP : Plain TL v) (off : LCg.Off3 I C D (own ++ (TL ++ T))) (F : Fr h₀ L h' m) (N : News h₀ L h' ((lt, o) :: ((([(I, oI), (C, oC), (D, LCg.lst ys)] ++ own) ++ TL) ++ (U2 ++ U3))))
    (D' : Off (U2 ++ U3) (([(I, oI), (C, oC), (D, LCg.lst ys)] ++ own) ++ TL)) (hm : (lo, listOf ws.toArray el) ∈ own) (t2 : Tab 30 32 4 qI2 U2) (t3 : Tab 37 47 4 qI3 U3) (tO : Off U2 U3) (e0 : ls.sum.fmod c = 0) :
    LCg.CompEnd h₀ L m s₂ I oI C oC D (LCg.lst ys) (LCg.SrcAt h₀ lo ws.toArray) (fun y nw => LotsL own TL c lss (i + 1) (ys ++ [y]) nw) v { s₂ with heap := h', toks := tk } := by
  obtain ⟨hi', rfl⟩ := List.getElem?_eq_some_iff.mp hi
  rw [Int.fmod_eq_emod_of_nonneg _ hc] at e0
  exact LCg.CompEnd.intro F N (own ++ (TL ++ (U2 ++ U3))) (subEnd (O := [(I, oI), (C, oC), (D, LCg.lst ys)])) (off3Div off D') (srcIn (List.mem_append_left _ hm)) ⟨U2, U3, rfl, t2, t3, tO, lotsPut hi' hJ hP e0⟩
theorem lotsSkipEnd (hJ : LotsJ c lss TL i ys) (hi : lss[i]? = some ls) (hc : 0 ≤ c) (off : LCg.Off3 I C D (own ++ (TL ++ T))) (F : Fr h₀ L h' m) (N : News h₀ L h' ((lt, o) :: ((([(I, oI), (C, oC), (D, LCg.lst ys)] ++ own) ++ TL) ++ (U2 ++ U3))))
    (D' : Off (U2 ++ U3) (([(I, oI), (C, oC), (D, LCg.lst ys)] ++ own) ++ TL)) (hm : (lo, listOf ws.toArray el) ∈ own) (t2 : Tab 30 32 4 qI2 U2) (t3 : Tab 37 47 4 qI3 U3) (tO : Off U2 U3) (e0 : ls.sum.fmod c ≠ 0) :
    LCg.CompEnd h₀ L m s₂ I oI C oC D (LCg.lst ys) (LCg.SrcAt h₀ lo ws.toArray) (fun _ nw => LotsL own TL c lss (i + 1) ys nw) v { s₂ with heap := h', toks := tk } := by
  obtain ⟨hi', rfl⟩ := List.getElem?_eq_some_iff.mp hi
  rw [Int.fmod_eq_emod_of_nonneg _ hc] at e0
  exact LCg.CompEnd.intro F N (own ++ (TL ++ (U2 ++ U3))) (subEnd (O := [(I, oI), (C, oC), (D, LCg.lst ys)])) (off3Div off D') (srcIn (List.mem_append_left _ hm)) ⟨U2, U3, rfl, t2, t3, tO, lotsSkip hi' hJ e0⟩
end
/-- the halves between turns -/
def HalvesL (own TL : List (Addr × Obj)) (lots : List (List Int)) (i : Nat) (ys : List Value) (nw : List (Addr × Obj)) : Prop :=
  ∃ T2 T3, nw = own ++ (TL ++ (T2 ++ T3)) ∧ Tab 30 32 4 qI2 T2 ∧ Tab 37 47 4 qI3 T3 ∧ Off T2 T3 ∧ IntsAre ys ((lots.take i).map fun l => l.sum.fdiv 2)
theorem halvesComp {elt : PySem.Expr} {x : Str} {scope : Scope} {cl : List (Str × Addr)} {Fin : List Value → List (Addr × Obj) → Prop} {lo : Addr} {ws : List Value} {lots : List (List Int)} {own TL T2 T3 : List (Addr × Obj)}
    (hA : AreL TL ws lots) (hev : ∀ ls ∈ lots, ∃ x y, ls = [x, y] ∧ 0 ≤ x ∧ x < 4 ∧ 0 ≤ y ∧ y < 4 ∧ (x + y) % 2 = 0) (h2 : Tab 30 32 4 qI2 T2) (h3 : Tab 37 47 4 qI3 T3) (hO : Off T2 T3) (hown : ∀ p ∈ own, tag p.2 ≠ 0) (hTL : Lay TL)
    (fin : ∀ ys hs T2 T3, Tab 30 32 4 qI2 T2 → Tab 37 47 4 qI3 T3 → Off T2 T3 → IntsAre ys hs → hs.length = lots.length → ys.length = lots.length → (∀ x ∈ hs, 0 ≤ x ∧ x ≤ 4) → hs = (lots.map fun l => l.sum.fdiv 2) → Fin ys (own ++ (TL ++ (T2 ++ T3))))
    (turn : ∀ i ys T2 T3 a us e ls I oI C oC D m₂ h tk (E' : Value → Shared → Prop), IntsAre ys ((lots.take i).map fun l => l.sum.fdiv 2) → lots[i]? = some ls → Builtin.Int.intBits ls.sum ≤ 2 ^ 21 → IntsAre us ls → m₂ x = some (.ref a) → LCg.NsObj oC m₂ → Fr h₀ L h m →
      News h₀ L h ((a, listOf us.toArray e) :: (I, oI) :: (C, oC) :: (D, LCg.lst ys) :: (own ++ (TL ++ (T2 ++ T3)))) → LCg.Off3 I C D (own ++ (TL ++ (T2 ++ T3))) → Tab 30 32 4 qI2 T2 → Tab 37 47 4 qI3 T3 → Off T2 T3 → Off (T2 ++ T3) (([(I, oI), (C, oC), (D, LCg.lst ys)] ++ own) ++ TL) →
      wpAny (model prog w) A (eval elt (compEnvC scope cl C env)) (LCg.CompEnd h₀ L m { s with heap := h, toks := tk } I oI C oC D (LCg.lst ys) (LCg.SrcAt h₀ lo ws.toArray) (fun y nw => HalvesL own TL lots (i + 1) (ys ++ [y]) nw)) E' { s with heap := h, toks := tk }) :
    LCg.CompRest prog w A h₀ L m env elt x scope cl s (LCg.SrcAt h₀ lo ws.toArray) (fun i v => ws.toArray[i]? = some v) Fin ws.toArray.size 0 [] (own ++ (TL ++ (T2 ++ T3))) := by
  refine compInv (n := ws.toArray.size) (HalvesL own TL lots) ?_ ?_ ws.toArray.size 0 [] _ (by omega) ⟨T2, T3, rfl, h2, h3, hO, .nil⟩
  · rintro ys nw ⟨U2, U3, rfl, t2, t3, tO, hJ⟩
    have e : ws.toArray.size = lots.length := by rw [List.size_toArray, hA.1]
    rw [e, List.take_length] at hJ
    have hl : (lots.map fun l => l.sum.fdiv 2).length = lots.length := List.length_map ..
    refine fin ys _ U2 U3 t2 t3 tO hJ hl (hJ.length.trans hl) (fun x hx => ?_) rfl
    obtain ⟨l, hl, rfl⟩ := List.mem_map.mp hx
    have := lotSum4 hev hl
    exact halfSum this.2.1 this.2.2.1
  · rintro i ys nw v I oI C oC D m₂ h tk E' hi ⟨U2, U3, rfl, t2, t3, tO, hJ⟩ hv hC hx F N off ne
    have hi1 : i < lots.length := by rw [← hA.1]; simpa using hi
    obtain ⟨a, us, e, hw, hI, hm⟩ := hA.get hi1
    obtain rfl : v = .ref a := by simp at hv; rw [hw] at hv; exact (Option.some.inj hv).symm
    have hsb := lotSum4 hev (List.getElem_mem hi1)
    exact turn i ys U2 U3 a us e lots[i] I oI C oC D m₂ h tk E' hJ (List.getElem?_eq_getElem hi1) (bits_small (by omega) (by omega)) hI hx hC F (newsIn N (List.mem_append_right [(I, oI), (C, oC), (D, LCg.lst ys)] (midTL _ hm))) off t2 t3 tO (offDiv3 off N (tabs0 t2 t3) hown hTL.no0)
theorem halvesEnd {I C D lt : Addr} {oI oC o : Obj} {own TL T U2 U3 : List (Addr × Obj)} {lots : List (List Int)} {ls : List Int} {i tk el : Nat} {ys : List Value} {t : Tok} {lo : Addr} {ws : List Value} {h' : Heap}
    (hJ : IntsAre ys ((lots.take i).map fun l => l.sum.fdiv 2)) (hi : lots[i]? = some ls) (off : LCg.Off3 I C D (own ++ (TL ++ T))) (F : Fr h₀ L h' m) (N : News h₀ L h' ((lt, o) :: ((([(I, oI), (C, oC), (D, LCg.lst ys)] ++ own) ++ TL) ++ (U2 ++ U3))))
    (D' : Off (U2 ++ U3) (([(I, oI), (C, oC), (D, LCg.lst ys)] ++ own) ++ TL)) (hm : (lo, listOf ws.toArray el) ∈ own) (t2 : Tab 30 32 4 qI2 U2) (t3 : Tab 37 47 4 qI3 U3) (tO : Off U2 U3) :
    LCg.CompEnd h₀ L m s₂ I oI C oC D (LCg.lst ys) (LCg.SrcAt h₀ lo ws.toArray) (fun y nw => HalvesL own TL lots (i + 1) (ys ++ [y]) nw) (.int (ls.sum.fdiv 2) t) { s₂ with heap := h', toks := tk } := by
  refine LCg.CompEnd.intro F N (own ++ (TL ++ (U2 ++ U3))) (subEnd (O := [(I, oI), (C, oC), (D, LCg.lst ys)])) (off3Div off D') (srcIn (List.mem_append_left _ hm)) ⟨U2, U3, rfl, t2, t3, tO, ?_⟩
  rw [List.take_add_one, hi, List.map_append]
  exact intsApp2 hJ (.cons _ _ .nil)
/-- what stays, between turns -/
def StayL (nw₀ : List (Addr × Obj)) (xs : List Int) (a b i : Nat) (ys : List Value) (nw : List (Addr × Obj)) : Prop := nw = nw₀ ∧ IntsAre ys (stayXs xs i a b)
theorem stayComp {ct elt : PySem.Expr} {x : Str} {scope : Scope} {cl : List (Str × Addr)} {Fin : List Value → List (Addr × Obj) → Prop} {xs : List Int} {vs : List Value} {a b : Nat} {nw₀ : List (Addr × Obj)} (hI : IntsAre vs xs)
    (fin : ∀ ys, IntsAre ys (stayXs xs xs.length a b) → Fin ys nw₀)
    (turn : ∀ i ta z tz ys I oI C oC D m₂ h tk (E' : Value → Shared → Prop), IntsAre ys (stayXs xs i a b) → xs[i]? = some z → vs[i]? = some (.int z tz) → i < 2 ^ 40 → m₂ x = some (.int (i : Nat) ta) → LCg.NsObj oC m₂ → Fr h₀ L h m → News h₀ L h ((I, oI) :: (C, oC) :: (D, LCg.lst ys) :: nw₀) → LCg.Off3 I C D nw₀ →
      wpAny (model prog w) A (isTrue ct (compEnvC scope cl C env) (eval ct (compEnvC scope cl C env))) (fun ok s' => if ok = true then
        wpAny (model prog w) A (eval elt (compEnvC scope cl C env)) (LCg.CompEnd h₀ L m { s with heap := h, toks := tk } I oI C oC D (LCg.lst ys) (fun _ => True) (fun y nw => StayL nw₀ xs a b (i + 1) (ys ++ [y]) nw)) E' s'
        else LCg.CompEnd h₀ L m { s with heap := h, toks := tk } I oI C oC D (LCg.lst ys) (fun _ => True) (fun _ nw => StayL nw₀ xs a b (i + 1) ys nw) Value.none s') E' { s with heap := h, toks := tk }) (hn : xs.length ≤ 7) :
    LCt.CompRestT prog w A h₀ L m env ct elt x scope cl s (fun _ => True) (fun i v => ∃ t, v = .int (0 + (i : Int)) t) Fin xs.length 0 [] nw₀ := by
  refine compInvT (n := xs.length) (StayL nw₀ xs a b) ?_ ?_ xs.length 0 [] _ (by omega) ⟨rfl, .nil⟩
  · rintro ys nw ⟨rfl, hy⟩
    exact fin ys hy
  · rintro i ys nw v I oI C oC D m₂ h tk E' hi ⟨rfl, hy⟩ ⟨ta, rfl⟩ hC hx F N off ne
    rw [Int.zero_add] at hx
    obtain ⟨z, tz, haz, hvz⟩ := intsAt hI (i := i) hi
    exact turn i ta z tz ys I oI C oC D m₂ h tk E' hy haz hvz (by omega) hx hC F N off
theorem stayPutEnd {I C D : Addr} {oI oC : Obj} {nw₀ : List (Addr × Obj)} {xs : List Int} {a b i tk : Nat} {z : Int} {t : Tok} {ys : List Value} {h' : Heap} (hy : IntsAre ys (stayXs xs i a b)) (hz : xs[i]? = some z) (hab : ¬(i = a ∨ i = b)) (F : Fr h₀ L h' m) (N : News h₀ L h' ((I, oI) :: (C, oC) :: (D, LCg.lst ys) :: nw₀)) (off : LCg.Off3 I C D nw₀) :
    LCg.CompEnd h₀ L m s₂ I oI C oC D (LCg.lst ys) (fun _ => True) (fun y nw => StayL nw₀ xs a b (i + 1) (ys ++ [y]) nw) (.int z t) { s₂ with heap := h', toks := tk } :=
  LCg.CompEnd.intro F N nw₀ (fun p hp => hp) off trivial ⟨rfl, stayPut hy hz (fun e => hab (.inl e)) (fun e => hab (.inr e))⟩
theorem staySkipEnd {I C D : Addr} {oI oC : Obj} {nw₀ : List (Addr × Obj)} {xs : List Int} {a b i tk : Nat} {v : Value} {ys : List Value} {h' : Heap} (hy : IntsAre ys (stayXs xs i a b)) (hab : i = a ∨ i = b) (F : Fr h₀ L h' m) (N : News h₀ L h' ((I, oI) :: (C, oC) :: (D, LCg.lst ys) :: nw₀)) (off : LCg.Off3 I C D nw₀) :
    LCg.CompEnd h₀ L m s₂ I oI C oC D (LCg.lst ys) (fun _ => True) (fun _ nw => StayL nw₀ xs a b (i + 1) ys nw) v { s₂ with heap := h', toks := tk } :=
  LCg.CompEnd.intro F N nw₀ (fun p hp => hp) off trivial ⟨rfl, staySkip hy hab⟩
theorem notInPair {lp : Addr} {a b e i : Nat} {t u v : Tok} {news : List (Addr × Obj)} {Q : Value → Shared → Prop} (N : News h₀ L s.heap news) (hm : (lp, tupObj [.int a t, .int b u] e) ∈ news) (h1 : (i = a ∨ i = b) → Q (.bool false) s) (h2 : ¬(i = a ∨ i = b) → Q (.bool true) s) :
    wpAny (model prog w) A (compareOp .NotIn (.int (i : Nat) v) (.ref lp)) Q E s := by
  refine notin_tuple_ints (items := [Value.int a t, Value.int b u].toArray) (ns := [(a : Int), (b : Int)]) ⟨_, (N _ hm).1, rfl, _, rfl⟩ (.cons _ _ (.cons _ _ .nil)) ?_
  by_cases hab : i = a ∨ i = b
  · rw [notIn2 hab]; exact h1 hab
  · rw [isIn2 hab]; exact h2 hab
/-- numbers, each turned, between turns -/
def MapL (nw₀ : List (Addr × Obj)) (ns : List Int) (f : Int → Int) (i : Nat) (ys : List Value) (nw : List (Addr × Obj)) : Prop := nw = nw₀ ∧ IntsAre ys ((ns.take i).map f)
theorem mapComp {elt : PySem.Expr} {x : Str} {scope : Scope} {cl : List (Str × Addr)} {S : List (Addr × Obj) → Prop} {Fin : List Value → List (Addr × Obj) → Prop} {ns : List Int} {vs : List Value} {f : Int → Int} {nw₀ : List (Addr × Obj)} (hI : IntsAre vs ns)
    (fin : ∀ ys, IntsAre ys (ns.map f) → Fin ys nw₀)
    (turn : ∀ i n tn ys I oI C oC D m₂ h tk (E' : Value → Shared → Prop), IntsAre ys ((ns.take i).map f) → ns[i]? = some n → m₂ x = some (.int n tn) → LCg.NsObj oC m₂ → Fr h₀ L h m → News h₀ L h ((I, oI) :: (C, oC) :: (D, LCg.lst ys) :: nw₀) → LCg.Off3 I C D nw₀ →
      wpAny (model prog w) A (eval elt (compEnvC scope cl C env)) (LCg.CompEnd h₀ L m { s with heap := h, toks := tk } I oI C oC D (LCg.lst ys) S (fun y nw => MapL nw₀ ns f (i + 1) (ys ++ [y]) nw)) E' { s with heap := h, toks := tk }) :
    LCg.CompRest prog w A h₀ L m env elt x scope cl s S (fun i v => vs.toArray[i]? = some v) Fin vs.toArray.size 0 [] nw₀ := by
  refine compInv (n := vs.toArray.size) (MapL nw₀ ns f) ?_ ?_ vs.toArray.size 0 [] _ (by omega) ⟨rfl, .nil⟩
  · rintro ys nw ⟨rfl, hy⟩
    rw [List.size_toArray, hI.length, List.take_length] at hy
    exact fin ys hy
  · rintro i ys nw v I oI C oC D m₂ h tk E' hi ⟨rfl, hy⟩ hv hC hx F N off ne
    obtain ⟨n, tn, hn, rfl⟩ := intsGet hI (i := i) (v := v) (by simpa using hv)
    exact turn i n tn ys I oI C oC D m₂ h tk E' hy hn hx hC F N off
theorem mapEnd {I C D : Addr} {oI oC : Obj} {S : List (Addr × Obj) → Prop} {nw₀ : List (Addr × Obj)} {ns : List Int} {f : Int → Int} {i tk : Nat} {n : Int} {y : Int} {t : Tok} {ys : List Value} {h' : Heap} (hy : IntsAre ys ((ns.take i).map f)) (hn : ns[i]? = some n) (e : y = f n) (F : Fr h₀ L h' m) (N : News h₀ L h' ((I, oI) :: (C, oC) :: (D, LCg.lst ys) :: nw₀)) (off : LCg.Off3 I C D nw₀) (hS : S nw₀) :
    LCg.CompEnd h₀ L m s₂ I oI C oC D (LCg.lst ys) S (fun y nw => MapL nw₀ ns f (i + 1) (ys ++ [y]) nw) (.int y t) { s₂ with heap := h', toks := tk } := by
  refine LCg.CompEnd.intro F N nw₀ (fun p hp => hp) off hS ⟨rfl, ?_⟩
  subst e
  rw [List.take_add_one, hn, List.map_append]
  exact intsApp2 hy (.cons _ _ .nil)
/-- the While between turns -/
def WJ (cH cP cL cC : Addr) (oh oc : Obj) (Dlo : Addr) (n : Nat) (m : Str → Option Value) (news : List (Addr × Obj)) : Prop :=
  ∃ (Dl : Addr) (lvs lws : List Value) (xs : List Int) (lots : List (List Int)) (e1 e2 : Nat) (ol op : Obj) (TG T2 T3 : List (Addr × Obj)), news = (cH, oh) :: (cP, op) :: (cL, ol) :: (cC, oc) :: (Dl, listOf lvs.toArray e1) :: (Dlo, listOf lws.toArray e2) :: (TG ++ (T2 ++ T3)) ∧
    Tab 30 32 4 qI2 T2 ∧ Tab 37 47 4 qI3 T3 ∧ Off T2 T3 ∧ ol.data = .cell (some (.ref Dl)) ∧ (∃ v, op.data = .cell v) ∧ m (Str.ofString "lots") = some (.ref Dlo) ∧ IntsAre lvs xs ∧ xs.length = 1 + 2 * n ∧ (∀ x ∈ xs, 0 ≤ x ∧ x < 4) ∧ Lay TG ∧ (∀ p ∈ TG, p.1 ≠ Dlo) ∧ (@Ne Nat Dl Dlo) ∧ AreL TG lws lots ∧ lots.length + n = 3 ∧
    (∀ ls ∈ lots, ∃ x y, ls = [x, y] ∧ 0 ≤ x ∧ x < 4 ∧ 0 ≤ y ∧ y < 4 ∧ (x + y) % 2 = 0)
theorem WJ.mk {cH cP cL cC Dl Dlo : Addr} {oh oc ol op : Obj} {n : Nat} {m : Str → Option Value} {lvs lws : List Value} {xs : List Int} {lots : List (List Int)} {e1 e2 : Nat} {v : Option Value} {TG T2 T3 : List (Addr × Obj)}
    (h2 : Tab 30 32 4 qI2 T2) (h3 : Tab 37 47 4 qI3 T3) (hO : Off T2 T3) (dl : ol.data = .cell (some (.ref Dl))) (dp : op.data = .cell v) (hm : m (Str.ofString "lots") = some (.ref Dlo)) (hI : IntsAre lvs xs) (hl : xs.length = 1 + 2 * n) (hb : ∀ x ∈ xs, 0 ≤ x ∧ x < 4) (hTG : Lay TG) (hTo : ∀ p ∈ TG, p.1 ≠ Dlo) (hD : @Ne Nat Dl Dlo) (hA : AreL TG lws lots) (hll : lots.length + n = 3)
    (hev : ∀ ls ∈ lots, ∃ x y, ls = [x, y] ∧ 0 ≤ x ∧ x < 4 ∧ 0 ≤ y ∧ y < 4 ∧ (x + y) % 2 = 0) :
    WJ cH cP cL cC oh oc Dlo n m ((cH, oh) :: (cP, op) :: (cL, ol) :: (cC, oc) :: (Dl, listOf lvs.toArray e1) :: (Dlo, listOf lws.toArray e2) :: (TG ++ (T2 ++ T3))) :=
  ⟨Dl, lvs, lws, xs, lots, e1, e2, ol, op, TG, T2, T3, rfl, h2, h3, hO, dl, ⟨v, dp⟩, hm, hI, hl, hb, hTG, hTo, hD, hA, hll, hev⟩
theorem WJ.use {cH cP cL cC Dlo : Addr} {oh oc : Obj} {n : Nat} {m : Str → Option Value} {news : List (Addr × Obj)} {h : Heap} {C : Prop} (hJ : WJ cH cP cL cC oh oc Dlo n m news) (F : Fr h₀ L h m) (N : News h₀ L h news)
    (k : ∀ (Dl : Addr) (lvs lws : List Value) (xs : List Int) (lots : List (List Int)) (e1 e2 : Nat) (ol op : Obj) (vp : Option Value) (TG T2 T3 : List (Addr × Obj)), News h₀ L h ((cH, oh) :: (cP, op) :: (cL, ol) :: (cC, oc) :: (Dl, listOf lvs.toArray e1) :: (Dlo, listOf lws.toArray e2) :: (TG ++ (T2 ++ T3))) →
      Tab 30 32 4 qI2 T2 → Tab 37 47 4 qI3 T3 → Off T2 T3 → ol.data = .cell (some (.ref Dl)) → op.data = .cell vp → Fr h₀ L h (fun z => if z = Str.ofString "lots" then some (.ref Dlo) else m z) → IntsAre lvs xs → lvs.length = xs.length → xs.length = 1 + 2 * n → (∀ x ∈ xs, 0 ≤ x ∧ x ≤ 4) → (∀ x ∈ xs, 0 ≤ x ∧ x < 4) → Lay TG → (∀ p ∈ TG, p.1 ≠ Dlo) → (@Ne Nat Dl Dlo) → AreL TG lws lots → lws.length = lots.length → lots.length + n = 3 →
      (∀ ls ∈ lots, ∃ x y, ls = [x, y] ∧ 0 ≤ x ∧ x < 4 ∧ 0 ≤ y ∧ y < 4 ∧ (x + y) % 2 = 0) → C) : C := by
  obtain ⟨Dl, lvs, lws, xs, lots, e1, e2, ol, op, TG, T2, T3, rfl, h2, h3, hO, dl, ⟨v, dp⟩, hm, hI, hl, hb, hTG, hTo, hD, hA, hll, hev⟩ := hJ
  exact k Dl lvs lws xs lots e1 e2 ol op v TG T2 T3 N h2 h3 hO dl dp (Fr.know F hm) hI hI.length hl (fun x hx => ⟨(hb x hx).1, Int.le_of_lt (hb x hx).2⟩) hb hTG hTo hD hA hA.1 hll hev
theorem countUse {n : Int} {C : Prop} (k : ∀ c : Nat, 1 + n.fmod 4 = (c : Int) → 1 ≤ (c : Int) → (c : Int) ≤ 4 → C) : C := by
  have h1 := Int.fmod_nonneg_of_pos n (b := 4) (by decide)
  have h2 := Int.fmod_lt_of_pos n (b := 4) (by decide)
  exact k (1 + n.fmod 4).toNat (by omega) (by omega) (by omega)
theorem caseEq {c k : Nat} {C : Prop} (h1 : c = k → C) (h2 : c ≠ k → C) : C := by
  by_cases h : c = k
  · exact h1 h
  · exact h2 h
theorem pairsUse2 {TG TL T2 T3 : List (Addr × Obj)} {xs : List Int} {vs ys : List Value} {C : List Value → Prop} (hB : PairsB TG TL T2 T3 xs xs.length 0 ys) (hI : IntsAre vs xs) (hl : 3 ≤ xs.length)
    (k : ∀ (lp : Addr) (a b : Nat) (t u : Tok) (e : Nat) (zs : List Value) (x y : Int) (tx ty : Tok), (∀ p ∈ TG, p ∈ TL) → Tab 30 32 4 qI2 T2 → Tab 37 47 4 qI3 T3 → Off T2 T3 → (lp, tupObj [.int a t, .int b u] e) ∈ TL → b < a → a < xs.length → xs[a]? = some x → xs[b]? = some y → vs[a]? = some (.int x tx) → vs[b]? = some (.int y ty) → (x + y) % 2 = 0 → C (.ref lp :: zs)) : C ys := by
  refine pairsUse hB rfl hl fun lp a b t u e zs h1 h2 h3 h4 h5 h6 h7 h8 _ => ?_
  obtain ⟨x, y, e1, e2, e3⟩ := h8
  obtain ⟨x', tx, f1, f2⟩ := intsAt hI h7
  obtain ⟨y', ty, g1, g2⟩ := intsAt hI (i := b) (by omega)
  rw [e1] at f1; rw [e2] at g1
  cases f1; cases g1
  exact k lp a b t u e zs x y tx ty h1 h2 h3 h4 h5 h6 h7 e1 e2 f2 g2 e3
theorem below4 {c : Nat} (h : c = 4) {nm : List Int} (hb : ∀ n ∈ nm, 0 ≤ n ∧ n < (c : Int)) : ∀ n ∈ nm, 0 ≤ n ∧ n < 4 := by
  subst h; exact hb
theorem natCases {n : Nat} {C : Prop} (h0 : n = 0 → C) (h1 : ∀ k, n = k + 1 → C) : C := by
  rcases n with _ | k
  · exact h0 rfl
  · exact h1 k rfl
section
variable {a b : Int} {t u : Tok} {Q : Value → Shared → Prop}
theorem ltYes (h : a < b) (hq : Q (.bool true) s) : wpAny (model prog w) A (compareOp .Lt (.int a t) (.int b u)) Q E s := lt_int (by rw [decide_eq_true h]; exact hq)
theorem ltNo (h : ¬ a < b) (hq : Q (.bool false) s) : wpAny (model prog w) A (compareOp .Lt (.int a t) (.int b u)) Q E s := lt_int (by rw [decide_eq_false h]; exact hq)
theorem eqYes (h : a = b) (hq : Q (.bool true) s) : wpAny (model prog w) A (compareOp .Eq (.int a t) (.int b u)) Q E s := eq_int (by rw [beq_iff_eq.mpr h]; exact hq)
theorem eqNo (h : a ≠ b) (hq : Q (.bool false) s) : wpAny (model prog w) A (compareOp .Eq (.int a t) (.int b u)) Q E s := eq_int (by rw [beq_eq_false_iff_ne.mpr h]; exact hq)
theorem neNo (h : a = b) (hq : Q (.bool false) s) : wpAny (model prog w) A (compareOp .NotEq (.int a t) (.int b u)) Q E s := ne_int (by rw [h, bne_self_eq_false]; exact hq)
end
section
variable {a b D : Addr} {T : List (Addr × Obj)} {ys vs ws : List Value} {ns ms : List Int} {e e' : Nat} {Q : Value → Shared → Prop}
theorem eqNilNo (N : News h₀ L s.heap T) (ha : (a, listOf ys.toArray e) ∈ T) (hb : (b, listOf [].toArray e') ∈ T) (hp : ∀ v ∈ ys, Plain T v) (hu : A.units + 64 < cLine) (hy : ys ≠ []) (h : Q (.bool false) s) :
    wpAny (model prog w) A (compareOp .Eq (.ref a) (.ref b)) Q E s := eqNilG N ha hb hp hu (by rw [decide_eq_false hy]; exact h)
theorem neNilNo (N : News h₀ L s.heap T) (ha : (a, listOf ys.toArray e) ∈ T) (hb : (b, listOf [].toArray e') ∈ T) (hp : ∀ v ∈ ys, Plain T v) (hu : A.units + 64 < cLine) (hy : ys = []) (h : Q (.bool false) s) :
    wpAny (model prog w) A (compareOp .NotEq (.ref a) (.ref b)) Q E s := neNilG N ha hb hp hu (by rw [decide_eq_true hy]; exact h)
theorem addI (F : Fr h₀ L s.heap m) (N : News h₀ L s.heap T) (ha : (a, listOf vs.toArray e) ∈ T) (hb : (b, listOf ws.toArray e') ∈ T) (hI : IntsAre vs ns) (hJ : IntsAre ws ms) (hz : ns.length + ms.length ≤ 1000)
    (h : ∀ D h' us, Fr h₀ L h' m → News h₀ L h' ((D, listOf us.toArray 0) :: T) → IntsAre us (ns ++ ms) → Q (.ref D) { s with heap := h' }) : wpAny (model prog w) A (binaryOp .Add (.ref a) (.ref b)) Q E s :=
  addG F N ha hb (by rw [hI.length, hJ.length]; exact hz) fun D h' F' N' _ => h D h' _ F' N' (intsApp2 hI hJ)
theorem AreL.use {led : List (Addr × Obj)} {lss : List (List Int)} {i : Nat} {h : Heap} {C : Prop} (hA : AreL T ws lss) (hi : i < lss.length) (N : News h₀ L h led) (hs : ∀ p ∈ T, p ∈ led)
    (k : ∀ a us e, ws[i]? = some (.ref a) → IntsAre us lss[i] → News h₀ L h ((a, listOf us.toArray e) :: led) → C) : C := by
  obtain ⟨a, us, e, h1, h2, h3⟩ := hA.get hi
  exact k a us e h1 h2 (newsIn N (hs _ h3))
theorem tabsUse {led T2 T3 : List (Addr × Obj)} {h : Heap} {C : Prop} (h2 : Tab 30 32 4 qI2 T2) (h3 : Tab 37 47 4 qI3 T3) (N : News h₀ L h led) (hs : ∀ p ∈ T2 ++ T3, p ∈ led)
    (k : ∀ p2 p3, News h₀ L h ((30, tabObj p2) :: (37, tabObj p3) :: led) → C) : C := by
  obtain ⟨p2, hp2⟩ := tabHead h2
  obtain ⟨p3, hp3⟩ := tabHead h3
  exact k p2 p3 (newsIn (newsIn N (hs _ (List.mem_append_right _ hp3))) (.tail _ (hs _ (List.mem_append_left _ hp2))))
end
end
end
section
section
theorem cw : PySem.Challenge.rw_ga0003_01.Holds := hd (by
  k_with_none
  k_with "spliced" => (first | refine args_cons ?_ | refine args_nil ⟨Fr.keep (by assumption) _ _ (by assumption), ?_⟩ | (refine args_nil ?_; try simp only [List.cons_append, List.nil_append]))
  k_with "call ref" => (refine hold ?_)
  k_with "eval ListComp" => (refine hold ?_)
  k_with "CompSrc" => (refine hold ?_)
  k_with "testChain" => (first | with_reducible refine test_link ?_ | refine test_last ?_ | with_unfolding_all refine test_link ?_)
  k_with "exec While Compare cons nil" => (refine hold ?_)
  k_with "compareOp Eq ref ref" => (refine hold ?_)
  k_with "compareOp NotEq ref ref" => (refine hold ?_)
  w_strict (k_go0; (all_goals try k_fold); k_steps; skip)
  unfold Hold
  rename_i ww s0 s1 mg mb GG YY fa oo9 pm cd doc ho hcd hg XX VV TT BB TE TW ns hs0 hlay hLa hra hl2 wA1 wA2 la vs wA3 hLL ra w1 r0 hIA hr1 hc1 hc2 hDD h1 tk1 oh op ol oc0 dh dp dl dc0 X0 Xh Th Kh ch1 l0 hm1 tk2 t2 hm2 oc Fm Nm dc
  generalize hLL0 : s1.heap.objs.size = LL at *
  refine countUse (n := ns.sum) ?_
  intro c hcc hc0 hc4
  rw [hcc] at dc
  clear hcc
  have hc00 : (0 : Int) ≤ c := Int.le_trans (by decide) hc0
  have hc30 : (c : Int) < 1073741824 := Int.lt_of_le_of_lt hc4 (by decide)
  have hnl : ns.length ≤ 63 := by omega
  have hT2 : Tab 30 32 4 qI2 [(30, tabObj #[])] := .inl rfl
  have hT3 : Tab 37 47 4 qI3 [(37, tabObj #[])] := .inl rfl
  have hO : Off [((30 : Addr), tabObj #[])] [((37 : Addr), tabObj #[])] := fun p hp q hq e => by rw [List.mem_singleton.mp hp, List.mem_singleton.mp hq] at e; exact absurd e (by decide)
  k_dflt (refine LCg.ListComp_U (F₀ := Fm) (by with_unfolding_all rfl) (by decide) (by rfl) (by decide) (by rfl) ?_)
  k_steps
  unfold Hold
  have N2 := newsSub (xs := (LL + 1 + 1 + 1 + 1, oh) :: (LL + 1 + 1 + 1, op) :: (LL + 1 + 1, ol) :: (LL + 1, oc) :: ([(30, tabObj #[])] ++ [(37, tabObj #[])])) Nm (ixSub [0, 1, 2, 3, 5, 4] rfl)
  have hvl : vs.length = ns.length := hIA.length
  have hpc : (c : Int) ≠ 0 := fun e => absurd (e ▸ hc0) (by decide)
  clear Nm
  k_dflt (refine LCg.CompSrc.base (by rfl) Fm N2 lifted (by rw [sizeLine_eq]; simp; omega) ?_)
  intro g9
  k_dflt (refine mapComp (f := (· % (c : Int))) hIA ?_ ?_)
  rotate_left
  · intro i n tn ys I oI C oC Dl m₂ h tk E' hy hn hx hC F10 N10 off
    clear Fm N2
    k_steps
    exact mapEnd hy hn (Int.fmod_eq_emod_of_nonneg _ hc00) F10 N10 off (.inl (by assumption))
  intro ys1 hy1
  unfold LCg.FinE
  intro DG hG1 tkG FG NG oG
  clear Fm N2
  dsimp only
  k_steps
  unfold Hold
  have N3 := newsSub (xs := (LL + 1 + 1 + 1 + 1, oh) :: (LL + 1 + 1 + 1, op) :: (LL + 1 + 1, ol) :: (LL + 1, oc) :: (DG, LCg.lst ys1) :: ([(30, tabObj #[])] ++ [(37, tabObj #[])])) NG (ixSub [1, 2, 3, 4, 0, 5, 6] rfl)
  k_dflt (refine LCg.ListComp_U (F₀ := FG) (by with_unfolding_all rfl) (by decide) (by rfl) (by decide) (by rfl) ?_)
  clear NG
  k_steps
  unfold Hold
  rename_i l2 hh2 F2 N4 ml2
  obtain ⟨zs, hzs, N5⟩ : ∃ zs, IntsAre zs [0, 1, 0, 2, 1, 3, 2] ∧ News _ LL hh2 ((l2, listOf zs.toArray 0) :: (LL + 1 + 1 + 1 + 1, oh) :: (LL + 1 + 1 + 1, op) :: (LL + 1 + 1, ol) :: (LL + 1, oc) :: (DG, LCg.lst ys1) :: ([(30, tabObj #[])] ++ [(37, tabObj #[])])) := ⟨[.int 0 _, .int 1 _, .int 0 _, .int 2 _, .int 1 _, .int 3 _, .int 2 _], .cons _ _ (.cons _ _ (.cons _ _ (.cons _ _ (.cons _ _ (.cons _ _ (.cons _ _ .nil)))))), N4⟩
  have hzl : zs.length = 7 := hzs.length
  clear N4; try clear N3
  k_dflt (refine LCg.CompSrc.ledger (by rfl) F2 N5 (ax := l2) (its := zs.toArray) (k := 0) (List.Mem.head _) (by rw [sizeLine_eq]; simp; omega) ?_)
  intro g8
  k_dflt (refine mapComp (f := (· % (c : Int))) hzs ?_ ?_)
  rotate_left
  · intro i n tn ys I oI C oC Dl m₂ h tk E' hy hn hx hC F10 N10 off
    clear F2 N5
    k_steps
    exact mapEnd hy hn (Int.fmod_eq_emod_of_nonneg _ hc00) F10 N10 off (srcIn (List.Mem.head _))
  intro ys2 hy2
  unfold LCg.FinE
  intro DG2 hG2 tkG2 FG2 NG2 oG2
  clear F2 N5
  dsimp only
  have NA := newsSub (xs := (DG, LCg.lst ys1) :: (DG2, LCg.lst ys2) :: (LL + 1 + 1 + 1 + 1, oh) :: (LL + 1 + 1 + 1, op) :: (LL + 1 + 1, ol) :: (LL + 1, oc) :: ([(30, tabObj #[])] ++ [(37, tabObj #[])])) NG2 (ixSub [6, 0, 2, 3, 4, 5, 7, 8] rfl)
  k_dflt (refine addI (vs := ys1) (ws := ys2) (e := ys1.length) (e' := ys2.length) FG2 NA (List.Mem.head _) (.tail _ (.head _)) hy1 hy2 (by rw [List.length_map, List.length_map]; exact Nat.le_trans (Nat.add_le_add_right hnl _) (by decide)) ?_)
  intro D6 h6 us F6 N6 hIs
  have N7 := newsSub (xs := (D6, listOf us.toArray 0) :: (LL + 1 + 1 + 1 + 1, oh) :: (LL + 1 + 1 + 1, op) :: (LL + 1 + 1, ol) :: (LL + 1, oc) :: ([(30, tabObj #[])] ++ [(37, tabObj #[])])) N6 (ixSub [0, 3, 4, 5, 6, 7, 8] rfl)
  have hul : us.length = ns.length + 7 := by rw [hIs.length, List.length_append, List.length_map, List.length_map]; rfl
  clear N6 NA NG2 FG2 hy1 hy2
  k_steps
  unfold Hold
  rename_i Dn usn hhn hIn hCn hLn ln hx9 Dc usc hhc Fc Nc hIc hCc hLc lc
  obtain ⟨nm, hnm⟩ : ∃ nm, nm = List.take (2 * (c : Int) - 1).toNat (ns.map (· % (c : Int)) ++ [0, 1, 0, 2, 1, 3, 2].map (· % (c : Int))) := ⟨_, rfl⟩
  obtain ⟨hnl2, hnb⟩ := numsFacts hc0 rfl hc4 hnm
  rw [← hnm] at hIn hIc
  rw [Int.toNat_natCast] at hIc
  have hcl : ((nm.take c).length : Int) = c := by rw [List.length_take, hnl2]; omega
  have hDnc : Dn ≠ Dc := Nat.ne_of_lt lc.1
  clear hnm hCn hLn hCc hLc hIs hul ln
  have N8 := newsSub (xs := (LL + 1 + 1 + 1 + 1, oh) :: (LL + 1 + 1 + 1, op) :: (LL + 1 + 1, ol) :: (LL + 1, oc) :: (Dn, listOf usn.toArray 0) :: (Dc, listOf usc.toArray 0) :: ([(30, tabObj #[])] ++ [(37, tabObj #[])])) Nc (ixSub [3, 4, 5, 6, 1, 0, 7, 8] rfl)
  clear Nc lc
  k_dflt (refine' stretch_ctr Dc usc (nm.take c) 0 (c : Int) _ [(30, tabObj #[])] [(37, tabObj #[])] hT2 hT3 hO hc0 hc4 hIc hcl (fun n hn => hnb n (List.mem_of_mem_take hn)) _ _ _ _ _ _ _ _ _ _ _ _ _ _ _ ([(LL + 1 + 1 + 1 + 1, oh), (LL + 1 + 1 + 1, op), (LL + 1 + 1, ol), (LL + 1, oc)] ++ [(Dn, listOf usn.toArray 0)]) _ _ ?q19xk1 ?q19xk2 ?q19xk3 ?q19xk4 ?q19xk5 ?q19xk6 ?q19xk7 ?q19xk8 ?q19xk9 ?q19xk10 ?q19xk11 ?q19xkR)
  case q19xk1 => k_asm
  case q19xk2 => assumption
  case q19xk3 => assumption
  case q19xk4 => k_asm
  case q19xk5 => k_asm
  case q19xk6 => exact newsSub N8 (ixSub [5, 6, 7, 0, 1, 2, 3, 4] rfl)
  case q19xk7 => exact offMain (H := [(Dc, listOf usc.toArray 0)]) (CC := [(LL + 1 + 1 + 1 + 1, oh), (LL + 1 + 1 + 1, op), (LL + 1 + 1, ol), (LL + 1, oc)]) (LS := [(Dn, listOf usn.toArray 0)]) (T := ([(30, tabObj #[])] ++ [(37, tabObj #[])])) N8 (ixSub [5] rfl) (ixSub [0, 1, 2, 3] rfl) (ixSub [4] rfl) (ixSub [6, 7] rfl) (tagAll rfl) (List.forall_mem_cons.mpr ⟨tag_cell dh, (List.forall_mem_cons.mpr ⟨tag_cell dp, (List.forall_mem_cons.mpr ⟨tag_cell dl, (List.forall_mem_cons.mpr ⟨tag_cell dc, (fun _ h => nomatch h)⟩)⟩)⟩)⟩) (tagAll rfl) (tabs0 hT2 hT3) (off1 hDnc.symm)
  case q19xk8 => k_asm
  case q19xk9 => first | exact rfl | assumption
  case q19xk10 => ktr_room
  case q19xk11 => ktr_units
  refine stretchPost ?_
  intro lt a b ta tb e1 T2a T3a h1a tk1a F1a N1a hT2a hT3a hOa hst
  dsimp only
  have N9 := newsSub (xs := (lt, tupObj [.int a ta, .int b tb] e1) :: (LL + 1 + 1 + 1 + 1, oh) :: (LL + 1 + 1 + 1, op) :: (LL + 1 + 1, ol) :: (LL + 1, oc) :: (Dn, listOf usn.toArray 0) :: (T2a ++ T3a)) N1a (ixSubT 7 [0, 2, 3, 4, 5, 6] rfl)
  clear N1a N8 Fc
  obtain ⟨ha0, hab, hbc, hsum⟩ := hst
  rw [hcl] at hbc
  k_with "subscriptTail Name Slice ref ref" => (refine hold ?_)
  have hseg := segZero hbc hc0 hsum
  clear hsum
  k_steps
  unfold Hold
  rename_i hq9 FQ NQ
  k_dflt (refine kmk_slice_ints (vs := usn) (ns := nm) (ms := (nm.take b.toNat).drop a.toNat) (lo := some a) (hi := some b) FQ NQ (NQ.isList (ixMem 5 rfl)) (by kmk_part) (by kmk_part) hIn (runSeg hIn ha0 hab (by omega)) rfl ?_ (by with_unfolding_all rfl) (by kmk_pure) (by kmk_size))
  intro Dg wsg hg9 Fg Ng lg hIg hCg hLg
  clear hCg hLg FQ NQ
  generalize ((nm.take b.toNat).drop a.toNat) = sg at *
  k_with "compareOp NotEq int int" => (refine hold ?_)
  k_steps
  unfold Hold
  rw [hseg]
  refine ne_int ?_
  rw [bne_self_eq_false]
  clear hseg hIg hcl hIc lg
  k_steps
  unfold Hold
  rename_i hq2 tkq2 tq2 FL NL
  clear Fg Ng
  have htC : ∀ p ∈ [(LL + 1 + 1 + 1 + 1, oh), (LL + 1 + 1 + 1, op), (LL + 1 + 1, ol), (LL + 1, oc)], tag p.2 = 3 := (List.forall_mem_cons.mpr ⟨tag_cell dh, (List.forall_mem_cons.mpr ⟨tag_cell dp, (List.forall_mem_cons.mpr ⟨tag_cell dl, (List.forall_mem_cons.mpr ⟨tag_cell dc, (fun _ h => nomatch h)⟩)⟩)⟩)⟩)
  have NL2 := newsSub (xs := (LL + 1 + 1 + 1 + 1, oh) :: (LL + 1 + 1 + 1, op) :: (LL + 1 + 1, ol) :: (LL + 1, oc) :: (Dn, listOf usn.toArray 0) :: (T2a ++ T3a)) NL (ixSubT 7 [2, 3, 4, 5, 6] rfl)
  clear NL
  have hnl7 : nm.length ≤ 7 := by omega
  k_dflt (refine LCt.ListComp_T (F₀ := FL) (by with_unfolding_all rfl) (by decide) (by rfl) (by decide) (by rfl) ?_)
  k_steps
  unfold Hold
  k_dflt (refine' chosen_ctr 7 (Nat.le_refl _) Dn usn nm 0 c _ hnl7 (by omega) hIn _ _ _ _ _ _ _ _ _ _ _ _ _ _ _ (([(LL + 1 + 1 + 1 + 1, oh), (LL + 1 + 1 + 1, op), (LL + 1 + 1, ol), (LL + 1, oc)] ++ []) ++ (T2a ++ T3a)) _ _ ?q20xk1 ?q20xk2 ?q20xk3 ?q20xk4 ?q20xk5 ?q20xk6 ?q20xk7 ?q20xk8 ?q20xk9 ?q20xk10 ?q20xk11 ?q20xkR)
  case q20xk1 => k_asm
  case q20xk2 => assumption
  case q20xk3 => assumption
  case q20xk4 => k_asm
  case q20xk5 => k_asm
  case q20xk6 => exact newsSub NL2 (ixSubT 5 [4, 0, 1, 2, 3] rfl)
  case q20xk7 => exact Off.appR (Off.appR (offTag NL2 (ixSub [4] rfl) (ixSub [0, 1, 2, 3] rfl) fun p hp q hq => by rw [tagAll (n := 1) rfl p hp, htC q hq]; decide) (fun _ _ _ h => nomatch h)) (offTag NL2 (ixSub [4] rfl) (ixSubT 5 [] rfl) fun p hp q hq => by rw [tagAll (n := 1) rfl p hp, tabs0 hT2a hT3a q hq]; decide)
  case q20xk8 => k_asm
  case q20xk9 => first | exact rfl | assumption
  case q20xk10 => ktr_room
  case q20xk11 => ktr_units
  refine chosenPost (own := ([(LL + 1 + 1 + 1 + 1, oh), (LL + 1 + 1 + 1, op), (LL + 1 + 1, ol), (LL + 1, oc)] ++ [])) (T := (T2a ++ T3a)) ?_
  intro loA wsA elA TLA hqA tkqA FqA NqA hTLA hAA
  dsimp only
  have NrA := newsSub (xs := (LL + 1 + 1 + 1 + 1, oh) :: (LL + 1 + 1 + 1, op) :: (LL + 1 + 1, ol) :: (LL + 1, oc) :: (loA, listOf wsA.toArray elA) :: (Dn, listOf usn.toArray 0) :: (TLA ++ (T2a ++ T3a))) NqA (ixSubT 6 [2, 3, 4, 5, 0, 1] rfl)
  have hwlA : wsA.length ≤ 128 := by rw [hAA.1]; exact Nat.le_trans (chosenLen nm c) (Nat.le_trans (Nat.pow_le_pow_right (by decide) hnl7) (by decide))
  clear NL2 NqA
  try clear FL
  k_dflt (refine LCt.CompSrcT.ledger (by rfl) FqA NrA (ax := loA) (its := wsA.toArray) (k := elA) (ixMem 4 rfl) (by rw [sizeLine_eq]; simp; omega) ?_)
  intro gA9
  k_dflt (refine lotsComp (own := ([(LL + 1 + 1 + 1 + 1, oh), (LL + 1 + 1 + 1, op), (LL + 1 + 1, ol), (LL + 1, oc)] ++ [(loA, listOf wsA.toArray elA), (Dn, listOf usn.toArray 0)])) (TL := TLA) (T2 := T2a) (T3 := T3a) (c := (c : Int)) (lss := (chosenL nm c)) hAA (fun ls hl => lotSum hnb hc0 hc4 hnl7 hl) hT2a hT3a hOa (tagApp (tagNot (n := 2) htC) (tagNot (n := 0) (tagAll rfl))) hTLA ?_ ?_)
  rotate_left
  · intro i ys T2x T3x a2 us3 e3 ls I oI C oC Dl m₂ h tk E' hJ hls hbits hI3 hP hx hC F10 N11 off hT2x hT3x hOx hDT
    try clear FqA
    try clear NrA
    k_steps
    unfold Hold
    rename_i hs5 tks5 ts5 FS5 NS5
    k_dflt (refine' int_divmod_ctr (ls.sum) (c : Int) _ _ T2x T3x hT2x hT3x hOx hc0 hc30 hbits _ _ _ _ _ _ _ _ _ _ _ _ _ _ _ (([(I, oI), (C, oC), (Dl, LCg.lst ys)] ++ ([(LL + 1 + 1 + 1 + 1, oh), (LL + 1 + 1 + 1, op), (LL + 1 + 1, ol), (LL + 1, oc)] ++ [(loA, listOf wsA.toArray elA), (Dn, listOf usn.toArray 0)])) ++ TLA) _ _ ?q21xk1 ?q21xk2 ?q21xk3 ?q21xk4 ?q21xk5 ?q21xk6 ?q21xk7 ?q21xk8 ?q21xk9 ?q21xk10 ?q21xk11 ?q21xkR)
    case q21xk1 => k_asm
    case q21xk2 => assumption
    case q21xk3 => assumption
    case q21xk4 => k_asm
    case q21xk5 => k_asm
    case q21xk6 => exact newsSub NS5 (fun p hp => List.mem_cons_of_mem _ (subRot (own := [(I, oI), (C, oC), (Dl, LCg.lst ys)] ++ ([(LL + 1 + 1 + 1 + 1, oh), (LL + 1 + 1 + 1, op), (LL + 1 + 1, ol), (LL + 1, oc)] ++ [(loA, listOf wsA.toArray elA), (Dn, listOf usn.toArray 0)])) p hp))
    case q21xk7 => exact hDT
    case q21xk8 => k_asm
    case q21xk9 => first | exact rfl | assumption
    case q21xk10 => ktr_room
    case q21xk11 => ktr_units
    refine divPost ?_
    intro lt2 t1 t2 e2 T2y T3y h11 tk11 F11 N13 D11 hT2y hT3y hOy
    dsimp only
    clear NS5
    try clear FS5
    k_steps
    all_goals rename_i e0
    · exact lotsPutEnd hJ hls hc00 hP off F11 N13 D11 ((ixMem 4 rfl) : (loA, listOf wsA.toArray elA) ∈ ([(LL + 1 + 1 + 1 + 1, oh), (LL + 1 + 1 + 1, op), (LL + 1 + 1, ol), (LL + 1, oc)] ++ [(loA, listOf wsA.toArray elA), (Dn, listOf usn.toArray 0)])) hT2y hT3y hOy e0
    · exact lotsSkipEnd hJ hls hc00 off F11 N13 D11 ((ixMem 4 rfl) : (loA, listOf wsA.toArray elA) ∈ ([(LL + 1 + 1 + 1 + 1, oh), (LL + 1 + 1 + 1, op), (LL + 1 + 1, ol), (LL + 1, oc)] ++ [(loA, listOf wsA.toArray elA), (Dn, listOf usn.toArray 0)])) hT2y hT3y hOy e0
  intro ysA T2A T3A hT2A hT3A hOA hylA hPA hJA
  unfold LCg.FinE
  intro DGA hGA tkGA FGA NGA oGA
  try clear FqA
  try clear NrA
  dsimp only
  k_steps
  unfold Hold
  rename_i l9A h9A F9A N9A m9A
  k_dflt (refine eqNilNo (ys := ysA) (e := ysA.length) (e' := 0) N9A (ixMem 1 rfl) (ixMem 0 rfl) (fun v hv => (hPA v hv).mono (fun p hp => List.mem_append_right ([(l9A, listOf [].toArray 0), (DGA, LCg.lst ysA)] ++ ([(LL + 1 + 1 + 1 + 1, oh), (LL + 1 + 1 + 1, op), (LL + 1 + 1, ol), (LL + 1, oc)] ++ [(loA, listOf wsA.toArray elA), (Dn, listOf usn.toArray 0)])) (List.mem_append_left _ hp))) (by first | ktr_units | decide) (hJA.mpr (egz (Int.ofNat_le.mp hc0) (Int.ofNat_le.mp hc4) hnl2 hnb)) ?_)
  have NsA := newsSub (xs := (LL + 1 + 1 + 1 + 1, oh) :: (LL + 1 + 1 + 1, op) :: (LL + 1 + 1, ol) :: (LL + 1, oc) :: (Dn, listOf usn.toArray 0) :: (T2A ++ T3A)) N9A (subMid (own' := [(LL + 1 + 1 + 1 + 1, oh), (LL + 1 + 1 + 1, op), (LL + 1 + 1, ol), (LL + 1, oc), (Dn, listOf usn.toArray 0)]) (own := ([(l9A, listOf [].toArray 0), (DGA, LCg.lst ysA)] ++ ([(LL + 1 + 1 + 1 + 1, oh), (LL + 1 + 1 + 1, op), (LL + 1 + 1, ol), (LL + 1, oc)] ++ [(loA, listOf wsA.toArray elA), (Dn, listOf usn.toArray 0)]))) (TL := TLA) (T := (T2A ++ T3A)) (ixSub [2, 3, 4, 5, 7] rfl))
  clear N9A m9A hJA hAA hTLA oGA hwlA hPA hylA
  k_steps
  unfold Hold
  rename_i Dsh wsh hsh hIsh lsh hq3 FS2 NS2
  rw [shortEq] at hIsh
  have hDsn : @Ne Nat Dsh Dn := by omega
  have hsl := shortLen (c := c) (by omega) (by omega)
  clear lsh
  have NS3 := newsSub (xs := (LL + 1 + 1 + 1 + 1, oh) :: (LL + 1 + 1 + 1, op) :: (LL + 1 + 1, ol) :: (LL + 1, oc) :: (Dsh, listOf wsh.toArray 0) :: (Dn, listOf usn.toArray 0) :: (T2A ++ T3A)) NS2 (ixSubT 10 [5, 6, 7, 8, 0, 9] rfl)
  clear NS2
  k_dflt (refine LCt.ListComp_T (F₀ := FS2) (by with_unfolding_all rfl) (by decide) (by rfl) (by decide) (by rfl) ?_)
  k_steps
  unfold Hold
  k_dflt (refine' chosen_ctr 7 (Nat.le_refl _) Dsh wsh (shortL c) 0 c _ hsl (by omega) hIsh _ _ _ _ _ _ _ _ _ _ _ _ _ _ _ (([(LL + 1 + 1 + 1 + 1, oh), (LL + 1 + 1 + 1, op), (LL + 1 + 1, ol), (LL + 1, oc)] ++ [(Dn, listOf usn.toArray 0)]) ++ (T2A ++ T3A)) _ _ ?q22xk1 ?q22xk2 ?q22xk3 ?q22xk4 ?q22xk5 ?q22xk6 ?q22xk7 ?q22xk8 ?q22xk9 ?q22xk10 ?q22xk11 ?q22xkR)
  case q22xk1 => k_asm
  case q22xk2 => assumption
  case q22xk3 => assumption
  case q22xk4 => k_asm
  case q22xk5 => k_asm
  case q22xk6 => exact newsSub NS3 (ixSubT 6 [4, 0, 1, 2, 3, 5] rfl)
  case q22xk7 => exact Off.appR (Off.appR (offTag NS3 (ixSub [4] rfl) (ixSub [0, 1, 2, 3] rfl) fun p hp q hq => by rw [tagAll (n := 1) rfl p hp, htC q hq]; decide) (off1 hDsn)) (offTag NS3 (ixSub [4] rfl) (ixSubT 6 [] rfl) fun p hp q hq => by rw [tagAll (n := 1) rfl p hp, tabs0 hT2A hT3A q hq]; decide)
  case q22xk8 => k_asm
  case q22xk9 => first | exact rfl | assumption
  case q22xk10 => ktr_room
  case q22xk11 => ktr_units
  refine chosenPost (own := ([(LL + 1 + 1 + 1 + 1, oh), (LL + 1 + 1 + 1, op), (LL + 1 + 1, ol), (LL + 1, oc)] ++ [(Dn, listOf usn.toArray 0)])) (T := (T2A ++ T3A)) ?_
  intro loB wsB elB TLB hqB tkqB FqB NqB hTLB hAB
  dsimp only
  have NrB := newsSub (xs := (LL + 1 + 1 + 1 + 1, oh) :: (LL + 1 + 1 + 1, op) :: (LL + 1 + 1, ol) :: (LL + 1, oc) :: (loB, listOf wsB.toArray elB) :: (Dsh, listOf wsh.toArray 0) :: (Dn, listOf usn.toArray 0) :: (TLB ++ (T2A ++ T3A))) NqB (ixSubT 7 [2, 3, 4, 5, 0, 1, 6] rfl)
  have hwlB : wsB.length ≤ 128 := by rw [hAB.1]; exact Nat.le_trans (chosenLen (shortL c) c) (Nat.le_trans (Nat.pow_le_pow_right (by decide) hsl) (by decide))
  clear NS3 NqB
  try clear FS2
  k_dflt (refine LCt.CompSrcT.ledger (by rfl) FqB NrB (ax := loB) (its := wsB.toArray) (k := elB) (ixMem 4 rfl) (by rw [sizeLine_eq]; simp; omega) ?_)
  intro gB9
  k_dflt (refine lotsComp (own := ([(LL + 1 + 1 + 1 + 1, oh), (LL + 1 + 1 + 1, op), (LL + 1 + 1, ol), (LL + 1, oc)] ++ [(loB, listOf wsB.toArray elB), (Dsh, listOf wsh.toArray 0), (Dn, listOf usn.toArray 0)])) (TL := TLB) (T2 := T2A) (T3 := T3A) (c := (c : Int)) (lss := (chosenL (shortL c) c)) hAB (fun ls hl => lotSum (shortB (c := c)) hc0 hc4 hsl hl) hT2A hT3A hOA (tagApp (tagNot (n := 2) htC) (tagNot (n := 0) (tagAll rfl))) hTLB ?_ ?_)
  rotate_left
  · intro i ys T2x T3x a2 us3 e3 ls I oI C oC Dl m₂ h tk E' hJ hls hbits hI3 hP hx hC F10 N11 off hT2x hT3x hOx hDT
    try clear FqB
    try clear NrB
    k_steps
    unfold Hold
    rename_i hs5 tks5 ts5 FS5 NS5
    k_dflt (refine' int_divmod_ctr (ls.sum) (c : Int) _ _ T2x T3x hT2x hT3x hOx hc0 hc30 hbits _ _ _ _ _ _ _ _ _ _ _ _ _ _ _ (([(I, oI), (C, oC), (Dl, LCg.lst ys)] ++ ([(LL + 1 + 1 + 1 + 1, oh), (LL + 1 + 1 + 1, op), (LL + 1 + 1, ol), (LL + 1, oc)] ++ [(loB, listOf wsB.toArray elB), (Dsh, listOf wsh.toArray 0), (Dn, listOf usn.toArray 0)])) ++ TLB) _ _ ?q23xk1 ?q23xk2 ?q23xk3 ?q23xk4 ?q23xk5 ?q23xk6 ?q23xk7 ?q23xk8 ?q23xk9 ?q23xk10 ?q23xk11 ?q23xkR)
    case q23xk1 => k_asm
    case q23xk2 => assumption
    case q23xk3 => assumption
    case q23xk4 => k_asm
    case q23xk5 => k_asm
    case q23xk6 => exact newsSub NS5 (fun p hp => List.mem_cons_of_mem _ (subRot (own := [(I, oI), (C, oC), (Dl, LCg.lst ys)] ++ ([(LL + 1 + 1 + 1 + 1, oh), (LL + 1 + 1 + 1, op), (LL + 1 + 1, ol), (LL + 1, oc)] ++ [(loB, listOf wsB.toArray elB), (Dsh, listOf wsh.toArray 0), (Dn, listOf usn.toArray 0)])) p hp))
    case q23xk7 => exact hDT
    case q23xk8 => k_asm
    case q23xk9 => first | exact rfl | assumption
    case q23xk10 => ktr_room
    case q23xk11 => ktr_units
    refine divPost ?_
    intro lt2 t1 t2 e2 T2y T3y h11 tk11 F11 N13 D11 hT2y hT3y hOy
    dsimp only
    clear NS5
    try clear FS5
    k_steps
    all_goals rename_i e0
    · exact lotsPutEnd hJ hls hc00 hP off F11 N13 D11 ((ixMem 4 rfl) : (loB, listOf wsB.toArray elB) ∈ ([(LL + 1 + 1 + 1 + 1, oh), (LL + 1 + 1 + 1, op), (LL + 1 + 1, ol), (LL + 1, oc)] ++ [(loB, listOf wsB.toArray elB), (Dsh, listOf wsh.toArray 0), (Dn, listOf usn.toArray 0)])) hT2y hT3y hOy e0
    · exact lotsSkipEnd hJ hls hc00 off F11 N13 D11 ((ixMem 4 rfl) : (loB, listOf wsB.toArray elB) ∈ ([(LL + 1 + 1 + 1 + 1, oh), (LL + 1 + 1 + 1, op), (LL + 1 + 1, ol), (LL + 1, oc)] ++ [(loB, listOf wsB.toArray elB), (Dsh, listOf wsh.toArray 0), (Dn, listOf usn.toArray 0)])) hT2y hT3y hOy e0
  intro ysB T2B T3B hT2B hT3B hOB hylB hPB hJB
  unfold LCg.FinE
  intro DGB hGB tkGB FGB NGB oGB
  try clear FqB
  try clear NrB
  dsimp only
  k_steps
  unfold Hold
  rename_i l9B h9B F9B N9B m9B
  k_dflt (refine neNilNo (ys := ysB) (e := ysB.length) (e' := 0) N9B (ixMem 1 rfl) (ixMem 0 rfl) (fun v hv => (hPB v hv).mono (fun p hp => List.mem_append_right ([(l9B, listOf [].toArray 0), (DGB, LCg.lst ysB)] ++ ([(LL + 1 + 1 + 1 + 1, oh), (LL + 1 + 1 + 1, op), (LL + 1 + 1, ol), (LL + 1, oc)] ++ [(loB, listOf wsB.toArray elB), (Dsh, listOf wsh.toArray 0), (Dn, listOf usn.toArray 0)])) (List.mem_append_left _ hp))) (by first | ktr_units | decide) (Classical.byContradiction fun h => (hJB.mp h).elim fun ls h => shortNone (Int.ofNat_le.mp hc0) (Int.ofNat_le.mp hc4) ls h.1 h.2) ?_)
  have NsB := newsSub (xs := (LL + 1 + 1 + 1 + 1, oh) :: (LL + 1 + 1 + 1, op) :: (LL + 1 + 1, ol) :: (LL + 1, oc) :: (Dn, listOf usn.toArray 0) :: (T2B ++ T3B)) N9B (subMid (own' := [(LL + 1 + 1 + 1 + 1, oh), (LL + 1 + 1 + 1, op), (LL + 1 + 1, ol), (LL + 1, oc), (Dn, listOf usn.toArray 0)]) (own := ([(l9B, listOf [].toArray 0), (DGB, LCg.lst ysB)] ++ ([(LL + 1 + 1 + 1 + 1, oh), (LL + 1 + 1 + 1, op), (LL + 1 + 1, ol), (LL + 1, oc)] ++ [(loB, listOf wsB.toArray elB), (Dsh, listOf wsh.toArray 0), (Dn, listOf usn.toArray 0)]))) (TL := TLB) (T := (T2B ++ T3B)) (ixSub [2, 3, 4, 5, 8] rfl))
  clear N9B m9B hJB hAB hTLB oGB hwlB hPB hylB
  k_with "exec If" => (refine hold ?_)
  k_steps
  unfold Hold
  k_with_none
  k_with "spliced" => (first | refine args_cons ?_ | refine args_nil ⟨Fr.keep (by assumption) _ _ (by assumption), ?_⟩ | (refine args_nil ?_; try simp only [List.cons_append, List.nil_append]))
  k_with "call ref" => (refine hold ?_)
  k_with "eval ListComp" => (refine hold ?_)
  k_with "CompSrc" => (refine hold ?_)
  k_with "testChain" => (first | with_reducible refine test_link ?_ | refine test_last ?_ | with_unfolding_all refine test_link ?_)
  k_with "exec While Compare cons nil" => (refine hold ?_)
  k_with "compareOp Eq ref ref" => (refine hold ?_)
  k_with "compareOp NotEq ref ref" => (refine hold ?_)
  k_with "exec While Compare cons nil" => (refine hold ?_)
  k_with "compareOp NotEq int int" => (refine hold ?_)
  k_with "compareOp Eq int int" => (refine hold ?_)
  k_steps
  unfold Hold
  refine caseEq (c := c) (k := 4) (fun hc44 => ?_) (fun hc44 => ?_)
  k_with_none
  k_with "spliced" => (first | refine args_cons ?_ | refine args_nil ⟨Fr.keep (by assumption) _ _ (by assumption), ?_⟩ | (refine args_nil ?_; try simp only [List.cons_append, List.nil_append]))
  k_with "call ref" => (refine hold ?_)
  k_with "eval ListComp" => (refine hold ?_)
  k_with "CompSrc" => (refine hold ?_)
  k_with "testChain" => (first | with_reducible refine test_link ?_ | refine test_last ?_ | with_unfolding_all refine test_link ?_)
  k_with "exec While Compare cons nil" => (refine hold ?_)
  k_with "compareOp Eq ref ref" => (refine hold ?_)
  k_with "compareOp NotEq ref ref" => (refine hold ?_)
  k_with "exec While Compare cons nil" => (refine hold ?_)
  k_with "compareOp NotEq int int" => (refine hold ?_)
  rotate_left
  · refine eqNo (fun e => hc44 (Int.ofNat.inj e)) ?_
    refine tabsUse hT2B hT3B NsB (fun p hp => List.mem_append_right ([(LL + 1 + 1 + 1 + 1, oh), (LL + 1 + 1 + 1, op), (LL + 1 + 1, ol), (LL + 1, oc), (Dn, listOf usn.toArray 0)]) hp) ?_
    intro p2 p3 NE0
    have NE := newsSub (xs := [(30, tabObj p2), (37, tabObj p3)] ++ [(LL + 1 + 1 + 1 + 1, oh), (LL + 1 + 1 + 1, op), (LL + 1 + 1, ol), (LL + 1, oc)]) NE0 (ixSub [0, 1, 2, 3, 4, 5] rfl)
    clear NE0 NsB
    k_steps
  refine eqYes (congrArg Int.ofNat hc44) ?_
  have hx1 : @Ne Nat Dn (LL + 1 + 1) := cellOff (xs := [(Dn, listOf usn.toArray 0)]) NsB (ixMem 2 rfl) (tag_cell dl) (ixSub [4] rfl) (no3 (tagAll (n := 1) rfl) (by decide)) _ (.head _)
  have hx2 : ∀ p ∈ T2B, p.1 ≠ LL + 1 + 1 := cellOff NsB (ixMem 2 rfl) (tag_cell dl) (fun p hp => List.mem_append_right ([(LL + 1 + 1 + 1 + 1, oh), (LL + 1 + 1 + 1, op), (LL + 1 + 1, ol), (LL + 1, oc), (Dn, listOf usn.toArray 0)]) (List.mem_append_left T3B hp)) (no3 hT2B.tags (by decide))
  have hx3 : ∀ p ∈ T3B, p.1 ≠ LL + 1 + 1 := cellOff NsB (ixMem 2 rfl) (tag_cell dl) (fun p hp => List.mem_append_right ([(LL + 1 + 1 + 1 + 1, oh), (LL + 1 + 1 + 1, op), (LL + 1 + 1, ol), (LL + 1, oc), (Dn, listOf usn.toArray 0)]) (List.mem_append_right T2B hp)) (no3 hT3B.tags (by decide))
  k_steps
  unfold Hold
  rename_i Dl0 el0 hw5 lw0 Dlo hw4 lw1 Dtu hw3 lw2 hw2 hw1 ol2 dl2 hw0 FW NW
  have NW2 := newsSub (xs := (LL + 1 + 1 + 1 + 1, oh) :: (LL + 1 + 1 + 1, op) :: (LL + 1 + 1, ol2) :: (LL + 1, oc) :: (Dl0, listOf usn.toArray el0) :: (Dlo, listOf [].toArray 0) :: (T2B ++ T3B)) NW (ixSubT 8 [3, 4, 5, 6, 2, 1] rfl)
  k_dflt (refine While_inv (n₀ := 3) (WJ (LL + 1 + 1 + 1 + 1) (LL + 1 + 1 + 1) (LL + 1 + 1) (LL + 1) oh oc Dlo) FW NW2 (WJ.mk (TG := []) (n := 3) hT2B hT3B hOB dl2 dp rfl hIn (by rw [hnl2, hc44]) (below4 hc44 hnb) Lay.nil (fun _ h => nomatch h) (Nat.ne_of_lt lw1.1) AreL.nil rfl (fun _ h => nomatch h)) ?_ ?_)
  rotate_left
  · passes_own
  intro n m₁ news₁ h₁ tk₁ F3 N3' hJ
  refine hJ.use F3 N3' ?_
  intro Dl lvs lws xs lots e1 e2 ol3 op3 vp3 TG T2w T3w N3 hT2w hT3w hOw dl3 dp3 F4 hIx hll hxl hxb4 hxb hTG hTGo hDlo hAG hlw hlt3 hev
  clear hJ F3 N3' hx1 hx2 hx3 lw0 lw1 lw2
  k_with "call builtin:len" => (k_dflt (refine lenG (by k_asm) (by k_mem) (by assumption) (by omega) ?_))
  k_with "compareOp Lt int int" => (refine hold ?_)
  k_steps
  unfold Hold
  refine natCases (n := n) (fun hn => ?_) (fun n' hn => ?_)
  · k_with_none
    k_with "spliced" => (first | refine args_cons ?_ | refine args_nil ⟨Fr.keep (by assumption) _ _ (by assumption), ?_⟩ | (refine args_nil ?_; try simp only [List.cons_append, List.nil_append]))
    k_with "call ref" => (refine hold ?_)
    k_with "eval ListComp" => (refine hold ?_)
    k_with "CompSrc" => (refine hold ?_)
    k_with "testChain" => (first | with_reducible refine test_link ?_ | refine test_last ?_ | with_unfolding_all refine test_link ?_)
    k_with "exec While Compare cons nil" => (refine hold ?_)
    k_with "compareOp Eq ref ref" => (refine hold ?_)
    k_with "compareOp NotEq ref ref" => (refine hold ?_)
    k_with "exec While Compare cons nil" => (refine hold ?_)
    k_with "compareOp NotEq int int" => (refine hold ?_)
    k_with "compareOp Lt int int" => (refine hold ?_)
    refine ltNo (by omega) ?_
    have hl3 : lots.length = 3 := by omega
    clear hlt3 hn hxl hxb hxb4 hIx hll
    k_steps
    unfold Hold
    k_dflt (refine LCg.ListComp_U (F₀ := F4) (by with_unfolding_all rfl) (by decide) (by rfl) (by decide) (by rfl) ?_)
    k_steps
    unfold Hold
    k_dflt (refine LCg.CompSrc.ledger (by rfl) F4 N3 (ax := Dlo) (its := lws.toArray) (k := e2) (ixMem 5 rfl) (by rw [sizeLine_eq, List.size_toArray, hlw, hl3]; decide) ?_)
    intro gH9
    k_dflt (refine halvesComp (own := [(LL + 1 + 1 + 1 + 1, oh), (LL + 1 + 1 + 1, op3), (LL + 1 + 1, ol3), (LL + 1, oc), (Dl, listOf lvs.toArray e1), (Dlo, listOf lws.toArray e2)]) (TL := TG) (T2 := T2w) (T3 := T3w) hAG hev hT2w hT3w hOw (tagApp (xs := [(LL + 1 + 1 + 1 + 1, oh), (LL + 1 + 1 + 1, op3), (LL + 1 + 1, ol3), (LL + 1, oc)]) (tagNot (n := 2) (List.forall_mem_cons.mpr ⟨tag_cell dh, List.forall_mem_cons.mpr ⟨tag_cell dp3, List.forall_mem_cons.mpr ⟨tag_cell dl3, List.forall_mem_cons.mpr ⟨tag_cell dc, (fun _ h => nomatch h)⟩⟩⟩⟩)) (tagNot (n := 0) (tagAll (n := 1) rfl))) hTG ?_ ?_)
    rotate_left
    · intro i ys T2x T3x a2 us3 e3 ls I oI C oC Dh m₂ h tk E' hJ hls hbits hI3 hx hC F10 N11 off hT2x hT3x hOx hDT
      clear F4 N3
      k_steps
      unfold Hold
      rename_i hs5 tks5 ts5 FS5 NS5
      k_dflt (refine' int_divmod_ctr (ls.sum) 2 _ _ T2x T3x hT2x hT3x hOx (by decide) (by decide) hbits _ _ _ _ _ _ _ _ _ _ _ _ _ _ _ (([(I, oI), (C, oC), (Dh, LCg.lst ys)] ++ [(LL + 1 + 1 + 1 + 1, oh), (LL + 1 + 1 + 1, op3), (LL + 1 + 1, ol3), (LL + 1, oc), (Dl, listOf lvs.toArray e1), (Dlo, listOf lws.toArray e2)]) ++ TG) _ _ ?q24xk1 ?q24xk2 ?q24xk3 ?q24xk4 ?q24xk5 ?q24xk6 ?q24xk7 ?q24xk8 ?q24xk9 ?q24xk10 ?q24xk11 ?q24xkR)
      case q24xk1 => k_asm
      case q24xk2 => assumption
      case q24xk3 => assumption
      case q24xk4 => k_asm
      case q24xk5 => k_asm
      case q24xk6 => exact newsSub NS5 (fun p hp => List.mem_cons_of_mem _ (subRot (own := [(I, oI), (C, oC), (Dh, LCg.lst ys)] ++ [(LL + 1 + 1 + 1 + 1, oh), (LL + 1 + 1 + 1, op3), (LL + 1 + 1, ol3), (LL + 1, oc), (Dl, listOf lvs.toArray e1), (Dlo, listOf lws.toArray e2)]) p hp))
      case q24xk7 => exact hDT
      case q24xk8 => k_asm
      case q24xk9 => first | exact rfl | assumption
      case q24xk10 => ktr_room
      case q24xk11 => ktr_units
      refine divPost ?_
      intro lt2 t1 t2 ev2 T2y T3y h11 tk11 F11 N13 D11 hT2y hT3y hOy
      dsimp only
      clear NS5
      try clear FS5
      k_steps
      exact halvesEnd hJ hls off F11 N13 D11 ((ixMem 5 rfl) : (Dlo, listOf lws.toArray e2) ∈ [(LL + 1 + 1 + 1 + 1, oh), (LL + 1 + 1 + 1, op3), (LL + 1 + 1, ol3), (LL + 1, oc), (Dl, listOf lvs.toArray e1), (Dlo, listOf lws.toArray e2)]) hT2y hT3y hOy
    intro ysH hs T2h T3h hT2h hT3h hOh hIh hs3 hyl3 hhb hhs
    rw [hl3] at hs3 hyl3
    unfold LCg.FinE
    intro DH hGH tkGH FGH NGH oGH
    clear F4 N3 oGH
    have NH := newsSub (xs := (DH, LCg.lst ysH) :: (LL + 1 + 1 + 1 + 1, oh) :: (LL + 1 + 1 + 1, op3) :: (LL + 1 + 1, ol3) :: (LL + 1, oc) :: (Dl, listOf lvs.toArray e1) :: (Dlo, listOf lws.toArray e2) :: (TG ++ (T2h ++ T3h))) NGH (ixSubT 7 [0, 1, 2, 3, 4, 5, 6] rfl)
    have hy := cellOff (xs := [(DH, LCg.lst ysH), (Dl, listOf lvs.toArray e1), (Dlo, listOf lws.toArray e2)]) NH (ixMem 1 rfl) (tag_cell dh) (ixSub [0, 5, 6] rfl) (no3 (tagAll (n := 1) rfl) (by decide))
    have hy1 : @Ne Nat DH (LL + 1 + 1 + 1 + 1) := hy _ (.head _)
    have hy2 : @Ne Nat Dl (LL + 1 + 1 + 1 + 1) := hy _ (.tail _ (.head _))
    have hy3 : @Ne Nat Dlo (LL + 1 + 1 + 1 + 1) := hy _ (.tail _ (.tail _ (.head _)))
    have hy4 : ∀ p ∈ TG, p.1 ≠ LL + 1 + 1 + 1 + 1 := cellOff NH (ixMem 1 rfl) (tag_cell dh) (fun p hp => midTL (own := (DH, LCg.lst ysH) :: [(LL + 1 + 1 + 1 + 1, oh), (LL + 1 + 1 + 1, op3), (LL + 1 + 1, ol3), (LL + 1, oc), (Dl, listOf lvs.toArray e1), (Dlo, listOf lws.toArray e2)]) p hp) hTG.no3
    have hy5 : ∀ p ∈ T2h, p.1 ≠ LL + 1 + 1 + 1 + 1 := cellOff NH (ixMem 1 rfl) (tag_cell dh) (fun p hp => midT2 (own := (DH, LCg.lst ysH) :: [(LL + 1 + 1 + 1 + 1, oh), (LL + 1 + 1 + 1, op3), (LL + 1 + 1, ol3), (LL + 1, oc), (Dl, listOf lvs.toArray e1), (Dlo, listOf lws.toArray e2)]) p hp) (no3 hT2h.tags (by decide))
    have hy6 : ∀ p ∈ T3h, p.1 ≠ LL + 1 + 1 + 1 + 1 := cellOff NH (ixMem 1 rfl) (tag_cell dh) (fun p hp => midT3 (own := (DH, LCg.lst ysH) :: [(LL + 1 + 1 + 1 + 1, oh), (LL + 1 + 1 + 1, op3), (LL + 1 + 1, ol3), (LL + 1, oc), (Dl, listOf lvs.toArray e1), (Dlo, listOf lws.toArray e2)]) p hp) (no3 hT3h.tags (by decide))
    clear NGH hy
    dsimp only
    k_with "exec Assign cons ListComp" => (refine hold ?_)
    k_with "subscriptTail" => ((k_here; (with_reducible show wpAny _ _ (subscriptTail _ _ (Value.ref _) (Value.int (Nat.cast _) _)) _ _ _); k_dflt (refine itemG (by k_asm) (by k_mem) (by assumption) (by omega) ?_)))
    k_with "subscriptTail Name Name ref int" => ((k_here; (with_reducible show wpAny _ _ (subscriptTail _ _ (Value.ref _) (Value.int (Nat.cast _) _)) _ _ _); k_dflt (refine itemG (by k_asm) (by k_mem) (by assumption) (by omega) ?_)))
    k_with "subscriptTail Name Subscript ref int" => ((k_here; (with_reducible show wpAny _ _ (subscriptTail _ _ (Value.ref _) (Value.int (Nat.cast _) _)) _ _ _); k_dflt (refine itemG (by k_asm) (by k_mem) (by assumption) (by omega) ?_)))
    k_steps
    unfold Hold
    rename_i hS6 oh6 FS6 NS6 dh6
    clear hy1 hy2 hy3 hy4 hy5 hy6
    k_dflt (refine assignComp2 FS6 (by rfl) (by with_unfolding_all rfl) (by with_unfolding_all rfl) (by decide) (by rfl) (by decide) (by rfl) (by rfl) (by decide) (by rfl) (by rfl) ?_)
    k_steps
    rename_i hRp tkRp tRp uRp vRp hRgp FRp NRp hKRp
    refine pairsOuter (own := [(LL + 1 + 1 + 1 + 1, oh6), (LL + 1 + 1 + 1, op3), (LL + 1 + 1, ol3), (LL + 1, oc), (DH, LCg.lst ysH), (Dl, listOf lvs.toArray e1), (Dlo, listOf lws.toArray e2)]) (TG := TG) (T2 := T2h) (T3 := T3h) (xs := hs) (n := 3) hRgp FRp NRp (ixSubT 7 [1, 2, 3, 4, 0, 5, 6] rfl) rfl (by decide) rfl hTG hT2h hT3h hOh ?_ ?_
    rotate_left
    · intro i ta I oI C oC Dp m2 h tk ys TLx T2x T3x E' hi hx hC hB F10 N10 off10
      clear FRp NRp hRgp hKRp
      k_steps
      rename_i hR2 tkR2 tR2 uR2 vR2 hRg2 FR2 NR2' hKR2
      refine pairsInner (own := [(LL + 1 + 1 + 1 + 1, oh6), (LL + 1 + 1 + 1, op3), (LL + 1 + 1, ol3), (LL + 1, oc), (DH, LCg.lst ysH), (Dl, listOf lvs.toArray e1), (Dlo, listOf lws.toArray e2)]) hRg2 FR2 NR2' (fun _ h => h) off10 rfl (by omega) (by omega) rfl hIh hhb (tagApp (xs := [(LL + 1 + 1 + 1 + 1, oh6), (LL + 1 + 1 + 1, op3), (LL + 1 + 1, ol3), (LL + 1, oc)]) (tagNot (n := 2) (List.forall_mem_cons.mpr ⟨tag_cell dh6, List.forall_mem_cons.mpr ⟨tag_cell dp3, List.forall_mem_cons.mpr ⟨tag_cell dl3, List.forall_mem_cons.mpr ⟨tag_cell dc, (fun _ h => nomatch h)⟩⟩⟩⟩)) (tagNot (n := 0) (tagAll (n := 1) rfl))) hB ?_
      clear hB off10 hRg2 FR2 NR2' hKR2
      (try clear F10); (try clear N10)
      intro j tb x y tx ty I2 oI2 C2 m3 h tk ys TLy T2y T3y E3 hj hqa hqb hC2 hax hay hvx hvy hbits hBy hT2y hT3y hOy F12 N12 off12 hDT
      refine wpAny_tests_one ?_
      k_steps
      unfold Hold
      k_dflt (refine' int_divmod_ctr (x + y) 2 _ _ T2y T3y hT2y hT3y hOy (by decide) (by decide) hbits _ _ _ _ _ _ _ _ _ _ _ _ _ _ _ (([(I2, oI2), (C, C2), (Dp, LCg.lst ys), (I, oI)] ++ [(LL + 1 + 1 + 1 + 1, oh6), (LL + 1 + 1 + 1, op3), (LL + 1 + 1, ol3), (LL + 1, oc), (DH, LCg.lst ysH), (Dl, listOf lvs.toArray e1), (Dlo, listOf lws.toArray e2)]) ++ TLy) _ _ ?q25xk1 ?q25xk2 ?q25xk3 ?q25xk4 ?q25xk5 ?q25xk6 ?q25xk7 ?q25xk8 ?q25xk9 ?q25xk10 ?q25xk11 ?q25xkR)
      case q25xk1 => k_asm
      case q25xk2 => assumption
      case q25xk3 => assumption
      case q25xk4 => k_asm
      case q25xk5 => k_asm
      case q25xk6 => exact newsSub N12 (subRot (own := [(I2, oI2), (C, C2), (Dp, LCg.lst ys), (I, oI)] ++ [(LL + 1 + 1 + 1 + 1, oh6), (LL + 1 + 1 + 1, op3), (LL + 1 + 1, ol3), (LL + 1, oc), (DH, LCg.lst ysH), (Dl, listOf lvs.toArray e1), (Dlo, listOf lws.toArray e2)]))
      case q25xk7 => exact hDT
      case q25xk8 => k_asm
      case q25xk9 => first | exact rfl | assumption
      case q25xk10 => ktr_room
      case q25xk11 => ktr_units
      refine divPost ?_
      intro lt2 t1 t2 ev2 T2z T3z h11 tk11 F11 N13 D11 hT2z hT3z hOz
      dsimp only
      clear hT2y hT3y hOy
      (try clear F12); (try clear N12)
      k_steps
      · rename_i a0 lp hp Fp Np lp1
        exact pairsPutEnd hBy off12 D11 Fp Np lp1 hT2z hT3z hOz hj hax hay a0
      · rename_i a0
        exact pairsSkipEnd hBy off12 D11 F11 N13 hT2z hT3z hOz hj hax hay a0
    intro g9 ysp TLp T2p T3p hBp
    refine pairsUse (C := fun z => LCg.FinA _ _ _ _ _ _ z _) hBp hs3.symm (by omega) ?_
    intro lp a4 b4 t4 u4 e4 zs4 hsTp hT2p hT3p hOp hm4 hba4 ha4 hEv4 hPl
    unfold LCg.FinA
    intro DP hGP tkGP FGP NGP oGP
    clear FRp NRp hRgp hKRp oGP hBp
    dsimp only
    k_steps
    unfold Hold
    rename_i l9p h9p F9p N9p m9p
    k_dflt (refine eqNilNo (ys := .ref lp :: zs4) (e := (Value.ref lp :: zs4).length) (e' := 0) N9p (ixMem 1 rfl) (ixMem 0 rfl) (fun v hv => (hPl v hv).mono fun p hp => midTL (own := [(l9p, listOf [].toArray 0), (DP, LCg.lst (.ref lp :: zs4))] ++ [(LL + 1 + 1 + 1 + 1, oh6), (LL + 1 + 1 + 1, op3), (LL + 1 + 1, ol3), (LL + 1, oc), (DH, LCg.lst ysH), (Dl, listOf lvs.toArray e1), (Dlo, listOf lws.toArray e2)]) p hp) (by first | ktr_units | decide) (List.cons_ne_nil _ _) ?_)
    refine AreL.use (hAG.mono hsTp) (i := b4) (by omega) N9p (midTL (own := [(l9p, listOf [].toArray 0), (DP, LCg.lst (.ref lp :: zs4))] ++ [(LL + 1 + 1 + 1 + 1, oh6), (LL + 1 + 1 + 1, op3), (LL + 1 + 1, ol3), (LL + 1, oc), (DH, LCg.lst ysH), (Dl, listOf lvs.toArray e1), (Dlo, listOf lws.toArray e2)])) ?_
    intro lb usb eb hwb hIb Nb
    refine AreL.use (hAG.mono hsTp) (i := a4) (by omega) Nb (fun p hp => .tail _ (midTL (own := [(l9p, listOf [].toArray 0), (DP, LCg.lst (.ref lp :: zs4))] ++ [(LL + 1 + 1 + 1 + 1, oh6), (LL + 1 + 1 + 1, op3), (LL + 1 + 1, ol3), (LL + 1, oc), (DH, LCg.lst ysH), (Dl, listOf lvs.toArray e1), (Dlo, listOf lws.toArray e2)]) p hp)) ?_
    intro la usa ea hwa hIa Na
    have Nz := newsIn Na (.tail _ (.tail _ (midTL (own := [(l9p, listOf [].toArray 0), (DP, LCg.lst (.ref lp :: zs4))] ++ [(LL + 1 + 1 + 1 + 1, oh6), (LL + 1 + 1 + 1, op3), (LL + 1 + 1, ol3), (LL + 1, oc), (DH, LCg.lst ysH), (Dl, listOf lvs.toArray e1), (Dlo, listOf lws.toArray e2)]) _ hm4)))
    clear N9p m9p Nb Na
    k_with "binaryOp Add ref ref" => (refine hold ?_)
    k_steps
    unfold Hold
    have hs4 := sum4 hev hhs (a := a4) (b := b4) (by omega) (by omega) hEv4
    k_dflt (refine addI (vs := usa) (ws := usb) (e := ea) (e' := eb) F9p Nz (ixMem 1 rfl) (ixMem 2 rfl) hIa hIb (by rw [← List.length_append, hs4.2.2.2]; decide) ?_)
    intro D6 h6 us6 F6 N6 hI6
    have hb6 := bits_small (Int.lt_of_lt_of_le (by decide) hs4.1) (Int.lt_of_le_of_lt hs4.2.1 (by decide))
    clear Nz F9p hIa hIb hwa hwb hEv4 hPl
    k_steps
    unfold Hold
    rename_i h6b tk6b t6b F6b N6b
    k_dflt (refine' int_divmod_ctr ((lots[a4] ++ lots[b4]).sum) 4 _ _ T2p T3p hT2p hT3p hOp (by decide) (by decide) hb6 _ _ _ _ _ _ _ _ _ _ _ _ _ _ _ ([(LL + 1 + 1 + 1 + 1, oh6), (LL + 1 + 1 + 1, op3), (LL + 1 + 1, ol3), (LL + 1, oc)]) _ _ ?q26xk1 ?q26xk2 ?q26xk3 ?q26xk4 ?q26xk5 ?q26xk6 ?q26xk7 ?q26xk8 ?q26xk9 ?q26xk10 ?q26xk11 ?q26xkR)
    case q26xk1 => k_asm
    case q26xk2 => assumption
    case q26xk3 => assumption
    case q26xk4 => k_asm
    case q26xk5 => k_asm
    case q26xk6 => exact newsSub N6b (subRot2 (own := [(D6, listOf us6.toArray 0), (lp, tupObj [.int a4 t4, .int b4 u4] e4), (la, listOf usa.toArray ea), (lb, listOf usb.toArray eb), (l9p, listOf [].toArray 0), (DP, LCg.lst (.ref lp :: zs4))] ++ [(LL + 1 + 1 + 1 + 1, oh6), (LL + 1 + 1 + 1, op3), (LL + 1 + 1, ol3), (LL + 1, oc), (DH, LCg.lst ysH), (Dl, listOf lvs.toArray e1), (Dlo, listOf lws.toArray e2)]) (ixSub [6, 7, 8, 9] rfl))
    case q26xk7 => exact offTag0 N6b (fun p hp => List.mem_append_right ([(D6, listOf us6.toArray 0), (lp, tupObj [.int a4 t4, .int b4 u4] e4), (la, listOf usa.toArray ea), (lb, listOf usb.toArray eb), (l9p, listOf [].toArray 0), (DP, LCg.lst (.ref lp :: zs4))] ++ [(LL + 1 + 1 + 1 + 1, oh6), (LL + 1 + 1 + 1, op3), (LL + 1 + 1, ol3), (LL + 1, oc), (DH, LCg.lst ysH), (Dl, listOf lvs.toArray e1), (Dlo, listOf lws.toArray e2)]) (List.mem_append_right TLp hp)) (fun p hp => List.mem_append_left (TLp ++ (T2p ++ T3p)) (((ixSub [6, 7, 8, 9] rfl) : ∀ p ∈ [(LL + 1 + 1 + 1 + 1, oh6), (LL + 1 + 1 + 1, op3), (LL + 1 + 1, ol3), (LL + 1, oc)], p ∈ [(D6, listOf us6.toArray 0), (lp, tupObj [.int a4 t4, .int b4 u4] e4), (la, listOf usa.toArray ea), (lb, listOf usb.toArray eb), (l9p, listOf [].toArray 0), (DP, LCg.lst (.ref lp :: zs4))] ++ [(LL + 1 + 1 + 1 + 1, oh6), (LL + 1 + 1 + 1, op3), (LL + 1 + 1, ol3), (LL + 1, oc), (DH, LCg.lst ysH), (Dl, listOf lvs.toArray e1), (Dlo, listOf lws.toArray e2)]) p hp)) (tabs0 hT2p hT3p) (tagNot (n := 2) (List.forall_mem_cons.mpr ⟨tag_cell dh6, List.forall_mem_cons.mpr ⟨tag_cell dp3, List.forall_mem_cons.mpr ⟨tag_cell dl3, List.forall_mem_cons.mpr ⟨tag_cell dc, (fun _ h => nomatch h)⟩⟩⟩⟩))
    case q26xk8 => k_asm
    case q26xk9 => first | exact rfl | assumption
    case q26xk10 => ktr_room
    case q26xk11 => ktr_units
    refine divPost ?_
    intro lt9 t91 t92 ev9 T2e T3e h9e tk9e F9e N9e D9e hT2e hT3e hOe
    dsimp only
    refine tabsUse hT2e hT3e N9e (fun p hp => List.mem_append_right ((lt9, _) :: [(LL + 1 + 1 + 1 + 1, oh6), (LL + 1 + 1 + 1, op3), (LL + 1 + 1, ol3), (LL + 1, oc)]) hp) ?_
    intro p2 p3 NE
    clear N9e N6b F6b D9e
    k_steps
    unfold Hold
    refine neNo hs4.2.2.1 ?_
    have NE2 := newsSub (xs := [(30, tabObj p2), (37, tabObj p3)] ++ [(LL + 1 + 1 + 1 + 1, oh6), (LL + 1 + 1 + 1, op3), (LL + 1 + 1, ol3), (LL + 1, oc)]) NE (ixSub [0, 1, 3, 4, 5, 6] rfl)
    clear NE
    k_steps
  · k_with_none
    k_with "spliced" => (first | refine args_cons ?_ | refine args_nil ⟨Fr.keep (by assumption) _ _ (by assumption), ?_⟩ | (refine args_nil ?_; try simp only [List.cons_append, List.nil_append]))
    k_with "call ref" => (refine hold ?_)
    k_with "eval ListComp" => (refine hold ?_)
    k_with "CompSrc" => (refine hold ?_)
    k_with "testChain" => (first | with_reducible refine test_link ?_ | refine test_last ?_ | with_unfolding_all refine test_link ?_)
    k_with "exec While Compare cons nil" => (refine hold ?_)
    k_with "compareOp Eq ref ref" => (refine hold ?_)
    k_with "compareOp NotEq ref ref" => (refine hold ?_)
    k_with "exec While Compare cons nil" => (refine hold ?_)
    k_with "compareOp NotEq int int" => (refine hold ?_)
    k_with "compareOp Lt int int" => (refine hold ?_)
    refine ltYes (by omega) ?_
    have hx7 : xs.length ≤ 7 := by omega
    have hx3 : 3 ≤ xs.length := by omega
    k_with "subscriptTail" => ((k_here; (with_reducible show wpAny _ _ (subscriptTail _ _ (Value.ref _) (Value.int (Nat.cast _) _)) _ _ _); k_dflt (refine itemG (by k_asm) (by k_mem) (by assumption) (by omega) ?_)))
    k_with "subscriptTail Name Name ref int" => ((k_here; (with_reducible show wpAny _ _ (subscriptTail _ _ (Value.ref _) (Value.int (Nat.cast _) _)) _ _ _); k_dflt (refine itemG (by k_asm) (by k_mem) (by assumption) (by omega) ?_)))
    k_with "subscriptTail Name Subscript ref int" => ((k_here; (with_reducible show wpAny _ _ (subscriptTail _ _ (Value.ref _) (Value.int (Nat.cast _) _)) _ _ _); k_dflt (refine itemG (by k_asm) (by k_mem) (by assumption) (by omega) ?_)))
    k_steps
    unfold Hold
    k_dflt (refine listComp2 F4 (by with_unfolding_all rfl) (by decide) (by rfl) (by decide) (by rfl) (by rfl) (by decide) ?_)
    k_steps
    rename_i hRr tkRr tRr uRr vRr hRgr FRr NRr hKRr
    refine pairsOuter (own := [(LL + 1 + 1 + 1 + 1, oh), (LL + 1 + 1 + 1, op3), (LL + 1 + 1, ol3), (LL + 1, oc), (Dl, listOf lvs.toArray e1), (Dlo, listOf lws.toArray e2)]) (TG := TG) (T2 := T2w) (T3 := T3w) (xs := xs) (n := xs.length) hRgr FRr NRr (ixSubT 6 [0, 1, 2, 3, 4, 5] rfl) rfl (hx7) rfl hTG hT2w hT3w hOw ?_ ?_
    rotate_left
    · intro i ta I oI C oC Dp m2 h tk ys TLx T2x T3x E' hi hx hC hB F10 N10 off10
      clear FRr NRr hRgr hKRr
      k_steps
      rename_i hR2 tkR2 tR2 uR2 vR2 hRg2 FR2 NR2' hKR2
      refine pairsInner (own := [(LL + 1 + 1 + 1 + 1, oh), (LL + 1 + 1 + 1, op3), (LL + 1 + 1, ol3), (LL + 1, oc), (Dl, listOf lvs.toArray e1), (Dlo, listOf lws.toArray e2)]) hRg2 FR2 NR2' (fun _ h => h) off10 rfl (hi) (hx7) rfl hIx hxb4 (tagApp (xs := [(LL + 1 + 1 + 1 + 1, oh), (LL + 1 + 1 + 1, op3), (LL + 1 + 1, ol3), (LL + 1, oc)]) (tagNot (n := 2) (List.forall_mem_cons.mpr ⟨tag_cell dh, List.forall_mem_cons.mpr ⟨tag_cell dp3, List.forall_mem_cons.mpr ⟨tag_cell dl3, List.forall_mem_cons.mpr ⟨tag_cell dc, (fun _ h => nomatch h)⟩⟩⟩⟩)) (tagNot (n := 0) (tagAll (n := 1) rfl))) hB ?_
      clear hB off10 hRg2 FR2 NR2' hKR2
      (try clear F10); (try clear N10)
      intro j tb x y tx ty I2 oI2 C2 m3 h tk ys TLy T2y T3y E3 hj hqa hqb hC2 hax hay hvx hvy hbits hBy hT2y hT3y hOy F12 N12 off12 hDT
      refine wpAny_tests_one ?_
      k_steps
      unfold Hold
      k_dflt (refine' int_divmod_ctr (x + y) 2 _ _ T2y T3y hT2y hT3y hOy (by decide) (by decide) hbits _ _ _ _ _ _ _ _ _ _ _ _ _ _ _ (([(I2, oI2), (C, C2), (Dp, LCg.lst ys), (I, oI)] ++ [(LL + 1 + 1 + 1 + 1, oh), (LL + 1 + 1 + 1, op3), (LL + 1 + 1, ol3), (LL + 1, oc), (Dl, listOf lvs.toArray e1), (Dlo, listOf lws.toArray e2)]) ++ TLy) _ _ ?q27xk1 ?q27xk2 ?q27xk3 ?q27xk4 ?q27xk5 ?q27xk6 ?q27xk7 ?q27xk8 ?q27xk9 ?q27xk10 ?q27xk11 ?q27xkR)
      case q27xk1 => k_asm
      case q27xk2 => assumption
      case q27xk3 => assumption
      case q27xk4 => k_asm
      case q27xk5 => k_asm
      case q27xk6 => exact newsSub N12 (subRot (own := [(I2, oI2), (C, C2), (Dp, LCg.lst ys), (I, oI)] ++ [(LL + 1 + 1 + 1 + 1, oh), (LL + 1 + 1 + 1, op3), (LL + 1 + 1, ol3), (LL + 1, oc), (Dl, listOf lvs.toArray e1), (Dlo, listOf lws.toArray e2)]))
      case q27xk7 => exact hDT
      case q27xk8 => k_asm
      case q27xk9 => first | exact rfl | assumption
      case q27xk10 => ktr_room
      case q27xk11 => ktr_units
      refine divPost ?_
      intro lt2 t1 t2 ev2 T2z T3z h11 tk11 F11 N13 D11 hT2z hT3z hOz
      dsimp only
      clear hT2y hT3y hOy
      (try clear F12); (try clear N12)
      k_steps
      · rename_i a0 lp hp Fp Np lp1
        exact pairsPutEnd hBy off12 D11 Fp Np lp1 hT2z hT3z hOz hj hax hay a0
      · rename_i a0
        exact pairsSkipEnd hBy off12 D11 F11 N13 hT2z hT3z hOz hj hax hay a0
    intro g9 ysr TLp T2p T3p hBp
    refine pairsUse2 (C := fun z => LCg.FinE _ _ _ _ _ z _) hBp hIx hx3 ?_
    intro lp a4 b4 t4 u4 e4 zs4 x y tx ty hsTp hT2p hT3p hOp hm4 hba4 ha4 hax hay hvx hvy hxy
    unfold LCg.FinE
    intro DP hGP tkGP FGP NGP oGP
    clear FRr NRr hRgr hKRr hBp
    have NP := newsSub (xs := (lp, tupObj [.int a4 t4, .int b4 u4] e4) :: (DP, LCg.lst (.ref lp :: zs4)) :: (LL + 1 + 1 + 1 + 1, oh) :: (LL + 1 + 1 + 1, op3) :: (LL + 1 + 1, ol3) :: (LL + 1, oc) :: (Dl, listOf lvs.toArray e1) :: (Dlo, listOf lws.toArray e2) :: (TG ++ (T2p ++ T3p))) (newsIn NGP (midTL (own := [(DP, LCg.lst (.ref lp :: zs4))] ++ [(LL + 1 + 1 + 1 + 1, oh), (LL + 1 + 1 + 1, op3), (LL + 1 + 1, ol3), (LL + 1, oc), (Dl, listOf lvs.toArray e1), (Dlo, listOf lws.toArray e2)]) _ hm4)) (subMid2 (own' := [(lp, tupObj [.int a4 t4, .int b4 u4] e4), (DP, LCg.lst (.ref lp :: zs4))] ++ [(LL + 1 + 1 + 1 + 1, oh), (LL + 1 + 1 + 1, op3), (LL + 1 + 1, ol3), (LL + 1, oc), (Dl, listOf lvs.toArray e1), (Dlo, listOf lws.toArray e2)]) (own := [(lp, tupObj [.int a4 t4, .int b4 u4] e4), (DP, LCg.lst (.ref lp :: zs4))] ++ [(LL + 1 + 1 + 1 + 1, oh), (LL + 1 + 1 + 1, op3), (LL + 1 + 1, ol3), (LL + 1, oc), (Dl, listOf lvs.toArray e1), (Dlo, listOf lws.toArray e2)]) (fun _ h => h) hsTp)
    have hz := cellOff (xs := [(lp, tupObj [.int a4 t4, .int b4 u4] e4), (DP, LCg.lst (.ref lp :: zs4)), (Dl, listOf lvs.toArray e1), (Dlo, listOf lws.toArray e2)]) NP (ixMem 3 rfl) (tag_cell dp3) (ixSub [0, 1, 6, 7] rfl) (List.forall_mem_cons.mpr ⟨(show (2 : Nat) ≠ 3 by decide), no3 (tagAll (n := 1) rfl) (by decide)⟩)
    have hz1 : @Ne Nat lp (LL + 1 + 1 + 1) := hz _ (.head _)
    have hz2 : @Ne Nat DP (LL + 1 + 1 + 1) := hz _ (.tail _ (.head _))
    have hz3 : @Ne Nat Dl (LL + 1 + 1 + 1) := hz _ (.tail _ (.tail _ (.head _)))
    have hz4 : @Ne Nat Dlo (LL + 1 + 1 + 1) := hz _ (.tail _ (.tail _ (.tail _ (.head _))))
    have hz5 : ∀ p ∈ TG, p.1 ≠ LL + 1 + 1 + 1 := cellOff NP (ixMem 3 rfl) (tag_cell dp3) (fun p hp => midTL (own := [(lp, tupObj [.int a4 t4, .int b4 u4] e4), (DP, LCg.lst (.ref lp :: zs4))] ++ [(LL + 1 + 1 + 1 + 1, oh), (LL + 1 + 1 + 1, op3), (LL + 1 + 1, ol3), (LL + 1, oc), (Dl, listOf lvs.toArray e1), (Dlo, listOf lws.toArray e2)]) p hp) hTG.no3
    have hz6 : ∀ p ∈ T2p, p.1 ≠ LL + 1 + 1 + 1 := cellOff NP (ixMem 3 rfl) (tag_cell dp3) (fun p hp => midT2 (own := [(lp, tupObj [.int a4 t4, .int b4 u4] e4), (DP, LCg.lst (.ref lp :: zs4))] ++ [(LL + 1 + 1 + 1 + 1, oh), (LL + 1 + 1 + 1, op3), (LL + 1 + 1, ol3), (LL + 1, oc), (Dl, listOf lvs.toArray e1), (Dlo, listOf lws.toArray e2)]) p hp) (no3 hT2p.tags (by decide))
    have hz7 : ∀ p ∈ T3p, p.1 ≠ LL + 1 + 1 + 1 := cellOff NP (ixMem 3 rfl) (tag_cell dp3) (fun p hp => midT3 (own := [(lp, tupObj [.int a4 t4, .int b4 u4] e4), (DP, LCg.lst (.ref lp :: zs4))] ++ [(LL + 1 + 1 + 1 + 1, oh), (LL + 1 + 1 + 1, op3), (LL + 1 + 1, ol3), (LL + 1, oc), (Dl, listOf lvs.toArray e1), (Dlo, listOf lws.toArray e2)]) p hp) (no3 hT3p.tags (by decide))
    clear NGP oGP hz
    dsimp only
    k_steps
    rename_i h6 op6 dp6 ln h6b F6 N6 ml6
    have N7 := newsSub (xs := (Dlo, listOf lws.toArray e2) :: (ln, listOf [.int x tx, .int y ty].toArray 0) :: (Dl, listOf lvs.toArray e1) :: (lp, tupObj [.int a4 t4, .int b4 u4] e4) :: (LL + 1 + 1 + 1 + 1, oh) :: (LL + 1 + 1 + 1, op6) :: (LL + 1 + 1, ol3) :: (LL + 1, oc) :: (TG ++ (T2p ++ T3p))) N6 (ixSubT 9 [8, 0, 7, 1, 3, 4, 5, 6] rfl)
    have hln : @Ne Nat ln Dlo := (Nat.ne_of_lt ml6.2.2.2.2.2.2.2.1).symm
    clear N6 hz1 hz2 hz3 hz4 hz5 hz6 hz7 ml6
    have hne7 : ∀ q ∈ (ln, listOf [.int x tx, .int y ty].toArray 0) :: (Dl, listOf lvs.toArray e1) :: ([(lp, tupObj [.int a4 t4, .int b4 u4] e4), (LL + 1 + 1 + 1 + 1, oh), (LL + 1 + 1 + 1, op6), (LL + 1 + 1, ol3), (LL + 1, oc)] ++ (TG ++ (T2p ++ T3p))), q.1 ≠ Dlo := List.forall_mem_cons.mpr ⟨hln, List.forall_mem_cons.mpr ⟨hDlo, List.forall_mem_append.mpr ⟨cellOff N7 (.head _) (tag_list lws e2) (ixSub [3, 4, 5, 6, 7] rfl) (List.forall_mem_cons.mpr ⟨(show (2 : Nat) ≠ 1 by decide), no3 (n := 3) (k := 1) (List.forall_mem_cons.mpr ⟨tag_cell dh, List.forall_mem_cons.mpr ⟨tag_cell dp6, List.forall_mem_cons.mpr ⟨tag_cell dl3, List.forall_mem_cons.mpr ⟨tag_cell dc, (fun _ h => nomatch h)⟩⟩⟩⟩) (by decide)⟩), List.forall_mem_append.mpr ⟨hTGo, cellOff N7 (.head _) (tag_list lws e2) (fun p hp => List.mem_append_right ([(Dlo, listOf lws.toArray e2), (ln, listOf [.int x tx, .int y ty].toArray 0), (Dl, listOf lvs.toArray e1), (lp, tupObj [.int a4 t4, .int b4 u4] e4), (LL + 1 + 1 + 1 + 1, oh), (LL + 1 + 1 + 1, op6), (LL + 1 + 1, ol3), (LL + 1, oc)]) (List.mem_append_right TG hp)) (no3 (tabs0 hT2p hT3p) (by decide))⟩⟩⟩⟩
    k_dflt (refine appendG F6 N7 hne7 (by omega) ?_)
    intro h7 F7 N8
    clear N7 F6 hne7
    k_with "compareOp NotIn int ref" => (refine hold ?_)
    k_steps
    unfold Hold
    k_dflt (refine LCt.ListComp_T (F₀ := F7) (by with_unfolding_all rfl) (by decide) (by rfl) (by decide) (by rfl) ?_)
    k_steps
    rename_i hR8 tkR8 tR8 uR8 vR8 hRg8 FR8 NR8 hKR8
    k_dflt (refine LCt.CompSrcT.range (n := xs.length) (by rfl) FR8 NR8 hRg8 (small_one (by omega) (by omega) (by omega) (by omega)) (rangeSize_k (by omega)) (by rw [sizeLine_eq]; omega) ?_)
    intro g89
    k_dflt (refine stayComp (a := a4) (b := b4) hIx ?_ ?_ hx7)
    rotate_left
    · intro i ta z tz ys I oI C oC Dn m₂ h tk E' hy haz hvz hi hx hC F10 N10 off
      clear FR8 NR8 hRg8 hKR8
      k_steps
      unfold Hold
      k_dflt (refine notInPair (a := a4) (b := b4) N10 (ixMem 6 rfl) (fun hab => ?_) (fun hab => ?_))
      · k_steps
        exact staySkipEnd hy hab F10 N10 off
      · k_steps
        exact stayPutEnd hy haz hab F10 N10 off
    intro ysN hyN
    unfold LCg.FinE
    intro DN hGN tkGN FGN NGN oGN
    clear FR8 NR8 hRg8 hKR8
    have hDN := oGN.1.symm
    have N9 := newsSub (xs := (DN, LCg.lst ysN) :: (Dlo, listOf (lws ++ [Value.ref ln]).toArray (e2 + 1)) :: (ln, listOf [.int x tx, .int y ty].toArray 0) :: (LL + 1 + 1 + 1 + 1, oh) :: (LL + 1 + 1 + 1, op6) :: (LL + 1 + 1, ol3) :: (LL + 1, oc) :: (TG ++ (T2p ++ T3p))) NGN (ixSubT 9 [0, 1, 2, 5, 6, 7, 8] rfl)
    clear NGN oGN
    have hz := cellOff (xs := [(DN, LCg.lst ysN), (Dlo, listOf (lws ++ [Value.ref ln]).toArray (e2 + 1)), (ln, listOf [.int x tx, .int y ty].toArray 0)]) N9 (ixMem 5 rfl) (tag_cell dl3) (ixSub [0, 1, 2] rfl) (no3 (tagAll (n := 1) rfl) (by decide))
    have hz1 : @Ne Nat DN (LL + 1 + 1) := hz _ (.head _)
    have hz2 : @Ne Nat Dlo (LL + 1 + 1) := hz _ (.tail _ (.head _))
    have hz3 : @Ne Nat ln (LL + 1 + 1) := hz _ (.tail _ (.tail _ (.head _)))
    have hz5 : ∀ p ∈ TG, p.1 ≠ LL + 1 + 1 := cellOff N9 (ixMem 5 rfl) (tag_cell dl3) (fun p hp => midTL (own := [(DN, LCg.lst ysN), (Dlo, listOf (lws ++ [Value.ref ln]).toArray (e2 + 1)), (ln, listOf [.int x tx, .int y ty].toArray 0), (LL + 1 + 1 + 1 + 1, oh), (LL + 1 + 1 + 1, op6), (LL + 1 + 1, ol3), (LL + 1, oc)]) p hp) hTG.no3
    have hz6 : ∀ p ∈ T2p, p.1 ≠ LL + 1 + 1 := cellOff N9 (ixMem 5 rfl) (tag_cell dl3) (fun p hp => midT2 (own := [(DN, LCg.lst ysN), (Dlo, listOf (lws ++ [Value.ref ln]).toArray (e2 + 1)), (ln, listOf [.int x tx, .int y ty].toArray 0), (LL + 1 + 1 + 1 + 1, oh), (LL + 1 + 1 + 1, op6), (LL + 1 + 1, ol3), (LL + 1, oc)]) p hp) (no3 hT2p.tags (by decide))
    have hz7 : ∀ p ∈ T3p, p.1 ≠ LL + 1 + 1 := cellOff N9 (ixMem 5 rfl) (tag_cell dl3) (fun p hp => midT3 (own := [(DN, LCg.lst ysN), (Dlo, listOf (lws ++ [Value.ref ln]).toArray (e2 + 1)), (ln, listOf [.int x tx, .int y ty].toArray 0), (LL + 1 + 1 + 1 + 1, oh), (LL + 1 + 1 + 1, op6), (LL + 1 + 1, ol3), (LL + 1, oc)]) p hp) (no3 hT3p.tags (by decide))
    clear hz
    dsimp only
    k_steps
    rename_i h9 ol9 F9 N9' dl9
    have NJ := newsSub (xs := (LL + 1 + 1 + 1 + 1, oh) :: (LL + 1 + 1 + 1, op6) :: (LL + 1 + 1, ol9) :: (LL + 1, oc) :: (DN, LCg.lst ysN) :: (Dlo, listOf (lws ++ [Value.ref ln]).toArray (e2 + 1)) :: ((((ln, listOf [.int x tx, .int y ty].toArray 0)) :: TG) ++ (T2p ++ T3p))) N9' (ixSubT 7 [3, 4, 5, 6, 0, 1, 2] rfl)
    exact WhileStep.intro (n' := n') F9 NJ (by omega) (WJ.mk hT2p hT3p hOp dl9 dp6 (if_pos rfl) hyN (by rw [stayXsLen hx7 ha4 hba4]; omega) (fun z hz => hxb z (stayXsIn z hz)) hTG.list (List.forall_mem_cons.mpr ⟨hln, hTGo⟩) hDN ((hAG.mono fun p hp => .tail _ hp).append (AreL.one (.head _) (.cons _ _ (.cons _ _ .nil)))) (by rw [List.length_append, List.length_singleton]; omega) (evPut hev (hxb x (List.mem_of_getElem? hax)) (hxb y (List.mem_of_getElem? hay)) hxy))
)
end
end
end Mine
theorem PySem.Challenge.cw_ga0003_01_holds : PySem.Challenge.rw_ga0003_01.Holds := by
  exact Mine.cw
