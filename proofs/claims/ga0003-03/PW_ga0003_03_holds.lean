import PyProof.Rows.All
import Wide.All
import OpenK.AllK
import Wide.FinOn
import PySem.Challenge.RW_ga0003_03
open PySem PySem.W PyProof.Rows PySem.Calls
set_option Elab.async false
set_option maxRecDepth 100000
set_option maxHeartbeats 8000000
namespace Mine
open_top hd for PySem.Challenge.rw_ga0003_03
section
/-- the two lists of entries have no address in common -/
def Off (xs ys : List (Addr × Obj)) : Prop := ∀ p ∈ xs, ∀ q ∈ ys, p.1 ≠ q.1

/-- a ledger may be read in any order, in part -/
theorem newsSub {h₀ h : Heap} {L : Addr} {xs ys : List (Addr × Obj)} (N : News h₀ L h ys) (hs : ∀ p ∈ xs, p ∈ ys) : News h₀ L h xs := fun p hp => N p (hs p hp)

/-- what a call of the def at f does, from any frame: hd is what it may read and turn of the caller's ledger -/
def Ctr (prog : Program) (w : World) (K : Frag) (p : Program) (loose : List Str) (mean : ExcName → Option Value) (mg mb : Str → Option Value) (f : Addr) (dN uN : Nat) (args : List Value) (hd : List (Addr × Obj)) (Post : Value → List (Addr × Obj) → Prop) : Prop :=
  ∀ (dp un : Nat) (gd : Option (List Code)) (cn : Str) (cs : Scope) (a : Addr) (ccd : Value) (cl : List (Str × Addr)) (outer : List Env) (A₀ : Around) (base h₀ : Heap) (L : Addr) (m : Str → Option Value) (s : Shared) (rest : List (Addr × Obj)) (Q E : Value → Shared → Prop),
    Below A₀ base outer h₀ → CodeHd base 34 30 → CodeHd base 41 37 → Fr h₀ L s.heap m → K.In h₀ → News h₀ L s.heap (hd ++ rest) → Off hd rest → Top p loose mean mg mb h₀ → cs.kind = .function →
    dp + dN < recursionLimit → un + uN < cLine →
    (∀ (r : Value) (hd' : List (Addr × Obj)) (h' : Heap) (tk' : Nat), Fr h₀ L h' m → News h₀ L h' (hd' ++ rest) → Off hd' rest → Post r hd' → Q r { s with heap := h', toks := tk' }) →
    wpAny (model prog w) (ktrTop dp un gd cn cs L a ccd cl outer) (call (.ref f) args) Q E s

theorem Ctr.up {prog : Program} {w : World} {K : Frag} {p : Program} {loose : List Str} {mean : ExcName → Option Value} {mg mb : Str → Option Value} {f : Addr} {dN uN dM uM : Nat} {args : List Value} {hd : List (Addr × Obj)} {Post : Value → List (Addr × Obj) → Prop}
    (h : Ctr prog w K p loose mean mg mb f dN uN args hd Post) (h1 : dN ≤ dM) (h2 : uN ≤ uM) : Ctr prog w K p loose mean mg mb f dM uM args hd Post :=
  fun dp un gd cn cs a ccd cl outer A₀ base h₀ L m s rest Q E b1 b2 b3 b4 b5 b6 b7 b8 b9 b10 b11 b12 => h dp un gd cn cs a ccd cl outer A₀ base h₀ L m s rest Q E b1 b2 b3 b4 b5 b6 b7 b8 b9 (by omega) (by omega) b12

section
variable {prog : Program} {w : World} {A₀ A : Around} {s : Shared} {base h₀ : Heap} {outer : List Env} {L : Addr} {m : Str → Option Value} {env : Env} {hd rest : List (Addr × Obj)}
  {R : Result → Shared → Prop} {name qual : Str} {params : Arguments} {body : List Stmt} {scope : Scope} {cl : List (Str × Addr)} {dV kV doc pm cdv ct : Value} {an : Option Addr} {fo : Obj} {f : Addr} {args : Args} {binds : List (Str × Value)}

/-- a def with no cells is entered: what is not handed over stands in the new ground -/
theorem callF_plain (B : Below A₀ base outer h₀) (F : Fr h₀ L s.heap m) (N : News h₀ L s.heap (hd ++ rest)) (D : Off hd rest) (hlim : h₀.NoLimit) (hA : A.frames = some (env :: outer)) (hf : env.frame = some L) (hke : env.scope.kind = .function)
    (ho : s.heap.get? f = some fo) (hdat : fo.data = .func (fnX name qual params body scope cl dV kV doc pm an cdv ct)) (hcd : s.heap.CodeRec cdv qual) (hroom : A.depth < recursionLimit)
    (hbind : BindsTo s (fnX name qual params body scope cl dV kV doc pm an cdv ct) args binds) (hloc : ∀ y ∈ binds, scope.names.lookup y.1 = some .local)
    (h : ∀ g L' h₁, Fr h₀ L g m → Fr g L' h₁ (fun y => binds.reverse.lookup y) → News g L' h₁ hd → Below A base (env :: outer) g → h₀.StaysIn g → (∀ q ∈ rest, g.get? q.1 = some q.2) → (∀ p ∈ hd, p.1 < L') →
      wpAny (model prog w) (A.deeper (envX qual scope L' f cdv cl)) (execs body (envX qual scope L' f cdv cl))
        (fun fl s' => LeaveK h₀ L m g R (match fl with | .ret v => v | _ => .none) s')
        (fun e s' => wpAny (model prog w) (A.deeper (envX qual scope L' f cdv cl)) (leaving (envX qual scope L' f cdv cl) e) (fun _ s'' => R (.error e) s'') (fun e' s'' => R (.error e') s'') s')
        { s with heap := h₁, toks := s.toks + binds.length })
    (hcell : ∀ x ∈ scope.names, x.2 ≠ .cell) (hco : scope.isCoroutine = false) (hgen : scope.isGenerator = false) (hk : scope.kind = .function) : codeAny (model prog w) A (.call (.ref f) args) R s := by
  have NH : News h₀ L s.heap hd := newsSub N fun p hp => List.mem_append_left _ hp
  obtain ⟨FG, BG, st, lv⟩ := groundX (R := R) B F NH hA hf hke
  refine codeAny_call_def (fd := fnX name qual params body scope cl dV kV doc pm an cdv ct) (body := body) (binds := binds) hroom ho hdat (hlim.keeps F.keep) hcd rfl hbind hcell hloc (fun h₁ hns hk₁ => ?_) hco hgen hk
  refine wpAny_mono (h _ s.heap.objs.size h₁ FG ⟨hns, fun b o e => hk₁ b o (of_hideAll _ e), Nat.le_of_eq (hideAll_size _ _)⟩ (fun p hp => ?_) BG st (fun q hq => ?_) fun p hp => Heap.lt_size (NH p hp).1) (fun fl s' hl => lv _ _ hl) fun _ _ y => y
  · exact ⟨hk₁ _ _ (NH p hp).1, Nat.ne_of_lt (Heap.lt_size (NH p hp).1), hideAll_none _ (List.mem_map_of_mem hp)⟩
  · refine hideAll_get _ (N q (List.mem_append_right _ hq)).1 fun hm => ?_
    obtain ⟨p, hp, e⟩ := List.mem_map.mp hm
    exact D p hp q hq e

/-- a def with cells is entered -/
theorem callF_cells (B : Below A₀ base outer h₀) (F : Fr h₀ L s.heap m) (N : News h₀ L s.heap (hd ++ rest)) (D : Off hd rest) (hlim : h₀.NoLimit) (hA : A.frames = some (env :: outer)) (hf : env.frame = some L) (hke : env.scope.kind = .function)
    (ho : s.heap.get? f = some fo) (hdat : fo.data = .func (fnX name qual params body scope [] dV kV doc pm an cdv ct)) (hcd : s.heap.CodeRec cdv qual) (hroom : A.depth < recursionLimit)
    (hbind : BindsTo s (fnX name qual params body scope [] dV kV doc pm an cdv ct) args binds)
    (hkind : ∀ n, ∀ x ∈ binds, scope.names.lookup x.1 = some .local ∨ (scope.names.lookup x.1 = some .cell ∧ ((cellsFrom n scope.names []).lookup x.1).isSome = true))
    (hnd : ((cellsFrom 0 scope.names []).map (·.1)).Nodup)
    (h : ∀ g L' h₁ tk cells, Fr h₀ L g m → Fr g L' h₁ (bindL (envOfC qual scope L' f cdv).kindOf binds fun _ => none) → News g L' h₁ (cells ++ hd) →
      CellsAre (bindC (envOfC qual scope L' f cdv).kindOf binds fun _ => none) (cellsFrom (L' + 1) scope.names []) cells → Below A base (env :: outer) g → h₀.StaysIn g → (∀ q ∈ rest, g.get? q.1 = some q.2) → (∀ p ∈ hd, p.1 < L') →
      wpAny (model prog w) (A.deeper (envOfC qual scope L' f cdv)) (execs body (envOfC qual scope L' f cdv))
        (fun fl s' => LeaveK h₀ L m g R (match fl with | .ret v => v | _ => .none) s')
        (fun e s' => wpAny (model prog w) (A.deeper (envOfC qual scope L' f cdv)) (leaving (envOfC qual scope L' f cdv) e) (fun _ s'' => R (.error e) s'') (fun e' s'' => R (.error e') s'') s')
        { s with heap := h₁, toks := tk })
    (hco : scope.isCoroutine = false) (hgen : scope.isGenerator = false) (hk : scope.kind = .function) : codeAny (model prog w) A (.call (.ref f) args) R s := by
  have NH : News h₀ L s.heap hd := newsSub N fun p hp => List.mem_append_left _ hp
  obtain ⟨FG, BG, st, lv⟩ := groundX (R := R) B F NH hA hf hke
  refine codeAny_call_function hroom ho hdat hco hgen rfl hcd (hbind _ _ _ _ ?_)
  refine wpAny_newFunctionEnv_cells hk (hkind _) fun env' he s' x => ?_
  subst he
  refine ⟨(hlim.keeps F.keep).keeps x.toInCall.keep, codeAny_func ?_⟩
  obtain ⟨h₁, tk, rfl, _⟩ := x.done
  have hk₁ := x.toInCall.keep
  obtain ⟨cells, NC, Y⟩ := Cl.news (h₀ := s.heap) (Nat.le_refl _) fun n c hm => ⟨x.cell n c (lookup_of_mem_nodup (cellsFrom_names scope.names 0 (s.heap.objs.size + 1) [] [] rfl ▸ hnd) hm), x.above n c hm⟩
  refine wpAny_mono (h _ s.heap.objs.size h₁ tk cells FG ⟨x.toInCall.ns, fun b o e => hk₁ b o (of_hideAll _ e), Nat.le_of_eq (hideAll_size _ _)⟩ (fun p hp => ?_) Y BG st (fun q hq => ?_) fun p hp => Heap.lt_size (NH p hp).1) (fun fl s' hl => lv _ _ hl) fun _ _ y => y
  · rcases List.mem_append.mp hp with hp | hp
    · refine ⟨(NC p hp).1, (NC p hp).2.1, ?_⟩
      cases q : (hideAll s.heap (hd.map (·.1))).get? p.1 with
      | none => rfl
      | some o => have := of_hideAll _ q; rw [(NC p hp).2.2] at this; cases this
    · exact ⟨hk₁ _ _ (NH p hp).1, Nat.ne_of_lt (Heap.lt_size (NH p hp).1), hideAll_none _ (List.mem_map_of_mem hp)⟩
  · refine hideAll_get _ (N q (List.mem_append_right _ hq)).1 fun hm => ?_
    obtain ⟨p, hp, e⟩ := List.mem_map.mp hm
    exact D p hp q hq e
end

section
variable {prog : Program} {w : World} {A A₀ : Around} {s : Shared} {K : Frag} {L : Addr} {h₀ base : Heap} {m mg mb : Str → Option Value} {hd rest : List (Addr × Obj)} {p : Program} {loose : List Str} {mean : ExcName → Option Value}
  {env : Env} {outer : List Env} {R : Result → Shared → Prop} {name qual : Str} {params : Arguments} {body : List Stmt} {scope : Scope} {cl : List (Str × Addr)} {dV kV doc pm cdv ct oc ctv : Value} {an od : Option Addr} {osl : Array (Option Value)} {f c' : Addr} {args : Args} {binds : List (Str × Value)}

theorem codeF_def
    (B : Below A₀ base outer h₀) (F : Fr h₀ L s.heap m) (X₀ : K.In h₀) (N : News h₀ L s.heap (hd ++ rest)) (D : Off hd rest) (T : Top p loose mean mg mb h₀) (hA : A.frames = some (env :: outer)) (hf : env.frame = some L) (hke : env.scope.kind = .function)
    (ho : K.lookup f = some ⟨oc, od, .func (fnOf name qual params body scope dV kV doc pm an cdv ct), osl⟩) (hcd : codeIn K cdv qual = true) (hroom : A.depth < recursionLimit)
    (hbind : BindsTo s (fnOf name qual params body scope dV kV doc pm an cdv ct) args binds) (hloc : ∀ y ∈ binds, scope.names.lookup y.1 = some .local)
    (h : ∀ g L' h₁, Fr h₀ L g m → Fr g L' h₁ (fun y => binds.reverse.lookup y) → News g L' h₁ hd → Below A base (env :: outer) g → K.In g → Top p loose mean mg mb g → (∀ q ∈ rest, g.get? q.1 = some q.2) → (∀ p ∈ hd, p.1 < L') →
      wpAny (model prog w) (A.deeper (envOf qual scope L' f cdv)) (execs body (envOf qual scope L' f cdv))
        (fun fl s' => LeaveK h₀ L m g R (match fl with | .ret v => v | _ => .none) s')
        (fun e s' => wpAny (model prog w) (A.deeper (envOf qual scope L' f cdv)) (leaving (envOf qual scope L' f cdv) e) (fun _ s'' => R (.error e) s'') (fun e' s'' => R (.error e') s'') s')
        { s with heap := h₁, toks := s.toks + binds.length })
    (hco : scope.isCoroutine = false) (hgen : scope.isGenerator = false) (hk : scope.kind = .function)
    (hcell : ∀ x ∈ scope.names, x.2 ≠ .cell) : codeAny (model prog w) A (.call (.ref f) args) R s :=
  callF_plain (cl := []) B F N D T.nolimit hA hf hke ((X₀.keeps F.keep) _ _ ho) rfl (codeRec_of (X₀.keeps F.keep) hcd) hroom hbind hloc (fun g L' h₁ FG F' N' B' st RR l => h g L' h₁ FG F' N' B' (X₀.keeps st) (T.keeps st) RR l) hcell hco hgen hk

theorem codeF_defC
    (B : Below A₀ base outer h₀) (F : Fr h₀ L s.heap m) (X₀ : K.In h₀) (N : News h₀ L s.heap (hd ++ rest)) (D : Off hd rest) (T : Top p loose mean mg mb h₀) (hA : A.frames = some (env :: outer)) (hf : env.frame = some L) (hke : env.scope.kind = .function)
    (ho : K.lookup f = some ⟨oc, od, .func (fnOf name qual params body scope dV kV doc pm an cdv ct), osl⟩) (hcd : codeIn K cdv qual = true) (hroom : A.depth < recursionLimit)
    (hbind : BindsTo s (fnOf name qual params body scope dV kV doc pm an cdv ct) args binds) (hkind : (binds.all fun y => scope.names.lookup y.1 == some .local || scope.names.lookup y.1 == some .cell) = true)
    (hnd : ((cellsFrom 0 scope.names []).map (·.1)).Nodup)
    (h : ∀ g L' h₁ tk cells, Fr h₀ L g m → Fr g L' h₁ (bindL (envOfC qual scope L' f cdv).kindOf binds fun _ => none) → News g L' h₁ (cells ++ hd) →
      CellsAre (bindC (envOfC qual scope L' f cdv).kindOf binds fun _ => none) (cellsFrom (L' + 1) scope.names []) cells → Below A base (env :: outer) g → K.In g → Top p loose mean mg mb g → (∀ q ∈ rest, g.get? q.1 = some q.2) → (∀ p ∈ hd, p.1 < L') →
      wpAny (model prog w) (A.deeper (envOfC qual scope L' f cdv)) (execs body (envOfC qual scope L' f cdv))
        (fun fl s' => LeaveK h₀ L m g R (match fl with | .ret v => v | _ => .none) s')
        (fun e s' => wpAny (model prog w) (A.deeper (envOfC qual scope L' f cdv)) (leaving (envOfC qual scope L' f cdv) e) (fun _ s'' => R (.error e) s'') (fun e' s'' => R (.error e') s'') s')
        { s with heap := h₁, toks := tk })
    (hco : scope.isCoroutine = false) (hgen : scope.isGenerator = false) (hk : scope.kind = .function) : codeAny (model prog w) A (.call (.ref f) args) R s :=
  callF_cells B F N D T.nolimit hA hf hke ((X₀.keeps F.keep) _ _ ho) rfl (codeRec_of (X₀.keeps F.keep) hcd) hroom hbind (kindsX hkind) hnd (fun g L' h₁ tk cells FG F' N' Y B' st RR l => h g L' h₁ tk cells FG F' N' Y B' (X₀.keeps st) (T.keeps st) RR l) hco hgen hk

theorem codeF_nest
    (B : Below A₀ base outer h₀) (F : Fr h₀ L s.heap m) (X₀ : K.In h₀) (N : News h₀ L s.heap (hd ++ rest)) (D : Off hd rest) (T : Top p loose mean mg mb h₀) (hA : A.frames = some (env :: outer)) (hf : env.frame = some L) (hke : env.scope.kind = .function)
    (ho : (f, fnMade name qual params body scope cl doc pm c' ctv) ∈ hd ++ rest) (hcd : s.heap.CodeRec (.ref c') qual) (hroom : A.depth < recursionLimit)
    (hbind : BindsTo s (fnX name qual params body scope cl .none .none doc pm none (.ref c') ctv) args binds) (hloc : ∀ y ∈ binds, scope.names.lookup y.1 = some .local)
    (h : ∀ g L' h₁, Fr h₀ L g m → Fr g L' h₁ (fun y => binds.reverse.lookup y) → News g L' h₁ hd → Below A base (env :: outer) g → K.In g → Top p loose mean mg mb g → (∀ q ∈ rest, g.get? q.1 = some q.2) → (∀ p ∈ hd, p.1 < L') →
      wpAny (model prog w) (A.deeper (envX qual scope L' f (.ref c') cl)) (execs body (envX qual scope L' f (.ref c') cl))
        (fun fl s' => LeaveK h₀ L m g R (match fl with | .ret v => v | _ => .none) s')
        (fun e s' => wpAny (model prog w) (A.deeper (envX qual scope L' f (.ref c') cl)) (leaving (envX qual scope L' f (.ref c') cl) e) (fun _ s'' => R (.error e) s'') (fun e' s'' => R (.error e') s'') s')
        { s with heap := h₁, toks := s.toks + binds.length })
    (hco : scope.isCoroutine = false) (hgen : scope.isGenerator = false) (hk : scope.kind = .function)
    (hcell : ∀ x ∈ scope.names, x.2 ≠ .cell) : codeAny (model prog w) A (.call (.ref f) args) R s :=
  callF_plain (cl := cl) B F N D T.nolimit hA hf hke (N _ ho).1 rfl hcd hroom hbind hloc (fun g L' h₁ FG F' N' B' st RR l => h g L' h₁ FG F' N' B' (X₀.keeps st) (T.keeps st) RR l) hcell hco hgen hk
end

section
variable {h₀ g h' : Heap} {L L' : Addr} {m m' : Str → Option Value} {s : Shared} {rest hd' : List (Addr × Obj)} {Q : Value → Shared → Prop} {Post : Value → List (Addr × Obj) → Prop} {r : Value} {tk' : Nat}
/-- the end of a contract's walk -/
theorem ctr_ret (hret : ∀ (r : Value) (hd' : List (Addr × Obj)) (h' : Heap) (tk' : Nat), Fr h₀ L h' m → News h₀ L h' (hd' ++ rest) → Off hd' rest → Post r hd' → Q r { s with heap := h', toks := tk' })
    (NR : News h₀ L s.heap rest) (RR : ∀ q ∈ rest, g.get? q.1 = some q.2) (F' : Fr g L' h' m') (N' : News g L' h' hd') (kF : Fr h₀ L h' m) (kN : News h₀ L h' hd') (hP : Post r hd') :
    Q r { s with heap := h', toks := tk' } := by
  refine hret r hd' h' tk' kF (fun p hp => ?_) (fun p hp q hq e => ?_) hP
  · rcases List.mem_append.mp hp with hp | hp
    · exact kN p hp
    · exact ⟨F'.keep _ _ (RR p hp), (NR p hp).2⟩
  · have := (N' p hp).2.2
    rw [e, RR q hq] at this
    cases this
end

theorem Off.cons {a : Addr} {o : Obj} {xs ys : List (Addr × Obj)} (h : ∀ q ∈ ys, q.1 ≠ a) (t : Off xs ys) : Off ((a, o) :: xs) ys := fun p hp q hq => (List.mem_cons.mp hp).elim (fun e => by rw [e]; exact fun e2 => h q hq e2.symm) fun hp => t p hp q hq
theorem Off.symm {xs ys : List (Addr × Obj)} (h : Off xs ys) : Off ys xs := fun p hp q hq e => h q hq p hp e.symm
theorem Off.nilR (xs : List (Addr × Obj)) : Off xs [] := fun _ _ _ hq => nomatch hq
theorem offNil (xs : List (Addr × Obj)) : Off [] xs := fun _ hp => nomatch hp
theorem newsLt {h₀ h : Heap} {L : Addr} {xs : List (Addr × Obj)} (N : News h₀ L h xs) : ∀ p ∈ xs, p.1 < h.objs.size := fun p hp => Heap.lt_size (N p hp).1

theorem foldReplicate (v : Value) (k : Nat) : List.foldl (fun x1 x2 => x1 ++ x2) #[] (List.replicate k #[v]) = (List.replicate k v).toArray := by
  have h : ∀ (k : Nat) (acc : Array Value), List.foldl (fun x1 x2 => x1 ++ x2) acc (List.replicate k #[v]) = acc ++ (List.replicate k v).toArray := by
    intro k
    induction k with
    | zero => intro acc; simp
    | succ k ih => intro acc; rw [List.replicate_succ, List.foldl_cons, ih, List.replicate_succ]; apply Array.toList_inj.mp; simp
  rw [h]; simp

section
variable {prog : Program} {w : World} {A : Around} {E : Value → Shared → Prop} {s : Shared} {L : Addr} {h₀ : Heap} {m : Str → Option Value} {news : List (Addr × Obj)}
/-- [v] * k -/
theorem mulK {l : Addr} {v : Value} {c k : Nat} {x : Int} {u : Tok} {Q : Value → Shared → Prop} (F : Fr h₀ L s.heap m) (N : News h₀ L s.heap news) (hm : (l, listOf [v].toArray c) ∈ news) (e : x = (k : Int)) (hx : k ≤ 2 ^ 24)
    (h : ∀ l' h' vs, Fr h₀ L h' m → vs = List.replicate k v → News h₀ L h' ((l', listOf vs.toArray 0) :: news) → (∀ p ∈ news, p.1 < l') → Q (.ref l') { s with heap := h' }) :
    wpAny (model prog w) A (binaryOp .Mult (.ref l) (.int x u)) Q E s := by
  subst e
  refine mul_list F N (N _ hm).1 (by omega) (by omega) (by simp; omega) fun h' F' N' => ?_
  rw [if_neg (by simp)] at N'
  rw [foldReplicate] at N'
  exact h _ h' _ F' rfl N' (newsLt N)
end
end
section
section
variable {prog : Program} {w : World} {A : Around} {E : Value → Shared → Prop} {s : Shared} {a b n x : Int} {t u : Tok} {Q : Value → Shared → Prop}
theorem rsh1 (h : Q (.int (a / 2) s.toks) { s with toks := s.toks + 1 }) : wpAny (model prog w) A (binaryOp .RShift (.int a t) (.int 1 u)) Q E s := by
  refine rshift_int (by omega) ?_
  have e : a.fdiv (2 ^ Int.toNat 1) = a / 2 := by
    rw [Int.fdiv_eq_ediv_of_nonneg _ (by decide)]; rfl
  rw [e]; exact h
theorem rshN {lo hi : Nat} (h : Q (.int (((lo + hi) / 2 : Nat) : Int) s.toks) { s with toks := s.toks + 1 }) : wpAny (model prog w) A (binaryOp .RShift (.int ((lo : Int) + hi) t) (.int 1 u)) Q E s := by
  refine rsh1 ?_
  have e : ((lo : Int) + hi) / 2 = (((lo + hi) / 2 : Nat) : Int) := by simp
  rw [e]; exact h
theorem rshG (hn : 0 ≤ n) (h : ∀ v, v = a / 2 ^ n.toNat → Q (.int v s.toks) { s with toks := s.toks + 1 }) : wpAny (model prog w) A (binaryOp .RShift (.int a t) (.int n u)) Q E s :=
  rshift_int hn (h _ (Int.fdiv_eq_ediv_of_nonneg _ (Int.pow_nonneg (by decide))))
theorem lshG (hn : 0 ≤ n) (hb : (Builtin.Int.intBits a : Int) + n ≤ 2 ^ 27) (h : ∀ v, v = a * 2 ^ n.toNat → Q (.int v s.toks) { s with toks := s.toks + 1 }) : wpAny (model prog w) A (binaryOp .LShift (.int a t) (.int n u)) Q E s :=
  lshift_int hn hb (h _ rfl)
theorem mulG (hm : IntMulOk a b) (h : ∀ v, v = a * b → Q (.int v s.toks) { s with toks := s.toks + 1 }) : wpAny (model prog w) A (binaryOp .Mult (.int a t) (.int b u)) Q E s :=
  PyProof.Rows.mul_int (h _ rfl) hm

theorem natAnd_high (x k : Nat) : x &&& (x / 2 ^ k * 2 ^ k) = x / 2 ^ k * 2 ^ k := by
  apply Nat.eq_of_testBit_eq
  intro i
  rw [Nat.testBit_and, ← Nat.shiftLeft_eq, Nat.testBit_shiftLeft, Nat.testBit_div_two_pow]
  by_cases h : i ≥ k
  · rw [Nat.sub_add_cancel h]; simp
  · simp [h]
theorem bitAnd_nat (x y : Nat) : Builtin.bitAnd (x : Int) (y : Int) = ((x &&& y : Nat) : Int) := by
  simp [Builtin.bitAnd]
theorem bitXor_high {x : Int} (hx : 0 ≤ x) (k : Nat) : Builtin.bitXor x (x / 2 ^ k * 2 ^ k) = x % 2 ^ k := by
  obtain ⟨y, rfl⟩ := Int.eq_ofNat_of_zero_le hx
  have e : ((y : Int) / 2 ^ k * 2 ^ k) = ((y / 2 ^ k * 2 ^ k : Nat) : Int) := by simp
  rw [bitXor_and, e, bitAnd_nat, natAnd_high]
  have h := Nat.div_add_mod y (2 ^ k)
  have e2 : ((y : Int) % 2 ^ k) = ((y % 2 ^ k : Nat) : Int) := by simp
  rw [e2]
  rw [Nat.mul_comm] at h
  omega
theorem xorG {k : Nat} {v : Int} (hx : 0 ≤ x) (hv : v = x / 2 ^ k * 2 ^ k) (h : ∀ r, r = x % 2 ^ k → Q (.int r s.toks) { s with toks := s.toks + 1 }) : wpAny (model prog w) A (binaryOp .BitXor (.int x t) (.int v u)) Q E s := by
  refine PyProof.Rows.xor_int ?_
  rw [hv, bitXor_high hx]
  exact h _ rfl
theorem lenG {h₀ : Heap} {L l : Addr} {news : List (Addr × Obj)} {us : List Value} {c k : Nat} (N : News h₀ L s.heap news) (hm : (l, listOf us.toArray c) ∈ news) (e : us.length = k) (hfit : (k : Int) < 2 ^ 63)
    (h : Q (.int (k : Int) (s.toks + 1)) { s with toks := s.toks + 1 + 1 }) : wpAny (model prog w) A (call (.builtin "len") [.ref l]) Q E s := kst_len N hm e hfit h

end

theorem shiftFacts {lo hi n len : Nat} {v : Int} (hlo : lo < hi) (hhi : hi ≤ len) (hnn : n * len ≤ 2 ^ 22) (hv : v = ((((lo + hi) / 2 : Nat) : Int) - lo) * n) : 0 ≤ v ∧ v ≤ 2 ^ 22 ∧ v.toNat = n * ((lo + hi) / 2 - lo) := by
  have e : v = ((n * ((lo + hi) / 2 - lo) : Nat) : Int) := by
    rw [hv, Int.natCast_mul, Int.natCast_sub (by omega)]
    rw [Int.mul_comm]
  have h1 : n * ((lo + hi) / 2 - lo) ≤ n * len := Nat.mul_le_mul_left _ (by omega)
  refine ⟨by omega, by omega, by omega⟩
theorem bits_of_lt {x : Int} {k : Nat} (h0 : 0 ≤ x) (h : x < 2 ^ k) : Builtin.Int.intBits x ≤ k := by
  refine intBits_le_iff.mpr ?_
  obtain ⟨y, rfl⟩ := Int.eq_ofNat_of_zero_le h0
  rw [Int.natAbs_natCast]
  have : ((y : Nat) : Int) < ((2 ^ k : Nat) : Int) := by simpa using h
  exact Int.ofNat_lt.mp this
theorem lshBound {x up sh : Int} {k : Nat} (hx : Builtin.Int.intBits x ≤ 2 ^ 22) (hup : up = x / 2 ^ k) (hsh : sh ≤ 2 ^ 22) : (Builtin.Int.intBits up : Int) + sh ≤ 2 ^ 27 := by
  have e : x / 2 ^ k = x.fdiv (2 ^ k) := (Int.fdiv_eq_ediv_of_nonneg _ (Int.pow_nonneg (by decide))).symm
  have := intBits_fdiv_le (y := 2 ^ k) hx
  rw [hup, e]
  omega
theorem lt_pow_hi {x : Int} {n lo mid hi : Nat} (hx : x < 2 ^ (n * (hi - lo))) (h1 : lo ≤ mid) (h2 : mid ≤ hi) : x / 2 ^ (n * (mid - lo)) < 2 ^ (n * (hi - mid)) := by
  have e : n * (hi - lo) = n * (hi - mid) + n * (mid - lo) := by rw [← Nat.mul_add]; congr 1; omega
  rw [e, Int.pow_add] at hx
  exact Int.ediv_lt_of_lt_mul (Int.pow_pos (by decide)) hx
theorem div_mod_pow (x : Int) (k : Nat) : x % 2 ^ k + 2 ^ k * (x / 2 ^ k) = x := Int.emod_add_mul_ediv x (2 ^ k)
theorem countFacts {x : Int} {n b k : Nat} (hn : 0 < n) (h0 : 0 ≤ x) (hb : b = Builtin.Int.intBits x) (hk : k = (b + n - 1) / n) (h3 : b ≤ 2 ^ 21) (h2 : n < 64) : n * k ≤ 2 ^ 22 ∧ x < 2 ^ (n * k) ∧ k ≤ 2 ^ 22 ∧ (x ≠ 0 → 0 < k) := by
  have h1 := Nat.div_add_mod (b + n - 1) n
  have h4 := Nat.mod_lt (b + n - 1) hn
  rw [← hk] at h1
  have h5 : b ≤ n * k := by omega
  have h6 : x.natAbs < 2 ^ b := intBits_le_iff.mp (by omega)
  have h7 : (2 : Nat) ^ b ≤ 2 ^ (n * k) := Nat.pow_le_pow_right (by decide) h5
  have h8 : x < ((2 ^ (n * k) : Nat) : Int) := by omega
  refine ⟨by omega, by simpa using h8, ?_, fun hx => ?_⟩
  · have : k ≤ n * k := Nat.le_mul_of_pos_left _ hn
    omega
  · false_or_by_contra
    have hk0 : k = 0 := by omega
    subst hk0
    have : b = 0 := by omega
    rw [this] at h6
    omega
theorem fdiv_nat {b n : Nat} (hn : 0 < n) : ((b : Int) + n - 1).fdiv n = (((b + n - 1) / n : Nat) : Int) := by
  rw [Int.fdiv_eq_ediv_of_nonneg _ (by omega)]
  have e : ((b : Int) + n - 1) = ((b + n - 1 : Nat) : Int) := by omega
  rw [e]; simp
theorem ints_replicate {k : Nat} {t : Tok} : IntsAre (List.replicate k (Value.int 0 t)) (List.replicate k 0) := by
  induction k with
  | zero => exact .nil
  | succ k ih => rw [List.replicate_succ, List.replicate_succ]; exact .cons 0 t ih
/-- the number that the digits stand for, the lowest first, n bits each -/
def val (n : Nat) : List Int → Int
  | [] => 0
  | d :: r => d + 2 ^ n * val n r
theorem val_append (n : Nat) : ∀ xs ys : List Int, val n (xs ++ ys) = val n xs + 2 ^ (n * xs.length) * val n ys
  | [], ys => by simp [val]
  | x :: xs, ys => by
    rw [List.cons_append, val, val, val_append n xs ys, List.length_cons, Nat.mul_add, Nat.mul_one, Int.pow_add]
    rw [Int.mul_add, Int.mul_comm (2 ^ (n * xs.length) : Int) (2 ^ n), Int.mul_assoc, Int.add_assoc]

theorem val_bounds {n : Nat} : ∀ {ds : List Int}, (∀ y ∈ ds, 0 ≤ y ∧ y < 2 ^ n) → 0 ≤ val n ds ∧ val n ds < 2 ^ (n * ds.length)
  | [], _ => by simp [val]
  | d :: r, h => by
    have h1 := h d (.head _)
    have h2 := val_bounds (n := n) (ds := r) fun y hy => h y (.tail _ hy)
    have hp : (0 : Int) < 2 ^ n := Int.pow_pos (by decide)
    have h3 : 0 ≤ 2 ^ n * val n r := Int.mul_nonneg (by omega) h2.1
    have h4 : 2 ^ n * (val n r + 1) ≤ (2 ^ n * 2 ^ (n * r.length) : Int) := Int.mul_le_mul_of_nonneg_left (by omega) (by omega)
    rw [List.length_cons, Nat.mul_add, Nat.mul_one, Int.pow_add, Int.mul_comm (2 ^ (n * r.length) : Int), val]
    rw [Int.mul_add, Int.mul_one] at h4
    omega
theorem seg_cut {ns : List Int} {lo mid hi : Nat} (h1 : lo ≤ mid) (h2 : mid ≤ hi) (h3 : hi ≤ ns.length) : (ns.take hi).drop lo = (ns.take mid).drop lo ++ (ns.take hi).drop mid := by
  have e : ns.take hi = ns.take mid ++ (ns.take hi).drop mid := by
    have := List.take_append_drop mid (ns.take hi)
    rw [List.take_take, Nat.min_eq_left h2] at this
    exact this.symm
  conv => lhs; rw [e]
  rw [List.drop_append_of_le_length (by rw [List.length_take]; omega)]
theorem seg_cutLen {ns : List Int} {lo hi : Nat} (h3 : hi ≤ ns.length) : ((ns.take hi).drop lo).length = hi - lo := by
  rw [List.length_drop, List.length_take]; omega
theorem seg_cutOne {ns : List Int} {lo : Nat} (h : lo < ns.length) : (ns.take (lo + 1)).drop lo = [ns.getD lo 0] := by
  rw [List.drop_take, show lo + 1 - lo = 1 by omega, List.getD_eq_getElem?_getD, List.getElem?_eq_getElem h]
  simp only [Option.getD_some]
  rw [List.drop_eq_getElem_cons h]; rfl
theorem seg_mem {ns : List Int} {lo hi : Nat} {P : Int → Prop} (h : ∀ y ∈ ns, P y) : ∀ y ∈ (ns.take hi).drop lo, P y := fun y hy => h y (List.mem_of_mem_take (List.mem_of_mem_drop hy))
theorem bitsSeg {n : Nat} {ds : List Int} (h : ∀ y ∈ ds, 0 ≤ y ∧ y < 2 ^ n) (hl : n * ds.length ≤ 2 ^ 22) : Builtin.Int.intBits (val n ds) ≤ 2 ^ 22 :=
  Nat.le_trans (bits_of_lt (val_bounds h).1 (val_bounds h).2) hl
theorem lshBound2 {x sh : Int} (hx : Builtin.Int.intBits x ≤ 2 ^ 22) (hsh : sh ≤ 2 ^ 22) : (Builtin.Int.intBits x : Int) + sh ≤ 2 ^ 27 := by omega
theorem seg_one {ns : List Int} {lo : Nat} (h : lo < ns.length) (x : Int) : ns.set lo x = ns.take lo ++ [x] ++ ns.drop (lo + 1) := by
  rw [List.set_eq_take_append_cons_drop, if_pos h]; simp

theorem seg_join {ns ds es : List Int} {lo mid hi : Nat} (h1 : lo ≤ mid) (h2 : mid ≤ hi) (h3 : hi ≤ ns.length) (hd : ds.length = mid - lo) :
    (ns.take lo ++ ds ++ ns.drop mid).take mid ++ es ++ (ns.take lo ++ ds ++ ns.drop mid).drop hi = ns.take lo ++ (ds ++ es) ++ ns.drop hi := by
  have hl : (ns.take lo ++ ds).length = mid := by rw [List.length_append, List.length_take, hd]; omega
  rw [List.take_left' hl, List.drop_append, hl, List.drop_drop]
  rw [List.drop_of_length_le (by omega), List.nil_append, show mid + (hi - mid) = hi by omega]
  simp
theorem seg_len {ns ds : List Int} {lo hi : Nat} (h1 : lo ≤ hi) (h3 : hi ≤ ns.length) (hd : ds.length = hi - lo) : (ns.take lo ++ ds ++ ns.drop hi).length = ns.length := by
  rw [List.length_append, List.length_append, List.length_take, List.length_drop, hd]; omega
end
section
abbrev tupObj (vs : List Value) (n : Nat) : Obj := { cls := .type "tuple", data := .seq vs.toArray n }
abbrev qI2 : Str := (Str.ofString "_int2digits" ++ Str.ofString ".<locals>.") ++ Str.ofString "inner"
abbrev qI3 : Str := (Str.ofString "_digits2int" ++ Str.ofString ".<locals>.") ++ Str.ofString "inner"

/-- the code table at P: empty, or with the one nested def's code -/
def Tab (P : Addr) (ln cl : Int) (q : Str) (T : List (Addr × Obj)) : Prop :=
  T = [(P, tabObj #[])] ∨ ∃ c' oc vs t, T = [(P, tabObj #[rawInt ln, rawInt cl, .ref c']), (c', oc)] ∧ oc.data = .fields vs ∧ vs[1]? = some (.str q t) ∧ c' ≠ P

/-- inner of _int2digits -/
def InnerC (prog : Program) (w : World) (K : Frag) (p : Program) (loose : List Str) (mean : ExcName → Option Value) (mg mb : Str → Option Value) (n : Nat) (f l cA cI cN c' : Addr) (fo oA oI oN oc : Obj) (d : Nat) : Prop :=
  ∀ (x : Int) (lo hi : Nat) (tx tl th : Tok) (vs : List Value) (ns : List Int) (e : Nat),
    0 ≤ x → x < 2 ^ (n * (hi - lo)) → lo < hi → hi ≤ ns.length → hi - lo ≤ 2 ^ d → IntsAre vs ns → n * ns.length ≤ 2 ^ 22 → 0 < n →
    Ctr prog w K p loose mean mg mb f (d + 2) (8 * (d + 2)) [.int x tx, .int lo tl, .int hi th] [(l, listOf vs.toArray e), (f, fo), (c', oc), (cA, oA), (cI, oI), (cN, oN)]
      (fun r hd' => r = .none ∧ ∃ vs' ds, hd' = [(l, listOf vs'.toArray e), (f, fo), (c', oc), (cA, oA), (cI, oI), (cN, oN)] ∧ IntsAre vs' (ns.take lo ++ ds ++ ns.drop hi) ∧ ds.length = hi - lo ∧ val n ds = x ∧ ∀ y ∈ ds, 0 ≤ y ∧ y < 2 ^ n)

theorem innerC_all {prog : Program} {w : World} {K : Frag} {p : Program} {loose : List Str} {mean : ExcName → Option Value} {mg mb : Str → Option Value} {n : Nat} {f l cA cI cN c' : Addr} {fo oA oI oN oc : Obj}
    (step : ∀ d, (∀ d', d = d' + 1 → InnerC prog w K p loose mean mg mb n f l cA cI cN c' fo oA oI oN oc d') → InnerC prog w K p loose mean mg mb n f l cA cI cN c' fo oA oI oN oc d) (d : Nat) : InnerC prog w K p loose mean mg mb n f l cA cI cN c' fo oA oI oN oc d := by
  induction d with
  | zero => exact step 0 fun d' h => by omega
  | succ d ih => exact step (d + 1) fun d' h => by have : d' = d := by omega
                                                   rw [this]; exact ih

theorem inner_use {w : World} {p : Program} {loose : List Str} {mean : ExcName → Option Value} {mg mb : Str → Option Value} {K : Frag} {prog : Program} {n d : Nat} {f l cA cI cN c' : Addr} {fo oA oI oN oc : Obj} {g : Heap} {L : Addr} {h : Heap} {news : List (Addr × Obj)} {P : Prop}
    (Nq : News g L h news) (hmq : (f, fo) ∈ news) {tn : Tok} (dA : oA.data = .cell (some (.ref l))) (dI : oI.data = .cell (some (.ref f))) (dN : oN.data = .cell (some (.int n tn))) (hAq : (cA, oA) ∈ news) (hIq : (cI, oI) ∈ news) (hNq : (cN, oN) ∈ news) (step : oA.data = .cell (some (.ref l)) → oI.data = .cell (some (.ref f)) → oN.data = .cell (some (.int n tn)) → ∀ d, (∀ d', d = d' + 1 → InnerC prog w K p loose mean mg mb n f l cA cI cN c' fo oA oI oN oc d') → InnerC prog w K p loose mean mg mb n f l cA cI cN c' fo oA oI oN oc d)
    (h : oA.data = .cell (some (.ref l)) → oI.data = .cell (some (.ref f)) → oN.data = .cell (some (.int n tn)) → InnerC prog w K p loose mean mg mb n f l cA cI cN c' fo oA oI oN oc d → P) : P := h dA dI dN (innerC_all (step dA dI dN) d)

/-- inner of _digits2int -/
def InnerD (prog : Program) (w : World) (K : Frag) (p : Program) (loose : List Str) (mean : ExcName → Option Value) (mg mb : Str → Option Value) (n : Nat) (f l cA cI cN c' : Addr) (fo oA oI oN oc : Obj) (vs : List Value) (ns : List Int) (e : Nat) (d : Nat) : Prop :=
  ∀ (lo hi : Nat) (tl th : Tok), lo < hi → hi ≤ ns.length → hi - lo ≤ 2 ^ d →
    Ctr prog w K p loose mean mg mb f (d + 2) (8 * (d + 2)) [.int lo tl, .int hi th] [(l, listOf vs.toArray e), (f, fo), (c', oc), (cA, oA), (cI, oI), (cN, oN)]
      (fun r hd' => hd' = [(l, listOf vs.toArray e), (f, fo), (c', oc), (cA, oA), (cI, oI), (cN, oN)] ∧ ∃ t, r = .int (val n ((ns.take hi).drop lo)) t)

theorem innerD_all {prog : Program} {w : World} {K : Frag} {p : Program} {loose : List Str} {mean : ExcName → Option Value} {mg mb : Str → Option Value} {n : Nat} {f l cA cI cN c' : Addr} {fo oA oI oN oc : Obj} {vs : List Value} {ns : List Int} {e : Nat}
    (step : ∀ d, (∀ d', d = d' + 1 → InnerD prog w K p loose mean mg mb n f l cA cI cN c' fo oA oI oN oc vs ns e d') → InnerD prog w K p loose mean mg mb n f l cA cI cN c' fo oA oI oN oc vs ns e d) (d : Nat) : InnerD prog w K p loose mean mg mb n f l cA cI cN c' fo oA oI oN oc vs ns e d := by
  induction d with
  | zero => exact step 0 fun d' h => by omega
  | succ d ih => exact step (d + 1) fun d' h => by have : d' = d := by omega
                                                   rw [this]; exact ih

theorem innerD_use {w : World} {p : Program} {loose : List Str} {mean : ExcName → Option Value} {mg mb : Str → Option Value} {K : Frag} {prog : Program} {n d : Nat} {f l cA cI cN c' : Addr} {fo oA oI oN oc : Obj} {vs : List Value} {ns : List Int} {e : Nat} {g : Heap} {L : Addr} {h : Heap} {news : List (Addr × Obj)} {P : Prop}
    (Nq : News g L h news) (hmq : (f, fo) ∈ news) {tn : Tok} (dA : oA.data = .cell (some (.ref l))) (dI : oI.data = .cell (some (.ref f))) (dN : oN.data = .cell (some (.int n tn))) (hAq : (cA, oA) ∈ news) (hIq : (cI, oI) ∈ news) (hNq : (cN, oN) ∈ news)
    (step : oA.data = .cell (some (.ref l)) → oI.data = .cell (some (.ref f)) → oN.data = .cell (some (.int n tn)) → ∀ d, (∀ d', d = d' + 1 → InnerD prog w K p loose mean mg mb n f l cA cI cN c' fo oA oI oN oc vs ns e d') → InnerD prog w K p loose mean mg mb n f l cA cI cN c' fo oA oI oN oc vs ns e d)
    (h : oA.data = .cell (some (.ref l)) → oI.data = .cell (some (.ref f)) → oN.data = .cell (some (.int n tn)) → InnerD prog w K p loose mean mg mb n f l cA cI cN c' fo oA oI oN oc vs ns e d → P) : P := h dA dI dN (innerD_all (step dA dI dN) d)
end
section
local macro_rules | `(tactic| walk_at "spliced") => `(tactic| first | refine args_cons ?_ | refine args_nil ⟨Fr.keep (by assumption) _ _ (by assumption), ?_⟩ | (refine args_nil ?_; try simp only [List.cons_append, List.nil_append]))
local macro_rules | `(tactic| tb_start) => `(tactic| (refine wpAny_call ?_; k_dflt (refine' codeF_def ?k1 ?k2 ?k3 ?k4 ?kD ?k5 ?kA ?kF ?kK ?k6 ?k7 ?k8 ?k9 ?kB ?_ ?c2 ?c3 ?c4 ?c5; (case kA => exact rfl); (case kF => exact rfl); (case kK => assumption); (case k1 => k_asm); (case k2 => k_asm); (case k3 => k_asm); (case k4 => k_asm); (case kD => assumption); (case k5 => k_asm); (case k6 => k_is); (case k7 => k_is); (case k8 => ktr_room); (case k9 => first | exact BindsTo.of_eq rfl | exact binds_K (by k_in) rfl (by k_is) rfl rfl rfl | (refine' kp_binds ?kx ?ke; (case kx => k_in); (case ke => exact fun _ => rfl))); (case c5 => decide); (case kB => exact locs rfl); (case c2 => exact rfl); (case c3 => exact rfl); (case c4 => exact rfl); k_whole; intro g' L' h' FG' F' N' B' X' T' RR' l1; (try dsimp only); (try k_lt l1); (try k_fold))))
local macro_rules | `(tactic| tb_rel) => `(tactic| (refine wpAny_call ?_; k_dflt (refine' codeF_defC ?k1 ?k2 ?k3 ?k4 ?kE ?k5 ?kA ?kF ?kK ?k6 ?k7 ?k8 ?k9 ?kB ?kD ?_ ?c2 ?c3 ?c4; (case kA => exact rfl); (case kF => exact rfl); (case kK => assumption); (case k1 => k_asm); (case k2 => k_asm); (case k3 => k_asm); (case k4 => k_asm); (case kE => assumption); (case k5 => k_asm); (case k6 => k_is); (case k7 => k_is); (case k8 => ktr_room); (case k9 => first | exact BindsTo.of_eq rfl | exact binds_K (by k_in) rfl (by k_is) rfl rfl rfl | (refine' kp_binds ?kx ?ke; (case kx => k_in); (case ke => exact fun _ => rfl))); (case kB => exact rfl); (case kD => decide +kernel); (case c2 => exact rfl); (case c3 => exact rfl); (case c4 => exact rfl); k_whole; intro g' L' h' tk' cells' FG' F' N' Y' B' X' T' RR' l1; (try k_lt l1); k_cells Y'; (try simp only [List.cons_append, List.nil_append] at N'); (try dsimp only); (try k_fold))))
local macro_rules | `(tactic| kwd_rel) => `(tactic| (refine wpAny_call ?_; k_dflt (refine' codeF_nest ?k1 ?k2 ?k3 ?k4 ?kD ?k5 ?kA ?kF ?kK ?k6 ?k7 ?k8 ?k9 ?kB ?_ ?c2 ?c3 ?c4 ?c5; (case kA => exact rfl); (case kF => exact rfl); (case kK => first | exact rfl | assumption); (case k1 => k_asm); (case k2 => k_asm); (case k3 => k_asm); (case k4 => k_asm); (case kD => assumption); (case k5 => k_asm); (case k6 => k_mem); (case k7 => exact codeRec_news (by k_asm) (by k_mem) (by assumption) (by assumption)); (case k8 => ktr_room); (case k9 => exact BindsTo.of_eq rfl); (case c5 => decide); (case kB => exact locs rfl); (case c2 => exact rfl); (case c3 => exact rfl); (case c4 => exact rfl); k_whole; intro g' L' h' FG' F' N' B' X' T' RR' l1; (try dsimp only); (try k_lt l1); (try k_fold))))
local macro_rules | `(tactic| k_allIn) => `(tactic| ((with_reducible refine List.forall_mem_append.mpr ⟨?ka, ?kb⟩); (case ka => k_allIn); (case kb => k_allIn)))

variable {w : World} {p : Program} {loose : List Str} {mean : ExcName → Option Value} {mg mb : Str → Option Value}


theorem div2n1n_ctr (x y n : Int) (tx ty tn : Tok) (h1 : y ≠ 0) (h2 : y.natAbs < 1073741824) (h3 : (Builtin.Int.intBits x : Int) - n ≤ 4000) :
    Ctr PySem.Challenge.rw_ga0003_03.row.prog w (hd.heap_39 w.params) p loose mean mg mb 21 8 64 [.int x tx, .int y ty, .int n tn] []
      (fun r hd' => ∃ l t1 t2 e, r = .ref l ∧ hd' = [(l, tupObj [.int (Int.fdiv x y) t1, .int (Int.fmod x y) t2] e)]) := by
  k_fill
  intro dp un gd cn cs a ccd cl outer A₀ base h₀ L m s rest Q E B C1 C2 F X N D T hk hdp hun hret
  tb_start
  have NR : News h₀ L s.heap rest := newsSub N fun p hp => List.mem_append_right _ hp
  k_steps
  exact ctr_ret hret NR (by assumption) (by assumption) (by assumption) (by assumption) (by assumption) ⟨_, _, _, _, rfl, rfl⟩
end
section
local macro_rules | `(tactic| walk_at "spliced") => `(tactic| first | refine args_cons ?_ | refine args_nil ⟨Fr.keep (by assumption) _ _ (by assumption), ?_⟩ | (refine args_nil ?_; try simp only [List.cons_append, List.nil_append]))
local macro_rules | `(tactic| tb_start) => `(tactic| (refine wpAny_call ?_; k_dflt (refine' codeF_def ?k1 ?k2 ?k3 ?k4 ?kD ?k5 ?kA ?kF ?kK ?k6 ?k7 ?k8 ?k9 ?kB ?_ ?c2 ?c3 ?c4 ?c5; (case kA => exact rfl); (case kF => exact rfl); (case kK => assumption); (case k1 => k_asm); (case k2 => k_asm); (case k3 => k_asm); (case k4 => k_asm); (case kD => assumption); (case k5 => k_asm); (case k6 => k_is); (case k7 => k_is); (case k8 => ktr_room); (case k9 => first | exact BindsTo.of_eq rfl | exact binds_K (by k_in) rfl (by k_is) rfl rfl rfl | (refine' kp_binds ?kx ?ke; (case kx => k_in); (case ke => exact fun _ => rfl))); (case c5 => decide); (case kB => exact locs rfl); (case c2 => exact rfl); (case c3 => exact rfl); (case c4 => exact rfl); k_whole; intro g' L' h' FG' F' N' B' X' T' RR' l1; (try dsimp only); (try k_lt l1); (try k_fold))))
local macro_rules | `(tactic| tb_rel) => `(tactic| (refine wpAny_call ?_; k_dflt (refine' codeF_defC ?k1 ?k2 ?k3 ?k4 ?kE ?k5 ?kA ?kF ?kK ?k6 ?k7 ?k8 ?k9 ?kB ?kD ?_ ?c2 ?c3 ?c4; (case kA => exact rfl); (case kF => exact rfl); (case kK => assumption); (case k1 => k_asm); (case k2 => k_asm); (case k3 => k_asm); (case k4 => k_asm); (case kE => assumption); (case k5 => k_asm); (case k6 => k_is); (case k7 => k_is); (case k8 => ktr_room); (case k9 => first | exact BindsTo.of_eq rfl | exact binds_K (by k_in) rfl (by k_is) rfl rfl rfl | (refine' kp_binds ?kx ?ke; (case kx => k_in); (case ke => exact fun _ => rfl))); (case kB => exact rfl); (case kD => decide +kernel); (case c2 => exact rfl); (case c3 => exact rfl); (case c4 => exact rfl); k_whole; intro g' L' h' tk' cells' FG' F' N' Y' B' X' T' RR' l1; (try k_lt l1); k_cells Y'; (try simp only [List.cons_append, List.nil_append] at N'); (try dsimp only); (try k_fold))))
local macro_rules | `(tactic| kwd_rel) => `(tactic| (refine wpAny_call ?_; k_dflt (refine' codeF_nest ?k1 ?k2 ?k3 ?k4 ?kD ?k5 ?kA ?kF ?kK ?k6 ?k7 ?k8 ?k9 ?kB ?_ ?c2 ?c3 ?c4 ?c5; (case kA => exact rfl); (case kF => exact rfl); (case kK => first | exact rfl | assumption); (case k1 => k_asm); (case k2 => k_asm); (case k3 => k_asm); (case k4 => k_asm); (case kD => assumption); (case k5 => k_asm); (case k6 => k_mem); (case k7 => exact codeRec_news (by k_asm) (by k_mem) (by assumption) (by assumption)); (case k8 => ktr_room); (case k9 => exact BindsTo.of_eq rfl); (case c5 => decide); (case kB => exact locs rfl); (case c2 => exact rfl); (case c3 => exact rfl); (case c4 => exact rfl); k_whole; intro g' L' h' FG' F' N' B' X' T' RR' l1; (try dsimp only); (try k_lt l1); (try k_fold))))
local macro_rules | `(tactic| k_allIn) => `(tactic| ((with_reducible refine List.forall_mem_append.mpr ⟨?ka, ?kb⟩); (case ka => k_allIn); (case kb => k_allIn)))


section
local macro_rules | `(tactic| walk_at "binaryOp Mult int int") => `(tactic| (refine mulG (IntMulOk.of_right (intBits_le_64 (by omega) (by omega))) ?_; intro v9 hv9; have hs9 := shiftFacts (by assumption) (by assumption) (by assumption) hv9))
local macro_rules | `(tactic| walk_at "binaryOp RShift int int") => `(tactic| (refine rshG (by omega) ?_; intro v9 hv9))
local macro_rules | `(tactic| walk_at "binaryOp RShift int int") => `(tactic| (refine rshN ?_))
local macro_rules | `(tactic| walk_at "binaryOp LShift int int") => `(tactic| (refine lshG (by omega) (lshBound (by assumption) (by assumption) (by omega)) ?_; intro v9 hv9))
local macro_rules | `(tactic| walk_at "binaryOp BitXor int int") => `(tactic| (refine xorG (by assumption) (by subst_vars; rfl) ?_; intro v9 hv9))
local macro_rules | `(tactic| walk_at "setItem ref int") => `(tactic| (k_dflt (refine' ksa_set ?k1 ?k2 ?k3 ?k4 ?k5 ?k6 ?k7 ?_; (case k1 => k_asm); (case k2 => k_asm); (case k3 => k_upd); (case k4 => assumption); (case k5 => omega); (case k6 => omega); (case k7 => omega)); intro h' F' N' hi' hl' hs'))
variable {w : World} {p : Program} {loose : List Str} {mean : ExcName → Option Value} {mg mb : Str → Option Value}

theorem int2digits_ctr0 (x : Int) (n : Nat) (tx tn : Tok) (h0 : 0 ≤ x) (h1 : 0 < n) (h2 : n < 64) (h3 : Builtin.Int.intBits x ≤ 2 ^ 21) :
    Ctr PySem.Challenge.rw_ga0003_03.row.prog w (hd.heap_39 w.params) p loose mean mg mb 35 64 512 [.int x tx, .int n tn] [(30, tabObj #[])]
      (fun r hd' => ∃ l vs ds e T', r = .ref l ∧ hd' = (l, listOf vs.toArray e) :: T' ∧ Tab 30 32 4 qI2 T' ∧ IntsAre vs ds ∧ val n ds = x ∧ (∀ y ∈ ds, 0 ≤ y ∧ y < 2 ^ n) ∧ ds.length ≤ 2 ^ 22 ∧ n * ds.length ≤ 2 ^ 22) := by
  k_fill
  intro dp un gd cn cs a ccd cl outer A₀ base h₀ L m s rest Q E B C1 C2 F X N D T hk hdp hun hret
  have hn0 : (n : Int) ≠ 0 := by omega
  obtain ⟨k, hkd⟩ : ∃ k, k = (Builtin.Int.intBits x + n - 1) / n := ⟨_, rfl⟩
  obtain ⟨ck1, ck2, ck3, ck4⟩ := countFacts h1 h0 rfl hkd h3 h2
  tb_rel
  have NR : News h₀ L s.heap rest := newsSub N fun p hp => List.mem_append_right _ hp
  k_steps
  refine mulK (k := k) (by k_asm) (by k_asm) (by k_mem) (by rw [hkd]; exact fdiv_nat h1) (by omega) ?_
  intro l' h' vl F' hvl N' l1
  (try k_lt l1)
  have hvlen : vl.length = k := by rw [hvl, List.length_replicate]
  have hIl : IntsAre vl (List.replicate k 0) := by rw [hvl]; exact ints_replicate
  k_steps
  · refine lenG (k := k) (by k_asm) (by k_mem) hvlen (by omega) ?_
    k_steps
    rename_i fI cI ocI vsI tI ctI dcI h1' tk1 d1 d2 m1 m2 h2' oI F2 N2 dI hx0
    k_dflt (refine inner_use (w := w) (p := p) (loose := loose) (mean := mean) (mg := mg) (mb := mb) (K := hd.heap_39 w.params) (prog := PySem.Challenge.rw_ga0003_03.row.prog) (d := 22) (n := n) (f := fI) (l := l') (tn := tn) (c' := cI) (oI := oI) (oc := ocI) N2 (by k_mem) (by assumption) (by assumption) (by assumption) (by k_mem) (by k_mem) (by k_mem) ?_ ?_)
    · intro dA dI dN d IH x lo hi tx tl th vs ns e hx0 hx1 hlo hhi hd2 hI hnn hn1
      clear hret F X N T B C1 C2 D hk hdp hun
      intro dp un gd cn cs a ccd cl outer A₀ base h₀ L m s rest Q E B C1 C2 F X N D T hk hdp hun hret
      have hlen : ns.length ≤ 2 ^ 22 := Nat.le_trans (Nat.le_mul_of_pos_left _ hn1) hnn
      have hbx : Builtin.Int.intBits x ≤ 2 ^ 22 := Nat.le_trans (bits_of_lt hx0 hx1) (Nat.le_trans (Nat.mul_le_mul_left n (by omega)) hnn)
      kwd_rel
      have NR : News h₀ L s.heap rest := newsSub N fun p hp => List.mem_append_right _ hp
      k_steps
      · rename_i hone tk0 hh F2' N2' hi1 hl1 hs1 kF1 kN1 T1 X1
        have e1 : hi - lo = 1 := by omega
        refine ctr_ret hret NR (by assumption) F2' N2' kF1 kN1 ⟨rfl, _, [x], rfl, ?_, by rw [e1]; rfl, by simp [val], ?_⟩
        · have e2 : hi = lo + 1 := by omega
          rw [e2, ← seg_one (by omega)]
          exact hi1
        · rw [e1, Nat.mul_one] at hx1
          intro y hy
          rw [List.mem_singleton.mp hy]
          exact ⟨hx0, hx1⟩
      · rename_i hne tk0 _ sh hsh hsf _ up hup _ lu hlu lw hlw hh F2' N2'
        obtain ⟨d', rfl⟩ : ∃ d', d = d' + 1 := ⟨d - 1, by
          have : 0 < d := by
            false_or_by_contra
            have : d = 0 := by omega
            subst this
            omega
          omega⟩
        have hp2 : 2 ^ (d' + 1) = 2 * 2 ^ d' := by rw [Nat.pow_succ, Nat.mul_comm]
        have elw : lw = x % 2 ^ (n * ((lo + hi) / 2 - lo)) := by rw [hlw, ← hsh, hsf.2.2]
        have eup : up = x / 2 ^ (n * ((lo + hi) / 2 - lo)) := by rw [hup, hsf.2.2]
        have hpp : (0 : Int) < 2 ^ (n * ((lo + hi) / 2 - lo)) := Int.pow_pos (by decide)
        k_dflt (refine' IH d' rfl lw lo ((lo + hi) / 2) _ _ _ vs ns e ?q13xa0 ?q13xa1 ?q13xa2 ?q13xa3 ?q13xa4 hI hnn hn1 _ _ _ _ _ _ _ _ _ _ _ _ _ _ _ ([]) _ _ ?q13xk1 ?q13xk2 ?q13xk3 ?q13xk4 ?q13xk5 ?q13xk6 ?q13xk7 ?q13xk8 ?q13xk9 ?q13xk10 ?q13xk11 ?q13xkR)
        case q13xa0 => rw [elw]; exact Int.emod_nonneg _ (by omega)
        case q13xa1 => rw [elw]; exact Int.emod_lt_of_pos _ hpp
        case q13xa2 => omega
        case q13xa3 => omega
        case q13xa4 => omega
        case q13xk1 => k_asm
        case q13xk2 => assumption
        case q13xk3 => assumption
        case q13xk4 => k_asm
        case q13xk5 => k_asm
        case q13xk6 => rw [List.append_nil]; k_asm
        case q13xk7 => exact Off.nilR _
        case q13xk8 => k_asm
        case q13xk9 => first | exact rfl | assumption
        case q13xk10 => ktr_room
        case q13xk11 => ktr_units
        intro r hd' h' tk' F3 N3 D3 ⟨hr, vs1, ds1, ehd, hI1, hl1, hv1, hb1⟩
        subst hr ehd
        rw [List.append_nil] at N3
        dsimp only
        have hlen1 : (ns.take lo ++ ds1 ++ ns.drop ((lo + hi) / 2)).length = ns.length := seg_len (by omega) (by omega) hl1
        k_steps
        k_dflt (refine' IH d' rfl up ((lo + hi) / 2) hi _ _ _ vs1 _ e ?q14xa0 ?q14xa1 ?q14xa2 ?q14xa3 ?q14xa4 hI1 ?q14xa5 hn1 _ _ _ _ _ _ _ _ _ _ _ _ _ _ _ ([]) _ _ ?q14xk1 ?q14xk2 ?q14xk3 ?q14xk4 ?q14xk5 ?q14xk6 ?q14xk7 ?q14xk8 ?q14xk9 ?q14xk10 ?q14xk11 ?q14xkR)
        case q14xa0 => rw [eup]; exact Int.ediv_nonneg hx0 (by omega)
        case q14xa1 => rw [eup]; exact lt_pow_hi hx1 (by omega) (by omega)
        case q14xa2 => omega
        case q14xa3 => omega
        case q14xa4 => omega
        case q14xa5 => rw [hlen1]; exact hnn
        case q14xk1 => k_asm
        case q14xk2 => assumption
        case q14xk3 => assumption
        case q14xk4 => k_asm
        case q14xk5 => k_asm
        case q14xk6 => rw [List.append_nil]; k_asm
        case q14xk7 => exact Off.nilR _
        case q14xk8 => k_asm
        case q14xk9 => first | exact rfl | assumption
        case q14xk10 => ktr_room
        case q14xk11 => ktr_units
        intro r hd' h'' tk'' F4 N4 D4 ⟨hr, vs2, ds2, ehd, hI2, hl2, hv2, hb2⟩
        subst hr ehd
        rw [List.append_nil] at N4
        dsimp only
        k_steps
        refine ctr_ret hret NR (by assumption) (by assumption) (by assumption) (by assumption) (by assumption) ⟨rfl, vs2, ds1 ++ ds2, rfl, ?_, ?_, ?_, ?_⟩
        · rw [← seg_join (by omega) (by omega) (by omega) hl1]; exact hI2
        · rw [List.length_append]; omega
        · rw [val_append, hl1, hv1, hv2, elw, eup]; exact div_mod_pow x _
        · intro y hy
          exact (List.mem_append.mp hy).elim (hb1 y) (hb2 y)
    · intro dA dI dN HC
      k_dflt (refine' HC x 0 k _ _ _ vl (List.replicate k 0) 0 h0 ?q15xa1 ?q15xa2 ?q15xa3 ?q15xa4 hIl ?q15xa5 h1 _ _ _ _ _ _ _ _ _ _ _ _ _ _ _ ([(30, tabObj #[rawInt 32, rawInt 4, .ref cI])]) _ _ ?q15xk1 ?q15xk2 ?q15xk3 ?q15xk4 ?q15xk5 ?q15xk6 ?q15xk7 ?q15xk8 ?q15xk9 ?q15xk10 ?q15xk11 ?q15xkR)
      case q15xa1 => exact ck2
      case q15xa2 => exact ck4 (by assumption)
      case q15xa3 => rw [List.length_replicate]; exact Nat.le_refl _
      case q15xa4 => omega
      case q15xa5 => rw [List.length_replicate]; exact ck1
      case q15xk1 => k_asm
      case q15xk2 => assumption
      case q15xk3 => assumption
      case q15xk4 => k_asm
      case q15xk5 => k_asm
      case q15xk6 => exact newsSub N2 (by k_allIn)
      case q15xk7 => (repeat (refine Off.cons (by k_all) ?_)); exact offNil _
      case q15xk8 => k_asm
      case q15xk9 => first | exact rfl | assumption
      case q15xk10 => ktr_room
      case q15xk11 => ktr_units
      intro r hd' h5 tk5 F5 N5 D5 ⟨hr, vs1, ds1, ehd, hI1, hl1, hv1, hb1⟩
      subst hr ehd
      dsimp only
      simp only [List.cons_append, List.nil_append] at N5
      k_steps
      rename_i kF7 kN7 T7 X7
      have hds : (List.replicate k (0 : Int)).take 0 ++ ds1 ++ (List.replicate k (0 : Int)).drop k = ds1 := by
        rw [List.take_zero, List.nil_append, List.drop_of_length_le (by rw [List.length_replicate]; exact Nat.le_refl _), List.append_nil]
      rw [hds] at hI1
      exact ctr_ret (hd' := (l', listOf vs1.toArray 0) :: [(30, tabObj #[rawInt 32, rawInt 4, .ref cI]), (cI, ocI)]) hret NR (by assumption) F5 (newsSub N5 (by k_allIn)) kF7 (newsSub kN7 (by k_allIn)) ⟨l', vs1, ds1, 0, _, rfl, rfl, Or.inr ⟨cI, ocI, _, _, rfl, d1, d2, by k_ne⟩, hI1, hv1, hb1, by omega, by rw [hl1]; exact ck1⟩
  · rename_i fI cI ocI vsI tI ctI dcI h1' tk1 d1 d2 m1 m2 h2' oI F2 N2 dI hx0 kF7 kN7 T7 X7
    have hk0 : k = 0 := by
      rw [hkd, hx0]
      show (0 + n - 1) / n = 0
      rw [Nat.zero_add]
      exact Nat.div_eq_of_lt (by omega)
    rw [hk0] at hIl
    exact ctr_ret (hd' := (l', listOf vl.toArray 0) :: [(30, tabObj #[rawInt 32, rawInt 4, .ref cI]), (cI, ocI)]) hret NR (by assumption) F2 (newsSub N2 (by k_allIn)) kF7 (newsSub kN7 (by k_allIn)) ⟨l', vl, [], 0, _, rfl, rfl, Or.inr ⟨cI, ocI, _, _, rfl, d1, d2, by k_ne⟩, hIl, by rw [hx0]; rfl, (fun _ hy => nomatch hy), by simp, by simp⟩

theorem int2digits_ctr1 (x : Int) (n : Nat) (tx tn : Tok) {c0 : Addr} {oc0 : Obj} {vs0 : Array Value} {t0 : Tok} (d1 : oc0.data = .fields vs0) (d2 : vs0[1]? = some (.str qI2 t0)) (hne0 : c0 ≠ 30) (h0 : 0 ≤ x) (h1 : 0 < n) (h2 : n < 64) (h3 : Builtin.Int.intBits x ≤ 2 ^ 21) :
    Ctr PySem.Challenge.rw_ga0003_03.row.prog w (hd.heap_39 w.params) p loose mean mg mb 35 64 512 [.int x tx, .int n tn] [(30, tabObj #[rawInt 32, rawInt 4, .ref c0]), (c0, oc0)]
      (fun r hd' => ∃ l vs ds e T', r = .ref l ∧ hd' = (l, listOf vs.toArray e) :: T' ∧ Tab 30 32 4 qI2 T' ∧ IntsAre vs ds ∧ val n ds = x ∧ (∀ y ∈ ds, 0 ≤ y ∧ y < 2 ^ n) ∧ ds.length ≤ 2 ^ 22 ∧ n * ds.length ≤ 2 ^ 22) := by
  k_fill
  intro dp un gd cn cs a ccd cl outer A₀ base h₀ L m s rest Q E B C1 C2 F X N D T hk hdp hun hret
  have hn0 : (n : Int) ≠ 0 := by omega
  have hne1 := neN hne0
  obtain ⟨k, hkd⟩ : ∃ k, k = (Builtin.Int.intBits x + n - 1) / n := ⟨_, rfl⟩
  obtain ⟨ck1, ck2, ck3, ck4⟩ := countFacts h1 h0 rfl hkd h3 h2
  tb_rel
  have NR : News h₀ L s.heap rest := newsSub N fun p hp => List.mem_append_right _ hp
  k_steps
  refine mulK (k := k) (by k_asm) (by k_asm) (by k_mem) (by rw [hkd]; exact fdiv_nat h1) (by omega) ?_
  intro l' h' vl F' hvl N' l1
  (try k_lt l1)
  have hvlen : vl.length = k := by rw [hvl, List.length_replicate]
  have hIl : IntsAre vl (List.replicate k 0) := by rw [hvl]; exact ints_replicate
  k_steps
  · refine lenG (k := k) (by k_asm) (by k_mem) hvlen (by omega) ?_
    k_steps
    rename_i fI ctI dcI h1' tk1 m1 h2' oI F2 N2 dI hx0
    k_dflt (refine inner_use (w := w) (p := p) (loose := loose) (mean := mean) (mg := mg) (mb := mb) (K := hd.heap_39 w.params) (prog := PySem.Challenge.rw_ga0003_03.row.prog) (d := 22) (n := n) (f := fI) (l := l') (tn := tn) (c' := c0) (oI := oI) (oc := oc0) N2 (by k_mem) (by assumption) (by assumption) (by assumption) (by k_mem) (by k_mem) (by k_mem) ?_ ?_)
    · intro dA dI dN d IH x lo hi tx tl th vs ns e hx0 hx1 hlo hhi hd2 hI hnn hn1
      clear hret F X N T B C1 C2 D hk hdp hun
      intro dp un gd cn cs a ccd cl outer A₀ base h₀ L m s rest Q E B C1 C2 F X N D T hk hdp hun hret
      have hlen : ns.length ≤ 2 ^ 22 := Nat.le_trans (Nat.le_mul_of_pos_left _ hn1) hnn
      have hbx : Builtin.Int.intBits x ≤ 2 ^ 22 := Nat.le_trans (bits_of_lt hx0 hx1) (Nat.le_trans (Nat.mul_le_mul_left n (by omega)) hnn)
      kwd_rel
      have NR : News h₀ L s.heap rest := newsSub N fun p hp => List.mem_append_right _ hp
      k_steps
      · rename_i hone tk0 hh F2' N2' hi1 hl1 hs1 kF1 kN1 T1 X1
        have e1 : hi - lo = 1 := by omega
        refine ctr_ret hret NR (by assumption) F2' N2' kF1 kN1 ⟨rfl, _, [x], rfl, ?_, by rw [e1]; rfl, by simp [val], ?_⟩
        · have e2 : hi = lo + 1 := by omega
          rw [e2, ← seg_one (by omega)]
          exact hi1
        · rw [e1, Nat.mul_one] at hx1
          intro y hy
          rw [List.mem_singleton.mp hy]
          exact ⟨hx0, hx1⟩
      · rename_i hne tk0 _ sh hsh hsf _ up hup _ lu hlu lw hlw hh F2' N2'
        obtain ⟨d', rfl⟩ : ∃ d', d = d' + 1 := ⟨d - 1, by
          have : 0 < d := by
            false_or_by_contra
            have : d = 0 := by omega
            subst this
            omega
          omega⟩
        have hp2 : 2 ^ (d' + 1) = 2 * 2 ^ d' := by rw [Nat.pow_succ, Nat.mul_comm]
        have elw : lw = x % 2 ^ (n * ((lo + hi) / 2 - lo)) := by rw [hlw, ← hsh, hsf.2.2]
        have eup : up = x / 2 ^ (n * ((lo + hi) / 2 - lo)) := by rw [hup, hsf.2.2]
        have hpp : (0 : Int) < 2 ^ (n * ((lo + hi) / 2 - lo)) := Int.pow_pos (by decide)
        k_dflt (refine' IH d' rfl lw lo ((lo + hi) / 2) _ _ _ vs ns e ?q16xa0 ?q16xa1 ?q16xa2 ?q16xa3 ?q16xa4 hI hnn hn1 _ _ _ _ _ _ _ _ _ _ _ _ _ _ _ ([]) _ _ ?q16xk1 ?q16xk2 ?q16xk3 ?q16xk4 ?q16xk5 ?q16xk6 ?q16xk7 ?q16xk8 ?q16xk9 ?q16xk10 ?q16xk11 ?q16xkR)
        case q16xa0 => rw [elw]; exact Int.emod_nonneg _ (by omega)
        case q16xa1 => rw [elw]; exact Int.emod_lt_of_pos _ hpp
        case q16xa2 => omega
        case q16xa3 => omega
        case q16xa4 => omega
        case q16xk1 => k_asm
        case q16xk2 => assumption
        case q16xk3 => assumption
        case q16xk4 => k_asm
        case q16xk5 => k_asm
        case q16xk6 => rw [List.append_nil]; k_asm
        case q16xk7 => exact Off.nilR _
        case q16xk8 => k_asm
        case q16xk9 => first | exact rfl | assumption
        case q16xk10 => ktr_room
        case q16xk11 => ktr_units
        intro r hd' h' tk' F3 N3 D3 ⟨hr, vs1, ds1, ehd, hI1, hl1, hv1, hb1⟩
        subst hr ehd
        rw [List.append_nil] at N3
        dsimp only
        have hlen1 : (ns.take lo ++ ds1 ++ ns.drop ((lo + hi) / 2)).length = ns.length := seg_len (by omega) (by omega) hl1
        k_steps
        k_dflt (refine' IH d' rfl up ((lo + hi) / 2) hi _ _ _ vs1 _ e ?q17xa0 ?q17xa1 ?q17xa2 ?q17xa3 ?q17xa4 hI1 ?q17xa5 hn1 _ _ _ _ _ _ _ _ _ _ _ _ _ _ _ ([]) _ _ ?q17xk1 ?q17xk2 ?q17xk3 ?q17xk4 ?q17xk5 ?q17xk6 ?q17xk7 ?q17xk8 ?q17xk9 ?q17xk10 ?q17xk11 ?q17xkR)
        case q17xa0 => rw [eup]; exact Int.ediv_nonneg hx0 (by omega)
        case q17xa1 => rw [eup]; exact lt_pow_hi hx1 (by omega) (by omega)
        case q17xa2 => omega
        case q17xa3 => omega
        case q17xa4 => omega
        case q17xa5 => rw [hlen1]; exact hnn
        case q17xk1 => k_asm
        case q17xk2 => assumption
        case q17xk3 => assumption
        case q17xk4 => k_asm
        case q17xk5 => k_asm
        case q17xk6 => rw [List.append_nil]; k_asm
        case q17xk7 => exact Off.nilR _
        case q17xk8 => k_asm
        case q17xk9 => first | exact rfl | assumption
        case q17xk10 => ktr_room
        case q17xk11 => ktr_units
        intro r hd' h'' tk'' F4 N4 D4 ⟨hr, vs2, ds2, ehd, hI2, hl2, hv2, hb2⟩
        subst hr ehd
        rw [List.append_nil] at N4
        dsimp only
        k_steps
        refine ctr_ret hret NR (by assumption) (by assumption) (by assumption) (by assumption) (by assumption) ⟨rfl, vs2, ds1 ++ ds2, rfl, ?_, ?_, ?_, ?_⟩
        · rw [← seg_join (by omega) (by omega) (by omega) hl1]; exact hI2
        · rw [List.length_append]; omega
        · rw [val_append, hl1, hv1, hv2, elw, eup]; exact div_mod_pow x _
        · intro y hy
          exact (List.mem_append.mp hy).elim (hb1 y) (hb2 y)
    · intro dA dI dN HC
      k_dflt (refine' HC x 0 k _ _ _ vl (List.replicate k 0) 0 h0 ?q18xa1 ?q18xa2 ?q18xa3 ?q18xa4 hIl ?q18xa5 h1 _ _ _ _ _ _ _ _ _ _ _ _ _ _ _ ([(30, tabObj #[rawInt 32, rawInt 4, .ref c0])]) _ _ ?q18xk1 ?q18xk2 ?q18xk3 ?q18xk4 ?q18xk5 ?q18xk6 ?q18xk7 ?q18xk8 ?q18xk9 ?q18xk10 ?q18xk11 ?q18xkR)
      case q18xa1 => exact ck2
      case q18xa2 => exact ck4 (by assumption)
      case q18xa3 => rw [List.length_replicate]; exact Nat.le_refl _
      case q18xa4 => omega
      case q18xa5 => rw [List.length_replicate]; exact ck1
      case q18xk1 => k_asm
      case q18xk2 => assumption
      case q18xk3 => assumption
      case q18xk4 => k_asm
      case q18xk5 => k_asm
      case q18xk6 => exact newsSub N2 (by k_allIn)
      case q18xk7 => (repeat (refine Off.cons (by k_all) ?_)); exact offNil _
      case q18xk8 => k_asm
      case q18xk9 => first | exact rfl | assumption
      case q18xk10 => ktr_room
      case q18xk11 => ktr_units
      intro r hd' h5 tk5 F5 N5 D5 ⟨hr, vs1, ds1, ehd, hI1, hl1, hv1, hb1⟩
      subst hr ehd
      dsimp only
      simp only [List.cons_append, List.nil_append] at N5
      k_steps
      rename_i kF7 kN7 T7 X7
      have hds : (List.replicate k (0 : Int)).take 0 ++ ds1 ++ (List.replicate k (0 : Int)).drop k = ds1 := by
        rw [List.take_zero, List.nil_append, List.drop_of_length_le (by rw [List.length_replicate]; exact Nat.le_refl _), List.append_nil]
      rw [hds] at hI1
      exact ctr_ret (hd' := (l', listOf vs1.toArray 0) :: [(30, tabObj #[rawInt 32, rawInt 4, .ref c0]), (c0, oc0)]) hret NR (by assumption) F5 (newsSub N5 (by k_allIn)) kF7 (newsSub kN7 (by k_allIn)) ⟨l', vs1, ds1, 0, _, rfl, rfl, Or.inr ⟨c0, oc0, _, _, rfl, d1, d2, hne0⟩, hI1, hv1, hb1, by omega, by rw [hl1]; exact ck1⟩
  · rename_i fI ctI dcI h1' tk1 m1 h2' oI F2 N2 dI hx0 kF7 kN7 T7 X7
    have hk0 : k = 0 := by
      rw [hkd, hx0]
      show (0 + n - 1) / n = 0
      rw [Nat.zero_add]
      exact Nat.div_eq_of_lt (by omega)
    rw [hk0] at hIl
    exact ctr_ret (hd' := (l', listOf vl.toArray 0) :: [(30, tabObj #[rawInt 32, rawInt 4, .ref c0]), (c0, oc0)]) hret NR (by assumption) F2 (newsSub N2 (by k_allIn)) kF7 (newsSub kN7 (by k_allIn)) ⟨l', vl, [], 0, _, rfl, rfl, Or.inr ⟨c0, oc0, _, _, rfl, d1, d2, hne0⟩, hIl, by rw [hx0]; rfl, (fun _ hy => nomatch hy), by simp, by simp⟩

theorem int2digits_ctr (x : Int) (n : Nat) (tx tn : Tok) (Tb : List (Addr × Obj)) (hT : Tab 30 32 4 qI2 Tb) (h0 : 0 ≤ x) (h1 : 0 < n) (h2 : n < 64) (h3 : Builtin.Int.intBits x ≤ 2 ^ 21) :
    Ctr PySem.Challenge.rw_ga0003_03.row.prog w (hd.heap_39 w.params) p loose mean mg mb 35 64 512 [.int x tx, .int n tn] Tb
      (fun r hd' => ∃ l vs ds e T', r = .ref l ∧ hd' = (l, listOf vs.toArray e) :: T' ∧ Tab 30 32 4 qI2 T' ∧ IntsAre vs ds ∧ val n ds = x ∧ (∀ y ∈ ds, 0 ≤ y ∧ y < 2 ^ n) ∧ ds.length ≤ 2 ^ 22 ∧ n * ds.length ≤ 2 ^ 22) := by
  rcases hT with rfl | ⟨c0, oc0, vs0, t0, rfl, d1, d2, hne⟩
  · exact int2digits_ctr0 x n tx tn h0 h1 h2 h3
  · exact int2digits_ctr1 x n tx tn d1 d2 hne h0 h1 h2 h3
end
end
section
local macro_rules | `(tactic| walk_at "spliced") => `(tactic| first | refine args_cons ?_ | refine args_nil ⟨Fr.keep (by assumption) _ _ (by assumption), ?_⟩ | (refine args_nil ?_; try simp only [List.cons_append, List.nil_append]))
local macro_rules | `(tactic| tb_start) => `(tactic| (refine wpAny_call ?_; k_dflt (refine' codeF_def ?k1 ?k2 ?k3 ?k4 ?kD ?k5 ?kA ?kF ?kK ?k6 ?k7 ?k8 ?k9 ?kB ?_ ?c2 ?c3 ?c4 ?c5; (case kA => exact rfl); (case kF => exact rfl); (case kK => assumption); (case k1 => k_asm); (case k2 => k_asm); (case k3 => k_asm); (case k4 => k_asm); (case kD => assumption); (case k5 => k_asm); (case k6 => k_is); (case k7 => k_is); (case k8 => ktr_room); (case k9 => first | exact BindsTo.of_eq rfl | exact binds_K (by k_in) rfl (by k_is) rfl rfl rfl | (refine' kp_binds ?kx ?ke; (case kx => k_in); (case ke => exact fun _ => rfl))); (case c5 => decide); (case kB => exact locs rfl); (case c2 => exact rfl); (case c3 => exact rfl); (case c4 => exact rfl); k_whole; intro g' L' h' FG' F' N' B' X' T' RR' l1; (try dsimp only); (try k_lt l1); (try k_fold))))
local macro_rules | `(tactic| tb_rel) => `(tactic| (refine wpAny_call ?_; k_dflt (refine' codeF_defC ?k1 ?k2 ?k3 ?k4 ?kE ?k5 ?kA ?kF ?kK ?k6 ?k7 ?k8 ?k9 ?kB ?kD ?_ ?c2 ?c3 ?c4; (case kA => exact rfl); (case kF => exact rfl); (case kK => assumption); (case k1 => k_asm); (case k2 => k_asm); (case k3 => k_asm); (case k4 => k_asm); (case kE => assumption); (case k5 => k_asm); (case k6 => k_is); (case k7 => k_is); (case k8 => ktr_room); (case k9 => first | exact BindsTo.of_eq rfl | exact binds_K (by k_in) rfl (by k_is) rfl rfl rfl | (refine' kp_binds ?kx ?ke; (case kx => k_in); (case ke => exact fun _ => rfl))); (case kB => exact rfl); (case kD => decide +kernel); (case c2 => exact rfl); (case c3 => exact rfl); (case c4 => exact rfl); k_whole; intro g' L' h' tk' cells' FG' F' N' Y' B' X' T' RR' l1; (try k_lt l1); k_cells Y'; (try simp only [List.cons_append, List.nil_append] at N'); (try dsimp only); (try k_fold))))
local macro_rules | `(tactic| kwd_rel) => `(tactic| (refine wpAny_call ?_; k_dflt (refine' codeF_nest ?k1 ?k2 ?k3 ?k4 ?kD ?k5 ?kA ?kF ?kK ?k6 ?k7 ?k8 ?k9 ?kB ?_ ?c2 ?c3 ?c4 ?c5; (case kA => exact rfl); (case kF => exact rfl); (case kK => first | exact rfl | assumption); (case k1 => k_asm); (case k2 => k_asm); (case k3 => k_asm); (case k4 => k_asm); (case kD => assumption); (case k5 => k_asm); (case k6 => k_mem); (case k7 => exact codeRec_news (by k_asm) (by k_mem) (by assumption) (by assumption)); (case k8 => ktr_room); (case k9 => exact BindsTo.of_eq rfl); (case c5 => decide); (case kB => exact locs rfl); (case c2 => exact rfl); (case c3 => exact rfl); (case c4 => exact rfl); k_whole; intro g' L' h' FG' F' N' B' X' T' RR' l1; (try dsimp only); (try k_lt l1); (try k_fold))))
local macro_rules | `(tactic| k_allIn) => `(tactic| ((with_reducible refine List.forall_mem_append.mpr ⟨?ka, ?kb⟩); (case ka => k_allIn); (case kb => k_allIn)))


section
local macro_rules | `(tactic| walk_at "binaryOp Mult int int") => `(tactic| (refine mulG (IntMulOk.of_right (intBits_le_64 (by omega) (by omega))) ?_; intro v9 hv9; have hs9 := shiftFacts (by assumption) (by assumption) (by assumption) hv9))
local macro_rules | `(tactic| walk_at "binaryOp RShift int int") => `(tactic| (refine rshN ?_))
local macro_rules | `(tactic| walk_at "binaryOp LShift int int") => `(tactic| (refine lshG (by omega) (lshBound2 (by assumption) (by omega)) ?_; intro v9 hv9))
variable {w : World} {p : Program} {loose : List Str} {mean : ExcName → Option Value} {mg mb : Str → Option Value}

theorem digits2int_ctr0 (l : Addr) (vs : List Value) (ns : List Int) (e : Nat) (n : Nat) (tn : Tok) (hl37 : l ≠ 37) (h1 : 0 < n) (h2 : n < 64) (hI : IntsAre vs ns) (hb : ∀ y ∈ ns, 0 ≤ y ∧ y < 2 ^ n) (hnn : n * ns.length ≤ 2 ^ 22) :
    Ctr PySem.Challenge.rw_ga0003_03.row.prog w (hd.heap_39 w.params) p loose mean mg mb 42 64 512 [.ref l, .int n tn] ((l, listOf vs.toArray e) :: [(37, tabObj #[])])
      (fun r hd' => ∃ Tb' t, r = .int (val n ns) t ∧ hd' = (l, listOf vs.toArray e) :: Tb' ∧ Tab 37 47 4 qI3 Tb') := by
  k_fill
  intro dp un gd cn cs a ccd cl outer A₀ base h₀ L m s rest Q E B C1 C2 F X N D T hk hdp hun hret
  have hlen : ns.length ≤ 2 ^ 22 := Nat.le_trans (Nat.le_mul_of_pos_left _ h1) hnn
  have hvl : vs.length = ns.length := hI.length
  have hl1 := neN hl37
  tb_rel
  have NR : News h₀ L s.heap rest := newsSub N fun p hp => List.mem_append_right _ hp
  k_steps
  · rename_i fI cI ocI vsI tI ctI dcI h1' tk1 d1 d2 m1 m2 h2' oI F2 N2 dI hx0
    k_dflt (refine innerD_use (w := w) (p := p) (loose := loose) (mean := mean) (mg := mg) (mb := mb) (K := hd.heap_39 w.params) (prog := PySem.Challenge.rw_ga0003_03.row.prog) (d := 22) (n := n) (f := fI) (l := l) (tn := tn) (c' := cI) (oI := oI) (oc := ocI) (vs := vs) (ns := ns) (e := e) N2 (by k_mem) (by assumption) (by assumption) (by assumption) (by k_mem) (by k_mem) (by k_mem) ?_ ?_)
    · intro dA dI dN d IH lo hi tl th hlo hhi hd2
      clear hret F X N T B C1 C2 D hk hdp hun
      intro dp un gd cn cs a ccd cl outer A₀ base h₀ L m s rest Q E B C1 C2 F X N D T hk hdp hun hret
      kwd_rel
      have NR : News h₀ L s.heap rest := newsSub N fun p hp => List.mem_append_right _ hp
      k_steps
      · rename_i hone tk0 t3 kF1 kN1 T1 X1
        have e2 : hi = lo + 1 := by omega
        refine ctr_ret hret NR (by assumption) (by assumption) (by assumption) (by assumption) (by assumption) ⟨rfl, _, congrArg (fun z => Value.int z _) ?_⟩
        rw [e2, seg_cutOne (by omega)]
        simp [val]
      · rename_i hne tk0 _ sh hsh hsf hh F2' N2'
        obtain ⟨d', rfl⟩ : ∃ d', d = d' + 1 := ⟨d - 1, by
          have : 0 < d := by
            false_or_by_contra
            have : d = 0 := by omega
            subst this
            omega
          omega⟩
        have hp2 : 2 ^ (d' + 1) = 2 * 2 ^ d' := by rw [Nat.pow_succ, Nat.mul_comm]
        have hm1 := seg_cutLen (ns := ns) (lo := (lo + hi) / 2) (hi := hi) hhi
        have hm2 := seg_cutLen (ns := ns) (lo := lo) (hi := (lo + hi) / 2) (by omega)
        have hbs : Builtin.Int.intBits (val n ((ns.take hi).drop ((lo + hi) / 2))) ≤ 2 ^ 22 := bitsSeg (seg_mem hb) (Nat.le_trans (Nat.mul_le_mul_left n (by omega)) hnn)
        k_dflt (refine' IH d' rfl ((lo + hi) / 2) hi _ _ ?q7xa2 ?q7xa3 ?q7xa4 _ _ _ _ _ _ _ _ _ _ _ _ _ _ _ ([]) _ _ ?q7xk1 ?q7xk2 ?q7xk3 ?q7xk4 ?q7xk5 ?q7xk6 ?q7xk7 ?q7xk8 ?q7xk9 ?q7xk10 ?q7xk11 ?q7xkR)
        case q7xa2 => omega
        case q7xa3 => omega
        case q7xa4 => omega
        case q7xk1 => k_asm
        case q7xk2 => assumption
        case q7xk3 => assumption
        case q7xk4 => k_asm
        case q7xk5 => k_asm
        case q7xk6 => rw [List.append_nil]; k_asm
        case q7xk7 => exact Off.nilR _
        case q7xk8 => k_asm
        case q7xk9 => first | exact rfl | assumption
        case q7xk10 => ktr_room
        case q7xk11 => ktr_units
        intro r hd' h' tk' F3 N3 D3 ⟨ehd, t3, hr⟩
        subst hr ehd
        rw [List.append_nil] at N3
        dsimp only
        k_steps
        rename_i lv hlv
        k_dflt (refine' IH d' rfl lo ((lo + hi) / 2) _ _ ?q8xa2 ?q8xa3 ?q8xa4 _ _ _ _ _ _ _ _ _ _ _ _ _ _ _ ([]) _ _ ?q8xk1 ?q8xk2 ?q8xk3 ?q8xk4 ?q8xk5 ?q8xk6 ?q8xk7 ?q8xk8 ?q8xk9 ?q8xk10 ?q8xk11 ?q8xkR)
        case q8xa2 => omega
        case q8xa3 => omega
        case q8xa4 => omega
        case q8xk1 => k_asm
        case q8xk2 => assumption
        case q8xk3 => assumption
        case q8xk4 => k_asm
        case q8xk5 => k_asm
        case q8xk6 => rw [List.append_nil]; k_asm
        case q8xk7 => exact Off.nilR _
        case q8xk8 => k_asm
        case q8xk9 => first | exact rfl | assumption
        case q8xk10 => ktr_room
        case q8xk11 => ktr_units
        intro r hd' h'' tk'' F4 N4 D4 ⟨ehd, t4, hr⟩
        subst hr ehd
        rw [List.append_nil] at N4
        dsimp only
        k_steps
        refine ctr_ret hret NR (by assumption) (by assumption) (by assumption) (by assumption) (by assumption) ⟨rfl, _, congrArg (fun z => Value.int z _) ?_⟩
        rw [seg_cut (ns := ns) (lo := lo) (mid := (lo + hi) / 2) (hi := hi) (by omega) (by omega) hhi, val_append, hm2, hlv, hsf.2.2, Int.mul_comm (2 ^ _), Int.add_comm]
    · intro dA dI dN HC
      k_dflt (refine' HC 0 ns.length _ _ ?q9xa2 (Nat.le_refl _) ?q9xa4 _ _ _ _ _ _ _ _ _ _ _ _ _ _ _ ([(37, tabObj #[rawInt 47, rawInt 4, .ref cI])]) _ _ ?q9xk1 ?q9xk2 ?q9xk3 ?q9xk4 ?q9xk5 ?q9xk6 ?q9xk7 ?q9xk8 ?q9xk9 ?q9xk10 ?q9xk11 ?q9xkR)
      case q9xa2 => omega
      case q9xa4 => omega
      case q9xk1 => k_asm
      case q9xk2 => assumption
      case q9xk3 => assumption
      case q9xk4 => k_asm
      case q9xk5 => k_asm
      case q9xk6 => exact newsSub N2 (by k_allIn)
      case q9xk7 => (repeat (refine Off.cons (by k_all) ?_)); exact offNil _
      case q9xk8 => k_asm
      case q9xk9 => first | exact rfl | assumption
      case q9xk10 => ktr_room
      case q9xk11 => ktr_units
      intro r hd' h5 tk5 F5 N5 D5 ⟨ehd, t5, hr⟩
      subst hr ehd
      dsimp only
      simp only [List.cons_append, List.nil_append] at N5
      k_steps
      rename_i kF7 kN7 T7 X7
      have hds : (ns.take ns.length).drop 0 = ns := by simp
      rw [hds]
      exact ctr_ret (hd' := (l, listOf vs.toArray e) :: [(37, tabObj #[rawInt 47, rawInt 4, .ref cI]), (cI, ocI)]) hret NR (by assumption) F5 (newsSub N5 (by k_allIn)) kF7 (newsSub kN7 (by k_allIn)) ⟨_, _, rfl, rfl, Or.inr ⟨cI, ocI, _, _, rfl, d1, d2, by k_ne⟩⟩
  · rename_i fI cI ocI vsI tI ctI dcI h1' tk1 d1 d2 m1 m2 h2' oI F2 N2 dI hx0 kF7 kN7 T7 X7
    have hk0 : ns = [] := List.eq_nil_of_length_eq_zero (by omega)
    exact ctr_ret (hd' := (l, listOf vs.toArray e) :: [(37, tabObj #[rawInt 47, rawInt 4, .ref cI]), (cI, ocI)]) hret NR (by assumption) F2 (newsSub N2 (by k_allIn)) kF7 (newsSub kN7 (by k_allIn)) ⟨_, _, by rw [hk0]; rfl, rfl, Or.inr ⟨cI, ocI, _, _, rfl, d1, d2, by k_ne⟩⟩

theorem digits2int_ctr1 (l : Addr) (vs : List Value) (ns : List Int) (e : Nat) (n : Nat) (tn : Tok) {c0 : Addr} {oc0 : Obj} {vs0 : Array Value} {t0 : Tok} (d1 : oc0.data = .fields vs0) (d2 : vs0[1]? = some (.str qI3 t0)) (hne0 : c0 ≠ 37) (hne2 : l ≠ c0) (hl37 : l ≠ 37) (h1 : 0 < n) (h2 : n < 64) (hI : IntsAre vs ns) (hb : ∀ y ∈ ns, 0 ≤ y ∧ y < 2 ^ n) (hnn : n * ns.length ≤ 2 ^ 22) :
    Ctr PySem.Challenge.rw_ga0003_03.row.prog w (hd.heap_39 w.params) p loose mean mg mb 42 64 512 [.ref l, .int n tn] ((l, listOf vs.toArray e) :: [(37, tabObj #[rawInt 47, rawInt 4, .ref c0]), (c0, oc0)])
      (fun r hd' => ∃ Tb' t, r = .int (val n ns) t ∧ hd' = (l, listOf vs.toArray e) :: Tb' ∧ Tab 37 47 4 qI3 Tb') := by
  k_fill
  intro dp un gd cn cs a ccd cl outer A₀ base h₀ L m s rest Q E B C1 C2 F X N D T hk hdp hun hret
  have hlen : ns.length ≤ 2 ^ 22 := Nat.le_trans (Nat.le_mul_of_pos_left _ h1) hnn
  have hvl : vs.length = ns.length := hI.length
  have hl1 := neN hl37
  have hne1 := neN hne0
  have hne3 := neN hne2
  tb_rel
  have NR : News h₀ L s.heap rest := newsSub N fun p hp => List.mem_append_right _ hp
  k_steps
  · rename_i fI ctI dcI h1' tk1 m1 h2' oI F2 N2 dI hx0
    k_dflt (refine innerD_use (w := w) (p := p) (loose := loose) (mean := mean) (mg := mg) (mb := mb) (K := hd.heap_39 w.params) (prog := PySem.Challenge.rw_ga0003_03.row.prog) (d := 22) (n := n) (f := fI) (l := l) (tn := tn) (c' := c0) (oI := oI) (oc := oc0) (vs := vs) (ns := ns) (e := e) N2 (by k_mem) (by assumption) (by assumption) (by assumption) (by k_mem) (by k_mem) (by k_mem) ?_ ?_)
    · intro dA dI dN d IH lo hi tl th hlo hhi hd2
      clear hret F X N T B C1 C2 D hk hdp hun
      intro dp un gd cn cs a ccd cl outer A₀ base h₀ L m s rest Q E B C1 C2 F X N D T hk hdp hun hret
      kwd_rel
      have NR : News h₀ L s.heap rest := newsSub N fun p hp => List.mem_append_right _ hp
      k_steps
      · rename_i hone tk0 t3 kF1 kN1 T1 X1
        have e2 : hi = lo + 1 := by omega
        refine ctr_ret hret NR (by assumption) (by assumption) (by assumption) (by assumption) (by assumption) ⟨rfl, _, congrArg (fun z => Value.int z _) ?_⟩
        rw [e2, seg_cutOne (by omega)]
        simp [val]
      · rename_i hne tk0 _ sh hsh hsf hh F2' N2'
        obtain ⟨d', rfl⟩ : ∃ d', d = d' + 1 := ⟨d - 1, by
          have : 0 < d := by
            false_or_by_contra
            have : d = 0 := by omega
            subst this
            omega
          omega⟩
        have hp2 : 2 ^ (d' + 1) = 2 * 2 ^ d' := by rw [Nat.pow_succ, Nat.mul_comm]
        have hm1 := seg_cutLen (ns := ns) (lo := (lo + hi) / 2) (hi := hi) hhi
        have hm2 := seg_cutLen (ns := ns) (lo := lo) (hi := (lo + hi) / 2) (by omega)
        have hbs : Builtin.Int.intBits (val n ((ns.take hi).drop ((lo + hi) / 2))) ≤ 2 ^ 22 := bitsSeg (seg_mem hb) (Nat.le_trans (Nat.mul_le_mul_left n (by omega)) hnn)
        k_dflt (refine' IH d' rfl ((lo + hi) / 2) hi _ _ ?q10xa2 ?q10xa3 ?q10xa4 _ _ _ _ _ _ _ _ _ _ _ _ _ _ _ ([]) _ _ ?q10xk1 ?q10xk2 ?q10xk3 ?q10xk4 ?q10xk5 ?q10xk6 ?q10xk7 ?q10xk8 ?q10xk9 ?q10xk10 ?q10xk11 ?q10xkR)
        case q10xa2 => omega
        case q10xa3 => omega
        case q10xa4 => omega
        case q10xk1 => k_asm
        case q10xk2 => assumption
        case q10xk3 => assumption
        case q10xk4 => k_asm
        case q10xk5 => k_asm
        case q10xk6 => rw [List.append_nil]; k_asm
        case q10xk7 => exact Off.nilR _
        case q10xk8 => k_asm
        case q10xk9 => first | exact rfl | assumption
        case q10xk10 => ktr_room
        case q10xk11 => ktr_units
        intro r hd' h' tk' F3 N3 D3 ⟨ehd, t3, hr⟩
        subst hr ehd
        rw [List.append_nil] at N3
        dsimp only
        k_steps
        rename_i lv hlv
        k_dflt (refine' IH d' rfl lo ((lo + hi) / 2) _ _ ?q11xa2 ?q11xa3 ?q11xa4 _ _ _ _ _ _ _ _ _ _ _ _ _ _ _ ([]) _ _ ?q11xk1 ?q11xk2 ?q11xk3 ?q11xk4 ?q11xk5 ?q11xk6 ?q11xk7 ?q11xk8 ?q11xk9 ?q11xk10 ?q11xk11 ?q11xkR)
        case q11xa2 => omega
        case q11xa3 => omega
        case q11xa4 => omega
        case q11xk1 => k_asm
        case q11xk2 => assumption
        case q11xk3 => assumption
        case q11xk4 => k_asm
        case q11xk5 => k_asm
        case q11xk6 => rw [List.append_nil]; k_asm
        case q11xk7 => exact Off.nilR _
        case q11xk8 => k_asm
        case q11xk9 => first | exact rfl | assumption
        case q11xk10 => ktr_room
        case q11xk11 => ktr_units
        intro r hd' h'' tk'' F4 N4 D4 ⟨ehd, t4, hr⟩
        subst hr ehd
        rw [List.append_nil] at N4
        dsimp only
        k_steps
        refine ctr_ret hret NR (by assumption) (by assumption) (by assumption) (by assumption) (by assumption) ⟨rfl, _, congrArg (fun z => Value.int z _) ?_⟩
        rw [seg_cut (ns := ns) (lo := lo) (mid := (lo + hi) / 2) (hi := hi) (by omega) (by omega) hhi, val_append, hm2, hlv, hsf.2.2, Int.mul_comm (2 ^ _), Int.add_comm]
    · intro dA dI dN HC
      k_dflt (refine' HC 0 ns.length _ _ ?q12xa2 (Nat.le_refl _) ?q12xa4 _ _ _ _ _ _ _ _ _ _ _ _ _ _ _ ([(37, tabObj #[rawInt 47, rawInt 4, .ref c0])]) _ _ ?q12xk1 ?q12xk2 ?q12xk3 ?q12xk4 ?q12xk5 ?q12xk6 ?q12xk7 ?q12xk8 ?q12xk9 ?q12xk10 ?q12xk11 ?q12xkR)
      case q12xa2 => omega
      case q12xa4 => omega
      case q12xk1 => k_asm
      case q12xk2 => assumption
      case q12xk3 => assumption
      case q12xk4 => k_asm
      case q12xk5 => k_asm
      case q12xk6 => exact newsSub N2 (by k_allIn)
      case q12xk7 => (repeat (refine Off.cons (by k_all) ?_)); exact offNil _
      case q12xk8 => k_asm
      case q12xk9 => first | exact rfl | assumption
      case q12xk10 => ktr_room
      case q12xk11 => ktr_units
      intro r hd' h5 tk5 F5 N5 D5 ⟨ehd, t5, hr⟩
      subst hr ehd
      dsimp only
      simp only [List.cons_append, List.nil_append] at N5
      k_steps
      rename_i kF7 kN7 T7 X7
      have hds : (ns.take ns.length).drop 0 = ns := by simp
      rw [hds]
      exact ctr_ret (hd' := (l, listOf vs.toArray e) :: [(37, tabObj #[rawInt 47, rawInt 4, .ref c0]), (c0, oc0)]) hret NR (by assumption) F5 (newsSub N5 (by k_allIn)) kF7 (newsSub kN7 (by k_allIn)) ⟨_, _, rfl, rfl, Or.inr ⟨c0, oc0, _, _, rfl, d1, d2, hne0⟩⟩
  · rename_i fI ctI dcI h1' tk1 m1 h2' oI F2 N2 dI hx0 kF7 kN7 T7 X7
    have hk0 : ns = [] := List.eq_nil_of_length_eq_zero (by omega)
    exact ctr_ret (hd' := (l, listOf vs.toArray e) :: [(37, tabObj #[rawInt 47, rawInt 4, .ref c0]), (c0, oc0)]) hret NR (by assumption) F2 (newsSub N2 (by k_allIn)) kF7 (newsSub kN7 (by k_allIn)) ⟨_, _, by rw [hk0]; rfl, rfl, Or.inr ⟨c0, oc0, _, _, rfl, d1, d2, hne0⟩⟩

theorem digits2int_ctr (l : Addr) (vs : List Value) (ns : List Int) (e : Nat) (n : Nat) (tn : Tok) (Tb : List (Addr × Obj)) (hT : Tab 37 47 4 qI3 Tb) (hoff : ∀ q ∈ Tb, l ≠ q.1) (h1 : 0 < n) (h2 : n < 64) (hI : IntsAre vs ns) (hb : ∀ y ∈ ns, 0 ≤ y ∧ y < 2 ^ n) (hnn : n * ns.length ≤ 2 ^ 22) :
    Ctr PySem.Challenge.rw_ga0003_03.row.prog w (hd.heap_39 w.params) p loose mean mg mb 42 64 512 [.ref l, .int n tn] ((l, listOf vs.toArray e) :: Tb)
      (fun r hd' => ∃ Tb' t, r = .int (val n ns) t ∧ hd' = (l, listOf vs.toArray e) :: Tb' ∧ Tab 37 47 4 qI3 Tb') := by
  rcases hT with rfl | ⟨c0, oc0, vs0, t0, rfl, d1, d2, hne⟩
  · exact digits2int_ctr0 l vs ns e n tn (hoff _ (.head _)) h1 h2 hI hb hnn
  · exact digits2int_ctr1 l vs ns e n tn d1 d2 hne (hoff _ (.tail _ (.head _))) (hoff _ (.head _)) h1 h2 hI hb hnn
end
end
section
theorem Fr.know {h₀ h : Heap} {L : Addr} {m : Str → Option Value} {k : Str} {v : Value} (F : Fr h₀ L h m) (hk : m k = some v) : Fr h₀ L h (fun z => if z = k then some v else m z) := by
  have e : (fun z => if z = k then some v else m z) = m := by
    funext z
    by_cases hz : z = k
    · rw [if_pos hz, hz, hk]
    · rw [if_neg hz]
  rw [e]; exact F
theorem Tab.offSeq {P : Addr} {ln cl : Int} {q : Str} {T led : List (Addr × Obj)} {h₀ h : Heap} {L l : Addr} {o : Obj} {its : Array Value} {ep : Nat} (hT : Tab P ln cl q T) (N : News h₀ L h led) (hm : (l, o) ∈ led) (hs : o.data = .seq its ep) (hsub : ∀ p ∈ T, p ∈ led) : ∀ p ∈ T, p.1 ≠ l := by
  have h1 := (N _ hm).1
  have key : ∀ p ∈ T, (∃ vs, p.2.data = .fields vs) → p.1 ≠ l := fun p hp ⟨vs, hv⟩ e => by
    have h2 := (N _ (hsub p hp)).1
    rw [e, h1] at h2
    cases h2
    rw [hs] at hv
    cases hv
  intro p hp
  refine key p hp ?_
  rcases hT with rfl | ⟨c', oc, vs, t, rfl, d1, _, _⟩
  · rw [List.mem_singleton.mp hp]; exact ⟨_, rfl⟩
  · rcases List.mem_cons.mp hp with rfl | hp
    · exact ⟨_, rfl⟩
    · rw [List.mem_singleton.mp hp]; exact ⟨_, d1⟩
theorem intsGet {vs : List Value} {ns : List Int} {i : Nat} {v : Value} (h : IntsAre vs ns) (hv : vs[i]? = some v) : ∃ d t, ns[i]? = some d ∧ v = .int d t := by
  have hl := h.length
  have hi : i < vs.length := (List.getElem?_eq_some_iff.mp hv).1
  obtain ⟨t, ht⟩ := h.get i (ns[i]'(by omega)) (List.getElem?_eq_getElem (by omega))
  rw [hv] at ht
  exact ⟨_, t, List.getElem?_eq_getElem (by omega), Option.some.inj ht⟩

/-- one turn of the school's division -/
theorem digitStep {n : Nat} {ds qs : List Int} {y R d : Int} {i : Nat} (hi : i < ds.length) (hd : ds[ds.length - 1 - i]? = some d) (hy : 0 < y) (hR : 0 ≤ R) (hRy : R < y) (hd0 : 0 ≤ d) (hdn : d < 2 ^ n)
    (hv : val n (ds.drop (ds.length - i)) = val n qs.reverse * y + R) :
    val n (ds.drop (ds.length - (i + 1))) = val n (qs ++ [(R * 2 ^ n + d).fdiv y]).reverse * y + (R * 2 ^ n + d).fmod y ∧ 0 ≤ (R * 2 ^ n + d).fmod y ∧ (R * 2 ^ n + d).fmod y < y ∧ 0 ≤ (R * 2 ^ n + d).fdiv y ∧ (R * 2 ^ n + d).fdiv y < 2 ^ n := by
  have hp : (0 : Int) < 2 ^ n := Int.pow_pos (by decide)
  have h0 : 0 ≤ R * 2 ^ n := Int.mul_nonneg hR (by omega)
  rw [Int.fdiv_eq_ediv_of_nonneg _ (by omega), Int.fmod_eq_emod_of_nonneg _ (by omega)]
  have hx : ds.drop (ds.length - (i + 1)) = d :: ds.drop (ds.length - i) := by
    have e1 : ds.length - (i + 1) = ds.length - 1 - i := by omega
    have e2 : ds.length - i = ds.length - 1 - i + 1 := by omega
    obtain ⟨hlt, he⟩ := List.getElem?_eq_some_iff.mp hd
    rw [e1, e2, List.drop_eq_getElem_cons hlt, he]
  have hm := Int.emod_add_mul_ediv (R * 2 ^ n + d) y
  refine ⟨?_, Int.emod_nonneg _ (by omega), Int.emod_lt_of_pos _ hy, Int.ediv_nonneg (by omega) (by omega), Int.ediv_lt_of_lt_mul hy ?_⟩
  · rw [hx, val, hv, List.reverse_append, List.reverse_cons, List.reverse_nil, List.nil_append, List.singleton_append, val]
    rw [Int.add_mul, Int.mul_add, ← Int.mul_assoc, Int.mul_comm (2 ^ n : Int) R]
    rw [Int.mul_comm y] at hm
    omega
  · have : (R + 1) * 2 ^ n ≤ y * 2 ^ n := Int.mul_le_mul_of_nonneg_right (by omega) (by omega)
    rw [Int.add_mul, Int.one_mul] at this
    rw [Int.mul_comm y] at this
    omega

theorem bitsStep {n : Nat} {R y d : Int} (hn : Builtin.Int.intBits y = n) (hn2 : n < 64) (hR : 0 ≤ R) (hRy : R < y) (hd0 : 0 ≤ d) (hdn : d < 2 ^ n) : (Builtin.Int.intBits (R * 2 ^ n + d) : Int) - n ≤ 4000 := by
  have hp : (0 : Int) < 2 ^ n := Int.pow_pos (by decide)
  have h1 : y.natAbs < 2 ^ n := intBits_le_iff.mp (by omega)
  have h2 : y < ((2 ^ n : Nat) : Int) := by omega
  have h2' : y < 2 ^ n := by simpa using h2
  have h3 : (R + 1) * 2 ^ n ≤ 2 ^ n * 2 ^ n := Int.mul_le_mul_of_nonneg_right (by omega) (by omega)
  rw [Int.add_mul, Int.one_mul, ← Int.pow_add] at h3
  have h4 : 0 ≤ R * 2 ^ n := Int.mul_nonneg hR (by omega)
  have := bits_of_lt (x := R * 2 ^ n + d) (k := n + n) (by omega) (by omega)
  omega

theorem intsPush {x : Int} {t : Tok} : ∀ {vs : List Value} {ns : List Int}, IntsAre vs ns → IntsAre (vs ++ [.int x t]) (ns ++ [x])
  | _, _, .nil => .cons x t .nil
  | _, _, .cons n u h => .cons n u (intsPush h)
theorem intsRev : ∀ {vs : List Value} {ns : List Int}, IntsAre vs ns → IntsAre vs.reverse ns.reverse
  | _, _, .nil => .nil
  | _, _, .cons n u h => by rw [List.reverse_cons, List.reverse_cons]; exact intsPush (intsRev h)
theorem divEnd {x Q y R : Int} (h : x = Q * y + R) (h0 : 0 ≤ R) (h1 : R < y) : x.fdiv y = Q ∧ x.fmod y = R := by
  rw [Int.fdiv_eq_ediv_of_nonneg _ (by omega), Int.fmod_eq_emod_of_nonneg _ (by omega), h]
  refine ⟨?_, ?_⟩
  · rw [Int.add_comm, Int.add_mul_ediv_right _ _ (by omega), Int.ediv_eq_zero_of_lt h0 h1]; omega
  · rw [Int.add_comm, Int.add_mul_emod_self_right, Int.emod_eq_of_lt h0 h1]

theorem negDiv {x y : Int} (h1 : 0 < y) : -((-x - 1).fdiv y) - 1 = x.fdiv y ∧ y + (-((-x - 1).fmod y) - 1) = x.fmod y := by
  have f1 : (-x - 1).fdiv y = (-x - 1) / y := Int.fdiv_eq_ediv_of_nonneg _ (by omega)
  have f2 : (-x - 1).fmod y = (-x - 1) % y := Int.fmod_eq_emod_of_nonneg _ (by omega)
  rw [f1, f2]
  have a1 := Int.emod_add_mul_ediv (-x - 1) y
  have a2 := Int.emod_nonneg (-x - 1) (b := y) (by omega)
  have a3 := Int.emod_lt_of_pos (-x - 1) h1
  generalize (-x - 1) / y = q at *
  generalize (-x - 1) % y = r at *
  have e : x = (-q - 1) * y + (y - r - 1) := by
    rw [Int.sub_mul, Int.neg_mul, Int.one_mul, Int.mul_comm q y]; omega
  have := divEnd e (by omega) (by omega)
  omega

/-- a turn's end: the ledger is the iterator's own and what the word says -/
def TurnEnd (h₀ : Heap) (L : Addr) (own : List (Addr × Obj)) (J : (Str → Option Value) → List (Addr × Obj) → Prop) (s₁ s₂ : Shared) : Prop :=
  ∃ h' tk m' news', s₂ = { s₁ with heap := h', toks := tk } ∧ Fr h₀ L h' m' ∧ News h₀ L h' (own ++ news') ∧ Off own news' ∧ J m' news'
def TurnPost (h₀ : Heap) (L : Addr) (own : List (Addr × Obj)) (J : (Str → Option Value) → List (Addr × Obj) → Prop) (Q : Flow → Shared → Prop) (s₁ : Shared) (f : Flow) (s₂ : Shared) : Prop :=
  match f with
  | .ret v => Q (.ret v) s₂
  | .brk => Q .next s₂
  | _ => TurnEnd h₀ L own J s₁ s₂

section
variable {prog : Program} {w : World} {A : Around} {E : Value → Shared → Prop} {s : Shared} {env : Env} {h₀ : Heap} {x : Str} {body : List Stmt} {Q : Flow → Shared → Prop}

theorem loopG {I : Addr} {fp wr : List Addr} {n : Nat} {P : Nat → Value → Prop} {St : Nat → Heap → Prop} {m₀ : Str → Option Value} {news keep : List (Addr × Obj)} (J : Nat → (Str → Option Value) → List (Addr × Obj) → Prop)
    (W : Walks prog w A I fp wr n P St) (hobj : ∀ i h, St i h → ∀ b ∈ fp, ∃ o, h.get? b = some o) (hLf : env.locals ∉ fp) (hwr : ∀ b ∈ wr, h₀.get? b = none) (hkw : ∀ p ∈ keep, p.1 ∈ fp ∧ p.1 ∉ wr) (hfp : ∀ p ∈ news, p.1 ∉ fp) (hst : St 0 s.heap) (F : Fr h₀ env.locals s.heap m₀)
    (N : News h₀ env.locals s.heap (news ++ keep)) (hj : J 0 m₀ news)
    (turn : ∀ i v m₁ news₁ h tk own, i < n → P i v → J i m₁ news₁ → Off own news₁ → (∀ b ∈ fp, h₀.get? b = none → ∀ o, h.get? b = some o → (b, o) ∈ own) → (∀ p ∈ keep, p ∈ own) → St (i + 1) h → Fr h₀ env.locals h (fun y => if y = x then some v else m₁ y) → News h₀ env.locals h (own ++ news₁) →
      wpAny (model prog w) A (execs body env) (TurnPost h₀ env.locals own (J (i + 1)) Q { s with heap := h, toks := tk }) E { s with heap := h, toks := tk })
    (done : ∀ m₁ news₁ h tk, J n m₁ news₁ → (∀ p ∈ news₁, p.1 ∉ fp) → Fr h₀ env.locals h m₁ → News h₀ env.locals h (news₁ ++ keep) → Q .next { s with heap := h, toks := tk }) :
    LoopAtV prog w A h₀ env x body Q E (.ref I) s := by
  let J' : Nat → (Str → Option Value) → List (Addr × Obj) → Prop := fun i m nx => ∃ news₁, nx = news₁ ++ keep ∧ (∀ p ∈ news₁, p.1 ∉ fp) ∧ J i m news₁
  refine ⟨I, fp, wr, n, P, St, m₀, news ++ keep, J', rfl, W, hLf, hwr, ?_, hst, F, N, ⟨news, rfl, hfp, hj⟩, ?_, ?_⟩
  · intro p hp hm
    rcases List.mem_append.mp hp with hp | hp
    · exact hfp p hp (W.sub _ hm)
    · exact (hkw p hp).2 hm
  · rintro i v m₁ nx s₁ own ⟨hh', tk', rfl⟩ hin hP ⟨news₁, rfl, hoff, hJ⟩ _ hown hget hall hst' F₁ N₁
    have hk : ∀ p ∈ keep, p ∈ own := fun p hp => hall p.1 (hkw p hp).1 (N p (List.mem_append_right _ hp)).2.2 p.2 (N₁ p (List.mem_append_right _ (List.mem_append_right _ hp))).1
    have N₂ : News h₀ env.locals hh' (own ++ news₁) := fun p hp => N₁ p ((List.mem_append.mp hp).elim (fun h => List.mem_append_left _ h) fun h => List.mem_append_right _ (List.mem_append_left _ h))
    refine wpAny_mono (turn i v m₁ news₁ hh' tk' own hin hP hJ (fun p hp q hq e => hoff q hq (e ▸ hown p hp)) hall hk hst' F₁ N₂) (fun f s₂ p => ?_) fun _ _ e => e
    have fin : TurnEnd h₀ env.locals own (J (i + 1)) { s with heap := hh', toks := tk' } s₂ → LoopStepU h₀ env.locals wr own (J' (i + 1)) { s with heap := hh', toks := tk' } .next s₂ := by
      rintro ⟨h', tk, m', news', e, F', N', hO, hm⟩
      have hno : ∀ p ∈ news', p.1 ∉ fp := fun p hp hb => by
        cases q : h₀.get? p.1 with
        | some o => have := (N' p (List.mem_append_right _ hp)).2.2; rw [q] at this; cases this
        | none =>
          obtain ⟨o, ho⟩ := hobj _ _ hst' p.1 hb
          exact hO _ (hall _ hb q o ho) p hp rfl
      refine ⟨rfl, h', tk, m', news' ++ keep, e, F', fun p hp => ?_, fun p hp hb => ?_, news', rfl, hno, hm⟩
      · rcases List.mem_append.mp hp with h | h
        · exact N' p (List.mem_append_left _ h)
        · rcases List.mem_append.mp h with h | h
          · exact N' p (List.mem_append_right _ h)
          · exact N' p (List.mem_append_left _ (hk p h))
      · rcases List.mem_append.mp hp with h | h
        · exact hno p h (W.sub _ hb)
        · exact (hkw p h).2 hb
    cases f with
    | ret v => exact .ret p
    | brk => exact .brk p
    | next => exact .next (fin p)
    | cont => exact .cont (fin p)
  · rintro h' tk m' news' F' N' _ ⟨news₁, rfl, hno, hJ⟩
    exact done m' news₁ h' tk hJ hno F' N'

/-- over reversed(l), the iterator and the list in the ledger; the list is not asked for behind it -/
theorem iterRevG {I l : Addr} {vs : List Value} {e : Nat} {led news : List (Addr × Obj)} {m₀ : Str → Option Value} (J : Nat → (Str → Option Value) → List (Addr × Obj) → Prop)
    (hh : A.handled = none) (F : Fr h₀ env.locals s.heap m₀) (N : News h₀ env.locals s.heap led) (hI : (I, revObj l ((vs.length : Int) - 1)) ∈ led) (hl : (l, listOf vs.toArray e) ∈ led) (hne : l ≠ I) (hsub : ∀ p ∈ news, p ∈ led) (hnI : ∀ p ∈ news, p.1 ≠ I) (hnl : ∀ p ∈ news, p.1 ≠ l) (hj : J 0 m₀ news)
    (turn : ∀ i v m₁ news₁ h tk own, i < vs.length → vs[vs.length - 1 - i]? = some v → J i m₁ news₁ → Off own news₁ → Fr h₀ env.locals h (fun y => if y = x then some v else m₁ y) → News h₀ env.locals h (own ++ news₁) →
      wpAny (model prog w) A (execs body env) (TurnPost h₀ env.locals own (J (i + 1)) Q { s with heap := h, toks := tk }) E { s with heap := h, toks := tk })
    (done : ∀ m₁ news₁ h tk, J vs.length m₁ news₁ → Fr h₀ env.locals h m₁ → News h₀ env.locals h news₁ → Q .next { s with heap := h, toks := tk }) :
    wpAny (model prog w) A (pyIter (.ref I)) (fun it s₂ => LoopAtV prog w A h₀ env x body Q E it s₂) E s := by
  have hL : s.heap.IsList l vs.toArray := ⟨_, (N _ hl).1, rfl, e, rfl⟩
  have hit : s.heap.IsRevIter I l ((vs.length : Int) - 1) := ⟨_, (N _ hI).1, rfl, rfl⟩
  refine wpAny_pyIter_revIter hit ?_
  have W := Walks.listRev (prog := prog) (w := w) hh I l hne vs.toArray
  have hlen : vs.toArray.size = vs.length := by simp
  rw [hlen] at W
  refine loopG (keep := []) J W ?_ ?_ ?_ (fun _ hp => nomatch hp) ?_ ⟨Nat.zero_le _, by simpa using hit, hL⟩ F (newsSub N fun p hp => hsub p (by simpa using hp)) hj ?_ ?_
  · rintro i h ⟨_, ⟨o1, h1, _⟩, ⟨o2, h2, _⟩⟩ b hb
    rcases List.mem_cons.mp hb with rfl | hb
    · exact ⟨o1, h1⟩
    · rw [List.mem_singleton.mp hb]; exact ⟨o2, h2⟩
  · intro hm
    rcases List.mem_cons.mp hm with e1 | hm
    · exact (N _ hI).2.1 e1.symm
    · exact (N _ hl).2.1 (List.mem_singleton.mp hm).symm
  · intro b hb
    rw [List.mem_singleton.mp hb]; exact (N _ hI).2.2
  · intro p hp hm
    rcases List.mem_cons.mp hm with e1 | hm
    · exact hnI p hp e1
    · exact hnl p hp (List.mem_singleton.mp hm)
  · intro i v m₁ news₁ h tk own hi hP hJ hO _ _ _ F₁ N₁
    exact turn i v m₁ news₁ h tk own hi (by simpa using hP) hJ hO F₁ N₁
  · intro m₁ news₁ h tk hJ _ F₁ N₁
    exact done m₁ news₁ h tk hJ F₁ (by simpa using N₁)

/-- over a range, of any step -/
theorem iterRangeG {r : Addr} {a b c : Int} {t u v : Tok} {n : Nat} {news : List (Addr × Obj)} {m₀ : Str → Option Value} (J : Nat → (Str → Option Value) → List (Addr × Obj) → Prop)
    (hh : A.handled = none) (hr : IsRange s.heap r a b c t u v) (hsmall : Builtin.Range.small a b c = true) (hn : Builtin.Range.rangeSize a b c = (n : Int)) (F : Fr h₀ env.locals s.heap m₀) (N : News h₀ env.locals s.heap news) (hj : J 0 m₀ news)
    (turn : ∀ i (t : Tok) m₁ news₁ h tk own, i < n → J i m₁ news₁ → Off own news₁ → Fr h₀ env.locals h (fun y => if y = x then some (.int (a + i * c) t) else m₁ y) → News h₀ env.locals h (own ++ news₁) →
      wpAny (model prog w) A (execs body env) (TurnPost h₀ env.locals own (J (i + 1)) Q { s with heap := h, toks := tk }) E { s with heap := h, toks := tk })
    (done : ∀ m₁ news₁ h tk, J n m₁ news₁ → Fr h₀ env.locals h m₁ → News h₀ env.locals h news₁ → Q .next { s with heap := h, toks := tk }) :
    wpAny (model prog w) A (pyIter (.ref r)) (fun it s₂ => LoopAtV prog w A h₀ env x body Q E it s₂) E s := by
  refine wpAny_pyIter_range hr hsmall ?_
  have W := Walks.range (prog := prog) (w := w) hh s.heap.objs.size a c n
  have hnew : h₀.get? s.heap.objs.size = none := by
    cases q : h₀.get? s.heap.objs.size with
    | none => rfl
    | some o => exact absurd (Heap.lt_size (F.keep _ _ q)) (Nat.lt_irrefl _)
  refine loopG (keep := []) J W ?_ ?_ ?_ (fun _ hp => nomatch hp) ?_ (by show IsRangeIter _ _ _ _ _; rw [hn]; simpa using Heap.get?_push_size _ rfl) (F.push _) (fun p hp => ⟨Heap.get?_push_of_some _ (N p (by simpa using hp)).1, (N p (by simpa using hp)).2⟩) hj ?_ ?_
  · intro i h hs b hb
    rw [List.mem_singleton.mp hb]; exact ⟨_, hs⟩
  · intro hm
    exact absurd F.ns.lt ((List.mem_singleton.mp hm) ▸ Nat.lt_irrefl _)
  · intro b hb
    rw [List.mem_singleton.mp hb]; exact hnew
  · intro p hp hm
    exact absurd (Heap.lt_size (N p hp).1) ((List.mem_singleton.mp hm) ▸ Nat.lt_irrefl _)
  · rintro i v m₁ news₁ h tk own hi ⟨t, rfl⟩ hJ hO _ _ _ F₁ N₁
    exact turn i t m₁ news₁ h tk own hi hJ hO F₁ N₁
  · intro m₁ news₁ h tk hJ _ F₁ N₁
    exact done m₁ news₁ h tk hJ F₁ (by simpa using N₁)

/-- over a list of the ledger, which stands -/
theorem iterListG {l : Addr} {vs : List Value} {e : Nat} {led news : List (Addr × Obj)} {m₀ : Str → Option Value} (J : Nat → (Str → Option Value) → List (Addr × Obj) → Prop)
    (hh : A.handled = none) (F : Fr h₀ env.locals s.heap m₀) (N : News h₀ env.locals s.heap led) (hl : (l, listOf vs.toArray e) ∈ led) (hsub : ∀ p ∈ news, p ∈ led) (hnl : ∀ p ∈ news, p.1 ≠ l) (hj : J 0 m₀ news)
    (turn : ∀ i v m₁ news₁ h tk own, i < vs.length → vs[i]? = some v → J i m₁ news₁ → Off own news₁ → (l, listOf vs.toArray e) ∈ own → Fr h₀ env.locals h (fun y => if y = x then some v else m₁ y) → News h₀ env.locals h (own ++ news₁) →
      wpAny (model prog w) A (execs body env) (TurnPost h₀ env.locals own (J (i + 1)) Q { s with heap := h, toks := tk }) E { s with heap := h, toks := tk })
    (done : ∀ m₁ news₁ h tk, J vs.length m₁ news₁ → (∀ p ∈ news₁, p.1 ≠ l) → Fr h₀ env.locals h m₁ → News h₀ env.locals h (news₁ ++ [(l, listOf vs.toArray e)]) → Q .next { s with heap := h, toks := tk }) :
    wpAny (model prog w) A (pyIter (.ref l)) (fun it s₂ => LoopAtV prog w A h₀ env x body Q E it s₂) E s := by
  have hL : s.heap.IsList l vs.toArray := ⟨_, (N _ hl).1, rfl, e, rfl⟩
  refine wpAny_pyIter_list hL ?_
  have hlt : l < s.heap.objs.size := Heap.lt_size (N _ hl).1
  have hne : l ≠ s.heap.objs.size := Nat.ne_of_lt hlt
  have W := Walks.list (prog := prog) (w := w) hh s.heap.objs.size l hne vs.toArray
  have hlen : vs.toArray.size = vs.length := by simp
  rw [hlen] at W
  have hnew : h₀.get? s.heap.objs.size = none := by
    cases q : h₀.get? s.heap.objs.size with
    | none => rfl
    | some o => exact absurd (Heap.lt_size (F.keep _ _ q)) (Nat.lt_irrefl _)
  have hin : ∀ p ∈ news ++ [(l, listOf vs.toArray e)], p ∈ led := fun p hp => (List.mem_append.mp hp).elim (hsub p) fun h => (List.mem_singleton.mp h) ▸ hl
  refine loopG (keep := [(l, listOf vs.toArray e)]) J W ?_ ?_ ?_ ?_ ?_ ⟨⟨_, Heap.get?_push_size _ rfl, rfl, rfl⟩, hL.at fun o e => Heap.get?_push_of_some _ e⟩ (F.push _) (fun p hp => ⟨Heap.get?_push_of_some _ (N p (hin p hp)).1, (N p (hin p hp)).2⟩) hj ?_ ?_
  · rintro i h ⟨⟨o1, h1, _⟩, ⟨o2, h2, _⟩⟩ b hb
    rcases List.mem_cons.mp hb with rfl | hb
    · exact ⟨o1, h1⟩
    · rw [List.mem_singleton.mp hb]; exact ⟨o2, h2⟩
  · intro hm
    rcases List.mem_cons.mp hm with e1 | hm
    · exact absurd F.ns.lt (e1 ▸ Nat.lt_irrefl _)
    · exact (N _ hl).2.1 (List.mem_singleton.mp hm).symm
  · intro b hb
    rw [List.mem_singleton.mp hb]; exact hnew
  · intro p hp
    rw [List.mem_singleton.mp hp]
    exact ⟨by simp, fun hm => hne (List.mem_singleton.mp hm)⟩
  · intro p hp hm
    rcases List.mem_cons.mp hm with e1 | hm
    · exact absurd (Heap.lt_size (N p (hsub p hp)).1) (e1 ▸ Nat.lt_irrefl _)
    · exact hnl p hp (List.mem_singleton.mp hm)
  · intro i v m₁ news₁ h tk own hi hP hJ hO _ hk _ F₁ N₁
    exact turn i v m₁ news₁ h tk own hi (by simpa using hP) hJ hO (hk _ (.head _)) F₁ N₁
  · intro m₁ news₁ h tk hJ hno F₁ N₁
    exact done m₁ news₁ h tk hJ (fun p hp e => hno p hp (by rw [e]; simp)) F₁ N₁
end
end
section
local macro_rules | `(tactic| walk_at "spliced") => `(tactic| first | refine args_cons ?_ | refine args_nil ⟨Fr.keep (by assumption) _ _ (by assumption), ?_⟩ | (refine args_nil ?_; try simp only [List.cons_append, List.nil_append]))
local macro_rules | `(tactic| tb_start) => `(tactic| (refine wpAny_call ?_; k_dflt (refine' codeF_def ?k1 ?k2 ?k3 ?k4 ?kD ?k5 ?kA ?kF ?kK ?k6 ?k7 ?k8 ?k9 ?kB ?_ ?c2 ?c3 ?c4 ?c5; (case kA => exact rfl); (case kF => exact rfl); (case kK => assumption); (case k1 => k_asm); (case k2 => k_asm); (case k3 => k_asm); (case k4 => k_asm); (case kD => assumption); (case k5 => k_asm); (case k6 => k_is); (case k7 => k_is); (case k8 => ktr_room); (case k9 => first | exact BindsTo.of_eq rfl | exact binds_K (by k_in) rfl (by k_is) rfl rfl rfl | (refine' kp_binds ?kx ?ke; (case kx => k_in); (case ke => exact fun _ => rfl))); (case c5 => decide); (case kB => exact locs rfl); (case c2 => exact rfl); (case c3 => exact rfl); (case c4 => exact rfl); k_whole; intro g' L' h' FG' F' N' B' X' T' RR' l1; (try dsimp only); (try k_lt l1); (try k_fold))))
local macro_rules | `(tactic| tb_rel) => `(tactic| (refine wpAny_call ?_; k_dflt (refine' codeF_defC ?k1 ?k2 ?k3 ?k4 ?kE ?k5 ?kA ?kF ?kK ?k6 ?k7 ?k8 ?k9 ?kB ?kD ?_ ?c2 ?c3 ?c4; (case kA => exact rfl); (case kF => exact rfl); (case kK => assumption); (case k1 => k_asm); (case k2 => k_asm); (case k3 => k_asm); (case k4 => k_asm); (case kE => assumption); (case k5 => k_asm); (case k6 => k_is); (case k7 => k_is); (case k8 => ktr_room); (case k9 => first | exact BindsTo.of_eq rfl | exact binds_K (by k_in) rfl (by k_is) rfl rfl rfl | (refine' kp_binds ?kx ?ke; (case kx => k_in); (case ke => exact fun _ => rfl))); (case kB => exact rfl); (case kD => decide +kernel); (case c2 => exact rfl); (case c3 => exact rfl); (case c4 => exact rfl); k_whole; intro g' L' h' tk' cells' FG' F' N' Y' B' X' T' RR' l1; (try k_lt l1); k_cells Y'; (try simp only [List.cons_append, List.nil_append] at N'); (try dsimp only); (try k_fold))))
local macro_rules | `(tactic| kwd_rel) => `(tactic| (refine wpAny_call ?_; k_dflt (refine' codeF_nest ?k1 ?k2 ?k3 ?k4 ?kD ?k5 ?kA ?kF ?kK ?k6 ?k7 ?k8 ?k9 ?kB ?_ ?c2 ?c3 ?c4 ?c5; (case kA => exact rfl); (case kF => exact rfl); (case kK => first | exact rfl | assumption); (case k1 => k_asm); (case k2 => k_asm); (case k3 => k_asm); (case k4 => k_asm); (case kD => assumption); (case k5 => k_asm); (case k6 => k_mem); (case k7 => exact codeRec_news (by k_asm) (by k_mem) (by assumption) (by assumption)); (case k8 => ktr_room); (case k9 => exact BindsTo.of_eq rfl); (case c5 => decide); (case kB => exact locs rfl); (case c2 => exact rfl); (case c3 => exact rfl); (case c4 => exact rfl); k_whole; intro g' L' h' FG' F' N' B' X' T' RR' l1; (try dsimp only); (try k_lt l1); (try k_fold))))
local macro_rules | `(tactic| k_allIn) => `(tactic| ((with_reducible refine List.forall_mem_append.mpr ⟨?ka, ?kb⟩); (case ka => k_allIn); (case kb => k_allIn)))


section
local macro_rules | `(tactic| k_all) => `(tactic| assumption)
local macro_rules | `(tactic| walk_at "exec For Name Call cons nil") => `(tactic| (k_here; (rename Fr _ _ _ _ => lF'); (with_unfolding_all refine' For_invVF lF' ?k1 ?k2 ?_; (case k1 => exact rfl); (case k2 => exact rfl); k_whole)))
variable {w : World} {p : Program} {loose : List Str} {mean : ExcName → Option Value} {mg mb : Str → Option Value}

theorem divmod_pos_ctr (x y : Int) (tx ty : Tok) (T2 T3 : List (Addr × Obj)) (hT2 : Tab 30 32 4 qI2 T2) (hT3 : Tab 37 47 4 qI3 T3) (hO : Off T2 T3) (h0 : 0 ≤ x) (h1 : 0 < y) (h2 : y < 1073741824) (h3 : Builtin.Int.intBits x ≤ 2 ^ 21) :
    Ctr PySem.Challenge.rw_ga0003_03.row.prog w (hd.heap_39 w.params) p loose mean mg mb 49 80 700 [.int x tx, .int y ty] (T2 ++ T3)
      (fun r hd' => ∃ l t1 t2 e T2' T3', r = .ref l ∧ hd' = (l, tupObj [.int (Int.fdiv x y) t1, .int (Int.fmod x y) t2] e) :: (T2' ++ T3') ∧ Tab 30 32 4 qI2 T2' ∧ Tab 37 47 4 qI3 T3' ∧ Off T2' T3') := by
  k_fill
  intro dp un gd cn cs a ccd cl outer A₀ base h₀ L m s rest Q E B C1 C2 F X N D T hk hdp hun hret
  tb_start
  have NR : News h₀ L s.heap rest := newsSub N fun p hp => List.mem_append_right _ hp
  k_steps
  generalize hn : Builtin.Int.intBits y = n at *
  have hn1 : 0 < n := by
    rw [← hn]; unfold Builtin.Int.intBits
    rw [if_neg (by simp; omega)]; omega
  have hn2 : n < 64 := by
    have : Builtin.Int.intBits y ≤ 30 := intBits_le_iff.mpr (by omega)
    omega
  k_dflt (refine' int2digits_ctr x n _ _ T2 hT2 h0 hn1 hn2 h3 _ _ _ _ _ _ _ _ _ _ _ _ _ _ _ (T3) _ _ ?q1xk1 ?q1xk2 ?q1xk3 ?q1xk4 ?q1xk5 ?q1xk6 ?q1xk7 ?q1xk8 ?q1xk9 ?q1xk10 ?q1xk11 ?q1xkR)
  case q1xk1 => k_asm
  case q1xk2 => assumption
  case q1xk3 => assumption
  case q1xk4 => k_asm
  case q1xk5 => k_asm
  case q1xk6 => k_asm
  case q1xk7 => exact hO
  case q1xk8 => k_asm
  case q1xk9 => first | exact rfl | assumption
  case q1xk10 => ktr_room
  case q1xk11 => ktr_units
  intro r hd' h' tk' F' N' D' ⟨l, vs, ds, e, T2', hr, ehd, hT2', hI, hval, hdb, hdl, hdn⟩
  subst hr ehd
  dsimp only
  simp only [List.cons_append] at N'
  k_steps
  rename_i hh4 tk4 hh3 lq hh2 ml1 hh1 D hh F2 N2 ml2
  have hvl : vs.length = ds.length := hI.length
  have hO32 : Off T3 T2' := fun p hp q hq e => D' q (.tail _ hq) p hp e.symm
  have hnT : ∀ p ∈ T2' ++ T3, p.1 ≠ lq := fun p hp => Nat.ne_of_lt (kst_ltOf ml1.2 p hp)
  have hoT2 := Tab.offSeq hT2' N2 (l := l) (by k_mem) rfl (by intro p hp; simp [hp])
  have hoT3 := Tab.offSeq hT3 N2 (l := l) (by k_mem) rfl (by intro p hp; simp [hp])
  k_dflt (refine iterRevG (l := l) (vs := vs) (e := e) (news := (lq, listOf [].toArray 0) :: (T2' ++ T3)) (fun i m news => ∃ (R : Int) (tR tn : Tok) (qs : List Int) (vq : List Value) (eq : Nat), news = (lq, listOf vq.toArray eq) :: (T2' ++ T3) ∧ IntsAre vq qs ∧ m (Str.ofString "r") = some (.int R tR) ∧ m (Str.ofString "n") = some (.int n tn) ∧ m (Str.ofString "b") = some (.int y ty) ∧ m (Str.ofString "q_digits") = some (.ref lq) ∧ 0 ≤ R ∧ R < y ∧ val n (ds.drop (ds.length - i)) = val n qs.reverse * y + R ∧ qs.length = i ∧ ∀ q ∈ qs, 0 ≤ q ∧ q < 2 ^ n) rfl F2 N2 (by k_mem) (by k_mem) ?_ ?_ ?_ ?_ ?_ ?_ ?_)
  · k_ne
  · intro p hp; simp at hp ⊢; rcases hp with h | h | h <;> simp [h]
  · refine List.forall_mem_cons.mpr ⟨by k_ne, fun p hp => Nat.ne_of_lt (kst_ltOf (by first | exact ml2 | exact ml2.2 | exact ml2.2.2 | exact ml2.2.2.2) p hp)⟩
  · refine List.forall_mem_cons.mpr ⟨by k_ne, fun p hp => (List.mem_append.mp hp).elim (hoT2 p) (hoT3 p)⟩
  · exact ⟨0, _, _, [], [], 0, rfl, .nil, rfl, rfl, rfl, rfl, Int.le_refl _, h1, by simp [val], rfl, fun _ hq => nomatch hq⟩
  · rintro i v m₁ news₁ h tk own hi hv ⟨R, tR, tn, qs, vq, eq, rfl, hIq, hmr, hmn, hmb, hmq, hR0, hRy, hvv, hql, hqb⟩ hO F3 N3
    obtain ⟨d, td, hdd, rfl⟩ := intsGet hI hv
    rw [hvl] at hdd
    have hd1 := hdb d (List.mem_of_getElem? hdd)
    have hstep := digitStep (by omega) hdd h1 hR0 hRy hd1.1 hd1.2 hvv
    have F4 := Fr.know (k := Str.ofString "r") (v := .int R tR) F3 ((if_neg (by decide)).trans hmr)
    have F5 := Fr.know (k := Str.ofString "n") (v := .int n tn) F4 ((if_neg (by decide)).trans ((if_neg (by decide)).trans hmn))
    have F6 := Fr.know (k := Str.ofString "b") (v := .int y ty) F5 ((if_neg (by decide)).trans ((if_neg (by decide)).trans ((if_neg (by decide)).trans hmb)))
    have F7 := Fr.know (k := Str.ofString "q_digits") (v := .ref lq) F6 ((if_neg (by decide)).trans ((if_neg (by decide)).trans ((if_neg (by decide)).trans ((if_neg (by decide)).trans hmq))))
    have N4 := newsSub (xs := (lq, listOf vq.toArray eq) :: (own ++ (T2' ++ T3))) N3 (by intro p hp; simp at hp ⊢; rcases hp with h | h | h | h <;> simp [h])
    have hne : ∀ p ∈ own ++ (T2' ++ T3), p.1 ≠ lq := List.forall_mem_append.mpr ⟨fun p hp => hO p hp _ (.head _), hnT⟩
    clear F3 F4 F5 F6 F2 N2 N3
    k_steps
    rw [Int.toNat_natCast]
    k_dflt (refine' div2n1n_ctr (R * 2 ^ n + d) y n _ _ _ (by omega) (by omega) (bitsStep hn hn2 hR0 hRy hd1.1 hd1.2) _ _ _ _ _ _ _ _ _ _ _ _ _ _ _ ((lq, listOf vq.toArray eq) :: (own ++ (T2' ++ T3))) _ _ ?q2xk1 ?q2xk2 ?q2xk3 ?q2xk4 ?q2xk5 ?q2xk6 ?q2xk7 ?q2xk8 ?q2xk9 ?q2xk10 ?q2xk11 ?q2xkR)
    case q2xk1 => k_asm
    case q2xk2 => assumption
    case q2xk3 => assumption
    case q2xk4 => k_asm
    case q2xk5 => k_asm
    case q2xk6 => k_asm
    case q2xk7 => exact offNil _
    case q2xk8 => k_asm
    case q2xk9 => first | exact rfl | assumption
    case q2xk10 => ktr_room
    case q2xk11 => ktr_units
    intro r hd' h' tk' F' N' D' ⟨lt, t1, t2, et, hr, ehd⟩
    subst hr ehd
    dsimp only
    simp only [List.cons_append, List.nil_append] at N'
    have hlt : lt ≠ lq := neN (D' _ (.head _) _ (.head _))
    have hvq : vq.length = i := by rw [hIq.length]; exact hql
    k_steps
    rename_i F9 N9
    simp only [List.push_toArray] at N9
    refine ⟨_, _, _, (lq, listOf (vq ++ [Value.int ((R * 2 ^ n + d).fdiv y) t1]).toArray (eq + 1)) :: (T2' ++ T3), rfl, F9, newsSub N9 ?_, ?_, ⟨_, _, _, qs ++ [_], _, _, rfl, intsPush hIq, rfl, rfl, rfl, rfl, hstep.2.1, hstep.2.2.1, hstep.1, by rw [List.length_append, hql]; rfl, ?_⟩⟩
    · intro p hp; simp at hp ⊢; rcases hp with h | h | h | h <;> simp [h]
    · intro p hp q hq
      rcases List.mem_cons.mp hq with rfl | hq
      · exact hne p (List.mem_append_left _ hp)
      · exact hO p hp q (.tail _ hq)
    · intro q hq
      rcases List.mem_append.mp hq with hq | hq
      · exact hqb q hq
      · rw [List.mem_singleton.mp hq]; exact hstep.2.2.2
  · rintro m₁ news₁ h tk ⟨R, tR, tn, qs, vq, eq, rfl, hIq, hmr, hmn, hmb, hmq, hR0, hRy, hvv, hql, hqb⟩ F3 N3
    have F4 := Fr.know (k := Str.ofString "r") (v := .int R tR) F3 hmr
    have F5 := Fr.know (k := Str.ofString "n") (v := .int n tn) F4 ((if_neg (by decide)).trans hmn)
    have F7 := Fr.know (k := Str.ofString "q_digits") (v := .ref lq) F5 ((if_neg (by decide)).trans ((if_neg (by decide)).trans hmq))
    clear F3 F4 F5 F2 N2
    have hvq : vq.length = vs.length := by rw [hIq.length]; exact hql
    have hend := divEnd (x := x) (Q := val n qs.reverse) (y := y) (R := R) (by rw [← hval, ← hvv, hvl, Nat.sub_self, List.drop_zero]) hR0 hRy
    have hnq : n * ds.length ≤ 2 ^ 22 := hdn
    k_steps
    rename_i F4 N4 hI4
    have hI5 : IntsAre vq.reverse qs.reverse := intsRev hIq
    have N5 : News _ _ _ ((lq, listOf vq.reverse.toArray eq) :: (T2' ++ T3)) := N4
    have hq1 : ∀ q ∈ qs.reverse, 0 ≤ q ∧ q < 2 ^ n := fun q hq => hqb q (List.mem_reverse.mp hq)
    k_dflt (refine' digits2int_ctr lq vq.reverse qs.reverse eq n _ T3 hT3 ?q3xa1 hn1 hn2 hI5 hq1 ?q3xa2 _ _ _ _ _ _ _ _ _ _ _ _ _ _ _ (T2') _ _ ?q3xk1 ?q3xk2 ?q3xk3 ?q3xk4 ?q3xk5 ?q3xk6 ?q3xk7 ?q3xk8 ?q3xk9 ?q3xk10 ?q3xk11 ?q3xkR)
    case q3xa1 => exact fun q hq e => hnT q (List.mem_append_right _ hq) e.symm
    case q3xa2 => rw [List.length_reverse, hql, hvl]; exact hnq
    case q3xk1 => k_asm
    case q3xk2 => assumption
    case q3xk3 => assumption
    case q3xk4 => k_asm
    case q3xk5 => k_asm
    case q3xk6 => exact newsSub N5 (by intro p hp; simp at hp ⊢; rcases hp with h | h | h <;> simp [h])
    case q3xk7 => exact fun p hp q hq => (List.mem_cons.mp hp).elim (fun e1 e2 => hnT q (List.mem_append_left _ hq) (by rw [← e2, e1])) fun hp e2 => hO32 p hp q hq e2
    case q3xk8 => k_asm
    case q3xk9 => first | exact rfl | assumption
    case q3xk10 => ktr_room
    case q3xk11 => ktr_units
    intro r hd' h' tk' F' N' D' ⟨T3', tq, hr, ehd, hT3'⟩
    subst hr ehd
    dsimp only
    simp only [List.cons_append] at N'
    k_steps
    rename_i hh5 D9 hh6 F9 N9 l9 kF9 kN9 T9 X9
    refine ctr_ret (hd' := (D9, tupObj [.int (val n qs.reverse) tq, .int R tR] 0) :: (T2' ++ T3')) hret NR (by assumption) F9 (newsSub N9 ?_) kF9 (newsSub kN9 ?_) ⟨_, tq, tR, _, T2', T3', rfl, by rw [hend.1, hend.2], hT2', hT3', fun p hp q hq e2 => D' q (.tail _ hq) p hp e2.symm⟩
    · intro p hp; simp at hp ⊢; rcases hp with h | h | h <;> simp [h]
    · intro p hp; simp at hp ⊢; rcases hp with h | h | h <;> simp [h]
end
end
section
local macro_rules | `(tactic| walk_at "spliced") => `(tactic| first | refine args_cons ?_ | refine args_nil ⟨Fr.keep (by assumption) _ _ (by assumption), ?_⟩ | (refine args_nil ?_; try simp only [List.cons_append, List.nil_append]))
local macro_rules | `(tactic| tb_start) => `(tactic| (refine wpAny_call ?_; k_dflt (refine' codeF_def ?k1 ?k2 ?k3 ?k4 ?kD ?k5 ?kA ?kF ?kK ?k6 ?k7 ?k8 ?k9 ?kB ?_ ?c2 ?c3 ?c4 ?c5; (case kA => exact rfl); (case kF => exact rfl); (case kK => assumption); (case k1 => k_asm); (case k2 => k_asm); (case k3 => k_asm); (case k4 => k_asm); (case kD => assumption); (case k5 => k_asm); (case k6 => k_is); (case k7 => k_is); (case k8 => ktr_room); (case k9 => first | exact BindsTo.of_eq rfl | exact binds_K (by k_in) rfl (by k_is) rfl rfl rfl | (refine' kp_binds ?kx ?ke; (case kx => k_in); (case ke => exact fun _ => rfl))); (case c5 => decide); (case kB => exact locs rfl); (case c2 => exact rfl); (case c3 => exact rfl); (case c4 => exact rfl); k_whole; intro g' L' h' FG' F' N' B' X' T' RR' l1; (try dsimp only); (try k_lt l1); (try k_fold))))
local macro_rules | `(tactic| tb_rel) => `(tactic| (refine wpAny_call ?_; k_dflt (refine' codeF_defC ?k1 ?k2 ?k3 ?k4 ?kE ?k5 ?kA ?kF ?kK ?k6 ?k7 ?k8 ?k9 ?kB ?kD ?_ ?c2 ?c3 ?c4; (case kA => exact rfl); (case kF => exact rfl); (case kK => assumption); (case k1 => k_asm); (case k2 => k_asm); (case k3 => k_asm); (case k4 => k_asm); (case kE => assumption); (case k5 => k_asm); (case k6 => k_is); (case k7 => k_is); (case k8 => ktr_room); (case k9 => first | exact BindsTo.of_eq rfl | exact binds_K (by k_in) rfl (by k_is) rfl rfl rfl | (refine' kp_binds ?kx ?ke; (case kx => k_in); (case ke => exact fun _ => rfl))); (case kB => exact rfl); (case kD => decide +kernel); (case c2 => exact rfl); (case c3 => exact rfl); (case c4 => exact rfl); k_whole; intro g' L' h' tk' cells' FG' F' N' Y' B' X' T' RR' l1; (try k_lt l1); k_cells Y'; (try simp only [List.cons_append, List.nil_append] at N'); (try dsimp only); (try k_fold))))
local macro_rules | `(tactic| kwd_rel) => `(tactic| (refine wpAny_call ?_; k_dflt (refine' codeF_nest ?k1 ?k2 ?k3 ?k4 ?kD ?k5 ?kA ?kF ?kK ?k6 ?k7 ?k8 ?k9 ?kB ?_ ?c2 ?c3 ?c4 ?c5; (case kA => exact rfl); (case kF => exact rfl); (case kK => first | exact rfl | assumption); (case k1 => k_asm); (case k2 => k_asm); (case k3 => k_asm); (case k4 => k_asm); (case kD => assumption); (case k5 => k_asm); (case k6 => k_mem); (case k7 => exact codeRec_news (by k_asm) (by k_mem) (by assumption) (by assumption)); (case k8 => ktr_room); (case k9 => exact BindsTo.of_eq rfl); (case c5 => decide); (case kB => exact locs rfl); (case c2 => exact rfl); (case c3 => exact rfl); (case c4 => exact rfl); k_whole; intro g' L' h' FG' F' N' B' X' T' RR' l1; (try dsimp only); (try k_lt l1); (try k_fold))))
local macro_rules | `(tactic| k_allIn) => `(tactic| ((with_reducible refine List.forall_mem_append.mpr ⟨?ka, ?kb⟩); (case ka => k_allIn); (case kb => k_allIn)))

variable {w : World} {p : Program} {loose : List Str} {mean : ExcName → Option Value} {mg mb : Str → Option Value}


theorem int_divmod_ctr0 (x y : Int) (tx ty : Tok) (T2 T3 : List (Addr × Obj)) (hT2 : Tab 30 32 4 qI2 T2) (hT3 : Tab 37 47 4 qI3 T3) (hO : Off T2 T3) (h0 : 0 ≤ x) (h1 : 0 < y) (h2 : y < 1073741824) (h3 : Builtin.Int.intBits x ≤ 2 ^ 21) :
    Ctr PySem.Challenge.rw_ga0003_03.row.prog w (hd.heap_39 w.params) p loose mean mg mb 56 82 720 [.int x tx, .int y ty] (T2 ++ T3)
      (fun r hd' => ∃ l t1 t2 e T2' T3', r = .ref l ∧ hd' = (l, tupObj [.int (Int.fdiv x y) t1, .int (Int.fmod x y) t2] e) :: (T2' ++ T3') ∧ Tab 30 32 4 qI2 T2' ∧ Tab 37 47 4 qI3 T3' ∧ Off T2' T3') := by
  k_fill
  intro dp un gd cn cs a ccd cl outer A₀ base h₀ L m s rest Q E B C1 C2 F X N D T hk hdp hun hret
  have hy0 : y ≠ 0 := by omega
  tb_start
  have NR : News h₀ L s.heap rest := newsSub N fun p hp => List.mem_append_right _ hp
  k_steps
  · omega
  k_dflt (refine' divmod_pos_ctr x y _ _ T2 T3 hT2 hT3 hO h0 h1 h2 h3 _ _ _ _ _ _ _ _ _ _ _ _ _ _ _ ([]) _ _ ?q4xk1 ?q4xk2 ?q4xk3 ?q4xk4 ?q4xk5 ?q4xk6 ?q4xk7 ?q4xk8 ?q4xk9 ?q4xk10 ?q4xk11 ?q4xkR)
  case q4xk1 => k_asm
  case q4xk2 => assumption
  case q4xk3 => assumption
  case q4xk4 => k_asm
  case q4xk5 => k_asm
  case q4xk6 => rw [List.append_nil]; k_asm
  case q4xk7 => exact Off.nilR _
  case q4xk8 => k_asm
  case q4xk9 => first | exact rfl | assumption
  case q4xk10 => ktr_room
  case q4xk11 => ktr_units
  intro r hd' h' tk' F' N' D' hP
  rw [List.append_nil] at N'
  dsimp only
  k_steps
  exact ctr_ret hret NR (by assumption) (by assumption) (by assumption) (by assumption) (by assumption) hP

theorem int_divmod_ctr (x y : Int) (tx ty : Tok) (T2 T3 : List (Addr × Obj)) (hT2 : Tab 30 32 4 qI2 T2) (hT3 : Tab 37 47 4 qI3 T3) (hO : Off T2 T3) (h1 : 0 < y) (h2 : y < 1073741824) (h3 : Builtin.Int.intBits x ≤ 2 ^ 21) :
    Ctr PySem.Challenge.rw_ga0003_03.row.prog w (hd.heap_39 w.params) p loose mean mg mb 56 84 740 [.int x tx, .int y ty] (T2 ++ T3)
      (fun r hd' => ∃ l t1 t2 e T2' T3', r = .ref l ∧ hd' = (l, tupObj [.int (Int.fdiv x y) t1, .int (Int.fmod x y) t2] e) :: (T2' ++ T3') ∧ Tab 30 32 4 qI2 T2' ∧ Tab 37 47 4 qI3 T3' ∧ Off T2' T3') := by
  by_cases h0 : 0 ≤ x
  · exact Ctr.up (int_divmod_ctr0 x y tx ty T2 T3 hT2 hT3 hO h0 h1 h2 h3) (by decide) (by decide)
  k_fill
  intro dp un gd cn cs a ccd cl outer A₀ base h₀ L m s rest Q E B C1 C2 F X N D T hk hdp hun hret
  have hy0 : y ≠ 0 := by omega
  have eN : Builtin.bitNot x = -x - 1 := by unfold Builtin.bitNot; omega
  have hbN : Builtin.Int.intBits (-x - 1) ≤ 2 ^ 21 := intBits_le_of_natAbs (by omega) h3
  have hnd := negDiv (x := x) h1
  tb_start
  have NR : News h₀ L s.heap rest := newsSub N fun p hp => List.mem_append_right _ hp
  k_steps
  · omega
  rw [eN]
  k_dflt (refine' int_divmod_ctr0 (-x - 1) y _ _ T2 T3 hT2 hT3 hO (by omega) h1 h2 hbN _ _ _ _ _ _ _ _ _ _ _ _ _ _ _ ([]) _ _ ?q5xk1 ?q5xk2 ?q5xk3 ?q5xk4 ?q5xk5 ?q5xk6 ?q5xk7 ?q5xk8 ?q5xk9 ?q5xk10 ?q5xk11 ?q5xkR)
  case q5xk1 => k_asm
  case q5xk2 => assumption
  case q5xk3 => assumption
  case q5xk4 => k_asm
  case q5xk5 => k_asm
  case q5xk6 => rw [List.append_nil]; k_asm
  case q5xk7 => exact Off.nilR _
  case q5xk8 => k_asm
  case q5xk9 => first | exact rfl | assumption
  case q5xk10 => ktr_room
  case q5xk11 => ktr_units
  intro r hd' h' tk' F' N' D' ⟨l, t1, t2, e, T2', T3', hr, ehd, hT2', hT3', hO'⟩
  subst hr ehd
  rw [List.append_nil] at N'
  dsimp only
  k_steps
  rename_i hh4 hh5 hh6 D9 hh7 F9 N9 l9 kF9 kN9 T9 X9
  refine ctr_ret hret NR (by assumption) F9 (newsSub N9 (List.forall_mem_cons.mpr ⟨List.Mem.head _, fun p hp => List.mem_cons_of_mem _ (List.mem_cons_of_mem _ hp)⟩)) kF9 (newsSub kN9 (List.forall_mem_cons.mpr ⟨List.Mem.head _, fun p hp => List.mem_cons_of_mem _ (List.mem_cons_of_mem _ hp)⟩)) ⟨D9, _, _, 0, T2', T3', rfl, by rw [← hnd.1, ← hnd.2]; rfl, hT2', hT3', hO'⟩
end
section
section
variable {prog : Program} {w : World} {A : Around} {E : Value → Shared → Prop} {s : Shared} {Q : Value → Shared → Prop}
theorem lt_tup2 {p q : Addr} {a1 a2 b1 b2 : Int} {t1 t2 u1 u2 : Tok} {n k : Nat} (hp : s.heap.get? p = some (tupObj [.int a1 t1, .int a2 t2] n)) (hq : s.heap.get? q = some (tupObj [.int b1 u1, .int b2 u2] k)) (hu : A.units < cLine)
    (h : Q (.bool (decide (a1 < b1 ∨ (a1 = b1 ∧ a2 < b2)))) s) : wpAny (model prog w) A (compareOp .Lt (.ref p) (.ref q)) Q E s := by
  show wpAny (model prog w) A (richCompare .Lt (.ref p) (.ref q)) Q E s
  refine wpAny_richCompare_same_room (T := "tuple") ⟨_, hp, rfl⟩ ⟨_, hq, rfl⟩ F.slot_tuple_lt ?_ hu
  refine wpAny_call_entry F.slot_tuple_lt ⟨_, hp, rfl⟩ F.entry_tuple_lt ?_ (F.args_tuple_lt_2 _ _)
  have f2 := AutoSeq1.sub_tuple_tuple
  obtain ⟨hh, g, d, tk, os⟩ := s
  have rc : ∀ (x y : Int) (t u : Tok) (A : Around) (E : Value → Shared → Prop) (Q : Value → Shared → Prop) (s : Shared), Q (.bool (decide (x < y))) s → wpAny (model prog w) A (richCompare .Lt (.int x t) (.int y u)) Q E s :=
    fun x y t u A E Q s hq => show wpAny (model prog w) A (compareOp .Lt (.int x t) (.int y u)) Q E s from lt_int hq
  wp_walk using wpAny_loadPart' hp, wpAny_loadPart' hq, wpAny_eqBool_int
  by_cases e1 : a1 = b1
  · subst e1
    have e2 : (!a1 == a1) = false := by simp
    rw [e2]
    wp_walk using wpAny_loadPart' hp, wpAny_loadPart' hq, wpAny_eqBool_int
    by_cases e3 : a2 = b2
    · subst e3
      have e2 : (!a2 == a2) = false := by simp
      rw [e2]
      wp_walk using wpAny_loadPart' hp, wpAny_loadPart' hq, wpAny_eqBool_int
      refine ⟨_, rfl, by simp [Builtin.Tuple.tupleCompareSizes], ?_⟩
      simpa [Builtin.Tuple.tupleCompareSizes] using h
    · have e2 : (!a2 == b2) = true := by simp [e3]
      rw [e2]
      wp_walk using rc, wpAny_loadPart' hp, wpAny_loadPart' hq, wpAny_eqBool_int
      refine ⟨_, rfl, by simp, ?_⟩
      simpa using h
  · have e2 : (!a1 == b1) = true := by simp [e1]
    rw [e2]
    wp_walk using rc, wpAny_loadPart' hp, wpAny_loadPart' hq, wpAny_eqBool_int
    refine ⟨_, rfl, by simp, ?_⟩
    simpa [e1] using h
end
end
section
/-- the walk stands still here -/
def Hold (P : Prop) : Prop := P
theorem hold {P : Prop} (h : Hold P) : P := h
/-- a kind of list items, ordered by «<» -/
structure Kind (α : Type) where
  rel : List (Addr × Obj) → Value → α → Prop
  lt : α → α → Bool
  mono : ∀ {T T' : List (Addr × Obj)} {v : Value} {a : α}, (∀ p ∈ T, p ∈ T') → rel T v a → rel T' v a
  cmp : ∀ {prog : Program} {w : World} {A : Around} {E : Value → Shared → Prop} {s : Shared} {Q : Value → Shared → Prop} {h₀ : Heap} {L : Addr} {T : List (Addr × Obj)} {v x : Value} {a b : α},
    News h₀ L s.heap T → rel T v a → rel T x b → A.units < cLine → Q (.bool (lt a b)) s → wpAny (model prog w) A (compareOp .Lt v x) Q E s

def kInt : Kind Int where
  rel := fun _ v a => ∃ t, v = .int a t
  lt := fun a b => decide (a < b)
  mono := fun _ h => h
  cmp := by
    rintro prog w A E s Q h₀ L T v x a b _ ⟨t, rfl⟩ ⟨u, rfl⟩ _ h
    exact lt_int h

def kTup : Kind (Int × Int) where
  rel := fun T v a => ∃ l t1 t2 n, v = .ref l ∧ (l, tupObj [.int a.1 t1, .int a.2 t2] n) ∈ T
  lt := fun a b => decide (a.1 < b.1 ∨ (a.1 = b.1 ∧ a.2 < b.2))
  mono := fun h ⟨l, t1, t2, n, e, hm⟩ => ⟨l, t1, t2, n, e, h _ hm⟩
  cmp := by
    rintro prog w A E s Q h₀ L T v x a b N ⟨l, t1, t2, n, rfl, hm⟩ ⟨l', u1, u2, k, rfl, hm'⟩ hu h
    exact lt_tup2 (N _ hm).1 (N _ hm').1 hu h

/-- the list's items are those, in order -/
def Are {α : Type} (κ : Kind α) (T : List (Addr × Obj)) (vs : List Value) (as : List α) : Prop :=
  vs.length = as.length ∧ ∀ (i : Nat) (v : Value) (a : α), vs[i]? = some v → as[i]? = some a → κ.rel T v a

theorem Are.mono {α : Type} {κ : Kind α} {T T' : List (Addr × Obj)} {vs : List Value} {as : List α} (h : Are κ T vs as) (hs : ∀ p ∈ T, p ∈ T') : Are κ T' vs as :=
  ⟨h.1, fun i v a h1 h2 => κ.mono hs (h.2 i v a h1 h2)⟩
theorem Are.nil {α : Type} {κ : Kind α} {T : List (Addr × Obj)} : Are κ T [] [] := ⟨rfl, fun i v a h1 _ => by simp at h1⟩
theorem Are.get {α : Type} {κ : Kind α} {T : List (Addr × Obj)} {vs : List Value} {as : List α} (h : Are κ T vs as) {i : Nat} (hi : i < as.length) : ∃ v, vs[i]? = some v ∧ κ.rel T v as[i] := by
  have hv : i < vs.length := by rw [h.1]; exact hi
  exact ⟨vs[i], List.getElem?_eq_getElem hv, h.2 i _ _ (List.getElem?_eq_getElem hv) (List.getElem?_eq_getElem hi)⟩
theorem Are.append {α : Type} {κ : Kind α} {T : List (Addr × Obj)} {vs ws : List Value} {as bs : List α} (h : Are κ T vs as) (h' : Are κ T ws bs) : Are κ T (vs ++ ws) (as ++ bs) := by
  refine ⟨by rw [List.length_append, List.length_append, h.1, h'.1], fun i v a h1 h2 => ?_⟩
  rcases Nat.lt_or_ge i vs.length with hi | hi
  · rw [List.getElem?_append_left hi] at h1
    rw [List.getElem?_append_left (by rw [← h.1]; exact hi)] at h2
    exact h.2 i v a h1 h2
  · rw [List.getElem?_append_right hi] at h1
    rw [List.getElem?_append_right (by rw [← h.1]; exact hi), ← h.1] at h2
    exact h'.2 _ v a h1 h2
theorem Are.one {α : Type} {κ : Kind α} {T : List (Addr × Obj)} {v : Value} {a : α} (h : κ.rel T v a) : Are κ T [v] [a] := by
  refine ⟨rfl, fun i w b h1 h2 => ?_⟩
  cases i with
  | zero => simp at h1 h2; rw [← h1, ← h2]; exact h
  | succ i => simp at h1
theorem Are.take {α : Type} {κ : Kind α} {T : List (Addr × Obj)} {vs : List Value} {as : List α} (h : Are κ T vs as) (p : Nat) : Are κ T (vs.take p) (as.take p) := by
  refine ⟨by rw [List.length_take, List.length_take, h.1], fun i v a h1 h2 => ?_⟩
  rw [List.getElem?_take] at h1 h2
  by_cases hi : i < p
  · rw [if_pos hi] at h1 h2; exact h.2 i v a h1 h2
  · rw [if_neg hi] at h1; cases h1
theorem Are.drop {α : Type} {κ : Kind α} {T : List (Addr × Obj)} {vs : List Value} {as : List α} (h : Are κ T vs as) (p : Nat) : Are κ T (vs.drop p) (as.drop p) := by
  refine ⟨by rw [List.length_drop, List.length_drop, h.1], fun i v a h1 h2 => ?_⟩
  rw [List.getElem?_drop] at h1 h2
  exact h.2 _ v a h1 h2
theorem Are.ints {T : List (Addr × Obj)} {vs : List Value} {ns : List Int} (h : IntsAre vs ns) : Are kInt T vs ns := by
  refine ⟨h.length, fun i v a h1 h2 => ?_⟩
  obtain ⟨d, t, h3, rfl⟩ := intsGet h h1
  rw [h2] at h3; cases h3
  exact ⟨t, rfl⟩

section
variable {prog : Program} {w : World} {A : Around} {E : Value → Shared → Prop} {s : Shared} {h₀ : Heap} {L : Addr} {m : Str → Option Value} {news : List (Addr × Obj)}
theorem itemG {value slice : PySem.Expr} {l : Addr} {vs : List Value} {c j : Nat} {u : Tok} {v : Value} {Q : Value → Shared → Prop} (N : News h₀ L s.heap news) (hm : (l, listOf vs.toArray c) ∈ news) (hx : vs[j]? = some v) (hj : j < 2 ^ 62) (h : Q v s)
    (hs : subscripted slice false (.ref l) (.int (j : Int) u) = operate [.ref l, .int (j : Int) u] (getItem (.ref l) (.int (j : Int) u)) := by with_unfolding_all rfl) :
    wpAny (model prog w) A (subscriptTail value slice (.ref l) (.int (j : Int) u)) Q E s := by
  have hl : s.heap.IsList l vs.toArray := ⟨_, (N _ hm).1, rfl, c, rfl⟩
  exact tail_any hl.typeIs slot_list_getitem.lookup (wpAny_getItem_list hl (by omega) (by omega) (by simpa using hx) h) hs
theorem itemZ {value slice : PySem.Expr} {l : Addr} {vs : List Value} {c j : Nat} {z : Int} {u : Tok} {v : Value} {Q : Value → Shared → Prop} (N : News h₀ L s.heap news) (hm : (l, listOf vs.toArray c) ∈ news) (hx : vs[j]? = some v) (ez : z = (j : Int)) (hj : j < 2 ^ 62) (h : Q v s)
    (hs : subscripted slice false (.ref l) (.int z u) = operate [.ref l, .int z u] (getItem (.ref l) (.int z u)) := by with_unfolding_all rfl) :
    wpAny (model prog w) A (subscriptTail value slice (.ref l) (.int z u)) Q E s := by
  subst ez
  have hl : s.heap.IsList l vs.toArray := ⟨_, (N _ hm).1, rfl, c, rfl⟩
  exact tail_any hl.typeIs slot_list_getitem.lookup (wpAny_getItem_list hl (by omega) (by omega) (by simpa using hx) h) hs
theorem fdN {lo hi : Nat} {t u : Tok} {Q : Value → Shared → Prop} (h : Q (.int (((lo + hi) / 2 : Nat) : Int) s.toks) { s with toks := s.toks + 1 }) : wpAny (model prog w) A (binaryOp .FloorDiv (.int ((lo : Int) + hi) t) (.int 2 u)) Q E s := by
  have e : ((lo : Int) + hi).fdiv 2 = (((lo + hi) / 2 : Nat) : Int) := by
    rw [Int.fdiv_eq_ediv_of_nonneg _ (by decide)]; simp
  exact PyProof.Rows.floordiv_int (by decide) (by rw [e]; exact h)
theorem insertG {l : Addr} {vs : List Value} {c p : Nat} {u : Tok} {y : Value} {rest : List (Addr × Obj)} {Q : Value → Shared → Prop} (F : Fr h₀ L s.heap m) (N : News h₀ L s.heap ((l, listOf vs.toArray c) :: rest)) (hne : ∀ q ∈ rest, q.1 ≠ l) (hp : p ≤ vs.length) (hz : vs.length ≤ 2 ^ 22)
    (h : ∀ h', Fr h₀ L h' m → News h₀ L h' ((l, listOf (vs.take p ++ y :: vs.drop p).toArray (c + 1)) :: rest) → Q .none { s with heap := h' }) :
    wpAny (model prog w) A (call (.builtin "list.insert") [.ref l, .int (p : Int) u, y]) Q E s := by
  refine kl_insert (l := vs.take p ++ y :: vs.drop p) F N ?_ ?_ (Upd.head hne) ?_ h
  · unfold Builtin.List.listFitsIndex
    simp only [Bool.and_eq_true, decide_eq_true_eq]; omega
  · show kl_ins vs (p : Int) y = _
    unfold kl_ins
    rw [if_neg (by omega), Int.toNat_natCast, Nat.min_eq_left hp]
  · rw [sizeLine_eq]; show vs.length ≤ _; omega
end
end
section
local macro_rules | `(tactic| walk_at "spliced") => `(tactic| first | refine args_cons ?_ | refine args_nil ⟨Fr.keep (by assumption) _ _ (by assumption), ?_⟩ | (refine args_nil ?_; try simp only [List.cons_append, List.nil_append]))
local macro_rules | `(tactic| tb_start) => `(tactic| (refine wpAny_call ?_; k_dflt (refine' codeF_def ?k1 ?k2 ?k3 ?k4 ?kD ?k5 ?kA ?kF ?kK ?k6 ?k7 ?k8 ?k9 ?kB ?_ ?c2 ?c3 ?c4 ?c5; (case kA => exact rfl); (case kF => exact rfl); (case kK => assumption); (case k1 => k_asm); (case k2 => k_asm); (case k3 => k_asm); (case k4 => k_asm); (case kD => assumption); (case k5 => k_asm); (case k6 => k_is); (case k7 => k_is); (case k8 => ktr_room); (case k9 => first | exact BindsTo.of_eq rfl | exact binds_K (by k_in) rfl (by k_is) rfl rfl rfl | (refine' kp_binds ?kx ?ke; (case kx => k_in); (case ke => exact fun _ => rfl))); (case c5 => decide); (case kB => exact locs rfl); (case c2 => exact rfl); (case c3 => exact rfl); (case c4 => exact rfl); k_whole; intro g' L' h' FG' F' N' B' X' T' RR' l1; (try dsimp only); (try k_lt l1); (try k_fold))))
local macro_rules | `(tactic| tb_rel) => `(tactic| (refine wpAny_call ?_; k_dflt (refine' codeF_defC ?k1 ?k2 ?k3 ?k4 ?kE ?k5 ?kA ?kF ?kK ?k6 ?k7 ?k8 ?k9 ?kB ?kD ?_ ?c2 ?c3 ?c4; (case kA => exact rfl); (case kF => exact rfl); (case kK => assumption); (case k1 => k_asm); (case k2 => k_asm); (case k3 => k_asm); (case k4 => k_asm); (case kE => assumption); (case k5 => k_asm); (case k6 => k_is); (case k7 => k_is); (case k8 => ktr_room); (case k9 => first | exact BindsTo.of_eq rfl | exact binds_K (by k_in) rfl (by k_is) rfl rfl rfl | (refine' kp_binds ?kx ?ke; (case kx => k_in); (case ke => exact fun _ => rfl))); (case kB => exact rfl); (case kD => decide +kernel); (case c2 => exact rfl); (case c3 => exact rfl); (case c4 => exact rfl); k_whole; intro g' L' h' tk' cells' FG' F' N' Y' B' X' T' RR' l1; (try k_lt l1); k_cells Y'; (try simp only [List.cons_append, List.nil_append] at N'); (try dsimp only); (try k_fold))))
local macro_rules | `(tactic| kwd_rel) => `(tactic| (refine wpAny_call ?_; k_dflt (refine' codeF_nest ?k1 ?k2 ?k3 ?k4 ?kD ?k5 ?kA ?kF ?kK ?k6 ?k7 ?k8 ?k9 ?kB ?_ ?c2 ?c3 ?c4 ?c5; (case kA => exact rfl); (case kF => exact rfl); (case kK => first | exact rfl | assumption); (case k1 => k_asm); (case k2 => k_asm); (case k3 => k_asm); (case k4 => k_asm); (case kD => assumption); (case k5 => k_asm); (case k6 => k_mem); (case k7 => exact codeRec_news (by k_asm) (by k_mem) (by assumption) (by assumption)); (case k8 => ktr_room); (case k9 => exact BindsTo.of_eq rfl); (case c5 => decide); (case kB => exact locs rfl); (case c2 => exact rfl); (case c3 => exact rfl); (case c4 => exact rfl); k_whole; intro g' L' h' FG' F' N' B' X' T' RR' l1; (try dsimp only); (try k_lt l1); (try k_fold))))
local macro_rules | `(tactic| k_allIn) => `(tactic| ((with_reducible refine List.forall_mem_append.mpr ⟨?ka, ?kb⟩); (case ka => k_allIn); (case kb => k_allIn)))


section
local macro_rules | `(tactic| walk_at "binaryOp FloorDiv int int") => `(tactic| (refine fdN ?_))
local macro_rules | `(tactic| walk_at "exec While Compare cons nil") => `(tactic| (refine hold ?_))
variable {w : World} {p : Program} {loose : List Str} {mean : ExcName → Option Value} {mg mb : Str → Option Value}

theorem bisect_ctr {α : Type} (κ : Kind α) (l : Addr) (vs : List Value) (as : List α) (e : Nat) (x : Value) (b : α) (t0 : Tok) (TT : List (Addr × Obj)) (p' : Nat) (hA : Are κ TT vs as) (hb : κ.rel TT x b) (hle : p' ≤ as.length) (hp : ∀ i a, as[i]? = some a → κ.lt a b = decide (i < p')) (hlen : as.length ≤ 2 ^ 22) :
    Ctr PySem.Challenge.rw_ga0003_03.row.prog w (hd.heap_39 w.params) p loose mean mg mb 74 20 200 [.ref l, x, .int 0 t0, .none] ((l, listOf vs.toArray e) :: TT)
      (fun r hd' => (∃ t, r = .int p' t) ∧ hd' = (l, listOf vs.toArray e) :: TT) := by
  k_fill
  intro dp un gd cn cs a ccd cl outer A₀ base h₀ L m s rest Q E B C1 C2 F X N D T hk hdp hun hret
  tb_start
  have NR : News h₀ L s.heap rest := newsSub N fun p hp => List.mem_append_right _ hp
  k_steps
  refine lenG (k := as.length) (by k_asm) (by k_mem) hA.1 (by omega) ?_
  k_steps
  unfold Hold
  rename_i tk1 h1 F1 N1
  k_dflt (refine While_inv (n₀ := as.length) (fun n m news => ∃ (lo hi : Nat) (tl th : Tok), news = (l, listOf vs.toArray e) :: TT ∧ m (Str.ofString "a") = some (.ref l) ∧ m (Str.ofString "x") = some x ∧ m (Str.ofString "lo") = some (.int lo tl) ∧ m (Str.ofString "hi") = some (.int hi th) ∧ lo ≤ p' ∧ p' ≤ hi ∧ hi ≤ as.length ∧ n = hi - lo) F1 N1 ?_ ?_ ?_)
  · exact ⟨0, as.length, _, _, rfl, rfl, rfl, rfl, rfl, Nat.zero_le _, hle, Nat.le_refl _, rfl⟩
  · rintro n m₁ news₁ h₁ tk₁ F3 N3 ⟨lo, hi, tl, th, rfl, hma, hmx, hml, hmh, hlo, hhi, hhn, rfl⟩
    have F4 := Fr.know F3 hma
    have F5 := Fr.know F4 ((if_neg (by decide)).trans hmx)
    have F6 := Fr.know F5 ((if_neg (by decide)).trans ((if_neg (by decide)).trans hml))
    have F7 := Fr.know F6 ((if_neg (by decide)).trans ((if_neg (by decide)).trans ((if_neg (by decide)).trans hmh)))
    clear F3 F4 F5 F6 F1 N1
    k_steps
    · rename_i hlt h5 F8 N8
      obtain ⟨v, hv1, hv2⟩ := hA.get (i := (lo + hi) / 2) (by omega)
      refine itemG (by k_asm) (by k_mem) hv1 (by omega) ?_
      k_steps
      refine κ.cmp (newsSub N8 fun q hq => List.mem_cons_of_mem _ hq) hv2 hb (by ktr_units) ?_
      rw [hp _ _ (List.getElem?_eq_getElem (by omega))]
      by_cases hm : (lo + hi) / 2 < p'
      · rw [decide_eq_true hm]
        k_steps
        exact WhileStep.intro (n' := hi - ((lo + hi) / 2 + 1)) (by assumption) (by assumption) (by omega) ⟨(lo + hi) / 2 + 1, hi, _, _, rfl, rfl, rfl, rfl, rfl, by omega, by omega, by omega, rfl⟩
      · rw [decide_eq_false hm]
        k_steps
        exact WhileStep.intro (n' := (lo + hi) / 2 - lo) (by assumption) (by assumption) (by omega) ⟨lo, (lo + hi) / 2, _, _, rfl, rfl, rfl, rfl, rfl, by omega, by omega, by omega, rfl⟩
    · rename_i hlt kF9 kN9 T9 X9
      have e1 : lo = p' := by omega
      subst e1
      exact ctr_ret hret NR (by assumption) F7 N3 kF9 kN9 ⟨⟨_, rfl⟩, rfl⟩
  · passes_own
theorem bisect2_ctr {α : Type} (κ : Kind α) (l : Addr) (vs : List Value) (as : List α) (e : Nat) (x : Value) (b : α) (TT : List (Addr × Obj)) (p' : Nat) (hA : Are κ TT vs as) (hb : κ.rel TT x b) (hle : p' ≤ as.length) (hp : ∀ i a, as[i]? = some a → κ.lt a b = decide (i < p')) (hlen : as.length ≤ 2 ^ 22) :
    Ctr PySem.Challenge.rw_ga0003_03.row.prog w (hd.heap_39 w.params) p loose mean mg mb 74 20 200 [.ref l, x] ((l, listOf vs.toArray e) :: TT)
      (fun r hd' => (∃ t, r = .int p' t) ∧ hd' = (l, listOf vs.toArray e) :: TT) := by
  k_fill
  intro dp un gd cn cs a ccd cl outer A₀ base h₀ L m s rest Q E B C1 C2 F X N D T hk hdp hun hret
  tb_start
  have NR : News h₀ L s.heap rest := newsSub N fun p hp => List.mem_append_right _ hp
  k_steps
  refine lenG (k := as.length) (by k_asm) (by k_mem) hA.1 (by omega) ?_
  k_steps
  unfold Hold
  rename_i tk1 h1 F1 N1
  k_dflt (refine While_inv (n₀ := as.length) (fun n m news => ∃ (lo hi : Nat) (tl th : Tok), news = (l, listOf vs.toArray e) :: TT ∧ m (Str.ofString "a") = some (.ref l) ∧ m (Str.ofString "x") = some x ∧ m (Str.ofString "lo") = some (.int lo tl) ∧ m (Str.ofString "hi") = some (.int hi th) ∧ lo ≤ p' ∧ p' ≤ hi ∧ hi ≤ as.length ∧ n = hi - lo) F1 N1 ?_ ?_ ?_)
  · exact ⟨0, as.length, _, _, rfl, rfl, rfl, rfl, rfl, Nat.zero_le _, hle, Nat.le_refl _, rfl⟩
  · rintro n m₁ news₁ h₁ tk₁ F3 N3 ⟨lo, hi, tl, th, rfl, hma, hmx, hml, hmh, hlo, hhi, hhn, rfl⟩
    have F4 := Fr.know F3 hma
    have F5 := Fr.know F4 ((if_neg (by decide)).trans hmx)
    have F6 := Fr.know F5 ((if_neg (by decide)).trans ((if_neg (by decide)).trans hml))
    have F7 := Fr.know F6 ((if_neg (by decide)).trans ((if_neg (by decide)).trans ((if_neg (by decide)).trans hmh)))
    clear F3 F4 F5 F6 F1 N1
    k_steps
    · rename_i hlt h5 F8 N8
      obtain ⟨v, hv1, hv2⟩ := hA.get (i := (lo + hi) / 2) (by omega)
      refine itemG (by k_asm) (by k_mem) hv1 (by omega) ?_
      k_steps
      refine κ.cmp (newsSub N8 fun q hq => List.mem_cons_of_mem _ hq) hv2 hb (by ktr_units) ?_
      rw [hp _ _ (List.getElem?_eq_getElem (by omega))]
      by_cases hm : (lo + hi) / 2 < p'
      · rw [decide_eq_true hm]
        k_steps
        exact WhileStep.intro (n' := hi - ((lo + hi) / 2 + 1)) (by assumption) (by assumption) (by omega) ⟨(lo + hi) / 2 + 1, hi, _, _, rfl, rfl, rfl, rfl, rfl, by omega, by omega, by omega, rfl⟩
      · rw [decide_eq_false hm]
        k_steps
        exact WhileStep.intro (n' := (lo + hi) / 2 - lo) (by assumption) (by assumption) (by omega) ⟨lo, (lo + hi) / 2, _, _, rfl, rfl, rfl, rfl, rfl, by omega, by omega, by omega, rfl⟩
    · rename_i hlt kF9 kN9 T9 X9
      have e1 : lo = p' := by omega
      subst e1
      exact ctr_ret hret NR (by assumption) F7 N3 kF9 kN9 ⟨⟨_, rfl⟩, rfl⟩
  · passes_own

theorem insort_ctr {α : Type} (κ : Kind α) (l : Addr) (vs : List Value) (as : List α) (e : Nat) (x : Value) (b : α) (TT : List (Addr × Obj)) (p' : Nat) (hne : ∀ q ∈ TT, q.1 ≠ l) (hA : Are κ TT vs as) (hb : κ.rel TT x b) (hle : p' ≤ as.length) (hp : ∀ i a, as[i]? = some a → κ.lt a b = decide (i < p')) (hlen : as.length ≤ 2 ^ 22) :
    Ctr PySem.Challenge.rw_ga0003_03.row.prog w (hd.heap_39 w.params) p loose mean mg mb 65 24 240 [.ref l, x] ((l, listOf vs.toArray e) :: TT)
      (fun r hd' => r = .none ∧ hd' = (l, listOf (vs.take p' ++ x :: vs.drop p').toArray (e + 1)) :: TT) := by
  k_fill
  intro dp un gd cn cs a ccd cl outer A₀ base h₀ L m s rest Q E B C1 C2 F X N D T hk hdp hun hret
  tb_start
  have NR : News h₀ L s.heap rest := newsSub N fun p hp => List.mem_append_right _ hp
  k_steps
  k_dflt (refine' bisect_ctr κ l vs as e x b _ TT p' hA hb hle hp hlen _ _ _ _ _ _ _ _ _ _ _ _ _ _ _ ([]) _ _ ?q6xk1 ?q6xk2 ?q6xk3 ?q6xk4 ?q6xk5 ?q6xk6 ?q6xk7 ?q6xk8 ?q6xk9 ?q6xk10 ?q6xk11 ?q6xkR)
  case q6xk1 => k_asm
  case q6xk2 => assumption
  case q6xk3 => assumption
  case q6xk4 => k_asm
  case q6xk5 => k_asm
  case q6xk6 => rw [List.append_nil]; k_asm
  case q6xk7 => exact Off.nilR _
  case q6xk8 => k_asm
  case q6xk9 => first | exact rfl | assumption
  case q6xk10 => ktr_room
  case q6xk11 => ktr_units
  intro r hd' h' tk' F' N' D' ⟨⟨tp, hr⟩, ehd⟩
  subst hr ehd
  rw [List.append_nil] at N'
  dsimp only
  k_steps
  refine insertG (by k_asm) (by k_asm) hne (by rw [hA.1]; exact hle) (by rw [hA.1]; exact hlen) ?_
  intro h7 F7 N7
  dsimp only
  k_steps
  rename_i kF9 kN9 T9 X9
  exact ctr_ret hret NR (by assumption) F7 N7 kF9 kN9 ⟨rfl, rfl⟩
end
end
section
/-- what an object is, roughly: two of one ledger that are not the same stand apart -/
def tag (o : Obj) : Nat := match o.data with
  | .fields _ => 0
  | .seq _ _ => if o.cls == .type "list" then 1 else 2
  | .cell _ => 3
  | _ => 4
theorem tag_list (vs : List Value) (e : Nat) : tag (listOf vs.toArray e) = 1 := rfl
theorem tag_tup (vs : List Value) (e : Nat) : tag (tupObj vs e) = 2 := rfl
theorem tag_cell {o : Obj} {v : Option Value} (h : o.data = .cell v) : tag o = 3 := by unfold tag; rw [h]
theorem Tab.tags {P : Addr} {ln cl : Int} {q : Str} {T : List (Addr × Obj)} (hT : Tab P ln cl q T) : ∀ p ∈ T, tag p.2 = 0 := by
  intro p hp
  rcases hT with rfl | ⟨c', oc, vs, t, rfl, d1, _, _⟩
  · rw [List.mem_singleton.mp hp]; rfl
  · rcases List.mem_cons.mp hp with rfl | hp
    · rfl
    · rw [List.mem_singleton.mp hp]; unfold tag; rw [d1]
theorem tagNe {h₀ h : Heap} {L : Addr} {led : List (Addr × Obj)} (N : News h₀ L h led) {p q : Addr × Obj} (hp : p ∈ led) (hq : q ∈ led) (ht : tag p.2 ≠ tag q.2) : p.1 ≠ q.1 := fun e => by
  have h1 := (N p hp).1
  have h2 := (N q hq).1
  rw [e, h2] at h1
  exact ht (by rw [Option.some.inj h1])
theorem offTag {h₀ h : Heap} {L : Addr} {led xs ys : List (Addr × Obj)} (N : News h₀ L h led) (hx : ∀ p ∈ xs, p ∈ led) (hy : ∀ p ∈ ys, p ∈ led) (ht : ∀ p ∈ xs, ∀ q ∈ ys, tag p.2 ≠ tag q.2) : Off xs ys :=
  fun p hp q hq => tagNe N (hx p hp) (hy q hq) (ht p hp q hq)
theorem offTag0 {h₀ h : Heap} {L : Addr} {led xs ys : List (Addr × Obj)} (N : News h₀ L h led) (hx : ∀ p ∈ xs, p ∈ led) (hy : ∀ p ∈ ys, p ∈ led) (h0 : ∀ p ∈ xs, tag p.2 = 0) (h1 : ∀ q ∈ ys, tag q.2 ≠ 0) : Off xs ys :=
  offTag N hx hy fun p hp q hq e => h1 q hq (e ▸ h0 p hp)
theorem tabs0 {P1 P2 : Addr} {a b c d : Int} {q1 q2 : Str} {T2 T3 : List (Addr × Obj)} (h2 : Tab P1 a b q1 T2) (h3 : Tab P2 c d q2 T3) : ∀ p ∈ T2 ++ T3, tag p.2 = 0 := fun p hp => (List.mem_append.mp hp).elim (h2.tags p) (h3.tags p)
theorem rangeSize_k {a b : Int} {n : Nat} (h : b - a = (n : Int)) : Builtin.Range.rangeSize a b 1 = ((n : Nat) : Int) := by
  rw [rangeSize_nat]; omega
theorem bits_small {x : Int} (h0 : -(2 ^ 64) < x) (h1 : x < 2 ^ 64) : Builtin.Int.intBits x ≤ 2 ^ 21 := Nat.le_trans (intBits_le_64 h0 h1) (by decide)
theorem Off.appL {xs ys zs : List (Addr × Obj)} (h1 : Off xs zs) (h2 : Off ys zs) : Off (xs ++ ys) zs := fun p hp => (List.mem_append.mp hp).elim (h1 p) (h2 p)
theorem Off.appR {xs ys zs : List (Addr × Obj)} (h1 : Off xs ys) (h2 : Off xs zs) : Off xs (ys ++ zs) := fun p hp q hq => (List.mem_append.mp hq).elim (h1 p hp q) (h2 p hp q)
theorem Off.consR {a : Addr} {o : Obj} {xs ys : List (Addr × Obj)} (h : ∀ p ∈ xs, p.1 ≠ a) (t : Off xs ys) : Off xs ((a, o) :: ys) := fun p hp q hq => (List.mem_cons.mp hq).elim (fun e => by rw [e]; exact h p hp) (t p hp q)
theorem Off.subL {xs xs' ys : List (Addr × Obj)} (h : Off xs ys) (hs : ∀ p ∈ xs', p ∈ xs) : Off xs' ys := fun p hp => h p (hs p hp)
theorem Off.subR {xs ys ys' : List (Addr × Obj)} (h : Off xs ys) (hs : ∀ p ∈ ys', p ∈ ys) : Off xs ys' := fun p hp q hq => h p hp q (hs q hq)

section
variable {prog : Program} {w : World} {A : Around} {s : Shared} {h₀ : Heap} {L : Addr} {m : Str → Option Value} {env : Env}
/-- a comprehension by what holds between its turns -/
theorem compInv {elt : Expr} {x : Str} {scope : Scope} {cl : List (Str × Addr)} {S : List (Addr × Obj) → Prop} {P : Nat → Value → Prop} {Fin : List Value → List (Addr × Obj) → Prop} {n : Nat} (J : Nat → List Value → List (Addr × Obj) → Prop)
    (fin : ∀ ys news, J n ys news → Fin ys news)
    (turn : ∀ i ys news v I oI C oC D m₂ h tk (E' : Value → Shared → Prop), i < n → J i ys news → P i v → LCg.NsObj oC m₂ → m₂ x = some v → Fr h₀ L h m → News h₀ L h ((I, oI) :: (C, oC) :: (D, LCg.lst ys) :: news) → LCg.Off3 I C D news → ((@Ne Nat I C) ∧ (@Ne Nat I D) ∧ (@Ne Nat C D)) →
      wpAny (model prog w) A (eval elt (compEnvC scope cl C env)) (LCg.CompEnd h₀ L m { s with heap := h, toks := tk } I oI C oC D (LCg.lst ys) S (fun y news' => J (i + 1) (ys ++ [y]) news')) E' { s with heap := h, toks := tk }) :
    ∀ k i ys news, i + k = n → J i ys news → LCg.CompRest prog w A h₀ L m env elt x scope cl s S P Fin k i ys news := by
  intro k
  induction k with
  | zero =>
    intro i ys news e hJ
    have : i = n := by omega
    subst this
    exact LCg.CompRest.zero (fin ys news hJ)
  | succ k ih =>
    intro i ys news e hJ
    refine LCg.CompRest.succ fun v I oI C oC D m₂ h tk E' hP hC hx F N off ne => ?_
    refine wpAny_mono (turn i ys news v I oI C oC D m₂ h tk E' (by omega) hJ hP hC hx F N off ne) (fun y s₂ h₂ => ?_) fun _ _ x => x
    obtain ⟨h', tk', news', e1, F', N', off', hS, hJ'⟩ := h₂
    exact ⟨h', tk', news', e1, F', N', off', hS, ih (i + 1) _ news' (by omega) hJ'⟩
/-- a comprehension with a test, likewise -/
theorem compInvT {ct elt : Expr} {x : Str} {scope : Scope} {cl : List (Str × Addr)} {S : List (Addr × Obj) → Prop} {P : Nat → Value → Prop} {Fin : List Value → List (Addr × Obj) → Prop} {n : Nat} (J : Nat → List Value → List (Addr × Obj) → Prop)
    (fin : ∀ ys news, J n ys news → Fin ys news)
    (turn : ∀ i ys news v I oI C oC D m₂ h tk (E' : Value → Shared → Prop), i < n → J i ys news → P i v → LCg.NsObj oC m₂ → m₂ x = some v → Fr h₀ L h m → News h₀ L h ((I, oI) :: (C, oC) :: (D, LCg.lst ys) :: news) → LCg.Off3 I C D news → ((@Ne Nat I C) ∧ (@Ne Nat I D) ∧ (@Ne Nat C D)) →
      wpAny (model prog w) A (isTrue ct (compEnvC scope cl C env) (eval ct (compEnvC scope cl C env))) (fun ok s' => if ok = true then
        wpAny (model prog w) A (eval elt (compEnvC scope cl C env)) (LCg.CompEnd h₀ L m { s with heap := h, toks := tk } I oI C oC D (LCg.lst ys) S (fun y news' => J (i + 1) (ys ++ [y]) news')) E' s'
        else LCg.CompEnd h₀ L m { s with heap := h, toks := tk } I oI C oC D (LCg.lst ys) S (fun _ news' => J (i + 1) ys news') Value.none s') E' { s with heap := h, toks := tk }) :
    ∀ k i ys news, i + k = n → J i ys news → LCt.CompRestT prog w A h₀ L m env ct elt x scope cl s S P Fin k i ys news := by
  intro k
  induction k with
  | zero =>
    intro i ys news e hJ
    have : i = n := by omega
    subst this
    exact LCt.CompRestT.zero (fin ys news hJ)
  | succ k ih =>
    intro i ys news e hJ
    refine LCt.CompRestT.succ fun v I oI C oC D m₂ h tk E' hP hC hx F N off ne => ?_
    refine wpAny_mono (turn i ys news v I oI C oC D m₂ h tk E' (by omega) hJ hP hC hx F N off ne) (fun ok s₁ h₁ => ?_) fun _ _ x => x
    cases ok with
    | true =>
      simp only [if_true] at h₁ ⊢
      refine wpAny_mono h₁ (fun y s₂ h₂ => ?_) fun _ _ x => x
      obtain ⟨h', tk', news', e1, F', N', off', hS, hJ'⟩ := h₂
      exact ⟨h', tk', news', e1, F', N', off', hS, ih (i + 1) _ news' (by omega) hJ'⟩
    | false =>
      simp only [Bool.false_eq_true, if_false] at h₁ ⊢
      obtain ⟨h', tk', news', e1, F', N', off', hS, hJ'⟩ := h₁
      exact ⟨h', tk', news', e1, F', N', off', hS, ih (i + 1) _ news' (by omega) hJ'⟩
end
end
section
section
variable {prog : Program} {w : World} {A : Around} {E : Value → Shared → Prop} {s : Shared} {Q : Value → Shared → Prop}
theorem lt_tup3 {p q : Addr} {a1 a2 a3 b1 b2 b3 : Int} {t1 t2 t3 u1 u2 u3 : Tok} {n k : Nat} (hp : s.heap.get? p = some (tupObj [.int a1 t1, .int a2 t2, .int a3 t3] n)) (hq : s.heap.get? q = some (tupObj [.int b1 u1, .int b2 u2, .int b3 u3] k)) (hu : A.units < cLine)
    (h : Q (.bool (decide (a1 < b1 ∨ (a1 = b1 ∧ (a2 < b2 ∨ (a2 = b2 ∧ a3 < b3)))))) s) : wpAny (model prog w) A (compareOp .Lt (.ref p) (.ref q)) Q E s := by
  show wpAny (model prog w) A (richCompare .Lt (.ref p) (.ref q)) Q E s
  refine wpAny_richCompare_same_room (T := "tuple") ⟨_, hp, rfl⟩ ⟨_, hq, rfl⟩ F.slot_tuple_lt ?_ hu
  refine wpAny_call_entry F.slot_tuple_lt ⟨_, hp, rfl⟩ F.entry_tuple_lt ?_ (F.args_tuple_lt_2 _ _)
  have f2 := AutoSeq1.sub_tuple_tuple
  obtain ⟨hh, g, d, tk, os⟩ := s
  have rc : ∀ (x y : Int) (t u : Tok) (A : Around) (E : Value → Shared → Prop) (Q : Value → Shared → Prop) (s : Shared), Q (.bool (decide (x < y))) s → wpAny (model prog w) A (richCompare .Lt (.int x t) (.int y u)) Q E s :=
    fun x y t u A E Q s hq => show wpAny (model prog w) A (compareOp .Lt (.int x t) (.int y u)) Q E s from lt_int hq
  wp_walk using wpAny_loadPart' hp, wpAny_loadPart' hq, wpAny_eqBool_int
  by_cases e1 : a1 = b1
  · subst e1
    have e2 : (!a1 == a1) = false := by simp
    rw [e2]
    wp_walk using wpAny_loadPart' hp, wpAny_loadPart' hq, wpAny_eqBool_int
    by_cases e3 : a2 = b2
    · subst e3
      have e2 : (!a2 == a2) = false := by simp
      rw [e2]
      wp_walk using wpAny_loadPart' hp, wpAny_loadPart' hq, wpAny_eqBool_int
      by_cases e4 : a3 = b3
      · subst e4
        have e2 : (!a3 == a3) = false := by simp
        rw [e2]
        wp_walk using wpAny_loadPart' hp, wpAny_loadPart' hq, wpAny_eqBool_int
        refine ⟨_, rfl, by simp [Builtin.Tuple.tupleCompareSizes], ?_⟩
        simpa [Builtin.Tuple.tupleCompareSizes] using h
      · have e2 : (!a3 == b3) = true := by simp [e4]
        rw [e2]
        wp_walk using rc, wpAny_loadPart' hp, wpAny_loadPart' hq, wpAny_eqBool_int
        refine ⟨_, rfl, by simp, ?_⟩
        simpa using h
    · have e2 : (!a2 == b2) = true := by simp [e3]
      rw [e2]
      wp_walk using rc, wpAny_loadPart' hp, wpAny_loadPart' hq, wpAny_eqBool_int
      refine ⟨_, rfl, by simp, ?_⟩
      simpa [e3] using h
  · have e2 : (!a1 == b1) = true := by simp [e1]
    rw [e2]
    wp_walk using rc, wpAny_loadPart' hp, wpAny_loadPart' hq, wpAny_eqBool_int
    refine ⟨_, rfl, by simp, ?_⟩
    simpa [e1] using h
end

def kTup3 : Kind (Int × Int × Int) where
  rel := fun T v a => ∃ l t1 t2 t3 n, v = .ref l ∧ (l, tupObj [.int a.1 t1, .int a.2.1 t2, .int a.2.2 t3] n) ∈ T
  lt := fun a b => decide (a.1 < b.1 ∨ (a.1 = b.1 ∧ (a.2.1 < b.2.1 ∨ (a.2.1 = b.2.1 ∧ a.2.2 < b.2.2))))
  mono := fun h ⟨l, t1, t2, t3, n, e, hm⟩ => ⟨l, t1, t2, t3, n, e, h _ hm⟩
  cmp := by
    rintro prog w A E s Q h₀ L T v x a b N ⟨l, t1, t2, t3, n, rfl, hm⟩ ⟨l', u1, u2, u3, k, rfl, hm'⟩ hu h
    exact lt_tup3 (N _ hm).1 (N _ hm').1 hu h

section
variable {prog : Program} {w : World} {A : Around} {I S : Addr} {fp wr : List Addr} {n : Nat} {P : Nat → Value → Prop} {St : Nat → Heap → Prop} {Kp : Heap → Prop} {R : Result → Shared → Prop}
/-- min's own loop over items that are compared in the heap at hand -/
theorem minLoop (W : Walks prog w A.in1 I fp wr n P St) (bt : Nat → Nat → Bool)
    (hcmp : ∀ i j vi vj (s : Shared) (Q : Value → Shared → Prop) (E : Value → Shared → Prop), Kp s.heap → P i vi → P j vj → Q (.bool (bt i j)) s → wpAny (model prog w) A.in1 (richCompare .Lt vi vj) Q E s)
    (hKp : ∀ h h' : Heap, Kp h → (∀ b o, b ∉ wr → b ≠ S → h.get? b = some o → h'.get? b = some o) → Kp h') (hSf : S ∉ fp) :
    ∀ (k j : Nat) (s : Shared) (vb : Value) (c : Nat), n = j + 1 + k → St (j + 1) s.heap → Kp s.heap → P (argBest bt j) vb →
    s.heap.get? S = some { cls := .type "list", dict := none, data := .seq #[vb, vb] c, slots := #[] } →
    (∀ v h' tk, P (argBest bt (n - 1)) v → (∀ b o, b ∉ wr → b ≠ S → s.heap.get? b = some o → h'.get? b = some o) → R (.ok (.ret v)) { s with heap := h', toks := tk }) →
    codeAny (model prog w) A (.builtin "min.loop" ⟨[.ref I, .none, .ref S], []⟩) R s := by
  have hSw : S ∉ wr := fun h => hSf (W.sub _ h)
  have hname : (toString "min" ++ toString ".loop" : String) = "min.loop" := by decide
  intro k
  induction k with
  | zero =>
    intro j s vb c hk hst _ hPb hS hR
    have hin : n = j + 1 := hk
    refine codeAny_builtin F.entry_min_loop ?_
    rw [Around.under_plainId F.plain_min_loop _]
    show wpAny _ A.in1 (seqItems? (.ref S) >>= _) _ _ s
    refine wpAny_bind (wpAny_seqItems hS rfl ?_)
    show wpAny _ A.in1 (tryCatch (pyNext (.ref I)) _ >>= _) _ _ s
    refine wpAny_bind (wpAny_tryCatch (W.done s _ _ (hin ▸ hst) fun h' tk hk' => ?_))
    show wpAny _ A.in1 (updateSeq S (fun _ => #[]) >>= _) _ _ _
    refine wpAny_bind (wpAny_updateSeq (hk' S _ hSw hS) rfl (wpAny_bind (wpAny_letGo (wpAny_pure ?_))))
    refine hR vb _ tk ?_ fun b o hbw hbS e => (Heap.get?_update_other _ _ (Ne.symm hbS)).trans (hk' b o hbw e)
    rw [hin]; exact hPb
  | succ k ih =>
    intro j s vb c hk hst hK hPb hS hR
    refine codeAny_builtin F.entry_min_loop ?_
    rw [Around.under_plainId F.plain_min_loop _]
    show wpAny _ A.in1 (seqItems? (.ref S) >>= _) _ _ s
    refine wpAny_bind (wpAny_seqItems hS rfl ?_)
    show wpAny _ A.in1 (tryCatch (pyNext (.ref I)) _ >>= _) _ _ s
    refine wpAny_bind (wpAny_tryCatch (W.item (j + 1) s _ _ (by omega) hst fun v h' tk hP hst' hk' => ?_))
    have hS' := hk' S _ hSw hS
    have hK' : Kp h' := hKp _ _ hK fun b o hbw _ e => hk' b o hbw e
    show wpAny _ A.in1 (tryCatch (holding [v, v] (richCompare .Lt v vb >>= _)) _ >>= _) _ _ _
    refine wpAny_bind (wpAny_tryCatch (wpAny_holding (wpAny_bind (hcmp (j + 1) (argBest bt j) v vb _ _ _ hK' hP hPb ?_))))
    refine wpAny_bind (wpAny_holding (wpAny_truthy_bool (wpAny_bind (wpAny_letGo (wpAny_pure ?_)))))
    cases hb : bt (j + 1) (argBest bt j) with
    | true =>
      simp only [if_true]
      refine wpAny_bind (wpAny_updateSeq hS' rfl (wpAny_bind (wpAny_letGo ?_)))
      rw [hname]
      have up : ∀ (f : Obj → Obj) b o, b ≠ S → h'.get? b = some o → (h'.update S f).get? b = some o := fun f b o hbS e => (Heap.get?_update_other _ _ (Ne.symm hbS)).trans e
      refine wpAny_pure ⟨plainId_quiet F.plain_min_loop _, ih (j + 1) _ v _ (by omega) (W.frame _ _ _ hst' fun b hbf o e => up _ b o (fun q => hSf (q ▸ hbf)) e) (hKp _ _ hK' fun b o _ hbS e => up _ b o hbS e) (by simp only [argBest, hb, if_true]; exact hP) (Heap.get?_update_self _ hS' rfl)
        fun v' h'' tk'' hP' hk'' => hR v' h'' tk'' hP' fun b o hbw hbS e => hk'' b o hbw hbS (up _ b o hbS (hk' b o hbw e))⟩
    | false =>
      simp only [Bool.false_eq_true, if_false]
      refine wpAny_bind (wpAny_letGo ?_)
      rw [hname]
      refine wpAny_pure ⟨plainId_quiet F.plain_min_loop _, ih (j + 1) _ vb c (by omega) hst' hK' (by simp only [argBest, hb, Bool.false_eq_true, if_false]; exact hPb) hS' fun v' h'' tk'' hP' hk'' => ?_⟩
      exact hR v' h'' tk'' hP' fun b o hbw hbS e => hk'' b o hbw hbS (hk' b o hbw e)
/-- .. and its first turn -/
theorem minFirst (W : Walks prog w A.in1 I fp wr n P St) (bt : Nat → Nat → Bool)
    (hcmp : ∀ i j vi vj (s : Shared) (Q : Value → Shared → Prop) (E : Value → Shared → Prop), Kp s.heap → P i vi → P j vj → Q (.bool (bt i j)) s → wpAny (model prog w) A.in1 (richCompare .Lt vi vj) Q E s)
    (hKp : ∀ h h' : Heap, Kp h → (∀ b o, b ∉ wr → b ≠ S → h.get? b = some o → h'.get? b = some o) → Kp h') (hSf : S ∉ fp) (hn : 0 < n) {s : Shared} {c : Nat} (hst : St 0 s.heap) (hK : Kp s.heap)
    (hS : s.heap.get? S = some { cls := .type "list", dict := none, data := .seq #[] c, slots := #[] })
    (hR : ∀ v h' tk, P (argBest bt (n - 1)) v → (∀ b o, b ∉ wr → b ≠ S → s.heap.get? b = some o → h'.get? b = some o) → R (.ok (.ret v)) { s with heap := h', toks := tk }) :
    codeAny (model prog w) A (.builtin "min.loop" ⟨[.ref I, .none, .ref S], []⟩) R s := by
  have hSw : S ∉ wr := fun h => hSf (W.sub _ h)
  have hname : (toString "min" ++ toString ".loop" : String) = "min.loop" := by decide
  refine codeAny_builtin F.entry_min_loop ?_
  rw [Around.under_plainId F.plain_min_loop _]
  show wpAny _ A.in1 (seqItems? (.ref S) >>= _) _ _ s
  refine wpAny_bind (wpAny_seqItems hS rfl ?_)
  show wpAny _ A.in1 (tryCatch (pyNext (.ref I)) _ >>= _) _ _ s
  refine wpAny_bind (wpAny_tryCatch (W.item 0 s _ _ hn hst fun v h' tk hP hst' hk' => ?_))
  have hS' := hk' S _ hSw hS
  have hK' : Kp h' := hKp _ _ hK fun b o hbw _ e => hk' b o hbw e
  show wpAny _ A.in1 (updateSeq S (fun _ => #[v, v]) >>= _) _ _ _
  refine wpAny_bind (wpAny_updateSeq hS' rfl ?_)
  rw [hname]
  have up : ∀ (f : Obj → Obj) b o, b ≠ S → h'.get? b = some o → (h'.update S f).get? b = some o := fun f b o hbS e => (Heap.get?_update_other _ _ (Ne.symm hbS)).trans e
  refine wpAny_pure ⟨plainId_quiet F.plain_min_loop _, minLoop W bt hcmp hKp hSf (n - 1) 0 _ v _ (by omega) (W.frame _ _ _ hst' fun b hbf o e => up _ b o (fun q => hSf (q ▸ hbf)) e) (hKp _ _ hK' fun b o _ hbS e => up _ b o hbS e) hP (Heap.get?_update_self _ hS' rfl)
    fun v' h'' tk'' hP' hk'' => hR v' h'' tk'' hP' fun b o hbw hbS e => hk'' b o hbw hbS (up _ b o hbS (hk' b o hbw e))⟩
end

theorem argBest_le (bt : Nat → Nat → Bool) : ∀ k, argBest bt k ≤ k
  | 0 => Nat.le_refl _
  | k + 1 => by
    have := argBest_le bt k
    unfold argBest
    split <;> omega
theorem argBest_least {bt : Nat → Nat → Bool} (hi : ∀ i, bt i i = false) (ht : ∀ i j k, bt i j = true → bt j k = true → bt i k = true) : ∀ k i, i ≤ k → bt i (argBest bt k) = false
  | 0, i, h => by
    have : i = 0 := by omega
    subst this; exact hi 0
  | k + 1, i, h => by
    have ih := argBest_least hi ht k
    unfold argBest
    split
    · rename_i hb
      rcases Nat.lt_or_ge i (k + 1) with h1 | h1
      · cases hc : bt i (k + 1) with
        | false => rfl
        | true => have := ht _ _ _ hc hb; rw [ih i (by omega)] at this; cases this
      · have : i = k + 1 := by omega
        subst this; exact hi _
    · rename_i hb
      rcases Nat.lt_or_ge i (k + 1) with h1 | h1
      · exact ih i (by omega)
      · have : i = k + 1 := by omega
        subst this; simpa using hb

section
variable {prog : Program} {w : World} {A : Around} {E : Value → Shared → Prop} {s : Shared} {h₀ : Heap} {L : Addr} {m : Str → Option Value}
/-- min of a list of the ledger: an item, and none is less -/
theorem minG {α : Type} (κ : Kind α) {l : Addr} {vs : List Value} {as : List α} {e : Nat} {led : List (Addr × Obj)} {Q : Value → Shared → Prop} (hirr : ∀ a, κ.lt a a = false) (htr : ∀ a b c, κ.lt a b = true → κ.lt b c = true → κ.lt a c = true)
    (hh : A.handled = none) (F1 : Fr h₀ L s.heap m) (N : News h₀ L s.heap led) (hm : (l, listOf vs.toArray e) ∈ led) (hA : Are κ led vs as) (hne : 0 < as.length) (hu : A.units + 1 < cLine)
    (h : ∀ (i : Nat) v a h' tk, vs[i]? = some v → as[i]? = some a → (∀ (j : Nat) b, as[j]? = some b → κ.lt b a = false) → Fr h₀ L h' m → News h₀ L h' led → Q v { s with heap := h', toks := tk }) :
    wpAny (model prog w) A (call (.builtin "min") [.ref l]) Q E s := by
  have hl : s.heap.IsList l vs.toArray := ⟨_, (N _ hm).1, rfl, e, rfl⟩
  have hlt : l < s.heap.objs.size := Heap.lt_size (N _ hm).1
  have hname : (toString "min" ++ toString ".loop" : String) = "min.loop" := by decide
  have hvl := hA.1
  refine call_function_tree F.kind_min F.plain_min F.entry_min (F.args_min1 _) ?_
  show wpAny _ A.in1 (Builtin.Builtins.bindParams "min" ["key", "default"] 0 ⟨[], []⟩ >>= _) _ _ s
  refine wpAny_bind (wpAny_of_eq (show Builtin.Builtins.bindParams "min" ["key", "default"] 0 ⟨[], []⟩ = pure [none, none] from rfl) ?_)
  refine wpAny_bind (wpAny_pure ?_)
  refine wpAny_bind (wpAny_pyIter_list hl ?_)
  refine wpAny_bind (wpAny_newObj_type ?_)
  rw [hname]
  have hne1 : l ≠ s.heap.objs.size := Nat.ne_of_lt hlt
  have W := Walks.list (prog := prog) (w := w) (A := A.in1) hh s.heap.objs.size l hne1 vs.toArray
  have hlen : vs.toArray.size = vs.length := by simp
  rw [hlen] at W
  have upI : ∀ b o, s.heap.get? b = some o → (s.heap.push { cls := .type "list_iterator", data := .fields #[.ref l, .int 0 0] }).get? b = some o := fun b o e => Heap.get?_push_of_some _ e
  refine wpAny_pure ⟨plainId_quiet F.plain_min_loop _, minFirst (Kp := fun h => ∀ p ∈ led, h.get? p.1 = some p.2) (S := (s.heap.push { cls := .type "list_iterator", data := .fields #[.ref l, .int 0 0] }).objs.size) W (fun i j => match as[i]?, as[j]? with | some a, some b => κ.lt a b | _, _ => false) ?_ ?_ ?_ (by omega) ?_ ?_ (Heap.get?_push_size _ rfl) ?_⟩
  · intro i j vi vj s' Q' E' hK hi hj hQ
    have hi' : i < as.length := by rw [← hvl]; have := (Array.getElem?_eq_some_iff.mp hi).1; simpa using this
    have hj' : j < as.length := by rw [← hvl]; have := (Array.getElem?_eq_some_iff.mp hj).1; simpa using this
    rw [List.getElem?_eq_getElem hi', List.getElem?_eq_getElem hj'] at hQ
    have r1 := hA.2 i vi _ (by simpa using hi) (List.getElem?_eq_getElem hi')
    have r2 := hA.2 j vj _ (by simpa using hj) (List.getElem?_eq_getElem hj')
    refine κ.cmp (h₀ := h₀) (L := L) (T := led) (fun p hp => ⟨hK p hp, (N p hp).2⟩) r1 r2 hu hQ
  · intro h1 h2 hK hk p hp
    have lp : p.1 < s.heap.objs.size := Heap.lt_size (N p hp).1
    refine hk _ _ (fun hm => ?_) ?_ (hK p hp)
    · rw [List.mem_singleton.mp hm] at lp; exact Nat.lt_irrefl _ lp
    · rw [Heap.size_push]; exact Nat.ne_of_lt (Nat.lt_succ_of_lt lp)
  · intro hm
    rw [Heap.size_push] at hm
    rcases List.mem_cons.mp hm with e1 | hm
    · exact absurd e1 (Nat.succ_ne_self _)
    · have e9 : s.heap.objs.size + 1 = l := List.mem_singleton.mp hm
      rw [← e9] at hlt
      exact absurd hlt (Nat.not_lt.mpr (Nat.le_succ _))
  · exact ⟨⟨_, Heap.get?_push_of_some _ (Heap.get?_push_size _ rfl), rfl, rfl⟩, (hl.push _).push _⟩
  · intro p hp
    exact Heap.get?_push_of_some _ (upI _ _ (N p hp).1)
  · intro v h' tk hP hk
    have keep : ∀ b o, s.heap.get? b = some o → h'.get? b = some o := fun b o e => by
      have lp : b < s.heap.objs.size := Heap.lt_size e
      refine hk b o (fun hm => ?_) ?_ (Heap.get?_push_of_some _ (upI b o e))
      · rw [List.mem_singleton.mp hm] at lp; exact Nat.lt_irrefl _ lp
      · rw [Heap.size_push]; exact Nat.ne_of_lt (Nat.lt_succ_of_lt lp)
    have hP' : vs[argBest (fun i j => match as[i]?, as[j]? with | some a, some b => κ.lt a b | _, _ => false) (vs.length - 1)]? = some v := by simpa using hP
    generalize hB : argBest (fun i j => match as[i]?, as[j]? with | some a, some b => κ.lt a b | _, _ => false) (vs.length - 1) = B at *
    have hBl : B < as.length := by rw [← hvl]; exact (List.getElem?_eq_some_iff.mp hP').1
    refine h B v as[B] h' tk hP' (List.getElem?_eq_getElem hBl) (fun j b hj => ?_) (F1.keeps keep) (fun p hp => ⟨keep _ _ (N p hp).1, (N p hp).2⟩)
    have hjl : j < as.length := (List.getElem?_eq_some_iff.mp hj).1
    have := argBest_least (bt := fun i j => match as[i]?, as[j]? with | some a, some b => κ.lt a b | _, _ => false) (fun i => by
        cases q : as[i]? with
        | none => rfl
        | some a => exact hirr a) (fun i j k h1 h2 => by
        cases q1 : as[i]? with
        | none => rw [q1] at h1; cases h1
        | some a =>
          cases q2 : as[j]? with
          | none => rw [q1, q2] at h1; cases h1
          | some b =>
            cases q3 : as[k]? with
            | none => rw [q2, q3] at h2; cases h2
            | some c => rw [q1, q2] at h1; rw [q2, q3] at h2; exact htr a b c h1 h2) (vs.length - 1) j (by omega)
    rw [hB] at this
    rw [hj, List.getElem?_eq_getElem hBl] at this
    exact this
end
end
section
section
variable {α : Type} {lt : α → α → Bool}
def Srt (lt : α → α → Bool) (as : List α) : Prop := as.Pairwise fun a b => lt a b = true
theorem cutAt (htr : ∀ a b c, lt a b = true → lt b c = true → lt a c = true) : ∀ {as : List α}, Srt lt as → ∀ b, ∃ p, p ≤ as.length ∧ ∀ i a, as[i]? = some a → lt a b = decide (i < p)
  | [], _, b => ⟨0, Nat.le_refl _, fun i a h => by simp at h⟩
  | a :: r, hs, b => by
    obtain ⟨h1, h2⟩ := List.pairwise_cons.mp hs
    cases hab : lt a b with
    | true =>
      obtain ⟨p, hp, hr⟩ := cutAt htr h2 b
      refine ⟨p + 1, by simp; omega, fun i c hc => ?_⟩
      cases i with
      | zero => simp at hc; rw [← hc, hab]; simp
      | succ i => rw [hr i c (by simpa using hc)]; simp
    | false =>
      refine ⟨0, Nat.zero_le _, fun i c hc => ?_⟩
      have e : decide (i < 0) = false := by simp
      rw [e]
      cases i with
      | zero => simp at hc; rw [← hc, hab]
      | succ i =>
        cases hcb : lt c b with
        | false => rfl
        | true =>
          have hm : c ∈ r := List.mem_of_getElem? (by simpa using hc)
          rw [htr _ _ _ (h1 c hm) hcb] at hab; cases hab
theorem mem_ins {as : List α} {p : Nat} {b x : α} : x ∈ as.take p ++ b :: as.drop p ↔ x = b ∨ x ∈ as := by
  have e : x ∈ as ↔ x ∈ as.take p ∨ x ∈ as.drop p := by rw [← List.mem_append, List.take_append_drop]
  rw [List.mem_append, List.mem_cons, e]
  constructor
  · rintro (h | h | h)
    · exact .inr (.inl h)
    · exact .inl h
    · exact .inr (.inr h)
  · rintro (h | h | h)
    · exact .inr (.inl h)
    · exact .inl h
    · exact .inr (.inr h)
theorem ins_len {as : List α} {p : Nat} {b : α} (hp : p ≤ as.length) : (as.take p ++ b :: as.drop p).length = as.length + 1 := by
  rw [List.length_append, List.length_cons, List.length_take, List.length_drop]; omega
theorem ins_srt (htot : ∀ a b, a ≠ b → lt a b = true ∨ lt b a = true) {as : List α} {p : Nat} {b : α} (hs : Srt lt as) (hp : p ≤ as.length) (hr : ∀ (i : Nat) a, as[i]? = some a → lt a b = decide (i < p)) (hb : b ∉ as) : Srt lt (as.take p ++ b :: as.drop p) := by
  have hs' : Srt lt (as.take p ++ as.drop p) := by rw [List.take_append_drop]; exact hs
  obtain ⟨h1, h2, h3⟩ := List.pairwise_append.mp hs'
  have ht : ∀ x ∈ as.take p, lt x b = true := fun x hx => by
    obtain ⟨i, hi, e⟩ := List.mem_take_iff_getElem.mp hx
    have : i < p := by omega
    rw [hr i x (by rw [← e]; exact List.getElem?_eq_getElem _)]
    simpa using this
  have hd : ∀ y ∈ as.drop p, lt b y = true := fun y hy => by
    obtain ⟨i, hi, e⟩ := List.mem_drop_iff_getElem.mp hy
    have hf : lt y b = false := by
      rw [hr (p + i) y (by rw [← e]; exact List.getElem?_eq_getElem _)]
      simp
    rcases htot y b (fun q => hb (q ▸ List.mem_of_mem_drop hy)) with h | h
    · rw [hf] at h; cases h
    · exact h
  refine List.pairwise_append.mpr ⟨h1, List.pairwise_cons.mpr ⟨hd, h2⟩, fun x hx y hy => ?_⟩
  rcases List.mem_cons.mp hy with rfl | hy
  · exact ht x hx
  · exact h3 x hx y hy
end
theorem tup_tr : ∀ a b c : Int × Int, kTup.lt a b = true → kTup.lt b c = true → kTup.lt a c = true := by
  intro a b c h1 h2
  simp only [kTup, decide_eq_true_eq] at *
  omega
theorem tup_tot : ∀ a b : Int × Int, a ≠ b → kTup.lt a b = true ∨ kTup.lt b a = true := by
  rintro ⟨a1, a2⟩ ⟨b1, b2⟩ h
  simp only [kTup, decide_eq_true_eq]
  have : ¬ (a1 = b1 ∧ a2 = b2) := fun ⟨e1, e2⟩ => h (by rw [e1, e2])
  omega
theorem int_tr : ∀ a b c : Int, kInt.lt a b = true → kInt.lt b c = true → kInt.lt a c = true := by
  intro a b c h1 h2
  simp only [kInt, decide_eq_true_eq] at *
  omega
theorem int_tot : ∀ a b : Int, a ≠ b → kInt.lt a b = true ∨ kInt.lt b a = true := by
  intro a b h
  simp only [kInt, decide_eq_true_eq]
  omega
theorem tup3_tr : ∀ a b c : Int × Int × Int, kTup3.lt a b = true → kTup3.lt b c = true → kTup3.lt a c = true := by
  intro a b c h1 h2
  simp only [kTup3, decide_eq_true_eq] at *
  omega
theorem tup3_irr : ∀ a : Int × Int × Int, kTup3.lt a a = false := by
  intro a
  simp only [kTup3, decide_eq_false_iff_not]
  omega
end
section
section
variable {prog : Program} {w : World} {A : Around} {E : Value → Shared → Prop} {s : Shared} {h₀ : Heap} {L : Addr} {news : List (Addr × Obj)}
theorem itemP {value slice : PySem.Expr} {l : Addr} {vs : List Value} {c j : Nat} {u : Tok} {v : Value} {Q : Value → Shared → Prop} (N : News h₀ L s.heap news) (hm : (l, listOf vs.toArray c) ∈ news) (hx : vs[j]? = some v) (hj : j < 2 ^ 62) (h : Q v s)
    (hs : subscripted slice false (.ref l) (.int (((j + 1 : Nat) : Int) - 1) u) = operate [.ref l, .int (((j + 1 : Nat) : Int) - 1) u] (getItem (.ref l) (.int (((j + 1 : Nat) : Int) - 1) u)) := by with_unfolding_all rfl) :
    wpAny (model prog w) A (subscriptTail value slice (.ref l) (.int (((j + 1 : Nat) : Int) - 1) u)) Q E s := itemZ N hm hx (by omega) hj h hs
end
/-- the tuples that _law_near lays in order -/
def NearL (top : Int) (n : Nat) (as : List (Int × Int)) : Prop :=
  as.length = n ∧ Srt kTup.lt as ∧ ∀ x, x ∈ as ↔ ∃ t : Nat, t < n ∧ x = ((top * t) % 1000, (t : Int))
def NearL1 (top : Int) (n : Nat) (as : List (Int × Int)) : Prop :=
  as.length = n + 1 ∧ Srt kTup.lt as ∧ ∀ x, x ∈ as ↔ (x = (1000, 0) ∨ ∃ t : Nat, t < n ∧ x = ((top * t) % 1000, (t : Int)))
def NearSpec (top : Int) (bnd : Nat) (g o t : Int) : Prop :=
  ∃ as : List (Int × Int), NearL1 top (bnd + 1) as ∧ ∃ (k : Nat) (a b : Int × Int), as[k]? = some a ∧ as[k + 1]? = some b ∧ g = b.1 - a.1 ∧ o = a.2 ∧ t = b.2 ∧ ∀ (j : Nat) (c d : Int × Int), as[j]? = some c → as[j + 1]? = some d → g ≤ d.1 - c.1
theorem nearNil (top : Int) : NearL top 0 [] := ⟨rfl, List.Pairwise.nil, fun x => ⟨fun h => (nomatch h), fun ⟨t, h, _⟩ => absurd h (Nat.not_lt_zero _)⟩⟩
theorem nearStep {top : Int} {i p : Nat} {as : List (Int × Int)} (h : NearL top i as) (hp : p ≤ as.length) (hr : ∀ (j : Nat) a, as[j]? = some a → kTup.lt a ((top * i) % 1000, (i : Int)) = decide (j < p)) :
    NearL top (i + 1) (as.take p ++ ((top * i) % 1000, (i : Int)) :: as.drop p) := by
  obtain ⟨h1, h2, h3⟩ := h
  refine ⟨by rw [ins_len hp, h1], ins_srt tup_tot h2 hp hr ?_, fun x => ?_⟩
  · intro hm
    obtain ⟨t, ht, e⟩ := (h3 _).mp hm
    have := congrArg Prod.snd e
    simp at this
    omega
  · rw [mem_ins, h3]
    constructor
    · rintro (h | ⟨t, ht, e⟩)
      · exact ⟨i, by omega, h⟩
      · exact ⟨t, by omega, e⟩
    · rintro ⟨t, ht, e⟩
      rcases Nat.lt_or_ge t i with h | h
      · exact .inr ⟨t, h, e⟩
      · have : t = i := by omega
        subst this; exact .inl e
theorem nearLast {top : Int} {n p : Nat} {as : List (Int × Int)} (h : NearL top n as) (hp : p ≤ as.length) (hr : ∀ (j : Nat) a, as[j]? = some a → kTup.lt a (1000, 0) = decide (j < p)) :
    NearL1 top n (as.take p ++ (1000, 0) :: as.drop p) := by
  obtain ⟨h1, h2, h3⟩ := h
  refine ⟨by rw [ins_len hp, h1], ins_srt tup_tot h2 hp hr ?_, fun x => ?_⟩
  · intro hm
    obtain ⟨t, ht, e⟩ := (h3 _).mp hm
    have e1 := congrArg Prod.fst e
    simp at e1
    have := Int.emod_lt_of_pos (top * t) (b := 1000) (by decide)
    omega
  · rw [mem_ins, h3]
theorem fdmod (a : Int) : a.fmod 1000 = a % 1000 := Int.fmod_eq_emod_of_nonneg _ (by decide)
/-- the gaps' tuples, the first of them -/
def NearGaps (as : List (Int × Int)) (i : Nat) (bs : List (Int × Int × Int)) : Prop :=
  bs.length = i ∧ ∀ (j : Nat) b, bs[j]? = some b → ∃ c d, as[j]? = some c ∧ as[j + 1]? = some d ∧ b = (d.1 - c.1, c.2, d.2)
theorem nearGapStep {as : List (Int × Int)} {i : Nat} {bs : List (Int × Int × Int)} {c d : Int × Int} (h : NearGaps as i bs) (hc : as[i]? = some c) (hd : as[i + 1]? = some d) : NearGaps as (i + 1) (bs ++ [(d.1 - c.1, c.2, d.2)]) := by
  refine ⟨by rw [List.length_append, h.1]; rfl, fun j b hj => ?_⟩
  rcases Nat.lt_or_ge j bs.length with hl | hl
  · rw [List.getElem?_append_left hl] at hj
    exact h.2 j b hj
  · rw [List.getElem?_append_right hl] at hj
    have e : j - bs.length = 0 := by
      have := (List.getElem?_eq_some_iff.mp hj).1
      simp at this; omega
    rw [e] at hj
    simp at hj
    have : j = i := by have := h.1; omega
    subst this
    exact ⟨c, d, hc, hd, hj.symm⟩
theorem nearEnd {top : Int} {bnd : Nat} {as : List (Int × Int)} {bs : List (Int × Int × Int)} {i : Nat} {a : Int × Int × Int} (h : NearL1 top (bnd + 1) as) (hg : NearGaps as (bnd + 1) bs) (hi : bs[i]? = some a) (hmin : ∀ (j : Nat) b, bs[j]? = some b → kTup3.lt b a = false) : NearSpec top bnd a.1 a.2.1 a.2.2 := by
  obtain ⟨c, d, hc, hd, e⟩ := hg.2 i a hi
  refine ⟨as, h, i, c, d, hc, hd, by rw [e], by rw [e], by rw [e], fun j c' d' hc' hd' => ?_⟩
  have hj : j < bs.length := by
    have := (List.getElem?_eq_some_iff.mp hd').1
    rw [h.1] at this
    rw [hg.1]; omega
  obtain ⟨c2, d2, hc2, hd2, e2⟩ := hg.2 j bs[j] (List.getElem?_eq_getElem hj)
  rw [hc'] at hc2; cases hc2
  rw [hd'] at hd2; cases hd2
  have := hmin j bs[j] (List.getElem?_eq_getElem hj)
  rw [e2] at this
  simp only [kTup3, decide_eq_false_iff_not] at this
  omega
end
section
local macro_rules | `(tactic| walk_at "spliced") => `(tactic| first | refine args_cons ?_ | refine args_nil ⟨Fr.keep (by assumption) _ _ (by assumption), ?_⟩ | (refine args_nil ?_; try simp only [List.cons_append, List.nil_append]))
local macro_rules | `(tactic| tb_start) => `(tactic| (refine wpAny_call ?_; k_dflt (refine' codeF_def ?k1 ?k2 ?k3 ?k4 ?kD ?k5 ?kA ?kF ?kK ?k6 ?k7 ?k8 ?k9 ?kB ?_ ?c2 ?c3 ?c4 ?c5; (case kA => exact rfl); (case kF => exact rfl); (case kK => assumption); (case k1 => k_asm); (case k2 => k_asm); (case k3 => k_asm); (case k4 => k_asm); (case kD => assumption); (case k5 => k_asm); (case k6 => k_is); (case k7 => k_is); (case k8 => ktr_room); (case k9 => first | exact BindsTo.of_eq rfl | exact binds_K (by k_in) rfl (by k_is) rfl rfl rfl | (refine' kp_binds ?kx ?ke; (case kx => k_in); (case ke => exact fun _ => rfl))); (case c5 => decide); (case kB => exact locs rfl); (case c2 => exact rfl); (case c3 => exact rfl); (case c4 => exact rfl); k_whole; intro g' L' h' FG' F' N' B' X' T' RR' l1; (try dsimp only); (try k_lt l1); (try k_fold))))
local macro_rules | `(tactic| tb_rel) => `(tactic| (refine wpAny_call ?_; k_dflt (refine' codeF_defC ?k1 ?k2 ?k3 ?k4 ?kE ?k5 ?kA ?kF ?kK ?k6 ?k7 ?k8 ?k9 ?kB ?kD ?_ ?c2 ?c3 ?c4; (case kA => exact rfl); (case kF => exact rfl); (case kK => assumption); (case k1 => k_asm); (case k2 => k_asm); (case k3 => k_asm); (case k4 => k_asm); (case kE => assumption); (case k5 => k_asm); (case k6 => k_is); (case k7 => k_is); (case k8 => ktr_room); (case k9 => first | exact BindsTo.of_eq rfl | exact binds_K (by k_in) rfl (by k_is) rfl rfl rfl | (refine' kp_binds ?kx ?ke; (case kx => k_in); (case ke => exact fun _ => rfl))); (case kB => exact rfl); (case kD => decide +kernel); (case c2 => exact rfl); (case c3 => exact rfl); (case c4 => exact rfl); k_whole; intro g' L' h' tk' cells' FG' F' N' Y' B' X' T' RR' l1; (try k_lt l1); k_cells Y'; (try simp only [List.cons_append, List.nil_append] at N'); (try dsimp only); (try k_fold))))
local macro_rules | `(tactic| kwd_rel) => `(tactic| (refine wpAny_call ?_; k_dflt (refine' codeF_nest ?k1 ?k2 ?k3 ?k4 ?kD ?k5 ?kA ?kF ?kK ?k6 ?k7 ?k8 ?k9 ?kB ?_ ?c2 ?c3 ?c4 ?c5; (case kA => exact rfl); (case kF => exact rfl); (case kK => first | exact rfl | assumption); (case k1 => k_asm); (case k2 => k_asm); (case k3 => k_asm); (case k4 => k_asm); (case kD => assumption); (case k5 => k_asm); (case k6 => k_mem); (case k7 => exact codeRec_news (by k_asm) (by k_mem) (by assumption) (by assumption)); (case k8 => ktr_room); (case k9 => exact BindsTo.of_eq rfl); (case c5 => decide); (case kB => exact locs rfl); (case c2 => exact rfl); (case c3 => exact rfl); (case c4 => exact rfl); k_whole; intro g' L' h' FG' F' N' B' X' T' RR' l1; (try dsimp only); (try k_lt l1); (try k_fold))))
local macro_rules | `(tactic| k_allIn) => `(tactic| ((with_reducible refine List.forall_mem_append.mpr ⟨?ka, ?kb⟩); (case ka => k_allIn); (case kb => k_allIn)))


section
local macro_rules | `(tactic| k_all) => `(tactic| assumption)
local macro_rules | `(tactic| walk_at "exec For Name Call cons nil") => `(tactic| (k_here; (rename Fr _ _ _ _ => lF'); (with_unfolding_all refine' For_invVF lF' ?k1 ?k2 ?_; (case k1 => exact rfl); (case k2 => exact rfl); k_whole)))
local macro_rules | `(tactic| walk_at "pyIter ref") => `(tactic| (refine hold ?_))
local macro_rules | `(tactic| walk_at "exec Assign cons ListComp") => `(tactic| (k_dflt (refine LCg.Assign_ListComp_U (F₀ := by k_asm) (by rfl) (by with_unfolding_all rfl) (by with_unfolding_all rfl) (by decide) (by rfl) (by decide) (by rfl) (by rfl) (by rfl) ?_)))
local macro_rules | `(tactic| walk_at "CompSrc") => `(tactic| (refine hold ?_))
local macro_rules | `(tactic| walk_at "call builtin:len") => `(tactic| (k_dflt (refine lenG (by k_asm) (by k_mem) (by assumption) (by omega) ?_)))
local macro_rules | `(tactic| walk_at "subscriptTail") => `(tactic| (k_here; (with_reducible show wpAny _ _ (subscriptTail _ _ (Value.ref _) (Value.int (Nat.cast _) _)) _ _ _); k_dflt (refine itemG (by k_asm) (by k_mem) (by assumption) (by omega) ?_)))
local macro_rules | `(tactic| walk_at "subscriptTail") => `(tactic| (k_here; (with_reducible show wpAny _ _ (subscriptTail _ _ (Value.ref _) (Value.int (HSub.hSub _ _) _)) _ _ _); k_dflt (refine itemP (by k_asm) (by k_mem) (by assumption) (by omega) ?_)))
local macro_rules | `(tactic| walk_at "call builtin:min") => `(tactic| (refine hold ?_))
variable {w : World} {p : Program} {loose : List Str} {mean : ExcName → Option Value} {mg mb : Str → Option Value}

theorem near_ctr (top : Int) (bnd : Nat) (tt tb : Tok) (T2 T3 : List (Addr × Obj)) (hT2 : Tab 30 32 4 qI2 T2) (hT3 : Tab 37 47 4 qI3 T3) (hO : Off T2 T3) (h0 : 0 ≤ top) (h1 : top < 1000) (hb1 : 1 ≤ bnd) (hb2 : bnd ≤ 9) :
    Ctr PySem.Challenge.rw_ga0003_03.row.prog w (hd.heap_39 w.params) p loose mean mg mb 79 120 1000 [.int top tt, .int bnd tb] (T2 ++ T3)
      (fun r hd' => ∃ l t1 t2 t3 e T2' T3' g o t, r = .ref l ∧ hd' = (l, tupObj [.int g t1, .int o t2, .int t t3] e) :: (T2' ++ T3') ∧ Tab 30 32 4 qI2 T2' ∧ Tab 37 47 4 qI3 T3' ∧ Off T2' T3' ∧ NearSpec top bnd g o t) := by
  k_fill
  intro dp un gd cn cs a ccd cl outer A₀ base h₀ L m s rest Q E B C1 C2 F X N D T hk hdp hun hret
  tb_rel
  have NR : News h₀ L s.heap rest := newsSub N fun p hp => List.mem_append_right _ hp
  have hcell := fun (p : Addr × Obj) hp => Nat.ne_of_lt (Nat.lt_succ_of_lt ((by assumption : ∀ p ∈ T2 ++ T3, p.1 < _) p hp))
  k_steps
  unfold Hold
  rename_i gg LL hh5 tk5 FG5 B5 X5 T5 RR5 l5 o5 d5 lo hh3 ml1 hh2 oc F1 N1 dc hh1 tk1 t1 u1 v1 hR F2 N2 hK
  k_dflt (refine iterRangeG (n := bnd + 1) (news := (lo, listOf [].toArray 0) :: (LL + 1, oc) :: (T2 ++ T3)) (fun i m news => ∃ (vs : List Value) (as : List (Int × Int)) (e : Nat) (TT T2 T3 : List (Addr × Obj)), news = (lo, listOf vs.toArray e) :: (LL + 1, oc) :: (TT ++ (T2 ++ T3)) ∧ Tab 30 32 4 qI2 T2 ∧ Tab 37 47 4 qI3 T3 ∧ Off T2 T3 ∧ (∀ p ∈ TT, tag p.2 = 2) ∧ Are kTup TT vs as ∧ NearL top i as ∧ m (Str.ofString "top") = some (.int top tt)) rfl hR ?_ ?_ F2 N2 ?_ ?_ ?_)
  · exact small_one (by omega) (by omega) (by omega) (by omega)
  · exact rangeSize_nat _ _
  · exact ⟨[], [], 0, [], T2, T3, rfl, hT2, hT3, hO, (fun _ hp => nomatch hp), Are.nil, nearNil top, rfl⟩
  · rintro i ti m₁ news₁ h tk own hi ⟨vs, as, e, TT, T2, T3, rfl, hT2, hT3, hO, hTT, hA, hNL, hmt⟩ hOw F3 N3
    have ei : (0 : Int) + (i : Int) * 1 = i := by omega
    rw [ei] at F3
    have F4 := Fr.know F3 ((if_neg (by decide)).trans hmt)
    have N4 := newsSub (xs := (lo, listOf vs.toArray e) :: (LL + 1, oc) :: (own ++ (TT ++ (T2 ++ T3)))) N3 (by intro p hp; simp at hp ⊢; rcases hp with h | h | h | h | h | h <;> simp [h])
    clear F3 N3 F1 N1 F2 N2
    have hlen : as.length ≤ 2 ^ 22 := by rw [hNL.1]; omega
    have hbt : Builtin.Int.intBits (top * i) ≤ 2 ^ 21 := by
      have h9 : top * i ≤ 1000 * 10 := Int.mul_le_mul (by omega) (by omega) (by omega) (by omega)
      have h8 : 0 ≤ top * i := Int.mul_nonneg h0 (by omega)
      exact bits_small (by omega) (by omega)
    have g1 : tag (listOf vs.toArray e) = 1 := rfl
    have g2 : tag oc = 3 := tag_cell dc
    have g3 := hT2.tags
    have g4 := hT3.tags
    k_steps
    k_dflt (refine' int_divmod_ctr (top * i) 1000 _ _ T2 T3 hT2 hT3 hO (by decide) (by decide) hbt _ _ _ _ _ _ _ _ _ _ _ _ _ _ _ (own ++ ((lo, listOf vs.toArray e) :: (LL + 1, oc) :: TT)) _ _ ?q19xk1 ?q19xk2 ?q19xk3 ?q19xk4 ?q19xk5 ?q19xk6 ?q19xk7 ?q19xk8 ?q19xk9 ?q19xk10 ?q19xk11 ?q19xkR)
    case q19xk1 => k_asm
    case q19xk2 => assumption
    case q19xk3 => assumption
    case q19xk4 => k_asm
    case q19xk5 => k_asm
    case q19xk6 => exact newsSub N4 (by intro p hp; simp at hp ⊢; rcases hp with h | h | h | h | h | h <;> simp [h])
    case q19xk7 => exact Off.appR (Off.symm (Off.subR hOw (by intro p hp; simp at hp ⊢; rcases hp with h | h <;> simp [h]))) (offTag0 N4 (by intro p hp; simp at hp ⊢; rcases hp with h | h <;> simp [h]) (by intro p hp; simp at hp ⊢; rcases hp with h | h | h <;> simp [h]) (tabs0 hT2 hT3) (List.forall_mem_cons.mpr ⟨Nat.one_ne_zero, List.forall_mem_cons.mpr ⟨by show tag oc ≠ 0; rw [g2]; decide, fun q hq => by rw [hTT q hq]; decide⟩⟩))
    case q19xk8 => k_asm
    case q19xk9 => first | exact rfl | assumption
    case q19xk10 => ktr_room
    case q19xk11 => ktr_units
    intro r hd' h' tk' F' N' D' ⟨ld, td1, td2, ed, T2', T3', hr, ehd, hT2', hT3', hO'⟩
    subst hr ehd
    dsimp only
    have N5 := newsSub (xs := (ld, tupObj [.int ((top * i).fdiv 1000) td1, .int ((top * i).fmod 1000) td2] ed) :: (lo, listOf vs.toArray e) :: (LL + 1, oc) :: (own ++ (TT ++ (T2' ++ T3')))) N' (by intro p hp; simp at hp ⊢; rcases hp with h | h | h | h | h | h | h <;> simp [h])
    clear N' N4 F4
    k_steps
    rename_i lt hh7 F7 N7 ml7
    obtain ⟨p', hp1, hp2⟩ := cutAt tup_tr hNL.2.1 ((top * i) % 1000, (i : Int))
    have hne : ∀ q ∈ (lt, tupObj [.int ((top * i).fmod 1000) td2, .int i ti] 0) :: TT, q.1 ≠ lo := List.forall_mem_cons.mpr ⟨by k_ne, fun q hq => tagNe N7 (q := (lo, listOf vs.toArray e)) (by simp [hq]) (by simp) (by rw [hTT q hq]; exact (show (2 : Nat) ≠ 1 by decide))⟩
    have hAn : Are kTup ((lt, tupObj [.int ((top * i).fmod 1000) td2, .int i ti] 0) :: TT) vs as := hA.mono fun p hp => List.mem_cons_of_mem _ hp
    have hbn : kTup.rel ((lt, tupObj [.int ((top * i).fmod 1000) td2, .int i ti] 0) :: TT) (.ref lt) ((top * i) % 1000, (i : Int)) := ⟨lt, td2, ti, 0, rfl, by rw [fdmod]; exact List.Mem.head _⟩
    have hlo : Off own [(lt, tupObj [.int ((top * i).fmod 1000) td2, .int i ti] 0)] := fun p hp q hq e9 => by
      rw [List.mem_singleton.mp hq] at e9
      exact absurd (kst_ltOf ml7.2.2.2 p (List.mem_append_left _ hp)) (by rw [e9]; exact Nat.lt_irrefl _)
    have hOff : Off ((lo, listOf vs.toArray e) :: (lt, tupObj [.int ((top * i).fmod 1000) td2, .int i ti] 0) :: TT) ((LL + 1, oc) :: (own ++ (T2' ++ T3'))) := by
      refine Off.consR ?_ (Off.appR ?_ ?_)
      · exact fun q hq => tagNe N7 (q := (LL + 1, oc)) (by simp at hq ⊢; rcases hq with h | h | h <;> simp [h]) (by simp) (by
          show tag q.2 ≠ tag oc
          rw [g2]; rcases List.mem_cons.mp hq with rfl | hq
          · exact (show (1 : Nat) ≠ 3 by decide)
          · rcases List.mem_cons.mp hq with rfl | hq
            · exact (show (2 : Nat) ≠ 3 by decide)
            · rw [hTT q hq]; decide)
      · refine Off.symm fun p hp q hq => ?_
        rcases List.mem_cons.mp hq with rfl | hq
        · exact hOw p hp _ (.head _)
        · rcases List.mem_cons.mp hq with rfl | hq
          · exact hlo p hp _ (.head _)
          · exact hOw p hp q (.tail _ (.tail _ (List.mem_append_left _ hq)))
      · exact Off.symm (offTag0 N7 (by intro p hp; simp at hp ⊢; rcases hp with h | h <;> simp [h]) (by intro p hp; simp at hp ⊢; rcases hp with h | h | h <;> simp [h]) (tabs0 hT2' hT3') (List.forall_mem_cons.mpr ⟨Nat.one_ne_zero, List.forall_mem_cons.mpr ⟨(show (2 : Nat) ≠ 0 by decide), fun q hq => by rw [hTT q hq]; decide⟩⟩))
    k_dflt (refine' insort_ctr kTup lo vs as e (.ref lt) _ _ p' hne hAn hbn hp1 hp2 hlen _ _ _ _ _ _ _ _ _ _ _ _ _ _ _ ((LL + 1, oc) :: (own ++ (T2' ++ T3'))) _ _ ?q20xk1 ?q20xk2 ?q20xk3 ?q20xk4 ?q20xk5 ?q20xk6 ?q20xk7 ?q20xk8 ?q20xk9 ?q20xk10 ?q20xk11 ?q20xkR)
    case q20xk1 => k_asm
    case q20xk2 => assumption
    case q20xk3 => assumption
    case q20xk4 => k_asm
    case q20xk5 => k_asm
    case q20xk6 => exact newsSub N7 (by intro p hp; simp at hp ⊢; rcases hp with h | h | h | h | h | h | h <;> simp [h])
    case q20xk7 => exact hOff
    case q20xk8 => k_asm
    case q20xk9 => first | exact rfl | assumption
    case q20xk10 => ktr_room
    case q20xk11 => ktr_units
    intro r hd' h' tk' F8 N8 D8 ⟨hr, ehd⟩
    subst hr ehd
    dsimp only
    k_steps
    refine ⟨_, _, _, (lo, listOf (vs.take p' ++ .ref lt :: vs.drop p').toArray (e + 1)) :: (LL + 1, oc) :: (((lt, tupObj [.int ((top * i).fmod 1000) td2, .int i ti] 0) :: TT) ++ (T2' ++ T3')), rfl, F8, newsSub N8 ?_, ?_, ⟨_, _, e + 1, (lt, tupObj [.int ((top * i).fmod 1000) td2, .int i ti] 0) :: TT, T2', T3', rfl, hT2', hT3', hO', List.forall_mem_cons.mpr ⟨rfl, hTT⟩, (hAn.take p').append ((Are.one hbn).append (hAn.drop p')), nearStep hNL hp1 hp2, rfl⟩⟩
    · intro p hp; simp at hp ⊢; rcases hp with h | h | h | h | h | h | h <;> simp [h]
    · refine Off.consR (fun p hp => hOw p hp _ (.head _)) (Off.consR (fun p hp => hOw p hp _ (.tail _ (.head _))) (Off.appR (Off.consR (fun p hp => hlo p hp _ (.head _)) fun p hp q hq => hOw p hp q (.tail _ (.tail _ (List.mem_append_left _ hq)))) fun p hp q hq => ?_))
      exact (D' q (.tail _ hq) p (List.mem_append_left _ hp)).symm
  · rintro m₁ news₁ h tk ⟨vs, as, e, TT, T2, T3, rfl, hT2, hT3, hO, hTT, hA, hNL, hmt⟩ F3 N3
    clear F1 N1 F2 N2
    have hlen : as.length ≤ 2 ^ 22 := by rw [hNL.1]; omega
    k_steps
    rename_i lt hh7 F7 N7 ml7
    obtain ⟨tu1, tu2, N8⟩ : ∃ tu1 tu2, News gg _ hh7 ((lt, tupObj [.int 1000 tu1, .int 0 tu2] 0) :: (lo, listOf vs.toArray e) :: (LL + 1, oc) :: (TT ++ (T2 ++ T3))) := ⟨_, _, N7⟩
    have g2 : tag oc = 3 := tag_cell dc
    obtain ⟨p', hp1, hp2⟩ := cutAt tup_tr hNL.2.1 ((1000 : Int), (0 : Int))
    have hne : ∀ q ∈ (lt, tupObj [.int 1000 tu1, .int 0 tu2] 0) :: TT, q.1 ≠ lo := List.forall_mem_cons.mpr ⟨by k_ne, fun q hq => tagNe N8 (q := (lo, listOf vs.toArray e)) (by simp [hq]) (by simp) (by rw [hTT q hq]; exact (show (2 : Nat) ≠ 1 by decide))⟩
    have hAn : Are kTup ((lt, tupObj [.int 1000 tu1, .int 0 tu2] 0) :: TT) vs as := hA.mono fun p hp => List.mem_cons_of_mem _ hp
    have hbn : kTup.rel ((lt, tupObj [.int 1000 tu1, .int 0 tu2] 0) :: TT) (.ref lt) ((1000 : Int), (0 : Int)) := ⟨lt, tu1, tu2, 0, rfl, List.Mem.head _⟩
    have hOff : Off ((lo, listOf vs.toArray e) :: (lt, tupObj [.int 1000 tu1, .int 0 tu2] 0) :: TT) ((LL + 1, oc) :: (T2 ++ T3)) := by
      refine Off.consR ?_ ?_
      · exact fun q hq => tagNe N8 (q := (LL + 1, oc)) (by simp at hq ⊢; rcases hq with h | h | h <;> simp [h]) (by simp) (by
          show tag q.2 ≠ tag oc
          rw [g2]; rcases List.mem_cons.mp hq with rfl | hq
          · exact (show (1 : Nat) ≠ 3 by decide)
          · rcases List.mem_cons.mp hq with rfl | hq
            · exact (show (2 : Nat) ≠ 3 by decide)
            · rw [hTT q hq]; decide)
      · exact Off.symm (offTag0 N8 (by intro p hp; simp at hp ⊢; rcases hp with h | h <;> simp [h]) (by intro p hp; simp at hp ⊢; rcases hp with h | h | h <;> simp [h]) (tabs0 hT2 hT3) (List.forall_mem_cons.mpr ⟨Nat.one_ne_zero, List.forall_mem_cons.mpr ⟨(show (2 : Nat) ≠ 0 by decide), fun q hq => by rw [hTT q hq]; decide⟩⟩))
    k_dflt (refine' insort_ctr kTup lo vs as e (.ref lt) _ _ p' hne hAn hbn hp1 hp2 hlen _ _ _ _ _ _ _ _ _ _ _ _ _ _ _ ((LL + 1, oc) :: (T2 ++ T3)) _ _ ?q21xk1 ?q21xk2 ?q21xk3 ?q21xk4 ?q21xk5 ?q21xk6 ?q21xk7 ?q21xk8 ?q21xk9 ?q21xk10 ?q21xk11 ?q21xkR)
    case q21xk1 => k_asm
    case q21xk2 => assumption
    case q21xk3 => assumption
    case q21xk4 => k_asm
    case q21xk5 => k_asm
    case q21xk6 => exact newsSub N8 (by intro p hp; simp at hp ⊢; rcases hp with h | h | h | h | h | h <;> simp [h])
    case q21xk7 => exact hOff
    case q21xk8 => k_asm
    case q21xk9 => first | exact rfl | assumption
    case q21xk10 => ktr_room
    case q21xk11 => ktr_units
    intro r hd' h' tk' F8 N9 D8 ⟨hr, ehd⟩
    subst hr ehd
    dsimp only
    have hN1 := nearLast hNL hp1 hp2
    have hA1 : Are kTup ((lt, tupObj [.int 1000 tu1, .int 0 tu2] 0) :: TT) (vs.take p' ++ .ref lt :: vs.drop p') (as.take p' ++ (1000, 0) :: as.drop p') := (hAn.take p').append ((Are.one hbn).append (hAn.drop p'))
    generalize vs.take p' ++ .ref lt :: vs.drop p' = vs1 at *
    generalize as.take p' ++ (1000, 0) :: as.drop p' = as1 at *
    have N10 := newsSub (xs := (lo, listOf vs1.toArray (e + 1)) :: (LL + 1, oc) :: (((lt, tupObj [.int 1000 tu1, .int 0 tu2] 0) :: TT) ++ (T2 ++ T3))) N9 (by intro p hp; simp at hp ⊢; rcases hp with h | h | h | h | h | h <;> simp [h])
    have hTT1 : ∀ p ∈ (lt, tupObj [.int 1000 tu1, .int 0 tu2] 0) :: TT, tag p.2 = 2 := List.forall_mem_cons.mpr ⟨rfl, hTT⟩
    generalize (lt, tupObj [.int 1000 tu1, .int 0 tu2] 0) :: TT = TT1 at *
    have hvl : vs1.length = bnd + 1 + 1 := by rw [hA1.1, hN1.1]
    clear N9 N8 N7 F7
    k_steps
    unfold Hold
    rename_i hh9 tk9 t9 u9 v9 hR9 F9 N9 hK9
    k_dflt (refine LCg.CompSrc.range (n := bnd + 1) (by rfl) F9 N9 hR9 (small_one (by omega) (by omega) (by omega) (by omega)) (rangeSize_k (by omega)) (by rw [sizeLine_eq]; omega) ?_)
    intro g9
    k_dflt (refine compInv (n := bnd + 1) (fun i ys news => ∃ (TG : List (Addr × Obj)) (bs : List (Int × Int × Int)), news = (lo, listOf vs1.toArray (e + 1)) :: (LL + 1, oc) :: (TG ++ (TT1 ++ (T2 ++ T3))) ∧ (∀ p ∈ TG, tag p.2 = 2) ∧ Are kTup3 TG ys bs ∧ NearGaps as1 i bs) ?_ ?_ (bnd + 1) 0 [] _ (by omega) ⟨[], [], rfl, (fun _ hp => nomatch hp), Are.nil, ⟨rfl, fun j b h => by simp at h⟩⟩)
    · rintro ys news ⟨TG, bs, rfl, hTG, hAG, hG⟩
      unfold LCg.FinA
      intro DG hG1 tkG FG NG oG
      clear F9 N9
      dsimp only
      k_steps
      unfold Hold
      k_dflt (refine minG kTup3 tup3_irr tup3_tr (by rfl) FG NG (List.Mem.head _) (hAG.mono fun p hp => List.mem_cons_of_mem _ (by simp [hp])) (by rw [hG.1]; omega) (by ktr_units) ?_)
      intro ix vx ax hhx tkx hvx hax hmin FX NX
      obtain ⟨lr, y1, y2, y3, ny, rfl, hmr⟩ := hAG.2 ix vx ax hvx hax
      have NX2 := newsSub (xs := (lr, tupObj [.int ax.1 y1, .int ax.2.1 y2, .int ax.2.2 y3] ny) :: (T2 ++ T3)) NX (by intro p hp; simp at hp ⊢; rcases hp with h | h | h <;> simp [h, hmr])
      clear FG NG
      k_steps
      rename_i kF kN kT kX
      exact ctr_ret (hd' := (lr, tupObj [.int ax.1 y1, .int ax.2.1 y2, .int ax.2.2 y3] ny) :: (T2 ++ T3)) hret NR (by assumption) FX NX2 kF kN ⟨lr, y1, y2, y3, ny, T2, T3, ax.1, ax.2.1, ax.2.2, rfl, rfl, hT2, hT3, hO, nearEnd hN1 hG hax hmin⟩
    · rintro i ys news v I oI C oC D m₂ h tk E' hi ⟨TG, bs, rfl, hTG, hAG, hG⟩ ⟨ti, rfl⟩ hC hx F10 N10 off ne
      have ek : (1 : Int) + (i : Int) = ((i + 1 : Nat) : Int) := by omega
      rw [ek] at hx
      have hi0 : i < as1.length := by rw [hN1.1]; omega
      have hi1 : i + 1 < as1.length := by rw [hN1.1]; omega
      obtain ⟨w0, hw0, r0⟩ := hA1.get hi0
      obtain ⟨w1, hw1, r1⟩ := hA1.get hi1
      have hc0 := List.getElem?_eq_getElem hi0
      have hc1 := List.getElem?_eq_getElem hi1
      generalize as1[i] = c0 at *
      generalize as1[i + 1] = d0 at *
      obtain ⟨l0, ta1, ta2, na, rfl, hm0⟩ := r0
      obtain ⟨l1, tb1, tb2, nb, rfl, hm1⟩ := r1
      have hm0' : (l0, tupObj [.int c0.1 ta1, .int c0.2 ta2] na) ∈ TG ++ (TT1 ++ (T2 ++ T3)) := by simp [hm0]
      have hm1' : (l1, tupObj [.int d0.1 tb1, .int d0.2 tb2] nb) ∈ TG ++ (TT1 ++ (T2 ++ T3)) := by simp [hm1]
      have N11 := newsSub (xs := (I, oI) :: (C, oC) :: (D, LCg.lst ys) :: (lo, listOf vs1.toArray (e + 1)) :: (LL + 1, oc) :: (l0, tupObj [.int c0.1 ta1, .int c0.2 ta2] na) :: (l1, tupObj [.int d0.1 tb1, .int d0.2 tb2] nb) :: (TG ++ (TT1 ++ (T2 ++ T3)))) N10 (by intro p hp; simp at hp ⊢; rcases hp with h | h | h | h | h | h | h | h <;> simp [h, hm0, hm1])
      clear F9 N9 N10
      k_steps
      rename_i lg hhg FG NG mlg
      obtain ⟨tg1, tg2, tg3, N12⟩ : ∃ tg1 tg2 tg3, News gg _ hhg ((lg, tupObj [.int (d0.1 - c0.1) tg1, .int c0.2 tg2, .int d0.2 tg3] 0) :: (I, oI) :: (C, oC) :: (D, LCg.lst ys) :: (lo, listOf vs1.toArray (e + 1)) :: (LL + 1, oc) :: (l0, tupObj [.int c0.1 ta1, .int c0.2 ta2] na) :: (l1, tupObj [.int d0.1 tb1, .int d0.2 tb2] nb) :: (TG ++ (TT1 ++ (T2 ++ T3)))) := ⟨_, _, _, NG⟩
      refine LCg.CompEnd.intro FG N12 ((lo, listOf vs1.toArray (e + 1)) :: (LL + 1, oc) :: (((lg, tupObj [.int (d0.1 - c0.1) tg1, .int c0.2 tg2, .int d0.2 tg3] 0) :: TG) ++ (TT1 ++ (T2 ++ T3)))) ?_ ?_ trivial ⟨(lg, tupObj [.int (d0.1 - c0.1) tg1, .int c0.2 tg2, .int d0.2 tg3] 0) :: TG, _, rfl, List.forall_mem_cons.mpr ⟨rfl, hTG⟩, (hAG.mono fun p hp => List.mem_cons_of_mem _ hp).append (Are.one (a := (d0.1 - c0.1, c0.2, d0.2)) ⟨lg, tg1, tg2, tg3, 0, rfl, List.Mem.head _⟩), nearGapStep hG hc0 hc1⟩
      · intro p hp; simp at hp ⊢; rcases hp with h | h | h | h | h | h | h | h | h | h <;> simp [h]
      · exact ⟨off.1, off.2.1, ⟨(Nat.ne_of_lt mlg.1).symm, (Nat.ne_of_lt mlg.2.1).symm, (Nat.ne_of_lt mlg.2.2.1).symm⟩, off.2.2⟩
end
end
section
theorem lt_tup {a b : Int × Int} (h : kTup.lt a b = true) : a.1 < b.1 ∨ (a.1 = b.1 ∧ a.2 < b.2) := by
  simpa [kTup] using h
theorem nearSum {as : List (Int × Int)} {g : Int} (hg : ∀ (j : Nat) (c d : Int × Int), as[j]? = some c → as[j + 1]? = some d → g ≤ d.1 - c.1) {a0 : Int × Int} (h0 : as[0]? = some a0) : ∀ (j : Nat) (c : Int × Int), as[j]? = some c → g * j ≤ c.1 - a0.1
  | 0, c, hc => by rw [h0] at hc; cases hc; simp
  | j + 1, d, hd => by
    have hl : j < as.length := by have := (List.getElem?_eq_some_iff.mp hd).1; omega
    have hc := List.getElem?_eq_getElem hl
    have h1 := nearSum hg h0 j _ hc
    have h2 := hg j _ _ hc hd
    have e : g * ((j + 1 : Nat) : Int) = g * j + g := by rw [Int.natCast_add, Int.mul_add]; simp
    omega
theorem nearMain {top : Int} {bnd : Nat} {g o t : Int} (hb : 1 ≤ bnd) (h : NearSpec top bnd g o t) :
    0 ≤ g ∧ g * ((bnd : Int) + 1) ≤ 1000 ∧ 1 ≤ (o - t).natAbs ∧ (o - t).natAbs ≤ bnd ∧
    (((top * ((o - t).natAbs : Int)) % 1000 = g) ∨ ((top * ((o - t).natAbs : Int)) % 1000 = 1000 - g)) := by
  obtain ⟨as, ⟨hl, hs, hm⟩, k, a, b, ha, hb', rfl, rfl, rfl, hmin⟩ := h
  have hka : k + 1 < as.length := (List.getElem?_eq_some_iff.mp hb').1
  have hlt : kTup.lt a b = true := by
    have := List.pairwise_iff_getElem.mp hs k (k + 1) (by omega) hka (by omega)
    rw [(List.getElem?_eq_some_iff.mp ha).2, (List.getElem?_eq_some_iff.mp hb').2] at this
    exact this
  have hlt' := lt_tup hlt
  have h0l : 0 < as.length := by omega
  have hsum := nearSum hmin (List.getElem?_eq_getElem h0l) (bnd + 1) as[bnd + 1] (List.getElem?_eq_getElem (by omega))
  have hmA := (hm a).mp ((List.getElem?_eq_some_iff.mp ha).2 ▸ List.getElem_mem _)
  have hmB := (hm b).mp ((List.getElem?_eq_some_iff.mp hb').2 ▸ List.getElem_mem _)
  have bd : ∀ x ∈ as, 0 ≤ x.1 ∧ x.1 ≤ 1000 := fun x hx => by
    rcases (hm x).mp hx with rfl | ⟨t, _, rfl⟩
    · exact ⟨by decide, by decide⟩
    · exact ⟨Int.emod_nonneg _ (by decide), Int.le_of_lt (Int.emod_lt_of_pos _ (by decide))⟩
  have b1 := bd as[bnd + 1] (List.getElem_mem _)
  have b0 := bd as[0] (List.getElem_mem _)
  have hgs : (b.1 - a.1) * ((bnd : Int) + 1) ≤ 1000 := by
    have e : (((bnd + 1 : Nat) : Int)) = (bnd : Int) + 1 := by simp
    rw [e] at hsum
    omega
  have hg0 : 0 ≤ b.1 - a.1 := by omega
  have hg5 : b.1 - a.1 ≤ 500 := by
    have : (b.1 - a.1) * 2 ≤ (b.1 - a.1) * ((bnd : Int) + 1) := Int.mul_le_mul_of_nonneg_left (by omega) hg0
    omega
  refine ⟨hg0, hgs, ?_⟩
  rcases hmA with rfl | ⟨n1, hn1, rfl⟩
  · exfalso
    rcases hmB with rfl | ⟨n2, hn2, rfl⟩
    · simp at hlt'
    · have := Int.emod_lt_of_pos (top * n2) (b := 1000) (by decide)
      simp at hlt'
      omega
  · have q1 := Int.mul_ediv_add_emod (top * n1) 1000
    have p1 := Int.emod_nonneg (top * n1) (b := 1000) (by decide)
    have p2 := Int.emod_lt_of_pos (top * n1) (b := 1000) (by decide)
    rcases hmB with rfl | ⟨n2, hn2, rfl⟩
    · dsimp only at hlt' hg0 hg5 ⊢
      have hn : n1 ≠ 0 := fun e => by subst e; simp at hg5
      have e : ((n1 : Int) - 0).natAbs = n1 := by omega
      rw [e]
      omega
    · dsimp only at hlt' hg0 hg5 ⊢
      have q2 := Int.mul_ediv_add_emod (top * n2) 1000
      have p3 := Int.emod_nonneg (top * n2) (b := 1000) (by decide)
      have p4 := Int.emod_lt_of_pos (top * n2) (b := 1000) (by decide)
      have hn : n1 ≠ n2 := fun e => by subst e; omega
      generalize top * n1 / 1000 = d1 at *
      generalize top * n2 / 1000 = d2 at *
      rcases Nat.lt_or_ge n1 n2 with hc | hc
      · have e : (((n1 : Int) - n2).natAbs : Int) = (n2 : Int) - n1 := by omega
        have ep : top * (((n1 : Int) - n2).natAbs : Int) = top * n2 - top * n1 := by rw [e, Int.mul_sub]
        rw [ep]
        omega
      · have e : (((n1 : Int) - n2).natAbs : Int) = (n1 : Int) - n2 := by omega
        have ep : top * (((n1 : Int) - n2).natAbs : Int) = top * n1 - top * n2 := by rw [e, Int.mul_sub]
        rw [ep]
        omega
theorem thue (x : Int) (h0 : 1 ≤ x) (h1 : x ≤ 100) : ∃ i : Nat, i < 10 ∧ ((x * ((i + 1 : Nat) : Int)) % 101 ≤ 10 ∨ 91 ≤ (x * ((i + 1 : Nat) : Int)) % 101) := by
  have key : ∀ n : Fin 100, ∃ i : Fin 10, (((n.val + 1) * (i.val + 1)) % 101 ≤ 10 ∨ 91 ≤ ((n.val + 1) * (i.val + 1)) % 101) := by decide +kernel
  obtain ⟨i, hi⟩ := key ⟨(x - 1).toNat, by omega⟩
  refine ⟨i.val, i.isLt, ?_⟩
  have e : x = (((x - 1).toNat + 1 : Nat) : Int) := by omega
  rw [e, ← Int.natCast_mul]
  dsimp only at hi
  omega
end
section
theorem rangeSize_2 (len : Nat) : Builtin.Range.rangeSize 0 ((if (len : Int) < 8 then (len : Int) else 8) - 1) 2 = ((min 8 len / 2 : Nat) : Int) := by
  unfold Builtin.Range.rangeSize
  split <;> (try split) <;> omega
theorem bnd9 (x : Int) : 1 ≤ 1 + x.fmod 9 ∧ 1 + x.fmod 9 ≤ 9 := by
  have h1 := Int.fmod_nonneg_of_pos x (b := 9) (by decide)
  have h2 := Int.fmod_lt_of_pos x (b := 9) (by decide)
  omega
theorem intMid {prog : Program} {w : World} {A : Around} {E : Value → Shared → Prop} {s : Shared} {Q : Value → Shared → Prop} {t : Sem Value} (P : Int → Prop) (h : wpAny (model prog w) A t (fun v s' => ∃ nr tn tk2, v = .int nr tn ∧ P nr ∧ s' = { s with toks := tk2 }) E s) (k : ∀ nr tn tk2, P nr → Q (.int nr tn) { s with toks := tk2 }) : wpAny (model prog w) A t Q E s :=
  wpAny_mono h (fun _ _ ⟨nr, tn, tk2, e1, hp, e2⟩ => by rw [e1, e2]; exact k nr tn tk2 hp) fun _ _ x => x
theorem num100 (x : Int) : 1 ≤ 1 + x.fmod 100 ∧ 1 + x.fmod 100 ≤ 100 := by
  have h1 := Int.fmod_nonneg_of_pos x (b := 100) (by decide)
  have h2 := Int.fmod_lt_of_pos x (b := 100) (by decide)
  omega
theorem off3Re {I C D a b : Addr} {oI oC oD oa ob : Obj} {own T2 T3 T2' T3' : List (Addr × Obj)} (off : LCg.Off3 I C D ((a, oa) :: (b, ob) :: (own ++ (T2 ++ T3)))) (DS : Off (T2' ++ T3') ((I, oI) :: (C, oC) :: (D, oD) :: (a, oa) :: (b, ob) :: own)) : LCg.Off3 I C D ((a, oa) :: (b, ob) :: (own ++ (T2' ++ T3'))) := by
  refine LCg.Off3.of fun p hp => ?_
  have key : p ∈ (a, oa) :: (b, ob) :: own ∨ p ∈ T2' ++ T3' := by
    simp at hp ⊢
    rcases hp with h | h | h | h | h <;> simp [h]
  rcases key with h | h
  · exact LCg.Off3.mem off p (by simp at h ⊢; rcases h with h | h | h <;> simp [h])
  · exact ⟨DS p h _ (.head _), DS p h _ (.tail _ (.head _)), DS p h _ (.tail _ (.tail _ (.head _)))⟩
theorem offOwn {x1 x2 x3 x4 x5 : Addr × Obj} {own T : List (Addr × Obj)} (DS : Off T (x1 :: x2 :: x3 :: x4 :: x5 :: own)) : Off T own := fun p hp q hq => DS p hp q (.tail _ (.tail _ (.tail _ (.tail _ (.tail _ hq)))))
theorem small_2 (len : Nat) : Builtin.Range.small 0 ((if (len : Int) < 8 then (len : Int) else 8) - 1) 2 = true := by
  unfold Builtin.Range.small
  rw [rangeSize_2]
  simp only [Builtin.Range.rangeFitsLong, Bool.and_eq_true, Bool.or_eq_true, decide_eq_true_eq, beq_iff_eq, show (2 : Int) > 0 by decide, if_true]
  split <;> omega
section
local macro_rules | `(tactic| walk_at "spliced") => `(tactic| first | refine args_cons ?_ | refine args_nil ⟨Fr.keep (by assumption) _ _ (by assumption), ?_⟩ | (refine args_nil ?_; try simp only [List.cons_append, List.nil_append]))
local macro_rules | `(tactic| k_all) => `(tactic| first | assumption | ((with_reducible refine List.forall_mem_append.mpr ⟨?ka, ?kb⟩); (case ka => k_all); (case kb => k_all)))
local macro_rules | `(tactic| k_allIn) => `(tactic| ((with_reducible refine List.forall_mem_append.mpr ⟨?ka, ?kb⟩); (case ka => k_allIn); (case kb => k_allIn)))
local macro_rules | `(tactic| walk_at "exec For Name Call cons nil") => `(tactic| (k_here; (rename Fr _ _ _ _ => lF'); (with_unfolding_all refine' For_invVF lF' ?k1 ?k2 ?_; (case k1 => exact rfl); (case k2 => exact rfl); k_whole)))
local macro_rules | `(tactic| walk_at "pyIter ref") => `(tactic| (refine hold ?_))
local macro_rules | `(tactic| walk_at "call ref") => `(tactic| (refine hold ?_))
local macro_rules | `(tactic| walk_at "exec Assign cons ListComp") => `(tactic| (refine hold ?_))
local macro_rules | `(tactic| walk_at "CompSrc") => `(tactic| (refine hold ?_))
local macro_rules | `(tactic| walk_at "CompSrcT") => `(tactic| (refine hold ?_))
local macro_rules | `(tactic| walk_at "call builtin:min") => `(tactic| (k_here; (with_reducible show wpAny _ _ (call (Value.builtin _) [Value.ref _]) _ _ _); refine hold ?_))
local macro_rules | `(tactic| walk_at "compareOp Eq ref ref") => `(tactic| (refine hold ?_))
local macro_rules | `(tactic| walk_at "eval IfExp") => `(tactic| (refine hold ?_))
local macro_rules | `(tactic| walk_at "eval ListComp") => `(tactic| (refine hold ?_))
theorem cw : PySem.Challenge.rw_ga0003_03.Holds := hd (by
  w_strict (k_go0; (all_goals try k_fold); k_steps; skip)
  unfold Hold
  rename_i ww s0 s1 mg mb GG YY fa oo pm cd doc ho hcd hg XX VV TT BB TE TW ns hs0 hlay hLa hra hl2 wA1 wA2 la vs wA3 hLL ra w1 r0 hIA hr1 hc1 hc2 hDD h1 tk1 c1 c2 hd1 hd2 X0 Xh Th Kh lFh chd1 l0 hb tkb Fb Nb hc' tkc t1 u1 v1 hR F1 N1 hK
  k_dflt (refine iterRangeG (n := min 8 ns.length / 2) (news := (s1.heap.objs.size + 1 + 1, c1) :: (s1.heap.objs.size + 1, c2) :: ([(30, tabObj #[])] ++ [(37, tabObj #[])])) (fun i m news => ∃ (c1 c2 : Obj) (v1 v2 : Option Value) (T2 T3 : List (Addr × Obj)), news = (s1.heap.objs.size + 1 + 1, c1) :: (s1.heap.objs.size + 1, c2) :: (T2 ++ T3) ∧ c1.data = .cell v1 ∧ c2.data = .cell v2 ∧ Tab 30 32 4 qI2 T2 ∧ Tab 37 47 4 qI3 T3 ∧ Off T2 T3 ∧ m (Str.ofString "script") = some (.ref la)) rfl hR ?_ ?_ F1 (newsSub N1 ?_) ?_ ?_ ?_)
  · exact small_2 _
  · exact rangeSize_2 _
  · intro p hp; simp at hp ⊢; rcases hp with h | h | h | h <;> simp [h]
  · exact ⟨c1, c2, _, _, [(30, tabObj #[])], [(37, tabObj #[])], rfl, hd1, hd2, .inl rfl, .inl rfl, (fun p hp q hq e => by rw [List.mem_singleton.mp hp, List.mem_singleton.mp hq] at e; exact absurd e (by decide)), rfl⟩
  · rintro i ti m₁ news₁ h tk own hi ⟨c1, c2, v1, v2, T2, T3, rfl, hd1, hd2, hT2, hT3, hO, hms⟩ hOw F3 N3
    have ei : (0 : Int) + (i : Int) * 2 = ((2 * i : Nat) : Int) := by omega
    rw [ei] at F3
    have F4 := Fr.know F3 ((if_neg (by decide)).trans hms)
    have N4 := newsSub (xs := (s1.heap.objs.size + 1 + 1, c1) :: (s1.heap.objs.size + 1, c2) :: (own ++ (T2 ++ T3))) N3 (by intro p hp; simp at hp ⊢; rcases hp with h | h | h | h | h <;> simp [h])
    have hi2 : 2 * i + 1 < ns.length := by omega
    have y1 : ∀ p ∈ own, p.1 ≠ s1.heap.objs.size + 1 + 1 := fun p hp => hOw p hp _ (.head _)
    have y2 : ∀ p ∈ own, p.1 ≠ s1.heap.objs.size + 1 := fun p hp => hOw p hp _ (.tail _ (.head _))
    have y3 : ∀ p ∈ T2, p.1 ≠ s1.heap.objs.size + 1 + 1 := fun p hp => tagNe N4 (q := (s1.heap.objs.size + 1 + 1, c1)) (by simp [hp]) (by simp) (by rw [hT2.tags p hp, tag_cell hd1]; decide)
    have y4 : ∀ p ∈ T2, p.1 ≠ s1.heap.objs.size + 1 := fun p hp => tagNe N4 (q := (s1.heap.objs.size + 1, c2)) (by simp [hp]) (by simp) (by rw [hT2.tags p hp, tag_cell hd2]; decide)
    have y5 : ∀ p ∈ T3, p.1 ≠ s1.heap.objs.size + 1 + 1 := fun p hp => tagNe N4 (q := (s1.heap.objs.size + 1 + 1, c1)) (by simp [hp]) (by simp) (by rw [hT3.tags p hp, tag_cell hd1]; decide)
    have y6 : ∀ p ∈ T3, p.1 ≠ s1.heap.objs.size + 1 := fun p hp => tagNe N4 (q := (s1.heap.objs.size + 1, c2)) (by simp [hp]) (by simp) (by rw [hT3.tags p hp, tag_cell hd2]; decide)
    clear F1 N1 F3 N3 Fb Nb lFh
    k_steps
    unfold Hold
    rename_i dt hx1 lx1 hx2 FA' NA' hx3 oc2 do2 hx4 FA NA
    generalize hX : Int.fmod _ 1000 = top at *
    generalize hY : (1 : Int) + Int.fmod _ 9 = bz at *
    have ht0 : 0 ≤ top := hX ▸ Int.fmod_nonneg_of_pos _ (by decide)
    have ht1 : top < 1000 := hX ▸ Int.fmod_lt_of_pos _ (by decide)
    have hb0 : 1 ≤ bz := hY ▸ (bnd9 _).1
    have hb9 : bz ≤ 9 := hY ▸ (bnd9 _).2
    obtain ⟨bnd, rfl⟩ : ∃ bnd : Nat, bz = bnd := ⟨bz.toNat, by omega⟩
    have NB := newsSub (xs := (s1.heap.objs.size + 1 + 1, c1) :: (s1.heap.objs.size + 1, oc2) :: (own ++ (T2 ++ T3))) NA (by intro p hp; simp at hp ⊢; rcases hp with h | h | h | h | h <;> simp [h])
    clear FA' NA' NA
    k_dflt (refine' near_ctr top bnd _ _ T2 T3 hT2 hT3 hO ht0 ht1 (by omega) (by omega) _ _ _ _ _ _ _ _ _ _ _ _ _ _ _ ((s1.heap.objs.size + 1 + 1, c1) :: (s1.heap.objs.size + 1, oc2) :: own) _ _ ?q22xk1 ?q22xk2 ?q22xk3 ?q22xk4 ?q22xk5 ?q22xk6 ?q22xk7 ?q22xk8 ?q22xk9 ?q22xk10 ?q22xk11 ?q22xkR)
    case q22xk1 => k_asm
    case q22xk2 => assumption
    case q22xk3 => assumption
    case q22xk4 => k_asm
    case q22xk5 => k_asm
    case q22xk6 => exact newsSub NB (by intro p hp; simp at hp ⊢; rcases hp with h | h | h | h | h <;> simp [h])
    case q22xk7 => exact Off.symm (Off.cons (fun q hq => (List.mem_append.mp hq).elim (y3 q) (y5 q)) (Off.cons (fun q hq => (List.mem_append.mp hq).elim (y4 q) (y6 q)) (Off.subR hOw (by intro p hp; simp at hp ⊢; rcases hp with h | h <;> simp [h]))))
    case q22xk8 => k_asm
    case q22xk9 => first | exact rfl | assumption
    case q22xk10 => ktr_room
    case q22xk11 => ktr_units
    intro r hd' h' tk' F' N' D' ⟨ln, tn1, tn2, tn3, en, T2', T3', g, o, t, hr, ehd, hT2', hT3', hO', hS⟩
    subst hr ehd
    dsimp only
    have hM := nearMain (by omega) hS
    obtain ⟨hM0, hM1, hM2, hM3, hM4⟩ := hM
    have N5 := newsSub (xs := (ln, tupObj [.int g tn1, .int o tn2, .int t tn3] en) :: (s1.heap.objs.size + 1 + 1, c1) :: (s1.heap.objs.size + 1, oc2) :: (own ++ (T2' ++ T3'))) N' (by intro p hp; simp at hp ⊢; rcases hp with h | h | h | h | h | h <;> simp [h])
    clear N' NB
    clear y3 y4 y5 y6
    have y3 : ∀ p ∈ T2', p.1 ≠ s1.heap.objs.size + 1 + 1 := fun p hp => tagNe N5 (q := (s1.heap.objs.size + 1 + 1, c1)) (by simp [hp]) (by simp) (by rw [hT2'.tags p hp, tag_cell hd1]; decide)
    have y4 : ∀ p ∈ T2', p.1 ≠ s1.heap.objs.size + 1 := fun p hp => tagNe N5 (q := (s1.heap.objs.size + 1, oc2)) (by simp [hp]) (by simp) (by rw [hT2'.tags p hp, tag_cell do2]; decide)
    have y5 : ∀ p ∈ T3', p.1 ≠ s1.heap.objs.size + 1 + 1 := fun p hp => tagNe N5 (q := (s1.heap.objs.size + 1 + 1, c1)) (by simp [hp]) (by simp) (by rw [hT3'.tags p hp, tag_cell hd1]; decide)
    have y6 : ∀ p ∈ T3', p.1 ≠ s1.heap.objs.size + 1 := fun p hp => tagNe N5 (q := (s1.heap.objs.size + 1, oc2)) (by simp [hp]) (by simp) (by rw [hT3'.tags p hp, tag_cell do2]; decide)
    have hg5 : g ≤ 500 := by
      have : g * 2 ≤ g * ((bnd : Int) + 1) := Int.mul_le_mul_of_nonneg_left (by omega) hM0
      omega
    k_steps
    · exfalso
      rename_i e9
      split at e9 <;> omega
    unfold Hold
    rename_i gx1 gx2 gx3 gx4 gt1 gt2 gu gt3 gh FB NC gt4 elow
    generalize hlow : ite (o - t < 0) _ _ = low at *
    have hlow' : low = ((o - t).natAbs : Int) := by rw [← hlow]; split <;> omega
    rw [← hlow'] at hM4
    have hl1 : 1 ≤ low := by omega
    have hl2 : low ≤ bnd := by omega
    have hbt : Builtin.Int.intBits (top * low) ≤ 2 ^ 21 := by
      have h9 : top * low ≤ 1000 * 10 := Int.mul_le_mul (by omega) (by omega) (by omega) (by omega)
      have h8 : 0 ≤ top * low := Int.mul_nonneg ht0 (by omega)
      exact bits_small (by omega) (by omega)
    have NC' := newsSub (xs := (s1.heap.objs.size + 1 + 1, c1) :: (s1.heap.objs.size + 1, oc2) :: (own ++ (T2' ++ T3'))) NC (by intro p hp; simp at hp ⊢; rcases hp with h | h | h | h | h <;> simp [h])
    clear NC
    have hT2'O := hO'
    have DO : Off (T2' ++ T3') own := fun p hp q hq => D' p (.tail _ hp) q (.tail _ (.tail _ hq))
    clear D'
    k_dflt (refine' int_divmod_ctr (top * low) 1000 _ _ T2' T3' hT2' hT3' hT2'O (by decide) (by decide) hbt _ _ _ _ _ _ _ _ _ _ _ _ _ _ _ ((s1.heap.objs.size + 1 + 1, c1) :: (s1.heap.objs.size + 1, oc2) :: own) _ _ ?q23xk1 ?q23xk2 ?q23xk3 ?q23xk4 ?q23xk5 ?q23xk6 ?q23xk7 ?q23xk8 ?q23xk9 ?q23xk10 ?q23xk11 ?q23xkR)
    case q23xk1 => k_asm
    case q23xk2 => assumption
    case q23xk3 => assumption
    case q23xk4 => k_asm
    case q23xk5 => k_asm
    case q23xk6 => exact newsSub NC' (by intro p hp; simp at hp ⊢; rcases hp with h | h | h | h | h <;> simp [h])
    case q23xk7 => exact Off.symm (Off.cons (fun q hq => (List.mem_append.mp hq).elim (y3 q) (y5 q)) (Off.cons (fun q hq => (List.mem_append.mp hq).elim (y4 q) (y6 q)) (Off.symm DO)))
    case q23xk8 => k_asm
    case q23xk9 => first | exact rfl | assumption
    case q23xk10 => ktr_room
    case q23xk11 => ktr_units
    intro r hd' h' tk' F' N' D' ⟨lm, tm1, tm2, em, T2a, T3a, hr, ehd, hT2a, hT3a, hT2aO⟩
    subst hr ehd
    dsimp only
    have N6 := newsSub (xs := (lm, tupObj [.int ((top * low).fdiv 1000) tm1, .int ((top * low).fmod 1000) tm2] em) :: (s1.heap.objs.size + 1 + 1, c1) :: (s1.heap.objs.size + 1, oc2) :: (own ++ (T2a ++ T3a))) N' (by intro p hp; simp at hp ⊢; rcases hp with h | h | h | h | h | h <;> simp [h])
    clear N' NC'
    clear y3 y4 y5 y6
    have y3 : ∀ p ∈ T2a, p.1 ≠ s1.heap.objs.size + 1 + 1 := fun p hp => tagNe N6 (q := (s1.heap.objs.size + 1 + 1, c1)) (by simp [hp]) (by simp) (by rw [hT2a.tags p hp, tag_cell hd1]; decide)
    have y4 : ∀ p ∈ T2a, p.1 ≠ s1.heap.objs.size + 1 := fun p hp => tagNe N6 (q := (s1.heap.objs.size + 1, oc2)) (by simp [hp]) (by simp) (by rw [hT2a.tags p hp, tag_cell do2]; decide)
    have y5 : ∀ p ∈ T3a, p.1 ≠ s1.heap.objs.size + 1 + 1 := fun p hp => tagNe N6 (q := (s1.heap.objs.size + 1 + 1, c1)) (by simp [hp]) (by simp) (by rw [hT3a.tags p hp, tag_cell hd1]; decide)
    have y6 : ∀ p ∈ T3a, p.1 ≠ s1.heap.objs.size + 1 := fun p hp => tagNe N6 (q := (s1.heap.objs.size + 1, oc2)) (by simp [hp]) (by simp) (by rw [hT3a.tags p hp, tag_cell do2]; decide)
    have eP := Int.mul_fdiv_add_fmod (top * low) 1000
    have eR := fdmod (top * low)
    have eR1 := Int.fmod_nonneg_of_pos (top * low) (b := 1000) (by decide)
    have eR2 := Int.fmod_lt_of_pos (top * low) (b := 1000) (by decide)
    rw [← eR] at hM4
    generalize (top * low).fdiv 1000 = qq at *
    generalize (top * low).fmod 1000 = rr at *
    k_steps
    unfold Hold
    have DP : Off (T2a ++ T3a) own := fun p hp q hq => D' p (.tail _ hp) q (.tail _ (.tail _ hq))
    clear D' DO
    refine intMid (fun nr => top * low - nr * 1000 = g ∨ top * low - nr * 1000 = -g) ?_ ?_
    · refine IfExp_ ?_
      k_steps
      all_goals omega
    intro nr tn tk2 hnr
    k_steps
    · exfalso
      rename_i e9
      generalize hfar : (ite (top * low - nr * 1000 < 0) _ _ : Int) = far at e9
      have : far = g := by rw [← hfar]; split <;> omega
      subst this
      omega
    · exfalso
      rename_i e9
      generalize hfar : (ite (top * low - nr * 1000 < 0) _ _ : Int) = far at e9
      have : far = g := by rw [← hfar]; split <;> omega
      omega
    unfold Hold
    rename_i gy1 gy2 gy3 gyt gy4 gy5 gy6 gy7 FC ND gy8 e7 e8
    generalize hfar : (ite (top * low - nr * 1000 < 0) _ _ : Int) = far at *
    have NE := newsSub (xs := (s1.heap.objs.size + 1 + 1, c1) :: (s1.heap.objs.size + 1, oc2) :: (own ++ (T2a ++ T3a))) ND (by intro p hp; simp at hp ⊢; rcases hp with h | h | h | h | h <;> simp [h])
    clear ND
    k_dflt (refine LCg.ListComp_U (F₀ := FC) (by with_unfolding_all rfl) (by decide) (by rfl) (by decide) (by rfl) ?_)
    k_steps
    unfold Hold
    rename_i FC' NE' gz1 gz2 gz3 gz4 gz5 hR9 F9 N9 hK9
    k_dflt (refine LCg.CompSrc.range (n := bnd) (by rfl) F9 N9 hR9 (small_one (by omega) (by omega) (by omega) (by omega)) (rangeSize_k (by omega)) (by rw [sizeLine_eq]; omega) ?_)
    intro g9
    k_dflt (refine compInv (n := bnd) (fun i ys news => news = (s1.heap.objs.size + 1 + 1, c1) :: (s1.heap.objs.size + 1, oc2) :: (own ++ (T2a ++ T3a)) ∧ ∃ zs : List Int, IntsAre ys zs ∧ zs.length = i ∧ ∀ j : Nat, j < i → ∃ z, zs[j]? = some z ∧ z ≤ (top * ((j + 1 : Nat) : Int)) % 1000 ∧ z ≤ 1000 - (top * ((j + 1 : Nat) : Int)) % 1000) ?_ ?_ bnd 0 [] _ (by omega) ⟨rfl, [], .nil, rfl, fun j hj => absurd hj (Nat.not_lt_zero _)⟩)
    · rintro ys news ⟨rfl, zs, hzI, hzl, hz⟩
      unfold LCg.FinE
      intro DG hG1 tkG FG NG oG
      clear F9 N9 FC'
      dsimp only
      k_steps
      unfold Hold
      k_dflt (refine minG kInt (fun a => by simp [kInt]) (fun a b c h1 h2 => by simp [kInt] at *; omega) (by rfl) FG NG (List.Mem.head _) (Are.ints hzI) (by rw [hzl]; omega) (by first | ktr_units | decide) ?_)
      intro ix vx ax hhx tkx hvx hax hmin FX NX
      obtain ⟨tx, rfl⟩ := (Are.ints (T := []) hzI).2 ix vx ax hvx hax
      obtain ⟨z0, hz0, hz1, hz2⟩ := hz (low.toNat - 1) (by omega)
      have hzm := hmin _ z0 hz0
      have el : ((low.toNat - 1 + 1 : Nat) : Int) = low := by omega
      rw [el, ← eR] at hz1 hz2
      have hax' : ax ≤ far := by simp [kInt] at hzm; omega
      have NX2 := newsSub (xs := (s1.heap.objs.size + 1 + 1, c1) :: (s1.heap.objs.size + 1, oc2) :: (own ++ (T2a ++ T3a))) NX (fun p hp => List.mem_cons_of_mem _ hp)
      clear FG NG NX
      k_steps
      unfold Hold
      rename_i tq hhq oc1 FQ NQ dq
      generalize hNum : (1 : Int) + Int.fmod _ 100 = num at *
      have hn0 : 1 ≤ num := hNum ▸ (num100 _).1
      have hn9 : num ≤ 100 := hNum ▸ (num100 _).2
      obtain ⟨it, hit, hcond⟩ := thue num hn0 hn9
      k_dflt (refine LCt.Assign_ListComp_T (F₀ := FQ) (by rfl) (by with_unfolding_all rfl) (by with_unfolding_all rfl) (by decide) (by rfl) (by decide) (by rfl) (by rfl) (by rfl) ?_)
      k_steps
      unfold Hold
      rename_i FQ' NQ' gw1 gw2 gw3 gw4 gw5 hRw Fw Nw hKw
      k_dflt (refine LCt.CompSrcT.range (n := 10) (by rfl) Fw Nw hRw (small_one (by omega) (by omega) (by omega) (by omega)) (rangeSize_k (by omega)) (by rw [sizeLine_eq]; omega) ?_)
      intro g8
      k_dflt (refine compInvT (n := 10) (fun i ys news => ∃ T2 T3, news = (s1.heap.objs.size + 1 + 1, oc1) :: (s1.heap.objs.size + 1, oc2) :: (own ++ (T2 ++ T3)) ∧ Tab 30 32 4 qI2 T2 ∧ Tab 37 47 4 qI3 T3 ∧ Off T2 T3 ∧ Off (T2 ++ T3) own ∧ (∃ zs, IntsAre ys zs) ∧ ((∃ j : Nat, j < i ∧ ((num * ((j + 1 : Nat) : Int)) % 101 ≤ 10 ∨ 91 ≤ (num * ((j + 1 : Nat) : Int)) % 101)) → ys ≠ [])) ?_ ?_ 10 0 [] _ (by omega) ⟨T2a, T3a, rfl, hT2a, hT3a, hT2aO, DP, ⟨[], .nil⟩, fun ⟨j, h, _⟩ => absurd h (Nat.not_lt_zero _)⟩)
      · rintro ys news ⟨T2b, T3b, rfl, hT2b, hT3b, hT2bO, DB, ⟨zs, hzs⟩, hys⟩
        unfold LCg.FinA
        intro DG hG1 tkG FG NG oG
        have hne : ys ≠ [] := hys ⟨it, hit, hcond⟩
        clear Fw Nw FQ' NQ'
        dsimp only
        k_steps
        unfold Hold
        k_dflt (refine ke_eq_ints (News.isList (by k_asm) (List.mem_cons_of_mem _ (List.Mem.head _))) (News.isList (by k_asm) (List.Mem.head _)) hzs .nil (by first | ktr_units | decide) ?_)
        have ez : decide (zs = []) = false := by
          rw [decide_eq_false_iff_not]; rintro rfl
          cases hzs
          exact hne rfl
        rw [ez]
        rename_i hl8 hh8 F8 N8 ml8
        have N9 := newsSub (xs := (s1.heap.objs.size + 1 + 1, oc1) :: (s1.heap.objs.size + 1, oc2) :: (own ++ (T2b ++ T3b))) N8 (fun p hp => List.mem_cons_of_mem _ (List.mem_cons_of_mem _ hp))
        clear N8
        k_steps
        exact ⟨_, _, _, (s1.heap.objs.size + 1 + 1, oc1) :: (s1.heap.objs.size + 1, oc2) :: (T2b ++ T3b), rfl, F8, newsSub N9 (by intro p hp; simp at hp ⊢; rcases hp with h | h | h | h <;> simp [h]), Off.consR y1 (Off.consR y2 (Off.symm DB)), ⟨oc1, oc2, _, _, T2b, T3b, rfl, dq, do2, hT2b, hT3b, hT2bO, rfl⟩⟩
      · rintro j ys news v I oI C oC D m₂ h tk E' hj ⟨T2b, T3b, rfl, hT2b, hT3b, hT2bO, DB, ⟨zs, hzs⟩, hys⟩ ⟨tj, rfl⟩ hC hx F10 N10 off ne
        have ek : (1 : Int) + (j : Int) = ((j + 1 : Nat) : Int) := by omega
        rw [ek] at hx
        have hbt2 : Builtin.Int.intBits (num * ((j + 1 : Nat) : Int)) ≤ 2 ^ 21 := by
          have h9 : num * ((j + 1 : Nat) : Int) ≤ 1000 * 10 := Int.mul_le_mul (by omega) (by omega) (by omega) (by omega)
          have h8 : 0 ≤ num * ((j + 1 : Nat) : Int) := Int.mul_nonneg (by omega) (by omega)
          exact bits_small (by omega) (by omega)
        have DR : Off (T2b ++ T3b) ((I, oI) :: (C, oC) :: (D, LCg.lst ys) :: (s1.heap.objs.size + 1 + 1, oc1) :: (s1.heap.objs.size + 1, oc2) :: own) := Off.consR (fun p hp => (LCg.Off3.mem off p (by simp at hp ⊢; rcases hp with h | h <;> simp [h])).1) (Off.consR (fun p hp => (LCg.Off3.mem off p (by simp at hp ⊢; rcases hp with h | h <;> simp [h])).2.1) (Off.consR (fun p hp => (LCg.Off3.mem off p (by simp at hp ⊢; rcases hp with h | h <;> simp [h])).2.2) (Off.consR (fun p hp => tagNe N10 (q := (s1.heap.objs.size + 1 + 1, oc1)) (by simp at hp ⊢; rcases hp with h | h <;> simp [h]) (by simp) (by rw [tabs0 hT2b hT3b p hp, tag_cell dq]; decide)) (Off.consR (fun p hp => tagNe N10 (q := (s1.heap.objs.size + 1, oc2)) (by simp at hp ⊢; rcases hp with h | h <;> simp [h]) (by simp) (by rw [tabs0 hT2b hT3b p hp, tag_cell do2]; decide)) DB))))
        clear Fw Nw FQ' NQ'
        k_steps
        unfold Hold
        have eF : (num * ((j + 1 : Nat) : Int)).fmod 101 = (num * ((j + 1 : Nat) : Int)) % 101 := Int.fmod_eq_emod_of_nonneg _ (by decide)
        k_dflt (refine' int_divmod_ctr (num * ((j + 1 : Nat) : Int)) 101 _ _ T2b T3b hT2b hT3b hT2bO (by decide) (by decide) hbt2 _ _ _ _ _ _ _ _ _ _ _ _ _ _ _ ((I, oI) :: (C, oC) :: (D, LCg.lst ys) :: (s1.heap.objs.size + 1 + 1, oc1) :: (s1.heap.objs.size + 1, oc2) :: own) _ _ ?q24xk1 ?q24xk2 ?q24xk3 ?q24xk4 ?q24xk5 ?q24xk6 ?q24xk7 ?q24xk8 ?q24xk9 ?q24xk10 ?q24xk11 ?q24xkR)
        case q24xk1 => k_asm
        case q24xk2 => assumption
        case q24xk3 => assumption
        case q24xk4 => k_asm
        case q24xk5 => k_asm
        case q24xk6 => exact newsSub N10 (by intro p hp; simp at hp ⊢; rcases hp with h | h | h | h | h | h | h | h <;> simp [h])
        case q24xk7 => exact DR
        case q24xk8 => k_asm
        case q24xk9 => first | exact rfl | assumption
        case q24xk10 => ktr_room
        case q24xk11 => ktr_units
        intro r hd' h' tk' F' N' D' ⟨lc, tc1, tc2, ec, T2c, T3c, hr, ehd, hT2c, hT3c, hT2cO⟩
        subst hr ehd
        dsimp only
        have DSc : Off (T2c ++ T3c) ((I, oI) :: (C, oC) :: (D, LCg.lst ys) :: (s1.heap.objs.size + 1 + 1, oc1) :: (s1.heap.objs.size + 1, oc2) :: own) := fun p hp => D' p (.tail _ hp)
        have NNc := newsSub (xs := (lc, tupObj [.int ((num * ((j + 1 : Nat) : Int)).fdiv 101) tc1, .int ((num * ((j + 1 : Nat) : Int)).fmod 101) tc2] ec) :: (I, oI) :: (C, oC) :: (D, LCg.lst ys) :: (s1.heap.objs.size + 1 + 1, oc1) :: (s1.heap.objs.size + 1, oc2) :: (own ++ (T2c ++ T3c))) N' (by intro p hp; simp at hp ⊢; rcases hp with h | h | h | h | h | h | h | h | h <;> simp [h])
        clear N' D'
        k_steps
        · refine LCg.CompEnd.intro F' NNc ((s1.heap.objs.size + 1 + 1, oc1) :: (s1.heap.objs.size + 1, oc2) :: (own ++ (T2c ++ T3c))) (by intro p hp; simp at hp ⊢; rcases hp with h | h | h | h | h | h | h | h <;> simp [h]) (off3Re off DSc) trivial ⟨T2c, T3c, rfl, hT2c, hT3c, hT2cO, offOwn DSc, ⟨_, intsPush hzs⟩, fun _ => by simp⟩
        unfold Hold
        rename_i hno1 _ _ _
        clear F10
        k_dflt (refine' int_divmod_ctr (num * ((j + 1 : Nat) : Int)) 101 _ _ T2c T3c hT2c hT3c hT2cO (by decide) (by decide) hbt2 _ _ _ _ _ _ _ _ _ _ _ _ _ _ _ ((I, oI) :: (C, oC) :: (D, LCg.lst ys) :: (s1.heap.objs.size + 1 + 1, oc1) :: (s1.heap.objs.size + 1, oc2) :: own) _ _ ?q25xk1 ?q25xk2 ?q25xk3 ?q25xk4 ?q25xk5 ?q25xk6 ?q25xk7 ?q25xk8 ?q25xk9 ?q25xk10 ?q25xk11 ?q25xkR)
        case q25xk1 => k_asm
        case q25xk2 => assumption
        case q25xk3 => assumption
        case q25xk4 => k_asm
        case q25xk5 => k_asm
        case q25xk6 => exact newsSub NNc (by intro p hp; simp at hp ⊢; rcases hp with h | h | h | h | h | h | h | h <;> simp [h])
        case q25xk7 => exact DSc
        case q25xk8 => k_asm
        case q25xk9 => first | exact rfl | assumption
        case q25xk10 => ktr_room
        case q25xk11 => ktr_units
        intro r hd' h' tk' F' N' D' ⟨ld, td1, td2, ed, T2d, T3d, hr, ehd, hT2d, hT3d, hT2dO⟩
        subst hr ehd
        dsimp only
        have DSd : Off (T2d ++ T3d) ((I, oI) :: (C, oC) :: (D, LCg.lst ys) :: (s1.heap.objs.size + 1 + 1, oc1) :: (s1.heap.objs.size + 1, oc2) :: own) := fun p hp => D' p (.tail _ hp)
        have NNd := newsSub (xs := (ld, tupObj [.int ((num * ((j + 1 : Nat) : Int)).fdiv 101) td1, .int ((num * ((j + 1 : Nat) : Int)).fmod 101) td2] ed) :: (I, oI) :: (C, oC) :: (D, LCg.lst ys) :: (s1.heap.objs.size + 1 + 1, oc1) :: (s1.heap.objs.size + 1, oc2) :: (own ++ (T2d ++ T3d))) N' (by intro p hp; simp at hp ⊢; rcases hp with h | h | h | h | h | h | h | h | h <;> simp [h])
        clear N' D'
        k_steps
        · refine LCg.CompEnd.intro F' NNd ((s1.heap.objs.size + 1 + 1, oc1) :: (s1.heap.objs.size + 1, oc2) :: (own ++ (T2d ++ T3d))) (by intro p hp; simp at hp ⊢; rcases hp with h | h | h | h | h | h | h | h <;> simp [h]) (off3Re off DSd) trivial ⟨T2d, T3d, rfl, hT2d, hT3d, hT2dO, offOwn DSd, ⟨_, intsPush hzs⟩, fun _ => by simp⟩
        · rename_i hno2
          refine LCg.CompEnd.intro F' NNd ((s1.heap.objs.size + 1 + 1, oc1) :: (s1.heap.objs.size + 1, oc2) :: (own ++ (T2d ++ T3d))) (by intro p hp; simp at hp ⊢; rcases hp with h | h | h | h | h | h | h | h <;> simp [h]) (off3Re off DSd) trivial ⟨T2d, T3d, rfl, hT2d, hT3d, hT2dO, offOwn DSd, ⟨zs, hzs⟩, ?_⟩
          rintro ⟨j9, h9, hc9⟩
          rcases Nat.lt_or_ge j9 j with hc | hc
          · exact hys ⟨j9, hc, hc9⟩
          · have : j9 = j := by omega
            subst this
            omega
    · rintro j ys news v I oI C oC D m₂ h tk E' hj ⟨rfl, zs, hzI, hzl, hz⟩ ⟨tj, rfl⟩ hC hx F10 N10 off ne
      have ek : (1 : Int) + (j : Int) = ((j + 1 : Nat) : Int) := by omega
      rw [ek] at hx
      clear F9 N9 FC'
      k_steps
      rename_i hha tka FY NY
      refine LCg.CompEnd.intro FY NY ((s1.heap.objs.size + 1 + 1, c1) :: (s1.heap.objs.size + 1, oc2) :: (own ++ (T2a ++ T3a))) (fun p hp => hp) off trivial ⟨rfl, zs ++ [_], intsPush hzI, by rw [List.length_append, hzl]; rfl, ?_⟩
      intro j9 hj9
      rcases Nat.lt_or_ge j9 j with hc | hc
      · obtain ⟨z, hz1, hz2⟩ := hz j9 hc
        exact ⟨z, by rw [List.getElem?_append_left (by omega)]; exact hz1, hz2⟩
      · have : j9 = j := by omega
        subst this
        refine ⟨_, by rw [List.getElem?_append_right (by omega), hzl, Nat.sub_self]; rfl, ?_⟩
        have := fdmod (top * ((j9 + 1 : Nat) : Int))
        split <;> omega
  · rintro m₁ news₁ h tk ⟨c1, c2, v1, v2, T2, T3, rfl, hd1, hd2, hT2, hT3, hO, hms⟩ F3 N3
    clear F1 N1 Fb Nb lFh
    rcases hT2 with rfl | ⟨q1, o1, b1, tt1, rfl, e1, f1, g1⟩ <;> rcases hT3 with rfl | ⟨q2, o2, b2, tt2, rfl, e2, f2, g2⟩
    all_goals k_steps)
end
end
end Mine
theorem PySem.Challenge.cw_ga0003_03_holds : PySem.Challenge.rw_ga0003_03.Holds := by
  exact Mine.cw
