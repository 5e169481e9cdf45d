import PyProof.Rows.All
import Wide.All
import OpenK.AllK
import Wide.FinOn
import Lean
import PySem.Challenge.RW_hc0006_01
open PySem PySem.W PyProof.Rows
set_option Elab.async false
set_option rowWalk.seconds 0
namespace Mine
set_option maxRecDepth 100000 in
set_option maxHeartbeats 8000000 in
open_top hd for PySem.Challenge.rw_hc0006_01
end Mine
namespace Mine
section
open PySem PySem.W PySem.Calls PyProof.Rows

noncomputable abbrev PR : Program := PySem.Challenge.rw_hc0006_01.row.prog
noncomputable abbrev LO : List Str := (looseW hd.view_39 [Str.ofString "bisect_right", Str.ofString "insort_left", Str.ofString "bisect_left"] ++ List.map (fun x => x.name) (recsOf hd.view_39) ++
      List.map (fun x => x.fst) (litsOf hd.view_39) ++
    List.map (fun x => x.name) (clssOf hd.view_39 (looseW hd.view_39 [Str.ofString "bisect_right", Str.ofString "insort_left", Str.ofString "bisect_left"])))

/-- all that stood in h but for the addresses of small stands in h' -/
def KeptBut (small : List (Addr × Obj)) (h h' : Heap) : Prop := ∀ b o, h.get? b = some o → b ∉ small.map (·.1) → h'.get? b = some o
/-- an address free in g is one of small's or free in h -/
def FreeOf (small : List (Addr × Obj)) (h g : Heap) : Prop := ∀ b, g.get? b = none → b ∈ small.map (·.1) ∨ h.get? b = none

theorem hideAll_free : ∀ (l : List Addr) {h : Heap} {b : Addr}, (hideAll h l).get? b = none → b ∈ l ∨ h.get? b = none := by
  intro l h b e
  cases q : h.get? b with
  | none => exact .inr rfl
  | some o =>
    refine .inl ?_
    refine Classical.byContradiction fun hb => ?_
    rw [hideAll_get l q hb] at e
    cases e

section
variable {prog : Program} {w : World} {A A₀ : Around} {s : Shared} {K : Frag} {L : Addr} {h₀ base : Heap} {m mg mb : Str → Option Value} {small : List (Addr × Obj)} {p : Program} {loose : List Str} {mean : ExcName → Option Value}

theorem enterX {env : Env} {outer : List Env} {R : Result → Shared → Prop} {name qual : Str} {params : Arguments} {body : List Stmt} {scope : Scope} {cl : List (Str × Addr)} {dV kV doc pm cdv ct : Value} {an : Option Addr} {fo : Obj} {f : Addr} {args : Args} {binds : List (Str × Value)}
    (B : Below A₀ base outer h₀) (F : Fr h₀ L s.heap m) (X₀ : K.In h₀) (N : News h₀ L s.heap small) (T : Top p loose mean mg mb h₀) (hA : A.frames = some (env :: outer)) (hf : env.frame = some L) (hke : env.scope.kind = .function)
    (ho : s.heap.get? f = some fo) (hd : fo.data = .func (fnX name qual params body scope cl dV kV doc pm an cdv ct)) (hcd : s.heap.CodeRec cdv qual) (hroom : A.depth < recursionLimit)
    (hbind : BindsTo s (fnX name qual params body scope cl dV kV doc pm an cdv ct) args binds) (hloc : ∀ y ∈ binds, scope.names.lookup y.1 = some .local)
    (h : ∀ g L' h₁, Fr h₀ L g m → Fr g L' h₁ (fun y => binds.reverse.lookup y) → News g L' h₁ small → Below A base (env :: outer) g → K.In g → Top p loose mean mg mb g → (∀ p ∈ small, p.1 < L') → KeptBut small s.heap g → FreeOf small s.heap g →
      wpAny (model prog w) (A.deeper (envX qual scope L' f cdv cl)) (execs body (envX qual scope L' f cdv cl))
        (fun fl s' => LeaveK h₀ L m g (fun r s' => KeptBut small s.heap s'.heap → R r s') (match fl with | .ret v => v | _ => .none) s')
        (fun e s' => wpAny (model prog w) (A.deeper (envX qual scope L' f cdv cl)) (leaving (envX qual scope L' f cdv cl) e) (fun _ s'' => R (.error e) s'') (fun e' s'' => R (.error e') s'') s')
        { s with heap := h₁, toks := s.toks + binds.length })
    (hco : scope.isCoroutine = false) (hgen : scope.isGenerator = false) (hk : scope.kind = .function)
    (hcell : ∀ x ∈ scope.names, x.2 ≠ .cell) : codeAny (model prog w) A (.call (.ref f) args) R s := by
  obtain ⟨FG, BG, st, lv⟩ := groundX (R := fun r s' => KeptBut small s.heap s'.heap → R r s') B F N hA hf hke
  refine codeAny_call_def (fd := fnX name qual params body scope cl dV kV doc pm an cdv ct) (body := body) (binds := binds) hroom ho hd (T.nolimit.keeps F.keep) hcd rfl hbind hcell hloc (fun h₁ hns hk₁ => ?_) hco hgen hk
  have kb : KeptBut small s.heap (hideAll s.heap (small.map (·.1))) := fun b o e hb => hideAll_get _ e hb
  refine wpAny_mono (h _ s.heap.objs.size h₁ FG ⟨hns, fun b o e => hk₁ b o (of_hideAll _ e), Nat.le_of_eq (hideAll_size _ _)⟩
    (fun p hp => ⟨hk₁ _ _ (N p hp).1, Nat.ne_of_lt (Heap.lt_size (N p hp).1), hideAll_none _ (List.mem_map_of_mem hp)⟩) BG (X₀.keeps st) (T.keeps st) (fun p hp => Heap.lt_size (N p hp).1) kb (fun b => hideAll_free _)) (fun fl s' hl => ?_) fun _ _ y => y
  refine lv _ _ hl ?_
  obtain ⟨L', m', news', F', N', k⟩ := hl
  exact fun b o e hb => F'.keep b o (kb b o e hb)

theorem enterK {env : Env} {outer : List Env} {R : Result → Shared → Prop} {name qual : Str} {params : Arguments} {body : List Stmt} {scope : Scope} {dV kV doc pm cdv ct oc : Value} {an od : Option Addr} {osl : Array (Option Value)} {f : Addr} {args : Args} {binds : List (Str × Value)}
    (B : Below A₀ base outer h₀) (F : Fr h₀ L s.heap m) (X₀ : K.In h₀) (N : News h₀ L s.heap small) (T : Top p loose mean mg mb h₀) (hA : A.frames = some (env :: outer)) (hf : env.frame = some L) (hke : env.scope.kind = .function)
    (ho : K.lookup f = some ⟨oc, od, .func (fnOf name qual params body scope dV kV doc pm an cdv ct), osl⟩) (hcd : codeIn K cdv qual = true) (hroom : A.depth < recursionLimit)
    (hbind : BindsTo s (fnOf name qual params body scope dV kV doc pm an cdv ct) args binds) (hloc : ∀ y ∈ binds, scope.names.lookup y.1 = some .local)
    (h : ∀ g L' h₁, Fr h₀ L g m → Fr g L' h₁ (fun y => binds.reverse.lookup y) → News g L' h₁ small → Below A base (env :: outer) g → K.In g → Top p loose mean mg mb g → (∀ p ∈ small, p.1 < L') → KeptBut small s.heap g → FreeOf small s.heap g →
      wpAny (model prog w) (A.deeper (envOf qual scope L' f cdv)) (execs body (envOf qual scope L' f cdv))
        (fun fl s' => LeaveK h₀ L m g (fun r s' => KeptBut small s.heap s'.heap → R r s') (match fl with | .ret v => v | _ => .none) s')
        (fun e s' => wpAny (model prog w) (A.deeper (envOf qual scope L' f cdv)) (leaving (envOf qual scope L' f cdv) e) (fun _ s'' => R (.error e) s'') (fun e' s'' => R (.error e') s'') s')
        { s with heap := h₁, toks := s.toks + binds.length })
    (hco : scope.isCoroutine = false) (hgen : scope.isGenerator = false) (hk : scope.kind = .function)
    (hcell : ∀ x ∈ scope.names, x.2 ≠ .cell) : codeAny (model prog w) A (.call (.ref f) args) R s :=
  enterX (cl := []) B F X₀ N T hA hf hke ((X₀.keeps F.keep) _ _ ho) rfl (codeRec_of (X₀.keeps F.keep) hcd) hroom hbind hloc h hco hgen hk hcell

theorem enterCX {env : Env} {outer : List Env} {R : Result → Shared → Prop} {name qual : Str} {params : Arguments} {body : List Stmt} {scope : Scope} {dV kV doc pm cdv ct oc : Value} {an od : Option Addr} {osl : Array (Option Value)} {f : Addr} {args : Args} {binds : List (Str × Value)}
    (B : Below A₀ base outer h₀) (F : Fr h₀ L s.heap m) (X₀ : K.In h₀) (N : News h₀ L s.heap small) (T : Top p loose mean mg mb h₀) (hA : A.frames = some (env :: outer)) (hf : env.frame = some L) (hke : env.scope.kind = .function)
    (ho : K.lookup f = some ⟨oc, od, .func (fnOf name qual params body scope dV kV doc pm an cdv ct), osl⟩) (hcd : codeIn K cdv qual = true) (hroom : A.depth < recursionLimit)
    (hbind : BindsTo s (fnOf name qual params body scope dV kV doc pm an cdv ct) args binds) (hkind : (binds.all fun y => scope.names.lookup y.1 == some .local || scope.names.lookup y.1 == some .cell) = true)
    (hnd : ((cellsFrom 0 scope.names []).map (·.1)).Nodup)
    (h : ∀ g L' h₁ tk cells, Fr h₀ L g m → Fr g L' h₁ (bindL (envOfC qual scope L' f cdv).kindOf binds fun _ => none) → News g L' h₁ (cells ++ small) →
      CellsAre (bindC (envOfC qual scope L' f cdv).kindOf binds fun _ => none) (cellsFrom (L' + 1) scope.names []) cells → Below A base (env :: outer) g → K.In g → Top p loose mean mg mb g → (∀ p ∈ small, p.1 < L') → KeptBut small s.heap g → FreeOf small s.heap g →
      wpAny (model prog w) (A.deeper (envOfC qual scope L' f cdv)) (execs body (envOfC qual scope L' f cdv))
        (fun fl s' => LeaveK h₀ L m g (fun r s' => KeptBut small s.heap s'.heap → R r s') (match fl with | .ret v => v | _ => .none) s')
        (fun e s' => wpAny (model prog w) (A.deeper (envOfC qual scope L' f cdv)) (leaving (envOfC qual scope L' f cdv) e) (fun _ s'' => R (.error e) s'') (fun e' s'' => R (.error e') s'') s')
        { s with heap := h₁, toks := tk })
    (hco : scope.isCoroutine = false) (hgen : scope.isGenerator = false) (hk : scope.kind = .function) : codeAny (model prog w) A (.call (.ref f) args) R s := by
  obtain ⟨FG, BG, st, lv⟩ := groundX (R := fun r s' => KeptBut small s.heap s'.heap → R r s') B F N hA hf hke
  refine codeAny_call_function (fd := fnOf name qual params body scope dV kV doc pm an cdv ct) hroom ((X₀.keeps F.keep) _ _ ho) rfl hco hgen rfl (codeRec_of (X₀.keeps F.keep) hcd) (hbind _ _ _ _ ?_)
  refine wpAny_newFunctionEnv_cells hk (kindsX hkind _) fun env' he s' x => ?_
  subst he
  refine ⟨(T.nolimit.keeps F.keep).keeps x.toInCall.keep, codeAny_func ?_⟩
  obtain ⟨h₁, tk, rfl, _⟩ := x.done
  have old := x.toInCall.keep
  have kb : KeptBut small s.heap (hideAll s.heap (small.map (·.1))) := fun b o e hb => hideAll_get _ e hb
  obtain ⟨cells, NC, Y⟩ := Cl.news (h₀ := s.heap) (Nat.le_refl _) fun n c hm => ⟨x.cell n c (lookup_of_mem_nodup (cellsFrom_names scope.names 0 (s.heap.objs.size + 1) [] [] rfl ▸ hnd) hm), x.above n c hm⟩
  have NN : News (hideAll s.heap (small.map (·.1))) s.heap.objs.size h₁ (cells ++ small) := fun p hp => by
    rcases List.mem_append.mp hp with hp | hp
    · refine ⟨(NC p hp).1, (NC p hp).2.1, ?_⟩
      cases q : (hideAll s.heap (small.map (·.1))).get? p.1 with
      | none => rfl
      | some o => have e := of_hideAll _ q; rw [(NC p hp).2.2] at e; cases e
    · exact ⟨old _ _ (N p hp).1, Nat.ne_of_lt (Heap.lt_size (N p hp).1), hideAll_none _ (List.mem_map_of_mem hp)⟩
  refine wpAny_mono (h _ s.heap.objs.size h₁ tk cells FG ⟨x.toInCall.ns, fun b o e => old b o (of_hideAll _ e), Nat.le_of_eq (hideAll_size _ _)⟩ NN Y BG (X₀.keeps st) (T.keeps st) (fun p hp => Heap.lt_size (N p hp).1) kb (fun b => hideAll_free _)) (fun fl s' hl => ?_) fun _ _ y => y
  refine lv _ _ hl ?_
  obtain ⟨L', m', news', F', N', k⟩ := hl
  exact fun b o e hb => F'.keep b o (kb b o e hb)
end

/-- contract of a call: with the ledger `small` ahead; `Pre` asked of every heap that keeps all but small -/
def Ctr (w : World) (mean : ExcName → Option Value) (mg mb : Str → Option Value) (f : Addr) (dd uu : Nat) (args : List Value) (small : List (Addr × Obj)) (Pre : Heap → Prop) (Post : Value → List (Addr × Obj) → Prop) : Prop :=
  ∀ (dp un : Nat) (gd : Option (List Code)) (cn : Str) (cs : Scope) (a : Addr) (ccd : Value) (cl : List (Str × Addr)) (outer : List Env) (A₀ : Around) (base h₀ : Heap) (L : Addr) (m : Str → Option Value)
    (s : Shared) (Q E : Value → Shared → Prop),
    Below A₀ base outer h₀ → Fr h₀ L s.heap m → (hd.heap_39 w.params).In h₀ → News h₀ L s.heap small → Top topProg LO mean mg mb h₀ → cs.kind = .function → (∀ g, KeptBut small s.heap g → Pre g) → dp + dd < recursionLimit → un + uu < cLine →
    (∀ v new h' tk', Post v new → Fr h₀ L h' m → News h₀ L h' new → KeptBut small s.heap h' → (∀ p ∈ new, p.1 ∈ small.map (·.1) ∨ s.heap.get? p.1 = none) → Q v { s with heap := h', toks := tk' }) →
    wpAny (model PR w) (ktrTop dp un gd cn cs L a ccd cl outer) (call (.ref f) args) Q E s
end
end Mine
namespace Mine
section
open PySem PySem.W PySem.Calls PyProof.Rows

/-- the list ns with the places from l to r written by the digits of x in base 2^n -/
def wri (ns : List Int) (l r n x : Nat) : List Int :=
  (List.range ns.length).map fun i => if l ≤ i ∧ i < r then ((x / 2 ^ (n * (i - l)) % 2 ^ n : Nat) : Int) else ns.getD i 0
theorem wri_length (ns : List Int) (l r n x : Nat) : (wri ns l r n x).length = ns.length := by simp [wri]
theorem wri_get {ns : List Int} {l r n x i : Nat} (hi : i < ns.length) : (wri ns l r n x)[i]'(by rw [wri_length]; exact hi) = if l ≤ i ∧ i < r then ((x / 2 ^ (n * (i - l)) % 2 ^ n : Nat) : Int) else ns[i] := by
  simp only [wri, List.getElem_map, List.getElem_range]
  split
  · rfl
  · rw [List.getD_eq_getElem?_getD, List.getElem?_eq_getElem hi]; rfl
theorem wri_leaf {ns : List Int} {l n x : Nat} (hx : x < 2 ^ n) : ns.set l (x : Int) = wri ns l (l + 1) n x := by
  refine List.ext_getElem (by rw [wri_length, List.length_set]) fun i h1 h2 => ?_
  rw [List.length_set] at h1
  rw [wri_get h1, List.getElem_set]
  by_cases e : l = i
  · subst e
    rw [if_pos rfl, if_pos ⟨Nat.le_refl _, Nat.lt_succ_self _⟩]
    simp [Nat.mod_eq_of_lt hx]
  · rw [if_neg e, if_neg (by omega)]
theorem wri_step {ns : List Int} {l m r n x : Nat} (h1 : l < m) (h2 : m < r) :
    wri (wri ns l m n (x % 2 ^ ((m - l) * n))) m r n (x / 2 ^ ((m - l) * n)) = wri ns l r n x := by
  refine List.ext_getElem (by simp only [wri_length]) fun i hi hj => ?_
  rw [wri_length, wri_length] at hi
  rw [wri_get (by rw [wri_length]; exact hi), wri_get hi, wri_get hi]
  by_cases a : m ≤ i ∧ i < r
  · rw [if_pos a, if_pos (by omega)]
    congr 2
    rw [Nat.div_div_eq_div_mul, ← Nat.pow_add]
    congr 2
    rw [Nat.mul_comm (m - l) n, ← Nat.mul_add]
    congr 1
    omega
  · rw [if_neg a]
    by_cases b : l ≤ i ∧ i < m
    · rw [if_pos b, if_pos (by omega)]
      congr 1
      have e1 : (m - l) * n = n * (i - l) + n + (m - l - (i - l) - 1) * n := by
        have e2 : m - l = (i - l) + 1 + (m - l - (i - l) - 1) := by omega
        conv => lhs; rw [e2]
        rw [Nat.add_mul, Nat.add_mul, Nat.one_mul, Nat.mul_comm (i - l) n]
      rw [e1, Nat.pow_add, Nat.pow_add, Nat.mul_assoc, Nat.mod_mul_right_div_self, Nat.mod_mul_right_mod]
    · rw [if_neg b, if_neg (by omega)]

theorem and_high (x s : Nat) : x &&& (x / 2 ^ s * 2 ^ s) = x / 2 ^ s * 2 ^ s := by
  refine Nat.eq_of_testBit_eq fun i => ?_
  rw [Nat.testBit_and, Nat.testBit_mul_two_pow]
  by_cases h : s ≤ i
  · rw [Nat.testBit_div_two_pow]
    have e : i - s + s = i := by omega
    simp [h, e]
  · simp [h]
theorem xor_low (x s : Nat) : Builtin.bitXor (x : Int) ((x / 2 ^ s : Nat) * ((2 ^ s : Nat) : Int)) = ((x % 2 ^ s : Nat) : Int) := by
  rw [bitXor_and, ← Int.natCast_mul]
  have e : Builtin.bitAnd (x : Int) ((x / 2 ^ s * 2 ^ s : Nat) : Int) = ((x / 2 ^ s * 2 ^ s : Nat) : Int) := by
    unfold Builtin.bitAnd
    simp only [Int.natCast_nonneg, decide_true, Int.toNat_natCast]
    rw [and_high]
  rw [e]
  have := Nat.div_add_mod x (2 ^ s)
  rw [Nat.mul_comm] at this
  omega

theorem mid_eq (l r : Nat) : ((l : Int) + (r : Int)).fdiv (2 ^ Int.toNat 1) = (((l + r) / 2 : Nat) : Int) := by
  rw [Int.fdiv_eq_ediv_of_nonneg _ (by decide)]
  simp
theorem sh_eq {l r n : Nat} (h : l < r) : ((((l + r) / 2 : Nat) : Int) - (l : Int)) * (n : Int) = ((((l + r) / 2 - l) * n : Nat) : Int) := by
  rw [Int.natCast_mul, Int.natCast_sub (by omega)]
theorem up_eq (x s : Nat) : (x : Int).fdiv (2 ^ ((s : Nat) : Int).toNat) = ((x / 2 ^ s : Nat) : Int) := by
  rw [Int.toNat_natCast, Int.fdiv_eq_ediv_of_nonneg _ (Int.le_of_lt (Int.pow_pos (by decide)))]
  simp
theorem lo_eq (x s : Nat) : Builtin.bitXor (x : Int) (((x / 2 ^ s : Nat) : Int) * 2 ^ ((s : Nat) : Int).toNat) = ((x % 2 ^ s : Nat) : Int) := by
  rw [Int.toNat_natCast, ← xor_low]
  simp
end
end Mine
namespace Mine
section
open PySem PySem.W PySem.Calls PyProof.Rows
abbrev cellOf (v : Value) (o : Obj) : Prop := o.data = .cell (some v)
abbrev ledI (f : Addr) (fo : Obj) (c : Addr) (oc : Obj) (D : Addr) (od : Obj) (ci : Addr) (oi : Obj) (ca : Addr) (oa : Obj) (cn : Addr) (on : Obj) : List (Addr × Obj) :=
  [(f, fo), (c, oc), (D, od), (ci, oi), (ca, oa), (cn, on)]

theorem kept_get {g h g2 : Heap} {L : Addr} {m : Str → Option Value} {small : List (Addr × Obj)} (F : Fr g L h m) (N : News g L h small) (K : KeptBut small h g2) : ∀ b o, g.get? b = some o → g2.get? b = some o := fun b o e => by
  refine K b o (F.keep b o e) fun hb => ?_
  obtain ⟨p, hp, rfl⟩ := List.mem_map.mp hb
  rw [(N p hp).2.2] at e; cases e
theorem kcases {K : Frag} {a : Addr} {o o' : Obj} {P : Prop} (h : K.lookup a = some o) (e : K.lookup a = some o') (k : o' = o → P) : P := by
  rw [h] at e; exact k (Option.some.inj e).symm

theorem ki_set_some : ∀ {its : List Value} {k : Nat} {v : Value}, k < its.length → ki_setL its k v = some (its.set k v)
  | [], _, _, h => absurd h (Nat.not_lt_zero _)
  | _ :: _, 0, _, _ => rfl
  | x :: r, k + 1, v, h => by
    show (match ki_setL r k v with | some q => some (x :: q) | none => none) = _
    rw [ki_set_some (Nat.lt_of_succ_lt_succ h)]; rfl
theorem intsAre_set : ∀ {vs : List Value} {ns : List Int}, IntsAre vs ns → ∀ (k : Nat) (x : Int) (t : Tok), IntsAre (vs.set k (.int x t)) (ns.set k x)
  | _, _, .nil, _, _, _ => .nil
  | _, _, .cons _ _ h, 0, _, _ => .cons _ _ h
  | _, _, .cons _ _ h, k + 1, x, t => .cons _ _ (intsAre_set h k x t)
section
variable {prog : Program} {w : World} {A : Around} {E : Value → Shared → Prop} {s : Shared} {h₀ : Heap} {L : Addr} {m : Str → Option Value} {news news' : List (Addr × Obj)}
theorem setInts {D : Addr} {vs : List Value} {ns : List Int} {n : Nat} {k x : Int} {t u : Tok} {Q : Unit → Shared → Prop} (F : Fr h₀ L s.heap m) (N : News h₀ L s.heap news)
    (U : Upd D (W.listOf vs.toArray n) (W.listOf (vs.set k.toNat (.int x u)).toArray n) news news') (hI : IntsAre vs ns) (h0 : 0 ≤ k) (h1 : k < (ns.length : Int)) (h2 : ns.length < 2 ^ 62)
    (h : ∀ h', Fr h₀ L h' m → News h₀ L h' news' → IntsAre (vs.set k.toNat (.int x u)) (ns.set k.toNat x) → Q () { s with heap := h' }) : wpAny (model prog w) A (setItem (.ref D) (.int k t) (.int x u)) Q E s :=
  ki_set F N h0 (by omega) (by show ki_setL vs k.toNat (.int x u) = _; exact ki_set_some (by rw [hI.length]; omega)) U fun h' F' N' => h h' F' N' (intsAre_set hI _ _ _)
end

theorem notIn_cons {a b : Nat} {l : List Nat} (h : a ≠ b) (h2 : a ∉ l) : a ∉ b :: l := fun q => (List.mem_cons.mp q).elim h h2
theorem news_more {h₀ h h' : Heap} {L : Addr} {small led new : List (Addr × Obj)} {p : Addr × Obj} (N : News h₀ L h led) (K : KeptBut small h h') (N' : News h₀ L h' new) (hp : p ∈ led) (hn : p.1 ∉ small.map (·.1)) : News h₀ L h' (p :: new) := fun q hq => by
  rcases List.mem_cons.mp hq with rfl | hq
  · exact ⟨K _ _ (N _ hp).1 hn, (N _ hp).2⟩
  · exact N' q hq
theorem news_sub {h₀ h : Heap} {L : Addr} {led l : List (Addr × Obj)} (N : News h₀ L h led) (hs : ∀ p ∈ l, p ∈ led) : News h₀ L h l := fun p hp => N p (hs p hp)
theorem Ctr.use {w : World} {mean : ExcName → Option Value} {mg mb : Str → Option Value} {f : Addr} {dd uu : Nat} {args : List Value} {small led : List (Addr × Obj)} {Pre : Heap → Prop} {Post : Value → List (Addr × Obj) → Prop} (C : Ctr w mean mg mb f dd uu args small Pre Post)
    {dp un : Nat} {gd : Option (List Code)} {cn : Str} {cs : Scope} {a : Addr} {ccd : Value} {cl : List (Str × Addr)} {outer : List Env} {A₀ : Around} {base h₀ : Heap} {L : Addr} {m : Str → Option Value} {s : Shared} {Q E : Value → Shared → Prop}
    (B : Below A₀ base outer h₀) (F : Fr h₀ L s.heap m) (X : (hd.heap_39 w.params).In h₀) (N : News h₀ L s.heap led) (T : Top topProg LO mean mg mb h₀) (hk : cs.kind = .function)
    (hs : ∀ p ∈ small, p ∈ led) (hpre : ∀ g, KeptBut small s.heap g → Pre g) (hdd : dp + dd < recursionLimit) (huu : un + uu < cLine) (rest : List (Addr × Obj)) (hr : ∀ p ∈ rest, p ∈ led ∧ p.1 ∉ small.map (·.1))
    (ret : ∀ v new h' tk', Post v new → Fr h₀ L h' m → News h₀ L h' (new ++ rest) → (∀ p ∈ new, ∀ q ∈ rest, @Ne Nat p.1 q.1) → Q v { s with heap := h', toks := tk' }) :
    wpAny (model PR w) (ktrTop dp un gd cn cs L a ccd cl outer) (call (.ref f) args) Q E s := by
  refine C _ _ _ _ _ _ _ _ _ _ _ _ _ _ _ _ _ B F X (fun p hp => N p (hs p hp)) T hk hpre hdd huu fun v new h' tk' hp F' N' K' fr => ?_
  refine ret v new h' tk' hp F' (fun p hp => ?_) fun p hp q hq e => ?_
  · rcases List.mem_append.mp hp with hp | hp
    · exact N' p hp
    · obtain ⟨h1, h2⟩ := hr p hp
      exact ⟨K' _ _ (N p h1).1 h2, (N p h1).2⟩
  · obtain ⟨h1, h2⟩ := hr q hq
    rcases fr p hp with h | h
    · exact h2 (e ▸ h)
    · have := (N q h1).1
      rw [← show p.1 = q.1 from e, h] at this; cases this
abbrev StTab := Option ((Addr × Obj) × (Addr × Obj))
/-- the ledger's part that keeps a code object's table of made codes -/
def tabL (P : Addr) (line col : Int) : Option (Addr × Obj) → List (Addr × Obj)
  | none => [(P, tabObj #[])]
  | some (c, oc) => [(P, tabObj #[rawInt line, rawInt col, .ref c]), (c, oc)]
def TabOk (P : Addr) (ql : Str) : Option (Addr × Obj) → Prop
  | none => True
  | some (c, oc) => @Ne Nat c P ∧ ∃ vs t, oc.data = .fields vs ∧ vs[1]? = some (.str ql t)
theorem tabOk_some {P c : Addr} {ql ql' : Str} {oc : Obj} {vs : Array Value} {t : Tok} (h : @Ne Nat c P) (h1 : oc.data = .fields vs) (h2 : vs[1]? = some (.str ql' t)) (e : ql' = ql) : TabOk P ql (some (c, oc)) := by
  subst e
  exact ⟨h, vs, t, h1, h2⟩
end
end Mine
namespace Mine
section
open PySem PySem.W PySem.Calls PyProof.Rows
def nd (a n : Nat) : Nat := (a.log2 + n) / n
def dig (a n k : Nat) : List Int := (List.range k).map fun i => ((a / 2 ^ (n * i) % 2 ^ n : Nat) : Int)
theorem dig_length (a n k : Nat) : (dig a n k).length = k := by simp [dig]
theorem wri_dig {ns : List Int} {n a k : Nat} (h : ns.length = k) : wri ns 0 k n a = dig a n k := by
  subst h
  refine List.ext_getElem (by rw [wri_length, dig_length]) fun i h1 h2 => ?_
  rw [wri_length] at h1
  rw [wri_get h1, if_pos ⟨Nat.zero_le _, h1⟩]
  simp [dig]
theorem bits_eq {a : Nat} (h : 0 < a) : (Builtin.Int.intBits (a : Int) : Int) = ((a.log2 + 1 : Nat) : Int) := by
  unfold Builtin.Int.intBits
  have e : (((a : Int) == 0) = true) = False := by simp; omega
  simp only [e, if_false, Int.natAbs_natCast]
theorem nd_eq {a n : Nat} (h : 0 < a) : ((Builtin.Int.intBits (a : Int) : Int) + (n : Int) - 1).fdiv (n : Int) = ((nd a n : Nat) : Int) := by
  rw [bits_eq h, Int.fdiv_eq_ediv_of_nonneg _ (Int.natCast_nonneg _)]
  have e : ((a.log2 + 1 : Nat) : Int) + (n : Int) - 1 = ((a.log2 + n : Nat) : Int) := by omega
  rw [e, ← Int.natCast_ediv, nd]
theorem nd_pos {a n : Nat} (hn : 0 < n) : 0 < nd a n := Nat.div_pos (by omega) hn
theorem nd_pow {a n : Nat} (hn : 0 < n) : a < 2 ^ (n * nd a n) := by
  have h1 : a < 2 ^ (a.log2 + 1) := by
    rcases Nat.eq_zero_or_pos a with rfl | h
    · exact Nat.pow_pos (by decide)
    · exact (Nat.log2_lt (by omega)).mp (Nat.lt_succ_self _)
  refine Nat.lt_of_lt_of_le h1 (Nat.pow_le_pow_right (by decide) ?_)
  have := Nat.lt_div_mul_add hn (a := a.log2 + n)
  have e : (a.log2 + n) / n * n = n * nd a n := by rw [nd, Nat.mul_comm]
  omega
theorem log2_lt6 {a : Nat} (h : a < 64) : a.log2 < 6 := by
  rcases Nat.eq_zero_or_pos a with rfl | h0
  · decide
  · exact (Nat.log2_lt (by omega)).mpr h
theorem nd_le {a n : Nat} (h : a < 64) (hn : 0 < n) : nd a n ≤ 6 := by
  have h2 := log2_lt6 h
  refine Nat.le_trans (Nat.div_le_div_right (c := n) (b := 5 + n) (by omega)) ?_
  rw [Nat.add_div_right _ hn]
  exact Nat.succ_le_succ (Nat.div_le_self 5 n)
theorem rep_flat (k : Nat) : (List.replicate k [(0 : Int)]).flatten.length = k := by
  induction k with
  | zero => rfl
  | succ k ih => rw [List.replicate_succ, List.flatten_cons, List.length_append, ih]; simp; omega
end
end Mine
namespace Mine
section
open PySem PySem.W PySem.Calls PyProof.Rows
def und (n : Nat) : List Int → Int
  | [] => 0
  | d :: ds => d + 2 ^ n * und n ds
def slc (ns : List Int) (l r : Nat) : List Int := (ns.drop l).take (r - l)
theorem und_append (n : Nat) : ∀ (a b : List Int), und n (a ++ b) = und n a + 2 ^ (n * a.length) * und n b
  | [], b => by simp [und]
  | d :: ds, b => by
    show d + 2 ^ n * und n (ds ++ b) = d + 2 ^ n * und n ds + _
    rw [und_append n ds b, List.length_cons, Nat.mul_succ, Nat.add_comm, Int.pow_add, Int.mul_add, Int.mul_assoc]
    omega
theorem und_nonneg {n : Nat} : ∀ {a : List Int}, (∀ d ∈ a, 0 ≤ d) → 0 ≤ und n a
  | [], _ => Int.le_refl _
  | d :: ds, h => by
    have h1 := h d (.head _)
    have h2 := und_nonneg (n := n) fun x hx => h x (.tail _ hx)
    have h3 : (0 : Int) ≤ 2 ^ n := Int.le_of_lt (Int.pow_pos (by decide))
    have := Int.mul_nonneg h3 h2
    show 0 ≤ d + 2 ^ n * und n ds
    omega
theorem slc_split {ns : List Int} {l m r : Nat} (h1 : l ≤ m) (h2 : m ≤ r) : slc ns l r = slc ns l m ++ slc ns m r := by
  unfold slc
  have e1 : r - l = (m - l) + (r - m) := by omega
  rw [e1, List.take_add, List.drop_drop]
  congr 3
  omega
theorem slc_len {ns : List Int} {l r : Nat} (h2 : r ≤ ns.length) : (slc ns l r).length = r - l := by
  unfold slc
  rw [List.length_take, List.length_drop]; omega
theorem und_split {ns : List Int} {n l m r : Nat} (h1 : l ≤ m) (h2 : m ≤ r) (h3 : r ≤ ns.length) : und n (slc ns l r) = und n (slc ns m r) * 2 ^ ((m - l) * n) + und n (slc ns l m) := by
  rw [slc_split h1 h2, und_append, slc_len (by omega), Nat.mul_comm n, Int.mul_comm, Int.add_comm]
theorem slc_one {ns : List Int} {l : Nat} (h : l < ns.length) : slc ns l (l + 1) = [ns[l]] := by
  unfold slc
  rw [Nat.add_sub_cancel_left, List.drop_eq_getElem_cons h]; rfl
theorem mem_slc {ns : List Int} {l r : Nat} {d : Int} (h : d ∈ slc ns l r) : d ∈ ns := List.mem_of_mem_drop (List.mem_of_mem_take h)
theorem und_le_append {n : Nat} {a b : List Int} (ha : ∀ d ∈ a, 0 ≤ d) (hb : ∀ d ∈ b, 0 ≤ d) : und n a ≤ und n (a ++ b) ∧ und n b ≤ und n (a ++ b) := by
  rw [und_append]
  have h1 := und_nonneg (n := n) ha
  have h2 := und_nonneg (n := n) hb
  have h3 : (1 : Int) ≤ 2 ^ (n * a.length) := Int.pow_pos (by decide)
  have h4 : und n b * 1 ≤ und n b * 2 ^ (n * a.length) := Int.mul_le_mul_of_nonneg_left h3 h2
  rw [Int.mul_comm (2 ^ _) _]
  omega
theorem und_slc_le {ns : List Int} {n l r : Nat} (h : ∀ d ∈ ns, 0 ≤ d) : und n (slc ns l r) ≤ und n ns := by
  unfold slc
  have h1 := und_le_append (n := n) (a := ns.take l) (b := ns.drop l) (fun d hd => h d (List.mem_of_mem_take hd)) (fun d hd => h d (List.mem_of_mem_drop hd))
  have h2 := und_le_append (n := n) (a := (ns.drop l).take (r - l)) (b := (ns.drop l).drop (r - l)) (fun d hd => h d (List.mem_of_mem_drop (List.mem_of_mem_take hd))) (fun d hd => h d (List.mem_of_mem_drop (List.mem_of_mem_drop hd)))
  rw [List.take_append_drop] at h1 h2
  omega
theorem slc_all (ns : List Int) : slc ns 0 ns.length = ns := by simp [slc]
end
end Mine
namespace Mine
section
open PySem PySem.W PySem.Calls PyProof.Rows
section
variable {prog : Program} {w : World} {A : Around} {E : Value → Shared → Prop} {s : Shared} {env : Env} {h₀ : Heap} {L : Addr}

/-- the place where a for has evaluated its source -/
def ForGoal (prog : Program) (w : World) (A : Around) (target : Expr) (body : List Stmt) (env : Env) (Q : Flow → Shared → Prop) (xv : Value) (s : Shared) : Prop :=
  wpAny (model prog w) A (pyIter xv) (fun it s₂ => codeAny (model prog w) A (.forLoop target it body [] env) (fun r s' => match r with | .ok f => Q f s' | .error _ => False) s₂) (fun _ _ => False) s

theorem for_start {target iter : Expr} {body : List Stmt} {pos : Pos} {Q : Flow → Shared → Prop}
    (h : wpAny (model prog w) A (eval iter env) (fun xv s₁ => ForGoal prog w A target body env Q xv s₁) E s)
    (hs : ∀ x, foldedSetIterable iter env x = pure x := by intro _; rfl) :
    wpAny (model prog w) A (exec (.For target iter body [] pos) env) Q E s := by
  refine wpAny_For (wpAny_mono h (fun xv s₁ h₁ => wpAny_mono h₁ (fun it s₂ h₂ => codeAny_mono h₂ fun r s' hr => ?_) fun _ _ e => e.elim) fun _ _ e => e) hs
  cases r with
  | ok f => exact hr
  | error e => exact hr.elim

def StepS {σ : Type} (h₀ : Heap) (L : Addr) (I : Addr) (oI : Obj) (Led : σ → List (Addr × Obj)) (ps : σ → List (Str × Value)) (Facts : σ → Prop) (stored : List Str) (m₀ : Str → Option Value) (s₁ : Shared) (Q : Flow → Shared → Prop) (f : Flow) (s₂ : Shared) : Prop :=
  match f with
  | .ret v => Q (.ret v) s₂
  | .brk => Q .next s₂
  | _ => ∃ c h' tk m', s₂ = { s₁ with heap := h', toks := tk } ∧ Fr h₀ L h' m' ∧ News h₀ L h' ((I, oI) :: Led c) ∧ (∀ p ∈ Led c, @Ne Nat p.1 I) ∧ Facts c ∧ (∀ p ∈ ps c, m' p.1 = some p.2) ∧ (∀ z, (∀ p ∈ ps c, z ≠ p.1) → stored.contains z = false → m' z = m₀ z)

theorem stepS_next {σ : Type} {I : Addr} {oI : Obj} {Led : σ → List (Addr × Obj)} {ps : σ → List (Str × Value)} {Facts : σ → Prop} {stored : List Str} {m₀ m' : Str → Option Value} {s₁ : Shared} {Q : Flow → Shared → Prop} {h' : Heap} {tk : Nat} {led' : List (Addr × Obj)} (c : σ)
    (hk : ∀ p ∈ ps c, m' p.1 = some p.2) (F : Fr h₀ L h' m') (N : News h₀ L h' led') (hs : ∀ p ∈ (I, oI) :: Led c, p ∈ led') (hne : ∀ p ∈ Led c, @Ne Nat p.1 I) (hf : Facts c) (hr : ∀ z, (∀ p ∈ ps c, z ≠ p.1) → stored.contains z = false → m' z = m₀ z) :
    StepS h₀ L I oI Led ps Facts stored m₀ s₁ Q .next { s₁ with heap := h', toks := tk } := ⟨c, h', tk, m', rfl, F, fun p hp => N p (hs p hp), hne, hf, hk, hr⟩
theorem for_core {σ : Type} {target : Expr} {body : List Stmt} {Q : Flow → Shared → Prop} {I : Addr} {fp : List Addr} {n : Nat} {P : Nat → Value → Prop} {St : Nat → Heap → Prop} {m₀ : Str → Option Value}
    (Led : σ → List (Addr × Obj)) (ps : σ → List (Str × Value)) (Facts : Nat → σ → Prop) (stored : List Str)
    (W : Walks prog w A I fp [I] n P St) (hLI : @Ne Nat L I) (hI0 : h₀.get? I = none) (hobj : ∀ i h, St i h → ∃ o, h.get? I = some o)
    (hfp : ∀ b ∈ fp, b = I ∨ (∃ o, h₀.get? b = some o) ∨ (∃ o, ∀ c, (b, o) ∈ Led c))
    (hlet : ∀ i v (s₁ : Shared) (Q' : Unit → Shared → Prop), St i s₁.heap → P (i - 1) v → Q' () s₁ → wpAny (model prog w) A (letOwnedTupleGo target (.ref I) v) Q' (fun _ _ => False) s₁)
    (c₀ : σ) (hst : St 0 s.heap) (F : Fr h₀ L s.heap m₀) (N : News h₀ L s.heap (Led c₀)) (hne : ∀ p ∈ Led c₀, @Ne Nat p.1 I) (hf : Facts 0 c₀) (hk : ∀ p ∈ ps c₀, m₀ p.1 = some p.2)
    (turn : ∀ i v c (u : Str → Option Value) (h : Heap) (tk : Nat) oI, i < n → P i v → Facts i c → (∀ p ∈ Led c, @Ne Nat p.1 I) → Fr h₀ L h (kstB (fun z => if stored.contains z then u z else m₀ z) (ps c)) → News h₀ L h ((I, oI) :: Led c) →
      wpAny (model prog w) A (assign target env v) (fun _ s₃ => wpAny (model prog w) A (execs body env) (StepS h₀ L I oI Led ps (Facts (i + 1)) stored m₀ { s with heap := h, toks := tk } Q) (fun _ _ => False) s₃) (fun _ _ => False) { s with heap := h, toks := tk })
    (done : ∀ c (u : Str → Option Value) (h : Heap) (tk : Nat), Facts n c → Fr h₀ L h (kstB (fun z => if stored.contains z then u z else m₀ z) (ps c)) → News h₀ L h (Led c) → Q .next { s with heap := h, toks := tk }) :
    codeAny (model prog w) A (.forLoop target (.ref I) body [] env) (fun r s' => match r with | .ok f => Q f s' | .error _ => False) s := by
  have noE : ∀ {α : Type} {t : Sem α} {Q' : α → Shared → Prop} {E' : Value → Shared → Prop} {s' : Shared}, wpAny (model prog w) A t Q' (fun _ _ => False) s' → wpAny (model prog w) A t Q' E' s' := fun h => wpAny_noRaise h
  refine codeAny_forLoop_any (fun k s' => ∃ i c m h tk, s' = { s with heap := h, toks := tk } ∧ St i h ∧ i ≤ n ∧ k = n + 1 - i ∧ Fr h₀ L h m ∧ News h₀ L h (Led c) ∧ (∀ p ∈ Led c, @Ne Nat p.1 I) ∧ Facts i c ∧ (∀ p ∈ ps c, m p.1 = some p.2) ∧ (∀ z, (∀ p ∈ ps c, z ≠ p.1) → stored.contains z = false → m z = m₀ z))
    ?_ (n + 1) ⟨0, c₀, m₀, s.heap, s.toks, rfl, hst, Nat.zero_le _, rfl, F, N, hne, hf, hk, fun _ _ _ => rfl⟩
  rintro k s' ⟨i, c, m, h, tk, rfl, hst', hi, rfl, F', N', hne', hf', hk', hr'⟩
  have next : ∀ h', (∀ b o, b ∉ [I] → h.get? b = some o → h'.get? b = some o) → Fr h₀ L h' m ∧ News h₀ L h' (Led c) := fun h' hk => by
    refine ⟨⟨F'.ns.at' fun o e => hk L o (by intro q; exact hLI (List.mem_singleton.mp q)) e, fun b o e => hk b o (fun q => ?_) (F'.keep b o e), F'.above⟩, fun p hp => ⟨hk _ _ (fun q => hne' p hp (List.mem_singleton.mp q)) (N' p hp).1, (N' p hp).2⟩⟩
    rw [List.mem_singleton.mp q, hI0] at e; cases e
  by_cases hlt : i < n
  · refine W.item i _ _ _ hlt hst' fun v h₁ tk₁ hv hst₁ hk₁ => ?_
    obtain ⟨F₁, N₁⟩ := next h₁ hk₁
    obtain ⟨oI, hoI⟩ := hobj _ _ hst₁
    have NI : News h₀ L h₁ ((I, oI) :: Led c) := fun p hp => by
      rcases List.mem_cons.mp hp with rfl | hp
      · exact ⟨hoI, fun q => hLI q.symm, hI0⟩
      · exact N₁ p hp
    refine noE (hlet (i + 1) v _ _ hst₁ hv ?_)
    have t := turn i v c m h₁ tk₁ oI hlt hv hf' hne' (ksw_fr hk' hr' F₁) NI
    refine noE (wpAny_mono t (fun _ s₃ h₃ => noE (wpAny_mono h₃ (fun f s₄ h₄ => ?_) fun _ _ e => e)) fun _ _ e => e)
    have fin : ∀ {h' : Heap} {m' : Str → Option Value} {c' : σ}, Fr h₀ L h' m' → News h₀ L h' ((I, oI) :: Led c') → St (i + 1) h' := fun {h' m' c'} F₂ N₂ => by
      refine W.frame _ _ _ hst₁ fun b hb o e => ?_
      rcases hfp b hb with rfl | ⟨o', e'⟩ | ⟨o', hc⟩
      · rw [hoI] at e; cases e
        exact (N₂ _ (.head _)).1
      · have := F₁.keep b o' e'
        rw [e] at this; cases this
        exact F₂.keep b o e'
      · have := (N₁ _ (hc c)).1
        rw [e] at this; cases this
        exact (N₂ _ (.tail _ (hc c'))).1
    cases f with
    | ret v => exact h₄
    | brk => exact h₄
    | next =>
      obtain ⟨c', h', tk', m', rfl, F₂, N₂, hne₂, hf₂, hk₂, hr₂⟩ := h₄
      exact ⟨n + 1 - (i + 1), by omega, i + 1, c', m', h', tk', rfl, fin F₂ N₂, hlt, rfl, F₂, fun p hp => N₂ p (.tail _ hp), hne₂, hf₂, hk₂, hr₂⟩
    | cont =>
      obtain ⟨c', h', tk', m', rfl, F₂, N₂, hne₂, hf₂, hk₂, hr₂⟩ := h₄
      exact ⟨n + 1 - (i + 1), by omega, i + 1, c', m', h', tk', rfl, fin F₂ N₂, hlt, rfl, F₂, fun p hp => N₂ p (.tail _ hp), hne₂, hf₂, hk₂, hr₂⟩
  · have e : i = n := by omega
    subst e
    refine W.done _ _ _ hst' fun h₁ tk₁ hk₁ => wpAny_execs_nil ?_
    obtain ⟨F₁, N₁⟩ := next h₁ hk₁
    exact done c m h₁ tk₁ hf' (ksw_fr hk' hr' F₁) N₁

theorem lt_new {m : Str → Option Value} (F : Fr h₀ L s.heap m) : @Ne Nat L s.heap.objs.size := Nat.ne_of_lt F.ns.lt
theorem free_new {m : Str → Option Value} (F : Fr h₀ L s.heap m) : h₀.get? s.heap.objs.size = none := by
  cases q : h₀.get? s.heap.objs.size with
  | none => rfl
  | some o => exact absurd (Heap.lt_size (F.keep _ _ q)) (Nat.lt_irrefl _)
theorem news_new {m : Str → Option Value} {news : List (Addr × Obj)} (N : News h₀ L s.heap news) : ∀ p ∈ news, @Ne Nat p.1 s.heap.objs.size := fun p hp => Nat.ne_of_lt (Heap.lt_size (N p hp).1)

theorem forRange {σ : Type} {x : Str} {px : Pos} {body : List Stmt} {Q : Flow → Shared → Prop} {r : Addr} {a b : Int} {t₀ u₀ v₀ : Tok} {n : Nat} {m₀ : Str → Option Value}
    (Led : σ → List (Addr × Obj)) (ps : σ → List (Str × Value)) (Facts : Nat → σ → Prop) (stored : List Str) (c₀ : σ) (hh : A.handled = none)
    (hr : IsRange s.heap r a b 1 t₀ u₀ v₀) (hsmall : Builtin.Range.small a b 1 = true) (hn : Builtin.Range.rangeSize a b 1 = (n : Int))
    (F : Fr h₀ L s.heap m₀) (N : News h₀ L s.heap (Led c₀)) (hf : Facts 0 c₀) (hk : ∀ p ∈ ps c₀, m₀ p.1 = some p.2)
    (turn : ∀ i t c (u : Str → Option Value) (h : Heap) (tk : Nat) I oI, i < n → Facts i c → (∀ p ∈ Led c, @Ne Nat p.1 I) → Fr h₀ L h (kstB (fun z => if stored.contains z then u z else m₀ z) (ps c)) → News h₀ L h ((I, oI) :: Led c) →
      wpAny (model prog w) A (assign (.Name x px) env (.int (a + (i : Int)) t)) (fun _ s₃ => wpAny (model prog w) A (execs body env) (StepS h₀ L I oI Led ps (Facts (i + 1)) stored m₀ { s with heap := h, toks := tk } Q) (fun _ _ => False) s₃) (fun _ _ => False) { s with heap := h, toks := tk })
    (done : ∀ c (u : Str → Option Value) (h : Heap) (tk : Nat), Facts n c → Fr h₀ L h (kstB (fun z => if stored.contains z then u z else m₀ z) (ps c)) → News h₀ L h (Led c) → Q .next { s with heap := h, toks := tk }) :
    ForGoal prog w A (.Name x px) body env Q (.ref r) s := by
  refine wpAny_pyIter_range hr hsmall ?_
  have W := (Walks.range (prog := prog) (w := w) hh s.heap.objs.size a 1 n)
  refine for_core (s := { s with heap := _ }) Led ps Facts stored W (lt_new F) (free_new F) (fun i h e => ⟨_, e⟩) (fun b hb => .inl (List.mem_singleton.mp hb)) (fun _ _ _ _ _ _ q => wpAny_pure q) c₀
    (by show IsRangeIter _ _ _ _ _; rw [hn]; simpa using Heap.get?_push_size _ rfl) (F.push _) (fun p hp => ⟨Heap.get?_push_of_some _ (N p hp).1, (N p hp).2⟩) (news_new N (m := m₀)) hf hk ?_ ?_
  · rintro i v c u h tk oI hi ⟨t, rfl⟩ hf' hne F' N'
    rw [Int.mul_one]
    exact turn i t c u h tk _ oI hi hf' hne F' N'
  · exact done

theorem forInts {σ : Type} {x : Str} {px : Pos} {body : List Stmt} {Q : Flow → Shared → Prop} {l : Addr} {vs : List Value} {ns : List Int} {m₀ : Str → Option Value}
    (Led : σ → List (Addr × Obj)) (ps : σ → List (Str × Value)) (Facts : Nat → σ → Prop) (stored : List Str) (c₀ : σ) (hh : A.handled = none)
    (hl : s.heap.IsList l vs.toArray) (hi : IntsAre vs ns) (hin : (∃ o, h₀.get? l = some o) ∨ (∃ o, ∀ c, (l, o) ∈ Led c))
    (F : Fr h₀ L s.heap m₀) (N : News h₀ L s.heap (Led c₀)) (hf : Facts 0 c₀) (hk : ∀ p ∈ ps c₀, m₀ p.1 = some p.2)
    (turn : ∀ i (hi : i < ns.length) t c (u : Str → Option Value) (h : Heap) (tk : Nat) I oI, Facts i c → (∀ p ∈ Led c, @Ne Nat p.1 I) → Fr h₀ L h (kstB (fun z => if stored.contains z then u z else m₀ z) (ps c)) → News h₀ L h ((I, oI) :: Led c) →
      wpAny (model prog w) A (assign (.Name x px) env (.int ns[i] t)) (fun _ s₃ => wpAny (model prog w) A (execs body env) (StepS h₀ L I oI Led ps (Facts (i + 1)) stored m₀ { s with heap := h, toks := tk } Q) (fun _ _ => False) s₃) (fun _ _ => False) { s with heap := h, toks := tk })
    (done : ∀ c (u : Str → Option Value) (h : Heap) (tk : Nat), Facts ns.length c → Fr h₀ L h (kstB (fun z => if stored.contains z then u z else m₀ z) (ps c)) → News h₀ L h (Led c) → Q .next { s with heap := h, toks := tk }) :
    ForGoal prog w A (.Name x px) body env Q (.ref l) s := by
  refine wpAny_pyIter_list hl ?_
  have hlt : @LT.lt Nat _ l s.heap.objs.size := let ⟨_, ho, _⟩ := hl; Heap.lt_size ho
  have W := Walks.list (prog := prog) (w := w) hh s.heap.objs.size l (Nat.ne_of_lt hlt) vs.toArray
  have hlen : vs.toArray.size = ns.length := by simp [hi.length]
  rw [hlen] at W
  refine for_core (s := { s with heap := _ }) Led ps Facts stored W (lt_new F) (free_new F) (fun i h e => let ⟨o, ho, _⟩ := e.1; ⟨o, ho⟩) (fun b hb => ?_) (fun _ _ _ _ _ _ q => wpAny_pure q) c₀
    ⟨⟨_, Heap.get?_push_size _ rfl, rfl, rfl⟩, hl.at fun o e => Heap.get?_push_of_some _ e⟩ (F.push _) (fun p hp => ⟨Heap.get?_push_of_some _ (N p hp).1, (N p hp).2⟩) (news_new N (m := m₀)) hf hk ?_ ?_
  · rcases List.mem_cons.mp hb with e | hb
    · exact .inl e
    · rw [List.mem_singleton.mp hb]; exact .inr hin
  · rintro i v c u h tk oI hlt' hv hf' hne F' N'
    obtain ⟨t, hx⟩ := hi.get i ns[i] (by simp [hlt'])
    have hv' : vs[i]? = some v := by simpa using hv
    rw [hx] at hv'; cases hv'
    exact turn i hlt' t c u h tk _ oI hf' hne F' N'
  · exact done

theorem forRev {σ : Type} {x : Str} {px : Pos} {body : List Stmt} {Q : Flow → Shared → Prop} {l D : Addr} {vs : List Value} {ns : List Int} {m₀ : Str → Option Value}
    (Led : σ → List (Addr × Obj)) (ps : σ → List (Str × Value)) (Facts : Nat → σ → Prop) (stored : List Str) (c₀ : σ) (hh : A.handled = none)
    (hl : s.heap.IsList l vs.toArray) (hi : IntsAre vs ns) (hin : (∃ o, h₀.get? l = some o) ∨ (∃ o, ∀ c, (l, o) ∈ Led c)) (hlD : @Ne Nat l D)
    (F : Fr h₀ L s.heap m₀) (N : News h₀ L s.heap ((D, revObj l ((vs.length : Int) - 1)) :: Led c₀)) (hne : ∀ p ∈ Led c₀, @Ne Nat p.1 D) (hf : Facts 0 c₀) (hk : ∀ p ∈ ps c₀, m₀ p.1 = some p.2)
    (turn : ∀ i (hi : i < ns.length) t c (u : Str → Option Value) (h : Heap) (tk : Nat) oI, Facts i c → (∀ p ∈ Led c, @Ne Nat p.1 D) → Fr h₀ L h (kstB (fun z => if stored.contains z then u z else m₀ z) (ps c)) → News h₀ L h ((D, oI) :: Led c) →
      wpAny (model prog w) A (assign (.Name x px) env (.int (ns[ns.length - 1 - i]'(by omega)) t)) (fun _ s₃ => wpAny (model prog w) A (execs body env) (StepS h₀ L D oI Led ps (Facts (i + 1)) stored m₀ { s with heap := h, toks := tk } Q) (fun _ _ => False) s₃) (fun _ _ => False) { s with heap := h, toks := tk })
    (done : ∀ c (u : Str → Option Value) (h : Heap) (tk : Nat), Facts ns.length c → Fr h₀ L h (kstB (fun z => if stored.contains z then u z else m₀ z) (ps c)) → News h₀ L h (Led c) → Q .next { s with heap := h, toks := tk }) :
    ForGoal prog w A (.Name x px) body env Q (.ref D) s := by
  have NI := N _ (.head _)
  have hit : s.heap.IsRevIter D l ((vs.length : Int) - 1) := ⟨_, NI.1, rfl, rfl⟩
  refine wpAny_pyIter_revIter hit ?_
  have W := Walks.listRev (prog := prog) (w := w) hh D l hlD vs.toArray
  have hlen : vs.toArray.size = ns.length := by simp [hi.length]
  rw [hlen] at W
  refine for_core (s := s) Led ps Facts stored W (Ne.symm NI.2.1) NI.2.2 (fun i h e => let ⟨o, ho, _⟩ := e.2.1; ⟨o, ho⟩) (fun b hb => ?_) (fun _ _ _ _ _ _ q => wpAny_pure q) c₀
    ⟨Nat.zero_le _, by have e : ((ns.length : Int) - 1 - ((0 : Nat) : Int)) = (vs.length : Int) - 1 := by rw [hi.length]; simp
                       rw [e]; exact hit, hl⟩ F (fun p hp => N p (.tail _ hp)) hne hf hk ?_ ?_
  · rcases List.mem_cons.mp hb with e | hb
    · exact .inl e
    · rw [List.mem_singleton.mp hb]; exact .inr hin
  · rintro i v c u h tk oI hlt' hv hf' hne F' N'
    obtain ⟨t, hx⟩ := hi.get (ns.length - 1 - i) (ns[ns.length - 1 - i]'(by omega)) (by simp)
    have hv' : vs[ns.length - 1 - i]? = some v := by simpa using hv
    rw [hx] at hv'; cases hv'
    exact turn i hlt' t c u h tk oI hf' hne F' N'
  · exact done
end
local macro_rules | `(tactic| walk_at "exec For") => `(tactic| (k_here; refine for_start ?_))
end
end Mine
namespace Mine
section
open PySem PySem.W PySem.Calls PyProof.Rows
section
variable {prog : Program} {w : World} {A : Around} {E : Value → Shared → Prop} {s : Shared} {h₀ : Heap} {L : Addr} {m : Str → Option Value} {news news' : List (Addr × Obj)}
theorem room_of {n : Nat} (h : n < 2 ^ 20) : n ≤ sizeLine := by rw [sizeLine_eq]; omega
theorem appInts {D : Addr} {vs : List Value} {ns : List Int} {n : Nat} {x : Int} {u : Tok} {Q : Value → Shared → Prop} (F : Fr h₀ L s.heap m) (N : News h₀ L s.heap news)
    (U : Upd D (W.listOf vs.toArray n) (W.listOf (vs ++ [Value.int x u]).toArray (n + 1)) news news') (hI : IntsAre vs ns) (h1 : ns.length < 2 ^ 20)
    (h : ∀ h', Fr h₀ L h' m → News h₀ L h' news' → IntsAre (vs ++ [Value.int x u]) (ns ++ [x]) → Q .none { s with heap := h' }) : wpAny (model prog w) A (call (.builtin "list.append") [.ref D, .int x u]) Q E s := by
  refine append_K (its := vs.toArray) F N (by rw [List.push_toArray]; exact U) (fun h' F' N' => h h' F' N' (IntsAre.append hI (.cons _ _ .nil))) ?_
  rw [List.size_toArray, hI.length]; exact room_of h1
theorem revInts {D : Addr} {vs : List Value} {ns : List Int} {n : Nat} {Q : Value → Shared → Prop} (F : Fr h₀ L s.heap m) (N : News h₀ L s.heap news)
    (U : Upd D (W.listOf vs.toArray n) (W.listOf vs.reverse.toArray n) news news') (hI : IntsAre vs ns) (h1 : ns.length < 2 ^ 20)
    (h : ∀ h', Fr h₀ L h' m → News h₀ L h' news' → IntsAre vs.reverse ns.reverse → Q .none { s with heap := h' }) : wpAny (model prog w) A (call (.builtin "list.reverse") [.ref D]) Q E s :=
  kl_reverse (its := vs.toArray) (l := vs.reverse) F N rfl U (by show vs.length ≤ _; rw [hI.length]; exact room_of h1) fun h' F' N' => h h' F' N' (PyProof.Rows.IntsAre.reverse hI)
theorem insInts {D : Addr} {vs : List Value} {ns : List Int} {n k : Nat} {x : Int} {t u : Tok} {Q : Value → Shared → Prop} (F : Fr h₀ L s.heap m) (N : News h₀ L s.heap news)
    (U : Upd D (W.listOf vs.toArray n) (W.listOf (vs.take k ++ Value.int x u :: vs.drop k).toArray (n + 1)) news news') (hI : IntsAre vs ns) (hk : k ≤ ns.length) (h1 : ns.length < 2 ^ 20)
    (h : ∀ h', Fr h₀ L h' m → News h₀ L h' news' → IntsAre (vs.take k ++ Value.int x u :: vs.drop k) (ns.take k ++ x :: ns.drop k) → Q .none { s with heap := h' }) : wpAny (model prog w) A (call (.builtin "list.insert") [.ref D, .int (k : Int) t, .int x u]) Q E s := by
  have hl := hI.length
  refine kl_insert (its := vs.toArray) (l := vs.take k ++ Value.int x u :: vs.drop k) F N ?_ ?_ U (by show vs.length ≤ _; rw [hl]; exact room_of h1) fun h' F' N' => h h' F' N' (IntsAre.append (PyProof.Rows.IntsAre.take hI k) (.cons _ _ (PyProof.Rows.IntsAre.drop hI k)))
  · simp [Builtin.List.listFitsIndex]; omega
  · show kl_ins vs (k : Int) _ = _
    unfold kl_ins
    have e1 : ¬ ((k : Int) < 0) := by omega
    have e2 : min ((k : Int)).toNat vs.length = k := by rw [Int.toNat_natCast, hl]; exact Nat.min_eq_left hk
    simp only [if_neg e1, e2]
theorem subInts {value slice : Expr} {l : Addr} {vs : List Value} {ns : List Int} {k : Int} {u : Tok} {Q : Value → Shared → Prop} (hl : s.heap.IsList l vs.toArray) (hI : IntsAre vs ns) (h0 : 0 ≤ k) (h1 : k < (ns.length : Int)) (h2 : ns.length < 2 ^ 20)
    (h : ∀ t, Q (.int (ns.getD k.toNat 0) t) s) (hs : subscripted slice false (.ref l) (.int k u) = operate [.ref l, .int k u] (getItem (.ref l) (.int k u)) := by with_unfolding_all rfl) : wpAny (model prog w) A (subscriptTail value slice (.ref l) (.int k u)) Q E s := by
  have hk : k.toNat < ns.length := by omega
  obtain ⟨t, hx⟩ := hI.get k.toNat ns[k.toNat] (List.getElem?_eq_getElem hk)
  have e : ns.getD k.toNat 0 = ns[k.toNat] := by rw [List.getD_eq_getElem?_getD, List.getElem?_eq_getElem hk]; rfl
  have hq := h t
  rw [e] at hq
  exact tail_any hl.typeIs slot_list_getitem.lookup (wpAny_getItem_list hl h0 (by omega) (by simpa using hx) hq) hs
end
end
end Mine
namespace Mine
section
open PySem PySem.W PySem.Calls PyProof.Rows
def bis (ns : List Int) (x : Int) : Nat := ns.countP (fun c => decide (c ≤ x))
def BisP (ns : List Int) (x lo hi : Int) : Prop := (∀ i : Nat, (i : Int) < lo → ∀ y, ns[i]? = some y → y ≤ x) ∧ (∀ i : Nat, hi ≤ (i : Int) → ∀ y, ns[i]? = some y → x < y)
theorem fdiv2 (a b : Int) : (a + b).fdiv 2 = (a + b) / 2 := by
  rw [Int.fdiv_eq_ediv_of_nonneg _ (by decide)]
theorem bisP_start (ns : List Int) (x : Int) : BisP ns x 0 (ns.length : Int) :=
  ⟨fun i h => by omega, fun i h y e => by
    rw [List.getElem?_eq_none (by omega)] at e; cases e⟩
theorem sorted_le {ns : List Int} (hs : ns.Pairwise (· ≤ ·)) {i j : Nat} {a b : Int} (hij : i ≤ j) (ha : ns[i]? = some a) (hb : ns[j]? = some b) : a ≤ b := by
  obtain ⟨hi, rfl⟩ := List.getElem?_eq_some_iff.mp ha
  obtain ⟨hj, rfl⟩ := List.getElem?_eq_some_iff.mp hb
  rcases Nat.lt_or_eq_of_le hij with h | rfl
  · exact List.pairwise_iff_getElem.mp hs i j hi hj h
  · exact Int.le_refl _
theorem bisP_hi {ns : List Int} {x lo hi : Int} (hs : ns.Pairwise (· ≤ ·)) (P : BisP ns x lo hi) (h0 : 0 ≤ lo) (h1 : lo < hi) (h2 : hi ≤ (ns.length : Int)) (hx : x < ns.getD ((lo + hi).fdiv 2).toNat 0) : BisP ns x lo ((lo + hi).fdiv 2) := by
  rw [fdiv2] at *
  refine ⟨P.1, fun i h y e => ?_⟩
  have hk : ((lo + hi) / 2).toNat < ns.length := by omega
  rw [List.getD_eq_getElem?_getD, List.getElem?_eq_getElem hk] at hx
  have := sorted_le hs (i := ((lo + hi) / 2).toNat) (j := i) (by omega) (List.getElem?_eq_getElem hk) e
  simp at hx
  omega
theorem bisP_lo {ns : List Int} {x lo hi : Int} (hs : ns.Pairwise (· ≤ ·)) (P : BisP ns x lo hi) (h0 : 0 ≤ lo) (h1 : lo < hi) (h2 : hi ≤ (ns.length : Int)) (hx : ¬ x < ns.getD ((lo + hi).fdiv 2).toNat 0) : BisP ns x ((lo + hi).fdiv 2 + 1) hi := by
  rw [fdiv2] at *
  refine ⟨fun i h y e => ?_, P.2⟩
  have hk : ((lo + hi) / 2).toNat < ns.length := by omega
  rw [List.getD_eq_getElem?_getD, List.getElem?_eq_getElem hk] at hx
  have := sorted_le hs (i := i) (j := ((lo + hi) / 2).toNat) (by omega) e (List.getElem?_eq_getElem hk)
  simp at hx
  omega
theorem bisP_end {ns : List Int} {x lo hi : Int} (P : BisP ns x lo hi) (h0 : 0 ≤ lo) (h1 : lo ≤ hi) (h3 : ¬ lo < hi) (h2 : hi ≤ (ns.length : Int)) : lo = (bis ns x : Int) := by
  obtain rfl : hi = lo := by omega
  obtain ⟨n, rfl⟩ : ∃ n : Nat, hi = n := ⟨hi.toNat, by omega⟩
  have h2' : n ≤ ns.length := by omega
  unfold bis
  have e1 : ns.countP (fun c => decide (c ≤ x)) = (ns.take n).countP (fun c => decide (c ≤ x)) + (ns.drop n).countP (fun c => decide (c ≤ x)) := by
    rw [← List.countP_append, List.take_append_drop]
  have e2 : (ns.take n).countP (fun c => decide (c ≤ x)) = n := by
    have : (ns.take n).countP (fun c => decide (c ≤ x)) = (ns.take n).length := by
      rw [List.countP_eq_length]
      intro a ha
      obtain ⟨i, hi, rfl⟩ := List.mem_iff_getElem.mp ha
      rw [List.length_take] at hi
      have := P.1 i (by omega) ns[i] (List.getElem?_eq_getElem (by omega))
      simpa using this
    rw [this, List.length_take]; omega
  have e3 : (ns.drop n).countP (fun c => decide (c ≤ x)) = 0 := by
    rw [List.countP_eq_zero]
    intro a ha
    obtain ⟨i, hi, rfl⟩ := List.mem_iff_getElem.mp ha
    rw [List.length_drop] at hi
    have := P.2 (n + i) (by omega) ns[n + i] (List.getElem?_eq_getElem (by omega))
    simp
    omega
  rw [e1, e2, e3]; simp
set_option maxRecDepth 100000 in
set_option maxHeartbeats 8000000 in
theorem bisR (w : World) (mean mg mb) (l : Addr) (vs : List Value) (ns : List Int) (x : Int) (tx : Tok) (hi : IntsAre vs ns) (hn : ns.length < 100) (hs : ns.Pairwise (· ≤ ·)) :
  Ctr w mean mg mb 23 2 20 [.ref l, .int x tx] [] (fun h => h.IsList l vs.toArray) (fun v new => (∃ t, v = .int (bis ns x) t) ∧ new = []) := by
  unfold Ctr PR
  w_top off
  k_with_none
  k_fill
  intro dp un gd cn cs a ccd cl outer A₀ base h₀ L m s Q E B F X N T hk hpre hd hu hret
  refine wpAny_call ?_
  k_dflt (refine' enterK ?k1 ?k2 ?k3 ?k4 ?k5 ?kA ?kF ?kK ?k6 ?k7 ?k8 ?k9 ?kB ?_ ?c2 ?c3 ?c4 ?c5; (case kA => exact rfl); (case kF => exact rfl); (case kK => assumption); (case k1 => k_asm); (case k2 => k_asm); (case k3 => k_asm); (case k4 => k_asm); (case k5 => k_asm); (case k6 => k_is); (case k7 => k_is); (case k8 => ktr_room); (case k9 => (first | exact BindsTo.of_eq rfl | (refine' kp_binds ?kx ?ke; (case kx => k_in); (case ke => exact fun _ => rfl)))); (case c5 => decide); (case kB => exact locs rfl); (case c2 => exact rfl); (case c3 => exact rfl); (case c4 => exact rfl); k_whole; intro g' L' h' FG' F' N' B' X' T' hlt' hkb' hfr')
  have hl : g'.IsList l vs.toArray := hpre _ hkb'
  (try dsimp only); (try k_fold)
  k_with "exec While Compare cons nil" => k_while (fun _ lo hi => 0 ≤ lo ∧ lo ≤ hi ∧ hi ≤ (ns.length : Int) ∧ BisP ns x lo hi) (fun _ lo hi => (hi - lo).toNat) "lo" "hi"
  k_with "state" => first | exact ⟨by decide, by omega, by omega, bisP_start _ _⟩ | exact ⟨by omega, by rw [fdiv2]; omega, by rw [fdiv2]; omega, bisP_hi hs (by assumption) (by assumption) (by assumption) (by assumption) (by assumption)⟩ | exact ⟨by rw [fdiv2]; omega, by rw [fdiv2]; omega, by omega, bisP_lo hs (by assumption) (by assumption) (by assumption) (by assumption) (by assumption)⟩
  k_with "measure" => (rw [fdiv2]; omega)
  k_steps
  have e9 := bisP_end (by assumption : BisP ns x _ _) (by assumption) (by assumption) (by assumption) (by assumption)
  rw [e9]
  exact hret _ [] _ _ ⟨⟨_, rfl⟩, rfl⟩ (by assumption) (by assumption) (by assumption) (by simp)
end
end Mine
namespace Mine
section
open PySem PySem.W PySem.Calls PyProof.Rows
def bil (ns : List Int) (x : Int) : Nat := ns.countP (fun c => decide (c < x))
def BilP (ns : List Int) (x lo hi : Int) : Prop := (∀ i : Nat, (i : Int) < lo → ∀ y, ns[i]? = some y → y < x) ∧ (∀ i : Nat, hi ≤ (i : Int) → ∀ y, ns[i]? = some y → x ≤ y)
theorem bilP_start (ns : List Int) (x : Int) : BilP ns x 0 (ns.length : Int) :=
  ⟨fun i h => by omega, fun i h y e => by
    rw [List.getElem?_eq_none (by omega)] at e; cases e⟩
theorem bilP_hi {ns : List Int} {x lo hi : Int} (hs : ns.Pairwise (· ≤ ·)) (P : BilP ns x lo hi) (h0 : 0 ≤ lo) (h1 : lo < hi) (h2 : hi ≤ (ns.length : Int)) (hx : ¬ ns.getD ((lo + hi).fdiv 2).toNat 0 < x) : BilP ns x lo ((lo + hi).fdiv 2) := by
  rw [fdiv2] at *
  refine ⟨P.1, fun i h y e => ?_⟩
  have hk : ((lo + hi) / 2).toNat < ns.length := by omega
  rw [List.getD_eq_getElem?_getD, List.getElem?_eq_getElem hk] at hx
  have := sorted_le hs (i := ((lo + hi) / 2).toNat) (j := i) (by omega) (List.getElem?_eq_getElem hk) e
  simp at hx
  omega
theorem bilP_lo {ns : List Int} {x lo hi : Int} (hs : ns.Pairwise (· ≤ ·)) (P : BilP ns x lo hi) (h0 : 0 ≤ lo) (h1 : lo < hi) (h2 : hi ≤ (ns.length : Int)) (hx : ns.getD ((lo + hi).fdiv 2).toNat 0 < x) : BilP ns x ((lo + hi).fdiv 2 + 1) hi := by
  rw [fdiv2] at *
  refine ⟨fun i h y e => ?_, P.2⟩
  have hk : ((lo + hi) / 2).toNat < ns.length := by omega
  rw [List.getD_eq_getElem?_getD, List.getElem?_eq_getElem hk] at hx
  have := sorted_le hs (i := i) (j := ((lo + hi) / 2).toNat) (by omega) e (List.getElem?_eq_getElem hk)
  simp at hx
  omega
theorem bilP_end {ns : List Int} {x lo hi : Int} (P : BilP ns x lo hi) (h0 : 0 ≤ lo) (h1 : lo ≤ hi) (h3 : ¬ lo < hi) (h2 : hi ≤ (ns.length : Int)) : lo = (bil ns x : Int) := by
  obtain rfl : hi = lo := by omega
  obtain ⟨n, rfl⟩ : ∃ n : Nat, hi = n := ⟨hi.toNat, by omega⟩
  have h2' : n ≤ ns.length := by omega
  unfold bil
  have e1 : ns.countP (fun c => decide (c < x)) = (ns.take n).countP (fun c => decide (c < x)) + (ns.drop n).countP (fun c => decide (c < x)) := by
    rw [← List.countP_append, List.take_append_drop]
  have e2 : (ns.take n).countP (fun c => decide (c < x)) = n := by
    have : (ns.take n).countP (fun c => decide (c < x)) = (ns.take n).length := by
      rw [List.countP_eq_length]
      intro a ha
      obtain ⟨i, hi, rfl⟩ := List.mem_iff_getElem.mp ha
      rw [List.length_take] at hi
      have := P.1 i (by omega) ns[i] (List.getElem?_eq_getElem (by omega))
      simpa using this
    rw [this, List.length_take]; omega
  have e3 : (ns.drop n).countP (fun c => decide (c < x)) = 0 := by
    rw [List.countP_eq_zero]
    intro a ha
    obtain ⟨i, hi, rfl⟩ := List.mem_iff_getElem.mp ha
    rw [List.length_drop] at hi
    have := P.2 (n + i) (by omega) ns[n + i] (List.getElem?_eq_getElem (by omega))
    simp
    omega
  rw [e1, e2, e3]; simp
set_option maxRecDepth 100000 in
set_option maxHeartbeats 8000000 in
theorem bisL (w : World) (mean mg mb) (l : Addr) (vs : List Value) (ns : List Int) (x : Int) (tx t0 : Tok) (hi : IntsAre vs ns) (hn : ns.length < 100) (hs : ns.Pairwise (· ≤ ·)) :
  Ctr w mean mg mb 41 2 20 [.ref l, .int x tx, .int 0 t0, .none] [] (fun h => h.IsList l vs.toArray) (fun v new => (∃ t, v = .int (bil ns x) t) ∧ new = []) := by
  unfold Ctr PR
  w_top off
  k_with_none
  k_fill
  intro dp un gd cn cs a ccd cl outer A₀ base h₀ L m s Q E B F X N T hk hpre hd hu hret
  refine wpAny_call ?_
  k_dflt (refine' enterK ?k1 ?k2 ?k3 ?k4 ?k5 ?kA ?kF ?kK ?k6 ?k7 ?k8 ?k9 ?kB ?_ ?c2 ?c3 ?c4 ?c5; (case kA => exact rfl); (case kF => exact rfl); (case kK => assumption); (case k1 => k_asm); (case k2 => k_asm); (case k3 => k_asm); (case k4 => k_asm); (case k5 => k_asm); (case k6 => k_is); (case k7 => k_is); (case k8 => ktr_room); (case k9 => (first | exact BindsTo.of_eq rfl | (refine' kp_binds ?kx ?ke; (case kx => k_in); (case ke => exact fun _ => rfl)))); (case c5 => decide); (case kB => exact locs rfl); (case c2 => exact rfl); (case c3 => exact rfl); (case c4 => exact rfl); k_whole; intro g' L' h' FG' F' N' B' X' T' hlt' hkb' hfr')
  have hl : g'.IsList l vs.toArray := hpre _ hkb'
  (try dsimp only); (try k_fold)
  k_with "exec While Compare cons nil" => k_while (fun _ lo hi => 0 ≤ lo ∧ lo ≤ hi ∧ hi ≤ (ns.length : Int) ∧ BilP ns x lo hi) (fun _ lo hi => (hi - lo).toNat) "lo" "hi"
  k_with "state" => first | exact ⟨by decide, by omega, by omega, bilP_start _ _⟩ | exact ⟨by omega, by rw [fdiv2]; omega, by rw [fdiv2]; omega, bilP_hi hs (by assumption) (by assumption) (by assumption) (by assumption) (by assumption)⟩ | exact ⟨by rw [fdiv2]; omega, by rw [fdiv2]; omega, by omega, bilP_lo hs (by assumption) (by assumption) (by assumption) (by assumption) (by assumption)⟩
  k_with "measure" => (rw [fdiv2]; omega)
  k_steps
  have e9 := bilP_end (by assumption : BilP ns x _ _) (by assumption) (by assumption) (by assumption) (by assumption)
  rw [e9]
  exact hret _ [] _ _ ⟨⟨_, rfl⟩, rfl⟩ (by assumption) (by assumption) (by assumption) (by simp)
end
end Mine
namespace Mine
section
open PySem PySem.W PySem.Calls PyProof.Rows
def ins (ns : List Int) (x : Int) : List Int := ns.take (bil ns x) ++ x :: ns.drop (bil ns x)
set_option maxRecDepth 100000 in
set_option maxHeartbeats 8000000 in
theorem insort (w : World) (mean mg mb) (l : Addr) (vs : List Value) (ns : List Int) (n : Nat) (x : Int) (tx : Tok) (hi : IntsAre vs ns) (hn : ns.length < 100) (hs : ns.Pairwise (· ≤ ·)) :
  Ctr w mean mg mb 32 4 60 [.ref l, .int x tx] [(l, W.listOf vs.toArray n)] (fun _ => True) (fun v new => v = .none ∧ ∃ vs', IntsAre vs' (ins ns x) ∧ new = [(l, W.listOf vs'.toArray (n + 1))]) := by
  unfold Ctr PR
  w_top off
  k_with_none
  k_fill
  intro dp un gd cn cs aa ccd cl outer A₀ base h₀ L m s Q E B F X N T hk hpre hd hu hret
  refine wpAny_call ?_
  k_dflt (refine' enterK ?k1 ?k2 ?k3 ?k4 ?k5 ?kA ?kF ?kK ?k6 ?k7 ?k8 ?k9 ?kB ?_ ?c2 ?c3 ?c4 ?c5; (case kA => exact rfl); (case kF => exact rfl); (case kK => assumption); (case k1 => k_asm); (case k2 => k_asm); (case k3 => k_asm); (case k4 => k_asm); (case k5 => k_asm); (case k6 => k_is); (case k7 => k_is); (case k8 => ktr_room); (case k9 => (first | exact BindsTo.of_eq rfl | (refine' kp_binds ?kx ?ke; (case kx => k_in); (case ke => exact fun _ => rfl)))); (case c5 => decide); (case kB => exact locs rfl); (case c2 => exact rfl); (case c3 => exact rfl); (case c4 => exact rfl); k_whole; intro g' L' h' FG' F' N' B' X' T' hlt' hkb' hfr')
  (try k_lt hlt')
  (try dsimp only); (try k_fold)
  k_steps
  refine' (bisL w mean mg mb l vs ns x _ _ hi hn hs).use ?kB ?kF ?kX ?kN ?kT ?kk ?ks ?kp ?kd ?ku [(l, W.listOf vs.toArray n)] ?kr ?_
  case kB => k_asm
  case kF => k_asm
  case kX => k_asm
  case kN => k_asm
  case kT => k_asm
  case kk => exact rfl
  case ks => exact List.forall_mem_nil _
  case kp => exact fun g hg => ⟨_, hg _ _ (N' _ (.head _)).1 List.not_mem_nil, rfl, _, rfl⟩
  case kd => ktr_room
  case ku => ktr_units
  case kr => repeat' (first | exact List.forall_mem_nil _ | refine List.forall_mem_cons.mpr ⟨⟨by k_memK, List.not_mem_nil⟩, ?_⟩)
  rintro v5 new5 h5 tk5 ⟨⟨t5, rfl⟩, rfl⟩ F5 N5 ap5
  rw [List.nil_append] at N5
  (try dsimp only); (try k_fold)
  k_steps
  refine' insInts ?x1 ?x2 ?x3 hi ?x4 (by omega) ?_
  case x1 => k_asm
  case x2 => k_asm
  case x3 => k_upd
  case x4 => exact List.countP_le_length
  intro h4 F4 N4 I4
  (try dsimp only at N4)
  (try dsimp only); (try k_fold)
  k_steps
  exact hret _ _ _ _ ⟨rfl, _, I4, rfl⟩ (by k_asm) (by k_asm) (by assumption) (fun p hp => hfr' _ (N4 p hp).2.2)
end
end Mine
namespace Mine
section
open PySem PySem.W PySem.Calls PyProof.Rows
theorem bits_small {a n : Int} (ha : 0 ≤ a) (ha2 : a < 2 ^ 30) (hn : 0 ≤ n) : (Builtin.Int.intBits a : Int) - n ≤ 4000 := by
  have : Builtin.Int.intBits a ≤ 30 := by
    unfold Builtin.Int.intBits
    split
    · decide
    · rename_i h
      have h1 : a.natAbs ≠ 0 := by simpa using h
      have := (Nat.log2_lt h1 (k := 30)).mpr (by omega)
      omega
  omega
set_option maxRecDepth 100000 in
set_option maxHeartbeats 8000000 in
theorem div2n (w : World) (mean mg mb) (a b n : Int) (ta tb tn : Tok) (ha : 0 ≤ a) (ha2 : a < 2 ^ 30) (hb : 0 < b) (hb2 : b < 2 ^ 30) (hn : 0 ≤ n) :
  Ctr w mean mg mb 48 2 20 [.int a ta, .int b tb, .int n tn] [] (fun h => True) (fun v new => ∃ D t1 t2, v = .ref D ∧ new = [(D, { cls := .type "tuple", data := .seq #[.int (a.fdiv b) t1, .int (a.fmod b) t2] })]) := by
  unfold Ctr PR
  w_top off
  k_with_none
  k_fill
  intro dp un gd cn cs aa ccd cl outer A₀ base h₀ L m s Q E B F X N T hk hpre hd hu hret
  refine wpAny_call ?_
  k_dflt (refine' enterK ?k1 ?k2 ?k3 ?k4 ?k5 ?kA ?kF ?kK ?k6 ?k7 ?k8 ?k9 ?kB ?_ ?c2 ?c3 ?c4 ?c5; (case kA => exact rfl); (case kF => exact rfl); (case kK => assumption); (case k1 => k_asm); (case k2 => k_asm); (case k3 => k_asm); (case k4 => k_asm); (case k5 => k_asm); (case k6 => k_is); (case k7 => k_is); (case k8 => ktr_room); (case k9 => (first | exact BindsTo.of_eq rfl | (refine' kp_binds ?kx ?ke; (case kx => k_in); (case ke => exact fun _ => rfl)))); (case c5 => decide); (case kB => exact locs rfl); (case c2 => exact rfl); (case c3 => exact rfl); (case c4 => exact rfl); k_whole; intro g' L' h' FG' F' N' B' X' T' hlt' hkb' hfr')
  (try k_lt hlt')
  (try dsimp only); (try k_fold)
  have hbits := bits_small ha ha2 hn
  k_steps
  exact hret _ _ _ _ ⟨_, _, _, rfl, rfl⟩ (by assumption) (by assumption) (by assumption) (fun p hp => hfr' _ ((by assumption : News g' L' _ _) p hp).2.2)
end
end Mine
namespace Mine
section
open PySem PySem.W PySem.Calls PyProof.Rows

local macro_rules | `(tactic| walk_at "setItem ref int") => `(tactic| (k_here; (with_reducible show wpAny _ _ (PySem.setItem (Value.ref _) (Value.int _ _) (Value.int _ _)) _ _ _); k_dflt (refine' setInts ?y1 ?y2 ?y3 ?y4 ?y5 ?y6 ?y7 ?_; (case y1 => k_asm); (case y2 => k_asm); (case y3 => k_upd); (case y4 => k_asm); (case y5 => omega); (case y6 => omega); (case y7 => omega)); intro h' F' N' kI; (try dsimp only at N'); (try k_sweep)))

set_option maxRecDepth 100000 in
set_option maxHeartbeats 8000000 in
theorem inner_ctr (w : World) (mean mg mb) {nm0 ql0 : Str} {ps0 ps : Arguments} {s0 s2 s3 : Stmt} {nm ql : Str} {body : List Stmt} {sc0 sc : Scope} {fpos : Pos} {dV kV doc pm cdv ct oc0 : Value} {an od0 : Option Addr} {sl0 : Array (Option Value)}
    (hK : (hd.heap_39 w.params).lookup 62 = some ⟨oc0, od0, .func (fnOf nm0 ql0 ps0 [s0, .FunctionDef nm ps body [] none [] sc none nm fpos, s2, s3] sc0 dV kV doc pm an cdv ct), sl0⟩)
    {f c D ci ca cn : Addr} {oc oi oa on : Obj} {dc pm1 ct1 : Value} {fvs : Array Value} {tq tn : Tok} {n : Nat}
    (hoc : oc.data = .fields fvs) (hq : fvs[1]? = some (.str ql tq)) (hi : oi.data = .cell (some (.ref f))) (ha : oa.data = .cell (some (.ref D))) (hn : on.data = .cell (some (.int (n : Int) tn)))
    (hne : @Ne Nat D f ∧ @Ne Nat D c ∧ @Ne Nat D ci ∧ @Ne Nat D ca ∧ @Ne Nat D cn) (hn0 : 0 < n) (hn1 : n < 64) (k : Nat) :
    ∀ (vs : List Value) (ns : List Int) (kk : Nat) (x l r : Nat) (tx tL tR : Tok), r - l = k → IntsAre vs ns → l < r → r ≤ ns.length → (ns.length < 100) → x < 64 → x < 2 ^ (n * (r - l)) →
    Ctr w mean mg mb f (k + 2) (8 * (k + 2)) [.int (x : Int) tx, .int (l : Int) tL, .int (r : Int) tR] (ledI f (fnMade nm ql ps body sc [(Str.ofString "n", cn), (Str.ofString "inner", ci), (Str.ofString "a_digits", ca)] dc pm1 c ct1) c oc D (W.listOf vs.toArray kk) ci oi ca oa cn on)
      (fun h => CodeHd h 61 57) (fun v new => v = .none ∧ ∃ vs', IntsAre vs' (wri ns l r n x) ∧ new = ledI f (fnMade nm ql ps body sc [(Str.ofString "n", cn), (Str.ofString "inner", ci), (Str.ofString "a_digits", ca)] dc pm1 c ct1) c oc D (W.listOf vs'.toArray kk) ci oi ca oa cn on) := by
  unfold Ctr PR
  w_top off
  k_with_none
  k_fill
  refine' kcases hK ?e9 ?_
  case e9 => k_is
  intro e9
  cases e9
  clear hK
  induction k using Nat.strongRecOn with
  | ind k ih =>
  intro vs ns kk x l r tx tL tR hk9 hI h1 h2 hlen hx1 hx2 dp un gd cn1 cs aa ccd cl outer A₀ base h₀ Lo m s Q E B F X N T hk hpre hd hu hret
  refine wpAny_call ?_
  k_dflt (refine' enterX ?k1 ?k2 ?k3 ?k4 ?k5 ?kA ?kF ?kK ?k6 ?kZ ?k7 ?k8 ?k9 ?kB ?_ ?c2 ?c3 ?c4 ?c5; (case kA => exact rfl); (case kF => exact rfl); (case kK => assumption); (case k1 => k_asm); (case k2 => k_asm); (case k3 => k_asm); (case k4 => k_asm); (case k5 => k_asm); (case k6 => exact (N _ (.head _)).1); (case kZ => exact rfl); (case k7 => exact codeRec_news N (.tail _ (.head _)) hoc hq); (case k8 => ktr_room); (case k9 => exact BindsTo.of_eq rfl); (case c5 => decide); (case kB => exact locs rfl); (case c2 => exact rfl); (case c3 => exact rfl); (case c4 => exact rfl); k_whole; intro g' L' h' FG' F' N' B' X' T' hlt' hkb' hfr')
  (try k_lt hlt')
  have hcd : CodeHd g' 61 57 := hpre _ hkb'
  have em := mid_eq l r
  have hs0 : 0 ≤ (((l : Int) + (r : Int)).fdiv (2 ^ Int.toNat 1) - (l : Int)) * (n : Int) := by rw [em]; exact Int.mul_nonneg (by omega) (by omega)
  have hs1 : (((l : Int) + (r : Int)).fdiv (2 ^ Int.toNat 1) - (l : Int)) * (n : Int) ≤ 1000000 := by
    rw [em]
    have q := Int.mul_le_mul (a := (((l + r) / 2 : Nat) : Int) - (l : Int)) (b := (n : Int)) (c := 100) (d := 64) (by omega) (by omega) (by omega) (by omega)
    omega
  have eu : (x : Int).fdiv (2 ^ ((((l : Int) + (r : Int)).fdiv (2 ^ Int.toNat 1) - (l : Int)) * (n : Int)).toNat) = ((x / 2 ^ (((l + r) / 2 - l) * n) : Nat) : Int) := by rw [em, sh_eq h1, up_eq]
  have hu0 : ((x : Int).fdiv (2 ^ ((((l : Int) + (r : Int)).fdiv (2 ^ Int.toNat 1) - (l : Int)) * (n : Int)).toNat)).natAbs < 2 ^ 64 := by
    rw [eu]
    have q := Nat.div_le_self x (2 ^ (((l + r) / 2 - l) * n))
    rw [Int.natAbs_natCast]
    exact Nat.lt_of_le_of_lt q (Nat.lt_trans hx1 (by decide))
  have el : Builtin.bitXor (x : Int) ((x : Int).fdiv (2 ^ ((((l : Int) + (r : Int)).fdiv (2 ^ Int.toNat 1) - (l : Int)) * (n : Int)).toNat) * 2 ^ ((((l : Int) + (r : Int)).fdiv (2 ^ Int.toNat 1) - (l : Int)) * (n : Int)).toNat) = ((x % 2 ^ (((l + r) / 2 - l) * n) : Nat) : Int) := by rw [em, sh_eq h1, up_eq, lo_eq]
  (try dsimp only); (try k_fold)
  k_steps
  · refine hret _ _ _ _ ⟨rfl, _, ?_, rfl⟩ (by k_asm) (by k_asm) (by assumption) (fun p hp => hfr' _ ((by assumption : News g' L' _ _) p hp).2.2)
    have e9 : r = l + 1 := by omega
    rw [e9, ← wri_leaf (by rw [e9, Nat.add_sub_cancel_left, Nat.mul_one] at hx2; exact hx2)]
    assumption
  · rw [el, em]
    refine' ih ((l + r) / 2 - l) (by omega) _ _ _ (x % 2 ^ (((l + r) / 2 - l) * n)) l ((l + r) / 2) _ _ _ rfl hI (by omega) (by omega) hlen ?q1 ?q2 _ _ _ _ _ _ _ _ _ _ _ _ _ _ _ _ _ ?kB ?kF ?kX ?kN ?kT ?kk ?kp ?kd ?ku ?_
    case q1 => exact Nat.lt_of_le_of_lt (Nat.mod_le _ _) hx1
    case q2 => rw [Nat.mul_comm n]; exact Nat.mod_lt _ (Nat.pow_pos (by decide))
    case kB => k_asm
    case kF => k_asm
    case kX => k_asm
    case kN => k_asm
    case kT => k_asm
    case kk => exact rfl
    case kp => exact fun g hg => CodeHd.keeps hcd (kept_get (by k_asm) (by k_asm) hg)
    case kd => ktr_room
    case ku => ktr_units
    rintro v9 new9 h9 tk9 ⟨rfl, vs9, hI9, rfl⟩ F9 N9 K9 fr9
    (try dsimp only); (try k_fold)
    k_steps
    rw [eu, em]
    refine' ih (r - (l + r) / 2) (by omega) _ _ _ (x / 2 ^ (((l + r) / 2 - l) * n)) ((l + r) / 2) r _ _ _ rfl hI9 (by omega) (by rw [wri_length]; exact h2) (by rw [wri_length]; exact hlen) ?q1 ?q2 _ _ _ _ _ _ _ _ _ _ _ _ _ _ _ _ _ ?kB ?kF ?kX ?kN ?kT ?kk ?kp ?kd ?ku ?_
    case q1 => exact Nat.lt_of_le_of_lt (Nat.div_le_self _ _) hx1
    case q2 =>
      refine Nat.div_lt_of_lt_mul ?_
      rw [← Nat.pow_add, Nat.mul_comm _ n, ← Nat.mul_add]
      rw [show (l + r) / 2 - l + (r - (l + r) / 2) = r - l by omega]
      exact hx2
    case kB => k_asm
    case kF => k_asm
    case kX => k_asm
    case kN => k_asm
    case kT => k_asm
    case kk => exact rfl
    case kp => exact fun g hg => CodeHd.keeps hcd (kept_get (by k_asm) (by k_asm) hg)
    case kd => ktr_room
    case ku => ktr_units
    rintro v8 new8 h8 tk8 ⟨rfl, vs8, hI8, rfl⟩ F8 N8 K8 fr8
    (try dsimp only); (try k_fold)
    k_steps
    rw [wri_step (by omega) (by omega)] at hI8
    exact hret _ _ _ _ ⟨rfl, _, hI8, rfl⟩ (by k_asm) (by k_asm) (by assumption) (fun p hp => hfr' _ ((by assumption : News g' L' _ _) p hp).2.2)
end
end Mine
namespace Mine
section
open PySem PySem.W PySem.Calls PyProof.Rows
noncomputable abbrev qi2d : Str := (Str.ofString "_int2digits" ++ Str.ofString ".<locals>.") ++ Str.ofString "inner"
set_option maxRecDepth 100000 in
set_option maxHeartbeats 8000000 in
theorem i2d (w : World) (mean mg mb) (a n : Nat) (ta tn : Tok) (ha : 0 < a) (ha2 : a < 64) (hn : 0 < n) (hn2 : n < 64) (st : Option (Addr × Obj)) (hst : TabOk 57 qi2d st) :
  Ctr w mean mg mb 62 12 100 [.int (a : Int) ta, .int (n : Int) tn] (tabL 57 79 4 st) (fun h => CodeHd h 61 57) (fun v new => ∃ D vs c oc, v = .ref D ∧ IntsAre vs (dig a n (nd a n)) ∧ TabOk 57 qi2d (some (c, oc)) ∧ (@Ne Nat D 57 ∧ @Ne Nat D c) ∧ new = (D, W.listOf vs.toArray 0) :: tabL 57 79 4 (some (c, oc))) := by
  unfold Ctr PR
  w_top off
  k_with_none
  k_fill
  intro dp un gd cn cs aa ccd cl outer A₀ base h₀ L m s Q E B F X N T hk hpre hd hu hret
  refine wpAny_call ?_
  cases st with
  | none =>
    simp only [tabL] at *
    k_dflt (refine' enterCX ?k1 ?k2 ?k3 ?k4 ?k5 ?kA ?kF ?kK ?k6 ?k7 ?k8 ?k9 ?kB ?kD ?_ ?c2 ?c3 ?c4; (case kA => exact rfl); (case kF => exact rfl); (case kK => assumption); (case k1 => k_asm); (case k2 => k_asm); (case k3 => k_asm); (case k4 => k_asm); (case k5 => k_asm); (case k6 => k_is); (case k7 => k_is); (case k8 => ktr_room); (case k9 => (first | exact BindsTo.of_eq rfl | (refine' kp_binds ?kx ?ke; (case kx => k_in); (case ke => exact fun _ => rfl)))); (case kB => exact rfl); (case kD => decide +kernel); (case c2 => exact rfl); (case c3 => exact rfl); (case c4 => exact rfl); k_whole; intro g' L' h' tk' cells' FG' F' N' Y' B' X' T' hlt' hkb' hfr'; k_cells Y'; (try simp only [List.cons_append, List.nil_append] at N'))
    (try k_lt hlt')
    have hcd : CodeHd g' 61 57 := hpre _ hkb'
    have hnd := nd_eq (n := n) ha
    have hk0 : 0 ≤ ((Builtin.Int.intBits (a : Int) : Int) + (n : Int) - 1).fdiv (n : Int) := by rw [hnd]; omega
    have hk1 : ((Builtin.Int.intBits (a : Int) : Int) + (n : Int) - 1).fdiv (n : Int) ≤ 6 := by rw [hnd]; have := nd_le ha2 hn; omega
    (try dsimp only); (try k_fold)
    k_steps
    · rename_i o1 o2 o3 dd1 dd2 dd3 l9 hA lA D9 hB i1 n1 s1 e1 e2 e3 lB hC oa9 da9 f9 c9 oc9 vs9 t9 ct9 dc9 hD tk9 q1 q2 lC lD hE oi9 F9 N9 di9 aa9
      have en : n1 = nd a n := by have e4 := e3 hk0; rw [hnd] at e4; omega
      subst en
      have N5 := news_sub (l := ledI f9 _ c9 oc9 D9 _ (L' + 1 + 1 + 1) oi9 (L' + 1 + 1) oa9 (L' + 1) o3) N9 (by k_allIn)
      refine' inner_ctr w mean mg mb ?hK q1 q2 di9 da9 dd3 ?hne hn hn2 (nd a n) _ _ _ a 0 (nd a n) _ _ _ (Nat.sub_zero _) i1 (nd_pos hn) (Nat.le_of_eq e1.symm) (by rw [e1]; have := nd_le ha2 hn; omega) ha2 (nd_pow hn) _ _ _ _ _ _ _ _ _ _ _ _ _ _ _ _ _ ?kB ?kF ?kX ?kN ?kT ?kk ?kp ?kd ?ku ?_
      case kN => exact N5
      case hK => k_is
      case hne => exact ⟨by omega, by omega, by omega, by omega, by omega⟩
      case kB => k_asm
      case kF => k_asm
      case kX => k_asm
      case kT => k_asm
      case kk => exact rfl
      case kp => exact fun g hg => CodeHd.keeps hcd (kept_get F9 N5 hg)
      case kd => have := nd_le ha2 hn; ktr_room
      case ku => have := nd_le ha2 hn; ktr_units
      rintro v8 new8 h8 tk8 ⟨rfl, vs8, hI8, rfl⟩ F8 N8 K8 fr8
      have N7 := news_more N9 K8 N8 (p := (57, tabObj (#[] ++ #[rawInt 79, rawInt 4, .ref c9]))) (by k_memK) (by show @Not (@Membership.mem Nat (List Nat) _ [f9, c9, D9, L' + 1 + 1 + 1, L' + 1 + 1, L' + 1] 57); repeat' (first | exact List.not_mem_nil | refine notIn_cons (by omega) ?_))
      rw [wri_dig e1] at hI8
      clear N8 N9 N5 F9
      (try dsimp only); (try k_fold)
      k_steps
      exact hret _ [(D9, W.listOf vs8.toArray 0), (57, tabObj #[rawInt 79, rawInt 4, .ref c9]), (c9, oc9)] _ _ ⟨D9, vs8, c9, oc9, rfl, hI8, tabOk_some (by omega) q1 q2 (by rfl), ⟨by omega, by omega⟩, rfl⟩ (by k_asm)
        (news_sub (by k_asm) (by k_allIn)) (by assumption) (fun p hp => hfr' _ (news_sub N7 (by k_allIn) p hp).2.2)
    · exfalso; omega
  | some x =>
    obtain ⟨c, oc⟩ := x
    obtain ⟨hcP, vs9, t9, q1, q2⟩ := hst
    simp only [tabL] at *
    k_dflt (refine' enterCX ?k1 ?k2 ?k3 ?k4 ?k5 ?kA ?kF ?kK ?k6 ?k7 ?k8 ?k9 ?kB ?kD ?_ ?c2 ?c3 ?c4; (case kA => exact rfl); (case kF => exact rfl); (case kK => assumption); (case k1 => k_asm); (case k2 => k_asm); (case k3 => k_asm); (case k4 => k_asm); (case k5 => k_asm); (case k6 => k_is); (case k7 => k_is); (case k8 => ktr_room); (case k9 => (first | exact BindsTo.of_eq rfl | (refine' kp_binds ?kx ?ke; (case kx => k_in); (case ke => exact fun _ => rfl)))); (case kB => exact rfl); (case kD => decide +kernel); (case c2 => exact rfl); (case c3 => exact rfl); (case c4 => exact rfl); k_whole; intro g' L' h' tk' cells' FG' F' N' Y' B' X' T' hlt' hkb' hfr'; k_cells Y'; (try simp only [List.cons_append, List.nil_append] at N'))
    (try k_lt hlt')
    have hcd : CodeHd g' 61 57 := hpre _ hkb'
    have hnd := nd_eq (n := n) ha
    have hk0 : 0 ≤ ((Builtin.Int.intBits (a : Int) : Int) + (n : Int) - 1).fdiv (n : Int) := by rw [hnd]; omega
    have hk1 : ((Builtin.Int.intBits (a : Int) : Int) + (n : Int) - 1).fdiv (n : Int) ≤ 6 := by rw [hnd]; have := nd_le ha2 hn; omega
    (try dsimp only); (try k_fold)
    k_steps
    · rename_i o1 o2 o3 dd1 dd2 dd3 l9 hA lA D9 hB i1 n1 s1 e1 e2 e3 lB hC oa9 da9 f9 ct9 dc9 hD tk9 lC hE oi9 F9 N9 di9 aa9
      have en : n1 = nd a n := by have e4 := e3 hk0; rw [hnd] at e4; omega
      subst en
      have N5 := news_sub (l := ledI f9 _ c oc D9 _ (L' + 1 + 1 + 1) oi9 (L' + 1 + 1) oa9 (L' + 1) o3) N9 (by k_allIn)
      refine' inner_ctr w mean mg mb ?hK q1 q2 di9 da9 dd3 ?hne hn hn2 (nd a n) _ _ _ a 0 (nd a n) _ _ _ (Nat.sub_zero _) i1 (nd_pos hn) (Nat.le_of_eq e1.symm) (by rw [e1]; have := nd_le ha2 hn; omega) ha2 (nd_pow hn) _ _ _ _ _ _ _ _ _ _ _ _ _ _ _ _ _ ?kB ?kF ?kX ?kN ?kT ?kk ?kp ?kd ?ku ?_
      case kN => exact N5
      case hK => k_is
      case hne => exact ⟨by omega, by omega, by omega, by omega, by omega⟩
      case kB => k_asm
      case kF => k_asm
      case kX => k_asm
      case kT => k_asm
      case kk => exact rfl
      case kp => exact fun g hg => CodeHd.keeps hcd (kept_get F9 N5 hg)
      case kd => have := nd_le ha2 hn; ktr_room
      case ku => have := nd_le ha2 hn; ktr_units
      rintro v8 new8 h8 tk8 ⟨rfl, vs8, hI8, rfl⟩ F8 N8 K8 fr8
      have N7 := news_more N9 K8 N8 (p := (57, tabObj #[rawInt 79, rawInt 4, .ref c])) (by k_memK) (by show @Not (@Membership.mem Nat (List Nat) _ [f9, c, D9, L' + 1 + 1 + 1, L' + 1 + 1, L' + 1] 57); repeat' (first | exact List.not_mem_nil | refine notIn_cons (by omega) ?_))
      rw [wri_dig e1] at hI8
      clear N8 N9 N5 F9
      (try dsimp only); (try k_fold)
      k_steps
      exact hret _ [(D9, W.listOf vs8.toArray 0), (57, tabObj #[rawInt 79, rawInt 4, .ref c]), (c, oc)] _ _ ⟨D9, vs8, c, oc, rfl, hI8, tabOk_some hcP q1 q2 rfl, ⟨by omega, by omega⟩, rfl⟩ (by k_asm)
        (news_sub (by k_asm) (by k_allIn)) (by assumption) (fun p hp => hfr' _ (news_sub N7 (by k_allIn) p hp).2.2)
    · exfalso; omega
end
end Mine
namespace Mine
section
open PySem PySem.W PySem.Calls PyProof.Rows
abbrev ledJ (f : Addr) (fo : Obj) (c : Addr) (oc : Obj) (ci : Addr) (oi : Obj) (ca : Addr) (oa : Obj) (cn : Addr) (on : Obj) : List (Addr × Obj) :=
  [(f, fo), (c, oc), (ci, oi), (ca, oa), (cn, on)]
set_option maxRecDepth 100000 in
set_option maxHeartbeats 8000000 in
theorem inner2_ctr (w : World) (mean mg mb) {nm0 ql0 : Str} {ps0 ps : Arguments} {s1 : Stmt} {nm ql : Str} {body : List Stmt} {sc0 sc : Scope} {fpos : Pos} {dV kV doc pm cdv ct oc0 : Value} {an od0 : Option Addr} {sl0 : Array (Option Value)}
    (hK : (hd.heap_39 w.params).lookup 69 = some ⟨oc0, od0, .func (fnOf nm0 ql0 ps0 [.FunctionDef nm ps body [] none [] sc none nm fpos, s1] sc0 dV kV doc pm an cdv ct), sl0⟩)
    {f c D ci ca cn : Addr} {oc oi oa on : Obj} {dc pm1 ct1 : Value} {fvs : Array Value} {tq tn : Tok} {n : Nat}
    (hoc : oc.data = .fields fvs) (hq : fvs[1]? = some (.str ql tq)) (hi : oi.data = .cell (some (.ref f))) (ha : oa.data = .cell (some (.ref D))) (hn : on.data = .cell (some (.int (n : Int) tn)))
    (hn0 : 0 < n) (hn1 : n < 64) {vs : List Value} {ns : List Int} (hI : IntsAre vs ns) (hlen : ns.length < 100) (hpos : ∀ d ∈ ns, 0 ≤ d) (hund : und n ns < 64) (k : Nat) :
    ∀ (l r : Nat) (tL tR : Tok), r - l = k → l < r → r ≤ ns.length →
    Ctr w mean mg mb f (k + 2) (8 * (k + 2)) [.int (l : Int) tL, .int (r : Int) tR] (ledJ f (fnMade nm ql ps body sc [(Str.ofString "n", cn), (Str.ofString "inner", ci), (Str.ofString "digits", ca)] dc pm1 c ct1) c oc ci oi ca oa cn on)
      (fun h => CodeHd h 68 64 ∧ h.IsList D vs.toArray) (fun v new => (∃ t, v = .int (und n (slc ns l r)) t) ∧ new = ledJ f (fnMade nm ql ps body sc [(Str.ofString "n", cn), (Str.ofString "inner", ci), (Str.ofString "digits", ca)] dc pm1 c ct1) c oc ci oi ca oa cn on) := by
  unfold Ctr PR
  w_top off
  k_with_none
  k_fill
  refine' kcases hK ?e9 ?_
  case e9 => k_is
  intro e9
  cases e9
  clear hK
  induction k using Nat.strongRecOn with
  | ind k ih =>
  intro l r tL tR hk9 h1 h2 dp un gd cn1 cs aa ccd cl outer A₀ base h₀ Lo m s Q E B F X N T hk hpre hd hu hret
  refine wpAny_call ?_
  k_dflt (refine' enterX ?k1 ?k2 ?k3 ?k4 ?k5 ?kA ?kF ?kK ?k6 ?kZ ?k7 ?k8 ?k9 ?kB ?_ ?c2 ?c3 ?c4 ?c5; (case kA => exact rfl); (case kF => exact rfl); (case kK => assumption); (case k1 => k_asm); (case k2 => k_asm); (case k3 => k_asm); (case k4 => k_asm); (case k5 => k_asm); (case k6 => exact (N _ (.head _)).1); (case kZ => exact rfl); (case k7 => exact codeRec_news N (.tail _ (.head _)) hoc hq); (case k8 => ktr_room); (case k9 => exact BindsTo.of_eq rfl); (case c5 => decide); (case kB => exact locs rfl); (case c2 => exact rfl); (case c3 => exact rfl); (case c4 => exact rfl); k_whole; intro g' L' h' FG' F' N' B' X' T' hlt' hkb' hfr')
  (try k_lt hlt')
  obtain ⟨hcd, hlist⟩ := hpre _ hkb'
  have em := mid_eq l r
  have hs0 : 0 ≤ (((l : Int) + (r : Int)).fdiv (2 ^ Int.toNat 1) - (l : Int)) * (n : Int) := by rw [em]; exact Int.mul_nonneg (by omega) (by omega)
  have hs1 : (((l : Int) + (r : Int)).fdiv (2 ^ Int.toNat 1) - (l : Int)) * (n : Int) ≤ 1000000 := by
    rw [em]
    have q := Int.mul_le_mul (a := (((l + r) / 2 : Nat) : Int) - (l : Int)) (b := (n : Int)) (c := 100) (d := 64) (by omega) (by omega) (by omega) (by omega)
    omega
  (try dsimp only); (try k_fold)
  k_steps
  · have e9 : r = l + 1 := by omega
    have e8 : ns.getD ((l : Int)).toNat 0 = und n (slc ns l r) := by
      subst e9
      rw [slc_one (by omega), Int.toNat_natCast, List.getD_eq_getElem?_getD, List.getElem?_eq_getElem (by omega)]
      simp [und]
    rw [e8]
    exact hret _ _ _ _ ⟨⟨_, rfl⟩, rfl⟩ (by k_asm) (by k_asm) (by assumption) (fun p hp => hfr' _ ((by assumption : News g' L' _ _) p hp).2.2)
  · have hu1 := und_nonneg (n := n) (a := slc ns ((l + r) / 2) r) fun d hd => hpos d (mem_slc hd)
    have hu2 := und_slc_le (n := n) (l := (l + r) / 2) (r := r) hpos
    have hu3 : (und n (slc ns ((l + r) / 2) r)).natAbs < 2 ^ 64 := by omega
    rw [em]
    refine' ih (r - (l + r) / 2) (by omega) ((l + r) / 2) r _ _ rfl (by omega) (h2) _ _ _ _ _ _ _ _ _ _ _ _ _ _ _ _ _ ?kB ?kF ?kX ?kN ?kT ?kk ?kp ?kd ?ku ?_
    case kB => k_asm
    case kF => k_asm
    case kX => k_asm
    case kN => k_asm
    case kT => k_asm
    case kk => exact rfl
    case kp => exact fun g hg => ⟨CodeHd.keeps hcd (kept_get (by k_asm) (by k_asm) hg), hlist.at fun o e => kept_get (by k_asm) (by k_asm) hg _ o e⟩
    case kd => ktr_room
    case ku => ktr_units
    rintro v8 new8 h8 tk8 ⟨⟨t8, rfl⟩, rfl⟩ F8 N8 K8 fr8
    (try dsimp only); (try k_fold)
    k_steps
    try rw [em]
    refine' ih ((l + r) / 2 - l) (by omega) l ((l + r) / 2) _ _ rfl (by omega) (by omega) _ _ _ _ _ _ _ _ _ _ _ _ _ _ _ _ _ ?kB ?kF ?kX ?kN ?kT ?kk ?kp ?kd ?ku ?_
    case kB => k_asm
    case kF => k_asm
    case kX => k_asm
    case kN => k_asm
    case kT => k_asm
    case kk => exact rfl
    case kp => exact fun g hg => ⟨CodeHd.keeps hcd (kept_get (by k_asm) (by k_asm) hg), hlist.at fun o e => kept_get (by k_asm) (by k_asm) hg _ o e⟩
    case kd => ktr_room
    case ku => ktr_units
    rintro v7 new7 h7 tk7 ⟨⟨t7, rfl⟩, rfl⟩ F7 N7 K7 fr7
    (try dsimp only); (try k_fold)
    k_steps
    rw [sh_eq h1, Int.toNat_natCast, ← und_split (by omega) (by omega) h2]
    exact hret _ _ _ _ ⟨⟨_, rfl⟩, rfl⟩ (by k_asm) (by k_asm) (by assumption) (fun p hp => hfr' _ ((by assumption : News g' L' _ _) p hp).2.2)
end
end Mine
namespace Mine
section
open PySem PySem.W PySem.Calls PyProof.Rows
noncomputable abbrev qd2i : Str := (Str.ofString "_digits2int" ++ Str.ofString ".<locals>.") ++ Str.ofString "inner"
set_option maxRecDepth 100000 in
set_option maxHeartbeats 8000000 in
theorem d2i (w : World) (mean mg mb) (D : Addr) (vs : List Value) (ns : List Int) (n : Nat) (tn : Tok) (hI : IntsAre vs ns) (hlen : ns.length ≤ 6) (hlen0 : 0 < ns.length) (hpos : ∀ d ∈ ns, 0 ≤ d) (hund : und n ns < 64) (hn : 0 < n) (hn2 : n < 64) (st : Option (Addr × Obj)) (hst : TabOk 64 qd2i st) :
  Ctr w mean mg mb 69 12 100 [.ref D, .int (n : Int) tn] (tabL 64 94 4 st) (fun h => CodeHd h 68 64 ∧ h.IsList D vs.toArray) (fun v new => (∃ t, v = .int (und n ns) t) ∧ ∃ c oc, TabOk 64 qd2i (some (c, oc)) ∧ new = tabL 64 94 4 (some (c, oc))) := by
  unfold Ctr PR
  w_top off
  k_with_none
  k_fill
  intro dp un gd cn cs aa ccd cl outer A₀ base h₀ L m s Q E B F X N T hk hpre hd hu hret
  refine wpAny_call ?_
  cases st with
  | none =>
    simp only [tabL] at *
    k_dflt (refine' enterCX ?k1 ?k2 ?k3 ?k4 ?k5 ?kA ?kF ?kK ?k6 ?k7 ?k8 ?k9 ?kB ?kD ?_ ?c2 ?c3 ?c4; (case kA => exact rfl); (case kF => exact rfl); (case kK => assumption); (case k1 => k_asm); (case k2 => k_asm); (case k3 => k_asm); (case k4 => k_asm); (case k5 => k_asm); (case k6 => k_is); (case k7 => k_is); (case k8 => ktr_room); (case k9 => (first | exact BindsTo.of_eq rfl | (refine' kp_binds ?kx ?ke; (case kx => k_in); (case ke => exact fun _ => rfl)))); (case kB => exact rfl); (case kD => decide +kernel); (case c2 => exact rfl); (case c3 => exact rfl); (case c4 => exact rfl); k_whole; intro g' L' h' tk' cells' FG' F' N' Y' B' X' T' hlt' hkb' hfr'; k_cells Y'; (try simp only [List.cons_append, List.nil_append] at N'))
    (try k_lt hlt')
    obtain ⟨hcd, hlist⟩ := hpre _ hkb'
    (try dsimp only); (try k_fold)
    k_steps
    rename_i o1 o2 o3 dd1 dd2 dd3 f9 c9 oc9 vs9 t9 ct9 dc9 hD tk9 q1 q2 lC lD hE oi9 F9 N9 di9
    have N5 := news_sub (l := ledJ f9 _ c9 oc9 (L' + 1 + 1 + 1) oi9 (L' + 1) o3 (L' + 1 + 1) o2) N9 (by k_allIn)
    refine' inner2_ctr w mean mg mb ?hK q1 q2 di9 dd3 dd2 hn hn2 hI (by omega) hpos hund ns.length 0 ns.length _ _ (Nat.sub_zero _) hlen0 (Nat.le_refl _) _ _ _ _ _ _ _ _ _ _ _ _ _ _ _ _ _ ?kB ?kF ?kX ?kN ?kT ?kk ?kp ?kd ?ku ?_
    case kN => exact N5
    case hK => k_is
    case kB => k_asm
    case kF => k_asm
    case kX => k_asm
    case kT => k_asm
    case kk => exact rfl
    case kp => exact fun g hg => ⟨CodeHd.keeps hcd (kept_get F9 N5 hg), hlist.at fun o e => kept_get F9 N5 hg _ o e⟩
    case kd => ktr_room
    case ku => ktr_units
    rintro v8 new8 h8 tk8 ⟨⟨t8, rfl⟩, rfl⟩ F8 N8 K8 fr8
    have N7 := news_more N9 K8 N8 (p := (64, tabObj (#[] ++ #[rawInt 94, rawInt 4, .ref c9]))) (by k_memK) (by show @Not (@Membership.mem Nat (List Nat) _ [f9, c9, L' + 1 + 1 + 1, L' + 1, L' + 1 + 1] 64); repeat' (first | exact List.not_mem_nil | refine notIn_cons (by omega) ?_))
    rw [slc_all]
    clear N8 N9 N5 F9
    (try dsimp only); (try k_fold)
    k_steps
    exact hret _ [(64, tabObj #[rawInt 94, rawInt 4, .ref c9]), (c9, oc9)] _ _ ⟨⟨_, rfl⟩, c9, oc9, tabOk_some (by omega) q1 q2 rfl, rfl⟩ (by k_asm)
      (news_sub (by k_asm) (by k_allIn)) (by assumption) (fun p hp => hfr' _ (news_sub N7 (by k_allIn) p hp).2.2)
  | some x =>
    obtain ⟨c, oc⟩ := x
    obtain ⟨hcP, vs9, t9, q1, q2⟩ := hst
    simp only [tabL] at *
    k_dflt (refine' enterCX ?k1 ?k2 ?k3 ?k4 ?k5 ?kA ?kF ?kK ?k6 ?k7 ?k8 ?k9 ?kB ?kD ?_ ?c2 ?c3 ?c4; (case kA => exact rfl); (case kF => exact rfl); (case kK => assumption); (case k1 => k_asm); (case k2 => k_asm); (case k3 => k_asm); (case k4 => k_asm); (case k5 => k_asm); (case k6 => k_is); (case k7 => k_is); (case k8 => ktr_room); (case k9 => (first | exact BindsTo.of_eq rfl | (refine' kp_binds ?kx ?ke; (case kx => k_in); (case ke => exact fun _ => rfl)))); (case kB => exact rfl); (case kD => decide +kernel); (case c2 => exact rfl); (case c3 => exact rfl); (case c4 => exact rfl); k_whole; intro g' L' h' tk' cells' FG' F' N' Y' B' X' T' hlt' hkb' hfr'; k_cells Y'; (try simp only [List.cons_append, List.nil_append] at N'))
    (try k_lt hlt')
    obtain ⟨hcd, hlist⟩ := hpre _ hkb'
    (try dsimp only); (try k_fold)
    k_steps
    rename_i o1 o2 o3 dd1 dd2 dd3 f9 ct9 dc9 hD tk9 lC hE oi9 F9 N9 di9
    have N5 := news_sub (l := ledJ f9 _ c oc (L' + 1 + 1 + 1) oi9 (L' + 1) o3 (L' + 1 + 1) o2) N9 (by k_allIn)
    refine' inner2_ctr w mean mg mb ?hK q1 q2 di9 dd3 dd2 hn hn2 hI (by omega) hpos hund ns.length 0 ns.length _ _ (Nat.sub_zero _) hlen0 (Nat.le_refl _) _ _ _ _ _ _ _ _ _ _ _ _ _ _ _ _ _ ?kB ?kF ?kX ?kN ?kT ?kk ?kp ?kd ?ku ?_
    case kN => exact N5
    case hK => k_is
    case kB => k_asm
    case kF => k_asm
    case kX => k_asm
    case kT => k_asm
    case kk => exact rfl
    case kp => exact fun g hg => ⟨CodeHd.keeps hcd (kept_get F9 N5 hg), hlist.at fun o e => kept_get F9 N5 hg _ o e⟩
    case kd => ktr_room
    case ku => ktr_units
    rintro v8 new8 h8 tk8 ⟨⟨t8, rfl⟩, rfl⟩ F8 N8 K8 fr8
    have N7 := news_more N9 K8 N8 (p := (64, tabObj #[rawInt 94, rawInt 4, .ref c])) (by k_memK) (by show @Not (@Membership.mem Nat (List Nat) _ [f9, c, L' + 1 + 1 + 1, L' + 1, L' + 1 + 1] 64); repeat' (first | exact List.not_mem_nil | refine notIn_cons (by omega) ?_))
    rw [slc_all]
    clear N8 N9 N5 F9
    (try dsimp only); (try k_fold)
    k_steps
    exact hret _ [(64, tabObj #[rawInt 94, rawInt 4, .ref c]), (c, oc)] _ _ ⟨⟨_, rfl⟩, c, oc, tabOk_some hcP q1 q2 rfl, rfl⟩ (by k_asm)
      (news_sub (by k_asm) (by k_allIn)) (by assumption) (fun p hp => hfr' _ (news_sub N7 (by k_allIn) p hp).2.2)
end
end Mine
namespace Mine
section
open PySem PySem.W PySem.Calls PyProof.Rows
def DivInv (a b n k i : Nat) (r : Int) (qs : List Int) : Prop :=
  r = ((a / 2 ^ (n * (k - i)) % b : Nat) : Int) ∧ (∀ q ∈ qs, 0 ≤ q) ∧ und n qs.reverse = ((a / 2 ^ (n * (k - i)) / b : Nat) : Int) ∧ qs.length = i
theorem divInv_start {a b n k : Nat} (h : a < 2 ^ (n * k)) : DivInv a b n k 0 0 [] := by
  have e : a / 2 ^ (n * (k - 0)) = 0 := by rw [Nat.sub_zero]; exact Nat.div_eq_of_lt h
  refine ⟨by rw [e]; simp, by simp, by rw [e]; simp [und], rfl⟩
theorem divInv_step {a b n k i : Nat} {r d : Int} {qs : List Int} (hb : 0 < b) (hi : i < k) (h : DivInv a b n k i r qs) (hd : d = ((a / 2 ^ (n * (k - 1 - i)) % 2 ^ n : Nat) : Int)) :
    DivInv a b n k (i + 1) ((r * 2 ^ n + d).fmod b) (qs ++ [(r * 2 ^ n + d).fdiv b]) := by
  obtain ⟨h1, h2, h3, h4⟩ := h
  subst h1 hd
  have ek : k - (i + 1) = k - 1 - i := by omega
  have e1 : a / 2 ^ (n * (k - i)) = a / 2 ^ (n * (k - 1 - i)) / 2 ^ n := by
    rw [Nat.div_div_eq_div_mul, ← Nat.pow_add, ← Nat.mul_succ]
    congr 3; omega
  have e2 : a / 2 ^ (n * (k - 1 - i)) = a / 2 ^ (n * (k - i)) * 2 ^ n + a / 2 ^ (n * (k - 1 - i)) % 2 ^ n := by
    rw [e1, Nat.mul_comm (_ / _) (2 ^ n)]; exact (Nat.div_add_mod _ _).symm
  generalize hA : a / 2 ^ (n * (k - i)) = A at *
  generalize hB : a / 2 ^ (n * (k - 1 - i)) = B at *
  generalize hD : B % 2 ^ n = D at *
  have ex : ((A % b : Nat) : Int) * 2 ^ n + (D : Int) = ((A % b * 2 ^ n + D : Nat) : Int) := by simp
  have em : (((A % b * 2 ^ n + D : Nat) : Int)).fmod (b : Int) = (((A % b * 2 ^ n + D) % b : Nat) : Int) := by
    rw [Int.fmod_eq_emod_of_nonneg _ (Int.natCast_nonneg b)]; rfl
  have edv : (((A % b * 2 ^ n + D : Nat) : Int)).fdiv (b : Int) = (((A % b * 2 ^ n + D) / b : Nat) : Int) := by
    rw [Int.fdiv_eq_ediv_of_nonneg _ (Int.natCast_nonneg b)]; rfl
  have eB : B = A / b * 2 ^ n * b + (A % b * 2 ^ n + D) := by
    have hA' := Nat.div_add_mod A b
    calc B = A * 2 ^ n + D := e2
      _ = (b * (A / b) + A % b) * 2 ^ n + D := by rw [hA']
      _ = A / b * 2 ^ n * b + (A % b * 2 ^ n + D) := by rw [Nat.add_mul, Nat.mul_comm b (A / b), Nat.mul_right_comm, Nat.add_assoc]
  unfold DivInv
  rw [ek, hB, ex, em, edv]
  refine ⟨?_, ?_, ?_, by simp [h4]⟩
  · rw [eB, Nat.add_comm (A / b * 2 ^ n * b), Nat.add_mul_mod_self_right]
  · intro q hq
    rcases List.mem_append.mp hq with hq | hq
    · exact h2 q hq
    · rw [List.mem_singleton.mp hq]; exact Int.natCast_nonneg _
  · rw [List.reverse_append, List.reverse_singleton]
    show ((((A % b * 2 ^ n + D) / b : Nat) : Int)) + 2 ^ n * und n qs.reverse = _
    rw [h3, eB, Nat.add_comm (A / b * 2 ^ n * b), Nat.add_mul_div_right _ _ hb]
    simp [Int.mul_comm]
theorem divInv_end {a b n k : Nat} {r : Int} {qs : List Int} (h : DivInv a b n k k r qs) : r = ((a % b : Nat) : Int) ∧ (∀ q ∈ qs, 0 ≤ q) ∧ und n qs.reverse = ((a / b : Nat) : Int) ∧ qs.length = k := by
  unfold DivInv at h
  simpa using h
theorem divInv_bound {a b n k i : Nat} {r : Int} {qs : List Int} (hb : 0 < b) (h : DivInv a b n k i r qs) : 0 ≤ r ∧ r < b := by
  have := Nat.mod_lt (a / 2 ^ (n * (k - i))) hb
  rw [h.1]; omega
theorem dig_get {a n k i : Nat} (h : i < (dig a n k).length) : (dig a n k)[i] = ((a / 2 ^ (n * i) % 2 ^ n : Nat) : Int) := by simp [dig]
theorem bitsN {b : Nat} (hb : 0 < b) (hb2 : b < 64) : 0 < Builtin.Int.intBits (b : Int) ∧ Builtin.Int.intBits (b : Int) ≤ 6 := by
  have h1 := bits_eq hb
  have h2 := log2_lt6 hb2
  omega
theorem pow_le64 {n : Nat} (h : n ≤ 6) : (2 : Int) ^ n ≤ 64 := by
  have : 2 ^ n ≤ 2 ^ 6 := Nat.pow_le_pow_right (by decide) h
  have e : ((2 ^ n : Nat) : Int) ≤ ((2 ^ 6 : Nat) : Int) := Int.ofNat_le.mpr this
  simpa using e
end
end Mine
namespace Mine
section
open PySem PySem.W PySem.Calls PyProof.Rows
def tabs : StTab → List (Addr × Obj)
  | none => [(57, tabObj #[]), (64, tabObj #[])]
  | some (x1, x2) => [(57, tabObj #[rawInt 79, rawInt 4, .ref x1.1]), (x1.1, x1.2), (64, tabObj #[rawInt 94, rawInt 4, .ref x2.1]), (x2.1, x2.2)]
def TabsOk : StTab → Prop
  | none => True
  | some (x1, x2) => TabOk 57 qi2d (some x1) ∧ TabOk 64 qd2i (some x2) ∧ @Ne Nat x1.1 64 ∧ @Ne Nat x2.1 57 ∧ @Ne Nat x1.1 x2.1
abbrev tupObj (vs : List Value) : Obj := { cls := .type "tuple", data := .seq vs.toArray }
local macro_rules | `(tactic| walk_at "exec For Name Call cons nil") => `(tactic| (k_here; k_dflt (refine for_start ?_)))
local macro_rules | `(tactic| walk_at "exec For Name Name cons nil") => `(tactic| (k_here; k_dflt (refine for_start ?_)))
local macro_rules | `(tactic| walk_at "exec For Name Subscript cons nil") => `(tactic| (k_here; k_dflt (refine for_start ?_)))
local macro_rules | `(tactic| walk_at "exec For Tuple Name cons nil") => `(tactic| (k_here; k_dflt (refine for_start ?_)))
local macro_rules | `(tactic| walk_at "setItem ref int") => `(tactic| (k_here; (with_reducible show wpAny _ _ (PySem.setItem (Value.ref _) (Value.int _ _) (Value.int _ _)) _ _ _); k_dflt (refine' setInts ?y1 ?y2 ?y3 ?y4 ?y5 ?y6 ?y7 ?_; (case y1 => k_asm); (case y2 => k_asm); (case y3 => k_upd); (case y4 => k_asm); (case y5 => omega); (case y6 => omega); (case y7 => omega)); intro h' F' N' kI; (try dsimp only at N'); (try k_sweep)))
local macro_rules | `(tactic| walk_at "call builtin:list.append") => `(tactic| (k_here; (with_reducible show wpAny _ _ (PySem.call (Value.builtin _) [Value.ref _, Value.int _ _]) _ _ _); k_dflt (refine' appInts ?y1 ?y2 ?y3 ?y4 ?y5 ?_; (case y1 => k_asm); (case y2 => k_asm); (case y3 => k_upd); (case y4 => k_asm); (case y5 => (try simp only [List.length_append, List.length_cons, List.length_nil]); omega)); intro h' F' N' kI; (try dsimp only at N'); (try k_sweep)))
local macro_rules | `(tactic| walk_at "call builtin:list.reverse") => `(tactic| (k_here; (with_reducible show wpAny _ _ (PySem.call (Value.builtin _) [Value.ref _]) _ _ _); k_dflt (refine' revInts ?y1 ?y2 ?y3 ?y4 ?y5 ?_; (case y1 => k_asm); (case y2 => k_asm); (case y3 => k_upd); (case y4 => k_asm); (case y5 => omega)); intro h' F' N' kI; (try dsimp only at N'); (try k_sweep)))
set_option maxRecDepth 100000 in
set_option maxHeartbeats 8000000 in
theorem dmp (w : World) (mean mg mb) (a b : Nat) (ta tb : Tok) (ha : 0 < a) (ha2 : a < 64) (hb : 0 < b) (hb2 : b < 64) (st : StTab) (hst : TabsOk st) :
  Ctr w mean mg mb 76 20 200 [.int (a : Int) ta, .int (b : Int) tb] (tabs st) (fun h => CodeHd h 61 57 ∧ CodeHd h 68 64) (fun v new => ∃ T t1 t2 y, TabsOk (some y) ∧ (∀ p ∈ tabs (some y), @Ne Nat p.1 T) ∧ v = .ref T ∧ new = (T, tupObj [.int ((a / b : Nat) : Int) t1, .int ((a % b : Nat) : Int) t2]) :: tabs (some y)) := by
  unfold Ctr PR
  w_top off
  k_with_none
  k_fill
  intro dp un gd cn cs aa ccd cl outer A₀ base h₀ L m s Q E B F X N T hk hpre hd hu hret
  refine wpAny_call ?_
  obtain ⟨hn0, hn6⟩ := bitsN hb hb2
  have hkl := nd_le ha2 hn0
  cases st with
  | none =>
    simp only [tabs] at *
    k_dflt (refine' enterK ?k1 ?k2 ?k3 ?k4 ?k5 ?kA ?kF ?kK ?k6 ?k7 ?k8 ?k9 ?kB ?_ ?c2 ?c3 ?c4 ?c5; (case kA => exact rfl); (case kF => exact rfl); (case kK => assumption); (case k1 => k_asm); (case k2 => k_asm); (case k3 => k_asm); (case k4 => k_asm); (case k5 => k_asm); (case k6 => k_is); (case k7 => k_is); (case k8 => ktr_room); (case k9 => (first | exact BindsTo.of_eq rfl | (refine' kp_binds ?kx ?ke; (case kx => k_in); (case ke => exact fun _ => rfl)))); (case c5 => decide); (case kB => exact locs rfl); (case c2 => exact rfl); (case c3 => exact rfl); (case c4 => exact rfl); k_whole; intro g' L' h' FG' F' N' B' X' T' hlt' hkb' hfr')
    (try k_lt hlt')
    obtain ⟨hcd1, hcd2⟩ := hpre _ hkb'
    (try dsimp only); (try k_fold)
    k_steps
    refine' (i2d w mean mg mb a (Builtin.Int.intBits (b : Int)) _ _ ha ha2 hn0 (by omega) none trivial).use ?kB ?kF ?kX ?kN ?kT ?kk ?ks ?kp ?kd ?ku [(64, tabObj #[])] ?kr ?_
    case kB => k_asm
    case kF => k_asm
    case kX => k_asm
    case kN => k_asm
    case kT => k_asm
    case kk => exact rfl
    case ks => k_allIn
    case kp => exact fun g hg => CodeHd.keeps hcd1 (kept_get (by k_asm) (news_sub (by k_asm) (by k_allIn)) hg)
    case kd => ktr_room
    case ku => ktr_units
    case kr => repeat' (first | exact List.forall_mem_nil _ | refine List.forall_mem_cons.mpr ⟨⟨by k_memK, ?_⟩, ?_⟩ | exact List.not_mem_nil | refine notIn_cons (by (try dsimp only); omega) ?_)
    rintro v8 new8 h8 tk8 ⟨D8, vs8, c1, oc1, rfl, hI8, hok1, ⟨hD8, hD8'⟩, rfl⟩ F8 N8 ap8
    simp only [tabL, List.cons_append, List.nil_append] at N8
    have hc3 : @Ne Nat c1 64 := ap8 _ (.tail _ (.tail _ (.head _))) _ (.head _)
    (try dsimp only); (try k_fold)
    k_steps
    rename_i q9 hA lA hB D9 hC F9 N9 lB
    refine' forRev (vs := vs8) (l := D8) (D := D9) (σ := List Value × List Int × Nat × Int × Nat)
      (fun c => [(q9, W.listOf c.1.toArray c.2.2.1), (D8, W.listOf vs8.toArray 0), (57, tabObj #[rawInt 79, rawInt 4, .ref c1]), (c1, oc1), (64, tabObj #[])])
      (fun c => [(Str.ofString "r", .int c.2.2.2.1 c.2.2.2.2)])
      (fun i c => IntsAre c.1 c.2.1 ∧ DivInv a b (Builtin.Int.intBits (b : Int)) (nd a (Builtin.Int.intBits (b : Int))) i c.2.2.2.1 c.2.1)
      [Str.ofString "a_digit", Str.ofString "q_digit"] ([], [], 0, 0, _) rfl ⟨_, (N9 _ (.tail _ (.tail _ (.head _)))).1, rfl, 0, rfl⟩ hI8 (.inr ⟨_, fun c => .tail _ (.head _)⟩) (by omega) F9 N9 ?hne ⟨.nil, divInv_start (nd_pow hn0)⟩ ?hk ?turn ?done
    case hne => repeat' (first | exact List.forall_mem_nil _ | refine List.forall_mem_cons.mpr ⟨(by (try dsimp only); omega), ?_⟩)
    case hk => exact List.forall_mem_cons.mpr ⟨by dsimp only; with_unfolding_all rfl, List.forall_mem_nil _⟩
    case turn =>
      rintro i hi t ⟨vq, qs, kk, r, tr⟩ u h tk oI ⟨hIq, hinv⟩ hne F7 N7
      dsimp only [kstB] at hIq hinv hne F7 N7
      have hrb := divInv_bound hb hinv
      have hr64 : r.natAbs < 2 ^ 64 := by omega
      (try dsimp only); (try k_fold)
      k_steps
      have hp64 := pow_le64 hn6
      have hp0 : (0 : Int) < 2 ^ (Builtin.Int.intBits (b : Int)) := Int.pow_pos (by decide)
      have hdv : (dig a (Builtin.Int.intBits (b : Int)) (nd a (Builtin.Int.intBits (b : Int))))[(dig a (Builtin.Int.intBits (b : Int)) (nd a (Builtin.Int.intBits (b : Int)))).length - 1 - i]'(by omega) = ((a / 2 ^ (Builtin.Int.intBits (b : Int) * (nd a (Builtin.Int.intBits (b : Int)) - 1 - i)) % 2 ^ (Builtin.Int.intBits (b : Int)) : Nat) : Int) := by
        rw [dig_get]; simp only [dig_length]
      rw [hdv, Int.toNat_natCast]
      have hd0 : (((a / 2 ^ (Builtin.Int.intBits (b : Int) * (nd a (Builtin.Int.intBits (b : Int)) - 1 - i)) % 2 ^ (Builtin.Int.intBits (b : Int)) : Nat) : Int)) < 64 := by
        have q := Nat.mod_lt (a / 2 ^ (Builtin.Int.intBits (b : Int) * (nd a (Builtin.Int.intBits (b : Int)) - 1 - i))) (Nat.pow_pos (n := Builtin.Int.intBits (b : Int)) (show 0 < 2 by decide))
        have q2 : (((2 : Nat) ^ (Builtin.Int.intBits (b : Int)) : Nat) : Int) = (2 : Int) ^ (Builtin.Int.intBits (b : Int)) := by simp
        omega
      rw [dig_length] at hi
      generalize hdd : (((a / 2 ^ (Builtin.Int.intBits (b : Int) * (nd a (Builtin.Int.intBits (b : Int)) - 1 - i)) % 2 ^ (Builtin.Int.intBits (b : Int)) : Nat) : Int)) = d at *
      have hx0 : 0 ≤ r * 2 ^ (Builtin.Int.intBits (b : Int)) := Int.mul_nonneg hrb.1 (by omega)
      have hx1 : r * 2 ^ (Builtin.Int.intBits (b : Int)) ≤ 64 * 64 := Int.mul_le_mul (by omega) hp64 (by omega) (by omega)
      have hinv' := divInv_step (d := d) hb hi hinv (by rw [← hdd])
      refine' (div2n w mean mg mb (r * 2 ^ (Builtin.Int.intBits (b : Int)) + d) (b : Int) ((Builtin.Int.intBits (b : Int) : Nat) : Int) _ _ _ (by omega) (by omega) (by omega) (by omega) (by omega)).use ?kB ?kF ?kX ?kN ?kT ?kk ?ks ?kp ?kd ?ku [(D9, oI), (q9, W.listOf vq.toArray kk), (D8, W.listOf vs8.toArray 0), (57, tabObj #[rawInt 79, rawInt 4, .ref c1]), (c1, oc1), (64, tabObj #[])] ?kr ?_
      case kB => k_asm
      case kF => k_asm
      case kX => k_asm
      case kN => k_asm
      case kT => k_asm
      case kk => exact rfl
      case ks => exact List.forall_mem_nil _
      case kp => exact fun g hg => trivial
      case kd => ktr_room
      case ku => ktr_units
      case kr => repeat' (first | exact List.forall_mem_nil _ | refine List.forall_mem_cons.mpr ⟨⟨by k_memK, List.not_mem_nil⟩, ?_⟩)
      rintro v7 new7 h7 tk7 ⟨T7, t1, t2, rfl, rfl⟩ F7 N7 ap7
      have hT7 : @Ne Nat T7 q9 := ap7 _ (.head _) _ (.tail _ (.head _))
      have hqs := hinv.2.2.2
      simp only [List.cons_append, List.nil_append] at N7
      (try dsimp only); (try k_fold)
      k_steps
      refine' stepS_next ⟨_, _, _, _, _⟩ ?z1 ?z2 ?z3 ?z4 ?z5 ⟨?z6, hinv'⟩ ?z7
      case z2 => k_asm
      case z1 => kst_all
      case z3 => k_asm
      case z4 => k_allIn
      case z5 => repeat' (first | exact List.forall_mem_nil _ | refine List.forall_mem_cons.mpr ⟨(by (try dsimp only); omega), ?_⟩)
      case z6 => assumption
      case z7 => ksw_same
    case done =>
      rintro ⟨vq, qs, kk, r, tr⟩ u h tk ⟨hIq, hinv⟩ F7 N7
      dsimp only [kstB] at hIq hinv F7 N7
      rw [dig_length] at hinv
      obtain ⟨hr, hqp, hqu, hql⟩ := divInv_end hinv
      subst hr
      have hkp := nd_pos (a := a) hn0
      have hab : a / b < 64 := Nat.lt_of_le_of_lt (Nat.div_le_self a b) ha2
      k_steps
      rename_i hF F6 N6 kI6
      refine' (d2i w mean mg mb q9 vq.reverse qs.reverse (Builtin.Int.intBits (b : Int)) _ kI6 (by rw [List.length_reverse]; omega) (by rw [List.length_reverse]; omega) (fun d hd => hqp d (List.mem_reverse.mp hd)) (by omega) hn0 (by omega) none trivial).use ?kB ?kF ?kX ?kN ?kT ?kk ?ks ?kp ?kd ?ku [(q9, W.listOf vq.reverse.toArray kk), (57, tabObj #[rawInt 79, rawInt 4, .ref c1]), (c1, oc1)] ?kr ?_
      case kB => k_asm
      case kF => k_asm
      case kX => k_asm
      case kN => k_asm
      case kT => k_asm
      case kk => exact rfl
      case ks => k_allIn
      case kp => exact fun g hg => ⟨CodeHd.keeps hcd2 (kept_get F6 (news_sub N6 (by k_allIn)) hg), ⟨_, hg _ _ (N6 _ (.head _)).1 (notIn_cons (by (try dsimp only); omega) List.not_mem_nil), rfl, _, rfl⟩⟩
      case kd => ktr_room
      case ku => ktr_units
      case kr => repeat' (first | exact List.forall_mem_nil _ | refine List.forall_mem_cons.mpr ⟨⟨by k_memK, ?_⟩, ?_⟩ | exact List.not_mem_nil | refine notIn_cons (by (try dsimp only); omega) ?_)
      rintro v5 new5 h5 tk5 ⟨⟨t5, rfl⟩, c2, oc2, hok2, rfl⟩ F5 N5 ap5
      rw [hqu]
      simp only [tabL, List.cons_append, List.nil_append] at N5
      have hc1 : @Ne Nat c2 57 := ap5 _ (.tail _ (.head _)) _ (.tail _ (.head _))
      have hc2 : @Ne Nat c2 c1 := ap5 _ (.tail _ (.head _)) _ (.tail _ (.tail _ (.head _)))
      clear N6 F6
      (try dsimp only); (try k_fold)
      k_steps
      rename_i T9 hG FT NT lT kF kN Tc kX kK
      exact hret _ [(T9, _), (57, tabObj #[rawInt 79, rawInt 4, .ref c1]), (c1, oc1), (64, tabObj #[rawInt 94, rawInt 4, .ref c2]), (c2, oc2)] _ _ ⟨T9, _, _, ((c1, oc1), (c2, oc2)), ⟨hok1, hok2, hc3, hc1, Ne.symm hc2⟩,
        (by repeat' (first | exact List.forall_mem_nil _ | refine List.forall_mem_cons.mpr ⟨(by (try dsimp only); omega), ?_⟩)), rfl, rfl⟩ (by k_asm) (news_sub kN (by k_allIn)) (by assumption) (fun p hp => hfr' _ (news_sub NT (by k_allIn) p hp).2.2)
  | some x =>
    obtain ⟨⟨c0, oc0⟩, ⟨d0, od0⟩⟩ := x
    obtain ⟨hok0, hokd, hx1, hx2, hx3⟩ := hst
    simp only [tabs] at *
    k_dflt (refine' enterK ?k1 ?k2 ?k3 ?k4 ?k5 ?kA ?kF ?kK ?k6 ?k7 ?k8 ?k9 ?kB ?_ ?c2 ?c3 ?c4 ?c5; (case kA => exact rfl); (case kF => exact rfl); (case kK => assumption); (case k1 => k_asm); (case k2 => k_asm); (case k3 => k_asm); (case k4 => k_asm); (case k5 => k_asm); (case k6 => k_is); (case k7 => k_is); (case k8 => ktr_room); (case k9 => (first | exact BindsTo.of_eq rfl | (refine' kp_binds ?kx ?ke; (case kx => k_in); (case ke => exact fun _ => rfl)))); (case c5 => decide); (case kB => exact locs rfl); (case c2 => exact rfl); (case c3 => exact rfl); (case c4 => exact rfl); k_whole; intro g' L' h' FG' F' N' B' X' T' hlt' hkb' hfr')
    (try k_lt hlt')
    obtain ⟨hcd1, hcd2⟩ := hpre _ hkb'
    (try dsimp only); (try k_fold)
    k_steps
    refine' (i2d w mean mg mb a (Builtin.Int.intBits (b : Int)) _ _ ha ha2 hn0 (by omega) (some (c0, oc0)) hok0).use ?kB ?kF ?kX ?kN ?kT ?kk ?ks ?kp ?kd ?ku [(64, tabObj #[rawInt 94, rawInt 4, .ref d0]), (d0, od0)] ?kr ?_
    case kB => k_asm
    case kF => k_asm
    case kX => k_asm
    case kN => k_asm
    case kT => k_asm
    case kk => exact rfl
    case ks => k_allIn
    case kp => exact fun g hg => CodeHd.keeps hcd1 (kept_get (by k_asm) (news_sub (by k_asm) (by k_allIn)) hg)
    case kd => ktr_room
    case ku => ktr_units
    case kr => repeat' (first | exact List.forall_mem_nil _ | refine List.forall_mem_cons.mpr ⟨⟨by k_memK, ?_⟩, ?_⟩ | exact List.not_mem_nil | refine notIn_cons (by (try dsimp only); omega) ?_)
    rintro v8 new8 h8 tk8 ⟨D8, vs8, c1, oc1, rfl, hI8, hok1, ⟨hD8, hD8'⟩, rfl⟩ F8 N8 ap8
    simp only [tabL, List.cons_append, List.nil_append] at N8
    have hc3 : @Ne Nat c1 64 := ap8 _ (.tail _ (.tail _ (.head _))) _ (.head _)
    have hc4 : @Ne Nat c1 d0 := ap8 _ (.tail _ (.tail _ (.head _))) _ (.tail _ (.head _))
    have hc5 : @Ne Nat D8 d0 := ap8 _ (.head _) _ (.tail _ (.head _))
    (try dsimp only); (try k_fold)
    k_steps
    rename_i q9 hA lA hB D9 hC F9 N9 lB
    refine' forRev (vs := vs8) (l := D8) (D := D9) (σ := List Value × List Int × Nat × Int × Nat)
      (fun c => [(q9, W.listOf c.1.toArray c.2.2.1), (D8, W.listOf vs8.toArray 0), (57, tabObj #[rawInt 79, rawInt 4, .ref c1]), (c1, oc1), (64, tabObj #[rawInt 94, rawInt 4, .ref d0]), (d0, od0)])
      (fun c => [(Str.ofString "r", .int c.2.2.2.1 c.2.2.2.2)])
      (fun i c => IntsAre c.1 c.2.1 ∧ DivInv a b (Builtin.Int.intBits (b : Int)) (nd a (Builtin.Int.intBits (b : Int))) i c.2.2.2.1 c.2.1)
      [Str.ofString "a_digit", Str.ofString "q_digit"] ([], [], 0, 0, _) rfl ⟨_, (N9 _ (.tail _ (.tail _ (.head _)))).1, rfl, 0, rfl⟩ hI8 (.inr ⟨_, fun c => .tail _ (.head _)⟩) (by omega) F9 N9 ?hne ⟨.nil, divInv_start (nd_pow hn0)⟩ ?hk ?turn ?done
    case hne => repeat' (first | exact List.forall_mem_nil _ | refine List.forall_mem_cons.mpr ⟨(by (try dsimp only); omega), ?_⟩)
    case hk => exact List.forall_mem_cons.mpr ⟨by dsimp only; with_unfolding_all rfl, List.forall_mem_nil _⟩
    case turn =>
      rintro i hi t ⟨vq, qs, kk, r, tr⟩ u h tk oI ⟨hIq, hinv⟩ hne F7 N7
      dsimp only [kstB] at hIq hinv hne F7 N7
      have hrb := divInv_bound hb hinv
      have hr64 : r.natAbs < 2 ^ 64 := by omega
      (try dsimp only); (try k_fold)
      k_steps
      have hp64 := pow_le64 hn6
      have hp0 : (0 : Int) < 2 ^ (Builtin.Int.intBits (b : Int)) := Int.pow_pos (by decide)
      have hdv : (dig a (Builtin.Int.intBits (b : Int)) (nd a (Builtin.Int.intBits (b : Int))))[(dig a (Builtin.Int.intBits (b : Int)) (nd a (Builtin.Int.intBits (b : Int)))).length - 1 - i]'(by omega) = ((a / 2 ^ (Builtin.Int.intBits (b : Int) * (nd a (Builtin.Int.intBits (b : Int)) - 1 - i)) % 2 ^ (Builtin.Int.intBits (b : Int)) : Nat) : Int) := by
        rw [dig_get]; simp only [dig_length]
      rw [hdv, Int.toNat_natCast]
      have hd0 : (((a / 2 ^ (Builtin.Int.intBits (b : Int) * (nd a (Builtin.Int.intBits (b : Int)) - 1 - i)) % 2 ^ (Builtin.Int.intBits (b : Int)) : Nat) : Int)) < 64 := by
        have q := Nat.mod_lt (a / 2 ^ (Builtin.Int.intBits (b : Int) * (nd a (Builtin.Int.intBits (b : Int)) - 1 - i))) (Nat.pow_pos (n := Builtin.Int.intBits (b : Int)) (show 0 < 2 by decide))
        have q2 : (((2 : Nat) ^ (Builtin.Int.intBits (b : Int)) : Nat) : Int) = (2 : Int) ^ (Builtin.Int.intBits (b : Int)) := by simp
        omega
      rw [dig_length] at hi
      generalize hdd : (((a / 2 ^ (Builtin.Int.intBits (b : Int) * (nd a (Builtin.Int.intBits (b : Int)) - 1 - i)) % 2 ^ (Builtin.Int.intBits (b : Int)) : Nat) : Int)) = d at *
      have hx0 : 0 ≤ r * 2 ^ (Builtin.Int.intBits (b : Int)) := Int.mul_nonneg hrb.1 (by omega)
      have hx1 : r * 2 ^ (Builtin.Int.intBits (b : Int)) ≤ 64 * 64 := Int.mul_le_mul (by omega) hp64 (by omega) (by omega)
      have hinv' := divInv_step (d := d) hb hi hinv (by rw [← hdd])
      refine' (div2n w mean mg mb (r * 2 ^ (Builtin.Int.intBits (b : Int)) + d) (b : Int) ((Builtin.Int.intBits (b : Int) : Nat) : Int) _ _ _ (by omega) (by omega) (by omega) (by omega) (by omega)).use ?kB ?kF ?kX ?kN ?kT ?kk ?ks ?kp ?kd ?ku [(D9, oI), (q9, W.listOf vq.toArray kk), (D8, W.listOf vs8.toArray 0), (57, tabObj #[rawInt 79, rawInt 4, .ref c1]), (c1, oc1), (64, tabObj #[rawInt 94, rawInt 4, .ref d0]), (d0, od0)] ?kr ?_
      case kB => k_asm
      case kF => k_asm
      case kX => k_asm
      case kN => k_asm
      case kT => k_asm
      case kk => exact rfl
      case ks => exact List.forall_mem_nil _
      case kp => exact fun g hg => trivial
      case kd => ktr_room
      case ku => ktr_units
      case kr => repeat' (first | exact List.forall_mem_nil _ | refine List.forall_mem_cons.mpr ⟨⟨by k_memK, List.not_mem_nil⟩, ?_⟩)
      rintro v7 new7 h7 tk7 ⟨T7, t1, t2, rfl, rfl⟩ F7 N7 ap7
      have hT7 : @Ne Nat T7 q9 := ap7 _ (.head _) _ (.tail _ (.head _))
      have hqs := hinv.2.2.2
      simp only [List.cons_append, List.nil_append] at N7
      (try dsimp only); (try k_fold)
      k_steps
      refine' stepS_next ⟨_, _, _, _, _⟩ ?z1 ?z2 ?z3 ?z4 ?z5 ⟨?z6, hinv'⟩ ?z7
      case z2 => k_asm
      case z1 => kst_all
      case z3 => k_asm
      case z4 => k_allIn
      case z5 => repeat' (first | exact List.forall_mem_nil _ | refine List.forall_mem_cons.mpr ⟨(by (try dsimp only); omega), ?_⟩)
      case z6 => assumption
      case z7 => ksw_same
    case done =>
      rintro ⟨vq, qs, kk, r, tr⟩ u h tk ⟨hIq, hinv⟩ F7 N7
      dsimp only [kstB] at hIq hinv F7 N7
      rw [dig_length] at hinv
      obtain ⟨hr, hqp, hqu, hql⟩ := divInv_end hinv
      subst hr
      have hkp := nd_pos (a := a) hn0
      have hab : a / b < 64 := Nat.lt_of_le_of_lt (Nat.div_le_self a b) ha2
      k_steps
      rename_i hF F6 N6 kI6
      refine' (d2i w mean mg mb q9 vq.reverse qs.reverse (Builtin.Int.intBits (b : Int)) _ kI6 (by rw [List.length_reverse]; omega) (by rw [List.length_reverse]; omega) (fun d hd => hqp d (List.mem_reverse.mp hd)) (by omega) hn0 (by omega) (some (d0, od0)) hokd).use ?kB ?kF ?kX ?kN ?kT ?kk ?ks ?kp ?kd ?ku [(q9, W.listOf vq.reverse.toArray kk), (57, tabObj #[rawInt 79, rawInt 4, .ref c1]), (c1, oc1)] ?kr ?_
      case kB => k_asm
      case kF => k_asm
      case kX => k_asm
      case kN => k_asm
      case kT => k_asm
      case kk => exact rfl
      case ks => k_allIn
      case kp => exact fun g hg => ⟨CodeHd.keeps hcd2 (kept_get F6 (news_sub N6 (by k_allIn)) hg), ⟨_, hg _ _ (N6 _ (.head _)).1 (notIn_cons (by (try dsimp only); omega) (notIn_cons (by (try dsimp only); omega) List.not_mem_nil)), rfl, _, rfl⟩⟩
      case kd => ktr_room
      case ku => ktr_units
      case kr => repeat' (first | exact List.forall_mem_nil _ | refine List.forall_mem_cons.mpr ⟨⟨by k_memK, ?_⟩, ?_⟩ | exact List.not_mem_nil | refine notIn_cons (by (try dsimp only); omega) ?_)
      rintro v5 new5 h5 tk5 ⟨⟨t5, rfl⟩, c2, oc2, hok2, rfl⟩ F5 N5 ap5
      rw [hqu]
      simp only [tabL, List.cons_append, List.nil_append] at N5
      have hc1 : @Ne Nat c2 57 := ap5 _ (.tail _ (.head _)) _ (.tail _ (.head _))
      have hc2 : @Ne Nat c2 c1 := ap5 _ (.tail _ (.head _)) _ (.tail _ (.tail _ (.head _)))
      clear N6 F6
      (try dsimp only); (try k_fold)
      k_steps
      rename_i T9 hG FT NT lT kF kN Tc kX kK
      exact hret _ [(T9, _), (57, tabObj #[rawInt 79, rawInt 4, .ref c1]), (c1, oc1), (64, tabObj #[rawInt 94, rawInt 4, .ref c2]), (c2, oc2)] _ _ ⟨T9, _, _, ((c1, oc1), (c2, oc2)), ⟨hok1, hok2, hc3, hc1, Ne.symm hc2⟩,
        (by repeat' (first | exact List.forall_mem_nil _ | refine List.forall_mem_cons.mpr ⟨(by (try dsimp only); omega), ?_⟩)), rfl, rfl⟩ (by k_asm) (news_sub kN (by k_allIn)) (by assumption) (fun p hp => hfr' _ (news_sub NT (by k_allIn) p hp).2.2)
end
end Mine
namespace Mine
section
open PySem PySem.W PySem.Calls PyProof.Rows
set_option maxRecDepth 100000 in
set_option maxHeartbeats 8000000 in
theorem idm (w : World) (mean mg mb) (a b : Nat) (ta tb : Tok) (ha : 0 < a) (ha2 : a < 64) (hb : 0 < b) (hb2 : b < 64) (st : StTab) (hst : TabsOk st) :
  Ctr w mean mg mb 83 22 220 [.int (a : Int) ta, .int (b : Int) tb] (tabs st) (fun h => CodeHd h 61 57 ∧ CodeHd h 68 64) (fun v new => ∃ T t1 t2 y, TabsOk (some y) ∧ (∀ p ∈ tabs (some y), @Ne Nat p.1 T) ∧ v = .ref T ∧ new = (T, tupObj [.int ((a / b : Nat) : Int) t1, .int ((a % b : Nat) : Int) t2]) :: tabs (some y)) := by
  unfold Ctr PR
  w_top off
  k_with_none
  k_fill
  intro dp un gd cn cs aa ccd cl outer A₀ base h₀ L m s Q E B F X N T hk hpre hd hu hret
  refine wpAny_call ?_
  k_dflt (refine' enterK ?k1 ?k2 ?k3 ?k4 ?k5 ?kA ?kF ?kK ?k6 ?k7 ?k8 ?k9 ?kB ?_ ?c2 ?c3 ?c4 ?c5; (case kA => exact rfl); (case kF => exact rfl); (case kK => assumption); (case k1 => k_asm); (case k2 => k_asm); (case k3 => k_asm); (case k4 => k_asm); (case k5 => k_asm); (case k6 => k_is); (case k7 => k_is); (case k8 => ktr_room); (case k9 => (first | exact BindsTo.of_eq rfl | (refine' kp_binds ?kx ?ke; (case kx => k_in); (case ke => exact fun _ => rfl)))); (case c5 => decide); (case kB => exact locs rfl); (case c2 => exact rfl); (case c3 => exact rfl); (case c4 => exact rfl); k_whole; intro g' L' h' FG' F' N' B' X' T' hlt' hkb' hfr')
  (try k_lt hlt')
  obtain ⟨hcd1, hcd2⟩ := hpre _ hkb'
  have hb9 : ¬ ((b : Int) = 0) := by omega
  have hb8 : ¬ ((b : Int) < 0) := by omega
  have ha8 : ¬ ((a : Int) < 0) := by omega
  (try dsimp only); (try k_fold)
  k_steps
  all_goals (try (exfalso; omega))
  refine' (dmp w mean mg mb a b _ _ ha ha2 hb hb2 st hst).use ?kB ?kF ?kX ?kN ?kT ?kk ?ks ?kp ?kd ?ku [] ?kr ?_
  case kB => k_asm
  case kF => k_asm
  case kX => k_asm
  case kN => k_asm
  case kT => k_asm
  case kk => exact rfl
  case ks => exact fun _ h => h
  case kp => exact fun g hg => ⟨CodeHd.keeps hcd1 (kept_get F' N' hg), CodeHd.keeps hcd2 (kept_get F' N' hg)⟩
  case kd => ktr_room
  case ku => ktr_units
  case kr => exact List.forall_mem_nil _
  rintro v5 new5 h5 tk5 ⟨T5, t1, t2, y, hy, hT, rfl, rfl⟩ F5 N5 ap5
  rw [List.append_nil] at N5
  (try dsimp only); (try k_fold)
  k_steps
  exact hret _ _ _ _ ⟨T5, t1, t2, y, hy, hT, rfl, rfl⟩ (by k_asm) (by k_asm) (by assumption) (fun p hp => hfr' _ (N5 p hp).2.2)
end
end Mine
namespace Mine
section
open PySem PySem.W PySem.Calls PyProof.Rows
section
variable {prog : Program} {w : World} {A : Around} {E : Value → Shared → Prop} {s : Shared} {env : Env} {h₀ : Heap} {L : Addr} {m : Str → Option Value} {news news' : List (Addr × Obj)}
def WhileGoal (prog : Program) (w : World) (A : Around) (test : Expr) (body : List Stmt) (pos : Pos) (env : Env) (Q : Flow → Shared → Prop) (s : Shared) : Prop :=
  wpAny (model prog w) A (exec (.While test body [] pos) env) Q (fun _ _ => False) s
theorem while_start {test : Expr} {body : List Stmt} {pos : Pos} {Q : Flow → Shared → Prop} (h : WhileGoal prog w A test body pos env Q s) : wpAny (model prog w) A (exec (.While test body [] pos) env) Q E s :=
  wpAny_noRaise h
/-- a list grown by a reference -/
theorem appRef {D : Addr} {vs : List Value} {n k : Nat} {T : Addr} {Q : Value → Shared → Prop} {pre post : List (Addr × Obj)} (F : Fr h₀ L s.heap m) (N : News h₀ L s.heap (pre ++ (D, W.listOf vs.toArray n) :: post))
    (h1 : ∀ p ∈ pre, @Ne Nat p.1 D) (h2 : ∀ p ∈ post, @Ne Nat p.1 D) (hv : vs.length = k) (hz : k < 2 ^ 20)
    (h : ∀ h', Fr h₀ L h' m → News h₀ L h' (pre ++ (D, W.listOf (vs ++ [Value.ref T]).toArray (n + 1)) :: post) → Q .none { s with heap := h' }) : wpAny (model prog w) A (call (.builtin "list.append") [.ref D, .ref T]) Q E s := by
  have z := N (D, W.listOf vs.toArray n) (List.mem_append.mpr (.inr (.head _)))
  have hsz : vs.toArray.size ≤ sizeLine := by rw [List.size_toArray, hv, sizeLine_eq]; omega
  refine append_at (hsz := hsz) z.1 fun h' hs ho' => h h' (F.change hs z.2.1 z.2.2) ?_
  have ho2 : h'.get? D = some (W.listOf (vs ++ [Value.ref T]).toArray (n + 1)) := by rw [← List.push_toArray]; exact ho'
  exact news_set N h1 h2 hs ho2
end
/-- the references of vs stand for the pairs ps -/
inductive PairsIn (tps : List (Addr × Obj)) : List Value → List (Nat × Nat) → Prop
  | nil : PairsIn tps [] []
  | cons {T : Addr} {c o : Nat} {t1 t2 : Tok} {vs : List Value} {ps : List (Nat × Nat)} : (T, tupObj [.int (c : Int) t1, .int (o : Int) t2]) ∈ tps → PairsIn tps vs ps → PairsIn tps (.ref T :: vs) ((c, o) :: ps)
theorem PairsIn.length {tps : List (Addr × Obj)} : ∀ {vs : List Value} {ps : List (Nat × Nat)}, PairsIn tps vs ps → vs.length = ps.length
  | _, _, .nil => rfl
  | _, _, .cons _ h => congrArg (· + 1) h.length
theorem PairsIn.mono {tps tps' : List (Addr × Obj)} (hs : ∀ p ∈ tps, p ∈ tps') : ∀ {vs : List Value} {ps : List (Nat × Nat)}, PairsIn tps vs ps → PairsIn tps' vs ps
  | _, _, .nil => .nil
  | _, _, .cons h r => .cons (hs _ h) (r.mono hs)
theorem PairsIn.snoc {tps : List (Addr × Obj)} {T : Addr} {c o : Nat} {t1 t2 : Tok} (hm : (T, tupObj [.int (c : Int) t1, .int (o : Int) t2]) ∈ tps) : ∀ {vs : List Value} {ps : List (Nat × Nat)}, PairsIn tps vs ps → PairsIn tps (vs ++ [Value.ref T]) (ps ++ [(c, o)])
  | _, _, .nil => .cons hm .nil
  | _, _, .cons h r => .cons h (r.snoc hm)
end
end Mine
namespace Mine
section
open PySem PySem.W PySem.Calls PyProof.Rows
/-- the greatest coin that is no more than V -/
def coinOf (ns : List Int) (V : Nat) : Nat := (ns.getD (bis ns (V : Int) - 1) 0).toNat
/-- the pairs that are laid from V on, with at most f turns, and what is left -/
def pays (ns : List Int) : Nat → Nat → List (Nat × Nat) × Nat
  | 0, V => ([], V)
  | f + 1, V => if V = 0 then ([], 0) else ((coinOf ns V, V / coinOf ns V) :: (pays ns f (V % coinOf ns V)).1, (pays ns f (V % coinOf ns V)).2)
structure Coins (ns : List Int) : Prop where
  sorted : ns.Pairwise (· ≤ ·)
  pos : ∀ c ∈ ns, 0 < c
  one : ns[0]? = some 1
  len : ns.length < 10
theorem bis_pos {ns : List Int} (h : Coins ns) {V : Nat} (hV : 0 < V) : 0 < bis ns (V : Int) := by
  unfold bis
  refine List.countP_pos_iff.mpr ⟨1, List.mem_of_getElem? h.one, ?_⟩
  simp; omega
theorem bis_le (ns : List Int) (x : Int) : bis ns x ≤ ns.length := List.countP_le_length
theorem coin_get {ns : List Int} (h : Coins ns) {V : Nat} (hV : 0 < V) : ns.getD (bis ns (V : Int) - 1) 0 = (coinOf ns V : Int) ∧ 0 < coinOf ns V ∧ coinOf ns V ≤ V := by
  have h1 := bis_pos h hV
  have h2 := bis_le ns (V : Int)
  have hlt : bis ns (V : Int) - 1 < ns.length := by omega
  have e : ns.getD (bis ns (V : Int) - 1) 0 = ns[bis ns (V : Int) - 1] := by
    rw [List.getD_eq_getElem?_getD, List.getElem?_eq_getElem hlt]; rfl
  have hp := h.pos _ (List.getElem_mem hlt)
  have hle : ns[bis ns (V : Int) - 1] ≤ (V : Int) := by
    refine Classical.byContradiction fun hc => ?_
    have hgt : (V : Int) < ns[bis ns (V : Int) - 1] := by omega
    -- all from that place on are greater: the count is less
    have e1 : ns.countP (fun c => decide (c ≤ (V : Int))) = (ns.take (bis ns (V : Int) - 1)).countP (fun c => decide (c ≤ (V : Int))) + (ns.drop (bis ns (V : Int) - 1)).countP (fun c => decide (c ≤ (V : Int))) := by
      rw [← List.countP_append, List.take_append_drop]
    have e2 : (ns.drop (bis ns (V : Int) - 1)).countP (fun c => decide (c ≤ (V : Int))) = 0 := by
      rw [List.countP_eq_zero]
      intro a ha
      obtain ⟨i, hi, rfl⟩ := List.mem_iff_getElem.mp ha
      rw [List.length_drop] at hi
      rw [List.getElem_drop]
      have := sorted_le h.sorted (i := bis ns (V : Int) - 1) (j := bis ns (V : Int) - 1 + i) (by omega) (List.getElem?_eq_getElem hlt) (List.getElem?_eq_getElem (by omega))
      simp only [decide_eq_true_eq]
      omega
    have e3 : (ns.take (bis ns (V : Int) - 1)).countP (fun c => decide (c ≤ (V : Int))) ≤ bis ns (V : Int) - 1 :=
      Nat.le_trans List.countP_le_length (by rw [List.length_take]; exact Nat.min_le_left _ _)
    have e4 : bis ns (V : Int) = ns.countP (fun c => decide (c ≤ (V : Int))) := rfl
    omega
  have e5 : coinOf ns V = ns[bis ns (V : Int) - 1].toNat := by unfold coinOf; rw [e]
  rw [e, e5]
  omega
/-- what a payment's turns keep -/
def PayInv (ns : List Int) (W V : Nat) (ps : List (Nat × Nat)) : Prop :=
  ps.length ≤ 9 ∧ V ≤ W ∧ pays ns 9 W = (ps ++ (pays ns (9 - ps.length) V).1, (pays ns (9 - ps.length) V).2)
theorem payInv_start (ns : List Int) (W : Nat) : PayInv ns W W [] := ⟨by simp, Nat.le_refl _, by simp⟩
theorem payInv_step {ns : List Int} {W V : Nat} {ps : List (Nat × Nat)} (h : PayInv ns W V ps) (hV : 0 < V) (hl : ps.length < 9) (hc : 0 < coinOf ns V) :
    PayInv ns W (V % coinOf ns V) (ps ++ [(coinOf ns V, V / coinOf ns V)]) := by
  obtain ⟨_, h2, h3⟩ := h
  refine ⟨by simp; omega, Nat.le_trans (Nat.mod_le _ _) h2, ?_⟩
  have e : 9 - ps.length = (9 - (ps ++ [(coinOf ns V, V / coinOf ns V)]).length) + 1 := by simp; omega
  rw [h3, e]
  have hV' : V ≠ 0 := by omega
  simp [pays, hV']
theorem payInv_end {ns : List Int} {W V : Nat} {ps : List (Nat × Nat)} (h : PayInv ns W V ps) (he : ¬ (0 < V ∧ ps.length < 9)) : pays ns 9 W = (ps, V) := by
  obtain ⟨h1, _, h3⟩ := h
  rw [h3]
  rcases Nat.eq_zero_or_pos V with rfl | hV
  · cases 9 - ps.length <;> simp [pays]
  · have : 9 - ps.length = 0 := by
      have : ¬ ps.length < 9 := fun q => he ⟨hV, q⟩
      omega
    rw [this]; simp [pays]
end
end Mine
namespace Mine
section
open PySem PySem.W PySem.Calls PyProof.Rows
local macro_rules | `(tactic| walk_at "exec While BoolOp cons nil") => `(tactic| (k_here; k_dflt (refine while_start ?_)))
local macro_rules | `(tactic| walk_at "exec While Compare cons nil") => `(tactic| (k_here; k_dflt (refine while_start ?_)))
local macro_rules | `(tactic| walk_at "subscriptTail Name BinOp ref int") => `(tactic| (k_here; (with_reducible show wpAny _ _ (PySem.subscriptTail _ _ (Value.ref _) (Value.int _ _)) _ _ _); k_dflt (refine' subInts ?y1 ?y2 ?y3 ?y4 ?y5 ?_ (by with_unfolding_all rfl); (case y1 => is_list); (case y2 => k_asm); (case y3 => first | decide | omega); (case y4 => omega); (case y5 => omega)); intro t'))
local macro_rules | `(tactic| walk_at "subscriptTail Name Name ref int") => `(tactic| (k_here; (with_reducible show wpAny _ _ (PySem.subscriptTail _ _ (Value.ref _) (Value.int _ _)) _ _ _); k_dflt (refine' subInts ?y1 ?y2 ?y3 ?y4 ?y5 ?_ (by with_unfolding_all rfl); (case y1 => is_list); (case y2 => k_asm); (case y3 => first | decide | omega); (case y4 => omega); (case y5 => omega)); intro t'))
local macro_rules | `(tactic| walk_at "subscriptTail Name Constant ref int") => `(tactic| (k_here; (with_reducible show wpAny _ _ (PySem.subscriptTail _ _ (Value.ref _) (Value.int _ _)) _ _ _); k_dflt (refine' subInts ?y1 ?y2 ?y3 ?y4 ?y5 ?_ (by with_unfolding_all rfl); (case y1 => is_list); (case y2 => k_asm); (case y3 => first | decide | omega); (case y4 => omega); (case y5 => omega)); intro t'))
local macro_rules | `(tactic| walk_at "subscriptTail Call Constant ref int") => `(tactic| (k_here; (with_reducible show wpAny _ _ (PySem.subscriptTail _ _ (Value.ref _) (Value.int _ _)) _ _ _); k_dflt (refine' subInts ?y1 ?y2 ?y3 ?y4 ?y5 ?_ (by with_unfolding_all rfl); (case y1 => is_list); (case y2 => k_asm); (case y3 => first | decide | omega); (case y4 => omega); (case y5 => omega)); intro t'))
structure PaidSt where
  V : Nat
  tV : Tok
  vs : List Value
  kk : Nat
  tps : List (Addr × Obj)
  st : StTab
  ps : List (Nat × Nat)
set_option maxRecDepth 100000 in
set_option maxHeartbeats 8000000 in
theorem paid_ctr (w : World) (mean mg mb) (l : Addr) (vs : List Value) (ns : List Int) (Wh : Nat) (tW : Tok) (hi : IntsAre vs ns) (hc : Coins ns) (hW : Wh < 64) (hz : (pays ns 9 Wh).2 = 0) (st : StTab) (hst : TabsOk st) :
  Ctr w mean mg mb 90 24 260 [.ref l,   .int (Wh : Int) tW] (tabs st) (fun h => CodeHd h 61 57 ∧ CodeHd h 68 64 ∧ h.IsList l vs.toArray) (fun v new => ∃ D us kk tps st', v = .ref D ∧ PairsIn tps us (pays ns 9 Wh).1 ∧ TabsOk st' ∧ new = (D, W.listOf us.toArray kk) :: (tps ++ tabs st')) := by
  unfold Ctr PR
  w_top off
  k_with_none
  k_fill
  intro dp un gd cn cs aa ccd cl outer A₀ base h₀ L m s Q E B F X N T hk hpre hd hu hret
  refine wpAny_call ?_
  k_dflt (refine' enterK ?k1 ?k2 ?k3 ?k4 ?k5 ?kA ?kF ?kK ?k6 ?k7 ?k8 ?k9 ?kB ?_ ?c2 ?c3 ?c4 ?c5; (case kA => exact rfl); (case kF => exact rfl); (case kK => assumption); (case k1 => k_asm); (case k2 => k_asm); (case k3 => k_asm); (case k4 => k_asm); (case k5 => k_asm); (case k6 => k_is); (case k7 => k_is); (case k8 => ktr_room); (case k9 => (first | exact BindsTo.of_eq rfl | (refine' kp_binds ?kx ?ke; (case kx => k_in); (case ke => exact fun _ => rfl)))); (case c5 => decide); (case kB => exact locs rfl); (case c2 => exact rfl); (case c3 => exact rfl); (case c4 => exact rfl); k_whole; intro g' L' h' FG' F' N' B' X' T' hlt' hkb' hfr')
  (try k_lt hlt')
  obtain ⟨hcd1, hcd2, hlist⟩ := hpre _ hkb'
  (try dsimp only); (try k_fold)
  k_steps
  rename_i q9 hA lA hB F9 N9
  refine' ksw_while (σ := PaidSt) (fun c => (q9, W.listOf c.vs.toArray c.kk) :: (c.tps ++ tabs c.st)) (fun c => [(Str.ofString "whole", .int (c.V : Int) c.tV)]) (fun _ => True) [Str.ofString "coin", Str.ofString "often"]
    (fun c => PairsIn c.tps c.vs c.ps ∧ TabsOk c.st ∧ (∀ p ∈ c.tps, ∀ q ∈ tabs c.st, @Ne Nat p.1 q.1) ∧ (∀ p ∈ c.tps ++ tabs c.st, @Ne Nat p.1 q9) ∧ PayInv ns Wh c.V c.ps) (fun c => c.V) ⟨Wh, tW, [], 0, [], st, []⟩ F9 N9 trivial ?zk
    ⟨.nil, hst, (fun p (hp : p ∈ ([] : List (Addr × Obj))) => absurd hp List.not_mem_nil), fun p hp => Nat.ne_of_lt (lA p hp), payInv_start ns Wh⟩ ?zt (PassesOwn.never)
  case zk => exact List.forall_mem_cons.mpr ⟨by dsimp only; with_unfolding_all rfl, List.forall_mem_nil _⟩
  case zt =>
    rintro ⟨V, tV, us, kk, tps, sx, ps⟩ u h tk _ ⟨hP, hok, hap, hoff, hinv⟩ F7 N7
    dsimp only [kstB] at hP hok hap hoff hinv F7 N7
    have hus : us.toArray.size = ps.length := by rw [List.size_toArray, hP.length]
    have hpl := hinv.1
    have hVW := hinv.2.1
    (try dsimp only); (try k_fold)
    k_steps
    rotate_left
    iterate 4 (
      have e9 := payInv_end hinv (by rintro ⟨h1, h2⟩; omega)
      rw [e9] at hz
      (first
        | (exfalso; dsimp only at hz; omega)
        | exact hret _ _ _ _ ⟨q9, us, kk, tps, sx, rfl, by rw [e9]; exact hP, hok, rfl⟩ (by k_asm) (by k_asm) (by assumption) (fun p hp => hfr' _ (N7 p hp).2.2)))
    have hV : 0 < V := by omega
    have hb1 := bis_pos hc hV
    have hb2 := bis_le ns (V : Int)
    obtain ⟨hcg, hc0, hcV⟩ := coin_get hc hV
    have hce : ns.getD (((bis ns (V : Int) : Nat) : Int) - 1).toNat 0 = ((coinOf ns V : Nat) : Int) := by
      rw [← hcg]; congr 1; omega
    refine' (bisR w mean mg mb l vs ns (V : Int) _ hi (by have := hc.len; omega) hc.sorted).use ?kB ?kF ?kX ?kN ?kT ?kk ?ks ?kp ?kd ?ku ((q9, W.listOf us.toArray kk) :: (tps ++ tabs sx)) ?kr ?_
    case kB => k_asm
    case kF => k_asm
    case kX => k_asm
    case kN => k_asm
    case kT => k_asm
    case kk => exact rfl
    case ks => exact List.forall_mem_nil _
    case kp => exact fun g hg => hlist.at fun o e => kept_get F7 News.nil hg _ o e
    case kd => ktr_room
    case ku => ktr_units
    case kr => exact fun p hp => ⟨hp, List.not_mem_nil⟩
    rintro v5 new5 h5 tk5 ⟨⟨t5, rfl⟩, rfl⟩ F5 N5 ap5
    rw [List.nil_append] at N5
    clear N7 F7
    have hlen9 := hc.len
    (try dsimp only); (try k_fold)
    k_steps
    rename_i t3 hF F6 N6
    rw [hce] at F6 ⊢
    have ha3 : ∀ p ∈ (q9, W.listOf us.toArray kk) :: tps, p ∈ (q9, W.listOf us.toArray kk) :: (tps ++ tabs sx) ∧ p.1 ∉ (tabs sx).map (·.1) := fun p hp => by
      rcases List.mem_cons.mp hp with rfl | hp
      · refine ⟨.head _, fun q => ?_⟩
        obtain ⟨y, hy, e⟩ := List.mem_map.mp q
        exact hoff y (List.mem_append_right _ hy) e
      · refine ⟨.tail _ (List.mem_append_left _ hp), fun q => ?_⟩
        obtain ⟨y, hy, e⟩ := List.mem_map.mp q
        exact hap p hp y hy e.symm
    have hs3 : ∀ p ∈ tabs sx, p ∈ (q9, W.listOf us.toArray kk) :: (tps ++ tabs sx) := fun p hp => .tail _ (List.mem_append_right _ hp)
    refine' (idm w mean mg mb V (coinOf ns V) _ _ hV (by omega) hc0 (by omega) sx hok).use ?kB ?kF ?kX ?kN ?kT ?kk ?ks ?kp ?kd ?ku ((q9, W.listOf us.toArray kk) :: tps) ?kr ?_
    case kB => k_asm
    case kF => k_asm
    case kX => k_asm
    case kN => k_asm
    case kT => k_asm
    case kk => exact rfl
    case ks => exact hs3
    case kp => exact fun g hg => ⟨CodeHd.keeps hcd1 (kept_get F6 (news_sub N6 hs3) hg), CodeHd.keeps hcd2 (kept_get F6 (news_sub N6 hs3) hg)⟩
    case kd => ktr_room
    case ku => ktr_units
    case kr => exact ha3
    rintro v4 new4 h4 tk4 ⟨T4, t1, t2, y, hy, hT, rfl, rfl⟩ F4 N4 ap4
    have N3 := news_sub (l := (T4, tupObj [.int ((V / coinOf ns V : Nat) : Int) t1, .int ((V % coinOf ns V : Nat) : Int) t2]) :: ((q9, W.listOf us.toArray kk) :: (tps ++ tabs (some y)))) N4 (by
      intro p hp
      rcases List.mem_cons.mp hp with rfl | hp
      · exact .head _
      · rcases List.mem_cons.mp hp with rfl | hp
        · exact List.mem_append_right _ (.head _)
        · rcases List.mem_append.mp hp with hp | hp
          · exact List.mem_append_right _ (.tail _ hp)
          · exact List.mem_append_left _ (.tail _ hp))
    have hTq : @Ne Nat T4 q9 := ap4 _ (.head _) _ (.head _)
    have hyq : ∀ p ∈ tabs (some y), @Ne Nat p.1 q9 := fun p hp => ap4 p (.tail _ hp) _ (.head _)
    have hyt : ∀ p ∈ tps, ∀ q ∈ tabs (some y), @Ne Nat p.1 q.1 := fun p hp q hq => Ne.symm (ap4 q (.tail _ hq) p (.tail _ hp))
    clear N4 N6 F6
    (try dsimp only); (try k_fold)
    k_steps
    rename_i h13 h12 h11 U2 h10 F2 N2 l2
    have l3 : ∀ p ∈ tps ++ tabs (some y), @LT.lt Nat _ p.1 U2 := kst_ltOf l2.2.2
    refine' appRef (pre := [(U2, _), (T4, _)]) F2 N2 ?x1 ?x2 hP.length (by omega) ?_
    case x1 => exact List.forall_mem_cons.mpr ⟨Nat.ne_of_gt l2.2.1, List.forall_mem_cons.mpr ⟨hTq, List.forall_mem_nil _⟩⟩
    case x2 => exact fun p hp => (List.mem_append.mp hp).elim (fun hp => hoff p (List.mem_append_left _ hp)) (fun hp => hyq p hp)
    intro h1 F1 N1
    (try dsimp only at N1)
    (try dsimp only); (try k_fold)
    k_steps
    refine' ksw_end ⟨V % coinOf ns V, t2, us ++ [.ref U2], kk + 1, (U2, tupObj [.int ((coinOf ns V : Nat) : Int) t3, .int ((V / coinOf ns V : Nat) : Int) t1]) :: tps, some y, ps ++ [(coinOf ns V, V / coinOf ns V)]⟩ F1 N1 ?x3 trivial ?x4 ?x5 ⟨?x6, hy, ?x7, ?x8, payInv_step hinv hV (by omega) hc0⟩ ?x9
    case x3 =>
      intro p hp
      rcases List.mem_cons.mp hp with rfl | hp
      · exact List.mem_append_right _ (.head _)
      · rcases List.mem_cons.mp hp with rfl | hp
        · exact List.mem_append_left _ (.head _)
        · exact List.mem_append_right _ (.tail _ hp)
    case x4 => kst_all
    case x5 => ksw_same
    case x6 => exact PairsIn.snoc (.head _) (hP.mono fun p hp => .tail _ hp)
    case x7 =>
      intro p hp q hq
      rcases List.mem_cons.mp hp with rfl | hp
      · exact Ne.symm (Nat.ne_of_lt (l3 q (List.mem_append_right _ hq)))
      · exact hyt p hp q hq
    case x8 =>
      intro p hp
      rcases List.mem_cons.mp hp with rfl | hp
      · exact Nat.ne_of_gt l2.2.1
      · exact (List.mem_append.mp hp).elim (fun hp => hoff p (List.mem_append_left _ hp)) (fun hp => hyq p hp)
    case x9 => exact Nat.lt_of_lt_of_le (Nat.mod_lt _ hc0) hcV
end
end Mine
namespace Mine
section
open PySem PySem.W PySem.Calls PyProof.Rows
section
variable {prog : Program} {w : World} {A : Around} {E : Value → Shared → Prop} {s : Shared} {env : Env} {h₀ : Heap} {L : Addr}
def CompGoal (prog : Program) (w : World) (A : Around) (e : Expr) (scope : Scope) (cl : List (Str × Addr)) (env : Env) (Q : Value → Shared → Prop) (xv : Value) (s : Shared) : Prop :=
  wpAny (model prog w) A (pyIter xv) (fun it s₂ => wpAny (model prog w) A (newList []) (fun acc s₃ =>
    wpAny (model prog w) A (newFunctionEnv scope env.globals cl [] env.qual none .none (some env)) (fun cenv s₄ =>
      codeAny (model prog w) A (.compStart e 0 it acc { cenv with scope := relabel scope env }) (compPost (model prog w) A (fun _ _ => False) none Q acc cenv.locals) s₄) (fun _ _ => False) s₃) (fun _ _ => False) s₂) (fun _ _ => False) s

theorem comp_start {elt target iter : Expr} {ifs : List Expr} {scope : Scope} {cl : List (Str × Addr)} {pos : Pos} {Q : Value → Shared → Prop}
    (hclos : closureFor scope env = pure cl) (hkind : scope.kind = .function) (hnames : ∀ y ∈ scope.names, y.2 = .local → scope.names.lookup y.1 = some .local)
    (h : wpAny (model prog w) A (eval iter env) (fun xv s₁ => CompGoal prog w A (.ListComp elt [⟨target, iter, ifs, 0⟩] scope pos) scope cl env Q xv s₁) (fun _ _ => False) s)
    (hs : ∀ x, foldedSetIterable iter env x = pure x := by intro _; rfl) :
    wpAny (model prog w) A (eval (.ListComp elt [⟨target, iter, ifs, 0⟩] scope pos) env) Q E s := by
  rw [eval_ListComp]
  exact wpAny_noRaise (wpAny_comprehension_free (use := none) rfl hs hclos hkind hnames h)

theorem news_upTo {m : Str → Option Value} {news : List (Addr × Obj)} {h h' : Heap} (F : Fr h₀ L h m) (N : News h₀ L h news) (k : ∀ b o, h.get? b = some o → h'.get? b = some o) : Fr h₀ L h' m ∧ News h₀ L h' news :=
  ⟨⟨F.ns.keeps k, fun b o e => k b o (F.keep b o e), F.above⟩, fun p hp => ⟨k _ _ (N p hp).1, (N p hp).2⟩⟩

def TEnd (b : Bool) (s : Shared) (ok : Bool) (s' : Shared) : Prop := ok = b ∧ Keeps s s'
def EEnd (k : Int) (s : Shared) (y : Value) (s' : Shared) : Prop := (∃ t', y = .int k t') ∧ Keeps s s'
theorem TEnd.here {b ok : Bool} {s : Shared} {tk : Nat} (h : ok = b) : TEnd b s ok { s with toks := tk } := ⟨h, _, _, rfl, fun _ _ e => e⟩
theorem EEnd.here {k j : Int} {t : Tok} {s : Shared} {tk : Nat} (h : j = k) : EEnd k s (.int j t) { s with toks := tk } := by subst h; exact ⟨⟨_, rfl⟩, _, _, rfl, fun _ _ e => e⟩
/-- what is asked of a comprehension's test and element: nothing that stands is turned -/
abbrev TestsOk (prog : Program) (w : World) (A : Around) (env : Env) (scope : Scope) (cl : List (Str × Addr)) (x : Str) (ifs : List Expr) (ok : Int → Prop) (h : Heap) (p : Int → Bool) : Prop :=
  ∀ C n t s₃ m₃, ok n → Heap.Ns s₃.heap C m₃ → m₃ x = some (.int n t) → (∀ b o, h.get? b = some o → s₃.heap.get? b = some o) →
    wpAny (model prog w) A (forIn ifs true fun c r => if r = true then do let ok ← isTrue c (compEnvC scope cl C env) (eval c (compEnvC scope cl C env)); pure (ForInStep.yield ok) else pure (ForInStep.yield r))
      (fun ok s₄ => TEnd (p n) s₃ ok s₄) (fun _ _ => False) s₃
abbrev EltOk (prog : Program) (w : World) (A : Around) (env : Env) (scope : Scope) (cl : List (Str × Addr)) (x : Str) (elt : Expr) (ok : Int → Prop) (h : Heap) (p : Int → Bool) (f : Int → Int) : Prop :=
  ∀ C n t s₃ m₃, ok n → p n = true → Heap.Ns s₃.heap C m₃ → m₃ x = some (.int n t) → (∀ b o, h.get? b = some o → s₃.heap.get? b = some o) →
    wpAny (model prog w) A (eval elt (compEnvC scope cl C env)) (fun y s₄ => EEnd (f n) s₃ y s₄) (fun _ _ => False) s₃

theorem paired_ints {p : Int → Bool} {f : Int → Int} {pv : Value → Bool} {Fv : Value → Value → Prop} (h1 : ∀ n t, pv (.int n t) = p n) (h2 : ∀ n t y, Fv (.int n t) y → ∃ t', y = .int (f n) t') :
    ∀ {vs : List Value} {ns : List Int}, IntsAre vs ns → ∀ {ys : List Value}, Paired Fv (vs.filter pv) ys → IntsAre ys ((ns.filter p).map f)
  | _, _, .nil, _, hp => by
    simp only [List.filter_nil] at hp
    cases hp; exact .nil
  | _, _, .cons n t r, ys, hp => by
    rw [List.filter_cons, h1] at hp
    rw [List.filter_cons]
    cases hc : p n with
    | false => rw [hc] at hp; exact paired_ints h1 h2 r hp
    | true =>
      rw [hc] at hp
      simp only [if_true, List.map_cons] at hp ⊢
      cases hp with
      | cons a b =>
        obtain ⟨t', rfl⟩ := h2 _ _ _ a
        exact .cons _ _ (paired_ints h1 h2 r b)

/-- a comprehension over the items of an iterator of ints -/
theorem comp_core {elt iter : Expr} {x : Str} {px : Pos} {ifs : List Expr} {scope : Scope} {cl : List (Str × Addr)} {pos : Pos} {Q : Value → Shared → Prop} {I : Addr} {fp : List Addr} {n : Nat} {P : Nat → Value → Prop} {St : Nat → Heap → Prop} {m : Str → Option Value} {led : List (Addr × Obj)} {ns : List Int}
    (p : Int → Bool) (f : Int → Int) (W : Walks prog w A I fp [I] n P St) (hlen : ns.length = n) (hz : n ≤ 2 ^ 20) (hP : ∀ i (hi : i < ns.length) v, P i v → ∃ t, v = .int ns[i] t)
    (hcell : ∀ y ∈ scope.names, y.2 ≠ .cell) (hkind : scope.kind = .function) (hx : scope.names.lookup x = some .local) (hst : St 0 s.heap) (hfp : ∀ b ∈ fp, b < s.heap.objs.size)
    (F : Fr h₀ L s.heap m) (N : News h₀ L s.heap led) (hLI : @Ne Nat L I) (hI0 : h₀.get? I = none) (hne : ∀ q ∈ led, @Ne Nat q.1 I)
    (tests : ∀ h : Heap, (∀ b o, b ∉ [I] → s.heap.get? b = some o → h.get? b = some o) → TestsOk prog w A env scope cl x ifs (· ∈ ns) h p)
    (elts : ∀ h : Heap, (∀ b o, b ∉ [I] → s.heap.get? b = some o → h.get? b = some o) → EltOk prog w A env scope cl x elt (· ∈ ns) h p f)
    (done : ∀ D h' tk us kk, Fr h₀ L h' m → News h₀ L h' ((D, PySem.W.listOf us.toArray kk) :: led) → (∀ q ∈ led, @Ne Nat q.1 D) → IntsAre us ((ns.filter p).map f) → Q (.ref D) { s with heap := h', toks := tk }) :
    wpAny (model prog w) A (newList []) (fun acc s₃ => wpAny (model prog w) A (newFunctionEnv scope env.globals cl [] env.qual none .none (some env)) (fun cenv s₄ =>
      codeAny (model prog w) A (.compStart (.ListComp elt [⟨.Name x px, iter, ifs, 0⟩] scope pos) 0 (.ref I) acc { cenv with scope := relabel scope env }) (compPost (model prog w) A (fun _ _ => False) none Q acc cenv.locals) s₄) (fun _ _ => False) s₃) (fun _ _ => False) s := by
  have hPm : ∀ i v, i < ns.length → P i v → ∃ k t, k ∈ ns ∧ v = .int k t := fun i v hi h => let ⟨t, e⟩ := hP i hi v h; ⟨_, t, List.getElem_mem hi, e⟩
  refine comp_block_walkC (RR := fun acc C => compPost (model prog w) A (fun _ _ => False) none Q acc C) (P := fun i v => i < n ∧ P i v) (p := fun v => match v with | .int k _ => p k | _ => false) (F := fun v y => ∃ k t t', v = .int k t ∧ y = .int (f k) t')
    W.bound (by rw [sizeLine_eq]; omega) hcell hkind hx hst hfp ⟨?_, ?_⟩ ?_
  · intro C i v s₃ m₃ E' _ hv hn hm hk _
    obtain ⟨k, t, hkm, rfl⟩ := hPm i v (hlen ▸ hv.1) hv.2
    exact wpAny_noRaise (tests s₃.heap hk C k t s₃ m₃ hkm hn hm fun _ _ e => e)
  · intro C i v s₃ m₃ E' _ hv hpv hn hm hk _
    obtain ⟨k, t, hkm, rfl⟩ := hPm i v (hlen ▸ hv.1) hv.2
    refine wpAny_noRaise (wpAny_mono (elts s₃.heap hk C k t s₃ m₃ hkm hpv hn hm fun _ _ e => e) (fun y s₄ hy => ?_) fun _ _ e => e)
    obtain ⟨⟨t', rfl⟩, k2⟩ := hy
    exact ⟨⟨k, t, t', rfl, rfl⟩, k2⟩
  · intro D C h' tk m' ys vs hD hC hDC hnC _ hpl hvl hvP hF hk
    refine ⟨m', hnC, fun h'' hs'' => ?_⟩
    obtain ⟨kk, hpl⟩ := hpl
    have up : ∀ b o, b ∉ [I] → s.heap.get? b = some o → h''.get? b = some o := fun b o hb e => hs''.extBut b o (by rintro rfl; rw [hC] at e; cases e) (hk b o hb e)
    have hLC : env.locals = env.locals := rfl
    have hLs : ∃ o, s.heap.get? L = some o := let ⟨o, _, _, ho, _⟩ := F.ns; ⟨o, ho⟩
    have F' : Fr h₀ L h'' m := ⟨F.ns.at' fun o e => up L o (fun q => hLI (List.mem_singleton.mp q)) e, fun b o e => up b o (fun q => by rw [List.mem_singleton.mp q, hI0] at e; cases e) (F.keep b o e), F.above⟩
    have hDh : h''.get? D = some (PySem.W.listOf ys.toList.toArray kk) := by
      have := hs''.extBut D _ hDC hpl
      simpa using this
    have hDL : @Ne Nat D L := fun q => by obtain ⟨o, ho⟩ := hLs; rw [← q, hD] at ho; cases ho
    have hD0 : h₀.get? D = none := by
      cases q : h₀.get? D with
      | none => rfl
      | some o => have := F.keep _ _ q; rw [hD] at this; cases this
    have hvi : IntsAre vs ns := by
      have : ∀ (vs : List Value) (ns : List Int), vs.length = ns.length → (∀ i (hi : i < ns.length) v, vs[i]? = some v → ∃ t, v = .int ns[i] t) → IntsAre vs ns := by
        intro vs
        induction vs with
        | nil => intro ns hl _; cases ns with
          | nil => exact .nil
          | cons _ _ => cases hl
        | cons v r ih =>
          intro ns hl hv
          cases ns with
          | nil => cases hl
          | cons k ns =>
            obtain ⟨t, rfl⟩ := hv 0 (Nat.zero_lt_succ _) v rfl
            exact .cons _ _ (ih ns (Nat.succ.inj hl) fun i hi v' hv' => by simpa using hv (i + 1) (Nat.succ_lt_succ hi) v' (by simpa using hv'))
      exact this vs ns (by rw [hvl, hlen]) fun i hi v hv => hP i hi v (hvP i v hv).2
    refine done D h'' tk ys.toList kk F' (fun q hq => ?_) (fun q hq e => ?_) (paired_ints (fun _ _ => rfl) (fun n t y hy => ?_) hvi hF)
    · rcases List.mem_cons.mp hq with rfl | hq
      · exact ⟨hDh, hDL, hD0⟩
      · exact ⟨up _ _ (fun e => hne q hq (List.mem_singleton.mp e)) (N q hq).1, (N q hq).2⟩
    · have := (N q hq).1; rw [show q.1 = D from e, hD] at this; cases this
    · obtain ⟨k, t0, t', e1, e2⟩ := hy
      cases e1; exact ⟨t', e2⟩

theorem compInts {elt iter : Expr} {x : Str} {px : Pos} {ifs : List Expr} {scope : Scope} {cl : List (Str × Addr)} {pos : Pos} {Q : Value → Shared → Prop} {l : Addr} {vs : List Value} {ns : List Int} {m : Str → Option Value} {led : List (Addr × Obj)}
    (p : Int → Bool) (f : Int → Int) (hh : A.handled = none) (hl : s.heap.IsList l vs.toArray) (hI : IntsAre vs ns) (hz : ns.length ≤ 2 ^ 20)
    (hcell : ∀ y ∈ scope.names, y.2 ≠ .cell) (hkind : scope.kind = .function) (hx : scope.names.lookup x = some .local)
    (F : Fr h₀ L s.heap m) (N : News h₀ L s.heap led)
    (tests : TestsOk prog w A env scope cl x ifs (· ∈ ns) s.heap p) (elts : EltOk prog w A env scope cl x elt (· ∈ ns) s.heap p f)
    (done : ∀ D h' tk us kk, Fr h₀ L h' m → News h₀ L h' ((D, PySem.W.listOf us.toArray kk) :: led) → (∀ q ∈ led, @Ne Nat q.1 D) → IntsAre us ((ns.filter p).map f) → Q (.ref D) { s with heap := h', toks := tk }) :
    CompGoal prog w A (.ListComp elt [⟨.Name x px, iter, ifs, 0⟩] scope pos) scope cl env Q (.ref l) s := by
  refine wpAny_pyIter_list hl ?_
  have hlt : @LT.lt Nat _ l s.heap.objs.size := let ⟨_, ho, _⟩ := hl; Heap.lt_size ho
  have hlen : vs.toArray.size = ns.length := by simp [hI.length]
  have W := Walks.list (prog := prog) (w := w) hh s.heap.objs.size l (Nat.ne_of_lt hlt) vs.toArray
  have up : ∀ (o : Obj) (h : Heap), (∀ b o', b ∉ [s.heap.objs.size] → (s.heap.push o).get? b = some o' → h.get? b = some o') → ∀ b o', s.heap.get? b = some o' → h.get? b = some o' := fun o h k b o' e =>
    k b o' (fun q => Nat.lt_irrefl _ (List.mem_singleton.mp q ▸ Heap.lt_size e)) (Heap.get?_push_of_some _ e)
  refine comp_core (s := { s with heap := _ }) p f W hlen.symm (by omega) (fun i hi v hv => ?_) hcell hkind hx ⟨⟨_, Heap.get?_push_size _ rfl, rfl, rfl⟩, hl.at fun o e => Heap.get?_push_of_some _ e⟩ (fun b hb => ?_)
    (F.push _) (fun p hp => ⟨Heap.get?_push_of_some _ (N p hp).1, (N p hp).2⟩) (lt_new F) (free_new F) (news_new (m := m) N)
    (fun h k C n t s₃ m₃ hn hNs hm k3 => tests C n t s₃ m₃ hn hNs hm fun b o e => k3 b o (up _ h k b o e)) (fun h k C n t s₃ m₃ hn hp hNs hm k3 => elts C n t s₃ m₃ hn hp hNs hm fun b o e => k3 b o (up _ h k b o e)) done
  · obtain ⟨t, hx⟩ := hI.get i ns[i] (by simp [hi])
    have hv' : vs[i]? = some v := by simpa using hv
    rw [hx] at hv'; cases hv'
    exact ⟨t, rfl⟩
  · show b < (s.heap.push _).objs.size
    rw [Heap.size_push]
    rcases List.mem_cons.mp hb with rfl | hb
    · exact Nat.lt_succ_self _
    · rw [List.mem_singleton.mp hb]; exact Nat.lt_succ_of_lt hlt

theorem compRange {elt iter : Expr} {x : Str} {px : Pos} {ifs : List Expr} {scope : Scope} {cl : List (Str × Addr)} {pos : Pos} {Q : Value → Shared → Prop} {r : Addr} {a b : Int} {t₀ u₀ v₀ : Tok} {n : Nat} {m : Str → Option Value} {led : List (Addr × Obj)}
    (p : Int → Bool) (f : Int → Int) (hh : A.handled = none) (hr : IsRange s.heap r a b 1 t₀ u₀ v₀) (hsmall : Builtin.Range.small a b 1 = true) (hn : Builtin.Range.rangeSize a b 1 = (n : Int)) (hz : n ≤ 2 ^ 20)
    (hcell : ∀ y ∈ scope.names, y.2 ≠ .cell) (hkind : scope.kind = .function) (hx : scope.names.lookup x = some .local)
    (F : Fr h₀ L s.heap m) (N : News h₀ L s.heap led)
    (tests : TestsOk prog w A env scope cl x ifs (· ∈ rangeKs a n) s.heap p) (elts : EltOk prog w A env scope cl x elt (· ∈ rangeKs a n) s.heap p f)
    (done : ∀ D h' tk us kk, Fr h₀ L h' m → News h₀ L h' ((D, PySem.W.listOf us.toArray kk) :: led) → (∀ q ∈ led, @Ne Nat q.1 D) → IntsAre us (((rangeKs a n).filter p).map f) → Q (.ref D) { s with heap := h', toks := tk }) :
    CompGoal prog w A (.ListComp elt [⟨.Name x px, iter, ifs, 0⟩] scope pos) scope cl env Q (.ref r) s := by
  refine wpAny_pyIter_range hr hsmall ?_
  have W := (Walks.range (prog := prog) (w := w) hh s.heap.objs.size a 1 n)
  have up : ∀ (o : Obj) (h : Heap), (∀ b o', b ∉ [s.heap.objs.size] → (s.heap.push o).get? b = some o' → h.get? b = some o') → ∀ b o', s.heap.get? b = some o' → h.get? b = some o' := fun o h k b o' e =>
    k b o' (fun q => Nat.lt_irrefl _ (List.mem_singleton.mp q ▸ Heap.lt_size e)) (Heap.get?_push_of_some _ e)
  refine comp_core (s := { s with heap := _ }) (ns := rangeKs a n) p f W (rangeKs_length _ _) (by omega) (fun i hi v hv => ?_) hcell hkind hx (by show IsRangeIter _ _ _ _ _; rw [hn]; simpa using Heap.get?_push_size _ rfl) (fun b hb => ?_)
    (F.push _) (fun p hp => ⟨Heap.get?_push_of_some _ (N p hp).1, (N p hp).2⟩) (lt_new F) (free_new F) (news_new (m := m) N)
    (fun h k C n t s₃ m₃ hn hNs hm k3 => tests C n t s₃ m₃ hn hNs hm fun b o e => k3 b o (up _ h k b o e)) (fun h k C n t s₃ m₃ hn hp hNs hm k3 => elts C n t s₃ m₃ hn hp hNs hm fun b o e => k3 b o (up _ h k b o e)) done
  · obtain ⟨t, rfl⟩ := hv
    refine ⟨t, ?_⟩
    rw [Int.mul_one]; simp [rangeKs]
  · show b < (s.heap.push _).objs.size
    rw [Heap.size_push, List.mem_singleton.mp hb]
    exact Nat.lt_succ_self _
end
-- names in a frame of a comprehension
section
variable {M : Model} {A : Around} {E : Value → Shared → Prop} {s : Shared} {env : Env} {scope : Scope} {cl : List (Str × Addr)} {C : Addr}
theorem nameL {x : Str} {pos : Pos} {m : Str → Option Value} {v : Value} {Q : Value → Shared → Prop} (hn : Heap.Ns s.heap C m) (hv : m x = some v) (hl : (compEnvC scope cl C env).kindOf x = some .local) (hk : scope.kind = .function) (h : Q v s)
    (hb : (x == ("__debug__" : Str)) = false := by decide) : wpAny M A (eval (.Name x pos) (compEnvC scope cl C env)) Q E s :=
  wpAny_Name (wpAny_loadName_local (env := compEnvC scope cl C env) (by simpa [compEnvC, relabel] using hk) hl hn hv h) hb
theorem nameC {x : Str} {pos : Pos} {c : Addr} {o : Obj} {v : Value} {Q : Value → Shared → Prop} (ho : s.heap.get? c = some o) (hd : o.data = .cell (some v)) (hc : cl.lookup x = some c) (hl : (compEnvC scope cl C env).kindOf x = some .cell) (hk : scope.kind = .function) (h : Q v s)
    (hb : (x == ("__debug__" : Str)) = false := by decide) : wpAny M A (eval (.Name x pos) (compEnvC scope cl C env)) Q E s :=
  wpAny_Name (wpAny_loadName_cell (env := compEnvC scope cl C env) (by simpa [compEnvC, relabel] using hk) hl hc ⟨o, ho, hd⟩ h) hb
end
end
end Mine
namespace Mine
section
open PySem PySem.W PySem.Calls PyProof.Rows
def minI : List Int → Int
  | [] => 0
  | [a] => a
  | a :: b :: r => min a (minI (b :: r))
theorem minI_le : ∀ {ns : List Int} {a : Int}, a ∈ ns → minI ns ≤ a
  | [b], a, h => by rw [List.mem_singleton.mp h]; exact Int.le_refl _
  | b :: c :: r, a, h => by
    show min b (minI (c :: r)) ≤ a
    rcases List.mem_cons.mp h with rfl | h
    · exact Int.min_le_left _ _
    · exact Int.le_trans (Int.min_le_right _ _) (minI_le h)
theorem minI_mem : ∀ {ns : List Int}, ns ≠ [] → minI ns ∈ ns
  | [], h => absurd rfl h
  | [a], _ => List.mem_singleton.mpr rfl
  | a :: b :: r, _ => by
    show min a (minI (b :: r)) ∈ _
    rcases Int.le_total a (minI (b :: r)) with h | h
    · rw [Int.min_eq_left h]; exact .head _
    · rw [Int.min_eq_right h]; exact .tail _ (minI_mem (by simp))
theorem minI_of {ns : List Int} {M : Int} (h1 : M ∈ ns) (h2 : ∀ a, a ∈ ns → M ≤ a) : M = minI ns := by
  have a := minI_le h1
  have b := h2 _ (minI_mem (List.ne_nil_of_mem h1))
  omega
/-- the fewest coins of the sums from nought to n -/
def fewL (ns : List Int) : Nat → List Int
  | 0 => [0]
  | n + 1 => fewL ns n ++ [1 + minI ((ns.filter (fun c => decide (c ≤ 1 + (n : Int)))).map (fun c => (fewL ns n).getD (1 + (n : Int) - c).toNat 0))]
theorem fewL_length (ns : List Int) : ∀ n, (fewL ns n).length = n + 1
  | 0 => rfl
  | n + 1 => by show (fewL ns n ++ _).length = _; rw [List.length_append, fewL_length ns n]; rfl
section
variable {prog : Program} {w : World} {A : Around} {E : Value → Shared → Prop} {s : Shared} {h₀ : Heap} {L : Addr} {m : Str → Option Value} {news : List (Addr × Obj)}
theorem minInts {l : Addr} {vs : List Value} {ns : List Int} {Q : Value → Shared → Prop} (hh : A.handled = none) (F : Fr h₀ L s.heap m) (N : News h₀ L s.heap news)
    (hl : s.heap.IsList l vs.toArray) (hi : IntsAre vs ns) (hne : 0 < ns.length)
    (h : ∀ h' (t : Tok) tk, Fr h₀ L h' m → News h₀ L h' news → Q (.int (minI ns) t) { s with heap := h', toks := tk }) :
    wpAny (model prog w) A (call (.builtin "min") [.ref l]) Q E s :=
  min_list_N hh F N hl hi hne fun h' M t tk F' N' h1 h2 => by rw [minI_of h1 h2]; exact h h' t tk F' N'
end
end
end Mine
namespace Mine
section
open PySem PySem.W PySem.Calls PyProof.Rows
local macro_rules | `(tactic| walk_at "exec For Name Call cons nil") => `(tactic| (k_here; k_dflt (refine for_start ?_)))
local macro_rules | `(tactic| walk_at "exec For Name Name cons nil") => `(tactic| (k_here; k_dflt (refine for_start ?_)))
local macro_rules | `(tactic| walk_at "exec For Name Subscript cons nil") => `(tactic| (k_here; k_dflt (refine for_start ?_)))
local macro_rules | `(tactic| walk_at "exec For Tuple Name cons nil") => `(tactic| (k_here; k_dflt (refine for_start ?_)))
local macro_rules | `(tactic| walk_at "setItem ref int") => `(tactic| (k_here; (with_reducible show wpAny _ _ (PySem.setItem (Value.ref _) (Value.int _ _) (Value.int _ _)) _ _ _); k_dflt (refine' setInts ?y1 ?y2 ?y3 ?y4 ?y5 ?y6 ?y7 ?_; (case y1 => k_asm); (case y2 => k_asm); (case y3 => k_upd); (case y4 => k_asm); (case y5 => omega); (case y6 => omega); (case y7 => omega)); intro h' F' N' kI; (try dsimp only at N'); (try k_sweep)))
local macro_rules | `(tactic| walk_at "call builtin:list.append") => `(tactic| (k_here; (with_reducible show wpAny _ _ (PySem.call (Value.builtin _) [Value.ref _, Value.int _ _]) _ _ _); k_dflt (refine' appInts ?y1 ?y2 ?y3 ?y4 ?y5 ?_; (case y1 => k_asm); (case y2 => k_asm); (case y3 => k_upd); (case y4 => k_asm); (case y5 => (try simp only [List.length_append, List.length_cons, List.length_nil]); omega)); intro h' F' N' kI; (try dsimp only at N'); (try k_sweep)))
local macro_rules | `(tactic| walk_at "call builtin:list.reverse") => `(tactic| (k_here; (with_reducible show wpAny _ _ (PySem.call (Value.builtin _) [Value.ref _]) _ _ _); k_dflt (refine' revInts ?y1 ?y2 ?y3 ?y4 ?y5 ?_; (case y1 => k_asm); (case y2 => k_asm); (case y3 => k_upd); (case y4 => k_asm); (case y5 => omega)); intro h' F' N' kI; (try dsimp only at N'); (try k_sweep)))
local macro_rules | `(tactic| walk_at "subscriptTail Name BinOp ref int") => `(tactic| (k_here; (with_reducible show wpAny _ _ (PySem.subscriptTail _ _ (Value.ref _) (Value.int _ _)) _ _ _); k_dflt (refine' subInts ?y1 ?y2 ?y3 ?y4 ?y5 ?_ (by with_unfolding_all rfl); (case y1 => is_list); (case y2 => k_asm); (case y3 => first | decide | omega); (case y4 => omega); (case y5 => omega)); intro t'))
local macro_rules | `(tactic| walk_at "subscriptTail Name Name ref int") => `(tactic| (k_here; (with_reducible show wpAny _ _ (PySem.subscriptTail _ _ (Value.ref _) (Value.int _ _)) _ _ _); k_dflt (refine' subInts ?y1 ?y2 ?y3 ?y4 ?y5 ?_ (by with_unfolding_all rfl); (case y1 => is_list); (case y2 => k_asm); (case y3 => first | decide | omega); (case y4 => omega); (case y5 => omega)); intro t'))
local macro_rules | `(tactic| walk_at "subscriptTail Name Constant ref int") => `(tactic| (k_here; (with_reducible show wpAny _ _ (PySem.subscriptTail _ _ (Value.ref _) (Value.int _ _)) _ _ _); k_dflt (refine' subInts ?y1 ?y2 ?y3 ?y4 ?y5 ?_ (by with_unfolding_all rfl); (case y1 => is_list); (case y2 => k_asm); (case y3 => first | decide | omega); (case y4 => omega); (case y5 => omega)); intro t'))
local macro_rules | `(tactic| walk_at "subscriptTail Call Constant ref int") => `(tactic| (k_here; (with_reducible show wpAny _ _ (PySem.subscriptTail _ _ (Value.ref _) (Value.int _ _)) _ _ _); k_dflt (refine' subInts ?y1 ?y2 ?y3 ?y4 ?y5 ?_ (by with_unfolding_all rfl); (case y1 => is_list); (case y2 => k_asm); (case y3 => first | decide | omega); (case y4 => omega); (case y5 => omega)); intro t'))
local macro_rules | `(tactic| walk_at "eval ListComp") => `(tactic| (k_here; k_dflt (refine' comp_start ?y1 ?y2 ?y3 ?_ (by intro _; rfl); (case y1 => exact rfl); (case y2 => exact rfl); (case y3 => decide))))
local macro_rules | `(tactic| walk_at "eval Name") => `(tactic| (k_here; (with_reducible show wpAny _ _ (PySem.eval (PySem.Expr.Name _ _) (PySem.compEnvC _ _ _ _)) _ _ _); k_dflt (first | (refine' nameL ?y1 ?y2 ?y3 ?y4 ?_; (case y3 => exact rfl); (case y4 => exact rfl); (case y1 => assumption); (case y2 => assumption)) | (refine' nameC ?y1 ?y2 ?y3 ?y4 ?y5 ?_; (case y3 => exact rfl); (case y4 => exact rfl); (case y5 => exact rfl); (case y1 => assumption); (case y2 => assumption)))))
local macro_rules | `(tactic| walk_at "call builtin:min") => `(tactic| (k_here; (with_reducible show wpAny _ _ (PySem.call (Value.builtin _) [Value.ref _]) _ _ _); k_dflt (refine' minInts ?y1 ?y2 ?y3 ?y4 ?y5 ?y6 ?_; (case y1 => exact rfl); (case y2 => k_asm); (case y3 => k_asm); (case y4 => is_list); (case y5 => k_asm); (case y6 => assumption)); intro h' t' tk' F' N'))
set_option maxRecDepth 100000 in
set_option maxHeartbeats 8000000 in
theorem few_ctr (w : World) (mean mg mb) (l : Addr) (vs : List Value) (ns : List Int) (Bd : Nat) (tb : Tok) (hi : IntsAre vs ns) (hc : Coins ns) (hB : Bd < 64) :
  Ctr w mean mg mb 95 4 60 [.ref l, .int (Bd : Int) tb] [] (fun h => h.IsList l vs.toArray) (fun v new => ∃ D us kk, v = .ref D ∧ IntsAre us (fewL ns Bd) ∧ new = [(D, W.listOf us.toArray kk)]) := by
  unfold Ctr PR
  w_top off
  k_with_none
  k_fill
  intro dp un gd cn cs aa ccd cl outer A₀ base h₀ L m s Q E B F X N T hk hpre hd hu hret
  refine wpAny_call ?_
  k_dflt (refine' enterCX ?k1 ?k2 ?k3 ?k4 ?k5 ?kA ?kF ?kK ?k6 ?k7 ?k8 ?k9 ?kB ?kD ?_ ?c2 ?c3 ?c4; (case kA => exact rfl); (case kF => exact rfl); (case kK => assumption); (case k1 => k_asm); (case k2 => k_asm); (case k3 => k_asm); (case k4 => k_asm); (case k5 => k_asm); (case k6 => k_is); (case k7 => k_is); (case k8 => ktr_room); (case k9 => (first | exact BindsTo.of_eq rfl | (refine' kp_binds ?kx ?ke; (case kx => k_in); (case ke => exact fun _ => rfl)))); (case kB => exact rfl); (case kD => decide +kernel); (case c2 => exact rfl); (case c3 => exact rfl); (case c4 => exact rfl); k_whole; intro g' L' h' tk' cells' FG' F' N' Y' B' X' T' hlt' hkb' hfr'; k_cells Y'; (try simp only [List.cons_append, List.nil_append] at N'))
  (try k_lt hlt')
  have hlist : g'.IsList l vs.toArray := hpre _ hkb'
  (try dsimp only); (try k_fold)
  k_steps
  rename_i ow _ dw _ q9 hA lA hB of9 F9 N9 df9 hC tk9 t1 u1 v1 hR F8 N8 hk8
  have hsm : Builtin.Range.small 1 ((Bd : Int) + 1) 1 = true := small_one (by omega) (by omega) (by omega) (by omega)
  refine' forRange (σ := List Value × Nat × Obj) (n := Bd) (fun c => [(q9, W.listOf c.1.toArray c.2.1), (L' + 1 + 1, c.2.2), (L' + 1, of9)]) (fun _ => []) (fun i c => IntsAre c.1 (fewL ns i) ∧ ∃ v, c.2.2.data = .cell v) [] ⟨_, _, _⟩ rfl hR hsm ?zn F8 N8 ⟨?z1, _, dw⟩ (List.forall_mem_nil _) ?zt ?zd
  case zn => rw [rangeSize_nat]; omega
  case z1 => exact .cons _ _ .nil
  case zt =>
    rintro i t ⟨us, kk, ox⟩ u h tk I oI hi' ⟨hus, vx, hox⟩ hne F7 N7
    dsimp only [kstB] at hus hne F7 N7
    have hn1 : @Ne Nat q9 I ∧ @Ne Nat (L' + 1 + 1) I ∧ @Ne Nat (L' + 1) I := ⟨hne _ (.head _), hne _ (.tail _ (.head _)), hne _ (.tail _ (.tail _ (.head _)))⟩
    (try dsimp only); (try k_fold)
    k_steps
    rename_i hD ox2 F6 N6 dox
    have hfl := fewL_length ns i
    refine' compInts (fun c => decide (c ≤ 1 + (i : Int))) (fun c => (fewL ns i).getD (1 + (i : Int) - c).toNat 0) rfl (hlist.at fun o e => F6.keep _ o e) hi (by have := hc.len; omega) (by decide) rfl rfl F6 N6 ?z2 ?z3 ?z4
    case z2 =>
      intro C n t3 s₃ m₃ hn hNs hm hk3
      have hcw : s₃.heap.get? (L' + 1 + 1) = some ox2 := hk3 _ _ (N6 _ (.tail _ (.tail _ (.head _)))).1
      refine wpAny_tests_one ?_
      k_steps
      exact TEnd.here rfl
    case z3 =>
      intro C n t3 s₃ m₃ hn hp hNs hm hk3
      have hcw : s₃.heap.get? (L' + 1 + 1) = some ox2 := hk3 _ _ (N6 _ (.tail _ (.tail _ (.head _)))).1
      have hcf : s₃.heap.get? (L' + 1) = some of9 := hk3 _ _ (N6 _ (.tail _ (.tail _ (.tail _ (.head _))))).1
      have hlf : s₃.heap.IsList q9 us.toArray := ⟨_, hk3 _ _ (N6 _ (.tail _ (.head _))).1, rfl, _, rfl⟩
      have hnp := hc.pos n hn
      have hpn : n ≤ 1 + (i : Int) := of_decide_eq_true hp
      k_steps
      exact EEnd.here rfl
    case z4 =>
      intro D5 h5 tk5 us5 kk5 F5 N5 hne5 hI5
      have h1m : (1 : Int) ∈ ns := List.mem_of_getElem? hc.one
      have hlm : 0 < (List.map (fun c => (fewL ns i).getD (1 + (i : Int) - c).toNat 0) (ns.filter (fun c => decide (c ≤ 1 + (i : Int))))).length := by
        rw [List.length_map]
        exact List.length_pos_of_mem (List.mem_filter.mpr ⟨h1m, by simp; omega⟩)
      have hx1 : @Ne Nat q9 D5 := hne5 _ (.tail _ (.head _))
      (try dsimp only); (try k_fold)
      k_steps
      refine' stepS_next ⟨_, _, ox2⟩ ?z1 ?z2 ?z3 ?z4 ?z5 ⟨?z6, _, dox⟩ ?z7
      case z2 => k_asm
      case z1 => exact List.forall_mem_nil _
      case z3 => k_asm
      case z4 => k_allIn
      case z5 => repeat' (first | exact List.forall_mem_nil _ | refine List.forall_mem_cons.mpr ⟨(by (try dsimp only); omega), ?_⟩)
      case z6 => assumption
      case z7 => ksw_same
  case zd =>
    rintro ⟨us, kk, ox⟩ u h tk ⟨hus, vx, hox⟩ F7 N7
    dsimp only [kstB] at hus F7 N7
    k_steps
    exact hret _ _ _ _ ⟨q9, us, kk, rfl, hus, rfl⟩ (by k_asm) (news_sub (by k_asm) (by k_allIn)) (by assumption) (fun p hp => hfr' _ (news_sub N7 (by k_allIn) p hp).2.2)
end
end Mine
namespace Mine
section
open PySem PySem.W PySem.Calls PyProof.Rows PyProof.Rows.LCg PyProof.Rows.LCp
section
variable {prog : Program} {w : World} {A : Around} {E : Value → Shared → Prop} {s : Shared} {env : Env} {h₀ : Heap} {L : Addr}
abbrev EltOk2 (prog : Program) (w : World) (A : Around) (env : Env) (scope : Scope) (cl : List (Str × Addr)) (x x₂ : Str) (elt : Expr) (ok : Nat × Nat → Prop) (f : Nat × Nat → Int) : Prop :=
  ∀ C (c o : Nat) t1 t2 s₃ m₃, ok (c, o) → Heap.Ns s₃.heap C m₃ → m₃ x = some (.int (c : Int) t1) → m₃ x₂ = some (.int (o : Int) t2) →
    wpAny (model prog w) A (eval elt (compEnvC scope cl C env)) (fun y s₄ => EEnd (f (c, o)) s₃ y s₄) (fun _ _ => False) s₃

theorem off1_mem {D : Addr} {l : List (Addr × Obj)} : Off1 D l → ∀ p ∈ l, @Ne Nat p.1 D := by
  induction l with
  | nil => intro _ p hp; cases hp
  | cons q r ih =>
    intro h p hp
    unfold Off1 at h
    rcases List.mem_cons.mp hp with rfl | hp
    · exact h.1
    · exact ih h.2 p hp
theorem pairsRest {elt : Expr} {x x₂ : Str} {scope : Scope} {cl : List (Str × Addr)} {S : List (Addr × Obj) → Prop} {m : Str → Option Value} {led tps : List (Addr × Obj)} {its : Array Value} {Fin : List Value → List (Addr × Obj) → Prop} {ok : Nat × Nat → Prop}
    (f : Nat × Nat → Int) (hsub : ∀ p ∈ tps, p ∈ led) (hS : S led) (elts : EltOk2 prog w A env scope cl x x₂ elt ok f) :
    ∀ {us : List Value} {ps : List (Nat × Nat)}, PairsIn tps us ps → (∀ p ∈ ps, ok p) → ∀ (i : Nat) (ys : List Value) (ns : List Int), IntsAre ys ns → (∀ j, its[i + j]? = us[j]?) → (∀ zs, IntsAre zs (ns ++ ps.map f) → Fin zs led) →
      CompRestP prog w A h₀ L m env elt x x₂ scope cl s S (fun i v => its[i]? = some v) Fin us.length i ys led
  | _, _, .nil, _, i, ys, ns, hI, _, fin => CompRestP.zero (fin ys (by simpa using hI))
  | _, _, .cons (T := T) (c := c) (o := o) (t1 := t1) (t2 := t2) (vs := vs) (ps := ps) hm r, hok, i, ys, ns, hI, hit, fin => by
    refine CompRestP.succ fun v hv => ?_
    have e := hit 0
    rw [Nat.add_zero, hv] at e
    cases e
    refine ⟨T, _, .int (c : Int) t1, .int (o : Int) t2, _, rfl, hsub _ hm, rfl, rfl, ?_⟩
    intro I oI C oC D m₂ h tk E' hNs h1 h2 F N off ne
    refine wpAny_noRaise (wpAny_mono (elts C c o t1 t2 _ m₂ (hok _ (.head _)) (hNs.ns (N _ (.tail _ (.head _))).1) h1 h2) (fun y s₄ hy => ?_) fun _ _ e => e)
    obtain ⟨⟨t', rfl⟩, h', tk', rfl, k⟩ := hy
    refine ⟨h', tk', led, rfl, F.keeps k, fun p hp => ⟨k _ _ (N p hp).1, (N p hp).2⟩, off, hS, ?_⟩
    refine pairsRest f hsub hS elts r (fun p hp => hok p (.tail _ hp)) (i + 1) _ (ns ++ [f (c, o)]) (IntsAre.append hI (.cons _ _ .nil)) (fun j => ?_) fun zs hz => fin zs ?_
    · have := hit (j + 1)
      rw [show i + 1 + j = i + (j + 1) by omega, this]; rfl
    · simpa [List.append_assoc] using hz

theorem compPairs {elt iter : Expr} {x x₂ : Str} {px px₂ tp : Pos} {tk0} {scope : Scope} {cl : List (Str × Addr)} {pos : Pos} {Q : Value → Shared → Prop} {l : Addr} {us : List Value} {kk : Nat} {ps : List (Nat × Nat)} {tps led : List (Addr × Obj)} {m : Str → Option Value}
    (f : Nat × Nat → Int) (hh : A.handled = none) (hl : (l, W.listOf us.toArray kk) ∈ led) (hP : PairsIn tps us ps) (hsub : ∀ p ∈ tps, p ∈ led) (hz : ps.length ≤ 2 ^ 20)
    (hcell : ∀ y ∈ scope.names, y.2 ≠ .cell) (hkind : scope.kind = .function) (hx : scope.names.lookup x = some .local) (hx₂ : scope.names.lookup x₂ = some .local) (hxx : x ≠ x₂)
    (F : Fr h₀ L s.heap m) (N : News h₀ L s.heap led)
    (elts : EltOk2 prog w A env scope cl x x₂ elt (· ∈ ps) f)
    (done : ∀ D h' tk us kk, Fr h₀ L h' m → News h₀ L h' ((D, PySem.W.listOf us.toArray kk) :: led) → (∀ q ∈ led, @Ne Nat q.1 D) → IntsAre us (ps.map f) → Q (.ref D) { s with heap := h', toks := tk }) :
    CompGoal prog w A (.ListComp elt [⟨.Tuple [.Name x px, .Name x₂ px₂] tk0 tp, iter, [], 0⟩] scope pos) scope cl env Q (.ref l) s := by
  have S : SrcAt h₀ l us.toArray led := .inr ⟨_, hl, rfl, _, rfl⟩
  have hl := S.list F.keep N
  have hlt : l < s.heap.objs.size := by obtain ⟨_, e, _⟩ := hl; exact Heap.lt_size e
  refine wpAny_pyIter_list hl ?_
  have up : ∀ b o, s.heap.get? b = some o → (s.heap.push { cls := .type "list_iterator", data := .fields #[.ref l, .int 0 0] }).get? b = some o := fun b o e => Heap.get?_push_of_some _ e
  refine block_P (s₂ := { s with heap := _ }) (Fin := fun ys news' => news' = led ∧ IntsAre ys (ps.map f)) (Walks.list hh s.heap.objs.size l (Nat.ne_of_lt hlt) us.toArray) (by rw [List.size_toArray, hP.length, sizeLine_eq]; omega) (fun i h st => by obtain ⟨o, e, _⟩ := st.1; exact ⟨o, e⟩) list_st hcell hkind hx hx₂ hxx hh (fun i h st => ⟨_, _, st.1⟩) ⟨⟨_, Heap.get?_push_size _ rfl, rfl, rfl⟩, hl.push _⟩ (fun b hb => ?_)
    (F.keeps up) (N.grown up) (Nat.ne_of_lt F.ns.lt) (next_is_new F) (fun p hp => Nat.ne_of_lt (Heap.lt_size (N p hp).1)) S ?_ ?_
  · show b < (s.heap.push _).objs.size
    rw [Heap.size_push]
    rcases List.mem_cons.mp hb with rfl | hb
    · exact Nat.lt_succ_self _
    · rw [List.mem_singleton.mp hb]; exact Nat.lt_succ_of_lt hlt
  · rw [List.size_toArray]
    exact pairsRest f hsub S elts hP (fun p hp => hp) 0 [] [] .nil (fun j => by simp) fun zs hz => ⟨rfl, by simpa using hz⟩
  · rintro D C h tk m' ys news' F' N' o1 hn hC₀ hD₀ hCL hDL hCD offC ⟨rfl, fin⟩
    refine ⟨m', hn, fun h'' hs'' => done D h'' tk ys ys.length (F'.change hs'' hCL hC₀) (fun p hp => ?_) (fun q hq => ?_) fin⟩
    · refine ⟨hs''.extBut _ _ ?_ (N' p hp).1, (N' p hp).2⟩
      rcases List.mem_cons.mp hp with rfl | hp
      · exact Ne.symm hCD
      · exact offC p hp
    · exact off1_mem o1 q hq
end
section
variable {prog : Program} {w : World} {A : Around} {E : Value → Shared → Prop} {s : Shared} {env : Env} {h₀ : Heap} {L : Addr}
theorem pairs_get {tps : List (Addr × Obj)} : ∀ {us : List Value} {ps : List (Nat × Nat)}, PairsIn tps us ps → ∀ i (hi : i < ps.length) v, us[i]? = some v → ∃ T t1 t2, v = .ref T ∧ (T, tupObj [.int ((ps[i].1 : Nat) : Int) t1, .int ((ps[i].2 : Nat) : Int) t2]) ∈ tps
  | _, _, .nil, _, hi, _, _ => absurd hi (Nat.not_lt_zero _)
  | _, _, .cons hm _, 0, _, v, hv => by cases hv; exact ⟨_, _, _, rfl, hm⟩
  | _, _, .cons _ r, i + 1, hi, v, hv => pairs_get r i (Nat.lt_of_succ_lt_succ hi) v hv

theorem forPairs {σ : Type} {x x₂ : Str} {px px₂ tp : Pos} {tk0} {body : List Stmt} {Q : Flow → Shared → Prop} {l : Addr} {us : List Value} {kk : Nat} {ps : List (Nat × Nat)} {tps : List (Addr × Obj)} {m₀ : Str → Option Value}
    (Led : σ → List (Addr × Obj)) (psv : σ → List (Str × Value)) (Facts : Nat → σ → Prop) (stored : List Str) (c₀ : σ) (hh : A.handled = none) (hLe : env.locals = L)
    (hl : ∀ c, (l, W.listOf us.toArray kk) ∈ Led c) (hP : PairsIn tps us ps) (hsub : ∀ c, ∀ p ∈ tps, p ∈ Led c)
    (hx : env.kindOf x = some .local) (hx₂ : env.kindOf x₂ = some .local) (hp : (env.scope.kind == .class || (env.scope.kind == .module && env.locals != env.globals)) = false)
    (F : Fr h₀ L s.heap m₀) (N : News h₀ L s.heap (Led c₀)) (hf : Facts 0 c₀) (hk : ∀ p ∈ psv c₀, m₀ p.1 = some p.2)
    (turn : ∀ i (hi : i < ps.length) t1 t2 c (u : Str → Option Value) (h : Heap) (tk : Nat) I oI, Facts i c → (∀ p ∈ Led c, @Ne Nat p.1 I) →
      Fr h₀ L h (fun z => if z = x₂ then some (.int ((ps[i].2 : Nat) : Int) t2) else if z = x then some (.int ((ps[i].1 : Nat) : Int) t1) else kstB (fun z => if stored.contains z then u z else m₀ z) (psv c) z) → News h₀ L h ((I, oI) :: Led c) →
      wpAny (model prog w) A (execs body env) (StepS h₀ L I oI Led psv (Facts (i + 1)) stored m₀ { s with heap := h, toks := tk } Q) (fun _ _ => False) { s with heap := h, toks := tk })
    (done : ∀ c (u : Str → Option Value) (h : Heap) (tk : Nat), Facts ps.length c → Fr h₀ L h (kstB (fun z => if stored.contains z then u z else m₀ z) (psv c)) → News h₀ L h (Led c) → Q .next { s with heap := h, toks := tk }) :
    ForGoal prog w A (.Tuple [.Name x px, .Name x₂ px₂] tk0 tp) body env Q (.ref l) s := by
  have z := N _ (hl c₀)
  have hl' : s.heap.IsList l us.toArray := ⟨_, z.1, rfl, _, rfl⟩
  refine wpAny_pyIter_list hl' ?_
  have hlt : @LT.lt Nat _ l s.heap.objs.size := Heap.lt_size z.1
  have W := Walks.list (prog := prog) (w := w) hh s.heap.objs.size l (Nat.ne_of_lt hlt) us.toArray
  have hlen : us.toArray.size = ps.length := by rw [List.size_toArray, hP.length]
  rw [hlen] at W
  refine for_core (s := { s with heap := _ }) Led psv Facts stored W (lt_new F) (free_new F) (fun i h e => let ⟨o, ho, _⟩ := e.1; ⟨o, ho⟩) (fun b hb => ?_) (fun i v s₁ Q' st hv q => ?_) c₀
    ⟨⟨_, Heap.get?_push_size _ rfl, rfl, rfl⟩, hl'.at fun o e => Heap.get?_push_of_some _ e⟩ (F.push _) (fun p hp => ⟨Heap.get?_push_of_some _ (N p hp).1, (N p hp).2⟩) (news_new N (m := m₀)) hf hk ?_ ?_
  · rcases List.mem_cons.mp hb with e | hb
    · exact .inl e
    · rw [List.mem_singleton.mp hb]; exact .inr (.inr ⟨_, hl⟩)
  · have hi' : i - 1 < ps.length := by
      have : i - 1 < us.toArray.size := by
        obtain ⟨h, _⟩ := Array.getElem?_eq_some_iff.mp hv
        exact h
      omega
    obtain ⟨T, t1, t2, rfl, hm⟩ := pairs_get hP (i - 1) hi' v (by simpa using hv)
    exact wpAny_letOwnedTupleGo_listiter st.1 q
  · rintro i v c u h tk oI hlt' hv hf' hne F' N'
    obtain ⟨T, t1, t2, rfl, hm⟩ := pairs_get hP i hlt' v (by simpa using hv)
    have hT : h.IsTuple T #[.int ((ps[i].1 : Nat) : Int) t1, .int ((ps[i].2 : Nat) : Int) t2] := ⟨_, (N' _ (.tail _ (hsub c _ hm))).1, rfl, _, rfl⟩
    refine kcp_assign hh hT hx hx₂ hp (hLe ▸ F'.ns) fun h' tk' hn' hk' => ?_
    rw [hLe] at hn' hk'
    refine turn i hlt' t1 t2 c u h' tk' _ oI hf' hne ⟨hn', fun b o e => ?_, F'.above⟩ fun p hp => ⟨hk' _ _ (N' p hp).2.1 (N' p hp).1, (N' p hp).2⟩
    exact hk' b o (Nat.ne_of_lt (Nat.lt_of_lt_of_le (Heap.lt_size e) F'.above)) (F'.keep b o e)
  · exact done
end
end
end Mine
namespace Mine
section
open PySem PySem.W PySem.Calls PyProof.Rows
/-- the law's own body and scope -/
noncomputable def lawParts : Option (List Stmt × Scope) :=
  match PySem.Challenge.pw_hc0006_01.main.body.getLast? with
  | some (.FunctionDef _ _ body _ _ _ scope _ _ _) => some (body, scope)
  | _ => none
theorem lawcases {o : List Stmt × Scope} {body : List Stmt} {scope : Scope} {P : Prop} (h : lawParts = some o) (e : lawParts = some (body, scope)) (k : o.1 = body → o.2 = scope → P) : P := by
  rw [h] at e; cases e; exact k rfl rfl
section
variable {prog : Program} {w : World} {A : Around} {E : Value → Shared → Prop} {s : Shared}
def CallGoal (prog : Program) (w : World) (A : Around) (f : Value) (args : List Value) (Q : Value → Shared → Prop) (s : Shared) : Prop := wpAny (model prog w) A (call f args) Q (fun _ _ => False) s
theorem call_start {f : Value} {args : List Value} {Q : Value → Shared → Prop} (h : CallGoal prog w A f args Q s) : wpAny (model prog w) A (call f args) Q E s := wpAny_noRaise h
end
theorem fr_kst {h₀ h : Heap} {L : Addr} {m : Str → Option Value} (ps : List (Str × Value)) (hk : ∀ p ∈ ps, m p.1 = some p.2) (F : Fr h₀ L h m) : Fr h₀ L h (kstB m ps) := by
  have e := ksw_fr (stored := []) (m₀ := m) hk (fun _ _ _ => rfl) F
  simpa using e
end
end Mine
namespace Mine
section
open PySem PySem.W PySem.Calls PyProof.Rows
def hereOf : Int → List Int → Int
  | h, [] => h
  | h, k :: r => hereOf (h * (2 + k % 3)) r
def rowOf : Int → List Int → List Int
  | _, [] => []
  | h, k :: r => h * (2 + k % 3) :: rowOf (h * (2 + k % 3)) r
theorem hereOf_snoc : ∀ (ks : List Int) (h k : Int), hereOf h (ks ++ [k]) = hereOf h ks * (2 + k % 3)
  | [], _, _ => rfl
  | a :: r, h, k => hereOf_snoc r (h * (2 + a % 3)) k
theorem rowOf_snoc : ∀ (ks : List Int) (h k : Int), rowOf h (ks ++ [k]) = rowOf h ks ++ [hereOf h ks * (2 + k % 3)]
  | [], _, _ => rfl
  | a :: r, h, k => congrArg (_ :: ·) (rowOf_snoc r (h * (2 + a % 3)) k)
theorem rowOf_length : ∀ (ks : List Int) (h : Int), (rowOf h ks).length = ks.length
  | [], _ => rfl
  | a :: r, h => congrArg (· + 1) (rowOf_length r (h * (2 + a % 3)))
theorem mod3 (k : Int) : k % 3 = 0 ∨ k % 3 = 1 ∨ k % 3 = 2 := by omega
theorem here_bd {ks : List Int} (h : ks.length ≤ 3) : 1 ≤ hereOf 1 ks ∧ hereOf 1 ks ≤ 64 := by
  match ks, h with
  | [], _ => decide
  | [a], _ => simp only [hereOf]; rcases mod3 a with e | e | e <;> rw [e] <;> decide
  | [a, b], _ => simp only [hereOf]; rcases mod3 a with e | e | e <;> rcases mod3 b with e2 | e2 | e2 <;> rw [e, e2] <;> decide
  | [a, b, c], _ => simp only [hereOf]; rcases mod3 a with e | e | e <;> rcases mod3 b with e2 | e2 | e2 <;> rcases mod3 c with e3 | e3 | e3 <;> rw [e, e2, e3] <;> decide
def sysOf (ks : List Int) : List Int := 1 :: rowOf 1 ks
def seeds : List (List Int) := [[0],[1],[2]]
def more (l : List (List Int)) : List (List Int) := l.flatMap fun a => [a ++ [0], a ++ [1], a ++ [2]]
def allSys : List (List Int) := (seeds ++ more seeds ++ more (more seeds)).map sysOf
theorem sys_mem {ks : List Int} (h0 : 1 ≤ ks.length) (h : ks.length ≤ 3) : sysOf ks ∈ allSys := by
  match ks, h0, h with
  | [a], _, _ =>
    have : sysOf [a] = sysOf [a % 3] := by simp [sysOf, rowOf]
    rw [this]; rcases mod3 a with e | e | e <;> rw [e] <;> decide +kernel
  | [a, b], _, _ =>
    have : sysOf [a, b] = sysOf [a % 3, b % 3] := by simp [sysOf, rowOf]
    rw [this]; rcases mod3 a with e | e | e <;> rcases mod3 b with e2 | e2 | e2 <;> rw [e, e2] <;> decide +kernel
  | [a, b, c], _, _ =>
    have : sysOf [a, b, c] = sysOf [a % 3, b % 3, c % 3] := by simp [sysOf, rowOf]
    rw [this]; rcases mod3 a with e | e | e <;> rcases mod3 b with e2 | e2 | e2 <;> rcases mod3 c with e3 | e3 | e3 <;> rw [e, e2, e3] <;> decide +kernel
/-- how many coins the greatest-first way lays -/
def cntP (ns : List Int) (W : Nat) : Int := ((pays ns 9 W).1.map fun p => ((p.2 : Nat) : Int)).sum
def valP (ns : List Int) (W : Nat) : Int := ((pays ns 9 W).1.map fun p => ((p.1 : Nat) : Int) * ((p.2 : Nat) : Int)).sum
/-- the place of a coin, and that it is paid less often than the next one is it -/
def nextOk (ns : List Int) (p : Nat × Nat) : Bool :=
  ns.contains ((p.1 : Nat) : Int) && (decide (ns.length ≤ ns.idxOf ((p.1 : Nat) : Int) + 1) || decide (((p.2 : Nat) : Int) * ((p.1 : Nat) : Int) < ns.getD (ns.idxOf ((p.1 : Nat) : Int) + 1) 0))
def payOk (ns : List Int) (W : Nat) : Bool := (pays ns 9 W).2 == 0 && decide (valP ns W = (W : Int)) && (pays ns 9 W).1.all (nextOk ns)
def recOk (ns : List Int) (n : Nat) : Bool := decide (1 + minI ((ns.filter (fun c => decide (c ≤ 1 + (n : Int)))).map (fun c => cntP ns (1 + (n : Int) - c).toNat)) = cntP ns (n + 1))
def coinsOk (ns : List Int) : Bool := match ns with
  | 1 :: b :: r => decide (2 ≤ b) && decide (b ≤ 4) && decide (r.length ≤ 2) && (1 :: b :: r).all (fun c => decide (0 < c ∧ c ≤ 64)) && decide ((1 :: b :: r).Pairwise (· < ·))
  | _ => false
theorem all_coins : allSys.all coinsOk = true := by decide +kernel
theorem all_lay : (allSys.all fun ns => (PyData.list (ns.map PyData.int)).layable0) = true := by decide +kernel
theorem all_pay : (allSys.all fun ns => (List.range 41).all (payOk ns)) = true := by decide +kernel
theorem all_rec : (allSys.all fun ns => (List.range 40).all (recOk ns)) = true := by decide +kernel
end
end Mine
namespace Mine
section
open PySem PySem.W PySem.Calls PyProof.Rows
structure SysF (ns : List Int) : Prop where
  coins : Coins ns
  two : ∃ b r, ns = 1 :: b :: r ∧ 2 ≤ b ∧ b ≤ 4
  small : ∀ c ∈ ns, 0 < c ∧ c ≤ 64
  len : ns.length ≤ 4
  nodup : ns.Pairwise (· < ·)
  pay : ∀ W, W ≤ 40 → payOk ns W = true
  lay : (PyData.list (ns.map PyData.int)).layable0 = true
  step : ∀ n, n < 40 → recOk ns n = true
theorem sysF {ns : List Int} (h : ns ∈ allSys) : SysF ns := by
  have h1 := List.all_eq_true.mp all_coins ns h
  have h2 := List.all_eq_true.mp all_pay ns h
  have h3 := List.all_eq_true.mp all_rec ns h
  unfold coinsOk at h1
  split at h1
  · rename_i b r
    simp only [Bool.and_eq_true, decide_eq_true_eq] at h1
    obtain ⟨⟨⟨⟨a1, a2⟩, a3⟩, a4⟩, a5⟩ := h1
    have a4' : ∀ c ∈ (1 :: b :: r), 0 < c ∧ c ≤ 64 := fun c hc => of_decide_eq_true (List.all_eq_true.mp a4 c hc)
    exact ⟨⟨a5.imp fun h => Int.le_of_lt h, fun c hc => (a4' c hc).1, rfl, by simp; omega⟩, ⟨b, r, rfl, a1, a2⟩, a4', by simp; omega, a5,
      fun W hW => List.all_eq_true.mp h2 W (List.mem_range.mpr (by omega)), List.all_eq_true.mp all_lay _ h, fun n hn => List.all_eq_true.mp h3 n (List.mem_range.mpr (by omega))⟩
  · cases h1
theorem rec_eq {ns : List Int} (S : SysF ns) {n : Nat} (hn : n < 40) : 1 + minI ((ns.filter (fun c => decide (c ≤ 1 + (n : Int)))).map (fun c => cntP ns (1 + (n : Int) - c).toNat)) = cntP ns (n + 1) :=
  of_decide_eq_true (S.step n hn)
theorem few_get {ns : List Int} (S : SysF ns) : ∀ m, m ≤ 40 → ∀ n, n ≤ m → (fewL ns m).getD n 0 = cntP ns n
  | 0, _, n, hn => by
    have : n = 0 := by omega
    subst this
    simp [fewL, cntP, pays]
  | m + 1, hm, n, hn => by
    have ih := few_get S m (by omega)
    show (fewL ns m ++ [_]).getD n 0 = _
    rw [List.getD_eq_getElem?_getD]
    by_cases h : n ≤ m
    · rw [List.getElem?_append_left (by rw [fewL_length]; omega), ← List.getD_eq_getElem?_getD]
      exact ih n h
    · have : n = m + 1 := by omega
      subst this
      rw [List.getElem?_append_right (by rw [fewL_length]; exact Nat.le_refl _), fewL_length, Nat.sub_self]
      show 1 + minI _ = _
      rw [← rec_eq S (by omega : m < 40)]
      congr 2
      refine List.map_congr_left fun c hc => ?_
      obtain ⟨hc1, hc2⟩ := List.mem_filter.mp hc
      have := of_decide_eq_true hc2
      have := S.small c hc1
      exact ih _ (by omega)
theorem sub_add {ns : List Int} (S : SysF ns) : ∀ b a, a + b ≤ 40 → cntP ns (a + b) ≤ cntP ns a + cntP ns b := by
  intro b
  induction b using Nat.strongRecOn with
  | _ b ih =>
    intro a hab
    cases b with
    | zero => simp [cntP, pays]
    | succ b =>
      have e := rec_eq S (show b < 40 by omega)
      have e2 := rec_eq S (show a + b < 40 by omega)
      have h1m : (1 : Int) ∈ ns := List.mem_of_getElem? S.coins.one
      have hne : (ns.filter (fun c => decide (c ≤ 1 + (b : Int)))).map (fun c => cntP ns (1 + (b : Int) - c).toNat) ≠ [] := by
        intro q
        have := List.map_eq_nil_iff.mp q
        have : (1 : Int) ∈ ns.filter (fun c => decide (c ≤ 1 + (b : Int))) := List.mem_filter.mpr ⟨h1m, by simp; omega⟩
        rw [‹ns.filter _ = []›] at this
        cases this
      obtain ⟨c, hc, ec⟩ := List.mem_map.mp (minI_mem hne)
      obtain ⟨hc1, hc2⟩ := List.mem_filter.mp hc
      have hcb := of_decide_eq_true hc2
      have hcp := S.small c hc1
      rw [← ec] at e
      have hin : cntP ns (1 + ((a + b : Nat) : Int) - c).toNat ∈ (ns.filter (fun c => decide (c ≤ 1 + ((a + b : Nat) : Int)))).map (fun c => cntP ns (1 + ((a + b : Nat) : Int) - c).toNat) :=
        List.mem_map.mpr ⟨c, List.mem_filter.mpr ⟨hc1, by simp; omega⟩, rfl⟩
      have hle := minI_le hin
      have e3 : (1 + ((a + b : Nat) : Int) - c).toNat = a + (1 + (b : Int) - c).toNat := by omega
      rw [e3] at hle
      have i := ih (1 + (b : Int) - c).toNat (by omega) a (by omega)
      show cntP ns (a + b + 1) ≤ _
      omega
theorem pay_facts {ns : List Int} (S : SysF ns) {W : Nat} (hW : W ≤ 40) : (pays ns 9 W).2 = 0 ∧ valP ns W = (W : Int) ∧ ∀ p ∈ (pays ns 9 W).1, nextOk ns p = true := by
  have h := S.pay W hW
  simp only [payOk, Bool.and_eq_true, decide_eq_true_eq, beq_iff_eq] at h
  exact ⟨h.1.1, h.1.2, List.all_eq_true.mp h.2⟩
theorem pays_bd {ns : List Int} (C : Coins ns) : ∀ f V, ∀ p ∈ (pays ns f V).1, p.1 ≤ V ∧ p.2 ≤ V
  | 0, _, p, hp => by cases hp
  | f + 1, V, p, hp => by
    unfold pays at hp
    split at hp
    · cases hp
    · rename_i hV
      obtain ⟨_, h1, h2⟩ := coin_get C (V := V) (by omega)
      rcases List.mem_cons.mp hp with rfl | hp
      · exact ⟨h2, Nat.div_le_self _ _⟩
      · have := pays_bd C f _ p hp
        have := Nat.mod_le V (coinOf ns V)
        omega
theorem next_fact {ns : List Int} {p : Nat × Nat} (h : nextOk ns p = true) : ((p.1 : Nat) : Int) ∈ ns ∧ (((ns.idxOf ((p.1 : Nat) : Int) : Nat) : Int) + 1 < (ns.length : Int) → ((p.2 : Nat) : Int) * ((p.1 : Nat) : Int) < ns.getD (((ns.idxOf ((p.1 : Nat) : Int) : Nat) : Int) + 1).toNat 0) := by
  unfold nextOk at h
  simp only [Bool.and_eq_true, Bool.or_eq_true, decide_eq_true_eq, List.contains_iff_mem] at h
  refine ⟨h.1, fun hl => ?_⟩
  rw [show (((ns.idxOf ((p.1 : Nat) : Int) : Nat) : Int) + 1).toNat = ns.idxOf ((p.1 : Nat) : Int) + 1 by omega]
  rcases h.2 with h2 | h2
  · omega
  · exact h2
theorem pays_len (ns : List Int) : ∀ f V, (pays ns f V).1.length ≤ f
  | 0, _ => Nat.le_refl _
  | f + 1, V => by
    unfold pays
    split
    · exact Nat.zero_le _
    · exact Nat.succ_le_succ (pays_len ns f _)
/-- what is known of the ways after i coins, the last of them up to p -/
def lowW (b : Int) (i p W : Nat) : Int := if i = 0 then (if W < p then 1 else 0) else if i = 1 then (if b ≤ (W : Int) ∧ W < p then 2 else 1) else if b ≤ (W : Int) then 2 else 1
def WaysOk (b : Int) (i p : Nat) (ws : List Int) : Prop := ws.length = 41 ∧ ∀ W, W ≤ 40 → lowW b i p W ≤ ws.getD W 0
theorem ways_step {ns : List Int} {b : Int} {r : List Int} (hb : 2 ≤ b) (en : ns = 1 :: b :: r) (hs : ns.Pairwise (· < ·)) {i p c : Nat} (hi : i < ns.length) (hc : ns[i] = (c : Int)) (hcp : c ≤ p) (hp : p ≤ 40) {ws : List Int} (h : WaysOk b i p ws) :
    WaysOk b i (p + 1) (ws.set p (ws.getD p 0 + ws.getD (p - c) 0)) := by
  subst en
  obtain ⟨h1, h2⟩ := h
  refine ⟨by rw [List.length_set]; exact h1, fun W hW => ?_⟩
  have hc1 : 1 ≤ c ∧ (i = 0 → c = 1) ∧ (i = 1 → (c : Int) = b) ∧ (2 ≤ i → b ≤ (c : Int)) := by
    match i, hi, hc with
    | 0, _, hc => simp at hc; omega
    | 1, _, hc => simp at hc; omega
    | i + 2, hi, hc =>
      simp only [List.length_cons] at hi
      have hm : (c : Int) ∈ r := by rw [← hc]; simp
      have := (List.pairwise_cons.mp (List.pairwise_cons.mp hs).2).1 _ hm
      omega
  by_cases e : W = p
  · subst e
    have e1 : (ws.set W (ws.getD W 0 + ws.getD (W - c) 0)).getD W 0 = ws.getD W 0 + ws.getD (W - c) 0 := by
      rw [List.getD_eq_getElem?_getD, List.getElem?_set_self (by omega)]; rfl
    rw [e1]
    have g1 := h2 W hW
    have g2 := h2 (W - c) (by omega)
    unfold lowW at g1 g2 ⊢
    split at g1 <;> split at g1 <;> split at g2 <;> (try split at g2) <;> (try split) <;> omega
  · have e1 : (ws.set p (ws.getD p 0 + ws.getD (p - c) 0)).getD W 0 = ws.getD W 0 := by
      rw [List.getD_eq_getElem?_getD, List.getElem?_set_ne (by omega), ← List.getD_eq_getElem?_getD]
    rw [e1]
    have g1 := h2 W hW
    unfold lowW at g1 ⊢
    split at g1 <;> split at g1 <;> (try split) <;> omega
theorem ways_next {ns : List Int} {b : Int} {r : List Int} (hb : 2 ≤ b) (en : ns = 1 :: b :: r) {i : Nat} {ws : List Int} (h : WaysOk b i 41 ws) {c : Nat} (hi : i + 1 < ns.length) (hc : ns[i + 1] = (c : Int)) : WaysOk b (i + 1) c ws := by
  subst en
  refine ⟨h.1, fun W hW => ?_⟩
  have g := h.2 W hW
  have : i + 1 = 1 → (c : Int) = b := by
    rintro e
    have : i = 0 := by omega
    subst this
    simp at hc; omega
  unfold lowW at g ⊢
  split at g <;> split at g <;> (try split) <;> (try split) <;> omega
end
end Mine
namespace Mine
section
open PySem PySem.W PySem.Calls PyProof.Rows
theorem ways_start (b : Int) : WaysOk b 0 1 (1 :: List.replicate 40 0) := by
  refine ⟨by simp, fun W hW => ?_⟩
  cases W with
  | zero => unfold lowW; simp
  | succ W =>
    have e : ((1 : Int) :: List.replicate 40 0).getD (W + 1) 0 = 0 := by
      rw [List.getD_eq_getElem?_getD, List.getElem?_cons_succ, List.getElem?_replicate]
      split <;> rfl
    rw [e]; unfold lowW; simp
theorem ways_end {b : Int} {i p : Nat} {ws : List Int} (h : WaysOk b i p ws) (hp : 41 ≤ p) : WaysOk b i 41 ws := by
  refine ⟨h.1, fun W hW => ?_⟩
  have g := h.2 W hW
  unfold lowW at g ⊢
  split at g <;> split at g <;> (try split) <;> (try split) <;> omega
theorem ways_turn {ns : List Int} (S : SysF ns) {b : Int} {r : List Int} (hb : 2 ≤ b) (en : ns = 1 :: b :: r) {i : Nat} {ws : List Int} (h : WaysOk b i 41 ws) :
    (∀ x, ns[i + 1]? = some x → WaysOk b (i + 1) x.toNat ws) ∧ (i + 1 = ns.length → WaysOk b (i + 1 - 1) 41 ws) := by
  refine ⟨fun x hx => ?_, fun _ => h⟩
  obtain ⟨hi, e⟩ := List.getElem?_eq_some_iff.mp hx
  have := S.small _ (List.getElem_mem hi)
  refine ways_next hb en h hi ?_
  omega
theorem ways_fin {b : Int} {n : Nat} {ws : List Int} (hn : 2 ≤ n) (h : WaysOk b (n - 1) 41 ws) : ∀ W, W ≤ 40 → 1 ≤ ws.getD W 0 ∧ (b ≤ (W : Int) → 2 ≤ ws.getD W 0) := by
  intro W hW
  have g := h.2 W hW
  unfold lowW at g
  split at g
  · omega
  · split at g <;> split at g <;> (refine ⟨by omega, fun hb => by omega⟩)
end
end Mine
namespace Mine
section
open PySem PySem.W PySem.Calls PyProof.Rows
local macro_rules | `(tactic| walk_at "exec For Name Call cons nil") => `(tactic| (k_here; k_dflt (refine for_start ?_)))
local macro_rules | `(tactic| walk_at "exec For Name Name cons nil") => `(tactic| (k_here; k_dflt (refine for_start ?_)))
local macro_rules | `(tactic| walk_at "exec For Name Subscript cons nil") => `(tactic| (k_here; k_dflt (refine for_start ?_)))
local macro_rules | `(tactic| walk_at "exec For Tuple Name cons nil") => `(tactic| (k_here; k_dflt (refine for_start ?_)))
local macro_rules | `(tactic| walk_at "setItem ref int") => `(tactic| (k_here; (with_reducible show wpAny _ _ (PySem.setItem (Value.ref _) (Value.int _ _) (Value.int _ _)) _ _ _); k_dflt (refine' setInts ?y1 ?y2 ?y3 ?y4 ?y5 ?y6 ?y7 ?_; (case y1 => k_asm); (case y2 => k_asm); (case y3 => k_upd); (case y4 => k_asm); (case y5 => omega); (case y6 => omega); (case y7 => omega)); intro h' F' N' kI; (try dsimp only at N'); (try k_sweep)))
local macro_rules | `(tactic| walk_at "call builtin:list.append") => `(tactic| (k_here; (with_reducible show wpAny _ _ (PySem.call (Value.builtin _) [Value.ref _, Value.int _ _]) _ _ _); k_dflt (refine' appInts ?y1 ?y2 ?y3 ?y4 ?y5 ?_; (case y1 => k_asm); (case y2 => k_asm); (case y3 => k_upd); (case y4 => k_asm); (case y5 => (try simp only [List.length_append, List.length_cons, List.length_nil]); omega)); intro h' F' N' kI; (try dsimp only at N'); (try k_sweep)))
local macro_rules | `(tactic| walk_at "call builtin:list.reverse") => `(tactic| (k_here; (with_reducible show wpAny _ _ (PySem.call (Value.builtin _) [Value.ref _]) _ _ _); k_dflt (refine' revInts ?y1 ?y2 ?y3 ?y4 ?y5 ?_; (case y1 => k_asm); (case y2 => k_asm); (case y3 => k_upd); (case y4 => k_asm); (case y5 => omega)); intro h' F' N' kI; (try dsimp only at N'); (try k_sweep)))
local macro_rules | `(tactic| walk_at "subscriptTail Name BinOp ref int") => `(tactic| (k_here; (with_reducible show wpAny _ _ (PySem.subscriptTail _ _ (Value.ref _) (Value.int _ _)) _ _ _); k_dflt (refine' subInts ?y1 ?y2 ?y3 ?y4 ?y5 ?_ (by with_unfolding_all rfl); (case y1 => is_list); (case y2 => k_asm); (case y3 => first | decide | omega); (case y4 => omega); (case y5 => omega)); intro t'))
local macro_rules | `(tactic| walk_at "subscriptTail Name Name ref int") => `(tactic| (k_here; (with_reducible show wpAny _ _ (PySem.subscriptTail _ _ (Value.ref _) (Value.int _ _)) _ _ _); k_dflt (refine' subInts ?y1 ?y2 ?y3 ?y4 ?y5 ?_ (by with_unfolding_all rfl); (case y1 => is_list); (case y2 => k_asm); (case y3 => first | decide | omega); (case y4 => omega); (case y5 => omega)); intro t'))
local macro_rules | `(tactic| walk_at "subscriptTail Name Constant ref int") => `(tactic| (k_here; (with_reducible show wpAny _ _ (PySem.subscriptTail _ _ (Value.ref _) (Value.int _ _)) _ _ _); k_dflt (refine' subInts ?y1 ?y2 ?y3 ?y4 ?y5 ?_ (by with_unfolding_all rfl); (case y1 => is_list); (case y2 => k_asm); (case y3 => first | decide | omega); (case y4 => omega); (case y5 => omega)); intro t'))
local macro_rules | `(tactic| walk_at "subscriptTail Call Constant ref int") => `(tactic| (k_here; (with_reducible show wpAny _ _ (PySem.subscriptTail _ _ (Value.ref _) (Value.int _ _)) _ _ _); k_dflt (refine' subInts ?y1 ?y2 ?y3 ?y4 ?y5 ?_ (by with_unfolding_all rfl); (case y1 => is_list); (case y2 => k_asm); (case y3 => first | decide | omega); (case y4 => omega); (case y5 => omega)); intro t'))
local macro_rules | `(tactic| walk_at "eval ListComp") => `(tactic| (k_here; k_dflt (refine' comp_start ?y1 ?y2 ?y3 ?_ (by intro _; rfl); (case y1 => exact rfl); (case y2 => exact rfl); (case y3 => decide))))
local macro_rules | `(tactic| walk_at "eval Name") => `(tactic| (k_here; (with_reducible show wpAny _ _ (PySem.eval (PySem.Expr.Name _ _) (PySem.compEnvC _ _ _ _)) _ _ _); k_dflt (first | (refine' nameL ?y1 ?y2 ?y3 ?y4 ?_; (case y3 => exact rfl); (case y4 => exact rfl); (case y1 => assumption); (case y2 => assumption)) | (refine' nameC ?y1 ?y2 ?y3 ?y4 ?y5 ?_; (case y3 => exact rfl); (case y4 => exact rfl); (case y5 => exact rfl); (case y1 => assumption); (case y2 => assumption)))))
local macro_rules | `(tactic| walk_at "call builtin:min") => `(tactic| (k_here; (with_reducible show wpAny _ _ (PySem.call (Value.builtin _) [Value.ref _]) _ _ _); k_dflt (refine' minInts ?y1 ?y2 ?y3 ?y4 ?y5 ?y6 ?_; (case y1 => exact rfl); (case y2 => k_asm); (case y3 => k_asm); (case y4 => is_list); (case y5 => k_asm); (case y6 => assumption)); intro h' t' tk' F' N'))
local macro_rules | `(tactic| walk_at "call ref") => `(tactic| (k_here; k_dflt (refine call_start ?_)))
theorem sys_snoc (ks : List Int) (k : Int) : sysOf (ks ++ [k]) = sysOf ks ++ [hereOf 1 ks * (2 + k % 3)] := by unfold sysOf; rw [rowOf_snoc]; rfl
theorem ins_drop {ns : List Int} (h : ns.Pairwise (· < ·)) {j : Nat} (hj : j < ns.length) : ins (ns.drop (j + 1)) ns[j] = ns.drop j := by
  have e := List.drop_eq_getElem_cons hj
  have hp : (ns.drop j).Pairwise (· < ·) := h.drop
  rw [e] at hp
  have h0 : bil (ns.drop (j + 1)) ns[j] = 0 := by
    unfold bil
    rw [List.countP_eq_zero]
    intro a ha
    have := (List.pairwise_cons.mp hp).1 a ha
    simp; omega
  unfold ins
  rw [h0, e]; rfl
set_option maxRecDepth 100000 in
set_option maxHeartbeats 8000000 in
theorem law_p1 (w : World) (mean mg mb) (h₀ : Heap) (L : Nat) (fa la : Addr) (cd : Value) (lv : List Value) (ns : List Int) (o1 o2 o3 o4 : Obj) (body : List Stmt) (scope : Scope) (eb : lawParts = some (body, scope)) (u : Str → Option Value) (s : Shared) (Q : Flow → Shared → Prop)
  (X : (hd.heap_39 w.params).In h₀) (T : Top topProg LO mean mg mb h₀) (B : Below callerA h₀ [] h₀) (hL : 64 < L) (hlist : h₀.IsList la lv.toArray) (hi : IntsAre lv ns) (hlen : ¬ ((63 : Int) < (ns.length : Int)))
  (F : Fr h₀ L s.heap (kstB u [(Str.ofString "script", .ref la)])) (d1 : o1.data = .cell none) (d2 : o2.data = .cell none) (d3 : o3.data = .cell none) (d4 : o4.data = .cell none)
  (N : News h₀ L s.heap [(L + 1 + 1 + 1 + 1, o4), (L + 1 + 1 + 1, o3), (L + 1 + 1, o2), (L + 1, o1), (57, tabObj #[]), (64, tabObj #[])])
  (ret : ∀ (ks : List Int) (lr lc : Nat) (rs cs : List Value) (k1 k2 : Nat) (oc : Obj) (v : Str → Option Value) (h : Heap) (tk : Nat), 1 ≤ ks.length → ks.length ≤ 3 → IntsAre rs (sysOf ks) → IntsAre cs (sysOf ks) → oc.data = .cell (some (.ref lc)) →
    Fr h₀ L h (kstB v [(Str.ofString "row", .ref lr)]) → lc ≠ lr → (∀ p ∈ [(L + 1 + 1 + 1 + 1, o4), (L + 1 + 1 + 1, o3), (L + 1 + 1, o2), (L + 1, oc), (57, tabObj #[]), (64, tabObj #[])], @Ne Nat p.1 lc ∧ @Ne Nat p.1 lr) →
    News h₀ L h [(lc, W.listOf cs.toArray k1), (lr, W.listOf rs.toArray k2), (L + 1 + 1 + 1 + 1, o4), (L + 1 + 1 + 1, o3), (L + 1 + 1, o2), (L + 1, oc), (57, tabObj #[]), (64, tabObj #[])] →
    wpAny (model PR w) (callerA.deeper (envOfC (Str.ofString "law") scope L fa cd)) (execs (body.drop 4) (envOfC (Str.ofString "law") scope L fa cd)) Q (fun _ _ => False) { s with heap := h, toks := tk }) :
  wpAny (model PR w) (callerA.deeper (envOfC (Str.ofString "law") scope L fa cd)) (execs body (envOfC (Str.ofString "law") scope L fa cd)) Q (fun _ _ => False) s := by
  unfold PR at *
  w_top off
  k_with_none
  revert X
  k_fill
  intro X
  refine lawcases (o := (_, _)) rfl eb ?_
  rintro rfl rfl
  dsimp only [kstB] at F
  dsimp only
  k_steps
  rename_i lc h1 m1 D2 h2 m2 h3 h4 oc dc h5 tk1 lr h6 m3 h7 l0 h8 m4 D1 ws1 h9 hI1 m5 h10 tka h11 tkb D0 ws0 h12 F9 N9 hI0 hC0 hL0 m6
  clear hC0 hL0
  generalize hks : List.take _ (ns ++ [0]) = ks at *
  have hk1 : 1 ≤ ks.length ∧ ks.length ≤ 3 := by
    rw [← hks, List.length_take, List.length_append, List.length_singleton]
    split <;> split <;> omega
  refine' forInts (vs := ws0) (l := D0) (σ := List Value × Nat × Int × Nat)
    (fun c => [(D0, W.listOf ws0.toArray 0), (lr, W.listOf c.1.toArray c.2.1), (lc, W.listOf #[] 0), (L + 1 + 1 + 1 + 1, o4), (L + 1 + 1 + 1, o3), (L + 1 + 1, o2), (L + 1, oc), (57, tabObj #[]), (64, tabObj #[])])
    (fun c => [(Str.ofString "here", .int c.2.2.1 c.2.2.2)])
    (fun i c => IntsAre c.1 (sysOf (ks.take i)) ∧ c.2.2.1 = hereOf 1 (ks.take i)) [Str.ofString "number"] ([.int 1 tk1], 0, 1, _) rfl ?a1 hI0 (.inr ⟨_, fun c => .head _⟩) F9 (news_sub N9 (by k_allIn)) ⟨?a3, ?a6⟩ ?a4 ?a5 ?a7
  case a1 => is_list
  case a3 => exact .cons _ _ .nil
  case a6 => rfl
  case a4 => exact List.forall_mem_cons.mpr ⟨by dsimp only; with_unfolding_all rfl, List.forall_mem_nil _⟩
  case a5 =>
    rintro i hi' t ⟨us, kk, hv, ht⟩ u h tk I oI ⟨hus, hhv⟩ hne F7 N7
    dsimp only [kstB] at hus hhv hne F7 N7
    have hbd := here_bd (ks := ks.take i) (by rw [List.length_take]; omega)
    rw [← hhv] at hbd
    have hn1 : @Ne Nat lr I := hne _ (.tail _ (.head _))
    have hsl : (sysOf (ks.take i)).length ≤ 4 := by
      show (rowOf 1 (ks.take i)).length + 1 ≤ 4
      rw [rowOf_length, List.length_take]; omega
    have hkt : ks.take (i + 1) = ks.take i ++ [ks[i]] := by rw [List.take_succ_eq_append_getElem hi']
    (try dsimp only); (try k_fold)
    k_steps
    rename_i h8 F6 N6 kI6
    rw [Int.fmod_eq_emod_of_nonneg _ (by decide), hhv, ← sys_snoc, ← hkt] at kI6
    refine' stepS_next ⟨_, _, _, _⟩ ?z1 ?z2 ?z3 ?z4 ?z5 ⟨?z6, ?z8⟩ ?z7
    case z2 => k_asm
    case z1 => kst_all
    case z3 => k_asm
    case z4 => k_allIn
    case z5 =>
      intro p hp
      rcases List.mem_cons.mp hp with rfl | hp
      · exact hne _ (.head _)
      · rcases List.mem_cons.mp hp with rfl | hp
        · exact hn1
        · exact hne p (.tail _ (.tail _ hp))
    case z6 => dsimp only; rw [Int.fmod_eq_emod_of_nonneg _ (by decide), hhv]; exact kI6
    case z8 => dsimp only; rw [Int.fmod_eq_emod_of_nonneg _ (by decide), hhv, hkt, hereOf_snoc]
    case z7 => ksw_same
  case a7 =>
    rintro ⟨us, kk, hv, ht⟩ u h tk ⟨hus, hhv⟩ F7 N7
    dsimp only [kstB] at hus hhv F7 N7
    rw [List.take_length] at hus hhv
    have hsl : (sysOf ks).length ≤ 4 := by
      show (rowOf 1 ks).length + 1 ≤ 4
      rw [rowOf_length]; omega
    have hul := hus.length
    (try dsimp only); (try k_fold)
    k_steps
    rename_i D3 ws3 h13 F8 N8 hI3 hC3 m7
    clear hC3
    have S := sysF (sys_mem hk1.1 hk1.2)
    refine' forInts (vs := ws3) (l := D3) (σ := List Value × Nat)
      (fun c => [(D3, W.listOf ws3.toArray 0), (lc, W.listOf c.1.toArray c.2), (lr, W.listOf us.toArray kk), (L + 1 + 1 + 1 + 1, o4), (L + 1 + 1 + 1, o3), (L + 1 + 1, o2), (L + 1, oc), (57, tabObj #[]), (64, tabObj #[])])
      (fun c => [])
      (fun i c => IntsAre c.1 ((sysOf ks).drop ((sysOf ks).length - i))) [Str.ofString "coin"] ([], 0) rfl ?b1 hI3 (.inr ⟨_, fun c => .head _⟩) F8 (news_sub N8 (by k_allIn)) ?b3 (List.forall_mem_nil _) ?b5 ?b7
    case b1 => is_list
    case b3 => rw [Nat.sub_zero, List.drop_length]; exact .nil
    case b5 =>
      rintro i hi' t ⟨cs, kc⟩ u h tk I oI hcs hne F7 N7
      dsimp only [kstB] at hcs hne F7 N7
      have hn1 := hne
      simp only [List.forall_mem_cons, List.forall_mem_nil, and_true] at hn1
      rw [List.length_reverse] at hi'
      have hrv : (sysOf ks).reverse[i]'(by rw [List.length_reverse]; exact hi') = (sysOf ks)[(sysOf ks).length - 1 - i]'(by omega) := List.getElem_reverse _
      have hdl : ((sysOf ks).drop ((sysOf ks).length - i)).length ≤ 4 := by rw [List.length_drop]; omega
      (try dsimp only); (try k_fold)
      k_steps
      rename_i h14 F6 N6
      refine' (insort w mean mg mb lc cs ((sysOf ks).drop ((sysOf ks).length - i)) kc _ _ hcs (by omega) (S.coins.sorted.drop)).use ?kB ?kF ?kX ?kN ?kT ?kk ?ksm ?kp ?kd ?ku [(I, oI), (D3, W.listOf ws3.toArray 0), (lr, W.listOf us.toArray kk), (L + 1 + 1 + 1 + 1, o4), (L + 1 + 1 + 1, o3), (L + 1 + 1, o2), (L + 1, oc), (57, tabObj #[]), (64, tabObj #[])] ?kr ?_
      case kB => k_asm
      case kF => k_asm
      case kX => k_asm
      case kN => k_asm
      case kT => k_asm
      case kk => exact rfl
      case ksm => k_allIn
      case kp => exact fun g hg => trivial
      case kd => ktr_room
      case ku => ktr_units
      case kr => repeat' (first | exact List.forall_mem_nil _ | refine List.forall_mem_cons.mpr ⟨⟨by k_memK, ?_⟩, ?_⟩ | exact List.not_mem_nil | refine notIn_cons (by (try dsimp only); omega) ?_)
      rintro v5 new5 h5 tk5 ⟨rfl, cs5, hI5, rfl⟩ F5 N5 ap5
      rw [hrv, show (sysOf ks).length - i = (sysOf ks).length - 1 - i + 1 by omega, ins_drop S.nodup, show (sysOf ks).length - 1 - i = (sysOf ks).length - (i + 1) by omega] at hI5
      simp only [List.cons_append, List.nil_append] at N5
      (try dsimp only); (try k_fold)
      k_steps
      refine' stepS_next ⟨_, _⟩ ?z1 ?z2 ?z3 ?z4 ?z5 ?z6 ?z7
      case z2 => k_asm
      case z1 => exact List.forall_mem_nil _
      case z3 => k_asm
      case z4 => k_allIn
      case z5 => repeat' (first | exact List.forall_mem_nil _ | refine List.forall_mem_cons.mpr ⟨(by (try dsimp only); omega), ?_⟩)
      case z6 => exact hI5
      case z7 => ksw_same
    case b7 =>
      rintro ⟨cs, kc⟩ u h tk hcs F7 N7
      dsimp only [kstB] at hcs F7 N7
      rw [List.length_reverse, Nat.sub_self, List.drop_zero] at hcs
      exact ret ks lr lc us cs kc kk oc _ h tk hk1.1 hk1.2 hus hcs dc (fr_kst _ (List.forall_mem_cons.mpr ⟨by dsimp only; with_unfolding_all rfl, List.forall_mem_nil _⟩) F7) (by omega) (by repeat' (first | exact List.forall_mem_nil _ | refine List.forall_mem_cons.mpr ⟨(by (try dsimp only); omega), ?_⟩)) (news_sub N7 (by k_allIn))
end
end Mine
namespace Mine
section
open PySem PySem.W PySem.Calls PyProof.Rows
local macro_rules | `(tactic| walk_at "exec For Name Call cons nil") => `(tactic| (k_here; k_dflt (refine for_start ?_)))
local macro_rules | `(tactic| walk_at "exec For Name Name cons nil") => `(tactic| (k_here; k_dflt (refine for_start ?_)))
local macro_rules | `(tactic| walk_at "exec For Name Subscript cons nil") => `(tactic| (k_here; k_dflt (refine for_start ?_)))
local macro_rules | `(tactic| walk_at "exec For Tuple Name cons nil") => `(tactic| (k_here; k_dflt (refine for_start ?_)))
local macro_rules | `(tactic| walk_at "setItem ref int") => `(tactic| (k_here; (with_reducible show wpAny _ _ (PySem.setItem (Value.ref _) (Value.int _ _) (Value.int _ _)) _ _ _); k_dflt (refine' setInts ?y1 ?y2 ?y3 ?y4 ?y5 ?y6 ?y7 ?_; (case y1 => k_asm); (case y2 => k_asm); (case y3 => k_upd); (case y4 => k_asm); (case y5 => omega); (case y6 => omega); (case y7 => omega)); intro h' F' N' kI; (try dsimp only at N'); (try k_sweep)))
local macro_rules | `(tactic| walk_at "call builtin:list.append") => `(tactic| (k_here; (with_reducible show wpAny _ _ (PySem.call (Value.builtin _) [Value.ref _, Value.int _ _]) _ _ _); k_dflt (refine' appInts ?y1 ?y2 ?y3 ?y4 ?y5 ?_; (case y1 => k_asm); (case y2 => k_asm); (case y3 => k_upd); (case y4 => k_asm); (case y5 => (try simp only [List.length_append, List.length_cons, List.length_nil]); omega)); intro h' F' N' kI; (try dsimp only at N'); (try k_sweep)))
local macro_rules | `(tactic| walk_at "call builtin:list.reverse") => `(tactic| (k_here; (with_reducible show wpAny _ _ (PySem.call (Value.builtin _) [Value.ref _]) _ _ _); k_dflt (refine' revInts ?y1 ?y2 ?y3 ?y4 ?y5 ?_; (case y1 => k_asm); (case y2 => k_asm); (case y3 => k_upd); (case y4 => k_asm); (case y5 => omega)); intro h' F' N' kI; (try dsimp only at N'); (try k_sweep)))
local macro_rules | `(tactic| walk_at "subscriptTail Name BinOp ref int") => `(tactic| (k_here; (with_reducible show wpAny _ _ (PySem.subscriptTail _ _ (Value.ref _) (Value.int _ _)) _ _ _); k_dflt (refine' subInts ?y1 ?y2 ?y3 ?y4 ?y5 ?_ (by with_unfolding_all rfl); (case y1 => is_list); (case y2 => k_asm); (case y3 => first | decide | omega); (case y4 => omega); (case y5 => omega)); intro t'))
local macro_rules | `(tactic| walk_at "subscriptTail Name Name ref int") => `(tactic| (k_here; (with_reducible show wpAny _ _ (PySem.subscriptTail _ _ (Value.ref _) (Value.int _ _)) _ _ _); k_dflt (refine' subInts ?y1 ?y2 ?y3 ?y4 ?y5 ?_ (by with_unfolding_all rfl); (case y1 => is_list); (case y2 => k_asm); (case y3 => first | decide | omega); (case y4 => omega); (case y5 => omega)); intro t'))
local macro_rules | `(tactic| walk_at "subscriptTail Name Constant ref int") => `(tactic| (k_here; (with_reducible show wpAny _ _ (PySem.subscriptTail _ _ (Value.ref _) (Value.int _ _)) _ _ _); k_dflt (refine' subInts ?y1 ?y2 ?y3 ?y4 ?y5 ?_ (by with_unfolding_all rfl); (case y1 => is_list); (case y2 => k_asm); (case y3 => first | decide | omega); (case y4 => omega); (case y5 => omega)); intro t'))
local macro_rules | `(tactic| walk_at "subscriptTail Call Constant ref int") => `(tactic| (k_here; (with_reducible show wpAny _ _ (PySem.subscriptTail _ _ (Value.ref _) (Value.int _ _)) _ _ _); k_dflt (refine' subInts ?y1 ?y2 ?y3 ?y4 ?y5 ?_ (by with_unfolding_all rfl); (case y1 => is_list); (case y2 => k_asm); (case y3 => first | decide | omega); (case y4 => omega); (case y5 => omega)); intro t'))
local macro_rules | `(tactic| walk_at "eval ListComp") => `(tactic| (k_here; k_dflt (refine' comp_start ?y1 ?y2 ?y3 ?_ (by intro _; rfl); (case y1 => exact rfl); (case y2 => exact rfl); (case y3 => decide))))
local macro_rules | `(tactic| walk_at "eval Name") => `(tactic| (k_here; (with_reducible show wpAny _ _ (PySem.eval (PySem.Expr.Name _ _) (PySem.compEnvC _ _ _ _)) _ _ _); k_dflt (first | (refine' nameL ?y1 ?y2 ?y3 ?y4 ?_; (case y3 => exact rfl); (case y4 => exact rfl); (case y1 => assumption); (case y2 => assumption)) | (refine' nameC ?y1 ?y2 ?y3 ?y4 ?y5 ?_; (case y3 => exact rfl); (case y4 => exact rfl); (case y5 => exact rfl); (case y1 => assumption); (case y2 => assumption)))))
local macro_rules | `(tactic| walk_at "call builtin:min") => `(tactic| (k_here; (with_reducible show wpAny _ _ (PySem.call (Value.builtin _) [Value.ref _]) _ _ _); k_dflt (refine' minInts ?y1 ?y2 ?y3 ?y4 ?y5 ?y6 ?_; (case y1 => exact rfl); (case y2 => k_asm); (case y3 => k_asm); (case y4 => is_list); (case y5 => k_asm); (case y6 => assumption)); intro h' t' tk' F' N'))
local macro_rules | `(tactic| walk_at "call ref") => `(tactic| (k_here; k_dflt (refine call_start ?_)))
local macro_rules | `(tactic| walk_at "call builtin:list.index") => `(tactic| (k_here; (with_reducible show wpAny _ _ (PySem.call (Value.builtin _) [Value.ref _, Value.int _ _]) _ _ _); k_dflt (refine' index_list_ints ?y1 ?y2 ?y3 ?y4 ?_; (case y1 => is_list); (case y2 => k_asm); (case y3 => assumption); (case y4 => assumption))))
theorem notin_fst {l : List (Addr × Obj)} {a : Nat} (h : ∀ p ∈ l, @Ne Nat p.1 a) : a ∉ l.map (·.1) := fun q => let ⟨p, hp, e⟩ := List.mem_map.mp q; h p hp e
theorem mem_rangeKs0 {k : Int} {n : Nat} (h : k ∈ rangeKs 0 n) : 0 ≤ k ∧ k < (n : Int) := by
  obtain ⟨j, hj, rfl⟩ := List.mem_map.mp h
  have := List.mem_range.mp hj
  omega
theorem filter_none {ns fl : List Int} (S : SysF ns) (hg : ∀ n, n ≤ 40 → fl.getD n 0 = cntP ns n) {i : Nat} (hi : i + 1 ≤ 40) : (((rangeKs 0 (i + 1)).filter (fun k => decide (fl.getD k.toNat 0 + fl.getD (((i + 1 : Nat) : Int) - k).toNat 0 < fl.getD ((i + 1 : Nat) : Int).toNat 0))).map (fun k => k)) = [] := by
  rw [List.map_eq_nil_iff, List.filter_eq_nil_iff]
  intro k hk
  obtain ⟨h0, h1⟩ := mem_rangeKs0 hk
  have a1 := hg k.toNat (by omega)
  have a2 := hg (((i + 1 : Nat) : Int) - k).toNat (by omega)
  have a3 := hg ((i + 1 : Nat) : Int).toNat (by omega)
  have a4 := sub_add S (((i + 1 : Nat) : Int) - k).toNat k.toNat (by omega)
  rw [show k.toNat + (((i + 1 : Nat) : Int) - k).toNat = ((i + 1 : Nat) : Int).toNat by omega] at a4
  rw [decide_eq_true_eq, a1, a2, a3]
  omega
set_option maxRecDepth 100000 in
set_option maxHeartbeats 8000000 in
theorem law_p2 (w : World) (mean mg mb) (h₀ : Heap) (L lc lr : Nat) (fa : Addr) (cd : Value) (ns : List Int) (rs cs : List Value) (k1 k2 : Nat) (oc o2 o3 o4 : Obj) (body : List Stmt) (scope : Scope) (eb : lawParts = some (body, scope)) (u : Str → Option Value) (s : Shared) (Q : Flow → Shared → Prop)
  (X : (hd.heap_39 w.params).In h₀) (T : Top topProg LO mean mg mb h₀) (B : Below callerA h₀ [] h₀) (hcd1 : CodeHd h₀ 61 57) (hcd2 : CodeHd h₀ 68 64) (hL : 64 < L) (S : SysF ns) (hrs : IntsAre rs ns) (hcs : IntsAre cs ns)
  (F : Fr h₀ L s.heap (kstB u [(Str.ofString "row", .ref lr)])) (dc : oc.data = .cell (some (.ref lc))) (d2 : o2.data = .cell none) (d3 : o3.data = .cell none)
  (hne : lc ≠ lr) (hap : ∀ p ∈ [(L + 1 + 1 + 1 + 1, o4), (L + 1 + 1 + 1, o3), (L + 1 + 1, o2), (L + 1, oc), (57, tabObj #[]), (64, tabObj #[])], @Ne Nat p.1 lc ∧ @Ne Nat p.1 lr)
  (N : News h₀ L s.heap [(lc, W.listOf cs.toArray k1), (lr, W.listOf rs.toArray k2), (L + 1 + 1 + 1 + 1, o4), (L + 1 + 1 + 1, o3), (L + 1 + 1, o2), (L + 1, oc), (57, tabObj #[]), (64, tabObj #[])])
  (ret : ∀ (lf : Nat) (fs : List Value) (k3 : Nat) (of ow : Obj) (st : StTab) (v : Str → Option Value) (h : Heap) (tk : Nat), TabsOk st → of.data = .cell (some (.ref lf)) → (∃ v, ow.data = .cell v) → Fr h₀ L h v →
    (∀ p ∈ tabs st, @Ne Nat p.1 lc ∧ @Ne Nat p.1 (L + 1 + 1 + 1 + 1) ∧ @Ne Nat p.1 (L + 1 + 1 + 1) ∧ @Ne Nat p.1 (L + 1 + 1) ∧ @Ne Nat p.1 (L + 1)) →
    News h₀ L h ((lc, W.listOf cs.toArray k1) :: (L + 1 + 1 + 1 + 1, o4) :: (L + 1 + 1 + 1, ow) :: (L + 1 + 1, of) :: (L + 1, oc) :: tabs st) →
    wpAny (model PR w) (callerA.deeper (envOfC (Str.ofString "law") scope L fa cd)) (execs (body.drop 7) (envOfC (Str.ofString "law") scope L fa cd)) Q (fun _ _ => False) { s with heap := h, toks := tk }) :
  wpAny (model PR w) (callerA.deeper (envOfC (Str.ofString "law") scope L fa cd)) (execs (body.drop 4) (envOfC (Str.ofString "law") scope L fa cd)) Q (fun _ _ => False) s := by
  unfold PR at *
  w_top off
  k_with_none
  revert X
  k_fill
  intro X
  refine lawcases (o := (_, _)) rfl eb ?_
  rintro rfl rfl
  dsimp only [kstB] at F
  dsimp only [List.drop]
  simp only [List.forall_mem_cons, List.forall_mem_nil, and_true] at hap
  have hlen := S.len
  have hcl := hcs.length
  have hrl := hrs.length
  k_steps
  refine' (few_ctr w mean mg mb lc cs ns 40 _ hcs S.coins (by decide)).use ?kB ?kF ?kX ?kN ?kT ?kk ?ksm ?kp ?kd ?ku [(lc, W.listOf cs.toArray k1), (L + 1 + 1 + 1 + 1, o4), (L + 1 + 1 + 1, o3), (L + 1 + 1, o2), (L + 1, oc), (57, tabObj #[]), (64, tabObj #[])] ?kr ?_
  case kB => k_asm
  case kF => k_asm
  case kX => k_asm
  case kN => k_asm
  case kT => k_asm
  case kk => exact rfl
  case ksm => exact List.forall_mem_nil _
  case kp => exact fun g hg => ⟨_, hg _ _ (N _ (.head _)).1 List.not_mem_nil, rfl, _, rfl⟩
  case kd => ktr_room
  case ku => ktr_units
  case kr => exact fun p hp => ⟨(by k_allIn : ∀ p ∈ _, _) p hp, List.not_mem_nil⟩
  rintro v5 new5 h5 tk5 ⟨lf, fs, k3, rfl, hI5, rfl⟩ F5 N5 ap5
  have hget := few_get S 40 (Nat.le_refl _)
  have hfl := fewL_length ns 40
  generalize fewL ns 40 = fl at hI5 hget hfl
  have ap6 := ap5 _ (.head _)
  have ap7 := ap6
  simp only [List.forall_mem_cons, List.forall_mem_nil, and_true] at ap6
  simp only [List.cons_append, List.nil_append] at N5
  (try dsimp only); (try k_fold)
  k_steps
  rename_i h9 of F10 N10 df h10 tk9 t1 u1 v1 hR F8 N8 hk8
  have hsm : Builtin.Range.small 1 41 1 = true := small_one (by omega) (by omega) (by omega) (by omega)
  refine' forRange (σ := StTab × Obj) (n := 40) (fun c => (lf, W.listOf fs.toArray k3) :: (lc, W.listOf cs.toArray k1) :: (L + 1 + 1 + 1 + 1, o4) :: (L + 1 + 1 + 1, c.2) :: (L + 1 + 1, of) :: (L + 1, oc) :: tabs c.1) (fun _ => [])
    (fun i c => TabsOk c.1 ∧ (∃ v, c.2.data = .cell v) ∧ (∀ p ∈ tabs c.1, @Ne Nat p.1 lf ∧ @Ne Nat p.1 lc ∧ @Ne Nat p.1 (L + 1 + 1 + 1 + 1) ∧ @Ne Nat p.1 (L + 1 + 1 + 1) ∧ @Ne Nat p.1 (L + 1 + 1) ∧ @Ne Nat p.1 (L + 1))) [Str.ofString "paid", Str.ofString "coin", Str.ofString "often", Str.ofString "place"] ⟨none, o3⟩ rfl hR hsm ?zn F8 (news_sub N8 (by simp only [tabs]; k_allIn)) ⟨trivial, ⟨_, d3⟩, ?z1⟩ (List.forall_mem_nil _) ?zt ?zd
  case zn => rw [rangeSize_nat]; omega
  case z1 =>
    simp only [tabs]
    repeat' (first | exact List.forall_mem_nil _ | refine List.forall_mem_cons.mpr ⟨(by (try dsimp only); omega), ?_⟩)
  case zd =>
    rintro ⟨st, ow⟩ u h tk ⟨hok, how, hapt⟩ F7 N7
    dsimp only [kstB] at hok how hapt F7 N7
    exact ret lf fs k3 of ow st _ h tk hok df how F7 (fun p hp => (hapt p hp).2) (fun p hp => N7 p (.tail _ hp))
  case zt =>
    rintro i t ⟨st, ow⟩ u h tk I oI hi' ⟨hok, ⟨vo, how⟩, hapt⟩ hne2 F7 N7
    dsimp only [kstB] at hok how hapt hne2 F7 N7
    rw [show (1 : Int) + (i : Int) = ((i + 1 : Nat) : Int) by omega]
    have hn1 := hne2
    simp only [List.forall_mem_cons] at hn1
    refine wpAny_assign_Name (storeX_C F7 N7 rfl (UpdF.tail ?u1 (UpdF.tail ?u2 (UpdF.tail ?u3 (UpdF.tail ?u4 (UpdF.head ?u5))))) how ?_ rfl rfl)
    case u1 => k_ne
    case u2 => k_ne
    case u3 => k_ne
    case u4 => k_ne
    case u5 =>
      refine List.forall_mem_cons.mpr ⟨(by k_ne), List.forall_mem_cons.mpr ⟨(by k_ne), fun p hp => (hapt p hp).2.2.2.1⟩⟩
    intro h11 ow2 F6 N6 dow2
    (try dsimp only at N6)
    (try dsimp only); (try k_fold)
    k_steps
    obtain ⟨hz, hval, hnx⟩ := pay_facts S (W := i + 1) (by omega)
    have hs3 : ∀ p ∈ tabs st, p ∈ (I, oI) :: (lf, W.listOf fs.toArray k3) :: (lc, W.listOf cs.toArray k1) :: (L + 1 + 1 + 1 + 1, o4) :: (L + 1 + 1 + 1, ow2) :: (L + 1 + 1, of) :: (L + 1, oc) :: tabs st :=
      fun p hp => .tail _ (.tail _ (.tail _ (.tail _ (.tail _ (.tail _ (.tail _ hp))))))
    have hIt : ∀ p ∈ tabs st, @Ne Nat p.1 I := fun p hp => hne2 p (.tail _ (.tail _ (.tail _ (.tail _ (.tail _ (.tail _ hp))))))
    refine' (paid_ctr w mean mg mb lc cs ns (i + 1) _ hcs S.coins (by omega) hz st hok).use ?kB ?kF ?kX ?kN ?kT ?kk ?ksm ?kp ?kd ?ku [(I, oI), (lf, W.listOf fs.toArray k3), (lc, W.listOf cs.toArray k1), (L + 1 + 1 + 1 + 1, o4), (L + 1 + 1 + 1, ow2), (L + 1 + 1, of), (L + 1, oc)] ?kr ?_
    case kB => k_asm
    case kF => k_asm
    case kX => k_asm
    case kN => k_asm
    case kT => k_asm
    case kk => exact rfl
    case ksm => exact hs3
    case kp => exact fun g hg => ⟨CodeHd.keeps hcd1 (kept_get F6 (news_sub N6 hs3) hg), CodeHd.keeps hcd2 (kept_get F6 (news_sub N6 hs3) hg), ⟨_, hg _ _ (N6 _ (.tail _ (.tail _ (.head _)))).1 (notin_fst fun p hp => (hapt p hp).2.1), rfl, _, rfl⟩⟩
    case kd => ktr_room
    case ku => ktr_units
    case kr =>
      refine List.forall_mem_cons.mpr ⟨⟨.head _, notin_fst hIt⟩, List.forall_mem_cons.mpr ⟨⟨.tail _ (.head _), notin_fst fun p hp => (hapt p hp).1⟩, List.forall_mem_cons.mpr ⟨⟨.tail _ (.tail _ (.head _)), notin_fst fun p hp => (hapt p hp).2.1⟩,
        List.forall_mem_cons.mpr ⟨⟨.tail _ (.tail _ (.tail _ (.head _))), notin_fst fun p hp => (hapt p hp).2.2.1⟩, List.forall_mem_cons.mpr ⟨⟨.tail _ (.tail _ (.tail _ (.tail _ (.head _)))), notin_fst fun p hp => (hapt p hp).2.2.2.1⟩,
        List.forall_mem_cons.mpr ⟨⟨.tail _ (.tail _ (.tail _ (.tail _ (.tail _ (.head _))))), notin_fst fun p hp => (hapt p hp).2.2.2.2.1⟩, List.forall_mem_cons.mpr ⟨⟨.tail _ (.tail _ (.tail _ (.tail _ (.tail _ (.tail _ (.head _)))))), notin_fst fun p hp => (hapt p hp).2.2.2.2.2⟩, List.forall_mem_nil _⟩⟩⟩⟩⟩⟩⟩
    rintro v4 new4 h4 tk4 ⟨D, us, kk, tps, st2, rfl, hP, hok2, rfl⟩ F4 N4 ap4
    have N3 := news_sub (l := (D, W.listOf us.toArray kk) :: (I, oI) :: (lf, W.listOf fs.toArray k3) :: (lc, W.listOf cs.toArray k1) :: (L + 1 + 1 + 1 + 1, o4) :: (L + 1 + 1 + 1, ow2) :: (L + 1 + 1, of) :: (L + 1, oc) :: (tps ++ tabs st2)) N4 (by
      intro p hp
      rcases List.mem_cons.mp hp with rfl | hp
      · exact .head _
      · rcases List.mem_append.mp (show p ∈ [(I, oI), (lf, W.listOf fs.toArray k3), (lc, W.listOf cs.toArray k1), (L + 1 + 1 + 1 + 1, o4), (L + 1 + 1 + 1, ow2), (L + 1 + 1, of), (L + 1, oc)] ++ (tps ++ tabs st2) from hp) with h | h
        · exact .tail _ (List.mem_append_right _ h)
        · exact .tail _ (List.mem_append_left _ h))
    have apD := ap4 _ (.head _)
    have apt : ∀ p ∈ tabs st2, ∀ q ∈ [(I, oI), (lf, W.listOf fs.toArray k3), (lc, W.listOf cs.toArray k1), (L + 1 + 1 + 1 + 1, o4), (L + 1 + 1 + 1, ow2), (L + 1 + 1, of), (L + 1, oc)], @Ne Nat p.1 q.1 := fun p hp => ap4 p (.tail _ (List.mem_append_right _ hp))
    simp only [List.forall_mem_cons] at apD
    clear N4 ap4 N6 F6
    have hpl := pays_len ns 9 (i + 1)
    have hbd := pays_bd S.coins 9 (i + 1)
    have hcnt := hget (i + 1) (by omega)
    have hnf : ∀ p ∈ (pays ns 9 (i + 1)).1, _ := fun p hp => next_fact (hnx p hp)
    unfold cntP at hcnt
    unfold valP at hval
    generalize hps : (pays ns 9 (i + 1)).1 = ps at hP hpl hbd hval hcnt hnf
    clear hnx
    have hsubT : ∀ p ∈ tps, p ∈ (D, W.listOf us.toArray kk) :: (I, oI) :: (lf, W.listOf fs.toArray k3) :: (lc, W.listOf cs.toArray k1) :: (L + 1 + 1 + 1 + 1, o4) :: (L + 1 + 1 + 1, ow2) :: (L + 1 + 1, of) :: (L + 1, oc) :: (tps ++ tabs st2) :=
      fun p hp => .tail _ (.tail _ (.tail _ (.tail _ (.tail _ (.tail _ (.tail _ (.tail _ (List.mem_append_left _ hp))))))))
    (try dsimp only); (try k_fold)
    k_steps
    rename_i h12 F5 N5
    refine' compPairs (fun p => ((p.1 : Nat) : Int) * ((p.2 : Nat) : Int)) rfl (.head _) hP hsubT (by omega) (by decide) rfl rfl rfl (by decide) F5 N5 ?ce ?cf
    case ce =>
      intro C c o t1 t2 s₃ m₃ hcm hNs hm1 hm2
      have hb := hbd _ hcm
      dsimp only at hb
      k_steps
      exact EEnd.here rfl
    case cf =>
      intro D5 h5 tk5 us5 kk5 F5 N5 hne5 hI5
      (try dsimp only); (try k_fold)
      k_steps
      · rename_i hx
        exact absurd hval hx
      rename_i hv1
      rename_i h13 tk13 t13 F6 N6
      refine' compPairs (fun p => ((p.2 : Nat) : Int)) rfl (.tail _ (.head _)) hP (fun p hp => .tail _ (hsubT p hp)) (by omega) (by decide) rfl rfl rfl (by decide) F6 N6 ?cg ?ch
      case cg =>
        intro C c o t1 t2 s₃ m₃ hcm hNs hm1 hm2
        k_steps
        exact EEnd.here rfl
      case ch =>
        intro D6 h6 tk6 us6 kk6 F7 N7 hne6 hI6
        (try dsimp only); (try k_fold)
        k_steps
        · rename_i hx
          rw [show ((i + 1 : Nat) : Int).toNat = i + 1 from Int.toNat_natCast _, hcnt] at hx
          exact absurd rfl hx
        rename_i h14 tk14 t14 F8 N8 t15 hv2
        refine' forPairs (L := L) (σ := Unit) (ps := ps) (tps := tps) (fun _ => (D, W.listOf us.toArray kk) :: (I, oI) :: (lf, W.listOf fs.toArray k3) :: (lc, W.listOf cs.toArray k1) :: (L + 1 + 1 + 1 + 1, o4) :: (L + 1 + 1 + 1, ow2) :: (L + 1 + 1, of) :: (L + 1, oc) :: (tps ++ tabs st2)) (fun _ => []) (fun _ _ => True) [Str.ofString "coin", Str.ofString "often", Str.ofString "place"] () rfl rfl (fun _ => .head _) hP (fun _ => hsubT) rfl rfl rfl F8 (fun p hp => N8 p (.tail _ (.tail _ hp))) trivial (List.forall_mem_nil _) ?ct ?cu
        case ct =>
          rintro j hj t1 t2 ⟨⟩ u h tk I2 oI2 _ hne3 F9 N9
          dsimp only [kstB] at F9
          obtain ⟨hc1, hc2⟩ := hnf _ (List.getElem_mem hj)
          have hb := hbd _ (List.getElem_mem hj)
          have hly := S.lay
          have hix : ns.idxOf ((ps[j].1 : Nat) : Int) < ns.length := List.idxOf_lt_length_iff.mpr hc1
          generalize ps[j].1 = pc at *
          generalize ps[j].2 = po at *
          have hn4 := hne3
          simp only [List.forall_mem_cons] at hn4
          (try dsimp only); (try k_fold)
          k_steps
          · rename_i hA tB hC
            exact absurd (hc2 hA) (Int.not_lt.mpr hC)
          · refine' stepS_next () ?e1 ?e2 ?e3 ?e4 ?e5 trivial ?e7
            case e2 => k_asm
            case e1 => exact List.forall_mem_nil _
            case e3 => k_asm
            case e4 => exact fun p hp => hp
            case e5 => exact hne3
            case e7 => ksw_same
          · refine' stepS_next () ?f1 ?f2 ?f3 ?f4 ?f5 trivial ?f7
            case f2 => k_asm
            case f1 => exact List.forall_mem_nil _
            case f3 => k_asm
            case f4 => exact fun p hp => hp
            case f5 => exact hne3
            case f7 => ksw_same
        case cu =>
          rintro ⟨⟩ u h tk _ F9 N9
          dsimp only [kstB] at F9
          (try dsimp only); (try k_fold)
          k_steps
          rename_i F10x N10x h15 tk15 t16 u16 v16 hR16 F16 N16 hk16
          refine' compRange (n := i + 1) (fun k => decide (fl.getD k.toNat 0 + fl.getD (((i + 1 : Nat) : Int) - k).toNat 0 < fl.getD ((i + 1 : Nat) : Int).toNat 0)) (fun k => k) rfl hR16 (small_one (by omega) (by omega) (by omega) (by omega)) (by rw [rangeSize_nat]; omega) (by omega) (by decide) rfl rfl F16 N16 ?g2 ?g3 ?g4
          case g2 =>
            intro C k t3 s₃ m₃ hk hNs hm hk3
            obtain ⟨hk0, hk1⟩ := mem_rangeKs0 hk
            have hcw : s₃.heap.get? (L + 1 + 1 + 1) = some ow2 := hk3 _ _ (N16 _ (.tail _ (.tail _ (.tail _ (.tail _ (.tail _ (.head _))))))).1
            have hcf : s₃.heap.get? (L + 1 + 1) = some of := hk3 _ _ (N16 _ (.tail _ (.tail _ (.tail _ (.tail _ (.tail _ (.tail _ (.head _)))))))).1
            have hlf : s₃.heap.IsList lf fs.toArray := ⟨_, hk3 _ _ (N16 _ (.tail _ (.tail _ (.head _)))).1, rfl, _, rfl⟩
            refine wpAny_tests_one ?_
            k_steps
            exact TEnd.here rfl
          case g3 =>
            intro C k t3 s₃ m₃ hk hp hNs hm hk3
            exact nameL hNs hm rfl rfl ⟨⟨_, rfl⟩, s₃.heap, s₃.toks, rfl, fun _ _ e => e⟩
          case g4 =>
            intro D7 h7 tk7 us7 kk7 F17 N17 hne7 hI7
            rw [filter_none S hget (by omega)] at hI7
            cases hI7
            (try dsimp only); (try k_fold)
            k_steps
            refine' stepS_next (st2, ow2) ?gz1 ?gz2 ?gz3 ?gz4 ?gz5 ⟨hok2, ⟨_, dow2⟩, ?gz6⟩ ?gz7
            case gz2 => k_asm
            case gz1 => exact List.forall_mem_nil _
            case gz3 => k_asm
            case gz4 =>
              intro p hp
              have h8 : p ∈ (I, oI) :: (lf, W.listOf fs.toArray k3) :: (lc, W.listOf cs.toArray k1) :: (L + 1 + 1 + 1 + 1, o4) :: (L + 1 + 1 + 1, ow2) :: (L + 1 + 1, of) :: (L + 1, oc) :: (tps ++ tabs st2) := by
                rcases List.mem_append.mp (show p ∈ [(I, oI), (lf, W.listOf fs.toArray k3), (lc, W.listOf cs.toArray k1), (L + 1 + 1 + 1 + 1, o4), (L + 1 + 1 + 1, ow2), (L + 1 + 1, of), (L + 1, oc)] ++ tabs st2 from hp) with h | h
                · exact (show p ∈ [(I, oI), (lf, W.listOf fs.toArray k3), (lc, W.listOf cs.toArray k1), (L + 1 + 1 + 1 + 1, o4), (L + 1 + 1 + 1, ow2), (L + 1 + 1, of), (L + 1, oc)] ++ (tps ++ tabs st2) from List.mem_append_left _ h)
                · exact (show p ∈ [(I, oI), (lf, W.listOf fs.toArray k3), (lc, W.listOf cs.toArray k1), (L + 1 + 1 + 1 + 1, o4), (L + 1 + 1 + 1, ow2), (L + 1 + 1, of), (L + 1, oc)] ++ (tps ++ tabs st2) from List.mem_append_right _ (List.mem_append_right _ h))
              repeat (first | exact h8 | apply List.Mem.tail)
            case gz5 =>
              refine List.forall_mem_cons.mpr ⟨hne2 _ (.head _), List.forall_mem_cons.mpr ⟨hne2 _ (.tail _ (.head _)), List.forall_mem_cons.mpr ⟨hne2 _ (.tail _ (.tail _ (.head _))), List.forall_mem_cons.mpr ⟨(by dsimp only; omega), List.forall_mem_cons.mpr ⟨(by dsimp only; omega), List.forall_mem_cons.mpr ⟨(by dsimp only; omega), fun p hp => apt p hp _ (.head _)⟩⟩⟩⟩⟩⟩
            case gz6 =>
              exact fun p hp => ⟨apt p hp _ (.tail _ (.head _)), apt p hp _ (.tail _ (.tail _ (.head _))), apt p hp _ (.tail _ (.tail _ (.tail _ (.head _)))), apt p hp _ (.tail _ (.tail _ (.tail _ (.tail _ (.head _))))), apt p hp _ (.tail _ (.tail _ (.tail _ (.tail _ (.tail _ (.head _)))))), apt p hp _ (.tail _ (.tail _ (.tail _ (.tail _ (.tail _ (.tail _ (.head _))))))) ⟩
            case gz7 => ksw_same
end
end Mine
namespace Mine
section
open PySem PySem.W PySem.Calls PyProof.Rows
local macro_rules | `(tactic| walk_at "exec For Name Call cons nil") => `(tactic| (k_here; k_dflt (refine for_start ?_)))
local macro_rules | `(tactic| walk_at "exec For Name Name cons nil") => `(tactic| (k_here; k_dflt (refine for_start ?_)))
local macro_rules | `(tactic| walk_at "exec For Name Subscript cons nil") => `(tactic| (k_here; k_dflt (refine for_start ?_)))
local macro_rules | `(tactic| walk_at "exec For Tuple Name cons nil") => `(tactic| (k_here; k_dflt (refine for_start ?_)))
local macro_rules | `(tactic| walk_at "setItem ref int") => `(tactic| (k_here; (with_reducible show wpAny _ _ (PySem.setItem (Value.ref _) (Value.int _ _) (Value.int _ _)) _ _ _); k_dflt (refine' setInts ?y1 ?y2 ?y3 ?y4 ?y5 ?y6 ?y7 ?_; (case y1 => k_asm); (case y2 => k_asm); (case y3 => k_upd); (case y4 => k_asm); (case y5 => omega); (case y6 => omega); (case y7 => omega)); intro h' F' N' kI; (try dsimp only at N'); (try k_sweep)))
local macro_rules | `(tactic| walk_at "call builtin:list.append") => `(tactic| (k_here; (with_reducible show wpAny _ _ (PySem.call (Value.builtin _) [Value.ref _, Value.int _ _]) _ _ _); k_dflt (refine' appInts ?y1 ?y2 ?y3 ?y4 ?y5 ?_; (case y1 => k_asm); (case y2 => k_asm); (case y3 => k_upd); (case y4 => k_asm); (case y5 => (try simp only [List.length_append, List.length_cons, List.length_nil]); omega)); intro h' F' N' kI; (try dsimp only at N'); (try k_sweep)))
local macro_rules | `(tactic| walk_at "call builtin:list.reverse") => `(tactic| (k_here; (with_reducible show wpAny _ _ (PySem.call (Value.builtin _) [Value.ref _]) _ _ _); k_dflt (refine' revInts ?y1 ?y2 ?y3 ?y4 ?y5 ?_; (case y1 => k_asm); (case y2 => k_asm); (case y3 => k_upd); (case y4 => k_asm); (case y5 => omega)); intro h' F' N' kI; (try dsimp only at N'); (try k_sweep)))
local macro_rules | `(tactic| walk_at "subscriptTail Name BinOp ref int") => `(tactic| (k_here; (with_reducible show wpAny _ _ (PySem.subscriptTail _ _ (Value.ref _) (Value.int _ _)) _ _ _); k_dflt (refine' subInts ?y1 ?y2 ?y3 ?y4 ?y5 ?_ (by with_unfolding_all rfl); (case y1 => is_list); (case y2 => k_asm); (case y3 => first | decide | omega); (case y4 => omega); (case y5 => omega)); intro t'))
local macro_rules | `(tactic| walk_at "subscriptTail Name Name ref int") => `(tactic| (k_here; (with_reducible show wpAny _ _ (PySem.subscriptTail _ _ (Value.ref _) (Value.int _ _)) _ _ _); k_dflt (refine' subInts ?y1 ?y2 ?y3 ?y4 ?y5 ?_ (by with_unfolding_all rfl); (case y1 => is_list); (case y2 => k_asm); (case y3 => first | decide | omega); (case y4 => omega); (case y5 => omega)); intro t'))
local macro_rules | `(tactic| walk_at "subscriptTail Name Constant ref int") => `(tactic| (k_here; (with_reducible show wpAny _ _ (PySem.subscriptTail _ _ (Value.ref _) (Value.int _ _)) _ _ _); k_dflt (refine' subInts ?y1 ?y2 ?y3 ?y4 ?y5 ?_ (by with_unfolding_all rfl); (case y1 => is_list); (case y2 => k_asm); (case y3 => first | decide | omega); (case y4 => omega); (case y5 => omega)); intro t'))
local macro_rules | `(tactic| walk_at "subscriptTail Call Constant ref int") => `(tactic| (k_here; (with_reducible show wpAny _ _ (PySem.subscriptTail _ _ (Value.ref _) (Value.int _ _)) _ _ _); k_dflt (refine' subInts ?y1 ?y2 ?y3 ?y4 ?y5 ?_ (by with_unfolding_all rfl); (case y1 => is_list); (case y2 => k_asm); (case y3 => first | decide | omega); (case y4 => omega); (case y5 => omega)); intro t'))
local macro_rules | `(tactic| walk_at "eval ListComp") => `(tactic| (k_here; k_dflt (refine' comp_start ?y1 ?y2 ?y3 ?_ (by intro _; rfl); (case y1 => exact rfl); (case y2 => exact rfl); (case y3 => decide))))
local macro_rules | `(tactic| walk_at "eval Name") => `(tactic| (k_here; (with_reducible show wpAny _ _ (PySem.eval (PySem.Expr.Name _ _) (PySem.compEnvC _ _ _ _)) _ _ _); k_dflt (first | (refine' nameL ?y1 ?y2 ?y3 ?y4 ?_; (case y3 => exact rfl); (case y4 => exact rfl); (case y1 => assumption); (case y2 => assumption)) | (refine' nameC ?y1 ?y2 ?y3 ?y4 ?y5 ?_; (case y3 => exact rfl); (case y4 => exact rfl); (case y5 => exact rfl); (case y1 => assumption); (case y2 => assumption)))))
local macro_rules | `(tactic| walk_at "call builtin:min") => `(tactic| (k_here; (with_reducible show wpAny _ _ (PySem.call (Value.builtin _) [Value.ref _]) _ _ _); k_dflt (refine' minInts ?y1 ?y2 ?y3 ?y4 ?y5 ?y6 ?_; (case y1 => exact rfl); (case y2 => k_asm); (case y3 => k_asm); (case y4 => is_list); (case y5 => k_asm); (case y6 => assumption)); intro h' t' tk' F' N'))
local macro_rules | `(tactic| walk_at "call ref") => `(tactic| (k_here; k_dflt (refine call_start ?_)))
local macro_rules | `(tactic| walk_at "call builtin:list.index") => `(tactic| (k_here; (with_reducible show wpAny _ _ (PySem.call (Value.builtin _) [Value.ref _, Value.int _ _]) _ _ _); k_dflt (refine' index_list_ints ?y1 ?y2 ?y3 ?y4 ?_; (case y1 => is_list); (case y2 => k_asm); (case y3 => assumption); (case y4 => assumption))))
theorem notin_fst2 {l : List (Addr × Obj)} {a : Nat} (h : ∀ p ∈ l, @Ne Nat p.1 a) : a ∉ l.map (·.1) := fun q => let ⟨p, hp, e⟩ := List.mem_map.mp q; h p hp e
theorem news_drop3 {h₀ h : Heap} {L : Addr} {a b c d : Addr × Obj} {r : List (Addr × Obj)} (N : News h₀ L h (a :: b :: c :: d :: r)) : News h₀ L h (a :: r) := fun p hp => by
  rcases List.mem_cons.mp hp with rfl | hp
  · exact N _ (.head _)
  · exact N p (.tail _ (.tail _ (.tail _ (.tail _ hp))))
set_option maxRecDepth 100000 in
set_option maxHeartbeats 8000000 in
theorem law_p4_all (w : World) (mean mg mb) (h₀ : Heap) (L lc lf : Nat) (fa : Addr) (cd : Value) (ns : List Int) (cs : List Value) (k1 : Nat) (oc of o3 o4 : Obj) (st : StTab) (body : List Stmt) (scope : Scope) (eb : lawParts = some (body, scope)) (u : Str → Option Value) (s : Shared) (Q : Flow → Shared → Prop)
  (X : (hd.heap_39 w.params).In h₀) (T : Top topProg LO mean mg mb h₀) (B : Below callerA h₀ [] h₀) (hcd1 : CodeHd h₀ 61 57) (hcd2 : CodeHd h₀ 68 64) (hL : 64 < L) (S : SysF ns) (hcs : IntsAre cs ns)
  (F : Fr h₀ L s.heap (kstB u [])) (dc : oc.data = .cell (some (.ref lc))) (d3 : ∃ v, o3.data = .cell v) (d4 : o4.data = .cell none) (hok : TabsOk st)
  (hlc : ∀ p ∈ [(L + 1 + 1 + 1 + 1, o4), (L + 1 + 1 + 1, o3), (L + 1 + 1, of), (L + 1, oc)], @Ne Nat p.1 lc)
  (hap : ∀ p ∈ tabs st, @Ne Nat p.1 lc ∧ @Ne Nat p.1 (L + 1 + 1 + 1 + 1) ∧ @Ne Nat p.1 (L + 1 + 1 + 1) ∧ @Ne Nat p.1 (L + 1 + 1) ∧ @Ne Nat p.1 (L + 1))
  (N : News h₀ L s.heap ((lc, W.listOf cs.toArray k1) :: (L + 1 + 1 + 1 + 1, o4) :: (L + 1 + 1 + 1, o3) :: (L + 1 + 1, of) :: (L + 1, oc) :: tabs st))
  (ret : ∀ (st : StTab) (v : Str → Option Value) (h : Heap) (tk : Nat), Fr h₀ L h v → News h₀ L h (tabs st) → Q (.ret (.bool true)) { s with heap := h, toks := tk }) :
  wpAny (model PR w) (callerA.deeper (envOfC (Str.ofString "law") scope L fa cd)) (execs (body.drop 7) (envOfC (Str.ofString "law") scope L fa cd)) Q (fun _ _ => False) s := by
  unfold PR at *
  w_top off
  k_with_none
  revert X
  k_fill
  intro X
  refine lawcases (o := (_, _)) rfl eb ?_
  rintro rfl rfl
  dsimp only [kstB] at F
  dsimp only [List.drop]
  obtain ⟨v3, d3⟩ := d3
  obtain ⟨b, r, ens, hb2, hb4⟩ := S.two
  simp only [List.forall_mem_cons] at hlc
  have hlen := S.len
  have hlen2 : 2 ≤ ns.length := by rw [ens]; simp
  have hcl := hcs.length
  k_steps
  rename_i lw hX F9 N9 l9
  have N9 := news_drop3 N9
  have aptw : ∀ p ∈ tabs st, @LT.lt Nat _ p.1 lw := kst_ltOf l9.2.2.2.2.2.2.2.2
  refine storeX_C F9 N9 rfl (UpdF.tail ?u1 (UpdF.tail ?u2 (UpdF.head ?u3))) d4 ?_ rfl rfl
  case u1 => k_ne
  case u2 => k_ne
  case u3 => exact List.forall_mem_cons.mpr ⟨by k_ne, List.forall_mem_cons.mpr ⟨by k_ne, List.forall_mem_cons.mpr ⟨by k_ne, fun p hp => (hap p hp).2.1⟩⟩⟩
  intro hY oy F9 N9 dy
  (try dsimp only at N9)
  k_steps
  refine' forInts (vs := cs) (l := lc) (σ := List Value × List Int × Nat × Obj)
    (fun q => ((lw, W.listOf q.1.toArray q.2.2.1) :: (lc, W.listOf cs.toArray k1) :: (L + 1 + 1 + 1 + 1, oy) :: (L + 1 + 1 + 1, q.2.2.2) :: (L + 1 + 1, of) :: (L + 1, oc) :: tabs st)) (fun _ => [])
    (fun i q => IntsAre q.1 q.2.1 ∧ ((∀ x, ns[i]? = some x → WaysOk b i x.toNat q.2.1) ∧ (i = ns.length → WaysOk b (i - 1) 41 q.2.1)) ∧ (∃ v, q.2.2.2.data = .cell v)) [Str.ofString "coin"] (_, 1 :: List.replicate 40 0, _, o3) rfl ?w1 hcs (.inr ⟨_, fun q => .tail _ (.head _)⟩) F9 N9 ⟨?w3, ⟨?w4, ?w5⟩, ⟨_, d3⟩⟩ (List.forall_mem_nil _) ?wt ?wd
  case w1 => is_list
  case w3 => repeat (first | exact .nil | refine .cons _ _ ?_)
  case w4 =>
    intro x hx
    rw [S.coins.one] at hx
    cases hx
    exact ways_start b
  case w5 => intro h0; exfalso; omega
  case wt =>
    rintro i hi' t ⟨ws, zs, kk, ow⟩ u h tk I oI ⟨hws, ⟨hwk, _⟩, ⟨vo, how⟩⟩ hne F7 N7
    dsimp only [kstB] at hws hwk how hne F7 N7
    have hn1 := hne
    simp only [List.forall_mem_cons] at hn1
    have hsm := S.small _ (List.getElem_mem hi')
    obtain ⟨c, hc⟩ : ∃ c : Nat, ns[i] = (c : Int) := ⟨ns[i].toNat, by omega⟩
    have hw0 := hwk _ (List.getElem?_eq_getElem hi')
    rw [hc] at hsm hw0 ⊢
    rw [Int.toNat_natCast] at hw0
    have hzl := hw0.1
    (try dsimp only); (try k_fold)
    k_steps
    rename_i hr1 F8x N8x hr2 tk9 t1 u1 v1 hR F8 N8 hk8
    refine' forRange (σ := List Value × List Int × Nat × Obj) (n := 41 - c)
      (fun q => ((I, oI) :: (lw, W.listOf q.1.toArray q.2.2.1) :: (lc, W.listOf cs.toArray k1) :: (L + 1 + 1 + 1 + 1, oy) :: (L + 1 + 1 + 1, q.2.2.2) :: (L + 1 + 1, of) :: (L + 1, oc) :: tabs st)) (fun _ => [])
      (fun j q => IntsAre q.1 q.2.1 ∧ WaysOk b i (c + j) q.2.1 ∧ (∃ v, q.2.2.2.data = .cell v)) [] (ws, zs, kk, ow) rfl hR (small_one (by omega) (by omega) (by omega) (by omega)) ?v1 F8 N8 ⟨hws, hw0, ⟨_, how⟩⟩ (List.forall_mem_nil _) ?vt ?vd
    case v1 => rw [rangeSize_nat]; omega
    case vt =>
      rintro j t2 ⟨ws2, zs2, kk2, ow2⟩ u2 h2 tk2 I2 oI2 hj ⟨hws2, hwk2, ⟨vo2, how2⟩⟩ hne2 F5 N5
      dsimp only [kstB] at hws2 hwk2 how2 hne2 F5 N5
      have hn2 := hne2
      simp only [List.forall_mem_cons] at hn2
      have hn3 := hn1
      have hzl2 := hwk2.1
      have hcj : c + j ≤ 40 := by omega
      have hstep := ways_step hb2 ens S.nodup hi' hc (Nat.le_add_right c j) hcj hwk2
      rw [show ((c : Nat) : Int) + (j : Int) = ((c + j : Nat) : Int) by omega]
      refine wpAny_assign_Name (storeX_C F5 N5 rfl (UpdF.tail ?s1 (UpdF.tail ?s2 (UpdF.tail ?s3 (UpdF.tail ?s4 (UpdF.tail ?s5 (UpdF.head ?s6)))))) how2 ?_ rfl rfl)
      case s1 => k_ne
      case s2 => k_ne
      case s3 => k_ne
      case s4 => k_ne
      case s5 => k_ne
      case s6 => exact List.forall_mem_cons.mpr ⟨by k_ne, List.forall_mem_cons.mpr ⟨by k_ne, fun p hp => (hap p hp).2.2.1⟩⟩
      intro h3 ow3 F4 N4 dow3
      (try dsimp only at N4)
      (try dsimp only); (try k_fold)
      k_steps
      rename_i tA tB h4 F6 N6 kI6
      have e1 : ((c + j : Nat) : Int).toNat = c + j := Int.toNat_natCast _
      have e2 : (((c + j : Nat) : Int) - (c : Int)).toNat = c + j - c := by omega
      simp only [e1, e2] at kI6 N6
      refine' stepS_next (_, _, kk2, ow3) ?r1 ?r2 ?r3 ?r4 ?r5 ⟨kI6, hstep, ⟨_, dow3⟩⟩ ?r7
      case r2 => k_asm
      case r1 => exact List.forall_mem_nil _
      case r3 => exact N6
      case r4 => exact fun p hp => hp
      case r5 => exact List.forall_mem_cons.mpr ⟨hn2.1, List.forall_mem_cons.mpr ⟨hn2.2.1, List.forall_mem_cons.mpr ⟨hn2.2.2.1, List.forall_mem_cons.mpr ⟨hn2.2.2.2.1, List.forall_mem_cons.mpr ⟨hn2.2.2.2.2.1, fun p hp => hne2 p (.tail _ (.tail _ (.tail _ (.tail _ (.tail _ hp)))))⟩⟩⟩⟩⟩
      case r7 => ksw_same
    case vd =>
      rintro ⟨ws2, zs2, kk2, ow2⟩ u2 h2 tk2 ⟨hws2, hwk2, ⟨vo2, how2⟩⟩ F5 N5
      dsimp only [kstB] at hws2 hwk2 how2 F5 N5
      (try dsimp only); (try k_fold)
      k_steps
      refine' stepS_next (ws2, zs2, kk2, ow2) ?q1 ?q2 ?q3 ?q4 ?q5 ⟨hws2, ways_turn S hb2 ens (ways_end hwk2 (by omega)), ⟨_, how2⟩⟩ ?q7
      case q2 => k_asm
      case q1 => exact List.forall_mem_nil _
      case q3 => k_asm
      case q4 => exact fun p hp => hp
      case q5 => exact List.forall_mem_cons.mpr ⟨hn1.1, List.forall_mem_cons.mpr ⟨hn1.2.1, List.forall_mem_cons.mpr ⟨hn1.2.2.1, List.forall_mem_cons.mpr ⟨hn1.2.2.2.1, fun p hp => hne p (.tail _ (.tail _ (.tail _ (.tail _ hp))))⟩⟩⟩⟩
      case q7 => ksw_same
  case wd =>
    rintro ⟨ws, zs, kk, ow⟩ u h tk ⟨hws, ⟨_, hwk⟩, ⟨vo, how⟩⟩ F7 N7
    dsimp only [kstB] at hws hwk how F7 N7
    have hfin := ways_fin hlen2 (hwk rfl)
    have hzl := (hwk rfl).1
    clear hwk
    (try dsimp only); (try k_fold)
    k_steps
    rename_i hr2 tk9 t1 u1 v1 hR F8 N8 hk8
    refine' compRange (n := 41) (fun _ => false) (fun k => k) rfl hR (small_one (by omega) (by omega) (by omega) (by omega)) (by rw [rangeSize_nat]; omega) (by omega) (by decide) rfl rfl F8 N8 ?g2 ?g3 ?g4
    case g2 =>
      intro C k t3 s₃ m₃ hk hNs hm hk3
      obtain ⟨hk0, hk1⟩ := mem_rangeKs hk
      have hcc : s₃.heap.get? (L + 1) = some oc := hk3 _ _ (N8 _ (.tail _ (.tail _ (.tail _ (.tail _ (.tail _ (.head _))))))).1
      have hcy : s₃.heap.get? (L + 1 + 1 + 1 + 1) = some oy := hk3 _ _ (N8 _ (.tail _ (.tail _ (.head _)))).1
      have hlw : s₃.heap.IsList lw ws.toArray := ⟨_, hk3 _ _ (N8 _ (.head _)).1, rfl, _, rfl⟩
      have hlcs : s₃.heap.IsList lc cs.toArray := ⟨_, hk3 _ _ (N8 _ (.tail _ (.head _))).1, rfl, _, rfl⟩
      have hfk := hfin k.toNat (by omega)
      have hb1 : ns.getD ((1 : Int)).toNat 0 = b := by rw [ens]; rfl
      refine wpAny_tests_one ?_
      k_steps
      · exact TEnd.here rfl
      · exact TEnd.here rfl
    case g3 =>
      intro C k t3 s₃ m₃ hk hp hNs hm hk3
      cases hp
    case g4 =>
      intro D7 h7 tk7 us7 kk7 F17 N17 hne7 hI7
      have e9 : (List.map (fun k : Int => k) ((rangeKs 0 41).filter (fun _ => false))) = [] := by simp
      rw [e9] at hI7
      cases hI7
      (try dsimp only); (try k_fold)
      k_steps
      rename_i l0 hZ0 mX l3 hZ F3 N3 m3
      have C134 : Coins [1, 3, 4] := ⟨by decide, by decide, rfl, by decide⟩
      have hz6 : (pays [1, 3, 4] 9 6).2 = 0 := by decide +kernel
      have hp6 : (pays [1, 3, 4] 9 6).1 = [(4, 1), (1, 2)] := by decide +kernel
      have apl : ∀ p ∈ tabs st, @LT.lt Nat _ p.1 l3 := kst_ltOf m3.2.2.2.2.2.2.2.2
      have N3t : News h₀ L _ (tabs st) := fun p hp => N3 p (.tail _ (.tail _ (.tail _ (.tail _ (.tail _ (.tail _ (.tail _ (.tail _ (.tail _ hp)))))))))
      refine' (paid_ctr w mean mg mb l3 [Value.int 1 tk7, Value.int 3 (tk7 + 1), Value.int 4 (tk7 + 1 + 1)] [1, 3, 4] 6 _ (.cons _ _ (.cons _ _ (.cons _ _ .nil))) C134 (by decide) hz6 st hok).use ?kB ?kF ?kX ?kN ?kT ?kk ?ksm ?kp ?kd ?ku [] ?kr ?_
      case kB => k_asm
      case kF => k_asm
      case kX => k_asm
      case kN => exact N3
      case kT => k_asm
      case kk => exact rfl
      case ksm => exact fun p hp => .tail _ (.tail _ (.tail _ (.tail _ (.tail _ (.tail _ (.tail _ (.tail _ (.tail _ hp))))))))
      case kp => exact fun g hg => ⟨CodeHd.keeps hcd1 (kept_get F3 N3t hg), CodeHd.keeps hcd2 (kept_get F3 N3t hg), ⟨_, hg _ _ (N3 _ (.head _)).1 (notin_fst2 fun p hp => Nat.ne_of_lt (apl p hp)), rfl, _, rfl⟩⟩
      case kd => ktr_room
      case ku => ktr_units
      case kr => exact List.forall_mem_nil _
      rintro v4 new4 h4 tk4 ⟨D, us8, kk8, tps, st2, rfl, hP, hok2, rfl⟩ F4 N4 ap4
      rw [List.append_nil] at N4
      rw [hp6] at hP
      clear N3 N3t F3 ap4
      (try dsimp only); (try k_fold)
      k_steps
      rename_i h12 F5 N5
      refine' compPairs (ps := [(4, 1), (1, 2)]) (fun p => ((p.2 : Nat) : Int)) rfl (.head _) hP (fun p hp => .tail _ (List.mem_append_left _ hp)) (by decide) (by decide) rfl rfl rfl (by decide) F5 N5 ?ce ?cf
      case ce =>
        intro C c o t1 t2 s₃ m₃ hcm hNs hm1 hm2
        k_steps
        exact EEnd.here rfl
      case cf =>
        intro D5 h5 tk5 us5 kk5 F6 N6 hne5 hI5
        have hI5 : IntsAre us5 [1, 2] := hI5
        have hg6 : (fewL [1, 3, 4] 6).getD ((6 : Int)).toNat 0 = 2 := by decide +kernel
        have hgl : (fewL [1, 3, 4] 6).length = 7 := by decide +kernel
        (try dsimp only); (try k_fold)
        k_steps
        rename_i h13 tk13 t13 l4 h14 F7 N7 m4
        refine' (few_ctr w mean mg mb l4 [Value.int 1 (tk13 + 1), Value.int 3 (tk13 + 1 + 1), Value.int 4 (tk13 + 1 + 1 + 1)] [1, 3, 4] 6 _ (.cons _ _ (.cons _ _ (.cons _ _ .nil))) C134 (by decide)).use ?jB ?jF ?jX ?jN ?jT ?jk ?jsm ?jp ?jd ?ju (tabs st2) ?jr ?_
        case jB => k_asm
        case jF => k_asm
        case jX => k_asm
        case jN => exact N7
        case jT => k_asm
        case jk => exact rfl
        case jsm => exact List.forall_mem_nil _
        case jp => exact fun g hg => ⟨_, hg _ _ (N7 _ (.head _)).1 List.not_mem_nil, rfl, _, rfl⟩
        case jd => ktr_room
        case ju => ktr_units
        case jr => exact fun p hp => ⟨.tail _ (.tail _ (.tail _ (List.mem_append_right _ hp))), List.not_mem_nil⟩
        rintro v6 new6 h6 tk6 ⟨lg, gs, kg, rfl, hIg, rfl⟩ F8 N8 ap8
        generalize fewL [1, 3, 4] 6 = g at hIg hg6 hgl
        simp only [List.cons_append, List.nil_append] at N8
        clear F7 N7
        (try dsimp only); (try k_fold)
        k_steps
        rw [hg6]
        exact ret st2 _ _ _ F8 (fun p hp => N8 p (.tail _ hp))
end
end Mine
namespace Mine
section
open PySem PySem.W PySem.Calls PyProof.Rows
local macro_rules | `(tactic| walk_at "exec For Name Call cons nil") => `(tactic| (k_here; k_dflt (refine for_start ?_)))
local macro_rules | `(tactic| walk_at "exec For Name Name cons nil") => `(tactic| (k_here; k_dflt (refine for_start ?_)))
local macro_rules | `(tactic| walk_at "exec For Name Subscript cons nil") => `(tactic| (k_here; k_dflt (refine for_start ?_)))
local macro_rules | `(tactic| walk_at "exec For Tuple Name cons nil") => `(tactic| (k_here; k_dflt (refine for_start ?_)))
local macro_rules | `(tactic| walk_at "setItem ref int") => `(tactic| (k_here; (with_reducible show wpAny _ _ (PySem.setItem (Value.ref _) (Value.int _ _) (Value.int _ _)) _ _ _); k_dflt (refine' setInts ?y1 ?y2 ?y3 ?y4 ?y5 ?y6 ?y7 ?_; (case y1 => k_asm); (case y2 => k_asm); (case y3 => k_upd); (case y4 => k_asm); (case y5 => omega); (case y6 => omega); (case y7 => omega)); intro h' F' N' kI; (try dsimp only at N'); (try k_sweep)))
local macro_rules | `(tactic| walk_at "call builtin:list.append") => `(tactic| (k_here; (with_reducible show wpAny _ _ (PySem.call (Value.builtin _) [Value.ref _, Value.int _ _]) _ _ _); k_dflt (refine' appInts ?y1 ?y2 ?y3 ?y4 ?y5 ?_; (case y1 => k_asm); (case y2 => k_asm); (case y3 => k_upd); (case y4 => k_asm); (case y5 => (try simp only [List.length_append, List.length_cons, List.length_nil]); omega)); intro h' F' N' kI; (try dsimp only at N'); (try k_sweep)))
local macro_rules | `(tactic| walk_at "call builtin:list.reverse") => `(tactic| (k_here; (with_reducible show wpAny _ _ (PySem.call (Value.builtin _) [Value.ref _]) _ _ _); k_dflt (refine' revInts ?y1 ?y2 ?y3 ?y4 ?y5 ?_; (case y1 => k_asm); (case y2 => k_asm); (case y3 => k_upd); (case y4 => k_asm); (case y5 => omega)); intro h' F' N' kI; (try dsimp only at N'); (try k_sweep)))
local macro_rules | `(tactic| walk_at "subscriptTail Name BinOp ref int") => `(tactic| (k_here; (with_reducible show wpAny _ _ (PySem.subscriptTail _ _ (Value.ref _) (Value.int _ _)) _ _ _); k_dflt (refine' subInts ?y1 ?y2 ?y3 ?y4 ?y5 ?_ (by with_unfolding_all rfl); (case y1 => is_list); (case y2 => k_asm); (case y3 => first | decide | omega); (case y4 => omega); (case y5 => omega)); intro t'))
local macro_rules | `(tactic| walk_at "subscriptTail Name Name ref int") => `(tactic| (k_here; (with_reducible show wpAny _ _ (PySem.subscriptTail _ _ (Value.ref _) (Value.int _ _)) _ _ _); k_dflt (refine' subInts ?y1 ?y2 ?y3 ?y4 ?y5 ?_ (by with_unfolding_all rfl); (case y1 => is_list); (case y2 => k_asm); (case y3 => first | decide | omega); (case y4 => omega); (case y5 => omega)); intro t'))
local macro_rules | `(tactic| walk_at "subscriptTail Name Constant ref int") => `(tactic| (k_here; (with_reducible show wpAny _ _ (PySem.subscriptTail _ _ (Value.ref _) (Value.int _ _)) _ _ _); k_dflt (refine' subInts ?y1 ?y2 ?y3 ?y4 ?y5 ?_ (by with_unfolding_all rfl); (case y1 => is_list); (case y2 => k_asm); (case y3 => first | decide | omega); (case y4 => omega); (case y5 => omega)); intro t'))
local macro_rules | `(tactic| walk_at "subscriptTail Call Constant ref int") => `(tactic| (k_here; (with_reducible show wpAny _ _ (PySem.subscriptTail _ _ (Value.ref _) (Value.int _ _)) _ _ _); k_dflt (refine' subInts ?y1 ?y2 ?y3 ?y4 ?y5 ?_ (by with_unfolding_all rfl); (case y1 => is_list); (case y2 => k_asm); (case y3 => first | decide | omega); (case y4 => omega); (case y5 => omega)); intro t'))
local macro_rules | `(tactic| walk_at "eval ListComp") => `(tactic| (k_here; k_dflt (refine' comp_start ?y1 ?y2 ?y3 ?_ (by intro _; rfl); (case y1 => exact rfl); (case y2 => exact rfl); (case y3 => decide))))
local macro_rules | `(tactic| walk_at "eval Name") => `(tactic| (k_here; (with_reducible show wpAny _ _ (PySem.eval (PySem.Expr.Name _ _) (PySem.compEnvC _ _ _ _)) _ _ _); k_dflt (first | (refine' nameL ?y1 ?y2 ?y3 ?y4 ?_; (case y3 => exact rfl); (case y4 => exact rfl); (case y1 => assumption); (case y2 => assumption)) | (refine' nameC ?y1 ?y2 ?y3 ?y4 ?y5 ?_; (case y3 => exact rfl); (case y4 => exact rfl); (case y5 => exact rfl); (case y1 => assumption); (case y2 => assumption)))))
local macro_rules | `(tactic| walk_at "call builtin:min") => `(tactic| (k_here; (with_reducible show wpAny _ _ (PySem.call (Value.builtin _) [Value.ref _]) _ _ _); k_dflt (refine' minInts ?y1 ?y2 ?y3 ?y4 ?y5 ?y6 ?_; (case y1 => exact rfl); (case y2 => k_asm); (case y3 => k_asm); (case y4 => is_list); (case y5 => k_asm); (case y6 => assumption)); intro h' t' tk' F' N'))
local macro_rules | `(tactic| walk_at "call ref") => `(tactic| (k_here; k_dflt (refine call_start ?_)))
local macro_rules | `(tactic| walk_at "call builtin:list.index") => `(tactic| (k_here; (with_reducible show wpAny _ _ (PySem.call (Value.builtin _) [Value.ref _, Value.int _ _]) _ _ _); k_dflt (refine' index_list_ints ?y1 ?y2 ?y3 ?y4 ?_; (case y1 => is_list); (case y2 => k_asm); (case y3 => assumption); (case y4 => assumption))))
set_option maxRecDepth 100000 in
set_option maxHeartbeats 8000000 in
theorem law_holds : PySem.Challenge.rw_hc0006_01.Holds := hd (by
  w_top off
  k_go0
  rename_i W s0 s1 mg mb G Y fa o pm cd doc ho hcd hg X V T B TE TW ns hs hlay0 hL1 hr1 hl2 a8 a7 la lv a4 hL ra w1 r0 hI hr hc1 hc2 hD h1 tk1 o4 o3 o2 o1 d4 d3 d2 d1 X0 X1 T1 K1 F1 cH1 N1 l0
  clear X0
  replace d4 : o4.data = .cell none := d4
  replace d3 : o3.data = .cell none := d3
  replace d2 : o2.data = .cell none := d2
  replace d1 : o1.data = .cell none := d1
  refine wpAny_noRaise ?_
  refine law_p1 W (ExcName.means s0.heap) mg mb _ s1.heap.objs.size fa la cd lv ns o1 o2 o3 o4 _ _ rfl _ _ _ X1 T1 K1 l0.1 lifted hI (by omega) (fr_kst _ (List.forall_mem_cons.mpr ⟨by with_unfolding_all rfl, List.forall_mem_nil _⟩) F1) d1 d2 d3 d4 (news_sub N1 (by k_allIn)) ?_
  intro ks lr lc rs cs k1 k2 oc v h tk hk1 hk2 hrs hcs dc F2 hne hap N2
  have S := sysF (sys_mem hk1 hk2)
  refine law_p2 W (ExcName.means s0.heap) mg mb _ s1.heap.objs.size lc lr fa cd (sysOf ks) rs cs k1 k2 oc o2 o3 o4 _ _ rfl _ _ _ X1 T1 K1 codeHd cH1 l0.1 S hrs hcs F2 dc d2 d3 hne hap N2 ?_
  intro lf fs k3 of ow st v2 h2 tk2 hok df how F3 hapt N3
  refine law_p4_all W (ExcName.means s0.heap) mg mb _ s1.heap.objs.size lc lf fa cd (sysOf ks) cs k1 oc of ow o4 st _ _ rfl v2 _ _ X1 T1 K1 codeHd cH1 l0.1 S hcs F3 dc how d4 hok ?_ hapt N3 ?_
  · exact List.forall_mem_cons.mpr ⟨(hap (_, o4) (.head _)).1, List.forall_mem_cons.mpr ⟨(hap (_, o3) (.tail _ (.head _))).1, List.forall_mem_cons.mpr ⟨(hap (_, o2) (.tail _ (.tail _ (.head _)))).1, List.forall_mem_cons.mpr ⟨(hap (_, oc) (.tail _ (.tail _ (.tail _ (.head _))))).1, List.forall_mem_nil _⟩⟩⟩⟩
  · intro st2 v3 h3 tk3 F4 N4
    have N5 : ∃ t1 t2, News (ghostOf s1.heap [(68, 64), (61, 57)]) s1.heap.objs.size h3 [(64, tabObj t1), (57, tabObj t2)] := by
      cases st2 with
      | none => exact ⟨_, _, news_sub N4 (by simp only [tabs]; k_allIn)⟩
      | some y => exact ⟨_, _, news_sub N4 (by simp only [tabs]; k_allIn)⟩
    obtain ⟨t1, t2, N5⟩ := N5
    clear N4 N3 N2 N1 F3 F2 F1
    (try dsimp only)
    k_steps
    skip)
end
end Mine
set_option maxRecDepth 100000 in
set_option maxHeartbeats 8000000 in
theorem PySem.Challenge.cw_hc0006_01_holds : PySem.Challenge.rw_hc0006_01.Holds := by
  exact Mine.law_holds
