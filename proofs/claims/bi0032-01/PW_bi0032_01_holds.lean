import PyProof.Rows.All
import Wide.All
import OpenK.AllK
import Wide.FinOn
import PyProof.CollectIter
import PyProof.TupleOfStr
import PySem.Challenge.RW_bi0032_01
set_option Elab.async false
set_option maxRecDepth 100000
set_option maxHeartbeats 8000000
set_option linter.all false
-- part Head
namespace Mine
open PySem PySem.W PyProof.Rows
open_top hd for PySem.Challenge.rw_bi0032_01
end Mine
theorem Mine.freshHead : True ∧ True := by w_top off; first | (walk1; all_goals trivial) | exact ⟨trivial, trivial⟩
-- part Base
namespace Mine
open PySem PySem.W PyProof.Rows PySem.Calls

/-- a number as 32 octets -/
def enc (n : Nat) : Array UInt8 := ((KTBy.low (n : Int) 32).reverse).toArray
theorem enc_size (n : Nat) : (enc n).size = 32 := by
  unfold enc; rw [List.size_toArray, List.length_reverse, KTBy.low_length]

section
variable {prog : Program} {w : World} {A : Around} {E : Value → Shared → Prop} {s : Shared} {n : Nat} {t u v : Tok}
theorem to_bytes32 {Q : Value → Shared → Prop} (h1 : n < 2 ^ 64) (h : ∀ t' k', Q (.bytes (enc n) t') { s with toks := k' }) :
    wpAny (model prog w) A (call (.builtin "int.to_bytes") [.int (n : Int) t, .int 32 u, .str (PySem.Str.ofString "big") v]) Q E s := by
  refine wpAny_call_entry KTBy.slot (typeIs_int s (n : Int) t) KTBy.entry ?_ (KTBy.args _ _ _)
  have hb : Builtin.Int.intBits (n : Int) ≤ 8 * 32 :=
    KTBy.bits_le (k := 32) (B := 256 ^ 32) rfl (by omega) (by
      have : (2:Int) ^ 64 < 256 ^ 32 := by decide
      have h2 : (n : Int) < 2 ^ 64 := by exact_mod_cast h1
      omega)
  show wpAny _ _ (Builtin.Int.intOfSelf (.int (n : Int) t) >>= fun y => _) _ _ s
  refine wpAny_bind (wpAny_of_eq (a := (n : Int)) rfl ?_)
  show wpAny _ _ (Builtin.Int.intBindNamed "to_bytes" ["length", "byteorder", "signed"] 0 2 [.int 32 u, .str (PySem.Str.ofString "big") v] [] >>= fun l => _) _ _ s
  refine wpAny_bind (wpAny_of_eq (a := [some (.int 32 u), some (.str (PySem.Str.ofString "big") v), none]) (by kernel_rfl) ?_)
  show wpAny _ _ (Builtin.Int.intIndex "int.to_bytes" (.int 32 u) >>= fun n => _) _ _ s
  refine wpAny_bind (wpAny_of_eq (a := (32 : Int)) rfl ?_)
  refine KTBy.if_not rfl ?_
  refine wpAny_bind (wpAny_of_eq (a := PySem.Str.ofString "big") (by kernel_rfl) ?_)
  refine wpAny_bind (wpAny_of_eq (a := false) rfl ?_)
  refine wpAny_bind (wpAny_of_eq (a := false) (by kernel_rfl) ?_)
  refine wpAny_ite_false rfl ?_
  refine wpAny_ite_false rfl ?_
  refine wpAny_ite_false rfl ?_
  refine KTBy.if_not (by show (decide ((n : Int) < 0) && !false) = false; rw [decide_eq_false (show ¬ (n : Int) < 0 by omega)]; rfl) ?_
  refine KTBy.if_not (by show (_ && decide ((Builtin.Int.intBits (n : Int) : Int) > 8 * 32)) = false; rw [decide_eq_false (show ¬ ((Builtin.Int.intBits (n : Int) : Int) > 8 * 32) by omega), Bool.and_false]) ?_
  refine wpAny_bind (wpAny_mkBytes (wpAny_pure ⟨_, rfl, h _ _⟩) (by show (List.reverse (KTBy.low (n : Int) 32)).length ≤ sizeLine; rw [List.length_reverse, KTBy.low_length, sizeLine_eq]; omega))
end

abbrev BK (w : World) := bytesKind Challenge.rw_bi0032_01.row.prog w
theorem bk_is (prog : Program) (w : World) (b : Array UInt8) (t : Tok) : (bytesKind prog w).is b.toList (.bytes b t) = true := by
  simp [bytesKind, isBytes]

section
variable {prog : Program} {w : World} {A : Around} {E : Value → Shared → Prop} {s : Shared} {h₀ : Heap} {L d : Addr} {m : Str → Option Value} {news : List (Addr × Obj)} {g : Obj → List (Addr × Obj)} {o : Obj} {kvs : List (List UInt8 × Value)} {b : Array UInt8} {t : Tok} {v : Value}
theorem notin_by {Q : Value → Shared → Prop} (N : News h₀ L s.heap news) (hp : (d, o) ∈ news) (hd : o.IsDictOf (bytesKind prog w) kvs) (lo : (d == sysModules) = false)
    (h : ∀ c, (valueAt kvs b.toList).isSome = c → Q (.bool (!c)) { s with toks := s.toks + 1 }) : wpAny (model prog w) A (compareOp .NotIn (.bytes b t) (.ref d)) Q E s :=
  kdg_notin N hp hd lo (bk_is prog w b t) _ rfl (h _ rfl)
theorem in_by {Q : Value → Shared → Prop} (N : News h₀ L s.heap news) (hp : (d, o) ∈ news) (hd : o.IsDictOf (bytesKind prog w) kvs) (lo : (d == sysModules) = false)
    (h : ∀ c, (valueAt kvs b.toList).isSome = c → Q (.bool c) { s with toks := s.toks + 1 }) : wpAny (model prog w) A (compareOp .In (.bytes b t) (.ref d)) Q E s :=
  kda_in N hp hd lo (bk_is prog w b t) _ rfl (h _ rfl)
end
theorem isDict_empty {prog : Program} {w : World} {K K' : Type} [DecidableEq K] [DecidableEq K'] {knd : KeyKind prog w K} {knd' : KeyKind prog w K'} {o : Obj} (h : o.IsDictOf knd []) : o.IsDictOf knd' [] := by
  obtain ⟨es, ep, he, hd, hk, hp, hn⟩ := h
  have : es.toList = [] := by
    cases hq : es.toList with
    | nil => rfl
    | cons a l => rw [hq] at hp; cases hp
  have e : es = #[] := by simpa using this
  subst e
  exact ⟨#[], ep, he, hd, fun e he => by simp at he, by first | exact hp | constructor, by simp⟩
end Mine
theorem Mine.freshBase : True ∧ True := by w_top off; first | (walk1; all_goals trivial) | exact ⟨trivial, trivial⟩
-- part Base2
namespace Mine
open PySem PySem.W PyProof.Rows PySem.Calls

/-- all but the named addresses stand as they stood -/
def Tch (R : List Addr) (h h' : Heap) : Prop := ∀ b o, h.get? b = some o → b ∉ R → h'.get? b = some o
theorem Tch.refl {R : List Addr} (h : Heap) : Tch R h h := fun _ _ e _ => e
theorem Tch.trans {R : List Addr} {h h' h'' : Heap} (a : Tch R h h') (b : Tch R h' h'') : Tch R h h'' := fun x o e n => b x o (a x o e n) n
theorem Tch.mono {R R' : List Addr} {h h' : Heap} (a : Tch R h h') (hs : ∀ x ∈ R, x ∈ R') : Tch R' h h' := fun x o e n => a x o e fun q => n (hs x q)

theorem fr_tch {h₀ h h' : Heap} {L : Addr} {m : Str → Option Value} {R : List Addr} (F : Fr h₀ L h m) (T : Tch R h h') (hL : L ∉ R) (hR : ∀ a ∈ R, h₀.get? a = none) : Fr h₀ L h' m := by
  obtain ⟨o, es, ep, e, r⟩ := F.ns
  refine ⟨⟨o, es, ep, T _ _ e hL, r⟩, fun b x q => T _ _ (F.keep b x q) fun hb => ?_, F.above⟩
  rw [hR b hb] at q; cases q

theorem news_off {h₀ h : Heap} {L : Addr} {news R : List (Addr × Obj)} (N : News h₀ L h news) (hR : ∀ p ∈ R, p ∈ news) : L ∉ R.map (·.1) ∧ ∀ a ∈ R.map (·.1), h₀.get? a = none := by
  constructor
  · intro q
    obtain ⟨p, hp, e⟩ := List.mem_map.mp q
    exact (N p (hR p hp)).2.1 e
  · intro a ha
    obtain ⟨p, hp, e⟩ := List.mem_map.mp ha
    exact e ▸ (N p (hR p hp)).2.2

/-- what a caller knows of its own frame -/
structure Cx (w : World) (p : Program) (loose : List Str) (mean : ExcName → Option Value) (mg mb : Str → Option Value) (A : Around) (h : Heap) (h₀ : Heap) (L : Addr) (m : Str → Option Value) : Prop where
  below : ∃ A₀ base outer env, Below A₀ base outer h₀ ∧ A.frames = some (env :: outer) ∧ env.frame = some L ∧ env.scope.kind = .function
  fr : Fr h₀ L h m
  k : (hd.heap_39 w.params).In h₀
  top : Top p loose mean mg mb h₀

abbrev AA (hnd : Option Value) (dp un : Nat) (gd : Option (List Code)) (env : Env) (outer : List Env) : Around := { handled := hnd, depth := dp, frames := some (env :: outer), guards := gd, units := un }

theorem Cx.shape {w : World} {p : Program} {loose : List Str} {mean : ExcName → Option Value} {mg mb : Str → Option Value} {A : Around} {h h₀ : Heap} {L : Addr} {m : Str → Option Value} (C : Cx w p loose mean mg mb A h h₀ L m) :
    ∃ hnd dp un gd env outer, A = AA hnd dp un gd env outer := by
  obtain ⟨_, _, outer, env, _, e, _⟩ := C.below
  obtain ⟨hnd, dp, fr, gd, un⟩ := A
  dsimp only at e
  subst e
  exact ⟨hnd, dp, un, gd, env, outer, rfl⟩

/-- how a callee's walk ends: its own frame and ledger, and then what the caller wants -/
def LeaveM (h₀ : Heap) (L : Addr) (m : Str → Option Value) (R : List (Addr × Obj)) (h : Heap) (g : Heap) (P : Value → Shared → Prop) (v : Value) (s' : Shared) : Prop :=
  ∃ L' m' R', Fr g L' s'.heap m' ∧ News g L' s'.heap R' ∧
    (Fr h₀ L s'.heap m → Tch (R.map (·.1)) h s'.heap → (∀ p ∈ R', s'.heap.get? p.1 = some p.2) → (∀ p ∈ R', p.1 ∉ R.map (·.1) → p.1 ≠ L ∧ h.get? p.1 = none) → P v s')

section
variable {w : World} {p : Program} {loose : List Str} {mean : ExcName → Option Value} {mg mb : Str → Option Value} {A : Around} {s : Shared} {h₀ : Heap} {L : Addr} {m : Str → Option Value} {R : List (Addr × Obj)}
  {P : Value → Shared → Prop} {Rz : Result → Shared → Prop} {name qual : Str} {params : Arguments} {body : List Stmt} {scope : Scope} {cl : List (Str × Addr)} {dV kV doc pm cdv ct oc : Value} {an od : Option Addr} {osl : Array (Option Value)} {fo : Obj} {f : Addr} {args : Args} {binds : List (Str × Value)}
theorem call_sub (C : Cx w p loose mean mg mb A s.heap h₀ L m) (N : News h₀ L s.heap R)
    (ho : s.heap.get? f = some fo) (hdt : fo.data = .func (fnX name qual params body scope cl dV kV doc pm an cdv ct)) (hcd : s.heap.CodeRec cdv qual) (hroom : A.depth < recursionLimit)
    (hbind : BindsTo s (fnX name qual params body scope cl dV kV doc pm an cdv ct) args binds) (hloc : ∀ y ∈ binds, scope.names.lookup y.1 = some .local)
    (h : ∀ hnd dp un gd env outer base g L' h₁, A = AA hnd dp un gd env outer → Fr g L' h₁ (fun y => binds.reverse.lookup y) → News g L' h₁ R → Below A base (env :: outer) g → (hd.heap_39 w.params).In g → Top p loose mean mg mb g → Tch (R.map (·.1)) s.heap g → (∀ p ∈ R, p.1 < L') →
      wpAny (model Challenge.rw_bi0032_01.row.prog w) (A.deeper (envX qual scope L' f cdv cl)) (execs body (envX qual scope L' f cdv cl))
        (fun fl s' => LeaveM h₀ L m R s.heap g (fun v s' => Rz (.ok (.ret v)) s') (match fl with | .ret v => v | _ => .none) s')
        (fun e s' => wpAny (model Challenge.rw_bi0032_01.row.prog w) (A.deeper (envX qual scope L' f cdv cl)) (leaving (envX qual scope L' f cdv cl) e) (fun _ s'' => Rz (.error e) s'') (fun e' s'' => Rz (.error e') s'') s')
        { s with heap := h₁, toks := s.toks + binds.length })
    (hcell : ∀ x ∈ scope.names, x.2 ≠ .cell) (hco : scope.isCoroutine = false) (hgen : scope.isGenerator = false) (hk : scope.kind = .function) : codeAny (model Challenge.rw_bi0032_01.row.prog w) A (.call (.ref f) args) Rz s := by
  obtain ⟨A₀, base, outer, env, B, hA, hf, hke⟩ := C.below
  obtain ⟨hnd, dp, un, gd, env', outer', hs⟩ := C.shape
  have he : env' = env ∧ outer' = outer := by
    rw [hs] at hA
    have := Option.some.inj hA
    exact ⟨(List.cons.inj this).1, (List.cons.inj this).2⟩
  obtain ⟨rfl, rfl⟩ := he
  obtain ⟨FG, BG, st, _⟩ := groundX (R := Rz) B C.fr N hA hf hke
  have hTg : Tch (R.map (·.1)) s.heap (hideAll s.heap (R.map (·.1))) := fun b o e n => hideAll_get _ e n
  have hoff := news_off N (R := R) fun _ h => h
  refine codeAny_call_def (fd := fnX name qual params body scope cl dV kV doc pm an cdv ct) (body := body) (binds := binds) hroom ho hdt (C.top.nolimit.keeps C.fr.keep) hcd rfl hbind hcell hloc (fun h₁ hns hk₁ => ?_) hco hgen hk
  refine wpAny_mono (h hnd dp un gd env' outer' base _ s.heap.objs.size h₁ hs ⟨hns, fun b o e => hk₁ b o (of_hideAll _ e), Nat.le_of_eq (hideAll_size _ _)⟩
    (fun p hp => ⟨hk₁ _ _ (N p hp).1, Nat.ne_of_lt (Heap.lt_size (N p hp).1), hideAll_none _ (List.mem_map_of_mem hp)⟩) BG (C.k.keeps st) (C.top.keeps st) hTg (fun p hp => Heap.lt_size (N p hp).1)) (fun fl s' hl => ?_) fun _ _ y => y
  obtain ⟨L', m', R', F', N', k⟩ := hl
  have hT : Tch (R.map (·.1)) s.heap s'.heap := fun b o e n => F'.keep b o (hTg b o e n)
  refine k (fr_tch C.fr hT hoff.1 hoff.2) hT (fun p hp => (N' p hp).1) fun p hp hn => ?_
  have hg := (N' p hp).2.2
  have hnone : s.heap.get? p.1 = none := by
    cases q : s.heap.get? p.1 with
    | none => rfl
    | some o => rw [hTg _ _ q hn] at hg; cases hg
  refine ⟨fun q => ?_, hnone⟩
  obtain ⟨o, es, ep, e, r⟩ := C.fr.ns
  rw [q, e] at hnone; cases hnone

theorem call_subK (C : Cx w p loose mean mg mb A s.heap h₀ L m) (N : News h₀ L s.heap R)
    (ho : (hd.heap_39 w.params).lookup f = some ⟨oc, od, .func (fnOf name qual params body scope dV kV doc pm an cdv ct), osl⟩) (hcd : codeIn (hd.heap_39 w.params) cdv qual = true) (hroom : A.depth < recursionLimit)
    (hbind : BindsTo s (fnOf name qual params body scope dV kV doc pm an cdv ct) args binds) (hloc : ∀ y ∈ binds, scope.names.lookup y.1 = some .local)
    (h : ∀ hnd dp un gd env outer base g L' h₁, A = AA hnd dp un gd env outer → Fr g L' h₁ (fun y => binds.reverse.lookup y) → News g L' h₁ R → Below A base (env :: outer) g → (hd.heap_39 w.params).In g → Top p loose mean mg mb g → Tch (R.map (·.1)) s.heap g → (∀ p ∈ R, p.1 < L') →
      wpAny (model Challenge.rw_bi0032_01.row.prog w) (A.deeper (envOf qual scope L' f cdv)) (execs body (envOf qual scope L' f cdv))
        (fun fl s' => LeaveM h₀ L m R s.heap g (fun v s' => Rz (.ok (.ret v)) s') (match fl with | .ret v => v | _ => .none) s')
        (fun e s' => wpAny (model Challenge.rw_bi0032_01.row.prog w) (A.deeper (envOf qual scope L' f cdv)) (leaving (envOf qual scope L' f cdv) e) (fun _ s'' => Rz (.error e) s'') (fun e' s'' => Rz (.error e') s'') s')
        { s with heap := h₁, toks := s.toks + binds.length })
    (hcell : ∀ x ∈ scope.names, x.2 ≠ .cell) (hco : scope.isCoroutine = false) (hgen : scope.isGenerator = false) (hk : scope.kind = .function) : codeAny (model Challenge.rw_bi0032_01.row.prog w) A (.call (.ref f) args) Rz s :=
  call_sub (cl := []) C N ((C.k.keeps C.fr.keep) _ _ ho) rfl (codeRec_of (C.k.keeps C.fr.keep) hcd) hroom hbind hloc (fun a1 a2 a3 a4 a5 a6 a7 a8 a9 a10 a11 a12 a13 a14 a15 a16 a17 a18 => h a1 a2 a3 a4 a5 a6 a7 a8 a9 a10 a11 a12 a13 a14 a15 a16 a17 a18) hcell hco hgen hk
end
end Mine
theorem Mine.freshBase2 : True ∧ True := by w_top off; first | (walk1; all_goals trivial) | exact ⟨trivial, trivial⟩
-- part Base3
namespace Mine
open PySem PySem.W PyProof.Rows PySem.Calls

def ins (S : List (List UInt8)) (x : List UInt8) : List (List UInt8) := if x ∈ S then S else S ++ [x]
def num (S : List (List UInt8)) (x : List UInt8) : Nat := S.idxOf x + 1
def hh (S : List (List UInt8)) (x : List UInt8) : Array UInt8 := enc (num S x)

def SeenObj (w : World) (o : Obj) (S : List (List UInt8)) : Prop :=
  ∃ kvs : List (List UInt8 × Value), o.IsDictOf (BK w) kvs ∧ kvs.map (·.1) = S ∧ ∀ i k v, kvs[i]? = some (k, v) → ∃ t, v = Value.int ((i + 1 : Nat) : Int) t

def AllAt (H : List (Addr × Obj)) (h : Heap) : Prop := ∀ q ∈ H, h.get? q.1 = some q.2
theorem AllAt.keeps {H : List (Addr × Obj)} {h h' : Heap} (x : AllAt H h) (k : ∀ b o, h.get? b = some o → h'.get? b = some o) : AllAt H h' := fun q hq => k _ _ (x q hq)
theorem AllAt.tch {H : List (Addr × Obj)} {h h' : Heap} {R : List Addr} (x : AllAt H h) (k : Tch R h h') (hn : ∀ q ∈ H, q.1 ∉ R) : AllAt H h' := fun q hq => k _ _ (x q hq) (hn q hq)

theorem ins_le (S : List (List UInt8)) (x : List UInt8) : (ins S x).length ≤ S.length + 1 := by
  unfold ins; split
  · exact Nat.le_succ _
  · rw [List.length_append]; exact Nat.le_refl _

def HashSpec (w : World) (p : Program) (loose : List Str) (mean : ExcName → Option Value) (mg mb : Str → Option Value) (H : List (Addr × Obj)) (f dS : Addr) : Prop :=
  ∀ (A : Around) (s : Shared) (h₀ : Heap) (L : Addr) (m : Str → Option Value) (Q E : Value → Shared → Prop) (news : List (Addr × Obj)) (g : Obj → List (Addr × Obj)) (oS : Obj) (S : List (List UInt8)) (b : Array UInt8) (t : Tok),
    Cx w p loose mean mg mb A s.heap h₀ L m → A.depth + 10 < recursionLimit → A.units + 100 < cLine →
    News h₀ L s.heap news → AllAt H s.heap → UpdF dS oS news g → SeenObj w oS S → S.length < 100000 →
    (∀ h' oS' t' tk', Fr h₀ L h' m → News h₀ L h' (g oS') → SeenObj w oS' (ins S b.toList) → Q (.bytes (hh (ins S b.toList) b.toList) t') { s with heap := h', toks := tk' }) →
    wpAny (model Challenge.rw_bi0032_01.row.prog w) A (call (.ref f) [.bytes b t]) Q E s

theorem hash_use {w : World} {p : Program} {loose : List Str} {mean : ExcName → Option Value} {mg mb : Str → Option Value} {H : List (Addr × Obj)} {f dS : Addr} {A : Around} {s : Shared} {h₀ : Heap} {L : Addr} {m : Str → Option Value} {Q E : Value → Shared → Prop} {news : List (Addr × Obj)} {g : Obj → List (Addr × Obj)} {oS : Obj} {S : List (List UInt8)} {b : Array UInt8} {t : Tok}
    (HS : HashSpec w p loose mean mg mb H f dS) (C : Cx w p loose mean mg mb A s.heap h₀ L m) (hd : A.depth + 10 < recursionLimit) (hu : A.units + 100 < cLine)
    (N : News h₀ L s.heap news) (hH : AllAt H s.heap) (U : UpdF dS oS news g) (hS : SeenObj w oS S) (hl : S.length < 100000)
    (ret : ∀ h' oS' t' tk', Fr h₀ L h' m → News h₀ L h' (g oS') → SeenObj w oS' (ins S b.toList) → (ins S b.toList).length ≤ S.length + 1 → Q (.bytes (hh (ins S b.toList) b.toList) t') { s with heap := h', toks := tk' }) :
    wpAny (model Challenge.rw_bi0032_01.row.prog w) A (call (.ref f) [.bytes b t]) Q E s :=
  HS A s h₀ L m Q E news g oS S b t C hd hu N hH U hS hl fun h' oS' t' tk' F N' x => ret h' oS' t' tk' F N' x (ins_le _ _)

theorem idxOf_map_fst {kvs : List (List UInt8 × Value)} {k : List UInt8} {v : Value} (h : PySem.valueAt kvs k = some v) :
    ∃ i, kvs[i]? = some (k, v) ∧ (kvs.map (·.1)).idxOf k = i ∧ k ∈ kvs.map (·.1) := by
  induction kvs with
  | nil => simp [valueAt] at h
  | cons a l ih =>
    obtain ⟨a1, a2⟩ := a
    by_cases e : a1 = k
    · subst e
      have : a2 = v := by simpa [valueAt] using h
      subst this
      exact ⟨0, rfl, by simp, by simp⟩
    · have h' : PySem.valueAt l k = some v := by
        unfold valueAt at h ⊢
        rw [List.find?_cons_of_neg (by simpa using e)] at h
        exact h
      obtain ⟨i, h1, h2, h3⟩ := ih h'
      refine ⟨i + 1, by simpa using h1, ?_, by simp at h3 ⊢; exact .inr h3⟩
      rw [List.map_cons, List.idxOf_cons]
      have : (a1 == k) = false := by simpa using e
      rw [this]
      simp only [cond_false, h2]
theorem valueAt_none_iff {kvs : List (List UInt8 × Value)} {k : List UInt8} (h : (PySem.valueAt kvs k).isSome = false) : k ∉ kvs.map (·.1) := by
  intro hm
  obtain ⟨⟨a, v⟩, hp, rfl⟩ := List.mem_map.mp hm
  unfold valueAt at h
  have : kvs.find? (fun kv => kv.1 = a) = none := by
    cases q : kvs.find? (fun kv => kv.1 = a) with
    | none => rfl
    | some z => rw [q] at h; cases h
  have := List.find?_eq_none.mp this _ hp
  simp at this
end Mine
theorem Mine.freshBase3 : True ∧ True := by w_top off; first | (walk1; all_goals trivial) | exact ⟨trivial, trivial⟩
-- part RevF
namespace Mine
open PySem PySem.W PyProof.Rows PySem.Calls
namespace RF
theorem slot_next : Slot "reversed" "__next__" "reversed.__next__" :=
  .of (owner := "reversed") (n := "__next__") (by rw [typeLookup_type, builtinLookup_eq_fast]; kernel_rfl) (by decide +kernel) (by decide +kernel) (by decide +kernel)
    (by first | exact .inl (by decide +kernel) | exact .inr (by decide +kernel)) (by rw [isSubtype_type]; kernel_rfl)
theorem entry_next : entryFor table "reversed.__next__" = some Builtin.«reversed.__next__» := entryFor_of_tree (by kernel_rfl)
theorem args_next (a : Value) : argsOk "reversed.__next__" ⟨[a], []⟩ := by unfold argsOk; kernel_rfl
theorem slot_iter : Slot "reversed" "__iter__" "reversed.__iter__" :=
  .of (owner := "reversed") (n := "__iter__") (by rw [typeLookup_type, builtinLookup_eq_fast]; kernel_rfl) (by decide +kernel) (by decide +kernel) (by decide +kernel)
    (by first | exact .inl (by decide +kernel) | exact .inr (by decide +kernel)) (by rw [isSubtype_type]; kernel_rfl)
theorem slot_init : Slot "reversed" "__init__" "object.__init__" :=
  .of (owner := "object") (n := "__init__") (by rw [typeLookup_type, builtinLookup_eq_fast]; kernel_rfl) (by decide +kernel) (by decide +kernel) (by decide +kernel)
    (by first | exact .inl (by decide +kernel) | exact .inr (by decide +kernel)) (by rw [isSubtype_type]; kernel_rfl)
theorem args_iter (a : Value) : argsOk "reversed.__iter__" ⟨[a], []⟩ := by unfold argsOk; kernel_rfl
theorem entry_iter : entryFor table "reversed.__iter__" = some Builtin.«dict_keyiterator.__iter__» :=
  entryFor_alias (id' := "dict_keyiterator.__iter__") (by kernel_rfl) (by first | rfl | decide +kernel | (unfold String.splitOn; simp +decide [String.splitOnAux])) (by decide +kernel) (by kernel_rfl)
theorem tup_noRev : typeLookup (.type "tuple") "__reversed__" = pure none := by rw [typeLookup_type, builtinLookup_eq_fast]; kernel_rfl
theorem sub_tuple_dict : isSubtype (.type "tuple") (.type "dict") = pure false := by rw [isSubtype_type]; kernel_rfl
theorem called : TypeCalled "reversed" "reversed.__new__" "object.__init__" :=
  ⟨by decide +kernel, by decide +kernel, ⟨_, _, F.mro_reversed⟩, F.made_reversed, by decide +kernel, F.sub_reversed_self, slot_init⟩
end RF

end Mine
theorem Mine.freshRevF : True ∧ True := by w_top off; first | (walk1; all_goals trivial) | exact ⟨trivial, trivial⟩
-- part RevT
namespace Mine
open PySem PySem.W PyProof.Rows PySem.Calls
def revT (l : Addr) (i : Int) : Obj := { cls := .type "reversed", data := .fields #[.ref l, rawInt i] }
def IsRevT (h : Heap) (a l : Addr) (i : Int) : Prop := ∃ o, h.get? a = some o ∧ o.cls = .type "reversed" ∧ o.data = .fields #[.ref l, rawInt i]
theorem IsRevT.typeIs {s : Shared} {a l : Addr} {i : Int} (x : IsRevT s.heap a l i) : s.TypeIs (.ref a) "reversed" := let ⟨o, ho, hc, _⟩ := x; ⟨o, ho, hc⟩
theorem IsRevT.at {h h' : Heap} {a l : Addr} {i : Int} (x : IsRevT h a l i) (e : ∀ o, h.get? a = some o → h'.get? a = some o) : IsRevT h' a l i := let ⟨o, ho, r⟩ := x; ⟨o, e _ ho, r⟩

theorem meets_new (l : Addr) (items : Array Value) (hsz : items.size < 1000) :
    Meets (Builtin.«reversed.__new__» ⟨[.type "reversed", .ref l], []⟩) (fun _ R s => IsTup s.heap l items ∧ ∀ tk, R (.ok (.ret (.ref s.heap.objs.size))) { s with heap := s.heap.push (revT l ((items.size : Int) - 1)), toks := tk }) :=
  .of_wp fun prog w A R s h => by
    obtain ⟨ht, h⟩ := h
    unfold Builtin.«reversed.__new__»
    refine wpAny_bind (wpAny_of_eq (newClass_reversed _) ?_)
    try dsimp only
    refine wpAny_bind (wpAny_of_eq (a := ()) (by first | rfl | kernel_rfl) ?_)
    refine wpAny_bind (wpAny_of_eq (a := ()) (by first | rfl | kernel_rfl) ?_)
    try dsimp only
    refine wpAny_bind (wpAny_specialOf ht.typeIs RF.tup_noRev ?_)
    try dsimp only
    refine wpAny_bind ?_
    show wpAny _ _ (isInstance (.ref l) (.type "dict") >>= fun b => _) _ _ _
    refine wpAny_bind (wpAny_isInstance ht.typeIs RF.sub_tuple_dict ?_)
    simp only [Bool.false_eq_true, if_false]
    refine wpAny_bind (wpAny_specialOf ht.typeIs F.slot_tuple_getitem.lookup ?_)
    try dsimp only
    refine wpAny_ite_true (by decide) ?_
    refine wpAny_pure ?_
    refine KTBy.if_not rfl ?_
    refine wpAny_bind (len_tuple ht (by omega) ?_)
    refine wpAny_bind (wpAny_of_eq (a := some (items.size : Int)) rfl ?_)
    try dsimp only
    refine wpAny_bind (m := Builtin.SmallTypes.newRecord (.type "reversed") [.ref l, rawInt ((items.size : Int) - 1)]) (show wpAny _ _ (newObj (.type "reversed") (.fields #[.ref l, rawInt ((items.size : Int) - 1)])) _ _ _ from wpAny_newObj_type ?_)
    exact wpAny_pure ⟨_, rfl, h _⟩

section
variable {prog : Program} {w : World} {A : Around} {E : Value → Shared → Prop} {s : Shared}
theorem call_revT {l : Addr} {items : Array Value} {Q : Value → Shared → Prop} (ht : IsTup s.heap l items) (hsz : items.size < 1000)
    (h : ∀ tk, Q (.ref s.heap.objs.size) { s with heap := s.heap.push (revT l ((items.size : Int) - 1)), toks := tk }) :
    wpAny (model prog w) A (call (.type "reversed") [.ref l]) Q E s := by
  refine callType_new RF.called (by decide) (F.typeCall_reversed_1 _) (F.newCall_reversed_1 _) (fun obj => F.args_object_init_2 obj _) F.entry_reversed_new
    (meets_new l items hsz) ⟨ht, fun tk => ⟨⟨_, Heap.get?_push_size _ rfl, rfl⟩, h tk⟩⟩

/-- the exception that is being handled, if one is, has no exception before it -/
def HOk (hnd : Option Value) (h : Heap) : Prop := hnd = none ∨ ∃ e oe ws, hnd = some (.ref e) ∧ h.get? e = some oe ∧ oe.data = .fields ws ∧ ws[2]? = some .none
def hndA (hnd : Option Value) : List Addr := match hnd with | some (.ref e) => [e] | _ => []
theorem HOk.at {hnd : Option Value} {h h' : Heap} (x : HOk hnd h) (e : ∀ b ∈ hndA hnd, ∀ o, h.get? b = some o → h'.get? b = some o) : HOk hnd h' := by
  rcases x with x | ⟨a, oe, ws, hx, ho, hd, hw⟩
  · exact .inl x
  · exact .inr ⟨a, oe, ws, hx, e a (by rw [hx]; exact .head _) _ ho, hd, hw⟩

theorem rev_item {it l : Addr} {i : Nat} {items : Array Value} {x : Value} {Q : Option Value → Shared → Prop} (hit : IsRevT s.heap it l (i : Int)) (hl : IsTup s.heap l items) (hx : items[i]? = some x) (hsz : items.size < 1000)
    (hQ : ∀ h' tk, IsRevT h' it l ((i : Int) - 1) → Heap.SameBut it s.heap h' → Q (some x) { s with heap := h', toks := tk }) : wpAny (model prog w) A (pyNext (.ref it)) Q E s := by
  obtain ⟨o, ho, hc, hd⟩ := id hit
  have hi : i < items.size := by
    rcases Nat.lt_or_ge i items.size with h | h
    · exact h
    · rw [Array.getElem?_eq_none h] at hx; cases hx
  unfold pyNext
  refine wpAny_bind (wpAny_attempt (wpAny_callSpecial?_slot (name := Str.ofString "__next__") hit.typeIs RF.slot_next
    (wpAny_call_entry RF.slot_next hit.typeIs RF.entry_next ?_ (RF.args_next _))))
  unfold Builtin.«reversed.__next__»
  refine wpAny_bind (wpAny_of_eq (a := (Value.ref it, [])) rfl ?_)
  try dsimp only
  refine wpAny_bind (wpAny_field ho hd (x := .ref l) rfl ?_)
  refine wpAny_bind (wpAny_field ho hd (x := rawInt (i : Int)) rfl ?_)
  show wpAny _ _ (if (i : Int) < 0 then _ else _) _ _ s
  rw [if_neg (by omega)]
  refine wpAny_bind (wpAny_specialOf hl.typeIs F.slot_tuple_getitem.lookup ?_)
  refine KTBy.if_not rfl ?_
  refine wpAny_bind (wpAny_mkInt ?_)
  refine wpAny_bind (wpAny_attempt ?_)
  refine getItem_tuple hl (by omega) (by omega) (j := i) (x := x) ?_ hx ?_
  · have hn : ¬ (i : Int) < 0 := by omega
    simp [seqIndex?, hn, hi]
  try dsimp only
  refine wpAny_bind (wpAny_field (s := { s with toks := s.toks + 1 }) ho hd (x := rawInt (i : Int)) rfl ?_)
  try dsimp only [rawInt]
  refine wpAny_bind (wpAny_setField (s := { s with toks := s.toks + 1 }) ho hd (by simp) ?_)
  refine wpAny_pure ⟨x, rfl, wpAny_pure (hQ _ _ ?_ (Heap.SameBut.update ..))⟩
  exact ⟨_, Heap.get?_update_self _ ho (Obj.isFreed_of_fields (Obj.data_mapFields hd _)), (Obj.cls_mapFields ..).trans hc, by
    rw [Obj.data_mapFields hd]; simp [rawInt]⟩

theorem stop_raise {α : Type} {Qa : α → Shared → Prop} {Q : Value → Shared → Prop} {hnd : Option Value} (hh : A.handled = hnd) (ok : HOk hnd s.heap) (hnb : hnd ≠ some byPass)
    (h : ∀ e h' tk, (∃ o, h'.get? e = some o ∧ o.cls = .type "StopIteration") → (∀ b o, s.heap.get? b = some o → h'.get? b = some o) → Q (.ref e) { s with heap := h', toks := tk }) :
    wpAny (model prog w) A (Builtin.SmallTypes.stopIteration : Sem α) Qa Q s := by
  unfold Builtin.SmallTypes.stopIteration
  refine wpAny_bind ?_
  simp only [newExc, newTuple]
  refine wpAny_bind (wpAny_newObj_type ?_ (by size_fits))
  refine wpAny_bind (m := firstArgMember _ _) (wpAny_of_eq (a := Value.none) (by first | rfl | (simp only [firstArgMember]; rfl)) ?_)
  refine wpAny_newObj_type ?_ (by size_fits)
  simp only [raiseNew]
  refine wpAny_bind (wpAny_handled ?_)
  rw [hh]
  rcases ok with rfl | ⟨x, oe, ws, rfl, ho, hd, hw⟩
  · refine wpAny_bind (wpAny_pure (wpAny_throw ?_))
    exact h _ _ _ ⟨_, Heap.get?_push_size _ rfl, rfl⟩ fun b o e => Heap.get?_push_of_some _ (Heap.get?_push_of_some _ e)
  · try dsimp only
    generalize hH : (s.heap.push { cls := Value.type "tuple", data := Data.seq #[] }) = H1
    have hx1 : H1.get? x = some oe := by rw [← hH]; exact Heap.get?_push_of_some _ ho
    have hlt := Heap.lt_size hx1
    rw [if_pos (by simp only [bne_iff_ne, ne_eq, Value.ref.injEq]; exact Nat.ne_of_lt hlt)]
    generalize hO : ({ cls := Value.type "StopIteration", data := Data.fields _ } : Obj) = oN
    have hNc : oN.cls = .type "StopIteration" := by rw [← hO]
    have hNf : ∃ vs, oN.data = .fields vs ∧ 2 < vs.size := by
      rw [← hO]
      refine ⟨_, rfl, ?_⟩
      simp only [Array.size_append]
      show 2 < 6 + _
      omega
    obtain ⟨vN, hN1, hN2⟩ := hNf
    have hfree : oN.isFreed = false := Obj.isFreed_of_fields hN1
    have hx2 : (H1.push oN).get? x = some oe := Heap.get?_push_of_some _ hx1
    have hn2 : (H1.push oN).get? H1.objs.size = some oN := Heap.get?_push_size _ hfree
    have old : ∀ b o, s.heap.get? b = some o → b ≠ H1.objs.size ∧ (H1.push oN).get? b = some o := fun b o e => by
      have e1 : H1.get? b = some o := by rw [← hH]; exact Heap.get?_push_of_some _ e
      exact ⟨Nat.ne_of_lt (Heap.lt_size e1), Heap.get?_push_of_some _ e1⟩
    refine wpAny_bind (wpAny_holding (wpAny_runValue (codeAny_builtin (b := Builtin.«proto.unchain») (entryFor_of_tree (by kernel_rfl)) ?_)))
    rw [Around.under_plainId (by decide +kernel)]
    unfold Builtin.«proto.unchain»
    try dsimp only
    refine wpAny_bind (wpAny_field hx2 hd hw ?_)
    refine wpAny_ite_true (by decide) ?_
    refine wpAny_bind (wpAny_pure (wpAny_pure ?_))
    try dsimp only
    refine wpAny_bind ?_
    unfold updateField
    refine wpAny_bind (wpAny_load hn2 ?_)
    rw [hN1]
    show wpAny _ _ (if 2 < vN.size then _ else _) _ _ _
    rw [if_pos hN2]
    refine wpAny_update hn2 (wpAny_throw (h _ _ _ ⟨_, Heap.get?_update_self _ hn2 (Obj.isFreed_of_fields (Obj.data_mapFields hN1 _)), (Obj.cls_mapFields ..).trans hNc⟩ fun b o e => ?_))
    exact (Heap.get?_update_ne _ _ _ _ (old b o e).1).trans (old b o e).2

theorem rev_end {it l : Addr} {hnd : Option Value} {Q : Option Value → Shared → Prop} (hh : A.handled = hnd) (ok : HOk hnd s.heap) (hoff : it ∉ hndA hnd) (hnb : hnd ≠ some byPass) (hit : IsRevT s.heap it l (-1))
    (hQ : ∀ h' tk, Heap.ExtBut it s.heap h' → Q none { s with heap := h', toks := tk }) : wpAny (model prog w) A (pyNext (.ref it)) Q E s := by
  obtain ⟨o, ho, hc, hd⟩ := id hit
  unfold pyNext
  refine wpAny_bind (wpAny_attempt (wpAny_callSpecial?_slot (name := Str.ofString "__next__") hit.typeIs RF.slot_next
    (wpAny_call_entry RF.slot_next hit.typeIs RF.entry_next ?_ (RF.args_next _))))
  unfold Builtin.«reversed.__next__»
  refine wpAny_bind (wpAny_of_eq (a := (Value.ref it, [])) rfl ?_)
  try dsimp only
  refine wpAny_bind (wpAny_field ho hd (x := .ref l) rfl ?_)
  refine wpAny_bind (wpAny_field ho hd (x := rawInt (-1)) rfl ?_)
  show wpAny _ _ (if (-1 : Int) < 0 then _ else _) _ _ s
  rw [if_pos (by decide)]
  refine wpAny_bind (wpAny_rule ?_)
  refine wpAny_bind ?_
  show wpAny _ _ (setField (.ref it) 1 (rawInt (-1)) >>= fun _ => setField (.ref it) 0 .none) _ _ _
  refine wpAny_bind (wpAny_setField ho hd (by simp) ?_)
  have ho1 : (s.heap.update it (Obj.mapFields (·.setIfInBounds 1 (rawInt (-1))))).get? it = some (Obj.mapFields (·.setIfInBounds 1 (rawInt (-1))) o) :=
    Heap.get?_update_self _ ho (Obj.isFreed_of_fields (Obj.data_mapFields hd _))
  have hd1 := Obj.data_mapFields hd (·.setIfInBounds 1 (rawInt (-1)))
  refine wpAny_setField (s := { s with heap := s.heap.update it (Obj.mapFields (·.setIfInBounds 1 (rawInt (-1)))) }) ho1 hd1 (by simp) ?_
  generalize hH : ((s.heap.update it (Obj.mapFields (·.setIfInBounds 1 (rawInt (-1))))).update it (Obj.mapFields (·.setIfInBounds 0 .none))) = H2
  have ext : Heap.ExtBut it s.heap H2 := fun b x hb e => by
    rw [← hH, Heap.get?_update_ne _ _ _ _ hb, Heap.get?_update_ne _ _ _ _ hb]; exact e
  have ok2 : HOk hnd H2 := ok.at fun b hb x e => ext b x (fun q => hoff (q ▸ hb)) e
  refine wpAny_bind (stop_raise (A := A.in1) (s := { s with heap := H2 }) (hnd := hnd) hh ok2 hnb fun a h' tk ⟨oe, he, hce⟩ hk => ?_)
  refine wpAny_bind (wpAny_isInstance (T := "StopIteration") (b := true) ⟨oe, he, hce⟩ isSubtype_stop ?_)
  exact wpAny_pure (hQ _ _ fun b x hb e => hk _ _ (ext b x hb e))

theorem rev_self {it l : Addr} {i : Int} {Q : Value → Shared → Prop} (hit : IsRevT s.heap it l i) (h : Q (.ref it) s) : wpAny (model prog w) A (pyIter (.ref it)) Q E s := by
  refine wpAny_pyIter_slot hit.typeIs RF.slot_iter (wpAny_call_entry RF.slot_iter hit.typeIs RF.entry_iter ?_ (RF.args_iter _))
  show wpAny _ _ (ret (.ref it)) _ _ s
  exact wpAny_pure ⟨_, rfl, "reversed", _, hit.typeIs, RF.slot_next.lookup, h⟩
end

theorem walks_revT {prog : Program} {w : World} {A : Around} {hnd : Option Value} (hh : A.handled = hnd) (hnb : hnd ≠ some byPass) (I l : Addr) (hne : l ≠ I) (hoff : I ∉ hndA hnd) (items : Array Value) (hsz : items.size < 1000) :
    Walks prog w A I (I :: l :: hndA hnd) [I] items.size (fun i v => items[items.size - 1 - i]? = some v) (fun i h => i ≤ items.size ∧ IsRevT h I l ((items.size : Int) - 1 - (i : Int)) ∧ IsTup h l items ∧ HOk hnd h) where
  sub := fun b hb => by simp at hb; simp [hb]
  frame := fun _ _ _ x hk => ⟨x.1, x.2.1.at fun o e => hk I (by simp) o e, (let ⟨o, ho, r⟩ := x.2.2.1; ⟨o, hk l (by simp) o ho, r⟩), x.2.2.2.at fun b hb o e => hk b (by simp [hb]) o e⟩
  item := fun i s Q E hi x hQ => by
    have e : (items.size : Int) - 1 - (i : Int) = ((items.size - 1 - i : Nat) : Int) := by omega
    have hit := x.2.1
    rw [e] at hit
    have hx : items[items.size - 1 - i]? = some (items[items.size - 1 - i]'(by omega)) := Array.getElem?_eq_getElem (by omega)
    refine rev_item hit x.2.2.1 hx hsz fun h' tk hit' hs' => ?_
    have e2 : ((items.size - 1 - i : Nat) : Int) - 1 = (items.size : Int) - 1 - ((i + 1 : Nat) : Int) := by omega
    rw [e2] at hit'
    have ex := hs'.extBut
    exact hQ _ h' tk hx ⟨hi, hit', x.2.2.1.extBut ex hne, x.2.2.2.at fun b hb o eo => ex b o (fun q => hoff (q ▸ hb)) eo⟩ fun b o hb eo => ex b o (fun h => hb (by simp [h])) eo
  done := fun s Q E x hQ => by
    have e : (items.size : Int) - 1 - (items.size : Int) = -1 := by omega
    have hit := x.2.1
    rw [e] at hit
    exact rev_end hh x.2.2.2 hoff hnb hit fun h' tk he' => hQ h' tk fun b o hb eo => he' b o (fun h => hb (by simp [h])) eo
  self := fun _ _ _ _ x hQ => rev_self x.2.1 hQ
end Mine
theorem Mine.freshRevT : True ∧ True := by w_top off; first | (walk1; all_goals trivial) | exact ⟨trivial, trivial⟩
-- part Small
namespace Mine
open PySem PySem.W PyProof.Rows PySem.Calls
local macro_rules | `(tactic| k_room) => `(tactic| ((simp only [depth_under_make, depth_under_kw, depth_in1, depth_deeper, depth_caller]); (try dsimp only [AA] at *); omega))
local macro_rules | `(tactic| k_units) => `(tactic| ((simp only [units_in1, units_deeper, Around.mark_units, units_caller]); (try dsimp only [AA] at *); omega))
-- enter a def of the top with the ledger at hand
local macro_rules | `(tactic| walk_at "m_enter") => `(tactic| (
  refine' call_subK (by assumption) (by assumption) ?k1 ?k2 ?k3 ?k4 ?k5 ?_ ?k6 ?k7 ?k8 ?k9
  (case k1 => k_is)
  (case k2 => k_is)
  (case k3 => k_room)
  (case k4 => exact BindsTo.of_eq rfl)
  (case k5 => exact locs rfl)
  (case k6 => decide)
  (case k7 => exact rfl)
  (case k8 => exact rfl)
  (case k9 => exact rfl)))

theorem news_tch {h₀ h h' : Heap} {L : Addr} {news : List (Addr × Obj)} {R : List Addr} (N : News h₀ L h news) (T : Tch R h h') (hn : ∀ p ∈ news, p.1 ∉ R) : News h₀ L h' news :=
  fun p hp => ⟨T _ _ (N p hp).1 (hn p hp), (N p hp).2⟩
theorem leaveM {h₀ h g : Heap} {L L' : Addr} {m m' : Str → Option Value} {R R' : List (Addr × Obj)} {P : Value → Shared → Prop} {v : Value} {s' : Shared} (F' : Fr g L' s'.heap m') (N' : News g L' s'.heap R')
    (k : Fr h₀ L s'.heap m → Tch (R.map (·.1)) h s'.heap → (∀ p ∈ R', s'.heap.get? p.1 = some p.2) → (∀ p ∈ R', p.1 ∉ R.map (·.1) → p.1 ≠ L ∧ h.get? p.1 = none) → P v s') : LeaveM h₀ L m R h g P v s' := ⟨L', m', R', F', N', k⟩

section
variable {prog : Program} {w : World} {A : Around} {E : Value → Shared → Prop} {s : Shared} {h₀ g₀ : Heap} {L : Addr} {m : Str → Option Value}
theorem len_b1 {b : UInt8} {t : Tok} {Q : Value → Shared → Prop} (h : Q (.int 1 (s.toks + 1)) { s with toks := s.toks + 1 + 1 }) : wpAny (model prog w) A (call (.builtin "len") [.bytes #[b] t]) Q E s :=
  len_bytes (by show 1 ≤ 1099511627776; decide) h
theorem len_tupB {t : Addr} {vs : List Value} {Q : Value → Shared → Prop} (F : Fr h₀ L s.heap m) (ht : IsTup h₀ t vs.toArray) (hn : vs.length = 8) (h : Q (.int 8 (s.toks + 1)) { s with toks := s.toks + 1 + 1 }) : wpAny (model prog w) A (call (.builtin "len") [.ref t]) Q E s :=
  len_tuple (ht.keeps F.keep) (by rw [List.size_toArray, hn]; decide) (by rw [List.size_toArray, hn]; exact h)
end
local macro_rules | `(tactic| walk_at "call builtin:len") => `(tactic| (k_here; first
  | ((with_reducible show wpAny _ _ (call (Value.builtin "len") [Value.bytes _ _]) _ _ _); refine len_b1 ?_)
  | ((with_reducible show wpAny _ _ (call (Value.builtin "len") [Value.ref _]) _ _ _); refine len_tupB (by assumption) (by assumption) (by assumption) ?_)))
section
variable {w : World} {p : Program} {loose : List Str} {mean : ExcName → Option Value} {mg mb : Str → Option Value} {A : Around} {s : Shared} {h₀ : Heap} {L : Addr} {m : Str → Option Value} {Q E : Value → Shared → Prop} {news : List (Addr × Obj)}
theorem vib_spec {b : Array UInt8} {t : Tok} (C : Cx w p loose mean mg mb A s.heap h₀ L m) (hdp : A.depth + 5 < recursionLimit) (hun : A.units + 50 < cLine) (N : News h₀ L s.heap news)
    (ret : ∀ h' tk', Fr h₀ L h' m → News h₀ L h' news → Tch [] s.heap h' → Q (.none) { s with heap := h', toks := tk' }) :
    wpAny (model Challenge.rw_bi0032_01.row.prog w) A (call (.ref 62) [.bytes b t]) Q E s := by
  obtain ⟨hnd, dp, un, gd, env, outer, rfl⟩ := C.shape
  dsimp only [AA] at hdp hun
  have X := C.k; revert X; k_fill; intro X
  have N0 : News h₀ L s.heap [] := News.nil
  refine wpAny_call ?_
  walk_at "m_enter"
  intro _ _ _ _ _ _ base g' L' h' hA F' N' B' X' T' Tg' lt'
  cases hA
  (try dsimp only); (try k_fold)
  k_steps
  all_goals exact leaveM (R := []) (by assumption) (by assumption) fun F T _ _ => ret _ _ F (news_tch N T fun _ _ => by simp) T

theorem cast_spec {k v : Value} (C : Cx w p loose mean mg mb A s.heap h₀ L m) (hdp : A.depth + 5 < recursionLimit) (hun : A.units + 50 < cLine) (N : News h₀ L s.heap news)
    (ret : ∀ h' tk', Fr h₀ L h' m → News h₀ L h' news → Tch [] s.heap h' → Q (v) { s with heap := h', toks := tk' }) :
    wpAny (model Challenge.rw_bi0032_01.row.prog w) A (call (.ref 35) [k, v]) Q E s := by
  obtain ⟨hnd, dp, un, gd, env, outer, rfl⟩ := C.shape
  dsimp only [AA] at hdp hun
  have X := C.k; revert X; k_fill; intro X
  have N0 : News h₀ L s.heap [] := News.nil
  refine wpAny_call ?_
  walk_at "m_enter"
  intro _ _ _ _ _ _ base g' L' h' hA F' N' B' X' T' Tg' lt'
  cases hA
  (try dsimp only); (try k_fold)
  k_steps
  all_goals exact leaveM (R := []) (by assumption) (by assumption) fun F T _ _ => ret _ _ F (news_tch N T fun _ _ => by simp) T

theorem vlb_spec {b : UInt8} {t u : Tok} (C : Cx w p loose mean mg mb A s.heap h₀ L m) (hdp : A.depth + 5 < recursionLimit) (hun : A.units + 50 < cLine) (N : News h₀ L s.heap news)
    (ret : ∀ h' tk', Fr h₀ L h' m → News h₀ L h' news → Tch [] s.heap h' → Q (.none) { s with heap := h', toks := tk' }) :
    wpAny (model Challenge.rw_bi0032_01.row.prog w) A (call (.ref 69) [.bytes #[b] t, .int 1 u]) Q E s := by
  obtain ⟨hnd, dp, un, gd, env, outer, rfl⟩ := C.shape
  dsimp only [AA] at hdp hun
  have X := C.k; revert X; k_fill; intro X
  have N0 : News h₀ L s.heap [] := News.nil
  refine wpAny_call ?_
  walk_at "m_enter"
  intro _ _ _ _ _ _ base g' L' h' hA F' N' B' X' T' Tg' lt'
  cases hA
  (try dsimp only); (try k_fold)
  k_steps
  all_goals exact leaveM (R := []) (by assumption) (by assumption) fun F T _ _ => ret _ _ F (news_tch N T fun _ _ => by simp) T

theorem vlt_spec {tb : Addr} {vs : List Value} {u : Tok} (C : Cx w p loose mean mg mb A s.heap h₀ L m) (hdp : A.depth + 5 < recursionLimit) (hun : A.units + 50 < cLine) (N : News h₀ L s.heap news)
    (ht : IsTup s.heap tb vs.toArray) (hn : vs.length = 8)
    (ret : ∀ h' tk', Fr h₀ L h' m → News h₀ L h' news → Tch [] s.heap h' → Q (.none) { s with heap := h', toks := tk' }) :
    wpAny (model Challenge.rw_bi0032_01.row.prog w) A (call (.ref 69) [.ref tb, .int 8 u]) Q E s := by
  obtain ⟨hnd, dp, un, gd, env, outer, rfl⟩ := C.shape
  dsimp only [AA] at hdp hun
  have X := C.k; revert X; k_fill; intro X
  have N0 : News h₀ L s.heap [] := News.nil
  refine wpAny_call ?_
  walk_at "m_enter"
  intro _ _ _ _ _ _ base g' L' h' hA F' N' B' X' T' Tg' lt'
  cases hA
  have ht' : IsTup g' tb vs.toArray := let ⟨o, ho, r⟩ := ht; ⟨o, Tg' _ _ ho (by simp), r⟩
  (try dsimp only); (try k_fold)
  k_steps
  all_goals exact leaveM (R := []) (by assumption) (by assumption) fun F T _ _ => ret _ _ F (news_tch N T fun _ _ => by simp) T

theorem toint_spec {b : UInt8} {t : Tok} (C : Cx w p loose mean mg mb A s.heap h₀ L m) (hdp : A.depth + 5 < recursionLimit) (hun : A.units + 50 < cLine) (N : News h₀ L s.heap news)
    (ret : ∀ h' tk' t', Fr h₀ L h' m → News h₀ L h' news → Tch [] s.heap h' → Q (.int (b.toNat : Int) t') { s with heap := h', toks := tk' }) :
    wpAny (model Challenge.rw_bi0032_01.row.prog w) A (call (.ref 42) [.bytes #[b] t]) Q E s := by
  obtain ⟨hnd, dp, un, gd, env, outer, rfl⟩ := C.shape
  dsimp only [AA] at hdp hun
  have X := C.k; revert X; k_fill; intro X
  have N0 : News h₀ L s.heap [] := News.nil
  refine wpAny_call ?_
  walk_at "m_enter"
  intro _ _ _ _ _ _ base g' L' h' hA F' N' B' X' T' Tg' lt'
  cases hA
  (try dsimp only); (try k_fold)
  k_steps
  all_goals rw [show (0 * 256 + (b.toNat : Int)) = (b.toNat : Int) by omega]
  all_goals exact leaveM (R := []) (by assumption) (by assumption) fun F T _ _ => ret _ _ _ F (news_tch N T fun _ _ => by simp) T

end
end Mine
theorem Mine.freshSmall : True ∧ True := by w_top off; first | (walk1; all_goals trivial) | exact ⟨trivial, trivial⟩
-- part Rules
namespace Mine
open PySem PySem.W PyProof.Rows PySem.Calls

theorem mkCx {w : World} {p : Program} {loose : List Str} {mean : ExcName → Option Value} {mg mb : Str → Option Value} {A A₀ : Around} {h h₀ base : Heap} {L : Addr} {m : Str → Option Value} {env : Env} {outer : List Env}
    (F : Fr h₀ L h m) (B : Below A₀ base outer h₀) (X : (hd.heap_39 w.params).In h₀) (T : Top p loose mean mg mb h₀) (hA : A.frames = some (env :: outer)) (hf : env.frame = some L) (hk : env.scope.kind = .function) : Cx w p loose mean mg mb A h h₀ L m :=
  ⟨⟨A₀, base, outer, env, B, hA, hf, hk⟩, F, X, T⟩

def IsFnIn (f : Addr) (H : List (Addr × Obj)) : Prop := ∃ oc od fd sl, (f, (⟨oc, od, .func fd, sl⟩ : Obj)) ∈ H
theorem IsFnIn.at {f : Addr} {H : List (Addr × Obj)} {h : Heap} (x : IsFnIn f H) (a : AllAt H h) : FnAt f h := let ⟨oc, od, fd, sl, hm⟩ := x; ⟨oc, od, fd, sl, a _ hm⟩
end Mine
theorem Mine.freshRules : True ∧ True := by w_top off; first | (walk1; all_goals trivial) | exact ⟨trivial, trivial⟩
-- part Loop
namespace Mine
open PySem PySem.W PyProof.Rows PySem.Calls

def BytesAre (vs : List Value) (bs : List (Array UInt8)) : Prop := bs.length = vs.length ∧ ∀ (i : Nat) (b : Array UInt8), bs[i]? = some b → ∃ t, vs[i]? = some (Value.bytes b t)
theorem BytesAre.get {vs : List Value} {bs : List (Array UInt8)} (x : BytesAre vs bs) {i : Nat} {v : Value} (h : vs[i]? = some v) : ∃ t, v = Value.bytes (bs.getD i #[]) t := by
  have hi : i < vs.length := by
    rcases Nat.lt_or_ge i vs.length with q | q
    · exact q
    · rw [List.getElem?_eq_none q] at h; cases h
  have hb : bs[i]? = some (bs.getD i #[]) := by
    rw [List.getD_eq_getElem?_getD, List.getElem?_eq_getElem (show i < bs.length by rw [x.1]; exact hi)]; rfl
  obtain ⟨t, ht⟩ := x.2 i _ hb
  rw [h] at ht
  exact ⟨t, Option.some.inj ht⟩

abbrev St2 := List (List UInt8) × Array UInt8
def stepUp (path : Nat) (i : Nat) (sb : Array UInt8) (st : St2) : St2 :=
  let x := if path.testBit i then sb ++ st.2 else st.2 ++ sb
  (ins st.1 x.toList, hh (ins st.1 x.toList) x.toList)
def climb (path : Nat) (bs : List (Array UInt8)) (st : St2) : Nat → St2
  | 0 => st
  | i + 1 => stepUp path i (bs.getD (7 - i) #[]) (climb path bs st i)
def leafUp (S : List (List UInt8)) (v : Array UInt8) : St2 := (ins S v.toList, hh (ins S v.toList) v.toList)

theorem hh_size (S : List (List UInt8)) (x : List UInt8) : (hh S x).size = 32 := enc_size _

theorem iter_revG {prog : Program} {w : World} {A : Around} {E : Value → Shared → Prop} {s : Shared} {env : Env} {h₀ : Heap} {x : Str} {body : List Stmt} {Q : Flow → Shared → Prop}
    {I l : Addr} {vs : List Value} {hnd : Option Value} {m₀ : Str → Option Value} {news : List (Addr × Obj)} (J : Nat → (Str → Option Value) → List (Addr × Obj) → Prop)
    (hh : A.handled = hnd) (hnb : hnd ≠ some byPass) (ok : HOk hnd h₀) (hl : IsTup s.heap l vs.toArray) (hlL : l ≠ env.locals) (hn : vs.length = 8)
    (F : Fr h₀ env.locals s.heap m₀) (NI : News h₀ env.locals s.heap [(I, revT l 7)]) (N : News h₀ env.locals s.heap news) (hI : ∀ p ∈ news, p.1 ≠ I) (hln : ∀ p ∈ news, p.1 ≠ l) (hj : J 0 m₀ news)
    (turn : ∀ i v m₁ nx h tk own, i < 8 → vs[7 - i]? = some v → nx.map (·.1) = news.map (·.1) → OwnOff own (news.map (·.1)) → J i m₁ nx → Fr h₀ env.locals h (fun y => if y = x then some v else m₁ y) → News h₀ env.locals h (nx ++ own) →
      wpAny (model prog w) A (execs body env) (InvPostN h₀ env.locals (J (i + 1)) own (news.map (·.1)) { s with heap := h, toks := tk } Q) E { s with heap := h, toks := tk })
    (done : ∀ m₁ nx h tk, J 8 m₁ nx → Fr h₀ env.locals h m₁ → News h₀ env.locals h nx → Q .next { s with heap := h, toks := tk }) :
    wpAny (model prog w) A (pyIter (.ref I)) (fun it s₂ => LoopAtV prog w A h₀ env x body Q E it s₂) E s := by
  have hI0 := NI _ (List.Mem.head _)
  have hlI : l ≠ I := fun q => by
    obtain ⟨o, ho, hc, _⟩ := hl
    rw [q, hI0.1] at ho; cases ho; exact absurd (show Value.type "reversed" = Value.type "tuple" from hc) (by decide)
  have hoff : I ∉ hndA hnd := fun hm => by
    rcases ok with rfl | ⟨e, oe, ws, rfl, ho, _⟩
    · cases hm
    · have : I = e := List.mem_singleton.mp hm
      rw [← this, hI0.2.2] at ho; cases ho
  have hsz : vs.toArray.size = 8 := by rw [List.size_toArray, hn]
  have W := walks_revT (prog := prog) (w := w) hh hnb I l hlI hoff vs.toArray (by omega)
  rw [hsz] at W
  have hrev : IsRevT s.heap I l 7 := ⟨_, hI0.1, rfl, rfl⟩
  refine rev_self hrev ?_
  refine loop_invN J W ?_ ?_ ?_ ?_ ⟨Nat.zero_le _, by simpa using hrev, hl, ok.at fun b _ o e => F.keep b o e⟩ F N hj ?_ ?_
  · intro hm
    rcases List.mem_cons.mp hm with q | hm
    · exact hI0.2.1 q.symm
    · rcases List.mem_cons.mp hm with q | hm
      · exact hlL q.symm
      · rcases ok with rfl | ⟨e, oe, ws, rfl, ho, _⟩
        · cases hm
        · have : env.locals = e := List.mem_singleton.mp hm
          exact absurd (Nat.lt_of_lt_of_le (Heap.lt_size ho) F.above) (this ▸ Nat.lt_irrefl _)
  · intro b hb
    rw [List.mem_singleton.mp hb]; exact hI0.2.2
  · intro q hq hm
    exact hI q hq (List.mem_singleton.mp hm)
  · intro q hq hm
    have hq0 := (N q hq).2.2
    rcases List.mem_cons.mp hm with z | hm
    · exact hI q hq z
    · rcases List.mem_cons.mp hm with z | hm
      · exact hln q hq z
      · rcases ok with rfl | ⟨e, oe, ws, rfl, ho, _⟩
        · cases hm
        · have : q.1 = e := List.mem_singleton.mp hm
          rw [← this, hq0] at ho; cases ho
  · intro i v m₁ nx h tk own hi hv
    refine turn i v m₁ nx h tk own hi ?_
    have e : 8 - 1 - i = 7 - i := by omega
    rw [e] at hv
    simpa using hv
  · exact done

theorem iter_revT {prog : Program} {w : World} {A : Around} {E : Value → Shared → Prop} {s : Shared} {env : Env} {h₀ : Heap} {x : Str} {body : List Stmt} {Q : Flow → Shared → Prop}
    {I l : Addr} {vs : List Value} {hnd : Option Value} {m₀ : Str → Option Value} {news : List (Addr × Obj)} (J : Nat → (Str → Option Value) → List (Addr × Obj) → Prop)
    (hh : A.handled = hnd) (hnb : hnd ≠ some byPass) (ok : HOk hnd h₀) (hl : IsTup h₀ l vs.toArray) (hn : vs.length = 8)
    (F : Fr h₀ env.locals s.heap m₀) (N : News h₀ env.locals s.heap ((I, revT l 7) :: news)) (hI : ∀ p ∈ news, p.1 ≠ I) (hj : J 0 m₀ news)
    (turn : ∀ i v m₁ nx h tk own, i < 8 → vs[7 - i]? = some v → nx.map (·.1) = news.map (·.1) → OwnOff own (news.map (·.1)) → J i m₁ nx → Fr h₀ env.locals h (fun y => if y = x then some v else m₁ y) → News h₀ env.locals h (nx ++ own) →
      wpAny (model prog w) A (execs body env) (InvPostN h₀ env.locals (J (i + 1)) own (news.map (·.1)) { s with heap := h, toks := tk } Q) E { s with heap := h, toks := tk })
    (done : ∀ m₁ nx h tk, J 8 m₁ nx → Fr h₀ env.locals h m₁ → News h₀ env.locals h nx → Q .next { s with heap := h, toks := tk }) :
    wpAny (model prog w) A (pyIter (.ref I)) (fun it s₂ => LoopAtV prog w A h₀ env x body Q E it s₂) E s := by
  have hl' := hl
  obtain ⟨o, ho, _⟩ := hl'
  exact iter_revG J hh hnb ok (hl.keeps F.keep) (fun q => absurd (Nat.lt_of_lt_of_le (Heap.lt_size ho) F.above) (q ▸ Nat.lt_irrefl _)) hn F (fun p hp => N p (by rw [List.mem_singleton.mp hp]; exact .head _))
    (fun p hp => N p (.tail _ hp)) hI (fun p hp q => by have z := (N p (.tail _ hp)).2.2; rw [q, ho] at z; cases z) hj turn done

section
variable {w : World} {A : Around} {E : Value → Shared → Prop} {s : Shared} {h₀ : Heap} {L : Addr} {m : Str → Option Value} {prog : Program}
theorem rev_K {l : Addr} {vs : List Value} {news : List (Addr × Obj)} {Q : Value → Shared → Prop} (F : Fr h₀ L s.heap m) (N : News h₀ L s.heap news) (ht : IsTup h₀ l vs.toArray) (hn : vs.length = 8)
    (h : ∀ D h' tk, Fr h₀ L h' m → News h₀ L h' ((D, revT l 7) :: news) → (∀ p ∈ news, p.1 < D) → Q (.ref D) { s with heap := h', toks := tk }) : wpAny (model prog w) A (call (.type "reversed") [.ref l]) Q E s := by
  refine call_revT (ht.keeps F.keep) (by rw [List.size_toArray, hn]; decide) fun tk => ?_
  have e : ((vs.toArray.size : Nat) : Int) - 1 = 7 := by rw [List.size_toArray, hn]; rfl
  rw [e]
  exact h _ _ _ (F.push _) (News.push F N _) fun q hq => Heap.lt_size (N q hq).1
end

theorem map3 {x y y' : Str} {m₁ m₀ : Str → Option Value} {u u' : Value} (ha : m₁ y = some u) (hb : m₁ y' = some u') (hm : ∀ z, z ≠ x → z ≠ y → z ≠ y' → m₁ z = m₀ z) :
    m₁ = fun z => if z = y then some u else if z = y' then some u' else if z = x then m₁ x else m₀ z := by
  funext z
  by_cases h2 : z = y
  · subst h2; simp [ha]
  · by_cases h3 : z = y'
    · subst h3; simp [hb, h2]
    · by_cases h1 : z = x
      · subst h1; simp [h2, h3]
      · simp [h1, h2, h3, hm z h1 h2 h3]
theorem invEnd {h₀ : Heap} {L : Addr} {J : (Str → Option Value) → List (Addr × Obj) → Prop} {own : List (Addr × Obj)} {adr : List Addr} {s₁ s₂ : Shared} {Q : Flow → Shared → Prop} {f : Flow} {m' : Str → Option Value} {news' nx : List (Addr × Obj)}
    (hf : f = .next ∨ f = .cont) (e : ∃ h' tk, s₂ = { s₁ with heap := h', toks := tk }) (F : Fr h₀ L s₂.heap m') (N : News h₀ L s₂.heap news') (hn : ∀ p ∈ nx, p ∈ news') (ho : ∀ p ∈ own, p ∈ news') (ha : nx.map (·.1) = adr) (hj : J m' nx) :
    InvPostN h₀ L J own adr s₁ Q f s₂ := by
  obtain ⟨h', tk, rfl⟩ := e
  rcases hf with rfl | rfl <;> exact ⟨h', tk, m', news', nx, rfl, F, N, hn, ho, ha, hj⟩

theorem invEndL {h₀ : Heap} {L : Addr} {J : (Str → Option Value) → List (Addr × Obj) → Prop} {adr : List Addr} {s₁ s₂ : Shared} {Q : Flow → Shared → Prop} {f : Flow} {m' : Str → Option Value} (junk nx own : List (Addr × Obj))
    (hf : f = .next ∨ f = .cont) (e : ∃ h' tk, s₂ = { s₁ with heap := h', toks := tk }) (F : Fr h₀ L s₂.heap m') (N : News h₀ L s₂.heap (junk ++ (nx ++ own))) (ha : nx.map (·.1) = adr) (hj : J m' nx) :
    InvPostN h₀ L J own adr s₁ Q f s₂ :=
  invEnd hf e F N (fun p hp => List.mem_append_right _ (List.mem_append_left _ hp)) (fun p hp => List.mem_append_right _ (List.mem_append_right _ hp)) ha hj

section
variable {w : World} {A : Around} {E : Value → Shared → Prop} {s : Shared} {h₀ : Heap} {L : Addr} {m : Str → Option Value} {prog : Program}
theorem rev_KN {l : Addr} {vs : List Value} {k : Nat} {news : List (Addr × Obj)} {Q : Value → Shared → Prop} (F : Fr h₀ L s.heap m) (N : News h₀ L s.heap news) (hm : (l, ({ cls := .type "tuple", data := .seq vs.toArray k } : Obj)) ∈ news) (hn : vs.length = 8)
    (h : ∀ D h' tk, Fr h₀ L h' m → News h₀ L h' ((D, revT l 7) :: news) → (∀ p ∈ news, p.1 < D) → Q (.ref D) { s with heap := h', toks := tk }) : wpAny (model prog w) A (call (.type "reversed") [.ref l]) Q E s := by
  refine call_revT (N.isTup hm) (by rw [List.size_toArray, hn]; decide) fun tk => ?_
  have e : ((vs.toArray.size : Nat) : Int) - 1 = 7 := by rw [List.size_toArray, hn]; rfl
  rw [e]
  exact h _ _ _ (F.push _) (News.push F N _) fun q hq => Heap.lt_size (N q hq).1
end

/-- what an end of a turn wants: kept shut from the walk -/
def EndT (P : Flow → Shared → Prop) (f : Flow) (s : Shared) : Prop := P f s
def EndV (P : Value → Shared → Prop) (v : Value) (s : Shared) : Prop := P v s
end Mine
theorem Mine.freshLoop : True ∧ True := by w_top off; first | (walk1; all_goals trivial) | exact ⟨trivial, trivial⟩
-- part Bits
namespace Mine
open PySem PySem.W PyProof.Rows PySem.Calls
theorem bitAnd_nat (a b : Nat) : Builtin.bitAnd (a : Int) (b : Int) = ((a &&& b : Nat) : Int) := by
  unfold Builtin.bitAnd
  rw [decide_eq_true (show (0 : Int) ≤ a by omega), decide_eq_true (show (0 : Int) ≤ b by omega)]
  simp
theorem and_two_pow_ne (a i : Nat) : (a &&& 2 ^ i ≠ 0) ↔ a.testBit i = true := by
  constructor
  · intro h
    cases hb : a.testBit i with
    | true => rfl
    | false =>
      exfalso
      apply h
      apply Nat.eq_of_testBit_eq
      intro j
      rw [Nat.testBit_and, Nat.testBit_two_pow, Nat.zero_testBit]
      by_cases hj : i = j
      · subst hj; simp [hb]
      · simp [hj]
  · intro h e
    have := congrArg (fun x => x.testBit i) e
    simp [Nat.testBit_and, Nat.testBit_two_pow, h] at this
theorem path_bit {a i : Nat} {T : Int} (hT : (2 : Int) ^ i = T) (h : Builtin.bitAnd (a : Int) T ≠ 0) : a.testBit i = true := by
  subst hT
  have e : ((2 : Int) ^ i) = ((2 ^ i : Nat) : Int) := by rw [Int.natCast_pow]; rfl
  rw [e, bitAnd_nat] at h
  exact (and_two_pow_ne a i).mp (by intro q; apply h; rw [q]; rfl)
theorem path_nobit {a i : Nat} {T : Int} (hT : (2 : Int) ^ i = T) (h : Builtin.bitAnd (a : Int) T = 0) : a.testBit i = false := by
  subst hT
  have e : ((2 : Int) ^ i) = ((2 ^ i : Nat) : Int) := by rw [Int.natCast_pow]; rfl
  rw [e, bitAnd_nat] at h
  cases hb : a.testBit i with
  | false => rfl
  | true => exact absurd (by exact_mod_cast h) ((and_two_pow_ne a i).mpr hb)
theorem pow_pos_i {i : Nat} : (1 : Int) ≤ 2 ^ i := by
  have : 0 < 2 ^ i := Nat.two_pow_pos i
  have e : ((2 : Int) ^ i) = ((2 ^ i : Nat) : Int) := by rw [Int.natCast_pow]; rfl
  omega
theorem pow_le_i {i : Nat} (hi : i < 8) : (2 : Int) ^ i ≤ 128 := by
  have h : 2 ^ i ≤ 2 ^ 7 := Nat.pow_le_pow_right (by decide) (by omega)
  have e : ((2 : Int) ^ i) = ((2 ^ i : Nat) : Int) := by rw [Int.natCast_pow]; rfl
  rw [e]; exact_mod_cast h
theorem getD_size {bs : List (Array UInt8)} {n : Nat} (h : ∀ b ∈ bs, b.size ≤ n) (i : Nat) : (bs.getD i #[]).size ≤ n := by
  rw [List.getD_eq_getElem?_getD]
  cases q : bs[i]? with
  | none => exact Nat.zero_le _
  | some b => exact h b (List.mem_of_getElem? q)
theorem climb_one {path : Nat} {bs : List (Array UInt8)} {st : St2} {i : Nat} (h : path.testBit i = true) :
    climb path bs st (i + 1) = (ins (climb path bs st i).1 (bs.getD (7 - i) #[] ++ (climb path bs st i).2).toList, hh (ins (climb path bs st i).1 (bs.getD (7 - i) #[] ++ (climb path bs st i).2).toList) (bs.getD (7 - i) #[] ++ (climb path bs st i).2).toList) := by
  show stepUp _ _ _ _ = _
  unfold stepUp
  rw [if_pos h]
theorem climb_zero {path : Nat} {bs : List (Array UInt8)} {st : St2} {i : Nat} (h : path.testBit i = false) :
    climb path bs st (i + 1) = (ins (climb path bs st i).1 ((climb path bs st i).2 ++ bs.getD (7 - i) #[]).toList, hh (ins (climb path bs st i).1 ((climb path bs st i).2 ++ bs.getD (7 - i) #[]).toList) ((climb path bs st i).2 ++ bs.getD (7 - i) #[]).toList) := by
  show stepUp _ _ _ _ = _
  unfold stepUp
  rw [if_neg (by rw [h]; exact Bool.false_ne_true)]
theorem pow_step {i : Nat} {T : Int} (hT : (2 : Int) ^ i = T) : T * 2 ^ Int.toNat 1 = 2 ^ (i + 1) := by
  subst hT
  rw [Int.pow_succ]; rfl
end Mine
theorem Mine.freshBits : True ∧ True := by w_top off; first | (walk1; all_goals trivial) | exact ⟨trivial, trivial⟩
-- part RevLF
namespace Mine
open PySem PySem.W PyProof.Rows PySem.Calls
open AutoSeq1 (wpAny_loadPart')
namespace RF
theorem nolen_lri : typeLookup (.type "list_reverseiterator") "__len__" = pure none := by rw [typeLookup_type, builtinLookup_eq_fast]; kernel_rfl
theorem hint_lri : typeLookup (.type "list_reverseiterator") "__length_hint__" = pure (some (.builtin "list_reverseiterator.__length_hint__")) := by rw [typeLookup_type, builtinLookup_eq_fast]; kernel_rfl
end RF
section
variable {prog : Program} {w : World} {A : Around} {E : Value → Shared → Prop} {s : Shared} {I : Addr} {fp wr : List Addr} {G : Array GenState → Array GenState → Prop} {n : Nat} {P : Nat → Value → Prop} {St : Nat → Shared → Prop}

theorem collect_lri {Q : List Value → Shared → Prop}
    (W : WalksS prog w A.in1 I fp wr G n P St) (hT : ∀ i s, St i s → s.TypeIs (.ref I) "list_reverseiterator") (hst : St 0 s) (hfp : ∀ b ∈ fp, b < s.heap.objs.size) (hI : I ∈ fp)
    (hQ : ∀ s' acc, Moved wr G s s' → ItemsOf P acc n → Q acc.toList s') (hn : n ≤ sizeLine := by size_fits) : wpAny (model prog w) A (collect (.ref I)) Q E s := by
  have hSf : s.heap.objs.size ∉ fp := fun hm => Nat.lt_irrefl _ (hfp _ hm)
  have hSI : s.heap.objs.size ≠ I := fun e => hSf (e ▸ hI)
  unfold collect
  refine wpAny_bind (wpAny_runValue (codeAny_builtin F.entry_proto_collect ?_))
  rw [Around.under_plainId F.plain_proto_collect _]
  show wpAny _ A.in1 (newList [] >>= fun l => again (.builtin "list.__iadd__" ⟨[l, .ref I], []⟩)) _ _ s
  refine wpAny_bind (wpAny_newObj_type ?_)
  refine wpAny_pure ⟨plainId_quiet F.plain_list_iadd _, codeAny_builtin F.entry_list_iadd ?_⟩
  rw [Around.under_plainId F.plain_list_iadd _]
  have hst₁ := W.frame 0 s (s.heap.push { cls := .type "list", data := .seq ([] : List Value).toArray }) s.toks hst (Nat.le_refl _) fun b _ o e => Heap.get?_push_of_some _ e
  have hS₁ : (s.heap.push { cls := .type "list", data := .seq ([] : List Value).toArray }).get? s.heap.objs.size = some { cls := .type "list", data := .seq ([] : List Value).toArray } := Heap.get?_push_size _ rfl
  have h1 : Builtin.List.listSameRef (.ref s.heap.objs.size) (.ref I) = false := by simp [Builtin.List.listSameRef, hSI]
  show wpAny _ A.in1 (Builtin.List.listExtendWith (.ref s.heap.objs.size) (.ref I) (.ref s.heap.objs.size)) _ _ _
  unfold Builtin.List.listExtendWith
  refine wpAny_bind (wpAny_typeOf (hT 0 _ hst₁) ?_)
  rw [if_neg (by rw [h1]; decide)]
  refine wpAny_bind (W.self 0 _ _ _ hst₁ ?_)
  refine wpAny_bind (wpAny_holding ?_)
  unfold Builtin.List.listLengthHint
  refine wpAny_bind (wpAny_specialOf (hT 0 _ hst₁) RF.nolen_lri ?_)
  show wpAny _ A.in1 (specialOf (Value.ref I) (Str.ofString "__length_hint__") >>= _) _ _ _
  refine wpAny_bind (wpAny_specialOf (hT 0 _ hst₁) RF.hint_lri ?_)
  (generalize hid : ("list_reverseiterator.__length_hint__" : String) = id0; (fail_if_success (clear hid id0)); wp_delta; rw [show splitId id0 = some ("list_reverseiterator", "__length_hint__") from by subst hid; decide +kernel]; subst hid)
  refine wpAny_bind (wpAny_isInstance (b := true) (hT 0 _ hst₁) (by rw [isSubtype_type]; kernel_rfl) ?_)
  refine wpAny_pure ?_
  rw [if_neg (by decide)]
  refine wpAny_pure ⟨plainId_quiet F.plain_extend_loop _, codeAny_extend_loopS W hn _ hSf _ n 0 _ _ _ rfl (Nat.zero_le _) hst₁ hS₁ (ItemsOf.nil P) fun s' acc' c' hm hS' hacc => ?_⟩
  show wpAny _ A (load s.heap.objs.size >>= _) _ _ s'
  refine wpAny_bind (wpAny_load hS' ?_)
  exact wpAny_pure (hQ s' acc' (Moved.drop_new (o := { cls := .type "list", data := .seq ([] : List Value).toArray }) (tk := s.toks) hm (Nat.le_refl _)) hacc)
end

theorem items_rev {items acc : Array Value} (h : ItemsOf (fun i v => items[items.size - 1 - i]? = some v) acc items.size) : acc = items.reverse := by
  apply Array.ext
  · rw [h.1, Array.size_reverse]
  · intro i h1 h2
    have hi : i < items.size := by rw [← h.1]; exact h1
    have this : items[items.size - 1 - i]? = some acc[i] := h.2 i acc[i] (Array.getElem?_eq_getElem h1)
    rw [Array.getElem?_eq_getElem (by omega)] at this
    rw [Array.getElem_reverse]
    exact (Option.some.inj this).symm

theorem meets_tuple_lri (I l : Addr) (items : Array Value) (hne : l ≠ I) (hsz : items.size ≤ 1000) :
    Meets (Builtin.«tuple.__new__» ⟨[.type "tuple", .ref I], []⟩)
      (fun A R s => A.handled = none ∧ s.heap.IsRevIter I l ((items.size : Int) - 1) ∧ s.heap.IsList l items ∧ ∀ (s' : Shared), (∀ b o, b ≠ I → s.heap.get? b = some o → s'.heap.get? b = some o) → s'.gens = s.gens → s'.drawn = s.drawn → s'.os = s.os →
        R (.ok (.ret (.ref s'.heap.objs.size))) { s' with heap := s'.heap.push { cls := .type "tuple", data := .seq items.reverse } }) :=
  .of_wp fun prog w A R s h => by
    obtain ⟨hh, hit, hl, h⟩ := h
    have hsub := sub_tuple_self
    have hinit := init_tuple_lookup
    have hmh := madeHere_tuple
    have hT : s.TypeIs (.ref I) "list_reverseiterator" := hit.typeIs
    have hh1 : A.in1.handled = none := hh
    have hh2 : A.in1.in1.handled = none := hh
    obtain ⟨oI, hoI, hcI, hdI⟩ := id hit
    have W := (Walks.listRev (prog := prog) (w := w) (A := A.in1.in1) hh2 I l hne items).toS
    have hlt : ∀ b ∈ [I, l], b < s.heap.objs.size := fun b hb => by
      rcases List.mem_cons.mp hb with rfl | hb
      · exact Heap.lt_size hoI
      · rw [List.mem_singleton.mp hb]; obtain ⟨o, ho, _⟩ := hl; exact Heap.lt_size ho
    have st0 : (fun i (s : Shared) => i ≤ items.size ∧ s.heap.IsRevIter I l ((items.size : Int) - 1 - (i : Int)) ∧ s.heap.IsList l items) 0 s := ⟨Nat.zero_le _, by simpa using hit, hl⟩
    have key : ∀ {Q : List Value → Shared → Prop} {E : Value → Shared → Prop}, (∀ s' acc, Moved [I] (fun a b => b = a) s s' → ItemsOf (fun i v => items[items.size - 1 - i]? = some v) acc items.size → Q acc.toList s') → wpAny (model prog w) A.in1 (collect (.ref I)) Q E s :=
      fun hQ => collect_lri W (fun _ _ st => st.2.1.typeIs) st0 hlt (.head _) hQ (by rw [sizeLine_eq]; omega)
    wp_walk using wpAny_loadPart' hoI, wpAny_typeOf hT, key
    intro s' acc hm hacc
    show wpAny _ _ (Builtin.Tuple.tupleExact acc.toList.toArray >>= fun v => ret v) _ _ _
    unfold Builtin.Tuple.tupleExact
    rw [items_rev hacc]
    refine wpAny_bind (wpAny_newObj_type ?_ (show (items.reverse).toList.toArray.size ≤ sizeLine by simp only [Array.toArray_toList, Array.size_reverse]; rw [sizeLine_eq]; omega))
    refine wpAny_pure ⟨_, rfl, ?_⟩
    have e : items.reverse.toList.toArray = items.reverse := Array.toArray_toList
    rw [e]
    exact h s' (fun b o hb e => hm.heap b o (fun q => hb (List.mem_singleton.mp q)) e) hm.gens hm.drawn hm.os
end Mine
theorem Mine.freshRevLF : True ∧ True := by w_top off; first | (walk1; all_goals trivial) | exact ⟨trivial, trivial⟩
-- part RevL
namespace Mine
open PySem PySem.W PyProof.Rows PySem.Calls
section
variable {prog : Program} {w : World} {A : Around} {E : Value → Shared → Prop} {s : Shared} {h₀ : Heap} {L : Addr} {m : Str → Option Value} {news : List (Addr × Obj)}
theorem tuple_rev {I l : Addr} {vs : List Value} {k : Nat} {Q : Value → Shared → Prop} (hh : A.handled = none) (FF : Fr h₀ L s.heap m) (N : News h₀ L s.heap ((I, revObj l ((vs.length : Int) - 1)) :: news)) (hI : ∀ p ∈ news, p.1 ≠ I) (hm : (l, listOf vs.toArray k) ∈ news) (hsz : vs.length ≤ 1000)
    (h : ∀ D h' tk, Fr h₀ L h' m → News h₀ L h' ((D, { cls := .type "tuple", data := .seq vs.reverse.toArray }) :: news) → (∀ p ∈ news, p.1 < D) → Q (.ref D) { s with heap := h', toks := tk }) :
    wpAny (model prog w) A (call (.type "tuple") [.ref I]) Q E s := by
  have hI0 := N _ (.head _)
  have hl0 := N _ (.tail _ hm)
  have hne : l ≠ I := hI _ hm
  have hsz' : vs.toArray.size = vs.length := by simp
  have e1 : (vs.toArray.size : Int) - 1 = (vs.length : Int) - 1 := by rw [hsz']
  refine callType_new F.called_tuple (by decide) (F.typeCall_tuple_1 _) (F.newCall_tuple_1 _) (fun obj => F.args_object_init_2 obj _) F.entry_tuple_new
    (meets_tuple_lri I l vs.toArray hne (by rw [hsz']; exact hsz)) ⟨hh, ⟨_, hI0.1, rfl, by rw [e1]; rfl⟩, ⟨_, hl0.1, rfl, _, rfl⟩, fun s' hk hg hd hos => ⟨⟨_, Heap.get?_push_size _ rfl, rfl⟩, ?_⟩⟩
  have F1 : Fr h₀ L s'.heap m := ⟨(let ⟨o, es, ep, ho, r⟩ := FF.ns; ⟨o, es, ep, hk _ _ (Ne.symm hI0.2.1) ho, r⟩), fun b o e => hk b o (fun q => by have z := hI0.2.2; dsimp only at z; rw [q, z] at e; cases e) (FF.keep b o e), FF.above⟩
  have N1 : News h₀ L s'.heap news := fun p hp => ⟨hk _ _ (hI p hp) (N p (.tail _ hp)).1, (N p (.tail _ hp)).2⟩
  have e2 : vs.toArray.reverse = vs.reverse.toArray := by simp
  obtain ⟨h', g', d', tk', os'⟩ := s'
  dsimp only at hg hd hos
  subst hg hd hos
  rw [e2]
  exact h _ _ _ (F1.push _) (News.push F1 N1 { cls := .type "tuple", data := .seq vs.reverse.toArray }) fun p hp => Heap.lt_size (N1 p hp).1
theorem revL_K {l : Addr} {vs : List Value} {k : Nat} {Q : Value → Shared → Prop} (FF : Fr h₀ L s.heap m) (N : News h₀ L s.heap news) (hm : (l, listOf vs.toArray k) ∈ news)
    (h : ∀ D h', Fr h₀ L h' m → News h₀ L h' ((D, revObj l ((vs.length : Int) - 1)) :: news) → (∀ q ∈ news, q.1 < D) → Q (.ref D) { s with heap := h' }) : wpAny (model prog w) A (call (.type "reversed") [.ref l]) Q E s :=
  krv_reversed FF N (N.isList hm) h
end
end Mine
theorem Mine.freshRevL : True ∧ True := by w_top off; first | (walk1; all_goals trivial) | exact ⟨trivial, trivial⟩
-- part Oct
namespace Mine
open PySem PySem.W PyProof.Rows PySem.Calls

theorem sliced_eq (b : Array UInt8) (x y : Nat) (hxy : x ≤ y) (hy : y ≤ b.size) : Builtin.Bytes.sliced b (x : Int) (y : Int) 1 = ((b.toList.drop x).take (y - x)).toArray := by
  unfold Builtin.Bytes.sliced sliceRange
  have e : (List.range (if (1 : Int) > 0 then (if (x : Int) < y then ((y : Int) - x + 1 - 1) / 1 else 0) else (if (x : Int) > y then ((x : Int) - y - 1 - 1) / (-1) else 0)).toNat).map (fun (k : Nat) => ((x : Int) + 1 * (k : Int)).toNat) = (List.range (y - x)).map (fun k => x + k) := by
    by_cases hlt : (x : Int) < y
    · have e3 : (((y : Int) - x + 1 - 1) / 1).toNat = y - x := by first | omega | (simp; omega)
      simp only [show ((1 : Int) > 0) = True from by simp, if_true, hlt, e3]
      refine List.map_congr_left fun k _ => ?_
      omega
    · have : y - x = 0 := by omega
      simp [hlt, this]
  simp only [e]
  have h := StrLaws.picks b.toList (y - x) x (by simp; omega)
  simpa using congrArg List.toArray h

theorem picked_lo {a c : Array UInt8} (ha : a.size = 32) (hc : c.size = 32) : KBy.picked (a ++ c) none (some 32) = a := by
  have hs : (a ++ c).size = 64 := by rw [Array.size_append, ha, hc]
  unfold KBy.picked
  rw [hs]
  show Builtin.Bytes.sliced (a ++ c) ((0 : Nat) : Int) ((32 : Nat) : Int) 1 = a
  rw [sliced_eq _ 0 32 (by decide) (by rw [hs]; decide)]
  apply Array.ext'
  simp [ha]
theorem picked_hi {a c : Array UInt8} (ha : a.size = 32) (hc : c.size = 32) : KBy.picked (a ++ c) (some 32) none = c := by
  have hs : (a ++ c).size = 64 := by rw [Array.size_append, ha, hc]
  unfold KBy.picked
  rw [hs]
  show Builtin.Bytes.sliced (a ++ c) ((32 : Nat) : Int) ((64 : Nat) : Int) 1 = c
  rw [sliced_eq _ 32 64 (by decide) (by rw [hs]; decide)]
  apply Array.ext'
  have h1 : a.toList.length = 32 := by simpa using ha
  have h2 : c.toList.length = 32 := by simpa using hc
  simp only [Array.toList_append, List.drop_append, h1]
  have : List.drop 32 a.toList = [] := List.drop_eq_nil_of_le (by omega)
  rw [this]
  simp [List.take_of_length_le, h2]

section
variable {prog : Program} {w : World} {A : Around} {E : Value → Shared → Prop} {s : Shared} {value slice : PySem.Expr} {a c : Array UInt8} {t u : Tok} {h₀ : Heap} {L : Addr} {m : PySem.Str → Option Value} {news : List (Addr × Obj)} {Q : Value → Shared → Prop}
theorem slice_lo (hF : Fr h₀ L s.heap m) (hN : News h₀ L s.heap news) (ha : a.size = 32) (hc : c.size = 32)
    (h : ∀ h' t' k, Fr h₀ L h' m → News h₀ L h' news → Q (.bytes a t') { s with heap := h', toks := k })
    (hs : subscripted slice false (.bytes (a ++ c) t) (.ref s.heap.objs.size) = operate [.ref s.heap.objs.size, .bytes (a ++ c) t] (getItem (.bytes (a ++ c) t) (.ref s.heap.objs.size)) := by with_unfolding_all rfl)
    (ht : ∀ r, letTemporaryGo value (.bytes (a ++ c) t) r = pure () := by intro _; with_unfolding_all rfl) :
    wpAny (model prog w) A (subscriptTail value slice (.bytes (a ++ c) t) (.ref s.heap.objs.size)) Q E { s with heap := s.heap.push { cls := .type "slice", data := .fields #[.none, .int 32 u, .none] } } :=
  KBy.slice_N (lo := none) (hi := some 32) hF hN .none (.int 32 u) (by unfold KBy.whole; rw [show (a ++ c).size = 64 by rw [Array.size_append, ha, hc]]; rfl) (by rw [picked_lo ha hc, ha]; decide)
    (fun h' t' k F' N' => by rw [picked_lo ha hc]; exact h h' t' k F' N') hs ht
theorem slice_hi (hF : Fr h₀ L s.heap m) (hN : News h₀ L s.heap news) (ha : a.size = 32) (hc : c.size = 32)
    (h : ∀ h' t' k, Fr h₀ L h' m → News h₀ L h' news → Q (.bytes c t') { s with heap := h', toks := k })
    (hs : subscripted slice false (.bytes (a ++ c) t) (.ref s.heap.objs.size) = operate [.ref s.heap.objs.size, .bytes (a ++ c) t] (getItem (.bytes (a ++ c) t) (.ref s.heap.objs.size)) := by with_unfolding_all rfl)
    (ht : ∀ r, letTemporaryGo value (.bytes (a ++ c) t) r = pure () := by intro _; with_unfolding_all rfl) :
    wpAny (model prog w) A (subscriptTail value slice (.bytes (a ++ c) t) (.ref s.heap.objs.size)) Q E { s with heap := s.heap.push { cls := .type "slice", data := .fields #[.int 32 u, .none, .none] } } :=
  KBy.slice_N (lo := some 32) (hi := none) hF hN (.int 32 u) .none (by unfold KBy.whole; rw [show (a ++ c).size = 64 by rw [Array.size_append, ha, hc]]; rfl) (by rw [picked_hi ha hc, hc]; decide)
    (fun h' t' k F' N' => by rw [picked_hi ha hc]; exact h h' t' k F' N') hs ht
end

theorem valueAt_stored {K : Type} [DecidableEq K] (kvs : List (K × Value)) (k k' : K) (v : Value) : PySem.valueAt (PySem.stored kvs k v) k' = if k' = k then some v else PySem.valueAt kvs k' := by
  unfold PySem.stored
  by_cases hany : kvs.any (fun kv => decide (kv.1 = k)) = true
  · rw [if_pos hany]
    induction kvs with
    | nil => simp at hany
    | cons a l ih =>
      obtain ⟨a1, a2⟩ := a
      unfold PySem.valueAt
      rw [List.map_cons]
      dsimp only
      by_cases h1 : a1 = k
      · subst h1
        rw [if_pos rfl]
        by_cases h2 : k' = a1
        · subst h2; simp
        · have h2' : ¬ a1 = k' := fun q => h2 q.symm
          rw [if_neg h2, List.find?_cons_of_neg (by simpa using h2'), List.find?_cons_of_neg (by simpa using h2')]
          by_cases hl : l.any (fun kv => decide (kv.1 = a1)) = true
          · have := ih hl; unfold PySem.valueAt at this; rw [this, if_neg h2]
          · have : l.map (fun kv => if kv.1 = a1 then (kv.1, v) else kv) = l := by
              rw [List.map_congr_left (g := id), List.map_id]
              intro kv hkv
              have : ¬ kv.1 = a1 := fun q => hl (List.any_eq_true.mpr ⟨kv, hkv, by simpa using q⟩)
              simp [this]
            rw [this]
      · rw [if_neg h1]
        have hl : l.any (fun kv => decide (kv.1 = k)) = true := by simpa [h1] using hany
        have := ih hl
        unfold PySem.valueAt at this
        by_cases h2 : a1 = k'
        · subst h2
          rw [List.find?_cons_of_pos (by simp), List.find?_cons_of_pos (by simp), if_neg h1]
        · rw [List.find?_cons_of_neg (by simpa using h2), List.find?_cons_of_neg (by simpa using h2), this]
  · rw [if_neg hany]
    unfold PySem.valueAt
    rw [List.find?_append]
    by_cases h2 : k' = k
    · subst h2
      have : kvs.find? (fun kv => decide (kv.1 = k')) = none := by
        rw [List.find?_eq_none]
        intro kv hkv q
        exact hany (List.any_eq_true.mpr ⟨kv, hkv, q⟩)
      rw [if_pos rfl, this]; simp
    · rw [if_neg h2]
      have h2' : ¬ k = k' := fun q => h2 q.symm
      rw [List.find?_cons_of_neg (by simpa using h2')]
      simp

/-- a dict of octets by octets -/
def DbObj (w : World) (o : Obj) (D : List UInt8 → Option (Array UInt8)) (n : Nat) : Prop :=
  ∃ kvs : List (List UInt8 × Value), o.IsDictOf (BK w) kvs ∧ kvs.length ≤ n ∧ ∀ k, match D k with | none => PySem.valueAt kvs k = none | some x => ∃ t, PySem.valueAt kvs k = some (Value.bytes x t)
def dput (D : List UInt8 → Option (Array UInt8)) (k : List UInt8) (v : Array UInt8) : List UInt8 → Option (Array UInt8) := fun x => if x = k then some v else D x

section
variable {w : World} {A : Around} {E : Value → Shared → Prop} {s : Shared} {h₀ : Heap} {L d : Addr} {m : Str → Option Value} {news : List (Addr × Obj)} {g : Obj → List (Addr × Obj)} {o : Obj} {D : List UInt8 → Option (Array UInt8)} {n : Nat} {b x : Array UInt8} {t u : Tok}
theorem db_item {value slice : PySem.Expr} {Q : Value → Shared → Prop} (N : News h₀ L s.heap news) (hp : (d, o) ∈ news) (hD : DbObj w o D n) (hk : D b.toList = some x) (h : ∀ t' k, Q (.bytes x t') { s with toks := k })
    (hs : subscripted slice false (.ref d) (.bytes b t) = operate [.ref d, .bytes b t] (getItem (.ref d) (.bytes b t)) := by with_unfolding_all rfl) (hg : ∀ r, letTemporaryGo value (.ref d) r = pure () := by intro _; with_unfolding_all rfl) :
    wpAny (model Challenge.rw_bi0032_01.row.prog w) A (subscriptTail value slice (.ref d) (.bytes b t)) Q E s := by
  obtain ⟨kvs, hd, _, hv⟩ := hD
  have hv := hv b.toList
  rw [hk] at hv
  obtain ⟨t', ht⟩ := hv
  exact kda_item N hp hd (bk_is _ w b t) ht (h _ _) hs hg
theorem db_set {Q : Unit → Shared → Prop} (F : Fr h₀ L s.heap m) (N : News h₀ L s.heap news) (U : UpdF d o news g) (hD : DbObj w o D n) (hn : n ≤ 100000)
    (h : ∀ h' o', Fr h₀ L h' m → News h₀ L h' (g o') → DbObj w o' (dput D b.toList x) (n + 1) → Q () { s with heap := h', toks := s.toks + 1 }) :
    wpAny (model Challenge.rw_bi0032_01.row.prog w) A (setItem (.ref d) (.bytes b t) (.bytes x u)) Q E s := by
  obtain ⟨kvs, hd, hl, hv⟩ := hD
  refine kda_set F N U hd (bk_is _ w b t) (by rw [sizeLine_eq]; omega) fun h' o' F' N' hd' => h h' o' F' N' ⟨_, hd', Nat.le_trans (stored_length_le ..) (by omega), fun k => ?_⟩
  have hst : PySem.valueAt (PySem.stored kvs b.toList (.bytes x u)) k = if k = b.toList then some (.bytes x u) else PySem.valueAt kvs k := by
    exact valueAt_stored _ _ _ _
  unfold dput
  rw [hst]
  by_cases hk : k = b.toList
  · rw [if_pos hk, if_pos hk]; exact ⟨_, rfl⟩
  · rw [if_neg hk, if_neg hk]; exact hv k

theorem append_L {vs : List Value} {y : Value} {Q : Value → Shared → Prop} {k : Nat} (F : Fr h₀ L s.heap m) (N : News h₀ L s.heap news) (U : UpdF d (listOf vs.toArray k) news g)
    (h : ∀ h', Fr h₀ L h' m → News h₀ L h' (g (listOf (vs ++ [y]).toArray (k + 1))) → Q .none { s with heap := h' }) (hsz : vs.length ≤ 1000) : wpAny (model Challenge.rw_bi0032_01.row.prog w) A (call (.builtin "list.append") [.ref d, y]) Q E s := by
  obtain ⟨pre, post, rfl, hg, a, b⟩ := U.split
  have z := N (d, listOf vs.toArray k) (List.mem_append.mpr (.inr (.head _)))
  refine append_at (hsz := by rw [List.size_toArray, sizeLine_eq]; omega) z.1 fun h' hs ho' => h h' (F.change hs z.2.1 z.2.2) ?_
  rw [hg]
  have e : vs.toArray.push y = (vs ++ [y]).toArray := by simp
  rw [e] at ho'
  exact news_set N a b hs ho'
theorem tuple_L {l : Addr} {vs : List Value} {k : Nat} {Q : Value → Shared → Prop} (F : Fr h₀ L s.heap m) (N : News h₀ L s.heap news) (hm : (l, listOf vs.toArray k) ∈ news) (hsz : vs.length ≤ 1000)
    (h : ∀ D h', Fr h₀ L h' m → News h₀ L h' ((D, { cls := .type "tuple", data := .seq vs.toArray }) :: news) → (∀ p ∈ news, p.1 < D) → Q (.ref D) { s with heap := h' }) :
    wpAny (model Challenge.rw_bi0032_01.row.prog w) A (call (.type "tuple") [.ref l]) Q E s := by
  refine call_tuple_list (N.isList hm) (fun h' hk => ?_) (by rw [List.size_toArray, sizeLine_eq]; omega)
  have F1 : Fr h₀ L h' m := ⟨F.ns.keeps hk, fun b o e => hk _ _ (F.keep b o e), F.above⟩
  have N1 : News h₀ L h' news := fun p hp => ⟨hk _ _ (N p hp).1, (N p hp).2⟩
  exact h _ _ (F1.push _) (News.push F1 N1 _) fun p hp => Heap.lt_size (N1 p hp).1
end
end Mine
theorem Mine.freshOct : True ∧ True := by w_top off; first | (walk1; all_goals trivial) | exact ⟨trivial, trivial⟩
-- part Tree
namespace Mine
open PySem PySem.W PyProof.Rows PySem.Calls

abbrev tup (vs : List Value) : Obj := { cls := .type "tuple", data := .seq vs.toArray }
abbrev ent (w : World) (k : Str) (tk : Tok) (v : Value) : DictEntry := ⟨PyData.keyHash w.params k, .str k tk, v⟩
/-- the tree's own dict -/
def TreeD (w : World) (f dDB : Addr) (root : Array UInt8) (o : Obj) : Prop :=
  ∃ k1 k2 k3 k4 k5 k6 t1 t2 t3 t6 : Tok, o = dictOf [ent w (Str.ofString "_key_size") k1 (.int 1 t1), ent w (Str.ofString "depth") k2 (.int 8 t2), ent w (Str.ofString "_default") k3 (.bytes #[110, 111, 110, 101] t3),
    ent w (Str.ofString "hash_of") k4 (.ref f), ent w (Str.ofString "db") k5 (.ref dDB), ent w (Str.ofString "root_hash") k6 (.bytes root t6)] 6

/-- a frame's map with some names told anew -/
def ovr (m₀ : Str → Option Value) : List (Str × Option Value) → Str → Option Value
  | [], z => m₀ z
  | (n, v) :: r, z => if z = n then v else ovr m₀ r z

/-- a place where the walk is to stand still -/
def Stop (P : Prop) : Prop := P
theorem Stop.intro {P : Prop} (h : Stop P) : P := h
theorem Stop.out {P : Prop} (h : P) : Stop P := h

def Keeps (h h' : Heap) : Prop := ∀ b o, h.get? b = some o → h'.get? b = some o

theorem keeps_of {h₀ h h' : Heap} {L : Addr} {R R' : List (Addr × Obj)} (N : News h₀ L h R) (T : Tch (R.map (·.1)) h h') (G : ∀ p ∈ R', h'.get? p.1 = some p.2) (sub : ∀ p ∈ R, p ∈ R') : Keeps h h' := fun b o e => by
  by_cases hb : b ∈ R.map (·.1)
  · obtain ⟨p, hp, rfl⟩ := List.mem_map.mp hb
    have := (N p hp).1
    rw [e] at this
    rw [Option.some.inj this]
    exact G p (sub p hp)
  · exact T b o e hb
theorem news_keeps {h₀ h h' : Heap} {L : Addr} {news : List (Addr × Obj)} (N : News h₀ L h news) (K : Keeps h h') : News h₀ L h' news := fun p hp => ⟨K _ _ (N p hp).1, (N p hp).2⟩
theorem fresh_ne {h₀ h : Heap} {L D : Addr} {news : List (Addr × Obj)} (N : News h₀ L h news) (hn : h.get? D = none) : ∀ p ∈ news, p.1 ≠ D := fun p hp q => by
  have := (N p hp).1
  rw [q, hn] at this; cases this
theorem base_none {h₀ h : Heap} {L D : Addr} {m : Str → Option Value} (F : Fr h₀ L h m) (hn : h.get? D = none) : h₀.get? D = none := by
  cases q : h₀.get? D with
  | none => rfl
  | some o => have := F.keep _ _ q; rw [hn] at this; cases this
theorem news_cons {h₀ h : Heap} {L D : Addr} {o : Obj} {news : List (Addr × Obj)} (h1 : h.get? D = some o) (h2 : D ≠ L) (h3 : h₀.get? D = none) (N : News h₀ L h news) : News h₀ L h ((D, o) :: news) := List.forall_mem_cons.mpr ⟨⟨h1, h2, h3⟩, N⟩

theorem upd_mem {d : Addr} {o o' : Obj} {l : List (Addr × Obj)} {g : Obj → List (Addr × Obj)} (U : UpdF d o l g) {p : Addr × Obj} (h : p ∈ g o') : p = (d, o') ∨ (p ∈ l ∧ p.1 ≠ d) := by
  obtain ⟨pre, post, rfl, hg, a, b⟩ := U.split
  rw [hg] at h
  rcases List.mem_append.mp h with q | q
  · exact .inr ⟨List.mem_append_left _ q, a p q⟩
  · rcases List.mem_cons.mp q with q | q
    · exact .inl q
    · exact .inr ⟨List.mem_append_right _ (.tail _ q), b p q⟩
theorem upd_here {d : Addr} {o : Obj} {l : List (Addr × Obj)} {g : Obj → List (Addr × Obj)} (U : UpdF d o l g) : (d, o) ∈ l := by
  obtain ⟨pre, post, rfl, hg, a, b⟩ := U.split
  exact List.mem_append_right _ (.head _)
theorem upd_new {d : Addr} {o o' : Obj} {l : List (Addr × Obj)} {g : Obj → List (Addr × Obj)} (U : UpdF d o l g) : (d, o') ∈ g o' := by
  obtain ⟨pre, post, rfl, hg, a, b⟩ := U.split
  rw [hg]; exact List.mem_append_right _ (.head _)
/-- three objects told anew in a ledger -/
theorem news_upd3 {h₀ h h' : Heap} {L d1 d2 d3 : Addr} {o1 o2 o3 n1 n2 n3 : Obj} {news : List (Addr × Obj)} {g1 : Obj → List (Addr × Obj)} {g2 : Obj → Obj → List (Addr × Obj)} {g3 : Obj → Obj → Obj → List (Addr × Obj)}
    (N : News h₀ L h news) (U1 : UpdF d1 o1 news g1) (U2 : ∀ a, UpdF d2 o2 (g1 a) (g2 a)) (U3 : ∀ a b, UpdF d3 o3 (g2 a b) (g3 a b))
    (k : ∀ p ∈ news, p.1 ≠ d1 → p.1 ≠ d2 → p.1 ≠ d3 → h'.get? p.1 = some p.2) (e1 : h'.get? d1 = some n1) (e2 : h'.get? d2 = some n2) (e3 : h'.get? d3 = some n3) : News h₀ L h' (g3 n1 n2 n3) := by
  have m2 : ∃ o, (d2, o) ∈ news := by
    rcases upd_mem U1 (upd_here (U2 n1)) with q | q
    · cases q; exact ⟨_, upd_here U1⟩
    · exact ⟨_, q.1⟩
  have m3 : ∃ o, (d3, o) ∈ news := by
    rcases upd_mem (U2 n1) (upd_here (U3 n1 n2)) with q | q
    · cases q; exact m2
    · rcases upd_mem U1 q.1 with q | q
      · cases q; exact ⟨_, upd_here U1⟩
      · exact ⟨_, q.1⟩
  obtain ⟨o2', m2⟩ := m2
  obtain ⟨o3', m3⟩ := m3
  intro p hp
  rcases upd_mem (U3 n1 n2) hp with rfl | ⟨hp, h3⟩
  · exact ⟨e3, (N _ m3).2⟩
  · rcases upd_mem (U2 n1) hp with rfl | ⟨hp, h2⟩
    · exact ⟨e2, (N _ m2).2⟩
    · rcases upd_mem U1 hp with rfl | ⟨hp, h1⟩
      · exact ⟨e1, (N _ (upd_here U1)).2⟩
      · exact ⟨k p hp h1 h2 h3, (N p hp).2⟩
theorem news_upd1 {h₀ h h' : Heap} {L d1 : Addr} {o1 n1 : Obj} {news : List (Addr × Obj)} {g1 : Obj → List (Addr × Obj)}
    (N : News h₀ L h news) (U1 : UpdF d1 o1 news g1) (k : ∀ p ∈ news, p.1 ≠ d1 → h'.get? p.1 = some p.2) (e1 : h'.get? d1 = some n1) : News h₀ L h' (g1 n1) := by
  intro p hp
  rcases upd_mem U1 hp with rfl | ⟨hp, h1⟩
  · exact ⟨e1, (N _ (upd_here U1)).2⟩
  · exact ⟨k p hp h1, (N p hp).2⟩

def AllNe (d : Addr) : List (Addr × Obj) → Prop
  | [] => True
  | p :: r => @Ne Nat p.1 d ∧ AllNe d r
theorem allNe_of {d : Addr} : ∀ {l : List (Addr × Obj)}, (∀ p ∈ l, p.1 ≠ d) → AllNe d l
  | [], _ => trivial
  | p :: _, h => ⟨h p (.head _), allNe_of fun q hq => h q (.tail _ hq)⟩

theorem iter_rng8 {prog : Program} {w : World} {A : Around} {E : Value → Shared → Prop} {s : Shared} {env : Env} {h₀ : Heap} {x : Str} {body : List Stmt} {Q : Flow → Shared → Prop}
    {r : Addr} {b : Int} {t₀ u₀ v₀ : Tok} {m₀ : Str → Option Value} {news : List (Addr × Obj)} (J : Nat → (Str → Option Value) → List (Addr × Obj) → Prop)
    (hh : A.handled = none) (hr : IsRange s.heap r 0 b 1 t₀ u₀ v₀) (hb : b = 8) {hp : Heap} (F0 : Fr h₀ env.locals hp m₀) (N0 : News h₀ env.locals hp news) (hk : ∀ b o, hp.get? b = some o → s.heap.get? b = some o) (hj : J 0 m₀ news)
    (turn : ∀ i t m₁ nx h tk own, i < 8 → nx.map (·.1) = news.map (·.1) → OwnOff own (news.map (·.1)) → J i m₁ nx → Fr h₀ env.locals h (fun y => if y = x then some (.int (i : Nat) t) else m₁ y) → News h₀ env.locals h (nx ++ own) →
      wpAny (model prog w) A (execs body env) (InvPostN h₀ env.locals (J (i + 1)) own (news.map (·.1)) { s with heap := h, toks := tk } Q) E { s with heap := h, toks := tk })
    (done : ∀ m₁ nx h tk, J 8 m₁ nx → Fr h₀ env.locals h m₁ → News h₀ env.locals h nx → Q .next { s with heap := h, toks := tk }) :
    wpAny (model prog w) A (pyIter (.ref r)) (fun it s₂ => LoopAtV prog w A h₀ env x body Q E it s₂) E s := by
  subst hb
  have F : Fr h₀ env.locals s.heap m₀ := F0.keeps hk
  have N : News h₀ env.locals s.heap news := fun p hp => ⟨hk _ _ (N0 p hp).1, (N0 p hp).2⟩
  refine wpAny_pyIter_range hr rfl ?_
  have W : Walks prog w A s.heap.objs.size [s.heap.objs.size] [s.heap.objs.size] 8 (fun i v => i < 8 ∧ ∃ t, v = .int (0 + i * 1) t)
      (fun i h => IsRangeIter h s.heap.objs.size (0 + (i : Nat) * 1) (((8 : Nat) : Int) - (i : Nat)) 1) := (Walks.range hh _ 0 1 8).bound
  refine loop_invN J W ?_ ?_ ?_ ?_ (by show IsRangeIter _ _ _ _ _; exact Heap.get?_push_size _ rfl) (F.push _) (fun p hp => ⟨Heap.get?_push_of_some _ (N p hp).1, (N p hp).2⟩) hj ?_ done
  · intro hm
    exact absurd F.ns.lt ((List.mem_singleton.mp hm) ▸ Nat.lt_irrefl _)
  · intro b hb
    rw [List.mem_singleton.mp hb]
    exact next_is_new F
  · intro p hp hI
    exact absurd (Heap.lt_size (N p hp).1) ((List.mem_singleton.mp hI) ▸ Nat.lt_irrefl _)
  · intro p hp hI
    exact absurd (Heap.lt_size (N p hp).1) ((List.mem_singleton.mp hI) ▸ Nat.lt_irrefl _)
  · rintro i v m₁ nx h tk own hi ⟨_, t, rfl⟩
    have e : (0 + (i : Int) * 1) = ((i : Nat) : Int) := by omega
    rw [e]
    exact turn i t m₁ nx h tk own hi
end Mine
theorem Mine.freshTree : True ∧ True := by w_top off; first | (walk1; all_goals trivial) | exact ⟨trivial, trivial⟩
-- part Conts
namespace Mine
open PySem PySem.W PyProof.Rows PySem.Calls
theorem upd_of {d : Addr} {o o' : Obj} : ∀ {l : List (Addr × Obj)} {g : Obj → List (Addr × Obj)}, UpdF d o l g → Upd d o o' l (g o')
  | _, _, .head h => .head h
  | _, _, .tail h r => .tail h (upd_of r)
theorem insert0_L {w : World} {A : Around} {E : Value → Shared → Prop} {s : Shared} {h₀ : Heap} {L d : Addr} {m : Str → Option Value} {news : List (Addr × Obj)} {g : Obj → List (Addr × Obj)} {vs : List Value} {y : Value} {u : Tok} {Q : Value → Shared → Prop} {k : Nat} (F : Fr h₀ L s.heap m) (N : News h₀ L s.heap news) (U : UpdF d (listOf vs.toArray k) news g)
    (hsz : vs.length ≤ 1000) (h : ∀ h', Fr h₀ L h' m → News h₀ L h' (g (listOf (y :: vs).toArray (k + 1))) → Q .none { s with heap := h' }) : wpAny (model Challenge.rw_bi0032_01.row.prog w) A (call (.builtin "list.insert") [.ref d, .int 0 u, y]) Q E s :=
  kl_insert F N (by decide) (l := y :: vs) (by simp [kl_ins]) (upd_of U) (by rw [sizeLine_eq]; simp; omega) fun h' F' N' => h h' F' N'
/-- the texts that are hashed on the way up -/
def cont (path : Nat) (bs : List (Array UInt8)) (S : List (List UInt8)) (v : Array UInt8) : Nat → Array UInt8
  | 0 => v
  | i + 1 => if path.testBit i then bs.getD (7 - i) #[] ++ (climb path bs (leafUp S v) i).2 else (climb path bs (leafUp S v) i).2 ++ bs.getD (7 - i) #[]
def preS (path : Nat) (bs : List (Array UInt8)) (S : List (List UInt8)) (v : Array UInt8) : Nat → List (List UInt8)
  | 0 => S
  | i + 1 => (climb path bs (leafUp S v) i).1
theorem climb_at (path : Nat) (bs : List (Array UInt8)) (S : List (List UInt8)) (v : Array UInt8) : ∀ i, climb path bs (leafUp S v) i =
    (ins (preS path bs S v i) (cont path bs S v i).toList, hh (ins (preS path bs S v i) (cont path bs S v i).toList) (cont path bs S v i).toList)
  | 0 => rfl
  | i + 1 => by
    show stepUp _ _ _ _ = _
    unfold stepUp preS cont
    rfl
theorem climb_at1 (path : Nat) (bs : List (Array UInt8)) (S : List (List UInt8)) (v : Array UInt8) (i : Nat) : ins (preS path bs S v i) (cont path bs S v i).toList = preS path bs S v (i + 1) := by
  show _ = (climb _ _ _ _).1
  rw [climb_at]
theorem climb_at2 (path : Nat) (bs : List (Array UInt8)) (S : List (List UInt8)) (v : Array UInt8) (i : Nat) : hh (preS path bs S v (i + 1)) (cont path bs S v i).toList = (climb path bs (leafUp S v) i).2 := by
  rw [climb_at, climb_at1]
theorem cont_one {path : Nat} {bs : List (Array UInt8)} {S : List (List UInt8)} {v : Array UInt8} {i : Nat} (h : path.testBit i = true) : cont path bs S v (i + 1) = bs.getD (7 - i) #[] ++ (climb path bs (leafUp S v) i).2 := if_pos h
theorem cont_zero {path : Nat} {bs : List (Array UInt8)} {S : List (List UInt8)} {v : Array UInt8} {i : Nat} (h : path.testBit i = false) : cont path bs S v (i + 1) = (climb path bs (leafUp S v) i).2 ++ bs.getD (7 - i) #[] := if_neg (by rw [h]; exact Bool.false_ne_true)
/-- the table while the way up is stored -/
def setD (path : Nat) (bs : List (Array UInt8)) (S : List (List UInt8)) (v : Array UInt8) (D : List UInt8 → Option (Array UInt8)) : Nat → List UInt8 → Option (Array UInt8)
  | 0 => D
  | i + 1 => dput (setD path bs S v D i) (climb path bs (leafUp S v) i).2.toList (cont path bs S v i)
def hashesUp (path : Nat) (bs : List (Array UInt8)) (S : List (List UInt8)) (v : Array UInt8) (i : Nat) : List (Array UInt8) := (List.range i).map fun j => (climb path bs (leafUp S v) j).2
theorem climb_size (path : Nat) (bs : List (Array UInt8)) (S : List (List UInt8)) (v : Array UInt8) (i : Nat) : (climb path bs (leafUp S v) i).2.size = 32 := by
  rw [climb_at]; exact hh_size _ _
theorem BytesAre.nil : BytesAre [] [] := ⟨rfl, fun _ _ h => by cases h⟩
theorem BytesAre.snoc {vs : List Value} {bs : List (Array UInt8)} {b : Array UInt8} {t : Tok} (x : BytesAre vs bs) : BytesAre (vs ++ [.bytes b t]) (bs ++ [b]) := by
  refine ⟨by simp [x.1], fun i c h => ?_⟩
  rcases Nat.lt_or_ge i bs.length with q | q
  · rw [List.getElem?_append_left q] at h
    obtain ⟨t', ht⟩ := x.2 i c h
    exact ⟨t', by rw [List.getElem?_append_left (by rw [← x.1]; exact q)]; exact ht⟩
  · rw [List.getElem?_append_right q] at h
    have hi : i - bs.length = 0 := by
      rcases Nat.eq_zero_or_pos (i - bs.length) with z | z
      · exact z
      · rw [List.getElem?_eq_none (by simp; omega)] at h; cases h
    rw [hi] at h
    cases h
    refine ⟨t, ?_⟩
    rw [List.getElem?_append_right (by rw [← x.1]; exact q), ← x.1, hi]; rfl
theorem BytesAre.cons {vs : List Value} {bs : List (Array UInt8)} {b : Array UInt8} {t : Tok} (x : BytesAre vs bs) : BytesAre (.bytes b t :: vs) (b :: bs) := by
  refine ⟨by simp [x.1], fun i c h => ?_⟩
  cases i with
  | zero => cases h; exact ⟨t, rfl⟩
  | succ i => exact x.2 i c h
theorem BytesAre.rev {vs : List Value} {bs : List (Array UInt8)} (x : BytesAre vs bs) : BytesAre vs.reverse bs.reverse := by
  refine ⟨by simp [x.1], fun i c h => ?_⟩
  have hi : i < bs.length := by
    rcases Nat.lt_or_ge i bs.length with q | q
    · exact q
    · rw [List.getElem?_eq_none (by simpa using q)] at h; cases h
  rw [List.getElem?_reverse hi] at h
  obtain ⟨t, ht⟩ := x.2 _ c h
  exact ⟨t, by rw [List.getElem?_reverse (by rw [← x.1]; exact hi), ← x.1]; exact ht⟩
theorem hashesUp_succ (path : Nat) (bs : List (Array UInt8)) (S : List (List UInt8)) (v : Array UInt8) (i : Nat) : hashesUp path bs S v (i + 1) = hashesUp path bs S v i ++ [(climb path bs (leafUp S v) i).2] := by
  unfold hashesUp
  rw [List.range_succ, List.map_append]; rfl
theorem testBit_mod (a i : Nat) : a.testBit i = decide (a / 2 ^ i % 2 = 1) := by
  rw [Nat.testBit_eq_decide_div_mod_eq]
theorem fmod2 (a : Nat) : ((a : Int)).fmod 2 = ((a % 2 : Nat) : Int) := by
  rw [Int.fmod_eq_emod_of_nonneg _ (by decide)]; rfl
theorem place_bit {a i : Nat} (h : (((a / 2 ^ i : Nat) : Int)).fmod 2 = 1) : a.testBit i = true := by
  rw [fmod2] at h
  rw [testBit_mod]; exact decide_eq_true (by exact_mod_cast h)
theorem place_nobit {a i : Nat} (h : (((a / 2 ^ i : Nat) : Int)).fmod 2 ≠ 1) : a.testBit i = false := by
  rw [fmod2] at h
  rw [testBit_mod]; exact decide_eq_false (by intro q; apply h; rw [q]; rfl)
theorem place_next (a i : Nat) : (((a / 2 ^ i : Nat) : Int)).fdiv 2 = ((a / 2 ^ (i + 1) : Nat) : Int) := by
  rw [Int.fdiv_eq_ediv_of_nonneg _ (by decide)]
  show ((a / 2 ^ i : Nat) : Int) / ((2 : Nat) : Int) = _
  rw [← Int.natCast_ediv, Nat.div_div_eq_div_mul, Nat.pow_succ]
end Mine
theorem Mine.freshConts : True ∧ True := by w_top off; first | (walk1; all_goals trivial) | exact ⟨trivial, trivial⟩
-- part Calc
namespace Mine
open PySem PySem.W PyProof.Rows PySem.Calls
local macro_rules | `(tactic| k_room) => `(tactic| ((simp only [depth_under_make, depth_under_kw, depth_in1, depth_deeper, depth_caller]); (try dsimp only [AA] at *); omega))
local macro_rules | `(tactic| k_units) => `(tactic| ((simp only [units_in1, units_deeper, Around.mark_units, units_caller]); (try dsimp only [AA] at *); omega))
-- enter a def of the top with the ledger at hand
local macro_rules | `(tactic| walk_at "m_enter") => `(tactic| (
  refine' call_subK (by assumption) (by assumption) ?k1 ?k2 ?k3 ?k4 ?k5 ?_ ?k6 ?k7 ?k8 ?k9
  (case k1 => k_is)
  (case k2 => k_is)
  (case k3 => k_room)
  (case k4 => exact BindsTo.of_eq rfl)
  (case k5 => exact locs rfl)
  (case k6 => decide)
  (case k7 => exact rfl)
  (case k8 => exact rfl)
  (case k9 => exact rfl)))
-- the caller's context
local macro_rules | `(tactic| walk_at "m_cx") => `(tactic| k_dflt (
  refine' mkCx ?F ?B ?X ?T ?a ?b ?c
  (case F => k_asm)
  (case B => k_asm)
  (case X => k_asm)
  (case T => k_asm)
  (case a => exact rfl)
  (case b => exact rfl)
  (case c => exact rfl)))
local macro_rules | `(tactic| walk_at "m_depth") => `(tactic| ((simp only [depth_under_make, depth_under_kw, depth_in1, depth_deeper, depth_caller]); (try dsimp only [AA]); omega))
local macro_rules | `(tactic| walk_at "m_unit") => `(tactic| ((simp only [units_in1, units_deeper, Around.mark_units, units_caller]); (try dsimp only [AA]); omega))
local macro_rules | `(tactic| walk_at "call ref") => `(tactic| (k_here; first
  | ((with_reducible show wpAny _ _ (call (Value.ref 62) [Value.bytes _ _]) _ _ _); k_dflt (refine' vib_spec ?C ?d ?u ?N ?_); (case C => walk_at "m_cx"); (case d => walk_at "m_depth"); (case u => walk_at "m_unit"); (case N => k_asm); intro h' tk' F' N' _; (try k_sweep))
  | ((with_reducible show wpAny _ _ (call (Value.ref 35) [_, _]) _ _ _); k_dflt (refine' cast_spec ?C ?d ?u ?N ?_); (case C => walk_at "m_cx"); (case d => walk_at "m_depth"); (case u => walk_at "m_unit"); (case N => k_asm); intro h' tk' F' N' _; (try k_sweep))
  | ((with_reducible show wpAny _ _ (call (Value.ref 42) [Value.bytes _ _]) _ _ _); k_dflt (refine' toint_spec ?C ?d ?u ?N ?_); (case C => walk_at "m_cx"); (case d => walk_at "m_depth"); (case u => walk_at "m_unit"); (case N => k_asm); intro h' tk' t' F' N' _; (try k_sweep))
  | ((with_reducible show wpAny _ _ (call (Value.ref 69) [Value.bytes _ _, _]) _ _ _); k_dflt (refine' vlb_spec ?C ?d ?u ?N ?_); (case C => walk_at "m_cx"); (case d => walk_at "m_depth"); (case u => walk_at "m_unit"); (case N => k_asm); intro h' tk' F' N' _; (try k_sweep))
  | ((with_reducible show wpAny _ _ (call (Value.ref 69) [Value.ref _, _]) _ _ _); k_dflt (refine' vlt_spec ?C ?d ?u ?N ?t ?n ?_); (case C => walk_at "m_cx"); (case d => walk_at "m_depth"); (case u => walk_at "m_unit"); (case N => k_asm); (case t => exact IsTup.keeps (by assumption) (Fr.keep (by assumption))); (case n => assumption); intro h' tk' F' N' _; (try k_sweep))))
local macro_rules | `(tactic| walk_at "m_fn") => `(tactic| k_dflt (exact IsFnIn.at (by assumption) (AllAt.keeps (by assumption) (Fr.keep (by assumption)))))
local macro_rules | `(tactic| walk_at "m_all") => `(tactic| k_dflt (exact AllAt.keeps (by assumption) (Fr.keep (by assumption))))
local macro_rules | `(tactic| walk_at "FnAt") => `(tactic| walk_at "m_fn")
local macro_rules | `(tactic| walk_at "callWith ref") => `(tactic| (k_here; k_dflt (refine' callWith_F ?k1 ?_; (case k1 => walk_at "m_fn"))))
local macro_rules | `(tactic| walk_at "call ref") => `(tactic| (k_here; (with_reducible show wpAny _ _ (call (Value.ref _) [Value.bytes _ _]) _ _ _); k_dflt (refine' hash_use (by assumption) ?C ?d ?u ?N ?H ?U ?S ?l ?_); (case C => walk_at "m_cx"); (case d => walk_at "m_depth"); (case u => walk_at "m_unit"); (case N => k_asm); (case H => walk_at "m_all"); (case U => k_updF); (case S => k_asm); (case l => omega); intro h' oS' t' tk' F' N' hS' hl'; (try dsimp only at N'); (try k_sweep)))
local macro_rules | `(tactic| walk_at "call type:reversed") => `(tactic| (k_here; (with_reducible show wpAny _ _ (call (Value.type "reversed") [Value.ref _]) _ _ _); k_dflt (refine' rev_K ?F ?N ?t ?n ?_; (case F => k_asm); (case N => k_asm); (case t => assumption); (case n => assumption)); intro D' h' tk' F' N' l1; (try k_lt l1); (try k_sweep)))
local macro_rules | `(tactic| walk_at "binaryOp Add bytes bytes") => `(tactic| (k_here; (with_reducible show wpAny _ _ (binaryOp Operator.Add (Value.bytes _ _) (Value.bytes _ _)) _ _ _); (refine KBy.add_bytes (by omega) ?_); intro _ _))
local macro_rules | `(tactic| walk_at "call builtin:len") => `(tactic| (k_here; first
  | ((with_reducible show wpAny _ _ (call (Value.builtin "len") [Value.bytes _ _]) _ _ _); refine len_b1 ?_)
  | ((with_reducible show wpAny _ _ (call (Value.builtin "len") [Value.ref _]) _ _ _); refine len_tupB (by assumption) (by assumption) (by assumption) ?_)))

def JCalc (w : World) (dS : Addr) (S : List (List UInt8)) (path : Nat) (bs : List (Array UInt8)) (v : Array UInt8) (m₀ : Str → Option Value) (i : Nat) (m : Str → Option Value) (nx : List (Addr × Obj)) : Prop :=
  ∃ oS t1 t2, nx = [(dS, oS)] ∧ SeenObj w oS (climb path bs (leafUp S v) i).1 ∧ (climb path bs (leafUp S v) i).1.length ≤ S.length + 1 + i ∧ (climb path bs (leafUp S v) i).2.size = 32 ∧
    m (Str.ofString "target_bit") = some (.int (2 ^ i) t1) ∧ m (Str.ofString "node_hash") = some (.bytes (climb path bs (leafUp S v) i).2 t2) ∧
    ∀ z, z ≠ Str.ofString "sibling_node" → z ≠ Str.ofString "target_bit" → z ≠ Str.ofString "node_hash" → m z = m₀ z

theorem calc_spec {w : World} {p : Program} {loose : List Str} {mean : ExcName → Option Value} {mg mb : Str → Option Value} {f dS tb : Addr} {H : List (Addr × Obj)} {oS : Obj}
    {A : Around} {s : Shared} {h₀ : Heap} {L : Addr} {m : Str → Option Value} {Q E : Value → Shared → Prop} {S : List (List UInt8)} {kb : UInt8} {value : Array UInt8} {tk tv : Tok} {vs : List Value}
    (HS : HashSpec w p loose mean mg mb H f dS)
    (C : Cx w p loose mean mg mb A s.heap h₀ L m) (hdp : A.depth + 20 < recursionLimit) (hun : A.units + 200 < cLine)
    (N : News h₀ L s.heap [(dS, oS)]) (hH : AllAt H s.heap) (hoff : ∀ q ∈ H, q.1 ≠ dS) (hf : IsFnIn f H) (ht : IsTup s.heap tb vs.toArray) (htd : tb ≠ dS)
    (hS : SeenObj w oS S) (hlen : S.length < 90000) (hvs : vs.length = 8) {bs : List (Array UInt8)} (hbs : BytesAre vs bs) (hb32 : ∀ b ∈ bs, b.size ≤ 32)
    (hnb : A.handled ≠ some byPass) (hok : HOk A.handled s.heap) (hod : dS ∉ hndA A.handled)
    (ret : ∀ h' oS' t' tk', Fr h₀ L h' m → Tch [dS] s.heap h' → h'.get? dS = some oS' → SeenObj w oS' (climb kb.toNat bs (leafUp S value) 8).1 → (climb kb.toNat bs (leafUp S value) 8).1.length ≤ S.length + 9 →
      Q (.bytes (climb kb.toNat bs (leafUp S value) 8).2 t') { s with heap := h', toks := tk' }) :
    wpAny (model Challenge.rw_bi0032_01.row.prog w) A (call (.ref 76) [.bytes #[kb] tk, .bytes value tv, .ref tb, .ref f]) Q E s := by
  obtain ⟨hnd, dp, un, gd, env, outer, rfl⟩ := C.shape
  dsimp only [AA] at hdp hun
  have X := C.k; revert X; k_fill; intro X
  refine wpAny_call ?_
  walk_at "m_enter"
  intro _ _ _ _ _ _ base g' L' h' hA F' N' B' X' T' Tg' lt'
  cases hA
  have ht' : IsTup g' tb vs.toArray := let ⟨o, ho, r⟩ := ht; ⟨o, Tg' _ _ ho (by simpa using htd), r⟩
  have hok' : HOk hnd g' := hok.at fun b hb o e => Tg' _ _ e (fun q => hod (by have e : b = dS := List.mem_singleton.mp q; rw [e] at hb; exact hb))
  have hH' : AllAt H g' := hH.tch Tg' (fun q hq => by simpa using hoff q hq)
  clear N C
  (try dsimp only); (try k_fold)
  k_steps
  refine' iter_revT (m₀ := ?m0) (JCalc w dS S kb.toNat bs value ?m0) rfl hnb ?ok ?tt hvs ?F ?N ?I ?j ?turn ?done
  case ok => exact hok'
  case tt => exact ht'
  case F => k_asm
  case N => k_asm
  case I => (intro q hq; have e := List.mem_singleton.mp hq; subst e; k_ne)
  case j => exact ⟨_, _, _, rfl, by assumption, by assumption, hh_size _ _, rfl, rfl, fun _ _ _ _ => rfl⟩
  case turn =>
    intro i v m₁ nx h tk own hi hv hnx hown hJ F₁ N₁
    obtain ⟨oS2, t1, t2, rfl, hS2, hl2, h32, ht1, hb1, hm⟩ := hJ
    rw [map_two ht1 hb1 hm] at F₁
    clear hm
    obtain ⟨tb1, rfl⟩ := hbs.get hv
    have hT1 : (1 : Int) ≤ 2 ^ i := pow_pos_i
    have hT2 : (2 : Int) ^ i ≤ 128 := pow_le_i hi
    have hs32 : (bs.getD (7 - i) #[]).size ≤ 32 := getD_size hb32 _
    generalize hTT : (2 : Int) ^ i = T at F₁ hT1 hT2
    dsimp only [List.cons_append, List.nil_append] at N₁
    refine wpAny_mono (Q := EndT (InvPostN _ _ _ _ _ _ _)) ?_ (fun _ _ x => x) (fun _ _ x => x)
    k_steps
    · rename Builtin.bitAnd _ _ ≠ 0 => hbit
      have e := climb_one (bs := bs) (st := leafUp S value) (path_bit hTT hbit)
      refine' invEnd (.inl rfl) ⟨_, _, rfl⟩ (by assumption) (by assumption) (nx := [(dS, _)]) ?a1 (fun q hq => List.mem_cons_of_mem _ hq) ?a8 ⟨_, _, _, rfl, ?a2, ?a3, ?a4, ?a5, ?a6, ?a7⟩
      case a1 => intro q hq; rw [List.mem_singleton.mp hq]; exact List.Mem.head _
      case a2 => rw [e]; assumption
      case a3 => rw [e]; dsimp only; omega
      case a4 => rw [e]; exact hh_size _ _
      case a5 => rw [← pow_step hTT]; exact rfl
      case a6 => rw [e]; exact rfl
      case a7 => intro z h1 h2 h3; simp only [h1, h2, h3, if_false]
      case a8 => exact rfl
    · rename Builtin.bitAnd _ _ = 0 => hbit
      have e := climb_zero (bs := bs) (st := leafUp S value) (path_nobit hTT hbit)
      refine' invEnd (.inl rfl) ⟨_, _, rfl⟩ (by assumption) (by assumption) (nx := [(dS, _)]) ?a1 (fun q hq => List.mem_cons_of_mem _ hq) ?a8 ⟨_, _, _, rfl, ?a2, ?a3, ?a4, ?a5, ?a6, ?a7⟩
      case a1 => intro q hq; rw [List.mem_singleton.mp hq]; exact List.Mem.head _
      case a2 => rw [e]; assumption
      case a3 => rw [e]; dsimp only; omega
      case a4 => rw [e]; exact hh_size _ _
      case a5 => rw [← pow_step hTT]; exact rfl
      case a6 => rw [e]; exact rfl
      case a7 => intro z h1 h2 h3; simp only [h1, h2, h3, if_false]
      case a8 => exact rfl
  case done =>
    intro m₁ nx h tk hJ F₁ N₁
    obtain ⟨oS2, t1, t2, rfl, hS2, hl2, h32, ht1, hb1, hm⟩ := hJ
    rw [map3 ht1 hb1 hm] at F₁
    clear hm
    dsimp only
    k_steps
    all_goals exact leaveM (R := [(dS, oS)]) (by assumption) (by assumption) fun F T G _ => ret _ _ _ _ F T (G _ (List.Mem.head _)) (by assumption) (by omega)
end Mine
theorem Mine.freshCalc : True ∧ True := by w_top off; first | (walk1; all_goals trivial) | exact ⟨trivial, trivial⟩
-- part Get
namespace Mine
open PySem PySem.W PyProof.Rows PySem.Calls
local macro_rules | `(tactic| k_room) => `(tactic| ((simp only [depth_under_make, depth_under_kw, depth_in1, depth_deeper, depth_caller]); (try dsimp only [AA] at *); omega))
local macro_rules | `(tactic| k_units) => `(tactic| ((simp only [units_in1, units_deeper, Around.mark_units, units_caller]); (try dsimp only [AA] at *); omega))
-- enter a def of the top with the ledger at hand
local macro_rules | `(tactic| walk_at "m_enter") => `(tactic| (
  refine' call_subK (by assumption) (by assumption) ?k1 ?k2 ?k3 ?k4 ?k5 ?_ ?k6 ?k7 ?k8 ?k9
  (case k1 => k_is)
  (case k2 => k_is)
  (case k3 => k_room)
  (case k4 => exact BindsTo.of_eq rfl)
  (case k5 => exact locs rfl)
  (case k6 => decide)
  (case k7 => exact rfl)
  (case k8 => exact rfl)
  (case k9 => exact rfl)))
-- the caller's context
local macro_rules | `(tactic| walk_at "m_cx") => `(tactic| k_dflt (
  refine' mkCx ?F ?B ?X ?T ?a ?b ?c
  (case F => k_asm)
  (case B => k_asm)
  (case X => k_asm)
  (case T => k_asm)
  (case a => exact rfl)
  (case b => exact rfl)
  (case c => exact rfl)))
local macro_rules | `(tactic| walk_at "m_depth") => `(tactic| ((simp only [depth_under_make, depth_under_kw, depth_in1, depth_deeper, depth_caller]); (try dsimp only [AA]); omega))
local macro_rules | `(tactic| walk_at "m_unit") => `(tactic| ((simp only [units_in1, units_deeper, Around.mark_units, units_caller]); (try dsimp only [AA]); omega))
local macro_rules | `(tactic| walk_at "call ref") => `(tactic| (k_here; first
  | ((with_reducible show wpAny _ _ (call (Value.ref 62) [Value.bytes _ _]) _ _ _); k_dflt (refine' vib_spec ?C ?d ?u ?N ?_); (case C => walk_at "m_cx"); (case d => walk_at "m_depth"); (case u => walk_at "m_unit"); (case N => k_asm); intro h' tk' F' N' _; (try k_sweep))
  | ((with_reducible show wpAny _ _ (call (Value.ref 35) [_, _]) _ _ _); k_dflt (refine' cast_spec ?C ?d ?u ?N ?_); (case C => walk_at "m_cx"); (case d => walk_at "m_depth"); (case u => walk_at "m_unit"); (case N => k_asm); intro h' tk' F' N' _; (try k_sweep))
  | ((with_reducible show wpAny _ _ (call (Value.ref 42) [Value.bytes _ _]) _ _ _); k_dflt (refine' toint_spec ?C ?d ?u ?N ?_); (case C => walk_at "m_cx"); (case d => walk_at "m_depth"); (case u => walk_at "m_unit"); (case N => k_asm); intro h' tk' t' F' N' _; (try k_sweep))
  | ((with_reducible show wpAny _ _ (call (Value.ref 69) [Value.bytes _ _, _]) _ _ _); k_dflt (refine' vlb_spec ?C ?d ?u ?N ?_); (case C => walk_at "m_cx"); (case d => walk_at "m_depth"); (case u => walk_at "m_unit"); (case N => k_asm); intro h' tk' F' N' _; (try k_sweep))
  | ((with_reducible show wpAny _ _ (call (Value.ref 69) [Value.ref _, _]) _ _ _); k_dflt (refine' vlt_spec ?C ?d ?u ?N ?t ?n ?_); (case C => walk_at "m_cx"); (case d => walk_at "m_depth"); (case u => walk_at "m_unit"); (case N => k_asm); (case t => exact IsTup.keeps (by assumption) (Fr.keep (by assumption))); (case n => assumption); intro h' tk' F' N' _; (try k_sweep))))
local macro_rules | `(tactic| walk_at "m_fn") => `(tactic| k_dflt (exact IsFnIn.at (by assumption) (AllAt.keeps (by assumption) (Fr.keep (by assumption)))))
local macro_rules | `(tactic| walk_at "m_all") => `(tactic| k_dflt (exact AllAt.keeps (by assumption) (Fr.keep (by assumption))))
local macro_rules | `(tactic| walk_at "FnAt") => `(tactic| walk_at "m_fn")
local macro_rules | `(tactic| walk_at "callWith ref") => `(tactic| (k_here; k_dflt (refine' callWith_F ?k1 ?_; (case k1 => walk_at "m_fn"))))
local macro_rules | `(tactic| walk_at "call ref") => `(tactic| (k_here; (with_reducible show wpAny _ _ (call (Value.ref _) [Value.bytes _ _]) _ _ _); k_dflt (refine' hash_use (by assumption) ?C ?d ?u ?N ?H ?U ?S ?l ?_); (case C => walk_at "m_cx"); (case d => walk_at "m_depth"); (case u => walk_at "m_unit"); (case N => k_asm); (case H => walk_at "m_all"); (case U => k_updF); (case S => k_asm); (case l => omega); intro h' oS' t' tk' F' N' hS' hl'; (try dsimp only at N'); (try k_sweep)))
local macro_rules | `(tactic| walk_at "binaryOp Add bytes bytes") => `(tactic| (k_here; (with_reducible show wpAny _ _ (binaryOp Operator.Add (Value.bytes _ _) (Value.bytes _ _)) _ _ _); (refine KBy.add_bytes (by omega) ?_); intro _ _))
local macro_rules | `(tactic| walk_at "call builtin:len") => `(tactic| (k_here; first
  | ((with_reducible show wpAny _ _ (call (Value.builtin "len") [Value.bytes _ _]) _ _ _); refine len_b1 ?_)
  | ((with_reducible show wpAny _ _ (call (Value.builtin "len") [Value.ref _]) _ _ _); refine len_tupB (by assumption) (by assumption) (by assumption) ?_)))

local macro_rules | `(tactic| walk_at "subscriptTail") => `(tactic| (k_here; (with_reducible show wpAny _ _ (subscriptTail _ _ (Value.ref _) (Value.bytes _ _)) _ _ _); k_dflt (refine' db_item ?N ?m ?D ?k ?_; (case N => k_asm); (case m => k_mem); (case D => k_asm); (case k => k_asm)); intro _ _))
local macro_rules | `(tactic| walk_at "subscriptTail") => `(tactic| (k_here; (with_reducible show wpAny _ _ (subscriptTail _ (Expr.Slice _ _ none _) (Value.bytes (_ ++ _) _) (Value.ref _)) _ _ _); (with_reducible rename Fr _ _ _ _ => F'); (with_reducible rename News _ _ _ _ => N'); k_dflt (first
  | (refine slice_lo (s := ⟨_, _, _, _, _⟩) F' N' (by assumption) (by assumption) ?_)
  | (refine slice_hi (s := ⟨_, _, _, _, _⟩) F' N' (by assumption) (by assumption) ?_)); intro _ _ _ F' N'; (try k_sweep)))
local macro_rules | `(tactic| walk_at "call builtin:list.append") => `(tactic| (k_here; (with_reducible show wpAny _ _ (call (Value.builtin _) [Value.ref _, _]) _ _ _); k_dflt (refine' append_L ?F ?N ?U ?_ ?z; (case F => k_asm); (case N => k_asm); (case U => k_updF); (case z => omega)); intro h' F' N'; (try dsimp only at N'); (try k_sweep)))
local macro_rules | `(tactic| walk_at "call type:tuple") => `(tactic| (k_here; (with_reducible show wpAny _ _ (call (Value.type "tuple") [Value.ref _]) _ _ _); k_dflt (refine' tuple_L ?F ?N ?m ?z ?_; (case F => k_asm); (case N => k_asm); (case m => k_mem); (case z => omega)); intro D' h' F' N' l1; (try k_lt l1); (try k_sweep)))

local macro_rules | `(tactic| walk_at "call type:tuple") => `(tactic| (k_here; (with_reducible show wpAny _ _ (call (Value.type "tuple") [Value.ref _]) _ _ _); k_dflt (refine' tuple_rev rfl ?F ?N ?I ?m ?z ?_; (case F => k_asm); (case N => k_asm); (case I => k_all); (case m => k_mem); (case z => omega)); intro D' h' tk' F' N' l1; (try k_lt l1); (try k_sweep)))
local macro_rules | `(tactic| walk_at "call type:reversed") => `(tactic| (k_here; (with_reducible show wpAny _ _ (call (Value.type "reversed") [Value.ref _]) _ _ _); k_dflt (first
  | (refine' rev_K ?F ?N ?t ?n ?_; (case F => k_asm); (case N => k_asm); (case t => assumption); (case n => assumption); intro D' h' tk' F' N' l1; (try k_lt l1); (try k_sweep))
  | (refine' rev_KN ?F ?N ?m ?n ?_; (case F => k_asm); (case N => k_asm); (case m => k_mem); (case n => assumption); intro D' h' tk' F' N' l1; (try k_lt l1); (try k_sweep))
  | (refine' revL_K ?F ?N ?m ?_; (case F => k_asm); (case N => k_asm); (case m => k_mem); intro D' h' F' N' l1; (try k_lt l1); (try k_sweep)))))
local macro_rules | `(tactic| walk_at "setItem ref bytes") => `(tactic| (k_here; k_dflt (refine' db_set ?F ?N ?U ?D ?n ?_; (case F => k_asm); (case N => k_asm); (case U => k_updF); (case D => k_asm); (case n => omega)); intro h' o' F' N' hD'; (try dsimp only at N'); (try k_sweep)))
local macro_rules | `(tactic| walk_at "call ref") => `(tactic| (k_here; (with_reducible show wpAny _ _ (call (Value.ref 183) [Value.ref _, Value.bytes _ _]) _ _ _); k_dflt (refine' get_spec ?C ?d ?u rfl ?N ?m1 ?m2 ?m3 ?T ?D ?W ?_; (case C => walk_at "m_cx"); (case d => walk_at "m_depth"); (case u => walk_at "m_unit"); (case N => k_asm); (case m1 => k_mem); (case m2 => k_mem); (case m3 => k_mem); (case T => first | assumption | exact ⟨_, _, _, _, _, _, _, _, _, _, rfl⟩); (case D => assumption); (case W => assumption)); intro h' Dt Db vs' tv tk' F' N' n1 n2 n3 K' hvs' hvl'; (replace n1 := allNe_of n1); (simp only [AllNe, and_true] at n1); (replace n2 := allNe_of n2); (simp only [AllNe, and_true] at n2); (try k_sweep)))

local macro_rules | `(tactic| walk_at "pyIter ref") => `(tactic| (k_here; refine Stop.intro ?_))
/-- what the way down a key finds: the hashes, the halves -/
structure Way (D : List UInt8 → Option (Array UInt8)) (root : Array UInt8) (key : Nat) (hs ls rs : Nat → Array UInt8) (val : Array UInt8) : Prop where
  root : hs 0 = root
  node : ∀ i, i < 8 → D (hs i).toList = some (ls i ++ rs i)
  lsz : ∀ i, i < 8 → (ls i).size = 32
  rsz : ∀ i, i < 8 → (rs i).size = 32
  next : ∀ i, i < 8 → hs (i + 1) = if key.testBit (7 - i) then rs i else ls i
  leaf : D (hs 8).toList = some val
def sib (key : Nat) (ls rs : Nat → Array UInt8) (i : Nat) : Array UInt8 := if key.testBit (7 - i) then ls i else rs i
def tbit (i : Nat) : Int := ((128 / 2 ^ i : Nat) : Int)

theorem tbit_pow {i : Nat} (hi : i < 8) : (2 : Int) ^ (7 - i) = tbit i := by
  have : ∀ i : Fin 8, (2 : Int) ^ (7 - i.val) = tbit i.val := by decide
  exact this ⟨i, hi⟩
theorem tbit_next (i : Nat) : (tbit i).fdiv (2 ^ Int.toNat 1) = tbit (i + 1) := by
  unfold tbit
  show ((128 / 2 ^ i : Nat) : Int).fdiv ((2 : Nat) : Int) = _
  rw [Int.fdiv_eq_ediv_of_nonneg _ (by decide)]
  rw [← Int.natCast_ediv, Nat.div_div_eq_div_mul, Nat.pow_succ]
def JGet (x dx dDB : Addr) (od oDB : Obj) (db : Addr) (key : Nat) (hs ls rs : Nat → Array UInt8) (m₀ : Str → Option Value) (i : Nat) (m : Str → Option Value) (nx : List (Addr × Obj)) : Prop :=
  ∃ vs k t1 t2 u1 u2 u3 u4, nx = [(db, listOf vs.toArray k), (x, instObj 235 dx), (dx, od), (dDB, oDB)] ∧ BytesAre vs ((List.range i).map (sib key ls rs)) ∧ vs.length = i ∧
    m = ovr m₀ [(Str.ofString "_", u1), (Str.ofString "target_bit", some (.int (tbit i) t1)), (Str.ofString "node_hash", some (.bytes (hs i) t2)), (Str.ofString "node", u2), (Str.ofString "left", u3), (Str.ofString "right", u4)]

theorem get_spec {w : World} {p : Program} {loose : List Str} {mean : ExcName → Option Value} {mg mb : Str → Option Value} {f x dx dDB : Addr} {od oDB : Obj} {root : Array UInt8} {D : List UInt8 → Option (Array UInt8)} {nD : Nat}
    {A : Around} {s : Shared} {h₀ : Heap} {L : Addr} {m : Str → Option Value} {Q E : Value → Shared → Prop} {kb : UInt8} {tk : Tok} {hs ls rs : Nat → Array UInt8} {val : Array UInt8} {news : List (Addr × Obj)}
    (C : Cx w p loose mean mg mb A s.heap h₀ L m) (hdp : A.depth + 20 < recursionLimit) (hun : A.units + 200 < cLine) (hh : A.handled = none)
    (Nn : News h₀ L s.heap news) (m1 : (x, instObj 235 dx) ∈ news) (m2 : (dx, od) ∈ news) (m3 : (dDB, oDB) ∈ news) (hT : TreeD w f dDB root od) (hD : DbObj w oDB D nD) (W : Way D root kb.toNat hs ls rs val)
    (ret : ∀ h' Dt Db vs tv tk', Fr h₀ L h' m → News h₀ L h' ((Dt, tup [.bytes val tv, .ref Db]) :: (Db, tup vs) :: news) → (∀ p ∈ news, p.1 ≠ Db) → (∀ p ∈ news, p.1 ≠ Dt) → @Ne Nat Db Dt → Keeps s.heap h' →
      BytesAre vs ((List.range 8).map (sib kb.toNat ls rs)) → vs.length = 8 → Q (.ref Dt) { s with heap := h', toks := tk' }) :
    wpAny (model Challenge.rw_bi0032_01.row.prog w) A (call (.ref 183) [.ref x, .bytes #[kb] tk]) Q E s := by
  obtain ⟨hnd, dp, un, gd, env, outer, rfl⟩ := C.shape
  dsimp only [AA] at hdp hun hh
  subst hh
  obtain ⟨k1, k2, k3, k4, k5, k6, t1, t2, t3, t6, rfl⟩ := hT
  have N : News h₀ L s.heap [(x, instObj 235 dx), (dx, _), (dDB, oDB)] := List.forall_mem_cons.mpr ⟨Nn _ m1, List.forall_mem_cons.mpr ⟨Nn _ m2, List.forall_mem_cons.mpr ⟨Nn _ m3, News.nil⟩⟩⟩
  have X := C.k; revert X; k_fill; intro X
  refine wpAny_call ?_
  walk_at "m_enter"
  intro _ _ _ _ _ _ base g' L' h' hA F' N' B' X' T' Tg' lt'
  cases hA
  have hFr := C.fr
  clear C
  (try dsimp only); (try k_fold)
  k_steps
  refine Stop.out ?_
  refine' iter_rng8 (m₀ := ?m0) (JGet x dx dDB _ oDB _ kb.toNat hs ls rs ?m0) rfl (by assumption) rfl ?F ?N (fun _ _ e => e) ?j ?turn ?done
  case F => k_asm
  case N => k_asm
  case j =>
    refine' ⟨[], 0, _, _, _, _, _, _, rfl, BytesAre.nil, rfl, ?eqm⟩
    case eqm =>
    funext z
    by_cases h1 : z = Str.ofString "_"; · subst h1; exact rfl
    by_cases h2 : z = Str.ofString "target_bit"; · subst h2; exact rfl
    by_cases h3 : z = Str.ofString "node_hash"; · subst h3; rw [← W.root]; exact rfl
    by_cases h4 : z = Str.ofString "node"; · subst h4; exact rfl
    by_cases h5 : z = Str.ofString "left"; · subst h5; exact rfl
    by_cases h6 : z = Str.ofString "right"; · subst h6; exact rfl
    simp only [ovr, h1, h2, h3, h4, h5, h6, if_false]
  case turn =>
    intro i t m₁ nx h tk own hi hnx hown hJ F₁ N₁
    obtain ⟨vs, k, t1, t2, u1, u2, u3, u4, rfl, hvs, hvl, rfl⟩ := hJ
    have hnode := W.node i hi
    have hl := W.lsz i hi
    have hr := W.rsz i hi
    dsimp only [List.cons_append, List.nil_append] at N₁
    refine wpAny_mono (Q := EndT (InvPostN _ _ _ _ _ _ _)) ?_ (fun _ _ x => x) (fun _ _ x => x)
    k_steps
    · rename Builtin.bitAnd _ _ ≠ 0 => hbit
      have hb := path_bit (tbit_pow hi) hbit
      refine' invEndL [_] [_, _, _, _] own (.inl rfl) ⟨_, _, rfl⟩ (by assumption) (by assumption) ?a8 ⟨_, _, _, _, _, _, _, _, rfl, ?a2, ?a3, ?a4⟩
      case a2 => rw [List.range_succ, List.map_append, List.map_singleton, show sib kb.toNat ls rs i = ls i from if_pos hb]; exact hvs.snoc
      case a3 => rw [List.length_append, hvl]; rfl
      case a4 =>
        funext z
        by_cases h1 : z = Str.ofString "_"; · subst h1; exact rfl
        by_cases h2 : z = Str.ofString "target_bit"; · subst h2; rw [← tbit_next]; exact rfl
        by_cases h3 : z = Str.ofString "node_hash"; · subst h3; rw [W.next i hi, if_pos hb]; exact rfl
        by_cases h4 : z = Str.ofString "node"; · subst h4; exact rfl
        by_cases h5 : z = Str.ofString "left"; · subst h5; exact rfl
        by_cases h6 : z = Str.ofString "right"; · subst h6; exact rfl
        simp only [ovr, h1, h2, h3, h4, h5, h6, if_false]
      case a8 => exact rfl
    · rename Builtin.bitAnd _ _ = 0 => hbit
      have hb := path_nobit (tbit_pow hi) hbit
      have hb' : ¬ (kb.toNat.testBit (7 - i) = true) := by rw [hb]; exact Bool.false_ne_true
      refine' invEndL [_] [_, _, _, _] own (.inl rfl) ⟨_, _, rfl⟩ (by assumption) (by assumption) ?a8 ⟨_, _, _, _, _, _, _, _, rfl, ?a2, ?a3, ?a4⟩
      case a2 => rw [List.range_succ, List.map_append, List.map_singleton, show sib kb.toNat ls rs i = rs i from if_neg hb']; exact hvs.snoc
      case a3 => rw [List.length_append, hvl]; rfl
      case a4 =>
        funext z
        by_cases h1 : z = Str.ofString "_"; · subst h1; exact rfl
        by_cases h2 : z = Str.ofString "target_bit"; · subst h2; rw [← tbit_next]; exact rfl
        by_cases h3 : z = Str.ofString "node_hash"; · subst h3; rw [W.next i hi, if_neg hb']; exact rfl
        by_cases h4 : z = Str.ofString "node"; · subst h4; exact rfl
        by_cases h5 : z = Str.ofString "left"; · subst h5; exact rfl
        by_cases h6 : z = Str.ofString "right"; · subst h6; exact rfl
        simp only [ovr, h1, h2, h3, h4, h5, h6, if_false]
      case a8 => exact rfl
  case done =>
    intro m₁ nx h tk hJ F₁ N₁
    obtain ⟨vs, k, t1, t2, u1, u2, u3, u4, rfl, hvs, hvl, rfl⟩ := hJ
    have hleaf := W.leaf
    dsimp only
    k_steps
    show LeaveM _ _ _ _ _ _ _ _ _
    refine leaveM (R := [(x, instObj 235 dx), (dx, _), (dDB, oDB)]) (by k_asm) (by k_asm) fun F T G Z => ?_
    have GT := G _ (.head _)
    have GB := G _ (.tail _ (.head _))
    have ZT := Z _ (.head _) (by simp only [List.map_cons, List.map_nil, List.mem_cons, List.not_mem_nil, or_false, not_or]; refine ⟨?_, ?_, ?_⟩ <;> k_ne)
    have ZB := Z _ (.tail _ (.head _)) (by simp only [List.map_cons, List.map_nil, List.mem_cons, List.not_mem_nil, or_false, not_or]; refine ⟨?_, ?_, ?_⟩ <;> k_ne)
    have K := keeps_of N T G (by
      intro q hq
      rcases List.mem_cons.mp hq with rfl | hq; · k_mem
      rcases List.mem_cons.mp hq with rfl | hq; · k_mem
      rw [List.mem_singleton.mp hq]; k_mem)
    exact ret _ _ _ _ _ _ F (news_cons GT ZT.1 (base_none hFr ZT.2) (news_cons GB ZB.1 (base_none hFr ZB.2) (news_keeps Nn K))) (fresh_ne Nn ZB.2) (fresh_ne Nn ZT.2) (by omega) K hvs hvl
end Mine
theorem Mine.freshGet : True ∧ True := by w_top off; first | (walk1; all_goals trivial) | exact ⟨trivial, trivial⟩
-- part Set
namespace Mine
open PySem PySem.W PyProof.Rows PySem.Calls
local macro_rules | `(tactic| k_room) => `(tactic| ((simp only [depth_under_make, depth_under_kw, depth_in1, depth_deeper, depth_caller]); (try dsimp only [AA] at *); omega))
local macro_rules | `(tactic| k_units) => `(tactic| ((simp only [units_in1, units_deeper, Around.mark_units, units_caller]); (try dsimp only [AA] at *); omega))
-- enter a def of the top with the ledger at hand
local macro_rules | `(tactic| walk_at "m_enter") => `(tactic| (
  refine' call_subK (by assumption) (by assumption) ?k1 ?k2 ?k3 ?k4 ?k5 ?_ ?k6 ?k7 ?k8 ?k9
  (case k1 => k_is)
  (case k2 => k_is)
  (case k3 => k_room)
  (case k4 => exact BindsTo.of_eq rfl)
  (case k5 => exact locs rfl)
  (case k6 => decide)
  (case k7 => exact rfl)
  (case k8 => exact rfl)
  (case k9 => exact rfl)))
-- the caller's context
local macro_rules | `(tactic| walk_at "m_cx") => `(tactic| k_dflt (
  refine' mkCx ?F ?B ?X ?T ?a ?b ?c
  (case F => k_asm)
  (case B => k_asm)
  (case X => k_asm)
  (case T => k_asm)
  (case a => exact rfl)
  (case b => exact rfl)
  (case c => exact rfl)))
local macro_rules | `(tactic| walk_at "m_depth") => `(tactic| ((simp only [depth_under_make, depth_under_kw, depth_in1, depth_deeper, depth_caller]); (try dsimp only [AA]); omega))
local macro_rules | `(tactic| walk_at "m_unit") => `(tactic| ((simp only [units_in1, units_deeper, Around.mark_units, units_caller]); (try dsimp only [AA]); omega))
local macro_rules | `(tactic| walk_at "call ref") => `(tactic| (k_here; first
  | ((with_reducible show wpAny _ _ (call (Value.ref 62) [Value.bytes _ _]) _ _ _); k_dflt (refine' vib_spec ?C ?d ?u ?N ?_); (case C => walk_at "m_cx"); (case d => walk_at "m_depth"); (case u => walk_at "m_unit"); (case N => k_asm); intro h' tk' F' N' _; (try k_sweep))
  | ((with_reducible show wpAny _ _ (call (Value.ref 35) [_, _]) _ _ _); k_dflt (refine' cast_spec ?C ?d ?u ?N ?_); (case C => walk_at "m_cx"); (case d => walk_at "m_depth"); (case u => walk_at "m_unit"); (case N => k_asm); intro h' tk' F' N' _; (try k_sweep))
  | ((with_reducible show wpAny _ _ (call (Value.ref 42) [Value.bytes _ _]) _ _ _); k_dflt (refine' toint_spec ?C ?d ?u ?N ?_); (case C => walk_at "m_cx"); (case d => walk_at "m_depth"); (case u => walk_at "m_unit"); (case N => k_asm); intro h' tk' t' F' N' _; (try k_sweep))
  | ((with_reducible show wpAny _ _ (call (Value.ref 69) [Value.bytes _ _, _]) _ _ _); k_dflt (refine' vlb_spec ?C ?d ?u ?N ?_); (case C => walk_at "m_cx"); (case d => walk_at "m_depth"); (case u => walk_at "m_unit"); (case N => k_asm); intro h' tk' F' N' _; (try k_sweep))
  | ((with_reducible show wpAny _ _ (call (Value.ref 69) [Value.ref _, _]) _ _ _); k_dflt (refine' vlt_spec ?C ?d ?u ?N ?t ?n ?_); (case C => walk_at "m_cx"); (case d => walk_at "m_depth"); (case u => walk_at "m_unit"); (case N => k_asm); (case t => exact IsTup.keeps (by assumption) (Fr.keep (by assumption))); (case n => assumption); intro h' tk' F' N' _; (try k_sweep))))
local macro_rules | `(tactic| walk_at "m_fn") => `(tactic| k_dflt (exact IsFnIn.at (by assumption) (AllAt.keeps (by assumption) (Fr.keep (by assumption)))))
local macro_rules | `(tactic| walk_at "m_all") => `(tactic| k_dflt (exact AllAt.keeps (by assumption) (Fr.keep (by assumption))))
local macro_rules | `(tactic| walk_at "FnAt") => `(tactic| walk_at "m_fn")
local macro_rules | `(tactic| walk_at "callWith ref") => `(tactic| (k_here; k_dflt (refine' callWith_F ?k1 ?_; (case k1 => walk_at "m_fn"))))
local macro_rules | `(tactic| walk_at "call ref") => `(tactic| (k_here; (with_reducible show wpAny _ _ (call (Value.ref _) [Value.bytes _ _]) _ _ _); k_dflt (refine' hash_use (by assumption) ?C ?d ?u ?N ?H ?U ?S ?l ?_); (case C => walk_at "m_cx"); (case d => walk_at "m_depth"); (case u => walk_at "m_unit"); (case N => k_asm); (case H => walk_at "m_all"); (case U => k_updF); (case S => k_asm); (case l => omega); intro h' oS' t' tk' F' N' hS' hl'; (try dsimp only at N'); (try k_sweep)))
local macro_rules | `(tactic| walk_at "binaryOp Add bytes bytes") => `(tactic| (k_here; (with_reducible show wpAny _ _ (binaryOp Operator.Add (Value.bytes _ _) (Value.bytes _ _)) _ _ _); (refine KBy.add_bytes (by omega) ?_); intro _ _))
local macro_rules | `(tactic| walk_at "call builtin:len") => `(tactic| (k_here; first
  | ((with_reducible show wpAny _ _ (call (Value.builtin "len") [Value.bytes _ _]) _ _ _); refine len_b1 ?_)
  | ((with_reducible show wpAny _ _ (call (Value.builtin "len") [Value.ref _]) _ _ _); refine len_tupB (by assumption) (by assumption) (by assumption) ?_)))

local macro_rules | `(tactic| walk_at "subscriptTail") => `(tactic| (k_here; (with_reducible show wpAny _ _ (subscriptTail _ _ (Value.ref _) (Value.bytes _ _)) _ _ _); k_dflt (refine' db_item ?N ?m ?D ?k ?_; (case N => k_asm); (case m => k_mem); (case D => k_asm); (case k => k_asm)); intro _ _))
local macro_rules | `(tactic| walk_at "subscriptTail") => `(tactic| (k_here; (with_reducible show wpAny _ _ (subscriptTail _ (Expr.Slice _ _ none _) (Value.bytes (_ ++ _) _) (Value.ref _)) _ _ _); (with_reducible rename Fr _ _ _ _ => F'); (with_reducible rename News _ _ _ _ => N'); k_dflt (first
  | (refine slice_lo (s := ⟨_, _, _, _, _⟩) F' N' (by assumption) (by assumption) ?_)
  | (refine slice_hi (s := ⟨_, _, _, _, _⟩) F' N' (by assumption) (by assumption) ?_)); intro _ _ _ F' N'; (try k_sweep)))
local macro_rules | `(tactic| walk_at "call builtin:list.append") => `(tactic| (k_here; (with_reducible show wpAny _ _ (call (Value.builtin _) [Value.ref _, _]) _ _ _); k_dflt (refine' append_L ?F ?N ?U ?_ ?z; (case F => k_asm); (case N => k_asm); (case U => k_updF); (case z => omega)); intro h' F' N'; (try dsimp only at N'); (try k_sweep)))
local macro_rules | `(tactic| walk_at "call type:tuple") => `(tactic| (k_here; (with_reducible show wpAny _ _ (call (Value.type "tuple") [Value.ref _]) _ _ _); k_dflt (refine' tuple_L ?F ?N ?m ?z ?_; (case F => k_asm); (case N => k_asm); (case m => k_mem); (case z => omega)); intro D' h' F' N' l1; (try k_lt l1); (try k_sweep)))

local macro_rules | `(tactic| walk_at "call type:tuple") => `(tactic| (k_here; (with_reducible show wpAny _ _ (call (Value.type "tuple") [Value.ref _]) _ _ _); k_dflt (refine' tuple_rev rfl ?F ?N ?I ?m ?z ?_; (case F => k_asm); (case N => k_asm); (case I => k_all); (case m => k_mem); (case z => omega)); intro D' h' tk' F' N' l1; (try k_lt l1); (try k_sweep)))
local macro_rules | `(tactic| walk_at "call type:reversed") => `(tactic| (k_here; (with_reducible show wpAny _ _ (call (Value.type "reversed") [Value.ref _]) _ _ _); k_dflt (first
  | (refine' rev_K ?F ?N ?t ?n ?_; (case F => k_asm); (case N => k_asm); (case t => assumption); (case n => assumption); intro D' h' tk' F' N' l1; (try k_lt l1); (try k_sweep))
  | (refine' rev_KN ?F ?N ?m ?n ?_; (case F => k_asm); (case N => k_asm); (case m => k_mem); (case n => assumption); intro D' h' tk' F' N' l1; (try k_lt l1); (try k_sweep))
  | (refine' revL_K ?F ?N ?m ?_; (case F => k_asm); (case N => k_asm); (case m => k_mem); intro D' h' F' N' l1; (try k_lt l1); (try k_sweep)))))
local macro_rules | `(tactic| walk_at "setItem ref bytes") => `(tactic| (k_here; k_dflt (refine' db_set ?F ?N ?U ?D ?n ?_; (case F => k_asm); (case N => k_asm); (case U => k_updF); (case D => k_asm); (case n => omega)); intro h' o' F' N' hD'; (try dsimp only at N'); (try k_sweep)))
local macro_rules | `(tactic| walk_at "call ref") => `(tactic| (k_here; (with_reducible show wpAny _ _ (call (Value.ref 183) [Value.ref _, Value.bytes _ _]) _ _ _); k_dflt (refine' get_spec ?C ?d ?u rfl ?N ?m1 ?m2 ?m3 ?T ?D ?W ?_; (case C => walk_at "m_cx"); (case d => walk_at "m_depth"); (case u => walk_at "m_unit"); (case N => k_asm); (case m1 => k_mem); (case m2 => k_mem); (case T => first | assumption | exact ⟨_, _, _, _, _, _, _, _, _, _, rfl⟩); (case m3 => k_mem); (case D => assumption); (case W => assumption)); intro h' Dt Db vs' tv tk' F' N' n1 n2 n3 K' hvs' hvl'; (replace n1 := allNe_of n1); (simp only [AllNe, and_true] at n1); (replace n2 := allNe_of n2); (simp only [AllNe, and_true] at n2); (try k_sweep)))

local macro_rules | `(tactic| walk_at "pyIter ref") => `(tactic| (k_here; refine Stop.intro ?_))
def JSet (w : World) (dS x dx dDB : Addr) (od : Obj) (nD : Nat) (lb : Addr) (path : Nat) (bs : List (Array UInt8)) (S : List (List UInt8)) (v : Array UInt8) (D : List UInt8 → Option (Array UInt8)) (m₀ : Str → Option Value) (i : Nat) (m : Str → Option Value) (nx : List (Addr × Obj)) : Prop :=
  ∃ oS oDB vs k t1 t2 u1 u2, nx = [(lb, listOf vs.toArray k), (dS, oS), (x, instObj 235 dx), (dx, od), (dDB, oDB)] ∧ SeenObj w oS (preS path bs S v i) ∧ (preS path bs S v i).length ≤ S.length + i ∧
    DbObj w oDB (setD path bs S v D i) (nD + i) ∧ BytesAre vs (hashesUp path bs S v i) ∧ vs.length = i ∧
    m = ovr m₀ [(Str.ofString "sibling_node", u1), (Str.ofString "target_bit", some (.int (2 ^ i) t1)), (Str.ofString "node", some (.bytes (cont path bs S v i) t2)), (Str.ofString "node_hash", u2)]

theorem set_spec {w : World} {p : Program} {loose : List Str} {mean : ExcName → Option Value} {mg mb : Str → Option Value} {f dS x dx dDB : Addr} {H : List (Addr × Obj)} {oS od oDB : Obj} {root : Array UInt8} {D : List UInt8 → Option (Array UInt8)} {nD : Nat}
    {A : Around} {s : Shared} {h₀ : Heap} {L : Addr} {m : Str → Option Value} {Q E : Value → Shared → Prop} {S : List (List UInt8)} {kb : UInt8} {value : Array UInt8} {tk tv : Tok} {hs ls rs : Nat → Array UInt8} {val : Array UInt8}
    {news : List (Addr × Obj)} {g1 : Obj → List (Addr × Obj)} {g2 : Obj → Obj → List (Addr × Obj)} {g3 : Obj → Obj → Obj → List (Addr × Obj)}
    (HS : HashSpec w p loose mean mg mb H f dS)
    (C : Cx w p loose mean mg mb A s.heap h₀ L m) (hdp : A.depth + 40 < recursionLimit) (hun : A.units + 400 < cLine) (hh : A.handled = none)
    (Nn : News h₀ L s.heap news) (m1 : (x, instObj 235 dx) ∈ news) (U1 : UpdF dS oS news g1) (U2 : ∀ a, UpdF dx od (g1 a) (g2 a)) (U3 : ∀ a b, UpdF dDB oDB (g2 a b) (g3 a b))
    (ne1 : @LT.lt Nat _ dS dx) (ne2 : @LT.lt Nat _ dx x) (ne3 : @LT.lt Nat _ x dDB)
    (hH : AllAt H s.heap) (hoff : ∀ q ∈ H, q.1 ≠ dS ∧ q.1 ≠ dx ∧ q.1 ≠ x ∧ q.1 ≠ dDB) (hf : IsFnIn f H)
    (hT : TreeD w f dDB root od) (hD : DbObj w oDB D nD) (hnD : nD ≤ 90000) (W : Way D root kb.toNat hs ls rs val)
    (hS : SeenObj w oS S) (hlen : S.length < 90000) {bs : List (Array UInt8)} (hbs : (List.range 8).map (sib kb.toNat ls rs) = bs)
    (ret : ∀ h' oS' od' oDB' Dt vs tk', Fr h₀ L h' m → News h₀ L h' ((Dt, tup vs) :: g3 oS' od' oDB') → (∀ p ∈ news, p.1 ≠ Dt) → Tch [dS, dx, dDB] s.heap h' → SeenObj w oS' (climb kb.toNat bs (leafUp S value) 8).1 → (climb kb.toNat bs (leafUp S value) 8).1.length ≤ S.length + 9 →
      TreeD w f dDB (climb kb.toNat bs (leafUp S value) 8).2 od' → DbObj w oDB' (setD kb.toNat bs S value D 9) (nD + 9) → BytesAre vs (hashesUp kb.toNat bs S value 8).reverse → vs.length = 8 → Q (.ref Dt) { s with heap := h', toks := tk' }) :
    wpAny (model Challenge.rw_bi0032_01.row.prog w) A (call (.ref 190) [.ref x, .bytes #[kb] tk, .bytes value tv]) Q E s := by
  obtain ⟨hnd, dp, un, gd, env, outer, rfl⟩ := C.shape
  dsimp only [AA] at hdp hun hh
  subst hh
  have m0 : (dS, oS) ∈ news := upd_here U1
  have m2 : (dx, od) ∈ news := by
    rcases upd_mem U1 (upd_here (U2 oS)) with q | q
    · have e := congrArg Prod.fst q; dsimp only at e; exact absurd e (by k_ne)
    · exact q.1
  have m3 : (dDB, oDB) ∈ news := by
    rcases upd_mem (U2 oS) (upd_here (U3 oS od)) with q | q
    · have e := congrArg Prod.fst q; dsimp only at e; exact absurd e (by k_ne)
    · rcases upd_mem U1 q.1 with q | q
      · have e := congrArg Prod.fst q; dsimp only at e; exact absurd e (by k_ne)
      · exact q.1
  obtain ⟨k1, k2, k3, k4, k5, k6, t1, t2, t3, t6, rfl⟩ := hT
  have N : News h₀ L s.heap [(dS, oS), (x, instObj 235 dx), (dx, _), (dDB, oDB)] := List.forall_mem_cons.mpr ⟨Nn _ m0, List.forall_mem_cons.mpr ⟨Nn _ m1, List.forall_mem_cons.mpr ⟨Nn _ m2, List.forall_mem_cons.mpr ⟨Nn _ m3, News.nil⟩⟩⟩⟩
  have X := C.k; revert X; k_fill; intro X
  refine wpAny_call ?_
  walk_at "m_enter"
  intro _ _ _ _ _ _ base g' L' h' hA F' N' B' X' T' Tg' lt'
  cases hA
  have hFr := C.fr
  have hH' : AllAt H g' := hH.tch Tg' (fun q hq => by
    have z := hoff q hq
    simp only [List.map_cons, List.map_nil, List.mem_cons, List.not_mem_nil, or_false, not_or]
    exact ⟨z.1, z.2.2.1, z.2.1, z.2.2.2⟩)
  clear C
  (try dsimp only); (try k_fold)
  k_steps
  refine Stop.out ?_
  rename BytesAre _ _ => hvs
  rename List.length _ = 8 => hvl
  rename News g' _ _ _ => NN
  rw [hbs] at hvs
  have hb32 : ∀ b ∈ bs, b.size ≤ 32 := by
    intro b hb
    rw [← hbs] at hb
    obtain ⟨i, hi, rfl⟩ := List.mem_map.mp hb
    have hi8 := List.mem_range.mp hi
    unfold sib
    split
    · rw [W.lsz i hi8]; exact Nat.le_refl _
    · rw [W.rsz i hi8]; exact Nat.le_refl _
  refine' iter_revG (m₀ := ?m0) (hnd := none) (JSet w dS x dx dDB _ nD _ kb.toNat bs S value D ?m0) rfl (by intro q; cases q) (.inl rfl) ?tt ?ll hvl ?F ?NI ?N ?I ?ln ?j ?turn ?done
  case F => k_asm
  case NI => exact List.forall_mem_cons.mpr ⟨NN _ (.head _), News.nil⟩
  case tt => exact News.isTup NN (by k_mem)
  case ll => exact (NN (_, tup _) (by k_mem)).2.1
  case N => exact List.forall_mem_cons.mpr ⟨NN (_, listOf (([] : List Value).toArray) 0) (by k_mem), List.forall_mem_cons.mpr ⟨NN (dS, oS) (by k_mem), List.forall_mem_cons.mpr ⟨NN (x, instObj 235 dx) (by k_mem), List.forall_mem_cons.mpr ⟨NN (dx, _) (by k_mem), List.forall_mem_cons.mpr ⟨NN (dDB, oDB) (by k_mem), News.nil⟩⟩⟩⟩⟩
  case I => k_all
  case ln => k_all
  case j =>
    refine' ⟨oS, oDB, [], 0, _, _, _, _, rfl, hS, Nat.le_refl _, hD, BytesAre.nil, rfl, ?eqm⟩
    case eqm =>
    funext z
    by_cases h1 : z = Str.ofString "sibling_node"; · subst h1; exact rfl
    by_cases h2 : z = Str.ofString "target_bit"; · subst h2; exact rfl
    by_cases h3 : z = Str.ofString "node"; · subst h3; exact rfl
    by_cases h4 : z = Str.ofString "node_hash"; · subst h4; exact rfl
    simp only [ovr, h1, h2, h3, h4, if_false]
  case turn =>
    intro i v m₁ nx h tk own hi hv hnx hown hJ F₁ N₁
    obtain ⟨oS2, oDB2, vs2, k, t1, t2, u1, u2, rfl, hS2, hl2, hD2, hvs2, hvl2, rfl⟩ := hJ
    obtain ⟨tb1, rfl⟩ := hvs.get hv
    have hT1 : (1 : Int) ≤ 2 ^ i := pow_pos_i
    have hT2 : (2 : Int) ^ i ≤ 128 := pow_le_i hi
    have hs32 : (bs.getD (7 - i) #[]).size ≤ 32 := getD_size hb32 _
    have hq1 := climb_at1 kb.toNat bs S value i
    have hq2 := climb_at2 kb.toNat bs S value i
    have hc32 := climb_size kb.toNat bs S value i
    have hh32 : (hh (ins (preS kb.toNat bs S value i) (cont kb.toNat bs S value i).toList) (cont kb.toNat bs S value i).toList).size = 32 := hh_size _ _
    generalize hTT : (2 : Int) ^ i = T at F₁ hT1 hT2
    dsimp only [List.cons_append, List.nil_append] at N₁
    refine wpAny_mono (Q := EndT (InvPostN _ _ _ _ _ _ _)) ?_ (fun _ _ x => x) (fun _ _ x => x)
    k_steps
    · rename Builtin.bitAnd _ _ ≠ 0 => hbit
      have hb := path_bit hTT hbit
      refine' invEndL [] [_, _, _, _, _] own (.inl rfl) ⟨_, _, rfl⟩ (by assumption) (by assumption) ?a8 ⟨_, _, _, _, _, _, _, _, rfl, ?a1, ?a2, ?a3, ?a4, ?a5, ?a6⟩
      case a1 => rw [← hq1]; assumption
      case a2 => rw [← hq1]; omega
      case a3 =>
        have e : setD kb.toNat bs S value D (i + 1) = dput (setD kb.toNat bs S value D i) (hh (ins (preS kb.toNat bs S value i) (cont kb.toNat bs S value i).toList) (cont kb.toNat bs S value i).toList).toList (cont kb.toNat bs S value i) := by rw [hq1, hq2]; rfl
        rw [e]; assumption
      case a4 => rw [hashesUp_succ, ← hq2, ← hq1]; exact hvs2.snoc
      case a5 => rw [List.length_append, hvl2]; rfl
      case a6 =>
        funext z
        by_cases h1 : z = Str.ofString "sibling_node"; · subst h1; exact rfl
        by_cases h2 : z = Str.ofString "target_bit"; · subst h2; rw [← pow_step hTT]; exact rfl
        by_cases h3 : z = Str.ofString "node"; · subst h3; rw [cont_one hb, ← hq2, ← hq1]; exact rfl
        by_cases h4 : z = Str.ofString "node_hash"; · subst h4; exact rfl
        simp only [ovr, h1, h2, h3, h4, if_false]
      case a8 => exact rfl
    · rename Builtin.bitAnd _ _ = 0 => hbit
      have hb := path_nobit hTT hbit
      refine' invEndL [] [_, _, _, _, _] own (.inl rfl) ⟨_, _, rfl⟩ (by assumption) (by assumption) ?a8 ⟨_, _, _, _, _, _, _, _, rfl, ?a1, ?a2, ?a3, ?a4, ?a5, ?a6⟩
      case a1 => rw [← hq1]; assumption
      case a2 => rw [← hq1]; omega
      case a3 =>
        have e : setD kb.toNat bs S value D (i + 1) = dput (setD kb.toNat bs S value D i) (hh (ins (preS kb.toNat bs S value i) (cont kb.toNat bs S value i).toList) (cont kb.toNat bs S value i).toList).toList (cont kb.toNat bs S value i) := by rw [hq1, hq2]; rfl
        rw [e]; assumption
      case a4 => rw [hashesUp_succ, ← hq2, ← hq1]; exact hvs2.snoc
      case a5 => rw [List.length_append, hvl2]; rfl
      case a6 =>
        funext z
        by_cases h1 : z = Str.ofString "sibling_node"; · subst h1; exact rfl
        by_cases h2 : z = Str.ofString "target_bit"; · subst h2; rw [← pow_step hTT]; exact rfl
        by_cases h3 : z = Str.ofString "node"; · subst h3; rw [cont_zero hb, ← hq2, ← hq1]; exact rfl
        by_cases h4 : z = Str.ofString "node_hash"; · subst h4; exact rfl
        simp only [ovr, h1, h2, h3, h4, if_false]
      case a8 => exact rfl
  case done =>
    intro m₁ nx h tk hJ F₁ N₁
    obtain ⟨oS2, oDB2, vs2, k, t1, t2, u1, u2, rfl, hS2, hl2, hD2, hvs2, hvl2, rfl⟩ := hJ
    have hq1 := climb_at1 kb.toNat bs S value 8
    have hq2 := climb_at2 kb.toNat bs S value 8
    dsimp only
    k_steps
    refine leaveM (R := [(dS, oS), (x, instObj 235 dx), (dx, _), (dDB, oDB)]) (by k_asm) (by k_asm) fun F T G Z => ?_
    have GT := G _ (.head _)
    have ZT := Z _ (.head _) (by simp only [List.map_cons, List.map_nil, List.mem_cons, List.not_mem_nil, or_false, not_or]; refine ⟨?_, ?_, ?_, ?_⟩ <;> k_ne)
    have GS := G _ (.tail _ (.tail _ (.head _)))
    have Gx := G _ (.tail _ (.tail _ (.tail _ (.head _))))
    have Gd := G _ (.tail _ (.tail _ (.tail _ (.tail _ (.head _)))))
    have GD := G _ (.tail _ (.tail _ (.tail _ (.tail _ (.tail _ (.head _))))))
    have hx0 := N (x, instObj 235 dx) (by k_mem)
    have K3 : Tch [dS, dx, dDB] s.heap _ := fun b o e hn => by
      by_cases hbx : b = x
      · subst hbx
        rw [hx0.1] at e
        cases e
        exact Gx
      · refine T b o e ?_
        simp only [List.map_cons, List.map_nil, List.mem_cons, List.not_mem_nil, or_false, not_or] at hn ⊢
        exact ⟨hn.1, hbx, hn.2.1, hn.2.2⟩
    have NN := news_upd3 Nn U1 U2 U3 (fun p hp h1 h2 h3 => K3 _ _ (Nn p hp).1 (by simp only [List.mem_cons, List.not_mem_nil, or_false, not_or]; exact ⟨h1, h2, h3⟩)) GS Gd GD
    refine ret _ _ _ _ _ _ _ F (news_cons GT ZT.1 (base_none hFr ZT.2) NN) (fresh_ne Nn ZT.2) K3 ?_ ?_ ?_ ?_ ?_ ?_
    · show SeenObj w _ (preS kb.toNat bs S value 9); rw [← hq1]; assumption
    · show (preS kb.toNat bs S value 9).length ≤ _; rw [← hq1]; omega
    · rw [← hq2, ← hq1]; exact ⟨_, _, _, _, _, _, _, _, _, _, rfl⟩
    · have e : setD kb.toNat bs S value D 9 = dput (setD kb.toNat bs S value D 8) (hh (ins (preS kb.toNat bs S value 8) (cont kb.toNat bs S value 8).toList) (cont kb.toNat bs S value 8).toList).toList (cont kb.toNat bs S value 8) := by rw [hq1, hq2]; rfl
      rw [e]; assumption
    · exact hvs2.rev
    · rw [List.length_reverse, hvl2]
end Mine
theorem Mine.freshSet : True ∧ True := by w_top off; first | (walk1; all_goals trivial) | exact ⟨trivial, trivial⟩
-- part Path
namespace Mine
open PySem PySem.W PyProof.Rows PySem.Calls
local macro_rules | `(tactic| k_room) => `(tactic| ((simp only [depth_under_make, depth_under_kw, depth_in1, depth_deeper, depth_caller]); (try dsimp only [AA] at *); omega))
local macro_rules | `(tactic| k_units) => `(tactic| ((simp only [units_in1, units_deeper, Around.mark_units, units_caller]); (try dsimp only [AA] at *); omega))
-- enter a def of the top with the ledger at hand
local macro_rules | `(tactic| walk_at "m_enter") => `(tactic| (
  refine' call_subK (by assumption) (by assumption) ?k1 ?k2 ?k3 ?k4 ?k5 ?_ ?k6 ?k7 ?k8 ?k9
  (case k1 => k_is)
  (case k2 => k_is)
  (case k3 => k_room)
  (case k4 => exact BindsTo.of_eq rfl)
  (case k5 => exact locs rfl)
  (case k6 => decide)
  (case k7 => exact rfl)
  (case k8 => exact rfl)
  (case k9 => exact rfl)))
-- the caller's context
local macro_rules | `(tactic| walk_at "m_cx") => `(tactic| k_dflt (
  refine' mkCx ?F ?B ?X ?T ?a ?b ?c
  (case F => k_asm)
  (case B => k_asm)
  (case X => k_asm)
  (case T => k_asm)
  (case a => exact rfl)
  (case b => exact rfl)
  (case c => exact rfl)))
local macro_rules | `(tactic| walk_at "m_depth") => `(tactic| ((simp only [depth_under_make, depth_under_kw, depth_in1, depth_deeper, depth_caller]); (try dsimp only [AA]); omega))
local macro_rules | `(tactic| walk_at "m_unit") => `(tactic| ((simp only [units_in1, units_deeper, Around.mark_units, units_caller]); (try dsimp only [AA]); omega))
local macro_rules | `(tactic| walk_at "call ref") => `(tactic| (k_here; first
  | ((with_reducible show wpAny _ _ (call (Value.ref 62) [Value.bytes _ _]) _ _ _); k_dflt (refine' vib_spec ?C ?d ?u ?N ?_); (case C => walk_at "m_cx"); (case d => walk_at "m_depth"); (case u => walk_at "m_unit"); (case N => k_asm); intro h' tk' F' N' _; (try k_sweep))
  | ((with_reducible show wpAny _ _ (call (Value.ref 35) [_, _]) _ _ _); k_dflt (refine' cast_spec ?C ?d ?u ?N ?_); (case C => walk_at "m_cx"); (case d => walk_at "m_depth"); (case u => walk_at "m_unit"); (case N => k_asm); intro h' tk' F' N' _; (try k_sweep))
  | ((with_reducible show wpAny _ _ (call (Value.ref 42) [Value.bytes _ _]) _ _ _); k_dflt (refine' toint_spec ?C ?d ?u ?N ?_); (case C => walk_at "m_cx"); (case d => walk_at "m_depth"); (case u => walk_at "m_unit"); (case N => k_asm); intro h' tk' t' F' N' _; (try k_sweep))
  | ((with_reducible show wpAny _ _ (call (Value.ref 69) [Value.bytes _ _, _]) _ _ _); k_dflt (refine' vlb_spec ?C ?d ?u ?N ?_); (case C => walk_at "m_cx"); (case d => walk_at "m_depth"); (case u => walk_at "m_unit"); (case N => k_asm); intro h' tk' F' N' _; (try k_sweep))
  | ((with_reducible show wpAny _ _ (call (Value.ref 69) [Value.ref _, _]) _ _ _); k_dflt (refine' vlt_spec ?C ?d ?u ?N ?t ?n ?_); (case C => walk_at "m_cx"); (case d => walk_at "m_depth"); (case u => walk_at "m_unit"); (case N => k_asm); (case t => exact IsTup.keeps (by assumption) (Fr.keep (by assumption))); (case n => assumption); intro h' tk' F' N' _; (try k_sweep))))
local macro_rules | `(tactic| walk_at "m_fn") => `(tactic| k_dflt (exact IsFnIn.at (by assumption) (AllAt.keeps (by assumption) (Fr.keep (by assumption)))))
local macro_rules | `(tactic| walk_at "m_all") => `(tactic| k_dflt (exact AllAt.keeps (by assumption) (Fr.keep (by assumption))))
local macro_rules | `(tactic| walk_at "FnAt") => `(tactic| walk_at "m_fn")
local macro_rules | `(tactic| walk_at "callWith ref") => `(tactic| (k_here; k_dflt (refine' callWith_F ?k1 ?_; (case k1 => walk_at "m_fn"))))
local macro_rules | `(tactic| walk_at "call ref") => `(tactic| (k_here; (with_reducible show wpAny _ _ (call (Value.ref _) [Value.bytes _ _]) _ _ _); k_dflt (refine' hash_use (by assumption) ?C ?d ?u ?N ?H ?U ?S ?l ?_); (case C => walk_at "m_cx"); (case d => walk_at "m_depth"); (case u => walk_at "m_unit"); (case N => k_asm); (case H => walk_at "m_all"); (case U => k_updF); (case S => k_asm); (case l => omega); intro h' oS' t' tk' F' N' hS' hl'; (try dsimp only at N'); (try k_sweep)))
local macro_rules | `(tactic| walk_at "binaryOp Add bytes bytes") => `(tactic| (k_here; (with_reducible show wpAny _ _ (binaryOp Operator.Add (Value.bytes _ _) (Value.bytes _ _)) _ _ _); (refine KBy.add_bytes (by omega) ?_); intro _ _))
local macro_rules | `(tactic| walk_at "call builtin:len") => `(tactic| (k_here; first
  | ((with_reducible show wpAny _ _ (call (Value.builtin "len") [Value.bytes _ _]) _ _ _); refine len_b1 ?_)
  | ((with_reducible show wpAny _ _ (call (Value.builtin "len") [Value.ref _]) _ _ _); refine len_tupB (by assumption) (by assumption) (by assumption) ?_)))

local macro_rules | `(tactic| walk_at "subscriptTail") => `(tactic| (k_here; (with_reducible show wpAny _ _ (subscriptTail _ _ (Value.ref _) (Value.bytes _ _)) _ _ _); k_dflt (refine' db_item ?N ?m ?D ?k ?_; (case N => k_asm); (case m => k_mem); (case D => k_asm); (case k => k_asm)); intro _ _))
local macro_rules | `(tactic| walk_at "subscriptTail") => `(tactic| (k_here; (with_reducible show wpAny _ _ (subscriptTail _ (Expr.Slice _ _ none _) (Value.bytes (_ ++ _) _) (Value.ref _)) _ _ _); (with_reducible rename Fr _ _ _ _ => F'); (with_reducible rename News _ _ _ _ => N'); k_dflt (first
  | (refine slice_lo (s := ⟨_, _, _, _, _⟩) F' N' (by assumption) (by assumption) ?_)
  | (refine slice_hi (s := ⟨_, _, _, _, _⟩) F' N' (by assumption) (by assumption) ?_)); intro _ _ _ F' N'; (try k_sweep)))
local macro_rules | `(tactic| walk_at "call builtin:list.append") => `(tactic| (k_here; (with_reducible show wpAny _ _ (call (Value.builtin _) [Value.ref _, _]) _ _ _); k_dflt (refine' append_L ?F ?N ?U ?_ ?z; (case F => k_asm); (case N => k_asm); (case U => k_updF); (case z => omega)); intro h' F' N'; (try dsimp only at N'); (try k_sweep)))
local macro_rules | `(tactic| walk_at "call type:tuple") => `(tactic| (k_here; (with_reducible show wpAny _ _ (call (Value.type "tuple") [Value.ref _]) _ _ _); k_dflt (refine' tuple_L ?F ?N ?m ?z ?_; (case F => k_asm); (case N => k_asm); (case m => k_mem); (case z => omega)); intro D' h' F' N' l1; (try k_lt l1); (try k_sweep)))

local macro_rules | `(tactic| walk_at "call type:tuple") => `(tactic| (k_here; (with_reducible show wpAny _ _ (call (Value.type "tuple") [Value.ref _]) _ _ _); k_dflt (refine' tuple_rev rfl ?F ?N ?I ?m ?z ?_; (case F => k_asm); (case N => k_asm); (case I => k_all); (case m => k_mem); (case z => omega)); intro D' h' tk' F' N' l1; (try k_lt l1); (try k_sweep)))
local macro_rules | `(tactic| walk_at "call type:reversed") => `(tactic| (k_here; (with_reducible show wpAny _ _ (call (Value.type "reversed") [Value.ref _]) _ _ _); k_dflt (first
  | (refine' rev_K ?F ?N ?t ?n ?_; (case F => k_asm); (case N => k_asm); (case t => assumption); (case n => assumption); intro D' h' tk' F' N' l1; (try k_lt l1); (try k_sweep))
  | (refine' rev_KN ?F ?N ?m ?n ?_; (case F => k_asm); (case N => k_asm); (case m => k_mem); (case n => assumption); intro D' h' tk' F' N' l1; (try k_lt l1); (try k_sweep))
  | (refine' revL_K ?F ?N ?m ?_; (case F => k_asm); (case N => k_asm); (case m => k_mem); intro D' h' F' N' l1; (try k_lt l1); (try k_sweep)))))
local macro_rules | `(tactic| walk_at "setItem ref bytes") => `(tactic| (k_here; k_dflt (refine' db_set ?F ?N ?U ?D ?n ?_; (case F => k_asm); (case N => k_asm); (case U => k_updF); (case D => k_asm); (case n => omega)); intro h' o' F' N' hD'; (try dsimp only at N'); (try k_sweep)))
local macro_rules | `(tactic| walk_at "call ref") => `(tactic| (k_here; (with_reducible show wpAny _ _ (call (Value.ref 183) [Value.ref _, Value.bytes _ _]) _ _ _); k_dflt (refine' get_spec ?C ?d ?u rfl ?N ?m1 ?m2 ?m3 ?T ?D ?W ?_; (case C => walk_at "m_cx"); (case d => walk_at "m_depth"); (case u => walk_at "m_unit"); (case N => k_asm); (case m1 => k_mem); (case m2 => k_mem); (case T => first | assumption | exact ⟨_, _, _, _, _, _, _, _, _, _, rfl⟩); (case m3 => k_mem); (case D => assumption); (case W => assumption)); intro h' Dt Db vs' tv tk' F' N' n1 n2 n3 K' hvs' hvl'; (replace n1 := allNe_of n1); (simp only [AllNe, and_true] at n1); (replace n2 := allNe_of n2); (simp only [AllNe, and_true] at n2); (try k_sweep)))

local macro_rules | `(tactic| walk_at "call builtin:list.insert") => `(tactic| (k_here; (with_reducible show wpAny _ _ (call (Value.builtin _) [Value.ref _, _, _]) _ _ _); k_dflt (refine' insert0_L ?F ?N ?U ?z ?_; (case F => k_asm); (case N => k_asm); (case U => k_updF); (case z => omega)); intro h' F' N'; (try dsimp only at N'); (try k_sweep)))

local macro_rules | `(tactic| walk_at "pyIter ref") => `(tactic| (k_here; refine Stop.intro ?_))
def JPath (w : World) (dS : Addr) (lt : Addr) (path : Nat) (bs : List (Array UInt8)) (S : List (List UInt8)) (v : Array UInt8) (m₀ : Str → Option Value) (i : Nat) (m : Str → Option Value) (nx : List (Addr × Obj)) : Prop :=
  ∃ oS vs k t1 t2 u1, nx = [(lt, listOf vs.toArray k), (dS, oS)] ∧ SeenObj w oS (climb path bs (leafUp S v) i).1 ∧ (climb path bs (leafUp S v) i).1.length ≤ S.length + 1 + i ∧
    BytesAre vs (hashesUp path bs S v i).reverse ∧ vs.length = i ∧
    m = ovr m₀ [(Str.ofString "beside", u1), (Str.ofString "here", some (.bytes (climb path bs (leafUp S v) i).2 t1)), (Str.ofString "place", some (.int ((path / 2 ^ i : Nat) : Int) t2))]

theorem path_spec {w : World} {p : Program} {loose : List Str} {mean : ExcName → Option Value} {mg mb : Str → Option Value} {f dS tb : Addr} {H : List (Addr × Obj)} {oS : Obj}
    {A : Around} {s : Shared} {h₀ : Heap} {L : Addr} {m : Str → Option Value} {Q E : Value → Shared → Prop} {S : List (List UInt8)} {key : Nat} {value : Array UInt8} {tk tv : Tok} {vs : List Value} {news : List (Addr × Obj)} {g1 : Obj → List (Addr × Obj)}
    (HS : HashSpec w p loose mean mg mb H f dS)
    (C : Cx w p loose mean mg mb A s.heap h₀ L m) (hdp : A.depth + 20 < recursionLimit) (hun : A.units + 200 < cLine) (hh : A.handled = none)
    (Nn : News h₀ L s.heap news) (U1 : UpdF dS oS news g1) (hH : AllAt H s.heap) (hoff : ∀ q ∈ H, q.1 ≠ dS) (hf : IsFnIn f H) (ht : IsTup s.heap tb vs.toArray) (htd : tb ≠ dS)
    (hS : SeenObj w oS S) (hlen : S.length < 90000) (hvs : vs.length = 8) {bs : List (Array UInt8)} (hbs : BytesAre vs bs) (hb32 : ∀ b ∈ bs, b.size ≤ 32)
    (ret : ∀ h' oS' Dt Db vs t' tk', Fr h₀ L h' m → News h₀ L h' ((Dt, tup [.ref Db, .bytes (climb key bs (leafUp S value) 8).2 t']) :: (Db, tup vs) :: g1 oS') → (∀ p ∈ news, p.1 ≠ Dt) → (∀ p ∈ news, p.1 ≠ Db) → @Ne Nat Db Dt → Tch [dS] s.heap h' →
      SeenObj w oS' (climb key bs (leafUp S value) 8).1 → (climb key bs (leafUp S value) 8).1.length ≤ S.length + 9 → BytesAre vs (hashesUp key bs S value 8).reverse → vs.length = 8 → Q (.ref Dt) { s with heap := h', toks := tk' }) :
    wpAny (model Challenge.rw_bi0032_01.row.prog w) A (call (.ref 246) [.int (key : Int) tk, .bytes value tv, .ref tb, .ref f]) Q E s := by
  obtain ⟨hnd, dp, un, gd, env, outer, rfl⟩ := C.shape
  dsimp only [AA] at hdp hun hh
  subst hh
  have N : News h₀ L s.heap [(dS, oS)] := List.forall_mem_cons.mpr ⟨Nn _ (upd_here U1), News.nil⟩
  have X := C.k; revert X; k_fill; intro X
  refine wpAny_call ?_
  walk_at "m_enter"
  intro _ _ _ _ _ _ base g' L' h' hA F' N' B' X' T' Tg' lt'
  cases hA
  have hFr := C.fr
  have ht' : IsTup g' tb vs.toArray := let ⟨o, ho, r⟩ := ht; ⟨o, Tg' _ _ ho (by simpa using htd), r⟩
  have hH' : AllAt H g' := hH.tch Tg' (fun q hq => by simpa using hoff q hq)
  clear C N
  (try dsimp only); (try k_fold)
  k_steps
  refine Stop.out ?_
  rename News g' _ _ _ => NN
  refine' iter_revT (m₀ := ?m0) (hnd := none) (JPath w dS _ key bs S value ?m0) rfl (by intro q; cases q) (.inl rfl) ht' hvs ?F ?N ?I ?j ?turn ?done
  case F => k_asm
  case N => exact List.forall_mem_cons.mpr ⟨NN _ (.head _), List.forall_mem_cons.mpr ⟨NN (_, listOf (([] : List Value).toArray) 0) (by k_mem), List.forall_mem_cons.mpr ⟨NN (dS, _) (by k_mem), News.nil⟩⟩⟩
  case I => k_all
  case j =>
    refine' ⟨_, [], 0, _, _, _, rfl, (by assumption), (by assumption), BytesAre.nil, rfl, ?eqm⟩
    case eqm =>
    funext z
    by_cases h1 : z = Str.ofString "beside"; · subst h1; exact rfl
    by_cases h2 : z = Str.ofString "here"; · subst h2; exact rfl
    by_cases h3 : z = Str.ofString "place"; · subst h3; rw [Nat.pow_zero, Nat.div_one]; exact rfl
    simp only [ovr, h1, h2, h3, if_false]
  case turn =>
    intro i v m₁ nx h tk own hi hv hnx hown hJ F₁ N₁
    obtain ⟨oS2, vs2, k, t1, t2, u1, rfl, hS2, hl2, hvs2, hvl2, rfl⟩ := hJ
    obtain ⟨tb1, rfl⟩ := hbs.get hv
    have hs32 : (bs.getD (7 - i) #[]).size ≤ 32 := getD_size hb32 _
    have hc32 := climb_size key bs S value i
    dsimp only [List.cons_append, List.nil_append] at N₁
    refine wpAny_mono (Q := EndT (InvPostN _ _ _ _ _ _ _)) ?_ (fun _ _ x => x) (fun _ _ x => x)
    k_steps
    · rename Int.fmod _ _ = 1 => hbit
      have e := climb_one (bs := bs) (st := leafUp S value) (place_bit hbit)
      refine' invEndL [] [_, _] own (.inl rfl) ⟨_, _, rfl⟩ (by assumption) (by assumption) ?a8 ⟨_, _, _, _, _, _, rfl, ?a1, ?a2, ?a3, ?a4, ?a5⟩
      case a1 => rw [e]; assumption
      case a2 => rw [e]; dsimp only; omega
      case a3 => rw [hashesUp_succ, List.reverse_append]; exact hvs2.cons
      case a4 => rw [List.length_cons, hvl2]
      case a5 =>
        funext z
        by_cases h1 : z = Str.ofString "beside"; · subst h1; exact rfl
        by_cases h2 : z = Str.ofString "here"; · subst h2; rw [e]; exact rfl
        by_cases h3 : z = Str.ofString "place"; · subst h3; rw [← place_next]; exact rfl
        simp only [ovr, h1, h2, h3, if_false]
      case a8 => exact rfl
    · rename Int.fmod _ _ ≠ 1 => hbit
      have e := climb_zero (bs := bs) (st := leafUp S value) (place_nobit hbit)
      refine' invEndL [] [_, _] own (.inl rfl) ⟨_, _, rfl⟩ (by assumption) (by assumption) ?a8 ⟨_, _, _, _, _, _, rfl, ?a1, ?a2, ?a3, ?a4, ?a5⟩
      case a1 => rw [e]; assumption
      case a2 => rw [e]; dsimp only; omega
      case a3 => rw [hashesUp_succ, List.reverse_append]; exact hvs2.cons
      case a4 => rw [List.length_cons, hvl2]
      case a5 =>
        funext z
        by_cases h1 : z = Str.ofString "beside"; · subst h1; exact rfl
        by_cases h2 : z = Str.ofString "here"; · subst h2; rw [e]; exact rfl
        by_cases h3 : z = Str.ofString "place"; · subst h3; rw [← place_next]; exact rfl
        simp only [ovr, h1, h2, h3, if_false]
      case a8 => exact rfl
  case done =>
    intro m₁ nx h tk hJ F₁ N₁
    obtain ⟨oS2, vs2, k, t1, t2, u1, rfl, hS2, hl2, hvs2, hvl2, rfl⟩ := hJ
    dsimp only
    k_steps
    refine leaveM (R := [(dS, oS)]) (by k_asm) (by k_asm) fun F T G Z => ?_
    have GT := G _ (.head _)
    have GB := G _ (.tail _ (.head _))
    have GS := G _ (.tail _ (.tail _ (.tail _ (.head _))))
    have ZT := Z _ (.head _) (by simp only [List.map_cons, List.map_nil, List.mem_cons, List.not_mem_nil, or_false]; k_ne)
    have ZB := Z _ (.tail _ (.head _)) (by simp only [List.map_cons, List.map_nil, List.mem_cons, List.not_mem_nil, or_false]; k_ne)
    have NN := news_upd1 Nn U1 (fun p hp h1 => T _ _ (Nn p hp).1 (by simp only [List.map_cons, List.map_nil, List.mem_cons, List.not_mem_nil, or_false]; exact h1)) GS
    exact ret _ _ _ _ _ _ _ F (news_cons GT ZT.1 (base_none hFr ZT.2) (news_cons GB ZB.1 (base_none hFr ZB.2) NN)) (fresh_ne Nn ZT.2) (fresh_ne Nn ZB.2) (by omega) T hS2 (by omega) hvs2 hvl2
end Mine
theorem Mine.freshPath : True ∧ True := by w_top off; first | (walk1; all_goals trivial) | exact ⟨trivial, trivial⟩
-- part Seen
namespace Mine
open PySem PySem.W PyProof.Rows PySem.Calls
theorem num_le (S : List (List UInt8)) (x : List UInt8) : num S x ≤ S.length + 1 := by
  unfold num
  have := List.idxOf_le_length (a := x) (l := S)
  omega
section
variable {w : World} {A : Around} {E : Value → Shared → Prop} {s : Shared} {h₀ : Heap} {L d : Addr} {m : Str → Option Value} {news : List (Addr × Obj)} {g : Obj → List (Addr × Obj)} {o : Obj} {S : List (List UInt8)} {b : Array UInt8} {t u : Tok}
theorem seen_notin {Q : Value → Shared → Prop} (N : News h₀ L s.heap news) (hp : (d, o) ∈ news) (hS : SeenObj w o S) (lo : (d == sysModules) = false)
    (h1 : b.toList ∈ S → Q (.bool false) { s with toks := s.toks + 1 }) (h2 : b.toList ∉ S → Q (.bool true) { s with toks := s.toks + 1 }) : wpAny (model Challenge.rw_bi0032_01.row.prog w) A (compareOp .NotIn (.bytes b t) (.ref d)) Q E s := by
  obtain ⟨kvs, hd, rfl, hv⟩ := hS
  refine notin_by N hp hd lo fun c hc => ?_
  cases c with
  | true =>
    obtain ⟨v, hv⟩ := Option.isSome_iff_exists.mp hc
    obtain ⟨i, _, _, hm⟩ := idxOf_map_fst hv
    exact h1 hm
  | false => exact h2 (valueAt_none_iff hc)
theorem seen_len {Q : Value → Shared → Prop} (N : News h₀ L s.heap news) (hp : (d, o) ∈ news) (hS : SeenObj w o S) (lo : (d == sysModules) = false) (hl : S.length ≤ 1000000)
    (h : Q (.int (S.length : Int) (s.toks + 1)) { s with toks := s.toks + 1 + 1 }) : wpAny (model Challenge.rw_bi0032_01.row.prog w) A (call (.builtin "len") [.ref d]) Q E s := by
  obtain ⟨kvs, hd, rfl, hv⟩ := hS
  rw [List.length_map] at hl h
  exact kda_len N hp hd lo (by omega) h
theorem seen_set {Q : Unit → Shared → Prop} (F : Fr h₀ L s.heap m) (N : News h₀ L s.heap news) (U : UpdF d o news g) (hS : SeenObj w o S) (hno : b.toList ∉ S) (hl : S.length ≤ 1000000)
    (h : ∀ h' o', Fr h₀ L h' m → News h₀ L h' (g o') → SeenObj w o' (S ++ [b.toList]) → Q () { s with heap := h', toks := s.toks + 1 }) :
    wpAny (model Challenge.rw_bi0032_01.row.prog w) A (setItem (.ref d) (.bytes b t) (.int ((S.length : Int) + 1) u)) Q E s := by
  obtain ⟨kvs, hd, rfl, hv⟩ := hS
  rw [List.length_map] at hl
  have hnone : PySem.valueAt kvs b.toList = none := valueAt_none_of_not_mem hno
  refine kda_set F N U hd (bk_is _ w b t) (by rw [sizeLine_eq]; omega) fun h' o' F' N' hd' => h h' o' F' N' ⟨_, hd', ?_, ?_⟩
  · rw [stored_absent hnone, List.map_append]; rfl
  · intro i k v hi
    rw [stored_absent hnone] at hi
    rcases Nat.lt_or_ge i kvs.length with q | q
    · rw [List.getElem?_append_left q] at hi; exact hv i k v hi
    · rw [List.getElem?_append_right q] at hi
      have hz : i - kvs.length = 0 := by
        rcases Nat.eq_zero_or_pos (i - kvs.length) with z | z
        · exact z
        · rw [List.getElem?_eq_none (by simp; omega)] at hi; cases hi
      rw [hz] at hi
      cases hi
      refine ⟨u, ?_⟩
      have e : i = kvs.length := by omega
      rw [e, List.length_map]; rfl
theorem seen_item {value slice : PySem.Expr} {Q : Value → Shared → Prop} (N : News h₀ L s.heap news) (hp : (d, o) ∈ news) (hS : SeenObj w o S) (hm : b.toList ∈ S) (h : ∀ t' k, Q (.int ((num S b.toList : Nat) : Int) t') { s with toks := k })
    (hs : subscripted slice false (.ref d) (.bytes b t) = operate [.ref d, .bytes b t] (getItem (.ref d) (.bytes b t)) := by with_unfolding_all rfl) (hg : ∀ r, letTemporaryGo value (.ref d) r = pure () := by intro _; with_unfolding_all rfl) :
    wpAny (model Challenge.rw_bi0032_01.row.prog w) A (subscriptTail value slice (.ref d) (.bytes b t)) Q E s := by
  obtain ⟨kvs, hd, rfl, hv⟩ := hS
  cases hx : PySem.valueAt kvs b.toList with
  | none =>
    exact absurd hm (valueAt_none_iff (by rw [hx]; rfl))
  | some v =>
    obtain ⟨i, hi, hidx, _⟩ := idxOf_map_fst hx
    obtain ⟨t', rfl⟩ := hv i _ _ hi
    have e : num (kvs.map (·.1)) b.toList = i + 1 := by unfold num; rw [hidx]
    have h' := h t' (s.toks + 1)
    rw [e] at h'
    exact kda_item N hp hd (bk_is _ w b t) hx h' hs hg
theorem ins_mem {x : List UInt8} (h : x ∈ S) : ins S x = S := if_pos h
theorem ins_not {x : List UInt8} (h : x ∉ S) : ins S x = S ++ [x] := if_neg h
theorem nameX_FB {M : Model} {a : Addr} {cn : Str} {cs : Scope} {ccd : Value} {cl : List (Str × Addr)} {x : Str} {pos : Pos} {v : Value} {Q : Value → Shared → Prop} {c : Addr} {o : Obj}
    (hc : cl.lookup x = some c) (ho : s.heap.get? c = some o) (hd : o.data = .cell (some v)) (h : Q v s)
    (hk : cs.kind = .function := by rfl) (hx : (envX cn cs L a ccd cl).kindOf x = some .free := by rfl) (hb : (x == ("__debug__" : Str)) = false := by decide) (hn : (x == ("__classdict__" : Str)) = false := by decide) :
    wpAny M A (eval (.Name x pos) (envX cn cs L a ccd cl)) Q E s := wpAny_Name (wpAny_loadName_free hk hx hc ⟨o, ho, hd⟩ h hn) hb
end
end Mine
theorem Mine.freshSeen : True ∧ True := by w_top off; first | (walk1; all_goals trivial) | exact ⟨trivial, trivial⟩
-- part Hash
namespace Mine
open PySem PySem.W PyProof.Rows PySem.Calls
local macro_rules | `(tactic| k_room) => `(tactic| ((simp only [depth_under_make, depth_under_kw, depth_in1, depth_deeper, depth_caller]); (try dsimp only [AA] at *); omega))
local macro_rules | `(tactic| k_units) => `(tactic| ((simp only [units_in1, units_deeper, Around.mark_units, units_caller]); (try dsimp only [AA] at *); omega))
local macro_rules | `(tactic| walk_at "eval Name") => `(tactic| (k_here; k_dflt (refine' nameX_FB ?c ?m ?d ?_ ?a ?b; (case a => rfl); (case b => rfl); (case c => rfl); (case m => exact Fr.keep (by k_asm) _ _ (by assumption)); (case d => assumption))))
local macro_rules | `(tactic| walk_at "compareOp NotIn bytes ref") => `(tactic| (k_here; k_dflt (refine' seen_notin ?N ?m ?S ?l ?_ ?_; (case N => k_asm); (case m => k_mem); (case S => assumption); (case l => assumption)); intro _))
local macro_rules | `(tactic| walk_at "call builtin:len") => `(tactic| (k_here; (with_reducible show wpAny _ _ (call (Value.builtin "len") [Value.ref _]) _ _ _); k_dflt (refine' seen_len ?N ?m ?S ?l ?z ?_; (case N => k_asm); (case m => k_mem); (case S => assumption); (case l => assumption); (case z => omega))))
local macro_rules | `(tactic| walk_at "setItem ref bytes") => `(tactic| (k_here; k_dflt (refine' seen_set ?F ?N ?U ?S ?n ?z ?_; (case F => k_asm); (case N => k_asm); (case U => k_updF); (case S => assumption); (case n => assumption); (case z => omega)); intro h' o' F' N' hS'; (try dsimp only at N'); (try k_sweep)))
local macro_rules | `(tactic| walk_at "subscriptTail") => `(tactic| (k_here; (with_reducible show wpAny _ _ (subscriptTail _ _ (Value.ref _) (Value.bytes _ _)) _ _ _); k_dflt (refine' seen_item ?N ?m ?S ?k ?_; (case N => k_asm); (case m => k_mem); (case S => assumption); (case k => first | assumption | exact List.mem_append_right _ (.head _))); intro _ _))
local macro_rules | `(tactic| walk_at "call builtin:int.to_bytes") => `(tactic| (k_here; (with_reducible show wpAny _ _ (call (Value.builtin "int.to_bytes") [Value.int _ _, Value.int _ _, Value.str _ _]) _ _ _); k_dflt (refine' to_bytes32 ?z ?_; (case z => exact Nat.lt_of_le_of_lt (num_le _ _) (by (try simp only [List.length_append, List.length_cons, List.length_nil]); omega))); intro _ _))

theorem absorb {K : Frag} {a : Addr} {o o' : Obj} {G : Prop} (h1 : K.lookup a = some o) (h2 : K.lookup a = some o') (k : o = o' → G) : G := k (by rw [h1] at h2; exact Option.some.inj h2)
theorem hashSpec_of {w : World} {p : Program} {loose : List Str} {mean : ExcName → Option Value} {mg mb : Str → Option Value} {f dS cS c' : Addr} {occ ocell : Obj}
    {oc : Value} {od : Option Addr} {ln lq : Str} {lp : Arguments} {ls : Scope} {dV kV doc pm cdv ct : Value} {an : Option Addr} {osl : Array (Option Value)} {s0 s1 s2 : Stmt} {rest : List Stmt} {hn : Str} {hpar : Arguments} {hbody : List Stmt} {dl : List Expr} {re : Option Expr} {tp : List TypeParam} {hsc : Scope} {tsc : Option Scope} {bi : Str} {po : Pos}
    {qual : Str} {tq : Tok} {vs : Array Value} {hdoc hpm hct : Value}
    (hlaw : (hd.heap_39 w.params).lookup 251 = some ⟨oc, od, .func (fnOf ln lq lp (s0 :: s1 :: s2 :: Stmt.FunctionDef hn hpar hbody dl re tp hsc tsc bi po :: rest) ls dV kV doc pm an cdv ct), osl⟩)
    (hlo : (dS == sysModules) = false) (hdc : occ.data = .fields vs) (hvs : vs[1]? = some (.str qual tq)) (hcell : ocell.data = .cell (some (.ref dS))) (n1 : f ≠ dS) (n2 : c' ≠ dS) (n3 : cS ≠ dS) :
    HashSpec w p loose mean mg mb [(f, fnMade hn qual hpar hbody hsc [(Str.ofString "seen", cS)] hdoc hpm c' hct), (c', occ), (cS, ocell)] f dS := by
  intro A s h₀ L m Q E news g oS S b t C hdp hun Nn hH U hS hl ret
  obtain ⟨hnd, dp, un, gd, env, outer, rfl⟩ := C.shape
  dsimp only [AA] at hdp hun
  have X := C.k; revert X; k_fill; intro X
  have N : News h₀ L s.heap [(dS, oS)] := List.forall_mem_cons.mpr ⟨Nn _ (upd_here U), News.nil⟩
  refine' absorb hlaw ?k ?_
  case k => k_is
  intro e
  cases e
  refine wpAny_call ?_
  refine' call_sub C N (hH _ (.head _)) rfl ⟨c', occ, vs, tq, rfl, hH _ (.tail _ (.head _)), hdc, hvs⟩ ?room (BindsTo.of_eq rfl) (locs rfl) ?_ (by decide) rfl rfl rfl
  case room => show dp < recursionLimit; omega
  intro _ _ _ _ _ _ base g' L' h' hA F' N' B' X' T' Tg' lt'
  cases hA
  have hFr := C.fr
  have hc' : g'.get? cS = some ocell := Tg' _ _ (hH _ (.tail _ (.tail _ (.head _)))) (by simpa using n3)
  clear C N hlaw X hH
  (try dsimp only); (try k_fold)
  k_steps
  · rename _ ∈ S => hm
    refine leaveM (R := [(dS, oS)]) (by k_asm) (by k_asm) fun F T G _ => ?_
    have NN := news_upd1 Nn U (fun p hp h1 => T _ _ (Nn p hp).1 (by simp only [List.map_cons, List.map_nil, List.mem_cons, List.not_mem_nil, or_false]; exact h1)) (G _ (.head _))
    rw [ins_mem hm] at ret
    exact ret _ _ _ _ F NN (by assumption)
  · rename _ ∉ S => hm
    refine leaveM (R := [(dS, oS)]) (by k_asm) (by k_asm) fun F T G _ => ?_
    have NN := news_upd1 Nn U (fun p hp h1 => T _ _ (Nn p hp).1 (by simp only [List.map_cons, List.map_nil, List.mem_cons, List.not_mem_nil, or_false]; exact h1)) (G _ (.head _))
    rw [ins_not hm] at ret
    exact ret _ _ _ _ F NN (by assumption)
end Mine
theorem Mine.freshHash : True ∧ True := by w_top off; first | (walk1; all_goals trivial) | exact ⟨trivial, trivial⟩
-- part RevR
namespace Mine
open PySem PySem.W PyProof.Rows PySem.Calls
theorem sub_rangeiter_rev : isSubtype (.type "range_iterator") (.type "reversed") = pure false := by rw [isSubtype_type]; kernel_rfl
def rngIt : Obj := { cls := .type "range_iterator", data := .fields #[rawInt 7, rawInt 8, rawInt (-1)] }
section
variable {prog : Program} {w : World} {A : Around} {E : Value → Shared → Prop} {s : Shared}
theorem call_range_reversed {r : Addr} {t u v : Tok} {Q : Value → Shared → Prop} (hr : IsRange s.heap r 0 8 1 t u v)
    (h : Q (.ref s.heap.objs.size) { s with heap := s.heap.push rngIt }) : wpAny (model prog w) A (call (.builtin "range.__reversed__") [.ref r]) Q E s := by
  have hT : s.TypeIs (.ref r) "range" := ⟨_, hr, rfl⟩
  refine wpAny_call_entry F.slot_range_reversed hT F.entry_range_reversed ?_ (F.args_range_reversed_1 _)
  unfold Builtin.«range.__reversed__»
  refine wpAny_bind (wpAny_of_eq (a := Value.ref r) rfl ?_)
  show wpAny _ _ (Builtin.Range.rangeFields (.ref r) >>= _) _ _ s
  refine wpAny_bind ?_
  unfold Builtin.Range.rangeFields
  show wpAny _ _ (field (.ref r) 0 >>= _) _ _ s
  refine wpAny_bind (wpAny_field hr rfl (x := .int 0 t) rfl ?_)
  show wpAny _ _ (field (.ref r) 1 >>= _) _ _ s
  refine wpAny_bind (wpAny_field hr rfl (x := .int 8 u) rfl ?_)
  show wpAny _ _ (field (.ref r) 2 >>= _) _ _ s
  refine wpAny_bind (wpAny_field hr rfl (x := .int 1 v) rfl ?_)
  refine wpAny_pure ?_
  show wpAny _ _ (newFields "range_iterator" [rawInt 7, rawInt 8, rawInt (-1)] >>= _) _ _ _
  exact wpAny_bind (wpAny_newObj_type (wpAny_pure ⟨_, rfl, h⟩))
theorem code_rev_range {r : Addr} {t u v : Tok} {Q₁ : Value → Shared → Prop} (hr : IsRange s.heap r 0 8 1 t u v)
    (h : Q₁ (.ref s.heap.objs.size) { s with heap := s.heap.push rngIt }) :
    codeAny (model prog w) A (.call (.builtin "reversed.__new__") ⟨[.type "reversed", .ref r], []⟩) (wants Q₁ E) s := by
  have hT : s.TypeIs (.ref r) "range" := ⟨_, hr, rfl⟩
  refine codeAny_of_tree ?_
  show wpAny _ A.in1 (do checkBuiltinCall "reversed.__new__" ⟨[.type "reversed", .ref r], []⟩; again (.builtin "reversed.__new__" ⟨[.type "reversed", .ref r], []⟩)) _ _ s
  refine wpAny_bind (wpAny_of_eq (F.newCall_reversed_1 _) (wpAny_pure ⟨plainId_quiet F.plain_reversed_new _, codeAny_builtin F.entry_reversed_new ?_⟩))
  rw [Around.under_plainId F.plain_reversed_new _]
  unfold Builtin.«reversed.__new__»
  refine wpAny_bind (wpAny_of_eq (newClass_reversed _) ?_)
  try dsimp only
  refine wpAny_bind (wpAny_of_eq (a := ()) (by first | rfl | kernel_rfl) ?_)
  refine wpAny_bind (wpAny_of_eq (a := ()) (by first | rfl | kernel_rfl) ?_)
  try dsimp only
  refine wpAny_bind (wpAny_specialOf hT F.slot_range_reversed.lookup ?_)
  try dsimp only
  refine wpAny_bind (wpAny_of_eq (F.slot_range_reversed.bind _) ?_)
  try dsimp only
  first
  | rw [if_neg (show ¬ ((Value.builtin "range.__reversed__" == Value.none) = true) from Bool.false_ne_true)]
  | (show wpAny _ _ (if (Value.builtin "range.__reversed__" == Value.none) = true then _ else _) _ _ _; rw [if_neg (show ¬ ((Value.builtin "range.__reversed__" == Value.none) = true) from Bool.false_ne_true)])
  refine wpAny_bind (wpAny_rule ?_)
  refine wpAny_bind (m := runValue (.call (.builtin "range.__reversed__") ⟨[.ref r], []⟩)) (show wpAny _ _ (call (.builtin "range.__reversed__") [.ref r]) _ _ _ from call_range_reversed hr ?_)
  first
  | exact wpAny_pure h
  | exact wpAny_bind (wpAny_pure (wpAny_pure h))
theorem call_reversed_range {r : Addr} {t u v : Tok} {Q : Value → Shared → Prop} (hr : IsRange s.heap r 0 8 1 t u v)
    (h : Q (.ref s.heap.objs.size) { s with heap := s.heap.push rngIt }) : wpAny (model prog w) A (call (.type "reversed") [.ref r]) Q E s := by
  refine callType_other (U := "range_iterator") (Q₁ := fun obj s₁ => obj = .ref s.heap.objs.size ∧ s₁ = { s with heap := s.heap.push rngIt }) (by decide +kernel) F.create_reversed ⟨_, _, F.mro_reversed⟩ F.made_reversed sub_rangeiter_rev (F.typeCall_reversed_1 _) (code_rev_range hr ⟨rfl, rfl⟩) ?_
  rintro obj s₁ ⟨rfl, rfl⟩
  exact ⟨⟨_, Heap.get?_push_size _ rfl, rfl⟩, h⟩
theorem rev_rng {r : Addr} {t u v : Tok} {h₀ : Heap} {L : Addr} {m : Str → Option Value} {news : List (Addr × Obj)} {Q : Value → Shared → Prop} (F : Fr h₀ L s.heap m) (N : News h₀ L s.heap news) (hr : IsRange s.heap r 0 8 1 t u v)
    (h : ∀ D h', Fr h₀ L h' m → News h₀ L h' ((D, rngIt) :: news) → (∀ p ∈ news, p.1 < D) → Q (.ref D) { s with heap := h' }) : wpAny (model prog w) A (call (.type "reversed") [.ref r]) Q E s :=
  call_reversed_range hr (h _ _ (F.push _) (News.push F N _) fun q hq => Heap.lt_size (N q hq).1)
theorem iter_rngDown {env : Env} {h₀ : Heap} {x : Str} {body : List Stmt} {Q : Flow → Shared → Prop}
    {I : Addr} {m₀ : Str → Option Value} {news : List (Addr × Obj)} (J : Nat → (Str → Option Value) → List (Addr × Obj) → Prop)
    (hh : A.handled = none) (F : Fr h₀ env.locals s.heap m₀) (N : News h₀ env.locals s.heap ((I, rngIt) :: news)) (hI : ∀ p ∈ news, p.1 ≠ I) (hj : J 0 m₀ news)
    (turn : ∀ i t m₁ nx h tk own, i < 8 → nx.map (·.1) = news.map (·.1) → OwnOff own (news.map (·.1)) → J i m₁ nx → Fr h₀ env.locals h (fun y => if y = x then some (.int ((7 : Int) - (i : Nat)) t) else m₁ y) → News h₀ env.locals h (nx ++ own) →
      wpAny (model prog w) A (execs body env) (InvPostN h₀ env.locals (J (i + 1)) own (news.map (·.1)) { s with heap := h, toks := tk } Q) E { s with heap := h, toks := tk })
    (done : ∀ m₁ nx h tk, J 8 m₁ nx → Fr h₀ env.locals h m₁ → News h₀ env.locals h nx → Q .next { s with heap := h, toks := tk }) :
    wpAny (model prog w) A (pyIter (.ref I)) (fun it s₂ => LoopAtV prog w A h₀ env x body Q E it s₂) E s := by
  have hI0 := N _ (.head _)
  refine wpAny_pyIter_rangeiter (x := 7) (left := 8) (step := -1) hI0.1 ?_
  have W : Walks prog w A I [I] [I] 8 (fun i v => i < 8 ∧ ∃ t, v = .int (7 + i * (-1)) t)
      (fun i h => IsRangeIter h I (7 + (i : Nat) * (-1)) (((8 : Nat) : Int) - (i : Nat)) (-1)) := (Walks.range hh _ 7 (-1) 8).bound
  refine loop_invN J W ?_ ?_ ?_ ?_ (by show IsRangeIter _ _ _ _ _; exact hI0.1) F (fun p hp => N p (.tail _ hp)) hj ?_ done
  · intro hm
    exact absurd (List.mem_singleton.mp hm).symm hI0.2.1
  · intro b hb
    rw [List.mem_singleton.mp hb]
    exact hI0.2.2
  · intro p hp hm
    exact hI p hp (List.mem_singleton.mp hm)
  · intro p hp hm
    exact hI p hp (List.mem_singleton.mp hm)
  · rintro i v m₁ nx h tk own hi ⟨_, t, rfl⟩
    have e : (7 + (i : Int) * (-1)) = (7 : Int) - ((i : Nat) : Int) := by omega
    rw [e]
    exact turn i t m₁ nx h tk own hi
end
end Mine
theorem Mine.freshRevR : True ∧ True := by w_top off; first | (walk1; all_goals trivial) | exact ⟨trivial, trivial⟩
-- part Part
namespace Mine
open PySem PySem.W PyProof.Rows PySem.Calls
theorem nat_xor_and (a : Nat) : ∀ b, (a ^^^ b) + 2 * (a &&& b) = a + b := by
  induction a using Nat.strongRecOn with
  | _ a ih =>
    intro b
    by_cases ha : a = 0
    · subst ha; simp
    · have h := ih (a / 2) (by omega) (b / 2)
      have e1 : (a ^^^ b) / 2 = (a / 2) ^^^ (b / 2) := Nat.xor_div_two
      have e2 : (a &&& b) / 2 = (a / 2) &&& (b / 2) := Nat.and_div_two
      have e3 : (a ^^^ b) % 2 = (a + b) % 2 := by
        have := @Nat.xor_mod_two_pow a b 1
        rcases Nat.mod_two_eq_zero_or_one a with p | p <;> rcases Nat.mod_two_eq_zero_or_one b with q | q <;>
          (rw [Nat.pow_one, p, q] at this; rw [this, Nat.add_mod, p, q]; rfl)
      have e4 : (a &&& b) % 2 = (a % 2) * (b % 2) := by
        rcases Nat.mod_two_eq_zero_or_one a with p | p <;> rcases Nat.mod_two_eq_zero_or_one b with q | q <;>
          (have := @Nat.and_mod_two_pow a b 1; simp [p, q] at this ⊢; try exact this)
      have d1 := Nat.div_add_mod (a ^^^ b) 2
      have d2 := Nat.div_add_mod (a &&& b) 2
      rw [e1, e3] at d1
      rw [e2, e4] at d2
      rcases Nat.mod_two_eq_zero_or_one a with p | p <;> rcases Nat.mod_two_eq_zero_or_one b with q | q <;>
        (rw [p, q] at d2; simp at d2; omega)
theorem bitXor_nat (a b : Nat) : Builtin.bitXor (a : Int) (b : Int) = ((a ^^^ b : Nat) : Int) := by
  rw [PyProof.Rows.bitXor_and]
  rw [bitAnd_nat]
  have := nat_xor_and a b
  omega
theorem xor_eq_zero {a b : Nat} (h : a ^^^ b = 0) : a = b := by
  apply Nat.eq_of_testBit_eq
  intro i
  have := congrArg (fun x => x.testBit i) h
  simp only [Nat.testBit_xor, Nat.zero_testBit] at this
  simpa using this
/-- how many places of two keys, from the top, are alike -/
def part (k p : Nat) : Nat := 8 - Builtin.Int.intBits (Builtin.bitXor (k : Int) (p : Int))
theorem xor_lt {k p : Nat} (hk : k < 256) (hp : p < 256) : k ^^^ p < 256 := Nat.xor_lt_two_pow (n := 8) hk hp
theorem bits_le : ∀ x : Fin 256, Builtin.Int.intBits ((x.val : Nat) : Int) ≤ 8 := by decide +kernel
theorem bits_top : ∀ x : Fin 256, ∀ i : Fin 8, Builtin.Int.intBits ((x.val : Nat) : Int) + i.val = 8 → (x.val.testBit (7 - i.val) = true ∧ ∀ j : Fin 8, j.val < i.val → x.val.testBit (7 - j.val) = false) := by decide +kernel
theorem bits_zero : ∀ x : Fin 256, Builtin.Int.intBits ((x.val : Nat) : Int) = 0 → x.val = 0 := by decide +kernel
theorem bits_of : ∀ x : Fin 256, ∀ i : Fin 8, x.val.testBit (7 - i.val) = true → (∀ j : Fin 8, j.val < i.val → x.val.testBit (7 - j.val) = false) → Builtin.Int.intBits ((x.val : Nat) : Int) + i.val = 8 := by decide +kernel
theorem bits_none : ∀ x : Fin 256, (∀ j : Fin 8, x.val.testBit (7 - j.val) = false) → x.val = 0 := by decide +kernel
theorem part_le (k p : Nat) : part k p ≤ 8 := Nat.sub_le _ _
theorem part_int {k p : Nat} (hk : k < 256) (hp : p < 256) : ((part k p : Nat) : Int) = 8 - ((Builtin.Int.intBits (Builtin.bitXor (k : Int) (p : Int)) : Nat) : Int) := by
  have := bits_le ⟨k ^^^ p, xor_lt hk hp⟩
  unfold part
  rw [bitXor_nat] at *
  dsimp only at this
  omega
theorem bitAnd_pos {x i : Nat} : (0 < Builtin.bitAnd (x : Int) (2 ^ i)) ↔ x.testBit i = true := by
  have e : ((2 : Int) ^ i) = ((2 ^ i : Nat) : Int) := by rw [Int.natCast_pow]; rfl
  rw [e, bitAnd_nat, ← and_two_pow_ne]
  omega
theorem part_at {k p i : Nat} (hk : k < 256) (hp : p < 256) (hi : i < 8) (h1 : 0 < Builtin.bitAnd (Builtin.bitXor (k : Int) (p : Int)) (2 ^ (7 - i)))
    (h2 : ∀ j, j < i → ¬ 0 < Builtin.bitAnd (Builtin.bitXor (k : Int) (p : Int)) (2 ^ (7 - j))) : part k p = i := by
  rw [bitXor_nat] at h1 h2
  have := bits_of ⟨k ^^^ p, xor_lt hk hp⟩ ⟨i, hi⟩ (bitAnd_pos.mp h1) (fun j hj => by
    have := h2 j hj
    rw [bitAnd_pos] at this
    simpa using this)
  unfold part
  rw [bitXor_nat]
  dsimp only at this
  omega
theorem part_none {k p : Nat} (hk : k < 256) (hp : p < 256) (h2 : ∀ j, j < 8 → ¬ 0 < Builtin.bitAnd (Builtin.bitXor (k : Int) (p : Int)) (2 ^ (7 - j))) : Builtin.bitXor (k : Int) (p : Int) = 0 := by
  rw [bitXor_nat] at *
  have := bits_none ⟨k ^^^ p, xor_lt hk hp⟩ (fun j => by
    have := h2 j.val j.isLt
    rw [bitAnd_pos] at this
    simpa using this)
  dsimp only at this
  rw [this]; rfl
theorem part_eight {k p : Nat} (hk : k < 256) (hp : p < 256) (h : part k p = 8) : k = p := by
  have hb := bits_le ⟨k ^^^ p, xor_lt hk hp⟩
  unfold part at h
  rw [bitXor_nat] at h
  dsimp only at hb
  have := bits_zero ⟨k ^^^ p, xor_lt hk hp⟩ (by dsimp only; omega)
  exact xor_eq_zero this
theorem part_self (k : Nat) : part k k = 8 := by
  unfold part; rw [bitXor_nat, Nat.xor_self]; rfl
/-- what part says of the places -/
theorem part_bits {k p i : Nat} (hk : k < 256) (hp : p < 256) (hi : i < 8) (h : part k p = i) : (k.testBit (7 - i) ≠ p.testBit (7 - i)) ∧ ∀ j, j < i → k.testBit (7 - j) = p.testBit (7 - j) := by
  have hb := bits_le ⟨k ^^^ p, xor_lt hk hp⟩
  unfold part at h
  rw [bitXor_nat] at h
  dsimp only at hb
  have := bits_top ⟨k ^^^ p, xor_lt hk hp⟩ ⟨i, hi⟩ (by dsimp only; omega)
  refine ⟨?_, fun j hj => ?_⟩
  · have q := this.1
    dsimp only at q
    rw [Nat.testBit_xor] at q
    intro e; rw [e] at q; simp at q
  · have q := this.2 ⟨j, by omega⟩ hj
    dsimp only at q
    rw [Nat.testBit_xor] at q
    simpa using q
theorem xor_zero_iff {k p : Nat} : Builtin.bitXor (k : Int) (p : Int) = 0 ↔ k = p := by
  rw [bitXor_nat]
  constructor
  · intro h
    exact xor_eq_zero (by exact_mod_cast h)
  · rintro rfl
    rw [Nat.xor_self]; rfl
end Mine
theorem Mine.freshPart : True ∧ True := by w_top off; first | (walk1; all_goals trivial) | exact ⟨trivial, trivial⟩
-- part Own
namespace Mine
open PySem PySem.W PyProof.Rows PySem.Calls
local macro_rules | `(tactic| k_room) => `(tactic| ((simp only [depth_under_make, depth_under_kw, depth_in1, depth_deeper, depth_caller]); (try dsimp only [AA] at *); omega))
local macro_rules | `(tactic| k_units) => `(tactic| ((simp only [units_in1, units_deeper, Around.mark_units, units_caller]); (try dsimp only [AA] at *); omega))
-- enter a def of the top with the ledger at hand
local macro_rules | `(tactic| walk_at "m_enter") => `(tactic| (
  refine' call_subK (by assumption) (by assumption) ?k1 ?k2 ?k3 ?k4 ?k5 ?_ ?k6 ?k7 ?k8 ?k9
  (case k1 => k_is)
  (case k2 => k_is)
  (case k3 => k_room)
  (case k4 => exact BindsTo.of_eq rfl)
  (case k5 => exact locs rfl)
  (case k6 => decide)
  (case k7 => exact rfl)
  (case k8 => exact rfl)
  (case k9 => exact rfl)))
-- the caller's context
local macro_rules | `(tactic| walk_at "m_cx") => `(tactic| k_dflt (
  refine' mkCx ?F ?B ?X ?T ?a ?b ?c
  (case F => k_asm)
  (case B => k_asm)
  (case X => k_asm)
  (case T => k_asm)
  (case a => exact rfl)
  (case b => exact rfl)
  (case c => exact rfl)))
local macro_rules | `(tactic| walk_at "m_depth") => `(tactic| ((simp only [depth_under_make, depth_under_kw, depth_in1, depth_deeper, depth_caller]); (try dsimp only [AA]); omega))
local macro_rules | `(tactic| walk_at "m_unit") => `(tactic| ((simp only [units_in1, units_deeper, Around.mark_units, units_caller]); (try dsimp only [AA]); omega))
local macro_rules | `(tactic| walk_at "call ref") => `(tactic| (k_here; first
  | ((with_reducible show wpAny _ _ (call (Value.ref 62) [Value.bytes _ _]) _ _ _); k_dflt (refine' vib_spec ?C ?d ?u ?N ?_); (case C => walk_at "m_cx"); (case d => walk_at "m_depth"); (case u => walk_at "m_unit"); (case N => k_asm); intro h' tk' F' N' _; (try k_sweep))
  | ((with_reducible show wpAny _ _ (call (Value.ref 35) [_, _]) _ _ _); k_dflt (refine' cast_spec ?C ?d ?u ?N ?_); (case C => walk_at "m_cx"); (case d => walk_at "m_depth"); (case u => walk_at "m_unit"); (case N => k_asm); intro h' tk' F' N' _; (try k_sweep))
  | ((with_reducible show wpAny _ _ (call (Value.ref 42) [Value.bytes _ _]) _ _ _); k_dflt (refine' toint_spec ?C ?d ?u ?N ?_); (case C => walk_at "m_cx"); (case d => walk_at "m_depth"); (case u => walk_at "m_unit"); (case N => k_asm); intro h' tk' t' F' N' _; (try k_sweep))
  | ((with_reducible show wpAny _ _ (call (Value.ref 69) [Value.bytes _ _, _]) _ _ _); k_dflt (refine' vlb_spec ?C ?d ?u ?N ?_); (case C => walk_at "m_cx"); (case d => walk_at "m_depth"); (case u => walk_at "m_unit"); (case N => k_asm); intro h' tk' F' N' _; (try k_sweep))
  | ((with_reducible show wpAny _ _ (call (Value.ref 69) [Value.ref _, _]) _ _ _); k_dflt (refine' vlt_spec ?C ?d ?u ?N ?t ?n ?_); (case C => walk_at "m_cx"); (case d => walk_at "m_depth"); (case u => walk_at "m_unit"); (case N => k_asm); (case t => exact IsTup.keeps (by assumption) (Fr.keep (by assumption))); (case n => assumption); intro h' tk' F' N' _; (try k_sweep))))
local macro_rules | `(tactic| walk_at "m_fn") => `(tactic| k_dflt (exact IsFnIn.at (by assumption) (AllAt.keeps (by assumption) (Fr.keep (by assumption)))))
local macro_rules | `(tactic| walk_at "m_all") => `(tactic| k_dflt (exact AllAt.keeps (by assumption) (Fr.keep (by assumption))))
local macro_rules | `(tactic| walk_at "FnAt") => `(tactic| walk_at "m_fn")
local macro_rules | `(tactic| walk_at "callWith ref") => `(tactic| (k_here; k_dflt (refine' callWith_F ?k1 ?_; (case k1 => walk_at "m_fn"))))
local macro_rules | `(tactic| walk_at "call ref") => `(tactic| (k_here; (with_reducible show wpAny _ _ (call (Value.ref _) [Value.bytes _ _]) _ _ _); k_dflt (refine' hash_use (by assumption) ?C ?d ?u ?N ?H ?U ?S ?l ?_); (case C => walk_at "m_cx"); (case d => walk_at "m_depth"); (case u => walk_at "m_unit"); (case N => k_asm); (case H => walk_at "m_all"); (case U => k_updF); (case S => k_asm); (case l => omega); intro h' oS' t' tk' F' N' hS' hl'; (try dsimp only at N'); (try k_sweep)))
local macro_rules | `(tactic| walk_at "binaryOp Add bytes bytes") => `(tactic| (k_here; (with_reducible show wpAny _ _ (binaryOp Operator.Add (Value.bytes _ _) (Value.bytes _ _)) _ _ _); (refine KBy.add_bytes (by omega) ?_); intro _ _))
local macro_rules | `(tactic| walk_at "call builtin:len") => `(tactic| (k_here; first
  | ((with_reducible show wpAny _ _ (call (Value.builtin "len") [Value.bytes _ _]) _ _ _); refine len_b1 ?_)
  | ((with_reducible show wpAny _ _ (call (Value.builtin "len") [Value.ref _]) _ _ _); refine len_tupB (by assumption) (by assumption) (by assumption) ?_)))

local macro_rules | `(tactic| walk_at "subscriptTail") => `(tactic| (k_here; (with_reducible show wpAny _ _ (subscriptTail _ _ (Value.ref _) (Value.bytes _ _)) _ _ _); k_dflt (refine' db_item ?N ?m ?D ?k ?_; (case N => k_asm); (case m => k_mem); (case D => k_asm); (case k => k_asm)); intro _ _))
local macro_rules | `(tactic| walk_at "subscriptTail") => `(tactic| (k_here; (with_reducible show wpAny _ _ (subscriptTail _ (Expr.Slice _ _ none _) (Value.bytes (_ ++ _) _) (Value.ref _)) _ _ _); (with_reducible rename Fr _ _ _ _ => F'); (with_reducible rename News _ _ _ _ => N'); k_dflt (first
  | (refine slice_lo (s := ⟨_, _, _, _, _⟩) F' N' (by assumption) (by assumption) ?_)
  | (refine slice_hi (s := ⟨_, _, _, _, _⟩) F' N' (by assumption) (by assumption) ?_)); intro _ _ _ F' N'; (try k_sweep)))
local macro_rules | `(tactic| walk_at "call builtin:list.append") => `(tactic| (k_here; (with_reducible show wpAny _ _ (call (Value.builtin _) [Value.ref _, _]) _ _ _); k_dflt (refine' append_L ?F ?N ?U ?_ ?z; (case F => k_asm); (case N => k_asm); (case U => k_updF); (case z => omega)); intro h' F' N'; (try dsimp only at N'); (try k_sweep)))
local macro_rules | `(tactic| walk_at "call type:tuple") => `(tactic| (k_here; (with_reducible show wpAny _ _ (call (Value.type "tuple") [Value.ref _]) _ _ _); k_dflt (refine' tuple_L ?F ?N ?m ?z ?_; (case F => k_asm); (case N => k_asm); (case m => k_mem); (case z => omega)); intro D' h' F' N' l1; (try k_lt l1); (try k_sweep)))

local macro_rules | `(tactic| walk_at "call type:tuple") => `(tactic| (k_here; (with_reducible show wpAny _ _ (call (Value.type "tuple") [Value.ref _]) _ _ _); k_dflt (refine' tuple_rev rfl ?F ?N ?I ?m ?z ?_; (case F => k_asm); (case N => k_asm); (case I => k_all); (case m => k_mem); (case z => omega)); intro D' h' tk' F' N' l1; (try k_lt l1); (try k_sweep)))
local macro_rules | `(tactic| walk_at "call type:reversed") => `(tactic| (k_here; (with_reducible show wpAny _ _ (call (Value.type "reversed") [Value.ref _]) _ _ _); k_dflt (first
  | (refine' rev_K ?F ?N ?t ?n ?_; (case F => k_asm); (case N => k_asm); (case t => assumption); (case n => assumption); intro D' h' tk' F' N' l1; (try k_lt l1); (try k_sweep))
  | (refine' rev_KN ?F ?N ?m ?n ?_; (case F => k_asm); (case N => k_asm); (case m => k_mem); (case n => assumption); intro D' h' tk' F' N' l1; (try k_lt l1); (try k_sweep))
  | (refine' revL_K ?F ?N ?m ?_; (case F => k_asm); (case N => k_asm); (case m => k_mem); intro D' h' F' N' l1; (try k_lt l1); (try k_sweep)))))
local macro_rules | `(tactic| walk_at "setItem ref bytes") => `(tactic| (k_here; k_dflt (refine' db_set ?F ?N ?U ?D ?n ?_; (case F => k_asm); (case N => k_asm); (case U => k_updF); (case D => k_asm); (case n => omega)); intro h' o' F' N' hD'; (try dsimp only at N'); (try k_sweep)))
local macro_rules | `(tactic| walk_at "call ref") => `(tactic| (k_here; (with_reducible show wpAny _ _ (call (Value.ref 183) [Value.ref _, Value.bytes _ _]) _ _ _); k_dflt (refine' get_spec ?C ?d ?u rfl ?N ?m1 ?m2 ?m3 ?T ?D ?W ?_; (case C => walk_at "m_cx"); (case d => walk_at "m_depth"); (case u => walk_at "m_unit"); (case N => k_asm); (case m1 => k_mem); (case m2 => k_mem); (case T => first | assumption | exact ⟨_, _, _, _, _, _, _, _, _, _, rfl⟩); (case m3 => k_mem); (case D => assumption); (case W => assumption)); intro h' Dt Db vs' tv tk' F' N' n1 n2 n3 K' hvs' hvl'; (replace n1 := allNe_of n1); (simp only [AllNe, and_true] at n1); (replace n2 := allNe_of n2); (simp only [AllNe, and_true] at n2); (try k_sweep)))

local macro_rules | `(tactic| walk_at "call builtin:list.insert") => `(tactic| (k_here; (with_reducible show wpAny _ _ (call (Value.builtin _) [Value.ref _, _, _]) _ _ _); k_dflt (refine' insert0_L ?F ?N ?U ?z ?_; (case F => k_asm); (case N => k_asm); (case U => k_updF); (case z => omega)); intro h' F' N'; (try dsimp only at N'); (try k_sweep)))

local macro_rules | `(tactic| walk_at "pyIter ref") => `(tactic| (k_here; refine Stop.intro ?_))
theorem ki_setL_of : ∀ {l : List Value} {k : Nat} {v : Value}, k < l.length → ki_setL l k v = some (l.set k v)
  | x :: r, 0, v, _ => rfl
  | x :: r, k + 1, v, h => by
    unfold ki_setL
    rw [ki_setL_of (l := r) (k := k) (v := v) (by simpa using h)]; rfl
theorem len_tupN {w : World} {A : Around} {E : Value → Shared → Prop} {s : Shared} {h₀ : Heap} {L t : Addr} {us : List Value} {news : List (Addr × Obj)} {Q : Value → Shared → Prop} (N : News h₀ L s.heap news) (hm : (t, tup us) ∈ news) (hn : us.length ≤ 1000)
    (h : Q (.int us.length (s.toks + 1)) { s with toks := s.toks + 1 + 1 }) : wpAny (model Challenge.rw_bi0032_01.row.prog w) A (call (.builtin "len") [.ref t]) Q E s :=
  len_tuple (N.isTup hm) (by rw [List.size_toArray]; omega) (by rw [List.size_toArray]; exact h)
theorem tup_item {w : World} {A : Around} {E : Value → Shared → Prop} {s : Shared} {h₀ : Heap} {L t : Addr} {us : List Value} {news : List (Addr × Obj)} {Q : Value → Shared → Prop} {value slice : PySem.Expr} {k : Int} {u : Tok} {i : Nat} {x : Value} (N : News h₀ L s.heap news) (hm : (t, tup us) ∈ news) (hn : us.length ≤ 1000)
    (hk : k = (i : Int)) (hx : us[i]? = some x) (h : Q x s)
    (hs : subscripted slice false (.ref t) (.int k u) = operate [.ref t, .int k u] (getItem (.ref t) (.int k u)) := by with_unfolding_all rfl) : wpAny (model Challenge.rw_bi0032_01.row.prog w) A (subscriptTail value slice (.ref t) (.int k u)) Q E s := by
  subst hk
  have hi : i < us.length := by
    rcases Nat.lt_or_ge i us.length with q | q
    · exact q
    · rw [List.getElem?_eq_none q] at hx; cases hx
  refine tail_any (IsTup.typeIs (N.isTup hm)) slot_tuple_getitem.lookup (getItem_tuple (j := i) (N.isTup hm) (by omega) (by omega) ?_ (by simpa using hx) h) hs
  have hn : ¬ ((i : Int) < 0) := by omega
  simp [seqIndex?, hn, hi]
theorem list_put {w : World} {A : Around} {E : Value → Shared → Prop} {s : Shared} {h₀ : Heap} {L d : Addr} {m : Str → Option Value} {vs : List Value} {c : Nat} {news : List (Addr × Obj)} {g : Obj → List (Addr × Obj)} {Q : Unit → Shared → Prop} {k : Int} {t : Tok} {i : Nat} {v : Value} (F : Fr h₀ L s.heap m) (N : News h₀ L s.heap news) (U : UpdF d (listOf vs.toArray c) news g)
    {us : List Value} (hx : us[i]? = some v) (hk : k = (i : Int)) (hi : i < vs.length) (hn : vs.length ≤ 1000) (h : ∀ h', Fr h₀ L h' m → News h₀ L h' (g (listOf (vs.set i v).toArray c)) → Q () { s with heap := h' }) : wpAny (model Challenge.rw_bi0032_01.row.prog w) A (setItem (.ref d) (.int k t) v) Q E s := by
  subst hk
  exact ki_set F N (by omega) (by omega) (q := vs.set i v) (by show ki_setL vs i v = _; exact ki_setL_of hi) (upd_of U) h
local macro_rules | `(tactic| walk_at "call type:reversed") => `(tactic| (k_here; (with_reducible show wpAny _ _ (call (Value.type "reversed") [Value.ref _]) _ _ _); k_dflt (refine' rev_rng ?F ?N ?t ?_; (case F => k_asm); (case N => k_asm); (case t => assumption); intro D' h' F' N' l1; (try k_lt l1); (try k_sweep))))
local macro_rules | `(tactic| walk_at "call builtin:len") => `(tactic| (k_here; (with_reducible show wpAny _ _ (call (Value.builtin "len") [Value.ref _]) _ _ _); k_dflt (refine' len_tupN ?N ?m ?n ?_; (case N => k_asm); (case m => k_mem); (case n => omega))))
local macro_rules | `(tactic| walk_at "subscriptTail") => `(tactic| (k_here; (with_reducible show wpAny _ _ (subscriptTail _ _ (Value.ref _) (Value.int _ _)) _ _ _); k_dflt (refine' tup_item ?N ?m ?n ?k ?x ?_; (case N => k_asm); (case m => k_mem); (case n => omega); (case x => assumption); (case k => omega))))
local macro_rules | `(tactic| walk_at "setItem ref int") => `(tactic| (k_here; k_dflt (refine' list_put ?F ?N ?U ?x ?k ?i ?n ?_; (case F => k_asm); (case N => k_asm); (case U => k_updF); (case x => assumption); (case k => omega); (case i => omega); (case n => omega)); intro h' F' N'; (try dsimp only at N'); (try k_sweep)))
/-- an owner's own dict -/
def OwnD (w : World) (f lb : Addr) (kb : UInt8) (val : Array UInt8) (o : Obj) : Prop :=
  ∃ k1 k2 k3 k4 k5 k6 t1 t2 t3 t5 : Tok, o = dictOf [ent w (Str.ofString "_key") k1 (.bytes #[kb] t1), ent w (Str.ofString "_key_size") k2 (.int 1 t2), ent w (Str.ofString "_value") k3 (.bytes val t3),
    ent w (Str.ofString "_branch") k4 (.ref lb), ent w (Str.ofString "_branch_size") k5 (.int 8 t5), ent w (Str.ofString "hash_of") k6 (.ref f)] 6
def JUpd (vs : List Value) (c : Nat) (x dx : Addr) (od : Obj) (lb tb : Addr) (us : List Value) (kb pb : UInt8) (m₀ : Str → Option Value) (i : Nat) (m : Str → Option Value) (nx : List (Addr × Obj)) : Prop :=
  ∃ u1, (∀ j, j < i → ¬ (0 < Builtin.bitAnd (Builtin.bitXor kb.toNat pb.toNat) (2 ^ (7 - j)))) ∧ nx = [(lb, listOf vs.toArray c), (dx, od), (x, instObj 132 dx), (tb, tup us)] ∧ m = ovr m₀ [(Str.ofString "bit", u1)]
theorem endBrk {h₀ : Heap} {L : Addr} {J : (Str → Option Value) → List (Addr × Obj) → Prop} {own : List (Addr × Obj)} {adr : List Addr} {s₁ s₂ : Shared} {Q : Flow → Shared → Prop} (h : Q .next s₂) : EndT (InvPostN h₀ L J own adr s₁ Q) .brk s₂ := h
section
variable {w : World} {p : Program} {loose : List Str} {mean : ExcName → Option Value} {mg mb : Str → Option Value} {f x dx lb tb : Addr} {od : Obj}
    {A : Around} {s : Shared} {h₀ : Heap} {L : Addr} {m : Str → Option Value} {Q E : Value → Shared → Prop} {kb pb : UInt8} {tk tv : Tok} {val value : Array UInt8} {vs us : List Value} {c : Nat} {news : List (Addr × Obj)} {g1 g2 : Obj → List (Addr × Obj)}
theorem upd_spec
    (C : Cx w p loose mean mg mb A s.heap h₀ L m) (hdp : A.depth + 25 < recursionLimit) (hun : A.units + 250 < cLine) (hh : A.handled = none)
    (Nn : News h₀ L s.heap news) (m1 : (x, instObj 132 dx) ∈ news) (m2 : (tb, tup us) ∈ news) (U1 : UpdF dx od news g1) (U2 : UpdF lb (listOf vs.toArray c) news g2) (ne1 : @Ne Nat dx x) (ne2 : @Ne Nat lb dx) (ne3 : @Ne Nat x tb) (ne4 : @Ne Nat lb x) (ne5 : @Ne Nat lb tb) (ne6 : @Ne Nat dx tb)
    (hT : OwnD w f lb kb val od) (hvs : vs.length = 8) (hus : us.length ≤ 8) (hdeep : kb ≠ pb → part kb.toNat pb.toNat < us.length)
    (ret0 : kb = pb → ∀ h' od' tk', Fr h₀ L h' m → News h₀ L h' (g1 od') → OwnD w f lb kb value od' → Q .none { s with heap := h', toks := tk' })
    (ret1 : ∀ i v h' tk', part kb.toNat pb.toNat = i → i < 8 → us[i]? = some v → Fr h₀ L h' m → News h₀ L h' (g2 (listOf (vs.set i v).toArray c)) → Q .none { s with heap := h', toks := tk' }) :
    wpAny (model Challenge.rw_bi0032_01.row.prog w) A (call (.ref 129) [.ref x, .bytes #[pb] tk, .bytes value tv, .ref tb]) Q E s := by
  obtain ⟨hnd, dp, un, gd, env, outer, rfl⟩ := C.shape
  dsimp only [AA] at hdp hun hh
  subst hh
  have hk8 := UInt8.toNat_lt kb
  have hp8 := UInt8.toNat_lt pb
  have m3 : (dx, od) ∈ news := upd_here U1
  have m4 : (lb, listOf vs.toArray c) ∈ news := upd_here U2
  obtain ⟨k1, k2, k3, k4, k5, k6, t1, t2, t3, t5, rfl⟩ := hT
  have N : News h₀ L s.heap [(lb, listOf vs.toArray c), (dx, _), (x, instObj 132 dx), (tb, tup us)] := List.forall_mem_cons.mpr ⟨Nn _ m4, List.forall_mem_cons.mpr ⟨Nn _ m3, List.forall_mem_cons.mpr ⟨Nn _ m1, List.forall_mem_cons.mpr ⟨Nn _ m2, News.nil⟩⟩⟩⟩
  have X := C.k; revert X; k_fill; intro X
  refine wpAny_call ?_
  walk_at "m_enter"
  intro _ _ _ _ _ _ base g' L' h' hA F' N' B' X' T' Tg' lt'
  cases hA
  clear C
  (try dsimp only); (try k_fold)
  k_steps
  · rename Builtin.bitXor _ _ = 0 => hz
    refine leaveM (R := [(lb, listOf vs.toArray c), (dx, _), (x, instObj 132 dx), (tb, tup us)]) (by k_asm) (by k_asm) fun F T G Z => ?_
    have Gl := G _ (.head _)
    have Gd := G _ (.tail _ (.head _))
    have Gx := G _ (.tail _ (.tail _ (.head _)))
    have Gt := G _ (.tail _ (.tail _ (.tail _ (.head _))))
    refine ret0 (UInt8.toNat_inj.mp (xor_zero_iff.mp hz)) _ _ _ F (news_upd1 Nn U1 (fun p hp h1 => ?_) Gd) ⟨_, _, _, _, _, _, _, _, _, _, rfl⟩
    by_cases e1 : p.1 = lb
    · rw [e1, Gl]; have := (Nn p hp).1; rw [e1, (Nn _ m4).1] at this; exact this
    by_cases e2 : p.1 = x
    · rw [e2, Gx]; have := (Nn p hp).1; rw [e2, (Nn _ m1).1] at this; exact this
    by_cases e3 : p.1 = tb
    · rw [e3, Gt]; have := (Nn p hp).1; rw [e3, (Nn _ m2).1] at this; exact this
    exact T _ _ (Nn p hp).1 (by simp only [List.map_cons, List.map_nil, List.mem_cons, List.not_mem_nil, or_false, not_or]; exact ⟨e1, h1, e2, e3⟩)
  · rename Builtin.bitXor _ _ ≠ 0 => hz
    have hne : kb ≠ pb := fun q => hz (xor_zero_iff.mpr (by rw [q]))
    have hdp' := hdeep hne
    refine Stop.out ?_
    refine' iter_rngDown (m₀ := ?m0) (JUpd vs c x dx _ lb tb us kb pb ?m0) rfl ?F ?N ?I ?j ?turn ?done
    case F => k_asm
    case N => k_asm
    case I => k_all
    case j =>
      refine' ⟨_, fun j hj => absurd hj (Nat.not_lt_zero _), rfl, ?eqm⟩
      case eqm =>
      funext z
      by_cases h1 : z = Str.ofString "bit"; · subst h1; exact rfl
      simp only [ovr, h1, if_false]
    case turn =>
      intro i t m₁ nx h tk own hi hnx hown hJ F₁ N₁
      obtain ⟨u1, hup, rfl, rfl⟩ := hJ
      dsimp only [List.cons_append, List.nil_append] at N₁
      have epow : (1 : Int) * 2 ^ ((7 : Int) - (i : Int)).toNat = 2 ^ (7 - i) := by rw [Int.one_mul]; congr 1; omega
      refine wpAny_mono (Q := EndT (InvPostN _ _ _ _ _ _ _)) ?_ (fun _ _ x => x) (fun _ _ x => x)
      k_steps
      · rename 0 < Builtin.bitAnd _ _ => hb
        rw [epow] at hb
        have hpart := part_at hk8 hp8 hi hb hup
        rw [hpart] at hdp'
        obtain ⟨v0, hv0⟩ : ∃ v, us[i]? = some v := ⟨_, List.getElem?_eq_getElem hdp'⟩
        refine endBrk ?_
        (try dsimp only)
        k_steps
        refine leaveM (R := [(lb, listOf vs.toArray c), (dx, _), (x, instObj 132 dx), (tb, tup us)]) (by k_asm) (by k_asm) fun F T G Z => ?_
        have Gl := G _ (.head _)
        have Gd := G _ (.tail _ (.head _))
        have Gx := G _ (.tail _ (.tail _ (.head _)))
        have Gt := G _ (.tail _ (.tail _ (.tail _ (.head _))))
        refine ret1 i _ _ _ hpart hi hv0 F (news_upd1 Nn U2 (fun p hp h1 => ?_) Gl)
        by_cases e1 : p.1 = dx
        · rw [e1, Gd]; have := (Nn p hp).1; rw [e1, (Nn _ m3).1] at this; exact this
        by_cases e2 : p.1 = x
        · rw [e2, Gx]; have := (Nn p hp).1; rw [e2, (Nn _ m1).1] at this; exact this
        by_cases e3 : p.1 = tb
        · rw [e3, Gt]; have := (Nn p hp).1; rw [e3, (Nn _ m2).1] at this; exact this
        exact T _ _ (Nn p hp).1 (by simp only [List.map_cons, List.map_nil, List.mem_cons, List.not_mem_nil, or_false, not_or]; exact ⟨h1, e1, e2, e3⟩)
      · rename ¬ 0 < Builtin.bitAnd _ _ => hb
        rw [epow] at hb
        refine' invEndL [] [_, _, _, _] own (.inl rfl) ⟨_, _, rfl⟩ (by assumption) (by assumption) ?a8 ⟨_, ?a2, rfl, ?a4⟩
        case a2 =>
          intro j hj
          rcases Nat.lt_or_ge j i with q | q
          · exact hup j q
          · have e : j = i := by omega
            rw [e]; exact hb
        case a4 =>
          funext z
          by_cases h1 : z = Str.ofString "bit"; · subst h1; exact rfl
          simp only [ovr, h1, if_false]
        case a8 => exact rfl
    case done =>
      intro m₁ nx h tk hJ F₁ N₁
      obtain ⟨u1, hup, rfl, rfl⟩ := hJ
      exact absurd (part_none hk8 hp8 hup) hz
end
end Mine
theorem Mine.freshOwn : True ∧ True := by w_top off; first | (walk1; all_goals trivial) | exact ⟨trivial, trivial⟩
-- part Wrap
namespace Mine
open PySem PySem.W PyProof.Rows PySem.Calls
local macro_rules | `(tactic| k_room) => `(tactic| ((simp only [depth_under_make, depth_under_kw, depth_in1, depth_deeper, depth_caller]); (try dsimp only [AA] at *); omega))
local macro_rules | `(tactic| k_units) => `(tactic| ((simp only [units_in1, units_deeper, Around.mark_units, units_caller]); (try dsimp only [AA] at *); omega))
-- enter a def of the top with the ledger at hand
local macro_rules | `(tactic| walk_at "m_enter") => `(tactic| (
  refine' call_subK (by assumption) (by assumption) ?k1 ?k2 ?k3 ?k4 ?k5 ?_ ?k6 ?k7 ?k8 ?k9
  (case k1 => k_is)
  (case k2 => k_is)
  (case k3 => k_room)
  (case k4 => exact BindsTo.of_eq rfl)
  (case k5 => exact locs rfl)
  (case k6 => decide)
  (case k7 => exact rfl)
  (case k8 => exact rfl)
  (case k9 => exact rfl)))
-- the caller's context
local macro_rules | `(tactic| walk_at "m_cx") => `(tactic| k_dflt (
  refine' mkCx ?F ?B ?X ?T ?a ?b ?c
  (case F => k_asm)
  (case B => k_asm)
  (case X => k_asm)
  (case T => k_asm)
  (case a => exact rfl)
  (case b => exact rfl)
  (case c => exact rfl)))
local macro_rules | `(tactic| walk_at "m_depth") => `(tactic| ((simp only [depth_under_make, depth_under_kw, depth_in1, depth_deeper, depth_caller]); (try dsimp only [AA]); omega))
local macro_rules | `(tactic| walk_at "m_unit") => `(tactic| ((simp only [units_in1, units_deeper, Around.mark_units, units_caller]); (try dsimp only [AA]); omega))
local macro_rules | `(tactic| walk_at "call ref") => `(tactic| (k_here; first
  | ((with_reducible show wpAny _ _ (call (Value.ref 62) [Value.bytes _ _]) _ _ _); k_dflt (refine' vib_spec ?C ?d ?u ?N ?_); (case C => walk_at "m_cx"); (case d => walk_at "m_depth"); (case u => walk_at "m_unit"); (case N => k_asm); intro h' tk' F' N' _; (try k_sweep))
  | ((with_reducible show wpAny _ _ (call (Value.ref 35) [_, _]) _ _ _); k_dflt (refine' cast_spec ?C ?d ?u ?N ?_); (case C => walk_at "m_cx"); (case d => walk_at "m_depth"); (case u => walk_at "m_unit"); (case N => k_asm); intro h' tk' F' N' _; (try k_sweep))
  | ((with_reducible show wpAny _ _ (call (Value.ref 42) [Value.bytes _ _]) _ _ _); k_dflt (refine' toint_spec ?C ?d ?u ?N ?_); (case C => walk_at "m_cx"); (case d => walk_at "m_depth"); (case u => walk_at "m_unit"); (case N => k_asm); intro h' tk' t' F' N' _; (try k_sweep))
  | ((with_reducible show wpAny _ _ (call (Value.ref 69) [Value.bytes _ _, _]) _ _ _); k_dflt (refine' vlb_spec ?C ?d ?u ?N ?_); (case C => walk_at "m_cx"); (case d => walk_at "m_depth"); (case u => walk_at "m_unit"); (case N => k_asm); intro h' tk' F' N' _; (try k_sweep))
  | ((with_reducible show wpAny _ _ (call (Value.ref 69) [Value.ref _, _]) _ _ _); k_dflt (refine' vlt_spec ?C ?d ?u ?N ?t ?n ?_); (case C => walk_at "m_cx"); (case d => walk_at "m_depth"); (case u => walk_at "m_unit"); (case N => k_asm); (case t => exact IsTup.keeps (by assumption) (Fr.keep (by assumption))); (case n => assumption); intro h' tk' F' N' _; (try k_sweep))))
local macro_rules | `(tactic| walk_at "m_fn") => `(tactic| k_dflt (exact IsFnIn.at (by assumption) (AllAt.keeps (by assumption) (Fr.keep (by assumption)))))
local macro_rules | `(tactic| walk_at "m_all") => `(tactic| k_dflt (exact AllAt.keeps (by assumption) (Fr.keep (by assumption))))
local macro_rules | `(tactic| walk_at "FnAt") => `(tactic| walk_at "m_fn")
local macro_rules | `(tactic| walk_at "callWith ref") => `(tactic| (k_here; k_dflt (refine' callWith_F ?k1 ?_; (case k1 => walk_at "m_fn"))))
local macro_rules | `(tactic| walk_at "call ref") => `(tactic| (k_here; (with_reducible show wpAny _ _ (call (Value.ref _) [Value.bytes _ _]) _ _ _); k_dflt (refine' hash_use (by assumption) ?C ?d ?u ?N ?H ?U ?S ?l ?_); (case C => walk_at "m_cx"); (case d => walk_at "m_depth"); (case u => walk_at "m_unit"); (case N => k_asm); (case H => walk_at "m_all"); (case U => k_updF); (case S => k_asm); (case l => omega); intro h' oS' t' tk' F' N' hS' hl'; (try dsimp only at N'); (try k_sweep)))
local macro_rules | `(tactic| walk_at "binaryOp Add bytes bytes") => `(tactic| (k_here; (with_reducible show wpAny _ _ (binaryOp Operator.Add (Value.bytes _ _) (Value.bytes _ _)) _ _ _); (refine KBy.add_bytes (by omega) ?_); intro _ _))
local macro_rules | `(tactic| walk_at "call builtin:len") => `(tactic| (k_here; first
  | ((with_reducible show wpAny _ _ (call (Value.builtin "len") [Value.bytes _ _]) _ _ _); refine len_b1 ?_)
  | ((with_reducible show wpAny _ _ (call (Value.builtin "len") [Value.ref _]) _ _ _); refine len_tupB (by assumption) (by assumption) (by assumption) ?_)))

local macro_rules | `(tactic| walk_at "subscriptTail") => `(tactic| (k_here; (with_reducible show wpAny _ _ (subscriptTail _ _ (Value.ref _) (Value.bytes _ _)) _ _ _); k_dflt (refine' db_item ?N ?m ?D ?k ?_; (case N => k_asm); (case m => k_mem); (case D => k_asm); (case k => k_asm)); intro _ _))
local macro_rules | `(tactic| walk_at "subscriptTail") => `(tactic| (k_here; (with_reducible show wpAny _ _ (subscriptTail _ (Expr.Slice _ _ none _) (Value.bytes (_ ++ _) _) (Value.ref _)) _ _ _); (with_reducible rename Fr _ _ _ _ => F'); (with_reducible rename News _ _ _ _ => N'); k_dflt (first
  | (refine slice_lo (s := ⟨_, _, _, _, _⟩) F' N' (by assumption) (by assumption) ?_)
  | (refine slice_hi (s := ⟨_, _, _, _, _⟩) F' N' (by assumption) (by assumption) ?_)); intro _ _ _ F' N'; (try k_sweep)))
local macro_rules | `(tactic| walk_at "call builtin:list.append") => `(tactic| (k_here; (with_reducible show wpAny _ _ (call (Value.builtin _) [Value.ref _, _]) _ _ _); k_dflt (refine' append_L ?F ?N ?U ?_ ?z; (case F => k_asm); (case N => k_asm); (case U => k_updF); (case z => omega)); intro h' F' N'; (try dsimp only at N'); (try k_sweep)))
local macro_rules | `(tactic| walk_at "call type:tuple") => `(tactic| (k_here; (with_reducible show wpAny _ _ (call (Value.type "tuple") [Value.ref _]) _ _ _); k_dflt (refine' tuple_L ?F ?N ?m ?z ?_; (case F => k_asm); (case N => k_asm); (case m => k_mem); (case z => omega)); intro D' h' F' N' l1; (try k_lt l1); (try k_sweep)))

local macro_rules | `(tactic| walk_at "call type:tuple") => `(tactic| (k_here; (with_reducible show wpAny _ _ (call (Value.type "tuple") [Value.ref _]) _ _ _); k_dflt (refine' tuple_rev rfl ?F ?N ?I ?m ?z ?_; (case F => k_asm); (case N => k_asm); (case I => k_all); (case m => k_mem); (case z => omega)); intro D' h' tk' F' N' l1; (try k_lt l1); (try k_sweep)))
local macro_rules | `(tactic| walk_at "call type:reversed") => `(tactic| (k_here; (with_reducible show wpAny _ _ (call (Value.type "reversed") [Value.ref _]) _ _ _); k_dflt (first
  | (refine' rev_K ?F ?N ?t ?n ?_; (case F => k_asm); (case N => k_asm); (case t => assumption); (case n => assumption); intro D' h' tk' F' N' l1; (try k_lt l1); (try k_sweep))
  | (refine' rev_KN ?F ?N ?m ?n ?_; (case F => k_asm); (case N => k_asm); (case m => k_mem); (case n => assumption); intro D' h' tk' F' N' l1; (try k_lt l1); (try k_sweep))
  | (refine' revL_K ?F ?N ?m ?_; (case F => k_asm); (case N => k_asm); (case m => k_mem); intro D' h' F' N' l1; (try k_lt l1); (try k_sweep)))))
local macro_rules | `(tactic| walk_at "setItem ref bytes") => `(tactic| (k_here; k_dflt (refine' db_set ?F ?N ?U ?D ?n ?_; (case F => k_asm); (case N => k_asm); (case U => k_updF); (case D => k_asm); (case n => omega)); intro h' o' F' N' hD'; (try dsimp only at N'); (try k_sweep)))
local macro_rules | `(tactic| walk_at "call ref") => `(tactic| (k_here; (with_reducible show wpAny _ _ (call (Value.ref 183) [Value.ref _, Value.bytes _ _]) _ _ _); k_dflt (refine' get_spec ?C ?d ?u rfl ?N ?m1 ?m2 ?m3 ?T ?D ?W ?_; (case C => walk_at "m_cx"); (case d => walk_at "m_depth"); (case u => walk_at "m_unit"); (case N => k_asm); (case m1 => k_mem); (case m2 => k_mem); (case T => first | assumption | exact ⟨_, _, _, _, _, _, _, _, _, _, rfl⟩); (case m3 => k_mem); (case D => assumption); (case W => assumption)); intro h' Dt Db vs' tv tk' F' N' n1 n2 n3 K' hvs' hvl'; (replace n1 := allNe_of n1); (simp only [AllNe, and_true] at n1); (replace n2 := allNe_of n2); (simp only [AllNe, and_true] at n2); (try k_sweep)))

local macro_rules | `(tactic| walk_at "call builtin:list.insert") => `(tactic| (k_here; (with_reducible show wpAny _ _ (call (Value.builtin _) [Value.ref _, _, _]) _ _ _); k_dflt (refine' insert0_L ?F ?N ?U ?z ?_; (case F => k_asm); (case N => k_asm); (case U => k_updF); (case z => omega)); intro h' F' N'; (try dsimp only at N'); (try k_sweep)))

local macro_rules | `(tactic| walk_at "call ref") => `(tactic| (k_here; (with_reducible show wpAny _ _ (call (Value.ref 190) [Value.ref _, Value.bytes _ _, Value.bytes _ _]) _ _ _); k_dflt (refine' set_spec (by assumption) ?C ?d ?u rfl ?N ?m1 ?U1 ?U2 ?U3 ?n1 ?n2 ?n3 ?H ?o ?f ?T ?D ?nd ?W ?S ?l ?b ?_; (case C => walk_at "m_cx"); (case d => walk_at "m_depth"); (case u => walk_at "m_unit"); (case N => k_asm); (case m1 => k_mem); (case S => assumption); (case T => first | assumption | exact ⟨_, _, _, _, _, _, _, _, _, _, rfl⟩); (case D => assumption); (case W => assumption); (case H => walk_at "m_all"); (case U1 => k_updF); (case U2 => intro _; k_updF); (case U3 => intro _ _; k_updF); (case o => assumption); (case f => assumption); (case n1 => omega); (case n2 => omega); (case n3 => omega); (case nd => omega); (case l => omega); (case b => assumption)); intro h' oS' od' oDB' Dt' vs' tk' F' N' n1 K' hS' hl' hT' hD' hvs' hvl'; (try dsimp only at N'); (replace n1 := allNe_of n1); (simp only [AllNe, and_true] at n1); (try k_sweep)))
section
variable {w : World} {p : Program} {loose : List Str} {mean : ExcName → Option Value} {mg mb : Str → Option Value} {f x dx dDB : Addr} {od oDB : Obj} {root : Array UInt8} {D : List UInt8 → Option (Array UInt8)} {nD : Nat}
    {A : Around} {s : Shared} {h₀ : Heap} {L : Addr} {m : Str → Option Value} {Q E : Value → Shared → Prop} {kb : UInt8} {tk : Tok} {hs ls rs : Nat → Array UInt8} {val : Array UInt8} {news : List (Addr × Obj)}

theorem tget_spec
    (C : Cx w p loose mean mg mb A s.heap h₀ L m) (hdp : A.depth + 25 < recursionLimit) (hun : A.units + 250 < cLine) (hh : A.handled = none)
    (Nn : News h₀ L s.heap news) (m1 : (x, instObj 235 dx) ∈ news) (m2 : (dx, od) ∈ news) (m3 : (dDB, oDB) ∈ news) (hT : TreeD w f dDB root od) (hD : DbObj w oDB D nD) (W : Way D root kb.toNat hs ls rs val) (hv : val.size ≠ 0)
    (ret : ∀ h' tv tk', Fr h₀ L h' m → News h₀ L h' news → Keeps s.heap h' → Q (.bytes val tv) { s with heap := h', toks := tk' }) :
    wpAny (model Challenge.rw_bi0032_01.row.prog w) A (call (.ref 169) [.ref x, .bytes #[kb] tk]) Q E s := by
  obtain ⟨hnd, dp, un, gd, env, outer, rfl⟩ := C.shape
  dsimp only [AA] at hdp hun hh
  subst hh
  obtain ⟨k1, k2, k3, k4, k5, k6, t1, t2, t3, t6, rfl⟩ := hT
  have N : News h₀ L s.heap [(x, instObj 235 dx), (dx, _), (dDB, oDB)] := List.forall_mem_cons.mpr ⟨Nn _ m1, List.forall_mem_cons.mpr ⟨Nn _ m2, List.forall_mem_cons.mpr ⟨Nn _ m3, News.nil⟩⟩⟩
  have X := C.k; revert X; k_fill; intro X
  refine wpAny_call ?_
  walk_at "m_enter"
  intro _ _ _ _ _ _ base g' L' h' hA F' N' B' X' T' Tg' lt'
  cases hA
  have hFr := C.fr
  clear C
  (try dsimp only); (try k_fold)
  k_steps
  · rename (_ == _) = true => hz
    exact absurd (congrArg List.length (beq_iff_eq.mp hz)) (by rw [Array.length_toList]; exact hv)
  · show LeaveM _ _ _ _ _ _ _ _ _
    refine leaveM (R := [(x, instObj 235 dx), (dx, _), (dDB, oDB)]) (by k_asm) (by k_asm) fun F T G Z => ?_
    have K := keeps_of N T G (by
      intro q hq
      rcases List.mem_cons.mp hq with rfl | hq; · k_mem
      rcases List.mem_cons.mp hq with rfl | hq; · k_mem
      rw [List.mem_singleton.mp hq]; k_mem)
    exact ret _ _ _ F (news_keeps Nn K) K

theorem tbranch_spec
    (C : Cx w p loose mean mg mb A s.heap h₀ L m) (hdp : A.depth + 25 < recursionLimit) (hun : A.units + 250 < cLine) (hh : A.handled = none)
    (Nn : News h₀ L s.heap news) (m1 : (x, instObj 235 dx) ∈ news) (m2 : (dx, od) ∈ news) (m3 : (dDB, oDB) ∈ news) (hT : TreeD w f dDB root od) (hD : DbObj w oDB D nD) (W : Way D root kb.toNat hs ls rs val) (hv : val.size ≠ 0)
    (ret : ∀ h' Db vs tk', Fr h₀ L h' m → News h₀ L h' ((Db, tup vs) :: news) → (∀ p ∈ news, p.1 ≠ Db) → Keeps s.heap h' → BytesAre vs ((List.range 8).map (sib kb.toNat ls rs)) → vs.length = 8 → Q (.ref Db) { s with heap := h', toks := tk' }) :
    wpAny (model Challenge.rw_bi0032_01.row.prog w) A (call (.ref 176) [.ref x, .bytes #[kb] tk]) Q E s := by
  obtain ⟨hnd, dp, un, gd, env, outer, rfl⟩ := C.shape
  dsimp only [AA] at hdp hun hh
  subst hh
  obtain ⟨k1, k2, k3, k4, k5, k6, t1, t2, t3, t6, rfl⟩ := hT
  have N : News h₀ L s.heap [(x, instObj 235 dx), (dx, _), (dDB, oDB)] := List.forall_mem_cons.mpr ⟨Nn _ m1, List.forall_mem_cons.mpr ⟨Nn _ m2, List.forall_mem_cons.mpr ⟨Nn _ m3, News.nil⟩⟩⟩
  have X := C.k; revert X; k_fill; intro X
  refine wpAny_call ?_
  walk_at "m_enter"
  intro _ _ _ _ _ _ base g' L' h' hA F' N' B' X' T' Tg' lt'
  cases hA
  have hFr := C.fr
  clear C
  (try dsimp only); (try k_fold)
  k_steps
  · rename (_ == _) = true => hz
    exact absurd (congrArg List.length (beq_iff_eq.mp hz)) (by rw [Array.length_toList]; exact hv)
  · show LeaveM _ _ _ _ _ _ _ _ _
    refine leaveM (R := [(x, instObj 235 dx), (dx, _), (dDB, oDB)]) (by k_asm) (by k_asm) fun F T G Z => ?_
    have K := keeps_of N T G (by
      intro q hq
      rcases List.mem_cons.mp hq with rfl | hq; · k_mem
      rcases List.mem_cons.mp hq with rfl | hq; · k_mem
      rw [List.mem_singleton.mp hq]; k_mem)
    have GB := G (_, tup _) (.tail _ (.head _))
    have ZB := Z (_, tup _) (.tail _ (.head _)) (by simp only [List.map_cons, List.map_nil, List.mem_cons, List.not_mem_nil, or_false, not_or]; refine ⟨?_, ?_, ?_⟩ <;> k_ne)
    exact ret _ _ _ _ F (news_cons GB ZB.1 (base_none hFr ZB.2) (news_keeps Nn K)) (fresh_ne Nn ZB.2) K (by assumption) (by assumption)

theorem tdel_spec {dS : Addr} {H : List (Addr × Obj)} {oS : Obj} {S : List (List UInt8)}
    {g1 : Obj → List (Addr × Obj)} {g2 : Obj → Obj → List (Addr × Obj)} {g3 : Obj → Obj → Obj → List (Addr × Obj)}
    (HS : HashSpec w p loose mean mg mb H f dS)
    (C : Cx w p loose mean mg mb A s.heap h₀ L m) (hdp : A.depth + 50 < recursionLimit) (hun : A.units + 500 < cLine) (hh : A.handled = none)
    (Nn : News h₀ L s.heap news) (m1 : (x, instObj 235 dx) ∈ news) (U1 : UpdF dS oS news g1) (U2 : ∀ a, UpdF dx od (g1 a) (g2 a)) (U3 : ∀ a b, UpdF dDB oDB (g2 a b) (g3 a b))
    (ne1 : @LT.lt Nat _ dS dx) (ne2 : @LT.lt Nat _ dx x) (ne3 : @LT.lt Nat _ x dDB)
    (hH : AllAt H s.heap) (hoff : ∀ q ∈ H, q.1 ≠ dS ∧ q.1 ≠ dx ∧ q.1 ≠ x ∧ q.1 ≠ dDB) (hf : IsFnIn f H)
    (hT : TreeD w f dDB root od) (hD : DbObj w oDB D nD) (hnD : nD ≤ 90000) (W : Way D root kb.toNat hs ls rs val)
    (hS : SeenObj w oS S) (hlen : S.length < 90000) {bs : List (Array UInt8)} (hbs : (List.range 8).map (sib kb.toNat ls rs) = bs)
    (ret : ∀ h' oS' od' oDB' Dt vs tk', Fr h₀ L h' m → News h₀ L h' ((Dt, tup vs) :: g3 oS' od' oDB') → (∀ p ∈ news, p.1 ≠ Dt) → Tch [dS, dx, dDB] s.heap h' → SeenObj w oS' (climb kb.toNat bs (leafUp S #[110, 111, 110, 101]) 8).1 → (climb kb.toNat bs (leafUp S #[110, 111, 110, 101]) 8).1.length ≤ S.length + 9 →
      TreeD w f dDB (climb kb.toNat bs (leafUp S #[110, 111, 110, 101]) 8).2 od' → DbObj w oDB' (setD kb.toNat bs S #[110, 111, 110, 101] D 9) (nD + 9) → BytesAre vs (hashesUp kb.toNat bs S #[110, 111, 110, 101] 8).reverse → vs.length = 8 → Q (.ref Dt) { s with heap := h', toks := tk' }) :
    wpAny (model Challenge.rw_bi0032_01.row.prog w) A (call (.ref 204) [.ref x, .bytes #[kb] tk]) Q E s := by
  obtain ⟨hnd, dp, un, gd, env, outer, rfl⟩ := C.shape
  dsimp only [AA] at hdp hun hh
  subst hh
  have m0 : (dS, oS) ∈ news := upd_here U1
  have m2 : (dx, od) ∈ news := by
    rcases upd_mem U1 (upd_here (U2 oS)) with q | q
    · have e := congrArg Prod.fst q; dsimp only at e; exact absurd e (by k_ne)
    · exact q.1
  have m3 : (dDB, oDB) ∈ news := by
    rcases upd_mem (U2 oS) (upd_here (U3 oS od)) with q | q
    · have e := congrArg Prod.fst q; dsimp only at e; exact absurd e (by k_ne)
    · rcases upd_mem U1 q.1 with q | q
      · have e := congrArg Prod.fst q; dsimp only at e; exact absurd e (by k_ne)
      · exact q.1
  have hT0 := hT
  obtain ⟨k1, k2, k3, k4, k5, k6, t1, t2, t3, t6, rfl⟩ := hT
  have N : News h₀ L s.heap [(dS, oS), (x, instObj 235 dx), (dx, _), (dDB, oDB)] := List.forall_mem_cons.mpr ⟨Nn _ m0, List.forall_mem_cons.mpr ⟨Nn _ m1, List.forall_mem_cons.mpr ⟨Nn _ m2, List.forall_mem_cons.mpr ⟨Nn _ m3, News.nil⟩⟩⟩⟩
  have X := C.k; revert X; k_fill; intro X
  refine wpAny_call ?_
  walk_at "m_enter"
  intro _ _ _ _ _ _ base g' L' h' hA F' N' B' X' T' Tg' lt'
  cases hA
  have hFr := C.fr
  have hH' : AllAt H g' := hH.tch Tg' (fun q hq => by
    have z := hoff q hq
    simp only [List.map_cons, List.map_nil, List.mem_cons, List.not_mem_nil, or_false, not_or]
    exact ⟨z.1, z.2.2.1, z.2.1, z.2.2.2⟩)
  clear C
  (try dsimp only); (try k_fold)
  k_steps
  rename SeenObj _ _ (climb _ _ _ _).1 => hS'
  rename TreeD _ _ _ (climb _ _ _ _).2 _ => hT'
  rename DbObj _ _ (setD _ _ _ _ _ _) _ => hD'
  rename BytesAre _ _ => hvs'
  rename List.length _ = 8 => hvl'
  rename List.length _ ≤ _ => hl'
  refine leaveM (R := [(dS, oS), (x, instObj 235 dx), (dx, _), (dDB, oDB)]) (by k_asm) (by k_asm) fun F T G Z => ?_
  have GT := G _ (.head _)
  have ZT := Z _ (.head _) (by simp only [List.map_cons, List.map_nil, List.mem_cons, List.not_mem_nil, or_false, not_or]; refine ⟨?_, ?_, ?_, ?_⟩ <;> k_ne)
  have GS := G _ (.tail _ (.head _))
  have Gx := G _ (.tail _ (.tail _ (.head _)))
  have Gd := G _ (.tail _ (.tail _ (.tail _ (.head _))))
  have GD := G _ (.tail _ (.tail _ (.tail _ (.tail _ (.head _)))))
  have hx0 := N (x, instObj 235 dx) (by k_mem)
  have K3 : Tch [dS, dx, dDB] s.heap _ := fun b o e hn => by
    by_cases hbx : b = x
    · subst hbx
      rw [hx0.1] at e
      cases e
      exact Gx
    · refine T b o e ?_
      simp only [List.map_cons, List.map_nil, List.mem_cons, List.not_mem_nil, or_false, not_or] at hn ⊢
      exact ⟨hn.1, hbx, hn.2.1, hn.2.2⟩
  have NN := news_upd3 Nn U1 U2 U3 (fun p hp h1 h2 h3 => K3 _ _ (Nn p hp).1 (by simp only [List.mem_cons, List.not_mem_nil, or_false, not_or]; exact ⟨h1, h2, h3⟩)) GS Gd GD
  exact ret _ _ _ _ _ _ _ F (news_cons GT ZT.1 (base_none hFr ZT.2) NN) (fresh_ne Nn ZT.2) K3 hS' hl' hT' hD' hvs' hvl'
end
end Mine
theorem Mine.freshWrap : True ∧ True := by w_top off; first | (walk1; all_goals trivial) | exact ⟨trivial, trivial⟩
-- part Pure
namespace Mine
open PySem PySem.W PyProof.Rows PySem.Calls
abbrev Texts := List (List UInt8)
theorem enc_inj {a b : Nat} (ha : a < 16777216) (hb : b < 16777216) (h : enc a = enc b) : a = b := by
  have h1 : KTBy.low (a : Int) 32 = KTBy.low (b : Int) 32 := by
    have h2 := congrArg Array.toList h
    unfold enc at h2
    exact List.reverse_inj.mp h2
  have p : (16777216 : Int) ≤ 256 ^ 32 := by decide
  have ea := KTBy.low_ints (x := (a : Int)) (n := 32) (by omega) (by omega)
  have eb := KTBy.low_ints (x := (b : Int)) (n := 32) (by omega) (by omega)
  rw [h1, eb] at ea
  have d0 := congrArg (fun l => l[0]?) ea
  have d1 := congrArg (fun l => l[1]?) ea
  have d2 := congrArg (fun l => l[2]?) ea
  simp at d0 d1 d2
  omega
theorem num_le' (S : Texts) (x : List UInt8) : num S x ≤ S.length + 1 := by
  unfold num
  have := List.idxOf_le_length (a := x) (l := S)
  omega
theorem hh_inj {S : Texts} {x y : List UInt8} (hl : S.length < 100000) (hx : x ∈ S) (h : hh S x = hh S y) : x = y := by
  unfold hh at h
  have e := enc_inj (by have := num_le' S x; omega) (by have := num_le' S y; omega) h
  unfold num at e
  have e' : S.idxOf x = S.idxOf y := by omega
  have lx := List.idxOf_lt_length_of_mem hx
  have h1 : S[S.idxOf x]'lx = x := List.getElem_idxOf lx
  have ly : S.idxOf y < S.length := by omega
  have h2 : S[S.idxOf y]'ly = y := List.getElem_idxOf ly
  rw [← h1, ← h2]
  congr 1
/-- what is known stays known, under the same number -/
def Ext (S S' : Texts) : Prop := ∀ x, x ∈ S → x ∈ S' ∧ num S' x = num S x
theorem Ext.refl (S : Texts) : Ext S S := fun _ h => ⟨h, rfl⟩
theorem Ext.trans {S S' S'' : Texts} (a : Ext S S') (b : Ext S' S'') : Ext S S'' := fun x h => ⟨(b x (a x h).1).1, (b x (a x h).1).2.trans (a x h).2⟩
theorem Ext.hh {S S' : Texts} (a : Ext S S') {x : List UInt8} (h : x ∈ S) : hh S' x = hh S x := by unfold Mine.hh; rw [(a x h).2]
theorem mem_ins (S : Texts) (x : List UInt8) : x ∈ ins S x := by
  unfold ins; split
  · assumption
  · exact List.mem_append_right _ (.head _)
theorem ins_same {S : Texts} {x : List UInt8} (h : x ∈ S) : ins S x = S := if_pos h
theorem ext_ins (S : Texts) (x : List UInt8) : Ext S (ins S x) := by
  unfold ins; split
  · exact Ext.refl S
  · intro y hy
    refine ⟨List.mem_append_left _ hy, ?_⟩
    unfold num
    rw [List.idxOf_append, if_pos hy]
/-- the tree over the values V, as the hash of the texts S tells it -/
def nodeT (S : Texts) (V : Nat → Array UInt8) : Nat → Nat → Array UInt8
  | 0, i => V i
  | j + 1, i => hh S (nodeT S V j (2 * i)).toList ++ hh S (nodeT S V j (2 * i + 1)).toList
def HT (S : Texts) (V : Nat → Array UInt8) (j i : Nat) : Array UInt8 := hh S (nodeT S V j i).toList
theorem HT_size (S : Texts) (V : Nat → Array UInt8) (j i : Nat) : (HT S V j i).size = 32 := hh_size _ _
theorem nodeT_succ (S : Texts) (V : Nat → Array UInt8) (j i : Nat) : nodeT S V (j + 1) i = HT S V j (2 * i) ++ HT S V j (2 * i + 1) := rfl
structure Good (S : Texts) (D : List UInt8 → Option (Array UInt8)) (root : Array UInt8) (V : Nat → Array UInt8) : Prop where
  inS : ∀ j i, j ≤ 8 → i < 2 ^ (8 - j) → (nodeT S V j i).toList ∈ S
  inD : ∀ j i, j ≤ 8 → i < 2 ^ (8 - j) → D (HT S V j i).toList = some (nodeT S V j i)
  rt : root = HT S V 8 0
  pos : ∀ i, (V i).size ≠ 0
theorem pow_up {j : Nat} (hj : j + 1 ≤ 8) : 2 ^ (8 - j) = 2 * 2 ^ (8 - (j + 1)) := by
  rw [show 8 - j = (8 - (j + 1)) + 1 by omega, Nat.pow_succ, Nat.mul_comm]
theorem nodeT_ext {S S' : Texts} {V : Nat → Array UInt8} (h : ∀ j i, j ≤ 8 → i < 2 ^ (8 - j) → (nodeT S V j i).toList ∈ S) (e : Ext S S') : ∀ j i, j ≤ 8 → i < 2 ^ (8 - j) → nodeT S' V j i = nodeT S V j i
  | 0, _, _, _ => rfl
  | j + 1, i, hj, hi => by
    have hp := pow_up hj
    unfold nodeT
    rw [nodeT_ext h e j (2 * i) (by omega) (by omega), nodeT_ext h e j (2 * i + 1) (by omega) (by omega), e.hh (h j _ (by omega) (by omega)), e.hh (h j _ (by omega) (by omega))]
theorem Good.nodeExt {S S' : Texts} {D : List UInt8 → Option (Array UInt8)} {root : Array UInt8} {V : Nat → Array UInt8} (G : Good S D root V) (e : Ext S S') {j i : Nat} (hj : j ≤ 8) (hi : i < 2 ^ (8 - j)) : nodeT S' V j i = nodeT S V j i := nodeT_ext G.inS e j i hj hi
theorem Good.HExt {S S' : Texts} {D : List UInt8 → Option (Array UInt8)} {root : Array UInt8} {V : Nat → Array UInt8} (G : Good S D root V) (e : Ext S S') {j i : Nat} (hj : j ≤ 8) (hi : i < 2 ^ (8 - j)) : HT S' V j i = HT S V j i := by
  unfold HT
  rw [G.nodeExt e hj hi, e.hh (G.inS j i hj hi)]
theorem Good.ext {S S' : Texts} {D : List UInt8 → Option (Array UInt8)} {root : Array UInt8} {V : Nat → Array UInt8} (G : Good S D root V) (e : Ext S S') : Good S' D root V where
  inS := fun j i hj hi => by rw [G.nodeExt e hj hi]; exact (e _ (G.inS j i hj hi)).1
  inD := fun j i hj hi => by rw [G.nodeExt e hj hi, G.HExt e hj hi]; exact G.inD j i hj hi
  rt := by rw [G.HExt e (Nat.le_refl 8) (by decide)]; exact G.rt
  pos := G.pos
def upd (V : Nat → Array UInt8) (p : Nat) (v : Array UInt8) : Nat → Array UInt8 := fun i => if i = p then v else V i
theorem nodeT_other {S : Texts} {V : Nat → Array UInt8} {p : Nat} {v : Array UInt8} : ∀ j i, i ≠ p / 2 ^ j → nodeT S (upd V p v) j i = nodeT S V j i
  | 0, i, h => by
    unfold nodeT upd
    rw [if_neg (by simpa using h)]
  | j + 1, i, h => by
    have e : p / 2 ^ (j + 1) = p / 2 ^ j / 2 := by rw [Nat.pow_succ, Nat.div_div_eq_div_mul]
    rw [e] at h
    unfold nodeT
    rw [nodeT_other j (2 * i) (by omega), nodeT_other j (2 * i + 1) (by omega)]
theorem HT_other {S : Texts} {V : Nat → Array UInt8} {p : Nat} {v : Array UInt8} {j i : Nat} (h : i ≠ p / 2 ^ j) : HT S (upd V p v) j i = HT S V j i := by
  unfold HT; rw [nodeT_other j i h]
/-- the way down, and the hashes beside it -/
def hsF (S : Texts) (V : Nat → Array UInt8) (p k : Nat) : Array UInt8 := HT S V (8 - k) (p / 2 ^ (8 - k))
def lsF (S : Texts) (V : Nat → Array UInt8) (p k : Nat) : Array UInt8 := HT S V (7 - k) (2 * (p / 2 ^ (8 - k)))
def rsF (S : Texts) (V : Nat → Array UInt8) (p k : Nat) : Array UInt8 := HT S V (7 - k) (2 * (p / 2 ^ (8 - k)) + 1)
def brn (S : Texts) (V : Nat → Array UInt8) (p : Nat) : List (Array UInt8) := (List.range 8).map (sib p (lsF S V p) (rsF S V p))
theorem div_step (p j : Nat) : p / 2 ^ (j + 1) = p / 2 ^ j / 2 := by rw [Nat.pow_succ, Nat.div_div_eq_div_mul]
theorem div_bit (p j : Nat) : p / 2 ^ j = 2 * (p / 2 ^ (j + 1)) + (if p.testBit j then 1 else 0) := by
  rw [div_step, testBit_mod]
  generalize p / 2 ^ j = q
  rcases Nat.mod_two_eq_zero_or_one q with h | h
  · rw [h]; simp; omega
  · rw [h]; simp; omega
theorem div_lt {p j : Nat} (hp : p < 256) (hj : j ≤ 8) : p / 2 ^ j < 2 ^ (8 - j) := by
  rw [Nat.div_lt_iff_lt_mul (Nat.two_pow_pos j), ← Nat.pow_add]
  rw [show 8 - j + j = 8 by omega]
  exact hp
theorem Good.way {S : Texts} {D : List UInt8 → Option (Array UInt8)} {root : Array UInt8} {V : Nat → Array UInt8} (G : Good S D root V) {p : Nat} (hp : p < 256) : Way D root p (hsF S V p) (lsF S V p) (rsF S V p) (V p) where
  root := by
    rw [G.rt]; unfold hsF
    rw [show p / 2 ^ (8 - 0) = 0 from Nat.div_eq_of_lt hp]
  node := fun i hi => by
    unfold hsF
    rw [G.inD (8 - i) _ (by omega) (div_lt hp (by omega))]
    show some (nodeT S V (8 - i) _) = _
    rw [show 8 - i = (7 - i) + 1 by omega, nodeT_succ]
    unfold lsF rsF
    rw [show 8 - i = (7 - i) + 1 by omega]
  lsz := fun i _ => HT_size _ _ _ _
  rsz := fun i _ => HT_size _ _ _ _
  next := fun i hi => by
    have e := div_bit p (7 - i)
    rw [show 7 - i + 1 = 8 - i by omega] at e
    unfold hsF lsF rsF
    rw [show 8 - (i + 1) = 7 - i by omega, e]
    by_cases hb : p.testBit (7 - i) = true
    · rw [if_pos hb, if_pos hb]
    · rw [if_neg hb, if_neg hb]; rfl
  leaf := by
    have h := G.inD 0 p (by omega) (by simpa using hp)
    have e : hsF S V p 8 = HT S V 0 p := by
      unfold hsF
      show HT S V 0 (p / 1) = _
      rw [Nat.div_one]
    rw [e, h]; rfl
theorem brn_get {S : Texts} {V : Nat → Array UInt8} {p k : Nat} (hk : k < 8) : (brn S V p).getD k #[] = sib p (lsF S V p) (rsF S V p) k := by
  unfold brn
  rw [List.getD_eq_getElem?_getD, List.getElem?_map, List.getElem?_range hk]; rfl
/-- beside the way, as an index -/
theorem sib_eq {S : Texts} {V : Nat → Array UInt8} {p k : Nat} (hk : k < 8) : sib p (lsF S V p) (rsF S V p) k = HT S V (7 - k) (2 * (p / 2 ^ (8 - k)) + (if p.testBit (7 - k) then 0 else 1)) := by
  unfold sib lsF rsF
  by_cases hb : p.testBit (7 - k) = true
  · rw [if_pos hb, if_pos hb]; rfl
  · rw [if_neg hb, if_neg hb]
theorem brn_size {S : Texts} {V : Nat → Array UInt8} {p : Nat} : ∀ b ∈ brn S V p, b.size ≤ 32 := by
  intro b hb
  obtain ⟨k, hk, rfl⟩ := List.mem_map.mp hb
  rw [sib_eq (List.mem_range.mp hk), HT_size]; exact Nat.le_refl _
theorem brn_length {S : Texts} {V : Nat → Array UInt8} {p : Nat} : (brn S V p).length = 8 := by unfold brn; simp
theorem Good.brnExt {S S' : Texts} {D : List UInt8 → Option (Array UInt8)} {root : Array UInt8} {V : Nat → Array UInt8} (G : Good S D root V) (e : Ext S S') {p : Nat} (hp : p < 256) : brn S' V p = brn S V p := by
  unfold brn
  apply List.map_congr_left
  intro k hk
  have hk := List.mem_range.mp hk
  have h8 := div_lt (j := 8 - k) hp (by omega)
  have hpow : 2 ^ (8 - (7 - k)) = 2 * 2 ^ (8 - (8 - k)) := by
    rw [show 8 - (7 - k) = (8 - (8 - k)) + 1 by omega, Nat.pow_succ, Nat.mul_comm]
  rw [sib_eq hk, sib_eq hk]
  refine G.HExt e (by omega) ?_
  by_cases hb : p.testBit (7 - k) = true
  · rw [if_pos hb]; omega
  · rw [if_neg hb]; omega
section
variable {S : Texts} {D : List UInt8 → Option (Array UInt8)} {root : Array UInt8} {V : Nat → Array UInt8} {p : Nat} {v : Array UInt8} {bs : List (Array UInt8)}
theorem preS_ext (p : Nat) (bs : List (Array UInt8)) (S : Texts) (v : Array UInt8) (i : Nat) : Ext (preS p bs S v i) (preS p bs S v (i + 1)) := by
  rw [← climb_at1]; exact ext_ins _ _
theorem preS_ext_to (p : Nat) (bs : List (Array UInt8)) (S : Texts) (v : Array UInt8) (i : Nat) : ∀ k, Ext (preS p bs S v i) (preS p bs S v (i + k))
  | 0 => Ext.refl _
  | k + 1 => (preS_ext_to p bs S v i k).trans (preS_ext p bs S v (i + k))
theorem climb_ext (p : Nat) (bs : List (Array UInt8)) (S : Texts) (v : Array UInt8) : Ext S (climb p bs (leafUp S v) 8).1 := preS_ext_to p bs S v 0 9
theorem cont_mem (p : Nat) (bs : List (Array UInt8)) (S : Texts) (v : Array UInt8) {i : Nat} (hi : i ≤ 8) : (cont p bs S v i).toList ∈ (climb p bs (leafUp S v) 8).1 ∧ (climb p bs (leafUp S v) i).2 = hh (climb p bs (leafUp S v) 8).1 (cont p bs S v i).toList := by
  have h1 : (cont p bs S v i).toList ∈ preS p bs S v (i + 1) := by rw [← climb_at1]; exact mem_ins _ _
  have e := preS_ext_to p bs S v (i + 1) (8 - i)
  rw [show i + 1 + (8 - i) = 9 by omega] at e
  refine ⟨(e _ h1).1, ?_⟩
  have h2 := climb_at2 p bs S v i
  rw [← h2]
  exact (e.hh h1).symm
/-- over texts that know the whole climb already, it adds none and tells the same -/
theorem climb_again {S1 : Texts} (h : ∀ i, i ≤ 8 → (cont p bs S v i).toList ∈ S1 ∧ (climb p bs (leafUp S v) i).2 = hh S1 (cont p bs S v i).toList) : ∀ i, i ≤ 8 → climb p bs (leafUp S1 v) i = (S1, (climb p bs (leafUp S v) i).2)
  | 0, hi => by
    have := h 0 hi
    show (ins S1 v.toList, hh (ins S1 v.toList) v.toList) = _
    have hm : v.toList ∈ S1 := this.1
    rw [ins_same hm, this.2]; rfl
  | i + 1, hi => by
    have := h (i + 1) hi
    show stepUp p i (bs.getD (7 - i) #[]) (climb p bs (leafUp S1 v) i) = _
    rw [climb_again h i (by omega)]
    unfold stepUp
    have e : (if p.testBit i = true then bs.getD (7 - i) #[] ++ (climb p bs (leafUp S v) i).2 else (climb p bs (leafUp S v) i).2 ++ bs.getD (7 - i) #[]) = cont p bs S v (i + 1) := rfl
    dsimp only
    rw [e, ins_same this.1, this.2]
theorem climb_twice {i : Nat} (hi : i ≤ 8) : climb p bs (leafUp (climb p bs (leafUp S v) 8).1 v) i = ((climb p bs (leafUp S v) 8).1, (climb p bs (leafUp S v) i).2) :=
  climb_again (fun _ h => cont_mem p bs S v h) i hi
theorem hashes_twice : hashesUp p bs (climb p bs (leafUp S v) 8).1 v 8 = hashesUp p bs S v 8 := by
  unfold hashesUp
  apply List.map_congr_left
  intro j hj
  rw [climb_twice (by have := List.mem_range.mp hj; omega)]
/-- a climb from a proof of the tree's own tells the tree -/
theorem Good.climbs (G : Good S D root V) (hp : p < 256) : ∀ i, i ≤ 8 → climb p (brn S V p) (leafUp S (V p)) i = (S, HT S V i (p / 2 ^ i))
  | 0, _ => by
    have h := G.inS 0 p (by omega) (by simpa using hp)
    show (ins S (V p).toList, hh (ins S (V p).toList) (V p).toList) = _
    have h' : (V p).toList ∈ S := h
    rw [ins_same h']
    show _ = (S, HT S V 0 (p / 1))
    rw [Nat.div_one]; rfl
  | i + 1, hi => by
    show stepUp p i ((brn S V p).getD (7 - i) #[]) (climb p (brn S V p) (leafUp S (V p)) i) = _
    rw [Good.climbs G hp i (by omega), brn_get (by omega), sib_eq (by omega)]
    unfold stepUp
    rw [show 7 - (7 - i) = i by omega, show 8 - (7 - i) = i + 1 by omega]
    dsimp only
    have e : (if p.testBit i = true then HT S V i (2 * (p / 2 ^ (i + 1)) + (if p.testBit i = true then 0 else 1)) ++ HT S V i (p / 2 ^ i) else HT S V i (p / 2 ^ i) ++ HT S V i (2 * (p / 2 ^ (i + 1)) + (if p.testBit i = true then 0 else 1))) = nodeT S V (i + 1) (p / 2 ^ (i + 1)) := by
      rw [nodeT_succ]
      have e2 := div_bit p i
      by_cases hb : p.testBit i = true
      · rw [if_pos hb] at e2
        rw [if_pos hb, if_pos hb, e2]; rfl
      · rw [if_neg hb] at e2
        rw [if_neg hb, if_neg hb, e2]; rfl
    rw [e, ins_same (G.inS (i + 1) _ hi (div_lt hp hi))]
    rfl
theorem Good.calc (G : Good S D root V) (hp : p < 256) : climb p (brn S V p) (leafUp S (V p)) 8 = (S, root) := by
  rw [G.climbs hp 8 (Nat.le_refl 8), G.rt, show p / 2 ^ 8 = 0 from Nat.div_eq_of_lt hp]
/-- the climb with a new value tells the new tree -/
theorem Good.conts (G : Good S D root V) (hp : p < 256) : ∀ i, i ≤ 8 → nodeT (climb p (brn S V p) (leafUp S v) 8).1 (upd V p v) i (p / 2 ^ i) = cont p (brn S V p) S v i
  | 0, _ => by
    show upd V p v (p / 1) = v
    unfold upd
    rw [Nat.div_one, if_pos rfl]
  | i + 1, hi => by
    have ih := Good.conts G hp i (by omega)
    have hc := cont_mem p (brn S V p) S v (i := i) (by omega)
    have hx := climb_ext p (brn S V p) S v
    have h8 := div_lt (j := i + 1) hp hi
    have hpw := pow_up (j := i) hi
    generalize hS' : (climb p (brn S V p) (leafUp S v) 8).1 = S' at ih hc hx ⊢
    have e2 := div_bit p i
    rw [nodeT_succ]
    have hH : HT S' (upd V p v) i (p / 2 ^ i) = (climb p (brn S V p) (leafUp S v) i).2 := by
      unfold HT; rw [ih, hc.2]
    have hb7 : (brn S V p).getD (7 - i) #[] = HT S V i (2 * (p / 2 ^ (i + 1)) + (if p.testBit i then 0 else 1)) := by
      rw [brn_get (by omega), sib_eq (by omega), show 7 - (7 - i) = i by omega, show 8 - (7 - i) = i + 1 by omega]
    show _ = if p.testBit i then (brn S V p).getD (7 - i) #[] ++ (climb p (brn S V p) (leafUp S v) i).2 else (climb p (brn S V p) (leafUp S v) i).2 ++ (brn S V p).getD (7 - i) #[]
    rw [hb7, ← hH]
    by_cases hb : p.testBit i = true
    · rw [if_pos hb] at e2
      rw [if_pos hb, if_pos hb, e2, HT_other (i := 2 * (p / 2 ^ (i + 1))) (by omega), G.HExt hx (by omega) (by omega)]; rfl
    · rw [if_neg hb] at e2
      rw [if_neg hb, if_neg hb, e2, HT_other (i := 2 * (p / 2 ^ (i + 1)) + 1) (by omega), G.HExt hx (by omega) (by omega)]; rfl
theorem setD_get {p : Nat} {bs : List (Array UInt8)} {S : Texts} {v : Array UInt8} {D : List UInt8 → Option (Array UInt8)} {t : Array UInt8} {S' : Texts} (hS' : (climb p bs (leafUp S v) 8).1 = S') (hl : S'.length < 100000) (ht : t.toList ∈ S') :
    ∀ m, m ≤ 9 → (D (hh S' t.toList).toList = some t ∨ ∃ i, i < m ∧ cont p bs S v i = t) → setD p bs S v D m (hh S' t.toList).toList = some t
  | 0, _, h => by
    rcases h with h | ⟨i, hi, _⟩
    · exact h
    · exact absurd hi (Nat.not_lt_zero _)
  | m + 1, hm, h => by
    have hc := cont_mem p bs S v (i := m) (by omega)
    rw [hS'] at hc
    show (if (hh S' t.toList).toList = (climb p bs (leafUp S v) m).2.toList then some (cont p bs S v m) else setD p bs S v D m (hh S' t.toList).toList) = some t
    by_cases e : (hh S' t.toList).toList = (climb p bs (leafUp S v) m).2.toList
    · rw [if_pos e]
      have e2 : hh S' t.toList = hh S' (cont p bs S v m).toList := by rw [← hc.2]; exact Array.toList_inj.mp e
      have e3 := Array.toList_inj.mp (hh_inj hl ht e2)
      rw [e3]
    · rw [if_neg e]
      refine setD_get hS' hl ht m (by omega) ?_
      rcases h with h | ⟨i, hi, hci⟩
      · exact .inl h
      · rcases Nat.lt_or_ge i m with q | q
        · exact .inr ⟨i, q, hci⟩
        · exfalso
          apply e
          have : i = m := by omega
          subst this
          rw [hc.2, hci]
theorem Good.set (G : Good S D root V) (hp : p < 256) (hv : v.size ≠ 0) (hl : (climb p (brn S V p) (leafUp S v) 8).1.length < 100000) :
    Good (climb p (brn S V p) (leafUp S v) 8).1 (setD p (brn S V p) S v D 9) (climb p (brn S V p) (leafUp S v) 8).2 (upd V p v) := by
  have hx := climb_ext p (brn S V p) S v
  have hcs := G.conts (v := v) hp
  have hcm := fun i hi => cont_mem p (brn S V p) S v (i := i) hi
  generalize hS' : (climb p (brn S V p) (leafUp S v) 8).1 = S' at hl hx hcs hcm ⊢
  have inS : ∀ j i, j ≤ 8 → i < 2 ^ (8 - j) → (nodeT S' (upd V p v) j i).toList ∈ S' := fun j i hj hi => by
    by_cases e : i = p / 2 ^ j
    · rw [e, hcs j hj]; exact (hcm j hj).1
    · rw [nodeT_other j i e, G.nodeExt hx hj hi]; exact (hx _ (G.inS j i hj hi)).1
  refine ⟨inS, fun j i hj hi => ?_, ?_, fun i => ?_⟩
  · show setD p (brn S V p) S v D 9 (hh S' (nodeT S' (upd V p v) j i).toList).toList = _
    refine setD_get hS' hl (inS j i hj hi) 9 (Nat.le_refl 9) ?_
    by_cases e : i = p / 2 ^ j
    · exact .inr ⟨j, by omega, by rw [e, hcs j hj]⟩
    · rw [nodeT_other j i e, G.nodeExt hx hj hi]
      refine .inl ?_
      rw [hx.hh (G.inS j i hj hi)]
      exact G.inD j i hj hi
  · have := (hcm 8 (Nat.le_refl 8)).2
    rw [this, ← hcs 8 (Nat.le_refl 8), show p / 2 ^ 8 = 0 from Nat.div_eq_of_lt hp]; rfl
  · unfold upd
    split
    · exact hv
    · exact G.pos i
/-- the key's own branch does not turn -/
theorem Good.brn_self {S' : Texts} (G : Good S D root V) (hp : p < 256) (hx : Ext S S') : brn S' (upd V p v) p = brn S V p := by
  rw [← G.brnExt hx hp]
  unfold brn
  apply List.map_congr_left
  intro k hk
  have hk := List.mem_range.mp hk
  rw [sib_eq hk, sib_eq hk]
  refine HT_other ?_
  have e := div_bit p (7 - k)
  rw [show 7 - k + 1 = 8 - k by omega] at e
  rw [e]
  by_cases hb : p.testBit (7 - k) = true
  · rw [if_pos hb, if_pos hb]; omega
  · rw [if_neg hb, if_neg hb]; omega
/-- a neighbour's branch turns at one place, to what the way of the set key tells there -/
theorem Good.brn_part {q i : Nat} (G : Good S D root V) (hp : p < 256) (hq : q < 256) (hi : i < 8) (h : part q p = i) :
    brn (climb p (brn S V p) (leafUp S v) 8).1 (upd V p v) q = (brn S V q).set i (climb p (brn S V p) (leafUp S v) (7 - i)).2 := by
  have hx := climb_ext p (brn S V p) S v
  have hcs := G.conts (v := v) hp (7 - i) (by omega)
  have hcm := cont_mem p (brn S V p) S v (i := 7 - i) (by omega)
  generalize hS' : (climb p (brn S V p) (leafUp S v) 8).1 = S' at hx hcs hcm ⊢
  obtain ⟨b1, b2⟩ := part_bits hq hp hi h
  have same : ∀ k, k ≤ i → q / 2 ^ (8 - k) = p / 2 ^ (8 - k) := by
    intro k
    induction k with
    | zero => intro _; rw [Nat.div_eq_of_lt (by simpa using hq), Nat.div_eq_of_lt (by simpa using hp)]
    | succ k ih =>
      intro hk
      have e1 := div_bit q (7 - k)
      have e2 := div_bit p (7 - k)
      rw [show 7 - k + 1 = 8 - k by omega] at e1 e2
      rw [show 8 - (k + 1) = 7 - k by omega, e1, e2, ih (by omega), b2 k (by omega)]
  have parts : ∀ k, i < k → k ≤ 8 → q / 2 ^ (8 - k) ≠ p / 2 ^ (8 - k) := by
    intro k hk hk8 e
    apply b1
    have e2 : ∀ d, q / 2 ^ (8 - k + d) = p / 2 ^ (8 - k + d) := by
      intro d
      rw [Nat.pow_add, ← Nat.div_div_eq_div_mul, ← Nat.div_div_eq_div_mul, e]
    have := e2 (7 - i - (8 - k))
    rw [show 8 - k + (7 - i - (8 - k)) = 7 - i by omega] at this
    rw [testBit_mod, testBit_mod, this]
  apply List.ext_getElem?
  intro k
  rw [List.getElem?_set]
  rcases Nat.lt_or_ge k 8 with hk | hk
  · have g1 : (brn S' (upd V p v) q)[k]? = some (sib q (lsF S' (upd V p v) q) (rsF S' (upd V p v) q) k) := by
      unfold brn
      rw [List.getElem?_map, List.getElem?_range hk]; rfl
    have g2 : (brn S V q)[k]? = some (sib q (lsF S V q) (rsF S V q) k) := by
      unfold brn
      rw [List.getElem?_map, List.getElem?_range hk]; rfl
    rw [g1, g2, sib_eq hk, sib_eq hk, brn_length]
    have hd := div_bit p (7 - k)
    rw [show 7 - k + 1 = 8 - k by omega] at hd
    have h8 := div_lt (j := 8 - k) hq (by omega)
    have hpw : 2 ^ (8 - (7 - k)) = 2 * 2 ^ (8 - (8 - k)) := by
      rw [show 8 - (7 - k) = (8 - (8 - k)) + 1 by omega, Nat.pow_succ, Nat.mul_comm]
    by_cases hik : i = k
    · subst hik
      rw [if_pos rfl, if_pos hk]
      have hidx : 2 * (q / 2 ^ (8 - i)) + (if q.testBit (7 - i) = true then 0 else 1) = p / 2 ^ (7 - i) := by
        rw [hd, same i (Nat.le_refl i)]
        cases hb1 : q.testBit (7 - i) <;> cases hb2 : p.testBit (7 - i)
        · exact absurd (hb1.trans hb2.symm) b1
        · rfl
        · rfl
        · exact absurd (hb1.trans hb2.symm) b1
      rw [hidx, hcm.2, ← hcs]; rfl
    · rw [if_neg hik]
      have hne : 2 * (q / 2 ^ (8 - k)) + (if q.testBit (7 - k) = true then 0 else 1) ≠ p / 2 ^ (7 - k) := by
        rcases Nat.lt_or_ge k i with hlt | hge
        · rw [hd, same k (by omega), b2 k hlt]
          by_cases hb : p.testBit (7 - k) = true
          · rw [if_pos hb, if_pos hb]; omega
          · rw [if_neg hb, if_neg hb]; omega
        · have hpp := parts k (by omega) (by omega)
          rw [hd]
          by_cases ha : q.testBit (7 - k) = true <;> by_cases hb : p.testBit (7 - k) = true <;> (simp only [ha, hb, if_true, if_false]; (try simp only [Bool.false_eq_true, if_false]); omega)
      rw [HT_other hne, G.HExt hx (by omega) (by
        by_cases hb : q.testBit (7 - k) = true
        · rw [if_pos hb]; omega
        · rw [if_neg hb]; omega)]
  · have l1 : (brn S' (upd V p v) q).length = 8 := brn_length
    have l2 : (brn S V q).length = 8 := brn_length
    rw [List.getElem?_eq_none (by omega)]
    by_cases hik : i = k
    · omega
    · rw [if_neg hik, List.getElem?_eq_none (by omega)]
theorem told_get {i : Nat} (hi : i < 8) : (hashesUp p bs S v 8).reverse[i]? = some (climb p bs (leafUp S v) (7 - i)).2 := by
  unfold hashesUp
  rw [List.getElem?_reverse (by simpa using hi), List.getElem?_map]
  simp only [List.length_map, List.length_range]
  rw [show 8 - 1 - i = 7 - i by omega, List.getElem?_range (by omega)]; rfl
end
/-- the making of the tree of defaults -/
def ini : Nat → Texts × Array UInt8
  | 0 => ([], #[110, 111, 110, 101])
  | i + 1 => (ins (ini i).1 (ini i).2.toList, hh (ins (ini i).1 (ini i).2.toList) (ini i).2.toList ++ hh (ins (ini i).1 (ini i).2.toList) (ini i).2.toList)
def iniD : Nat → List UInt8 → Option (Array UInt8)
  | 0 => fun _ => none
  | i + 1 => dput (iniD i) (hh (ini (i + 1)).1 (ini i).2.toList).toList (ini i).2
def none4 : Nat → Array UInt8 := fun _ => #[110, 111, 110, 101]
theorem ini_ext (i : Nat) : ∀ k, Ext (ini i).1 (ini (i + k)).1
  | 0 => Ext.refl _
  | k + 1 => (ini_ext i k).trans (ext_ins _ _)
theorem ini_len : ∀ i, (ini i).1.length ≤ i
  | 0 => Nat.le_refl 0
  | i + 1 => Nat.le_trans (ins_le _ _) (Nat.succ_le_succ (ini_len i))
theorem ini_mem {i : Nat} (hi : i < 9) : (ini i).2.toList ∈ (ini 9).1 ∧ hh (ini (i + 1)).1 (ini i).2.toList = hh (ini 9).1 (ini i).2.toList := by
  have h1 : (ini i).2.toList ∈ (ini (i + 1)).1 := mem_ins _ _
  have e := ini_ext (i + 1) (8 - i)
  rw [show i + 1 + (8 - i) = 9 by omega] at e
  exact ⟨(e _ h1).1, (e.hh h1).symm⟩
theorem ini_node : ∀ j i, j ≤ 8 → nodeT (ini 9).1 none4 j i = (ini j).2
  | 0, _, _ => rfl
  | j + 1, i, hj => by
    have h := ini_mem (i := j) (by omega)
    unfold nodeT
    rw [ini_node j (2 * i) (by omega), ini_node j (2 * i + 1) (by omega), ← h.2]; rfl
theorem iniD_get {i : Nat} (hi : i < 9) : ∀ m, m ≤ 9 → i < m → iniD m (hh (ini 9).1 (ini i).2.toList).toList = some (ini i).2
  | 0, _, h => absurd h (Nat.not_lt_zero _)
  | m + 1, hm, h => by
    show (if (hh (ini 9).1 (ini i).2.toList).toList = (hh (ini (m + 1)).1 (ini m).2.toList).toList then some (ini m).2 else iniD m (hh (ini 9).1 (ini i).2.toList).toList) = _
    by_cases e : (hh (ini 9).1 (ini i).2.toList).toList = (hh (ini (m + 1)).1 (ini m).2.toList).toList
    · rw [if_pos e]
      rw [(ini_mem (i := m) (by omega)).2] at e
      have hl := ini_len 9
      have := hh_inj (by omega) (ini_mem hi).1 (Array.toList_inj.mp e)
      rw [Array.toList_inj.mp this]
    · rw [if_neg e]
      refine iniD_get hi m (by omega) ?_
      rcases Nat.lt_or_ge i m with q | q
      · exact q
      · exfalso
        apply e
        have : i = m := by omega
        subst this
        rw [(ini_mem hi).2]
theorem good_ini : Good (ini 9).1 (iniD 9) (hh (ini 9).1 (ini 8).2.toList) none4 where
  inS := fun j i hj _ => by rw [ini_node j i hj]; exact (ini_mem (by omega)).1
  inD := fun j i hj _ => by
    unfold HT
    rw [ini_node j i hj]; exact iniD_get (by omega) 9 (Nat.le_refl 9) (by omega)
  rt := by unfold HT; rw [ini_node 8 0 (Nat.le_refl 8)]
  pos := fun _ => by show (#[110, 111, 110, 101] : Array UInt8).size ≠ 0; decide
end Mine
theorem Mine.freshPure : True ∧ True := by w_top off; first | (walk1; all_goals trivial) | exact ⟨trivial, trivial⟩
-- part Deal
namespace Mine
open PySem PySem.W PyProof.Rows PySem.Calls
theorem allAt_news {h₀ h : Heap} {L : Addr} {news H : List (Addr × Obj)} (N : News h₀ L h news) (hm : ∀ q ∈ H, q ∈ news) : AllAt H h := fun q hq => (N q (hm q hq)).1
/-- a deed that is due: the texts know its whole climb -/
structure Due (S : Texts) (D : List UInt8 → Option (Array UInt8)) (root : Array UInt8) (V : Nat → Array UInt8) (p : Nat) (v : Array UInt8) (T : List (Array UInt8)) (r : Array UInt8) : Prop where
  good : Good S D root V
  climb : climb p (brn S V p) (leafUp S v) 8 = (S, r)
  told : (hashesUp p (brn S V p) S v 8).reverse = T
theorem Good.due {S : Texts} {D : List UInt8 → Option (Array UInt8)} {root : Array UInt8} {V : Nat → Array UInt8} (G : Good S D root V) {p : Nat} (hp : p < 256) (v : Array UInt8) :
    Due (climb p (brn S V p) (leafUp S v) 8).1 D root V p v (hashesUp p (brn S V p) S v 8).reverse (climb p (brn S V p) (leafUp S v) 8).2 where
  good := G.ext (climb_ext p _ S v)
  climb := by
    rw [G.brnExt (climb_ext p _ S v) hp]
    exact climb_twice (Nat.le_refl 8)
  told := by
    rw [G.brnExt (climb_ext p _ S v) hp, hashes_twice]
/-- what the deed turned -/
structure Done (S : Texts) (V V' : Nat → Array UInt8) (p : Nat) (v : Array UInt8) (T : List (Array UInt8)) : Prop where
  val : V' = upd V p v
  self : brn S V' p = brn S V p
  near : ∀ q i, q < 256 → i < 8 → part q p = i → ∃ b, T[i]? = some b ∧ brn S V' q = (brn S V q).set i b
theorem Due.done {S : Texts} {D : List UInt8 → Option (Array UInt8)} {root : Array UInt8} {V : Nat → Array UInt8} {p : Nat} {v : Array UInt8} {T : List (Array UInt8)} {r : Array UInt8} (X : Due S D root V p v T r) (hp : p < 256) (hv : v.size ≠ 0) (hl : S.length < 100000) :
    Good S (setD p (brn S V p) S v D 9) r (upd V p v) ∧ Done S V (upd V p v) p v T := by
  have e1 : (Mine.climb p (brn S V p) (leafUp S v) 8).1 = S := by rw [X.climb]
  have e2 : (Mine.climb p (brn S V p) (leafUp S v) 8).2 = r := by rw [X.climb]
  refine ⟨?_, rfl, X.good.brn_self hp (Ext.refl S), fun q i hq hi h => ?_⟩
  · have := X.good.set (v := v) hp hv (by rw [e1]; exact hl)
    rw [e1, e2] at this
    exact this
  · refine ⟨_, by rw [← X.told]; exact told_get hi, ?_⟩
    have := X.good.brn_part (v := v) hp hq hi h
    rw [e1] at this
    exact this
section
variable {w : World} {p : Program} {loose : List Str} {mean : ExcName → Option Value} {mg mb : Str → Option Value} {f dS x dx dDB : Addr} {H : List (Addr × Obj)} {oS od oDB : Obj} {root : Array UInt8} {D : List UInt8 → Option (Array UInt8)} {nD : Nat} {V : Nat → Array UInt8}
    {A : Around} {s : Shared} {h₀ : Heap} {L : Addr} {m : Str → Option Value} {Q E : Value → Shared → Prop} {S : Texts} {kb : UInt8} {value : Array UInt8} {tk tv : Tok}
    {news : List (Addr × Obj)} {g1 : Obj → List (Addr × Obj)} {g2 : Obj → Obj → List (Addr × Obj)} {g3 : Obj → Obj → Obj → List (Addr × Obj)}
/-- set, as the tree's state tells it -/
theorem gset (HS : HashSpec w p loose mean mg mb H f dS)
    (C : Cx w p loose mean mg mb A s.heap h₀ L m) (hdp : A.depth + 40 < recursionLimit) (hun : A.units + 400 < cLine) (hh : A.handled = none)
    (Nn : News h₀ L s.heap news) (m1 : (x, instObj 235 dx) ∈ news) (hS : SeenObj w oS S) (hT : TreeD w f dDB root od) (hD : DbObj w oDB D nD) (G : Good S D root V) (U1 : UpdF dS oS news g1) (U2 : ∀ a, UpdF dx od (g1 a) (g2 a)) (U3 : ∀ a b, UpdF dDB oDB (g2 a b) (g3 a b))
    (ne1 : @LT.lt Nat _ dS dx) (ne2 : @LT.lt Nat _ dx x) (ne3 : @LT.lt Nat _ x dDB) (hH : ∀ q ∈ H, q ∈ news) (hoff : ∀ q ∈ H, q.1 ≠ dS ∧ q.1 ≠ dx ∧ q.1 ≠ x ∧ q.1 ≠ dDB) (hf : IsFnIn f H) (hnD : nD ≤ 90000) (hlen : S.length < 90000) (hv : value.size ≠ 0)
    (ret : ∀ h' oS' od' oDB' Dt vs tk' S' D' root', Fr h₀ L h' m → News h₀ L h' ((Dt, tup vs) :: g3 oS' od' oDB') → (∀ p ∈ news, p.1 ≠ Dt) → SeenObj w oS' S' → S'.length ≤ S.length + 9 → TreeD w f dDB root' od' → DbObj w oDB' D' (nD + 9) →
      Good S' D' root' (upd V kb.toNat value) → vs.length = 8 → Q (.ref Dt) { s with heap := h', toks := tk' }) :
    wpAny (model Challenge.rw_bi0032_01.row.prog w) A (call (.ref 190) [.ref x, .bytes #[kb] tk, .bytes value tv]) Q E s := by
  have hk := UInt8.toNat_lt kb
  refine set_spec HS C hdp hun hh Nn m1 U1 U2 U3 ne1 ne2 ne3 (allAt_news Nn hH) hoff hf hT hD hnD (G.way hk) hS hlen (bs := brn S V kb.toNat) rfl fun h' oS' od' oDB' Dt vs tk' F N' n1 K hS' hl' hT' hD' hvs hvl => ?_
  exact ret _ _ _ _ _ _ _ _ _ _ F N' n1 hS' hl' hT' hD' (G.set hk hv (by omega)) hvl
/-- set, where the deed is due -/
theorem gset2 {T : List (Array UInt8)} {r : Array UInt8} (HS : HashSpec w p loose mean mg mb H f dS)
    (C : Cx w p loose mean mg mb A s.heap h₀ L m) (hdp : A.depth + 40 < recursionLimit) (hun : A.units + 400 < cLine) (hh : A.handled = none)
    (Nn : News h₀ L s.heap news) (m1 : (x, instObj 235 dx) ∈ news) (hS : SeenObj w oS S) (hT : TreeD w f dDB root od) (hD : DbObj w oDB D nD) (X : Due S D root V kb.toNat value T r) (U1 : UpdF dS oS news g1) (U2 : ∀ a, UpdF dx od (g1 a) (g2 a)) (U3 : ∀ a b, UpdF dDB oDB (g2 a b) (g3 a b))
    (ne1 : @LT.lt Nat _ dS dx) (ne2 : @LT.lt Nat _ dx x) (ne3 : @LT.lt Nat _ x dDB) (hH : ∀ q ∈ H, q ∈ news) (hoff : ∀ q ∈ H, q.1 ≠ dS ∧ q.1 ≠ dx ∧ q.1 ≠ x ∧ q.1 ≠ dDB) (hf : IsFnIn f H) (hnD : nD ≤ 90000) (hlen : S.length < 90000) (hv : value.size ≠ 0)
    (ret : ∀ h' oS' od' oDB' Dt vs tk' D', Fr h₀ L h' m → News h₀ L h' ((Dt, tup vs) :: g3 oS' od' oDB') → (∀ p ∈ news, p.1 ≠ Dt) → SeenObj w oS' S → TreeD w f dDB r od' → DbObj w oDB' D' (nD + 9) →
      Good S D' r (upd V kb.toNat value) → Done S V (upd V kb.toNat value) kb.toNat value T → BytesAre vs T → vs.length = 8 → Q (.ref Dt) { s with heap := h', toks := tk' }) :
    wpAny (model Challenge.rw_bi0032_01.row.prog w) A (call (.ref 190) [.ref x, .bytes #[kb] tk, .bytes value tv]) Q E s := by
  have hk := UInt8.toNat_lt kb
  have e1 : (climb kb.toNat (brn S V kb.toNat) (leafUp S value) 8).1 = S := by rw [X.climb]
  have e2 : (climb kb.toNat (brn S V kb.toNat) (leafUp S value) 8).2 = r := by rw [X.climb]
  obtain ⟨G', d'⟩ := X.done hk hv (by omega)
  refine set_spec HS C hdp hun hh Nn m1 U1 U2 U3 ne1 ne2 ne3 (allAt_news Nn hH) hoff hf hT hD hnD (X.good.way hk) hS hlen (bs := brn S V kb.toNat) rfl fun h' oS' od' oDB' Dt vs tk' F N' n1 K hS' hl' hT' hD' hvs hvl => ?_
  rw [e1] at hS'
  rw [e2] at hT'
  rw [X.told] at hvs
  exact ret _ _ _ _ _ _ _ _ F N' n1 hS' hT' hD' G' d' hvs hvl
theorem gdel2 {T : List (Array UInt8)} {r : Array UInt8} (HS : HashSpec w p loose mean mg mb H f dS)
    (C : Cx w p loose mean mg mb A s.heap h₀ L m) (hdp : A.depth + 50 < recursionLimit) (hun : A.units + 500 < cLine) (hh : A.handled = none)
    (Nn : News h₀ L s.heap news) (m1 : (x, instObj 235 dx) ∈ news) (hS : SeenObj w oS S) (hT : TreeD w f dDB root od) (hD : DbObj w oDB D nD) (X : Due S D root V kb.toNat #[110, 111, 110, 101] T r) (U1 : UpdF dS oS news g1) (U2 : ∀ a, UpdF dx od (g1 a) (g2 a)) (U3 : ∀ a b, UpdF dDB oDB (g2 a b) (g3 a b))
    (ne1 : @LT.lt Nat _ dS dx) (ne2 : @LT.lt Nat _ dx x) (ne3 : @LT.lt Nat _ x dDB) (hH : ∀ q ∈ H, q ∈ news) (hoff : ∀ q ∈ H, q.1 ≠ dS ∧ q.1 ≠ dx ∧ q.1 ≠ x ∧ q.1 ≠ dDB) (hf : IsFnIn f H) (hnD : nD ≤ 90000) (hlen : S.length < 90000)
    (ret : ∀ h' oS' od' oDB' Dt vs tk' D', Fr h₀ L h' m → News h₀ L h' ((Dt, tup vs) :: g3 oS' od' oDB') → (∀ p ∈ news, p.1 ≠ Dt) → SeenObj w oS' S → TreeD w f dDB r od' → DbObj w oDB' D' (nD + 9) →
      Good S D' r (upd V kb.toNat #[110, 111, 110, 101]) → Done S V (upd V kb.toNat #[110, 111, 110, 101]) kb.toNat #[110, 111, 110, 101] T → BytesAre vs T → vs.length = 8 → Q (.ref Dt) { s with heap := h', toks := tk' }) :
    wpAny (model Challenge.rw_bi0032_01.row.prog w) A (call (.ref 204) [.ref x, .bytes #[kb] tk]) Q E s := by
  have hk := UInt8.toNat_lt kb
  have e1 : (climb kb.toNat (brn S V kb.toNat) (leafUp S #[110, 111, 110, 101]) 8).1 = S := by rw [X.climb]
  have e2 : (climb kb.toNat (brn S V kb.toNat) (leafUp S #[110, 111, 110, 101]) 8).2 = r := by rw [X.climb]
  obtain ⟨G', d'⟩ := X.done hk (by decide) (by omega)
  refine tdel_spec HS C hdp hun hh Nn m1 U1 U2 U3 ne1 ne2 ne3 (allAt_news Nn hH) hoff hf hT hD hnD (X.good.way hk) hS hlen (bs := brn S V kb.toNat) rfl fun h' oS' od' oDB' Dt vs tk' F N' n1 K hS' hl' hT' hD' hvs hvl => ?_
  rw [e1] at hS'
  rw [e2] at hT'
  rw [X.told] at hvs
  exact ret _ _ _ _ _ _ _ _ F N' n1 hS' hT' hD' G' d' hvs hvl
theorem gbranch (C : Cx w p loose mean mg mb A s.heap h₀ L m) (hdp : A.depth + 25 < recursionLimit) (hun : A.units + 250 < cLine) (hh : A.handled = none)
    (Nn : News h₀ L s.heap news) (m1 : (x, instObj 235 dx) ∈ news) (m2 : (dx, od) ∈ news) (hT : TreeD w f dDB root od) (m3 : (dDB, oDB) ∈ news) (hD : DbObj w oDB D nD) (G : Good S D root V)
    (ret : ∀ h' Db vs tk', Fr h₀ L h' m → News h₀ L h' ((Db, tup vs) :: news) → (∀ p ∈ news, p.1 ≠ Db) → BytesAre vs (brn S V kb.toNat) → vs.length = 8 → Q (.ref Db) { s with heap := h', toks := tk' }) :
    wpAny (model Challenge.rw_bi0032_01.row.prog w) A (call (.ref 176) [.ref x, .bytes #[kb] tk]) Q E s := by
  have hk := UInt8.toNat_lt kb
  exact tbranch_spec C hdp hun hh Nn m1 m2 m3 hT hD (G.way hk) (G.pos _) fun h' Db vs tk' F N' n1 _ hvs hvl => ret _ _ _ _ F N' n1 hvs hvl
theorem gget (C : Cx w p loose mean mg mb A s.heap h₀ L m) (hdp : A.depth + 25 < recursionLimit) (hun : A.units + 250 < cLine) (hh : A.handled = none)
    (Nn : News h₀ L s.heap news) (m1 : (x, instObj 235 dx) ∈ news) (m2 : (dx, od) ∈ news) (hT : TreeD w f dDB root od) (m3 : (dDB, oDB) ∈ news) (hD : DbObj w oDB D nD) (G : Good S D root V)
    (ret : ∀ h' tv tk', Fr h₀ L h' m → News h₀ L h' news → Q (.bytes (V kb.toNat) tv) { s with heap := h', toks := tk' }) :
    wpAny (model Challenge.rw_bi0032_01.row.prog w) A (call (.ref 169) [.ref x, .bytes #[kb] tk]) Q E s := by
  have hk := UInt8.toNat_lt kb
  exact tget_spec C hdp hun hh Nn m1 m2 m3 hT hD (G.way hk) (G.pos _) fun h' tv tk' F N' _ => ret _ _ _ F N'
theorem gpath {tb : Addr} {us : List Value} (HS : HashSpec w p loose mean mg mb H f dS)
    (C : Cx w p loose mean mg mb A s.heap h₀ L m) (hdp : A.depth + 20 < recursionLimit) (hun : A.units + 200 < cLine) (hh : A.handled = none)
    (Nn : News h₀ L s.heap news) (ht : (tb, tup us) ∈ news) (hS : SeenObj w oS S) {key : Nat} (hbs : BytesAre us (brn S V key)) (G : Good S D root V) (U1 : UpdF dS oS news g1) (hH : ∀ q ∈ H, q ∈ news) (hoff : ∀ q ∈ H, q.1 ≠ dS) (hf : IsFnIn f H) (htd : tb ≠ dS)
    (hlen : S.length < 90000) (hus : us.length = 8) (hk : key < 256)
    (ret : ∀ h' oS' Dt Db vs t' tk' S' T r, Fr h₀ L h' m → News h₀ L h' ((Dt, tup [.ref Db, .bytes r t']) :: (Db, tup vs) :: g1 oS') → (∀ p ∈ news, p.1 ≠ Dt) → (∀ p ∈ news, p.1 ≠ Db) → @Ne Nat Db Dt →
      SeenObj w oS' S' → S'.length ≤ S.length + 9 → Ext S S' → Due S' D root V key value T r → BytesAre vs T → vs.length = 8 → Q (.ref Dt) { s with heap := h', toks := tk' }) :
    wpAny (model Challenge.rw_bi0032_01.row.prog w) A (call (.ref 246) [.int (key : Int) tk, .bytes value tv, .ref tb, .ref f]) Q E s := by
  refine path_spec HS C hdp hun hh Nn U1 (allAt_news Nn hH) hoff hf (Nn.isTup ht) htd hS hlen hus hbs brn_size fun h' oS' Dt Db vs t' tk' F N' n1 n2 n3 K hS' hl' hvs hvl => ?_
  exact ret _ _ _ _ _ _ _ _ _ _ F N' n1 n2 n3 hS' hl' (climb_ext key _ S value) (G.due hk value) hvs hvl
theorem gcalc {tb : Addr} {us : List Value} (HS : HashSpec w p loose mean mg mb H f dS)
    (C : Cx w p loose mean mg mb A s.heap h₀ L m) (hdp : A.depth + 20 < recursionLimit) (hun : A.units + 200 < cLine)
    (Nn : News h₀ L s.heap news) (ht : (tb, tup us) ∈ news) (hS : SeenObj w oS S) (hbs : BytesAre us (brn S V kb.toNat)) (G : Good S D root V) (hv : value = V kb.toNat) (U1 : UpdF dS oS news g1) (hH : AllAt H s.heap) (hoff : ∀ q ∈ H, q.1 ≠ dS) (hf : IsFnIn f H) (htd : tb ≠ dS)
    (hlen : S.length < 90000) (hus : us.length = 8) (hnb : A.handled ≠ some byPass) (hok : HOk A.handled s.heap) (hod : dS ∉ hndA A.handled)
    (ret : ∀ h' oS' t' tk', Fr h₀ L h' m → News h₀ L h' (g1 oS') → SeenObj w oS' S → Q (.bytes root t') { s with heap := h', toks := tk' }) :
    wpAny (model Challenge.rw_bi0032_01.row.prog w) A (call (.ref 76) [.bytes #[kb] tk, .bytes value tv, .ref tb, .ref f]) Q E s := by
  subst hv
  have hk := UInt8.toNat_lt kb
  have hc := G.calc hk
  refine calc_spec HS C hdp hun (List.forall_mem_cons.mpr ⟨Nn _ (upd_here U1), News.nil⟩) hH hoff hf (Nn.isTup ht) htd hS hlen hus hbs brn_size hnb hok hod fun h' oS' t' tk' F K e hS' _ => ?_
  rw [hc] at hS'
  rw [show (climb kb.toNat (brn S V kb.toNat) (leafUp S (V kb.toNat)) 8).2 = root by rw [hc]]
  exact ret _ _ _ _ F (news_upd1 Nn U1 (fun p hp h1 => K _ _ (Nn p hp).1 (by simpa using h1)) e) hS'
end
end Mine
theorem Mine.freshDeal : True ∧ True := by w_top off; first | (walk1; all_goals trivial) | exact ⟨trivial, trivial⟩
-- part LawBase
namespace Mine
open PySem PySem.W PyProof.Rows PySem.Calls
theorem news_tl {h₀ h : Heap} {L : Addr} {p : Addr × Obj} {news : List (Addr × Obj)} (N : News h₀ L h (p :: news)) : News h₀ L h news := fun q hq => N q (.tail _ hq)
theorem len_tupN8 {w : World} {A : Around} {E : Value → Shared → Prop} {s : Shared} {h₀ : Heap} {L t : Addr} {us : List Value} {news : List (Addr × Obj)} {Q : Value → Shared → Prop} (N : News h₀ L s.heap news) (hm : (t, tup us) ∈ news) (hn : us.length = 8)
    (h : Q (.int 8 (s.toks + 1)) { s with toks := s.toks + 1 + 1 }) : wpAny (model Challenge.rw_bi0032_01.row.prog w) A (call (.builtin "len") [.ref t]) Q E s :=
  len_tuple (N.isTup hm) (by rw [List.size_toArray, hn]; decide) (by rw [List.size_toArray, hn]; exact h)
theorem absorbK {K : Frag} {a : Addr} {o o' : Obj} {G : Prop} (h1 : K.lookup a = some o) (h2 : K.lookup a = some o') (k : o = o' → G) : G := k (by rw [h1] at h2; exact Option.some.inj h2)
theorem bytes1 {w : World} {A : Around} {E : Value → Shared → Prop} {s : Shared} {h₀ : Heap} {L l : Addr} {m : Str → Option Value} {news : List (Addr × Obj)} {Q : Value → Shared → Prop} {k : UInt8} {t : Tok} {c : Nat} (F : Fr h₀ L s.heap m) (N : News h₀ L s.heap ((l, listOf [.int (k.toNat : Int) t].toArray c) :: news)) (hh : A.handled = none)
    (h : ∀ h' t' tk, Fr h₀ L h' m → News h₀ L h' news → Q (.bytes #[k] t') { s with heap := h', toks := tk }) : wpAny (model Challenge.rw_bi0032_01.row.prog w) A (call (.type "bytes") [.ref l]) Q E s := by
  have hk := UInt8.toNat_lt k
  refine bytes_K (vs := [.int (k.toNat : Int) t]) (ns := [(k.toNat : Int)]) F N (N.isList (.head _)) (by l_ints) (by intro n hn; rw [List.mem_singleton.mp hn]; omega) (by rw [sizeLine_eq]; show 1 ≤ 16777216; decide) hh fun h' t' tk F' N' _ => ?_
  have e : (List.map (fun n : Int => n.toNat.toUInt8) [(k.toNat : Int)]).toArray = #[k] := by
    have e2 : ((k.toNat : Int)).toNat.toUInt8 = k := by
      apply UInt8.toNat_inj.mp
      show (k.toNat) % 256 = k.toNat
      omega
    show [((k.toNat : Int)).toNat.toUInt8].toArray = #[k]
    rw [e2]
  rw [e]
  exact h _ _ _ F' (news_tl N')
theorem ne_lt_l {a b : Addr} {o : Obj} {news : List (Addr × Obj)} (h : ∀ p ∈ news, p.1 < b) (hm : (a, o) ∈ news) : a ≠ b := Nat.ne_of_lt (h _ hm)
theorem ne_lt_r {a b : Addr} {o : Obj} {news : List (Addr × Obj)} (h : ∀ p ∈ news, p.1 < b) (hm : (a, o) ∈ news) : b ≠ a := Nat.ne_of_gt (h _ hm)
theorem ne_tr_l {a b d : Addr} {o : Obj} {news : List (Addr × Obj)} (l : @LT.lt Nat _ d b) (h : ∀ p ∈ news, p.1 < d) (hm : (a, o) ∈ news) : a ≠ b := Nat.ne_of_lt (Nat.lt_trans (h _ hm) l)
theorem ne_tr_r {a b d : Addr} {o : Obj} {news : List (Addr × Obj)} (l : @LT.lt Nat _ d b) (h : ∀ p ∈ news, p.1 < d) (hm : (a, o) ∈ news) : b ≠ a := Nat.ne_of_gt (Nat.lt_trans (h _ hm) l)
theorem ne_ne_l {a b : Addr} {o : Obj} {news : List (Addr × Obj)} (h : ∀ p ∈ news, p.1 ≠ b) (hm : (a, o) ∈ news) : a ≠ b := h _ hm
theorem ne_ne_r {a b : Addr} {o : Obj} {news : List (Addr × Obj)} (h : ∀ p ∈ news, p.1 ≠ b) (hm : (a, o) ∈ news) : b ≠ a := Ne.symm (h _ hm)
end Mine
theorem Mine.freshLawBase : True ∧ True := by w_top off; first | (walk1; all_goals trivial) | exact ⟨trivial, trivial⟩
-- part OwnI
namespace Mine
open PySem PySem.W PyProof.Rows PySem.Calls
local macro_rules | `(tactic| k_room) => `(tactic| ((simp only [depth_under_make, depth_under_kw, depth_in1, depth_deeper, depth_caller]); (try dsimp only [AA] at *); omega))
local macro_rules | `(tactic| k_units) => `(tactic| ((simp only [units_in1, units_deeper, Around.mark_units, units_caller]); (try dsimp only [AA] at *); omega))
-- enter a def of the top with the ledger at hand
local macro_rules | `(tactic| walk_at "m_enter") => `(tactic| (
  refine' call_subK (by assumption) (by assumption) ?q9k1 ?q9k2 ?q9k3 ?q9k4 ?q9k5 ?_ ?q9k6 ?q9k7 ?q9k8 ?q9k9
  (case q9k1 => k_is)
  (case q9k2 => k_is)
  (case q9k3 => k_room)
  (case q9k4 => exact BindsTo.of_eq rfl)
  (case q9k5 => exact locs rfl)
  (case q9k6 => decide)
  (case q9k7 => exact rfl)
  (case q9k8 => exact rfl)
  (case q9k9 => exact rfl)))
-- the caller's context
local macro_rules | `(tactic| walk_at "m_cx") => `(tactic| k_dflt (
  refine' mkCx ?q9F ?q9B ?q9X ?q9T ?q9a ?q9b ?q9c
  (case q9F => k_asm)
  (case q9B => k_asm)
  (case q9X => k_asm)
  (case q9T => k_asm)
  (case q9a => exact rfl)
  (case q9b => exact rfl)
  (case q9c => exact rfl)))
local macro_rules | `(tactic| walk_at "m_depth") => `(tactic| ((simp only [depth_mark, depth_under_make, depth_under_kw, depth_in1, depth_deeper, depth_caller]); first | (dsimp only [AA]; omega) | omega | decide))
local macro_rules | `(tactic| walk_at "m_unit") => `(tactic| first | ((simp only [units_in1, units_deeper, Around.mark_units, units_caller]); first | (dsimp only [AA]; omega) | omega | decide) | exact Nat.le_of_ble_eq_true rfl)
local macro_rules | `(tactic| walk_at "call ref") => `(tactic| (k_here; first
  | ((with_reducible show wpAny _ _ (call (Value.ref 62) [Value.bytes _ _]) _ _ _); k_dflt (refine' vib_spec ?q9C ?q9d ?q9u ?q9N ?_); (case q9C => walk_at "m_cx"); (case q9d => walk_at "m_depth"); (case q9u => walk_at "m_unit"); (case q9N => k_asm); intro h' tk' F' N' _; (try k_sweep))
  | ((with_reducible show wpAny _ _ (call (Value.ref 35) [_, _]) _ _ _); k_dflt (refine' cast_spec ?q9C ?q9d ?q9u ?q9N ?_); (case q9C => walk_at "m_cx"); (case q9d => walk_at "m_depth"); (case q9u => walk_at "m_unit"); (case q9N => k_asm); intro h' tk' F' N' _; (try k_sweep))
  | ((with_reducible show wpAny _ _ (call (Value.ref 42) [Value.bytes _ _]) _ _ _); k_dflt (refine' toint_spec ?q9C ?q9d ?q9u ?q9N ?_); (case q9C => walk_at "m_cx"); (case q9d => walk_at "m_depth"); (case q9u => walk_at "m_unit"); (case q9N => k_asm); intro h' tk' t' F' N' _; (try k_sweep))
  | ((with_reducible show wpAny _ _ (call (Value.ref 69) [Value.bytes _ _, _]) _ _ _); k_dflt (refine' vlb_spec ?q9C ?q9d ?q9u ?q9N ?_); (case q9C => walk_at "m_cx"); (case q9d => walk_at "m_depth"); (case q9u => walk_at "m_unit"); (case q9N => k_asm); intro h' tk' F' N' _; (try k_sweep))
  | ((with_reducible show wpAny _ _ (call (Value.ref 69) [Value.ref _, _]) _ _ _); k_dflt (refine' vlt_spec ?q9C ?q9d ?q9u ?q9N ?q9t ?q9n ?_); (case q9C => walk_at "m_cx"); (case q9d => walk_at "m_depth"); (case q9u => walk_at "m_unit"); (case q9N => k_asm); (case q9t => exact IsTup.keeps (by assumption) (Fr.keep (by assumption))); (case q9n => assumption); intro h' tk' F' N' _; (try k_sweep))))
local macro_rules | `(tactic| walk_at "m_fn") => `(tactic| k_dflt (exact IsFnIn.at (by assumption) (AllAt.keeps (by assumption) (Fr.keep (by assumption)))))
local macro_rules | `(tactic| walk_at "m_all") => `(tactic| k_dflt (exact AllAt.keeps (by assumption) (Fr.keep (by assumption))))
local macro_rules | `(tactic| walk_at "FnAt") => `(tactic| walk_at "m_fn")
local macro_rules | `(tactic| walk_at "callWith ref") => `(tactic| (k_here; k_dflt (refine' callWith_F ?q9k1 ?_; (case q9k1 => walk_at "m_fn"))))
local macro_rules | `(tactic| walk_at "call ref") => `(tactic| (k_here; (with_reducible show wpAny _ _ (call (Value.ref _) [Value.bytes _ _]) _ _ _); k_dflt (refine' hash_use (by assumption) ?q9C ?q9d ?q9u ?q9N ?q9H ?q9U ?q9S ?q9l ?_); (case q9C => walk_at "m_cx"); (case q9d => walk_at "m_depth"); (case q9u => walk_at "m_unit"); (case q9N => k_asm); (case q9H => walk_at "m_all"); (case q9U => k_updF); (case q9S => k_asm); (case q9l => omega); intro h' oS' t' tk' F' N' hS' hl'; (try dsimp only at N'); (try k_sweep)))
local macro_rules | `(tactic| walk_at "binaryOp Add bytes bytes") => `(tactic| (k_here; (with_reducible show wpAny _ _ (binaryOp Operator.Add (Value.bytes _ _) (Value.bytes _ _)) _ _ _); (refine KBy.add_bytes (by omega) ?_); intro _ _))
local macro_rules | `(tactic| walk_at "call builtin:len") => `(tactic| (k_here; first
  | ((with_reducible show wpAny _ _ (call (Value.builtin "len") [Value.bytes _ _]) _ _ _); refine len_b1 ?_)
  | ((with_reducible show wpAny _ _ (call (Value.builtin "len") [Value.ref _]) _ _ _); refine len_tupB (by assumption) (by assumption) (by assumption) ?_)))

local macro_rules | `(tactic| walk_at "subscriptTail") => `(tactic| (k_here; (with_reducible show wpAny _ _ (subscriptTail _ _ (Value.ref _) (Value.bytes _ _)) _ _ _); k_dflt (refine' db_item ?q9N ?q9m ?q9D ?q9k ?_; (case q9N => k_asm); (case q9m => k_mem); (case q9D => k_asm); (case q9k => k_asm)); intro _ _))
local macro_rules | `(tactic| walk_at "subscriptTail") => `(tactic| (k_here; (with_reducible show wpAny _ _ (subscriptTail _ (Expr.Slice _ _ none _) (Value.bytes (_ ++ _) _) (Value.ref _)) _ _ _); (with_reducible rename Fr _ _ _ _ => F'); (with_reducible rename News _ _ _ _ => N'); k_dflt (first
  | (refine slice_lo (s := ⟨_, _, _, _, _⟩) F' N' (by assumption) (by assumption) ?_)
  | (refine slice_hi (s := ⟨_, _, _, _, _⟩) F' N' (by assumption) (by assumption) ?_)); intro _ _ _ F' N'; (try k_sweep)))
local macro_rules | `(tactic| walk_at "call builtin:list.append") => `(tactic| (k_here; (with_reducible show wpAny _ _ (call (Value.builtin _) [Value.ref _, _]) _ _ _); k_dflt (refine' append_L ?q9F ?q9N ?q9U ?_ ?q9z; (case q9F => k_asm); (case q9N => k_asm); (case q9U => k_updF); (case q9z => omega)); intro h' F' N'; (try dsimp only at N'); (try k_sweep)))
local macro_rules | `(tactic| walk_at "call type:tuple") => `(tactic| (k_here; (with_reducible show wpAny _ _ (call (Value.type "tuple") [Value.ref _]) _ _ _); k_dflt (refine' tuple_L ?q9F ?q9N ?q9m ?q9z ?_; (case q9F => k_asm); (case q9N => k_asm); (case q9m => k_mem); (case q9z => omega)); intro D' h' F' N' l1; (try k_lt l1); (try k_sweep)))

local macro_rules | `(tactic| walk_at "call type:tuple") => `(tactic| (k_here; (with_reducible show wpAny _ _ (call (Value.type "tuple") [Value.ref _]) _ _ _); k_dflt (refine' tuple_rev rfl ?q9F ?q9N ?q9I ?q9m ?q9z ?_; (case q9F => k_asm); (case q9N => k_asm); (case q9I => k_all); (case q9m => k_mem); (case q9z => omega)); intro D' h' tk' F' N' l1; (try k_lt l1); (try k_sweep)))
local macro_rules | `(tactic| walk_at "call type:reversed") => `(tactic| (k_here; (with_reducible show wpAny _ _ (call (Value.type "reversed") [Value.ref _]) _ _ _); k_dflt (first
  | (refine' rev_K ?q9F ?q9N ?q9t ?q9n ?_; (case q9F => k_asm); (case q9N => k_asm); (case q9t => assumption); (case q9n => assumption); intro D' h' tk' F' N' l1; (try k_lt l1); (try k_sweep))
  | (refine' rev_KN ?q9F ?q9N ?q9m ?q9n ?_; (case q9F => k_asm); (case q9N => k_asm); (case q9m => k_mem); (case q9n => assumption); intro D' h' tk' F' N' l1; (try k_lt l1); (try k_sweep))
  | (refine' revL_K ?q9F ?q9N ?q9m ?_; (case q9F => k_asm); (case q9N => k_asm); (case q9m => k_mem); intro D' h' F' N' l1; (try k_lt l1); (try k_sweep)))))
local macro_rules | `(tactic| walk_at "setItem ref bytes") => `(tactic| (k_here; k_dflt (refine' db_set ?q9F ?q9N ?q9U ?q9D ?q9n ?_; (case q9F => k_asm); (case q9N => k_asm); (case q9U => k_updF); (case q9D => k_asm); (case q9n => omega)); intro h' o' F' N' hD'; (try dsimp only at N'); (try k_sweep)))
local macro_rules | `(tactic| walk_at "call ref") => `(tactic| (k_here; (with_reducible show wpAny _ _ (call (Value.ref 183) [Value.ref _, Value.bytes _ _]) _ _ _); k_dflt (refine' get_spec ?q9C ?q9d ?q9u rfl ?q9N ?q9m1 ?q9m2 ?q9m3 ?q9T ?q9D ?q9W ?_; (case q9C => walk_at "m_cx"); (case q9d => walk_at "m_depth"); (case q9u => walk_at "m_unit"); (case q9N => k_asm); (case q9m1 => k_mem); (case q9m2 => k_mem); (case q9T => first | assumption | exact ⟨_, _, _, _, _, _, _, _, _, _, rfl⟩); (case q9m3 => k_mem); (case q9D => assumption); (case q9W => assumption)); intro h' Dt Db vs' tv tk' F' N' n1 n2 n3 K' hvs' hvl'; (replace n1 := allNe_of n1); (simp only [AllNe, and_true] at n1); (replace n2 := allNe_of n2); (simp only [AllNe, and_true] at n2); (try k_sweep)))

local macro_rules | `(tactic| walk_at "call builtin:list.insert") => `(tactic| (k_here; (with_reducible show wpAny _ _ (call (Value.builtin _) [Value.ref _, _, _]) _ _ _); k_dflt (refine' insert0_L ?q9F ?q9N ?q9U ?q9z ?_; (case q9F => k_asm); (case q9N => k_asm); (case q9U => k_updF); (case q9z => omega)); intro h' F' N'; (try dsimp only at N'); (try k_sweep)))

local macro_rules | `(tactic| walk_at "call ref") => `(tactic| (k_here; (with_reducible show wpAny _ _ (call (Value.ref 69) [Value.ref _, _]) _ _ _); k_dflt (refine' vlt_spec ?q9C ?q9d ?q9u ?q9N ?q9t ?q9n ?_; (case q9C => walk_at "m_cx"); (case q9d => walk_at "m_depth"); (case q9u => walk_at "m_unit"); (case q9N => k_asm); (case q9t => exact News.isTup (by k_asm) (by k_mem)); (case q9n => assumption)); intro h' tk' F' N' _; (try k_sweep)))
local macro_rules | `(tactic| walk_at "call builtin:len") => `(tactic| (k_here; (with_reducible show wpAny _ _ (call (Value.builtin "len") [Value.ref _]) _ _ _); k_dflt (refine' len_tupN8 ?q9N ?q9m ?q9n ?_; (case q9N => k_asm); (case q9m => k_mem); (case q9n => assumption))))
section
variable {w : World} {p : Program} {loose : List Str} {mean : ExcName → Option Value} {mg mb : Str → Option Value} {f x dx lb tb : Addr} {od : Obj}
    {A : Around} {s : Shared} {h₀ : Heap} {L : Addr} {m : Str → Option Value} {Q E : Value → Shared → Prop} {kb : UInt8} {t1 t2 : Tok} {value : Array UInt8} {vs : List Value} {news : List (Addr × Obj)} {g1 : Obj → List (Addr × Obj)}
theorem own_initC {Rz : Result → Shared → Prop}
    (C : Cx w p loose mean mg mb A s.heap h₀ L m) (hdp : A.depth + 25 < recursionLimit) (hun : A.units + 250 < cLine)
    (Nn : News h₀ L s.heap news) (m1 : (x, instObj 132 dx) ∈ news) (m2 : (tb, tup vs) ∈ news) (U1 : UpdF dx (dictOf [] 0) news g1) (ne1 : @Ne Nat dx x) (ne3 : @Ne Nat x tb) (ne6 : @Ne Nat dx tb) (hvs : vs.length = 8)
    (ret : ∀ h' lb c od' tk', Fr h₀ L h' m → News h₀ L h' ((lb, listOf vs.toArray c) :: g1 od') → (∀ p ∈ news, p.1 ≠ lb) → OwnD w f lb kb value od' → Rz (.ok (.ret .none)) { s with heap := h', toks := tk' }) :
    codeAny (model Challenge.rw_bi0032_01.row.prog w) A (.call (.ref 90) ⟨[.ref x, .bytes #[kb] t1, .bytes value t2, .ref tb, .ref f], []⟩) Rz s := by
  obtain ⟨hnd, dp, un, gd, env, outer, rfl⟩ := C.shape
  dsimp only [AA] at hdp hun
  have m3 : (dx, dictOf [] 0) ∈ news := upd_here U1
  have N : News h₀ L s.heap [(dx, dictOf [] 0), (x, instObj 132 dx), (tb, tup vs)] := List.forall_mem_cons.mpr ⟨Nn _ m3, List.forall_mem_cons.mpr ⟨Nn _ m1, List.forall_mem_cons.mpr ⟨Nn _ m2, News.nil⟩⟩⟩
  have X := C.k; revert X; k_fill; intro X
  have hFr := C.fr
  walk_at "m_enter"
  intro _ _ _ _ _ _ base g' L' h' hA F' N' B' X' T' Tg' lt'
  cases hA
  clear C
  (try dsimp only); (try k_fold)
  k_steps
  show LeaveM _ _ _ _ _ _ _ _ _
  refine leaveM (R := [(dx, dictOf [] 0), (x, instObj 132 dx), (tb, tup vs)]) (by k_asm) (by k_asm) fun F T G Z => ?_
  have Gl := G _ (.head _)
  have Gd := G _ (.tail _ (.head _))
  have Gx := G _ (.tail _ (.tail _ (.head _)))
  have Gt := G _ (.tail _ (.tail _ (.tail _ (.head _))))
  have ZB := Z _ (.head _) (by simp only [List.map_cons, List.map_nil, List.mem_cons, List.not_mem_nil, or_false, not_or]; refine ⟨?_, ?_, ?_⟩ <;> k_ne)
  have NN := news_upd1 Nn U1 (fun p hp h1 => by
    by_cases e2 : p.1 = x
    · rw [e2, Gx]; have := (Nn p hp).1; rw [e2, (Nn _ m1).1] at this; exact this
    by_cases e3 : p.1 = tb
    · rw [e3, Gt]; have := (Nn p hp).1; rw [e3, (Nn _ m2).1] at this; exact this
    exact T _ _ (Nn p hp).1 (by simp only [List.map_cons, List.map_nil, List.mem_cons, List.not_mem_nil, or_false, not_or]; exact ⟨h1, e2, e3⟩)) Gd
  exact ret _ _ _ _ _ F (news_cons Gl ZB.1 (base_none hFr ZB.2) NN) (fresh_ne Nn ZB.2) ⟨_, _, _, _, _, _, _, _, _, _, rfl⟩
theorem own_new
    (C : Cx w p loose mean mg mb A s.heap h₀ L m) (hdp : A.depth + 30 < recursionLimit) (hun : A.units + 300 < cLine)
    (Nn : News h₀ L s.heap news) (m2 : (tb, tup vs) ∈ news) (hvs : vs.length = 8)
    (ret : ∀ h' x dx lb c od' tk', Fr h₀ L h' m → News h₀ L h' ((lb, listOf vs.toArray c) :: (x, instObj 132 dx) :: (dx, od') :: news) → (∀ p ∈ news, p.1 < dx) → dx < x → (∀ p ∈ ((x, instObj 132 dx) :: (dx, dictOf [] 0) :: news), p.1 ≠ lb) → OwnD w f lb kb value od' → Q (.ref x) { s with heap := h', toks := tk' }) :
    wpAny (model Challenge.rw_bi0032_01.row.prog w) A (call (.ref 132) [.bytes #[kb] t1, .bytes value t2, .ref tb, .ref f]) Q E s := by
  obtain ⟨hnd, dp, un, gd, env, outer, rfl⟩ := C.shape
  dsimp only [AA] at hdp hun
  have X := C.k; revert X; k_fill; intro X
  obtain ⟨A₀, base, outer', env', B, hA, hf, hke⟩ := C.below
  refine' call_cls (kw := []) C.fr X Nn ?q9a ?q9b ?q9c fun x dx h' F N' l1 l2 => ?_
  case q9a => k_is
  case q9b => k_is
  case q9c => k_is
  have l1' : ∀ p ∈ news, @LT.lt Nat _ p.1 dx := l1
  have l2' : @LT.lt Nat _ dx x := l2
  have lt := l1' _ m2
  refine own_initC (mkCx F B X C.top hA hf hke) (by simp only [depth_under_make]; omega) (by simp only [units_under_make]; omega) N' (.head _) (.tail _ (.tail _ m2)) (.tail (Nat.ne_of_gt l2') (.head fun p hp => Nat.ne_of_lt (l1' p hp))) (by omega) (by dsimp only at lt; omega) (by dsimp only at lt; omega) hvs fun h' lb c od' tk' F N' n1 hO => ?_
  exact ⟨rfl, ret _ _ _ _ _ _ _ F N' l1 l2 n1 hO⟩
end
end Mine
theorem Mine.freshOwnI : True ∧ True := by w_top off; first | (walk1; all_goals trivial) | exact ⟨trivial, trivial⟩
-- part OwnP
namespace Mine
open PySem PySem.W PyProof.Rows PySem.Calls
local macro_rules | `(tactic| k_room) => `(tactic| ((simp only [depth_under_make, depth_under_kw, depth_in1, depth_deeper, depth_caller]); (try dsimp only [AA] at *); omega))
local macro_rules | `(tactic| k_units) => `(tactic| ((simp only [units_in1, units_deeper, Around.mark_units, units_caller]); (try dsimp only [AA] at *); omega))
-- enter a def of the top with the ledger at hand
local macro_rules | `(tactic| walk_at "m_enter") => `(tactic| (
  refine' call_subK (by assumption) (by assumption) ?q9k1 ?q9k2 ?q9k3 ?q9k4 ?q9k5 ?_ ?q9k6 ?q9k7 ?q9k8 ?q9k9
  (case q9k1 => k_is)
  (case q9k2 => k_is)
  (case q9k3 => k_room)
  (case q9k4 => exact BindsTo.of_eq rfl)
  (case q9k5 => exact locs rfl)
  (case q9k6 => decide)
  (case q9k7 => exact rfl)
  (case q9k8 => exact rfl)
  (case q9k9 => exact rfl)))
-- the caller's context
local macro_rules | `(tactic| walk_at "m_cx") => `(tactic| k_dflt (
  refine' mkCx ?q9F ?q9B ?q9X ?q9T ?q9a ?q9b ?q9c
  (case q9F => k_asm)
  (case q9B => k_asm)
  (case q9X => k_asm)
  (case q9T => k_asm)
  (case q9a => exact rfl)
  (case q9b => exact rfl)
  (case q9c => exact rfl)))
local macro_rules | `(tactic| walk_at "m_depth") => `(tactic| ((simp only [depth_mark, depth_under_make, depth_under_kw, depth_in1, depth_deeper, depth_caller]); first | (dsimp only [AA]; omega) | omega | decide))
local macro_rules | `(tactic| walk_at "m_unit") => `(tactic| first | ((simp only [units_in1, units_deeper, Around.mark_units, units_caller]); first | (dsimp only [AA]; omega) | omega | decide) | exact Nat.le_of_ble_eq_true rfl)
local macro_rules | `(tactic| walk_at "call ref") => `(tactic| (k_here; first
  | ((with_reducible show wpAny _ _ (call (Value.ref 62) [Value.bytes _ _]) _ _ _); k_dflt (refine' vib_spec ?q9C ?q9d ?q9u ?q9N ?_); (case q9C => walk_at "m_cx"); (case q9d => walk_at "m_depth"); (case q9u => walk_at "m_unit"); (case q9N => k_asm); intro h' tk' F' N' _; (try k_sweep))
  | ((with_reducible show wpAny _ _ (call (Value.ref 35) [_, _]) _ _ _); k_dflt (refine' cast_spec ?q9C ?q9d ?q9u ?q9N ?_); (case q9C => walk_at "m_cx"); (case q9d => walk_at "m_depth"); (case q9u => walk_at "m_unit"); (case q9N => k_asm); intro h' tk' F' N' _; (try k_sweep))
  | ((with_reducible show wpAny _ _ (call (Value.ref 42) [Value.bytes _ _]) _ _ _); k_dflt (refine' toint_spec ?q9C ?q9d ?q9u ?q9N ?_); (case q9C => walk_at "m_cx"); (case q9d => walk_at "m_depth"); (case q9u => walk_at "m_unit"); (case q9N => k_asm); intro h' tk' t' F' N' _; (try k_sweep))
  | ((with_reducible show wpAny _ _ (call (Value.ref 69) [Value.bytes _ _, _]) _ _ _); k_dflt (refine' vlb_spec ?q9C ?q9d ?q9u ?q9N ?_); (case q9C => walk_at "m_cx"); (case q9d => walk_at "m_depth"); (case q9u => walk_at "m_unit"); (case q9N => k_asm); intro h' tk' F' N' _; (try k_sweep))
  | ((with_reducible show wpAny _ _ (call (Value.ref 69) [Value.ref _, _]) _ _ _); k_dflt (refine' vlt_spec ?q9C ?q9d ?q9u ?q9N ?q9t ?q9n ?_); (case q9C => walk_at "m_cx"); (case q9d => walk_at "m_depth"); (case q9u => walk_at "m_unit"); (case q9N => k_asm); (case q9t => exact IsTup.keeps (by assumption) (Fr.keep (by assumption))); (case q9n => assumption); intro h' tk' F' N' _; (try k_sweep))))
local macro_rules | `(tactic| walk_at "m_fn") => `(tactic| k_dflt (exact IsFnIn.at (by assumption) (AllAt.keeps (by assumption) (Fr.keep (by assumption)))))
local macro_rules | `(tactic| walk_at "m_all") => `(tactic| k_dflt (exact AllAt.keeps (by assumption) (Fr.keep (by assumption))))
local macro_rules | `(tactic| walk_at "FnAt") => `(tactic| walk_at "m_fn")
local macro_rules | `(tactic| walk_at "callWith ref") => `(tactic| (k_here; k_dflt (refine' callWith_F ?q9k1 ?_; (case q9k1 => walk_at "m_fn"))))
local macro_rules | `(tactic| walk_at "call ref") => `(tactic| (k_here; (with_reducible show wpAny _ _ (call (Value.ref _) [Value.bytes _ _]) _ _ _); k_dflt (refine' hash_use (by assumption) ?q9C ?q9d ?q9u ?q9N ?q9H ?q9U ?q9S ?q9l ?_); (case q9C => walk_at "m_cx"); (case q9d => walk_at "m_depth"); (case q9u => walk_at "m_unit"); (case q9N => k_asm); (case q9H => walk_at "m_all"); (case q9U => k_updF); (case q9S => k_asm); (case q9l => omega); intro h' oS' t' tk' F' N' hS' hl'; (try dsimp only at N'); (try k_sweep)))
local macro_rules | `(tactic| walk_at "binaryOp Add bytes bytes") => `(tactic| (k_here; (with_reducible show wpAny _ _ (binaryOp Operator.Add (Value.bytes _ _) (Value.bytes _ _)) _ _ _); (refine KBy.add_bytes (by omega) ?_); intro _ _))
local macro_rules | `(tactic| walk_at "call builtin:len") => `(tactic| (k_here; first
  | ((with_reducible show wpAny _ _ (call (Value.builtin "len") [Value.bytes _ _]) _ _ _); refine len_b1 ?_)
  | ((with_reducible show wpAny _ _ (call (Value.builtin "len") [Value.ref _]) _ _ _); refine len_tupB (by assumption) (by assumption) (by assumption) ?_)))

local macro_rules | `(tactic| walk_at "subscriptTail") => `(tactic| (k_here; (with_reducible show wpAny _ _ (subscriptTail _ _ (Value.ref _) (Value.bytes _ _)) _ _ _); k_dflt (refine' db_item ?q9N ?q9m ?q9D ?q9k ?_; (case q9N => k_asm); (case q9m => k_mem); (case q9D => k_asm); (case q9k => k_asm)); intro _ _))
local macro_rules | `(tactic| walk_at "subscriptTail") => `(tactic| (k_here; (with_reducible show wpAny _ _ (subscriptTail _ (Expr.Slice _ _ none _) (Value.bytes (_ ++ _) _) (Value.ref _)) _ _ _); (with_reducible rename Fr _ _ _ _ => F'); (with_reducible rename News _ _ _ _ => N'); k_dflt (first
  | (refine slice_lo (s := ⟨_, _, _, _, _⟩) F' N' (by assumption) (by assumption) ?_)
  | (refine slice_hi (s := ⟨_, _, _, _, _⟩) F' N' (by assumption) (by assumption) ?_)); intro _ _ _ F' N'; (try k_sweep)))
local macro_rules | `(tactic| walk_at "call builtin:list.append") => `(tactic| (k_here; (with_reducible show wpAny _ _ (call (Value.builtin _) [Value.ref _, _]) _ _ _); k_dflt (refine' append_L ?q9F ?q9N ?q9U ?_ ?q9z; (case q9F => k_asm); (case q9N => k_asm); (case q9U => k_updF); (case q9z => omega)); intro h' F' N'; (try dsimp only at N'); (try k_sweep)))
local macro_rules | `(tactic| walk_at "call type:tuple") => `(tactic| (k_here; (with_reducible show wpAny _ _ (call (Value.type "tuple") [Value.ref _]) _ _ _); k_dflt (refine' tuple_L ?q9F ?q9N ?q9m ?q9z ?_; (case q9F => k_asm); (case q9N => k_asm); (case q9m => k_mem); (case q9z => omega)); intro D' h' F' N' l1; (try k_lt l1); (try k_sweep)))

local macro_rules | `(tactic| walk_at "call type:tuple") => `(tactic| (k_here; (with_reducible show wpAny _ _ (call (Value.type "tuple") [Value.ref _]) _ _ _); k_dflt (refine' tuple_rev rfl ?q9F ?q9N ?q9I ?q9m ?q9z ?_; (case q9F => k_asm); (case q9N => k_asm); (case q9I => k_all); (case q9m => k_mem); (case q9z => omega)); intro D' h' tk' F' N' l1; (try k_lt l1); (try k_sweep)))
local macro_rules | `(tactic| walk_at "call type:reversed") => `(tactic| (k_here; (with_reducible show wpAny _ _ (call (Value.type "reversed") [Value.ref _]) _ _ _); k_dflt (first
  | (refine' rev_K ?q9F ?q9N ?q9t ?q9n ?_; (case q9F => k_asm); (case q9N => k_asm); (case q9t => assumption); (case q9n => assumption); intro D' h' tk' F' N' l1; (try k_lt l1); (try k_sweep))
  | (refine' rev_KN ?q9F ?q9N ?q9m ?q9n ?_; (case q9F => k_asm); (case q9N => k_asm); (case q9m => k_mem); (case q9n => assumption); intro D' h' tk' F' N' l1; (try k_lt l1); (try k_sweep))
  | (refine' revL_K ?q9F ?q9N ?q9m ?_; (case q9F => k_asm); (case q9N => k_asm); (case q9m => k_mem); intro D' h' F' N' l1; (try k_lt l1); (try k_sweep)))))
local macro_rules | `(tactic| walk_at "setItem ref bytes") => `(tactic| (k_here; k_dflt (refine' db_set ?q9F ?q9N ?q9U ?q9D ?q9n ?_; (case q9F => k_asm); (case q9N => k_asm); (case q9U => k_updF); (case q9D => k_asm); (case q9n => omega)); intro h' o' F' N' hD'; (try dsimp only at N'); (try k_sweep)))
local macro_rules | `(tactic| walk_at "call ref") => `(tactic| (k_here; (with_reducible show wpAny _ _ (call (Value.ref 183) [Value.ref _, Value.bytes _ _]) _ _ _); k_dflt (refine' get_spec ?q9C ?q9d ?q9u rfl ?q9N ?q9m1 ?q9m2 ?q9m3 ?q9T ?q9D ?q9W ?_; (case q9C => walk_at "m_cx"); (case q9d => walk_at "m_depth"); (case q9u => walk_at "m_unit"); (case q9N => k_asm); (case q9m1 => k_mem); (case q9m2 => k_mem); (case q9T => first | assumption | exact ⟨_, _, _, _, _, _, _, _, _, _, rfl⟩); (case q9m3 => k_mem); (case q9D => assumption); (case q9W => assumption)); intro h' Dt Db vs' tv tk' F' N' n1 n2 n3 K' hvs' hvl'; (replace n1 := allNe_of n1); (simp only [AllNe, and_true] at n1); (replace n2 := allNe_of n2); (simp only [AllNe, and_true] at n2); (try k_sweep)))

local macro_rules | `(tactic| walk_at "call builtin:list.insert") => `(tactic| (k_here; (with_reducible show wpAny _ _ (call (Value.builtin _) [Value.ref _, _, _]) _ _ _); k_dflt (refine' insert0_L ?q9F ?q9N ?q9U ?q9z ?_; (case q9F => k_asm); (case q9N => k_asm); (case q9U => k_updF); (case q9z => omega)); intro h' F' N'; (try dsimp only at N'); (try k_sweep)))

section
variable {w : World} {p : Program} {loose : List Str} {mean : ExcName → Option Value} {mg mb : Str → Option Value} {f x dx lb : Addr} {od : Obj}
    {A : Around} {s : Shared} {h₀ : Heap} {L : Addr} {m : Str → Option Value} {Q E : Value → Shared → Prop} {kb : UInt8} {val : Array UInt8} {vs : List Value} {c : Nat} {news : List (Addr × Obj)}
theorem own_val
    (C : Cx w p loose mean mg mb A s.heap h₀ L m) (hdp : A.depth + 25 < recursionLimit) (hun : A.units + 250 < cLine)
    (Nn : News h₀ L s.heap news) (m1 : (x, instObj 132 dx) ∈ news) (m2 : (dx, od) ∈ news) (hT : OwnD w f lb kb val od)
    (ret : ∀ h' t' tk', Fr h₀ L h' m → News h₀ L h' news → Q (.bytes val t') { s with heap := h', toks := tk' }) :
    codeAny (model Challenge.rw_bi0032_01.row.prog w) A (.call (.ref 105) ⟨[.ref x], []⟩) (fun r s' => match r with | .ok (.ret v) => Q v s' | .ok _ => False | .error e => E e s') s := by
  obtain ⟨hnd, dp, un, gd, env, outer, rfl⟩ := C.shape
  dsimp only [AA] at hdp hun
  obtain ⟨_, _, _, _, _, _, _, _, _, _, rfl⟩ := hT
  have N : News h₀ L s.heap [(dx, _), (x, instObj 132 dx)] := List.forall_mem_cons.mpr ⟨Nn _ m2, List.forall_mem_cons.mpr ⟨Nn _ m1, News.nil⟩⟩
  have X := C.k; revert X; k_fill; intro X
  have hFr := C.fr
  walk_at "m_enter"
  intro _ _ _ _ _ _ base g' L' h' hA F' N' B' X' T' Tg' lt'
  cases hA
  clear C
  (try dsimp only); (try k_fold)
  k_steps
  show LeaveM _ _ _ _ _ _ _ _ _
  refine leaveM (R := [(dx, _), (x, instObj 132 dx)]) (by k_asm) (by k_asm) fun F T G Z => ?_
  have K := keeps_of N T G (fun q hq => hq)
  exact ret _ _ _ F (news_keeps Nn K)
theorem own_branch
    (C : Cx w p loose mean mg mb A s.heap h₀ L m) (hdp : A.depth + 25 < recursionLimit) (hun : A.units + 250 < cLine)
    (Nn : News h₀ L s.heap news) (m1 : (x, instObj 132 dx) ∈ news) (m2 : (dx, od) ∈ news) (hT : OwnD w f lb kb val od) (m3 : (lb, listOf vs.toArray c) ∈ news) (hvs : vs.length = 8)
    (ret : ∀ h' Db tk', Fr h₀ L h' m → News h₀ L h' ((Db, tup vs) :: news) → (∀ p ∈ news, p.1 ≠ Db) → Q (.ref Db) { s with heap := h', toks := tk' }) :
    codeAny (model Challenge.rw_bi0032_01.row.prog w) A (.call (.ref 113) ⟨[.ref x], []⟩) (fun r s' => match r with | .ok (.ret v) => Q v s' | .ok _ => False | .error e => E e s') s := by
  obtain ⟨hnd, dp, un, gd, env, outer, rfl⟩ := C.shape
  dsimp only [AA] at hdp hun
  obtain ⟨_, _, _, _, _, _, _, _, _, _, rfl⟩ := hT
  have N : News h₀ L s.heap [(dx, _), (x, instObj 132 dx), (lb, listOf vs.toArray c)] := List.forall_mem_cons.mpr ⟨Nn _ m2, List.forall_mem_cons.mpr ⟨Nn _ m1, List.forall_mem_cons.mpr ⟨Nn _ m3, News.nil⟩⟩⟩
  have X := C.k; revert X; k_fill; intro X
  have hFr := C.fr
  walk_at "m_enter"
  intro _ _ _ _ _ _ base g' L' h' hA F' N' B' X' T' Tg' lt'
  cases hA
  clear C
  (try dsimp only); (try k_fold)
  k_steps
  show LeaveM _ _ _ _ _ _ _ _ _
  refine leaveM (R := [(dx, _), (x, instObj 132 dx), (lb, listOf vs.toArray c)]) (by k_asm) (by k_asm) fun F T G Z => ?_
  have K := keeps_of N T G (fun q hq => .tail _ hq)
  have GB := G _ (.head _)
  have ZB := Z _ (.head _) (by simp only [List.map_cons, List.map_nil, List.mem_cons, List.not_mem_nil, or_false, not_or]; refine ⟨?_, ?_, ?_⟩ <;> k_ne)
  exact ret _ _ _ F (news_cons GB ZB.1 (base_none hFr ZB.2) (news_keeps Nn K)) (fresh_ne Nn ZB.2)
local macro_rules | `(tactic| walk_at "call ref") => `(tactic| (k_here; (with_reducible show wpAny _ _ (call (Value.ref 76) [Value.bytes _ _, Value.bytes _ _, Value.ref _, Value.ref _]) _ _ _); k_dflt (refine' gcalc (by assumption) ?q9C ?q9d ?q9u ?q9N ?q9t ?q9S ?q9b ?q9G ?q9v ?q9U ?q9H ?q9o ?q9f ?q9td ?q9l ?q9us ?q9nb ?q9ok ?q9od ?_; (case q9C => walk_at "m_cx"); (case q9d => walk_at "m_depth"); (case q9u => walk_at "m_unit"); (case q9N => k_asm); (case q9t => k_mem); (case q9S => assumption); (case q9b => assumption); (case q9G => assumption); (case q9v => assumption); (case q9U => k_updF); (case q9H => walk_at "m_all"); (case q9o => assumption); (case q9f => assumption); (case q9td => k_ne); (case q9l => omega); (case q9us => assumption); (case q9nb => assumption); (case q9ok => exact HOk.at (by assumption) (fun b _ o e => Fr.keep (by assumption) b o e)); (case q9od => assumption)); intro h' oS' t' tk' F' N' hS'; (try dsimp only at N'); (try k_sweep)))
theorem own_root {dS : Addr} {H : List (Addr × Obj)} {oS : Obj} {S : Texts} {D : List UInt8 → Option (Array UInt8)} {root : Array UInt8} {V : Nat → Array UInt8} {g1 : Obj → List (Addr × Obj)} (HS : HashSpec w p loose mean mg mb H f dS)
    (C : Cx w p loose mean mg mb A s.heap h₀ L m) (hdp : A.depth + 30 < recursionLimit) (hun : A.units + 300 < cLine)
    (Nn : News h₀ L s.heap news) (m1 : (x, instObj 132 dx) ∈ news) (m2 : (dx, od) ∈ news) (hT : OwnD w f lb kb val od) (m3 : (lb, listOf vs.toArray c) ∈ news) (hvs : vs.length = 8) (hS : SeenObj w oS S) (hbs : BytesAre vs (brn S V kb.toNat)) (G : Good S D root V) (hv : val = V kb.toNat) (U1 : UpdF dS oS news g1)
    (hH : AllAt H s.heap) (hoff : ∀ q ∈ H, q.1 ≠ dS ∧ q.1 ≠ dx ∧ q.1 ≠ x ∧ q.1 ≠ lb) (hf : IsFnIn f H) (e1 : @Ne Nat dS dx) (e2 : @Ne Nat dS x) (e3 : @Ne Nat dS lb)
    (hlen : S.length < 90000) (hnb : A.handled ≠ some byPass) (hok : HOk A.handled s.heap) (hod : ∀ a ∈ hndA A.handled, a ≠ dS ∧ a ≠ dx ∧ a ≠ x ∧ a ≠ lb)
    (ret : ∀ h' oS' t' tk', Fr h₀ L h' m → News h₀ L h' (g1 oS') → SeenObj w oS' S → Q (.bytes root t') { s with heap := h', toks := tk' }) :
    codeAny (model Challenge.rw_bi0032_01.row.prog w) A (.call (.ref 121) ⟨[.ref x], []⟩) (fun r s' => match r with | .ok (.ret v) => Q v s' | .ok _ => False | .error e => E e s') s := by
  obtain ⟨hnd, dp, un, gd, env, outer, rfl⟩ := C.shape
  dsimp only [AA] at hdp hun hnb hok hod
  obtain ⟨_, _, _, _, _, _, _, _, _, _, rfl⟩ := hT
  have m0 : (dS, oS) ∈ news := upd_here U1
  have N : News h₀ L s.heap [(dS, oS), (dx, _), (x, instObj 132 dx), (lb, listOf vs.toArray c)] := List.forall_mem_cons.mpr ⟨Nn _ m0, List.forall_mem_cons.mpr ⟨Nn _ m2, List.forall_mem_cons.mpr ⟨Nn _ m1, List.forall_mem_cons.mpr ⟨Nn _ m3, News.nil⟩⟩⟩⟩
  have X := C.k; revert X; k_fill; intro X
  have hFr := C.fr
  walk_at "m_enter"
  intro _ _ _ _ _ _ base g' L' h' hA F' N' B' X' T' Tg' lt'
  cases hA
  have hH' : AllAt H g' := hH.tch Tg' (fun q hq => by
    have z := hoff q hq
    simp only [List.map_cons, List.map_nil, List.mem_cons, List.not_mem_nil, or_false, not_or]
    exact z)
  have hoff1 : ∀ q ∈ H, q.1 ≠ dS := fun q hq => (hoff q hq).1
  have hok' : HOk hnd g' := hok.at fun b hb o e => Tg' _ _ e (by
    have z := hod b hb
    simp only [List.map_cons, List.map_nil, List.mem_cons, List.not_mem_nil, or_false, not_or]
    exact z)
  have hod1 : dS ∉ hndA hnd := fun q => (hod _ q).1 rfl
  clear C hok
  (try dsimp only); (try k_fold)
  k_steps
  show LeaveM _ _ _ _ _ _ _ _ _
  refine leaveM (R := [(dS, oS), (dx, _), (x, instObj 132 dx), (lb, listOf vs.toArray c)]) (by k_asm) (by k_asm) fun F T G Z => ?_
  have GS := G (dS, _) (by k_mem)
  have Gd := G (dx, _) (by k_mem)
  have Gx := G (x, _) (by k_mem)
  have Gl := G (lb, _) (by k_mem)
  refine ret _ _ _ _ F (news_upd1 Nn U1 (fun p hp h1 => ?_) GS) (by assumption)
  by_cases q2 : p.1 = dx
  · rw [q2, Gd]; have := (Nn p hp).1; rw [q2, (Nn _ m2).1] at this; exact this
  by_cases q3 : p.1 = x
  · rw [q3, Gx]; have := (Nn p hp).1; rw [q3, (Nn _ m1).1] at this; exact this
  by_cases q4 : p.1 = lb
  · rw [q4, Gl]; have := (Nn p hp).1; rw [q4, (Nn _ m3).1] at this; exact this
  exact T _ _ (Nn p hp).1 (by simp only [List.map_cons, List.map_nil, List.mem_cons, List.not_mem_nil, or_false, not_or]; exact ⟨h1, q2, q3, q4⟩)
end
end Mine
theorem Mine.freshOwnP : True ∧ True := by w_top off; first | (walk1; all_goals trivial) | exact ⟨trivial, trivial⟩
-- part Eq
namespace Mine
open PySem PySem.W PyProof.Rows PySem.Calls
open PySem.SeqAt (EqAt RcAt RcNeAt)
theorem eqAt_bytes {A : Around} {s : Shared} (b : Array UInt8) (t u : Tok) : EqAt A s (.bytes b t) (.bytes b u) true := fun prog w E Q h => by
  unfold eqBool
  refine wpAny_holding ?_
  refine wpAny_ite_split (fun _ => ?_) (fun _ => ?_)
  · exact wpAny_bind (wpAny_rule (wpAny_pure h))
  · refine wpAny_bind ?_
    show wpAny _ _ (compareOp .Eq (.bytes b t) (.bytes b u)) _ _ _
    refine eq_bytes ?_
    have e : (b.toList == b.toList) = true := beq_self_eq_true _
    rw [e]
    exact wpAny_truthy_bool h
theorem eqAt_all {A : Around} {s : Shared} {vs us : List Value} {bs : List (Array UInt8)} (x : BytesAre vs bs) (y : BytesAre us bs) :
    ∀ j (h1 : j < vs.toArray.size) (h2 : j < us.toArray.size), EqAt A s vs.toArray[j] us.toArray[j] true := fun j h1 h2 => by
  rw [List.size_toArray] at h1 h2
  have hj : j < bs.length := by rw [x.1]; exact h1
  obtain ⟨t, ht⟩ := x.2 j _ (List.getElem?_eq_getElem hj)
  obtain ⟨u, hu⟩ := y.2 j _ (List.getElem?_eq_getElem hj)
  have e1 : vs.toArray[j] = .bytes bs[j] t := by
    rw [List.getElem_toArray]
    exact (List.getElem?_eq_some_iff.mp ht).2
  have e2 : us.toArray[j] = .bytes bs[j] u := by
    rw [List.getElem_toArray]
    exact (List.getElem?_eq_some_iff.mp hu).2
  rw [e1, e2]
  exact eqAt_bytes _ _ _
theorem len_of {vs us : List Value} {bs : List (Array UInt8)} (x : BytesAre vs bs) (y : BytesAre us bs) : vs.length = us.length := x.1.symm.trans y.1
section
variable {w : World} {A : Around} {E : Value → Shared → Prop} {s : Shared} {h₀ : Heap} {L a b a2 b2 : Addr} {news : List (Addr × Obj)} {vs us : List Value} {bs : List (Array UInt8)} {Q : Value → Shared → Prop}
theorem all_true (n : Nat) : (List.range n).all (fun _ => true) = true := by simp
theorem ne_btups (N : News h₀ L s.heap news) (m1 : (a, tup vs) ∈ news) (m2 : (b, tup us) ∈ news) (x : BytesAre vs bs) (y : BytesAre us bs) (hu : A.units + 10 < cLine) (h : Q (.bool false) s) :
    wpAny (model Challenge.rw_bi0032_01.row.prog w) A (compareOp .NotEq (.ref a) (.ref b)) Q E s := by
  have e : (!((List.range (min vs.toArray.size us.toArray.size)).all (fun _ => true) && vs.toArray.size == us.toArray.size)) = false := by
    rw [all_true, List.size_toArray, List.size_toArray, len_of x y]; simp
  refine RcNeAt.tuples (e := fun _ => true) (N.isTup m1) (N.isTup m2) (by omega) (eqAt_all x y) _ w E Q ?_
  rw [e]; exact h
/-- three things told, and told again -/
theorem ne_three {v r : Array UInt8} {t1 t2 t3 t4 : Tok} (N : News h₀ L s.heap news) (m1 : (a, tup [.bytes v t1, .ref a2, .bytes r t2]) ∈ news) (m2 : (b, tup [.bytes v t3, .ref b2, .bytes r t4]) ∈ news) (m3 : (a2, tup vs) ∈ news) (m4 : (b2, tup us) ∈ news)
    (x : BytesAre vs bs) (y : BytesAre us bs) (hne : a2 ≠ b2) (hu : A.units + 10 < cLine) (h : Q (.bool false) s) :
    wpAny (model Challenge.rw_bi0032_01.row.prog w) A (compareOp .NotEq (.ref a) (.ref b)) Q E s := by
  have e : ((List.range (min vs.toArray.size us.toArray.size)).all (fun _ => true) && vs.toArray.size == us.toArray.size) = true := by
    rw [all_true, List.size_toArray, List.size_toArray, len_of x y]; simp
  have hb : EqAt A.in1 s (.ref a2) (.ref b2) true := by
    have := RcAt.tuples (A := A.in1) (e := fun _ => true) (N.isTup m3) (N.isTup m4) (by show A.units + 1 < _; omega) (eqAt_all x y)
    rw [e] at this
    exact EqAt.of_refs hne this
  have hall : ∀ j (h1 : j < ([.bytes v t1, .ref a2, .bytes r t2] : List Value).toArray.size) (h2 : j < ([.bytes v t3, .ref b2, .bytes r t4] : List Value).toArray.size), EqAt A.in1 s ([.bytes v t1, .ref a2, .bytes r t2] : List Value).toArray[j] ([.bytes v t3, .ref b2, .bytes r t4] : List Value).toArray[j] true := fun j h1 h2 => by
    match j, h1, h2 with
    | 0, _, _ => exact eqAt_bytes _ _ _
    | 1, _, _ => exact hb
    | 2, _, _ => exact eqAt_bytes _ _ _
    | n + 3, h1, _ => exact absurd h1 (by show ¬ n + 3 < 3; omega)
  refine RcNeAt.tuples (e := fun _ => true) (N.isTup m1) (N.isTup m2) (by omega) hall _ w E Q ?_
  exact h
end
end Mine
theorem Mine.freshEq : True ∧ True := by w_top off; first | (walk1; all_goals trivial) | exact ⟨trivial, trivial⟩
-- part TupS
namespace Mine
open PySem PySem.W PyProof.Rows PySem.Calls
theorem adjust_upto (b n : Nat) : Builtin.Slice.sliceAdjust none (some (b : Int)) 1 (n : Int) = ((0 : Int), ((min b n : Nat) : Int)) := by
  unfold Builtin.Slice.sliceAdjust
  have h1 : ¬ ((1 : Int) < 0) := by omega
  have h2 : ¬ ((b : Int) < 0) := by omega
  simp only [h1, h2, if_false]
  congr 1
  omega
theorem places_upto (b : Nat) : Builtin.Slice.slicePlaces (0 : Int) (b : Int) 1 = b := by
  unfold Builtin.Slice.slicePlaces
  have h1 : (1 : Int) > 0 := by omega
  simp only [h1, if_true, Int.ediv_one]
  split <;> omega
section
variable {prog : Program} {w : World} {A : Around} {E : Value → Shared → Prop} {s : Shared} {h₀ : Heap} {L : Addr} {m : Str → Option Value} {news : List (Addr × Obj)}
theorem sliceApplied_upto {sl : Addr} {b n : Nat} {u : Tok} {Q : Int × Int × Nat → Shared → Prop} (hs : s.heap.IsSliceOf sl .none (.int b u) .none) (h : Q ((0 : Int), 1, min b n) s) :
    wpAny (model prog w) A (Builtin.Slice.sliceApplied (.ref sl) (pure (n : Int))) Q E s := by
  obtain ⟨os, hos, hcs, hds⟩ := id hs
  unfold Builtin.Slice.sliceApplied Builtin.Slice.sliceFields
  refine wpAny_bind (wpAny_bind (wpAny_field hos hds (x := .none) rfl (wpAny_bind (wpAny_field hos hds (x := .int b u) rfl (wpAny_bind (wpAny_field hos hds (x := .none) rfl (wpAny_pure ?_)))))))
  refine wpAny_bind (slicePart_none ?_)
  show wpAny _ _ (if ((1 : Int) == 0) = true then _ else _) _ _ s
  rw [if_neg (by decide)]
  refine wpAny_bind (slicePart_none (wpAny_bind (slicePart_int (wpAny_bind (wpAny_pure ?_)))))
  show wpAny _ _ (match Builtin.Slice.sliceAdjust none (some (b : Int)) 1 (n : Int) with | (lo, hi) => pure (lo, (1 : Int), Builtin.Slice.slicePlaces lo hi 1)) _ _ s
  rw [adjust_upto b n]
  show wpAny _ _ (pure ((0 : Int), (1 : Int), Builtin.Slice.slicePlaces (0 : Int) ((min b n : Nat) : Int) 1)) _ _ s
  rw [places_upto]
  exact wpAny_pure h
theorem pick_upto (xs : List Value) (b : Nat) (_hb : b ≤ xs.length) : ((List.range b).filterMap fun (k : Nat) => xs.toArray[((0 : Int) + (k : Int) * 1).toNat]?) = xs.take b := by
  have e : (fun (k : Nat) => xs.toArray[((0 : Int) + (k : Int) * 1).toNat]?) = fun k => xs[k]? := by
    funext k
    have : ((0 : Int) + (k : Int) * 1).toNat = k := by omega
    rw [this, List.getElem?_toArray]
  rw [e]
  induction b with
  | zero => rfl
  | succ b ih =>
    rw [List.range_succ, List.filterMap_append, ih (by omega), List.take_succ]
    congr 1
theorem getItem_tuple_upto {t sl : Addr} {us : List Value} {b : Nat} {u : Tok} {Q : Value → Shared → Prop} (ht : IsTup s.heap t us.toArray) (hs : s.heap.IsSliceOf sl .none (.int b u) .none) (hsz : us.length ≤ 1000)
    (h1 : b < us.length → Q (.ref s.heap.objs.size) { s with heap := s.heap.push (tup (us.take b)) }) (h2 : us.length ≤ b → Q (.ref t) s) : wpAny (model prog w) A (getItem (.ref t) (.ref sl)) Q E s := by
  obtain ⟨os, hos, hcs, hds⟩ := id hs
  have hTs : s.TypeIs (.ref sl) "slice" := ⟨os, hos, hcs⟩
  unfold getItem
  try with_reducible refine wpAny_holding ?_
  first | refine wpAny_bind (wpAny_pure ?_) | skip
  refine wpAny_bind (wpAny_sequenceKey ht.typeIs (by decide) ?_)
  refine wpAny_bind (wpAny_callSpecial?_slot (name := Str.ofString "__getitem__") ht.typeIs slot_tuple_getitem
    (wpAny_call_entry slot_tuple_getitem ht.typeIs entry_tuple_getitem ?_ (args_tuple_getitem _ _)))
  show wpAny _ _ (Builtin.Tuple.tupleItemsOf (.ref t) >>= _) _ _ s
  refine wpAny_bind (tupleItemsOf_ ht ?_)
  refine wpAny_bind (wpAny_typeOf hTs ?_)
  rw [if_pos (by decide)]
  refine wpAny_bind (sliceApplied_upto hs ?_)
  show wpAny _ _ (if ((0 : Int) == 0 && (1 : Int) == 1 && (min b us.toArray.size) == us.toArray.size) = true then _ else _) _ _ s
  rw [List.size_toArray]
  rcases Nat.lt_or_ge b us.length with hlt | hge
  · have hno : ¬ (((0 : Int) == 0 && (1 : Int) == 1 && (min b us.length) == us.length) = true) := by
      have : (min b us.length == us.length) = false := by rw [beq_eq_false_iff_ne]; omega
      rw [this]; simp
    rw [if_neg hno]
    have e : min b us.length = b := by omega
    rw [e, pick_upto us b (by omega)]
    have hdrop : sizeOk (.seq (us.take b).toArray) := by
      show (us.take b).toArray.size ≤ sizeLine
      rw [List.size_toArray, List.length_take, sizeLine_eq]
      omega
    first
      | exact wpAny_bind (m := Builtin.Tuple.tupleExact _) (wpAny_newObj_type (wpAny_pure ⟨_, rfl, wpAny_pure (h1 hlt)⟩) hdrop)
      | exact wpAny_bind (m := Builtin.Tuple.tupleExact _) (wpAny_newObj_type (wpAny_bind (wpAny_pure (wpAny_pure ⟨_, rfl, wpAny_pure (h1 hlt)⟩))) hdrop)
      | exact wpAny_bind (wpAny_bind (m := Builtin.Tuple.tupleExact _) (wpAny_newObj_type (wpAny_pure (wpAny_pure ⟨_, rfl, wpAny_pure (h1 hlt)⟩)) hdrop))
      | exact wpAny_bind (wpAny_bind (m := Builtin.Tuple.tupleExact _) (wpAny_newObj_type (wpAny_pure ⟨_, rfl, wpAny_pure (h1 hlt)⟩) hdrop))
  · have hyes : (((0 : Int) == 0 && (1 : Int) == 1 && (min b us.length) == us.length) = true) := by
      have : (min b us.length == us.length) = true := by rw [beq_iff_eq]; omega
      rw [this]; rfl
    rw [if_pos hyes]
    refine wpAny_bind (m := Builtin.Tuple.tupleIsExact (.ref t)) ?_
    unfold Builtin.Tuple.tupleIsExact
    refine wpAny_bind (wpAny_typeOf ht.typeIs ?_)
    refine wpAny_pure ?_
    rw [if_pos (by decide)]
    refine wpAny_bind (wpAny_rule ?_)
    first
      | exact wpAny_pure ⟨_, rfl, wpAny_pure (h2 hge)⟩
      | exact wpAny_bind (wpAny_pure (wpAny_pure ⟨_, rfl, wpAny_pure (h2 hge)⟩))
      | exact wpAny_pure (wpAny_pure ⟨_, rfl, wpAny_pure (h2 hge)⟩)
theorem tup_upto {value slice : PySem.Expr} {t : Addr} {us : List Value} {b : Nat} {k : Int} {u : Tok} {Q : Value → Shared → Prop}
    (F : Fr h₀ L s.heap m) (N : News h₀ L s.heap news) (hm : (t, tup us) ∈ news) (hsz : us.length ≤ 1000) (hk : k = (b : Int))
    (h1 : b < us.length → ∀ D h', Fr h₀ L h' m → News h₀ L h' ((D, tup (us.take b)) :: news) → (∀ p ∈ news, p.1 < D) → Q (.ref D) { s with heap := h' })
    (h2 : us.length ≤ b → ∀ h', Fr h₀ L h' m → News h₀ L h' news → Q (.ref t) { s with heap := h' })
    (hs : subscripted slice false (.ref t) (.ref s.heap.objs.size) = operate [.ref s.heap.objs.size, .ref t] (getItem (.ref t) (.ref s.heap.objs.size)) := by with_unfolding_all rfl)
    (hg : ∀ r, letTemporaryGo value (.ref t) r = pure () := by intro _; with_unfolding_all rfl) :
    wpAny (model prog w) A (subscriptTail value slice (.ref t) (.ref s.heap.objs.size)) Q E { s with heap := s.heap.push { cls := .type "slice", data := .fields #[.none, .int k u, .none] } } := by
  subst hk
  have ht := N.isTup hm
  have ht' : IsTup (s.heap.push { cls := .type "slice", data := .fields #[.none, .int b u, .none] }) t us.toArray := ht.keeps fun _ _ e => Heap.get?_push_of_some _ e
  have NG := N.grown (h' := s.heap.push { cls := .type "slice", data := .fields #[.none, .int b u, .none] }) fun _ _ e => Heap.get?_push_of_some _ e
  refine subscriptTail_ops (s := { s with heap := s.heap.push { cls := .type "slice", data := .fields #[.none, .int b u, .none] } }) ht'.typeIs slot_tuple_getitem.lookup
    (getItem_tuple_upto ht' (Heap.IsSliceOf.new ..) hsz (fun hb => ?_) (fun hb => h2 hb _ (F.push _) NG)) hs hg
  have N1 := News.push (F.push { cls := .type "slice", data := .fields #[.none, .int b u, .none] }) NG (tup (us.take b))
  exact h1 hb _ _ ((F.push _).push _) N1 fun p hp => Heap.lt_size (NG p hp).1
theorem list_item {value slice : PySem.Expr} {l : Addr} {kvs : List Value} {c i : Nat} {k : Int} {u : Tok} {v : Value} {Q : Value → Shared → Prop} (N : News h₀ L s.heap news) (hm : (l, listOf kvs.toArray c) ∈ news) (hx : kvs[i]? = some v) (hk : k = (i : Int)) (hn : kvs.length ≤ 1000) (h : Q v s)
    (hs : subscripted slice false (.ref l) (.int k u) = operate [.ref l, .int k u] (getItem (.ref l) (.int k u)) := by with_unfolding_all rfl) : wpAny (model prog w) A (subscriptTail value slice (.ref l) (.int k u)) Q E s := by
  subst hk
  have hi : i < kvs.length := by
    rcases Nat.lt_or_ge i kvs.length with q | q
    · exact q
    · rw [List.getElem?_eq_none q] at hx; cases hx
  have hl := N.isList hm
  exact tail_any hl.typeIs slot_list_getitem.lookup (wpAny_getItem_list (x := v) hl (by omega) (by omega) (by simpa using hx) h) hs
end
end Mine
theorem Mine.freshTupS : True ∧ True := by w_top off; first | (walk1; all_goals trivial) | exact ⟨trivial, trivial⟩
-- part Fly
namespace Mine
open PySem PySem.W PyProof.Rows PySem.Calls
/-- an exception without one before it -/
def C2 (e : Addr) (h : Heap) : Prop := ∃ oe vs, h.get? e = some oe ∧ oe.data = .fields vs ∧ vs[2]? = some Value.none
section
variable {M : Model} {A : Around} {E : Value → Shared → Prop} {s : Shared}
theorem entry2 {base : Heap} {env : Env} {outer : List Env} {L e : Addr} {oe : Obj} {vs : Array Value} {head a0 : Value} {hadNext : Bool} {Q : Unit → Shared → Prop}
    (hfr : A.frames = some (env :: outer)) (hl : s.heap.FunFrames base (env :: outer)) (hf : env.frame = some L)
    (he : s.heap.get? e = some oe) (hkb : base.StaysIn s.heap) (hen : base.get? e = none) (hd : oe.data = .fields vs) (hsz : 1 < vs.size) (h0 : vs[0]? = some a0) (h2 : vs[2]? = some Value.none)
    (h : ∀ h', Heap.NotedW base (env :: outer) e oe.cls a0 (rawInt L) s.heap h' → C2 e h' → Q () { s with heap := h' }) :
    wpAny M A (do let a ← frameOf env; let pl ← entryPlaceOf L hadNext; let b ← EntryCells.newEntry head a .none (rawInt L) .none pl; setField (.ref e) 1 b) Q E s := by
  have off : e ∉ (env :: outer).filterMap (·.frame) := fun hm => by
    obtain ⟨_, o, ho, hnf⟩ := hl.mem hm
    rw [he] at ho
    cases ho
    exact hnf vs hd
  refine wpAny_bind (wpAny_frameOf_fun hfr hl hf fun g₁ hs₁ => ?_)
  refine wpAny_bind (wpAny_entryPlaceOf fun pl hpl => ?_)
  unfold EntryCells.newEntry newFields
  refine wpAny_bind (wpAny_newObj_type ?_ (hpl.sizeOk5 _ _ _ _ _))
  have e₁ : g₁.get? e = some oe := (hs₁.2.1 e off).trans he
  have b₁ : base.StaysIn g₁ := fun b o hbo => (hs₁.2.1 b fun hm => by rw [(hl.mem hm).1] at hbo; cases hbo).trans (hkb b o hbo)
  generalize hT : ({ cls := .type "traceback", dict := none, data := .fields ([head, .ref L, .none, rawInt L, .none] ++ (if pl.isEmpty then List.replicate 6 Value.none else pl)).toArray } : Obj) = oT
  have hTd : ∃ ts, oT.data = .fields ts ∧ ts[3]? = some (rawInt L) := by
    rw [← hT]
    exact ⟨_, rfl, by first | (simp; done) | (rcases hpl with rfl | ⟨_, _, _, _, _, _, _, rfl⟩ <;> simp)⟩
  obtain ⟨ts, hTd, hT3⟩ := hTd
  have hTf : oT.isFreed = false := Obj.isFreed_of_fields hTd
  have e₂ : (g₁.push oT).get? e = some oe := Heap.get?_push_of_some _ e₁
  refine wpAny_setField e₂ hd hsz (h _ ?_ ?_)
  all_goals
    have hTe : g₁.objs.size ≠ e := Nat.ne_of_gt (Heap.lt_size e₁)
    have hd₃ := Obj.data_mapFields hd (·.setIfInBounds 1 (Value.ref g₁.objs.size))
    have e₃ := Heap.get?_update_self (Obj.mapFields (·.setIfInBounds 1 (Value.ref g₁.objs.size))) e₂ (Obj.isFreed_of_fields hd₃)
  · have T₃ := (Heap.get?_update_other (g₁.push oT) (Obj.mapFields (·.setIfInBounds 1 (Value.ref g₁.objs.size))) (Ne.symm hTe)).trans (Heap.get?_push_size g₁ hTf)
    have keep : ∀ b o, b ≠ e → g₁.get? b = some o → ((g₁.push oT).update e (Obj.mapFields (·.setIfInBounds 1 (Value.ref g₁.objs.size)))).get? b = some o := fun b o hbe hb => by
      rw [Heap.get?_update_other _ _ (Ne.symm hbe)]
      exact Heap.get?_push_of_some _ hb
    have apart : ∀ b o, s.heap.get? b = some o → (∀ vs, o.data ≠ .fields vs) → b ≠ e := fun b o hb hnf q => by
      rw [q, he] at hb
      cases hb
      exact hnf vs hd
    refine ⟨fun b o hbo => keep b o (fun q => by rw [q, hen] at hbo; cases hbo) (b₁ b o hbo), hl.of_keeps fun b o hb hnf => ?_, ?_, fun b o hb hnf => ?_⟩
    · obtain ⟨sl, hs⟩ := hs₁.2.2 b o hb
      exact ⟨_, keep b _ (apart b o hb hnf) hs, rfl⟩
    · exact ⟨_, _, g₁.objs.size, _, _, e₃, ⟨Obj.cls_mapFields _ _, by rw [Array.getElem?_setIfInBounds_ne (by decide)]; exact h0⟩, hd₃, by simp [hsz], b₁.fresh, hTe, T₃, hTd, hT3⟩
    · obtain ⟨sl, hs⟩ := hs₁.2.2 b o hb
      exact ⟨sl, keep b _ (apart b o hb hnf) hs⟩
  · exact ⟨_, _, e₃, hd₃, by rw [Array.getElem?_setIfInBounds_ne (by decide)]; exact h2⟩
theorem C2.of {e : Addr} {h : Heap} {oe : Obj} {vs : Array Value} (x : C2 e h) (he : h.get? e = some oe) (hd : oe.data = .fields vs) : vs[2]? = some Value.none := by
  obtain ⟨oe', vs', h1, h2, h3⟩ := x
  rw [he] at h1
  cases h1
  rw [hd] at h2
  cases h2
  exact h3
theorem flight2 {base : Heap} {l : List Env} {e : Addr} {cls a0 fl : Value} {Q : Unit → Shared → Prop}
    (hkb : base.StaysIn s.heap) (hl : s.heap.FunFrames base l) (ht : s.heap.TracedAtW base e cls a0 fl) (hc : C2 e s.heap)
    (h : ∀ h', base.StaysIn h' → h'.FunFrames base l → h'.TracedW base e cls a0 → C2 e h' → (∀ b o, s.heap.get? b = some o → (∀ vs, o.data ≠ .fields vs) → h'.get? b = some o) → Q () { s with heap := h' }) :
    wpAny M A (setFlight (.ref e) none) Q E s := by
  obtain ⟨oe, vs, T, oT, ts, he, hcls, hd, h1, hnT, hTe, hT, hdT, h3⟩ := ht
  have h2 := hc.of he hd
  have hsz3 : 3 < ts.size := (Array.getElem?_eq_some_iff.mp h3).1
  have other : ∀ b, b ≠ T → (s.heap.update T (Obj.mapFields (·.setIfInBounds 3 ((none : Option Addr).elim Value.none fun f => rawInt f)))).get? b = s.heap.get? b :=
    fun b hb => Heap.get?_update_other _ _ (Ne.symm hb)
  have apart : ∀ b o, s.heap.get? b = some o → (∀ vs, o.data ≠ .fields vs) → b ≠ T := fun b o hb hnf q => by
    rw [q, hT] at hb
    cases hb
    exact hnf ts hdT
  unfold setFlight
  refine wpAny_bind (wpAny_field he hd h1 ?_)
  rw [if_pos (show (Value.ref T != Value.none) = true from by simp)]
  have e3 := (other e (Ne.symm hTe)).trans he
  refine wpAny_setField hT hdT hsz3 (h _ (fun b o hbo => (other b fun q => by rw [q, hnT] at hbo; cases hbo).trans (hkb b o hbo))
    (hl.of_keeps fun b o hb hnf => ⟨o, (other b (apart b o hb hnf)).trans hb, rfl⟩) ?_ ⟨oe, vs, e3, hd, h2⟩ fun b o hb hnf => (other b (apart b o hb hnf)).trans hb)
  exact ⟨oe, vs, T, _, _, e3, hcls, hd, h1, hnT, hTe, Heap.get?_update_self _ hT (Obj.isFreed_of_fields (Obj.data_mapFields hdT _)), Obj.data_mapFields hdT _, by simp [hsz3]⟩
theorem note2 {base : Heap} {env : Env} {outer : List Env} {L e : Addr} {cls a0 : Value} {Q : Unit → Shared → Prop}
    (hfr : A.frames = some (env :: outer)) (hl : s.heap.FunFrames base (env :: outer)) (hf : env.frame = some L) (ht : s.heap.TracedW base e cls a0) (hc : C2 e s.heap) (hkb : base.StaysIn s.heap) (hen : base.get? e = none)
    (h : ∀ h', Heap.NotedW base (env :: outer) e cls a0 (rawInt L) s.heap h' → C2 e h' → Q () { s with heap := h' }) : wpAny M A (noteFrame (.ref e) env) Q E s := by
  obtain ⟨oe, vs, T, oT, ts, he, ⟨hcls, h0⟩, hd, h1, hnT, hTe, hT, hdT, h3⟩ := ht
  subst hcls
  have h2 := hc.of he hd
  unfold noteFrame
  simp only [hf]
  refine wpAny_bind (wpAny_field he hd h1 ?_)
  rw [if_pos (show (Value.ref T != Value.none) = true from by simp)]
  refine wpAny_bind (wpAny_field hT hdT h3 ?_)
  rw [if_neg (show ¬ ((Value.none == rawInt L) = true) from by simp [rawInt])]
  refine wpAny_bind (wpAny_setField hT hdT (Array.getElem?_eq_some_iff.mp h3).1 ?_)
  have other : ∀ b, b ≠ T → (s.heap.update T (Obj.mapFields (·.setIfInBounds 3 Value.none))).get? b = s.heap.get? b := fun b hb => Heap.get?_update_other _ _ (Ne.symm hb)
  have apart : ∀ b o, s.heap.get? b = some o → (∀ vs, o.data ≠ .fields vs) → b ≠ T := fun b o hb hnf q => by
    rw [q, hT] at hb
    cases hb
    exact hnf ts hdT
  refine entry2 hfr (hl.of_keeps fun b o hb hnf => ⟨o, (other b (apart b o hb hnf)).trans hb, rfl⟩) hf ((other e (Ne.symm hTe)).trans he)
    (fun b o hbo => (other b fun q => by rw [q, hnT] at hbo; cases hbo).trans (hkb b o hbo)) hen hd (Array.getElem?_eq_some_iff.mp h1).1 h0 h2
    fun h' ⟨x1, x2, x3, x4⟩ x5 => h h' ⟨x1, x2, x3, fun b o hb hnf => x4 b o ((other b (apart b o hb hnf)).trans hb) hnf⟩ x5
theorem leave_first2 {base : Heap} {env : Env} {outer : List Env} {L e : Addr} {oe : Obj} {vs : Array Value} {a0 : Value} {Q : Unit → Shared → Prop}
    (hfr : A.frames = some (env :: outer)) (hl : s.heap.FunFrames base (env :: outer)) (hf : env.frame = some L)
    (he : s.heap.get? e = some oe) (hkb : base.StaysIn s.heap) (hen : base.get? e = none) (hd : oe.data = .fields vs) (h1 : vs[1]? = some .none) (h0 : vs[0]? = some a0) (h2 : vs[2]? = some .none)
    (h : ∀ h', Heap.LeftW base (env :: outer) e oe.cls a0 s.heap h' → C2 e h' → Q () { s with heap := h' }) : wpAny M A (leaving env (.ref e)) Q E s := by
  unfold leaving noteFrame
  simp only [hf]
  refine wpAny_bind (wpAny_bind (wpAny_field he hd h1 ?_))
  rw [if_neg (by decide)]
  refine entry2 hfr hl hf he hkb hen hd (Array.getElem?_eq_some_iff.mp h1).1 h0 h2 fun g₁ ⟨x1, x2, x3, x4⟩ x5 => ?_
  refine flight2 (s := { s with heap := g₁ }) x1 x2 x3 x5 fun g₂ y1 y2 y3 y4 y5 => h g₂ ⟨y1, y2, y3, fun b o hb hnf => ?_⟩ y4
  obtain ⟨sl, hs⟩ := x4 b o hb hnf
  exact ⟨sl, y5 b _ hs hnf⟩
end
end Mine
theorem Mine.freshFly : True ∧ True := by w_top off; first | (walk1; all_goals trivial) | exact ⟨trivial, trivial⟩
-- part Caught
namespace Mine
open PySem PySem.W PyProof.Rows PySem.Calls
section
variable {M : Model} {A : Around} {E : Value → Shared → Prop} {s' : Shared} {base g h : Heap} {outer : List Env} {L a e : Addr} {m : Str → Option Value} {name : Str} {scope : Scope} {cd : Value} {Q : Unit → Shared → Prop} {news : List (Addr × Obj)}
theorem leave_raise2 {cls : Value} {vs : List Value} (K : Below A base outer g) (hx : Heap.MadeExcOf h s'.heap e cls vs) (F : Fr g L h m) (N : News g L h news)
    (hQ : ∀ h' t, RaisedK base outer e cls t vs news h' → C2 e h' → g.UpToSlots h' → Q () { s' with heap := h' }) (hk : scope.kind = .function := by rfl) :
    wpAny M (A.deeper (envOf name scope L a cd)) (leaving (envOf name scope L a cd) (.ref e)) Q E s' := by
  have K' := K.push (name := name) (a := a) (cd := cd) F hk
  have hin : ∀ env ∈ (envOf name scope L a cd :: outer), ∀ b, env.frame = some b → b ∈ (envOf name scope L a cd :: outer).filterMap (·.frame) := fun env he b hb => List.mem_filterMap.mpr ⟨env, he, hb⟩
  generalize hB : hideAll h ((envOf name scope L a cd :: outer).filterMap (·.frame)) = B
  have st : base.StaysIn B := fun b o q => by
    rw [← hB]
    refine hideAll_get _ (K'.stays b o q) fun hm => ?_
    rw [(K'.frames.mem hm).1] at q
    cases q
  have off : ∀ q ∈ news, B.get? q.1 = some q.2 ∧ base.get? q.1 = none := fun q hq => by
    refine ⟨?_, fresh_of_stays K.stays (N q hq).2.2⟩
    rw [← hB]
    refine hideAll_get _ (N q hq).1 fun hm => ?_
    obtain ⟨env, he, hf⟩ := List.mem_filterMap.mp hm
    rcases List.mem_cons.mp he with rfl | he
    · exact (N q hq).2.1 (Option.some.inj hf).symm
    · obtain ⟨o, ho, _⟩ := (K'.frames.mem hm).2
      have z := (K.frames.mem (List.mem_filterMap.mpr ⟨env, he, hf⟩)).2
      obtain ⟨o, ho, _⟩ := z
      rw [(N q hq).2.2] at ho
      cases ho
  have sub : ∀ b o, B.get? b = some o → h.get? b = some o := fun b o q => by rw [← hB] at q; exact of_hideAll _ q
  have fresh : ∀ b, h.get? b = none → B.get? b = none := fun b hb => by
    cases q : B.get? b with
    | none => rfl
    | some o => have := sub b o q; rw [hb] at this; cases this
  have fr : h.FunFrames B (envOf name scope L a cd :: outer) := by rw [← hB]; exact funFrames_hide K'.frames hin
  obtain ⟨t, he, htn, ht⟩ := hx.there
  refine leave_first2 (base := B) (a0 := .ref t) K'.stack (fr.of_keeps fun b o hb _ => ⟨o, hx.keeps b o hb, rfl⟩) rfl he (fun b o hb => hx.keeps b o (sub b o hb)) (fresh e hx.new) rfl rfl rfl rfl fun h' hL hc => ?_
  obtain ⟨k1, ⟨_, _, k2⟩, k3, k4⟩ := hL
  exact hQ h' t ⟨⟨B, st, off, ⟨k1, fresh e hx.new, k2, k3⟩, fresh t htn⟩, Heap.TupAt.of_slots ⟨_, _, ht, rfl, rfl⟩ k4⟩ hc (((Heap.UpToSlots.of_keeps F.keep).trans (Heap.UpToSlots.of_keeps hx.keeps)).trans k4)
end
section
variable {prog : Program} {w : World} {A₀ : Around} {E : Value → Shared → Prop} {s' : Shared} {h₀ h : Heap} {outer : List Env} {L a e t : Addr} {m : Str → Option Value} {name : Str} {scope : Scope} {cd : Value}
  {vs : List Value} {b₀ : Stmt} {suite : List Stmt} {pos np : Pos} {rest : List ExceptHandler} {Q : Flow → Shared → Prop} {news : List (Addr × Obj)} {KF : Frag} {C : Addr} {bmB : List Value} {newId : String}
  {p : Program} {loose : List Str} {mean : ExcName → Option Value} {mg mb : Str → Option Value} {x : Str}
/-- an exception without one before it, as an object -/
def ExcO (o : Obj) : Prop := ∃ vs, o.data = .fields vs ∧ vs[2]? = some Value.none
theorem ExcO.hok {o : Obj} {e : Addr} {h h₀ : Heap} {L : Addr} {news : List (Addr × Obj)} (x : ExcO o) (N : News h₀ L h news) (m : (e, o) ∈ news) : HOk (some (.ref e)) h := let ⟨vs, h1, h2⟩ := x; .inr ⟨e, o, vs, rfl, (N _ m).1, h1, h2⟩
/-- the law's own frame, which has cells, takes an exception of an own class -/
theorem caught_law (K : Below A₀ h₀ outer h₀) (F : Fr h₀ L h m) (hsm : h.UpToSlots s'.heap) (R : RaisedK h₀ (envOfC name scope L a cd :: outer) e (.ref C) t vs news s'.heap) (hc : C2 e s'.heap)
    (X : KF.In h₀) (T : TopRead p loose mg mb h₀) (ex : nsIn KF mainGlobals x = some (some (.ref C))) (q : excIn KF C bmB newId = true) (hbase : bmB.contains (.type "BaseException") = true)
    (k : ∀ h' oe, Fr h₀ L h' m → News h₀ L h' ((e, oe) :: news) → ExcO oe → (∀ q ∈ news, q.1 ≠ e) →
      wpAny (model prog w) ((A₀.deeper (envOfC name scope L a cd)).mark (some (.ref e))) (execs (b₀ :: suite) (envOfC name scope L a cd)) Q E { s' with heap := h' })
    (hk : scope.kind = .function := by rfl) (hx : (envOfC name scope L a cd).kindOf x = some .globalImplicit := by rfl) (hd : (x == ("__debug__" : Str)) = false := by decide)
    (hE : PassesOwnAt (model prog w) ((A₀.deeper (envOfC name scope L a cd)).mark (some (.ref e))) (A₀.deeper (envOfC name scope L a cd)) (envOfC name scope L a cd) E := by passes_own) :
    wpAny (model prog w) (A₀.deeper (envOfC name scope L a cd)) (noteFrame (.ref e) (envOfC name scope L a cd))
      (fun _ s₂ => wpAny (model prog w) (A₀.deeper (envOfC name scope L a cd)) (setFlight (.ref e) none) (fun _ s₃ =>
        wpAny (model prog w) (A₀.deeper (envOfC name scope L a cd)) (handleBy (.ref e) (envOfC name scope L a cd) (.ExceptHandler (some (.Name x np)) none (b₀ :: suite) pos :: rest)) Q E s₃) E s₂) E s' := by
  obtain ⟨⟨B, hB, hl, hfl, hnew⟩, htup⟩ := R
  have hL : B.get? L = none := by
    obtain ⟨_, ⟨L', _, hf, hn', _⟩, _⟩ := hfl.2.2.1
    obtain rfl : L = L' := Option.some.inj hf
    exact hn'
  have up : ∀ {g : Heap}, h₀.StaysIn g → h.UpToSlots g → Fr h₀ L g m := fun k1 k2 => F.of_stays k1 k2
  obtain ⟨f1, f2, f3, f4⟩ := hfl
  refine note2 (Around.frames_deeper K.stack) f3 rfl f4 hc f1 f2 fun g₁ ⟨n1, n2, n3, n4⟩ c1 => ?_
  refine flight2 (s := { s' with heap := g₁ }) n1 n2 n3 c1 fun g₂ y1 y2 y3 c2 y5 => ?_
  have sm₂ : h.UpToSlots g₂ := hsm.trans (Heap.UpToSlots.trans (h₂ := g₁) n4 fun b o hb hn => ⟨o.slots, y5 b o hb hn⟩)
  have F₂ := up (fun b o z => y1 b o (hB b o z)) sm₂
  have fl₂ : Heap.FlyingW B (envOfC name scope L a cd :: outer) e (.ref C) (.ref t) g₂ := ⟨y1, f2, y2, y3⟩
  obtain ⟨ob, hob, hobc⟩ := (flyingW_base hB fl₂).there
  refine wpAny_handleBy_cons (codeAny_handlers_test (Calls.Name_function_global hk hx (Calls.loadGlobal_global (env := envOfC name scope L a cd) (T.g.keeps F₂.keep) (mg_of X T.g ex) ?_) hd)) (by intro q; cases q)
  obtain ⟨bm, N, nm, qn, bs, hdct, sn, sb, ab, col, dd, k0, k1, k2, k3, k5, mN, hC, hN, hni, TL⟩ := ((own_of_in X T ex q).keeps F₂.keep).obj
  refine wpAny_excMatches_sub_self hC hob hobc (TL.hasType hbase) (codeAny_handlers_suite ?_)
  refine flight2 (s := { s' with heap := g₂ }) y1 y2 y3.at c2 fun g₃ z1 z2 z3 c3 z5 => ?_
  have sm₃ : h.UpToSlots g₃ := sm₂.trans fun b o hb hn => ⟨o.slots, z5 b o hb hn⟩
  have F₃ := up (fun b o z => z1 b o (hB b o z)) sm₃
  have fl₃ : Heap.FlyingW h₀ (envOfC name scope L a cd :: outer) e (.ref C) (.ref t) g₃ := flyingW_base hB ⟨z1, f2, z2, z3⟩
  obtain ⟨oe, ws, hoe, hoec, hoed, hoe0⟩ := fl₃.first
  obtain ⟨ot, nt, hot, hotc, hotd⟩ := (htup.of_slots n4).of_slots (h' := g₃) fun b o hb hn => ⟨o.slots, z5 b o (y5 b o hb hn) hn⟩
  have N₃ := News.more F₃ (News.more F₃ News.nil hot (fun es n q => by rw [hotd] at q; cases q) (fresh_of_stays hB hnew)) hoe (fun es n q => by rw [hoed] at q; cases q) fl₃.2.1
  have hN : News h₀ L g₃ news := fun q hq => ⟨z1 _ _ (hl q hq).1, (fun z => by have := (hl q hq).1; rw [z, hL] at this; cases this), (hl q hq).2⟩
  obtain ⟨oe3, vs3, w1, w2, w3⟩ := c3
  rw [hoe] at w1
  cases w1
  exact wpAny_passesOwnAt hE (k g₃ oe F₃ (List.forall_mem_cons.mpr ⟨N₃ _ (.head _), hN⟩) ⟨vs3, w2, w3⟩ fun q hq z => by have := (hl q hq).1; rw [z, f2] at this; cases this)
end
end Mine
theorem Mine.freshCaught : True ∧ True := by w_top off; first | (walk1; all_goals trivial) | exact ⟨trivial, trivial⟩
-- part UpdR
namespace Mine
open PySem PySem.W PyProof.Rows PySem.Calls
section
variable {w : World} {p : Program} {loose : List Str} {mean : ExcName → Option Value} {mg mb : Str → Option Value} {A A₀ : Around} {base : Heap} {env : Env} {outer : List Env} {s : Shared} {h₀ : Heap} {L : Addr} {m : Str → Option Value} {R : List (Addr × Obj)}
  {P : Value → Shared → Prop} {Rz : Result → Shared → Prop} {name qual : Str} {params : Arguments} {body : List Stmt} {scope : Scope} {dV kV doc pm cdv ct oc : Value} {an od : Option Addr} {osl : Array (Option Value)} {f : Addr} {args : Args} {binds : List (Str × Value)}
/-- as call_subK, the caller's own ground at hand; the callee only raises -/
theorem call_raise (B : Below A₀ base outer h₀) (hA : A.frames = some (env :: outer)) (hf : env.frame = some L) (hke : env.scope.kind = .function) (F : Fr h₀ L s.heap m) (X : (hd.heap_39 w.params).In h₀) (T : Top p loose mean mg mb h₀) (N : News h₀ L s.heap R)
    (ho : (hd.heap_39 w.params).lookup f = some ⟨oc, od, .func (fnOf name qual params body scope dV kV doc pm an cdv ct), osl⟩) (hcd : codeIn (hd.heap_39 w.params) cdv qual = true) (hroom : A.depth < recursionLimit)
    (hbind : BindsTo s (fnOf name qual params body scope dV kV doc pm an cdv ct) args binds) (hloc : ∀ y ∈ binds, scope.names.lookup y.1 = some .local)
    (h : ∀ g L' h₁, Fr g L' h₁ (fun y => binds.reverse.lookup y) → News g L' h₁ R → Below A base (env :: outer) g → (hd.heap_39 w.params).In g → Top p loose mean mg mb g → Fr h₀ L g m →
      wpAny (model Challenge.rw_bi0032_01.row.prog w) (A.deeper (envOf qual scope L' f cdv)) (execs body (envOf qual scope L' f cdv))
        (fun _ _ => False)
        (fun e s' => wpAny (model Challenge.rw_bi0032_01.row.prog w) (A.deeper (envOf qual scope L' f cdv)) (leaving (envOf qual scope L' f cdv) e) (fun _ s'' => Rz (.error e) s'') (fun e' s'' => Rz (.error e') s'') s')
        { s with heap := h₁, toks := s.toks + binds.length })
    (hcell : ∀ x ∈ scope.names, x.2 ≠ .cell) (hco : scope.isCoroutine = false) (hgen : scope.isGenerator = false) (hk : scope.kind = .function) : codeAny (model Challenge.rw_bi0032_01.row.prog w) A (.call (.ref f) args) Rz s := by
  obtain ⟨FG, BG, st, _⟩ := groundX (R := Rz) B F N hA hf hke
  have hTg : Tch (R.map (·.1)) s.heap (hideAll s.heap (R.map (·.1))) := fun b o e n => hideAll_get _ e n
  have hoff := news_off N (R := R) fun _ h => h
  refine codeAny_call_def (fd := fnOf name qual params body scope dV kV doc pm an cdv ct) (body := body) (binds := binds) hroom ((X.keeps F.keep) _ _ ho) rfl (T.nolimit.keeps F.keep) (codeRec_of (X.keeps F.keep) hcd) rfl hbind hcell hloc (fun h₁ hns hk₁ => ?_) hco hgen hk
  exact wpAny_mono (h _ s.heap.objs.size h₁ ⟨hns, fun b o e => hk₁ b o (of_hideAll _ e), Nat.le_of_eq (hideAll_size _ _)⟩
    (fun p hp => ⟨hk₁ _ _ (N p hp).1, Nat.ne_of_lt (Heap.lt_size (N p hp).1), hideAll_none _ (List.mem_map_of_mem hp)⟩) BG (X.keeps st) (T.keeps st) (fr_tch F hTg hoff.1 hoff.2)) (fun fl s' hl => hl.elim) fun _ _ y => y
end
local macro_rules | `(tactic| k_room) => `(tactic| ((simp only [depth_under_make, depth_under_kw, depth_in1, depth_deeper, depth_caller]); (try dsimp only [AA] at *); omega))
local macro_rules | `(tactic| k_units) => `(tactic| ((simp only [units_in1, units_deeper, Around.mark_units, units_caller]); (try dsimp only [AA] at *); omega))
-- enter a def of the top with the ledger at hand
local macro_rules | `(tactic| walk_at "m_enter") => `(tactic| (
  refine' call_subK (by assumption) (by assumption) ?q9k1 ?q9k2 ?q9k3 ?q9k4 ?q9k5 ?_ ?q9k6 ?q9k7 ?q9k8 ?q9k9
  (case q9k1 => k_is)
  (case q9k2 => k_is)
  (case q9k3 => k_room)
  (case q9k4 => exact BindsTo.of_eq rfl)
  (case q9k5 => exact locs rfl)
  (case q9k6 => decide)
  (case q9k7 => exact rfl)
  (case q9k8 => exact rfl)
  (case q9k9 => exact rfl)))
-- the caller's context
local macro_rules | `(tactic| walk_at "m_cx") => `(tactic| k_dflt (
  refine' mkCx ?q9F ?q9B ?q9X ?q9T ?q9a ?q9b ?q9c
  (case q9F => k_asm)
  (case q9B => k_asm)
  (case q9X => k_asm)
  (case q9T => k_asm)
  (case q9a => exact rfl)
  (case q9b => exact rfl)
  (case q9c => exact rfl)))
local macro_rules | `(tactic| walk_at "m_depth") => `(tactic| ((simp only [depth_mark, depth_under_make, depth_under_kw, depth_in1, depth_deeper, depth_caller]); first | (dsimp only [AA]; omega) | omega | decide))
local macro_rules | `(tactic| walk_at "m_unit") => `(tactic| first | ((simp only [units_in1, units_deeper, Around.mark_units, units_caller]); first | (dsimp only [AA]; omega) | omega | decide) | exact Nat.le_of_ble_eq_true rfl)
local macro_rules | `(tactic| walk_at "call ref") => `(tactic| (k_here; first
  | ((with_reducible show wpAny _ _ (call (Value.ref 62) [Value.bytes _ _]) _ _ _); k_dflt (refine' vib_spec ?q9C ?q9d ?q9u ?q9N ?_); (case q9C => walk_at "m_cx"); (case q9d => walk_at "m_depth"); (case q9u => walk_at "m_unit"); (case q9N => k_asm); intro h' tk' F' N' _; (try k_sweep))
  | ((with_reducible show wpAny _ _ (call (Value.ref 35) [_, _]) _ _ _); k_dflt (refine' cast_spec ?q9C ?q9d ?q9u ?q9N ?_); (case q9C => walk_at "m_cx"); (case q9d => walk_at "m_depth"); (case q9u => walk_at "m_unit"); (case q9N => k_asm); intro h' tk' F' N' _; (try k_sweep))
  | ((with_reducible show wpAny _ _ (call (Value.ref 42) [Value.bytes _ _]) _ _ _); k_dflt (refine' toint_spec ?q9C ?q9d ?q9u ?q9N ?_); (case q9C => walk_at "m_cx"); (case q9d => walk_at "m_depth"); (case q9u => walk_at "m_unit"); (case q9N => k_asm); intro h' tk' t' F' N' _; (try k_sweep))
  | ((with_reducible show wpAny _ _ (call (Value.ref 69) [Value.bytes _ _, _]) _ _ _); k_dflt (refine' vlb_spec ?q9C ?q9d ?q9u ?q9N ?_); (case q9C => walk_at "m_cx"); (case q9d => walk_at "m_depth"); (case q9u => walk_at "m_unit"); (case q9N => k_asm); intro h' tk' F' N' _; (try k_sweep))
  | ((with_reducible show wpAny _ _ (call (Value.ref 69) [Value.ref _, _]) _ _ _); k_dflt (refine' vlt_spec ?q9C ?q9d ?q9u ?q9N ?q9t ?q9n ?_); (case q9C => walk_at "m_cx"); (case q9d => walk_at "m_depth"); (case q9u => walk_at "m_unit"); (case q9N => k_asm); (case q9t => exact IsTup.keeps (by assumption) (Fr.keep (by assumption))); (case q9n => assumption); intro h' tk' F' N' _; (try k_sweep))))
local macro_rules | `(tactic| walk_at "m_fn") => `(tactic| k_dflt (exact IsFnIn.at (by assumption) (AllAt.keeps (by assumption) (Fr.keep (by assumption)))))
local macro_rules | `(tactic| walk_at "m_all") => `(tactic| k_dflt (exact AllAt.keeps (by assumption) (Fr.keep (by assumption))))
local macro_rules | `(tactic| walk_at "FnAt") => `(tactic| walk_at "m_fn")
local macro_rules | `(tactic| walk_at "callWith ref") => `(tactic| (k_here; k_dflt (refine' callWith_F ?q9k1 ?_; (case q9k1 => walk_at "m_fn"))))
local macro_rules | `(tactic| walk_at "call ref") => `(tactic| (k_here; (with_reducible show wpAny _ _ (call (Value.ref _) [Value.bytes _ _]) _ _ _); k_dflt (refine' hash_use (by assumption) ?q9C ?q9d ?q9u ?q9N ?q9H ?q9U ?q9S ?q9l ?_); (case q9C => walk_at "m_cx"); (case q9d => walk_at "m_depth"); (case q9u => walk_at "m_unit"); (case q9N => k_asm); (case q9H => walk_at "m_all"); (case q9U => k_updF); (case q9S => k_asm); (case q9l => omega); intro h' oS' t' tk' F' N' hS' hl'; (try dsimp only at N'); (try k_sweep)))
local macro_rules | `(tactic| walk_at "binaryOp Add bytes bytes") => `(tactic| (k_here; (with_reducible show wpAny _ _ (binaryOp Operator.Add (Value.bytes _ _) (Value.bytes _ _)) _ _ _); (refine KBy.add_bytes (by omega) ?_); intro _ _))
local macro_rules | `(tactic| walk_at "call builtin:len") => `(tactic| (k_here; first
  | ((with_reducible show wpAny _ _ (call (Value.builtin "len") [Value.bytes _ _]) _ _ _); refine len_b1 ?_)
  | ((with_reducible show wpAny _ _ (call (Value.builtin "len") [Value.ref _]) _ _ _); refine len_tupB (by assumption) (by assumption) (by assumption) ?_)))

local macro_rules | `(tactic| walk_at "subscriptTail") => `(tactic| (k_here; (with_reducible show wpAny _ _ (subscriptTail _ _ (Value.ref _) (Value.bytes _ _)) _ _ _); k_dflt (refine' db_item ?q9N ?q9m ?q9D ?q9k ?_; (case q9N => k_asm); (case q9m => k_mem); (case q9D => k_asm); (case q9k => k_asm)); intro _ _))
local macro_rules | `(tactic| walk_at "subscriptTail") => `(tactic| (k_here; (with_reducible show wpAny _ _ (subscriptTail _ (Expr.Slice _ _ none _) (Value.bytes (_ ++ _) _) (Value.ref _)) _ _ _); (with_reducible rename Fr _ _ _ _ => F'); (with_reducible rename News _ _ _ _ => N'); k_dflt (first
  | (refine slice_lo (s := ⟨_, _, _, _, _⟩) F' N' (by assumption) (by assumption) ?_)
  | (refine slice_hi (s := ⟨_, _, _, _, _⟩) F' N' (by assumption) (by assumption) ?_)); intro _ _ _ F' N'; (try k_sweep)))
local macro_rules | `(tactic| walk_at "call builtin:list.append") => `(tactic| (k_here; (with_reducible show wpAny _ _ (call (Value.builtin _) [Value.ref _, _]) _ _ _); k_dflt (refine' append_L ?q9F ?q9N ?q9U ?_ ?q9z; (case q9F => k_asm); (case q9N => k_asm); (case q9U => k_updF); (case q9z => omega)); intro h' F' N'; (try dsimp only at N'); (try k_sweep)))
local macro_rules | `(tactic| walk_at "call type:tuple") => `(tactic| (k_here; (with_reducible show wpAny _ _ (call (Value.type "tuple") [Value.ref _]) _ _ _); k_dflt (refine' tuple_L ?q9F ?q9N ?q9m ?q9z ?_; (case q9F => k_asm); (case q9N => k_asm); (case q9m => k_mem); (case q9z => omega)); intro D' h' F' N' l1; (try k_lt l1); (try k_sweep)))

local macro_rules | `(tactic| walk_at "call type:tuple") => `(tactic| (k_here; (with_reducible show wpAny _ _ (call (Value.type "tuple") [Value.ref _]) _ _ _); k_dflt (refine' tuple_rev rfl ?q9F ?q9N ?q9I ?q9m ?q9z ?_; (case q9F => k_asm); (case q9N => k_asm); (case q9I => k_all); (case q9m => k_mem); (case q9z => omega)); intro D' h' tk' F' N' l1; (try k_lt l1); (try k_sweep)))
local macro_rules | `(tactic| walk_at "call type:reversed") => `(tactic| (k_here; (with_reducible show wpAny _ _ (call (Value.type "reversed") [Value.ref _]) _ _ _); k_dflt (first
  | (refine' rev_K ?q9F ?q9N ?q9t ?q9n ?_; (case q9F => k_asm); (case q9N => k_asm); (case q9t => assumption); (case q9n => assumption); intro D' h' tk' F' N' l1; (try k_lt l1); (try k_sweep))
  | (refine' rev_KN ?q9F ?q9N ?q9m ?q9n ?_; (case q9F => k_asm); (case q9N => k_asm); (case q9m => k_mem); (case q9n => assumption); intro D' h' tk' F' N' l1; (try k_lt l1); (try k_sweep))
  | (refine' revL_K ?q9F ?q9N ?q9m ?_; (case q9F => k_asm); (case q9N => k_asm); (case q9m => k_mem); intro D' h' F' N' l1; (try k_lt l1); (try k_sweep)))))
local macro_rules | `(tactic| walk_at "setItem ref bytes") => `(tactic| (k_here; k_dflt (refine' db_set ?q9F ?q9N ?q9U ?q9D ?q9n ?_; (case q9F => k_asm); (case q9N => k_asm); (case q9U => k_updF); (case q9D => k_asm); (case q9n => omega)); intro h' o' F' N' hD'; (try dsimp only at N'); (try k_sweep)))
local macro_rules | `(tactic| walk_at "call ref") => `(tactic| (k_here; (with_reducible show wpAny _ _ (call (Value.ref 183) [Value.ref _, Value.bytes _ _]) _ _ _); k_dflt (refine' get_spec ?q9C ?q9d ?q9u rfl ?q9N ?q9m1 ?q9m2 ?q9m3 ?q9T ?q9D ?q9W ?_; (case q9C => walk_at "m_cx"); (case q9d => walk_at "m_depth"); (case q9u => walk_at "m_unit"); (case q9N => k_asm); (case q9m1 => k_mem); (case q9m2 => k_mem); (case q9T => first | assumption | exact ⟨_, _, _, _, _, _, _, _, _, _, rfl⟩); (case q9m3 => k_mem); (case q9D => assumption); (case q9W => assumption)); intro h' Dt Db vs' tv tk' F' N' n1 n2 n3 K' hvs' hvl'; (replace n1 := allNe_of n1); (simp only [AllNe, and_true] at n1); (replace n2 := allNe_of n2); (simp only [AllNe, and_true] at n2); (try k_sweep)))

local macro_rules | `(tactic| walk_at "call builtin:list.insert") => `(tactic| (k_here; (with_reducible show wpAny _ _ (call (Value.builtin _) [Value.ref _, _, _]) _ _ _); k_dflt (refine' insert0_L ?q9F ?q9N ?q9U ?q9z ?_; (case q9F => k_asm); (case q9N => k_asm); (case q9U => k_updF); (case q9z => omega)); intro h' F' N'; (try dsimp only at N'); (try k_sweep)))

local macro_rules | `(tactic| walk_at "pyIter ref") => `(tactic| (k_here; refine Stop.intro ?_))
local macro_rules | `(tactic| walk_at "call type:reversed") => `(tactic| (k_here; (with_reducible show wpAny _ _ (call (Value.type "reversed") [Value.ref _]) _ _ _); k_dflt (refine' rev_rng ?F ?N ?t ?_; (case F => k_asm); (case N => k_asm); (case t => assumption); intro D' h' F' N' l1; (try k_lt l1); (try k_sweep))))
local macro_rules | `(tactic| walk_at "call builtin:len") => `(tactic| (k_here; (with_reducible show wpAny _ _ (call (Value.builtin "len") [Value.ref _]) _ _ _); k_dflt (refine' len_tupN ?N ?m ?n ?_; (case N => k_asm); (case m => k_mem); (case n => omega))))
local macro_rules | `(tactic| walk_at "subscriptTail") => `(tactic| (k_here; (with_reducible show wpAny _ _ (subscriptTail _ _ (Value.ref _) (Value.int _ _)) _ _ _); k_dflt (refine' tup_item ?N ?m ?n ?k ?x ?_; (case N => k_asm); (case m => k_mem); (case n => omega); (case x => assumption); (case k => omega))))
local macro_rules | `(tactic| walk_at "setItem ref int") => `(tactic| (k_here; k_dflt (refine' list_put ?F ?N ?U ?x ?k ?i ?n ?_; (case F => k_asm); (case N => k_asm); (case U => k_updF); (case x => assumption); (case k => omega); (case i => omega); (case n => omega)); intro h' F' N'; (try dsimp only at N'); (try k_sweep)))
local macro_rules | `(tactic| walk_at "leaving ref") => `(tactic| (k_here; refine Stop.intro ?_))
theorem RaisedK.sub {base : Heap} {l : List Env} {e t : Addr} {cls : Value} {vs : List Value} {news news' : List (Addr × Obj)} {h : Heap} (R : RaisedK base l e cls t vs news h) (hs : ∀ q ∈ news', q ∈ news) : RaisedK base l e cls t vs news' h := by
  obtain ⟨⟨B, h1, h2, h3, h4⟩, h5⟩ := R
  exact ⟨⟨B, h1, fun q hq => h2 q (hs q hq), h3, h4⟩, h5⟩
def JUpR (vs : List Value) (c : Nat) (x dx : Addr) (od : Obj) (lb tb : Addr) (us : List Value) (kb pb : UInt8) (news : List (Addr × Obj)) (m₀ : Str → Option Value) (i : Nat) (m : Str → Option Value) (nx : List (Addr × Obj)) : Prop :=
  ∃ u1, (∀ j, j < i → ¬ (0 < Builtin.bitAnd (Builtin.bitXor kb.toNat pb.toNat) (2 ^ (7 - j)))) ∧ nx = (lb, listOf vs.toArray c) :: (dx, od) :: (x, instObj 132 dx) :: (tb, tup us) :: news ∧ m = ovr m₀ [(Str.ofString "bit", u1)]
section
variable {w : World} {p : Program} {loose : List Str} {mean : ExcName → Option Value} {mg mb : Str → Option Value} {f x dx lb tb : Addr} {od : Obj}
    {A A₀ : Around} {env : Env} {outer : List Env} {s : Shared} {h₀ : Heap} {L : Addr} {m : Str → Option Value} {Q E : Value → Shared → Prop} {kb pb : UInt8} {tk tv : Tok} {val value : Array UInt8} {vs us : List Value} {c : Nat} {news : List (Addr × Obj)}
/-- update(..), not deep enough -/
theorem upd_raise (B : Below A₀ h₀ outer h₀) (hA : A.frames = some (env :: outer)) (hf : env.frame = some L) (hke : env.scope.kind = .function) (F : Fr h₀ L s.heap m) (X : (hd.heap_39 w.params).In h₀) (T : Top p loose mean mg mb h₀)
    (hdp : A.depth + 25 < recursionLimit) (hun : A.units + 250 < cLine) (hh : A.handled = none)
    (Nn : News h₀ L s.heap news) (m1 : (x, instObj 132 dx) ∈ news) (m2 : (tb, tup us) ∈ news) (m3 : (dx, od) ∈ news) (m4 : (lb, listOf vs.toArray c) ∈ news) (ne1 : @Ne Nat dx x) (ne2 : @Ne Nat lb dx) (ne3 : @Ne Nat x tb) (ne4 : @Ne Nat lb x) (ne5 : @Ne Nat lb tb) (ne6 : @Ne Nat dx tb)
    (hT : OwnD w f lb kb val od) (hvs : vs.length = 8) (hus : us.length ≤ 8) (hne : kb ≠ pb) (hshort : us.length ≤ part kb.toNat pb.toNat)
    (ret : ∀ g h' e t vs' tk', Fr h₀ L g m → g.UpToSlots h' → RaisedK h₀ (env :: outer) e (.ref 52) t vs' news h' → C2 e h' → E (.ref e) { s with heap := h', toks := tk' }) :
    wpAny (model Challenge.rw_bi0032_01.row.prog w) A (call (.ref 129) [.ref x, .bytes #[pb] tk, .bytes value tv, .ref tb]) Q E s := by
  obtain ⟨hnd, dp, fr, gd, un⟩ := A
  dsimp only at hdp hun hh hA
  subst hh
  subst hA
  have hk8 := UInt8.toNat_lt kb
  have hp8 := UInt8.toNat_lt pb
  obtain ⟨k1, k2, k3, k4, k5, k6, t1, t2, t3, t5, rfl⟩ := hT
  have N : News h₀ L s.heap ((lb, listOf vs.toArray c) :: (dx, _) :: (x, instObj 132 dx) :: (tb, tup us) :: news) := List.forall_mem_cons.mpr ⟨Nn _ m4, List.forall_mem_cons.mpr ⟨Nn _ m3, List.forall_mem_cons.mpr ⟨Nn _ m1, List.forall_mem_cons.mpr ⟨Nn _ m2, Nn⟩⟩⟩⟩
  have X0 := X; revert X; k_fill; intro X
  refine wpAny_call ?_
  refine' call_raise B rfl hf hke F X T N ?q9k1 ?q9k2 ?q9k3 ?q9k4 ?q9k5 ?q9h ?q9k6 ?q9k7 ?q9k8 ?q9k9
  case q9k1 => k_is
  case q9k2 => k_is
  case q9k3 => k_room
  case q9k4 => exact BindsTo.of_eq rfl
  case q9k5 => exact locs rfl
  case q9k6 => decide
  case q9k7 => exact rfl
  case q9k8 => exact rfl
  case q9k9 => exact rfl
  case q9h =>
  clear B F X T N Nn m1 m2 m3 m4
  intro g' L' h₁ F N B X T Fg
  (try dsimp only); (try k_fold)
  k_steps
  · rename Builtin.bitXor _ _ = 0 => hz
    exact absurd (UInt8.toNat_inj.mp (xor_zero_iff.mp hz)) hne
  · rename Builtin.bitXor _ _ ≠ 0 => hz
    refine Stop.out ?_
    refine' iter_rngDown (m₀ := ?m0) (JUpR vs c x dx _ lb tb us kb pb news ?m0) rfl ?F ?N ?I ?j ?turn ?done
    case F => k_asm
    case N => k_asm
    case I => k_all
    case j =>
      refine' ⟨_, fun j hj => absurd hj (Nat.not_lt_zero _), rfl, ?eqm⟩
      case eqm =>
      funext z
      by_cases h1 : z = Str.ofString "bit"; · subst h1; exact rfl
      simp only [ovr, h1, if_false]
    case turn =>
      intro i t m₁ nx h tk own hi hnx hown hJ F₁ N₁
      obtain ⟨u1, hup, rfl, rfl⟩ := hJ
      dsimp only [List.cons_append, List.nil_append] at N₁
      have epow : (1 : Int) * 2 ^ ((7 : Int) - (i : Int)).toNat = 2 ^ (7 - i) := by rw [Int.one_mul]; congr 1; omega
      refine wpAny_mono (Q := EndT (InvPostN _ _ _ _ _ _ _)) ?_ (fun _ _ x => x) (fun _ _ x => x)
      k_steps
      · rename 0 < Builtin.bitAnd _ _ => hb
        rw [epow] at hb
        have hpart := part_at hk8 hp8 hi hb hup
        rw [hpart] at hshort
        refine endBrk ?_
        (try dsimp only)
        k_steps
        refine Stop.out ?_
        (with_reducible rename Heap.MadeExcOf _ _ _ _ _ => hx)
        (with_reducible rename News _ _ _ _ => N9)
        (with_reducible rename Fr g' L' _ _ => F9)
        refine leave_raise2 B hx F9 N9 fun h2 t2 R2 c2 u2 => ?_
        refine ret _ _ _ _ _ _ Fg u2 (RaisedK.sub R2 fun q hq => ?_) c2
        first | exact .tail _ (.tail _ (.tail _ (.tail _ hq))) | exact .tail _ (.tail _ (.tail _ (.tail _ (.tail _ hq)))) | exact .tail _ (.tail _ (.tail _ (.tail _ (List.mem_append_left _ hq))))
      · rename ¬ 0 < Builtin.bitAnd _ _ => hb
        rw [epow] at hb
        refine' invEndL [] ((_ :: _ :: _ :: _ :: news)) own (.inl rfl) ⟨_, _, rfl⟩ (by assumption) (by assumption) ?a8 ⟨_, ?a2, rfl, ?a4⟩
        case a2 =>
          intro j hj
          rcases Nat.lt_or_ge j i with q | q
          · exact hup j q
          · have e : j = i := by omega
            rw [e]; exact hb
        case a4 =>
          funext z
          by_cases h1 : z = Str.ofString "bit"; · subst h1; exact rfl
          simp only [ovr, h1, if_false]
        case a8 => exact rfl
    case done =>
      intro m₁ nx h tk hJ F₁ N₁
      obtain ⟨u1, hup, rfl, rfl⟩ := hJ
      exact absurd (part_none hk8 hp8 hup) hz
end
end Mine
theorem Mine.freshUpdR : True ∧ True := by w_top off; first | (walk1; all_goals trivial) | exact ⟨trivial, trivial⟩
-- part LawS
namespace Mine
open PySem PySem.W PyProof.Rows PySem.Calls
local macro_rules | `(tactic| k_lt $h:ident) => `(tactic| skip)
local macro_rules | `(tactic| k_ne) => `(tactic| ((try dsimp only); first
  | (refine' ne_lt_l ?q9h ?q9m; (case q9h => with_reducible assumption); (case q9m => k_dflt k_mem))
  | (refine' ne_lt_r ?q9h ?q9m; (case q9h => with_reducible assumption); (case q9m => k_dflt k_mem))
  | (refine' ne_tr_l ?q9l ?q9h ?q9m; (case q9l => with_reducible assumption); (case q9h => with_reducible assumption); (case q9m => k_dflt k_mem))
  | (refine' ne_tr_r ?q9l ?q9h ?q9m; (case q9l => with_reducible assumption); (case q9h => with_reducible assumption); (case q9m => k_dflt k_mem))
  | (refine' ne_ne_l ?q9h ?q9m; (case q9h => with_reducible assumption); (case q9m => k_dflt k_mem))
  | (refine' ne_ne_r ?q9h ?q9m; (case q9h => with_reducible assumption); (case q9m => k_dflt k_mem))
  | (refine neN ?_; (try dsimp only); omega)))
local macro_rules | `(tactic| k_room) => `(tactic| ((simp only [depth_under_make, depth_under_kw, depth_in1, depth_deeper, depth_caller]); (try dsimp only [AA] at *); omega))
local macro_rules | `(tactic| k_units) => `(tactic| ((simp only [units_in1, units_deeper, Around.mark_units, units_caller]); (try dsimp only [AA] at *); omega))
-- enter a def of the top with the ledger at hand
local macro_rules | `(tactic| walk_at "m_enter") => `(tactic| (
  refine' call_subK (by assumption) (by assumption) ?q9k1 ?q9k2 ?q9k3 ?q9k4 ?q9k5 ?_ ?q9k6 ?q9k7 ?q9k8 ?q9k9
  (case q9k1 => k_is)
  (case q9k2 => k_is)
  (case q9k3 => k_room)
  (case q9k4 => exact BindsTo.of_eq rfl)
  (case q9k5 => exact locs rfl)
  (case q9k6 => decide)
  (case q9k7 => exact rfl)
  (case q9k8 => exact rfl)
  (case q9k9 => exact rfl)))
-- the caller's context
local macro_rules | `(tactic| walk_at "m_cx") => `(tactic| k_dflt (
  refine' mkCx ?q9F ?q9B ?q9X ?q9T ?q9a ?q9b ?q9c
  (case q9F => k_asm)
  (case q9B => k_asm)
  (case q9X => k_asm)
  (case q9T => k_asm)
  (case q9a => exact rfl)
  (case q9b => exact rfl)
  (case q9c => exact rfl)))
local macro_rules | `(tactic| walk_at "m_depth") => `(tactic| ((simp only [depth_mark, depth_under_make, depth_under_kw, depth_in1, depth_deeper, depth_caller]); first | (dsimp only [AA]; omega) | omega | decide))
local macro_rules | `(tactic| walk_at "m_unit") => `(tactic| first | ((simp only [units_in1, units_deeper, Around.mark_units, units_caller]); first | (dsimp only [AA]; omega) | omega | decide) | exact Nat.le_of_ble_eq_true rfl)
local macro_rules | `(tactic| walk_at "call ref") => `(tactic| (k_here; first
  | ((with_reducible show wpAny _ _ (call (Value.ref 62) [Value.bytes _ _]) _ _ _); k_dflt (refine' vib_spec ?q9C ?q9d ?q9u ?q9N ?_); (case q9C => walk_at "m_cx"); (case q9d => walk_at "m_depth"); (case q9u => walk_at "m_unit"); (case q9N => k_asm); intro h' tk' F' N' _; (try k_sweep))
  | ((with_reducible show wpAny _ _ (call (Value.ref 35) [_, _]) _ _ _); k_dflt (refine' cast_spec ?q9C ?q9d ?q9u ?q9N ?_); (case q9C => walk_at "m_cx"); (case q9d => walk_at "m_depth"); (case q9u => walk_at "m_unit"); (case q9N => k_asm); intro h' tk' F' N' _; (try k_sweep))
  | ((with_reducible show wpAny _ _ (call (Value.ref 42) [Value.bytes _ _]) _ _ _); k_dflt (refine' toint_spec ?q9C ?q9d ?q9u ?q9N ?_); (case q9C => walk_at "m_cx"); (case q9d => walk_at "m_depth"); (case q9u => walk_at "m_unit"); (case q9N => k_asm); intro h' tk' t' F' N' _; (try k_sweep))
  | ((with_reducible show wpAny _ _ (call (Value.ref 69) [Value.bytes _ _, _]) _ _ _); k_dflt (refine' vlb_spec ?q9C ?q9d ?q9u ?q9N ?_); (case q9C => walk_at "m_cx"); (case q9d => walk_at "m_depth"); (case q9u => walk_at "m_unit"); (case q9N => k_asm); intro h' tk' F' N' _; (try k_sweep))
  | ((with_reducible show wpAny _ _ (call (Value.ref 69) [Value.ref _, _]) _ _ _); k_dflt (refine' vlt_spec ?q9C ?q9d ?q9u ?q9N ?q9t ?q9n ?_); (case q9C => walk_at "m_cx"); (case q9d => walk_at "m_depth"); (case q9u => walk_at "m_unit"); (case q9N => k_asm); (case q9t => exact IsTup.keeps (by assumption) (Fr.keep (by assumption))); (case q9n => assumption); intro h' tk' F' N' _; (try k_sweep))))
local macro_rules | `(tactic| walk_at "m_fn") => `(tactic| k_dflt (exact IsFnIn.at (by assumption) (AllAt.keeps (by assumption) (Fr.keep (by assumption)))))
local macro_rules | `(tactic| walk_at "m_all") => `(tactic| k_dflt (exact AllAt.keeps (by assumption) (Fr.keep (by assumption))))
local macro_rules | `(tactic| walk_at "FnAt") => `(tactic| walk_at "m_fn")
local macro_rules | `(tactic| walk_at "callWith ref") => `(tactic| (k_here; k_dflt (refine' callWith_F ?q9k1 ?_; (case q9k1 => walk_at "m_fn"))))
local macro_rules | `(tactic| walk_at "call ref") => `(tactic| (k_here; (with_reducible show wpAny _ _ (call (Value.ref _) [Value.bytes _ _]) _ _ _); k_dflt (refine' hash_use (by assumption) ?q9C ?q9d ?q9u ?q9N ?q9H ?q9U ?q9S ?q9l ?_); (case q9C => walk_at "m_cx"); (case q9d => walk_at "m_depth"); (case q9u => walk_at "m_unit"); (case q9N => k_asm); (case q9H => walk_at "m_all"); (case q9U => k_updF); (case q9S => k_asm); (case q9l => omega); intro h' oS' t' tk' F' N' hS' hl'; (try dsimp only at N'); (try k_sweep)))
local macro_rules | `(tactic| walk_at "binaryOp Add bytes bytes") => `(tactic| (k_here; (with_reducible show wpAny _ _ (binaryOp Operator.Add (Value.bytes _ _) (Value.bytes _ _)) _ _ _); (refine KBy.add_bytes (by omega) ?_); intro _ _))
local macro_rules | `(tactic| walk_at "call builtin:len") => `(tactic| (k_here; first
  | ((with_reducible show wpAny _ _ (call (Value.builtin "len") [Value.bytes _ _]) _ _ _); refine len_b1 ?_)
  | ((with_reducible show wpAny _ _ (call (Value.builtin "len") [Value.ref _]) _ _ _); refine len_tupB (by assumption) (by assumption) (by assumption) ?_)))

local macro_rules | `(tactic| walk_at "subscriptTail") => `(tactic| (k_here; (with_reducible show wpAny _ _ (subscriptTail _ _ (Value.ref _) (Value.bytes _ _)) _ _ _); k_dflt (refine' db_item ?q9N ?q9m ?q9D ?q9k ?_; (case q9N => k_asm); (case q9m => k_mem); (case q9D => k_asm); (case q9k => k_asm)); intro _ _))
local macro_rules | `(tactic| walk_at "subscriptTail") => `(tactic| (k_here; (with_reducible show wpAny _ _ (subscriptTail _ (Expr.Slice _ _ none _) (Value.bytes (_ ++ _) _) (Value.ref _)) _ _ _); (with_reducible rename Fr _ _ _ _ => F'); (with_reducible rename News _ _ _ _ => N'); k_dflt (first
  | (refine slice_lo (s := ⟨_, _, _, _, _⟩) F' N' (by assumption) (by assumption) ?_)
  | (refine slice_hi (s := ⟨_, _, _, _, _⟩) F' N' (by assumption) (by assumption) ?_)); intro _ _ _ F' N'; (try k_sweep)))
local macro_rules | `(tactic| walk_at "call builtin:list.append") => `(tactic| (k_here; (with_reducible show wpAny _ _ (call (Value.builtin _) [Value.ref _, _]) _ _ _); k_dflt (refine' append_L ?q9F ?q9N ?q9U ?_ ?q9z; (case q9F => k_asm); (case q9N => k_asm); (case q9U => k_updF); (case q9z => first | omega | exact Nat.le_of_ble_eq_true rfl)); intro h' F' N'; (try dsimp only [List.nil_append, List.cons_append] at N'); (try k_sweep)))
local macro_rules | `(tactic| walk_at "call type:tuple") => `(tactic| (k_here; (with_reducible show wpAny _ _ (call (Value.type "tuple") [Value.ref _]) _ _ _); k_dflt (refine' tuple_L ?q9F ?q9N ?q9m ?q9z ?_; (case q9F => k_asm); (case q9N => k_asm); (case q9m => k_mem); (case q9z => omega)); intro D' h' F' N' l1; (try k_lt l1); (try k_sweep)))

local macro_rules | `(tactic| walk_at "call type:tuple") => `(tactic| (k_here; (with_reducible show wpAny _ _ (call (Value.type "tuple") [Value.ref _]) _ _ _); k_dflt (refine' tuple_rev rfl ?q9F ?q9N ?q9I ?q9m ?q9z ?_; (case q9F => k_asm); (case q9N => k_asm); (case q9I => k_all); (case q9m => k_mem); (case q9z => omega)); intro D' h' tk' F' N' l1; (try k_lt l1); (try k_sweep)))
local macro_rules | `(tactic| walk_at "call type:reversed") => `(tactic| (k_here; (with_reducible show wpAny _ _ (call (Value.type "reversed") [Value.ref _]) _ _ _); k_dflt (first
  | (refine' rev_K ?q9F ?q9N ?q9t ?q9n ?_; (case q9F => k_asm); (case q9N => k_asm); (case q9t => assumption); (case q9n => assumption); intro D' h' tk' F' N' l1; (try k_lt l1); (try k_sweep))
  | (refine' rev_KN ?q9F ?q9N ?q9m ?q9n ?_; (case q9F => k_asm); (case q9N => k_asm); (case q9m => k_mem); (case q9n => assumption); intro D' h' tk' F' N' l1; (try k_lt l1); (try k_sweep))
  | (refine' revL_K ?q9F ?q9N ?q9m ?_; (case q9F => k_asm); (case q9N => k_asm); (case q9m => k_mem); intro D' h' F' N' l1; (try k_lt l1); (try k_sweep)))))
local macro_rules | `(tactic| walk_at "setItem ref bytes") => `(tactic| (k_here; k_dflt (refine' db_set ?q9F ?q9N ?q9U ?q9D ?q9n ?_; (case q9F => k_asm); (case q9N => k_asm); (case q9U => k_updF); (case q9D => k_asm); (case q9n => omega)); intro h' o' F' N' hD'; (try dsimp only at N'); (try k_sweep)))
local macro_rules | `(tactic| walk_at "call ref") => `(tactic| (k_here; (with_reducible show wpAny _ _ (call (Value.ref 183) [Value.ref _, Value.bytes _ _]) _ _ _); k_dflt (refine' get_spec ?q9C ?q9d ?q9u rfl ?q9N ?q9m1 ?q9m2 ?q9m3 ?q9T ?q9D ?q9W ?_; (case q9C => walk_at "m_cx"); (case q9d => walk_at "m_depth"); (case q9u => walk_at "m_unit"); (case q9N => k_asm); (case q9m1 => k_mem); (case q9m2 => k_mem); (case q9T => first | assumption | exact ⟨_, _, _, _, _, _, _, _, _, _, rfl⟩); (case q9m3 => k_mem); (case q9D => assumption); (case q9W => assumption)); intro h' Dt Db vs' tv tk' F' N' n1 n2 n3 K' hvs' hvl'; (try k_sweep)))

local macro_rules | `(tactic| walk_at "call builtin:list.insert") => `(tactic| (k_here; (with_reducible show wpAny _ _ (call (Value.builtin _) [Value.ref _, _, _]) _ _ _); k_dflt (refine' insert0_L ?q9F ?q9N ?q9U ?q9z ?_; (case q9F => k_asm); (case q9N => k_asm); (case q9U => k_updF); (case q9z => omega)); intro h' F' N'; (try dsimp only at N'); (try k_sweep)))

local macro_rules | `(tactic| walk_at "m_sub") => `(tactic| first | exact (fun _ h => absurd h (List.not_mem_nil)) | (refine List.forall_mem_cons.mpr ⟨by k_mem, ?_⟩; walk_at "m_sub"))
local macro_rules | `(tactic| walk_at "m_all") => `(tactic| k_dflt (exact allAt_news (by k_asm) (by walk_at "m_sub")))
local macro_rules | `(tactic| walk_at "m_fn") => `(tactic| k_dflt (exact IsFnIn.at (by assumption) (allAt_news (by k_asm) (by walk_at "m_sub"))))
local macro_rules | `(tactic| walk_at "call ref") => `(tactic| (k_here; first
  | ((with_reducible show wpAny _ _ (call (Value.ref 190) [Value.ref _, Value.bytes _ _, Value.bytes _ _]) _ _ _); k_dflt (refine' gset (by assumption) ?q9C ?q9d ?q9u rfl ?q9N ?q9m1 ?q9S ?q9T ?q9D ?q9G ?q9U1 ?q9U2 ?q9U3 ?q9n1 ?q9n2 ?q9n3 ?q9H ?q9o ?q9f ?q9nd ?q9l ?q9v ?_; (case q9C => walk_at "m_cx"); (case q9d => walk_at "m_depth"); (case q9u => walk_at "m_unit"); (case q9N => k_asm); (case q9m1 => k_mem); (case q9S => assumption); (case q9T => assumption); (case q9D => assumption); (case q9G => assumption); (case q9U1 => k_updF); (case q9U2 => intro _; k_updF); (case q9U3 => intro _ _; k_updF); (case q9H => walk_at "m_sub"); (case q9o => assumption); (case q9f => assumption); (case q9n1 => omega); (case q9n2 => omega); (case q9n3 => omega); (case q9nd => omega); (case q9l => omega); (case q9v => first | assumption | exact Nat.one_ne_zero | decide)); intro h' oS' od' oDB' Dt' vs' tk' S' D' root' F' N' n1 hS' hl' hT' hD' hG' hvl'; (try dsimp only at N'); (replace N' := news_tl N'); (clear n1); (have hT2 := hT'); (k_dflt (obtain ⟨_, _, _, _, _, _, _, _, _, _, e9⟩ := hT')); (subst e9); (try k_sweep))
  | ((with_reducible show wpAny _ _ (call (Value.ref 176) [Value.ref _, Value.bytes _ _]) _ _ _); k_dflt (refine' gbranch ?q9C ?q9d ?q9u rfl ?q9N ?q9m1 ?q9m2 ?q9T ?q9m3 ?q9D ?q9G ?_; (case q9C => walk_at "m_cx"); (case q9d => walk_at "m_depth"); (case q9u => walk_at "m_unit"); (case q9N => k_asm); (case q9m1 => k_mem); (case q9m2 => k_mem); (case q9T => assumption); (case q9m3 => k_mem); (case q9D => assumption); (case q9G => assumption)); intro h' Db' vs' tk' F' N' n1 hvs' hvl'; (try k_sweep))))
local macro_rules | `(tactic| walk_at "call ref") => `(tactic| (k_here; (with_reducible show wpAny _ _ (call (Value.ref 69) [Value.ref _, _]) _ _ _); k_dflt (refine' vlt_spec ?q9C ?q9d ?q9u ?q9N ?q9t ?q9n ?_; (case q9C => walk_at "m_cx"); (case q9d => walk_at "m_depth"); (case q9u => walk_at "m_unit"); (case q9N => k_asm); (case q9t => exact News.isTup (by k_asm) (by k_mem)); (case q9n => assumption)); intro h' tk' F' N' _; (try k_sweep)))
local macro_rules | `(tactic| walk_at "call builtin:len") => `(tactic| (k_here; (with_reducible show wpAny _ _ (call (Value.builtin "len") [Value.ref _]) _ _ _); k_dflt (refine' len_tupN8 ?q9N ?q9m ?q9n ?_; (case q9N => k_asm); (case q9m => k_mem); (case q9n => assumption))))
local macro_rules | `(tactic| walk_at "call type:bytes") => `(tactic| (k_here; (with_reducible show wpAny _ _ (call (Value.type "bytes") [Value.ref _]) _ _ _); k_dflt (refine' bytes1 ?q9F ?q9N ?q9h ?_; (case q9F => k_asm); (case q9N => k_asm); (case q9h => exact rfl)); intro h' t' tk' F' N'; (try k_sweep)))
local macro_rules | `(tactic| walk_at "call ref") => `(tactic| (k_here; (with_reducible show wpAny _ _ (call (Value.ref 132) [Value.bytes _ _, Value.bytes _ _, Value.ref _, Value.ref _]) _ _ _); k_dflt (refine' own_new ?q9C ?q9d ?q9u ?q9N ?q9m2 ?q9v ?_; (case q9C => walk_at "m_cx"); (case q9d => walk_at "m_depth"); (case q9u => walk_at "m_unit"); (case q9N => k_asm); (case q9m2 => k_mem); (case q9v => assumption)); intro h' x' d' lb' c' od' tk' F' N' l1 l2 n1 hO'; (try k_sweep)))
local macro_rules | `(tactic| walk_at "m_nb") => `(tactic| first | assumption | exact (fun q => nomatch q))
local macro_rules | `(tactic| walk_at "m_ok") => `(tactic| first | assumption | exact Or.inl rfl)
local macro_rules | `(tactic| walk_at "m_od") => `(tactic| first | assumption | exact (fun _ q => nomatch q))
local macro_rules | `(tactic| walk_at "getAttr ref") => `(tactic| (k_here; k_dflt (refine' get_prop ?q9k1 ?q9k2 ?q9k3 ?q9k4 ?q9k5 ?q9k6 ?q9k7 ?q9k8 ?q9k9 ?_; (case q9k1 => k_asm); (case q9k2 => k_asm); (case q9k3 => k_inst); (case q9k4 => k_is); (case q9k5 => k_is); (case q9k6 => k_is); (case q9k7 => k_is); (case q9k8 => k_is); (case q9k9 => k_is)); first
  | (k_dflt (refine' own_val ?q9C ?q9d ?q9u ?q9N ?q9m1 ?q9m2 ?q9T ?_; (case q9C => walk_at "m_cx"); (case q9d => walk_at "m_depth"); (case q9u => walk_at "m_unit"); (case q9N => k_asm); (case q9m1 => k_mem); (case q9T => assumption); (case q9m2 => k_mem)); intro h' t' tk' F' N'; (k_dflt (refine handed_on ?q9x ?_; (case q9x => exact rfl))); (try k_sweep))
  | (k_dflt (refine' own_branch ?q9C ?q9d ?q9u ?q9N ?q9m1 ?q9m2 ?q9T ?q9m3 ?q9v ?_; (case q9C => walk_at "m_cx"); (case q9d => walk_at "m_depth"); (case q9u => walk_at "m_unit"); (case q9N => k_asm); (case q9m1 => k_mem); (case q9T => assumption); (case q9m2 => k_mem); (case q9m3 => k_mem); (case q9v => assumption)); intro h' Db' tk' F' N' n1; (k_dflt (refine handed_on ?q9x ?_; (case q9x => exact rfl))); (try k_sweep))
  | (k_dflt (refine' own_root (by assumption) ?q9C ?q9d ?q9u ?q9N ?q9m1 ?q9m2 ?q9T ?q9m3 ?q9v ?q9S ?q9b ?q9G ?q9e ?q9U ?q9H ?q9o ?q9f ?q9e1 ?q9e2 ?q9e3 ?q9l ?q9nb ?q9ok ?q9od ?_; (case q9C => walk_at "m_cx"); (case q9d => walk_at "m_depth"); (case q9u => walk_at "m_unit"); (case q9N => k_asm); (case q9m1 => k_mem); (case q9T => assumption); (case q9m2 => k_mem); (case q9m3 => k_mem); (case q9v => assumption); (case q9S => assumption); (case q9b => assumption); (case q9G => assumption); (case q9e => first | exact rfl | assumption); (case q9U => k_updF); (case q9H => walk_at "m_all"); (case q9o => assumption); (case q9f => assumption); (case q9e1 => k_ne); (case q9e2 => k_ne); (case q9e3 => k_ne); (case q9l => omega); (case q9nb => walk_at "m_nb"); (case q9ok => walk_at "m_ok"); (case q9od => walk_at "m_od")); intro h' oS' t' tk' F' N' hS'; (try dsimp only at N'); (k_dflt (refine handed_on ?q9x ?_; (case q9x => exact rfl))); (try k_sweep))))
local macro_rules | `(tactic| walk_at "call ref") => `(tactic| (k_here; (with_reducible show wpAny _ _ (call (Value.ref 169) [Value.ref _, Value.bytes _ _]) _ _ _); k_dflt (refine' gget ?q9C ?q9d ?q9u rfl ?q9N ?q9m1 ?q9m2 ?q9T ?q9m3 ?q9D ?q9G ?_; (case q9C => walk_at "m_cx"); (case q9d => walk_at "m_depth"); (case q9u => walk_at "m_unit"); (case q9N => k_asm); (case q9m1 => k_mem); (case q9m2 => k_mem); (case q9T => assumption); (case q9m3 => k_mem); (case q9D => assumption); (case q9G => assumption)); intro h' tv' tk' F' N'; (try k_sweep)))
local macro_rules | `(tactic| walk_at "compareOp NotEq ref ref") => `(tactic| (k_here; k_dflt (refine' ne_btups ?q9N ?q9m1 ?q9m2 ?q9x ?q9y ?q9u ?_; (case q9N => k_asm); (case q9m1 => k_mem); (case q9m2 => k_mem); (case q9x => assumption); (case q9y => assumption); (case q9u => walk_at "m_unit")); (try k_sweep)))
local macro_rules | `(tactic| walk_at "subscriptTail") => `(tactic| (k_here; (with_reducible show wpAny _ _ (subscriptTail _ _ (Value.ref _) (Value.int _ _)) _ _ _); k_dflt (refine' list_item ?q9N ?q9m ?q9x ?q9k ?q9n ?_; (case q9N => k_asm); (case q9m => k_mem); (case q9x => assumption); (case q9k => omega); (case q9n => omega))))
theorem ovr_self {m : Str → Option Value} : ∀ {l : List (Str × Option Value)}, (∀ q ∈ l, m q.1 = q.2) → ovr m l = m
  | [], _ => rfl
  | (n, v) :: r, h => by
    funext z
    unfold ovr
    split
    · rename_i e; subst e; exact (h _ (.head _)).symm
    · exact congrFun (ovr_self fun q hq => h q (.tail _ hq)) z
theorem owner_same {w : World} {p : Program} {loose : List Str} {mean : ExcName → Option Value} {mg mb : Str → Option Value} {h₀ : Heap} {L fa : Addr} {s : Shared} {m : Str → Option Value} {Q : Flow → Shared → Prop}
    {oc : Value} {od : Option Addr} {ln lq : Str} {lp : Arguments} {ls : Scope} {dV kV doc pm cdv ct : Value} {an : Option Addr} {osl : Array (Option Value)} {s0 s1 s2 s3 s4 s5 s6 s7 s8 s9 s10 : Stmt} {rest : List Stmt}
    {tg0 tg1 : PySem.Expr} {it0 it1 : PySem.Expr} {d0 d1 d2 d3 d4 e0 e1 e2 e3 : Stmt} {body2 els0 els1 drest : List Stmt} {pos0 pos1 : Pos}
    {dDB x dx f c dS D1 cl lk lb ow dow Dt : Addr} {oDB odT fo occ oS o1 oT ocl odo : Obj} {vs kvs : List Value} {kb : UInt8} {ck cb : Nat} {S : Texts} {D : List UInt8 → Option (Array UInt8)} {root : Array UInt8} {nD pl : Nat} {V : Nat → Array UInt8}
    {t3 t4 : Tok} {own : List (Addr × Obj)}
    (hlaw : (hd.heap_39 w.params).lookup 251 = some ⟨oc, od, .func (fnOf ln lq lp (s0 :: s1 :: s2 :: s3 :: s4 :: s5 :: s6 :: s7 :: s8 :: s9 :: s10 :: Stmt.For tg0 it0 (d0 :: d1 :: d2 :: d3 :: d4 :: Stmt.For tg1 it1 (e0 :: e1 :: e2 :: e3 :: body2) els1 pos1 :: drest) els0 pos0 :: rest) ls dV kV doc pm an cdv ct), osl⟩)
    (B : Below callerA h₀ [] h₀) (X : (hd.heap_39 w.params).In h₀) (T : Top p loose mean mg mb h₀)
    (F : Fr h₀ L s.heap m) (hm : ∀ q ∈ [(Str.ofString "tree", some (.ref x)), (Str.ofString "keys", some (.ref lk)), (Str.ofString "place", some (.int (pl : Int) t3)), (Str.ofString "owner", some (.ref ow))], m q.1 = q.2)
    (N : News h₀ L s.heap ([(ow, instObj 132 dow), (dow, odo), (lb, listOf vs.toArray cb), (Dt, oT), (lk, listOf kvs.toArray ck), (dDB, oDB), (x, instObj 235 dx), (dx, odT), (f, fo), (c, occ), (dS, oS), (D1, o1), (cl, ocl)] ++ own))
    (l1 : @LT.lt Nat _ cl D1 ∧ @LT.lt Nat _ D1 dS ∧ @LT.lt Nat _ dS c ∧ @LT.lt Nat _ c f ∧ @LT.lt Nat _ f dx ∧ @LT.lt Nat _ dx x ∧ @LT.lt Nat _ x dDB ∧ @LT.lt Nat _ dDB lk ∧ @LT.lt Nat _ lk dow ∧ @LT.lt Nat _ dow ow) (l2 : ∀ p ∈ [(ow, ocl), (dow, ocl), (lk, ocl), (dDB, ocl), (x, ocl), (dx, ocl), (f, ocl), (c, ocl), (dS, ocl), (D1, ocl), (cl, ocl)], p.1 ≠ lb) (l3 : @Ne Nat cl lb ∧ @Ne Nat c lb ∧ @Ne Nat f lb ∧ @Ne Nat dS lb) (l4 : ∀ p ∈ [(ow, ocl), (dow, ocl), (lb, ocl), (lk, ocl), (dDB, ocl), (x, ocl), (dx, ocl), (f, ocl), (c, ocl), (dS, ocl), (D1, ocl), (cl, ocl)], p.1 ≠ Dt)
    (hown : OwnOff own [ow, dow, lb, Dt, lk, dDB, x, dx, f, c, dS, D1, cl])
    (HS : HashSpec w p loose mean mg mb [(f, fo), (c, occ), (cl, ocl)] f dS) (hf : IsFnIn f [(f, fo), (c, occ), (cl, ocl)])
    (hkv : kvs[pl]? = some (.int (kb.toNat : Int) t4)) (hkvl : kvs.length ≤ 10)
    (hO : OwnD w f lb kb (V kb.toNat) odo) (hvs : BytesAre vs (brn S V kb.toNat)) (hvl : vs.length = 8)
    (hT : TreeD w f dDB root odT) (hD : DbObj w oDB D nD) (hS : SeenObj w oS S) (G : Good S D root V) (hlS : S.length ≤ 1000)
    (ret : ∀ h' tk' oS' m', Fr h₀ L h' m' → (∀ z, z ≠ Str.ofString "mine" → m' z = m z) → News h₀ L h' ([(ow, instObj 132 dow), (dow, odo), (lb, listOf vs.toArray cb), (Dt, oT), (lk, listOf kvs.toArray ck), (dDB, oDB), (x, instObj 235 dx), (dx, odT), (f, fo), (c, occ), (dS, oS'), (D1, o1), (cl, ocl)] ++ own) → SeenObj w oS' S →
      Q .next { s with heap := h', toks := tk' }) :
    wpAny (model Challenge.rw_bi0032_01.row.prog w) (callerA.deeper (envOfC ln ls L fa (.ref 250))) (execs body2 (envOfC ln ls L fa (.ref 250))) Q (fun _ _ => False) s := by
  have hk8 := UInt8.toNat_lt kb
  have hoffO : ∀ q ∈ [(f, fo), (c, occ), (cl, ocl)], q.1 ≠ dS ∧ q.1 ≠ dow ∧ q.1 ≠ ow ∧ q.1 ≠ lb := by
    intro q hq
    simp only [List.mem_cons, List.not_mem_nil, or_false] at hq
    rcases hq with rfl | rfl | rfl <;> (dsimp only; refine ⟨?_, ?_, ?_, ?_⟩ <;> (show @Ne Nat _ _; omega))
  have X0 := X; revert X; k_fill; intro X
  refine' absorbK hlaw ?k ?_
  case k => k_is
  intro e
  cases e
  clear hlaw
  have hT2 := hT
  obtain ⟨_, _, _, _, _, _, _, _, _, _, rfl⟩ := hT
  have hO2 := hO
  obtain ⟨_, _, _, _, _, _, _, _, _, _, rfl⟩ := hO
  dsimp only [List.cons_append, List.nil_append] at N
  have em := ovr_self hm
  rw [← em] at F
  k_steps
  · exact absurd ‹((V kb.toNat).toList != (V kb.toNat).toList) = true› (by simp)
  · exact absurd ‹(root.toList != root.toList) = true› (by simp)
  · (with_reducible rename News _ _ _ _ => N9); (with_reducible rename Fr _ _ _ _ => F9)
    refine' ret _ _ _ _ F9 ?em ?N (by assumption)
    case em =>
      intro z hz
      simp only [hz, if_false]
      exact congrFun em z
    case N => first | exact N9 | exact news_tl N9 | exact news_tl (news_tl N9) | exact news_tl (news_tl (news_tl N9))
end Mine
theorem Mine.freshLawS : True ∧ True := by w_top off; first | (walk1; all_goals trivial) | exact ⟨trivial, trivial⟩
-- part LawR
namespace Mine
open PySem PySem.W PyProof.Rows PySem.Calls
local macro_rules | `(tactic| k_lt $h:ident) => `(tactic| skip)
local macro_rules | `(tactic| k_ne) => `(tactic| ((try dsimp only); first
  | (refine' ne_lt_l ?q9h ?q9m; (case q9h => with_reducible assumption); (case q9m => k_dflt k_mem))
  | (refine' ne_lt_r ?q9h ?q9m; (case q9h => with_reducible assumption); (case q9m => k_dflt k_mem))
  | (refine' ne_tr_l ?q9l ?q9h ?q9m; (case q9l => with_reducible assumption); (case q9h => with_reducible assumption); (case q9m => k_dflt k_mem))
  | (refine' ne_tr_r ?q9l ?q9h ?q9m; (case q9l => with_reducible assumption); (case q9h => with_reducible assumption); (case q9m => k_dflt k_mem))
  | (refine' ne_ne_l ?q9h ?q9m; (case q9h => with_reducible assumption); (case q9m => k_dflt k_mem))
  | (refine' ne_ne_r ?q9h ?q9m; (case q9h => with_reducible assumption); (case q9m => k_dflt k_mem))
  | (refine neN ?_; (try dsimp only); omega)))
local macro_rules | `(tactic| k_room) => `(tactic| ((simp only [depth_under_make, depth_under_kw, depth_in1, depth_deeper, depth_caller]); (try dsimp only [AA] at *); omega))
local macro_rules | `(tactic| k_units) => `(tactic| ((simp only [units_in1, units_deeper, Around.mark_units, units_caller]); (try dsimp only [AA] at *); omega))
-- enter a def of the top with the ledger at hand
local macro_rules | `(tactic| walk_at "m_enter") => `(tactic| (
  refine' call_subK (by assumption) (by assumption) ?q9k1 ?q9k2 ?q9k3 ?q9k4 ?q9k5 ?_ ?q9k6 ?q9k7 ?q9k8 ?q9k9
  (case q9k1 => k_is)
  (case q9k2 => k_is)
  (case q9k3 => k_room)
  (case q9k4 => exact BindsTo.of_eq rfl)
  (case q9k5 => exact locs rfl)
  (case q9k6 => decide)
  (case q9k7 => exact rfl)
  (case q9k8 => exact rfl)
  (case q9k9 => exact rfl)))
-- the caller's context
local macro_rules | `(tactic| walk_at "m_cx") => `(tactic| k_dflt (
  refine' mkCx ?q9F ?q9B ?q9X ?q9T ?q9a ?q9b ?q9c
  (case q9F => k_asm)
  (case q9B => k_asm)
  (case q9X => k_asm)
  (case q9T => k_asm)
  (case q9a => exact rfl)
  (case q9b => exact rfl)
  (case q9c => exact rfl)))
local macro_rules | `(tactic| walk_at "m_depth") => `(tactic| ((simp only [depth_mark, depth_under_make, depth_under_kw, depth_in1, depth_deeper, depth_caller]); first | (dsimp only [AA]; omega) | omega | decide))
local macro_rules | `(tactic| walk_at "m_unit") => `(tactic| first | ((simp only [units_in1, units_deeper, Around.mark_units, units_caller]); first | (dsimp only [AA]; omega) | omega | decide) | exact Nat.le_of_ble_eq_true rfl)
local macro_rules | `(tactic| walk_at "call ref") => `(tactic| (k_here; first
  | ((with_reducible show wpAny _ _ (call (Value.ref 62) [Value.bytes _ _]) _ _ _); k_dflt (refine' vib_spec ?q9C ?q9d ?q9u ?q9N ?_); (case q9C => walk_at "m_cx"); (case q9d => walk_at "m_depth"); (case q9u => walk_at "m_unit"); (case q9N => k_asm); intro h' tk' F' N' _; (try k_sweep))
  | ((with_reducible show wpAny _ _ (call (Value.ref 35) [_, _]) _ _ _); k_dflt (refine' cast_spec ?q9C ?q9d ?q9u ?q9N ?_); (case q9C => walk_at "m_cx"); (case q9d => walk_at "m_depth"); (case q9u => walk_at "m_unit"); (case q9N => k_asm); intro h' tk' F' N' _; (try k_sweep))
  | ((with_reducible show wpAny _ _ (call (Value.ref 42) [Value.bytes _ _]) _ _ _); k_dflt (refine' toint_spec ?q9C ?q9d ?q9u ?q9N ?_); (case q9C => walk_at "m_cx"); (case q9d => walk_at "m_depth"); (case q9u => walk_at "m_unit"); (case q9N => k_asm); intro h' tk' t' F' N' _; (try k_sweep))
  | ((with_reducible show wpAny _ _ (call (Value.ref 69) [Value.bytes _ _, _]) _ _ _); k_dflt (refine' vlb_spec ?q9C ?q9d ?q9u ?q9N ?_); (case q9C => walk_at "m_cx"); (case q9d => walk_at "m_depth"); (case q9u => walk_at "m_unit"); (case q9N => k_asm); intro h' tk' F' N' _; (try k_sweep))
  | ((with_reducible show wpAny _ _ (call (Value.ref 69) [Value.ref _, _]) _ _ _); k_dflt (refine' vlt_spec ?q9C ?q9d ?q9u ?q9N ?q9t ?q9n ?_); (case q9C => walk_at "m_cx"); (case q9d => walk_at "m_depth"); (case q9u => walk_at "m_unit"); (case q9N => k_asm); (case q9t => exact IsTup.keeps (by assumption) (Fr.keep (by assumption))); (case q9n => assumption); intro h' tk' F' N' _; (try k_sweep))))
local macro_rules | `(tactic| walk_at "m_fn") => `(tactic| k_dflt (exact IsFnIn.at (by assumption) (AllAt.keeps (by assumption) (Fr.keep (by assumption)))))
local macro_rules | `(tactic| walk_at "m_all") => `(tactic| k_dflt (exact AllAt.keeps (by assumption) (Fr.keep (by assumption))))
local macro_rules | `(tactic| walk_at "FnAt") => `(tactic| walk_at "m_fn")
local macro_rules | `(tactic| walk_at "callWith ref") => `(tactic| (k_here; k_dflt (refine' callWith_F ?q9k1 ?_; (case q9k1 => walk_at "m_fn"))))
local macro_rules | `(tactic| walk_at "call ref") => `(tactic| (k_here; (with_reducible show wpAny _ _ (call (Value.ref _) [Value.bytes _ _]) _ _ _); k_dflt (refine' hash_use (by assumption) ?q9C ?q9d ?q9u ?q9N ?q9H ?q9U ?q9S ?q9l ?_); (case q9C => walk_at "m_cx"); (case q9d => walk_at "m_depth"); (case q9u => walk_at "m_unit"); (case q9N => k_asm); (case q9H => walk_at "m_all"); (case q9U => k_updF); (case q9S => k_asm); (case q9l => omega); intro h' oS' t' tk' F' N' hS' hl'; (try dsimp only at N'); (try k_sweep)))
local macro_rules | `(tactic| walk_at "binaryOp Add bytes bytes") => `(tactic| (k_here; (with_reducible show wpAny _ _ (binaryOp Operator.Add (Value.bytes _ _) (Value.bytes _ _)) _ _ _); (refine KBy.add_bytes (by omega) ?_); intro _ _))
local macro_rules | `(tactic| walk_at "call builtin:len") => `(tactic| (k_here; first
  | ((with_reducible show wpAny _ _ (call (Value.builtin "len") [Value.bytes _ _]) _ _ _); refine len_b1 ?_)
  | ((with_reducible show wpAny _ _ (call (Value.builtin "len") [Value.ref _]) _ _ _); refine len_tupB (by assumption) (by assumption) (by assumption) ?_)))

local macro_rules | `(tactic| walk_at "subscriptTail") => `(tactic| (k_here; (with_reducible show wpAny _ _ (subscriptTail _ _ (Value.ref _) (Value.bytes _ _)) _ _ _); k_dflt (refine' db_item ?q9N ?q9m ?q9D ?q9k ?_; (case q9N => k_asm); (case q9m => k_mem); (case q9D => k_asm); (case q9k => k_asm)); intro _ _))
local macro_rules | `(tactic| walk_at "subscriptTail") => `(tactic| (k_here; (with_reducible show wpAny _ _ (subscriptTail _ (Expr.Slice _ _ none _) (Value.bytes (_ ++ _) _) (Value.ref _)) _ _ _); (with_reducible rename Fr _ _ _ _ => F'); (with_reducible rename News _ _ _ _ => N'); k_dflt (first
  | (refine slice_lo (s := ⟨_, _, _, _, _⟩) F' N' (by assumption) (by assumption) ?_)
  | (refine slice_hi (s := ⟨_, _, _, _, _⟩) F' N' (by assumption) (by assumption) ?_)); intro _ _ _ F' N'; (try k_sweep)))
local macro_rules | `(tactic| walk_at "call builtin:list.append") => `(tactic| (k_here; (with_reducible show wpAny _ _ (call (Value.builtin _) [Value.ref _, _]) _ _ _); k_dflt (refine' append_L ?q9F ?q9N ?q9U ?_ ?q9z; (case q9F => k_asm); (case q9N => k_asm); (case q9U => k_updF); (case q9z => first | omega | exact Nat.le_of_ble_eq_true rfl)); intro h' F' N'; (try dsimp only [List.nil_append, List.cons_append] at N'); (try k_sweep)))
local macro_rules | `(tactic| walk_at "call type:tuple") => `(tactic| (k_here; (with_reducible show wpAny _ _ (call (Value.type "tuple") [Value.ref _]) _ _ _); k_dflt (refine' tuple_L ?q9F ?q9N ?q9m ?q9z ?_; (case q9F => k_asm); (case q9N => k_asm); (case q9m => k_mem); (case q9z => omega)); intro D' h' F' N' l1; (try k_lt l1); (try k_sweep)))

local macro_rules | `(tactic| walk_at "call type:tuple") => `(tactic| (k_here; (with_reducible show wpAny _ _ (call (Value.type "tuple") [Value.ref _]) _ _ _); k_dflt (refine' tuple_rev rfl ?q9F ?q9N ?q9I ?q9m ?q9z ?_; (case q9F => k_asm); (case q9N => k_asm); (case q9I => k_all); (case q9m => k_mem); (case q9z => omega)); intro D' h' tk' F' N' l1; (try k_lt l1); (try k_sweep)))
local macro_rules | `(tactic| walk_at "call type:reversed") => `(tactic| (k_here; (with_reducible show wpAny _ _ (call (Value.type "reversed") [Value.ref _]) _ _ _); k_dflt (first
  | (refine' rev_K ?q9F ?q9N ?q9t ?q9n ?_; (case q9F => k_asm); (case q9N => k_asm); (case q9t => assumption); (case q9n => assumption); intro D' h' tk' F' N' l1; (try k_lt l1); (try k_sweep))
  | (refine' rev_KN ?q9F ?q9N ?q9m ?q9n ?_; (case q9F => k_asm); (case q9N => k_asm); (case q9m => k_mem); (case q9n => assumption); intro D' h' tk' F' N' l1; (try k_lt l1); (try k_sweep))
  | (refine' revL_K ?q9F ?q9N ?q9m ?_; (case q9F => k_asm); (case q9N => k_asm); (case q9m => k_mem); intro D' h' F' N' l1; (try k_lt l1); (try k_sweep)))))
local macro_rules | `(tactic| walk_at "setItem ref bytes") => `(tactic| (k_here; k_dflt (refine' db_set ?q9F ?q9N ?q9U ?q9D ?q9n ?_; (case q9F => k_asm); (case q9N => k_asm); (case q9U => k_updF); (case q9D => k_asm); (case q9n => omega)); intro h' o' F' N' hD'; (try dsimp only at N'); (try k_sweep)))
local macro_rules | `(tactic| walk_at "call ref") => `(tactic| (k_here; (with_reducible show wpAny _ _ (call (Value.ref 183) [Value.ref _, Value.bytes _ _]) _ _ _); k_dflt (refine' get_spec ?q9C ?q9d ?q9u rfl ?q9N ?q9m1 ?q9m2 ?q9m3 ?q9T ?q9D ?q9W ?_; (case q9C => walk_at "m_cx"); (case q9d => walk_at "m_depth"); (case q9u => walk_at "m_unit"); (case q9N => k_asm); (case q9m1 => k_mem); (case q9m2 => k_mem); (case q9T => first | assumption | exact ⟨_, _, _, _, _, _, _, _, _, _, rfl⟩); (case q9m3 => k_mem); (case q9D => assumption); (case q9W => assumption)); intro h' Dt Db vs' tv tk' F' N' n1 n2 n3 K' hvs' hvl'; (try k_sweep)))

local macro_rules | `(tactic| walk_at "call builtin:list.insert") => `(tactic| (k_here; (with_reducible show wpAny _ _ (call (Value.builtin _) [Value.ref _, _, _]) _ _ _); k_dflt (refine' insert0_L ?q9F ?q9N ?q9U ?q9z ?_; (case q9F => k_asm); (case q9N => k_asm); (case q9U => k_updF); (case q9z => omega)); intro h' F' N'; (try dsimp only at N'); (try k_sweep)))

local macro_rules | `(tactic| walk_at "m_sub") => `(tactic| first | exact (fun _ h => absurd h (List.not_mem_nil)) | (refine List.forall_mem_cons.mpr ⟨by k_mem, ?_⟩; walk_at "m_sub"))
local macro_rules | `(tactic| walk_at "m_all") => `(tactic| k_dflt (exact allAt_news (by k_asm) (by walk_at "m_sub")))
local macro_rules | `(tactic| walk_at "m_fn") => `(tactic| k_dflt (exact IsFnIn.at (by assumption) (allAt_news (by k_asm) (by walk_at "m_sub"))))
local macro_rules | `(tactic| walk_at "call ref") => `(tactic| (k_here; first
  | ((with_reducible show wpAny _ _ (call (Value.ref 190) [Value.ref _, Value.bytes _ _, Value.bytes _ _]) _ _ _); k_dflt (refine' gset (by assumption) ?q9C ?q9d ?q9u rfl ?q9N ?q9m1 ?q9S ?q9T ?q9D ?q9G ?q9U1 ?q9U2 ?q9U3 ?q9n1 ?q9n2 ?q9n3 ?q9H ?q9o ?q9f ?q9nd ?q9l ?q9v ?_; (case q9C => walk_at "m_cx"); (case q9d => walk_at "m_depth"); (case q9u => walk_at "m_unit"); (case q9N => k_asm); (case q9m1 => k_mem); (case q9S => assumption); (case q9T => assumption); (case q9D => assumption); (case q9G => assumption); (case q9U1 => k_updF); (case q9U2 => intro _; k_updF); (case q9U3 => intro _ _; k_updF); (case q9H => walk_at "m_sub"); (case q9o => assumption); (case q9f => assumption); (case q9n1 => omega); (case q9n2 => omega); (case q9n3 => omega); (case q9nd => omega); (case q9l => omega); (case q9v => first | assumption | exact Nat.one_ne_zero | decide)); intro h' oS' od' oDB' Dt' vs' tk' S' D' root' F' N' n1 hS' hl' hT' hD' hG' hvl'; (try dsimp only at N'); (replace N' := news_tl N'); (clear n1); (have hT2 := hT'); (k_dflt (obtain ⟨_, _, _, _, _, _, _, _, _, _, e9⟩ := hT')); (subst e9); (try k_sweep))
  | ((with_reducible show wpAny _ _ (call (Value.ref 176) [Value.ref _, Value.bytes _ _]) _ _ _); k_dflt (refine' gbranch ?q9C ?q9d ?q9u rfl ?q9N ?q9m1 ?q9m2 ?q9T ?q9m3 ?q9D ?q9G ?_; (case q9C => walk_at "m_cx"); (case q9d => walk_at "m_depth"); (case q9u => walk_at "m_unit"); (case q9N => k_asm); (case q9m1 => k_mem); (case q9m2 => k_mem); (case q9T => assumption); (case q9m3 => k_mem); (case q9D => assumption); (case q9G => assumption)); intro h' Db' vs' tk' F' N' n1 hvs' hvl'; (try k_sweep))))
local macro_rules | `(tactic| walk_at "call ref") => `(tactic| (k_here; (with_reducible show wpAny _ _ (call (Value.ref 69) [Value.ref _, _]) _ _ _); k_dflt (refine' vlt_spec ?q9C ?q9d ?q9u ?q9N ?q9t ?q9n ?_; (case q9C => walk_at "m_cx"); (case q9d => walk_at "m_depth"); (case q9u => walk_at "m_unit"); (case q9N => k_asm); (case q9t => exact News.isTup (by k_asm) (by k_mem)); (case q9n => assumption)); intro h' tk' F' N' _; (try k_sweep)))
local macro_rules | `(tactic| walk_at "call builtin:len") => `(tactic| (k_here; (with_reducible show wpAny _ _ (call (Value.builtin "len") [Value.ref _]) _ _ _); k_dflt (refine' len_tupN8 ?q9N ?q9m ?q9n ?_; (case q9N => k_asm); (case q9m => k_mem); (case q9n => assumption))))
local macro_rules | `(tactic| walk_at "call type:bytes") => `(tactic| (k_here; (with_reducible show wpAny _ _ (call (Value.type "bytes") [Value.ref _]) _ _ _); k_dflt (refine' bytes1 ?q9F ?q9N ?q9h ?_; (case q9F => k_asm); (case q9N => k_asm); (case q9h => exact rfl)); intro h' t' tk' F' N'; (try k_sweep)))
local macro_rules | `(tactic| walk_at "call ref") => `(tactic| (k_here; (with_reducible show wpAny _ _ (call (Value.ref 132) [Value.bytes _ _, Value.bytes _ _, Value.ref _, Value.ref _]) _ _ _); k_dflt (refine' own_new ?q9C ?q9d ?q9u ?q9N ?q9m2 ?q9v ?_; (case q9C => walk_at "m_cx"); (case q9d => walk_at "m_depth"); (case q9u => walk_at "m_unit"); (case q9N => k_asm); (case q9m2 => k_mem); (case q9v => assumption)); intro h' x' d' lb' c' od' tk' F' N' l1 l2 n1 hO'; (try k_sweep)))
local macro_rules | `(tactic| walk_at "m_nb") => `(tactic| first | assumption | exact (fun q => nomatch q))
local macro_rules | `(tactic| walk_at "m_ok") => `(tactic| first | assumption | exact Or.inl rfl)
local macro_rules | `(tactic| walk_at "m_od") => `(tactic| first | assumption | exact (fun _ q => nomatch q))
local macro_rules | `(tactic| walk_at "getAttr ref") => `(tactic| (k_here; k_dflt (refine' get_prop ?q9k1 ?q9k2 ?q9k3 ?q9k4 ?q9k5 ?q9k6 ?q9k7 ?q9k8 ?q9k9 ?_; (case q9k1 => k_asm); (case q9k2 => k_asm); (case q9k3 => k_inst); (case q9k4 => k_is); (case q9k5 => k_is); (case q9k6 => k_is); (case q9k7 => k_is); (case q9k8 => k_is); (case q9k9 => k_is)); first
  | (k_dflt (refine' own_val ?q9C ?q9d ?q9u ?q9N ?q9m1 ?q9m2 ?q9T ?_; (case q9C => walk_at "m_cx"); (case q9d => walk_at "m_depth"); (case q9u => walk_at "m_unit"); (case q9N => k_asm); (case q9m1 => k_mem); (case q9T => assumption); (case q9m2 => k_mem)); intro h' t' tk' F' N'; (k_dflt (refine handed_on ?q9x ?_; (case q9x => exact rfl))); (try k_sweep))
  | (k_dflt (refine' own_branch ?q9C ?q9d ?q9u ?q9N ?q9m1 ?q9m2 ?q9T ?q9m3 ?q9v ?_; (case q9C => walk_at "m_cx"); (case q9d => walk_at "m_depth"); (case q9u => walk_at "m_unit"); (case q9N => k_asm); (case q9m1 => k_mem); (case q9T => assumption); (case q9m2 => k_mem); (case q9m3 => k_mem); (case q9v => assumption)); intro h' Db' tk' F' N' n1; (k_dflt (refine handed_on ?q9x ?_; (case q9x => exact rfl))); (try k_sweep))
  | (k_dflt (refine' own_root (by assumption) ?q9C ?q9d ?q9u ?q9N ?q9m1 ?q9m2 ?q9T ?q9m3 ?q9v ?q9S ?q9b ?q9G ?q9e ?q9U ?q9H ?q9o ?q9f ?q9e1 ?q9e2 ?q9e3 ?q9l ?q9nb ?q9ok ?q9od ?_; (case q9C => walk_at "m_cx"); (case q9d => walk_at "m_depth"); (case q9u => walk_at "m_unit"); (case q9N => k_asm); (case q9m1 => k_mem); (case q9T => assumption); (case q9m2 => k_mem); (case q9m3 => k_mem); (case q9v => assumption); (case q9S => assumption); (case q9b => assumption); (case q9G => assumption); (case q9e => first | exact rfl | assumption); (case q9U => k_updF); (case q9H => walk_at "m_all"); (case q9o => assumption); (case q9f => assumption); (case q9e1 => k_ne); (case q9e2 => k_ne); (case q9e3 => k_ne); (case q9l => omega); (case q9nb => walk_at "m_nb"); (case q9ok => walk_at "m_ok"); (case q9od => walk_at "m_od")); intro h' oS' t' tk' F' N' hS'; (try dsimp only at N'); (k_dflt (refine handed_on ?q9x ?_; (case q9x => exact rfl))); (try k_sweep))))
local macro_rules | `(tactic| walk_at "call ref") => `(tactic| (k_here; (with_reducible show wpAny _ _ (call (Value.ref 169) [Value.ref _, Value.bytes _ _]) _ _ _); k_dflt (refine' gget ?q9C ?q9d ?q9u rfl ?q9N ?q9m1 ?q9m2 ?q9T ?q9m3 ?q9D ?q9G ?_; (case q9C => walk_at "m_cx"); (case q9d => walk_at "m_depth"); (case q9u => walk_at "m_unit"); (case q9N => k_asm); (case q9m1 => k_mem); (case q9m2 => k_mem); (case q9T => assumption); (case q9m3 => k_mem); (case q9D => assumption); (case q9G => assumption)); intro h' tv' tk' F' N'; (try k_sweep)))
local macro_rules | `(tactic| walk_at "compareOp NotEq ref ref") => `(tactic| (k_here; k_dflt (refine' ne_btups ?q9N ?q9m1 ?q9m2 ?q9x ?q9y ?q9u ?_; (case q9N => k_asm); (case q9m1 => k_mem); (case q9m2 => k_mem); (case q9x => assumption); (case q9y => assumption); (case q9u => walk_at "m_unit")); (try k_sweep)))
local macro_rules | `(tactic| walk_at "subscriptTail") => `(tactic| (k_here; (with_reducible show wpAny _ _ (subscriptTail _ _ (Value.ref _) (Value.int _ _)) _ _ _); k_dflt (refine' list_item ?q9N ?q9m ?q9x ?q9k ?q9n ?_; (case q9N => k_asm); (case q9m => k_mem); (case q9x => assumption); (case q9k => omega); (case q9n => omega))))
local macro_rules | `(tactic| walk_at "execs cons") => `(tactic| (k_here; (with_reducible show wpAny _ _ (execs (Stmt.Assign _ _ _ :: _) _) _ _ _); refine Stop.intro ?_))
local macro_rules | `(tactic| walk_at "call ref") => `(tactic| (k_here; (with_reducible show wpAny _ _ (call (Value.ref 129) [Value.ref _, Value.bytes _ _, Value.bytes _ _, Value.ref _]) _ _ _); refine Stop.intro ?_))
local macro_rules | `(tactic| walk_at "subscriptTail") => `(tactic| (k_here; (with_reducible show wpAny _ _ (subscriptTail _ (Expr.Slice _ _ _ _) (Value.ref _) (Value.ref _)) _ _ _); (with_reducible rename Fr _ _ _ _ => F'); (with_reducible rename News _ _ _ _ => N'); k_dflt (refine' tup_upto (b := Int.toNat _) (s := ⟨_, _, _, _, _⟩) F' N' ?q9m ?q9z ?q9k ?q9h1 ?q9h2; (case q9m => k_mem); (case q9z => omega); (case q9k => refine (Int.toNat_of_nonneg ?_).symm; split <;> omega)); (case' q9h1 => (intro hb D' h' F' N' n1; (try k_sweep))); (case' q9h2 => (intro hb h' F' N'; (try k_sweep)))))
theorem BytesAre.set {vs : List Value} {bs : List (Array UInt8)} (x : BytesAre vs bs) {i : Nat} {b : Array UInt8} {t : Tok} : BytesAre (vs.set i (.bytes b t)) (bs.set i b) := by
  refine ⟨by rw [List.length_set, List.length_set]; exact x.1, fun j c hc => ?_⟩
  rw [List.getElem?_set] at hc ⊢
  by_cases e : i = j
  · subst e
    rw [if_pos rfl] at hc ⊢
    by_cases q : i < bs.length
    · rw [if_pos q] at hc
      cases hc
      rw [if_pos (x.1 ▸ q)]
      exact ⟨t, rfl⟩
    · rw [if_neg q] at hc; cases hc
  · rw [if_neg e] at hc ⊢
    exact x.2 j c hc
theorem OwnD.to {w : World} {f lb : Addr} {kb : UInt8} {a b : Array UInt8} {o : Obj} (h : OwnD w f lb kb a o) (e : a = b) : OwnD w f lb kb b o := e ▸ h
theorem take_get {us : List Value} {n i : Nat} {v : Value} (h : (us.take n)[i]? = some v) : us[i]? = some v := by
  rw [List.getElem?_take] at h
  split at h
  · exact h
  · cases h
theorem turn0 {S : Texts} {V V' : Nat → Array UInt8} {kb pb : UInt8} {v : Array UInt8} {T9 : List (Array UInt8)} (d : Done S V V' pb.toNat v T9) (e : kb = pb) : V' kb.toNat = v ∧ brn S V' kb.toNat = brn S V kb.toNat := by
  subst e
  refine ⟨?_, d.self⟩
  rw [d.val]; unfold upd; rw [if_pos rfl]
theorem turn1 {S : Texts} {V V' : Nat → Array UInt8} {kb pb : UInt8} {v : Array UInt8} {T9 : List (Array UInt8)} {us vs : List Value} {i : Nat} {v1 : Value} (d : Done S V V' pb.toNat v T9) (hus : BytesAre us T9) (hvs : BytesAre vs (brn S V kb.toNat)) (hp : part kb.toNat pb.toNat = i) (hi : i < 8) (hg : us[i]? = some v1) :
    V' kb.toNat = V kb.toNat ∧ BytesAre (vs.set i v1) (brn S V' kb.toNat) := by
  obtain ⟨b, hb, e⟩ := d.near kb.toNat i (UInt8.toNat_lt kb) hi hp
  obtain ⟨t, ht⟩ := hus.2 i b hb
  rw [hg] at ht
  cases ht
  refine ⟨?_, by rw [e]; exact hvs.set⟩
  rw [d.val]; unfold upd; rw [if_neg]
  intro q
  rw [q, part_self] at hp
  omega
theorem owner_rest {w : World} {p : Program} {loose : List Str} {mean : ExcName → Option Value} {mg mb : Str → Option Value} {h₀ : Heap} {L fa : Addr} {s : Shared} {m : Str → Option Value} {Q : Flow → Shared → Prop}
    {oc : Value} {od : Option Addr} {ln lq : Str} {lp : Arguments} {ls : Scope} {dV kV doc pm cdv ct : Value} {an : Option Addr} {osl : Array (Option Value)} {s0 s1 s2 s3 s4 s5 s6 s7 s8 s9 s10 : Stmt} {rest : List Stmt}
    {tg0 tg1 : PySem.Expr} {it0 it1 : PySem.Expr} {d0 d1 d2 d3 d4 e0 e1 e2 : Stmt} {body2 els0 els1 drest : List Stmt} {pos0 pos1 : Pos}
    {dDB x dx f c dS D1 cl lk lb ow dow Dt : Addr} {oDB odT fo occ oS o1 ocl odo : Obj} {vs kvs : List Value} {kb pb : UInt8} {v : Array UInt8} {us : List Value} {T9 : List (Array UInt8)} {P sh : Int} {ck cb : Nat} {S : Texts} {D : List UInt8 → Option (Array UInt8)} {root : Array UInt8} {nD pl : Nat} {V V' : Nat → Array UInt8}
    {t1 t2 t3 t4 t5 t6 : Tok} {own : List (Addr × Obj)}
    (hlaw : (hd.heap_39 w.params).lookup 251 = some ⟨oc, od, .func (fnOf ln lq lp (s0 :: s1 :: s2 :: s3 :: s4 :: s5 :: s6 :: s7 :: s8 :: s9 :: s10 :: Stmt.For tg0 it0 (d0 :: d1 :: d2 :: d3 :: d4 :: Stmt.For tg1 it1 (e0 :: e1 :: e2 :: body2) els1 pos1 :: drest) els0 pos0 :: rest) ls dV kV doc pm an cdv ct), osl⟩)
    (B : Below callerA h₀ [] h₀) (X : (hd.heap_39 w.params).In h₀) (T : Top p loose mean mg mb h₀)
    (F : Fr h₀ L s.heap m) (hm : ∀ q ∈ [(Str.ofString "tree", some (.ref x)), (Str.ofString "keys", some (.ref lk)), (Str.ofString "place", some (.int (pl : Int) t3)), (Str.ofString "owner", some (.ref ow)), (Str.ofString "key", some (.int (pb.toNat : Int) t1)), (Str.ofString "what", some (.bytes v t2)), (Str.ofString "told", some (.ref Dt)), (Str.ofString "parts", some (.int P t5)), (Str.ofString "short", some (.int sh t6))], m q.1 = q.2)
    (N : News h₀ L s.heap ([(ow, instObj 132 dow), (dow, odo), (lb, listOf vs.toArray cb), (Dt, tup us), (lk, listOf kvs.toArray ck), (dDB, oDB), (x, instObj 235 dx), (dx, odT), (f, fo), (c, occ), (dS, oS), (D1, o1), (cl, ocl)] ++ own))
    (l1 : @LT.lt Nat _ cl D1 ∧ @LT.lt Nat _ D1 dS ∧ @LT.lt Nat _ dS c ∧ @LT.lt Nat _ c f ∧ @LT.lt Nat _ f dx ∧ @LT.lt Nat _ dx x ∧ @LT.lt Nat _ x dDB ∧ @LT.lt Nat _ dDB lk ∧ @LT.lt Nat _ lk dow ∧ @LT.lt Nat _ dow ow) (l2 : ∀ p ∈ [(ow, ocl), (dow, ocl), (lk, ocl), (dDB, ocl), (x, ocl), (dx, ocl), (f, ocl), (c, ocl), (dS, ocl), (D1, ocl), (cl, ocl)], p.1 ≠ lb) (l3 : @Ne Nat cl lb ∧ @Ne Nat c lb ∧ @Ne Nat f lb ∧ @Ne Nat dS lb) (l4 : ∀ p ∈ [(ow, ocl), (dow, ocl), (lb, ocl), (lk, ocl), (dDB, ocl), (x, ocl), (dx, ocl), (f, ocl), (c, ocl), (dS, ocl), (D1, ocl), (cl, ocl)], p.1 ≠ Dt)
    (hown : OwnOff own [ow, dow, lb, Dt, lk, dDB, x, dx, f, c, dS, D1, cl])
    (HS : HashSpec w p loose mean mg mb [(f, fo), (c, occ), (cl, ocl)] f dS) (hf : IsFnIn f [(f, fo), (c, occ), (cl, ocl)])
    (hkv : kvs[pl]? = some (.int (kb.toNat : Int) t4)) (hkvl : kvs.length ≤ 10)
    (hO : OwnD w f lb kb (V kb.toNat) odo) (hvs : BytesAre vs (brn S V kb.toNat)) (hvl : vs.length = 8)
    (hT : TreeD w f dDB root odT) (hD : DbObj w oDB D nD) (hS : SeenObj w oS S) (G : Good S D root V') (hP : P = (part kb.toNat pb.toNat : Int)) (hsh : 0 ≤ sh ∧ sh ≤ 8) (hDn : Done S V V' pb.toNat v T9) (hus : BytesAre us T9) (hul : us.length = 8) (hlS : S.length ≤ 1000)
    (ret : ∀ h' tk' oS' odo' vs' m', Fr h₀ L h' m' → (∀ z, z ≠ Str.ofString "mine" → m' z = m z) → News h₀ L h' ([(ow, instObj 132 dow), (dow, odo'), (lb, listOf vs'.toArray cb), (Dt, tup us), (lk, listOf kvs.toArray ck), (dDB, oDB), (x, instObj 235 dx), (dx, odT), (f, fo), (c, occ), (dS, oS'), (D1, o1), (cl, ocl)] ++ own) → SeenObj w oS' S →
      OwnD w f lb kb (V' kb.toNat) odo' → BytesAre vs' (brn S V' kb.toNat) → vs'.length = 8 → Q .next { s with heap := h', toks := tk' }) :
    wpAny (model Challenge.rw_bi0032_01.row.prog w) (callerA.deeper (envOfC ln ls L fa (.ref 250))) (execs body2 (envOfC ln ls L fa (.ref 250))) Q (fun _ _ => False) s := by
  have hk8 := UInt8.toNat_lt kb
  have hp8 := UInt8.toNat_lt pb
  have hp9 := part_le kb.toNat pb.toNat
  have hlaw2 : Stop _ := hlaw
  have X0 := X; revert X; k_fill; intro X
  refine' absorbK hlaw ?k ?_
  case k => k_is
  intro e
  cases e
  clear hlaw
  have hT2 := hT
  obtain ⟨_, _, _, _, _, _, _, _, _, _, rfl⟩ := hT
  have hO2 := hO
  obtain ⟨_, _, _, _, _, _, _, _, _, _, rfl⟩ := hO
  dsimp only [List.cons_append, List.nil_append] at N
  have em := ovr_self hm
  have hm4 : ∀ q ∈ [(Str.ofString "tree", some (Value.ref x)), (Str.ofString "keys", some (.ref lk)), (Str.ofString "place", some (.int (pl : Int) t3)), (Str.ofString "owner", some (.ref ow))], m q.1 = q.2 := by
    intro q hq
    refine hm q ?_
    simp only [List.mem_cons, List.not_mem_nil, or_false] at hq
    rcases hq with rfl | rfl | rfl | rfl
    · exact .head _
    · exact .tail _ (.head _)
    · exact .tail _ (.tail _ (.head _))
    · exact .tail _ (.tail _ (.tail _ (.head _)))
  rw [← em] at F
  k_steps
  · (with_reducible rename News _ _ _ _ => N9)
    (with_reducible rename Fr _ _ _ _ => F9)
    refine Stop.out ?_
    k_dflt (refine' upd_spec ?q9C ?q9d ?q9u rfl N9 ?q9m1 ?q9m2 ?q9U1 ?q9U2 ?e1 ?e2 ?e3 ?e4 ?e5 ?e6 hO2 hvl ?q9l ?q9deep ?ret0 ?ret1)
    case q9C => walk_at "m_cx"
    case q9d => walk_at "m_depth"
    case q9u => walk_at "m_unit"
    case q9m1 => k_mem
    case q9m2 => k_mem
    case q9U1 => k_updF
    case q9U2 => k_updF
    case e1 => k_ne
    case e2 => k_ne
    case e3 => k_ne
    case e4 => k_ne
    case e5 => k_ne
    case e6 => k_ne
    case q9l => omega
    case q9deep =>
      intro hne
      exact absurd (UInt8.toNat_inj.mp (part_eight hk8 hp8 (by omega))) hne
    case ret0 =>
      intro hkp h2 od2 tk2 F2 N2 hO3
      (try dsimp only at N2)
      obtain ⟨ev, eb⟩ := turn0 hDn hkp
      have hvs2 := hvs
      rw [← eb] at hvs2
      have hO4 := hO3.to ev.symm
      k_steps
      refine Stop.out ?_
      (with_reducible rename Fr _ _ _ _ => F4)
      (with_reducible rename News _ _ _ _ => N4)
      rw [em] at F4
      refine' owner_same (V := V') (own := own) (kb := kb) hlaw2 B X0 T F4 hm4 ?N4 l1 l2 l3 l4 hown HS hf hkv hkvl hO4 hvs2 hvl hT2 hD hS G hlS ?ret4
      case N4 => first | exact N4 | exact news_tl N4
      case ret4 => exact fun h' tk' oS' m' F m_eq N hS => ret h' tk' oS' _ _ m' F m_eq N hS hO4 hvs2 hvl
    case ret1 =>
      intro i v1 h2 tk2 hpi hi hget F2 N2
      (try dsimp only at N2)
      skip
      obtain ⟨ev, hvs2⟩ := turn1 hDn hus hvs hpi hi hget
      have hvl2 : (vs.set i v1).length = 8 := by rw [List.length_set]; exact hvl
      have hO4 := hO2.to ev.symm
      k_steps
      refine Stop.out ?_
      (with_reducible rename Fr _ _ _ _ => F4)
      (with_reducible rename News _ _ _ _ => N4)
      rw [em] at F4
      refine' owner_same (V := V') (own := own) (kb := kb) hlaw2 B X0 T F4 hm4 ?N4 l1 l2 l3 l4 hown HS hf hkv hkvl hO4 hvs2 hvl2 hT2 hD hS G hlS ?ret4
      case N4 => first | exact N4 | exact news_tl N4
      case ret4 => exact fun h' tk' oS' m' F m_eq N hS => ret h' tk' oS' _ _ m' F m_eq N hS hO4 hvs2 hvl2
  · (with_reducible rename News _ _ _ _ => N9)
    (with_reducible rename Fr _ _ _ _ => F9)
    refine Stop.out ?_
    k_dflt (refine' upd_spec ?q9C ?q9d ?q9u rfl N9 ?q9m1 ?q9m2 ?q9U1 ?q9U2 ?e1 ?e2 ?e3 ?e4 ?e5 ?e6 hO2 hvl ?q9l ?q9deep ?ret0 ?ret1)
    case q9C => walk_at "m_cx"
    case q9d => walk_at "m_depth"
    case q9u => walk_at "m_unit"
    case q9m1 => k_mem
    case q9m2 => k_mem
    case q9U1 => k_updF
    case q9U2 => k_updF
    case e1 => k_ne
    case e2 => k_ne
    case e3 => k_ne
    case e4 => k_ne
    case e5 => k_ne
    case e6 => k_ne
    case q9l => omega
    case q9deep =>
      intro hne
      have : part kb.toNat pb.toNat ≠ 8 := (by omega)
      omega
    case ret0 =>
      intro hkp h2 od2 tk2 F2 N2 hO3
      (try dsimp only at N2)
      obtain ⟨ev, eb⟩ := turn0 hDn hkp
      have hvs2 := hvs
      rw [← eb] at hvs2
      have hO4 := hO3.to ev.symm
      k_steps
      refine Stop.out ?_
      (with_reducible rename Fr _ _ _ _ => F4)
      (with_reducible rename News _ _ _ _ => N4)
      rw [em] at F4
      refine' owner_same (V := V') (own := own) (kb := kb) hlaw2 B X0 T F4 hm4 ?N4 l1 l2 l3 l4 hown HS hf hkv hkvl hO4 hvs2 hvl hT2 hD hS G hlS ?ret4
      case N4 => first | exact N4 | exact news_tl N4
      case ret4 => exact fun h' tk' oS' m' F m_eq N hS => ret h' tk' oS' _ _ m' F m_eq N hS hO4 hvs2 hvl
    case ret1 =>
      intro i v1 h2 tk2 hpi hi hget F2 N2
      (try dsimp only at N2)
      skip
      obtain ⟨ev, hvs2⟩ := turn1 hDn hus hvs hpi hi hget
      have hvl2 : (vs.set i v1).length = 8 := by rw [List.length_set]; exact hvl
      have hO4 := hO2.to ev.symm
      k_steps
      refine Stop.out ?_
      (with_reducible rename Fr _ _ _ _ => F4)
      (with_reducible rename News _ _ _ _ => N4)
      rw [em] at F4
      refine' owner_same (V := V') (own := own) (kb := kb) hlaw2 B X0 T F4 hm4 ?N4 l1 l2 l3 l4 hown HS hf hkv hkvl hO4 hvs2 hvl2 hT2 hD hS G hlS ?ret4
      case N4 => first | exact N4 | exact news_tl N4
      case ret4 => exact fun h' tk' oS' m' F m_eq N hS => ret h' tk' oS' _ _ m' F m_eq N hS hO4 hvs2 hvl2
  · (with_reducible rename News _ _ _ _ => N9)
    (with_reducible rename Fr _ _ _ _ => F9)
    refine Stop.out ?_
    k_dflt (refine' upd_spec ?q9C ?q9d ?q9u rfl N9 ?q9m1 ?q9m2 ?q9U1 ?q9U2 ?e1 ?e2 ?e3 ?e4 ?e5 ?e6 hO2 hvl ?q9l ?q9deep ?ret0 ?ret1)
    case q9C => walk_at "m_cx"
    case q9d => walk_at "m_depth"
    case q9u => walk_at "m_unit"
    case q9m1 => k_mem
    case q9m2 => k_mem
    case q9U1 => k_updF
    case q9U2 => k_updF
    case e1 => k_ne
    case e2 => k_ne
    case e3 => k_ne
    case e4 => k_ne
    case e5 => k_ne
    case e6 => k_ne
    case q9l => rw [List.length_take]; omega
    case q9deep =>
      intro hne
      have : part kb.toNat pb.toNat ≠ 8 := (by omega)
      rw [List.length_take]
      split <;> omega
    case ret0 =>
      intro hkp h2 od2 tk2 F2 N2 hO3
      (try dsimp only at N2)
      obtain ⟨ev, eb⟩ := turn0 hDn hkp
      have hvs2 := hvs
      rw [← eb] at hvs2
      have hO4 := hO3.to ev.symm
      k_steps
      refine Stop.out ?_
      (with_reducible rename Fr _ _ _ _ => F4)
      (with_reducible rename News _ _ _ _ => N4)
      rw [em] at F4
      refine' owner_same (V := V') (own := own) (kb := kb) hlaw2 B X0 T F4 hm4 ?N4 l1 l2 l3 l4 hown HS hf hkv hkvl hO4 hvs2 hvl hT2 hD hS G hlS ?ret4
      case N4 => first | exact N4 | exact news_tl N4
      case ret4 => exact fun h' tk' oS' m' F m_eq N hS => ret h' tk' oS' _ _ m' F m_eq N hS hO4 hvs2 hvl
    case ret1 =>
      intro i v1 h2 tk2 hpi hi hget F2 N2
      (try dsimp only at N2)
      replace hget := take_get hget
      obtain ⟨ev, hvs2⟩ := turn1 hDn hus hvs hpi hi hget
      have hvl2 : (vs.set i v1).length = 8 := by rw [List.length_set]; exact hvl
      have hO4 := hO2.to ev.symm
      k_steps
      refine Stop.out ?_
      (with_reducible rename Fr _ _ _ _ => F4)
      (with_reducible rename News _ _ _ _ => N4)
      rw [em] at F4
      refine' owner_same (V := V') (own := own) (kb := kb) hlaw2 B X0 T F4 hm4 ?N4 l1 l2 l3 l4 hown HS hf hkv hkvl hO4 hvs2 hvl2 hT2 hD hS G hlS ?ret4
      case N4 => first | exact N4 | exact news_tl N4
      case ret4 => exact fun h' tk' oS' m' F m_eq N hS => ret h' tk' oS' _ _ m' F m_eq N hS hO4 hvs2 hvl2
end Mine
theorem Mine.freshLawR : True ∧ True := by w_top off; first | (walk1; all_goals trivial) | exact ⟨trivial, trivial⟩
-- part LawD
namespace Mine
open PySem PySem.W PyProof.Rows PySem.Calls
local macro_rules | `(tactic| k_lt $h:ident) => `(tactic| skip)
local macro_rules | `(tactic| k_ne) => `(tactic| ((try dsimp only); first
  | (refine' ne_lt_l ?q9h ?q9m; (case q9h => with_reducible assumption); (case q9m => k_dflt k_mem))
  | (refine' ne_lt_r ?q9h ?q9m; (case q9h => with_reducible assumption); (case q9m => k_dflt k_mem))
  | (refine' ne_tr_l ?q9l ?q9h ?q9m; (case q9l => with_reducible assumption); (case q9h => with_reducible assumption); (case q9m => k_dflt k_mem))
  | (refine' ne_tr_r ?q9l ?q9h ?q9m; (case q9l => with_reducible assumption); (case q9h => with_reducible assumption); (case q9m => k_dflt k_mem))
  | (refine' ne_ne_l ?q9h ?q9m; (case q9h => with_reducible assumption); (case q9m => k_dflt k_mem))
  | (refine' ne_ne_r ?q9h ?q9m; (case q9h => with_reducible assumption); (case q9m => k_dflt k_mem))
  | (refine neN ?_; (try dsimp only); omega)))
local macro_rules | `(tactic| k_room) => `(tactic| ((simp only [depth_under_make, depth_under_kw, depth_in1, depth_deeper, depth_caller]); (try dsimp only [AA] at *); omega))
local macro_rules | `(tactic| k_units) => `(tactic| ((simp only [units_in1, units_deeper, Around.mark_units, units_caller]); (try dsimp only [AA] at *); omega))
-- enter a def of the top with the ledger at hand
local macro_rules | `(tactic| walk_at "m_enter") => `(tactic| (
  refine' call_subK (by assumption) (by assumption) ?q9k1 ?q9k2 ?q9k3 ?q9k4 ?q9k5 ?_ ?q9k6 ?q9k7 ?q9k8 ?q9k9
  (case q9k1 => k_is)
  (case q9k2 => k_is)
  (case q9k3 => k_room)
  (case q9k4 => exact BindsTo.of_eq rfl)
  (case q9k5 => exact locs rfl)
  (case q9k6 => decide)
  (case q9k7 => exact rfl)
  (case q9k8 => exact rfl)
  (case q9k9 => exact rfl)))
-- the caller's context
local macro_rules | `(tactic| walk_at "m_cx") => `(tactic| k_dflt (
  refine' mkCx ?q9F ?q9B ?q9X ?q9T ?q9a ?q9b ?q9c
  (case q9F => k_asm)
  (case q9B => k_asm)
  (case q9X => k_asm)
  (case q9T => k_asm)
  (case q9a => exact rfl)
  (case q9b => exact rfl)
  (case q9c => exact rfl)))
local macro_rules | `(tactic| walk_at "m_depth") => `(tactic| ((simp only [depth_mark, depth_under_make, depth_under_kw, depth_in1, depth_deeper, depth_caller]); first | (dsimp only [AA]; omega) | omega | decide))
local macro_rules | `(tactic| walk_at "m_unit") => `(tactic| first | ((simp only [units_in1, units_deeper, Around.mark_units, units_caller]); first | (dsimp only [AA]; omega) | omega | decide) | exact Nat.le_of_ble_eq_true rfl)
local macro_rules | `(tactic| walk_at "call ref") => `(tactic| (k_here; first
  | ((with_reducible show wpAny _ _ (call (Value.ref 62) [Value.bytes _ _]) _ _ _); k_dflt (refine' vib_spec ?q9C ?q9d ?q9u ?q9N ?_); (case q9C => walk_at "m_cx"); (case q9d => walk_at "m_depth"); (case q9u => walk_at "m_unit"); (case q9N => k_asm); intro h' tk' F' N' _; (try k_sweep))
  | ((with_reducible show wpAny _ _ (call (Value.ref 35) [_, _]) _ _ _); k_dflt (refine' cast_spec ?q9C ?q9d ?q9u ?q9N ?_); (case q9C => walk_at "m_cx"); (case q9d => walk_at "m_depth"); (case q9u => walk_at "m_unit"); (case q9N => k_asm); intro h' tk' F' N' _; (try k_sweep))
  | ((with_reducible show wpAny _ _ (call (Value.ref 42) [Value.bytes _ _]) _ _ _); k_dflt (refine' toint_spec ?q9C ?q9d ?q9u ?q9N ?_); (case q9C => walk_at "m_cx"); (case q9d => walk_at "m_depth"); (case q9u => walk_at "m_unit"); (case q9N => k_asm); intro h' tk' t' F' N' _; (try k_sweep))
  | ((with_reducible show wpAny _ _ (call (Value.ref 69) [Value.bytes _ _, _]) _ _ _); k_dflt (refine' vlb_spec ?q9C ?q9d ?q9u ?q9N ?_); (case q9C => walk_at "m_cx"); (case q9d => walk_at "m_depth"); (case q9u => walk_at "m_unit"); (case q9N => k_asm); intro h' tk' F' N' _; (try k_sweep))
  | ((with_reducible show wpAny _ _ (call (Value.ref 69) [Value.ref _, _]) _ _ _); k_dflt (refine' vlt_spec ?q9C ?q9d ?q9u ?q9N ?q9t ?q9n ?_); (case q9C => walk_at "m_cx"); (case q9d => walk_at "m_depth"); (case q9u => walk_at "m_unit"); (case q9N => k_asm); (case q9t => exact IsTup.keeps (by assumption) (Fr.keep (by assumption))); (case q9n => assumption); intro h' tk' F' N' _; (try k_sweep))))
local macro_rules | `(tactic| walk_at "m_fn") => `(tactic| k_dflt (exact IsFnIn.at (by assumption) (AllAt.keeps (by assumption) (Fr.keep (by assumption)))))
local macro_rules | `(tactic| walk_at "m_all") => `(tactic| k_dflt (exact AllAt.keeps (by assumption) (Fr.keep (by assumption))))
local macro_rules | `(tactic| walk_at "FnAt") => `(tactic| walk_at "m_fn")
local macro_rules | `(tactic| walk_at "callWith ref") => `(tactic| (k_here; k_dflt (refine' callWith_F ?q9k1 ?_; (case q9k1 => walk_at "m_fn"))))
local macro_rules | `(tactic| walk_at "call ref") => `(tactic| (k_here; (with_reducible show wpAny _ _ (call (Value.ref _) [Value.bytes _ _]) _ _ _); k_dflt (refine' hash_use (by assumption) ?q9C ?q9d ?q9u ?q9N ?q9H ?q9U ?q9S ?q9l ?_); (case q9C => walk_at "m_cx"); (case q9d => walk_at "m_depth"); (case q9u => walk_at "m_unit"); (case q9N => k_asm); (case q9H => walk_at "m_all"); (case q9U => k_updF); (case q9S => k_asm); (case q9l => omega); intro h' oS' t' tk' F' N' hS' hl'; (try dsimp only at N'); (try k_sweep)))
local macro_rules | `(tactic| walk_at "binaryOp Add bytes bytes") => `(tactic| (k_here; (with_reducible show wpAny _ _ (binaryOp Operator.Add (Value.bytes _ _) (Value.bytes _ _)) _ _ _); (refine KBy.add_bytes (by omega) ?_); intro _ _))
local macro_rules | `(tactic| walk_at "call builtin:len") => `(tactic| (k_here; first
  | ((with_reducible show wpAny _ _ (call (Value.builtin "len") [Value.bytes _ _]) _ _ _); refine len_b1 ?_)
  | ((with_reducible show wpAny _ _ (call (Value.builtin "len") [Value.ref _]) _ _ _); refine len_tupB (by assumption) (by assumption) (by assumption) ?_)))

local macro_rules | `(tactic| walk_at "subscriptTail") => `(tactic| (k_here; (with_reducible show wpAny _ _ (subscriptTail _ _ (Value.ref _) (Value.bytes _ _)) _ _ _); k_dflt (refine' db_item ?q9N ?q9m ?q9D ?q9k ?_; (case q9N => k_asm); (case q9m => k_mem); (case q9D => k_asm); (case q9k => k_asm)); intro _ _))
local macro_rules | `(tactic| walk_at "subscriptTail") => `(tactic| (k_here; (with_reducible show wpAny _ _ (subscriptTail _ (Expr.Slice _ _ none _) (Value.bytes (_ ++ _) _) (Value.ref _)) _ _ _); (with_reducible rename Fr _ _ _ _ => F'); (with_reducible rename News _ _ _ _ => N'); k_dflt (first
  | (refine slice_lo (s := ⟨_, _, _, _, _⟩) F' N' (by assumption) (by assumption) ?_)
  | (refine slice_hi (s := ⟨_, _, _, _, _⟩) F' N' (by assumption) (by assumption) ?_)); intro _ _ _ F' N'; (try k_sweep)))
local macro_rules | `(tactic| walk_at "call builtin:list.append") => `(tactic| (k_here; (with_reducible show wpAny _ _ (call (Value.builtin _) [Value.ref _, _]) _ _ _); k_dflt (refine' append_L ?q9F ?q9N ?q9U ?_ ?q9z; (case q9F => k_asm); (case q9N => k_asm); (case q9U => k_updF); (case q9z => first | omega | exact Nat.le_of_ble_eq_true rfl)); intro h' F' N'; (try dsimp only [List.nil_append, List.cons_append] at N'); (try k_sweep)))
local macro_rules | `(tactic| walk_at "call type:tuple") => `(tactic| (k_here; (with_reducible show wpAny _ _ (call (Value.type "tuple") [Value.ref _]) _ _ _); k_dflt (refine' tuple_L ?q9F ?q9N ?q9m ?q9z ?_; (case q9F => k_asm); (case q9N => k_asm); (case q9m => k_mem); (case q9z => omega)); intro D' h' F' N' l1; (try k_lt l1); (try k_sweep)))

local macro_rules | `(tactic| walk_at "call type:tuple") => `(tactic| (k_here; (with_reducible show wpAny _ _ (call (Value.type "tuple") [Value.ref _]) _ _ _); k_dflt (refine' tuple_rev rfl ?q9F ?q9N ?q9I ?q9m ?q9z ?_; (case q9F => k_asm); (case q9N => k_asm); (case q9I => k_all); (case q9m => k_mem); (case q9z => omega)); intro D' h' tk' F' N' l1; (try k_lt l1); (try k_sweep)))
local macro_rules | `(tactic| walk_at "call type:reversed") => `(tactic| (k_here; (with_reducible show wpAny _ _ (call (Value.type "reversed") [Value.ref _]) _ _ _); k_dflt (first
  | (refine' rev_K ?q9F ?q9N ?q9t ?q9n ?_; (case q9F => k_asm); (case q9N => k_asm); (case q9t => assumption); (case q9n => assumption); intro D' h' tk' F' N' l1; (try k_lt l1); (try k_sweep))
  | (refine' rev_KN ?q9F ?q9N ?q9m ?q9n ?_; (case q9F => k_asm); (case q9N => k_asm); (case q9m => k_mem); (case q9n => assumption); intro D' h' tk' F' N' l1; (try k_lt l1); (try k_sweep))
  | (refine' revL_K ?q9F ?q9N ?q9m ?_; (case q9F => k_asm); (case q9N => k_asm); (case q9m => k_mem); intro D' h' F' N' l1; (try k_lt l1); (try k_sweep)))))
local macro_rules | `(tactic| walk_at "setItem ref bytes") => `(tactic| (k_here; k_dflt (refine' db_set ?q9F ?q9N ?q9U ?q9D ?q9n ?_; (case q9F => k_asm); (case q9N => k_asm); (case q9U => k_updF); (case q9D => k_asm); (case q9n => omega)); intro h' o' F' N' hD'; (try dsimp only at N'); (try k_sweep)))
local macro_rules | `(tactic| walk_at "call ref") => `(tactic| (k_here; (with_reducible show wpAny _ _ (call (Value.ref 183) [Value.ref _, Value.bytes _ _]) _ _ _); k_dflt (refine' get_spec ?q9C ?q9d ?q9u rfl ?q9N ?q9m1 ?q9m2 ?q9m3 ?q9T ?q9D ?q9W ?_; (case q9C => walk_at "m_cx"); (case q9d => walk_at "m_depth"); (case q9u => walk_at "m_unit"); (case q9N => k_asm); (case q9m1 => k_mem); (case q9m2 => k_mem); (case q9T => first | assumption | exact ⟨_, _, _, _, _, _, _, _, _, _, rfl⟩); (case q9m3 => k_mem); (case q9D => assumption); (case q9W => assumption)); intro h' Dt Db vs' tv tk' F' N' n1 n2 n3 K' hvs' hvl'; (try k_sweep)))

local macro_rules | `(tactic| walk_at "call builtin:list.insert") => `(tactic| (k_here; (with_reducible show wpAny _ _ (call (Value.builtin _) [Value.ref _, _, _]) _ _ _); k_dflt (refine' insert0_L ?q9F ?q9N ?q9U ?q9z ?_; (case q9F => k_asm); (case q9N => k_asm); (case q9U => k_updF); (case q9z => omega)); intro h' F' N'; (try dsimp only at N'); (try k_sweep)))

local macro_rules | `(tactic| walk_at "m_sub") => `(tactic| first | exact (fun _ h => absurd h (List.not_mem_nil)) | (refine List.forall_mem_cons.mpr ⟨by k_mem, ?_⟩; walk_at "m_sub"))
local macro_rules | `(tactic| walk_at "m_all") => `(tactic| k_dflt (exact allAt_news (by k_asm) (by walk_at "m_sub")))
local macro_rules | `(tactic| walk_at "m_fn") => `(tactic| k_dflt (exact IsFnIn.at (by assumption) (allAt_news (by k_asm) (by walk_at "m_sub"))))
local macro_rules | `(tactic| walk_at "call ref") => `(tactic| (k_here; first
  | ((with_reducible show wpAny _ _ (call (Value.ref 190) [Value.ref _, Value.bytes _ _, Value.bytes _ _]) _ _ _); k_dflt (refine' gset (by assumption) ?q9C ?q9d ?q9u rfl ?q9N ?q9m1 ?q9S ?q9T ?q9D ?q9G ?q9U1 ?q9U2 ?q9U3 ?q9n1 ?q9n2 ?q9n3 ?q9H ?q9o ?q9f ?q9nd ?q9l ?q9v ?_; (case q9C => walk_at "m_cx"); (case q9d => walk_at "m_depth"); (case q9u => walk_at "m_unit"); (case q9N => k_asm); (case q9m1 => k_mem); (case q9S => assumption); (case q9T => assumption); (case q9D => assumption); (case q9G => assumption); (case q9U1 => k_updF); (case q9U2 => intro _; k_updF); (case q9U3 => intro _ _; k_updF); (case q9H => walk_at "m_sub"); (case q9o => assumption); (case q9f => assumption); (case q9n1 => omega); (case q9n2 => omega); (case q9n3 => omega); (case q9nd => omega); (case q9l => omega); (case q9v => first | assumption | exact Nat.one_ne_zero | decide)); intro h' oS' od' oDB' Dt' vs' tk' S' D' root' F' N' n1 hS' hl' hT' hD' hG' hvl'; (try dsimp only at N'); (replace N' := news_tl N'); (clear n1); (have hT2 := hT'); (k_dflt (obtain ⟨_, _, _, _, _, _, _, _, _, _, e9⟩ := hT')); (subst e9); (try k_sweep))
  | ((with_reducible show wpAny _ _ (call (Value.ref 176) [Value.ref _, Value.bytes _ _]) _ _ _); k_dflt (refine' gbranch ?q9C ?q9d ?q9u rfl ?q9N ?q9m1 ?q9m2 ?q9T ?q9m3 ?q9D ?q9G ?_; (case q9C => walk_at "m_cx"); (case q9d => walk_at "m_depth"); (case q9u => walk_at "m_unit"); (case q9N => k_asm); (case q9m1 => k_mem); (case q9m2 => k_mem); (case q9T => assumption); (case q9m3 => k_mem); (case q9D => assumption); (case q9G => assumption)); intro h' Db' vs' tk' F' N' n1 hvs' hvl'; (try k_sweep))))
local macro_rules | `(tactic| walk_at "call ref") => `(tactic| (k_here; (with_reducible show wpAny _ _ (call (Value.ref 69) [Value.ref _, _]) _ _ _); k_dflt (refine' vlt_spec ?q9C ?q9d ?q9u ?q9N ?q9t ?q9n ?_; (case q9C => walk_at "m_cx"); (case q9d => walk_at "m_depth"); (case q9u => walk_at "m_unit"); (case q9N => k_asm); (case q9t => exact News.isTup (by k_asm) (by k_mem)); (case q9n => assumption)); intro h' tk' F' N' _; (try k_sweep)))
local macro_rules | `(tactic| walk_at "call builtin:len") => `(tactic| (k_here; (with_reducible show wpAny _ _ (call (Value.builtin "len") [Value.ref _]) _ _ _); k_dflt (refine' len_tupN8 ?q9N ?q9m ?q9n ?_; (case q9N => k_asm); (case q9m => k_mem); (case q9n => assumption))))
local macro_rules | `(tactic| walk_at "call type:bytes") => `(tactic| (k_here; (with_reducible show wpAny _ _ (call (Value.type "bytes") [Value.ref _]) _ _ _); k_dflt (refine' bytes1 ?q9F ?q9N ?q9h ?_; (case q9F => k_asm); (case q9N => k_asm); (case q9h => exact rfl)); intro h' t' tk' F' N'; (try k_sweep)))
local macro_rules | `(tactic| walk_at "call ref") => `(tactic| (k_here; (with_reducible show wpAny _ _ (call (Value.ref 132) [Value.bytes _ _, Value.bytes _ _, Value.ref _, Value.ref _]) _ _ _); k_dflt (refine' own_new ?q9C ?q9d ?q9u ?q9N ?q9m2 ?q9v ?_; (case q9C => walk_at "m_cx"); (case q9d => walk_at "m_depth"); (case q9u => walk_at "m_unit"); (case q9N => k_asm); (case q9m2 => k_mem); (case q9v => assumption)); intro h' x' d' lb' c' od' tk' F' N' l1 l2 n1 hO'; (try k_sweep)))
local macro_rules | `(tactic| walk_at "m_nb") => `(tactic| first | assumption | exact (fun q => nomatch q))
local macro_rules | `(tactic| walk_at "m_ok") => `(tactic| first | assumption | exact Or.inl rfl)
local macro_rules | `(tactic| walk_at "m_od") => `(tactic| first | assumption | exact (fun _ q => nomatch q))
local macro_rules | `(tactic| walk_at "getAttr ref") => `(tactic| (k_here; k_dflt (refine' get_prop ?q9k1 ?q9k2 ?q9k3 ?q9k4 ?q9k5 ?q9k6 ?q9k7 ?q9k8 ?q9k9 ?_; (case q9k1 => k_asm); (case q9k2 => k_asm); (case q9k3 => k_inst); (case q9k4 => k_is); (case q9k5 => k_is); (case q9k6 => k_is); (case q9k7 => k_is); (case q9k8 => k_is); (case q9k9 => k_is)); first
  | (k_dflt (refine' own_val ?q9C ?q9d ?q9u ?q9N ?q9m1 ?q9m2 ?q9T ?_; (case q9C => walk_at "m_cx"); (case q9d => walk_at "m_depth"); (case q9u => walk_at "m_unit"); (case q9N => k_asm); (case q9m1 => k_mem); (case q9T => assumption); (case q9m2 => k_mem)); intro h' t' tk' F' N'; (k_dflt (refine handed_on ?q9x ?_; (case q9x => exact rfl))); (try k_sweep))
  | (k_dflt (refine' own_branch ?q9C ?q9d ?q9u ?q9N ?q9m1 ?q9m2 ?q9T ?q9m3 ?q9v ?_; (case q9C => walk_at "m_cx"); (case q9d => walk_at "m_depth"); (case q9u => walk_at "m_unit"); (case q9N => k_asm); (case q9m1 => k_mem); (case q9T => assumption); (case q9m2 => k_mem); (case q9m3 => k_mem); (case q9v => assumption)); intro h' Db' tk' F' N' n1; (k_dflt (refine handed_on ?q9x ?_; (case q9x => exact rfl))); (try k_sweep))
  | (k_dflt (refine' own_root (by assumption) ?q9C ?q9d ?q9u ?q9N ?q9m1 ?q9m2 ?q9T ?q9m3 ?q9v ?q9S ?q9b ?q9G ?q9e ?q9U ?q9H ?q9o ?q9f ?q9e1 ?q9e2 ?q9e3 ?q9l ?q9nb ?q9ok ?q9od ?_; (case q9C => walk_at "m_cx"); (case q9d => walk_at "m_depth"); (case q9u => walk_at "m_unit"); (case q9N => k_asm); (case q9m1 => k_mem); (case q9T => assumption); (case q9m2 => k_mem); (case q9m3 => k_mem); (case q9v => assumption); (case q9S => assumption); (case q9b => assumption); (case q9G => assumption); (case q9e => first | exact rfl | assumption); (case q9U => k_updF); (case q9H => walk_at "m_all"); (case q9o => assumption); (case q9f => assumption); (case q9e1 => k_ne); (case q9e2 => k_ne); (case q9e3 => k_ne); (case q9l => omega); (case q9nb => walk_at "m_nb"); (case q9ok => walk_at "m_ok"); (case q9od => walk_at "m_od")); intro h' oS' t' tk' F' N' hS'; (try dsimp only at N'); (k_dflt (refine handed_on ?q9x ?_; (case q9x => exact rfl))); (try k_sweep))))
local macro_rules | `(tactic| walk_at "call ref") => `(tactic| (k_here; (with_reducible show wpAny _ _ (call (Value.ref 169) [Value.ref _, Value.bytes _ _]) _ _ _); k_dflt (refine' gget ?q9C ?q9d ?q9u rfl ?q9N ?q9m1 ?q9m2 ?q9T ?q9m3 ?q9D ?q9G ?_; (case q9C => walk_at "m_cx"); (case q9d => walk_at "m_depth"); (case q9u => walk_at "m_unit"); (case q9N => k_asm); (case q9m1 => k_mem); (case q9m2 => k_mem); (case q9T => assumption); (case q9m3 => k_mem); (case q9D => assumption); (case q9G => assumption)); intro h' tv' tk' F' N'; (try k_sweep)))
local macro_rules | `(tactic| walk_at "compareOp NotEq ref ref") => `(tactic| (k_here; k_dflt (refine' ne_btups ?q9N ?q9m1 ?q9m2 ?q9x ?q9y ?q9u ?_; (case q9N => k_asm); (case q9m1 => k_mem); (case q9m2 => k_mem); (case q9x => assumption); (case q9y => assumption); (case q9u => walk_at "m_unit")); (try k_sweep)))
local macro_rules | `(tactic| walk_at "subscriptTail") => `(tactic| (k_here; (with_reducible show wpAny _ _ (subscriptTail _ _ (Value.ref _) (Value.int _ _)) _ _ _); k_dflt (refine' list_item ?q9N ?q9m ?q9x ?q9k ?q9n ?_; (case q9N => k_asm); (case q9m => k_mem); (case q9x => assumption); (case q9k => omega); (case q9n => omega))))
local macro_rules | `(tactic| walk_at "execs cons") => `(tactic| (k_here; (with_reducible show wpAny _ _ (execs (Stmt.Expr _ _ :: Stmt.Assign _ _ _ :: _) _) _ _ _); refine Stop.intro ?_))
local macro_rules | `(tactic| walk_at "call ref") => `(tactic| (k_here; (with_reducible show wpAny _ _ (call (Value.ref 129) [Value.ref _, Value.bytes _ _, Value.bytes _ _, Value.ref _]) _ _ _); refine Stop.intro ?_))
local macro_rules | `(tactic| walk_at "subscriptTail") => `(tactic| (k_here; (with_reducible show wpAny _ _ (subscriptTail _ (Expr.Slice _ _ _ _) (Value.ref _) (Value.ref _)) _ _ _); (with_reducible rename Fr _ _ _ _ => F'); (with_reducible rename News _ _ _ _ => N'); k_dflt (refine' tup_upto (b := Int.toNat _) (s := ⟨_, _, _, _, _⟩) F' N' ?q9m ?q9z ?q9k ?q9h1 ?q9h2; (case q9m => k_mem); (case q9z => omega); (case q9k => refine (Int.toNat_of_nonneg ?_).symm; first | omega | (split <;> omega))); (case' q9h1 => (intro hb D' h' F' N' n1; (try k_sweep))); (case' q9h2 => (intro hb h' F' N'; (try k_sweep)))))
local macro_rules | `(tactic| walk_at "exec Try") => `(tactic| (k_here; (with_reducible show wpAny _ _ (exec (Stmt.Try _ (_ :: _) _ [] _) _) _ _ _); refine wpAny_Try_except ?_))
local macro_rules | `(tactic| walk_at "m_nb") => `(tactic| (intro q; cases q))
local macro_rules | `(tactic| walk_at "m_nb") => `(tactic| first | assumption | exact (fun q => nomatch q))
local macro_rules | `(tactic| walk_at "m_ok") => `(tactic| exact ExcO.hok (by assumption) (by k_asm) (by k_mem))
local macro_rules | `(tactic| walk_at "m_ok") => `(tactic| first | assumption | exact Or.inl rfl)
local macro_rules | `(tactic| walk_at "compareOp NotEq ref ref") => `(tactic| (k_here; k_dflt (refine' ne_three ?q9N ?q9m1 ?q9m2 ?q9m3 ?q9m4 ?q9x ?q9y ?q9n ?q9u ?_; (case q9N => k_asm); (case q9m1 => k_mem); (case q9m2 => k_mem); (case q9m3 => k_mem); (case q9m4 => k_mem); (case q9x => assumption); (case q9y => assumption); (case q9n => k_ne); (case q9u => walk_at "m_unit")); (try k_sweep)))
theorem owner_turn {w : World} {p : Program} {loose : List Str} {mean : ExcName → Option Value} {mg mb : Str → Option Value} {h₀ : Heap} {L fa : Addr} {s : Shared} {m : Str → Option Value} {Q : Flow → Shared → Prop}
    {oc : Value} {od : Option Addr} {ln lq : Str} {lp : Arguments} {ls : Scope} {dV kV doc pm cdv ct : Value} {an : Option Addr} {osl : Array (Option Value)} {s0 s1 s2 s3 s4 s5 s6 s7 s8 s9 s10 : Stmt} {rest : List Stmt}
    {tg0 tg1 : PySem.Expr} {it0 it1 : PySem.Expr} {d0 d1 d2 d3 d4 : Stmt} {body2 els0 els1 drest : List Stmt} {pos0 pos1 : Pos}
    {dDB x dx f c dS D1 cl lk lb ow dow Dt : Addr} {oDB odT fo occ oS ocl odo : Obj} {vs kvs : List Value} {kb pb : UInt8} {v : Array UInt8} {us ws : List Value} {ns : List Int} {T9 : List (Array UInt8)} {kk : Nat} {ck cb : Nat} {S : Texts} {D Dold : List UInt8 → Option (Array UInt8)} {root rold : Array UInt8} {nD pl : Nat} {V V' : Nat → Array UInt8}
    {t0 t1 t2 t3 t4 : Tok} {own : List (Addr × Obj)}
    (hlaw : (hd.heap_39 w.params).lookup 251 = some ⟨oc, od, .func (fnOf ln lq lp (s0 :: s1 :: s2 :: s3 :: s4 :: s5 :: s6 :: s7 :: s8 :: s9 :: s10 :: Stmt.For tg0 it0 (d0 :: d1 :: d2 :: d3 :: d4 :: Stmt.For tg1 it1 body2 els1 pos1 :: drest) els0 pos0 :: rest) ls dV kV doc pm an cdv ct), osl⟩)
    (B : Below callerA h₀ [] h₀) (X : (hd.heap_39 w.params).In h₀) (T : Top p loose mean mg mb h₀)
    (hW : IntsAre ws ns) (hn : ns.length = 13) (hkk : 3 ≤ kk ∧ kk ≤ 11) (F : Fr h₀ L s.heap m) (hm : ∀ q ∈ [(Str.ofString "numbers", some (.ref D1)), (Str.ofString "k", some (.int (kk : Int) t0)), (Str.ofString "tree", some (.ref x)), (Str.ofString "keys", some (.ref lk)), (Str.ofString "place", some (.int (pl : Int) t3)), (Str.ofString "owner", some (.ref ow)), (Str.ofString "key", some (.int (pb.toNat : Int) t1)), (Str.ofString "what", some (.bytes v t2)), (Str.ofString "told", some (.ref Dt))], m q.1 = q.2)
    (N : News h₀ L s.heap ([(ow, instObj 132 dow), (dow, odo), (lb, listOf vs.toArray cb), (Dt, tup us), (lk, listOf kvs.toArray ck), (dDB, oDB), (x, instObj 235 dx), (dx, odT), (f, fo), (c, occ), (dS, oS), (D1, listOf ws.toArray 0), (cl, ocl)] ++ own))
    (l1 : @LT.lt Nat _ cl D1 ∧ @LT.lt Nat _ D1 dS ∧ @LT.lt Nat _ dS c ∧ @LT.lt Nat _ c f ∧ @LT.lt Nat _ f dx ∧ @LT.lt Nat _ dx x ∧ @LT.lt Nat _ x dDB ∧ @LT.lt Nat _ dDB lk ∧ @LT.lt Nat _ lk dow ∧ @LT.lt Nat _ dow ow) (l2 : ∀ p ∈ [(ow, ocl), (dow, ocl), (lk, ocl), (dDB, ocl), (x, ocl), (dx, ocl), (f, ocl), (c, ocl), (dS, ocl), (D1, ocl), (cl, ocl)], p.1 ≠ lb) (l3 : @Ne Nat cl lb ∧ @Ne Nat c lb ∧ @Ne Nat f lb ∧ @Ne Nat dS lb) (l4 : ∀ p ∈ [(ow, ocl), (dow, ocl), (lb, ocl), (lk, ocl), (dDB, ocl), (x, ocl), (dx, ocl), (f, ocl), (c, ocl), (dS, ocl), (D1, ocl), (cl, ocl)], p.1 ≠ Dt)
    (hown : OwnOff own [ow, dow, lb, Dt, lk, dDB, x, dx, f, c, dS, D1, cl])
    (HS : HashSpec w p loose mean mg mb [(f, fo), (c, occ), (cl, ocl)] f dS) (hf : IsFnIn f [(f, fo), (c, occ), (cl, ocl)])
    (hkv : kvs[pl]? = some (.int (kb.toNat : Int) t4)) (hkvl : kvs.length ≤ 10)
    (hO : OwnD w f lb kb (V kb.toNat) odo) (hvs : BytesAre vs (brn S V kb.toNat)) (hvl : vs.length = 8)
    (hT : TreeD w f dDB root odT) (hD : DbObj w oDB D nD) (hS : SeenObj w oS S) (G : Good S D root V') (Gold : Good S Dold rold V) (hDn : Done S V V' pb.toNat v T9) (hus : BytesAre us T9) (hul : us.length = 8) (hlS : S.length ≤ 1000)
    (ret : ∀ h' tk' oS' odo' vs' m', Fr h₀ L h' m' → (∀ z, z ∉ [Str.ofString "mine", Str.ofString "parts", Str.ofString "short", Str.ofString "before"] → m' z = m z) → News h₀ L h' ([(ow, instObj 132 dow), (dow, odo'), (lb, listOf vs'.toArray cb), (Dt, tup us), (lk, listOf kvs.toArray ck), (dDB, oDB), (x, instObj 235 dx), (dx, odT), (f, fo), (c, occ), (dS, oS'), (D1, listOf ws.toArray 0), (cl, ocl)] ++ own) → SeenObj w oS' S →
      OwnD w f lb kb (V' kb.toNat) odo' → BytesAre vs' (brn S V' kb.toNat) → vs'.length = 8 → Q .next { s with heap := h', toks := tk' }) :
    wpAny (model Challenge.rw_bi0032_01.row.prog w) (callerA.deeper (envOfC ln ls L fa (.ref 250))) (execs body2 (envOfC ln ls L fa (.ref 250))) Q (fun _ _ => False) s := by
  have hk8 := UInt8.toNat_lt kb
  have hp8 := UInt8.toNat_lt pb
  have hp9 := part_le kb.toNat pb.toNat
  have hpi := part_int hk8 hp8
  have hsh9 : 0 ≤ ((ns.getD ((kk : Int) + 1).toNat 0).fdiv 256).fmod 9 ∧ ((ns.getD ((kk : Int) + 1).toNat 0).fdiv 256).fmod 9 ≤ 8 := by
    have h1 := Int.fmod_nonneg_of_pos ((ns.getD ((kk : Int) + 1).toNat 0).fdiv 256) (b := 9) (by decide)
    have h2 := Int.fmod_lt_of_pos ((ns.getD ((kk : Int) + 1).toNat 0).fdiv 256) (b := 9) (by decide)
    exact ⟨h1, by omega⟩
  have hoffO : ∀ q ∈ [(f, fo), (c, occ), (cl, ocl)], q.1 ≠ dS ∧ q.1 ≠ dow ∧ q.1 ≠ ow ∧ q.1 ≠ lb := by
    intro q hq
    simp only [List.mem_cons, List.not_mem_nil, or_false] at hq
    rcases hq with rfl | rfl | rfl <;> (dsimp only; refine ⟨?_, ?_, ?_, ?_⟩ <;> (show @Ne Nat _ _; (try k_ne)))
  have hlaw2 : Stop _ := hlaw
  have X0 := X; revert X; k_fill; intro X
  refine' absorbK hlaw ?k ?_
  case k => k_is
  intro e
  cases e
  clear hlaw
  have hT2 := hT
  obtain ⟨_, _, _, _, _, _, _, _, _, _, rfl⟩ := hT
  have hO2 := hO
  obtain ⟨_, _, _, _, _, _, _, _, _, _, rfl⟩ := hO
  dsimp only [List.cons_append, List.nil_append] at N
  have em := ovr_self hm
  rw [← em] at F
  k_steps
  · exfalso
    omega
  · (with_reducible rename News _ _ _ _ => N9)
    (with_reducible rename Fr _ _ _ _ => F9)
    refine Stop.out ?_
    have hne : kb ≠ pb := by
      intro q
      subst q
      have := part_self kb.toNat
      omega
    k_dflt (refine' upd_raise (A₀ := callerA) B rfl rfl rfl F9 X0 T ?q9d ?q9u rfl N9 ?q9m1 ?q9m2 ?q9m3 ?q9m4 ?e1 ?e2 ?e3 ?e4 ?e5 ?e6 hO2 hvl ?q9l hne ?q9s ?q9r)
    case q9d => walk_at "m_depth"
    case q9u => walk_at "m_unit"
    case q9m1 => k_mem
    case q9m2 => k_mem
    case q9m3 => k_mem
    case q9m4 => k_mem
    case e1 => k_ne
    case e2 => k_ne
    case e3 => k_ne
    case e4 => k_ne
    case e5 => k_ne
    case e6 => k_ne
    case q9l => rw [List.length_take]; omega
    case q9s => rw [List.length_take]; omega
    case q9r =>
      intro g h2 e t vs' tk2 Fg Ug Rg c2
      clear F9 N9
      (try dsimp only)
      refine' caught_law (bmB := [.type "Exception", .type "BaseException", .type "object"]) (newId := "Exception.__new__") B Fg Ug Rg c2 X ?q9T ?q9ex ?q9q rfl ?q9k
      case q9T => k_asm
      case q9ex => k_is
      case q9q => k_exc
      case q9k =>
        clear Fg Ug Rg c2
        intro h3 oe F3 N3 hx he
        have hod9 : ∀ a ∈ hndA (some (.ref e)), a ≠ dS ∧ a ≠ dow ∧ a ≠ ow ∧ a ≠ lb := by
          intro a ha
          have ha : a = e := by simpa [hndA] using ha
          subst ha
          exact ⟨Ne.symm (he (dS, _) (by k_mem)), Ne.symm (he (dow, _) (by k_mem)), Ne.symm (he (ow, _) (by k_mem)), Ne.symm (he (lb, _) (by k_mem))⟩
        k_steps
        refine Stop.out ?_
        (with_reducible rename Fr _ _ _ _ => F4)
        (with_reducible rename News _ _ _ _ => N4)
        refine' owner_rest (V := V) (V' := V') (own := own) (kb := kb) (pb := pb) hlaw2 B X0 T F4 ?hm5 ?N5 l1 l2 l3 l4 hown HS hf hkv hkvl hO2 hvs hvl hT2 hD ?hS5 G ?hP5 ?hsh5 hDn hus hul hlS ?ret5
        case hm5 =>
          repeat (refine List.forall_mem_cons.mpr ⟨rfl, ?_⟩)
          exact fun _ h => absurd h List.not_mem_nil
        case N5 => first | exact N4 | exact (news_tl N4) | exact (news_tl (news_tl N4)) | exact (news_tl (news_tl (news_tl N4))) | exact (news_tl (news_tl (news_tl (news_tl N4)))) | exact (news_tl (news_tl (news_tl (news_tl (news_tl N4))))) | exact (news_tl (news_tl (news_tl (news_tl (news_tl (news_tl N4)))))) | exact (news_tl (news_tl (news_tl (news_tl (news_tl (news_tl (news_tl N4))))))) | exact (news_tl (news_tl (news_tl (news_tl (news_tl (news_tl (news_tl (news_tl N4))))))))
        case hS5 => assumption
        case hP5 => exact hpi.symm
        case hsh5 => exact hsh9
        case ret5 =>
          intro h' tk' oS' odo' vs' m' F m_eq N hS hO hv hl
          refine ret h' tk' oS' odo' vs' m' F (fun z hz => ?_) N hS hO hv hl
          simp only [List.mem_cons, List.not_mem_nil, or_false, not_or] at hz
          rw [m_eq z hz.1]
          simp only [hz.2.1, hz.2.2.1, hz.2.2.2, if_false]
          exact congrFun em z

  · skip
    refine Stop.out ?_
    (with_reducible rename Fr _ _ _ _ => F4)
    (with_reducible rename News _ _ _ _ => N4)
    refine' owner_rest (V := V) (V' := V') (own := own) (kb := kb) (pb := pb) hlaw2 B X0 T F4 ?hm5 ?N5 l1 l2 l3 l4 hown HS hf hkv hkvl hO2 hvs hvl hT2 hD ?hS5 G ?hP5 ?hsh5 hDn hus hul hlS ?ret5
    case hm5 =>
      repeat (refine List.forall_mem_cons.mpr ⟨rfl, ?_⟩)
      exact fun _ h => absurd h List.not_mem_nil
    case N5 => first | exact N4 | exact (news_tl N4) | exact (news_tl (news_tl N4)) | exact (news_tl (news_tl (news_tl N4))) | exact (news_tl (news_tl (news_tl (news_tl N4)))) | exact (news_tl (news_tl (news_tl (news_tl (news_tl N4))))) | exact (news_tl (news_tl (news_tl (news_tl (news_tl (news_tl N4)))))) | exact (news_tl (news_tl (news_tl (news_tl (news_tl (news_tl (news_tl N4))))))) | exact (news_tl (news_tl (news_tl (news_tl (news_tl (news_tl (news_tl (news_tl N4))))))))
    case hS5 => assumption
    case hP5 => exact hpi.symm
    case hsh5 => exact hsh9
    case ret5 =>
      intro h' tk' oS' odo' vs' m' F m_eq N hS hO hv hl
      refine ret h' tk' oS' odo' vs' m' F (fun z hz => ?_) N hS hO hv hl
      simp only [List.mem_cons, List.not_mem_nil, or_false, not_or] at hz
      rw [m_eq z hz.1]
      simp only [hz.2.1, hz.2.2.1, hz.2.2.2, if_false]
      exact congrFun em z

  · skip
    refine Stop.out ?_
    (with_reducible rename Fr _ _ _ _ => F4)
    (with_reducible rename News _ _ _ _ => N4)
    refine' owner_rest (V := V) (V' := V') (own := own) (kb := kb) (pb := pb) hlaw2 B X0 T F4 ?hm5 ?N5 l1 l2 l3 l4 hown HS hf hkv hkvl hO2 hvs hvl hT2 hD ?hS5 G ?hP5 ?hsh5 hDn hus hul hlS ?ret5
    case hm5 =>
      repeat (refine List.forall_mem_cons.mpr ⟨rfl, ?_⟩)
      exact fun _ h => absurd h List.not_mem_nil
    case N5 => first | exact N4 | exact (news_tl N4) | exact (news_tl (news_tl N4)) | exact (news_tl (news_tl (news_tl N4))) | exact (news_tl (news_tl (news_tl (news_tl N4)))) | exact (news_tl (news_tl (news_tl (news_tl (news_tl N4))))) | exact (news_tl (news_tl (news_tl (news_tl (news_tl (news_tl N4)))))) | exact (news_tl (news_tl (news_tl (news_tl (news_tl (news_tl (news_tl N4))))))) | exact (news_tl (news_tl (news_tl (news_tl (news_tl (news_tl (news_tl (news_tl N4))))))))
    case hS5 => assumption
    case hP5 => exact hpi.symm
    case hsh5 => exact hsh9
    case ret5 =>
      intro h' tk' oS' odo' vs' m' F m_eq N hS hO hv hl
      refine ret h' tk' oS' odo' vs' m' F (fun z hz => ?_) N hS hO hv hl
      simp only [List.mem_cons, List.not_mem_nil, or_false, not_or] at hz
      rw [m_eq z hz.1]
      simp only [hz.2.1, hz.2.2.1, hz.2.2.2, if_false]
      exact congrFun em z

end Mine
theorem Mine.freshLawD : True ∧ True := by w_top off; first | (walk1; all_goals trivial) | exact ⟨trivial, trivial⟩
-- part LawC
namespace Mine
open PySem PySem.W PyProof.Rows PySem.Calls
theorem ne_tag {tag : Addr → Nat} {a b : Addr} {i j : Nat} (h1 : tag a = i) (h2 : tag b = j) (h : i ≠ j) : a ≠ b := fun q => h (by rw [← h1, ← h2, q])
local macro_rules | `(tactic| k_lt $h:ident) => `(tactic| skip)
local macro_rules | `(tactic| k_ne) => `(tactic| ((try dsimp only); first
  | (refine' ne_lt_l ?q9h ?q9m; (case q9h => with_reducible assumption); (case q9m => k_dflt k_mem))
  | (refine' ne_lt_r ?q9h ?q9m; (case q9h => with_reducible assumption); (case q9m => k_dflt k_mem))
  | (refine' ne_tr_l ?q9l ?q9h ?q9m; (case q9l => with_reducible assumption); (case q9h => with_reducible assumption); (case q9m => k_dflt k_mem))
  | (refine' ne_tr_r ?q9l ?q9h ?q9m; (case q9l => with_reducible assumption); (case q9h => with_reducible assumption); (case q9m => k_dflt k_mem))
  | (refine' ne_ne_l ?q9h ?q9m; (case q9h => with_reducible assumption); (case q9m => k_dflt k_mem))
  | (refine' ne_ne_r ?q9h ?q9m; (case q9h => with_reducible assumption); (case q9m => k_dflt k_mem))
  | (refine neN ?_; (try dsimp only); omega)))
local macro_rules | `(tactic| k_room) => `(tactic| ((simp only [depth_under_make, depth_under_kw, depth_in1, depth_deeper, depth_caller]); (try dsimp only [AA] at *); omega))
local macro_rules | `(tactic| k_units) => `(tactic| ((simp only [units_in1, units_deeper, Around.mark_units, units_caller]); (try dsimp only [AA] at *); omega))
-- enter a def of the top with the ledger at hand
local macro_rules | `(tactic| walk_at "m_enter") => `(tactic| (
  refine' call_subK (by assumption) (by assumption) ?q9k1 ?q9k2 ?q9k3 ?q9k4 ?q9k5 ?_ ?q9k6 ?q9k7 ?q9k8 ?q9k9
  (case q9k1 => k_is)
  (case q9k2 => k_is)
  (case q9k3 => k_room)
  (case q9k4 => exact BindsTo.of_eq rfl)
  (case q9k5 => exact locs rfl)
  (case q9k6 => decide)
  (case q9k7 => exact rfl)
  (case q9k8 => exact rfl)
  (case q9k9 => exact rfl)))
-- the caller's context
local macro_rules | `(tactic| walk_at "m_cx") => `(tactic| k_dflt (
  refine' mkCx ?q9F ?q9B ?q9X ?q9T ?q9a ?q9b ?q9c
  (case q9F => k_asm)
  (case q9B => k_asm)
  (case q9X => k_asm)
  (case q9T => k_asm)
  (case q9a => exact rfl)
  (case q9b => exact rfl)
  (case q9c => exact rfl)))
local macro_rules | `(tactic| walk_at "m_depth") => `(tactic| ((simp only [depth_mark, depth_under_make, depth_under_kw, depth_in1, depth_deeper, depth_caller]); first | (dsimp only [AA]; omega) | omega | decide))
local macro_rules | `(tactic| walk_at "m_unit") => `(tactic| first | ((simp only [units_in1, units_deeper, Around.mark_units, units_caller]); first | (dsimp only [AA]; omega) | omega | decide) | exact Nat.le_of_ble_eq_true rfl)
local macro_rules | `(tactic| walk_at "call ref") => `(tactic| (k_here; first
  | ((with_reducible show wpAny _ _ (call (Value.ref 62) [Value.bytes _ _]) _ _ _); k_dflt (refine' vib_spec ?q9C ?q9d ?q9u ?q9N ?_); (case q9C => walk_at "m_cx"); (case q9d => walk_at "m_depth"); (case q9u => walk_at "m_unit"); (case q9N => k_asm); intro h' tk' F' N' _; (try k_sweep))
  | ((with_reducible show wpAny _ _ (call (Value.ref 35) [_, _]) _ _ _); k_dflt (refine' cast_spec ?q9C ?q9d ?q9u ?q9N ?_); (case q9C => walk_at "m_cx"); (case q9d => walk_at "m_depth"); (case q9u => walk_at "m_unit"); (case q9N => k_asm); intro h' tk' F' N' _; (try k_sweep))
  | ((with_reducible show wpAny _ _ (call (Value.ref 42) [Value.bytes _ _]) _ _ _); k_dflt (refine' toint_spec ?q9C ?q9d ?q9u ?q9N ?_); (case q9C => walk_at "m_cx"); (case q9d => walk_at "m_depth"); (case q9u => walk_at "m_unit"); (case q9N => k_asm); intro h' tk' t' F' N' _; (try k_sweep))
  | ((with_reducible show wpAny _ _ (call (Value.ref 69) [Value.bytes _ _, _]) _ _ _); k_dflt (refine' vlb_spec ?q9C ?q9d ?q9u ?q9N ?_); (case q9C => walk_at "m_cx"); (case q9d => walk_at "m_depth"); (case q9u => walk_at "m_unit"); (case q9N => k_asm); intro h' tk' F' N' _; (try k_sweep))
  | ((with_reducible show wpAny _ _ (call (Value.ref 69) [Value.ref _, _]) _ _ _); k_dflt (refine' vlt_spec ?q9C ?q9d ?q9u ?q9N ?q9t ?q9n ?_); (case q9C => walk_at "m_cx"); (case q9d => walk_at "m_depth"); (case q9u => walk_at "m_unit"); (case q9N => k_asm); (case q9t => exact IsTup.keeps (by assumption) (Fr.keep (by assumption))); (case q9n => assumption); intro h' tk' F' N' _; (try k_sweep))))
local macro_rules | `(tactic| walk_at "m_fn") => `(tactic| k_dflt (exact IsFnIn.at (by assumption) (AllAt.keeps (by assumption) (Fr.keep (by assumption)))))
local macro_rules | `(tactic| walk_at "m_all") => `(tactic| k_dflt (exact AllAt.keeps (by assumption) (Fr.keep (by assumption))))
local macro_rules | `(tactic| walk_at "FnAt") => `(tactic| walk_at "m_fn")
local macro_rules | `(tactic| walk_at "callWith ref") => `(tactic| (k_here; k_dflt (refine' callWith_F ?q9k1 ?_; (case q9k1 => walk_at "m_fn"))))
local macro_rules | `(tactic| walk_at "call ref") => `(tactic| (k_here; (with_reducible show wpAny _ _ (call (Value.ref _) [Value.bytes _ _]) _ _ _); k_dflt (refine' hash_use (by assumption) ?q9C ?q9d ?q9u ?q9N ?q9H ?q9U ?q9S ?q9l ?_); (case q9C => walk_at "m_cx"); (case q9d => walk_at "m_depth"); (case q9u => walk_at "m_unit"); (case q9N => k_asm); (case q9H => walk_at "m_all"); (case q9U => k_updF); (case q9S => k_asm); (case q9l => omega); intro h' oS' t' tk' F' N' hS' hl'; (try dsimp only at N'); (try k_sweep)))
local macro_rules | `(tactic| walk_at "binaryOp Add bytes bytes") => `(tactic| (k_here; (with_reducible show wpAny _ _ (binaryOp Operator.Add (Value.bytes _ _) (Value.bytes _ _)) _ _ _); (refine KBy.add_bytes (by omega) ?_); intro _ _))
local macro_rules | `(tactic| walk_at "call builtin:len") => `(tactic| (k_here; first
  | ((with_reducible show wpAny _ _ (call (Value.builtin "len") [Value.bytes _ _]) _ _ _); refine len_b1 ?_)
  | ((with_reducible show wpAny _ _ (call (Value.builtin "len") [Value.ref _]) _ _ _); refine len_tupB (by assumption) (by assumption) (by assumption) ?_)))

local macro_rules | `(tactic| walk_at "subscriptTail") => `(tactic| (k_here; (with_reducible show wpAny _ _ (subscriptTail _ _ (Value.ref _) (Value.bytes _ _)) _ _ _); k_dflt (refine' db_item ?q9N ?q9m ?q9D ?q9k ?_; (case q9N => k_asm); (case q9m => k_mem); (case q9D => k_asm); (case q9k => k_asm)); intro _ _))
local macro_rules | `(tactic| walk_at "subscriptTail") => `(tactic| (k_here; (with_reducible show wpAny _ _ (subscriptTail _ (Expr.Slice _ _ none _) (Value.bytes (_ ++ _) _) (Value.ref _)) _ _ _); (with_reducible rename Fr _ _ _ _ => F'); (with_reducible rename News _ _ _ _ => N'); k_dflt (first
  | (refine slice_lo (s := ⟨_, _, _, _, _⟩) F' N' (by assumption) (by assumption) ?_)
  | (refine slice_hi (s := ⟨_, _, _, _, _⟩) F' N' (by assumption) (by assumption) ?_)); intro _ _ _ F' N'; (try k_sweep)))
local macro_rules | `(tactic| walk_at "call builtin:list.append") => `(tactic| (k_here; (with_reducible show wpAny _ _ (call (Value.builtin _) [Value.ref _, _]) _ _ _); k_dflt (refine' append_L ?q9F ?q9N ?q9U ?_ ?q9z; (case q9F => k_asm); (case q9N => k_asm); (case q9U => k_updF); (case q9z => first | omega | exact Nat.le_of_ble_eq_true rfl)); intro h' F' N'; (try dsimp only [List.nil_append, List.cons_append] at N'); (try k_sweep)))
local macro_rules | `(tactic| walk_at "call type:tuple") => `(tactic| (k_here; (with_reducible show wpAny _ _ (call (Value.type "tuple") [Value.ref _]) _ _ _); k_dflt (refine' tuple_L ?q9F ?q9N ?q9m ?q9z ?_; (case q9F => k_asm); (case q9N => k_asm); (case q9m => k_mem); (case q9z => omega)); intro D' h' F' N' l1; (try k_lt l1); (try k_sweep)))

local macro_rules | `(tactic| walk_at "call type:tuple") => `(tactic| (k_here; (with_reducible show wpAny _ _ (call (Value.type "tuple") [Value.ref _]) _ _ _); k_dflt (refine' tuple_rev rfl ?q9F ?q9N ?q9I ?q9m ?q9z ?_; (case q9F => k_asm); (case q9N => k_asm); (case q9I => k_all); (case q9m => k_mem); (case q9z => omega)); intro D' h' tk' F' N' l1; (try k_lt l1); (try k_sweep)))
local macro_rules | `(tactic| walk_at "call type:reversed") => `(tactic| (k_here; (with_reducible show wpAny _ _ (call (Value.type "reversed") [Value.ref _]) _ _ _); k_dflt (first
  | (refine' rev_K ?q9F ?q9N ?q9t ?q9n ?_; (case q9F => k_asm); (case q9N => k_asm); (case q9t => assumption); (case q9n => assumption); intro D' h' tk' F' N' l1; (try k_lt l1); (try k_sweep))
  | (refine' rev_KN ?q9F ?q9N ?q9m ?q9n ?_; (case q9F => k_asm); (case q9N => k_asm); (case q9m => k_mem); (case q9n => assumption); intro D' h' tk' F' N' l1; (try k_lt l1); (try k_sweep))
  | (refine' revL_K ?q9F ?q9N ?q9m ?_; (case q9F => k_asm); (case q9N => k_asm); (case q9m => k_mem); intro D' h' F' N' l1; (try k_lt l1); (try k_sweep)))))
local macro_rules | `(tactic| walk_at "setItem ref bytes") => `(tactic| (k_here; k_dflt (refine' db_set ?q9F ?q9N ?q9U ?q9D ?q9n ?_; (case q9F => k_asm); (case q9N => k_asm); (case q9U => k_updF); (case q9D => k_asm); (case q9n => omega)); intro h' o' F' N' hD'; (try dsimp only at N'); (try k_sweep)))
local macro_rules | `(tactic| walk_at "call ref") => `(tactic| (k_here; (with_reducible show wpAny _ _ (call (Value.ref 183) [Value.ref _, Value.bytes _ _]) _ _ _); k_dflt (refine' get_spec ?q9C ?q9d ?q9u rfl ?q9N ?q9m1 ?q9m2 ?q9m3 ?q9T ?q9D ?q9W ?_; (case q9C => walk_at "m_cx"); (case q9d => walk_at "m_depth"); (case q9u => walk_at "m_unit"); (case q9N => k_asm); (case q9m1 => k_mem); (case q9m2 => k_mem); (case q9T => first | assumption | exact ⟨_, _, _, _, _, _, _, _, _, _, rfl⟩); (case q9m3 => k_mem); (case q9D => assumption); (case q9W => assumption)); intro h' Dt Db vs' tv tk' F' N' n1 n2 n3 K' hvs' hvl'; (try k_sweep)))

local macro_rules | `(tactic| walk_at "call builtin:list.insert") => `(tactic| (k_here; (with_reducible show wpAny _ _ (call (Value.builtin _) [Value.ref _, _, _]) _ _ _); k_dflt (refine' insert0_L ?q9F ?q9N ?q9U ?q9z ?_; (case q9F => k_asm); (case q9N => k_asm); (case q9U => k_updF); (case q9z => omega)); intro h' F' N'; (try dsimp only at N'); (try k_sweep)))

local macro_rules | `(tactic| walk_at "m_sub") => `(tactic| first | exact (fun _ h => absurd h (List.not_mem_nil)) | (refine List.forall_mem_cons.mpr ⟨by k_mem, ?_⟩; walk_at "m_sub"))
local macro_rules | `(tactic| walk_at "m_all") => `(tactic| k_dflt (exact allAt_news (by k_asm) (by walk_at "m_sub")))
local macro_rules | `(tactic| walk_at "m_fn") => `(tactic| k_dflt (exact IsFnIn.at (by assumption) (allAt_news (by k_asm) (by walk_at "m_sub"))))
local macro_rules | `(tactic| walk_at "call ref") => `(tactic| (k_here; first
  | ((with_reducible show wpAny _ _ (call (Value.ref 190) [Value.ref _, Value.bytes _ _, Value.bytes _ _]) _ _ _); k_dflt (refine' gset (by assumption) ?q9C ?q9d ?q9u rfl ?q9N ?q9m1 ?q9S ?q9T ?q9D ?q9G ?q9U1 ?q9U2 ?q9U3 ?q9n1 ?q9n2 ?q9n3 ?q9H ?q9o ?q9f ?q9nd ?q9l ?q9v ?_; (case q9C => walk_at "m_cx"); (case q9d => walk_at "m_depth"); (case q9u => walk_at "m_unit"); (case q9N => k_asm); (case q9m1 => k_mem); (case q9S => assumption); (case q9T => assumption); (case q9D => assumption); (case q9G => assumption); (case q9U1 => k_updF); (case q9U2 => intro _; k_updF); (case q9U3 => intro _ _; k_updF); (case q9H => walk_at "m_sub"); (case q9o => assumption); (case q9f => assumption); (case q9n1 => omega); (case q9n2 => omega); (case q9n3 => omega); (case q9nd => omega); (case q9l => omega); (case q9v => first | assumption | exact Nat.one_ne_zero | decide)); intro h' oS' od' oDB' Dt' vs' tk' S' D' root' F' N' n1 hS' hl' hT' hD' hG' hvl'; (try dsimp only at N'); (replace N' := news_tl N'); (clear n1); (have hT2 := hT'); (k_dflt (obtain ⟨_, _, _, _, _, _, _, _, _, _, e9⟩ := hT')); (subst e9); (try k_sweep))
  | ((with_reducible show wpAny _ _ (call (Value.ref 176) [Value.ref _, Value.bytes _ _]) _ _ _); k_dflt (refine' gbranch ?q9C ?q9d ?q9u rfl ?q9N ?q9m1 ?q9m2 ?q9T ?q9m3 ?q9D ?q9G ?_; (case q9C => walk_at "m_cx"); (case q9d => walk_at "m_depth"); (case q9u => walk_at "m_unit"); (case q9N => k_asm); (case q9m1 => k_mem); (case q9m2 => k_mem); (case q9T => assumption); (case q9m3 => k_mem); (case q9D => assumption); (case q9G => assumption)); intro h' Db' vs' tk' F' N' n1 hvs' hvl'; (try k_sweep))))
local macro_rules | `(tactic| walk_at "call ref") => `(tactic| (k_here; (with_reducible show wpAny _ _ (call (Value.ref 69) [Value.ref _, _]) _ _ _); k_dflt (refine' vlt_spec ?q9C ?q9d ?q9u ?q9N ?q9t ?q9n ?_; (case q9C => walk_at "m_cx"); (case q9d => walk_at "m_depth"); (case q9u => walk_at "m_unit"); (case q9N => k_asm); (case q9t => exact News.isTup (by k_asm) (by k_mem)); (case q9n => assumption)); intro h' tk' F' N' _; (try k_sweep)))
local macro_rules | `(tactic| walk_at "call builtin:len") => `(tactic| (k_here; (with_reducible show wpAny _ _ (call (Value.builtin "len") [Value.ref _]) _ _ _); k_dflt (refine' len_tupN8 ?q9N ?q9m ?q9n ?_; (case q9N => k_asm); (case q9m => k_mem); (case q9n => assumption))))
local macro_rules | `(tactic| walk_at "call type:bytes") => `(tactic| (k_here; (with_reducible show wpAny _ _ (call (Value.type "bytes") [Value.ref _]) _ _ _); k_dflt (refine' bytes1 ?q9F ?q9N ?q9h ?_; (case q9F => k_asm); (case q9N => k_asm); (case q9h => exact rfl)); intro h' t' tk' F' N'; (try k_sweep)))
local macro_rules | `(tactic| walk_at "call ref") => `(tactic| (k_here; (with_reducible show wpAny _ _ (call (Value.ref 132) [Value.bytes _ _, Value.bytes _ _, Value.ref _, Value.ref _]) _ _ _); k_dflt (refine' own_new ?q9C ?q9d ?q9u ?q9N ?q9m2 ?q9v ?_; (case q9C => walk_at "m_cx"); (case q9d => walk_at "m_depth"); (case q9u => walk_at "m_unit"); (case q9N => k_asm); (case q9m2 => k_mem); (case q9v => assumption)); intro h' x' d' lb' c' od' tk' F' N' l1 l2 n1 hO'; (try k_sweep)))
local macro_rules | `(tactic| walk_at "m_nb") => `(tactic| first | assumption | exact (fun q => nomatch q))
local macro_rules | `(tactic| walk_at "m_ok") => `(tactic| first | assumption | exact Or.inl rfl)
local macro_rules | `(tactic| walk_at "m_od") => `(tactic| first | assumption | exact (fun _ q => nomatch q))
local macro_rules | `(tactic| walk_at "getAttr ref") => `(tactic| (k_here; k_dflt (refine' get_prop ?q9k1 ?q9k2 ?q9k3 ?q9k4 ?q9k5 ?q9k6 ?q9k7 ?q9k8 ?q9k9 ?_; (case q9k1 => k_asm); (case q9k2 => k_asm); (case q9k3 => k_inst); (case q9k4 => k_is); (case q9k5 => k_is); (case q9k6 => k_is); (case q9k7 => k_is); (case q9k8 => k_is); (case q9k9 => k_is)); first
  | (k_dflt (refine' own_val ?q9C ?q9d ?q9u ?q9N ?q9m1 ?q9m2 ?q9T ?_; (case q9C => walk_at "m_cx"); (case q9d => walk_at "m_depth"); (case q9u => walk_at "m_unit"); (case q9N => k_asm); (case q9m1 => k_mem); (case q9T => assumption); (case q9m2 => k_mem)); intro h' t' tk' F' N'; (k_dflt (refine handed_on ?q9x ?_; (case q9x => exact rfl))); (try k_sweep))
  | (k_dflt (refine' own_branch ?q9C ?q9d ?q9u ?q9N ?q9m1 ?q9m2 ?q9T ?q9m3 ?q9v ?_; (case q9C => walk_at "m_cx"); (case q9d => walk_at "m_depth"); (case q9u => walk_at "m_unit"); (case q9N => k_asm); (case q9m1 => k_mem); (case q9T => assumption); (case q9m2 => k_mem); (case q9m3 => k_mem); (case q9v => assumption)); intro h' Db' tk' F' N' n1; (k_dflt (refine handed_on ?q9x ?_; (case q9x => exact rfl))); (try k_sweep))
  | (k_dflt (refine' own_root (by assumption) ?q9C ?q9d ?q9u ?q9N ?q9m1 ?q9m2 ?q9T ?q9m3 ?q9v ?q9S ?q9b ?q9G ?q9e ?q9U ?q9H ?q9o ?q9f ?q9e1 ?q9e2 ?q9e3 ?q9l ?q9nb ?q9ok ?q9od ?_; (case q9C => walk_at "m_cx"); (case q9d => walk_at "m_depth"); (case q9u => walk_at "m_unit"); (case q9N => k_asm); (case q9m1 => k_mem); (case q9T => assumption); (case q9m2 => k_mem); (case q9m3 => k_mem); (case q9v => assumption); (case q9S => assumption); (case q9b => assumption); (case q9G => assumption); (case q9e => first | exact rfl | assumption); (case q9U => k_updF); (case q9H => walk_at "m_all"); (case q9o => assumption); (case q9f => assumption); (case q9e1 => k_ne); (case q9e2 => k_ne); (case q9e3 => k_ne); (case q9l => omega); (case q9nb => walk_at "m_nb"); (case q9ok => walk_at "m_ok"); (case q9od => walk_at "m_od")); intro h' oS' t' tk' F' N' hS'; (try dsimp only at N'); (k_dflt (refine handed_on ?q9x ?_; (case q9x => exact rfl))); (try k_sweep))))
local macro_rules | `(tactic| walk_at "call ref") => `(tactic| (k_here; (with_reducible show wpAny _ _ (call (Value.ref 169) [Value.ref _, Value.bytes _ _]) _ _ _); k_dflt (refine' gget ?q9C ?q9d ?q9u rfl ?q9N ?q9m1 ?q9m2 ?q9T ?q9m3 ?q9D ?q9G ?_; (case q9C => walk_at "m_cx"); (case q9d => walk_at "m_depth"); (case q9u => walk_at "m_unit"); (case q9N => k_asm); (case q9m1 => k_mem); (case q9m2 => k_mem); (case q9T => assumption); (case q9m3 => k_mem); (case q9D => assumption); (case q9G => assumption)); intro h' tv' tk' F' N'; (try k_sweep)))
local macro_rules | `(tactic| walk_at "compareOp NotEq ref ref") => `(tactic| (k_here; k_dflt (refine' ne_btups ?q9N ?q9m1 ?q9m2 ?q9x ?q9y ?q9u ?_; (case q9N => k_asm); (case q9m1 => k_mem); (case q9m2 => k_mem); (case q9x => assumption); (case q9y => assumption); (case q9u => walk_at "m_unit")); (try k_sweep)))
local macro_rules | `(tactic| walk_at "subscriptTail") => `(tactic| (k_here; (with_reducible show wpAny _ _ (subscriptTail _ _ (Value.ref _) (Value.int _ _)) _ _ _); k_dflt (refine' list_item ?q9N ?q9m ?q9x ?q9k ?q9n ?_; (case q9N => k_asm); (case q9m => k_mem); (case q9x => assumption); (case q9k => omega); (case q9n => omega))))
local macro_rules | `(tactic| k_ne) => `(tactic| ((try dsimp only); exact ne_tag (tag := _) (by with_reducible assumption) (by with_reducible assumption) (by decide)))
local macro_rules | `(tactic| walk_at "exec For Tuple Call") => `(tactic| (k_here; (with_reducible rename Fr _ _ _ _ => lF'); (with_unfolding_all refine' For_turns lF' ?_)))
local macro_rules | `(tactic| walk_at "call type:enumerate") => `(tactic| (k_here; refine Stop.intro ?_))
local macro_rules | `(tactic| walk_at "m_tailL") => `(tactic| (repeat (first | assumption | refine List.Mem.tail _ ?_ | refine List.mem_append_right _ ?_)))
local macro_rules | `(tactic| walk_at "m_memL") => `(tactic| (repeat (first | exact List.Mem.head _ | apply List.Mem.tail)))
theorem offCons {p : Addr × Obj} {r : List (Addr × Obj)} {adr : List Addr} (h1 : ∀ b ∈ adr, p.1 ≠ b) (h2 : OwnOff r adr) : OwnOff (p :: r) adr := fun q hq => by
  rcases List.mem_cons.mp hq with rfl | h
  · exact h1
  · exact h2 q h
def Same (l : List Str) (m m' : Str → Option Value) : Prop := ∀ z, z ∉ l → m' z = m z
theorem Same.refl (l : List Str) (m : Str → Option Value) : Same l m m := fun _ _ => rfl
theorem Same.trans {l : List Str} {m m' m'' : Str → Option Value} (a : Same l m m') (b : Same l m' m'') : Same l m m'' := fun z h => (b z h).trans (a z h)
theorem Same.of {l l' : List Str} {m m' : Str → Option Value} (a : ∀ z, z ∉ l' → m' z = m z) (h : ∀ z ∈ l', z ∈ l) : Same l m m' := fun z hz => a z fun q => hz (h z q)
abbrev six : List Str := [Str.ofString "place", Str.ofString "owner", Str.ofString "mine", Str.ofString "parts", Str.ofString "short", Str.ofString "before"]
local macro_rules | `(tactic| walk_at "execs cons") => `(tactic| (k_here; (with_reducible show wpAny _ _ (execs (Stmt.Assign _ (Expr.BinOp _ _ _ _) _ :: _) _) _ _ _); refine Stop.intro ?_))
theorem deed_tail {w : World} {p : Program} {loose : List Str} {mean : ExcName → Option Value} {mg mb : Str → Option Value} {h₀ : Heap} {L fa : Addr} {s : Shared} {m : Str → Option Value} {Q : Flow → Shared → Prop}
    {oc : Value} {od : Option Addr} {ln lq : Str} {lp : Arguments} {ls : Scope} {dV kV doc pm cdv ct : Value} {an : Option Addr} {osl : Array (Option Value)} {s0 s1 s2 s3 s4 s5 s6 s7 s8 s9 s10 : Stmt} {rest : List Stmt}
    {tg0 : PySem.Expr} {it0 : PySem.Expr} {els0 : List Stmt} {pos0 : Pos}
    {lo ow0 dw0 lb0 ow1 dw1 lb1 ow2 dw2 lb2 lk dDB x dx f c dS D1 cl Dt : Addr} {tag : Addr → Nat} {oDB odT fo occ oS ocl od0 od1 od2 : Obj} {vs0 vs1 vs2 us ws : List Value} {ns : List Int} {kb0 kb1 kb2 pb : UInt8} {v : Array UInt8} {T9 : List (Array UInt8)} {co ck cb0 cb1 cb2 kk : Nat} {S : Texts} {D Dold : List UInt8 → Option (Array UInt8)} {root rold : Array UInt8} {nD : Nat} {V V' : Nat → Array UInt8}
    {t0 t1 t2 tk0 tk1 tk2 : Tok} {own : List (Addr × Obj)}
    {d0 d1 d2 d3 d4 : Stmt} {drest : List Stmt}
    (hlaw : (hd.heap_39 w.params).lookup 251 = some ⟨oc, od, .func (fnOf ln lq lp (s0 :: s1 :: s2 :: s3 :: s4 :: s5 :: s6 :: s7 :: s8 :: s9 :: s10 :: Stmt.For tg0 it0 (d0 :: d1 :: d2 :: d3 :: d4 :: drest) els0 pos0 :: rest) ls dV kV doc pm an cdv ct), osl⟩)
    (B : Below callerA h₀ [] h₀) (X : (hd.heap_39 w.params).In h₀) (T : Top p loose mean mg mb h₀)
    (hW : IntsAre ws ns) (hn : ns.length = 13) (hkk : 3 ≤ kk ∧ kk ≤ 11)
    (F : Fr h₀ L s.heap m) (hm : ∀ q ∈ [(Str.ofString "numbers", some (.ref D1)), (Str.ofString "k", some (.int (kk : Int) t0)), (Str.ofString "tree", some (.ref x)), (Str.ofString "keys", some (.ref lk)), (Str.ofString "owners", some (.ref lo)), (Str.ofString "key", some (.int (pb.toNat : Int) t1)), (Str.ofString "what", some (.bytes v t2)), (Str.ofString "told", some (.ref Dt))], m q.1 = q.2)
    (N : News h₀ L s.heap ([(Dt, tup us), (lo, listOf [.ref ow0, .ref ow1, .ref ow2].toArray co), (ow0, instObj 132 dw0), (dw0, od0), (lb0, listOf vs0.toArray cb0), (ow1, instObj 132 dw1), (dw1, od1), (lb1, listOf vs1.toArray cb1), (ow2, instObj 132 dw2), (dw2, od2), (lb2, listOf vs2.toArray cb2), (lk, listOf [.int kb0.toNat tk0, .int kb1.toNat tk1, .int kb2.toNat tk2].toArray ck), (dDB, oDB), (x, instObj 235 dx), (dx, odT), (f, fo), (c, occ), (dS, oS), (D1, listOf ws.toArray 0), (cl, ocl)] ++ own))
    (g0 : tag lo = 0) (g1 : tag ow0 = 1) (g2 : tag dw0 = 2) (g3 : tag lb0 = 3) (g4 : tag ow1 = 4) (g5 : tag dw1 = 5) (g6 : tag lb1 = 6) (g7 : tag ow2 = 7) (g8 : tag dw2 = 8) (g9 : tag lb2 = 9) (g10 : tag lk = 10) (g11 : tag dDB = 11) (g12 : tag x = 12) (g13 : tag dx = 13) (g14 : tag f = 14) (g15 : tag c = 15) (g16 : tag dS = 16) (g17 : tag D1 = 17) (g18 : tag cl = 18) (g19 : tag Dt = 19)
    (l1 : @LT.lt Nat _ cl D1 ∧ @LT.lt Nat _ D1 dS ∧ @LT.lt Nat _ dS c ∧ @LT.lt Nat _ c f ∧ @LT.lt Nat _ f dx ∧ @LT.lt Nat _ dx x ∧ @LT.lt Nat _ x dDB ∧ @LT.lt Nat _ dDB lk ∧ @LT.lt Nat _ lk dw0 ∧ @LT.lt Nat _ dw0 ow0 ∧ @LT.lt Nat _ lk dw1 ∧ @LT.lt Nat _ dw1 ow1 ∧ @LT.lt Nat _ lk dw2 ∧ @LT.lt Nat _ dw2 ow2)
    (hown : OwnOff own [lo, ow0, dw0, lb0, ow1, dw1, lb1, ow2, dw2, lb2, lk, dDB, x, dx, f, c, dS, D1, cl, Dt])
    (HS : HashSpec w p loose mean mg mb [(f, fo), (c, occ), (cl, ocl)] f dS) (hf : IsFnIn f [(f, fo), (c, occ), (cl, ocl)])
    (hO0 : OwnD w f lb0 kb0 (V kb0.toNat) od0) (hvs0 : BytesAre vs0 (brn S V kb0.toNat)) (hvl0 : vs0.length = 8) (hO1 : OwnD w f lb1 kb1 (V kb1.toNat) od1) (hvs1 : BytesAre vs1 (brn S V kb1.toNat)) (hvl1 : vs1.length = 8) (hO2 : OwnD w f lb2 kb2 (V kb2.toNat) od2) (hvs2 : BytesAre vs2 (brn S V kb2.toNat)) (hvl2 : vs2.length = 8)
    (hT : TreeD w f dDB root odT) (hD : DbObj w oDB D nD) (hS : SeenObj w oS S) (G : Good S D root V') (Gold : Good S Dold rold V) (hDn : Done S V V' pb.toNat v T9) (hus : BytesAre us T9) (hul : us.length = 8) (hlS : S.length ≤ 1000)
    (ret : ∀ h' tk' oS' od0' od1' od2' vs0' vs1' vs2' m', Fr h₀ L h' m' → Same six m m' →
      News h₀ L h' ([(lo, listOf [.ref ow0, .ref ow1, .ref ow2].toArray co), (ow0, instObj 132 dw0), (dw0, od0'), (lb0, listOf vs0'.toArray cb0), (ow1, instObj 132 dw1), (dw1, od1'), (lb1, listOf vs1'.toArray cb1), (ow2, instObj 132 dw2), (dw2, od2'), (lb2, listOf vs2'.toArray cb2), (lk, listOf [.int kb0.toNat tk0, .int kb1.toNat tk1, .int kb2.toNat tk2].toArray ck), (dDB, oDB), (x, instObj 235 dx), (dx, odT), (f, fo), (c, occ), (dS, oS'), (D1, listOf ws.toArray 0), (cl, ocl)] ++ own) → SeenObj w oS' S →
      OwnD w f lb0 kb0 (V' kb0.toNat) od0' → BytesAre vs0' (brn S V' kb0.toNat) → vs0'.length = 8 → OwnD w f lb1 kb1 (V' kb1.toNat) od1' → BytesAre vs1' (brn S V' kb1.toNat) → vs1'.length = 8 → OwnD w f lb2 kb2 (V' kb2.toNat) od2' → BytesAre vs2' (brn S V' kb2.toNat) → vs2'.length = 8 → Q .next { s with heap := h', toks := tk' }) :
    wpAny (model Challenge.rw_bi0032_01.row.prog w) (callerA.deeper (envOfC ln ls L fa (.ref 250))) (execs drest (envOfC ln ls L fa (.ref 250))) Q (fun _ _ => False) s := by
  have hlaw2 : Stop _ := hlaw
  have X0 := X; revert X; k_fill; intro X
  refine' absorbK hlaw ?k ?_
  case k => k_is
  intro e
  cases e
  clear hlaw
  dsimp only [List.cons_append, List.nil_append] at N
  have em := ovr_self hm
  rw [← em] at F
  k_steps
  refine Stop.out ?_
  (with_reducible rename Fr _ _ _ _ => F9)
  (with_reducible rename News _ _ _ _ => N9)
  rw [em] at F9
  refine' ktu_enum rfl F9 N9 (l := lo) (lo := listOf [.ref ow0, .ref ow1, .ref ow2].toArray co) (vs := [.ref ow0, .ref ow1, .ref ow2]) ?q9m rfl rfl rfl ?q9r
  case q9m => k_mem
  case q9r =>
  intro I hI
  have hIo : ∀ p ∈ own, p.1 < I := fun p hp => hI p (by walk_at "m_tailL")
  have i_Dt : @LT.lt Nat _ Dt I := hI (Dt, _) (by k_mem)
  have i_lo : @LT.lt Nat _ lo I := hI (lo, _) (by k_mem)
  have i_ow0 : @LT.lt Nat _ ow0 I := hI (ow0, _) (by k_mem)
  have i_dw0 : @LT.lt Nat _ dw0 I := hI (dw0, _) (by k_mem)
  have i_lb0 : @LT.lt Nat _ lb0 I := hI (lb0, _) (by k_mem)
  have i_ow1 : @LT.lt Nat _ ow1 I := hI (ow1, _) (by k_mem)
  have i_dw1 : @LT.lt Nat _ dw1 I := hI (dw1, _) (by k_mem)
  have i_lb1 : @LT.lt Nat _ lb1 I := hI (lb1, _) (by k_mem)
  have i_ow2 : @LT.lt Nat _ ow2 I := hI (ow2, _) (by k_mem)
  have i_dw2 : @LT.lt Nat _ dw2 I := hI (dw2, _) (by k_mem)
  have i_lb2 : @LT.lt Nat _ lb2 I := hI (lb2, _) (by k_mem)
  have i_lk : @LT.lt Nat _ lk I := hI (lk, _) (by k_mem)
  have i_dDB : @LT.lt Nat _ dDB I := hI (dDB, _) (by k_mem)
  have i_x : @LT.lt Nat _ x I := hI (x, _) (by k_mem)
  have i_dx : @LT.lt Nat _ dx I := hI (dx, _) (by k_mem)
  have i_f : @LT.lt Nat _ f I := hI (f, _) (by k_mem)
  have i_c : @LT.lt Nat _ c I := hI (c, _) (by k_mem)
  have i_dS : @LT.lt Nat _ dS I := hI (dS, _) (by k_mem)
  have i_D1 : @LT.lt Nat _ D1 I := hI (D1, _) (by k_mem)
  have i_cl : @LT.lt Nat _ cl I := hI (cl, _) (by k_mem)
  refine ItemsRest.pair fun T0 t09 h0 tkk0 hT0 F0 => AllObj.cons fun o1 hc1 => AllObj.cons fun o2 hc2 => AllObj.nil fun N0 => ?_
  have hw0 : Same six m (fun y => if y = Str.ofString "owner" then some (.ref ow0) else if y = Str.ofString "place" then some (.int (0 : Nat) t09) else m y) := fun z hz => by
    simp only [six, List.mem_cons, List.not_mem_nil, or_false, not_or] at hz
    simp only [hz.1, hz.2.1, if_false]
  have hF0 : Same six m _ := hw0
  k_steps
  refine Stop.out ?_
  skip
  (with_reducible rename Fr _ _ _ _ => F0)
  (with_reducible rename News _ _ _ _ => N0)
  refine' owner_turn (lk := lk) (dDB := dDB) (x := x) (dx := dx) (f := f) (c := c) (dS := dS) (D1 := D1) (cl := cl) (lb := lb0) (ow := ow0) (dow := dw0) (Dt := Dt) (kvs := [.int kb0.toNat tk0, .int kb1.toNat tk1, .int kb2.toNat tk2]) (t0 := t0) (t1 := t1) (t2 := t2) (t3 := t09) (vs := vs0) (us := us) (ws := ws) (odo := od0) (ck := ck) (cb := cb0) (pl := 0) (V := V) (V' := V') (own := [(I + 1, o1), (I, o2), (lo, listOf [.ref ow0, .ref ow1, .ref ow2].toArray co), (ow1, instObj 132 dw1), (dw1, od1), (lb1, listOf vs1.toArray cb1), (ow2, instObj 132 dw2), (dw2, od2), (lb2, listOf vs2.toArray cb2)] ++ own) (kb := kb0) (pb := pb) hlaw2 B X0 T hW hn hkk F0 ?hm9 ?N9 ?l19 ?l29 ?l39 ?l49 ?off9 HS hf ?kv9 ?kvl9 hO0 hvs0 hvl0 hT hD hS G Gold hDn hus hul hlS ?ret9
  case hm9 => exact List.forall_mem_cons.mpr ⟨(hF0 (Str.ofString "numbers") (by decide)).trans (hm _ (.head _)), List.forall_mem_cons.mpr ⟨(hF0 (Str.ofString "k") (by decide)).trans (hm _ (.tail _ (.head _))), List.forall_mem_cons.mpr ⟨(hF0 (Str.ofString "tree") (by decide)).trans (hm _ (.tail _ (.tail _ (.head _)))), List.forall_mem_cons.mpr ⟨(hF0 (Str.ofString "keys") (by decide)).trans (hm _ (.tail _ (.tail _ (.tail _ (.head _))))), List.forall_mem_cons.mpr ⟨rfl, List.forall_mem_cons.mpr ⟨rfl, List.forall_mem_cons.mpr ⟨(hF0 (Str.ofString "key") (by decide)).trans (hm _ (.tail _ (.tail _ (.tail _ (.tail _ (.tail _ (.head _))))))), List.forall_mem_cons.mpr ⟨(hF0 (Str.ofString "what") (by decide)).trans (hm _ (.tail _ (.tail _ (.tail _ (.tail _ (.tail _ (.tail _ (.head _)))))))), List.forall_mem_cons.mpr ⟨(hF0 (Str.ofString "told") (by decide)).trans (hm _ (.tail _ (.tail _ (.tail _ (.tail _ (.tail _ (.tail _ (.tail _ (.head _))))))))), fun _ h => absurd h List.not_mem_nil⟩⟩⟩⟩⟩⟩⟩⟩⟩
  case N9 => 
    dsimp only [List.cons_append, List.nil_append]
    (repeat refine List.forall_mem_cons.mpr ⟨N0 _ (by k_mem), ?_⟩)
    exact fun p hp => N0 p (by walk_at "m_tailL")
  case l19 => exact ⟨l1.1, l1.2.1, l1.2.2.1, l1.2.2.2.1, l1.2.2.2.2.1, l1.2.2.2.2.2.1, l1.2.2.2.2.2.2.1, l1.2.2.2.2.2.2.2.1, by omega, by omega⟩
  case l29 => exact List.forall_mem_cons.mpr ⟨ne_tag g1 g3 (by decide), List.forall_mem_cons.mpr ⟨ne_tag g2 g3 (by decide), List.forall_mem_cons.mpr ⟨ne_tag g10 g3 (by decide), List.forall_mem_cons.mpr ⟨ne_tag g11 g3 (by decide), List.forall_mem_cons.mpr ⟨ne_tag g12 g3 (by decide), List.forall_mem_cons.mpr ⟨ne_tag g13 g3 (by decide), List.forall_mem_cons.mpr ⟨ne_tag g14 g3 (by decide), List.forall_mem_cons.mpr ⟨ne_tag g15 g3 (by decide), List.forall_mem_cons.mpr ⟨ne_tag g16 g3 (by decide), List.forall_mem_cons.mpr ⟨ne_tag g17 g3 (by decide), List.forall_mem_cons.mpr ⟨ne_tag g18 g3 (by decide), fun _ h => absurd h List.not_mem_nil⟩⟩⟩⟩⟩⟩⟩⟩⟩⟩⟩
  case l39 => exact ⟨ne_tag g18 g3 (by decide), ne_tag g15 g3 (by decide), ne_tag g14 g3 (by decide), ne_tag g16 g3 (by decide)⟩
  case l49 => exact List.forall_mem_cons.mpr ⟨ne_tag g1 g19 (by decide), List.forall_mem_cons.mpr ⟨ne_tag g2 g19 (by decide), List.forall_mem_cons.mpr ⟨ne_tag g3 g19 (by decide), List.forall_mem_cons.mpr ⟨ne_tag g10 g19 (by decide), List.forall_mem_cons.mpr ⟨ne_tag g11 g19 (by decide), List.forall_mem_cons.mpr ⟨ne_tag g12 g19 (by decide), List.forall_mem_cons.mpr ⟨ne_tag g13 g19 (by decide), List.forall_mem_cons.mpr ⟨ne_tag g14 g19 (by decide), List.forall_mem_cons.mpr ⟨ne_tag g15 g19 (by decide), List.forall_mem_cons.mpr ⟨ne_tag g16 g19 (by decide), List.forall_mem_cons.mpr ⟨ne_tag g17 g19 (by decide), List.forall_mem_cons.mpr ⟨ne_tag g18 g19 (by decide), fun _ h => absurd h List.not_mem_nil⟩⟩⟩⟩⟩⟩⟩⟩⟩⟩⟩⟩
  case off9 => exact offCons (List.forall_mem_cons.mpr ⟨Nat.ne_of_gt (Nat.lt_succ_of_lt i_ow0), List.forall_mem_cons.mpr ⟨Nat.ne_of_gt (Nat.lt_succ_of_lt i_dw0), List.forall_mem_cons.mpr ⟨Nat.ne_of_gt (Nat.lt_succ_of_lt i_lb0), List.forall_mem_cons.mpr ⟨Nat.ne_of_gt (Nat.lt_succ_of_lt i_Dt), List.forall_mem_cons.mpr ⟨Nat.ne_of_gt (Nat.lt_succ_of_lt i_lk), List.forall_mem_cons.mpr ⟨Nat.ne_of_gt (Nat.lt_succ_of_lt i_dDB), List.forall_mem_cons.mpr ⟨Nat.ne_of_gt (Nat.lt_succ_of_lt i_x), List.forall_mem_cons.mpr ⟨Nat.ne_of_gt (Nat.lt_succ_of_lt i_dx), List.forall_mem_cons.mpr ⟨Nat.ne_of_gt (Nat.lt_succ_of_lt i_f), List.forall_mem_cons.mpr ⟨Nat.ne_of_gt (Nat.lt_succ_of_lt i_c), List.forall_mem_cons.mpr ⟨Nat.ne_of_gt (Nat.lt_succ_of_lt i_dS), List.forall_mem_cons.mpr ⟨Nat.ne_of_gt (Nat.lt_succ_of_lt i_D1), List.forall_mem_cons.mpr ⟨Nat.ne_of_gt (Nat.lt_succ_of_lt i_cl), fun _ h => absurd h List.not_mem_nil⟩⟩⟩⟩⟩⟩⟩⟩⟩⟩⟩⟩⟩) (offCons (List.forall_mem_cons.mpr ⟨Nat.ne_of_gt i_ow0, List.forall_mem_cons.mpr ⟨Nat.ne_of_gt i_dw0, List.forall_mem_cons.mpr ⟨Nat.ne_of_gt i_lb0, List.forall_mem_cons.mpr ⟨Nat.ne_of_gt i_Dt, List.forall_mem_cons.mpr ⟨Nat.ne_of_gt i_lk, List.forall_mem_cons.mpr ⟨Nat.ne_of_gt i_dDB, List.forall_mem_cons.mpr ⟨Nat.ne_of_gt i_x, List.forall_mem_cons.mpr ⟨Nat.ne_of_gt i_dx, List.forall_mem_cons.mpr ⟨Nat.ne_of_gt i_f, List.forall_mem_cons.mpr ⟨Nat.ne_of_gt i_c, List.forall_mem_cons.mpr ⟨Nat.ne_of_gt i_dS, List.forall_mem_cons.mpr ⟨Nat.ne_of_gt i_D1, List.forall_mem_cons.mpr ⟨Nat.ne_of_gt i_cl, fun _ h => absurd h List.not_mem_nil⟩⟩⟩⟩⟩⟩⟩⟩⟩⟩⟩⟩⟩) (offCons (List.forall_mem_cons.mpr ⟨ne_tag g0 g1 (by decide), List.forall_mem_cons.mpr ⟨ne_tag g0 g2 (by decide), List.forall_mem_cons.mpr ⟨ne_tag g0 g3 (by decide), List.forall_mem_cons.mpr ⟨ne_tag g0 g19 (by decide), List.forall_mem_cons.mpr ⟨ne_tag g0 g10 (by decide), List.forall_mem_cons.mpr ⟨ne_tag g0 g11 (by decide), List.forall_mem_cons.mpr ⟨ne_tag g0 g12 (by decide), List.forall_mem_cons.mpr ⟨ne_tag g0 g13 (by decide), List.forall_mem_cons.mpr ⟨ne_tag g0 g14 (by decide), List.forall_mem_cons.mpr ⟨ne_tag g0 g15 (by decide), List.forall_mem_cons.mpr ⟨ne_tag g0 g16 (by decide), List.forall_mem_cons.mpr ⟨ne_tag g0 g17 (by decide), List.forall_mem_cons.mpr ⟨ne_tag g0 g18 (by decide), fun _ h => absurd h List.not_mem_nil⟩⟩⟩⟩⟩⟩⟩⟩⟩⟩⟩⟩⟩) (offCons (List.forall_mem_cons.mpr ⟨ne_tag g4 g1 (by decide), List.forall_mem_cons.mpr ⟨ne_tag g4 g2 (by decide), List.forall_mem_cons.mpr ⟨ne_tag g4 g3 (by decide), List.forall_mem_cons.mpr ⟨ne_tag g4 g19 (by decide), List.forall_mem_cons.mpr ⟨ne_tag g4 g10 (by decide), List.forall_mem_cons.mpr ⟨ne_tag g4 g11 (by decide), List.forall_mem_cons.mpr ⟨ne_tag g4 g12 (by decide), List.forall_mem_cons.mpr ⟨ne_tag g4 g13 (by decide), List.forall_mem_cons.mpr ⟨ne_tag g4 g14 (by decide), List.forall_mem_cons.mpr ⟨ne_tag g4 g15 (by decide), List.forall_mem_cons.mpr ⟨ne_tag g4 g16 (by decide), List.forall_mem_cons.mpr ⟨ne_tag g4 g17 (by decide), List.forall_mem_cons.mpr ⟨ne_tag g4 g18 (by decide), fun _ h => absurd h List.not_mem_nil⟩⟩⟩⟩⟩⟩⟩⟩⟩⟩⟩⟩⟩) (offCons (List.forall_mem_cons.mpr ⟨ne_tag g5 g1 (by decide), List.forall_mem_cons.mpr ⟨ne_tag g5 g2 (by decide), List.forall_mem_cons.mpr ⟨ne_tag g5 g3 (by decide), List.forall_mem_cons.mpr ⟨ne_tag g5 g19 (by decide), List.forall_mem_cons.mpr ⟨ne_tag g5 g10 (by decide), List.forall_mem_cons.mpr ⟨ne_tag g5 g11 (by decide), List.forall_mem_cons.mpr ⟨ne_tag g5 g12 (by decide), List.forall_mem_cons.mpr ⟨ne_tag g5 g13 (by decide), List.forall_mem_cons.mpr ⟨ne_tag g5 g14 (by decide), List.forall_mem_cons.mpr ⟨ne_tag g5 g15 (by decide), List.forall_mem_cons.mpr ⟨ne_tag g5 g16 (by decide), List.forall_mem_cons.mpr ⟨ne_tag g5 g17 (by decide), List.forall_mem_cons.mpr ⟨ne_tag g5 g18 (by decide), fun _ h => absurd h List.not_mem_nil⟩⟩⟩⟩⟩⟩⟩⟩⟩⟩⟩⟩⟩) (offCons (List.forall_mem_cons.mpr ⟨ne_tag g6 g1 (by decide), List.forall_mem_cons.mpr ⟨ne_tag g6 g2 (by decide), List.forall_mem_cons.mpr ⟨ne_tag g6 g3 (by decide), List.forall_mem_cons.mpr ⟨ne_tag g6 g19 (by decide), List.forall_mem_cons.mpr ⟨ne_tag g6 g10 (by decide), List.forall_mem_cons.mpr ⟨ne_tag g6 g11 (by decide), List.forall_mem_cons.mpr ⟨ne_tag g6 g12 (by decide), List.forall_mem_cons.mpr ⟨ne_tag g6 g13 (by decide), List.forall_mem_cons.mpr ⟨ne_tag g6 g14 (by decide), List.forall_mem_cons.mpr ⟨ne_tag g6 g15 (by decide), List.forall_mem_cons.mpr ⟨ne_tag g6 g16 (by decide), List.forall_mem_cons.mpr ⟨ne_tag g6 g17 (by decide), List.forall_mem_cons.mpr ⟨ne_tag g6 g18 (by decide), fun _ h => absurd h List.not_mem_nil⟩⟩⟩⟩⟩⟩⟩⟩⟩⟩⟩⟩⟩) (offCons (List.forall_mem_cons.mpr ⟨ne_tag g7 g1 (by decide), List.forall_mem_cons.mpr ⟨ne_tag g7 g2 (by decide), List.forall_mem_cons.mpr ⟨ne_tag g7 g3 (by decide), List.forall_mem_cons.mpr ⟨ne_tag g7 g19 (by decide), List.forall_mem_cons.mpr ⟨ne_tag g7 g10 (by decide), List.forall_mem_cons.mpr ⟨ne_tag g7 g11 (by decide), List.forall_mem_cons.mpr ⟨ne_tag g7 g12 (by decide), List.forall_mem_cons.mpr ⟨ne_tag g7 g13 (by decide), List.forall_mem_cons.mpr ⟨ne_tag g7 g14 (by decide), List.forall_mem_cons.mpr ⟨ne_tag g7 g15 (by decide), List.forall_mem_cons.mpr ⟨ne_tag g7 g16 (by decide), List.forall_mem_cons.mpr ⟨ne_tag g7 g17 (by decide), List.forall_mem_cons.mpr ⟨ne_tag g7 g18 (by decide), fun _ h => absurd h List.not_mem_nil⟩⟩⟩⟩⟩⟩⟩⟩⟩⟩⟩⟩⟩) (offCons (List.forall_mem_cons.mpr ⟨ne_tag g8 g1 (by decide), List.forall_mem_cons.mpr ⟨ne_tag g8 g2 (by decide), List.forall_mem_cons.mpr ⟨ne_tag g8 g3 (by decide), List.forall_mem_cons.mpr ⟨ne_tag g8 g19 (by decide), List.forall_mem_cons.mpr ⟨ne_tag g8 g10 (by decide), List.forall_mem_cons.mpr ⟨ne_tag g8 g11 (by decide), List.forall_mem_cons.mpr ⟨ne_tag g8 g12 (by decide), List.forall_mem_cons.mpr ⟨ne_tag g8 g13 (by decide), List.forall_mem_cons.mpr ⟨ne_tag g8 g14 (by decide), List.forall_mem_cons.mpr ⟨ne_tag g8 g15 (by decide), List.forall_mem_cons.mpr ⟨ne_tag g8 g16 (by decide), List.forall_mem_cons.mpr ⟨ne_tag g8 g17 (by decide), List.forall_mem_cons.mpr ⟨ne_tag g8 g18 (by decide), fun _ h => absurd h List.not_mem_nil⟩⟩⟩⟩⟩⟩⟩⟩⟩⟩⟩⟩⟩) (offCons (List.forall_mem_cons.mpr ⟨ne_tag g9 g1 (by decide), List.forall_mem_cons.mpr ⟨ne_tag g9 g2 (by decide), List.forall_mem_cons.mpr ⟨ne_tag g9 g3 (by decide), List.forall_mem_cons.mpr ⟨ne_tag g9 g19 (by decide), List.forall_mem_cons.mpr ⟨ne_tag g9 g10 (by decide), List.forall_mem_cons.mpr ⟨ne_tag g9 g11 (by decide), List.forall_mem_cons.mpr ⟨ne_tag g9 g12 (by decide), List.forall_mem_cons.mpr ⟨ne_tag g9 g13 (by decide), List.forall_mem_cons.mpr ⟨ne_tag g9 g14 (by decide), List.forall_mem_cons.mpr ⟨ne_tag g9 g15 (by decide), List.forall_mem_cons.mpr ⟨ne_tag g9 g16 (by decide), List.forall_mem_cons.mpr ⟨ne_tag g9 g17 (by decide), List.forall_mem_cons.mpr ⟨ne_tag g9 g18 (by decide), fun _ h => absurd h List.not_mem_nil⟩⟩⟩⟩⟩⟩⟩⟩⟩⟩⟩⟩⟩) (fun p hp => List.forall_mem_cons.mpr ⟨hown p hp _ (by walk_at "m_memL"), List.forall_mem_cons.mpr ⟨hown p hp _ (by walk_at "m_memL"), List.forall_mem_cons.mpr ⟨hown p hp _ (by walk_at "m_memL"), List.forall_mem_cons.mpr ⟨hown p hp _ (by walk_at "m_memL"), List.forall_mem_cons.mpr ⟨hown p hp _ (by walk_at "m_memL"), List.forall_mem_cons.mpr ⟨hown p hp _ (by walk_at "m_memL"), List.forall_mem_cons.mpr ⟨hown p hp _ (by walk_at "m_memL"), List.forall_mem_cons.mpr ⟨hown p hp _ (by walk_at "m_memL"), List.forall_mem_cons.mpr ⟨hown p hp _ (by walk_at "m_memL"), List.forall_mem_cons.mpr ⟨hown p hp _ (by walk_at "m_memL"), List.forall_mem_cons.mpr ⟨hown p hp _ (by walk_at "m_memL"), List.forall_mem_cons.mpr ⟨hown p hp _ (by walk_at "m_memL"), List.forall_mem_cons.mpr ⟨hown p hp _ (by walk_at "m_memL"), fun _ h => absurd h List.not_mem_nil⟩⟩⟩⟩⟩⟩⟩⟩⟩⟩⟩⟩⟩)))))))))
  case kv9 => exact rfl
  case kvl9 => exact (by decide : 3 ≤ 10)
  case ret9 =>
  intro h0n tk0n oS1 od0n vs0n m1 FF0 hs9 NN0 hS1 hO0n hvs0n hvl0n
  have hs1 : Same six m m1 := hF0.trans (Same.of hs9 fun z hz => .tail _ (.tail _ hz))
  clear hs9 hF0 hw0
  dsimp only [List.cons_append, List.nil_append] at NN0
  refine' ⟨_, _, m1, (Dt, tup us) :: (lo, listOf [.ref ow0, .ref ow1, .ref ow2].toArray co) :: (ow0, instObj 132 dw0) :: (dw0, od0n) :: (lb0, listOf vs0n.toArray cb0) :: (ow1, instObj 132 dw1) :: (dw1, od1) :: (lb1, listOf vs1.toArray cb1) :: (ow2, instObj 132 dw2) :: (dw2, od2) :: (lb2, listOf vs2.toArray cb2) :: (lk, listOf [.int kb0.toNat tk0, .int kb1.toNat tk1, .int kb2.toNat tk2].toArray ck) :: (dDB, oDB) :: (x, instObj 235 dx) :: (dx, odT) :: (f, fo) :: (c, occ) :: (dS, oS1) :: (D1, listOf ws.toArray 0) :: (cl, ocl) :: own, rfl, FF0, ?N8, ?off8, ⟨⟨?sub8, trivial⟩, ?rest8⟩⟩
  case N8 =>
    dsimp only [List.cons_append, List.nil_append]
    (repeat refine List.forall_mem_cons.mpr ⟨NN0 _ (by k_mem), ?_⟩)
    exact fun p hp => NN0 p (by walk_at "m_tailL")
  case off8 => exact List.forall_mem_cons.mpr ⟨List.forall_mem_cons.mpr ⟨Nat.ne_of_lt (Nat.lt_succ_of_lt i_Dt), List.forall_mem_cons.mpr ⟨Nat.ne_of_lt i_Dt, fun _ h => absurd h List.not_mem_nil⟩⟩, List.forall_mem_cons.mpr ⟨List.forall_mem_cons.mpr ⟨Nat.ne_of_lt (Nat.lt_succ_of_lt i_lo), List.forall_mem_cons.mpr ⟨Nat.ne_of_lt i_lo, fun _ h => absurd h List.not_mem_nil⟩⟩, List.forall_mem_cons.mpr ⟨List.forall_mem_cons.mpr ⟨Nat.ne_of_lt (Nat.lt_succ_of_lt i_ow0), List.forall_mem_cons.mpr ⟨Nat.ne_of_lt i_ow0, fun _ h => absurd h List.not_mem_nil⟩⟩, List.forall_mem_cons.mpr ⟨List.forall_mem_cons.mpr ⟨Nat.ne_of_lt (Nat.lt_succ_of_lt i_dw0), List.forall_mem_cons.mpr ⟨Nat.ne_of_lt i_dw0, fun _ h => absurd h List.not_mem_nil⟩⟩, List.forall_mem_cons.mpr ⟨List.forall_mem_cons.mpr ⟨Nat.ne_of_lt (Nat.lt_succ_of_lt i_lb0), List.forall_mem_cons.mpr ⟨Nat.ne_of_lt i_lb0, fun _ h => absurd h List.not_mem_nil⟩⟩, List.forall_mem_cons.mpr ⟨List.forall_mem_cons.mpr ⟨Nat.ne_of_lt (Nat.lt_succ_of_lt i_ow1), List.forall_mem_cons.mpr ⟨Nat.ne_of_lt i_ow1, fun _ h => absurd h List.not_mem_nil⟩⟩, List.forall_mem_cons.mpr ⟨List.forall_mem_cons.mpr ⟨Nat.ne_of_lt (Nat.lt_succ_of_lt i_dw1), List.forall_mem_cons.mpr ⟨Nat.ne_of_lt i_dw1, fun _ h => absurd h List.not_mem_nil⟩⟩, List.forall_mem_cons.mpr ⟨List.forall_mem_cons.mpr ⟨Nat.ne_of_lt (Nat.lt_succ_of_lt i_lb1), List.forall_mem_cons.mpr ⟨Nat.ne_of_lt i_lb1, fun _ h => absurd h List.not_mem_nil⟩⟩, List.forall_mem_cons.mpr ⟨List.forall_mem_cons.mpr ⟨Nat.ne_of_lt (Nat.lt_succ_of_lt i_ow2), List.forall_mem_cons.mpr ⟨Nat.ne_of_lt i_ow2, fun _ h => absurd h List.not_mem_nil⟩⟩, List.forall_mem_cons.mpr ⟨List.forall_mem_cons.mpr ⟨Nat.ne_of_lt (Nat.lt_succ_of_lt i_dw2), List.forall_mem_cons.mpr ⟨Nat.ne_of_lt i_dw2, fun _ h => absurd h List.not_mem_nil⟩⟩, List.forall_mem_cons.mpr ⟨List.forall_mem_cons.mpr ⟨Nat.ne_of_lt (Nat.lt_succ_of_lt i_lb2), List.forall_mem_cons.mpr ⟨Nat.ne_of_lt i_lb2, fun _ h => absurd h List.not_mem_nil⟩⟩, List.forall_mem_cons.mpr ⟨List.forall_mem_cons.mpr ⟨Nat.ne_of_lt (Nat.lt_succ_of_lt i_lk), List.forall_mem_cons.mpr ⟨Nat.ne_of_lt i_lk, fun _ h => absurd h List.not_mem_nil⟩⟩, List.forall_mem_cons.mpr ⟨List.forall_mem_cons.mpr ⟨Nat.ne_of_lt (Nat.lt_succ_of_lt i_dDB), List.forall_mem_cons.mpr ⟨Nat.ne_of_lt i_dDB, fun _ h => absurd h List.not_mem_nil⟩⟩, List.forall_mem_cons.mpr ⟨List.forall_mem_cons.mpr ⟨Nat.ne_of_lt (Nat.lt_succ_of_lt i_x), List.forall_mem_cons.mpr ⟨Nat.ne_of_lt i_x, fun _ h => absurd h List.not_mem_nil⟩⟩, List.forall_mem_cons.mpr ⟨List.forall_mem_cons.mpr ⟨Nat.ne_of_lt (Nat.lt_succ_of_lt i_dx), List.forall_mem_cons.mpr ⟨Nat.ne_of_lt i_dx, fun _ h => absurd h List.not_mem_nil⟩⟩, List.forall_mem_cons.mpr ⟨List.forall_mem_cons.mpr ⟨Nat.ne_of_lt (Nat.lt_succ_of_lt i_f), List.forall_mem_cons.mpr ⟨Nat.ne_of_lt i_f, fun _ h => absurd h List.not_mem_nil⟩⟩, List.forall_mem_cons.mpr ⟨List.forall_mem_cons.mpr ⟨Nat.ne_of_lt (Nat.lt_succ_of_lt i_c), List.forall_mem_cons.mpr ⟨Nat.ne_of_lt i_c, fun _ h => absurd h List.not_mem_nil⟩⟩, List.forall_mem_cons.mpr ⟨List.forall_mem_cons.mpr ⟨Nat.ne_of_lt (Nat.lt_succ_of_lt i_dS), List.forall_mem_cons.mpr ⟨Nat.ne_of_lt i_dS, fun _ h => absurd h List.not_mem_nil⟩⟩, List.forall_mem_cons.mpr ⟨List.forall_mem_cons.mpr ⟨Nat.ne_of_lt (Nat.lt_succ_of_lt i_D1), List.forall_mem_cons.mpr ⟨Nat.ne_of_lt i_D1, fun _ h => absurd h List.not_mem_nil⟩⟩, List.forall_mem_cons.mpr ⟨List.forall_mem_cons.mpr ⟨Nat.ne_of_lt (Nat.lt_succ_of_lt i_cl), List.forall_mem_cons.mpr ⟨Nat.ne_of_lt i_cl, fun _ h => absurd h List.not_mem_nil⟩⟩, fun p hp => List.forall_mem_cons.mpr ⟨Nat.ne_of_lt (Nat.lt_succ_of_lt (hIo p hp)), List.forall_mem_cons.mpr ⟨Nat.ne_of_lt (hIo p hp), fun _ h => absurd h List.not_mem_nil⟩⟩⟩⟩⟩⟩⟩⟩⟩⟩⟩⟩⟩⟩⟩⟩⟩⟩⟩⟩⟩⟩
  case sub8 => exact .tail _ (.head _)
  case rest8 =>
  clear NN0
  refine ItemsRest.pair fun T1 t19 h1 tkk1 hT1 F1 => AllObj.cons fun o1 hc1 => AllObj.cons fun o2 hc2 => AllObj.nil fun N1 => ?_
  have hw1 : Same six m1 (fun y => if y = Str.ofString "owner" then some (.ref ow1) else if y = Str.ofString "place" then some (.int (1 : Nat) t19) else m1 y) := fun z hz => by
    simp only [six, List.mem_cons, List.not_mem_nil, or_false, not_or] at hz
    simp only [hz.1, hz.2.1, if_false]
  have hF1 : Same six m _ := hs1.trans hw1
  k_steps
  refine Stop.out ?_
  skip
  (with_reducible rename Fr _ _ _ _ => F1)
  (with_reducible rename News _ _ _ _ => N1)
  refine' owner_turn (lk := lk) (dDB := dDB) (x := x) (dx := dx) (f := f) (c := c) (dS := dS) (D1 := D1) (cl := cl) (lb := lb1) (ow := ow1) (dow := dw1) (Dt := Dt) (kvs := [.int kb0.toNat tk0, .int kb1.toNat tk1, .int kb2.toNat tk2]) (t0 := t0) (t1 := t1) (t2 := t2) (t3 := t19) (vs := vs1) (us := us) (ws := ws) (odo := od1) (ck := ck) (cb := cb1) (pl := 1) (V := V) (V' := V') (own := [(I + 1, o1), (I, o2), (lo, listOf [.ref ow0, .ref ow1, .ref ow2].toArray co), (ow0, instObj 132 dw0), (dw0, od0n), (lb0, listOf vs0n.toArray cb0), (ow2, instObj 132 dw2), (dw2, od2), (lb2, listOf vs2.toArray cb2)] ++ own) (kb := kb1) (pb := pb) hlaw2 B X0 T hW hn hkk F1 ?hm9 ?N9 ?l19 ?l29 ?l39 ?l49 ?off9 HS hf ?kv9 ?kvl9 hO1 hvs1 hvl1 hT hD hS1 G Gold hDn hus hul hlS ?ret9
  case hm9 => exact List.forall_mem_cons.mpr ⟨(hF1 (Str.ofString "numbers") (by decide)).trans (hm _ (.head _)), List.forall_mem_cons.mpr ⟨(hF1 (Str.ofString "k") (by decide)).trans (hm _ (.tail _ (.head _))), List.forall_mem_cons.mpr ⟨(hF1 (Str.ofString "tree") (by decide)).trans (hm _ (.tail _ (.tail _ (.head _)))), List.forall_mem_cons.mpr ⟨(hF1 (Str.ofString "keys") (by decide)).trans (hm _ (.tail _ (.tail _ (.tail _ (.head _))))), List.forall_mem_cons.mpr ⟨rfl, List.forall_mem_cons.mpr ⟨rfl, List.forall_mem_cons.mpr ⟨(hF1 (Str.ofString "key") (by decide)).trans (hm _ (.tail _ (.tail _ (.tail _ (.tail _ (.tail _ (.head _))))))), List.forall_mem_cons.mpr ⟨(hF1 (Str.ofString "what") (by decide)).trans (hm _ (.tail _ (.tail _ (.tail _ (.tail _ (.tail _ (.tail _ (.head _)))))))), List.forall_mem_cons.mpr ⟨(hF1 (Str.ofString "told") (by decide)).trans (hm _ (.tail _ (.tail _ (.tail _ (.tail _ (.tail _ (.tail _ (.tail _ (.head _))))))))), fun _ h => absurd h List.not_mem_nil⟩⟩⟩⟩⟩⟩⟩⟩⟩
  case N9 => 
    dsimp only [List.cons_append, List.nil_append]
    (repeat refine List.forall_mem_cons.mpr ⟨N1 _ (by k_mem), ?_⟩)
    exact fun p hp => N1 p (by walk_at "m_tailL")
  case l19 => exact ⟨l1.1, l1.2.1, l1.2.2.1, l1.2.2.2.1, l1.2.2.2.2.1, l1.2.2.2.2.2.1, l1.2.2.2.2.2.2.1, l1.2.2.2.2.2.2.2.1, by omega, by omega⟩
  case l29 => exact List.forall_mem_cons.mpr ⟨ne_tag g4 g6 (by decide), List.forall_mem_cons.mpr ⟨ne_tag g5 g6 (by decide), List.forall_mem_cons.mpr ⟨ne_tag g10 g6 (by decide), List.forall_mem_cons.mpr ⟨ne_tag g11 g6 (by decide), List.forall_mem_cons.mpr ⟨ne_tag g12 g6 (by decide), List.forall_mem_cons.mpr ⟨ne_tag g13 g6 (by decide), List.forall_mem_cons.mpr ⟨ne_tag g14 g6 (by decide), List.forall_mem_cons.mpr ⟨ne_tag g15 g6 (by decide), List.forall_mem_cons.mpr ⟨ne_tag g16 g6 (by decide), List.forall_mem_cons.mpr ⟨ne_tag g17 g6 (by decide), List.forall_mem_cons.mpr ⟨ne_tag g18 g6 (by decide), fun _ h => absurd h List.not_mem_nil⟩⟩⟩⟩⟩⟩⟩⟩⟩⟩⟩
  case l39 => exact ⟨ne_tag g18 g6 (by decide), ne_tag g15 g6 (by decide), ne_tag g14 g6 (by decide), ne_tag g16 g6 (by decide)⟩
  case l49 => exact List.forall_mem_cons.mpr ⟨ne_tag g4 g19 (by decide), List.forall_mem_cons.mpr ⟨ne_tag g5 g19 (by decide), List.forall_mem_cons.mpr ⟨ne_tag g6 g19 (by decide), List.forall_mem_cons.mpr ⟨ne_tag g10 g19 (by decide), List.forall_mem_cons.mpr ⟨ne_tag g11 g19 (by decide), List.forall_mem_cons.mpr ⟨ne_tag g12 g19 (by decide), List.forall_mem_cons.mpr ⟨ne_tag g13 g19 (by decide), List.forall_mem_cons.mpr ⟨ne_tag g14 g19 (by decide), List.forall_mem_cons.mpr ⟨ne_tag g15 g19 (by decide), List.forall_mem_cons.mpr ⟨ne_tag g16 g19 (by decide), List.forall_mem_cons.mpr ⟨ne_tag g17 g19 (by decide), List.forall_mem_cons.mpr ⟨ne_tag g18 g19 (by decide), fun _ h => absurd h List.not_mem_nil⟩⟩⟩⟩⟩⟩⟩⟩⟩⟩⟩⟩
  case off9 => exact offCons (List.forall_mem_cons.mpr ⟨Nat.ne_of_gt (Nat.lt_succ_of_lt i_ow1), List.forall_mem_cons.mpr ⟨Nat.ne_of_gt (Nat.lt_succ_of_lt i_dw1), List.forall_mem_cons.mpr ⟨Nat.ne_of_gt (Nat.lt_succ_of_lt i_lb1), List.forall_mem_cons.mpr ⟨Nat.ne_of_gt (Nat.lt_succ_of_lt i_Dt), List.forall_mem_cons.mpr ⟨Nat.ne_of_gt (Nat.lt_succ_of_lt i_lk), List.forall_mem_cons.mpr ⟨Nat.ne_of_gt (Nat.lt_succ_of_lt i_dDB), List.forall_mem_cons.mpr ⟨Nat.ne_of_gt (Nat.lt_succ_of_lt i_x), List.forall_mem_cons.mpr ⟨Nat.ne_of_gt (Nat.lt_succ_of_lt i_dx), List.forall_mem_cons.mpr ⟨Nat.ne_of_gt (Nat.lt_succ_of_lt i_f), List.forall_mem_cons.mpr ⟨Nat.ne_of_gt (Nat.lt_succ_of_lt i_c), List.forall_mem_cons.mpr ⟨Nat.ne_of_gt (Nat.lt_succ_of_lt i_dS), List.forall_mem_cons.mpr ⟨Nat.ne_of_gt (Nat.lt_succ_of_lt i_D1), List.forall_mem_cons.mpr ⟨Nat.ne_of_gt (Nat.lt_succ_of_lt i_cl), fun _ h => absurd h List.not_mem_nil⟩⟩⟩⟩⟩⟩⟩⟩⟩⟩⟩⟩⟩) (offCons (List.forall_mem_cons.mpr ⟨Nat.ne_of_gt i_ow1, List.forall_mem_cons.mpr ⟨Nat.ne_of_gt i_dw1, List.forall_mem_cons.mpr ⟨Nat.ne_of_gt i_lb1, List.forall_mem_cons.mpr ⟨Nat.ne_of_gt i_Dt, List.forall_mem_cons.mpr ⟨Nat.ne_of_gt i_lk, List.forall_mem_cons.mpr ⟨Nat.ne_of_gt i_dDB, List.forall_mem_cons.mpr ⟨Nat.ne_of_gt i_x, List.forall_mem_cons.mpr ⟨Nat.ne_of_gt i_dx, List.forall_mem_cons.mpr ⟨Nat.ne_of_gt i_f, List.forall_mem_cons.mpr ⟨Nat.ne_of_gt i_c, List.forall_mem_cons.mpr ⟨Nat.ne_of_gt i_dS, List.forall_mem_cons.mpr ⟨Nat.ne_of_gt i_D1, List.forall_mem_cons.mpr ⟨Nat.ne_of_gt i_cl, fun _ h => absurd h List.not_mem_nil⟩⟩⟩⟩⟩⟩⟩⟩⟩⟩⟩⟩⟩) (offCons (List.forall_mem_cons.mpr ⟨ne_tag g0 g4 (by decide), List.forall_mem_cons.mpr ⟨ne_tag g0 g5 (by decide), List.forall_mem_cons.mpr ⟨ne_tag g0 g6 (by decide), List.forall_mem_cons.mpr ⟨ne_tag g0 g19 (by decide), List.forall_mem_cons.mpr ⟨ne_tag g0 g10 (by decide), List.forall_mem_cons.mpr ⟨ne_tag g0 g11 (by decide), List.forall_mem_cons.mpr ⟨ne_tag g0 g12 (by decide), List.forall_mem_cons.mpr ⟨ne_tag g0 g13 (by decide), List.forall_mem_cons.mpr ⟨ne_tag g0 g14 (by decide), List.forall_mem_cons.mpr ⟨ne_tag g0 g15 (by decide), List.forall_mem_cons.mpr ⟨ne_tag g0 g16 (by decide), List.forall_mem_cons.mpr ⟨ne_tag g0 g17 (by decide), List.forall_mem_cons.mpr ⟨ne_tag g0 g18 (by decide), fun _ h => absurd h List.not_mem_nil⟩⟩⟩⟩⟩⟩⟩⟩⟩⟩⟩⟩⟩) (offCons (List.forall_mem_cons.mpr ⟨ne_tag g1 g4 (by decide), List.forall_mem_cons.mpr ⟨ne_tag g1 g5 (by decide), List.forall_mem_cons.mpr ⟨ne_tag g1 g6 (by decide), List.forall_mem_cons.mpr ⟨ne_tag g1 g19 (by decide), List.forall_mem_cons.mpr ⟨ne_tag g1 g10 (by decide), List.forall_mem_cons.mpr ⟨ne_tag g1 g11 (by decide), List.forall_mem_cons.mpr ⟨ne_tag g1 g12 (by decide), List.forall_mem_cons.mpr ⟨ne_tag g1 g13 (by decide), List.forall_mem_cons.mpr ⟨ne_tag g1 g14 (by decide), List.forall_mem_cons.mpr ⟨ne_tag g1 g15 (by decide), List.forall_mem_cons.mpr ⟨ne_tag g1 g16 (by decide), List.forall_mem_cons.mpr ⟨ne_tag g1 g17 (by decide), List.forall_mem_cons.mpr ⟨ne_tag g1 g18 (by decide), fun _ h => absurd h List.not_mem_nil⟩⟩⟩⟩⟩⟩⟩⟩⟩⟩⟩⟩⟩) (offCons (List.forall_mem_cons.mpr ⟨ne_tag g2 g4 (by decide), List.forall_mem_cons.mpr ⟨ne_tag g2 g5 (by decide), List.forall_mem_cons.mpr ⟨ne_tag g2 g6 (by decide), List.forall_mem_cons.mpr ⟨ne_tag g2 g19 (by decide), List.forall_mem_cons.mpr ⟨ne_tag g2 g10 (by decide), List.forall_mem_cons.mpr ⟨ne_tag g2 g11 (by decide), List.forall_mem_cons.mpr ⟨ne_tag g2 g12 (by decide), List.forall_mem_cons.mpr ⟨ne_tag g2 g13 (by decide), List.forall_mem_cons.mpr ⟨ne_tag g2 g14 (by decide), List.forall_mem_cons.mpr ⟨ne_tag g2 g15 (by decide), List.forall_mem_cons.mpr ⟨ne_tag g2 g16 (by decide), List.forall_mem_cons.mpr ⟨ne_tag g2 g17 (by decide), List.forall_mem_cons.mpr ⟨ne_tag g2 g18 (by decide), fun _ h => absurd h List.not_mem_nil⟩⟩⟩⟩⟩⟩⟩⟩⟩⟩⟩⟩⟩) (offCons (List.forall_mem_cons.mpr ⟨ne_tag g3 g4 (by decide), List.forall_mem_cons.mpr ⟨ne_tag g3 g5 (by decide), List.forall_mem_cons.mpr ⟨ne_tag g3 g6 (by decide), List.forall_mem_cons.mpr ⟨ne_tag g3 g19 (by decide), List.forall_mem_cons.mpr ⟨ne_tag g3 g10 (by decide), List.forall_mem_cons.mpr ⟨ne_tag g3 g11 (by decide), List.forall_mem_cons.mpr ⟨ne_tag g3 g12 (by decide), List.forall_mem_cons.mpr ⟨ne_tag g3 g13 (by decide), List.forall_mem_cons.mpr ⟨ne_tag g3 g14 (by decide), List.forall_mem_cons.mpr ⟨ne_tag g3 g15 (by decide), List.forall_mem_cons.mpr ⟨ne_tag g3 g16 (by decide), List.forall_mem_cons.mpr ⟨ne_tag g3 g17 (by decide), List.forall_mem_cons.mpr ⟨ne_tag g3 g18 (by decide), fun _ h => absurd h List.not_mem_nil⟩⟩⟩⟩⟩⟩⟩⟩⟩⟩⟩⟩⟩) (offCons (List.forall_mem_cons.mpr ⟨ne_tag g7 g4 (by decide), List.forall_mem_cons.mpr ⟨ne_tag g7 g5 (by decide), List.forall_mem_cons.mpr ⟨ne_tag g7 g6 (by decide), List.forall_mem_cons.mpr ⟨ne_tag g7 g19 (by decide), List.forall_mem_cons.mpr ⟨ne_tag g7 g10 (by decide), List.forall_mem_cons.mpr ⟨ne_tag g7 g11 (by decide), List.forall_mem_cons.mpr ⟨ne_tag g7 g12 (by decide), List.forall_mem_cons.mpr ⟨ne_tag g7 g13 (by decide), List.forall_mem_cons.mpr ⟨ne_tag g7 g14 (by decide), List.forall_mem_cons.mpr ⟨ne_tag g7 g15 (by decide), List.forall_mem_cons.mpr ⟨ne_tag g7 g16 (by decide), List.forall_mem_cons.mpr ⟨ne_tag g7 g17 (by decide), List.forall_mem_cons.mpr ⟨ne_tag g7 g18 (by decide), fun _ h => absurd h List.not_mem_nil⟩⟩⟩⟩⟩⟩⟩⟩⟩⟩⟩⟩⟩) (offCons (List.forall_mem_cons.mpr ⟨ne_tag g8 g4 (by decide), List.forall_mem_cons.mpr ⟨ne_tag g8 g5 (by decide), List.forall_mem_cons.mpr ⟨ne_tag g8 g6 (by decide), List.forall_mem_cons.mpr ⟨ne_tag g8 g19 (by decide), List.forall_mem_cons.mpr ⟨ne_tag g8 g10 (by decide), List.forall_mem_cons.mpr ⟨ne_tag g8 g11 (by decide), List.forall_mem_cons.mpr ⟨ne_tag g8 g12 (by decide), List.forall_mem_cons.mpr ⟨ne_tag g8 g13 (by decide), List.forall_mem_cons.mpr ⟨ne_tag g8 g14 (by decide), List.forall_mem_cons.mpr ⟨ne_tag g8 g15 (by decide), List.forall_mem_cons.mpr ⟨ne_tag g8 g16 (by decide), List.forall_mem_cons.mpr ⟨ne_tag g8 g17 (by decide), List.forall_mem_cons.mpr ⟨ne_tag g8 g18 (by decide), fun _ h => absurd h List.not_mem_nil⟩⟩⟩⟩⟩⟩⟩⟩⟩⟩⟩⟩⟩) (offCons (List.forall_mem_cons.mpr ⟨ne_tag g9 g4 (by decide), List.forall_mem_cons.mpr ⟨ne_tag g9 g5 (by decide), List.forall_mem_cons.mpr ⟨ne_tag g9 g6 (by decide), List.forall_mem_cons.mpr ⟨ne_tag g9 g19 (by decide), List.forall_mem_cons.mpr ⟨ne_tag g9 g10 (by decide), List.forall_mem_cons.mpr ⟨ne_tag g9 g11 (by decide), List.forall_mem_cons.mpr ⟨ne_tag g9 g12 (by decide), List.forall_mem_cons.mpr ⟨ne_tag g9 g13 (by decide), List.forall_mem_cons.mpr ⟨ne_tag g9 g14 (by decide), List.forall_mem_cons.mpr ⟨ne_tag g9 g15 (by decide), List.forall_mem_cons.mpr ⟨ne_tag g9 g16 (by decide), List.forall_mem_cons.mpr ⟨ne_tag g9 g17 (by decide), List.forall_mem_cons.mpr ⟨ne_tag g9 g18 (by decide), fun _ h => absurd h List.not_mem_nil⟩⟩⟩⟩⟩⟩⟩⟩⟩⟩⟩⟩⟩) (fun p hp => List.forall_mem_cons.mpr ⟨hown p hp _ (by walk_at "m_memL"), List.forall_mem_cons.mpr ⟨hown p hp _ (by walk_at "m_memL"), List.forall_mem_cons.mpr ⟨hown p hp _ (by walk_at "m_memL"), List.forall_mem_cons.mpr ⟨hown p hp _ (by walk_at "m_memL"), List.forall_mem_cons.mpr ⟨hown p hp _ (by walk_at "m_memL"), List.forall_mem_cons.mpr ⟨hown p hp _ (by walk_at "m_memL"), List.forall_mem_cons.mpr ⟨hown p hp _ (by walk_at "m_memL"), List.forall_mem_cons.mpr ⟨hown p hp _ (by walk_at "m_memL"), List.forall_mem_cons.mpr ⟨hown p hp _ (by walk_at "m_memL"), List.forall_mem_cons.mpr ⟨hown p hp _ (by walk_at "m_memL"), List.forall_mem_cons.mpr ⟨hown p hp _ (by walk_at "m_memL"), List.forall_mem_cons.mpr ⟨hown p hp _ (by walk_at "m_memL"), List.forall_mem_cons.mpr ⟨hown p hp _ (by walk_at "m_memL"), fun _ h => absurd h List.not_mem_nil⟩⟩⟩⟩⟩⟩⟩⟩⟩⟩⟩⟩⟩)))))))))
  case kv9 => exact rfl
  case kvl9 => exact (by decide : 3 ≤ 10)
  case ret9 =>
  intro h1n tk1n oS2 od1n vs1n m2 FF1 hs9 NN1 hS2 hO1n hvs1n hvl1n
  have hs2 : Same six m m2 := hF1.trans (Same.of hs9 fun z hz => .tail _ (.tail _ hz))
  clear hs9 hF1 hw1
  dsimp only [List.cons_append, List.nil_append] at NN1
  refine' ⟨_, _, m2, (Dt, tup us) :: (lo, listOf [.ref ow0, .ref ow1, .ref ow2].toArray co) :: (ow0, instObj 132 dw0) :: (dw0, od0n) :: (lb0, listOf vs0n.toArray cb0) :: (ow1, instObj 132 dw1) :: (dw1, od1n) :: (lb1, listOf vs1n.toArray cb1) :: (ow2, instObj 132 dw2) :: (dw2, od2) :: (lb2, listOf vs2.toArray cb2) :: (lk, listOf [.int kb0.toNat tk0, .int kb1.toNat tk1, .int kb2.toNat tk2].toArray ck) :: (dDB, oDB) :: (x, instObj 235 dx) :: (dx, odT) :: (f, fo) :: (c, occ) :: (dS, oS2) :: (D1, listOf ws.toArray 0) :: (cl, ocl) :: own, rfl, FF1, ?N8, ?off8, ⟨⟨?sub8, trivial⟩, ?rest8⟩⟩
  case N8 =>
    dsimp only [List.cons_append, List.nil_append]
    (repeat refine List.forall_mem_cons.mpr ⟨NN1 _ (by k_mem), ?_⟩)
    exact fun p hp => NN1 p (by walk_at "m_tailL")
  case off8 => exact List.forall_mem_cons.mpr ⟨List.forall_mem_cons.mpr ⟨Nat.ne_of_lt (Nat.lt_succ_of_lt i_Dt), List.forall_mem_cons.mpr ⟨Nat.ne_of_lt i_Dt, fun _ h => absurd h List.not_mem_nil⟩⟩, List.forall_mem_cons.mpr ⟨List.forall_mem_cons.mpr ⟨Nat.ne_of_lt (Nat.lt_succ_of_lt i_lo), List.forall_mem_cons.mpr ⟨Nat.ne_of_lt i_lo, fun _ h => absurd h List.not_mem_nil⟩⟩, List.forall_mem_cons.mpr ⟨List.forall_mem_cons.mpr ⟨Nat.ne_of_lt (Nat.lt_succ_of_lt i_ow0), List.forall_mem_cons.mpr ⟨Nat.ne_of_lt i_ow0, fun _ h => absurd h List.not_mem_nil⟩⟩, List.forall_mem_cons.mpr ⟨List.forall_mem_cons.mpr ⟨Nat.ne_of_lt (Nat.lt_succ_of_lt i_dw0), List.forall_mem_cons.mpr ⟨Nat.ne_of_lt i_dw0, fun _ h => absurd h List.not_mem_nil⟩⟩, List.forall_mem_cons.mpr ⟨List.forall_mem_cons.mpr ⟨Nat.ne_of_lt (Nat.lt_succ_of_lt i_lb0), List.forall_mem_cons.mpr ⟨Nat.ne_of_lt i_lb0, fun _ h => absurd h List.not_mem_nil⟩⟩, List.forall_mem_cons.mpr ⟨List.forall_mem_cons.mpr ⟨Nat.ne_of_lt (Nat.lt_succ_of_lt i_ow1), List.forall_mem_cons.mpr ⟨Nat.ne_of_lt i_ow1, fun _ h => absurd h List.not_mem_nil⟩⟩, List.forall_mem_cons.mpr ⟨List.forall_mem_cons.mpr ⟨Nat.ne_of_lt (Nat.lt_succ_of_lt i_dw1), List.forall_mem_cons.mpr ⟨Nat.ne_of_lt i_dw1, fun _ h => absurd h List.not_mem_nil⟩⟩, List.forall_mem_cons.mpr ⟨List.forall_mem_cons.mpr ⟨Nat.ne_of_lt (Nat.lt_succ_of_lt i_lb1), List.forall_mem_cons.mpr ⟨Nat.ne_of_lt i_lb1, fun _ h => absurd h List.not_mem_nil⟩⟩, List.forall_mem_cons.mpr ⟨List.forall_mem_cons.mpr ⟨Nat.ne_of_lt (Nat.lt_succ_of_lt i_ow2), List.forall_mem_cons.mpr ⟨Nat.ne_of_lt i_ow2, fun _ h => absurd h List.not_mem_nil⟩⟩, List.forall_mem_cons.mpr ⟨List.forall_mem_cons.mpr ⟨Nat.ne_of_lt (Nat.lt_succ_of_lt i_dw2), List.forall_mem_cons.mpr ⟨Nat.ne_of_lt i_dw2, fun _ h => absurd h List.not_mem_nil⟩⟩, List.forall_mem_cons.mpr ⟨List.forall_mem_cons.mpr ⟨Nat.ne_of_lt (Nat.lt_succ_of_lt i_lb2), List.forall_mem_cons.mpr ⟨Nat.ne_of_lt i_lb2, fun _ h => absurd h List.not_mem_nil⟩⟩, List.forall_mem_cons.mpr ⟨List.forall_mem_cons.mpr ⟨Nat.ne_of_lt (Nat.lt_succ_of_lt i_lk), List.forall_mem_cons.mpr ⟨Nat.ne_of_lt i_lk, fun _ h => absurd h List.not_mem_nil⟩⟩, List.forall_mem_cons.mpr ⟨List.forall_mem_cons.mpr ⟨Nat.ne_of_lt (Nat.lt_succ_of_lt i_dDB), List.forall_mem_cons.mpr ⟨Nat.ne_of_lt i_dDB, fun _ h => absurd h List.not_mem_nil⟩⟩, List.forall_mem_cons.mpr ⟨List.forall_mem_cons.mpr ⟨Nat.ne_of_lt (Nat.lt_succ_of_lt i_x), List.forall_mem_cons.mpr ⟨Nat.ne_of_lt i_x, fun _ h => absurd h List.not_mem_nil⟩⟩, List.forall_mem_cons.mpr ⟨List.forall_mem_cons.mpr ⟨Nat.ne_of_lt (Nat.lt_succ_of_lt i_dx), List.forall_mem_cons.mpr ⟨Nat.ne_of_lt i_dx, fun _ h => absurd h List.not_mem_nil⟩⟩, List.forall_mem_cons.mpr ⟨List.forall_mem_cons.mpr ⟨Nat.ne_of_lt (Nat.lt_succ_of_lt i_f), List.forall_mem_cons.mpr ⟨Nat.ne_of_lt i_f, fun _ h => absurd h List.not_mem_nil⟩⟩, List.forall_mem_cons.mpr ⟨List.forall_mem_cons.mpr ⟨Nat.ne_of_lt (Nat.lt_succ_of_lt i_c), List.forall_mem_cons.mpr ⟨Nat.ne_of_lt i_c, fun _ h => absurd h List.not_mem_nil⟩⟩, List.forall_mem_cons.mpr ⟨List.forall_mem_cons.mpr ⟨Nat.ne_of_lt (Nat.lt_succ_of_lt i_dS), List.forall_mem_cons.mpr ⟨Nat.ne_of_lt i_dS, fun _ h => absurd h List.not_mem_nil⟩⟩, List.forall_mem_cons.mpr ⟨List.forall_mem_cons.mpr ⟨Nat.ne_of_lt (Nat.lt_succ_of_lt i_D1), List.forall_mem_cons.mpr ⟨Nat.ne_of_lt i_D1, fun _ h => absurd h List.not_mem_nil⟩⟩, List.forall_mem_cons.mpr ⟨List.forall_mem_cons.mpr ⟨Nat.ne_of_lt (Nat.lt_succ_of_lt i_cl), List.forall_mem_cons.mpr ⟨Nat.ne_of_lt i_cl, fun _ h => absurd h List.not_mem_nil⟩⟩, fun p hp => List.forall_mem_cons.mpr ⟨Nat.ne_of_lt (Nat.lt_succ_of_lt (hIo p hp)), List.forall_mem_cons.mpr ⟨Nat.ne_of_lt (hIo p hp), fun _ h => absurd h List.not_mem_nil⟩⟩⟩⟩⟩⟩⟩⟩⟩⟩⟩⟩⟩⟩⟩⟩⟩⟩⟩⟩⟩⟩
  case sub8 => exact .tail _ (.head _)
  case rest8 =>
  clear NN1
  refine ItemsRest.pair fun T2 t29 h2 tkk2 hT2 F2 => AllObj.cons fun o1 hc1 => AllObj.cons fun o2 hc2 => AllObj.nil fun N2 => ?_
  have hw2 : Same six m2 (fun y => if y = Str.ofString "owner" then some (.ref ow2) else if y = Str.ofString "place" then some (.int (2 : Nat) t29) else m2 y) := fun z hz => by
    simp only [six, List.mem_cons, List.not_mem_nil, or_false, not_or] at hz
    simp only [hz.1, hz.2.1, if_false]
  have hF2 : Same six m _ := hs2.trans hw2
  k_steps
  refine Stop.out ?_
  skip
  (with_reducible rename Fr _ _ _ _ => F2)
  (with_reducible rename News _ _ _ _ => N2)
  refine' owner_turn (lk := lk) (dDB := dDB) (x := x) (dx := dx) (f := f) (c := c) (dS := dS) (D1 := D1) (cl := cl) (lb := lb2) (ow := ow2) (dow := dw2) (Dt := Dt) (kvs := [.int kb0.toNat tk0, .int kb1.toNat tk1, .int kb2.toNat tk2]) (t0 := t0) (t1 := t1) (t2 := t2) (t3 := t29) (vs := vs2) (us := us) (ws := ws) (odo := od2) (ck := ck) (cb := cb2) (pl := 2) (V := V) (V' := V') (own := [(I + 1, o1), (I, o2), (lo, listOf [.ref ow0, .ref ow1, .ref ow2].toArray co), (ow0, instObj 132 dw0), (dw0, od0n), (lb0, listOf vs0n.toArray cb0), (ow1, instObj 132 dw1), (dw1, od1n), (lb1, listOf vs1n.toArray cb1)] ++ own) (kb := kb2) (pb := pb) hlaw2 B X0 T hW hn hkk F2 ?hm9 ?N9 ?l19 ?l29 ?l39 ?l49 ?off9 HS hf ?kv9 ?kvl9 hO2 hvs2 hvl2 hT hD hS2 G Gold hDn hus hul hlS ?ret9
  case hm9 => exact List.forall_mem_cons.mpr ⟨(hF2 (Str.ofString "numbers") (by decide)).trans (hm _ (.head _)), List.forall_mem_cons.mpr ⟨(hF2 (Str.ofString "k") (by decide)).trans (hm _ (.tail _ (.head _))), List.forall_mem_cons.mpr ⟨(hF2 (Str.ofString "tree") (by decide)).trans (hm _ (.tail _ (.tail _ (.head _)))), List.forall_mem_cons.mpr ⟨(hF2 (Str.ofString "keys") (by decide)).trans (hm _ (.tail _ (.tail _ (.tail _ (.head _))))), List.forall_mem_cons.mpr ⟨rfl, List.forall_mem_cons.mpr ⟨rfl, List.forall_mem_cons.mpr ⟨(hF2 (Str.ofString "key") (by decide)).trans (hm _ (.tail _ (.tail _ (.tail _ (.tail _ (.tail _ (.head _))))))), List.forall_mem_cons.mpr ⟨(hF2 (Str.ofString "what") (by decide)).trans (hm _ (.tail _ (.tail _ (.tail _ (.tail _ (.tail _ (.tail _ (.head _)))))))), List.forall_mem_cons.mpr ⟨(hF2 (Str.ofString "told") (by decide)).trans (hm _ (.tail _ (.tail _ (.tail _ (.tail _ (.tail _ (.tail _ (.tail _ (.head _))))))))), fun _ h => absurd h List.not_mem_nil⟩⟩⟩⟩⟩⟩⟩⟩⟩
  case N9 => 
    dsimp only [List.cons_append, List.nil_append]
    (repeat refine List.forall_mem_cons.mpr ⟨N2 _ (by k_mem), ?_⟩)
    exact fun p hp => N2 p (by walk_at "m_tailL")
  case l19 => exact ⟨l1.1, l1.2.1, l1.2.2.1, l1.2.2.2.1, l1.2.2.2.2.1, l1.2.2.2.2.2.1, l1.2.2.2.2.2.2.1, l1.2.2.2.2.2.2.2.1, by omega, by omega⟩
  case l29 => exact List.forall_mem_cons.mpr ⟨ne_tag g7 g9 (by decide), List.forall_mem_cons.mpr ⟨ne_tag g8 g9 (by decide), List.forall_mem_cons.mpr ⟨ne_tag g10 g9 (by decide), List.forall_mem_cons.mpr ⟨ne_tag g11 g9 (by decide), List.forall_mem_cons.mpr ⟨ne_tag g12 g9 (by decide), List.forall_mem_cons.mpr ⟨ne_tag g13 g9 (by decide), List.forall_mem_cons.mpr ⟨ne_tag g14 g9 (by decide), List.forall_mem_cons.mpr ⟨ne_tag g15 g9 (by decide), List.forall_mem_cons.mpr ⟨ne_tag g16 g9 (by decide), List.forall_mem_cons.mpr ⟨ne_tag g17 g9 (by decide), List.forall_mem_cons.mpr ⟨ne_tag g18 g9 (by decide), fun _ h => absurd h List.not_mem_nil⟩⟩⟩⟩⟩⟩⟩⟩⟩⟩⟩
  case l39 => exact ⟨ne_tag g18 g9 (by decide), ne_tag g15 g9 (by decide), ne_tag g14 g9 (by decide), ne_tag g16 g9 (by decide)⟩
  case l49 => exact List.forall_mem_cons.mpr ⟨ne_tag g7 g19 (by decide), List.forall_mem_cons.mpr ⟨ne_tag g8 g19 (by decide), List.forall_mem_cons.mpr ⟨ne_tag g9 g19 (by decide), List.forall_mem_cons.mpr ⟨ne_tag g10 g19 (by decide), List.forall_mem_cons.mpr ⟨ne_tag g11 g19 (by decide), List.forall_mem_cons.mpr ⟨ne_tag g12 g19 (by decide), List.forall_mem_cons.mpr ⟨ne_tag g13 g19 (by decide), List.forall_mem_cons.mpr ⟨ne_tag g14 g19 (by decide), List.forall_mem_cons.mpr ⟨ne_tag g15 g19 (by decide), List.forall_mem_cons.mpr ⟨ne_tag g16 g19 (by decide), List.forall_mem_cons.mpr ⟨ne_tag g17 g19 (by decide), List.forall_mem_cons.mpr ⟨ne_tag g18 g19 (by decide), fun _ h => absurd h List.not_mem_nil⟩⟩⟩⟩⟩⟩⟩⟩⟩⟩⟩⟩
  case off9 => exact offCons (List.forall_mem_cons.mpr ⟨Nat.ne_of_gt (Nat.lt_succ_of_lt i_ow2), List.forall_mem_cons.mpr ⟨Nat.ne_of_gt (Nat.lt_succ_of_lt i_dw2), List.forall_mem_cons.mpr ⟨Nat.ne_of_gt (Nat.lt_succ_of_lt i_lb2), List.forall_mem_cons.mpr ⟨Nat.ne_of_gt (Nat.lt_succ_of_lt i_Dt), List.forall_mem_cons.mpr ⟨Nat.ne_of_gt (Nat.lt_succ_of_lt i_lk), List.forall_mem_cons.mpr ⟨Nat.ne_of_gt (Nat.lt_succ_of_lt i_dDB), List.forall_mem_cons.mpr ⟨Nat.ne_of_gt (Nat.lt_succ_of_lt i_x), List.forall_mem_cons.mpr ⟨Nat.ne_of_gt (Nat.lt_succ_of_lt i_dx), List.forall_mem_cons.mpr ⟨Nat.ne_of_gt (Nat.lt_succ_of_lt i_f), List.forall_mem_cons.mpr ⟨Nat.ne_of_gt (Nat.lt_succ_of_lt i_c), List.forall_mem_cons.mpr ⟨Nat.ne_of_gt (Nat.lt_succ_of_lt i_dS), List.forall_mem_cons.mpr ⟨Nat.ne_of_gt (Nat.lt_succ_of_lt i_D1), List.forall_mem_cons.mpr ⟨Nat.ne_of_gt (Nat.lt_succ_of_lt i_cl), fun _ h => absurd h List.not_mem_nil⟩⟩⟩⟩⟩⟩⟩⟩⟩⟩⟩⟩⟩) (offCons (List.forall_mem_cons.mpr ⟨Nat.ne_of_gt i_ow2, List.forall_mem_cons.mpr ⟨Nat.ne_of_gt i_dw2, List.forall_mem_cons.mpr ⟨Nat.ne_of_gt i_lb2, List.forall_mem_cons.mpr ⟨Nat.ne_of_gt i_Dt, List.forall_mem_cons.mpr ⟨Nat.ne_of_gt i_lk, List.forall_mem_cons.mpr ⟨Nat.ne_of_gt i_dDB, List.forall_mem_cons.mpr ⟨Nat.ne_of_gt i_x, List.forall_mem_cons.mpr ⟨Nat.ne_of_gt i_dx, List.forall_mem_cons.mpr ⟨Nat.ne_of_gt i_f, List.forall_mem_cons.mpr ⟨Nat.ne_of_gt i_c, List.forall_mem_cons.mpr ⟨Nat.ne_of_gt i_dS, List.forall_mem_cons.mpr ⟨Nat.ne_of_gt i_D1, List.forall_mem_cons.mpr ⟨Nat.ne_of_gt i_cl, fun _ h => absurd h List.not_mem_nil⟩⟩⟩⟩⟩⟩⟩⟩⟩⟩⟩⟩⟩) (offCons (List.forall_mem_cons.mpr ⟨ne_tag g0 g7 (by decide), List.forall_mem_cons.mpr ⟨ne_tag g0 g8 (by decide), List.forall_mem_cons.mpr ⟨ne_tag g0 g9 (by decide), List.forall_mem_cons.mpr ⟨ne_tag g0 g19 (by decide), List.forall_mem_cons.mpr ⟨ne_tag g0 g10 (by decide), List.forall_mem_cons.mpr ⟨ne_tag g0 g11 (by decide), List.forall_mem_cons.mpr ⟨ne_tag g0 g12 (by decide), List.forall_mem_cons.mpr ⟨ne_tag g0 g13 (by decide), List.forall_mem_cons.mpr ⟨ne_tag g0 g14 (by decide), List.forall_mem_cons.mpr ⟨ne_tag g0 g15 (by decide), List.forall_mem_cons.mpr ⟨ne_tag g0 g16 (by decide), List.forall_mem_cons.mpr ⟨ne_tag g0 g17 (by decide), List.forall_mem_cons.mpr ⟨ne_tag g0 g18 (by decide), fun _ h => absurd h List.not_mem_nil⟩⟩⟩⟩⟩⟩⟩⟩⟩⟩⟩⟩⟩) (offCons (List.forall_mem_cons.mpr ⟨ne_tag g1 g7 (by decide), List.forall_mem_cons.mpr ⟨ne_tag g1 g8 (by decide), List.forall_mem_cons.mpr ⟨ne_tag g1 g9 (by decide), List.forall_mem_cons.mpr ⟨ne_tag g1 g19 (by decide), List.forall_mem_cons.mpr ⟨ne_tag g1 g10 (by decide), List.forall_mem_cons.mpr ⟨ne_tag g1 g11 (by decide), List.forall_mem_cons.mpr ⟨ne_tag g1 g12 (by decide), List.forall_mem_cons.mpr ⟨ne_tag g1 g13 (by decide), List.forall_mem_cons.mpr ⟨ne_tag g1 g14 (by decide), List.forall_mem_cons.mpr ⟨ne_tag g1 g15 (by decide), List.forall_mem_cons.mpr ⟨ne_tag g1 g16 (by decide), List.forall_mem_cons.mpr ⟨ne_tag g1 g17 (by decide), List.forall_mem_cons.mpr ⟨ne_tag g1 g18 (by decide), fun _ h => absurd h List.not_mem_nil⟩⟩⟩⟩⟩⟩⟩⟩⟩⟩⟩⟩⟩) (offCons (List.forall_mem_cons.mpr ⟨ne_tag g2 g7 (by decide), List.forall_mem_cons.mpr ⟨ne_tag g2 g8 (by decide), List.forall_mem_cons.mpr ⟨ne_tag g2 g9 (by decide), List.forall_mem_cons.mpr ⟨ne_tag g2 g19 (by decide), List.forall_mem_cons.mpr ⟨ne_tag g2 g10 (by decide), List.forall_mem_cons.mpr ⟨ne_tag g2 g11 (by decide), List.forall_mem_cons.mpr ⟨ne_tag g2 g12 (by decide), List.forall_mem_cons.mpr ⟨ne_tag g2 g13 (by decide), List.forall_mem_cons.mpr ⟨ne_tag g2 g14 (by decide), List.forall_mem_cons.mpr ⟨ne_tag g2 g15 (by decide), List.forall_mem_cons.mpr ⟨ne_tag g2 g16 (by decide), List.forall_mem_cons.mpr ⟨ne_tag g2 g17 (by decide), List.forall_mem_cons.mpr ⟨ne_tag g2 g18 (by decide), fun _ h => absurd h List.not_mem_nil⟩⟩⟩⟩⟩⟩⟩⟩⟩⟩⟩⟩⟩) (offCons (List.forall_mem_cons.mpr ⟨ne_tag g3 g7 (by decide), List.forall_mem_cons.mpr ⟨ne_tag g3 g8 (by decide), List.forall_mem_cons.mpr ⟨ne_tag g3 g9 (by decide), List.forall_mem_cons.mpr ⟨ne_tag g3 g19 (by decide), List.forall_mem_cons.mpr ⟨ne_tag g3 g10 (by decide), List.forall_mem_cons.mpr ⟨ne_tag g3 g11 (by decide), List.forall_mem_cons.mpr ⟨ne_tag g3 g12 (by decide), List.forall_mem_cons.mpr ⟨ne_tag g3 g13 (by decide), List.forall_mem_cons.mpr ⟨ne_tag g3 g14 (by decide), List.forall_mem_cons.mpr ⟨ne_tag g3 g15 (by decide), List.forall_mem_cons.mpr ⟨ne_tag g3 g16 (by decide), List.forall_mem_cons.mpr ⟨ne_tag g3 g17 (by decide), List.forall_mem_cons.mpr ⟨ne_tag g3 g18 (by decide), fun _ h => absurd h List.not_mem_nil⟩⟩⟩⟩⟩⟩⟩⟩⟩⟩⟩⟩⟩) (offCons (List.forall_mem_cons.mpr ⟨ne_tag g4 g7 (by decide), List.forall_mem_cons.mpr ⟨ne_tag g4 g8 (by decide), List.forall_mem_cons.mpr ⟨ne_tag g4 g9 (by decide), List.forall_mem_cons.mpr ⟨ne_tag g4 g19 (by decide), List.forall_mem_cons.mpr ⟨ne_tag g4 g10 (by decide), List.forall_mem_cons.mpr ⟨ne_tag g4 g11 (by decide), List.forall_mem_cons.mpr ⟨ne_tag g4 g12 (by decide), List.forall_mem_cons.mpr ⟨ne_tag g4 g13 (by decide), List.forall_mem_cons.mpr ⟨ne_tag g4 g14 (by decide), List.forall_mem_cons.mpr ⟨ne_tag g4 g15 (by decide), List.forall_mem_cons.mpr ⟨ne_tag g4 g16 (by decide), List.forall_mem_cons.mpr ⟨ne_tag g4 g17 (by decide), List.forall_mem_cons.mpr ⟨ne_tag g4 g18 (by decide), fun _ h => absurd h List.not_mem_nil⟩⟩⟩⟩⟩⟩⟩⟩⟩⟩⟩⟩⟩) (offCons (List.forall_mem_cons.mpr ⟨ne_tag g5 g7 (by decide), List.forall_mem_cons.mpr ⟨ne_tag g5 g8 (by decide), List.forall_mem_cons.mpr ⟨ne_tag g5 g9 (by decide), List.forall_mem_cons.mpr ⟨ne_tag g5 g19 (by decide), List.forall_mem_cons.mpr ⟨ne_tag g5 g10 (by decide), List.forall_mem_cons.mpr ⟨ne_tag g5 g11 (by decide), List.forall_mem_cons.mpr ⟨ne_tag g5 g12 (by decide), List.forall_mem_cons.mpr ⟨ne_tag g5 g13 (by decide), List.forall_mem_cons.mpr ⟨ne_tag g5 g14 (by decide), List.forall_mem_cons.mpr ⟨ne_tag g5 g15 (by decide), List.forall_mem_cons.mpr ⟨ne_tag g5 g16 (by decide), List.forall_mem_cons.mpr ⟨ne_tag g5 g17 (by decide), List.forall_mem_cons.mpr ⟨ne_tag g5 g18 (by decide), fun _ h => absurd h List.not_mem_nil⟩⟩⟩⟩⟩⟩⟩⟩⟩⟩⟩⟩⟩) (offCons (List.forall_mem_cons.mpr ⟨ne_tag g6 g7 (by decide), List.forall_mem_cons.mpr ⟨ne_tag g6 g8 (by decide), List.forall_mem_cons.mpr ⟨ne_tag g6 g9 (by decide), List.forall_mem_cons.mpr ⟨ne_tag g6 g19 (by decide), List.forall_mem_cons.mpr ⟨ne_tag g6 g10 (by decide), List.forall_mem_cons.mpr ⟨ne_tag g6 g11 (by decide), List.forall_mem_cons.mpr ⟨ne_tag g6 g12 (by decide), List.forall_mem_cons.mpr ⟨ne_tag g6 g13 (by decide), List.forall_mem_cons.mpr ⟨ne_tag g6 g14 (by decide), List.forall_mem_cons.mpr ⟨ne_tag g6 g15 (by decide), List.forall_mem_cons.mpr ⟨ne_tag g6 g16 (by decide), List.forall_mem_cons.mpr ⟨ne_tag g6 g17 (by decide), List.forall_mem_cons.mpr ⟨ne_tag g6 g18 (by decide), fun _ h => absurd h List.not_mem_nil⟩⟩⟩⟩⟩⟩⟩⟩⟩⟩⟩⟩⟩) (fun p hp => List.forall_mem_cons.mpr ⟨hown p hp _ (by walk_at "m_memL"), List.forall_mem_cons.mpr ⟨hown p hp _ (by walk_at "m_memL"), List.forall_mem_cons.mpr ⟨hown p hp _ (by walk_at "m_memL"), List.forall_mem_cons.mpr ⟨hown p hp _ (by walk_at "m_memL"), List.forall_mem_cons.mpr ⟨hown p hp _ (by walk_at "m_memL"), List.forall_mem_cons.mpr ⟨hown p hp _ (by walk_at "m_memL"), List.forall_mem_cons.mpr ⟨hown p hp _ (by walk_at "m_memL"), List.forall_mem_cons.mpr ⟨hown p hp _ (by walk_at "m_memL"), List.forall_mem_cons.mpr ⟨hown p hp _ (by walk_at "m_memL"), List.forall_mem_cons.mpr ⟨hown p hp _ (by walk_at "m_memL"), List.forall_mem_cons.mpr ⟨hown p hp _ (by walk_at "m_memL"), List.forall_mem_cons.mpr ⟨hown p hp _ (by walk_at "m_memL"), List.forall_mem_cons.mpr ⟨hown p hp _ (by walk_at "m_memL"), fun _ h => absurd h List.not_mem_nil⟩⟩⟩⟩⟩⟩⟩⟩⟩⟩⟩⟩⟩)))))))))
  case kv9 => exact rfl
  case kvl9 => exact (by decide : 3 ≤ 10)
  case ret9 =>
  intro h2n tk2n oS3 od2n vs2n m3 FF2 hs9 NN2 hS3 hO2n hvs2n hvl2n
  have hs3 : Same six m m3 := hF2.trans (Same.of hs9 fun z hz => .tail _ (.tail _ hz))
  clear hs9 hF2 hw2
  dsimp only [List.cons_append, List.nil_append] at NN2
  refine' ⟨_, _, m3, (Dt, tup us) :: (lo, listOf [.ref ow0, .ref ow1, .ref ow2].toArray co) :: (ow0, instObj 132 dw0) :: (dw0, od0n) :: (lb0, listOf vs0n.toArray cb0) :: (ow1, instObj 132 dw1) :: (dw1, od1n) :: (lb1, listOf vs1n.toArray cb1) :: (ow2, instObj 132 dw2) :: (dw2, od2n) :: (lb2, listOf vs2n.toArray cb2) :: (lk, listOf [.int kb0.toNat tk0, .int kb1.toNat tk1, .int kb2.toNat tk2].toArray ck) :: (dDB, oDB) :: (x, instObj 235 dx) :: (dx, odT) :: (f, fo) :: (c, occ) :: (dS, oS3) :: (D1, listOf ws.toArray 0) :: (cl, ocl) :: own, rfl, FF2, ?N8, ?off8, ⟨⟨?sub8, trivial⟩, ?rest8⟩⟩
  case N8 =>
    dsimp only [List.cons_append, List.nil_append]
    (repeat refine List.forall_mem_cons.mpr ⟨NN2 _ (by k_mem), ?_⟩)
    exact fun p hp => NN2 p (by walk_at "m_tailL")
  case off8 => exact List.forall_mem_cons.mpr ⟨List.forall_mem_cons.mpr ⟨Nat.ne_of_lt (Nat.lt_succ_of_lt i_Dt), List.forall_mem_cons.mpr ⟨Nat.ne_of_lt i_Dt, fun _ h => absurd h List.not_mem_nil⟩⟩, List.forall_mem_cons.mpr ⟨List.forall_mem_cons.mpr ⟨Nat.ne_of_lt (Nat.lt_succ_of_lt i_lo), List.forall_mem_cons.mpr ⟨Nat.ne_of_lt i_lo, fun _ h => absurd h List.not_mem_nil⟩⟩, List.forall_mem_cons.mpr ⟨List.forall_mem_cons.mpr ⟨Nat.ne_of_lt (Nat.lt_succ_of_lt i_ow0), List.forall_mem_cons.mpr ⟨Nat.ne_of_lt i_ow0, fun _ h => absurd h List.not_mem_nil⟩⟩, List.forall_mem_cons.mpr ⟨List.forall_mem_cons.mpr ⟨Nat.ne_of_lt (Nat.lt_succ_of_lt i_dw0), List.forall_mem_cons.mpr ⟨Nat.ne_of_lt i_dw0, fun _ h => absurd h List.not_mem_nil⟩⟩, List.forall_mem_cons.mpr ⟨List.forall_mem_cons.mpr ⟨Nat.ne_of_lt (Nat.lt_succ_of_lt i_lb0), List.forall_mem_cons.mpr ⟨Nat.ne_of_lt i_lb0, fun _ h => absurd h List.not_mem_nil⟩⟩, List.forall_mem_cons.mpr ⟨List.forall_mem_cons.mpr ⟨Nat.ne_of_lt (Nat.lt_succ_of_lt i_ow1), List.forall_mem_cons.mpr ⟨Nat.ne_of_lt i_ow1, fun _ h => absurd h List.not_mem_nil⟩⟩, List.forall_mem_cons.mpr ⟨List.forall_mem_cons.mpr ⟨Nat.ne_of_lt (Nat.lt_succ_of_lt i_dw1), List.forall_mem_cons.mpr ⟨Nat.ne_of_lt i_dw1, fun _ h => absurd h List.not_mem_nil⟩⟩, List.forall_mem_cons.mpr ⟨List.forall_mem_cons.mpr ⟨Nat.ne_of_lt (Nat.lt_succ_of_lt i_lb1), List.forall_mem_cons.mpr ⟨Nat.ne_of_lt i_lb1, fun _ h => absurd h List.not_mem_nil⟩⟩, List.forall_mem_cons.mpr ⟨List.forall_mem_cons.mpr ⟨Nat.ne_of_lt (Nat.lt_succ_of_lt i_ow2), List.forall_mem_cons.mpr ⟨Nat.ne_of_lt i_ow2, fun _ h => absurd h List.not_mem_nil⟩⟩, List.forall_mem_cons.mpr ⟨List.forall_mem_cons.mpr ⟨Nat.ne_of_lt (Nat.lt_succ_of_lt i_dw2), List.forall_mem_cons.mpr ⟨Nat.ne_of_lt i_dw2, fun _ h => absurd h List.not_mem_nil⟩⟩, List.forall_mem_cons.mpr ⟨List.forall_mem_cons.mpr ⟨Nat.ne_of_lt (Nat.lt_succ_of_lt i_lb2), List.forall_mem_cons.mpr ⟨Nat.ne_of_lt i_lb2, fun _ h => absurd h List.not_mem_nil⟩⟩, List.forall_mem_cons.mpr ⟨List.forall_mem_cons.mpr ⟨Nat.ne_of_lt (Nat.lt_succ_of_lt i_lk), List.forall_mem_cons.mpr ⟨Nat.ne_of_lt i_lk, fun _ h => absurd h List.not_mem_nil⟩⟩, List.forall_mem_cons.mpr ⟨List.forall_mem_cons.mpr ⟨Nat.ne_of_lt (Nat.lt_succ_of_lt i_dDB), List.forall_mem_cons.mpr ⟨Nat.ne_of_lt i_dDB, fun _ h => absurd h List.not_mem_nil⟩⟩, List.forall_mem_cons.mpr ⟨List.forall_mem_cons.mpr ⟨Nat.ne_of_lt (Nat.lt_succ_of_lt i_x), List.forall_mem_cons.mpr ⟨Nat.ne_of_lt i_x, fun _ h => absurd h List.not_mem_nil⟩⟩, List.forall_mem_cons.mpr ⟨List.forall_mem_cons.mpr ⟨Nat.ne_of_lt (Nat.lt_succ_of_lt i_dx), List.forall_mem_cons.mpr ⟨Nat.ne_of_lt i_dx, fun _ h => absurd h List.not_mem_nil⟩⟩, List.forall_mem_cons.mpr ⟨List.forall_mem_cons.mpr ⟨Nat.ne_of_lt (Nat.lt_succ_of_lt i_f), List.forall_mem_cons.mpr ⟨Nat.ne_of_lt i_f, fun _ h => absurd h List.not_mem_nil⟩⟩, List.forall_mem_cons.mpr ⟨List.forall_mem_cons.mpr ⟨Nat.ne_of_lt (Nat.lt_succ_of_lt i_c), List.forall_mem_cons.mpr ⟨Nat.ne_of_lt i_c, fun _ h => absurd h List.not_mem_nil⟩⟩, List.forall_mem_cons.mpr ⟨List.forall_mem_cons.mpr ⟨Nat.ne_of_lt (Nat.lt_succ_of_lt i_dS), List.forall_mem_cons.mpr ⟨Nat.ne_of_lt i_dS, fun _ h => absurd h List.not_mem_nil⟩⟩, List.forall_mem_cons.mpr ⟨List.forall_mem_cons.mpr ⟨Nat.ne_of_lt (Nat.lt_succ_of_lt i_D1), List.forall_mem_cons.mpr ⟨Nat.ne_of_lt i_D1, fun _ h => absurd h List.not_mem_nil⟩⟩, List.forall_mem_cons.mpr ⟨List.forall_mem_cons.mpr ⟨Nat.ne_of_lt (Nat.lt_succ_of_lt i_cl), List.forall_mem_cons.mpr ⟨Nat.ne_of_lt i_cl, fun _ h => absurd h List.not_mem_nil⟩⟩, fun p hp => List.forall_mem_cons.mpr ⟨Nat.ne_of_lt (Nat.lt_succ_of_lt (hIo p hp)), List.forall_mem_cons.mpr ⟨Nat.ne_of_lt (hIo p hp), fun _ h => absurd h List.not_mem_nil⟩⟩⟩⟩⟩⟩⟩⟩⟩⟩⟩⟩⟩⟩⟩⟩⟩⟩⟩⟩⟩⟩
  case sub8 => exact .tail _ (.head _)
  case rest8 =>
  clear NN2
  refine ItemsRest.zero fun h4 tk4 F4 N4 => ?_
  skip
  k_steps
  exact ret _ _ _ _ _ _ _ _ _ _ F4 hs3 (news_tl N4) hS3 hO0n hvs0n hvl0n hO1n hvs1n hvl1n hO2n hvs2n hvl2n
end Mine
theorem Mine.freshLawC : True ∧ True := by w_top off; first | (walk1; all_goals trivial) | exact ⟨trivial, trivial⟩
-- part LawH
namespace Mine
open PySem PySem.W PyProof.Rows PySem.Calls
local macro_rules | `(tactic| k_lt $h:ident) => `(tactic| skip)
local macro_rules | `(tactic| k_ne) => `(tactic| ((try dsimp only); first
  | (refine' ne_lt_l ?q9h ?q9m; (case q9h => with_reducible assumption); (case q9m => k_dflt k_mem))
  | (refine' ne_lt_r ?q9h ?q9m; (case q9h => with_reducible assumption); (case q9m => k_dflt k_mem))
  | (refine' ne_tr_l ?q9l ?q9h ?q9m; (case q9l => with_reducible assumption); (case q9h => with_reducible assumption); (case q9m => k_dflt k_mem))
  | (refine' ne_tr_r ?q9l ?q9h ?q9m; (case q9l => with_reducible assumption); (case q9h => with_reducible assumption); (case q9m => k_dflt k_mem))
  | (refine' ne_ne_l ?q9h ?q9m; (case q9h => with_reducible assumption); (case q9m => k_dflt k_mem))
  | (refine' ne_ne_r ?q9h ?q9m; (case q9h => with_reducible assumption); (case q9m => k_dflt k_mem))
  | (refine neN ?_; (try dsimp only); omega)))
local macro_rules | `(tactic| k_room) => `(tactic| ((simp only [depth_under_make, depth_under_kw, depth_in1, depth_deeper, depth_caller]); (try dsimp only [AA] at *); omega))
local macro_rules | `(tactic| k_units) => `(tactic| ((simp only [units_in1, units_deeper, Around.mark_units, units_caller]); (try dsimp only [AA] at *); omega))
-- enter a def of the top with the ledger at hand
local macro_rules | `(tactic| walk_at "m_enter") => `(tactic| (
  refine' call_subK (by assumption) (by assumption) ?q9k1 ?q9k2 ?q9k3 ?q9k4 ?q9k5 ?_ ?q9k6 ?q9k7 ?q9k8 ?q9k9
  (case q9k1 => k_is)
  (case q9k2 => k_is)
  (case q9k3 => k_room)
  (case q9k4 => exact BindsTo.of_eq rfl)
  (case q9k5 => exact locs rfl)
  (case q9k6 => decide)
  (case q9k7 => exact rfl)
  (case q9k8 => exact rfl)
  (case q9k9 => exact rfl)))
-- the caller's context
local macro_rules | `(tactic| walk_at "m_cx") => `(tactic| k_dflt (
  refine' mkCx ?q9F ?q9B ?q9X ?q9T ?q9a ?q9b ?q9c
  (case q9F => k_asm)
  (case q9B => k_asm)
  (case q9X => k_asm)
  (case q9T => k_asm)
  (case q9a => exact rfl)
  (case q9b => exact rfl)
  (case q9c => exact rfl)))
local macro_rules | `(tactic| walk_at "m_depth") => `(tactic| ((simp only [depth_mark, depth_under_make, depth_under_kw, depth_in1, depth_deeper, depth_caller]); first | (dsimp only [AA]; omega) | omega | decide))
local macro_rules | `(tactic| walk_at "m_unit") => `(tactic| first | ((simp only [units_in1, units_deeper, Around.mark_units, units_caller]); first | (dsimp only [AA]; omega) | omega | decide) | exact Nat.le_of_ble_eq_true rfl)
local macro_rules | `(tactic| walk_at "call ref") => `(tactic| (k_here; first
  | ((with_reducible show wpAny _ _ (call (Value.ref 62) [Value.bytes _ _]) _ _ _); k_dflt (refine' vib_spec ?q9C ?q9d ?q9u ?q9N ?_); (case q9C => walk_at "m_cx"); (case q9d => walk_at "m_depth"); (case q9u => walk_at "m_unit"); (case q9N => k_asm); intro h' tk' F' N' _; (try k_sweep))
  | ((with_reducible show wpAny _ _ (call (Value.ref 35) [_, _]) _ _ _); k_dflt (refine' cast_spec ?q9C ?q9d ?q9u ?q9N ?_); (case q9C => walk_at "m_cx"); (case q9d => walk_at "m_depth"); (case q9u => walk_at "m_unit"); (case q9N => k_asm); intro h' tk' F' N' _; (try k_sweep))
  | ((with_reducible show wpAny _ _ (call (Value.ref 42) [Value.bytes _ _]) _ _ _); k_dflt (refine' toint_spec ?q9C ?q9d ?q9u ?q9N ?_); (case q9C => walk_at "m_cx"); (case q9d => walk_at "m_depth"); (case q9u => walk_at "m_unit"); (case q9N => k_asm); intro h' tk' t' F' N' _; (try k_sweep))
  | ((with_reducible show wpAny _ _ (call (Value.ref 69) [Value.bytes _ _, _]) _ _ _); k_dflt (refine' vlb_spec ?q9C ?q9d ?q9u ?q9N ?_); (case q9C => walk_at "m_cx"); (case q9d => walk_at "m_depth"); (case q9u => walk_at "m_unit"); (case q9N => k_asm); intro h' tk' F' N' _; (try k_sweep))
  | ((with_reducible show wpAny _ _ (call (Value.ref 69) [Value.ref _, _]) _ _ _); k_dflt (refine' vlt_spec ?q9C ?q9d ?q9u ?q9N ?q9t ?q9n ?_); (case q9C => walk_at "m_cx"); (case q9d => walk_at "m_depth"); (case q9u => walk_at "m_unit"); (case q9N => k_asm); (case q9t => exact IsTup.keeps (by assumption) (Fr.keep (by assumption))); (case q9n => assumption); intro h' tk' F' N' _; (try k_sweep))))
local macro_rules | `(tactic| walk_at "m_fn") => `(tactic| k_dflt (exact IsFnIn.at (by assumption) (AllAt.keeps (by assumption) (Fr.keep (by assumption)))))
local macro_rules | `(tactic| walk_at "m_all") => `(tactic| k_dflt (exact AllAt.keeps (by assumption) (Fr.keep (by assumption))))
local macro_rules | `(tactic| walk_at "FnAt") => `(tactic| walk_at "m_fn")
local macro_rules | `(tactic| walk_at "callWith ref") => `(tactic| (k_here; k_dflt (refine' callWith_F ?q9k1 ?_; (case q9k1 => walk_at "m_fn"))))
local macro_rules | `(tactic| walk_at "call ref") => `(tactic| (k_here; (with_reducible show wpAny _ _ (call (Value.ref _) [Value.bytes _ _]) _ _ _); k_dflt (refine' hash_use (by assumption) ?q9C ?q9d ?q9u ?q9N ?q9H ?q9U ?q9S ?q9l ?_); (case q9C => walk_at "m_cx"); (case q9d => walk_at "m_depth"); (case q9u => walk_at "m_unit"); (case q9N => k_asm); (case q9H => walk_at "m_all"); (case q9U => k_updF); (case q9S => k_asm); (case q9l => omega); intro h' oS' t' tk' F' N' hS' hl'; (try dsimp only at N'); (try k_sweep)))
local macro_rules | `(tactic| walk_at "binaryOp Add bytes bytes") => `(tactic| (k_here; (with_reducible show wpAny _ _ (binaryOp Operator.Add (Value.bytes _ _) (Value.bytes _ _)) _ _ _); (refine KBy.add_bytes (by omega) ?_); intro _ _))
local macro_rules | `(tactic| walk_at "call builtin:len") => `(tactic| (k_here; first
  | ((with_reducible show wpAny _ _ (call (Value.builtin "len") [Value.bytes _ _]) _ _ _); refine len_b1 ?_)
  | ((with_reducible show wpAny _ _ (call (Value.builtin "len") [Value.ref _]) _ _ _); refine len_tupB (by assumption) (by assumption) (by assumption) ?_)))

local macro_rules | `(tactic| walk_at "subscriptTail") => `(tactic| (k_here; (with_reducible show wpAny _ _ (subscriptTail _ _ (Value.ref _) (Value.bytes _ _)) _ _ _); k_dflt (refine' db_item ?q9N ?q9m ?q9D ?q9k ?_; (case q9N => k_asm); (case q9m => k_mem); (case q9D => k_asm); (case q9k => k_asm)); intro _ _))
local macro_rules | `(tactic| walk_at "subscriptTail") => `(tactic| (k_here; (with_reducible show wpAny _ _ (subscriptTail _ (Expr.Slice _ _ none _) (Value.bytes (_ ++ _) _) (Value.ref _)) _ _ _); (with_reducible rename Fr _ _ _ _ => F'); (with_reducible rename News _ _ _ _ => N'); k_dflt (first
  | (refine slice_lo (s := ⟨_, _, _, _, _⟩) F' N' (by assumption) (by assumption) ?_)
  | (refine slice_hi (s := ⟨_, _, _, _, _⟩) F' N' (by assumption) (by assumption) ?_)); intro _ _ _ F' N'; (try k_sweep)))
local macro_rules | `(tactic| walk_at "call builtin:list.append") => `(tactic| (k_here; (with_reducible show wpAny _ _ (call (Value.builtin _) [Value.ref _, _]) _ _ _); k_dflt (refine' append_L ?q9F ?q9N ?q9U ?_ ?q9z; (case q9F => k_asm); (case q9N => k_asm); (case q9U => k_updF); (case q9z => first | omega | exact Nat.le_of_ble_eq_true rfl)); intro h' F' N'; (try dsimp only [List.nil_append, List.cons_append] at N'); (try k_sweep)))
local macro_rules | `(tactic| walk_at "call type:tuple") => `(tactic| (k_here; (with_reducible show wpAny _ _ (call (Value.type "tuple") [Value.ref _]) _ _ _); k_dflt (refine' tuple_L ?q9F ?q9N ?q9m ?q9z ?_; (case q9F => k_asm); (case q9N => k_asm); (case q9m => k_mem); (case q9z => omega)); intro D' h' F' N' l1; (try k_lt l1); (try k_sweep)))

local macro_rules | `(tactic| walk_at "call type:tuple") => `(tactic| (k_here; (with_reducible show wpAny _ _ (call (Value.type "tuple") [Value.ref _]) _ _ _); k_dflt (refine' tuple_rev rfl ?q9F ?q9N ?q9I ?q9m ?q9z ?_; (case q9F => k_asm); (case q9N => k_asm); (case q9I => k_all); (case q9m => k_mem); (case q9z => omega)); intro D' h' tk' F' N' l1; (try k_lt l1); (try k_sweep)))
local macro_rules | `(tactic| walk_at "call type:reversed") => `(tactic| (k_here; (with_reducible show wpAny _ _ (call (Value.type "reversed") [Value.ref _]) _ _ _); k_dflt (first
  | (refine' rev_K ?q9F ?q9N ?q9t ?q9n ?_; (case q9F => k_asm); (case q9N => k_asm); (case q9t => assumption); (case q9n => assumption); intro D' h' tk' F' N' l1; (try k_lt l1); (try k_sweep))
  | (refine' rev_KN ?q9F ?q9N ?q9m ?q9n ?_; (case q9F => k_asm); (case q9N => k_asm); (case q9m => k_mem); (case q9n => assumption); intro D' h' tk' F' N' l1; (try k_lt l1); (try k_sweep))
  | (refine' revL_K ?q9F ?q9N ?q9m ?_; (case q9F => k_asm); (case q9N => k_asm); (case q9m => k_mem); intro D' h' F' N' l1; (try k_lt l1); (try k_sweep)))))
local macro_rules | `(tactic| walk_at "setItem ref bytes") => `(tactic| (k_here; k_dflt (refine' db_set ?q9F ?q9N ?q9U ?q9D ?q9n ?_; (case q9F => k_asm); (case q9N => k_asm); (case q9U => k_updF); (case q9D => k_asm); (case q9n => omega)); intro h' o' F' N' hD'; (try dsimp only at N'); (try k_sweep)))
local macro_rules | `(tactic| walk_at "call ref") => `(tactic| (k_here; (with_reducible show wpAny _ _ (call (Value.ref 183) [Value.ref _, Value.bytes _ _]) _ _ _); k_dflt (refine' get_spec ?q9C ?q9d ?q9u rfl ?q9N ?q9m1 ?q9m2 ?q9m3 ?q9T ?q9D ?q9W ?_; (case q9C => walk_at "m_cx"); (case q9d => walk_at "m_depth"); (case q9u => walk_at "m_unit"); (case q9N => k_asm); (case q9m1 => k_mem); (case q9m2 => k_mem); (case q9T => first | assumption | exact ⟨_, _, _, _, _, _, _, _, _, _, rfl⟩); (case q9m3 => k_mem); (case q9D => assumption); (case q9W => assumption)); intro h' Dt Db vs' tv tk' F' N' n1 n2 n3 K' hvs' hvl'; (try k_sweep)))

local macro_rules | `(tactic| walk_at "call builtin:list.insert") => `(tactic| (k_here; (with_reducible show wpAny _ _ (call (Value.builtin _) [Value.ref _, _, _]) _ _ _); k_dflt (refine' insert0_L ?q9F ?q9N ?q9U ?q9z ?_; (case q9F => k_asm); (case q9N => k_asm); (case q9U => k_updF); (case q9z => omega)); intro h' F' N'; (try dsimp only at N'); (try k_sweep)))

local macro_rules | `(tactic| walk_at "m_sub") => `(tactic| first | exact (fun _ h => absurd h (List.not_mem_nil)) | (refine List.forall_mem_cons.mpr ⟨by k_mem, ?_⟩; walk_at "m_sub"))
local macro_rules | `(tactic| walk_at "m_all") => `(tactic| k_dflt (exact allAt_news (by k_asm) (by walk_at "m_sub")))
local macro_rules | `(tactic| walk_at "m_fn") => `(tactic| k_dflt (exact IsFnIn.at (by assumption) (allAt_news (by k_asm) (by walk_at "m_sub"))))
local macro_rules | `(tactic| walk_at "call ref") => `(tactic| (k_here; first
  | ((with_reducible show wpAny _ _ (call (Value.ref 190) [Value.ref _, Value.bytes _ _, Value.bytes _ _]) _ _ _); k_dflt (refine' gset (by assumption) ?q9C ?q9d ?q9u rfl ?q9N ?q9m1 ?q9S ?q9T ?q9D ?q9G ?q9U1 ?q9U2 ?q9U3 ?q9n1 ?q9n2 ?q9n3 ?q9H ?q9o ?q9f ?q9nd ?q9l ?q9v ?_; (case q9C => walk_at "m_cx"); (case q9d => walk_at "m_depth"); (case q9u => walk_at "m_unit"); (case q9N => k_asm); (case q9m1 => k_mem); (case q9S => assumption); (case q9T => assumption); (case q9D => assumption); (case q9G => assumption); (case q9U1 => k_updF); (case q9U2 => intro _; k_updF); (case q9U3 => intro _ _; k_updF); (case q9H => walk_at "m_sub"); (case q9o => assumption); (case q9f => assumption); (case q9n1 => omega); (case q9n2 => omega); (case q9n3 => omega); (case q9nd => omega); (case q9l => omega); (case q9v => first | assumption | exact Nat.one_ne_zero | decide)); intro h' oS' od' oDB' Dt' vs' tk' S' D' root' F' N' n1 hS' hl' hT' hD' hG' hvl'; (try dsimp only at N'); (replace N' := news_tl N'); (clear n1); (have hT2 := hT'); (k_dflt (obtain ⟨_, _, _, _, _, _, _, _, _, _, e9⟩ := hT')); (subst e9); (try k_sweep))
  | ((with_reducible show wpAny _ _ (call (Value.ref 176) [Value.ref _, Value.bytes _ _]) _ _ _); k_dflt (refine' gbranch ?q9C ?q9d ?q9u rfl ?q9N ?q9m1 ?q9m2 ?q9T ?q9m3 ?q9D ?q9G ?_; (case q9C => walk_at "m_cx"); (case q9d => walk_at "m_depth"); (case q9u => walk_at "m_unit"); (case q9N => k_asm); (case q9m1 => k_mem); (case q9m2 => k_mem); (case q9T => assumption); (case q9m3 => k_mem); (case q9D => assumption); (case q9G => assumption)); intro h' Db' vs' tk' F' N' n1 hvs' hvl'; (try k_sweep))))
local macro_rules | `(tactic| walk_at "call ref") => `(tactic| (k_here; (with_reducible show wpAny _ _ (call (Value.ref 69) [Value.ref _, _]) _ _ _); k_dflt (refine' vlt_spec ?q9C ?q9d ?q9u ?q9N ?q9t ?q9n ?_; (case q9C => walk_at "m_cx"); (case q9d => walk_at "m_depth"); (case q9u => walk_at "m_unit"); (case q9N => k_asm); (case q9t => exact News.isTup (by k_asm) (by k_mem)); (case q9n => assumption)); intro h' tk' F' N' _; (try k_sweep)))
local macro_rules | `(tactic| walk_at "call builtin:len") => `(tactic| (k_here; (with_reducible show wpAny _ _ (call (Value.builtin "len") [Value.ref _]) _ _ _); k_dflt (refine' len_tupN8 ?q9N ?q9m ?q9n ?_; (case q9N => k_asm); (case q9m => k_mem); (case q9n => assumption))))
local macro_rules | `(tactic| walk_at "call type:bytes") => `(tactic| (k_here; (with_reducible show wpAny _ _ (call (Value.type "bytes") [Value.ref _]) _ _ _); k_dflt (refine' bytes1 ?q9F ?q9N ?q9h ?_; (case q9F => k_asm); (case q9N => k_asm); (case q9h => exact rfl)); intro h' t' tk' F' N'; (try k_sweep)))
local macro_rules | `(tactic| walk_at "call ref") => `(tactic| (k_here; (with_reducible show wpAny _ _ (call (Value.ref 132) [Value.bytes _ _, Value.bytes _ _, Value.ref _, Value.ref _]) _ _ _); k_dflt (refine' own_new ?q9C ?q9d ?q9u ?q9N ?q9m2 ?q9v ?_; (case q9C => walk_at "m_cx"); (case q9d => walk_at "m_depth"); (case q9u => walk_at "m_unit"); (case q9N => k_asm); (case q9m2 => k_mem); (case q9v => assumption)); intro h' x' d' lb' c' od' tk' F' N' l1 l2 n1 hO'; (try k_sweep)))
local macro_rules | `(tactic| walk_at "m_nb") => `(tactic| first | assumption | exact (fun q => nomatch q))
local macro_rules | `(tactic| walk_at "m_ok") => `(tactic| first | assumption | exact Or.inl rfl)
local macro_rules | `(tactic| walk_at "m_od") => `(tactic| first | assumption | exact (fun _ q => nomatch q))
local macro_rules | `(tactic| walk_at "getAttr ref") => `(tactic| (k_here; k_dflt (refine' get_prop ?q9k1 ?q9k2 ?q9k3 ?q9k4 ?q9k5 ?q9k6 ?q9k7 ?q9k8 ?q9k9 ?_; (case q9k1 => k_asm); (case q9k2 => k_asm); (case q9k3 => k_inst); (case q9k4 => k_is); (case q9k5 => k_is); (case q9k6 => k_is); (case q9k7 => k_is); (case q9k8 => k_is); (case q9k9 => k_is)); first
  | (k_dflt (refine' own_val ?q9C ?q9d ?q9u ?q9N ?q9m1 ?q9m2 ?q9T ?_; (case q9C => walk_at "m_cx"); (case q9d => walk_at "m_depth"); (case q9u => walk_at "m_unit"); (case q9N => k_asm); (case q9m1 => k_mem); (case q9T => assumption); (case q9m2 => k_mem)); intro h' t' tk' F' N'; (k_dflt (refine handed_on ?q9x ?_; (case q9x => exact rfl))); (try k_sweep))
  | (k_dflt (refine' own_branch ?q9C ?q9d ?q9u ?q9N ?q9m1 ?q9m2 ?q9T ?q9m3 ?q9v ?_; (case q9C => walk_at "m_cx"); (case q9d => walk_at "m_depth"); (case q9u => walk_at "m_unit"); (case q9N => k_asm); (case q9m1 => k_mem); (case q9T => assumption); (case q9m2 => k_mem); (case q9m3 => k_mem); (case q9v => assumption)); intro h' Db' tk' F' N' n1; (k_dflt (refine handed_on ?q9x ?_; (case q9x => exact rfl))); (try k_sweep))
  | (k_dflt (refine' own_root (by assumption) ?q9C ?q9d ?q9u ?q9N ?q9m1 ?q9m2 ?q9T ?q9m3 ?q9v ?q9S ?q9b ?q9G ?q9e ?q9U ?q9H ?q9o ?q9f ?q9e1 ?q9e2 ?q9e3 ?q9l ?q9nb ?q9ok ?q9od ?_; (case q9C => walk_at "m_cx"); (case q9d => walk_at "m_depth"); (case q9u => walk_at "m_unit"); (case q9N => k_asm); (case q9m1 => k_mem); (case q9T => assumption); (case q9m2 => k_mem); (case q9m3 => k_mem); (case q9v => assumption); (case q9S => assumption); (case q9b => assumption); (case q9G => assumption); (case q9e => first | exact rfl | assumption); (case q9U => k_updF); (case q9H => walk_at "m_all"); (case q9o => assumption); (case q9f => assumption); (case q9e1 => k_ne); (case q9e2 => k_ne); (case q9e3 => k_ne); (case q9l => omega); (case q9nb => walk_at "m_nb"); (case q9ok => walk_at "m_ok"); (case q9od => walk_at "m_od")); intro h' oS' t' tk' F' N' hS'; (try dsimp only at N'); (k_dflt (refine handed_on ?q9x ?_; (case q9x => exact rfl))); (try k_sweep))))
local macro_rules | `(tactic| walk_at "call ref") => `(tactic| (k_here; (with_reducible show wpAny _ _ (call (Value.ref 169) [Value.ref _, Value.bytes _ _]) _ _ _); k_dflt (refine' gget ?q9C ?q9d ?q9u rfl ?q9N ?q9m1 ?q9m2 ?q9T ?q9m3 ?q9D ?q9G ?_; (case q9C => walk_at "m_cx"); (case q9d => walk_at "m_depth"); (case q9u => walk_at "m_unit"); (case q9N => k_asm); (case q9m1 => k_mem); (case q9m2 => k_mem); (case q9T => assumption); (case q9m3 => k_mem); (case q9D => assumption); (case q9G => assumption)); intro h' tv' tk' F' N'; (try k_sweep)))
local macro_rules | `(tactic| walk_at "compareOp NotEq ref ref") => `(tactic| (k_here; k_dflt (refine' ne_btups ?q9N ?q9m1 ?q9m2 ?q9x ?q9y ?q9u ?_; (case q9N => k_asm); (case q9m1 => k_mem); (case q9m2 => k_mem); (case q9x => assumption); (case q9y => assumption); (case q9u => walk_at "m_unit")); (try k_sweep)))
local macro_rules | `(tactic| walk_at "subscriptTail") => `(tactic| (k_here; (with_reducible show wpAny _ _ (subscriptTail _ _ (Value.ref _) (Value.int _ _)) _ _ _); k_dflt (refine' list_item ?q9N ?q9m ?q9x ?q9k ?q9n ?_; (case q9N => k_asm); (case q9m => k_mem); (case q9x => assumption); (case q9k => omega); (case q9n => omega))))
local macro_rules | `(tactic| k_ne) => `(tactic| ((try dsimp only); exact ne_tag (tag := _) (by with_reducible assumption) (by with_reducible assumption) (by decide)))
local macro_rules | `(tactic| walk_at "m_tailL") => `(tactic| (repeat (first | assumption | refine List.Mem.tail _ ?_ | refine List.mem_append_right _ ?_)))
local macro_rules | `(tactic| walk_at "m_memL") => `(tactic| (repeat (first | exact List.Mem.head _ | apply List.Mem.tail)))
local macro_rules | `(tactic| walk_at "execs cons") => `(tactic| (k_here; (with_reducible show wpAny _ _ (execs (Stmt.For _ _ _ _ _ :: _) _) _ _ _); refine Stop.intro ?_))
theorem with_n9 {P : Prop} {news : List (Addr × Obj)} {D0 : Addr} (n : ∀ p ∈ news, p.1 ≠ D0) (k : ∀ Dt, (∀ p ∈ news, p.1 ≠ Dt) → Dt = D0 → P) : P := k D0 n rfl
theorem not_none {v : Array UInt8} (h : v ≠ #[110, 111, 110, 101]) (e : (v.toList == #[110, 111, 110, 101].toList) = true) : False := h (Array.toList_inj.mp (beq_iff_eq.mp e))
theorem bne_self {x : List UInt8} (h : (x != x) = true) : False := by simp at h
def tagx (tag : Addr → Nat) (Dt : Addr) : Addr → Nat := fun a => if a = Dt then 19 else tag a
theorem tagx_old {tag : Addr → Nat} {Dt a : Addr} {i : Nat} (h : a ≠ Dt) (e : tag a = i) : tagx tag Dt a = i := by unfold tagx; rw [if_neg h]; exact e
theorem tagx_new {tag : Addr → Nat} {Dt : Addr} : tagx tag Dt Dt = 19 := if_pos rfl
local macro_rules | `(tactic| walk_at "call ref") => `(tactic| (k_here; first
  | ((with_reducible show wpAny _ _ (call (Value.ref 190) [Value.ref _, Value.bytes _ _, Value.bytes _ _]) _ _ _); k_dflt (refine' gset2 (by assumption) ?q9C ?q9d ?q9u rfl ?q9N ?q9m1 ?q9S ?q9T ?q9D ?q9G ?q9U1 ?q9U2 ?q9U3 ?q9n1 ?q9n2 ?q9n3 ?q9H ?q9o ?q9f ?q9nd ?q9l ?q9v ?_; (case q9C => walk_at "m_cx"); (case q9d => walk_at "m_depth"); (case q9u => walk_at "m_unit"); (case q9N => k_asm); (case q9m1 => k_mem); (case q9S => assumption); (case q9T => assumption); (case q9D => assumption); (case q9G => assumption); (case q9U1 => k_updF); (case q9U2 => intro _; k_updF); (case q9U3 => intro _ _; k_updF); (case q9H => walk_at "m_sub"); (case q9o => assumption); (case q9f => assumption); (case q9n1 => omega); (case q9n2 => omega); (case q9n3 => omega); (case q9nd => omega); (case q9l => omega); (case q9v => assumption)); intro h' oS' od' oDB' Dt vs' tk' D' F' N' n1 hS' hT' hD' hG' hDn' hvs' hvl'; (try dsimp only at N'); (have hT2 := hT'); (k_dflt (obtain ⟨_, _, _, _, _, _, _, _, _, _, e9⟩ := hT')); (subst e9); (try k_sweep))
  | ((with_reducible show wpAny _ _ (call (Value.ref 204) [Value.ref _, Value.bytes _ _]) _ _ _); k_dflt (refine' gdel2 (by assumption) ?q9C ?q9d ?q9u rfl ?q9N ?q9m1 ?q9S ?q9T ?q9D ?q9G ?q9U1 ?q9U2 ?q9U3 ?q9n1 ?q9n2 ?q9n3 ?q9H ?q9o ?q9f ?q9nd ?q9l ?_; (case q9C => walk_at "m_cx"); (case q9d => walk_at "m_depth"); (case q9u => walk_at "m_unit"); (case q9N => k_asm); (case q9m1 => k_mem); (case q9S => assumption); (case q9T => assumption); (case q9D => assumption); (case q9G => assumption); (case q9U1 => k_updF); (case q9U2 => intro _; k_updF); (case q9U3 => intro _ _; k_updF); (case q9H => walk_at "m_sub"); (case q9o => assumption); (case q9f => assumption); (case q9n1 => omega); (case q9n2 => omega); (case q9n3 => omega); (case q9nd => omega); (case q9l => omega)); intro h' oS' od' oDB' Dt vs' tk' D' F' N' n1 hS' hT' hD' hG' hDn' hvs' hvl'; (try dsimp only at N'); (have hT2 := hT'); (k_dflt (obtain ⟨_, _, _, _, _, _, _, _, _, _, e9⟩ := hT')); (subst e9); (try k_sweep))))
local macro_rules | `(tactic| walk_at "call ref") => `(tactic| (k_here; (with_reducible show wpAny _ _ (call (Value.ref 204) [Value.ref _, Value.bytes _ _]) _ _ _); exfalso; k_dflt (exact not_none (by assumption) (by assumption))))
theorem deed_h3 {w : World} {p : Program} {loose : List Str} {mean : ExcName → Option Value} {mg mb : Str → Option Value} {h₀ : Heap} {L fa : Addr} {s : Shared} {m : Str → Option Value} {Q : Flow → Shared → Prop}
    {oc : Value} {od : Option Addr} {ln lq : Str} {lp : Arguments} {ls : Scope} {dV kV doc pm cdv ct : Value} {an : Option Addr} {osl : Array (Option Value)} {s0 s1 s2 s3 s4 s5 s6 s7 s8 s9 s10 : Stmt} {rest : List Stmt}
    {tg0 : PySem.Expr} {it0 : PySem.Expr} {els0 : List Stmt} {pos0 : Pos}
    {lo ow0 dw0 lb0 ow1 dw1 lb1 ow2 dw2 lb2 lk dDB x dx f c dS D1 cl : Addr} {tag : Addr → Nat} {oDB odT fo occ oS ocl od0 od1 od2 : Obj} {vs0 vs1 vs2 ws : List Value} {ns : List Int} {kb0 kb1 kb2 : UInt8} {co ck cb0 cb1 cb2 kk : Nat} {S : Texts} {D : List UInt8 → Option (Array UInt8)} {root : Array UInt8} {nD : Nat} {V : Nat → Array UInt8}
    {t0 tk0 tk1 tk2 : Tok} {own : List (Addr × Obj)} {Db : Addr} {vsD : List Value} {pb : UInt8} {v r : Array UInt8} {T9 : List (Array UInt8)} {t1 t2 t3 : Tok}
    {d0 d1 d2 : Stmt} {drest : List Stmt}
    (hlaw : (hd.heap_39 w.params).lookup 251 = some ⟨oc, od, .func (fnOf ln lq lp (s0 :: s1 :: s2 :: s3 :: s4 :: s5 :: s6 :: s7 :: s8 :: s9 :: s10 :: Stmt.For tg0 it0 (d0 :: d1 :: d2 :: drest) els0 pos0 :: rest) ls dV kV doc pm an cdv ct), osl⟩)
    (B : Below callerA h₀ [] h₀) (X : (hd.heap_39 w.params).In h₀) (T : Top p loose mean mg mb h₀)
    (hW : IntsAre ws ns) (hn : ns.length = 13) (hkk : 3 ≤ kk ∧ kk ≤ 11)
    (F : Fr h₀ L s.heap m) (hm : ∀ q ∈ [(Str.ofString "numbers", some (.ref D1)), (Str.ofString "k", some (.int (kk : Int) t0)), (Str.ofString "tree", some (.ref x)), (Str.ofString "keys", some (.ref lk)), (Str.ofString "owners", some (.ref lo)), (Str.ofString "key", some (.int (pb.toNat : Int) t1)), (Str.ofString "what", some (.bytes v t2)), (Str.ofString "due", some (.ref Db)), (Str.ofString "root", some (.bytes r t3))], m q.1 = q.2)
    (N : News h₀ L s.heap ([(Db, tup vsD), (lo, listOf [.ref ow0, .ref ow1, .ref ow2].toArray co), (ow0, instObj 132 dw0), (dw0, od0), (lb0, listOf vs0.toArray cb0), (ow1, instObj 132 dw1), (dw1, od1), (lb1, listOf vs1.toArray cb1), (ow2, instObj 132 dw2), (dw2, od2), (lb2, listOf vs2.toArray cb2), (lk, listOf [.int kb0.toNat tk0, .int kb1.toNat tk1, .int kb2.toNat tk2].toArray ck), (dDB, oDB), (x, instObj 235 dx), (dx, odT), (f, fo), (c, occ), (dS, oS), (D1, listOf ws.toArray 0), (cl, ocl)] ++ own))
    (g0 : tag lo = 0) (g1 : tag ow0 = 1) (g2 : tag dw0 = 2) (g3 : tag lb0 = 3) (g4 : tag ow1 = 4) (g5 : tag dw1 = 5) (g6 : tag lb1 = 6) (g7 : tag ow2 = 7) (g8 : tag dw2 = 8) (g9 : tag lb2 = 9) (g10 : tag lk = 10) (g11 : tag dDB = 11) (g12 : tag x = 12) (g13 : tag dx = 13) (g14 : tag f = 14) (g15 : tag c = 15) (g16 : tag dS = 16) (g17 : tag D1 = 17) (g18 : tag cl = 18) (gDb : ∀ a ∈ [lo, ow0, dw0, lb0, ow1, dw1, lb1, ow2, dw2, lb2, lk, dDB, x, dx, f, c, dS, D1, cl], a ≠ Db)
    (l1 : @LT.lt Nat _ cl D1 ∧ @LT.lt Nat _ D1 dS ∧ @LT.lt Nat _ dS c ∧ @LT.lt Nat _ c f ∧ @LT.lt Nat _ f dx ∧ @LT.lt Nat _ dx x ∧ @LT.lt Nat _ x dDB ∧ @LT.lt Nat _ dDB lk ∧ @LT.lt Nat _ lk dw0 ∧ @LT.lt Nat _ dw0 ow0 ∧ @LT.lt Nat _ lk dw1 ∧ @LT.lt Nat _ dw1 ow1 ∧ @LT.lt Nat _ lk dw2 ∧ @LT.lt Nat _ dw2 ow2)
    (hown : OwnOff own [lo, ow0, dw0, lb0, ow1, dw1, lb1, ow2, dw2, lb2, lk, dDB, x, dx, f, c, dS, D1, cl]) (hDb : ∀ p ∈ own, p.1 ≠ Db)
    (HS : HashSpec w p loose mean mg mb [(f, fo), (c, occ), (cl, ocl)] f dS) (hf : IsFnIn f [(f, fo), (c, occ), (cl, ocl)])
    (hO0 : OwnD w f lb0 kb0 (V kb0.toNat) od0) (hvs0 : BytesAre vs0 (brn S V kb0.toNat)) (hvl0 : vs0.length = 8) (hO1 : OwnD w f lb1 kb1 (V kb1.toNat) od1) (hvs1 : BytesAre vs1 (brn S V kb1.toNat)) (hvl1 : vs1.length = 8) (hO2 : OwnD w f lb2 kb2 (V kb2.toNat) od2) (hvs2 : BytesAre vs2 (brn S V kb2.toNat)) (hvl2 : vs2.length = 8)
    (hT : TreeD w f dDB root odT) (hD : DbObj w oDB D nD) (hS : SeenObj w oS S) (U : Due S D root V pb.toNat v T9 r) (hv : v.size ≠ 0) (hvsD : BytesAre vsD T9) (hvlD : vsD.length = 8) (hlS : S.length ≤ 1000) (hnD : nD ≤ 1000)
    (ret : ∀ h' tk' oS' od0' od1' od2' vs0' vs1' vs2' m' oDB' odT' D', Fr h₀ L h' m' → Same (Str.ofString "told" :: six) m m' →
      News h₀ L h' ([(lo, listOf [.ref ow0, .ref ow1, .ref ow2].toArray co), (ow0, instObj 132 dw0), (dw0, od0'), (lb0, listOf vs0'.toArray cb0), (ow1, instObj 132 dw1), (dw1, od1'), (lb1, listOf vs1'.toArray cb1), (ow2, instObj 132 dw2), (dw2, od2'), (lb2, listOf vs2'.toArray cb2), (lk, listOf [.int kb0.toNat tk0, .int kb1.toNat tk1, .int kb2.toNat tk2].toArray ck), (dDB, oDB'), (x, instObj 235 dx), (dx, odT'), (f, fo), (c, occ), (dS, oS'), (D1, listOf ws.toArray 0), (cl, ocl)] ++ own) → SeenObj w oS' S → TreeD w f dDB r odT' → DbObj w oDB' D' (nD + 9) → Good S D' r (upd V pb.toNat v) →
      OwnD w f lb0 kb0 ((upd V pb.toNat v) kb0.toNat) od0' → BytesAre vs0' (brn S (upd V pb.toNat v) kb0.toNat) → vs0'.length = 8 → OwnD w f lb1 kb1 ((upd V pb.toNat v) kb1.toNat) od1' → BytesAre vs1' (brn S (upd V pb.toNat v) kb1.toNat) → vs1'.length = 8 → OwnD w f lb2 kb2 ((upd V pb.toNat v) kb2.toNat) od2' → BytesAre vs2' (brn S (upd V pb.toNat v) kb2.toNat) → vs2'.length = 8 → Q .next { s with heap := h', toks := tk' }) :
    wpAny (model Challenge.rw_bi0032_01.row.prog w) (callerA.deeper (envOfC ln ls L fa (.ref 250))) (execs drest (envOfC ln ls L fa (.ref 250))) Q (fun _ _ => False) s := by
  have hoff : ∀ q ∈ [(f, fo), (c, occ), (cl, ocl)], q.1 ≠ dS ∧ q.1 ≠ dx ∧ q.1 ≠ x ∧ q.1 ≠ dDB := by
    intro q hq
    simp only [List.mem_cons, List.not_mem_nil, or_false] at hq
    rcases hq with rfl | rfl | rfl <;> (dsimp only; refine ⟨?_, ?_, ?_, ?_⟩ <;> (show @Ne Nat _ _; omega))
  have hlaw2 : Stop _ := hlaw
  have X0 := X; revert X; k_fill; intro X
  refine' absorbK hlaw ?k ?_
  case k => k_is
  intro e
  cases e
  clear hlaw
  have hT1 := hT
  obtain ⟨_, _, _, _, _, _, _, _, _, _, rfl⟩ := hT
  dsimp only [List.cons_append, List.nil_append] at N
  have em := ovr_self hm
  rw [← em] at F
  have gDb2 : ∀ p ∈ [(lo, ocl), (ow0, ocl), (dw0, ocl), (lb0, ocl), (ow1, ocl), (dw1, ocl), (lb1, ocl), (ow2, ocl), (dw2, ocl), (lb2, ocl), (lk, ocl), (dDB, ocl), (x, ocl), (dx, ocl), (f, ocl), (c, ocl), (dS, ocl), (D1, ocl), (cl, ocl)], p.1 ≠ Db := List.forall_mem_cons.mpr ⟨gDb _ (.head _), List.forall_mem_cons.mpr ⟨gDb _ (.tail _ (.head _)), List.forall_mem_cons.mpr ⟨gDb _ (.tail _ (.tail _ (.head _))), List.forall_mem_cons.mpr ⟨gDb _ (.tail _ (.tail _ (.tail _ (.head _)))), List.forall_mem_cons.mpr ⟨gDb _ (.tail _ (.tail _ (.tail _ (.tail _ (.head _))))), List.forall_mem_cons.mpr ⟨gDb _ (.tail _ (.tail _ (.tail _ (.tail _ (.tail _ (.head _)))))), List.forall_mem_cons.mpr ⟨gDb _ (.tail _ (.tail _ (.tail _ (.tail _ (.tail _ (.tail _ (.head _))))))), List.forall_mem_cons.mpr ⟨gDb _ (.tail _ (.tail _ (.tail _ (.tail _ (.tail _ (.tail _ (.tail _ (.head _)))))))), List.forall_mem_cons.mpr ⟨gDb _ (.tail _ (.tail _ (.tail _ (.tail _ (.tail _ (.tail _ (.tail _ (.tail _ (.head _))))))))), List.forall_mem_cons.mpr ⟨gDb _ (.tail _ (.tail _ (.tail _ (.tail _ (.tail _ (.tail _ (.tail _ (.tail _ (.tail _ (.head _)))))))))), List.forall_mem_cons.mpr ⟨gDb _ (.tail _ (.tail _ (.tail _ (.tail _ (.tail _ (.tail _ (.tail _ (.tail _ (.tail _ (.tail _ (.head _))))))))))), List.forall_mem_cons.mpr ⟨gDb _ (.tail _ (.tail _ (.tail _ (.tail _ (.tail _ (.tail _ (.tail _ (.tail _ (.tail _ (.tail _ (.tail _ (.head _)))))))))))), List.forall_mem_cons.mpr ⟨gDb _ (.tail _ (.tail _ (.tail _ (.tail _ (.tail _ (.tail _ (.tail _ (.tail _ (.tail _ (.tail _ (.tail _ (.tail _ (.head _))))))))))))), List.forall_mem_cons.mpr ⟨gDb _ (.tail _ (.tail _ (.tail _ (.tail _ (.tail _ (.tail _ (.tail _ (.tail _ (.tail _ (.tail _ (.tail _ (.tail _ (.tail _ (.head _)))))))))))))), List.forall_mem_cons.mpr ⟨gDb _ (.tail _ (.tail _ (.tail _ (.tail _ (.tail _ (.tail _ (.tail _ (.tail _ (.tail _ (.tail _ (.tail _ (.tail _ (.tail _ (.tail _ (.head _))))))))))))))), List.forall_mem_cons.mpr ⟨gDb _ (.tail _ (.tail _ (.tail _ (.tail _ (.tail _ (.tail _ (.tail _ (.tail _ (.tail _ (.tail _ (.tail _ (.tail _ (.tail _ (.tail _ (.tail _ (.head _)))))))))))))))), List.forall_mem_cons.mpr ⟨gDb _ (.tail _ (.tail _ (.tail _ (.tail _ (.tail _ (.tail _ (.tail _ (.tail _ (.tail _ (.tail _ (.tail _ (.tail _ (.tail _ (.tail _ (.tail _ (.tail _ (.head _))))))))))))))))), List.forall_mem_cons.mpr ⟨gDb _ (.tail _ (.tail _ (.tail _ (.tail _ (.tail _ (.tail _ (.tail _ (.tail _ (.tail _ (.tail _ (.tail _ (.tail _ (.tail _ (.tail _ (.tail _ (.tail _ (.tail _ (.head _)))))))))))))))))), List.forall_mem_cons.mpr ⟨gDb _ (.tail _ (.tail _ (.tail _ (.tail _ (.tail _ (.tail _ (.tail _ (.tail _ (.tail _ (.tail _ (.tail _ (.tail _ (.tail _ (.tail _ (.tail _ (.tail _ (.tail _ (.tail _ (.head _))))))))))))))))))), fun _ h => absurd h List.not_mem_nil⟩⟩⟩⟩⟩⟩⟩⟩⟩⟩⟩⟩⟩⟩⟩⟩⟩⟩⟩
  by_cases hvn : v = #[110, 111, 110, 101]
  · subst hvn
    k_steps
    · exact (bne_self (by assumption)).elim
    · skip
      (with_reducible rename Fr _ _ _ _ => F9)
      (with_reducible rename News _ _ _ _ => N9)
      (with_reducible rename ∀ p ∈ _, Prod.fst p ≠ _ => n9)
      refine with_n9 n9 fun Dt n8 e8 => ?_
      subst e8
      clear n9
      (with_reducible rename ∀ p ∈ _, Prod.fst p ≠ Dt => n9)
      refine Stop.out ?_
      refine' deed_tail (own := own) (Dt := Dt) (tag := tagx tag Dt) (V := V) (V' := upd V pb.toNat _) (S := S) hlaw2 B X0 T hW hn hkk F9 ?hm9 ?N9 ?h0 ?h1 ?h2 ?h3 ?h4 ?h5 ?h6 ?h7 ?h8 ?h9 ?h10 ?h11 ?h12 ?h13 ?h14 ?h15 ?h16 ?h17 ?h18 ?h19 l1 ?own9 HS hf hO0 hvs0 hvl0 hO1 hvs1 hvl1 hO2 hvs2 hvl2 ?hT9 ?hD9 ?hS9 ?hG9 U.good ?hd9 ?hus9 ?hul9 hlS ?ret9
      case hm9 => exact List.forall_mem_cons.mpr ⟨rfl, List.forall_mem_cons.mpr ⟨rfl, List.forall_mem_cons.mpr ⟨rfl, List.forall_mem_cons.mpr ⟨rfl, List.forall_mem_cons.mpr ⟨rfl, List.forall_mem_cons.mpr ⟨rfl, List.forall_mem_cons.mpr ⟨rfl, List.forall_mem_cons.mpr ⟨rfl, fun _ h => absurd h List.not_mem_nil⟩⟩⟩⟩⟩⟩⟩⟩
      case N9 =>
        dsimp only [List.cons_append, List.nil_append]
        (repeat refine List.forall_mem_cons.mpr ⟨N9 _ (by k_mem), ?_⟩)
        exact fun p hp => N9 p (by walk_at "m_tailL")
      case h0 => exact tagx_old (n9 (lo, _) (by k_mem)) g0
      case h1 => exact tagx_old (n9 (ow0, _) (by k_mem)) g1
      case h2 => exact tagx_old (n9 (dw0, _) (by k_mem)) g2
      case h3 => exact tagx_old (n9 (lb0, _) (by k_mem)) g3
      case h4 => exact tagx_old (n9 (ow1, _) (by k_mem)) g4
      case h5 => exact tagx_old (n9 (dw1, _) (by k_mem)) g5
      case h6 => exact tagx_old (n9 (lb1, _) (by k_mem)) g6
      case h7 => exact tagx_old (n9 (ow2, _) (by k_mem)) g7
      case h8 => exact tagx_old (n9 (dw2, _) (by k_mem)) g8
      case h9 => exact tagx_old (n9 (lb2, _) (by k_mem)) g9
      case h10 => exact tagx_old (n9 (lk, _) (by k_mem)) g10
      case h11 => exact tagx_old (n9 (dDB, _) (by k_mem)) g11
      case h12 => exact tagx_old (n9 (x, _) (by k_mem)) g12
      case h13 => exact tagx_old (n9 (dx, _) (by k_mem)) g13
      case h14 => exact tagx_old (n9 (f, _) (by k_mem)) g14
      case h15 => exact tagx_old (n9 (c, _) (by k_mem)) g15
      case h16 => exact tagx_old (n9 (dS, _) (by k_mem)) g16
      case h17 => exact tagx_old (n9 (D1, _) (by k_mem)) g17
      case h18 => exact tagx_old (n9 (cl, _) (by k_mem)) g18
      case h19 => exact tagx_new
      case own9 => exact fun p hp => List.forall_mem_cons.mpr ⟨hown p hp _ (by walk_at "m_memL"), List.forall_mem_cons.mpr ⟨hown p hp _ (by walk_at "m_memL"), List.forall_mem_cons.mpr ⟨hown p hp _ (by walk_at "m_memL"), List.forall_mem_cons.mpr ⟨hown p hp _ (by walk_at "m_memL"), List.forall_mem_cons.mpr ⟨hown p hp _ (by walk_at "m_memL"), List.forall_mem_cons.mpr ⟨hown p hp _ (by walk_at "m_memL"), List.forall_mem_cons.mpr ⟨hown p hp _ (by walk_at "m_memL"), List.forall_mem_cons.mpr ⟨hown p hp _ (by walk_at "m_memL"), List.forall_mem_cons.mpr ⟨hown p hp _ (by walk_at "m_memL"), List.forall_mem_cons.mpr ⟨hown p hp _ (by walk_at "m_memL"), List.forall_mem_cons.mpr ⟨hown p hp _ (by walk_at "m_memL"), List.forall_mem_cons.mpr ⟨hown p hp _ (by walk_at "m_memL"), List.forall_mem_cons.mpr ⟨hown p hp _ (by walk_at "m_memL"), List.forall_mem_cons.mpr ⟨hown p hp _ (by walk_at "m_memL"), List.forall_mem_cons.mpr ⟨hown p hp _ (by walk_at "m_memL"), List.forall_mem_cons.mpr ⟨hown p hp _ (by walk_at "m_memL"), List.forall_mem_cons.mpr ⟨hown p hp _ (by walk_at "m_memL"), List.forall_mem_cons.mpr ⟨hown p hp _ (by walk_at "m_memL"), List.forall_mem_cons.mpr ⟨hown p hp _ (by walk_at "m_memL"), List.forall_mem_cons.mpr ⟨n9 p (by walk_at "m_tailL"), fun _ h => absurd h List.not_mem_nil⟩⟩⟩⟩⟩⟩⟩⟩⟩⟩⟩⟩⟩⟩⟩⟩⟩⟩⟩⟩
      case hT9 => assumption
      case hD9 => assumption
      case hS9 => assumption
      case hG9 => assumption
      case hd9 => assumption
      case hus9 => assumption
      case hul9 => assumption
      case ret9 =>
      intro h' tk' oS' od0' od1' od2' vs0' vs1' vs2' m' F s9 N hS a0 b0 c0 a1 b1 c1 a2 b2 c2
      refine' ret h' tk' oS' od0' od1' od2' vs0' vs1' vs2' m' _ _ _ F ?same N hS ?hT8 ?hD8 ?hG8 a0 b0 c0 a1 b1 c1 a2 b2 c2
      case same =>
        refine Same.trans (m' := _) (fun z hz => ?_) (Same.of s9 fun z hz => .tail _ hz)
        simp only [List.mem_cons, not_or] at hz
        simp only [hz.1, if_false]
        exact congrFun em z
      case hT8 => assumption
      case hD8 => assumption
      case hG8 => assumption

  · k_steps
    · exact (bne_self (by assumption)).elim
    · skip
      (with_reducible rename Fr _ _ _ _ => F9)
      (with_reducible rename News _ _ _ _ => N9)
      (with_reducible rename ∀ p ∈ _, Prod.fst p ≠ _ => n9)
      refine with_n9 n9 fun Dt n8 e8 => ?_
      subst e8
      clear n9
      (with_reducible rename ∀ p ∈ _, Prod.fst p ≠ Dt => n9)
      refine Stop.out ?_
      refine' deed_tail (own := own) (Dt := Dt) (tag := tagx tag Dt) (V := V) (V' := upd V pb.toNat _) (S := S) hlaw2 B X0 T hW hn hkk F9 ?hm9 ?N9 ?h0 ?h1 ?h2 ?h3 ?h4 ?h5 ?h6 ?h7 ?h8 ?h9 ?h10 ?h11 ?h12 ?h13 ?h14 ?h15 ?h16 ?h17 ?h18 ?h19 l1 ?own9 HS hf hO0 hvs0 hvl0 hO1 hvs1 hvl1 hO2 hvs2 hvl2 ?hT9 ?hD9 ?hS9 ?hG9 U.good ?hd9 ?hus9 ?hul9 hlS ?ret9
      case hm9 => exact List.forall_mem_cons.mpr ⟨rfl, List.forall_mem_cons.mpr ⟨rfl, List.forall_mem_cons.mpr ⟨rfl, List.forall_mem_cons.mpr ⟨rfl, List.forall_mem_cons.mpr ⟨rfl, List.forall_mem_cons.mpr ⟨rfl, List.forall_mem_cons.mpr ⟨rfl, List.forall_mem_cons.mpr ⟨rfl, fun _ h => absurd h List.not_mem_nil⟩⟩⟩⟩⟩⟩⟩⟩
      case N9 =>
        dsimp only [List.cons_append, List.nil_append]
        (repeat refine List.forall_mem_cons.mpr ⟨N9 _ (by k_mem), ?_⟩)
        exact fun p hp => N9 p (by walk_at "m_tailL")
      case h0 => exact tagx_old (n9 (lo, _) (by k_mem)) g0
      case h1 => exact tagx_old (n9 (ow0, _) (by k_mem)) g1
      case h2 => exact tagx_old (n9 (dw0, _) (by k_mem)) g2
      case h3 => exact tagx_old (n9 (lb0, _) (by k_mem)) g3
      case h4 => exact tagx_old (n9 (ow1, _) (by k_mem)) g4
      case h5 => exact tagx_old (n9 (dw1, _) (by k_mem)) g5
      case h6 => exact tagx_old (n9 (lb1, _) (by k_mem)) g6
      case h7 => exact tagx_old (n9 (ow2, _) (by k_mem)) g7
      case h8 => exact tagx_old (n9 (dw2, _) (by k_mem)) g8
      case h9 => exact tagx_old (n9 (lb2, _) (by k_mem)) g9
      case h10 => exact tagx_old (n9 (lk, _) (by k_mem)) g10
      case h11 => exact tagx_old (n9 (dDB, _) (by k_mem)) g11
      case h12 => exact tagx_old (n9 (x, _) (by k_mem)) g12
      case h13 => exact tagx_old (n9 (dx, _) (by k_mem)) g13
      case h14 => exact tagx_old (n9 (f, _) (by k_mem)) g14
      case h15 => exact tagx_old (n9 (c, _) (by k_mem)) g15
      case h16 => exact tagx_old (n9 (dS, _) (by k_mem)) g16
      case h17 => exact tagx_old (n9 (D1, _) (by k_mem)) g17
      case h18 => exact tagx_old (n9 (cl, _) (by k_mem)) g18
      case h19 => exact tagx_new
      case own9 => exact fun p hp => List.forall_mem_cons.mpr ⟨hown p hp _ (by walk_at "m_memL"), List.forall_mem_cons.mpr ⟨hown p hp _ (by walk_at "m_memL"), List.forall_mem_cons.mpr ⟨hown p hp _ (by walk_at "m_memL"), List.forall_mem_cons.mpr ⟨hown p hp _ (by walk_at "m_memL"), List.forall_mem_cons.mpr ⟨hown p hp _ (by walk_at "m_memL"), List.forall_mem_cons.mpr ⟨hown p hp _ (by walk_at "m_memL"), List.forall_mem_cons.mpr ⟨hown p hp _ (by walk_at "m_memL"), List.forall_mem_cons.mpr ⟨hown p hp _ (by walk_at "m_memL"), List.forall_mem_cons.mpr ⟨hown p hp _ (by walk_at "m_memL"), List.forall_mem_cons.mpr ⟨hown p hp _ (by walk_at "m_memL"), List.forall_mem_cons.mpr ⟨hown p hp _ (by walk_at "m_memL"), List.forall_mem_cons.mpr ⟨hown p hp _ (by walk_at "m_memL"), List.forall_mem_cons.mpr ⟨hown p hp _ (by walk_at "m_memL"), List.forall_mem_cons.mpr ⟨hown p hp _ (by walk_at "m_memL"), List.forall_mem_cons.mpr ⟨hown p hp _ (by walk_at "m_memL"), List.forall_mem_cons.mpr ⟨hown p hp _ (by walk_at "m_memL"), List.forall_mem_cons.mpr ⟨hown p hp _ (by walk_at "m_memL"), List.forall_mem_cons.mpr ⟨hown p hp _ (by walk_at "m_memL"), List.forall_mem_cons.mpr ⟨hown p hp _ (by walk_at "m_memL"), List.forall_mem_cons.mpr ⟨n9 p (by walk_at "m_tailL"), fun _ h => absurd h List.not_mem_nil⟩⟩⟩⟩⟩⟩⟩⟩⟩⟩⟩⟩⟩⟩⟩⟩⟩⟩⟩⟩
      case hT9 => assumption
      case hD9 => assumption
      case hS9 => assumption
      case hG9 => assumption
      case hd9 => assumption
      case hus9 => assumption
      case hul9 => assumption
      case ret9 =>
      intro h' tk' oS' od0' od1' od2' vs0' vs1' vs2' m' F s9 N hS a0 b0 c0 a1 b1 c1 a2 b2 c2
      refine' ret h' tk' oS' od0' od1' od2' vs0' vs1' vs2' m' _ _ _ F ?same N hS ?hT8 ?hD8 ?hG8 a0 b0 c0 a1 b1 c1 a2 b2 c2
      case same =>
        refine Same.trans (m' := _) (fun z hz => ?_) (Same.of s9 fun z hz => .tail _ hz)
        simp only [List.mem_cons, not_or] at hz
        simp only [hz.1, if_false]
        exact congrFun em z
      case hT8 => assumption
      case hD8 => assumption
      case hG8 => assumption

end Mine
theorem Mine.freshLawH : True ∧ True := by w_top off; first | (walk1; all_goals trivial) | exact ⟨trivial, trivial⟩
-- part LawH2
namespace Mine
open PySem PySem.W PyProof.Rows PySem.Calls
local macro_rules | `(tactic| k_lt $h:ident) => `(tactic| skip)
local macro_rules | `(tactic| k_ne) => `(tactic| ((try dsimp only); first
  | (refine' ne_lt_l ?q9h ?q9m; (case q9h => with_reducible assumption); (case q9m => k_dflt k_mem))
  | (refine' ne_lt_r ?q9h ?q9m; (case q9h => with_reducible assumption); (case q9m => k_dflt k_mem))
  | (refine' ne_tr_l ?q9l ?q9h ?q9m; (case q9l => with_reducible assumption); (case q9h => with_reducible assumption); (case q9m => k_dflt k_mem))
  | (refine' ne_tr_r ?q9l ?q9h ?q9m; (case q9l => with_reducible assumption); (case q9h => with_reducible assumption); (case q9m => k_dflt k_mem))
  | (refine' ne_ne_l ?q9h ?q9m; (case q9h => with_reducible assumption); (case q9m => k_dflt k_mem))
  | (refine' ne_ne_r ?q9h ?q9m; (case q9h => with_reducible assumption); (case q9m => k_dflt k_mem))
  | (refine neN ?_; (try dsimp only); omega)))
local macro_rules | `(tactic| k_room) => `(tactic| ((simp only [depth_under_make, depth_under_kw, depth_in1, depth_deeper, depth_caller]); (try dsimp only [AA] at *); omega))
local macro_rules | `(tactic| k_units) => `(tactic| ((simp only [units_in1, units_deeper, Around.mark_units, units_caller]); (try dsimp only [AA] at *); omega))
-- enter a def of the top with the ledger at hand
local macro_rules | `(tactic| walk_at "m_enter") => `(tactic| (
  refine' call_subK (by assumption) (by assumption) ?q9k1 ?q9k2 ?q9k3 ?q9k4 ?q9k5 ?_ ?q9k6 ?q9k7 ?q9k8 ?q9k9
  (case q9k1 => k_is)
  (case q9k2 => k_is)
  (case q9k3 => k_room)
  (case q9k4 => exact BindsTo.of_eq rfl)
  (case q9k5 => exact locs rfl)
  (case q9k6 => decide)
  (case q9k7 => exact rfl)
  (case q9k8 => exact rfl)
  (case q9k9 => exact rfl)))
-- the caller's context
local macro_rules | `(tactic| walk_at "m_cx") => `(tactic| k_dflt (
  refine' mkCx ?q9F ?q9B ?q9X ?q9T ?q9a ?q9b ?q9c
  (case q9F => k_asm)
  (case q9B => k_asm)
  (case q9X => k_asm)
  (case q9T => k_asm)
  (case q9a => exact rfl)
  (case q9b => exact rfl)
  (case q9c => exact rfl)))
local macro_rules | `(tactic| walk_at "m_depth") => `(tactic| ((simp only [depth_mark, depth_under_make, depth_under_kw, depth_in1, depth_deeper, depth_caller]); first | (dsimp only [AA]; omega) | omega | decide))
local macro_rules | `(tactic| walk_at "m_unit") => `(tactic| first | ((simp only [units_in1, units_deeper, Around.mark_units, units_caller]); first | (dsimp only [AA]; omega) | omega | decide) | exact Nat.le_of_ble_eq_true rfl)
local macro_rules | `(tactic| walk_at "call ref") => `(tactic| (k_here; first
  | ((with_reducible show wpAny _ _ (call (Value.ref 62) [Value.bytes _ _]) _ _ _); k_dflt (refine' vib_spec ?q9C ?q9d ?q9u ?q9N ?_); (case q9C => walk_at "m_cx"); (case q9d => walk_at "m_depth"); (case q9u => walk_at "m_unit"); (case q9N => k_asm); intro h' tk' F' N' _; (try k_sweep))
  | ((with_reducible show wpAny _ _ (call (Value.ref 35) [_, _]) _ _ _); k_dflt (refine' cast_spec ?q9C ?q9d ?q9u ?q9N ?_); (case q9C => walk_at "m_cx"); (case q9d => walk_at "m_depth"); (case q9u => walk_at "m_unit"); (case q9N => k_asm); intro h' tk' F' N' _; (try k_sweep))
  | ((with_reducible show wpAny _ _ (call (Value.ref 42) [Value.bytes _ _]) _ _ _); k_dflt (refine' toint_spec ?q9C ?q9d ?q9u ?q9N ?_); (case q9C => walk_at "m_cx"); (case q9d => walk_at "m_depth"); (case q9u => walk_at "m_unit"); (case q9N => k_asm); intro h' tk' t' F' N' _; (try k_sweep))
  | ((with_reducible show wpAny _ _ (call (Value.ref 69) [Value.bytes _ _, _]) _ _ _); k_dflt (refine' vlb_spec ?q9C ?q9d ?q9u ?q9N ?_); (case q9C => walk_at "m_cx"); (case q9d => walk_at "m_depth"); (case q9u => walk_at "m_unit"); (case q9N => k_asm); intro h' tk' F' N' _; (try k_sweep))
  | ((with_reducible show wpAny _ _ (call (Value.ref 69) [Value.ref _, _]) _ _ _); k_dflt (refine' vlt_spec ?q9C ?q9d ?q9u ?q9N ?q9t ?q9n ?_); (case q9C => walk_at "m_cx"); (case q9d => walk_at "m_depth"); (case q9u => walk_at "m_unit"); (case q9N => k_asm); (case q9t => exact IsTup.keeps (by assumption) (Fr.keep (by assumption))); (case q9n => assumption); intro h' tk' F' N' _; (try k_sweep))))
local macro_rules | `(tactic| walk_at "m_fn") => `(tactic| k_dflt (exact IsFnIn.at (by assumption) (AllAt.keeps (by assumption) (Fr.keep (by assumption)))))
local macro_rules | `(tactic| walk_at "m_all") => `(tactic| k_dflt (exact AllAt.keeps (by assumption) (Fr.keep (by assumption))))
local macro_rules | `(tactic| walk_at "FnAt") => `(tactic| walk_at "m_fn")
local macro_rules | `(tactic| walk_at "callWith ref") => `(tactic| (k_here; k_dflt (refine' callWith_F ?q9k1 ?_; (case q9k1 => walk_at "m_fn"))))
local macro_rules | `(tactic| walk_at "call ref") => `(tactic| (k_here; (with_reducible show wpAny _ _ (call (Value.ref _) [Value.bytes _ _]) _ _ _); k_dflt (refine' hash_use (by assumption) ?q9C ?q9d ?q9u ?q9N ?q9H ?q9U ?q9S ?q9l ?_); (case q9C => walk_at "m_cx"); (case q9d => walk_at "m_depth"); (case q9u => walk_at "m_unit"); (case q9N => k_asm); (case q9H => walk_at "m_all"); (case q9U => k_updF); (case q9S => k_asm); (case q9l => omega); intro h' oS' t' tk' F' N' hS' hl'; (try dsimp only at N'); (try k_sweep)))
local macro_rules | `(tactic| walk_at "binaryOp Add bytes bytes") => `(tactic| (k_here; (with_reducible show wpAny _ _ (binaryOp Operator.Add (Value.bytes _ _) (Value.bytes _ _)) _ _ _); (refine KBy.add_bytes (by omega) ?_); intro _ _))
local macro_rules | `(tactic| walk_at "call builtin:len") => `(tactic| (k_here; first
  | ((with_reducible show wpAny _ _ (call (Value.builtin "len") [Value.bytes _ _]) _ _ _); refine len_b1 ?_)
  | ((with_reducible show wpAny _ _ (call (Value.builtin "len") [Value.ref _]) _ _ _); refine len_tupB (by assumption) (by assumption) (by assumption) ?_)))

local macro_rules | `(tactic| walk_at "subscriptTail") => `(tactic| (k_here; (with_reducible show wpAny _ _ (subscriptTail _ _ (Value.ref _) (Value.bytes _ _)) _ _ _); k_dflt (refine' db_item ?q9N ?q9m ?q9D ?q9k ?_; (case q9N => k_asm); (case q9m => k_mem); (case q9D => k_asm); (case q9k => k_asm)); intro _ _))
local macro_rules | `(tactic| walk_at "subscriptTail") => `(tactic| (k_here; (with_reducible show wpAny _ _ (subscriptTail _ (Expr.Slice _ _ none _) (Value.bytes (_ ++ _) _) (Value.ref _)) _ _ _); (with_reducible rename Fr _ _ _ _ => F'); (with_reducible rename News _ _ _ _ => N'); k_dflt (first
  | (refine slice_lo (s := ⟨_, _, _, _, _⟩) F' N' (by assumption) (by assumption) ?_)
  | (refine slice_hi (s := ⟨_, _, _, _, _⟩) F' N' (by assumption) (by assumption) ?_)); intro _ _ _ F' N'; (try k_sweep)))
local macro_rules | `(tactic| walk_at "call builtin:list.append") => `(tactic| (k_here; (with_reducible show wpAny _ _ (call (Value.builtin _) [Value.ref _, _]) _ _ _); k_dflt (refine' append_L ?q9F ?q9N ?q9U ?_ ?q9z; (case q9F => k_asm); (case q9N => k_asm); (case q9U => k_updF); (case q9z => first | omega | exact Nat.le_of_ble_eq_true rfl)); intro h' F' N'; (try dsimp only [List.nil_append, List.cons_append] at N'); (try k_sweep)))
local macro_rules | `(tactic| walk_at "call type:tuple") => `(tactic| (k_here; (with_reducible show wpAny _ _ (call (Value.type "tuple") [Value.ref _]) _ _ _); k_dflt (refine' tuple_L ?q9F ?q9N ?q9m ?q9z ?_; (case q9F => k_asm); (case q9N => k_asm); (case q9m => k_mem); (case q9z => omega)); intro D' h' F' N' l1; (try k_lt l1); (try k_sweep)))

local macro_rules | `(tactic| walk_at "call type:tuple") => `(tactic| (k_here; (with_reducible show wpAny _ _ (call (Value.type "tuple") [Value.ref _]) _ _ _); k_dflt (refine' tuple_rev rfl ?q9F ?q9N ?q9I ?q9m ?q9z ?_; (case q9F => k_asm); (case q9N => k_asm); (case q9I => k_all); (case q9m => k_mem); (case q9z => omega)); intro D' h' tk' F' N' l1; (try k_lt l1); (try k_sweep)))
local macro_rules | `(tactic| walk_at "call type:reversed") => `(tactic| (k_here; (with_reducible show wpAny _ _ (call (Value.type "reversed") [Value.ref _]) _ _ _); k_dflt (first
  | (refine' rev_K ?q9F ?q9N ?q9t ?q9n ?_; (case q9F => k_asm); (case q9N => k_asm); (case q9t => assumption); (case q9n => assumption); intro D' h' tk' F' N' l1; (try k_lt l1); (try k_sweep))
  | (refine' rev_KN ?q9F ?q9N ?q9m ?q9n ?_; (case q9F => k_asm); (case q9N => k_asm); (case q9m => k_mem); (case q9n => assumption); intro D' h' tk' F' N' l1; (try k_lt l1); (try k_sweep))
  | (refine' revL_K ?q9F ?q9N ?q9m ?_; (case q9F => k_asm); (case q9N => k_asm); (case q9m => k_mem); intro D' h' F' N' l1; (try k_lt l1); (try k_sweep)))))
local macro_rules | `(tactic| walk_at "setItem ref bytes") => `(tactic| (k_here; k_dflt (refine' db_set ?q9F ?q9N ?q9U ?q9D ?q9n ?_; (case q9F => k_asm); (case q9N => k_asm); (case q9U => k_updF); (case q9D => k_asm); (case q9n => omega)); intro h' o' F' N' hD'; (try dsimp only at N'); (try k_sweep)))
local macro_rules | `(tactic| walk_at "call ref") => `(tactic| (k_here; (with_reducible show wpAny _ _ (call (Value.ref 183) [Value.ref _, Value.bytes _ _]) _ _ _); k_dflt (refine' get_spec ?q9C ?q9d ?q9u rfl ?q9N ?q9m1 ?q9m2 ?q9m3 ?q9T ?q9D ?q9W ?_; (case q9C => walk_at "m_cx"); (case q9d => walk_at "m_depth"); (case q9u => walk_at "m_unit"); (case q9N => k_asm); (case q9m1 => k_mem); (case q9m2 => k_mem); (case q9T => first | assumption | exact ⟨_, _, _, _, _, _, _, _, _, _, rfl⟩); (case q9m3 => k_mem); (case q9D => assumption); (case q9W => assumption)); intro h' Dt Db vs' tv tk' F' N' n1 n2 n3 K' hvs' hvl'; (try k_sweep)))

local macro_rules | `(tactic| walk_at "call builtin:list.insert") => `(tactic| (k_here; (with_reducible show wpAny _ _ (call (Value.builtin _) [Value.ref _, _, _]) _ _ _); k_dflt (refine' insert0_L ?q9F ?q9N ?q9U ?q9z ?_; (case q9F => k_asm); (case q9N => k_asm); (case q9U => k_updF); (case q9z => omega)); intro h' F' N'; (try dsimp only at N'); (try k_sweep)))

local macro_rules | `(tactic| walk_at "m_sub") => `(tactic| first | exact (fun _ h => absurd h (List.not_mem_nil)) | (refine List.forall_mem_cons.mpr ⟨by k_mem, ?_⟩; walk_at "m_sub"))
local macro_rules | `(tactic| walk_at "m_all") => `(tactic| k_dflt (exact allAt_news (by k_asm) (by walk_at "m_sub")))
local macro_rules | `(tactic| walk_at "m_fn") => `(tactic| k_dflt (exact IsFnIn.at (by assumption) (allAt_news (by k_asm) (by walk_at "m_sub"))))
local macro_rules | `(tactic| walk_at "call ref") => `(tactic| (k_here; first
  | ((with_reducible show wpAny _ _ (call (Value.ref 190) [Value.ref _, Value.bytes _ _, Value.bytes _ _]) _ _ _); k_dflt (refine' gset (by assumption) ?q9C ?q9d ?q9u rfl ?q9N ?q9m1 ?q9S ?q9T ?q9D ?q9G ?q9U1 ?q9U2 ?q9U3 ?q9n1 ?q9n2 ?q9n3 ?q9H ?q9o ?q9f ?q9nd ?q9l ?q9v ?_; (case q9C => walk_at "m_cx"); (case q9d => walk_at "m_depth"); (case q9u => walk_at "m_unit"); (case q9N => k_asm); (case q9m1 => k_mem); (case q9S => assumption); (case q9T => assumption); (case q9D => assumption); (case q9G => assumption); (case q9U1 => k_updF); (case q9U2 => intro _; k_updF); (case q9U3 => intro _ _; k_updF); (case q9H => walk_at "m_sub"); (case q9o => assumption); (case q9f => assumption); (case q9n1 => omega); (case q9n2 => omega); (case q9n3 => omega); (case q9nd => omega); (case q9l => omega); (case q9v => first | assumption | exact Nat.one_ne_zero | decide)); intro h' oS' od' oDB' Dt' vs' tk' S' D' root' F' N' n1 hS' hl' hT' hD' hG' hvl'; (try dsimp only at N'); (replace N' := news_tl N'); (clear n1); (have hT2 := hT'); (k_dflt (obtain ⟨_, _, _, _, _, _, _, _, _, _, e9⟩ := hT')); (subst e9); (try k_sweep))
  | ((with_reducible show wpAny _ _ (call (Value.ref 176) [Value.ref _, Value.bytes _ _]) _ _ _); k_dflt (refine' gbranch ?q9C ?q9d ?q9u rfl ?q9N ?q9m1 ?q9m2 ?q9T ?q9m3 ?q9D ?q9G ?_; (case q9C => walk_at "m_cx"); (case q9d => walk_at "m_depth"); (case q9u => walk_at "m_unit"); (case q9N => k_asm); (case q9m1 => k_mem); (case q9m2 => k_mem); (case q9T => assumption); (case q9m3 => k_mem); (case q9D => assumption); (case q9G => assumption)); intro h' Db' vs' tk' F' N' n1 hvs' hvl'; (try k_sweep))))
local macro_rules | `(tactic| walk_at "call ref") => `(tactic| (k_here; (with_reducible show wpAny _ _ (call (Value.ref 69) [Value.ref _, _]) _ _ _); k_dflt (refine' vlt_spec ?q9C ?q9d ?q9u ?q9N ?q9t ?q9n ?_; (case q9C => walk_at "m_cx"); (case q9d => walk_at "m_depth"); (case q9u => walk_at "m_unit"); (case q9N => k_asm); (case q9t => exact News.isTup (by k_asm) (by k_mem)); (case q9n => assumption)); intro h' tk' F' N' _; (try k_sweep)))
local macro_rules | `(tactic| walk_at "call builtin:len") => `(tactic| (k_here; (with_reducible show wpAny _ _ (call (Value.builtin "len") [Value.ref _]) _ _ _); k_dflt (refine' len_tupN8 ?q9N ?q9m ?q9n ?_; (case q9N => k_asm); (case q9m => k_mem); (case q9n => assumption))))
local macro_rules | `(tactic| walk_at "call type:bytes") => `(tactic| (k_here; (with_reducible show wpAny _ _ (call (Value.type "bytes") [Value.ref _]) _ _ _); k_dflt (refine' bytes1 ?q9F ?q9N ?q9h ?_; (case q9F => k_asm); (case q9N => k_asm); (case q9h => exact rfl)); intro h' t' tk' F' N'; (try k_sweep)))
local macro_rules | `(tactic| walk_at "call ref") => `(tactic| (k_here; (with_reducible show wpAny _ _ (call (Value.ref 132) [Value.bytes _ _, Value.bytes _ _, Value.ref _, Value.ref _]) _ _ _); k_dflt (refine' own_new ?q9C ?q9d ?q9u ?q9N ?q9m2 ?q9v ?_; (case q9C => walk_at "m_cx"); (case q9d => walk_at "m_depth"); (case q9u => walk_at "m_unit"); (case q9N => k_asm); (case q9m2 => k_mem); (case q9v => assumption)); intro h' x' d' lb' c' od' tk' F' N' l1 l2 n1 hO'; (try k_sweep)))
local macro_rules | `(tactic| walk_at "m_nb") => `(tactic| first | assumption | exact (fun q => nomatch q))
local macro_rules | `(tactic| walk_at "m_ok") => `(tactic| first | assumption | exact Or.inl rfl)
local macro_rules | `(tactic| walk_at "m_od") => `(tactic| first | assumption | exact (fun _ q => nomatch q))
local macro_rules | `(tactic| walk_at "getAttr ref") => `(tactic| (k_here; k_dflt (refine' get_prop ?q9k1 ?q9k2 ?q9k3 ?q9k4 ?q9k5 ?q9k6 ?q9k7 ?q9k8 ?q9k9 ?_; (case q9k1 => k_asm); (case q9k2 => k_asm); (case q9k3 => k_inst); (case q9k4 => k_is); (case q9k5 => k_is); (case q9k6 => k_is); (case q9k7 => k_is); (case q9k8 => k_is); (case q9k9 => k_is)); first
  | (k_dflt (refine' own_val ?q9C ?q9d ?q9u ?q9N ?q9m1 ?q9m2 ?q9T ?_; (case q9C => walk_at "m_cx"); (case q9d => walk_at "m_depth"); (case q9u => walk_at "m_unit"); (case q9N => k_asm); (case q9m1 => k_mem); (case q9T => assumption); (case q9m2 => k_mem)); intro h' t' tk' F' N'; (k_dflt (refine handed_on ?q9x ?_; (case q9x => exact rfl))); (try k_sweep))
  | (k_dflt (refine' own_branch ?q9C ?q9d ?q9u ?q9N ?q9m1 ?q9m2 ?q9T ?q9m3 ?q9v ?_; (case q9C => walk_at "m_cx"); (case q9d => walk_at "m_depth"); (case q9u => walk_at "m_unit"); (case q9N => k_asm); (case q9m1 => k_mem); (case q9T => assumption); (case q9m2 => k_mem); (case q9m3 => k_mem); (case q9v => assumption)); intro h' Db' tk' F' N' n1; (k_dflt (refine handed_on ?q9x ?_; (case q9x => exact rfl))); (try k_sweep))
  | (k_dflt (refine' own_root (by assumption) ?q9C ?q9d ?q9u ?q9N ?q9m1 ?q9m2 ?q9T ?q9m3 ?q9v ?q9S ?q9b ?q9G ?q9e ?q9U ?q9H ?q9o ?q9f ?q9e1 ?q9e2 ?q9e3 ?q9l ?q9nb ?q9ok ?q9od ?_; (case q9C => walk_at "m_cx"); (case q9d => walk_at "m_depth"); (case q9u => walk_at "m_unit"); (case q9N => k_asm); (case q9m1 => k_mem); (case q9T => assumption); (case q9m2 => k_mem); (case q9m3 => k_mem); (case q9v => assumption); (case q9S => assumption); (case q9b => assumption); (case q9G => assumption); (case q9e => first | exact rfl | assumption); (case q9U => k_updF); (case q9H => walk_at "m_all"); (case q9o => assumption); (case q9f => assumption); (case q9e1 => k_ne); (case q9e2 => k_ne); (case q9e3 => k_ne); (case q9l => omega); (case q9nb => walk_at "m_nb"); (case q9ok => walk_at "m_ok"); (case q9od => walk_at "m_od")); intro h' oS' t' tk' F' N' hS'; (try dsimp only at N'); (k_dflt (refine handed_on ?q9x ?_; (case q9x => exact rfl))); (try k_sweep))))
local macro_rules | `(tactic| walk_at "call ref") => `(tactic| (k_here; (with_reducible show wpAny _ _ (call (Value.ref 169) [Value.ref _, Value.bytes _ _]) _ _ _); k_dflt (refine' gget ?q9C ?q9d ?q9u rfl ?q9N ?q9m1 ?q9m2 ?q9T ?q9m3 ?q9D ?q9G ?_; (case q9C => walk_at "m_cx"); (case q9d => walk_at "m_depth"); (case q9u => walk_at "m_unit"); (case q9N => k_asm); (case q9m1 => k_mem); (case q9m2 => k_mem); (case q9T => assumption); (case q9m3 => k_mem); (case q9D => assumption); (case q9G => assumption)); intro h' tv' tk' F' N'; (try k_sweep)))
local macro_rules | `(tactic| walk_at "compareOp NotEq ref ref") => `(tactic| (k_here; k_dflt (refine' ne_btups ?q9N ?q9m1 ?q9m2 ?q9x ?q9y ?q9u ?_; (case q9N => k_asm); (case q9m1 => k_mem); (case q9m2 => k_mem); (case q9x => assumption); (case q9y => assumption); (case q9u => walk_at "m_unit")); (try k_sweep)))
local macro_rules | `(tactic| walk_at "subscriptTail") => `(tactic| (k_here; (with_reducible show wpAny _ _ (subscriptTail _ _ (Value.ref _) (Value.int _ _)) _ _ _); k_dflt (refine' list_item ?q9N ?q9m ?q9x ?q9k ?q9n ?_; (case q9N => k_asm); (case q9m => k_mem); (case q9x => assumption); (case q9k => omega); (case q9n => omega))))
local macro_rules | `(tactic| k_ne) => `(tactic| ((try dsimp only); exact ne_tag (tag := _) (by with_reducible assumption) (by with_reducible assumption) (by decide)))
local macro_rules | `(tactic| walk_at "m_tailL") => `(tactic| (repeat (first | assumption | refine List.Mem.tail _ ?_ | refine List.mem_append_right _ ?_)))
local macro_rules | `(tactic| walk_at "m_memL") => `(tactic| (repeat (first | exact List.Mem.head _ | apply List.Mem.tail)))
local macro_rules | `(tactic| walk_at "execs cons") => `(tactic| (k_here; (with_reducible show wpAny _ _ (execs (Stmt.Assign _ (Expr.IfExp _ _ _ _) _ :: _) _) _ _ _); refine Stop.intro ?_))
local macro_rules | `(tactic| walk_at "getAttr ref") => `(tactic| (k_here; k_dflt (refine' get_prop ?q9k1 ?q9k2 ?q9k3 ?q9k4 ?q9k5 ?q9k6 ?q9k7 ?q9k8 ?q9k9 ?_; (case q9k1 => k_asm); (case q9k2 => k_asm); (case q9k3 => k_inst); (case q9k4 => k_is); (case q9k5 => k_is); (case q9k6 => k_is); (case q9k7 => k_is); (case q9k8 => k_is); (case q9k9 => k_is)); (k_dflt (refine' own_branch ?q9C ?q9d ?q9u ?q9N ?q9m1 ?q9m2 ?q9T ?q9m3 ?q9v ?_; (case q9C => walk_at "m_cx"); (case q9d => walk_at "m_depth"); (case q9u => walk_at "m_unit"); (case q9N => k_asm); (case q9m1 => k_mem); (case q9m2 => k_mem); (case q9T => assumption); (case q9m3 => k_mem); (case q9v => assumption)); intro h' Db' tk' F' N' n1; (k_dflt (refine handed_on ?q9x ?_; (case q9x => exact rfl))); (try k_sweep))))
local macro_rules | `(tactic| walk_at "call ref") => `(tactic| (k_here; (with_reducible show wpAny _ _ (call (Value.ref 246) [Value.int _ _, Value.bytes _ _, Value.ref _, Value.ref _]) _ _ _); k_dflt (refine' gpath (by assumption) ?q9C ?q9d ?q9u rfl ?q9N ?q9t ?q9S ?q9b ?q9G ?q9U1 ?q9H ?q9o ?q9f ?q9td ?q9l ?q9us ?q9k ?_; (case q9C => walk_at "m_cx"); (case q9d => walk_at "m_depth"); (case q9u => walk_at "m_unit"); (case q9N => k_asm); (case q9t => k_mem); (case q9S => assumption); (case q9b => assumption); (case q9G => assumption); (case q9U1 => k_updF); (case q9H => walk_at "m_sub"); (case q9o => assumption); (case q9f => assumption); (case q9td => k_ne); (case q9l => omega); (case q9us => assumption); (case q9k => exact UInt8.toNat_lt _)); intro h' oS' Dt Db vs' t' tk' S' T' r' F' N' n1 n2 n3 hS' hl' hE' hU' hvs' hvl'; (try dsimp only at N'); (try k_sweep)))
theorem deed_h2 {w : World} {p : Program} {loose : List Str} {mean : ExcName → Option Value} {mg mb : Str → Option Value} {h₀ : Heap} {L fa : Addr} {s : Shared} {m : Str → Option Value} {Q : Flow → Shared → Prop}
    {oc : Value} {od : Option Addr} {ln lq : Str} {lp : Arguments} {ls : Scope} {dV kV doc pm cdv ct : Value} {an : Option Addr} {osl : Array (Option Value)} {s0 s1 s2 s3 s4 s5 s6 s7 s8 s9 s10 : Stmt} {rest : List Stmt}
    {tg0 : PySem.Expr} {it0 : PySem.Expr} {els0 : List Stmt} {pos0 : Pos}
    {lo ow0 dw0 lb0 ow1 dw1 lb1 ow2 dw2 lb2 lk dDB x dx f c dS D1 cl : Addr} {tag : Addr → Nat} {oDB odT fo occ oS ocl od0 od1 od2 : Obj} {vs0 vs1 vs2 ws : List Value} {ns : List Int} {kb0 kb1 kb2 : UInt8} {co ck cb0 cb1 cb2 kk : Nat} {S : Texts} {D : List UInt8 → Option (Array UInt8)} {root : Array UInt8} {nD : Nat} {V : Nat → Array UInt8}
    {t0 tk0 tk1 tk2 : Tok} {own : List (Addr × Obj)} {pb : UInt8} {v : Array UInt8} {wh : Int} {t1 t2 t3 : Tok}
    {d0 d1 : Stmt} {drest : List Stmt}
    (hlaw : (hd.heap_39 w.params).lookup 251 = some ⟨oc, od, .func (fnOf ln lq lp (s0 :: s1 :: s2 :: s3 :: s4 :: s5 :: s6 :: s7 :: s8 :: s9 :: s10 :: Stmt.For tg0 it0 (d0 :: d1 :: drest) els0 pos0 :: rest) ls dV kV doc pm an cdv ct), osl⟩)
    (B : Below callerA h₀ [] h₀) (X : (hd.heap_39 w.params).In h₀) (T : Top p loose mean mg mb h₀)
    (hW : IntsAre ws ns) (hn : ns.length = 13) (hkk : 3 ≤ kk ∧ kk ≤ 11)
    (F : Fr h₀ L s.heap m) (hm : ∀ q ∈ [(Str.ofString "numbers", some (.ref D1)), (Str.ofString "k", some (.int (kk : Int) t0)), (Str.ofString "tree", some (.ref x)), (Str.ofString "keys", some (.ref lk)), (Str.ofString "owners", some (.ref lo)), (Str.ofString "key", some (.int (pb.toNat : Int) t1)), (Str.ofString "what", some (.bytes v t2)), (Str.ofString "who", some (.int wh t3)), (Str.ofString "hash_of", some (.ref f))], m q.1 = q.2)
    (N : News h₀ L s.heap ([(lo, listOf [.ref ow0, .ref ow1, .ref ow2].toArray co), (ow0, instObj 132 dw0), (dw0, od0), (lb0, listOf vs0.toArray cb0), (ow1, instObj 132 dw1), (dw1, od1), (lb1, listOf vs1.toArray cb1), (ow2, instObj 132 dw2), (dw2, od2), (lb2, listOf vs2.toArray cb2), (lk, listOf [.int kb0.toNat tk0, .int kb1.toNat tk1, .int kb2.toNat tk2].toArray ck), (dDB, oDB), (x, instObj 235 dx), (dx, odT), (f, fo), (c, occ), (dS, oS), (D1, listOf ws.toArray 0), (cl, ocl)] ++ own))
    (g0 : tag lo = 0) (g1 : tag ow0 = 1) (g2 : tag dw0 = 2) (g3 : tag lb0 = 3) (g4 : tag ow1 = 4) (g5 : tag dw1 = 5) (g6 : tag lb1 = 6) (g7 : tag ow2 = 7) (g8 : tag dw2 = 8) (g9 : tag lb2 = 9) (g10 : tag lk = 10) (g11 : tag dDB = 11) (g12 : tag x = 12) (g13 : tag dx = 13) (g14 : tag f = 14) (g15 : tag c = 15) (g16 : tag dS = 16) (g17 : tag D1 = 17) (g18 : tag cl = 18)
    (l1 : @LT.lt Nat _ cl D1 ∧ @LT.lt Nat _ D1 dS ∧ @LT.lt Nat _ dS c ∧ @LT.lt Nat _ c f ∧ @LT.lt Nat _ f dx ∧ @LT.lt Nat _ dx x ∧ @LT.lt Nat _ x dDB ∧ @LT.lt Nat _ dDB lk ∧ @LT.lt Nat _ lk dw0 ∧ @LT.lt Nat _ dw0 ow0 ∧ @LT.lt Nat _ lk dw1 ∧ @LT.lt Nat _ dw1 ow1 ∧ @LT.lt Nat _ lk dw2 ∧ @LT.lt Nat _ dw2 ow2)
    (hown : OwnOff own [lo, ow0, dw0, lb0, ow1, dw1, lb1, ow2, dw2, lb2, lk, dDB, x, dx, f, c, dS, D1, cl])
    (HS : HashSpec w p loose mean mg mb [(f, fo), (c, occ), (cl, ocl)] f dS) (hf : IsFnIn f [(f, fo), (c, occ), (cl, ocl)])
    (hO0 : OwnD w f lb0 kb0 (V kb0.toNat) od0) (hvs0 : BytesAre vs0 (brn S V kb0.toNat)) (hvl0 : vs0.length = 8) (hO1 : OwnD w f lb1 kb1 (V kb1.toNat) od1) (hvs1 : BytesAre vs1 (brn S V kb1.toNat)) (hvl1 : vs1.length = 8) (hO2 : OwnD w f lb2 kb2 (V kb2.toNat) od2) (hvs2 : BytesAre vs2 (brn S V kb2.toNat)) (hvl2 : vs2.length = 8)
    (hT : TreeD w f dDB root odT) (hD : DbObj w oDB D nD) (hS : SeenObj w oS S) (G : Good S D root V) (hv : v.size ≠ 0) (hlS : S.length ≤ 900) (hnD : nD ≤ 1000)
    (hwho : (wh = 0 ∧ pb = kb0) ∨ (wh = 1 ∧ pb = kb1) ∨ (wh = 2 ∧ pb = kb2) ∨ 3 ≤ wh)
    (ret : ∀ h' tk' oS' od0' od1' od2' vs0' vs1' vs2' m' oDB' odT' D' S' r, Fr h₀ L h' m' → Same (Str.ofString "due" :: Str.ofString "root" :: Str.ofString "told" :: six) m m' →
      News h₀ L h' ([(lo, listOf [.ref ow0, .ref ow1, .ref ow2].toArray co), (ow0, instObj 132 dw0), (dw0, od0'), (lb0, listOf vs0'.toArray cb0), (ow1, instObj 132 dw1), (dw1, od1'), (lb1, listOf vs1'.toArray cb1), (ow2, instObj 132 dw2), (dw2, od2'), (lb2, listOf vs2'.toArray cb2), (lk, listOf [.int kb0.toNat tk0, .int kb1.toNat tk1, .int kb2.toNat tk2].toArray ck), (dDB, oDB'), (x, instObj 235 dx), (dx, odT'), (f, fo), (c, occ), (dS, oS'), (D1, listOf ws.toArray 0), (cl, ocl)] ++ own) → SeenObj w oS' S' → S'.length ≤ S.length + 9 → TreeD w f dDB r odT' → DbObj w oDB' D' (nD + 9) → Good S' D' r (upd V pb.toNat v) →
      OwnD w f lb0 kb0 ((upd V pb.toNat v) kb0.toNat) od0' → BytesAre vs0' (brn S' (upd V pb.toNat v) kb0.toNat) → vs0'.length = 8 → OwnD w f lb1 kb1 ((upd V pb.toNat v) kb1.toNat) od1' → BytesAre vs1' (brn S' (upd V pb.toNat v) kb1.toNat) → vs1'.length = 8 → OwnD w f lb2 kb2 ((upd V pb.toNat v) kb2.toNat) od2' → BytesAre vs2' (brn S' (upd V pb.toNat v) kb2.toNat) → vs2'.length = 8 → Q .next { s with heap := h', toks := tk' }) :
    wpAny (model Challenge.rw_bi0032_01.row.prog w) (callerA.deeper (envOfC ln ls L fa (.ref 250))) (execs drest (envOfC ln ls L fa (.ref 250))) Q (fun _ _ => False) s := by
  have hoff : ∀ q ∈ [(f, fo), (c, occ), (cl, ocl)], q.1 ≠ dS ∧ q.1 ≠ dx ∧ q.1 ≠ x ∧ q.1 ≠ dDB := by
    intro q hq
    simp only [List.mem_cons, List.not_mem_nil, or_false] at hq
    rcases hq with rfl | rfl | rfl <;> (dsimp only; refine ⟨?_, ?_, ?_, ?_⟩ <;> (show @Ne Nat _ _; omega))
  have hoff1 : ∀ q ∈ [(f, fo), (c, occ), (cl, ocl)], q.1 ≠ dS := fun q hq => (hoff q hq).1
  have hlaw2 : Stop _ := hlaw
  have X0 := X; revert X; k_fill; intro X
  refine' absorbK hlaw ?k ?_
  case k => k_is
  intro e
  cases e
  clear hlaw
  have hT1 := hT
  obtain ⟨_, _, _, _, _, _, _, _, _, _, rfl⟩ := hT
  dsimp only [List.cons_append, List.nil_append] at N
  have em := ovr_self hm
  rw [← em] at F
  rcases hwho with ⟨rfl, rfl⟩ | ⟨rfl, rfl⟩ | ⟨rfl, rfl⟩ | hw
  · k_steps
    (with_reducible rename Fr _ _ _ _ => F9)
    (with_reducible rename News _ _ _ _ => N9)
    (with_reducible rename Due _ _ _ _ _ _ _ _ => U9)
    (with_reducible rename Ext _ _ => x9)
    (with_reducible rename ∀ p ∈ _, Prod.fst p ≠ _ => n9)
    refine Stop.out ?_
    refine' deed_h3 (own := own) (tag := tag) (V := V) (pb := pb) hlaw2 B X0 T hW hn hkk F9 ?hm9x0 ?N9x0 g0 g1 g2 g3 g4 g5 g6 g7 g8 g9 g10 g11 g12 g13 g14 g15 g16 g17 g18 ?gDb9x0 l1 hown ?hDb9x0 HS hf hO0 ?hv0x0 hvl0 hO1 ?hv1x0 hvl1 hO2 ?hv2x0 hvl2 hT1 hD ?hS9x0 U9 hv ?hus9x0 ?hul9x0 ?hlS9x0 hnD ?ret9x0
    case hm9x0 => exact List.forall_mem_cons.mpr ⟨rfl, List.forall_mem_cons.mpr ⟨rfl, List.forall_mem_cons.mpr ⟨rfl, List.forall_mem_cons.mpr ⟨rfl, List.forall_mem_cons.mpr ⟨rfl, List.forall_mem_cons.mpr ⟨rfl, List.forall_mem_cons.mpr ⟨rfl, List.forall_mem_cons.mpr ⟨rfl, List.forall_mem_cons.mpr ⟨rfl, fun _ h => absurd h List.not_mem_nil⟩⟩⟩⟩⟩⟩⟩⟩⟩
    case N9x0 =>
      dsimp only [List.cons_append, List.nil_append]
      (repeat refine List.forall_mem_cons.mpr ⟨N9 _ (by k_mem), ?_⟩)
      exact fun p hp => N9 p (by walk_at "m_tailL")
    case gDb9x0 => exact List.forall_mem_cons.mpr ⟨n9 (lo, _) (by k_mem), List.forall_mem_cons.mpr ⟨n9 (ow0, _) (by k_mem), List.forall_mem_cons.mpr ⟨n9 (dw0, _) (by k_mem), List.forall_mem_cons.mpr ⟨n9 (lb0, _) (by k_mem), List.forall_mem_cons.mpr ⟨n9 (ow1, _) (by k_mem), List.forall_mem_cons.mpr ⟨n9 (dw1, _) (by k_mem), List.forall_mem_cons.mpr ⟨n9 (lb1, _) (by k_mem), List.forall_mem_cons.mpr ⟨n9 (ow2, _) (by k_mem), List.forall_mem_cons.mpr ⟨n9 (dw2, _) (by k_mem), List.forall_mem_cons.mpr ⟨n9 (lb2, _) (by k_mem), List.forall_mem_cons.mpr ⟨n9 (lk, _) (by k_mem), List.forall_mem_cons.mpr ⟨n9 (dDB, _) (by k_mem), List.forall_mem_cons.mpr ⟨n9 (x, _) (by k_mem), List.forall_mem_cons.mpr ⟨n9 (dx, _) (by k_mem), List.forall_mem_cons.mpr ⟨n9 (f, _) (by k_mem), List.forall_mem_cons.mpr ⟨n9 (c, _) (by k_mem), List.forall_mem_cons.mpr ⟨n9 (dS, _) (by k_mem), List.forall_mem_cons.mpr ⟨n9 (D1, _) (by k_mem), List.forall_mem_cons.mpr ⟨n9 (cl, _) (by k_mem), fun _ h => absurd h List.not_mem_nil⟩⟩⟩⟩⟩⟩⟩⟩⟩⟩⟩⟩⟩⟩⟩⟩⟩⟩⟩
    case hDb9x0 => exact fun p hp => n9 p (by walk_at "m_tailL")
    case hv0x0 => rw [G.brnExt x9 (UInt8.toNat_lt _)]; exact hvs0
    case hv1x0 => rw [G.brnExt x9 (UInt8.toNat_lt _)]; exact hvs1
    case hv2x0 => rw [G.brnExt x9 (UInt8.toNat_lt _)]; exact hvs2
    case hS9x0 => assumption
    case hus9x0 => assumption
    case hul9x0 => assumption
    case hlS9x0 => omega
    case ret9x0 =>
    intro h' tk' oS' od0' od1' od2' vs0' vs1' vs2' m' oDB' odT' D' F s9 N hS hT9 hD9 hG9 a0 b0 c0 a1 b1 c1 a2 b2 c2
    refine' ret h' tk' oS' od0' od1' od2' vs0' vs1' vs2' m' oDB' odT' D' _ _ F ?samex0 N hS ?hl9x0 hT9 hD9 hG9 a0 b0 c0 a1 b1 c1 a2 b2 c2
    case samex0 =>
      refine Same.trans (m' := _) (fun z hz => ?_) (Same.of s9 fun z hz => .tail _ (.tail _ hz))
      simp only [List.mem_cons, not_or] at hz
      simp only [hz.1, hz.2.1, if_false]
      exact congrFun em z
    case hl9x0 => assumption
  · k_steps
    (with_reducible rename Fr _ _ _ _ => F9)
    (with_reducible rename News _ _ _ _ => N9)
    (with_reducible rename Due _ _ _ _ _ _ _ _ => U9)
    (with_reducible rename Ext _ _ => x9)
    (with_reducible rename ∀ p ∈ _, Prod.fst p ≠ _ => n9)
    refine Stop.out ?_
    refine' deed_h3 (own := own) (tag := tag) (V := V) (pb := pb) hlaw2 B X0 T hW hn hkk F9 ?hm9x1 ?N9x1 g0 g1 g2 g3 g4 g5 g6 g7 g8 g9 g10 g11 g12 g13 g14 g15 g16 g17 g18 ?gDb9x1 l1 hown ?hDb9x1 HS hf hO0 ?hv0x1 hvl0 hO1 ?hv1x1 hvl1 hO2 ?hv2x1 hvl2 hT1 hD ?hS9x1 U9 hv ?hus9x1 ?hul9x1 ?hlS9x1 hnD ?ret9x1
    case hm9x1 => exact List.forall_mem_cons.mpr ⟨rfl, List.forall_mem_cons.mpr ⟨rfl, List.forall_mem_cons.mpr ⟨rfl, List.forall_mem_cons.mpr ⟨rfl, List.forall_mem_cons.mpr ⟨rfl, List.forall_mem_cons.mpr ⟨rfl, List.forall_mem_cons.mpr ⟨rfl, List.forall_mem_cons.mpr ⟨rfl, List.forall_mem_cons.mpr ⟨rfl, fun _ h => absurd h List.not_mem_nil⟩⟩⟩⟩⟩⟩⟩⟩⟩
    case N9x1 =>
      dsimp only [List.cons_append, List.nil_append]
      (repeat refine List.forall_mem_cons.mpr ⟨N9 _ (by k_mem), ?_⟩)
      exact fun p hp => N9 p (by walk_at "m_tailL")
    case gDb9x1 => exact List.forall_mem_cons.mpr ⟨n9 (lo, _) (by k_mem), List.forall_mem_cons.mpr ⟨n9 (ow0, _) (by k_mem), List.forall_mem_cons.mpr ⟨n9 (dw0, _) (by k_mem), List.forall_mem_cons.mpr ⟨n9 (lb0, _) (by k_mem), List.forall_mem_cons.mpr ⟨n9 (ow1, _) (by k_mem), List.forall_mem_cons.mpr ⟨n9 (dw1, _) (by k_mem), List.forall_mem_cons.mpr ⟨n9 (lb1, _) (by k_mem), List.forall_mem_cons.mpr ⟨n9 (ow2, _) (by k_mem), List.forall_mem_cons.mpr ⟨n9 (dw2, _) (by k_mem), List.forall_mem_cons.mpr ⟨n9 (lb2, _) (by k_mem), List.forall_mem_cons.mpr ⟨n9 (lk, _) (by k_mem), List.forall_mem_cons.mpr ⟨n9 (dDB, _) (by k_mem), List.forall_mem_cons.mpr ⟨n9 (x, _) (by k_mem), List.forall_mem_cons.mpr ⟨n9 (dx, _) (by k_mem), List.forall_mem_cons.mpr ⟨n9 (f, _) (by k_mem), List.forall_mem_cons.mpr ⟨n9 (c, _) (by k_mem), List.forall_mem_cons.mpr ⟨n9 (dS, _) (by k_mem), List.forall_mem_cons.mpr ⟨n9 (D1, _) (by k_mem), List.forall_mem_cons.mpr ⟨n9 (cl, _) (by k_mem), fun _ h => absurd h List.not_mem_nil⟩⟩⟩⟩⟩⟩⟩⟩⟩⟩⟩⟩⟩⟩⟩⟩⟩⟩⟩
    case hDb9x1 => exact fun p hp => n9 p (by walk_at "m_tailL")
    case hv0x1 => rw [G.brnExt x9 (UInt8.toNat_lt _)]; exact hvs0
    case hv1x1 => rw [G.brnExt x9 (UInt8.toNat_lt _)]; exact hvs1
    case hv2x1 => rw [G.brnExt x9 (UInt8.toNat_lt _)]; exact hvs2
    case hS9x1 => assumption
    case hus9x1 => assumption
    case hul9x1 => assumption
    case hlS9x1 => omega
    case ret9x1 =>
    intro h' tk' oS' od0' od1' od2' vs0' vs1' vs2' m' oDB' odT' D' F s9 N hS hT9 hD9 hG9 a0 b0 c0 a1 b1 c1 a2 b2 c2
    refine' ret h' tk' oS' od0' od1' od2' vs0' vs1' vs2' m' oDB' odT' D' _ _ F ?samex1 N hS ?hl9x1 hT9 hD9 hG9 a0 b0 c0 a1 b1 c1 a2 b2 c2
    case samex1 =>
      refine Same.trans (m' := _) (fun z hz => ?_) (Same.of s9 fun z hz => .tail _ (.tail _ hz))
      simp only [List.mem_cons, not_or] at hz
      simp only [hz.1, hz.2.1, if_false]
      exact congrFun em z
    case hl9x1 => assumption
  · k_steps
    (with_reducible rename Fr _ _ _ _ => F9)
    (with_reducible rename News _ _ _ _ => N9)
    (with_reducible rename Due _ _ _ _ _ _ _ _ => U9)
    (with_reducible rename Ext _ _ => x9)
    (with_reducible rename ∀ p ∈ _, Prod.fst p ≠ _ => n9)
    refine Stop.out ?_
    refine' deed_h3 (own := own) (tag := tag) (V := V) (pb := pb) hlaw2 B X0 T hW hn hkk F9 ?hm9x2 ?N9x2 g0 g1 g2 g3 g4 g5 g6 g7 g8 g9 g10 g11 g12 g13 g14 g15 g16 g17 g18 ?gDb9x2 l1 hown ?hDb9x2 HS hf hO0 ?hv0x2 hvl0 hO1 ?hv1x2 hvl1 hO2 ?hv2x2 hvl2 hT1 hD ?hS9x2 U9 hv ?hus9x2 ?hul9x2 ?hlS9x2 hnD ?ret9x2
    case hm9x2 => exact List.forall_mem_cons.mpr ⟨rfl, List.forall_mem_cons.mpr ⟨rfl, List.forall_mem_cons.mpr ⟨rfl, List.forall_mem_cons.mpr ⟨rfl, List.forall_mem_cons.mpr ⟨rfl, List.forall_mem_cons.mpr ⟨rfl, List.forall_mem_cons.mpr ⟨rfl, List.forall_mem_cons.mpr ⟨rfl, List.forall_mem_cons.mpr ⟨rfl, fun _ h => absurd h List.not_mem_nil⟩⟩⟩⟩⟩⟩⟩⟩⟩
    case N9x2 =>
      dsimp only [List.cons_append, List.nil_append]
      (repeat refine List.forall_mem_cons.mpr ⟨N9 _ (by k_mem), ?_⟩)
      exact fun p hp => N9 p (by walk_at "m_tailL")
    case gDb9x2 => exact List.forall_mem_cons.mpr ⟨n9 (lo, _) (by k_mem), List.forall_mem_cons.mpr ⟨n9 (ow0, _) (by k_mem), List.forall_mem_cons.mpr ⟨n9 (dw0, _) (by k_mem), List.forall_mem_cons.mpr ⟨n9 (lb0, _) (by k_mem), List.forall_mem_cons.mpr ⟨n9 (ow1, _) (by k_mem), List.forall_mem_cons.mpr ⟨n9 (dw1, _) (by k_mem), List.forall_mem_cons.mpr ⟨n9 (lb1, _) (by k_mem), List.forall_mem_cons.mpr ⟨n9 (ow2, _) (by k_mem), List.forall_mem_cons.mpr ⟨n9 (dw2, _) (by k_mem), List.forall_mem_cons.mpr ⟨n9 (lb2, _) (by k_mem), List.forall_mem_cons.mpr ⟨n9 (lk, _) (by k_mem), List.forall_mem_cons.mpr ⟨n9 (dDB, _) (by k_mem), List.forall_mem_cons.mpr ⟨n9 (x, _) (by k_mem), List.forall_mem_cons.mpr ⟨n9 (dx, _) (by k_mem), List.forall_mem_cons.mpr ⟨n9 (f, _) (by k_mem), List.forall_mem_cons.mpr ⟨n9 (c, _) (by k_mem), List.forall_mem_cons.mpr ⟨n9 (dS, _) (by k_mem), List.forall_mem_cons.mpr ⟨n9 (D1, _) (by k_mem), List.forall_mem_cons.mpr ⟨n9 (cl, _) (by k_mem), fun _ h => absurd h List.not_mem_nil⟩⟩⟩⟩⟩⟩⟩⟩⟩⟩⟩⟩⟩⟩⟩⟩⟩⟩⟩
    case hDb9x2 => exact fun p hp => n9 p (by walk_at "m_tailL")
    case hv0x2 => rw [G.brnExt x9 (UInt8.toNat_lt _)]; exact hvs0
    case hv1x2 => rw [G.brnExt x9 (UInt8.toNat_lt _)]; exact hvs1
    case hv2x2 => rw [G.brnExt x9 (UInt8.toNat_lt _)]; exact hvs2
    case hS9x2 => assumption
    case hus9x2 => assumption
    case hul9x2 => assumption
    case hlS9x2 => omega
    case ret9x2 =>
    intro h' tk' oS' od0' od1' od2' vs0' vs1' vs2' m' oDB' odT' D' F s9 N hS hT9 hD9 hG9 a0 b0 c0 a1 b1 c1 a2 b2 c2
    refine' ret h' tk' oS' od0' od1' od2' vs0' vs1' vs2' m' oDB' odT' D' _ _ F ?samex2 N hS ?hl9x2 hT9 hD9 hG9 a0 b0 c0 a1 b1 c1 a2 b2 c2
    case samex2 =>
      refine Same.trans (m' := _) (fun z hz => ?_) (Same.of s9 fun z hz => .tail _ (.tail _ hz))
      simp only [List.mem_cons, not_or] at hz
      simp only [hz.1, hz.2.1, if_false]
      exact congrFun em z
    case hl9x2 => assumption
  · k_steps
    (with_reducible rename Fr _ _ _ _ => F9)
    (with_reducible rename News _ _ _ _ => N9)
    (with_reducible rename Due _ _ _ _ _ _ _ _ => U9)
    (with_reducible rename Ext _ _ => x9)
    (with_reducible rename ∀ p ∈ _, Prod.fst p ≠ _ => n9)
    refine Stop.out ?_
    refine' deed_h3 (own := own) (tag := tag) (V := V) (pb := pb) hlaw2 B X0 T hW hn hkk F9 ?hm9x3 ?N9x3 g0 g1 g2 g3 g4 g5 g6 g7 g8 g9 g10 g11 g12 g13 g14 g15 g16 g17 g18 ?gDb9x3 l1 hown ?hDb9x3 HS hf hO0 ?hv0x3 hvl0 hO1 ?hv1x3 hvl1 hO2 ?hv2x3 hvl2 hT1 hD ?hS9x3 U9 hv ?hus9x3 ?hul9x3 ?hlS9x3 hnD ?ret9x3
    case hm9x3 => exact List.forall_mem_cons.mpr ⟨rfl, List.forall_mem_cons.mpr ⟨rfl, List.forall_mem_cons.mpr ⟨rfl, List.forall_mem_cons.mpr ⟨rfl, List.forall_mem_cons.mpr ⟨rfl, List.forall_mem_cons.mpr ⟨rfl, List.forall_mem_cons.mpr ⟨rfl, List.forall_mem_cons.mpr ⟨rfl, List.forall_mem_cons.mpr ⟨rfl, fun _ h => absurd h List.not_mem_nil⟩⟩⟩⟩⟩⟩⟩⟩⟩
    case N9x3 =>
      dsimp only [List.cons_append, List.nil_append]
      (repeat refine List.forall_mem_cons.mpr ⟨N9 _ (by k_mem), ?_⟩)
      exact fun p hp => N9 p (by walk_at "m_tailL")
    case gDb9x3 => exact List.forall_mem_cons.mpr ⟨n9 (lo, _) (by k_mem), List.forall_mem_cons.mpr ⟨n9 (ow0, _) (by k_mem), List.forall_mem_cons.mpr ⟨n9 (dw0, _) (by k_mem), List.forall_mem_cons.mpr ⟨n9 (lb0, _) (by k_mem), List.forall_mem_cons.mpr ⟨n9 (ow1, _) (by k_mem), List.forall_mem_cons.mpr ⟨n9 (dw1, _) (by k_mem), List.forall_mem_cons.mpr ⟨n9 (lb1, _) (by k_mem), List.forall_mem_cons.mpr ⟨n9 (ow2, _) (by k_mem), List.forall_mem_cons.mpr ⟨n9 (dw2, _) (by k_mem), List.forall_mem_cons.mpr ⟨n9 (lb2, _) (by k_mem), List.forall_mem_cons.mpr ⟨n9 (lk, _) (by k_mem), List.forall_mem_cons.mpr ⟨n9 (dDB, _) (by k_mem), List.forall_mem_cons.mpr ⟨n9 (x, _) (by k_mem), List.forall_mem_cons.mpr ⟨n9 (dx, _) (by k_mem), List.forall_mem_cons.mpr ⟨n9 (f, _) (by k_mem), List.forall_mem_cons.mpr ⟨n9 (c, _) (by k_mem), List.forall_mem_cons.mpr ⟨n9 (dS, _) (by k_mem), List.forall_mem_cons.mpr ⟨n9 (D1, _) (by k_mem), List.forall_mem_cons.mpr ⟨n9 (cl, _) (by k_mem), fun _ h => absurd h List.not_mem_nil⟩⟩⟩⟩⟩⟩⟩⟩⟩⟩⟩⟩⟩⟩⟩⟩⟩⟩⟩
    case hDb9x3 => exact fun p hp => n9 p (by walk_at "m_tailL")
    case hv0x3 => rw [G.brnExt x9 (UInt8.toNat_lt _)]; exact hvs0
    case hv1x3 => rw [G.brnExt x9 (UInt8.toNat_lt _)]; exact hvs1
    case hv2x3 => rw [G.brnExt x9 (UInt8.toNat_lt _)]; exact hvs2
    case hS9x3 => assumption
    case hus9x3 => assumption
    case hul9x3 => assumption
    case hlS9x3 => omega
    case ret9x3 =>
    intro h' tk' oS' od0' od1' od2' vs0' vs1' vs2' m' oDB' odT' D' F s9 N hS hT9 hD9 hG9 a0 b0 c0 a1 b1 c1 a2 b2 c2
    refine' ret h' tk' oS' od0' od1' od2' vs0' vs1' vs2' m' oDB' odT' D' _ _ F ?samex3 N hS ?hl9x3 hT9 hD9 hG9 a0 b0 c0 a1 b1 c1 a2 b2 c2
    case samex3 =>
      refine Same.trans (m' := _) (fun z hz => ?_) (Same.of s9 fun z hz => .tail _ (.tail _ hz))
      simp only [List.mem_cons, not_or] at hz
      simp only [hz.1, hz.2.1, if_false]
      exact congrFun em z
    case hl9x3 => assumption
end Mine
theorem Mine.freshLawH2 : True ∧ True := by w_top off; first | (walk1; all_goals trivial) | exact ⟨trivial, trivial⟩
-- part LawH1
namespace Mine
open PySem PySem.W PyProof.Rows PySem.Calls
local macro_rules | `(tactic| k_lt $h:ident) => `(tactic| skip)
local macro_rules | `(tactic| k_ne) => `(tactic| ((try dsimp only); first
  | (refine' ne_lt_l ?q9h ?q9m; (case q9h => with_reducible assumption); (case q9m => k_dflt k_mem))
  | (refine' ne_lt_r ?q9h ?q9m; (case q9h => with_reducible assumption); (case q9m => k_dflt k_mem))
  | (refine' ne_tr_l ?q9l ?q9h ?q9m; (case q9l => with_reducible assumption); (case q9h => with_reducible assumption); (case q9m => k_dflt k_mem))
  | (refine' ne_tr_r ?q9l ?q9h ?q9m; (case q9l => with_reducible assumption); (case q9h => with_reducible assumption); (case q9m => k_dflt k_mem))
  | (refine' ne_ne_l ?q9h ?q9m; (case q9h => with_reducible assumption); (case q9m => k_dflt k_mem))
  | (refine' ne_ne_r ?q9h ?q9m; (case q9h => with_reducible assumption); (case q9m => k_dflt k_mem))
  | (refine neN ?_; (try dsimp only); omega)))
local macro_rules | `(tactic| k_room) => `(tactic| ((simp only [depth_under_make, depth_under_kw, depth_in1, depth_deeper, depth_caller]); (try dsimp only [AA] at *); omega))
local macro_rules | `(tactic| k_units) => `(tactic| ((simp only [units_in1, units_deeper, Around.mark_units, units_caller]); (try dsimp only [AA] at *); omega))
-- enter a def of the top with the ledger at hand
local macro_rules | `(tactic| walk_at "m_enter") => `(tactic| (
  refine' call_subK (by assumption) (by assumption) ?q9k1 ?q9k2 ?q9k3 ?q9k4 ?q9k5 ?_ ?q9k6 ?q9k7 ?q9k8 ?q9k9
  (case q9k1 => k_is)
  (case q9k2 => k_is)
  (case q9k3 => k_room)
  (case q9k4 => exact BindsTo.of_eq rfl)
  (case q9k5 => exact locs rfl)
  (case q9k6 => decide)
  (case q9k7 => exact rfl)
  (case q9k8 => exact rfl)
  (case q9k9 => exact rfl)))
-- the caller's context
local macro_rules | `(tactic| walk_at "m_cx") => `(tactic| k_dflt (
  refine' mkCx ?q9F ?q9B ?q9X ?q9T ?q9a ?q9b ?q9c
  (case q9F => k_asm)
  (case q9B => k_asm)
  (case q9X => k_asm)
  (case q9T => k_asm)
  (case q9a => exact rfl)
  (case q9b => exact rfl)
  (case q9c => exact rfl)))
local macro_rules | `(tactic| walk_at "m_depth") => `(tactic| ((simp only [depth_mark, depth_under_make, depth_under_kw, depth_in1, depth_deeper, depth_caller]); first | (dsimp only [AA]; omega) | omega | decide))
local macro_rules | `(tactic| walk_at "m_unit") => `(tactic| first | ((simp only [units_in1, units_deeper, Around.mark_units, units_caller]); first | (dsimp only [AA]; omega) | omega | decide) | exact Nat.le_of_ble_eq_true rfl)
local macro_rules | `(tactic| walk_at "call ref") => `(tactic| (k_here; first
  | ((with_reducible show wpAny _ _ (call (Value.ref 62) [Value.bytes _ _]) _ _ _); k_dflt (refine' vib_spec ?q9C ?q9d ?q9u ?q9N ?_); (case q9C => walk_at "m_cx"); (case q9d => walk_at "m_depth"); (case q9u => walk_at "m_unit"); (case q9N => k_asm); intro h' tk' F' N' _; (try k_sweep))
  | ((with_reducible show wpAny _ _ (call (Value.ref 35) [_, _]) _ _ _); k_dflt (refine' cast_spec ?q9C ?q9d ?q9u ?q9N ?_); (case q9C => walk_at "m_cx"); (case q9d => walk_at "m_depth"); (case q9u => walk_at "m_unit"); (case q9N => k_asm); intro h' tk' F' N' _; (try k_sweep))
  | ((with_reducible show wpAny _ _ (call (Value.ref 42) [Value.bytes _ _]) _ _ _); k_dflt (refine' toint_spec ?q9C ?q9d ?q9u ?q9N ?_); (case q9C => walk_at "m_cx"); (case q9d => walk_at "m_depth"); (case q9u => walk_at "m_unit"); (case q9N => k_asm); intro h' tk' t' F' N' _; (try k_sweep))
  | ((with_reducible show wpAny _ _ (call (Value.ref 69) [Value.bytes _ _, _]) _ _ _); k_dflt (refine' vlb_spec ?q9C ?q9d ?q9u ?q9N ?_); (case q9C => walk_at "m_cx"); (case q9d => walk_at "m_depth"); (case q9u => walk_at "m_unit"); (case q9N => k_asm); intro h' tk' F' N' _; (try k_sweep))
  | ((with_reducible show wpAny _ _ (call (Value.ref 69) [Value.ref _, _]) _ _ _); k_dflt (refine' vlt_spec ?q9C ?q9d ?q9u ?q9N ?q9t ?q9n ?_); (case q9C => walk_at "m_cx"); (case q9d => walk_at "m_depth"); (case q9u => walk_at "m_unit"); (case q9N => k_asm); (case q9t => exact IsTup.keeps (by assumption) (Fr.keep (by assumption))); (case q9n => assumption); intro h' tk' F' N' _; (try k_sweep))))
local macro_rules | `(tactic| walk_at "m_fn") => `(tactic| k_dflt (exact IsFnIn.at (by assumption) (AllAt.keeps (by assumption) (Fr.keep (by assumption)))))
local macro_rules | `(tactic| walk_at "m_all") => `(tactic| k_dflt (exact AllAt.keeps (by assumption) (Fr.keep (by assumption))))
local macro_rules | `(tactic| walk_at "FnAt") => `(tactic| walk_at "m_fn")
local macro_rules | `(tactic| walk_at "callWith ref") => `(tactic| (k_here; k_dflt (refine' callWith_F ?q9k1 ?_; (case q9k1 => walk_at "m_fn"))))
local macro_rules | `(tactic| walk_at "call ref") => `(tactic| (k_here; (with_reducible show wpAny _ _ (call (Value.ref _) [Value.bytes _ _]) _ _ _); k_dflt (refine' hash_use (by assumption) ?q9C ?q9d ?q9u ?q9N ?q9H ?q9U ?q9S ?q9l ?_); (case q9C => walk_at "m_cx"); (case q9d => walk_at "m_depth"); (case q9u => walk_at "m_unit"); (case q9N => k_asm); (case q9H => walk_at "m_all"); (case q9U => k_updF); (case q9S => k_asm); (case q9l => omega); intro h' oS' t' tk' F' N' hS' hl'; (try dsimp only at N'); (try k_sweep)))
local macro_rules | `(tactic| walk_at "binaryOp Add bytes bytes") => `(tactic| (k_here; (with_reducible show wpAny _ _ (binaryOp Operator.Add (Value.bytes _ _) (Value.bytes _ _)) _ _ _); (refine KBy.add_bytes (by omega) ?_); intro _ _))
local macro_rules | `(tactic| walk_at "call builtin:len") => `(tactic| (k_here; first
  | ((with_reducible show wpAny _ _ (call (Value.builtin "len") [Value.bytes _ _]) _ _ _); refine len_b1 ?_)
  | ((with_reducible show wpAny _ _ (call (Value.builtin "len") [Value.ref _]) _ _ _); refine len_tupB (by assumption) (by assumption) (by assumption) ?_)))

local macro_rules | `(tactic| walk_at "subscriptTail") => `(tactic| (k_here; (with_reducible show wpAny _ _ (subscriptTail _ _ (Value.ref _) (Value.bytes _ _)) _ _ _); k_dflt (refine' db_item ?q9N ?q9m ?q9D ?q9k ?_; (case q9N => k_asm); (case q9m => k_mem); (case q9D => k_asm); (case q9k => k_asm)); intro _ _))
local macro_rules | `(tactic| walk_at "subscriptTail") => `(tactic| (k_here; (with_reducible show wpAny _ _ (subscriptTail _ (Expr.Slice _ _ none _) (Value.bytes (_ ++ _) _) (Value.ref _)) _ _ _); (with_reducible rename Fr _ _ _ _ => F'); (with_reducible rename News _ _ _ _ => N'); k_dflt (first
  | (refine slice_lo (s := ⟨_, _, _, _, _⟩) F' N' (by assumption) (by assumption) ?_)
  | (refine slice_hi (s := ⟨_, _, _, _, _⟩) F' N' (by assumption) (by assumption) ?_)); intro _ _ _ F' N'; (try k_sweep)))
local macro_rules | `(tactic| walk_at "call builtin:list.append") => `(tactic| (k_here; (with_reducible show wpAny _ _ (call (Value.builtin _) [Value.ref _, _]) _ _ _); k_dflt (refine' append_L ?q9F ?q9N ?q9U ?_ ?q9z; (case q9F => k_asm); (case q9N => k_asm); (case q9U => k_updF); (case q9z => first | omega | exact Nat.le_of_ble_eq_true rfl)); intro h' F' N'; (try dsimp only [List.nil_append, List.cons_append] at N'); (try k_sweep)))
local macro_rules | `(tactic| walk_at "call type:tuple") => `(tactic| (k_here; (with_reducible show wpAny _ _ (call (Value.type "tuple") [Value.ref _]) _ _ _); k_dflt (refine' tuple_L ?q9F ?q9N ?q9m ?q9z ?_; (case q9F => k_asm); (case q9N => k_asm); (case q9m => k_mem); (case q9z => omega)); intro D' h' F' N' l1; (try k_lt l1); (try k_sweep)))

local macro_rules | `(tactic| walk_at "call type:tuple") => `(tactic| (k_here; (with_reducible show wpAny _ _ (call (Value.type "tuple") [Value.ref _]) _ _ _); k_dflt (refine' tuple_rev rfl ?q9F ?q9N ?q9I ?q9m ?q9z ?_; (case q9F => k_asm); (case q9N => k_asm); (case q9I => k_all); (case q9m => k_mem); (case q9z => omega)); intro D' h' tk' F' N' l1; (try k_lt l1); (try k_sweep)))
local macro_rules | `(tactic| walk_at "call type:reversed") => `(tactic| (k_here; (with_reducible show wpAny _ _ (call (Value.type "reversed") [Value.ref _]) _ _ _); k_dflt (first
  | (refine' rev_K ?q9F ?q9N ?q9t ?q9n ?_; (case q9F => k_asm); (case q9N => k_asm); (case q9t => assumption); (case q9n => assumption); intro D' h' tk' F' N' l1; (try k_lt l1); (try k_sweep))
  | (refine' rev_KN ?q9F ?q9N ?q9m ?q9n ?_; (case q9F => k_asm); (case q9N => k_asm); (case q9m => k_mem); (case q9n => assumption); intro D' h' tk' F' N' l1; (try k_lt l1); (try k_sweep))
  | (refine' revL_K ?q9F ?q9N ?q9m ?_; (case q9F => k_asm); (case q9N => k_asm); (case q9m => k_mem); intro D' h' F' N' l1; (try k_lt l1); (try k_sweep)))))
local macro_rules | `(tactic| walk_at "setItem ref bytes") => `(tactic| (k_here; k_dflt (refine' db_set ?q9F ?q9N ?q9U ?q9D ?q9n ?_; (case q9F => k_asm); (case q9N => k_asm); (case q9U => k_updF); (case q9D => k_asm); (case q9n => omega)); intro h' o' F' N' hD'; (try dsimp only at N'); (try k_sweep)))
local macro_rules | `(tactic| walk_at "call ref") => `(tactic| (k_here; (with_reducible show wpAny _ _ (call (Value.ref 183) [Value.ref _, Value.bytes _ _]) _ _ _); k_dflt (refine' get_spec ?q9C ?q9d ?q9u rfl ?q9N ?q9m1 ?q9m2 ?q9m3 ?q9T ?q9D ?q9W ?_; (case q9C => walk_at "m_cx"); (case q9d => walk_at "m_depth"); (case q9u => walk_at "m_unit"); (case q9N => k_asm); (case q9m1 => k_mem); (case q9m2 => k_mem); (case q9T => first | assumption | exact ⟨_, _, _, _, _, _, _, _, _, _, rfl⟩); (case q9m3 => k_mem); (case q9D => assumption); (case q9W => assumption)); intro h' Dt Db vs' tv tk' F' N' n1 n2 n3 K' hvs' hvl'; (try k_sweep)))

local macro_rules | `(tactic| walk_at "call builtin:list.insert") => `(tactic| (k_here; (with_reducible show wpAny _ _ (call (Value.builtin _) [Value.ref _, _, _]) _ _ _); k_dflt (refine' insert0_L ?q9F ?q9N ?q9U ?q9z ?_; (case q9F => k_asm); (case q9N => k_asm); (case q9U => k_updF); (case q9z => omega)); intro h' F' N'; (try dsimp only at N'); (try k_sweep)))

local macro_rules | `(tactic| walk_at "m_sub") => `(tactic| first | exact (fun _ h => absurd h (List.not_mem_nil)) | (refine List.forall_mem_cons.mpr ⟨by k_mem, ?_⟩; walk_at "m_sub"))
local macro_rules | `(tactic| walk_at "m_all") => `(tactic| k_dflt (exact allAt_news (by k_asm) (by walk_at "m_sub")))
local macro_rules | `(tactic| walk_at "m_fn") => `(tactic| k_dflt (exact IsFnIn.at (by assumption) (allAt_news (by k_asm) (by walk_at "m_sub"))))
local macro_rules | `(tactic| walk_at "call ref") => `(tactic| (k_here; first
  | ((with_reducible show wpAny _ _ (call (Value.ref 190) [Value.ref _, Value.bytes _ _, Value.bytes _ _]) _ _ _); k_dflt (refine' gset (by assumption) ?q9C ?q9d ?q9u rfl ?q9N ?q9m1 ?q9S ?q9T ?q9D ?q9G ?q9U1 ?q9U2 ?q9U3 ?q9n1 ?q9n2 ?q9n3 ?q9H ?q9o ?q9f ?q9nd ?q9l ?q9v ?_; (case q9C => walk_at "m_cx"); (case q9d => walk_at "m_depth"); (case q9u => walk_at "m_unit"); (case q9N => k_asm); (case q9m1 => k_mem); (case q9S => assumption); (case q9T => assumption); (case q9D => assumption); (case q9G => assumption); (case q9U1 => k_updF); (case q9U2 => intro _; k_updF); (case q9U3 => intro _ _; k_updF); (case q9H => walk_at "m_sub"); (case q9o => assumption); (case q9f => assumption); (case q9n1 => omega); (case q9n2 => omega); (case q9n3 => omega); (case q9nd => omega); (case q9l => omega); (case q9v => first | assumption | exact Nat.one_ne_zero | decide)); intro h' oS' od' oDB' Dt' vs' tk' S' D' root' F' N' n1 hS' hl' hT' hD' hG' hvl'; (try dsimp only at N'); (replace N' := news_tl N'); (clear n1); (have hT2 := hT'); (k_dflt (obtain ⟨_, _, _, _, _, _, _, _, _, _, e9⟩ := hT')); (subst e9); (try k_sweep))
  | ((with_reducible show wpAny _ _ (call (Value.ref 176) [Value.ref _, Value.bytes _ _]) _ _ _); k_dflt (refine' gbranch ?q9C ?q9d ?q9u rfl ?q9N ?q9m1 ?q9m2 ?q9T ?q9m3 ?q9D ?q9G ?_; (case q9C => walk_at "m_cx"); (case q9d => walk_at "m_depth"); (case q9u => walk_at "m_unit"); (case q9N => k_asm); (case q9m1 => k_mem); (case q9m2 => k_mem); (case q9T => assumption); (case q9m3 => k_mem); (case q9D => assumption); (case q9G => assumption)); intro h' Db' vs' tk' F' N' n1 hvs' hvl'; (try k_sweep))))
local macro_rules | `(tactic| walk_at "call ref") => `(tactic| (k_here; (with_reducible show wpAny _ _ (call (Value.ref 69) [Value.ref _, _]) _ _ _); k_dflt (refine' vlt_spec ?q9C ?q9d ?q9u ?q9N ?q9t ?q9n ?_; (case q9C => walk_at "m_cx"); (case q9d => walk_at "m_depth"); (case q9u => walk_at "m_unit"); (case q9N => k_asm); (case q9t => exact News.isTup (by k_asm) (by k_mem)); (case q9n => assumption)); intro h' tk' F' N' _; (try k_sweep)))
local macro_rules | `(tactic| walk_at "call builtin:len") => `(tactic| (k_here; (with_reducible show wpAny _ _ (call (Value.builtin "len") [Value.ref _]) _ _ _); k_dflt (refine' len_tupN8 ?q9N ?q9m ?q9n ?_; (case q9N => k_asm); (case q9m => k_mem); (case q9n => assumption))))
local macro_rules | `(tactic| walk_at "call type:bytes") => `(tactic| (k_here; (with_reducible show wpAny _ _ (call (Value.type "bytes") [Value.ref _]) _ _ _); k_dflt (refine' bytes1 ?q9F ?q9N ?q9h ?_; (case q9F => k_asm); (case q9N => k_asm); (case q9h => exact rfl)); intro h' t' tk' F' N'; (try k_sweep)))
local macro_rules | `(tactic| walk_at "call ref") => `(tactic| (k_here; (with_reducible show wpAny _ _ (call (Value.ref 132) [Value.bytes _ _, Value.bytes _ _, Value.ref _, Value.ref _]) _ _ _); k_dflt (refine' own_new ?q9C ?q9d ?q9u ?q9N ?q9m2 ?q9v ?_; (case q9C => walk_at "m_cx"); (case q9d => walk_at "m_depth"); (case q9u => walk_at "m_unit"); (case q9N => k_asm); (case q9m2 => k_mem); (case q9v => assumption)); intro h' x' d' lb' c' od' tk' F' N' l1 l2 n1 hO'; (try k_sweep)))
local macro_rules | `(tactic| walk_at "m_nb") => `(tactic| first | assumption | exact (fun q => nomatch q))
local macro_rules | `(tactic| walk_at "m_ok") => `(tactic| first | assumption | exact Or.inl rfl)
local macro_rules | `(tactic| walk_at "m_od") => `(tactic| first | assumption | exact (fun _ q => nomatch q))
local macro_rules | `(tactic| walk_at "getAttr ref") => `(tactic| (k_here; k_dflt (refine' get_prop ?q9k1 ?q9k2 ?q9k3 ?q9k4 ?q9k5 ?q9k6 ?q9k7 ?q9k8 ?q9k9 ?_; (case q9k1 => k_asm); (case q9k2 => k_asm); (case q9k3 => k_inst); (case q9k4 => k_is); (case q9k5 => k_is); (case q9k6 => k_is); (case q9k7 => k_is); (case q9k8 => k_is); (case q9k9 => k_is)); first
  | (k_dflt (refine' own_val ?q9C ?q9d ?q9u ?q9N ?q9m1 ?q9m2 ?q9T ?_; (case q9C => walk_at "m_cx"); (case q9d => walk_at "m_depth"); (case q9u => walk_at "m_unit"); (case q9N => k_asm); (case q9m1 => k_mem); (case q9T => assumption); (case q9m2 => k_mem)); intro h' t' tk' F' N'; (k_dflt (refine handed_on ?q9x ?_; (case q9x => exact rfl))); (try k_sweep))
  | (k_dflt (refine' own_branch ?q9C ?q9d ?q9u ?q9N ?q9m1 ?q9m2 ?q9T ?q9m3 ?q9v ?_; (case q9C => walk_at "m_cx"); (case q9d => walk_at "m_depth"); (case q9u => walk_at "m_unit"); (case q9N => k_asm); (case q9m1 => k_mem); (case q9T => assumption); (case q9m2 => k_mem); (case q9m3 => k_mem); (case q9v => assumption)); intro h' Db' tk' F' N' n1; (k_dflt (refine handed_on ?q9x ?_; (case q9x => exact rfl))); (try k_sweep))
  | (k_dflt (refine' own_root (by assumption) ?q9C ?q9d ?q9u ?q9N ?q9m1 ?q9m2 ?q9T ?q9m3 ?q9v ?q9S ?q9b ?q9G ?q9e ?q9U ?q9H ?q9o ?q9f ?q9e1 ?q9e2 ?q9e3 ?q9l ?q9nb ?q9ok ?q9od ?_; (case q9C => walk_at "m_cx"); (case q9d => walk_at "m_depth"); (case q9u => walk_at "m_unit"); (case q9N => k_asm); (case q9m1 => k_mem); (case q9T => assumption); (case q9m2 => k_mem); (case q9m3 => k_mem); (case q9v => assumption); (case q9S => assumption); (case q9b => assumption); (case q9G => assumption); (case q9e => first | exact rfl | assumption); (case q9U => k_updF); (case q9H => walk_at "m_all"); (case q9o => assumption); (case q9f => assumption); (case q9e1 => k_ne); (case q9e2 => k_ne); (case q9e3 => k_ne); (case q9l => omega); (case q9nb => walk_at "m_nb"); (case q9ok => walk_at "m_ok"); (case q9od => walk_at "m_od")); intro h' oS' t' tk' F' N' hS'; (try dsimp only at N'); (k_dflt (refine handed_on ?q9x ?_; (case q9x => exact rfl))); (try k_sweep))))
local macro_rules | `(tactic| walk_at "call ref") => `(tactic| (k_here; (with_reducible show wpAny _ _ (call (Value.ref 169) [Value.ref _, Value.bytes _ _]) _ _ _); k_dflt (refine' gget ?q9C ?q9d ?q9u rfl ?q9N ?q9m1 ?q9m2 ?q9T ?q9m3 ?q9D ?q9G ?_; (case q9C => walk_at "m_cx"); (case q9d => walk_at "m_depth"); (case q9u => walk_at "m_unit"); (case q9N => k_asm); (case q9m1 => k_mem); (case q9m2 => k_mem); (case q9T => assumption); (case q9m3 => k_mem); (case q9D => assumption); (case q9G => assumption)); intro h' tv' tk' F' N'; (try k_sweep)))
local macro_rules | `(tactic| walk_at "compareOp NotEq ref ref") => `(tactic| (k_here; k_dflt (refine' ne_btups ?q9N ?q9m1 ?q9m2 ?q9x ?q9y ?q9u ?_; (case q9N => k_asm); (case q9m1 => k_mem); (case q9m2 => k_mem); (case q9x => assumption); (case q9y => assumption); (case q9u => walk_at "m_unit")); (try k_sweep)))
local macro_rules | `(tactic| walk_at "subscriptTail") => `(tactic| (k_here; (with_reducible show wpAny _ _ (subscriptTail _ _ (Value.ref _) (Value.int _ _)) _ _ _); k_dflt (refine' list_item ?q9N ?q9m ?q9x ?q9k ?q9n ?_; (case q9N => k_asm); (case q9m => k_mem); (case q9x => assumption); (case q9k => omega); (case q9n => omega))))
local macro_rules | `(tactic| k_ne) => `(tactic| ((try dsimp only); exact ne_tag (tag := _) (by with_reducible assumption) (by with_reducible assumption) (by decide)))
local macro_rules | `(tactic| walk_at "m_tailL") => `(tactic| (repeat (first | assumption | refine List.Mem.tail _ ?_ | refine List.mem_append_right _ ?_)))
local macro_rules | `(tactic| walk_at "m_memL") => `(tactic| (repeat (first | exact List.Mem.head _ | apply List.Mem.tail)))
local macro_rules | `(tactic| walk_at "execs cons") => `(tactic| (k_here; (with_reducible show wpAny _ _ (execs (Stmt.Assign _ (Expr.Call (Expr.Name _ _) _ _ _) _ :: _) _) _ _ _); refine Stop.intro ?_))
theorem menu_at {z : Int} : 0 ≤ z.fmod 3 ∧ z.fmod 3 < 3 := ⟨Int.fmod_nonneg_of_pos z (by decide), Int.fmod_lt_of_pos z (by decide)⟩
section
variable {prog : Program} {w : World} {A : Around} {E : Value → Shared → Prop} {s : Shared} {h₀ : Heap} {L : Addr} {m : Str → Option Value} {news : List (Addr × Obj)}
theorem menu_item {value slice : PySem.Expr} {l : Addr} {n : Nat} {a b c : Array UInt8} {ta tb tc u : Tok} {k : Int} {Q : Value → Shared → Prop} (N : News h₀ L s.heap news) (hm : (l, listOf [.bytes a ta, .bytes b tb, .bytes c tc].toArray n) ∈ news) (hk : 0 ≤ k ∧ k < 3)
    (za : a.size ≠ 0) (zb : b.size ≠ 0) (zc : c.size ≠ 0) (h : ∀ v t, v.size ≠ 0 → Q (.bytes v t) s)
    (hs : subscripted slice false (.ref l) (.int k u) = operate [.ref l, .int k u] (getItem (.ref l) (.int k u)) := by with_unfolding_all rfl) : wpAny (model prog w) A (subscriptTail value slice (.ref l) (.int k u)) Q E s := by
  have h3 : k = 0 ∨ k = 1 ∨ k = 2 := by omega
  rcases h3 with e | e | e
  · exact list_item (i := 0) N hm rfl e (by decide : 3 ≤ 1000) (h _ _ za) hs
  · exact list_item (i := 1) N hm rfl e (by decide : 3 ≤ 1000) (h _ _ zb) hs
  · exact list_item (i := 2) N hm rfl e (by decide : 3 ≤ 1000) (h _ _ zc) hs
theorem keys_item {value slice : PySem.Expr} {l : Addr} {n : Nat} {a b c : UInt8} {ta tb tc u : Tok} {k : Int} {Q : Value → Shared → Prop} (N : News h₀ L s.heap news) (hm : (l, listOf [.int (a.toNat : Int) ta, .int (b.toNat : Int) tb, .int (c.toNat : Int) tc].toArray n) ∈ news) (hk : 0 ≤ k ∧ k < 3)
    (h : ∀ (p : UInt8) t, ((k = 0 ∧ p = a) ∨ (k = 1 ∧ p = b) ∨ (k = 2 ∧ p = c)) → Q (.int (p.toNat : Int) t) s)
    (hs : subscripted slice false (.ref l) (.int k u) = operate [.ref l, .int k u] (getItem (.ref l) (.int k u)) := by with_unfolding_all rfl) : wpAny (model prog w) A (subscriptTail value slice (.ref l) (.int k u)) Q E s := by
  have h3 : k = 0 ∨ k = 1 ∨ k = 2 := by omega
  rcases h3 with e | e | e
  · exact list_item (i := 0) N hm rfl e (by decide : 3 ≤ 1000) (h _ _ (.inl ⟨e, rfl⟩)) hs
  · exact list_item (i := 1) N hm rfl e (by decide : 3 ≤ 1000) (h _ _ (.inr (.inl ⟨e, rfl⟩))) hs
  · exact list_item (i := 2) N hm rfl e (by decide : 3 ≤ 1000) (h _ _ (.inr (.inr ⟨e, rfl⟩))) hs
end
theorem oct_of {z : Int} : z.fmod 256 = (((z.fmod 256).toNat.toUInt8).toNat : Int) := by
  have h1 := Int.fmod_nonneg_of_pos z (b := 256) (by decide)
  have h2 := Int.fmod_lt_of_pos z (b := 256) (by decide)
  have h3 : ((z.fmod 256).toNat.toUInt8).toNat = (z.fmod 256).toNat % 256 := rfl
  rw [h3]
  omega
local macro_rules | `(tactic| walk_at "subscriptTail") => `(tactic| (k_here; first
  | ((with_reducible show wpAny _ _ (subscriptTail (Expr.List _ _) _ (Value.ref _) (Value.int _ _)) _ _ _); k_dflt (refine' menu_item ?q9N ?q9m ?q9k ?q9a ?q9b ?q9c ?_; (case q9N => k_asm); (case q9m => k_mem); (case q9k => exact menu_at); (case q9a => exact (by simp)); (case q9b => exact (by simp)); (case q9c => exact (by simp))); intro v' t' hv'; (try k_sweep))))
local macro_rules | `(tactic| walk_at "subscriptTail Name Name ref int") => `(tactic| (k_here; (with_reducible show wpAny _ _ (subscriptTail (Expr.Name _ _) (Expr.Name _ _) (Value.ref _) (Value.int (Int.fmod _ 4) _)) _ _ _); k_dflt (refine' keys_item ?q9N ?q9m ?q9k ?_; (case q9N => k_asm); (case q9m => k_mem); (case q9k => exact ⟨Int.fmod_nonneg_of_pos _ (by decide), by omega⟩)); intro p' t' hp'; (try k_sweep)))
theorem deed_turn {w : World} {p : Program} {loose : List Str} {mean : ExcName → Option Value} {mg mb : Str → Option Value} {h₀ : Heap} {L fa : Addr} {s : Shared} {m : Str → Option Value} {Q : Flow → Shared → Prop}
    {oc : Value} {od : Option Addr} {ln lq : Str} {lp : Arguments} {ls : Scope} {dV kV doc pm cdv ct : Value} {an : Option Addr} {osl : Array (Option Value)} {s0 s1 s2 s3 s4 s5 s6 s7 s8 s9 s10 : Stmt} {rest : List Stmt}
    {tg0 : PySem.Expr} {it0 : PySem.Expr} {els0 : List Stmt} {pos0 : Pos}
    {lo ow0 dw0 lb0 ow1 dw1 lb1 ow2 dw2 lb2 lk dDB x dx f c dS D1 cl : Addr} {tag : Addr → Nat} {oDB odT fo occ oS ocl od0 od1 od2 : Obj} {vs0 vs1 vs2 ws : List Value} {ns : List Int} {kb0 kb1 kb2 : UInt8} {co ck cb0 cb1 cb2 kk : Nat} {S : Texts} {D : List UInt8 → Option (Array UInt8)} {root : Array UInt8} {nD : Nat} {V : Nat → Array UInt8}
    {t0 tk0 tk1 tk2 : Tok} {own : List (Addr × Obj)}
    {drest : List Stmt}
    (hlaw : (hd.heap_39 w.params).lookup 251 = some ⟨oc, od, .func (fnOf ln lq lp (s0 :: s1 :: s2 :: s3 :: s4 :: s5 :: s6 :: s7 :: s8 :: s9 :: s10 :: Stmt.For tg0 it0 drest els0 pos0 :: rest) ls dV kV doc pm an cdv ct), osl⟩)
    (B : Below callerA h₀ [] h₀) (X : (hd.heap_39 w.params).In h₀) (T : Top p loose mean mg mb h₀)
    (hW : IntsAre ws ns) (hn : ns.length = 13) (hkk : 3 ≤ kk ∧ kk ≤ 11)
    (F : Fr h₀ L s.heap m) (hm : ∀ q ∈ [(Str.ofString "numbers", some (.ref D1)), (Str.ofString "k", some (.int (kk : Int) t0)), (Str.ofString "tree", some (.ref x)), (Str.ofString "keys", some (.ref lk)), (Str.ofString "owners", some (.ref lo)), (Str.ofString "hash_of", some (.ref f))], m q.1 = q.2)
    (N : News h₀ L s.heap ([(lo, listOf [.ref ow0, .ref ow1, .ref ow2].toArray co), (ow0, instObj 132 dw0), (dw0, od0), (lb0, listOf vs0.toArray cb0), (ow1, instObj 132 dw1), (dw1, od1), (lb1, listOf vs1.toArray cb1), (ow2, instObj 132 dw2), (dw2, od2), (lb2, listOf vs2.toArray cb2), (lk, listOf [.int kb0.toNat tk0, .int kb1.toNat tk1, .int kb2.toNat tk2].toArray ck), (dDB, oDB), (x, instObj 235 dx), (dx, odT), (f, fo), (c, occ), (dS, oS), (D1, listOf ws.toArray 0), (cl, ocl)] ++ own))
    (g0 : tag lo = 0) (g1 : tag ow0 = 1) (g2 : tag dw0 = 2) (g3 : tag lb0 = 3) (g4 : tag ow1 = 4) (g5 : tag dw1 = 5) (g6 : tag lb1 = 6) (g7 : tag ow2 = 7) (g8 : tag dw2 = 8) (g9 : tag lb2 = 9) (g10 : tag lk = 10) (g11 : tag dDB = 11) (g12 : tag x = 12) (g13 : tag dx = 13) (g14 : tag f = 14) (g15 : tag c = 15) (g16 : tag dS = 16) (g17 : tag D1 = 17) (g18 : tag cl = 18)
    (l1 : @LT.lt Nat _ cl D1 ∧ @LT.lt Nat _ D1 dS ∧ @LT.lt Nat _ dS c ∧ @LT.lt Nat _ c f ∧ @LT.lt Nat _ f dx ∧ @LT.lt Nat _ dx x ∧ @LT.lt Nat _ x dDB ∧ @LT.lt Nat _ dDB lk ∧ @LT.lt Nat _ lk dw0 ∧ @LT.lt Nat _ dw0 ow0 ∧ @LT.lt Nat _ lk dw1 ∧ @LT.lt Nat _ dw1 ow1 ∧ @LT.lt Nat _ lk dw2 ∧ @LT.lt Nat _ dw2 ow2)
    (hown : OwnOff own [lo, ow0, dw0, lb0, ow1, dw1, lb1, ow2, dw2, lb2, lk, dDB, x, dx, f, c, dS, D1, cl])
    (HS : HashSpec w p loose mean mg mb [(f, fo), (c, occ), (cl, ocl)] f dS) (hf : IsFnIn f [(f, fo), (c, occ), (cl, ocl)])
    (hO0 : OwnD w f lb0 kb0 (V kb0.toNat) od0) (hvs0 : BytesAre vs0 (brn S V kb0.toNat)) (hvl0 : vs0.length = 8) (hO1 : OwnD w f lb1 kb1 (V kb1.toNat) od1) (hvs1 : BytesAre vs1 (brn S V kb1.toNat)) (hvl1 : vs1.length = 8) (hO2 : OwnD w f lb2 kb2 (V kb2.toNat) od2) (hvs2 : BytesAre vs2 (brn S V kb2.toNat)) (hvl2 : vs2.length = 8)
    (hT : TreeD w f dDB root odT) (hD : DbObj w oDB D nD) (hS : SeenObj w oS S) (G : Good S D root V) (hlS : S.length ≤ 900) (hnD : nD ≤ 1000)
    (ret : ∀ h' tk' oS' od0' od1' od2' vs0' vs1' vs2' m' oDB' odT' D' S' r (pb : UInt8) (v : Array UInt8), Fr h₀ L h' m' → Same (Str.ofString "who" :: Str.ofString "what" :: Str.ofString "key" :: Str.ofString "due" :: Str.ofString "root" :: Str.ofString "told" :: six) m m' →
      News h₀ L h' ([(lo, listOf [.ref ow0, .ref ow1, .ref ow2].toArray co), (ow0, instObj 132 dw0), (dw0, od0'), (lb0, listOf vs0'.toArray cb0), (ow1, instObj 132 dw1), (dw1, od1'), (lb1, listOf vs1'.toArray cb1), (ow2, instObj 132 dw2), (dw2, od2'), (lb2, listOf vs2'.toArray cb2), (lk, listOf [.int kb0.toNat tk0, .int kb1.toNat tk1, .int kb2.toNat tk2].toArray ck), (dDB, oDB'), (x, instObj 235 dx), (dx, odT'), (f, fo), (c, occ), (dS, oS'), (D1, listOf ws.toArray 0), (cl, ocl)] ++ own) → SeenObj w oS' S' → S'.length ≤ S.length + 9 → TreeD w f dDB r odT' → DbObj w oDB' D' (nD + 9) → Good S' D' r (upd V pb.toNat v) →
      OwnD w f lb0 kb0 ((upd V pb.toNat v) kb0.toNat) od0' → BytesAre vs0' (brn S' (upd V pb.toNat v) kb0.toNat) → vs0'.length = 8 → OwnD w f lb1 kb1 ((upd V pb.toNat v) kb1.toNat) od1' → BytesAre vs1' (brn S' (upd V pb.toNat v) kb1.toNat) → vs1'.length = 8 → OwnD w f lb2 kb2 ((upd V pb.toNat v) kb2.toNat) od2' → BytesAre vs2' (brn S' (upd V pb.toNat v) kb2.toNat) → vs2'.length = 8 → Q .next { s with heap := h', toks := tk' }) :
    wpAny (model Challenge.rw_bi0032_01.row.prog w) (callerA.deeper (envOfC ln ls L fa (.ref 250))) (execs drest (envOfC ln ls L fa (.ref 250))) Q (fun _ _ => False) s := by
  have hoff : ∀ q ∈ [(f, fo), (c, occ), (cl, ocl)], q.1 ≠ dS ∧ q.1 ≠ dx ∧ q.1 ≠ x ∧ q.1 ≠ dDB := by
    intro q hq
    simp only [List.mem_cons, List.not_mem_nil, or_false] at hq
    rcases hq with rfl | rfl | rfl <;> (dsimp only; refine ⟨?_, ?_, ?_, ?_⟩ <;> (show @Ne Nat _ _; omega))
  have hoff1 : ∀ q ∈ [(f, fo), (c, occ), (cl, ocl)], q.1 ≠ dS := fun q hq => (hoff q hq).1
  have hlaw2 : Stop _ := hlaw
  have X0 := X; revert X; k_fill; intro X
  refine' absorbK hlaw ?k ?_
  case k => k_is
  intro e
  cases e
  clear hlaw
  dsimp only [List.cons_append, List.nil_append] at N
  have em := ovr_self hm
  rw [← em] at F
  k_steps
  · skip
    (with_reducible rename Fr _ _ _ _ => F9)
    (with_reducible rename News _ _ _ _ => N9)
    (rename _ ∨ _ => hw9)
    refine Stop.out ?_
    refine' deed_h2 (own := own) (tag := tag) (V := V) hlaw2 B X0 T hW hn hkk F9 ?hm9x0 ?N9x0 g0 g1 g2 g3 g4 g5 g6 g7 g8 g9 g10 g11 g12 g13 g14 g15 g16 g17 g18 l1 hown HS hf hO0 hvs0 hvl0 hO1 hvs1 hvl1 hO2 hvs2 hvl2 hT hD hS G ?hv9x0 hlS hnD ?hw9x0 ?ret9x0
    case hm9x0 => exact List.forall_mem_cons.mpr ⟨rfl, List.forall_mem_cons.mpr ⟨rfl, List.forall_mem_cons.mpr ⟨rfl, List.forall_mem_cons.mpr ⟨rfl, List.forall_mem_cons.mpr ⟨rfl, List.forall_mem_cons.mpr ⟨rfl, List.forall_mem_cons.mpr ⟨rfl, List.forall_mem_cons.mpr ⟨rfl, List.forall_mem_cons.mpr ⟨rfl, fun _ h => absurd h List.not_mem_nil⟩⟩⟩⟩⟩⟩⟩⟩⟩
    case N9x0 =>
      dsimp only [List.cons_append, List.nil_append]
      (repeat refine List.forall_mem_cons.mpr ⟨N9 _ (by k_mem), ?_⟩)
      exact fun p hp => N9 p (by walk_at "m_tailL")
    case hv9x0 => assumption
    case hw9x0 => rcases hw9 with h | h | h; exact .inl h; exact .inr (.inl h); exact .inr (.inr (.inl h))
    case ret9x0 =>
    intro h' tk' oS' od0' od1' od2' vs0' vs1' vs2' m' oDB' odT' D' S' r F s9 N hS hl9 hT9 hD9 hG9 a0 b0 c0 a1 b1 c1 a2 b2 c2
    refine' ret h' tk' oS' od0' od1' od2' vs0' vs1' vs2' m' oDB' odT' D' S' r _ _ F ?samex0 N hS hl9 hT9 hD9 hG9 a0 b0 c0 a1 b1 c1 a2 b2 c2
    case samex0 =>
      refine Same.trans (m' := _) (fun z hz => ?_) (Same.of s9 fun z hz => .tail _ (.tail _ (.tail _ hz)))
      simp only [List.mem_cons, not_or] at hz
      simp only [hz.1, hz.2.1, hz.2.2.1, if_false]
      exact congrFun em z
  · skip
    (with_reducible rename Fr _ _ _ _ => F9)
    (with_reducible rename News _ _ _ _ => N9)
    rw [oct_of] at F9
    refine Stop.out ?_
    refine' deed_h2 (own := own) (tag := tag) (V := V) hlaw2 B X0 T hW hn hkk F9 ?hm9x1 ?N9x1 g0 g1 g2 g3 g4 g5 g6 g7 g8 g9 g10 g11 g12 g13 g14 g15 g16 g17 g18 l1 hown HS hf hO0 hvs0 hvl0 hO1 hvs1 hvl1 hO2 hvs2 hvl2 hT hD hS G ?hv9x1 hlS hnD ?hw9x1 ?ret9x1
    case hm9x1 => exact List.forall_mem_cons.mpr ⟨rfl, List.forall_mem_cons.mpr ⟨rfl, List.forall_mem_cons.mpr ⟨rfl, List.forall_mem_cons.mpr ⟨rfl, List.forall_mem_cons.mpr ⟨rfl, List.forall_mem_cons.mpr ⟨rfl, List.forall_mem_cons.mpr ⟨rfl, List.forall_mem_cons.mpr ⟨rfl, List.forall_mem_cons.mpr ⟨rfl, fun _ h => absurd h List.not_mem_nil⟩⟩⟩⟩⟩⟩⟩⟩⟩
    case N9x1 =>
      dsimp only [List.cons_append, List.nil_append]
      (repeat refine List.forall_mem_cons.mpr ⟨N9 _ (by k_mem), ?_⟩)
      exact fun p hp => N9 p (by walk_at "m_tailL")
    case hv9x1 => assumption
    case hw9x1 => exact .inr (.inr (.inr (by omega)))
    case ret9x1 =>
    intro h' tk' oS' od0' od1' od2' vs0' vs1' vs2' m' oDB' odT' D' S' r F s9 N hS hl9 hT9 hD9 hG9 a0 b0 c0 a1 b1 c1 a2 b2 c2
    refine' ret h' tk' oS' od0' od1' od2' vs0' vs1' vs2' m' oDB' odT' D' S' r _ _ F ?samex1 N hS hl9 hT9 hD9 hG9 a0 b0 c0 a1 b1 c1 a2 b2 c2
    case samex1 =>
      refine Same.trans (m' := _) (fun z hz => ?_) (Same.of s9 fun z hz => .tail _ (.tail _ (.tail _ hz)))
      simp only [List.mem_cons, not_or] at hz
      simp only [hz.1, hz.2.1, hz.2.2.1, if_false]
      exact congrFun em z
end Mine
theorem Mine.freshLawH1 : True ∧ True := by w_top off; first | (walk1; all_goals trivial) | exact ⟨trivial, trivial⟩
-- part LoopX
namespace Mine
open PySem PySem.W PyProof.Rows PySem.Calls
theorem rng2 {n : Nat} (h1 : 1 ≤ n) (h5 : n ≤ 5) : Builtin.Range.small 3 (3 + 2 * (n : Int)) 2 = true ∧ Builtin.Range.rangeSize 3 (3 + 2 * (n : Int)) 2 = ((n : Int) - ((0 : Nat) : Int)) := by
  have : n = 1 ∨ n = 2 ∨ n = 3 ∨ n = 4 ∨ n = 5 := by omega
  rcases this with rfl | rfl | rfl | rfl | rfl <;> exact ⟨by decide, by decide⟩
theorem iter_rng2 {prog : Program} {w : World} {A : Around} {E : Value → Shared → Prop} {s : Shared} {env : Env} {h₀ : Heap} {x : Str} {body : List Stmt} {Q : Flow → Shared → Prop}
    {r : Addr} {e : Int} {t₀ u₀ v₀ : Tok} {m₀ : Str → Option Value} {news : List (Addr × Obj)} (J : Nat → (Str → Option Value) → List (Addr × Obj) → Prop)
    (hh : A.handled = none) (hr : IsRange s.heap r 3 (3 + 2 * e) 2 t₀ u₀ v₀) (he : 1 ≤ e ∧ e ≤ 5) {hp : Heap} (F0 : Fr h₀ env.locals hp m₀) (N0 : News h₀ env.locals hp news) (hk : ∀ b o, hp.get? b = some o → s.heap.get? b = some o) (hj : J 0 m₀ news)
    (turn : ∀ i t m₁ nx h tk own, i < 5 → nx.map (·.1) = news.map (·.1) → OwnOff own (news.map (·.1)) → J i m₁ nx → Fr h₀ env.locals h (fun y => if y = x then some (.int ((3 + 2 * i : Nat) : Int) t) else m₁ y) → News h₀ env.locals h (nx ++ own) →
      wpAny (model prog w) A (execs body env) (InvPostN h₀ env.locals (J (i + 1)) own (news.map (·.1)) { s with heap := h, toks := tk } Q) E { s with heap := h, toks := tk })
    (done : ∀ m₁ nx h tk, J e.toNat m₁ nx → Fr h₀ env.locals h m₁ → News h₀ env.locals h nx → Q .next { s with heap := h, toks := tk }) :
    wpAny (model prog w) A (pyIter (.ref r)) (fun it s₂ => LoopAtV prog w A h₀ env x body Q E it s₂) E s := by
  obtain ⟨n, rfl⟩ : ∃ n : Nat, e = (n : Int) := ⟨e.toNat, by omega⟩
  have hn1 : 1 ≤ n := by omega
  have hn5 : n ≤ 5 := by omega
  obtain ⟨hsm, hsz⟩ := rng2 hn1 hn5
  have F : Fr h₀ env.locals s.heap m₀ := F0.keeps hk
  have N : News h₀ env.locals s.heap news := fun p hp => ⟨hk _ _ (N0 p hp).1, (N0 p hp).2⟩
  refine wpAny_pyIter_range hr hsm ?_
  rw [hsz]
  have W : Walks prog w A s.heap.objs.size [s.heap.objs.size] [s.heap.objs.size] n (fun i v => i < n ∧ ∃ t, v = .int (3 + i * 2) t)
      (fun i h => IsRangeIter h s.heap.objs.size (3 + (i : Nat) * 2) ((n : Int) - (i : Nat)) 2) := (Walks.range hh _ 3 2 n).bound
  refine loop_invN J W ?_ ?_ ?_ ?_ (by show IsRangeIter _ _ _ _ _; exact Heap.get?_push_size _ rfl) (F.push _) (fun p hp => ⟨Heap.get?_push_of_some _ (N p hp).1, (N p hp).2⟩) hj ?_ done
  · intro hm
    exact absurd F.ns.lt ((List.mem_singleton.mp hm) ▸ Nat.lt_irrefl _)
  · intro b hb
    rw [List.mem_singleton.mp hb]
    exact next_is_new F
  · intro p hp hI
    exact absurd (Heap.lt_size (N p hp).1) ((List.mem_singleton.mp hI) ▸ Nat.lt_irrefl _)
  · intro p hp hI
    exact absurd (Heap.lt_size (N p hp).1) ((List.mem_singleton.mp hI) ▸ Nat.lt_irrefl _)
  · rintro i v m₁ nx h tk own hi ⟨_, t, rfl⟩
    have e : (3 + (i : Int) * 2) = ((3 + 2 * i : Nat) : Int) := by omega
    rw [e]
    exact turn i t m₁ nx h tk own (by omega)
end Mine
theorem Mine.freshLoopX : True ∧ True := by w_top off; first | (walk1; all_goals trivial) | exact ⟨trivial, trivial⟩
-- part LawL
namespace Mine
open PySem PySem.W PyProof.Rows PySem.Calls
local macro_rules | `(tactic| walk_at "m_memL") => `(tactic| (repeat (first | exact List.Mem.head _ | apply List.Mem.tail)))
def JDeed (w : World) (lo ow0 dw0 lb0 ow1 dw1 lb1 ow2 dw2 lb2 lk dDB x dx f c dS D1 cl P : Addr) (fo occ ocl oP : Obj) (ws : List Value) (kb0 kb1 kb2 : UInt8) (tk0 tk1 tk2 : Tok) (co ck cb0 cb1 cb2 : Nat) (m₀ : Str → Option Value) (i : Nat) (m : Str → Option Value) (nx : List (Addr × Obj)) : Prop :=
  ∃ oS oDB odT od0 od1 od2 vs0 vs1 vs2 S D root V, Same (Str.ofString "k" :: Str.ofString "who" :: Str.ofString "what" :: Str.ofString "key" :: Str.ofString "due" :: Str.ofString "root" :: Str.ofString "told" :: six) m₀ m ∧ nx = [(lo, listOf [.ref ow0, .ref ow1, .ref ow2].toArray co), (ow0, instObj 132 dw0), (dw0, od0), (lb0, listOf vs0.toArray cb0), (ow1, instObj 132 dw1), (dw1, od1), (lb1, listOf vs1.toArray cb1), (ow2, instObj 132 dw2), (dw2, od2), (lb2, listOf vs2.toArray cb2), (lk, listOf [.int kb0.toNat tk0, .int kb1.toNat tk1, .int kb2.toNat tk2].toArray ck), (dDB, oDB), (x, instObj 235 dx), (dx, odT), (f, fo), (c, occ), (dS, oS), (D1, listOf ws.toArray 0), (cl, ocl), (P, oP)] ∧ SeenObj w oS S ∧ S.length ≤ 36 + 9 * i ∧ TreeD w f dDB root odT ∧ DbObj w oDB D (36 + 9 * i) ∧ Good S D root V ∧
    OwnD w f lb0 kb0 (V kb0.toNat) od0 ∧ BytesAre vs0 (brn S V kb0.toNat) ∧ vs0.length = 8 ∧ OwnD w f lb1 kb1 (V kb1.toNat) od1 ∧ BytesAre vs1 (brn S V kb1.toNat) ∧ vs1.length = 8 ∧ OwnD w f lb2 kb2 (V kb2.toNat) od2 ∧ BytesAre vs2 (brn S V kb2.toNat) ∧ vs2.length = 8
theorem law_loop {w : World} {p : Program} {loose : List Str} {mean : ExcName → Option Value} {mg mb : Str → Option Value} {h₀ : Heap} {L fa : Addr} {s : Shared} {m : Str → Option Value} {Q : Flow → Shared → Prop}
    {oc : Value} {od : Option Addr} {ln lq : Str} {lp : Arguments} {ls : Scope} {dV kV doc pm cdv ct : Value} {an : Option Addr} {osl : Array (Option Value)} {s0 s1 s2 s3 s4 s5 s6 s7 s8 s9 s10 : Stmt} {rest : List Stmt}
    {tg0 : PySem.Expr} {it0 : PySem.Expr} {els0 : List Stmt} {pos0 : Pos}
    {lo ow0 dw0 lb0 ow1 dw1 lb1 ow2 dw2 lb2 lk dDB x dx f c dS D1 cl : Addr} {oDB odT fo occ oS ocl od0 od1 od2 : Obj} {vs0 vs1 vs2 ws : List Value} {ns : List Int} {kb0 kb1 kb2 : UInt8} {co ck cb0 cb1 cb2 : Nat} {S : Texts} {D : List UInt8 → Option (Array UInt8)} {root : Array UInt8}  {V : Nat → Array UInt8}
    {tk0 tk1 tk2 : Tok}  {drest : List Stmt} {r : Addr} {e : Int} {ta tb tc : Tok} {hp : Heap} {news : List (Addr × Obj)} {P : Addr} {oP : Obj}
    (hlaw : (hd.heap_39 w.params).lookup 251 = some ⟨oc, od, .func (fnOf ln lq lp (s0 :: s1 :: s2 :: s3 :: s4 :: s5 :: s6 :: s7 :: s8 :: s9 :: s10 :: Stmt.For tg0 it0 drest els0 pos0 :: rest) ls dV kV doc pm an cdv ct), osl⟩)
    (B : Below callerA h₀ [] h₀) (X : (hd.heap_39 w.params).In h₀) (T : Top p loose mean mg mb h₀)
    (hW : IntsAre ws ns) (hn : ns.length = 13)
    (hr : IsRange s.heap r 3 (3 + 2 * e) 2 ta tb tc) (he : 1 ≤ e ∧ e ≤ 5)
    (F : Fr h₀ L hp m) (hm : ∀ q ∈ [(Str.ofString "numbers", some (.ref D1)), (Str.ofString "tree", some (.ref x)), (Str.ofString "keys", some (.ref lk)), (Str.ofString "owners", some (.ref lo)), (Str.ofString "hash_of", some (.ref f))], m q.1 = q.2)
    (N : News h₀ L hp news) (hk : ∀ b o, hp.get? b = some o → s.heap.get? b = some o)
    (m_lo : (lo, listOf [.ref ow0, .ref ow1, .ref ow2].toArray co) ∈ news) (m_ow0 : (ow0, instObj 132 dw0) ∈ news) (m_dw0 : (dw0, od0) ∈ news) (m_lb0 : (lb0, listOf vs0.toArray cb0) ∈ news) (m_ow1 : (ow1, instObj 132 dw1) ∈ news) (m_dw1 : (dw1, od1) ∈ news) (m_lb1 : (lb1, listOf vs1.toArray cb1) ∈ news) (m_ow2 : (ow2, instObj 132 dw2) ∈ news) (m_dw2 : (dw2, od2) ∈ news) (m_lb2 : (lb2, listOf vs2.toArray cb2) ∈ news) (m_lk : (lk, listOf [.int kb0.toNat tk0, .int kb1.toNat tk1, .int kb2.toNat tk2].toArray ck) ∈ news) (m_dDB : (dDB, oDB) ∈ news) (m_x : (x, instObj 235 dx) ∈ news) (m_dx : (dx, odT) ∈ news) (m_f : (f, fo) ∈ news) (m_c : (c, occ) ∈ news) (m_dS : (dS, oS) ∈ news) (m_D1 : (D1, listOf ws.toArray 0) ∈ news) (m_cl : (cl, ocl) ∈ news)
    (m_P : (P, oP) ∈ news) (hP : ∀ b ∈ [lo, ow0, dw0, lb0, ow1, dw1, lb1, ow2, dw2, lb2, lk, dDB, x, dx, f, c, dS, D1, cl], P ≠ b)
    (hnd : [lo, ow0, dw0, lb0, ow1, dw1, lb1, ow2, dw2, lb2, lk, dDB, x, dx, f, c, dS, D1, cl].Nodup)
    (l1 : @LT.lt Nat _ cl D1 ∧ @LT.lt Nat _ D1 dS ∧ @LT.lt Nat _ dS c ∧ @LT.lt Nat _ c f ∧ @LT.lt Nat _ f dx ∧ @LT.lt Nat _ dx x ∧ @LT.lt Nat _ x dDB ∧ @LT.lt Nat _ dDB lk ∧ @LT.lt Nat _ lk dw0 ∧ @LT.lt Nat _ dw0 ow0 ∧ @LT.lt Nat _ lk dw1 ∧ @LT.lt Nat _ dw1 ow1 ∧ @LT.lt Nat _ lk dw2 ∧ @LT.lt Nat _ dw2 ow2)
    (HS : HashSpec w p loose mean mg mb [(f, fo), (c, occ), (cl, ocl)] f dS) (hf : IsFnIn f [(f, fo), (c, occ), (cl, ocl)])
    (hO0 : OwnD w f lb0 kb0 #[kb0] od0) (hV0 : V kb0.toNat = #[kb0]) (hvs0 : BytesAre vs0 (brn S V kb0.toNat)) (hvl0 : vs0.length = 8) (hO1 : OwnD w f lb1 kb1 #[kb1] od1) (hV1 : V kb1.toNat = #[kb1]) (hvs1 : BytesAre vs1 (brn S V kb1.toNat)) (hvl1 : vs1.length = 8) (hO2 : OwnD w f lb2 kb2 #[kb2] od2) (hV2 : V kb2.toNat = #[kb2]) (hvs2 : BytesAre vs2 (brn S V kb2.toNat)) (hvl2 : vs2.length = 8)
    (hT : TreeD w f dDB root odT) (hD : DbObj w oDB D 36) (hS : SeenObj w oS S) (G : Good S D root V) (hlS : S.length ≤ 36)
    (done : ∀ h' tk' m', Fr h₀ L h' m' → News h₀ L h' [(P, oP)] → Q .next { s with heap := h', toks := tk' }) :
    wpAny (model Challenge.rw_bi0032_01.row.prog w) (callerA.deeper (envOfC ln ls L fa (.ref 250))) (pyIter (.ref r)) (fun it s₂ => LoopAtV Challenge.rw_bi0032_01.row.prog w (callerA.deeper (envOfC ln ls L fa (.ref 250))) h₀ (envOfC ln ls L fa (.ref 250)) (Str.ofString "k") drest Q (fun _ _ => False) it s₂) (fun _ _ => False) s := by
  have N19 : News h₀ L hp [(lo, listOf [.ref ow0, .ref ow1, .ref ow2].toArray co), (ow0, instObj 132 dw0), (dw0, od0), (lb0, listOf vs0.toArray cb0), (ow1, instObj 132 dw1), (dw1, od1), (lb1, listOf vs1.toArray cb1), (ow2, instObj 132 dw2), (dw2, od2), (lb2, listOf vs2.toArray cb2), (lk, listOf [.int kb0.toNat tk0, .int kb1.toNat tk1, .int kb2.toNat tk2].toArray ck), (dDB, oDB), (x, instObj 235 dx), (dx, odT), (f, fo), (c, occ), (dS, oS), (D1, listOf ws.toArray 0), (cl, ocl), (P, oP)] := List.forall_mem_cons.mpr ⟨N _ m_lo, List.forall_mem_cons.mpr ⟨N _ m_ow0, List.forall_mem_cons.mpr ⟨N _ m_dw0, List.forall_mem_cons.mpr ⟨N _ m_lb0, List.forall_mem_cons.mpr ⟨N _ m_ow1, List.forall_mem_cons.mpr ⟨N _ m_dw1, List.forall_mem_cons.mpr ⟨N _ m_lb1, List.forall_mem_cons.mpr ⟨N _ m_ow2, List.forall_mem_cons.mpr ⟨N _ m_dw2, List.forall_mem_cons.mpr ⟨N _ m_lb2, List.forall_mem_cons.mpr ⟨N _ m_lk, List.forall_mem_cons.mpr ⟨N _ m_dDB, List.forall_mem_cons.mpr ⟨N _ m_x, List.forall_mem_cons.mpr ⟨N _ m_dx, List.forall_mem_cons.mpr ⟨N _ m_f, List.forall_mem_cons.mpr ⟨N _ m_c, List.forall_mem_cons.mpr ⟨N _ m_dS, List.forall_mem_cons.mpr ⟨N _ m_D1, List.forall_mem_cons.mpr ⟨N _ m_cl, List.forall_mem_cons.mpr ⟨N _ m_P, News.nil⟩⟩⟩⟩⟩⟩⟩⟩⟩⟩⟩⟩⟩⟩⟩⟩⟩⟩⟩⟩
  refine' iter_rng2 (m₀ := m) (JDeed w lo ow0 dw0 lb0 ow1 dw1 lb1 ow2 dw2 lb2 lk dDB x dx f c dS D1 cl P fo occ ocl oP ws kb0 kb1 kb2 tk0 tk1 tk2 co ck cb0 cb1 cb2 m) rfl hr he F N19 hk ?j ?turn ?done
  case j => exact ⟨oS, oDB, odT, od0, od1, od2, vs0, vs1, vs2, S, D, root, V, Same.refl _ _, rfl, hS, hlS, hT, hD, G, hO0.to hV0.symm, hvs0, hvl0, hO1.to hV1.symm, hvs1, hvl1, hO2.to hV2.symm, hvs2, hvl2⟩
  case turn =>
    intro i t m₁ nx h tk own hi hnx hown hJ F₁ N₁
    obtain ⟨oS, oDB, odT, od0, od1, od2, vs0, vs1, vs2, S, D, root, V, sm, rfl, hS, hlS, hT, hD, G, hO0, hvs0, hvl0, hO1, hvs1, hvl1, hO2, hvs2, hvl2⟩ := hJ
    refine deed_turn (own := (P, oP) :: own) (tag := fun a => [lo, ow0, dw0, lb0, ow1, dw1, lb1, ow2, dw2, lb2, lk, dDB, x, dx, f, c, dS, D1, cl].idxOf a) (kk := 3 + 2 * i) hlaw B X T hW hn (by omega) F₁ (List.forall_mem_cons.mpr ⟨(if_neg (by decide : ¬ (Str.ofString "numbers" = Str.ofString "k"))).trans ((sm (Str.ofString "numbers") (by decide)).trans (hm _ (.head _))), List.forall_mem_cons.mpr ⟨if_pos rfl, List.forall_mem_cons.mpr ⟨(if_neg (by decide : ¬ (Str.ofString "tree" = Str.ofString "k"))).trans ((sm (Str.ofString "tree") (by decide)).trans (hm _ (.tail _ (.head _)))), List.forall_mem_cons.mpr ⟨(if_neg (by decide : ¬ (Str.ofString "keys" = Str.ofString "k"))).trans ((sm (Str.ofString "keys") (by decide)).trans (hm _ (.tail _ (.tail _ (.head _))))), List.forall_mem_cons.mpr ⟨(if_neg (by decide : ¬ (Str.ofString "owners" = Str.ofString "k"))).trans ((sm (Str.ofString "owners") (by decide)).trans (hm _ (.tail _ (.tail _ (.tail _ (.head _)))))), List.forall_mem_cons.mpr ⟨(if_neg (by decide : ¬ (Str.ofString "hash_of" = Str.ofString "k"))).trans ((sm (Str.ofString "hash_of") (by decide)).trans (hm _ (.tail _ (.tail _ (.tail _ (.tail _ (.head _))))))), fun _ h => absurd h List.not_mem_nil⟩⟩⟩⟩⟩⟩) N₁ (hnd.idxOf_getElem 0 (show 0 < 19 by decide)) (hnd.idxOf_getElem 1 (show 1 < 19 by decide)) (hnd.idxOf_getElem 2 (show 2 < 19 by decide)) (hnd.idxOf_getElem 3 (show 3 < 19 by decide)) (hnd.idxOf_getElem 4 (show 4 < 19 by decide)) (hnd.idxOf_getElem 5 (show 5 < 19 by decide)) (hnd.idxOf_getElem 6 (show 6 < 19 by decide)) (hnd.idxOf_getElem 7 (show 7 < 19 by decide)) (hnd.idxOf_getElem 8 (show 8 < 19 by decide)) (hnd.idxOf_getElem 9 (show 9 < 19 by decide)) (hnd.idxOf_getElem 10 (show 10 < 19 by decide)) (hnd.idxOf_getElem 11 (show 11 < 19 by decide)) (hnd.idxOf_getElem 12 (show 12 < 19 by decide)) (hnd.idxOf_getElem 13 (show 13 < 19 by decide)) (hnd.idxOf_getElem 14 (show 14 < 19 by decide)) (hnd.idxOf_getElem 15 (show 15 < 19 by decide)) (hnd.idxOf_getElem 16 (show 16 < 19 by decide)) (hnd.idxOf_getElem 17 (show 17 < 19 by decide)) (hnd.idxOf_getElem 18 (show 18 < 19 by decide)) l1 (offCons hP (fun p hp => List.forall_mem_cons.mpr ⟨hown p hp _ (by walk_at "m_memL"), List.forall_mem_cons.mpr ⟨hown p hp _ (by walk_at "m_memL"), List.forall_mem_cons.mpr ⟨hown p hp _ (by walk_at "m_memL"), List.forall_mem_cons.mpr ⟨hown p hp _ (by walk_at "m_memL"), List.forall_mem_cons.mpr ⟨hown p hp _ (by walk_at "m_memL"), List.forall_mem_cons.mpr ⟨hown p hp _ (by walk_at "m_memL"), List.forall_mem_cons.mpr ⟨hown p hp _ (by walk_at "m_memL"), List.forall_mem_cons.mpr ⟨hown p hp _ (by walk_at "m_memL"), List.forall_mem_cons.mpr ⟨hown p hp _ (by walk_at "m_memL"), List.forall_mem_cons.mpr ⟨hown p hp _ (by walk_at "m_memL"), List.forall_mem_cons.mpr ⟨hown p hp _ (by walk_at "m_memL"), List.forall_mem_cons.mpr ⟨hown p hp _ (by walk_at "m_memL"), List.forall_mem_cons.mpr ⟨hown p hp _ (by walk_at "m_memL"), List.forall_mem_cons.mpr ⟨hown p hp _ (by walk_at "m_memL"), List.forall_mem_cons.mpr ⟨hown p hp _ (by walk_at "m_memL"), List.forall_mem_cons.mpr ⟨hown p hp _ (by walk_at "m_memL"), List.forall_mem_cons.mpr ⟨hown p hp _ (by walk_at "m_memL"), List.forall_mem_cons.mpr ⟨hown p hp _ (by walk_at "m_memL"), List.forall_mem_cons.mpr ⟨hown p hp _ (by walk_at "m_memL"), fun _ h => absurd h List.not_mem_nil⟩⟩⟩⟩⟩⟩⟩⟩⟩⟩⟩⟩⟩⟩⟩⟩⟩⟩⟩)) HS hf hO0 hvs0 hvl0 hO1 hvs1 hvl1 hO2 hvs2 hvl2 hT hD hS G (by omega) (by omega) ?_
    intro h' tk' oS' od0' od1' od2' vs0' vs1' vs2' m' oDB' odT' D' S' r' pb v F s9 N hS' hl9 hT9 hD9 hG9 a0 b0 c0 a1 b1 c1 a2 b2 c2
    refine invEndL [] [(lo, listOf [Value.ref ow0, Value.ref ow1, Value.ref ow2].toArray co), (ow0, instObj 132 dw0), (dw0, od0'), (lb0, listOf vs0'.toArray cb0), (ow1, instObj 132 dw1), (dw1, od1'), (lb1, listOf vs1'.toArray cb1), (ow2, instObj 132 dw2), (dw2, od2'), (lb2, listOf vs2'.toArray cb2), (lk, listOf [Value.int kb0.toNat tk0, Value.int kb1.toNat tk1, Value.int kb2.toNat tk2].toArray ck), (dDB, oDB'), (x, instObj 235 dx), (dx, odT'), (f, fo), (c, occ), (dS, oS'), (D1, listOf ws.toArray 0), (cl, ocl), (P, oP)] own (.inl rfl) ⟨_, _, rfl⟩ F N rfl ⟨oS', oDB', odT', od0', od1', od2', vs0', vs1', vs2', S', D', r', _, ?_, rfl, hS', by omega, hT9, ?_, hG9, a0, b0, c0, a1, b1, c1, a2, b2, c2⟩
    · refine Same.trans sm (Same.trans (m' := _) (fun z hz => ?_) (Same.of s9 fun z hz => .tail _ hz))
      simp only [List.mem_cons, not_or] at hz
      exact if_neg hz.1
    · have e9 : 36 + 9 * (i + 1) = 36 + 9 * i + 9 := by omega
      rw [e9]; exact hD9
  case done =>
    intro m₁ nx h tk hJ F₁ N₁
    obtain ⟨oS, oDB, odT, od0, od1, od2, vs0, vs1, vs2, S, D, root, V, sm, rfl, _⟩ := hJ
    exact done h tk m₁ F₁ (fun p hp => N₁ p (by rw [List.mem_singleton.mp hp]; walk_at "m_memL"))
end Mine
theorem Mine.freshLawL : True ∧ True := by w_top off; first | (walk1; all_goals trivial) | exact ⟨trivial, trivial⟩
-- part LawB2x
namespace Mine
open PySem PySem.W PyProof.Rows PySem.Calls
local macro_rules | `(tactic| k_lt $h:ident) => `(tactic| skip)
local macro_rules | `(tactic| k_ne) => `(tactic| ((try dsimp only); first
  | (refine' ne_lt_l ?q9h ?q9m; (case q9h => with_reducible assumption); (case q9m => k_dflt k_mem))
  | (refine' ne_lt_r ?q9h ?q9m; (case q9h => with_reducible assumption); (case q9m => k_dflt k_mem))
  | (refine' ne_tr_l ?q9l ?q9h ?q9m; (case q9l => with_reducible assumption); (case q9h => with_reducible assumption); (case q9m => k_dflt k_mem))
  | (refine' ne_tr_r ?q9l ?q9h ?q9m; (case q9l => with_reducible assumption); (case q9h => with_reducible assumption); (case q9m => k_dflt k_mem))
  | (refine' ne_ne_l ?q9h ?q9m; (case q9h => with_reducible assumption); (case q9m => k_dflt k_mem))
  | (refine' ne_ne_r ?q9h ?q9m; (case q9h => with_reducible assumption); (case q9m => k_dflt k_mem))
  | (refine neN ?_; (try dsimp only); omega)))
local macro_rules | `(tactic| k_room) => `(tactic| ((simp only [depth_under_make, depth_under_kw, depth_in1, depth_deeper, depth_caller]); (try dsimp only [AA] at *); omega))
local macro_rules | `(tactic| k_units) => `(tactic| ((simp only [units_in1, units_deeper, Around.mark_units, units_caller]); (try dsimp only [AA] at *); omega))
-- enter a def of the top with the ledger at hand
local macro_rules | `(tactic| walk_at "m_enter") => `(tactic| (
  refine' call_subK (by assumption) (by assumption) ?q9k1 ?q9k2 ?q9k3 ?q9k4 ?q9k5 ?_ ?q9k6 ?q9k7 ?q9k8 ?q9k9
  (case q9k1 => k_is)
  (case q9k2 => k_is)
  (case q9k3 => k_room)
  (case q9k4 => exact BindsTo.of_eq rfl)
  (case q9k5 => exact locs rfl)
  (case q9k6 => decide)
  (case q9k7 => exact rfl)
  (case q9k8 => exact rfl)
  (case q9k9 => exact rfl)))
-- the caller's context
local macro_rules | `(tactic| walk_at "m_cx") => `(tactic| k_dflt (
  refine' mkCx ?q9F ?q9B ?q9X ?q9T ?q9a ?q9b ?q9c
  (case q9F => k_asm)
  (case q9B => k_asm)
  (case q9X => k_asm)
  (case q9T => k_asm)
  (case q9a => exact rfl)
  (case q9b => exact rfl)
  (case q9c => exact rfl)))
local macro_rules | `(tactic| walk_at "m_depth") => `(tactic| ((simp only [depth_mark, depth_under_make, depth_under_kw, depth_in1, depth_deeper, depth_caller]); first | (dsimp only [AA]; omega) | omega | decide))
local macro_rules | `(tactic| walk_at "m_unit") => `(tactic| first | ((simp only [units_in1, units_deeper, Around.mark_units, units_caller]); first | (dsimp only [AA]; omega) | omega | decide) | exact Nat.le_of_ble_eq_true rfl)
local macro_rules | `(tactic| walk_at "call ref") => `(tactic| (k_here; first
  | ((with_reducible show wpAny _ _ (call (Value.ref 62) [Value.bytes _ _]) _ _ _); k_dflt (refine' vib_spec ?q9C ?q9d ?q9u ?q9N ?_); (case q9C => walk_at "m_cx"); (case q9d => walk_at "m_depth"); (case q9u => walk_at "m_unit"); (case q9N => k_asm); intro h' tk' F' N' _; (try k_sweep))
  | ((with_reducible show wpAny _ _ (call (Value.ref 35) [_, _]) _ _ _); k_dflt (refine' cast_spec ?q9C ?q9d ?q9u ?q9N ?_); (case q9C => walk_at "m_cx"); (case q9d => walk_at "m_depth"); (case q9u => walk_at "m_unit"); (case q9N => k_asm); intro h' tk' F' N' _; (try k_sweep))
  | ((with_reducible show wpAny _ _ (call (Value.ref 42) [Value.bytes _ _]) _ _ _); k_dflt (refine' toint_spec ?q9C ?q9d ?q9u ?q9N ?_); (case q9C => walk_at "m_cx"); (case q9d => walk_at "m_depth"); (case q9u => walk_at "m_unit"); (case q9N => k_asm); intro h' tk' t' F' N' _; (try k_sweep))
  | ((with_reducible show wpAny _ _ (call (Value.ref 69) [Value.bytes _ _, _]) _ _ _); k_dflt (refine' vlb_spec ?q9C ?q9d ?q9u ?q9N ?_); (case q9C => walk_at "m_cx"); (case q9d => walk_at "m_depth"); (case q9u => walk_at "m_unit"); (case q9N => k_asm); intro h' tk' F' N' _; (try k_sweep))
  | ((with_reducible show wpAny _ _ (call (Value.ref 69) [Value.ref _, _]) _ _ _); k_dflt (refine' vlt_spec ?q9C ?q9d ?q9u ?q9N ?q9t ?q9n ?_); (case q9C => walk_at "m_cx"); (case q9d => walk_at "m_depth"); (case q9u => walk_at "m_unit"); (case q9N => k_asm); (case q9t => exact IsTup.keeps (by assumption) (Fr.keep (by assumption))); (case q9n => assumption); intro h' tk' F' N' _; (try k_sweep))))
local macro_rules | `(tactic| walk_at "m_fn") => `(tactic| k_dflt (exact IsFnIn.at (by assumption) (AllAt.keeps (by assumption) (Fr.keep (by assumption)))))
local macro_rules | `(tactic| walk_at "m_all") => `(tactic| k_dflt (exact AllAt.keeps (by assumption) (Fr.keep (by assumption))))
local macro_rules | `(tactic| walk_at "FnAt") => `(tactic| walk_at "m_fn")
local macro_rules | `(tactic| walk_at "callWith ref") => `(tactic| (k_here; k_dflt (refine' callWith_F ?q9k1 ?_; (case q9k1 => walk_at "m_fn"))))
local macro_rules | `(tactic| walk_at "call ref") => `(tactic| (k_here; (with_reducible show wpAny _ _ (call (Value.ref _) [Value.bytes _ _]) _ _ _); k_dflt (refine' hash_use (by assumption) ?q9C ?q9d ?q9u ?q9N ?q9H ?q9U ?q9S ?q9l ?_); (case q9C => walk_at "m_cx"); (case q9d => walk_at "m_depth"); (case q9u => walk_at "m_unit"); (case q9N => k_asm); (case q9H => walk_at "m_all"); (case q9U => k_updF); (case q9S => k_asm); (case q9l => omega); intro h' oS' t' tk' F' N' hS' hl'; (try dsimp only at N'); (try k_sweep)))
local macro_rules | `(tactic| walk_at "binaryOp Add bytes bytes") => `(tactic| (k_here; (with_reducible show wpAny _ _ (binaryOp Operator.Add (Value.bytes _ _) (Value.bytes _ _)) _ _ _); (refine KBy.add_bytes (by omega) ?_); intro _ _))
local macro_rules | `(tactic| walk_at "call builtin:len") => `(tactic| (k_here; first
  | ((with_reducible show wpAny _ _ (call (Value.builtin "len") [Value.bytes _ _]) _ _ _); refine len_b1 ?_)
  | ((with_reducible show wpAny _ _ (call (Value.builtin "len") [Value.ref _]) _ _ _); refine len_tupB (by assumption) (by assumption) (by assumption) ?_)))

local macro_rules | `(tactic| walk_at "subscriptTail") => `(tactic| (k_here; (with_reducible show wpAny _ _ (subscriptTail _ _ (Value.ref _) (Value.bytes _ _)) _ _ _); k_dflt (refine' db_item ?q9N ?q9m ?q9D ?q9k ?_; (case q9N => k_asm); (case q9m => k_mem); (case q9D => k_asm); (case q9k => k_asm)); intro _ _))
local macro_rules | `(tactic| walk_at "subscriptTail") => `(tactic| (k_here; (with_reducible show wpAny _ _ (subscriptTail _ (Expr.Slice _ _ none _) (Value.bytes (_ ++ _) _) (Value.ref _)) _ _ _); (with_reducible rename Fr _ _ _ _ => F'); (with_reducible rename News _ _ _ _ => N'); k_dflt (first
  | (refine slice_lo (s := ⟨_, _, _, _, _⟩) F' N' (by assumption) (by assumption) ?_)
  | (refine slice_hi (s := ⟨_, _, _, _, _⟩) F' N' (by assumption) (by assumption) ?_)); intro _ _ _ F' N'; (try k_sweep)))
local macro_rules | `(tactic| walk_at "call builtin:list.append") => `(tactic| (k_here; (with_reducible show wpAny _ _ (call (Value.builtin _) [Value.ref _, _]) _ _ _); k_dflt (refine' append_L ?q9F ?q9N ?q9U ?_ ?q9z; (case q9F => k_asm); (case q9N => k_asm); (case q9U => k_updF); (case q9z => first | omega | exact Nat.le_of_ble_eq_true rfl)); intro h' F' N'; (try dsimp only [List.nil_append, List.cons_append] at N'); (try k_sweep)))
local macro_rules | `(tactic| walk_at "call type:tuple") => `(tactic| (k_here; (with_reducible show wpAny _ _ (call (Value.type "tuple") [Value.ref _]) _ _ _); k_dflt (refine' tuple_L ?q9F ?q9N ?q9m ?q9z ?_; (case q9F => k_asm); (case q9N => k_asm); (case q9m => k_mem); (case q9z => omega)); intro D' h' F' N' l1; (try k_lt l1); (try k_sweep)))

local macro_rules | `(tactic| walk_at "call type:tuple") => `(tactic| (k_here; (with_reducible show wpAny _ _ (call (Value.type "tuple") [Value.ref _]) _ _ _); k_dflt (refine' tuple_rev rfl ?q9F ?q9N ?q9I ?q9m ?q9z ?_; (case q9F => k_asm); (case q9N => k_asm); (case q9I => k_all); (case q9m => k_mem); (case q9z => omega)); intro D' h' tk' F' N' l1; (try k_lt l1); (try k_sweep)))
local macro_rules | `(tactic| walk_at "call type:reversed") => `(tactic| (k_here; (with_reducible show wpAny _ _ (call (Value.type "reversed") [Value.ref _]) _ _ _); k_dflt (first
  | (refine' rev_K ?q9F ?q9N ?q9t ?q9n ?_; (case q9F => k_asm); (case q9N => k_asm); (case q9t => assumption); (case q9n => assumption); intro D' h' tk' F' N' l1; (try k_lt l1); (try k_sweep))
  | (refine' rev_KN ?q9F ?q9N ?q9m ?q9n ?_; (case q9F => k_asm); (case q9N => k_asm); (case q9m => k_mem); (case q9n => assumption); intro D' h' tk' F' N' l1; (try k_lt l1); (try k_sweep))
  | (refine' revL_K ?q9F ?q9N ?q9m ?_; (case q9F => k_asm); (case q9N => k_asm); (case q9m => k_mem); intro D' h' F' N' l1; (try k_lt l1); (try k_sweep)))))
local macro_rules | `(tactic| walk_at "setItem ref bytes") => `(tactic| (k_here; k_dflt (refine' db_set ?q9F ?q9N ?q9U ?q9D ?q9n ?_; (case q9F => k_asm); (case q9N => k_asm); (case q9U => k_updF); (case q9D => k_asm); (case q9n => omega)); intro h' o' F' N' hD'; (try dsimp only at N'); (try k_sweep)))
local macro_rules | `(tactic| walk_at "call ref") => `(tactic| (k_here; (with_reducible show wpAny _ _ (call (Value.ref 183) [Value.ref _, Value.bytes _ _]) _ _ _); k_dflt (refine' get_spec ?q9C ?q9d ?q9u rfl ?q9N ?q9m1 ?q9m2 ?q9m3 ?q9T ?q9D ?q9W ?_; (case q9C => walk_at "m_cx"); (case q9d => walk_at "m_depth"); (case q9u => walk_at "m_unit"); (case q9N => k_asm); (case q9m1 => k_mem); (case q9m2 => k_mem); (case q9T => first | assumption | exact ⟨_, _, _, _, _, _, _, _, _, _, rfl⟩); (case q9m3 => k_mem); (case q9D => assumption); (case q9W => assumption)); intro h' Dt Db vs' tv tk' F' N' n1 n2 n3 K' hvs' hvl'; (try k_sweep)))

local macro_rules | `(tactic| walk_at "call builtin:list.insert") => `(tactic| (k_here; (with_reducible show wpAny _ _ (call (Value.builtin _) [Value.ref _, _, _]) _ _ _); k_dflt (refine' insert0_L ?q9F ?q9N ?q9U ?q9z ?_; (case q9F => k_asm); (case q9N => k_asm); (case q9U => k_updF); (case q9z => omega)); intro h' F' N'; (try dsimp only at N'); (try k_sweep)))

local macro_rules | `(tactic| walk_at "m_sub") => `(tactic| first | exact (fun _ h => absurd h (List.not_mem_nil)) | (refine List.forall_mem_cons.mpr ⟨by k_mem, ?_⟩; walk_at "m_sub"))
local macro_rules | `(tactic| walk_at "m_all") => `(tactic| k_dflt (exact allAt_news (by k_asm) (by walk_at "m_sub")))
local macro_rules | `(tactic| walk_at "m_fn") => `(tactic| k_dflt (exact IsFnIn.at (by assumption) (allAt_news (by k_asm) (by walk_at "m_sub"))))
local macro_rules | `(tactic| walk_at "call ref") => `(tactic| (k_here; first
  | ((with_reducible show wpAny _ _ (call (Value.ref 190) [Value.ref _, Value.bytes _ _, Value.bytes _ _]) _ _ _); k_dflt (refine' gset (by assumption) ?q9C ?q9d ?q9u rfl ?q9N ?q9m1 ?q9S ?q9T ?q9D ?q9G ?q9U1 ?q9U2 ?q9U3 ?q9n1 ?q9n2 ?q9n3 ?q9H ?q9o ?q9f ?q9nd ?q9l ?q9v ?_; (case q9C => walk_at "m_cx"); (case q9d => walk_at "m_depth"); (case q9u => walk_at "m_unit"); (case q9N => k_asm); (case q9m1 => k_mem); (case q9S => assumption); (case q9T => assumption); (case q9D => assumption); (case q9G => assumption); (case q9U1 => k_updF); (case q9U2 => intro _; k_updF); (case q9U3 => intro _ _; k_updF); (case q9H => walk_at "m_sub"); (case q9o => assumption); (case q9f => assumption); (case q9n1 => omega); (case q9n2 => omega); (case q9n3 => omega); (case q9nd => omega); (case q9l => omega); (case q9v => first | assumption | exact Nat.one_ne_zero | decide)); intro h' oS' od' oDB' Dt' vs' tk' S' D' root' F' N' n1 hS' hl' hT' hD' hG' hvl'; (try dsimp only at N'); (replace N' := news_tl N'); (clear n1); (have hT2 := hT'); (k_dflt (obtain ⟨_, _, _, _, _, _, _, _, _, _, e9⟩ := hT')); (subst e9); (try k_sweep))
  | ((with_reducible show wpAny _ _ (call (Value.ref 176) [Value.ref _, Value.bytes _ _]) _ _ _); k_dflt (refine' gbranch ?q9C ?q9d ?q9u rfl ?q9N ?q9m1 ?q9m2 ?q9T ?q9m3 ?q9D ?q9G ?_; (case q9C => walk_at "m_cx"); (case q9d => walk_at "m_depth"); (case q9u => walk_at "m_unit"); (case q9N => k_asm); (case q9m1 => k_mem); (case q9m2 => k_mem); (case q9T => assumption); (case q9m3 => k_mem); (case q9D => assumption); (case q9G => assumption)); intro h' Db' vs' tk' F' N' n1 hvs' hvl'; (try k_sweep))))
local macro_rules | `(tactic| walk_at "call ref") => `(tactic| (k_here; (with_reducible show wpAny _ _ (call (Value.ref 69) [Value.ref _, _]) _ _ _); k_dflt (refine' vlt_spec ?q9C ?q9d ?q9u ?q9N ?q9t ?q9n ?_; (case q9C => walk_at "m_cx"); (case q9d => walk_at "m_depth"); (case q9u => walk_at "m_unit"); (case q9N => k_asm); (case q9t => exact News.isTup (by k_asm) (by k_mem)); (case q9n => assumption)); intro h' tk' F' N' _; (try k_sweep)))
local macro_rules | `(tactic| walk_at "call builtin:len") => `(tactic| (k_here; (with_reducible show wpAny _ _ (call (Value.builtin "len") [Value.ref _]) _ _ _); k_dflt (refine' len_tupN8 ?q9N ?q9m ?q9n ?_; (case q9N => k_asm); (case q9m => k_mem); (case q9n => assumption))))
local macro_rules | `(tactic| walk_at "call type:bytes") => `(tactic| (k_here; (with_reducible show wpAny _ _ (call (Value.type "bytes") [Value.ref _]) _ _ _); k_dflt (refine' bytes1 ?q9F ?q9N ?q9h ?_; (case q9F => k_asm); (case q9N => k_asm); (case q9h => exact rfl)); intro h' t' tk' F' N'; (try k_sweep)))
local macro_rules | `(tactic| walk_at "call ref") => `(tactic| (k_here; (with_reducible show wpAny _ _ (call (Value.ref 132) [Value.bytes _ _, Value.bytes _ _, Value.ref _, Value.ref _]) _ _ _); k_dflt (refine' own_new ?q9C ?q9d ?q9u ?q9N ?q9m2 ?q9v ?_; (case q9C => walk_at "m_cx"); (case q9d => walk_at "m_depth"); (case q9u => walk_at "m_unit"); (case q9N => k_asm); (case q9m2 => k_mem); (case q9v => assumption)); intro h' x' d' lb' c' od' tk' F' N' l1 l2 n1 hO'; (try k_sweep)))
local macro_rules | `(tactic| walk_at "pyIter ref") => `(tactic| (k_here; (have : IsRange _ _ 3 _ 2 _ _ _ := (by assumption)); refine Stop.intro ?_))
theorem lt_of_all {a b : Addr} {o : Obj} {news : List (Addr × Obj)} (h : ∀ p ∈ news, p.1 < b) (hm : (a, o) ∈ news) : @LT.lt Nat _ a b := h _ hm
local macro_rules | `(tactic| walk_at "m_lt") => `(tactic| first | assumption | (refine' lt_of_all ?q9h ?q9m; (case q9h => with_reducible assumption); (case q9m => k_dflt k_mem)))
theorem upd3_0 {V : Nat → Array UInt8} {a b c : UInt8} : upd (upd (upd V a.toNat #[a]) b.toNat #[b]) c.toNat #[c] a.toNat = #[a] := by
  unfold upd
  split
  · rename_i h; rw [UInt8.toNat_inj.mp h]
  · split
    · rename_i h; rw [UInt8.toNat_inj.mp h]
    · rw [if_pos rfl]
theorem upd3_1 {V : Nat → Array UInt8} {a b c : UInt8} : upd (upd (upd V a.toNat #[a]) b.toNat #[b]) c.toNat #[c] b.toNat = #[b] := by
  unfold upd
  split
  · rename_i h; rw [UInt8.toNat_inj.mp h]
  · rw [if_pos rfl]
theorem upd3_2 {V : Nat → Array UInt8} {a b c : UInt8} : upd (upd (upd V a.toNat #[a]) b.toNat #[b]) c.toNat #[c] c.toNat = #[c] := by
  unfold upd
  rw [if_pos rfl]
theorem law_owners {w : World} {p : Program} {loose : List Str} {mean : ExcName → Option Value} {mg mb : Str → Option Value} {h₀ : Heap} {L fa : Addr} {s : Shared} {m₀ : Str → Option Value} {Q : Flow → Shared → Prop}
    {oc : Value} {od : Option Addr} {ln lq : Str} {lp : Arguments} {ls : Scope} {dV kV doc pm cdv ct : Value} {an : Option Addr} {osl : Array (Option Value)} {s0 s1 s2 s3 s4 s5 s6 s7 : Stmt} {rest : List Stmt}
    {dDB x dx f c dS D1 cl la lk P : Addr} {oDB odT fo occ oS ocl oP : Obj} {ws lvs : List Value} {ns xs : List Int} {kb0 kb1 kb2 : UInt8} {t0 t1 t2 : Tok} {ck : Nat} {S : Texts} {D : List UInt8 → Option (Array UInt8)} {root : Array UInt8} {nD : Nat} {V : Nat → Array UInt8}
    (hlaw : (hd.heap_39 w.params).lookup 251 = some ⟨oc, od, .func (fnOf ln lq lp (s0 :: s1 :: s2 :: s3 :: s4 :: s5 :: s6 :: s7 :: rest) ls dV kV doc pm an cdv ct), osl⟩)
    (hl : h₀.IsList la lvs.toArray) (hI : IntsAre lvs xs) (hxs : xs.length ≤ 63) (hW : IntsAre ws ns) (hn : ns.length = 13)
    (B : Below callerA h₀ [] h₀) (X : (hd.heap_39 w.params).In h₀) (T : Top p loose mean mg mb h₀)
    (F : Fr h₀ L s.heap (ovr m₀ [(Str.ofString "script", some (.ref la)), (Str.ofString "numbers", some (.ref D1)), (Str.ofString "hash_of", some (.ref f)), (Str.ofString "tree", some (.ref x)), (Str.ofString "keys", some (.ref lk))]))
    (N : News h₀ L s.heap [(lk, listOf [.int kb0.toNat t0, .int kb1.toNat t1, .int kb2.toNat t2].toArray ck), (dDB, oDB), (x, instObj 235 dx), (dx, odT), (f, fo), (c, occ), (dS, oS), (D1, listOf ws.toArray 0), (cl, ocl), (P, oP)])
    (HS : HashSpec w p loose mean mg mb [(f, fo), (c, occ), (cl, ocl)] f dS) (hf : IsFnIn f [(f, fo), (c, occ), (cl, ocl)])
    (l0 : @LT.lt Nat _ P cl) (l1 : @LT.lt Nat _ cl D1 ∧ @LT.lt Nat _ D1 dS ∧ @LT.lt Nat _ dS c ∧ @LT.lt Nat _ c f ∧ @LT.lt Nat _ f dx ∧ @LT.lt Nat _ dx x ∧ @LT.lt Nat _ x dDB ∧ @LT.lt Nat _ dDB lk)
    (hT : TreeD w f dDB root odT) (hD : DbObj w oDB D nD) (hS : SeenObj w oS S) (G : Good S D root V) (hlS : S.length ≤ 9) (hnD : nD = 9)
    (hQ : ∀ h' tk' m', Fr h₀ L h' m' → News h₀ L h' [(P, oP)] → Q (.ret (.bool true)) { s with heap := h', toks := tk' }) :
    wpAny (model Challenge.rw_bi0032_01.row.prog w) (callerA.deeper (envOfC ln ls L fa (.ref 250))) (execs rest (envOfC ln ls L fa (.ref 250))) Q (fun _ _ => False) s := by
  have hoff : ∀ q ∈ [(f, fo), (c, occ), (cl, ocl)], q.1 ≠ dS ∧ q.1 ≠ dx ∧ q.1 ≠ x ∧ q.1 ≠ dDB := by
    intro q hq
    simp only [List.mem_cons, List.not_mem_nil, or_false] at hq
    rcases hq with rfl | rfl | rfl <;> (dsimp only; refine ⟨?_, ?_, ?_, ?_⟩ <;> (show @Ne Nat _ _; omega))
  subst hnD
  have hlaw2 : Stop _ := hlaw
  have X0 := X; revert X; k_fill; intro X
  refine' absorbK hlaw ?k ?_
  case k => k_is
  intro e
  cases e
  clear hlaw
  have hT2 := hT
  obtain ⟨_, _, _, _, _, _, _, _, _, _, rfl⟩ := hT
  k_steps
  (with_reducible rename Fr _ _ _ _ => F9)
  (with_reducible rename News _ _ _ _ => N9)
  refine Stop.out ?_
  refine' law_loop (P := P) (oP := oP) (dDB := dDB) (dx := dx) (x := x) (f := f) (c := c) (dS := dS) (D1 := D1) (cl := cl) (lk := lk) (kb0 := kb0) (kb1 := kb1) (kb2 := kb2) hlaw2 B X0 T hW hn ?hr9 ?he9 F9 ?hm9 N9 (fun _ _ h => h) ?m_lo9 ?m_ow09 ?m_dw09 ?m_lb09 ?m_ow19 ?m_dw19 ?m_lb19 ?m_ow29 ?m_dw29 ?m_lb29 ?m_lk9 ?m_dDB9 ?m_x9 ?m_dx9 ?m_f9 ?m_c9 ?m_dS9 ?m_D19 ?m_cl9 ?m_P9 ?hP9 ?hnd9 ?l19 HS hf ?hO09 ?hV09 ?hvs09 ?hvl09 ?hO19 ?hV19 ?hvs19 ?hvl19 ?hO29 ?hV29 ?hvs29 ?hvl29 ?hT9 ?hD9 ?hS9 ?hG9 ?hl9 ?done9
  case hr9 => assumption
  case he9 => constructor <;> (split <;> (try split) <;> omega)
  case hm9 => exact List.forall_mem_cons.mpr ⟨rfl, List.forall_mem_cons.mpr ⟨rfl, List.forall_mem_cons.mpr ⟨rfl, List.forall_mem_cons.mpr ⟨rfl, List.forall_mem_cons.mpr ⟨rfl, fun _ h => absurd h List.not_mem_nil⟩⟩⟩⟩⟩
  case m_lo9 => k_mem
  case m_ow09 => k_mem
  case m_dw09 => k_mem
  case hO09 => assumption
  case m_lb09 => k_mem
  case hvs09 => assumption
  case hvl09 => assumption
  case m_ow19 => k_mem
  case m_dw19 => k_mem
  case hO19 => assumption
  case m_lb19 => k_mem
  case hvs19 => assumption
  case hvl19 => assumption
  case m_ow29 => k_mem
  case m_dw29 => k_mem
  case hO29 => assumption
  case m_lb29 => k_mem
  case hvs29 => assumption
  case hvl29 => assumption
  case m_lk9 => k_mem
  case m_dDB9 => k_mem
  case m_x9 => k_mem
  case m_dx9 => k_mem
  case m_f9 => k_mem
  case m_c9 => k_mem
  case m_dS9 => k_mem
  case m_D19 => k_mem
  case m_cl9 => k_mem
  case m_P9 => k_mem
  case hP9 => exact List.forall_mem_cons.mpr ⟨(by k_ne), List.forall_mem_cons.mpr ⟨(by k_ne), List.forall_mem_cons.mpr ⟨(by k_ne), List.forall_mem_cons.mpr ⟨(by k_ne), List.forall_mem_cons.mpr ⟨(by k_ne), List.forall_mem_cons.mpr ⟨(by k_ne), List.forall_mem_cons.mpr ⟨(by k_ne), List.forall_mem_cons.mpr ⟨(by k_ne), List.forall_mem_cons.mpr ⟨(by k_ne), List.forall_mem_cons.mpr ⟨(by k_ne), List.forall_mem_cons.mpr ⟨(by k_ne), List.forall_mem_cons.mpr ⟨(by k_ne), List.forall_mem_cons.mpr ⟨(by k_ne), List.forall_mem_cons.mpr ⟨(by k_ne), List.forall_mem_cons.mpr ⟨(by k_ne), List.forall_mem_cons.mpr ⟨(by k_ne), List.forall_mem_cons.mpr ⟨(by k_ne), List.forall_mem_cons.mpr ⟨(by k_ne), List.forall_mem_cons.mpr ⟨(by k_ne), fun _ h => absurd h List.not_mem_nil⟩⟩⟩⟩⟩⟩⟩⟩⟩⟩⟩⟩⟩⟩⟩⟩⟩⟩⟩
  case hG9 => assumption
  case hV09 => exact upd3_0
  case hV19 => exact upd3_1
  case hV29 => exact upd3_2
  case hT9 => assumption
  case hD9 => assumption
  case hS9 => assumption
  case hl9 => omega
  case l19 => exact ⟨l1.1, l1.2.1, l1.2.2.1, l1.2.2.2.1, l1.2.2.2.2.1, l1.2.2.2.2.2.1, l1.2.2.2.2.2.2.1, l1.2.2.2.2.2.2.2, by walk_at "m_lt", by walk_at "m_lt", by walk_at "m_lt", by walk_at "m_lt", by walk_at "m_lt", by walk_at "m_lt"⟩
  case hnd9 =>
    simp only [List.nodup_cons, List.mem_cons, List.not_mem_nil, or_false, not_or, not_false_eq_true, List.nodup_nil, and_true]
    (repeat' apply And.intro)
    all_goals first | exact Nat.ne_of_gt (by with_reducible assumption) | exact Nat.ne_of_lt (by with_reducible assumption) | k_ne
  case done9 =>
    intro h9 tk9 m9 F9 N9
    k_steps
    exact hQ _ _ _ F9 N9
end Mine
theorem Mine.freshLawB2x : True ∧ True := by w_top off; first | (walk1; all_goals trivial) | exact ⟨trivial, trivial⟩
-- part LawK
namespace Mine
open PySem PySem.W PyProof.Rows PySem.Calls
local macro_rules | `(tactic| k_lt $h:ident) => `(tactic| skip)
local macro_rules | `(tactic| k_ne) => `(tactic| ((try dsimp only); first
  | (refine' ne_lt_l ?q9h ?q9m; (case q9h => with_reducible assumption); (case q9m => k_dflt k_mem))
  | (refine' ne_lt_r ?q9h ?q9m; (case q9h => with_reducible assumption); (case q9m => k_dflt k_mem))
  | (refine' ne_tr_l ?q9l ?q9h ?q9m; (case q9l => with_reducible assumption); (case q9h => with_reducible assumption); (case q9m => k_dflt k_mem))
  | (refine' ne_tr_r ?q9l ?q9h ?q9m; (case q9l => with_reducible assumption); (case q9h => with_reducible assumption); (case q9m => k_dflt k_mem))
  | (refine' ne_ne_l ?q9h ?q9m; (case q9h => with_reducible assumption); (case q9m => k_dflt k_mem))
  | (refine' ne_ne_r ?q9h ?q9m; (case q9h => with_reducible assumption); (case q9m => k_dflt k_mem))
  | (refine neN ?_; (try dsimp only); omega)))
local macro_rules | `(tactic| k_room) => `(tactic| ((simp only [depth_under_make, depth_under_kw, depth_in1, depth_deeper, depth_caller]); (try dsimp only [AA] at *); omega))
local macro_rules | `(tactic| k_units) => `(tactic| ((simp only [units_in1, units_deeper, Around.mark_units, units_caller]); (try dsimp only [AA] at *); omega))
-- enter a def of the top with the ledger at hand
local macro_rules | `(tactic| walk_at "m_enter") => `(tactic| (
  refine' call_subK (by assumption) (by assumption) ?q9k1 ?q9k2 ?q9k3 ?q9k4 ?q9k5 ?_ ?q9k6 ?q9k7 ?q9k8 ?q9k9
  (case q9k1 => k_is)
  (case q9k2 => k_is)
  (case q9k3 => k_room)
  (case q9k4 => exact BindsTo.of_eq rfl)
  (case q9k5 => exact locs rfl)
  (case q9k6 => decide)
  (case q9k7 => exact rfl)
  (case q9k8 => exact rfl)
  (case q9k9 => exact rfl)))
-- the caller's context
local macro_rules | `(tactic| walk_at "m_cx") => `(tactic| k_dflt (
  refine' mkCx ?q9F ?q9B ?q9X ?q9T ?q9a ?q9b ?q9c
  (case q9F => k_asm)
  (case q9B => k_asm)
  (case q9X => k_asm)
  (case q9T => k_asm)
  (case q9a => exact rfl)
  (case q9b => exact rfl)
  (case q9c => exact rfl)))
local macro_rules | `(tactic| walk_at "m_depth") => `(tactic| ((simp only [depth_mark, depth_under_make, depth_under_kw, depth_in1, depth_deeper, depth_caller]); first | (dsimp only [AA]; omega) | omega | decide))
local macro_rules | `(tactic| walk_at "m_unit") => `(tactic| first | ((simp only [units_in1, units_deeper, Around.mark_units, units_caller]); first | (dsimp only [AA]; omega) | omega | decide) | exact Nat.le_of_ble_eq_true rfl)
local macro_rules | `(tactic| walk_at "call ref") => `(tactic| (k_here; first
  | ((with_reducible show wpAny _ _ (call (Value.ref 62) [Value.bytes _ _]) _ _ _); k_dflt (refine' vib_spec ?q9C ?q9d ?q9u ?q9N ?_); (case q9C => walk_at "m_cx"); (case q9d => walk_at "m_depth"); (case q9u => walk_at "m_unit"); (case q9N => k_asm); intro h' tk' F' N' _; (try k_sweep))
  | ((with_reducible show wpAny _ _ (call (Value.ref 35) [_, _]) _ _ _); k_dflt (refine' cast_spec ?q9C ?q9d ?q9u ?q9N ?_); (case q9C => walk_at "m_cx"); (case q9d => walk_at "m_depth"); (case q9u => walk_at "m_unit"); (case q9N => k_asm); intro h' tk' F' N' _; (try k_sweep))
  | ((with_reducible show wpAny _ _ (call (Value.ref 42) [Value.bytes _ _]) _ _ _); k_dflt (refine' toint_spec ?q9C ?q9d ?q9u ?q9N ?_); (case q9C => walk_at "m_cx"); (case q9d => walk_at "m_depth"); (case q9u => walk_at "m_unit"); (case q9N => k_asm); intro h' tk' t' F' N' _; (try k_sweep))
  | ((with_reducible show wpAny _ _ (call (Value.ref 69) [Value.bytes _ _, _]) _ _ _); k_dflt (refine' vlb_spec ?q9C ?q9d ?q9u ?q9N ?_); (case q9C => walk_at "m_cx"); (case q9d => walk_at "m_depth"); (case q9u => walk_at "m_unit"); (case q9N => k_asm); intro h' tk' F' N' _; (try k_sweep))
  | ((with_reducible show wpAny _ _ (call (Value.ref 69) [Value.ref _, _]) _ _ _); k_dflt (refine' vlt_spec ?q9C ?q9d ?q9u ?q9N ?q9t ?q9n ?_); (case q9C => walk_at "m_cx"); (case q9d => walk_at "m_depth"); (case q9u => walk_at "m_unit"); (case q9N => k_asm); (case q9t => exact IsTup.keeps (by assumption) (Fr.keep (by assumption))); (case q9n => assumption); intro h' tk' F' N' _; (try k_sweep))))
local macro_rules | `(tactic| walk_at "m_fn") => `(tactic| k_dflt (exact IsFnIn.at (by assumption) (AllAt.keeps (by assumption) (Fr.keep (by assumption)))))
local macro_rules | `(tactic| walk_at "m_all") => `(tactic| k_dflt (exact AllAt.keeps (by assumption) (Fr.keep (by assumption))))
local macro_rules | `(tactic| walk_at "FnAt") => `(tactic| walk_at "m_fn")
local macro_rules | `(tactic| walk_at "callWith ref") => `(tactic| (k_here; k_dflt (refine' callWith_F ?q9k1 ?_; (case q9k1 => walk_at "m_fn"))))
local macro_rules | `(tactic| walk_at "call ref") => `(tactic| (k_here; (with_reducible show wpAny _ _ (call (Value.ref _) [Value.bytes _ _]) _ _ _); k_dflt (refine' hash_use (by assumption) ?q9C ?q9d ?q9u ?q9N ?q9H ?q9U ?q9S ?q9l ?_); (case q9C => walk_at "m_cx"); (case q9d => walk_at "m_depth"); (case q9u => walk_at "m_unit"); (case q9N => k_asm); (case q9H => walk_at "m_all"); (case q9U => k_updF); (case q9S => k_asm); (case q9l => omega); intro h' oS' t' tk' F' N' hS' hl'; (try dsimp only at N'); (try k_sweep)))
local macro_rules | `(tactic| walk_at "binaryOp Add bytes bytes") => `(tactic| (k_here; (with_reducible show wpAny _ _ (binaryOp Operator.Add (Value.bytes _ _) (Value.bytes _ _)) _ _ _); (refine KBy.add_bytes (by omega) ?_); intro _ _))
local macro_rules | `(tactic| walk_at "call builtin:len") => `(tactic| (k_here; first
  | ((with_reducible show wpAny _ _ (call (Value.builtin "len") [Value.bytes _ _]) _ _ _); refine len_b1 ?_)
  | ((with_reducible show wpAny _ _ (call (Value.builtin "len") [Value.ref _]) _ _ _); refine len_tupB (by assumption) (by assumption) (by assumption) ?_)))

local macro_rules | `(tactic| walk_at "subscriptTail") => `(tactic| (k_here; (with_reducible show wpAny _ _ (subscriptTail _ _ (Value.ref _) (Value.bytes _ _)) _ _ _); k_dflt (refine' db_item ?q9N ?q9m ?q9D ?q9k ?_; (case q9N => k_asm); (case q9m => k_mem); (case q9D => k_asm); (case q9k => k_asm)); intro _ _))
local macro_rules | `(tactic| walk_at "subscriptTail") => `(tactic| (k_here; (with_reducible show wpAny _ _ (subscriptTail _ (Expr.Slice _ _ none _) (Value.bytes (_ ++ _) _) (Value.ref _)) _ _ _); (with_reducible rename Fr _ _ _ _ => F'); (with_reducible rename News _ _ _ _ => N'); k_dflt (first
  | (refine slice_lo (s := ⟨_, _, _, _, _⟩) F' N' (by assumption) (by assumption) ?_)
  | (refine slice_hi (s := ⟨_, _, _, _, _⟩) F' N' (by assumption) (by assumption) ?_)); intro _ _ _ F' N'; (try k_sweep)))
local macro_rules | `(tactic| walk_at "call builtin:list.append") => `(tactic| (k_here; (with_reducible show wpAny _ _ (call (Value.builtin _) [Value.ref _, _]) _ _ _); k_dflt (refine' append_L ?q9F ?q9N ?q9U ?_ ?q9z; (case q9F => k_asm); (case q9N => k_asm); (case q9U => k_updF); (case q9z => first | omega | exact Nat.le_of_ble_eq_true rfl)); intro h' F' N'; (try dsimp only [List.nil_append, List.cons_append] at N'); (try k_sweep)))
local macro_rules | `(tactic| walk_at "call type:tuple") => `(tactic| (k_here; (with_reducible show wpAny _ _ (call (Value.type "tuple") [Value.ref _]) _ _ _); k_dflt (refine' tuple_L ?q9F ?q9N ?q9m ?q9z ?_; (case q9F => k_asm); (case q9N => k_asm); (case q9m => k_mem); (case q9z => omega)); intro D' h' F' N' l1; (try k_lt l1); (try k_sweep)))

local macro_rules | `(tactic| walk_at "call type:tuple") => `(tactic| (k_here; (with_reducible show wpAny _ _ (call (Value.type "tuple") [Value.ref _]) _ _ _); k_dflt (refine' tuple_rev rfl ?q9F ?q9N ?q9I ?q9m ?q9z ?_; (case q9F => k_asm); (case q9N => k_asm); (case q9I => k_all); (case q9m => k_mem); (case q9z => omega)); intro D' h' tk' F' N' l1; (try k_lt l1); (try k_sweep)))
local macro_rules | `(tactic| walk_at "call type:reversed") => `(tactic| (k_here; (with_reducible show wpAny _ _ (call (Value.type "reversed") [Value.ref _]) _ _ _); k_dflt (first
  | (refine' rev_K ?q9F ?q9N ?q9t ?q9n ?_; (case q9F => k_asm); (case q9N => k_asm); (case q9t => assumption); (case q9n => assumption); intro D' h' tk' F' N' l1; (try k_lt l1); (try k_sweep))
  | (refine' rev_KN ?q9F ?q9N ?q9m ?q9n ?_; (case q9F => k_asm); (case q9N => k_asm); (case q9m => k_mem); (case q9n => assumption); intro D' h' tk' F' N' l1; (try k_lt l1); (try k_sweep))
  | (refine' revL_K ?q9F ?q9N ?q9m ?_; (case q9F => k_asm); (case q9N => k_asm); (case q9m => k_mem); intro D' h' F' N' l1; (try k_lt l1); (try k_sweep)))))
local macro_rules | `(tactic| walk_at "setItem ref bytes") => `(tactic| (k_here; k_dflt (refine' db_set ?q9F ?q9N ?q9U ?q9D ?q9n ?_; (case q9F => k_asm); (case q9N => k_asm); (case q9U => k_updF); (case q9D => k_asm); (case q9n => omega)); intro h' o' F' N' hD'; (try dsimp only at N'); (try k_sweep)))
local macro_rules | `(tactic| walk_at "call ref") => `(tactic| (k_here; (with_reducible show wpAny _ _ (call (Value.ref 183) [Value.ref _, Value.bytes _ _]) _ _ _); k_dflt (refine' get_spec ?q9C ?q9d ?q9u rfl ?q9N ?q9m1 ?q9m2 ?q9m3 ?q9T ?q9D ?q9W ?_; (case q9C => walk_at "m_cx"); (case q9d => walk_at "m_depth"); (case q9u => walk_at "m_unit"); (case q9N => k_asm); (case q9m1 => k_mem); (case q9m2 => k_mem); (case q9T => first | assumption | exact ⟨_, _, _, _, _, _, _, _, _, _, rfl⟩); (case q9m3 => k_mem); (case q9D => assumption); (case q9W => assumption)); intro h' Dt Db vs' tv tk' F' N' n1 n2 n3 K' hvs' hvl'; (try k_sweep)))

local macro_rules | `(tactic| walk_at "call builtin:list.insert") => `(tactic| (k_here; (with_reducible show wpAny _ _ (call (Value.builtin _) [Value.ref _, _, _]) _ _ _); k_dflt (refine' insert0_L ?q9F ?q9N ?q9U ?q9z ?_; (case q9F => k_asm); (case q9N => k_asm); (case q9U => k_updF); (case q9z => omega)); intro h' F' N'; (try dsimp only at N'); (try k_sweep)))

local macro_rules | `(tactic| walk_at "m_sub") => `(tactic| first | exact (fun _ h => absurd h (List.not_mem_nil)) | (refine List.forall_mem_cons.mpr ⟨by k_mem, ?_⟩; walk_at "m_sub"))
local macro_rules | `(tactic| walk_at "m_all") => `(tactic| k_dflt (exact allAt_news (by k_asm) (by walk_at "m_sub")))
local macro_rules | `(tactic| walk_at "m_fn") => `(tactic| k_dflt (exact IsFnIn.at (by assumption) (allAt_news (by k_asm) (by walk_at "m_sub"))))
local macro_rules | `(tactic| walk_at "call ref") => `(tactic| (k_here; first
  | ((with_reducible show wpAny _ _ (call (Value.ref 190) [Value.ref _, Value.bytes _ _, Value.bytes _ _]) _ _ _); k_dflt (refine' gset (by assumption) ?q9C ?q9d ?q9u rfl ?q9N ?q9m1 ?q9S ?q9T ?q9D ?q9G ?q9U1 ?q9U2 ?q9U3 ?q9n1 ?q9n2 ?q9n3 ?q9H ?q9o ?q9f ?q9nd ?q9l ?q9v ?_; (case q9C => walk_at "m_cx"); (case q9d => walk_at "m_depth"); (case q9u => walk_at "m_unit"); (case q9N => k_asm); (case q9m1 => k_mem); (case q9S => assumption); (case q9T => assumption); (case q9D => assumption); (case q9G => assumption); (case q9U1 => k_updF); (case q9U2 => intro _; k_updF); (case q9U3 => intro _ _; k_updF); (case q9H => walk_at "m_sub"); (case q9o => assumption); (case q9f => assumption); (case q9n1 => omega); (case q9n2 => omega); (case q9n3 => omega); (case q9nd => omega); (case q9l => omega); (case q9v => first | assumption | exact Nat.one_ne_zero | decide)); intro h' oS' od' oDB' Dt' vs' tk' S' D' root' F' N' n1 hS' hl' hT' hD' hG' hvl'; (try dsimp only at N'); (replace N' := news_tl N'); (clear n1); (have hT2 := hT'); (k_dflt (obtain ⟨_, _, _, _, _, _, _, _, _, _, e9⟩ := hT')); (subst e9); (try k_sweep))
  | ((with_reducible show wpAny _ _ (call (Value.ref 176) [Value.ref _, Value.bytes _ _]) _ _ _); k_dflt (refine' gbranch ?q9C ?q9d ?q9u rfl ?q9N ?q9m1 ?q9m2 ?q9T ?q9m3 ?q9D ?q9G ?_; (case q9C => walk_at "m_cx"); (case q9d => walk_at "m_depth"); (case q9u => walk_at "m_unit"); (case q9N => k_asm); (case q9m1 => k_mem); (case q9m2 => k_mem); (case q9T => assumption); (case q9m3 => k_mem); (case q9D => assumption); (case q9G => assumption)); intro h' Db' vs' tk' F' N' n1 hvs' hvl'; (try k_sweep))))
local macro_rules | `(tactic| walk_at "call ref") => `(tactic| (k_here; (with_reducible show wpAny _ _ (call (Value.ref 69) [Value.ref _, _]) _ _ _); k_dflt (refine' vlt_spec ?q9C ?q9d ?q9u ?q9N ?q9t ?q9n ?_; (case q9C => walk_at "m_cx"); (case q9d => walk_at "m_depth"); (case q9u => walk_at "m_unit"); (case q9N => k_asm); (case q9t => exact News.isTup (by k_asm) (by k_mem)); (case q9n => assumption)); intro h' tk' F' N' _; (try k_sweep)))
local macro_rules | `(tactic| walk_at "call builtin:len") => `(tactic| (k_here; (with_reducible show wpAny _ _ (call (Value.builtin "len") [Value.ref _]) _ _ _); k_dflt (refine' len_tupN8 ?q9N ?q9m ?q9n ?_; (case q9N => k_asm); (case q9m => k_mem); (case q9n => assumption))))
local macro_rules | `(tactic| walk_at "call type:bytes") => `(tactic| (k_here; (with_reducible show wpAny _ _ (call (Value.type "bytes") [Value.ref _]) _ _ _); k_dflt (refine' bytes1 ?q9F ?q9N ?q9h ?_; (case q9F => k_asm); (case q9N => k_asm); (case q9h => exact rfl)); intro h' t' tk' F' N'; (try k_sweep)))
local macro_rules | `(tactic| walk_at "call ref") => `(tactic| (k_here; (with_reducible show wpAny _ _ (call (Value.ref 132) [Value.bytes _ _, Value.bytes _ _, Value.ref _, Value.ref _]) _ _ _); k_dflt (refine' own_new ?q9C ?q9d ?q9u ?q9N ?q9m2 ?q9v ?_; (case q9C => walk_at "m_cx"); (case q9d => walk_at "m_depth"); (case q9u => walk_at "m_unit"); (case q9N => k_asm); (case q9m2 => k_mem); (case q9v => assumption)); intro h' x' d' lb' c' od' tk' F' N' l1 l2 n1 hO'; (try k_sweep)))
local macro_rules | `(tactic| walk_at "m_lt") => `(tactic| first | assumption | (refine' lt_of_all ?q9h ?q9m; (case q9h => with_reducible assumption); (case q9m => k_dflt k_mem)))
local macro_rules | `(tactic| walk_at "execs cons") => `(tactic| (k_here; (with_reducible show wpAny _ _ (execs (Stmt.Assign _ (Expr.List [] _) _ :: _) _) _ _ _); refine Stop.intro ?_))
local macro_rules | `(tactic| walk_at "execs cons Assign cons") => `(tactic| (k_here; (with_reducible show wpAny _ _ (execs (Stmt.Assign _ (Expr.List [] _) _ :: _) _) _ _ _); refine Stop.intro ?_))
section
variable {prog : Program} {w : World} {A : Around} {E : Value → Shared → Prop} {s : Shared} {h₀ : Heap} {L : Addr} {m : Str → Option Value} {news : List (Addr × Obj)}
theorem six_item {value slice : PySem.Expr} {l : Addr} {n : Nat} {k0 k1 k2 k3 k4 k5 : Nat} {a0 a1 a2 a3 a4 a5 : Int} {t0 t1 t2 t3 t4 t5 u : Tok} {k : Int} {Q : Value → Shared → Prop} (N : News h₀ L s.heap news) (hm : (l, listOf [.int a0 t0, .int a1 t1, .int a2 t2, .int a3 t3, .int a4 t4, .int a5 t5].toArray n) ∈ news) (hk : 0 ≤ k ∧ k < 6)
    (e0 : a0 = (k0 : Int)) (e1 : a1 = (k1 : Int)) (e2 : a2 = (k2 : Int)) (e3 : a3 = (k3 : Int)) (e4 : a4 = (k4 : Int)) (e5 : a5 = (k5 : Int)) (hs6 : k0 < 256 ∧ k1 < 256 ∧ k2 < 256 ∧ k3 < 256 ∧ k4 < 256 ∧ k5 < 256) (h : ∀ (c : Nat) t, c < 256 → Q (.int (c : Int) t) s)
    (hs : subscripted slice false (.ref l) (.int k u) = operate [.ref l, .int k u] (getItem (.ref l) (.int k u)) := by with_unfolding_all rfl) : wpAny (model prog w) A (subscriptTail value slice (.ref l) (.int k u)) Q E s := by
  subst e0 e1 e2 e3 e4 e5
  have h3 : k = 0 ∨ k = 1 ∨ k = 2 ∨ k = 3 ∨ k = 4 ∨ k = 5 := by omega
  rcases h3 with e | e | e | e | e | e
  · exact list_item (i := 0) N hm rfl e (by decide : 6 ≤ 1000) (h _ _ hs6.1) hs
  · exact list_item (i := 1) N hm rfl e (by decide : 6 ≤ 1000) (h _ _ hs6.2.1) hs
  · exact list_item (i := 2) N hm rfl e (by decide : 6 ≤ 1000) (h _ _ hs6.2.2.1) hs
  · exact list_item (i := 3) N hm rfl e (by decide : 6 ≤ 1000) (h _ _ hs6.2.2.2.1) hs
  · exact list_item (i := 4) N hm rfl e (by decide : 6 ≤ 1000) (h _ _ hs6.2.2.2.2.1) hs
  · exact list_item (i := 5) N hm rfl e (by decide : 6 ≤ 1000) (h _ _ hs6.2.2.2.2.2) hs
end
theorem six_at {z : Int} : 0 ≤ z.fmod 6 ∧ z.fmod 6 < 6 := ⟨Int.fmod_nonneg_of_pos z (by decide), Int.fmod_lt_of_pos z (by decide)⟩
theorem xor_oct {a : UInt8} {c : Nat} (hc : c < 256) : Builtin.bitXor (a.toNat : Int) (c : Int) = (((a.toNat ^^^ c).toUInt8).toNat : Int) := by
  have h := xor_lt (UInt8.toNat_lt a) hc
  rw [bitXor_nat]
  have e : ((a.toNat ^^^ c).toUInt8).toNat = (a.toNat ^^^ c) % 256 := rfl
  rw [e, Nat.mod_eq_of_lt h]
theorem xor_octA {A : Int} {a : UInt8} {c : Nat} (hA : A = (a.toNat : Int)) (hc : c < 256) : Builtin.bitXor A (c : Int) = (((a.toNat ^^^ c).toUInt8).toNat : Int) := by
  subst hA; exact xor_oct hc
theorem xor_oct4 {A : Int} {a : UInt8} (hA : A = (a.toNat : Int)) : Builtin.bitXor A 4 = (((a.toNat ^^^ 4).toUInt8).toNat : Int) := by
  subst hA; exact xor_oct (c := 4) (by decide)
theorem fr_ovr {h₀ h : Heap} {L : Addr} {m : Str → Option Value} {l : List (Str × Option Value)} (F : Fr h₀ L h m) (hm : ∀ q ∈ l, m q.1 = q.2) : Fr h₀ L h (ovr m l) := (ovr_self hm).symm ▸ F
theorem keys_news {h₀ h : Heap} {L lk : Addr} {news : List (Addr × Obj)} {A B C : Int} {a b c : UInt8} {t0 t1 t2 : Tok} {ck : Nat} (N : News h₀ L h news) (m : (lk, listOf [.int A t0, .int B t1, .int C t2].toArray ck) ∈ news) (e0 : A = (a.toNat : Int)) (e1 : B = (b.toNat : Int)) (e2 : C = (c.toNat : Int)) :
    News h₀ L h [(lk, listOf [.int (a.toNat : Int) t0, .int (b.toNat : Int) t1, .int (c.toNat : Int) t2].toArray ck)] := by
  subst e0 e1 e2
  exact List.forall_mem_cons.mpr ⟨N _ m, News.nil⟩
local macro_rules | `(tactic| walk_at "subscriptTail") => `(tactic| (k_here; (with_reducible show wpAny _ _ (subscriptTail (Expr.List _ _) _ (Value.ref _) (Value.int _ _)) _ _ _); k_dflt (refine' six_item (k0 := 1) (k1 := 2) (k2 := 3) (k3 := 128) (k4 := 255) (k5 := 64) ?q9N ?q9m ?q9k rfl rfl rfl rfl rfl rfl (by decide) ?_; (case q9N => k_asm); (case q9m => k_mem); (case q9k => exact six_at)); intro c' t' hc'; (try k_sweep)))
theorem law_keys {w : World} {p : Program} {loose : List Str} {mean : ExcName → Option Value} {mg mb : Str → Option Value} {h₀ : Heap} {L fa : Addr} {s : Shared} {m : Str → Option Value} {Q : Flow → Shared → Prop}
    {oc : Value} {od : Option Addr} {ln lq : Str} {lp : Arguments} {ls : Scope} {dV kV doc pm cdv ct : Value} {an : Option Addr} {osl : Array (Option Value)} {s0 s1 s2 s3 s4 : Stmt} {rest : List Stmt}
    {dDB x dx f c dS D1 cl la P : Addr} {oDB odT fo occ oS ocl oP : Obj} {ws lvs : List Value} {ns xs : List Int} {S : Texts} {D : List UInt8 → Option (Array UInt8)} {root : Array UInt8} {V : Nat → Array UInt8}
    (hlaw : (hd.heap_39 w.params).lookup 251 = some ⟨oc, od, .func (fnOf ln lq lp (s0 :: s1 :: s2 :: s3 :: s4 :: rest) ls dV kV doc pm an cdv ct), osl⟩)
    (hl : h₀.IsList la lvs.toArray) (hI : IntsAre lvs xs) (hxs : xs.length ≤ 63) (hW : IntsAre ws ns) (hn : ns.length = 13)
    (B : Below callerA h₀ [] h₀) (X : (hd.heap_39 w.params).In h₀) (T : Top p loose mean mg mb h₀)
    (F : Fr h₀ L s.heap m) (hm : ∀ q ∈ [(Str.ofString "script", some (.ref la)), (Str.ofString "numbers", some (.ref D1)), (Str.ofString "hash_of", some (.ref f)), (Str.ofString "tree", some (.ref x))], m q.1 = q.2)
    (N : News h₀ L s.heap [(dDB, oDB), (x, instObj 235 dx), (dx, odT), (f, fo), (c, occ), (dS, oS), (D1, listOf ws.toArray 0), (cl, ocl), (P, oP)])
    (HS : HashSpec w p loose mean mg mb [(f, fo), (c, occ), (cl, ocl)] f dS) (hf : IsFnIn f [(f, fo), (c, occ), (cl, ocl)])
    (l0 : @LT.lt Nat _ P cl) (l1 : @LT.lt Nat _ cl D1 ∧ @LT.lt Nat _ D1 dS ∧ @LT.lt Nat _ dS c ∧ @LT.lt Nat _ c f ∧ @LT.lt Nat _ f dx ∧ @LT.lt Nat _ dx x ∧ @LT.lt Nat _ x dDB)
    (hT : TreeD w f dDB root odT) (hD : DbObj w oDB D 9) (hS : SeenObj w oS S) (G : Good S D root V) (hlS : S.length ≤ 9)
    (hQ : ∀ h' tk' m', Fr h₀ L h' m' → News h₀ L h' [(P, oP)] → Q (.ret (.bool true)) { s with heap := h', toks := tk' }) :
    wpAny (model Challenge.rw_bi0032_01.row.prog w) (callerA.deeper (envOfC ln ls L fa (.ref 250))) (execs rest (envOfC ln ls L fa (.ref 250))) Q (fun _ _ => False) s := by
  have hlaw2 : Stop _ := hlaw
  have X0 := X; revert X; k_fill; intro X
  refine' absorbK hlaw ?k ?_
  case k => k_is
  intro e
  cases e
  clear hlaw
  have em := ovr_self hm
  rw [← em] at F
  k_steps
  · (with_reducible rename Fr _ _ _ _ => F9)
    (with_reducible rename News _ _ _ _ => N9)
    refine Stop.out ?_
    refine' law_owners (f := f) (x := x) (dDB := dDB) (dx := dx) (c := c) (dS := dS) (D1 := D1) (cl := cl) (P := P) (oP := oP) (nD := 9) hlaw2 hl hI hxs hW hn B X0 T ?f9x0 ?n9x0 HS hf l0 ?l19x0 hT hD hS G hlS rfl ?q9x0
    case f9x0 => exact fr_ovr F9 (List.forall_mem_cons.mpr ⟨rfl, List.forall_mem_cons.mpr ⟨rfl, List.forall_mem_cons.mpr ⟨rfl, List.forall_mem_cons.mpr ⟨rfl, List.forall_mem_cons.mpr ⟨rfl, fun _ h => absurd h List.not_mem_nil⟩⟩⟩⟩⟩)
    case n9x0 =>
      refine List.forall_mem_cons.mpr ⟨keys_news N9 (by k_mem) ?e0x0 ?e1x0 ?e2x0 _ (.head _), List.forall_mem_cons.mpr ⟨N9 _ (by k_mem), List.forall_mem_cons.mpr ⟨N9 _ (by k_mem), List.forall_mem_cons.mpr ⟨N9 _ (by k_mem), List.forall_mem_cons.mpr ⟨N9 _ (by k_mem), List.forall_mem_cons.mpr ⟨N9 _ (by k_mem), List.forall_mem_cons.mpr ⟨N9 _ (by k_mem), List.forall_mem_cons.mpr ⟨N9 _ (by k_mem), List.forall_mem_cons.mpr ⟨N9 _ (by k_mem), List.forall_mem_cons.mpr ⟨N9 _ (by k_mem), News.nil⟩⟩⟩⟩⟩⟩⟩⟩⟩⟩
      case e0x0 => exact oct_of
      case e1x0 => first | exact xor_octA oct_of (by assumption) | exact xor_oct4 oct_of
      case e2x0 => first | exact xor_octA oct_of (by assumption) | exact xor_oct4 oct_of
    case l19x0 => exact ⟨l1.1, l1.2.1, l1.2.2.1, l1.2.2.2.1, l1.2.2.2.2.1, l1.2.2.2.2.2.1, l1.2.2.2.2.2.2, by walk_at "m_lt"⟩
    case q9x0 => exact fun h' tk' m' F N => hQ h' tk' m' F N
  · (with_reducible rename Fr _ _ _ _ => F9)
    (with_reducible rename News _ _ _ _ => N9)
    refine Stop.out ?_
    refine' law_owners (f := f) (x := x) (dDB := dDB) (dx := dx) (c := c) (dS := dS) (D1 := D1) (cl := cl) (P := P) (oP := oP) (nD := 9) hlaw2 hl hI hxs hW hn B X0 T ?f9x1 ?n9x1 HS hf l0 ?l19x1 hT hD hS G hlS rfl ?q9x1
    case f9x1 => exact fr_ovr F9 (List.forall_mem_cons.mpr ⟨rfl, List.forall_mem_cons.mpr ⟨rfl, List.forall_mem_cons.mpr ⟨rfl, List.forall_mem_cons.mpr ⟨rfl, List.forall_mem_cons.mpr ⟨rfl, fun _ h => absurd h List.not_mem_nil⟩⟩⟩⟩⟩)
    case n9x1 =>
      refine List.forall_mem_cons.mpr ⟨keys_news N9 (by k_mem) ?e0x1 ?e1x1 ?e2x1 _ (.head _), List.forall_mem_cons.mpr ⟨N9 _ (by k_mem), List.forall_mem_cons.mpr ⟨N9 _ (by k_mem), List.forall_mem_cons.mpr ⟨N9 _ (by k_mem), List.forall_mem_cons.mpr ⟨N9 _ (by k_mem), List.forall_mem_cons.mpr ⟨N9 _ (by k_mem), List.forall_mem_cons.mpr ⟨N9 _ (by k_mem), List.forall_mem_cons.mpr ⟨N9 _ (by k_mem), List.forall_mem_cons.mpr ⟨N9 _ (by k_mem), List.forall_mem_cons.mpr ⟨N9 _ (by k_mem), News.nil⟩⟩⟩⟩⟩⟩⟩⟩⟩⟩
      case e0x1 => exact oct_of
      case e1x1 => first | exact xor_octA oct_of (by assumption) | exact xor_oct4 oct_of
      case e2x1 => first | exact xor_octA oct_of (by assumption) | exact xor_oct4 oct_of
    case l19x1 => exact ⟨l1.1, l1.2.1, l1.2.2.1, l1.2.2.2.1, l1.2.2.2.2.1, l1.2.2.2.2.2.1, l1.2.2.2.2.2.2, by walk_at "m_lt"⟩
    case q9x1 => exact fun h' tk' m' F N => hQ h' tk' m' F N
end Mine
theorem Mine.freshLawK : True ∧ True := by w_top off; first | (walk1; all_goals trivial) | exact ⟨trivial, trivial⟩
-- part LawAz
namespace Mine
open PySem PySem.W PyProof.Rows PySem.Calls
local macro_rules | `(tactic| k_room) => `(tactic| ((simp only [depth_under_make, depth_under_kw, depth_in1, depth_deeper, depth_caller]); (try dsimp only [AA] at *); omega))
local macro_rules | `(tactic| k_units) => `(tactic| ((simp only [units_in1, units_deeper, Around.mark_units, units_caller]); (try dsimp only [AA] at *); omega))
-- enter a def of the top with the ledger at hand
local macro_rules | `(tactic| walk_at "m_enter") => `(tactic| (
  refine' call_subK (by assumption) (by assumption) ?q9k1 ?q9k2 ?q9k3 ?q9k4 ?q9k5 ?_ ?q9k6 ?q9k7 ?q9k8 ?q9k9
  (case q9k1 => k_is)
  (case q9k2 => k_is)
  (case q9k3 => k_room)
  (case q9k4 => exact BindsTo.of_eq rfl)
  (case q9k5 => exact locs rfl)
  (case q9k6 => decide)
  (case q9k7 => exact rfl)
  (case q9k8 => exact rfl)
  (case q9k9 => exact rfl)))
-- the caller's context
local macro_rules | `(tactic| walk_at "m_cx") => `(tactic| k_dflt (
  refine' mkCx ?q9F ?q9B ?q9X ?q9T ?q9a ?q9b ?q9c
  (case q9F => k_asm)
  (case q9B => k_asm)
  (case q9X => k_asm)
  (case q9T => k_asm)
  (case q9a => exact rfl)
  (case q9b => exact rfl)
  (case q9c => exact rfl)))
local macro_rules | `(tactic| walk_at "m_depth") => `(tactic| ((simp only [depth_mark, depth_under_make, depth_under_kw, depth_in1, depth_deeper, depth_caller]); first | (dsimp only [AA]; omega) | omega | decide))
local macro_rules | `(tactic| walk_at "m_unit") => `(tactic| first | ((simp only [units_in1, units_deeper, Around.mark_units, units_caller]); first | (dsimp only [AA]; omega) | omega | decide) | exact Nat.le_of_ble_eq_true rfl)
local macro_rules | `(tactic| walk_at "call ref") => `(tactic| (k_here; first
  | ((with_reducible show wpAny _ _ (call (Value.ref 62) [Value.bytes _ _]) _ _ _); k_dflt (refine' vib_spec ?q9C ?q9d ?q9u ?q9N ?_); (case q9C => walk_at "m_cx"); (case q9d => walk_at "m_depth"); (case q9u => walk_at "m_unit"); (case q9N => k_asm); intro h' tk' F' N' _; (try k_sweep))
  | ((with_reducible show wpAny _ _ (call (Value.ref 35) [_, _]) _ _ _); k_dflt (refine' cast_spec ?q9C ?q9d ?q9u ?q9N ?_); (case q9C => walk_at "m_cx"); (case q9d => walk_at "m_depth"); (case q9u => walk_at "m_unit"); (case q9N => k_asm); intro h' tk' F' N' _; (try k_sweep))
  | ((with_reducible show wpAny _ _ (call (Value.ref 42) [Value.bytes _ _]) _ _ _); k_dflt (refine' toint_spec ?q9C ?q9d ?q9u ?q9N ?_); (case q9C => walk_at "m_cx"); (case q9d => walk_at "m_depth"); (case q9u => walk_at "m_unit"); (case q9N => k_asm); intro h' tk' t' F' N' _; (try k_sweep))
  | ((with_reducible show wpAny _ _ (call (Value.ref 69) [Value.bytes _ _, _]) _ _ _); k_dflt (refine' vlb_spec ?q9C ?q9d ?q9u ?q9N ?_); (case q9C => walk_at "m_cx"); (case q9d => walk_at "m_depth"); (case q9u => walk_at "m_unit"); (case q9N => k_asm); intro h' tk' F' N' _; (try k_sweep))
  | ((with_reducible show wpAny _ _ (call (Value.ref 69) [Value.ref _, _]) _ _ _); k_dflt (refine' vlt_spec ?q9C ?q9d ?q9u ?q9N ?q9t ?q9n ?_); (case q9C => walk_at "m_cx"); (case q9d => walk_at "m_depth"); (case q9u => walk_at "m_unit"); (case q9N => k_asm); (case q9t => exact IsTup.keeps (by assumption) (Fr.keep (by assumption))); (case q9n => assumption); intro h' tk' F' N' _; (try k_sweep))))
local macro_rules | `(tactic| walk_at "m_fn") => `(tactic| k_dflt (exact IsFnIn.at (by assumption) (AllAt.keeps (by assumption) (Fr.keep (by assumption)))))
local macro_rules | `(tactic| walk_at "m_all") => `(tactic| k_dflt (exact AllAt.keeps (by assumption) (Fr.keep (by assumption))))
local macro_rules | `(tactic| walk_at "FnAt") => `(tactic| walk_at "m_fn")
local macro_rules | `(tactic| walk_at "callWith ref") => `(tactic| (k_here; k_dflt (refine' callWith_F ?q9k1 ?_; (case q9k1 => walk_at "m_fn"))))
local macro_rules | `(tactic| walk_at "call ref") => `(tactic| (k_here; (with_reducible show wpAny _ _ (call (Value.ref _) [Value.bytes _ _]) _ _ _); k_dflt (refine' hash_use (by assumption) ?q9C ?q9d ?q9u ?q9N ?q9H ?q9U ?q9S ?q9l ?_); (case q9C => walk_at "m_cx"); (case q9d => walk_at "m_depth"); (case q9u => walk_at "m_unit"); (case q9N => k_asm); (case q9H => walk_at "m_all"); (case q9U => k_updF); (case q9S => k_asm); (case q9l => omega); intro h' oS' t' tk' F' N' hS' hl'; (try dsimp only at N'); (try k_sweep)))
local macro_rules | `(tactic| walk_at "binaryOp Add bytes bytes") => `(tactic| (k_here; (with_reducible show wpAny _ _ (binaryOp Operator.Add (Value.bytes _ _) (Value.bytes _ _)) _ _ _); (refine KBy.add_bytes (by omega) ?_); intro _ _))
local macro_rules | `(tactic| walk_at "call builtin:len") => `(tactic| (k_here; first
  | ((with_reducible show wpAny _ _ (call (Value.builtin "len") [Value.bytes _ _]) _ _ _); refine len_b1 ?_)
  | ((with_reducible show wpAny _ _ (call (Value.builtin "len") [Value.ref _]) _ _ _); refine len_tupB (by assumption) (by assumption) (by assumption) ?_)))

local macro_rules | `(tactic| walk_at "subscriptTail") => `(tactic| (k_here; (with_reducible show wpAny _ _ (subscriptTail _ _ (Value.ref _) (Value.bytes _ _)) _ _ _); k_dflt (refine' db_item ?q9N ?q9m ?q9D ?q9k ?_; (case q9N => k_asm); (case q9m => k_mem); (case q9D => k_asm); (case q9k => k_asm)); intro _ _))
local macro_rules | `(tactic| walk_at "subscriptTail") => `(tactic| (k_here; (with_reducible show wpAny _ _ (subscriptTail _ (Expr.Slice _ _ none _) (Value.bytes (_ ++ _) _) (Value.ref _)) _ _ _); (with_reducible rename Fr _ _ _ _ => F'); (with_reducible rename News _ _ _ _ => N'); k_dflt (first
  | (refine slice_lo (s := ⟨_, _, _, _, _⟩) F' N' (by assumption) (by assumption) ?_)
  | (refine slice_hi (s := ⟨_, _, _, _, _⟩) F' N' (by assumption) (by assumption) ?_)); intro _ _ _ F' N'; (try k_sweep)))
local macro_rules | `(tactic| walk_at "call builtin:list.append") => `(tactic| (k_here; (with_reducible show wpAny _ _ (call (Value.builtin _) [Value.ref _, _]) _ _ _); k_dflt (refine' append_L ?q9F ?q9N ?q9U ?_ ?q9z; (case q9F => k_asm); (case q9N => k_asm); (case q9U => k_updF); (case q9z => omega)); intro h' F' N'; (try dsimp only at N'); (try k_sweep)))
local macro_rules | `(tactic| walk_at "call type:tuple") => `(tactic| (k_here; (with_reducible show wpAny _ _ (call (Value.type "tuple") [Value.ref _]) _ _ _); k_dflt (refine' tuple_L ?q9F ?q9N ?q9m ?q9z ?_; (case q9F => k_asm); (case q9N => k_asm); (case q9m => k_mem); (case q9z => omega)); intro D' h' F' N' l1; (try k_lt l1); (try k_sweep)))

local macro_rules | `(tactic| walk_at "call type:tuple") => `(tactic| (k_here; (with_reducible show wpAny _ _ (call (Value.type "tuple") [Value.ref _]) _ _ _); k_dflt (refine' tuple_rev rfl ?q9F ?q9N ?q9I ?q9m ?q9z ?_; (case q9F => k_asm); (case q9N => k_asm); (case q9I => k_all); (case q9m => k_mem); (case q9z => omega)); intro D' h' tk' F' N' l1; (try k_lt l1); (try k_sweep)))
local macro_rules | `(tactic| walk_at "call type:reversed") => `(tactic| (k_here; (with_reducible show wpAny _ _ (call (Value.type "reversed") [Value.ref _]) _ _ _); k_dflt (first
  | (refine' rev_K ?q9F ?q9N ?q9t ?q9n ?_; (case q9F => k_asm); (case q9N => k_asm); (case q9t => assumption); (case q9n => assumption); intro D' h' tk' F' N' l1; (try k_lt l1); (try k_sweep))
  | (refine' rev_KN ?q9F ?q9N ?q9m ?q9n ?_; (case q9F => k_asm); (case q9N => k_asm); (case q9m => k_mem); (case q9n => assumption); intro D' h' tk' F' N' l1; (try k_lt l1); (try k_sweep))
  | (refine' revL_K ?q9F ?q9N ?q9m ?_; (case q9F => k_asm); (case q9N => k_asm); (case q9m => k_mem); intro D' h' F' N' l1; (try k_lt l1); (try k_sweep)))))
local macro_rules | `(tactic| walk_at "setItem ref bytes") => `(tactic| (k_here; k_dflt (refine' db_set ?q9F ?q9N ?q9U ?q9D ?q9n ?_; (case q9F => k_asm); (case q9N => k_asm); (case q9U => k_updF); (case q9D => k_asm); (case q9n => omega)); intro h' o' F' N' hD'; (try dsimp only at N'); (try k_sweep)))
local macro_rules | `(tactic| walk_at "call ref") => `(tactic| (k_here; (with_reducible show wpAny _ _ (call (Value.ref 183) [Value.ref _, Value.bytes _ _]) _ _ _); k_dflt (refine' get_spec ?q9C ?q9d ?q9u rfl ?q9N ?q9m1 ?q9m2 ?q9m3 ?q9T ?q9D ?q9W ?_; (case q9C => walk_at "m_cx"); (case q9d => walk_at "m_depth"); (case q9u => walk_at "m_unit"); (case q9N => k_asm); (case q9m1 => k_mem); (case q9m2 => k_mem); (case q9T => first | assumption | exact ⟨_, _, _, _, _, _, _, _, _, _, rfl⟩); (case q9m3 => k_mem); (case q9D => assumption); (case q9W => assumption)); intro h' Dt Db vs' tv tk' F' N' n1 n2 n3 K' hvs' hvl'; (replace n1 := allNe_of n1); (simp only [AllNe, and_true] at n1); (replace n2 := allNe_of n2); (simp only [AllNe, and_true] at n2); (try k_sweep)))

local macro_rules | `(tactic| walk_at "call builtin:list.insert") => `(tactic| (k_here; (with_reducible show wpAny _ _ (call (Value.builtin _) [Value.ref _, _, _]) _ _ _); k_dflt (refine' insert0_L ?q9F ?q9N ?q9U ?q9z ?_; (case q9F => k_asm); (case q9N => k_asm); (case q9U => k_updF); (case q9z => omega)); intro h' F' N'; (try dsimp only at N'); (try k_sweep)))

local macro_rules | `(tactic| walk_at "call ref") => `(tactic| (k_here; (with_reducible show wpAny _ _ (call (Value.ref 190) [Value.ref _, Value.bytes _ _, Value.bytes _ _]) _ _ _); k_dflt (refine' set_spec (by assumption) ?q9C ?q9d ?q9u rfl ?q9N ?q9m1 ?q9U1 ?q9U2 ?q9U3 ?q9n1 ?q9n2 ?q9n3 ?q9H ?q9o ?q9f ?q9T ?q9D ?q9nd ?q9W ?q9S ?q9l ?q9b ?_; (case q9C => walk_at "m_cx"); (case q9d => walk_at "m_depth"); (case q9u => walk_at "m_unit"); (case q9N => k_asm); (case q9m1 => k_mem); (case q9S => assumption); (case q9T => first | assumption | exact ⟨_, _, _, _, _, _, _, _, _, _, rfl⟩); (case q9D => assumption); (case q9W => assumption); (case q9H => walk_at "m_all"); (case q9U1 => k_updF); (case q9U2 => intro _; k_updF); (case q9U3 => intro _ _; k_updF); (case q9o => assumption); (case q9f => assumption); (case q9n1 => omega); (case q9n2 => omega); (case q9n3 => omega); (case q9nd => omega); (case q9l => omega); (case q9b => assumption)); intro h' oS' od' oDB' Dt' vs' tk' F' N' n1 K' hS' hl' hT' hD' hvs' hvl'; (try dsimp only at N'); (replace n1 := allNe_of n1); (simp only [AllNe, and_true] at n1); (try k_sweep)))
local macro_rules | `(tactic| walk_at "m_sub") => `(tactic| first | exact (fun _ h => absurd h (List.not_mem_nil)) | (refine List.forall_mem_cons.mpr ⟨by k_mem, ?_⟩; walk_at "m_sub"))
local macro_rules | `(tactic| walk_at "m_all") => `(tactic| k_dflt (exact allAt_news (by k_asm) (by walk_at "m_sub")))
local macro_rules | `(tactic| walk_at "m_fn") => `(tactic| k_dflt (exact IsFnIn.at (by assumption) (allAt_news (by k_asm) (by walk_at "m_sub"))))
local macro_rules | `(tactic| walk_at "pyIter ref") => `(tactic| (k_here; (have : IsRange _ _ 0 (1 * 8) 1 _ _ _ := (by assumption)); refine Stop.intro ?_))
local macro_rules | `(tactic| walk_at "execs cons") => `(tactic| (k_here; (with_reducible show wpAny _ _ (execs (Stmt.Assign _ (Expr.List _ _) _ :: _) _) _ _ _); refine Stop.intro ?_))
def JIni (w : World) (d x dx f c dS D1 cl P : Addr) (ox od fo oc o1 ocl oP : Obj) (m₀ : Str → Option Value) (i : Nat) (m : Str → Option Value) (nx : List (Addr × Obj)) : Prop :=
  ∃ oDB oS t1 u1 u2, nx = [(d, oDB), (x, ox), (dx, od), (f, fo), (c, oc), (dS, oS), (D1, o1), (cl, ocl), (P, oP)] ∧ SeenObj w oS (ini i).1 ∧ DbObj w oDB (iniD i) i ∧
    m = ovr m₀ [(Str.ofString "_", u1), (Str.ofString "node_hash", u2), (Str.ofString "node", some (.bytes (ini i).2 t1))]
theorem seen_nil {w : World} {o : Obj} (h : o.IsDictOf (BK w) []) : SeenObj w o [] := ⟨[], h, rfl, fun i k v h => by simp at h⟩
theorem db_nil {w : World} {o : Obj} (h : o.IsDictOf (BK w) []) : DbObj w o (fun _ => none) 0 := ⟨[], h, Nat.le_refl 0, fun k => rfl⟩
theorem ini_size : ∀ i, (ini i).2.size ≤ 64
  | 0 => by decide
  | i + 1 => by
    show (hh _ _ ++ hh _ _).size ≤ 64
    rw [Array.size_append, hh_size]; exact Nat.le_refl _
theorem pick8 {h₀ h : Heap} {L : Addr} {a0 a1 a2 a3 a4 a5 a6 a7 a8 a9 a10 : Addr × Obj} (N : News h₀ L h [a0, a1, a2, a3, a4, a5, a6, a7, a8, a9, a10]) : News h₀ L h [a0, a1, a2, a3, a4, a5, a6, a9, a10] := fun p hp => N p (by
  simp only [List.mem_cons, List.not_mem_nil, or_false] at hp ⊢
  rcases hp with h | h | h | h | h | h | h | h | h <;> simp [h])
theorem len13 (xs : List Int) (g : Int → Int) : (List.take 13 xs ++ List.map g (rangeKs ((List.take 13 xs).length : Int) (13 - ((List.take 13 xs).length : Int)).toNat)).length = 13 := by
  unfold rangeKs
  rw [List.length_append, List.length_map, List.length_map, List.length_range, List.length_take]
  omega
theorem updF_same {d : Addr} {o : Obj} {l : List (Addr × Obj)} {g : Obj → List (Addr × Obj)} (U : UpdF d o l g) : g o = l := by
  obtain ⟨pre, post, rfl, hg, _, _⟩ := U.split
  exact hg o
theorem use_hash {w : World} {p : Program} {loose : List Str} {mean : ExcName → Option Value} {mg mb : Str → Option Value} {h₀ h : Heap} {L : Addr} {news : List (Addr × Obj)} {f dS cS c' : Addr} {occ ocell : Obj} {G : Prop} {g : Obj → List (Addr × Obj)}
    {oc : Value} {od : Option Addr} {ln lq : Str} {lp : Arguments} {ls : Scope} {dV kV doc pm cdv ct : Value} {an : Option Addr} {osl : Array (Option Value)} {s0 s1 s2 : Stmt} {rest : List Stmt} {hn : Str} {hpar : Arguments} {hbody : List Stmt} {dl : List Expr} {re : Option Expr} {tp : List TypeParam} {hsc : Scope} {tsc : Option Scope} {bi : Str} {po : Pos}
    {qual : Str} {tq : Tok} {vs : Array Value} {hdoc hpm hct : Value}
    (T : Top p loose mean mg mb h₀) (N : News h₀ L h news) (m1 : (f, fnMade hn qual hpar hbody hsc [(Str.ofString "seen", cS)] hdoc hpm c' hct) ∈ news) (U : UpdF f (fnMade hn qual hpar hbody hsc [(Str.ofString "seen", cS)] hdoc hpm c' hct) news g) (m2 : (c', occ) ∈ news) (m3 : (cS, ocell) ∈ news)
    (hlaw : (hd.heap_39 w.params).lookup 251 = some ⟨oc, od, .func (fnOf ln lq lp (s0 :: s1 :: s2 :: Stmt.FunctionDef hn hpar hbody dl re tp hsc tsc bi po :: rest) ls dV kV doc pm an cdv ct), osl⟩)
    (hcell : ocell.data = .cell (some (.ref dS))) (hlo : (dS == sysModules) = false) (hdc : occ.data = .fields vs) (hvs : vs[1]? = some (.str qual tq)) (n1 : f ≠ dS) (n2 : c' ≠ dS) (n3 : cS ≠ dS)
    (k : ∀ fo, News h₀ L h (g fo) → HashSpec w p loose mean mg mb [(f, fo), (c', occ), (cS, ocell)] f dS → IsFnIn f [(f, fo), (c', occ), (cS, ocell)] → G) : G :=
  k _ ((updF_same U).symm ▸ N) (hashSpec_of hlaw hlo hdc hvs hcell n1 n2 n3) ⟨_, _, _, _, .head _⟩
theorem le63 {n : Nat} (h : ¬ (((63 : Nat) : Int) < (n : Int))) : n ≤ 63 := by omega
theorem good_ini9 : Good (ins (ini 8).1 (ini 8).2.toList) (dput (iniD 8) (hh (ins (ini 8).1 (ini 8).2.toList) (ini 8).2.toList).toList (ini 8).2) (hh (ins (ini 8).1 (ini 8).2.toList) (ini 8).2.toList) none4 := good_ini
theorem t1 : PySem.Challenge.rw_bi0032_01.Holds := hd (by
  w_strict (k_go0; (all_goals try k_fold); k_steps
            refine Stop.out ?_
            refine' use_hash (w := ‹World›) ?zzT ?zzN ?zzm1 ?zzU ?zzm2 ?zzm3 ?zzl ?zzc ?zzlo ?zzdc ?zzvs ?zzn1 ?zzn2 ?zzn3 ?zzk
            case zzT => assumption
            case zzN => k_asm
            case zzm1 => k_mem
            case zzU => k_updF
            case zzm2 => k_mem
            case zzm3 => k_mem
            case zzc => assumption
            case zzlo => assumption
            case zzdc => assumption
            case zzvs => assumption
            case zzl => k_is
            case zzn1 => k_ne
            case zzn2 => k_ne
            case zzn3 => k_ne
            case zzk =>
            intro fo NF HS hf
            dsimp only at NF
            replace NF := pick8 NF
            refine' iter_rng8 (m₀ := ?zm0) (JIni _ _ _ _ _ _ _ _ _ _ _ _ _ _ _ _ _ ?zm0) rfl (by assumption) rfl ?zF ?zN (fun _ _ e => e) ?zj ?zturn ?zdone
            case zF => k_asm
            case zN => exact NF
            case zj =>
              refine' ⟨_, _, _, _, _, rfl, ?zs, ?zd, ?eqm⟩
              case zs => exact seen_nil (isDict_empty (by assumption))
              case zd => exact db_nil (isDict_empty (by assumption))
              case eqm =>
              funext z
              by_cases h1 : z = Str.ofString "_"; · subst h1; exact rfl
              by_cases h2 : z = Str.ofString "node_hash"; · subst h2; exact rfl
              by_cases h3 : z = Str.ofString "node"; · subst h3; exact rfl
              simp only [ovr, h1, h2, h3, if_false]
            case zturn =>
              intro i t m₁ nx h tk own hi hnx hown hJ F₁ N₁
              obtain ⟨oDB, oS, t1, u1, u2, rfl, hS, hD, rfl⟩ := hJ
              have hl9 := ini_len i
              have hs64 := ini_size i
              have hh32 : (hh (ins (ini i).1 (ini i).2.toList) (ini i).2.toList).size = 32 := hh_size _ _
              dsimp only [List.cons_append, List.nil_append] at N₁
              refine wpAny_mono (Q := EndT (InvPostN _ _ _ _ _ _ _)) ?_ (fun _ _ x => x) (fun _ _ x => x)
              k_steps
              refine' invEndL [] [_, _, _, _, _, _, _, _, _] own (.inl rfl) ⟨_, _, rfl⟩ (by assumption) (by assumption) ?a8 ⟨_, _, _, _, _, rfl, ?a1, ?a2, ?a4⟩
              case a1 => assumption
              case a2 => assumption
              case a4 =>
                funext z
                by_cases h1 : z = Str.ofString "_"; · subst h1; exact rfl
                by_cases h2 : z = Str.ofString "node_hash"; · subst h2; exact rfl
                by_cases h3 : z = Str.ofString "node"; · subst h3; exact rfl
                simp only [ovr, h1, h2, h3, if_false]
              case a8 => exact rfl
            case zdone =>
              intro m₁ nx h tk hJ F₁ N₁
              obtain ⟨oDB, oS, t1, u1, u2, rfl, hS, hD, rfl⟩ := hJ
              have hl9 := ini_len 8
              have hs64 := ini_size 8
              dsimp only
              k_steps
              refine Stop.out ?_
              (with_reducible rename Fr _ _ _ _ => F9)
              (with_reducible rename News _ _ _ _ => N9)
              refine' wpAny_mono (law_keys (P := 248) (V := none4) ?yl ?yil ?yI ?yxs ?yW ?yn ?yB ?yX ?yTop F9 ?ym (List.forall_mem_cons.mpr ⟨N9 _ ?ym0, List.forall_mem_cons.mpr ⟨N9 _ ?ym1, List.forall_mem_cons.mpr ⟨N9 _ ?ym2, List.forall_mem_cons.mpr ⟨N9 _ ?ym3, List.forall_mem_cons.mpr ⟨N9 _ ?ym4, List.forall_mem_cons.mpr ⟨N9 _ ?ym5, List.forall_mem_cons.mpr ⟨N9 _ ?ym6, List.forall_mem_cons.mpr ⟨N9 _ ?ym7, List.forall_mem_cons.mpr ⟨N9 _ ?ym8, News.nil⟩⟩⟩⟩⟩⟩⟩⟩⟩) ?yHS ?yhf ?yl0 ?yl1 ?yT ?yD ?yS ?yG ?ylS ?yQ) (fun _ _ x => x) (fun _ _ x => x.elim)
              case yl => k_is
              case yB => k_asm
              case yX => k_asm
              case yTop => k_asm
              case yHS => assumption
              case ym => exact List.forall_mem_cons.mpr ⟨rfl, List.forall_mem_cons.mpr ⟨rfl, List.forall_mem_cons.mpr ⟨rfl, List.forall_mem_cons.mpr ⟨rfl, fun _ h => absurd h List.not_mem_nil⟩⟩⟩⟩
              case yil => k_asm
              case yI => assumption
              case yxs => exact le63 (by assumption)
              case ym1 => k_mem
              case ym2 => k_mem
              case yT => exact ⟨_, _, _, _, _, _, _, _, _, _, rfl⟩
              case ym0 => k_mem
              case ym3 => k_mem
              case ym4 => k_mem
              case ym5 => k_mem
              case ym6 => k_mem
              case ym7 => k_mem
              case ym8 => k_mem
              case yW => assumption
              case yn => exact len13 _ _
              case yhf => assumption
              case yl0 => omega
              case yl1 => exact ⟨by omega, by omega, by omega, by omega, by omega, by omega, by omega⟩
              case yD => assumption
              case yS => assumption
              case yG => exact good_ini9
              case ylS => exact Nat.le_trans (ins_le _ _) (Nat.succ_le_succ (ini_len 8))
              case yQ =>
                intro h9 t9 m9 F9 N9
                refine And.intro (goodW_bool F9 (by assumption) (fun _ => rfl) ?yp) ⟨GrownAt.of N9 (.head _), trivial⟩
                case yp => first | kc_post | wrow_post))
end Mine
theorem Mine.freshLawAz : True ∧ True := by w_top off; first | (walk1; all_goals trivial) | exact ⟨trivial, trivial⟩
theorem PySem.Challenge.cw_bi0032_01_holds : PySem.Challenge.rw_bi0032_01.Holds :=
  Mine.t1
