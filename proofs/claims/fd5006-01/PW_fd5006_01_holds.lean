import PyProof.Rows.All
import Wide.All
import OpenK.AllK
import Wide.FinOn
import Lean
import PySem.Challenge.RW_fd5006_01
open PySem PySem.W PyProof.Rows PySem.Calls
set_option Elab.async false
namespace Mine
section
set_option maxRecDepth 100000 in
set_option maxHeartbeats 8000000 in
open_top hd for PySem.Challenge.rw_fd5006_01
end
end Mine
namespace Mine
section
/-- a call of a def of the top that changes nothing that stood: all that stands is the callee's ground -/
theorem code_all {prog : Program} {w : World} {A A₀ : Around} {s : Shared} {K : Frag} {L : Addr} {h₀ base : Heap} {m mg mb : Str → Option Value} {p : Program} {loose : List Str} {mean : ExcName → Option Value}
    {env : Env} {outer : List Env} {R : Result → Shared → Prop} {name qual : Str} {params : Arguments} {body : List Stmt} {scope : Scope} {dV kV doc pm cdv ct oc : Value} {an od : Option Addr} {osl : Array (Option Value)} {f : Addr} {args : Args} {binds : List (Str × Value)}
    (B : Below A₀ base outer h₀) (F : Fr h₀ L s.heap m) (X₀ : K.In h₀) (T : Top p loose mean mg mb h₀) (hA : A.frames = some (env :: outer)) (hf : env.frame = some L) (hke : env.scope.kind = .function)
    (ho : K.lookup f = some ⟨oc, od, .func (fnOf name qual params body scope dV kV doc pm an cdv ct), osl⟩) (hcd : codeIn K cdv qual = true) (hroom : A.depth < recursionLimit)
    (hbind : BindsTo s (fnOf name qual params body scope dV kV doc pm an cdv ct) args binds) (hloc : ∀ y ∈ binds, scope.names.lookup y.1 = some .local)
    (h : ∀ g L' h₁, Fr h₀ L g m → (∀ b o, s.heap.get? b = some o → g.get? b = some o) → Fr g L' h₁ (fun y => binds.reverse.lookup y) → News g L' h₁ [] → Below A base (env :: outer) g → K.In g → Top p loose mean mg mb g → (∀ b o, s.heap.get? b = some o → b < L') →
      wpAny (model prog w) (A.deeper (envOf qual scope L' f cdv)) (execs body (envOf qual scope L' f cdv))
        (fun fl s' => LeaveK h₀ L m g (fun r s'' => (∀ b o, s.heap.get? b = some o → s''.heap.get? b = some o) → R r s'') (match fl with | .ret v => v | _ => .none) s')
        (fun e s' => wpAny (model prog w) (A.deeper (envOf qual scope L' f cdv)) (leaving (envOf qual scope L' f cdv) e) (fun _ s'' => R (.error e) s'') (fun e' s'' => R (.error e') s'') s')
        { s with heap := h₁, toks := s.toks + binds.length })
    (hco : scope.isCoroutine = false) (hgen : scope.isGenerator = false) (hk : scope.kind = .function)
    (hcell : ∀ x ∈ scope.names, x.2 ≠ .cell) : codeAny (model prog w) A (.call (.ref f) args) R s := by
  have NH : News h₀ L s.heap [] := News.nil
  obtain ⟨FG, BG, st, lv⟩ := groundX (R := R) B F NH hA hf hke
  refine codeAny_call_def (fd := fnOf name qual params body scope dV kV doc pm an cdv ct) (body := body) (binds := binds) hroom ((X₀.keeps F.keep) _ _ ho) rfl (T.nolimit.keeps F.keep) (codeRec_of (X₀.keeps F.keep) hcd) rfl hbind hcell hloc (fun h₁ hns hk₁ => ?_) hco hgen hk
  have hv : ∀ b o, s.heap.get? b = some o → (hideAll s.heap ([].map fun q : Addr × Obj => q.1)).get? b = some o := fun _ _ e => e
  refine wpAny_mono (h _ s.heap.objs.size h₁ FG hv ⟨hns, fun b o e => hk₁ b o (of_hideAll _ e), Nat.le_of_eq (hideAll_size _ _)⟩
    News.nil BG (X₀.keeps st) (T.keeps st) (fun _ _ e => Heap.lt_size e)) (fun fl s' hl => ?_) fun _ _ y => y
  obtain ⟨L', m', news', F', N', k⟩ := hl
  exact lv _ _ ⟨L', m', news', F', N', fun a b => k a b fun b o e => F'.keep _ _ (hv b o e)⟩
/-- what stood stands -/
abbrev Keeps (h h' : Heap) : Prop := ∀ b o, h.get? b = some o → h'.get? b = some o
theorem News.keeps {h₀ h h' : Heap} {L : Addr} {news : List (Addr × Obj)} (N : News h₀ L h news) (k : Keeps h h') : News h₀ L h' news := fun p hp => ⟨k _ _ (N p hp).1, (N p hp).2⟩
/-- a def that changes nothing that stood: its premise speaks of the heap at the call -/
abbrev ClP (D : Nat) (w : World) (K : Frag) (f : Addr) (pre : Heap → Prop) (vs : List Value) (P : Heap → Heap → List (Addr × Obj) → Value → Prop) : Prop :=
  ∀ (p : Program) (loose : List Str) (mean : ExcName → Option Value) (mg mb : Str → Option Value) (news : List (Addr × Obj)) (dp un : Nat) (gd : Option (List Code)) (cn : Str) (cs : Scope) (a : Addr) (ccd : Value) (cl : List (Str × Addr)) (outer : List Env) (A₀ : Around) (base h₀ : Heap) (L : Addr) (m : Str → Option Value) (s : Shared) (Q E : Value → Shared → Prop),
    Below A₀ base outer h₀ → Fr h₀ L s.heap m → K.In h₀ → News h₀ L s.heap news → Top p loose mean mg mb h₀ → cs.kind = .function →
    dp + D < recursionLimit → un + 10 * D < cLine → pre s.heap →
    (∀ (v : Value) (own : List (Addr × Obj)) (h' : Heap) (tk' : Nat), Fr h₀ L h' m → News h₀ L h' (own ++ news) → Keeps s.heap h' → P s.heap h' own v → Q v { s with heap := h', toks := tk' }) →
      wpAny (model PySem.Challenge.rw_fd5006_01.row.prog w) (ktrTop dp un gd cn cs L a ccd cl outer) (call (.ref f) vs) Q E s
theorem ClP.use {D : Nat} {w : World} {K : Frag} {f : Addr} {pre : Heap → Prop} {vs : List Value} {P : Heap → Heap → List (Addr × Obj) → Value → Prop} (C : ClP D w K f pre vs P)
    {p : Program} {loose : List Str} {mean : ExcName → Option Value} {mg mb : Str → Option Value} {news : List (Addr × Obj)} {dp un : Nat} {gd : Option (List Code)} {cn : Str} {cs : Scope} {a : Addr} {ccd : Value} {cl : List (Str × Addr)} {outer : List Env} {A₀ : Around} {base h₀ : Heap} {L : Addr} {m : Str → Option Value} {s : Shared} {Q E : Value → Shared → Prop}
    (B : Below A₀ base outer h₀) (F : Fr h₀ L s.heap m) (X : K.In h₀) (N : News h₀ L s.heap news) (T : Top p loose mean mg mb h₀) (hk : cs.kind = .function)
    (hd : dp + D < recursionLimit) (hu : un + 10 * D < cLine) (hp : pre s.heap)
    (hret : ∀ (v : Value) (own : List (Addr × Obj)) (h' : Heap) (tk' : Nat), Fr h₀ L h' m → News h₀ L h' (own ++ news) → Keeps s.heap h' → P s.heap h' own v → Q v { s with heap := h', toks := tk' }) :
    wpAny (model PySem.Challenge.rw_fd5006_01.row.prog w) (ktrTop dp un gd cn cs L a ccd cl outer) (call (.ref f) vs) Q E s :=
  C p loose mean mg mb news dp un gd cn cs a ccd cl outer A₀ base h₀ L m s Q E B F X N T hk hd hu hp hret
/-- an int comes back | a bool | a new list of ints -/
def OutI (x : Int) (_h _h' : Heap) (own : List (Addr × Obj)) (v : Value) : Prop := own = [] ∧ ∃ t, v = .int x t
def OutB (x : Bool) (_h _h' : Heap) (own : List (Addr × Obj)) (v : Value) : Prop := own = [] ∧ v = .bool x
def OutL (xs : List Int) (h _h' : Heap) (own : List (Addr × Obj)) (v : Value) : Prop := ∃ D us c, own = [(D, listOf (List.toArray us) c)] ∧ v = .ref D ∧ IntsAre us xs ∧ ∀ b o, h.get? b = some o → b ≠ D
theorem retI {h₀ : Heap} {L : Addr} {m : Str → Option Value} {news : List (Addr × Obj)} {s : Shared} {Q : Value → Shared → Prop} {x y : Int} {t : Tok} {h' : Heap} {tk' : Nat}
    (hret : ∀ (v : Value) (own : List (Addr × Obj)) (h' : Heap) (tk' : Nat), Fr h₀ L h' m → News h₀ L h' (own ++ news) → Keeps s.heap h' → OutI x s.heap h' own v → Q v { s with heap := h', toks := tk' })
    (e : y = x) (F : Fr h₀ L h' m) (N : News h₀ L s.heap news) (k : Keeps s.heap h') : Q (.int y t) { s with heap := h', toks := tk' } := by
  subst e; exact hret _ [] h' tk' F (N.keeps k) k ⟨rfl, t, rfl⟩
theorem retB {h₀ : Heap} {L : Addr} {m : Str → Option Value} {news : List (Addr × Obj)} {s : Shared} {Q : Value → Shared → Prop} {x y : Bool} {h' : Heap} {tk' : Nat}
    (hret : ∀ (v : Value) (own : List (Addr × Obj)) (h' : Heap) (tk' : Nat), Fr h₀ L h' m → News h₀ L h' (own ++ news) → Keeps s.heap h' → OutB x s.heap h' own v → Q v { s with heap := h', toks := tk' })
    (e : y = x) (F : Fr h₀ L h' m) (N : News h₀ L s.heap news) (k : Keeps s.heap h') : Q (.bool y) { s with heap := h', toks := tk' } := by
  subst e; exact hret _ [] h' tk' F (N.keeps k) k ⟨rfl, rfl⟩
theorem retL {h₀ g h₂ : Heap} {L L₂ D : Addr} {m : Str → Option Value} {news nx : List (Addr × Obj)} {s : Shared} {Q : Value → Shared → Prop} {xs ys : List Int} {us : List Value} {c : Nat} {h' : Heap} {tk' : Nat}
    (hret : ∀ (v : Value) (own : List (Addr × Obj)) (h' : Heap) (tk' : Nat), Fr h₀ L h' m → News h₀ L h' (own ++ news) → Keeps s.heap h' → OutL xs s.heap h' own v → Q v { s with heap := h', toks := tk' })
    (F : Fr h₀ L h' m) (N : News h₀ L s.heap news) (k : Keeps s.heap h') (N' : News h₀ L h' nx) (hm : (D, listOf us.toArray c) ∈ nx) (hi : IntsAre us ys) (e : ys = xs) (hv : ∀ b o, s.heap.get? b = some o → g.get? b = some o) (Ng : News g L₂ h₂ nx) : Q (.ref D) { s with heap := h', toks := tk' } := by
  subst e
  refine hret _ [(D, listOf us.toArray c)] h' tk' F (fun q hq => ?_) k ⟨D, us, c, rfl, rfl, hi, fun b o e h9 => by have e2 := hv b o e; rw [h9, (Ng _ hm).2.2] at e2; cases e2⟩
  rcases List.mem_cons.mp hq with rfl | hq
  · exact N' _ hm
  · exact (N.keeps k) q hq

def singleF (k : Int) : Bool := if k = 0 then false else Builtin.bitAnd k (k - 1) == 0
def highF (k : Int) : Int := (Builtin.Int.intBits k : Int) - 1
def sumF (ns : List Int) : Int := ns.foldl (fun t n => Builtin.bitXor t (n.fmod 3)) 0
/-- a claim for a def whose names are cells: its list stands in the outermost ground -/
abbrev ClB (D : Nat) (w : World) (K : Frag) (f : Addr) (pre : Heap → Prop) (vs : List Value) (P : List (Addr × Obj) → Value → Prop) : Prop :=
  ∀ (p : Program) (loose : List Str) (mean : ExcName → Option Value) (mg mb : Str → Option Value) (dp un : Nat) (gd : Option (List Code)) (cn : Str) (cs : Scope) (a : Addr) (ccd : Value) (cl : List (Str × Addr)) (outer : List Env) (A₀ : Around) (base h₀ : Heap) (L : Addr) (m : Str → Option Value) (s : Shared) (Q E : Value → Shared → Prop),
    Below A₀ base outer h₀ → Fr h₀ L s.heap m → K.In h₀ → Top p loose mean mg mb h₀ → cs.kind = .function →
    dp + D < recursionLimit → un + 10 * D < cLine → pre base →
    (∀ (v : Value) (own : List (Addr × Obj)) (h' : Heap) (tk' : Nat), Fr h₀ L h' m → News h₀ L h' own → P own v → Q v { s with heap := h', toks := tk' }) →
      wpAny (model PySem.Challenge.rw_fd5006_01.row.prog w) (ktrTop dp un gd cn cs L a ccd cl outer) (call (.ref f) vs) Q E s
theorem ClB.use {D : Nat} {w : World} {K : Frag} {f : Addr} {pre : Heap → Prop} {vs : List Value} {P : List (Addr × Obj) → Value → Prop} (C : ClB D w K f pre vs P)
    {p : Program} {loose : List Str} {mean : ExcName → Option Value} {mg mb : Str → Option Value} {dp un : Nat} {gd : Option (List Code)} {cn : Str} {cs : Scope} {a : Addr} {ccd : Value} {cl : List (Str × Addr)} {outer : List Env} {A₀ : Around} {base h₀ : Heap} {L : Addr} {m : Str → Option Value} {s : Shared} {Q E : Value → Shared → Prop}
    (B : Below A₀ base outer h₀) (F : Fr h₀ L s.heap m) (X : K.In h₀) (T : Top p loose mean mg mb h₀) (hk : cs.kind = .function)
    (hd : dp + D < recursionLimit) (hu : un + 10 * D < cLine) (hp : pre base)
    (hret : ∀ (v : Value) (own : List (Addr × Obj)) (h' : Heap) (tk' : Nat), Fr h₀ L h' m → News h₀ L h' own → P own v → Q v { s with heap := h', toks := tk' }) :
    wpAny (model PySem.Challenge.rw_fd5006_01.row.prog w) (ktrTop dp un gd cn cs L a ccd cl outer) (call (.ref f) vs) Q E s :=
  C p loose mean mg mb dp un gd cn cs a ccd cl outer A₀ base h₀ L m s Q E B F X T hk hd hu hp hret
/-- three heaps come back as a new list -/
def OutH (many : Int) (own : List (Addr × Obj)) (v : Value) : Prop := ∃ D us c x y z, own = [(D, listOf (List.toArray us) c)] ∧ v = .ref D ∧ IntsAre us [x, y, z] ∧ 0 ≤ x ∧ x < many ∧ 0 ≤ y ∧ y < many ∧ 0 ≤ z ∧ z < many
end
end Mine
namespace Mine
section
local macro_rules | `(tactic| walk_at "mine spare 0") => `(tactic| fail "spare")
local macro_rules | `(tactic| cell_enter) => `(tactic| (refine' code_all ?k1 ?k2 ?k3 ?k5 ?kA ?kF ?kK ?k6 ?k7 ?k8 ?k9 ?kB ?_ ?c2 ?c3 ?c4 ?c5; (case kA => exact rfl); (case kF => exact rfl); (case kK => assumption); (case k1 => k_asm); (case k2 => k_asm); (case k3 => k_asm); (case k5 => k_asm); (case k6 => k_is); (case k7 => k_is); (case k8 => ktr_room); (case k9 => exact BindsTo.of_eq rfl); (case c5 => decide); (case kB => exact locs rfl); (case c2 => exact rfl); (case c3 => exact rfl); (case c4 => exact rfl); k_whole))
set_option maxRecDepth 100000 in
set_option maxHeartbeats 8000000 in
theorem single_call (w : World) (k : Int) (tk : Tok) : ClP 1 w (hd.heap_39 w.params) 21 (fun _ => True) [.int k tk] (OutB (singleF k)) := by
  w_top off
  dsimp only [ClP]
  k_fill
  intro p loose mean mg mb news dp un gd cn cs a ccd cl outer A₀ base h₀ L m s Q E B F X N T hk hdp hun hpre hret
  refine wpAny_call ?_
  k_dflt cell_enter
  intro g' L' h' FG' hvis F' N' B' X' T' hlt
  try dsimp only
  try k_fold
  k_steps
  · refine retB hret ?_ (by assumption) N (by assumption)
    with_reducible rename _ = 0 => h1
    simp [singleF, h1]
  · refine retB hret ?_ (by assumption) N (by assumption)
    with_reducible rename _ ≠ 0 => h1
    simp [singleF, h1]
set_option maxRecDepth 100000 in
set_option maxHeartbeats 8000000 in
theorem high_call (w : World) (k : Int) (tk : Tok) : ClP 1 w (hd.heap_39 w.params) 28 (fun _ => True) [.int k tk] (OutI (highF k)) := by
  dsimp only [ClP]
  k_fill
  intro p loose mean mg mb news dp un gd cn cs a ccd cl outer A₀ base h₀ L m s Q E B F X N T hk hdp hun hpre hret
  refine wpAny_call ?_
  k_dflt cell_enter
  intro g' L' h' FG' hvis F' N' B' X' T' hlt
  try dsimp only
  try k_fold
  k_steps
  exact retI hret rfl (by assumption) N (by assumption)
set_option maxRecDepth 100000 in
set_option maxHeartbeats 8000000 in
theorem sum_call (w : World) (l : Addr) (us : List Value) (ns : List Int) (hi : IntsAre us ns) (hfit : ns.length < 1000) :
    ClP 1 w (hd.heap_39 w.params) 47 (fun h => h.IsList l us.toArray) [.ref l] (OutI (sumF ns)) := by
  dsimp only [ClP]
  k_fill
  intro p loose mean mg mb news dp un gd cn cs a ccd cl outer A₀ base h₀ L m s Q E B F X N T hk hdp hun hpre hret
  refine wpAny_call ?_
  k_dflt cell_enter
  intro g' L' h' FG' hvis F' N' B' X' T' hlt
  try dsimp only
  try k_fold
  have hl : g'.IsList l us.toArray := hpre.at fun o e => hvis _ _ e
  k_with_none
  k_with "pyIter ref" => k_state (fun pre total => total = sumF pre) "total"
  k_with "state" => first | exact rfl | (simp only [sumF, List.foldl_append, List.foldl_cons, List.foldl_nil]; subst_vars; rfl)
  k_steps
  exact retI hret (by assumption) (by assumption) N (by assumption)
def lessF (ns : List Int) (k d : Int) : List Int := ns.take k.toNat ++ [ns.getD k.toNat 0 - d] ++ ns.drop (k + 1).toNat
set_option maxRecDepth 100000 in
set_option maxHeartbeats 8000000 in
theorem less_call (w : World) (l : Addr) (us : List Value) (ns : List Int) (hi : IntsAre us ns) (hfit : ns.length < 1000) (k d : Int) (tk tk2 : Tok) (h0 : 0 ≤ k) (h1 : k < ns.length) :
    ClP 1 w (hd.heap_39 w.params) 54 (fun h => h.IsList l us.toArray) [.ref l, .int k tk, .int d tk2] (OutL (lessF ns k d)) := by
  dsimp only [ClP]
  k_fill
  intro p loose mean mg mb news dp un gd cn cs a ccd cl outer A₀ base h₀ L m s Q E B F X N T hk hdp hun hpre hret
  refine wpAny_call ?_
  k_dflt cell_enter
  intro g' L' h' FG' hvis F' N' B' X' T' hlt
  try dsimp only
  try k_fold
  have hl : g'.IsList l us.toArray := hpre.at fun o e => hvis _ _ e
  k_with_none
  k_steps
  exact retL hret (by assumption) N (by assumption) (by assumption) (.head _) (by assumption) rfl hvis (by assumption)
end
end Mine
namespace Mine
section
local macro_rules | `(tactic| walk_at "mine spare 0") => `(tactic| fail "spare")
local macro_rules | `(tactic| walk_at "mine spare 1") => `(tactic| fail "spare")
theorem hp_start (many : Int) (h0 : 0 < many) (ns : List Int) : ((ns.take 3).map fun k' => (if k' < 0 then -k' else k').fmod many).length ≤ 3 ∧ ∀ r ∈ (ns.take 3).map fun k' => (if k' < 0 then -k' else k').fmod many, 0 ≤ r ∧ r < many := by
  refine ⟨by simp; omega, fun r hr => ?_⟩
  obtain ⟨k, _, rfl⟩ := List.mem_map.mp hr
  exact ⟨fmod_lo _ h0, fmod_hi _ h0⟩
theorem hp_turn {many : Int} (h0 : 0 < many) {row : List Int} (x : Int) (h1 : (row.length : Int) < 3) (h2 : ∀ r ∈ row, 0 ≤ r ∧ r < many) :
    (row ++ [x.fmod many]).length ≤ 3 ∧ ∀ r ∈ row ++ [x.fmod many], 0 ≤ r ∧ r < many := by
  refine ⟨by simp; omega, fun r hr => ?_⟩
  rcases List.mem_append.mp hr with h | h
  · exact h2 r h
  · rw [List.mem_singleton.mp h]; exact ⟨fmod_lo _ h0, fmod_hi _ h0⟩
theorem hp_three {row : List Int} (h1 : row.length ≤ 3) (h2 : ¬ (row.length : Int) < 3) : ∃ x y z, row = [x, y, z] := by
  match row, h1, h2 with
  | [x, y, z], _, _ => exact ⟨x, y, z, rfl⟩
  | [], _, h => simp at h
  | [_], _, h => simp at h
  | [_, _], _, h => simp at h
  | _ :: _ :: _ :: _ :: _, h, _ => simp at h
theorem retH {h₀ : Heap} {L D : Addr} {m : Str → Option Value} {nx : List (Addr × Obj)} {s : Shared} {Q : Value → Shared → Prop} {row : List Int} {us : List Value} {c : Nat} {h' : Heap} {tk' : Nat} {many : Int}
    (hret : ∀ (v : Value) (own : List (Addr × Obj)) (h' : Heap) (tk' : Nat), Fr h₀ L h' m → News h₀ L h' own → OutH many own v → Q v { s with heap := h', toks := tk' })
    (F : Fr h₀ L h' m) (N' : News h₀ L h' nx) (hm : (D, listOf us.toArray c) ∈ nx) (hi : IntsAre us row) (h1 : row.length ≤ 3) (h2 : ¬ (row.length : Int) < 3) (h3 : ∀ r ∈ row, 0 ≤ r ∧ r < many) : Q (.ref D) { s with heap := h', toks := tk' } := by
  obtain ⟨x, y, z, rfl⟩ := hp_three h1 h2
  refine hret _ [(D, listOf us.toArray c)] _ _ F (fun q hq => ?_) ⟨D, us, c, x, y, z, rfl, rfl, hi, (h3 x (by simp)).1, (h3 x (by simp)).2, (h3 y (by simp)).1, (h3 y (by simp)).2, (h3 z (by simp)).1, (h3 z (by simp)).2⟩
  rw [List.mem_singleton.mp hq]
  exact N' _ hm
set_option maxRecDepth 100000 in
set_option maxHeartbeats 8000000 in
theorem heaps_call (w : World) (l : Addr) (us : List Value) (ns : List Int) (hi : IntsAre us ns) (hfit : ns.length < 1000) (many : Int) (tk : Tok) (h0 : 0 < many) :
    ClB 3 w (hd.heap_39 w.params) 33 (fun h => h.IsList l us.toArray) [.ref l, .int many tk] (OutH many) := by
  w_top off
  dsimp only [ClB]
  k_fill
  intro p loose mean mg mb dp un gd cn cs a ccd cl outer A₀ base h₀ L m s Q E B F X T hk hdp hun hl hret
  have N : News h₀ L s.heap [] := News.nil
  refine wpAny_call ?_
  k_dflt (refine' code_defC ?k1 ?k2 ?k3 ?k4 ?k5 ?kA ?kF ?kK ?k6 ?k7 ?k8 ?k9 ?kB ?kD ?_ ?c2 ?c3 ?c4; (case kA => exact rfl); (case kF => exact rfl); (case kK => assumption); (case k1 => k_asm); (case k2 => k_asm); (case k3 => k_asm); (case k4 => k_asm); (case k5 => k_asm); (case k6 => k_is); (case k7 => k_is); (case k8 => ktr_room); (case k9 => exact BindsTo.of_eq rfl); (case kB => exact rfl); (case kD => decide +kernel); (case c2 => exact rfl); (case c3 => exact rfl); (case c4 => exact rfl); k_whole)
  intro g' L' h' tk' cells' FG' F' N' Y' B' X' T' l1
  try k_lt l1
  k_cells Y'
  try simp only [List.cons_append, List.nil_append] at N'
  try dsimp only
  try k_lift B'
  try k_fold
  k_with_none
  k_with "exec While Compare cons nil" => k_while (fun _ row => row.length ≤ 3 ∧ ∀ r ∈ row, 0 ≤ r ∧ r < many) (fun _ row => 3 - row.length) "row"
  k_with "state" => first | exact hp_start many h0 ns | exact hp_turn h0 _ (by assumption) (by assumption)
  k_steps
  exact retH hret (by assumption) (by assumption) (by kcf_m) (by assumption) (by assumption) (by assumption) (by assumption)
end
end Mine
namespace Mine
section
theorem bits_facts {n : Int} (h0 : 0 ≤ n) : -1 ≤ highF n ∧ n < 2 ^ (highF n + 1).toNat ∧ (0 < n → 0 ≤ highF n ∧ 2 ^ (highF n).toNat ≤ n) := by
  unfold highF Builtin.Int.intBits
  by_cases h : n = 0
  · subst h; simp
  · obtain ⟨N, rfl⟩ : ∃ N : Nat, n = N := ⟨n.toNat, by omega⟩
    have hb : ((N : Int) == 0) = false := by simpa using h
    have hN : N ≠ 0 := by omega
    rw [hb]
    simp only [Bool.false_eq_true, if_false, Int.natAbs_natCast]
    have h1 := Nat.log2_self_le hN
    have h2 : N < 2 ^ (N.log2 + 1) := Nat.lt_log2_self
    refine ⟨by omega, ?_, fun _ => ⟨by omega, ?_⟩⟩
    · have e : (((N.log2 + 1 : Nat) : Int) - 1 + 1).toNat = N.log2 + 1 := by omega
      rw [e]; exact_mod_cast h2
    · have e : (((N.log2 + 1 : Nat) : Int) - 1).toNat = N.log2 := by omega
      rw [e]; exact_mod_cast h1
theorem high_le {n : Int} (h0 : 0 ≤ n) (h1 : n < 10 ^ 24) : highF n ≤ 79 := by
  obtain ⟨a, b, c⟩ := bits_facts h0
  by_cases hn : 0 < n
  · obtain ⟨d, e⟩ := c hn
    by_cases h : highF n ≤ 79
    · exact h
    · have h2 : 2 ^ 80 ≤ 2 ^ (highF n).toNat := Nat.pow_le_pow_right (by omega) (by omega)
      have h3 : ((2 ^ 80 : Nat) : Int) ≤ ((2 ^ (highF n).toNat : Nat) : Int) := Int.ofNat_le.mpr h2
      have h4 : (((2 ^ (highF n).toNat : Nat)) : Int) = 2 ^ (highF n).toNat := by norm_cast
      rw [h4] at h3
      omega
  · have : n = 0 := by omega
    subst this; decide
theorem single_pow : ∀ p : Fin 80, singleF (1 * 2 ^ p.val) = true := by decide +kernel
def X3 (a b c : Int) : Int := Builtin.bitXor (Builtin.bitXor (Builtin.bitXor 0 a) b) c
theorem sum3 (x y z : Int) : sumF [x, y, z] = X3 (x.fmod 3) (y.fmod 3) (z.fmod 3) := rfl
theorem mod3 (x : Int) : ∃ r : Fin 3, x.fmod 3 = (r.val : Int) := by
  have h1 := fmod_lo x (n := 3) (by omega)
  have h2 := fmod_hi x (n := 3) (by omega)
  exact ⟨⟨(x.fmod 3).toNat, by omega⟩, by simp only; omega⟩
theorem x3_moved : ∀ a b c a' : Fin 3, X3 (a.val : Int) (b.val : Int) (c.val : Int) = 0 → a' ≠ a → X3 (a'.val : Int) (b.val : Int) (c.val : Int) ≠ 0 ∧ X3 (b.val : Int) (a'.val : Int) (c.val : Int) ≠ 0 ∧ X3 (b.val : Int) (c.val : Int) (a'.val : Int) ≠ 0 := by decide +kernel
theorem x3_comm : ∀ a b c : Fin 3, X3 (a.val : Int) (b.val : Int) (c.val : Int) = X3 (b.val : Int) (a.val : Int) (c.val : Int) ∧ X3 (a.val : Int) (b.val : Int) (c.val : Int) = X3 (c.val : Int) (a.val : Int) (b.val : Int) := by decide +kernel
theorem x3_high : ∀ a b c : Fin 3, (highF (X3 (a.val : Int) (b.val : Int) (c.val : Int)) = -1 ↔ X3 (a.val : Int) (b.val : Int) (c.val : Int) = 0) := by decide +kernel
theorem sum_high (x y z : Int) : highF (sumF [x, y, z]) = -1 ↔ sumF [x, y, z] = 0 := by
  obtain ⟨a, ha⟩ := mod3 x
  obtain ⟨b, hb⟩ := mod3 y
  obtain ⟨c, hc⟩ := mod3 z
  rw [sum3, ha, hb, hc]
  exact x3_high a b c
theorem pow_mod3 (p : Nat) : ((2 : Int) ^ p) % 3 = 1 ∨ ((2 : Int) ^ p) % 3 = 2 := by
  induction p with
  | zero => left; rfl
  | succ p ih => rw [Int.pow_succ]; omega
theorem less3 (x y z d : Int) : lessF [x, y, z] 0 d = [x - d, y, z] ∧ lessF [x, y, z] 1 d = [x, y - d, z] ∧ lessF [x, y, z] 2 d = [x, y, z - d] := ⟨rfl, rfl, rfl⟩
theorem moved_mod (x d : Int) (hd : d % 3 = 1 ∨ d % 3 = 2) {a a' : Fin 3} (h1 : x.fmod 3 = (a.val : Int)) (h2 : (x - d).fmod 3 = (a'.val : Int)) : a' ≠ a := by
  rintro rfl
  rw [Int.fmod_eq_emod_of_nonneg _ (by omega)] at h1 h2
  omega
/-- one step of a power of two leads away from nought -/
theorem sum_away {x y z k d : Int} (hk : 0 ≤ k) (hk3 : k < 3) (hs : sumF [x, y, z] = 0) (hd : d % 3 = 1 ∨ d % 3 = 2) : highF (sumF (lessF [x, y, z] k d)) ≠ -1 := by
  obtain ⟨a, ha⟩ := mod3 x
  obtain ⟨b, hb⟩ := mod3 y
  obtain ⟨c, hc⟩ := mod3 z
  rw [sum3, ha, hb, hc] at hs
  have hc1 := x3_comm a b c
  obtain ⟨l0, l1, l2⟩ := less3 x y z d
  have hk' : k = 0 ∨ k = 1 ∨ k = 2 := by omega
  rcases hk' with rfl | rfl | rfl
  · rw [l0, Ne, sum_high]
    obtain ⟨a', ha'⟩ := mod3 (x - d)
    rw [sum3, ha', hb, hc]
    exact (x3_moved a b c a' hs (moved_mod x d hd ha ha')).1
  · rw [l1, Ne, sum_high]
    obtain ⟨a', ha'⟩ := mod3 (y - d)
    rw [sum3, ha, ha', hc]
    exact (x3_moved b a c a' (hc1.1 ▸ hs) (moved_mod y d hd hb ha')).2.1
  · rw [l2, Ne, sum_high]
    obtain ⟨a', ha'⟩ := mod3 (z - d)
    rw [sum3, ha, hb, ha']
    exact (x3_moved c a b a' (hc1.2 ▸ hs) (moved_mod z d hd hc ha')).2.2
/-- what _law_kept asks of a heap -/
theorem kept_outer' {us : List Value} {x y z k : Int} (_hi : IntsAre us [x, y, z]) (hx : 0 ≤ x ∧ x < 10 ^ 24) (hy : 0 ≤ y ∧ y < 10 ^ 24) (hz : 0 ≤ z ∧ z < 10 ^ 24) (hk : 0 ≤ k) (hk3 : k < 3) :
    0 ≤ [x, y, z].getD k.toNat 0 ∧ -1 ≤ highF ([x, y, z].getD k.toNat 0) ∧ highF ([x, y, z].getD k.toNat 0) ≤ 79 ∧ ([x, y, z].getD k.toNat 0 ≤ 0 ∨ 0 ≤ highF ([x, y, z].getD k.toNat 0)) ∧
      ¬ (1 * 2 ^ (highF ([x, y, z].getD k.toNat 0) + 1).toNat ≤ [x, y, z].getD k.toNat 0) ∧ (0 < [x, y, z].getD k.toNat 0 → ¬ 1 * 2 ^ (highF ([x, y, z].getD k.toNat 0)).toNat > [x, y, z].getD k.toNat 0) := by
  have key : ∀ n : Int, 0 ≤ n ∧ n < 10 ^ 24 → 0 ≤ n ∧ -1 ≤ highF n ∧ highF n ≤ 79 ∧ (n ≤ 0 ∨ 0 ≤ highF n) ∧ ¬ (1 * 2 ^ (highF n + 1).toNat ≤ n) ∧ (0 < n → ¬ 1 * 2 ^ (highF n).toNat > n) := by
    intro n ⟨h0, h1⟩
    obtain ⟨a, b, c⟩ := bits_facts h0
    refine ⟨h0, a, high_le h0 h1, ?_, ?_, ?_⟩
    · by_cases hn : 0 < n
      · exact .inr (c hn).1
      · exact .inl (by omega)
    · rw [Int.one_mul]; omega
    · intro hn; have := (c hn).2; rw [Int.one_mul]; omega
  have hk' : k = 0 ∨ k = 1 ∨ k = 2 := by omega
  rcases hk' with rfl | rfl | rfl
  · exact key x hx
  · exact key y hy
  · exact key z hz
theorem with_outer {P : Prop} {us : List Value} {x y z k : Int} (hi : IntsAre us [x, y, z]) (hx : 0 ≤ x ∧ x < 10 ^ 24) (hy : 0 ≤ y ∧ y < 10 ^ 24) (hz : 0 ≤ z ∧ z < 10 ^ 24) (hk : 0 ≤ k) (hk3 : k < 3)
    (h : 0 ≤ [x, y, z].getD k.toNat 0 → -1 ≤ highF ([x, y, z].getD k.toNat 0) → highF ([x, y, z].getD k.toNat 0) ≤ 79 → ([x, y, z].getD k.toNat 0 ≤ 0 ∨ 0 ≤ highF ([x, y, z].getD k.toNat 0)) →
      ¬ (1 * 2 ^ (highF ([x, y, z].getD k.toNat 0) + 1).toNat ≤ [x, y, z].getD k.toNat 0) → (0 < [x, y, z].getD k.toNat 0 → ¬ 1 * 2 ^ (highF ([x, y, z].getD k.toNat 0)).toNat > [x, y, z].getD k.toNat 0) → k < 3 → P) : P :=
  let ⟨a, b, c, d, e, f⟩ := kept_outer' hi hx hy hz hk hk3
  h a b c d e f hk3
theorem single_no {k : Int} (h0 : 0 ≤ k) (h1 : k ≤ 79) (e : singleF (1 * 2 ^ k.toNat) = false) : False := by
  have := single_pow ⟨k.toNat, by omega⟩
  rw [this] at e
  cases e
theorem away_no {us : List Value} {x y z k : Int} {q : Nat} (_hi : IntsAre us [x, y, z]) (hs : sumF [x, y, z] = 0) (e : highF (sumF (lessF [x, y, z] k (1 * 2 ^ q))) = -1) (hk : 0 ≤ k) (hk3 : k < 3) : False :=
  sum_away hk hk3 hs (by rw [Int.one_mul]; exact pow_mod3 q) e
theorem over_no {n A : Int} (f : 0 < n → ¬ A > n) (h : 0 < n) (g : n < A) : False := f h g
end
end Mine
namespace Mine
section
/-- code_all for a def some of whose names are cells -/
theorem code_allC {prog : Program} {w : World} {A A₀ : Around} {s : Shared} {K : Frag} {L : Addr} {h₀ base : Heap} {m mg mb : Str → Option Value} {p : Program} {loose : List Str} {mean : ExcName → Option Value}
    {env : Env} {outer : List Env} {R : Result → Shared → Prop} {name qual : Str} {params : Arguments} {body : List Stmt} {scope : Scope} {dV kV doc pm cdv ct oc : Value} {an od : Option Addr} {osl : Array (Option Value)} {f : Addr} {args : Args} {binds : List (Str × Value)}
    (B : Below A₀ base outer h₀) (F : Fr h₀ L s.heap m) (X₀ : K.In h₀) (T : Top p loose mean mg mb h₀) (hA : A.frames = some (env :: outer)) (hf : env.frame = some L) (hke : env.scope.kind = .function)
    (ho : K.lookup f = some ⟨oc, od, .func (fnOf name qual params body scope dV kV doc pm an cdv ct), osl⟩) (hcd : codeIn K cdv qual = true) (hroom : A.depth < recursionLimit)
    (hbind : BindsTo s (fnOf name qual params body scope dV kV doc pm an cdv ct) args binds) (hkind : (binds.all fun y => scope.names.lookup y.1 == some .local || scope.names.lookup y.1 == some .cell) = true)
    (hnd : ((cellsFrom 0 scope.names []).map (·.1)).Nodup)
    (h : ∀ g L' h₁ tk cells, Fr h₀ L g m → (∀ b o, s.heap.get? b = some o → g.get? b = some o) → Fr g L' h₁ (bindL (envOfC qual scope L' f cdv).kindOf binds fun _ => none) → News g L' h₁ cells →
      CellsAre (bindC (envOfC qual scope L' f cdv).kindOf binds fun _ => none) (cellsFrom (L' + 1) scope.names []) cells → Below A base (env :: outer) g → K.In g → Top p loose mean mg mb g →
      wpAny (model prog w) (A.deeper (envOfC qual scope L' f cdv)) (execs body (envOfC qual scope L' f cdv))
        (fun fl s' => LeaveK h₀ L m g (fun r s'' => (∀ b o, s.heap.get? b = some o → s''.heap.get? b = some o) → R r s'') (match fl with | .ret v => v | _ => .none) s')
        (fun e s' => wpAny (model prog w) (A.deeper (envOfC qual scope L' f cdv)) (leaving (envOfC qual scope L' f cdv) e) (fun _ s'' => R (.error e) s'') (fun e' s'' => R (.error e') s'') s')
        { s with heap := h₁, toks := tk })
    (hco : scope.isCoroutine = false) (hgen : scope.isGenerator = false) (hk : scope.kind = .function) : codeAny (model prog w) A (.call (.ref f) args) R s := by
  have NH : News h₀ L s.heap [] := News.nil
  obtain ⟨FG, BG, st, lv⟩ := groundX (R := R) B F NH hA hf hke
  refine codeAny_call_function hroom ((X₀.keeps F.keep) _ _ ho) rfl hco hgen rfl (codeRec_of (X₀.keeps F.keep) hcd) (hbind _ _ _ _ ?_)
  refine wpAny_newFunctionEnv_cells hk (kindsX hkind _) fun env' he s' x => ?_
  subst he
  refine ⟨(T.nolimit.keeps F.keep).keeps x.toInCall.keep, codeAny_func ?_⟩
  obtain ⟨h₁, tk, rfl, _⟩ := x.done
  have hk₁ := x.toInCall.keep
  obtain ⟨cells, NC, Y⟩ := Cl.news (h₀ := s.heap) (Nat.le_refl _) fun n c hm => ⟨x.cell n c (lookup_of_mem_nodup (cellsFrom_names scope.names 0 (s.heap.objs.size + 1) [] [] rfl ▸ hnd) hm), x.above n c hm⟩
  have hv : ∀ b o, s.heap.get? b = some o → (hideAll s.heap ([].map fun q : Addr × Obj => q.1)).get? b = some o := fun _ _ e => e
  refine wpAny_mono (h _ s.heap.objs.size h₁ tk cells FG hv ⟨x.toInCall.ns, fun b o e => hk₁ b o (of_hideAll _ e), Nat.le_of_eq (hideAll_size _ _)⟩ NC Y BG (X₀.keeps st) (T.keeps st)) (fun fl s' hl => ?_) fun _ _ y => y
  obtain ⟨L', m', news', F', N', k⟩ := hl
  exact lv _ _ ⟨L', m', news', F', N', fun a b => k a b fun b o e => F'.keep _ _ (hv b o e)⟩
end
end Mine
namespace Mine
section
local macro_rules | `(tactic| cell_enter) => `(tactic| (refine' code_all ?k1 ?k2 ?k3 ?k5 ?kA ?kF ?kK ?k6 ?k7 ?k8 ?k9 ?kB ?_ ?c2 ?c3 ?c4 ?c5; (case kA => exact rfl); (case kF => exact rfl); (case kK => assumption); (case k1 => k_asm); (case k2 => k_asm); (case k3 => k_asm); (case k5 => k_asm); (case k6 => k_is); (case k7 => k_is); (case k8 => ktr_room); (case k9 => exact BindsTo.of_eq rfl); (case c5 => decide); (case kB => exact locs rfl); (case c2 => exact rfl); (case c3 => exact rfl); (case c4 => exact rfl); k_whole))
local macro_rules | `(tactic| walk_at "exec For Name Call cons nil") => `(tactic| (k_here; (rename Fr _ _ _ _ => lF'); (with_unfolding_all refine' For_invVF lF' ?k1 ?k2 ?_; (case k1 => exact rfl); (case k2 => exact rfl); k_whole)))
local macro_rules | `(tactic| walk_at "pyIter ref") => `(tactic| (k_here; k_dflt ((with_reducible rename Fr _ _ _ _ => lF'); (with_reducible rename News _ _ _ _ => lN'); (with_reducible rename IsRange _ _ _ _ _ _ _ _ => rgX); (refine' kst_range (fun _ : Unit => _) (fun _ => []) (fun _ => True) [Str.ofString "last", Str.ofString "place"] (fun _ _ => True) () ?kh rgX ?ks ?kn lF' lN' ?kf ?kk ?kp ?_ ?_); (case kh => rfl); (case ks => exact small_one (by omega) (by omega) (by omega) (by omega)); (case kn => exact rangeSize_nat _ _); (case kf => trivial); (case kk => exact List.forall_mem_nil _); (case kp => trivial); (intro c9 pre9 k9 t9 u9 h9 tk9 own9 hk9 hl9 hoff9 _ _ F9 N9; clear lF' lN'; dsimp only [kstB] at F9; (try dsimp only at N9); (have hz9 : 0 ≤ k9 := by omega); (first | (refine' with_outer (k := k9) ?q1 ?q2 ?q3 ?q4 ?q5 ?q6 ?_; (case q1 => assumption); (case q2 => assumption); (case q3 => assumption); (case q4 => assumption); (case q5 => omega); (case q6 => omega); intro ha9 hb9 hc9 hd9 he9 hf9 hz8) | skip); (try dsimp only); (try k_fold)); rotate_left; (intro c9 u9 h9 tk9 _ _ F9 N9; clear lF' lN'; dsimp only [kstB] at F9; (try dsimp only at N9); (try dsimp only); (try k_fold)); rotate_left)))
local macro_rules | `(tactic| walk_at "call ref") => `(tactic| (k_here; k_dflt (first
  | (refine' ClP.use (single_call _ _ _) ?k1 ?k2 ?k3 ?k4 ?k5 ?kK ?kd ?ku ?kp ?_; (case k1 => k_asm); (case k2 => k_asm); (case k3 => k_asm); (case k4 => k_asm); (case k5 => k_asm); (case kK => first | exact rfl | assumption); (case kd => ktr_room); (case ku => ktr_units); (case kp => trivial); intro v9 own9 h9 tk9 F9 N9 K9 O9; obtain ⟨e8, e9⟩ := O9; subst e8; subst e9; (try simp only [List.nil_append] at N9); clear K9; (try dsimp only); (try k_fold))
  | (refine' ClP.use (high_call _ _ _) ?k1 ?k2 ?k3 ?k4 ?k5 ?kK ?kd ?ku ?kp ?_; (case k1 => k_asm); (case k2 => k_asm); (case k3 => k_asm); (case k4 => k_asm); (case k5 => k_asm); (case kK => first | exact rfl | assumption); (case kd => ktr_room); (case ku => ktr_units); (case kp => trivial); intro v9 own9 h9 tk9 F9 N9 K9 O9; obtain ⟨e8, t9, e9⟩ := O9; subst e8; subst e9; (try simp only [List.nil_append] at N9); clear K9; (try dsimp only); (try k_fold))
  | (refine' ClP.use (sum_call _ _ _ _ ?kI ?kl) ?k1 ?k2 ?k3 ?k4 ?k5 ?kK ?kd ?ku ?kp ?_; (case k1 => k_asm); (case k2 => k_asm); (case k3 => k_asm); (case k4 => k_asm); (case k5 => k_asm); (case kp => is_list); (case kI => assumption); (case kl => first | ((try simp only [List.length_cons, List.length_nil]); omega) | (simp only [lessF, List.length_append, List.length_cons, List.length_nil, List.length_take, List.length_drop]; omega)); (case kK => first | exact rfl | assumption); (case kd => ktr_room); (case ku => ktr_units); intro v9 own9 h9 tk9 F9 N9 K9 O9; obtain ⟨e8, t9, e9⟩ := O9; subst e8; subst e9; (try simp only [List.nil_append] at N9); clear K9; (try dsimp only); (try k_fold))
  | (refine' ClP.use (less_call _ _ _ _ ?kI ?kl _ _ _ _ ?k0 ?kh) ?k1 ?k2 ?k3 ?k4 ?k5 ?kK ?kd ?ku ?kp ?_; (case k1 => k_asm); (case k2 => k_asm); (case k3 => k_asm); (case k4 => k_asm); (case k5 => k_asm); (case kp => is_list); (case kI => assumption); (case kl => ((try simp only [List.length_cons, List.length_nil]); omega)); (case k0 => omega); (case kh => ((try simp only [List.length_cons, List.length_nil]); omega)); (case kK => first | exact rfl | assumption); (case kd => ktr_room); (case ku => ktr_units); intro v9 own9 h9 tk9 F9 N9 K9 O9; obtain ⟨D9, us9, c9, e8, e9, hI9, hD9⟩ := O9; subst e8; subst e9; (try simp only [List.cons_append, List.nil_append] at N9); clear K9; (try dsimp only); (try k_fold)))))
set_option maxRecDepth 100000 in
set_option maxHeartbeats 8000000 in
theorem kept_call (w : World) (l : Addr) (us : List Value) (x y z : Int) (hi : IntsAre us [x, y, z]) (hx : 0 ≤ x ∧ x < 10 ^ 24) (hy : 0 ≤ y ∧ y < 10 ^ 24) (hz : 0 ≤ z ∧ z < 10 ^ 24) (hs : sumF [x, y, z] = 0) :
    ClP 5 w (hd.heap_39 w.params) 66 (fun h => h.IsList l us.toArray) [.ref l] (OutB true) := by
  w_top off
  dsimp only [ClP]
  k_fill
  intro p loose mean mg mb news dp un gd cn cs a ccd cl outer A₀ base h₀ L m s Q E B F X N T hk hdp hun hpre hret
  refine wpAny_call ?_
  k_dflt cell_enter
  intro g' L' h' FG' hvis F' N' B' X' T' hlt
  try dsimp only
  try k_fold
  have hl : g'.IsList l us.toArray := hpre.at fun o e => hvis _ _ e
  k_with_none
  k_steps
  all_goals first
    | exact retB hret rfl (by assumption) N (by assumption)
    | exact absurd ((sum_high x y z).mpr hs) (by assumption)
    | exact (over_no (by assumption) (by assumption) (by assumption)).elim
    | exact (single_no (by omega) (by omega) (by assumption)).elim
    | exact (away_no hi hs (by assumption) (by assumption) (by assumption)).elim
    | exact absurd (by assumption) (by assumption)
end
end Mine
namespace Mine
section
abbrev bitF (n T : Int) : Int := Builtin.bitAnd ((n.fmod 3).fdiv (2 ^ (highF T).toNat)) 1
abbrev takeF (n T : Int) : Int := n.fmod 3 - Builtin.bitXor (n.fmod 3) T
def bitR (a T : Int) : Int := Builtin.bitAnd (a.fdiv (2 ^ (highF T).toNat)) 1
theorem x3_par : ∀ a b c : Fin 3, X3 (a.val : Int) (b.val : Int) (c.val : Int) ≠ 0 →
    ¬ ((bitR a.val (X3 a.val b.val c.val) = 0 ↔ bitR b.val (X3 a.val b.val c.val) = 0) ∧ bitR c.val (X3 a.val b.val c.val) = 0) ∧
    ¬ ((bitR a.val (X3 a.val b.val c.val) = 0 ↔ bitR b.val (X3 a.val b.val c.val) ≠ 0) ∧ bitR c.val (X3 a.val b.val c.val) ≠ 0) := by decide +kernel
abbrev TakeOk (n r q : Int) : Prop := 1 ≤ n - r ∧ n - r ≤ 2 ∧ singleF (n - r) = true ∧ 0 ≤ r ∧ r < 3 ∧ q = 0
theorem x3_take : ∀ a b c : Fin 3, X3 (a.val : Int) (b.val : Int) (c.val : Int) ≠ 0 →
    (bitR a.val (X3 a.val b.val c.val) ≠ 0 → TakeOk a.val (Builtin.bitXor a.val (X3 a.val b.val c.val)) (X3 (Builtin.bitXor a.val (X3 a.val b.val c.val)) b.val c.val)) ∧
    (bitR b.val (X3 a.val b.val c.val) ≠ 0 → TakeOk b.val (Builtin.bitXor b.val (X3 a.val b.val c.val)) (X3 a.val (Builtin.bitXor b.val (X3 a.val b.val c.val)) c.val)) ∧
    (bitR c.val (X3 a.val b.val c.val) ≠ 0 → TakeOk c.val (Builtin.bitXor c.val (X3 a.val b.val c.val)) (X3 a.val b.val (Builtin.bitXor c.val (X3 a.val b.val c.val)))) := by decide +kernel
theorem fmod_moved {n r a : Int} (h : n.fmod 3 = a) (h0 : 0 ≤ r) (h1 : r < 3) : (n - (a - r)).fmod 3 = r := by
  rw [Int.fmod_eq_emod_of_nonneg _ (by omega)] at h ⊢
  omega
theorem par_no {x y z : Int} {p q r : Prop} [Decidable p] [Decidable q] [Decidable r] (h : highF (sumF [x, y, z]) ≠ -1) (h0 : bitF x (sumF [x, y, z]) = 0 ↔ p) (h1 : bitF y (sumF [x, y, z]) = 0 ↔ q) (h2 : bitF z (sumF [x, y, z]) = 0 ↔ r)
    (e : ((p ↔ q) ∧ r) ∨ ((p ↔ ¬ q) ∧ ¬ r)) : False := by
  obtain ⟨a, ha⟩ := mod3 x
  obtain ⟨b, hb⟩ := mod3 y
  obtain ⟨c, hc⟩ := mod3 z
  rw [Ne, sum_high] at h
  have hT := sum3 x y z
  rw [ha, hb, hc] at hT
  rw [hT] at h
  have k := x3_par a b c h
  unfold bitF at h0 h1 h2
  rw [hT, ha] at h0
  rw [hT, hb] at h1
  rw [hT, hc] at h2
  unfold bitR at k
  rw [Ne, Ne, h0, h1, h2] at k
  rcases e with e | e
  · exact k.1 e
  · exact k.2 e
theorem take_facts {x y z k : Int} (h : highF (sumF [x, y, z]) ≠ -1) (hx : 0 ≤ x) (hy : 0 ≤ y) (hz : 0 ≤ z) (hk : 0 ≤ k) (hk3 : k < 3) (hb : bitF ([x, y, z].getD k.toNat 0) (sumF [x, y, z]) ≠ 0) :
    1 ≤ takeF ([x, y, z].getD k.toNat 0) (sumF [x, y, z]) ∧ takeF ([x, y, z].getD k.toNat 0) (sumF [x, y, z]) ≤ [x, y, z].getD k.toNat 0 ∧ singleF (takeF ([x, y, z].getD k.toNat 0) (sumF [x, y, z])) = true ∧
      sumF (lessF [x, y, z] k (takeF ([x, y, z].getD k.toNat 0) (sumF [x, y, z]))) = 0 := by
  obtain ⟨a, ha⟩ := mod3 x
  obtain ⟨b, hb'⟩ := mod3 y
  obtain ⟨c, hc⟩ := mod3 z
  rw [Ne, sum_high] at h
  have hT := sum3 x y z
  rw [ha, hb', hc] at hT
  rw [hT] at h hb ⊢
  have key := x3_take a b c h
  have hk' : k = 0 ∨ k = 1 ∨ k = 2 := by omega
  have le (n : Int) (hn : 0 ≤ n) : n.fmod 3 ≤ n := by rw [Int.fmod_eq_emod_of_nonneg _ (by omega)]; omega
  obtain ⟨l0, l1, l2⟩ := less3 x y z (takeF ([x, y, z].getD k.toNat 0) (X3 a.val b.val c.val))
  rcases hk' with rfl | rfl | rfl
  · obtain ⟨k1, k2, k3, k4, k5, k6⟩ := key.1 (by simpa [bitF, bitR, ha] using hb)
    rw [l0]
    have e : takeF ([x, y, z].getD (0 : Int).toNat 0) (X3 a.val b.val c.val) = (a.val : Int) - Builtin.bitXor a.val (X3 a.val b.val c.val) := by simp [takeF, ha]
    rw [e]
    refine ⟨k1, ?_, k3, ?_⟩
    · have := le x hx; show _ ≤ x; omega
    · rw [sum3, fmod_moved ha k4 k5, hb', hc]; exact k6
  · obtain ⟨k1, k2, k3, k4, k5, k6⟩ := key.2.1 (by simpa [bitF, bitR, hb'] using hb)
    rw [l1]
    have e : takeF ([x, y, z].getD (1 : Int).toNat 0) (X3 a.val b.val c.val) = (b.val : Int) - Builtin.bitXor b.val (X3 a.val b.val c.val) := by simp [takeF, hb']
    rw [e]
    refine ⟨k1, ?_, k3, ?_⟩
    · have := le y hy; show _ ≤ y; omega
    · rw [sum3, fmod_moved hb' k4 k5, ha, hc]; exact k6
  · obtain ⟨k1, k2, k3, k4, k5, k6⟩ := key.2.2 (by simpa [bitF, bitR, hc] using hb)
    rw [l2]
    have e : takeF ([x, y, z].getD (2 : Int).toNat 0) (X3 a.val b.val c.val) = (c.val : Int) - Builtin.bitXor c.val (X3 a.val b.val c.val) := by simp [takeF, hc]
    rw [e]
    refine ⟨k1, ?_, k3, ?_⟩
    · have := le z hz; show _ ≤ z; omega
    · rw [sum3, fmod_moved hc k4 k5, ha, hb']; exact k6
theorem sum_lo (x y z : Int) : -1 ≤ highF (sumF [x, y, z]) := by
  obtain ⟨a, ha⟩ := mod3 x
  obtain ⟨b, hb⟩ := mod3 y
  obtain ⟨c, hc⟩ := mod3 z
  rw [sum3, ha, hb, hc]
  have : ∀ a b c : Fin 3, -1 ≤ highF (X3 (a.val : Int) (b.val : Int) (c.val : Int)) := by decide +kernel
  exact this a b c
/-- the bounds of the three heaps that are left -/
theorem less_bd {x y z k d : Int} (hx : 0 ≤ x ∧ x < 10 ^ 24) (hy : 0 ≤ y ∧ y < 10 ^ 24) (hz : 0 ≤ z ∧ z < 10 ^ 24) (hk : 0 ≤ k) (hk3 : k < 3) (h1 : 1 ≤ d) (h2 : d ≤ [x, y, z].getD k.toNat 0) :
    ∃ x' y' z', lessF [x, y, z] k d = [x', y', z'] ∧ (0 ≤ x' ∧ x' < 10 ^ 24) ∧ (0 ≤ y' ∧ y' < 10 ^ 24) ∧ (0 ≤ z' ∧ z' < 10 ^ 24) := by
  obtain ⟨l0, l1, l2⟩ := less3 x y z d
  have hk' : k = 0 ∨ k = 1 ∨ k = 2 := by omega
  rcases hk' with rfl | rfl | rfl
  · have h3 : d ≤ x := h2
    exact ⟨_, _, _, l0, ⟨by omega, by omega⟩, hy, hz⟩
  · have h3 : d ≤ y := h2
    exact ⟨_, _, _, l1, hx, ⟨by omega, by omega⟩, hz⟩
  · have h3 : d ≤ z := h2
    exact ⟨_, _, _, l2, hx, hy, ⟨by omega, by omega⟩⟩
theorem take_no1 {x y z k : Int} (e : [x, y, z].getD k.toNat 0 < takeF ([x, y, z].getD k.toNat 0) (sumF [x, y, z])) (h : highF (sumF [x, y, z]) ≠ -1) (hx : 0 ≤ x) (hy : 0 ≤ y) (hz : 0 ≤ z) (hk : 0 ≤ k) (hk3 : k < 3) (hb : bitF ([x, y, z].getD k.toNat 0) (sumF [x, y, z]) ≠ 0) : False :=
  absurd (take_facts h hx hy hz hk hk3 hb).2.1 (by omega)
theorem take_no2 {x y z k : Int} (e : singleF (takeF ([x, y, z].getD k.toNat 0) (sumF [x, y, z])) = false) (h : highF (sumF [x, y, z]) ≠ -1) (hx : 0 ≤ x) (hy : 0 ≤ y) (hz : 0 ≤ z) (hk : 0 ≤ k) (hk3 : k < 3) (hb : bitF ([x, y, z].getD k.toNat 0) (sumF [x, y, z]) ≠ 0) : False :=
  absurd (take_facts h hx hy hz hk hk3 hb).2.2.1 (by rw [e]; decide)
theorem take_no3 {x y z k : Int} (e : highF (sumF (lessF [x, y, z] k (takeF ([x, y, z].getD k.toNat 0) (sumF [x, y, z])))) ≠ -1) (h : highF (sumF [x, y, z]) ≠ -1) (hx : 0 ≤ x) (hy : 0 ≤ y) (hz : 0 ≤ z) (hk : 0 ≤ k) (hk3 : k < 3) (hb : bitF ([x, y, z].getD k.toNat 0) (sumF [x, y, z]) ≠ 0) : False :=
  absurd (take_facts h hx hy hz hk hk3 hb).2.2.2 (fun e2 => e (by rw [e2]; decide))
end
end Mine
namespace Mine
section
section
variable {prog : Program} {w : World} {A : Around} {E : Value → Shared → Prop} {s : Shared} {env : Env} {h₀ : Heap} {x : Str} {body : List Stmt} {Q : Flow → Shared → Prop}
/-- a loop whose items come from a walk of its own: the ledger may grow from turn to turn -/
theorem loop_invGr {I : Addr} {n : Nat} {P : Nat → Value → Prop} {St : Nat → Heap → Prop} {m₀ : Str → Option Value} {news : List (Addr × Obj)} (J : Nat → (Str → Option Value) → List (Addr × Obj) → Prop)
    (W : Walks prog w A I [I] [I] n P St) (hlive : ∀ i h, St i h → ∃ o, h.get? I = some o) (hLf : env.locals ≠ I) (hwr : h₀.get? I = none) (hnw : ∀ p ∈ news, p.1 ≠ I) (hst : St 0 s.heap) (F : Fr h₀ env.locals s.heap m₀) (N : News h₀ env.locals s.heap news) (hj : J 0 m₀ news)
    (turn : ∀ i v m₁ news₁ h tk own, i < n → P i v → OwnOff own (news₁.map (·.1)) → J i m₁ news₁ → Fr h₀ env.locals h (fun y => if y = x then some v else m₁ y) → News h₀ env.locals h (news₁ ++ own) →
      wpAny (model prog w) A (execs body env) (InvPostG h₀ env.locals (J (i + 1)) own { s with heap := h, toks := tk } Q) E { s with heap := h, toks := tk })
    (done : ∀ m₁ news₁ h tk, J n m₁ news₁ → Fr h₀ env.locals h m₁ → News h₀ env.locals h news₁ → Q .next { s with heap := h, toks := tk }) :
    LoopAtV prog w A h₀ env x body Q E (.ref I) s := by
  refine ⟨I, [I], [I], n, P, St, m₀, news, J, rfl, W, ?_, ?_, ?_, hst, F, N, hj, ?_, ?_⟩
  · intro hm; exact hLf (List.mem_singleton.mp hm)
  · intro b hb; rw [List.mem_singleton.mp hb]; exact hwr
  · intro p hp hI; exact hnw p hp (List.mem_singleton.mp hI)
  · rintro i v m₁ news₁ s₁ own ⟨hh', tk', rfl⟩ hin hP hJ hoff hown _ hfp hst' F₁ N₁
    obtain ⟨oI, hoI⟩ := hlive _ _ hst'
    have hIown : (I, oI) ∈ own := hfp _ (List.mem_singleton.mpr rfl) hwr _ hoI
    have hsep : OwnOff own (news₁.map (·.1)) := by
      intro p hp b hb e
      obtain ⟨q, hq, rfl⟩ := List.mem_map.mp hb
      exact hoff q hq (List.mem_singleton.mpr (e ▸ List.mem_singleton.mp (hown p hp)))
    have N₂ : News h₀ env.locals hh' (news₁ ++ own) := fun p hp => N₁ p ((List.mem_append.mp hp).elim (fun h => List.mem_append.mpr (.inr h)) fun h => List.mem_append.mpr (.inl h))
    refine wpAny_mono (turn i v m₁ news₁ hh' tk' own hin hP hsep hJ F₁ N₂) (fun f s₂ p => ?_) fun _ _ e => e
    have fin : InvEndG h₀ env.locals (J (i + 1)) own { s with heap := hh', toks := tk' } s₂ → LoopStepU h₀ env.locals [I] own (J (i + 1)) { s with heap := hh', toks := tk' } .next s₂ := by
      rintro ⟨h', tk, m', news', nx, e, F', N', hn, ho, ha, hm⟩
      refine ⟨rfl, h', tk, m', nx, e, F', fun p hp => N' p ((List.mem_append.mp hp).elim (ho p) (hn p)), fun p hp hq => ?_, hm⟩
      exact ha _ hIown p.1 (List.mem_map.mpr ⟨p, hp, rfl⟩) (List.mem_singleton.mp hq).symm
    cases f with
    | ret v => exact .ret p
    | brk => exact .brk p
    | next => exact .next (fin p)
    | cont => exact .cont (fin p)
  · rintro h' tk m' news' F' N' _ hJ
    exact done m' news' h' tk hJ F' N'
theorem range_invG {r : Addr} {a₀ b₀ : Int} {t₀ u₀ v₀ : Tok} {n : Nat} {m₀ : Str → Option Value} {news : List (Addr × Obj)} (J : Nat → (Str → Option Value) → List (Addr × Obj) → Prop)
    (hh : A.handled = none) (hr : IsRange s.heap r a₀ b₀ 1 t₀ u₀ v₀) (hsmall : Builtin.Range.small a₀ b₀ 1 = true) (hn : Builtin.Range.rangeSize a₀ b₀ 1 = (n : Int)) (F : Fr h₀ env.locals s.heap m₀) (N : News h₀ env.locals s.heap news) (hj : J 0 m₀ news)
    (turn : ∀ (i : Nat) t m₁ news₁ h tk own, i < n → OwnOff own (news₁.map (·.1)) → J i m₁ news₁ → Fr h₀ env.locals h (fun y => if y = x then some (.int (a₀ + i) t) else m₁ y) → News h₀ env.locals h (news₁ ++ own) →
      wpAny (model prog w) A (execs body env) (InvPostG h₀ env.locals (J (i + 1)) own { s with heap := h, toks := tk } Q) E { s with heap := h, toks := tk })
    (done : ∀ m₁ news₁ h tk, J n m₁ news₁ → Fr h₀ env.locals h m₁ → News h₀ env.locals h news₁ → Q .next { s with heap := h, toks := tk }) :
    wpAny (model prog w) A (pyIter (.ref r)) (fun it s₂ => LoopAtV prog w A h₀ env x body Q E it s₂) E s := by
  refine wpAny_pyIter_range hr hsmall ?_
  have W : Walks prog w A s.heap.objs.size [s.heap.objs.size] [s.heap.objs.size] n (fun i v => i < n ∧ ∃ t, v = .int (a₀ + i * 1) t)
      (fun i h => IsRangeIter h s.heap.objs.size (a₀ + (i : Nat) * 1) ((n : Int) - (i : Nat)) 1) := (Walks.range hh _ a₀ 1 n).bound
  refine loop_invGr J W ?_ ?_ (next_is_new F) ?_ (by show IsRangeIter _ _ _ _ _; rw [hn]; simpa using Heap.get?_push_size _ rfl) (F.push _) (fun p hp => ⟨Heap.get?_push_of_some _ (N p hp).1, (N p hp).2⟩) hj ?_ ?_
  · intro i h hs; exact ⟨_, hs⟩
  · intro e; exact absurd F.ns.lt (e ▸ Nat.lt_irrefl _)
  · intro p hp e; exact absurd (Heap.lt_size (N p hp).1) (e ▸ Nat.lt_irrefl _)
  · rintro i v m₁ nx h tk own hi ⟨_, t, rfl⟩ hoff hJ F₁ N₁
    have e1 : a₀ + (i : Int) * 1 = a₀ + (i : Int) := by omega
    rw [e1] at F₁
    exact turn i t m₁ nx h tk own hi hoff hJ F₁ N₁
  · intro m₁ nx h tk hJ F₁ N₁
    exact done m₁ nx h tk hJ F₁ N₁
end
end
end Mine
namespace Mine
section
/-- is a position of these three heaps lost -/
def lostF (a b c : Int) : Bool := sumF [a, b, c] == 0
section
variable {prog : Program} {w : World} {A : Around} {E : Value → Shared → Prop} {s : Shared} {h₀ : Heap} {L d a : Addr} {m : Str → Option Value} {news kl : List (Addr × Obj)} {od ok : Obj} {S : Int → Int → Int → Prop} {n : Nat} {x y z : Int}
/-- a dict whose keys are triples of ints, among `kl`, each with the truth that it is lost; all of `S` are there -/
def LostOb (prog : Program) (w : World) (od : Obj) (kl : List (Addr × Obj)) (S : Int → Int → Int → Prop) (n : Nat) : Prop :=
  od.ExactDict ∧ ∃ (es : Array DictEntry) (ep : Nat) (xs : List (List Int × Addr × Value)), od.data = .dict es ep ∧ es.toList = xs.map (entryOfKey (tupleKind (intKind prog w))) ∧ (xs.map (·.1)).Nodup ∧ xs.length ≤ n ∧
    (∀ x ∈ xs, ∃ ok, (x.2.1, ok) ∈ kl ∧ TupKeyObj (intKind prog w) x.1 ok) ∧ (∀ x ∈ xs, ∃ a b c, x.1 = [a, b, c] ∧ x.2.2 = .bool (lostF a b c)) ∧ (∀ a b c, S a b c → [a, b, c] ∈ xs.map (·.1))
theorem LostOb.mono {S' : Int → Int → Int → Prop} {n' : Nat} (ob : LostOb prog w od kl S n) (hS : ∀ a b c, S' a b c → S a b c) (hn : n ≤ n') : LostOb prog w od kl S' n' :=
  let ⟨hc, es, ep, xs, hd, he, hnd, hl, hk, hv, hs⟩ := ob
  ⟨hc, es, ep, xs, hd, he, hnd, Nat.le_trans hl hn, hk, hv, fun a b c q => hs a b c (hS a b c q)⟩
theorem LostOb.more {kl' : List (Addr × Obj)} (ob : LostOb prog w od kl S n) (hk' : ∀ p ∈ kl, p ∈ kl') : LostOb prog w od kl' S n :=
  let ⟨hc, es, ep, xs, hd, he, hnd, hl, hk, hv, hs⟩ := ob
  ⟨hc, es, ep, xs, hd, he, hnd, hl, fun x hx => let ⟨o, h1, h2⟩ := hk x hx; ⟨o, hk' _ h1, h2⟩, hv, hs⟩
theorem LostOb.empty (hd : od.ExactDict) (he : ∃ ep, od.data = .dict #[] ep) : LostOb prog w od [] (fun _ _ _ => False) 0 :=
  let ⟨ep, he⟩ := he
  ⟨hd, #[], ep, [], he, rfl, List.nodup_nil, Nat.le_refl _, fun _ h => (nomatch h), fun _ h => (nomatch h), fun _ _ _ h => h.elim⟩
theorem LostOb.ofEmpty {K' : Type} [DecidableEq K'] {knd' : KeyKind prog w K'} (hd : od.IsDictOf knd' []) : LostOb prog w od [] (fun _ _ _ => False) 0 := by
  obtain ⟨es, ep, hc, hdat, _, hp, _⟩ := hd
  have he : es.toList = [] := List.length_eq_zero_iff.mp hp.length
  exact ⟨hc, es, ep, [], hdat, he, List.nodup_nil, Nat.le_refl _, fun _ h => (nomatch h), fun _ h => (nomatch h), fun _ _ _ h => h.elim⟩
theorem LostOb.dict (ob : LostOb prog w od kl S n) (N : News h₀ L s.heap news) (hd : (d, od) ∈ news) (hk : ∀ p ∈ kl, p ∈ news) :
    ∃ xs : List (List Int × Addr × Value), s.heap.DictOfH (tupleKind (intKind prog w)) d xs ∧ xs.length ≤ n ∧ (∀ x ∈ xs, ∃ ok, (x.2.1, ok) ∈ kl ∧ TupKeyObj (intKind prog w) x.1 ok) ∧ (∀ x ∈ xs, ∃ a b c, x.1 = [a, b, c] ∧ x.2.2 = .bool (lostF a b c)) ∧ (∀ a b c, S a b c → [a, b, c] ∈ xs.map (·.1)) := by
  obtain ⟨hc, es, ep, xs, hdat, he, hnd, hl, hk', hv, hs⟩ := ob
  exact ⟨xs, ⟨od, es, ep, N.get hd, hc, hdat, he, fun x hx => let ⟨_, hmk, t⟩ := hk' x hx; t.key (N.get (hk _ hmk)), hnd⟩, hl, hk', hv, hs⟩
theorem atKey_mem {K : Type} [DecidableEq K] : ∀ {xs : List (K × Addr × Value)} {k : K}, k ∈ xs.map (·.1) → ∃ p, atKey xs k = some p ∧ (k, p) ∈ xs
  | [], k, h => by simp at h
  | x :: xs, k, h => by
    by_cases e : x.1 = k
    · subst e; exact ⟨x.2, by simp [atKey], List.mem_cons_self⟩
    · rcases List.mem_cons.mp h with h | h
      · exact absurd h.symm e
      · obtain ⟨p, h1, h2⟩ := atKey_mem (xs := xs) (k := k) h
        exact ⟨p, by simpa [atKey, e] using h1, List.mem_cons_of_mem _ h2⟩
theorem lost_get {value slice : Expr} {Q : Value → Shared → Prop} (hu : A.units + 1 < cLine) (N : News h₀ L s.heap news) (ob : LostOb prog w od kl S n) (hd : (d, od) ∈ news) (hk : ∀ p ∈ kl, p ∈ news)
    (hka : (a, ok) ∈ news) (tk : TupKeyObj (intKind prog w) [x, y, z] ok) (hS : S x y z) (h : Q (.bool (lostF x y z)) { s with toks := s.toks + 4 })
    (hs : subscripted slice false (.ref d) (.ref a) = operate [.ref d, .ref a] (getItem (.ref d) (.ref a)) := by with_unfolding_all rfl) (hg : ∀ r, letTemporaryGo value (.ref d) r = pure () := by intro _; with_unfolding_all rfl) :
    wpAny (model prog w) A (subscriptTail value slice (.ref d) (.ref a)) Q E s := by
  obtain ⟨xs, hD, hl, hk', hv, hs'⟩ := ob.dict N hd hk
  obtain ⟨p, hp, hm⟩ := atKey_mem (hs' x y z hS)
  have e : p.2 = .bool (lostF x y z) := by
    obtain ⟨a', b', c', e1, e2⟩ := hv _ hm
    simp only [List.cons.injEq, and_true] at e1
    obtain ⟨rfl, rfl, rfl⟩ := e1
    exact e2
  exact subscriptTail_builtin hD.typeIs slot_dict_getitem.lookup (wpAny_getItem_heap (knd := tupleKind (intKind prog w)) (tupleKind_room_in1 hu) (tk.key (N.get hka)) hD hp (e ▸ h)) hs hg
theorem storedH_len {K : Type} [DecidableEq K] (xs : List (K × Addr × Value)) (k : K) (a : Addr) (v : Value) : (storedH xs k a v).length ≤ xs.length + 1 := by
  unfold storedH
  split
  · simp
  · simp
theorem storedH_keys {K : Type} [DecidableEq K] (xs : List (K × Addr × Value)) (k : K) (a : Addr) (v : Value) : (∀ q ∈ xs.map (·.1), q ∈ (storedH xs k a v).map (·.1)) ∧ k ∈ (storedH xs k a v).map (·.1) := by
  have e : (xs.map (putAt k v)).map (·.1) = xs.map (·.1) := by
    rw [List.map_map]
    refine List.map_congr_left fun x _ => ?_
    simp only [Function.comp, putAt]
    split <;> rfl
  unfold storedH
  split
  · rename_i hs
    rw [e]
    refine ⟨fun q h => h, ?_⟩
    have hk := any_kvsOf xs k
    rw [hs] at hk
    obtain ⟨p, hp, hpk⟩ := List.any_eq_true.mp hk
    obtain ⟨x, hx, rfl⟩ := List.mem_map.mp hp
    exact List.mem_map.mpr ⟨x, hx, of_decide_eq_true hpk⟩
  · refine ⟨fun q h => ?_, ?_⟩
    · rw [List.map_append]; exact List.mem_append_left _ h
    · rw [List.map_append]; exact List.mem_append_right _ (by simp)
theorem storedH_mem {K : Type} [DecidableEq K] {xs : List (K × Addr × Value)} {k : K} {a : Addr} {v : Value} {x : K × Addr × Value} (h : x ∈ storedH xs k a v) : x ∈ xs ∨ (x.1 = k ∧ x.2.2 = v ∧ (x.2.1 = a ∨ ∃ y ∈ xs, y.1 = k ∧ y.2.1 = x.2.1)) := by
  unfold storedH at h
  split at h
  · obtain ⟨y, hy, rfl⟩ := List.mem_map.mp h
    unfold putAt
    split
    · rename_i e
      exact .inr ⟨e, rfl, .inr ⟨y, hy, e, rfl⟩⟩
    · exact .inl hy
  · rcases List.mem_append.mp h with h | h
    · exact .inl h
    · rw [List.mem_singleton.mp h]; exact .inr ⟨rfl, rfl, .inl rfl⟩
theorem lost_set {Q : Unit → Shared → Prop} {g : Obj → List (Addr × Obj)} {v : Bool} (hu : A.units + 1 < cLine) (F : Fr h₀ L s.heap m) (N : News h₀ L s.heap news) (U : UpdF d od news g) (ob : LostOb prog w od kl S n) (hk : ∀ p ∈ kl, p ∈ news)
    (hka : (a, ok) ∈ news) (tk : TupKeyObj (intKind prog w) [x, y, z] ok) (hv : v = lostF x y z) (hn : n ≤ 100000)
    (h : ∀ h' od', Fr h₀ L h' m → News h₀ L h' (g od') → LostOb prog w od' ((a, ok) :: kl) (fun p q r => S p q r ∨ (p = x ∧ q = y ∧ r = z)) (n + 1) → Q () { s with heap := h', toks := s.toks + 4 }) :
    wpAny (model prog w) A (setItem (.ref d) (.ref a) (.bool v)) Q E s := by
  subst hv
  obtain ⟨pre, post, hl, hg, a1, a2⟩ := U.split
  have hmem : (d, od) ∈ news := by rw [hl]; exact List.mem_append_right _ (.head _)
  obtain ⟨xs, hD, hle, hk', hvs, hs'⟩ := ob.dict N hmem hk
  have hsl : xs.length ≤ sizeLine := Nat.le_trans hle (Nat.le_trans hn (by decide))
  refine wpAny_setItem_heap (hsz := hsl) (knd := tupleKind (intKind prog w)) (tupleKind_room_in1 hu) (tk.key (N.get hka)) hD fun h' hm' hs => ?_
  obtain ⟨o', es', ep', ho', hc', hd', he', _, hn'⟩ := hm'
  refine h h' o' (F.change hs (N _ hmem).2.1 (N _ hmem).2.2) (hg o' ▸ (show News h₀ L s.heap (pre ++ (d, od) :: post) from hl ▸ N).setIn a1 a2 hs ho') ⟨hc', es', ep', _, hd', he', hn', Nat.le_trans (storedH_len _ _ _ _) (Nat.succ_le_succ hle), fun q hq => ?_, fun q hq => ?_, fun p q r hp => ?_⟩
  · rcases mem_storedH hq with ⟨q', hq', e1, e2⟩ | ⟨e1, e2⟩
    · obtain ⟨o, h1, h2⟩ := hk' q' hq'
      exact ⟨o, by rw [e2]; exact .tail _ h1, by rw [e1]; exact h2⟩
    · exact ⟨ok, by rw [e2]; exact .head _, by rw [e1]; exact tk⟩
  · rcases storedH_mem hq with h1 | ⟨h1, h2, _⟩
    · exact hvs q h1
    · exact ⟨x, y, z, h1, h2⟩
  · have kk := storedH_keys xs [x, y, z] a (.bool (lostF x y z))
    rcases hp with hp | ⟨rfl, rfl, rfl⟩
    · exact kk.1 _ (hs' p q r hp)
    · exact kk.2
end
end
end Mine
namespace Mine
section
open Sem (wp)
section
variable {prog : Program} {w : World} {A : Around} {E : Value → Shared → Prop} {s : Shared} {d it : Addr} {es : Array DictEntry} {i ep : Nat}
/-- a dict as it lies, whatever its keys are -/
def RawDict (h : Heap) (d : Addr) (es : Array DictEntry) (ep : Nat) : Prop := ∃ o, h.get? d = some o ∧ o.ExactDict ∧ o.data = .dict es ep
theorem RawDict.keep {h h' : Heap} (x : RawDict h d es ep) (e : ∀ o, h.get? d = some o → h'.get? d = some o) : RawDict h' d es ep := let ⟨o, ho, r⟩ := x; ⟨o, e o ho, r⟩
theorem raw_iter {Q : Value → Shared → Prop} (lo : (d == sysModules) = false) (hm : RawDict s.heap d es ep)
    (hQ : Q (.ref s.heap.objs.size) { s with heap := s.heap.push { cls := .type "dict_keyiterator", data := .fields #[.ref d, .int 0 0, .int es.size 0, .int ep 0] } }) :
    wpAny (model prog w) A (pyIter (.ref d)) Q E s := by
  obtain ⟨o, ho, hc, hdat⟩ := hm
  have hT : s.TypeIs (.ref d) "dict" := ⟨o, ho, hc.1⟩
  refine wpAny_pyIter_slot hT PySem.F.slot_dict_iter (wpAny_call_entry PySem.F.slot_dict_iter hT PySem.F.entry_dict_iter ?_ (PySem.F.args_dict_iter_1 _))
  unfold Builtin.«dict.__iter__»
  refine wpAny_bind ?_
  unfold Builtin.Dict.dictSlotNone
  refine wpAny_bind (wpAny_notOrdered_dict hT ?_)
  show wpAny _ _ (pure (Value.ref d)) _ _ s
  refine wpAny_pure ?_
  show wpAny _ _ (Builtin.Dict.showsAll d >>= _) _ _ s
  unfold Builtin.Dict.showsAll
  rw [if_neg (by rw [lo]; exact Bool.false_ne_true)]
  refine wpAny_bind (wpAny_pure ?_)
  refine wpAny_bind (wpAny_dictEntries ho hdat ?_)
  refine wpAny_bind (wpAny_dictEpoch ho hdat ?_)
  refine wpAny_bind (wpAny_newObj_type (wpAny_pure ⟨_, rfl, "dict_keyiterator", _, ⟨_, Heap.get?_push_size _ rfl, rfl⟩, PySem.F.slot_dict_keyiterator_next.lookup, ?_⟩))
  simpa [rawInt] using hQ
theorem raw_next {Q : Option Value → Shared → Prop} (hit : s.heap.IsKeyIter it d i es.size ep) (hm : RawDict s.heap d es ep) (hx : i < es.size)
    (hQ : ∀ h', h'.IsKeyIter it d (i + 1) es.size ep → Heap.SameBut it s.heap h' → Q (some es[i].key) { s with heap := h' }) :
    wpAny (model prog w) A (pyNext (.ref it)) Q E s := by
  obtain ⟨o, ho, hc, hd⟩ := id hit
  obtain ⟨od, hod, hcd, hdd⟩ := hm
  unfold pyNext
  refine wpAny_bind (wpAny_attempt (wpAny_callSpecial?_slot (name := Str.ofString "__next__") hit.typeIs PySem.F.slot_dict_keyiterator_next
    (wpAny_call_entry PySem.F.slot_dict_keyiterator_next hit.typeIs PySem.F.entry_dict_keyiterator_next ?_ (PySem.F.args_dict_keyiterator_next_1 _))))
  refine wpAny_bind (wpAny_pure ?_)
  refine wpAny_bind ?_
  refine wpAny_bind ?_
  first | refine wpAny_bind (wpAny_typeNameOfWhole_keyiter hit.typeIs (wpAny_pure ?_)) | refine wpAny_bind (wpAny_typeNameOf_keyiter hit.typeIs (wpAny_pure ?_))
  refine wpAny_bind (wpAny_fieldsOf ho hd ?_)
  have hown : Builtin.Dict_items.ownsTuple "dict_keyiterator" = false := by decide
  simp only [hown, Bool.false_eq_true, if_false]
  show wpAny _ _ (if (Value.ref d == Value.none) = true then _ else _) _ _ s
  rw [if_neg (show ¬ ((Value.ref d == Value.none) = true) from Bool.false_ne_true)]
  refine wpAny_bind (wpAny_pure ?_)
  refine wpAny_bind (wpAny_dictEntries hod hdd ?_)
  rw [if_neg (by simp)]
  refine wpAny_bind (wpAny_pure ?_)
  refine wpAny_bind (wpAny_dictEpoch hod hdd ?_)
  rw [if_neg (by simp)]
  refine wpAny_pure ?_
  simp only [show ¬ ((i : Int) < 0) from by omega, if_false, Int.toNat_natCast, Array.getElem?_eq_getElem hx]
  refine wpAny_bind ?_
  first | refine wpAny_bind (wpAny_typeNameOfWhole_keyiter hit.typeIs (wpAny_pure ?_)) | refine wpAny_bind (wpAny_typeNameOf_keyiter hit.typeIs (wpAny_pure ?_))
  refine wpAny_bind (wpAny_isOneOf_keyiter hit.typeIs ?_)
  show wpAny _ _ (setField (.ref it) 1 (rawInt ((i : Int) + 1)) >>= _) _ _ s
  refine wpAny_bind (wpAny_setField ho hd (by simp) ?_)
  have hit' : (s.heap.update it (Obj.mapFields (·.setIfInBounds 1 (rawInt ((i : Int) + 1))))).IsKeyIter it d (i + 1) es.size ep :=
    ⟨_, Heap.get?_update_self _ ho (Obj.isFreed_of_fields (Obj.data_mapFields hd _)), (Obj.cls_mapFields ..).trans hc, by rw [Obj.data_mapFields hd]; simp [rawInt]⟩
  refine wpAny_bind (wpAny_holding ?_)
  refine wpAny_bind (wpAny_isOneOf_keyiter (s := { s with heap := s.heap.update it (Obj.mapFields (·.setIfInBounds 1 (rawInt ((i : Int) + 1)))) }) hit'.typeIs ?_)
  show wpAny _ _ (pure es[i].key) _ _ _
  exact wpAny_pure (wpAny_pure ⟨_, rfl, wpAny_pure (hQ _ hit' (Heap.SameBut.update ..))⟩)
theorem raw_end {Q : Option Value → Shared → Prop} (hh : A.handled = none) (hit : s.heap.IsKeyIter it d es.size es.size ep) (hm : RawDict s.heap d es ep)
    (hQ : ∀ h', Heap.ExtBut it s.heap h' → Q none { s with heap := h' }) : wpAny (model prog w) A (pyNext (.ref it)) Q E s := by
  obtain ⟨o, ho, hc, hd⟩ := id hit
  obtain ⟨od, hod, hcd, hdd⟩ := hm
  unfold pyNext
  refine wpAny_bind (wpAny_attempt (wpAny_callSpecial?_slot (name := Str.ofString "__next__") hit.typeIs PySem.F.slot_dict_keyiterator_next
    (wpAny_call_entry PySem.F.slot_dict_keyiterator_next hit.typeIs PySem.F.entry_dict_keyiterator_next ?_ (PySem.F.args_dict_keyiterator_next_1 _))))
  refine wpAny_bind (wpAny_pure ?_)
  refine wpAny_bind ?_
  refine wpAny_bind ?_
  first | refine wpAny_bind (wpAny_typeNameOfWhole_keyiter hit.typeIs (wpAny_pure ?_)) | refine wpAny_bind (wpAny_typeNameOf_keyiter hit.typeIs (wpAny_pure ?_))
  refine wpAny_bind (wpAny_fieldsOf ho hd ?_)
  have hown : Builtin.Dict_items.ownsTuple "dict_keyiterator" = false := by decide
  simp only [hown, Bool.false_eq_true, if_false]
  show wpAny _ _ (if (Value.ref d == Value.none) = true then _ else _) _ _ s
  rw [if_neg (show ¬ ((Value.ref d == Value.none) = true) from Bool.false_ne_true)]
  refine wpAny_bind (wpAny_pure ?_)
  refine wpAny_bind (wpAny_dictEntries hod hdd ?_)
  rw [if_neg (by simp)]
  refine wpAny_bind (wpAny_pure ?_)
  refine wpAny_bind (wpAny_dictEpoch hod hdd ?_)
  rw [if_neg (by simp)]
  refine wpAny_pure ?_
  simp only [show ¬ ((es.size : Int) < 0) from by omega, if_false, Int.toNat_natCast, Array.getElem?_eq_none (Nat.le_refl es.size)]
  refine wpAny_bind ?_
  first | refine wpAny_bind (wpAny_typeNameOfWhole_keyiter hit.typeIs (wpAny_pure ?_)) | refine wpAny_bind (wpAny_typeNameOf_keyiter hit.typeIs (wpAny_pure ?_))
  show wpAny _ _ (setField (.ref it) 0 .none >>= _) _ _ s
  refine wpAny_bind (wpAny_setField ho hd (by simp) ?_)
  show wpAny _ _ (newExc (.type "StopIteration") [] >>= _) _ _ _
  refine wpAny_bind ?_
  simp only [newExc, newTuple]
  refine wpAny_bind (wpAny_newObj_type ?_ (by size_fits))
  refine wpAny_bind (m := firstArgMember _ _) (wpAny_of_eq (a := Value.none) (by first | rfl | (simp only [firstArgMember]; rfl)) ?_)
  refine wpAny_newObj_type ?_ (by size_fits)
  simp only [raiseNew]
  refine wpAny_bind (wpAny_handled ?_)
  rw [show A.in1.handled = none from hh]
  refine wpAny_bind (wpAny_pure (wpAny_throw ?_))
  refine wpAny_bind (wpAny_isInstance (T := "StopIteration") (b := true) ⟨_, Heap.get?_push_size _ rfl, rfl⟩ isSubtype_stop ?_)
  exact wpAny_pure (hQ _ (((Heap.SameBut.update ..).extBut.push _).push _))
/-- the keys of a dict, whatever they are, one by one -/
theorem Walks.rawKeys (hh : A.handled = none) (I d : Addr) (hne : d ≠ I) (es : Array DictEntry) (ep : Nat) :
    Walks prog w A I [I, d] [I] es.size (fun i v => ∃ e, es[i]? = some e ∧ v = e.key) (fun i h => h.IsKeyIter I d i es.size ep ∧ RawDict h d es ep) where
  sub := fun b hb => by simp at hb; simp [hb]
  frame := fun _ _ _ st hk => ⟨st.1.at fun o e => hk I (by simp) o e, st.2.keep fun o e => hk d (by simp) o e⟩
  item := fun i s Q E hi st hQ => by
    refine raw_next st.1 st.2 hi fun h' hit' hs' => ?_
    exact hQ es[i].key h' s.toks ⟨es[i], by simp [hi], rfl⟩ ⟨hit', st.2.keep fun o e => hs'.extBut d o hne e⟩ fun b o hb e => hs'.extBut b o (fun h => hb (by simp [h])) e
  done := fun s Q E st hQ => raw_end hh st.1 st.2 fun h' he' => hQ h' s.toks fun b o hb e => he' b o (fun h => hb (by simp [h])) e
  self := fun _ _ _ _ st hQ => wpAny_pyIter_keyiter st.1 hQ
end
end
end Mine
namespace Mine
section
open Sem (wp)
section
variable {prog : Program} {w : World} {A : Around} {E : Value → Shared → Prop} {s : Shared} {env : Env} {h₀ : Heap} {body : List Stmt} {Q : Flow → Shared → Prop} {d : Addr} {od : Obj} {news kl : List (Addr × Obj)} {S : Int → Int → Int → Prop} {n : Nat}
theorem kstB_same {m₁ : Str → Option Value} {ps : List (Str × Value)} (h1 : ∀ p ∈ ps, m₁ p.1 = some p.2) : kstB m₁ ps = m₁ :=
  funext fun _ => kstB_eq h1 fun _ => rfl
theorem tup_of_key {x y z : Int} {h : Heap} {T : Addr} {ok : Obj} (t : TupKeyObj (intKind prog w) [x, y, z] ok) (e : h.get? T = some ok) : ∃ t1 t2 t3, IsTup h T #[.int x t1, .int y t2, .int z t3] := by
  obtain ⟨hc, items, n, hd, hi⟩ := t
  have e1 : ∃ t1 t2 t3, items.toList = [.int x t1, .int y t2, .int z t3] := by
    cases hl : items.toList with
    | nil => rw [hl] at hi; cases hi
    | cons a r =>
      rw [hl] at hi
      cases hi with
      | cons h1 hi =>
        cases r with
        | nil => cases hi
        | cons b r =>
          cases hi with
          | cons h2 hi =>
            cases r with
            | nil => cases hi
            | cons c r =>
              cases hi with
              | cons h3 hi =>
                cases hi
                obtain ⟨t1, rfl⟩ := Value.isInt_shape h1
                obtain ⟨t2, rfl⟩ := Value.isInt_shape h2
                obtain ⟨t3, rfl⟩ := Value.isInt_shape h3
                exact ⟨t1, t2, t3, rfl⟩
  obtain ⟨t1, t2, t3, e1⟩ := e1
  refine ⟨t1, t2, t3, ok, e, hc, n, ?_⟩
  rw [hd]
  congr 1
  exact Array.ext' e1
/-- a loop over the keys of such a dict -/
theorem lost_turns {target : Expr} {m₀ : Str → Option Value} (ps : List (Str × Value)) (hh : A.handled = none) (lo : (d == sysModules) = false) (F : Fr h₀ env.locals s.heap m₀) (N : News h₀ env.locals s.heap news)
    (hm : (d, od) ∈ news) (ob : LostOb prog w od kl S n) (hkl : ∀ p ∈ kl, p ∈ news) (hps : ∀ p ∈ ps, m₀ p.1 = some p.2)
    (turn : ∀ T x y z t1 t2 t3 m₁ h tk I oI, IsTup h T #[.int x t1, .int y t2, .int z t3] → LostOb prog w od kl (fun a b c => a = x ∧ b = y ∧ c = z) n → OwnOff [(I, oI)] (news.map (·.1)) →
      Fr h₀ env.locals h (kstB m₁ ps) → News h₀ env.locals h ((I, oI) :: news) →
      wpAny (model prog w) A (assign target env (.ref T)) (fun _ s₃ => wpAny (model prog w) A (execs body env) (InvPostN h₀ env.locals (fun m nx => nx = news ∧ ∀ p ∈ ps, m p.1 = some p.2) [(I, oI)] (news.map (·.1)) { s with heap := h, toks := tk } Q) E s₃) E { s with heap := h, toks := tk })
    (done : ∀ m₁ h tk, Fr h₀ env.locals h (kstB m₁ ps) → News h₀ env.locals h news → Q .next { s with heap := h, toks := tk }) :
    wpAny (model prog w) A (pyIter (.ref d)) (fun it s₂ => TurnsAt prog w A h₀ env target body Q E it s₂) E s := by
  obtain ⟨hc, es, ep, xs, hdat, he, hnd, hl, hk', hv, hs⟩ := ob
  have hax := N _ hm
  have hraw : RawDict s.heap d es ep := ⟨od, hax.1, hc, hdat⟩
  have hne : d ≠ s.heap.objs.size := Nat.ne_of_lt (Heap.lt_size hax.1)
  refine raw_iter lo hraw ?_
  let J : Nat → (Str → Option Value) → List (Addr × Obj) → Prop := fun _ m₁ nx => nx = news ∧ ∀ p ∈ ps, m₁ p.1 = some p.2
  refine ⟨s.heap.objs.size, _, _, es.size, _, _, _, m₀, news, J, rfl, KTurns.ofWalks (Walks.rawKeys hh s.heap.objs.size d hne es ep) (fun i v s Q E st q => letGo_keyiter st.1 q), ?_, ?_, ?_,
    ⟨⟨_, Heap.get?_push_size _ rfl, rfl, rfl⟩, hraw.keep fun o e => Heap.get?_push_of_some _ e⟩, F.push _, (fun p hp => ⟨Heap.get?_push_of_some _ (N p hp).1, (N p hp).2⟩), ⟨rfl, hps⟩, ?_, ?_⟩
  · intro hI
    rcases List.mem_cons.mp hI with e | e
    · exact absurd F.ns.lt (e ▸ Nat.lt_irrefl _)
    · exact hax.2.1 (List.mem_singleton.mp e).symm
  · intro b hb
    rw [List.mem_singleton.mp hb]
    exact next_is_new F
  · intro p hp hI
    exact absurd (Heap.lt_size (N p hp).1) ((List.mem_singleton.mp hI) ▸ Nat.lt_irrefl _)
  · rintro i v m₁ news₁ h₁ tk₁ own hin ⟨e, hei, rfl⟩ ⟨rfl, h1⟩ hnw hown hget hall hst₁ F₁ N₁
    obtain ⟨⟨oI, hoI, _⟩, _⟩ := hst₁
    have hIown : (s.heap.objs.size, oI) ∈ own := hall _ (List.mem_cons.mpr (.inl rfl)) (next_is_new F) _ hoI
    have hx : e ∈ es.toList := Array.mem_toList_iff.mpr (Array.mem_of_getElem? hei)
    rw [he] at hx
    obtain ⟨q, hq, rfl⟩ := List.mem_map.mp hx
    obtain ⟨ok, hokm, tk⟩ := hk' q hq
    obtain ⟨x, y, z, e1, e2⟩ := hv q hq
    rw [e1] at tk
    have hTm := N₁ _ (List.mem_append_right _ (hkl _ hokm))
    obtain ⟨t1, t2, t3, hT⟩ := tup_of_key tk hTm.1
    have hsep : OwnOff [(s.heap.objs.size, oI)] (news₁.map (·.1)) := by
      intro p hp b hb e
      rw [List.mem_singleton.mp hp] at e
      obtain ⟨r, hr, rfl⟩ := List.mem_map.mp hb
      exact hnw r hr (List.mem_singleton.mpr e.symm)
    rw [← kstB_same h1] at F₁
    refine wpAny_mono (turn q.2.1 x y z t1 t2 t3 m₁ h₁ tk₁ s.heap.objs.size oI hT ⟨hc, es, ep, xs, hdat, he, hnd, hl, hk', hv, ?_⟩ hsep F₁ ?_) (fun _ s₃ h₃ => wpAny_mono h₃ (fun f s₄ p => ?_) fun _ _ e => e) fun _ _ e => e
    · rintro a b c ⟨rfl, rfl, rfl⟩
      exact e1 ▸ List.mem_map.mpr ⟨q, hq, rfl⟩
    · intro p hp
      rcases List.mem_cons.mp hp with rfl | hp
      · exact N₁ _ (List.mem_append_left _ hIown)
      · exact N₁ _ (List.mem_append_right _ hp)
    · have fin : InvEndN h₀ env.locals (fun m nx => nx = news₁ ∧ ∀ p ∈ ps, m p.1 = some p.2) [(s.heap.objs.size, oI)] (news₁.map (·.1)) { s with heap := h₁, toks := tk₁ } s₄ → LoopStepU h₀ env.locals [s.heap.objs.size] own (J (i + 1)) { s with heap := h₁, toks := tk₁ } .next s₄ := by
        rintro ⟨h', tk, m', news', nx, e, F', N', hn, ho, ha, rfl, hm'⟩
        refine ⟨rfl, h', tk, m', nx, e, F', fun p hp => ?_, hnw, rfl, hm'⟩
        rcases List.mem_append.mp hp with hp | hp
        · rcases List.mem_cons.mp (hown p hp) with h2 | h2
          · have h3 := hget p hp
            rw [h2, hoI] at h3
            have : p = (s.heap.objs.size, oI) := Prod.ext h2 (Option.some.inj h3).symm
            rw [this]; exact N' _ (ho _ (List.mem_singleton.mpr rfl))
          · have h2 := List.mem_singleton.mp h2
            have h3 := hget p hp
            rw [h2, (N₁ _ (List.mem_append_right _ hm)).1] at h3
            have : p = (d, od) := Prod.ext h2 (Option.some.inj h3).symm
            rw [this]; exact N' _ (hn _ hm)
        · exact N' _ (hn p hp)
      cases f with
      | ret v => exact .ret p
      | brk => exact .brk p
      | next => exact .next (fin p)
      | cont => exact .cont (fin p)
  · rintro h' tk m' news' F' N' _ ⟨rfl, h1⟩
    rw [← kstB_same h1] at F'
    exact done m' h' tk F' N'
end
end
end Mine
namespace Mine
section
def PyStop (p : Prop) : Prop := p
theorem pyStop {p : Prop} (h : PyStop p) : p := h
theorem pyGo {p : Prop} (h : p) : PyStop p := h
theorem ce_yes {h₀ : Heap} {L I C D : Addr} {m : Str → Option Value} {s₁ : Shared} {oI oC oD : Obj} {y : Value} {h' : Heap} {tk : Nat} {all news : List (Addr × Obj)} {l r : List Int}
    (F : Fr h₀ L h' m) (N : News h₀ L h' all) (sub : ∀ p ∈ (I, oI) :: (C, oC) :: (D, oD) :: news, p ∈ all) (off : LCg.Off3 I C D news) (e : KCiEl news l r y news) :
    LCg.CompEnd h₀ L m s₁ I oI C oC D oD (fun _ => True) (fun y news' => KCiEl news l r y news') y { s₁ with heap := h', toks := tk } :=
  LCg.CompEnd.intro F N news sub off trivial e
theorem ce_no {h₀ : Heap} {L I C D : Addr} {m : Str → Option Value} {s₁ : Shared} {oI oC oD : Obj} {y : Value} {h' : Heap} {tk : Nat} {all news : List (Addr × Obj)} {l r : List Int}
    (F : Fr h₀ L h' m) (N : News h₀ L h' all) (sub : ∀ p ∈ (I, oI) :: (C, oC) :: (D, oD) :: news, p ∈ all) (off : LCg.Off3 I C D news) (e : KCiNo news l r news) :
    LCg.CompEnd h₀ L m s₁ I oI C oC D oD (fun _ => True) (fun _ news' => KCiNo news l r news') y { s₁ with heap := h', toks := tk } :=
  LCg.CompEnd.intro F N news sub off trivial e
def havG (x y z : Int) (l : List Int) (k : Int) : List Int := if bitF ([x, y, z].getD k.toNat 0) (sumF [x, y, z]) = 0 then l else l ++ [k]
theorem havG_grows (x y z : Int) : KPfGrows (havG x y z) := fun l k => by unfold havG; split <;> simp
theorem have_ok {x y z : Int} (h : highF (sumF [x, y, z]) ≠ -1) :
    (((rangeKs 0 3).foldl (havG x y z) []).length = 1 ∨ ((rangeKs 0 3).foldl (havG x y z) []).length = 3) ∧ ∀ k ∈ (rangeKs 0 3).foldl (havG x y z) [], 0 ≤ k ∧ k < 3 ∧ bitF ([x, y, z].getD k.toNat 0) (sumF [x, y, z]) ≠ 0 := by
  have e : rangeKs 0 3 = [0, 1, 2] := by decide
  have P := fun (p q r : Prop) [Decidable p] [Decidable q] [Decidable r] h0 h1 h2 e => par_no (p := p) (q := q) (r := r) h h0 h1 h2 e
  rw [e]
  simp only [List.foldl_cons, List.foldl_nil]
  have e0 : bitF ([x, y, z].getD (0 : Int).toNat 0) (sumF [x, y, z]) = bitF x (sumF [x, y, z]) := rfl
  have e1 : bitF ([x, y, z].getD (1 : Int).toNat 0) (sumF [x, y, z]) = bitF y (sumF [x, y, z]) := rfl
  have e2 : bitF ([x, y, z].getD (2 : Int).toNat 0) (sumF [x, y, z]) = bitF z (sumF [x, y, z]) := rfl
  by_cases h0 : bitF x (sumF [x, y, z]) = 0 <;> by_cases h1 : bitF y (sumF [x, y, z]) = 0 <;> by_cases h2 : bitF z (sumF [x, y, z]) = 0
  · exact (P True True True (iff_true_intro h0) (iff_true_intro h1) (iff_true_intro h2) (by decide)).elim
  · have : havG x y z (havG x y z (havG x y z [] 0) 1) 2 = [2] := by simp only [havG, e0, e1, e2, h0, h1, h2, if_true, if_false, List.nil_append]
    rw [this]; exact ⟨.inl rfl, fun k hk => by rw [List.mem_singleton.mp hk]; exact ⟨by omega, by omega, h2⟩⟩
  · have : havG x y z (havG x y z (havG x y z [] 0) 1) 2 = [1] := by simp only [havG, e0, e1, e2, h0, h1, h2, if_true, if_false, List.nil_append]
    rw [this]; exact ⟨.inl rfl, fun k hk => by rw [List.mem_singleton.mp hk]; exact ⟨by omega, by omega, h1⟩⟩
  · exact (P True False False (iff_true_intro h0) (iff_false_intro h1) (iff_false_intro h2) (by decide)).elim
  · have : havG x y z (havG x y z (havG x y z [] 0) 1) 2 = [0] := by simp only [havG, e0, e1, e2, h0, h1, h2, if_true, if_false, List.nil_append]
    rw [this]; exact ⟨.inl rfl, fun k hk => by rw [List.mem_singleton.mp hk]; exact ⟨by omega, by omega, h0⟩⟩
  · exact (P False True False (iff_false_intro h0) (iff_true_intro h1) (iff_false_intro h2) (by decide)).elim
  · exact (P False False True (iff_false_intro h0) (iff_false_intro h1) (iff_true_intro h2) (by decide)).elim
  · have : havG x y z (havG x y z (havG x y z [] 0) 1) 2 = [0, 1, 2] := by simp only [havG, e0, e1, e2, h0, h1, h2, if_true, if_false, List.nil_append, List.cons_append]
    rw [this]
    refine ⟨.inr rfl, fun k hk => ?_⟩
    rcases List.mem_cons.mp hk with rfl | hk
    · exact ⟨by omega, by omega, h0⟩
    · rcases List.mem_cons.mp hk with rfl | hk
      · exact ⟨by omega, by omega, h1⟩
      · rw [List.mem_singleton.mp hk]; exact ⟨by omega, by omega, h2⟩
end
end Mine
namespace Mine
section
theorem kept_less (w : World) (l : Addr) (us : List Value) (x y z k : Int) (hi : IntsAre us (lessF [x, y, z] k (takeF ([x, y, z].getD k.toNat 0) (sumF [x, y, z])))) (h : highF (sumF [x, y, z]) ≠ -1)
    (hx : 0 ≤ x ∧ x < 10 ^ 24) (hy : 0 ≤ y ∧ y < 10 ^ 24) (hz : 0 ≤ z ∧ z < 10 ^ 24) (hk : 0 ≤ k) (hk3 : k < 3) (hb : bitF ([x, y, z].getD k.toNat 0) (sumF [x, y, z]) ≠ 0) :
    ClP 5 w (hd.heap_39 w.params) 66 (fun h => h.IsList l us.toArray) [.ref l] (OutB true) := by
  obtain ⟨t1, t2, -, t4⟩ := take_facts h hx.1 hy.1 hz.1 hk hk3 hb
  obtain ⟨x', y', z', e, bx, bY, bz⟩ := less_bd hx hy hz hk hk3 t1 t2
  rw [e] at hi t4
  exact kept_call w l us x' y' z' hi bx bY bz t4
local macro_rules | `(tactic| cell_enter) => `(tactic| (refine' code_allC ?k1 ?k2 ?k3 ?k5 ?kA ?kF ?kK ?k6 ?k7 ?k8 ?k9 ?kB ?kD ?_ ?c2 ?c3 ?c4; (case kA => exact rfl); (case kF => exact rfl); (case kK => assumption); (case k1 => k_asm); (case k2 => k_asm); (case k3 => k_asm); (case k5 => k_asm); (case k6 => k_is); (case k7 => k_is); (case k8 => ktr_room); (case k9 => exact BindsTo.of_eq rfl); (case kB => exact rfl); (case kD => decide +kernel); (case c2 => exact rfl); (case c3 => exact rfl); (case c4 => exact rfl); k_whole))
local macro_rules | `(tactic| walk_at "call ref") => `(tactic| (k_here; k_dflt (first
  | (refine' ClP.use (single_call _ _ _) ?k1 ?k2 ?k3 ?k4 ?k5 ?kK ?kd ?ku ?kp ?_; (case k1 => k_asm); (case k2 => k_asm); (case k3 => k_asm); (case k4 => k_asm); (case k5 => k_asm); (case kK => first | exact rfl | assumption); (case kd => ktr_room); (case ku => ktr_units); (case kp => trivial); intro v9 own9 h9 tk9 F9 N9 K9 O9; obtain ⟨e8, e9⟩ := O9; subst e8; subst e9; (try simp only [List.nil_append] at N9); clear K9; (try dsimp only); (try k_fold))
  | (refine' ClP.use (high_call _ _ _) ?k1 ?k2 ?k3 ?k4 ?k5 ?kK ?kd ?ku ?kp ?_; (case k1 => k_asm); (case k2 => k_asm); (case k3 => k_asm); (case k4 => k_asm); (case k5 => k_asm); (case kK => first | exact rfl | assumption); (case kd => ktr_room); (case ku => ktr_units); (case kp => trivial); intro v9 own9 h9 tk9 F9 N9 K9 O9; obtain ⟨e8, t9, e9⟩ := O9; subst e8; subst e9; (try simp only [List.nil_append] at N9); clear K9; (try dsimp only); (try k_fold))
  | (refine' ClP.use (sum_call _ _ _ _ ?kI ?kl) ?k1 ?k2 ?k3 ?k4 ?k5 ?kK ?kd ?ku ?kp ?_; (case k1 => k_asm); (case k2 => k_asm); (case k3 => k_asm); (case k4 => k_asm); (case k5 => k_asm); (case kp => is_list); (case kI => assumption); (case kl => first | ((try simp only [List.length_cons, List.length_nil]); omega) | (simp only [lessF, List.length_append, List.length_cons, List.length_nil, List.length_take, List.length_drop]; omega)); (case kK => first | exact rfl | assumption); (case kd => ktr_room); (case ku => ktr_units); intro v9 own9 h9 tk9 F9 N9 K9 O9; obtain ⟨e8, t9, e9⟩ := O9; subst e8; subst e9; (try simp only [List.nil_append] at N9); clear K9; (try dsimp only); (try k_fold))
  | (refine' ClP.use (less_call _ _ _ _ ?kI ?kl _ _ _ _ ?k0 ?kh) ?k1 ?k2 ?k3 ?k4 ?k5 ?kK ?kd ?ku ?kp ?_; (case k1 => k_asm); (case k2 => k_asm); (case k3 => k_asm); (case k4 => k_asm); (case k5 => k_asm); (case kp => is_list); (case kI => assumption); (case kl => ((try simp only [List.length_cons, List.length_nil]); omega)); (case k0 => omega); (case kh => ((try simp only [List.length_cons, List.length_nil]); omega)); (case kK => first | exact rfl | assumption); (case kd => ktr_room); (case ku => ktr_units); intro v9 own9 h9 tk9 F9 N9 K9 O9; obtain ⟨D9, us9, c9, e8, e9, hI9, hD9⟩ := O9; subst e8; subst e9; (try simp only [List.cons_append, List.nil_append] at N9); clear K9; (try dsimp only); (try k_fold))
  | (refine' ClP.use (kept_less _ _ _ _ _ _ _ ?kI ?kh ?kb1 ?kb2 ?kb3 ?k0 ?k9 ?kb) ?k1 ?k2 ?k3 ?k4 ?k5 ?kK ?kd ?ku ?kp ?_; (case k1 => k_asm); (case k2 => k_asm); (case k3 => k_asm); (case k4 => k_asm); (case k5 => k_asm); (case kp => is_list); (case kI => with_reducible assumption); (case kh => with_reducible assumption); (case kb1 => with_reducible assumption); (case kb2 => with_reducible assumption); (case kb3 => with_reducible assumption); (case k0 => omega); (case k9 => omega); (case kb => with_reducible assumption); (case kK => first | exact rfl | assumption); (case kd => ktr_room); (case ku => ktr_units); intro v9 own9 h9 tk9 F9 N9 K9 O9; obtain ⟨e8, e9⟩ := O9; subst e8; subst e9; (try simp only [List.nil_append] at N9); clear K9; (try dsimp only); (try k_fold))
  | (refine' ClP.use (kept_call _ _ _ _ _ _ ?kI ?kb1 ?kb2 ?kb3 ?ks) ?k1 ?k2 ?k3 ?k4 ?k5 ?kK ?kd ?ku ?kp ?_; (case k1 => k_asm); (case k2 => k_asm); (case k3 => k_asm); (case k4 => k_asm); (case k5 => k_asm); (case kp => is_list); (case kI => with_reducible assumption); (case kb1 => with_reducible assumption); (case kb2 => with_reducible assumption); (case kb3 => with_reducible assumption); (case ks => exact (sum_high _ _ _).mp (by with_reducible assumption)); (case kK => first | exact rfl | assumption); (case kd => ktr_room); (case ku => ktr_units); intro v9 own9 h9 tk9 F9 N9 K9 O9; obtain ⟨e8, e9⟩ := O9; subst e8; subst e9; (try simp only [List.nil_append] at N9); clear K9; (try dsimp only); (try k_fold)))))
local macro_rules | `(tactic| walk_at "CompSrcT") => `(tactic| (refine' pyStop ?_))
local macro_rules | `(tactic| walk_at "pyIter ref") => `(tactic| (refine' pyStop ?_))
local macro_rules | `(tactic| walk_at "exec For Name Name cons nil") => `(tactic| (k_here; (rename Fr _ _ _ _ => lF'); (with_unfolding_all refine' For_invVF lF' ?k1 ?k2 ?_; (case k1 => exact rfl); (case k2 => exact rfl); k_whole)))
local macro_rules | `(tactic| walk_at "CompEnd") => `(tactic| (k_dflt (first
  | (refine' ce_yes ?k1 ?k2 ?k3 ?k4 ?_; (case k1 => assumption); (case k2 => assumption); (case k3 => kcf_all); (case k4 => first | assumption | (simp only [LCg.Off3, and_true]; assumption)))
  | (refine' ce_no ?k1 ?k2 ?k3 ?k4 ?_; (case k1 => assumption); (case k2 => assumption); (case k3 => kcf_all); (case k4 => first | assumption | (simp only [LCg.Off3, and_true]; assumption))))))
set_option maxRecDepth 100000 in
set_option maxHeartbeats 8000000 in
theorem great_call (w : World) (l : Addr) (us : List Value) (x y z : Int) (hi : IntsAre us [x, y, z]) (hx : 0 ≤ x ∧ x < 10 ^ 24) (hy : 0 ≤ y ∧ y < 10 ^ 24) (hz : 0 ≤ z ∧ z < 10 ^ 24) :
    ClP 9 w (hd.heap_39 w.params) 71 (fun h => h.IsList l us.toArray) [.ref l] (OutB true) := by
  w_top off
  dsimp only [ClP]
  k_fill
  intro p loose mean mg mb news dp un gd cn cs a ccd cl outer A₀ base h₀ L m s Q E B F X N T hk hdp hun hpre hret
  refine wpAny_call ?_
  k_dflt cell_enter
  intro g' L' h' tk' cells' FG' hvis F' N' Y' B' X' T'
  k_cells Y'
  try simp only [List.cons_append, List.nil_append] at N'
  try dsimp only
  try k_fold
  have hl : g'.IsList l us.toArray := hpre.at fun o e => hvis _ _ e
  k_with_none
  k_steps
  · exact retB hret rfl (by with_reducible assumption) N (by with_reducible assumption)
  with_reducible rename highF (sumF [x, y, z]) ≠ -1 => hne
  with_reducible rename Fr _ _ _ _ => lF'
  with_reducible rename News _ _ _ _ => lN'
  with_reducible rename IsRange _ _ _ _ _ _ _ _ => rgX
  refine' pyGo (LCt.CompSrcT.range (n := 3) rfl lF' lN' rgX (by decide) (by rfl) (by size_fits) ?_)
  intro gg
  refine' kci_range (havG x y z) (fun k t I oI C oC D m' ys l' h' tk' E' hlo hhi hI hC hx' F' N' off' ne' hMark' => ?turn) (fun ys hys hlen => ?fin) (havG_grows x y z)
  case turn =>
    clear lF' lN'
    simp only [LCg.Off3, and_true] at off'
    have hm1 := sum_lo x y z
    have hm2 : 0 ≤ highF (sumF [x, y, z]) := by omega
    clear hm1
    try k_fold
    k_steps
    all_goals first
      | exact kci_el (if_neg (by with_reducible assumption)) rfl rfl
      | exact kci_no (if_pos (by with_reducible assumption)) rfl
      | (exfalso; omega)
  case fin =>
    clear lF' lN'
    intro D h tk F₂ N₂ off2
    have hH := have_ok hne
    generalize (rangeKs 0 3).foldl (havG x y z) [] = H at hys hH
    obtain ⟨hH1, hH2⟩ := hH
    try k_fold
    try dsimp only
    k_steps
    · with_reducible rename Int.fmod _ _ ≠ 1 => hod
      exfalso
      rcases hH1 with e | e <;> rw [e] at hod <;> exact hod (by decide)
    with_reducible rename Fr _ _ _ _ => lF'
    with_reducible rename News _ _ _ _ => lN'
    refine' pyGo (kst_listL (σ := Unit) (ns := H) (vs := ys) (fun _ => _) (fun _ => []) (fun _ => True) [Str.ofString "less"] (fun _ _ => True) () rfl ?hl4 hys lF' lN' trivial (List.forall_mem_nil _) trivial ?turn4 ?done4)
    case hl4 => intro _; exact .head _
    case turn4 =>
      rintro _ pre post k tkk u h tk4 own4 hns hmem hoff4 _ _ F₁ N₁
      clear lF' lN'
      dsimp only [kstB] at F₁
      try dsimp only at N₁
      obtain ⟨hk0, hk3, hkb⟩ := hH2 k hmem
      have hpos : 0 < H.length := by omega
      try k_fold
      k_steps
      all_goals first
        | exact (take_no1 (by with_reducible assumption) hne hx.1 hy.1 hz.1 hk0 hk3 hkb).elim
        | exact (take_no2 (by with_reducible assumption) hne hx.1 hy.1 hz.1 hk0 hk3 hkb).elim
        | exact (take_no3 (by with_reducible assumption) hne hx.1 hy.1 hz.1 hk0 hk3 hkb).elim
    case done4 =>
      intro _ u h tk4 _ _ F₁ N₁
      clear lF' lN'
      dsimp only [kstB] at F₁
      try dsimp only at N₁
      try k_fold
      try dsimp only
      k_steps
      all_goals first
        | exact retB hret rfl (by with_reducible assumption) N (by with_reducible assumption)
end
end Mine
namespace Mine
section
local macro_rules | `(tactic| walk_at "mine spare 0") => `(tactic| fail "spare")
/-- the triples that stand in the dict when it is the turn of a, b, c -/
def Bef (y z a b c p q r : Int) : Prop := 0 ≤ p ∧ 0 ≤ q ∧ q ≤ y ∧ 0 ≤ r ∧ r ≤ z ∧ (p < a ∨ (p = a ∧ (q < b ∨ (q = b ∧ r < c))))
/-- what the loops keep: the dict, its keys, and behind them what the outer loops own -/
def LJ (w : World) (D : Addr) (ps : List (Str × Value)) (rest : List (Addr × Obj)) (S : Int → Int → Int → Prop) (n : Nat) (m : Str → Option Value) (nx : List (Addr × Obj)) : Prop :=
  ∃ od kl, nx = (D, od) :: (kl ++ rest) ∧ LostOb PySem.Challenge.rw_fd5006_01.row.prog w od kl S n ∧ OwnOff rest (D :: kl.map (·.1)) ∧ (∀ p ∈ kl, p.1 ≠ D) ∧ (∀ p ∈ ps, m p.1 = some p.2)
theorem off_nil (as : List Addr) : OwnOff [] as := fun p hp => nomatch hp
theorem off_app {r o : List (Addr × Obj)} {D : Addr} {od : Obj} {kl : List (Addr × Obj)} (h1 : OwnOff r (D :: kl.map (·.1))) (h2 : OwnOff o (((D, od) :: (kl ++ r)).map (·.1))) : OwnOff (r ++ o) (D :: kl.map (·.1)) := by
  intro p hp b hb
  rcases List.mem_append.mp hp with hp | hp
  · exact h1 p hp b hb
  · refine h2 p hp b ?_
    simp only [List.map_cons, List.map_append] at hb ⊢
    rcases List.mem_cons.mp hb with hb | hb
    · exact hb ▸ .head _
    · exact .tail _ (List.mem_append_left _ hb)
theorem news_join {g : Heap} {L : Addr} {h : Heap} {q : Addr × Obj} {a b c : List (Addr × Obj)} (N : News g L h ((q :: (a ++ b)) ++ c)) : News g L h (q :: (a ++ (b ++ c))) := fun p hp => N p (by simpa only [List.cons_append, List.append_assoc] using hp)
theorem lj_end {w : World} {D : Addr} {ps : List (Str × Value)} {rest own kl : List (Addr × Obj)} {S S' : Int → Int → Int → Prop} {n n' : Nat} {g h : Heap} {L : Addr} {m' : Str → Option Value} {od : Obj} {s₁ : Shared} {tk : Nat} {news' : List (Addr × Obj)}
    (F : Fr g L h m') (N : News g L h news') (hs : ∀ p ∈ (D, od) :: (kl ++ (rest ++ own)), p ∈ news') (ob : LostOb PySem.Challenge.rw_fd5006_01.row.prog w od kl S n) (hS : ∀ a b c, S' a b c → S a b c) (hn : n ≤ n') (ho : OwnOff (rest ++ own) (D :: kl.map (·.1)))
    (hro : OwnOff own (rest.map (·.1))) (hkD : ∀ p ∈ kl, p.1 ≠ D) (hps : ∀ p ∈ ps, m' p.1 = some p.2) : InvEndG g L (LJ w D ps rest S' n') own s₁ { s₁ with heap := h, toks := tk } := by
  refine InvEndG.intro F N ⟨od, kl, rfl, ob.mono hS hn, fun p hp b hb => ho p (List.mem_append_left _ hp) b hb, hkD, hps⟩ ?_ (fun p hp => hs p ?_) (fun p hp => hs p ?_)
  · intro p hp b hb
    simp only [List.map_cons, List.map_append] at hb
    rcases List.mem_cons.mp hb with hb | hb
    · exact ho p (List.mem_append_right _ hp) b (hb ▸ .head _)
    · rcases List.mem_append.mp hb with hb | hb
      · exact ho p (List.mem_append_right _ hp) b (.tail _ hb)
      · exact hro p hp b hb
  · rcases List.mem_cons.mp hp with rfl | hp
    · exact .head _
    · rcases List.mem_append.mp hp with hp | hp
      · exact .tail _ (List.mem_append_left _ hp)
      · exact .tail _ (List.mem_append_right _ (List.mem_append_left _ hp))
  · exact .tail _ (List.mem_append_right _ (List.mem_append_right _ hp))
theorem off_rest {own kl rest : List (Addr × Obj)} {q : Addr × Obj} (h : OwnOff own ((q :: (kl ++ rest)).map (·.1))) : OwnOff own (rest.map (·.1)) := fun p hp b hb => h p hp b (by
  simp only [List.map_cons, List.map_append]; exact .tail _ (List.mem_append_right _ hb))
def condF (a b c d : Int) : Bool := (decide (d ≤ a) && lostF (a - d) b c) || ((decide (d ≤ b) && lostF a (b - d) c) || (decide (d ≤ c) && lostF a b (c - d)))
theorem won_lost : ∀ a b c : Fin 6, (!([1, 2, 4].any (condF a.val b.val c.val))) = lostF a.val b.val c.val := by decide +kernel
theorem lj_set {w : World} {A : Around} {E : Value → Shared → Prop} {s : Shared} {g : Heap} {L D T : Addr} {m : Str → Option Value} {rest kl : List (Addr × Obj)} {od ok : Obj} {S : Int → Int → Int → Prop} {n : Nat} {x y z : Int} {Q : Unit → Shared → Prop} {v : Bool}
    (hu : A.units + 1 < cLine) (F : Fr g L s.heap m) (N : News g L s.heap ((T, ok) :: (D, od) :: (kl ++ rest))) (hT : T ≠ D) (ob : LostOb PySem.Challenge.rw_fd5006_01.row.prog w od kl S n) (hkD : ∀ p ∈ kl, p.1 ≠ D) (hr : OwnOff rest (D :: kl.map (·.1)))
    (tk : TupKeyObj (intKind PySem.Challenge.rw_fd5006_01.row.prog w) [x, y, z] ok) (hv : v = lostF x y z) (hn : n ≤ 100000)
    (h : ∀ h' od', Fr g L h' m → News g L h' ((T, ok) :: (D, od') :: (kl ++ rest)) → LostOb PySem.Challenge.rw_fd5006_01.row.prog w od' ((T, ok) :: kl) (fun p q r => S p q r ∨ (p = x ∧ q = y ∧ r = z)) (n + 1) → Q () { s with heap := h', toks := s.toks + 4 }) :
    wpAny (model PySem.Challenge.rw_fd5006_01.row.prog w) A (setItem (.ref D) (.ref T) (.bool v)) Q E s :=
  lost_set hu F N (.tail hT (.head fun p hp => (List.mem_append.mp hp).elim (hkD p) fun hp => hr p hp D (.head _))) ob (fun p hp => .tail _ (.tail _ (List.mem_append_left _ hp))) (.head _) tk hv hn h
theorem led_sub {q : Addr × Obj} {a r o : List (Addr × Obj)} : ∀ p ∈ q :: (a ++ r), p ∈ q :: (a ++ (r ++ o)) := fun p hp => by
  rcases List.mem_cons.mp hp with rfl | hp
  · exact .head _
  · rcases List.mem_append.mp hp with hp | hp
    · exact .tail _ (List.mem_append_left _ hp)
    · exact .tail _ (List.mem_append_right _ (List.mem_append_left _ hp))
theorem led_own {q : Addr × Obj} {a r o : List (Addr × Obj)} : ∀ p ∈ o, p ∈ q :: (a ++ (r ++ o)) := fun p hp => .tail _ (List.mem_append_right _ (List.mem_append_right _ hp))
theorem p_yes1 {a b c e : Int} {pre : List Int} (h : e ≤ a) (h1 : lostF (a - e) b c = true) : true = (pre ++ [e]).any (condF a b c) := by simp [condF, h, h1]
theorem p_yes2 {a b c e : Int} {pre : List Int} (h : e ≤ b) (h1 : lostF a (b - e) c = true) : true = (pre ++ [e]).any (condF a b c) := by simp [condF, h, h1]
theorem p_yes3 {a b c e : Int} {pre : List Int} (h : e ≤ c) (h1 : lostF a b (c - e) = true) : true = (pre ++ [e]).any (condF a b c) := by simp [condF, h, h1]
theorem p_no {a b c e : Int} {pre : List Int} {won : Bool} (hP : won = pre.any (condF a b c)) (h1 : ¬ e ≤ a ∨ lostF (a - e) b c = false) (h2 : ¬ e ≤ b ∨ lostF a (b - e) c = false) (h3 : ¬ e ≤ c ∨ lostF a b (c - e) = false) : won = (pre ++ [e]).any (condF a b c) := by
  subst hP
  have k1 : (decide (e ≤ a) && lostF (a - e) b c) = false := by rcases h1 with h | h <;> simp [h]
  have k2 : (decide (e ≤ b) && lostF a (b - e) c) = false := by rcases h2 with h | h <;> simp [h]
  have k3 : (decide (e ≤ c) && lostF a b (c - e)) = false := by rcases h3 with h | h <;> simp [h]
  simp [condF, k1, k2, k3]
theorem won_int {a b c : Int} (ha : 0 ≤ a ∧ a < 6) (hb : 0 ≤ b ∧ b < 6) (hc : 0 ≤ c ∧ c < 6) : (!([1, 2, 4].any (condF a b c))) = lostF a b c := by
  have := won_lost ⟨a.toNat, by omega⟩ ⟨b.toNat, by omega⟩ ⟨c.toNat, by omega⟩
  simpa only [Int.toNat_of_nonneg ha.1, Int.toNat_of_nonneg hb.1, Int.toNat_of_nonneg hc.1] using this
def OutD (w : World) (x y z : Int) (h _h' : Heap) (own : List (Addr × Obj)) (v : Value) : Prop :=
  ∃ D od kl, own = (D, od) :: kl ∧ v = .ref D ∧ LostOb PySem.Challenge.rw_fd5006_01.row.prog w od kl (Bef y z (x + 1) 0 0) 1000 ∧ (D == sysModules) = false ∧ ∀ q ∈ (D, od) :: kl, ∀ b o, h.get? b = some o → b ≠ q.1
theorem retD {h₀ g h₂ : Heap} {L L₂ D : Addr} {m : Str → Option Value} {news kl : List (Addr × Obj)} {od : Obj} {s : Shared} {Q : Value → Shared → Prop} {w : World} {x y z : Int} {S : Int → Int → Int → Prop} {n : Nat} {h' : Heap} {tk' : Nat}
    (hret : ∀ (v : Value) (own : List (Addr × Obj)) (h' : Heap) (tk' : Nat), Fr h₀ L h' m → News h₀ L h' (own ++ news) → Keeps s.heap h' → OutD w x y z s.heap h' own v → Q v { s with heap := h', toks := tk' })
    (F : Fr h₀ L h' m) (N : News h₀ L s.heap news) (k : Keeps s.heap h') (N' : News h₀ L h' ((D, od) :: (kl ++ []))) (ob : LostOb PySem.Challenge.rw_fd5006_01.row.prog w od kl S n) (hS : ∀ a b c, Bef y z (x + 1) 0 0 a b c → S a b c) (hn : n ≤ 1000) (lo : (D == sysModules) = false)
    (hv : ∀ b o, s.heap.get? b = some o → g.get? b = some o) (Ng : News g L₂ h₂ ((D, od) :: (kl ++ []))) : Q (.ref D) { s with heap := h', toks := tk' } := by
  refine hret _ ((D, od) :: kl) h' tk' F (fun q hq => ?_) k ⟨D, od, kl, rfl, rfl, ob.mono hS hn, lo, fun q hq b o e h9 => by have e2 := hv b o e; rw [h9, (Ng q (by simpa using hq)).2.2] at e2; cases e2⟩
  rcases List.mem_append.mp hq with hq | hq
  · exact N' q (by simpa using hq)
  · exact (N.keeps k) q hq
theorem led_swap {D T : Addr} {od ok : Obj} {kl r : List (Addr × Obj)} : ∀ p ∈ (D, od) :: (((T, ok) :: kl) ++ r), p ∈ (T, ok) :: (D, od) :: (kl ++ r) := fun p hp => by
  rcases List.mem_cons.mp hp with rfl | hp
  · exact .tail _ (.head _)
  · rcases List.mem_cons.mp hp with rfl | hp
    · exact .head _
    · exact .tail _ (.tail _ hp)
theorem off_new {r : List (Addr × Obj)} {D T : Addr} {ok : Obj} {kl : List (Addr × Obj)} (h : OwnOff r (D :: kl.map (·.1))) (hT : ∀ p ∈ r, p.1 < T) : OwnOff r (D :: (((T, ok) :: kl).map (·.1))) := fun p hp b hb => by
  rcases List.mem_cons.mp hb with rfl | hb
  · exact h p hp _ (.head _)
  · rcases List.mem_cons.mp hb with rfl | hb
    · exact Nat.ne_of_lt (hT p hp)
    · exact h p hp _ (.tail _ hb)
theorem bef_step {y z : Int} {i j k : Nat} (a b c : Int) (h : Bef y z i j ((k + 1 : Nat) : Int) a b c) : Bef y z i j k a b c ∨ (a = i ∧ b = j ∧ c = k) := by
  obtain ⟨h1, h2, h3, h4, h5, h6⟩ := h
  by_cases e : a = i ∧ b = j ∧ c = k
  · exact .inr e
  · exact .inl ⟨h1, h2, h3, h4, h5, by omega⟩
local macro_rules | `(tactic| cell_enter) => `(tactic| (refine' code_all ?k1 ?k2 ?k3 ?k5 ?kA ?kF ?kK ?k6 ?k7 ?k8 ?k9 ?kB ?_ ?c2 ?c3 ?c4 ?c5; (case kA => exact rfl); (case kF => exact rfl); (case kK => assumption); (case k1 => k_asm); (case k2 => k_asm); (case k3 => k_asm); (case k5 => k_asm); (case k6 => k_is); (case k7 => k_is); (case k8 => ktr_room); (case k9 => exact BindsTo.of_eq rfl); (case c5 => decide); (case kB => exact locs rfl); (case c2 => exact rfl); (case c3 => exact rfl); (case c4 => exact rfl); k_whole))
local macro_rules | `(tactic| walk_at "exec For Name Call cons nil") => `(tactic| (k_here; (rename Fr _ _ _ _ => lF'); (with_unfolding_all refine' For_invVF lF' ?k1 ?k2 ?_; (case k1 => exact rfl); (case k2 => exact rfl); k_whole)))
local macro_rules | `(tactic| walk_at "exec For Name Name cons nil") => `(tactic| (k_here; (rename Fr _ _ _ _ => lF'); (with_unfolding_all refine' For_invVF lF' ?k1 ?k2 ?_; (case k1 => exact rfl); (case k2 => exact rfl); k_whole)))
local macro_rules | `(tactic| walk_at "pyIter ref") => `(tactic| (refine' pyStop ?_))
local macro_rules | `(tactic| walk_at "InvEndN") => `(tactic| (refine' pyStop ?_))
local macro_rules | `(tactic| walk_at "subscriptTail") => `(tactic| (k_here; (with_reducible show wpAny _ _ (subscriptTail _ _ (Value.ref _) (Value.ref _)) _ _ _); k_dflt ((with_reducible rename LostOb _ _ _ _ _ _ => lOb'); (refine' lost_get ?u ?N lOb' ?d ?k ?a ?t ?S ?_; (case u => ktr_units); (case N => k_asm); (case d => k_mem); (case k => (intro p hp; with_reducible repeat (first | assumption | exact List.mem_append_left _ hp | apply List.mem_cons_of_mem))); (case a => exact .head _); (case t => exact TupKeyObj.made (by tuptab_items_int)); (case S => (refine ⟨?_, ?_, ?_, ?_, ?_, ?_⟩ <;> omega))))))
set_option maxRecDepth 100000 in
set_option maxHeartbeats 8000000 in
theorem lost_call (w : World) (l l2 : Addr) (us vs : List Value) (x y z : Int) (hi : IntsAre us [x, y, z]) (hi2 : IntsAre vs [1, 2, 4]) (hx : 0 ≤ x ∧ x < 6) (hy : 0 ≤ y ∧ y < 6) (hz : 0 ≤ z ∧ z < 6) :
    ClP 1 w (hd.heap_39 w.params) 40 (fun h => h.IsList l us.toArray ∧ h.IsList l2 vs.toArray) [.ref l, .ref l2] (OutD w x y z) := by
  w_top off
  dsimp only [ClP]
  k_fill
  intro p loose mean mg mb news dp un gd cn cs a ccd cl outer A₀ base h₀ L m s Q E B F X N T hk hdp hun hpre hret
  refine wpAny_call ?_
  k_dflt cell_enter
  intro g' L' h' FG' hvis F' N' B' X' T' hlt
  try dsimp only
  try k_fold
  have hl : g'.IsList l us.toArray := hpre.1.at fun o e => hvis _ _ e
  have hl2 : g'.IsList l2 vs.toArray := hpre.2.at fun o e => hvis _ _ e
  k_with_none
  k_steps
  with_reducible rename Fr _ _ _ _ => lF'
  with_reducible rename News _ _ _ _ => lN'
  with_reducible rename IsRange _ _ _ _ _ _ _ _ => rgX
  with_reducible rename Obj.IsDictOf (intKind _ _) _ [] => hdE
  with_reducible rename (_ == sysModules) = false => lo
  refine' pyGo (range_invG (n := (x + 1 - 0).toNat) (fun i m nx => LJ w _ [(Str.ofString "top", .ref l), (Str.ofString "steps", .ref l2), (Str.ofString "lost", .ref _)] [] (Bef y z i 0 0) (36 * i) m nx) rfl (show IsRange _ _ 0 (x + 1) 1 _ _ _ from rgX) (small_one (by omega) (by omega) (by omega) (by omega)) (rangeSize_nat _ _) lF' lN' ⟨_, [], rfl, (LostOb.ofEmpty hdE).mono ?hm (by omega), off_nil _, (fun p hp => nomatch hp), ?hps⟩ ?turn ?done)
  case hm => rintro p q r ⟨h1, h2, h3, h4, h5, h6⟩; omega
  case hps => kst_all
  case turn =>
    rintro i ti m₁ nx h tk own hin hoff ⟨od, kl, rfl, ob, hrest, hkD, hps⟩ F₁ N₁
    clear lF' lN' rgX
    rw [← kstB_same hps] at F₁
    clear hps
    dsimp only [kstB] at F₁
    simp only [Int.zero_add] at F₁
    have hoff := off_app hrest hoff
    replace N₁ := news_join N₁
    simp only [List.nil_append] at N₁ hoff
    try k_fold
    k_steps
    with_reducible rename Fr _ _ _ _ => lF'
    with_reducible rename News _ _ _ _ => lN'
    with_reducible rename IsRange _ _ _ _ _ _ _ _ => rgX
    refine' pyGo (range_invG (n := (y + 1 - 0).toNat) (fun j m nx => LJ w _ [(Str.ofString "top", .ref l), (Str.ofString "steps", .ref l2), (Str.ofString "lost", .ref _), (Str.ofString "a", .int i ti)] own (Bef y z i j 0) (36 * i + 6 * j) m nx) rfl (show IsRange _ _ 0 (y + 1) 1 _ _ _ from rgX) (small_one (by omega) (by omega) (by omega) (by omega)) (rangeSize_nat _ _) lF' lN' ⟨od, kl, rfl, ob.mono ?hm2 (by omega), hoff, hkD, ?hps2⟩ ?turn2 ?done2)
    case hm2 => rintro p q r ⟨h1, h2, h3, h4, h5, h6⟩; exact ⟨h1, h2, h3, h4, h5, by omega⟩
    case hps2 => kst_all
    case turn2 =>
      clear ob
      rintro j tj m₁ nx h tk own2 hin2 hoff2 ⟨od, kl, rfl, ob, hrest, hkD, hps⟩ F₁ N₁
      clear lF' lN' rgX
      rw [← kstB_same hps] at F₁
      clear hps
      dsimp only [kstB] at F₁
      simp only [Int.zero_add] at F₁
      have hro2 := off_rest hoff2
      have hoff2 := off_app hrest hoff2
      replace N₁ := news_join N₁
      try k_fold
      k_steps
      with_reducible rename Fr _ _ _ _ => lF'
      with_reducible rename News _ _ _ _ => lN'
      with_reducible rename IsRange _ _ _ _ _ _ _ _ => rgX
      refine' pyGo (range_invG (n := (z + 1 - 0).toNat) (fun k m nx => LJ w _ [(Str.ofString "top", .ref l), (Str.ofString "steps", .ref l2), (Str.ofString "lost", .ref _), (Str.ofString "a", .int i ti), (Str.ofString "b", .int j tj)] (own ++ own2) (Bef y z i j k) (36 * i + 6 * j + k) m nx) rfl (show IsRange _ _ 0 (z + 1) 1 _ _ _ from rgX) (small_one (by omega) (by omega) (by omega) (by omega)) (rangeSize_nat _ _) lF' lN' ⟨od, kl, rfl, ob.mono ?hm3 (by omega), hoff2, hkD, ?hps3⟩ ?turn3 ?done3)
      case hm3 => rintro p q r ⟨h1, h2, h3, h4, h5, h6⟩; exact ⟨h1, h2, h3, h4, h5, by omega⟩
      case hps3 => kst_all
      case turn3 =>
        clear ob
        rintro k tk m₁ nx h tk3 own3 hin3 hoff3 ⟨od, kl, rfl, ob, hrest, hkD, hps⟩ F₁ N₁
        clear lF' lN' rgX
        rw [← kstB_same hps] at F₁
        clear hps
        dsimp only [kstB] at F₁
        simp only [Int.zero_add] at F₁
        have hro3 := off_rest hoff3
        have hoff3 := off_app hrest hoff3
        replace N₁ := news_join N₁
        try k_fold
        k_steps
        with_reducible rename Fr _ _ _ _ => lF'
        with_reducible rename News _ _ _ _ => lN'
        refine' pyGo (kst_list (σ := Bool) (fun _ => _) (fun c => [(Str.ofString "won", .bool c)]) (fun _ => True) [] (fun pre c => c = pre.any (condF i j k)) false rfl hl2 hi2 lF' lN' trivial ?hk4 rfl ?turn4 ?done4)
        case hk4 => kst_all
        case turn4 =>
          intro won pre post e te u h tk4 own4 hns hmem hoff4 _ hP F₁ N₁
          clear lF' lN'
          dsimp only [kstB] at F₁
          replace N₁ := news_join N₁
          have he : e = 1 ∨ e = 2 ∨ e = 4 := by simpa using hmem
          try k_fold
          k_steps
          all_goals
            with_reducible rename Fr _ _ _ _ => fE
            with_reducible rename News _ _ _ _ => nE
          all_goals first
            | (refine' pyGo (kst_end true fE nE ?hn ?ho rfl trivial ?hk ?hr ?hp)
               case hp => first | exact p_yes1 (by with_reducible assumption) (by with_reducible assumption) | exact p_yes2 (by with_reducible assumption) (by with_reducible assumption) | exact p_yes3 (by with_reducible assumption) (by with_reducible assumption)
               case hk => kst_all
               case hn => (intro p hp; with_reducible repeat (first | exact led_sub p hp | apply List.mem_cons_of_mem))
               case ho => (intro p hp; with_reducible repeat (first | exact led_own p hp | apply List.mem_cons_of_mem))
               case hr => kst_same)
            | (refine' pyGo (kst_end won fE nE ?hn ?ho rfl trivial ?hk ?hr ?hp)
               case hp => exact p_no hP (by first | exact .inl (by with_reducible assumption) | exact .inr (by with_reducible assumption)) (by first | exact .inl (by with_reducible assumption) | exact .inr (by with_reducible assumption)) (by first | exact .inl (by with_reducible assumption) | exact .inr (by with_reducible assumption))
               case hk => kst_all
               case hn => (intro p hp; with_reducible repeat (first | exact led_sub p hp | apply List.mem_cons_of_mem))
               case ho => (intro p hp; with_reducible repeat (first | exact led_own p hp | apply List.mem_cons_of_mem))
               case hr => kst_same)
        case done4 =>
          intro won u h tk4 _ hP F₁ N₁
          clear lF' lN'
          have hlt5 := fun (p : Addr × Obj) hp => Heap.lt_size (N₁ p hp).1
          dsimp only [kstB] at F₁
          try k_fold
          dsimp only
          k_steps
          with_reducible rename Fr _ _ _ _ => lF'
          with_reducible rename News _ _ _ _ => lN'
          refine' lj_set (x := i) (y := j) (z := k) ?u lF' lN' ?hT ob hkD hoff3 (TupKeyObj.made (by tuptab_items_int)) ?hv (by omega) ?_
          case u => ktr_units
          case hT => exact (Nat.ne_of_lt (hlt5 _ (.head _))).symm
          case hv => rw [hP]; exact won_int (by omega) (by omega) (by omega)
          intro h9 od9 F₂ N₂ ob2
          clear lF' lN' ob
          try k_fold
          dsimp only
          k_steps
          refine lj_end (by with_reducible assumption) (by with_reducible assumption) led_swap ob2 bef_step (by omega) (off_new hoff3 fun p hp => hlt5 p (.tail _ (List.mem_append_right _ hp))) hro3 ?_ ?_
          · intro p hp
            rcases List.mem_cons.mp hp with rfl | hp
            · exact (Nat.ne_of_lt (hlt5 _ (.head _))).symm
            · exact hkD p hp
          · kst_all
      case done3 =>
        rintro m₁ nx h tk ⟨od, kl, rfl, ob, hrest, hkD, hps⟩ F₁ N₁
        clear lF' lN' rgX
        rw [← kstB_same hps] at F₁
        clear hps
        dsimp only [kstB] at F₁
        try k_fold
        dsimp only
        k_steps
        refine lj_end (by assumption) (by assumption) (fun p hp => hp) ob ?_ (by omega) hrest hro2 hkD ?_
        · rintro p q r ⟨h1, h2, h3, h4, h5, h6⟩; exact ⟨h1, h2, h3, h4, h5, by omega⟩
        · kst_all
    case done2 =>
      rintro m₁ nx h tk ⟨od, kl, rfl, ob, hrest, hkD, hps⟩ F₁ N₁
      clear lF' lN' rgX
      rw [← kstB_same hps] at F₁
      clear hps
      dsimp only [kstB] at F₁
      try k_fold
      dsimp only
      k_steps
      refine lj_end (by assumption) (by assumption) (fun p hp => hp) ob ?_ (by omega) hrest (fun p hp b hb => nomatch hb) hkD ?_
      · rintro p q r ⟨h1, h2, h3, h4, h5, h6⟩; exact ⟨h1, h2, h3, h4, h5, by omega⟩
      · kst_all
  case done =>
    rintro m₁ nx h tk ⟨od, kl, rfl, ob, hrest, hkD, hps⟩ F₁ N₁
    clear lF' lN' rgX
    rw [← kstB_same hps] at F₁
    clear hps
    dsimp only [kstB] at F₁
    try k_fold
    dsimp only
    k_steps
    exact retD hret (by with_reducible assumption) N (by with_reducible assumption) (by with_reducible assumption) ob (fun a b c hb => ⟨hb.1, hb.2.1, hb.2.2.1, hb.2.2.2.1, hb.2.2.2.2.1, by have := hb.2.2.2.2.2; omega⟩) (by omega) lo hvis (by with_reducible assumption)
end
end Mine
namespace Mine
section
def datP (P : List (Int × Int)) : List Dat := P.map fun q => Dat.tuple [Dat.int q.1, Dat.int q.2]
/-- the takings so far: each wins, and none that wins is missing -/
def PairOk (x y z : Int) (i j : Nat) (P : List (Int × Int)) : Prop :=
  P.length ≤ 5 * i + j ∧ (∀ q ∈ P, 0 ≤ q.1 ∧ q.1 < 3 ∧ singleF q.2 = true ∧ 1 ≤ q.2 ∧ q.2 ≤ [x, y, z].getD q.1.toNat 0 ∧ sumF (lessF [x, y, z] q.1 q.2) = 0) ∧
    (∀ k d : Int, 0 ≤ k → k < 3 → 1 ≤ d → d ≤ [x, y, z].getD k.toNat 0 → singleF d = true → sumF (lessF [x, y, z] k d) = 0 → (k < i ∨ (k = i ∧ d ≤ j)) → (k, d) ∈ P)
theorem pair_none {x y z : Int} : PairOk x y z 0 0 [] := ⟨Nat.le_refl _, fun _ h => (nomatch h), fun k d h0 _ h1 _ _ _ h => by omega⟩
theorem pair_skip {x y z : Int} {i j : Nat} {P : List (Int × Int)} (h : PairOk x y z i j P) (hn : ¬ (singleF (1 + j) = true ∧ sumF (lessF [x, y, z] i (1 + j)) = 0)) : PairOk x y z i (j + 1) P :=
  ⟨by have := h.1; omega, h.2.1, fun k d h0 h3 h1 h2 hs h4 h5 => by
    by_cases e : k = i ∧ d = 1 + (j : Int)
    · obtain ⟨rfl, rfl⟩ := e; exact absurd ⟨hs, h4⟩ hn
    · exact h.2.2 k d h0 h3 h1 h2 hs h4 (by omega)⟩
theorem pair_add {x y z : Int} {i j : Nat} {P : List (Int × Int)} (h : PairOk x y z i j P) (hi : i < 3) (h2 : 1 + (j : Int) ≤ [x, y, z].getD (i : Int).toNat 0) (hs : singleF (1 + j) = true) (h4 : sumF (lessF [x, y, z] i (1 + j)) = 0) : PairOk x y z i (j + 1) (P ++ [((i : Int), 1 + (j : Int))]) :=
  ⟨by have := h.1; simp; omega, fun q hq => by
    rcases List.mem_append.mp hq with hq | hq
    · exact h.2.1 q hq
    · rw [List.mem_singleton.mp hq]; exact ⟨by omega, by show (i : Int) < 3; omega, hs, by show 1 ≤ 1 + (j : Int); omega, h2, h4⟩, fun k d h0 h3 h1 h2 hs h4 h5 => by
    by_cases e : k = i ∧ d = 1 + (j : Int)
    · obtain ⟨rfl, rfl⟩ := e; exact List.mem_append_right _ (by simp)
    · exact List.mem_append_left _ (h.2.2 k d h0 h3 h1 h2 hs h4 (by omega))⟩
theorem pair_next {x y z : Int} {i j : Nat} {P : List (Int × Int)} (h : PairOk x y z i j P) (hj : ([x, y, z].getD (i : Int).toNat 0) ≤ j) (h5 : j ≤ 5) : PairOk x y z (i + 1) 0 P :=
  ⟨by have := h.1; omega, h.2.1, fun k d h0 h3 h1 h2 hs h4 h5 => h.2.2 k d h0 h3 h1 h2 hs h4 (by
    by_cases e : k = i
    · subst e; right; exact ⟨rfl, by omega⟩
    · omega)⟩
theorem x3_due : ∀ a b c a' : Fin 3, (X3 (a'.val : Int) b.val c.val = 0 ↔ (a'.val : Int) = Builtin.bitXor a.val (X3 a.val b.val c.val)) ∧ (X3 (b.val : Int) a'.val c.val = 0 ↔ (a'.val : Int) = Builtin.bitXor a.val (X3 b.val a.val c.val)) ∧ (X3 (b.val : Int) c.val a'.val = 0 ↔ (a'.val : Int) = Builtin.bitXor a.val (X3 b.val c.val a.val)) := by decide +kernel
theorem due_iff {x y z k d : Int} (hk : 0 ≤ k) (hk3 : k < 3) : sumF (lessF [x, y, z] k d) = 0 ↔ ([x, y, z].getD k.toNat 0 - d).fmod 3 = Builtin.bitXor (([x, y, z].getD k.toNat 0).fmod 3) (sumF [x, y, z]) := by
  obtain ⟨a, ha⟩ := mod3 x
  obtain ⟨b, hb⟩ := mod3 y
  obtain ⟨c, hc⟩ := mod3 z
  obtain ⟨l0, l1, l2⟩ := less3 x y z d
  have hk' : k = 0 ∨ k = 1 ∨ k = 2 := by omega
  rcases hk' with rfl | rfl | rfl
  · obtain ⟨a', ha'⟩ := mod3 (x - d)
    rw [l0, sum3, sum3, ha, hb, hc, ha']
    show _ ↔ (x - d).fmod 3 = Builtin.bitXor (x.fmod 3) _
    rw [ha', ha]; exact (x3_due a b c a').1
  · obtain ⟨a', ha'⟩ := mod3 (y - d)
    rw [l1, sum3, sum3, ha, hb, hc, ha']
    show _ ↔ (y - d).fmod 3 = Builtin.bitXor (y.fmod 3) _
    rw [ha', hb]; exact (x3_due b a c a').2.1
  · obtain ⟨a', ha'⟩ := mod3 (z - d)
    rw [l2, sum3, sum3, ha, hb, hc, ha']
    show _ ↔ (z - d).fmod 3 = Builtin.bitXor (z.fmod 3) _
    rw [ha', hc]; exact (x3_due c a b a').2.2
theorem steps_iff {d : Int} (h1 : 1 ≤ d) (h2 : d ≤ 5) : d ∈ [1, 2, 4] ↔ singleF d = true := by
  have h : ∀ j : Fin 5, ((1 + (j.val : Int)) ∈ [(1 : Int), 2, 4] ↔ singleF (1 + (j.val : Int)) = true) := by decide +kernel
  have := h ⟨(d - 1).toNat, by omega⟩
  have e : 1 + (((d - 1).toNat : Nat) : Int) = d := by omega
  simpa only [e] using this
theorem less_triple {x y z k d : Int} (hx : 0 ≤ x ∧ x < 6) (hy : 0 ≤ y ∧ y < 6) (hz : 0 ≤ z ∧ z < 6) (hk : 0 ≤ k) (hk3 : k < 3) (h1 : 1 ≤ d) (h2 : d ≤ [x, y, z].getD k.toNat 0) : ∃ p q r, lessF [x, y, z] k d = [p, q, r] ∧ Bef y z (x + 1) 0 0 p q r := by
  obtain ⟨l0, l1, l2⟩ := less3 x y z d
  have hk' : k = 0 ∨ k = 1 ∨ k = 2 := by omega
  rcases hk' with rfl | rfl | rfl
  · have h3 : d ≤ x := h2
    exact ⟨_, _, _, l0, by omega, by omega, by omega, by omega, by omega, by omega⟩
  · have h3 : d ≤ y := h2
    exact ⟨_, _, _, l1, by omega, by omega, by omega, by omega, by omega, by omega⟩
  · have h3 : d ≤ z := h2
    exact ⟨_, _, _, l2, by omega, by omega, by omega, by omega, by omega, by omega⟩
theorem heap_five {x y z k : Int} (hx : 0 ≤ x ∧ x < 6) (hy : 0 ≤ y ∧ y < 6) (hz : 0 ≤ z ∧ z < 6) (hk : 0 ≤ k) (hk3 : k < 3) : 0 ≤ [x, y, z].getD k.toNat 0 ∧ [x, y, z].getD k.toNat 0 ≤ 5 := by
  have hk' : k = 0 ∨ k = 1 ∨ k = 2 := by omega
  rcases hk' with rfl | rfl | rfl
  · show 0 ≤ x ∧ x ≤ 5; omega
  · show 0 ≤ y ∧ y ≤ 5; omega
  · show 0 ≤ z ∧ z ≤ 5; omega
theorem pair_end {x y z : Int} {P : List (Int × Int)} (h : PairOk x y z 3 0 P) (hx : 0 ≤ x ∧ x < 6) (hy : 0 ≤ y ∧ y < 6) (hz : 0 ≤ z ∧ z < 6) (hs : sumF [x, y, z] = 0) : P = [] := by
  cases P with
  | nil => rfl
  | cons q P =>
    obtain ⟨h0, h3, hq, h1, h2, h4⟩ := h.2.1 q (.head _)
    have h5 := (heap_five hx hy hz h0 h3).2
    have hm := (steps_iff h1 (by omega)).mpr hq
    have hd : q.2 % 3 = 1 ∨ q.2 % 3 = 2 := by
      simp only [List.mem_cons, List.not_mem_nil, or_false] at hm
      omega
    exact absurd (by rw [h4]; decide) (sum_away h0 h3 hs hd)
/-- if the sum is not nought, a taking that wins begins with a heap that has the sum's place -/
theorem pair_some {x y z : Int} {P : List (Int × Int)} (h : PairOk x y z 3 0 P) (hx : 0 ≤ x) (hy : 0 ≤ y) (hz : 0 ≤ z) (hs : highF (sumF [x, y, z]) ≠ -1) : ∃ q ∈ P, bitF ([x, y, z].getD q.1.toNat 0) (sumF [x, y, z]) ≠ 0 := by
  obtain ⟨h1, h2⟩ := have_ok hs
  cases hl : (rangeKs 0 3).foldl (havG x y z) [] with
  | nil => rw [hl] at h1; simp at h1
  | cons k r =>
    obtain ⟨hk, hk3, hb⟩ := h2 k (by rw [hl]; exact .head _)
    obtain ⟨t1, t2, t3, t4⟩ := take_facts hs hx hy hz hk hk3 hb
    exact ⟨_, h.2.2 k _ hk hk3 t1 t2 t3 t4 (by omega), hb⟩
theorem items_of_ints {prog : Program} {w : World} {us : List Value} {ns : List Int} (h : IntsAre us ns) : PySem.ItemsAre (intKind prog w) ns us := by
  induction h with
  | nil => exact .nil
  | cons a t _ ih => exact .cons (intKind_is _ _ _ _) ih
theorem items_less {prog : Program} {w : World} {us : List Value} {x y z k d p q r : Int} (e : lessF [x, y, z] k d = [p, q, r]) (h : IntsAre us (lessF [x, y, z] k d)) : PySem.ItemsAre (intKind prog w) [p, q, r] us := items_of_ints (e ▸ h)
end
end Mine
namespace Mine
section
/-- what the loops over the takings keep: two lists of the same pairs -/
def PJ (x y z : Int) (U W C : Addr) (ps : List (Str × Value)) (fix kl rest : List (Addr × Obj)) (i j : Nat) (m : Str → Option Value) (nx : List (Addr × Obj)) : Prop :=
  ∃ us cu ws cw pl P, nx = (U, listOf (List.toArray us) cu) :: (W, listOf (List.toArray ws) cw) :: (fix ++ (kl ++ (pl ++ rest))) ∧ DatAll pl us (datP P) ∧ DatAll pl ws (datP P) ∧ OwnOff pl [U, W, C] ∧ OwnOff rest (pl.map (·.1)) ∧ PairOk x y z i j P ∧ (∀ p ∈ ps, m p.1 = some p.2)
section
variable {g h : Heap} {L U W : Addr} {a b : Addr × Obj} {fix kl pl rest own : List (Addr × Obj)}
theorem pj_join (N : News g L h ((a :: b :: (fix ++ (kl ++ (pl ++ rest)))) ++ own)) : News g L h (a :: b :: (fix ++ (kl ++ (pl ++ (rest ++ own))))) := fun p hp => N p (by simpa only [List.cons_append, List.append_assoc] using hp)
theorem pj_off (h : OwnOff own ((a :: b :: (fix ++ (kl ++ (pl ++ rest)))).map (·.1))) : OwnOff own (pl.map (·.1)) ∧ OwnOff own ((a :: b :: (fix ++ (kl ++ rest))).map (·.1)) := by
  refine ⟨fun p hp c hc => h p hp c ?_, fun p hp c hc => h p hp c ?_⟩
  · simp only [List.map_cons, List.map_append, List.mem_cons, List.mem_append]
    exact .inr (.inr (.inr (.inr (.inl hc))))
  · simp only [List.map_cons, List.map_append, List.mem_cons, List.mem_append] at hc ⊢
    rcases hc with hc | hc | hc | hc | hc
    · exact .inl hc
    · exact .inr (.inl hc)
    · exact .inr (.inr (.inl hc))
    · exact .inr (.inr (.inr (.inl hc)))
    · exact .inr (.inr (.inr (.inr (.inr hc))))
theorem off_three {r : List (Addr × Obj)} {us ws : Obj} {q1 q2 q3 q4 : Addr × Obj} (h : OwnOff own (((U, us) :: (W, ws) :: ([q1, q2, q3, q4] ++ r)).map (·.1))) : OwnOff own [U, W, q3.1] := fun p hp c hc => h p hp c (by
  rcases List.mem_cons.mp hc with rfl | hc
  · exact .head _
  · rcases List.mem_cons.mp hc with rfl | hc
    · exact .tail _ (.head _)
    · rw [List.mem_singleton.mp hc]; exact .tail _ (.tail _ (.tail _ (.tail _ (.head _)))))
theorem off_cat {r : List (Addr × Obj)} {as : List Addr} (h1 : OwnOff r as) (h2 : OwnOff own as) : OwnOff (r ++ own) as := fun p hp => (List.mem_append.mp hp).elim (h1 p) (h2 p)
theorem pj_end {x y z : Int} {C : Addr} {ps : List (Str × Value)} {i j : Nat} {m' : Str → Option Value} {news' : List (Addr × Obj)} {us ws : List Value} {cu cw : Nat} {P : List (Int × Int)} {s₁ : Shared} {tk : Nat} {u0 w0 : Obj}
    (F : Fr g L h m') (N : News g L h news') (hs : ∀ p ∈ (U, listOf us.toArray cu) :: (W, listOf ws.toArray cw) :: (fix ++ (kl ++ (pl ++ (rest ++ own)))), p ∈ news') (d1 : DatAll pl us (datP P)) (d2 : DatAll pl ws (datP P)) (o1 : OwnOff pl [U, W, C]) (o2 : OwnOff rest (pl.map (·.1)))
    (o3 : OwnOff own (pl.map (·.1))) (o4 : OwnOff own (((U, u0) :: (W, w0) :: (fix ++ (kl ++ rest))).map (·.1))) (hP : PairOk x y z i j P) (hps : ∀ p ∈ ps, m' p.1 = some p.2) :
    InvEndG g L (PJ x y z U W C ps fix kl rest i j) own s₁ { s₁ with heap := h, toks := tk } := by
  refine InvEndG.intro F N ⟨us, cu, ws, cw, pl, P, rfl, d1, d2, o1, o2, hP, hps⟩ ?_ (fun p hp => hs p ?_) (fun p hp => hs p ?_)
  · intro p hp c hc
    simp only [List.map_cons, List.map_append, List.mem_cons, List.mem_append] at hc
    rcases hc with hc | hc | hc | hc | hc | hc
    · exact o4 p hp c (by simp [hc])
    · exact o4 p hp c (by simp [hc])
    · exact o4 p hp c (by simp only [List.map_cons, List.map_append, List.mem_cons, List.mem_append]; exact .inr (.inr (.inl hc)))
    · exact o4 p hp c (by simp only [List.map_cons, List.map_append, List.mem_cons, List.mem_append]; exact .inr (.inr (.inr (.inl hc))))
    · exact o3 p hp c hc
    · exact o4 p hp c (by simp only [List.map_cons, List.map_append, List.mem_cons, List.mem_append]; exact .inr (.inr (.inr (.inr hc))))
  · simp only [List.mem_cons, List.mem_append] at hp ⊢
    rcases hp with hp | hp | hp | hp | hp | hp
    · exact .inl hp
    · exact .inr (.inl hp)
    · exact .inr (.inr (.inl hp))
    · exact .inr (.inr (.inr (.inl hp)))
    · exact .inr (.inr (.inr (.inr (.inl hp))))
    · exact .inr (.inr (.inr (.inr (.inr (.inl hp)))))
  · simp only [List.mem_cons, List.mem_append]
    exact .inr (.inr (.inr (.inr (.inr (.inr hp)))))
end
section
variable {prog : Program} {w : World} {A : Around} {E : Value → Shared → Prop} {s : Shared} {env : Env} {h₀ : Heap} {v : Str} {body : List Stmt} {Q : Flow → Shared → Prop}
theorem outer_pairs {x y z : Int} {U W r : Addr} {q1 q2 q3 q4 : Addr × Obj} {kl : List (Addr × Obj)} {t₀ u₀ v₀ : Tok} {m₀ : Str → Option Value} (ps : List (Str × Value))
    (hh : A.handled = none) (hr : IsRange s.heap r 0 3 1 t₀ u₀ v₀) (F : Fr h₀ env.locals s.heap m₀) (N : News h₀ env.locals s.heap ((U, listOf #[] 0) :: (W, listOf #[] 0) :: q1 :: q2 :: q3 :: q4 :: kl)) (hps : ∀ p ∈ ps, m₀ p.1 = some p.2)
    (turn : ∀ (i : Nat) t m₁ news₁ h tk own, i < 3 → OwnOff own (news₁.map (·.1)) → PJ x y z U W q3.1 ps [q1, q2, q3, q4] kl [] i 0 m₁ news₁ → Fr h₀ env.locals h (fun y => if y = v then some (.int (0 + i) t) else m₁ y) → News h₀ env.locals h (news₁ ++ own) →
      wpAny (model prog w) A (execs body env) (InvPostG h₀ env.locals (PJ x y z U W q3.1 ps [q1, q2, q3, q4] kl [] (i + 1) 0) own { s with heap := h, toks := tk } Q) E { s with heap := h, toks := tk })
    (done : ∀ m₁ news₁ h tk, PJ x y z U W q3.1 ps [q1, q2, q3, q4] kl [] 3 0 m₁ news₁ → Fr h₀ env.locals h m₁ → News h₀ env.locals h news₁ → Q .next { s with heap := h, toks := tk }) :
    wpAny (model prog w) A (pyIter (.ref r)) (fun it s₂ => LoopAtV prog w A h₀ env v body Q E it s₂) E s :=
  range_invG (n := 3) (fun i m nx => PJ x y z U W q3.1 ps [q1, q2, q3, q4] kl [] i 0 m nx) hh hr (by decide) (by rfl) F N
    ⟨[], 0, [], 0, [], [], by simp only [List.nil_append, List.append_nil, List.cons_append], .nil, .nil, (fun p hp => nomatch hp), (fun p hp => nomatch hp), pair_none, hps⟩ turn done
theorem inner_pairs {x y z b : Int} {U W r : Addr} {q1 q2 q3 q4 : Addr × Obj} {kl pl rest : List (Addr × Obj)} {t₀ u₀ v₀ : Tok} {m₀ : Str → Option Value} {us ws : List Value} {cu cw i : Nat} {P : List (Int × Int)} (ps : List (Str × Value)) (h5 : 0 ≤ b ∧ b ≤ 5)
    (hh : A.handled = none) (hr : IsRange s.heap r 1 (b + 1) 1 t₀ u₀ v₀) (F : Fr h₀ env.locals s.heap m₀) (N : News h₀ env.locals s.heap ((U, listOf us.toArray cu) :: (W, listOf ws.toArray cw) :: q1 :: q2 :: q3 :: q4 :: (kl ++ (pl ++ rest))))
    (d1 : DatAll pl us (datP P)) (d2 : DatAll pl ws (datP P)) (o1 : OwnOff pl [U, W, q3.1]) (o2 : OwnOff rest (pl.map (·.1))) (hP : PairOk x y z i 0 P) (hps : ∀ p ∈ ps, m₀ p.1 = some p.2)
    (turn : ∀ (j : Nat) t m₁ news₁ h tk own, j < (b + 1 - 1).toNat → OwnOff own (news₁.map (·.1)) → PJ x y z U W q3.1 ps [q1, q2, q3, q4] kl rest i j m₁ news₁ → Fr h₀ env.locals h (fun y => if y = v then some (.int (1 + j) t) else m₁ y) → News h₀ env.locals h (news₁ ++ own) →
      wpAny (model prog w) A (execs body env) (InvPostG h₀ env.locals (PJ x y z U W q3.1 ps [q1, q2, q3, q4] kl rest i (j + 1)) own { s with heap := h, toks := tk } Q) E { s with heap := h, toks := tk })
    (done : ∀ m₁ news₁ h tk, PJ x y z U W q3.1 ps [q1, q2, q3, q4] kl rest i (b + 1 - 1).toNat m₁ news₁ → Fr h₀ env.locals h m₁ → News h₀ env.locals h news₁ → Q .next { s with heap := h, toks := tk }) :
    wpAny (model prog w) A (pyIter (.ref r)) (fun it s₂ => LoopAtV prog w A h₀ env v body Q E it s₂) E s :=
  range_invG (n := (b + 1 - 1).toNat) (fun j m nx => PJ x y z U W q3.1 ps [q1, q2, q3, q4] kl rest i j m nx) hh hr (small_one (by omega) (by omega) (by omega) (by omega)) (rangeSize_nat _ _) F N
    ⟨us, cu, ws, cw, pl, P, by simp only [List.nil_append, List.cons_append], d1, d2, o1, o2, hP, hps⟩ turn done
end
theorem any_steps {d : Int} {b : Bool} (h : ([1, 2, 4].any fun x => x == d) = b) (h1 : 1 ≤ d) (h5 : d ≤ 5) : singleF d = b := by
  have e : ([1, 2, 4].any fun x => x == d) = true ↔ d ∈ [1, 2, 4] := by
    simp only [List.any_eq_true, beq_iff_eq]
    exact ⟨fun ⟨x, hx, e⟩ => e ▸ hx, fun hx => ⟨d, hx, rfl⟩⟩
  rw [← h, Bool.eq_iff_iff, e]
  exact (steps_iff h1 h5).symm
theorem won_t {x y z k d p q r : Int} (he : lessF [x, y, z] k d = [p, q, r]) (ha : ([1, 2, 4].any fun x => x == d) = true) (hl : lostF p q r = true) (h1 : 1 ≤ d) (h5 : d ≤ 5) : singleF d = true ∧ sumF (lessF [x, y, z] k d) = 0 :=
  ⟨any_steps ha h1 h5, by rw [he]; simpa [lostF] using hl⟩
theorem won_f1 {x y z k d : Int} (ha : ([1, 2, 4].any fun x => x == d) = false) (h1 : 1 ≤ d) (h5 : d ≤ 5) : ¬ (singleF d = true ∧ sumF (lessF [x, y, z] k d) = 0) := fun h => by
  rw [any_steps ha h1 h5] at h; cases h.1
theorem won_f2 {x y z k d p q r : Int} (he : lessF [x, y, z] k d = [p, q, r]) (hl : lostF p q r = false) : ¬ (singleF d = true ∧ sumF (lessF [x, y, z] k d) = 0) := fun h => by
  rw [he] at h
  simp [lostF, h.2] at hl
theorem due_t {x y z k d : Int} (hs : singleF d = true) (hd : ([x, y, z].getD k.toNat 0 - d).fmod 3 = Builtin.bitXor (([x, y, z].getD k.toNat 0).fmod 3) (sumF [x, y, z])) (hk : 0 ≤ k) (hk3 : k < 3) : singleF d = true ∧ sumF (lessF [x, y, z] k d) = 0 := ⟨hs, (due_iff hk hk3).mpr hd⟩
theorem due_f1 {x y z k d : Int} (hs : singleF d = false) : ¬ (singleF d = true ∧ sumF (lessF [x, y, z] k d) = 0) := fun h => by rw [hs] at h; cases h.1
theorem due_f2 {x y z k d : Int} (hd : ([x, y, z].getD k.toNat 0 - d).fmod 3 ≠ Builtin.bitXor (([x, y, z].getD k.toNat 0).fmod 3) (sumF [x, y, z])) (hk : 0 ≤ k) (hk3 : k < 3) : ¬ (singleF d = true ∧ sumF (lessF [x, y, z] k d) = 0) := fun h => hd ((due_iff hk hk3).mp h.2)
theorem ints_less {us : List Value} {x y z k d p q r : Int} (e : lessF [x, y, z] k d = [p, q, r]) (h : IntsAre us (lessF [x, y, z] k d)) : ∃ t1 t2 t3, us = [.int p t1, .int q t2, .int r t3] := by
  rw [e] at h
  cases h with
  | cons _ t1 h =>
    cases h with
    | cons _ t2 h =>
      cases h with
      | cons _ t3 h => cases h; exact ⟨t1, t2, t3, rfl⟩
theorem datP_len (P : List (Int × Int)) : (datP P).length = P.length := by simp [datP]
theorem dat_size {pl : List (Addr × Obj)} {us : List Value} {P : List (Int × Int)} (d : DatAll pl us (datP P)) (h : P.length ≤ 100) : us.toArray.size ≤ sizeLine := by
  rw [List.size_toArray, d.length, datP_len, PySem.sizeLine_eq]; omega
theorem datP_snoc (P : List (Int × Int)) (q : Int × Int) : datP (P ++ [q]) = datP P ++ [Dat.tuple [Dat.int q.1, Dat.int q.2]] := by simp [datP]
theorem dat_add {pl pl' : List (Addr × Obj)} {us : List Value} {P : List (Int × Int)} {T : Addr} {k e : Int} {t1 t2 : Tok} {n : Nat} (d : DatAll pl us (datP P)) (hm : (T, ({ cls := .type "tuple", data := .seq [Value.int k t1, Value.int e t2].toArray n } : Obj)) ∈ pl') (hs : ∀ p ∈ pl, p ∈ pl') :
    DatAll pl' (us ++ [.ref T]) (datP (P ++ [(k, e)])) := by
  rw [datP_snoc]
  exact (d.mono hs).append (.one (.tuple hm (.cons (.int _ _) (.cons (.int _ _) .nil))))
theorem off_cons {U W C T : Addr} {o : Obj} {pl : List (Addr × Obj)} (h1 : @LT.lt Nat _ U T) (h2 : @LT.lt Nat _ W T) (h3 : @LT.lt Nat _ C T) (h : OwnOff pl [U, W, C]) : OwnOff ((T, o) :: pl) [U, W, C] := fun p hp b hb => by
  rcases List.mem_cons.mp hp with rfl | hp
  · rcases List.mem_cons.mp hb with rfl | hb
    · exact (Nat.ne_of_lt h1).symm
    · rcases List.mem_cons.mp hb with rfl | hb
      · exact (Nat.ne_of_lt h2).symm
      · rw [List.mem_singleton.mp hb]; exact (Nat.ne_of_lt h3).symm
  · exact h p hp b hb
theorem off_up {r pl : List (Addr × Obj)} {T : Addr} {o : Obj} (h : ∀ p ∈ r, p.1 < T) (h1 : OwnOff r (pl.map (·.1))) : OwnOff r (((T, o) :: pl).map (·.1)) := fun p hp b hb => by
  rcases List.mem_cons.mp hb with rfl | hb
  · exact Nat.ne_of_lt (h p hp)
  · exact h1 p hp b hb
theorem lt_own {T : Addr} {kl pl r o : List (Addr × Obj)} (h : AllLt T (kl ++ (pl ++ (r ++ o)))) : (∀ p ∈ r, p.1 < T) ∧ (∀ p ∈ o, p.1 < T) := by
  have k := kst_ltOf h
  exact ⟨fun p hp => k p (List.mem_append_right _ (List.mem_append_right _ (List.mem_append_left _ hp))), fun p hp => k p (List.mem_append_right _ (List.mem_append_right _ (List.mem_append_right _ hp)))⟩
theorem led_add {u w t1 t2 a b q1 q2 q3 q4 : Addr × Obj} {kl pl r : List (Addr × Obj)} : ∀ p ∈ u :: w :: ([q1, q2, q3, q4] ++ (kl ++ ((t2 :: t1 :: pl) ++ r))), p ∈ t2 :: t1 :: a :: b :: u :: w :: q1 :: q2 :: q3 :: q4 :: (kl ++ (pl ++ r)) := fun p hp => by
  simp only [List.cons_append, List.nil_append, List.mem_cons, List.mem_append] at hp ⊢
  rcases hp with hp | hp | hp | hp | hp | hp | hp | hp | hp | hp | hp
  · exact .inr (.inr (.inr (.inr (.inl hp))))
  · exact .inr (.inr (.inr (.inr (.inr (.inl hp)))))
  · exact .inr (.inr (.inr (.inr (.inr (.inr (.inl hp))))))
  · exact .inr (.inr (.inr (.inr (.inr (.inr (.inr (.inl hp)))))))
  · exact .inr (.inr (.inr (.inr (.inr (.inr (.inr (.inr (.inl hp))))))))
  · exact .inr (.inr (.inr (.inr (.inr (.inr (.inr (.inr (.inr (.inl hp)))))))))
  · exact .inr (.inr (.inr (.inr (.inr (.inr (.inr (.inr (.inr (.inr (.inl hp))))))))))
  · exact .inl hp
  · exact .inr (.inl hp)
  · exact .inr (.inr (.inr (.inr (.inr (.inr (.inr (.inr (.inr (.inr (.inr (.inl hp)))))))))))
  · exact .inr (.inr (.inr (.inr (.inr (.inr (.inr (.inr (.inr (.inr (.inr (.inr hp)))))))))))
end
end Mine
namespace Mine
section
open PyProof.Rows.LCg
theorem dat_pair {news : List (Addr × Obj)} {v : Value} {a b : Int} (h : DatIn news v (Dat.tuple [Dat.int a, Dat.int b])) : ∃ t t1 t2 n, v = .ref t ∧ (t, ({ cls := .type "tuple", data := .seq #[.int a t1, .int b t2] n } : Obj)) ∈ news := by
  cases h with
  | tuple hm r =>
    cases r with
    | cons h1 r =>
      cases r with
      | cons h2 r =>
        cases r
        cases h1
        cases h2
        exact ⟨_, _, _, _, rfl, hm⟩
def foldP (G : List Int → Int → List Int) (ps : List (Int × Int)) : List Int := (ps.map (·.1)).foldl G []
section
variable {prog : Program} {w : World} {A : Around} {E : Value → Shared → Prop} {s : Shared} {h₀ : Heap} {L : Addr} {m : Str → Option Value} {env : Env}
/-- a turn of a comprehension over pairs, with a test -/
def PairTurn (prog : Program) (w : World) (A : Around) (h₀ : Heap) (L : Addr) (m : Str → Option Value) (env : Env) (ct elt : Expr) (x x₂ : Str) (scope : Scope) (cl : List (Str × Addr)) (s : Shared) (ps : List (Int × Int)) (news : List (Addr × Obj)) (G : List Int → Int → List Int) : Prop :=
  ∀ a b I oI C oC D m₂ ys l h tk t1 t2 (E' : Value → Shared → Prop), (a, b) ∈ ps → IntsAre ys l → NsObj oC m₂ → m₂ x = some (.int a t1) → m₂ x₂ = some (.int b t2) → Fr h₀ L h m → News h₀ L h ((I, oI) :: (C, oC) :: (D, lst ys) :: news) → Off3 I C D news → ((@Ne Nat I C) ∧ (@Ne Nat I D) ∧ (@Ne Nat C D)) →
    wpAny (model prog w) A (isTrue ct (compEnvC scope cl C env) (eval ct (compEnvC scope cl C env))) (fun ok s' => if ok = true then
      wpAny (model prog w) A (eval elt (compEnvC scope cl C env)) (CompEnd h₀ L m { s with heap := h, toks := tk } I oI C oC D (lst ys) (fun _ => True) (fun y news' => KCiEl news l (G l a) y news')) E' s'
      else CompEnd h₀ L m { s with heap := h, toks := tk } I oI C oC D (lst ys) (fun _ => True) (fun _ news' => KCiNo news l (G l a) news') Value.none s') E' { s with heap := h, toks := tk }
theorem block_Q {ct elt iter : Expr} {x x₂ : Str} {px px₂ tp : Pos} {kk : Nat} {scope : Scope} {cl : List (Str × Addr)} {pos : Pos} {s₂ : Shared} {I ax : Addr} {vs : List Value} {k : Nat} {ps : List (Int × Int)} {news : List (Addr × Obj)} {G : List Int → Int → List Int}
    {RR : Value → Addr → Result → Shared → Prop} (hh : A.handled = none) (hsz : vs.length ≤ sizeLine) (hax : (ax, W.listOf vs.toArray k) ∈ news) (hd : DatAll news vs (datP ps)) (hne : ax ≠ I)
    (hcell : ∀ y ∈ scope.names, y.2 ≠ .cell) (hkind : scope.kind = .function) (hx : scope.names.lookup x = some .local) (hx₂ : scope.names.lookup x₂ = some .local) (hxx : x ≠ x₂) (hst : s₂.heap.IsListIter I ax 0 ∧ s₂.heap.IsList ax vs.toArray) (hfp : ∀ b ∈ [I, ax], b < s₂.heap.objs.size)
    (F : Fr h₀ L s₂.heap m) (N : News h₀ L s₂.heap news) (hIL : L ≠ I) (hI₀ : h₀.get? I = none) (off : ∀ p ∈ news, p.1 ≠ I)
    (turn : PairTurn prog w A h₀ L m env ct elt x x₂ scope cl s₂ ps news G)
    (hRR : ∀ D C h tk m' ys, Fr h₀ L h m → News h₀ L h ((D, lst ys) :: news) → Off1 D news → h.Ns C m' → h₀.get? C = none → h₀.get? D = none → C ≠ L → D ≠ L → C ≠ D → (∀ p ∈ news, p.1 ≠ C) → IntsAre ys (foldP G ps) → RR (.ref D) C (.ok .next) { s₂ with heap := h, toks := tk }) :
    wpAny (model prog w) A (newList []) (fun acc s₃ => wpAny (model prog w) A (newFunctionEnv scope env.globals cl [] env.qual none .none (some env)) (fun cenv s₄ =>
      codeAny (model prog w) A (.compStart (.ListComp elt [⟨.Tuple [.Name x px, .Name x₂ px₂] kk tp, iter, [ct], 0⟩] scope pos) 0 (.ref I) acc { cenv with scope := relabel scope env }) (RR acc cenv.locals) s₄) E s₃) E s₂ := by
  have Wk := Walks.list (prog := prog) (w := w) hh I ax hne vs.toArray
  have hlen : vs.toArray.size = ps.length := by rw [List.size_toArray, hd.length, datP_len]
  refine wpAny_newObj_type (wpAny_newFunctionEnv hcell (by intro y hy; simp at hy) (fun h₁ hns₁ hsb₁ => ?_) hkind)
  dsimp only at hns₁ hsb₁ ⊢
  generalize hH2 : s₂.heap.push { cls := .type "list", dict := none, data := .seq ([] : List Value).toArray } = H2 at hns₁ hsb₁ ⊢
  have hC : H2.objs.size = s₂.heap.objs.size + 1 := by rw [← hH2, Heap.size_push]
  have hDC : s₂.heap.objs.size ≠ H2.objs.size := by rw [hC]; exact Nat.ne_of_lt (Nat.lt_succ_self _)
  have below : ∀ b, b < s₂.heap.objs.size → b ≠ H2.objs.size ∧ b ≠ s₂.heap.objs.size := fun b hb => ⟨by rw [hC]; exact Nat.ne_of_lt (Nat.lt_succ_of_lt hb), Nat.ne_of_lt hb⟩
  have old : ∀ b o, s₂.heap.get? b = some o → h₁.get? b = some o := fun b o e => hsb₁.extBut b o (below b (Heap.lt_size e)).1 (Heap.get?_push_of_some _ (hH2 ▸ Heap.get?_push_of_some _ e))
  have hacc : h₁.get? s₂.heap.objs.size = some (lst []) := hsb₁.extBut _ _ hDC (Heap.get?_push_of_some _ (hH2 ▸ Heap.get?_push_size _ rfl))
  have hst₁ := Wk.frame _ _ _ hst fun b _ o e => old b o e
  have fresh₀ : ∀ a, s₂.heap.objs.size ≤ a → h₀.get? a = none := fun a ha => by
    cases e : h₀.get? a with
    | none => rfl
    | some o' => exact absurd (Heap.lt_size (F.keep a o' e)) (Nat.not_lt.mpr ha)
  have hD₀ : h₀.get? s₂.heap.objs.size = none := fresh₀ _ (Nat.le_refl _)
  have hC₀ : h₀.get? H2.objs.size = none := fresh₀ _ (by rw [hC]; exact Nat.le_succ _)
  have hLlt : L < s₂.heap.objs.size := F.ns.lt
  have hDL : s₂.heap.objs.size ≠ L := Ne.symm (below L hLlt).2
  have hCL : H2.objs.size ≠ L := Ne.symm (below L hLlt).1
  have hIlt : I < s₂.heap.objs.size := hfp I (.head _)
  have hCI : I ≠ H2.objs.size := (below I hIlt).1
  have hDI : I ≠ s₂.heap.objs.size := (below I hIlt).2
  have hDf : s₂.heap.objs.size ∉ [I, ax] := fun hm => Nat.lt_irrefl _ (hfp _ hm)
  have hCf : H2.objs.size ∉ [I, ax] := fun hm => by have := hfp _ hm; rw [hC] at this; exact Nat.lt_irrefl _ (Nat.lt_of_succ_lt this)
  have off₀ : Off3 I H2.objs.size s₂.heap.objs.size news := Off3.of fun p hp => ⟨off p hp, (below _ (Heap.lt_size (N p hp).1)).1, (below _ (Heap.lt_size (N p hp).1)).2⟩
  have off3 := off₀.mem
  have loop : ∀ s₃ : Shared, s₃ = { s₂ with heap := h₁, toks := s₂.toks + ([] : List (Str × Value)).length } →
      codeAny (model prog w) A (.compLoop (.ListComp elt [⟨.Tuple [.Name x px, .Name x₂ px₂] kk tp, iter, [ct], 0⟩] scope pos) 0 (.ref I) (.ref s₂.heap.objs.size) (compEnvC scope cl H2.objs.size env))
        (RR (.ref s₂.heap.objs.size) H2.objs.size) s₃ := by
    rintro s₃ rfl
    refine kct_loop
      (fun c s' => ∃ h' tk i ys m', s' = { s₂ with heap := h', toks := tk } ∧ i ≤ ps.length ∧ c = ps.length + 1 - i ∧ ys.length ≤ i ∧ (h'.IsListIter I ax i ∧ h'.IsList ax vs.toArray) ∧ Fr h₀ L h' m ∧ h'.Ns H2.objs.size m' ∧ News h₀ L h' ((s₂.heap.objs.size, lst ys) :: news) ∧
        IntsAre ys (foldP G (ps.take i))) ?_ (ps.length + 1)
      ⟨h₁, _, 0, [], _, rfl, Nat.zero_le _, rfl, Nat.le_refl _, hst₁, F.keeps old, hns₁, fun p hp => ?_, .nil⟩
    · rintro c s' ⟨h', tk, i, ys, m', rfl, hi, rfl, hyl, hst', F', hn', N', hys⟩
      by_cases hlt : i < ps.length
      · have hlt2 : i < vs.toArray.size := by rw [hlen]; exact hlt
        refine Wk.item i _ _ _ hlt2 hst' fun v h₂ tk₂ hPv hst₂ hk₂ => ?_
        obtain ⟨v', hv', hin⟩ := hd.get (k := i) (by rw [datP_len]; exact hlt)
        have hPv' : vs[i]? = some v := by simpa using hPv
        obtain rfl : v' = v := Option.some.inj (hv'.symm.trans hPv')
        have edat : (datP ps)[i]'(by rw [datP_len]; exact hlt) = Dat.tuple [Dat.int ps[i].1, Dat.int ps[i].2] := by simp [datP]
        rw [edat] at hin
        obtain ⟨t, t1, t2, nt, rfl, hmt⟩ := dat_pair hin
        have N₂ : News h₀ L h₂ ((s₂.heap.objs.size, lst ys) :: news) := news_but N' hk₂ fun p hp => by
          rcases List.mem_cons.mp hp with rfl | hp
          · exact Ne.symm hDI
          · exact (off3 p hp).1
        have ht : IsTup h₂ t #[.int ps[i].1 t1, .int ps[i].2 t2] := ⟨_, (N₂ _ (List.mem_cons_of_mem _ hmt)).1, rfl, nt, rfl⟩
        refine wpAny_letOwnedTupleGo_listiter hst₂.1 ?_
        refine assign_Tuple_tuple hh ht rfl rfl fun h₅ he => ?_
        have he' : ∀ b o, h₂.get? b = some o → h₅.get? b = some o := fun b o e => he b o (Nat.ne_of_lt (Heap.lt_size e)) e
        refine assignInOrder_cons (wpAny_assign_Name (wpAny_storeName_local (lookup_relabel_local hx) ((hn'.at' fun o e => hk₂ _ o (by simpa using Ne.symm hCI) e).at' fun o e => he' _ o e) (fun h₆ hn₆ hs₆ => ?_) (by simp [compEnvC, relabel, hkind])))
        refine assignInOrder_cons (wpAny_assign_Name (wpAny_storeName_local (lookup_relabel_local hx₂) hn₆ (fun h₃ hn₃ hs₃ => ?_) (by simp [compEnvC, relabel, hkind])))
        refine assignInOrder_nil ?_
        have old3 : ∀ b o, b ≠ H2.objs.size → h₂.get? b = some o → h₃.get? b = some o := fun b o hb e => hs₃.extBut b o hb (hs₆.extBut b o hb (he' b o e))
        have hst₃ := Wk.frame _ _ _ hst₂ fun b hb o e => old3 b o (fun q => hCf (by rw [← q]; exact hb)) e
        obtain ⟨oI, heI, _⟩ := id hst₃.1
        obtain ⟨oC, heC, hoC⟩ := ns_obj hn₃
        have F₃ : Fr h₀ L h₃ m := (((fr_but F' hk₂ hIL hI₀).keeps he').change hs₆ hCL hC₀).change hs₃ hCL hC₀
        have N₃ : News h₀ L h₃ ((I, oI) :: (H2.objs.size, oC) :: (s₂.heap.objs.size, lst ys) :: news) := fun p hp => by
          rcases List.mem_cons.mp hp with rfl | hp
          · exact ⟨heI, Ne.symm hIL, hI₀⟩
          · rcases List.mem_cons.mp hp with rfl | hp
            · exact ⟨heC, hCL, hC₀⟩
            · have zz := N₂ p hp
              refine ⟨old3 _ _ ?_ zz.1, zz.2⟩
              rcases List.mem_cons.mp hp with rfl | hp
              · exact hDC
              · exact (off3 p hp).2.1
        have htake : ps.take (i + 1) = ps.take i ++ [ps[i]] := by rw [List.take_add_one, List.getElem?_eq_getElem hlt]; rfl
        have hfold : foldP G (ps.take (i + 1)) = G (foldP G (ps.take i)) ps[i].1 := by rw [htake]; unfold foldP; rw [List.map_append, List.foldl_append]; rfl
        refine wpAny_mono (turn ps[i].1 ps[i].2 I oI H2.objs.size oC s₂.heap.objs.size _ ys _ h₃ _ t1 t2 _ (List.getElem_mem hlt) hys hoC (by simp [hxx]) (by simp) F₃ N₃ off₀ ⟨hCI, hDI, Ne.symm hDC⟩) (fun ok s₄ h₄ => ?_) fun _ _ e => e
        cases ok with
        | true =>
          simp only [if_true] at h₄ ⊢
          refine wpAny_mono h₄ (fun y s₅ h₅ => ?_) fun _ _ e => e
          obtain ⟨hq, tk₄, news₄, rfl, F₄, N₄, -, -, rfl, av, ta, rfl, hG⟩ := h₅
          have zI := (N₄ (I, oI) List.mem_cons_self).1
          have zC := (N₄ (H2.objs.size, oC) (List.mem_cons_of_mem _ List.mem_cons_self)).1
          have zD := (N₄ (s₂.heap.objs.size, lst ys) (List.mem_cons_of_mem _ (List.mem_cons_of_mem _ List.mem_cons_self))).1
          have N₄' : News h₀ L hq news₄ := fun p hp => N₄ p (List.mem_cons_of_mem _ (List.mem_cons_of_mem _ (List.mem_cons_of_mem _ hp)))
          have hst₄ : hq.IsListIter I ax (i + 1) ∧ hq.IsList ax vs.toArray := list_st (i + 1) h₃ hq oI news₄ hst₃ heI zI F₄.keep N₄' (.inr ⟨_, hax, rfl, _, rfl⟩)
          refine append_at (hsz := by show ys.toArray.size ≤ sizeLine; rw [List.size_toArray]; have := hd.length; rw [datP_len] at this; exact Nat.le_trans (Nat.le_trans hyl hi) (this ▸ hsz)) zD fun h₅ hs₅ hD₅ => ?_
          refine ⟨ps.length + 1 - (i + 1), by omega, h₅, tk₄, i + 1, ys ++ [.int av ta], _, rfl, hlt, rfl, by rw [List.length_append, List.length_singleton]; exact Nat.succ_le_succ hyl, Wk.frame _ _ _ hst₄ fun b hb o e => hs₅.extBut b o (fun q => hDf (q ▸ hb)) e, F₄.change hs₅ hDL hD₀,
            (hoC.ns zC).sameBut hs₅ (Ne.symm hDC), fun p hp => ?_, ?_⟩
          · rcases List.mem_cons.mp hp with rfl | hp
            · exact ⟨hD₅.trans (congrArg some (lst_snoc ys _)), hDL, hD₀⟩
            · exact ⟨hs₅.extBut _ _ (off3 p hp).2.2 (N₄' p hp).1, (N₄' p hp).2⟩
          · rw [hfold, hG]
            exact IntsAre.append hys (.cons av ta .nil)
        | false =>
          simp only [Bool.false_eq_true, if_false] at h₄ ⊢
          obtain ⟨h₅, tk₄, news₄, rfl, F₄, N₄, -, -, rfl, hG⟩ := h₄
          have zI := (N₄ (I, oI) List.mem_cons_self).1
          have zC := (N₄ (H2.objs.size, oC) (List.mem_cons_of_mem _ List.mem_cons_self)).1
          have N₄' : News h₀ L h₅ news₄ := fun p hp => N₄ p (List.mem_cons_of_mem _ (List.mem_cons_of_mem _ (List.mem_cons_of_mem _ hp)))
          have hst₄ : h₅.IsListIter I ax (i + 1) ∧ h₅.IsList ax vs.toArray := list_st (i + 1) h₃ h₅ oI news₄ hst₃ heI zI F₄.keep N₄' (.inr ⟨_, hax, rfl, _, rfl⟩)
          refine ⟨ps.length + 1 - (i + 1), by omega, h₅, tk₄, i + 1, ys, _, rfl, hlt, rfl, Nat.le_succ_of_le hyl, hst₄, F₄, hoC.ns zC, fun p hp => ?_, ?_⟩
          · rcases List.mem_cons.mp hp with rfl | hp
            · exact N₄ _ (List.mem_cons_of_mem _ (List.mem_cons_of_mem _ List.mem_cons_self))
            · exact N₄' p hp
          · rw [hfold, hG]; exact hys
      · obtain rfl : i = ps.length := Nat.le_antisymm hi (Nat.not_lt.mp hlt)
        rw [List.take_length] at hys
        rw [← hlen] at hst'
        refine Wk.done _ _ _ hst' fun h₂ tk₂ hk₂ => ?_
        exact hRR _ _ h₂ tk₂ _ ys (fr_but F' hk₂ hIL hI₀) (news_but N' hk₂ fun p hp => by
          rcases List.mem_cons.mp hp with rfl | hp
          · exact Ne.symm hDI
          · exact (off3 p hp).1) off₀.one (hn'.at' fun o e => hk₂ _ o (by simpa using Ne.symm hCI) e) hC₀ hD₀ hCL hDL (Ne.symm hDC) (fun p hp => (off3 p hp).2.1) hys
    · rcases List.mem_cons.mp hp with rfl | hp
      · exact ⟨hacc, hDL, hD₀⟩
      · exact ⟨old _ _ (N p hp).1, (N p hp).2⟩
  exact codeAny_compStart_list (loop _ rfl) (Wk.self 0 _ _ _ hst₁ (loop _ rfl))
/-- what a comprehension over pairs wants of its source -/
def PairSrc (prog : Program) (w : World) (A : Around) (h₀ : Heap) (L : Addr) (m : Str → Option Value) (env : Env) (ct elt : Expr) (x x₂ : Str) (scope : Scope) (cl : List (Str × Addr)) (Q : Value → Shared → Prop) (xv : Value) (s₁ : Shared) : Prop :=
  ∃ ax vs k ps news G, xv = .ref ax ∧ A.handled = none ∧ Fr h₀ L s₁.heap m ∧ News h₀ L s₁.heap news ∧ (ax, W.listOf (List.toArray vs) k) ∈ news ∧ vs.length ≤ sizeLine ∧ DatAll news vs (datP ps) ∧
    (∀ g, PairTurn prog w A h₀ L m env ct elt x x₂ scope cl { s₁ with heap := g } ps news G) ∧ ∀ g D h tk ys, IntsAre ys (foldP G ps) → Fr h₀ L h m → News h₀ L h ((D, lst ys) :: news) → Off1 D news → Q (.ref D) { { s₁ with heap := g } with heap := h, toks := tk }
theorem ListComp_Q {ct elt iter : Expr} {x x₂ : Str} {px px₂ tp : Pos} {kk : Nat} {scope : Scope} {cl : List (Str × Addr)} {pos : Pos} {Q : Value → Shared → Prop} (F₀ : Fr h₀ L s.heap m)
    (hclos : closureFor scope env = pure cl) (hcell : ∀ y ∈ scope.names, y.2 ≠ .cell) (hkind : scope.kind = .function)
    (hnames : ∀ y ∈ scope.names, y.2 = .local → scope.names.lookup y.1 = some .local) (hx : scope.names.lookup x = some .local) (hx₂ : scope.names.lookup x₂ = some .local) (hxx : x ≠ x₂)
    (h : wpAny (model prog w) A (eval iter env) (PairSrc prog w A h₀ L m env ct elt x x₂ scope cl Q) E s)
    (hs : ∀ x, foldedSetIterable iter env x = pure x := by intro _; rfl) :
    wpAny (model prog w) A (eval (.ListComp elt [⟨.Tuple [.Name x px, .Name x₂ px₂] kk tp, iter, [ct], 0⟩] scope pos) env) Q E s := by
  rw [eval_ListComp]
  refine wpAny_comprehension_free (use := none) rfl hs hclos hkind hnames (wpAny_mono h (fun xv s₁ h₁ => ?_) fun _ _ e => e)
  obtain ⟨ax, vs, k, ps, news, G, rfl, hh, F, N, hax, hsz, hd, turn, fin⟩ := h₁
  have hl : s₁.heap.IsList ax vs.toArray := ⟨_, (N _ hax).1, rfl, _, rfl⟩
  have hlt : ax < s₁.heap.objs.size := by obtain ⟨_, e, _⟩ := hl; exact Heap.lt_size e
  refine wpAny_pyIter_list hl ?_
  have up : ∀ b o, s₁.heap.get? b = some o → (s₁.heap.push { cls := .type "list_iterator", data := .fields #[.ref ax, .int 0 0] }).get? b = some o := fun b o e => Heap.get?_push_of_some _ e
  refine block_Q (I := s₁.heap.objs.size) hh hsz hax hd (Nat.ne_of_lt hlt) hcell hkind hx hx₂ hxx ⟨⟨_, Heap.get?_push_size _ rfl, rfl, rfl⟩, hl.push _⟩ (fun b hb => ?_)
    (F.keeps up) (N.grown up) (Nat.ne_of_lt F.ns.lt) (next_is_new F) (fun p hp => Nat.ne_of_lt (Heap.lt_size (N p hp).1)) (turn _) ?_
  · show b < (s₁.heap.push _).objs.size
    rw [Heap.size_push]
    rcases List.mem_cons.mp hb with rfl | hb
    · exact Nat.lt_succ_self _
    · rw [List.mem_singleton.mp hb]; exact Nat.lt_succ_of_lt hlt
  · intro D C h tk m' ys F' N' o1 hn hC₀ hD₀ hCL hDL hCD offC hys
    refine ⟨m', hn, fun h'' hs'' => fin s₁.heap D h'' tk ys hys (F'.change hs'' hCL hC₀) (fun p hp => ?_) o1⟩
    refine ⟨hs''.extBut _ _ ?_ (N' p hp).1, (N' p hp).2⟩
    rcases List.mem_cons.mp hp with rfl | hp
    · exact Ne.symm hCD
    · exact offC p hp
end
end
end Mine
namespace Mine
section
def stG (l : List Int) (k : Int) : List Int := if singleF k = true then l ++ [k] else l
theorem news_rot {g : Heap} {L : Addr} {h : Heap} {q : Addr × Obj} {a b : List (Addr × Obj)} (N : News g L h (q :: (a ++ b))) : News g L h (q :: (b ++ a)) := fun p hp => N p (by
  rcases List.mem_cons.mp hp with rfl | hp
  · exact .head _
  · exact .tail _ ((List.mem_append.mp hp).elim (fun h => List.mem_append_right _ h) fun h => List.mem_append_left _ h))
theorem lost_eq {a b c : Int} (h : (lostF a b c != (highF (sumF [a, b, c]) == -1)) = true) : False := by
  have e : lostF a b c = (highF (sumF [a, b, c]) == -1) := by
    rw [Bool.eq_iff_iff]
    simp only [lostF, beq_iff_eq]
    exact (sum_high a b c).symm
  rw [e] at h
  simp at h
theorem ne_all {D : Addr} {h g : Heap} {L : Addr} {news : List (Addr × Obj)} (hD : ∀ b o, h.get? b = some o → b ≠ D) (N : News g L h news) : ∀ p ∈ news, @Ne Nat p.1 D := fun p hp => hD p.1 p.2 (N p hp).1
theorem havG_nil {x y z : Int} : ∀ {ks l : List Int}, ks.foldl (havG x y z) l = [] → l = [] ∧ ∀ k ∈ ks, bitF ([x, y, z].getD k.toNat 0) (sumF [x, y, z]) = 0
  | [], l, h => ⟨h, fun _ hk => nomatch hk⟩
  | k :: ks, l, h => by
    obtain ⟨h1, h2⟩ := havG_nil (ks := ks) (l := havG x y z l k) h
    unfold havG at h1
    split at h1
    · rename_i e
      exact ⟨h1, fun q hq => by rcases List.mem_cons.mp hq with rfl | hq; exact e; exact h2 q hq⟩
    · simp at h1
theorem fold_some {x y z : Int} {P : List (Int × Int)} (h : PairOk x y z 3 0 P) (hx : 0 ≤ x) (hy : 0 ≤ y) (hz : 0 ≤ z) (hs : highF (sumF [x, y, z]) ≠ -1) : ∃ k H, foldP (havG x y z) P = k :: H := by
  cases e : foldP (havG x y z) P with
  | cons k H => exact ⟨k, H, rfl⟩
  | nil =>
    obtain ⟨q, hq, hb⟩ := pair_some h hx hy hz hs
    exact absurd ((havG_nil e).2 q.1 (List.mem_map.mpr ⟨q, hq, rfl⟩)) hb
theorem datP_nil {P : List (Int × Int)} : datP P = [] ↔ P = [] := by unfold datP; exact List.map_eq_nil_iff
theorem won_nil {x y z : Int} {P : List (Int × Int)} [Decidable (datP P = [])] (h : PairOk x y z 3 0 P) (hx : 0 ≤ x ∧ x < 6) (hy : 0 ≤ y ∧ y < 6) (hz : 0 ≤ z ∧ z < 6) : (decide (datP P = []) == (highF (sumF [x, y, z]) == -1)) = true := by
  by_cases e : highF (sumF [x, y, z]) = -1
  · have := pair_end h hx hy hz ((sum_high x y z).mp e)
    subst this
    simp [e, datP]
  · obtain ⟨q, hq, -⟩ := pair_some h hx.1 hy.1 hz.1 e
    have hne : datP P ≠ [] := fun h9 => by rw [datP_nil.mp h9] at hq; cases hq
    simp [e, hne]
def KlNew (kl news : List (Addr × Obj)) : Prop := ∀ q ∈ kl, ∀ p ∈ news, @Ne Nat p.1 q.1
theorem kl_new {D : Addr} {od : Obj} {kl : List (Addr × Obj)} {h g : Heap} {L : Addr} {news : List (Addr × Obj)} (hD : ∀ q ∈ (D, od) :: kl, ∀ b o, h.get? b = some o → b ≠ q.1) (N : News g L h news) : KlNew kl news := fun q hq p hp => hD q (.tail _ hq) p.1 p.2 (N p hp).1
theorem kl_off {U W : Addr} {kl news : List (Addr × Obj)} {q : Addr × Obj} (h1 : AllLt U kl) (h2 : AllLt W kl) (h3 : KlNew kl news) (hq : q ∈ news) : OwnOff kl [U, W, q.1] := fun p hp b hb => by
  rcases List.mem_cons.mp hb with rfl | hb
  · exact Nat.ne_of_lt (kst_ltOf h1 p hp)
  · rcases List.mem_cons.mp hb with rfl | hb
    · exact Nat.ne_of_lt (kst_ltOf h2 p hp)
    · rw [List.mem_singleton.mp hb]; exact Ne.symm (h3 p hp q hq)
theorem stG_grows : KPfGrows stG := fun l k => by unfold stG; split <;> simp
theorem st_all : (rangeKs 1 5).foldl stG [] = [1, 2, 4] := by decide +kernel
local macro_rules | `(tactic| cell_enter) => `(tactic| (refine' code_allC ?k1 ?k2 ?k3 ?k5 ?kA ?kF ?kK ?k6 ?k7 ?k8 ?k9 ?kB ?kD ?_ ?c2 ?c3 ?c4; (case kA => exact rfl); (case kF => exact rfl); (case kK => assumption); (case k1 => k_asm); (case k2 => k_asm); (case k3 => k_asm); (case k5 => k_asm); (case k6 => k_is); (case k7 => k_is); (case k8 => ktr_room); (case k9 => exact BindsTo.of_eq rfl); (case kB => exact rfl); (case kD => decide +kernel); (case c2 => exact rfl); (case c3 => exact rfl); (case c4 => exact rfl); k_whole))
local macro_rules | `(tactic| walk_at "call ref") => `(tactic| (k_here; k_dflt (first
  | (refine' ClP.use (single_call _ _ _) ?k1 ?k2 ?k3 ?k4 ?k5 ?kK ?kd ?ku ?kp ?_; (case k1 => k_asm); (case k2 => k_asm); (case k3 => k_asm); (case k4 => k_asm); (case k5 => k_asm); (case kK => first | exact rfl | assumption); (case kd => ktr_room); (case ku => ktr_units); (case kp => trivial); intro v9 own9 h9 tk9 F9 N9 K9 O9; obtain ⟨e8, e9⟩ := O9; subst e8; subst e9; (try simp only [List.nil_append] at N9); clear K9; (try dsimp only); (try k_fold))
  | (refine' ClP.use (high_call _ _ _) ?k1 ?k2 ?k3 ?k4 ?k5 ?kK ?kd ?ku ?kp ?_; (case k1 => k_asm); (case k2 => k_asm); (case k3 => k_asm); (case k4 => k_asm); (case k5 => k_asm); (case kK => first | exact rfl | assumption); (case kd => ktr_room); (case ku => ktr_units); (case kp => trivial); intro v9 own9 h9 tk9 F9 N9 K9 O9; obtain ⟨e8, t9, e9⟩ := O9; subst e8; subst e9; (try simp only [List.nil_append] at N9); clear K9; (try dsimp only); (try k_fold))
  | (refine' ClP.use (sum_call _ _ _ _ ?kI ?kl) ?k1 ?k2 ?k3 ?k4 ?k5 ?kK ?kd ?ku ?kp ?_; (case k1 => k_asm); (case k2 => k_asm); (case k3 => k_asm); (case k4 => k_asm); (case k5 => k_asm); (case kp => is_list); (case kI => first | assumption | exact .cons _ _ (.cons _ _ (.cons _ _ .nil))); (case kl => first | ((try simp only [List.length_cons, List.length_nil]); omega) | (simp only [lessF, List.length_append, List.length_cons, List.length_nil, List.length_take, List.length_drop]; omega)); (case kK => first | exact rfl | assumption); (case kd => ktr_room); (case ku => ktr_units); intro v9 own9 h9 tk9 F9 N9 K9 O9; obtain ⟨e8, t9, e9⟩ := O9; subst e8; subst e9; (try simp only [List.nil_append] at N9); clear K9; (try dsimp only); (try k_fold))
  | (refine' ClP.use (less_call _ _ _ _ ?kI ?kl _ _ _ _ ?k0 ?kh) ?k1 ?k2 ?k3 ?k4 ?k5 ?kK ?kd ?ku ?kp ?_; (case k1 => k_asm); (case k2 => k_asm); (case k3 => k_asm); (case k4 => k_asm); (case k5 => k_asm); (case kp => is_list); (case kI => assumption); (case kl => ((try simp only [List.length_cons, List.length_nil]); omega)); (case k0 => omega); (case kh => ((try simp only [List.length_cons, List.length_nil]); omega)); (case kK => first | exact rfl | assumption); (case kd => ktr_room); (case ku => ktr_units); intro v9 own9 h9 tk9 F9 N9 K9 O9; obtain ⟨D9, us9, c9, e8, e9, hI9, hD9⟩ := O9; subst e8; subst e9; obtain ⟨t7, t8, t9, e7⟩ := ints_less (by with_reducible assumption) hI9; subst e7; have n9 := ne_all hD9 (by assumption); (try simp only [List.forall_mem_cons] at n9); (try dsimp only at n9); (try simp only [List.cons_append, List.nil_append] at N9); clear K9; (try dsimp only); (try k_fold))
  | (refine' ClP.use (lost_call _ _ _ _ _ _ _ _ ?kI ?kI2 ?b1 ?b2 ?b3) ?k1 ?k2 ?k3 ?k4 ?k5 ?kK ?kd ?ku ?kp ?_; (case k1 => k_asm); (case k2 => k_asm); (case k3 => k_asm); (case k4 => k_asm); (case k5 => k_asm); (case kp => exact ⟨by is_list, by is_list⟩); (case kI => with_reducible assumption); (case kI2 => with_reducible assumption); (case b1 => with_reducible assumption); (case b2 => with_reducible assumption); (case b3 => with_reducible assumption); (case kK => first | exact rfl | assumption); (case kd => ktr_room); (case ku => ktr_units); intro v9 own9 h9 tk9 F9 N9 K9 O9; obtain ⟨D9, od9, kl9, e8, e9, ob9, lo9, hD9⟩ := O9; subst e8; subst e9; have n9 := ne_all (hD9 _ (.head _)) (by assumption); (try simp only [List.forall_mem_cons] at n9); (try dsimp only at n9); have kN9 := kl_new hD9 (by assumption); (try simp only [List.cons_append] at N9); clear K9; (try dsimp only); (try k_fold)))))
local macro_rules | `(tactic| walk_at "CompSrcT") => `(tactic| (refine' pyStop ?_))
local macro_rules | `(tactic| walk_at "eval ListComp") => `(tactic| (refine' pyStop ?_))
local macro_rules | `(tactic| walk_at "pyIter ref") => `(tactic| (refine' pyStop ?_))
local macro_rules | `(tactic| walk_at "InvEndN") => `(tactic| (refine' pyStop ?_))
local macro_rules | `(tactic| walk_at "exec For Name Call cons nil") => `(tactic| (k_here; (rename Fr _ _ _ _ => lF'); (with_unfolding_all refine' For_invVF lF' ?k1 ?k2 ?_; (case k1 => exact rfl); (case k2 => exact rfl); k_whole)))
local macro_rules | `(tactic| walk_at "exec For Tuple Name cons nil") => `(tactic| (k_here; (rename Fr _ _ _ _ => lF'); (with_unfolding_all refine' For_turns lF' ?_; k_whole)))
local macro_rules | `(tactic| walk_at "CompEnd") => `(tactic| (k_dflt (first
  | (refine' ce_yes ?k1 ?k2 ?k3 ?k4 ?_; (case k1 => assumption); (case k2 => assumption); (case k3 => kcf_all); (case k4 => first | assumption | (simp only [LCg.Off3, and_true]; assumption)))
  | (refine' ce_no ?k1 ?k2 ?k3 ?k4 ?_; (case k1 => assumption); (case k2 => assumption); (case k3 => kcf_all); (case k4 => first | assumption | (simp only [LCg.Off3, and_true]; assumption))))))
local macro_rules | `(tactic| walk_at "subscriptTail") => `(tactic| (k_here; (with_reducible show wpAny _ _ (subscriptTail _ _ (Value.ref _) (Value.ref _)) _ _ _); k_dflt ((with_reducible rename LostOb _ _ _ _ _ _ => lOb'); (refine' lost_get ?u ?N lOb' ?d ?k ?a ?t ?S ?_; (case u => ktr_units); (case N => k_asm); (case d => k_mem); (case k => (intro p hp; with_reducible repeat (first | assumption | exact List.mem_append_left _ hp | apply List.mem_cons_of_mem))); (case a => k_mem); (case t => first | exact TupKeyObj.made (by tuptab_items_int) | exact TupKeyObj.made (items_less (by with_reducible assumption) (by with_reducible assumption))); (case S => first | with_reducible assumption | exact ⟨rfl, rfl, rfl⟩)))))
local macro_rules | `(tactic| walk_at "call builtin:list.append") => `(tactic| (k_here; (with_reducible show wpAny _ _ (call (Value.builtin _) [Value.ref _, _]) _ _ _); k_dflt (refine' append_K ?k1 ?k2 ?k3 ?_ ?z; (case k1 => k_asm); (case k2 => k_asm); (case k3 => k_upd); (case z => exact dat_size (by with_reducible assumption) (by with_reducible assumption)); k_whole); intro h' F' N'; (try k_sweep)))
set_option maxRecDepth 100000 in
set_option maxHeartbeats 8000000 in
theorem small_call (w : World) (l : Addr) (us : List Value) (x y z : Int) (hi : IntsAre us [x, y, z]) (hx : 0 ≤ x ∧ x < 6) (hy : 0 ≤ y ∧ y < 6) (hz : 0 ≤ z ∧ z < 6) :
    ClP 9 w (hd.heap_39 w.params) 59 (fun h => h.IsList l us.toArray) [.ref l] (OutB true) := by
  w_top off
  dsimp only [ClP]
  k_fill
  intro p loose mean mg mb news dp un gd cn cs a ccd cl outer A₀ base h₀ L m s Q E B F X N T hk hdp hun hpre hret
  refine wpAny_call ?_
  k_dflt cell_enter
  intro g' L' h' tk' cells' FG' hvis F' N' Y' B' X' T'
  k_cells Y'
  try simp only [List.cons_append, List.nil_append] at N'
  try dsimp only
  try k_fold
  have hl : g'.IsList l us.toArray := hpre.at fun o e => hvis _ _ e
  k_with_none
  k_steps
  with_reducible rename Fr _ _ _ _ => lF'
  with_reducible rename News _ _ _ _ => lN'
  with_reducible rename IsRange _ _ _ _ _ _ _ _ => rgX
  refine' pyGo (LCt.CompSrcT.range (n := 5) rfl lF' lN' rgX (by decide) (by rfl) (by size_fits) ?_)
  intro gg
  refine' kci_range stG (fun k t I oI C oC D m' ys l' h' tk' E' hlo hhi hI hC hx' F' N' off' ne' hMark' => ?turn) (fun ys hys hlen => ?fin) stG_grows
  case turn =>
    clear lF' lN'
    simp only [LCg.Off3, and_true] at off'
    try k_fold
    k_steps
    all_goals first
      | exact kci_el (if_pos (by with_reducible assumption)) rfl rfl
      | exact kci_no (if_neg (by simp only [Bool.not_eq_true]; with_reducible assumption)) rfl
  case fin =>
    clear lF' lN'
    intro D h tk F₂ N₂ off2
    simp only [LCg.Off1, and_true] at off2
    rw [st_all] at hys
    try k_fold
    try dsimp only
    k_steps
    with_reducible rename Fr _ _ _ _ => lF'
    with_reducible rename News _ _ _ _ => lN'
    replace lN' := news_rot lN'
    simp only [List.cons_append, List.nil_append] at lN'
    with_reducible rename LostOb _ _ _ _ _ _ => ob9
    with_reducible rename (_ == sysModules) = false => lo9
    refine' pyGo (lost_turns [(Str.ofString "lost", .ref _), (Str.ofString "steps", .ref _)] rfl lo9 lF' lN' (.head _) ob9 (fun p hp => .tail _ (.tail _ (.tail _ (.tail _ hp)))) ?hps ?turn2 ?done2)
    case hps => kst_all
    case turn2 =>
      intro Tk a b c t1 t2 t3 m₁ h tk I oI hT ob hoff F₁ N₁
      clear lF' lN'
      dsimp only [kstB] at F₁
      try k_fold
      k_steps
      · with_reducible rename _ = true => hbad
        exact (lost_eq hbad).elim
      with_reducible rename Fr _ _ _ _ => fE
      with_reducible rename News _ _ _ _ => nE
      refine pyGo (InvEndN.intro fE nE ⟨rfl, ?_⟩ rfl (fun p hp => .tail _ (.tail _ (.tail _ hp))) (fun p hp => ?_))
      · kst_all
      · rw [List.mem_singleton.mp hp]; exact .tail _ (.tail _ (.head _))
    case done2 =>
      intro m₁ h tk F₁ N₁
      clear lF' lN'
      dsimp only [kstB] at F₁
      try k_fold
      try dsimp only
      k_steps
      with_reducible rename Fr _ _ _ _ => lF'
      with_reducible rename News _ _ _ _ => lN'
      with_reducible rename IsRange _ _ _ _ _ _ _ _ => rgX
      with_reducible rename _ < _ ∧ _ < _ ∧ _ < _ ∧ _ < _ ∧ _ < _ ∧ AllLt _ _ => lU
      with_reducible rename _ < _ ∧ _ < _ ∧ _ < _ ∧ _ < _ ∧ AllLt _ _ => lW
      with_reducible rename KlNew _ _ => kNx
      have hkl := kl_off lU.2.2.2.2.2 lW.2.2.2.2 kNx (.tail _ (.head _))
      refine' pyGo (outer_pairs (x := x) (y := y) (z := z) [(Str.ofString "due", .ref _), (Str.ofString "won", .ref _), (Str.ofString "total", .int (sumF [x, y, z]) _), (Str.ofString "lost", .ref _), (Str.ofString "steps", .ref _)] rfl rgX lF' lN' ?hps3 ?turn3 ?done3)
      case hps3 => kst_all
      case turn3 =>
        rintro i ti m₁ nx h tk own hin hoff ⟨us', cu, ws, cw, pl, P, rfl, d1, d2, o1, o2, hP, hps⟩ F₁ N₁
        clear lF' lN' rgX
        rw [← kstB_same hps] at F₁
        clear hps
        dsimp only [kstB] at F₁
        simp only [Int.zero_add] at F₁
        obtain ⟨o3, o4⟩ := pj_off hoff
        replace N₁ := pj_join N₁
        simp only [List.cons_append, List.nil_append] at N₁
        try k_fold
        k_steps
        with_reducible rename Fr _ _ _ _ => lF'
        with_reducible rename News _ _ _ _ => lN'
        with_reducible rename IsRange _ _ _ _ _ _ _ _ => rgX
        have hh5 := heap_five (k := i) hx hy hz (by omega) (by omega)
        refine' pyGo (inner_pairs (b := [x, y, z].getD (i : Int).toNat 0) (i := i) [(Str.ofString "due", .ref _), (Str.ofString "won", .ref _), (Str.ofString "total", .int (sumF [x, y, z]) _), (Str.ofString "lost", .ref _), (Str.ofString "steps", .ref _), (Str.ofString "k", .int i ti)] hh5 rfl rgX lF' lN' d1 d2 o1 o3 hP ?hps4 ?turn4 ?done4)
        case hps4 => kst_all
        case turn4 =>
          clear d1 d2 o1 hP F₁ N₁
          rintro j tj m₁ nx h tk own2 hin2 hoff2 ⟨us', cu, ws, cw, pl, P, rfl, d1, d2, o1, o2, hP, hps⟩ F₁ N₁
          clear lF' lN' rgX
          rw [← kstB_same hps] at F₁
          clear hps
          dsimp only [kstB] at F₁
          obtain ⟨o5, o6⟩ := pj_off hoff2
          replace N₁ := pj_join N₁
          simp only [List.cons_append, List.nil_append] at N₁
          obtain ⟨p, q, r, he, hB⟩ := less_triple (k := i) (d := 1 + (j : Int)) hx hy hz (by omega) (by omega) (by omega) (by omega)
          have hd1 : 1 ≤ 1 + (j : Int) := by omega
          have hd5 : 1 + (j : Int) ≤ 5 := by omega
          have hP9 : P.length ≤ 100 := by have := hP.1; omega
          have hoT := off_cat hkl (off_cat o1 (off_cat (off_three o4) (off_three o6)))
          try k_fold
          k_steps
          all_goals
            with_reducible rename Fr _ _ _ _ => fE
            with_reducible rename News _ _ _ _ => nE
            try simp only [List.push_toArray] at nE
          all_goals first
            | exact absurd (won_t he (by with_reducible assumption) (by with_reducible assumption) hd1 hd5) (due_f1 (by with_reducible assumption))
            | exact absurd (won_t he (by with_reducible assumption) (by with_reducible assumption) hd1 hd5) (due_f2 (by with_reducible assumption) (by omega) (by omega))
            | exact absurd (due_t (by with_reducible assumption) (by with_reducible assumption) (by omega) (by omega)) (won_f1 (by with_reducible assumption) hd1 hd5)
            | exact absurd (due_t (by with_reducible assumption) (by with_reducible assumption) (by omega) (by omega)) (won_f2 he (by with_reducible assumption))
            | (refine pj_end (cu := cu) (cw := cw) fE nE (fun p hp => ?_) d1 d2 o1 o2 o5 o6 (pair_skip hP (by first | exact won_f1 (by with_reducible assumption) hd1 hd5 | exact won_f2 he (by with_reducible assumption))) ?_
               · simp only [List.cons_append, List.nil_append] at hp
                 with_reducible repeat (first | exact hp | apply List.mem_cons_of_mem)
               · kst_all)
            | (with_reducible rename _ < _ ∧ _ < _ ∧ _ < _ ∧ _ < _ ∧ _ < _ ∧ _ < _ ∧ _ < _ ∧ _ < _ ∧ _ < _ ∧ AllLt _ _ => lT2
               with_reducible rename _ < _ ∧ _ < _ ∧ _ < _ ∧ _ < _ ∧ _ < _ ∧ _ < _ ∧ _ < _ ∧ _ < _ ∧ AllLt _ _ => lT1
               have hw := won_t he (by with_reducible assumption) (by with_reducible assumption) hd1 hd5
               have hT2 := lt_own lT2.2.2.2.2.2.2.2.2.2
               have hT1 := lt_own lT1.2.2.2.2.2.2.2.2
               refine pj_end fE nE led_add (dat_add d1 (.head _) (fun p hp => .tail _ (.tail _ hp))) (dat_add d2 (.tail _ (.head _)) (fun p hp => .tail _ (.tail _ hp))) (off_cons lT2.2.2.2.1 lT2.2.2.2.2.1 lT2.2.2.2.2.2.2.2.1 (off_cons lT1.2.2.1 lT1.2.2.2.1 lT1.2.2.2.2.2.2.1 o1))
                 (off_up hT2.1 (off_up hT1.1 o2)) (off_up hT2.2 (off_up hT1.2 o5)) o6 (pair_add hP hin (by omega) hw.1 hw.2) ?_
               kst_all)
        case done4 =>
          clear d1 d2 o1 hP F₁ N₁
          rintro m₁ nx h tk ⟨us', cu, ws, cw, pl, P, rfl, d1, d2, o1, o2, hP, hps⟩ F₁ N₁
          clear lF' lN' rgX
          rw [← kstB_same hps] at F₁
          clear hps
          dsimp only [kstB] at F₁
          simp only [List.cons_append, List.nil_append] at N₁
          try k_fold
          try dsimp only
          k_steps
          with_reducible rename Fr _ _ _ _ => fE
          with_reducible rename News _ _ _ _ => nE
          refine pj_end (cu := cu) (cw := cw) fE nE (fun p hp => ?_) d1 d2 o1 (off_nil _) o2 o4 (pair_next hP (by omega) (by omega)) ?_
          · simpa only [List.cons_append, List.nil_append] using hp
          · kst_all
      case done3 =>
        rintro m₁ nx h tk ⟨us', cu, ws, cw, pl, P, rfl, d1, d2, o1, o2, hP, hps⟩ F₁ N₁
        clear lF' lN' rgX
        rw [← kstB_same hps] at F₁
        clear hps
        dsimp only [kstB] at F₁
        simp only [List.cons_append, List.nil_append, List.append_nil] at N₁
        have hoE := off_cat hkl o1
        dsimp only at hoE
        try k_fold
        try dsimp only
        k_steps
        · with_reducible rename highF (sumF [x, y, z]) = -1 => hA
          exact retB hret (by rw [hA]; rfl) (by with_reducible assumption) N (by with_reducible assumption)
        · with_reducible rename highF (sumF [x, y, z]) ≠ -1 => hne
          with_reducible rename Fr _ _ _ _ => lF'
          with_reducible rename News _ _ _ _ => lN'
          refine' pyGo (ListComp_Q lF' (by with_unfolding_all rfl) (by decide) rfl (by decide) rfl rfl (by decide) ?_)
          k_steps
          refine ⟨_, ws, cw, P, _, havG x y z, rfl, rfl, lF', lN', .tail _ (.tail _ (.head _)), ?sz, d2.mono ?sub, ?turn9, ?fin9⟩
          case sz => have := hP.1; rw [d2.length, datP_len, PySem.sizeLine_eq]; omega
          case sub => exact fun p hp => .tail _ (.tail _ (.tail _ (.tail _ (.tail _ (.tail _ (.tail _ (List.mem_append_right _ hp)))))))
          case turn9 =>
            intro g a b I oI C oC D9 m₂ ys9 l9 h9 tk9 ta tb E' hab hI hC hxa hxb F₂ N₂ off9 ne9
            clear lF' lN' F₁ N₁
            obtain ⟨ha0, ha3, -⟩ := hP.2.1 (a, b) hab
            have hm1 := sum_lo x y z
            have hm2 : 0 ≤ highF (sumF [x, y, z]) := by omega
            dsimp only at ha0 ha3
            clear hm1
            try k_fold
            k_steps
            all_goals first
              | exact kci_el (if_neg (by with_reducible assumption)) rfl rfl
              | exact kci_no (if_pos (by with_reducible assumption)) rfl
              | (exfalso; omega)
          case fin9 =>
            intro g D9 h9 tk9 ys9 hys9 F₂ N₂ off9
            obtain ⟨k0, H, hH⟩ := fold_some hP hx.1 hy.1 hz.1 hne
            rw [hH] at hys9
            clear lF' lN' F₁ N₁
            try k_fold
            try dsimp only
            k_steps
            all_goals first
              | exact retB hret rfl (by with_reducible assumption) N (by with_reducible assumption)
        · with_reducible rename (decide (datP P = []) == (highF (sumF [x, y, z]) == -1)) = false => hC
          rw [won_nil hP hx hy hz] at hC
          cases hC
end
end Mine
namespace Mine
section
local macro_rules | `(tactic| walk_at "call ref") => `(tactic| (k_here; k_dflt (first
  | (refine' ClB.use (heaps_call _ _ _ _ ?kI ?kf _ _ ?k0) ?k1 ?k2 ?k3 ?k5 ?kK ?kd ?ku ?kp ?_; (case k1 => k_asm); (case k2 => k_asm); (case k3 => k_asm); (case k5 => k_asm); (case kp => assumption); (case kI => assumption); (case kf => omega); (case k0 => first | omega | decide); (case kK => first | exact rfl | assumption); (case kd => ktr_room); (case ku => ktr_units); intro v9 own9 h9 tk9 F9 N9 O9; obtain ⟨D9, us9, c9, x9, y9, z9, e8, e9, hI9, hx0, hx1, hy0, hy1, hz0, hz1⟩ := O9; subst e8; subst e9; (try have hx2 : x9 < 10 ^ 24 := hx1); (try have hy2 : y9 < 10 ^ 24 := hy1); (try have hz2 : z9 < 10 ^ 24 := hz1); (try dsimp only); (try k_fold))
  | (refine' ClP.use (small_call _ _ _ _ _ _ ?kI ?b1 ?b2 ?b3) ?k1 ?k2 ?k3 ?k4 ?k5 ?kK ?kd ?ku ?kp ?_; (case k1 => k_asm); (case k2 => k_asm); (case k3 => k_asm); (case k4 => k_asm); (case k5 => k_asm); (case kp => is_list); (case kI => assumption); (case b1 => exact ⟨by with_reducible assumption, by with_reducible assumption⟩); (case b2 => exact ⟨by with_reducible assumption, by with_reducible assumption⟩); (case b3 => exact ⟨by with_reducible assumption, by with_reducible assumption⟩); (case kK => first | exact rfl | assumption); (case kd => ktr_room); (case ku => ktr_units); intro v9 own9 h9 tk9 F9 N9 K9 O9; obtain ⟨e8, e9⟩ := O9; subst e8; subst e9; (try simp only [List.nil_append] at N9); clear K9; (try dsimp only); (try k_fold))
  | (refine' ClP.use (great_call _ _ _ _ _ _ ?kI ?b1 ?b2 ?b3) ?k1 ?k2 ?k3 ?k4 ?k5 ?kK ?kd ?ku ?kp ?_; (case k1 => k_asm); (case k2 => k_asm); (case k3 => k_asm); (case k4 => k_asm); (case k5 => k_asm); (case kp => is_list); (case kI => assumption); (case b1 => exact ⟨by with_reducible assumption, by with_reducible assumption⟩); (case b2 => exact ⟨by with_reducible assumption, by with_reducible assumption⟩); (case b3 => exact ⟨by with_reducible assumption, by with_reducible assumption⟩); (case kK => first | exact rfl | assumption); (case kd => ktr_room); (case ku => ktr_units); intro v9 own9 h9 tk9 F9 N9 K9 O9; obtain ⟨e8, e9⟩ := O9; subst e8; subst e9; (try simp only [List.nil_append] at N9); clear K9; (try dsimp only); (try k_fold)))))
set_option maxRecDepth 100000 in
set_option maxHeartbeats 8000000 in
theorem law_holds : PySem.Challenge.rw_fd5006_01.Holds := hd (by
  w_top off
  k_with_none
  k_go0
  all_goals try k_fold
  k_steps)
end
end Mine
theorem PySem.Challenge.cw_fd5006_01_holds : PySem.Challenge.rw_fd5006_01.Holds :=
  Mine.law_holds

