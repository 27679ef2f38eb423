import PyProof.Rows.All
import Wide.All
import OpenK.AllK
import Wide.FinOn
import Lean
import PySem.Challenge.RW_fd5006_02
open PySem PySem.W PyProof.Rows PySem.Calls
set_option Elab.async false
namespace Mine
section
/-- a call of a def of the top, of whose caller's made objects `hid` alone are handed on to be changed; `vis` stand within the callee's ground -/
theorem code_vis {prog : Program} {w : World} {A A₀ : Around} {s : Shared} {K : Frag} {L : Addr} {h₀ base : Heap} {m mg mb : Str → Option Value} {p : Program} {loose : List Str} {mean : ExcName → Option Value}
    {env : Env} {outer : List Env} {R : Result → Shared → Prop} {name qual : Str} {params : Arguments} {body : List Stmt} {scope : Scope} {dV kV doc pm cdv ct oc : Value} {an od : Option Addr} {osl : Array (Option Value)} {f : Addr} {args : Args} {binds : List (Str × Value)} {vis hid : List (Addr × Obj)}
    (B : Below A₀ base outer h₀) (F : Fr h₀ L s.heap m) (X₀ : K.In h₀) (T : Top p loose mean mg mb h₀) (NV : News h₀ L s.heap vis) (NH : News h₀ L s.heap hid) (hvh : ∀ q ∈ vis, q.1 ∉ hid.map (·.1)) (hA : A.frames = some (env :: outer)) (hf : env.frame = some L) (hke : env.scope.kind = .function)
    (ho : K.lookup f = some ⟨oc, od, .func (fnOf name qual params body scope dV kV doc pm an cdv ct), osl⟩) (hcd : codeIn K cdv qual = true) (hroom : A.depth < recursionLimit)
    (hbind : BindsTo s (fnOf name qual params body scope dV kV doc pm an cdv ct) args binds) (hloc : ∀ y ∈ binds, scope.names.lookup y.1 = some .local)
    (h : ∀ g L' h₁, Fr h₀ L g m → (∀ q ∈ vis, g.get? q.1 = some q.2) → Fr g L' h₁ (fun y => binds.reverse.lookup y) → News g L' h₁ hid → Below A base (env :: outer) g → K.In g → Top p loose mean mg mb g →
      wpAny (model prog w) (A.deeper (envOf qual scope L' f cdv)) (execs body (envOf qual scope L' f cdv))
        (fun fl s' => LeaveK h₀ L m g (fun r s'' => News h₀ L s''.heap vis → R r s'') (match fl with | .ret v => v | _ => .none) s')
        (fun e s' => wpAny (model prog w) (A.deeper (envOf qual scope L' f cdv)) (leaving (envOf qual scope L' f cdv) e) (fun _ s'' => R (.error e) s'') (fun e' s'' => R (.error e') s'') s')
        { s with heap := h₁, toks := s.toks + binds.length })
    (hco : scope.isCoroutine = false) (hgen : scope.isGenerator = false) (hk : scope.kind = .function)
    (hcell : ∀ x ∈ scope.names, x.2 ≠ .cell) : codeAny (model prog w) A (.call (.ref f) args) R s := by
  obtain ⟨FG, BG, st, lv⟩ := groundX (R := R) B F NH hA hf hke
  refine codeAny_call_def (fd := fnOf name qual params body scope dV kV doc pm an cdv ct) (body := body) (binds := binds) hroom ((X₀.keeps F.keep) _ _ ho) rfl (T.nolimit.keeps F.keep) (codeRec_of (X₀.keeps F.keep) hcd) rfl hbind hcell hloc (fun h₁ hns hk₁ => ?_) hco hgen hk
  have hv : ∀ q ∈ vis, (hideAll s.heap (hid.map (·.1))).get? q.1 = some q.2 := fun q hq => hideAll_get _ (NV q hq).1 (hvh q hq)
  refine wpAny_mono (h _ s.heap.objs.size h₁ FG hv ⟨hns, fun b o e => hk₁ b o (of_hideAll _ e), Nat.le_of_eq (hideAll_size _ _)⟩
    (fun p hp => ⟨hk₁ _ _ (NH p hp).1, Nat.ne_of_lt (Heap.lt_size (NH p hp).1), hideAll_none _ (List.mem_map_of_mem hp)⟩) BG (X₀.keeps st) (T.keeps st)) (fun fl s' hl => ?_) fun _ _ y => y
  obtain ⟨L', m', news', F', N', k⟩ := hl
  exact lv _ _ ⟨L', m', news', F', N', fun a b => k a b fun q hq => ⟨F'.keep _ _ (hv q hq), (NV q hq).2.1, (NV q hq).2.2⟩⟩
theorem upd_split {t : Addr} {o o' : Obj} {news news' : List (Addr × Obj)} (U : Upd t o o' news news') :
    ∃ pre post, news = pre ++ (t, o) :: post ∧ news' = pre ++ (t, o') :: post ∧ (∀ q ∈ pre, q.1 ≠ t) ∧ ∀ q ∈ post, q.1 ≠ t := U.split
end
end Mine
namespace Mine
section
set_option maxRecDepth 100000 in
set_option maxHeartbeats 8000000 in
open_top hd for PySem.Challenge.rw_fd5006_02
end
end Mine
namespace Mine
section
def singleF (k : Int) : Bool := if k = 0 then false else Builtin.bitAnd k (k - 1) == 0
def highF (k : Int) : Int := (Builtin.Int.intBits k : Int) - 1
def lowF (k : Int) : Int :=
  if (!singleF (Builtin.bitAnd k (-k))) = true ∨ highF (Builtin.bitAnd k (-k)) < 0 then 0 else 1 * 2 ^ (highF (Builtin.bitAnd k (-k))).toNat
/-- the lowest bit's worth, of the first numbers -/
def lowN (k : Nat) : Nat := (lowF (k : Int)).toNat
theorem low_small : ∀ k : Fin 25, 1 ≤ k.val → highF (Builtin.bitAnd (k.val : Int) (-(k.val : Int))) ≤ 1000 ∧ lowF (k.val : Int) = (lowN k.val : Int) ∧ 1 ≤ lowN k.val ∧ lowN k.val ≤ k.val ∧ k.val % lowN k.val = 0 ∧ k.val % (2 * lowN k.val) ≠ 0 := by
  decide +kernel
theorem low_of {k : Int} (h1 : 1 ≤ k) (h2 : k ≤ 24) : highF (Builtin.bitAnd k (-k)) ≤ 1000 ∧ lowF k = (lowN k.toNat : Int) ∧ 1 ≤ lowN k.toNat ∧ lowN k.toNat ≤ k.toNat ∧ k.toNat % lowN k.toNat = 0 ∧ k.toNat % (2 * lowN k.toNat) ≠ 0 := by
  have h := low_small ⟨k.toNat, by omega⟩ (by simp; omega)
  have e : ((k.toNat : Nat) : Int) = k := by omega
  simp only [e] at h
  exact h
/-- the cell j holds the place p's count -/
def Cov (p j : Nat) : Prop := j - lowN j ≤ p ∧ p < j
instance (p j : Nat) : Decidable (Cov p j) := by unfold Cov; infer_instance
theorem cov_first : ∀ p : Fin 24, Cov p.val (p.val + 1) := by decide +kernel
theorem cov_none : ∀ p : Fin 24, ∀ j : Fin 25, j.val ≤ p.val → ¬ Cov p.val j.val := by decide +kernel
theorem cov_next : ∀ p : Fin 24, ∀ k : Fin 25, Cov p.val k.val → k.val + lowN k.val ≤ 24 → Cov p.val (k.val + lowN k.val) := by decide +kernel
theorem cov_gap : ∀ p : Fin 24, ∀ k : Fin 25, Cov p.val k.val → ∀ j : Fin 25, k.val < j.val → j.val < k.val + lowN k.val → ¬ Cov p.val j.val := by decide +kernel
end
end Mine
namespace Mine
section
def psum (rs : List Int) (k : Nat) : Int := (rs.take k).sum
structure Fen (rs ns : List Int) : Prop where
  small : rs.length ≤ 24
  len : ns.length = rs.length + 1
  cell : ∀ k, 1 ≤ k → k ≤ rs.length → ns.getD k 0 = psum rs k - psum rs (k - lowN k)
theorem fen_sum {rs ns : List Int} (H : Fen rs ns) {k : Int} (h1 : 0 < k) (h2 : k ≤ rs.length) {t S : Int} (h : t + psum rs k.toNat = S) :
    t + ns.getD k.toNat 0 + psum rs (k - lowF k).toNat = S := by
  have hs := H.small
  obtain ⟨_, e, l1, l2, _⟩ := low_of (k := k) (by omega) (by omega)
  have hc := H.cell k.toNat (by omega) (by omega)
  have e2 : (k - lowF k).toNat = k.toNat - lowN k.toNat := by omega
  rw [e2, hc]; omega
theorem sum_turn {rs ns : List Int} (H : Fen rs ns) {k : Int} (h1 : 0 < k) (h2 : k ≤ rs.length) {t S : Int} (h : t + psum rs k.toNat = S) :
    0 ≤ k - lowF k ∧ k - lowF k ≤ rs.length ∧ t + ns.getD k.toNat 0 + psum rs (k - lowF k).toNat = S := by
  have hs := H.small
  obtain ⟨_, e, l1, l2, _⟩ := low_of (k := k) (by omega) (by omega)
  exact ⟨by omega, by omega, fen_sum H h1 h2 h⟩
theorem low_less {k : Int} (h1 : 0 < k) (h2 : k ≤ 24) : (k - lowF k).toNat < k.toNat := by
  obtain ⟨_, e, l1, l2, _⟩ := low_of (k := k) (by omega) (by omega)
  omega
theorem low_pos {k : Int} (h1 : 0 < k) (h2 : k ≤ 24) : lowF k ≠ 0 := by
  obtain ⟨_, e, l1, l2, _⟩ := low_of (k := k) (by omega) (by omega)
  omega
theorem sum_end {rs : List Int} {k : Int} (h0 : ¬ 0 < k) {t S : Int} (h : t + psum rs k.toNat = S) : t = S := by
  have e : k.toNat = 0 := by omega
  rw [e] at h
  simpa [psum] using h
/-- what a call of a def of the text wants of its caller -/
abbrev Cl (D : Nat) (w : World) (K : Frag) (f : Addr) (pre : Heap → Prop) (vs : List Value) (R : Tok → Value) : Prop :=
  ∀ (p : Program) (loose : List Str) (mean : ExcName → Option Value) (mg mb : Str → Option Value) (news : List (Addr × Obj)) (dp un : Nat) (gd : Option (List Code)) (cn : Str) (cs : Scope) (a : Addr) (ccd : Value) (cl : List (Str × Addr)) (outer : List Env) (A₀ : Around) (base h₀ : Heap) (L : Addr) (m : Str → Option Value) (s : Shared) (Q E : Value → Shared → Prop),
    Below A₀ base outer h₀ → Fr h₀ L s.heap m → K.In h₀ → News h₀ L s.heap news → Top p loose mean mg mb h₀ → cs.kind = .function →
    dp + D < recursionLimit → un + 10 * D < cLine → pre h₀ → CbRet h₀ L m news s Q R →
      wpAny (model PySem.Challenge.rw_fd5006_02.row.prog w) (ktrTop dp un gd cn cs L a ccd cl outer) (call (.ref f) vs) Q E s
theorem Cl.use {D : Nat} {w : World} {K : Frag} {f : Addr} {pre : Heap → Prop} {vs : List Value} {R : Tok → Value} (C : Cl D w K f pre vs R)
    {p : Program} {loose : List Str} {mean : ExcName → Option Value} {mg mb : Str → Option Value} {news : List (Addr × Obj)} {dp un : Nat} {gd : Option (List Code)} {cn : Str} {cs : Scope} {a : Addr} {ccd : Value} {cl : List (Str × Addr)} {outer : List Env} {A₀ : Around} {base h₀ : Heap} {L : Addr} {m : Str → Option Value} {s : Shared} {Q E : Value → Shared → Prop}
    (B : Below A₀ base outer h₀) (F : Fr h₀ L s.heap m) (X : K.In h₀) (N : News h₀ L s.heap news) (T : Top p loose mean mg mb h₀) (hk : cs.kind = .function)
    (hd : dp + D < recursionLimit) (hu : un + 10 * D < cLine) (hp : pre h₀)
    (hret : ∀ (t : Tok) (h' : Heap) (tk' : Nat), Fr h₀ L h' m → News h₀ L h' news → Q (R t) { s with heap := h', toks := tk' }) :
    wpAny (model PySem.Challenge.rw_fd5006_02.row.prog w) (ktrTop dp un gd cn cs L a ccd cl outer) (call (.ref f) vs) Q E s :=
  C p loose mean mg mb news dp un gd cn cs a ccd cl outer A₀ base h₀ L m s Q E B F X N T hk hd hu hp hret
/-- the same over a list that the caller has made -/
abbrev ClV (D : Nat) (w : World) (K : Frag) (f : Addr) (t : Addr) (o : Obj) (vs : List Value) (R : Tok → Value) : Prop :=
  ∀ (p : Program) (loose : List Str) (mean : ExcName → Option Value) (mg mb : Str → Option Value) (news : List (Addr × Obj)) (dp un : Nat) (gd : Option (List Code)) (cn : Str) (cs : Scope) (a : Addr) (ccd : Value) (cl : List (Str × Addr)) (outer : List Env) (A₀ : Around) (base h₀ : Heap) (L : Addr) (m : Str → Option Value) (s : Shared) (Q E : Value → Shared → Prop),
    Below A₀ base outer h₀ → Fr h₀ L s.heap m → K.In h₀ → News h₀ L s.heap news → Top p loose mean mg mb h₀ → cs.kind = .function →
    dp + D < recursionLimit → un + 10 * D < cLine → (t, o) ∈ news → CbRet h₀ L m news s Q R →
      wpAny (model PySem.Challenge.rw_fd5006_02.row.prog w) (ktrTop dp un gd cn cs L a ccd cl outer) (call (.ref f) vs) Q E s

set_option maxRecDepth 100000 in
set_option maxHeartbeats 8000000 in
theorem single_call (w : World) (k : Int) (tk : Tok) : Cl 1 w (hd.heap_39 w.params) 21 (fun _ => True) [.int k tk] (fun _ => .bool (singleF k)) := by
  dsimp only [Cl, CbRet]
  k_fill
  intro p loose mean mg mb news dp un gd cn cs a ccd cl outer A₀ base h₀ L m s Q E B F X N T hk hdp hun hpre hret
  refine wpAny_call ?_
  k_dflt cell_enter
  k_steps
  · refine cb_retB hret ?_ (by assumption) (by assumption)
    with_reducible rename _ = 0 => h1
    simp [singleF, h1]
  · refine cb_retB hret ?_ (by assumption) (by assumption)
    with_reducible rename _ ≠ 0 => h1
    simp [singleF, h1]
set_option maxRecDepth 100000 in
set_option maxHeartbeats 8000000 in
theorem high_call (w : World) (k : Int) (tk : Tok) : Cl 1 w (hd.heap_39 w.params) 28 (fun _ => True) [.int k tk] (fun t => .int (highF k) t) := by
  dsimp only [Cl, CbRet]
  k_fill
  intro p loose mean mg mb news dp un gd cn cs a ccd cl outer A₀ base h₀ L m s Q E B F X N T hk hdp hun hpre hret
  refine wpAny_call ?_
  k_dflt cell_enter
  k_steps
  exact cb_retI hret rfl (by assumption) (by assumption)

local macro_rules | `(tactic| walk_at "call ref") => `(tactic| (k_here; first
  | (refine' Cl.use (single_call _ _ _) ?k1 ?k2 ?k3 ?k4 ?k5 ?kK ?kd ?ku ?kp ?_; (case k1 => k_asm); (case k2 => k_asm); (case k3 => k_asm); (case k4 => k_asm); (case k5 => k_asm); (case kK => first | exact rfl | assumption); (case kd => ktr_room); (case ku => ktr_units); (case kp => trivial); intro t9 h9 tk9 F9 N9; (try dsimp only); (try k_fold))
  | (refine' Cl.use (high_call _ _ _) ?k1 ?k2 ?k3 ?k4 ?k5 ?kK ?kd ?ku ?kp ?_; (case k1 => k_asm); (case k2 => k_asm); (case k3 => k_asm); (case k4 => k_asm); (case k5 => k_asm); (case kK => first | exact rfl | assumption); (case kd => ktr_room); (case ku => ktr_units); (case kp => trivial); intro t9 h9 tk9 F9 N9; (try dsimp only); (try k_fold))))
set_option maxRecDepth 100000 in
set_option maxHeartbeats 8000000 in
theorem low_call (w : World) (k : Int) (tk : Tok) : Cl 3 w (hd.heap_39 w.params) 35 (fun _ => highF (Builtin.bitAnd k (-k)) ≤ 1000) [.int k tk] (fun t => .int (lowF k) t) := by
  dsimp only [Cl, CbRet]
  k_fill
  intro p loose mean mg mb news dp un gd cn cs a ccd cl outer A₀ base h₀ L m s Q E B F X N T hk hdp hun hpre hret
  refine wpAny_call ?_
  k_dflt cell_enter
  k_steps
  all_goals
    refine cb_retI hret ?_ (by assumption) (by assumption)
    simp [lowF, *]
local macro_rules | `(tactic| walk_at "call ref") => `(tactic| (k_here; first
  | (refine' Cl.use (low_call _ _ _) ?k1 ?k2 ?k3 ?k4 ?k5 ?kK ?kd ?ku ?kp ?_; (case k1 => k_asm); (case k2 => k_asm); (case k3 => k_asm); (case k4 => k_asm); (case k5 => k_asm); (case kK => first | exact rfl | assumption); (case kd => ktr_room); (case ku => ktr_units); (case kp => exact (low_of (by omega) (by omega)).1); intro t9 h9 tk9 F9 N9; (try dsimp only); (try k_fold))))
set_option maxRecDepth 100000 in
set_option maxHeartbeats 8000000 in
theorem sum_call (w : World) (t : Addr) (us : List Value) (c : Nat) (rs ns : List Int) (many : Int) (tk : Tok) (hi : IntsAre us ns) (hf : Fen rs ns) (hm : 0 ≤ many) (hm2 : many ≤ rs.length) :
    ClV 5 w (hd.heap_39 w.params) 49 t (listOf us.toArray c) [.ref t, .int many tk] (fun t => .int (psum rs many.toNat) t) := by
  dsimp only [ClV, CbRet]
  k_fill
  intro p loose mean mg mb news dp un gd cn cs a ccd cl outer A₀ base h₀ L m s Q E B F X N T hk hdp hun hmem hret
  have h24 := hf.small
  have hlen := hf.len
  refine wpAny_call ?_
  k_dflt (refine' code_vis (vis := news) (hid := []) ?k1 ?k2 ?k3 ?k5 ?k4 ?kh ?kvh ?kA ?kF ?kK ?k6 ?k7 ?k8 ?k9 ?kB ?_ ?c2 ?c3 ?c4 ?c5; (case kA => exact rfl); (case kF => exact rfl); (case kK => assumption); (case k1 => k_asm); (case k2 => k_asm); (case k3 => k_asm); (case k4 => k_asm); (case kh => exact News.nil); (case kvh => exact fun _ _ h => nomatch h); (case k5 => k_asm); (case k6 => k_is); (case k7 => k_is); (case k8 => ktr_room); (case k9 => exact BindsTo.of_eq rfl); (case c5 => decide); (case kB => exact locs rfl); (case c2 => exact rfl); (case c3 => exact rfl); (case c4 => exact rfl); k_whole; intro g' L' h' FG' hvis F' N' B' X' T'; (try dsimp only); (try k_lift B'); (try k_fold))
  have hl : g'.IsList t us.toArray := ⟨_, hvis _ hmem, rfl, c, rfl⟩
  clear hvis
  k_with_none
  k_with "exec While Compare cons nil" => k_while (fun _ total k => 0 ≤ k ∧ k ≤ rs.length ∧ total + psum rs k.toNat = psum rs many.toNat) (fun _ _ k => k.toNat) "total" "k"
  k_with "state" => exact sum_turn hf (by assumption) (by assumption) (by assumption)
  k_with "measure" => exact low_less (by omega) (by omega)
  k_steps
  · exact absurd (by assumption) (low_pos (by assumption) (by omega))
  · refine cb_retI hret ?_ (by assumption) (by assumption)
    exact sum_end (by assumption) (by assumption)
end
end Mine
namespace Mine
section
structure GInv (ns0 ns : List Int) (p : Nat) (b k : Int) : Prop where
  len : ns.length = ns0.length
  pos : 1 ≤ k
  cov : k < ns0.length → Cov p k.toNat
  cell : ∀ j, j < ns0.length → ns.getD j 0 = ns0.getD j 0 + if Cov p j ∧ (j : Int) < k then b else 0
theorem ginv_start (ns0 : List Int) {p : Nat} (hp : p < 24) (b : Int) : GInv ns0 ns0 p b ((p : Int) + 1) := by
  refine ⟨rfl, by omega, fun _ => ?_, fun j hj => ?_⟩
  · have e : ((p : Int) + 1).toNat = p + 1 := by omega
    rw [e]; exact cov_first ⟨p, hp⟩
  · rw [if_neg, Int.add_zero]
    rintro ⟨hc, hl⟩
    exact cov_none ⟨p, hp⟩ ⟨j, by omega⟩ (show j ≤ p by omega) hc
theorem getD_set (ns : List Int) (i j : Nat) (x : Int) (hj : j < ns.length) : (ns.set i x).getD j 0 = if i = j then x else ns.getD j 0 := by
  simp only [List.getD_eq_getElem?_getD, List.getElem?_set]
  split
  · rename_i h; subst h; simp [hj]
  · rfl
theorem ginv_turn {ns0 ns : List Int} {p : Nat} {b k : Int} (h25 : ns0.length ≤ 25) (hp : p < 24) (H : GInv ns0 ns p b k) (hk : k < ns0.length) :
    GInv ns0 (ns.set k.toNat (ns.getD k.toNat 0 + b)) p b (k + lowF k) := by
  have h1 := H.pos
  obtain ⟨_, e, l1, l2, _⟩ := low_of (k := k) (by omega) (by omega)
  have hc := H.cov hk
  refine ⟨by simp [H.len], by omega, fun h => ?_, fun j hj => ?_⟩
  · have e2 : (k + lowF k).toNat = k.toNat + lowN k.toNat := by omega
    rw [e2]
    exact cov_next ⟨p, hp⟩ ⟨k.toNat, by omega⟩ hc (by show k.toNat + lowN k.toNat ≤ 24; omega)
  · rw [getD_set _ _ _ _ (by rw [H.len]; exact hj)]
    by_cases hjk : k.toNat = j
    · subst hjk
      rw [if_pos rfl, H.cell _ hj, if_neg (by omega), if_pos ⟨hc, by omega⟩, Int.add_zero]
    · rw [if_neg hjk, H.cell _ hj]
      congr 1
      by_cases hjl : (j : Int) < k
      · by_cases hcj : Cov p j
        · rw [if_pos ⟨hcj, hjl⟩, if_pos ⟨hcj, by omega⟩]
        · rw [if_neg (fun h => hcj h.1), if_neg (fun h => hcj h.1)]
      · rw [if_neg (fun h => hjl h.2)]
        symm
        apply if_neg
        rintro ⟨hcj, hj2⟩
        exact cov_gap ⟨p, hp⟩ ⟨k.toNat, by omega⟩ hc ⟨j, by omega⟩ (show k.toNat < j by omega) (show j < k.toNat + lowN k.toNat by omega) hcj
theorem psum_set (rs : List Int) (p : Nat) (x : Int) (hp : p < rs.length) : ∀ k, psum (rs.set p x) k = psum rs k + if p < k then x - rs.getD p 0 else 0 := by
  induction rs generalizing p with
  | nil => simp at hp
  | cons a r ih =>
    intro k
    cases k with
    | zero => simp [psum]
    | succ k =>
      cases p with
      | zero => simp [psum]; omega
      | succ p =>
        have h := ih p (by simpa using hp) k
        simp only [psum, List.set_cons_succ, List.take_succ_cons, List.sum_cons, List.getD_cons_succ] at h ⊢
        rw [h]
        by_cases h2 : p < k
        · rw [if_pos h2, if_pos (by omega)]; omega
        · rw [if_neg h2, if_neg (by omega)]; omega
theorem ginv_end {rs ns0 ns : List Int} {p : Nat} {b k : Int} (hf : Fen rs ns0) (hp : p < rs.length) (H : GInv ns0 ns p b k) (hk : ¬ k < ns0.length) : Fen (rs.set p (rs.getD p 0 + b)) ns := by
  have hs := hf.small
  have hl := hf.len
  refine ⟨by simpa using hs, by simp [H.len, hl], fun j h1 h2 => ?_⟩
  rw [List.length_set] at h2
  rw [H.cell j (by omega), hf.cell j h1 h2, psum_set _ _ _ hp, psum_set _ _ _ hp]
  obtain ⟨_, e, l1, l2, _⟩ := low_of (k := (j : Int)) (by omega) (by omega)
  simp only [Int.toNat_natCast] at l1 l2
  by_cases hc : Cov p j
  · have hc' := hc
    unfold Cov at hc'
    rw [if_pos ⟨hc, by omega⟩, if_pos hc'.2, if_neg (by omega)]; omega
  · rw [if_neg (fun h => hc h.1)]
    unfold Cov at hc
    by_cases h3 : p < j
    · rw [if_pos h3, if_pos (by omega)]; omega
    · rw [if_neg h3, if_neg (by omega)]; omega
end
end Mine
namespace Mine
section
/-- a def that changes the ints of one list of its caller's and hands back True -/
abbrev ClG (D : Nat) (w : World) (K : Frag) (f : Addr) (t : Addr) (o : Obj) (vs : List Value) (P : List Int → Prop) : Prop :=
  ∀ (p : Program) (loose : List Str) (mean : ExcName → Option Value) (mg mb : Str → Option Value) (news : List (Addr × Obj)) (newsF : List Value → Nat → List (Addr × Obj)) (dp un : Nat) (gd : Option (List Code)) (cn : Str) (cs : Scope) (a : Addr) (ccd : Value) (cl : List (Str × Addr)) (outer : List Env) (A₀ : Around) (base h₀ : Heap) (L : Addr) (m : Str → Option Value) (s : Shared) (Q E : Value → Shared → Prop),
    Below A₀ base outer h₀ → Fr h₀ L s.heap m → K.In h₀ → News h₀ L s.heap news → Top p loose mean mg mb h₀ → cs.kind = .function →
    dp + D < recursionLimit → un + 10 * D < cLine → (∀ us' c', Upd t o (listOf us'.toArray c') news (newsF us' c')) →
    (∀ (us' : List Value) (ns' : List Int) (c' : Nat) (h' : Heap) (tk' : Nat), Fr h₀ L h' m → News h₀ L h' (newsF us' c') → IntsAre us' ns' → P ns' → Q (.bool true) { s with heap := h', toks := tk' }) →
      wpAny (model PySem.Challenge.rw_fd5006_02.row.prog w) (ktrTop dp un gd cn cs L a ccd cl outer) (call (.ref f) vs) Q E s
theorem news_app {h₀ h : Heap} {L t : Addr} {o : Obj} {pre post : List (Addr × Obj)} (V : News h₀ L h (pre ++ post)) (N : News h₀ L h [(t, o)]) : News h₀ L h (pre ++ (t, o) :: post) := fun q hq => by
  rcases List.mem_append.mp hq with h1 | h1
  · exact V q (List.mem_append_left _ h1)
  · rcases List.mem_cons.mp h1 with rfl | h1
    · exact N _ (.head _)
    · exact V q (List.mem_append_right _ h1)
theorem upd_same {t : Addr} {o : Obj} : ∀ {pre pre' post post' : List (Addr × Obj)}, pre ++ (t, o) :: post = pre' ++ (t, o) :: post' → (∀ q ∈ pre, q.1 ≠ t) → (∀ q ∈ pre', q.1 ≠ t) → pre = pre' ∧ post = post'
  | [], [], _, _, h, _, _ => ⟨rfl, by simpa using h⟩
  | [], x :: _, _, _, h, _, h2 => by
    simp only [List.nil_append, List.cons_append, List.cons.injEq] at h
    exact absurd (congrArg (·.1) h.1).symm (h2 x (.head _))
  | x :: _, [], _, _, h, h1, _ => by
    simp only [List.nil_append, List.cons_append, List.cons.injEq] at h
    exact absurd (congrArg (·.1) h.1) (h1 x (.head _))
  | x :: p, y :: p', _, _, h, h1, h2 => by
    simp only [List.cons_append, List.cons.injEq] at h
    obtain ⟨a, b⟩ := upd_same h.2 (fun q hq => h1 q (.tail _ hq)) (fun q hq => h2 q (.tail _ hq))
    exact ⟨by rw [h.1, a], b⟩
theorem ginv_start' {rs ns0 : List Int} (hf : Fen rs ns0) {p : Int} (h0 : 0 ≤ p) (hp : p < 24) (b : Int) : ns0.length = rs.length + 1 ∧ 1 ≤ p + 1 ∧ GInv ns0 ns0 p.toNat b (p + 1) := by
  have h := ginv_start ns0 (p := p.toNat) (by omega) b
  rw [show ((p.toNat : Nat) : Int) = p by omega] at h
  exact ⟨hf.len, by omega, h⟩
theorem ginv_turn' {rs ns0 ns : List Int} (hf : Fen rs ns0) {p : Nat} {b k : Int} (hp : p < 24) (H : GInv ns0 ns p b k) (hk : k < ns.length) :
    (ns.set k.toNat (ns.getD k.toNat 0 + b)).length = rs.length + 1 ∧ 1 ≤ k + lowF k ∧ GInv ns0 (ns.set k.toNat (ns.getD k.toNat 0 + b)) p b (k + lowF k) := by
  have hl := hf.len
  have hs := hf.small
  have hl2 := H.len
  have h := ginv_turn (by omega) hp H (by omega)
  exact ⟨by rw [List.length_set]; omega, h.pos, h⟩
theorem grow_less {k : Int} (h1 : 1 ≤ k) (hk : k ≤ 24) : (25 - (k + lowF k)).toNat < (25 - k).toNat := by
  obtain ⟨_, e, l1, l2, _⟩ := low_of (k := k) (by omega) (by omega)
  omega
local macro_rules | `(tactic| walk_at "call ref") => `(tactic| (k_here; first
  | (refine' Cl.use (low_call _ _ _) ?k1 ?k2 ?k3 ?k4 ?k5 ?kK ?kd ?ku ?kp ?_; (case k1 => k_asm); (case k2 => k_asm); (case k3 => k_asm); (case k4 => k_asm); (case k5 => k_asm); (case kK => first | exact rfl | assumption); (case kd => ktr_room); (case ku => ktr_units); (case kp => exact (low_of (by omega) (by omega)).1); intro t9 h9 tk9 F9 N9; (try dsimp only); (try k_fold))))
set_option maxRecDepth 100000 in
set_option maxHeartbeats 8000000 in
theorem grow_call (w : World) (t : Addr) (us : List Value) (c : Nat) (rs ns : List Int) (place b : Int) (tk tk2 : Tok) (hi : IntsAre us ns) (hf : Fen rs ns) (hm : 0 ≤ place) (hm2 : place < rs.length) :
    ClG 5 w (hd.heap_39 w.params) 42 t (listOf us.toArray c) [.ref t, .int place tk, .int b tk2] (fun ns' => Fen (rs.set place.toNat (rs.getD place.toNat 0 + b)) ns') := by
  dsimp only [ClG]
  k_fill
  intro p loose mean mg mb news newsF dp un gd cn cs a ccd cl outer A₀ base h₀ L m s Q E B F X N T hk hdp hun hU hret
  have h24 := hf.small
  have hlen := hf.len
  obtain ⟨pre, post, hn, -, hpre, hpost⟩ := (hU us c).split
  have hN2 : ∀ us' c', newsF us' c' = pre ++ (t, listOf us'.toArray c') :: post := by
    intro us' c'
    obtain ⟨pre', post', e1, e2, h1, h2⟩ := (hU us' c').split
    obtain ⟨rfl, rfl⟩ := upd_same (hn.symm.trans e1) hpre h1
    exact e2
  rw [hn] at N
  have NV : News h₀ L s.heap (pre ++ post) := fun q hq => N q (by rcases List.mem_append.mp hq with h | h; exact List.mem_append_left _ h; exact List.mem_append_right _ (.tail _ h))
  have NH : News h₀ L s.heap [(t, listOf us.toArray c)] := fun q hq => N q (by rw [List.mem_singleton.mp hq]; simp)
  have hvh : ∀ q ∈ pre ++ post, q.1 ∉ [(t, listOf us.toArray c)].map (·.1) := fun q hq h => by
    rcases List.mem_append.mp hq with h1 | h1
    · exact hpre q h1 (List.mem_singleton.mp h)
    · exact hpost q h1 (List.mem_singleton.mp h)
  refine wpAny_call ?_
  k_dflt (refine' code_vis (vis := pre ++ post) (hid := [(t, listOf us.toArray c)]) ?k1 ?k2 ?k3 ?k5 NV NH hvh ?kA ?kF ?kK ?k6 ?k7 ?k8 ?k9 ?kB ?_ ?c2 ?c3 ?c4 ?c5; (case kA => exact rfl); (case kF => exact rfl); (case kK => assumption); (case k1 => k_asm); (case k2 => k_asm); (case k3 => k_asm); (case k5 => k_asm); (case k6 => k_is); (case k7 => k_is); (case k8 => ktr_room); (case k9 => exact BindsTo.of_eq rfl); (case c5 => decide); (case kB => exact locs rfl); (case c2 => exact rfl); (case c3 => exact rfl); (case c4 => exact rfl); k_whole; intro g' L' h' FG' hvis F' N' B' X' T'; (try dsimp only); (try k_lift B'); (try k_fold))
  clear hvis NV NH N hvh
  k_with_none
  k_with "exec While Compare cons nil" => k_while (fun _ k tree => tree.length = rs.length + 1 ∧ 1 ≤ k ∧ GInv ns tree place.toNat b k) (fun _ k _ => (25 - k).toNat) "k" "tree"
  k_with "state" => first | exact ginv_start' hf hm (by omega) b | exact ginv_turn' hf (by omega) (by assumption) (by omega)
  k_with "measure" => exact grow_less (by omega) (by omega)
  k_steps
  · exact absurd (by assumption) (low_pos (by omega) (by omega))
  · have hQ := ginv_end (p := place.toNat) (b := b) hf (by omega) (by assumption) (by omega)
    rename_i kF _ _ _ kV
    have kV2 := news_app kV (by assumption)
    rw [← hN2] at kV2
    exact hret _ _ _ _ _ (by assumption) kV2 (by assumption) hQ
end
end Mine
namespace Mine
section
/-- how many places' sums stay below the number -/
def below (rs : List Int) (number : Int) : Nat := (List.range rs.length).countP fun i => decide (psum rs (i + 1) < number)
theorem countP_down (p : Nat → Bool) (n : Nat) (h : ∀ i, i + 1 < n → p (i + 1) = true → p i = true) : ∀ i, i < n → (p i = true ↔ i < (List.range n).countP p) := by
  induction n with
  | zero => intro i hi; omega
  | succ n ih =>
    have ih := ih (fun i hi => h i (by omega))
    have hle : (List.range n).countP p ≤ n := by simpa using List.countP_le_length (p := p) (l := List.range n)
    rw [List.range_succ, List.countP_append]
    intro i hi
    cases hp : p n with
    | true =>
      have all : ∀ j, j ≤ n → p j = true := by
        intro j hj
        obtain ⟨d, rfl⟩ : ∃ d, n = j + d := ⟨n - j, by omega⟩
        have : ∀ e, e ≤ d → p (j + d - e) = true := by
          intro e
          induction e with
          | zero => intro _; simpa using hp
          | succ e ihe =>
            intro he
            have h1 := ihe (by omega)
            have e2 : j + d - e = (j + d - (e + 1)) + 1 := by omega
            rw [e2] at h1
            exact h _ (by omega) h1
        simpa using this d (Nat.le_refl _)
      have hc : (List.range n).countP p = n := by
        have : (List.range n).countP p = (List.range n).length := List.countP_eq_length.mpr fun j hj => all j (by have := List.mem_range.mp hj; omega)
        simpa using this
      simp [hp, hc, all i (by omega), hi]
    | false =>
      simp only [List.countP_cons, List.countP_nil, hp, Bool.false_eq_true, if_false, Nat.add_zero]
      by_cases hin : i < n
      · exact ih i hin
      · have : i = n := by omega
        subst this
        rw [hp]; constructor
        · intro h; cases h
        · intro h; omega
theorem psum_succ (rs : List Int) (k : Nat) : psum rs (k + 1) = psum rs k + rs.getD k 0 := by
  induction rs generalizing k with
  | nil => simp [psum]
  | cons a r ih =>
    cases k with
    | zero => simp [psum]
    | succ k =>
      have := ih k
      simp only [psum, List.take_succ_cons, List.sum_cons, List.getD_cons_succ] at this ⊢
      omega
theorem getD_nonneg {rs : List Int} (h : ∀ r ∈ rs, 0 ≤ r) (k : Nat) : 0 ≤ rs.getD k 0 := by
  rw [List.getD_eq_getElem?_getD]
  cases e : rs[k]? with
  | none => simp
  | some x => exact h x (List.mem_of_getElem? e)
theorem psum_mono {rs : List Int} (h : ∀ r ∈ rs, 0 ≤ r) (k : Nat) : psum rs k ≤ psum rs (k + 1) := by
  rw [psum_succ]; have := getD_nonneg h k; omega
theorem below_iff {rs : List Int} (h : ∀ r ∈ rs, 0 ≤ r) (number : Int) {k : Nat} (h1 : 1 ≤ k) (h2 : k ≤ rs.length) : psum rs k < number ↔ k ≤ below rs number := by
  have := countP_down (fun i => decide (psum rs (i + 1) < number)) rs.length (fun i _ hp => by
    simp only [decide_eq_true_eq] at hp ⊢
    have := psum_mono h (i + 1); omega) (k - 1) (by omega)
  simp only [decide_eq_true_eq] at this
  rw [show k - 1 + 1 = k by omega] at this
  unfold below
  rw [this]; omega
theorem below_le (rs : List Int) (number : Int) : below rs number ≤ rs.length := by
  simpa [below] using List.countP_le_length (p := fun i => decide (psum rs (i + 1) < number)) (l := List.range rs.length)
theorem low_pow : ∀ k : Fin 25, ∀ b : Fin 5, ∀ p : Fin 25, p.val % 2 ^ (b.val + 1) = 0 → p.val + 2 ^ b.val = k.val → lowN k.val = 2 ^ b.val := by decide +kernel
theorem high_small : ∀ n : Fin 25, 1 ≤ n.val → 0 ≤ highF (n.val : Int) ∧ highF (n.val : Int) ≤ 4 ∧ n.val < 2 ^ (highF (n.val : Int) + 1).toNat := by decide +kernel
/-- between the bits: b + 1 bits are still to be tried -/
structure SInv (rs : List Int) (number : Int) (place left b : Int) : Prop where
  lo : 0 ≤ place
  le : place.toNat ≤ below rs number
  hi : below rs number < place.toNat + 2 ^ (b + 1).toNat
  dv : place.toNat % 2 ^ (b + 1).toNat = 0
  left : left = number - psum rs place.toNat
theorem sinv_start {rs : List Int} (hs : rs.length ≤ 24) (h1 : 1 ≤ rs.length) (number : Int) : SInv rs number 0 number (highF (rs.length : Int)) := by
  obtain ⟨a, b, c⟩ := high_small ⟨rs.length, by omega⟩ h1
  simp only at a b c
  have := below_le rs number
  exact ⟨Int.le_refl _, Nat.zero_le _, by simp only [Int.toNat_zero, Nat.zero_add]; omega, by simp, by simp [psum]⟩
theorem sinv_yes {rs ns : List Int} (hf : Fen rs ns) (hn : ∀ r ∈ rs, 0 ≤ r) {number place left b : Int} (h0 : 0 ≤ b) (h4 : b ≤ 4) (H : SInv rs number place left b) (hk : place + 2 ^ b.toNat < ns.length)
    (ht : ns.getD (place + 2 ^ b.toNat).toNat 0 < left) : SInv rs number (place + 2 ^ b.toNat) (left - ns.getD (place + 2 ^ b.toNat).toNat 0) (b - 1) := by
  have hs := hf.small
  have hl := hf.len
  have h1 := H.lo
  obtain ⟨B, rfl⟩ : ∃ B : Nat, b = B := ⟨b.toNat, by omega⟩
  obtain ⟨p, rfl⟩ : ∃ p : Nat, place = p := ⟨place.toNat, by omega⟩
  have e0 : (2 ^ (B : Int).toNat : Int) = ((2 ^ B : Nat) : Int) := by simp
  have hp2 : 0 < 2 ^ B := Nat.pow_pos (by omega)
  have ek : ((p : Int) + 2 ^ (B : Int).toNat).toNat = p + 2 ^ B := by rw [e0]; omega
  have e1 : ((B : Int) + 1).toNat = B + 1 := by omega
  have e2 : ((B : Int) - 1 + 1).toNat = B := by omega
  have hd := H.dv
  have hle := H.le
  have hhi := H.hi
  have hleft := H.left
  rw [e1] at hd hhi
  rw [e0] at hk
  simp only [Int.toNat_natCast] at hd hle hhi hleft
  have hlow := low_pow ⟨p + 2 ^ B, by omega⟩ ⟨B, by omega⟩ ⟨p, by omega⟩ hd rfl
  simp only at hlow
  have hc := hf.cell (p + 2 ^ B) (by omega) (by omega)
  rw [hlow, Nat.add_sub_cancel] at hc
  rw [ek, hc] at ht ⊢
  have hb := (below_iff hn number (k := p + 2 ^ B) (by omega) (by omega)).mp (by omega)
  refine ⟨by rw [e0]; omega, by rw [ek]; exact hb, ?_, ?_, ?_⟩
  · rw [ek, e2]; rw [Nat.pow_succ] at hhi; omega
  · rw [ek, e2, Nat.add_mod_right]
    rw [Nat.pow_succ] at hd
    exact Nat.mod_eq_zero_of_dvd (Nat.dvd_trans (Nat.dvd_mul_right _ 2) (Nat.dvd_of_mod_eq_zero hd))
  · rw [ek]; omega
theorem sinv_no {rs ns : List Int} (hf : Fen rs ns) (hn : ∀ r ∈ rs, 0 ≤ r) {number place left b : Int} (h0 : 0 ≤ b) (h4 : b ≤ 4) (H : SInv rs number place left b)
    (ht : ¬ (place + 2 ^ b.toNat < ns.length) ∨ ¬ ns.getD (place + 2 ^ b.toNat).toNat 0 < left) : SInv rs number place left (b - 1) := by
  have hs := hf.small
  have hl := hf.len
  have h1 := H.lo
  have hbl := below_le rs number
  obtain ⟨B, rfl⟩ : ∃ B : Nat, b = B := ⟨b.toNat, by omega⟩
  obtain ⟨p, rfl⟩ : ∃ p : Nat, place = p := ⟨place.toNat, by omega⟩
  have e0 : (2 ^ (B : Int).toNat : Int) = ((2 ^ B : Nat) : Int) := by simp
  have hp2 : 0 < 2 ^ B := Nat.pow_pos (by omega)
  have ek : ((p : Int) + 2 ^ (B : Int).toNat).toNat = p + 2 ^ B := by rw [e0]; omega
  have e1 : ((B : Int) + 1).toNat = B + 1 := by omega
  have e2 : ((B : Int) - 1 + 1).toNat = B := by omega
  have hd := H.dv
  have hle := H.le
  have hhi := H.hi
  have hleft := H.left
  rw [e1] at hd hhi
  simp only [Int.toNat_natCast] at hd hle hhi hleft
  refine ⟨h1, hle, ?_, ?_, hleft⟩
  · rw [e2]
    simp only [Int.toNat_natCast]
    by_cases hk : p + 2 ^ B < ns.length
    · have hk' : (p : Int) + 2 ^ (B : Int).toNat < ns.length := by rw [e0]; omega
      have ht := ht.resolve_left (fun h => h hk')
      have hlow := low_pow ⟨p + 2 ^ B, by omega⟩ ⟨B, by omega⟩ ⟨p, by omega⟩ hd rfl
      simp only at hlow
      have hc := hf.cell (p + 2 ^ B) (by omega) (by omega)
      rw [hlow, Nat.add_sub_cancel] at hc
      rw [ek, hc] at ht
      have hb := mt (below_iff hn number (k := p + 2 ^ B) (by omega) (by omega)).mpr (by omega)
      omega
    · omega
  · rw [e2]
    rw [Nat.pow_succ] at hd
    exact Nat.mod_eq_zero_of_dvd (Nat.dvd_trans (Nat.dvd_mul_right _ 2) (Nat.dvd_of_mod_eq_zero hd))
theorem sinv_end {rs : List Int} {number place left b : Int} (hb : b = -1) (H : SInv rs number place left b) : place = below rs number := by
  subst hb
  have h1 := H.lo
  have h2 := H.le
  have h3 := H.hi
  have e : ((-1 : Int) + 1).toNat = 0 := by omega
  rw [e] at h3
  omega
end
end Mine
namespace Mine
section
theorem high_tree {rs ns : List Int} (hf : Fen rs ns) (h1 : 1 ≤ rs.length) : 0 ≤ highF ((ns.length : Int) - 1) ∧ highF ((ns.length : Int) - 1) ≤ 4 := by
  have hs := hf.small
  have e : (ns.length : Int) - 1 = rs.length := by have := hf.len; omega
  obtain ⟨a, b, c⟩ := high_small ⟨rs.length, by omega⟩ h1
  simp only at a b
  rw [e]; exact ⟨a, b⟩
theorem so_start {rs ns : List Int} (hf : Fen rs ns) (h1 : 1 ≤ rs.length) (number : Int) :
    (0 : Int) ≤ 0 ∧ (0 : Int) ≤ 24 ∧ SInv rs number 0 number (highF ((ns.length : Int) - 1) - (([] : List Int).length : Int)) := by
  have e : (ns.length : Int) - 1 = rs.length := by have := hf.len; omega
  rw [e]
  refine ⟨by omega, by omega, ?_⟩
  have := sinv_start hf.small h1 number
  simpa using this
theorem so_yes {rs ns : List Int} (hf : Fen rs ns) (hn : ∀ r ∈ rs, 0 ≤ r) {number place left hi k : Int} {pre : List Int} (h4 : hi ≤ 4) (hk : k = hi - (pre.length : Int)) (h0 : pre.length < (hi - -1).toNat)
    (H : SInv rs number place left (hi - (pre.length : Int))) (h : place + 1 * 2 ^ k.toNat < ns.length) (ht : ns.getD (place + 1 * 2 ^ k.toNat).toNat 0 < left) :
    0 ≤ place + 1 * 2 ^ k.toNat ∧ place + 1 * 2 ^ k.toNat ≤ 24 ∧ SInv rs number (place + 1 * 2 ^ k.toNat) (left - ns.getD (place + 1 * 2 ^ k.toNat).toNat 0) (hi - ((pre ++ [k]).length : Int)) := by
  rw [← hk] at H
  rw [Int.one_mul] at h ht ⊢
  have r := sinv_yes hf hn (by omega) (by omega) H h ht
  have e : hi - ((pre ++ [k]).length : Int) = k - 1 := by simp; omega
  rw [e]
  have hl := hf.len
  have hs := hf.small
  exact ⟨r.lo, by omega, r⟩
theorem so_no {rs ns : List Int} (hf : Fen rs ns) (hn : ∀ r ∈ rs, 0 ≤ r) {number place left hi k : Int} {pre : List Int} (h4 : hi ≤ 4) (hk : k = hi - (pre.length : Int)) (h0 : pre.length < (hi - -1).toNat)
    (hp : place ≤ 24) (H : SInv rs number place left (hi - (pre.length : Int))) (ht : ¬ (place + 1 * 2 ^ k.toNat < ns.length) ∨ ¬ ns.getD (place + 1 * 2 ^ k.toNat).toNat 0 < left) :
    0 ≤ place ∧ place ≤ 24 ∧ SInv rs number place left (hi - ((pre ++ [k]).length : Int)) := by
  rw [← hk] at H
  rw [Int.one_mul] at ht
  have r := sinv_no hf hn (by omega) (by omega) H ht
  have e : hi - ((pre ++ [k]).length : Int) = k - 1 := by simp; omega
  rw [e]
  exact ⟨r.lo, hp, r⟩
theorem so_end {rs : List Int} {number place left hi : Int} (h0 : 0 ≤ hi) (H : SInv rs number place left (hi - ((downKs hi (hi - -1).toNat).length : Int))) : place = below rs number := by
  refine sinv_end ?_ H
  rw [downKs_length]; omega
theorem so_nonneg {place : Int} (h : 0 ≤ place) (n : Nat) : 0 ≤ place + 1 * 2 ^ n := by
  have : (0 : Int) < 2 ^ n := Int.pow_pos (by omega)
  omega
local macro_rules | `(tactic| walk_at "subscriptTail Name Name ref int") => `(tactic| ((with_reducible show wpAny _ _ (subscriptTail _ _ (Value.ref _) (Value.int _ _)) _ _ _); (with_unfolding_all refine' item_list_ints ?k1 ?k2 ?k3 ?k4 ?k5 ?_; (case k1 => is_list); (case k2 => l_ints); (case k3 => exact so_nonneg (by assumption) _); (case k4 => omega); (case k5 => omega); k_whole); intro _))
local macro_rules | `(tactic| walk_at "call ref") => `(tactic| (k_here; first
  | (refine' Cl.use (high_call _ _ _) ?k1 ?k2 ?k3 ?k4 ?k5 ?kK ?kd ?ku ?kp ?_; (case k1 => k_asm); (case k2 => k_asm); (case k3 => k_asm); (case k4 => k_asm); (case k5 => k_asm); (case kK => first | exact rfl | assumption); (case kd => ktr_room); (case ku => ktr_units); (case kp => trivial); intro t9 h9 tk9 F9 N9; (try dsimp only); (try k_fold))))
set_option maxRecDepth 100000 in
set_option maxHeartbeats 8000000 in
theorem sought_call (w : World) (t : Addr) (us : List Value) (c : Nat) (rs ns : List Int) (number : Int) (tk : Tok) (hi : IntsAre us ns) (hf : Fen rs ns) (hn : ∀ r ∈ rs, 0 ≤ r) (h1 : 1 ≤ rs.length) :
    ClV 5 w (hd.heap_39 w.params) 56 t (listOf us.toArray c) [.ref t, .int number tk] (fun t => .int (below rs number) t) := by
  dsimp only [ClV, CbRet]
  k_fill
  intro p loose mean mg mb news dp un gd cn cs a ccd cl outer A₀ base h₀ L m s Q E B F X N T hk hdp hun hmem hret
  have h24 := hf.small
  have hlen := hf.len
  obtain ⟨hh0, hh4⟩ := high_tree hf h1
  refine wpAny_call ?_
  k_dflt (refine' code_vis (vis := news) (hid := []) ?k1 ?k2 ?k3 ?k5 ?k4 ?kh ?kvh ?kA ?kF ?kK ?k6 ?k7 ?k8 ?k9 ?kB ?_ ?c2 ?c3 ?c4 ?c5; (case kA => exact rfl); (case kF => exact rfl); (case kK => assumption); (case k1 => k_asm); (case k2 => k_asm); (case k3 => k_asm); (case k4 => k_asm); (case kh => exact News.nil); (case kvh => exact fun _ _ h => nomatch h); (case k5 => k_asm); (case k6 => k_is); (case k7 => k_is); (case k8 => ktr_room); (case k9 => exact BindsTo.of_eq rfl); (case c5 => decide); (case kB => exact locs rfl); (case c2 => exact rfl); (case c3 => exact rfl); (case c4 => exact rfl); k_whole; intro g' L' h' FG' hvis F' N' B' X' T'; (try dsimp only); (try k_lift B'); (try k_fold))
  have hl : g'.IsList t us.toArray := ⟨_, hvis _ hmem, rfl, c, rfl⟩
  clear hvis
  k_with_none
  k_with "pyIter ref" => k_state (fun pre place left => 0 ≤ place ∧ place ≤ 24 ∧ SInv rs number place left (highF ((ns.length : Int) - 1) - (pre.length : Int))) "place" "left"
  k_with "state" => first | exact so_start hf h1 number | exact so_yes hf hn hh4 (by assumption) (by assumption) (by assumption) (by assumption) (by assumption) | exact so_no hf hn hh4 (by assumption) (by assumption) (by assumption) (by assumption) (by first | exact .inl (by assumption) | exact .inr (by assumption))
  k_steps
  · refine cb_retI hret ?_ (by assumption) (by assumption)
    exact so_end hh0 (by assumption)
end
end Mine
namespace Mine
section
theorem due_fold (rs : List Int) (number : Int) (ks acc : List Int) :
    ks.foldl (fun l' k' => if (rs.take k'.toNat).length = min k'.toNat rs.length ∧ (rs.take k'.toNat).length ≤ rs.length ∧ (rs.take k'.toNat).sum < number then l' ++ [k']
      else if (rs.take k'.toNat).length = min k'.toNat rs.length ∧ (rs.take k'.toNat).length ≤ rs.length ∧ ¬ (rs.take k'.toNat).sum < number then l' else l') acc
      = acc ++ ks.filter fun k => decide (psum rs k.toNat < number) := by
  induction ks generalizing acc with
  | nil => simp
  | cons k r ih =>
    rw [List.foldl_cons, ih, List.filter_cons]
    have h1 : (rs.take k.toNat).length = min k.toNat rs.length := List.length_take ..
    have h2 : (rs.take k.toNat).length ≤ rs.length := by rw [h1]; omega
    by_cases h : (rs.take k.toNat).sum < number
    · rw [if_pos ⟨h1, h2, h⟩, if_pos (by rw [decide_eq_true_eq]; exact h)]; simp
    · rw [if_neg (fun x => h x.2.2), if_pos ⟨h1, h2, h⟩, if_neg (by rw [decide_eq_true_eq]; exact h)]
theorem due_len {rs : List Int} {n : Nat} (hn : rs.length = n) (number : Int) :
    ((rangeKs 1 n).foldl (fun l' k' => if (rs.take k'.toNat).length = min k'.toNat rs.length ∧ (rs.take k'.toNat).length ≤ rs.length ∧ (rs.take k'.toNat).sum < number then l' ++ [k']
      else if (rs.take k'.toNat).length = min k'.toNat rs.length ∧ (rs.take k'.toNat).length ≤ rs.length ∧ ¬ (rs.take k'.toNat).sum < number then l' else l') []).length = below rs number := by
  rw [due_fold, List.nil_append, ← List.countP_eq_length_filter]
  unfold rangeKs below
  rw [List.countP_map, hn]
  congr 1
  funext i
  simp only [Function.comp]
  rw [show ((1 : Int) + (i : Int)).toNat = i + 1 by omega]
theorem psum_run {rs : List Int} {a b : Nat} (h1 : a ≤ b) (h2 : b ≤ rs.length) : ((rs.drop a).take (min b rs.length - a)).sum = psum rs b - psum rs a := by
  rw [Nat.min_eq_left h2]
  unfold psum
  have e : rs.take b = rs.take a ++ (rs.drop a).take (b - a) := by
    rw [← List.take_append_drop a (rs.take b), List.take_take, Nat.min_eq_left h1, List.drop_take]
  rw [e, List.sum_append]; omega
theorem psum_all (rs : List Int) {k : Nat} (h : k = rs.length) : psum rs k = rs.sum := by
  subst h; simp [psum]
/-- what the last loop asks of a place -/
theorem last_turn {rs ns : List Int} (H : Fen rs ns) {k : Int} (h1 : 1 ≤ k) (h2 : k ≤ rs.length) :
    0 < lowF k ∧ lowF k ≤ k ∧ k.fmod (lowF k) = 0 ∧ k.fmod (2 * lowF k) ≠ 0 ∧ ns.getD k.toNat 0 = ((rs.drop (k - lowF k).toNat).take (min k.toNat rs.length - (k - lowF k).toNat)).sum := by
  have hs := H.small
  obtain ⟨_, e, l1, l2, l3, l4⟩ := low_of (k := k) (by omega) (by omega)
  obtain ⟨K, rfl⟩ : ∃ K : Nat, k = K := ⟨k.toNat, by omega⟩
  simp only [Int.toNat_natCast] at e l1 l2 l3 l4
  rw [e]
  refine ⟨by omega, by omega, ?_, ?_, ?_⟩
  · rw [Int.fmod_eq_emod_of_nonneg _ (by omega)]; omega
  · rw [Int.fmod_eq_emod_of_nonneg _ (by omega), show (2 * (lowN K : Int)) = ((2 * lowN K : Nat) : Int) by omega, ← Int.natCast_emod]
    omega
  · have hc := H.cell K (by omega) (by omega)
    rw [show ((K : Int) - (lowN K : Int)).toNat = K - lowN K by omega, Int.toNat_natCast, psum_run (by omega) (by omega), hc]
end
end Mine
namespace Mine
section
theorem kstB_known {m₁ : Str → Option Value} {ps : List (Str × Value)} (h1 : ∀ p ∈ ps, m₁ p.1 = some p.2) : kstB m₁ ps = m₁ :=
  funext fun _ => kstB_eq h1 fun _ => rfl
/-- what the law's first loop keeps -/
def LawJ (T0 T1 R0 R1 Cn Cr : Addr) (o1 o2 orr : Obj) (n : Nat) (ps : List (Str × Value)) (m : Str → Option Value) (nx : List (Addr × Obj)) : Prop :=
  ∃ (us : List Value) (ts : List Int) (c : Nat) (vs : List Value) (rs : List Int) (d : Nat) (on : Obj),
    nx = [(T0, listOf us.toArray c), (T1, o1), (R0, listOf vs.toArray d), (R1, o2), (Cn, on), (Cr, orr)] ∧ IntsAre us ts ∧ IntsAre vs rs ∧ Fen rs ts ∧ (∀ r ∈ rs, 0 ≤ r) ∧ rs.length = n ∧ (∃ v, on.data = .cell v) ∧ (∀ p ∈ ps, m p.1 = some p.2)
section
variable {prog : Program} {w : World} {A : Around} {E : Value → Shared → Prop} {s : Shared} {env : Env} {h₀ : Heap} {x : Str} {body : List Stmt} {Q : Flow → Shared → Prop}
theorem law_iter {l : Addr} {xs : List Value} {ns : List Int} {m₀ : Str → Option Value} {T0 T1 R0 R1 Cn Cr : Addr} {o1 o2 on orr : Obj} {us vs : List Value} {ts rs : List Int} {c d n : Nat} (ps : List (Str × Value))
    (hh : A.handled = none) (hl : h₀.IsList l xs.toArray) (hi : IntsAre xs ns) (F : Fr h₀ env.locals s.heap m₀)
    (N : News h₀ env.locals s.heap [(T0, listOf us.toArray c), (T1, o1), (R0, listOf vs.toArray d), (R1, o2), (Cn, on), (Cr, orr)])
    (h1 : IntsAre us ts) (h2 : IntsAre vs rs) (h3 : Fen rs ts) (h4 : ∀ r ∈ rs, 0 ≤ r) (h5 : rs.length = n) (h6 : ∃ v, on.data = .cell v) (h7 : ∀ p ∈ ps, m₀ p.1 = some p.2)
    (turn : ∀ us ts c vs rs d on k t (u : Str → Option Value) h tk own, k ∈ ns → IntsAre us ts → IntsAre vs rs → Fen rs ts → (∀ r ∈ rs, 0 ≤ r) → rs.length = n → ts.length = n + 1 → (∃ v, on.data = .cell v) → OwnOff own [T0, T1, R0, R1, Cn, Cr] →
      Fr h₀ env.locals h (fun y => if y = x then some (.int k t) else kstB u ps y) → News h₀ env.locals h ((T0, listOf us.toArray c) :: (T1, o1) :: (R0, listOf vs.toArray d) :: (R1, o2) :: (Cn, on) :: (Cr, orr) :: own) →
      wpAny (model prog w) A (execs body env) (InvPostN h₀ env.locals (LawJ T0 T1 R0 R1 Cn Cr o1 o2 orr n ps) own [T0, T1, R0, R1, Cn, Cr] { s with heap := h, toks := tk } Q) E { s with heap := h, toks := tk })
    (done : ∀ us ts c vs rs d on (u : Str → Option Value) h tk, IntsAre us ts → IntsAre vs rs → Fen rs ts → (∀ r ∈ rs, 0 ≤ r) → rs.length = n → ts.length = n + 1 → (∃ v, on.data = .cell v) →
      Fr h₀ env.locals h (kstB u ps) → News h₀ env.locals h [(T0, listOf us.toArray c), (T1, o1), (R0, listOf vs.toArray d), (R1, o2), (Cn, on), (Cr, orr)] → Q .next { s with heap := h, toks := tk }) :
    wpAny (model prog w) A (pyIter (.ref l)) (fun it s₂ => LoopAtV prog w A h₀ env x body Q E it s₂) E s := by
  refine iter_invN (fun _ m nx => LawJ T0 T1 R0 R1 Cn Cr o1 o2 orr n ps m nx) hh hl hi F N ⟨us, ts, c, vs, rs, d, on, rfl, h1, h2, h3, h4, h5, h6, h7⟩ ?_ ?_
  · rintro i k t m₁ nx h tk own hk _ hoff ⟨us, ts, c, vs, rs, d, on, rfl, g1, g2, g3, g4, g5, g6, g7⟩ F₁ N₁
    rw [← kstB_known g7] at F₁
    exact turn us ts c vs rs d on k t m₁ h tk own (List.mem_of_getElem? hk) g1 g2 g3 g4 g5 (by have := g3.len; omega) g6 hoff F₁ N₁
  · rintro m₁ nx h tk ⟨us, ts, c, vs, rs, d, on, rfl, g1, g2, g3, g4, g5, g6, g7⟩ F₁ N₁
    rw [← kstB_known g7] at F₁
    exact done us ts c vs rs d on m₁ h tk g1 g2 g3 g4 g5 (by have := g3.len; omega) g6 F₁ N₁
end
theorem flat_rep (n : Nat) (x : Int) : (List.replicate n [x]).flatten = List.replicate n x := by
  induction n with
  | zero => rfl
  | succ n ih => simp [List.replicate_succ, ih]
theorem psum_zero (n k : Nat) : psum (List.replicate n 0) k = 0 := by
  simp only [psum, List.take_replicate]
  induction min k n with
  | zero => rfl
  | succ n ih => simp [List.replicate_succ, ih]
theorem fen_zero {n m : Nat} (h : n ≤ 24) (hm : m = n + 1) : Fen (List.replicate n [0]).flatten (List.replicate m [0]).flatten := by
  subst hm
  rw [flat_rep, flat_rep]
  refine ⟨by simpa using h, by simp, fun k h1 h2 => ?_⟩
  rw [psum_zero, psum_zero, List.getD_eq_getElem?_getD, List.getElem?_replicate]
  split <;> rfl
theorem nn_zero (n : Nat) : ∀ r ∈ (List.replicate n [(0 : Int)]).flatten, 0 ≤ r := by
  rw [flat_rep]; intro r hr; rw [(List.mem_replicate.mp hr).2]; omega
theorem many_small (k : Int) : 1 ≤ 1 + k.fmod 24 ∧ 1 + k.fmod 24 ≤ 24 := by
  have := Int.fmod_nonneg_of_pos k (b := 24) (by omega)
  have := Int.fmod_lt_of_pos k (b := 24) (by omega)
  omega
theorem fen_law (k : Int) : Fen (List.replicate (1 + k.fmod 24).toNat [0]).flatten (List.replicate (1 + k.fmod 24 + 1).toNat [0]).flatten :=
  fen_zero (by have := many_small k; omega) (by have := many_small k; omega)
theorem len_law (k : Int) : (List.replicate (1 + k.fmod 24).toNat [(0 : Int)]).flatten.length = (1 + k.fmod 24).toNat := by
  rw [flat_rep, List.length_replicate]
theorem many_law {rs : List Int} {k : Int} (h : rs.length = (1 + k.fmod 24).toNat) : 1 ≤ 1 + k.fmod 24 ∧ 1 + k.fmod 24 ≤ 24 ∧ (rs.length : Int) = 1 + k.fmod 24 ∧ ∀ x : Int, 0 ≤ x.fmod (1 + k.fmod 24) ∧ x.fmod (1 + k.fmod 24) < rs.length := by
  have := many_small k
  refine ⟨by omega, by omega, by omega, fun x => ⟨fmod_lo _ (by omega), ?_⟩⟩
  rw [show (rs.length : Int) = 1 + k.fmod 24 by omega]
  exact fmod_hi _ (by omega)
theorem len_cast {rs : List Int} {k : Int} (h : rs.length = (1 + k.fmod 24).toNat) : rs.length = (1 + k.fmod 24 + 1 - 1).toNat :=
  h.trans (congrArg Int.toNat (by omega))
theorem law_end {h₀ : Heap} {L : Addr} {m' : Str → Option Value} {own news' : List (Addr × Obj)} {s₁ : Shared} {h' : Heap} {tk : Nat} {T0 T1 R0 R1 Cn Cr : Addr} {o1 o2 on orr : Obj} {us vs : List Value} {ts rs : List Int} {c d n : Nat} {ps : List (Str × Value)}
    (F : Fr h₀ L h' m') (N : News h₀ L h' news') (hs : ∀ q ∈ [(T0, listOf us.toArray c), (T1, o1), (R0, listOf vs.toArray d), (R1, o2), (Cn, on), (Cr, orr)], q ∈ news') (ho : ∀ q ∈ own, q ∈ news')
    (g1 : IntsAre us ts) (g2 : IntsAre vs rs) (g3 : Fen rs ts) (g4 : ∀ r ∈ rs, 0 ≤ r) (g5 : rs.length = n) (g6 : ∃ v, on.data = .cell v) (g7 : ∀ p ∈ ps, m' p.1 = some p.2) :
    InvEndN h₀ L (LawJ T0 T1 R0 R1 Cn Cr o1 o2 orr n ps) own [T0, T1, R0, R1, Cn, Cr] s₁ { s₁ with heap := h', toks := tk } :=
  InvEndN.intro F N ⟨us, ts, c, vs, rs, d, on, rfl, g1, g2, g3, g4, g5, g6, g7⟩ rfl hs ho
theorem fen_sub {rs ns : List Int} {p : Nat} {x y : Int} (h : Fen (rs.set p (x + -y)) ns) : Fen (rs.set p (x - y)) ns := h
theorem nn_set {rs : List Int} (h : ∀ r ∈ rs, 0 ≤ r) (p : Nat) {x : Int} (hx : 0 ≤ x) : ∀ r ∈ rs.set p x, 0 ≤ r := fun r hr => by
  rcases List.mem_or_eq_of_mem_set hr with h1 | h1
  · exact h r h1
  · rw [h1]; exact hx
theorem nn_add {rs : List Int} (h : ∀ r ∈ rs, 0 ≤ r) (p q : Nat) (k : Int) : ∀ r ∈ rs.set p (rs.getD q 0 + if k < 0 then -k else k), 0 ≤ r :=
  nn_set h p (by have := getD_nonneg h q; split <;> omega)
theorem nn_sub {rs : List Int} (h : ∀ r ∈ rs, 0 ≤ r) (p q : Nat) : ∀ r ∈ rs.set p (rs.getD q 0 - (rs.getD q 0 - (rs.getD q 0).fdiv 3)), 0 ≤ r :=
  nn_set h p (by
    have h1 := getD_nonneg h q
    rw [Int.fdiv_eq_ediv_of_nonneg _ (by omega)]
    omega)
theorem ce_yes {h₀ : Heap} {L I C D : Addr} {m : Str → Option Value} {s₁ : Shared} {oI oC oD : Obj} {y : Value} {h' : Heap} {tk : Nat} {all news : List (Addr × Obj)} {l r : List Int}
    (F : Fr h₀ L h' m) (N : News h₀ L h' all) (sub : ∀ p ∈ (I, oI) :: (C, oC) :: (D, oD) :: news, p ∈ all) (off : LCg.Off3 I C D news) (e : KCiEl news l r y news) :
    LCg.CompEnd h₀ L m s₁ I oI C oC D oD (fun _ => True) (fun y news' => KCiEl news l r y news') y { s₁ with heap := h', toks := tk } :=
  LCg.CompEnd.intro F N news sub off trivial e
theorem ce_no {h₀ : Heap} {L I C D : Addr} {m : Str → Option Value} {s₁ : Shared} {oI oC oD : Obj} {y : Value} {h' : Heap} {tk : Nat} {all news : List (Addr × Obj)} {l r : List Int}
    (F : Fr h₀ L h' m) (N : News h₀ L h' all) (sub : ∀ p ∈ (I, oI) :: (C, oC) :: (D, oD) :: news, p ∈ all) (off : LCg.Off3 I C D news) (e : KCiNo news l r news) :
    LCg.CompEnd h₀ L m s₁ I oI C oC D oD (fun _ => True) (fun _ news' => KCiNo news l r news') y { s₁ with heap := h', toks := tk } :=
  LCg.CompEnd.intro F N news sub off trivial e
theorem ClV.use {D : Nat} {w : World} {K : Frag} {f t : Addr} {o : Obj} {vs : List Value} {R : Tok → Value} (C : ClV D w K f t o vs R)
    {p : Program} {loose : List Str} {mean : ExcName → Option Value} {mg mb : Str → Option Value} {news : List (Addr × Obj)} {dp un : Nat} {gd : Option (List Code)} {cn : Str} {cs : Scope} {a : Addr} {ccd : Value} {cl : List (Str × Addr)} {outer : List Env} {A₀ : Around} {base h₀ : Heap} {L : Addr} {m : Str → Option Value} {s : Shared} {Q E : Value → Shared → Prop}
    (B : Below A₀ base outer h₀) (F : Fr h₀ L s.heap m) (X : K.In h₀) (N : News h₀ L s.heap news) (T : Top p loose mean mg mb h₀) (hk : cs.kind = .function)
    (hd : dp + D < recursionLimit) (hu : un + 10 * D < cLine) (hp : (t, o) ∈ news)
    (hret : ∀ (t : Tok) (h' : Heap) (tk' : Nat), Fr h₀ L h' m → News h₀ L h' news → Q (R t) { s with heap := h', toks := tk' }) :
    wpAny (model PySem.Challenge.rw_fd5006_02.row.prog w) (ktrTop dp un gd cn cs L a ccd cl outer) (call (.ref f) vs) Q E s :=
  C p loose mean mg mb news dp un gd cn cs a ccd cl outer A₀ base h₀ L m s Q E B F X N T hk hd hu hp hret
theorem ClG.use {D : Nat} {w : World} {K : Frag} {f t : Addr} {o : Obj} {vs : List Value} {P : List Int → Prop} (C : ClG D w K f t o vs P)
    {p : Program} {loose : List Str} {mean : ExcName → Option Value} {mg mb : Str → Option Value} {news : List (Addr × Obj)} {newsF : List Value → Nat → List (Addr × Obj)} {dp un : Nat} {gd : Option (List Code)} {cn : Str} {cs : Scope} {a : Addr} {ccd : Value} {cl : List (Str × Addr)} {outer : List Env} {A₀ : Around} {base h₀ : Heap} {L : Addr} {m : Str → Option Value} {s : Shared} {Q E : Value → Shared → Prop}
    (B : Below A₀ base outer h₀) (F : Fr h₀ L s.heap m) (X : K.In h₀) (N : News h₀ L s.heap news) (T : Top p loose mean mg mb h₀) (hk : cs.kind = .function)
    (hd : dp + D < recursionLimit) (hu : un + 10 * D < cLine) (hU : ∀ us' c', Upd t o (listOf us'.toArray c') news (newsF us' c'))
    (hret : ∀ (us' : List Value) (ns' : List Int) (c' : Nat) (h' : Heap) (tk' : Nat), Fr h₀ L h' m → News h₀ L h' (newsF us' c') → IntsAre us' ns' → P ns' → Q (.bool true) { s with heap := h', toks := tk' }) :
    wpAny (model PySem.Challenge.rw_fd5006_02.row.prog w) (ktrTop dp un gd cn cs L a ccd cl outer) (call (.ref f) vs) Q E s :=
  C p loose mean mg mb news newsF dp un gd cn cs a ccd cl outer A₀ base h₀ L m s Q E B F X N T hk hd hu hU hret
theorem place_lo {x M : Int} (h : 1 ≤ M) : 0 ≤ x.fmod M := fmod_lo _ (by omega)
theorem place_hi {x M : Int} {n : Nat} (h : 1 ≤ M) (hn : (n : Int) = M) : x.fmod M < n := by
  rw [hn]; exact fmod_hi _ (by omega)
theorem place_lo1 {x M : Int} (h : 1 ≤ M) : 0 ≤ x.fmod M + 1 := by have := place_lo (x := x) h; omega
theorem place_hi1 {x M : Int} {n : Nat} (h : 1 ≤ M) (hn : (n : Int) = M) : x.fmod M + 1 ≤ n := by have := place_hi (x := x) h hn; omega
theorem mul_ok_place {X y M : Int} (h1 : 1 ≤ M) (h2 : M ≤ 24) : IntMulOk X (y.fmod M + 1) := by
  have a := place_lo (x := y) h1
  have b := fmod_hi y (n := M) (by omega)
  exact PySem.IntMulOk.of_right (PySem.intBits_le_64 (by omega) (by omega))
local macro_rules | `(tactic| mul_fits) => `(tactic| first | exact mul_ok_place (by assumption) (by assumption) | fail "mul_fits: no place")
local macro_rules | `(tactic| walk_at "call ref") => `(tactic| (k_here; k_dflt (first
  | (refine' Cl.use (low_call _ _ _) ?k1 ?k2 ?k3 ?k4 ?k5 ?kK ?kd ?ku ?kp ?_; (case k1 => k_asm); (case k2 => k_asm); (case k3 => k_asm); (case k4 => k_asm); (case k5 => k_asm); (case kK => first | exact rfl | assumption); (case kd => ktr_room); (case ku => ktr_units); (case kp => exact (low_of (by omega) (by omega)).1); intro t9 h9 tk9 F9 N9; (try dsimp only); (try k_fold))
  | (refine' ClV.use (sum_call _ _ _ _ _ _ _ _ ?kI ?kf ?kp1 ?kp2) ?k1 ?k2 ?k3 ?k4 ?k5 ?kK ?kd ?ku ?km ?_; (case k1 => k_asm); (case k2 => k_asm); (case k3 => k_asm); (case k4 => k_asm); (case k5 => k_asm); (case km => k_mem); (case kI => assumption); (case kf => assumption); (case kp1 => first | exact place_lo (by assumption) | exact place_lo1 (by assumption) | omega); (case kp2 => first | exact place_hi (by assumption) (by assumption) | exact place_hi1 (by assumption) (by assumption) | omega); (case kK => first | exact rfl | assumption); (case kd => ktr_room); (case ku => ktr_units); intro t9 h9 tk9 F9 N9; (try dsimp only); (try k_fold))
  | (refine' ClV.use (sought_call _ _ _ _ _ _ _ _ ?kI ?kf ?kp1 ?kp2) ?k1 ?k2 ?k3 ?k4 ?k5 ?kK ?kd ?ku ?km ?_; (case k1 => k_asm); (case k2 => k_asm); (case k3 => k_asm); (case k4 => k_asm); (case k5 => k_asm); (case km => k_mem); (case kI => assumption); (case kf => assumption); (case kp1 => assumption); (case kp2 => omega); (case kK => first | exact rfl | assumption); (case kd => ktr_room); (case ku => ktr_units); intro t9 h9 tk9 F9 N9; (try dsimp only); (try k_fold))
  | (refine' ClG.use (grow_call _ _ _ _ _ _ _ _ _ _ ?kI ?kf ?kp1 ?kp2) ?k1 ?k2 ?k3 ?k4 ?k5 ?kK ?kd ?ku ?km ?_; (case k1 => k_asm); (case k2 => k_asm); (case k3 => k_asm); (case k4 => k_asm); (case k5 => k_asm); (case km => intro us9 c9; k_upd); (case kI => assumption); (case kf => assumption); (case kp1 => first | exact place_lo (by assumption) | exact place_lo1 (by assumption) | omega); (case kp2 => first | exact place_hi (by assumption) (by assumption) | exact place_hi1 (by assumption) (by assumption) | omega); (case kK => first | exact rfl | assumption); (case kd => ktr_room); (case ku => ktr_units); intro us9 ns9 c9 h9 tk9 F9 N9 i9 p9; (try dsimp only); (try k_fold)))))
local macro_rules | `(tactic| walk_at "InvEndN") => `(tactic| (k_dflt (refine' law_end ?k1 ?k2 ?k3 ?k4 ?k5 ?k6 ?k7 ?k8 ?k9 ?k10 ?k11; (case k1 => assumption); (case k2 => assumption); (case k3 => kcf_all); (case k4 => kcf_all); (case k5 => assumption); (case k6 => assumption); (case k7 => first | assumption | exact fen_sub (by assumption)); (case k8 => first | assumption | exact nn_add (by assumption) _ _ _ | exact nn_sub (by assumption) _ _); (case k9 => first | assumption | (rw [List.length_set]; assumption)); (case k10 => exact ⟨_, by assumption⟩); (case k11 => kst_all))))
local macro_rules | `(tactic| walk_at "CompEnd") => `(tactic| (k_dflt (first
  | (refine' ce_yes ?k1 ?k2 ?k3 ?k4 ?_; (case k1 => assumption); (case k2 => assumption); (case k3 => kcf_all); (case k4 => first | assumption | (simp only [LCg.Off3, and_true]; assumption)))
  | (refine' ce_no ?k1 ?k2 ?k3 ?k4 ?_; (case k1 => assumption); (case k2 => assumption); (case k3 => kcf_all); (case k4 => first | assumption | (simp only [LCg.Off3, and_true]; assumption))))))
local macro_rules | `(tactic| walk_at "exec For Name Call cons nil") => `(tactic| (k_here; (rename Fr _ _ _ _ => lF'); (with_unfolding_all refine' For_invVF lF' ?k1 ?k2 ?_; (case k1 => exact rfl); (case k2 => exact rfl); k_whole)))
local macro_rules | `(tactic| walk_at "pyIter ref") => `(tactic| (k_here; k_dflt ((with_reducible rename Fr _ _ _ _ => lF'); (with_reducible rename News _ _ _ _ => lN'); (with_reducible rename IsRange _ _ _ _ _ _ _ _ => rgX); (refine' kst_range (fun _ : Unit => _) (fun _ => []) (fun _ => True) [Str.ofString "low"] (fun _ _ => True) () ?kh rgX ?ks ?kn lF' lN' ?kf ?kk ?kp ?kt ?kd); (case kh => rfl); (case ks => exact small_one (by omega) (by omega) (by omega) (by omega)); (case kn => exact rangeSize_nat _ _); (case kf => trivial); (case kk => exact List.forall_mem_nil _); (case kp => trivial); (case' kt => (intro c9 pre9 k9 t9 u9 h9 tk9 own9 hk9 hl9 hoff9 _ _ F9 N9; clear lF' lN'; dsimp only [kstB] at F9; (try dsimp only at N9); (have hz9 : 1 ≤ k9 := by omega); (have hz8 : k9 ≤ 24 := by omega); obtain ⟨la9, lb9, lc9, ld9, le9⟩ := last_turn (k := k9) (by assumption) (by omega) (by omega); (try dsimp only); (try k_fold))); (case' kd => (intro c9 u9 h9 tk9 _ _ F9 N9; clear lF' lN'; dsimp only [kstB] at F9; (try dsimp only at N9); (try dsimp only); (try k_fold))))))
set_option maxRecDepth 100000 in
set_option maxHeartbeats 8000000 in
theorem law_holds : PySem.Challenge.rw_fd5006_02.Holds := hd (by
  k_with_none
  k_go0
  all_goals try k_fold
  k_steps
  k_here
  with_reducible rename Fr _ _ _ _ => lF'
  with_unfolding_all refine' For_invVF lF' ?k1 ?k2 ?_
  case k1 => exact rfl
  case k2 => exact rfl
  k_steps
  with_reducible rename Fr _ _ _ _ => lF'
  with_reducible rename News _ _ _ _ => lN'
  refine' law_iter [(Str.ofString "script", _), (Str.ofString "many", _), (Str.ofString "tree", _)] ?hh ?hl ?hi lF' lN' ?h1 ?h2 ?h3 ?h4 ?h5 ?h6 ?h7 ?_ ?_
  case hh => rfl
  case hl => assumption
  case hi => assumption
  case h1 => assumption
  case h2 => assumption
  case h3 => exact fen_law _
  case h4 => exact nn_zero _
  case h5 => exact len_law _
  case h6 => exact ⟨_, by assumption⟩
  case h7 => kst_all
  · intro us ts c vs rs d on k t u h tk own hmem hI1 hI2 hF hnn hlen hlen2 hon hoff F' N'
    clear lF' lN'
    dsimp only [kstB] at F'
    obtain ⟨hm1, hm2, hm3, hm4⟩ := many_law hlen
    have hq1 := (hm4 ((if k < 0 then -k else k).fdiv 5)).1
    have hq2 := (hm4 ((if k < 0 then -k else k).fdiv 5)).2
    clear hm4
    obtain ⟨cv, hcv⟩ := hon
    try k_fold
    have hlen3 := len_cast hlen
    k_steps
    with_reducible rename ((below _ _ : Nat) : Int) ≠ _ => hne
    exact absurd (congrArg (fun x : Nat => (x : Int)) (due_len hlen3 _).symm) hne
  · intro us ts c vs rs d on u h tk hI1 hI2 hF hnn hlen hlen2 hon F' N'
    clear lF' lN'
    dsimp only [kstB] at F'
    obtain ⟨hm1, hm2, hm3, -⟩ := many_law hlen
    obtain ⟨cv, hcv⟩ := hon
    try k_fold
    dsimp only
    k_steps
    have e9 := beq_iff_eq.mpr (psum_all rs hlen.symm)
    rw [e9]
    k_steps)
end
end Mine
theorem PySem.Challenge.cw_fd5006_02_holds : PySem.Challenge.rw_fd5006_02.Holds :=
  Mine.law_holds

