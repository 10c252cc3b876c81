import PyProof.Rows.All
import Wide.All
import OpenK.AllK
import Wide.FinOn
import PySem.Challenge.RW_sc0077_01
set_option Elab.async false
set_option compiler.extract_closed false
open PySem PySem.W PyProof.Rows PySem.Calls PySem.Spec PyProof.V
section
open PySem PySem.W PyProof.Rows
set_option Elab.async false
namespace Mine
local macro_rules | `(tactic| o_law) => `(tactic| refine PySem.W.holds_law (by decide +kernel) fun said => ?_)
set_option maxRecDepth 100000 in
set_option maxHeartbeats 8000000 in
open_top hd for PySem.Challenge.rw_sc0077_01
end Mine
end

namespace Mine
theorem st1 {a1 a2 a3 a4 a5 a6 a7 a8 a9 a10} (h : wpAny a1 a2 (exec (Stmt.While a3 a4 a5 a6) a7) a8 a9 a10) : wpAny a1 a2 (exec (Stmt.While a3 a4 a5 a6) a7) a8 a9 a10 := h
theorem st2 {a1 a2 a3 a4 a5 a6} (h : wpAny a1 a2 (call (Value.ref 73) a3) a4 a5 a6) : wpAny a1 a2 (call (Value.ref 73) a3) a4 a5 a6 := h
theorem st3 {a1 a2 a3 a4 a5 a6} (h : wpAny a1 a2 (call (Value.ref 64) a3) a4 a5 a6) : wpAny a1 a2 (call (Value.ref 64) a3) a4 a5 a6 := h
theorem st4 {a1 a2 a3 a4 a5 a6} (h : wpAny a1 a2 (pyIter a3) a4 a5 a6) : wpAny a1 a2 (pyIter a3) a4 a5 a6 := h
theorem st5 {a1 a2 a3 a4 a5 a6} (h : wpAny a1 a2 (call (Value.builtin "re.Pattern.sub") a3) a4 a5 a6) : wpAny a1 a2 (call (Value.builtin "re.Pattern.sub") a3) a4 a5 a6 := h
theorem st6 {a1 a2 a3 a4 a5 a6 a7} (h : wpAny a1 a2 (getMethod (Value.ref 43) a3 a4) a5 a6 a7) : wpAny a1 a2 (getMethod (Value.ref 43) a3 a4) a5 a6 a7 := h
theorem st7 {a1 a2 a3 a4 a5 a6 a7} (h : wpAny a1 a2 (getMethod (Value.ref 48) a3 a4) a5 a6 a7) : wpAny a1 a2 (getMethod (Value.ref 48) a3 a4) a5 a6 a7 := h
theorem st8 {a1 a2 a3 a4 a5 a6 a7 a8 a9 a10 a11} (h : wpAny a1 a2 (exec (Stmt.For a3 a4 a5 a6 a7) a8) a9 a10 a11) : wpAny a1 a2 (exec (Stmt.For a3 a4 a5 a6 a7) a8) a9 a10 a11 := h
theorem st9 {a1 a2 a3 a4 a5 a6} (h : wpAny a1 a2 (call (Value.ref 80) a3) a4 a5 a6) : wpAny a1 a2 (call (Value.ref 80) a3) a4 a5 a6 := h
theorem st10 {a1 a2 a3 a4 a5 a6 a7 a8 a9 a10 a11} (h : wpAny a1 a2 (execs (Stmt.If a3 a4 a5 a6 :: a7) a8) a9 a10 a11) : wpAny a1 a2 (execs (Stmt.If a3 a4 a5 a6 :: a7) a8) a9 a10 a11 := h
theorem st11 {a1 a2 a3 a4 a5 a6 a7 a8 a9 a10 a11 a12 a13 a14 a15 a16 a17 a18 a19 a20} (h : LCt.CompRestT a1 a2 a3 a4 a5 a6 a7 a8 a9 a10 a11 a12 a13 a14 a15 a16 a17 a18 a19 a20) : LCt.CompRestT a1 a2 a3 a4 a5 a6 a7 a8 a9 a10 a11 a12 a13 a14 a15 a16 a17 a18 a19 a20 := h
theorem st12 {a1 a2 a3 a4 a5 a6 a7} (h : wpAny a1 a2 (binaryOp Operator.Add (Value.ref a3) (Value.ref a4)) a5 a6 a7) : wpAny a1 a2 (binaryOp Operator.Add (Value.ref a3) (Value.ref a4)) a5 a6 a7 := h
theorem st13 {a1 a2 a3 a4 a5 a6 a7 a8 a9 a10 a11 a12 a13 a14 a15 a16 a17 a18 a19} (h : LCg.CompRest a1 a2 a3 a4 a5 a6 a7 a8 a9 a10 a11 a12 a13 a14 a15 a16 a17 a18 a19) : LCg.CompRest a1 a2 a3 a4 a5 a6 a7 a8 a9 a10 a11 a12 a13 a14 a15 a16 a17 a18 a19 := h
theorem st14 {a1 a2 a3 a4 a5 a6} (h : wpAny a1 a2 (call (Value.builtin "str.join") a3) a4 a5 a6) : wpAny a1 a2 (call (Value.builtin "str.join") a3) a4 a5 a6 := h
theorem st15 {a1 a2 a3 a4 a5 a6 a7} (h : wpAny a1 a2 (binaryOp Operator.Mult a3 a4) a5 a6 a7) : wpAny a1 a2 (binaryOp Operator.Mult a3 a4) a5 a6 a7 := h
theorem st16 {a1 a2 a3 a4 a5 a6 a7 a8} (h : wpAny a1 a2 (binaryOp Operator.Add (Value.str a3 a4) a5) a6 a7 a8) : wpAny a1 a2 (binaryOp Operator.Add (Value.str a3 a4) a5) a6 a7 a8 := h
theorem st17 {a1 a2 a3 a4 a5 a6 a7} (h : wpAny a1 a2 (compareOp CmpOp.Eq (Value.ref a3) (Value.ref a4)) a5 a6 a7) : wpAny a1 a2 (compareOp CmpOp.Eq (Value.ref a3) (Value.ref a4)) a5 a6 a7 := h
theorem st18 {a1 a2 a3 a4 a5 a6 a7} (h : wpAny a1 a2 (call (Value.ref a3) a4) a5 a6 a7) : wpAny a1 a2 (call (Value.ref a3) a4) a5 a6 a7 := h
theorem st19 {a1 a2 a3 a4 a5 a6} (h : wpAny a1 a2 (call (Value.builtin "list.append") a3) a4 a5 a6) : wpAny a1 a2 (call (Value.builtin "list.append") a3) a4 a5 a6 := h
theorem st20 {a1 a2 a3 a4 a5 a6} (h : wpAny a1 a2 (call (Value.builtin "str.count") a3) a4 a5 a6) : wpAny a1 a2 (call (Value.builtin "str.count") a3) a4 a5 a6 := h
theorem st21 {a1 a2 a3 a4 a5 a6 a7 a8} (h : wpAny a1 a2 (compareOp a3 (Value.ref a4) (Value.ref a5)) a6 a7 a8) : wpAny a1 a2 (compareOp a3 (Value.ref a4) (Value.ref a5)) a6 a7 a8 := h
theorem st22 {a1 a2 a3 a4 a5 a6} (h : wpAny a1 a2 (call (Value.builtin "sum") a3) a4 a5 a6) : wpAny a1 a2 (call (Value.builtin "sum") a3) a4 a5 a6 := h
end Mine
open Mine

section
open PySem PySem.W PyProof.Rows PySem.Calls
set_option Elab.async false
namespace Mine
abbrev PR : Program := PySem.Challenge.rw_sc0077_01.row.prog

theorem enterP {p : Program} {loose : List Str} {mean : ExcName → Option Value} {mg mb : Str → Option Value} {K : Frag} {w : World} {A : Around} {s : Shared} {h₀ : Heap} {news : List (Addr × Obj)}
    {R : Result → Shared → Prop} {name qual : Str} {params : Arguments} {body : List Stmt} {scope : Scope} {dV kV doc pm cdv ct oc : Value} {an od : Option Addr} {osl : Array (Option Value)} {f : Addr} {args : Args} {binds : List (Str × Value)}
    (X₀ : K.In h₀) (T : Top p loose mean mg mb h₀) (hk₀ : ∀ b o, h₀.get? b = some o → s.heap.get? b = some o) (N : ∀ q ∈ news, s.heap.get? q.1 = some q.2 ∧ h₀.get? q.1 = none)
    (ho : K.lookup f = some ⟨oc, od, .func (fnOf name qual params body scope dV kV doc pm an cdv ct), osl⟩) (hcd : codeIn K cdv qual = true) (hroom : A.depth < recursionLimit)
    (hbind : BindsTo s (fnOf name qual params body scope dV kV doc pm an cdv ct) args binds) (hloc : ∀ y ∈ binds, scope.names.lookup y.1 = some .local)
    (h : ∀ g L' h₁, (∀ b o, h₀.get? b = some o → g.get? b = some o) → (∀ b o, s.heap.get? b = some o → b ∉ news.map (·.1) → g.get? b = some o) → Fr g L' h₁ (fun y => binds.reverse.lookup y) → News g L' h₁ news → K.In g → Top p loose mean mg mb g →
      wpAny (model PR w) (A.deeper (envOf qual scope L' f cdv)) (execs body (envOf qual scope L' f cdv))
        (fun fl s' => R (.ok (.ret (match fl with | .ret v => v | _ => .none))) s')
        (fun _ _ => False)
        { s with heap := h₁, toks := s.toks + binds.length })
    (hco : scope.isCoroutine = false) (hgen : scope.isGenerator = false) (hk : scope.kind = .function)
    (hcell : ∀ x ∈ scope.names, x.2 ≠ .cell) : codeAny (model PR w) A (.call (.ref f) args) R s := by
  refine codeAny_call_def (fd := fnOf name qual params body scope dV kV doc pm an cdv ct) (body := body) (binds := binds) hroom ((X₀.keeps hk₀) _ _ ho) rfl (T.nolimit.keeps hk₀) (codeRec_of (X₀.keeps hk₀) hcd) rfl hbind hcell hloc (fun h₁ hns hk₁ => ?_) hco hgen hk
  have nm : ∀ b o, h₀.get? b = some o → b ∉ news.map (·.1) := fun b o e q => by
    obtain ⟨p, hp, rfl⟩ := List.mem_map.mp q
    rw [(N p hp).2] at e; cases e
  have st : ∀ b o, h₀.get? b = some o → (hideAll s.heap (news.map (·.1))).get? b = some o := fun b o e => hideAll_get _ (hk₀ b o e) (nm b o e)
  exact wpAny_mono (h (hideAll s.heap (news.map (·.1))) s.heap.objs.size h₁ st (fun b o e n => hideAll_get _ e n) ⟨hns, fun b o e => hk₁ b o (of_hideAll _ e), Nat.le_of_eq (hideAll_size _ _)⟩
    (fun p hp => ⟨hk₁ _ _ (N p hp).1, Nat.ne_of_lt (Heap.lt_size (N p hp).1), hideAll_none _ (List.mem_map_of_mem hp)⟩) (X₀.keeps st) (T.keeps st)) (fun _ _ hl => hl) fun _ _ y => y.elim
end Mine
end

section
open PySem PySem.W PyProof.Rows PySem.Calls PySem.Spec
set_option Elab.async false
namespace Mine
theorem enterC {p : Program} {loose : List Str} {mean : ExcName → Option Value} {mg mb : Str → Option Value} {K : Frag} {w : World} {A : Around} {s : Shared} {h₀ : Heap} {news : List (Addr × Obj)}
    {R : Result → Shared → Prop} {name qual : Str} {params : Arguments} {body : List Stmt} {scope : Scope} {dV kV doc pm cdv ct oc : Value} {an od : Option Addr} {osl : Array (Option Value)} {f : Addr} {args : Args} {binds : List (Str × Value)}
    (X₀ : K.In h₀) (T : Top p loose mean mg mb h₀) (hk₀ : ∀ b o, h₀.get? b = some o → s.heap.get? b = some o) (N : ∀ q ∈ news, s.heap.get? q.1 = some q.2 ∧ h₀.get? q.1 = none)
    (ho : K.lookup f = some ⟨oc, od, .func (fnOf name qual params body scope dV kV doc pm an cdv ct), osl⟩) (hcd : codeIn K cdv qual = true) (hroom : A.depth < recursionLimit)
    (hbind : BindsTo s (fnOf name qual params body scope dV kV doc pm an cdv ct) args binds)
    (hkind : (binds.all fun y => scope.names.lookup y.1 == some .local || scope.names.lookup y.1 == some .cell) = true)
    (hnd : ((cellsFrom 0 scope.names []).map (·.1)).Nodup)
    (h : ∀ g L' h₁ tk cells, (∀ b o, h₀.get? b = some o → g.get? b = some o) → (∀ b o, s.heap.get? b = some o → b ∉ news.map (·.1) → g.get? b = some o) →
      Fr g L' h₁ (bindL (envOfC qual scope L' f cdv).kindOf binds fun _ => none) → News g L' h₁ (cells ++ news) →
      CellsAre (bindC (envOfC qual scope L' f cdv).kindOf binds fun _ => none) (cellsFrom (L' + 1) scope.names []) cells → K.In g → Top p loose mean mg mb g → (∀ q ∈ news, q.1 < L') →
      wpAny (model PR w) (A.deeper (envOfC qual scope L' f cdv)) (execs body (envOfC qual scope L' f cdv))
        (fun fl s' => R (.ok (.ret (match fl with | .ret v => v | _ => .none))) s')
        (fun _ _ => False)
        { s with heap := h₁, toks := tk })
    (hco : scope.isCoroutine = false) (hgen : scope.isGenerator = false) (hk : scope.kind = .function) : codeAny (model PR w) A (.call (.ref f) args) R s := by
  have nm : ∀ b o, h₀.get? b = some o → b ∉ news.map (·.1) := fun b o e q => by
    obtain ⟨p, hp, rfl⟩ := List.mem_map.mp q
    rw [(N p hp).2] at e; cases e
  have st : ∀ b o, h₀.get? b = some o → (hideAll s.heap (news.map (·.1))).get? b = some o := fun b o e => hideAll_get _ (hk₀ b o e) (nm b o e)
  refine codeAny_call_function hroom ((X₀.keeps hk₀) _ _ ho) rfl hco hgen rfl (codeRec_of (X₀.keeps hk₀) hcd) (hbind _ _ _ _ ?_)
  refine wpAny_newFunctionEnv_cells hk (kindsX hkind _) fun env' he s' x => ?_
  subst he
  refine ⟨(T.nolimit.keeps hk₀).keeps x.toInCall.keep, codeAny_func ?_⟩
  obtain ⟨h₁, tk, rfl, _⟩ := x.done
  have hk₁ := x.toInCall.keep
  obtain ⟨cells, NC, Y⟩ := Cl.news (h₀ := s.heap) (Nat.le_refl _) fun n c hm => ⟨x.cell n c (lookup_of_mem_nodup (cellsFrom_names scope.names 0 (s.heap.objs.size + 1) [] [] rfl ▸ hnd) hm), x.above n c hm⟩
  refine wpAny_mono (h (hideAll s.heap (news.map (·.1))) s.heap.objs.size h₁ tk cells st (fun b o e n => hideAll_get _ e n) ⟨x.toInCall.ns, fun b o e => hk₁ b o (of_hideAll _ e), Nat.le_of_eq (hideAll_size _ _)⟩ (fun p hp => ?_) Y (X₀.keeps st) (T.keeps st) (fun p hp => Heap.lt_size (N p hp).1)) (fun _ _ hl => hl) fun _ _ y => y.elim
  rcases List.mem_append.mp hp with hp | hp
  · refine ⟨(NC p hp).1, (NC p hp).2.1, ?_⟩
    cases q : (hideAll s.heap (news.map (·.1))).get? p.1 with
    | none => rfl
    | some o => have := of_hideAll _ q; rw [(NC p hp).2.2] at this; cases this
  · exact ⟨hk₁ _ _ (N p hp).1, Nat.ne_of_lt (Heap.lt_size (N p hp).1), hideAll_none _ (List.mem_map_of_mem hp)⟩
end Mine
end

local macro_rules | `(tactic| walk_at "shared 1") => `(tactic| lia)

local macro_rules | `(tactic| walk_at "shared 2") => `(tactic| repeat' ((fail_if_success walk_at "my stop"); first | (k_unfold; (try dsimp only)) | walk1 | (dsimp only; walk1) | fail "no step"))

local macro_rules | `(tactic| walk_at "shared 3") => `(tactic| (k_dflt (refine' nameX_L ?F ?v ?_ ?a ?b; (case F => k_asm); (case a => rfl); (case b => rfl); (case v => assumption))))

section
open PySem PySem.W PyProof.Rows PySem.Calls
set_option Elab.async false
namespace Mine
local macro_rules | `(tactic| omega) => `(tactic| walk_at "shared 1")
local macro_rules | `(tactic| walk_at "my ent") => `(tactic| (
  (case k6 => k_is); (case k7 => k_is); (case k8 => omega); (case k9 => (refine' kp_binds ?kx ?ke; (case kx => k_in); (case ke => exact fun _ => rfl))); (case c5 => decide); (case kB => exact locs rfl); (case c2 => exact rfl); (case c3 => exact rfl); (case c4 => exact rfl)))
local macro_rules | `(tactic| walk_at "my stop") => `(tactic| (with_reducible refine st1 ?_))
local macro_rules | `(tactic| walk_at "my walk") => `(tactic| walk_at "shared 2")
local macro_rules | `(tactic| walk_at "eval Name") => `(tactic| walk_at "shared 3")
def cntLt (ns : List Int) (x : Int) : Nat := ns.countP (· < x)

theorem cntLt_le (ns : List Int) (x : Int) : cntLt ns x ≤ ns.length := List.countP_le_length
theorem cntLt_at {ns : List Int} {x : Int} (hs : ns.Pairwise (· ≤ ·)) {i : Nat} (h : i < ns.length) : ns.getD i 0 < x ↔ i < cntLt ns x := by
  induction ns generalizing i with
  | nil => simp at h
  | cons a r ih =>
    have h1 := List.pairwise_cons.mp hs
    unfold cntLt at *
    rw [List.countP_cons]
    by_cases ha : a < x
    · cases i with
      | zero => simp [ha]
      | succ i =>
        have := ih h1.2 (i := i) (by simpa using h)
        simpa [ha] using this
    · have hz : r.countP (· < x) = 0 := by
        rw [List.countP_eq_zero]
        intro b hb
        have := h1.1 b hb
        simp; omega
      have : ¬ (a :: r).getD i 0 < x := by
        cases i with
        | zero => simpa using ha
        | succ i =>
          have hi : i < r.length := by simpa using h
          have hm : r[i] ∈ r := List.getElem_mem hi
          have := h1.1 _ hm
          simp [List.getD_eq_getElem?_getD, List.getElem?_eq_getElem hi]; omega
      constructor
      · intro q; exact absurd q this
      · intro q; rw [hz] at q; simp [ha] at q

set_option maxRecDepth 100000 in
set_option maxHeartbeats 8000000 in
theorem bisect_left_spec {p : Program} {loose : List Str} {mean : ExcName → Option Value} {mg mb : Str → Option Value} {w : World} {A : Around} {s : Shared} {a : Addr} {vs : List Value} {ns : List Int} {x : Int} {tx t0 : Tok} {args : List Value} {Q E : Value → Shared → Prop}
    (X : (hd.heap_1 w.params).In s.heap) (T : Top p loose mean mg mb s.heap) (hl : s.heap.IsList a vs.toArray) (hi : IntsAre vs ns) (hs : ns.Pairwise (· ≤ ·)) (hn : ns.length < 2 ^ 40)
    (ha : args = [.ref a, .int x tx] ∧ t0 = 373 ∨ args = [.ref a, .int x tx, .int 0 t0, .none])
    (hroom : A.depth + 2 < recursionLimit) (hu : A.units + 20 < cLine)
    (hQ : ∀ t h' tk, (∀ b o, s.heap.get? b = some o → h'.get? b = some o) → Q (.int (cntLt ns x) t) { s with heap := h', toks := tk }) :
    wpAny (model PR w) A (call (.ref 73) args) Q E s := by
  w_top off
  refine wpAny_call ?_
  refine' enterP (binds := [("a", .ref a), ("x", .int x tx), ("lo", .int 0 t0), ("hi", .none), ("key", .none)]) (news := []) (h₀ := s.heap) X T (fun _ _ e => e) (fun _ h => nomatch h) ?k6 ?k7 ?k8 ?k9 ?kB ?_ ?c2 ?c3 ?c4 ?c5
  (case k6 => k_is)
  (case k7 => k_is)
  (case k8 => omega)
  (case k9 => (rcases ha with ⟨rfl, rfl⟩ | rfl <;> (refine' kp_binds ?kx ?ke; (case kx => k_in); (case ke => exact fun _ => rfl))))
  (case c5 => decide)
  (case kB => exact locs rfl)
  (case c2 => exact rfl)
  (case c3 => exact rfl)
  (case c4 => exact rfl)
  intro g L' h₁ hg hg' F N X' T'
  replace hl : g.IsList a vs.toArray := stays_list (fun b o e => hg b o e) hl
  clear hg'
  walk_at "my walk"
  rename Fr _ _ _ _ => F1
  rename News _ _ _ _ => N1
  have hc := cntLt_le ns x
  k_unmd
  k_fold
  refine While_inv2 (fun n m news => ∃ (lo hi : Int) (tl th : Tok), news = [] ∧ m "a" = some (.ref a) ∧ m "x" = some (.int x tx) ∧ m "lo" = some (.int lo tl) ∧ m "hi" = some (.int hi th) ∧
    0 ≤ lo ∧ lo ≤ hi ∧ hi ≤ ns.length ∧ n = (hi - lo).toNat ∧ lo ≤ cntLt ns x ∧ cntLt ns x ≤ hi) F1 N1 ⟨0, _, _, _, rfl, rfl, rfl, rfl, rfl, by omega, by omega, by omega, rfl, by omega, by omega⟩ ?_ PassesOwn.never
  intro n m₁ news₁ h₂ tk₁ F2 N2 ⟨lo, hi', tl, th, e0, e1, e2, e3, e4, b1, b2, b3, b4, b5, b6⟩
  subst e0
  clear F1 N1
  walk_at "my walk"
  all_goals (rename Fr _ _ _ _ => F3; rename News _ _ _ _ => N3)
  · rename _ < x => hlt
    rename lo < hi' => hlh
    have hm : (lo + hi').fdiv 2 = (lo + hi') / 2 := Int.fdiv_eq_ediv_of_nonneg _ (by omega)
    rw [hm] at hlt F3
    rw [cntLt_at hs (by omega)] at hlt
    dsimp only [WhileStep2]
    exact ⟨_, _, _, _, _, rfl, F3, N3, by omega, (lo + hi') / 2 + 1, hi', _, _, rfl, e1, e2, rfl, e4, by omega, by omega, by omega, rfl, by omega, by omega⟩
  · rename ¬ _ < x => hlt
    rename lo < hi' => hlh
    have hm : (lo + hi').fdiv 2 = (lo + hi') / 2 := Int.fdiv_eq_ediv_of_nonneg _ (by omega)
    rw [hm] at hlt F3
    rw [cntLt_at hs (by omega)] at hlt
    dsimp only [WhileStep2]
    exact ⟨_, _, _, _, _, rfl, F3, N3, by omega, lo, (lo + hi') / 2, _, _, rfl, e1, e2, e3, rfl, by omega, by omega, by omega, rfl, by omega, by omega⟩
  · rename ¬ lo < hi' => hlh
    have : lo = cntLt ns x := by omega
    subst this
    exact hQ _ _ _ fun b o e => F3.keep b o (hg b o e)
end Mine
end

section
open PySem PySem.W PyProof.Rows PySem.Calls
set_option Elab.async false
namespace Mine
local macro_rules | `(tactic| omega) => `(tactic| walk_at "shared 1")
local macro_rules | `(tactic| walk_at "my stop") => `(tactic| (with_reducible refine st2 ?_))
local macro_rules | `(tactic| walk_at "my walk") => `(tactic| walk_at "shared 2")
local macro_rules | `(tactic| walk_at "eval Name") => `(tactic| walk_at "shared 3")

def insI (ns : List Int) (x : Int) : List Int := ns.take (cntLt ns x) ++ x :: ns.drop (cntLt ns x)

set_option maxRecDepth 100000 in
set_option maxHeartbeats 8000000 in
theorem insort_left_spec {p : Program} {loose : List Str} {mean : ExcName → Option Value} {mg mb : Str → Option Value} {w : World} {A : Around} {s : Shared} {h₀ : Heap} {a : Addr} {vs : List Value} {n : Nat} {ns : List Int} {x : Int} {tx : Tok} {Q E : Value → Shared → Prop}
    (X : (hd.heap_1 w.params).In h₀) (T : Top p loose mean mg mb h₀) (hk₀ : ∀ b o, h₀.get? b = some o → s.heap.get? b = some o)
    (hl : s.heap.get? a = some (listOf vs.toArray n)) (hl0 : h₀.get? a = none) (hi : IntsAre vs ns) (hs : ns.Pairwise (· ≤ ·)) (hn : ns.length < 2 ^ 20)
    (hroom : A.depth + 4 < recursionLimit) (hu : A.units + 30 < cLine)
    (hQ : ∀ vs' n' h' tk, (∀ b o, s.heap.get? b = some o → b ≠ a → h'.get? b = some o) → h'.get? a = some (listOf (List.toArray vs') n') → IntsAre vs' (insI ns x) → Q .none { s with heap := h', toks := tk }) :
    wpAny (model PR w) A (call (.ref 64) [.ref a, .int x tx]) Q E s := by
  w_top off
  refine wpAny_call ?_
  refine' enterP (binds := [("a", .ref a), ("x", .int x tx), ("lo", .int 0 360), ("hi", .none), ("key", .none)]) (news := [(a, listOf vs.toArray n)]) (h₀ := h₀) X T hk₀ (fun q h => by rw [List.mem_singleton.mp h]; exact ⟨hl, hl0⟩) ?k6 ?k7 ?k8 ?k9 ?kB ?_ ?c2 ?c3 ?c4 ?c5
  (case k6 => k_is)
  (case k7 => k_is)
  (case k8 => omega)
  (case k9 => (refine' kp_binds (X.keeps hk₀) ?ke; (case ke => exact fun _ => rfl)))
  (case c5 => decide)
  (case kB => exact locs rfl)
  (case c2 => exact rfl)
  (case c3 => exact rfl)
  (case c4 => exact rfl)
  intro g L' h₁ hg hg' F N X' T'
  walk_at "my walk"
  rename Fr _ _ _ _ => F1
  rename News _ _ _ _ => N1
  refine bisect_left_spec (X'.keeps F1.keep) (T'.keeps F1.keep) (N1.isList (.head _)) hi hs (by omega) (.inr rfl) (by simp [Around.deeper]; omega) (by simp [Around.deeper]; omega) fun t h' tk hk => ?_
  have F2 := F1.keeps hk
  have N2 := News.grown N1 hk
  clear F1 N1
  walk_at "my walk"
  have hlen := IntsAre.length hi
  have hc := cntLt_le ns x
  have hfit : Builtin.List.listFitsIndex (cntLt ns x) = true := by
    unfold Builtin.List.listFitsIndex
    simp only [Bool.and_eq_true, decide_eq_true_eq]
    omega
  have hk : kl_ins vs (cntLt ns x) (.int x tx) = vs.take (cntLt ns x) ++ .int x tx :: vs.drop (cntLt ns x) := by
    unfold kl_ins
    rw [if_neg (by omega)]
    have : min (Int.toNat (cntLt ns x)) vs.length = cntLt ns x := by omega
    rw [this]
  refine kl_insert (by assumption) (by assumption) hfit hk (.head (List.forall_mem_nil _)) (by rw [sizeLine_eq]; simp; omega) fun h2 F3 N3 => ?_
  walk_at "my walk"
  refine hQ _ _ _ _ (fun b o e hb => F3.keep b o (hg' b o e (by simpa using hb))) (N3 (a, _) (.head _)).1 ?_
  exact IntsAre.append (IntsAre.take hi _) (.cons _ _ (IntsAre.drop hi _))
end Mine
end

section
open PySem PySem.W PyProof.Rows PySem.Calls
set_option Elab.async false
namespace Mine
local macro_rules | `(tactic| walk_at "my spare") => `(tactic| fail "none")
local macro_rules | `(tactic| walk_at "my spare") => `(tactic| fail "none")
local macro_rules | `(tactic| omega) => `(tactic| walk_at "shared 1")
local macro_rules | `(tactic| walk_at "my stop") => `(tactic| first | (with_reducible refine st2 ?_) | (with_reducible refine st3 ?_) | (with_reducible refine st4 ?_))
local macro_rules | `(tactic| walk_at "my walk") => `(tactic| walk_at "shared 2")
local macro_rules | `(tactic| walk_at "eval Name") => `(tactic| walk_at "shared 3")


theorem mut_upd {h₀ h h' : Heap} {L a : Addr} {m : Str → Option Value} {news news' : List (Addr × Obj)} {o o' : Obj} (F : Fr h₀ L h m) (N : News h₀ L h news) (U : Upd a o o' news news')
    (hk : ∀ b x, h.get? b = some x → b ≠ a → h'.get? b = some x) (ha : h'.get? a = some o') : Fr h₀ L h' m ∧ News h₀ L h' news' := by
  obtain ⟨pre, post, rfl, rfl, h1, h2⟩ := U.split
  have z := N (a, o) (List.mem_append.mpr (.inr (.head _)))
  obtain ⟨oL, es, ep, hL, r⟩ := F.ns
  refine ⟨⟨⟨oL, es, ep, hk _ _ hL (Ne.symm z.2.1), r⟩, fun b x e => hk _ _ (F.keep b x e) fun q => ?_, F.above⟩, fun p hp => ?_⟩
  · rw [q, z.2.2] at e; cases e
  · rcases List.mem_append.mp hp with hp | hp
    · have n := N p (List.mem_append.mpr (.inl hp))
      exact ⟨hk _ _ n.1 (h1 p hp), n.2⟩
    · rcases List.mem_cons.mp hp with rfl | hp
      · exact ⟨ha, z.2⟩
      · have n := N p (List.mem_append.mpr (.inr (.tail _ hp)))
        exact ⟨hk _ _ n.1 (h2 p hp), n.2⟩

theorem insI_perm (ns : List Int) (x : Int) : (insI ns x).Perm (x :: ns) := by
  unfold insI
  refine List.perm_middle.trans ?_
  rw [List.take_append_drop]
theorem insI_sorted {ns : List Int} {x : Int} (hs : ns.Pairwise (· ≤ ·)) : (insI ns x).Pairwise (· ≤ ·) := by
  unfold insI
  have hget : ∀ i (h : i < ns.length), ns[i] < x ↔ i < cntLt ns x := fun i h => by
    have := cntLt_at (x := x) hs h
    rwa [List.getD_eq_getElem?_getD, List.getElem?_eq_getElem h] at this
  refine List.pairwise_append.mpr ⟨hs.sublist (List.take_sublist _ _), List.pairwise_cons.mpr ⟨fun b hb => ?_, hs.sublist (List.drop_sublist _ _)⟩, fun a ha b hb => ?_⟩
  · obtain ⟨i, hi, rfl⟩ := List.getElem_of_mem hb
    rw [List.length_drop] at hi
    rw [List.getElem_drop]
    have := (not_congr (hget (cntLt ns x + i) (by omega))).mpr (by omega)
    omega
  · have hax : a < x := by
      obtain ⟨i, hi, rfl⟩ := List.getElem_of_mem ha
      rw [List.length_take] at hi
      rw [List.getElem_take]
      exact (hget i (by omega)).mpr (by omega)
    rcases List.mem_cons.mp hb with rfl | hb
    · omega
    · obtain ⟨i, hi, rfl⟩ := List.getElem_of_mem hb
      rw [List.length_drop] at hi
      rw [List.getElem_drop]
      have := (not_congr (hget (cntLt ns x + i) (by omega))).mpr (by omega)
      omega
theorem cntLt_perm {a b : List Int} (h : a.Perm b) (x : Int) : cntLt a x = cntLt b x := h.countP_eq _

set_option maxRecDepth 100000 in
set_option maxHeartbeats 8000000 in
theorem place_spec {p : Program} {loose : List Str} {mean : ExcName → Option Value} {mg mb : Str → Option Value} {w : World} {A : Around} {s : Shared} {a : Addr} {vs : List Value} {ns : List Int} {x : Int} {tx : Tok} {Q E : Value → Shared → Prop}
    (X : (hd.heap_1 w.params).In s.heap) (T : Top p loose mean mg mb s.heap)
    (hl : s.heap.IsList a vs.toArray) (hi : IntsAre vs ns) (hn : ns.length < 2 ^ 20) (hx0 : 0 ≤ x) (hx1 : x < ns.length)
    (hh : A.handled = none) (hroom : A.depth + 6 < recursionLimit) (hu : A.units + 40 < cLine)
    (hQ : ∀ t h' tk, (∀ b o, s.heap.get? b = some o → h'.get? b = some o) → Q (.int (cntLt ns (ns.getD x.toNat 0)) t) { s with heap := h', toks := tk }) :
    wpAny (model PR w) A (call (.ref 163) [.ref a, .int x tx]) Q E s := by
  w_top off
  refine wpAny_call ?_
  refine' enterP (binds := [("dots", .ref a), ("asked", .int x tx)]) (news := []) (h₀ := s.heap) X T (fun _ _ e => e) (fun _ h => nomatch h) ?k6 ?k7 ?k8 ?k9 ?kB ?_ ?c2 ?c3 ?c4 ?c5
  (case k6 => k_is)
  (case k7 => k_is)
  (case k8 => omega)
  (case k9 => exact BindsTo.of_eq rfl)
  (case c5 => decide)
  (case kB => exact locs rfl)
  (case c2 => exact rfl)
  (case c3 => exact rfl)
  (case c4 => exact rfl)
  intro g L' h₁ hg hg' F N X' T'
  replace hl : g.IsList a vs.toArray := stays_list (fun b o e => hg b o e) hl
  clear hg'
  walk_at "my walk"
  rename IntsAre _ _ => hi
  rename Fr _ _ _ _ => F1
  rename News _ _ _ _ => N1
  k_unmd
  k_fold
  refine iter_invN (fun i m news => ∃ (l : Addr) (vs' : List Value) (ns' : List Int) (n' : Nat), news = [(l, listOf vs'.toArray n')] ∧ IntsAre vs' ns' ∧ ns'.Pairwise (· ≤ ·) ∧ ns'.Perm (ns.take i) ∧
    m "held" = some (.ref l) ∧ m "dots" = some (.ref a) ∧ m "asked" = some (.int x tx)) hh hl hi F1 N1 ⟨_, [], [], _, rfl, .nil, .nil, by simp, rfl, rfl, rfl⟩ ?_ ?_
  · intro i n t m₁ news₁ h tk' own hni hadr hoff ⟨l, vs', ns', n', e0, e1, e2, e3, e4, e5, e6⟩ F2 N2
    subst e0
    clear F1 N1
    have hlen := e3.length_eq
    rw [List.length_take] at hlen
    walk_at "my walk"
    rename Fr _ _ _ _ => F3
    rename News _ _ _ _ => N3
    have hoff' := OwnOff.ne hoff (b := l) (by rw [← hadr]; exact .head _)
    refine insort_left_spec X' T' F3.keep (N3 (l, _) (.head _)).1 (N3 (l, _) (.head _)).2.2 e1 e2 (by omega) (by simp [Around.deeper]; omega) (by simp [Around.deeper]; omega) fun vs2 n2 h2 tk2 hk ha hi2 => ?_
    obtain ⟨F4, N4⟩ := mut_upd F3 N3 (.head (o' := listOf vs2.toArray n2) hoff') hk ha
    clear F3 N3
    walk_at "my walk"
    dsimp only [InvPostN, InvEndN]
    refine ⟨_, _, _, _, [(l, listOf vs2.toArray n2)], rfl, F4, N4, fun p hp => by rw [List.mem_singleton.mp hp]; exact .head _, fun p hp => .tail _ hp, by rw [← hadr]; rfl, l, vs2, insI ns' n, n2, rfl, hi2, insI_sorted e2, ?_, e4, e5, e6⟩
    refine (insI_perm _ _).trans ?_
    rw [List.take_add_one, hni]
    refine (e3.cons n).trans ?_
    exact (List.perm_append_comm (l₁ := [n]))
  · intro m₁ news₁ h tk' ⟨l, vs', ns', n', e0, e1, e2, e3, e4, e5, e6⟩ F2 N2
    subst e0
    rw [List.take_length] at e3
    have hlen := e3.length_eq
    clear F1 N1
    dsimp only
    replace F2 : Fr g L' h m₁ := F2
    replace N2 : News g L' h [(l, listOf vs'.toArray n')] := N2
    walk_at "my walk"
    rename Fr _ _ _ _ => F3
    rename News _ _ _ _ => N3
    have hs := hi
    refine bisect_left_spec (X'.keeps F3.keep) (T'.keeps F3.keep) (N3.isList (.head _)) e1 e2 (by omega) (.inl ⟨rfl, rfl⟩) (by simp [Around.deeper]; omega) (by simp [Around.deeper]; omega) fun t h2 tk2 hk => ?_
    rw [cntLt_perm e3]
    exact hQ _ _ _ fun b o e => hk _ _ (F3.keep b o (hg b o e))
end Mine
end

section
open PySem PySem.W PyProof.Rows PySem.Calls
set_option Elab.async false
namespace Mine
local macro_rules | `(tactic| omega) => `(tactic| walk_at "shared 1")
open PySem.Sre (M Op ops)
open PySem.Sre.M (runFor)
def code1 : Array Nat := #[14,4,0,1,1,6,1,16,46,1]
def code2 : Array Nat := #[14,9,4,1,2,16,10,16,13,0,7,7,16,13,16,10,15,18,5,16,10,15,13,11,16,13,5,5,0,16,10,1,15,2,0,1]


/-- at the start s of pattern 1 -/
def at1 (t : Array Nat) (s : Nat) (mu first : Bool) (h : Nat) (sn : Sre.Seen) (pc pos : Nat) (ans : Option Bool) : M :=
  { code := code1, text := t, lim := t.size, start := s, lastStart := t.size, mustAdvance := mu, pc, pos, handed := h, outermost := first, marks := #[],
    frames := [{ wait := .nextStart, pc := 5, pos := s, outermost := first }], weight := 1, answer := ans, seen := sn }

theorem step_at_yes {t s mu first h sn} (hy : (s == 0 || t.getD (s - 1) 0 == 10) = true) :
    (at1 t s mu first h sn 5 s none).step = at1 t s mu first h ((sn.add 6).add 44) 7 s none := by
  show (if (s == 0 || t.getD (s - 1) 0 == 10) = true then _ else _) = _
  rw [if_pos hy]
  rfl
theorem step_at_no {t s mu first h sn} (hy : (s == 0 || t.getD (s - 1) 0 == 10) = false) :
    (at1 t s mu first h sn 5 s none).step = at1 t s mu first h ((sn.add 6).add 44) 5 s (some false) := by
  show (if (s == 0 || t.getD (s - 1) 0 == 10) = true then _ else _) = _
  rw [if_neg (by rw [hy]; decide)]
  rfl
theorem step_lit_end {t s mu first h sn} (hy : t.size ≤ s) :
    (at1 t s mu first h sn 7 s none).step = at1 t s mu first h (sn.add 16) 7 s (some false) := by
  show (if s ≥ t.size then _ else _) = _
  rw [if_pos hy]
  rfl
theorem step_lit_no {t s mu first h sn} (hl : s < t.size) (hy : (t.getD s 0 == 46) = false) :
    (at1 t s mu first h sn 7 s none).step = at1 t s mu first h (sn.add 16) 7 s (some false) := by
  show (if s ≥ t.size then _ else (match (Except.ok (t.getD s 0 == 46, sn.add 16) : Except String (Bool × Sre.Seen)) with | .error why => _ | .ok (false, seen) => _ | .ok (true, seen) => _)) = _
  rw [if_neg (by omega), hy]
  rfl
theorem step_lit_yes {t s mu first h sn} (hl : s < t.size) (hy : (t.getD s 0 == 46) = true) :
    (at1 t s mu first h sn 7 s none).step = at1 t s mu first h (sn.add 16) 9 (s + 1) none := by
  show (if s ≥ t.size then _ else (match (Except.ok (t.getD s 0 == 46, sn.add 16) : Except String (Bool × Sre.Seen)) with | .error why => _ | .ok (false, seen) => _ | .ok (true, seen) => _)) = _
  rw [if_neg (by omega), hy]
  rfl
theorem step_succ {t s mu first h sn} :
    (at1 t s mu first h sn 9 (s + 1) none).step = at1 t s mu first (s + 1) (sn.add 1) 9 (s + 1) (some true) := by
  show (if (first && ((false && (s + 1 != t.size)) || (mu && (s + 1 == s)))) = true then _ else _) = _
  rw [if_neg (by simp)]
  rfl
def at1e (t : Array Nat) (s : Nat) (mu first : Bool) (h : Nat) (sn : Sre.Seen) (pc pos : Nat) (ans : Option Bool) (out : Option Sre.Outcome) : M :=
  { code := code1, text := t, lim := t.size, start := s, lastStart := t.size, mustAdvance := mu, pc, pos, handed := h, outermost := first, marks := #[],
    frames := [], weight := 0, answer := ans, seen := sn, outcome := out }
theorem step_yes {t s mu first h sn pc pos} : (at1 t s mu first h sn pc pos (some true)).step = at1e t s mu first h sn 5 s (some true) none := rfl
theorem step_done {t s mu first h sn pc pos b} : (at1e t s mu first h sn pc pos (some b) none).step = at1e t s mu first h sn pc pos (some b) (some (if b then .matched else .failed)) := rfl
theorem step_next {t s mu first h sn pc pos} (hl : s < t.size) : (at1 t s mu first h sn pc pos (some false)).step = at1 t (s + 1) false false (s + 1) sn 5 (s + 1) none := by
  show (if s < t.size then _ else _) = _
  rw [if_pos hl]
  rfl
theorem step_last {t s mu first h sn pc pos} (hl : t.size ≤ s) : (at1 t s mu first h sn pc pos (some false)).step = at1e t s mu first h sn 5 s (some false) none := by
  show (if s < t.size then _ else _) = _
  rw [if_neg (by omega)]
  rfl

/-- the machine comes to its end within n steps, at m' -/
def Ends (n : Nat) (m m' : M) : Prop := runFor n m = m' ∧ m'.outcome.isSome = true
theorem Ends.step {n : Nat} {m m' m₁ : M} (h : Ends n m₁ m') (ho : m.outcome = none) (e : m.step = m₁) : Ends (n + 1) m m' := by
  refine ⟨?_, h.2⟩
  show (if m.outcome.isSome then m else runFor n m.step) = m'
  rw [ho, e, if_neg (by decide)]
  exact h.1
theorem Ends.zero {m : M} (h : m.outcome.isSome = true) : Ends 0 m m := ⟨rfl, h⟩
theorem runFor_done {m : M} (h : m.outcome.isSome = true) : ∀ n, runFor n m = m
  | 0 => rfl
  | n + 1 => by
    show (if m.outcome.isSome then m else runFor n m.step) = m
    rw [if_pos h]
theorem runFor_add (a b : Nat) (m : M) : runFor (a + b) m = runFor b (runFor a m) := by
  induction a generalizing m with
  | zero => rw [Nat.zero_add]; rfl
  | succ a ih =>
    rw [Nat.add_right_comm]
    show (if m.outcome.isSome then m else runFor (a + b) m.step) = runFor b (if m.outcome.isSome then m else runFor a m.step)
    by_cases h : m.outcome.isSome = true
    · rw [if_pos h, if_pos h, runFor_done h]
    · rw [if_neg h, if_neg h, ih]
theorem Ends.more {n k : Nat} {m m' : M} (h : Ends n m m') : runFor (n + k) m = m' := by rw [runFor_add, h.1, runFor_done h.2]

def hit1 (t : Array Nat) (s : Nat) : Bool := (s == 0 || t.getD (s - 1) 0 == 10) && (decide (s < t.size) && (t.getD s 0 == 46))

/-- what a search from s finds: the first place at which P holds, or none -/
def firstAt (P : Nat → Bool) : (fuel s : Nat) → Option Nat
  | 0, _ => none
  | fuel + 1, s => if P s then some s else firstAt P fuel (s + 1)

theorem search1 (t : Array Nat) : ∀ (d s : Nat) (mu first : Bool) (h : Nat) (sn : Sre.Seen), s + d = t.size →
    ∃ n m', n ≤ 4 * d + 10 ∧ Ends n (at1 t s mu first h sn 5 s none) m' ∧
      (match firstAt (hit1 t) (d + 1) s with
       | some b => m'.outcome = some .matched ∧ m'.start = b ∧ m'.handed = b + 1
       | none => m'.outcome = some .failed) := by
  intro d
  induction d with
  | zero =>
    intro s mu first h sn e
    have hs : t.size ≤ s := by omega
    have hf : firstAt (hit1 t) (0 + 1) s = none := by
      have : hit1 t s = false := by
        unfold hit1
        rw [decide_eq_false (by omega : ¬ s < t.size), Bool.false_and, Bool.and_false]
      simp [firstAt, this]
    rw [hf]
    cases hy : (s == 0 || t.getD (s - 1) 0 == 10) with
    | true => exact ⟨_, _, by omega, (((((Ends.zero rfl).step rfl step_done).step rfl (step_last hs)).step rfl (step_lit_end hs)).step rfl (step_at_yes hy)), rfl⟩
    | false => exact ⟨_, _, by omega, ((((Ends.zero rfl).step rfl step_done).step rfl (step_last hs)).step rfl (step_at_no hy)), rfl⟩
  | succ d ih =>
    intro s mu first h sn e
    have hs : s < t.size := by omega
    have hfs : firstAt (hit1 t) (d + 1 + 1) s = if hit1 t s then some s else firstAt (hit1 t) (d + 1) (s + 1) := rfl
    rw [hfs]
    cases hy : (s == 0 || t.getD (s - 1) 0 == 10) with
    | true =>
      cases hz : (t.getD s 0 == 46) with
      | true =>
        have hh : hit1 t s = true := by unfold hit1; rw [hy, hz, decide_eq_true hs]; rfl
        rw [hh, if_pos rfl]
        exact ⟨_, _, by omega, ((((((Ends.zero rfl).step rfl step_done).step rfl step_yes).step rfl step_succ).step rfl (step_lit_yes hs hz)).step rfl (step_at_yes hy)), rfl, rfl, rfl⟩
      | false =>
        have hh : hit1 t s = false := by unfold hit1; rw [hz, Bool.and_false, Bool.and_false]
        rw [hh, if_neg (by decide)]
        obtain ⟨n, m', hn, he, hp⟩ := ih (s + 1) false false (s + 1) ((((sn.add 6).add 44)).add 16) (by omega)
        exact ⟨_, m', by omega, (((he.step rfl (step_next hs)).step rfl (step_lit_no hs hz)).step rfl (step_at_yes hy)), hp⟩
    | false =>
      have hh : hit1 t s = false := by unfold hit1; rw [hy, Bool.false_and]
      rw [hh, if_neg (by decide)]
      obtain ⟨n, m', hn, he, hp⟩ := ih (s + 1) false false (s + 1) ((sn.add 6).add 44) (by omega)
      exact ⟨_, m', by omega, ((he.step rfl (step_next hs)).step rfl (step_at_no hy)), hp⟩

def mk2 (t : Array Nat) (s : Nat) (mu : Bool) (h : Nat) (sn : Sre.Seen) (pc pos : Nat) (om : Bool) (fr : List Sre.Frame) (wt : Nat) (ans : Option Bool) (out : Option Sre.Outcome) : M :=
  { code := code2, text := t, lim := t.size, start := s, lastStart := t.size, mustAdvance := mu, pc, pos, handed := h, outermost := om, marks := #[],
    frames := fr, weight := wt, answer := ans, seen := sn, outcome := out }
def frS (s : Nat) (first : Bool) : Sre.Frame := { wait := .nextStart, pc := 10, pos := s, outermost := first }
def frB (s : Nat) (first : Bool) (alt : Nat) : Sre.Frame := { wait := .nextBranch, pc := alt, pos := s, outermost := first }
def frL (s : Nat) (first : Bool) : Sre.Frame := { wait := .lookNot, pc := 26, pos := s, outermost := first }

section
variable {t : Array Nat} {s h : Nat} {mu f : Bool} {sn : Sre.Seen}
theorem b_open : (mk2 t s mu h sn 10 s f [frS s f] 1 none none).step = mk2 t s mu s (sn.add 7) 12 s f [frB s f 11, frS s f] 2 none none := rfl
theorem b_next1 {pc pos om} : (mk2 t s mu h sn pc pos om [frB s f 11, frS s f] 2 (some false) none).step = mk2 t s mu s sn 19 s f [frB s f 18, frS s f] 2 none none := rfl
theorem b_next2 {pc pos om} : (mk2 t s mu h sn pc pos om [frB s f 18, frS s f] 2 (some false) none).step = mk2 t s mu s sn 24 s f [frB s f 23, frS s f] 2 none none := rfl
theorem b_yes {pc pos om a} : (mk2 t s mu h sn pc pos om [frB s f a, frS s f] 2 (some true) none).step = mk2 t s mu h sn a s f [frS s f] 1 (some true) none := rfl
theorem s_yes {pc pos om} : (mk2 t s mu h sn pc pos om [frS s f] 1 (some true) none).step = mk2 t s mu h sn 10 s f [] 0 (some true) none := rfl
theorem m_done {pc pos om b} : (mk2 t s mu h sn pc pos om [] 0 (some b) none).step = mk2 t s mu h sn pc pos om [] 0 (some b) (some (if b then .matched else .failed)) := rfl
theorem m_done1 {pc pos om b} : (mk2 t s mu h sn pc pos om [] 1 (some b) none).step = mk2 t s mu h sn pc pos om [] 1 (some b) (some (if b then .matched else .failed)) := rfl
theorem j16 {pos fr wt} : (mk2 t s mu h sn 16 pos f fr wt none none).step = mk2 t s mu h (sn.add 15) 35 pos f fr wt none none := rfl
theorem j21 {pos fr wt} : (mk2 t s mu h sn 21 pos f fr wt none none).step = mk2 t s mu h (sn.add 15) 35 pos f fr wt none none := rfl
theorem j32 {pos fr wt} : (mk2 t s mu h sn 32 pos f fr wt none none).step = mk2 t s mu h (sn.add 15) 35 pos f fr wt none none := rfl
theorem s35 {pos fr wt} (hp : s < pos) : (mk2 t s mu h sn 35 pos f fr wt none none).step = mk2 t s mu pos (sn.add 1) 35 pos f fr wt (some true) none := by
  show (if (f && ((false && (pos != t.size)) || (mu && (pos == s)))) = true then _ else _) = _
  rw [if_neg (by
    have : (pos == s) = false := by simp; omega
    simp [this])]
  rfl
theorem l12 {c : Nat} {fr wt} (hl : s < t.size) (hc : t.getD s 0 = c) : (mk2 t s mu h sn 12 s f fr wt none none).step = if c == 13 then mk2 t s mu h (sn.add 16) 14 (s + 1) f fr wt none none else mk2 t s mu h (sn.add 16) 12 s f fr wt (some false) none := by
  subst hc
  show (if s ≥ t.size then _ else (match (Except.ok (t.getD s 0 == 13, sn.add 16) : Except String (Bool × Sre.Seen)) with | .error why => _ | .ok (false, seen) => _ | .ok (true, seen) => _)) = _
  rw [if_neg (by omega)]
  cases t.getD s 0 == 13 <;> rfl
theorem l14_end {p : Nat} {fr wt} (hl : t.size ≤ p) : (mk2 t s mu h sn 14 p f fr wt none none).step = mk2 t s mu h (sn.add 16) 14 p f fr wt (some false) none := by
  show (if p ≥ t.size then _ else _) = _
  rw [if_pos hl]
  rfl
theorem l14 {p c : Nat} {fr wt} (hl : p < t.size) (hc : t.getD p 0 = c) : (mk2 t s mu h sn 14 p f fr wt none none).step = if c == 10 then mk2 t s mu h (sn.add 16) 16 (p + 1) f fr wt none none else mk2 t s mu h (sn.add 16) 14 p f fr wt (some false) none := by
  subst hc
  show (if p ≥ t.size then _ else (match (Except.ok (t.getD p 0 == 10, sn.add 16) : Except String (Bool × Sre.Seen)) with | .error why => _ | .ok (false, seen) => _ | .ok (true, seen) => _)) = _
  rw [if_neg (by omega)]
  cases t.getD p 0 == 10 <;> rfl
theorem l19 {c : Nat} {fr wt} (hl : s < t.size) (hc : t.getD s 0 = c) : (mk2 t s mu h sn 19 s f fr wt none none).step = if c == 10 then mk2 t s mu h (sn.add 16) 21 (s + 1) f fr wt none none else mk2 t s mu h (sn.add 16) 19 s f fr wt (some false) none := by
  subst hc
  show (if s ≥ t.size then _ else (match (Except.ok (t.getD s 0 == 10, sn.add 16) : Except String (Bool × Sre.Seen)) with | .error why => _ | .ok (false, seen) => _ | .ok (true, seen) => _)) = _
  rw [if_neg (by omega)]
  cases t.getD s 0 == 10 <;> rfl
theorem l24 {c : Nat} {fr wt} (hl : s < t.size) (hc : t.getD s 0 = c) : (mk2 t s mu h sn 24 s f fr wt none none).step = if c == 13 then mk2 t s mu h (sn.add 16) 26 (s + 1) f fr wt none none else mk2 t s mu h (sn.add 16) 24 s f fr wt (some false) none := by
  subst hc
  show (if s ≥ t.size then _ else (match (Except.ok (t.getD s 0 == 13, sn.add 16) : Except String (Bool × Sre.Seen)) with | .error why => _ | .ok (false, seen) => _ | .ok (true, seen) => _)) = _
  rw [if_neg (by omega)]
  cases t.getD s 0 == 13 <;> rfl
theorem a26 {p : Nat} {fr} : (mk2 t s mu h sn 26 p f fr 2 none none).step = mk2 t s mu p (sn.add 5) 29 p false (frL p f :: fr) 3 none none := rfl
theorem l29_end {p : Nat} {fr wt} (hl : t.size ≤ p) : (mk2 t s mu h sn 29 p false fr wt none none).step = mk2 t s mu h (sn.add 16) 29 p false fr wt (some false) none := by
  show (if p ≥ t.size then _ else _) = _
  rw [if_pos hl]
  rfl
theorem l29 {p c : Nat} {fr wt} (hl : p < t.size) (hc : t.getD p 0 = c) (hn : (c == 10) = false) : (mk2 t s mu h sn 29 p false fr wt none none).step = mk2 t s mu h (sn.add 16) 29 p false fr wt (some false) none := by
  subst hc
  show (if p ≥ t.size then _ else (match (Except.ok (t.getD p 0 == 10, sn.add 16) : Except String (Bool × Sre.Seen)) with | .error why => _ | .ok (false, seen) => _ | .ok (true, seen) => _)) = _
  rw [if_neg (by omega), hn]
  rfl
theorem k26 {p pc pos : Nat} {fr} {om} : (mk2 t s mu h sn pc pos om (frL p f :: fr) 3 (some false) none).step = mk2 t s mu h sn 32 p f fr 2 none none := rfl

/-- the length of the end that stands at s -/
def endLen (t : Array Nat) (s : Nat) : Nat := if t.getD s 0 == 13 && (decide (s + 1 < t.size) && t.getD (s + 1) 0 == 10) then 2 else 1
def isEnd (t : Array Nat) (s : Nat) : Bool := decide (s < t.size) && (t.getD s 0 == 10 || t.getD s 0 == 13)

theorem match2 (hb : isEnd t s = true) : ∃ n m', n ≤ 30 ∧ Ends n (mk2 t s mu h sn 10 s f [frS s f] 1 none none) m' ∧ m'.outcome = some .matched ∧ m'.start = s ∧ m'.handed = s + endLen t s := by
  unfold isEnd at hb
  rw [Bool.and_eq_true, decide_eq_true_eq] at hb
  obtain ⟨hs, hc⟩ := hb
  by_cases h10 : t.getD s 0 = 10
  · have e : endLen t s = 1 := by unfold endLen; rw [h10]; rfl
    rw [e]
    exact ⟨_, _, by omega, (((((((((Ends.zero rfl).step rfl m_done).step rfl s_yes).step rfl b_yes).step rfl (s35 (by omega))).step rfl j21).step rfl (l19 hs h10)).step rfl b_next1).step rfl (l12 hs h10)).step rfl b_open, rfl, rfl, rfl⟩
  · have h13 : t.getD s 0 = 13 := by
      rw [Bool.or_eq_true, beq_iff_eq, beq_iff_eq] at hc
      exact hc.resolve_left h10
    by_cases hs1 : s + 1 < t.size
    · by_cases hd : t.getD (s + 1) 0 = 10
      · have e : endLen t s = 2 := by unfold endLen; rw [h13, hd, decide_eq_true hs1]; rfl
        rw [e]
        exact ⟨_, _, by omega, ((((((((Ends.zero rfl).step rfl m_done).step rfl s_yes).step rfl b_yes).step rfl (s35 (by omega))).step rfl j16).step rfl (l14 hs1 hd)).step rfl (l12 hs h13)).step rfl b_open, rfl, rfl, rfl⟩
      · have hd' : (t.getD (s + 1) 0 == 10) = false := by simpa using hd
        have e : endLen t s = 1 := by unfold endLen; rw [hd', Bool.and_false, Bool.and_false]; rfl
        rw [e]
        have e14 := l14 (mu := mu) (h := s) (f := f) (s := s) (sn := (sn.add 7).add 16) (fr := [frB s f 11, frS s f]) (wt := 2) hs1 rfl
        rw [hd', if_neg Bool.false_ne_true] at e14
        exact ⟨_, _, by omega, ((((((((((((((Ends.zero rfl).step rfl m_done).step rfl s_yes).step rfl b_yes).step rfl (s35 (by omega))).step rfl j32).step rfl k26).step rfl (l29 hs1 rfl hd')).step rfl a26).step rfl (l24 hs h13)).step rfl b_next2).step rfl (l19 hs h13)).step rfl b_next1).step rfl e14).step rfl (l12 hs h13) |>.step rfl b_open, rfl, rfl, rfl⟩
    · have e : endLen t s = 1 := by unfold endLen; rw [decide_eq_false hs1, Bool.false_and, Bool.and_false]; rfl
      rw [e]
      have hs2 : t.size ≤ s + 1 := by omega
      exact ⟨_, _, by omega, ((((((((((((((Ends.zero rfl).step rfl m_done).step rfl s_yes).step rfl b_yes).step rfl (s35 (by omega))).step rfl j32).step rfl k26).step rfl (l29_end hs2)).step rfl a26).step rfl (l24 hs h13)).step rfl b_next2).step rfl (l19 hs h13)).step rfl b_next1).step rfl (l14_end hs2)).step rfl (l12 hs h13) |>.step rfl b_open, rfl, rfl, rfl⟩
end

def seen2 (c : Nat) (sn : Sre.Seen) : Sre.Seen := if c == 10 then sn.add 16 else if c == 13 then (sn.add 16).add 16 else ((sn.add 16).add 16).add 0
theorem inSet2 (c : Nat) (sn : Sre.Seen) : Sre.inSet code2 c code2.size 5 true sn = .ok (c == 10 || c == 13, seen2 c sn) := by
  show (if c == 10 then (Except.ok (true, sn.add 16) : Except String (Bool × Sre.Seen)) else if c == 13 then .ok (true, (sn.add 16).add 16) else .ok (false, ((sn.add 16).add 16).add 0)) = _
  unfold seen2
  cases c == 10 <;> cases c == 13 <;> rfl

theorem admitted2 (m : M) (hc : m.code = code2) (hl : m.lim = m.text.size) : ∀ (d s : Nat) (sn : Sre.Seen), s + d = m.text.size →
    ∃ sn', Sre.M.admitted m (d + 1) s sn = .ok (firstAt (isEnd m.text) (d + 1) s, sn') := by
  intro d
  induction d with
  | zero =>
    intro s sn e
    have hs : ¬ s < m.text.size := by omega
    refine ⟨sn, ?_⟩
    unfold Sre.M.admitted
    rw [hl, if_pos (by omega)]
    have : isEnd m.text s = false := by unfold isEnd; rw [decide_eq_false hs, Bool.false_and]
    simp [firstAt, this]
  | succ d ih =>
    intro s sn e
    have hs : s < m.text.size := by omega
    unfold Sre.M.admitted
    rw [hl, if_neg (by omega), hc, inSet2]
    have hfs : firstAt (isEnd m.text) (d + 1 + 1) s = if isEnd m.text s then some s else firstAt (isEnd m.text) (d + 1) (s + 1) := rfl
    rw [hfs]
    have : isEnd m.text s = (m.text.getD s 0 == 10 || m.text.getD s 0 == 13) := by unfold isEnd; rw [decide_eq_true hs, Bool.true_and]
    rw [this]
    cases (m.text.getD s 0 == 10 || m.text.getD s 0 == 13) with
    | true => exact ⟨_, rfl⟩
    | false => exact ih (s + 1) _ (by omega)

theorem forSearch1 (t : Array Nat) (p : Nat) (mu : Bool) (hp : p ≤ t.size) :
    ∃ n m', n ≤ 4 * (t.size - p) + 40 ∧ Ends n (Sre.forSearch code1 t 0 p t.size mu) m' ∧
      (match firstAt (hit1 t) (t.size - p + 1) p with
       | some b => m'.outcome = some .matched ∧ m'.start = b ∧ m'.handed = b + 1
       | none => m'.outcome = some .failed) := by
  by_cases hlt : p < t.size
  · have e : Sre.forSearch code1 t 0 p t.size mu = at1 t p mu true p (({} : Sre.Seen).add 14) 5 p none := by
      show (if (decide (p > t.size) || decide (t.size - p < 1)) = true then _ else _) = _
      rw [if_neg (by simp; omega)]
      rfl
    rw [e]
    obtain ⟨n, m', hn, he, hq⟩ := search1 t (t.size - p) p mu true p (({} : Sre.Seen).add 14) (by omega)
    exact ⟨n, m', by omega, he, hq⟩
  · have hpe : p = t.size := by omega
    have hf : firstAt (hit1 t) (t.size - p + 1) p = none := by
      have : hit1 t p = false := by
        unfold hit1
        rw [decide_eq_false hlt, Bool.false_and, Bool.and_false]
      rw [show t.size - p = 0 by omega]
      simp [firstAt, this]
    rw [hf]
    refine ⟨1, _, by omega, (Ends.zero ?_).step ?_ rfl, ?_⟩
    · unfold Sre.forSearch
      simp only [show (decide (p > t.size) || decide (t.size - p < (Sre.header code1).1)) = true by rw [Bool.or_eq_true, decide_eq_true_eq, decide_eq_true_eq]; right; show t.size - p < 1; omega, if_true]
      rfl
    · unfold Sre.forSearch
      simp only [show (decide (p > t.size) || decide (t.size - p < (Sre.header code1).1)) = true by rw [Bool.or_eq_true, decide_eq_true_eq, decide_eq_true_eq]; right; show t.size - p < 1; omega, if_true]
      rfl
    · unfold Sre.forSearch
      simp only [show (decide (p > t.size) || decide (t.size - p < (Sre.header code1).1)) = true by rw [Bool.or_eq_true, decide_eq_true_eq, decide_eq_true_eq]; right; show t.size - p < 1; omega, if_true]
      rfl
end Mine
end

section
open PySem PySem.W PyProof.Rows PySem.Calls
set_option Elab.async false
namespace Mine
local macro_rules | `(tactic| walk_at "my spare") => `(tactic| fail "none")
local macro_rules | `(tactic| omega) => `(tactic| walk_at "shared 1")
open PySem.Sre (M Op ops)
open PySem.Sre.M (runFor)
open PySem.Builtin PySem.Builtin.Re

theorem slot_sub : Slot "re.Pattern" "sub" "re.Pattern.sub" :=
  .of (owner := "re.Pattern") (n := "sub") (by rw [typeLookup_type, builtinLookup_eq_fast]; kernel_rfl) (by decide +kernel) (by decide +kernel) (by decide +kernel)
    (by first | exact .inl (by decide +kernel) | exact .inr (by decide +kernel)) (by rw [isSubtype_type]; kernel_rfl)
theorem type_sub : typeOf (.builtin "re.Pattern.sub") = pure (.type "method_descriptor") := by show builtinType _ = _; rw [builtinType_eq_fast]; kernel_rfl
theorem entry_sub : entryFor table "re.Pattern.sub" = some Builtin.«re.Pattern.sub» := entryFor_of_tree (by kernel_rfl)
theorem entry_loop : entryFor table "re.Pattern.sub.loop" = some Builtin.«re.Pattern.sub.loop» := entryFor_of_tree (by kernel_rfl)
theorem plain_loop : plainId "re.Pattern.sub.loop" = true := by decide +kernel

section
variable {Mo : Model} {A : Around} {E : Value → Shared → Prop} {s : Shared}
theorem drive {Q : M → Shared → Prop} {m' : M} (hq : Q m' s) : ∀ (k n : Nat) (m : M), Ends n m m' → n ≤ 4 * k → 0 < k → wpAny Mo A (reDrive k m) Q E s := by
  intro k
  induction k with
  | zero => intro n m _ _ h; omega
  | succ k ih =>
    intro n m he hn _
    unfold reDrive
    by_cases h4 : n ≤ 4
    · have e : m.runFor reTurnSteps = m' := by
        have := he.more (k := 4 - n)
        rwa [Nat.add_sub_cancel' h4] at this
      simp only [e, he.2, if_true]
      exact wpAny_pure hq
    · by_cases ho : (m.runFor reTurnSteps).outcome.isSome = true
      · have e : m.runFor reTurnSteps = m' := by
          have h1 := he.1
          rw [show n = 4 + (n - 4) by omega, runFor_add] at h1
          rw [← h1]
          exact (runFor_done ho _).symm
        simp only [e, he.2, if_true]
        exact wpAny_pure hq
      · simp only [ho]
        refine wpAny_bind (wpAny_rule ?_)
        refine ih (n - 4) _ ⟨?_, he.2⟩ (by omega) (by omega)
        have h1 := he.1
        rw [show n = 4 + (n - 4) by omega, runFor_add] at h1
        exact h1

theorem forRules {α : Type} {f : α → PUnit → Sem (ForInStep PUnit)} {Q : PUnit → Shared → Prop} (hf : ∀ a b (Q' : ForInStep PUnit → Shared → Prop), Q' (.yield ⟨⟩) s → wpAny Mo A (f a b) Q' E s) (h : Q ⟨⟩ s) :
    ∀ l : List α, wpAny Mo A (forIn l ⟨⟩ f) Q E s
  | [] => wpAny_pure h
  | a :: r => by
    rw [List.forIn_cons]
    exact wpAny_bind (hf a _ _ (forRules hf h r))

theorem runEnd {n : Nat} {m m' : M} {Q : Option M → Shared → Prop} (he : Ends n m m') (hn : n ≤ 2 ^ 40)
    (h : match m'.outcome with | some .matched => Q (some m') s | some .failed => Q none s | _ => False) : wpAny Mo A (reRunToEnd m) Q E s := by
  unfold reRunToEnd
  refine wpAny_bind (drive ?_ (2 ^ 64) n m he (by omega) (by omega))
  refine wpAny_bind (forRules ?_ ?_ _)
  · intro a b Q' hq
    split
    · exact wpAny_bind (wpAny_rule (wpAny_pure hq))
    · exact wpAny_pure hq
  · generalize m'.outcome = o at h
    match o, h with
    | some .matched, h => exact wpAny_pure h
    | some .failed, h => exact wpAny_pure h
end

/-- what a substitution leaves, from the place p on -/
def subT (nxt : Nat → Option (Nat × Nat)) (r x : List Nat) : Nat → Nat → List Nat
  | 0, p => x.drop p
  | f + 1, p => match nxt p with
    | none => x.drop p
    | some (b, e) => (x.drop p).take (b - p) ++ (r ++ subT nxt r x f e)

structure Finds (cd t : Array Nat) (nxt : Nat → Option (Nat × Nat)) : Prop where
  find : ∀ p mu, p ≤ t.size → ∃ n m', n ≤ 2 ^ 40 ∧ Ends n (Sre.forSearch cd t 0 p t.size mu) m' ∧
      (match nxt p with
       | some (b, e) => m'.outcome = some .matched ∧ m'.start = b ∧ m'.handed = e
       | none => m'.outcome = some .failed)
  lies : ∀ p b e, p ≤ t.size → nxt p = some (b, e) → p ≤ b ∧ b < e ∧ e ≤ t.size

abbrev tgt (P : Addr) (cd : Array Nat) (x : Str) (tx : Tok) : ReTarget := { pattern := .ref P, string := .str x tx, code := cd, text := x.cps, kind := 0, groups := 0, pos := 0, lim := x.cps.size }


def flat (l : List (Str × Tok)) : List Nat := (l.map (·.1.cps.toList)).flatten
theorem flat_snoc (l : List (Str × Tok)) (y : Str) (t : Tok) : flat (l ++ [(y, t)]) = flat l ++ y.cps.toList := by simp [flat]
theorem join_empty : ∀ texts : List Str, (Str.join ⟨#[]⟩ texts).cps.toList = (texts.map (·.cps.toList)).flatten
  | [] => rfl
  | [x] => by simp [Str.join]
  | x :: y :: r => by
    have ih := join_empty (y :: r)
    show ((x ++ (⟨#[]⟩ : Str) ++ Str.join ⟨#[]⟩ (y :: r)).cps).toList = _
    show (((x.cps ++ #[]) ++ (Str.join ⟨#[]⟩ (y :: r)).cps)).toList = _
    rw [Array.toList_append, ih]
    simp
theorem flat_texts (l : List (Str × Tok)) : ((l.map (·.1)).map (·.cps.toList)).flatten = flat l := by simp [flat, Function.comp_def]
theorem flat_length (l : List (Str × Tok)) : ((l.map (·.1)).map (·.length)).sum = (flat l).length := by
  induction l with
  | nil => rfl
  | cons a r ih =>
    have : flat (a :: r) = a.1.cps.toList ++ flat r := by simp [flat]
    rw [this, List.length_append, List.map_cons, List.map_cons, List.sum_cons, ih]
    rfl

section
variable {prog : Program} {w : World} {A : Around} {E : Value → Shared → Prop} {s : Shared} {L : Addr} {l : List (Str × Tok)} {v : Nat}
theorem push_ {Q : Unit → Shared → Prop} {y : Str} {t : Tok} (hl : s.heap.get? L = some (listOf (strValues l).toArray v)) (hz : l.length ≤ 2 ^ 20)
    (h : ∀ h', (∀ b o, s.heap.get? b = some o → b ≠ L → h'.get? b = some o) → h'.get? L = some (listOf (strValues (l ++ [(y, t)])).toArray (v + 1)) → Q () { s with heap := h' }) :
    wpAny (model prog w) A (updateSeq L (fun x => x.push (.str y t))) Q E s := by
  have hlen : (strValues l).length = l.length := by simp [strValues]
  refine wpAny_updateSeq hl rfl (h _ (fun b o e hb => (Heap.get?_update_ne _ _ _ _ hb).trans e) ?_) ?_ ?_
  · have q := IsL.update (n := v) hl (fun x => x.push (.str y t))
    rw [if_neg (by simp)] at q
    have e : (strValues l).toArray.push (.str y t) = (strValues (l ++ [(y, t)])).toArray := by simp [strValues]
    rw [← e]
    exact q
  · rw [sizeLine_eq, List.size_toArray, hlen]; omega
  · rw [sizeLine_eq, Array.size_push, List.size_toArray, hlen]; omega

def finTree (x : Str) (L : Addr) : Sem PySem.Fin := do
  let joiner ← reSlice x.cps 0 0 0
  let text ← if ((← seqItems? (.ref L)).getD #[]).isEmpty then pure joiner else call (.builtin "str.join") [joiner, .ref L]
  ret text
theorem fin_ {x : Str} {Q : PySem.Fin → Shared → Prop} (hl : s.heap.get? L = some (listOf (strValues l).toArray v)) (hz : (flat l).length ≤ 2 ^ 20)
    (h : ∀ tk t, Q (.done (.ret (.str ⟨(flat l).toArray⟩ t))) { s with toks := tk }) : wpAny (model prog w) A (finTree x L) Q E s := by
  unfold finTree
  refine wpAny_bind ?_
  show wpAny _ _ (mkStr ⟨x.cps.extract 0 0⟩) _ _ _
  have e0 : x.cps.extract 0 0 = #[] := by simp
  rw [e0]
  refine wpAny_mkStr ?_ (by show 0 ≤ sizeLine; omega)
  refine wpAny_bind (wpAny_seqItems (s := { s with toks := s.toks + 1 }) hl rfl ?_)
  cases l with
  | nil =>
    refine wpAny_ite ?_
    rw [if_pos (by rfl)]
    exact wpAny_bind (wpAny_pure (wpAny_pure (h _ _)))
  | cons a r =>
    refine wpAny_ite ?_
    rw [if_neg (by simp [strValues])]
    refine wpAny_bind (SC.join (l := a :: r) (texts := (a :: r).map (·.1)) ⟨_, hl, rfl, _, rfl⟩ rfl ?_ fun t' k => ?_)
    · unfold JoinOk
      rw [Bool.not_eq_true', StrLaws.joinTotal, flat_length]
      unfold PySem.Builtin.Str.tooLong
      rw [sizeLine_eq]
      simp
      show (flat (a :: r)).length + _ ≤ _
      simp [Str.length]
      omega
    · have e : Txt.join ⟨#[]⟩ ((a :: r).map (·.1)) = ⟨(flat (a :: r)).toArray⟩ := by
        show PySem.Builtin.Str.glued ⟨#[]⟩ _ = _
        rw [StrLaws.glued_eq_join]
        have := join_empty ((a :: r).map (·.1))
        rw [flat_texts] at this
        rw [← this]
      rw [e]
      exact wpAny_pure (h _ _)
end

set_option maxHeartbeats 4000000 in
theorem sub_loop {w : World} {A : Around} {P L : Addr} {cd : Array Nat} {x r : Str} {tx tr : Tok} {nxt : Nat → Option (Nat × Nat)} {R : Result → Shared → Prop} {h₀ : Heap}
    (hT : Looks (model PR w) h₀ (reWholeTarget (.ref P) (.str x tx)) (tgt P cd x tx)) (F : Finds cd x.cps nxt) (hL : h₀.get? L = none) :
    ∀ (f p n : Nat) (mu : Bool) (l : List (Str × Tok)) (v : Nat) (s : Shared), x.cps.size < p + f → p ≤ x.cps.size → (∀ b o, h₀.get? b = some o → s.heap.get? b = some o) →
      s.heap.get? L = some (listOf (strValues l).toArray v) → l.length + 2 * f ≤ 2 ^ 20 → (flat l ++ subT nxt r.cps.toList x.cps.toList f p).length ≤ 2 ^ 20 → 
      (∀ h' tk t, (∀ b o, s.heap.get? b = some o → b ≠ L → h'.get? b = some o) → R (.ok (.ret (.str ⟨(flat l ++ subT nxt r.cps.toList x.cps.toList f p).toArray⟩ t))) { s with heap := h', toks := tk }) →
      codeAny (model PR w) A (.builtin "re.Pattern.sub.loop" ⟨[.ref P, .str x tx, .str r tr, rawInt 0, rawInt 0, rawInt n, rawInt p, rawInt p, .bool mu, .ref L, .bool false], []⟩) R s := by
  w_top off
  intro f
  induction f with
  | zero => intro p n mu l v s h1 h2; omega
  | succ f ih =>
    intro p n mu l v s h1 h2 hk hl hc hlen hR
    refine codeAny_builtin entry_loop ?_
    rw [Around.under_plainId plain_loop]
    unfold Builtin.«re.Pattern.sub.loop»
    refine wpAny_bind ((hT.keeps hk).here ?_)
    show wpAny _ _ (pure () >>= _) _ _ _
    refine wpAny_bind (wpAny_pure ?_)
    dsimp only
    have hpn : (p : Int).toNat = p := Int.toNat_natCast p
    obtain ⟨k, m', hkn, he, hm⟩ := F.find p mu h2
    have hnx : (if ((0 : Int) != 0 && decide ((n : Int) ≥ 0)) = true then pure none else reNextFound (tgt P cd x tx) (p : Int).toNat mu) = reRunToEnd (Sre.forSearch cd x.cps 0 p x.cps.size mu) := by
      rw [hpn]; rfl
    rw [hnx]
    have hsub : subT nxt r.cps.toList x.cps.toList (f + 1) p = match nxt p with
      | none => x.cps.toList.drop p
      | some (b, e) => (x.cps.toList.drop p).take (b - p) ++ (r.cps.toList ++ subT nxt r.cps.toList x.cps.toList f e) := rfl
    rw [hsub] at hlen hR
    cases hn : nxt p with
    | none =>
      rw [hn] at hm hlen hR
      dsimp only at hm hlen hR
      refine wpAny_bind (runEnd he hkn (by
        rw [hm]
        dsimp only
        rw [hpn]
        have fin : ∀ (l' : List (Str × Tok)) (v' : Nat) (s' : Shared), flat l' = flat l ++ x.cps.toList.drop p → s'.heap.get? L = some (listOf (strValues l').toArray v') →
            (∀ b o, s.heap.get? b = some o → b ≠ L → s'.heap.get? b = some o) → s'.gens = s.gens → s'.drawn = s.drawn → s'.os = s.os →
            wpAny (model PR w) A.in1 (finTree x L) (fun fin s' => match fin with | .done f => R (.ok f) s' | .again c' => c'.quiet = true ∧ codeAny (model PR w) A c' R s') (fun e s' => R (.error e) s') s' := by
          intro l' v' s' e1 e2 e3 e4 e5 e6
          refine fin_ e2 (by rw [e1]; exact hlen) fun tk t => ?_
          obtain ⟨h', g', d', t', o'⟩ := s'
          subst e4 e5 e6
          dsimp only
          rw [e1]
          exact hR h' tk t e3
        by_cases hp : p < x.cps.size
        · rw [if_pos hp]
          refine wpAny_bind (m := reSlice x.cps 0 p x.cps.size) ?_
          show wpAny _ _ (mkStr ⟨x.cps.extract p x.cps.size⟩) _ _ _
          refine wpAny_mkStr ?_ ?_
          · refine wpAny_bind (push_ hl (by omega) fun h' k1 k2 => ?_)
            refine fin _ (v + 1) _ ?_ k2 k1 rfl rfl rfl
            rw [flat_snoc]
            simp
            exact List.take_of_length_le (by simp)
          · rw [List.length_append, List.length_drop] at hlen
            rw [sizeLine_eq]
            show (x.cps.extract p x.cps.size).size ≤ _
            simp at hlen ⊢
            omega
        · rw [if_neg hp]
          refine fin l v s ?_ hl (fun _ _ e _ => e) rfl rfl rfl
          rw [List.drop_of_length_le (by simp; omega), List.append_nil]))
    | some be =>
      obtain ⟨b, e⟩ := be
      rw [hn] at hm hlen hR
      dsimp only at hm hlen hR
      have hlies := F.lies p b e h2 hn
      refine wpAny_bind (runEnd he hkn (by
        rw [hm.1]
        dsimp only
        rw [hpn, hm.2.1, hm.2.2]
        have go : ∀ (l' : List (Str × Tok)) (v' : Nat) (s' : Shared), flat l' = flat l ++ (x.cps.toList.drop p).take (b - p) → s'.heap.get? L = some (listOf (strValues l').toArray v') → l'.length ≤ l.length + 1 →
            (∀ b o, s.heap.get? b = some o → b ≠ L → s'.heap.get? b = some o) → s'.gens = s.gens → s'.drawn = s.drawn → s'.os = s.os →
            wpAny (model PR w) A.in1 (updateSeq L (fun y => y.push (.str r tr)) >>= fun _ => again (.builtin "re.Pattern.sub.loop" ⟨[.ref P, .str x tx, .str r tr, rawInt 0, rawInt 0, rawInt (n + 1), rawInt e, rawInt e, .bool (e == b), .ref L, .bool false], []⟩))
              (fun fin s' => match fin with | .done f => R (.ok f) s' | .again c' => c'.quiet = true ∧ codeAny (model PR w) A c' R s') (fun e s' => R (.error e) s') s' := by
          intro l' v' s' e1 e2 e2' e3 e4 e5 e6
          refine wpAny_bind (push_ e2 (by omega) fun h' k1 k2 => ?_)
          refine wpAny_pure ⟨plainId_quiet plain_loop _, ?_⟩
          obtain ⟨hh, g', d', t', o'⟩ := s'
          subst e4 e5 e6
          have hflat : flat (l' ++ [(r, tr)]) ++ subT nxt r.cps.toList x.cps.toList f e = flat l ++ ((x.cps.toList.drop p).take (b - p) ++ (r.cps.toList ++ subT nxt r.cps.toList x.cps.toList f e)) := by
            rw [flat_snoc, e1]
            simp only [List.append_assoc]
          have q := ih e (n + 1) (e == b) (l' ++ [(r, tr)]) (v' + 1) ⟨h', s.gens, s.drawn, t', s.os⟩ (by omega) (by omega) ?_ k2 ?_ (by rw [hflat]; exact hlen) ?_
          · rw [Int.natCast_add] at q
            exact q
          · intro b' o' q
            have hb : b' ≠ L := fun z => by rw [z, hL] at q; cases q
            exact k1 _ _ (e3 _ _ (hk _ _ q) hb) hb
          · rw [List.length_append]
            simp
            omega
          · intro h2 tk t hkk
            rw [hflat]
            exact hR h2 tk t fun b' o' q hb => hkk _ _ (k1 _ _ (e3 _ _ q hb) hb) hb
        by_cases hp : p < b
        · rw [if_pos hp]
          refine wpAny_bind (m := reSlice x.cps 0 p b) ?_
          show wpAny _ _ (mkStr ⟨x.cps.extract p b⟩) _ _ _
          refine wpAny_mkStr ?_ ?_
          · refine wpAny_bind (push_ hl (by omega) fun h' k1 k2 => ?_)
            refine go _ (v + 1) _ ?_ k2 (by simp) k1 rfl rfl rfl
            rw [flat_snoc]
            simp
          · rw [List.length_append, List.length_append, List.length_take, List.length_drop] at hlen
            rw [sizeLine_eq]
            show (x.cps.extract p b).size ≤ _
            simp at hlen ⊢
            omega
        · rw [if_neg hp]
          refine go l v s ?_ hl (by omega) (fun _ _ e _ => e) rfl rfl rfl
          have : b - p = 0 := by omega
          rw [this, List.take_zero, List.append_nil]))

theorem args_sub (a b c : Value) : argsOk "re.Pattern.sub" ⟨[a, b, c], []⟩ := by
  unfold argsOk
  rw [signature?_of (id := "re.Pattern.sub") (n := ['b', 'u', 's']) (o := ['n', 'r', 'e', 't', 't', 'a', 'P', '.', 'e', 'r']) (rows := Manifest.sig_re_Pattern) (by kernel_rfl) (by kernel_rfl)]
  kernel_rfl
theorem plainAttrs_re : PlainAttrs "re.Pattern" :=
  ⟨⟨"object.__getattribute__", by rw [typeLookup_type, builtinLookup_eq_fast]; kernel_rfl, by decide +kernel⟩, by rw [typeLookup_type, builtinLookup_eq_fast]; kernel_rfl⟩
theorem str_no_call : typeLookup (.type "str") "__call__" = pure none := by rw [typeLookup_type, builtinLookup_eq_fast]; kernel_rfl

theorem sub_call {w : World} {A : Around} {P : Addr} {o : Obj} {cd : Array Nat} {x r : Str} {tx tr : Tok} {nxt : Nat → Option (Nat × Nat)} {Q E : Value → Shared → Prop} {s : Shared}
    (ho : s.heap.get? P = some o) (hoc : o.cls = .type "re.Pattern")
    (hT : Looks (model PR w) s.heap (reWholeTarget (.ref P) (.str x tx)) (tgt P cd x tx)) (F : Finds cd x.cps nxt) (hr : r.cps.contains 92 = false)
    (hsz : x.cps.size ≤ 2 ^ 18) (hlen : (subT nxt r.cps.toList x.cps.toList (x.cps.size + 1) 0).length ≤ 2 ^ 20)
    (hQ : ∀ h' tk t, (∀ b o, s.heap.get? b = some o → h'.get? b = some o) → Q (.str ⟨(subT nxt r.cps.toList x.cps.toList (x.cps.size + 1) 0).toArray⟩ t) { s with heap := h', toks := tk }) :
    wpAny (model PR w) A (call (.builtin "re.Pattern.sub") [.ref P, .str r tr, .str x tx]) Q E s := by
  refine wpAny_call (codeAny_call_builtin slot_sub.plain entry_sub (slot_sub.check _ _ _ _ _ _ _ _ ⟨_, ho, hoc⟩ (args_sub _ _ _) ?_))
  unfold Builtin.«re.Pattern.sub» reSubstitute
  refine wpAny_bind (wpAny_of_eq (show reNamed "re.Pattern.sub" "sub" ["repl", "string", "count"] 2 [.str r tr, .str x tx] [] = pure [some (.str r tr), some (.str x tx), none] from rfl) ?_)
  refine wpAny_bind (m := pure 0) (wpAny_pure ?_)
  refine wpAny_bind (wpAny_specialOf (typeIs_str _ _ _) str_no_call ?_)
  show wpAny _ _ (pure (some r) >>= _) _ _ _
  refine wpAny_bind (wpAny_pure ?_)
  show wpAny _ _ (pure (!r.cps.contains 92) >>= _) _ _ _
  refine wpAny_bind (wpAny_pure ?_)
  rw [hr]
  show wpAny _ _ (pure (Value.str r tr, (0 : Int)) >>= _) _ _ _
  refine wpAny_bind (wpAny_pure ?_)
  refine wpAny_bind (wpAny_holding (hT.here ?_))
  have X0 : s.heap.get? s.heap.objs.size = none := Heap.get?_none_of_le (Nat.le_refl _)
  refine wpAny_bind (m := newList []) (wpAny_newObj_type ?_ (by show ([] : List Value).toArray.size ≤ sizeLine; rw [sizeLine_eq]; simp))
  refine wpAny_pure ⟨plainId_quiet plain_loop _, ?_⟩
  refine sub_loop (h₀ := s.heap) hT F X0 (x.cps.size + 1) 0 0 false [] 0 _ (by omega) (by omega) (fun b o e => Heap.get?_push_of_some _ e) (Heap.get?_push_size _ rfl) (by simp; omega) (by simpa [flat] using hlen) ?_
  intro h' tk t hk
  refine hQ _ _ _ fun b o e => hk b o (Heap.get?_push_of_some _ e) fun q => ?_
  rw [q, X0] at e; cases e
end Mine
end

section
open PySem PySem.W PyProof.Rows PySem.Calls
set_option Elab.async false
namespace Mine
local macro_rules | `(tactic| omega) => `(tactic| walk_at "shared 1")
open PySem.Sre (M Op ops)
open PySem.Sre.M (runFor)

theorem firstAt_some {P : Nat → Bool} : ∀ {f s b : Nat}, firstAt P f s = some b → s ≤ b ∧ b < s + f ∧ P b = true ∧ ∀ i, s ≤ i → i < b → P i = false
  | 0, _, _, h => by cases h
  | f + 1, s, b, h => by
    unfold firstAt at h
    by_cases hh : P s = true
    · rw [if_pos hh] at h
      cases h
      exact ⟨Nat.le_refl _, by omega, hh, fun i h1 h2 => by omega⟩
    · rw [if_neg hh] at h
      have q := firstAt_some h
      refine ⟨by omega, by omega, q.2.2.1, fun i h1 h2 => ?_⟩
      by_cases e : i = s
      · subst e; simpa using hh
      · exact q.2.2.2 i (by omega) h2
theorem forSearch2 (t : Array Nat) (p : Nat) (mu : Bool) (hp : p ≤ t.size) :
    ∃ n m', n ≤ 100 ∧ Ends n (Sre.forSearch code2 t 0 p t.size mu) m' ∧
      (match firstAt (isEnd t) (t.size - p + 1) p with
       | some b => m'.outcome = some .matched ∧ m'.start = b ∧ m'.handed = b + endLen t b
       | none => m'.outcome = some .failed) := by
  have hd : Sre.header code2 = (1, 10) := rfl
  by_cases hlt : p < t.size
  · have hc : (decide (p > t.size) || decide (t.size - p < 1)) = false := by simp; omega
    have e : Sre.forSearch code2 t 0 p t.size mu = (({ code := code2, text := t, lim := t.size, start := p, lastStart := t.size, pc := 10, pos := p, handed := p, marks := #[], mustAdvance := mu, seen := ({} : Sre.Seen).add 14 } : M).attemptFrom p true) := by
      show (if (decide (p > t.size) || decide (t.size - p < 1)) = true then _ else _) = _
      rw [hc, if_neg (by decide)]
      rfl
    rw [e]
    obtain ⟨sn', ha⟩ := admitted2 { code := code2, text := t, lim := t.size, start := p, lastStart := t.size, pc := 10, pos := p, handed := p, marks := #[], mustAdvance := mu, seen := ({} : Sre.Seen).add 14 } rfl rfl (t.size - p) p (({} : Sre.Seen).add 14) (by show p + (t.size - p) = t.size; omega)
    have hf : ({ code := code2, text := t, lim := t.size, start := p, lastStart := t.size, pc := 10, pos := p, handed := p, marks := #[], mustAdvance := mu, seen := ({} : Sre.Seen).add 14 } : M).hasFirstSet = true := rfl
    unfold Sre.M.attemptFrom
    rw [hf]
    simp only [Bool.not_true, Bool.false_eq_true, if_false]
    have hfuel : t.size + 1 - p = t.size - p + 1 := by omega
    rw [hfuel, ha]
    dsimp only
    cases hb : firstAt (isEnd t) (t.size - p + 1) p with
    | none => exact ⟨1, _, by omega, (Ends.zero rfl).step rfl rfl, rfl⟩
    | some b =>
      have hib : isEnd t b = true := (firstAt_some hb).2.2.1
      obtain ⟨n, m', hn, he, q⟩ := match2 (mu := false) (f := true) (h := b) (sn := sn') hib
      exact ⟨n, m', by omega, he, q⟩
  · have hpe : p = t.size := by omega
    have hf : firstAt (isEnd t) (t.size - p + 1) p = none := by
      have : isEnd t p = false := by unfold isEnd; rw [decide_eq_false hlt, Bool.false_and]
      rw [show t.size - p = 0 by omega]
      simp [firstAt, this]
    rw [hf]
    have hc : (decide (p > t.size) || decide (t.size - p < (Sre.header code2).1)) = true := by
      rw [Bool.or_eq_true, decide_eq_true_eq, decide_eq_true_eq]; right; show t.size - p < 1; omega
    refine ⟨1, _, by omega, (Ends.zero ?_).step ?_ rfl, ?_⟩
    · unfold Sre.forSearch
      simp only [hc, if_true]
      rfl
    · unfold Sre.forSearch
      simp only [hc, if_true]
      rfl
    · unfold Sre.forSearch
      simp only [hc, if_true]
      rfl

def nxt1 (t : Array Nat) (p : Nat) : Option (Nat × Nat) := (firstAt (hit1 t) (t.size - p + 1) p).map fun b => (b, b + 1)
def nxt2 (t : Array Nat) (p : Nat) : Option (Nat × Nat) := (firstAt (isEnd t) (t.size - p + 1) p).map fun b => (b, b + endLen t b)
theorem hit1_lt {t : Array Nat} {b : Nat} (h : hit1 t b = true) : b < t.size := by
  unfold hit1 at h
  simp only [Bool.and_eq_true, decide_eq_true_eq] at h
  exact h.2.1
theorem isEnd_lt {t : Array Nat} {b : Nat} (h : isEnd t b = true) : b < t.size := by
  unfold isEnd at h
  simp only [Bool.and_eq_true, decide_eq_true_eq] at h
  exact h.1
theorem endLen_le {t : Array Nat} {b : Nat} (h : isEnd t b = true) : 0 < endLen t b ∧ b + endLen t b ≤ t.size := by
  have h0 := isEnd_lt h
  cases hc : (t.getD b 0 == 13 && (decide (b + 1 < t.size) && t.getD (b + 1) 0 == 10)) with
  | true =>
    have e : endLen t b = 2 := by unfold endLen; rw [hc]; rfl
    simp only [Bool.and_eq_true, decide_eq_true_eq] at hc
    omega
  | false =>
    have e : endLen t b = 1 := by unfold endLen; rw [hc]; rfl
    omega
theorem finds1 (t : Array Nat) (hs : t.size ≤ 2 ^ 20) : Finds code1 t (nxt1 t) := by
  refine ⟨fun p mu hp => ?_, fun p b e hp h => ?_⟩
  · obtain ⟨n, m', hn, he, q⟩ := forSearch1 t p mu hp
    refine ⟨n, m', by omega, he, ?_⟩
    unfold nxt1
    cases hf : firstAt (hit1 t) (t.size - p + 1) p <;> rw [hf] at q <;> exact q
  · unfold nxt1 at h
    cases hf : firstAt (hit1 t) (t.size - p + 1) p with
    | none => rw [hf] at h; cases h
    | some b' =>
      rw [hf] at h
      cases h
      have := firstAt_some hf
      have := hit1_lt this.2.2.1
      omega
theorem finds2 (t : Array Nat) : Finds code2 t (nxt2 t) := by
  refine ⟨fun p mu hp => ?_, fun p b e hp h => ?_⟩
  · obtain ⟨n, m', hn, he, q⟩ := forSearch2 t p mu hp
    refine ⟨n, m', by omega, he, ?_⟩
    unfold nxt2
    cases hf : firstAt (isEnd t) (t.size - p + 1) p <;> rw [hf] at q <;> exact q
  · unfold nxt2 at h
    cases hf : firstAt (isEnd t) (t.size - p + 1) p with
    | none => rw [hf] at h; cases h
    | some b' =>
      rw [hf] at h
      cases h
      have h1 := firstAt_some hf
      have := endLen_le h1.2.2.1
      omega

/-- the step of a substitution over a place where nothing stands, and over one where a piece stands -/
theorem subT_pass {P : Nat → Bool} {len : Nat → Nat} {t : Array Nat} {r : List Nat} {nx : Nat → Option (Nat × Nat)} (hnx : ∀ p, nx p = (firstAt P (t.size - p + 1) p).map fun b => (b, b + len b))
    {f p : Nat} {c : Nat} {rest : List Nat} (hp : P p = false) (hd : t.toList.drop p = c :: rest) : subT nx r t.toList (f + 1) p = c :: subT nx r t.toList (f + 1) (p + 1) := by
  have hlt : p < t.size := by
    have := congrArg List.length hd
    simp at this; omega
  have hd1 : t.toList.drop (p + 1) = rest := by
    have := congrArg List.tail hd
    simpa using this
  have hfa : firstAt P (t.size - p + 1) p = firstAt P (t.size - (p + 1) + 1) (p + 1) := by
    rw [show t.size - p + 1 = (t.size - (p + 1) + 1) + 1 by omega]
    show (if P p then some p else _) = _
    rw [hp, if_neg (by decide)]
  have e1 : subT nx r t.toList (f + 1) p = match nx p with
    | none => t.toList.drop p
    | some (b, e) => (t.toList.drop p).take (b - p) ++ (r ++ subT nx r t.toList f e) := rfl
  have e2 : subT nx r t.toList (f + 1) (p + 1) = match nx (p + 1) with
    | none => t.toList.drop (p + 1)
    | some (b, e) => (t.toList.drop (p + 1)).take (b - (p + 1)) ++ (r ++ subT nx r t.toList f e) := rfl
  rw [e1, e2, hnx, hnx, hfa]
  cases hb : firstAt P (t.size - (p + 1) + 1) (p + 1) with
  | none => dsimp; rw [hd1, hd]
  | some b =>
    have := (firstAt_some hb).1
    dsimp
    rw [hd1, hd, show b - p = (b - (p + 1)) + 1 by omega, List.take_succ_cons]
    rfl
theorem subT_hit {P : Nat → Bool} {len : Nat → Nat} {t : Array Nat} {r : List Nat} {nx : Nat → Option (Nat × Nat)} (hnx : ∀ p, nx p = (firstAt P (t.size - p + 1) p).map fun b => (b, b + len b))
    {f p : Nat} (hp : P p = true) : subT nx r t.toList (f + 1) p = r ++ subT nx r t.toList f (p + len p) := by
  have e1 : subT nx r t.toList (f + 1) p = match nx p with
    | none => t.toList.drop p
    | some (b, e) => (t.toList.drop p).take (b - p) ++ (r ++ subT nx r t.toList f e) := rfl
  have hfa : firstAt P (t.size - p + 1) p = some p := by
    show (if P p then some p else _) = _
    rw [hp, if_pos rfl]
  rw [e1, hnx, hfa]
  simp
theorem subT_end {P : Nat → Bool} {len : Nat → Nat} {t : Array Nat} {r : List Nat} {nx : Nat → Option (Nat × Nat)} (hnx : ∀ p, nx p = (firstAt P (t.size - p + 1) p).map fun b => (b, b + len b)) (hP : ∀ b, P b = true → b < t.size)
    {f p : Nat} (hp : t.size ≤ p) : subT nx r t.toList f p = [] := by
  cases f with
  | zero => simp [subT]; omega
  | succ f =>
    have e1 : subT nx r t.toList (f + 1) p = match nx p with
      | none => t.toList.drop p
      | some (b, e) => (t.toList.drop p).take (b - p) ++ (r ++ subT nx r t.toList f e) := rfl
    rw [e1, hnx]
    cases hb : firstAt P (t.size - p + 1) p with
    | none => simp; omega
    | some b =>
      have h := firstAt_some hb
      have := hP _ h.2.2.1
      omega

/-- the ends of lines, made alike -/
def normF (r : List Nat) : Nat → List Nat → List Nat
  | 0, _ => []
  | _ + 1, [] => []
  | n + 1, c :: rest => if c == 13 then (match rest with | 10 :: rest' => r ++ normF r n rest' | _ => r ++ normF r n rest) else if c == 10 then r ++ normF r n rest else c :: normF r n rest
/-- a dot at the front of a line, put for another -/
def quoF (r : List Nat) : Bool → List Nat → List Nat
  | _, [] => []
  | b, c :: rest => if b && c == 46 then r ++ quoF r false rest else c :: quoF r (c == 10) rest

theorem drop_at {t : Array Nat} {p c : Nat} {rest : List Nat} (hd : t.toList.drop p = c :: rest) : p < t.size ∧ t.getD p 0 = c ∧ t.toList.drop (p + 1) = rest := by
  have hlt : p < t.size := by
    have := congrArg List.length hd
    simp at this; omega
  refine ⟨hlt, ?_, ?_⟩
  · have h0 : (t.toList.drop p)[0]? = some c := by rw [hd]; rfl
    rw [List.getElem?_drop] at h0
    simp at h0
    rw [Array.getD_eq_getD_getElem?, h0]
    rfl
  · have := congrArg List.tail hd
    simpa using this

theorem subT_quo (t : Array Nat) (r : List Nat) : ∀ (l : List Nat) (p f : Nat), t.toList.drop p = l → l.length < f → subT (nxt1 t) r t.toList f p = quoF r (p == 0 || t.getD (p - 1) 0 == 10) l := by
  intro l
  induction l with
  | nil =>
    intro p f hd _
    have hp : t.size ≤ p := by
      have := congrArg List.length hd
      simp at this; omega
    rw [subT_end (P := hit1 t) (len := fun _ => 1) (nx := nxt1 t) (fun _ => rfl) (fun _ h => hit1_lt h) hp]
    rfl
  | cons c rest ih =>
    intro p f hd hf
    obtain ⟨hlt, hc, hd1⟩ := drop_at hd
    obtain ⟨f, rfl⟩ : ∃ k, f = k + 1 := ⟨f - 1, by simp at hf; omega⟩
    have hh : hit1 t p = ((p == 0 || t.getD (p - 1) 0 == 10) && c == 46) := by
      unfold hit1
      rw [decide_eq_true hlt, hc, Bool.true_and]
    have hnext : (p + 1 == 0 || t.getD (p + 1 - 1) 0 == 10) = (c == 10) := by
      rw [Nat.add_sub_cancel, hc]
      simp
    show _ = if (p == 0 || t.getD (p - 1) 0 == 10) && c == 46 then r ++ quoF r false rest else c :: quoF r (c == 10) rest
    cases hz : ((p == 0 || t.getD (p - 1) 0 == 10) && c == 46) with
    | true =>
      rw [hz] at hh
      rw [subT_hit (P := hit1 t) (len := fun _ => 1) (nx := nxt1 t) (fun _ => rfl) hh, ih (p + 1) f hd1 (by simp at hf; omega), hnext]
      have : c = 46 := by
        have := (Bool.and_eq_true_iff.mp hz).2
        simpa using this
      subst this
      rfl
    | false =>
      rw [hz] at hh
      rw [subT_pass (P := hit1 t) (len := fun _ => 1) (nx := nxt1 t) (fun _ => rfl) hh hd, ih (p + 1) (f + 1) hd1 (by simp at hf; omega), hnext]
      rfl

theorem subT_norm (t : Array Nat) (r : List Nat) : ∀ (n : Nat) (l : List Nat) (p f : Nat), t.toList.drop p = l → l.length < n → l.length < f → subT (nxt2 t) r t.toList f p = normF r n l := by
  intro n
  induction n with
  | zero => intro l p f _ h; omega
  | succ n ih =>
    intro l p f hd hn hf
    cases l with
    | nil =>
      have hp : t.size ≤ p := by
        have := congrArg List.length hd
        simp at this; omega
      rw [subT_end (P := isEnd t) (len := endLen t) (nx := nxt2 t) (fun _ => rfl) (fun _ h => isEnd_lt h) hp]
      rfl
    | cons c rest =>
      obtain ⟨hlt, hc, hd1⟩ := drop_at hd
      obtain ⟨f, rfl⟩ : ∃ k, f = k + 1 := ⟨f - 1, by simp at hf; omega⟩
      simp only [List.length_cons] at hn hf
      have hh : isEnd t p = (c == 10 || c == 13) := by
        unfold isEnd
        rw [decide_eq_true hlt, hc, Bool.true_and]
      unfold normF
      by_cases h13 : c = 13
      · subst h13
        rw [subT_hit (P := isEnd t) (len := endLen t) (nx := nxt2 t) (fun _ => rfl) (by rw [hh]; rfl)]
        have hb : ((13 : Nat) == 13) = true := rfl
        simp only [hb, if_true]
        cases rest with
        | nil =>
          have : endLen t p = 1 := by
            unfold endLen
            have : ¬ p + 1 < t.size := by
              have := congrArg List.length hd1
              simp at this; omega
            rw [decide_eq_false this, Bool.false_and, Bool.and_false]
            rfl
          rw [this, ih [] (p + 1) f hd1 (by simp; omega) (by simp; omega)]
        | cons c2 rest2 =>
          obtain ⟨hlt2, hc2, hd2⟩ := drop_at hd1
          by_cases h10 : c2 = 10
          · subst h10
            have : endLen t p = 2 := by
              unfold endLen
              rw [hc, hc2, decide_eq_true hlt2]
              rfl
            simp only [List.length_cons] at hn hf
            rw [this, ih rest2 (p + 2) f hd2 (by omega) (by omega)]
            rfl
          · have : endLen t p = 1 := by
              unfold endLen
              have : (t.getD (p + 1) 0 == 10) = false := by rw [hc2]; simpa using h10
              rw [this, Bool.and_false, Bool.and_false]
              rfl
            rw [this, ih (c2 :: rest2) (p + 1) f hd1 (by simp at hn ⊢; omega) (by simp at hf ⊢; omega)]
            split
            · rename_i heq; cases heq; exact absurd rfl h10
            · rfl
      · have hb : (c == 13) = false := by simpa using h13
        simp only [hb, Bool.false_eq_true, if_false]
        by_cases h10 : c = 10
        · subst h10
          rw [subT_hit (P := isEnd t) (len := endLen t) (nx := nxt2 t) (fun _ => rfl) (by rw [hh]; rfl)]
          have : endLen t p = 1 := by
            unfold endLen
            rw [hc]
            rfl
          rw [this, ih rest (p + 1) f hd1 (by omega) (by omega)]
          rfl
        · have hb2 : (c == 10) = false := by simpa using h10
          simp only [hb2, Bool.false_eq_true, if_false]
          rw [hb, hb2] at hh
          rw [subT_pass (P := isEnd t) (len := endLen t) (nx := nxt2 t) (fun _ => rfl) hh hd, ih rest (p + 1) (f + 1) hd1 (by omega) (by omega)]

/-! the mail -/
def lineL (d c : Nat) (e : List Nat) : List Nat := List.replicate d 46 ++ (c :: e)
def mailL (d0 d1 d2 d3 : Nat) (e : List Nat) : List Nat := lineL d0 97 e ++ (lineL d1 98 e ++ (lineL d2 99 e ++ (lineL d3 100 e ++ [120])))
theorem mailL_length (d0 d1 d2 d3 : Nat) (e : List Nat) : (mailL d0 d1 d2 d3 e).length = d0 + d1 + d2 + d3 + 4 * e.length + 5 := by
  simp [mailL, lineL]; omega

theorem normF_more (r : List Nat) : ∀ (l : List Nat) (n m : Nat), l.length < n → l.length < m → normF r n l = normF r m l := by
  have key : ∀ (k : Nat) (l : List Nat) (n m : Nat), l.length ≤ k → l.length < n → l.length < m → normF r n l = normF r m l := by
    intro k
    induction k with
    | zero =>
      intro l n m hk hn hm
      have : l = [] := List.length_eq_zero_iff.mp (by omega)
      subst this
      obtain ⟨n, rfl⟩ : ∃ k, n = k + 1 := ⟨n - 1, by omega⟩
      obtain ⟨m, rfl⟩ : ∃ k, m = k + 1 := ⟨m - 1, by omega⟩
      rfl
    | succ k ih =>
      intro l n m hk hn hm
      obtain ⟨n, rfl⟩ : ∃ k, n = k + 1 := ⟨n - 1, by omega⟩
      obtain ⟨m, rfl⟩ : ∃ k, m = k + 1 := ⟨m - 1, by omega⟩
      cases l with
      | nil => rfl
      | cons c rest =>
        simp only [List.length_cons] at hk hn hm
        unfold normF
        rw [ih rest n m (by omega) (by omega) (by omega)]
        split
        · split
          · rename_i rest2
            simp only [List.length_cons] at hk hn hm
            rw [ih rest2 n m (by omega) (by omega) (by omega)]
          · rfl
        · rfl
  exact fun l n m => key l.length l n m (Nat.le_refl _)
/-- the ends made alike, whole -/
def norm (r l : List Nat) : List Nat := normF r (l.length + 1) l
theorem norm_pass {r : List Nat} {c : Nat} {l : List Nat} (h1 : c ≠ 13) (h2 : c ≠ 10) : norm r (c :: l) = c :: norm r l := by
  show normF r (l.length + 1 + 1) (c :: l) = _
  unfold normF
  have e1 : (c == 13) = false := by simpa using h1
  have e2 : (c == 10) = false := by simpa using h2
  simp only [e1, e2, Bool.false_eq_true, if_false]
  rfl
theorem norm_dots {r : List Nat} (d : Nat) {l : List Nat} : norm r (List.replicate d 46 ++ l) = List.replicate d 46 ++ norm r l := by
  induction d with
  | zero => rfl
  | succ d ih => rw [List.replicate_succ, List.cons_append, norm_pass (by decide) (by decide), ih]; rfl
theorem norm_feed {r l : List Nat} : norm r (10 :: l) = r ++ norm r l := rfl
theorem norm_both {r l : List Nat} : norm r (13 :: 10 :: l) = r ++ norm r l := by
  show r ++ normF r (l.length + 2) l = r ++ normF r (l.length + 1) l
  rw [normF_more r l (l.length + 2) (l.length + 1) (by omega) (by omega)]
theorem norm_ret {r l : List Nat} {c : Nat} (h : c ≠ 10) : norm r (13 :: c :: l) = r ++ norm r (c :: l) := by
  show (match c :: l with | 10 :: rest' => r ++ normF r (l.length + 2) rest' | _ => r ++ normF r (l.length + 2) (c :: l)) = _
  split
  · rename_i heq; cases heq; exact absurd rfl h
  · rfl
/-- an end: a feed, a return, or both -/
inductive IsE : List Nat → Prop
  | feed : IsE [10]
  | ret : IsE [13]
  | both : IsE [13, 10]
theorem norm_e {e l : List Nat} (he : IsE e) (hl : ∃ c r, l = c :: r ∧ c ≠ 10) (r : List Nat) : norm r (e ++ l) = r ++ norm r l := by
  obtain ⟨c, t, rfl, hc⟩ := hl
  cases he with
  | feed => rfl
  | ret => exact norm_ret hc
  | both => exact norm_both
theorem front {d c : Nat} {e l : List Nat} (hc : c ≠ 10) : ∃ c' r, lineL d c e ++ l = c' :: r ∧ c' ≠ 10 := by
  cases d with
  | zero => exact ⟨c, e ++ l, rfl, hc⟩
  | succ d => exact ⟨46, List.replicate d 46 ++ (c :: e) ++ l, rfl, by decide⟩
theorem norm_line {d c : Nat} {e l r : List Nat} (he : IsE e) (h1 : c ≠ 10) (h2 : c ≠ 13) (hl : ∃ c r, l = c :: r ∧ c ≠ 10) : norm r (lineL d c e ++ l) = lineL d c r ++ norm r l := by
  unfold lineL
  rw [List.append_assoc, List.cons_append, norm_dots, norm_pass h2 h1, norm_e he hl]
  simp
theorem norm_mail {d0 d1 d2 d3 : Nat} {e r : List Nat} (he : IsE e) : norm r (mailL d0 d1 d2 d3 e) = mailL d0 d1 d2 d3 r := by
  unfold mailL
  rw [norm_line he (by decide) (by decide) (front (by decide)), norm_line he (by decide) (by decide) (front (by decide)), norm_line he (by decide) (by decide) (front (by decide)),
    norm_line he (by decide) (by decide) ⟨120, [], rfl, by decide⟩]
  rfl
theorem quo_dots {r : List Nat} (d : Nat) {l : List Nat} : quoF r false (List.replicate d 46 ++ l) = List.replicate d 46 ++ quoF r false l := by
  induction d with
  | zero => rfl
  | succ d ih => rw [List.replicate_succ, List.cons_append]; show 46 :: quoF r false _ = _; rw [ih]; rfl
theorem quo_line {d c : Nat} {l : List Nat} (h1 : c ≠ 10) (_h2 : c ≠ 46) (h3 : 1 ≤ d) : quoF [46, 46] true (lineL d c [13, 10] ++ l) = lineL (d + 1) c [13, 10] ++ quoF [46, 46] true l := by
  obtain ⟨d, rfl⟩ : ∃ k, d = k + 1 := ⟨d - 1, by omega⟩
  unfold lineL
  rw [List.replicate_succ, List.append_assoc, List.cons_append, List.cons_append]
  show [46, 46] ++ quoF [46, 46] false (List.replicate d 46 ++ (c :: 13 :: 10 :: l)) = _
  rw [quo_dots]
  have hc : (c == 10) = false := by simpa using h1
  have e : quoF [46, 46] false (c :: 13 :: 10 :: l) = c :: 13 :: 10 :: quoF [46, 46] true l := by
    show c :: quoF [46, 46] (c == 10) (13 :: 10 :: l) = _
    rw [hc]
    rfl
  rw [e]
  simp [List.replicate_succ]
theorem quo_mail {d0 d1 d2 d3 : Nat} (h0 : 1 ≤ d0) (h1 : 1 ≤ d1) (h2 : 1 ≤ d2) (h3 : 1 ≤ d3) : quoF [46, 46] true (mailL d0 d1 d2 d3 [13, 10]) = mailL (d0 + 1) (d1 + 1) (d2 + 1) (d3 + 1) [13, 10] := by
  unfold mailL
  rw [quo_line (by decide) (by decide) h0, quo_line (by decide) (by decide) h1, quo_line (by decide) (by decide) h2, quo_line (by decide) (by decide) h3]
  rfl
end Mine
end

section
open PySem PySem.W PyProof.Rows PySem.Calls
set_option Elab.async false
namespace Mine
local macro_rules | `(tactic| walk_at "my spare") => `(tactic| fail "none")
local macro_rules | `(tactic| walk_at "my spare") => `(tactic| fail "none")
local macro_rules | `(tactic| omega) => `(tactic| walk_at "shared 1")
def mailS (d0 d1 d2 d3 : Nat) (e : List Nat) : Str := ⟨(mailL d0 d1 d2 d3 e).toArray⟩

open PySem.Builtin PySem.Builtin.Re in
theorem looks1 {w : World} {h : Heap} {x : Str} {tx : Tok} (X : (hd.heap_1 w.params).In h) : Looks (model PR w) h (reWholeTarget (.ref 43) (.str x tx)) (tgt 43 code1 x tx) :=
  Looks.of_peek X (by kernel_rfl)
open PySem.Builtin PySem.Builtin.Re in
theorem looks2 {w : World} {h : Heap} {x : Str} {tx : Tok} (X : (hd.heap_1 w.params).In h) : Looks (model PR w) h (reWholeTarget (.ref 48) (.str x tx)) (tgt 48 code2 x tx) :=
  Looks.of_peek X (by kernel_rfl)

theorem sub1 {w : World} {A : Around} {d0 d1 d2 d3 : Nat} {tx tr : Tok} {Q E : Value → Shared → Prop} {s : Shared} (X : (hd.heap_1 w.params).In s.heap)
    (h0 : 1 ≤ d0) (h1 : 1 ≤ d1) (h2 : 1 ≤ d2) (h3 : 1 ≤ d3) (hb : d0 + d1 + d2 + d3 ≤ 1000)
    (hQ : ∀ h' tk t, (∀ b o, s.heap.get? b = some o → h'.get? b = some o) → Q (.str (mailS (d0 + 1) (d1 + 1) (d2 + 1) (d3 + 1) [13, 10]) t) { s with heap := h', toks := tk }) :
    wpAny (model PR w) A (call (.builtin "re.Pattern.sub") [.ref 43, .str (Str.ofString "..") tr, .str (mailS d0 d1 d2 d3 [13, 10]) tx]) Q E s := by
  have hsz : (mailS d0 d1 d2 d3 [13, 10]).cps.size = d0 + d1 + d2 + d3 + 13 := by
    show (mailL d0 d1 d2 d3 [13, 10]).toArray.size = _
    rw [List.size_toArray, mailL_length]
    rfl
  have e : subT (nxt1 (mailS d0 d1 d2 d3 [13, 10]).cps) [46, 46] (mailS d0 d1 d2 d3 [13, 10]).cps.toList ((mailS d0 d1 d2 d3 [13, 10]).cps.size + 1) 0 = mailL (d0 + 1) (d1 + 1) (d2 + 1) (d3 + 1) [13, 10] := by
    rw [subT_quo (mailS d0 d1 d2 d3 [13, 10]).cps [46, 46] (mailL d0 d1 d2 d3 [13, 10]) 0 ((mailS d0 d1 d2 d3 [13, 10]).cps.size + 1) rfl (by rw [hsz, mailL_length]; simp)]
    exact quo_mail h0 h1 h2 h3
  have hg : s.heap.get? 43 = _ := X 43 _ rfl
  rw [show Str.ofString ".." = ⟨#[46, 46]⟩ from by decide +kernel]
  refine sub_call hg rfl (looks1 X) (finds1 _ (by omega)) (by decide +kernel) (by omega) ?_ ?_
  · show (subT _ [46, 46] _ _ _).length ≤ _
    rw [e, mailL_length]
    simp
    omega
  · intro h' tk t hk
    have q := hQ h' tk t hk
    unfold mailS at q
    rw [← e] at q
    exact q
theorem sub2 {w : World} {A : Around} {d0 d1 d2 d3 : Nat} {e : List Nat} {tx tr : Tok} {Q E : Value → Shared → Prop} {s : Shared} (X : (hd.heap_1 w.params).In s.heap) (he : IsE e)
    (hb : d0 + d1 + d2 + d3 ≤ 1000)
    (hQ : ∀ h' tk t, (∀ b o, s.heap.get? b = some o → h'.get? b = some o) → Q (.str (mailS d0 d1 d2 d3 [13, 10]) t) { s with heap := h', toks := tk }) :
    wpAny (model PR w) A (call (.builtin "re.Pattern.sub") [.ref 48, .str (Str.ofString "\r\n") tr, .str (mailS d0 d1 d2 d3 e) tx]) Q E s := by
  have hel : e.length ≤ 2 := by cases he <;> simp
  have hsz : (mailS d0 d1 d2 d3 e).cps.size = d0 + d1 + d2 + d3 + 4 * e.length + 5 := by
    show (mailL d0 d1 d2 d3 e).toArray.size = _
    rw [List.size_toArray, mailL_length]
  have eq : subT (nxt2 (mailS d0 d1 d2 d3 e).cps) [13, 10] (mailS d0 d1 d2 d3 e).cps.toList ((mailS d0 d1 d2 d3 e).cps.size + 1) 0 = mailL d0 d1 d2 d3 [13, 10] := by
    rw [subT_norm (mailS d0 d1 d2 d3 e).cps [13, 10] ((mailL d0 d1 d2 d3 e).length + 1) (mailL d0 d1 d2 d3 e) 0 ((mailS d0 d1 d2 d3 e).cps.size + 1) rfl (by omega) (by rw [hsz, mailL_length]; omega)]
    exact norm_mail he
  have hg : s.heap.get? 48 = _ := X 48 _ rfl
  rw [show Str.ofString "\r\n" = ⟨#[13, 10]⟩ from by decide +kernel]
  refine sub_call hg rfl (looks2 X) (finds2 _) (by decide +kernel) (by omega) ?_ ?_
  · show (subT _ [13, 10] _ _ _).length ≤ _
    rw [eq, mailL_length]
    simp
    omega
  · intro h' tk t hk
    have q := hQ h' tk t hk
    unfold mailS at q
    rw [← eq] at q
    exact q

local macro_rules | `(tactic| walk_at "my stop") => `(tactic| first | (with_reducible refine st5 ?_) | (with_reducible refine st6 ?_)  | (with_reducible refine st7 ?_))
local macro_rules | `(tactic| walk_at "my walk") => `(tactic| walk_at "shared 2")

set_option maxRecDepth 100000 in
set_option maxHeartbeats 8000000 in
theorem quote_spec {p : Program} {loose : List Str} {mean : ExcName → Option Value} {mg mb : Str → Option Value} {w : World} {A : Around} {s : Shared} {d0 d1 d2 d3 : Nat} {e : List Nat} {tx : Tok} {Q E : Value → Shared → Prop}
    (X : (hd.heap_1 w.params).In s.heap) (T : Top p loose mean mg mb s.heap) (he : IsE e)
    (h0 : 1 ≤ d0) (h1 : 1 ≤ d1) (h2 : 1 ≤ d2) (h3 : 1 ≤ d3) (hb : d0 + d1 + d2 + d3 ≤ 1000)
    (hroom : A.depth + 6 < recursionLimit)
    (hQ : ∀ h' tk t, (∀ b o, s.heap.get? b = some o → h'.get? b = some o) → Q (.str (mailS (d0 + 1) (d1 + 1) (d2 + 1) (d3 + 1) [13, 10]) t) { s with heap := h', toks := tk }) :
    wpAny (model PR w) A (call (.ref 55) [.str (mailS d0 d1 d2 d3 e) tx]) Q E s := by
  w_top off
  refine wpAny_call ?_
  refine' enterP (binds := [("data", .str (mailS d0 d1 d2 d3 e) tx)]) (news := []) (h₀ := s.heap) X T (fun _ _ e => e) (fun _ h => nomatch h) ?k6 ?k7 ?k8 ?k9 ?kB ?_ ?c2 ?c3 ?c4 ?c5
  (case k6 => k_is)
  (case k7 => k_is)
  (case k8 => omega)
  (case k9 => exact BindsTo.of_eq rfl)
  (case c5 => decide)
  (case kB => exact locs rfl)
  (case c2 => exact rfl)
  (case c3 => exact rfl)
  (case c4 => exact rfl)
  intro g L' h₁ hg hg' F N X' T'
  clear hg'
  walk_at "my walk"
  rename Fr _ _ _ _ => F1
  refine getMethod_builtin ⟨_, F1.keep _ _ (X' 43 _ rfl), rfl⟩ plainAttrs_re slot_sub type_sub (fun a e => by cases e; exact ⟨_, F1.keep _ _ (X' 43 _ rfl), rfl⟩) ?_
  walk_at "my walk"
  rename Fr _ _ _ _ => F2
  refine getMethod_builtin ⟨_, F2.keep _ _ (X' 48 _ rfl), rfl⟩ plainAttrs_re slot_sub type_sub (fun a e => by cases e; exact ⟨_, F2.keep _ _ (X' 48 _ rfl), rfl⟩) ?_
  walk_at "my walk"
  have F3 := F2
  refine sub2 (X'.keeps F3.keep) he (by omega) fun g2 tk2 t2 hk2 => ?_
  replace F3 := F3.keeps hk2
  walk_at "my walk"
  refine sub1 (X'.keeps F3.keep) h0 h1 h2 h3 (by omega) fun g3 tk3 t3 hk3 => ?_
  exact hQ _ _ _ fun b o e => hk3 _ _ (F3.keep _ _ (hg _ _ e))
end Mine
end

local macro_rules | `(tactic| walk_at "shared 4") => `(tactic| first | (with_reducible refine st5 ?_))

local macro_rules | `(tactic| walk_at "shared 5") => `(tactic| (k_here; k_dflt (refine LCg.CompSrc.range (n := 4) (by rfl) (by k_asm) (by k_asm) (by assumption) (by decide) (by rfl) (by exact Nat.le_of_ble_eq_true rfl) ?_; intro g')))

section
open PySem PySem.W PyProof.Rows PySem.Calls PySem.Spec PyProof.V
set_option Elab.async false
namespace Mine
local macro_rules | `(tactic| walk_at "my spare") => `(tactic| fail "none")
local macro_rules | `(tactic| omega) => `(tactic| walk_at "shared 1")
section
variable {prog : Program} {w : World} {A : Around} {E : Value → Shared → Prop} {s : Shared} {t u : Tok} {Q : Value → Shared → Prop}
theorem foldl_dots : ∀ (d : Nat) (acc : Array Nat), (List.replicate d (#[46] : Array Nat)).foldl (· ++ ·) acc = acc ++ (List.replicate d 46).toArray
  | 0, acc => by simp
  | d + 1, acc => by
    rw [List.replicate_succ, List.foldl_cons, foldl_dots d]
    apply Array.toList_inj.mp
    simp [List.replicate_succ]
theorem mul_dots (d : Nat) : Txt.mul (Str.ofString ".") (d : Int) = ⟨(List.replicate d 46).toArray⟩ := by
  rw [show Str.ofString "." = ⟨#[46]⟩ from by decide +kernel]
  unfold Txt.mul
  by_cases h0 : (d : Int) < 1
  · rw [if_pos h0]
    have : d = 0 := by omega
    subst this
    rfl
  · rw [if_neg h0]
    by_cases h1 : ((d : Int) == 1 || (⟨#[46]⟩ : Str).length == 0) = true
    · rw [if_pos h1]
      have : d = 1 := by
        rw [Bool.or_eq_true] at h1
        rcases h1 with h1 | h1
        · have := beq_iff_eq.mp h1; omega
        · cases h1
      subst this
      rfl
    · rw [if_neg h1, Int.toNat_natCast, foldl_dots]
      simp
theorem dot_mul {v : Int} {d : Nat} (hv : v = (d : Int)) (hd : d ≤ 1000) (h : ∀ t' k, Q (.str ⟨(List.replicate d 46).toArray⟩ t') { s with toks := k }) :
    wpAny (model prog w) A (binaryOp .Mult (.str (Str.ofString ".") t) (.int v u)) Q E s := by
  subst hv
  refine SB.mul (mulOk_of 16 1048576 (by decide) (by omega) (by omega) (by decide) (by decide)) fun t' k => ?_
  rw [mul_dots]
  exact h t' k
theorem abcd_item {value slice : PySem.Expr} {i : Int} {k : Nat} (hi : i = (k : Int)) (hk : k < 4) (h : ∀ t' tk, Q (.str ⟨[97 + k].toArray⟩ t') { s with toks := tk })
    (hs : subscripted slice false (.str (Str.ofString "abcd") t) (.int i u) = operate [.str (Str.ofString "abcd") t, .int i u] (getItem (.str (Str.ofString "abcd") t) (.int i u)) := by with_unfolding_all rfl)
    (ht : ∀ r, letTemporaryGo value (.str (Str.ofString "abcd") t) r = pure () := by intro _; with_unfolding_all rfl) :
    wpAny (model prog w) A (subscriptTail value slice (.str (Str.ofString "abcd") t) (.int i u)) Q E s := by
  subst hi
  refine KXi.item (n := 4) (by decide +kernel) (by omega) (by omega) (by omega) (fun _ => ?_) hs ht
  have e : Txt.item (Str.ofString "abcd") (k : Int) = ⟨[97 + k].toArray⟩ := by
    match k, hk with
    | 0, _ => decide +kernel
    | 1, _ => decide +kernel
    | 2, _ => decide +kernel
    | 3, _ => decide +kernel
  rw [e]
  exact h _ _
theorem add_l {x y : Str} {a b : List Nat} (hx : x = ⟨a.toArray⟩) (hy : y = ⟨b.toArray⟩) (hl : a.length + b.length ≤ 100000) (h : ∀ t' k, Q (.str ⟨(a ++ b).toArray⟩ t') { s with toks := k }) :
    wpAny (model prog w) A (binaryOp .Add (.str x t) (.str y u)) Q E s := by
  subst hx hy
  refine SBL.add (fun t' k _ => ?_) ?_
  · have e : (⟨a.toArray⟩ ++ ⟨b.toArray⟩ : Str) = ⟨(a ++ b).toArray⟩ := by
      show (⟨a.toArray ++ b.toArray⟩ : Str) = _
      simp
    rw [e]
    exact h t' k
  · rw [sizeLine_eq]
    show a.toArray.size + b.toArray.size ≤ _
    simp
    omega
end
/-- a list's texts, each as its signs -/
inductive LinesAre : List Value → List (List Nat) → Prop
  | nil : LinesAre [] []
  | cons (a : List Nat) (t : Tok) {vs ls} : LinesAre vs ls → LinesAre (.str ⟨a.toArray⟩ t :: vs) (a :: ls)
theorem LinesAre.pairs : ∀ {vs : List Value} {ls : List (List Nat)}, LinesAre vs ls → ∃ l : List (Str × Tok), vs = strValues l ∧ l.map (·.1) = ls.map (fun a => ⟨a.toArray⟩) ∧ flat l = ls.flatten
  | _, _, .nil => ⟨[], rfl, rfl, rfl⟩
  | _, _, .cons a t h => by
    obtain ⟨l, e1, e2, e3⟩ := h.pairs
    refine ⟨(⟨a.toArray⟩, t) :: l, by rw [e1]; rfl, by rw [List.map_cons, e2]; rfl, ?_⟩
    show (_ :: l.map _).flatten = _
    rw [List.flatten_cons, List.flatten_cons, ← e3]
    rfl
theorem join_l {prog : Program} {w : World} {A : Around} {E : Value → Shared → Prop} {s : Shared} {t : Tok} {Q : Value → Shared → Prop} {D : Addr} {vs : List Value} {ls : List (List Nat)}
    (hl : s.heap.IsList D vs.toArray) (hv : LinesAre vs ls) (hlen : ls.flatten.length ≤ 100000) (h : ∀ t' k, Q (.str ⟨ls.flatten.toArray⟩ t') { s with toks := k }) :
    wpAny (model prog w) A (call (.builtin "str.join") [.str (Str.ofString "") t, .ref D]) Q E s := by
  obtain ⟨l, rfl, e2, e3⟩ := hv.pairs
  rw [show Str.ofString "" = ⟨#[]⟩ from by decide +kernel]
  refine SC.join hl rfl ?_ fun t' k => ?_
  · unfold JoinOk
    rw [Bool.not_eq_true', StrLaws.joinTotal, flat_length, e3]
    unfold PySem.Builtin.Str.tooLong
    rw [sizeLine_eq]
    simp [Str.length]
    simp at hlen
    omega
  · have e : Txt.join ⟨#[]⟩ (l.map (·.1)) = ⟨(flat l).toArray⟩ := by
      show PySem.Builtin.Str.glued ⟨#[]⟩ _ = _
      rw [StrLaws.glued_eq_join]
      have := join_empty (l.map (·.1))
      rw [flat_texts] at this
      rw [← this]
    rw [e, e3]
    exact h t' k
local macro_rules | `(tactic| walk_at "binaryOp Mult str int") => `(tactic| (refine' dot_mul ?v ?d ?_; (case v => with_unfolding_all exact rfl); (case d => omega); intro _ _))
local macro_rules | `(tactic| walk_at "binaryOp Add str str") => `(tactic| (refine' add_l ?v ?d ?e ?_; (case v => exact rfl); (case d => exact rfl); (case e => simp only [List.length_append, List.length_replicate, List.length_cons, List.length_nil]; omega); intro _ _))
local macro_rules | `(tactic| walk_at "subscriptTail") => `(tactic| ((with_reducible show wpAny _ _ (subscriptTail _ _ (Value.str _ _) (Value.int _ _)) _ _ _); refine' abcd_item ?v ?d ?_ ?e ?f; (case v => with_unfolding_all exact rfl); (case d => decide); (case e => with_unfolding_all rfl); (case f => intro _; with_unfolding_all rfl); intro _ _))
local macro_rules | `(tactic| walk_at "my stop") => `(tactic| walk_at "shared 4")
local macro_rules | `(tactic| walk_at "my walk") => `(tactic| walk_at "shared 2")

local macro_rules | `(tactic| walk_at "CompSrc") => `(tactic| walk_at "shared 5")

set_option maxRecDepth 100000 in
set_option maxHeartbeats 8000000 in
theorem mail_spec {p : Program} {loose : List Str} {mean : ExcName → Option Value} {mg mb : Str → Option Value} {w : World} {A : Around} {s : Shared} {a : Addr} {d0 d1 d2 d3 : Nat} {vs : List Value} {e : List Nat} {te : Tok} {Q E : Value → Shared → Prop}
    (X : (hd.heap_1 w.params).In s.heap) (T : Top p loose mean mg mb s.heap) 
    (hl : s.heap.IsList a vs.toArray) (hi : IntsAre vs [(d0 : Int), (d1 : Int), (d2 : Int), (d3 : Int)]) (hb : d0 + d1 + d2 + d3 ≤ 1000) (hel : e.length ≤ 2)
    (hh : A.handled = none) (hroom : A.depth + 6 < recursionLimit) (hu : A.units + 40 < cLine)
    (hQ : ∀ h' tk t, (∀ b o, s.heap.get? b = some o → h'.get? b = some o) → Q (.str (mailS d0 d1 d2 d3 e) t) { s with heap := h', toks := tk }) :
    wpAny (model PR w) A (call (.ref 156) [.ref a, .str ⟨e.toArray⟩ te]) Q E s := by
  w_top off
  obtain ⟨hdl, dp, fr, gd, un⟩ := A
  obtain rfl : hdl = none := hh
  dsimp only at hroom hu
  refine wpAny_call ?_
  refine' enterC (binds := [("dots", .ref a), ("end", .str ⟨e.toArray⟩ te)]) (news := []) (h₀ := s.heap) X T (fun _ _ e => e) (fun _ h => nomatch h) ?k6 ?k7 ?k8 ?k9 ?kB ?kD ?_ ?c2 ?c3 ?c4
  (case k6 => k_is)
  (case k7 => k_is)
  (case k8 => dsimp only; omega)
  (case k9 => exact BindsTo.of_eq rfl)
  (case kB => exact rfl)
  (case kD => decide +kernel)
  (case c2 => exact rfl)
  (case c3 => exact rfl)
  (case c4 => exact rfl)
  intro g L' h₁ tk' cells hg hg' F N Y X' T' l1
  replace hl : g.IsList a vs.toArray := stays_list (fun b o e => hg b o e) hl
  clear hg'
  k_cells Y
  (try simp only [List.cons_append, List.nil_append] at N)
  walk_at "my walk"
  rename Fr _ _ _ _ => F1
  rename News _ _ _ _ => N1
  refine join_l (N1.isList (.head _)) (by with_unfolding_all exact (.cons _ _ (.cons _ _ (.cons _ _ (.cons _ _ .nil))))) ?_ ?_
  · simp only [List.flatten_cons, List.flatten_nil, List.length_append, List.length_replicate, List.length_cons, List.length_nil]
    omega
  intro t2 k2
  walk_at "eval Constant str"
  refine add_l (b := [120]) rfl (by decide +kernel) ?_ fun t3 k3 => ?_
  · simp only [List.flatten_cons, List.flatten_nil, List.length_append, List.length_replicate, List.length_cons, List.length_nil]
    omega
  have q := hQ _ k3 t3 fun b o e => F1.keep b o (hg b o e)
  have e : [List.replicate d0 46 ++ [97 + (0 + 0)] ++ e, List.replicate d1 46 ++ [97 + (0 + (0 + 1))] ++ e, List.replicate d2 46 ++ [97 + (0 + (0 + 1 + 1))] ++ e,
            List.replicate d3 46 ++ [97 + (0 + (0 + 1 + 1 + 1))] ++ e].flatten ++ [120] = mailL d0 d1 d2 d3 e := by simp [mailL, lineL]
  rw [e]
  exact q
end Mine
end

section
open PySem PySem.W PyProof.Rows PySem.Calls PySem.Spec PyProof.V
set_option Elab.async false
namespace Mine
local macro_rules | `(tactic| walk_at "my spare") => `(tactic| fail "none")
local macro_rules | `(tactic| walk_at "my spare") => `(tactic| fail "none")
local macro_rules | `(tactic| walk_at "my spare") => `(tactic| fail "none")
local macro_rules | `(tactic| walk_at "my spare") => `(tactic| fail "none")
local macro_rules | `(tactic| omega) => `(tactic| walk_at "shared 1")

def fmax3 (a b c : UInt64) : UInt64 := if Float64.cmp b a == some .gt then (if Float64.cmp c b == some .gt then c else b) else (if Float64.cmp c a == some .gt then c else a)
def fmin3 (a b c : UInt64) : UInt64 := if Float64.cmp b a == some .lt then (if Float64.cmp c b == some .lt then c else b) else (if Float64.cmp c a == some .lt then c else a)
section
variable {prog : Program} {w : World} {A : Around} {E : Value → Shared → Prop} {s : Shared} {a b c : UInt64} {t u v : Tok} {Q : Value → Shared → Prop}
def fItems (xs : Array (UInt64 × Tok)) : Array Value := xs.map fun p => .float p.1 p.2
def fAt (xs : Array (UInt64 × Tok)) (i : Nat) : UInt64 := (xs[i]?.map (·.1)).getD 0
theorem fItems_at {xs : Array (UInt64 × Tok)} {i : Nat} {v : Value} (h : (fItems xs)[i]? = some v) : ∃ t, v = .float (fAt xs i) t := by
  simp only [fItems, Array.getElem?_map, Option.map_eq_some_iff] at h
  obtain ⟨p, hp, rfl⟩ := h
  exact ⟨p.2, by simp [fAt, hp]⟩
theorem cmpF_gt {P : Nat → Value → Prop} (val : Nat → UInt64) (hval : ∀ i v, P i v → ∃ t, v = .float (val i) t) : CmpOf prog w A .Gt P (fun i j => Float64.cmp (val i) (val j) == some .gt) := fun i j vi vj s Q E hi hj h => by
  obtain ⟨t, rfl⟩ := hval i vi hi
  obtain ⟨u, rfl⟩ := hval j vj hj
  exact AutoFloatOps.gt_0 h
theorem cmpF_lt {P : Nat → Value → Prop} (val : Nat → UInt64) (hval : ∀ i v, P i v → ∃ t, v = .float (val i) t) : CmpOf prog w A .Lt P (fun i j => Float64.cmp (val i) (val j) == some .lt) := fun i j vi vj s Q E hi hj h => by
  obtain ⟨t, rfl⟩ := hval i vi hi
  obtain ⟨u, rfl⟩ := hval j vj hj
  exact AutoFloatOps.lt_0 h
theorem best3 (bt : Nat → Nat → Bool) : argBest bt 2 = if bt 1 0 then (if bt 2 1 then 2 else 1) else (if bt 2 0 then 2 else 0) := by
  show (if bt 2 (if bt 1 0 then 1 else 0) then 2 else (if bt 1 0 then 1 else 0)) = _
  cases bt 1 0 <;> rfl
theorem max3F (hh : A.handled = none) (h : ∀ h' tk t', (∀ d o, s.heap.get? d = some o → h'.get? d = some o) → Q (.float (fmax3 a b c) t') { s with heap := h', toks := tk }) :
    wpAny (model prog w) A (call (.builtin "max") [.float a t, .float b u, .float c v]) Q E s := by
  have hT : (s.heap.push { cls := .type "tuple", data := .seq #[.float a t, .float b u, .float c v] }).IsTuple s.heap.objs.size (fItems #[(a, t), (b, u), (c, v)]) := ⟨_, Heap.get?_push_size _ rfl, rfl, 0, by simp [fItems]⟩
  refine call_max_three (wpAny_pyIter_tuple hT ?_)
  have hsz : (s.heap.push { cls := .type "tuple", data := .seq #[.float a t, .float b u, .float c v] }).objs.size = s.heap.objs.size + 1 := Heap.size_push ..
  refine ⟨_, [_, s.heap.objs.size], [_], _, _, _, _, rfl, Walks.tuple (A := A.in1) hh _ s.heap.objs.size (by rw [hsz]; exact Nat.ne_of_lt (Nat.lt_succ_self _)) (fItems #[(a, t), (b, u), (c, v)]),
    ⟨⟨_, Heap.get?_push_size _ rfl, rfl, rfl⟩, hT.push _⟩, fun d hd => ?_, by simp [fItems], cmpF_gt (fAt #[(a, t), (b, u), (c, v)]) (fun _ _ => fItems_at), fun y h' tk hP hk => ?_⟩
  · show d < ((s.heap.push _).push _).objs.size
    rw [Heap.size_push, hsz]
    rcases List.mem_cons.mp hd with rfl | hd
    · rw [hsz]; exact Nat.lt_succ_self _
    · rcases List.mem_cons.mp hd with rfl | hd
      · exact Nat.lt_succ_of_lt (Nat.lt_succ_self _)
      · cases hd
  · have hold : ∀ d o, s.heap.get? d = some o → h'.get? d = some o := fun d o e => by
      refine hk d o (fun hm => ?_) (Heap.get?_push_of_some _ (Heap.get?_push_of_some _ e))
      rcases List.mem_cons.mp hm with e1 | hm
      · have := Heap.lt_size e; rw [e1, hsz] at this; exact Nat.lt_irrefl _ (Nat.lt_of_succ_lt this)
      · cases hm
    have hs3 : (fItems #[(a, t), (b, u), (c, v)]).size - 1 = 2 := by simp [fItems]
    rw [hs3, best3] at hP
    have e0 : fAt #[(a, t), (b, u), (c, v)] 0 = a := rfl
    have e1 : fAt #[(a, t), (b, u), (c, v)] 1 = b := rfl
    have e2 : fAt #[(a, t), (b, u), (c, v)] 2 = c := rfl
    rw [e0, e1, e2] at hP
    have hy : ∃ t', y = .float (fmax3 a b c) t' := by
      unfold fmax3
      cases h1 : Float64.cmp b a == some .gt <;> cases h2 : Float64.cmp c b == some .gt <;> cases h3 : Float64.cmp c a == some .gt <;>
        (rw [h1, h2, h3] at hP; simp [fItems] at hP; exact ⟨_, hP.symm⟩)
    obtain ⟨t', rfl⟩ := hy
    exact h h' tk t' hold
theorem min3F (hh : A.handled = none) (h : ∀ h' tk t', (∀ d o, s.heap.get? d = some o → h'.get? d = some o) → Q (.float (fmin3 a b c) t') { s with heap := h', toks := tk }) :
    wpAny (model prog w) A (call (.builtin "min") [.float a t, .float b u, .float c v]) Q E s := by
  have hT : (s.heap.push { cls := .type "tuple", data := .seq #[.float a t, .float b u, .float c v] }).IsTuple s.heap.objs.size (fItems #[(a, t), (b, u), (c, v)]) := ⟨_, Heap.get?_push_size _ rfl, rfl, 0, by simp [fItems]⟩
  refine call_min_three (wpAny_pyIter_tuple hT ?_)
  have hsz : (s.heap.push { cls := .type "tuple", data := .seq #[.float a t, .float b u, .float c v] }).objs.size = s.heap.objs.size + 1 := Heap.size_push ..
  refine ⟨_, [_, s.heap.objs.size], [_], _, _, _, _, rfl, Walks.tuple (A := A.in1) hh _ s.heap.objs.size (by rw [hsz]; exact Nat.ne_of_lt (Nat.lt_succ_self _)) (fItems #[(a, t), (b, u), (c, v)]),
    ⟨⟨_, Heap.get?_push_size _ rfl, rfl, rfl⟩, hT.push _⟩, fun d hd => ?_, by simp [fItems], cmpF_lt (fAt #[(a, t), (b, u), (c, v)]) (fun _ _ => fItems_at), fun y h' tk hP hk => ?_⟩
  · show d < ((s.heap.push _).push _).objs.size
    rw [Heap.size_push, hsz]
    rcases List.mem_cons.mp hd with rfl | hd
    · rw [hsz]; exact Nat.lt_succ_self _
    · rcases List.mem_cons.mp hd with rfl | hd
      · exact Nat.lt_succ_of_lt (Nat.lt_succ_self _)
      · cases hd
  · have hold : ∀ d o, s.heap.get? d = some o → h'.get? d = some o := fun d o e => by
      refine hk d o (fun hm => ?_) (Heap.get?_push_of_some _ (Heap.get?_push_of_some _ e))
      rcases List.mem_cons.mp hm with e1 | hm
      · have := Heap.lt_size e; rw [e1, hsz] at this; exact Nat.lt_irrefl _ (Nat.lt_of_succ_lt this)
      · cases hm
    have hs3 : (fItems #[(a, t), (b, u), (c, v)]).size - 1 = 2 := by simp [fItems]
    rw [hs3, best3] at hP
    have e0 : fAt #[(a, t), (b, u), (c, v)] 0 = a := rfl
    have e1 : fAt #[(a, t), (b, u), (c, v)] 1 = b := rfl
    have e2 : fAt #[(a, t), (b, u), (c, v)] 2 = c := rfl
    rw [e0, e1, e2] at hP
    have hy : ∃ t', y = .float (fmin3 a b c) t' := by
      unfold fmin3
      cases h1 : Float64.cmp b a == some .lt <;> cases h2 : Float64.cmp c b == some .lt <;> cases h3 : Float64.cmp c a == some .lt <;>
        (rw [h1, h2, h3] at hP; simp [fItems] at hP; exact ⟨_, hP.symm⟩)
    obtain ⟨t', rfl⟩ := hy
    exact h h' tk t' hold
end
local macro_rules | `(tactic| walk_at "call builtin:max") => `(tactic| ((rename Fr _ _ _ _ => fF'); (rename News _ _ _ _ => fN'); (refine max3F rfl fun h' tk t' hk => ?_); (have F' := Fr.keeps fF' hk); (have N' := News.grown fN' hk); clear fF' fN'; dsimp only))
local macro_rules | `(tactic| walk_at "call builtin:min") => `(tactic| ((rename Fr _ _ _ _ => fF'); (rename News _ _ _ _ => fN'); (refine min3F rfl fun h' tk t' hk => ?_); (have F' := Fr.keeps fF' hk); (have N' := News.grown fN' hk); clear fF' fN'; dsimp only))
local macro_rules | `(tactic| walk_at "my stop") => `(tactic| walk_at "shared 4")
local macro_rules | `(tactic| walk_at "my walk") => `(tactic| walk_at "shared 2")


def hueF (r g b : UInt64) : UInt64 :=
  (Float64.divmod (Float64.div
    (if Float64.cmp r (fmax3 r g b) == some .eq then
      Float64.sub (Float64.div (Float64.sub (fmax3 r g b) b) (Float64.sub (fmax3 r g b) (fmin3 r g b))) (Float64.div (Float64.sub (fmax3 r g b) g) (Float64.sub (fmax3 r g b) (fmin3 r g b)))
    else if Float64.cmp g (fmax3 r g b) == some .eq then
      Float64.sub (Float64.add 4611686018427387904 (Float64.div (Float64.sub (fmax3 r g b) r) (Float64.sub (fmax3 r g b) (fmin3 r g b)))) (Float64.div (Float64.sub (fmax3 r g b) b) (Float64.sub (fmax3 r g b) (fmin3 r g b)))
    else
      Float64.sub (Float64.add 4616189618054758400 (Float64.div (Float64.sub (fmax3 r g b) g) (Float64.sub (fmax3 r g b) (fmin3 r g b)))) (Float64.div (Float64.sub (fmax3 r g b) r) (Float64.sub (fmax3 r g b) (fmin3 r g b))))
    4618441417868443648) 4607182418800017408).2

theorem hueF_1 {r g b : UInt64} (h : (Float64.cmp r (fmax3 r g b) == some .eq) = true) : hueF r g b = (Float64.divmod (Float64.div (Float64.sub (Float64.div (Float64.sub (fmax3 r g b) b) (Float64.sub (fmax3 r g b) (fmin3 r g b))) (Float64.div (Float64.sub (fmax3 r g b) g) (Float64.sub (fmax3 r g b) (fmin3 r g b)))) 4618441417868443648) 4607182418800017408).2 := by
  unfold hueF
  rw [h, if_pos rfl]
theorem hueF_2 {r g b : UInt64} (h : ¬ (Float64.cmp r (fmax3 r g b) == some .eq) = true) (h2 : (Float64.cmp g (fmax3 r g b) == some .eq) = true) : hueF r g b = (Float64.divmod (Float64.div (Float64.sub (Float64.add 4611686018427387904 (Float64.div (Float64.sub (fmax3 r g b) r) (Float64.sub (fmax3 r g b) (fmin3 r g b)))) (Float64.div (Float64.sub (fmax3 r g b) b) (Float64.sub (fmax3 r g b) (fmin3 r g b)))) 4618441417868443648) 4607182418800017408).2 := by
  unfold hueF
  rw [if_neg h, if_pos h2]
theorem hueF_3 {r g b : UInt64} (h : ¬ (Float64.cmp r (fmax3 r g b) == some .eq) = true) (h2 : ¬ (Float64.cmp g (fmax3 r g b) == some .eq) = true) : hueF r g b = (Float64.divmod (Float64.div (Float64.sub (Float64.add 4616189618054758400 (Float64.div (Float64.sub (fmax3 r g b) g) (Float64.sub (fmax3 r g b) (fmin3 r g b)))) (Float64.div (Float64.sub (fmax3 r g b) r) (Float64.sub (fmax3 r g b) (fmin3 r g b)))) 4618441417868443648) 4607182418800017408).2 := by
  unfold hueF
  rw [if_neg h, if_neg h2]

abbrev tupOf (vs : List Value) : Obj := { cls := .type "tuple", data := .seq vs.toArray }
set_option maxRecDepth 100000 in
set_option maxHeartbeats 8000000 in
theorem hsv_spec {p : Program} {loose : List Str} {mean : ExcName → Option Value} {mg mb : Str → Option Value} {w : World} {A : Around} {s : Shared} {r g b : UInt64} {tr tg tb : Tok} {Q E : Value → Shared → Prop}
    (X : (hd.heap_1 w.params).In s.heap) (T : Top p loose mean mg mb s.heap) 
    (hne : (Float64.cmp (fmin3 r g b) (fmax3 r g b) == some .eq) = false) (hz1 : Float64.isZero (fmax3 r g b) = false) (hz2 : Float64.isZero (Float64.sub (fmax3 r g b) (fmin3 r g b)) = false)
    (hh : A.handled = none) (hroom : A.depth + 6 < recursionLimit) (hu : A.units + 40 < cLine)
    (hQ : ∀ h' tk D t1 v2 v3, (∀ b o, s.heap.get? b = some o → h'.get? b = some o) → h'.get? D = some (tupOf [.float (hueF r g b) t1, v2, v3]) → s.heap.get? D = none → Q (.ref D) { s with heap := h', toks := tk }) :
    wpAny (model PR w) A (call (.ref 80) [.float r tr, .float g tg, .float b tb]) Q E s := by
  w_top off
  obtain ⟨hdl, dp, fr, gd, un⟩ := A
  obtain rfl : hdl = none := hh
  dsimp only at hroom hu
  refine wpAny_call ?_
  refine' enterP (binds := [("r", .float r tr), ("g", .float g tg), ("b", .float b tb)]) (news := []) (h₀ := s.heap) X T (fun _ _ e => e) (fun _ h => nomatch h) ?k6 ?k7 ?k8 ?k9 ?kB ?_ ?c2 ?c3 ?c4 ?c5
  (case k6 => k_is)
  (case k7 => k_is)
  (case k8 => dsimp only; omega)
  (case k9 => exact BindsTo.of_eq rfl)
  (case c5 => decide)
  (case kB => exact locs rfl)
  (case c2 => exact rfl)
  (case c3 => exact rfl)
  (case c4 => exact rfl)
  intro gg L' h₁ hg hg' F N X' T'
  have hg0 : ∀ D, gg.get? D = none → s.heap.get? D = none := fun D e => by
    cases q : s.heap.get? D with
    | none => rfl
    | some o => have := hg D o q; rw [e] at this; cases this
  clear hg'
  walk_at "my walk"
  all_goals first
    | (exfalso; (with_reducible rename Float64.isZero (fmax3 _ _ _) = true => hc); rw [hz1] at hc; cases hc; done)
    | (exfalso; (with_reducible rename Float64.isZero (Float64.sub _ _) = true => hc); rw [hz2] at hc; cases hc; done)
    | skip
  all_goals (rename Fr _ _ _ _ => F3; rename News _ _ _ _ => N3)
  · rename (Float64.cmp r _ == _) = true => hc
    have e := hueF_1 hc
    have z := (N3 _ (.head _)).1
    rw [← e] at z
    exact hQ _ _ _ _ _ _ (fun b o e => F3.keep b o (hg b o e)) z (hg0 _ (N3 _ (.head _)).2.2)
  · rename (Float64.cmp r _ == _) = false => hc
    rename (Float64.cmp g _ == _) = true => hc2
    have e := hueF_2 (by rw [hc]; decide) hc2
    have z := (N3 _ (.head _)).1
    rw [← e] at z
    exact hQ _ _ _ _ _ _ (fun b o e => F3.keep b o (hg b o e)) z (hg0 _ (N3 _ (.head _)).2.2)
  · rename (Float64.cmp r _ == _) = false => hc
    rename (Float64.cmp g _ == _) = false => hc2
    have e := hueF_3 (by rw [hc]; decide) (by rw [hc2]; decide)
    have z := (N3 _ (.head _)).1
    rw [← e] at z
    exact hQ _ _ _ _ _ _ (fun b o e => F3.keep b o (hg b o e)) z (hg0 _ (N3 _ (.head _)).2.2)
end Mine
end

section
open PySem PySem.W PyProof.Rows PySem.Calls PySem.Spec PyProof.V
set_option Elab.async false
namespace Mine
def q16 (d : Int) : UInt64 := Float64.ofFrac (decide (d < 0) != decide ((16 : Int) < 0)) d.natAbs (Int.natAbs 16)
def six (r g b : UInt64) : UInt64 := Float64.mul (hueF r g b) (Float64.ofInt 6)
def tbl6 : Int → Int
  | 0 => 2 | 1 => 1 | 2 => 0 | 3 => 0 | 4 => 1 | _ => 2
def okRGB (r g b : UInt64) (u v w' : Bool) : Bool :=
  !(Float64.cmp (fmin3 r g b) (fmax3 r g b) == some .eq) && !Float64.isZero (fmax3 r g b) && !Float64.isZero (Float64.sub (fmax3 r g b) (fmin3 r g b)) &&
  !Float64.isInf (six r g b) && !Float64.isNaN (six r g b) &&
  (let k := Flt.toInt Float64.truncOf (six r g b)
   decide (0 ≤ k) && decide (k ≤ 5) && (decide (k < 3) == u) && decide (tbl6 k = (if v then 1 else 0) + (if w' then 1 else 0))) &&
   ((Float64.cmp g b == some .gt) == u)
def okT (x y z : Nat) : Bool := Nat.beq x y || Nat.beq x z || Nat.beq y z || okRGB (q16 ((x : Int) + 2)) (q16 ((y : Int) + 2)) (q16 ((z : Int) + 2)) (decide (z < y)) (decide (y < x)) (decide (z < x))
/-- the same, but the number is reckoned out first -/
def frc (u : UInt64) (f : UInt64 → Bool) : Bool := Nat.rec (f (UInt64.ofNat 0)) (fun m _ => f (UInt64.ofNat (m + 1))) u.toNat
theorem frc_eq (u : UInt64) (f : UInt64 → Bool) : frc u f = f u := by
  unfold frc
  have h : UInt64.ofNat u.toNat = u := UInt64.ofNat_toNat
  generalize hn : u.toNat = n at h
  cases n with
  | zero => show f (UInt64.ofNat 0) = f u; rw [h]
  | succ m => show f (UInt64.ofNat (m + 1)) = f u; rw [h]
def okH (u v w' : Bool) (six : UInt64) : Bool :=
  !Float64.isInf six && !Float64.isNaN six &&
  (let k := Flt.toInt Float64.truncOf six
   decide (0 ≤ k) && decide (k ≤ 5) && (decide (k < 3) == u) && decide (tbl6 k = (if v then 1 else 0) + (if w' then 1 else 0)))
def okS (u v w' : Bool) (h : UInt64) : Bool := frc (Float64.div h 4618441417868443648) fun h => frc (Float64.divmod h 4607182418800017408).2 fun h => frc (Float64.mul h (Float64.ofInt 6)) fun h => okH u v w' h
def okF (r g b : UInt64) (u v w' : Bool) : Bool :=
  frc (fmax3 r g b) fun mx => frc (fmin3 r g b) fun mn => frc (Float64.sub mx mn) fun rg =>
    frc (Float64.div (Float64.sub mx r) rg) fun rc => frc (Float64.div (Float64.sub mx g) rg) fun gc => frc (Float64.div (Float64.sub mx b) rg) fun bc =>
    !(Float64.cmp mn mx == some .eq) && !Float64.isZero mx && !Float64.isZero rg &&
    (if Float64.cmp r mx == some .eq then frc (Float64.sub bc gc) fun h => okS u v w' h
     else if Float64.cmp g mx == some .eq then frc (Float64.add 4611686018427387904 rc) fun a => frc (Float64.sub a bc) fun h => okS u v w' h
     else frc (Float64.add 4616189618054758400 gc) fun a => frc (Float64.sub a rc) fun h => okS u v w' h) && ((Float64.cmp g b == some .gt) == u)
theorem okF_eq (r g b : UInt64) (u v w' : Bool) : okF r g b u v w' = okRGB r g b u v w' := by
  unfold okF okRGB okS okH six hueF
  simp only [frc_eq]
  by_cases h1 : (Float64.cmp r (fmax3 r g b) == some .eq) = true
  · simp only [h1, if_true, Bool.and_assoc]
  · by_cases h2 : (Float64.cmp g (fmax3 r g b) == some .eq) = true
    · simp only [h1, h2, if_true, if_false, Bool.and_assoc, Bool.false_eq_true]
    · simp only [h1, h2, if_false, Bool.and_assoc, Bool.false_eq_true]
def okN (x y z : Nat) : Bool := Nat.beq x y || Nat.beq x z || Nat.beq y z || (frc (q16 ((x : Int) + 2)) fun r => frc (q16 ((y : Int) + 2)) fun g => frc (q16 ((z : Int) + 2)) fun b => okF r g b (decide (z < y)) (decide (y < x)) (decide (z < x)))
theorem okN_eq (x y z : Nat) : okN x y z = okT x y z := by
  unfold okN okT
  simp only [frc_eq, okF_eq]
set_option maxRecDepth 100000 in
theorem ok0 : ∀ y, y < 13 → ∀ z, z < 13 → okN 0 y z = true := by decide +kernel
set_option maxRecDepth 100000 in
theorem ok1 : ∀ y, y < 13 → ∀ z, z < 13 → okN 1 y z = true := by decide +kernel
set_option maxRecDepth 100000 in
theorem ok2 : ∀ y, y < 13 → ∀ z, z < 13 → okN 2 y z = true := by decide +kernel
set_option maxRecDepth 100000 in
theorem ok3 : ∀ y, y < 13 → ∀ z, z < 13 → okN 3 y z = true := by decide +kernel
set_option maxRecDepth 100000 in
theorem ok4 : ∀ y, y < 13 → ∀ z, z < 13 → okN 4 y z = true := by decide +kernel
set_option maxRecDepth 100000 in
theorem ok5 : ∀ y, y < 13 → ∀ z, z < 13 → okN 5 y z = true := by decide +kernel
set_option maxRecDepth 100000 in
theorem ok6 : ∀ y, y < 13 → ∀ z, z < 13 → okN 6 y z = true := by decide +kernel
set_option maxRecDepth 100000 in
theorem ok7 : ∀ y, y < 13 → ∀ z, z < 13 → okN 7 y z = true := by decide +kernel
set_option maxRecDepth 100000 in
theorem ok8 : ∀ y, y < 13 → ∀ z, z < 13 → okN 8 y z = true := by decide +kernel
set_option maxRecDepth 100000 in
theorem ok9 : ∀ y, y < 13 → ∀ z, z < 13 → okN 9 y z = true := by decide +kernel
set_option maxRecDepth 100000 in
theorem ok10 : ∀ y, y < 13 → ∀ z, z < 13 → okN 10 y z = true := by decide +kernel
set_option maxRecDepth 100000 in
theorem ok11 : ∀ y, y < 13 → ∀ z, z < 13 → okN 11 y z = true := by decide +kernel
set_option maxRecDepth 100000 in
theorem ok12 : ∀ y, y < 13 → ∀ z, z < 13 → okN 12 y z = true := by decide +kernel
theorem lt_split {P : Nat → Prop} {n x : Nat} (h : x < n + 1) (a : x < n → P x) (b : P n) : P x :=
  (Nat.lt_or_eq_of_le (Nat.le_of_lt_succ h)).elim a fun e => e ▸ b
theorem ok_all {x y z : Nat} (hx : x < 13) (hy : y < 13) (hz : z < 13) : okT x y z = true := by
  rw [← okN_eq]
  have h := hx
  exact (lt_split (P := fun x => okN x y z = true) h (fun h => (lt_split (P := fun x => okN x y z = true) h (fun h => (lt_split (P := fun x => okN x y z = true) h (fun h => (lt_split (P := fun x => okN x y z = true) h (fun h => (lt_split (P := fun x => okN x y z = true) h (fun h => (lt_split (P := fun x => okN x y z = true) h (fun h => (lt_split (P := fun x => okN x y z = true) h (fun h => (lt_split (P := fun x => okN x y z = true) h (fun h => (lt_split (P := fun x => okN x y z = true) h (fun h => (lt_split (P := fun x => okN x y z = true) h (fun h => (lt_split (P := fun x => okN x y z = true) h (fun h => (lt_split (P := fun x => okN x y z = true) h (fun h => (lt_split (P := fun x => okN x y z = true) h (fun h => absurd h (Nat.not_lt_zero _)) (ok0 y hy z hz))) (ok1 y hy z hz))) (ok2 y hy z hz))) (ok3 y hy z hz))) (ok4 y hy z hz))) (ok5 y hy z hz))) (ok6 y hy z hz))) (ok7 y hy z hz))) (ok8 y hy z hz))) (ok9 y hy z hz))) (ok10 y hy z hz))) (ok11 y hy z hz))) (ok12 y hy z hz))
theorem tn_eq {x : Int} (h : 2 ≤ x) : (((x - 2).toNat : Nat) : Int) + 2 = x := by omega
theorem tn_lt13 {x : Int} (h : x ≤ 14) : (x - 2).toNat < 13 := by omega
theorem tn_beq {x y : Int} (hx : 2 ≤ x) (hy : 2 ≤ y) (h : x ≠ y) : Nat.beq (x - 2).toNat (y - 2).toNat = false := by
  rw [Bool.eq_false_iff]
  intro e
  have := Nat.eq_of_beq_eq_true e
  exact h (by rw [← tn_eq hx, ← tn_eq hy, this])
theorem tn_dec {x y : Int} (hx : 2 ≤ x) (hy : 2 ≤ y) : decide ((x - 2).toNat < (y - 2).toNat) = decide (x < y) := by
  apply decide_eq_decide.mpr
  omega
theorem hue_ok {x y z : Int} (hx : 2 ≤ x ∧ x ≤ 14) (hy : 2 ≤ y ∧ y ≤ 14) (hz : 2 ≤ z ∧ z ≤ 14) (hxy : x ≠ y) (hxz : x ≠ z) (hyz : y ≠ z) :
    (Float64.cmp (fmin3 (q16 x) (q16 y) (q16 z)) (fmax3 (q16 x) (q16 y) (q16 z)) == some .eq) = false ∧ Float64.isZero (fmax3 (q16 x) (q16 y) (q16 z)) = false ∧
    Float64.isZero (Float64.sub (fmax3 (q16 x) (q16 y) (q16 z)) (fmin3 (q16 x) (q16 y) (q16 z))) = false ∧
    Float64.isInf (Float64.mul (hueF (q16 x) (q16 y) (q16 z)) (Float64.ofInt 6)) = false ∧ Float64.isNaN (Float64.mul (hueF (q16 x) (q16 y) (q16 z)) (Float64.ofInt 6)) = false ∧
    (Float64.cmp (q16 y) (q16 z) == some .gt) = decide (z < y) ∧
    ∃ k, Flt.toInt Float64.truncOf (Float64.mul (hueF (q16 x) (q16 y) (q16 z)) (Float64.ofInt 6)) = k ∧ 0 ≤ k ∧ k ≤ 5 ∧ decide (k < 3) = decide (z < y) ∧ tbl6 k = (if y < x then 1 else 0) + (if z < x then 1 else 0) := by
  have h := ok_all (x := (x - 2).toNat) (y := (y - 2).toNat) (z := (z - 2).toNat) (tn_lt13 hx.2) (tn_lt13 hy.2) (tn_lt13 hz.2)
  unfold okT okRGB at h
  rw [tn_eq hx.1, tn_eq hy.1, tn_eq hz.1] at h
  have e1 : Nat.beq (x - 2).toNat (y - 2).toNat = false := tn_beq hx.1 hy.1 hxy
  have e2 : Nat.beq (x - 2).toNat (z - 2).toNat = false := tn_beq hx.1 hz.1 hxz
  have e3 : Nat.beq (y - 2).toNat (z - 2).toNat = false := tn_beq hy.1 hz.1 hyz
  rw [e1, e2, e3] at h
  have d1 : decide ((z - 2).toNat < (y - 2).toNat) = decide (z < y) := tn_dec hz.1 hy.1
  have d2 : decide ((y - 2).toNat < (x - 2).toNat) = decide (y < x) := tn_dec hy.1 hx.1
  have d3 : decide ((z - 2).toNat < (x - 2).toNat) = decide (z < x) := tn_dec hz.1 hx.1
  rw [d1, d2, d3] at h
  simp only [Bool.false_or, Bool.and_eq_true, Bool.not_eq_true', decide_eq_true_eq, beq_iff_eq] at h
  obtain ⟨⟨⟨⟨⟨⟨h1, h2⟩, h3⟩, h4⟩, h5⟩, ⟨⟨h6, h7⟩, h8⟩, h9⟩, h10⟩ := h
  exact ⟨h1, h2, h3, h4, h5, h10, _, rfl, h6, h7, h8, h9⟩
end Mine
end

section
open PySem PySem.W PyProof.Rows PySem.Calls PySem.Spec
set_option Elab.async false
namespace Mine
local macro_rules | `(tactic| omega) => `(tactic| walk_at "shared 1")
section
variable {prog : Program} {w : World} {A : Around} {E : Value → Shared → Prop} {s : Shared} {env : Env} {h₀ : Heap} {x : Str} {px : Pos} {body : List Stmt} {Q : Flow → Shared → Prop}
theorem loopC {I : Addr} {fp wr : List Addr} {n : Nat} {P : Nat → Value → Prop} {St : Nat → Heap → Prop} {m₀ : Str → Option Value} {news : List (Addr × Obj)} (J : Nat → (Str → Option Value) → List (Addr × Obj) → Prop)
    (W : Walks prog w A I fp wr n P St) (hE : PassesOwn (model prog w) A env E) (hLf : env.locals ∉ fp) (hwr : ∀ b ∈ wr, h₀.get? b = none) (hfp : ∀ q ∈ news, q.1 ∉ fp) (hst : St 0 s.heap) (F : Fr h₀ env.locals s.heap m₀) (N : News h₀ env.locals s.heap news) (hj : J 0 m₀ news)
    (turn : ∀ i v m₁ news₁ h tk own, i < n → P i v → news₁.map (·.1) = news.map (·.1) → OwnOff own (news.map (·.1)) → (∀ p ∈ own, h.get? p.1 = some p.2 ∧ p.1 ∈ fp) → (∀ b ∈ fp, h₀.get? b = none → ∀ o, h.get? b = some o → (b, o) ∈ own) → St (i + 1) h → J i m₁ news₁ → Fr h₀ env.locals h m₁ → News h₀ env.locals h (news₁ ++ own) →
      wpAny (model prog w) A (storeName env x v) (fun _ s' => wpAny (model prog w) A (execs body env) (InvPostN h₀ env.locals (J (i + 1)) own (news.map (·.1)) { s with heap := h, toks := tk } Q) E s') E { s with heap := h, toks := tk })
    (done : ∀ m₁ news₁ h tk, J n m₁ news₁ → Fr h₀ env.locals h m₁ → News h₀ env.locals h news₁ → Q .next { s with heap := h, toks := tk }) :
    codeAny (model prog w) A (.forLoop (.Name x px) (.ref I) body [] env) (fun r s' => match r with | .ok f => Q f s' | .error e => cameBackBy (model prog w) A env E e s') s := by
  have hLw : env.locals ∉ wr := fun h => hLf (W.sub _ h)
  have old : ∀ b o, h₀.get? b = some o → b ∉ wr := fun b o e hb => by rw [hwr b hb] at e; cases e
  refine codeAny_forLoop
    (fun k s' => ∃ h' tk m' news' i, s' = { s with heap := h', toks := tk } ∧ St i h' ∧ Fr h₀ env.locals h' m' ∧ News h₀ env.locals h' news' ∧ news'.map (·.1) = news.map (·.1) ∧ J i m' news' ∧ i ≤ n ∧ k = n + 1 - i) ?_ (n + 1)
    ⟨s.heap, s.toks, m₀, news, 0, rfl, hst, F, N, rfl, hj, Nat.zero_le _, rfl⟩
  rintro k s' ⟨h', tk, m', news', i, rfl, hst', F', N', hadr, hJ, hi, rfl⟩
  have off : ∀ p ∈ news', p.1 ∉ fp := fun p hp hf => by
    have h1 : p.1 ∈ news'.map (·.1) := List.mem_map.mpr ⟨p, hp, rfl⟩
    rw [hadr] at h1
    obtain ⟨q, hq1, hq2⟩ := List.mem_map.mp h1
    exact hfp q hq1 (by rw [hq2]; exact hf)
  have next : ∀ h₁ : Heap, (∀ b o, b ∉ wr → h'.get? b = some o → h₁.get? b = some o) → Fr h₀ env.locals h₁ m' ∧ News h₀ env.locals h₁ news' := fun h₁ hk₁ =>
    ⟨⟨F'.ns.at' fun o e => hk₁ _ o hLw e, fun b o e => hk₁ b o (old b o e) (F'.keep b o e), F'.above⟩, fun p hp => ⟨hk₁ _ _ (fun hw => off p hp (W.sub _ hw)) (N' p hp).1, (N' p hp).2⟩⟩
  by_cases hlt : i < n
  · refine W.item i _ _ _ hlt hst' fun v h₁ tk₁ hP hst₁ hk₁ => ?_
    obtain ⟨F₁, N₁⟩ := next h₁ hk₁
    refine wpAny_assign_Name ?_
    have Nown : News h₀ env.locals h₁ (ownOf h₀ fp h₁) := news_ownOf hLf
    have hsep : OwnOff (ownOf h₀ fp h₁) (news.map (·.1)) := by
      intro p hp b hb e
      obtain ⟨q, hq, rfl⟩ := List.mem_map.mp hb
      exact hfp q hq (e ▸ ownOf_sub p hp)
    refine wpAny_mono (wpAny_passesOwn hE (turn i v m' news' h₁ tk₁ (ownOf h₀ fp h₁) hlt hP hadr hsep (fun p hp => ⟨(Nown p hp).1, ownOf_sub p hp⟩) (fun b hb hn o e => mem_ownOf hb hn e) hst₁ hJ F₁ (N₁.append Nown))) (fun _ s₂ h₂ => ?_) fun _ _ e => e
    refine wpAny_mono (wpAny_passesOwn hE h₂) (fun f s₃ h₃ => ?_) fun _ _ e => e
    have fin : InvEndN h₀ env.locals (J (i + 1)) (ownOf h₀ fp h₁) (news.map (·.1)) { s with heap := h₁, toks := tk₁ } s₃ → ∃ m, m < n + 1 - i ∧ ∃ h' tk m' news' i, s₃ = { s with heap := h', toks := tk } ∧ St i h' ∧ Fr h₀ env.locals h' m' ∧ News h₀ env.locals h' news' ∧ news'.map (·.1) = news.map (·.1) ∧ J i m' news' ∧ i ≤ n ∧ m = n + 1 - i := by
      rintro ⟨h₃', tk₃, m₂, news₂, nx, rfl, F₃, N₃, hn, ho, ha, hm⟩
      refine ⟨n + 1 - (i + 1), by omega, h₃', tk₃, m₂, nx, i + 1, rfl, ?_, F₃, fun p hp => N₃ p (hn p hp), ha, hm, hlt, rfl⟩
      refine W.frame _ _ _ hst₁ fun b hb o e => ?_
      cases hn₀ : h₀.get? b with
      | some o₀ =>
        have : o₀ = o := by have := F₁.keep b o₀ hn₀; rw [e] at this; exact (Option.some.inj this).symm
        exact this ▸ F₃.keep b o₀ hn₀
      | none => exact (N₃ _ (ho _ (mem_ownOf hb hn₀ e))).1
    cases f with
    | ret v => exact h₃
    | brk => exact h₃
    | next => exact fin h₃
    | cont => exact fin h₃
  · have hin : i = n := by omega
    subst hin
    refine W.done _ _ _ hst' fun h₁ tk₁ hk₁ => wpAny_execs_nil ?_
    obtain ⟨F₁, N₁⟩ := next h₁ hk₁
    exact done m' news' h₁ tk₁ hJ F₁ N₁

theorem InvPostN.sub {J : (Str → Option Value) → List (Addr × Obj) → Prop} {L : Addr} {own own' : List (Addr × Obj)} {adr : List Addr} {s₁ s₂ : Shared} {f : Flow} (hs : ∀ p ∈ own, p ∈ own') (h : InvPostN h₀ L J own' adr s₁ Q f s₂) : InvPostN h₀ L J own adr s₁ Q f s₂ := by
  have g : InvEndN h₀ L J own' adr s₁ s₂ → InvEndN h₀ L J own adr s₁ s₂ := by
    rintro ⟨h', tk, m', news', nx, e, F, N, a, b, c, d⟩
    exact ⟨h', tk, m', news', nx, e, F, N, a, fun p hp => b p (hs p hp), c, d⟩
  cases f with
  | ret v => exact h
  | brk => exact h
  | next => exact g h
  | cont => exact g h

/-- For over a fresh list of the frame, that stands at the head of `news`; the store is left in the turn. -/
theorem iterC_head {l : Addr} {o : Obj} {vs : List Value} {m₀ : Str → Option Value} {rest : List (Addr × Obj)} (J : Nat → (Str → Option Value) → List (Addr × Obj) → Prop)
    (hh : A.handled = none) (hE : PassesOwn (model prog w) A env E) (isl : ∀ h : Heap, h.get? l = some o → h.IsList l vs.toArray) (hl0 : ∀ q ∈ rest, q.1 ≠ l) (F : Fr h₀ env.locals s.heap m₀) (N : News h₀ env.locals s.heap ((l, o) :: rest)) (hj : J 0 m₀ rest)
    (turn : ∀ i v m₁ rest₁ h tk I oI, i < vs.length → vs[i]? = some v → LCg.Off1 I ((l, o) :: rest₁) → J i m₁ rest₁ → Fr h₀ env.locals h m₁ → News h₀ env.locals h ((l, o) :: (I, oI) :: rest₁) →
      wpAny (model prog w) A (storeName env x v) (fun _ s' => wpAny (model prog w) A (execs body env) (InvPostN h₀ env.locals (J (i + 1)) [(l, o), (I, oI)] (rest.map (·.1)) { s with heap := h, toks := tk } Q) E s') E { s with heap := h, toks := tk })
    (done : ∀ m₁ rest₁ h tk, J vs.length m₁ rest₁ → Fr h₀ env.locals h m₁ → News h₀ env.locals h rest₁ → Q .next { s with heap := h, toks := tk }) :
    wpAny (model prog w) A (pyIter (.ref l)) (fun it s₂ => codeAny (model prog w) A (.forLoop (.Name x px) it body [] env) (fun r s' => match r with | .ok f => Q f s' | .error e => cameBackBy (model prog w) A env E e s') s₂) E s := by
  have No := N _ (.head _)
  have hl : s.heap.IsList l vs.toArray := isl _ No.1
  have hlt : l < s.heap.objs.size := Heap.lt_size No.1
  refine wpAny_pyIter_list hl ?_
  have W₀ := Walks.list (prog := prog) (w := w) hh s.heap.objs.size l (Nat.ne_of_lt hlt) vs.toArray
  have W : Walks prog w A s.heap.objs.size [s.heap.objs.size, l] [s.heap.objs.size] vs.length (fun i v => vs[i]? = some v) (fun i h => h.IsListIter s.heap.objs.size l i ∧ h.get? l = some o) :=
    { sub := W₀.sub
      frame := fun i h h' st hk => ⟨(W₀.frame i h h' ⟨st.1, isl h st.2⟩ hk).1, hk l (by simp) o st.2⟩
      item := fun i s Q E hi st hQ => W₀.item i s Q E (by simpa using hi) ⟨st.1, isl _ st.2⟩ fun v h' tk hP st' hk => hQ v h' tk (by simpa using hP) ⟨st'.1, hk l o (by simpa using Nat.ne_of_lt hlt) st.2⟩ hk
      done := fun s Q E st hQ => W₀.done s Q E (by simpa using ⟨st.1, isl _ st.2⟩) hQ
      self := fun i s Q E st hQ => W₀.self i s Q E ⟨st.1, isl _ st.2⟩ hQ }
  refine loopC J W hE ?_ ?_ ?_ ⟨⟨_, Heap.get?_push_size _ rfl, rfl, rfl⟩, Heap.get?_push_of_some _ No.1⟩ (F.push _) (fun p hp => ⟨Heap.get?_push_of_some _ (N p (.tail _ hp)).1, (N p (.tail _ hp)).2⟩) hj ?_ done
  · intro hm
    rcases List.mem_cons.mp hm with e | hm
    · exact absurd F.ns.lt (e ▸ Nat.lt_irrefl _)
    · exact No.2.1 (List.mem_singleton.mp hm).symm
  · intro b hb
    rw [List.mem_singleton.mp hb]
    exact next_is_new F
  · intro q hq hm
    rcases List.mem_cons.mp hm with h1 | h1
    · exact absurd (Heap.lt_size (N q (.tail _ hq)).1) (by rw [h1]; exact Nat.lt_irrefl _)
    · exact hl0 q hq (List.mem_singleton.mp h1)
  · intro i v m₁ news₁ h tk own hi hP hadr hoff hget hall hst hJ F₁ N₁
    have hIn : ∀ b, h₀.get? b = none ∨ b < s.heap.objs.size := fun b => by
      cases e : h₀.get? b with
      | none => exact .inl rfl
      | some o => exact .inr (Nat.lt_trans (Nat.lt_of_lt_of_le (Heap.lt_size e) F.above) F.ns.lt)
    have hI₀ : h₀.get? s.heap.objs.size = none := (hIn _).resolve_right (Nat.lt_irrefl _)
    obtain ⟨oI, hoI⟩ : ∃ oI, h.get? s.heap.objs.size = some oI := by obtain ⟨oI, e, _⟩ := hst.1; exact ⟨oI, e⟩
    have hlo : (l, o) ∈ own := hall l (by simp) No.2.2 o hst.2
    have hIo : (s.heap.objs.size, oI) ∈ own := hall _ (by simp) hI₀ oI hoI
    have hsub : ∀ p ∈ own, p ∈ [(l, o), (s.heap.objs.size, oI)] := fun p hp => by
      obtain ⟨h1, h2⟩ := hget p hp
      obtain ⟨p1, p2⟩ := p
      dsimp only at h1 h2
      rcases List.mem_cons.mp h2 with rfl | h2
      · rw [hoI] at h1
        obtain rfl : oI = p2 := Option.some.inj h1
        simp
      · obtain rfl := List.mem_singleton.mp h2
        rw [hst.2] at h1
        obtain rfl : o = p2 := Option.some.inj h1
        simp
    have hoffI : LCg.Off1 s.heap.objs.size ((l, o) :: news₁) := by
      have : ∀ q ∈ news₁, q.1 ≠ s.heap.objs.size := fun q hq e => by
        have h1 : q.1 ∈ news₁.map (·.1) := List.mem_map_of_mem hq
        rw [hadr] at h1
        obtain ⟨r, hr1, hr2⟩ := List.mem_map.mp h1
        exact absurd (Heap.lt_size (N r (.tail _ hr1)).1) (by rw [hr2, e]; exact Nat.lt_irrefl _)
      refine ⟨Nat.ne_of_lt hlt, ?_⟩
      clear hadr hJ N₁
      revert this
      induction news₁ with
      | nil => exact fun _ => trivial
      | cons q r ih => exact fun a => ⟨a q (.head _), ih fun x hx => a x (.tail _ hx)⟩
    refine wpAny_mono (turn i v m₁ news₁ h tk s.heap.objs.size oI hi hP hoffI hJ F₁ ?_) (fun _ s₂ h₂ => ?_) fun _ _ e => e
    · intro p hp
      rcases List.mem_cons.mp hp with rfl | hp
      · exact N₁ _ (List.mem_append_right _ hlo)
      · rcases List.mem_cons.mp hp with rfl | hp
        · exact N₁ _ (List.mem_append_right _ hIo)
        · exact N₁ _ (List.mem_append_left _ hp)
    · exact wpAny_mono h₂ (fun f s₃ h₃ => InvPostN.sub hsub h₃) fun _ _ e => e

theorem iterC_range {r : Addr} {a₀ b₀ : Int} {t₀ u₀ v₀ : Tok} {n : Nat} {m₀ : Str → Option Value} {news : List (Addr × Obj)} (J : Nat → (Str → Option Value) → List (Addr × Obj) → Prop)
    (hh : A.handled = none) (hE : PassesOwn (model prog w) A env E) (hr : IsRange s.heap r a₀ b₀ 1 t₀ u₀ v₀) (hsmall : Builtin.Range.small a₀ b₀ 1 = true) (hn : Builtin.Range.rangeSize a₀ b₀ 1 = (n : Int)) (F : Fr h₀ env.locals s.heap m₀) (N : News h₀ env.locals s.heap news) (hj : J 0 m₀ news)
    (turn : ∀ i t m₁ news₁ h tk I oI, i < n → LCg.Off1 I news₁ → J i m₁ news₁ → Fr h₀ env.locals h m₁ → News h₀ env.locals h ((I, oI) :: news₁) →
      wpAny (model prog w) A (storeName env x (.int (a₀ + (i : Int)) t)) (fun _ s' => wpAny (model prog w) A (execs body env) (InvPostN h₀ env.locals (J (i + 1)) [(I, oI)] (news.map (·.1)) { s with heap := h, toks := tk } Q) E s') E { s with heap := h, toks := tk })
    (done : ∀ m₁ news₁ h tk, J n m₁ news₁ → Fr h₀ env.locals h m₁ → News h₀ env.locals h news₁ → Q .next { s with heap := h, toks := tk }) :
    wpAny (model prog w) A (pyIter (.ref r)) (fun it s₂ => codeAny (model prog w) A (.forLoop (.Name x px) it body [] env) (fun r s' => match r with | .ok f => Q f s' | .error e => cameBackBy (model prog w) A env E e s') s₂) E s := by
  refine wpAny_pyIter_range hr hsmall ?_
  have W : Walks prog w A s.heap.objs.size [s.heap.objs.size] [s.heap.objs.size] n (fun i v => i < n ∧ ∃ t, v = .int (a₀ + i * 1) t)
      (fun i h => IsRangeIter h s.heap.objs.size (a₀ + (i : Nat) * 1) ((n : Int) - (i : Nat)) 1) := (Walks.range hh _ a₀ 1 n).bound
  refine loopC J W hE ?_ ?_ ?_ (by show IsRangeIter _ _ _ _ _; rw [hn]; simpa using Heap.get?_push_size _ rfl) (F.push _) (fun p hp => ⟨Heap.get?_push_of_some _ (N p hp).1, (N p hp).2⟩) hj ?_ done
  · intro hm
    exact absurd F.ns.lt ((List.mem_singleton.mp hm) ▸ Nat.lt_irrefl _)
  · intro b hb
    rw [List.mem_singleton.mp hb]
    exact next_is_new F
  · intro p hp hI
    exact absurd (Heap.lt_size (N p hp).1) ((List.mem_singleton.mp hI) ▸ Nat.lt_irrefl _)
  · rintro i v m₁ news₁ h tk own hi ⟨_, t, rfl⟩ hadr hoff hget hall hst hJ F₁ N₁
    have e : a₀ + (i : Int) * 1 = a₀ + (i : Int) := by omega
    rw [e]
    have hI₀ : h₀.get? s.heap.objs.size = none := next_is_new F
    obtain ⟨oI, hoI⟩ : ∃ oI, h.get? s.heap.objs.size = some oI := by first | exact ⟨_, hst.1⟩ | exact ⟨_, hst⟩ | (obtain ⟨oI, e, _⟩ := hst; exact ⟨oI, e⟩)
    have hIo : (s.heap.objs.size, oI) ∈ own := hall _ (by simp) hI₀ oI hoI
    have hsub : ∀ p ∈ own, p ∈ [(s.heap.objs.size, oI)] := fun p hp => by
      obtain ⟨h1, h2⟩ := hget p hp
      obtain ⟨p1, p2⟩ := p
      dsimp only at h1 h2
      obtain rfl := List.mem_singleton.mp h2
      rw [hoI] at h1
      obtain rfl : oI = p2 := Option.some.inj h1
      simp
    have hoffI : LCg.Off1 s.heap.objs.size news₁ := by
      have : ∀ q ∈ news₁, q.1 ≠ s.heap.objs.size := fun q hq e => by
        have h1 : q.1 ∈ news₁.map (·.1) := List.mem_map_of_mem hq
        rw [hadr] at h1
        obtain ⟨r, hr1, hr2⟩ := List.mem_map.mp h1
        exact absurd (Heap.lt_size (N r hr1).1) (by rw [hr2, e]; exact Nat.lt_irrefl _)
      clear hadr hJ N₁
      revert this
      induction news₁ with
      | nil => exact fun _ => trivial
      | cons q r ih => exact fun a => ⟨a q (.head _), ih fun x hx => a x (.tail _ hx)⟩
    refine wpAny_mono (turn i t m₁ news₁ h tk s.heap.objs.size oI hi hoffI hJ F₁ ?_) (fun _ s₂ h₂ => ?_) fun _ _ e => e
    · intro p hp
      rcases List.mem_cons.mp hp with rfl | hp
      · exact N₁ _ (List.mem_append_right _ hIo)
      · exact N₁ _ (List.mem_append_left _ hp)
    · exact wpAny_mono h₂ (fun f s₃ h₃ => InvPostN.sub hsub h₃) fun _ _ e => e
end
end Mine
end

section
open PySem PySem.W PyProof.Rows PySem.Calls PySem.Spec
set_option Elab.async false
namespace Mine
def EndG (h₀ : Heap) (L : Addr) (J : (Str → Option Value) → List (Addr × Obj) → Prop) (own : List (Addr × Obj)) (fp : List Addr) (s₁ s₂ : Shared) : Prop :=
  ∃ h' tk m' news' nx, s₂ = { s₁ with heap := h', toks := tk } ∧ Fr h₀ L h' m' ∧ News h₀ L h' news' ∧ (∀ p ∈ nx, p ∈ news') ∧ (∀ p ∈ own, p ∈ news') ∧ (∀ q ∈ nx, q.1 ∉ fp) ∧ J m' nx
def PostG (h₀ : Heap) (L : Addr) (J : (Str → Option Value) → List (Addr × Obj) → Prop) (own : List (Addr × Obj)) (fp : List Addr) (s₁ : Shared) (Q : Flow → Shared → Prop) (f : Flow) (s₂ : Shared) : Prop :=
  match f with
  | .ret v => Q (.ret v) s₂
  | .brk => Q .next s₂
  | _ => EndG h₀ L J own fp s₁ s₂
theorem EndG.intro {h₀ : Heap} {L : Addr} {J : (Str → Option Value) → List (Addr × Obj) → Prop} {own : List (Addr × Obj)} {fp : List Addr} {s₁ : Shared} {h' : Heap} {tk : Nat} {m' : Str → Option Value} {news' : List (Addr × Obj)} (nx : List (Addr × Obj))
    (F : Fr h₀ L h' m') (N : News h₀ L h' news') (a : ∀ p ∈ nx, p ∈ news') (b : ∀ p ∈ own, p ∈ news') (c : ∀ q ∈ nx, q.1 ∉ fp) (d : J m' nx) : EndG h₀ L J own fp s₁ { s₁ with heap := h', toks := tk } := ⟨h', tk, m', news', nx, rfl, F, N, a, b, c, d⟩
section
variable {prog : Program} {w : World} {A : Around} {E : Value → Shared → Prop} {s : Shared} {env : Env} {h₀ : Heap} {x : Str} {px : Pos} {body : List Stmt} {Q : Flow → Shared → Prop}
theorem loopG {I : Addr} {fp wr : List Addr} {n : Nat} {P : Nat → Value → Prop} {St : Nat → Heap → Prop} {m₀ : Str → Option Value} {news : List (Addr × Obj)} (J : Nat → (Str → Option Value) → List (Addr × Obj) → Prop)
    (W : Walks prog w A I fp wr n P St) (hE : PassesOwn (model prog w) A env E) (hLf : env.locals ∉ fp) (hwr : ∀ b ∈ wr, h₀.get? b = none) (hfp : ∀ q ∈ news, q.1 ∉ fp) (hst : St 0 s.heap) (F : Fr h₀ env.locals s.heap m₀) (N : News h₀ env.locals s.heap news) (hj : J 0 m₀ news)
    (turn : ∀ i v m₁ news₁ h tk own, i < n → P i v → (∀ q ∈ news₁, q.1 ∉ fp) → (∀ p ∈ own, h.get? p.1 = some p.2 ∧ p.1 ∈ fp) → (∀ b ∈ fp, h₀.get? b = none → ∀ o, h.get? b = some o → (b, o) ∈ own) → St (i + 1) h → J i m₁ news₁ → Fr h₀ env.locals h m₁ → News h₀ env.locals h (news₁ ++ own) →
      wpAny (model prog w) A (storeName env x v) (fun _ s' => wpAny (model prog w) A (execs body env) (PostG h₀ env.locals (J (i + 1)) own fp { s with heap := h, toks := tk } Q) E s') E { s with heap := h, toks := tk })
    (done : ∀ m₁ news₁ h tk, J n m₁ news₁ → Fr h₀ env.locals h m₁ → News h₀ env.locals h news₁ → Q .next { s with heap := h, toks := tk }) :
    codeAny (model prog w) A (.forLoop (.Name x px) (.ref I) body [] env) (fun r s' => match r with | .ok f => Q f s' | .error e => cameBackBy (model prog w) A env E e s') s := by
  have hLw : env.locals ∉ wr := fun h => hLf (W.sub _ h)
  have old : ∀ b o, h₀.get? b = some o → b ∉ wr := fun b o e hb => by rw [hwr b hb] at e; cases e
  refine codeAny_forLoop
    (fun k s' => ∃ h' tk m' news' i, s' = { s with heap := h', toks := tk } ∧ St i h' ∧ Fr h₀ env.locals h' m' ∧ News h₀ env.locals h' news' ∧ (∀ q ∈ news', q.1 ∉ fp) ∧ J i m' news' ∧ i ≤ n ∧ k = n + 1 - i) ?_ (n + 1)
    ⟨s.heap, s.toks, m₀, news, 0, rfl, hst, F, N, hfp, hj, Nat.zero_le _, rfl⟩
  rintro k s' ⟨h', tk, m', news', i, rfl, hst', F', N', off, hJ, hi, rfl⟩
  have next : ∀ h₁ : Heap, (∀ b o, b ∉ wr → h'.get? b = some o → h₁.get? b = some o) → Fr h₀ env.locals h₁ m' ∧ News h₀ env.locals h₁ news' := fun h₁ hk₁ =>
    ⟨⟨F'.ns.at' fun o e => hk₁ _ o hLw e, fun b o e => hk₁ b o (old b o e) (F'.keep b o e), F'.above⟩, fun p hp => ⟨hk₁ _ _ (fun hw => off p hp (W.sub _ hw)) (N' p hp).1, (N' p hp).2⟩⟩
  by_cases hlt : i < n
  · refine W.item i _ _ _ hlt hst' fun v h₁ tk₁ hP hst₁ hk₁ => ?_
    obtain ⟨F₁, N₁⟩ := next h₁ hk₁
    refine wpAny_assign_Name ?_
    have Nown : News h₀ env.locals h₁ (ownOf h₀ fp h₁) := news_ownOf hLf
    refine wpAny_mono (wpAny_passesOwn hE (turn i v m' news' h₁ tk₁ (ownOf h₀ fp h₁) hlt hP off (fun p hp => ⟨(Nown p hp).1, ownOf_sub p hp⟩) (fun b hb hn o e => mem_ownOf hb hn e) hst₁ hJ F₁ (N₁.append Nown))) (fun _ s₂ h₂ => ?_) fun _ _ e => e
    refine wpAny_mono (wpAny_passesOwn hE h₂) (fun f s₃ h₃ => ?_) fun _ _ e => e
    have fin : EndG h₀ env.locals (J (i + 1)) (ownOf h₀ fp h₁) fp { s with heap := h₁, toks := tk₁ } s₃ → ∃ m, m < n + 1 - i ∧ ∃ h' tk m' news' i, s₃ = { s with heap := h', toks := tk } ∧ St i h' ∧ Fr h₀ env.locals h' m' ∧ News h₀ env.locals h' news' ∧ (∀ q ∈ news', q.1 ∉ fp) ∧ J i m' news' ∧ i ≤ n ∧ m = n + 1 - i := by
      rintro ⟨h₃', tk₃, m₂, news₂, nx, rfl, F₃, N₃, hn, ho, ha, hm⟩
      refine ⟨n + 1 - (i + 1), by omega, h₃', tk₃, m₂, nx, i + 1, rfl, ?_, F₃, fun p hp => N₃ p (hn p hp), ha, hm, hlt, rfl⟩
      refine W.frame _ _ _ hst₁ fun b hb o e => ?_
      cases hn₀ : h₀.get? b with
      | some o₀ =>
        have : o₀ = o := by have := F₁.keep b o₀ hn₀; rw [e] at this; exact (Option.some.inj this).symm
        exact this ▸ F₃.keep b o₀ hn₀
      | none => exact (N₃ _ (ho _ (mem_ownOf hb hn₀ e))).1
    cases f with
    | ret v => exact h₃
    | brk => exact h₃
    | next => exact fin h₃
    | cont => exact fin h₃
  · have hin : i = n := by omega
    subst hin
    refine W.done _ _ _ hst' fun h₁ tk₁ hk₁ => wpAny_execs_nil ?_
    obtain ⟨F₁, N₁⟩ := next h₁ hk₁
    exact done m' news' h₁ tk₁ hJ F₁ N₁

theorem PostG.sub {J : (Str → Option Value) → List (Addr × Obj) → Prop} {L : Addr} {own own' : List (Addr × Obj)} {fp : List Addr} {s₁ s₂ : Shared} {f : Flow} (hs : ∀ p ∈ own, p ∈ own') (h : PostG h₀ L J own' fp s₁ Q f s₂) : PostG h₀ L J own fp s₁ Q f s₂ := by
  have g : EndG h₀ L J own' fp s₁ s₂ → EndG h₀ L J own fp s₁ s₂ := by
    rintro ⟨h', tk, m', news', nx, e, F, N, a, b, c, d⟩
    exact ⟨h', tk, m', news', nx, e, F, N, a, fun p hp => b p (hs p hp), c, d⟩
  cases f with
  | ret v => exact h
  | brk => exact h
  | next => exact g h
  | cont => exact g h

theorem off2 {l I : Addr} {nx : List (Addr × Obj)} (h1 : LCg.Off1 I nx) (h2 : LCg.Off1 l nx) : ∀ q ∈ nx, q.1 ∉ [I, l] := by
  induction nx with
  | nil => exact fun _ h => nomatch h
  | cons p r ih =>
    intro q hq hm
    rcases List.mem_cons.mp hq with rfl | hq
    · rcases List.mem_cons.mp hm with e | hm
      · exact h1.1 e
      · exact h2.1 (List.mem_singleton.mp hm)
    · exact ih h1.2 h2.2 q hq hm
theorem off1_of {I : Addr} {nx : List (Addr × Obj)} {fp : List Addr} (hI : I ∈ fp) (h : ∀ q ∈ nx, q.1 ∉ fp) : LCg.Off1 I nx := by
  induction nx with
  | nil => trivial
  | cons p r ih => exact ⟨fun e => h p (.head _) (by rw [e]; exact hI), ih fun q hq => h q (.tail _ hq)⟩
theorem off1' {I : Addr} {nx : List (Addr × Obj)} (h1 : LCg.Off1 I nx) : ∀ q ∈ nx, q.1 ∉ [I] := by
  induction nx with
  | nil => exact fun _ h => nomatch h
  | cons p r ih =>
    intro q hq hm
    rcases List.mem_cons.mp hq with rfl | hq
    · exact h1.1 (List.mem_singleton.mp hm)
    · exact ih h1.2 q hq hm

/-- For over a fresh list of the frame, which stands at the head of `news`; the rest may grow. -/
theorem iterG_seq {l : Addr} {o : Obj} {vs : List Value} {m₀ : Str → Option Value} {rest : List (Addr × Obj)} (IsIt : Heap → Addr → Addr → Nat → Prop) (IsS : Heap → Addr → Array Value → Prop) (J : Nat → (Str → Option Value) → List (Addr × Obj) → Prop)
    (W₀ : Walks prog w A s.heap.objs.size [s.heap.objs.size, l] [s.heap.objs.size] vs.toArray.size (fun i v => vs.toArray[i]? = some v) (fun i h => IsIt h s.heap.objs.size l i ∧ IsS h l vs.toArray))
    (hsome : ∀ h i, IsIt h s.heap.objs.size l i → ∃ oI, h.get? s.heap.objs.size = some oI)
    (hiter : ∀ Q : Value → Shared → Prop, (∀ oI, oI.isFreed = false → (∀ h, h.get? s.heap.objs.size = some oI → IsIt h s.heap.objs.size l 0) → Q (.ref s.heap.objs.size) { s with heap := s.heap.push oI }) → wpAny (model prog w) A (pyIter (.ref l)) Q E s)
    (hE : PassesOwn (model prog w) A env E) (isl : ∀ h : Heap, h.get? l = some o → IsS h l vs.toArray) (hl0 : LCg.Off1 l rest) (F : Fr h₀ env.locals s.heap m₀) (N : News h₀ env.locals s.heap ((l, o) :: rest)) (hj : J 0 m₀ rest)
    (turn : ∀ i v m₁ rest₁ h tk I oI, i < vs.length → vs[i]? = some v → @Ne Nat l I → LCg.Off1 I rest₁ → LCg.Off1 l rest₁ → J i m₁ rest₁ → Fr h₀ env.locals h m₁ → News h₀ env.locals h ((l, o) :: (I, oI) :: rest₁) →
      wpAny (model prog w) A (storeName env x v) (fun _ s' => wpAny (model prog w) A (execs body env) (PostG h₀ env.locals (J (i + 1)) [(l, o), (I, oI)] [I, l] { s with heap := h, toks := tk } Q) E s') E { s with heap := h, toks := tk })
    (done : ∀ m₁ rest₁ h tk, J vs.length m₁ rest₁ → Fr h₀ env.locals h m₁ → News h₀ env.locals h rest₁ → Q .next { s with heap := h, toks := tk }) :
    wpAny (model prog w) A (pyIter (.ref l)) (fun it s₂ => codeAny (model prog w) A (.forLoop (.Name x px) it body [] env) (fun r s' => match r with | .ok f => Q f s' | .error e => cameBackBy (model prog w) A env E e s') s₂) E s := by
  have No := N _ (.head _)
  have hlt : l < s.heap.objs.size := Heap.lt_size No.1
  refine hiter _ fun oI₀ hfr hoI₀ => ?_
  have W : Walks prog w A s.heap.objs.size [s.heap.objs.size, l] [s.heap.objs.size] vs.length (fun i v => vs[i]? = some v) (fun i h => IsIt h s.heap.objs.size l i ∧ h.get? l = some o) :=
    { sub := W₀.sub
      frame := fun i h h' st hk => ⟨(W₀.frame i h h' ⟨st.1, isl h st.2⟩ hk).1, hk l (by simp) o st.2⟩
      item := fun i s Q E hi st hQ => W₀.item i s Q E (by simpa using hi) ⟨st.1, isl _ st.2⟩ fun v h' tk hP st' hk => hQ v h' tk (by simpa using hP) ⟨st'.1, hk l o (by simpa using Nat.ne_of_lt hlt) st.2⟩ hk
      done := fun s Q E st hQ => W₀.done s Q E (by simpa using ⟨st.1, isl _ st.2⟩) hQ
      self := fun i s Q E st hQ => W₀.self i s Q E ⟨st.1, isl _ st.2⟩ hQ }
  have hrI : LCg.Off1 s.heap.objs.size rest := LCg.Off3.one (I := s.heap.objs.size) (C := s.heap.objs.size) (LCg.Off3.of fun p hp => have := Nat.ne_of_lt (Heap.lt_size (N p (.tail _ hp)).1); ⟨this, this, this⟩)
  refine loopG J W hE ?_ ?_ (off2 hrI hl0) ⟨hoI₀ _ (Heap.get?_push_size _ hfr), Heap.get?_push_of_some _ No.1⟩ (F.push _) (fun p hp => ⟨Heap.get?_push_of_some _ (N p (.tail _ hp)).1, (N p (.tail _ hp)).2⟩) hj ?_ done
  · intro hm
    rcases List.mem_cons.mp hm with e | hm
    · exact absurd F.ns.lt (e ▸ Nat.lt_irrefl _)
    · exact No.2.1 (List.mem_singleton.mp hm).symm
  · intro b hb
    rw [List.mem_singleton.mp hb]
    exact next_is_new F
  · intro i v m₁ news₁ h tk own hi hP hoff hget hall hst hJ F₁ N₁
    have hI₀ : h₀.get? s.heap.objs.size = none := next_is_new F
    obtain ⟨oI, hoI⟩ := hsome h _ hst.1
    have hlo : (l, o) ∈ own := hall l (by simp) No.2.2 o hst.2
    have hIo : (s.heap.objs.size, oI) ∈ own := hall _ (by simp) hI₀ oI hoI
    have hsub : ∀ p ∈ own, p ∈ [(l, o), (s.heap.objs.size, oI)] := fun p hp => by
      obtain ⟨h1, h2⟩ := hget p hp
      obtain ⟨p1, p2⟩ := p
      dsimp only at h1 h2
      rcases List.mem_cons.mp h2 with rfl | h2
      · rw [hoI] at h1
        obtain rfl : oI = p2 := Option.some.inj h1
        simp
      · obtain rfl := List.mem_singleton.mp h2
        rw [hst.2] at h1
        obtain rfl : o = p2 := Option.some.inj h1
        simp
    refine wpAny_mono (turn i v m₁ news₁ h tk s.heap.objs.size oI hi hP (Nat.ne_of_lt hlt) (off1_of (by simp) hoff) (off1_of (by simp) hoff) hJ F₁ ?_) (fun _ s₂ h₂ => ?_) fun _ _ e => e
    · intro p hp
      rcases List.mem_cons.mp hp with rfl | hp
      · exact N₁ _ (List.mem_append_right _ hlo)
      · rcases List.mem_cons.mp hp with rfl | hp
        · exact N₁ _ (List.mem_append_right _ hIo)
        · exact N₁ _ (List.mem_append_left _ hp)
    · exact wpAny_mono h₂ (fun f s₃ h₃ => PostG.sub hsub h₃) fun _ _ e => e
theorem iterG_list {l : Addr} {o : Obj} {vs : List Value} {m₀ : Str → Option Value} {rest : List (Addr × Obj)} (J : Nat → (Str → Option Value) → List (Addr × Obj) → Prop)
    (hh : A.handled = none) (hE : PassesOwn (model prog w) A env E) (isl : ∀ h : Heap, h.get? l = some o → h.IsList l vs.toArray) (hl0 : LCg.Off1 l rest) (F : Fr h₀ env.locals s.heap m₀) (N : News h₀ env.locals s.heap ((l, o) :: rest)) (hj : J 0 m₀ rest)
    (turn : ∀ i v m₁ rest₁ h tk I oI, i < vs.length → vs[i]? = some v → @Ne Nat l I → LCg.Off1 I rest₁ → LCg.Off1 l rest₁ → J i m₁ rest₁ → Fr h₀ env.locals h m₁ → News h₀ env.locals h ((l, o) :: (I, oI) :: rest₁) →
      wpAny (model prog w) A (storeName env x v) (fun _ s' => wpAny (model prog w) A (execs body env) (PostG h₀ env.locals (J (i + 1)) [(l, o), (I, oI)] [I, l] { s with heap := h, toks := tk } Q) E s') E { s with heap := h, toks := tk })
    (done : ∀ m₁ rest₁ h tk, J vs.length m₁ rest₁ → Fr h₀ env.locals h m₁ → News h₀ env.locals h rest₁ → Q .next { s with heap := h, toks := tk }) :
    wpAny (model prog w) A (pyIter (.ref l)) (fun it s₂ => codeAny (model prog w) A (.forLoop (.Name x px) it body [] env) (fun r s' => match r with | .ok f => Q f s' | .error e => cameBackBy (model prog w) A env E e s') s₂) E s := by
  have hlt : l < s.heap.objs.size := Heap.lt_size (N _ (.head _)).1
  exact iterG_seq (fun h I l i => h.IsListIter I l i) (fun h l vs => h.IsList l vs) J (Walks.list hh _ l (Nat.ne_of_lt hlt) vs.toArray) (fun h i st => by obtain ⟨oI, e, _⟩ := st; exact ⟨oI, e⟩)
    (fun Q hQ => wpAny_pyIter_list (isl _ (N _ (.head _)).1) (hQ _ rfl fun h e => ⟨_, e, rfl, rfl⟩)) hE isl hl0 F N hj turn done
theorem iterG_tuple {l : Addr} {o : Obj} {vs : List Value} {m₀ : Str → Option Value} {rest : List (Addr × Obj)} (J : Nat → (Str → Option Value) → List (Addr × Obj) → Prop)
    (hh : A.handled = none) (hE : PassesOwn (model prog w) A env E) (isl : ∀ h : Heap, h.get? l = some o → h.IsTuple l vs.toArray) (hl0 : LCg.Off1 l rest) (F : Fr h₀ env.locals s.heap m₀) (N : News h₀ env.locals s.heap ((l, o) :: rest)) (hj : J 0 m₀ rest)
    (turn : ∀ i v m₁ rest₁ h tk I oI, i < vs.length → vs[i]? = some v → @Ne Nat l I → LCg.Off1 I rest₁ → LCg.Off1 l rest₁ → J i m₁ rest₁ → Fr h₀ env.locals h m₁ → News h₀ env.locals h ((l, o) :: (I, oI) :: rest₁) →
      wpAny (model prog w) A (storeName env x v) (fun _ s' => wpAny (model prog w) A (execs body env) (PostG h₀ env.locals (J (i + 1)) [(l, o), (I, oI)] [I, l] { s with heap := h, toks := tk } Q) E s') E { s with heap := h, toks := tk })
    (done : ∀ m₁ rest₁ h tk, J vs.length m₁ rest₁ → Fr h₀ env.locals h m₁ → News h₀ env.locals h rest₁ → Q .next { s with heap := h, toks := tk }) :
    wpAny (model prog w) A (pyIter (.ref l)) (fun it s₂ => codeAny (model prog w) A (.forLoop (.Name x px) it body [] env) (fun r s' => match r with | .ok f => Q f s' | .error e => cameBackBy (model prog w) A env E e s') s₂) E s := by
  have hlt : l < s.heap.objs.size := Heap.lt_size (N _ (.head _)).1
  exact iterG_seq (fun h I l i => h.IsTupleIter I l i) (fun h l vs => h.IsTuple l vs) J (Walks.tuple hh _ l (Nat.ne_of_lt hlt) vs.toArray) (fun h i st => by obtain ⟨oI, e, _⟩ := st; exact ⟨oI, e⟩)
    (fun Q hQ => wpAny_pyIter_tuple (isl _ (N _ (.head _)).1) (hQ _ rfl fun h e => ⟨_, e, rfl, rfl⟩)) hE isl hl0 F N hj turn done
theorem iterG_range {r : Addr} {a₀ b₀ : Int} {t₀ u₀ v₀ : Tok} {n : Nat} {m₀ : Str → Option Value} {news : List (Addr × Obj)} (J : Nat → (Str → Option Value) → List (Addr × Obj) → Prop)
    (hh : A.handled = none) (hE : PassesOwn (model prog w) A env E) (hr : IsRange s.heap r a₀ b₀ 1 t₀ u₀ v₀) (hsmall : Builtin.Range.small a₀ b₀ 1 = true) (hn : Builtin.Range.rangeSize a₀ b₀ 1 = (n : Int)) (F : Fr h₀ env.locals s.heap m₀) (N : News h₀ env.locals s.heap news) (hj : J 0 m₀ news)
    (turn : ∀ i t m₁ news₁ h tk I oI, i < n → LCg.Off1 I news₁ → J i m₁ news₁ → Fr h₀ env.locals h m₁ → News h₀ env.locals h ((I, oI) :: news₁) →
      wpAny (model prog w) A (storeName env x (.int (a₀ + (i : Int)) t)) (fun _ s' => wpAny (model prog w) A (execs body env) (PostG h₀ env.locals (J (i + 1)) [(I, oI)] [I] { s with heap := h, toks := tk } Q) E s') E { s with heap := h, toks := tk })
    (done : ∀ m₁ news₁ h tk, J n m₁ news₁ → Fr h₀ env.locals h m₁ → News h₀ env.locals h news₁ → Q .next { s with heap := h, toks := tk }) :
    wpAny (model prog w) A (pyIter (.ref r)) (fun it s₂ => codeAny (model prog w) A (.forLoop (.Name x px) it body [] env) (fun r s' => match r with | .ok f => Q f s' | .error e => cameBackBy (model prog w) A env E e s') s₂) E s := by
  refine wpAny_pyIter_range hr hsmall ?_
  have W : Walks prog w A s.heap.objs.size [s.heap.objs.size] [s.heap.objs.size] n (fun i v => i < n ∧ ∃ t, v = .int (a₀ + i * 1) t)
      (fun i h => IsRangeIter h s.heap.objs.size (a₀ + (i : Nat) * 1) ((n : Int) - (i : Nat)) 1) := (Walks.range hh _ a₀ 1 n).bound
  have hrI : LCg.Off1 s.heap.objs.size news := LCg.Off3.one (I := s.heap.objs.size) (C := s.heap.objs.size) (LCg.Off3.of fun p hp => have := Nat.ne_of_lt (Heap.lt_size (N p hp).1); ⟨this, this, this⟩)
  refine loopG J W hE ?_ ?_ (off1' hrI) (by show IsRangeIter _ _ _ _ _; rw [hn]; simpa using Heap.get?_push_size _ rfl) (F.push _) (fun p hp => ⟨Heap.get?_push_of_some _ (N p hp).1, (N p hp).2⟩) hj ?_ done
  · intro hm
    exact absurd F.ns.lt ((List.mem_singleton.mp hm) ▸ Nat.lt_irrefl _)
  · intro b hb
    rw [List.mem_singleton.mp hb]
    exact next_is_new F
  · rintro i v m₁ news₁ h tk own hi ⟨_, t, rfl⟩ hoff hget hall hst hJ F₁ N₁
    have e : a₀ + (i : Int) * 1 = a₀ + (i : Int) := by omega
    rw [e]
    have hI₀ : h₀.get? s.heap.objs.size = none := next_is_new F
    obtain ⟨oI, hoI⟩ : ∃ oI, h.get? s.heap.objs.size = some oI := by first | exact ⟨_, hst.1⟩ | exact ⟨_, hst⟩ | (obtain ⟨oI, e, _⟩ := hst; exact ⟨oI, e⟩)
    have hIo : (s.heap.objs.size, oI) ∈ own := hall _ (by simp) hI₀ oI hoI
    have hsub : ∀ p ∈ own, p ∈ [(s.heap.objs.size, oI)] := fun p hp => by
      obtain ⟨h1, h2⟩ := hget p hp
      obtain ⟨p1, p2⟩ := p
      dsimp only at h1 h2
      obtain rfl := List.mem_singleton.mp h2
      rw [hoI] at h1
      obtain rfl : oI = p2 := Option.some.inj h1
      simp
    refine wpAny_mono (turn i t m₁ news₁ h tk s.heap.objs.size oI hi (off1_of (by simp) hoff) hJ F₁ ?_) (fun _ s₂ h₂ => ?_) fun _ _ e => e
    · intro p hp
      rcases List.mem_cons.mp hp with rfl | hp
      · exact N₁ _ (List.mem_append_right _ hIo)
      · exact N₁ _ (List.mem_append_left _ hp)
    · exact wpAny_mono h₂ (fun f s₃ h₃ => PostG.sub hsub h₃) fun _ _ e => e
end
end Mine
end

section
open PySem PySem.W PyProof.Rows PySem.Calls PySem.Spec
set_option Elab.async false
namespace Mine
section
variable {prog : Program} {w : World} {A : Around} {E : Value → Shared → Prop} {s : Shared} {env : Env} {h₀ : Heap} {x : Str} {px : Pos} {body : List Stmt} {Q : Flow → Shared → Prop}
theorem iterG_str {l : List Nat} {t : Tok} {m₀ : Str → Option Value} {news : List (Addr × Obj)} (J : Nat → (Str → Option Value) → List (Addr × Obj) → Prop)
    (hh : A.handled = none) (hE : PassesOwn (model prog w) A env E) (hasc : ∀ c ∈ l, c < 128) (F : Fr h₀ env.locals s.heap m₀) (N : News h₀ env.locals s.heap news) (hj : J 0 m₀ news)
    (turn : ∀ i c t m₁ news₁ h tk I oI, i < l.length → l[i]? = some c → LCg.Off1 I news₁ → J i m₁ news₁ → Fr h₀ env.locals h m₁ → News h₀ env.locals h ((I, oI) :: news₁) →
      wpAny (model prog w) A (storeName env x (.str ⟨#[c]⟩ t)) (fun _ s' => wpAny (model prog w) A (execs body env) (PostG h₀ env.locals (J (i + 1)) [(I, oI)] [I] { s with heap := h, toks := tk } Q) E s') E { s with heap := h, toks := tk })
    (done : ∀ m₁ news₁ h tk, J l.length m₁ news₁ → Fr h₀ env.locals h m₁ → News h₀ env.locals h news₁ → Q .next { s with heap := h, toks := tk }) :
    wpAny (model prog w) A (pyIter (.str ⟨l.toArray⟩ t)) (fun it s₂ => codeAny (model prog w) A (.forLoop (.Name x px) it body [] env) (fun r s' => match r with | .ok f => Q f s' | .error e => cameBackBy (model prog w) A env E e s') s₂) E s := by
  have hall : (⟨l.toArray⟩ : Str).cps.all (· < 128) = true := by
    simp only [Array.all_eq_true, decide_eq_true_eq]
    intro i hi
    exact hasc _ (by simp)
  refine wpAny_pyIter_ascii hall ?_
  have W := Walks.strAscii (prog := prog) (w := w) (A := A) hh s.heap.objs.size ⟨l.toArray⟩ t
  have hsz : (⟨l.toArray⟩ : Str).cps.size = l.length := by simp
  rw [hsz] at W
  have hrI : LCg.Off1 s.heap.objs.size news := LCg.Off3.one (I := s.heap.objs.size) (C := s.heap.objs.size) (LCg.Off3.of fun p hp => have := Nat.ne_of_lt (Heap.lt_size (N p hp).1); ⟨this, this, this⟩)
  refine loopG J W hE ?_ ?_ (off1' hrI) ⟨_, Heap.get?_push_size _ rfl, rfl, rfl⟩ (F.push _) (fun p hp => ⟨Heap.get?_push_of_some _ (N p hp).1, (N p hp).2⟩) hj ?_ done
  · intro hm
    exact absurd F.ns.lt ((List.mem_singleton.mp hm) ▸ Nat.lt_irrefl _)
  · intro b hb
    rw [List.mem_singleton.mp hb]
    exact next_is_new F
  · rintro i v m₁ news₁ h tk own hi ⟨c, t', hc, rfl⟩ hoff hget hall hst hJ F₁ N₁
    have hI₀ : h₀.get? s.heap.objs.size = none := next_is_new F
    obtain ⟨oI, hoI⟩ : ∃ oI, h.get? s.heap.objs.size = some oI := by obtain ⟨oI, e, _⟩ := hst; exact ⟨oI, e⟩
    have hIo : (s.heap.objs.size, oI) ∈ own := hall _ (by simp) hI₀ oI hoI
    have hsub : ∀ p ∈ own, p ∈ [(s.heap.objs.size, oI)] := fun p hp => by
      obtain ⟨h1, h2⟩ := hget p hp
      obtain ⟨p1, p2⟩ := p
      dsimp only at h1 h2
      obtain rfl := List.mem_singleton.mp h2
      rw [hoI] at h1
      obtain rfl : oI = p2 := Option.some.inj h1
      simp
    refine wpAny_mono (turn i c t' m₁ news₁ h tk s.heap.objs.size oI hi (by simpa using hc) (off1_of (by simp) hoff) hJ F₁ ?_) (fun _ s₂ h₂ => ?_) fun _ _ e => e
    · intro p hp
      rcases List.mem_cons.mp hp with rfl | hp
      · exact N₁ _ (List.mem_append_right _ hIo)
      · exact N₁ _ (List.mem_append_left _ hp)
    · exact wpAny_mono h₂ (fun f s₃ h₃ => PostG.sub hsub h₃) fun _ _ e => e
end
end Mine
end

section
open PySem PySem.W PyProof.Rows PySem.Calls PySem.Spec
set_option Elab.async false
namespace Mine
local macro_rules | `(tactic| omega) => `(tactic| walk_at "shared 1")
section
variable {prog : Program} {w : World} {A : Around} {s : Shared} {h₀ : Heap} {L : Addr} {m : Str → Option Value} {env : Env} {ct elt : Expr} {x : Str} {scope : Scope} {cl : List (Str × Addr)} {S : List (Addr × Obj) → Prop} {P : Nat → Value → Prop} {Fin : List Value → List (Addr × Obj) → Prop} {news : List (Addr × Obj)} {n : Nat}
theorem compEnd_mono {s₁ s₂ : Shared} {I C D : Addr} {oI oC oD : Obj} {R R' : Value → List (Addr × Obj) → Prop} {y : Value} (hR : ∀ news', R y news' → R' y news') (h : LCg.CompEnd h₀ L m s₁ I oI C oC D oD S R y s₂) : LCg.CompEnd h₀ L m s₁ I oI C oC D oD S R' y s₂ := by
  obtain ⟨h', tk, news', e, F, N, off, hS, r⟩ := h
  exact ⟨h', tk, news', e, F, N, off, hS, hR _ r⟩
theorem restT_ind (Jc : Nat → List Value → Prop) (h0 : Jc 0 [])
    (step : ∀ i ys v I oI C oC D m₂ h tk (E' : Value → Shared → Prop), i < n → Jc i ys → P i v → LCg.NsObj oC m₂ → m₂ x = some v → Fr h₀ L h m → News h₀ L h ((I, oI) :: (C, oC) :: (D, LCg.lst ys) :: news) → LCg.Off3 I C D news → ((@Ne Nat I C) ∧ (@Ne Nat I D) ∧ (@Ne Nat C D)) →
      wpAny (model prog w) A (isTrue ct (compEnvC scope cl C env) (eval ct (compEnvC scope cl C env))) (fun ok s' => if ok = true then
        wpAny (model prog w) A (eval elt (compEnvC scope cl C env)) (LCg.CompEnd h₀ L m { s with heap := h, toks := tk } I oI C oC D (LCg.lst ys) S (fun y news' => news' = news ∧ Jc (i + 1) (ys ++ [y]))) E' s'
        else LCg.CompEnd h₀ L m { s with heap := h, toks := tk } I oI C oC D (LCg.lst ys) S (fun _ news' => news' = news ∧ Jc (i + 1) ys) Value.none s') E' { s with heap := h, toks := tk })
    (fin : ∀ ys, Jc n ys → Fin ys news) : LCt.CompRestT prog w A h₀ L m env ct elt x scope cl s S P Fin n 0 [] news := by
  have go : ∀ k i ys, i + k = n → Jc i ys → LCt.CompRestT prog w A h₀ L m env ct elt x scope cl s S P Fin k i ys news := by
    intro k
    induction k with
    | zero => intro i ys e h; exact LCt.CompRestT.zero (fin ys (by rw [← e]; exact h))
    | succ k ih =>
      intro i ys e h
      refine LCt.CompRestT.succ fun v I oI C oC D m₂ hp tk E' hP hC hx F N off ne => ?_
      refine wpAny_mono (step i ys v I oI C oC D m₂ hp tk E' (by omega) h hP hC hx F N off ne) (fun ok s' p => ?_) fun _ _ e => e
      cases ok with
      | true => exact wpAny_mono p (fun y s₂ q => compEnd_mono (R := fun y news' => news' = news ∧ Jc (i + 1) (ys ++ [y])) (fun news' r => r.1 ▸ ih (i + 1) _ (by omega) r.2) q) fun _ _ e => e
      | false => exact compEnd_mono (y := Value.none) (R := fun _ news' => news' = news ∧ Jc (i + 1) ys) (R' := fun _ news' => LCt.CompRestT prog w A h₀ L m env ct elt x scope cl s S P Fin k (i + 1) ys news') (fun news' r => r.1 ▸ ih (i + 1) _ (by omega) r.2) (show LCg.CompEnd _ _ _ _ _ _ _ _ _ _ _ _ _ _ from p)
  exact go n 0 [] (by omega) h0
theorem rest_ind (Jc : Nat → List Value → Prop) (h0 : Jc 0 [])
    (step : ∀ i ys v I oI C oC D m₂ h tk (E' : Value → Shared → Prop), i < n → Jc i ys → P i v → LCg.NsObj oC m₂ → m₂ x = some v → Fr h₀ L h m → News h₀ L h ((I, oI) :: (C, oC) :: (D, LCg.lst ys) :: news) → LCg.Off3 I C D news → ((@Ne Nat I C) ∧ (@Ne Nat I D) ∧ (@Ne Nat C D)) →
      wpAny (model prog w) A (eval elt (compEnvC scope cl C env)) (LCg.CompEnd h₀ L m { s with heap := h, toks := tk } I oI C oC D (LCg.lst ys) S (fun y news' => news' = news ∧ Jc (i + 1) (ys ++ [y]))) E' { s with heap := h, toks := tk })
    (fin : ∀ ys, Jc n ys → Fin ys news) : LCg.CompRest prog w A h₀ L m env elt x scope cl s S P Fin n 0 [] news := by
  have go : ∀ k i ys, i + k = n → Jc i ys → LCg.CompRest prog w A h₀ L m env elt x scope cl s S P Fin k i ys news := by
    intro k
    induction k with
    | zero => intro i ys e h; exact fin ys (by rw [← e]; exact h)
    | succ k ih =>
      intro i ys e h
      intro v I oI C oC D m₂ hp tk E' hP hC hx F N off ne
      exact wpAny_mono (step i ys v I oI C oC D m₂ hp tk E' (by omega) h hP hC hx F N off ne) (fun y s₂ q => compEnd_mono (R := fun y news' => news' = news ∧ Jc (i + 1) (ys ++ [y])) (fun news' r => r.1 ▸ ih (i + 1) _ (by omega) r.2) q) fun _ _ e => e
  exact go n 0 [] (by omega) h0
end
end Mine
end

section
open PySem PySem.W PyProof.Rows PySem.Calls PySem.Spec
set_option Elab.async false
namespace Mine
section
variable {prog : Program} {w : World} {A : Around} {s : Shared} {h₀ : Heap} {L : Addr} {m : Str → Option Value} {env : Env} {ct elt : Expr} {x : Str} {scope : Scope} {cl : List (Str × Addr)} {S : List (Addr × Obj) → Prop} {P : Nat → Value → Prop} {Fin : List Value → List (Addr × Obj) → Prop} {news : List (Addr × Obj)} {n : Nat}
theorem compEnd_ind {s₁ : Shared} {h' : Heap} {tk : Nat} {I C D : Addr} {oI oC oD : Obj} {R : Value → Prop} {y : Value} (F : Fr h₀ L h' m) (N : News h₀ L h' ((I, oI) :: (C, oC) :: (D, oD) :: news)) (off : LCg.Off3 I C D news) (hS : S news) (hJ : R y) :
    LCg.CompEnd h₀ L m s₁ I oI C oC D oD S (fun y news' => news' = news ∧ R y) y { s₁ with heap := h', toks := tk } := ⟨h', tk, news, rfl, F, N, off, hS, rfl, hJ⟩
theorem srcAt_of {a : Addr} {its : Array Value} {k : Nat} {h : Heap} (_N : News h₀ L h news) (hm : (a, listOf its k) ∈ news) : LCg.SrcAt h₀ a its news := .inr ⟨_, hm, rfl, _, rfl⟩
end
end Mine
end

local macro_rules | `(tactic| walk_at "shared 6") => `(tactic| (with_reducible refine st8 ?_))

local macro_rules | `(tactic| walk_at "shared 7") => `(tactic| (k_dflt (refine LCt.Assign_ListComp_T (F₀ := by k_asm) (by rfl) (by with_unfolding_all rfl) (by with_unfolding_all rfl) (by decide) (by rfl) (by decide) (by rfl) (by rfl) (by rfl) ?_)))

section
open PySem PySem.W PyProof.Rows PySem.Calls PySem.Spec PyProof.V
set_option Elab.async false
namespace Mine
local macro_rules | `(tactic| omega) => `(tactic| walk_at "shared 1")
def FlAre : List Value → List UInt64 → Prop
  | [], [] => True
  | z :: zs, f :: fs => (∃ t, z = .float f t) ∧ FlAre zs fs
  | _, _ => False
theorem FlAre.snoc {z : Value} {f : UInt64} {t : Tok} (hz : z = .float f t) : ∀ {zs : List Value} {fs : List UInt64}, FlAre zs fs → FlAre (zs ++ [z]) (fs ++ [f])
  | [], [], _ => ⟨⟨t, hz⟩, trivial⟩
  | _ :: _, _ :: _, h => ⟨h.1, FlAre.snoc hz h.2⟩
  | [], _ :: _, h => h.elim
  | _ :: _, [], h => h.elim
theorem FlAre.two {zs : List Value} {f f' : UInt64} (h : FlAre zs [f, f']) : ∃ t t', zs = [.float f t, .float f' t'] := by
  cases zs with
  | nil => exact h.elim
  | cons z zs =>
    obtain ⟨⟨t, rfl⟩, h⟩ := h
    cases zs with
    | nil => exact h.elim
    | cons z' zs =>
      obtain ⟨⟨t', rfl⟩, h⟩ := h
      cases zs with
      | nil => exact ⟨t, t', rfl⟩
      | cons _ _ => exact h.elim
local macro_rules | `(tactic| walk_at "my stop") => `(tactic| walk_at "shared 6")
local macro_rules | `(tactic| walk_at "my stop") => `(tactic| first | (with_reducible refine st9 ?_))
local macro_rules | `(tactic| walk_at "my stop") => `(tactic| first | (with_reducible refine st10 ?_))
local macro_rules | `(tactic| walk_at "my stop") => `(tactic| first | (with_reducible refine st11 ?_))
local macro_rules | `(tactic| walk_at "my walk") => `(tactic| walk_at "shared 2")

local macro_rules | `(tactic| walk_at "CompSrcT") => `(tactic| (k_here; k_dflt (first
  | (refine LCt.CompSrcT.range (n := 4) (by rfl) (by k_asm) (by k_asm) (by assumption) (by decide) (by rfl) (by exact Nat.le_of_ble_eq_true rfl) ?_; intro g')
  | (refine LCt.CompSrcT.ledger (by rfl) (by k_asm) (by k_asm) (by k_mem) (by exact Nat.le_of_ble_eq_true rfl) ?_; intro g'; (show LCt.CompRestT _ _ _ _ _ _ _ _ _ _ _ _ _ _ _ _ 3 _ _ _)))))
local macro_rules | `(tactic| walk_at "exec Assign cons ListComp") => `(tactic| walk_at "shared 7")
local macro_rules | `(tactic| walk_at "eval Name") => `(tactic| walk_at "shared 3")

local macro_rules | `(tactic| walk_at "subscriptTail") => `(tactic| (k_dflt (refine item_tupleT ⟨_, by assumption, rfl, _, rfl⟩ (by decide) (by decide) (by rfl) (by rfl) ?_)))
theorem filter_snoc {α : Type} {l : List α} {i : Nat} {p : α → Bool} {x : α} (h : l[i]? = some x) : (l.take (i + 1)).filter p = (l.take i).filter p ++ if p x then [x] else [] := by
  rw [List.take_add_one, h, List.filter_append]
  cases hp : p x <;> simp [hp]
local macro_rules | `(tactic| walk_at "my walk2") => `(tactic| repeat' (first | (k_unfold; (try dsimp only)) | walk1 | (dsimp only; walk1) | fail "no step"))
def ks4 (c : Int) (i : Nat) : List Int := (([0, 1, 2, 3] : List Int).take i).filter fun k => k != c

def bLess (ns : List Int) (c k : Int) : Int := if ns.getD k.toNat 0 < ns.getD c.toNat 0 then 1 else 0
def fSum (ns : List Int) (c : Int) : Nat → Int
  | 0 => 0
  | i + 1 => fSum ns c i + (((ks4 c 4).filter fun k => k != (ks4 c 4).getD i 0).map (bLess ns c)).sum
theorem two_of {c i : Nat} (hc : c < 4) (hi : i < 3) : ∃ ky kz, (ks4 c 4).filter (fun k => k != (ks4 c 4).getD i 0) = [ky, kz] ∧ 0 ≤ ky ∧ ky < 4 ∧ 0 ≤ kz ∧ kz < 4 ∧ ky ≠ c ∧ kz ≠ c ∧ ky ≠ kz := by
  obtain rfl | rfl | rfl | rfl : c = 0 ∨ c = 1 ∨ c = 2 ∨ c = 3 := by omega
  all_goals obtain rfl | rfl | rfl : i = 0 ∨ i = 1 ∨ i = 2 := by omega
  all_goals exact ⟨_, _, rfl, by decide, by decide, by decide, by decide, by decide, by decide, by decide⟩
theorem zid (P Q R : Prop) [Decidable P] [Decidable Q] [Decidable R] :
    ((if P then (1 : Int) else 0) + if Q then 1 else 0) + ((if R then (1 : Int) else 0) + if Q then 1 else 0) + ((if R then (1 : Int) else 0) + if P then 1 else 0) =
      2 * (((if Q then 1 else 0 : Nat) : Int) + ((if P then 1 else 0 : Nat) : Int) + ((if R then 1 else 0 : Nat) : Int)) := by
  by_cases hP : P <;> by_cases hQ : Q <;> by_cases hR : R <;> simp only [hP, hQ, hR, if_true, if_false] <;> rfl
theorem fSum_total {ns : List Int} {c : Nat} (hn : ns.length = 4) (hc : c < 4) : fSum ns c 3 = 2 * (cntLt ns (ns.getD (c : Int).toNat 0) : Nat) := by
  match ns, hn with
  | [a, b, d, e], _ =>
    obtain rfl | rfl | rfl | rfl : c = 0 ∨ c = 1 ∨ c = 2 ∨ c = 3 := by omega
    all_goals
      simp only [fSum, ks4, bLess, cntLt, List.countP_cons, List.countP_nil]
      simp
      exact zid _ _ _
theorem ks4_of {c : Nat} (hc : c < 4) : ∃ e0 e1 e2, ks4 c 4 = [e0, e1, e2] ∧ 0 ≤ e0 ∧ e0 < 4 ∧ 0 ≤ e1 ∧ e1 < 4 ∧ 0 ≤ e2 ∧ e2 < 4 := by
  obtain rfl | rfl | rfl | rfl : c = 0 ∨ c = 1 ∨ c = 2 ∨ c = 3 := by omega
  all_goals exact ⟨_, _, _, rfl, by decide, by decide, by decide, by decide, by decide, by decide⟩
theorem IntsAre.three {ys : List Value} {e0 e1 e2 : Int} (h : IntsAre ys [e0, e1, e2]) : ∃ t0 t1 t2, ys = [Value.int e0 t0, Value.int e1 t1, Value.int e2 t2] := by
  cases h with
  | cons _ t0 h =>
    cases h with
    | cons _ t1 h =>
      cases h with
      | cons _ t2 h =>
        cases h
        exact ⟨_, _, _, rfl⟩
set_option maxRecDepth 100000 in
theorem q16_fin : ∀ d : Nat, d < 13 → Float64.isInf (q16 ((d : Int) + 2)) = false := by decide +kernel
theorem q16_fin' {d : Int} (h : 2 ≤ d ∧ d ≤ 14) : Float64.isInf (q16 d) = false := by
  have := q16_fin (d - 2).toNat (by omega)
  rwa [show (((d - 2).toNat : Nat) : Int) + 2 = d by omega] at this

section
variable {prog : Program} {w : World} {A : Around} {E : Value → Shared → Prop} {s : Shared} {u : Tok} {Q : Value → Shared → Prop}
theorem item_six {value slice : PySem.Expr} {D : Addr} {t0 t1 t2 t3 t4 t5 : Tok} {k : Int} (ht : IsTup s.heap D #[.int 2 t0, .int 1 t1, .int 0 t2, .int 0 t3, .int 1 t4, .int 2 t5]) (h0 : 0 ≤ k) (h5 : k ≤ 5)
    (h : ∀ t', Q (.int (tbl6 k) t') s)
    (hs : subscripted slice false (.ref D) (.int k u) = operate [.ref D, .int k u] (getItem (.ref D) (.int k u)) := by with_unfolding_all rfl) :
    wpAny (model prog w) A (subscriptTail value slice (.ref D) (.int k u)) Q E s := by
  obtain rfl | rfl | rfl | rfl | rfl | rfl : k = 0 ∨ k = 1 ∨ k = 2 ∨ k = 3 ∨ k = 4 ∨ k = 5 := by omega
  · exact item_tupleT (l := [.int 2 t0, .int 1 t1, .int 0 t2, .int 0 t3, .int 1 t4, .int 2 t5]) ht (by decide) (by decide) (j := 0) (by rfl) (by rfl) (h t0) hs
  · exact item_tupleT (l := [.int 2 t0, .int 1 t1, .int 0 t2, .int 0 t3, .int 1 t4, .int 2 t5]) ht (by decide) (by decide) (j := 1) (by rfl) (by rfl) (h t1) hs
  · exact item_tupleT (l := [.int 2 t0, .int 1 t1, .int 0 t2, .int 0 t3, .int 1 t4, .int 2 t5]) ht (by decide) (by decide) (j := 2) (by rfl) (by rfl) (h t2) hs
  · exact item_tupleT (l := [.int 2 t0, .int 1 t1, .int 0 t2, .int 0 t3, .int 1 t4, .int 2 t5]) ht (by decide) (by decide) (j := 3) (by rfl) (by rfl) (h t3) hs
  · exact item_tupleT (l := [.int 2 t0, .int 1 t1, .int 0 t2, .int 0 t3, .int 1 t4, .int 2 t5]) ht (by decide) (by decide) (j := 4) (by rfl) (by rfl) (h t4) hs
  · exact item_tupleT (l := [.int 2 t0, .int 1 t1, .int 0 t2, .int 0 t3, .int 1 t4, .int 2 t5]) ht (by decide) (by decide) (j := 5) (by rfl) (by rfl) (h t5) hs
end
local macro_rules | `(tactic| walk_at "subscriptTail") => `(tactic| (k_dflt (refine item_six (News.isTup (by k_asm) (.head _)) (by with_reducible assumption) (by with_reducible assumption) ?_); intro t'))
set_option maxRecDepth 100000 in
set_option maxHeartbeats 8000000 in
theorem fewer_spec {p : Program} {loose : List Str} {mean : ExcName → Option Value} {mg mb : Str → Option Value} {w : World} {A : Around} {s : Shared} {a : Addr} {ns : List Int} {c : Nat} {vs : List Value} {ta : Tok} {Q E : Value → Shared → Prop}
    (X : (hd.heap_1 w.params).In s.heap) (T : Top p loose mean mg mb s.heap) 
    (hl : s.heap.IsList a vs.toArray) (hi : IntsAre vs ns) (hn4 : ns.length = 4) (hc : c < 4) (hnd : ∀ i j : Int, 0 ≤ i → i < 4 → 0 ≤ j → j < 4 → i ≠ j → ns.getD i.toNat 0 ≠ ns.getD j.toNat 0) (hbd : ∀ k : Int, 0 ≤ k → k < 4 → 2 ≤ ns.getD k.toNat 0 ∧ ns.getD k.toNat 0 ≤ 14)
    (hh : A.handled = none) (hroom : A.depth + 8 < recursionLimit) (hu : A.units + 60 < cLine)
    (hQ : ∀ h' tk t, (∀ b o, s.heap.get? b = some o → h'.get? b = some o) → Q (.int (2 * (cntLt ns (ns.getD (c : Int).toNat 0) : Nat)) t) { s with heap := h', toks := tk }) :
    wpAny (model PR w) A (call (.ref 168) [.ref a, .int c ta]) Q E s := by
  w_top off
  obtain ⟨hdl, dp, fr, gd, un⟩ := A
  obtain rfl : hdl = none := hh
  dsimp only at hroom hu
  refine wpAny_call ?_
  refine' enterC (binds := [("dots", .ref a), ("asked", .int c ta)]) (news := []) (h₀ := s.heap) X T (fun _ _ e => e) (fun _ h => nomatch h) ?k6 ?k7 ?k8 ?k9 ?kB ?kD ?_ ?c2 ?c3 ?c4
  (case k6 => k_is)
  (case k7 => k_is)
  (case k8 => dsimp only; omega)
  (case k9 => exact BindsTo.of_eq rfl)
  (case kB => exact rfl)
  (case kD => decide +kernel)
  (case c2 => exact rfl)
  (case c3 => exact rfl)
  (case c4 => exact rfl)
  intro g L' h₁ tk' cells hg hg' F N Y X' T' l1
  replace hl : g.IsList a vs.toArray := stays_list (fun b o e => hg b o e) hl
  clear hg'
  k_cells Y
  (try simp only [List.cons_append, List.nil_append] at N)
  walk_at "my walk"
  refine restT_ind (fun i ys => IntsAre ys (ks4 c i)) .nil ?_ ?_
  · intro i ys v I oI C oC D m₂ h tk E' hin hys hP hC hx F N off ne
    obtain ⟨t, rfl⟩ := hP
    (try simp only [LCg.Off3, and_true] at off)
    walk_at "my walk"
    all_goals refine (?_ : IntsAre _ (ks4 c (i + 1)))
    all_goals have e4 : ([0, 1, 2, 3] : List Int)[i]? = some (0 + (i : Int)) := by obtain rfl | rfl | rfl | rfl : i = 0 ∨ i = 1 ∨ i = 2 ∨ i = 3 := by omega
                                                                                   all_goals rfl
    all_goals rw [ks4, filter_snoc e4]
    · rw [if_pos (bne_iff_ne.mpr (by assumption))]
      exact IntsAre.append hys (.cons _ _ .nil)
    · rw [if_neg (fun q => bne_iff_ne.mp q (by assumption)), List.append_nil]
      exact hys
  intro ys hys
  obtain ⟨e0, e1, e2, hks, b0, b1, b2, b3, b4, b5⟩ := ks4_of hc
  replace hys : IntsAre ys (ks4 c 4) := hys
  rw [hks] at hys
  obtain ⟨t0, t1, t2, rfl⟩ := IntsAre.three hys
  walk_at "my walk"
  rename Fr _ _ _ _ => F1
  rename News _ _ _ _ => N1
  refine wpAny_For ?_ (by intro _; rfl)
  walk1
  refine iterC_head (J := fun i m nx => ∃ oo vo t, nx = [(L' + 1 + 1 + 1, oo), _, _] ∧ oo.data = Data.cell vo ∧ m "others" = some (Value.ref _) ∧ m "fewer" = some (Value.int (fSum ns c i) t)) rfl PassesOwn.never (fun h e => ⟨_, e, rfl, _, rfl⟩) ?_ F1 N1 ⟨_, _, _, rfl, by assumption, rfl, rfl⟩ ?_ ?_
  · exact List.forall_mem_cons.mpr ⟨by k_ne, List.forall_mem_cons.mpr ⟨by k_ne, List.forall_mem_cons.mpr ⟨by k_ne, List.forall_mem_nil _⟩⟩⟩
  · rintro i v m₁ rest₁ h tk I oI hi' hv hoff ⟨oo, vo, t, rfl, hoo, hm1, hm2⟩ F N
    simp only [LCg.Off1, and_true] at hoff
    clear F1 N1
    obtain ⟨to, hto⟩ := hys.get i ((ks4 c 4).getD i 0) (by rw [hks]; simp only [List.length_cons, List.length_nil] at hi'; simp [List.getD, hi'])
    obtain rfl : v = Value.int ((ks4 c 4).getD i 0) to := Option.some.inj (hv.symm.trans hto)
    obtain ⟨ky, kz, hkk, c0, c1, c2, c3, c4, c5, c6⟩ := two_of (c := c) (i := i) hc hi'
    generalize hov : (ks4 c 4).getD i 0 = ov at hkk hv hto ⊢
    dsimp only [InvPostN]
    walk_at "my walk"
    refine restT_ind (fun j zs => FlAre zs ((((ks4 c 4).take j).filter fun k => k != ov).map fun k => q16 (ns.getD k.toNat 0))) trivial ?_ ?_
    · intro j zs v I oI C oC D m₂ h tk E' hjn hzs hP hC hx F N off ne
      obtain ⟨kj, hkj⟩ : ∃ kj, [e0, e1, e2][j]? = some kj := ⟨_, List.getElem?_eq_getElem hjn⟩
      have hkb : 0 ≤ kj ∧ kj < 4 := by
        have := List.mem_of_getElem? hkj
        simp only [List.mem_cons, List.not_mem_nil, or_false] at this
        rcases this with rfl | rfl | rfl <;> constructor <;> assumption
      obtain ⟨tj, htj⟩ := hys.get j kj hkj
      obtain rfl : v = Value.int kj tj := Option.some.inj (hP.symm.trans (by simpa using htj))
      (try simp only [LCg.Off3, and_true] at off)
      walk_at "my walk"
      · exact absurd (q16_fin' (hbd kj hkb.1 hkb.2)) (by rw [q16]; simp only [Bool.not_eq_false]; assumption)
      · rw [filter_snoc (hks ▸ hkj : (ks4 c 4)[j]? = some kj), if_pos (bne_iff_ne.mpr (by assumption)), List.map_append]
        exact FlAre.snoc rfl hzs
      · rw [filter_snoc (hks ▸ hkj : (ks4 c 4)[j]? = some kj), if_neg (fun q => bne_iff_ne.mp q (by assumption)), List.append_nil]
        exact hzs
    intro zs hzs
    replace hzs : FlAre zs ((((ks4 c 4).take 3).filter fun k => k != ov).map fun k => q16 (ns.getD k.toNat 0)) := hzs
    rw [show (ks4 c 4).take 3 = ks4 c 4 by rw [hks]; rfl, hkk] at hzs
    obtain ⟨t4, t5, rfl⟩ := FlAre.two hzs
    walk_at "my walk"
    · exact absurd (q16_fin' (hbd c (by omega) (by omega))) (by rw [q16]; simp only [Bool.not_eq_false]; assumption)
    obtain ⟨q1, q2, q3, q4, q5, q6, k, q7, q8, q9, q10, q11⟩ := hue_ok (hbd c (by omega) (by omega)) (hbd ky c0 c1) (hbd kz c2 c3) (hnd c ky (by omega) (by omega) c0 c1 (Ne.symm c4)) (hnd c kz (by omega) (by omega) c2 c3 (Ne.symm c5)) (hnd ky kz c0 c1 c2 c3 c6)
    refine hsv_spec (r := q16 (ns.getD (c : Int).toNat 0)) (X'.keeps (Fr.keep (by assumption))) (T'.keeps (Fr.keep (by assumption))) q1 q2 q3 rfl ?_ ?_ ?_
    · dsimp only [Around.deeper]; omega
    · dsimp only [Around.deeper]; omega
    clear q1 q2 q3
    rename Fr _ _ _ _ => F2
    rename News _ _ _ _ => N2
    intro h' tk1 D t1 v2 v3 hk hD hDn
    replace F2 := F2.keeps hk
    replace N2 := News.grown N2 hk
    generalize hueF (q16 (ns.getD (c : Int).toNat 0)) (q16 (ns.getD ky.toNat 0)) (q16 (ns.getD kz.toNat 0)) = hue at hD q4 q5 q7
    walk_at "my walk"
    rename Fr _ _ _ _ => F3
    rw [q7] at F3
    clear q7 q4 q5
    rename Float64.isFinite _ = true => q12
    clear q12
    have hf1 : fSum ns c (i + 1) = fSum ns c i + tbl6 k := by
      rw [fSum, hov, hkk, q11]
      simp only [List.map_cons, List.map_nil, List.sum_cons, List.sum_nil, bLess]
      omega
    walk_at "my walk2"
    all_goals first | (rename ((_ != _) = true) => hb; rw [q6, ← q10] at hb; exact absurd hb (by simp)) | skip
    rename Fr _ _ _ _ => F4
    rename News _ _ _ _ => N4
    rename (_ = Data.cell (some (Value.int ov to))) => dd
    refine ⟨_, _, _, _, [_, _, _], rfl, F4, N4, ?_, ?_, ?_, _, _, _, rfl, dd, (if_neg (by decide)).trans ((if_neg (by decide)).trans ((if_neg (by decide)).trans hm1)), (if_pos rfl).trans (by rw [hf1])⟩
    · lcg_sub
    · lcg_sub
    · rfl
  · rintro m₁ rest₁ h tk ⟨oo, vo, t, rfl, hoo, hm1, hm2⟩ F N
    clear F1 N1
    replace hm2 : m₁ "fewer" = some (Value.int (fSum ns c 3) t) := hm2
    rw [fSum_total hn4 hc] at hm2
    dsimp only
    walk_at "my walk2"
    dsimp only
    rename Fr _ _ _ _ => F4
    exact hQ _ _ _ fun b o e => F4.keep b o (hg b o e)
end Mine
end

local macro_rules | `(tactic| walk_at "shared 8") => `(tactic| first | (with_reducible refine st11 ?_) | (with_reducible refine st4 ?_))

local macro_rules | `(tactic| walk_at "shared 9") => `(tactic| (k_here; k_dflt (refine LCt.CompSrcT.ledger (by rfl) (by k_asm) (by k_asm) (by k_mem) (by assumption) ?_; intro g')))

local macro_rules | `(tactic| walk_at "shared 10") => `(tactic| (refine compEnd_ind (by with_reducible assumption) (by with_reducible assumption) (by with_reducible assumption) (by with_reducible assumption) ?_))

section
open PySem PySem.W PyProof.Rows PySem.Calls PySem.Spec PyProof.V
set_option Elab.async false
namespace Mine
local macro_rules | `(tactic| walk_at "my spare") => `(tactic| fail "none")
local macro_rules | `(tactic| walk_at "my spare") => `(tactic| fail "none")
local macro_rules | `(tactic| omega) => `(tactic| walk_at "shared 1")
local macro_rules | `(tactic| walk_at "my stop") => `(tactic| walk_at "shared 6")
local macro_rules | `(tactic| walk_at "my stop") => `(tactic| walk_at "shared 8")
local macro_rules | `(tactic| walk_at "my walk") => `(tactic| walk_at "shared 2")

local macro_rules | `(tactic| walk_at "eval Name") => `(tactic| walk_at "shared 3")
local macro_rules | `(tactic| walk_at "CompSrcT") => `(tactic| walk_at "shared 9")
local macro_rules | `(tactic| walk_at "exec Assign cons ListComp") => `(tactic| walk_at "shared 7")
local macro_rules | `(tactic| walk_at "CompEnd") => `(tactic| walk_at "shared 10")
def OrdJ (L' : Addr) (i : Nat) (m : Str → Option Value) (nx : List (Addr × Obj)) : Prop :=
  ∃ (La Oa : Addr) (oc : Obj) (vo : Option Value) (lv ov : List Value) (ln on : Nat) (left order : List Int) (cc : Int) (tc : Tok), nx = [(Oa, listOf ov.toArray on), (La, listOf lv.toArray ln), (L' + 1, oc)] ∧ (@Ne Nat Oa La ∧ @Ne Nat Oa (L' + 1) ∧ @Ne Nat La (L' + 1)) ∧
    oc.data = Data.cell vo ∧ m "order" = some (.ref Oa) ∧ m "left" = some (.ref La) ∧ m "code" = some (.int cc tc) ∧ 0 ≤ cc ∧ IntsAre lv left ∧ IntsAre ov order ∧ left.length = 4 - i ∧ List.Perm (order ++ left) [0, 1, 2, 3]
theorem OrdJ.mk {L' : Addr} {i : Nat} {m : Str → Option Value} {La Oa : Addr} {oc : Obj} {vo : Option Value} {lv ov : List Value} {ln on : Nat} {left order : List Int} {cc : Int} {tc : Tok} (hne : @Ne Nat Oa La ∧ @Ne Nat Oa (L' + 1) ∧ @Ne Nat La (L' + 1))
    (a : oc.data = Data.cell vo) (b : m "order" = some (.ref Oa)) (c : m "left" = some (.ref La)) (d : m "code" = some (.int cc tc)) (e : 0 ≤ cc) (f : IntsAre lv left) (g : IntsAre ov order) (h : left.length = 4 - i) (k : List.Perm (order ++ left) [0, 1, 2, 3]) :
    OrdJ L' i m [(Oa, listOf ov.toArray on), (La, listOf lv.toArray ln), (L' + 1, oc)] := ⟨_, _, _, _, _, _, _, _, _, _, _, _, rfl, hne, a, b, c, d, e, f, g, h, k⟩
theorem ord_end {g h h' : Heap} {s : Shared} {L L' D : Addr} {T I' X' : Addr × Obj} {own : List (Addr × Obj)} {fp : List Addr} {tk tk' : Nat} {m : Str → Option Value} {i : Nat} {Oa : Addr} {oc : Obj} {vo : Option Value} {ys ov : List Value} {nD no : Nat} {left order : List Int} {cc x : Int} {tc tt : Tok}
    (F : Fr g L h' m) (N : News g L h' [(D, listOf ys.toArray nD), T, I', (Oa, listOf (ov ++ [Value.int x tt]).toArray no), X', (L' + 1, oc)]) (hown : ∀ p ∈ own, p ∈ [(D, listOf ys.toArray nD), T, I', (Oa, listOf (ov ++ [Value.int x tt]).toArray no), X', (L' + 1, oc)])
    (hne : @Ne Nat Oa D ∧ @Ne Nat Oa (L' + 1) ∧ @Ne Nat D (L' + 1))
    (a : oc.data = Data.cell vo) (b : m "order" = some (.ref Oa)) (c : m "left" = some (.ref D)) (d : m "code" = some (.int cc tc)) (e : 0 ≤ cc) (f : IntsAre ys left) (g' : IntsAre ov order) (hl : left.length = 4 - (i + 1)) (k : List.Perm (order ++ [x] ++ left) [0, 1, 2, 3])
    (hfp : ∀ q ∈ [(Oa, listOf (ov ++ [Value.int x tt]).toArray no), (D, listOf ys.toArray nD), (L' + 1, oc)], q.1 ∉ fp) :
    EndG g L (OrdJ L' (i + 1)) own fp { s with heap := h, toks := tk } { s with heap := h', toks := tk' } :=
  EndG.intro _ F N (by intro p hp; simp only [List.mem_cons, List.not_mem_nil, or_false] at hp ⊢; rcases hp with rfl | rfl | rfl <;> simp) hown hfp (OrdJ.mk hne a b c d e f (g'.append (.cons _ _ .nil)) hl k)
theorem none_of_keeps {h h' : Heap} {a : Addr} (hk : ∀ b o, h.get? b = some o → h'.get? b = some o) (e : h'.get? a = none) : h.get? a = none := by
  cases q : h.get? a with
  | none => rfl
  | some o => rw [hk a o q] at e; cases e
theorem getD_mem {l : List Int} {i : Nat} (h : i < l.length) : l.getD i 0 ∈ l := by
  rw [show l.getD i 0 = l[i] by simp [List.getD, h]]; exact List.getElem_mem h
theorem filter_ne_perm {x : Int} : ∀ {l : List Int}, l.Nodup → x ∈ l → List.Perm (x :: l.filter (· != x)) l
  | y :: r, hn, hx => by
    have hn' := List.nodup_cons.mp hn
    by_cases e : y = x
    · subst e
      have : r.filter (· != y) = r := List.filter_eq_self.mpr fun a ha => by simp; rintro rfl; exact hn'.1 ha
      simp [this]
    · have hx' : x ∈ r := by rcases List.mem_cons.mp hx with h | h; exact absurd h.symm e; exact h
      have ih := filter_ne_perm hn'.2 hx'
      have : (y :: r).filter (· != x) = y :: r.filter (· != x) := by simp [e]
      rw [this]
      exact (List.Perm.swap y x _).trans (ih.cons y)
theorem filter_perm {order left : List Int} {x : Int} (hp : List.Perm (order ++ left) [0, 1, 2, 3]) (hx : x ∈ left) : List.Perm ((order ++ [x]) ++ left.filter (fun a => a != x)) [0, 1, 2, 3] := by
  have hn : (order ++ left).Nodup := hp.nodup_iff.mpr (by decide)
  have := filter_ne_perm (List.nodup_append.mp hn).2.1 hx
  rw [List.append_assoc]
  exact (List.Perm.append_left order this).trans hp
theorem filter_len {order left : List Int} {x : Int} {i : Nat} (hp : List.Perm (order ++ left) [0, 1, 2, 3]) (hx : x ∈ left) (hl : left.length = 4 - i) (hi : i < 4) : (left.filter (fun a => a != x)).length = 4 - (i + 1) := by
  have h1 := (filter_perm hp hx).length_eq
  have h2 := hp.length_eq
  simp only [List.length_append, List.length_cons, List.length_nil] at h1 h2
  omega
set_option maxRecDepth 100000 in
set_option maxHeartbeats 8000000 in
theorem order_spec {p : Program} {loose : List Str} {mean : ExcName → Option Value} {mg mb : Str → Option Value} {w : World} {A : Around} {s : Shared} {c : Int} {tc : Tok} {Q E : Value → Shared → Prop}
    (X : (hd.heap_1 w.params).In s.heap) (T : Top p loose mean mg mb s.heap) 
    (hc : 0 ≤ c ∧ c < 24)
    (hh : A.handled = none) (hroom : A.depth + 8 < recursionLimit) (hu : A.units + 60 < cLine)
    (hQ : ∀ h' tk D ov n order, (∀ b o, s.heap.get? b = some o → h'.get? b = some o) → h'.get? D = some (listOf (List.toArray ov) n) → IntsAre ov order → List.Perm order [0, 1, 2, 3] → s.heap.get? D = none → Q (.ref D) { s with heap := h', toks := tk }) :
    wpAny (model PR w) A (call (.ref 151) [.int c tc]) Q E s := by
  w_top off
  obtain ⟨hdl, dp, fr, gd, un⟩ := A
  obtain rfl : hdl = none := hh
  dsimp only at hroom hu
  refine wpAny_call ?_
  refine' enterC (binds := [("code", .int c tc)]) (news := []) (h₀ := s.heap) X T (fun _ _ e => e) (fun _ h => nomatch h) ?k6 ?k7 ?k8 ?k9 ?kB ?kD ?_ ?c2 ?c3 ?c4
  (case k6 => k_is)
  (case k7 => k_is)
  (case k8 => dsimp only; omega)
  (case k9 => exact BindsTo.of_eq rfl)
  (case kB => exact rfl)
  (case kD => decide +kernel)
  (case c2 => exact rfl)
  (case c3 => exact rfl)
  (case c4 => exact rfl)
  intro g L' h₁ tk' cells hg hg' F N Y X' T' l1
  k_cells Y
  (try simp only [List.cons_append, List.nil_append] at N)
  walk_at "my walk"
  rename Fr _ _ _ _ => F1
  rename News _ _ _ _ => N1

  refine wpAny_For ?_ (by intro _; rfl)
  walk_at "my walk"
  rename Fr _ _ _ _ => F2
  rename News _ _ _ _ => N2
  have e4 : ∀ t0 t1 t2 t3, IntsAre [.int 4 t0, .int 3 t1, .int 2 t2, .int 1 t3] [4, 3, 2, 1] := fun t0 t1 t2 t3 => .cons 4 _ (.cons 3 _ (.cons 2 _ (.cons 1 _ .nil)))
  refine iterG_tuple (J := OrdJ L') rfl PassesOwn.never (fun h e => ⟨_, e, rfl, _, rfl⟩) ?_ F2 N2 (OrdJ.mk (lv := [_, _, _, _]) (ov := []) ?_ (by assumption) rfl rfl rfl hc.1 (.cons 0 _ (.cons 1 _ (.cons 2 _ (.cons 3 _ .nil)))) .nil rfl (List.Perm.refl _)) ?_ ?_
  · exact ⟨by k_ne, by k_ne, by k_ne, trivial⟩
  · exact ⟨by k_ne, by k_ne, by k_ne⟩
  · rintro i v m₁ rest₁ h tk I oI hi hv hlI hoff1 hoff2 ⟨La, Oa, oc, vo, lv, ov, ln, on, left, order, cc, tc, rfl, hne, hoc, hm1, hm2, hm3, hc0, hlv, hov, hlen, hperm⟩ F N
    obtain ⟨hne1, hne2, hne3⟩ := hne
    simp only [LCg.Off1, and_true] at hoff1 hoff2
    clear F2 N2
    have h43 : ([4, 3, 2, 1] : List Int)[i]? = some (4 - (i : Int)) := by
      obtain rfl | rfl | rfl | rfl : i = 0 ∨ i = 1 ∨ i = 2 ∨ i = 3 := by simp only [List.length_cons, List.length_nil] at hi; omega
      all_goals rfl
    obtain ⟨tb, htb⟩ := (e4 _ _ _ _).get i (4 - i) h43
    obtain rfl : v = Value.int (4 - i) tb := Option.some.inj (hv.symm.trans htb)
    have hi4 : i < 4 := hi
    generalize hbb : (4 : Int) - i = bb at hv htb ⊢
    have hb1 : 1 ≤ bb := by omega
    have hb2 : bb = left.length := by omega
    have hm0 : 0 ≤ Int.fmod cc bb := Int.fmod_nonneg hc0 (by omega)
    have hm4 : Int.fmod cc bb < left.length := hb2 ▸ Int.fmod_lt_of_pos _ (by omega)
    have hidx : left.getD (Int.fmod cc bb).toNat 0 ∈ left := getD_mem (by omega)
    have hl4 : order.length + left.length = 4 := by have := hperm.length_eq; simpa using this
    have hsz1 : ov.toArray.size ≤ sizeLine := by rw [List.size_toArray, hov.length, sizeLine_eq]; omega
    have hsz2 : lv.toArray.size ≤ sizeLine := by rw [List.size_toArray, hlv.length, sizeLine_eq]; omega
    dsimp only [PostG]
    walk_at "my walk"
    generalize left.getD (Int.fmod cc bb).toNat 0 = nm at *
    rename News _ _ _ _ => N5
    have hS := srcAt_of N5 (List.Mem.tail _ (List.Mem.tail _ (List.Mem.tail _ (List.Mem.head _))))
    refine restT_ind (fun j zs => IntsAre zs ((left.take j).filter fun k => k != nm)) .nil ?_ ?_
    · intro j zs v I' oI' C oC D m₂ h tk E' hjn hzs hP hC hx F N off ne
      have hjn' : j < left.length := by rw [List.size_toArray, hlv.length] at hjn; exact hjn
      obtain ⟨kj, hkj⟩ : ∃ kj, left[j]? = some kj := ⟨_, List.getElem?_eq_getElem hjn'⟩
      obtain ⟨tj, htj⟩ := hlv.get j kj hkj
      obtain rfl : v = Value.int kj tj := Option.some.inj (hP.symm.trans (by simpa using htj))
      walk_at "my walk"
      all_goals refine (?_ : IntsAre _ ((left.take (j + 1)).filter fun k => k != nm))
      all_goals rw [filter_snoc hkj]
      · rw [if_pos (bne_iff_ne.mpr (by assumption))]
        exact hzs.append (.cons _ _ .nil)
      · rw [if_neg (fun q => bne_iff_ne.mp q (by assumption)), List.append_nil]
        exact hzs
    intro zs hzs
    replace hzs : IntsAre zs ((left.take lv.toArray.size).filter fun k => k != nm) := hzs
    rw [List.size_toArray, hlv.length, List.take_length] at hzs
    walk_at "my walk"
    rename Fr _ _ _ _ => F4
    rename News _ _ _ _ => N4
    rename (_ = Data.cell (some (Value.int _ _))) => dd
    rw [List.push_toArray] at N4
    refine ord_end F4 N4 (by lcg_sub) ?_ dd ((if_neg (by decide)).trans ((if_neg (by decide)).trans ((if_neg (by decide)).trans hm1))) ((if_neg (by decide)).trans ((if_pos rfl))) (if_pos rfl) (Int.fdiv_nonneg hc0 (by omega)) hzs hov (filter_len hperm hidx hlen hi4) (filter_perm hperm hidx) ?_
    · exact ⟨by k_ne, by k_ne, by k_ne⟩
    · exact off2 ⟨by k_ne, by k_ne, by k_ne, trivial⟩ ⟨by k_ne, by k_ne, by k_ne, trivial⟩
  · rintro m₁ rest₁ h tk ⟨La, Oa, oc, vo, lv, ov, ln, on, left, order, cc, tc, rfl, hne, hoc, hm1, hm2, hm3, hc0, hlv, hov, hlen, hperm⟩ F N
    obtain rfl : left = [] := List.eq_nil_of_length_eq_zero hlen
    rw [List.append_nil] at hperm
    dsimp only
    walk_at "my walk"
    dsimp only
    exact hQ _ _ _ _ _ _ (fun b o e => F.keep b o (hg b o e)) (N _ (.head _)).1 hov hperm (none_of_keeps hg (N _ (.head _)).2.2)
end Mine
end

local macro_rules | `(tactic| walk_at "shared 11") => `(tactic| (k_dflt (refine LCt.ListComp_T (F₀ := by k_asm) (by rfl) (by decide) (by rfl) (by decide) (by rfl) ?_)))

local macro_rules | `(tactic| walk_at "shared 12") => `(tactic| (k_here; (with_reducible show wpAny _ _ (binaryOp _ (Value.ref _) (Value.ref _)) _ _ _); k_dflt (refine' kmk_add_ints ?F ?N ?a ?b ?i ?j ?_ ?z; (case F => k_asm); (case N => k_asm); (case a => kmk_list); (case b => kmk_list); (case i => assumption); (case j => assumption); (case z => assumption)); intro D' ws' h' F' N' l1 hI'; (try k_lt l1); (try k_sweep)))

section
open PySem PySem.W PyProof.Rows PySem.Calls PySem.Spec PyProof.V
set_option Elab.async false
namespace Mine
local macro_rules | `(tactic| walk_at "my spare") => `(tactic| fail "none")
local macro_rules | `(tactic| walk_at "my spare") => `(tactic| fail "none")
local macro_rules | `(tactic| omega) => `(tactic| walk_at "shared 1")
local macro_rules | `(tactic| walk_at "my stop") => `(tactic| walk_at "shared 6")
local macro_rules | `(tactic| walk_at "my stop") => `(tactic| walk_at "shared 8")
local macro_rules | `(tactic| walk_at "my walk") => `(tactic| walk_at "shared 2")
local macro_rules | `(tactic| walk_at "CompSrcT") => `(tactic| walk_at "shared 9")
local macro_rules | `(tactic| walk_at "eval ListComp") => `(tactic| walk_at "shared 11")
local macro_rules | `(tactic| walk_at "CompEnd") => `(tactic| walk_at "shared 10")
theorem filter_snoc' {α : Type} {l : List α} {i : Nat} {p : α → Bool} {x : α} (h : l[i]? = some x) : (l.take (i + 1)).filter p = (l.take i).filter p ++ if p x then [x] else [] := by
  rw [List.take_add_one, h, List.filter_append]
  cases hp : p x <;> simp [hp]
local macro_rules | `(tactic| walk_at "eval Name") => `(tactic| walk_at "shared 3")
/-- where `n` stands in the list of names -/
def idxI (l : List Int) (n : Int) : Nat := l.idxOf n
/-- one turn: the place of the asked name, the names with it in front -/
def mtf (l : List Int) (n : Int) : List Int := n :: l.filter (· != n)
def placesOf : List Int → List Int → List Int
  | _, [] => []
  | l, n :: r => (idxI l n : Int) :: placesOf (mtf l n) r

theorem placesOf_snoc {x : Int} : ∀ {ns l : List Int}, placesOf l (ns ++ [x]) = placesOf l ns ++ [(idxI (ns.foldl mtf l) x : Int)]
  | [], _ => rfl
  | n :: r, l => by simp only [List.cons_append, placesOf, List.foldl_cons, placesOf_snoc (ns := r)]
theorem filter_ne_perm' {x : Int} : ∀ {l : List Int}, l.Nodup → x ∈ l → List.Perm (x :: l.filter (· != x)) l
  | y :: r, hn, hx => by
    have hn' := List.nodup_cons.mp hn
    by_cases e : y = x
    · subst e
      have : r.filter (· != y) = r := List.filter_eq_self.mpr fun a ha => by simp; rintro rfl; exact hn'.1 ha
      simp [this]
    · have hx' : x ∈ r := by rcases List.mem_cons.mp hx with h | h; exact absurd h.symm e; exact h
      have ih := filter_ne_perm' hn'.2 hx'
      have : (y :: r).filter (· != x) = y :: r.filter (· != x) := by simp [e]
      rw [this]
      exact (List.Perm.swap y x _).trans (ih.cons y)
theorem mtf_perm {l : List Int} {x : Int} (h : List.Perm l [0, 1, 2, 3]) (hx : x ∈ ([0, 1, 2, 3] : List Int)) : List.Perm (mtf l x) [0, 1, 2, 3] :=
  (filter_ne_perm' (h.nodup_iff.mpr (by decide)) (h.mem_iff.mpr hx)).trans h
theorem foldl_mtf_perm : ∀ {ns l : List Int}, List.Perm l [0, 1, 2, 3] → (∀ n ∈ ns, n ∈ ([0, 1, 2, 3] : List Int)) → List.Perm (ns.foldl mtf l) [0, 1, 2, 3]
  | [], _, h, _ => h
  | n :: r, l, h, hn => foldl_mtf_perm (ns := r) (l := mtf l n) (mtf_perm h (hn n (.head _))) fun k hk => hn k (.tail _ hk)
theorem placesOf_length : ∀ {ns l : List Int}, (placesOf l ns).length = ns.length
  | [], _ => rfl
  | n :: r, l => by simp only [placesOf, List.length_cons, placesOf_length (ns := r)]
local macro_rules | `(tactic| walk_at "call builtin:list.index") => `(tactic| ((with_reducible show wpAny _ _ (call (Value.builtin _) [Value.ref _, Value.int _ _]) _ _ _); refine index_list_ints (News.isList (by k_asm) (by k_mem)) (by assumption) (by assumption) (by assumption) ?_))
def PlaJ (L' : Addr) (l₀ ns : List Int) (i : Nat) (m : Str → Option Value) (nx : List (Addr × Obj)) : Prop :=
  ∃ (Oa Pa : Addr) (oc : Obj) (vo : Option Value) (lv pv : List Value) (ln pn : Nat), nx = [(Pa, listOf pv.toArray pn), (Oa, listOf lv.toArray ln), (L' + 1, oc)] ∧ (@Ne Nat Oa Pa ∧ @Ne Nat Oa (L' + 1) ∧ @Ne Nat Pa (L' + 1)) ∧
    oc.data = Data.cell vo ∧ m "order" = some (.ref Oa) ∧ m "places" = some (.ref Pa) ∧ IntsAre lv ((ns.take i).foldl mtf l₀) ∧ IntsAre pv (placesOf l₀ (ns.take i))
theorem PlaJ.mk {L' : Addr} {l₀ ns : List Int} {i : Nat} {m : Str → Option Value} {Oa Pa : Addr} {oc : Obj} {vo : Option Value} {lv pv : List Value} {ln pn : Nat} (hne : @Ne Nat Oa Pa ∧ @Ne Nat Oa (L' + 1) ∧ @Ne Nat Pa (L' + 1))
    (a : oc.data = Data.cell vo) (b : m "order" = some (.ref Oa)) (c : m "places" = some (.ref Pa)) (f : IntsAre lv ((ns.take i).foldl mtf l₀)) (g : IntsAre pv (placesOf l₀ (ns.take i))) :
    PlaJ L' l₀ ns i m [(Pa, listOf pv.toArray pn), (Oa, listOf lv.toArray ln), (L' + 1, oc)] := ⟨_, _, _, _, _, _, _, _, rfl, hne, a, b, c, f, g⟩
theorem pla_end {g h h' : Heap} {s : Shared} {L L' D Pa : Addr} {T I' X' X2 X3 : Addr × Obj} {own : List (Addr × Obj)} {fp : List Addr} {tk tk' : Nat} {m : Str → Option Value} {i : Nat} {oc : Obj} {vo : Option Value} {lv pv : List Value} {nD np : Nat} {l₀ ns : List Int}
    (F : Fr g L h' m) (N : News g L h' [(D, listOf lv.toArray nD), X2, X3, T, I', (Pa, listOf pv.toArray np), X', (L' + 1, oc)]) (hown : ∀ p ∈ own, p ∈ [(D, listOf lv.toArray nD), X2, X3, T, I', (Pa, listOf pv.toArray np), X', (L' + 1, oc)])
    (hne : @Ne Nat D Pa ∧ @Ne Nat D (L' + 1) ∧ @Ne Nat Pa (L' + 1))
    (a : oc.data = Data.cell vo) (b : m "order" = some (.ref D)) (c : m "places" = some (.ref Pa)) (f : IntsAre lv ((ns.take (i + 1)).foldl mtf l₀)) (g' : IntsAre pv (placesOf l₀ (ns.take (i + 1))))
    (hfp : ∀ q ∈ [(Pa, listOf pv.toArray np), (D, listOf lv.toArray nD), (L' + 1, oc)], q.1 ∉ fp) :
    EndG g L (PlaJ L' l₀ ns (i + 1)) own fp { s with heap := h, toks := tk } { s with heap := h', toks := tk' } :=
  EndG.intro _ F N (by intro p hp; simp only [List.mem_cons, List.not_mem_nil, or_false] at hp ⊢; rcases hp with rfl | rfl | rfl <;> simp) hown hfp (PlaJ.mk hne a b c f g')
theorem none_of_keeps' {h h' : Heap} {a : Addr} (hk : ∀ b o, h.get? b = some o → h'.get? b = some o) (e : h'.get? a = none) : h.get? a = none := by
  cases q : h.get? a with
  | none => rfl
  | some o => rw [hk a o q] at e; cases e
local macro_rules | `(tactic| walk_at "binaryOp Add ref ref") => `(tactic| walk_at "shared 12")
set_option maxRecDepth 100000 in
set_option maxHeartbeats 8000000 in
theorem places_spec {p : Program} {loose : List Str} {mean : ExcName → Option Value} {mg mb : Str → Option Value} {w : World} {A : Around} {s : Shared} {a : Addr} {vs : List Value} {a0 a1 a2 a3 : Int} {ns : List Int} {Q E : Value → Shared → Prop}
    (X : (hd.heap_1 w.params).In s.heap) (T : Top p loose mean mg mb s.heap) 
    (hl : s.heap.IsList a vs.toArray) (hi : IntsAre vs (a0 :: a1 :: a2 :: a3 :: ns)) (hperm : List.Perm [a3, a2, a1, a0] [0, 1, 2, 3]) (hns : ∀ n ∈ ns, n ∈ ([0, 1, 2, 3] : List Int)) (hlen : ns.length = 10)
    (hh : A.handled = none) (hroom : A.depth + 8 < recursionLimit) (hu : A.units + 60 < cLine)
    (hQ : ∀ h' tk D ov n, (∀ b o, s.heap.get? b = some o → h'.get? b = some o) → h'.get? D = some (listOf (List.toArray ov) n) → IntsAre ov (placesOf [a3, a2, a1, a0] ns) → s.heap.get? D = none → Q (.ref D) { s with heap := h', toks := tk }) :
    wpAny (model PR w) A (call (.ref 173) [.ref a]) Q E s := by
  w_top off
  obtain ⟨hdl, dp, fr, gd, un⟩ := A
  obtain rfl : hdl = none := hh
  dsimp only at hroom hu
  refine wpAny_call ?_
  refine' enterC (binds := [("asks", .ref a)]) (news := []) (h₀ := s.heap) X T (fun _ _ e => e) (fun _ h => nomatch h) ?k6 ?k7 ?k8 ?k9 ?kB ?kD ?_ ?c2 ?c3 ?c4
  (case k6 => k_is)
  (case k7 => k_is)
  (case k8 => dsimp only; omega)
  (case k9 => exact BindsTo.of_eq rfl)
  (case kB => exact rfl)
  (case kD => decide +kernel)
  (case c2 => exact rfl)
  (case c3 => exact rfl)
  (case c4 => exact rfl)
  intro g L' h₁ tk' cells hg hg' F N Y X' T' l1
  replace hl : g.IsList a vs.toArray := stays_list (fun b o e => hg b o e) hl
  k_cells Y
  (try simp only [List.cons_append, List.nil_append] at N)
  walk_at "my walk"
  rename Fr _ _ _ _ => F1
  rename News _ _ _ _ => N1
  refine wpAny_For ?_ (by intro _; rfl)
  walk_at "my walk"
  rename Fr _ _ _ _ => F2
  rename News _ _ _ _ => N2
  rename IntsAre _ (List.drop 4 _) => hws
  replace hws : IntsAre _ ns := hws
  rename List Value => ws
  refine iterG_list (J := PlaJ L' [a3, a2, a1, a0] ns) rfl PassesOwn.never (fun h e => ⟨_, e, rfl, _, rfl⟩) ?_ F2 N2 (PlaJ.mk (l₀ := [a3, a2, a1, a0]) (ns := ns) (i := 0) (lv := [_, _, _, _]) (pv := []) ?_ (by assumption) rfl rfl (.cons a3 _ (.cons a2 _ (.cons a1 _ (.cons a0 _ .nil)))) .nil) ?_ ?_
  · exact ⟨by k_ne, by k_ne, by k_ne, trivial⟩
  · exact ⟨by k_ne, by k_ne, by k_ne⟩
  · rintro i v m₁ rest₁ h tk I oI hi hv hlI hoff1 hoff2 ⟨Oa, Pa, oc, vo, lv, pv, ln, pn, rfl, hne, hoc, hm1, hm2, hlv, hpv⟩ F N
    obtain ⟨hne1, hne2, hne3⟩ := hne
    simp only [LCg.Off1, and_true] at hoff1 hoff2
    clear F2 N2
    have hi' : i < ns.length := by rw [hws.length] at hi; exact hi
    obtain ⟨tb, htb⟩ := hws.get i ns[i] (List.getElem?_eq_getElem hi')
    obtain rfl : v = Value.int ns[i] tb := Option.some.inj (hv.symm.trans htb)
    have hnm := hns ns[i] (List.getElem_mem hi')
    have hti : ns.take (i + 1) = ns.take i ++ [ns[i]] := by simp
    generalize ns[i] = nm at *
    have hop := foldl_mtf_perm hperm (ns := ns.take i) fun n hn => hns n (List.mem_of_mem_take hn)
    have hfin1 : (ns.take (i + 1)).foldl mtf [a3, a2, a1, a0] = mtf ((ns.take i).foldl mtf [a3, a2, a1, a0]) nm := by rw [hti, List.foldl_append]; rfl
    have hfin2 : placesOf [a3, a2, a1, a0] (ns.take (i + 1)) = placesOf [a3, a2, a1, a0] (ns.take i) ++ [(idxI ((ns.take i).foldl mtf [a3, a2, a1, a0]) nm : Int)] := by rw [hti, placesOf_snoc]
    have hpl : (placesOf [a3, a2, a1, a0] (ns.take i)).length ≤ 10 := by rw [placesOf_length, List.length_take]; omega
    generalize (ns.take i).foldl mtf [a3, a2, a1, a0] = ord at *
    have hol := hop.length_eq
    have hin : nm ∈ ord := hop.mem_iff.mpr hnm
    have hlay := layable_ints_perm hop (by rfl)
    have hsz1 : lv.toArray.size ≤ sizeLine := by rw [List.size_toArray, hlv.length, sizeLine_eq, hol]; decide
    have hsz2 : pv.toArray.size ≤ sizeLine := by rw [List.size_toArray, hpv.length, sizeLine_eq]; omega
    dsimp only [PostG]
    walk_at "my walk"
    rename News _ _ _ _ => N5
    have hS := srcAt_of N5 (List.Mem.tail _ (List.Mem.tail _ (List.Mem.tail _ (List.Mem.tail _ (List.Mem.head _)))))
    refine restT_ind (fun j zs => IntsAre zs ((ord.take j).filter fun k => k != nm)) .nil ?_ ?_
    · intro j zs v I' oI' C oC D m₂ h tk E' hjn hzs hP hC hx F N off ne
      have hjn' : j < ord.length := by rw [List.size_toArray, hlv.length] at hjn; exact hjn
      obtain ⟨kj, hkj⟩ : ∃ kj, ord[j]? = some kj := ⟨_, List.getElem?_eq_getElem hjn'⟩
      obtain ⟨tj, htj⟩ := hlv.get j kj hkj
      obtain rfl : v = Value.int kj tj := Option.some.inj (hP.symm.trans (by simpa using htj))
      walk_at "my walk"
      all_goals refine (?_ : IntsAre _ ((ord.take (j + 1)).filter fun k => k != nm))
      all_goals rw [filter_snoc' hkj]
      · rw [if_pos (bne_iff_ne.mpr (by assumption))]
        exact hzs.append (.cons _ _ .nil)
      · rw [if_neg (fun q => bne_iff_ne.mp q (by assumption)), List.append_nil]
        exact hzs
    intro zs hzs
    replace hzs : IntsAre zs ((ord.take lv.toArray.size).filter fun k => k != nm) := hzs
    rw [List.size_toArray, hlv.length, List.take_length] at hzs
    have hn1 : IntsAre [Value.int nm tb] [nm] := .cons _ _ .nil
    have hsz3 : [nm].length + (List.filter (fun k => k != nm) ord).length ≤ sizeLine := by
      have := List.length_filter_le (fun k => k != nm) ord
      rw [hol] at this
      simp only [List.length_cons, List.length_nil, sizeLine_eq] at this ⊢
      omega
    walk_at "my walk"
    rename Fr _ _ _ _ => F4
    rename News _ _ _ _ => N4
    rename (_ = Data.cell (some (Value.int _ _))) => dd
    rename IntsAre _ ([nm] ++ _) => hnew
    rw [List.push_toArray] at N4
    refine pla_end F4 N4 (by lcg_sub) ?_ dd ((if_pos rfl)) ((if_neg (by decide)).trans hm2) (by rw [hfin1]; exact hnew) (by rw [hfin2]; exact hpv.append (.cons _ _ .nil)) ?_
    · exact ⟨by k_ne, by k_ne, by k_ne⟩
    · exact off2 ⟨by k_ne, by k_ne, by k_ne, trivial⟩ ⟨by k_ne, by k_ne, by k_ne, trivial⟩
  · rintro m₁ rest₁ h tk ⟨Oa, Pa, oc, vo, lv, pv, ln, pn, rfl, hne, hoc, hm1, hm2, hlv, hpv⟩ F N
    rw [hws.length, List.take_length] at hpv
    dsimp only
    walk_at "my walk"
    dsimp only
    exact hQ _ _ _ _ _ (fun b o e => F.keep b o (hg b o e)) (N _ (.head _)).1 hpv (none_of_keeps' hg (N _ (.head _)).2.2)
end Mine
end

local macro_rules | `(tactic| walk_at "shared 13") => `(tactic| first | (with_reducible refine st12 ?_))

section
open PySem PySem.W PyProof.Rows PySem.Calls PySem.Spec PyProof.V
set_option Elab.async false
namespace Mine
local macro_rules | `(tactic| walk_at "my spare") => `(tactic| fail "none")
local macro_rules | `(tactic| walk_at "my spare") => `(tactic| fail "none")
local macro_rules | `(tactic| walk_at "my spare") => `(tactic| fail "none")
local macro_rules | `(tactic| walk_at "my spare") => `(tactic| fail "none")
local macro_rules | `(tactic| omega) => `(tactic| walk_at "shared 1")
local macro_rules | `(tactic| walk_at "my stop") => `(tactic| walk_at "shared 6")
local macro_rules | `(tactic| walk_at "my stop") => `(tactic| walk_at "shared 8")
local macro_rules | `(tactic| walk_at "my stop") => `(tactic| walk_at "shared 13")
local macro_rules | `(tactic| walk_at "my walk") => `(tactic| walk_at "shared 2")
local macro_rules | `(tactic| walk_at "CompSrcT") => `(tactic| walk_at "shared 9")
local macro_rules | `(tactic| walk_at "eval ListComp") => `(tactic| walk_at "shared 11")
local macro_rules | `(tactic| walk_at "CompEnd") => `(tactic| walk_at "shared 10")
theorem filter_snoc2 {α : Type} {l : List α} {i : Nat} {p : α → Bool} {x : α} (h : l[i]? = some x) : (l.take (i + 1)).filter p = (l.take i).filter p ++ if p x then [x] else [] := by
  rw [List.take_add_one, h, List.filter_append]
  cases hp : p x <;> simp [hp]
local macro_rules | `(tactic| walk_at "eval Name") => `(tactic| walk_at "shared 3")
/-- one turn of a store of `size` names, the oldest first -/
def keepS (st : List Int) (n : Int) : List Int := (if st.contains n then st else st.drop 1).filter (· != n) ++ [n]
def missesOf : List Int → List Int → Nat
  | _, [] => 0
  | st, n :: r => (if st.contains n then 0 else 1) + missesOf (keepS st n) r
theorem missesOf_snoc {x : Int} : ∀ {ns l : List Int}, missesOf l (ns ++ [x]) = missesOf l ns + (if (ns.foldl keepS l).contains x then 0 else 1)
  | [], l => Nat.add_comm _ _
  | n :: r, l => by rw [List.cons_append, missesOf, missesOf, List.foldl_cons, missesOf_snoc (ns := r), Nat.add_assoc]
theorem slice_store {a0 a1 a2 a3 : Int} {ns : List Int} {size : Int} (hs : 1 ≤ size ∧ size ≤ 3) : List.take (min 4 (a0 :: a1 :: a2 :: a3 :: ns).length - (4 - size).toNat) (List.drop (4 - size).toNat (a0 :: a1 :: a2 :: a3 :: ns)) = [a0, a1, a2, a3].drop (4 - size).toNat := by
  have e4 : min 4 (a0 :: a1 :: a2 :: a3 :: ns).length = 4 := by simp only [List.length_cons]; omega
  rw [e4]
  obtain rfl | rfl | rfl : size = 1 ∨ size = 2 ∨ size = 3 := by omega
  all_goals rfl
theorem keepS_len {st : List Int} {n : Int} {b : Nat} (h : st.length ≤ b) (hb : 1 ≤ b) : (keepS st n).length ≤ b + 1 := by
  unfold keepS
  have h1 := List.length_filter_le (· != n) (if st.contains n then st else st.drop 1)
  have h2 : (if st.contains n then st else st.drop 1).length ≤ b := by
    split
    · exact h
    · rw [List.length_drop]; omega
  simp only [List.length_append, List.length_cons, List.length_nil]
  omega
theorem foldl_keepS_len : ∀ {ns st : List Int} {b : Nat}, st.length ≤ b → 1 ≤ b → (ns.foldl keepS st).length ≤ b + ns.length
  | [], _, _, h, _ => h
  | n :: r, st, b, h, hb => by
    have := foldl_keepS_len (ns := r) (st := keepS st n) (b := b + 1) (keepS_len h hb) (by omega)
    simp only [List.foldl_cons, List.length_cons]
    omega
local macro_rules | `(tactic| walk_at "binaryOp Add ref ref") => `(tactic| walk_at "shared 12")
def MisJ (L' : Addr) (l₀ ns : List Int) (i : Nat) (m : Str → Option Value) (nx : List (Addr × Obj)) : Prop :=
  ∃ (Oa : Addr) (oc : Obj) (vo : Option Value) (lv : List Value) (ln : Nat) (t : Tok), nx = [(Oa, listOf lv.toArray ln), (L' + 1, oc)] ∧ (@Ne Nat Oa (L' + 1)) ∧
    oc.data = Data.cell vo ∧ m "store" = some (.ref Oa) ∧ m "misses" = some (.int (missesOf l₀ (ns.take i) : Nat) t) ∧ IntsAre lv ((ns.take i).foldl keepS l₀)
theorem MisJ.mk {L' : Addr} {l₀ ns : List Int} {i : Nat} {m : Str → Option Value} {Oa : Addr} {oc : Obj} {vo : Option Value} {lv : List Value} {ln : Nat} {t : Tok} (hne : @Ne Nat Oa (L' + 1))
    (a : oc.data = Data.cell vo) (b : m "store" = some (.ref Oa)) (c : m "misses" = some (.int (missesOf l₀ (ns.take i) : Nat) t)) (f : IntsAre lv ((ns.take i).foldl keepS l₀)) :
    MisJ L' l₀ ns i m [(Oa, listOf lv.toArray ln), (L' + 1, oc)] := ⟨_, _, _, _, _, _, rfl, hne, a, b, c, f⟩
theorem contains_any (l : List Int) (x : Int) : l.contains x = l.any (fun y => y == x) := by
  rw [Bool.eq_iff_iff]; simp
theorem mis_end {g h h' : Heap} {s : Shared} {L L' D : Addr} {all own : List (Addr × Obj)} {fp : List Addr} {tk tk' : Nat} {m : Str → Option Value} {i : Nat} {oc : Obj} {vo : Option Value} {lv : List Value} {nD : Nat} {l₀ ns : List Int}
    (F : Fr g L h' m) (N : News g L h' all) (hown : ∀ p ∈ own, p ∈ all) (hm1 : (D, listOf lv.toArray nD) ∈ all) (hm2 : (L' + 1, oc) ∈ all)
    (hne : @Ne Nat D (L' + 1))
    (a : oc.data = Data.cell vo) (b : m "store" = some (.ref D)) (c : ∃ t, m "misses" = some (.int (missesOf l₀ (ns.take (i + 1)) : Nat) t)) (f : IntsAre lv ((ns.take (i + 1)).foldl keepS l₀))
    (hfp : ∀ q ∈ [(D, listOf lv.toArray nD), (L' + 1, oc)], q.1 ∉ fp) :
    EndG g L (MisJ L' l₀ ns (i + 1)) own fp { s with heap := h, toks := tk } { s with heap := h', toks := tk' } :=
  EndG.intro _ F N (by intro p hp; simp only [List.mem_cons, List.not_mem_nil, or_false] at hp; rcases hp with rfl | rfl; exact hm1; exact hm2) hown hfp (MisJ.mk hne a b c.choose_spec f)
set_option maxRecDepth 100000 in
set_option maxHeartbeats 8000000 in
theorem misses_spec {p : Program} {loose : List Str} {mean : ExcName → Option Value} {mg mb : Str → Option Value} {w : World} {A : Around} {s : Shared} {a : Addr} {vs : List Value} {a0 a1 a2 a3 : Int} {ns : List Int} {size : Int} {tz : Tok} {Q E : Value → Shared → Prop}
    (X : (hd.heap_1 w.params).In s.heap) (T : Top p loose mean mg mb s.heap) 
    (hl : s.heap.IsList a vs.toArray) (hi : IntsAre vs (a0 :: a1 :: a2 :: a3 :: ns)) (hlen : ns.length = 10) (hsize : 1 ≤ size ∧ size ≤ 3)
    (hh : A.handled = none) (hroom : A.depth + 8 < recursionLimit) (hu : A.units + 60 < cLine)
    (hQ : ∀ h' tk t, (∀ b o, s.heap.get? b = some o → h'.get? b = some o) → Q (.int (missesOf ([a0, a1, a2, a3].drop (4 - size).toNat) ns : Nat) t) { s with heap := h', toks := tk }) :
    wpAny (model PR w) A (call (.ref 178) [.ref a, .int size tz]) Q E s := by
  w_top off
  obtain ⟨hdl, dp, fr, gd, un⟩ := A
  obtain rfl : hdl = none := hh
  dsimp only at hroom hu
  refine wpAny_call ?_
  refine' enterC (binds := [("asks", .ref a), ("size", .int size tz)]) (news := []) (h₀ := s.heap) X T (fun _ _ e => e) (fun _ h => nomatch h) ?k6 ?k7 ?k8 ?k9 ?kB ?kD ?_ ?c2 ?c3 ?c4
  (case k6 => k_is)
  (case k7 => k_is)
  (case k8 => dsimp only; omega)
  (case k9 => exact BindsTo.of_eq rfl)
  (case kB => exact rfl)
  (case kD => decide +kernel)
  (case c2 => exact rfl)
  (case c3 => exact rfl)
  (case c4 => exact rfl)
  intro g L' h₁ tk' cells hg hg' F N Y X' T' l1
  replace hl : g.IsList a vs.toArray := stays_list (fun b o e => hg b o e) hl
  k_cells Y
  (try simp only [List.cons_append, List.nil_append] at N)
  walk_at "my walk"
  rename Fr _ _ _ _ => F1
  rename News _ _ _ _ => N1
  refine wpAny_For ?_ (by intro _; rfl)
  walk_at "my walk"
  rename Fr _ _ _ _ => F2
  rename News _ _ _ _ => N2
  rename IntsAre _ (List.drop 4 _) => hws
  rename IntsAre _ (List.take _ _) => hst
  rw [slice_store hsize] at hst
  generalize hl0 : [a0, a1, a2, a3].drop (4 - size).toNat = l₀ at hst hQ
  have hl0' : l₀.length ≤ 4 := by rw [← hl0, List.length_drop]; exact Nat.sub_le _ _
  replace hws : IntsAre _ ns := hws
  refine iterG_list (J := MisJ L' l₀ ns) rfl PassesOwn.never (fun h e => ⟨_, e, rfl, _, rfl⟩) ?_ F2 N2 (MisJ.mk (l₀ := l₀) (ns := ns) (i := 0) ?_ (by assumption) rfl rfl hst) ?_ ?_
  · exact ⟨by k_ne, by k_ne, trivial⟩
  · k_ne
  · rintro i v m₁ rest₁ h tk I oI hi hv hlI hoff1 hoff2 ⟨Oa, oc, vo, lv, ln, t, rfl, hne, hoc, hm1, hm2, hlv⟩ F N
    simp only [LCg.Off1, and_true] at hoff1 hoff2
    clear F2 N2
    have hi' : i < ns.length := by rw [hws.length] at hi; exact hi
    obtain ⟨tb, htb⟩ := hws.get i ns[i] (List.getElem?_eq_getElem hi')
    obtain rfl : v = Value.int ns[i] tb := Option.some.inj (hv.symm.trans htb)
    have hti : ns.take (i + 1) = ns.take i ++ [ns[i]] := by simp
    generalize ns[i] = nm at *
    have hbl := foldl_keepS_len (ns := ns.take i) hl0' (by decide)
    rw [List.length_take] at hbl
    have hfin1 : (ns.take (i + 1)).foldl keepS l₀ = keepS ((ns.take i).foldl keepS l₀) nm := by rw [hti, List.foldl_append]; rfl
    have hfin2 : missesOf l₀ (ns.take (i + 1)) = missesOf l₀ (ns.take i) + (if ((ns.take i).foldl keepS l₀).contains nm then 0 else 1) := by rw [hti, missesOf_snoc]
    generalize (ns.take i).foldl keepS l₀ = st at *
    generalize missesOf l₀ (ns.take i) = mi at *
    have hsz1 : lv.toArray.size ≤ sizeLine := by rw [List.size_toArray, hlv.length, sizeLine_eq]; omega
    dsimp only [PostG]
    walk_at "my walk"
    · rename (List.any _ _ = true) => hin
      rename News _ _ _ _ => N5
      have hS := srcAt_of N5 (List.Mem.tail _ (List.Mem.tail _ (List.Mem.head _)))
      refine restT_ind (fun j zs => IntsAre zs (((st).take j).filter fun k => k != nm)) .nil ?_ ?_
      · intro j zs v I' oI' C oC D m₂ h tk E' hjn hzs hP hC hx F N off ne
        have hjn' : j < (st).length := by rw [List.size_toArray, hlv.length] at hjn; exact hjn
        obtain ⟨kj, hkj⟩ : ∃ kj, (st)[j]? = some kj := ⟨_, List.getElem?_eq_getElem hjn'⟩
        obtain ⟨tj, htj⟩ := hlv.get j kj hkj
        obtain rfl : v = Value.int kj tj := Option.some.inj (hP.symm.trans (by simpa using htj))
        walk_at "my walk"
        all_goals refine (?_ : IntsAre _ (((st).take (j + 1)).filter fun k => k != nm))
        all_goals rw [filter_snoc2 hkj]
        · rw [if_pos (bne_iff_ne.mpr (by assumption))]
          exact hzs.append (.cons _ _ .nil)
        · rw [if_neg (fun q => bne_iff_ne.mp q (by assumption)), List.append_nil]
          exact hzs
      intro zs hzs
      replace hzs : IntsAre zs (((st).take (List.toArray lv).size).filter fun k => k != nm) := hzs
      rw [List.size_toArray, hlv.length, List.take_length] at hzs
      walk_at "my walk"
      have hn1 : IntsAre [Value.int nm tb] [nm] := .cons _ _ .nil
      have hsz3 : (List.filter (fun k => k != nm) (st)).length + [nm].length ≤ sizeLine := by
        have := List.length_filter_le (fun k => k != nm) (st)
        have h2 : (st).length ≤ st.length := by first | exact Nat.le_refl _ | (rw [List.length_drop]; exact Nat.sub_le _ _)
        simp only [List.length_cons, List.length_nil, sizeLine_eq] at this ⊢
        omega
      refine kmk_add_ints (by k_asm) (by k_asm) (by kmk_list) (by kmk_list) hzs hn1 ?_ hsz3
      clear hsz3 hn1
      rename Fr _ _ _ _ => F6
      rename News _ _ _ _ => N6
      intro D' ws' h' F' N' l1 hI'
      clear F6 N6
      k_lt l1
      (try dsimp only)
      walk_at "my walk"
      rename Fr _ _ _ _ => F4
      rename News _ _ _ _ => N4
      rename (_ = Data.cell (some (Value.int _ _))) => dd
      refine mis_end (D := D') (lv := ws') (nD := 0) F4 N4 (by lcg_sub) (by k_mem) (by k_mem) (by k_ne) dd (if_pos rfl) ?_ ?_ ?_
      · rw [hfin2, contains_any, hin]
        exact ⟨_, (if_neg (by decide)).trans hm2⟩
      · rw [hfin1, keepS, contains_any, hin]
        exact hI'
      · exact off2 ⟨by k_ne, by k_ne, trivial⟩ ⟨by k_ne, by k_ne, trivial⟩
    · rename (List.any _ _ = false) => hin
      rename IntsAre _ (List.drop 1 st) => hd1
      rename List Value => ws1
      have hsz4 : ws1.toArray.size ≤ sizeLine := by rw [List.size_toArray, hd1.length, sizeLine_eq, List.length_drop]; omega
      walk_at "my walk"
      rename News _ _ _ _ => N5
      have hS := srcAt_of N5 (List.Mem.head _)
      refine restT_ind (fun j zs => IntsAre zs (((st.drop 1).take j).filter fun k => k != nm)) .nil ?_ ?_
      · intro j zs v I' oI' C oC D m₂ h tk E' hjn hzs hP hC hx F N off ne
        have hjn' : j < (st.drop 1).length := by rw [List.size_toArray, hd1.length] at hjn; exact hjn
        obtain ⟨kj, hkj⟩ : ∃ kj, (st.drop 1)[j]? = some kj := ⟨_, List.getElem?_eq_getElem hjn'⟩
        obtain ⟨tj, htj⟩ := hd1.get j kj hkj
        obtain rfl : v = Value.int kj tj := Option.some.inj (hP.symm.trans (by simpa using htj))
        walk_at "my walk"
        all_goals refine (?_ : IntsAre _ (((st.drop 1).take (j + 1)).filter fun k => k != nm))
        all_goals rw [filter_snoc2 hkj]
        · rw [if_pos (bne_iff_ne.mpr (by assumption))]
          exact hzs.append (.cons _ _ .nil)
        · rw [if_neg (fun q => bne_iff_ne.mp q (by assumption)), List.append_nil]
          exact hzs
      intro zs hzs
      replace hzs : IntsAre zs (((st.drop 1).take (List.toArray ws1).size).filter fun k => k != nm) := hzs
      rw [List.size_toArray, hd1.length, List.take_length] at hzs
      walk_at "my walk"
      have hn1 : IntsAre [Value.int nm tb] [nm] := .cons _ _ .nil
      have hsz3 : (List.filter (fun k => k != nm) (st.drop 1)).length + [nm].length ≤ sizeLine := by
        have := List.length_filter_le (fun k => k != nm) (st.drop 1)
        have h2 : (st.drop 1).length ≤ st.length := by first | exact Nat.le_refl _ | (rw [List.length_drop]; exact Nat.sub_le _ _)
        simp only [List.length_cons, List.length_nil, sizeLine_eq] at this ⊢
        omega
      refine kmk_add_ints (by k_asm) (by k_asm) (by kmk_list) (by kmk_list) hzs hn1 ?_ hsz3
      clear hsz3 hn1
      rename Fr _ _ _ _ => F6
      rename News _ _ _ _ => N6
      intro D' ws' h' F' N' l1 hI'
      clear F6 N6
      k_lt l1
      (try dsimp only)
      walk_at "my walk"
      rename Fr _ _ _ _ => F4
      rename News _ _ _ _ => N4
      rename (_ = Data.cell (some (Value.int _ _))) => dd
      refine mis_end (D := D') (lv := ws') (nD := 0) F4 N4 (by lcg_sub) (by k_mem) (by k_mem) (by k_ne) dd (if_pos rfl) ?_ ?_ ?_
      · rw [hfin2, contains_any, hin]
        exact ⟨_, (if_neg (by decide)).trans ((if_neg (by decide)).trans (if_pos rfl))⟩
      · rw [hfin1, keepS, contains_any, hin]
        exact hI'
      · exact off2 ⟨by k_ne, by k_ne, trivial⟩ ⟨by k_ne, by k_ne, trivial⟩
  · rintro m₁ rest₁ h tk ⟨Oa, oc, vo, lv, ln, t, rfl, hne, hoc, hm1, hm2, hlv⟩ F N
    rw [hws.length, List.take_length] at hm2
    dsimp only
    walk_at "my walk"
    dsimp only
    exact hQ _ _ _ (fun b o e => F.keep b o (hg b o e))
end Mine
end

local macro_rules | `(tactic| walk_at "shared 14") => `(tactic| first | assumption | exact if_pos rfl | (refine (if_neg (by decide)).trans ?_; walk_at "my get"))

local macro_rules | `(tactic| walk_at "shared 15") => `(tactic| (k_dflt (refine LCg.ListComp_U (F₀ := by k_asm) (by rfl) (by decide) (by rfl) (by decide) (by rfl) ?_)))

section
open PySem PySem.W PyProof.Rows PySem.Calls PySem.Spec PyProof.V
set_option Elab.async false
namespace Mine
local macro_rules | `(tactic| walk_at "my spare") => `(tactic| fail "none")
local macro_rules | `(tactic| walk_at "my spare") => `(tactic| fail "none")
local macro_rules | `(tactic| walk_at "my spare") => `(tactic| fail "none")
local macro_rules | `(tactic| walk_at "my spare") => `(tactic| fail "none")
local macro_rules | `(tactic| walk_at "my spare") => `(tactic| fail "none")
local macro_rules | `(tactic| walk_at "my spare") => `(tactic| fail "none")
local macro_rules | `(tactic| walk_at "my spare") => `(tactic| fail "none")
local macro_rules | `(tactic| walk_at "my spare") => `(tactic| fail "none")
local macro_rules | `(tactic| walk_at "my spare") => `(tactic| fail "none")
local macro_rules | `(tactic| walk_at "my spare") => `(tactic| fail "none")
local macro_rules | `(tactic| walk_at "my spare") => `(tactic| fail "none")
local macro_rules | `(tactic| walk_at "my spare") => `(tactic| fail "none")
local macro_rules | `(tactic| omega) => `(tactic| walk_at "shared 1")
section
variable {prog : Program} {w : World} {A : Around} {E : Value → Shared → Prop} {s : Shared} {t u : Tok} {Q : Value → Shared → Prop}
theorem foldl_spaces : ∀ (d : Nat) (acc : Array Nat), (List.replicate d (#[32] : Array Nat)).foldl (· ++ ·) acc = acc ++ (List.replicate d 32).toArray
  | 0, acc => by simp
  | d + 1, acc => by
    rw [List.replicate_succ, List.foldl_cons, foldl_spaces d]
    apply Array.toList_inj.mp
    simp [List.replicate_succ]
theorem mul_spaces (d : Nat) : Txt.mul (Str.ofString " ") (d : Int) = ⟨(List.replicate d 32).toArray⟩ := by
  rw [show Str.ofString " " = ⟨#[32]⟩ from by decide +kernel]
  unfold Txt.mul
  by_cases h0 : (d : Int) < 1
  · rw [if_pos h0]
    have : d = 0 := by omega
    subst this
    rfl
  · rw [if_neg h0]
    by_cases h1 : ((d : Int) == 1 || (⟨#[32]⟩ : Str).length == 0) = true
    · rw [if_pos h1]
      have : d = 1 := by
        rw [Bool.or_eq_true] at h1
        rcases h1 with h1 | h1
        · have := beq_iff_eq.mp h1; omega
        · cases h1
      subst this
      rfl
    · rw [if_neg h1, Int.toNat_natCast, foldl_spaces]
      simp
theorem sp_mul {v : Int} {d : Nat} (hv : v = (d : Int)) (hd : d ≤ 1000) (h : ∀ t' k, Q (.str ⟨(List.replicate d 32).toArray⟩ t') { s with toks := k }) :
    wpAny (model prog w) A (binaryOp .Mult (.str (Str.ofString " ") t) (.int v u)) Q E s := by
  subst hv
  refine SB.mul (mulOk_of 16 1048576 (by decide) (by omega) (by omega) (by decide) (by decide)) fun t' k => ?_
  rw [mul_spaces]
  exact h t' k
end
/-- one word of the raw text -/
def wordL (p : Nat) : List Nat := List.replicate p 32 ++ [9]
theorem LinesAre.snoc : ∀ {vs : List Value} {ls : List (List Nat)} {a : List Nat} {t : Tok}, LinesAre vs ls → LinesAre (vs ++ [.str ⟨a.toArray⟩ t]) (ls ++ [a])
  | _, _, _, _, .nil => .cons _ _ .nil
  | _, _, _, _, .cons b u h => .cons b u h.snoc
local macro_rules | `(tactic| walk_at "my stop") => `(tactic| first | (with_reducible refine st8 ?_) | (with_reducible refine st13 ?_) | (with_reducible refine st14 ?_) | (with_reducible refine st15 ?_) | (with_reducible refine st16 ?_))
local macro_rules | `(tactic| walk_at "my get") => `(tactic| walk_at "shared 14")
local macro_rules | `(tactic| walk_at "my stop") => `(tactic| walk_at "shared 13")
local macro_rules | `(tactic| walk_at "my walk") => `(tactic| walk_at "shared 2")
local macro_rules | `(tactic| walk_at "eval ListComp") => `(tactic| walk_at "shared 15")
local macro_rules | `(tactic| walk_at "CompSrc") => `(tactic| (k_here; k_dflt (refine LCg.CompSrc.base (by rfl) (by k_asm) (by k_asm) (by assumption) (by assumption) ?_; intro g')))
local macro_rules | `(tactic| walk_at "CompEnd") => `(tactic| walk_at "shared 10")
theorem tup_new {prog : Program} {w : World} {A : Around} {E : Value → Shared → Prop} {s : Shared} {h₀ : Heap} {L l : Addr} {m : Str → Option Value} {news : List (Addr × Obj)} {vs : List Value} {Q : Value → Shared → Prop} (F : Fr h₀ L s.heap m) (N : News h₀ L s.heap news) (hl : s.heap.IsList l vs.toArray) (hsz : vs.toArray.size ≤ sizeLine)
    (h : ∀ D h', Fr h₀ L h' m → News h₀ L h' ((D, { cls := .type "tuple", data := .seq vs.toArray }) :: news) → (∀ p ∈ news, p.1 < D) → Q (.ref D) { s with heap := h' }) :
    wpAny (model prog w) A (call (.type "tuple") [.ref l]) Q E s := by
  refine call_tuple_list hl (fun h' hk => ?_) hsz
  have F' := F.keeps hk
  have N' := News.grown N hk
  exact h _ _ (F'.push _) (N'.push F' _) fun p hp => Heap.lt_size (N' p hp).1
local macro_rules | `(tactic| walk_at "call type:tuple") => `(tactic| ((with_reducible show wpAny _ _ (call (Value.type _) [Value.ref _]) _ _ _); k_dflt (refine tup_new (by k_asm) (by k_asm) (News.isList (by k_asm) (by k_mem)) (by with_reducible assumption) ?_); intro D' h' F' N' l1; (try k_lt l1); (try k_sweep)))
def bumpC (count : List Int) (b : Nat) : List Int :=
  let c' := if count.length ≤ b then count ++ List.replicate (b - count.length + 1) 0 else count
  c'.set b (c'.getD b 0 + 1)
def stepW (st : List Int × Nat × Nat × Nat) (c : Nat) : List Int × Nat × Nat × Nat :=
  if c = 32 then (st.1, st.2.1 + 1, st.2.2.1 + 1, st.2.2.2) else (bumpC st.1 st.2.1, 0, st.2.2.1 + 1, st.2.2.2 + 1)
def scanW (l : List Nat) : List Int × Nat × Nat × Nat := l.foldl stepW ([], 0, 0, 0)
def InitJ (raw : List Nat) (x dx : Addr) (od : Obj) (i : Nat) (m : Str → Option Value) (nx : List (Addr × Obj)) : Prop :=
  ∃ (Ca : Addr) (cv : List Value) (cn : Nat) (count : List Int) (b n nt : Nat) (tS tT tb tn tt : Tok), nx = [(Ca, listOf cv.toArray cn), (x, instObj 142 dx), (dx, od)] ∧ (@Ne Nat Ca x ∧ @Ne Nat Ca dx ∧ @Ne Nat x dx) ∧
    m "self" = some (.ref x) ∧ m "S" = some (.str (Str.ofString " ") tS) ∧ m "T" = some (.str (Str.ofString "\t") tT) ∧ m "count" = some (.ref Ca) ∧ m "b" = some (.int (b : Nat) tb) ∧ m "n" = some (.int (n : Nat) tn) ∧ m "nt" = some (.int (nt : Nat) tt) ∧
    IntsAre cv count ∧ scanW (raw.take i) = (count, b, n, nt) ∧ i < raw.length
theorem InitJ.mk {raw : List Nat} {x dx : Addr} {od : Obj} {i : Nat} {m : Str → Option Value} {Ca : Addr} {cv : List Value} {cn : Nat} {count : List Int} {b n nt : Nat} {tS tT tb tn tt : Tok} (hne : @Ne Nat Ca x ∧ @Ne Nat Ca dx ∧ @Ne Nat x dx)
    (a1 : m "self" = some (.ref x)) (a2 : m "S" = some (.str (Str.ofString " ") tS)) (a3 : m "T" = some (.str (Str.ofString "\t") tT)) (a4 : m "count" = some (.ref Ca)) (a5 : m "b" = some (.int (b : Nat) tb)) (a6 : m "n" = some (.int (n : Nat) tn)) (a7 : m "nt" = some (.int (nt : Nat) tt))
    (a8 : IntsAre cv count) (a9 : scanW (raw.take i) = (count, b, n, nt)) (a10 : i < raw.length) : InitJ raw x dx od i m [(Ca, listOf cv.toArray cn), (x, instObj 142 dx), (dx, od)] :=
  ⟨_, _, _, _, _, _, _, _, _, _, _, _, rfl, hne, a1, a2, a3, a4, a5, a6, a7, a8, a9, a10⟩
theorem scanW_next {raw : List Nat} {i c : Nat} (h : raw[i]? = some c) : scanW (raw.take (i + 1)) = stepW (scanW (raw.take i)) c := by
  unfold scanW
  rw [List.take_add_one, h, List.foldl_append]
  rfl
theorem init_end {g h h' : Heap} {s : Shared} {L : Addr} {all own : List (Addr × Obj)} {fp : List Addr} {tk tk' : Nat} {raw : List Nat} {x dx : Addr} {od : Obj} {i : Nat} {m : Str → Option Value} {Ca : Addr} {cv : List Value} {cn : Nat} {count : List Int} {b n nt : Nat}
    (F : Fr g L h' m) (N : News g L h' all) (hown : ∀ p ∈ own, p ∈ all) (hm1 : (Ca, listOf cv.toArray cn) ∈ all) (hm2 : (x, instObj 142 dx) ∈ all) (hm3 : (dx, od) ∈ all) (hne : @Ne Nat Ca x ∧ @Ne Nat Ca dx ∧ @Ne Nat x dx)
    (a1 : m "self" = some (.ref x)) (a2 : ∃ t, m "S" = some (.str (Str.ofString " ") t)) (a3 : ∃ t, m "T" = some (.str (Str.ofString "\t") t)) (a4 : m "count" = some (.ref Ca)) (a5 : ∃ t, m "b" = some (.int (b : Nat) t)) (a6 : ∃ t, m "n" = some (.int (n : Nat) t)) (a7 : ∃ t, m "nt" = some (.int (nt : Nat) t))
    (a8 : IntsAre cv count) (a9 : scanW (raw.take i) = (count, b, n, nt)) (a10 : i < raw.length) (hfp : ∀ q ∈ [(Ca, listOf cv.toArray cn), (x, instObj 142 dx), (dx, od)], q.1 ∉ fp) :
    EndG g L (InitJ raw x dx od i) own fp { s with heap := h, toks := tk } { s with heap := h', toks := tk' } :=
  EndG.intro _ F N (by intro p hp; simp only [List.mem_cons, List.not_mem_nil, or_false] at hp; rcases hp with rfl | rfl | rfl; exact hm1; exact hm2; exact hm3) hown hfp
    (InitJ.mk hne a1 a2.choose_spec a3.choose_spec a4 a5.choose_spec a6.choose_spec a7.choose_spec a8 a9 a10)
theorem drop2 {h₀ h : Heap} {L : Addr} {a b : Addr × Obj} {r : List (Addr × Obj)} (N : News h₀ L h (a :: b :: r)) : News h₀ L h (a :: r) := fun p hp => N p (by
  rcases List.mem_cons.mp hp with rfl | hp
  · exact .head _
  · exact .tail _ (.tail _ hp))
theorem bumpC_len {count : List Int} {b : Nat} : (bumpC count b).length = max count.length (b + 1) := by
  unfold bumpC
  simp only [List.length_set]
  split
  · rw [List.length_append, List.length_replicate]; omega
  · omega
theorem scanW_len' : ∀ (l : List Nat) (st : List Int × Nat × Nat × Nat) (k : Nat), st.1.length ≤ k → st.2.1 ≤ k → (l.foldl stepW st).1.length ≤ k + l.length ∧ (l.foldl stepW st).2.1 ≤ k + l.length
  | [], st, k, h1, h2 => ⟨h1, h2⟩
  | c :: r, st, k, h1, h2 => by
    have h := scanW_len' r (stepW st c) (k + 1)
      (by unfold stepW; split
          · exact Nat.le_succ_of_le h1
          · show (bumpC _ _).length ≤ _; rw [bumpC_len]; omega)
      (by unfold stepW; split
          · exact Nat.succ_le_succ h2
          · exact Nat.zero_le _)
    simp only [List.foldl_cons, List.length_cons]
    omega
theorem scanW_len {l : List Nat} : (scanW l).1.length ≤ l.length ∧ (scanW l).2.1 ≤ l.length := by
  have h := scanW_len' l ([], 0, 0, 0) 0 (Nat.le_refl _) (Nat.le_refl _)
  rw [Nat.zero_add] at h
  exact h
theorem scan_spaces : ∀ (p : Nat) (count : List Int) (b n nt : Nat), (List.replicate p 32).foldl stepW (count, b, n, nt) = (count, b + p, n + p, nt)
  | 0, _, _, _, _ => rfl
  | p + 1, count, b, n, nt => by
    rw [List.replicate_succ, List.foldl_cons]
    show (List.replicate p 32).foldl stepW (count, b + 1, n + 1, nt) = _
    rw [scan_spaces p, Nat.add_assoc b, Nat.add_assoc n, Nat.add_comm 1 p]
def histF (ps : List Nat) : List Int := ps.foldl bumpC []
theorem scan_words : ∀ (ps : List Nat) (count : List Int) (n nt : Nat), ∃ n', ((ps.map wordL).flatten).foldl stepW (count, 0, n, nt) = (ps.foldl bumpC count, 0, n', nt + ps.length)
  | [], count, n, nt => ⟨n, rfl⟩
  | p :: r, count, n, nt => by
    obtain ⟨n', e⟩ := scan_words r (bumpC count p) (n + p + 1) (nt + 1)
    refine ⟨n', ?_⟩
    rw [List.map_cons, List.flatten_cons, List.foldl_append, wordL, List.foldl_append, scan_spaces]
    show ((r.map wordL).flatten).foldl stepW (bumpC count (0 + p), 0, n + p + 1, nt + 1) = _
    rw [Nat.zero_add, e, List.length_cons, List.foldl_cons, Nat.add_assoc nt, Nat.add_comm 1]
theorem scanW_words (ps : List Nat) : ∃ n', scanW ((ps.map wordL).flatten) = (histF ps, 0, n', ps.length) := by
  obtain ⟨n', e⟩ := scan_words ps [] 0 0
  exact ⟨n', by rw [scanW, e, histF, Nat.zero_add]⟩
theorem words_mem {ps : List Nat} {c : Nat} (h : c ∈ (ps.map wordL).flatten) : c = 32 ∨ c = 9 := by
  obtain ⟨l, hl, hc⟩ := List.mem_flatten.mp h
  obtain ⟨p, _, rfl⟩ := List.mem_map.mp hl
  rcases List.mem_append.mp hc with h1 | h1
  · exact .inl (List.eq_of_mem_replicate h1)
  · exact .inr (List.mem_singleton.mp h1)
theorem words_len : ∀ {ps : List Nat}, (∀ p ∈ ps, p ≤ 3) → ((ps.map wordL).flatten).length ≤ 4 * ps.length
  | [], _ => Nat.le_refl _
  | p :: r, h => by
    have h1 := words_len (ps := r) fun q hq => h q (.tail _ hq)
    have h2 := h p (.head _)
    rw [List.map_cons, List.flatten_cons, List.length_append, wordL, List.length_append, List.length_replicate, List.length_cons]
    simp only [List.length_cons, List.length_nil]
    omega
abbrev wsDict (w : World) (rs : Str) (n nt : Nat) (Dn : Addr) (sm : Bool) (t1 t2 t3 t4 t5 t6 t7 t8 : Tok) : Obj :=
  dictOf [DictEntry.mk (PyData.keyHash w.params "raw") (Value.str "raw" t1) (Value.str rs t2), DictEntry.mk (PyData.keyHash w.params "n") (Value.str "n" t3) (Value.int n t4),
    DictEntry.mk (PyData.keyHash w.params "nt") (Value.str "nt" t5) (Value.int nt t6), DictEntry.mk (PyData.keyHash w.params "norm") (Value.str "norm" t7) (Value.ref Dn),
    DictEntry.mk (PyData.keyHash w.params "is_simple") (Value.str "is_simple" t8) (Value.bool sm)] 5
abbrev tupO (vs : List Value) : Obj := { cls := .type "tuple", data := .seq vs.toArray }
/-- a Whitespace at x, of the call's own making: its counts, its tabs, no trailing spaces -/
def IsWs (w : World) (h₀ h : Heap) (x : Addr) (count : List Int) (nt : Nat) : Prop :=
  ∃ (dx Dn Dt : Addr) (cv : List Value) (rs : Str) (n : Nat) (sm : Bool) (tb t1 t2 t3 t4 t5 t6 t7 t8 : Tok),
    (∀ q ∈ [(Dn, tupO [Value.ref Dt, Value.int 0 tb]), (Dt, tupO cv), (x, instObj 142 dx), (dx, wsDict w rs n nt Dn sm t1 t2 t3 t4 t5 t6 t7 t8)], h.get? q.1 = some q.2 ∧ h₀.get? q.1 = none) ∧
    IntsAre cv count ∧ @Ne Nat Dn Dt ∧ @Ne Nat Dn x ∧ @Ne Nat Dn dx ∧ @Ne Nat Dt x ∧ @Ne Nat Dt dx ∧ @Ne Nat x dx
theorem ws_end {w : World} {s0 g h' : Heap} {L : Addr} {x dx Dn Dt : Addr} {cv : List Value} {rs : Str} {n nt : Nat} {sm : Bool} {tb t1 t2 t3 t4 t5 t6 t7 t8 : Tok} {a b : Addr × Obj} {count : List Int}
    (N : News g L h' [(Dn, tupO [Value.ref Dt, Value.int 0 tb]), (Dt, tupO cv), a, b, (x, instObj 142 dx), (dx, wsDict w rs n nt Dn sm t1 t2 t3 t4 t5 t6 t7 t8)]) (hg : ∀ b o, s0.get? b = some o → g.get? b = some o) (hi : IntsAre cv count)
    (hne : @Ne Nat Dn Dt ∧ @Ne Nat Dn x ∧ @Ne Nat Dn dx ∧ @Ne Nat Dt x ∧ @Ne Nat Dt dx ∧ @Ne Nat x dx) : IsWs w s0 h' x count nt := by
  refine ⟨dx, Dn, Dt, cv, rs, n, sm, tb, t1, t2, t3, t4, t5, t6, t7, t8, fun q hq => ?_, hi, hne⟩
  have hq' : q ∈ [(Dn, tupO [Value.ref Dt, Value.int 0 tb]), (Dt, tupO cv), a, b, (x, instObj 142 dx), (dx, wsDict w rs n nt Dn sm t1 t2 t3 t4 t5 t6 t7 t8)] := by
    simp only [List.mem_cons, List.not_mem_nil, or_false] at hq ⊢
    rcases hq with rfl | rfl | rfl | rfl <;> simp
  refine ⟨(N q hq').1, ?_⟩
  cases e : s0.get? q.1 with
  | none => rfl
  | some o => have := (N q hq').2.2; rw [hg _ _ e] at this; cases this
local macro_rules | `(tactic| walk_at "eval Name") => `(tactic| walk_at "shared 3")
set_option maxRecDepth 100000 in
set_option maxHeartbeats 8000000 in
theorem lead_spec {p : Program} {loose : List Str} {mean : ExcName → Option Value} {mg mb : Str → Option Value} {w : World} {A : Around} {s : Shared} {a : Addr} {vs : List Value} {ps : List Nat} {Q E : Value → Shared → Prop}
    (X : (hd.heap_1 w.params).In s.heap) (T : Top p loose mean mg mb s.heap) 
    (hl : s.heap.IsList a vs.toArray) (hi : IntsAre vs (ps.map Int.ofNat)) (hp3 : ∀ p ∈ ps, p ≤ 3) (hlen : ps.length = 10)
    (hh : A.handled = none) (hroom : A.depth + 8 < recursionLimit) (hu : A.units + 60 < cLine)
    (hQ : ∀ h' tk x, (∀ b o, s.heap.get? b = some o → h'.get? b = some o) → IsWs w s.heap h' x (histF ps) ps.length → Q (.ref x) { s with heap := h', toks := tk }) :
    wpAny (model PR w) A (call (.ref 183) [.ref a]) Q E s := by
  w_top off
  obtain ⟨hdl, dp, fr, gd, un⟩ := A
  obtain rfl : hdl = none := hh
  dsimp only at hroom hu
  refine wpAny_call ?_
  refine' enterP (binds := [("places", .ref a)]) (news := []) (h₀ := s.heap) X T (fun _ _ e => e) (fun _ h => nomatch h) ?k6 ?k7 ?k8 ?k9 ?kB ?_ ?c2 ?c3 ?c4 ?c5
  (case k6 => k_is)
  (case k7 => k_is)
  (case k8 => dsimp only; omega)
  (case k9 => exact BindsTo.of_eq rfl)
  (case c5 => decide)
  (case kB => exact locs rfl)
  (case c2 => exact rfl)
  (case c3 => exact rfl)
  (case c4 => exact rfl)
  intro g L' h₁ hg hg' F N X' T'
  replace hl : g.IsList a vs.toArray := stays_list (fun b o e => hg b o e) hl
  clear hg'
  have hszv : vs.toArray.size ≤ sizeLine := by rw [List.size_toArray, hi.length, List.length_map, hlen, sizeLine_eq]; decide
  walk_at "my walk"
  have hS : LCg.SrcAt g a vs.toArray [] := .inl hl
  refine rest_ind (fun j zs => LinesAre zs ((ps.take j).map wordL)) .nil ?_ ?_
  · intro j zs v I' oI' C oC D m₂ h tk E' hjn hzs hP hC hx F N off ne
    have hjn' : j < ps.length := by rw [List.size_toArray, hi.length, List.length_map] at hjn; exact hjn
    obtain ⟨kj, hkj⟩ : ∃ kj, ps[j]? = some kj := ⟨_, List.getElem?_eq_getElem hjn'⟩
    have hk3 : kj ≤ 3 := hp3 _ (List.mem_of_getElem? hkj)
    obtain ⟨tj, htj⟩ := hi.get j (kj : Int) (by rw [List.getElem?_map, hkj]; rfl)
    obtain rfl : v = Value.int kj tj := Option.some.inj (hP.symm.trans (by simpa using htj))
    have hnx : (ps.take (j + 1)).map wordL = (ps.take j).map wordL ++ [wordL kj] := by rw [List.take_add_one, hkj]; simp
    walk_at "my walk"
    refine sp_mul rfl (by omega) fun t4 k4 => ?_
    walk_at "my walk"
    refine add_l (b := [9]) rfl (by decide +kernel) (by simp only [List.length_replicate, List.length_cons, List.length_nil]; omega) fun t5 k5 => ?_
    walk_at "my walk"
    refine (?_ : LinesAre _ ((ps.take (j + 1)).map wordL))
    rw [hnx]
    exact hzs.snoc
  intro zs hzs
  replace hzs : LinesAre zs ((ps.take vs.toArray.size).map wordL) := hzs
  rw [List.size_toArray, hi.length, List.length_map, List.take_length] at hzs
  walk_at "my walk"
  rename News _ _ _ _ => N1
  rename Fr _ _ _ _ => F1
  have hfl : ((ps.map wordL).flatten).length ≤ 1000 := by have := words_len hp3; omega
  refine join_l (N1.isList (.head _)) hzs (by omega) fun t6 k6 => ?_
  walk_at "my walk"
  refine add_l (b := [120]) rfl (by decide +kernel) (by simp only [List.length_cons, List.length_nil]; omega) fun t5 k5 => ?_
  walk_at "my walk"
  generalize hraw : (List.map wordL ps).flatten ++ [120] = raw
  refine call_cls (fI := 97) F1 X' N1 (by k_is) (by k_is) (by k_is) ?_
  intro x dx h2 F2 N2 l2 l3
  have l4 := l2 _ (.head _)
  clear F1 N1
  refine' enterP (binds := [("self", .ref x), ("ws", .str ⟨raw.toArray⟩ t5)]) (news := [(x, instObj 142 dx), (dx, dictOf [] 0)]) (h₀ := g) X' T' F2.keep ?kN ?k6 ?k7 ?k8 ?k9 ?kB ?_ ?c2 ?c3 ?c4 ?c5
  (case kN => exact fun q hq => ⟨(N2 q (by simp only [List.mem_cons, List.not_mem_nil, or_false] at hq ⊢; rcases hq with rfl | rfl <;> simp)).1, (N2 q (by simp only [List.mem_cons, List.not_mem_nil, or_false] at hq ⊢; rcases hq with rfl | rfl <;> simp)).2.2⟩)
  (case k6 => k_is)
  (case k7 => k_is)
  (case k8 => (show dp + 1 + 1 < recursionLimit); omega)
  (case k9 => exact BindsTo.of_eq rfl)
  (case c5 => decide)
  (case kB => exact locs rfl)
  (case c2 => exact rfl)
  (case c3 => exact rfl)
  (case c4 => exact rfl)
  intro g2 L2 h3 hg2 hg2' F3 N3 X2 T2
  clear l2
  k_lt2 l3
  walk_at "my walk"
  clear hg2'
  rename News _ _ _ _ => N4
  rename Fr _ _ _ _ => F4
  refine wpAny_For ?_ (by intro _; rfl)
  walk_at "my walk"
  rename News _ _ _ _ => N5
  rename Fr _ _ _ _ => F5
  have hasc : ∀ c ∈ raw, c < 128 := by
    intro c hc
    rw [← hraw] at hc
    rcases List.mem_append.mp hc with h1 | h1
    · rcases words_mem h1 with rfl | rfl <;> decide
    · rw [List.mem_singleton.mp h1]; decide
  have hch : ∀ i c, raw[i]? = some c → (c = 32 ∨ c = 9) ∧ i + 1 < raw.length ∨ c = 120 ∧ i + 1 = raw.length ∧ raw.take i = (ps.map wordL).flatten := by
    intro i c hc
    rw [← hraw] at hc ⊢
    rw [List.length_append, List.length_cons, List.length_nil]
    by_cases h : i < (ps.map wordL).flatten.length
    · rw [List.getElem?_append_left h] at hc
      exact .inl ⟨words_mem (List.mem_of_getElem? hc), by omega⟩
    · rw [List.getElem?_append_right (by omega)] at hc
      have : i - (ps.map wordL).flatten.length = 0 := by
        cases hq : i - (ps.map wordL).flatten.length with
        | zero => rfl
        | succ k => rw [hq] at hc; cases hc
      rw [this] at hc
      have hil : i = (ps.map wordL).flatten.length := by omega
      exact .inr ⟨(Option.some.inj hc).symm, by omega, by rw [hil, List.take_left']; rfl⟩
  have hrl : raw.length ≤ 1001 := by rw [← hraw, List.length_append, List.length_cons, List.length_nil]; omega
  have hr0 : 0 < raw.length := by rw [← hraw, List.length_append, List.length_cons, List.length_nil]; omega
  refine iterG_str (J := InitJ raw x dx _) rfl PassesOwn.never hasc F5 (drop2 N5) (InitJ.mk (cv := []) (b := 0) (n := 0) (nt := 0) ⟨by k_ne, by k_ne, by k_ne⟩ rfl rfl rfl rfl rfl rfl rfl .nil rfl hr0) ?_ ?_
  · rintro i c t' m₁ rest₁ h tk I oI hi' hc hoff1 ⟨Ca, cv, cn, count, b, n, nt, tS, tT, tb, tn, tt, rfl, hne, a1, a2, a3, a4, a5, a6, a7, a8, a9, a10⟩ F N
    obtain ⟨hne1, hne2, hne3⟩ := hne
    simp only [LCg.Off1, and_true] at hoff1
    clear F5 N5
    have hsl := scanW_len (l := raw.take i)
    rw [a9, List.length_take] at hsl
    dsimp only at hsl
    obtain ⟨rfl | rfl, hi2⟩ | ⟨rfl, hi2, hi3⟩ := hch i c hc
    · dsimp only [PostG]
      walk_at "my walk"
      rename Fr _ _ _ _ => F8
      rename News _ _ _ _ => N8
      refine init_end (Ca := Ca) (count := count) (b := b + 1) (n := n + 1) (nt := nt) F8 N8 (by lcg_sub) (by k_mem) (by k_mem) (by k_mem) ⟨by k_ne, by k_ne, by k_ne⟩ (by walk_at "my get") ⟨_, by walk_at "my get"⟩ ⟨_, by walk_at "my get"⟩ (by walk_at "my get") ⟨_, by walk_at "my get"⟩ ⟨_, by walk_at "my get"⟩ ⟨_, by walk_at "my get"⟩ (by assumption) ?_ (by omega) (off1' ⟨by k_ne, by k_ne, by k_ne, trivial⟩)
      rw [scanW_next hc, a9]
      rfl
    · dsimp only [PostG]
      walk_at "my walk"
      · have hkb : ((b : Int) - count.length + 1).toNat = b - count.length + 1 := by omega
        rename News _ _ _ _ => N7
        refine KM.mul (by k_asm) N7 (N7.isList (.head _)) (vs := [Value.int 0 _]) (.cons 0 _ .nil) (by omega) (by omega) (by simp only [List.length_cons, List.length_nil, hkb]; omega) ?_
        clear N7
        rename Fr _ _ _ _ => F7
        intro D2 h5 F' N' l1 hz _ _ _ _ _
        clear F7
        k_lt l1
        rw [hkb] at N' hz
        rw [show (List.replicate (b - count.length + 1) [(0 : Int)]).flatten = List.replicate (b - count.length + 1) 0 by simp] at hz
        (try dsimp only)
        generalize (List.replicate (b - count.length + 1) [Value.int 0 _]).flatten = zs at N' hz
        refine kmk_add_ints (by k_asm) (by k_asm) (by kmk_list) (by kmk_list) a8 hz ?_ (by rw [List.length_replicate, sizeLine_eq]; omega)
        rename Fr _ _ _ _ => F6
        rename News _ _ _ _ => N6
        intro D3 us h6 F' N' l1' hus
        clear F6 N6
        k_lt l1'
        (try dsimp only)
        have hl3 : (count ++ List.replicate (b - count.length + 1) 0).length = b + 1 := by rw [List.length_append, List.length_replicate]; omega
        have hbump : stepW (count, b, n, nt) 9 = ((count ++ List.replicate (b - count.length + 1) 0).set b ((count ++ List.replicate (b - count.length + 1) 0).getD b 0 + 1), 0, n + 1, nt + 1) := by
          simp [stepW, bumpC, show count.length ≤ b by omega]
        generalize count ++ List.replicate (b - count.length + 1) 0 = cnt2 at *
        have hb2 : (b : Int) < cnt2.length := by omega
        walk_at "my walk"
        dsimp only [PostG]
        rename Fr _ _ _ _ => F8
        rename News _ _ _ _ => N8
        refine init_end (Ca := D3) (count := cnt2.set b (cnt2.getD b 0 + 1)) (b := 0) (n := n + 1) (nt := nt + 1) F8 N8 (by lcg_sub) (by k_mem) (by k_mem) (by k_mem) ⟨by k_ne, by k_ne, by k_ne⟩ (by walk_at "my get") ⟨_, by walk_at "my get"⟩ ⟨_, by walk_at "my get"⟩ (by walk_at "my get") ⟨_, by walk_at "my get"⟩ ⟨_, by walk_at "my get"⟩ ⟨_, by walk_at "my get"⟩ (by assumption) ?_ (by omega) (off1' ⟨by k_ne, by k_ne, by k_ne, trivial⟩)
        rw [scanW_next hc, a9]
        exact hbump
      dsimp only [PostG]
      rename Fr _ _ _ _ => F8
      rename News _ _ _ _ => N8
      refine init_end (Ca := Ca) (count := count.set b (count.getD b 0 + 1)) (b := 0) (n := n + 1) (nt := nt + 1) F8 N8 (by lcg_sub) (by k_mem) (by k_mem) (by k_mem) ⟨by k_ne, by k_ne, by k_ne⟩ (by walk_at "my get") ⟨_, by walk_at "my get"⟩ ⟨_, by walk_at "my get"⟩ (by walk_at "my get") ⟨_, by walk_at "my get"⟩ ⟨_, by walk_at "my get"⟩ ⟨_, by walk_at "my get"⟩ (by assumption) ?_ (by omega) (off1' ⟨by k_ne, by k_ne, by k_ne, trivial⟩)
      rw [scanW_next hc, a9]
      simp [stepW, bumpC, show ¬ count.length ≤ b by omega]
    · dsimp only [PostG]
      walk_at "my walk"
      dsimp only [PostG]
      obtain ⟨n', hwords⟩ := scanW_words ps
      rw [hi3, hwords] at a9
      obtain ⟨rfl, rfl, rfl, rfl⟩ : histF ps = count ∧ 0 = b ∧ n' = n ∧ ps.length = nt := by simpa using a9
      clear a9 hwords
      have hszc : cv.toArray.size ≤ sizeLine := by rw [List.size_toArray, a8.length, sizeLine_eq]; omega
      walk_at "my walk"
      rename News _ _ _ _ => N9
      rename Fr _ _ _ _ => F9
      refine And.intro rfl ?_
      dsimp only
      exact hQ _ _ _ (fun b o e => F9.keep b o (hg2 b o (hg b o e))) (ws_end N9 (fun b o e => hg2 b o (hg b o e)) a8 ⟨by k_ne, by k_ne, by k_ne, by k_ne, by k_ne, by k_ne⟩)
  · rintro m₁ rest₁ h tk ⟨Ca, cv, cn, count, b, n, nt, tS, tT, tb, tn, tt, rfl, hne, a1, a2, a3, a4, a5, a6, a7, a8, a9, a10⟩ F N
    exact absurd a10 (Nat.lt_irrefl _)
end Mine
end

local macro_rules | `(tactic| walk_at "shared 16") => `(tactic| first | (with_reducible refine st8 ?_) | (with_reducible refine st4 ?_))

section
open PySem PySem.W PyProof.Rows PySem.Calls PySem.Spec PyProof.V
set_option Elab.async false
namespace Mine
local macro_rules | `(tactic| walk_at "my spare") => `(tactic| fail "none")
local macro_rules | `(tactic| walk_at "my spare") => `(tactic| fail "none")
local macro_rules | `(tactic| walk_at "my spare") => `(tactic| fail "none")
local macro_rules | `(tactic| walk_at "my spare") => `(tactic| fail "none")
local macro_rules | `(tactic| walk_at "my spare") => `(tactic| fail "none")
local macro_rules | `(tactic| walk_at "my spare") => `(tactic| fail "none")
local macro_rules | `(tactic| walk_at "my spare") => `(tactic| fail "none")
local macro_rules | `(tactic| walk_at "my spare") => `(tactic| fail "none")
local macro_rules | `(tactic| walk_at "my spare") => `(tactic| fail "none")
local macro_rules | `(tactic| walk_at "my spare") => `(tactic| fail "none")
local macro_rules | `(tactic| omega) => `(tactic| walk_at "shared 1")
local macro_rules | `(tactic| walk_at "my stop") => `(tactic| walk_at "shared 16")
local macro_rules | `(tactic| walk_at "my walk") => `(tactic| walk_at "shared 2")
theorem len_tup_ints {prog : Program} {w : World} {A : Around} {E : Value → Shared → Prop} {s : Shared} {t : Addr} {vs : List Value} {ns : List Int} {Q : Value → Shared → Prop} (ht : IsTup s.heap t vs.toArray) (hi : IntsAre vs ns) (hfit : ns.length ≤ 1000)
    (h : Q (.int (ns.length : Nat) (s.toks + 1)) { s with toks := s.toks + 1 + 1 }) : wpAny (model prog w) A (call (.builtin "len") [.ref t]) Q E s := by
  refine len_tuple ht (by rw [List.size_toArray, hi.length]; omega) ?_
  rw [List.size_toArray, hi.length]
  exact h
local macro_rules | `(tactic| walk_at "call builtin:len") => `(tactic| ((with_reducible show wpAny _ _ (call (Value.builtin "len") [Value.ref _]) _ _ _); refine len_tup_ints (News.isTup (by k_asm) (by k_mem)) (by assumption) (by omega) ?_))
theorem item_tup_ints {prog : Program} {w : World} {A : Around} {E : Value → Shared → Prop} {s : Shared} {value slice : PySem.Expr} {t : Addr} {vs : List Value} {ns : List Int} {k : Int} {u : Tok} {Q : Value → Shared → Prop} (ht : IsTup s.heap t vs.toArray) (hi : IntsAre vs ns)
    (h0 : 0 ≤ k) (h1 : k < ns.length) (hfit : ns.length ≤ 1000) (h : ∀ t', Q (.int (ns.getD k.toNat 0) t') s)
    (hs : subscripted slice false (.ref t) (.int k u) = operate [.ref t, .int k u] (getItem (.ref t) (.int k u)) := by with_unfolding_all rfl) :
    wpAny (model prog w) A (subscriptTail value slice (.ref t) (.int k u)) Q E s := by
  have hk : k.toNat < ns.length := by omega
  obtain ⟨t', e⟩ := hi.get k.toNat ns[k.toNat] (List.getElem?_eq_getElem hk)
  refine item_tupleT ht (by omega) (by omega) (j := k.toNat) ?_ e ?_ hs
  · rw [hi.length]
    exact seqIndex_of h0 h1
  · have := h t'
    rwa [show ns.getD k.toNat 0 = ns[k.toNat] by simp [List.getD, hk]] at this
local macro_rules | `(tactic| walk_at "subscriptTail") => `(tactic| ((with_reducible show wpAny _ _ (subscriptTail _ _ (Value.ref _) (Value.int _ _)) _ _ _); refine item_tup_ints (News.isTup (by k_asm) (by k_mem)) (by assumption) (by omega) (by omega) (by omega) ?_; intro _))
local macro_rules | `(tactic| walk_at "eval Name") => `(tactic| walk_at "shared 3")
local macro_rules | `(tactic| walk_at "my get") => `(tactic| walk_at "shared 14")
theorem rangeSize_nat' {a b : Nat} : Builtin.Range.rangeSize (a : Int) (b : Int) 1 = ((b - a : Nat) : Int) := by
  rw [rangeSize_one]; split <;> omega
/-- what indent_level adds up, from `size` on, the first `k` turns -/
def ilF (count : List Int) (size : Nat) : Nat → Int
  | 0 => 0
  | k + 1 => ilF count size k + Int.fdiv ((size : Int) + (k : Int)) size * count.getD (size + k) 0
set_option maxRecDepth 100000 in
set_option maxHeartbeats 8000000 in
theorem indent_spec {p : Program} {loose : List Str} {mean : ExcName → Option Value} {mg mb : Str → Option Value} {w : World} {A : Around} {s : Shared} {h₀ : Heap} {x : Addr} {count : List Int} {nt size : Nat} {tz : Tok} {Q E : Value → Shared → Prop}
    (X : (hd.heap_1 w.params).In h₀) (T : Top p loose mean mg mb h₀) (hk₀ : ∀ b o, h₀.get? b = some o → s.heap.get? b = some o)
    (hW : IsWs w h₀ s.heap x count nt) (hs : 1 ≤ size ∧ size ≤ 10) (hc : count.length ≤ 10)
    (hh : A.handled = none) (hroom : A.depth + 8 < recursionLimit) (hu : A.units + 60 < cLine)
    (hQ : ∀ h' tk t, (∀ b o, s.heap.get? b = some o → h'.get? b = some o) → Q (.int (size * (ilF count size (count.length - size) + nt)) t) { s with heap := h', toks := tk }) :
    wpAny (model PR w) A (call (.ref 111) [.ref x, .int size tz]) Q E s := by
  w_top off
  obtain ⟨hdl, dp, fr, gd, un⟩ := A
  obtain rfl : hdl = none := hh
  dsimp only at hroom hu
  obtain ⟨dx, Dn, Dt, cv, rs, n, sm, tb, t1, t2, t3, t4, t5, t6, t7, t8, hN, hi, n1, n2, n3, n4, n5, n6⟩ := hW
  refine wpAny_call ?_
  refine' enterP (binds := [("self", .ref x), ("tabsize", .int size tz)]) (news := [(Dn, tupO [Value.ref Dt, Value.int 0 tb]), (Dt, tupO cv), (x, instObj 142 dx), (dx, wsDict w rs n nt Dn sm t1 t2 t3 t4 t5 t6 t7 t8)]) (h₀ := h₀) X T hk₀ hN ?k6 ?k7 ?k8 ?k9 ?kB ?_ ?c2 ?c3 ?c4 ?c5
  (case k6 => k_is)
  (case k7 => k_is)
  (case k8 => dsimp only; omega)
  (case k9 => exact BindsTo.of_eq rfl)
  (case c5 => decide)
  (case kB => exact locs rfl)
  (case c2 => exact rfl)
  (case c3 => exact rfl)
  (case c4 => exact rfl)
  intro g L' h₁ hg hg' F N X' T'
  have hall : ∀ h, (∀ b o, g.get? b = some o → h.get? b = some o) → News g L' h [(Dn, tupO [Value.ref Dt, Value.int 0 tb]), (Dt, tupO cv), (x, instObj 142 dx), (dx, wsDict w rs n nt Dn sm t1 t2 t3 t4 t5 t6 t7 t8)] → ∀ b o, s.heap.get? b = some o → h.get? b = some o := by
    intro h hk hn b o e
    by_cases hb : b ∈ [(Dn, tupO [Value.ref Dt, Value.int 0 tb]), (Dt, tupO cv), (x, instObj 142 dx), (dx, wsDict w rs n nt Dn sm t1 t2 t3 t4 t5 t6 t7 t8)].map (·.1)
    · obtain ⟨q, hq, rfl⟩ := List.mem_map.mp hb
      have h1 := (hN q hq).1
      rw [e] at h1
      rw [Option.some.inj h1]
      exact (hn q hq).1
    · exact hk b o (hg' b o e hb)
  clear hg'
  have hcl : cv.length = count.length := hi.length
  walk_at "my walk"
  refine wpAny_For ?_ (by intro _; rfl)
  walk_at "my walk"
  rename Fr _ _ _ _ => F1
  rename News _ _ _ _ => N1
  rename IsRange _ _ _ _ _ _ _ _ => R1
  refine iterG_range (n := count.length - size) (J := fun i m nx => nx = [(Dn, tupO [Value.ref Dt, Value.int 0 tb]), (Dt, tupO cv), (x, instObj 142 dx), (dx, wsDict w rs n nt Dn sm t1 t2 t3 t4 t5 t6 t7 t8)] ∧ m "self" = some (.ref x) ∧ m "tabsize" = some (.int size tz) ∧ m "count" = some (.ref Dt) ∧ m "trailing" = some (.int 0 tb) ∧ ∃ t, m "il" = some (.int (ilF count size i) t))
    rfl PassesOwn.never R1 (small_one (by omega) (by omega) (by omega) (by omega)) rangeSize_nat' F1 N1 ⟨rfl, rfl, rfl, rfl, rfl, _, rfl⟩ ?_ ?_
  · rintro i t m₁ rest₁ h tk I oI hi' hoff1 ⟨rfl, a1, a2, a3, a4, til, a5⟩ F N
    simp only [LCg.Off1, and_true] at hoff1
    clear F1 N1 R1
    have hfd0 : 0 ≤ Int.fdiv ((size : Int) + (i : Int)) size := Int.fdiv_nonneg (by omega) (by omega)
    have hfd1 : Int.fdiv ((size : Int) + (i : Int)) size ≤ 20 := by
      rw [Int.fdiv_eq_ediv_of_nonneg _ (by omega)]
      exact Int.le_trans (Int.ediv_le_self _ (by omega)) (by omega)
    have hgd : count.getD ((size : Int) + (i : Int)).toNat 0 = count.getD (size + i) 0 := by rw [show ((size : Int) + (i : Int)).toNat = size + i by omega]
    dsimp only [PostG]
    walk_at "my walk"
    rename Fr _ _ _ _ => F8
    rename News _ _ _ _ => N8
    refine EndG.intro _ F8 N8 ?_ (by lcg_sub) ?_ ⟨rfl, by walk_at "my get", by walk_at "my get", by walk_at "my get", by walk_at "my get", ?_⟩
    · lcg_sub
    · exact off1' ⟨by k_ne, by k_ne, by k_ne, by k_ne, trivial⟩
    rw [ilF, ← hgd]
    exact ⟨_, if_pos rfl⟩
  · rintro m₁ rest₁ h tk ⟨rfl, a1, a2, a3, a4, til, a5⟩ F N
    clear F1 N1 R1
    dsimp only
    walk_at "my walk"
    dsimp only
    rw [Int.zero_add]
    exact hQ _ _ _ (hall _ (fun b o e => F.keep b o e) N)
end Mine
end

local macro_rules | `(tactic| walk_at "shared 17") => `(tactic| ((with_reducible show wpAny _ _ (call (Value.builtin "len") [Value.ref _]) _ _ _); refine len_tup_ints (News.isTup (by k_asm) (by k_mem)) (by assumption) (by omega) ?_))

local macro_rules | `(tactic| walk_at "shared 18") => `(tactic| ((with_reducible show wpAny _ _ (subscriptTail _ _ (Value.ref _) (Value.int _ _)) _ _ _); refine item_tup_ints (News.isTup (by k_asm) (by k_mem)) (by assumption) (by omega) (by omega) (by omega) ?_; intro _))

section
open PySem PySem.W PyProof.Rows PySem.Calls PySem.Spec PyProof.V
set_option Elab.async false
namespace Mine
local macro_rules | `(tactic| walk_at "my spare") => `(tactic| fail "none")
local macro_rules | `(tactic| walk_at "my spare") => `(tactic| fail "none")
local macro_rules | `(tactic| walk_at "my spare") => `(tactic| fail "none")
local macro_rules | `(tactic| walk_at "my spare") => `(tactic| fail "none")
local macro_rules | `(tactic| walk_at "my spare") => `(tactic| fail "none")
local macro_rules | `(tactic| walk_at "my spare") => `(tactic| fail "none")
local macro_rules | `(tactic| omega) => `(tactic| walk_at "shared 1")
local macro_rules | `(tactic| walk_at "my stop") => `(tactic| walk_at "shared 16")
local macro_rules | `(tactic| walk_at "my walk") => `(tactic| walk_at "shared 2")
local macro_rules | `(tactic| walk_at "call builtin:len") => `(tactic| walk_at "shared 17")
local macro_rules | `(tactic| walk_at "subscriptTail") => `(tactic| walk_at "shared 18")
local macro_rules | `(tactic| walk_at "eval Name") => `(tactic| walk_at "shared 3")
local macro_rules | `(tactic| walk_at "my get") => `(tactic| walk_at "shared 14")
set_option maxRecDepth 100000 in
set_option maxHeartbeats 8000000 in
theorem longest_spec {p : Program} {loose : List Str} {mean : ExcName → Option Value} {mg mb : Str → Option Value} {w : World} {A : Around} {s : Shared} {h₀ : Heap} {x : Addr} {count : List Int} {nt : Nat} {Q E : Value → Shared → Prop}
    (X : (hd.heap_1 w.params).In h₀) (T : Top p loose mean mg mb h₀) (hk₀ : ∀ b o, h₀.get? b = some o → s.heap.get? b = some o)
    (hW : IsWs w h₀ s.heap x count nt) (hc : 1 ≤ count.length ∧ count.length ≤ 10)
    (hh : A.handled = none) (hroom : A.depth + 8 < recursionLimit) (hu : A.units + 60 < cLine)
    (hQ : ∀ h' tk t, (∀ b o, s.heap.get? b = some o → h'.get? b = some o) → Q (.int ((count.length - 1 : Nat) : Int) t) { s with heap := h', toks := tk }) :
    wpAny (model PR w) A (call (.ref 104) [.ref x]) Q E s := by
  w_top off
  obtain ⟨hdl, dp, fr, gd, un⟩ := A
  obtain rfl : hdl = none := hh
  dsimp only at hroom hu
  obtain ⟨dx, Dn, Dt, cv, rs, n, sm, tb, t1, t2, t3, t4, t5, t6, t7, t8, hN, hi, n1, n2, n3, n4, n5, n6⟩ := hW
  refine wpAny_call ?_
  refine' enterP (binds := [("self", .ref x)]) (news := [(Dn, tupO [Value.ref Dt, Value.int 0 tb]), (Dt, tupO cv), (x, instObj 142 dx), (dx, wsDict w rs n nt Dn sm t1 t2 t3 t4 t5 t6 t7 t8)]) (h₀ := h₀) X T hk₀ hN ?k6 ?k7 ?k8 ?k9 ?kB ?_ ?c2 ?c3 ?c4 ?c5
  (case k6 => k_is)
  (case k7 => k_is)
  (case k8 => dsimp only; omega)
  (case k9 => exact BindsTo.of_eq rfl)
  (case c5 => decide)
  (case kB => exact locs rfl)
  (case c2 => exact rfl)
  (case c3 => exact rfl)
  (case c4 => exact rfl)
  intro g L' h₁ hg hg' F N X' T'
  have hall : ∀ h, (∀ b o, g.get? b = some o → h.get? b = some o) → News g L' h [(Dn, tupO [Value.ref Dt, Value.int 0 tb]), (Dt, tupO cv), (x, instObj 142 dx), (dx, wsDict w rs n nt Dn sm t1 t2 t3 t4 t5 t6 t7 t8)] → ∀ b o, s.heap.get? b = some o → h.get? b = some o := by
    intro h hk hn b o e
    by_cases hb : b ∈ [(Dn, tupO [Value.ref Dt, Value.int 0 tb]), (Dt, tupO cv), (x, instObj 142 dx), (dx, wsDict w rs n nt Dn sm t1 t2 t3 t4 t5 t6 t7 t8)].map (·.1)
    · obtain ⟨q, hq, rfl⟩ := List.mem_map.mp hb
      have h1 := (hN q hq).1
      rw [e] at h1
      rw [Option.some.inj h1]
      exact (hn q hq).1
    · exact hk b o (hg' b o e hb)
  clear hg'
  have hcl : cv.length = count.length := hi.length
  walk_at "my walk"
  rename Fr _ _ _ _ => F1
  rename News _ _ _ _ => N1
  have e : (if 0 > (count.length : Int) - 1 then 0 else (count.length : Int) - 1) = ((count.length - 1 : Nat) : Int) := by split <;> omega
  rw [e]
  exact hQ _ _ _ (hall _ (fun b o e => F1.keep b o e) N1)
end Mine
end

section
open PySem PySem.W PyProof.Rows PySem.Calls PySem.Spec PyProof.V
set_option Elab.async false
namespace Mine
local macro_rules | `(tactic| walk_at "my spare") => `(tactic| fail "none")
local macro_rules | `(tactic| walk_at "my spare") => `(tactic| fail "none")
local macro_rules | `(tactic| walk_at "my spare") => `(tactic| fail "none")
local macro_rules | `(tactic| walk_at "my spare") => `(tactic| fail "none")
local macro_rules | `(tactic| walk_at "my spare") => `(tactic| fail "none")
local macro_rules | `(tactic| walk_at "my spare") => `(tactic| fail "none")
local macro_rules | `(tactic| walk_at "my spare") => `(tactic| fail "none")
local macro_rules | `(tactic| omega) => `(tactic| walk_at "shared 1")
local macro_rules | `(tactic| walk_at "my stop") => `(tactic| first | (with_reducible refine st8 ?_) | (with_reducible refine st4 ?_) | (with_reducible refine st17 ?_))
local macro_rules | `(tactic| walk_at "my walk") => `(tactic| walk_at "shared 2")
local macro_rules | `(tactic| walk_at "call builtin:len") => `(tactic| walk_at "shared 17")
local macro_rules | `(tactic| walk_at "subscriptTail") => `(tactic| walk_at "shared 18")
local macro_rules | `(tactic| walk_at "eval Name") => `(tactic| walk_at "shared 3")
local macro_rules | `(tactic| walk_at "my get") => `(tactic| walk_at "shared 14")
def normD (count : List Int) : PyData := .tuple [.tuple (count.map .int), .int 0]
theorem reads_norm {h : Heap} {Dn Dt : Addr} {cv : List Value} {count : List Int} {tb : Tok} (h1 : h.get? Dn = some (tupO [Value.ref Dt, Value.int 0 tb])) (h2 : h.get? Dt = some (tupO cv)) (hi : IntsAre cv count) : Reads h (.ref Dn) (normD count) [] :=
  .tuple h1 rfl rfl (.cons (as := []) (bs := []) (.tuple h2 rfl rfl (hi.reads h)) (.cons (as := []) (bs := []) (.int 0 tb) .nil))
theorem shaped_norm (count : List Int) : SeqAt.shaped (normD count) = true := by
  simp [normD, SeqAt.shaped, PyData.canLay0, PyData.canLayAll0, PyData.depth, PyData.depthAll, ke_canLayAll0, ke_depthAll]
theorem eqv_norm (a b : List Int) : PyData.eqv (normD a) (normD b) = decide (a = b) := by
  simp [normD, PyData.eqv, PyData.eqvAll, ked_eqvAll]
set_option maxRecDepth 100000 in
set_option maxHeartbeats 8000000 in
theorem equal_spec {p : Program} {loose : List Str} {mean : ExcName → Option Value} {mg mb : Str → Option Value} {w : World} {A : Around} {s : Shared} {h₀ : Heap} {x x' : Addr} {count count' : List Int} {nt nt' : Nat} {Q E : Value → Shared → Prop}
    (X : (hd.heap_1 w.params).In h₀) (T : Top p loose mean mg mb h₀) (hk₀ : ∀ b o, h₀.get? b = some o → s.heap.get? b = some o)
    (hW : IsWs w h₀ s.heap x count nt) (hW' : IsWs w h₀ s.heap x' count' nt') (hc : 1 ≤ count.length ∧ count.length ≤ 10) (hc' : 1 ≤ count'.length ∧ count'.length ≤ 10)
    (hh : A.handled = none) (hroom : A.depth + 8 < recursionLimit) (hu : A.units + 100 < cLine)
    (hQ : ∀ h' tk, (∀ b o, s.heap.get? b = some o → h'.get? b = some o) → Q (.bool (decide (count = count'))) { s with heap := h', toks := tk }) :
    wpAny (model PR w) A (call (.ref 118) [.ref x, .ref x']) Q E s := by
  w_top off
  obtain ⟨hdl, dp, fr, gd, un⟩ := A
  obtain rfl : hdl = none := hh
  dsimp only at hroom hu
  obtain ⟨dx, Dn, Dt, cv, rs, n, sm, tb, t1, t2, t3, t4, t5, t6, t7, t8, hN, hi, n1, n2, n3, n4, n5, n6⟩ := hW
  obtain ⟨dx', Dn', Dt', cv', rs', n', sm', tb', t1', t2', t3', t4', t5', t6', t7', t8', hN', hi', n1', n2', n3', n4', n5', n6'⟩ := hW'
  refine wpAny_call ?_
  refine' enterP (binds := [("self", .ref x), ("other", .ref x')]) (news := [(Dn, tupO [Value.ref Dt, Value.int 0 tb]), (Dt, tupO cv), (x, instObj 142 dx), (dx, wsDict w rs n nt Dn sm t1 t2 t3 t4 t5 t6 t7 t8), (Dn', tupO [Value.ref Dt', Value.int 0 tb']), (Dt', tupO cv'), (x', instObj 142 dx'), (dx', wsDict w rs' n' nt' Dn' sm' t1' t2' t3' t4' t5' t6' t7' t8')]) (h₀ := h₀) X T hk₀ (fun q hq => (List.mem_append.mp (show q ∈ [(Dn, tupO [Value.ref Dt, Value.int 0 tb]), (Dt, tupO cv), (x, instObj 142 dx), (dx, wsDict w rs n nt Dn sm t1 t2 t3 t4 t5 t6 t7 t8)] ++ [(Dn', tupO [Value.ref Dt', Value.int 0 tb']), (Dt', tupO cv'), (x', instObj 142 dx'), (dx', wsDict w rs' n' nt' Dn' sm' t1' t2' t3' t4' t5' t6' t7' t8')] from hq)).elim (hN q) (hN' q)) ?k6 ?k7 ?k8 ?k9 ?kB ?_ ?c2 ?c3 ?c4 ?c5
  (case k6 => k_is)
  (case k7 => k_is)
  (case k8 => dsimp only; omega)
  (case k9 => exact BindsTo.of_eq rfl)
  (case c5 => decide)
  (case kB => exact locs rfl)
  (case c2 => exact rfl)
  (case c3 => exact rfl)
  (case c4 => exact rfl)
  intro g L' h₁ hg hg' F N X' T'
  have hNN : ∀ q ∈ [(Dn, tupO [Value.ref Dt, Value.int 0 tb]), (Dt, tupO cv), (x, instObj 142 dx), (dx, wsDict w rs n nt Dn sm t1 t2 t3 t4 t5 t6 t7 t8), (Dn', tupO [Value.ref Dt', Value.int 0 tb']), (Dt', tupO cv'), (x', instObj 142 dx'), (dx', wsDict w rs' n' nt' Dn' sm' t1' t2' t3' t4' t5' t6' t7' t8')], s.heap.get? q.1 = some q.2 ∧ h₀.get? q.1 = none := fun q hq => (List.mem_append.mp (show q ∈ [(Dn, tupO [Value.ref Dt, Value.int 0 tb]), (Dt, tupO cv), (x, instObj 142 dx), (dx, wsDict w rs n nt Dn sm t1 t2 t3 t4 t5 t6 t7 t8)] ++ [(Dn', tupO [Value.ref Dt', Value.int 0 tb']), (Dt', tupO cv'), (x', instObj 142 dx'), (dx', wsDict w rs' n' nt' Dn' sm' t1' t2' t3' t4' t5' t6' t7' t8')] from hq)).elim (hN q) (hN' q)
  have hall : ∀ b o, s.heap.get? b = some o → h₁.get? b = some o := by
    intro b o e
    by_cases hb : b ∈ [(Dn, tupO [Value.ref Dt, Value.int 0 tb]), (Dt, tupO cv), (x, instObj 142 dx), (dx, wsDict w rs n nt Dn sm t1 t2 t3 t4 t5 t6 t7 t8), (Dn', tupO [Value.ref Dt', Value.int 0 tb']), (Dt', tupO cv'), (x', instObj 142 dx'), (dx', wsDict w rs' n' nt' Dn' sm' t1' t2' t3' t4' t5' t6' t7' t8')].map (·.1)
    · obtain ⟨q, hq, rfl⟩ := List.mem_map.mp hb
      have h1 := (hNN q hq).1
      rw [e] at h1
      rw [Option.some.inj h1]
      exact (N q hq).1
    · exact F.keep b o (hg' b o e hb)
  clear hg' hNN hN hN'
  have hu' : un + 100 < cLine := hu
  walk_at "my walk"
  refine eq_dataH (reads_norm (N.get (by k_mem)) (N.get (by k_mem)) hi) (reads_norm (N.get (by k_mem)) (N.get (by k_mem)) hi') (shaped_norm _) (shaped_norm _) (by ke_room) ?_
  dsimp only
  rw [eqv_norm]
  exact hQ _ _ hall
end Mine
end

section
open PySem PySem.W PyProof.Rows PySem.Calls PySem.Spec PyProof.V
set_option Elab.async false
namespace Mine
section
variable {prog : Program} {w : World} {A : Around} {E : Value → Shared → Prop} {s : Shared} {h₀ : Heap} {L t : Addr} {m : Str → Option Value} {news : List (Addr × Obj)}
theorem sum_listG {xs : Array (Int × Tok)} {Q : Value → Shared → Prop} (hh : A.handled = none) (ht : s.heap.IsList t (intItems xs))
    (h : ∀ h' tk t', (∀ b o, s.heap.get? b = some o → h'.get? b = some o) → Q (.int (preSum (numAt xs) xs.size) t') { s with heap := h', toks := tk }) :
    wpAny (model prog w) A (call (.builtin "sum") [.ref t]) Q E s := by
  obtain ⟨o, ho, hc, n, hd⟩ := id ht
  have hne : t ≠ s.heap.objs.size := Nat.ne_of_lt (Heap.lt_size ho)
  have hsz : (intItems xs).size = xs.size := by simp [intItems]
  have W := (Walks.list (prog := prog) (w := w) (A := A.in1) hh s.heap.objs.size t hne (intItems xs)).toS
  rw [hsz] at W
  refine call_sum_walkAnyS (wpAny_pyIter_list ht ?_)
  refine ⟨s.heap.objs.size, _, _, _, _, _, _, numAt xs, rfl, W, ⟨⟨_, Heap.get?_push_size _ rfl, rfl, rfl⟩, ht.at fun o e => Heap.get?_push_of_some _ e⟩, fun b hb => ?_, fun i v hP => intItems_at hP, fun s' t' hm => ?_⟩
  · rcases List.mem_cons.mp hb with rfl | hb
    · exact Heap.lt_size (Heap.get?_push_size _ rfl)
    · obtain rfl := List.mem_singleton.mp hb
      exact Heap.lt_size (Heap.get?_push_of_some _ ho)
  · obtain ⟨h', g', d', tk', os'⟩ := s'
    have e1 : g' = s.gens := hm.gens
    have e2 : d' = s.drawn := hm.drawn
    have e3 : os' = s.os := hm.os
    subst e1 e2 e3
    exact h h' tk' t' fun b o e => hm.heap b o (fun hb => absurd (Heap.lt_size e) ((List.mem_singleton.mp hb) ▸ Nat.lt_irrefl _)) (Heap.get?_push_of_some _ e)
/-- sum of a list of ints: some int -/
theorem sum_some {vs : List Value} {ns : List Int} {Q : Value → Shared → Prop} (hh : A.handled = none) (F : Fr h₀ L s.heap m) (N : News h₀ L s.heap news) (hl : s.heap.IsList t vs.toArray) (hi : IntsAre vs ns)
    (h : ∀ h' tk v t', Fr h₀ L h' m → News h₀ L h' news → Q (.int v t') { s with heap := h', toks := tk }) :
    wpAny (model prog w) A (call (.builtin "sum") [.ref t]) Q E s := by
  obtain ⟨xs, hx⟩ := hi.allInts.items
  rw [hx] at hl
  exact sum_listG hh hl fun h' tk t' hk => h h' tk _ t' (F.keeps hk) (N.grown hk)
theorem sum_someA {items : Array Value} {ns : List Int} {Q : Value → Shared → Prop} (hh : A.handled = none) (F : Fr h₀ L s.heap m) (N : News h₀ L s.heap news) (hl : s.heap.IsList t items) (hi : IntsAre items.toList ns)
    (h : ∀ h' tk v t', Fr h₀ L h' m → News h₀ L h' news → Q (.int v t') { s with heap := h', toks := tk }) :
    wpAny (model prog w) A (call (.builtin "sum") [.ref t]) Q E s :=
  sum_some (vs := items.toList) hh F N (by simpa using hl) hi h
end
end Mine
end

section
open PySem PySem.W PyProof.Rows
set_option Elab.async false
namespace Mine
local macro_rules | `(tactic| omega) => `(tactic| walk_at "shared 1")
/-- the names asked so far, the newest first -/
def hist (ns : List Int) (i : Nat) : List Int := (ns.take i).reverse ++ [3, 2, 1, 0]
def ag (ns : List Int) (i : Nat) (k : Int) : Nat := (hist ns i).idxOf k
def R4 : List Int := [0, 1, 2, 3]
theorem hist_succ {ns : List Int} {i : Nat} {c : Int} (h : ns[i]? = some c) : hist ns (i + 1) = c :: hist ns i := by
  unfold hist
  rw [List.take_add_one, h]
  simp
theorem mem_hist {ns : List Int} {i : Nat} {k : Int} (hk : k ∈ R4) : k ∈ hist ns i := by
  refine List.mem_append_right _ ?_
  revert hk; revert k; decide
theorem hist_len {ns : List Int} {i : Nat} (hi : i ≤ ns.length) : (hist ns i).length = i + 4 := by
  unfold hist
  simp only [List.length_append, List.length_reverse, List.length_take, List.length_cons, List.length_nil]
  omega
theorem ag_lt {ns : List Int} {i : Nat} {k : Int} (hk : k ∈ R4) (hi : i ≤ ns.length) : ag ns i k < i + 4 := by
  have := List.idxOf_lt_length_iff.mpr (mem_hist (ns := ns) (i := i) hk)
  rw [hist_len hi] at this
  exact this
theorem ag_inj {ns : List Int} {i : Nat} {a b : Int} (ha : a ∈ R4) (hb : b ∈ R4) (h : ag ns i a = ag ns i b) : a = b := by
  have h1 := List.getElem_idxOf (List.idxOf_lt_length_iff.mpr (mem_hist (ns := ns) (i := i) ha))
  have h2 := List.getElem_idxOf (List.idxOf_lt_length_iff.mpr (mem_hist (ns := ns) (i := i) hb))
  unfold ag at h
  rw [← h1, ← h2]
  congr 1
theorem ag_succ {ns : List Int} {i : Nat} {c k : Int} (h : ns[i]? = some c) : ag ns (i + 1) k = if k = c then 0 else ag ns i k + 1 := by
  unfold ag
  rw [hist_succ h, List.idxOf_cons]
  by_cases e : k = c
  · subst e; simp
  · have : (c == k) = false := by simpa using fun h => e h.symm
    rw [this, if_neg e]; rfl
theorem asks_at {ns : List Int} {i : Nat} {c : Int} (h : ns[i]? = some c) : (0 :: 1 :: 2 :: 3 :: ns).getD ((4 : Int) + (i : Int)).toNat 0 = c := by
  rw [show ((4 : Int) + (i : Int)).toNat = i + 1 + 1 + 1 + 1 by omega]
  simp [List.getD, h]
def agI (ns : List Int) (i : Nat) (c : Nat) : List Int := [((ag ns i 0 + c : Nat) : Int), ((ag ns i 1 + c : Nat) : Int), ((ag ns i 2 + c : Nat) : Int), ((ag ns i 3 + c : Nat) : Int)]
theorem agI_at {ns : List Int} {i c j : Nat} (h : j < 4) : (agI ns i c)[j]? = some ((ag ns i (j : Int) : Int) + (c : Int)) := by
  match j, h with
  | 0, _ => simp [agI]
  | 1, _ => simp [agI]
  | 2, _ => simp [agI]
  | 3, _ => simp [agI]
theorem agI_step {ns : List Int} {i c j : Nat} {zs : List Value} {v : Int} {t : Tok} (h : j < 4) (hz : IntsAre zs ((agI ns i c).take j)) (hv : v = (ag ns i (j : Int) : Int) + (c : Int)) : IntsAre (zs ++ [Value.int v t]) ((agI ns i c).take (j + 1)) := by
  rw [List.take_add_one, agI_at h, hv]
  exact hz.append (.cons _ _ .nil)
theorem R4_nat {c : Int} (h : c ∈ R4) : ∃ n : Nat, c = (n : Int) ∧ n < 4 := by
  simp only [R4, List.mem_cons, List.not_mem_nil, or_false] at h
  exact ⟨c.toNat, by omega, by omega⟩
theorem nat_R4 {n : Nat} (h : n < 4) : (n : Int) ∈ R4 := by
  match n, h with
  | 0, _ => decide
  | 1, _ => decide
  | 2, _ => decide
  | 3, _ => decide
theorem agI_getD {ns : List Int} {i c n : Nat} (h : n < 4) : (agI ns i c).getD n 0 = ((ag ns i (n : Int) + c : Nat) : Int) := by
  rw [List.getD_eq_getElem?_getD, agI_at h]
  simp
theorem agI_distinct {ns : List Int} {i c : Nat} : ∀ a b : Int, 0 ≤ a → a < 4 → 0 ≤ b → b < 4 → a ≠ b → (agI ns i c).getD a.toNat 0 ≠ (agI ns i c).getD b.toNat 0 := by
  intro a b h1 h2 h3 h4 hne he
  rw [agI_getD (by omega), agI_getD (by omega)] at he
  have e1 : ((a.toNat : Nat) : Int) = a := by omega
  have e2 : ((b.toNat : Nat) : Int) = b := by omega
  have : ag ns i a = ag ns i b := by rw [e1, e2] at he; omega
  exact hne (ag_inj (e1 ▸ nat_R4 (by omega)) (e2 ▸ nat_R4 (by omega)) this)
theorem agI_bound {ns : List Int} {i : Nat} (hi : i < 10) (hn : ns.length = 10) : ∀ k : Int, 0 ≤ k → k < 4 → 2 ≤ (agI ns i 2).getD k.toNat 0 ∧ (agI ns i 2).getD k.toNat 0 ≤ 14 := by
  intro k h1 h2
  rw [agI_getD (by omega)]
  have := ag_lt (ns := ns) (i := i) (k := ((k.toNat : Nat) : Int)) (nat_R4 (by omega)) (by omega)
  omega
theorem R4_of {n : Int} (h : 0 ≤ n ∧ n < 4) : n ∈ R4 := by
  simp only [R4, List.mem_cons, List.not_mem_nil, or_false]
  omega
end Mine
end

section
open PySem PySem.W PyProof.Rows
set_option Elab.async false
namespace Mine
local macro_rules | `(tactic| omega) => `(tactic| walk_at "shared 1")
def stk (ns : List Int) (i : Nat) : List Int := (ns.take i).foldl mtf [3, 2, 1, 0]
theorem stk_succ {ns : List Int} {i : Nat} {c : Int} (h : ns[i]? = some c) : stk ns (i + 1) = mtf (stk ns i) c := by
  unfold stk
  rw [List.take_add_one, h, List.foldl_append]
  rfl
theorem stk_perm {ns : List Int} (hns : ∀ n ∈ ns, n ∈ R4) (i : Nat) : List.Perm (stk ns i) [0, 1, 2, 3] :=
  foldl_mtf_perm (by decide) fun n hn => hns n (List.mem_of_mem_take hn)
theorem stk_sorted {ns : List Int} (hns : ∀ n ∈ ns, n ∈ R4) : ∀ i, i ≤ ns.length → (stk ns i).Pairwise (fun a b => ag ns i a < ag ns i b)
  | 0, _ => by
    show ([3, 2, 1, 0] : List Int).Pairwise _
    unfold ag hist
    simp only [List.take_zero, List.reverse_nil, List.nil_append]
    decide
  | i + 1, hi => by
    have ih := stk_sorted hns i (by omega)
    obtain ⟨c, hc⟩ : ∃ c, ns[i]? = some c := ⟨_, List.getElem?_eq_getElem (by omega)⟩
    rw [stk_succ hc, mtf]
    refine List.pairwise_cons.mpr ⟨?_, ?_⟩
    · intro b hb
      have hbc : b ≠ c := by simpa using (List.mem_filter.mp hb).2
      rw [ag_succ hc, ag_succ hc, if_pos rfl, if_neg hbc]
      omega
    · refine (List.Pairwise.filter _ ih).imp_of_mem ?_
      intro a b ha hb hab
      have hac : a ≠ c := by simpa using (List.mem_filter.mp ha).2
      have hbc : b ≠ c := by simpa using (List.mem_filter.mp hb).2
      rw [ag_succ hc, ag_succ hc, if_neg hac, if_neg hbc]
      omega
theorem countP_idx {f : Int → Nat} {c : Int} : ∀ {l : List Int}, l.Pairwise (fun a b => f a < f b) → c ∈ l → l.countP (fun k => decide (f k < f c)) = l.idxOf c
  | a :: r, hp, hm => by
    have h1 := List.pairwise_cons.mp hp
    rw [List.countP_cons, List.idxOf_cons]
    by_cases e : a = c
    · subst e
      have : r.countP (fun k => decide (f k < f a)) = 0 := by
        rw [List.countP_eq_zero]
        intro b hb
        have := h1.1 b hb
        simp; omega
      simp [this]
    · have hm' : c ∈ r := by rcases List.mem_cons.mp hm with h | h; exact absurd h.symm e; exact h
      have := h1.1 c hm'
      rw [countP_idx h1.2 hm']
      have e2 : (a == c) = false := by simpa using e
      simp [this, e2]
theorem place_eq {ns : List Int} {i c : Nat} (hns : ∀ n ∈ ns, n ∈ R4) (hi : i ≤ ns.length) (hc : c < 4) : cntLt (agI ns i 2) ((agI ns i 2).getD (c : Int).toNat 0) = idxI (stk ns i) (c : Int) := by
  have h0 : (agI ns i 2).getD (c : Int).toNat 0 = ((ag ns i (c : Int) + 2 : Nat) : Int) := agI_getD (n := c) hc
  rw [h0]
  have h1 : cntLt (agI ns i 2) ((ag ns i (c : Int) + 2 : Nat) : Int) = ([0, 1, 2, 3] : List Int).countP (fun k => decide (ag ns i k < ag ns i (c : Int))) := by
    have e : agI ns i 2 = ([0, 1, 2, 3] : List Int).map fun k => ((ag ns i k + 2 : Nat) : Int) := rfl
    unfold cntLt
    rw [e, List.countP_map]
    apply List.countP_congr
    intro k _
    simp
  rw [h1, ← (stk_perm hns i).countP_eq]
  exact countP_idx (stk_sorted hns i hi) ((stk_perm hns i).mem_iff.mpr (nat_R4 hc))
theorem places_snoc {ns : List Int} {i : Nat} {c : Int} (h : ns[i]? = some c) : placesOf [3, 2, 1, 0] (ns.take (i + 1)) = placesOf [3, 2, 1, 0] (ns.take i) ++ [(idxI (stk ns i) c : Int)] := by
  rw [List.take_add_one, h]
  exact placesOf_snoc
theorem agI_next {ns : List Int} {i j c : Nat} {x : Int} (hc : ns[i]? = some (c : Int)) (hj : j < 4) (hx : x = if ((0 : Int) + (j : Int)) = (c : Int) then 1 else (agI ns i 2).getD j 0) : (agI ns (i + 1) 1)[j]? = some x := by
  rw [agI_at hj, ag_succ hc, hx, agI_getD hj]
  by_cases e : (j : Int) = (c : Int)
  · rw [if_pos e, if_pos (by omega)]; rfl
  · rw [if_neg e, if_neg (by omega)]; simp; omega
end Mine
end

section
open PySem PySem.W PyProof.Rows
set_option Elab.async false
namespace Mine
local macro_rules | `(tactic| omega) => `(tactic| walk_at "shared 1")
/-- how many places are not below `s` -/
def mge (ps : List Int) (s : Int) : Nat := ps.countP fun p => decide (s ≤ p)
theorem cnt_split (s : Int) : ∀ ps : List Int, ps.length = cntLt ps s + mge ps s
  | [] => rfl
  | p :: r => by
    have := cnt_split s r
    unfold cntLt mge at *
    rw [List.countP_cons, List.countP_cons, List.length_cons]
    by_cases h : p < s
    · have h2 : ¬ s ≤ p := by omega
      simp only [h, h2, decide_true, decide_false, if_true, Bool.false_eq_true, if_false]; omega
    · have h2 : s ≤ p := by omega
      simp only [h, h2, decide_true, decide_false, if_true, Bool.false_eq_true, if_false]; omega
theorem mge_perm {a b : List Int} (h : a.Perm b) (s : Int) : mge a s = mge b s := h.countP_eq _
def mis3 (P : List Int) : List Int := [(mge P 1 : Int), (mge P 2 : Int), (mge P 3 : Int)]
theorem mis3_at {P : List Int} {j : Nat} (h : j < 3) : (mis3 P)[j]? = some (mge P (1 + (j : Int)) : Int) := by
  match j, h with
  | 0, _ => rfl
  | 1, _ => rfl
  | 2, _ => rfl
theorem missed_at {P kept : List Int} {j : Nat} {v : Int} (hp : kept.Perm P) (h : j < 3) (hv : v = (kept.length : Int) - (cntLt kept (1 + (j : Int)) : Nat)) : (mis3 P)[j]? = some v := by
  rw [mis3_at h, hv, ← mge_perm hp, cnt_split (1 + (j : Int)) kept]
  simp
  omega
/-- the store of size `s` holds the first `s` of the row, the oldest first -/
theorem keepS_mtf : ∀ a ∈ R4, ∀ b ∈ R4, ∀ c ∈ R4, ∀ d ∈ R4, ([a, b, c, d] : List Int).isPerm [0, 1, 2, 3] = true → ∀ n ∈ R4, ∀ s ∈ [1, 2, 3],
    keepS (([a, b, c, d] : List Int).take s).reverse n = ((mtf [a, b, c, d] n).take s).reverse ∧ (([a, b, c, d] : List Int).take s).reverse.contains n = decide (([a, b, c, d] : List Int).idxOf n < s) := by
  decide +kernel
theorem perm_four {l : List Int} (h : l.Perm [0, 1, 2, 3]) : ∃ a b c d, l = [a, b, c, d] ∧ a ∈ R4 ∧ b ∈ R4 ∧ c ∈ R4 ∧ d ∈ R4 := by
  match l, h.length_eq with
  | [a, b, c, d], _ => exact ⟨a, b, c, d, rfl, h.mem_iff.mp (by simp), h.mem_iff.mp (by simp), h.mem_iff.mp (by simp), h.mem_iff.mp (by simp)⟩
theorem keepS_perm {l : List Int} {n : Int} {s : Nat} (h : l.Perm [0, 1, 2, 3]) (hn : n ∈ R4) (hs : s ∈ [1, 2, 3]) : keepS (l.take s).reverse n = ((mtf l n).take s).reverse ∧ (l.take s).reverse.contains n = decide (l.idxOf n < s) := by
  obtain ⟨a, b, c, d, rfl, ha, hb, hc, hd⟩ := perm_four h
  exact keepS_mtf a ha b hb c hc d hd (List.isPerm_iff.mpr h) n hn s hs
theorem misses_go {s : Nat} (hs : s ∈ [1, 2, 3]) : ∀ (ns l : List Int), l.Perm [0, 1, 2, 3] → (∀ n ∈ ns, n ∈ R4) → missesOf (l.take s).reverse ns = mge (placesOf l ns) (s : Int)
  | [], _, _, _ => rfl
  | n :: r, l, hl, hn => by
    have hk := keepS_perm hl (hn n (.head _)) hs
    rw [missesOf, hk.1, hk.2, misses_go hs r (mtf l n) (mtf_perm hl (hn n (.head _))) fun k hk => hn k (.tail _ hk), placesOf]
    unfold mge idxI
    rw [List.countP_cons]
    by_cases h : l.idxOf n < s
    · have h2 : ¬ (s : Int) ≤ ((l.idxOf n : Nat) : Int) := by omega
      simp only [h, h2, decide_true, decide_false, if_true, Bool.false_eq_true, if_false]; omega
    · have h2 : (s : Int) ≤ ((l.idxOf n : Nat) : Int) := by omega
      simp only [h, h2, decide_true, decide_false, if_true, Bool.false_eq_true, if_false]; omega
theorem misses_at {ns : List Int} {j : Nat} (hn : ∀ n ∈ ns, n ∈ R4) (h : j < 3) : (mis3 (placesOf [3, 2, 1, 0] ns))[j]? = some ((missesOf (([0, 1, 2, 3] : List Int).drop (4 - ((1 : Int) + (j : Int))).toNat) ns : Nat) : Int) := by
  rw [mis3_at h]
  match j, h with
  | 0, _ => exact congrArg (fun x : Nat => some (x : Int)) (misses_go (s := 1) (by decide) ns [3, 2, 1, 0] (by decide) hn).symm
  | 1, _ => exact congrArg (fun x : Nat => some (x : Int)) (misses_go (s := 2) (by decide) ns [3, 2, 1, 0] (by decide) hn).symm
  | 2, _ => exact congrArg (fun x : Nat => some (x : Int)) (misses_go (s := 3) (by decide) ns [3, 2, 1, 0] (by decide) hn).symm
end Mine
namespace Mine
def placesN (l ns : List Int) : List Nat := (placesOf l ns).map Int.toNat
theorem placesOf_nat : ∀ (ns l : List Int), placesOf l ns = (placesN l ns).map Int.ofNat
  | [], _ => rfl
  | n :: r, l => by
    unfold placesN
    rw [placesOf, List.map_cons, List.map_cons]
    have := placesOf_nat r (mtf l n)
    unfold placesN at this
    rw [← this]
    rfl
theorem placesN_len (l ns : List Int) : (placesN l ns).length = ns.length := by rw [placesN, List.length_map, placesOf_length]
theorem placesN_le : ∀ (ns l : List Int), l.Perm [0, 1, 2, 3] → (∀ n ∈ ns, n ∈ R4) → ∀ p ∈ placesN l ns, p ≤ 3
  | [], _, _, _, _, hp => nomatch hp
  | n :: r, l, hl, hn, p, hp => by
    unfold placesN at hp
    rw [placesOf, List.map_cons] at hp
    rcases List.mem_cons.mp hp with rfl | hp
    · have h1 := List.idxOf_lt_length_iff.mpr (hl.mem_iff.mpr (hn n (.head _)))
      rw [hl.length_eq] at h1
      have h2 : l.idxOf n < 4 := h1
      show (Int.toNat ((l.idxOf n : Nat) : Int)) ≤ 3
      omega
    · exact placesN_le r (mtf l n) (mtf_perm hl (hn n (.head _))) (fun k hk => hn k (.tail _ hk)) p hp
end Mine
namespace Mine
def lowF (p : Nat) : Nat := if 2 < p then 2 else p
theorem low_eq (ps : List Nat) : (ps.map Int.ofNat).map (fun k' => if 2 < k' then 2 else k') = (ps.map lowF).map Int.ofNat := by
  rw [List.map_map, List.map_map]
  apply List.map_congr_left
  intro p _
  show (if (2 : Int) < (p : Int) then (2 : Int) else (p : Int)) = ((lowF p : Nat) : Int)
  unfold lowF
  by_cases h : 2 < p
  · rw [if_pos h, if_pos (by omega)]; rfl
  · rw [if_neg h, if_neg (by omega)]
theorem low_le (ps : List Nat) : ∀ p ∈ ps.map lowF, p ≤ 3 := by
  intro p hp
  obtain ⟨q, _, rfl⟩ := List.mem_map.mp hp
  unfold lowF
  split <;> omega
end Mine
end

section
open PySem PySem.W PyProof.Rows
set_option Elab.async false
namespace Mine
local macro_rules | `(tactic| omega) => `(tactic| walk_at "shared 1")
/-- how many names were asked since `y` was, the newest first -/
def nN (h : List Int) (y : Int) : Nat := R4.countP fun k => decide (h.idxOf k < h.idxOf y)
def gG : List Int → List Int → List Nat
  | _, [] => []
  | h, y :: r => (if y ∈ h then [nN h y] else []) ++ gG (y :: h) r
def tT (x : List Int) : List Nat := gG [] x
theorem gG_snoc (y : Int) : ∀ (x h : List Int), gG h (x ++ [y]) = gG h x ++ (if y ∈ x.reverse ++ h then [nN (x.reverse ++ h) y] else [])
  | [], h => by
    by_cases e : y ∈ h <;> simp [gG, e]
  | z :: r, h => by
    rw [List.cons_append, gG, gG, gG_snoc y r (z :: h), List.append_assoc]
    have : (z :: r).reverse ++ h = r.reverse ++ z :: h := by simp
    rw [this]
theorem tT_snoc (x : List Int) (y : Int) : tT (x ++ [y]) = tT x ++ (if y ∈ x then [nN x.reverse y] else []) := by
  rw [tT, gG_snoc, List.append_nil]
  by_cases h : y ∈ x
  · rw [if_pos h, if_pos (List.mem_reverse.mpr h)]; rfl
  · rw [if_neg h, if_neg (fun q => h (List.mem_reverse.mp q))]; rfl
theorem nN_app {x : List Int} {y z : Int} (hy : y ∈ x) : nN (x ++ [z]) y = nN x y := by
  unfold nN
  apply List.countP_congr
  intro k _
  have e : (x ++ [z]).idxOf y = x.idxOf y := by rw [List.idxOf_append, if_pos hy]
  rw [decide_eq_true_iff, decide_eq_true_iff, e]
  by_cases hk : k ∈ x
  · rw [List.idxOf_append, if_pos hk]
  · have h1 := List.idxOf_lt_length_iff.mpr hy
    rw [List.idxOf_append, if_neg hk, List.idxOf_eq_length hk]
    omega
theorem nN_new {x : List Int} {y : Int} (hy : y ∉ x) : nN (x ++ [y]) y = R4.countP fun k => decide (k ∈ x) := by
  unfold nN
  apply List.countP_congr
  intro k _
  have e : (x ++ [y]).idxOf y = x.length := by rw [List.idxOf_append, if_neg hy]; simp
  rw [decide_eq_true_iff, decide_eq_true_iff, e]
  by_cases hk : k ∈ x
  · rw [List.idxOf_append, if_pos hk]
    exact ⟨fun _ => hk, fun _ => List.idxOf_lt_length_iff.mpr hk⟩
  · rw [List.idxOf_append, if_neg hk]
    exact ⟨fun q => by omega, fun q => absurd q hk⟩
theorem mem_rev_app {x : List Int} {y z : Int} : z ∈ (y :: x) ↔ z ∈ x ∨ z = y := by
  rw [List.mem_cons]; exact Or.comm
theorem snoc_ind {motive : List Int → Prop} (nil : motive []) (snoc : ∀ x z, motive x → motive (x ++ [z])) (x : List Int) : motive x := by
  have : ∀ n (x : List Int), x.length = n → motive x := by
    intro n
    induction n with
    | zero => intro x hx; rw [List.eq_nil_of_length_eq_zero hx]; exact nil
    | succ n ih =>
      intro x hx
      have hne : x ≠ [] := by intro e; rw [e] at hx; cases hx
      rw [← List.dropLast_concat_getLast hne]
      exact snoc _ _ (ih _ (by rw [List.length_dropLast, hx]; rfl))
  exact this _ x rfl
theorem tT_cons (y : Int) (x : List Int) : (tT (y :: x)).Perm (tT x ++ (if y ∈ x then [nN x y] else [])) := by
  refine snoc_ind (motive := fun x => (tT (y :: x)).Perm (tT x ++ (if y ∈ x then [nN x y] else []))) ?_ ?_ x
  · simp [tT, gG]
  · intro x z ih
    rw [← List.cons_append, tT_snoc (y :: x) z, tT_snoc x z]
    refine (ih.append_right _).trans ?_
    rw [List.append_assoc, List.append_assoc]
    refine List.Perm.append_left _ ?_
    have er : (y :: x).reverse = x.reverse ++ [y] := by simp
    rw [er]
    by_cases hy : y ∈ x
    · by_cases hz : z ∈ x
      · rw [if_pos hy, if_pos hz, if_pos (List.mem_cons_of_mem _ hz), if_pos (List.mem_append_left _ hy), nN_app (List.mem_reverse.mpr hz), nN_app hy]
        exact List.Perm.swap _ _ _
      · have h1 : z ∉ y :: x := fun q => (List.mem_cons.mp q).elim (fun e => hz (e ▸ hy)) hz
        rw [if_pos hy, if_neg hz, if_neg h1, if_pos (List.mem_append_left _ hy), nN_app hy]
        exact List.Perm.refl _
    · by_cases hz : z ∈ x
      · have h1 : y ∉ x ++ [z] := fun q => (List.mem_append.mp q).elim hy fun e => hy (List.mem_singleton.mp e ▸ hz)
        rw [if_neg hy, if_pos hz, if_pos (List.mem_cons_of_mem _ hz), if_neg h1, nN_app (List.mem_reverse.mpr hz)]
        exact List.Perm.refl _
      · by_cases e : y = z
        · subst e
          rw [if_neg hy, if_neg hy, if_pos (List.mem_cons_self ..), if_pos (List.mem_append_right _ (List.mem_singleton.mpr rfl)), nN_new hy, nN_new (fun q => hy (List.mem_reverse.mp q))]
          have : (R4.countP fun k => decide (k ∈ x.reverse)) = R4.countP fun k => decide (k ∈ x) := by simp
          rw [this]
        · have h1 : z ∉ y :: x := fun q => (List.mem_cons.mp q).elim (fun h => e h.symm) hz
          have h2 : y ∉ x ++ [z] := fun q => (List.mem_append.mp q).elim hy fun h => e (List.mem_singleton.mp h)
          rw [if_neg hy, if_neg hz, if_neg h1, if_neg h2]
theorem tT_rev : ∀ x : List Int, (tT x.reverse).Perm (tT x)
  | [] => List.Perm.refl _
  | y :: x => by
    have e : (y :: x).reverse = x.reverse ++ [y] := by simp
    rw [e, tT_snoc]
    refine ((tT_rev x).append_right _).trans ?_
    refine List.Perm.trans ?_ (tT_cons y x).symm
    rw [List.reverse_reverse]
    by_cases h : y ∈ x
    · rw [if_pos h, if_pos (List.mem_reverse.mpr h)]
    · rw [if_neg h, if_neg (fun q => h (List.mem_reverse.mp q))]
theorem rel_step {l h : List Int} {c : Int} (hp : l.Pairwise (fun a b => h.idxOf a < h.idxOf b)) : (mtf l c).Pairwise (fun a b => (c :: h).idxOf a < (c :: h).idxOf b) := by
  have e : ∀ {k : Int}, k ≠ c → (c :: h).idxOf k = h.idxOf k + 1 := by
    intro k hk
    have : (c == k) = false := by simpa using fun q => hk q.symm
    rw [List.idxOf_cons, this]; rfl
  refine List.pairwise_cons.mpr ⟨?_, ?_⟩
  · intro b hb
    have hbc : b ≠ c := by simpa using (List.mem_filter.mp hb).2
    rw [e hbc]
    simp
  · refine (List.Pairwise.filter _ hp).imp_of_mem ?_
    intro a b ha hb hab
    have hac : a ≠ c := by simpa using (List.mem_filter.mp ha).2
    have hbc : b ≠ c := by simpa using (List.mem_filter.mp hb).2
    rw [e hac, e hbc]
    omega
theorem places_G : ∀ (ns l h : List Int), l.Perm [0, 1, 2, 3] → l.Pairwise (fun a b => h.idxOf a < h.idxOf b) → (∀ k ∈ R4, k ∈ h) → (∀ n ∈ ns, n ∈ R4) → placesN l ns = gG h ns
  | [], _, _, _, _, _, _ => rfl
  | n :: r, l, h, hl, hp, hh, hn => by
    have hnR := hn n (.head _)
    have ih := places_G r (mtf l n) (n :: h) (mtf_perm hl hnR) (rel_step hp) (fun k hk => .tail _ (hh k hk)) fun k hk => hn k (.tail _ hk)
    unfold placesN at ih ⊢
    rw [placesOf, List.map_cons, ih, gG, if_pos (hh n hnR)]
    have e : nN h n = l.idxOf n := by
      unfold nN
      rw [show R4 = [0, 1, 2, 3] from rfl, ← hl.countP_eq]
      exact countP_idx hp (hl.mem_iff.mpr hnR)
    rw [e]
    rfl
theorem fwd_T (ns : List Int) (hn : ∀ n ∈ ns, n ∈ R4) : placesN [3, 2, 1, 0] ns = tT ([0, 1, 2, 3] ++ ns) := by
  rw [places_G ns [3, 2, 1, 0] [3, 2, 1, 0] (by decide) (by decide) (by decide) hn]
  simp [tT, gG]
theorem bwd_T {a b c d : Int} (r : List Int) (hp : ([a, b, c, d] : List Int).Perm [0, 1, 2, 3]) (hn : ∀ n ∈ r, n ∈ R4) : placesN [a, b, c, d] r = tT ([d, c, b, a] ++ r) := by
  have hnd : ([a, b, c, d] : List Int).Nodup := hp.nodup_iff.mpr (by decide)
  simp only [List.nodup_cons, List.mem_cons, List.not_mem_nil, or_false, not_or, not_false_eq_true, List.nodup_nil, and_true] at hnd
  obtain ⟨⟨h1, h2, h3⟩, ⟨h4, h5⟩, h6⟩ := hnd
  rw [places_G r [a, b, c, d] [a, b, c, d] hp ?_ (fun k hk => hp.mem_iff.mpr hk) hn]
  · simp [tT, gG, h1, h2, h3, h4, h5, h6, Ne.symm h1, Ne.symm h2, Ne.symm h3, Ne.symm h4, Ne.symm h5, Ne.symm h6]
  · have b1 : (a == b) = false := by simpa using h1
    have b2 : (a == c) = false := by simpa using h2
    have b3 : (a == d) = false := by simpa using h3
    have b4 : (b == c) = false := by simpa using h4
    have b5 : (b == d) = false := by simpa using h5
    have b6 : (c == d) = false := by simpa using h6
    simp [List.idxOf_cons, b1, b2, b3, b4, b5, b6]
theorem back_perm {ms : List Int} {a b c d : Int} (hp : ([a, b, c, d] : List Int).Perm [0, 1, 2, 3]) (hn : ∀ n ∈ ms ++ [a, b, c, d], n ∈ R4) (hb : ∀ n ∈ ms.reverse ++ [3, 2, 1, 0], n ∈ R4) :
    (placesN [a, b, c, d] (ms.reverse ++ [3, 2, 1, 0])).Perm (placesN [3, 2, 1, 0] (ms ++ [a, b, c, d])) := by
  rw [fwd_T _ hn, bwd_T _ hp hb]
  have e : [d, c, b, a] ++ (ms.reverse ++ [3, 2, 1, 0]) = ([0, 1, 2, 3] ++ (ms ++ [a, b, c, d])).reverse := by simp
  rw [e]
  exact tT_rev _
end Mine
end

section
open PySem PySem.W PyProof.Rows PySem.Calls PySem.Spec PyProof.V
set_option Elab.async false
namespace Mine
local macro_rules | `(tactic| omega) => `(tactic| walk_at "shared 1")
theorem wAll_le : ∀ (l : List Int), (∀ n ∈ l, n ∈ R4) → PyData.weightAll (l.map .int) ≤ 100 * l.length
  | [], _ => by decide
  | n :: r, h => by
    have h1 := wAll_le r fun k hk => h k (.tail _ hk)
    have h2 := h n (.head _)
    simp only [List.map_cons, PyData.weightAll, List.length_cons]
    have h3 : PyData.weight (.int n) ≤ 99 := by
      simp only [R4, List.mem_cons, List.not_mem_nil, or_false] at h2
      rcases h2 with rfl | rfl | rfl | rfl <;> decide
    omega
theorem lay_small {l : List Int} (h : ∀ n ∈ l, n ∈ R4) (hl : l.length ≤ 1000) : PyData.layable0 (.list (l.map .int)) = true := by
  have hw := wAll_le l h
  show (PyData.canLay0 (.list (l.map .int)) && decide (PyData.depth (.list (l.map .int)) ≤ 64) && decide (PyData.weight (.list (l.map .int)) ≤ 2 ^ 20)) = true
  rw [Bool.and_eq_true, Bool.and_eq_true]
  refine ⟨⟨?_, ?_⟩, decide_eq_true ?_⟩
  · simp only [PyData.canLay0, PyProof.Rows.canLayAll_ints]
  · simp only [PyData.depth, PyProof.Rows.depthAll_ints]
    decide
  · simp only [PyData.weight]
    omega
theorem rev_asks {ns : List Int} {i : Nat} : (List.take ((4 : Int) + (i : Int)).toNat (0 :: 1 :: 2 :: 3 :: ns)).reverse = hist ns i := by
  rw [show ((4 : Int) + (i : Int)).toNat = i + 1 + 1 + 1 + 1 by omega]
  simp [hist]
theorem hist_R4 {ns : List Int} {i : Nat} (h : ∀ n ∈ ns, n ∈ R4) : ∀ n ∈ hist ns i, n ∈ R4 := by
  intro n hn
  rcases List.mem_append.mp hn with h1 | h1
  · exact h n (List.mem_of_mem_take (List.mem_reverse.mp h1))
  · simp only [R4, List.mem_cons, List.not_mem_nil, or_false] at h1 ⊢
    omega
section
variable {prog : Program} {w : World} {A : Around} {E : Value → Shared → Prop} {s : Shared} {t u : Tok} {Q : Value → Shared → Prop}
theorem item_ends {value slice : PySem.Expr} {D : Addr} {t0 t1 t2 : Tok} {k : Int} (ht : IsTup s.heap D #[.str (Str.ofString "\n") t0, .str (Str.ofString "\r") t1, .str (Str.ofString "\r\n") t2]) (h0 : 0 ≤ k) (h3 : k < 3)
    (h : ∀ e t', IsE e → Q (.str ⟨e.toArray⟩ t') s)
    (hs : subscripted slice false (.ref D) (.int k u) = operate [.ref D, .int k u] (getItem (.ref D) (.int k u)) := by with_unfolding_all rfl) :
    wpAny (model prog w) A (subscriptTail value slice (.ref D) (.int k u)) Q E s := by
  obtain rfl | rfl | rfl : k = 0 ∨ k = 1 ∨ k = 2 := by omega
  · refine item_tupleT (l := [.str (Str.ofString "\n") t0, .str (Str.ofString "\r") t1, .str (Str.ofString "\r\n") t2]) ht (by decide) (by decide) (j := 0) (by rfl) (by rfl) ?_ hs
    have q := h [10] t0 .feed
    rwa [show (⟨[10].toArray⟩ : Str) = Str.ofString "\n" from by decide +kernel] at q
  · refine item_tupleT (l := [.str (Str.ofString "\n") t0, .str (Str.ofString "\r") t1, .str (Str.ofString "\r\n") t2]) ht (by decide) (by decide) (j := 1) (by rfl) (by rfl) ?_ hs
    have q := h [13] t1 .ret
    rwa [show (⟨[13].toArray⟩ : Str) = Str.ofString "\r" from by decide +kernel] at q
  · refine item_tupleT (l := [.str (Str.ofString "\n") t0, .str (Str.ofString "\r") t1, .str (Str.ofString "\r\n") t2]) ht (by decide) (by decide) (j := 2) (by rfl) (by rfl) ?_ hs
    have q := h [13, 10] t2 .both
    rwa [show (⟨[13, 10].toArray⟩ : Str) = Str.ofString "\r\n" from by decide +kernel] at q
theorem IsE.len {e : List Nat} (h : IsE e) : e.length ≤ 2 := by cases h <;> decide
theorem fmod3 (a : Int) : 0 ≤ a.fmod 3 ∧ a.fmod 3 < 3 := ⟨by rw [Int.fmod_eq_emod_of_nonneg _ (by decide)]; exact Int.emod_nonneg _ (by decide), Int.fmod_lt_of_pos _ (by decide)⟩
end
end Mine
namespace Mine
theorem mail_specX {p : Program} {loose : List Str} {mean : ExcName → Option Value} {mg mb : Str → Option Value} {w : World} {A : Around} {s : Shared} {a : Addr} {d0 d1 d2 d3 : Nat} {vs : List Value} {x : Str} {te : Tok} {Q E : Value → Shared → Prop}
    (X : (hd.heap_1 w.params).In s.heap) (T : Top p loose mean mg mb s.heap) (hx : x = Str.ofString "\r\n")
    (hl : s.heap.IsList a vs.toArray) (hi : IntsAre vs [(d0 : Int), (d1 : Int), (d2 : Int), (d3 : Int)]) (hb : d0 + d1 + d2 + d3 ≤ 1000)
    (hh : A.handled = none) (hroom : A.depth + 6 < recursionLimit) (hu : A.units + 40 < cLine)
    (hQ : ∀ h' tk t, (∀ b o, s.heap.get? b = some o → h'.get? b = some o) → Q (.str (mailS d0 d1 d2 d3 [13, 10]) t) { s with heap := h', toks := tk }) :
    wpAny (model PR w) A (call (.ref 156) [.ref a, .str x te]) Q E s := by
  subst hx
  rw [show Str.ofString "\r\n" = ⟨[13, 10].toArray⟩ from by decide +kernel]
  exact mail_spec X T hl hi hb (by decide) hh hroom hu hQ
end Mine
namespace Mine
theorem jR4 {j : Nat} (h : j < 4) : (0 : Int) + (j : Int) ∈ R4 := by
  obtain rfl | rfl | rfl | rfl : j = 0 ∨ j = 1 ∨ j = 2 ∨ j = 3 := by omega
  all_goals decide
end Mine
namespace Mine
/-- two addresses that differ, hidden from omega -/
def Apart (a b : Nat) : Prop := a ≠ b
theorem Apart.ne {a b : Nat} (h : Apart a b) : a ≠ b := h
theorem Apart.ne' {a b : Nat} (h : Apart a b) : b ≠ a := fun e => h e.symm
theorem apart_I {I p1 p2 p3 p4 p5 p6 p7 p8 p9 : Addr} {q1 q2 q3 q4 q5 q6 q7 q8 q9 : Obj} (h : LCg.Off1 I [(p1, q1), (p2, q2), (p3, q3), (p4, q4), (p5, q5), (p6, q6), (p7, q7), (p8, q8), (p9, q9)]) :
    Apart p1 I ∧ Apart p2 I ∧ Apart p3 I ∧ Apart p4 I ∧ Apart p5 I ∧ Apart p6 I ∧ Apart p7 I ∧ Apart p8 I ∧ Apart p9 I := by
  obtain ⟨h1, h2, h3, h4, h5, h6, h7, h8, h9, _⟩ := h
  exact ⟨h1, h2, h3, h4, h5, h6, h7, h8, h9⟩
theorem apart_ord {L As To Ke : Addr} (h : @LT.lt Nat _ (L + 1 + 1 + 1 + 1 + 1 + 1) As ∧ @LT.lt Nat _ As To ∧ @LT.lt Nat _ To Ke) :
    (Apart As To ∧ Apart As Ke ∧ Apart To Ke) ∧
    (Apart As (L + 1 + 1 + 1 + 1 + 1 + 1) ∧ Apart As (L + 1 + 1 + 1 + 1 + 1) ∧ Apart As (L + 1 + 1 + 1 + 1) ∧ Apart As (L + 1 + 1 + 1) ∧ Apart As (L + 1 + 1)) ∧
    (Apart To (L + 1 + 1 + 1 + 1 + 1 + 1) ∧ Apart To (L + 1 + 1 + 1 + 1 + 1) ∧ Apart To (L + 1 + 1 + 1 + 1) ∧ Apart To (L + 1 + 1 + 1) ∧ Apart To (L + 1 + 1)) ∧
    (Apart Ke (L + 1 + 1 + 1 + 1 + 1 + 1) ∧ Apart Ke (L + 1 + 1 + 1 + 1 + 1) ∧ Apart Ke (L + 1 + 1 + 1 + 1) ∧ Apart Ke (L + 1 + 1 + 1) ∧ Apart Ke (L + 1 + 1)) := by
  obtain ⟨h1, h2, h3⟩ := h
  unfold Apart Addr at *
  exact ⟨⟨by omega, by omega, by omega⟩, ⟨by omega, by omega, by omega, by omega, by omega⟩, ⟨by omega, by omega, by omega, by omega, by omega⟩, ⟨by omega, by omega, by omega, by omega, by omega⟩⟩
end Mine
namespace Mine
theorem drop1 {h₀ h : Heap} {L : Addr} {a : Addr × Obj} {r : List (Addr × Obj)} (N : News h₀ L h (a :: r)) : News h₀ L h r := fun p hp => N p (.tail _ hp)
theorem News.sub {h₀ h : Heap} {L : Addr} {a b : List (Addr × Obj)} (N : News h₀ L h a) (hs : ∀ p ∈ b, p ∈ a) : News h₀ L h b := fun p hp => N p (hs p hp)
def LawJ (L As To Ke : Addr) (us : List Value) (ns : List Int) (turn : Int) (tt : Tok) (i : Nat) (m : Str → Option Value) (nx : List (Addr × Obj)) : Prop :=
  ∃ (Do : Addr) (dv tv kv : List Value) (dn tn kn : Nat) (kept : List Int) (v4 v5 v6 : Option Value) (c2 c3 c4 c5 c6 : Obj),
    nx = [(Do, listOf dv.toArray dn), (Ke, listOf kv.toArray kn), (To, listOf tv.toArray tn), (As, listOf us.toArray 0), (L + 1 + 1 + 1 + 1 + 1 + 1, c6), (L + 1 + 1 + 1 + 1 + 1, c5), (L + 1 + 1 + 1 + 1, c4), (L + 1 + 1 + 1, c3), (L + 1 + 1, c2)] ∧
    (Apart Do Ke ∧ Apart Do To ∧ Apart Do As ∧ Apart Do (L + 1 + 1 + 1 + 1 + 1 + 1) ∧ Apart Do (L + 1 + 1 + 1 + 1 + 1) ∧ Apart Do (L + 1 + 1 + 1 + 1) ∧ Apart Do (L + 1 + 1 + 1) ∧ Apart Do (L + 1 + 1)) ∧
    (c2.data = Data.cell (some (.ref As)) ∧ c3.data = Data.cell (some (.ref Ke)) ∧ c4.data = Data.cell v4 ∧ c5.data = Data.cell v5 ∧ c6.data = Data.cell v6) ∧
    (m "told" = some (.ref To) ∧ m "dots" = some (.ref Do) ∧ m "turn" = some (.int turn tt)) ∧
    IntsAre dv (agI ns i 1) ∧ IntsAre tv (placesOf [3, 2, 1, 0] (ns.take i)) ∧ IntsAre kv kept ∧ kept.Pairwise (· ≤ ·) ∧ kept.Perm (placesOf [3, 2, 1, 0] (ns.take i))
theorem LawJ.mk {L As To Ke Do : Addr} {us dv tv kv : List Value} {dn tn kn : Nat} {ns kept : List Int} {turn : Int} {tt : Tok} {i : Nat} {m : Str → Option Value} {v4 v5 v6 : Option Value} {c2 c3 c4 c5 c6 : Obj}
    (ne : Apart Do Ke ∧ Apart Do To ∧ Apart Do As ∧ Apart Do (L + 1 + 1 + 1 + 1 + 1 + 1) ∧ Apart Do (L + 1 + 1 + 1 + 1 + 1) ∧ Apart Do (L + 1 + 1 + 1 + 1) ∧ Apart Do (L + 1 + 1 + 1) ∧ Apart Do (L + 1 + 1))
    (a : c2.data = Data.cell (some (.ref As)) ∧ c3.data = Data.cell (some (.ref Ke)) ∧ c4.data = Data.cell v4 ∧ c5.data = Data.cell v5 ∧ c6.data = Data.cell v6)
    (b : m "told" = some (.ref To) ∧ m "dots" = some (.ref Do) ∧ m "turn" = some (.int turn tt))
    (c : IntsAre dv (agI ns i 1)) (d : IntsAre tv (placesOf [3, 2, 1, 0] (ns.take i))) (e : IntsAre kv kept) (f : kept.Pairwise (· ≤ ·)) (g : kept.Perm (placesOf [3, 2, 1, 0] (ns.take i))) :
    LawJ L As To Ke us ns turn tt i m [(Do, listOf dv.toArray dn), (Ke, listOf kv.toArray kn), (To, listOf tv.toArray tn), (As, listOf us.toArray 0), (L + 1 + 1 + 1 + 1 + 1 + 1, c6), (L + 1 + 1 + 1 + 1 + 1, c5), (L + 1 + 1 + 1 + 1, c4), (L + 1 + 1 + 1, c3), (L + 1 + 1, c2)] :=
  ⟨_, _, _, _, _, _, _, _, _, _, _, _, _, _, _, _, rfl, ne, a, b, c, d, e, f, g⟩
theorem pick_ledger {h₀ h : Heap} {L Ke To Do As : Addr} {oK oT oD oA c6 c5 c4 c3 c2 c1 : Obj} {x1 x2 x3 x4 x5 : Addr × Obj}
    (N : News h₀ L h [(Ke, oK), (To, oT), (Do, oD), (As, oA), x1, x2, x3, x4, x5, (L + 1 + 1 + 1 + 1 + 1 + 1, c6), (L + 1 + 1 + 1 + 1 + 1, c5), (L + 1 + 1 + 1 + 1, c4), (L + 1 + 1 + 1, c3), (L + 1 + 1, c2), (L + 1, c1)]) :
    News h₀ L h [(Do, oD), (Ke, oK), (To, oT), (As, oA), (L + 1 + 1 + 1 + 1 + 1 + 1, c6), (L + 1 + 1 + 1 + 1 + 1, c5), (L + 1 + 1 + 1 + 1, c4), (L + 1 + 1 + 1, c3), (L + 1 + 1, c2)] :=
  News.sub N (by intro p hp; simp only [List.mem_cons, List.not_mem_nil, or_false] at hp ⊢; rcases hp with rfl | rfl | rfl | rfl | rfl | rfl | rfl | rfl | rfl <;> simp)
theorem ord_of {h₀ h : Heap} {L Ke To Do As : Addr} {oK oT oD oA c6 c5 c4 c3 c2 : Obj}
    (_N : News h₀ L h [(Do, oD), (Ke, oK), (To, oT), (As, oA), (L + 1 + 1 + 1 + 1 + 1 + 1, c6), (L + 1 + 1 + 1 + 1 + 1, c5), (L + 1 + 1 + 1 + 1, c4), (L + 1 + 1 + 1, c3), (L + 1 + 1, c2)])
    (h1 : @LT.lt Nat _ (L + 1 + 1 + 1 + 1 + 1 + 1) As) (h2 : @LT.lt Nat _ As To) (h3 : @LT.lt Nat _ To Ke) : @LT.lt Nat _ (L + 1 + 1 + 1 + 1 + 1 + 1) As ∧ @LT.lt Nat _ As To ∧ @LT.lt Nat _ To Ke := ⟨h1, h2, h3⟩
theorem ne_of {h₀ h : Heap} {L Ke To Do As : Addr} {oK oT oD oA c6 c5 c4 c3 c2 : Obj}
    (_N : News h₀ L h [(Do, oD), (Ke, oK), (To, oT), (As, oA), (L + 1 + 1 + 1 + 1 + 1 + 1, c6), (L + 1 + 1 + 1 + 1 + 1, c5), (L + 1 + 1 + 1 + 1, c4), (L + 1 + 1 + 1, c3), (L + 1 + 1, c2)])
    (ne : @Ne Nat Do Ke ∧ @Ne Nat Do To ∧ @Ne Nat Do As ∧ @Ne Nat Do (L + 1 + 1 + 1 + 1 + 1 + 1) ∧ @Ne Nat Do (L + 1 + 1 + 1 + 1 + 1) ∧ @Ne Nat Do (L + 1 + 1 + 1 + 1) ∧ @Ne Nat Do (L + 1 + 1 + 1) ∧ @Ne Nat Do (L + 1 + 1)) :
    (Apart Do Ke ∧ Apart Do To ∧ Apart Do As ∧ Apart Do (L + 1 + 1 + 1 + 1 + 1 + 1) ∧ Apart Do (L + 1 + 1 + 1 + 1 + 1) ∧ Apart Do (L + 1 + 1 + 1 + 1) ∧ Apart Do (L + 1 + 1 + 1) ∧ Apart Do (L + 1 + 1)) := ne
end Mine
namespace Mine
theorem law_end {g h h' : Heap} {s : Shared} {L A6 I Do Do' Ke To As : Addr} {oI oD oy c6 c5 c4 c3 c2 : Obj} {us ds kv tv : List Value} {kn tn tk tk' : Nat} {ns kept : List Int} {turn : Int} {tt : Tok} {i : Nat} {m : Str → Option Value} {v4 v5 v6 : Option Value} {v : Value}
    (F : Fr g L h' m) (N : News g L h' [(Do', LCg.lst ds), (A6, oy), (I, oI), (Do, oD), (Ke, listOf kv.toArray kn), (To, listOf (tv.toArray.push v) tn), (As, listOf us.toArray 0), (L + 1 + 1 + 1 + 1 + 1 + 1, c6), (L + 1 + 1 + 1 + 1 + 1, c5), (L + 1 + 1 + 1 + 1, c4), (L + 1 + 1 + 1, c3), (L + 1 + 1, c2)])
    (o : Apart A6 Do' ∧ Apart I Do' ∧ Apart Do Do' ∧ Apart Ke Do' ∧ Apart To Do' ∧ Apart As Do' ∧ Apart (L + 1 + 1 + 1 + 1 + 1 + 1) Do' ∧ Apart (L + 1 + 1 + 1 + 1 + 1) Do' ∧ Apart (L + 1 + 1 + 1 + 1) Do' ∧ Apart (L + 1 + 1 + 1) Do' ∧ Apart (L + 1 + 1) Do')
    (p : Apart Ke I ∧ Apart To I ∧ Apart As I ∧ Apart (L + 1 + 1 + 1 + 1 + 1 + 1) I ∧ Apart (L + 1 + 1 + 1 + 1 + 1) I ∧ Apart (L + 1 + 1 + 1 + 1) I ∧ Apart (L + 1 + 1 + 1) I ∧ Apart (L + 1 + 1) I)
    (a : c2.data = Data.cell (some (.ref As)) ∧ c3.data = Data.cell (some (.ref Ke)) ∧ c4.data = Data.cell v4 ∧ c5.data = Data.cell v5 ∧ c6.data = Data.cell v6)
    (b : m "told" = some (.ref To) ∧ m "dots" = some (.ref Do') ∧ m "turn" = some (.int turn tt))
    (c : IntsAre ds (agI ns (i + 1) 1)) (d : IntsAre (tv ++ [v]) (placesOf [3, 2, 1, 0] (ns.take (i + 1)))) (e : IntsAre kv kept) (f : kept.Pairwise (· ≤ ·)) (q : kept.Perm (placesOf [3, 2, 1, 0] (ns.take (i + 1)))) :
    EndG g L (LawJ L As To Ke us ns turn tt (i + 1)) [(I, oI)] [I] { s with heap := h, toks := tk } { s with heap := h', toks := tk' } := by
  rw [List.push_toArray] at N
  obtain ⟨_, o2, _, o4, o5, o6, o7, o8, o9, o10, o11⟩ := o
  obtain ⟨p1, p2, p3, p4, p5, p6, p7, p8⟩ := p
  refine EndG.intro _ F N ?_ (fun r hr => by rw [List.mem_singleton.mp hr]; exact .tail _ (.tail _ (.head _))) ?_
    (LawJ.mk (dn := ds.length) (tn := tn) (kn := kn) ⟨o4.ne', o5.ne', o6.ne', o7.ne', o8.ne', o9.ne', o10.ne', o11.ne'⟩ a b c d e f q)
  · intro r hr
    simp only [List.mem_cons, List.not_mem_nil, or_false] at hr ⊢
    rcases hr with rfl | rfl | rfl | rfl | rfl | rfl | rfl | rfl | rfl <;> simp [LCg.lst]
  · exact off1' ⟨o2.ne', p1, p2, p3, p4, p5, p6, p7, p8, trivial⟩
end Mine
namespace Mine
theorem put_news {g h h' : Heap} {L D : Addr} {o : Obj} {m : Str → Option Value} {news : List (Addr × Obj)} (F : Fr g L h m) (N : News g L h news) (hk : ∀ b x, h.get? b = some x → h'.get? b = some x) (hD : h'.get? D = some o) (hDn : h.get? D = none) :
    Fr g L h' m ∧ News g L h' ((D, o) :: news) := by
  have F' := F.keeps hk
  have N' := News.grown N hk
  refine ⟨F', fun p hp => ?_⟩
  rcases List.mem_cons.mp hp with rfl | hp
  · refine ⟨hD, fun e => ?_, ?_⟩
    · obtain ⟨oL, es, ep, hL, r⟩ := F.ns
      have e' : D = L := by first | exact e | exact e.symm
      rw [e', hL] at hDn
      cases hDn
    · cases q : g.get? D with
      | none => rfl
      | some x => rw [F.keep D x q] at hDn; cases hDn
  · exact N' p hp
end Mine
end

section
open PySem PySem.W PyProof.Rows PySem.Calls PySem.Spec PyProof.V
set_option Elab.async false
namespace Mine
local macro_rules | `(tactic| omega) => `(tactic| walk_at "shared 1")
open PySem.StrLaws PySem.Builtin PySem.Builtin.Str
theorem at2_get {x : Str} {k : Nat} (h : At x ⟨#[13, 10]⟩ x.length k) : x.cps.toList[k]? = some 13 := by
  have h2 := h.2
  rw [subAt_eq] at h2
  have h3 : (x.cps.toList.drop k).take 2 = [13, 10] := eq_of_beq h2
  have h4 : ((x.cps.toList.drop k).take 2)[0]? = some 13 := by rw [h3]; rfl
  rw [List.getElem?_take_of_lt (by decide), List.getElem?_drop] at h4
  exact h4
theorem at2_of {x : Str} {k : Nat} {r : List Nat} (h : x.cps.toList.drop k = 13 :: 10 :: r) : At x ⟨#[13, 10]⟩ x.length k := by
  have hl := congrArg List.length h
  rw [List.length_drop] at hl
  simp only [List.length_cons] at hl
  have e1 : x.cps.toList.length = x.length := by simp [Str.length]
  refine ⟨?_, ?_⟩
  · show k + 2 ≤ x.length
    omega
  · rw [subAt_eq, h]
    rfl
theorem strSub_eq {x : Str} {a b : Nat} {l r : List Nat} (h : x.cps.toList.drop a = l ++ r) (hb : b = a + l.length) : strSub x a b = ⟨l.toArray⟩ := by
  apply Str.ext'
  apply Array.toList_inj.mp
  rw [strSub_toList, h, hb, Nat.add_sub_cancel_left]
  simp
theorem lines_chain {x : Str} : ∀ (ls : List (List Nat)) (last : List Nat) (a : Nat) (cuts : List Nat) (f : Nat), (∀ l ∈ ls, 13 ∉ l) → 13 ∉ last → x.cps.toList.drop a = (ls.map (· ++ [13, 10])).flatten ++ last →
    ChainG x ⟨#[13, 10]⟩ x.length a cuts f → (∀ k, f ≤ k → ¬ At x ⟨#[13, 10]⟩ x.length k) → a ≤ x.length → partsFrom x 2 a cuts = (ls ++ [last]).map fun l => (⟨l.toArray⟩ : Str)
  | [], last, a, cuts, f, _, hlast, hx, hc, hf, ha => by
    rw [List.map_nil, List.flatten_nil, List.nil_append] at hx
    have no : ∀ k, a ≤ k → ¬ At x ⟨#[13, 10]⟩ x.length k := by
      intro k hk hA
      have h1 := at2_get hA
      have h2 : (x.cps.toList.drop a)[k - a]? = some 13 := by rw [List.getElem?_drop, Nat.add_sub_cancel' hk]; exact h1
      rw [hx] at h2
      exact hlast (List.mem_of_getElem? h2)
    cases cuts with
    | nil =>
      have hl := congrArg List.length hx
      rw [List.length_drop] at hl
      have e1 : x.cps.toList.length = x.length := by simp [Str.length]
      show [strSub x a x.length] = _
      rw [strSub_eq (l := last) (r := []) (by rw [List.append_nil]; exact hx) (by omega)]
      rfl
    | cons c r => exact absurd hc.2.1 (no c hc.1)
  | l :: ls, last, a, cuts, f, hls, hlast, hx, hc, hf, ha => by
    rw [List.map_cons, List.flatten_cons, List.append_assoc, List.append_assoc] at hx
    have hl13 := hls l (.head _)
    have no : ∀ k, a ≤ k → k < a + l.length → ¬ At x ⟨#[13, 10]⟩ x.length k := by
      intro k hk hk2 hA
      have h1 := at2_get hA
      have h2 : (x.cps.toList.drop a)[k - a]? = some 13 := by rw [List.getElem?_drop, Nat.add_sub_cancel' hk]; exact h1
      rw [hx, List.getElem?_append_left (by omega)] at h2
      exact hl13 (List.mem_of_getElem? h2)
    have hd : x.cps.toList.drop (a + l.length) = 13 :: 10 :: ((ls.map (· ++ [13, 10])).flatten ++ last) := by
      rw [← List.drop_drop, hx, List.drop_left]
      rfl
    have yes := at2_of hd
    cases cuts with
    | nil =>
      have e : f = a := hc
      exact absurd yes (hf _ (by omega))
    | cons c r =>
      obtain ⟨h1, h2, h3, h4⟩ := hc
      have hce : c = a + l.length := by
        rcases Nat.lt_trichotomy c (a + l.length) with h | h | h
        · exact absurd h2 (no c h1 h)
        · exact h
        · exact absurd yes (h3 _ (by omega) h)
      subst hce
      have hd2 : x.cps.toList.drop (a + l.length + 2) = (ls.map (· ++ [13, 10])).flatten ++ last := by
        rw [← List.drop_drop, hd]
        rfl
      show strSub x a (a + l.length) :: partsFrom x 2 (a + l.length + 2) r = _
      rw [strSub_eq hx rfl, lines_chain ls last _ r f (fun q hq => hls q (.tail _ hq)) hlast hd2 h4 hf yes.1]
      rfl
theorem line_no {d c : Nat} (hc : c ≠ 13) : 13 ∉ List.replicate d 46 ++ [c] := by
  intro h
  rcases List.mem_append.mp h with h | h
  · exact absurd (List.eq_of_mem_replicate h) (by decide)
  · exact hc (List.mem_singleton.mp h).symm
def lnS (d c : Nat) : Str := ⟨(List.replicate d 46 ++ [c]).toArray⟩
theorem split_mail {d0 d1 d2 d3 : Nat} : Txt.split (mailS d0 d1 d2 d3 [13, 10]) (Str.ofString "\r\n") = [lnS d0 97, lnS d1 98, lnS d2 99, lnS d3 100, ⟨#[120]⟩] := by
  rw [show Str.ofString "\r\n" = ⟨#[13, 10]⟩ from by decide +kernel]
  have hsz : (mailS d0 d1 d2 d3 [13, 10]).length = d0 + d1 + d2 + d3 + 13 := by
    show (mailL d0 d1 d2 d3 [13, 10]).toArray.size = _
    rw [List.size_toArray, mailL_length]
    rfl
  have hx : (mailS d0 d1 d2 d3 [13, 10]).cps.toList.drop 0 = ([List.replicate d0 46 ++ [97], List.replicate d1 46 ++ [98], List.replicate d2 46 ++ [99], List.replicate d3 46 ++ [100]].map (· ++ [13, 10])).flatten ++ [120] := by
    show (mailL d0 d1 d2 d3 [13, 10]).toArray.toList.drop 0 = _
    simp [mailL, lineL]
  obtain ⟨f, hG, hn⟩ := occ_tight (mailS d0 d1 d2 d3 [13, 10]) ⟨#[13, 10]⟩ (by decide)
  have key := lines_chain _ _ 0 _ f (by
    intro l hl
    simp only [List.mem_cons, List.not_mem_nil, or_false] at hl
    rcases hl with rfl | rfl | rfl | rfl <;> exact line_no (by decide)) (by decide) hx hG hn (Nat.zero_le _)
  unfold Txt.split
  have hk : decide (PySem.Builtin.Str.strKind (mailS d0 d1 d2 d3 [13, 10]) < PySem.Builtin.Str.strKind ⟨#[13, 10]⟩) = false := by
    rw [show PySem.Builtin.Str.strKind ⟨#[13, 10]⟩ = 1 from by decide +kernel]
    refine decide_eq_false ?_
    unfold PySem.Builtin.Str.strKind
    split
    · decide
    · split <;> decide
  rw [if_neg (by
    rw [hk, Bool.or_false, decide_eq_true_eq, hsz]
    show ¬ (_ < 2)
    omega)]
  split
  · rename_i he
    rw [List.isEmpty_iff.mp he] at key
    exact absurd (congrArg List.length key) (by simp [partsFrom])
  · rw [partsBetween_eq]
    exact key
theorem at1_get {x : Str} {c k : Nat} : At x ⟨#[c]⟩ x.length k ↔ x.cps.toList[k]? = some c := subAt_one x c k
theorem count_chain {x : Str} {c : Nat} : ∀ (cuts : List Nat) (a f : Nat), ChainG x ⟨#[c]⟩ x.length a cuts f → (∀ k, f ≤ k → ¬ At x ⟨#[c]⟩ x.length k) → cuts.length = (x.cps.toList.drop a).count c
  | [], a, f, hc, hf => by
    have e : f = a := hc
    subst e
    symm
    rw [List.length_nil, List.count_eq_zero]
    intro hm
    obtain ⟨j, hj⟩ := List.getElem?_of_mem hm
    rw [List.getElem?_drop] at hj
    exact hf _ (Nat.le_add_right _ _) (at1_get.mpr hj)
  | d :: r, a, f, hc, hf => by
    obtain ⟨h1, h2, h3, h4⟩ := hc
    have hd := at1_get.mp h2
    have hlt : d < x.cps.toList.length := (List.getElem?_eq_some_iff.mp hd).1
    have hdd : x.cps.toList.drop d = c :: x.cps.toList.drop (d + 1) := by
      rw [List.drop_eq_getElem_cons hlt, (List.getElem?_eq_some_iff.mp hd).2]
    have e : x.cps.toList.drop a = (x.cps.toList.drop a).take (d - a) ++ c :: x.cps.toList.drop (d + 1) := by
      have := (List.take_append_drop (d - a) (x.cps.toList.drop a)).symm
      rwa [List.drop_drop, Nat.add_sub_cancel' h1, hdd] at this
    have z : ((x.cps.toList.drop a).take (d - a)).count c = 0 := by
      rw [List.count_eq_zero]
      intro hm
      obtain ⟨j, hj⟩ := List.getElem?_of_mem hm
      have hj2 : j < d - a := by
        have := (List.getElem?_eq_some_iff.mp hj).1
        rw [List.length_take] at this
        omega
      rw [List.getElem?_take_of_lt hj2, List.getElem?_drop] at hj
      exact h3 _ (Nat.le_add_right _ _) (by omega) (at1_get.mpr hj)
    rw [e, List.count_append, z, List.count_cons_self, List.length_cons, count_chain r (d + 1) f h4 hf, Nat.zero_add]
theorem count_dots {d c : Nat} (hc : c ≠ 46) : Txt.count (lnS d c) (Str.ofString ".") = (d : Int) := by
  rw [show Str.ofString "." = ⟨#[46]⟩ from by decide +kernel]
  obtain ⟨f, hG, hn⟩ := occ_tight (lnS d c) ⟨#[46]⟩ (by decide)
  have key := count_chain _ 0 f hG hn
  unfold Txt.count
  have e : ((lnS d c).cps.toList.drop 0).count 46 = d := by
    show ((List.replicate d 46 ++ [c]).toArray.toList.drop 0).count 46 = d
    rw [List.drop_zero, List.toList_toArray, List.count_append, List.count_replicate_self, List.count_eq_zero.mpr (fun h => hc (List.mem_singleton.mp h).symm)]
    rfl
  rw [e] at key
  exact congrArg Int.ofNat key
end Mine
namespace Mine
section
variable {prog : Program} {w : World} {A : Around} {E : Value → Shared → Prop} {s : Shared} {h₀ : Heap} {L : Addr} {m : Str → Option Value} {news : List (Addr × Obj)} {d0 d1 d2 d3 : Nat} {t u : Tok} {Q : Value → Shared → Prop}
theorem mail_split (hF : Fr h₀ L s.heap m) (hN : News h₀ L s.heap news) (hb : d0 + d1 + d2 + d3 ≤ 1000)
    (h : ∀ D t0 t1 t2 t3 t4 h' k, Fr h₀ L h' m → News h₀ L h' ((D, listOf [Value.str (lnS d0 97) t0, Value.str (lnS d1 98) t1, Value.str (lnS d2 99) t2, Value.str (lnS d3 100) t3, Value.str ⟨#[120]⟩ t4].toArray 0) :: news) → (∀ p ∈ news, p.1 < D) → Q (.ref D) { s with heap := h', toks := k }) :
    wpAny (model prog w) A (call (.builtin "str.split") [.str (mailS d0 d1 d2 d3 [13, 10]) t, .str (Str.ofString "\r\n") u]) Q E s := by
  have hsz : (mailS d0 d1 d2 d3 [13, 10]).length = d0 + d1 + d2 + d3 + 13 := by
    show (mailL d0 d1 d2 d3 [13, 10]).toArray.size = _
    rw [List.size_toArray, mailL_length]
    rfl
  refine KSpl.split1 hF hN (by decide +kernel) ?_ (by rw [hsz, sizeLine_eq]; omega)
  intro D l h' k e _ F N hl
  rw [split_mail] at e
  obtain ⟨t0, l0, rfl, e1⟩ := KSpl.cons_of e
  obtain ⟨t1, l1, rfl, e2⟩ := KSpl.cons_of e1
  obtain ⟨t2, l2, rfl, e3⟩ := KSpl.cons_of e2
  obtain ⟨t3, l3, rfl, e4⟩ := KSpl.cons_of e3
  obtain ⟨t4, l4, rfl, e5⟩ := KSpl.cons_of e4
  obtain rfl := KSpl.nil_of e5
  exact h D t0 t1 t2 t3 t4 h' k F N hl
end
end Mine
namespace Mine
theorem line_at {d0 d1 d2 d3 : Nat} {t0 t1 t2 t3 : Tok} {j : Nat} {v : Value} (h : (#[Value.str (lnS d0 97) t0, Value.str (lnS d1 98) t1, Value.str (lnS d2 99) t2, Value.str (lnS d3 100) t3] : Array Value)[j]? = some v) :
    ∃ d c t, c ≠ 46 ∧ [d0, d1, d2, d3][j]? = some d ∧ v = .str (lnS d c) t := by
  match j with
  | 0 => exact ⟨_, _, _, by decide, rfl, (Option.some.inj h).symm⟩
  | 1 => exact ⟨_, _, _, by decide, rfl, (Option.some.inj h).symm⟩
  | 2 => exact ⟨_, _, _, by decide, rfl, (Option.some.inj h).symm⟩
  | 3 => exact ⟨_, _, _, by decide, rfl, (Option.some.inj h).symm⟩
  | j + 4 => cases h
theorem ints_snoc {zs : List Value} {ns : List Int} {j : Nat} {v : Int} {t : Tok} (hz : IntsAre zs (ns.take j)) (h : ns[j]? = some v) : IntsAre (zs ++ [Value.int v t]) (ns.take (j + 1)) := by
  rw [List.take_add_one, h]
  exact hz.append (.cons _ _ .nil)
theorem getInt_of {d0 d1 d2 d3 d j : Nat} (h : [d0, d1, d2, d3][j]? = some d) : [(d0 : Int), (d1 : Int), (d2 : Int), (d3 : Int)][j]? = some (d : Int) := by
  have : [(d0 : Int), (d1 : Int), (d2 : Int), (d3 : Int)] = [d0, d1, d2, d3].map fun x : Nat => (x : Int) := rfl
  rw [this, List.getElem?_map, h]
  rfl
end Mine
end

section
open PySem PySem.W PyProof.Rows PySem.Calls PySem.Spec PyProof.V
set_option Elab.async false
namespace Mine
local macro_rules | `(tactic| omega) => `(tactic| walk_at "shared 1")
local macro_rules | `(tactic| walk_at "my stop") => `(tactic| first | (with_reducible refine st8 ?_) | (with_reducible refine st4 ?_) | (with_reducible refine st18 ?_) | (with_reducible refine st17 ?_))
local macro_rules | `(tactic| walk_at "my walk") => `(tactic| walk_at "shared 2")
local macro_rules | `(tactic| walk_at "call builtin:len") => `(tactic| walk_at "shared 17")
local macro_rules | `(tactic| walk_at "subscriptTail") => `(tactic| walk_at "shared 18")
local macro_rules | `(tactic| walk_at "eval Name") => `(tactic| walk_at "shared 3")
local macro_rules | `(tactic| walk_at "my get") => `(tactic| walk_at "shared 14")

def td (p : Int × Int × Int) : PyData := .tuple [.int p.1, .int p.2.1, .int p.2.2]
/-- the list's items, the tuples on the ledger (the newest first), what they say -/
inductive TupsOk : List Value → List (Addr × Obj) → List (Int × Int × Int) → Prop
  | nil : TupsOk [] [] []
  | snoc {av tups ws T a b c t1 t2 t3} : TupsOk av tups ws → TupsOk (av ++ [.ref T]) ((T, tupO [.int a t1, .int b t2, .int c t3]) :: tups) (ws ++ [(a, b, c)])
theorem readsAll_snoc {h : Heap} {v : Value} {d : PyData} (hv : Reads h v d []) : ∀ {vs : List Value} {ds : List PyData}, ReadsAll h vs ds [] → ReadsAll h (vs ++ [v]) (ds ++ [d]) []
  | [], ds, hr => by
    cases hr
    exact ReadsAll.cons (as := []) (bs := []) hv .nil
  | u :: us, ds, hr => by
    generalize hz : ([] : List Addr) = z at hr
    cases hr with
    | @cons _ _ d' ds' as bs h1 h2 =>
      obtain ⟨rfl, rfl⟩ : as = [] ∧ bs = [] := by
        cases as with
        | nil => exact ⟨rfl, by simpa using hz.symm⟩
        | cons _ _ => simp at hz
      exact ReadsAll.cons (as := []) (bs := []) h1 (readsAll_snoc hv h2)
theorem TupsOk.reads {h : Heap} : ∀ {av : List Value} {tups : List (Addr × Obj)} {ws : List (Int × Int × Int)}, TupsOk av tups ws → (∀ p ∈ tups, h.get? p.1 = some p.2) → ReadsAll h av (ws.map td) []
  | _, _, _, .nil, _ => .nil
  | _, _, _, .snoc k, hp => by
    rw [List.map_append]
    exact readsAll_snoc (.tuple (hp _ (.head _)) rfl rfl (.cons (as := []) (bs := []) (.int _ _) (.cons (as := []) (bs := []) (.int _ _) (.cons (as := []) (bs := []) (.int _ _) .nil)))) (k.reads fun p q => hp p (.tail _ q))
theorem TupsOk.len : ∀ {av : List Value} {tups : List (Addr × Obj)} {ws : List (Int × Int × Int)}, TupsOk av tups ws → av.length = ws.length
  | _, _, _, .nil => rfl
  | _, _, _, .snoc k => by rw [List.length_append, List.length_append, k.len]; rfl
theorem maxLen {a b k : Nat} (h : max a b = k) (ha : 1 ≤ a) (hb : 1 ≤ b) : (if ((b - 1 : Nat) : Int) > ((a - 1 : Nat) : Int) then ((b - 1 : Nat) : Int) else ((a - 1 : Nat) : Int)) + 1 = ((k : Nat) : Int) := by split <;> omega
def difs (f g : Nat → Int) : Nat → List (Int × Int × Int)
  | 0 => []
  | k + 1 => difs f g k ++ (if f (k + 1) ≠ g (k + 1) then [(((k + 1 : Nat) : Int), f (k + 1), g (k + 1))] else [])
theorem difs_len {f g : Nat → Int} : ∀ k, (difs f g k).length ≤ k
  | 0 => Nat.le_refl _
  | k + 1 => by
    have := difs_len (f := f) (g := g) k
    rw [difs, List.length_append]
    split <;> simp <;> omega
/-- indent_level, as a function of the size -/
def ilv (count : List Int) (nt ts : Nat) : Int := ts * (ilF count ts (count.length - ts) + nt)
local macro_rules | `(tactic| walk_at "eval Name") => `(tactic| walk_at "shared 3")
local macro_rules | `(tactic| walk_at "my stop") => `(tactic| (with_reducible refine st19 ?_))
theorem rangeSize_k {k : Nat} : Builtin.Range.rangeSize 1 ((k : Int) + 1) 1 = (k : Int) := by
  rw [rangeSize_one]; split <;> omega
theorem allNe_of_lt {D : Addr} {l : List (Addr × Obj)} (h : AllLt D l) : ∀ p ∈ l, p.1 ≠ D := by
  induction l with
  | nil => exact fun _ hp => nomatch hp
  | cons q r ih =>
    intro p hp
    rcases List.mem_cons.mp hp with e | hp
    · rw [e]; exact Nat.ne_of_lt h.1
    · exact ih h.2 p hp
/-- as IsWs, and off the frame at L -/
def IsWsN (w : World) (h₀ : Heap) (L : Addr) (h : Heap) (x : Addr) (count : List Int) (nt : Nat) : Prop :=
  ∃ (dx Dn Dt : Addr) (cv : List Value) (rs : Str) (n : Nat) (sm : Bool) (tb t1 t2 t3 t4 t5 t6 t7 t8 : Tok),
    News h₀ L h [(Dn, tupO [Value.ref Dt, Value.int 0 tb]), (Dt, tupO cv), (x, instObj 142 dx), (dx, wsDict w rs n nt Dn sm t1 t2 t3 t4 t5 t6 t7 t8)] ∧
    IntsAre cv count ∧ @Ne Nat Dn Dt ∧ @Ne Nat Dn x ∧ @Ne Nat Dn dx ∧ @Ne Nat Dt x ∧ @Ne Nat Dt dx ∧ @Ne Nat x dx
theorem IsWsN.ws {w : World} {h₀ h : Heap} {L x : Addr} {count : List Int} {nt : Nat} (W : IsWsN w h₀ L h x count nt) : IsWs w h₀ h x count nt := by
  obtain ⟨dx, Dn, Dt, cv, rs, n, sm, tb, t1, t2, t3, t4, t5, t6, t7, t8, hN, r⟩ := W
  exact ⟨dx, Dn, Dt, cv, rs, n, sm, tb, t1, t2, t3, t4, t5, t6, t7, t8, fun q hq => ⟨(hN q hq).1, (hN q hq).2.2⟩, r⟩
def JW (base : List (Addr × Obj)) (x x' a : Addr) (f g : Nat → Int) (i : Nat) (m : Str → Option Value) (nx : List (Addr × Obj)) : Prop :=
  ∃ av an tups, nx = (a, listOf (List.toArray av) an) :: (base ++ tups) ∧ (∀ p ∈ base ++ tups, p.1 ≠ a) ∧ TupsOk av tups (difs f g i) ∧ m "self" = some (.ref x) ∧ m "other" = some (.ref x') ∧ m "a" = some (.ref a)
theorem wit_endB {g0 h h' : Heap} {s : Shared} {L x x' a I : Addr} {oI : Obj} {base tups : List (Addr × Obj)} {av : List Value} {an tk tk' i : Nat} {f g : Nat → Int} {m : Str → Option Value}
    (F : Fr g0 L h' m) (N : News g0 L h' ((I, oI) :: (a, listOf (List.toArray av) an) :: (base ++ tups))) (off : LCg.Off1 I ((a, listOf (List.toArray av) an) :: (base ++ tups))) (hna : ∀ p ∈ base ++ tups, p.1 ≠ a)
    (hto : TupsOk av tups (difs f g i)) (e : f (i + 1) = g (i + 1)) (a1 : m "self" = some (.ref x)) (a2 : m "other" = some (.ref x')) (a3 : m "a" = some (.ref a)) :
    EndG g0 L (JW base x x' a f g (i + 1)) [(I, oI)] [I] { s with heap := h, toks := tk } { s with heap := h', toks := tk' } := by
  refine EndG.intro _ F N (fun p hp => .tail _ hp) (fun p hp => by rw [List.mem_singleton.mp hp]; exact .head _) (off1' off) ⟨av, an, tups, rfl, hna, ?_, a1, a2, a3⟩
  rw [difs, if_neg (fun q => q e), List.append_nil]
  exact hto
theorem wit_endA {g0 h h' : Heap} {s : Shared} {L x x' a I T : Addr} {oI : Obj} {base tups : List (Addr × Obj)} {av : List Value} {an tk tk' i : Nat} {f g : Nat → Int} {m : Str → Option Value} {ts u v : Int} {t1 t2 t3 : Tok}
    (F : Fr g0 L h' m) (N : News g0 L h' ((T, tupO [.int ts t1, .int u t2, .int v t3]) :: (I, oI) :: (a, listOf ((List.toArray av).push (.ref T)) an) :: (base ++ tups))) {o0 : Obj} (off : LCg.Off1 I ((a, o0) :: (base ++ tups))) (hna : ∀ p ∈ base ++ tups, p.1 ≠ a)
    (hIT : @LT.lt Nat _ I T) (haT : @LT.lt Nat _ a T)
    (hto : TupsOk av tups (difs f g i)) (e : f (i + 1) ≠ g (i + 1)) (ets : ts = ((i + 1 : Nat) : Int)) (eu : u = f (i + 1)) (ev : v = g (i + 1)) (a1 : m "self" = some (.ref x)) (a2 : m "other" = some (.ref x')) (a3 : m "a" = some (.ref a)) :
    EndG g0 L (JW base x x' a f g (i + 1)) [(I, oI)] [I] { s with heap := h, toks := tk } { s with heap := h', toks := tk' } := by
  subst ets eu ev
  rw [List.push_toArray] at N
  have off2 := off1' off
  refine EndG.intro ((a, listOf (List.toArray (av ++ [.ref T])) an) :: (base ++ (T, tupO [.int ((i + 1 : Nat) : Int) t1, .int (f (i + 1)) t2, .int (g (i + 1)) t3]) :: tups)) F N ?_ (fun p hp => by rw [List.mem_singleton.mp hp]; exact .tail _ (.head _)) ?_ ⟨av ++ [.ref T], an, _, rfl, ?_, ?_, a1, a2, a3⟩
  · intro p hp
    rcases List.mem_cons.mp hp with rfl | hp
    · exact .tail _ (.tail _ (.head _))
    · rcases List.mem_append.mp hp with hp | hp
      · exact .tail _ (.tail _ (.tail _ (List.mem_append_left _ hp)))
      · rcases List.mem_cons.mp hp with rfl | hp
        · exact .head _
        · exact .tail _ (.tail _ (.tail _ (List.mem_append_right _ hp)))
  · intro p hp
    rcases List.mem_cons.mp hp with rfl | hp
    · exact off2 (a, o0) (.head _)
    · rcases List.mem_append.mp hp with hp | hp
      · exact off2 _ (.tail _ (List.mem_append_left _ hp))
      · rcases List.mem_cons.mp hp with rfl | hp
        · exact fun q => Nat.ne_of_gt hIT (List.mem_singleton.mp q)
        · exact off2 _ (.tail _ (List.mem_append_right _ hp))
  · intro p hp
    rcases List.mem_append.mp hp with hp | hp
    · exact hna _ (List.mem_append_left _ hp)
    · rcases List.mem_cons.mp hp with rfl | hp
      · exact Nat.ne_of_gt haT
      · exact hna _ (List.mem_append_right _ hp)
  · rw [difs, if_pos e]
    exact hto.snoc
theorem news4 {g h : Heap} {L : Addr} {news : List (Addr × Obj)} {a b c d : Addr × Obj} (N : News g L h news) (m1 : a ∈ news) (m2 : b ∈ news) (m3 : c ∈ news) (m4 : d ∈ news) : News g L h [a, b, c, d] := by
  intro p hp
  simp only [List.mem_cons, List.not_mem_nil, or_false] at hp
  rcases hp with rfl | rfl | rfl | rfl
  · exact N _ m1
  · exact N _ m2
  · exact N _ m3
  · exact N _ m4
theorem news8 {g h : Heap} {L : Addr} {news : List (Addr × Obj)} {a b c d a' b' c' d' : Addr × Obj} (N : News g L h news) (m1 : a ∈ news) (m2 : b ∈ news) (m3 : c ∈ news) (m4 : d ∈ news) (m5 : a' ∈ news) (m6 : b' ∈ news) (m7 : c' ∈ news) (m8 : d' ∈ news) : News g L h [a, b, c, d, a', b', c', d'] := by
  intro p hp
  simp only [List.mem_cons, List.not_mem_nil, or_false] at hp
  rcases hp with rfl | rfl | rfl | rfl | rfl | rfl | rfl | rfl
  · exact N _ m1
  · exact N _ m2
  · exact N _ m3
  · exact N _ m4
  · exact N _ m5
  · exact N _ m6
  · exact N _ m7
  · exact N _ m8
set_option maxRecDepth 100000 in
set_option maxHeartbeats 8000000 in
theorem witness_gen {p : Program} {loose : List Str} {mean : ExcName → Option Value} {mg mb : Str → Option Value} {w : World} {A : Around} {s : Shared} {h₀ : Heap} {x x' : Addr} {count count' : List Int} {nt nt' k : Nat} {Lx : Addr} {oLx : Obj} {Q E : Value → Shared → Prop}
    (X : (hd.heap_1 w.params).In h₀) (T : Top p loose mean mg mb h₀) (hk₀ : ∀ b o, h₀.get? b = some o → s.heap.get? b = some o)
    (hW : IsWsN w h₀ Lx s.heap x count nt) (hW' : IsWsN w h₀ Lx s.heap x' count' nt') (hLx : s.heap.get? Lx = some oLx) (hc : 1 ≤ count.length ∧ count.length ≤ 10) (hc' : 1 ≤ count'.length ∧ count'.length ≤ 10) (hmx : max count.length count'.length = k)
    (hh : A.handled = none) (hroom : A.depth + 20 < recursionLimit) (hu : A.units + 100 < cLine)
    (hQ : ∀ h' tk D av an tups, (∀ b o, s.heap.get? b = some o → h'.get? b = some o) → TupsOk av tups (difs (ilv count nt) (ilv count' nt') k) → (∀ q ∈ (D, listOf (List.toArray av) an) :: tups, h'.get? q.1 = some q.2 ∧ q.1 ≠ Lx ∧ h₀.get? q.1 = none) → Q (.ref D) { s with heap := h', toks := tk }) :
    wpAny (model PR w) A (call (.ref 125) [.ref x, .ref x']) Q E s := by
  w_top off
  obtain ⟨hdl, dp, fr, gd, un⟩ := A
  obtain rfl : hdl = none := hh
  dsimp only at hroom hu
  obtain ⟨dx, Dn, Dt, cv, rs, n, sm, tb, t1, t2, t3, t4, t5, t6, t7, t8, hN0, hi, n1, n2, n3, n4, n5, n6⟩ := hW
  obtain ⟨dx', Dn', Dt', cv', rs', n', sm', tb', t1', t2', t3', t4', t5', t6', t7', t8', hN0', hi', n1', n2', n3', n4', n5', n6'⟩ := hW'
  have hN := fun q hq => And.intro (hN0 q hq).1 (hN0 q hq).2.2
  have hN' := fun q hq => And.intro (hN0' q hq).1 (hN0' q hq).2.2
  refine wpAny_call ?_
  refine' enterP (binds := [("self", .ref x), ("other", .ref x')]) (news := [(Dn, tupO [Value.ref Dt, Value.int 0 tb]), (Dt, tupO cv), (x, instObj 142 dx), (dx, wsDict w rs n nt Dn sm t1 t2 t3 t4 t5 t6 t7 t8), (Dn', tupO [Value.ref Dt', Value.int 0 tb']), (Dt', tupO cv'), (x', instObj 142 dx'), (dx', wsDict w rs' n' nt' Dn' sm' t1' t2' t3' t4' t5' t6' t7' t8')]) (h₀ := h₀) X T hk₀ (fun q hq => (List.mem_append.mp (show q ∈ [(Dn, tupO [Value.ref Dt, Value.int 0 tb]), (Dt, tupO cv), (x, instObj 142 dx), (dx, wsDict w rs n nt Dn sm t1 t2 t3 t4 t5 t6 t7 t8)] ++ [(Dn', tupO [Value.ref Dt', Value.int 0 tb']), (Dt', tupO cv'), (x', instObj 142 dx'), (dx', wsDict w rs' n' nt' Dn' sm' t1' t2' t3' t4' t5' t6' t7' t8')] from hq)).elim (hN q) (hN' q)) ?k6 ?k7 ?k8 ?k9 ?kB ?_ ?c2 ?c3 ?c4 ?c5
  (case k6 => k_is)
  (case k7 => k_is)
  (case k8 => dsimp only; omega)
  (case k9 => exact BindsTo.of_eq rfl)
  (case c5 => decide)
  (case kB => exact locs rfl)
  (case c2 => exact rfl)
  (case c3 => exact rfl)
  (case c4 => exact rfl)
  intro g L' h₁ hg hg' F N X' T'
  have hNN : ∀ q ∈ [(Dn, tupO [Value.ref Dt, Value.int 0 tb]), (Dt, tupO cv), (x, instObj 142 dx), (dx, wsDict w rs n nt Dn sm t1 t2 t3 t4 t5 t6 t7 t8), (Dn', tupO [Value.ref Dt', Value.int 0 tb']), (Dt', tupO cv'), (x', instObj 142 dx'), (dx', wsDict w rs' n' nt' Dn' sm' t1' t2' t3' t4' t5' t6' t7' t8')], s.heap.get? q.1 = some q.2 ∧ h₀.get? q.1 = none := fun q hq => (List.mem_append.mp (show q ∈ [(Dn, tupO [Value.ref Dt, Value.int 0 tb]), (Dt, tupO cv), (x, instObj 142 dx), (dx, wsDict w rs n nt Dn sm t1 t2 t3 t4 t5 t6 t7 t8)] ++ [(Dn', tupO [Value.ref Dt', Value.int 0 tb']), (Dt', tupO cv'), (x', instObj 142 dx'), (dx', wsDict w rs' n' nt' Dn' sm' t1' t2' t3' t4' t5' t6' t7' t8')] from hq)).elim (hN q) (hN' q)
  have hall : ∀ h2 : Heap, (∀ b o, g.get? b = some o → h2.get? b = some o) → News g L' h2 [(Dn, tupO [Value.ref Dt, Value.int 0 tb]), (Dt, tupO cv), (x, instObj 142 dx), (dx, wsDict w rs n nt Dn sm t1 t2 t3 t4 t5 t6 t7 t8), (Dn', tupO [Value.ref Dt', Value.int 0 tb']), (Dt', tupO cv'), (x', instObj 142 dx'), (dx', wsDict w rs' n' nt' Dn' sm' t1' t2' t3' t4' t5' t6' t7' t8')] → ∀ b o, s.heap.get? b = some o → h2.get? b = some o := by
    intro h2 hk2 N2 b o e
    by_cases hb : b ∈ [(Dn, tupO [Value.ref Dt, Value.int 0 tb]), (Dt, tupO cv), (x, instObj 142 dx), (dx, wsDict w rs n nt Dn sm t1 t2 t3 t4 t5 t6 t7 t8), (Dn', tupO [Value.ref Dt', Value.int 0 tb']), (Dt', tupO cv'), (x', instObj 142 dx'), (dx', wsDict w rs' n' nt' Dn' sm' t1' t2' t3' t4' t5' t6' t7' t8')].map (·.1)
    · obtain ⟨q, hq, rfl⟩ := List.mem_map.mp hb
      have h1 := (hNN q hq).1
      rw [e] at h1
      rw [Option.some.inj h1]
      exact (N2 q hq).1
    · exact hk2 b o (hg' b o e hb)
  have hgL : g.get? Lx = some oLx := by
    refine hg' Lx oLx hLx fun hb => ?_
    obtain ⟨q, hq, e⟩ := List.mem_map.mp hb
    rcases List.mem_append.mp (show q ∈ [(Dn, tupO [Value.ref Dt, Value.int 0 tb]), (Dt, tupO cv), (x, instObj 142 dx), (dx, wsDict w rs n nt Dn sm t1 t2 t3 t4 t5 t6 t7 t8)] ++ [(Dn', tupO [Value.ref Dt', Value.int 0 tb']), (Dt', tupO cv'), (x', instObj 142 dx'), (dx', wsDict w rs' n' nt' Dn' sm' t1' t2' t3' t4' t5' t6' t7' t8')] from hq) with hq | hq
    · exact (hN0 q hq).2.1 e
    · exact (hN0' q hq).2.1 e
  clear hN0 hN0'
  clear hg' hNN hN hN'
  have W1 : ∀ h2 : Heap, News g L' h2 [(Dn, tupO [Value.ref Dt, Value.int 0 tb]), (Dt, tupO cv), (x, instObj 142 dx), (dx, wsDict w rs n nt Dn sm t1 t2 t3 t4 t5 t6 t7 t8), (Dn', tupO [Value.ref Dt', Value.int 0 tb']), (Dt', tupO cv'), (x', instObj 142 dx'), (dx', wsDict w rs' n' nt' Dn' sm' t1' t2' t3' t4' t5' t6' t7' t8')] → IsWs w g h2 x count nt := fun h2 N2 => ⟨dx, Dn, Dt, cv, rs, n, sm, tb, t1, t2, t3, t4, t5, t6, t7, t8, fun q hq => ⟨(N2 q (by simp only [List.mem_cons, List.not_mem_nil, or_false] at hq ⊢; rcases hq with rfl | rfl | rfl | rfl <;> simp)).1, (N2 q (by simp only [List.mem_cons, List.not_mem_nil, or_false] at hq ⊢; rcases hq with rfl | rfl | rfl | rfl <;> simp)).2.2⟩, hi, n1, n2, n3, n4, n5, n6⟩
  have W2 : ∀ h2 : Heap, News g L' h2 [(Dn, tupO [Value.ref Dt, Value.int 0 tb]), (Dt, tupO cv), (x, instObj 142 dx), (dx, wsDict w rs n nt Dn sm t1 t2 t3 t4 t5 t6 t7 t8), (Dn', tupO [Value.ref Dt', Value.int 0 tb']), (Dt', tupO cv'), (x', instObj 142 dx'), (dx', wsDict w rs' n' nt' Dn' sm' t1' t2' t3' t4' t5' t6' t7' t8')] → IsWs w g h2 x' count' nt' := fun h2 N2 => ⟨dx', Dn', Dt', cv', rs', n', sm', tb', t1', t2', t3', t4', t5', t6', t7', t8', fun q hq => ⟨(N2 q (by simp only [List.mem_cons, List.not_mem_nil, or_false] at hq ⊢; rcases hq with rfl | rfl | rfl | rfl <;> simp)).1, (N2 q (by simp only [List.mem_cons, List.not_mem_nil, or_false] at hq ⊢; rcases hq with rfl | rfl | rfl | rfl <;> simp)).2.2⟩, hi', n1', n2', n3', n4', n5', n6'⟩
  have hu' : un + 100 < cLine := hu
  clear n1 n2 n3 n4 n5 n6 n1' n2' n3' n4' n5' n6'
  walk_at "my walk"
  dsimp only [List.cons_append, List.nil_append]
  refine longest_spec (h₀ := g) X' T' (Fr.keep (by assumption)) (W1 _ (by assumption)) hc rfl (by dsimp only [Around.deeper]; omega) (by dsimp only [Around.deeper]; omega) ?_
  rename Fr _ _ _ _ => F1
  rename News _ _ _ _ => N1
  intro h' tk t hk
  have F1' := F1.keeps hk
  have N1' := News.grown N1 hk
  clear F1 N1 hk
  walk_at "my walk"
  (try dsimp only [List.cons_append, List.nil_append])
  refine longest_spec (h₀ := g) X' T' (Fr.keep (by assumption)) (W2 _ (by assumption)) hc' rfl (by dsimp only [Around.deeper]; omega) (by dsimp only [Around.deeper]; omega) ?_
  rename Fr _ _ _ _ => F2
  rename News _ _ _ _ => N2
  intro h' tk t hk
  have F2' := F2.keeps hk
  have N2' := News.grown N2 hk
  clear F2 N2 hk
  walk_at "my walk"
  rename Fr _ _ _ _ => F3
  rename News _ _ _ _ => N3
  have e4 : (if ((count'.length - 1 : Nat) : Int) > ((count.length - 1 : Nat) : Int) then ((count'.length - 1 : Nat) : Int) else ((count.length - 1 : Nat) : Int)) + 1 = ((k : Nat) : Int) := maxLen hmx hc.1 hc'.1
  rw [e4] at F3
  refine wpAny_For ?_ (by intro _; rfl)
  walk_at "my walk"
  rename Fr _ _ _ _ => F4
  rename News _ _ _ _ => N4
  rename IsRange _ _ _ _ _ _ _ _ => R4
  rename (@LT.lt Nat _ _ _ ∧ _) => hlt
  have hk1 : 1 ≤ k := by omega
  have hk10 : k ≤ 10 := by omega
  have hb1 : ((k : Int) + 1) < 2 ^ 62 := by omega
  refine iterG_range (n := k) (J := JW [(Dn, tupO [Value.ref Dt, Value.int 0 tb]), (Dt, tupO cv), (x, instObj 142 dx), (dx, wsDict w rs n nt Dn sm t1 t2 t3 t4 t5 t6 t7 t8), (Dn', tupO [Value.ref Dt', Value.int 0 tb']), (Dt', tupO cv'), (x', instObj 142 dx'), (dx', wsDict w rs' n' nt' Dn' sm' t1' t2' t3' t4' t5' t6' t7' t8')] x x' _ (ilv count nt) (ilv count' nt')) rfl PassesOwn.never R4 (small_one (by decide) (by decide) (by omega) hb1) rangeSize_k F4 N4 ⟨[], _, [], rfl, allNe_of_lt ⟨hlt.1, hlt.2.1, hlt.2.2.1, hlt.2.2.2.1, hlt.2.2.2.2.1, hlt.2.2.2.2.2.1, hlt.2.2.2.2.2.2.1, hlt.2.2.2.2.2.2.2, trivial⟩, .nil, rfl, rfl, rfl⟩ ?_ ?_
  · rintro i t m₁ rest₁ h tk I oI hi' hoff1 ⟨av, an, tups, rfl, hna, hto, a1, a2, a3⟩ F N
    dsimp only [List.cons_append, List.nil_append] at N
    clear F4 N4 R4 hlt
    have hal : av.length = (difs (ilv count nt) (ilv count' nt') i).length := hto.len
    have hdl := difs_len (f := ilv count nt) (g := ilv count' nt') i
    have hsz : av.toArray.size ≤ sizeLine := by rw [List.size_toArray, hal, sizeLine_eq]; omega
    have e1 : ((1 : Int) + (i : Int)) = ((1 + i : Nat) : Int) := by omega
    dsimp only [PostG]
    walk_at "my walk"
    change wpAny _ _ (call (Value.ref 111) [Value.ref x, Value.int ((1 + i : Nat) : Int) t]) _ _ _
    refine indent_spec (h₀ := g) X' T' (Fr.keep (by assumption)) (W1 _ (news8 (by assumption) (by k_mem) (by k_mem) (by k_mem) (by k_mem) (by k_mem) (by k_mem) (by k_mem) (by k_mem))) ⟨by omega, by omega⟩ (by omega) rfl (by dsimp only [Around.deeper]; omega) (by dsimp only [Around.deeper]; omega) ?_
    rename Fr _ _ _ _ => F0
    rename News _ _ _ _ => N0
    intro h' tk t' hk
    replace F0 := F0.keeps hk
    replace N0 := News.grown N0 hk
    clear hk
    walk_at "my walk"
    change wpAny _ _ (call (Value.ref 111) [Value.ref x', Value.int ((1 + i : Nat) : Int) t]) _ _ _
    refine indent_spec (h₀ := g) X' T' (Fr.keep (by assumption)) (W2 _ (news8 (by assumption) (by k_mem) (by k_mem) (by k_mem) (by k_mem) (by k_mem) (by k_mem) (by k_mem) (by k_mem))) ⟨by omega, by omega⟩ (by omega) rfl (by dsimp only [Around.deeper]; omega) (by dsimp only [Around.deeper]; omega) ?_
    rename Fr _ _ _ _ => F0
    rename News _ _ _ _ => N0
    intro h' tk t' hk
    replace F0 := F0.keeps hk
    replace N0 := News.grown N0 hk
    clear hk
    walk_at "my walk"
    · rename (((1 + i : Nat) : Int) * _ ≠ _) => hne
      walk_at "my walk"
      change wpAny _ _ (call (Value.ref 111) [Value.ref x, Value.int ((1 + i : Nat) : Int) t]) _ _ _
      refine indent_spec (h₀ := g) X' T' (Fr.keep (by assumption)) (W1 _ (news8 (by assumption) (by k_mem) (by k_mem) (by k_mem) (by k_mem) (by k_mem) (by k_mem) (by k_mem) (by k_mem))) ⟨by omega, by omega⟩ (by omega) rfl (by dsimp only [Around.deeper]; omega) (by dsimp only [Around.deeper]; omega) ?_
      rename Fr _ _ _ _ => F0
      rename News _ _ _ _ => N0
      intro h' tk t' hk
      replace F0 := F0.keeps hk
      replace N0 := News.grown N0 hk
      clear hk
      walk_at "my walk"
      change wpAny _ _ (call (Value.ref 111) [Value.ref x', Value.int ((1 + i : Nat) : Int) t]) _ _ _
      refine indent_spec (h₀ := g) X' T' (Fr.keep (by assumption)) (W2 _ (news8 (by assumption) (by k_mem) (by k_mem) (by k_mem) (by k_mem) (by k_mem) (by k_mem) (by k_mem) (by k_mem))) ⟨by omega, by omega⟩ (by omega) rfl (by dsimp only [Around.deeper]; omega) (by dsimp only [Around.deeper]; omega) ?_
      rename Fr _ _ _ _ => F0
      rename News _ _ _ _ => N0
      intro h' tk t' hk
      replace F0 := F0.keeps hk
      replace N0 := News.grown N0 hk
      clear hk
      walk_at "my walk"
      rename Fr _ _ _ _ => F5
      rename News _ _ _ _ => N5
      rename (@LT.lt Nat _ _ _ ∧ _) => l9
      refine append_K F5 N5 (Upd.tail (Nat.ne_of_gt l9.2.1) (Upd.tail (Ne.symm hoff1.1) (Upd.head hna))) ?_ hsz
      clear F5 N5
      intro h9 F5 N5
      dsimp only
      walk_at "my walk"
      dsimp only [PostG]
      exact wit_endA F5 N5 hoff1 hna l9.1 l9.2.1 hto (fun q => hne (by rw [ilv, ilv, Nat.add_comm i 1] at q; exact q)) (by omega) (by rw [ilv, Nat.add_comm i 1]) (by rw [ilv, Nat.add_comm i 1]) (by walk_at "my get") (by walk_at "my get") (by walk_at "my get")
    · rename (((1 + i : Nat) : Int) * _ = _) => hne
      rename Fr _ _ _ _ => F5
      rename News _ _ _ _ => N5
      exact wit_endB F5 N5 hoff1 hna hto (by rw [ilv, ilv, Nat.add_comm i 1]; exact hne) (by walk_at "my get") (by walk_at "my get") (by walk_at "my get")
  · rintro m₁ rest₁ h tk ⟨av, an, tups, rfl, hna, hto, a1, a2, a3⟩ F N
    dsimp only [List.cons_append, List.nil_append] at N
    dsimp only
    walk_at "my walk"
    dsimp only
    refine hQ _ _ _ av an tups (hall _ (fun b o e => F.keep b o e) (news8 N (by k_mem) (by k_mem) (by k_mem) (by k_mem) (by k_mem) (by k_mem) (by k_mem) (by k_mem))) hto fun q hq => ?_
    have hq2 := N q (by
      rcases List.mem_cons.mp hq with rfl | hq
      · exact .head _
      · exact .tail _ (.tail _ (.tail _ (.tail _ (.tail _ (.tail _ (.tail _ (.tail _ (.tail _ hq)))))))))
    refine ⟨hq2.1, fun e => ?_, ?_⟩
    · have h2 := hq2.2.2
      rw [e, hgL] at h2
      cases h2
    · cases z : h₀.get? q.1 with
      | none => rfl
      | some o => have h2 := hq2.2.2; rw [hg _ _ z] at h2; cases h2
end Mine
end

section
open PySem PySem.W PyProof.Rows
set_option Elab.async false
namespace Mine
local macro_rules | `(tactic| omega) => `(tactic| walk_at "shared 1")
theorem getD_append_rep (c : List Int) (n k : Nat) : (c ++ List.replicate n 0).getD k 0 = c.getD k 0 := by
  simp only [List.getD_eq_getElem?_getD]
  by_cases h : k < c.length
  · rw [List.getElem?_append_left h]
  · rw [List.getElem?_append_right (by omega), List.getElem?_eq_none (l := c) (by omega), List.getElem?_replicate]
    split <;> rfl
theorem bump_getD (c : List Int) (b k : Nat) : (bumpC c b).getD k 0 = c.getD k 0 + if k = b then 1 else 0 := by
  have key : ∀ c' : List Int, b < c'.length → (∀ j, c'.getD j 0 = c.getD j 0) → (c'.set b (c'.getD b 0 + 1)).getD k 0 = c.getD k 0 + if k = b then 1 else 0 := by
    intro c' hb hc
    simp only [List.getD_eq_getElem?_getD] at hc ⊢
    rw [List.getElem?_set]
    by_cases e : b = k
    · subst e
      rw [if_pos rfl, if_pos hb, if_pos rfl]
      show (c'[b]?.getD 0 + 1) = _
      rw [hc b]
    · rw [if_neg e, if_neg (fun q => e q.symm), hc k]
      omega
  unfold bumpC
  by_cases h : c.length ≤ b
  · simp only [h, if_true]
    exact key _ (by rw [List.length_append, List.length_replicate]; omega) fun j => getD_append_rep c _ j
  · simp only [h, if_false]
    exact key c (by omega) fun j => rfl
theorem fold_getD : ∀ (ps : List Nat) (c : List Int) (k : Nat), (ps.foldl bumpC c).getD k 0 = c.getD k 0 + (ps.count k : Nat)
  | [], c, k => by simp
  | p :: r, c, k => by
    rw [List.foldl_cons, fold_getD r, bump_getD, List.count_cons]
    by_cases e : k = p
    · subst e; simp; omega
    · have : (p == k) = false := by simpa using fun q => e q.symm
      simp [e, this]
theorem fold_len : ∀ (ps : List Nat) (c : List Int) (b : Nat), (∀ p ∈ ps, p < b) → c.length ≤ b → (ps.foldl bumpC c).length ≤ b ∧ c.length ≤ (ps.foldl bumpC c).length ∧ ∀ p ∈ ps, p < (ps.foldl bumpC c).length
  | [], c, b, _, h => ⟨h, Nat.le_refl _, fun _ q => nomatch q⟩
  | p :: r, c, b, hp, h => by
    have h1 := hp p (.head _)
    have hl : (bumpC c p).length = max c.length (p + 1) := bumpC_len
    obtain ⟨a1, a2, a3⟩ := fold_len r (bumpC c p) b (fun q hq => hp q (.tail _ hq)) (by omega)
    rw [List.foldl_cons]
    refine ⟨a1, by omega, fun q hq => ?_⟩
    rcases List.mem_cons.mp hq with rfl | hq
    · omega
    · exact a3 q hq
theorem list4 {l : List Int} (h : l.length = 4) : l = [l.getD 0 0, l.getD 1 0, l.getD 2 0, l.getD 3 0] := by
  match l, h with
  | [a, b, c, d], _ => rfl
theorem list3 {l : List Int} (h : l.length = 3) : l = [l.getD 0 0, l.getD 1 0, l.getD 2 0] := by
  match l, h with
  | [a, b, c], _ => rfl
theorem hist4 {ps : List Nat} (h3 : 3 ∈ ps) (hp : ∀ p ∈ ps, p ≤ 3) : histF ps = [((ps.count 0 : Nat) : Int), (ps.count 1 : Nat), (ps.count 2 : Nat), (ps.count 3 : Nat)] := by
  obtain ⟨a1, _, a3⟩ := fold_len ps [] 4 (fun p q => by have := hp p q; omega) (by decide)
  have := a3 3 h3
  have hl : (histF ps).length = 4 := by unfold histF; omega
  rw [list4 hl]
  unfold histF
  simp only [fold_getD]
  simp
theorem count_low {ps : List Nat} (hp : ∀ p ∈ ps, p ≤ 3) : (ps.map lowF).count 0 = ps.count 0 ∧ (ps.map lowF).count 1 = ps.count 1 ∧ (ps.map lowF).count 2 = ps.count 2 + ps.count 3 := by
  induction ps with
  | nil => exact ⟨rfl, rfl, rfl⟩
  | cons p r ih =>
    obtain ⟨i0, i1, i2⟩ := ih fun q hq => hp q (.tail _ hq)
    have h := hp p (.head _)
    simp only [List.map_cons, List.count_cons, i0, i1, i2]
    obtain rfl | rfl | rfl | rfl : p = 0 ∨ p = 1 ∨ p = 2 ∨ p = 3 := by omega
    all_goals simp [lowF]
    all_goals omega
theorem histL {ps : List Nat} (h3 : 3 ∈ ps) (hp : ∀ p ∈ ps, p ≤ 3) : histF (ps.map lowF) = [((ps.count 0 : Nat) : Int), (ps.count 1 : Nat), ((ps.count 2 + ps.count 3 : Nat) : Int)] := by
  obtain ⟨a1, _, a3⟩ := fold_len (ps.map lowF) [] 3 (by
    intro p q
    obtain ⟨x, _, rfl⟩ := List.mem_map.mp q
    unfold lowF
    split <;> omega) (by decide)
  have := a3 2 (List.mem_map.mpr ⟨3, h3, rfl⟩)
  have hl : (histF (ps.map lowF)).length = 3 := by unfold histF; omega
  obtain ⟨c0, c1, c2⟩ := count_low hp
  rw [list3 hl]
  unfold histF
  simp only [fold_getD]
  rw [c0, c1, c2]
  simp
theorem mge_counts {ps : List Nat} (hp : ∀ p ∈ ps, p ≤ 3) : mge (ps.map Int.ofNat) 1 = ps.count 1 + ps.count 2 + ps.count 3 ∧ mge (ps.map Int.ofNat) 2 = ps.count 2 + ps.count 3 ∧ mge (ps.map Int.ofNat) 3 = ps.count 3 := by
  induction ps with
  | nil => exact ⟨rfl, rfl, rfl⟩
  | cons p r ih =>
    obtain ⟨i0, i1, i2⟩ := ih fun q hq => hp q (.tail _ hq)
    have h := hp p (.head _)
    unfold mge at *
    simp only [List.map_cons, List.countP_cons, List.count_cons, i0, i1, i2]
    obtain rfl | rfl | rfl | rfl : p = 0 ∨ p = 1 ∨ p = 2 ∨ p = 3 := by omega
    all_goals simp
    all_goals omega
theorem ilv4 {a b c d : Int} : ilv [a, b, c, d] 10 1 = 10 + (b + 2 * c + 3 * d) ∧ ilv [a, b, c, d] 10 2 = 2 * (10 + (c + d)) ∧ ilv [a, b, c, d] 10 3 = 3 * (10 + d) ∧ ilv [a, b, c, d] 10 4 = 40 := by
  refine ⟨?_, ?_, ?_, ?_⟩
  all_goals simp [ilv, ilF]
  all_goals omega
theorem ilv3 {a b c : Int} : ilv [a, b, c] 10 1 = 10 + (b + 2 * c) ∧ ilv [a, b, c] 10 2 = 2 * (10 + c) ∧ ilv [a, b, c] 10 3 = 30 ∧ ilv [a, b, c] 10 4 = 40 := by
  refine ⟨?_, ?_, ?_, ?_⟩
  all_goals simp [ilv, ilF]
  all_goals omega
theorem has3_dec : ∀ a ∈ R4, ∀ b ∈ R4, ∀ c ∈ R4, ∀ d ∈ R4, ([a, b, c, d] : List Int).isPerm [0, 1, 2, 3] = true → ∀ e ∈ R4, ∀ f ∈ R4, ∀ g ∈ R4, ∀ h ∈ R4, ([e, f, g, h] : List Int).isPerm [0, 1, 2, 3] = true →
    (3 : Int) ∈ placesOf [a, b, c, d] [e, f, g, h] := by
  decide +kernel
theorem placesOf_app : ∀ (a b l : List Int), placesOf l (a ++ b) = placesOf l a ++ placesOf (a.foldl mtf l) b
  | [], _, _ => rfl
  | n :: r, b, l => by rw [List.cons_append, placesOf, placesOf, placesOf_app r b, List.foldl_cons]; rfl
theorem has3 {ms order : List Int} (hm : ∀ n ∈ ms, n ∈ R4) (ho : order.Perm [0, 1, 2, 3]) : 3 ∈ placesN [3, 2, 1, 0] (ms ++ order) := by
  have hl : (ms.foldl mtf [3, 2, 1, 0]).Perm [0, 1, 2, 3] := foldl_mtf_perm (by decide) hm
  obtain ⟨a, b, c, d, e1, ha, hb, hc, hd⟩ := perm_four hl
  obtain ⟨e, f, g, h, e2, he, hf, hg, hh⟩ := perm_four ho
  have k := has3_dec a ha b hb c hc d hd (List.isPerm_iff.mpr (e1 ▸ hl)) e he f hf g hg h hh (List.isPerm_iff.mpr (e2 ▸ ho))
  unfold placesN
  rw [placesOf_app, e1, e2]
  exact List.mem_map.mpr ⟨3, List.mem_append_right _ k, rfl⟩
end Mine
namespace Mine
theorem law_plain {ms order ns : List Int} (hE : ns = ms ++ order) (hm : ∀ n ∈ ms, n ∈ R4) (ho : order.Perm [0, 1, 2, 3]) {a b c d : Int} (ho4 : order = [a, b, c, d]) (hb : ∀ n ∈ ms.reverse ++ [3, 2, 1, 0], n ∈ R4) {ps bs : List Nat} (hps : placesN [3, 2, 1, 0] ns = ps) (hbs : placesN [a, b, c, d] (ms.reverse ++ [3, 2, 1, 0]) = bs) (hl : ps.length = 10) :
    ∃ c0 c1 c2 c3 : Nat, 1 ≤ c3 ∧ c0 ≤ 10 ∧ c1 ≤ 10 ∧ c2 ≤ 10 ∧ c3 ≤ 10 ∧ histF ps = [(c0 : Int), (c1 : Int), (c2 : Int), (c3 : Int)] ∧ histF (ps.map lowF) = [(c0 : Int), (c1 : Int), ((c2 + c3 : Nat) : Int)] ∧ histF bs = [(c0 : Int), (c1 : Int), (c2 : Int), (c3 : Int)] ∧
      mis3 (placesOf [3, 2, 1, 0] ns) = [((c1 + c2 + c3 : Nat) : Int), ((c2 + c3 : Nat) : Int), (c3 : Int)] := by
  subst hE ho4
  have hn : ∀ n ∈ ms ++ [a, b, c, d], n ∈ R4 := fun n h => (List.mem_append.mp h).elim (hm n) fun q => ho.mem_iff.mp q
  have h3 : 3 ∈ ps := hps ▸ has3 hm ho
  have hp : ∀ p ∈ ps, p ≤ 3 := hps ▸ placesN_le _ _ (by decide) hn
  have hpm : bs.Perm ps := by rw [← hbs, ← hps]; exact back_perm ho hn hb
  have hB := hist4 (hpm.mem_iff.mpr h3) fun p q => hp p (hpm.mem_iff.mp q)
  rw [hpm.count_eq, hpm.count_eq, hpm.count_eq, hpm.count_eq] at hB
  obtain ⟨m1, m2, m3⟩ := mge_counts hp
  have le := fun k => List.count_le_length (a := k) (l := ps)
  refine ⟨ps.count 0, ps.count 1, ps.count 2, ps.count 3, List.count_pos_iff.mpr h3, hl ▸ le 0, hl ▸ le 1, hl ▸ le 2, hl ▸ le 3, hist4 h3 hp, histL h3 hp, hB, ?_⟩
  rw [placesOf_nat, hps, mis3, m1, m2, m3]
end Mine
end

section
open PySem PySem.W PyProof.Rows PySem.Calls PySem.Spec PyProof.V
set_option Elab.async false
namespace Mine
local macro_rules | `(tactic| omega) => `(tactic| walk_at "shared 1")
theorem shaped_ints (a : List Int) : SeqAt.shaped (.list (a.map .int)) = true := by
  simp [SeqAt.shaped, PyData.canLay0, PyData.canLayAll0, PyData.depth, PyData.depthAll, ke_canLayAll0, ke_depthAll]
theorem eqv_ints (a b : List Int) : PyData.eqv (.list (a.map .int)) (.list (b.map .int)) = decide (a = b) := by
  simp [PyData.eqv, PyData.eqvAll, ked_eqvAll]
section
variable {prog : Program} {w : World} {A : Around} {E : Value → Shared → Prop} {s : Shared} {a b : Addr} {vs ws : List Value} {n k : Nat} {ns : List Int} {Q : Value → Shared → Prop}
theorem ne_ints_same (ha : s.heap.get? a = some (listOf vs.toArray n)) (hb : s.heap.get? b = some (listOf ws.toArray k)) (hi : IntsAre vs ns) (hj : IntsAre ws ns) (hu : A.units + 64 < cLine) (h : Q (.bool false) s) :
    wpAny (model prog w) A (compareOp .NotEq (.ref a) (.ref b)) Q E s := by
  refine ne_dataH (.list ha rfl rfl (hi.reads _)) (.list hb rfl rfl (hj.reads _)) (shaped_ints _) (shaped_ints _) hu ?_
  rw [eqv_ints, decide_eq_true rfl]
  exact h
end
end Mine
namespace Mine
theorem ws_news {w : World} {g h h' : Heap} {L x : Addr} {count : List Int} {nt : Nat} {m : Str → Option Value} {news : List (Addr × Obj)} (F : Fr g L h m) (N : News g L h news) (hk : ∀ b o, h.get? b = some o → h'.get? b = some o) (W : IsWs w h h' x count nt) :
    Fr g L h' m ∧ ∃ (dx Dn Dt : Addr) (cv : List Value) (rs : Str) (n : Nat) (sm : Bool) (tb t1 t2 t3 t4 t5 t6 t7 t8 : Tok),
      News g L h' ((Dn, tupO [Value.ref Dt, Value.int 0 tb]) :: (Dt, tupO cv) :: (x, instObj 142 dx) :: (dx, wsDict w rs n nt Dn sm t1 t2 t3 t4 t5 t6 t7 t8) :: news) ∧
      (∀ h2, News g L h2 [(Dn, tupO [Value.ref Dt, Value.int 0 tb]), (Dt, tupO cv), (x, instObj 142 dx), (dx, wsDict w rs n nt Dn sm t1 t2 t3 t4 t5 t6 t7 t8)] → IsWsN w g L h2 x count nt) := by
  obtain ⟨dx, Dn, Dt, cv, rs, n, sm, tb, t1, t2, t3, t4, t5, t6, t7, t8, hN, hi, ne⟩ := W
  have F' := F.keeps hk
  have N' := News.grown N hk
  refine ⟨F', dx, Dn, Dt, cv, rs, n, sm, tb, t1, t2, t3, t4, t5, t6, t7, t8, ?_, fun h2 N2 => ⟨dx, Dn, Dt, cv, rs, n, sm, tb, t1, t2, t3, t4, t5, t6, t7, t8, N2, hi, ne⟩⟩
  have one : ∀ q ∈ [(Dn, tupO [Value.ref Dt, Value.int 0 tb]), (Dt, tupO cv), (x, instObj 142 dx), (dx, wsDict w rs n nt Dn sm t1 t2 t3 t4 t5 t6 t7 t8)], h'.get? q.1 = some q.2 ∧ q.1 ≠ L ∧ g.get? q.1 = none := by
    intro q hq
    have hq2 := hN q hq
    refine ⟨hq2.1, fun e => ?_, ?_⟩
    · obtain ⟨oL, es, ep, hL, r⟩ := F.ns
      have h2 := hq2.2
      rw [e, hL] at h2
      cases h2
    · cases z : g.get? q.1 with
      | none => rfl
      | some o => have h2 := hq2.2; rw [F.keep _ _ z] at h2; cases h2
  intro p hp
  simp only [List.mem_cons] at hp
  rcases hp with hp | hp | hp | hp | hp
  · exact one p (by rw [hp]; simp)
  · exact one p (by rw [hp]; simp)
  · exact one p (by rw [hp]; simp)
  · exact one p (by rw [hp]; simp)
  · exact N' p hp
end Mine
namespace Mine
theorem indent_specI {p : Program} {loose : List Str} {mean : ExcName → Option Value} {mg mb : Str → Option Value} {w : World} {A : Around} {s : Shared} {h₀ : Heap} {x : Addr} {count : List Int} {nt : Nat} {size : Int} {tz : Tok} {Q E : Value → Shared → Prop}
    (X : (hd.heap_1 w.params).In h₀) (T : Top p loose mean mg mb h₀) (hk₀ : ∀ b o, h₀.get? b = some o → s.heap.get? b = some o)
    (hW : IsWs w h₀ s.heap x count nt) (hs : 1 ≤ size ∧ size ≤ 10) (hc : count.length ≤ 10)
    (hh : A.handled = none) (hroom : A.depth + 8 < recursionLimit) (hu : A.units + 60 < cLine)
    (hQ : ∀ h' tk t, (∀ b o, s.heap.get? b = some o → h'.get? b = some o) → Q (.int (ilv count nt size.toNat) t) { s with heap := h', toks := tk }) :
    wpAny (model PR w) A (call (.ref 111) [.ref x, .int size tz]) Q E s := by
  obtain ⟨n, rfl⟩ : ∃ n : Nat, size = (n : Int) := ⟨size.toNat, by omega⟩
  refine indent_spec X T hk₀ hW ⟨by omega, by omega⟩ hc hh hroom hu ?_
  intro h' tk t hk
  exact hQ h' tk t hk
end Mine
end

section
open PySem PySem.W PyProof.Rows PySem.Calls PySem.Spec PyProof.V
set_option Elab.async false
namespace Mine
section
variable {prog : Program} {w : World} {A : Around} {E : Value → Shared → Prop} {s : Shared} {t : Addr} {Q : Value → Shared → Prop} {g : Heap} {L : Addr} {m : Str → Option Value} {news : List (Addr × Obj)}
theorem sumEx (l : List (Int × Tok)) {items : Array Value} {S : Int} (hh : A.handled = none) (F : Fr g L s.heap m) (N : News g L s.heap news) (ht : s.heap.IsList t items) (hi : items = intItems l.toArray) (hS : preSum (numAt l.toArray) l.toArray.size = S)
    (h : ∀ h' tk t', Fr g L h' m → News g L h' news → Q (.int S t') { s with heap := h', toks := tk }) : wpAny (model prog w) A (call (.builtin "sum") [.ref t]) Q E s := by
  subst hi hS
  exact sum_listG hh ht fun h' tk t' hk => h h' tk t' (F.keeps hk) (N.grown hk)
theorem ex3 {a b c : Int} {x y z : Tok} : slicePick #[Value.int a x, Value.int b y, Value.int c z] (some 0) none (some 1) = intItems [(a, x), (b, y), (c, z)].toArray := by
  have e : sliceRange (sliceBounds (some 0) none (some 1) 3).1 (sliceBounds (some 0) none (some 1) 3).2.1 (sliceBounds (some 0) none (some 1) 3).2.2 = [0, 1, 2] := by decide +kernel
  unfold slicePick
  rw [show (#[Value.int a x, Value.int b y, Value.int c z] : Array Value).size = 3 from rfl, e]
  simp [intItems]
theorem ex2 {a b c : Int} {x y z : Tok} : slicePick #[Value.int a x, Value.int b y, Value.int c z] (some 1) none (some 2) = intItems [(b, y)].toArray := by
  have e : sliceRange (sliceBounds (some 1) none (some 2) 3).1 (sliceBounds (some 1) none (some 2) 3).2.1 (sliceBounds (some 1) none (some 2) 3).2.2 = [1] := by decide +kernel
  unfold slicePick
  rw [show (#[Value.int a x, Value.int b y, Value.int c z] : Array Value).size = 3 from rfl, e]
  simp [intItems]
theorem ex1 {a b c : Int} {x y z : Tok} : slicePick #[Value.int a x, Value.int b y, Value.int c z] (some 2) none (some 3) = intItems [(c, z)].toArray := by
  have e : sliceRange (sliceBounds (some 2) none (some 3) 3).1 (sliceBounds (some 2) none (some 3) 3).2.1 (sliceBounds (some 2) none (some 3) 3).2.2 = [2] := by decide +kernel
  unfold slicePick
  rw [show (#[Value.int a x, Value.int b y, Value.int c z] : Array Value).size = 3 from rfl, e]
  simp [intItems]
theorem ex0 {a b c : Int} {x y z : Tok} : slicePick #[Value.int a x, Value.int b y, Value.int c z] (some 3) none (some 4) = intItems [].toArray := by
  have e : sliceRange (sliceBounds (some 3) none (some 4) 3).1 (sliceBounds (some 3) none (some 4) 3).2.1 (sliceBounds (some 3) none (some 4) 3).2.2 = [] := by decide +kernel
  unfold slicePick
  rw [show (#[Value.int a x, Value.int b y, Value.int c z] : Array Value).size = 3 from rfl, e]
  simp [intItems]
theorem s3 {a b c : Int} {x y z : Tok} : preSum (numAt [(a, x), (b, y), (c, z)].toArray) [(a, x), (b, y), (c, z)].toArray.size = a + b + c := by
  simp [preSum, numAt]
theorem s2 {a b : Int} {x y : Tok} : preSum (numAt [(a, x), (b, y)].toArray) [(a, x), (b, y)].toArray.size = a + b := by
  simp [preSum, numAt]
theorem s1 {a : Int} {x : Tok} : preSum (numAt [(a, x)].toArray) [(a, x)].toArray.size = a := by
  simp [preSum, numAt]
theorem s0 : preSum (numAt ([] : List (Int × Tok)).toArray) ([] : List (Int × Tok)).toArray.size = 0 := by
  simp [preSum, numAt]
end
end Mine
end

section
open PySem PySem.W PyProof.Rows PySem.Calls PySem.Spec PyProof.V
set_option Elab.async false
namespace Mine
local macro_rules | `(tactic| omega) => `(tactic| walk_at "shared 1")
theorem difs_low {c0 c1 c2 c3 : Nat} (h : 1 ≤ c3) : difs (ilv [(c0 : Int), (c1 : Int), (c2 : Int), (c3 : Int)] 10) (ilv [(c0 : Int), (c1 : Int), ((c2 + c3 : Nat) : Int)] 10) 4 =
    [(1, 10 + ((c1 : Int) + 2 * c2 + 3 * c3), 10 + ((c1 : Int) + 2 * ((c2 + c3 : Nat) : Int))), (3, 3 * (10 + (c3 : Int)), 30)] := by
  obtain ⟨a1, a2, a3, a4⟩ := ilv4 (a := (c0 : Int)) (b := (c1 : Int)) (c := (c2 : Int)) (d := (c3 : Int))
  obtain ⟨b1, b2, b3, b4⟩ := ilv3 (a := (c0 : Int)) (b := (c1 : Int)) (c := ((c2 + c3 : Nat) : Int))
  simp only [difs, Nat.zero_add, a1, b1, List.nil_append]
  rw [show (1 + 1 : Nat) = 2 from rfl, show (2 + 1 : Nat) = 3 from rfl, show (3 + 1 : Nat) = 4 from rfl, a2, a3, a4, b2, b3, b4]
  rw [if_pos (by omega), if_neg (by omega), if_pos (by omega), if_neg (by omega)]
  rfl
theorem difs_same (f : Nat → Int) : ∀ k, difs f f k = []
  | 0 => rfl
  | k + 1 => by rw [difs, difs_same f k, if_neg (fun q => q rfl)]; rfl
theorem tups2 {av : List Value} {tups : List (Addr × Obj)} {a b c a' b' c' : Int} (h : TupsOk av tups [(a, b, c), (a', b', c')]) :
    ∃ T T' t1 t2 t3 t4 t5 t6, av = [Value.ref T, Value.ref T'] ∧ tups = [(T', tupO [.int a' t4, .int b' t5, .int c' t6]), (T, tupO [.int a t1, .int b t2, .int c t3])] := by
  generalize hw : [(a, b, c), (a', b', c')] = ws at h
  cases h with
  | nil => cases hw
  | @snoc av1 tups1 ws1 T' x y z u1 u2 u3 h1 =>
    have hl := congrArg List.length hw
    rw [List.length_append] at hl
    have e1 : ws1 = [(a, b, c)] := by
      have := congrArg (List.take 1) hw
      rw [List.take_append_of_le_length (by simp at hl; omega), List.take_of_length_le (l := ws1) (by simp at hl; omega)] at this
      exact this.symm
    have e2 : (x, y, z) = (a', b', c') := by
      rw [e1] at hw
      simpa using (List.cons.inj (List.cons.inj hw).2).1.symm
    subst e1
    cases e2
    generalize hw1 : [(a, b, c)] = ws2 at h1
    cases h1 with
    | nil => cases hw1
    | @snoc av2 tups2 ws2 T x y z v1 v2 v3 h2 =>
      have hl := congrArg List.length hw1
      rw [List.length_append] at hl
      have e3 : ws2 = [] := by simpa using hl
      subst e3
      cases hw1
      generalize hz : ([] : List (Int × Int × Int)) = z at h2
      cases h2 with
      | nil => exact ⟨_, _, _, _, _, _, _, _, rfl, rfl⟩
      | snoc => simp at hz
theorem put_list {g h h' : Heap} {L : Addr} {m : Str → Option Value} {news l : List (Addr × Obj)} (F : Fr g L h m) (N : News g L h news) (hk : ∀ b x, h.get? b = some x → h'.get? b = some x) (hl : ∀ q ∈ l, h'.get? q.1 = some q.2 ∧ q.1 ≠ L ∧ g.get? q.1 = none) :
    Fr g L h' m ∧ News g L h' (l ++ news) := by
  have N' := News.grown N hk
  refine ⟨F.keeps hk, fun p hp => ?_⟩
  rcases List.mem_append.mp hp with hp | hp
  · exact hl p hp
  · exact N' p hp
theorem reads_two {h : Heap} {D T T' : Addr} {n : Nat} {a b c a' b' c' : Int} {t1 t2 t3 t4 t5 t6 : Tok} (hD : h.get? D = some (listOf #[Value.ref T, Value.ref T'] n)) (h1 : h.get? T = some (tupO [.int a t1, .int b t2, .int c t3])) (h2 : h.get? T' = some (tupO [.int a' t4, .int b' t5, .int c' t6])) :
    Reads h (.ref D) (.list [td (a, b, c), td (a', b', c')]) [D] :=
  .list hD rfl rfl (.cons (as := []) (bs := []) (.tuple h1 rfl rfl (.cons (as := []) (bs := []) (.int _ _) (.cons (as := []) (bs := []) (.int _ _) (.cons (as := []) (bs := []) (.int _ _) .nil)))) (.cons (as := []) (bs := []) (.tuple h2 rfl rfl (.cons (as := []) (bs := []) (.int _ _) (.cons (as := []) (bs := []) (.int _ _) (.cons (as := []) (bs := []) (.int _ _) .nil)))) .nil))
theorem shaped_two (p q : Int × Int × Int) : SeqAt.shaped (.list [td p, td q]) = true := by
  simp [td, SeqAt.shaped, PyData.canLay0, PyData.canLayAll0, PyData.depth, PyData.depthAll]
theorem eqv_two (p q : Int × Int × Int) : PyData.eqv (.list [td p, td q]) (.list [td p, td q]) = true := by
  simp [td, PyData.eqv, PyData.eqvAll]
end Mine
namespace Mine
section
variable {prog : Program} {w : World} {A : Around} {E : Value → Shared → Prop} {s : Shared} {Q : Value → Shared → Prop}
theorem ne_two {D T T' D2 T2 T2' : Addr} {n n2 : Nat} {a b c a' b' c' a2 b2 c2 a2' b2' c2' : Int} {t1 t2 t3 t4 t5 t6 u1 u2 u3 u4 u5 u6 : Tok} (hD : s.heap.get? D = some (listOf #[Value.ref T, Value.ref T'] n)) (h1 : s.heap.get? T = some (tupO [.int a t1, .int b t2, .int c t3])) (h2 : s.heap.get? T' = some (tupO [.int a' t4, .int b' t5, .int c' t6]))
    (hD2 : s.heap.get? D2 = some (listOf #[Value.ref T2, Value.ref T2'] n2)) (h12 : s.heap.get? T2 = some (tupO [.int a2 u1, .int b2 u2, .int c2 u3])) (h22 : s.heap.get? T2' = some (tupO [.int a2' u4, .int b2' u5, .int c2' u6]))
    (e1 : a2 = a) (e2 : b2 = b) (e3 : c2 = c) (e4 : a2' = a') (e5 : b2' = b') (e6 : c2' = c') (hu : A.units + 64 < cLine) (h : Q (.bool false) s) :
    wpAny (model prog w) A (compareOp .NotEq (.ref D) (.ref D2)) Q E s := by
  subst e1 e2 e3 e4 e5 e6
  refine ne_dataH (reads_two hD h1 h2) (reads_two hD2 h12 h22) (shaped_two _ _) (shaped_two _ _) hu ?_
  rw [eqv_two]
  exact h
theorem eq_nil {D D2 : Addr} {n n2 : Nat} (hD : s.heap.get? D = some (listOf #[] n)) (hD2 : s.heap.get? D2 = some (listOf #[] n2)) (hu : A.units + 64 < cLine) (h : Q (.bool true) s) :
    wpAny (model prog w) A (compareOp .Eq (.ref D) (.ref D2)) Q E s := by
  refine eq_dataH (da := .list []) (db := .list []) (.list hD rfl rfl .nil) (.list hD2 rfl rfl .nil) (by rfl) (by rfl) hu ?_
  exact h
theorem tups0 {av : List Value} {tups : List (Addr × Obj)} (h : TupsOk av tups []) : av = [] ∧ tups = [] := by
  generalize hz : ([] : List (Int × Int × Int)) = z at h
  cases h with
  | nil => exact ⟨rfl, rfl⟩
  | snoc => simp at hz
end
end Mine
end

section
namespace Mine
structure Box (P : Prop) : Prop where
  out : P
structure Cut1 (G : Prop) where
  P : Prop
  h : Box P → G
structure Cut2 (G : Prop) where
  P : Prop
  R : Prop
  h : Box P → Box R → G
end Mine
end

local macro_rules | `(tactic| walk_at "shared 19") => `(tactic| first | (with_reducible refine st8 ?_) | (with_reducible refine st18 ?_))

local macro_rules | `(tactic| walk_at "shared 20") => `(tactic| (k_dflt (refine LCg.Assign_ListComp_U (F₀ := by k_asm) (by rfl) (by with_unfolding_all rfl) (by rfl) (by decide) (by rfl) (by decide) (by rfl) (by rfl) (by rfl) ?_)))

local macro_rules | `(tactic| walk_at "shared 21") => `(tactic| (with_reducible refine st13 ?_))

section
open PySem PySem.W PyProof.Rows PySem.Calls PySem.Spec PyProof.V
set_option Elab.async false
namespace Mine
local macro_rules | `(tactic| k_qdec) => `(tactic| decide +kernel)
local macro_rules | `(tactic| walk_at "my stop") => `(tactic| walk_at "shared 19")
local macro_rules | `(tactic| walk_at "exec Assign cons ListComp") => `(tactic| walk_at "shared 20")
local macro_rules | `(tactic| walk_at "CompSrc") => `(tactic| (k_here; k_dflt (refine LCg.CompSrc.range (n := 6) (by rfl) (by k_asm) (by k_asm) (by assumption) (by decide) (by rfl) (by exact Nat.le_of_ble_eq_true rfl) ?_; intro g')))
local macro_rules | `(tactic| walk_at "my stop") => `(tactic| walk_at "shared 21")
local macro_rules | `(tactic| walk_at "call builtin:sum") => `(tactic| ((with_reducible show wpAny _ _ (call (Value.builtin _) [Value.ref _]) _ _ _); k_dflt (refine sum_someA rfl (by k_asm) (by k_asm) (News.isList (by k_asm) (by k_mem)) (by first | with_reducible assumption | exact IntsAre.pick (by with_reducible assumption) _ _ _) ?_); intro h' tk' v' t' F' N'; (try k_sweep)))
local macro_rules | `(tactic| walk_at "my walk") => `(tactic| walk_at "shared 2")
set_option maxRecDepth 100000 in
set_option maxHeartbeats 8000000 in
noncomputable def S1 : Cut1 (PySem.Challenge.rw_sc0077_01.Holds) := by
  w_top off
  apply Cut1.mk
  intro kBoxP
  · exact hd (by
      w_strict (
        k_go0
        (all_goals try k_fold)
        walk_at "my walk"
        refine rest_ind (fun j zs => ∃ ms : List Int, IntsAre zs ms ∧ ms.length = j ∧ ∀ m ∈ ms, 0 ≤ m ∧ m < 4) ⟨[], .nil, rfl, by simp⟩ ?_ ?_
        · intro j zs v I' oI' C oC D m₂ h tk E' hjn hzs hP hC hx F N off ne
          obtain ⟨tj, rfl⟩ := hP
          have off' := off
          (try simp only [LCg.Off3, and_true] at off')
          obtain ⟨ms, hms, hmj, hmb⟩ := hzs
          walk_at "my walk"
          rename Fr _ _ _ _ => F9
          rename News _ _ _ _ => N9
          refine LCg.CompEnd.intro F9 N9 _ ?_ off (by lcg_src) ⟨rfl, ⟨ms ++ [_], hms.append (.cons _ _ .nil), by rw [List.length_append, hmj]; rfl, ?_⟩⟩
          · lcg_sub
          · intro m hm
            rcases List.mem_append.mp hm with h1 | h1
            · exact hmb m h1
            · rw [List.mem_singleton.mp h1]
              exact ⟨by rw [Int.fmod_eq_emod_of_nonneg _ (by decide)]; exact Int.emod_nonneg _ (by decide), Int.fmod_lt_of_pos _ (by decide)⟩
        intro ys hys
        obtain ⟨ms, hms, hm6, hmb⟩ := hys
        walk_at "my walk"
        rename Fr _ _ _ _ => F9
        rename News _ _ _ _ => N9
        rename Top _ _ _ _ _ _ => T9
        rename Frag.In _ _ => X9
        refine order_spec (X9.keeps F9.keep) (T9.keeps F9.keep) ⟨by rw [Int.fmod_eq_emod_of_nonneg _ (by decide)]; exact Int.emod_nonneg _ (by decide), Int.fmod_lt_of_pos _ (by decide)⟩ rfl (by first | (simp only [depth_deeper, depth_caller]; decide) | (show callerA.depth + 1 + 8 < recursionLimit; decide)) (by first | k_room | ke_room | (dsimp only [Around.deeper]; decide) | (show callerA.units + 60 < cLine; decide)) ?_
        intro h' tk D ov n order hk hD hov hperm hDn
        rename_i zbx1 zbx2 zbx3 zbx4 zbx5 zbx6 zbx7 zbx8 zbx9 zbx10 zbx11 zbx12 zbx13 zbx14 zbx15 zbx16 zbx17 zbx18 zbx19 zbx20 zbx21 zbx22 zbx23 zbx24 zbx25 zbx26 zbx27 zbx28 zbx29 zbx30 zbx31 zbx32 zbx33 zbx34 zbx35 zbx36 zbx37 zbx38 zbx39 zbx40 zbx41 zbx42 zbx43 zbx44 zbx45 zbx46 zbx47 zbx48 zbx49 zbx50 zbx51 zbx52 zbx53 zbx54 zbx55 zbx56 zbx57 zbx58 zbx59 zbx60 zbx61 zbx62 zbx63 zbx64 zbx65 zbx66 zbx67 zbx68 zbx69 zbx70 zbx71 zbx72 zbx73 zbx74 zbx75 zbx76 zbx77 zbx78 zbx79 zbx80 zbx81 zbx82 zbx83 zbx84 zbx85 zbx86 zbx87 zbx88 zbx89 zbx90 zbx91 zbx92 zbx93 zbx94 zbx95 zbx96 zbx97 zbx98 zbx99 zbx100 zbx101 zbx102 zbx103 zbx104 zbx105 zbx106 zbx107
        revert zbx1 zbx2 zbx3 zbx4 zbx5 zbx6 zbx7 zbx8 zbx9 zbx10 zbx11 zbx12 zbx13 X9 zbx14 zbx15 zbx16 T9 zbx17 zbx18 zbx19 zbx20 zbx21 zbx22 zbx23 zbx24 zbx25 zbx26 zbx27 zbx28 zbx29 zbx30 zbx31 zbx32 zbx33 zbx34 zbx35 zbx36 zbx37 zbx38 zbx39 zbx40 zbx41 zbx42 zbx43 zbx44 zbx45 zbx46 zbx47 zbx48 zbx49 zbx50 zbx51 zbx52 zbx53 zbx54 zbx55 zbx56 zbx57 zbx58 zbx59 zbx60 zbx61 qk ek zbx62 zbx63 zbx64 zbx65 zbx66 zbx67 zbx68 zbx69 zbx70 zbx71 zbx72 zbx73 zbx74 zbx75 zbx76 zbx77 zbx78 zbx79 zbx80 zbx81 zbx82 zbx83 zbx84 zbx85 zbx86 zbx87 zbx88 zbx89 zbx90 ys ms hms hm6 hmb zbx91 zbx92 zbx93 zbx94 zbx95 zbx96 zbx97 zbx98 zbx99 zbx100 zbx101 zbx102 zbx103 zbx104 zbx105 zbx106 zbx107 F9 N9 h' tk D ov n order hk hD hov hperm hDn
        exact kBoxP.out))
end Mine
end

section
open PySem PySem.W PyProof.Rows PySem.Calls PySem.Spec PyProof.V
set_option Elab.async false
namespace Mine
local macro_rules | `(tactic| walk_at "my spare") => `(tactic| fail "none")
local macro_rules | `(tactic| omega) => `(tactic| walk_at "shared 1")
local macro_rules | `(tactic| walk_at "my stop") => `(tactic| walk_at "shared 19")
local macro_rules | `(tactic| walk_at "exec Assign cons ListComp") => `(tactic| walk_at "shared 20")
local macro_rules | `(tactic| walk_at "my stop") => `(tactic| walk_at "shared 21")
local macro_rules | `(tactic| walk_at "my walk") => `(tactic| walk_at "shared 2")
local macro_rules | `(tactic| walk_at "call builtin:sum") => `(tactic| ((with_reducible show wpAny _ _ (call (Value.builtin _) [Value.ref _]) _ _ _); k_dflt (refine sum_someA rfl (by k_asm) (by k_asm) (News.isList (by k_asm) (by k_mem)) (by first | with_reducible assumption | exact IntsAre.pick (by with_reducible assumption) _ _ _) ?_); intro h' tk' v' t' F' N'; replace N' := drop1 N'; (try k_sweep)))
local macro_rules | `(tactic| walk_at "my stop") => `(tactic| (with_reducible refine st4 ?_))
set_option maxRecDepth 100000 in
set_option maxHeartbeats 8000000 in
noncomputable def S2 : Cut1 (S1.P) := by
  w_top off
  apply Cut1.mk
  intro kBoxP
  · intro zbx1 zbx2 zbx3 zbx4 zbx5 zbx6 zbx7 zbx8 zbx9 zbx10 zbx11 zbx12 zbx13 X9 zbx14 zbx15 zbx16 T9 zbx17 zbx18 zbx19 zbx20 zbx21 zbx22 zbx23 zbx24 zbx25 zbx26 zbx27 zbx28 zbx29 zbx30 zbx31 zbx32 zbx33 zbx34 zbx35 zbx36 zbx37 zbx38 zbx39 zbx40 zbx41 zbx42 zbx43 zbx44 zbx45 zbx46 zbx47 zbx48 zbx49 zbx50 zbx51 zbx52 zbx53 zbx54 zbx55 zbx56 zbx57 zbx58 zbx59 zbx60 zbx61 qk ek zbx62 zbx63 zbx64 zbx65 zbx66 zbx67 zbx68 zbx69 zbx70 zbx71 zbx72 zbx73 zbx74 zbx75 zbx76 zbx77 zbx78 zbx79 zbx80 zbx81 zbx82 zbx83 zbx84 zbx85 zbx86 zbx87 zbx88 zbx89 zbx90 ys ms hms hm6 hmb zbx91 zbx92 zbx93 zbx94 zbx95 zbx96 zbx97 zbx98 zbx99 zbx100 zbx101 zbx102 zbx103 zbx104 zbx105 zbx106 zbx107 F9 N9 h' tk D ov n order hk hD hov hperm hDn
    replace F9 := F9.keeps hk
    replace N9 := News.grown N9 hk
    have hDl : h'.IsList D ov.toArray := ⟨_, hD, rfl, _, rfl⟩
    have hol : order.length = 4 := hperm.length_eq
    refine kmk_add_ints F9 N9 (by kmk_list) hDl (ns := [0,1,2,3] ++ ms) (by assumption) hov ?_ (by rw [List.length_append, hm6, hol, sizeLine_eq]; decide)
    clear F9 N9
    intro D' us h2 F' N' l1 hI'
    k_lt l1
    clear hDl hDn hD hk hov
    dsimp only at N' l1 ⊢
    replace N' := drop2 N'
    walk_at "my walk"
    refine wpAny_For ?_ (by intro _; rfl)
    walk_at "my walk"
    rename_i zcx1 zcx2 zcx3 zcx4 zcx5 zcx6 zcx7 zcx8 zcx9 zcx10 zcx11 zcx12 zcx13 zcx14 zcx15 zcx16 zcx17 zcx18 zcx19 zcx20 zcx21 zcx22 zcx23 zcx24 zcx25 zcx26 zcx27 zcx28 zcx29 zcx30 zcx31 zcx32 zcx33 zcx34 zcx35 zcx36 zcx37 zcx38 zcx39
    revert zbx1 zbx2 zbx3 zbx4 zbx5 zbx6 zbx7 zbx8 zbx9 zbx10 zbx11 zbx12 zbx13 X9 zbx14 zbx15 zbx16 T9 zbx17 zbx18 zbx19 zbx20 zbx21 zbx22 zbx23 zbx24 zbx25 zbx26 zbx27 zbx28 zbx29 zbx30 zbx31 zbx32 zbx33 zbx34 zbx35 zbx36 zbx37 zbx38 zbx39 zbx40 zbx41 zbx42 zbx43 zbx44 zbx45 zbx46 zbx47 zbx48 zbx49 zbx50 zbx51 zbx52 zbx53 zbx54 zbx55 zbx56 zbx57 zbx58 zbx59 zbx60 zbx61 qk ek zbx62 zbx63 zbx64 zbx65 zbx66 zbx67 zbx68 zbx69 zbx70 zbx71 zbx72 zbx73 zbx74 zbx75 zbx76 zbx77 zbx78 zbx79 zbx80 zbx81 zbx82 zbx83 zbx84 zbx85 zbx86 zbx87 zbx88 zbx89 zbx90 ys ms hms hm6 hmb zbx91 zbx92 zbx93 zbx94 zbx95 zbx96 zbx97 zbx98 zbx99 zbx100 zbx101 zbx102 zbx103 zbx104 zbx105 zbx106 zbx107 h' zcx1 D ov n order hperm hol D' us h2 hI' l1 zcx2 zcx3 zcx4 zcx5 zcx6 zcx7 zcx8 zcx9 zcx10 zcx11 zcx12 zcx13 zcx14 zcx15 zcx16 zcx17 zcx18 zcx19 zcx20 zcx21 zcx22 zcx23 zcx24 zcx25 zcx26 zcx27 zcx28 zcx29 zcx30 tk zcx31 zcx32 zcx33 zcx34 zcx35 zcx36 zcx37 zcx38 zcx39
    exact kBoxP.out
end Mine
end

section
open PySem PySem.W PyProof.Rows PySem.Calls PySem.Spec PyProof.V
set_option Elab.async false
namespace Mine
local macro_rules | `(tactic| walk_at "my stop") => `(tactic| walk_at "shared 19")
local macro_rules | `(tactic| walk_at "exec Assign cons ListComp") => `(tactic| walk_at "shared 20")
local macro_rules | `(tactic| walk_at "my stop") => `(tactic| walk_at "shared 21")
local macro_rules | `(tactic| walk_at "my walk") => `(tactic| walk_at "shared 2")
local macro_rules | `(tactic| walk_at "my clear") => `(tactic| (
  (repeat (rename (@LT.lt Nat _ _ _ ∧ _) => zz; clear zz));
  (repeat (rename (@Ne Nat _ _ ∧ _) => zz; clear zz));
  (repeat (rename (_ = Data.cell (bindC _ _ _)) => zz; clear zz));
  (repeat (rename (ReadsAll _ _ _ _) => zz; clear zz));
  (repeat (rename (ReadsAllW _ _ _ _ _ _) => zz; clear zz));
  (repeat (rename (Reads _ _ _ _) => zz; clear zz));
  (repeat (rename (Well _ _ _ _) => zz; clear zz));
  (repeat (rename (PyData.layable0 _ = true) => zz; clear zz));
  (repeat (rename (PyData.layableAll0 _ = true) => zz; clear zz));
  (repeat (rename (IsRange _ _ _ _ _ _ _ _) => zz; clear zz))))
set_option maxRecDepth 100000 in
set_option maxHeartbeats 8000000 in
noncomputable def S3 : Cut2 (S2.P) := by
  w_top off
  apply Cut2.mk
  intro kBoxP kBoxR
  · intro zbx1 zbx2 zbx3 zbx4 zbx5 zbx6 zbx7 zbx8 zbx9 zbx10 zbx11 zbx12 zbx13 X9 zbx14 zbx15 zbx16 T9 zbx17 zbx18 zbx19 zbx20 zbx21 zbx22 zbx23 zbx24 zbx25 zbx26 zbx27 zbx28 zbx29 zbx30 zbx31 zbx32 zbx33 zbx34 zbx35 zbx36 zbx37 zbx38 zbx39 zbx40 zbx41 zbx42 zbx43 zbx44 zbx45 zbx46 zbx47 zbx48 zbx49 zbx50 zbx51 zbx52 zbx53 zbx54 zbx55 zbx56 zbx57 zbx58 zbx59 zbx60 zbx61 qk ek zbx62 zbx63 zbx64 zbx65 zbx66 zbx67 zbx68 zbx69 zbx70 zbx71 zbx72 zbx73 zbx74 zbx75 zbx76 zbx77 zbx78 zbx79 zbx80 zbx81 zbx82 zbx83 zbx84 zbx85 zbx86 zbx87 zbx88 zbx89 zbx90 ys ms hms hm6 hmb zbx91 zbx92 zbx93 zbx94 zbx95 zbx96 zbx97 zbx98 zbx99 zbx100 zbx101 zbx102 zbx103 zbx104 zbx105 zbx106 zbx107 h' zcx1 D ov n order hperm hol D' us h2 hI' l1 zcx2 zcx3 zcx4 zcx5 zcx6 zcx7 zcx8 zcx9 zcx10 zcx11 zcx12 zcx13 zcx14 zcx15 zcx16 zcx17 zcx18 zcx19 zcx20 zcx21 zcx22 zcx23 zcx24 zcx25 zcx26 zcx27 zcx28 zcx29 zcx30 tk zcx31 zcx32 zcx33 zcx34 zcx35 zcx36 zcx37 zcx38 zcx39
    rename IntsAre us _ => hus
    replace hus : IntsAre us (0 :: 1 :: 2 :: 3 :: (ms ++ order)) := hus
    have hns : (ms ++ order).length = 10 := by rw [List.length_append, hm6, hol]
    have hnm : ∀ n ∈ ms ++ order, n ∈ R4 := by
      intro n hn
      rcases List.mem_append.mp hn with h | h
      · exact R4_of (hmb n h)
      · exact hperm.mem_iff.mp h
    obtain ⟨ns, hnsE⟩ : ∃ ns, ns = ms ++ order := ⟨_, rfl⟩
    rw [← hnsE] at hus hns hnm
    rename Fr _ _ _ _ => F1
    rename News _ _ _ _ => N1
    revert F1 N1
    (try (rename Fr _ _ _ _ => F0; clear F0))
    (try (rename News _ _ _ _ => N0; clear N0))
    intro F1 N1
    rename IsRange _ _ _ _ _ _ _ _ => R1
    have N2 := pick_ledger N1
    clear N1
    have ho := apart_ord (ord_of N2 (by omega) (by omega) (by omega))
    have hnD : (Apart _ _ ∧ Apart _ _ ∧ Apart _ _ ∧ Apart _ _ ∧ Apart _ _ ∧ Apart _ _ ∧ Apart _ _ ∧ Apart _ _) := ne_of N2 ⟨by k_ne, by k_ne, by k_ne, by k_ne, by k_ne, by k_ne, by k_ne, by k_ne⟩
    obtain ⟨⟨o1, o2, o3⟩, ⟨o4, o5, o6, o7, o8⟩, ⟨o9, o10, o11, o12, o13⟩, ⟨o14, o15, o16, o17, o18⟩⟩ := ho
    revert R1 hus hnD
    walk_at "my clear"
    repeat (rename (IntsAre _ _) => zz; clear zz)
    intro R1 hus hnD
    dsimp only at F1
    refine iterG_range (n := 10) (J := LawJ _ _ _ _ us ns _ _) rfl (by passes_own) R1 (by decide) (by rfl) F1 N2 (LawJ.mk (dv := [_, _, _, _]) (tv := []) (kv := []) (kept := []) hnD ⟨by assumption, by assumption, by assumption, by assumption, by assumption⟩ ⟨rfl, rfl, rfl⟩ (.cons _ _ (.cons _ _ (.cons _ _ (.cons _ _ .nil)))) .nil .nil .nil (List.Perm.refl _)) ?turn ?done
    case turn =>
      rintro i t m₁ rest₁ h tk I oI hi' hoff1 ⟨Do, dv, tv, kv, dn, tn, kn, kept, v4, v5, v6, c2, c3, c4, c5, c6, rfl, ⟨e1, e2, e3, e4, e5, e6, e7, e8⟩, ⟨hc2, hc3, hc4, hc5, hc6⟩, ⟨hm1, hm2, hm3⟩, hdv, htv, hkv, hsort, hkp⟩ F N
      obtain ⟨i1, i2, i3, i4, i5, i6, i7, i8, i9⟩ := apart_I hoff1
      clear F1 N2 R1 hnD hoff1
      rename_i zdx1
      revert zbx1 zbx2 zbx3 zbx4 zbx5 zbx6 zbx7 zbx8 zbx9 zbx10 zbx11 zbx12 zbx13 X9 zbx14 zbx15 zbx16 T9 zbx17 zbx18 zbx19 zbx20 zbx21 zbx22 zbx23 zbx24 zbx25 zbx26 zbx27 zbx30 zbx31 zbx32 zbx33 zbx34 zbx35 zbx36 zbx37 zbx43 zbx44 zbx45 zbx46 zbx47 zbx48 zbx49 zbx50 zbx51 zbx52 zbx53 zbx54 zbx55 zbx56 zbx57 zbx58 zbx59 zbx60 zbx61 qk ek zbx62 zbx63 zbx64 zbx66 zbx67 zbx69 zbx70 zbx71 zbx72 zbx74 zbx75 zbx76 zbx77 zbx79 zbx80 zbx81 zbx82 zbx83 zbx84 zbx85 zbx86 zbx87 zbx89 zbx90 ys ms hm6 hmb zbx91 zbx92 zbx93 zbx95 zbx96 zbx98 zbx99 zbx100 zbx103 zbx104 zbx105 zbx106 zbx107 h' zcx1 D ov n order hperm hol D' us h2 zcx2 zcx3 zcx4 zcx5 zcx6 zcx7 zcx8 zcx9 zcx10 zcx11 zcx12 zcx13 zcx14 zcx16 zcx17 zcx18 zcx19 zcx21 zcx22 zcx23 zcx24 zcx26 zcx27 zcx30 zdx1 zcx31 zcx32 zcx33 zcx34 zcx35 zcx39 ns hnm hns hnsE o1 o2 o3 o4 o5 o6 o7 o8 o9 o10 o11 o12 o13 o14 o15 o16 o17 o18 hus i t m₁ h tk I oI hi' Do dv tv kv dn tn kn kept v4 v5 v6 c2 c3 c4 c5 c6 e1 e2 e3 e4 e5 e6 e7 e8 hc2 hc3 hc4 hc5 hc6 hm1 hm2 hm3 hdv htv hkv hsort hkp F N i1 i2 i3 i4 i5 i6 i7 i8 i9
      exact kBoxP.out
    case done =>
      rintro m₁ rest₁ h tk ⟨Do, dv, tv, kv, dn, tn, kn, kept, v4, v5, v6, c2, c3, c4, c5, c6, rfl, ⟨e1, e2, e3, e4, e5, e6, e7, e8⟩, ⟨hc2, hc3, hc4, hc5, hc6⟩, ⟨hm1, hm2, hm3⟩, hdv, htv, hkv, hsort, hkp⟩ F N
      clear F1 N2 R1 hnD
      rename_i zex1
      revert zbx1 zbx2 zbx3 zbx4 zbx5 zbx6 zbx7 zbx8 zbx9 zbx10 zbx11 zbx12 zbx13 X9 zbx14 zbx15 zbx16 T9 zbx17 zbx18 zbx19 zbx20 zbx21 zbx22 zbx23 zbx24 zbx25 zbx26 zbx27 zbx30 zbx31 zbx32 zbx33 zbx34 zbx35 zbx36 zbx37 zbx43 zbx44 zbx45 zbx46 zbx47 zbx48 zbx49 zbx50 zbx51 zbx52 zbx53 zbx54 zbx55 zbx56 zbx57 zbx58 zbx59 zbx60 zbx61 qk ek zbx62 zbx63 zbx64 zbx66 zbx67 zbx69 zbx70 zbx71 zbx72 zbx74 zbx75 zbx76 zbx77 zbx79 zbx80 zbx81 zbx82 zbx83 zbx84 zbx85 zbx86 zbx87 zbx89 zbx90 ys ms hm6 hmb zbx91 zbx92 zbx93 zbx95 zbx96 zbx98 zbx99 zbx100 zbx103 zbx104 zbx105 zbx106 zbx107 h' zcx1 D ov n order hperm hol D' us h2 zcx2 zcx3 zcx4 zcx5 zcx6 zcx7 zcx8 zcx9 zcx10 zcx11 zcx12 zcx13 zcx14 zcx16 zcx17 zcx18 zcx19 zcx21 zcx22 zcx23 zcx24 zcx26 zcx27 zcx30 zex1 zcx31 zcx32 zcx33 zcx34 zcx35 zcx39 ns hnm hns hnsE o1 o2 o3 o4 o5 o6 o7 o8 o9 o10 o11 o12 o13 o14 o15 o16 o17 o18 hus m₁ h tk Do dv tv kv dn tn kn kept v4 v5 v6 c2 c3 c4 c5 c6 e1 e2 e3 e4 e5 e6 e7 e8 hc2 hc3 hc4 hc5 hc6 hm1 hm2 hm3 hdv htv hkv hsort hkp F N
      exact kBoxR.out
end Mine
end

local macro_rules | `(tactic| walk_at "shared 22") => `(tactic| first | (with_reducible refine st8 ?_) | (with_reducible refine st18 ?_) | (with_reducible refine st4 ?_) | (with_reducible refine st13 ?_))

local macro_rules | `(tactic| walk_at "shared 23") => `(tactic| first | exact Apart.ne (by with_reducible assumption) | exact Apart.ne' (by with_reducible assumption))

local macro_rules | `(tactic| walk_at "shared 24") => `(tactic| (
  (repeat (rename (@LT.lt Nat _ _ _ ∧ _) => zz; clear zz));
  (repeat (rename (@Ne Nat _ _ ∧ _) => zz; clear zz))))

section
open PySem PySem.W PyProof.Rows PySem.Calls PySem.Spec PyProof.V
set_option Elab.async false
namespace Mine
local macro_rules | `(tactic| omega) => `(tactic| walk_at "shared 1")
local macro_rules | `(tactic| walk_at "my stop") => `(tactic| walk_at "shared 22")
local macro_rules | `(tactic| walk_at "exec Assign cons ListComp") => `(tactic| walk_at "shared 20")
local macro_rules | `(tactic| walk_at "my walk") => `(tactic| walk_at "shared 2")
local macro_rules | `(tactic| walk_at "eval Name") => `(tactic| walk_at "shared 3")
local macro_rules | `(tactic| walk_at "my get") => `(tactic| walk_at "shared 14")
local macro_rules | `(tactic| k_ne) => `(tactic| walk_at "shared 23")
local macro_rules | `(tactic| walk_at "my clear") => `(tactic| walk_at "shared 24")
local macro_rules | `(tactic| walk_at "subscriptTail") => `(tactic| (k_dflt (refine item_ends (News.isTup (by k_asm) (.head _)) (fmod3 _).1 (fmod3 _).2 ?_); intro e' t' he'))
set_option maxRecDepth 100000 in
set_option maxHeartbeats 8000000 in
noncomputable def S4 : Cut1 (S3.P) := by
  w_top off
  apply Cut1.mk
  intro kBoxP
  · intro zbx1 zbx2 zbx3 zbx4 zbx5 zbx6 zbx7 zbx8 zbx9 zbx10 zbx11 zbx12 zbx13 X9 zbx14 zbx15 zbx16 T9 zbx17 zbx18 zbx19 zbx20 zbx21 zbx22 zbx23 zbx24 zbx25 zbx26 zbx27 zbx30 zbx31 zbx32 zbx33 zbx34 zbx35 zbx36 zbx37 zbx43 zbx44 zbx45 zbx46 zbx47 zbx48 zbx49 zbx50 zbx51 zbx52 zbx53 zbx54 zbx55 zbx56 zbx57 zbx58 zbx59 zbx60 zbx61 qk ek zbx62 zbx63 zbx64 zbx66 zbx67 zbx69 zbx70 zbx71 zbx72 zbx74 zbx75 zbx76 zbx77 zbx79 zbx80 zbx81 zbx82 zbx83 zbx84 zbx85 zbx86 zbx87 zbx89 zbx90 ys ms hm6 hmb zbx91 zbx92 zbx93 zbx95 zbx96 zbx98 zbx99 zbx100 zbx103 zbx104 zbx105 zbx106 zbx107 h' zcx1 D ov n order hperm hol D' us h2 zcx2 zcx3 zcx4 zcx5 zcx6 zcx7 zcx8 zcx9 zcx10 zcx11 zcx12 zcx13 zcx14 zcx16 zcx17 zcx18 zcx19 zcx21 zcx22 zcx23 zcx24 zcx26 zcx27 zcx30 zdx1 zcx31 zcx32 zcx33 zcx34 zcx35 zcx39 ns hnm hns hnsE o1 o2 o3 o4 o5 o6 o7 o8 o9 o10 o11 o12 o13 o14 o15 o16 o17 o18 hus i t m₁ h tk I oI hi' Do dv tv kv dn tn kn kept v4 v5 v6 c2 c3 c4 c5 c6 e1 e2 e3 e4 e5 e6 e7 e8 hc2 hc3 hc4 hc5 hc6 hm1 hm2 hm3 hdv htv hkv hsort hkp F N i1 i2 i3 i4 i5 i6 i7 i8 i9
    dsimp only [PostG]
    walk_at "my walk"
    rename IsE _ => he
    rename Fr _ _ _ _ => F1
    rename News _ _ _ _ => N1
    replace N1 := drop1 N1
    walk_at "my clear"
    rename (_ = Data.cell (some (Value.int (List.getD _ _ _) _))) => d5
    rename (_ = Data.cell (some (Value.int (4 + _) _))) => d4
    have hil : i < ns.length := by omega
    obtain ⟨c, hc⟩ : ∃ c, ns[i]? = some c := ⟨_, List.getElem?_eq_getElem hil⟩
    have hcR : c ∈ R4 := hnm c (List.mem_of_getElem? hc)
    rw [asks_at hc] at d5
    obtain ⟨cn, rfl, hcn⟩ := R4_nat hcR
    have ha0 := ag_lt (ns := ns) (i := i) (k := 0) (by decide) (by omega)
    have ha1 := ag_lt (ns := ns) (i := i) (k := 1) (by decide) (by omega)
    have ha2 := ag_lt (ns := ns) (i := i) (k := 2) (by decide) (by omega)
    have ha3 := ag_lt (ns := ns) (i := i) (k := 3) (by decide) (by omega)
    refine mail_spec (d0 := ag ns i 0 + 1) (d1 := ag ns i 1 + 1) (d2 := ag ns i 2 + 1) (d3 := ag ns i 3 + 1) (X9.keeps F1.keep) (T9.keeps F1.keep) (News.isList N1 (by k_mem)) hdv (by omega) he.len rfl (by simp only [depth_deeper, depth_caller]; decide) (by first | k_room | ke_room | (dsimp only [Around.deeper]; decide) | (show callerA.units + 40 < cLine; decide)) ?_
    intro h5 tk5 t5 hk5
    replace F1 := F1.keeps hk5
    replace N1 := News.grown N1 hk5
    clear hk5
    dsimp only
    walk_at "my walk"
    refine quote_spec (X9.keeps F1.keep) (T9.keeps F1.keep) he (by omega) (by omega) (by omega) (by omega) (by omega) (by simp only [depth_deeper, depth_caller]; decide) ?_
    intro h6 tk6 t6 hk6
    replace F1 := F1.keeps hk6
    replace N1 := News.grown N1 hk6
    clear hk6
    dsimp only
    rename_i zfx1 zfx2 zfx3 zfx4 zfx5 zfx6 zfx7 zfx8 zfx9 zfx10
    revert zbx1 zbx2 zbx3 zbx4 zbx5 zbx6 zbx7 zbx8 zbx9 zbx10 zbx11 zbx12 zbx13 X9 zbx14 zbx15 zbx16 T9 zbx17 zbx18 zbx19 zbx20 zbx21 zbx22 zbx23 zbx24 zbx25 zbx26 zbx27 zbx30 zbx31 zbx32 zbx33 zbx34 zbx35 zbx36 zbx37 zbx43 zbx44 zbx45 zbx46 zbx47 zbx48 zbx49 zbx50 zbx51 zbx52 zbx53 zbx54 zbx55 zbx56 zbx57 zbx58 zbx59 zbx60 zbx61 qk ek zbx62 zbx63 zbx64 zbx66 zbx67 zbx69 zbx70 zbx71 zbx72 zbx74 zbx75 zbx76 zbx77 zbx79 zbx80 zbx81 zbx82 zbx83 zbx84 zbx85 zbx86 zbx87 zbx89 zbx90 ys ms hm6 hmb zbx91 zbx92 zbx93 zbx95 zbx96 zbx98 zbx99 zbx100 zbx103 zbx104 zbx105 zbx106 zbx107 h' zcx1 D ov n order hperm hol D' us h2 zcx2 zcx3 zcx4 zcx5 zcx6 zcx7 zcx8 zcx9 zcx10 zcx11 zcx12 zcx13 zcx14 zcx16 zcx17 zcx18 zcx19 zcx21 zcx22 zcx23 zcx24 zcx26 zcx27 zcx30 zdx1 zcx31 zcx32 zcx33 zcx34 zcx35 zcx39 ns hnm hns hnsE o1 o2 o3 o4 o5 o6 o7 o8 o9 o10 o11 o12 o13 o14 o15 o16 o17 o18 hus i t m₁ h zfx1 I oI hi' Do dv tv kv dn tn kn kept v4 v5 v6 c2 c3 c4 c5 c6 e1 e2 e3 e4 e5 e6 e7 e8 hc2 hc3 hc4 hc5 hc6 hm1 hm2 hm3 hdv htv hkv hsort hkp F N i1 i2 i3 i4 i5 i6 i7 i8 i9 zfx2 zfx3 d4 tk zfx4 zfx5 zfx6 zfx7 zfx8 zfx9 zfx10 he hil cn hcn d5 hc hcR ha0 ha1 ha2 ha3 h5 tk5 t5 h6 tk6 t6 F1 N1
    exact kBoxP.out
end Mine
end

section
open PySem PySem.W PyProof.Rows PySem.Calls PySem.Spec PyProof.V
set_option Elab.async false
namespace Mine
local macro_rules | `(tactic| walk_at "my stop") => `(tactic| walk_at "shared 22")
local macro_rules | `(tactic| walk_at "exec Assign cons ListComp") => `(tactic| walk_at "shared 20")
local macro_rules | `(tactic| walk_at "my walk") => `(tactic| walk_at "shared 2")
local macro_rules | `(tactic| walk_at "eval Name") => `(tactic| walk_at "shared 3")
local macro_rules | `(tactic| walk_at "my get") => `(tactic| walk_at "shared 14")
local macro_rules | `(tactic| k_ne) => `(tactic| walk_at "shared 23")
local macro_rules | `(tactic| walk_at "my clear") => `(tactic| walk_at "shared 24")
local macro_rules | `(tactic| walk_at "eval ListComp") => `(tactic| walk_at "shared 15")
local macro_rules | `(tactic| walk_at "CompSrc") => `(tactic| walk_at "shared 5")
local macro_rules | `(tactic| walk_at "CompEnd") => `(tactic| walk_at "shared 10")
set_option maxRecDepth 100000 in
set_option maxHeartbeats 8000000 in
noncomputable def S5 : Cut1 (S4.P) := by
  w_top off
  apply Cut1.mk
  intro kBoxP
  · intro zbx1 zbx2 zbx3 zbx4 zbx5 zbx6 zbx7 zbx8 zbx9 zbx10 zbx11 zbx12 zbx13 X9 zbx14 zbx15 zbx16 T9 zbx17 zbx18 zbx19 zbx20 zbx21 zbx22 zbx23 zbx24 zbx25 zbx26 zbx27 zbx30 zbx31 zbx32 zbx33 zbx34 zbx35 zbx36 zbx37 zbx43 zbx44 zbx45 zbx46 zbx47 zbx48 zbx49 zbx50 zbx51 zbx52 zbx53 zbx54 zbx55 zbx56 zbx57 zbx58 zbx59 zbx60 zbx61 qk ek zbx62 zbx63 zbx64 zbx66 zbx67 zbx69 zbx70 zbx71 zbx72 zbx74 zbx75 zbx76 zbx77 zbx79 zbx80 zbx81 zbx82 zbx83 zbx84 zbx85 zbx86 zbx87 zbx89 zbx90 ys ms hm6 hmb zbx91 zbx92 zbx93 zbx95 zbx96 zbx98 zbx99 zbx100 zbx103 zbx104 zbx105 zbx106 zbx107 h' zcx1 D ov n order hperm hol D' us h2 zcx2 zcx3 zcx4 zcx5 zcx6 zcx7 zcx8 zcx9 zcx10 zcx11 zcx12 zcx13 zcx14 zcx16 zcx17 zcx18 zcx19 zcx21 zcx22 zcx23 zcx24 zcx26 zcx27 zcx30 zdx1 zcx31 zcx32 zcx33 zcx34 zcx35 zcx39 ns hnm hns hnsE o1 o2 o3 o4 o5 o6 o7 o8 o9 o10 o11 o12 o13 o14 o15 o16 o17 o18 hus i t m₁ h zfx1 I oI hi' Do dv tv kv dn tn kn kept v4 v5 v6 c2 c3 c4 c5 c6 e1 e2 e3 e4 e5 e6 e7 e8 hc2 hc3 hc4 hc5 hc6 hm1 hm2 hm3 hdv htv hkv hsort hkp F N i1 i2 i3 i4 i5 i6 i7 i8 i9 zfx2 zfx3 d4 tk zfx4 zfx5 zfx6 zfx7 zfx8 zfx9 zfx10 he hil cn hcn d5 hc hcR ha0 ha1 ha2 ha3 h5 tk5 t5 h6 tk6 t6 F1 N1
    walk_at "my walk"
    have hlay := lay_small (hist_R4 (i := i) hnm) (by rw [hist_len (by omega)]; omega)
    refine rest_ind (fun j zs => IntsAre zs ((agI ns i 2).take j)) .nil ?_ ?_
    · intro j zs v I' oI' C oC D m₂ h tk E' hjn hzs hP hC hx F N off ne
      obtain ⟨tj, rfl⟩ := hP
      walk_at "my walk"
      rename IntsAre _ (List.reverse _) => hrv
      rw [rev_asks] at hrv
      have hjR := jR4 hjn
      have hjm := mem_hist (ns := ns) (i := i) hjR
      refine index_list_ints (News.isList (by k_asm) (by k_mem)) hrv hlay hjm ?_
      rename News _ _ _ _ => N2
      replace N2 := drop1 (drop1 N2)
      walk_at "my walk"
      exact agI_step hjn hzs (by rw [ag, Int.zero_add]; rfl)
    intro zs hzs
    walk_at "my walk"
    rename Fr _ _ _ _ => F1
    rename News _ _ _ _ => N1
    walk_at "my clear"
    refine mail_specX (d0 := ag ns i 0 + 2) (d1 := ag ns i 1 + 2) (d2 := ag ns i 2 + 2) (d3 := ag ns i 3 + 2) (X9.keeps F1.keep) (T9.keeps F1.keep) rfl (News.isList N1 (by k_mem)) hzs (by omega) rfl (by simp only [depth_deeper, depth_caller]; decide) (by first | k_room | ke_room | (dsimp only [Around.deeper]; decide) | (show callerA.units + 40 < cLine; decide)) ?_
    intro h7 tk7 t7 hk7
    replace F1 := F1.keeps hk7
    replace N1 := drop1 (News.grown N1 hk7)
    clear hk7
    dsimp only
    walk_at "my walk"
    · rename ((_ != _) = true) => hb
      exact absurd hb (by simp)
    rename_i zgx1 zgx2 zgx3 zgx4 zgx5 zgx6 zgx7 zgx8 zgx9 zgx10 zgx11 zgx12 zgx13 zgx14 zgx15 zgx16 zgx17 zgx18
    revert zbx1 zbx2 zbx3 zbx4 zbx5 zbx6 zbx7 zbx8 zbx9 zbx10 zbx11 zbx12 zbx13 X9 zbx14 zbx15 zbx16 T9 zbx17 zbx18 zbx19 zbx20 zbx21 zbx22 zbx23 zbx24 zbx25 zbx26 zbx27 zbx30 zbx31 zbx32 zbx33 zbx34 zbx35 zbx36 zbx37 zbx43 zbx44 zbx45 zbx46 zbx47 zbx48 zbx49 zbx50 zbx51 zbx52 zbx53 zbx54 zbx55 zbx56 zbx57 zbx58 zbx59 zbx60 zbx61 qk ek zbx62 zbx63 zbx64 zbx66 zbx67 zbx69 zbx70 zbx71 zbx72 zbx74 zbx75 zbx76 zbx77 zbx79 zbx80 zbx81 zbx82 zbx83 zbx84 zbx85 zbx86 zbx87 zbx89 zbx90 ys ms hm6 hmb zbx91 zbx92 zbx93 zbx95 zbx96 zbx98 zbx99 zbx100 zbx103 zbx104 zbx105 zbx106 zbx107 h' zcx1 D ov n order hperm hol D' us h2 zcx2 zcx3 zcx4 zcx5 zcx6 zcx7 zcx8 zcx9 zcx10 zcx11 zcx12 zcx13 zcx14 zcx16 zcx17 zcx18 zcx19 zcx21 zcx22 zcx23 zcx24 zcx26 zcx27 zcx30 zdx1 zcx31 zcx32 zcx33 zcx34 zcx35 zcx39 ns hnm hns hnsE o1 o2 o3 o4 o5 o6 o7 o8 o9 o10 o11 o12 o13 o14 o15 o16 o17 o18 hus i t m₁ h zfx1 I oI hi' Do dv tv kv dn tn kn kept v4 v5 v6 c2 c3 c4 c5 c6 e1 e2 e3 e4 e5 e6 e7 e8 hc2 hc3 hc4 hc5 hc6 hm1 hm2 hm3 hdv htv hkv hsort hkp F N i1 i2 i3 i4 i5 i6 i7 i8 i9 zfx2 zfx3 d4 zgx1 zfx4 zfx5 zfx6 zfx7 zfx8 zfx9 zfx10 he hil cn hcn d5 hc hcR ha0 ha1 ha2 ha3 h5 tk5 t5 h6 tk6 t6 zgx2 zgx3 zgx4 tk zgx5 zgx6 zgx7 zgx8 zgx9 zgx10 zgx11 zgx12 zgx13 zgx14 hlay zs hzs zgx15 zgx16 zgx17 h7 tk7 t7 F1 N1 zgx18
    exact kBoxP.out
end Mine
end

section
open PySem PySem.W PyProof.Rows PySem.Calls PySem.Spec PyProof.V
set_option Elab.async false
namespace Mine
local macro_rules | `(tactic| omega) => `(tactic| walk_at "shared 1")
local macro_rules | `(tactic| walk_at "my stop") => `(tactic| walk_at "shared 22")
local macro_rules | `(tactic| walk_at "exec Assign cons ListComp") => `(tactic| walk_at "shared 20")
local macro_rules | `(tactic| walk_at "my walk") => `(tactic| walk_at "shared 2")
local macro_rules | `(tactic| walk_at "eval Name") => `(tactic| walk_at "shared 3")
local macro_rules | `(tactic| walk_at "my get") => `(tactic| walk_at "shared 14")
local macro_rules | `(tactic| k_ne) => `(tactic| walk_at "shared 23")
local macro_rules | `(tactic| walk_at "my clear") => `(tactic| walk_at "shared 24")
local macro_rules | `(tactic| walk_at "CompEnd") => `(tactic| walk_at "shared 10")
local macro_rules | `(tactic| walk_at "my stop") => `(tactic| (with_reducible refine st20 ?_))
set_option maxRecDepth 100000 in
set_option maxHeartbeats 8000000 in
noncomputable def S6 : Cut1 (S5.P) := by
  w_top off
  apply Cut1.mk
  intro kBoxP
  · intro zbx1 zbx2 zbx3 zbx4 zbx5 zbx6 zbx7 zbx8 zbx9 zbx10 zbx11 zbx12 zbx13 X9 zbx14 zbx15 zbx16 T9 zbx17 zbx18 zbx19 zbx20 zbx21 zbx22 zbx23 zbx24 zbx25 zbx26 zbx27 zbx30 zbx31 zbx32 zbx33 zbx34 zbx35 zbx36 zbx37 zbx43 zbx44 zbx45 zbx46 zbx47 zbx48 zbx49 zbx50 zbx51 zbx52 zbx53 zbx54 zbx55 zbx56 zbx57 zbx58 zbx59 zbx60 zbx61 qk ek zbx62 zbx63 zbx64 zbx66 zbx67 zbx69 zbx70 zbx71 zbx72 zbx74 zbx75 zbx76 zbx77 zbx79 zbx80 zbx81 zbx82 zbx83 zbx84 zbx85 zbx86 zbx87 zbx89 zbx90 ys ms hm6 hmb zbx91 zbx92 zbx93 zbx95 zbx96 zbx98 zbx99 zbx100 zbx103 zbx104 zbx105 zbx106 zbx107 h' zcx1 D ov n order hperm hol D' us h2 zcx2 zcx3 zcx4 zcx5 zcx6 zcx7 zcx8 zcx9 zcx10 zcx11 zcx12 zcx13 zcx14 zcx16 zcx17 zcx18 zcx19 zcx21 zcx22 zcx23 zcx24 zcx26 zcx27 zcx30 zdx1 zcx31 zcx32 zcx33 zcx34 zcx35 zcx39 ns hnm hns hnsE o1 o2 o3 o4 o5 o6 o7 o8 o9 o10 o11 o12 o13 o14 o15 o16 o17 o18 hus i t m₁ h zfx1 I oI hi' Do dv tv kv dn tn kn kept v4 v5 v6 c2 c3 c4 c5 c6 e1 e2 e3 e4 e5 e6 e7 e8 hc2 hc3 hc4 hc5 hc6 hm1 hm2 hm3 hdv htv hkv hsort hkp F N i1 i2 i3 i4 i5 i6 i7 i8 i9 zfx2 zfx3 d4 zgx1 zfx4 zfx5 zfx6 zfx7 zfx8 zfx9 zfx10 he hil cn hcn d5 hc hcR ha0 ha1 ha2 ha3 h5 tk5 t5 h6 tk6 t6 zgx2 zgx3 zgx4 tk zgx5 zgx6 zgx7 zgx8 zgx9 zgx10 zgx11 zgx12 zgx13 zgx14 hlay zs hzs zgx15 zgx16 zgx17 h7 tk7 t7 F1 N1 zgx18
    rename Fr _ _ _ _ => F1
    rename News _ _ _ _ => N1
    refine mail_split F1 N1 (by omega) ?_
    clear F1 N1
    intro D t0 t1 t2 t3 t4 h8 k8 F1 N1 l1
    k_lt l1
    dsimp only
    walk_at "my walk"
    rename News _ _ _ _ => N5
    have hS := srcAt_of N5 (List.Mem.head _)
    refine rest_ind (fun j zs => IntsAre zs ((agI ns i 2).take j)) .nil ?_ ?_
    · intro j zs v I' oI' C oC D m₂ h tk E' hjn hzs hP hC hx F N off ne
      obtain ⟨d, cc, t, hcc, hd, rfl⟩ := line_at (by simpa using hP)
      walk_at "my walk"
      refine SC.count ?_
      rw [count_dots hcc]
      rename Fr _ _ _ _ => F9
      rename News _ _ _ _ => N9
      exact compEnd_ind F9 N9 off hS (ints_snoc hzs (getInt_of hd))
    intro ys hag
    replace hag : IntsAre ys (agI ns i 2) := hag
    walk_at "my walk"
    rename Fr _ _ _ _ => F1
    rename News _ _ _ _ => N1
    clear hS
    rename (@Ne Nat _ _ ∧ _) => oA
    have oB : Apart _ _ ∧ Apart _ _ ∧ Apart _ _ ∧ Apart _ _ ∧ Apart _ _ ∧ Apart _ _ ∧ Apart _ _ ∧ Apart _ _ ∧ Apart _ _ ∧ Apart _ _ ∧ Apart _ _ ∧ Apart _ _ := oA
    clear oA
    obtain ⟨_, _, a1, a2, a3, a4, a5, a6, a7, a8, a9, a10⟩ := oB
    replace N1 := drop2 (drop2 N1)
    walk_at "my clear"
    rename_i zhx1 zhx2 zhx3 zhx4 zhx5 zhx6 zhx7 zhx8 zhx9 zhx10 zhx11 zhx12 zhx13 zhx14
    revert zbx1 zbx2 zbx3 zbx4 zbx5 zbx6 zbx7 zbx8 zbx9 zbx10 zbx11 zbx12 zbx13 X9 zbx14 zbx15 zbx16 T9 zbx17 zbx18 zbx19 zbx20 zbx21 zbx22 zbx23 zbx24 zbx25 zbx26 zbx27 zbx30 zbx31 zbx32 zbx33 zbx34 zbx35 zbx36 zbx37 zbx43 zbx44 zbx45 zbx46 zbx47 zbx48 zbx49 zbx50 zbx51 zbx52 zbx53 zbx54 zbx55 zbx56 zbx57 zbx58 zbx59 zbx60 zbx61 qk ek zbx62 zbx63 zbx64 zbx66 zbx67 zbx69 zbx70 zbx71 zbx72 zbx74 zbx75 zbx76 zbx77 zbx79 zbx80 zbx81 zbx82 zbx83 zbx84 zbx85 zbx86 zbx87 zbx89 zbx90 zhx1 ms hm6 hmb zbx91 zbx92 zbx93 zbx95 zbx96 zbx98 zbx99 zbx100 zbx103 zbx104 zbx105 zbx106 zbx107 h' zcx1 zhx2 ov n order hperm hol D' us h2 zcx2 zcx3 zcx4 zcx5 zcx6 zcx7 zcx8 zcx9 zcx10 zcx11 zcx12 zcx13 zcx14 zcx16 zcx17 zcx18 zcx19 zcx21 zcx22 zcx23 zcx24 zcx26 zcx27 zcx30 zdx1 zcx31 zcx32 zcx33 zcx34 zcx35 zcx39 ns hnm hns hnsE o1 o2 o3 o4 o5 o6 o7 o8 o9 o10 o11 o12 o13 o14 o15 o16 o17 o18 hus i t m₁ h zfx1 I oI hi' Do dv tv kv dn tn kn kept v4 v5 v6 c2 c3 c4 c5 c6 e1 e2 e3 e4 e5 e6 e7 e8 hc2 hc3 hc4 hc5 hc6 hm1 hm2 hm3 hdv htv hkv hsort hkp F N i1 i2 i3 i4 i5 i6 i7 i8 i9 zfx2 zfx3 d4 zgx1 zfx4 zfx5 zfx6 zfx7 zfx8 zfx9 zfx10 he hil cn hcn d5 hc hcR ha0 ha1 ha2 ha3 h5 tk5 t5 h6 tk6 t6 zgx2 zhx3 zgx5 zgx6 zgx7 zgx8 zgx9 zgx10 zgx13 zgx14 hlay zs hzs zgx15 zgx16 zgx17 h7 tk7 t7 zgx18 D t0 t1 t2 t3 t4 h8 k8 zhx4 zhx5 zhx6 ys hag zhx7 zhx8 zhx9 zhx10 zhx11 F1 zhx12 tk zhx13 zhx14 a1 a2 a3 a4 a5 a6 a7 a8 a9 a10 N1
    exact kBoxP.out
end Mine
end

section
open PySem PySem.W PyProof.Rows PySem.Calls PySem.Spec PyProof.V
set_option Elab.async false
namespace Mine
local macro_rules | `(tactic| walk_at "my spare") => `(tactic| fail "none")
local macro_rules | `(tactic| walk_at "my spare") => `(tactic| fail "none")
local macro_rules | `(tactic| walk_at "my spare") => `(tactic| fail "none")
local macro_rules | `(tactic| walk_at "my stop") => `(tactic| walk_at "shared 22")
local macro_rules | `(tactic| walk_at "exec Assign cons ListComp") => `(tactic| walk_at "shared 20")
local macro_rules | `(tactic| walk_at "my walk") => `(tactic| walk_at "shared 2")
local macro_rules | `(tactic| walk_at "eval Name") => `(tactic| walk_at "shared 3")
local macro_rules | `(tactic| walk_at "my get") => `(tactic| walk_at "shared 14")
local macro_rules | `(tactic| k_ne) => `(tactic| walk_at "shared 23")
local macro_rules | `(tactic| walk_at "my clear") => `(tactic| walk_at "shared 24")
local macro_rules | `(tactic| walk_at "CompEnd") => `(tactic| walk_at "shared 10")
set_option maxRecDepth 100000 in
set_option maxHeartbeats 8000000 in
noncomputable def S7 : Cut1 (S6.P) := by
  w_top off
  apply Cut1.mk
  intro kBoxP
  · intro zbx1 zbx2 zbx3 zbx4 zbx5 zbx6 zbx7 zbx8 zbx9 zbx10 zbx11 zbx12 zbx13 X9 zbx14 zbx15 zbx16 T9 zbx17 zbx18 zbx19 zbx20 zbx21 zbx22 zbx23 zbx24 zbx25 zbx26 zbx27 zbx30 zbx31 zbx32 zbx33 zbx34 zbx35 zbx36 zbx37 zbx43 zbx44 zbx45 zbx46 zbx47 zbx48 zbx49 zbx50 zbx51 zbx52 zbx53 zbx54 zbx55 zbx56 zbx57 zbx58 zbx59 zbx60 zbx61 qk ek zbx62 zbx63 zbx64 zbx66 zbx67 zbx69 zbx70 zbx71 zbx72 zbx74 zbx75 zbx76 zbx77 zbx79 zbx80 zbx81 zbx82 zbx83 zbx84 zbx85 zbx86 zbx87 zbx89 zbx90 zhx1 ms hm6 hmb zbx91 zbx92 zbx93 zbx95 zbx96 zbx98 zbx99 zbx100 zbx103 zbx104 zbx105 zbx106 zbx107 h' zcx1 zhx2 ov n order hperm hol D' us h2 zcx2 zcx3 zcx4 zcx5 zcx6 zcx7 zcx8 zcx9 zcx10 zcx11 zcx12 zcx13 zcx14 zcx16 zcx17 zcx18 zcx19 zcx21 zcx22 zcx23 zcx24 zcx26 zcx27 zcx30 zdx1 zcx31 zcx32 zcx33 zcx34 zcx35 zcx39 ns hnm hns hnsE o1 o2 o3 o4 o5 o6 o7 o8 o9 o10 o11 o12 o13 o14 o15 o16 o17 o18 hus i t m₁ h zfx1 I oI hi' Do dv tv kv dn tn kn kept v4 v5 v6 c2 c3 c4 c5 c6 e1 e2 e3 e4 e5 e6 e7 e8 hc2 hc3 hc4 hc5 hc6 hm1 hm2 hm3 hdv htv hkv hsort hkp F N i1 i2 i3 i4 i5 i6 i7 i8 i9 zfx2 zfx3 d4 zgx1 zfx4 zfx5 zfx6 zfx7 zfx8 zfx9 zfx10 he hil cn hcn d5 hc hcR ha0 ha1 ha2 ha3 h5 tk5 t5 h6 tk6 t6 zgx2 zhx3 zgx5 zgx6 zgx7 zgx8 zgx9 zgx10 zgx13 zgx14 hlay zs hzs zgx15 zgx16 zgx17 h7 tk7 t7 zgx18 D t0 t1 t2 t3 t4 h8 k8 zhx4 zhx5 zhx6 ys hag zhx7 zhx8 zhx9 zhx10 zhx11 F1 zhx12 tk zhx13 zhx14 a1 a2 a3 a4 a5 a6 a7 a8 a9 a10 N1
    refine place_spec (X9.keeps F1.keep) (T9.keeps F1.keep) (N1.isList (.head _)) hag (by simp [agI]) (by omega) (by simp [agI]; omega) rfl (by simp only [depth_deeper, depth_caller]; decide) (by first | k_room | ke_room | (dsimp only [Around.deeper]; decide) | (show callerA.units + 40 < cLine; decide)) ?_
    intro t9 h9 tk9 hk9
    replace F1 := F1.keeps hk9
    replace N1 := News.grown N1 hk9
    clear hk9
    have hpl := cntLt_le (agI ns i 2) ((agI ns i 2).getD (cn : Int).toNat 0)
    have hal : (agI ns i 2).length = 4 := rfl
    rw [hal] at hpl
    rw [place_eq hnm (by omega) hcn] at hpl ⊢
    have hpn := places_snoc hc
    generalize hplE : idxI (stk ns i) (cn : Int) = pl at hpl hpn ⊢
    dsimp only
    walk_at "my walk"
    rename Fr _ _ _ _ => F1
    rename News _ _ _ _ => N1
    refine fewer_spec (X9.keeps F1.keep) (T9.keeps F1.keep) (N1.isList (.head _)) hag hal hcn agI_distinct (agI_bound hi' hns) rfl (by simp only [depth_deeper, depth_caller]; decide) (by first | k_room | ke_room | (dsimp only [Around.deeper]; decide) | (show callerA.units + 60 < cLine; decide)) ?_
    rw [place_eq hnm (by omega) hcn, hplE]
    intro h10 tk10 t10 hk10
    replace F1 := F1.keeps hk10
    replace N1 := News.grown N1 hk10
    clear hk10
    dsimp only
    walk_at "my walk"
    · rename ((2 : Int) * (pl : Int) ≠ 2 * (pl : Int)) => hb
      exact absurd rfl hb
    rename Fr _ _ _ _ => F1
    rename News _ _ _ _ => N1
    have htl : tv.length = i := by rw [htv.length, placesOf_length, List.length_take]; omega
    have hsz1 : tv.toArray.size ≤ sizeLine := by rw [List.size_toArray, htl, sizeLine_eq]; omega
    walk_at "my walk"
    rename_i zix1 zix2 zix3 zix4 zix5 zix6 zix7 zix8
    revert zbx1 zbx2 zbx3 zbx4 zbx5 zbx6 zbx7 zbx8 zbx9 zbx10 zbx11 zbx12 zbx13 X9 zbx14 zbx15 zbx16 T9 zbx17 zbx18 zbx19 zbx20 zbx21 zbx22 zbx23 zbx24 zbx25 zbx26 zbx27 zbx30 zbx31 zbx32 zbx33 zbx34 zbx35 zbx36 zbx37 zbx43 zbx44 zbx45 zbx46 zbx47 zbx48 zbx49 zbx50 zbx51 zbx52 zbx53 zbx54 zbx55 zbx56 zbx57 zbx58 zbx59 zbx60 zbx61 qk ek zbx62 zbx63 zbx64 zbx66 zbx67 zbx69 zbx70 zbx71 zbx72 zbx74 zbx75 zbx76 zbx77 zbx79 zbx80 zbx81 zbx82 zbx83 zbx84 zbx85 zbx86 zbx87 zbx89 zbx90 zhx1 ms hm6 hmb zbx91 zbx92 zbx93 zbx95 zbx96 zbx98 zbx99 zbx100 zbx103 zbx104 zbx105 zbx106 zbx107 h' zcx1 zhx2 ov n order hperm hol D' us h2 zcx2 zcx3 zcx4 zcx5 zcx6 zcx7 zcx8 zcx9 zcx10 zcx11 zcx12 zcx13 zcx14 zcx16 zcx17 zcx18 zcx19 zcx21 zcx22 zcx23 zcx24 zcx26 zcx27 zcx30 zdx1 zcx31 zcx32 zcx33 zcx34 zcx35 zcx39 ns hnm hns hnsE o1 o2 o3 o4 o5 o6 o7 o8 o9 o10 o11 o12 o13 o14 o15 o16 o17 o18 hus i t m₁ h zfx1 I oI hi' Do dv tv kv dn tn kn kept v4 v5 v6 c2 c3 c4 c5 c6 e1 e2 e3 e4 e5 e6 e7 e8 hc2 hc3 hc4 hc5 hc6 hm1 hm2 hm3 hdv htv hkv hsort hkp F N i1 i2 i3 i4 i5 i6 i7 i8 i9 zfx2 zfx3 d4 zgx1 zfx4 zfx5 zfx6 zfx7 zfx8 zfx9 zfx10 he hil cn hcn d5 hc hcR ha0 ha1 ha2 ha3 h5 tk5 t5 h6 tk6 t6 zgx2 zhx3 zgx5 zgx6 zgx7 zgx8 zgx9 zgx10 zgx13 zgx14 hlay zs hzs zgx15 zgx16 zgx17 h7 tk7 t7 zgx18 D t0 t1 t2 t3 t4 h8 k8 zhx4 zhx5 zhx6 ys hag zhx7 zhx8 zhx9 zhx10 zhx11 zhx12 zix1 zhx13 zhx14 a1 a2 a3 a4 a5 a6 a7 a8 a9 a10 t9 h9 tk9 hal pl hplE hpl hpn zix2 zix3 h10 tk10 t10 zix4 zix5 htl hsz1 zix6 zix7 zix8 tk
    exact kBoxP.out
end Mine
end

section
open PySem PySem.W PyProof.Rows PySem.Calls PySem.Spec PyProof.V
set_option Elab.async false
namespace Mine
local macro_rules | `(tactic| walk_at "my spare") => `(tactic| fail "none")
local macro_rules | `(tactic| walk_at "my spare") => `(tactic| fail "none")
local macro_rules | `(tactic| walk_at "my spare") => `(tactic| fail "none")
local macro_rules | `(tactic| omega) => `(tactic| walk_at "shared 1")
local macro_rules | `(tactic| walk_at "my stop") => `(tactic| walk_at "shared 22")
local macro_rules | `(tactic| walk_at "exec Assign cons ListComp") => `(tactic| walk_at "shared 20")
local macro_rules | `(tactic| walk_at "my walk") => `(tactic| walk_at "shared 2")
local macro_rules | `(tactic| walk_at "eval Name") => `(tactic| walk_at "shared 3")
local macro_rules | `(tactic| walk_at "my get") => `(tactic| walk_at "shared 14")
local macro_rules | `(tactic| k_ne) => `(tactic| walk_at "shared 23")
local macro_rules | `(tactic| walk_at "my clear") => `(tactic| walk_at "shared 24")
local macro_rules | `(tactic| walk_at "CompSrc") => `(tactic| walk_at "shared 5")
local macro_rules | `(tactic| walk_at "CompEnd") => `(tactic| walk_at "shared 10")
set_option maxRecDepth 100000 in
set_option maxHeartbeats 8000000 in
theorem S8 : S7.P := by
  w_top off
  intro zbx1 zbx2 zbx3 zbx4 zbx5 zbx6 zbx7 zbx8 zbx9 zbx10 zbx11 zbx12 zbx13 X9 zbx14 zbx15 zbx16 T9 zbx17 zbx18 zbx19 zbx20 zbx21 zbx22 zbx23 zbx24 zbx25 zbx26 zbx27 zbx30 zbx31 zbx32 zbx33 zbx34 zbx35 zbx36 zbx37 zbx43 zbx44 zbx45 zbx46 zbx47 zbx48 zbx49 zbx50 zbx51 zbx52 zbx53 zbx54 zbx55 zbx56 zbx57 zbx58 zbx59 zbx60 zbx61 qk ek zbx62 zbx63 zbx64 zbx66 zbx67 zbx69 zbx70 zbx71 zbx72 zbx74 zbx75 zbx76 zbx77 zbx79 zbx80 zbx81 zbx82 zbx83 zbx84 zbx85 zbx86 zbx87 zbx89 zbx90 zhx1 ms hm6 hmb zbx91 zbx92 zbx93 zbx95 zbx96 zbx98 zbx99 zbx100 zbx103 zbx104 zbx105 zbx106 zbx107 h' zcx1 zhx2 ov n order hperm hol D' us h2 zcx2 zcx3 zcx4 zcx5 zcx6 zcx7 zcx8 zcx9 zcx10 zcx11 zcx12 zcx13 zcx14 zcx16 zcx17 zcx18 zcx19 zcx21 zcx22 zcx23 zcx24 zcx26 zcx27 zcx30 zdx1 zcx31 zcx32 zcx33 zcx34 zcx35 zcx39 ns hnm hns hnsE o1 o2 o3 o4 o5 o6 o7 o8 o9 o10 o11 o12 o13 o14 o15 o16 o17 o18 hus i t m₁ h zfx1 I oI hi' Do dv tv kv dn tn kn kept v4 v5 v6 c2 c3 c4 c5 c6 e1 e2 e3 e4 e5 e6 e7 e8 hc2 hc3 hc4 hc5 hc6 hm1 hm2 hm3 hdv htv hkv hsort hkp F N i1 i2 i3 i4 i5 i6 i7 i8 i9 zfx2 zfx3 d4 zgx1 zfx4 zfx5 zfx6 zfx7 zfx8 zfx9 zfx10 he hil cn hcn d5 hc hcR ha0 ha1 ha2 ha3 h5 tk5 t5 h6 tk6 t6 zgx2 zhx3 zgx5 zgx6 zgx7 zgx8 zgx9 zgx10 zgx13 zgx14 hlay zs hzs zgx15 zgx16 zgx17 h7 tk7 t7 zgx18 D t0 t1 t2 t3 t4 h8 k8 zhx4 zhx5 zhx6 ys hag zhx7 zhx8 zhx9 zhx10 zhx11 zhx12 zix1 zhx13 zhx14 a1 a2 a3 a4 a5 a6 a7 a8 a9 a10 t9 h9 tk9 hal pl hplE hpl hpn zix2 zix3 h10 tk10 t10 zix4 zix5 htl hsz1 zix6 zix7 zix8 tk
  rename Fr _ _ _ _ => F1
  rename News _ _ _ _ => N1
  have hkl : kept.length = i := by rw [hkp.length_eq, placesOf_length, List.length_take]; omega
  refine insort_left_spec X9 T9 F1.keep (N1 _ (.tail _ (.tail _ (.tail _ (.head _))))).1 (N1 _ (.tail _ (.tail _ (.tail _ (.head _))))).2.2 hkv hsort (by omega) (by simp only [depth_deeper, depth_caller]; decide) (by first | k_room | ke_room | (dsimp only [Around.deeper]; decide) | (show callerA.units + 30 < cLine; decide)) ?_
  intro kv2 kn2 h11 tk11 hk11 ha11 hkv2
  obtain ⟨F2, N2⟩ := mut_upd F1 N1 (Upd.tail (by k_ne) (Upd.tail (by k_ne) (Upd.tail (by k_ne) (Upd.head (by k_all))))) hk11 ha11
  clear F1 N1 hk11 ha11
  dsimp only
  walk_at "my walk"
  refine rest_ind (fun j zs => IntsAre zs ((agI ns (i + 1) 1).take j)) .nil ?_ ?_
  · intro j zs v I' oI' C oC D m₂ h tk E' hjn hzs hP hC hx F N off ne
    obtain ⟨tj, rfl⟩ := hP
    have hjl : (0 : Int) + (j : Int) < (agI ns i 2).length := by rw [hal]; omega
    have hj0 : 0 ≤ (0 : Int) + (j : Int) := by omega
    walk_at "my walk"
    all_goals refine ints_snoc hzs (agI_next hc hjn ?_)
    · rename ((0 : Int) + (j : Int) = (cn : Int)) => hb
      rw [if_pos hb]
    · rename (¬ (0 : Int) + (j : Int) = (cn : Int)) => hb
      rw [if_neg hb, show ((0 : Int) + (j : Int)).toNat = j by omega]
  intro ds hds
  replace hds : IntsAre ds (agI ns (i + 1) 1) := hds
  walk_at "my walk"
  dsimp only [PostG]
  rename Fr _ _ _ _ => F3
  rename News _ _ _ _ => N3
  rename (@Ne Nat _ _ ∧ _) => oA
  refine law_end F3 N3 oA ⟨i2, i3, i4, i5, i6, i7, i8, i9⟩ ⟨by assumption, by assumption, by assumption, by assumption, by assumption⟩ ⟨by walk_at "my get", by walk_at "my get", by walk_at "my get"⟩ hds ?_ hkv2 (insI_sorted hsort) ?_
  · rw [hpn]
    exact htv.append (.cons _ _ .nil)
  · rw [hpn]
    refine (insI_perm _ _).trans ?_
    refine (hkp.cons _).trans ?_
    exact (List.perm_append_comm (l₁ := [(pl : Int)]))
end Mine
end

local macro_rules | `(tactic| walk_at "shared 25") => `(tactic| (with_reducible refine st21 ?_))

local macro_rules | `(tactic| walk_at "shared 26") => `(tactic| (k_here; k_dflt (refine LCg.CompSrc.range (n := 3) (by rfl) (by k_asm) (by k_asm) (by assumption) (by decide) (by rfl) (by exact Nat.le_of_ble_eq_true rfl) ?_; intro g')))

section
open PySem PySem.W PyProof.Rows PySem.Calls PySem.Spec PyProof.V
set_option Elab.async false
namespace Mine
local macro_rules | `(tactic| omega) => `(tactic| walk_at "shared 1")
local macro_rules | `(tactic| walk_at "my stop") => `(tactic| walk_at "shared 22")
local macro_rules | `(tactic| walk_at "exec Assign cons ListComp") => `(tactic| walk_at "shared 20")
local macro_rules | `(tactic| walk_at "my walk") => `(tactic| walk_at "shared 2")
local macro_rules | `(tactic| walk_at "eval Name") => `(tactic| walk_at "shared 3")
local macro_rules | `(tactic| walk_at "my get") => `(tactic| walk_at "shared 14")
local macro_rules | `(tactic| k_ne) => `(tactic| walk_at "shared 23")
local macro_rules | `(tactic| walk_at "my clear") => `(tactic| walk_at "shared 24")
local macro_rules | `(tactic| walk_at "CompEnd") => `(tactic| walk_at "shared 10")
local macro_rules | `(tactic| walk_at "eval ListComp") => `(tactic| walk_at "shared 15")
local macro_rules | `(tactic| walk_at "my stop") => `(tactic| walk_at "shared 25")
local macro_rules | `(tactic| walk_at "CompSrc") => `(tactic| walk_at "shared 26")
set_option maxRecDepth 100000 in
set_option maxHeartbeats 8000000 in
noncomputable def S9 : Cut1 (S3.R) := by
  w_top off
  apply Cut1.mk
  intro kBoxP
  · intro zbx1 zbx2 zbx3 zbx4 zbx5 zbx6 zbx7 zbx8 zbx9 zbx10 zbx11 zbx12 zbx13 X9 zbx14 zbx15 zbx16 T9 zbx17 zbx18 zbx19 zbx20 zbx21 zbx22 zbx23 zbx24 zbx25 zbx26 zbx27 zbx30 zbx31 zbx32 zbx33 zbx34 zbx35 zbx36 zbx37 zbx43 zbx44 zbx45 zbx46 zbx47 zbx48 zbx49 zbx50 zbx51 zbx52 zbx53 zbx54 zbx55 zbx56 zbx57 zbx58 zbx59 zbx60 zbx61 qk ek zbx62 zbx63 zbx64 zbx66 zbx67 zbx69 zbx70 zbx71 zbx72 zbx74 zbx75 zbx76 zbx77 zbx79 zbx80 zbx81 zbx82 zbx83 zbx84 zbx85 zbx86 zbx87 zbx89 zbx90 ys ms hm6 hmb zbx91 zbx92 zbx93 zbx95 zbx96 zbx98 zbx99 zbx100 zbx103 zbx104 zbx105 zbx106 zbx107 h' zcx1 D ov n order hperm hol D' us h2 zcx2 zcx3 zcx4 zcx5 zcx6 zcx7 zcx8 zcx9 zcx10 zcx11 zcx12 zcx13 zcx14 zcx16 zcx17 zcx18 zcx19 zcx21 zcx22 zcx23 zcx24 zcx26 zcx27 zcx30 zex1 zcx31 zcx32 zcx33 zcx34 zcx35 zcx39 ns hnm hns hnsE o1 o2 o3 o4 o5 o6 o7 o8 o9 o10 o11 o12 o13 o14 o15 o16 o17 o18 hus m₁ h tk Do dv tv kv dn tn kn kept v4 v5 v6 c2 c3 c4 c5 c6 e1 e2 e3 e4 e5 e6 e7 e8 hc2 hc3 hc4 hc5 hc6 hm1 hm2 hm3 hdv htv hkv hsort hkp F N
    have ht10 : ns.take 10 = ns := List.take_of_length_le (by omega)
    rw [ht10] at htv hkp
    repeat (rename (Apart _ _) => zz; clear zz)
    replace N := drop1 N
    dsimp only
    walk_at "my walk"
    refine places_spec (X9.keeps F.keep) (T9.keeps F.keep) (News.isList N (by k_mem)) hus (by decide) hnm hns rfl (by simp only [depth_deeper, depth_caller]; decide) (by first | k_room | ke_room | (dsimp only [Around.deeper]; decide) | (show callerA.units + 60 < cLine; decide)) ?_
    intro h1 tk1 D ov n hk hD hov hDn
    obtain ⟨F1, N1⟩ := put_news F N hk hD hDn
    clear F N hk hD hDn
    dsimp only
    walk_at "my walk"
    refine ne_ints_same (N1.get (by k_mem)) (N1.get (by k_mem)) htv hov (by first | k_room | ke_room | (dsimp only [Around.deeper]; decide) | (show callerA.units + 64 < cLine; decide)) ?_
    (try dsimp only)
    replace N1 := drop1 N1
    clear hov
    walk_at "my walk"
    have hkl : kept.length = 10 := by rw [hkp.length_eq, placesOf_length, hns]
    have hkvl : kv.length = 10 := by rw [hkv.length, hkl]
    refine rest_ind (fun j zs => IntsAre zs ((mis3 (placesOf [3, 2, 1, 0] ns)).take j)) .nil ?_ ?_
    · intro j zs v I' oI' C oC D m₂ h tk E' hjn hzs hP hC hx F N off ne
      obtain ⟨tj, rfl⟩ := hP
      walk_at "my walk"
      refine bisect_left_spec (X9.keeps F.keep) (T9.keeps F.keep) (News.isList N (by k_mem)) hkv hsort (by omega) (.inl ⟨rfl, rfl⟩) (by simp only [depth_deeper, depth_caller]; decide) (by first | k_room | ke_room | (dsimp only [Around.deeper]; decide) | (show callerA.units + 20 < cLine; decide)) ?_
      intro t7 h7 tk7 hk7
      replace F := F.keeps hk7
      replace N := News.grown N hk7
      clear hk7
      dsimp only
      walk_at "my walk"
      refine ints_snoc hzs (missed_at hkp hjn ?_)
      first | rfl | (rw [hkl]; first | rfl | (rw [hkvl]; rfl) | omega)
    intro zs hmi
    replace hmi : IntsAre zs (mis3 (placesOf [3, 2, 1, 0] ns)) := hmi
    walk_at "my walk"
    walk_at "my clear"
    rename_i zkx1 zkx2 zkx3 zkx4 zkx5 zkx6 zkx7 zkx8 zkx9 zkx10 zkx11 zkx12 zkx13 zkx14 zkx15 zkx16 zkx17 zkx18 zkx19 zkx20 zkx21 zkx22 zkx23 zkx24 zkx25 zkx26 zkx27 zkx28 zkx29 zkx30
    revert zbx1 zbx2 zbx3 zbx4 zbx5 zbx6 zbx7 zbx8 zbx9 zbx10 zbx11 zbx12 zbx13 X9 zbx14 zbx15 zbx16 T9 zbx17 zbx18 zbx19 zbx20 zbx21 zbx22 zbx23 zbx24 zbx25 zbx26 zbx27 zbx30 zbx31 zbx32 zbx33 zbx34 zbx35 zbx36 zbx37 zbx43 zbx44 zbx45 zbx46 zbx47 zbx48 zbx49 zbx50 zbx51 zbx52 zbx53 zbx54 zbx55 zbx56 zbx57 zbx58 zbx59 zbx60 zbx61 qk ek zbx62 zbx63 zbx64 zbx66 zbx67 zbx69 zbx70 zbx71 zbx72 zbx74 zbx75 zbx76 zbx77 zbx79 zbx80 zbx81 zbx82 zbx83 zbx84 zbx85 zbx86 zbx87 zbx89 zbx90 ys ms hm6 hmb zbx91 zbx92 zbx93 zbx95 zbx96 zbx98 zbx99 zbx100 zbx103 zbx104 zbx105 zbx106 zbx107 h' zcx1 zkx1 zkx2 zkx3 order hperm hol D' us h2 zcx2 zcx3 zcx4 zcx5 zcx6 zcx7 zcx8 zcx9 zcx10 zcx11 zcx12 zcx13 zcx14 zcx16 zcx17 zcx18 zcx19 zcx21 zcx22 zcx23 zcx24 zcx26 zcx27 zcx30 zex1 zcx31 zcx32 zcx33 zcx34 zcx35 zcx39 ns hnm hns hnsE hus m₁ h tk Do dv tv kv dn tn kn kept v4 v5 v6 c2 c3 c4 c5 c6 hc2 hc3 hc4 hc5 hc6 hm1 hm2 hm3 hdv htv hkv hsort hkp ht10 h1 tk1 D ov n zkx4 zkx5 zkx6 zkx7 zkx8 zkx9 zkx10 zkx11 zkx12 zkx13 zkx14 zkx15 hkl hkvl zs hmi zkx16 zkx17 zkx18 zkx19 zkx20 zkx21 zkx22 zkx23 zkx24 zkx25 zkx26 zkx27 zkx28 zkx29 zkx30
    exact kBoxP.out
end Mine
end

section
open PySem PySem.W PyProof.Rows PySem.Calls PySem.Spec PyProof.V
set_option Elab.async false
namespace Mine
local macro_rules | `(tactic| walk_at "my spare") => `(tactic| fail "none")
local macro_rules | `(tactic| omega) => `(tactic| walk_at "shared 1")
local macro_rules | `(tactic| walk_at "my stop") => `(tactic| walk_at "shared 22")
local macro_rules | `(tactic| walk_at "exec Assign cons ListComp") => `(tactic| walk_at "shared 20")
local macro_rules | `(tactic| walk_at "my walk") => `(tactic| walk_at "shared 2")
local macro_rules | `(tactic| walk_at "eval Name") => `(tactic| walk_at "shared 3")
local macro_rules | `(tactic| walk_at "my get") => `(tactic| walk_at "shared 14")
local macro_rules | `(tactic| k_ne) => `(tactic| walk_at "shared 23")
local macro_rules | `(tactic| walk_at "my clear") => `(tactic| walk_at "shared 24")
local macro_rules | `(tactic| walk_at "CompEnd") => `(tactic| walk_at "shared 10")
local macro_rules | `(tactic| walk_at "eval ListComp") => `(tactic| walk_at "shared 15")
local macro_rules | `(tactic| walk_at "my stop") => `(tactic| walk_at "shared 25")
local macro_rules | `(tactic| walk_at "CompSrc") => `(tactic| walk_at "shared 26")
set_option maxRecDepth 100000 in
set_option maxHeartbeats 8000000 in
noncomputable def S10 : Cut1 (S9.P) := by
  w_top off
  apply Cut1.mk
  intro kBoxP
  · intro zbx1 zbx2 zbx3 zbx4 zbx5 zbx6 zbx7 zbx8 zbx9 zbx10 zbx11 zbx12 zbx13 X9 zbx14 zbx15 zbx16 T9 zbx17 zbx18 zbx19 zbx20 zbx21 zbx22 zbx23 zbx24 zbx25 zbx26 zbx27 zbx30 zbx31 zbx32 zbx33 zbx34 zbx35 zbx36 zbx37 zbx43 zbx44 zbx45 zbx46 zbx47 zbx48 zbx49 zbx50 zbx51 zbx52 zbx53 zbx54 zbx55 zbx56 zbx57 zbx58 zbx59 zbx60 zbx61 qk ek zbx62 zbx63 zbx64 zbx66 zbx67 zbx69 zbx70 zbx71 zbx72 zbx74 zbx75 zbx76 zbx77 zbx79 zbx80 zbx81 zbx82 zbx83 zbx84 zbx85 zbx86 zbx87 zbx89 zbx90 ys ms hm6 hmb zbx91 zbx92 zbx93 zbx95 zbx96 zbx98 zbx99 zbx100 zbx103 zbx104 zbx105 zbx106 zbx107 h' zcx1 zkx1 zkx2 zkx3 order hperm hol D' us h2 zcx2 zcx3 zcx4 zcx5 zcx6 zcx7 zcx8 zcx9 zcx10 zcx11 zcx12 zcx13 zcx14 zcx16 zcx17 zcx18 zcx19 zcx21 zcx22 zcx23 zcx24 zcx26 zcx27 zcx30 zex1 zcx31 zcx32 zcx33 zcx34 zcx35 zcx39 ns hnm hns hnsE hus m₁ h tk Do dv tv kv dn tn kn kept v4 v5 v6 c2 c3 c4 c5 c6 hc2 hc3 hc4 hc5 hc6 hm1 hm2 hm3 hdv htv hkv hsort hkp ht10 h1 tk1 D ov n zkx4 zkx5 zkx6 zkx7 zkx8 zkx9 zkx10 zkx11 zkx12 zkx13 zkx14 zkx15 hkl hkvl zs hmi zkx16 zkx17 zkx18 zkx19 zkx20 zkx21 zkx22 zkx23 zkx24 zkx25 zkx26 zkx27 zkx28 zkx29 zkx30
    refine rest_ind (fun j zs => IntsAre zs ((mis3 (placesOf [3, 2, 1, 0] ns)).take j)) .nil ?_ ?_
    · intro j zs v I' oI' C oC D m₂ h tk E' hjn hzs hP hC hx F N off ne
      obtain ⟨tj, rfl⟩ := hP
      walk_at "my walk"
      refine misses_spec (X9.keeps F.keep) (T9.keeps F.keep) (News.isList N (by k_mem)) hus hns (by omega) rfl (by simp only [depth_deeper, depth_caller]; decide) (by first | k_room | ke_room | (dsimp only [Around.deeper]; decide) | (show callerA.units + 60 < cLine; decide)) ?_
      intro h7 tk7 t7 hk7
      replace F := F.keeps hk7
      replace N := News.grown N hk7
      clear hk7
      exact compEnd_ind F N off trivial (ints_snoc hzs (misses_at hnm hjn))
    intro ys hmi2
    replace hmi2 : IntsAre ys (mis3 (placesOf [3, 2, 1, 0] ns)) := hmi2
    walk_at "my walk"
    rename News _ _ _ _ => N1
    refine ne_ints_same (N1.get (by k_mem)) (N1.get (by k_mem)) hmi2 hmi (by first | k_room | ke_room | (dsimp only [Around.deeper]; decide) | (show callerA.units + 64 < cLine; decide)) ?_
    (try dsimp only)
    replace N1 := drop1 N1
    clear hmi2
    walk_at "my clear"
    walk_at "my walk"
    rename_i zlx1 zlx2 zlx3 zlx4 zlx5
    revert zbx1 zbx2 zbx3 zbx4 zbx5 zbx6 zbx7 zbx8 zbx9 zbx10 zbx11 zbx12 zbx13 X9 zbx14 zbx15 zbx16 T9 zbx17 zbx18 zbx19 zbx20 zbx21 zbx22 zbx23 zbx24 zbx25 zbx26 zbx27 zbx30 zbx31 zbx32 zbx33 zbx34 zbx35 zbx36 zbx37 zbx43 zbx44 zbx45 zbx46 zbx47 zbx48 zbx49 zbx50 zbx51 zbx52 zbx53 zbx54 zbx55 zbx56 zbx57 zbx58 zbx59 zbx60 zbx61 qk ek zbx62 zbx63 zbx64 zbx66 zbx67 zbx69 zbx70 zbx71 zbx72 zbx74 zbx75 zbx76 zbx77 zbx79 zbx80 zbx81 zbx82 zbx83 zbx84 zbx85 zbx86 zbx87 zbx89 zbx90 zlx1 ms hm6 hmb zbx91 zbx92 zbx93 zbx95 zbx96 zbx98 zbx99 zbx100 zbx103 zbx104 zbx105 zbx106 zbx107 h' zcx1 zkx1 zkx2 zkx3 order hperm hol D' us h2 zcx2 zcx3 zcx4 zcx5 zcx6 zcx7 zcx8 zcx9 zcx10 zcx11 zcx12 zcx13 zcx14 zcx16 zcx17 zcx18 zcx19 zcx21 zcx22 zcx23 zcx24 zcx26 zcx27 zcx30 zex1 zcx31 zcx32 zcx33 zcx34 zcx35 zcx39 ns hnm hns hnsE hus m₁ h tk Do dv tv kv dn tn kn kept v4 v5 v6 c2 c3 c4 c5 c6 hc2 hc3 hc4 hc5 hc6 hm1 hm2 hm3 hdv htv hkv hsort hkp ht10 h1 tk1 D ov n zkx4 zkx5 zkx6 zkx7 zkx8 zkx9 zkx10 zkx11 zkx12 zkx13 zkx14 zkx15 hkl hkvl zs hmi zkx16 zkx17 zkx18 zkx19 zkx20 zkx21 zkx22 zkx23 zkx24 zkx25 zkx26 zkx27 zkx28 zkx29 zkx30 ys zlx2 zlx3 zlx4 zlx5 N1
    exact kBoxP.out
end Mine
end

section
open PySem PySem.W PyProof.Rows PySem.Calls PySem.Spec PyProof.V
set_option Elab.async false
namespace Mine
local macro_rules | `(tactic| walk_at "my spare") => `(tactic| fail "none")
local macro_rules | `(tactic| walk_at "my spare") => `(tactic| fail "none")
local macro_rules | `(tactic| walk_at "my spare") => `(tactic| fail "none")
local macro_rules | `(tactic| omega) => `(tactic| walk_at "shared 1")
local macro_rules | `(tactic| walk_at "my stop") => `(tactic| walk_at "shared 22")
local macro_rules | `(tactic| walk_at "exec Assign cons ListComp") => `(tactic| walk_at "shared 20")
local macro_rules | `(tactic| walk_at "my walk") => `(tactic| walk_at "shared 2")
local macro_rules | `(tactic| walk_at "eval Name") => `(tactic| walk_at "shared 3")
local macro_rules | `(tactic| walk_at "my get") => `(tactic| walk_at "shared 14")
local macro_rules | `(tactic| k_ne) => `(tactic| walk_at "shared 23")
local macro_rules | `(tactic| walk_at "my clear") => `(tactic| walk_at "shared 24")
local macro_rules | `(tactic| walk_at "CompEnd") => `(tactic| walk_at "shared 10")
local macro_rules | `(tactic| walk_at "eval ListComp") => `(tactic| walk_at "shared 15")
local macro_rules | `(tactic| walk_at "my stop") => `(tactic| walk_at "shared 25")
theorem pick4 {g h : Heap} {L' L Mi Ke To As : Addr} {oM oK oT oA c6 c5 c4 c3 c2 : Obj} (N : News g L' h [(Mi, oM), (Ke, oK), (To, oT), (As, oA), (L + 1 + 1 + 1 + 1 + 1 + 1, c6), (L + 1 + 1 + 1 + 1 + 1, c5), (L + 1 + 1 + 1 + 1, c4), (L + 1 + 1 + 1, c3), (L + 1 + 1, c2)]) :
    News g L' h [(Mi, oM), (To, oT), (As, oA), (L + 1 + 1, c2)] := News.sub N (by intro p hp; simp only [List.mem_cons, List.not_mem_nil, or_false] at hp ⊢; rcases hp with rfl | rfl | rfl | rfl <;> simp)
set_option maxRecDepth 100000 in
set_option maxHeartbeats 8000000 in
noncomputable def S11 : Cut1 (S10.P) := by
  w_top off
  apply Cut1.mk
  intro kBoxP
  · intro zbx1 zbx2 zbx3 zbx4 zbx5 zbx6 zbx7 zbx8 zbx9 zbx10 zbx11 zbx12 zbx13 X9 zbx14 zbx15 zbx16 T9 zbx17 zbx18 zbx19 zbx20 zbx21 zbx22 zbx23 zbx24 zbx25 zbx26 zbx27 zbx30 zbx31 zbx32 zbx33 zbx34 zbx35 zbx36 zbx37 zbx43 zbx44 zbx45 zbx46 zbx47 zbx48 zbx49 zbx50 zbx51 zbx52 zbx53 zbx54 zbx55 zbx56 zbx57 zbx58 zbx59 zbx60 zbx61 qk ek zbx62 zbx63 zbx64 zbx66 zbx67 zbx69 zbx70 zbx71 zbx72 zbx74 zbx75 zbx76 zbx77 zbx79 zbx80 zbx81 zbx82 zbx83 zbx84 zbx85 zbx86 zbx87 zbx89 zbx90 zlx1 ms hm6 hmb zbx91 zbx92 zbx93 zbx95 zbx96 zbx98 zbx99 zbx100 zbx103 zbx104 zbx105 zbx106 zbx107 h' zcx1 zkx1 zkx2 zkx3 order hperm hol D' us h2 zcx2 zcx3 zcx4 zcx5 zcx6 zcx7 zcx8 zcx9 zcx10 zcx11 zcx12 zcx13 zcx14 zcx16 zcx17 zcx18 zcx19 zcx21 zcx22 zcx23 zcx24 zcx26 zcx27 zcx30 zex1 zcx31 zcx32 zcx33 zcx34 zcx35 zcx39 ns hnm hns hnsE hus m₁ h tk Do dv tv kv dn tn kn kept v4 v5 v6 c2 c3 c4 c5 c6 hc2 hc3 hc4 hc5 hc6 hm1 hm2 hm3 hdv htv hkv hsort hkp ht10 h1 tk1 D ov n zkx4 zkx5 zkx6 zkx7 zkx8 zkx9 zkx10 zkx11 zkx12 zkx13 zkx14 zkx15 hkl hkvl zs hmi zkx16 zkx17 zkx18 zkx19 zkx20 zkx21 zkx22 zkx23 zkx24 zkx25 zkx26 zkx27 zkx28 zkx29 zkx30 ys zlx2 zlx3 zlx4 zlx5 N1
    rename Fr _ _ _ _ => F1
    rename News _ _ _ _ => N1
    replace N1 := pick4 N1
    obtain ⟨o0, q1, q2, q3, rfl, r0, r1, r2, r3⟩ := perm_four hperm
    have hP := placesOf_nat ns [3, 2, 1, 0]
    have hPl := placesN_len [3, 2, 1, 0] ns
    have hP3 := placesN_le ns [3, 2, 1, 0] (by decide) hnm
    rw [hP] at htv
    refine lead_spec (X9.keeps F1.keep) (T9.keeps F1.keep) (News.isList N1 (by k_mem)) htv hP3 (by rw [hPl, hns]) rfl (by simp only [depth_deeper, depth_caller]; decide) (by first | k_room | ke_room | (dsimp only [Around.deeper]; decide) | (show callerA.units + 60 < cLine; decide)) ?_
    intro hh1 tk1 x1 hk1 hW1
    obtain ⟨F2, dx1, Dn1, Dt1, cv1, rs1, n1, sm1, tb1, ta1, ta2, ta3, ta4, ta5, ta6, ta7, ta8, N2, hW1'⟩ := ws_news F1 N1 hk1 hW1
    clear F1 N1 hk1 hW1
    dsimp only
    walk_at "my walk"
    rename IntsAre _ (List.reverse _) => hrv
    have hE : (0 :: 1 :: 2 :: 3 :: ns).reverse = q3 :: q2 :: q1 :: o0 :: (ms.reverse ++ [3, 2, 1, 0]) := by rw [hnsE]; simp
    rw [hE] at hrv
    have hbm : ∀ n ∈ ms.reverse ++ [3, 2, 1, 0], n ∈ R4 := by
      intro n hn
      rcases List.mem_append.mp hn with h | h
      · exact R4_of (hmb n (List.mem_reverse.mp h))
      · simp only [R4, List.mem_cons, List.not_mem_nil, or_false] at h ⊢
        omega
    have hbl : (ms.reverse ++ [3, 2, 1, 0]).length = 10 := by rw [List.length_append, List.length_reverse, hm6]; rfl
    rename Fr _ _ _ _ => F1
    rename News _ _ _ _ => N1
    walk_at "my clear"
    refine places_spec (X9.keeps F1.keep) (T9.keeps F1.keep) (News.isList N1 (by k_mem)) hrv hperm hbm hbl rfl (by simp only [depth_deeper, depth_caller]; decide) (by first | k_room | ke_room | (dsimp only [Around.deeper]; decide) | (show callerA.units + 60 < cLine; decide)) ?_
    intro h1 tk1 D ov n hk hD hov hDn
    obtain ⟨F2, N2⟩ := put_news F1 (drop1 N1) hk hD hDn
    clear F1 N1 hk hD hDn
    dsimp only
    have hB := placesOf_nat (ms.reverse ++ [3, 2, 1, 0]) [o0, q1, q2, q3]
    have hBl := placesN_len [o0, q1, q2, q3] (ms.reverse ++ [3, 2, 1, 0])
    have hB3 := placesN_le (ms.reverse ++ [3, 2, 1, 0]) [o0, q1, q2, q3] hperm hbm
    rw [hB] at hov
    walk_at "my walk"
    rename Fr _ _ _ _ => F1
    rename News _ _ _ _ => N1
    refine lead_spec (X9.keeps F1.keep) (T9.keeps F1.keep) (News.isList N1 (by k_mem)) hov hB3 (by rw [hBl, hbl]) rfl (by simp only [depth_deeper, depth_caller]; decide) (by first | k_room | ke_room | (dsimp only [Around.deeper]; decide) | (show callerA.units + 60 < cLine; decide)) ?_
    intro hh1 tk1 x2 hk1 hW1
    obtain ⟨F2, dx2, Dn2, Dt2, cv2, rs2, n2, sm2, tb2, tc1, tc2, tc3, tc4, tc5, tc6, tc7, tc8, N2, hW2'⟩ := ws_news F1 (drop1 N1) hk1 hW1
    clear F1 N1 hk1 hW1 hov hrv
    dsimp only
    walk_at "my walk"
    rename IntsAre _ (List.map _ _) => hlw
    rename Fr _ _ _ _ => F1
    rename News _ _ _ _ => N1
    rw [low_eq] at hlw
    generalize hPS : placesN [3, 2, 1, 0] ns = ps at *
    generalize hBS : placesN [o0, q1, q2, q3] (ms.reverse ++ [3, 2, 1, 0]) = bs at *
    refine lead_spec (X9.keeps F1.keep) (T9.keeps F1.keep) (News.isList N1 (by k_mem)) hlw (low_le ps) (by rw [List.length_map, hPl, hns]) rfl (by simp only [depth_deeper, depth_caller]; decide) (by first | k_room | ke_room | (dsimp only [Around.deeper]; decide) | (show callerA.units + 60 < cLine; decide)) ?_
    intro hh1 tk1 x3 hk1 hW1
    rw [List.length_map] at hW1
    obtain ⟨F2, dx3, Dn3, Dt3, cv3, rs3, n3, sm3, tb3, td1, td2, td3, td4, td5, td6, td7, td8, N2, hW3'⟩ := ws_news F1 (drop1 N1) hk1 hW1
    clear F1 N1 hk1 hW1 hlw
    walk_at "my clear"
    dsimp only
    walk_at "my walk"
    rename_i zmx1 zmx2 zmx3 zmx4 zmx5 zmx6 zmx7 zmx8 zmx9 zmx10 zmx11 zmx12 zmx13 zmx14 zmx15 zmx16 zmx17 zmx18 zmx19 zmx20 zmx21 zmx22 zmx23 zmx24 zmx25 zmx26 zmx27 zmx28 zmx29 zmx30 zmx31 zmx32 zmx33
    revert zbx1 zbx2 zbx3 zbx4 zbx5 zbx6 zbx7 zbx8 zbx9 zbx10 zbx11 zbx12 zbx13 X9 zbx14 zbx15 zbx16 T9 zbx17 zbx18 zbx19 zbx20 zbx21 zbx22 zbx23 zbx24 zbx25 zbx26 zbx27 zbx30 zbx31 zbx32 zbx33 zbx34 zbx35 zbx36 zbx37 zbx43 zbx44 zbx45 zbx46 zbx47 zbx48 zbx49 zbx50 zbx51 zbx52 zbx53 zbx54 zbx55 zbx56 zbx57 zbx58 zbx59 zbx60 zbx61 qk ek zbx62 zbx63 zbx64 zbx66 zbx67 zbx69 zbx70 zbx71 zbx72 zbx74 zbx75 zbx76 zbx77 zbx79 zbx80 zbx81 zbx82 zbx83 zbx84 zbx85 zbx86 zbx87 zbx89 zbx90 zlx1 ms hm6 hmb zbx91 zbx92 zbx93 zbx95 zbx96 zbx98 zbx99 zbx100 zbx103 zbx104 zbx105 zbx106 zbx107 h' zcx1 zkx1 zkx2 zkx3 D' us h2 zcx2 zcx3 zcx4 zcx5 zcx6 zcx7 zcx8 zcx9 zcx10 zcx11 zcx12 zcx13 zcx14 zcx16 zcx17 zcx18 zcx19 zcx21 zcx22 zcx23 zcx24 zcx26 zcx27 zcx30 zex1 zcx31 zcx32 zcx33 zcx34 zcx35 zcx39 ns hnm hns hus m₁ h zmx1 Do dv tv kv dn tn kn kept v4 v5 v6 c2 c3 c4 c5 c6 hc2 hc3 hc4 hc5 hc6 hm1 hm2 hm3 hdv hkv hsort hkp ht10 zmx2 zmx3 zmx4 zmx5 zmx6 zkx4 zkx5 zkx6 zkx7 zkx8 zkx9 zkx10 zkx11 zkx12 zkx13 zkx14 zkx15 hkl hkvl zs hmi zkx16 zkx17 zkx18 zkx19 zkx20 zkx21 zkx22 zkx23 zkx24 zkx25 zkx26 zkx27 zkx28 zkx29 zkx30 zmx7 zlx2 zlx3 zlx4 o0 q1 q2 q3 hperm hol hnsE r0 r1 r2 r3 zmx8 zmx9 x1 F2 dx1 Dn1 Dt1 cv1 rs1 n1 sm1 tb1 ta1 ta2 ta3 ta4 ta5 ta6 ta7 ta8 zmx10 zmx11 zmx12 zmx13 zmx14 zmx15 hE hbm hbl h1 zmx16 D ov n zmx17 zmx18 x2 dx2 Dn2 Dt2 cv2 rs2 n2 sm2 tb2 tc1 tc2 tc3 tc4 tc5 tc6 tc7 tc8 zmx19 zmx20 zmx21 zmx22 zmx23 zmx24 zmx25 ys zmx26 zmx27 zmx28 ps hPS htv hP hPl hP3 N2 hW1' zmx29 zmx30 bs hBS hB hBl hB3 hW2' hh1 tk1 x3 dx3 Dn3 Dt3 cv3 rs3 n3 sm3 tb3 td1 td2 td3 td4 td5 td6 td7 td8 hW3' zmx31 zmx32 zmx33 tk
    exact kBoxP.out
end Mine
end

local macro_rules | `(tactic| walk_at "shared 27") => `(tactic| (
  (rename Fr _ _ _ _ => F1); (rename News _ _ _ _ => N1); (revert F1 N1);
  (repeat (rename Fr _ _ _ _ => zz; clear zz)); (repeat (rename News _ _ _ _ => zz; clear zz)); (intro F1 N1)))

section
open PySem PySem.W PyProof.Rows PySem.Calls PySem.Spec PyProof.V
set_option Elab.async false
namespace Mine
local macro_rules | `(tactic| walk_at "my spare") => `(tactic| fail "none")
local macro_rules | `(tactic| walk_at "my spare") => `(tactic| fail "none")
local macro_rules | `(tactic| omega) => `(tactic| walk_at "shared 1")
local macro_rules | `(tactic| walk_at "my stop") => `(tactic| walk_at "shared 22")
local macro_rules | `(tactic| walk_at "exec Assign cons ListComp") => `(tactic| walk_at "shared 20")
local macro_rules | `(tactic| walk_at "my walk") => `(tactic| walk_at "shared 2")
local macro_rules | `(tactic| walk_at "eval Name") => `(tactic| walk_at "shared 3")
local macro_rules | `(tactic| walk_at "my get") => `(tactic| walk_at "shared 14")
local macro_rules | `(tactic| k_ne) => `(tactic| walk_at "shared 23")
local macro_rules | `(tactic| walk_at "my clear") => `(tactic| walk_at "shared 24")
local macro_rules | `(tactic| walk_at "CompEnd") => `(tactic| walk_at "shared 10")
local macro_rules | `(tactic| walk_at "eval ListComp") => `(tactic| walk_at "shared 15")
local macro_rules | `(tactic| walk_at "my old") => `(tactic| walk_at "shared 27")
local macro_rules | `(tactic| walk_at "my stop") => `(tactic| walk_at "shared 25")
theorem pick14 {g h : Heap} {L : Addr} {a1 a2 a3 a4 b1 b2 b3 b4 c1 c2 c3 c4 d1 d2 d3 d4 : Addr × Obj} (N : News g L h [a1, a2, a3, a4, b1, b2, b3, b4, c1, c2, c3, c4, d1, d2, d3, d4]) : News g L h [a1, a2, a3, a4, b1, b2, b3, b4, c1, c2, c3, c4, d1, d2] :=
  News.sub N (by intro p hp; simp only [List.mem_cons, List.not_mem_nil, or_false] at hp ⊢; rcases hp with rfl | rfl | rfl | rfl | rfl | rfl | rfl | rfl | rfl | rfl | rfl | rfl | rfl | rfl <;> simp)
set_option maxRecDepth 100000 in
set_option maxHeartbeats 8000000 in
noncomputable def S12 : Cut2 (S11.P) := by
  w_top off
  apply Cut2.mk
  intro kBoxP kBoxR
  · intro zbx1 zbx2 zbx3 zbx4 zbx5 zbx6 zbx7 zbx8 zbx9 zbx10 zbx11 zbx12 zbx13 X9 zbx14 zbx15 zbx16 T9 zbx17 zbx18 zbx19 zbx20 zbx21 zbx22 zbx23 zbx24 zbx25 zbx26 zbx27 zbx30 zbx31 zbx32 zbx33 zbx34 zbx35 zbx36 zbx37 zbx43 zbx44 zbx45 zbx46 zbx47 zbx48 zbx49 zbx50 zbx51 zbx52 zbx53 zbx54 zbx55 zbx56 zbx57 zbx58 zbx59 zbx60 zbx61 qk ek zbx62 zbx63 zbx64 zbx66 zbx67 zbx69 zbx70 zbx71 zbx72 zbx74 zbx75 zbx76 zbx77 zbx79 zbx80 zbx81 zbx82 zbx83 zbx84 zbx85 zbx86 zbx87 zbx89 zbx90 zlx1 ms hm6 hmb zbx91 zbx92 zbx93 zbx95 zbx96 zbx98 zbx99 zbx100 zbx103 zbx104 zbx105 zbx106 zbx107 h' zcx1 zkx1 zkx2 zkx3 D' us h2 zcx2 zcx3 zcx4 zcx5 zcx6 zcx7 zcx8 zcx9 zcx10 zcx11 zcx12 zcx13 zcx14 zcx16 zcx17 zcx18 zcx19 zcx21 zcx22 zcx23 zcx24 zcx26 zcx27 zcx30 zex1 zcx31 zcx32 zcx33 zcx34 zcx35 zcx39 ns hnm hns hus m₁ h zmx1 Do dv tv kv dn tn kn kept v4 v5 v6 c2 c3 c4 c5 c6 hc2 hc3 hc4 hc5 hc6 hm1 hm2 hm3 hdv hkv hsort hkp ht10 zmx2 zmx3 zmx4 zmx5 zmx6 zkx4 zkx5 zkx6 zkx7 zkx8 zkx9 zkx10 zkx11 zkx12 zkx13 zkx14 zkx15 hkl hkvl zs hmi zkx16 zkx17 zkx18 zkx19 zkx20 zkx21 zkx22 zkx23 zkx24 zkx25 zkx26 zkx27 zkx28 zkx29 zkx30 zmx7 zlx2 zlx3 zlx4 o0 q1 q2 q3 hperm hol hnsE r0 r1 r2 r3 zmx8 zmx9 x1 F2 dx1 Dn1 Dt1 cv1 rs1 n1 sm1 tb1 ta1 ta2 ta3 ta4 ta5 ta6 ta7 ta8 zmx10 zmx11 zmx12 zmx13 zmx14 zmx15 hE hbm hbl h1 zmx16 D ov n zmx17 zmx18 x2 dx2 Dn2 Dt2 cv2 rs2 n2 sm2 tb2 tc1 tc2 tc3 tc4 tc5 tc6 tc7 tc8 zmx19 zmx20 zmx21 zmx22 zmx23 zmx24 zmx25 ys zmx26 zmx27 zmx28 ps hPS htv hP hPl hP3 N2 hW1' zmx29 zmx30 bs hBS hB hBl hB3 hW2' hh1 tk1 x3 dx3 Dn3 Dt3 cv3 rs3 n3 sm3 tb3 td1 td2 td3 td4 td5 td6 td7 td8 hW3' zmx31 zmx32 zmx33 tk
    walk_at "my old"
    rename Fr _ _ _ _ => F1
    rename News _ _ _ _ => N1
    rename IntsAre zs _ => hmi
    rename IntsAre tv _ => htv
    revert htv hmi
    repeat (rename (IntsAre _ _) => zz; clear zz)
    intro hmi htv
    repeat (rename (_ = Data.cell _) => zz; clear zz)
    have e10 : ps.length = 10 := by rw [hPl, hns]
    have hbs10 : bs.length = 10 := by rw [hBl, hbl]
    obtain ⟨c0, c1, c2, c3, p1, p2, p3, p4, p5, hHp, hHl, hHb, hM⟩ := law_plain hnsE (fun n h => R4_of (hmb n h)) hperm rfl hbm hPS hBS e10
    rw [hM] at hmi
    rw [e10, hHp] at hW1'
    rw [e10, hHl] at hW3'
    rw [hbs10, hHb] at hW2'
    rw [e10, hbs10] at N1
    obtain ⟨tm1, tm2, tm3, rfl⟩ := IntsAre.three hmi
    have htvl : tv.length = 10 := by rw [htv.length, List.length_map, e10]
    replace N1 := pick14 N1
    clear hHp hHl hHb hM hP hB hPS hBS hPl hBl hP3 hB3 hsort hkp hmi
    refine wpAny_For ?_ (by intro _; rfl)
    walk_at "my walk"
    rename Fr _ _ _ _ => F1
    rename News _ _ _ _ => N1
    rename IsRange _ _ _ _ _ _ _ _ => R1
    refine iterG_range (n := 4) (J := fun i m nx => nx = [_, _, _, _, _, _, _, _, _, _, _, _, _, _] ∧ m "low" = some (.ref x3) ∧ m "back" = some (.ref x2) ∧ m "lead" = some (.ref x1) ∧ m "missed" = some (.ref _) ∧ m "told" = some (.ref _)) rfl (by passes_own) R1 (by decide) (by rfl) F1 N1 ⟨rfl, rfl, rfl, rfl, rfl, by walk_at "my get"⟩ ?_ ?_
    · rintro i t m₁ rest₁ h tk I oI hi' hoff1 ⟨rfl, b1, b2, b3, b4, b5⟩ F N
      clear F1 N1 R1
      dsimp only [PostG]
      generalize hsz : (1 : Int) + (i : Int) = sz
      have hsz4 : sz = 1 ∨ sz = 2 ∨ sz = 3 ∨ sz = 4 := by omega
      walk_at "my walk"
      rename_i znx1 znx2 znx3 znx4 znx5 znx6 znx7 znx8 znx9 znx10 znx11 znx12 znx13 znx14 znx15
      revert zbx1 zbx2 zbx3 zbx4 zbx5 zbx6 zbx7 zbx8 zbx9 zbx10 zbx11 zbx12 zbx13 X9 zbx14 zbx15 zbx16 T9 zbx17 zbx18 zbx19 zbx20 zbx21 zbx22 zbx23 zbx24 zbx25 zbx26 zbx27 zbx30 zbx31 zbx32 zbx33 zbx34 zbx35 zbx36 zbx37 zbx43 zbx44 zbx45 zbx46 zbx47 zbx48 zbx49 zbx50 zbx51 zbx52 zbx53 zbx54 zbx61 qk ek zbx62 zbx63 zbx64 zbx66 zbx67 zbx69 zbx70 zbx71 zbx72 zbx74 zbx75 zbx76 zbx77 zbx79 zbx80 zbx82 zbx83 zbx84 zbx85 zbx86 zbx87 zbx89 zbx90 zlx1 ms hm6 hmb zbx91 zbx92 zbx93 zbx95 zbx96 zbx98 zbx99 zbx100 zbx103 zbx104 zbx105 zbx106 zbx107 h' zcx1 zkx1 zkx2 zkx3 D' us h2 zcx2 zcx3 zcx5 zcx6 zcx7 zcx8 zcx9 zcx10 zcx11 zcx12 zcx13 zcx14 zcx16 zcx17 zcx18 zcx19 zcx21 zcx22 zcx23 zcx24 zcx26 zcx27 zex1 zcx31 zcx32 zcx33 zcx34 zcx35 zcx39 ns hnm hns znx1 znx2 zmx1 Do dv tv kv dn tn kn kept v4 v5 v6 znx3 znx4 c4 c5 c6 hm1 hm2 hm3 ht10 zmx2 zmx3 zmx4 zmx5 zmx6 zkx6 zkx7 zkx8 zkx9 zkx10 zkx11 zkx14 zkx15 hkl hkvl zkx16 zkx17 zkx18 zkx21 zkx22 zkx23 zkx24 zkx25 zkx26 zkx29 zkx30 zmx7 zlx2 zlx3 zlx4 o0 q1 q2 q3 hperm hol hnsE r0 r1 r2 r3 zmx8 zmx9 x1 dx1 Dn1 Dt1 cv1 rs1 n1 sm1 tb1 ta1 ta2 ta3 ta4 ta5 ta6 ta7 ta8 zmx10 zmx11 zmx12 zmx13 zmx14 zmx15 hE hbm hbl h1 zmx16 D ov n zmx17 zmx18 x2 dx2 Dn2 Dt2 cv2 rs2 n2 sm2 tb2 tc1 tc2 tc3 tc4 tc5 tc6 tc7 tc8 zmx19 zmx20 zmx21 zmx22 zmx23 zmx25 ys zmx26 zmx27 zmx28 ps zmx29 zmx30 bs hh1 tk1 x3 dx3 Dn3 Dt3 cv3 rs3 n3 sm3 tb3 td1 td2 td3 td4 td5 td6 td7 td8 zmx31 znx5 htv e10 hbs10 c0 c1 c2 c3 hW2' hW3' hW1' p1 p2 p3 p4 p5 tm1 tm2 tm3 zmx24 htvl znx6 znx7 znx8 znx9 znx10 znx11 i t m₁ h znx12 I oI hi' hoff1 b1 b2 b3 b4 b5 F N sz hsz hsz4 znx13 znx14 znx15 tk
      exact kBoxP.out
    · rintro m₁ rest₁ h tk ⟨rfl, b1, b2, b3, b4, b5⟩ F N
      clear F1 N1 R1
      dsimp only
      rename_i zox1 zox2 zox3 zox4 zox5 zox6 zox7 zox8 zox9 zox10 zox11 zox12 zox13
      revert zbx1 zbx2 zbx3 zbx4 zbx5 zbx6 zbx7 zbx8 zbx9 zbx10 zbx11 zbx12 zbx13 X9 zbx14 zbx15 zbx16 T9 zbx17 zbx18 zbx19 zbx20 zbx21 zbx22 zbx23 zbx24 zbx25 zbx26 zbx27 zbx30 zbx31 zbx32 zbx33 zbx34 zbx35 zbx36 zbx37 zbx43 zbx44 zbx45 zbx46 zbx47 zbx48 zbx49 zbx50 zbx51 zbx52 zbx53 zbx54 zbx61 qk ek zbx62 zbx63 zbx64 zbx66 zbx67 zbx69 zbx70 zbx71 zbx72 zbx74 zbx75 zbx76 zbx77 zbx79 zbx80 zbx82 zbx83 zbx84 zbx85 zbx86 zbx87 zbx89 zbx90 zlx1 ms hm6 hmb zbx91 zbx92 zbx93 zbx95 zbx96 zbx98 zbx99 zbx100 zbx103 zbx104 zbx105 zbx106 zbx107 h' zcx1 zkx1 zkx2 zkx3 D' us h2 zcx2 zcx3 zcx5 zcx6 zcx7 zcx8 zcx9 zcx10 zcx11 zcx12 zcx13 zcx14 zcx16 zcx17 zcx18 zcx19 zcx21 zcx22 zcx23 zcx24 zcx26 zcx27 zex1 zcx31 zcx32 zcx33 zcx34 zcx35 zcx39 ns hnm hns zox1 zox2 zmx1 Do dv tv kv dn tn kn kept v4 v5 v6 zox3 zox4 c4 c5 c6 hm1 hm2 hm3 ht10 zmx2 zmx3 zmx4 zmx5 zmx6 zkx6 zkx7 zkx8 zkx9 zkx10 zkx11 zkx14 zkx15 hkl hkvl zkx16 zkx17 zkx18 zkx21 zkx22 zkx23 zkx24 zkx25 zkx26 zkx29 zkx30 zmx7 zlx2 zlx3 zlx4 o0 q1 q2 q3 hperm hol hnsE r0 r1 r2 r3 zmx8 zmx9 x1 dx1 Dn1 Dt1 cv1 rs1 n1 sm1 tb1 ta1 ta2 ta3 ta4 ta5 ta6 ta7 ta8 zmx10 zmx11 zmx12 zmx13 zmx14 zmx15 hE hbm hbl h1 zmx16 D ov n zmx17 zmx18 x2 dx2 Dn2 Dt2 cv2 rs2 n2 sm2 tb2 tc1 tc2 tc3 tc4 tc5 tc6 tc7 tc8 zmx19 zmx20 zmx21 zmx22 zmx23 zmx25 ys zmx26 zmx27 zmx28 ps zmx29 zmx30 bs hh1 tk1 x3 dx3 Dn3 Dt3 cv3 rs3 n3 sm3 tb3 td1 td2 td3 td4 td5 td6 td7 td8 zmx31 zox5 zox6 htv e10 hbs10 c0 c1 c2 c3 hW2' hW3' hW1' p1 p2 p3 p4 p5 tm1 tm2 tm3 zmx24 htvl zox7 zox8 zox9 zox10 zox11 zox12 zox13 m₁ h tk b1 b2 b3 b4 b5 F N
      exact kBoxR.out
end Mine
end

local macro_rules | `(tactic| walk_at "shared 28") => `(tactic| (with_reducible refine st22 ?_))

section
open PySem PySem.W PyProof.Rows PySem.Calls PySem.Spec PyProof.V
set_option Elab.async false
namespace Mine
local macro_rules | `(tactic| walk_at "my spare") => `(tactic| fail "none")
local macro_rules | `(tactic| omega) => `(tactic| walk_at "shared 1")
local macro_rules | `(tactic| walk_at "my stop") => `(tactic| walk_at "shared 22")
local macro_rules | `(tactic| walk_at "exec Assign cons ListComp") => `(tactic| walk_at "shared 20")
local macro_rules | `(tactic| walk_at "my walk") => `(tactic| walk_at "shared 2")
local macro_rules | `(tactic| walk_at "eval Name") => `(tactic| walk_at "shared 3")
local macro_rules | `(tactic| walk_at "my get") => `(tactic| walk_at "shared 14")
local macro_rules | `(tactic| k_ne) => `(tactic| walk_at "shared 23")
local macro_rules | `(tactic| walk_at "my clear") => `(tactic| walk_at "shared 24")
local macro_rules | `(tactic| walk_at "CompEnd") => `(tactic| walk_at "shared 10")
local macro_rules | `(tactic| walk_at "eval ListComp") => `(tactic| walk_at "shared 15")
local macro_rules | `(tactic| walk_at "my old") => `(tactic| walk_at "shared 27")
local macro_rules | `(tactic| walk_at "my stop") => `(tactic| walk_at "shared 25")
local macro_rules | `(tactic| walk_at "my stop") => `(tactic| walk_at "shared 28")
set_option maxRecDepth 100000 in
set_option maxHeartbeats 8000000 in
theorem S13 : S12.P := by
  w_top off
  intro zbx1 zbx2 zbx3 zbx4 zbx5 zbx6 zbx7 zbx8 zbx9 zbx10 zbx11 zbx12 zbx13 X9 zbx14 zbx15 zbx16 T9 zbx17 zbx18 zbx19 zbx20 zbx21 zbx22 zbx23 zbx24 zbx25 zbx26 zbx27 zbx30 zbx31 zbx32 zbx33 zbx34 zbx35 zbx36 zbx37 zbx43 zbx44 zbx45 zbx46 zbx47 zbx48 zbx49 zbx50 zbx51 zbx52 zbx53 zbx54 zbx61 qk ek zbx62 zbx63 zbx64 zbx66 zbx67 zbx69 zbx70 zbx71 zbx72 zbx74 zbx75 zbx76 zbx77 zbx79 zbx80 zbx82 zbx83 zbx84 zbx85 zbx86 zbx87 zbx89 zbx90 zlx1 ms hm6 hmb zbx91 zbx92 zbx93 zbx95 zbx96 zbx98 zbx99 zbx100 zbx103 zbx104 zbx105 zbx106 zbx107 h' zcx1 zkx1 zkx2 zkx3 D' us h2 zcx2 zcx3 zcx5 zcx6 zcx7 zcx8 zcx9 zcx10 zcx11 zcx12 zcx13 zcx14 zcx16 zcx17 zcx18 zcx19 zcx21 zcx22 zcx23 zcx24 zcx26 zcx27 zex1 zcx31 zcx32 zcx33 zcx34 zcx35 zcx39 ns hnm hns znx1 znx2 zmx1 Do dv tv kv dn tn kn kept v4 v5 v6 znx3 znx4 c4 c5 c6 hm1 hm2 hm3 ht10 zmx2 zmx3 zmx4 zmx5 zmx6 zkx6 zkx7 zkx8 zkx9 zkx10 zkx11 zkx14 zkx15 hkl hkvl zkx16 zkx17 zkx18 zkx21 zkx22 zkx23 zkx24 zkx25 zkx26 zkx29 zkx30 zmx7 zlx2 zlx3 zlx4 o0 q1 q2 q3 hperm hol hnsE r0 r1 r2 r3 zmx8 zmx9 x1 dx1 Dn1 Dt1 cv1 rs1 n1 sm1 tb1 ta1 ta2 ta3 ta4 ta5 ta6 ta7 ta8 zmx10 zmx11 zmx12 zmx13 zmx14 zmx15 hE hbm hbl h1 zmx16 D ov n zmx17 zmx18 x2 dx2 Dn2 Dt2 cv2 rs2 n2 sm2 tb2 tc1 tc2 tc3 tc4 tc5 tc6 tc7 tc8 zmx19 zmx20 zmx21 zmx22 zmx23 zmx25 ys zmx26 zmx27 zmx28 ps zmx29 zmx30 bs hh1 tk1 x3 dx3 Dn3 Dt3 cv3 rs3 n3 sm3 tb3 td1 td2 td3 td4 td5 td6 td7 td8 zmx31 znx5 htv e10 hbs10 c0 c1 c2 c3 hW2' hW3' hW1' p1 p2 p3 p4 p5 tm1 tm2 tm3 zmx24 htvl znx6 znx7 znx8 znx9 znx10 znx11 i t m₁ h znx12 I oI hi' hoff1 b1 b2 b3 b4 b5 F N sz hsz hsz4 znx13 znx14 znx15 tk
  rename Fr _ _ _ _ => F1
  rename News _ _ _ _ => N1
  clear F N
  refine indent_specI X9 T9 F1.keep (hW1' _ (news4 N1 (by k_mem) (by k_mem) (by k_mem) (by k_mem))).ws (by omega) (by simp) rfl (by simp only [depth_deeper, depth_caller]; decide) (by first | k_room | ke_room | (dsimp only [Around.deeper]; decide) | (show callerA.units + 60 < cLine; decide)) ?_
  intro h7 tk7 t7 hk7
  replace F1 := F1.keeps hk7
  replace N1 := News.grown N1 hk7
  clear hk7
  dsimp only
  have hml : (List.map Int.ofNat ps).length = 10 := by rw [List.length_map, e10]
  rcases hsz4 with rfl | rfl | rfl | rfl
  · rw [show (1 : Int).toNat = 1 from rfl, ilv4.1]
    walk_at "my walk"
    rename Fr _ _ _ _ => F2
    rename News _ _ _ _ => N2
    refine sumEx [(((c1 + c2 + c3 : Nat) : Int), tm1), (((c2 + c3 : Nat) : Int), tm2), ((c3 : Int), tm3)] rfl F2 N2 (News.isList N2 (.head _)) ex3 s3 ?_
    (try clear F1)
    (try clear N1)
    clear F2 N2
    intro h8 tk8 t8 F1 N1
    dsimp only
    walk_at "my walk"
    all_goals first | (exfalso; omega) | skip
    dsimp only [PostG]
    exact EndG.intro _ F1 N1 (fun p hp => .tail _ (.tail _ hp)) (fun p hp => by rw [List.mem_singleton.mp hp]; exact .tail _ (.head _)) (off1' hoff1) ⟨rfl, by walk_at "my get", by walk_at "my get", by walk_at "my get", by walk_at "my get", by walk_at "my get"⟩
  · rw [show (2 : Int).toNat = 2 from rfl, ilv4.2.1]
    walk_at "my walk"
    rename Fr _ _ _ _ => F2
    rename News _ _ _ _ => N2
    refine sumEx [(((c2 + c3 : Nat) : Int), tm2)] rfl F2 N2 (News.isList N2 (.head _)) ex2 s1 ?_
    (try clear F1)
    (try clear N1)
    clear F2 N2
    intro h8 tk8 t8 F1 N1
    dsimp only
    walk_at "my walk"
    all_goals first | (exfalso; omega) | skip
    dsimp only [PostG]
    exact EndG.intro _ F1 N1 (fun p hp => .tail _ (.tail _ hp)) (fun p hp => by rw [List.mem_singleton.mp hp]; exact .tail _ (.head _)) (off1' hoff1) ⟨rfl, by walk_at "my get", by walk_at "my get", by walk_at "my get", by walk_at "my get", by walk_at "my get"⟩
  · rw [show (3 : Int).toNat = 3 from rfl, ilv4.2.2.1]
    walk_at "my walk"
    rename Fr _ _ _ _ => F2
    rename News _ _ _ _ => N2
    refine sumEx [((c3 : Int), tm3)] rfl F2 N2 (News.isList N2 (.head _)) ex1 s1 ?_
    (try clear F1)
    (try clear N1)
    clear F2 N2
    intro h8 tk8 t8 F1 N1
    dsimp only
    walk_at "my walk"
    all_goals first | (exfalso; omega) | skip
    dsimp only [PostG]
    exact EndG.intro _ F1 N1 (fun p hp => .tail _ (.tail _ hp)) (fun p hp => by rw [List.mem_singleton.mp hp]; exact .tail _ (.head _)) (off1' hoff1) ⟨rfl, by walk_at "my get", by walk_at "my get", by walk_at "my get", by walk_at "my get", by walk_at "my get"⟩
  · rw [show (4 : Int).toNat = 4 from rfl, ilv4.2.2.2]
    walk_at "my walk"
    rename Fr _ _ _ _ => F2
    rename News _ _ _ _ => N2
    refine sumEx [] rfl F2 N2 (News.isList N2 (.head _)) (by simp [intItems]) s0 ?_
    (try clear F1)
    (try clear N1)
    clear F2 N2
    intro h8 tk8 t8 F1 N1
    dsimp only
    walk_at "my walk"
    all_goals first | (exfalso; omega) | skip
    dsimp only [PostG]
    exact EndG.intro _ F1 N1 (fun p hp => .tail _ (.tail _ hp)) (fun p hp => by rw [List.mem_singleton.mp hp]; exact .tail _ (.head _)) (off1' hoff1) ⟨rfl, by walk_at "my get", by walk_at "my get", by walk_at "my get", by walk_at "my get", by walk_at "my get"⟩
end Mine
end

section
open PySem PySem.W PyProof.Rows PySem.Calls PySem.Spec PyProof.V
set_option Elab.async false
namespace Mine
local macro_rules | `(tactic| walk_at "my spare") => `(tactic| fail "none")
local macro_rules | `(tactic| walk_at "my spare") => `(tactic| fail "none")
local macro_rules | `(tactic| omega) => `(tactic| walk_at "shared 1")
local macro_rules | `(tactic| walk_at "my stop") => `(tactic| walk_at "shared 22")
local macro_rules | `(tactic| walk_at "exec Assign cons ListComp") => `(tactic| walk_at "shared 20")
local macro_rules | `(tactic| walk_at "my walk") => `(tactic| walk_at "shared 2")
local macro_rules | `(tactic| walk_at "eval Name") => `(tactic| walk_at "shared 3")
local macro_rules | `(tactic| walk_at "my get") => `(tactic| walk_at "shared 14")
local macro_rules | `(tactic| k_ne) => `(tactic| walk_at "shared 23")
local macro_rules | `(tactic| walk_at "my clear") => `(tactic| walk_at "shared 24")
local macro_rules | `(tactic| walk_at "CompEnd") => `(tactic| walk_at "shared 10")
local macro_rules | `(tactic| walk_at "eval ListComp") => `(tactic| walk_at "shared 15")
local macro_rules | `(tactic| walk_at "my old") => `(tactic| walk_at "shared 27")
local macro_rules | `(tactic| walk_at "my stop") => `(tactic| walk_at "shared 25")
local macro_rules | `(tactic| walk_at "my stop") => `(tactic| walk_at "shared 28")
set_option maxRecDepth 100000 in
set_option maxHeartbeats 8000000 in
noncomputable def S14 : Cut1 (S12.R) := by
  w_top off
  apply Cut1.mk
  intro kBoxP
  · intro zbx1 zbx2 zbx3 zbx4 zbx5 zbx6 zbx7 zbx8 zbx9 zbx10 zbx11 zbx12 zbx13 X9 zbx14 zbx15 zbx16 T9 zbx17 zbx18 zbx19 zbx20 zbx21 zbx22 zbx23 zbx24 zbx25 zbx26 zbx27 zbx30 zbx31 zbx32 zbx33 zbx34 zbx35 zbx36 zbx37 zbx43 zbx44 zbx45 zbx46 zbx47 zbx48 zbx49 zbx50 zbx51 zbx52 zbx53 zbx54 zbx61 qk ek zbx62 zbx63 zbx64 zbx66 zbx67 zbx69 zbx70 zbx71 zbx72 zbx74 zbx75 zbx76 zbx77 zbx79 zbx80 zbx82 zbx83 zbx84 zbx85 zbx86 zbx87 zbx89 zbx90 zlx1 ms hm6 hmb zbx91 zbx92 zbx93 zbx95 zbx96 zbx98 zbx99 zbx100 zbx103 zbx104 zbx105 zbx106 zbx107 h' zcx1 zkx1 zkx2 zkx3 D' us h2 zcx2 zcx3 zcx5 zcx6 zcx7 zcx8 zcx9 zcx10 zcx11 zcx12 zcx13 zcx14 zcx16 zcx17 zcx18 zcx19 zcx21 zcx22 zcx23 zcx24 zcx26 zcx27 zex1 zcx31 zcx32 zcx33 zcx34 zcx35 zcx39 ns hnm hns zox1 zox2 zmx1 Do dv tv kv dn tn kn kept v4 v5 v6 zox3 zox4 c4 c5 c6 hm1 hm2 hm3 ht10 zmx2 zmx3 zmx4 zmx5 zmx6 zkx6 zkx7 zkx8 zkx9 zkx10 zkx11 zkx14 zkx15 hkl hkvl zkx16 zkx17 zkx18 zkx21 zkx22 zkx23 zkx24 zkx25 zkx26 zkx29 zkx30 zmx7 zlx2 zlx3 zlx4 o0 q1 q2 q3 hperm hol hnsE r0 r1 r2 r3 zmx8 zmx9 x1 dx1 Dn1 Dt1 cv1 rs1 n1 sm1 tb1 ta1 ta2 ta3 ta4 ta5 ta6 ta7 ta8 zmx10 zmx11 zmx12 zmx13 zmx14 zmx15 hE hbm hbl h1 zmx16 D ov n zmx17 zmx18 x2 dx2 Dn2 Dt2 cv2 rs2 n2 sm2 tb2 tc1 tc2 tc3 tc4 tc5 tc6 tc7 tc8 zmx19 zmx20 zmx21 zmx22 zmx23 zmx25 ys zmx26 zmx27 zmx28 ps zmx29 zmx30 bs hh1 tk1 x3 dx3 Dn3 Dt3 cv3 rs3 n3 sm3 tb3 td1 td2 td3 td4 td5 td6 td7 td8 zmx31 zox5 zox6 htv e10 hbs10 c0 c1 c2 c3 hW2' hW3' hW1' p1 p2 p3 p4 p5 tm1 tm2 tm3 zmx24 htvl zox7 zox8 zox9 zox10 zox11 zox12 zox13 m₁ h tk b1 b2 b3 b4 b5 F N
    walk_at "my old"
    walk_at "my walk"
    rename Fr _ _ _ _ => F1
    rename News _ _ _ _ => N1
    refine equal_spec X9 T9 F1.keep (hW1' _ (news4 N1 (by k_mem) (by k_mem) (by k_mem) (by k_mem))).ws (hW3' _ (news4 N1 (by k_mem) (by k_mem) (by k_mem) (by k_mem))).ws (by simp) (by simp) rfl (by simp only [depth_deeper, depth_caller]; decide) (by first | k_room | ke_room | (dsimp only [Around.deeper]; decide) | (show callerA.units + 100 < cLine; decide)) ?_
    intro h7 tk7 hk7
    replace F1 := F1.keeps hk7
    replace N1 := News.grown N1 hk7
    clear hk7
    rw [show decide ([(c0 : Int), (c1 : Int), (c2 : Int), (c3 : Int)] = [(c0 : Int), (c1 : Int), ((c2 + c3 : Nat) : Int)]) = false from by simp]
    dsimp only
    walk_at "my walk"
    rename Fr _ _ _ _ => F1
    rename News _ _ _ _ => N1
    obtain ⟨oL, hoL⟩ : ∃ oL, Heap.get? _ _ = some oL := by obtain ⟨oL, es, ep, hL, r⟩ := F1.ns; exact ⟨oL, hL⟩
    refine witness_gen (k := 4) X9 T9 F1.keep (hW1' _ (news4 N1 (by k_mem) (by k_mem) (by k_mem) (by k_mem))) (hW3' _ (news4 N1 (by k_mem) (by k_mem) (by k_mem) (by k_mem))) hoL (by simp) (by simp) (by simp) rfl (by simp only [depth_deeper, depth_caller]; decide) (by first | k_room | ke_room | (dsimp only [Around.deeper]; decide) | (show callerA.units + 100 < cLine; decide)) ?_
    intro h8 tk8 D av an tups hk8 hto hq
    rw [difs_low p1] at hto
    obtain ⟨T, T', u1, u2, u3, u4, u5, u6, rfl, rfl⟩ := tups2 hto
    obtain ⟨F2, N2⟩ := put_list F1 N1 hk8 hq
    clear F1 N1 hk8 hto hq hoL
    dsimp only [List.cons_append, List.nil_append] at N2 ⊢
    walk_at "my walk"
    rename_i zpx1
    revert zbx1 zbx2 zbx3 zbx4 zbx5 zbx6 zbx7 zbx8 zbx9 zbx10 zbx11 zbx12 zbx13 X9 zbx14 zbx15 zbx16 T9 zbx17 zbx18 zbx19 zbx20 zbx21 zbx22 zbx23 zbx24 zbx25 zbx26 zbx27 zbx30 zbx31 zbx32 zbx33 zbx34 zbx35 zbx36 zbx37 zbx43 zbx44 zbx45 zbx46 zbx47 zbx48 zbx49 zbx50 zbx51 zbx52 zbx53 zbx54 zbx61 qk ek zbx62 zbx63 zbx64 zbx66 zbx67 zbx69 zbx70 zbx71 zbx72 zbx74 zbx75 zbx76 zbx77 zbx79 zbx80 zbx82 zbx83 zbx84 zbx85 zbx86 zbx87 zbx89 zbx90 zlx1 ms hm6 hmb zbx91 zbx92 zbx93 zbx95 zbx96 zbx98 zbx99 zbx100 zbx103 zbx104 zbx105 zbx106 zbx107 h' zcx1 zkx1 zkx2 zkx3 D' us h2 zcx2 zcx3 zcx5 zcx6 zcx7 zcx8 zcx9 zcx10 zcx11 zcx12 zcx13 zcx14 zcx16 zcx17 zcx18 zcx19 zcx21 zcx22 zcx23 zcx24 zcx26 zcx27 zex1 zcx31 zcx32 zcx33 zcx34 zcx35 zcx39 ns hnm hns zox1 zox2 zmx1 Do dv tv kv dn tn kn kept v4 v5 v6 zox3 zox4 c4 c5 c6 hm1 hm2 hm3 ht10 zmx2 zmx3 zmx4 zmx5 zmx6 zkx6 zkx7 zkx8 zkx9 zkx10 zkx11 zkx14 zkx15 hkl hkvl zkx16 zkx17 zkx18 zkx21 zkx22 zkx23 zkx24 zkx25 zkx26 zkx29 zkx30 zmx7 zlx2 zlx3 zlx4 o0 q1 q2 q3 hperm hol hnsE r0 r1 r2 r3 zmx8 zmx9 x1 dx1 Dn1 Dt1 cv1 rs1 n1 sm1 tb1 ta1 ta2 ta3 ta4 ta5 ta6 ta7 ta8 zmx10 zmx11 zmx12 zmx13 zmx14 zmx15 hE hbm hbl h1 zmx16 zpx1 ov n zmx17 zmx18 x2 dx2 Dn2 Dt2 cv2 rs2 n2 sm2 tb2 tc1 tc2 tc3 tc4 tc5 tc6 tc7 tc8 zmx19 zmx20 zmx21 zmx22 zmx23 zmx25 ys zmx26 zmx27 zmx28 ps zmx29 zmx30 bs hh1 tk1 x3 dx3 Dn3 Dt3 cv3 rs3 n3 sm3 tb3 td1 td2 td3 td4 td5 td6 td7 td8 zmx31 zox5 htv e10 hbs10 c0 c1 c2 c3 hW2' hW3' hW1' p1 p2 p3 p4 p5 tm1 tm2 tm3 zmx24 htvl zox8 zox9 zox10 zox11 zox12 zox13 m₁ h tk b1 b2 b3 b4 b5 h7 tk7 oL h8 tk8 D an T T' u1 u2 u3 u4 u5 u6 F2 N2
    exact kBoxP.out
end Mine
end

section
open PySem PySem.W PyProof.Rows PySem.Calls PySem.Spec PyProof.V
set_option Elab.async false
namespace Mine
local macro_rules | `(tactic| walk_at "my spare") => `(tactic| fail "none")
local macro_rules | `(tactic| walk_at "my spare") => `(tactic| fail "none")
local macro_rules | `(tactic| walk_at "my spare") => `(tactic| fail "none")
local macro_rules | `(tactic| omega) => `(tactic| walk_at "shared 1")
local macro_rules | `(tactic| walk_at "my stop") => `(tactic| walk_at "shared 22")
local macro_rules | `(tactic| walk_at "exec Assign cons ListComp") => `(tactic| walk_at "shared 20")
local macro_rules | `(tactic| walk_at "my walk") => `(tactic| walk_at "shared 2")
local macro_rules | `(tactic| walk_at "eval Name") => `(tactic| walk_at "shared 3")
local macro_rules | `(tactic| walk_at "my get") => `(tactic| walk_at "shared 14")
local macro_rules | `(tactic| k_ne) => `(tactic| walk_at "shared 23")
local macro_rules | `(tactic| walk_at "my clear") => `(tactic| walk_at "shared 24")
local macro_rules | `(tactic| walk_at "CompEnd") => `(tactic| walk_at "shared 10")
local macro_rules | `(tactic| walk_at "eval ListComp") => `(tactic| walk_at "shared 15")
local macro_rules | `(tactic| walk_at "my old") => `(tactic| walk_at "shared 27")
local macro_rules | `(tactic| walk_at "my stop") => `(tactic| walk_at "shared 25")
local macro_rules | `(tactic| walk_at "my stop") => `(tactic| walk_at "shared 28")
set_option maxRecDepth 100000 in
set_option maxHeartbeats 8000000 in
noncomputable def S15 : Cut1 (S14.P) := by
  w_top off
  apply Cut1.mk
  intro kBoxP
  · intro zbx1 zbx2 zbx3 zbx4 zbx5 zbx6 zbx7 zbx8 zbx9 zbx10 zbx11 zbx12 zbx13 X9 zbx14 zbx15 zbx16 T9 zbx17 zbx18 zbx19 zbx20 zbx21 zbx22 zbx23 zbx24 zbx25 zbx26 zbx27 zbx30 zbx31 zbx32 zbx33 zbx34 zbx35 zbx36 zbx37 zbx43 zbx44 zbx45 zbx46 zbx47 zbx48 zbx49 zbx50 zbx51 zbx52 zbx53 zbx54 zbx61 qk ek zbx62 zbx63 zbx64 zbx66 zbx67 zbx69 zbx70 zbx71 zbx72 zbx74 zbx75 zbx76 zbx77 zbx79 zbx80 zbx82 zbx83 zbx84 zbx85 zbx86 zbx87 zbx89 zbx90 zlx1 ms hm6 hmb zbx91 zbx92 zbx93 zbx95 zbx96 zbx98 zbx99 zbx100 zbx103 zbx104 zbx105 zbx106 zbx107 h' zcx1 zkx1 zkx2 zkx3 D' us h2 zcx2 zcx3 zcx5 zcx6 zcx7 zcx8 zcx9 zcx10 zcx11 zcx12 zcx13 zcx14 zcx16 zcx17 zcx18 zcx19 zcx21 zcx22 zcx23 zcx24 zcx26 zcx27 zex1 zcx31 zcx32 zcx33 zcx34 zcx35 zcx39 ns hnm hns zox1 zox2 zmx1 Do dv tv kv dn tn kn kept v4 v5 v6 zox3 zox4 c4 c5 c6 hm1 hm2 hm3 ht10 zmx2 zmx3 zmx4 zmx5 zmx6 zkx6 zkx7 zkx8 zkx9 zkx10 zkx11 zkx14 zkx15 hkl hkvl zkx16 zkx17 zkx18 zkx21 zkx22 zkx23 zkx24 zkx25 zkx26 zkx29 zkx30 zmx7 zlx2 zlx3 zlx4 o0 q1 q2 q3 hperm hol hnsE r0 r1 r2 r3 zmx8 zmx9 x1 dx1 Dn1 Dt1 cv1 rs1 n1 sm1 tb1 ta1 ta2 ta3 ta4 ta5 ta6 ta7 ta8 zmx10 zmx11 zmx12 zmx13 zmx14 zmx15 hE hbm hbl h1 zmx16 zpx1 ov n zmx17 zmx18 x2 dx2 Dn2 Dt2 cv2 rs2 n2 sm2 tb2 tc1 tc2 tc3 tc4 tc5 tc6 tc7 tc8 zmx19 zmx20 zmx21 zmx22 zmx23 zmx25 ys zmx26 zmx27 zmx28 ps zmx29 zmx30 bs hh1 tk1 x3 dx3 Dn3 Dt3 cv3 rs3 n3 sm3 tb3 td1 td2 td3 td4 td5 td6 td7 td8 zmx31 zox5 htv e10 hbs10 c0 c1 c2 c3 hW2' hW3' hW1' p1 p2 p3 p4 p5 tm1 tm2 tm3 zmx24 htvl zox8 zox9 zox10 zox11 zox12 zox13 m₁ h tk b1 b2 b3 b4 b5 h7 tk7 oL h8 tk8 D an T T' u1 u2 u3 u4 u5 u6 F2 N2
    refine sumEx [(((c1 + c2 + c3 : Nat) : Int), tm1), (((c2 + c3 : Nat) : Int), tm2), ((c3 : Int), tm3)] rfl F2 N2 (News.isList N2 (by k_mem)) (by simp [intItems]) s3 ?_
    clear F2 N2
    intro h9 tk9 t9 F1 N1
    dsimp only
    walk_at "my walk"
    rename Fr _ _ _ _ => F2
    rename News _ _ _ _ => N2
    refine sumEx [(((c1 + c2 + c3 : Nat) : Int), tm1), (((c2 + c3 : Nat) : Int), tm2)] rfl F2 N2 (News.isList N2 (.head _)) (by simp [intItems]) s2 ?_
    clear F2 N2
    intro h10 tk10 t10 F1 N1
    dsimp only
    replace N1 := drop1 N1
    walk_at "my clear"
    walk_at "my walk"
    rename_i zqx1 zqx2 zqx3 zqx4 zqx5 zqx6 zqx7 zqx8 zqx9 zqx10 zqx11 zqx12 zqx13 zqx14
    revert zbx1 zbx2 zbx3 zbx4 zbx5 zbx6 zbx7 zbx8 zbx9 zbx10 zbx11 zbx12 zbx13 X9 zbx14 zbx15 zbx16 T9 zbx17 zbx18 zbx19 zbx20 zbx21 zbx22 zbx23 zbx24 zbx25 zbx26 zbx27 zbx30 zbx31 zbx32 zbx33 zbx34 zbx35 zbx36 zbx37 zbx43 zbx44 zbx45 zbx46 zbx47 zbx48 zbx49 zbx50 zbx51 zbx52 zbx53 zbx54 zbx61 qk ek zbx62 zbx63 zbx64 zbx66 zbx67 zbx69 zbx70 zbx71 zbx72 zbx74 zbx75 zbx76 zbx77 zbx79 zbx80 zbx82 zbx83 zbx84 zbx85 zbx86 zbx87 zbx89 zbx90 zlx1 ms hm6 hmb zbx91 zbx92 zbx93 zbx95 zbx96 zbx98 zbx99 zbx100 zbx103 zbx104 zbx105 zbx106 zbx107 h' zcx1 zkx1 zkx2 zkx3 D' us h2 zcx2 zcx3 zcx5 zcx6 zcx7 zcx8 zcx9 zcx10 zcx11 zcx12 zcx13 zcx14 zcx16 zcx17 zcx18 zcx19 zcx21 zcx22 zcx23 zcx24 zcx26 zcx27 zex1 zcx31 zcx32 zcx33 zcx34 zcx35 zcx39 ns hnm hns zox1 zox2 zmx1 Do dv tv kv dn tn kn kept v4 v5 v6 zox3 zox4 c4 c5 c6 hm1 hm2 hm3 ht10 zmx2 zmx3 zmx4 zmx5 zmx6 zkx6 zkx7 zkx8 zkx9 zkx10 zkx11 zkx14 zkx15 hkl hkvl zkx16 zkx17 zkx18 zkx21 zkx22 zkx23 zkx24 zkx25 zkx26 zkx29 zkx30 zmx7 zlx2 zlx3 zlx4 o0 q1 q2 q3 hperm hol hnsE r0 r1 r2 r3 zmx8 zmx9 x1 dx1 Dn1 Dt1 cv1 rs1 n1 sm1 tb1 ta1 ta2 ta3 ta4 ta5 ta6 ta7 ta8 zmx10 zmx11 zmx12 zmx13 zmx14 zmx15 hE hbm hbl h1 zmx16 zpx1 ov n zmx17 zmx18 x2 dx2 Dn2 Dt2 cv2 rs2 n2 sm2 tb2 tc1 tc2 tc3 tc4 tc5 tc6 tc7 tc8 zmx19 zmx20 zmx21 zmx22 zmx23 zmx25 ys zmx26 zmx27 zmx28 ps zmx29 zmx30 bs hh1 tk1 x3 dx3 Dn3 Dt3 cv3 rs3 n3 sm3 tb3 td1 td2 td3 td4 td5 td6 td7 td8 zmx31 zox5 htv e10 hbs10 c0 c1 c2 c3 hW2' hW3' hW1' p1 p2 p3 p4 p5 tm1 tm2 tm3 zmx24 htvl zox8 zox9 zox10 zox11 zox12 zox13 m₁ h tk b1 b2 b3 b4 b5 h7 tk7 oL h8 tk8 D an T T' u1 u2 u3 u4 u5 u6 h9 tk9 t9 zqx1 zqx2 h10 tk10 t10 zqx3 zqx4 zqx5 zqx6 zqx7 zqx8 zqx9 zqx10 zqx11 zqx12 zqx13 zqx14
    exact kBoxP.out
end Mine
end

section
open PySem PySem.W PyProof.Rows PySem.Calls PySem.Spec PyProof.V
set_option Elab.async false
namespace Mine
local macro_rules | `(tactic| walk_at "my spare") => `(tactic| fail "none")
local macro_rules | `(tactic| walk_at "my spare") => `(tactic| fail "none")
local macro_rules | `(tactic| walk_at "my spare") => `(tactic| fail "none")
local macro_rules | `(tactic| walk_at "my spare") => `(tactic| fail "none")
local macro_rules | `(tactic| walk_at "my spare") => `(tactic| fail "none")
local macro_rules | `(tactic| omega) => `(tactic| walk_at "shared 1")
local macro_rules | `(tactic| walk_at "my stop") => `(tactic| walk_at "shared 22")
local macro_rules | `(tactic| walk_at "exec Assign cons ListComp") => `(tactic| walk_at "shared 20")
local macro_rules | `(tactic| walk_at "my walk") => `(tactic| walk_at "shared 2")
local macro_rules | `(tactic| walk_at "eval Name") => `(tactic| walk_at "shared 3")
local macro_rules | `(tactic| walk_at "my get") => `(tactic| walk_at "shared 14")
local macro_rules | `(tactic| k_ne) => `(tactic| walk_at "shared 23")
local macro_rules | `(tactic| walk_at "my clear") => `(tactic| walk_at "shared 24")
local macro_rules | `(tactic| walk_at "CompEnd") => `(tactic| walk_at "shared 10")
local macro_rules | `(tactic| walk_at "eval ListComp") => `(tactic| walk_at "shared 15")
local macro_rules | `(tactic| walk_at "my old") => `(tactic| walk_at "shared 27")
local macro_rules | `(tactic| walk_at "my stop") => `(tactic| walk_at "shared 25")
set_option maxRecDepth 100000 in
set_option maxHeartbeats 8000000 in
theorem S17 : S15.P := by
  w_top off
  intro zbx1 zbx2 zbx3 zbx4 zbx5 zbx6 zbx7 zbx8 zbx9 zbx10 zbx11 zbx12 zbx13 X9 zbx14 zbx15 zbx16 T9 zbx17 zbx18 zbx19 zbx20 zbx21 zbx22 zbx23 zbx24 zbx25 zbx26 zbx27 zbx30 zbx31 zbx32 zbx33 zbx34 zbx35 zbx36 zbx37 zbx43 zbx44 zbx45 zbx46 zbx47 zbx48 zbx49 zbx50 zbx51 zbx52 zbx53 zbx54 zbx61 qk ek zbx62 zbx63 zbx64 zbx66 zbx67 zbx69 zbx70 zbx71 zbx72 zbx74 zbx75 zbx76 zbx77 zbx79 zbx80 zbx82 zbx83 zbx84 zbx85 zbx86 zbx87 zbx89 zbx90 zlx1 ms hm6 hmb zbx91 zbx92 zbx93 zbx95 zbx96 zbx98 zbx99 zbx100 zbx103 zbx104 zbx105 zbx106 zbx107 h' zcx1 zkx1 zkx2 zkx3 D' us h2 zcx2 zcx3 zcx5 zcx6 zcx7 zcx8 zcx9 zcx10 zcx11 zcx12 zcx13 zcx14 zcx16 zcx17 zcx18 zcx19 zcx21 zcx22 zcx23 zcx24 zcx26 zcx27 zex1 zcx31 zcx32 zcx33 zcx34 zcx35 zcx39 ns hnm hns zox1 zox2 zmx1 Do dv tv kv dn tn kn kept v4 v5 v6 zox3 zox4 c4 c5 c6 hm1 hm2 hm3 ht10 zmx2 zmx3 zmx4 zmx5 zmx6 zkx6 zkx7 zkx8 zkx9 zkx10 zkx11 zkx14 zkx15 hkl hkvl zkx16 zkx17 zkx18 zkx21 zkx22 zkx23 zkx24 zkx25 zkx26 zkx29 zkx30 zmx7 zlx2 zlx3 zlx4 o0 q1 q2 q3 hperm hol hnsE r0 r1 r2 r3 zmx8 zmx9 x1 dx1 Dn1 Dt1 cv1 rs1 n1 sm1 tb1 ta1 ta2 ta3 ta4 ta5 ta6 ta7 ta8 zmx10 zmx11 zmx12 zmx13 zmx14 zmx15 hE hbm hbl h1 zmx16 zpx1 ov n zmx17 zmx18 x2 dx2 Dn2 Dt2 cv2 rs2 n2 sm2 tb2 tc1 tc2 tc3 tc4 tc5 tc6 tc7 tc8 zmx19 zmx20 zmx21 zmx22 zmx23 zmx25 ys zmx26 zmx27 zmx28 ps zmx29 zmx30 bs hh1 tk1 x3 dx3 Dn3 Dt3 cv3 rs3 n3 sm3 tb3 td1 td2 td3 td4 td5 td6 td7 td8 zmx31 zox5 htv e10 hbs10 c0 c1 c2 c3 hW2' hW3' hW1' p1 p2 p3 p4 p5 tm1 tm2 tm3 zmx24 htvl zox8 zox9 zox10 zox11 zox12 zox13 m₁ h tk b1 b2 b3 b4 b5 h7 tk7 oL h8 tk8 D an T T' u1 u2 u3 u4 u5 u6 h9 tk9 t9 zqx1 zqx2 h10 tk10 t10 zqx3 zqx4 zqx5 zqx6 zqx7 zqx8 zqx9 zqx10 zqx11 zqx12 zqx13 zqx14
  rename Fr _ _ _ _ => F1
  rename News _ _ _ _ => N1
  refine ne_two (N1.get (by k_mem)) (N1.get (by k_mem)) (N1.get (by k_mem)) (N1.get (by k_mem)) (N1.get (by k_mem)) (N1.get (by k_mem)) rfl (by omega) (by omega) rfl (by show 30 + 3 * (c3 : Int) = _; omega) rfl (by first | k_room | ke_room | (dsimp only [Around.deeper]; decide) | (show callerA.units + 64 < cLine; decide)) ?_
  replace N1 := drop1 (drop1 (drop1 (drop1 (drop1 (drop1 N1)))))
  walk_at "my clear"
  (try dsimp only)
  walk_at "my walk"
  rename Fr _ _ _ _ => F1
  rename News _ _ _ _ => N1
  refine equal_spec X9 T9 F1.keep (hW1' _ (news4 N1 (by k_mem) (by k_mem) (by k_mem) (by k_mem))).ws (hW2' _ (news4 N1 (by k_mem) (by k_mem) (by k_mem) (by k_mem))).ws (by simp) (by simp) rfl (by simp only [depth_deeper, depth_caller]; decide) (by first | k_room | ke_room | (dsimp only [Around.deeper]; decide) | (show callerA.units + 100 < cLine; decide)) ?_
  intro h7 tk7 hk7
  replace F1 := F1.keeps hk7
  replace N1 := News.grown N1 hk7
  clear hk7
  rw [decide_eq_true rfl]
  dsimp only
  walk_at "my walk"
  rename Fr _ _ _ _ => F1
  rename News _ _ _ _ => N1
  obtain ⟨oL, hoL⟩ : ∃ oL, Heap.get? _ _ = some oL := by obtain ⟨oL, es, ep, hL, r⟩ := F1.ns; exact ⟨oL, hL⟩
  refine witness_gen (k := 4) X9 T9 F1.keep (hW1' _ (news4 N1 (by k_mem) (by k_mem) (by k_mem) (by k_mem))) (hW2' _ (news4 N1 (by k_mem) (by k_mem) (by k_mem) (by k_mem))) hoL (by simp) (by simp) (by simp) rfl (by simp only [depth_deeper, depth_caller]; decide) (by first | k_room | ke_room | (dsimp only [Around.deeper]; decide) | (show callerA.units + 100 < cLine; decide)) ?_
  intro h8 tk8 D2 av an2 tups hk8 hto hq
  rw [difs_same] at hto
  obtain ⟨rfl, rfl⟩ := tups0 hto
  obtain ⟨F2, N2⟩ := put_list F1 N1 hk8 hq
  clear F1 N1 hk8 hto hq hoL
  dsimp only [List.cons_append, List.nil_append] at N2 ⊢
  walk_at "my walk"
  rename Fr _ _ _ _ => F1
  rename News _ _ _ _ => N1
  refine eq_nil (N1.get (by k_mem)) (N1.get (by k_mem)) (by first | k_room | ke_room | (dsimp only [Around.deeper]; decide) | (show callerA.units + 64 < cLine; decide)) ?_
  (try dsimp only)
  walk_at "my walk"
  all_goals wrow_close
end Mine
end

theorem PySem.Challenge.cw_sc0077_01_holds : PySem.Challenge.rw_sc0077_01.Holds := by
  exact Mine.S1.h ⟨Mine.S2.h ⟨Mine.S3.h ⟨Mine.S4.h ⟨Mine.S5.h ⟨Mine.S6.h ⟨Mine.S7.h ⟨Mine.S8⟩⟩⟩⟩⟩ ⟨Mine.S9.h ⟨Mine.S10.h ⟨Mine.S11.h ⟨Mine.S12.h ⟨Mine.S13⟩ ⟨Mine.S14.h ⟨Mine.S15.h ⟨Mine.S17⟩⟩⟩⟩⟩⟩⟩⟩⟩
