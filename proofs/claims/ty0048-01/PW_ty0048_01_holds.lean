import PyProof.Rows.All
import Wide.All
import OpenK.AllK
import Wide.FinOn
import PySem.Challenge.RW_ty0048_01
set_option Elab.async false
open PySem PySem.W PySem.Calls PyProof.Rows
namespace Mine
section
theorem left_rows {p q : Program} {loose : List Str} {Xt : Shared → Bool} {α : Type} {Yf : Shared → α} {Ya : World → α} {N : Nat} {g0 : Bool} (row : String)
    (h0 : ∀ w : World, (openEnds treeTable p (w.withFollow row false) N).map (fun s => (openSeen q loose (importedModules p.main.body) Xt g0 s, Yf s)) = some (openGood q loose, Ya (w.withFollow row false)))
    (h1 : ∀ w : World, (openEnds treeTable p (w.withFollow row true) N).map (fun s => (openSeen q loose (importedModules p.main.body) Xt g0 s, Yf s)) = some (openGood q loose, Ya (w.withFollow row true))) :
    LeftO p q loose Xt Yf Ya N g0 := fun w => by
  have e := World.withFollow_self w row
  cases hb : w.params.followText row <;> rw [hb] at e
  · have := h0 w; rw [e] at this; exact this
  · have := h1 w; rw [e] at this; exact this
set_option maxRecDepth 100000 in
set_option maxHeartbeats 8000000 in
noncomputable def hd := fun (row0 : _) (row1 : _) (walk : _) => (by
  w_on
  o_law
  refine' And.left (b := _ ∧ _) ⟨?main, ?hl, ?hc⟩
  case main =>
    k_head
    case hw => w_witness2
  case hc => exact walk
  case hl =>
    exact left_rows "special-get-raises" row0 row1 : PySem.Challenge.rw_ty0048_01.Holds)
abbrev Arg1 {A B C D : Prop} (_ : A → B → C → D) : Prop := A
abbrev Arg2 {A B C D : Prop} (_ : A → B → C → D) : Prop := B
set_option maxRecDepth 100000 in
set_option maxHeartbeats 8000000 in
theorem row_f : Arg1 hd := by intro w; kernel_rfl
set_option maxRecDepth 100000 in
set_option maxHeartbeats 8000000 in
theorem row_t : Arg2 hd := by intro w; kernel_rfl
set_option maxRecDepth 100000 in
set_option maxHeartbeats 8000000 in
noncomputable def hdW := hd row_f row_t
end
example (w : Params) : Mine.hd.heap_39 w = Mine.hd.heap_39 w ∧ PySem.Challenge.rw_ty0048_01 = PySem.Challenge.rw_ty0048_01 := by
  k_fill
  exact ⟨rfl, rfl⟩
section
/-! bisecting, as a plain function of the indices -/
def bis (go : Nat → Bool) : Nat → Nat → Nat → Nat
  | 0, lo, _ => lo
  | n + 1, lo, hi => if lo < hi then (if go ((lo + hi) / 2) then bis go n ((lo + hi) / 2 + 1) hi else bis go n lo ((lo + hi) / 2)) else lo
theorem bis_more (go : Nat → Bool) : ∀ (n k lo hi : Nat), hi - lo ≤ n → bis go (n + k) lo hi = bis go n lo hi := by
  intro n
  induction n with
  | zero =>
    intro k lo hi h
    cases k with
    | zero => rfl
    | succ k =>
      have : ¬ lo < hi := by omega
      simp [bis, this]
  | succ n ih =>
    intro k lo hi h
    have e : n + 1 + k = (n + k) + 1 := by omega
    rw [e, bis, bis]
    by_cases hl : lo < hi
    · rw [if_pos hl, if_pos hl]
      by_cases hg : go ((lo + hi) / 2) = true
      · rw [if_pos hg, if_pos hg]; exact ih _ _ _ (by omega)
      · rw [if_neg hg, if_neg hg]; exact ih _ _ _ (by omega)
    · rw [if_neg hl, if_neg hl]
def bisV (go : Nat → Bool) (lo hi : Nat) : Nat := bis go (hi - lo) lo hi
theorem bisV_of (go : Nat → Bool) {n lo hi : Nat} (h : hi - lo ≤ n) : bis go n lo hi = bisV go lo hi := by
  have := bis_more go (hi - lo) (n - (hi - lo)) lo hi (Nat.le_refl _)
  rw [show hi - lo + (n - (hi - lo)) = n by omega] at this
  exact this
theorem bisV_end (go : Nat → Bool) {lo hi : Nat} (h : ¬ lo < hi) : bisV go lo hi = lo := by
  unfold bisV
  rw [show hi - lo = 0 by omega]; rfl
theorem bisV_step (go : Nat → Bool) {lo hi : Nat} (h : lo < hi) : bisV go lo hi = if go ((lo + hi) / 2) = true then bisV go ((lo + hi) / 2 + 1) hi else bisV go lo ((lo + hi) / 2) := by
  have e : bisV go lo hi = bis go (hi - lo - 1 + 1) lo hi := by unfold bisV; rw [show hi - lo - 1 + 1 = hi - lo by omega]
  rw [e, bis, if_pos h]
  by_cases hg : go ((lo + hi) / 2) = true
  · rw [if_pos hg, if_pos hg]; exact bisV_of go (by omega)
  · rw [if_neg hg, if_neg hg]; exact bisV_of go (by omega)
theorem bisV_le (go : Nat → Bool) : ∀ (n lo hi : Nat), hi - lo ≤ n → lo ≤ hi → lo ≤ bisV go lo hi ∧ bisV go lo hi ≤ hi := by
  intro n
  induction n with
  | zero => intro lo hi h1 h2; rw [bisV_end go (by omega)]; omega
  | succ n ih =>
    intro lo hi h1 h2
    by_cases h : lo < hi
    · rw [bisV_step go h]
      split
      · have := ih ((lo + hi) / 2 + 1) hi (by omega) (by omega); omega
      · have := ih lo ((lo + hi) / 2) (by omega) (by omega); omega
    · rw [bisV_end go h]; omega
/-- the loop's word, over the ints of the frame -/
def BisAt (go : Nat → Bool) (n : Nat) (lo hi : Int) : Prop := 0 ≤ lo ∧ lo ≤ hi ∧ hi ≤ n ∧ bisV go lo.toNat hi.toNat = bisV go 0 n
theorem bisAt_start (go : Nat → Bool) (n : Nat) : BisAt go n 0 n := ⟨by omega, by omega, by omega, by simp⟩
theorem bisAt_mid {go : Nat → Bool} {n : Nat} {lo hi : Int} (h : BisAt go n lo hi) (hl : lo < hi) : 0 ≤ Int.fdiv (lo + hi) 2 ∧ Int.fdiv (lo + hi) 2 < n ∧ lo ≤ Int.fdiv (lo + hi) 2 ∧ Int.fdiv (lo + hi) 2 < hi ∧ (Int.fdiv (lo + hi) 2).toNat = (lo.toNat + hi.toNat) / 2 := by
  obtain ⟨h1, h2, h3, h4⟩ := h
  have e : Int.fdiv (lo + hi) 2 = (lo + hi) / 2 := Int.fdiv_eq_ediv_of_nonneg _ (by omega)
  rw [e]
  omega
theorem bisAt_right {go : Nat → Bool} {n : Nat} {lo hi : Int} (h : BisAt go n lo hi) (hl : lo < hi) (hg : go (Int.fdiv (lo + hi) 2).toNat = true) : BisAt go n (Int.fdiv (lo + hi) 2 + 1) hi := by
  have hm := bisAt_mid h hl
  obtain ⟨h1, h2, h3, h4⟩ := h
  refine ⟨by omega, by omega, h3, ?_⟩
  rw [← h4, bisV_step go (show lo.toNat < hi.toNat by omega), ← hm.2.2.2.2, if_pos hg]
  congr 1
  omega
theorem bisAt_left {go : Nat → Bool} {n : Nat} {lo hi : Int} (h : BisAt go n lo hi) (hl : lo < hi) (hg : go (Int.fdiv (lo + hi) 2).toNat = false) : BisAt go n lo (Int.fdiv (lo + hi) 2) := by
  have hm := bisAt_mid h hl
  obtain ⟨h1, h2, h3, h4⟩ := h
  refine ⟨by omega, by omega, by omega, ?_⟩
  rw [← h4, bisV_step go (show lo.toNat < hi.toNat by omega), ← hm.2.2.2.2, if_neg (by simp [hg])]
theorem bisAt_end {go : Nat → Bool} {n : Nat} {lo hi : Int} (h : BisAt go n lo hi) (hl : ¬ lo < hi) : lo = ((bisV go 0 n : Nat) : Int) := by
  obtain ⟨h1, h2, h3, h4⟩ := h
  rw [bisV_end go (by omega)] at h4
  omega
theorem kn_gl {a b : Nat} {B : Prop} (h : b < a ∧ B) : a ≠ b := Nat.ne_of_gt h.1
theorem kn_ll {a b : Nat} {B : Prop} (h : a < b ∧ B) : a ≠ b := Nat.ne_of_lt h.1
theorem kn_nl {a b : Nat} {B : Prop} (h : a ≠ b ∧ B) : a ≠ b := h.1
theorem kn_sl {a b : Nat} {B : Prop} (h : b ≠ a ∧ B) : a ≠ b := Ne.symm h.1
theorem kn_g {a b : Nat} (h : b < a) : a ≠ b := Nat.ne_of_gt h
theorem kn_l {a b : Nat} (h : a < b) : a ≠ b := Nat.ne_of_lt h
theorem kn_n {a b : Nat} (h : a ≠ b) : a ≠ b := h
theorem kn_s {a b : Nat} (h : b ≠ a) : a ≠ b := Ne.symm h
theorem kn_r {A B G : Prop} (f : B → G) (h : A ∧ B) : G := f h.2
theorem kn_t {A B C G : Prop} (f : A ∧ B → G) (h : (A ∧ B) ∧ C) : G := f h.1
theorem ne_u1 (a : Nat) : a ≠ a + 1 := by omega
theorem ne_d1 (a : Nat) : a + 1 ≠ a := by omega
theorem ne_lu1 {a b : Nat} (h : a < b) : a ≠ b + 1 := by omega
theorem ne_ld1 {a b : Nat} (h : a < b) : b + 1 ≠ a := by omega
theorem ne_u2 (a : Nat) : a ≠ a + 1 + 1 := by omega
theorem ne_d2 (a : Nat) : a + 1 + 1 ≠ a := by omega
theorem ne_lu2 {a b : Nat} (h : a < b) : a ≠ b + 1 + 1 := by omega
theorem ne_ld2 {a b : Nat} (h : a < b) : b + 1 + 1 ≠ a := by omega
theorem ne_u3 (a : Nat) : a ≠ a + 1 + 1 + 1 := by omega
theorem ne_d3 (a : Nat) : a + 1 + 1 + 1 ≠ a := by omega
theorem ne_lu3 {a b : Nat} (h : a < b) : a ≠ b + 1 + 1 + 1 := by omega
theorem ne_ld3 {a b : Nat} (h : a < b) : b + 1 + 1 + 1 ≠ a := by omega
theorem ne_u4 (a : Nat) : a ≠ a + 1 + 1 + 1 + 1 := by omega
theorem ne_d4 (a : Nat) : a + 1 + 1 + 1 + 1 ≠ a := by omega
theorem ne_lu4 {a b : Nat} (h : a < b) : a ≠ b + 1 + 1 + 1 + 1 := by omega
theorem ne_ld4 {a b : Nat} (h : a < b) : b + 1 + 1 + 1 + 1 ≠ a := by omega
theorem ne_u5 (a : Nat) : a ≠ a + 1 + 1 + 1 + 1 + 1 := by omega
theorem ne_d5 (a : Nat) : a + 1 + 1 + 1 + 1 + 1 ≠ a := by omega
theorem ne_lu5 {a b : Nat} (h : a < b) : a ≠ b + 1 + 1 + 1 + 1 + 1 := by omega
theorem ne_ld5 {a b : Nat} (h : a < b) : b + 1 + 1 + 1 + 1 + 1 ≠ a := by omega
theorem ne_u6 (a : Nat) : a ≠ a + 1 + 1 + 1 + 1 + 1 + 1 := by omega
theorem ne_d6 (a : Nat) : a + 1 + 1 + 1 + 1 + 1 + 1 ≠ a := by omega
theorem ne_lu6 {a b : Nat} (h : a < b) : a ≠ b + 1 + 1 + 1 + 1 + 1 + 1 := by omega
theorem ne_ld6 {a b : Nat} (h : a < b) : b + 1 + 1 + 1 + 1 + 1 + 1 ≠ a := by omega
theorem ne_u7 (a : Nat) : a ≠ a + 1 + 1 + 1 + 1 + 1 + 1 + 1 := by omega
theorem ne_d7 (a : Nat) : a + 1 + 1 + 1 + 1 + 1 + 1 + 1 ≠ a := by omega
theorem ne_lu7 {a b : Nat} (h : a < b) : a ≠ b + 1 + 1 + 1 + 1 + 1 + 1 + 1 := by omega
theorem ne_ld7 {a b : Nat} (h : a < b) : b + 1 + 1 + 1 + 1 + 1 + 1 + 1 ≠ a := by omega
end
section
set_option maxRecDepth 100000
/-- the objects that the called def does not touch, at the callee's ground -/
def Kept (g : Heap) (rest : List (Addr × Obj)) : Prop := ∀ p ∈ rest, g.get? p.1 = some p.2
def Apart (touched rest : List (Addr × Obj)) : Prop := ∀ p ∈ rest, p.1 ∉ touched.map (·.1)
theorem apart_nil {rest : List (Addr × Obj)} : Apart [] rest := fun _ _ h => nomatch h
section
variable {prog : Program} {w : World} {A₀ A : Around} {s : Shared} {K : Frag} {base h₀ : Heap} {outer : List Env} {L : Addr} {m : Str → Option Value} {env : Env} {touched rest : List (Addr × Obj)}
  {p : Program} {loose : List Str} {mean : ExcName → Option Value} {mg mb : Str → Option Value}
  {R : Result → Shared → Prop} {name qual : Str} {params : Arguments} {body : List Stmt} {scope : Scope} {dV kV doc pm cdv ct oc : Value} {an od : Option Addr} {osl : Array (Option Value)} {f : Addr} {args : Args} {binds : List (Str × Value)}

theorem enter_plain (B : Below A₀ base outer h₀) (F : Fr h₀ L s.heap m) (X₀ : K.In h₀) (N : News h₀ L s.heap touched) (NR : News h₀ L s.heap rest) (ap : Apart touched rest) (T : Top p loose mean mg mb h₀) (hA : A.frames = some (env :: outer)) (hf : env.frame = some L) (hke : env.scope.kind = .function)
    (ho : K.lookup f = some ⟨oc, od, .func (fnOf name qual params body scope dV kV doc pm an cdv ct), osl⟩) (hcd : codeIn K cdv qual = true) (hroom : A.depth < recursionLimit)
    (hbind : BindsTo s (fnOf name qual params body scope dV kV doc pm an cdv ct) args binds) (hloc : ∀ y ∈ binds, scope.names.lookup y.1 = some .local)
    (h : ∀ g L' h₁, Fr h₀ L g m → Fr g L' h₁ (fun y => binds.reverse.lookup y) → News g L' h₁ touched → Below A base (env :: outer) g → K.In g → Top p loose mean mg mb g → Kept g rest →
      wpAny (model prog w) (A.deeper (envOf qual scope L' f cdv)) (execs body (envOf qual scope L' f cdv))
        (fun fl s' => LeaveK h₀ L m g R (match fl with | .ret v => v | _ => .none) s')
        (fun e s' => wpAny (model prog w) (A.deeper (envOf qual scope L' f cdv)) (leaving (envOf qual scope L' f cdv) e) (fun _ s'' => R (.error e) s'') (fun e' s'' => R (.error e') s'') s')
        { s with heap := h₁, toks := s.toks + binds.length })
    (hco : scope.isCoroutine = false) (hgen : scope.isGenerator = false) (hk : scope.kind = .function)
    (hcell : ∀ x ∈ scope.names, x.2 ≠ .cell) : codeAny (model prog w) A (.call (.ref f) args) R s := by
  have gr := groundX (R := R) B F N hA hf hke
  have st := gr.2.2.1
  have body_ok := h (hideAll s.heap (touched.map (·.1))) s.heap.objs.size
  refine codeAny_call_def hroom ((X₀.keeps F.keep) _ _ ho) rfl (T.nolimit.keeps F.keep) (codeRec_of (X₀.keeps F.keep) hcd) rfl hbind hcell hloc (fun h₁ hns old => ?_) hco hgen hk
  have F₁ : Fr (hideAll s.heap (touched.map (·.1))) s.heap.objs.size h₁ (fun y => binds.reverse.lookup y) :=
    { ns := hns, keep := fun b o e => old b o (of_hideAll _ e), above := Nat.le_of_eq (hideAll_size _ _) }
  have N₁ : News (hideAll s.heap (touched.map (·.1))) s.heap.objs.size h₁ touched := fun q hq =>
    ⟨old _ _ (N q hq).1, Nat.ne_of_lt (Heap.lt_size (N q hq).1), hideAll_none _ (List.mem_map_of_mem hq)⟩
  have keptR : Kept (hideAll s.heap (touched.map (·.1))) rest := fun q hq => hideAll_get _ (NR q hq).1 (ap q hq)
  exact wpAny_mono (body_ok h₁ gr.1 F₁ N₁ gr.2.1 (X₀.keeps st) (T.keeps st) keptR) (fun _ _ hl => gr.2.2.2 _ _ hl) fun _ _ y => y

theorem enter_cells (B : Below A₀ base outer h₀) (F : Fr h₀ L s.heap m) (X₀ : K.In h₀) (N : News h₀ L s.heap touched) (NR : News h₀ L s.heap rest) (ap : Apart touched rest) (T : Top p loose mean mg mb h₀) (hA : A.frames = some (env :: outer)) (hf : env.frame = some L) (hke : env.scope.kind = .function)
    (ho : K.lookup f = some ⟨oc, od, .func (fnOf name qual params body scope dV kV doc pm an cdv ct), osl⟩) (hcd : codeIn K cdv qual = true) (hroom : A.depth < recursionLimit)
    (hbind : BindsTo s (fnOf name qual params body scope dV kV doc pm an cdv ct) args binds) (hkind : (binds.all fun y => scope.names.lookup y.1 == some .local || scope.names.lookup y.1 == some .cell) = true)
    (hnd : ((cellsFrom 0 scope.names []).map (·.1)).Nodup)
    (h : ∀ g L' h₁ tk cells, Fr h₀ L g m → Fr g L' h₁ (bindL (envOfC qual scope L' f cdv).kindOf binds fun _ => none) → News g L' h₁ (cells ++ touched) →
      CellsAre (bindC (envOfC qual scope L' f cdv).kindOf binds fun _ => none) (cellsFrom (L' + 1) scope.names []) cells → Below A base (env :: outer) g → K.In g → Top p loose mean mg mb g → (∀ q ∈ touched, q.1 < L') → Kept g rest →
      wpAny (model prog w) (A.deeper (envOfC qual scope L' f cdv)) (execs body (envOfC qual scope L' f cdv))
        (fun fl s' => LeaveK h₀ L m g R (match fl with | .ret v => v | _ => .none) s')
        (fun e s' => wpAny (model prog w) (A.deeper (envOfC qual scope L' f cdv)) (leaving (envOfC qual scope L' f cdv) e) (fun _ s'' => R (.error e) s'') (fun e' s'' => R (.error e') s'') s')
        { s with heap := h₁, toks := tk })
    (hco : scope.isCoroutine = false) (hgen : scope.isGenerator = false) (hk : scope.kind = .function) : codeAny (model prog w) A (.call (.ref f) args) R s := by
  have gr := groundX (R := R) B F N hA hf hke
  have st := gr.2.2.1
  refine codeAny_call_function hroom ((X₀.keeps F.keep) _ _ ho) rfl hco hgen rfl (codeRec_of (X₀.keeps F.keep) hcd) (hbind _ _ _ _ ?_)
  refine wpAny_newFunctionEnv_cells hk (kindsX hkind _) fun env' he s' x => ?_
  subst he
  have old := x.toInCall.keep
  refine ⟨(T.nolimit.keeps F.keep).keeps old, codeAny_func ?_⟩
  obtain ⟨h₁, tk, rfl, _⟩ := x.done
  have ndup : ((cellsFrom (s.heap.objs.size + 1) scope.names []).map (·.1)).Nodup := by
    have e := cellsFrom_names scope.names 0 (s.heap.objs.size + 1) [] [] rfl
    rw [← e]; exact hnd
  obtain ⟨cells, NC, Y⟩ := Cl.news (h₀ := s.heap) (Nat.le_refl _) fun n c hm => ⟨x.cell n c (lookup_of_mem_nodup ndup hm), x.above n c hm⟩
  have F₁ : Fr (hideAll s.heap (touched.map (·.1))) s.heap.objs.size h₁ (bindL (envOfC qual scope s.heap.objs.size f cdv).kindOf binds fun _ => none) :=
    { ns := x.toInCall.ns, keep := fun b o e => old b o (of_hideAll _ e), above := Nat.le_of_eq (hideAll_size _ _) }
  have none_of : ∀ b, s.heap.get? b = none → (hideAll s.heap (touched.map (·.1))).get? b = none := fun b e => by
    cases q : (hideAll s.heap (touched.map (·.1))).get? b with
    | none => rfl
    | some o => rw [of_hideAll _ q] at e; cases e
  have N₁ : News (hideAll s.heap (touched.map (·.1))) s.heap.objs.size h₁ (cells ++ touched) := fun q hq => by
    rcases List.mem_append.mp hq with hq | hq
    · exact ⟨(NC q hq).1, (NC q hq).2.1, none_of _ (NC q hq).2.2⟩
    · exact ⟨old _ _ (N q hq).1, Nat.ne_of_lt (Heap.lt_size (N q hq).1), hideAll_none _ (List.mem_map_of_mem hq)⟩
  have keptR : Kept (hideAll s.heap (touched.map (·.1))) rest := fun q hq => hideAll_get _ (NR q hq).1 (ap q hq)
  exact wpAny_mono (h _ _ h₁ tk cells gr.1 F₁ N₁ Y gr.2.1 (X₀.keeps st) (T.keeps st) (fun q hq => Heap.lt_size (N q hq).1) keptR) (fun _ _ hl => gr.2.2.2 _ _ hl) fun _ _ y => y

/-- behind the call: what it made, and what stood and was not touched -/
theorem join_rest {g h' : Heap} {L' : Addr} {m' : Str → Option Value} {made : List (Addr × Obj)} (N : News h₀ L s.heap rest) (k : Kept g rest) (F' : Fr g L' h' m') (kN : News h₀ L h' made) : News h₀ L h' (made ++ rest) := fun q hq => by
  rcases List.mem_append.mp hq with hq | hq
  · exact kN q hq
  · exact ⟨F'.keep _ _ (k q hq), (N q hq).2⟩
theorem rest_only {g h' : Heap} {L' : Addr} {m' : Str → Option Value} (N : News h₀ L s.heap rest) (k : Kept g rest) (F' : Fr g L' h' m') : News h₀ L h' rest := fun q hq => ⟨F'.keep _ _ (k q hq), (N q hq).2⟩
theorem off_rest {g h' : Heap} {L' a' : Addr} {o' : Obj} {made : List (Addr × Obj)} (k : Kept g rest) (N' : News g L' h' made) (hm : (a', o') ∈ made) : LCg.Off1 a' rest := by
  have n := (N' _ hm).2.2
  have one : ∀ l : List (Addr × Obj), (∀ q ∈ l, g.get? q.1 = some q.2) → LCg.Off1 a' l := by
    intro l
    induction l with
    | nil => exact fun _ => trivial
    | cons q r ih =>
      intro hl
      refine ⟨fun e => ?_, ih fun x hx => hl x (.tail _ hx)⟩
      have := hl q (.head _)
      have e' : q.1 = a' := e
      rw [e', n] at this
      cases this
  exact one rest k
end
end
section
set_option maxRecDepth 100000
/-- a list's iterator that stands at place i -/
abbrev itObj (l : Addr) (i : Nat) : Obj := { cls := .type "list_iterator", data := .fields #[.ref l, .int i 0] }
abbrev itDone (i : Nat) : Obj := { cls := .type "list_iterator", data := .fields #[.none, .int i 0] }
section
variable {prog : Program} {w : World} {A : Around} {E : Value → Shared → Prop} {s : Shared} {h₀ : Heap} {L it l : Addr} {m : Str → Option Value} {rest : List (Addr × Obj)} {Q : Value → Shared → Prop} {vs : List Value} {i : Nat}
theorem none_past {H : Heap} (a : Addr) (h : H.objs.size ≤ a) : H.get? a = none := by
  cases q : H.get? a with
  | none => rfl
  | some o => exact absurd (Heap.lt_size q) (Nat.not_lt.mpr h)
theorem iter_list (F : Fr h₀ L s.heap m) (N : News h₀ L s.heap rest) (hl : h₀.IsList l vs.toArray)
    (h : ∀ (I : Addr) h', Fr h₀ L h' m → News h₀ L h' ((I, itObj l 0) :: rest) → (∀ q ∈ rest, q.1 < I) → Q (.ref I) { s with heap := h' }) :
    wpAny (model prog w) A (call (.builtin "iter") [.ref l]) Q E s := by
  have hls : s.heap.IsList l vs.toArray := hl.at fun o e => F.keep l o e
  refine call_function_entry (by decide +kernel) (by decide +kernel) kdk_entry_iter (kdk_args_iter _) ?_
  unfold Builtin.«iter»
  refine wpAny_bind (m := someArgs "iter" 1 2 _) (wpAny_of_eq (a := [Value.ref l]) (by first | rfl | kernel_rfl!) ?_)
  show wpAny _ _ (pyIter (.ref l) >>= _) _ _ _
  refine wpAny_bind (wpAny_pyIter_list hls ?_)
  exact wpAny_pure ⟨_, rfl, h _ _ (F.push _) (News.push F N _ rfl) fun q hq => Heap.lt_size (N q hq).1⟩

theorem it_special {Q : Option Value → Shared → Prop} {items : Array Value} {x : Value} (hit : s.heap.IsListIter it l i) (hl : s.heap.IsList l items) (hx : items[i]? = some x)
    (hQ : Q (some x) { s with heap := s.heap.update it (Obj.mapFields (·.setIfInBounds 1 (rawInt ((i : Int) + 1)))) }) :
    wpAny (model prog w) A (callSpecial? (.ref it) (Str.ofString "__next__")) Q E s := by
  obtain ⟨o, ho, hc, hd⟩ := id hit
  obtain ⟨ol, hol, _, nl, hdl⟩ := hl
  refine wpAny_callSpecial?_slot (name := Str.ofString "__next__") hit.typeIs slot_listiter_next
    (wpAny_call_entry slot_listiter_next hit.typeIs entry_listiter_next ?_ (args_listiter_next _))
  show wpAny _ _ (field (.ref it) 0 >>= _) _ _ s
  refine wpAny_bind (wpAny_field ho hd (x := .ref l) rfl ?_)
  show wpAny _ _ (if (Value.ref l == Value.none) = true then _ else _) _ _ s
  rw [if_neg (show ¬ ((Value.ref l == Value.none) = true) from Bool.false_ne_true)]
  show wpAny _ _ (field (.ref it) 1 >>= _) _ _ s
  refine wpAny_bind (wpAny_field ho hd (x := .int i 0) rfl ?_)
  show wpAny _ _ (seqItems? (.ref l) >>= _) _ _ s
  refine wpAny_bind (wpAny_seqItems hol hdl ?_)
  simp only [Int.toNat_natCast, hx]
  exact wpAny_bind (wpAny_setField ho hd (by simp) (wpAny_pure ⟨x, rfl, hQ⟩))

theorem next_list {x : Value} (F : Fr h₀ L s.heap m) (N : News h₀ L s.heap ((it, itObj l i) :: rest)) (off : OwnOff rest [it]) (hl : h₀.IsList l vs.toArray) (hx : vs[i]? = some x)
    (h : ∀ h', Fr h₀ L h' m → News h₀ L h' ((it, itObj l (i + 1)) :: rest) → Q x { s with heap := h' }) :
    wpAny (model prog w) A (call (.builtin "next") [.ref it]) Q E s := by
  have hls : s.heap.IsList l vs.toArray := hl.at fun o e => F.keep l o e
  have hm := N (it, itObj l i) (.head _)
  have hit : s.heap.IsListIter it l i := ⟨_, hm.1, rfl, rfl⟩
  refine call_function_entry (by decide +kernel) (by decide +kernel) kdk_entry_next (kdk_args_next _) ?_
  unfold Builtin.«next»
  refine wpAny_bind (m := someArgs "next" 1 2 _) (wpAny_of_eq (a := [Value.ref it]) (by first | rfl | kernel_rfl!) ?_)
  dsimp only
  refine wpAny_bind (wpAny_specialOf (name := Str.ofString "__next__") hit.typeIs slot_listiter_next.lookup ?_)
  refine wpAny_ite_split (fun hab => absurd hab (by decide)) (fun _ => ?_)
  refine wpAny_bind (it_special hit hls (by simpa using hx) ?_)
  have hs : Heap.SameBut it s.heap (s.heap.update it (Obj.mapFields (·.setIfInBounds 1 (rawInt ((i : Int) + 1))))) := Heap.SameBut.update ..
  have got : (s.heap.update it (Obj.mapFields (·.setIfInBounds 1 (rawInt ((i : Int) + 1))))).get? it = some (itObj l (i + 1)) := by
    rw [Heap.get?_update_self (o := itObj l i) _ hm.1 rfl]; simp [Obj.mapFields, itObj, rawInt]
  refine wpAny_pure ⟨_, rfl, h _ (F.change hs hm.2.1 hm.2.2) fun q hq => ?_⟩
  rcases List.mem_cons.mp hq with rfl | hq
  · exact ⟨got, hm.2⟩
  · have z := N q (.tail _ hq)
    exact ⟨(hs.2 q.1 (off q hq it (List.mem_singleton.mpr rfl))).trans z.1, z.2⟩

theorem next_end (hh : A.handled = none) (F : Fr h₀ L s.heap m) (N : News h₀ L s.heap ((it, itObj l i) :: rest)) (off : OwnOff rest [it]) (hl : h₀.IsList l vs.toArray) (hx : vs[i]? = none)
    (h : ∀ h' h'' e tk, Fr h₀ L h' m → News h₀ L h' ((it, itDone i) :: rest) → Heap.MadeExcOf h' h'' e (.type "StopIteration") [] → E (.ref e) { s with heap := h'', toks := tk }) :
    wpAny (model prog w) A (call (.builtin "next") [.ref it]) Q E s := by
  have hls : s.heap.IsList l vs.toArray := hl.at fun o e => F.keep l o e
  have hm := N (it, itObj l i) (.head _)
  have hit : s.heap.IsListIter it l i := ⟨_, hm.1, rfl, rfl⟩
  obtain ⟨ol, hol, _, nl, hdl⟩ := hls
  refine call_function_entry (by decide +kernel) (by decide +kernel) kdk_entry_next (kdk_args_next _) ?_
  unfold Builtin.«next»
  refine wpAny_bind (m := someArgs "next" 1 2 _) (wpAny_of_eq (a := [Value.ref it]) (by first | rfl | kernel_rfl!) ?_)
  dsimp only
  refine wpAny_bind (wpAny_specialOf (name := Str.ofString "__next__") hit.typeIs slot_listiter_next.lookup ?_)
  refine wpAny_ite_split (fun hab => absurd hab (by decide)) (fun _ => ?_)
  refine wpAny_bind (wpAny_callSpecial?_slot (name := Str.ofString "__next__") hit.typeIs slot_listiter_next
    (wpAny_call_entry slot_listiter_next hit.typeIs entry_listiter_next ?_ (args_listiter_next _)))
  show wpAny _ _ (field (.ref it) 0 >>= _) _ _ s
  refine wpAny_bind (wpAny_field hm.1 rfl (x := .ref l) rfl ?_)
  show wpAny _ _ (if (Value.ref l == Value.none) = true then _ else _) _ _ s
  rw [if_neg (show ¬ ((Value.ref l == Value.none) = true) from Bool.false_ne_true)]
  show wpAny _ _ (field (.ref it) 1 >>= _) _ _ s
  refine wpAny_bind (wpAny_field hm.1 rfl (x := .int i 0) rfl ?_)
  show wpAny _ _ (seqItems? (.ref l) >>= _) _ _ s
  refine wpAny_bind (wpAny_seqItems hol hdl ?_)
  have hx' : vs.toArray[i]? = none := by simpa using hx
  simp only [Int.toNat_natCast, hx']
  refine wpAny_bind (wpAny_rule (wpAny_bind (wpAny_setField hm.1 rfl (by simp) ?_)))
  have hs : Heap.SameBut it s.heap (s.heap.update it (Obj.mapFields (·.setIfInBounds 0 Value.none))) := Heap.SameBut.update ..
  have got : (s.heap.update it (Obj.mapFields (·.setIfInBounds 0 Value.none))).get? it = some (itDone i) := by
    rw [Heap.get?_update_self (o := itObj l i) _ hm.1 rfl]; simp [Obj.mapFields, itObj, itDone]
  have F1 := F.change hs hm.2.1 hm.2.2
  have N1 : News h₀ L (s.heap.update it (Obj.mapFields (·.setIfInBounds 0 Value.none))) ((it, itDone i) :: rest) := fun q hq => by
    rcases List.mem_cons.mp hq with rfl | hq
    · exact ⟨got, hm.2⟩
    · have z := N q (.tail _ hq)
      exact ⟨(hs.2 q.1 (off q hq it (List.mem_singleton.mpr rfl))).trans z.1, z.2⟩
  show wpAny _ _ (newExc (.type "StopIteration") [] >>= _) _ _ _
  refine wpAny_bind ?_
  simp only [newExc, newTuple]
  refine wpAny_bind (wpAny_newObj_type ?_ (by size_fits))
  refine wpAny_bind (m := firstArgMember _ _) (wpAny_of_eq (a := Value.none) (by first | rfl | (simp only [firstArgMember]; rfl)) ?_)
  refine wpAny_newObj_type ?_ (by size_fits)
  simp only [raiseNew]
  refine wpAny_bind (wpAny_handled ?_)
  rw [show A.in1.handled = none from hh]
  refine wpAny_bind (wpAny_pure (wpAny_throw ?_))
  generalize s.heap.update it (Obj.mapFields (·.setIfInBounds 0 Value.none)) = H at F1 N1
  refine h _ _ _ _ F1 N1 { keeps := fun b o e => Heap.get?_push_of_some _ (Heap.get?_push_of_some _ e), new := ?_, there := ⟨H.objs.size, Heap.get?_push_size _ rfl, none_past _ (Nat.le_refl _), Heap.get?_push_of_some _ (Heap.get?_push_size _ rfl)⟩ }
  exact none_past _ (by rw [Heap.size_push]; exact Nat.le_succ _)
end
end
section
set_option maxRecDepth 100000
/-- the end of a def that caught an exception: the frames below have turned their slots -/
def LeaveT (h₀ : Heap) (L : Addr) (m : Str → Option Value) (g : Heap) (R : Result → Shared → Prop) (v : Value) (s' : Shared) : Prop :=
  ∃ g' L' m' news', KtsTurn [L] g g' ∧ Fr g' L' s'.heap m' ∧ News g' L' s'.heap news' ∧ (Fr h₀ L s'.heap m → News h₀ L s'.heap news' → R (.ok (.ret v)) s')
theorem leaveT_ {h₀ g g' : Heap} {L L' : Addr} {m m' : Str → Option Value} {news' : List (Addr × Obj)} {R : Result → Shared → Prop} {v : Value} {s' : Shared} (F' : Fr g' L' s'.heap m') (N' : News g' L' s'.heap news') (T : KtsTurn [L] g g')
    (k : Fr h₀ L s'.heap m → News h₀ L s'.heap news' → R (.ok (.ret v)) s') : LeaveT h₀ L m g R v s' := ⟨g', L', m', news', T, F', N', k⟩
section
variable {prog : Program} {w : World} {A₀ A : Around} {s : Shared} {K : Frag} {base h₀ : Heap} {L : Addr} {m : Str → Option Value} {env : Env} {touched rest : List (Addr × Obj)}
  {p : Program} {loose : List Str} {mean : ExcName → Option Value} {mg mb : Str → Option Value}
  {R : Result → Shared → Prop} {name qual : Str} {params : Arguments} {body : List Stmt} {scope : Scope} {dV kV doc pm cdv ct oc : Value} {an od : Option Addr} {osl : Array (Option Value)} {f : Addr} {args : Args} {binds : List (Str × Value)}
theorem Kept.turn {g g' : Heap} (k : Kept g rest) (N : News h₀ L s.heap rest) (T : KtsTurn [L] g g') : Kept g' rest := fun q hq => T.other _ _ (k q hq) fun hm => (N q hq).2.1 (List.mem_singleton.mp hm)

theorem enter_turn (B : Below A₀ base [] h₀) (F : Fr h₀ L s.heap m) (X₀ : K.In h₀) (N : News h₀ L s.heap touched) (NR : News h₀ L s.heap rest) (ap : Apart touched rest) (T : Top p loose mean mg mb h₀) (hA : A.frames = some [env]) (hf : env.frame = some L) (hke : env.scope.kind = .function)
    (ho : K.lookup f = some ⟨oc, od, .func (fnOf name qual params body scope dV kV doc pm an cdv ct), osl⟩) (hcd : codeIn K cdv qual = true) (hroom : A.depth < recursionLimit)
    (hbind : BindsTo s (fnOf name qual params body scope dV kV doc pm an cdv ct) args binds) (hloc : ∀ y ∈ binds, scope.names.lookup y.1 = some .local)
    (h : ∀ g L' h₁, Fr h₀ L g m → Fr g L' h₁ (fun y => binds.reverse.lookup y) → News g L' h₁ touched → Below A base [env] g → K.In g → Top p loose mean mg mb g → Kept g rest → KtsDicts [L] g →
      wpAny (model prog w) (A.deeper (envOf qual scope L' f cdv)) (execs body (envOf qual scope L' f cdv))
        (fun fl s' => LeaveT h₀ L m g R (match fl with | .ret v => v | _ => .none) s')
        (fun e s' => wpAny (model prog w) (A.deeper (envOf qual scope L' f cdv)) (leaving (envOf qual scope L' f cdv) e) (fun _ s'' => R (.error e) s'') (fun e' s'' => R (.error e') s'') s')
        { s with heap := h₁, toks := s.toks + binds.length })
    (hco : scope.isCoroutine = false) (hgen : scope.isGenerator = false) (hk : scope.kind = .function)
    (hcell : ∀ x ∈ scope.names, x.2 ≠ .cell) : codeAny (model prog w) A (.call (.ref f) args) R s := by
  have gr := groundX (R := R) B F N hA hf hke
  have st := gr.2.2.1
  have body_ok := h (hideAll s.heap (touched.map (·.1))) s.heap.objs.size
  obtain ⟨oL, es, ep, hLg, hLd, hLk, hLf⟩ := gr.1.ns
  have hL0 : h₀.get? L = none := Heap.get?_none_of_le F.above
  refine codeAny_call_def hroom ((X₀.keeps F.keep) _ _ ho) rfl (T.nolimit.keeps F.keep) (codeRec_of (X₀.keeps F.keep) hcd) rfl hbind hcell hloc (fun h₁ hns old => ?_) hco hgen hk
  have F₁ : Fr (hideAll s.heap (touched.map (·.1))) s.heap.objs.size h₁ (fun y => binds.reverse.lookup y) :=
    { ns := hns, keep := fun b o e => old b o (of_hideAll _ e), above := Nat.le_of_eq (hideAll_size _ _) }
  have N₁ : News (hideAll s.heap (touched.map (·.1))) s.heap.objs.size h₁ touched := fun q hq =>
    ⟨old _ _ (N q hq).1, Nat.ne_of_lt (Heap.lt_size (N q hq).1), hideAll_none _ (List.mem_map_of_mem hq)⟩
  have keptR : Kept (hideAll s.heap (touched.map (·.1))) rest := fun q hq => hideAll_get _ (NR q hq).1 (ap q hq)
  have D : KtsDicts [L] (hideAll s.heap (touched.map (·.1))) := fun b hb => by
    rw [List.mem_singleton.mp hb]; exact ⟨oL, es, ep, hLg, hLd⟩
  refine wpAny_mono (body_ok h₁ gr.1 F₁ N₁ gr.2.1 (X₀.keeps st) (T.keeps st) keptR D) (fun fl s' hl => ?_) fun _ _ y => y
  obtain ⟨g', L', m', news', Tn, F', N', k⟩ := hl
  obtain ⟨sl, hsl⟩ := Tn.frame L oL hLg (List.mem_singleton.mpr rfl)
  have notL : ∀ b o, h₀.get? b = some o → b ∉ [L] := fun b o e hm => by rw [List.mem_singleton.mp hm, hL0] at e; cases e
  have up : ∀ b o, h₀.get? b = some o → g'.get? b = some o := fun b o e => Tn.other b o (st b o e) (notL b o e)
  refine k { ns := ⟨_, es, ep, F'.keep _ _ hsl, hLd, hLk, hLf⟩, keep := fun b o e => F'.keep b o (up b o e), above := F.above } fun q hq => ⟨(N' q hq).1, fun e => ?_, ?_⟩
  · have z := (N' q hq).2.2; rw [e, hsl] at z; cases z
  · cases z : h₀.get? q.1 with
    | none => rfl
    | some o => have y := (N' q hq).2.2; rw [up _ _ z] at y; cases y
end
end
section
local macro_rules | `(tactic| walk_at $s:str) => `(tactic| k_extra $s)
def inStretch (r s w k : Int) : Bool := decide (0 < Int.fmod (k * s) r) && decide (Int.fmod (k * s) r < w)
theorem few_lt {r s w k k₀ : Int} (hat : inStretch r s w k₀ = true) (h : k ≤ k₀) (hn : ¬ 0 < Int.fmod (k * s) r ∨ ¬ Int.fmod (k * s) r < w) : k < k₀ := by
  unfold inStretch at hat
  rcases Int.lt_or_eq_of_le h with h | rfl
  · exact h
  · simp at hat; omega
theorem few_eq {r s w k k₀ : Int} (hmin : ∀ k, 1 ≤ k → k < k₀ → inStretch r s w k = false) (hat : inStretch r s w k₀ = true) (h0 : 1 ≤ k) (h : k ≤ k₀) (h1 : 0 < Int.fmod (k * s) r) (h2 : Int.fmod (k * s) r < w) : k = k₀ := by
  rcases Int.lt_or_eq_of_le h with h | rfl
  · have := hmin k h0 h
    unfold inStretch at this
    simp [h1, h2] at this
  · rfl
section
variable {prog : Program} {w : World} {p : Program} {loose : List Str} {mean : ExcName → Option Value} {mg mb : Str → Option Value} 
  {dp un : Nat} {gd : Option (List Code)} {cn : Str} {cs : Scope} {L a : Addr} {ccd : Value} {cl : List (Str × Addr)} {outer : List Env} {A₀ : Around} {base h₀ : Heap} {m : Str → Option Value} {s : Shared} {Q E : Value → Shared → Prop} {news : List (Addr × Obj)}
set_option maxRecDepth 100000 in
set_option maxHeartbeats 8000000 in
theorem fewest_spec 
  (B : Below A₀ base outer h₀) (F : Fr h₀ L s.heap m) (X : (Mine.hd.heap_39 w.params).In h₀) (N : News h₀ L s.heap news) (T : Top p loose mean mg mb h₀) (hk : cs.kind = .function)
  (hd : dp + 3 < recursionLimit) (hu : un + 30 < cLine)
  {ring step wide : Int} {t1 t2 t3 : Tok}
  (hb : 5 ≤ ring ∧ ring ≤ 19 ∧ 1 ≤ step ∧ step < ring ∧ 2 ≤ wide ∧ wide < ring)
  (k₀ : Int) (hk1 : 1 ≤ k₀) (hk2 : k₀ ≤ 19) (hmin : ∀ k, 1 ≤ k → k < k₀ → inStretch ring step wide k = false) (hat : inStretch ring step wide k₀ = true)
  (hret : ∀ (a' : Addr) (u1 u2 : Tok) (h' : Heap) (tk' : Nat), Fr h₀ L h' m → News h₀ L h' ((a', { cls := .type "tuple", data := .seq #[.int k₀ u1, .int (Int.fmod (k₀ * step) ring) u2] }) :: news) → (∀ p ∈ news, p.1 < a') → Q (.ref a') { s with heap := h', toks := tk' }) :
  wpAny (model prog w) (ktrTop dp un gd cn cs L a ccd cl outer) (call (.ref 156) [.int ring t1, .int step t2, .int wide t3]) Q E s := by
  k_with_none
  w_top off
  k_with "exec While UnaryOp cons nil" => k_while_given ["ring", "step", "wide"] (fun _ _ _ _ k => 1 ≤ k ∧ k ≤ k₀) (fun _ _ _ _ k => (k₀ - k).toNat) "steps"
  refine wpAny_call ?_
  k_dflt cell_enter
  k_steps
  · rename_i h1 h2 D h' F' N' l1 kF kN _ _
    have e := few_eq hmin hat (by assumption) (by assumption) h1 h2
    subst e
    exact hret _ _ _ _ _ kF kN l1
  all_goals (have hlt := few_lt hat (by assumption) (by first | exact .inl (by assumption) | exact .inr (by assumption)); k_steps)
end
end
section
local macro_rules | `(tactic| walk_at $s:str) => `(tactic| k_extra $s)
local macro_rules | `(tactic| k_room) => `(tactic| ktr_room)
local macro_rules | `(tactic| cell_enter) => `(tactic| (refine' code_def ?k1 ?k2 ?k3 ?k4 ?k5 ?kA ?kF ?kK ?k6 ?k7 ?k8 ?k9 ?kB ?_ ?c2 ?c3 ?c4 ?c5; (case kA => exact rfl); (case kF => exact rfl); (case kK => assumption); (case k1 => k_asm); (case k2 => k_asm); (case k3 => k_asm); (case k4 => k_asm); (case k5 => k_asm); (case k6 => k_is); (case k7 => k_is); (case k8 => ktr_room); (case k9 => (refine' kp_binds ?kx ?ke; (case kx => k_in); (case ke => exact fun _ => rfl))); (case c5 => decide); (case kB => exact locs rfl); (case c2 => exact rfl); (case c3 => exact rfl); (case c4 => exact rfl); k_whole; intro g' L' h' FG' F' N' B' X' T'; (try dsimp only); (try k_lift B'); (try k_fold)))
section
variable {prog : Program} {w : World} {p : Program} {loose : List Str} {mean : ExcName → Option Value} {mg mb : Str → Option Value} 
  {dp un : Nat} {gd : Option (List Code)} {cn : Str} {cs : Scope} {L a : Addr} {ccd : Value} {cl : List (Str × Addr)} {outer : List Env} {A₀ : Around} {base h₀ : Heap} {m : Str → Option Value} {s : Shared} {Q E : Value → Shared → Prop} {news : List (Addr × Obj)}
def ltAt (ns : List Int) (x : Int) (i : Nat) : Bool := decide (ns.getD i 0 < x)
def insI (go : Nat → Bool) (ns : List Int) (x : Int) : List Int := ns.take (bisV go 0 ns.length) ++ x :: ns.drop (bisV go 0 ns.length)
theorem ints_take : ∀ {vs : List Value} {ns : List Int} (k : Nat), IntsAre vs ns → IntsAre (vs.take k) (ns.take k)
  | _, _, 0, _ => by simpa using IntsAre.nil
  | _, _, _ + 1, .nil => by simpa using IntsAre.nil
  | _, _, k + 1, .cons n t h => by simpa using IntsAre.cons n t (ints_take k h)
theorem ints_drop : ∀ {vs : List Value} {ns : List Int} (k : Nat), IntsAre vs ns → IntsAre (vs.drop k) (ns.drop k)
  | _, _, 0, h => by simpa using h
  | _, _, _ + 1, .nil => by simpa using IntsAre.nil
  | _, _, k + 1, .cons n t h => by simpa using ints_drop k h
theorem ints_app : ∀ {vs ws : List Value} {ns ms : List Int}, IntsAre vs ns → IntsAre ws ms → IntsAre (vs ++ ws) (ns ++ ms)
  | _, _, _, _, .nil, h => by simpa using h
  | _, _, _, _, .cons n t h, h' => by simpa using IntsAre.cons n t (ints_app h h')
theorem ints_ins {vs : List Value} {ns : List Int} {x : Int} {t : Tok} {b : Nat} (h : IntsAre vs ns) (hb : b ≤ ns.length) : IntsAre (kl_ins vs (b : Int) (.int x t)) (ns.take b ++ x :: ns.drop b) := by
  have e : kl_ins vs (b : Int) (.int x t) = vs.take b ++ .int x t :: vs.drop b := by
    unfold kl_ins
    have hl := h.length
    rw [if_neg (by omega), show min (Int.toNat (b : Int)) vs.length = b by omega]
  rw [e]
  exact ints_app (ints_take b h) (.cons x t (ints_drop b h))
theorem item_ints {news' : List (Addr × Obj)} {A : Around} {l : Addr} {vs : List Value} {ns : List Int} {c : Nat} {k : Int} {u : Tok} {value slice : PySem.Expr} (N : News h₀ L s.heap news') (hm : (l, listOf vs.toArray c) ∈ news') (hi : IntsAre vs ns) (h0 : 0 ≤ k) (hk : k < ns.length) (hn : ns.length < 2 ^ 62)
    (h : ∀ t, Q (.int (ns.getD k.toNat 0) t) s)
    (hs : subscripted slice false (.ref l) (.int k u) = operate [.ref l, .int k u] (getItem (.ref l) (.int k u)) := by with_unfolding_all rfl) :
    wpAny (model prog w) A (subscriptTail value slice (.ref l) (.int k u)) Q E s := by
  have hl : s.heap.IsList l vs.toArray := ⟨_, (N _ hm).1, rfl, c, rfl⟩
  obtain ⟨t, ht⟩ := hi.get k.toNat (ns.getD k.toNat 0) (by rw [List.getD_eq_getElem?_getD, List.getElem?_eq_getElem (by omega)]; rfl)
  exact tail_any hl.typeIs slot_list_getitem.lookup (wpAny_getItem_list hl h0 (by omega) (by simpa using ht) (h t)) hs
set_option maxRecDepth 100000 in
set_option maxHeartbeats 8000000 in
theorem insl_spec {l : Addr} {vs : List Value} {ns : List Int} {c : Nat} {x : Int} {t : Tok}
  (B : Below A₀ base outer h₀) (F : Fr h₀ L s.heap m) (X : (Mine.hd.heap_39 w.params).In h₀) (N : News h₀ L s.heap ((l, listOf vs.toArray c) :: news)) (T : Top p loose mean mg mb h₀) (hk : cs.kind = .function)
  (hd : dp + 3 < recursionLimit) (hu : un + 30 < cLine)
  (hi : IntsAre vs ns) (hlen : ns.length ≤ 64) (hoff : OwnOff news [l])
  (hret : ∀ (vs' : List Value) (h' : Heap) (tk' : Nat), IntsAre vs' (insI (ltAt ns x) ns x) → Fr h₀ L h' m → News h₀ L h' ((l, listOf vs'.toArray (c + 1)) :: news) → Q .none { s with heap := h', toks := tk' }) :
  wpAny (model prog w) (ktrTop dp un gd cn cs L a ccd cl outer) (call (.ref 55) [.ref l, .int x t]) Q E s := by
  k_with_none
  w_top off
  have hMk : KstMark := kstMark
  k_with "exec While Compare cons nil" => k_while_given ["a", "x"] (fun ns x _ lo hi => BisAt (ltAt ns x) ns.length lo hi) (fun _ _ _ lo hi => (hi - lo).toNat) "lo" "hi"
  k_with "subscriptTail Name Name ref int" => (k_here; (with_reducible show wpAny _ _ (subscriptTail _ _ (Value.ref _) (Value.int _ _)) _ _ _); (with_unfolding_all refine' item_ints ?k1 ?k2 ?k3 ?k4 ?k5 ?k6 ?_ ?k7; (case k1 => k_asm); (case k2 => k_mem); (case k3 => assumption); (case k4 => exact (bisAt_mid (by assumption) (by assumption)).1); (case k5 => exact (bisAt_mid (by assumption) (by assumption)).2.1); (case k6 => omega); (case k7 => with_unfolding_all rfl); k_whole); intro t')
  k_with "call builtin:list.insert" => (k_here; (with_reducible show wpAny _ _ (call (Value.builtin _) [Value.ref _, Value.int _ _, _]) _ _ _); k_dflt (refine' kl_insert ?F ?N ?f ?e ?U ?z ?_; (case F => k_asm); (case N => k_asm); (case U => k_upd); (case f => (have hbe := bisAt_end (by assumption) (by assumption); simp only [Builtin.List.listFitsIndex, Bool.and_eq_true, decide_eq_true_eq]; have hbl := (bisV_le (ltAt ns x) ns.length 0 ns.length (by omega) (by omega)).2; omega)); (case e => exact rfl); (case z => (simp only [PySem.sizeLine_eq]; omega))); kl_rest)
  k_with "state" => first | exact bisAt_start _ _ | exact bisAt_right (by assumption) (by assumption) (decide_eq_true (by assumption)) | exact bisAt_left (by assumption) (by assumption) (decide_eq_false (by assumption))
  k_with "measure" => (have hm := bisAt_mid (by assumption) (by assumption); omega)
  refine wpAny_call ?_
  k_dflt cell_enter
  k_steps
  · rename_i lo _ _ _ _ _ _ _ h' F' N' kF kN _ _
    have e := bisAt_end (by assumption) (by assumption)
    subst e
    exact hret _ _ _ (ints_ins hi (bisV_le (ltAt ns x) ns.length 0 ns.length (by omega) (by omega)).2) kF kN
end
end
local macro_rules | `(tactic| walk_at $s:str) => `(tactic| k_extra $s)
local macro_rules | `(tactic| k_in) => `(tactic| first | with_reducible assumption | exact Frag.In.keeps (by with_reducible assumption) (Fr.keep (by with_reducible assumption)))
local macro_rules | `(tactic| walk_at "callWith ref") => `(tactic| (k_here; k_dflt (first | ((with_reducible show wpAny _ _ (callWith _ _ _ (backTo _ (starEach [] _)) []) _ _ _); refine' callWith_K0 ?k1 ?k2 ?_; (case k1 => k_in); (case k2 => k_is); k_whole) | (refine' callWith_K ?k1 ?k2 ?_; (case k1 => k_asm); (case k2 => k_is); k_whole) | (refine' callWith_KW ?k1 ?k2 ?k3 ?_; (case k1 => k_asm); (case k2 => k_is); (case k3 => exact rfl); k_whole) | (refine' callWith_M0 ?k1 ?k2 ?_; (case k1 => k_meth); (case k2 => k_is); k_whole; try dsimp only [List.nil_append, List.cons_append]))))
local macro_rules | `(tactic| k_room) => `(tactic| ktr_room)
local macro_rules | `(tactic| cell_enter) => `(tactic| (refine' enter_cells ?k1 ?k2 ?k3 ?k4 ?kr ?ka ?k5 ?kA ?kF ?kK ?k6 ?k7 ?k8 ?k9 ?kB ?kD ?_ ?c2 ?c3 ?c4; (case ka => assumption); (case kA => exact rfl); (case kF => exact rfl); (case kK => assumption); (case k1 => k_asm); (case k2 => k_asm); (case k3 => k_asm); (case k4 => k_asm); (case kr => k_asm); (case k5 => k_asm); (case k6 => k_is); (case k7 => k_is); (case k8 => ktr_room); (case k9 => first | exact BindsTo.of_eq rfl | (refine' kp_binds ?kx ?ke; (case kx => k_in); (case ke => exact fun _ => rfl)) | exact binds_K (by k_in) rfl (by k_is) rfl rfl rfl); (case kB => exact rfl); (case kD => decide +kernel); (case c2 => exact rfl); (case c3 => exact rfl); (case c4 => exact rfl); k_whole; intro g' L' h' tk' cells' FG' F' N' Y' B' X' T' l1 kept'; (try k_lt l1); k_cells Y'; (try simp only [List.cons_append, List.nil_append, List.append_nil] at N'); (try dsimp only); (try k_lift B'); (try k_fold)))
local macro_rules | `(tactic| cell_enter) => `(tactic| (refine' enter_plain ?k1 ?k2 ?k3 ?k4 ?kr ?ka ?k5 ?kA ?kF ?kK ?k6 ?k7 ?k8 ?k9 ?kB ?_ ?c2 ?c3 ?c4 ?c5; (case ka => assumption); (case kA => exact rfl); (case kF => exact rfl); (case kK => assumption); (case k1 => k_asm); (case k2 => k_asm); (case k3 => k_asm); (case k4 => k_asm); (case kr => k_asm); (case k5 => k_asm); (case k6 => k_is); (case k7 => k_is); (case k8 => ktr_room); (case k9 => first | exact BindsTo.of_eq rfl | (refine' kp_binds ?kx ?ke; (case kx => k_in); (case ke => exact fun _ => rfl)) | exact binds_K (by k_in) rfl (by k_is) rfl rfl rfl); (case c5 => decide); (case kB => exact locs rfl); (case c2 => exact rfl); (case c3 => exact rfl); (case c4 => exact rfl); k_whole; intro g' L' h' FG' F' N' B' X' T' kept'; (try dsimp only); (try k_lift B'); (try k_fold)))
local macro_rules | `(tactic| k_extra "neG") => `(tactic| first | with_reducible exact kn_gl | with_reducible exact kn_nl | with_reducible exact kn_ll | with_reducible exact kn_sl | with_reducible exact kn_g | with_reducible exact kn_l | with_reducible exact kn_n | with_reducible exact kn_s | (with_reducible refine kn_t ?_; k_extra "neG") | (with_reducible refine kn_r ?_; k_extra "neG"))
local macro_rules | `(tactic| k_extra "neA") => `(tactic| first | (rename _ ∧ _ => hz; revert hz; k_extra "neG") | (rename _ ∧ _ => hz; clear hz; k_extra "neA"))
local macro_rules | `(tactic| k_extra "neO") => `(tactic| first | with_reducible exact ne_u1 _ | with_reducible exact ne_d1 _ | with_reducible exact ne_u2 _ | with_reducible exact ne_d2 _ | with_reducible exact ne_u3 _ | with_reducible exact ne_d3 _ | with_reducible exact ne_u4 _ | with_reducible exact ne_d4 _ | with_reducible exact ne_u5 _ | with_reducible exact ne_d5 _ | with_reducible exact ne_u6 _ | with_reducible exact ne_d6 _ | with_reducible exact ne_u7 _ | with_reducible exact ne_d7 _)
local macro_rules | `(tactic| k_extra "neF") => `(tactic| with_reducible first | assumption | exact And.left (by assumption) | exact And.right (by assumption))
local macro_rules | `(tactic| k_extra "neK") => `(tactic| first | (with_reducible refine ne_lu7 ?_; k_extra "neF") | (with_reducible refine ne_ld7 ?_; k_extra "neF") | (with_reducible refine ne_lu6 ?_; k_extra "neF") | (with_reducible refine ne_ld6 ?_; k_extra "neF") | (with_reducible refine ne_lu5 ?_; k_extra "neF") | (with_reducible refine ne_ld5 ?_; k_extra "neF") | (with_reducible refine ne_lu4 ?_; k_extra "neF") | (with_reducible refine ne_ld4 ?_; k_extra "neF") | (with_reducible refine ne_lu3 ?_; k_extra "neF") | (with_reducible refine ne_ld3 ?_; k_extra "neF") | (with_reducible refine ne_lu2 ?_; k_extra "neF") | (with_reducible refine ne_ld2 ?_; k_extra "neF") | (with_reducible refine ne_lu1 ?_; k_extra "neF") | (with_reducible refine ne_ld1 ?_; k_extra "neF"))
local macro_rules | `(tactic| k_ne) => `(tactic| (refine neN ?_; (try dsimp only); first | k_extra "neO" | with_reducible assumption | with_reducible exact Ne.symm (by assumption) | with_reducible exact Nat.ne_of_gt (by assumption) | with_reducible exact Nat.ne_of_lt (by assumption) | k_extra "neA" | k_extra "neK" | omega))
local macro_rules | `(tactic| k_extra "cl") => `(tactic| ((repeat (rename @Ne Nat _ _ ∧ _ => hz; clear hz)); (repeat (rename (@Ne Nat _ _ ∧ _) ∧ _ => hz; clear hz)); (repeat (rename @Ne Nat _ _ => hz; clear hz))))
local macro_rules | `(tactic| omega) => `(tactic| first | (k_extra "cl"; omega (config := {})) | omega (config := {}))
section
variable {prog : Program} {w : World} {p : Program} {loose : List Str} {mean : ExcName → Option Value} {mg mb : Str → Option Value} 
  {dp un : Nat} {gd : Option (List Code)} {cn : Str} {cs : Scope} {L a : Addr} {ccd : Value} {cl : List (Str × Addr)} {outer : List Env} {A₀ : Around} {base h₀ : Heap} {m : Str → Option Value} {s : Shared} {Q E : Value → Shared → Prop} {news : List (Addr × Obj)}
theorem news_tl {h : Heap} {q : Addr × Obj} {r : List (Addr × Obj)} (N : News h₀ L h (q :: r)) : News h₀ L h r := fun p hp => N p (.tail _ hp)
theorem news_hd {h : Heap} {q : Addr × Obj} {r : List (Addr × Obj)} (N : News h₀ L h (q :: r)) : News h₀ L h [q] := fun p hp => N p (by rw [List.mem_singleton.mp hp]; exact .head _)
theorem news_swap {h : Heap} {q q' : Addr × Obj} {r : List (Addr × Obj)} (N : News h₀ L h (q :: q' :: r)) : News h₀ L h (q' :: q :: r) := fun p hp => N p (by
  rcases List.mem_cons.mp hp with rfl | hp
  · exact .tail _ (.head _)
  · rcases List.mem_cons.mp hp with rfl | hp
    · exact .head _
    · exact .tail _ (.tail _ hp))
theorem apart_one {a b : Addr} {o o' : Obj} (h : b ≠ a) : Apart [(a, o)] [(b, o')] := fun p hp hm => by
  rw [List.mem_singleton.mp hp] at hm
  exact h (by simpa using hm)
theorem oo_nil {l : Addr} : OwnOff [] [l] := fun _ h => nomatch h
theorem oo_cons {x l : Addr} {o : Obj} {r : List (Addr × Obj)} (h : x ≠ l) (hr : OwnOff r [l]) : OwnOff ((x, o) :: r) [l] := by
  intro p hp b hb
  rcases List.mem_cons.mp hp with rfl | hp
  · rw [List.mem_singleton.mp hb]; exact h
  · exact hr p hp b hb
theorem oo_own {l : Addr} {own : List (Addr × Obj)} {adr : List Addr} (h : OwnOff own adr) (hm : l ∈ adr) : OwnOff own [l] := fun p hp b hb => by
  rw [List.mem_singleton.mp hb]; exact h p hp l hm
theorem append_hd {A : Around} {l : Addr} {vs : List Value} {c : Nat} {v : Value} {rest : List (Addr × Obj)} (F : Fr h₀ L s.heap m) (N : News h₀ L s.heap ((l, listOf vs.toArray c) :: rest)) (off : OwnOff rest [l]) (hz : vs.length ≤ 1000)
    (h : ∀ h', Fr h₀ L h' m → News h₀ L h' ((l, listOf (vs ++ [v]).toArray (c + 1)) :: rest) → Q .none { s with heap := h' }) : wpAny (model prog w) A (call (.builtin "list.append") [.ref l, v]) Q E s := by
  refine append_K F N (Upd.head fun p hp => off p hp l (List.mem_singleton.mpr rfl)) (fun h' F' N' => h h' F' ?_) (by rw [List.size_toArray, sizeLine_eq]; omega)
  rw [List.push_toArray] at N'
  exact N'
end
section
variable {prog : Program} {w : World} {p : Program} {loose : List Str} {mean : ExcName → Option Value} {mg mb : Str → Option Value} 
  {dp un : Nat} {gd : Option (List Code)} {cn : Str} {cs : Scope} {L a : Addr} {ccd : Value} {cl : List (Str × Addr)} {outer : List Env} {A₀ : Around} {base h₀ : Heap} {m : Str → Option Value} {s : Shared} {Q E : Value → Shared → Prop} {news : List (Addr × Obj)}
def Dom (r s w : Int) : Prop := 5 ≤ r ∧ r ≤ 19 ∧ 1 ≤ s ∧ s < r ∧ 2 ≤ w ∧ w < r
def backStep (r s : Int) (acc : List Int) (k : Int) : List Int := if Int.fmod (k * s) r = 1 then acc ++ [k] else acc
def backs (r s : Int) : List Int := (rangeKs 1 (r - 1).toNat).foldl (backStep r s) []
theorem backStep_grows (r s : Int) : KPfGrows (backStep r s) := by
  intro l k
  unfold backStep
  split <;> simp
theorem backs_fold (r s : Int) : ∀ (l acc : List Int), (l.foldl (backStep r s) acc).length ≤ l.length + acc.length
  | [], acc => by simp
  | k :: l, acc => by
    have h := backs_fold r s l (backStep r s acc k)
    have h2 : (backStep r s acc k).length ≤ acc.length + 1 := by unfold backStep; split <;> simp
    simp only [List.foldl_cons, List.length_cons]; omega
theorem rangeKs_len1 (a : Int) : ∀ n : Nat, (rangeKs a n).length = n := by
  intro n
  simp [rangeKs]
theorem backs_le (r s : Int) : (backs r s).length ≤ (r - 1).toNat := by
  have h := backs_fold r s (rangeKs 1 (r - 1).toNat) []
  rw [rangeKs_len1] at h
  simpa [backs] using h
theorem item_list {news' : List (Addr × Obj)} {A : Around} {l : Addr} {vs : List Value} {ns : List Int} {k : Int} {u : Tok} {value slice : PySem.Expr} (N : News h₀ L s.heap news') (hm : (l, LCg.lst vs) ∈ news') (hi : IntsAre vs ns) (h0 : 0 ≤ k) (hk : k < ns.length) (hn : ns.length < 2 ^ 62)
    (h : ∀ t, Q (.int (ns.getD k.toNat 0) t) s)
    (hs : subscripted slice false (.ref l) (.int k u) = operate [.ref l, .int k u] (getItem (.ref l) (.int k u)) := by with_unfolding_all rfl) :
    wpAny (model prog w) A (subscriptTail value slice (.ref l) (.int k u)) Q E s := item_ints N hm hi h0 hk hn h hs
def ptStep (r bk : Int) (acc : List Int) (j : Int) : List Int := insI (ltAt acc (Int.fmod (j * bk) r)) acc (Int.fmod (j * bk) r)
def ptsF (r bk : Int) (pre : List Int) : List Int := pre.foldl (ptStep r bk) []
theorem ptsF_snoc (r bk : Int) (pre : List Int) (k : Int) : ptsF r bk (pre ++ [k]) = insI (ltAt (ptsF r bk pre) (Int.fmod (k * bk) r)) (ptsF r bk pre) (Int.fmod (k * bk) r) := by
  unfold ptsF; rw [List.foldl_append]; rfl
theorem insI_length (go : Nat → Bool) (ns : List Int) (x : Int) : (insI go ns x).length = ns.length + 1 := by
  have h := (bisV_le go ns.length 0 ns.length (by omega) (by omega)).2
  unfold insI
  rw [List.length_append, List.length_cons, List.length_take, List.length_drop]
  omega
theorem fold_len (r bk : Int) : ∀ (pre acc : List Int), (pre.foldl (ptStep r bk) acc).length = acc.length + pre.length
  | [], acc => by simp
  | k :: pre, acc => by
    rw [List.foldl_cons, fold_len r bk pre, List.length_cons]
    unfold ptStep
    rw [insI_length]; omega
theorem ptsF_len (r bk : Int) (pre : List Int) : (ptsF r bk pre).length = pre.length := by
  unfold ptsF; rw [fold_len]; simp
def AllB (ns : List Int) : Prop := ∀ x ∈ ns, 0 ≤ x ∧ x ≤ 19
theorem allB_insI {go : Nat → Bool} {ns : List Int} {x : Int} (h : AllB ns) (hx : 0 ≤ x ∧ x ≤ 19) : AllB (insI go ns x) := by
  intro y hy
  unfold insI at hy
  rcases List.mem_append.mp hy with hy | hy
  · exact h y (List.mem_of_mem_take hy)
  · rcases List.mem_cons.mp hy with rfl | hy
    · exact hx
    · exact h y (List.mem_of_mem_drop hy)
theorem fmod_bd {a r : Int} (h1 : 1 ≤ r) (h2 : r ≤ 19) : 0 ≤ Int.fmod a r ∧ Int.fmod a r ≤ 19 := by
  have e : Int.fmod a r = a % r := Int.fmod_eq_emod_of_nonneg _ (by omega)
  rw [e]
  have := Int.emod_nonneg a (show r ≠ 0 by omega)
  have := Int.emod_lt_of_pos a (show 0 < r by omega)
  omega
theorem allB_fold {r bk : Int} (h1 : 1 ≤ r) (h2 : r ≤ 19) : ∀ (pre acc : List Int), AllB acc → AllB (pre.foldl (ptStep r bk) acc)
  | [], _, h => h
  | k :: pre, acc, h => by
    rw [List.foldl_cons]
    exact allB_fold h1 h2 pre _ (allB_insI h (fmod_bd h1 h2))
theorem allB_pts {r bk : Int} (h1 : 1 ≤ r) (h2 : r ≤ 19) (pre : List Int) : AllB (ptsF r bk pre) := allB_fold h1 h2 pre [] fun _ h => nomatch h
theorem allB_ends {r bk : Int} (h1 : 1 ≤ r) (h2 : r ≤ 19) (pre : List Int) : AllB (List.drop 1 (ptsF r bk pre) ++ [r]) := by
  intro y hy
  rcases List.mem_append.mp hy with hy | hy
  · exact allB_pts h1 h2 pre y (List.mem_of_mem_drop hy)
  · rw [List.mem_singleton.mp hy]; omega
theorem item_bd {news' : List (Addr × Obj)} {A : Around} {l : Addr} {vs : List Value} {ns : List Int} {c : Nat} {k : Int} {u : Tok} {value slice : PySem.Expr} (N : News h₀ L s.heap news') (hm : (l, listOf vs.toArray c) ∈ news') (hi : IntsAre vs ns) (ha : AllB ns) (h0 : 0 ≤ k) (hk : k < ns.length) (hn : ns.length < 2 ^ 62)
    (h : ∀ t, 0 ≤ ns.getD k.toNat 0 → ns.getD k.toNat 0 ≤ 19 → Q (.int (ns.getD k.toNat 0) t) s)
    (hs : subscripted slice false (.ref l) (.int k u) = operate [.ref l, .int k u] (getItem (.ref l) (.int k u)) := by with_unfolding_all rfl) :
    wpAny (model prog w) A (subscriptTail value slice (.ref l) (.int k u)) Q E s := by
  have hm' : ns.getD k.toNat 0 ∈ ns := by
    rw [List.getD_eq_getElem?_getD, List.getElem?_eq_getElem (by omega)]
    exact List.getElem_mem _
  exact item_ints N hm hi h0 hk hn (fun t => h t (ha _ hm').1 (ha _ hm').2) hs
theorem sum_le_mul (B : Nat) : ∀ (l : List Str), (∀ x ∈ l, x.length ≤ B) → (l.map (·.length)).sum ≤ l.length * B
  | [], _ => by simp
  | x :: l, h => by
    have h1 := sum_le_mul B l fun y hy => h y (.tail _ hy)
    have h2 := h x (.head _)
    rw [List.map_cons, List.sum_cons, List.length_cons, Nat.add_mul]
    omega
theorem join_le {D : Addr} {ys : List Value} {l : List Int} {g : Int → Str} {A : Around} {x : Str} {t : Tok} (hl : s.heap.IsList D ys.toArray) (hc : CarriedAll ys (l.map fun a => PyData.str (g a))) (hn : l.length ≤ 64) (hB : ∀ a ∈ l, (g a).length ≤ 64) (hx : x.length ≤ 16)
    (h : ∀ t' k, Q (.str (Txt.join x (l.map g)) t') { s with toks := k }) : wpAny (model prog w) A (call (.builtin "str.join") [.str x t, .ref D]) Q E s := by
  have hc' : CarriedAll ys ((l.map g).map PyData.str) := by rw [List.map_map]; exact hc
  have hs := sum_le_mul 64 (l.map g) (fun y hy => by obtain ⟨a, ha, rfl⟩ := List.mem_map.mp hy; exact hB a ha)
  rw [List.length_map] at hs
  refine join_listW hl (StrsAre.of_carried hc') hx ?_ h
  rw [List.length_map]
  omega
theorem ct_end {I C D : Addr} {oI oC oD : Obj} {S : List (Addr × Obj) → Prop} {s₁ : Shared} {h' : Heap} {tk : Nat} {r : Str} {x : Str} {t : Tok} (F : Fr h₀ L h' m) (N : News h₀ L h' ((I, oI) :: (C, oC) :: (D, oD) :: news)) (off : LCg.Off3 I C D news) (hS : S news) (e : r = x) :
    LCg.CompEnd h₀ L m s₁ I oI C oC D oD S (fun y news' => KCtEl news r y news') (.str x t) { s₁ with heap := h', toks := tk } := ⟨h', tk, news, rfl, F, N, off, hS, rfl, t, by rw [e]⟩
def bkF (r s : Int) : Int := (backs r s).getD 0 0
def ptsOf (r s w : Int) : List Int := ptsF r (bkF r s) (rangeKs 0 (w - 0).toNat)
def endsOf (r s w : Int) : List Int := List.drop 1 (ptsOf r s w) ++ [r]
def cellS (r s w k : Int) : Str := Txt.mul (Str.ofString " ") ((endsOf r s w).getD k.toNat 0 - (ptsOf r s w).getD k.toNat 0 - 1) ++ Str.ofString "\t"
def leadS (r s w : Int) : Str := Txt.join (Str.ofString "") ((rangeKs 0 (w - 0).toNat).map (cellS r s w))
theorem getD_bd {ns : List Int} (h : AllB ns) (i : Nat) : 0 ≤ ns.getD i 0 ∧ ns.getD i 0 ≤ 19 := by
  rw [List.getD_eq_getElem?_getD]
  cases e : ns[i]? with
  | none => simp
  | some x => exact h x (List.mem_of_getElem? e)
theorem cellS_le {r s w : Int} (h1 : 1 ≤ r) (h2 : r ≤ 19) (k : Int) : (cellS r s w k).length ≤ 64 := by
  have hE : AllB (endsOf r s w) := allB_ends h1 h2 _
  have hP : AllB (ptsOf r s w) := allB_pts h1 h2 _
  have a := getD_bd hE k.toNat
  have b := getD_bd hP k.toNat
  unfold cellS
  rw [Str.length_append]
  have e9 : (PySem.Str.ofString "\t").length = 1 := by decide
  have e8 : (PySem.Str.ofString " ").length = 1 := by decide
  have e := len_mul (PySem.Str.ofString " ") ((endsOf r s w).getD k.toNat 0 - (ptsOf r s w).getD k.toNat 0 - 1)
  rw [e8] at e
  rw [e9]
  split at e <;> omega
set_option maxRecDepth 100000 in
set_option maxHeartbeats 2000000 in
theorem lead_spec {ring step wide : Int} {t1 t2 t3 : Tok}
  (B : Below A₀ base outer h₀) (F : Fr h₀ L s.heap m) (X : (Mine.hd.heap_39 w.params).In h₀) (N : News h₀ L s.heap news) (T : Top p loose mean mg mb h₀) (hk : cs.kind = .function)
  (hd : dp + 8 < recursionLimit) (hu : un + 60 < cLine)
  (hb : 5 ≤ ring ∧ ring ≤ 19 ∧ 1 ≤ step ∧ step < ring ∧ 2 ≤ wide ∧ wide < ring)
  (hback : 0 < (backs ring step).length)
  (hret : ∀ (u : Tok) (h' : Heap) (tk' : Nat), Fr h₀ L h' m → News h₀ L h' news → Q (.str (leadS ring step wide) u) { s with heap := h', toks := tk' }) :
  wpAny (model prog w) (ktrTop dp un gd cn cs L a ccd cl outer) (call (.ref 149) [.int ring t1, .int step t2, .int wide t3]) Q E s := by
  k_with_none
  w_top off
  have hAp : Apart [] news := apart_nil
  have hTo : News h₀ L s.heap [] := News.nil
  k_with "CompSrcT" => (k_here; k_dflt (refine LCt.CompSrcT.range (by rfl) (by k_asm) (by k_asm) (by assumption) (by exact small_one (by omega) (by omega) (by omega) (by omega)) (by exact rangeSize_nat _ _) (by (rw [PySem.sizeLine_eq]; omega)) ?_); intro g'; (refine' kci_range (backStep ring step) (fun k' t' I' oI' C' oC' D' m' ys' l' h' tk' E' hlo' hhi' hI' hC' hx' F' N' off' ne' => ?_) ?_ ?_); (all_goals (try (simp only [LCg.Off3, and_true] at off'))); (all_goals (try ((show KPfMark → _); intro hMark'))); kcf_last)
  k_with "KPfGrows" => exact backStep_grows _ _
  k_with "exec For Name Call cons nil" => (k_here; (rename Fr _ _ _ _ => lF'); (with_unfolding_all refine' For_invVF lF' ?k1 ?k2 ?_; (case k1 => exact rfl); (case k2 => exact rfl); k_whole))
  k_with "pyIter ref" =>
    (k_here; (with_reducible show wpAny _ _ (pyIter (Value.ref _)) (fun it s₂ => LoopAtV _ _ _ _ _ _ _ _ _ it s₂) _ _); (rename Fr _ _ _ _ => lF'); (rename News _ _ _ _ => lN'); (rename IsRange _ _ _ _ _ _ _ _ => rgX);
     (with_unfolding_all refine' kst_range (σ := List Value × Nat) (fun c => (_, listOf c.1.toArray c.2) :: _) (fun _ => []) (fun _ => True) [] (fun pre c => IntsAre c.1 (ptsF ring ((backs ring step).getD (Int.toNat 0) 0) pre)) ([], 0) (by rfl) rgX (by exact small_one (by omega) (by omega) (by omega) (by omega)) (by exact rangeSize_nat _ _) lF' lN' trivial (fun _ h => nomatch h) IntsAre.nil ?_ ?_);
     (all_goals clear lF' lN'); 
     (focus (intro kC kPre kN kT kU kH kTk kOwn kEq kLt kOff kFacts kInv kFr kNews; obtain ⟨kV, kCn⟩ := kC; (dsimp only [kstB, envOfC] at kFr); (dsimp only [envOfC] at kNews); (simp only [List.map_cons, List.map_nil] at kOff); (dsimp only at kInv); (simp only [List.nil_append, List.cons_append, List.append_nil] at kNews); (try k_fold)));
     (rotate_left 1);
     (focus (intro kC kU kH kTk kFacts kInv kFr kNews; obtain ⟨kV, kCn⟩ := kC; (dsimp only [kstB, envOfC] at kFr); (dsimp only [envOfC] at kNews); (dsimp only at kInv); (have hLen := IntsAre.length kInv); (rw [ptsF_len, rangeKs_length] at hLen); (try k_fold)));
     (rotate_left 1))
  k_with "call builtin:str.join" => ((with_reducible show wpAny _ _ (call (Value.builtin "str.join") [Value.str _ _, Value.ref _]) _ _ _); (with_reducible rename CarriedAll _ (List.map _ _) => ktC); (refine join_le (l := rangeKs 0 (wide - 0).toNat) (g := cellS ring step wide) (by first | assumption | is_list | exact News.isList (by k_asm) (by k_mem)) ktC (by rw [rangeKs_length]; omega) (fun k _ => cellS_le hr1 hr2 k) (by decide) ?_); intro t9 k9)
  k_with "InvEndN" => (rename News _ _ _ _ => nE'; (with_unfolding_all refine' kst_end (σ := List Value × Nat) (vs', kCn + 1) ?kf nE' ?ki ?ko ?ka trivial (fun _ h => nomatch h) ?ks ?kp); (case kf => assumption); (case ki => kst_in); (case ko => (intro p hp; kst_mem)); (case ka => rfl); (case ks => (intro z h1 h2 h3; show (if z = _ then _ else _) = _; rw [if_neg h1]; with_unfolding_all rfl)); (case kp => (dsimp only; rw [ptsF_snoc]; exact hI')))
  have hr1 : 1 ≤ ring := by omega
  have hr2 : ring ≤ 19 := by omega
  k_with "subscriptTail Name Name ref int" => (k_here; (with_reducible show wpAny _ _ (subscriptTail _ _ (Value.ref _) (Value.int _ _)) _ _ _); (with_unfolding_all refine' item_bd ?k1 ?k2 ?k3 ?ka ?k4 ?k5 ?k6 ?_ ?k7; (case k1 => k_asm); (case k2 => k_mem); (case k3 => assumption); (case ka => first | exact allB_pts hr1 hr2 _ | exact allB_ends hr1 hr2 _); (case k4 => omega); (case k5 => (simp only [List.length_append, List.length_drop, ptsF_len, rangeKs_length, List.length_cons, List.length_nil]; omega)); (case k6 => (simp only [List.length_append, List.length_drop, ptsF_len, rangeKs_length, List.length_cons, List.length_nil]; omega)); (case k7 => with_unfolding_all rfl); k_whole); intro t' hlo9 hhi9)
  k_with "CompSrc" => (k_here; k_dflt (refine LCg.CompSrc.range (by rfl) (by k_asm) (by k_asm) (by assumption) (by exact small_one (by omega) (by omega) (by omega) (by omega)) (by exact rangeSize_nat _ _) (by (rw [PySem.sizeLine_eq]; omega)) ?_); intro g'; (refine' kct_range (cellS ring step wide) (fun k' t' I' oI' C' oC' D' m' ys' h' tk' E' hlo' hhi' hC' hx' F' N' off' ne' hMark' => ?_) ?_); kcf_last)
  k_with "CompEnd" => (with_unfolding_all exact ct_end (by k_asm) (by k_asm) (by assumption) trivial rfl)
  k_with "binaryOp Mult str int" => ((with_reducible show wpAny _ _ (binaryOp Operator.Mult (Value.str _ _) (Value.int _ _)) _ _ _); (refine KXi.mul (n := 1) (by decide) (by decide) (by omega) (by omega) ?_); intro t9 k9 hm9 hn9)
  k_with "binaryOp Add str str" => ((with_reducible show wpAny _ _ (binaryOp Operator.Add (Value.str _ _) (Value.str _ _)) _ _ _); (refine SBL.add (hsz := ?hsz) ?_); (case hsz => (simp only [sizeLine_eq]; rw [Str.length_append]; (have e9 : (PySem.Str.ofString "\t").length = 1 := by decide); rw [e9]; omega)); intro t9 k9 e9)
  k_with "binaryOp Add ref ref" => (k_here; (with_reducible show wpAny _ _ (binaryOp _ (Value.ref _) (Value.ref _)) _ _ _); k_dflt (refine' kmk_add_ints ?F ?N ?a ?b ?i ?j ?_ ?z; (case F => k_asm); (case N => k_asm); (case a => kmk_list); (case b => kmk_list); (case i => l_ints); (case j => l_ints); (case z => (simp only [List.length_drop, ptsF_len, rangeKs_length, List.length_cons, List.length_nil, sizeLine_eq]; omega))); intro D' ws' h' F' N' l1 hI'; (try k_lt l1); (try k_sweep))
  k_with "call ref" => ((with_reducible show wpAny _ _ (call (Value.ref 55) _) _ _ _); ((with_unfolding_all refine' insl_spec ?kB ?kF ?kX ?kN ?kT ?kK ?kd ?ku ?ki ?kl ?ko ?_); (case kB => k_asm); (case kF => k_asm); (case kX => k_asm); (case kN => k_asm); (case kT => k_asm); (case kK => exact rfl); (case kd => ktr_room); (case ku => ktr_units); (case ki => assumption); (case kl => (rw [ptsF_len]; omega)); (case ko => (repeat' (first | exact oo_own kOff List.mem_cons_self | refine oo_cons (by k_ne) ?_))); intro vs' h' tk' hI' F' N'; (try dsimp only); (try k_fold)))
  k_with "subscriptTail ListComp" => (k_here; (with_reducible show wpAny _ _ (subscriptTail _ _ (Value.ref _) (Value.int 0 _)) _ _ _); (with_unfolding_all refine' item_list (ns := backs ring step) ?k1 ?k2 ?k3 ?k4 ?k5 ?k6 ?_ ?k7; (case k1 => k_asm); (case k2 => k_mem); (case k3 => assumption); (case k4 => decide); (case k5 => omega); (case k6 => (have hbl := backs_le ring step; omega)); (case k7 => with_unfolding_all rfl); k_whole); intro t')
  refine wpAny_call ?_
  w_strict (k_dflt cell_enter)
  k_steps
  with_unfolding_all exact hret _ _ _ (by assumption) (rest_only N (by assumption) (by assumption))
end
section
variable {prog : Program} {w : World} {p : Program} {loose : List Str} {mean : ExcName → Option Value} {mg mb : Str → Option Value} 
  {dp un : Nat} {gd : Option (List Code)} {cn : Str} {cs : Scope} {L a : Addr} {ccd : Value} {cl : List (Str × Addr)} {outer : List Env} {A₀ : Around} {base h₀ : Heap} {m : Str → Option Value} {s : Shared} {Q E : Value → Shared → Prop} {news : List (Addr × Obj)}
def waysStep (r s w : Int) (st : List Int × Int) (t : Int) : List Int × Int :=
  if Int.fmod (t * s) r < w then (st.1 ++ [64 * st.2 + Int.fmod (t * s) r], 0) else (st.1, 64 * st.2 + Int.fmod (t * s) r)
def waysF (r s w : Int) (pre : List Int) : List Int × Int := pre.foldl (waysStep r s w) ([], 0)
def waysOf (r s w : Int) : List Int := (waysF r s w (rangeKs 1 (r + 1 - 1).toNat)).1
theorem waysF_snoc (r s w : Int) (pre : List Int) (t : Int) : waysF r s w (pre ++ [t]) = waysStep r s w (waysF r s w pre) t := by
  unfold waysF; rw [List.foldl_append]; rfl
def WaysAt (r s w : Int) (pre ways : List Int) (way : Int) : Prop := waysF r s w pre = (ways, way) ∧ ways.length ≤ pre.length
theorem waysOf_eq {r s w : Int} {ns : List Int} {way : Int} {vs : List Value} (h : WaysAt r s w (rangeKs 1 (r + 1 - 1).toNat) ns way) (hi : IntsAre vs ns) : IntsAre vs (waysOf r s w) := by
  unfold waysOf; rw [h.1]; exact hi
theorem ways_start (r s w : Int) : WaysAt r s w [] [] 0 := ⟨rfl, Nat.le_refl _⟩
theorem ways_hit {r s w : Int} {pre ways : List Int} {way t : Int} (h : WaysAt r s w pre ways way) (ht : Int.fmod (t * s) r < w) : WaysAt r s w (pre ++ [t]) (ways ++ [64 * way + Int.fmod (t * s) r]) 0 := by
  obtain ⟨h1, h2⟩ := h
  refine ⟨?_, by simp; omega⟩
  rw [waysF_snoc, h1]
  unfold waysStep
  rw [if_pos ht]
theorem ways_miss {r s w : Int} {pre ways : List Int} {way t : Int} (h : WaysAt r s w pre ways way) (ht : ¬ Int.fmod (t * s) r < w) : WaysAt r s w (pre ++ [t]) ways (64 * way + Int.fmod (t * s) r) := by
  obtain ⟨h1, h2⟩ := h
  refine ⟨?_, by simp; omega⟩
  rw [waysF_snoc, h1]
  unfold waysStep
  rw [if_neg ht]
set_option maxRecDepth 100000 in
set_option maxHeartbeats 600000 in
theorem ways_spec {ring step wide : Int} {t1 t2 t3 : Tok}
  (B : Below A₀ base outer h₀) (F : Fr h₀ L s.heap m) (X : (Mine.hd.heap_39 w.params).In h₀) (N : News h₀ L s.heap news) (T : Top p loose mean mg mb h₀) (hk : cs.kind = .function)
  (hd : dp + 8 < recursionLimit) (hu : un + 60 < cLine)
  (hb : 5 ≤ ring ∧ ring ≤ 19 ∧ 1 ≤ step ∧ step < ring ∧ 2 ≤ wide ∧ wide < ring)
  (hret : ∀ (a' : Addr) (vs : List Value) (c : Nat) (h' : Heap) (tk' : Nat), IntsAre vs (waysOf ring step wide) → Fr h₀ L h' m → News h₀ L h' ((a', listOf vs.toArray c) :: news) → LCg.Off1 a' news → Q (.ref a') { s with heap := h', toks := tk' }) :
  wpAny (model prog w) (ktrTop dp un gd cn cs L a ccd cl outer) (call (.ref 163) [.int ring t1, .int step t2, .int wide t3]) Q E s := by
  k_with_none
  w_top off
  have hAp : Apart [] news := apart_nil
  have hTo : News h₀ L s.heap [] := News.nil
  k_with "pyIter ref" =>
    (k_here; (with_reducible show wpAny _ _ (pyIter (Value.ref _)) (fun it s₂ => LoopAtV _ _ _ _ _ _ _ _ _ it s₂) _ _); (rename Fr _ _ _ _ => lF'); (rename News _ _ _ _ => lN'); (rename IsRange _ _ _ _ _ _ _ _ => rgX);
     (with_unfolding_all refine' kst_range (σ := List Value × Nat × Int × Tok) (fun c => (_, listOf c.1.toArray c.2.1) :: _) (fun c => [(Str.ofString "way", Value.int c.2.2.1 c.2.2.2)]) (fun _ => True) [] (fun pre c => ∃ ns, IntsAre c.1 ns ∧ WaysAt ring step wide pre ns c.2.2.1) ([], 0, 0, _) (by rfl) rgX (by exact small_one (by omega) (by omega) (by omega) (by omega)) (by exact rangeSize_nat _ _) lF' lN' trivial ?kk ⟨[], IntsAre.nil, ways_start _ _ _⟩ ?_ ?_);
     (case kk => kst_all);
     (all_goals clear lF' lN');
     (focus (intro kC kPre kN kT kU kH kTk kOwn kEq kLt kOff kFacts kInv kFr kNews; obtain ⟨kV, kCn, kW, kWt⟩ := kC; obtain ⟨kNs, kI, kInv⟩ := kInv; (dsimp only [kstB, envOf] at kFr); (dsimp only [envOf] at kNews); (dsimp only at kI kInv); (simp only [List.map_cons, List.map_nil] at kOff); (simp only [List.nil_append, List.cons_append, List.append_nil] at kNews); (try k_fold)));
     (rotate_left 1);
     (focus (intro kC kU kH kTk kFacts kInv kFr kNews; obtain ⟨kV, kCn, kW, kWt⟩ := kC; obtain ⟨kNs, kI, kInv⟩ := kInv; (dsimp only [kstB, envOf] at kFr); (dsimp only [envOf] at kNews); (dsimp only at kI kInv); (try k_fold)));
     (rotate_left 1))
  k_with "call builtin:list.append" => ((with_reducible show wpAny _ _ (call (Value.builtin "list.append") [Value.ref _, _]) _ _ _); (with_unfolding_all refine' append_hd ?F ?N ?o ?z ?_); (case F => k_asm); (case N => k_asm); (case o => exact oo_own kOff List.mem_cons_self); (case z => ((have hl9 := kI.length); (have hl8 := kInv.2); omega)); intro h' F' N'; (try dsimp only); (try k_fold))
  k_with "InvEndN" => (rename News _ _ _ _ => nE'; (with_unfolding_all first
    | (refine' kst_end (σ := List Value × Nat × Int × Tok) (kV ++ [.int (64 * kW + Int.fmod (kN * step) ring) _], kCn + 1, 0, _) ?kf nE' ?ki ?ko ?ka trivial ?kk ?ks ?kp; (case kf => assumption); (case ki => kst_in); (case ko => (intro p hp; kst_mem)); (case ka => rfl); (case kk => kst_all); (case ks => kst_same); (case kp => exact ⟨_, kI.append (.cons _ _ .nil), ways_hit kInv (by assumption)⟩))
    | (refine' kst_end (σ := List Value × Nat × Int × Tok) (kV, kCn, 64 * kW + Int.fmod (kN * step) ring, _) ?kf nE' ?ki ?ko ?ka trivial ?kk ?ks ?kp; (case kf => assumption); (case ki => kst_in); (case ko => (intro p hp; kst_mem)); (case ka => rfl); (case kk => kst_all); (case ks => kst_same); (case kp => exact ⟨_, kI, ways_miss kInv (by assumption)⟩))))
  refine wpAny_call ?_
  w_strict (k_dflt cell_enter)
  k_steps
  all_goals (try k_data)
  with_unfolding_all exact hret _ _ _ _ _ (waysOf_eq kInv kI) (by assumption) (join_rest (made := [_]) N (by assumption) (by assumption) (by assumption)) (off_rest (by assumption) (by assumption) List.mem_cons_self)
end
section
variable {prog : Program} {w : World} {p : Program} {loose : List Str} {mean : ExcName → Option Value} {mg mb : Str → Option Value} 
  {dp un : Nat} {gd : Option (List Code)} {cn : Str} {cs : Scope} {L a : Addr} {ccd : Value} {cl : List (Str × Addr)} {outer : List Env} {A₀ : Around} {base h₀ : Heap} {m : Str → Option Value} {s : Shared} {Q E : Value → Shared → Prop} {news : List (Addr × Obj)}
def smallI (v : Int) : Bool := decide (v.natAbs < 2 ^ 200)
theorem bits_small {v : Int} (h : smallI v = true) : (Builtin.Int.intBits v : Int) + 6 ≤ 2 ^ 27 := by
  unfold smallI at h
  have h' := of_decide_eq_true h
  have : Builtin.Int.intBits v ≤ 200 := by
    unfold Builtin.Int.intBits
    split
    · omega
    · rename_i hz
      have hn : v.natAbs ≠ 0 := fun e => hz (by rw [Int.natAbs_eq_zero.mp e]; rfl)
      have := (Nat.log2_lt hn).mpr h'
      omega
  omega
/-- the digits of a number to the base 64, the first one taken -/
def vgo (val b : Int) : List Int → Option (Int × List Int)
  | [] => if smallI val then (if Builtin.bitAnd b 64 = 0 then some (val, []) else none) else none
  | b' :: r => if smallI val then (if Builtin.bitAnd b 64 = 0 then some (val, b' :: r) else vgo (Builtin.bitOr (val * 64) (Builtin.bitAnd b' 63)) b' r) else none
def vparse : List Int → Option (Int × List Int)
  | [] => none
  | b :: r => vgo (Builtin.bitAnd b 63) b r
theorem vgo_small {val b : Int} : ∀ {r : List Int} {x : Int × List Int}, vgo val b r = some x → smallI val = true
  | [], x, h => by unfold vgo at h; split at h <;> simp_all
  | _ :: _, x, h => by unfold vgo at h; split at h <;> simp_all
theorem vgo_end {val b : Int} {r : List Int} {x : Int × List Int} (h : vgo val b r = some x) (hb : Builtin.bitAnd b 64 = 0) : x = (val, r) := by
  have hs := vgo_small h
  cases r with
  | nil => unfold vgo at h; rw [if_pos hs, if_pos hb] at h; exact (Option.some.inj h).symm
  | cons b' r => unfold vgo at h; rw [if_pos hs, if_pos hb] at h; exact (Option.some.inj h).symm
theorem vgo_more {val b : Int} {r : List Int} {x : Int × List Int} (h : vgo val b r = some x) (hb : ¬ Builtin.bitAnd b 64 = 0) : ∃ b' r', r = b' :: r' ∧ vgo (Builtin.bitOr (val * 64) (Builtin.bitAnd b' 63)) b' r' = some x := by
  have hs := vgo_small h
  cases r with
  | nil => unfold vgo at h; rw [if_pos hs, if_neg hb] at h; cases h
  | cons b' r => unfold vgo at h; rw [if_pos hs, if_neg hb] at h; exact ⟨b', r, rfl, h⟩
/-- the loop's word: what is to come, and the places -/
def VarAt (ns : List Int) (x : Int × List Int) (b val : Int) (j : Nat) : Prop := vgo val b (ns.drop j) = some x ∧ j ≤ ns.length
theorem varAt_start {ns : List Int} {x : Int × List Int} {i : Nat} (h : vparse (ns.drop i) = some x) (hlt : i < ns.length) : VarAt ns x (ns.getD i 0) (Builtin.bitAnd (ns.getD i 0) 63) (i + 1) := by
  have e : ns.drop i = ns.getD i 0 :: ns.drop (i + 1) := by
    rw [List.drop_eq_getElem_cons hlt, List.getD_eq_getElem?_getD, List.getElem?_eq_getElem hlt]; rfl
  rw [e] at h
  exact ⟨h, hlt⟩
theorem varAt_lt {ns : List Int} {x : Int × List Int} {b val : Int} {j : Nat} (h : VarAt ns x b val j) (hb : ¬ Builtin.bitAnd b 64 = 0) : j < ns.length := by
  obtain ⟨b', r', e, _⟩ := vgo_more h.1 hb
  have := congrArg List.length e
  rw [List.length_drop, List.length_cons] at this
  omega
theorem varAt_next {ns : List Int} {x : Int × List Int} {b val : Int} {j : Nat} (h : VarAt ns x b val j) (hb : ¬ Builtin.bitAnd b 64 = 0) : VarAt ns x (ns.getD j 0) (Builtin.bitOr (val * 64) (Builtin.bitAnd (ns.getD j 0) 63)) (j + 1) := by
  have hlt := varAt_lt h hb
  obtain ⟨b', r', e, h'⟩ := vgo_more h.1 hb
  have e' : ns.drop j = ns.getD j 0 :: ns.drop (j + 1) := by
    rw [List.drop_eq_getElem_cons hlt, List.getD_eq_getElem?_getD, List.getElem?_eq_getElem hlt]; rfl
  rw [e'] at e
  cases e
  exact ⟨h', hlt⟩
theorem varAt_end {ns : List Int} {x : Int × List Int} {b val : Int} {j : Nat} (h : VarAt ns x b val j) (hb : Builtin.bitAnd b 64 = 0) : x = (val, ns.drop j) ∧ j ≤ ns.length := ⟨vgo_end h.1 hb, h.2⟩
theorem at_getD {vs : List Value} {ns : List Int} {j : Nat} (hi : IntsAre vs ns) (h : j < ns.length) : ∃ t, vs[j]? = some (.int (ns.getD j 0) t) :=
  hi.get j (ns.getD j 0) (by rw [List.getD_eq_getElem?_getD, List.getElem?_eq_getElem h]; rfl)
set_option maxRecDepth 100000 in
set_option maxHeartbeats 1000000 in
theorem varint_ok {l it : Addr} {vs : List Value} {ns : List Int} {i : Nat} {rest : List (Addr × Obj)} {x : Int × List Int}
  (B : Below A₀ base outer h₀) (F : Fr h₀ L s.heap m) (X : (Mine.hd.heap_39 w.params).In h₀) (hTo : News h₀ L s.heap [(it, itObj l i)]) (N : News h₀ L s.heap rest) (hAp : Apart [(it, itObj l i)] rest) (T : Top p loose mean mg mb h₀) (hk : cs.kind = .function)
  (hd : dp + 3 < recursionLimit) (hu : un + 30 < cLine)
  (hl : h₀.IsList l vs.toArray) (hi : IntsAre vs ns) (hlen : ns.length ≤ 64) (hlt : i < ns.length) (hx : vparse (ns.drop i) = some x)
  (hret : ∀ (j : Nat) (t : Tok) (h' : Heap) (tk' : Nat), x.2 = ns.drop j → i < j → j ≤ ns.length → Fr h₀ L h' m → News h₀ L h' ((it, itObj l j) :: rest) → Q (.int x.1 t) { s with heap := h', toks := tk' }) :
  wpAny (model prog w) (ktrTop dp un gd cn cs L a ccd cl outer) (call (.ref 28) [.ref it]) Q E s := by
  k_with_none
  w_top off
  have hkeep : ∀ g, Fr h₀ L g m → g.IsList l vs.toArray := fun g F => hl.at fun o e => F.keep l o e
  k_with "call builtin:next" => ((with_reducible show wpAny _ _ (call (Value.builtin "next") [Value.ref _]) _ _ _); ((first | (refine Exists.elim (at_getD hi (varAt_lt kInv (by assumption))) fun t0 ht0 => ?_) | (refine Exists.elim (at_getD hi hlt) fun t0 ht0 => ?_)); (with_unfolding_all refine' next_list ?F ?N ?o ?l ?x ?_); (case F => k_asm); (case N => k_asm); (case o => exact oo_nil); (case l => exact hlG); (case x => exact ht0); intro h' F' N'; (try dsimp only); (try k_fold)))
  k_with "exec While" =>
    (k_here; (with_reducible show wpAny _ _ (exec (Stmt.While _ _ _ _) _) _ _ _); (rename Fr _ _ _ _ => lF'); (rename News _ _ _ _ => lN');
     (with_unfolding_all refine' ksw_while (σ := Int × Tok × Int × Tok × Nat) (fun c => [(it, itObj l c.2.2.2.2)]) (fun c => [(Str.ofString "b", Value.int c.1 c.2.1), (Str.ofString "val", Value.int c.2.2.1 c.2.2.2.1)]) (fun _ => True) [] (fun c => VarAt ns x c.1 c.2.2.1 c.2.2.2.2 ∧ i < c.2.2.2.2) (fun c => ns.length - c.2.2.2.2) (_, _, _, _, i + 1) lF' lN' trivial ?kk ⟨varAt_start hx hlt, Nat.lt_succ_self _⟩ ?_);
     (case kk => kst_all);
     (clear lF' lN');
     (intro kC kU kH kTk kFacts kInv kFr kNews; obtain ⟨kB, kBt, kV, kVt, kJ⟩ := kC; obtain ⟨kInv, kLt⟩ := kInv; (dsimp only [kstB, envOf] at kFr); (dsimp only [envOf] at kNews); (dsimp only at kInv kLt); (try k_fold)))
  k_with "inplaceOp LShift int int" => (refine ilshift_int (by decide) (bits_small (vgo_small kInv.1)) ?_)
  k_with "KswEnd" => (rename News _ _ _ _ => nE'; (with_unfolding_all refine' ksw_end (σ := Int × Tok × Int × Tok × Nat) (_, _, _, _, kJ + 1) ?kf nE' ?ki trivial ?kk ?ks ?kp ?km); (case kf => assumption); (case ki => kst_in); (case kk => kst_all); (case ks => ksw_same); (case kp => exact ⟨varAt_next kInv (by assumption), Nat.lt_succ_of_lt kLt⟩); (case km => (have h9 := varAt_lt kInv (by assumption); dsimp only; omega)))
  refine wpAny_call ?_
  w_strict (k_dflt cell_enter)
  (rename Fr h₀ L _ m => hFG; have hlG := hkeep _ hFG)
  k_steps
  (have he := varAt_end kInv (by simpa using ‹_›))
  obtain ⟨he, hj⟩ := he
  subst he
  exact hret kJ _ _ _ rfl kLt hj (by assumption) (join_rest (made := [_]) N (by assumption) (by assumption) (by assumption))
end
section
variable {prog : Program} {w : World} {p : Program} {loose : List Str} {mean : ExcName → Option Value} {mg mb : Str → Option Value} 
  {dp un : Nat} {gd : Option (List Code)} {cn : Str} {cs : Scope} {L a : Addr} {ccd : Value} {cl : List (Str × Addr)} {outer : List Env} {A₀ : Around} {base h₀ : Heap} {m : Str → Option Value} {s : Shared} {Q E : Value → Shared → Prop} {news : List (Addr × Obj)}
def readF : Nat → List Int → Option (List Int)
  | 0, _ => none
  | _ + 1, [] => some []
  | n + 1, b :: r => match vparse (b :: r) with
    | none => none
    | some x => (readF n x.2).map (x.1 :: ·)
def ReadAt (ns acc res : List Int) (j : Nat) : Prop := j ≤ ns.length ∧ ∃ tl, readF (64 - acc.length) (ns.drop j) = some tl ∧ res = acc ++ tl
theorem readAt_start {ns res : List Int} (h : readF 64 ns = some res) : ReadAt ns [] res 0 := ⟨Nat.zero_le _, res, by simpa using h, rfl⟩
theorem readAt_len {ns acc res : List Int} {j : Nat} (h : ReadAt ns acc res j) : acc.length < 64 := by
  obtain ⟨_, tl, h1, _⟩ := h
  rcases Nat.lt_or_ge acc.length 64 with h | h
  · exact h
  · rw [show 64 - acc.length = 0 by omega] at h1; cases h1
theorem readAt_end {ns acc res : List Int} {j : Nat} (h : ReadAt ns acc res j) (hj : ns.length ≤ j) : res = acc := by
  have hl := readAt_len h
  obtain ⟨_, tl, h1, h2⟩ := h
  rw [List.drop_of_length_le hj, show 64 - acc.length = (63 - acc.length) + 1 by omega] at h1
  unfold readF at h1
  rw [← Option.some.inj h1] at h2
  simpa using h2
theorem readAt_next {ns acc res : List Int} {j : Nat} (h : ReadAt ns acc res j) (hj : j < ns.length) : ∃ x, vparse (ns.drop j) = some x ∧ ∀ j', x.2 = ns.drop j' → j' ≤ ns.length → ReadAt ns (acc ++ [x.1]) res j' := by
  have hl := readAt_len h
  obtain ⟨_, tl, h1, h2⟩ := h
  have e : ns.drop j = ns[j] :: ns.drop (j + 1) := List.drop_eq_getElem_cons hj
  rw [e, show 64 - acc.length = (63 - acc.length) + 1 by omega] at h1
  unfold readF at h1
  rw [e]
  cases hv : vparse (ns[j] :: ns.drop (j + 1)) with
  | none => rw [hv] at h1; cases h1
  | some x =>
    rw [hv] at h1
    refine ⟨x, rfl, fun j' e' hj' => ⟨hj', ?_⟩⟩
    simp only [Option.map_eq_some_iff] at h1
    obtain ⟨tl', h3, h4⟩ := h1
    refine ⟨tl', ?_, ?_⟩
    · rw [← e', List.length_append, List.length_singleton, show 64 - (acc.length + 1) = 63 - acc.length by omega]; exact h3
    · rw [h2, ← h4]; simp
theorem exc_stop : isSubtype (.type "StopIteration") (.type "BaseException") = pure true := by rw [isSubtype_type]; kernel_rfl
theorem tup_stop : isSubtype (.type ((Manifest.find? "StopIteration").elim "type" fun y => y.metatype)) (.type "tuple") = pure false := by rw [isSubtype_type]; kernel_rfl
set_option maxRecDepth 100000 in
set_option maxHeartbeats 1000000 in
theorem read_spec {l : Addr} {vs : List Value} {ns res : List Int} {c : Nat}
  (B : Below A₀ base [] h₀) (XB : (Mine.hd.heap_39 w.params).In base) (TB : Top p loose mean mg mb base) (F : Fr h₀ L s.heap m) (X : (Mine.hd.heap_39 w.params).In h₀) (N : News h₀ L s.heap news) (T : Top p loose mean mg mb h₀) (hk : cs.kind = .function)
  (hd : dp + 8 < recursionLimit) (hu : un + 60 < cLine)
  (hm : (l, listOf vs.toArray c) ∈ news) (hi : IntsAre vs ns) (hlen : ns.length ≤ 64) (hr : readF 64 ns = some res)
  (hret : ∀ (a' : Addr) (us : List Value) (c : Nat) (h' : Heap) (tk' : Nat), IntsAre us res → Fr h₀ L h' m → News h₀ L h' ((a', listOf us.toArray c) :: news) → LCg.Off1 a' news → Q (.ref a') { s with heap := h', toks := tk' }) :
  wpAny (model prog w) (ktrTop dp un gd cn cs L a ccd cl []) (call (.ref 170) [.ref l]) Q E s := by
  k_with_none
  w_top off
  have hAp : Apart [] news := apart_nil
  have hvl := hi.length
  have hTo : News h₀ L s.heap [] := News.nil
  have hkeep : ∀ g, Kept g news → g.IsList l vs.toArray := fun g k => ⟨_, k _ hm, rfl, c, rfl⟩
  k_with "call builtin:iter" => ((with_reducible show wpAny _ _ (call (Value.builtin "iter") [Value.ref _]) _ _ _); (with_unfolding_all refine' iter_list ?F ?N ?l ?_); (case F => k_asm); (case N => k_asm); (case l => exact hlG); intro I' h' F' N' l1; (try k_lt l1); (try dsimp only); (try k_fold))
  k_with "exec While Compare cons nil" =>
    (k_here; (with_reducible show wpAny _ _ (exec (Stmt.While _ _ _ _) _) _ _ _); (rename Fr _ _ _ _ => lF'); (rename News _ _ _ _ => lN');
     (with_unfolding_all refine' ksw_while (σ := List Value × Nat × Nat) (fun c => [(_, listOf c.1.toArray c.2.1), (_, itObj l c.2.2)]) (fun _ => []) (fun _ => True) [] (fun c => ∃ acc, IntsAre c.1 acc ∧ ReadAt ns acc res c.2.2) (fun c => ns.length - c.2.2) ([], 0, 0) lF' lN' trivial ?kk ⟨[], IntsAre.nil, readAt_start hr⟩ ?_);
     (case kk => kst_all);
     (clear lF' lN');
     (intro kC kU kH kTk kFacts kInv kFr kNews; obtain ⟨kV, kCn, kJ⟩ := kC; obtain ⟨kA, kI, kInv⟩ := kInv; (dsimp only [kstB, envOf] at kFr); (dsimp only [envOf] at kNews); (dsimp only at kI kInv); (have kLen := readAt_len kInv); (have kLn := kI.length); (have kMk := kstMark); rcases Nat.lt_or_ge kJ ns.length with hjl | hjl <;> (try k_fold)))
  k_with "call ref" => ((with_reducible show wpAny _ _ (call (Value.ref 28) _) _ _ _); (refine Exists.elim (readAt_next kInv hjl) fun vx hvx => ?_; obtain ⟨hv1, hv2⟩ := hvx; (with_unfolding_all refine' varint_ok ?kB ?kF ?kX ?kN ?kR ?kA ?kT ?kK ?kd ?ku ?kl ?ki ?km ?kj ?kv ?_); (case kv => exact hv1); (case kB => k_asm); (case kF => k_asm); (case kX => k_asm); (case kN => exact news_tl (by k_asm)); (case kR => exact news_hd (by k_asm)); (case kA => exact apart_one (by k_ne)); (case kT => k_asm); (case kK => exact rfl); (case kd => ktr_room); (case ku => ktr_units); (case kl => exact hlG); (case ki => exact hi); (case km => exact hlen); (case kj => exact hjl); intro j' t9 h' tk' hj1 hj2 hj3 F' N'; (replace N' := news_swap N'); (try dsimp only); (try k_fold)))
  k_with "call builtin:list.append" => ((with_reducible show wpAny _ _ (call (Value.builtin "list.append") [Value.ref _, _]) _ _ _); (with_unfolding_all refine' append_hd ?F ?N ?o ?z ?_); (case F => k_asm); (case N => k_asm); (case o => exact oo_cons (by k_ne) oo_nil); (case z => omega); intro h' F' N'; (try dsimp only); (try k_fold))
  k_with "call builtin:next" => ((with_reducible show wpAny _ _ (call (Value.builtin "next") [Value.ref _]) _ _ _); (with_unfolding_all refine' next_end ?H ?F ?N ?o ?l ?x ?_); (case H => exact rfl); (case F => k_asm); (case N => exact news_swap (by k_asm)); (case o => exact oo_cons (by k_ne) oo_nil); (case l => exact hlG.at fun o e => Fr.keep (by assumption) l o e); (case x => exact List.getElem?_eq_none (by omega)); intro h' h2' e' tk' F' N' M'; (replace N' := news_swap N'); (try dsimp only); (try k_fold))
  k_with "KswEnd" => (rename News _ _ _ _ => nE'; (with_unfolding_all refine' ksw_end (σ := List Value × Nat × Nat) (kV ++ [.int vx.1 _], kCn + 1, j') ?kf nE' ?ki trivial ?kk ?ks ?kp ?km); (case kf => assumption); (case ki => kst_in); (case kk => kst_all); (case ks => ksw_same); (case kp => exact ⟨_, kI.append (.cons _ _ .nil), hv2 j' hj1 hj3⟩); (case km => (dsimp only; omega)))
  k_with "noteFrame ref" => (k_here; (rename RaisedS _ _ _ _ _ _ _ _ _ => rsX); (with_unfolding_all refine' caught_S0 (T' := "StopIteration") ?R ?F ?K ?U ?XB ?TB ?D ?T0 ?ex PyProof.Rows.Boot.«StopIteration» ?hn exc_stop tup_stop ?hs ?_); (case R => assumption); (case F => assumption); (case K => assumption); (case U => assumption); (case XB => assumption); (case TB => assumption); (case D => assumption); (case T0 => exact KtsTurn.refl); (case hs => (rw [isSubtype_type]; kernel_rfl)); (case ex => k_is); (case hn => decide); k_whole; intro h' g' n₂ T' F' N₂ G' N' K' X' P' D'; (try k_lift K'); (try k_sweep))
  k_with "LeaveT" => (k_dflt (refine' leaveT_ ?F ?N ?T ?_; (case F => k_asm); (case N => k_asm); (case T => first | assumption | exact KtsTurn.refl); k_whole); intro kF kN; (try dsimp only))
  refine wpAny_call ?_
  w_strict (k_dflt (refine' enter_turn ?k1 ?k2 ?k3 ?k4 ?kr ?ka ?k5 ?kA ?kF ?kK ?k6 ?k7 ?k8 ?k9 ?kB ?_ ?c2 ?c3 ?c4 ?c5; (case ka => assumption); (case kA => exact rfl); (case kF => exact rfl); (case kK => assumption); (case k1 => k_asm); (case k2 => k_asm); (case k3 => k_asm); (case k4 => k_asm); (case kr => k_asm); (case k5 => k_asm); (case k6 => k_is); (case k7 => k_is); (case k8 => ktr_room); (case k9 => exact BindsTo.of_eq rfl); (case c5 => decide); (case kB => exact locs rfl); (case c2 => exact rfl); (case c3 => exact rfl); (case c4 => exact rfl); k_whole; intro g' L' h' FG' F' N' B' X' T' kept' D'; (try dsimp only); (try k_fold)))
  (rename Kept _ _ => hKp; have hlG := hkeep _ hKp)
  k_steps
  (have he := readAt_end kInv hjl)
  subst he
  (rename KtsTurn _ _ _ => hTn)
  (have hkp := Kept.turn hKp N hTn)
  with_unfolding_all exact hret _ _ _ _ _ kI (by assumption) (join_rest (made := [_]) N hkp (by assumption) (news_hd (by assumption))) (off_rest hkp (by assumption) List.mem_cons_self)
end
section
variable {prog : Program} {w : World} {p : Program} {loose : List Str} {mean : ExcName → Option Value} {mg mb : Str → Option Value} 
  {dp un : Nat} {gd : Option (List Code)} {cn : Str} {cs : Scope} {L a : Addr} {ccd : Value} {cl : List (Str × Addr)} {outer : List Env} {A₀ : Around} {base h₀ : Heap} {m : Str → Option Value} {s : Shared} {Q E : Value → Shared → Prop} {news : List (Addr × Obj)}
theorem gives_find4 (x y : Str) (i j : Int) (t u v v' : Tok) : Gives (Builtin.«str.find» ⟨[.str x t, .str y u, .int i v, .int j v'], []⟩) (.int (match Builtin.Str.occurrences x y (fromIndex x.length i) (min (fromIndex x.length j) x.length) 1 with | k :: _ => (k : Int) | [] => -1)) := by
  show Gives (match Builtin.Str.occurrences x y (fromIndex x.length i) (min (fromIndex x.length j) x.length) 1 with | k :: _ => retInt k | [] => (do rule "str.find.not-found"; retInt (-1))) _
  cases Builtin.Str.occurrences x y (fromIndex x.length i) (min (fromIndex x.length j) x.length) 1 with
  | nil => exact .rule (.of_eq rfl)
  | cons k _ => exact .of_eq rfl
theorem find4 {A : Around} {x y : Str} {i : Int} {t u v v' : Tok} (hq : Q (.int (Txt.find3 x y i) s.toks) { s with toks := s.toks + 1 }) : wpAny (model prog w) A (call (.builtin "str.find") [.str x t, .str y u, .int i v, .int (x.length : Int) v']) Q E s := by
  refine call_gives PySem.F.slot_str_find (typeIs_str _ _ _) PySem.F.entry_str_find (PySem.F.args_str_find_4 _ _ _ _) (gives_find4 x y i x.length t u v v') ?_
  have e : min (fromIndex x.length (x.length : Int)) x.length = x.length := by
    unfold fromIndex; omega
  rw [e]
  exact hq
theorem fromIndex_nat (n i : Nat) : fromIndex n (i : Int) = i := by unfold fromIndex; omega
theorem find3_cases (x y : Str) (i : Nat) : (Txt.find3 x y (i : Int) = -1 ∧ ∀ k, i ≤ k → ¬ StrLaws.At x y x.length k) ∨
    ∃ k : Nat, Txt.find3 x y (i : Int) = k ∧ i ≤ k ∧ StrLaws.At x y x.length k ∧ ∀ k', i ≤ k' → k' < k → ¬ StrLaws.At x y x.length k' := by
  unfold Txt.find3
  rw [fromIndex_nat]
  rcases StrLaws.occ_head_from x y i 1 (Nat.le_refl _) with ⟨h, hn⟩ | ⟨k, r, h, h1, h2, h3⟩
  · left; rw [h]; exact ⟨rfl, hn⟩
  · right; rw [h]; exact ⟨k, rfl, h1, h2, h3⟩
theorem at_empty (x : Str) (i : Nat) (h : i ≤ x.length) : StrLaws.At x Str.empty x.length i := by
  refine ⟨by show i + 0 ≤ _; omega, ?_⟩
  rw [StrLaws.subAt_eq]
  show (List.take 0 _ == _) = true
  rw [List.take_zero]; rfl
theorem find3_empty {x : Str} {i : Int} (h0 : 0 ≤ i) (h : i ≤ x.length) : Txt.find3 x Str.empty i = i := by
  obtain ⟨n, rfl⟩ := Int.eq_ofNat_of_zero_le h0
  have hn : n ≤ x.length := by omega
  rcases find3_cases x Str.empty n with ⟨_, hno⟩ | ⟨k, e, h1, _, h3⟩
  · exact absurd (at_empty x n hn) (hno n (Nat.le_refl _))
  · have : k = n := by
      rcases Nat.lt_or_ge n k with hlt | hge
      · exact absurd (at_empty x n hn) (h3 n (Nat.le_refl _) hlt)
      · omega
    subst this; exact e
/-- is y in x, told over the signs -/
def subIn (y : List Nat) : List Nat → Bool
  | [] => y.isPrefixOf []
  | c :: r => y.isPrefixOf (c :: r) || subIn y r
theorem subIn_iff (y : List Nat) : ∀ x : List Nat, subIn y x = true ↔ ∃ i, i ≤ x.length ∧ y.isPrefixOf (x.drop i) = true
  | [] => by
    unfold subIn
    constructor
    · intro h; exact ⟨0, Nat.le_refl _, h⟩
    · rintro ⟨i, _, h⟩; simpa using h
  | c :: r => by
    unfold subIn
    rw [Bool.or_eq_true, subIn_iff y r]
    constructor
    · rintro (h | ⟨i, hi, h⟩)
      · exact ⟨0, Nat.zero_le _, h⟩
      · exact ⟨i + 1, by simp; omega, by simpa using h⟩
    · rintro ⟨i, hi, h⟩
      cases i with
      | zero => exact .inl h
      | succ i => exact .inr ⟨i, by simp at hi; omega, by simpa using h⟩
theorem at_iff (x y : Str) (i : Nat) : StrLaws.At x y x.length i ↔ i ≤ x.length ∧ y.cps.toList.isPrefixOf (x.cps.toList.drop i) = true := by
  unfold StrLaws.At
  rw [StrLaws.subAt_eq, beq_iff_eq, List.isPrefixOf_iff_prefix, List.prefix_iff_eq_take]
  have hl : y.length = y.cps.toList.length := by show y.cps.size = _; simp
  have hx : x.length = x.cps.toList.length := by show x.cps.size = _; simp
  rw [hl]
  constructor
  · rintro ⟨h1, h2⟩; exact ⟨by omega, h2.symm⟩
  · rintro ⟨h1, h2⟩
    refine ⟨?_, h2.symm⟩
    have := congrArg List.length h2
    rw [List.length_take, List.length_drop] at this
    omega
def inS (x y : Str) : Bool := subIn y.cps.toList x.cps.toList
theorem inS_iff (x y : Str) : inS x y = true ↔ ∃ i, StrLaws.At x y x.length i := by
  unfold inS
  rw [subIn_iff]
  have hx : x.length = x.cps.toList.length := by show x.cps.size = _; simp
  constructor
  · rintro ⟨i, h1, h2⟩; exact ⟨i, (at_iff x y i).mpr ⟨by omega, h2⟩⟩
  · rintro ⟨i, h⟩; have := (at_iff x y i).mp h; exact ⟨i, by omega, this.2⟩
theorem find3_no {x y : Str} (h : Txt.find3 x y 0 < 0) : inS x y = false := by
  rcases find3_cases x y 0 with ⟨_, hno⟩ | ⟨k, e, _⟩
  · cases q : inS x y with
    | false => rfl
    | true => obtain ⟨i, hi⟩ := (inS_iff x y).mp q; exact absurd hi (hno i (Nat.zero_le _))
  · have e' : Txt.find3 x y 0 = (k : Int) := e
    omega
theorem find3_yes {x y : Str} (h : ¬ Txt.find3 x y 0 < 0) : inS x y = true ∧ Txt.find3 x y 0 + y.length ≤ x.length := by
  rcases find3_cases x y 0 with ⟨e, _⟩ | ⟨k, e, _, h2, _⟩
  · have e' : Txt.find3 x y 0 = -1 := e
    omega
  · have e' : Txt.find3 x y 0 = (k : Int) := e
    exact ⟨(inS_iff x y).mpr ⟨k, h2⟩, by have := h2.1; omega⟩
theorem split3 {A : Around} {x y a₁ a₂ a₃ : Str} {t u : Tok} (F : Fr h₀ L s.heap m) (N : News h₀ L s.heap news) (hy : (y.length == 0) = false) (hs : Txt.split x y = [a₁, a₂, a₃]) (hz : x.length ≤ 1000)
    (h : ∀ D u₁ u₂ u₃ h' k, Fr h₀ L h' m → News h₀ L h' ((D, listOf #[.str a₁ u₁, .str a₂ u₂, .str a₃ u₃] 0) :: news) → (∀ p ∈ news, p.1 < D) → Q (.ref D) { s with heap := h', toks := k }) :
    wpAny (model prog w) A (call (.builtin "str.split") [.str x t, .str y u]) Q E s := by
  refine KSpl.split1 F N hy (fun D l h' k e _ F' N' l1 => ?_) (by rw [sizeLine_eq]; omega)
  rw [hs] at e
  match l, e with
  | [(b₁, u₁), (b₂, u₂), (b₃, u₃)], e =>
    simp only [List.map_cons, List.map_nil, List.cons.injEq, and_true] at e
    obtain ⟨rfl, rfl, rfl⟩ := e
    exact h D u₁ u₂ u₃ h' k F' N' l1
end
section
variable {prog : Program} {w : World} {p : Program} {loose : List Str} {mean : ExcName → Option Value} {mg mb : Str → Option Value} 
  {dp un : Nat} {gd : Option (List Code)} {cn : Str} {cs : Scope} {L a : Addr} {ccd : Value} {cl : List (Str × Addr)} {outer : List Env} {A₀ : Around} {base h₀ : Heap} {m : Str → Option Value} {s : Shared} {Q E : Value → Shared → Prop} {news : List (Addr × Obj)}
abbrev dots : Str := Str.ofString "..."
theorem notin_no {A : Around} {x y : Str} {t u : Tok} (hc : Txt.contains x y = true) (h : Q (.bool false) s) : wpAny (model prog w) A (compareOp .NotIn (.str y u) (.str x t)) Q E s := SB.notContains (by rw [hc]; exact h)
theorem find4_empty {A : Around} {x : Str} {i : Int} {t u v v' : Tok} (h0 : 0 ≤ i) (h1 : i ≤ x.length) (hq : Q (.int i s.toks) { s with toks := s.toks + 1 }) : wpAny (model prog w) A (call (.builtin "str.find") [.str x t, .str Str.empty u, .int i v, .int (x.length : Int) v']) Q E s :=
  find4 (by rw [find3_empty h0 h1]; exact hq)
theorem find4_mid {A : Around} {x y : Str} {t u v v' : Tok} (hq : Q (.int (Txt.find3 x y 0) s.toks) { s with toks := s.toks + 1 }) : wpAny (model prog w) A (call (.builtin "str.find") [.str x t, .str y u, .int (0 + (Str.empty.length : Int)) v, .int (x.length : Int) v']) Q E s := find4 hq
theorem find4_or {x y : Str} : (Txt.find3 x y 0 < 0 ∧ inS x y = false) ∨ (0 ≤ Txt.find3 x y 0 ∧ inS x y = true ∧ Txt.find3 x y 0 + y.length ≤ x.length) := by
  by_cases h : Txt.find3 x y 0 < 0
  · exact .inl ⟨h, find3_no h⟩
  · exact .inr ⟨by omega, find3_yes h⟩
set_option maxRecDepth 100000 in
set_option maxHeartbeats 1000000 in
theorem ell_spec {want got mid : Str} {t1 t2 : Tok}
  (B : Below A₀ base outer h₀) (F : Fr h₀ L s.heap m) (X : (Mine.hd.heap_39 w.params).In h₀) (N : News h₀ L s.heap news) (T : Top p loose mean mg mb h₀) (hk : cs.kind = .function)
  (hd : dp + 3 < recursionLimit) (hu : un + 30 < cLine)
  (hc : Txt.contains want dots = true) (hs : Txt.split want dots = [Str.empty, mid, Str.empty]) (hlw : want.length ≤ 200) (hlg : got.length ≤ 200) (hlm : mid.length ≤ 200)
  (hret : ∀ (h' : Heap) (tk' : Nat), Fr h₀ L h' m → News h₀ L h' news → Q (.bool (inS got mid)) { s with heap := h', toks := tk' }) :
  wpAny (model prog w) (ktrTop dp un gd cn cs L a ccd cl outer) (call (.ref 71) [.str want t1, .str got t2]) Q E s := by
  k_with_none
  w_top off
  have hAp : Apart [] news := apart_nil
  have hTo : News h₀ L s.heap [] := News.nil
  k_with "call builtin:str.split" => ((with_reducible show wpAny _ _ (call (Value.builtin "str.split") _) _ _ _); (with_unfolding_all refine' split3 ?F ?N ?y ?s ?z ?_); (case F => k_asm); (case N => k_asm); (case y => decide); (case s => exact hs); (case z => omega); intro D' u1 u2 u3 h' k' F' N' l1; (try k_lt l1); (try dsimp only); (try k_fold))
  have hle : Str.empty.length = 0 := rfl
  k_with "compareOp NotIn str str" => (refine notin_no hc ?_)
  k_with "call builtin:str.find" => ((with_reducible show wpAny _ _ (call (Value.builtin "str.find") _) _ _ _); (first
    | ((with_reducible show wpAny _ _ (call (Value.builtin "str.find") [_, Value.str Str.empty _, _, _]) _ _ _); (refine find4_empty ?_ ?_ ?_); (focus omega); (focus omega))
    | (refine find4_mid ?_; rcases find4_or (x := got) (y := mid) with hf | hf)) <;> (try dsimp only) <;> (try k_fold))
  k_with "call builtin:len" => ((with_reducible show wpAny _ _ (call (Value.builtin "len") [Value.str _ _]) _ _ _); (refine len_str (by omega) ?_); (try dsimp only); (try k_fold))
  refine wpAny_call ?_
  w_strict (k_dflt cell_enter)
  k_steps
  · rw [hf.2] at hret
    exact hret _ _ (by assumption) (rest_only N (by assumption) (by assumption))
  · rw [hf.2.1] at hret
    exact hret _ _ (by assumption) (rest_only N (by assumption) (by assumption))
end
section
variable {prog : Program} {w : World} {p : Program} {loose : List Str} {mean : ExcName → Option Value} {mg mb : Str → Option Value} 
  {dp un : Nat} {gd : Option (List Code)} {cn : Str} {cs : Scope} {L a : Addr} {ccd : Value} {cl : List (Str × Addr)} {outer : List Env} {A₀ : Around} {base h₀ : Heap} {m : Str → Option Value} {s : Shared} {Q E : Value → Shared → Prop} {news : List (Addr × Obj)}
def TxtEnd (h₀ : Heap) (L : Addr) (J : (Str → Option Value) → List (Addr × Obj) → Prop) (I : Addr) (o : Obj) (s₁ : Shared) (Q : Flow → Shared → Prop) (f : Flow) (s₂ : Shared) : Prop :=
  match f with
  | .ret v => Q (.ret v) s₂
  | .brk => Q .next s₂
  | _ => ∃ h' tk m' nx, s₂ = { s₁ with heap := h', toks := tk } ∧ Fr h₀ L h' m' ∧ News h₀ L h' (nx ++ [(I, o)]) ∧ (∀ p ∈ nx, p.1 ≠ I) ∧ J m' nx
end
section
open PySem.W.KStt
variable {prog : Program} {w : World} {A : Around} {E : Value → Shared → Prop} {s : Shared} {env : Env} {h₀ : Heap} {x : PySem.Str} {body : List Stmt} {Q : Flow → Shared → Prop}
theorem txt_loop {σ : Type} {xt : PySem.Str} {tx : Tok} {m₀ : PySem.Str → Option Value} (Led : σ → List (Addr × Obj)) (ps : σ → List (PySem.Str × Value)) (Facts : σ → Prop) (stored : List PySem.Str) (P : List Int → σ → Prop) (c₀ : σ)
    (hx : xt.cps.all (· < 128) = true) (hh : A.handled = none) (F : Fr h₀ env.locals s.heap m₀) (N : News h₀ env.locals s.heap (Led c₀)) (hf : Facts c₀) (hk : ∀ p ∈ ps c₀, m₀ p.1 = some p.2) (hp : P [] c₀)
    (turn : ∀ (c : σ) (pre post : List Int) (n : Nat) t (u : PySem.Str → Option Value) h tk I o, codes xt = pre ++ (n : Int) :: post → (∀ p ∈ Led c, p.1 ≠ I) → Facts c → P pre c →
      Fr h₀ env.locals h (fun y => if y = x then some (.str ⟨#[n]⟩ t) else kstB (fun z => if stored.contains z then u z else m₀ z) (ps c) y) → News h₀ env.locals h (Led c ++ [(I, o)]) →
      wpAny (model prog w) A (execs body env) (TxtEnd h₀ env.locals (KstS Led ps Facts x stored m₀ P (pre ++ [(n : Int)])) I o { s with heap := h, toks := tk } Q) E { s with heap := h, toks := tk })
    (done : ∀ (c : σ) (u : PySem.Str → Option Value) h tk, Facts c → P (codes xt) c → Fr h₀ env.locals h (fun y => if y = x then u y else kstB (fun z => if stored.contains z then u z else m₀ z) (ps c) y) → News h₀ env.locals h (Led c) → Q .next { s with heap := h, toks := tk }) :
    wpAny (model prog w) A (pyIter (.str xt tx)) (fun it s₂ => LoopAtV prog w A h₀ env x body Q E it s₂) E s := by
  refine wpAny_pyIter_ascii hx ?_
  have hnew : h₀.get? s.heap.objs.size = none := next_is_new F
  have hlt : ∀ p ∈ Led c₀, p.1 ≠ s.heap.objs.size := fun p hp e => absurd (Heap.lt_size (N p hp).1) (by rw [e]; exact Nat.lt_irrefl _)
  refine ⟨s.heap.objs.size, [s.heap.objs.size], [s.heap.objs.size], xt.cps.size, SignAt xt, fun i h => h.IsStrIter s.heap.objs.size "str_ascii_iterator" xt tx i, m₀, Led c₀,
    fun i m nx => (∀ p ∈ nx, p.1 ≠ s.heap.objs.size) ∧ KstS Led ps Facts x stored m₀ P ((codes xt).take i) m nx, rfl, Walks.strAscii hh _ xt tx, ?_, ?_, ?_, ?_, F.push _, (fun p hp => ⟨Heap.get?_push_of_some _ (N p hp).1, (N p hp).2⟩), ⟨hlt, c₀, rfl, hf, hk, fun _ _ _ _ => rfl, by simpa using hp⟩, ?_, ?_⟩
  · intro hm
    exact absurd F.ns.lt ((List.mem_singleton.mp hm) ▸ Nat.lt_irrefl _)
  · intro b' hb
    rw [List.mem_singleton.mp hb]
    exact hnew
  · intro p hp hI
    exact hlt p hp (List.mem_singleton.mp hI)
  · exact ⟨_, Heap.get?_push_size _ rfl, rfl, rfl⟩
  · rintro i v m₁ nx s₁ own ⟨h, tk, rfl⟩ hi ⟨n, u, hn, rfl⟩ ⟨hne, c, rfl, hf', h1, h2, hp'⟩ hoff hown hget hall ⟨o, ho, _⟩ F₁ N₁
    have hmem := hall _ (List.mem_singleton.mpr rfl) hnew o ho
    have hn' := code_at hn
    have hs : (codes xt).take (i + 1) = (codes xt).take i ++ [(n : Int)] := by simp [List.take_add_one, hn']
    have e : codes xt = (codes xt).take i ++ (n : Int) :: (codes xt).drop (i + 1) := by
      have ht := List.take_append_drop (i + 1) (codes xt)
      rw [hs, List.append_assoc] at ht
      exact ht.symm
    dsimp only
    rw [hs]
    have N₂ : News h₀ env.locals h (Led c ++ [(s.heap.objs.size, o)]) := fun p hp => by
      rcases List.mem_append.mp hp with hp | hp
      · exact N₁ p (List.mem_append.mpr (.inr hp))
      · rw [List.mem_singleton.mp hp]
        exact N₁ _ (List.mem_append.mpr (.inl hmem))
    refine wpAny_mono (turn c _ _ n u m₁ h tk _ o e hne hf' hp' (kst_fr h1 h2 F₁) N₂) (fun f s₂ p => ?_) fun _ _ e => e
    have fin : TxtEnd h₀ env.locals (KstS Led ps Facts x stored m₀ P ((codes xt).take i ++ [(n : Int)])) s.heap.objs.size o { s with heap := h, toks := tk } Q .next s₂ →
        LoopStepU h₀ env.locals [s.heap.objs.size] own (fun m nx => (∀ p ∈ nx, p.1 ≠ s.heap.objs.size) ∧ KstS Led ps Facts x stored m₀ P ((codes xt).take i ++ [(n : Int)]) m nx) { s with heap := h, toks := tk } .next s₂ := by
      rintro ⟨h', tk', m', nx, rfl, F', N', hn', hJ⟩
      refine ⟨rfl, h', tk', m', nx, rfl, F', fun q hq => ?_, fun q hq hI => hn' q hq (List.mem_singleton.mp hI), hn', hJ⟩
      rcases List.mem_append.mp hq with hq | hq
      · have h1 := List.mem_singleton.mp (hown q hq)
        have h2 := hget q hq
        rw [h1] at h2
        have h3 : some o = some q.2 := ho.symm.trans h2
        have : q = (s.heap.objs.size, o) := Prod.ext h1 (Option.some.inj h3).symm
        rw [this]
        exact N' _ (List.mem_append.mpr (.inr (List.mem_singleton.mpr rfl)))
      · exact N' _ (List.mem_append.mpr (.inl hq))
    cases f with
    | ret v => exact .ret p
    | brk => exact .brk p
    | next => exact .next (fin p)
    | cont => exact .cont (fin p)
  · rintro h' tk m' nx F' N' _ ⟨_, c, rfl, hf', h1, h2, hp'⟩
    have hl : xt.cps.size = (codes xt).length := (codes_length xt).symm
    rw [hl, List.take_length] at hp'
    exact done c m' h' tk hf' hp' (kst_frOut h1 h2 F') N'
end
section
variable {prog : Program} {w : World} {p : Program} {loose : List Str} {mean : ExcName → Option Value} {mg mb : Str → Option Value} 
  {dp un : Nat} {gd : Option (List Code)} {cn : Str} {cs : Scope} {L a : Addr} {ccd : Value} {cl : List (Str × Addr)} {outer : List Env} {A₀ : Around} {base h₀ : Heap} {m : Str → Option Value} {s : Shared} {Q E : Value → Shared → Prop} {news : List (Addr × Obj)}
theorem news_drop4 {h : Heap} {a b k c d e : Addr × Obj} {r : List (Addr × Obj)} (N : News h₀ L h (a :: b :: k :: c :: d :: e :: r)) : News h₀ L h (a :: b :: c :: d :: r) := fun p hp => N p (by
  simp only [List.mem_cons] at hp ⊢
  rcases hp with h | h | h | h | h <;> simp [h])
theorem list_at {h : Heap} {news' : List (Addr × Obj)} {l : Addr} {vs : List Value} {c : Nat} (N : News h₀ L h news') (hm : (l, listOf vs.toArray c) ∈ news') : h.IsList l vs.toArray := ⟨_, (N _ hm).1, rfl, c, rfl⟩
theorem ki_setL_lt {v : Value} : ∀ (vs : List Value) (k : Nat), k < vs.length → ki_setL vs k v = some (vs.set k v)
  | [], _, h => absurd h (Nat.not_lt_zero _)
  | _ :: _, 0, _ => rfl
  | y :: r, k + 1, h => by
    have ih := ki_setL_lt (v := v) r k (Nat.lt_of_succ_lt_succ h)
    show (match ki_setL r k v with | some q => some (y :: q) | none => none) = _
    rw [ih]; rfl
theorem set_hd {A : Around} {l : Addr} {vs : List Value} {c : Nat} {v : Value} {k : Int} {t : Tok} {Q : Unit → Shared → Prop} {rest : List (Addr × Obj)} (F : Fr h₀ L s.heap m) (N : News h₀ L s.heap ((l, listOf vs.toArray c) :: rest)) (off : OwnOff rest [l]) (h0 : 0 ≤ k) (hk : k < vs.length) (hz : vs.length ≤ 1000)
    (h : ∀ h', Fr h₀ L h' m → News h₀ L h' ((l, listOf (vs.set k.toNat v).toArray c) :: rest) → Q () { s with heap := h' }) : wpAny (model prog w) A (setItem (.ref l) (.int k t) v) Q E s :=
  ki_set F N h0 (by omega) (ki_setL_lt vs k.toNat (by omega)) (Upd.head fun p hp => off p hp l (List.mem_singleton.mpr rfl)) h
theorem ints_set {vs : List Value} {ns : List Int} {x : Int} {t : Tok} (h : IntsAre vs ns) : ∀ k : Nat, IntsAre (vs.set k (.int x t)) (ns.set k x) := by
  induction h with
  | nil => intro k; exact .nil
  | cons i u hr ih =>
    intro k
    cases k with
    | zero => exact .cons _ _ hr
    | succ k => exact .cons _ _ (ih k)
theorem news_drop {h : Heap} {q q' : Addr × Obj} {r : List (Addr × Obj)} (N : News h₀ L h (q :: q' :: r)) : News h₀ L h (q :: r) := fun p hp => N p (by
  rcases List.mem_cons.mp hp with rfl | hp
  · exact .head _
  · exact .tail _ (.tail _ hp))
def wsGrow (cs : List Int) (b : Int) : List Int := if (cs.length : Int) ≤ b then cs ++ List.replicate (b - cs.length + 1).toNat 0 else cs
def wsAdd (cs : List Int) (b : Int) : List Int := (wsGrow cs b).set b.toNat ((wsGrow cs b).getD b.toNat 0 + 1)
def wsStep (z : Int × Int × Int × List Int) (c : Int) : Int × Int × Int × List Int :=
  if c = 32 then (z.1 + 1, z.2.1, z.2.2.1 + 1, z.2.2.2) else (z.1 + 1, z.2.1 + 1, 0, wsAdd z.2.2.2 z.2.2.1)
def wsRun (pre : List Int) : Int × Int × Int × List Int := pre.foldl wsStep (0, 0, 0, [])
def Blank (pre : List Int) : Prop := ∀ c ∈ pre, c = 32 ∨ c = 9
structure WsAt (pre : List Int) (n nt b : Int) (cs : List Int) : Prop where
  run : wsRun pre = (n, nt, b, cs)
  blank : Blank pre
  b0 : 0 ≤ b
  bl : b ≤ pre.length
  cl : cs.length ≤ pre.length
theorem wsAt_start : WsAt [] 0 0 0 [] := ⟨rfl, (fun _ h => nomatch h), by decide, by decide, by decide⟩
theorem wsGrow_length {cs : List Int} {b : Int} : b < (wsGrow cs b).length := by
  unfold wsGrow; split
  · rw [List.length_append, List.length_replicate]; omega
  · omega
theorem wsAt_blank {pre : List Int} {n nt b : Int} {cs : List Int} (h : WsAt pre n nt b cs) : WsAt (pre ++ [32]) (n + 1) nt (b + 1) cs := by
  refine ⟨?_, ?_, by have := h.b0; omega, by have := h.bl; simp; omega, by have := h.cl; simp; omega⟩
  · unfold wsRun; rw [List.foldl_append]; show wsStep (wsRun pre) 32 = _; rw [h.run]; rfl
  · intro c hc; rcases List.mem_append.mp hc with hc | hc
    · exact h.blank c hc
    · exact .inl (List.mem_singleton.mp hc)
theorem wsAt_tab {pre : List Int} {n nt b : Int} {cs : List Int} (h : WsAt pre n nt b cs) : WsAt (pre ++ [9]) (n + 1) (nt + 1) 0 (wsAdd cs b) := by
  refine ⟨?_, ?_, by decide, by simp; omega, ?_⟩
  · unfold wsRun; rw [List.foldl_append]; show wsStep (wsRun pre) 9 = _; rw [h.run]; rfl
  · intro c hc; rcases List.mem_append.mp hc with hc | hc
    · exact h.blank c hc
    · exact .inr (List.mem_singleton.mp hc)
  · have h1 := h.bl; have h2 := h.cl; have h3 := h.b0
    unfold wsAdd wsGrow
    rw [List.length_set, List.length_append, List.length_singleton]
    split
    · rw [List.length_append, List.length_replicate]; omega
    · omega
theorem ws_bound {x : Str} {pre post : List Int} {k n nt b : Int} {cs : List Int} (hl : x.length ≤ 100) (e : KStt.codes x = pre ++ k :: post) (h : WsAt pre n nt b cs) : 0 ≤ b ∧ b ≤ 100 ∧ cs.length ≤ 100 := by
  have h1 := KStt.codes_length x
  rw [e, List.length_append, List.length_cons] at h1
  have h2 := h.bl; have h3 := h.cl
  exact ⟨h.b0, by omega, by omega⟩
theorem grow_yes {us : List Value} {ns : List Int} {b : Int} (h : IntsAre us (ns ++ (List.replicate (b - ns.length + 1).toNat [0]).flatten)) (hb : (ns.length : Int) ≤ b) : IntsAre us (wsGrow ns b) := by
  unfold wsGrow
  rw [if_pos hb]
  have e : (List.replicate (b - ns.length + 1).toNat [(0 : Int)]).flatten = List.replicate (b - ns.length + 1).toNat 0 := by
    generalize (b - ns.length + 1).toNat = k
    induction k with
    | zero => rfl
    | succ k ih => rw [List.replicate_succ, List.replicate_succ, List.flatten_cons, ih]; rfl
  rw [e] at h
  exact h
theorem grow_no {us : List Value} {ns : List Int} {b : Int} (h : IntsAre us ns) (hb : ¬ (ns.length : Int) ≤ b) : IntsAre us (wsGrow ns b) := by
  unfold wsGrow
  rw [if_neg hb]
  exact h
theorem txt_end {σ : Type} {x : Str} {Led : σ → List (Addr × Obj)} {ps : σ → List (Str × Value)} {Facts : σ → Prop} {stored : List Str} {m₀ m' : Str → Option Value} {P : List Int → σ → Prop} {pre : List Int} (c : σ) {news' : List (Addr × Obj)} {I : Addr} {o : Obj} {s₁ : Shared} {h' : Heap} {tk : Nat} {Q : Flow → Shared → Prop}
    (F : Fr h₀ L h' m') (N : News h₀ L h' news') (hn : ∀ p ∈ Led c, p ∈ news') (ho : (I, o) ∈ news') (hI : ∀ p ∈ Led c, p.1 ≠ I) (hf : Facts c) (hk : ∀ p ∈ ps c, m' p.1 = some p.2) (hr : ∀ z, z ≠ x → (∀ p ∈ ps c, z ≠ p.1) → stored.contains z = false → m' z = m₀ z) (hp : P pre c) :
    TxtEnd h₀ L (KstS Led ps Facts x stored m₀ P pre) I o s₁ Q .next { s₁ with heap := h', toks := tk } :=
  ⟨h', tk, m', Led c, rfl, F, fun p hp => by
    rcases List.mem_append.mp hp with hp | hp
    · exact N p (hn p hp)
    · rw [List.mem_singleton.mp hp]; exact N _ ho, hI, c, rfl, hf, hk, hr, hp⟩
theorem code_32 {n : Nat} (h : (({ cps := #[n] } : Str) == Str.ofString " ") = true) : n = 32 := by
  have e := congrArg (fun s : Str => s.cps.toList) (eq_of_beq h)
  have e' : [n] = [32] := e
  exact List.head_eq_of_cons_eq e'
theorem code_9 {n : Nat} (h : (({ cps := #[n] } : Str) == Str.ofString "\t") = true) : n = 9 := by
  have e := congrArg (fun s : Str => s.cps.toList) (eq_of_beq h)
  have e' : [n] = [9] := e
  exact List.head_eq_of_cons_eq e'
theorem not_32 {n : Nat} (h : (({ cps := #[n] } : Str) == Str.ofString " ") = false) : (n : Int) ≠ 32 := by
  intro e
  have e' : n = 32 := by omega
  subst e'
  exact absurd h (by decide)
theorem not_9 {n : Nat} (h : (({ cps := #[n] } : Str) == Str.ofString "\t") = false) : (n : Int) ≠ 9 := by
  intro e
  have e' : n = 9 := by omega
  subst e'
  exact absurd h (by decide)
theorem blank_split : ∀ {a b : List Int} {n k : Int} {p q : List Int}, Blank a → Blank b → a ++ n :: p = b ++ k :: q → n ≠ 32 → n ≠ 9 → k ≠ 32 → k ≠ 9 → a = b
  | [], [], _, _, _, _, _, _, _, _, _, _, _ => rfl
  | [], y :: b, n, k, p, q, _, hb, e, h1, h2, _, _ => by
    have e' : n = y := List.head_eq_of_cons_eq e
    rcases hb y (.head _) with h | h
    · exact absurd (e'.trans h) h1
    · exact absurd (e'.trans h) h2
  | y :: a, [], n, k, p, q, ha, _, e, _, _, h1, h2 => by
    have e' : y = k := List.head_eq_of_cons_eq e
    rcases ha y (.head _) with h | h
    · exact absurd (e'.symm.trans h) h1
    · exact absurd (e'.symm.trans h) h2
  | y :: a, z :: b, n, k, p, q, ha, hb, e, h1, h2, h3, h4 => by
    have e1 : y = z := List.head_eq_of_cons_eq e
    have e2 : a ++ n :: p = b ++ k :: q := List.tail_eq_of_cons_eq e
    rw [e1, blank_split (fun c hc => ha c (.tail _ hc)) (fun c hc => hb c (.tail _ hc)) e2 h1 h2 h3 h4]
theorem ws_fit {vs : List Value} {ns : List Int} {b : Int} (h : IntsAre vs (wsGrow ns b)) : b < vs.length := by
  rw [h.length]; exact wsGrow_length
theorem ws_fit2 {vs : List Value} {ns : List Int} {b : Int} (h : IntsAre vs (wsGrow ns b)) (hb : b ≤ 100) (hn : ns.length ≤ 100) : vs.length ≤ 1000 := by
  rw [h.length]; unfold wsGrow; split <;> (try rw [List.length_append, List.length_replicate]) <;> omega
theorem ws_tab' {pre : List Int} {n nt b : Int} {cs : List Int} {k : Nat} (h : WsAt pre n nt b cs) (hk : k = 9) : WsAt (pre ++ [(k : Int)]) (n + 1) (nt + 1) 0 (wsAdd cs b) := by
  subst hk; exact wsAt_tab h
theorem ws_blank' {pre : List Int} {n nt b : Int} {cs : List Int} {k : Nat} (h : WsAt pre n nt b cs) (hk : k = 32) : WsAt (pre ++ [(k : Int)]) (n + 1) nt (b + 1) cs := by
  subst hk; exact wsAt_blank h
theorem not_blank {l a b : List Int} (h : l = a ++ 120 :: b) (hb : Blank l) : False := by
  rcases hb 120 (by rw [h]; exact List.mem_append.mpr (.inr (.head _))) with e | e <;> exact absurd e (by decide)
set_option maxRecDepth 100000 in
set_option maxHeartbeats 1000000 in
theorem ws_spec {x : Str} {t1 : Tok}
  (B : Below A₀ base outer h₀) (F : Fr h₀ L s.heap m) (X : (Mine.hd.heap_39 w.params).In h₀) (N : News h₀ L s.heap news) (T : Top p loose mean mg mb h₀) (hk : cs.kind = .function)
  (hd : dp + 6 < recursionLimit) (hu : un + 50 < cLine) (hl : x.length ≤ 100) (hAs : x.cps.all (· < 128) = true) {ls lp : List Int} (hx : KStt.codes x = ls ++ 120 :: lp) (hbl : Blank ls)
  (hret : ∀ (xi dx cu tu : Addr) (vs : List Value) (n nt b : Int) (ns : List Int) (k1 k2 k3 k4 k5 kn knt kb : Tok) (h' : Heap) (tk' : Nat), wsRun ls = (n, nt, b, ns) → IntsAre vs ns → (∀ p ∈ news, p.1 < dx) → dx < xi → @LT.lt Nat _ xi tu → @LT.lt Nat _ xi cu → Fr h₀ L h' m →
    News h₀ L h' ((tu, { cls := .type "tuple", data := .seq #[.ref cu, .int b kb] }) :: (cu, { cls := .type "tuple", data := .seq vs.toArray }) :: (xi, instObj 133 dx) ::
      (dx, dictOf [{ hash := PyData.keyHash w.params (Str.ofString "raw"), key := .str (Str.ofString "raw") k1, val := .str x t1 }, { hash := PyData.keyHash w.params (Str.ofString "n"), key := .str (Str.ofString "n") k2, val := .int n kn },
        { hash := PyData.keyHash w.params (Str.ofString "nt"), key := .str (Str.ofString "nt") k3, val := .int nt knt }, { hash := PyData.keyHash w.params (Str.ofString "norm"), key := .str (Str.ofString "norm") k4, val := .ref tu },
        { hash := PyData.keyHash w.params (Str.ofString "is_simple"), key := .str (Str.ofString "is_simple") k5, val := .bool (decide ((ns.length : Int) ≤ 1)) }] 5) :: news) → Q (.ref xi) { s with heap := h', toks := tk' }) :
  wpAny (model prog w) (ktrTop dp un gd cn cs L a ccd cl outer) (call (.ref 133) [.str x t1]) Q E s := by
  k_with_none
  w_top off
  k_with "pyIter str" =>
    (k_here; (rename Fr _ _ _ _ => lF'); (rename News _ _ _ _ => lN'); (have lN3 := news_drop lN');
     (with_unfolding_all refine' txt_loop (σ := List Value × Addr × Nat × (Int × Tok) × (Int × Tok) × (Int × Tok)) (fun c => (c.2.1, listOf c.1.toArray c.2.2.1) :: _) (fun c => [(Str.ofString "count", Value.ref c.2.1), (Str.ofString "b", Value.int c.2.2.2.1.1 c.2.2.2.1.2), (Str.ofString "n", Value.int c.2.2.2.2.1.1 c.2.2.2.2.1.2), (Str.ofString "nt", Value.int c.2.2.2.2.2.1 c.2.2.2.2.2.2)]) (fun c => xi ≠ c.2.1 ∧ dx ≠ c.2.1) [] (fun pre c => ∃ ns, IntsAre c.1 ns ∧ WsAt pre c.2.2.2.2.1.1 c.2.2.2.2.2.1 c.2.2.2.1.1 ns) ([], _, 0, (0, _), (0, _), (0, _)) hAs (by rfl) lF' lN3 ?kf ?kk ⟨[], IntsAre.nil, wsAt_start⟩ ?_ ?_);
     (case kk => kst_all);
     (case kf => (constructor <;> k_ne));
     (all_goals clear lF' lN' lN3);
     (focus (intro kC kPre kPost kN kT kU kH kTk kI kO kEq kNe kFacts kInv kFr kNews; obtain ⟨kV, kA, kCn, ⟨kB, kBt⟩, ⟨kM, kMt⟩, ⟨kNt, kNtt⟩⟩ := kC; obtain ⟨kNs, kIn, kInv⟩ := kInv; (dsimp only [kstB, envOf] at kFr); (dsimp only [envOf] at kNews); (dsimp only at kIn kInv kFacts); (have kBd := ws_bound hl kEq kInv); (have kNa : kA ≠ kI := kNe _ List.mem_cons_self); (have kNx : xi ≠ kI := kNe _ (.tail _ List.mem_cons_self)); (have kNd : dx ≠ kI := kNe _ (.tail _ (.tail _ List.mem_cons_self))); clear kNe; (have kZ1 : @Ne Nat xi kA := kFacts.1); (have kZ2 : @Ne Nat dx kA := kFacts.2); (have kZ3 : @Ne Nat kA kI := kNa); (have kZ4 : @Ne Nat xi kI := kNx); (have kZ5 : @Ne Nat dx kI := kNd); (simp only [List.nil_append, List.cons_append] at kNews); (try k_fold)));
     (rotate_left 1);
     (focus (intro kC kU kH kTk kFacts kInv kFr kNews; obtain ⟨kNs, kIn, kInv⟩ := kInv; exact (not_blank hx kInv.blank).elim)))
  k_with "call builtin:len" => ((with_reducible show wpAny _ _ (call (Value.builtin "len") [Value.ref _]) _ _ _); (refine KM.len_K (n := kNs.length) (by k_asm) (by k_dflt k_mem) (by rw [List.size_toArray]; exact kIn.length) (by omega) ?_); (try dsimp only); (try k_fold))
  k_with "binaryOp Mult ref int" => ((with_reducible show wpAny _ _ (binaryOp Operator.Mult (Value.ref _) (Value.int _ _)) _ _ _); (with_unfolding_all refine' KM.mul (ns := [0]) ?F ?N ?l ?i ?lo ?hi ?z ?_); (case F => k_asm); (case N => k_asm); (case l => is_list); (case i => exact .cons _ _ .nil); (case lo => omega); (case hi => omega); (case z => (simp only [List.length_cons, List.length_nil]; omega)); (intro D' h' F' N' l1 i1 n1 s1 e1 e2 e3); (try k_lt l1); (try dsimp only); (try k_fold))
  k_with "binaryOp Add ref ref" => ((with_reducible show wpAny _ _ (binaryOp Operator.Add (Value.ref _) (Value.ref _)) _ _ _); (with_unfolding_all refine' kmk_add_ints (ns := kNs) ?F ?N ?a ?b ?i ?j ?_ ?z); (case F => k_asm); (case N => k_asm); (case a => is_list); (case b => is_list); (case i => exact kIn); (case j => assumption); (case z => (simp only [sizeLine_eq]; rw [KM.len_rep]; simp only [List.length_cons, List.length_nil]; omega)); (intro kD kW h' F' N' kL kJ); (try k_lt kL); (try dsimp only); (try k_fold))
  k_with "subscriptTail Name Name ref int" => (k_here; (with_reducible show wpAny _ _ (subscriptTail _ _ (Value.ref _) (Value.int _ _)) _ _ _); (with_unfolding_all refine' item_ints (ns := wsGrow kNs kB) ?k1 ?k2 ?k3 ?k4 ?k5 ?k6 ?_ ?k7; (case k1 => k_asm); (case k2 => k_mem); (case k3 => first | exact grow_no kIn (by assumption) | exact grow_yes (by assumption) (by assumption)); (case k4 => omega); (case k5 => exact wsGrow_length); (case k6 => (have := wsGrow_length (cs := kNs) (b := kB); unfold wsGrow; split <;> (try rw [List.length_append, List.length_replicate]) <;> omega)); (case k7 => with_unfolding_all rfl)); intro tI'; (try dsimp only); (try k_fold))
  k_with "setItem ref int" => ((with_reducible show wpAny _ _ (setItem (Value.ref _) (Value.int _ _) _) _ _ _); (with_unfolding_all refine' set_hd ?sF ?sN ?sO ?sA ?sB ?sZ ?_); (case sF => k_asm); (case sN => k_asm); (case sO => ((repeat' (first | exact oo_nil | refine oo_cons ?_ ?_)) <;> (first | exact kFacts.1 | exact kFacts.2 | exact kNa.symm | k_ne))); (case sA => omega); (case sB => first | exact ws_fit (grow_no kIn (by assumption)) | exact ws_fit (grow_yes kJ (by assumption))); (case sZ => first | exact ws_fit2 (grow_no kIn (by assumption)) (by omega) (by omega) | exact ws_fit2 (grow_yes kJ (by assumption)) (by omega) (by omega)); (intro h' F' N'); (try dsimp only); (try k_fold))
  k_with "TxtEnd" => (rename News _ _ _ _ => nE'; (with_unfolding_all first
    | (refine' txt_end (σ := List Value × Addr × Nat × (Int × Tok) × (Int × Tok) × (Int × Tok)) (kV, kA, kCn, (kB + 1, _), (kM + 1, _), (kNt, kNtt)) ?kf nE' ?ki ?ko ?kn ?kF ?kk ?ks ⟨_, kIn, ws_blank' kInv (code_32 (by assumption))⟩; (case kf => assumption); (case ki => kst_in); (case ko => (repeat' (first | exact List.mem_cons_self | apply List.mem_cons_of_mem))); (case kF => exact kFacts); (case kn => (intro p hp; rcases List.mem_cons.mp hp with rfl | hp; exact kNa; rcases List.mem_cons.mp hp with rfl | hp; exact kNx; rw [List.mem_singleton.mp hp]; exact kNd)); (case kk => kst_all); (case ks => kst_same))
    | (refine' txt_end (σ := List Value × Addr × Nat × (Int × Tok) × (Int × Tok) × (Int × Tok)) (kV.set kB.toNat (.int _ _), kA, kCn, (0, _), (kM + 1, _), (kNt + 1, _)) ?kf nE' ?ki ?ko ?kn ?kF ?kk ?ks ⟨wsAdd kNs kB, ints_set (grow_no kIn (by assumption)) _, ws_tab' kInv (code_9 (by assumption))⟩; (case kf => assumption); (case ki => kst_in); (case ko => (repeat' (first | exact List.mem_cons_self | apply List.mem_cons_of_mem))); (case kF => exact kFacts); (case kn => (intro p hp; rcases List.mem_cons.mp hp with rfl | hp; exact kNa; rcases List.mem_cons.mp hp with rfl | hp; exact kNx; rw [List.mem_singleton.mp hp]; exact kNd)); (case kk => kst_all); (case ks => kst_same))
    | ((rename IntsAre _ (_ ++ _) => kJ2); (refine' txt_end (σ := List Value × Addr × Nat × (Int × Tok) × (Int × Tok) × (Int × Tok)) (_, _, 0, (0, _), (kM + 1, _), (kNt + 1, _)) ?kf nE' ?ki ?ko ?kn ?kF ?kk ?ks ⟨wsAdd kNs kB, ints_set (grow_yes (b := kB) kJ2 (by assumption)) _, ws_tab' kInv (code_9 (by assumption))⟩); (case kf => assumption); (case kk => kst_all); (case ks => kst_same); (case ki => kst_in); (case ko => (repeat' (first | exact List.mem_cons_self | apply List.mem_cons_of_mem))); (case kn => (intro p hp; rcases List.mem_cons.mp hp with rfl | hp; (focus k_ne); rcases List.mem_cons.mp hp with rfl | hp; exact kNx; rw [List.mem_singleton.mp hp]; exact kNd)); (case kF => (constructor <;> k_ne)))))
  k_with "call type:tuple" => ((rename News _ _ _ _ => nT); (with_reducible show wpAny _ _ (call (Value.type "tuple") [Value.ref _]) _ _ _); (with_unfolding_all refine' kde_tupleOf (items := kV.toArray) (zs := kV) ?tF ?tN ?tL ?tZ ?tE ?_); (case tF => k_asm); (case tN => k_asm); (case tL => exact list_at nT List.mem_cons_self); (case tZ => (rw [List.size_toArray]; (have := kIn.length); omega)); (case tE => rfl); intro D' h' F' N' l1; (try k_lt l1); (try dsimp only); (try k_fold))
  refine' call_cls F X N ?k1 ?k2 ?k3 ?_
  case k1 => k_is
  case k2 => k_is
  case k3 => k_is
  intro xi dx h₁ F₁ N₁ l1lt l2
  have hAp : Apart [(xi, instObj 133 dx), (dx, dictOf [] 0)] news := by
    intro p hp hm
    have := l1lt p hp
    rcases List.mem_cons.mp hm with e | hm
    · have e' : p.1 = xi := e
      exact absurd (Nat.lt_trans (e' ▸ this) l2) (Nat.lt_irrefl _)
    · have e' : p.1 = dx := List.mem_singleton.mp hm
      exact absurd (e' ▸ this) (Nat.lt_irrefl _)
  have hTo : News h₀ L h₁ [(xi, instObj 133 dx), (dx, dictOf [] 0)] := fun p hp => N₁ p (by
    rcases List.mem_cons.mp hp with rfl | hp
    · exact .head _
    · rw [List.mem_singleton.mp hp]; exact .tail _ (.head _))
  have N₂ : News h₀ L h₁ news := fun p hp => N₁ p (.tail _ (.tail _ hp))
  k_lt2 l2
  w_strict (k_dflt cell_enter)
  k_steps
  have kE := blank_split kInv.blank hbl (kEq.symm.trans hx) (not_32 (by assumption)) (not_9 (by assumption)) (by decide) (by decide)
  subst kE
  dsimp only [TxtEnd]
  k_steps
  with_unfolding_all refine hret _ _ _ _ _ _ _ _ _ _ _ _ _ _ _ _ _ _ _ kInv.run kIn l1lt l2 ?_ ?_ (by assumption) (news_drop4 (join_rest (made := [_, _, _, _, _, _]) (s := { s with heap := h₁ }) N₂ (by assumption) (by assumption) (by assumption)))
  · omega
  · omega
end
section
variable {prog : Program} {w : World} {p : Program} {loose : List Str} {mean : ExcName → Option Value} {mg mb : Str → Option Value} 
  {dp un : Nat} {gd : Option (List Code)} {cn : Str} {cs : Scope} {L a : Addr} {ccd : Value} {cl : List (Str × Addr)} {outer : List Env} {A₀ : Around} {base h₀ : Heap} {m : Str → Option Value} {s : Shared} {Q E : Value → Shared → Prop} {news : List (Addr × Obj)}
theorem len_tup {A : Around} {cu : Addr} {vs : List Value} {ns : List Int} {news' : List (Addr × Obj)} (hi : IntsAre vs ns) (hl : ns.length ≤ 1000) (N : News h₀ L s.heap news') (hm : (cu, ({ cls := .type "tuple", data := .seq vs.toArray } : Obj)) ∈ news') (h : Q (.int (ns.length : Nat) (s.toks + 1)) { s with toks := s.toks + 1 + 1 }) :
    wpAny (model prog w) A (call (.builtin "len") [.ref cu]) Q E s := by
  have e : vs.toArray.size = ns.length := by rw [List.size_toArray]; exact hi.length
  exact len_tuple ⟨_, (N _ hm).1, rfl, _, rfl⟩ (by rw [e]; omega) (by rw [e]; exact h)
/-- what Whitespace(text) has left in the ledger -/
abbrev wsLed (pp : Params) (xi dx cu tu : Addr) (x : Str) (t1 : Tok) (vs : List Value) (n nt b : Int) (sz : Nat) (k1 k2 k3 k4 k5 kn knt kb : Tok) : List (Addr × Obj) :=
  [(tu, { cls := .type "tuple", data := .seq #[.ref cu, .int b kb] }), (cu, { cls := .type "tuple", data := .seq vs.toArray }), (xi, instObj 133 dx),
      (dx, dictOf [{ hash := PyData.keyHash pp (Str.ofString "raw"), key := .str (Str.ofString "raw") k1, val := .str x t1 }, { hash := PyData.keyHash pp (Str.ofString "n"), key := .str (Str.ofString "n") k2, val := .int n kn },
        { hash := PyData.keyHash pp (Str.ofString "nt"), key := .str (Str.ofString "nt") k3, val := .int nt knt }, { hash := PyData.keyHash pp (Str.ofString "norm"), key := .str (Str.ofString "norm") k4, val := .ref tu },
        { hash := PyData.keyHash pp (Str.ofString "is_simple"), key := .str (Str.ofString "is_simple") k5, val := .bool (decide ((sz : Int) ≤ 1)) }] 5)]
set_option maxRecDepth 100000 in
set_option maxHeartbeats 1000000 in
theorem lr_spec {x : Str} {t1 : Tok} {xi dx cu tu : Addr} {vs : List Value} {ns : List Int} {n nt b : Int} {sz : Nat} {k1 k2 k3 k4 k5 kn knt kb : Tok}
  (B : Below A₀ base outer h₀) (F : Fr h₀ L s.heap m) (X : (Mine.hd.heap_39 w.params).In h₀) (hTo : News h₀ L s.heap (wsLed w.params xi dx cu tu x t1 vs n nt b sz k1 k2 k3 k4 k5 kn knt kb)) (N : News h₀ L s.heap news) (hAp : Apart (wsLed w.params xi dx cu tu x t1 vs n nt b sz k1 k2 k3 k4 k5 kn knt kb) news) (T : Top p loose mean mg mb h₀) (hk : cs.kind = .function)
  (hd : dp + 6 < recursionLimit) (hu : un + 50 < cLine) (hi : IntsAre vs ns) (hl : ns.length ≤ 100)
  (hret : ∀ (h' : Heap) (tk' tk2 : Nat), Fr h₀ L h' m → News h₀ L h' news → News h₀ L h' (wsLed w.params xi dx cu tu x t1 vs n nt b sz k1 k2 k3 k4 k5 kn knt kb) → Q (.int (if b > (ns.length : Int) - 1 then b else (ns.length : Int) - 1) tk2) { s with heap := h', toks := tk' }) :
  wpAny (model prog w) (ktrTop dp un gd cn cs L a ccd cl outer) (call (.ref 95) [.ref xi]) Q E s := by
  k_with_none
  w_top off
  k_with "call builtin:len" => ((rename News _ _ _ _ => nT); (with_reducible show wpAny _ _ (call (Value.builtin "len") [Value.ref cu]) _ _ _); (refine len_tup hi (by omega) nT (by first | exact List.mem_cons_self | exact List.mem_cons_of_mem _ List.mem_cons_self | exact List.mem_cons_of_mem _ (List.mem_cons_of_mem _ List.mem_cons_self)) ?_); (try dsimp only); (try k_fold))
  refine wpAny_call ?_
  w_strict (k_dflt cell_enter)
  k_steps
  with_unfolding_all exact hret _ _ _ (by assumption) (rest_only N (by assumption) (by assumption)) (by assumption)
end
section
variable {prog : Program} {w : World} {p : Program} {loose : List Str} {mean : ExcName → Option Value} {mg mb : Str → Option Value} 
  {dp un : Nat} {gd : Option (List Code)} {cn : Str} {cs : Scope} {L a : Addr} {ccd : Value} {cl : List (Str × Addr)} {outer : List Env} {A₀ : Around} {base h₀ : Heap} {m : Str → Option Value} {s : Shared} {Q E : Value → Shared → Prop} {news : List (Addr × Obj)}
theorem item_tup {news' : List (Addr × Obj)} {A : Around} {l : Addr} {vs : List Value} {ns : List Int} {k : Int} {u : Tok} {value slice : PySem.Expr} (N : News h₀ L s.heap news') (hm : (l, ({ cls := .type "tuple", data := .seq vs.toArray } : Obj)) ∈ news') (hi : IntsAre vs ns) (h0 : 0 ≤ k) (hk : k < ns.length) (hn : ns.length < 2 ^ 62)
    (h : ∀ t, Q (.int (ns.getD k.toNat 0) t) s)
    (hs : subscripted slice false (.ref l) (.int k u) = operate [.ref l, .int k u] (getItem (.ref l) (.int k u)) := by with_unfolding_all rfl) :
    wpAny (model prog w) A (subscriptTail value slice (.ref l) (.int k u)) Q E s := by
  have hl : IsTup s.heap l vs.toArray := ⟨_, (N _ hm).1, rfl, _, rfl⟩
  obtain ⟨t, ht⟩ := hi.get k.toNat (ns.getD k.toNat 0) (by rw [List.getD_eq_getElem?_getD, List.getElem?_eq_getElem (by omega)]; rfl)
  have e : vs.toArray.size = ns.length := by rw [List.size_toArray]; exact hi.length
  exact tail_any hl.typeIs slot_tuple_getitem.lookup (getItem_tuple hl (by omega) (by omega) (seqIndex_of h0 (by rw [e]; exact hk)) (by simpa using ht) (h t)) hs
theorem fdiv_small {a b : Int} (h0 : 0 ≤ a) (hb : 1 ≤ b) : 0 ≤ Int.fdiv a b ∧ Int.fdiv a b ≤ a := by
  rw [Int.fdiv_eq_ediv_of_nonneg _ (by omega)]
  exact ⟨Int.ediv_nonneg h0 (by omega), Int.ediv_le_self _ h0⟩
def ilF (size : Int) (ns : List Int) (pre : List Int) : Int := pre.foldl (fun il i => il + Int.fdiv i size * ns.getD i.toNat 0) 0
theorem ilF_snoc (size : Int) (ns pre : List Int) (k : Int) : ilF size ns (pre ++ [k]) = ilF size ns pre + Int.fdiv k size * ns.getD k.toNat 0 := by
  unfold ilF; rw [List.foldl_append]; rfl
set_option maxRecDepth 100000 in
set_option maxHeartbeats 1000000 in
theorem il_spec {x : Str} {t1 tz : Tok} {xi dx cu tu : Addr} {vs : List Value} {ns : List Int} {n nt b size : Int} {sz : Nat} {k1 k2 k3 k4 k5 kn knt kb : Tok}
  (B : Below A₀ base outer h₀) (F : Fr h₀ L s.heap m) (X : (Mine.hd.heap_39 w.params).In h₀) (hTo : News h₀ L s.heap (wsLed w.params xi dx cu tu x t1 vs n nt b sz k1 k2 k3 k4 k5 kn knt kb)) (N : News h₀ L s.heap news) (hAp : Apart (wsLed w.params xi dx cu tu x t1 vs n nt b sz k1 k2 k3 k4 k5 kn knt kb) news) (T : Top p loose mean mg mb h₀) (hk : cs.kind = .function)
  (hd : dp + 6 < recursionLimit) (hu : un + 50 < cLine) (hi : IntsAre vs ns) (hl : ns.length ≤ 100) (hz : 1 ≤ size ∧ size ≤ 5)
  (hret : ∀ (h' : Heap) (tk' tk2 : Nat), Fr h₀ L h' m → News h₀ L h' news → News h₀ L h' (wsLed w.params xi dx cu tu x t1 vs n nt b sz k1 k2 k3 k4 k5 kn knt kb) → Q (.int (b + size * (ilF size ns (rangeKs size ((ns.length : Int) - size).toNat) + nt)) tk2) { s with heap := h', toks := tk' }) :
  wpAny (model prog w) (ktrTop dp un gd cn cs L a ccd cl outer) (call (.ref 102) [.ref xi, .int size tz]) Q E s := by
  k_with_none
  w_top off
  k_with "call builtin:len" => ((rename News _ _ _ _ => nT); (with_reducible show wpAny _ _ (call (Value.builtin "len") [Value.ref cu]) _ _ _); (refine len_tup hi (by omega) nT (by first | exact List.mem_cons_self | exact List.mem_cons_of_mem _ List.mem_cons_self | exact List.mem_cons_of_mem _ (List.mem_cons_of_mem _ List.mem_cons_self)) ?_); (try dsimp only); (try k_fold))
  k_with "pyIter ref" =>
    (k_here; (with_reducible show wpAny _ _ (pyIter (Value.ref _)) (fun it s₂ => LoopAtV _ _ _ _ _ _ _ _ _ it s₂) _ _); (rename Fr _ _ _ _ => lF'); (rename News _ _ _ _ => lN'); (rename IsRange _ _ _ _ _ _ _ _ => rgX);
     (with_unfolding_all refine' kst_range (σ := Int × Tok) (fun c => _) (fun c => [(Str.ofString "il", Value.int c.1 c.2)]) (fun _ => True) [] (fun pre c => c.1 = ilF size ns pre) (0, _) (by rfl) rgX (by exact small_one (by omega) (by omega) (by omega) (by omega)) (by exact rangeSize_nat _ _) lF' lN' trivial ?kk rfl ?_ ?_);
     (case kk => kst_all);
     (all_goals clear lF' lN');
     (focus (intro kC kPre kN kT kU kH kTk kOwn kEq kLt kOff kFacts kInv kFr kNews; obtain ⟨kI, kIt⟩ := kC; (dsimp only [kstB, envOf] at kFr); (dsimp only [envOf] at kNews); (dsimp only at kInv); (have kQ := fdiv_small (a := kN) (b := size) (by omega) hz.1); (simp only [List.nil_append, List.cons_append, List.append_nil] at kNews); (try k_fold)));
     (rotate_left 1);
     (focus (intro kC kU kH kTk kFacts kInv kFr kNews; obtain ⟨kI, kIt⟩ := kC; (dsimp only [kstB, envOf] at kFr); (dsimp only [envOf] at kNews); (dsimp only at kInv); (try k_fold)));
     (rotate_left 1))
  k_with "subscriptTail Name Name ref int" => ((rename News _ _ _ _ => nT); (with_reducible show wpAny _ _ (subscriptTail _ _ (Value.ref cu) (Value.int _ _)) _ _ _); (with_unfolding_all refine' item_tup (ns := ns) nT ?k2 hi ?k4 ?k5 ?k6 ?_ ?k7; (case k2 => (first | exact List.mem_cons_self | exact List.mem_cons_of_mem _ List.mem_cons_self | exact List.mem_cons_of_mem _ (List.mem_cons_of_mem _ List.mem_cons_self))); (case k4 => omega); (case k5 => omega); (case k6 => omega); (case k7 => with_unfolding_all rfl)); intro tI'; (try dsimp only); (try k_fold))
  k_with "binaryOp Mult int int" => ((with_reducible refine mul_int ?_ (IntMulOk.of_left (PySem.intBits_le_64 (by omega) (by omega)))); (try dsimp only); (try k_fold))
  k_with "InvEndN" => (rename News _ _ _ _ => nE'; (with_unfolding_all (refine' kst_end (σ := Int × Tok) (kI + Int.fdiv kN size * ns.getD kN.toNat 0, _) ?kf nE' ?ki ?ko ?ka trivial ?kk ?ks ?kp; (case kf => assumption); (case ki => kst_in); (case ko => (intro p hp; kst_mem)); (case ka => rfl); (case kk => kst_all); (case ks => kst_same); (case kp => (dsimp only; rw [ilF_snoc, kInv])))))
  refine wpAny_call ?_
  w_strict (k_dflt cell_enter)
  k_steps
  subst kInv
  with_unfolding_all exact hret _ _ _ (by assumption) (rest_only N (by assumption) (by assumption)) (by assumption)
end
section
variable {prog : Program} {w : World} {p : Program} {loose : List Str} {mean : ExcName → Option Value} {mg mb : Str → Option Value} 
  {dp un : Nat} {gd : Option (List Code)} {cn : Str} {cs : Scope} {L a : Addr} {ccd : Value} {cl : List (Str × Addr)} {outer : List Env} {A₀ : Around} {base h₀ : Heap} {m : Str → Option Value} {s : Shared} {Q E : Value → Shared → Prop} {news : List (Addr × Obj)}
theorem codeHd_181 : codeHdIn (Mine.hd.heap_39 w.params) 181 177 = true := by with_unfolding_all rfl
theorem codeHd_174 : codeHdIn (Mine.hd.heap_39 w.params) 174 172 = true := by with_unfolding_all rfl
def revS (x : Str) : Str := Txt.sliceBy x none none (-1, 0)
theorem revS_tok (x : Str) (u : Tok) : Txt.sliceBy x none none (-1, u) = revS x := rfl
theorem revS_len (x : Str) : (revS x).length = x.length := step_rev_len x 0
theorem dots_len : dots.length = 3 := by decide
theorem slice_len_le {x : Str} {a b : Option Int} (n : Nat) (h : x.length ≤ n) : (Txt.slice x a b).length ≤ n := by
  exact Nat.le_trans (Txt.slice_le x a b) h
theorem item_range {news' : List (Addr × Obj)} {A : Around} {l : Addr} {vs : List Value} {n : Nat} {c : Nat} {k : Int} {u : Tok} {value slice : PySem.Expr} (N : News h₀ L s.heap news') (hm : (l, listOf vs.toArray c) ∈ news') (hi : IntsAre vs (rangeKs 0 ((n : Int) - 0).toNat)) (h0 : 0 ≤ k) (hk : k < n) (hn : n < 2 ^ 62)
    (h : ∀ t, Q (.int k t) s)
    (hs : subscripted slice false (.ref l) (.int k u) = operate [.ref l, .int k u] (getItem (.ref l) (.int k u)) := by with_unfolding_all rfl) :
    wpAny (model prog w) A (subscriptTail value slice (.ref l) (.int k u)) Q E s := by
  refine item_ints N hm hi h0 (by rw [rangeKs_length]; omega) (by rw [rangeKs_length]; omega) (fun t => ?_) hs
  rw [kll_at (by omega)]
  have e : (0 : Int) + (k.toNat : Int) = k := by omega
  rw [e]; exact h t
def bkGot (lead : Str) (k : Int) : Str := Txt.slice (lead ++ lead) none (some ((lead.length : Int) + k))
def bkGo (lead : Str) (k : Nat) : Bool := !inS (bkGot lead k) (revS lead)
theorem bk_yes {lead : Str} {k : Int} (h0 : 0 ≤ k) (h : inS (Txt.slice (lead ++ lead) none (some ((lead.length : Int) + k))) (revS lead) = false) : bkGo lead k.toNat = true := by
  unfold bkGo bkGot
  rw [Int.toNat_of_nonneg h0, h]; rfl
theorem bk_no {lead : Str} {k : Int} (h0 : 0 ≤ k) (h : inS (Txt.slice (lead ++ lead) none (some ((lead.length : Int) + k))) (revS lead) = true) : bkGo lead k.toNat = false := by
  unfold bkGo bkGot
  rw [Int.toNat_of_nonneg h0, h]; rfl
theorem bk_start (go : Nat → Bool) (n : Nat) : BisAt go n 0 ((rangeKs 0 ((n : Int) - 0).toNat).length : Int) := by
  have e : ((rangeKs 0 ((n : Int) - 0).toNat).length : Int) = n := by rw [rangeKs_length]; omega
  rw [e]; exact bisAt_start _ _
theorem tab_rest {g h' : Heap} {L' P : Addr} {ps : Array Value} {m' : Str → Option Value} {made rest : List (Addr × Obj)} (N : News h₀ L s.heap rest) (k : Kept g rest) (F' : Fr g L' h' m') (kN : News h₀ L h' made) (hm : (P, tabObj ps) ∈ made) : News h₀ L h' ((P, tabObj ps) :: rest) := fun q hq => by
  rcases List.mem_cons.mp hq with rfl | hq
  · exact kN _ hm
  · exact ⟨F'.keep _ _ (k q hq), (N q hq).2⟩
set_option maxRecDepth 100000 in
set_option maxHeartbeats 1000000 in
theorem back_spec {lead : Str} {t1 : Tok}
  (B : Below A₀ base outer h₀) (F : Fr h₀ L s.heap m) (X : (Mine.hd.heap_39 w.params).In h₀) (hTo : News h₀ L s.heap [(177, tabObj #[])]) (N : News h₀ L s.heap news) (hAp : Apart [(177, tabObj #[])] news) (T : Top p loose mean mg mb h₀) (hk : cs.kind = .function)
  (hd : dp + 9 < recursionLimit) (hu : un + 90 < cLine) (hl : 1 ≤ lead.length ∧ lead.length ≤ 19) (hc : Txt.contains (dots ++ revS lead ++ dots) dots = true) (hs : Txt.split (dots ++ revS lead ++ dots) dots = [Str.empty, revS lead, Str.empty])
  (hret : ∀ (ps : Array Value) (h' : Heap) (tk' tk2 : Nat), Fr h₀ L h' m → News h₀ L h' ((177, tabObj ps) :: news) → Q (.int ((bisV (bkGo lead) 0 lead.length : Nat) : Int) tk2) { s with heap := h', toks := tk' }) :
  wpAny (model prog w) (ktrTop dp un gd cn cs L a ccd cl outer) (call (.ref 182) [.str lead t1]) Q E s := by
  k_with_none
  w_top off
  have hCH : CodeHd h₀ 181 177 := codeHd_of_K (K := Mine.hd.heap_39 w.params) X codeHd_181
  have hrl := revS_len lead
  have hdl := dots_len
  k_with "binaryOp Add str str" => ((with_reducible show wpAny _ _ (binaryOp Operator.Add (Value.str _ _) (Value.str _ _)) _ _ _); (try rw [revS_tok]); (refine SBL.add (hsz := ?hsz) ?_); (case hsz => (simp only [sizeLine_eq, Str.length_append]; (try rw [hdl]); (try rw [hrl]); omega)); intro t9 k9 e9; (try dsimp only); (try k_fold))
  k_with "eval Lambda" => ((refine' kla_eval ?d0 ?_; (case d0 => exact rfl)); (with_unfolding_all refine' kla_nest ?F ?N ?T ?C ?cd ?U ?t ?n ?cl ?_); (case F => k_asm); (case N => k_asm); (case T => k_asm); (case cd => exact rfl); (case C => exact codeHd_of_K (P := 177) (K := Mine.hd.heap_39 w.params) (by assumption) codeHd_181); (case U => k_updF); (case t => kn_triples); (case n => kn_among); (case cl => with_unfolding_all exact rfl); k_whole; intro f' c' oc' vs' t' ct' h' tk' F' N' d1' d2' l1 l2; (try dsimp only at N'); (try k_lt l1); (try k_lt2 l2))
  k_with "exec While Compare" =>
    ((k_here); (with_reducible show wpAny _ _ (exec (Stmt.While _ _ _ _) _) _ _ _); (rename Fr _ _ _ _ => lF'); (rename News _ _ _ _ => lN');
     (with_unfolding_all refine' ksw_while (σ := Int × Tok × Int × Tok) (fun _ => _) (fun c => [(Str.ofString "lo", Value.int c.1 c.2.1), (Str.ofString "hi", Value.int c.2.2.1 c.2.2.2)]) (fun _ => True) [Str.ofString "mid"] (fun c => BisAt (bkGo lead) lead.length c.1 c.2.2.1) (fun c => (c.2.2.1 - c.1).toNat) (0, _, ((rangeKs 0 ((lead.length : Int) - 0).toNat).length : Int), _) lF' lN' trivial ?kk ?kp ?_);
     (case kk => kst_all); 
     (case kp => exact bk_start _ _);
     (clear lF' lN');
     (intro kC kU kH kTk kFacts kInv kFr kNews; obtain ⟨kLo, kLt, kHi, kHt⟩ := kC; (try dsimp only [kstB, envOf] at kFr); (try dsimp only [envOf] at kNews); (try dsimp only at kInv); (try k_fold)))
  k_with "call ref" => ((with_reducible show wpAny _ _ (call (Value.ref 71) _) _ _ _); ((with_unfolding_all refine' ell_spec (mid := revS lead) ?kB ?kF ?kX ?kN ?kT ?kK ?kd ?ku ?kc ?ks ?k1 ?k2 ?k3 ?_); (case kB => k_asm); (case kF => k_asm); (case kX => k_asm); (case kN => k_asm); (case kT => k_asm); (case kK => exact rfl); (case kd => ktr_room); (case ku => ktr_units); (case kc => exact hc); (case ks => exact hs); (case k1 => (simp only [Str.length_append]; rw [hdl, hrl]; omega)); (case k3 => omega)); (case k2 => exact slice_len_le _ (by rw [Str.length_append]; omega)); intro h' tk' F' N'; (try dsimp only); (try k_fold))
  k_with "subscriptTail Name Name ref int" => (k_here; (with_reducible show wpAny _ _ (subscriptTail _ _ (Value.ref _) (Value.int _ _)) _ _ _); (with_unfolding_all refine' item_range (n := lead.length) ?k1 ?k2 ?k3 ?k4 ?k5 ?k6 ?_ ?k7; (case k1 => k_asm); (case k2 => k_mem); (case k3 => assumption); (case k4 => exact (bisAt_mid (by assumption) (by assumption)).1); (case k5 => exact (bisAt_mid (by assumption) (by assumption)).2.1); (case k6 => omega); (case k7 => with_unfolding_all rfl); k_whole); intro t'; (try k_fold))
  k_with "KswEnd" => (rename News _ _ _ _ => nE'; (have kMid := bisAt_mid kInv (by assumption)); (first
    | ((with_unfolding_all refine' ksw_end (σ := Int × Tok × Int × Tok) (Int.fdiv (kLo + kHi) 2 + 1, _, kHi, kHt) ?kf nE' ?ki trivial ?kk ?ks ?kp ?km); (case kf => assumption); (case ki => kst_in); (case kk => kst_all); (case ks => ksw_same); (case kp => (exact bisAt_right kInv (by assumption) (bk_yes kMid.1 (by assumption)))); (case km => (dsimp only; omega)))
    | ((with_unfolding_all refine' ksw_end (σ := Int × Tok × Int × Tok) (kLo, kLt, Int.fdiv (kLo + kHi) 2, _) ?kf nE' ?ki trivial ?kk ?ks ?kp ?km); (case kf => assumption); (case ki => kst_in); (case kk => kst_all); (case ks => ksw_same); (case kp => (exact bisAt_left kInv (by assumption) (bk_no kMid.1 (by assumption)))); (case km => (dsimp only; omega)))))
  refine wpAny_call ?_
  w_strict (k_dflt cell_enter)
  k_steps
  have he := bisAt_end kInv (by assumption)
  subst he
  with_unfolding_all exact hret _ _ _ _ (by assumption) (tab_rest N (by assumption) (by assumption) (by assumption) (by (repeat' (first | exact List.mem_cons_self | apply List.mem_cons_of_mem))))
end
section
variable {prog : Program} {w : World} {p : Program} {loose : List Str} {mean : ExcName → Option Value} {mg mb : Str → Option Value} 
  {dp un : Nat} {gd : Option (List Code)} {cn : Str} {cs : Scope} {L a : Addr} {ccd : Value} {cl : List (Str × Addr)} {outer : List Env} {A₀ : Around} {base h₀ : Heap} {m : Str → Option Value} {s : Shared} {Q E : Value → Shared → Prop} {news : List (Addr × Obj)}
def leAt (ns : List Int) (x : Int) (i : Nat) : Bool := decide (¬ x < ns.getD i 0)
def bisR (ns : List Int) (x : Int) : Nat := bisV (leAt ns x) 0 ns.length
theorem item_ground {A : Around} {g : Heap} {L' : Addr} {m' : Str → Option Value} {l : Addr} {vs : List Value} {ns : List Int} {k : Int} {u : Tok} {value slice : PySem.Expr} (hg : g.IsList l vs.toArray) (F : Fr g L' s.heap m') (hi : IntsAre vs ns) (h0 : 0 ≤ k) (hk : k < ns.length) (hn : ns.length < 2 ^ 62)
    (h : ∀ t, Q (.int (ns.getD k.toNat 0) t) s)
    (hs : subscripted slice false (.ref l) (.int k u) = operate [.ref l, .int k u] (getItem (.ref l) (.int k u)) := by with_unfolding_all rfl) :
    wpAny (model prog w) A (subscriptTail value slice (.ref l) (.int k u)) Q E s := by
  have hl : s.heap.IsList l vs.toArray := hg.at fun o e => F.keep l o e
  obtain ⟨t, ht⟩ := hi.get k.toNat (ns.getD k.toNat 0) (by rw [List.getD_eq_getElem?_getD, List.getElem?_eq_getElem (by omega)]; rfl)
  exact tail_any hl.typeIs slot_list_getitem.lookup (wpAny_getItem_list hl h0 (by omega) (by simpa using ht) (h t)) hs
theorem len_ground {A : Around} {g : Heap} {L' : Addr} {m' : Str → Option Value} {l : Addr} {vs : List Value} {n : Nat} (hg : g.IsList l vs.toArray) (F : Fr g L' s.heap m') (hn : vs.length = n) (hn2 : n ≤ 1000)
    (h : Q (.int (n : Nat) (s.toks + 1)) { s with toks := s.toks + 1 + 1 }) :
    wpAny (model prog w) A (call (.builtin "len") [.ref l]) Q E s := by
  have hl : s.heap.IsList l vs.toArray := hg.at fun o e => F.keep l o e
  have e : vs.toArray.size = n := by rw [List.size_toArray]; exact hn
  exact len_list hl (by rw [e]; omega) (by rw [e]; exact h)
set_option maxRecDepth 100000 in
set_option maxHeartbeats 1000000 in
theorem bisr_spec {l : Addr} {vs : List Value} {ns : List Int} {x : Int} {t : Tok}
  (B : Below A₀ base outer h₀) (F : Fr h₀ L s.heap m) (X : (Mine.hd.heap_39 w.params).In h₀) (N : News h₀ L s.heap news) (T : Top p loose mean mg mb h₀) (hk : cs.kind = .function)
  (hd : dp + 3 < recursionLimit) (hu : un + 30 < cLine)
  (hi : IntsAre vs ns) (hlen : ns.length ≤ 64) (hkp : ∀ g, Fr h₀ L g m → Kept g news → g.IsList l vs.toArray)
  (hret : ∀ (h' : Heap) (tk' tk2 : Nat), Fr h₀ L h' m → News h₀ L h' news → Q (.int ((bisR ns x : Nat) : Int) tk2) { s with heap := h', toks := tk' }) :
  wpAny (model prog w) (ktrTop dp un gd cn cs L a ccd cl outer) (call (.ref 46) [.ref l, .int x t]) Q E s := by
  k_with_none
  w_top off
  have hAp : Apart [] news := apart_nil
  have hTo : News h₀ L s.heap [] := News.nil
  have hvl : vs.length = ns.length := hi.length
  k_with "call builtin:len" => (k_here; (with_reducible show wpAny _ _ (call (Value.builtin "len") [Value.ref _]) _ _ _); (with_unfolding_all refine' len_ground hlG ?k1 hvl ?k2 ?_; (case k1 => k_asm); (case k2 => omega)); (try dsimp only); (try k_fold))
  k_with "exec While" =>
    (k_here; (with_reducible show wpAny _ _ (exec (Stmt.While _ _ _ _) _) _ _ _); (rename Fr _ _ _ _ => lF'); (rename News _ _ _ _ => lN');
     (with_unfolding_all refine' ksw_while (σ := Int × Tok × Int × Tok) (fun _ => _) (fun c => [(Str.ofString "lo", Value.int c.1 c.2.1), (Str.ofString "hi", Value.int c.2.2.1 c.2.2.2)]) (fun _ => True) [Str.ofString "mid"] (fun c => BisAt (leAt ns x) ns.length c.1 c.2.2.1) (fun c => (c.2.2.1 - c.1).toNat) (0, _, ns.length, _) lF' lN' trivial ?kk ?kp ?_);
     (case kk => kst_all);
     (case kp => exact bisAt_start _ _);
     (clear lF' lN');
     (intro kC kU kH kTk kFacts kInv kFr kNews; obtain ⟨kLo, kLt, kHi, kHt⟩ := kC; (try dsimp only [kstB, envOf] at kFr); (try dsimp only [envOf] at kNews); (try dsimp only at kInv); (try k_fold)))
  k_with "subscriptTail Name Name ref int" => (k_here; (with_reducible show wpAny _ _ (subscriptTail _ _ (Value.ref _) (Value.int _ _)) _ _ _); (have kMid := bisAt_mid kInv (by assumption)); (with_unfolding_all refine' item_ground hlG ?k1 hi ?k4 ?k5 ?k6 ?_ ?k7; (case k1 => k_asm); (case k4 => exact kMid.1); (case k5 => exact kMid.2.1); (case k6 => omega); (case k7 => with_unfolding_all rfl); k_whole); intro t'; (try k_fold))
  k_with "KswEnd" => (rename News _ _ _ _ => nE'; (have kMid := bisAt_mid kInv (by assumption)); (first
    | ((with_unfolding_all refine' ksw_end (σ := Int × Tok × Int × Tok) (Int.fdiv (kLo + kHi) 2 + 1, _, kHi, kHt) ?kf nE' ?ki trivial ?kk ?ks ?kp ?km); (case kf => assumption); (case ki => kst_in); (case kk => kst_all); (case ks => ksw_same); (case kp => (exact bisAt_right kInv (by assumption) (decide_eq_true (by assumption)))); (case km => (dsimp only; omega)))
    | ((with_unfolding_all refine' ksw_end (σ := Int × Tok × Int × Tok) (kLo, kLt, Int.fdiv (kLo + kHi) 2, _) ?kf nE' ?ki trivial ?kk ?ks ?kp ?km); (case kf => assumption); (case ki => kst_in); (case kk => kst_all); (case ks => ksw_same); (case kp => (exact bisAt_left kInv (by assumption) (decide_eq_false (not_not_intro (by assumption))))); (case km => (dsimp only; omega)))))
  refine wpAny_call ?_
  w_strict (k_dflt cell_enter)
  (have hlG := hkp _ (by assumption) (by assumption))
  k_steps
  have he := bisAt_end kInv (by assumption)
  subst he
  with_unfolding_all exact hret _ _ _ (by assumption) (rest_only N (by assumption) (by assumption))
end
section
variable {prog : Program} {w : World} {p : Program} {loose : List Str} {mean : ExcName → Option Value} {mg mb : Str → Option Value} 
  {dp un : Nat} {gd : Option (List Code)} {cn : Str} {cs : Scope} {L a : Addr} {ccd : Value} {cl : List (Str × Addr)} {outer : List Env} {A₀ : Around} {base h₀ : Heap} {m : Str → Option Value} {s : Shared} {Q E : Value → Shared → Prop} {news : List (Addr × Obj)}
end
section
variable {prog : Program} {w : World} {A : Around} {E : Value → Shared → Prop} {s : Shared} {env : Env} {h₀ : Heap} {x : PySem.Str} {body : List Stmt} {Q : Flow → Shared → Prop}
theorem list_loop {σ : Type} {l : Addr} {vs : List Value} {ns : List Int} {m₀ : PySem.Str → Option Value} (Led : σ → List (Addr × Obj)) (ps : σ → List (PySem.Str × Value)) (Facts : σ → Prop) (stored : List PySem.Str) (P : List Int → σ → Prop) (c₀ : σ)
    (hh : A.handled = none) (hl : h₀.IsList l vs.toArray) (hi : IntsAre vs ns) (F : Fr h₀ env.locals s.heap m₀) (N : News h₀ env.locals s.heap (Led c₀)) (hf : Facts c₀) (hk : ∀ p ∈ ps c₀, m₀ p.1 = some p.2) (hp : P [] c₀)
    (turn : ∀ (c : σ) (pre post : List Int) (n : Int) t (u : PySem.Str → Option Value) h tk I o, ns = pre ++ n :: post → (∀ p ∈ Led c, p.1 ≠ I) → Facts c → P pre c →
      Fr h₀ env.locals h (fun y => if y = x then some (.int n t) else kstB (fun z => if stored.contains z then u z else m₀ z) (ps c) y) → News h₀ env.locals h (Led c ++ [(I, o)]) →
      wpAny (model prog w) A (execs body env) (TxtEnd h₀ env.locals (KstS Led ps Facts x stored m₀ P (pre ++ [n])) I o { s with heap := h, toks := tk } Q) E { s with heap := h, toks := tk })
    (done : ∀ (c : σ) (u : PySem.Str → Option Value) h tk, Facts c → P ns c → Fr h₀ env.locals h (fun y => if y = x then u y else kstB (fun z => if stored.contains z then u z else m₀ z) (ps c) y) → News h₀ env.locals h (Led c) → Q .next { s with heap := h, toks := tk }) :
    wpAny (model prog w) A (pyIter (.ref l)) (fun it s₂ => LoopAtV prog w A h₀ env x body Q E it s₂) E s := by
  have hls : s.heap.IsList l vs.toArray := hl.at fun o e => F.keep l o e
  obtain ⟨ol, hol, _⟩ := id hl
  have hlt : l < h₀.objs.size := Heap.lt_size hol
  have hne : l ≠ s.heap.objs.size := Nat.ne_of_lt (Nat.lt_trans (Nat.lt_of_lt_of_le hlt F.above) F.ns.lt)
  refine wpAny_pyIter_list hls ?_
  have W := Walks.list (prog := prog) (w := w) hh s.heap.objs.size l hne vs.toArray
  have hlen : vs.toArray.size = ns.length := by simp [hi.length]
  rw [hlen] at W
  have hnew : h₀.get? s.heap.objs.size = none := next_is_new F
  have hltN : ∀ p ∈ Led c₀, p.1 ≠ s.heap.objs.size := fun p hp e => absurd (Heap.lt_size (N p hp).1) (by rw [e]; exact Nat.lt_irrefl _)
  refine ⟨_, _, _, ns.length, _, _, m₀, Led c₀,
    fun i m nx => (∀ p ∈ nx, p.1 ≠ s.heap.objs.size) ∧ KstS Led ps Facts x stored m₀ P (ns.take i) m nx, rfl, W, ?_, ?_, ?_, ⟨⟨_, Heap.get?_push_size _ rfl, rfl, rfl⟩, hls.at fun o e => Heap.get?_push_of_some _ e⟩, F.push _, (fun p hp => ⟨Heap.get?_push_of_some _ (N p hp).1, (N p hp).2⟩), ⟨hltN, c₀, rfl, hf, hk, fun _ _ _ _ => rfl, by simpa using hp⟩, ?_, ?_⟩
  · intro hm
    rcases List.mem_cons.mp hm with e | hm
    · exact absurd F.ns.lt (e ▸ Nat.lt_irrefl _)
    · exact absurd (Nat.lt_of_lt_of_le hlt F.above) ((List.mem_singleton.mp hm) ▸ Nat.lt_irrefl _)
  · intro b hb
    rw [List.mem_singleton.mp hb]
    exact hnew
  · intro p hp hI
    exact hltN p hp (List.mem_singleton.mp hI)
  · rintro i v m₁ nx s₁ own ⟨h, tk, rfl⟩ hin hP ⟨hne', c, rfl, hf', h1, h2, hp'⟩ hoff hown hget hall hSt F₁ N₁
    have hlt' : i < ns.length := hin
    obtain ⟨t, hx⟩ := hi.get i ns[i] (by simp [hlt'])
    have hv : v = .int ns[i] t := by
      have hP' : vs[i]? = some v := by simpa using hP
      rw [hx] at hP'; exact (Option.some.inj hP').symm
    subst hv
    obtain ⟨⟨o, ho, _⟩, _⟩ := hSt
    have hmem := hall _ List.mem_cons_self hnew o ho
    have hs : ns.take (i + 1) = ns.take i ++ [ns[i]] := (List.take_append_getElem hlt').symm
    have e : ns = ns.take i ++ ns[i] :: ns.drop (i + 1) := by
      have ht := List.take_append_drop (i + 1) ns
      rw [hs, List.append_assoc] at ht
      exact ht.symm
    dsimp only
    rw [hs]
    have N₂ : News h₀ env.locals h (Led c ++ [(s.heap.objs.size, o)]) := fun p hp => by
      rcases List.mem_append.mp hp with hp | hp
      · exact N₁ p (List.mem_append.mpr (.inr hp))
      · rw [List.mem_singleton.mp hp]
        exact N₁ _ (List.mem_append.mpr (.inl hmem))
    refine wpAny_mono (turn c _ _ ns[i] t m₁ h tk _ o e hne' hf' hp' (kst_fr h1 h2 F₁) N₂) (fun f s₂ p => ?_) fun _ _ e => e
    have fin : TxtEnd h₀ env.locals (KstS Led ps Facts x stored m₀ P (ns.take i ++ [ns[i]])) s.heap.objs.size o { s with heap := h, toks := tk } Q .next s₂ →
        LoopStepU h₀ env.locals [s.heap.objs.size] own (fun m nx => (∀ p ∈ nx, p.1 ≠ s.heap.objs.size) ∧ KstS Led ps Facts x stored m₀ P (ns.take i ++ [ns[i]]) m nx) { s with heap := h, toks := tk } .next s₂ := by
      rintro ⟨h', tk, m', nx, rfl, F', N', hn', hJ⟩
      refine ⟨rfl, h', tk, m', nx, rfl, F', fun q hq => ?_, fun q hq hI => hn' q hq (List.mem_singleton.mp hI), hn', hJ⟩
      rcases List.mem_append.mp hq with hq | hq
      · have h0 : q.1 = s.heap.objs.size := by
          rcases List.mem_cons.mp (hown q hq) with h1 | h1
          · exact h1
          · have h2 := List.mem_singleton.mp h1
            have h3 := (N₁ q (List.mem_append.mpr (.inl hq))).2.2
            rw [h2, hol] at h3
            cases h3
        have h2 := hget q hq
        rw [h0] at h2
        have h3 : some o = some q.2 := ho.symm.trans h2
        have : q = (s.heap.objs.size, o) := Prod.ext h0 (Option.some.inj h3).symm
        rw [this]
        exact N' _ (List.mem_append.mpr (.inr (List.mem_singleton.mpr rfl)))
      · exact N' _ (List.mem_append.mpr (.inl hq))
    cases f with
    | ret v => exact .ret p
    | brk => exact .brk p
    | next => exact .next (fin p)
    | cont => exact .cont (fin p)
  · rintro h' tk m' nx F' N' _ ⟨_, c, rfl, hf', h1, h2, hp'⟩
    rw [List.take_length] at hp'
    exact done c m' h' tk hf' hp' (kst_frOut h1 h2 F') N'
end
section
variable {prog : Program} {w : World} {p : Program} {loose : List Str} {mean : ExcName → Option Value} {mg mb : Str → Option Value} 
  {dp un : Nat} {gd : Option (List Code)} {cn : Str} {cs : Scope} {L a : Addr} {ccd : Value} {cl : List (Str × Addr)} {outer : List Env} {A₀ : Around} {base h₀ : Heap} {m : Str → Option Value} {s : Shared} {Q E : Value → Shared → Prop} {news : List (Addr × Obj)}
abbrev TupE := Addr × Int × Tok × Int × Tok
def tupObj (e : TupE) : Obj := { cls := .type "tuple", data := .seq #[.int e.2.1 e.2.2.1, .int e.2.2.2.1 e.2.2.2.2] }
def tLed (es : List TupE) : List (Addr × Obj) := es.map fun e => (e.1, tupObj e)
def tRefs (es : List TupE) : List Value := es.map fun e => .ref e.1
def pv (es : List TupE) : List (Int × Int) := es.map fun e => (e.2.1, e.2.2.2.1)
def tabOf (pos : Pos) (cd : Option (Addr × Obj)) : Obj := match cd with | none => tabObj #[] | some q => tabObj #[rawInt pos.line, rawInt pos.col, .ref q.1]
theorem tabOf_cls (pos : Pos) (cd : Option (Addr × Obj)) : (tabOf pos cd).cls = .none := by cases cd <;> rfl
theorem news_mono {h : Heap} {xs ys : List (Addr × Obj)} (N : News h₀ L h xs) (hm : ∀ p ∈ ys, p ∈ xs) : News h₀ L h ys := fun p hp => N p (hm p hp)
theorem isList_of {g : Heap} {l : Addr} {vs : List Value} {c : Nat} (h : g.get? l = some (listOf vs.toArray c)) : g.IsList l vs.toArray := ⟨_, h, rfl, c, rfl⟩
theorem kept_list {g : Heap} {rest : List (Addr × Obj)} {l : Addr} {vs : List Value} {c : Nat} (k : Kept g rest) (hm : (l, listOf vs.toArray c) ∈ rest) : g.IsList l vs.toArray := isList_of (k _ hm)
theorem ne_of_obj {h : Heap} {xs : List (Addr × Obj)} {p q : Addr × Obj} (N : News h₀ L h xs) (hp : p ∈ xs) (hq : q ∈ xs) (hne : p.2 ≠ q.2) : p.1 ≠ q.1 := fun e => hne (by
  have h1 := (N p hp).1
  have h2 := (N q hq).1
  rw [e, h2] at h1
  exact (Option.some.inj h1).symm)
def CodeOk (qual : Str) (o : Obj) : Prop := ∃ vs t, o.data = .fields vs ∧ vs[1]? = some (.str qual t)
def OffTab (P : Addr) (cd : Option (Addr × Obj)) (p : Addr × Obj) : Prop := (p.2.cls ≠ .none ∧ ∀ vs, p.2.data ≠ .fields vs) ∨ (p.1 ≠ P ∧ ∀ q, cd = some q → p.1 ≠ q.1)
theorem lam_any {M : Model} {A : Around} {Q : Value → Shared → Prop} {c P : Addr} {cd : Option (Addr × Obj)} {rest : List (Addr × Obj)} {name qual : Str} {params : Arguments} {body : PySem.Expr} {scope : Scope} {pos : Pos} {firstLine : Nat} {clos : List (Str × Addr)}
    (F : Fr h₀ L s.heap m) (N : News h₀ L s.heap ((P, tabOf pos cd) :: (cd.toList ++ rest))) (T : Top p loose mean mg mb h₀) (C : CodeHd h₀ c P) (hcd : ccd = .ref c)
    (hr : ∀ p ∈ rest, OffTab P cd p) (hcode : ∀ q, cd = some q → CodeOk qual q.2)
    (hcl : closureFor scope (envX cn cs L a ccd cl) = pure clos)
    (h : ∀ f c' oc ctv h' tk, Fr h₀ L h' m → News h₀ L h' ((f, kla_obj name qual params body scope clos ((mg "__name__").getD .none) c' ctv) :: (P, tabOf pos (some (c', oc))) :: (c', oc) :: rest) → CodeOk qual oc → (∀ q ∈ rest, q.1 < f ∧ q.1 ≠ c' ∧ q.1 ≠ P) → P < f → c' < f → c' ≠ P → Q (.ref f) { s with heap := h', toks := tk }) :
    wpAny M A (makeFunction name qual params (.expr body) scope (envX cn cs L a ccd cl) [] [] [] pos firstLine) Q E s := by
  have hoff : ∀ p ∈ rest, p.1 ≠ P := fun p hp => (hr p hp).elim (fun hh => ne_of_obj N (.tail _ (List.mem_append_right _ hp)) (.head _) (fun e => hh.1 (by rw [e]; exact tabOf_cls pos cd))) fun hh => hh.1
  cases cd with
  | none =>
    refine kla_nest (c := c) (P := P) (ps := #[]) F (news := (P, tabObj #[]) :: rest) N T C hcd (UpdF.head hoff) trivial rfl hcl ?_
    intro f c' oc vs t ctv h' tk F' N' d1 d2 l1 l2
    refine h f c' oc ctv h' tk F' (fun q hq => N' q ?_) ⟨vs, t, d1, d2⟩ (fun q hq => ?_) ?_ l2 ?_
    · rcases List.mem_cons.mp hq with rfl | hq
      · exact .head _
      · rcases List.mem_cons.mp hq with rfl | hq
        · exact .tail _ (.tail _ (.head _))
        · rcases List.mem_cons.mp hq with rfl | hq
          · exact .tail _ (.head _)
          · exact .tail _ (.tail _ (.tail _ hq))
    · have := l1 q (.tail _ hq)
      exact ⟨Nat.lt_trans this l2, Nat.ne_of_lt this, hoff q hq⟩
    · exact Nat.lt_trans (l1 _ (.head _)) l2
    · exact (Nat.ne_of_lt (l1 _ (.head _))).symm
  | some q =>
    obtain ⟨c', oc⟩ := q
    obtain ⟨vs, t, d1, d2⟩ := hcode _ rfl
    have hcP : c' ≠ P := by
      refine ne_of_obj (p := (c', oc)) (q := (P, tabOf pos (some (c', oc)))) N (.tail _ (.head _)) (.head _) (fun e => ?_)
      have e1 : oc.data = .fields #[rawInt pos.line, rawInt pos.col, .ref c'] := congrArg Obj.data e
      rw [d1] at e1
      injection e1 with e2
      rw [e2] at d2
      cases d2
    refine kla_hit (c := c) (P := P) (c' := c') (ps := #[rawInt pos.line, rawInt pos.col, .ref c']) F N T C hcd (.head _) trivial (by simp [codeAmong, rawInt]) hcl ?_
    intro f ctv h' tk F' N' l1
    refine h f c' oc ctv h' tk F' N' ⟨vs, t, d1, d2⟩ (fun q hq => ⟨l1 q (.tail _ (.tail _ hq)), ?_, hoff q hq⟩) (l1 _ (.head _)) (l1 _ (.tail _ (.head _))) hcP
    refine (hr q hq).elim (fun hh => ?_) fun hh => hh.2 _ rfl
    exact ne_of_obj (q := (c', oc)) N (.tail _ (.tail _ hq)) (.tail _ (.head _)) (fun e => hh.2 vs (by rw [e]; exact d1))
abbrev TabS := List (Int × Int) × List Int × Int
def keyAt (ps : List (Int × Int)) (x : Int) (i : Nat) : Bool := decide (¬ x < (ps.getD i (0, 0)).1)
def insP (ps : List (Int × Int)) (x v : Int) : List (Int × Int) := ps.take (bisV (keyAt ps x) 0 ps.length) ++ (x, v) :: ps.drop (bisV (keyAt ps x) 0 ps.length)
def powersL : List Int := List.map (fun k' : Int => (64 : Int) ^ k'.toNat) (rangeKs 1 ((19 : Int) - 1).toNat)
def tabStep (bs ms : List Int) (st : TabS) (x : Int) : TabS :=
  (insP st.1 st.2.2 (1 + (bisR powersL x : Nat)), st.2.1 ++ [st.2.2 + ms.getD (bisR bs st.2.2) 0], st.2.2 + ms.getD (bisR bs st.2.2) 0)
def tabRun (bs ms pre : List Int) : TabS := pre.foldl (tabStep bs ms) ([], [], 0)
theorem led_rot {h : Heap} {a b c d t : Addr × Obj} {xs ys zs : List (Addr × Obj)} (N : News h₀ L h (a :: b :: c :: d :: t :: (xs ++ ys ++ zs))) : News h₀ L h (t :: (xs ++ (a :: b :: c :: d :: (ys ++ zs)))) :=
  news_mono N (by
    intro p hp
    simp only [List.mem_cons, List.mem_append] at hp ⊢
    rcases hp with h | h | h | h | h | h | h | h
    · exact .inr (.inr (.inr (.inr (.inl h))))
    · exact .inr (.inr (.inr (.inr (.inr (.inl (.inl h))))))
    · exact .inl h
    · exact .inr (.inl h)
    · exact .inr (.inr (.inl h))
    · exact .inr (.inr (.inr (.inl h)))
    · exact .inr (.inr (.inr (.inr (.inr (.inl (.inr h))))))
    · exact .inr (.inr (.inr (.inr (.inr (.inr h))))))
theorem offs_rest {P : Addr} {cd : Option (Addr × Obj)} {a b c d kI : Addr} {kO : Obj} {us : Array Value} {xs ys zs : List Value} {n1 n2 : Nat} {es : List TupE} (h1 : kI ≠ P) (h2 : ∀ q, cd = some q → kI ≠ q.1) :
    ∀ p ∈ (a, ({ cls := .type "tuple", data := .seq us } : Obj)) :: (b, listOf xs.toArray n1) :: (c, listOf ys.toArray n2) :: (d, LCg.lst zs) :: (tLed es ++ [(kI, kO)]), OffTab P cd p := by
  intro p hp
  simp only [List.mem_cons, List.mem_append, List.not_mem_nil, or_false] at hp
  rcases hp with rfl | rfl | rfl | rfl | hp | rfl
  · exact .inl ⟨(fun e => nomatch e), (fun _ e => nomatch e)⟩
  · exact .inl ⟨(fun e => nomatch e), (fun _ e => nomatch e)⟩
  · exact .inl ⟨(fun e => nomatch e), (fun _ e => nomatch e)⟩
  · exact .inl ⟨(fun e => nomatch e), (fun _ e => nomatch e)⟩
  · obtain ⟨e, _, rfl⟩ := List.mem_map.mp hp
    exact .inl ⟨(fun e => nomatch e), (fun _ e => nomatch e)⟩
  · exact .inr ⟨h1, h2⟩
theorem tup_ne_list {us : Array Value} {xs : Array Value} {n : Nat} : ({ cls := .type "tuple", data := .seq us } : Obj) ≠ listOf xs n := fun e => by
  have e2 : (Value.type "tuple") = .type "list" := congrArg Obj.cls e
  injection e2 with e3
  exact absurd e3 (by decide)
theorem tLed_mem {es : List TupE} {e : TupE} (h : e ∈ es) : (e.1, tupObj e) ∈ tLed es := List.mem_map.mpr ⟨e, h, rfl⟩
theorem apart_ins {h : Heap} {tb f c' a b d kI P : Addr} {o2 o3 kO oP : Obj} {us : Array Value} {xs ys zs : List Value} {n1 n2 : Nat} {es : List TupE}
    (N : News h₀ L h ((f, o2) :: (P, oP) :: (c', o3) :: (a, ({ cls := .type "tuple", data := .seq us } : Obj)) :: (b, listOf xs.toArray n1) :: (tb, listOf ys.toArray n2) :: (d, LCg.lst zs) :: (tLed es ++ [(kI, kO)])))
    (l1 : ∀ q ∈ (a, ({ cls := .type "tuple", data := .seq us } : Obj)) :: (b, listOf xs.toArray n1) :: (tb, listOf ys.toArray n2) :: (d, LCg.lst zs) :: (tLed es ++ [(kI, kO)]), q.1 < f ∧ q.1 ≠ c' ∧ q.1 ≠ P)
    (lP : P < f) (lcP : c' ≠ P) (hb : b ≠ tb) (hd : d ≠ tb) (hI : kI ≠ tb) :
    Apart [(tb, listOf ys.toArray n2), (f, o2), (c', o3)] ((P, oP) :: (a, ({ cls := .type "tuple", data := .seq us } : Obj)) :: (b, listOf xs.toArray n1) :: (d, LCg.lst zs) :: (tLed es ++ [(kI, kO)])) := by
  have hcls : ∀ q ∈ tLed es, q.1 ≠ tb := fun q hq => ne_of_obj (q := (tb, listOf ys.toArray n2)) N
    (List.mem_cons_of_mem _ (List.mem_cons_of_mem _ (List.mem_cons_of_mem _ (List.mem_cons_of_mem _ (List.mem_cons_of_mem _ (List.mem_cons_of_mem _ (List.mem_cons_of_mem _ (List.mem_append_left _ hq))))))))
    (List.mem_cons_of_mem _ (List.mem_cons_of_mem _ (List.mem_cons_of_mem _ (List.mem_cons_of_mem _ (List.mem_cons_of_mem _ List.mem_cons_self)))))
    (by obtain ⟨e, _, rfl⟩ := List.mem_map.mp hq; exact tup_ne_list)
  have ha : a ≠ tb := ne_of_obj (p := (a, ({ cls := .type "tuple", data := .seq us } : Obj))) (q := (tb, listOf ys.toArray n2)) N
    (List.mem_cons_of_mem _ (List.mem_cons_of_mem _ (List.mem_cons_of_mem _ List.mem_cons_self)))
    (List.mem_cons_of_mem _ (List.mem_cons_of_mem _ (List.mem_cons_of_mem _ (List.mem_cons_of_mem _ (List.mem_cons_of_mem _ List.mem_cons_self))))) tup_ne_list
  have hPt : tb ≠ P := (l1 (tb, listOf ys.toArray n2) (List.mem_cons_of_mem _ (List.mem_cons_of_mem _ List.mem_cons_self))).2.2
  intro p hp hm
  simp only [List.map_cons, List.map_nil, List.mem_cons, List.not_mem_nil, or_false] at hm
  have key : ∀ q ∈ (a, ({ cls := .type "tuple", data := .seq us } : Obj)) :: (b, listOf xs.toArray n1) :: (d, LCg.lst zs) :: (tLed es ++ [(kI, kO)]), q.1 < f ∧ q.1 ≠ c' := fun q hq => by
    have hq' : q ∈ (a, ({ cls := .type "tuple", data := .seq us } : Obj)) :: (b, listOf xs.toArray n1) :: (tb, listOf ys.toArray n2) :: (d, LCg.lst zs) :: (tLed es ++ [(kI, kO)]) := by
      rcases List.mem_cons.mp hq with rfl | hq
      · exact List.mem_cons_self
      · rcases List.mem_cons.mp hq with rfl | hq
        · exact List.mem_cons_of_mem _ List.mem_cons_self
        · exact List.mem_cons_of_mem _ (List.mem_cons_of_mem _ (List.mem_cons_of_mem _ hq))
    exact ⟨(l1 q hq').1, (l1 q hq').2.1⟩
  have notb : p.1 ≠ tb := by
    simp only [List.mem_cons, List.mem_append, List.not_mem_nil, or_false] at hp
    rcases hp with rfl | rfl | rfl | rfl | hp | rfl
    · exact hPt.symm
    · exact ha
    · exact hb
    · exact hd
    · exact hcls p hp
    · exact hI
  rcases hm with hm | hm | hm
  · exact notb hm
  · rcases List.mem_cons.mp hp with rfl | hp
    · exact Nat.ne_of_lt lP hm
    · exact Nat.ne_of_lt (key p hp).1 hm
  · rcases List.mem_cons.mp hp with rfl | hp
    · exact lcP hm.symm
    · exact (key p hp).2 hm
def InsR (h₀ : Heap) (L : Addr) (m : Str → Option Value) (s : Shared) (led : List (Addr × Obj)) (v : Value) (s' : Shared) : Prop :=
  v = .none ∧ ∃ h' tk', s' = { s with heap := h', toks := tk' } ∧ Fr h₀ L h' m ∧ News h₀ L h' led
theorem ins_cut {M : Model} {A : Around} {t : Sem Value} {Q : Value → Shared → Prop} {tb f c' : Addr} {o1 o2 o3 o1' : Obj} {x y b d : Addr × Obj} {tail : List (Addr × Obj)}
    (N : News h₀ L s.heap ((f, o2) :: x :: (c', o3) :: y :: b :: (tb, o1) :: d :: tail))
    (walk : News h₀ L s.heap [(tb, o1), (f, o2), (c', o3)] → News h₀ L s.heap (x :: y :: b :: d :: tail) → wpAny M A t (InsR h₀ L m s ((tb, o1') :: (c', o3) :: x :: y :: b :: d :: tail)) E s)
    (cont : ∀ h' tk', Fr h₀ L h' m → News h₀ L h' ((tb, o1') :: (c', o3) :: x :: y :: b :: d :: tail) → Q .none { s with heap := h', toks := tk' }) : wpAny M A t Q E s := by
  refine wpAny_mono (walk ?_ ?_) (fun v s' hR => ?_) fun _ _ e => e
  · refine news_mono N fun p hp => ?_
    simp only [List.mem_cons, List.not_mem_nil, or_false] at hp ⊢
    rcases hp with h | h | h
    · exact .inr (.inr (.inr (.inr (.inr (.inl h)))))
    · exact .inl h
    · exact .inr (.inr (.inl h))
  · refine news_mono N fun p hp => ?_
    simp only [List.mem_cons] at hp ⊢
    rcases hp with h | h | h | h | h
    · exact .inr (.inl h)
    · exact .inr (.inr (.inr (.inl h)))
    · exact .inr (.inr (.inr (.inr (.inl h))))
    · exact .inr (.inr (.inr (.inr (.inr (.inr (.inl h))))))
    · exact .inr (.inr (.inr (.inr (.inr (.inr (.inr h))))))
  · obtain ⟨rfl, h', tk', rfl, F', N'⟩ := hR
    exact cont h' tk' F' N'
theorem insR_of {h' : Heap} {tk' : Nat} {g : Heap} {L' : Addr} {m' : Str → Option Value} {h1 : Heap} {tb f c' : Addr} {o1' o2 o3 : Obj} {rest : List (Addr × Obj)} (F : Fr h₀ L h' m) (N : News h₀ L h' [(tb, o1'), (f, o2), (c', o3)]) (NR : News h₀ L h1 rest) (k : Kept g rest) (F' : Fr g L' h' m') :
    InsR h₀ L m s ((tb, o1') :: (c', o3) :: rest) .none { s with heap := h', toks := tk' } :=
  ⟨rfl, h', tk', rfl, F, fun q hq => by
    rcases List.mem_cons.mp hq with rfl | hq
    · exact N _ List.mem_cons_self
    · rcases List.mem_cons.mp hq with rfl | hq
      · exact N _ (List.mem_cons_of_mem _ (List.mem_cons_of_mem _ List.mem_cons_self))
      · exact ⟨F'.keep _ _ (k q hq), (NR q hq).2⟩⟩
theorem item_tupG {A : Around} {l : Addr} {y : Value} {n : Int} {t u : Tok} {value slice : PySem.Expr} (hg : s.heap.get? l = some { cls := .type "tuple", data := .seq #[.int n t, y] })
    (h : Q (.int n t) s)
    (hs : subscripted slice false (.ref l) (.int 0 u) = operate [.ref l, .int 0 u] (getItem (.ref l) (.int 0 u)) := by with_unfolding_all rfl) :
    wpAny (model prog w) A (subscriptTail value slice (.ref l) (.int 0 u)) Q E s := by
  have hl : IsTup s.heap l #[.int n t, y] := ⟨_, hg, rfl, _, rfl⟩
  exact tail_any hl.typeIs slot_tuple_getitem.lookup (getItem_tuple hl (by decide) (by decide) (seqIndex_of (by decide) (by show (0 : Int) < 2; decide)) rfl h) hs
theorem item_ref {A : Around} {l : Addr} {es : List TupE} {c : Nat} {k : Int} {u : Tok} {value slice : PySem.Expr} {news' : List (Addr × Obj)} (N : News h₀ L s.heap news') (hm : (l, listOf (tRefs es).toArray c) ∈ news') (h0 : 0 ≤ k) (hk : k < es.length) (hn : es.length < 2 ^ 62)
    (h : ∀ e, e ∈ es → es.getD k.toNat (0, 0, 0, 0, 0) = e → Q (.ref e.1) s)
    (hs : subscripted slice false (.ref l) (.int k u) = operate [.ref l, .int k u] (getItem (.ref l) (.int k u)) := by with_unfolding_all rfl) :
    wpAny (model prog w) A (subscriptTail value slice (.ref l) (.int k u)) Q E s := by
  have hl : s.heap.IsList l (tRefs es).toArray := isList_of (N _ hm).1
  have hlt : k.toNat < es.length := by omega
  have e1 : es[k.toNat]? = some es[k.toNat] := List.getElem?_eq_getElem hlt
  refine tail_any hl.typeIs slot_list_getitem.lookup (wpAny_getItem_list hl h0 (by omega) (x := .ref es[k.toNat].1) ?_ (h es[k.toNat] (List.getElem_mem hlt) ?_)) hs
  · simp [tRefs, hlt]
  · rw [List.getD_eq_getElem?_getD, e1]; rfl
def insE (es : List TupE) (b : Nat) (e : TupE) : List TupE := es.take b ++ e :: es.drop b
theorem tRefs_len {es : List TupE} : (tRefs es).length = es.length := List.length_map ..
theorem tRefs_ins {es : List TupE} {b : Nat} {e : TupE} (hb : b ≤ es.length) : kl_ins (tRefs es) (b : Int) (.ref e.1) = tRefs (insE es b e) := by
  unfold kl_ins
  rw [if_neg (by omega), show min (Int.toNat (b : Int)) (tRefs es).length = b by rw [tRefs_len]; omega]
  simp [tRefs, insE, List.map_take, List.map_drop]
theorem insert_hd {A : Around} {tb : Addr} {es : List TupE} {cn b : Nat} {u : Tok} {e : TupE} {rest : List (Addr × Obj)} (F : Fr h₀ L s.heap m) (N : News h₀ L s.heap ((tb, listOf (tRefs es).toArray cn) :: rest)) (off : OwnOff rest [tb]) (hb : b ≤ es.length) (hz : es.length ≤ 64)
    (h : ∀ h', Fr h₀ L h' m → News h₀ L h' ((tb, listOf (tRefs (insE es b e)).toArray (cn + 1)) :: rest) → Q .none { s with heap := h' }) : wpAny (model prog w) A (call (.builtin "list.insert") [.ref tb, .int (b : Int) u, .ref e.1]) Q E s := by
  refine kl_insert F N ?_ (tRefs_ins hb) (Upd.head fun p hp => off p hp tb (List.mem_singleton.mpr rfl)) ?_ h
  · simp only [Builtin.List.listFitsIndex, Bool.and_eq_true, decide_eq_true_eq]; omega
  · show (tRefs es).length ≤ _
    rw [tRefs_len, sizeLine_eq]; omega
theorem pv_len {es : List TupE} : (pv es).length = es.length := List.length_map ..
theorem pv_ins {es : List TupE} {b : Nat} {e : TupE} : pv (insE es b e) = (pv es).take b ++ (e.2.1, e.2.2.2.1) :: (pv es).drop b := by
  simp [pv, insE, List.map_take, List.map_drop]
theorem tabRun_snoc (bs ms pre : List Int) (x : Int) : tabRun bs ms (pre ++ [x]) = tabStep bs ms (tabRun bs ms pre) x := by
  unfold tabRun; rw [List.foldl_append]; rfl
theorem insP_len (ps : List (Int × Int)) (x v : Int) : (insP ps x v).length = ps.length + 1 := by
  have h := (bisV_le (keyAt ps x) ps.length 0 ps.length (by omega) (by omega)).2
  unfold insP
  rw [List.length_append, List.length_cons, List.length_take, List.length_drop]
  omega
theorem tabRun_len (bs ms : List Int) : ∀ (pre : List Int) (st : TabS), (pre.foldl (tabStep bs ms) st).1.length = st.1.length + pre.length ∧ (pre.foldl (tabStep bs ms) st).2.1.length = st.2.1.length + pre.length
  | [], st => by simp
  | x :: pre, st => by
    have h := tabRun_len bs ms pre (tabStep bs ms st x)
    have h2 : (tabStep bs ms st x).1.length = st.1.length + 1 := insP_len ..
    have h3 : (tabStep bs ms st x).2.1.length = st.2.1.length + 1 := by simp [tabStep]
    simp only [List.foldl_cons, List.length_cons]
    omega
theorem tab_len {bs ms nn pre post : List Int} {x : Int} {es : List TupE} (hn : nn.length ≤ 64) (e : nn = pre ++ x :: post) (h : pv es = (tabRun bs ms pre).1) : es.length ≤ 63 := by
  have h1 := (tabRun_len bs ms pre ([], [], 0)).1
  have h2 := congrArg List.length h
  rw [pv_len] at h2
  have h3 := congrArg List.length e
  rw [List.length_append, List.length_cons] at h3
  have h4 : (tabRun bs ms pre).1.length = (([], [], 0) : TabS).1.length + pre.length := h1
  rw [h4] at h2
  simp at h2
  omega
theorem ends_len {bs ms nn pre post : List Int} {x : Int} {vs : List Value} (hn : nn.length ≤ 64) (e : nn = pre ++ x :: post) (h : IntsAre vs (tabRun bs ms pre).2.1) : vs.length ≤ 63 := by
  have h1 := (tabRun_len bs ms pre ([], [], 0)).2
  have h2 := h.length
  have h3 := congrArg List.length e
  rw [List.length_append, List.length_cons] at h3
  have h4 : (tabRun bs ms pre).2.1.length = (([], [], 0) : TabS).2.1.length + pre.length := h1
  rw [h4] at h2
  simp at h2
  omega
theorem getD_pv {es : List TupE} {k : Nat} {e : TupE} (h : es.getD k (0, 0, 0, 0, 0) = e) (hk : k < es.length) : (pv es).getD k (0, 0) = (e.2.1, e.2.2.2.1) := by
  subst h
  simp [pv, hk]
theorem key_yes {es : List TupE} {k : Nat} {e : TupE} {x : Int} (h : es.getD k (0, 0, 0, 0, 0) = e) (hk : k < es.length) (hx : ¬ x < e.2.1) : keyAt (pv es) x k = true := by
  unfold keyAt; rw [getD_pv h hk]; exact decide_eq_true hx
theorem key_no {es : List TupE} {k : Nat} {e : TupE} {x : Int} (h : es.getD k (0, 0, 0, 0, 0) = e) (hk : k < es.length) (hx : x < e.2.1) : keyAt (pv es) x k = false := by
  unfold keyAt; rw [getD_pv h hk]; exact decide_eq_false (fun hn => hn hx)
theorem bisR_le (ns : List Int) (x : Int) : bisR ns x ≤ ns.length := (bisV_le (leAt ns x) ns.length 0 ns.length (by omega) (by omega)).2
theorem kept_pair {g : Heap} {rest : List (Addr × Obj)} {a : Addr} {o : Obj} (k : Kept g rest) (hm : (a, o) ∈ rest) : g.get? a = some o := k _ hm
theorem ins_cut2 {M : Model} {A : Around} {t : Sem Value} {Q : Value → Shared → Prop} {tb f c' a : Addr} {es : List TupE} {cn : Nat} {p1 p2 : Int} {t1 t2 : Tok} {o2 o3 : Obj} {x b d : Addr × Obj} {tail : List (Addr × Obj)}
    (_F : Fr h₀ L s.heap m) (N : News h₀ L s.heap ((f, o2) :: x :: (c', o3) :: (a, { cls := .type "tuple", data := .seq #[.int p1 t1, .int p2 t2] }) :: b :: (tb, listOf (tRefs es).toArray cn) :: d :: tail))
    (walk : News h₀ L s.heap [(tb, listOf (tRefs es).toArray cn), (f, o2), (c', o3)] → News h₀ L s.heap (x :: (a, { cls := .type "tuple", data := .seq #[.int p1 t1, .int p2 t2] }) :: b :: d :: tail) →
      wpAny M A t (InsR h₀ L m s ((tb, listOf (tRefs (insE es (bisV (keyAt (pv es) p1) 0 es.length) (a, p1, t1, p2, t2))).toArray (cn + 1)) :: (c', o3) :: x :: (a, { cls := .type "tuple", data := .seq #[.int p1 t1, .int p2 t2] }) :: b :: d :: tail)) E s)
    (cont : ∀ h' tk', Fr h₀ L h' m → News h₀ L h' ((tb, listOf (tRefs (insE es (bisV (keyAt (pv es) p1) 0 es.length) (a, p1, t1, p2, t2))).toArray (cn + 1)) :: (c', o3) :: x :: (a, { cls := .type "tuple", data := .seq #[.int p1 t1, .int p2 t2] }) :: b :: d :: tail) → Q .none { s with heap := h', toks := tk' }) : wpAny M A t Q E s :=
  ins_cut N walk cont
theorem allLt_mem {d : Nat} : ∀ {l : List (Addr × Obj)}, AllLt d l → ∀ p ∈ l, p.1 < d
  | [], _, _, h => nomatch h
  | _ :: _, h, p, hp => by
    rcases List.mem_cons.mp hp with rfl | hp
    · exact h.1
    · exact allLt_mem h.2 p hp
theorem led_en {h : Heap} {a b c d e f : Addr × Obj} {r : List (Addr × Obj)} (N : News h₀ L h (a :: b :: c :: d :: e :: f :: r)) : News h₀ L h (e :: a :: b :: c :: d :: f :: r) := news_mono N (by
  intro p hp
  simp only [List.mem_cons] at hp ⊢
  rcases hp with h | h | h | h | h | h | h
  · exact .inr (.inr (.inr (.inr (.inl h))))
  · exact .inl h
  · exact .inr (.inl h)
  · exact .inr (.inr (.inl h))
  · exact .inr (.inr (.inr (.inl h)))
  · exact .inr (.inr (.inr (.inr (.inr (.inl h)))))
  · exact .inr (.inr (.inr (.inr (.inr (.inr h))))))
theorem off_en {h : Heap} {en tb c' P a D kI : Addr} {o1 o3 oP oD kO : Obj} {us : Array Value} {vs : List Value} {n : Nat} {es : List TupE}
    (N : News h₀ L h ((en, listOf vs.toArray n) :: (tb, o1) :: (c', o3) :: (P, oP) :: (a, ({ cls := .type "tuple", data := .seq us } : Obj)) :: (D, oD) :: (tLed es ++ [(kI, kO)]))) (h1 : tb ≠ en) (h2 : c' ≠ en) (h3 : P ≠ en) (h4 : D ≠ en) (h5 : kI ≠ en) :
    OwnOff ((tb, o1) :: (c', o3) :: (P, oP) :: (a, ({ cls := .type "tuple", data := .seq us } : Obj)) :: (D, oD) :: (tLed es ++ [(kI, kO)])) [en] := by
  intro p hp b hb
  rw [List.mem_singleton.mp hb]
  have hN := hp
  simp only [List.mem_cons, List.mem_append, List.not_mem_nil, or_false] at hp
  rcases hp with rfl | rfl | rfl | rfl | rfl | hp | rfl
  · exact h1
  · exact h2
  · exact h3
  · exact ne_of_obj (q := (en, listOf vs.toArray n)) N (.tail _ hN) (.head _) tup_ne_list
  · exact h4
  · exact ne_of_obj (q := (en, listOf vs.toArray n)) N (.tail _ hN) (.head _) (by obtain ⟨e, _, rfl⟩ := List.mem_map.mp hp; exact tup_ne_list)
  · exact h5
theorem tLed_ins {es : List TupE} {b : Nat} {e : TupE} {p : Addr × Obj} (h : p ∈ tLed (insE es b e)) : p = (e.1, tupObj e) ∨ p ∈ tLed es := by
  obtain ⟨e', he, rfl⟩ := List.mem_map.mp h
  rcases List.mem_append.mp he with he | he
  · exact .inr (tLed_mem (List.mem_of_mem_take he))
  · rcases List.mem_cons.mp he with rfl | he
    · exact .inl rfl
    · exact .inr (tLed_mem (List.mem_of_mem_drop he))
theorem fin_in {en tb D P c' kI : Addr} {o1 o2 oD oP oc kO : Obj} {es : List TupE} {b : Nat} {e : TupE} : ∀ p ∈ (en, o1) :: (tb, o2) :: (D, oD) :: (P, oP) :: ([(c', oc)] ++ tLed (insE es b e)), p ∈ (en, o1) :: (tb, o2) :: (c', oc) :: (P, oP) :: (e.1, tupObj e) :: (D, oD) :: (tLed es ++ [(kI, kO)]) := by
  intro p hp
  simp only [List.mem_cons, List.mem_append, List.not_mem_nil, or_false] at hp ⊢
  rcases hp with h | h | h | h | h | h
  · exact .inl h
  · exact .inr (.inl h)
  · exact .inr (.inr (.inr (.inr (.inr (.inl h)))))
  · exact .inr (.inr (.inr (.inl h)))
  · exact .inr (.inr (.inl h))
  · rcases tLed_ins h with h | h
    · exact .inr (.inr (.inr (.inr (.inl h))))
    · exact .inr (.inr (.inr (.inr (.inr (.inr (.inl h))))))
theorem fin_ne {en tb D P c' kI : Addr} {o1 o2 oD oP oc : Obj} {es : List TupE} {b : Nat} {e : TupE} (h1 : en ≠ kI) (h2 : tb ≠ kI) (h3 : D ≠ kI) (h4 : P ≠ kI) (h5 : c' ≠ kI) (h6 : e.1 ≠ kI) (h7 : ∀ p ∈ tLed es, p.1 ≠ kI) :
    ∀ p ∈ (en, o1) :: (tb, o2) :: (D, oD) :: (P, oP) :: ([(c', oc)] ++ tLed (insE es b e)), p.1 ≠ kI := by
  intro p hp
  simp only [List.mem_cons, List.mem_append, List.not_mem_nil, or_false] at hp
  rcases hp with rfl | rfl | rfl | rfl | rfl | h
  · exact h1
  · exact h2
  · exact h3
  · exact h4
  · exact h5
  · rcases tLed_ins h with rfl | h
    · exact h6
    · exact h7 p h
theorem key_yesI {es : List TupE} {k : Int} {e : TupE} {x : Int} (h : es.getD k.toNat (0, 0, 0, 0, 0) = e) (h0 : 0 ≤ k) (hk : k < es.length) (hx : ¬ x < e.2.1) : keyAt (pv es) x k.toNat = true := key_yes h (by omega) hx
theorem key_noI {es : List TupE} {k : Int} {e : TupE} {x : Int} (h : es.getD k.toNat (0, 0, 0, 0, 0) = e) (h0 : 0 ≤ k) (hk : k < es.length) (hx : x < e.2.1) : keyAt (pv es) x k.toNat = false := key_no h (by omega) hx
theorem tab_next {bs ms pre : List Int} {x : Int} {kE : List TupE} {kV : List Value} {kP : Int} {T : Addr} {t t' t2 : Tok} (h1 : pv kE = (tabRun bs ms pre).1) (h2 : IntsAre kV (tabRun bs ms pre).2.1) (h3 : kP = (tabRun bs ms pre).2.2) :
    pv (insE kE (bisV (keyAt (pv kE) kP) 0 kE.length) (T, kP, t, 1 + (bisR powersL x : Nat), t')) = (tabRun bs ms (pre ++ [x])).1 ∧
    IntsAre (kV ++ [.int (kP + ms.getD (bisR bs kP) 0) t2]) (tabRun bs ms (pre ++ [x])).2.1 ∧ kP + ms.getD (bisR bs kP) 0 = (tabRun bs ms (pre ++ [x])).2.2 := by
  rw [tabRun_snoc]
  unfold tabStep
  rw [← h3, ← h1]
  refine ⟨?_, h2.append (.cons _ _ .nil), rfl⟩
  rw [pv_ins]
  unfold insP
  rw [pv_len]
def insRefs (es : List TupE) (b : Nat) (a : Addr) : List Value := (tRefs es).take b ++ .ref a :: (tRefs es).drop b
theorem tRefs_insE {es : List TupE} {b : Nat} {e : TupE} : tRefs (insE es b e) = insRefs es b e.1 := by
  simp [tRefs, insE, insRefs, List.map_take, List.map_drop]
theorem insert_hd2 {A : Around} {tb a : Addr} {es : List TupE} {cn b : Nat} {u : Tok} {rest : List (Addr × Obj)} (F : Fr h₀ L s.heap m) (N : News h₀ L s.heap ((tb, listOf (tRefs es).toArray cn) :: rest)) (off : OwnOff rest [tb]) (hb : b ≤ es.length) (hz : es.length ≤ 64)
    (h : ∀ h', Fr h₀ L h' m → News h₀ L h' ((tb, listOf (insRefs es b a).toArray (cn + 1)) :: rest) → Q .none { s with heap := h' }) : wpAny (model prog w) A (call (.builtin "list.insert") [.ref tb, .int (b : Int) u, .ref a]) Q E s :=
  insert_hd (e := (a, 0, 0, 0, 0)) F N off hb hz (fun h' F' N' => h h' F' (by rw [tRefs_insE] at N'; exact N'))
theorem insR_of2 {h' : Heap} {tk' : Nat} {g : Heap} {L' : Addr} {m' : Str → Option Value} {h1 : Heap} {tb f c' a : Addr} {n b : Nat} {es : List TupE} {p1 p2 : Int} {t1 t2 : Tok} {o2 o3 : Obj} {rest : List (Addr × Obj)} (F : Fr h₀ L h' m) (N : News h₀ L h' [(tb, listOf (insRefs es b a).toArray n), (f, o2), (c', o3)]) (NR : News h₀ L h1 rest) (k : Kept g rest) (F' : Fr g L' h' m') :
    InsR h₀ L m s ((tb, listOf (tRefs (insE es b (a, p1, t1, p2, t2))).toArray n) :: (c', o3) :: rest) .none { s with heap := h', toks := tk' } :=
  insR_of F (by rw [tRefs_insE]; exact N) NR k F'
theorem fin_out {a b c d e : Addr × Obj} {xs ys zs : List (Addr × Obj)} : ∀ p ∈ a :: b :: c :: (ys ++ zs), p ∈ (a :: b :: c :: d :: e :: (xs ++ ys)) ++ zs := by
  intro p hp
  simp only [List.mem_cons, List.mem_append] at hp ⊢
  rcases hp with h | h | h | h | h
  · exact .inl (.inl h)
  · exact .inl (.inr (.inl h))
  · exact .inl (.inr (.inr (.inl h)))
  · exact .inl (.inr (.inr (.inr (.inr (.inr (.inr h))))))
  · exact .inr h
end
section
variable {prog : Program} {w : World} {p : Program} {loose : List Str} {mean : ExcName → Option Value} {mg mb : Str → Option Value} 
  {dp un : Nat} {gd : Option (List Code)} {cn : Str} {cs : Scope} {L a : Addr} {ccd : Value} {cl : List (Str × Addr)} {outer : List Env} {A₀ : Around} {base h₀ : Heap} {m : Str → Option Value} {s : Shared} {Q E : Value → Shared → Prop} {news : List (Addr × Obj)}
theorem tabOf_is (pos : Pos) (cd : Option (Addr × Obj)) : ∃ ps, tabOf pos cd = tabObj ps := by cases cd <;> exact ⟨_, rfl⟩
theorem fin_out2 {h : Heap} {a b c d : Addr × Obj} {o : Obj} {ps : Array Value} {xs ys zs : List (Addr × Obj)} (he : o = tabObj ps) (N : News h₀ L h ((a :: b :: c :: d :: (172, o) :: (xs ++ ys)) ++ zs)) : News h₀ L h (a :: b :: c :: (172, tabObj ps) :: (ys ++ zs)) := by
  subst he
  refine news_mono N fun p hp => ?_
  simp only [List.mem_cons, List.mem_append] at hp ⊢
  rcases hp with h | h | h | h | h | h
  · exact .inl (.inl h)
  · exact .inl (.inr (.inl h))
  · exact .inl (.inr (.inr (.inl h)))
  · exact .inl (.inr (.inr (.inr (.inr (.inl h)))))
  · exact .inl (.inr (.inr (.inr (.inr (.inr (.inr h))))))
  · exact .inr h
local macro_rules | `(tactic| cell_enter) => `(tactic| (refine' enter_plain ?k1 ?k2 ?k3 ?k4 ?kr ?ka ?k5 ?kA ?kF ?kK ?k6 ?k7 ?k8 ?k9 ?kB ?_ ?c2 ?c3 ?c4 ?c5; (case ka => assumption); (case kA => exact rfl); (case kF => exact rfl); (case kK => exact rfl); (case k1 => k_asm); (case k2 => k_asm); (case k3 => k_asm); (case k4 => k_asm); (case kr => k_asm); (case k5 => k_asm); (case k6 => k_is); (case k7 => k_is); (case k8 => ktr_room); (case k9 => first | exact BindsTo.of_eq rfl | (refine' kp_binds ?kx ?ke; (case kx => k_in); (case ke => exact fun _ => rfl)) | exact binds_K (by k_in) rfl (by k_is) rfl rfl rfl); (case c5 => decide); (case kB => exact locs rfl); (case c2 => exact rfl); (case c3 => exact rfl); (case c4 => exact rfl); k_whole; intro g' L' h' FG' F' N' B' X' T' kept'; (try dsimp only); (try k_lift B'); (try k_fold)))
set_option maxRecDepth 100000 in
set_option maxHeartbeats 3000000 in
theorem table_spec {la lb lc : Addr} {vn vb vm : List Value} {nn nb nm : List Int}
  (B : Below A₀ base outer h₀) (F : Fr h₀ L s.heap m) (X : (Mine.hd.heap_39 w.params).In h₀) (hTo : News h₀ L s.heap [(172, tabObj #[])]) (N : News h₀ L s.heap news) (hAp : Apart [(172, tabObj #[])] news) (T : Top p loose mean mg mb h₀) (hk : cs.kind = .function)
  (hd : dp + 9 < recursionLimit) (hu : un + 90 < cLine)
  (hkn : ∀ g, Fr h₀ L g m → Kept g news → g.IsList la vn.toArray) (hin : IntsAre vn nn) (hln : nn.length ≤ 64)
  (hkb : ∀ g, Fr h₀ L g m → Kept g news → g.IsList lb vb.toArray) (hib : IntsAre vb nb) (hlb : nb.length ≤ 64)
  (hkm : ∀ g, Fr h₀ L g m → Kept g news → g.IsList lc vm.toArray) (him : IntsAre vm nm) (hlm : nm.length ≤ 64) (hlt : nb.length < nm.length)
  (hret : ∀ (Tu tb en : Addr) (es : List TupE) (cn : Nat) (vs : List Value) (c2 : Nat) (ps : Array Value) (h' : Heap) (tk' : Nat), pv es = (tabRun nb nm nn).1 → IntsAre vs (tabRun nb nm nn).2.1 → Fr h₀ L h' m → News h₀ L h' ((Tu, { cls := .type "tuple", data := .seq #[.ref tb, .ref en] }) :: (en, listOf vs.toArray c2) :: (tb, listOf (tRefs es).toArray cn) :: (172, tabObj ps) :: (tLed es ++ news)) → Q (.ref Tu) { s with heap := h', toks := tk' }) :
  wpAny (model prog w) (ktrTop dp un gd cn cs L a ccd cl outer) (call (.ref 175) [.ref la, .ref lb, .ref lc]) Q E s := by
  k_with_none
  w_top off
  have hCH : CodeHd h₀ 174 172 := codeHd_of_K (K := Mine.hd.heap_39 w.params) X codeHd_174
  k_with "pyIter ref" =>
    (k_here; (with_reducible show wpAny _ _ (pyIter (Value.ref la)) _ _ _); (rename Fr _ _ _ _ => lF'); (rename News _ _ _ _ => lN');
     (with_unfolding_all refine' list_loop (σ := List TupE × Nat × List Value × Nat × Int × Tok × Option (Addr × Obj)) (fun c => (_, listOf c.2.2.1.toArray c.2.2.2.1) :: (_, listOf (tRefs c.1).toArray c.2.1) :: _ :: (172, tabOf ⟨186, 75, 186, 95⟩ c.2.2.2.2.2.2) :: (c.2.2.2.2.2.2.toList ++ tLed c.1)) (fun c => [(Str.ofString "place", Value.int c.2.2.2.2.1 c.2.2.2.2.2.1)]) (fun c => ∀ q, c.2.2.2.2.2.2 = some q → CodeOk (Str.ofString "_law_table.<locals>.<lambda>") q.2) [] (fun pre c => pv c.1 = (tabRun nb nm pre).1 ∧ IntsAre c.2.2.1 (tabRun nb nm pre).2.1 ∧ c.2.2.2.2.1 = (tabRun nb nm pre).2.2) ([], 0, [], 0, 0, _, none) (by rfl) hlN hin lF' lN' ?kf ?kk ⟨rfl, IntsAre.nil, rfl⟩ ?_ ?_);
     (case kk => kst_all);
     (case kf => (intro q hq; cases hq));
     (all_goals clear lF' lN');
     (focus (intro kC kPre kPost kN kT kU kH kTk kI kO kEq kNe kFacts kInv kFr kNews; obtain ⟨kE, kCn, kV, kC2, kP, kPt, kD⟩ := kC; (obtain ⟨kI1, kI2, kI3⟩ := kInv); (try dsimp only [kstB, envOf] at kFr); (try dsimp only [envOf] at kNews); (try dsimp only at kI1 kI2 kI3 kFacts); (try simp only [List.nil_append, List.cons_append] at kNews); (have hIP : kI ≠ 172 := (kNe (172, tabOf ⟨186, 75, 186, 95⟩ kD) (List.mem_cons_of_mem _ (List.mem_cons_of_mem _ (List.mem_cons_of_mem _ List.mem_cons_self)))).symm); (have kEl := tab_len hln kEq kI1); (have kVl := ends_len hln kEq kI2); (have hIE := (kNe _ List.mem_cons_self).symm); (have hIT := (kNe _ (List.mem_cons_of_mem _ List.mem_cons_self)).symm); (have hID := (kNe _ (List.mem_cons_of_mem _ (List.mem_cons_of_mem _ List.mem_cons_self))).symm); (have hIL : ∀ p ∈ tLed kE, p.1 ≠ kI := fun p hp => kNe p (List.mem_cons_of_mem _ (List.mem_cons_of_mem _ (List.mem_cons_of_mem _ (List.mem_cons_of_mem _ (List.mem_append_right _ hp)))))); (have hIC : ∀ q, kD = some q → kI ≠ q.1 := fun q hq => (kNe q (by subst hq; exact List.mem_cons_of_mem _ (List.mem_cons_of_mem _ (List.mem_cons_of_mem _ (List.mem_cons_of_mem _ List.mem_cons_self))))).symm); (try k_fold)));
     (rotate_left 1);
     (focus (intro kC kU kH kTk kFacts kInv kFr kNews; obtain ⟨kE, kCn, kV, kC2, kP, kPt, kD⟩ := kC; (obtain ⟨kI1, kI2, kI3⟩ := kInv); (try dsimp only [kstB, envOf] at kFr); (try dsimp only [envOf] at kNews); (try dsimp only at kI1 kI2 kI3 kFacts); (try k_fold)));
     (rotate_left 1))
  k_with "call ref" =>
    ((with_reducible show wpAny _ _ (call (Value.ref 46) [Value.ref _, Value.int _ _]) _ _ _);
     (first
     | ((with_reducible show wpAny _ _ (call (Value.ref 46) [Value.ref lb, _]) _ _ _); (with_unfolding_all refine' bisr_spec (ns := nb) ?kB ?kF ?kX ?kN ?kT ?kK ?kd ?ku ?ki ?kl ?kp ?_); (case ki => exact hib); (case kl => exact hlb); (case kB => k_asm); (case kF => k_asm); (case kX => k_asm); (case kN => k_asm); (case kT => k_asm); (case kK => exact rfl); (case kd => ktr_room); (case ku => ktr_units); (case kp => exact fun g9 F9 _ => hlB.at fun o9 e9 => F9.keep _ o9 e9))
     | ((rename IntsAre _ (List.map _ _) => hIp); (have hIq : IntsAre _ powersL := hIp); (with_unfolding_all refine' bisr_spec (ns := powersL) ?kB ?kF ?kX ?kN ?kT ?kK ?kd ?ku ?ki ?kl ?kp ?_); (case kB => k_asm); (case kF => k_asm); (case kX => k_asm); (case kN => k_asm); (case kT => k_asm); (case kK => exact rfl); (case kd => ktr_room); (case ku => ktr_units); (case ki => exact hIq); (case kl => decide +kernel); (case kp => exact fun g9 _ kk => kept_list (c := _) kk (by (repeat' (first | exact List.mem_cons_self | apply List.mem_cons_of_mem))))));
     intro h' tk' tk2 F' N'; (try dsimp only); (try k_fold))
  k_with "call ref" =>
    ((with_reducible show wpAny _ _ (call (Value.ref 37) _ _) _ _ _);
     (with_unfolding_all refine' ins_cut2 ?cF ?cN ?cW ?cC); (case cF => k_asm); (case cN => k_asm);
     (case' cW => ((rename News _ _ _ _ => nX); intro hTo2 hN2; (have hAp2 := apart_ins nX l1 lP lcP (by k_ne) (by k_ne) hIT); (refine wpAny_call ?_); (w_strict (k_dflt cell_enter))));
     (case' cC => (intro h' tk' F' N'; (try dsimp only); (try k_fold))))
  k_with "call builtin:len" => (k_here; (with_reducible show wpAny _ _ (call (Value.builtin "len") [Value.ref _]) _ _ _); ((refine KM.len_K (n := kE.length) (by k_asm) (by k_dflt k_mem) (by rw [List.size_toArray]; exact tRefs_len) (by omega) ?_)); (try dsimp only); (try k_fold))
  k_with "exec While" =>
    (k_here; (with_reducible show wpAny _ _ (exec (Stmt.While _ _ _ _) _) _ _ _); (rename Fr _ _ _ _ => lF'); (rename News _ _ _ _ => lN');
     (with_unfolding_all refine' ksw_while (σ := Int × Tok × Int × Tok) (fun _ => _) (fun c => [(Str.ofString "lo", Value.int c.1 c.2.1), (Str.ofString "hi", Value.int c.2.2.1 c.2.2.2)]) (fun _ => True) [Str.ofString "mid"] (fun c => BisAt (keyAt (pv kE) kP) kE.length c.1 c.2.2.1) (fun c => (c.2.2.1 - c.1).toNat) (0, _, kE.length, _) lF' lN' trivial ?kk ?kp ?_);
     (case kk => kst_all);
     (case kp => exact bisAt_start _ _);
     (clear lF' lN');
     (intro kC kU2 kH2 kTk2 kFacts2 kInv kFr2 kNews2; obtain ⟨kLo, kLt, kHi, kHt⟩ := kC; (try dsimp only [kstB, envOf] at kFr2); (try dsimp only [envOf] at kNews2); (try dsimp only at kInv); (try k_fold)))
  k_with "subscriptTail Name Name ref int" => (k_here; (with_reducible show wpAny _ _ (subscriptTail _ _ (Value.ref _) (Value.int _ _)) _ _ _); (have kMid := bisAt_mid kInv (by assumption)); (with_unfolding_all refine' item_ref (es := kE) ?k1 ?k2 ?k4 ?k5 ?k6 ?_ ?k7; (case k1 => k_asm); (case k2 => k_mem); (case k4 => exact kMid.1); (case k5 => exact kMid.2.1); (case k6 => omega); (case k7 => with_unfolding_all rfl)); k_whole; intro kTe kTm kTg; (try k_fold))
  k_with "subscriptTail Name Call ref int" => (k_here; (with_reducible show wpAny _ _ (subscriptTail _ _ (Value.ref lc) (Value.int _ _)) _ _ _); (have kRb := bisR_le nb kP); (with_unfolding_all refine' item_ground hlM ?k1 him ?k4 ?k5 ?k6 ?_ ?k7; (case k1 => k_asm); (case k4 => omega); (case k5 => omega); (case k6 => omega); (case k7 => with_unfolding_all rfl)); k_whole; intro t'; (try k_fold))
  k_with "call builtin:list.append" => ((with_reducible show wpAny _ _ (call (Value.builtin "list.append") [Value.ref _, _]) _ _ _); (rename News _ _ _ _ => nX); (have nY := led_en nX); (with_unfolding_all refine' append_hd ?F nY ?o ?z ?_; (case F => k_asm); (case o => exact off_en nY (by k_ne) (l1 _ (List.mem_cons_of_mem _ List.mem_cons_self)).2.1.symm (by k_ne) (by k_ne) hIE); (case z => omega)); intro h' F' N'; (try dsimp only); (try k_fold))
  k_with "subscriptTail" => (k_here; (with_reducible show wpAny _ _ (subscriptTail _ _ (Value.ref _) (Value.int 0 _)) _ _ _); (with_unfolding_all refine' item_tupG ?k1 ?_ ?k7; (case k1 => (repeat (first | exact kept_pair (by assumption) (by (repeat' (first | exact List.mem_cons_self | exact List.mem_append_left _ (tLed_mem (by assumption)) | apply List.mem_cons_of_mem))) | refine Fr.keep (by assumption) _ _ ?_))); (case k7 => with_unfolding_all rfl)); (try dsimp only); (try k_fold))
  k_with "KswEnd" => (rename News _ _ _ _ => nE'; (have kMid := bisAt_mid kInv (by assumption)); (first
    | ((with_unfolding_all refine' ksw_end (σ := Int × Tok × Int × Tok) (Int.fdiv (kLo + kHi) 2 + 1, _, kHi, kHt) ?kf nE' ?ki trivial ?kk ?ks ?kp ?km); (case kf => assumption); (case ki => kst_in); (case kk => kst_all); (case ks => ksw_same); (case kp => (exact bisAt_right kInv (by assumption) (key_yesI kTg kMid.1 kMid.2.1 (by assumption)))); (case km => (dsimp only; omega)))
    | ((with_unfolding_all refine' ksw_end (σ := Int × Tok × Int × Tok) (kLo, kLt, Int.fdiv (kLo + kHi) 2, _) ?kf nE' ?ki trivial ?kk ?ks ?kp ?km); (case kf => assumption); (case ki => kst_in); (case kk => kst_all); (case ks => ksw_same); (case kp => (exact bisAt_left kInv (by assumption) (key_noI kTg kMid.1 kMid.2.1 (by assumption)))); (case km => (dsimp only; omega)))))
  k_with "call builtin:list.insert" => (k_here; (with_reducible show wpAny _ _ (call (Value.builtin _) [Value.ref _, Value.int _ _, _]) _ _ _); (obtain rfl := bisAt_end kInv (by assumption)); (with_unfolding_all refine' insert_hd2 (es := kE) ?F ?N ?o ?b ?z ?insM; (case F => k_asm); (case N => k_asm); (case o => exact oo_cons (Nat.ne_of_lt (l1 _ (List.mem_cons_of_mem _ (List.mem_cons_of_mem _ List.mem_cons_self))).1).symm (oo_cons (l1 _ (List.mem_cons_of_mem _ (List.mem_cons_of_mem _ List.mem_cons_self))).2.1.symm oo_nil)); (case b => exact (bisV_le (keyAt (pv kE) kP) kE.length 0 kE.length (Nat.sub_le _ _) (Nat.zero_le _)).2); (case z => exact Nat.le_trans kEl (by decide))); (case' insM => (intro h' F' N'; (try dsimp only); (try k_fold))))
  k_with "InsR" => ((with_unfolding_all exact insR_of2 (by assumption) (by assumption) hN2 (by assumption) (by assumption)))
  k_with "TxtEnd" => (rename News _ _ _ _ => nE'; (with_unfolding_all refine' txt_end (σ := List TupE × Nat × List Value × Nat × Int × Tok × Option (Addr × Obj)) (insE kE (bisV (keyAt (pv kE) kP) 0 kE.length) (_, kP, _, _, _), kCn + 1, kV ++ [.int (kP + nm.getD (bisR nb kP) 0) _], kC2 + 1, kP + nm.getD (bisR nb kP) 0, _, some (c', oc')) ?kf nE' ?ki ?ko ?kn ?kF ?kk ?ks ?kpF); (case kf => assumption); (case ki => exact fin_in); (case ko => (repeat' (first | exact List.mem_append_right _ List.mem_cons_self | apply List.mem_cons_of_mem))); (case kF => (intro q hq; cases hq; exact ⟨_, _, d1C, d2C⟩)); (case kk => kst_all); (case ks => kst_same); (case kpF => exact tab_next kI1 kI2 kI3); (case kn => exact fin_ne hIE.symm hIT.symm hID.symm hIP.symm (l1 _ (List.mem_cons_of_mem _ (List.mem_cons_of_mem _ (List.mem_cons_of_mem _ (List.mem_cons_of_mem _ (List.mem_append_right _ List.mem_cons_self)))))).2.1.symm hTI hIL))
  k_with "eval Lambda" => ((refine' kla_eval ?d0 ?_; (case d0 => exact rfl)); (with_unfolding_all refine' lam_any (c := 174) (cd := kD) (P := 172) ?lF ?lN ?lT ?lC ?lcd ?lr ?lo ?lcl ?_); (case lF => k_asm); (case lN => exact led_rot (by k_asm)); (case lT => k_asm); (case lC => exact codeHd_of_K (K := Mine.hd.heap_39 w.params) (by assumption) codeHd_174); (case lcd => exact rfl); (case lr => exact offs_rest hIP hIC); (case lo => with_unfolding_all exact kFacts); (case lcl => with_unfolding_all exact rfl); intro f' c' oc' ct' h' tk' F' N' hCok l1 lP lcf lcP; (obtain ⟨vsC, tC, d1C, d2C⟩ := hCok); (rename _ ∧ _ ∧ _ ∧ _ ∧ AllLt _ _ => hAL); (have hTI := (Nat.ne_of_lt (allLt_mem hAL.2.2.2.2 _ (List.mem_append_right _ List.mem_cons_self))).symm); (try k_lt2 lcf))
  refine wpAny_call ?_
  w_strict (k_dflt cell_enter)
  have hlN := hkn _ (by assumption) (by assumption)
  have hlB := hkb _ (by assumption) (by assumption)
  have hlM := hkm _ (by assumption) (by assumption)
  k_steps
  obtain ⟨ps9, hps9⟩ := tabOf_is ⟨186, 75, 186, 95⟩ kD
  with_unfolding_all exact hret _ _ _ _ _ _ _ ps9 _ _ kI1 kI2 (by assumption) (fin_out2 hps9 (join_rest N (by assumption) (by assumption) (by assumption)))
end
section
variable {prog : Program} {w : World} {p : Program} {loose : List Str} {mean : ExcName → Option Value} {mg mb : Str → Option Value} 
  {dp un : Nat} {gd : Option (List Code)} {cn : Str} {cs : Scope} {L a : Addr} {ccd : Value} {cl : List (Str × Addr)} {outer : List Env} {A₀ : Around} {base h₀ : Heap} {m : Str → Option Value} {s : Shared} {Q E : Value → Shared → Prop} {news : List (Addr × Obj)}
theorem pick345 {x y z : Tok} : ∀ {k : Nat}, k ≤ 3 → IntsAre (slicePick #[.int 3 x, .int 4 y, .int 5 z] (some (k : Int)) none none).toList (([3, 4, 5] : List Int).drop k)
  | 0, _ => by rw [kmk_pick_nat _ (a := 0) (b := 3) (by exact rfl)]; exact .cons _ _ (.cons _ _ (.cons _ _ .nil))
  | 1, _ => by rw [kmk_pick_nat _ (a := 1) (b := 3) (by exact rfl)]; exact .cons _ _ (.cons _ _ .nil)
  | 2, _ => by rw [kmk_pick_nat _ (a := 2) (b := 3) (by exact rfl)]; exact .cons _ _ .nil
  | 3, _ => by rw [kmk_pick_nat _ (a := 3) (b := 3) (by exact rfl)]; exact .nil
  | _ + 4, h => absurd h (by omega)
def dr (ns : List Int) (i : Nat) : Int := ns.getD i (3 + i)
theorem drawn3 : ∀ ns : List Int, ns.take 3 ++ ([3, 4, 5] : List Int).drop (ns.take 3).length = [dr ns 0, dr ns 1, dr ns 2]
  | [] => rfl
  | [_] => rfl
  | [_, _] => rfl
  | _ :: _ :: _ :: _ => rfl
theorem ints3 {us : List Value} {a b c : Int} (h : IntsAre us [a, b, c]) : ∃ t1 t2 t3, us = [.int a t1, .int b t2, .int c t3] := by
  cases h with
  | cons _ t1 h => cases h with
    | cons _ t2 h => cases h with
      | cons _ t3 h => cases h; exact ⟨t1, t2, t3, rfl⟩
def ringOf (ns : List Int) : Int := ([5, 7, 11, 13, 17, 19] : List Int).getD (Int.fmod (dr ns 0) 6).toNat 0
def stepOf (ns : List Int) : Int := 1 + Int.fmod (dr ns 1) (ringOf ns - 1)
def wideOf (ns : List Int) : Int := 2 + Int.fmod (dr ns 2) (ringOf ns - 2)
set_option maxRecDepth 100000 in
set_option maxHeartbeats 600000 in
theorem drawn_spec {l : Addr} {vs : List Value} {ns : List Int}
  (B : Below A₀ base outer h₀) (F : Fr h₀ L s.heap m) (X : (Mine.hd.heap_39 w.params).In h₀) (N : News h₀ L s.heap news) (T : Top p loose mean mg mb h₀) (hk : cs.kind = .function)
  (hd : dp + 3 < recursionLimit) (hu : un + 30 < cLine)
  (hi : IntsAre vs ns) (hlen : ns.length ≤ 1048576) (hkp : ∀ g, Fr h₀ L g m → Kept g news → g.IsList l vs.toArray)
  (hret : ∀ (Tu : Addr) (t1 t2 t3 : Tok) (h' : Heap) (tk' : Nat), Fr h₀ L h' m → News h₀ L h' ((Tu, { cls := .type "tuple", data := .seq #[.int (ringOf ns) t1, .int (stepOf ns) t2, .int (wideOf ns) t3] }) :: news) → LCg.Off1 Tu news → Q (.ref Tu) { s with heap := h', toks := tk' }) :
  wpAny (model prog w) (ktrTop dp un gd cn cs L a ccd cl outer) (call (.ref 144) [.ref l]) Q E s := by
  k_with_none
  w_top off
  have hAp : Apart [] news := apart_nil
  have hTo : News h₀ L s.heap [] := News.nil
  k_with "subscriptTail Name Slice ref ref" => (k_here; (with_reducible show wpAny _ _ (subscriptTail _ (PySem.Expr.Slice (some _) none none _) (Value.ref _) (Value.ref _)) _ _ _); (with_unfolding_all refine' kmk_slice_ints (ns := [3, 4, 5]) (ms := ([3, 4, 5] : List Int).drop (ns.take 3).length) ?zF ?zN ?zl ?zp ?zq ?zi ?zm ?zc ?_ ?zs ?zt ?zz; (case zF => k_asm); (case zN => k_asm); (case zl => kmk_list); (case zp => exact IsPart.int _ _); (case zq => exact IsPart.none); (case zi => exact .cons _ _ (.cons _ _ (.cons _ _ .nil))); (case zm => exact pick345 (List.length_take_le _ _)); (case zc => exact rfl); (case zs => with_unfolding_all rfl); (case zt => kmk_pure); (case zz => exact Nat.le_of_ble_eq_true rfl)); intro D' ws' h' F' N' l1 hI' hC' hL'; (try k_lt l1))
  k_with "binaryOp Add ref ref" => ((with_reducible show wpAny _ _ (binaryOp Operator.Add (Value.ref _) (Value.ref _)) _ _ _); (with_unfolding_all refine' kmk_add_ints (ns := ns.take 3) (ms := ([3, 4, 5] : List Int).drop (ns.take 3).length) ?zF ?zN ?za ?zb ?zi ?zj ?_ ?zz; (case zF => k_asm); (case zN => k_asm); (case za => is_list); (case zb => is_list); (case zi => assumption); (case zj => assumption); (case zz => (simp only [sizeLine_eq, List.length_drop, List.length_cons, List.length_nil]; have := List.length_take_le 3 ns; omega))); (intro kD kW h' F' N' kL kJ); (rw [drawn3] at kJ); (obtain ⟨kt1, kt2, kt3, rfl⟩ := ints3 kJ); (try k_lt kL); (try dsimp only); (try k_fold))
  refine wpAny_call ?_
  w_strict (k_dflt cell_enter)
  have hlG := hkp _ (by assumption) (by assumption)
  k_steps
  all_goals (rename Int.fmod (dr ns 0) 6 = _ => kQ9)
  all_goals (simp only [stepOf, wideOf, ringOf, kQ9] at hret)
  all_goals (with_unfolding_all exact hret _ _ _ _ _ _ (by assumption) (news_mono (join_rest N (by assumption) (by assumption) (by assumption)) (fun p hp => by (rcases List.mem_cons.mp hp with rfl | hp; (exact List.mem_append_left _ List.mem_cons_self); (exact List.mem_append_right _ hp)))) (off_rest (by assumption) (by assumption) List.mem_cons_self))
end
section
variable {prog : Program} {w : World} {p : Program} {loose : List Str} {mean : ExcName → Option Value} {mg mb : Str → Option Value} 
  {dp un : Nat} {gd : Option (List Code)} {cn : Str} {cs : Scope} {L a : Addr} {ccd : Value} {cl : List (Str × Addr)} {outer : List Env} {A₀ : Around} {base h₀ : Heap} {m : Str → Option Value} {s : Shared} {Q E : Value → Shared → Prop} {news : List (Addr × Obj)}
def fewL : List Int := [1, 2, 3, 4, 5, 6, 7, 8, 9, 10, 11, 12, 13, 14, 15, 16, 17, 18, 19]
def fewK (r s w : Int) : Int := (fewL.find? (inStretch r s w)).getD 0
def fewV (r s w : Int) : Int := Int.fmod (fewK r s w * s) r
structure FewOk (r s w : Int) : Prop where
  lo : 1 ≤ fewK r s w
  hi : fewK r s w ≤ 19
  least : ∀ k, 1 ≤ k → k < fewK r s w → inStretch r s w k = false
  at' : inStretch r s w (fewK r s w) = true
structure Few (r s w av rv : Int) : Prop where
  av : av = fewK r s w
  rv : rv = fewV r s w
def spansOf (r s w : Int) : List Int := (List.replicate (w - fewV r s w).toNat [fewK r s w]).flatten ++ (List.replicate (fewV r s w + fewV r (r - s) w - w).toNat [fewK r s w + fewK r (r - s) w]).flatten ++ (List.replicate (w - fewV r (r - s) w).toNat [fewK r (r - s) w]).flatten
structure IsLead (r s w : Int) (x : Str) : Prop where
  eq : x = leadS r s w
def maxI (l : List Int) : Int := l.foldl (fun a b => if a < b then b else a) 0
structure IsSpans (r s w : Int) (sp : List Int) (mx : Int) : Prop where
  eq : sp = spansOf r s w
  mxe : mx = maxI sp
def cntI (l : List Int) (x : Int) : Int := (l.count x : Nat)
def countsOf (sp : List Int) (mx : Int) : List Int := (rangeKs 1 (mx + 1 - 1).toNat).map (cntI sp)
def lvlF (k x : Int) : Int := Int.fdiv (x - 1) k + 1
def lvlSum (k : Int) (sp : List Int) : Int := (sp.map (lvlF k)).sum
def octF (r s : Int) (x : Str) (t : Int) : Int := Int.fmod (t * s) r + (if (Txt.item x (t - 1) == Str.ofString " ") = true then 64 else 0)
def octsOf (r s : Int) (x : Str) : List Int := (rangeKs 1 ((x.length : Int) + 1 - 1).toNat).map (octF r s x)
structure IsWays (r s w : Int) (wy : List Int) : Prop where
  eq : wy = waysOf r s w
def fm64 (x : Int) : Int := Int.fmod x 64
def tabL (sp : List Int) (w : Int) : List (Int × Int) := (rangeKs 0 (w - 0).toNat).map fun j => (j, sp.getD j.toNat 0)
def midS (k : Int) : Str := Str.ofString "\t" ++ Txt.mul (Str.ofString " ") (k - 1) ++ Str.ofString "\t"
def wantS (k : Int) : Str := Str.ofString "...\t" ++ Txt.mul (Str.ofString " ") (k - 1) ++ Str.ofString "\t..."
def lastStep (r s w : Int) (acc : List Int) (k : Int) : List Int := if Int.fmod ((k + 1) * s) r = w - 1 then acc ++ [k] else acc
def lastL (r s w : Int) : List Int := (rangeKs 0 (r - 0).toNat).foldl (lastStep r s w) []
structure LawOk (r s w : Int) : Prop where
  dom : 5 ≤ r ∧ r ≤ 19 ∧ 1 ≤ s ∧ s < r ∧ 2 ≤ w ∧ w < r
  back : 0 < (backs r s).length
  few1 : FewOk r s w
  few2 : FewOk r (r - s) w
  leadLen : ((leadS r s w).length : Int) = r
  spLen : ((spansOf r s w).length : Int) = w
  spBd : ∀ x ∈ spansOf r s w, 1 ≤ x ∧ x ≤ 19
  spMax : 2 ≤ maxI (spansOf r s w)
  leadAs : ((leadS r s w) ++ Str.ofString "x \t").cps.all (· < 128) = true
  leadCd : KStt.codes ((leadS r s w) ++ Str.ofString "x \t") = KStt.codes (leadS r s w) ++ 120 :: [32, 9]
  leadBl : Blank (KStt.codes (leadS r s w))
  run : wsRun (KStt.codes (leadS r s w)) = (r, w, 0, countsOf (spansOf r s w) (maxI (spansOf r s w)))
  lvl : ∀ k ∈ ([1, 2, 3, 4, 5] : List Int), 0 + k * (ilF k (countsOf (spansOf r s w) (maxI (spansOf r s w))) (rangeKs k (maxI (spansOf r s w) - k).toNat) + w) = k * lvlSum k (spansOf r s w)
  read : readF 64 (octsOf r s (leadS r s w)) = some (waysOf r s w)
  waysLen : (waysOf r s w).length ≤ 64
  tab : (tabRun [w - fewV r s w, fewV r (r - s) w] [fewV r s w, fewV r s w - fewV r (r - s) w, - fewV r (r - s) w] (waysOf r s w)).1 = tabL (spansOf r s w) w
  ends : (tabRun [w - fewV r s w, fewV r (r - s) w] [fewV r s w, fewV r s w - fewV r (r - s) w, - fewV r (r - s) w] (waysOf r s w)).2.1 = (waysOf r s w).map fm64
  ell : ∀ i : Nat, i < 20 → (i : Int) ≤ maxI (spansOf r s w) → inS (leadS r s w ++ leadS r s w) (midS ((i : Nat) + 1)) = (spansOf r s w).any (· == ((i : Nat) + 1 : Int))
  revC : Txt.contains (dots ++ revS (leadS r s w) ++ dots) dots = true
  revS' : Txt.split (dots ++ revS (leadS r s w) ++ dots) dots = [Str.empty, revS (leadS r s w), Str.empty]
  last : ((bisV (bkGo (leadS r s w)) 0 (leadS r s w).length : Nat) : Int) = (lastL r s w).getD (Int.toNat 0) 0
  lastLen : 0 < (lastL r s w).length
end
section
variable {prog : Program} {w : World} {p : Program} {loose : List Str} {mean : ExcName → Option Value} {mg mb : Str → Option Value} 
  {dp un : Nat} {gd : Option (List Code)} {cn : Str} {cs : Scope} {L a : Addr} {ccd : Value} {cl : List (Str × Addr)} {outer : List Env} {A₀ : Around} {base h₀ : Heap} {m : Str → Option Value} {s : Shared} {Q E : Value → Shared → Prop} {news : List (Addr × Obj)}
/-- the text between two dots' marks -/
theorem str_ext {a b : Str} (h : a.cps.toList = b.cps.toList) : a = b := by
  have e : a.cps = b.cps := by
    have := congrArg List.toArray h
    simpa using this
  cases a; cases b; cases e; rfl
theorem app_list (a b : Str) : (a ++ b).cps.toList = a.cps.toList ++ b.cps.toList := by
  have e : (a ++ b).cps = a.cps ++ b.cps := rfl
  rw [e]; simp
theorem len_list_eq (x : Str) : x.length = x.cps.toList.length := by show x.cps.size = _; simp
theorem dots_list : dots.cps.toList = [46, 46, 46] := by decide
theorem sub_list {x y : Str} {k : Nat} : StrLaws.At x y x.length k ↔ k + y.length ≤ x.length ∧ (x.cps.toList.drop k).take y.length = y.cps.toList := by
  unfold StrLaws.At
  rw [StrLaws.subAt_eq, beq_iff_eq]
theorem at_dots {m : List Nat} (hm : ∀ c ∈ m, c ≠ 46) (hne : 1 ≤ m.length) (k : Nat) (hk : ((([46, 46, 46] : List Nat) ++ m ++ [46, 46, 46]).drop k).take 3 = [46, 46, 46]) (hl : k + 3 ≤ 6 + m.length) : k = 0 ∨ k = 3 + m.length := by
  have get : ∀ j, j < 3 → ((([46, 46, 46] : List Nat) ++ m ++ [46, 46, 46])[k + j]?) = some 46 := by
    intro j hj
    have e := congrArg (·[j]?) hk
    simp only [List.getElem?_take, List.getElem?_drop] at e
    rw [if_pos hj] at e
    rw [e]
    have : j = 0 ∨ j = 1 ∨ j = 2 := by omega
    rcases this with rfl | rfl | rfl <;> rfl
  have bad : ∀ i, 3 ≤ i → i < 3 + m.length → ((([46, 46, 46] : List Nat) ++ m ++ [46, 46, 46])[i]?) ≠ some 46 := by
    intro i h1 h2 e
    rw [List.append_assoc, List.getElem?_append_right (by simpa using h1), List.getElem?_append_left (by simp; omega)] at e
    exact hm _ (List.mem_of_getElem? e) rfl
  by_cases h0 : k = 0
  · exact .inl h0
  · by_cases h3 : k = 3 + m.length
    · exact .inr h3
    · exfalso
      by_cases hc : k < 3
      · exact bad 3 (Nat.le_refl _) (by omega) (by
          have := get (3 - k) (by omega)
          rwa [show k + (3 - k) = 3 by omega] at this)
      · exact bad k (by omega) (by omega) (by have := get 0 (by omega); simpa using this)
theorem dots_cat {m : Str} : (dots ++ m ++ dots).cps.toList = [46, 46, 46] ++ m.cps.toList ++ [46, 46, 46] := by
  rw [app_list, app_list, dots_list]
theorem dots_at {m : Str} (hm : ∀ c ∈ m.cps.toList, c ≠ 46) (hne : 1 ≤ m.length) (k : Nat) : StrLaws.At (dots ++ m ++ dots) dots (dots ++ m ++ dots).length k ↔ k = 0 ∨ k = 3 + m.length := by
  have hl : m.length = m.cps.toList.length := len_list_eq m
  have hx : (dots ++ m ++ dots).length = 6 + m.cps.toList.length := by rw [len_list_eq, dots_cat]; simp; omega
  have hd : dots.length = 3 := dots_len
  rw [sub_list, hd, dots_cat, dots_list, hx, hl]
  constructor
  · rintro ⟨h1, h2⟩
    exact at_dots hm (by omega) k h2 h1
  · rintro (rfl | rfl)
    · refine ⟨by omega, ?_⟩
      simp
    · refine ⟨by omega, ?_⟩
      have e : 3 + m.cps.toList.length = (([46, 46, 46] : List Nat) ++ m.cps.toList).length := by simp; omega
      rw [e, List.drop_left]
      rfl
theorem dots_occ {m : Str} (hm : ∀ c ∈ m.cps.toList, c ≠ 46) (hne : 1 ≤ m.length) : Builtin.Str.occurrences (dots ++ m ++ dots) dots 0 (dots ++ m ++ dots).length ((dots ++ m ++ dots).length + 1) = [0, 3 + m.length] := by
  obtain ⟨f, hc, hf⟩ := StrLaws.occ_tight (dots ++ m ++ dots) dots (by rw [dots_len]; decide)
  have hd : dots.length = 3 := dots_len
  have at0 := (dots_at hm hne 0).mpr (.inl rfl)
  have at1 := (dots_at hm hne (3 + m.length)).mpr (.inr rfl)
  match hq : Builtin.Str.occurrences (dots ++ m ++ dots) dots 0 (dots ++ m ++ dots).length ((dots ++ m ++ dots).length + 1), hc with
  | [], h =>
    have e : f = 0 := h
    exact absurd at0 (hf 0 (by omega))
  | a :: r, h =>
    obtain ⟨_, h2, h3, h4⟩ := h
    have ea : a = 0 := by
      rcases (dots_at hm hne a).mp h2 with e | e
      · exact e
      · exact absurd at0 (h3 0 (Nat.le_refl _) (by omega))
    subst ea
    rw [hd] at h4
    match r, h4 with
    | [], h =>
      have e : f = 0 + 3 := h
      exact absurd at1 (hf _ (by omega))
    | b :: r2, h =>
      obtain ⟨g1, g2, g3, g4⟩ := h
      have eb : b = 3 + m.length := by
        rcases (dots_at hm hne b).mp g2 with e | e
        · omega
        · exact e
      subst eb
      match r2, g4 with
      | [], _ => rfl
      | c :: _, h =>
        obtain ⟨k1, k2, _, _⟩ := h
        rcases (dots_at hm hne c).mp k2 with e | e
        · omega
        · rw [hd] at k1; omega
theorem sub_front (a b : Str) : Builtin.Str.strSub (a ++ b) 0 a.length = a := str_ext (by
  rw [StrLaws.strSub_toList, app_list, len_list_eq a]; simp)
theorem dots_split {m : Str} (hm : ∀ c ∈ m.cps.toList, c ≠ 46) (hne : 1 ≤ m.length) : Txt.split (dots ++ m ++ dots) dots = [Str.empty, m, Str.empty] := by
  have hd : dots.length = 3 := dots_len
  have hl : (dots ++ m ++ dots).length = 6 + m.length := by rw [Str.length_append, Str.length_append, hd]; omega
  have hk : Builtin.Str.strKind dots = 1 := by decide +kernel
  have hk2 : ∀ x, 1 ≤ Builtin.Str.strKind x := by
    intro x; unfold Builtin.Str.strKind; split
    · decide
    · split <;> decide
  unfold Txt.split
  rw [if_neg (by
    rw [hk, hl, hd, Bool.or_eq_true, decide_eq_true_eq, decide_eq_true_eq]
    have := hk2 (dots ++ m ++ dots)
    omega), dots_occ hm hne, if_neg (by simp), StrLaws.partsBetween_eq, hd]
  show [Builtin.Str.strSub _ 0 0, Builtin.Str.strSub _ (0 + 3) (3 + m.length), Builtin.Str.strSub _ (3 + m.length + 3) _] = _
  have e1 : Builtin.Str.strSub (dots ++ m ++ dots) 0 0 = Str.empty := str_ext (by rw [StrLaws.strSub_toList]; simp [Str.empty])
  have e2 : Builtin.Str.strSub (dots ++ m ++ dots) (0 + 3) (3 + m.length) = m := str_ext (by
    rw [StrLaws.strSub_toList, dots_cat, len_list_eq m]
    have e : (0 + 3) = ([46, 46, 46] : List Nat).length := rfl
    rw [List.append_assoc, show (0 + 3) = ([46, 46, 46] : List Nat).length from rfl, List.drop_left]
    have e : 3 + m.cps.toList.length - ([46, 46, 46] : List Nat).length = m.cps.toList.length := by simp
    rw [e, List.take_left])
  have e3 : Builtin.Str.strSub (dots ++ m ++ dots) (3 + m.length + 3) (dots ++ m ++ dots).length = Str.empty := str_ext (by
    rw [StrLaws.strSub_toList, hl]
    have e : 6 + m.length - (3 + m.length + 3) = 0 := by omega
    rw [e]; simp [Str.empty])
  rw [e1, e2, e3]
theorem dots_contains {m : Str} (hm : ∀ c ∈ m.cps.toList, c ≠ 46) (hne : 1 ≤ m.length) : Txt.contains (dots ++ m ++ dots) dots = true := by
  unfold Txt.contains
  rcases StrLaws.occ_head_from (dots ++ m ++ dots) dots 0 1 (Nat.le_refl _) with ⟨h, hn⟩ | ⟨k, r, h, _⟩
  · exact absurd ((dots_at hm hne 0).mpr (.inl rfl)) (hn 0 (Nat.le_refl _))
  · rw [h]; rfl
end
section
variable {prog : Program} {w : World} {p : Program} {loose : List Str} {mean : ExcName → Option Value} {mg mb : Str → Option Value} 
  {dp un : Nat} {gd : Option (List Code)} {cn : Str} {cs : Scope} {L a : Addr} {ccd : Value} {cl : List (Str × Addr)} {outer : List Env} {A₀ : Around} {base h₀ : Heap} {m : Str → Option Value} {s : Shared} {Q E : Value → Shared → Prop} {news : List (Addr × Obj)}
theorem blank_cps : (Str.ofString " ").cps = #[32] := by decide +kernel
theorem tab_cps : (Str.ofString "\t").cps = #[9] := by decide +kernel
theorem nil_cps : (Str.ofString "").cps = #[] := by decide +kernel
theorem xt_cps : (Str.ofString "x \t").cps = #[120, 32, 9] := by decide +kernel
theorem fold_rep (a : Array Nat) : ∀ (k : Nat) (acc : Array Nat), ((List.replicate k a).foldl (· ++ ·) acc).toList = acc.toList ++ (List.replicate k a.toList).flatten
  | 0, acc => by simp
  | k + 1, acc => by
    rw [List.replicate_succ, List.foldl_cons, fold_rep a k, List.replicate_succ, List.flatten_cons]
    simp
theorem rep_flat (k : Nat) : (List.replicate k [32]).flatten = List.replicate k 32 := by
  induction k with
  | zero => rfl
  | succ k ih => rw [List.replicate_succ, List.flatten_cons, ih, List.replicate_succ]; rfl
theorem mul_blank (n : Int) : (Txt.mul (Str.ofString " ") n).cps.toList = List.replicate n.toNat 32 := by
  unfold Txt.mul
  by_cases h : n < 1
  · rw [if_pos h]
    have : n.toNat = 0 := by omega
    rw [this]; rfl
  · rw [if_neg h]
    by_cases h1 : (n == 1 || (Str.ofString " ").length == 0) = true
    · rw [if_pos h1]
      have hl : (Str.ofString " ").length = 1 := by decide
      rw [hl] at h1
      have : n = 1 := by simpa using h1
      subst this
      rw [blank_cps]; rfl
    · rw [if_neg h1]
      show ((List.replicate n.toNat (Str.ofString " ").cps).foldl (· ++ ·) #[]).toList = _
      rw [fold_rep, blank_cps]
      simp
theorem join_fold : ∀ (l : List Str) (acc : Array Nat), (l.foldl (fun acc p => acc ++ (Str.ofString "").cps ++ p.cps) acc).toList = acc.toList ++ (l.map fun p => p.cps.toList).flatten
  | [], acc => by simp
  | x :: l, acc => by
    rw [List.foldl_cons, join_fold l, nil_cps]; simp
theorem join_list (l : List Str) : (Txt.join (Str.ofString "") l).cps.toList = (l.map fun p => p.cps.toList).flatten := by
  show ((l.drop 1).foldl (fun acc p => acc ++ (Str.ofString "").cps ++ p.cps) (l.headD Str.empty).cps).toList = _
  rw [join_fold]
  cases l with
  | nil => rfl
  | cons x l => simp
def leadC (r w : Int) (P : List Int) : List Nat := ((rangeKs 0 (w - 0).toNat).map (fun k => List.replicate ((List.drop 1 P ++ [r]).getD k.toNat 0 - P.getD k.toNat 0 - 1).toNat 32 ++ [9])).flatten
theorem lead_cells (r s w : Int) : (leadS r s w).cps.toList = leadC r w (ptsOf r s w) := by
  unfold leadS leadC
  rw [join_list, List.map_map]
  congr 1
  apply List.map_congr_left
  intro k _
  show (cellS r s w k).cps.toList = _
  unfold cellS
  rw [app_list, mul_blank, tab_cps]
  rfl
def ptF (r s : Int) (j : Nat) : List Int := (rangeKs 0 r.toNat).filter fun x => decide (Int.fmod (x * s) r < j)
def stepsOk (r s : Int) : Bool := (ptF r s 0 == []) && (List.range r.toNat).all fun j => insI (ltAt (ptF r s j) (Int.fmod ((j : Int) * bkF r s) r)) (ptF r s j) (Int.fmod ((j : Int) * bkF r s) r) == ptF r s (j + 1)
theorem rangeKs_zero_succ (n : Nat) : rangeKs 0 (n + 1) = rangeKs 0 n ++ [(n : Int)] := by
  simp [rangeKs, List.range_succ]
theorem pts_fast {r s : Int} (h : stepsOk r s = true) : ∀ n : Nat, n ≤ r.toNat → ptsF r (bkF r s) (rangeKs 0 n) = ptF r s n := by
  unfold stepsOk at h
  rw [Bool.and_eq_true, List.all_eq_true] at h
  obtain ⟨h0, h1⟩ := h
  intro n
  induction n with
  | zero => intro _; rw [show rangeKs 0 0 = [] from rfl, eq_of_beq h0]; rfl
  | succ n ih =>
    intro hn
    rw [rangeKs_zero_succ, ptsF_snoc, ih (by omega)]
    exact eq_of_beq (h1 n (List.mem_range.mpr (by omega)))
def leadF (r s w : Int) : List Nat := (List.range r.toNat).map fun t => if Int.fmod ((((t : Nat) : Int) + 1) * s) r < w then 9 else 32
theorem lead_list {r s w : Int} (h : stepsOk r s = true) (hw : w ≤ r) (hw0 : 0 ≤ w) (hc : leadC r w (ptF r s w.toNat) = leadF r s w) : (leadS r s w).cps.toList = leadF r s w := by
  rw [lead_cells]
  have e : ptsOf r s w = ptF r s w.toNat := by
    unfold ptsOf
    rw [show (w - 0).toNat = w.toNat by rw [Int.sub_zero]]
    exact pts_fast h w.toNat (by omega)
  rw [e]; exact hc
theorem leadF_mem {r s w : Int} : ∀ c ∈ leadF r s w, c = 32 ∨ c = 9 := by
  intro c hc
  obtain ⟨t, _, rfl⟩ := List.mem_map.mp hc
  by_cases h : Int.fmod ((((t : Nat) : Int) + 1) * s) r < w
  · rw [if_pos h]; exact .inr rfl
  · rw [if_neg h]; exact .inl rfl
theorem leadF_len (r s w : Int) : (leadF r s w).length = r.toNat := by simp [leadF]
theorem codes_app (a b : Str) : KStt.codes (a ++ b) = KStt.codes a ++ KStt.codes b := by
  unfold KStt.codes; rw [app_list]; simp
theorem rev_list (x : Str) : (revS x).cps.toList = x.cps.toList.reverse := by
  have h := fold_front_list x ⟨#[]⟩ rfl
  rw [fold_front_eq_rev x ⟨#[]⟩ rfl 0] at h
  exact h
theorem slice_to (x : Str) {j : Int} (h : 0 ≤ j ∧ j ≤ x.cps.toList.length) : (Txt.slice x none (some j)).cps.toList = x.cps.toList.take j.toNat := by
  have e := eq_of_beq (slice_closes_to (x := x) (j := j) h)
  rw [e]
  simp
def octF2 (r s w : Int) : List Int := (rangeKs 1 r.toNat).map fun t => Int.fmod (t * s) r + (if Int.fmod (t * s) r < w then 0 else 64)
def ellOk (sp : List Int) (mx : Int) (X : List Nat) : Bool := (List.range 20).all fun i => !decide ((i : Int) ≤ mx) || (subIn ([9] ++ List.replicate i 32 ++ [9]) X == sp.any (· == ((i : Nat) + 1 : Int)))
def backAt (X : List Nat) (n : Nat) : Nat := bisV (fun k => !subIn (X.reverse) ((X ++ X).take (n + k))) 0 n
def chk1 (r s w : Int) (X : List Nat) (sp : List Int) (mx : Int) (ways : List Int) (u v : Int) : Bool :=
  (leadC r w (ptF r s w.toNat) == X) &&
  (decide ((sp.length : Int) = w) && sp.all (fun x => decide (1 ≤ x) && decide (x ≤ 19)) && decide (2 ≤ mx)) &&
  (decide (wsRun (X.map fun (c : Nat) => (c : Int)) = (r, w, 0, countsOf sp mx))) &&
  (decide (readF 64 (octF2 r s w) = some ways) && decide (ways.length ≤ 64)) &&
  ellOk sp mx (X ++ X) &&
  (decide (((backAt X r.toNat : Nat) : Int) = (lastL r s w).getD 0 0) && decide (0 < (lastL r s w).length)) &&
  (decide ((tabRun [w - u, v] [u, u - v, - v] ways).1 = tabL sp w) && decide ((tabRun [w - u, v] [u, u - v, - v] ways).2.1 = ways.map fm64)) &&
  ([1, 2, 3, 4, 5] : List Int).all (fun k => decide (0 + k * (ilF k (countsOf sp mx) (rangeKs k (mx - k).toNat) + w) = k * lvlSum k sp))
def fewB (r s w : Int) : Bool := decide (1 ≤ fewK r s w) && decide (fewK r s w ≤ 19) && fewL.all (fun k => !decide (k < fewK r s w) || !inStretch r s w k) && inStretch r s w (fewK r s w)
def chk (r s w : Int) : Bool := fewB r s w && fewB r (r - s) w && chk1 r s w (leadF r s w) (spansOf r s w) (maxI (spansOf r s w)) (waysOf r s w) (fewV r s w) (fewV r (r - s) w)
end
section
variable {prog : Program} {w : World} {p : Program} {loose : List Str} {mean : ExcName → Option Value} {mg mb : Str → Option Value} 
  {dp un : Nat} {gd : Option (List Code)} {cn : Str} {cs : Scope} {L a : Addr} {ccd : Value} {cl : List (Str × Addr)} {outer : List Env} {A₀ : Around} {base h₀ : Heap} {m : Str → Option Value} {s : Shared} {Q E : Value → Shared → Prop} {news : List (Addr × Obj)}
theorem fewOk_of {r s w : Int} (h : fewB r s w = true) : FewOk r s w := by
  unfold fewB at h
  simp only [Bool.and_eq_true, decide_eq_true_eq] at h
  obtain ⟨⟨⟨h1, h2⟩, h3⟩, h4⟩ := h
  refine ⟨h1, h2, fun k k1 k2 => ?_, h4⟩
  have hm : k ∈ fewL := by
    have : k = 1 ∨ k = 2 ∨ k = 3 ∨ k = 4 ∨ k = 5 ∨ k = 6 ∨ k = 7 ∨ k = 8 ∨ k = 9 ∨ k = 10 ∨ k = 11 ∨ k = 12 ∨ k = 13 ∨ k = 14 ∨ k = 15 ∨ k = 16 ∨ k = 17 ∨ k = 18 := by omega
    rcases this with rfl | rfl | rfl | rfl | rfl | rfl | rfl | rfl | rfl | rfl | rfl | rfl | rfl | rfl | rfl | rfl | rfl | rfl <;> decide
  have := List.all_eq_true.mp h3 k hm
  rw [decide_eq_true k2] at this
  simpa using this
theorem bisV_congr {f g : Nat → Bool} : ∀ (n lo hi : Nat), hi - lo ≤ n → (∀ k, k < hi → f k = g k) → bisV f lo hi = bisV g lo hi := by
  intro n
  induction n with
  | zero => intro lo hi h _; rw [bisV_end f (by omega), bisV_end g (by omega)]
  | succ n ih =>
    intro lo hi h hfg
    by_cases hl : lo < hi
    · rw [bisV_step f hl, bisV_step g hl, hfg _ (by omega), ih _ hi (by omega) hfg, ih lo _ (by omega) fun k hk => hfg k (by omega)]
    · rw [bisV_end f hl, bisV_end g hl]
theorem item_is {x : Str} {c : Nat} {i : Int} (h0 : 0 ≤ i) (hi : i < x.cps.toList.length) (hc : x.cps.toList[i.toNat]? = some c) : Txt.item x i = ⟨#[c]⟩ := by
  have hs : x.length = x.cps.toList.length := len_list_eq x
  unfold Txt.item Txt.charAt
  rw [hs, seqIndex_of h0 hi]
  have : x.cps[i.toNat]? = some c := by rw [← hc]; simp
  show (⟨#[(x.cps[i.toNat]?).getD 0]⟩ : Str) = _
  rw [this]; rfl
theorem item_blank (c : Nat) : ((⟨#[c]⟩ : Str) == Str.ofString " ") = decide (c = 32) := by
  have e : Str.ofString " " = ⟨#[32]⟩ := by decide +kernel
  rw [e]
  by_cases h : c = 32
  · subst h; simp
  · rw [decide_eq_false h]
    apply beq_eq_false_iff_ne.mpr
    intro hq
    exact h (by simpa using hq)
theorem octs_eq {r s w : Int} (h5 : 5 ≤ r) (hl : (leadS r s w).cps.toList = leadF r s w) : octsOf r s (leadS r s w) = octF2 r s w := by
  have hlen : (leadS r s w).length = r.toNat := by rw [len_list_eq, hl, leadF_len]
  unfold octsOf octF2
  rw [hlen, show ((r.toNat : Int) + 1 - 1).toNat = r.toNat by omega]
  apply List.map_congr_left
  intro t ht
  have hb := mem_rangeKs ht
  unfold octF
  have hlt : t - 1 < ((leadS r s w).cps.toList.length : Int) := by rw [hl, leadF_len]; omega
  have hget : (leadS r s w).cps.toList[(t - 1).toNat]? = some (if Int.fmod (t * s) r < w then 9 else 32) := by
    rw [hl]
    unfold leadF
    rw [List.getElem?_map, List.getElem?_range (by omega)]
    have e : (((t - 1).toNat : Nat) : Int) + 1 = t := by omega
    simp only [Option.map_some, e]
  rw [item_is (by omega) hlt hget, item_blank]
  by_cases hw : Int.fmod (t * s) r < w
  · rw [if_pos hw, if_pos hw]; rfl
  · rw [if_neg hw, if_neg hw]; rfl
theorem mid_list (i : Nat) : (midS ((i : Nat) + 1 : Int)).cps.toList = [9] ++ List.replicate i 32 ++ [9] := by
  unfold midS
  rw [app_list, app_list, tab_cps, mul_blank]
  rw [show (((i : Nat) : Int) + 1 - 1).toNat = i by omega]
theorem want_eq (i : Nat) : wantS ((i : Nat) + 1 : Int) = dots ++ midS ((i : Nat) + 1 : Int) ++ dots := by
  apply str_ext
  have e1 : (Str.ofString "...\t").cps.toList = [46, 46, 46, 9] := by decide +kernel
  have e2 : (Str.ofString "\t...").cps.toList = [9, 46, 46, 46] := by decide +kernel
  rw [dots_cat, mid_list]
  unfold wantS
  rw [app_list, app_list, e1, e2, mul_blank, show (((i : Nat) : Int) + 1 - 1).toNat = i by omega]
  simp
theorem want_ok' (i : Nat) (hi : i < 20) : Txt.contains (wantS ((i : Nat) + 1)) dots = true ∧ Txt.split (wantS ((i : Nat) + 1)) dots = [Str.empty, midS ((i : Nat) + 1), Str.empty] ∧ (wantS ((i : Nat) + 1)).length ≤ 200 ∧ (midS ((i : Nat) + 1)).length ≤ 200 := by
  have hl : (midS ((i : Nat) + 1 : Int)).length = i + 2 := by rw [len_list_eq, mid_list]; simp
  have hm : ∀ c ∈ (midS ((i : Nat) + 1 : Int)).cps.toList, c ≠ 46 := by
    intro c hc
    rw [mid_list] at hc
    simp only [List.mem_append, List.mem_singleton, List.mem_replicate] at hc
    rcases hc with (h | ⟨_, h⟩) | h <;> omega
  have hw : (wantS ((i : Nat) + 1 : Int)).length = i + 8 := by rw [want_eq, Str.length_append, Str.length_append, dots_len, hl]; omega
  refine ⟨?_, ?_, by omega, by omega⟩
  · rw [want_eq]; exact dots_contains hm (by omega)
  · rw [want_eq]; exact dots_split hm (by omega)
theorem lawOk_of {r s w : Int} (hd : 5 ≤ r ∧ r ≤ 19 ∧ 1 ≤ s ∧ s < r ∧ 2 ≤ w ∧ w < r) (hst : stepsOk r s = true) (hb : 0 < (backs r s).length) (h : chk r s w = true) : LawOk r s w := by
  unfold chk chk1 at h
  simp only [Bool.and_eq_true, decide_eq_true_eq] at h
  obtain ⟨⟨f1, f2⟩, ⟨⟨⟨⟨⟨⟨hC, ⟨hSl, hSb⟩, hSm⟩, hRun⟩, hRead, hWl⟩, hEll⟩, hBk, hLl⟩, hTab, hEnds⟩, hLvl⟩ := h
  have hl := lead_list hst (by omega) (by omega) (eq_of_beq hC)
  have hcodes : KStt.codes (leadS r s w) = (leadF r s w).map fun (c : Nat) => (c : Int) := by unfold KStt.codes; rw [hl]
  have hlen : (leadS r s w).length = r.toNat := by rw [len_list_eq, hl, leadF_len]
  have hrl : (revS (leadS r s w)).cps.toList = (leadF r s w).reverse := by rw [rev_list, hl]
  have hrm : ∀ c ∈ (revS (leadS r s w)).cps.toList, c ≠ 46 := by
    intro c hc
    rw [hrl] at hc
    rcases leadF_mem c (List.mem_reverse.mp hc) with h | h <;> omega
  have hrn : 1 ≤ (revS (leadS r s w)).length := by rw [revS_len, hlen]; omega
  refine { dom := hd, back := hb, few1 := fewOk_of f1, few2 := fewOk_of f2, leadLen := by rw [hlen]; omega, spLen := hSl, spBd := fun x hx => ?_, spMax := hSm, leadAs := ?_, leadCd := ?_, leadBl := ?_, run := by rw [hcodes]; exact hRun, lvl := fun k hk => ?_, read := by rw [octs_eq hd.1 hl]; exact hRead, waysLen := hWl, tab := hTab, ends := hEnds, ell := fun i hi hm => ?_, revC := dots_contains hrm hrn, revS' := dots_split hrm hrn, last := ?_, lastLen := hLl }
  · have := List.all_eq_true.mp hSb x hx
    simpa using this
  · rw [← Array.all_toList, app_list, hl, xt_cps, List.all_append, Bool.and_eq_true]
    refine ⟨List.all_eq_true.mpr fun c hc => ?_, by decide +kernel⟩
    rcases leadF_mem c hc with h | h <;> subst h <;> decide
  · rw [codes_app]
    have e : KStt.codes (Str.ofString "x \t") = 120 :: [32, 9] := by unfold KStt.codes; rw [xt_cps]; rfl
    rw [e]
  · intro c hc
    rw [hcodes] at hc
    obtain ⟨a, ha, rfl⟩ := List.mem_map.mp hc
    rcases leadF_mem a ha with h | h <;> subst h <;> simp
  · have := List.all_eq_true.mp hLvl k hk
    simpa using this
  · have := List.all_eq_true.mp hEll i (List.mem_range.mpr hi)
    rw [decide_eq_true hm] at this
    unfold inS
    rw [mid_list, app_list, hl]
    have e := eq_of_beq (by simpa using this : (subIn ([9] ++ List.replicate i 32 ++ [9]) (leadF r s w ++ leadF r s w) == (spansOf r s w).any (· == ((i : Nat) + 1 : Int))) = true)
    exact e
  · rw [hlen]
    have e : bisV (bkGo (leadS r s w)) 0 r.toNat = backAt (leadF r s w) r.toNat := by
      unfold backAt
      refine bisV_congr r.toNat 0 r.toNat (by omega) fun k hk => ?_
      unfold bkGo bkGot inS
      rw [hrl, hlen, slice_to _ (by rw [app_list, hl, List.length_append, leadF_len]; omega), app_list, hl]
      rw [show ((r.toNat : Int) + (k : Int)).toNat = r.toNat + k by omega]
    rw [e]; exact hBk
end
section
variable {prog : Program} {w : World} {p : Program} {loose : List Str} {mean : ExcName → Option Value} {mg mb : Str → Option Value} 
  {dp un : Nat} {gd : Option (List Code)} {cn : Str} {cs : Scope} {L a : Addr} {ccd : Value} {cl : List (Str × Addr)} {outer : List Env} {A₀ : Around} {base h₀ : Heap} {m : Str → Option Value} {s : Shared} {Q E : Value → Shared → Prop} {news : List (Addr × Obj)}
def okB (r s : Int) (n : Nat) : Bool := stepsOk r s && decide (0 < (backs r s).length) && (List.range n).all fun i => chk r s ((i : Nat) + 2 : Int)
theorem ok_pick {r s w : Int} {n : Nat} (h : okB r s n = true) (hd : 5 ≤ r ∧ r ≤ 19 ∧ 1 ≤ s ∧ s < r ∧ 2 ≤ w ∧ w < r) (hn : (n : Int) = r - 2) : LawOk r s w := by
  unfold okB at h
  rw [Bool.and_eq_true, Bool.and_eq_true, decide_eq_true_eq] at h
  obtain ⟨⟨h1, h2⟩, h3⟩ := h
  have h4 := List.all_eq_true.mp h3 (w - 2).toNat (List.mem_range.mpr (by omega))
  have e : (((w - 2).toNat : Nat) : Int) + 2 = w := by omega
  rw [e] at h4
  exact lawOk_of hd h1 h2 h4
set_option maxRecDepth 1000000
theorem ok_5_1 : okB 5 1 3 = true := by decide +kernel
theorem ok_5_2 : okB 5 2 3 = true := by decide +kernel
theorem ok_5_3 : okB 5 3 3 = true := by decide +kernel
theorem ok_5_4 : okB 5 4 3 = true := by decide +kernel
theorem ok_7_1 : okB 7 1 5 = true := by decide +kernel
theorem ok_7_2 : okB 7 2 5 = true := by decide +kernel
theorem ok_7_3 : okB 7 3 5 = true := by decide +kernel
theorem ok_7_4 : okB 7 4 5 = true := by decide +kernel
theorem ok_7_5 : okB 7 5 5 = true := by decide +kernel
theorem ok_7_6 : okB 7 6 5 = true := by decide +kernel
theorem ok_11_1 : okB 11 1 9 = true := by decide +kernel
theorem ok_11_2 : okB 11 2 9 = true := by decide +kernel
theorem ok_11_3 : okB 11 3 9 = true := by decide +kernel
theorem ok_11_4 : okB 11 4 9 = true := by decide +kernel
theorem ok_11_5 : okB 11 5 9 = true := by decide +kernel
theorem ok_11_6 : okB 11 6 9 = true := by decide +kernel
theorem ok_11_7 : okB 11 7 9 = true := by decide +kernel
theorem ok_11_8 : okB 11 8 9 = true := by decide +kernel
theorem ok_11_9 : okB 11 9 9 = true := by decide +kernel
theorem ok_11_10 : okB 11 10 9 = true := by decide +kernel
theorem ok_13_1 : okB 13 1 11 = true := by decide +kernel
theorem ok_13_2 : okB 13 2 11 = true := by decide +kernel
theorem ok_13_3 : okB 13 3 11 = true := by decide +kernel
theorem ok_13_4 : okB 13 4 11 = true := by decide +kernel
theorem ok_13_5 : okB 13 5 11 = true := by decide +kernel
theorem ok_13_6 : okB 13 6 11 = true := by decide +kernel
theorem ok_13_7 : okB 13 7 11 = true := by decide +kernel
theorem ok_13_8 : okB 13 8 11 = true := by decide +kernel
theorem ok_13_9 : okB 13 9 11 = true := by decide +kernel
theorem ok_13_10 : okB 13 10 11 = true := by decide +kernel
theorem ok_13_11 : okB 13 11 11 = true := by decide +kernel
theorem ok_13_12 : okB 13 12 11 = true := by decide +kernel
theorem ok_17_1 : okB 17 1 15 = true := by decide +kernel
theorem ok_17_2 : okB 17 2 15 = true := by decide +kernel
theorem ok_17_3 : okB 17 3 15 = true := by decide +kernel
theorem ok_17_4 : okB 17 4 15 = true := by decide +kernel
theorem ok_17_5 : okB 17 5 15 = true := by decide +kernel
theorem ok_17_6 : okB 17 6 15 = true := by decide +kernel
theorem ok_17_7 : okB 17 7 15 = true := by decide +kernel
theorem ok_17_8 : okB 17 8 15 = true := by decide +kernel
theorem ok_17_9 : okB 17 9 15 = true := by decide +kernel
theorem ok_17_10 : okB 17 10 15 = true := by decide +kernel
theorem ok_17_11 : okB 17 11 15 = true := by decide +kernel
theorem ok_17_12 : okB 17 12 15 = true := by decide +kernel
theorem ok_17_13 : okB 17 13 15 = true := by decide +kernel
theorem ok_17_14 : okB 17 14 15 = true := by decide +kernel
theorem ok_17_15 : okB 17 15 15 = true := by decide +kernel
theorem ok_17_16 : okB 17 16 15 = true := by decide +kernel
theorem ok_19_1 : okB 19 1 17 = true := by decide +kernel
theorem ok_19_2 : okB 19 2 17 = true := by decide +kernel
theorem ok_19_3 : okB 19 3 17 = true := by decide +kernel
theorem ok_19_4 : okB 19 4 17 = true := by decide +kernel
theorem ok_19_5 : okB 19 5 17 = true := by decide +kernel
theorem ok_19_6 : okB 19 6 17 = true := by decide +kernel
theorem ok_19_7 : okB 19 7 17 = true := by decide +kernel
theorem ok_19_8 : okB 19 8 17 = true := by decide +kernel
theorem ok_19_9 : okB 19 9 17 = true := by decide +kernel
theorem ok_19_10 : okB 19 10 17 = true := by decide +kernel
theorem ok_19_11 : okB 19 11 17 = true := by decide +kernel
theorem ok_19_12 : okB 19 12 17 = true := by decide +kernel
theorem ok_19_13 : okB 19 13 17 = true := by decide +kernel
theorem ok_19_14 : okB 19 14 17 = true := by decide +kernel
theorem ok_19_15 : okB 19 15 17 = true := by decide +kernel
theorem ok_19_16 : okB 19 16 17 = true := by decide +kernel
theorem ok_19_17 : okB 19 17 17 = true := by decide +kernel
theorem ok_19_18 : okB 19 18 17 = true := by decide +kernel
theorem ring_5 {s w : Int} (h : 1 ≤ s ∧ s < 5 ∧ 2 ≤ w ∧ w < 5) : LawOk 5 s w := by
  have hs : s = 1 ∨ s = 2 ∨ s = 3 ∨ s = 4 := by omega
  rcases hs with rfl | rfl | rfl | rfl
  · exact ok_pick ok_5_1 ⟨by decide, by decide, by decide, by decide, h.2.2⟩ (by decide)
  · exact ok_pick ok_5_2 ⟨by decide, by decide, by decide, by decide, h.2.2⟩ (by decide)
  · exact ok_pick ok_5_3 ⟨by decide, by decide, by decide, by decide, h.2.2⟩ (by decide)
  · exact ok_pick ok_5_4 ⟨by decide, by decide, by decide, by decide, h.2.2⟩ (by decide)
theorem ring_7 {s w : Int} (h : 1 ≤ s ∧ s < 7 ∧ 2 ≤ w ∧ w < 7) : LawOk 7 s w := by
  have hs : s = 1 ∨ s = 2 ∨ s = 3 ∨ s = 4 ∨ s = 5 ∨ s = 6 := by omega
  rcases hs with rfl | rfl | rfl | rfl | rfl | rfl
  · exact ok_pick ok_7_1 ⟨by decide, by decide, by decide, by decide, h.2.2⟩ (by decide)
  · exact ok_pick ok_7_2 ⟨by decide, by decide, by decide, by decide, h.2.2⟩ (by decide)
  · exact ok_pick ok_7_3 ⟨by decide, by decide, by decide, by decide, h.2.2⟩ (by decide)
  · exact ok_pick ok_7_4 ⟨by decide, by decide, by decide, by decide, h.2.2⟩ (by decide)
  · exact ok_pick ok_7_5 ⟨by decide, by decide, by decide, by decide, h.2.2⟩ (by decide)
  · exact ok_pick ok_7_6 ⟨by decide, by decide, by decide, by decide, h.2.2⟩ (by decide)
theorem ring_11 {s w : Int} (h : 1 ≤ s ∧ s < 11 ∧ 2 ≤ w ∧ w < 11) : LawOk 11 s w := by
  have hs : s = 1 ∨ s = 2 ∨ s = 3 ∨ s = 4 ∨ s = 5 ∨ s = 6 ∨ s = 7 ∨ s = 8 ∨ s = 9 ∨ s = 10 := by omega
  rcases hs with rfl | rfl | rfl | rfl | rfl | rfl | rfl | rfl | rfl | rfl
  · exact ok_pick ok_11_1 ⟨by decide, by decide, by decide, by decide, h.2.2⟩ (by decide)
  · exact ok_pick ok_11_2 ⟨by decide, by decide, by decide, by decide, h.2.2⟩ (by decide)
  · exact ok_pick ok_11_3 ⟨by decide, by decide, by decide, by decide, h.2.2⟩ (by decide)
  · exact ok_pick ok_11_4 ⟨by decide, by decide, by decide, by decide, h.2.2⟩ (by decide)
  · exact ok_pick ok_11_5 ⟨by decide, by decide, by decide, by decide, h.2.2⟩ (by decide)
  · exact ok_pick ok_11_6 ⟨by decide, by decide, by decide, by decide, h.2.2⟩ (by decide)
  · exact ok_pick ok_11_7 ⟨by decide, by decide, by decide, by decide, h.2.2⟩ (by decide)
  · exact ok_pick ok_11_8 ⟨by decide, by decide, by decide, by decide, h.2.2⟩ (by decide)
  · exact ok_pick ok_11_9 ⟨by decide, by decide, by decide, by decide, h.2.2⟩ (by decide)
  · exact ok_pick ok_11_10 ⟨by decide, by decide, by decide, by decide, h.2.2⟩ (by decide)
theorem ring_13 {s w : Int} (h : 1 ≤ s ∧ s < 13 ∧ 2 ≤ w ∧ w < 13) : LawOk 13 s w := by
  have hs : s = 1 ∨ s = 2 ∨ s = 3 ∨ s = 4 ∨ s = 5 ∨ s = 6 ∨ s = 7 ∨ s = 8 ∨ s = 9 ∨ s = 10 ∨ s = 11 ∨ s = 12 := by omega
  rcases hs with rfl | rfl | rfl | rfl | rfl | rfl | rfl | rfl | rfl | rfl | rfl | rfl
  · exact ok_pick ok_13_1 ⟨by decide, by decide, by decide, by decide, h.2.2⟩ (by decide)
  · exact ok_pick ok_13_2 ⟨by decide, by decide, by decide, by decide, h.2.2⟩ (by decide)
  · exact ok_pick ok_13_3 ⟨by decide, by decide, by decide, by decide, h.2.2⟩ (by decide)
  · exact ok_pick ok_13_4 ⟨by decide, by decide, by decide, by decide, h.2.2⟩ (by decide)
  · exact ok_pick ok_13_5 ⟨by decide, by decide, by decide, by decide, h.2.2⟩ (by decide)
  · exact ok_pick ok_13_6 ⟨by decide, by decide, by decide, by decide, h.2.2⟩ (by decide)
  · exact ok_pick ok_13_7 ⟨by decide, by decide, by decide, by decide, h.2.2⟩ (by decide)
  · exact ok_pick ok_13_8 ⟨by decide, by decide, by decide, by decide, h.2.2⟩ (by decide)
  · exact ok_pick ok_13_9 ⟨by decide, by decide, by decide, by decide, h.2.2⟩ (by decide)
  · exact ok_pick ok_13_10 ⟨by decide, by decide, by decide, by decide, h.2.2⟩ (by decide)
  · exact ok_pick ok_13_11 ⟨by decide, by decide, by decide, by decide, h.2.2⟩ (by decide)
  · exact ok_pick ok_13_12 ⟨by decide, by decide, by decide, by decide, h.2.2⟩ (by decide)
theorem ring_17 {s w : Int} (h : 1 ≤ s ∧ s < 17 ∧ 2 ≤ w ∧ w < 17) : LawOk 17 s w := by
  have hs : s = 1 ∨ s = 2 ∨ s = 3 ∨ s = 4 ∨ s = 5 ∨ s = 6 ∨ s = 7 ∨ s = 8 ∨ s = 9 ∨ s = 10 ∨ s = 11 ∨ s = 12 ∨ s = 13 ∨ s = 14 ∨ s = 15 ∨ s = 16 := by omega
  rcases hs with rfl | rfl | rfl | rfl | rfl | rfl | rfl | rfl | rfl | rfl | rfl | rfl | rfl | rfl | rfl | rfl
  · exact ok_pick ok_17_1 ⟨by decide, by decide, by decide, by decide, h.2.2⟩ (by decide)
  · exact ok_pick ok_17_2 ⟨by decide, by decide, by decide, by decide, h.2.2⟩ (by decide)
  · exact ok_pick ok_17_3 ⟨by decide, by decide, by decide, by decide, h.2.2⟩ (by decide)
  · exact ok_pick ok_17_4 ⟨by decide, by decide, by decide, by decide, h.2.2⟩ (by decide)
  · exact ok_pick ok_17_5 ⟨by decide, by decide, by decide, by decide, h.2.2⟩ (by decide)
  · exact ok_pick ok_17_6 ⟨by decide, by decide, by decide, by decide, h.2.2⟩ (by decide)
  · exact ok_pick ok_17_7 ⟨by decide, by decide, by decide, by decide, h.2.2⟩ (by decide)
  · exact ok_pick ok_17_8 ⟨by decide, by decide, by decide, by decide, h.2.2⟩ (by decide)
  · exact ok_pick ok_17_9 ⟨by decide, by decide, by decide, by decide, h.2.2⟩ (by decide)
  · exact ok_pick ok_17_10 ⟨by decide, by decide, by decide, by decide, h.2.2⟩ (by decide)
  · exact ok_pick ok_17_11 ⟨by decide, by decide, by decide, by decide, h.2.2⟩ (by decide)
  · exact ok_pick ok_17_12 ⟨by decide, by decide, by decide, by decide, h.2.2⟩ (by decide)
  · exact ok_pick ok_17_13 ⟨by decide, by decide, by decide, by decide, h.2.2⟩ (by decide)
  · exact ok_pick ok_17_14 ⟨by decide, by decide, by decide, by decide, h.2.2⟩ (by decide)
  · exact ok_pick ok_17_15 ⟨by decide, by decide, by decide, by decide, h.2.2⟩ (by decide)
  · exact ok_pick ok_17_16 ⟨by decide, by decide, by decide, by decide, h.2.2⟩ (by decide)
theorem ring_19 {s w : Int} (h : 1 ≤ s ∧ s < 19 ∧ 2 ≤ w ∧ w < 19) : LawOk 19 s w := by
  have hs : s = 1 ∨ s = 2 ∨ s = 3 ∨ s = 4 ∨ s = 5 ∨ s = 6 ∨ s = 7 ∨ s = 8 ∨ s = 9 ∨ s = 10 ∨ s = 11 ∨ s = 12 ∨ s = 13 ∨ s = 14 ∨ s = 15 ∨ s = 16 ∨ s = 17 ∨ s = 18 := by omega
  rcases hs with rfl | rfl | rfl | rfl | rfl | rfl | rfl | rfl | rfl | rfl | rfl | rfl | rfl | rfl | rfl | rfl | rfl | rfl
  · exact ok_pick ok_19_1 ⟨by decide, by decide, by decide, by decide, h.2.2⟩ (by decide)
  · exact ok_pick ok_19_2 ⟨by decide, by decide, by decide, by decide, h.2.2⟩ (by decide)
  · exact ok_pick ok_19_3 ⟨by decide, by decide, by decide, by decide, h.2.2⟩ (by decide)
  · exact ok_pick ok_19_4 ⟨by decide, by decide, by decide, by decide, h.2.2⟩ (by decide)
  · exact ok_pick ok_19_5 ⟨by decide, by decide, by decide, by decide, h.2.2⟩ (by decide)
  · exact ok_pick ok_19_6 ⟨by decide, by decide, by decide, by decide, h.2.2⟩ (by decide)
  · exact ok_pick ok_19_7 ⟨by decide, by decide, by decide, by decide, h.2.2⟩ (by decide)
  · exact ok_pick ok_19_8 ⟨by decide, by decide, by decide, by decide, h.2.2⟩ (by decide)
  · exact ok_pick ok_19_9 ⟨by decide, by decide, by decide, by decide, h.2.2⟩ (by decide)
  · exact ok_pick ok_19_10 ⟨by decide, by decide, by decide, by decide, h.2.2⟩ (by decide)
  · exact ok_pick ok_19_11 ⟨by decide, by decide, by decide, by decide, h.2.2⟩ (by decide)
  · exact ok_pick ok_19_12 ⟨by decide, by decide, by decide, by decide, h.2.2⟩ (by decide)
  · exact ok_pick ok_19_13 ⟨by decide, by decide, by decide, by decide, h.2.2⟩ (by decide)
  · exact ok_pick ok_19_14 ⟨by decide, by decide, by decide, by decide, h.2.2⟩ (by decide)
  · exact ok_pick ok_19_15 ⟨by decide, by decide, by decide, by decide, h.2.2⟩ (by decide)
  · exact ok_pick ok_19_16 ⟨by decide, by decide, by decide, by decide, h.2.2⟩ (by decide)
  · exact ok_pick ok_19_17 ⟨by decide, by decide, by decide, by decide, h.2.2⟩ (by decide)
  · exact ok_pick ok_19_18 ⟨by decide, by decide, by decide, by decide, h.2.2⟩ (by decide)
theorem ring_cases (q : Int) (h0 : 0 ≤ q) (h6 : q < 6) : ([5, 7, 11, 13, 17, 19] : List Int).getD q.toNat 0 = 5 ∨ ([5, 7, 11, 13, 17, 19] : List Int).getD q.toNat 0 = 7 ∨ ([5, 7, 11, 13, 17, 19] : List Int).getD q.toNat 0 = 11 ∨ ([5, 7, 11, 13, 17, 19] : List Int).getD q.toNat 0 = 13 ∨ ([5, 7, 11, 13, 17, 19] : List Int).getD q.toNat 0 = 17 ∨ ([5, 7, 11, 13, 17, 19] : List Int).getD q.toNat 0 = 19 := by
  have : q = 0 ∨ q = 1 ∨ q = 2 ∨ q = 3 ∨ q = 4 ∨ q = 5 := by omega
  rcases this with rfl | rfl | rfl | rfl | rfl | rfl <;> decide
theorem fmod_rng (a : Int) {b : Int} (hb : 0 < b) : 0 ≤ Int.fmod a b ∧ Int.fmod a b < b := by
  have e : Int.fmod a b = a % b := Int.fmod_eq_emod_of_nonneg _ (by omega)
  rw [e]
  exact ⟨Int.emod_nonneg a (by omega), Int.emod_lt_of_pos a hb⟩
theorem lawOk_all (ns : List Int) : LawOk (ringOf ns) (stepOf ns) (wideOf ns) := by
  have hq := fmod_rng (dr ns 0) (b := 6) (by decide)
  have hr : ringOf ns = 5 ∨ ringOf ns = 7 ∨ ringOf ns = 11 ∨ ringOf ns = 13 ∨ ringOf ns = 17 ∨ ringOf ns = 19 := ring_cases _ hq.1 hq.2
  have hr5 : 5 ≤ ringOf ns := by omega
  have hs := fmod_rng (dr ns 1) (b := ringOf ns - 1) (by omega)
  have hw := fmod_rng (dr ns 2) (b := ringOf ns - 2) (by omega)
  have h : 1 ≤ stepOf ns ∧ stepOf ns < ringOf ns ∧ 2 ≤ wideOf ns ∧ wideOf ns < ringOf ns := by
    unfold stepOf wideOf
    omega
  generalize ringOf ns = r at hr h ⊢
  rcases hr with rfl | rfl | rfl | rfl | rfl | rfl
  · exact ring_5 h
  · exact ring_7 h
  · exact ring_11 h
  · exact ring_13 h
  · exact ring_17 h
  · exact ring_19 h
end
section
variable {prog : Program} {w : World} {p : Program} {loose : List Str} {mean : ExcName → Option Value} {mg mb : Str → Option Value} 
  {dp un : Nat} {gd : Option (List Code)} {cn : Str} {cs : Scope} {L a : Addr} {ccd : Value} {cl : List (Str × Addr)} {outer : List Env} {A₀ : Around} {base h₀ : Heap} {m : Str → Option Value} {s : Shared} {Q E : Value → Shared → Prop} {news : List (Addr × Obj)}
theorem want_ok : ∀ i : Nat, i < 20 → Txt.contains (wantS ((i : Nat) + 1)) dots = true ∧ Txt.split (wantS ((i : Nat) + 1)) dots = [Str.empty, midS ((i : Nat) + 1), Str.empty] ∧ (wantS ((i : Nat) + 1)).length ≤ 200 ∧ (midS ((i : Nat) + 1)).length ≤ 200 := want_ok'
theorem lawOk_drawn (ns : List Int) : LawOk (ringOf ns) (stepOf ns) (wideOf ns) := lawOk_all ns
theorem drawn_law {l : Addr} {vs : List Value} {ns : List Int}
  (B : Below A₀ base outer h₀) (F : Fr h₀ L s.heap m) (X : (Mine.hd.heap_39 w.params).In h₀) (N : News h₀ L s.heap news) (T : Top p loose mean mg mb h₀) (hk : cs.kind = .function)
  (hd : dp + 3 < recursionLimit) (hu : un + 30 < cLine)
  (hi : IntsAre vs ns) (hlen : ns.length ≤ 1048576) (hkp : ∀ g, Fr h₀ L g m → Kept g news → g.IsList l vs.toArray)
  (hret : ∀ (r s' wd : Int) (Tu : Addr) (t1 t2 t3 : Tok) (h' : Heap) (tk' : Nat), LawOk r s' wd → Fr h₀ L h' m → News h₀ L h' ((Tu, { cls := .type "tuple", data := .seq #[.int r t1, .int s' t2, .int wd t3] }) :: news) → LCg.Off1 Tu news → Q (.ref Tu) { s with heap := h', toks := tk' }) :
  wpAny (model prog w) (ktrTop dp un gd cn cs L a ccd cl outer) (call (.ref 144) [.ref l]) Q E s :=
  drawn_spec B F X N T hk hd hu hi hlen hkp (fun Tu t1 t2 t3 h' tk' F' N' o' => hret _ _ _ Tu t1 t2 t3 h' tk' (lawOk_drawn ns) F' N' o')
theorem few_law
  (B : Below A₀ base outer h₀) (F : Fr h₀ L s.heap m) (X : (Mine.hd.heap_39 w.params).In h₀) (N : News h₀ L s.heap news) (T : Top p loose mean mg mb h₀) (hk : cs.kind = .function)
  (hd : dp + 3 < recursionLimit) (hu : un + 30 < cLine)
  {ring step wide : Int} {t1 t2 t3 : Tok}
  (hb : 5 ≤ ring ∧ ring ≤ 19 ∧ 1 ≤ step ∧ step < ring ∧ 2 ≤ wide ∧ wide < ring) (hf : FewOk ring step wide)
  (hret : ∀ (av rv : Int) (a' : Addr) (u1 u2 : Tok) (h' : Heap) (tk' : Nat), Few ring step wide av rv → 1 ≤ av → av ≤ 19 → 1 ≤ rv → rv < wide → Fr h₀ L h' m → News h₀ L h' ((a', { cls := .type "tuple", data := .seq #[.int av u1, .int rv u2] }) :: news) → (∀ p ∈ news, p.1 < a') → Q (.ref a') { s with heap := h', toks := tk' }) :
  wpAny (model prog w) (ktrTop dp un gd cn cs L a ccd cl outer) (call (.ref 156) [.int ring t1, .int step t2, .int wide t3]) Q E s := by
  have h := hf.at'
  unfold inStretch at h
  rw [Bool.and_eq_true, decide_eq_true_eq, decide_eq_true_eq] at h
  exact fewest_spec B F X N T hk hd hu hb _ hf.lo hf.hi hf.least hf.at' (fun a' u1 u2 h' tk' F' N' l1 => hret _ _ a' u1 u2 h' tk' ⟨rfl, rfl⟩ hf.lo hf.hi (by have h1 := h.1; show 1 ≤ Int.fmod (fewK ring step wide * step) ring; omega) h.2 F' N' l1)
theorem lead_law {ring step wide : Int} {t1 t2 t3 : Tok}
  (B : Below A₀ base outer h₀) (F : Fr h₀ L s.heap m) (X : (Mine.hd.heap_39 w.params).In h₀) (N : News h₀ L s.heap news) (T : Top p loose mean mg mb h₀) (hk : cs.kind = .function)
  (hd : dp + 8 < recursionLimit) (hu : un + 60 < cLine) (ok : LawOk ring step wide)
  (hret : ∀ (lead : Str) (u : Tok) (h' : Heap) (tk' : Nat), IsLead ring step wide lead → (lead.length : Int) = ring → Fr h₀ L h' m → News h₀ L h' news → Q (.str lead u) { s with heap := h', toks := tk' }) :
  wpAny (model prog w) (ktrTop dp un gd cn cs L a ccd cl outer) (call (.ref 149) [.int ring t1, .int step t2, .int wide t3]) Q E s :=
  lead_spec B F X N T hk hd hu ok.dom ok.back (fun u h' tk' F' N' => hret _ u h' tk' ⟨rfl⟩ ok.leadLen F' N')
theorem maxI_spec : ∀ (l : List Int) (a : Int), (∀ x ∈ l, x ≤ l.foldl (fun a b => if a < b then b else a) a) ∧ a ≤ l.foldl (fun a b => if a < b then b else a) a ∧ (l.foldl (fun a b => if a < b then b else a) a = a ∨ l.foldl (fun a b => if a < b then b else a) a ∈ l)
  | [], a => ⟨fun _ h => (nomatch h), Int.le_refl _, .inl rfl⟩
  | x :: l, a => by
    have ih := maxI_spec l (if a < x then x else a)
    simp only [List.foldl_cons]
    refine ⟨fun y hy => ?_, ?_, ?_⟩
    · rcases List.mem_cons.mp hy with rfl | hy
      · refine Int.le_trans ?_ ih.2.1
        split <;> omega
      · exact ih.1 y hy
    · refine Int.le_trans ?_ ih.2.1
      split <;> omega
    · rcases ih.2.2 with h | h
      · rw [h]
        split
        · exact .inr List.mem_cons_self
        · exact .inl rfl
      · exact .inr (List.mem_cons_of_mem _ h)
theorem maxI_eq {l : List Int} {M : Int} (h1 : M ∈ l) (h2 : ∀ x ∈ l, x ≤ M) (h0 : ∀ x ∈ l, 0 ≤ x) : M = maxI l := by
  have h := maxI_spec l 0
  unfold maxI
  have a := h.1 M h1
  rcases h.2.2 with e | e
  · rw [e] at a ⊢
    have := h0 M h1
    omega
  · have := h2 _ e
    omega
theorem spans_of {r s w a b u v : Int} {ws : List Value} (ok : LawOk r s w) (few1 : Few r s w a u) (few2 : Few r (r - s) w b v) (h : IntsAre ws ((List.replicate (w - u).toNat [a]).flatten ++ (List.replicate (u + v - w).toNat [a + b]).flatten ++ (List.replicate (w - v).toNat [b]).flatten)) :
    ∃ sp mx, IsSpans r s w sp mx ∧ IntsAre ws sp ∧ (sp.length : Int) = w ∧ 2 ≤ mx ∧ mx ≤ 19 := by
  refine ⟨_, _, ⟨rfl, rfl⟩, ?_, ok.spLen, ok.spMax, ?_⟩
  · rw [few1.av, few1.rv, few2.av, few2.rv] at h
    exact h
  · rcases (maxI_spec (spansOf r s w) 0).2.2 with e | e
    · unfold maxI; rw [e]; decide
    · exact (ok.spBd _ e).2
theorem max_law {A : Around} {r s' wd mx : Int} {sp : List Int} {vs : List Value} {l : Addr} (ok : LawOk r s' wd) (hS : IsSpans r s' wd sp mx) (F : Fr h₀ L s.heap m) (N : News h₀ L s.heap news) (hl : s.heap.IsList l vs.toArray) (hi : IntsAre vs sp) (hh : A.handled = none)
    (h : ∀ h' (t : Tok) tk, Fr h₀ L h' m → News h₀ L h' news → Q (.int mx t) { s with heap := h', toks := tk }) : wpAny (model prog w) A (call (.builtin "max") [.ref l]) Q E s := by
  obtain ⟨e1, e2⟩ := hS
  subst e1 e2
  have h1 := ok.spLen
  have h2 := ok.dom
  refine kso_max F N hl hi (by omega) hh ?_
  intro h' M t tk F' N' a' b'
  rw [maxI_eq a' b' (fun x hx => by have := (ok.spBd x hx).1; omega)]
  exact h h' t tk F' N'
theorem white_law {r s' wd mx : Int} {sp : List Int} {x lead : Str} {t1 : Tok}
  (B : Below A₀ base outer h₀) (F : Fr h₀ L s.heap m) (X : (Mine.hd.heap_39 w.params).In h₀) (N : News h₀ L s.heap news) (T : Top p loose mean mg mb h₀) (hk : cs.kind = .function)
  (hd : dp + 6 < recursionLimit) (hu : un + 50 < cLine) (ok : LawOk r s' wd) (hS : IsSpans r s' wd sp mx) (hx : IsLead r s' wd lead) (hxe : x = lead ++ Str.ofString "x \t")
  (hret : ∀ (xi dx cu tu : Addr) (vs : List Value) (sz : Nat) (k1 k2 k3 k4 k5 kn knt kb : Tok) (h' : Heap) (tk' : Nat), IntsAre vs (countsOf sp mx) → 2 ≤ sz → (∀ p ∈ news, p.1 < dx) → dx < xi → @LT.lt Nat _ xi tu → @LT.lt Nat _ xi cu → Fr h₀ L h' m →
    News h₀ L h' (wsLed w.params xi dx cu tu x t1 vs r wd 0 sz k1 k2 k3 k4 k5 kn knt kb ++ news) → Q (.ref xi) { s with heap := h', toks := tk' }) :
  wpAny (model prog w) (ktrTop dp un gd cn cs L a ccd cl outer) (call (.ref 133) [.str x t1]) Q E s := by
  subst hxe
  obtain ⟨e1, e2⟩ := hS
  subst e1 e2
  have hl := ok.leadLen
  have hd1 := ok.dom
  have hc := hx.eq
  subst hc
  have h3 : (Str.ofString "x \t").length = 3 := by decide
  have hlx : ((leadS r s' wd) ++ Str.ofString "x \t").length ≤ 100 := by
    rw [Str.length_append, h3]; omega
  refine ws_spec B F X N T hk hd hu hlx ok.leadAs ok.leadCd ok.leadBl ?_
  intro xi dx cu tu vs n nt b ns k1 k2 k3 k4 k5 kn knt kb h' tk' hr hi l1 l2 o1 o2 F' N'
  rw [ok.run] at hr
  cases hr
  refine hret xi dx cu tu vs (countsOf (spansOf r s' wd) (maxI (spansOf r s' wd))).length k1 k2 k3 k4 k5 kn knt kb h' tk' hi ?_ l1 l2 o1 o2 F' N'
  have := ok.spMax
  simp only [countsOf, List.length_map, rangeKs_length]
  omega
theorem cf_end {I C D : Addr} {oI oC oD : Obj} {S : List (Addr × Obj) → Prop} {s₁ : Shared} {h' : Heap} {tk : Nat} {r x : Int} {t : Tok} (F : Fr h₀ L h' m) (N : News h₀ L h' ((I, oI) :: (C, oC) :: (D, oD) :: news)) (off : LCg.Off3 I C D news) (hS : S news) (e : x = r) :
    LCg.CompEnd h₀ L m s₁ I oI C oC D oD S (fun y news' => KCfEl news r y news') (.int x t) { s₁ with heap := h', toks := tk } := ⟨h', tk, news, rfl, F, N, off, hS, rfl, t, by rw [e]⟩
theorem ap_nil {pp : Params} {x : Str} {t1 : Tok} {xi dx cu tu : Addr} {vs : List Value} {n nt b : Int} {sz : Nat} {k1 k2 k3 k4 k5 kn knt kb : Tok} : Apart (wsLed pp xi dx cu tu x t1 vs n nt b sz k1 k2 k3 k4 k5 kn knt kb) [] := fun _ h => nomatch h
theorem ap_cons {pp : Params} {x : Str} {t1 : Tok} {xi dx cu tu a : Addr} {o : Obj} {vs : List Value} {n nt b : Int} {sz : Nat} {k1 k2 k3 k4 k5 kn knt kb : Tok} {rest : List (Addr × Obj)} (h1 : a ≠ tu) (h2 : a ≠ cu) (h3 : a ≠ xi) (h4 : a ≠ dx)
    (hr : Apart (wsLed pp xi dx cu tu x t1 vs n nt b sz k1 k2 k3 k4 k5 kn knt kb) rest) : Apart (wsLed pp xi dx cu tu x t1 vs n nt b sz k1 k2 k3 k4 k5 kn knt kb) ((a, o) :: rest) := by
  intro p hp
  rcases List.mem_cons.mp hp with rfl | hp
  · intro hm
    simp only [wsLed, List.map_cons, List.map_nil, List.mem_cons, List.not_mem_nil, or_false] at hm
    rcases hm with e | e | e | e
    · exact h1 e
    · exact h2 e
    · exact h3 e
    · exact h4 e
  · exact hr p hp
abbrev tupO (us : Array Value) : Obj := { cls := .type "tuple", data := .seq us }
abbrev wsDict (pp : Params) (tu : Addr) (x : Str) (t1 : Tok) (n nt : Int) (sz : Nat) (k1 k2 k3 k4 k5 kn knt : Tok) : Obj :=
  dictOf [{ hash := PyData.keyHash pp (Str.ofString "raw"), key := .str (Str.ofString "raw") k1, val := .str x t1 }, { hash := PyData.keyHash pp (Str.ofString "n"), key := .str (Str.ofString "n") k2, val := .int n kn },
        { hash := PyData.keyHash pp (Str.ofString "nt"), key := .str (Str.ofString "nt") k3, val := .int nt knt }, { hash := PyData.keyHash pp (Str.ofString "norm"), key := .str (Str.ofString "norm") k4, val := .ref tu },
        { hash := PyData.keyHash pp (Str.ofString "is_simple"), key := .str (Str.ofString "is_simple") k5, val := .bool (decide ((sz : Int) ≤ 1)) }] 5
theorem ap_of {pp : Params} {x : Str} {t1 : Tok} {xi dx cu tu : Addr} {vs : List Value} {n nt b : Int} {sz : Nat} {k1 k2 k3 k4 k5 kn knt kb : Tok} : ∀ {rest : List (Addr × Obj)}, LCg.Off1 tu rest → LCg.Off1 cu rest → LCg.Off1 xi rest → LCg.Off1 dx rest → Apart (wsLed pp xi dx cu tu x t1 vs n nt b sz k1 k2 k3 k4 k5 kn knt kb) rest
  | [], _, _, _, _ => ap_nil
  | (_, _) :: _, h1, h2, h3, h4 => ap_cons h1.1 h2.1 h3.1 h4.1 (ap_of h1.2 h2.2 h3.2 h4.2)
theorem lr_law {mx : Int} {sp : List Int} {x : Str} {t1 : Tok} {xi dx cu tu : Addr} {vs : List Value} {n nt : Int} {sz : Nat} {k1 k2 k3 k4 k5 kn knt kb : Tok} {rest : List (Addr × Obj)} {dO : Obj}
  (B : Below A₀ base outer h₀) (F : Fr h₀ L s.heap m) (X : (Mine.hd.heap_39 w.params).In h₀) (N : News h₀ L s.heap ((tu, tupO #[.ref cu, .int 0 kb]) :: (cu, tupO vs.toArray) :: (xi, instObj 133 dx) :: (dx, dO) :: rest)) (hdO : dO = wsDict w.params tu x t1 n nt sz k1 k2 k3 k4 k5 kn knt)
  (hAp : LCg.Off1 tu rest ∧ LCg.Off1 cu rest ∧ LCg.Off1 xi rest ∧ LCg.Off1 dx rest) (T : Top p loose mean mg mb h₀) (hk : cs.kind = .function)
  (hd : dp + 6 < recursionLimit) (hu : un + 50 < cLine) (hi : IntsAre vs (countsOf sp mx)) (hM1 : 2 ≤ mx) (hM2 : mx ≤ 19)
  (hret : ∀ (h' : Heap) (tk' tk2 : Nat), Fr h₀ L h' m → News h₀ L h' ((tu, tupO #[.ref cu, .int 0 kb]) :: (cu, tupO vs.toArray) :: (xi, instObj 133 dx) :: (dx, dO) :: rest) → Q (.int (mx - 1) tk2) { s with heap := h', toks := tk' }) :
  wpAny (model prog w) (ktrTop dp un gd cn cs L a ccd cl outer) (call (.ref 95) [.ref xi]) Q E s := by
  subst hdO
  have e : (countsOf sp mx).length = (mx + 1 - 1).toNat := by simp only [countsOf, List.length_map, rangeKs_length]
  have N' : News h₀ L s.heap (wsLed w.params xi dx cu tu x t1 vs n nt 0 sz k1 k2 k3 k4 k5 kn knt kb ++ rest) := N
  refine lr_spec B F X (fun p hp => N' p (List.mem_append_left _ hp)) (fun p hp => N' p (List.mem_append_right _ hp)) (ap_of hAp.1 hAp.2.1 hAp.2.2.1 hAp.2.2.2) T hk hd hu hi (by omega) ?_
  intro h' tk' tk2 F' N1 N2
  have e2 : (if (0 : Int) > ((countsOf sp mx).length : Int) - 1 then (0 : Int) else ((countsOf sp mx).length : Int) - 1) = mx - 1 := by
    split <;> omega
  rw [e2]
  refine hret h' tk' tk2 F' ?_
  have N3 : News h₀ L h' (wsLed w.params xi dx cu tu x t1 vs n nt 0 sz k1 k2 k3 k4 k5 kn knt kb ++ rest) := fun p hp => (List.mem_append.mp hp).elim (fun h => N2 p h) (fun h => N1 p h)
  exact N3
theorem in5 {k : Int} (h1 : 1 ≤ k) (h2 : k ≤ 5) : k ∈ ([1, 2, 3, 4, 5] : List Int) := by
  have : k = 1 ∨ k = 2 ∨ k = 3 ∨ k = 4 ∨ k = 5 := by omega
  rcases this with rfl | rfl | rfl | rfl | rfl <;> decide
theorem il_law {r s' wd mx k : Int} {sp : List Int} {x : Str} {t1 tz : Tok} {xi dx cu tu : Addr} {vs : List Value} {n : Int} {sz : Nat} {k1 k2 k3 k4 k5 kn knt kb : Tok} {p1 p2 : Addr × Obj} {rest : List (Addr × Obj)} {dO : Obj}
  (B : Below A₀ base outer h₀) (F : Fr h₀ L s.heap m) (X : (Mine.hd.heap_39 w.params).In h₀) (N : News h₀ L s.heap (p1 :: p2 :: (tu, tupO #[.ref cu, .int 0 kb]) :: (cu, tupO vs.toArray) :: (xi, instObj 133 dx) :: (dx, dO) :: rest)) (hdO : dO = wsDict w.params tu x t1 n wd sz k1 k2 k3 k4 k5 kn knt)
  (hAp : LCg.Off1 tu (p1 :: p2 :: rest) ∧ LCg.Off1 cu (p1 :: p2 :: rest) ∧ LCg.Off1 xi (p1 :: p2 :: rest) ∧ LCg.Off1 dx (p1 :: p2 :: rest)) (T : Top p loose mean mg mb h₀) (hk : cs.kind = .function)
  (hd : dp + 6 < recursionLimit) (hu : un + 50 < cLine) (hi : IntsAre vs (countsOf sp mx)) (hM1 : 2 ≤ mx) (hM2 : mx ≤ 19) (ok : LawOk r s' wd) (hS : IsSpans r s' wd sp mx) (hk1 : 1 ≤ k) (hk2 : k ≤ 5)
  (hret : ∀ (h' : Heap) (tk' tk2 : Nat), Fr h₀ L h' m → News h₀ L h' (p1 :: p2 :: (tu, tupO #[.ref cu, .int 0 kb]) :: (cu, tupO vs.toArray) :: (xi, instObj 133 dx) :: (dx, dO) :: rest) → Q (.int (k * lvlSum k sp) tk2) { s with heap := h', toks := tk' }) :
  wpAny (model prog w) (ktrTop dp un gd cn cs L a ccd cl outer) (call (.ref 102) [.ref xi, .int k tz]) Q E s := by
  subst hdO
  have e : (countsOf sp mx).length = (mx + 1 - 1).toNat := by simp only [countsOf, List.length_map, rangeKs_length]
  have m1 : ∀ {h : Heap}, News h₀ L h (p1 :: p2 :: (tu, tupO #[.ref cu, .int 0 kb]) :: (cu, tupO vs.toArray) :: (xi, instObj 133 dx) :: (dx, wsDict w.params tu x t1 n wd sz k1 k2 k3 k4 k5 kn knt) :: rest) → News h₀ L h (wsLed w.params xi dx cu tu x t1 vs n wd 0 sz k1 k2 k3 k4 k5 kn knt kb ++ (p1 :: p2 :: rest)) := fun N => news_mono N fun p hp => by
    simp only [wsLed, List.cons_append, List.nil_append, List.mem_cons] at hp
    simp only [List.mem_cons]
    rcases hp with h | h | h | h | h | h | h
    · exact .inr (.inr (.inl h))
    · exact .inr (.inr (.inr (.inl h)))
    · exact .inr (.inr (.inr (.inr (.inl h))))
    · exact .inr (.inr (.inr (.inr (.inr (.inl h)))))
    · exact .inl h
    · exact .inr (.inl h)
    · exact .inr (.inr (.inr (.inr (.inr (.inr h)))))
  have m2 : ∀ {h : Heap}, News h₀ L h (wsLed w.params xi dx cu tu x t1 vs n wd 0 sz k1 k2 k3 k4 k5 kn knt kb ++ (p1 :: p2 :: rest)) → News h₀ L h (p1 :: p2 :: (tu, tupO #[.ref cu, .int 0 kb]) :: (cu, tupO vs.toArray) :: (xi, instObj 133 dx) :: (dx, wsDict w.params tu x t1 n wd sz k1 k2 k3 k4 k5 kn knt) :: rest) := fun N => news_mono N fun p hp => by
    simp only [wsLed, List.cons_append, List.nil_append, List.mem_cons]
    simp only [List.mem_cons] at hp
    rcases hp with h | h | h | h | h | h | h
    · exact .inr (.inr (.inr (.inr (.inl h))))
    · exact .inr (.inr (.inr (.inr (.inr (.inl h)))))
    · exact .inl h
    · exact .inr (.inl h)
    · exact .inr (.inr (.inl h))
    · exact .inr (.inr (.inr (.inl h)))
    · exact .inr (.inr (.inr (.inr (.inr (.inr h)))))
  have N' := m1 N
  refine il_spec B F X (fun p hp => N' p (List.mem_append_left _ hp)) (fun p hp => N' p (List.mem_append_right _ hp)) (ap_of hAp.1 hAp.2.1 hAp.2.2.1 hAp.2.2.2) T hk hd hu hi (by omega) ⟨hk1, hk2⟩ ?_
  intro h' tk' tk2 F' N1 N2
  have hl := ok.lvl k (in5 hk1 hk2)
  rw [← hS.eq, ← hS.mxe] at hl
  have e3 : (((countsOf sp mx).length : Int) - k) = mx - k := by omega
  rw [e3, hl]
  exact hret h' tk' tk2 F' (m2 fun p hp => (List.mem_append.mp hp).elim (fun h => N2 p h) (fun h => N1 p h))
theorem lvlSum_bd {r s' wd mx k : Int} {sp : List Int} (ok : LawOk r s' wd) (hS : IsSpans r s' wd sp mx) (hk1 : 1 ≤ k) : 0 ≤ lvlSum k sp ∧ lvlSum k sp ≤ 19 * (sp.length : Int) := by
  have key : ∀ l : List Int, (∀ x ∈ l, 1 ≤ x ∧ x ≤ 19) → 0 ≤ (l.map (lvlF k)).sum ∧ (l.map (lvlF k)).sum ≤ 19 * (l.length : Int) := by
    intro l
    induction l with
    | nil => intro _; simp
    | cons x l ih =>
      intro h
      have h1 := ih fun y hy => h y (.tail _ hy)
      have h2 := h x (.head _)
      have h3 := fdiv_small (a := x - 1) (b := k) (by omega) hk1
      simp only [List.map_cons, List.sum_cons, List.length_cons]
      have e : lvlF k x = Int.fdiv (x - 1) k + 1 := rfl
      rw [e]
      push_cast
      omega
  exact key sp (by rw [hS.eq]; exact ok.spBd)
theorem span_bd {r s' wd mx x : Int} {sp : List Int} (ok : LawOk r s' wd) (hS : IsSpans r s' wd sp mx) (hx : x ∈ sp) : 1 ≤ x ∧ x ≤ 19 := by
  rw [hS.eq] at hx
  exact ok.spBd x hx
theorem led_six {h : Heap} {a b c d e f : Addr × Obj} {r : List (Addr × Obj)} (N : News h₀ L h (a :: b :: c :: d :: e :: f :: r)) : News h₀ L h (f :: a :: b :: c :: d :: e :: r) := news_mono N fun p hp => by
  simp only [List.mem_cons] at hp ⊢
  rcases hp with h | h | h | h | h | h | h
  · exact .inr (.inr (.inr (.inr (.inr (.inl h)))))
  · exact .inl h
  · exact .inr (.inl h)
  · exact .inr (.inr (.inl h))
  · exact .inr (.inr (.inr (.inl h)))
  · exact .inr (.inr (.inr (.inr (.inl h))))
  · exact .inr (.inr (.inr (.inr (.inr (.inr h)))))
theorem ne_self {A : Around} {a : Int} {t u : Tok} (h : Q (.bool false) s) : wpAny (model prog w) A (compareOp .NotEq (.int a t) (.int a u)) Q E s := by
  refine PyProof.Rows.ne_int ?_
  have e : (a != a) = false := by simp
  rw [e]; exact h
theorem ne_bself {A : Around} {a : Bool} (h : Q (.bool false) s) : wpAny (model prog w) A (compareOp .NotEq (.bool a) (.bool a)) Q E s := by
  refine PyProof.Rows.ne_bool ?_
  have e : (a != a) = false := by simp
  rw [e]; exact h
theorem oct_yes {r s x t} (h : (Txt.item x (t - 1) == Str.ofString " ") = true) : Int.fmod (t * s) r + 64 = octF r s x t := by unfold octF; rw [if_pos h]
theorem oct_no {r s x t} (h : (Txt.item x (t - 1) == Str.ofString " ") = false) : Int.fmod (t * s) r + 0 = octF r s x t := by unfold octF; rw [if_neg (by rw [h]; exact Bool.false_ne_true)]
theorem off1_mem {D : Addr} : ∀ {l : List (Addr × Obj)}, LCg.Off1 D l → ∀ p ∈ l, p.1 ≠ D
  | [], _, _, h => nomatch h
  | _ :: _, x, p, h => by
    rcases List.mem_cons.mp h with rfl | h
    · exact x.1
    · exact off1_mem x.2 p h
theorem read_law {r s' wd : Int} {lead : Str} {l : Addr} {vs : List Value} {p1 p2 p3 p4 p5 : Addr × Obj} {rest : List (Addr × Obj)}
  (B : Below A₀ base [] h₀) (XB : (Mine.hd.heap_39 w.params).In base) (TB : Top p loose mean mg mb base) (F : Fr h₀ L s.heap m) (X : (Mine.hd.heap_39 w.params).In h₀) (N : News h₀ L s.heap ((l, LCg.lst vs) :: p1 :: p2 :: p3 :: p4 :: p5 :: rest)) (T : Top p loose mean mg mb h₀) (hk : cs.kind = .function)
  (hd : dp + 8 < recursionLimit) (hu : un + 60 < cLine) (ok : LawOk r s' wd) (hL : IsLead r s' wd lead)
  (hi : IntsAre vs ((rangeKs 1 ((lead.length : Int) + 1 - 1).toNat).map (octF r s' lead)))
  (hT1 : (177, tabObj #[]) ∈ rest) (hT2 : (172, tabObj #[]) ∈ rest)
  (hret : ∀ (wy : List Int) (a' : Addr) (us : List Value) (c : Nat) (h' : Heap) (tk' : Nat), IsWays r s' wd wy → wy.length ≤ 64 → IntsAre us wy → a' ≠ 177 → a' ≠ 172 → Fr h₀ L h' m → News h₀ L h' ((a', listOf us.toArray c) :: p1 :: rest) → Q (.ref a') { s with heap := h', toks := tk' }) :
  wpAny (model prog w) (ktrTop dp un gd cn cs L a ccd cl []) (call (.ref 170) [.ref l]) Q E s := by
  have hl := ok.leadLen
  have hd1 := ok.dom
  have hc := hL.eq
  subst hc
  refine read_spec B XB TB F X N T hk hd hu (c := vs.length) List.mem_cons_self hi (by rw [List.length_map, rangeKs_length]; omega) ok.read ?_
  intro a' us c h' tk' hi' F' N' off
  have m (p : Addr × Obj) (hp : p ∈ rest) : p ∈ ((l, LCg.lst vs) :: p1 :: p2 :: p3 :: p4 :: p5 :: rest) := List.mem_append_right [(l, LCg.lst vs), p1, p2, p3, p4, p5] hp
  refine hret _ a' us c h' tk' ⟨rfl⟩ ok.waysLen hi' (fun e => off1_mem off _ (m _ hT1) e.symm) (fun e => off1_mem off _ (m _ hT2) e.symm) F' (news_mono N' fun p hp => ?_)
  rcases List.mem_cons.mp hp with rfl | hp
  · exact List.mem_cons_self
  · rcases List.mem_cons.mp hp with rfl | hp
    · exact .tail _ (.tail _ (.head _))
    · exact .tail _ (m _ hp)
theorem ways_law {r s' wd : Int} {wy : List Int} {t1 t2 t3 : Tok}
  (B : Below A₀ base outer h₀) (F : Fr h₀ L s.heap m) (X : (Mine.hd.heap_39 w.params).In h₀) (N : News h₀ L s.heap news) (T : Top p loose mean mg mb h₀) (hk : cs.kind = .function)
  (hd : dp + 8 < recursionLimit) (hu : un + 60 < cLine) (ok : LawOk r s' wd) (hW : IsWays r s' wd wy)
  (hret : ∀ (a' : Addr) (vs : List Value) (c : Nat) (h' : Heap) (tk' : Nat), IntsAre vs wy → Fr h₀ L h' m → News h₀ L h' ((a', listOf vs.toArray c) :: news) → Q (.ref a') { s with heap := h', toks := tk' }) :
  wpAny (model prog w) (ktrTop dp un gd cn cs L a ccd cl outer) (call (.ref 163) [.int r t1, .int s' t2, .int wd t3]) Q E s :=
  ways_spec B F X N T hk hd hu ok.dom (fun a' vs c h' tk' hi F' N' _ => hret a' vs c h' tk' (by rw [hW.eq]; exact hi) F' N')
/-- two made lists of the same ints, the newer dropped behind the comparison -/
theorem ints_ne {A : Around} {l1 l2 : Addr} {vs us : List Value} {c1 c2 : Nat} {ns : List Int} {news' : List (Addr × Obj)} (N : News h₀ L s.heap ((l2, listOf us.toArray c2) :: news')) (hm : (l1, listOf vs.toArray c1) ∈ news') (hi : IntsAre vs ns) (hj : IntsAre us ns) (hu : A.units + 64 < cLine)
    (h : News h₀ L s.heap news' → Q (.bool false) s) : wpAny (model prog w) A (compareOp .NotEq (.ref l1) (.ref l2)) Q E s := by
  refine ke_ne_ints (isList_of (N _ (.tail _ hm)).1) (isList_of (N _ (.head _)).1) hi hj hu ?_
  rw [decide_eq_true rfl]
  exact h (news_tl N)
theorem apart_172 : ∀ {rest : List (Addr × Obj)}, LCg.Off1 172 rest → Apart [(172, tabObj #[])] rest
  | [], _ => fun _ h => nomatch h
  | _ :: _, h => fun p hp hm => by
    have e : p.1 = 172 := List.mem_singleton.mp hm
    exact off1_mem h p hp e
theorem table_law {r s' wd a1 b1 u1 v1 : Int} {sp wy : List Int} {mx : Int} {la lb lc : Addr} {vn : List Value} {t1 t2 t3 t4 t5 : Tok} {cN c1 c2 : Nat} {q1 q2 q3 q4 q5 q6 q7 q8 : Addr × Obj}
  (B : Below A₀ base outer h₀) (F : Fr h₀ L s.heap m) (X : (Mine.hd.heap_39 w.params).In h₀)
  (N : News h₀ L s.heap [(lc, listOf #[.int u1 t3, .int (u1 - v1) t4, .int (- v1) t5] c2), (lb, listOf #[.int (wd - u1) t1, .int v1 t2] c1), (la, listOf vn.toArray cN), q1, q2, q3, q4, q5, q6, q7, q8, (172, tabObj #[])])
  (hAp : LCg.Off1 172 [(lc, listOf #[.int u1 t3, .int (u1 - v1) t4, .int (- v1) t5] c2), (lb, listOf #[.int (wd - u1) t1, .int v1 t2] c1), (la, listOf vn.toArray cN), q1, q2, q3, q4, q5, q6, q7, q8]) (T : Top p loose mean mg mb h₀) (hk : cs.kind = .function)
  (hd : dp + 9 < recursionLimit) (hu : un + 90 < cLine) (ok : LawOk r s' wd) (hS : IsSpans r s' wd sp mx) (f1 : Few r s' wd a1 u1) (f2 : Few r (r - s') wd b1 v1) (hW : IsWays r s' wd wy) (hin : IntsAre vn wy)
  (hret : ∀ (Tu tb en : Addr) (es : List TupE) (cn : Nat) (vs : List Value) (c2 : Nat) (ps : Array Value) (h' : Heap) (tk' : Nat), pv es = tabL sp wd → IntsAre vs (wy.map fm64) → Fr h₀ L h' m → News h₀ L h' ((Tu, tupO #[.ref tb, .ref en]) :: (en, listOf vs.toArray c2) :: (tb, listOf (tRefs es).toArray cn) :: (la, listOf vn.toArray cN) :: q1 :: q2 :: q3 :: q4 :: q5 :: q6 :: q7 :: q8 :: (172, tabObj ps) :: tLed es) → Q (.ref Tu) { s with heap := h', toks := tk' }) :
  wpAny (model prog w) (ktrTop dp un gd cn cs L a ccd cl outer) (call (.ref 175) [.ref la, .ref lb, .ref lc]) Q E s := by
  have i1 : IntsAre [Value.int (wd - u1) t1, .int v1 t2] [wd - u1, v1] := .cons _ _ (.cons _ _ .nil)
  have i2 : IntsAre [Value.int u1 t3, .int (u1 - v1) t4, .int (- v1) t5] [u1, u1 - v1, - v1] := .cons _ _ (.cons _ _ (.cons _ _ .nil))
  have e1 := f1.rv
  have e2 := f2.rv
  have e3 := hW.eq
  have e4 := hS.eq
  refine table_spec (vb := [Value.int (wd - u1) t1, .int v1 t2]) (vm := [Value.int u1 t3, .int (u1 - v1) t4, .int (- v1) t5]) B F X (hTo := news_mono N fun p hp => by rw [List.mem_singleton.mp hp]; simp) (N := news_mono N fun p hp => List.mem_append_left [(172, tabObj #[])] hp) (apart_172 hAp) T hk hd hu
    (fun g _ k => kept_list (c := cN) k (.tail _ (.tail _ (.head _)))) hin (by rw [e3]; exact ok.waysLen) (fun g _ k => kept_list (c := c1) k (.tail _ (.head _))) i1 (by simp only [List.length_cons, List.length_nil]; omega) (fun g _ k => kept_list (c := c2) k (.head _)) i2 (by simp only [List.length_cons, List.length_nil]; omega) (by simp only [List.length_cons, List.length_nil]; omega) ?_
  intro Tu tb en es cn vs c2' ps h' tk' hp hv F' N'
  have h1 := ok.tab
  have h2 := ok.ends
  rw [← e1, ← e2, ← e3] at h1 h2
  rw [← e4] at h1
  rw [h1] at hp
  rw [h2] at hv
  refine hret Tu tb en es cn vs c2' ps h' tk' hp hv F' (news_mono N' fun p hp => ?_)
  simp only [List.mem_cons, List.mem_append, List.not_mem_nil, or_false] at hp ⊢
  rcases hp with h | h | h | h | h | h | h | h | h | h | h | h | h | h
  · exact .inl h
  · exact .inr (.inl h)
  · exact .inr (.inr (.inl h))
  · exact .inr (.inr (.inr (.inr (.inr (.inr (.inr (.inl h)))))))
  · exact .inr (.inr (.inr (.inr (.inr (.inr (.inr (.inr (.inl h))))))))
  · exact .inr (.inr (.inr (.inr (.inr (.inr (.inr (.inr (.inr (.inl h)))))))))
  · exact .inr (.inr (.inr (.inr (.inr (.inr (.inr (.inr (.inr (.inr (.inl h))))))))))
  · exact .inr (.inr (.inr (.inr (.inr (.inr (.inr (.inr (.inr (.inr (.inr (.inl h)))))))))))
  · exact .inr (.inr (.inr (.inr (.inr (.inr (.inr (.inr (.inr (.inr (.inr (.inr (.inl h))))))))))))
  · exact .inr (.inr (.inr (.inr (.inr (.inr (.inr (.inr (.inr (.inr (.inr (.inr (.inr (.inl h)))))))))))))
  · exact .inr (.inr (.inr (.inr (.inr (.inr (.inr (.inr (.inr (.inr (.inr (.inr (.inr (.inr (.inl h))))))))))))))
  · exact .inr (.inr (.inr (.inr (.inr (.inr (.inr (.inr (.inr (.inr (.inr (.inr (.inr (.inr (.inr h))))))))))))))
  · exact .inr (.inr (.inr (.inl h)))
  · exact .inr (.inr (.inr (.inr (.inl h))))
theorem off1_z {T z : Nat} {o1 o2 o3 o4 o5 : Obj} {rest : List (Addr × Obj)} (h : z + 6 < T) (hr : LCg.Off1 T rest) : LCg.Off1 T ((z + 1 + 1 + 1 + 1 + 1, o5) :: (z + 1 + 1 + 1 + 1, o4) :: (z + 1 + 1 + 1, o3) :: (z + 1 + 1, o2) :: (z + 1, o1) :: rest) := by
  simp only [LCg.Off1]
  exact ⟨by omega, by omega, by omega, by omega, by omega, hr⟩
theorem off1_lt {a T : Nat} {o : Obj} {rest : List (Addr × Obj)} (h : a < T) (hr : LCg.Off1 T rest) : LCg.Off1 T ((a, o) :: rest) := ⟨Nat.ne_of_lt h, hr⟩
theorem off1_gt {a T : Nat} {o : Obj} {rest : List (Addr × Obj)} (h : T < a) (hr : LCg.Off1 T rest) : LCg.Off1 T ((a, o) :: rest) := ⟨Nat.ne_of_gt h, hr⟩
theorem off1_tabs {z T : Nat} {o p : Obj} (h1 : 177 < z) (h2 : 172 < z) (h : z + 6 < T) : LCg.Off1 T [(177, o), (172, p)] := ⟨by show (177 : Nat) ≠ T; omega, by show (172 : Nat) ≠ T; omega, trivial⟩
/-- the addresses of the law's cells and lists lie below the whitespace's four -/
theorem off_ws {z D dx xi tu cu : Nat} {oD o1 o2 o3 o4 o5 o6 p q : Obj} (h1 : 177 < z) (h2 : 172 < z) (h6 : z + 1 + 1 + 1 + 1 + 1 + 1 < D) (hD : D < dx) (l2 : dx < xi) (t1 : xi < tu) (c1 : xi < cu) :
    LCg.Off1 tu [(D, oD), (z + 1 + 1 + 1 + 1 + 1 + 1, o6), (z + 1 + 1 + 1 + 1 + 1, o5), (z + 1 + 1 + 1 + 1, o4), (z + 1 + 1 + 1, o3), (z + 1 + 1, o2), (z + 1, o1), (177, p), (172, q)] ∧
    LCg.Off1 cu [(D, oD), (z + 1 + 1 + 1 + 1 + 1 + 1, o6), (z + 1 + 1 + 1 + 1 + 1, o5), (z + 1 + 1 + 1 + 1, o4), (z + 1 + 1 + 1, o3), (z + 1 + 1, o2), (z + 1, o1), (177, p), (172, q)] ∧
    LCg.Off1 xi [(D, oD), (z + 1 + 1 + 1 + 1 + 1 + 1, o6), (z + 1 + 1 + 1 + 1 + 1, o5), (z + 1 + 1 + 1 + 1, o4), (z + 1 + 1 + 1, o3), (z + 1 + 1, o2), (z + 1, o1), (177, p), (172, q)] ∧
    LCg.Off1 dx [(D, oD), (z + 1 + 1 + 1 + 1 + 1 + 1, o6), (z + 1 + 1 + 1 + 1 + 1, o5), (z + 1 + 1 + 1 + 1, o4), (z + 1 + 1 + 1, o3), (z + 1 + 1, o2), (z + 1, o1), (177, p), (172, q)] := by
  have key : ∀ T : Nat, D < T → LCg.Off1 T [(D, oD), (z + 1 + 1 + 1 + 1 + 1 + 1, o6), (z + 1 + 1 + 1 + 1 + 1, o5), (z + 1 + 1 + 1 + 1, o4), (z + 1 + 1 + 1, o3), (z + 1 + 1, o2), (z + 1, o1), (177, p), (172, q)] := fun T hT =>
    off1_lt hT (off1_lt (Nat.lt_trans h6 hT) (off1_z (Nat.lt_trans h6 hT) (off1_tabs h1 h2 (Nat.lt_trans h6 hT))))
  have hx := Nat.lt_trans hD l2
  exact ⟨key _ (Nat.lt_trans hx t1), key _ (Nat.lt_trans hx c1), key _ hx, key _ hD⟩
theorem off_il {z D dx xi tu cu I : Nat} {oI oD o1 o2 o3 o4 o5 o6 p q : Obj} (h1 : 177 < z) (h2 : 172 < z) (h6 : z + 1 + 1 + 1 + 1 + 1 + 1 < D) (hD : D < dx) (l2 : dx < xi) (t1 : xi < tu) (c1 : xi < cu) (i1 : tu < I) (i2 : cu < I) (i3 : xi < I) (i4 : dx < I) :
    LCg.Off1 tu [(I, oI), (z + 1 + 1 + 1 + 1 + 1 + 1, o6), (D, oD), (z + 1 + 1 + 1 + 1 + 1, o5), (z + 1 + 1 + 1 + 1, o4), (z + 1 + 1 + 1, o3), (z + 1 + 1, o2), (z + 1, o1), (177, p), (172, q)] ∧ LCg.Off1 cu [(I, oI), (z + 1 + 1 + 1 + 1 + 1 + 1, o6), (D, oD), (z + 1 + 1 + 1 + 1 + 1, o5), (z + 1 + 1 + 1 + 1, o4), (z + 1 + 1 + 1, o3), (z + 1 + 1, o2), (z + 1, o1), (177, p), (172, q)] ∧ LCg.Off1 xi [(I, oI), (z + 1 + 1 + 1 + 1 + 1 + 1, o6), (D, oD), (z + 1 + 1 + 1 + 1 + 1, o5), (z + 1 + 1 + 1 + 1, o4), (z + 1 + 1 + 1, o3), (z + 1 + 1, o2), (z + 1, o1), (177, p), (172, q)] ∧ LCg.Off1 dx [(I, oI), (z + 1 + 1 + 1 + 1 + 1 + 1, o6), (D, oD), (z + 1 + 1 + 1 + 1 + 1, o5), (z + 1 + 1 + 1 + 1, o4), (z + 1 + 1 + 1, o3), (z + 1 + 1, o2), (z + 1, o1), (177, p), (172, q)] := by
  have key : ∀ T : Nat, D < T → T < I → LCg.Off1 T [(I, oI), (z + 1 + 1 + 1 + 1 + 1 + 1, o6), (D, oD), (z + 1 + 1 + 1 + 1 + 1, o5), (z + 1 + 1 + 1 + 1, o4), (z + 1 + 1 + 1, o3), (z + 1 + 1, o2), (z + 1, o1), (177, p), (172, q)] := fun T hT hI =>
    off1_gt hI (off1_lt (Nat.lt_trans h6 hT) (off1_lt hT (off1_z (Nat.lt_trans h6 hT) (off1_tabs h1 h2 (Nat.lt_trans h6 hT)))))
  have hx := Nat.lt_trans hD l2
  exact ⟨key _ (Nat.lt_trans hx t1) i1, key _ (Nat.lt_trans hx c1) i2, key _ hx i3, key _ hD i4⟩
theorem off_tab {z D lc lb la : Nat} {oc ob oa oD o1 o2 o3 o4 o5 o6 p : Obj} (h2 : 172 < z) (h6 : z + 1 + 1 + 1 + 1 + 1 + 1 < D) (hc : 172 < lc) (hb : 172 < lb) (ha : la ≠ 172) :
    LCg.Off1 172 [(lc, oc), (lb, ob), (la, oa), (z + 1 + 1 + 1 + 1 + 1 + 1, o6), (D, oD), (z + 1 + 1 + 1 + 1 + 1, o5), (z + 1 + 1 + 1 + 1, o4), (z + 1 + 1 + 1, o3), (z + 1 + 1, o2), (z + 1, o1), (177, p)] := by
  simp only [LCg.Off1, and_true]
  refine ⟨?_, ?_, ha, ?_, ?_, ?_, ?_, ?_, ?_, ?_, ?_⟩ <;> first | omega | decide
theorem off_back {z D : Nat} {oD o1 o2 o3 o4 o5 p : Obj} (h1 : 177 < z) (h6 : z + 1 + 1 + 1 + 1 + 1 + 1 < D) :
    LCg.Off1 177 [(D, oD), (z + 1 + 1 + 1 + 1 + 1, o5), (z + 1 + 1 + 1 + 1, o4), (z + 1 + 1 + 1, o3), (z + 1 + 1, o2), (z + 1, o1), (172, p)] := by
  simp only [LCg.Off1, and_true]
  refine ⟨?_, ?_, ?_, ?_, ?_, ?_, ?_⟩ <;> first | omega | decide
theorem lastStep_grows (r s w : Int) : KPfGrows (lastStep r s w) := by
  intro l k
  unfold lastStep
  split <;> simp
theorem last_fold (r s w : Int) : ∀ (l acc : List Int), (l.foldl (lastStep r s w) acc).length ≤ l.length + acc.length
  | [], acc => by simp
  | k :: l, acc => by
    have h := last_fold r s w l (lastStep r s w acc k)
    have h2 : (lastStep r s w acc k).length ≤ acc.length + 1 := by unfold lastStep; split <;> simp
    simp only [List.foldl_cons, List.length_cons]; omega
theorem lastL_le (r s w : Int) : (lastL r s w).length ≤ (r - 0).toNat := by
  have h := last_fold r s w (rangeKs 0 (r - 0).toNat) []
  rw [rangeKs_len1] at h
  simpa [lastL] using h
theorem ell_law {r s' wd mx k : Int} {sp : List Int} {lead : Str} {t1 t2 : Tok}
  (B : Below A₀ base outer h₀) (F : Fr h₀ L s.heap m) (X : (Mine.hd.heap_39 w.params).In h₀) (N : News h₀ L s.heap news) (T : Top p loose mean mg mb h₀) (hk : cs.kind = .function)
  (hd : dp + 3 < recursionLimit) (hu : un + 30 < cLine) (ok : LawOk r s' wd) (hS : IsSpans r s' wd sp mx) (hL : IsLead r s' wd lead) (hk1 : 1 ≤ k) (hk2 : k ≤ mx + 1) (hM : mx ≤ 19)
  (hret : ∀ (h' : Heap) (tk' : Nat), Fr h₀ L h' m → News h₀ L h' news → Q (.bool (sp.any (· == k))) { s with heap := h', toks := tk' }) :
  wpAny (model prog w) (ktrTop dp un gd cn cs L a ccd cl outer) (call (.ref 71) [.str (Str.ofString "...\t" ++ Txt.mul (Str.ofString " ") (k - 1) ++ Str.ofString "\t...") t1, .str (lead ++ lead) t2]) Q E s := by
  obtain ⟨i, rfl⟩ : ∃ i : Nat, k = (i : Int) + 1 := ⟨(k - 1).toNat, by omega⟩
  have hw := want_ok i (by omega)
  have hl := ok.leadLen
  have hd1 := ok.dom
  have e := ok.ell i (by omega) (by rw [← hS.eq, ← hS.mxe]; omega)
  rw [← hS.eq] at e
  obtain ⟨eL⟩ := hL
  subst eL
  refine ell_spec (mid := midS ((i : Nat) + 1)) B F X N T hk hd hu hw.1 hw.2.1 hw.2.2.1 (by rw [Str.length_append]; omega) hw.2.2.2 ?_
  intro h' tk' F' N'
  rw [e]
  exact hret h' tk' F' N'
theorem apart_177 : ∀ {rest : List (Addr × Obj)}, LCg.Off1 177 rest → Apart [(177, tabObj #[])] rest
  | [], _ => fun _ h => nomatch h
  | _ :: _, h => fun p hp hm => by
    have e : p.1 = 177 := List.mem_singleton.mp hm
    exact off1_mem h p hp e
theorem back_law {r s' wd : Int} {lead : Str} {t1 : Tok} {q1 q2 q3 q4 q5 q6 q7 : Addr × Obj}
  (B : Below A₀ base outer h₀) (F : Fr h₀ L s.heap m) (X : (Mine.hd.heap_39 w.params).In h₀) (N : News h₀ L s.heap [q1, q2, q3, q4, q5, q6, (177, tabObj #[]), q7]) (hAp : LCg.Off1 177 [q1, q2, q3, q4, q5, q6, q7]) (T : Top p loose mean mg mb h₀) (hk : cs.kind = .function)
  (hd : dp + 9 < recursionLimit) (hu : un + 90 < cLine) (ok : LawOk r s' wd) (hL : IsLead r s' wd lead)
  (hret : ∀ (ps : Array Value) (h' : Heap) (tk' tk2 : Nat), Fr h₀ L h' m → News h₀ L h' [(177, tabObj ps), q1, q2, q3, q4, q5, q6, q7] → Q (.int ((lastL r s' wd).getD (Int.toNat 0) 0) tk2) { s with heap := h', toks := tk' }) :
  wpAny (model prog w) (ktrTop dp un gd cn cs L a ccd cl outer) (call (.ref 182) [.str lead t1]) Q E s := by
  have hl := ok.leadLen
  have hd1 := ok.dom
  obtain ⟨eL⟩ := hL
  subst eL
  refine back_spec B F X (news_mono N fun p hp => by rw [List.mem_singleton.mp hp]; simp) (news := [q1, q2, q3, q4, q5, q6, q7]) (news_mono N fun p hp => by simp only [List.mem_cons, List.not_mem_nil, or_false] at hp ⊢; rcases hp with h | h | h | h | h | h | h <;> simp [h]) (apart_177 hAp) T hk hd hu (by omega) ok.revC ok.revS' ?_
  intro ps h' tk' tk2 F' N'
  rw [ok.last]
  exact hret ps h' tk' tk2 F' N'
theorem eq_self' {A : Around} {a : Int} {t u : Tok} (h : Q (.bool true) s) : wpAny (model prog w) A (compareOp .Eq (.int a t) (.int a u)) Q E s := by
  refine PyProof.Rows.eq_int ?_
  have e : (a == a) = true := by simp
  rw [e]; exact h
end
section
variable {prog : Program} {w : World} {p : Program} {loose : List Str} {mean : ExcName → Option Value} {mg mb : Str → Option Value} 
  {dp un : Nat} {gd : Option (List Code)} {cn : Str} {cs : Scope} {L a : Addr} {ccd : Value} {cl : List (Str × Addr)} {outer : List Env} {A₀ : Around} {base h₀ : Heap} {m : Str → Option Value} {s : Shared} {Q E : Value → Shared → Prop} {news : List (Addr × Obj)}
end
section
variable {prog : Program} {w : World} {A : Around} {E : Value → Shared → Prop} {s : Shared} {env : Env} {h₀ : Heap} {target : Expr} {body : List Stmt} {Q : Flow → Shared → Prop}
/-- a turn's end of a loop whose target is a cell -/
def CellEnd (h₀ : Heap) (L : Addr) (m : Str → Option Value) (I : Addr) (it : Obj) (c : Addr) (rest : List (Addr × Obj)) (s₁ : Shared) (Q : Flow → Shared → Prop) (f : Flow) (s₂ : Shared) : Prop :=
  match f with
  | .ret v => Q (.ret v) s₂
  | .brk => Q .next s₂
  | _ => ∃ h' tk o v, s₂ = { s₁ with heap := h', toks := tk } ∧ Fr h₀ L h' m ∧ o.data = .cell v ∧ News h₀ L h' ((I, it) :: (c, o) :: rest)
def CellAt (c : Addr) (rest : List (Addr × Obj)) (m₀ m : Str → Option Value) (news : List (Addr × Obj)) : Prop := m = m₀ ∧ ∃ o v, o.data = Data.cell v ∧ news = (c, o) :: rest
theorem cell_range {r c : Addr} {a₀ b₀ : Int} {t₀ u₀ v₀ : Tok} {n : Nat} {m₀ : Str → Option Value} {rest : List (Addr × Obj)} {o₀ : Obj} {w₀ : Option Value}
    (hh : A.handled = none) (hr : IsRange s.heap r a₀ b₀ 1 t₀ u₀ v₀) (hsmall : Builtin.Range.small a₀ b₀ 1 = true) (hn : Builtin.Range.rangeSize a₀ b₀ 1 = (n : Int)) (F : Fr h₀ env.locals s.heap m₀) (N : News h₀ env.locals s.heap ((c, o₀) :: rest)) (hc : o₀.data = .cell w₀)
    (hgo : ∀ (I : Addr) v (s' : Shared) (Q' : Unit → Shared → Prop) (E' : Value → Shared → Prop), Q' () s' → wpAny (model prog w) A (letOwnedTupleGo target (.ref I) v) Q' E' s')
    (turn : ∀ k t I o v h tk, a₀ ≤ k → k < a₀ + (n : Int) → (∀ p ∈ (c, o₀) :: rest, p.1 < I) → o.data = .cell v → Fr h₀ env.locals h m₀ → News h₀ env.locals h ((I, itR (k + 1) (a₀ + (n : Int) - (k + 1))) :: (c, o) :: rest) →
      wpAny (model prog w) A (assign target env (.int k t)) (fun _ s₂ => wpAny (model prog w) A (execs body env) (CellEnd h₀ env.locals m₀ I (itR (k + 1) (a₀ + (n : Int) - (k + 1))) c rest { s with heap := h, toks := tk } Q) E s₂) E { s with heap := h, toks := tk })
    (done : ∀ h tk o v, o.data = .cell v → Fr h₀ env.locals h m₀ → News h₀ env.locals h ((c, o) :: rest) → Q .next { s with heap := h, toks := tk }) :
    wpAny (model prog w) A (pyIter (.ref r)) (fun it s₂ => TurnsAt prog w A h₀ env target body Q E it s₂) E s := by
  refine wpAny_pyIter_range hr hsmall ?_
  have hI : ∀ p ∈ (c, o₀) :: rest, p.1 < s.heap.objs.size := fun p hp => Heap.lt_size (N p hp).1
  have W := KTurns.ofWalks (target := target) (Walks.range (prog := prog) (w := w) hh s.heap.objs.size a₀ 1 n) (fun i v s Q E _ hQ => hgo _ v s Q E hQ)
  have hnew := next_is_new F
  refine ⟨s.heap.objs.size, _, _, n, _, _, _, m₀, (c, o₀) :: rest, fun _ m news => CellAt c rest m₀ m news, rfl, W, ?_, ?_, ?_, (by show IsRangeIter _ _ _ _ _; rw [hn]; simpa using Heap.get?_push_size _ rfl), F.push _, (fun p hp => ⟨Heap.get?_push_of_some _ (N p hp).1, (N p hp).2⟩), ⟨rfl, o₀, w₀, hc, rfl⟩, ?_, ?_⟩
  · intro hm
    exact absurd F.ns.lt ((List.mem_singleton.mp hm) ▸ Nat.lt_irrefl _)
  · intro b hb
    rw [List.mem_singleton.mp hb]
    exact hnew
  · intro p hp hm
    exact absurd (hI p hp) ((List.mem_singleton.mp hm) ▸ Nat.lt_irrefl _)
  · rintro i v m₁ news₁ h₁ tk₁ own hin ⟨t, rfl⟩ ⟨rfl, o, v', ho, rfl⟩ hnw hown hget hall hst F₁ N₁
    have hst' : h₁.get? s.heap.objs.size = some (itR (a₀ + (i : Int) * 1 + 1) (a₀ + (n : Int) - (a₀ + (i : Int) * 1 + 1))) := by
      have q : IsRangeIter h₁ s.heap.objs.size (a₀ + ((i + 1 : Nat) : Int) * 1) ((n : Int) - ((i + 1 : Nat) : Int)) 1 := hst
      have e1 : a₀ + ((i + 1 : Nat) : Int) * 1 = a₀ + (i : Int) * 1 + 1 := by push_cast; omega
      have e2 : (n : Int) - ((i + 1 : Nat) : Int) = a₀ + (n : Int) - (a₀ + (i : Int) * 1 + 1) := by push_cast; omega
      rw [e1, e2] at q
      exact q
    have hmem := hall s.heap.objs.size (List.mem_singleton.mpr rfl) hnew _ hst'
    have N₂ : News h₀ env.locals h₁ ((s.heap.objs.size, itR (a₀ + (i : Int) * 1 + 1) (a₀ + (n : Int) - (a₀ + (i : Int) * 1 + 1))) :: (c, o) :: rest) := fun p hp => by
      rcases List.mem_cons.mp hp with rfl | hp
      · exact N₁ _ (List.mem_append_left _ hmem)
      · exact N₁ _ (List.mem_append_right _ hp)
    refine wpAny_mono (turn (a₀ + (i : Int) * 1) t s.heap.objs.size o v' h₁ tk₁ (by omega) (by omega) hI ho F₁ N₂) (fun _ s₂ h₂ => wpAny_mono h₂ (fun f s₃ p => ?_) fun _ _ e => e) fun _ _ e => e
    have fin : (∃ h' tk o v, s₃ = { s with heap := h', toks := tk } ∧ Fr h₀ env.locals h' m₁ ∧ o.data = .cell v ∧ News h₀ env.locals h' ((s.heap.objs.size, itR (a₀ + (i : Int) * 1 + 1) (a₀ + (n : Int) - (a₀ + (i : Int) * 1 + 1))) :: (c, o) :: rest)) →
        LoopStepU h₀ env.locals [s.heap.objs.size] own (fun m news => CellAt c rest m₁ m news) { s with heap := h₁, toks := tk₁ } .next s₃ := by
      rintro ⟨h', tk, o', v'', rfl, F', ho', N'⟩
      refine ⟨rfl, h', tk, m₁, (c, o') :: rest, rfl, F', fun q hq => ?_, fun q hq hI' => ?_, rfl, o', v'', ho', rfl⟩
      · rcases List.mem_append.mp hq with hq | hq
        · have h1 : q.1 = s.heap.objs.size := List.mem_singleton.mp (hown q hq)
          have h2 : h₁.get? q.1 = some q.2 := hget q hq
          have h3 : q = (s.heap.objs.size, itR (a₀ + (i : Int) * 1 + 1) (a₀ + (n : Int) - (a₀ + (i : Int) * 1 + 1))) := by
            rw [h1, hst'] at h2
            exact Prod.ext h1 (Option.some.inj h2).symm
          rw [h3]; exact N' _ List.mem_cons_self
        · exact N' _ (List.mem_cons_of_mem _ hq)
      · have e : q.1 = s.heap.objs.size := List.mem_singleton.mp hI'
        rcases List.mem_cons.mp hq with rfl | hq
        · have := hI (c, o₀) List.mem_cons_self
          exact absurd e (Nat.ne_of_lt this)
        · exact absurd e (Nat.ne_of_lt (hI q (List.mem_cons_of_mem _ hq)))
    cases f with
    | ret v => exact .ret p
    | brk => exact .brk p
    | next => exact .next (fin p)
    | cont => exact .cont (fin p)
  · rintro h' tk m' news' F' N' _ ⟨rfl, o, v, ho, rfl⟩
    exact done h' tk o v ho F' N'
theorem cell_end {L : Addr} {m : Str → Option Value} {I c : Addr} {it : Obj} {rest all : List (Addr × Obj)} {s₁ : Shared} {h' : Heap} {tk : Nat} {o : Obj} {v : Option Value} (F : Fr h₀ L h' m) (N : News h₀ L h' all) (ho : o.data = .cell v) (sub : ∀ p ∈ (I, it) :: (c, o) :: rest, p ∈ all) :
    CellEnd h₀ L m I it c rest s₁ Q .next { s₁ with heap := h', toks := tk } := ⟨h', tk, o, v, rfl, F, ho, fun p hp => N p (sub p hp)⟩
end
section
variable {prog : Program} {w : World} {p : Program} {loose : List Str} {mean : ExcName → Option Value} {mg mb : Str → Option Value} 
  {dp un : Nat} {gd : Option (List Code)} {cn : Str} {cs : Scope} {L a : Addr} {ccd : Value} {cl : List (Str × Addr)} {outer : List Env} {A₀ : Around} {base h₀ : Heap} {m : Str → Option Value} {s : Shared} {Q E : Value → Shared → Prop} {news : List (Addr × Obj)}
def PairEl (news : List (Addr × Obj)) (k v : Int) (y : Value) (news' : List (Addr × Obj)) : Prop := ∃ T t1 t2, y = .ref T ∧ news' = (T, tupObj (T, k, t1, v, t2)) :: news
end
section
variable {prog : Program} {w : World} {A : Around} {h₀ : Heap} {L : Addr} {m : Str → Option Value} {env : Env} {elt : PySem.Expr} {x : Str} {scope : Scope} {cl : List (Str × Addr)} {s : Shared} {P : Nat → Value → Prop} {Fin : List Value → List (Addr × Obj) → Prop} {news : List (Addr × Obj)}
theorem tLed_app (a b : List TupE) : tLed (a ++ b) = tLed a ++ tLed b := by simp [tLed]
theorem tRefs_app (a b : List TupE) : tRefs (a ++ b) = tRefs a ++ tRefs b := by simp [tRefs]
theorem pv_app (a b : List TupE) : pv (a ++ b) = pv a ++ pv b := by simp [pv]
theorem kpr_rest {n : Nat} {ks : List Int} (g : Int → Int) (hks : ks.length = n) (hP : ∀ i v, i < n → P i v → ∃ k t, ks[i]? = some k ∧ v = .int k t)
    (turn : ∀ k t I oI C oC D m₂ ys h tk (E' : Value → Shared → Prop) (rs : List TupE), k ∈ ks → LCg.NsObj oC m₂ → m₂ x = some (.int k t) → Fr h₀ L h m → News h₀ L h ((I, oI) :: (C, oC) :: (D, LCg.lst ys) :: (news ++ tLed rs)) → LCg.Off3 I C D (tLed rs ++ news) →
      wpAny (model prog w) A (eval elt (compEnvC scope cl C env)) (LCg.CompEnd h₀ L m { s with heap := h, toks := tk } I oI C oC D (LCg.lst ys) (fun _ => True) (fun y news' => PairEl (tLed rs ++ news) k (g k) y news')) E' { s with heap := h, toks := tk })
    (fin : ∀ es : List TupE, pv es = ks.map (fun k => (k, g k)) → Fin (tRefs es) (tLed es.reverse ++ news)) : LCg.CompRest prog w A h₀ L m env elt x scope cl s (fun _ => True) P Fin n 0 [] news := by
  have key : ∀ (j i : Nat) (es : List TupE), i + j = n → pv es = (ks.take i).map (fun k => (k, g k)) → LCg.CompRest prog w A h₀ L m env elt x scope cl s (fun _ => True) P Fin j i (tRefs es) (tLed es.reverse ++ news) := by
    intro j
    induction j with
    | zero =>
      intro i es hi hy
      have e : i = ks.length := by omega
      subst e
      rw [List.take_length] at hy
      exact LCg.CompRest.zero (fin es hy)
    | succ j ih =>
      intro i es hi hy
      refine LCg.CompRest.succ ?_
      intro v I oI C oC D m₂ h tk E' hv hC hx F N off ne
      obtain ⟨k, t, hk, hv'⟩ := hP i v (by omega) hv
      rw [hv'] at hx
      have N2 : News h₀ L h ((I, oI) :: (C, oC) :: (D, LCg.lst (tRefs es)) :: (news ++ tLed es.reverse)) := news_mono N fun p hp => by
        simp only [List.mem_cons, List.mem_append] at hp ⊢
        rcases hp with h | h | h | h | h
        · exact .inl h
        · exact .inr (.inl h)
        · exact .inr (.inr (.inl h))
        · exact .inr (.inr (.inr (.inr h)))
        · exact .inr (.inr (.inr (.inl h)))
      refine wpAny_mono (turn k t I oI C oC D m₂ (tRefs es) h tk E' es.reverse (List.mem_of_getElem? hk) hC hx F N2 off) (fun y s₂ hq => ?_) fun _ _ e => e
      obtain ⟨h', tk', nw, e, F', N', off', hS, T, t1, t2, hy', hn⟩ := hq
      have e9 : nw = tLed (es ++ [(T, k, t1, g k, t2)]).reverse ++ news := by
        rw [hn, List.reverse_append]; rfl
      rw [e9] at N' off'
      refine ⟨h', tk', _, e, F', N', off', trivial, ?_⟩
      have e8 : tRefs es ++ [y] = tRefs (es ++ [(T, k, t1, g k, t2)]) := by rw [tRefs_app, hy']; rfl
      dsimp only
      rw [e8]
      refine ih (i + 1) _ (by omega) ?_
      rw [List.take_add_one, hk, pv_app, hy]
      simp [pv]
  exact key n 0 [] (by omega) rfl
theorem kpr_range {n : Nat} {a : Int} (g : Int → Int)
    (turn : ∀ k t I oI C oC D m₂ ys h tk (E' : Value → Shared → Prop) (rs : List TupE), a ≤ k → k < a + (n : Int) → LCg.NsObj oC m₂ → m₂ x = some (.int k t) → Fr h₀ L h m → News h₀ L h ((I, oI) :: (C, oC) :: (D, LCg.lst ys) :: (news ++ tLed rs)) → LCg.Off3 I C D (tLed rs ++ news) →
      wpAny (model prog w) A (eval elt (compEnvC scope cl C env)) (LCg.CompEnd h₀ L m { s with heap := h, toks := tk } I oI C oC D (LCg.lst ys) (fun _ => True) (fun y news' => PairEl (tLed rs ++ news) k (g k) y news')) E' { s with heap := h, toks := tk })
    (fin : ∀ es : List TupE, pv es = (rangeKs a n).map (fun k => (k, g k)) → Fin (tRefs es) (tLed es.reverse ++ news)) : LCg.CompRest prog w A h₀ L m env elt x scope cl s (fun _ => True) (fun i v => ∃ t, v = .int (a + (i : Int)) t) Fin n 0 [] news :=
  kpr_rest (ks := rangeKs a n) g (rangeKs_length a n) (fun i v hi hv => by
    obtain ⟨t, e⟩ := hv
    exact ⟨a + (i : Int), t, by simp [rangeKs, hi], e⟩)
    (fun k t I oI C oC D m₂ ys h tk E' rs hk hC hx F N off => turn k t I oI C oC D m₂ ys h tk E' rs (mem_rangeKs hk).1 (mem_rangeKs hk).2 hC hx F N off) fin
theorem off3_cons {I C D T : Addr} {o : Obj} {l : List (Addr × Obj)} (h1 : @LT.lt Nat _ I T) (h2 : @LT.lt Nat _ C T) (h3 : @LT.lt Nat _ D T) (h : LCg.Off3 I C D l) : LCg.Off3 I C D ((T, o) :: l) :=
  ⟨⟨(Nat.ne_of_lt h1).symm, (Nat.ne_of_lt h2).symm, (Nat.ne_of_lt h3).symm⟩, h⟩
theorem pr_end {I C D T : Addr} {oI oC oD : Obj} {s₁ : Shared} {h' : Heap} {tk : Nat} {k v v' : Int} {t1 t2 : Tok} {rs : List TupE} {all : List (Addr × Obj)} (F : Fr h₀ L h' m) (N : News h₀ L h' ((T, tupO #[.int k t1, .int v' t2]) :: (I, oI) :: (C, oC) :: (D, oD) :: all)) (off : LCg.Off3 I C D (tLed rs ++ news))
    (h1 : @LT.lt Nat _ I T) (h2 : @LT.lt Nat _ C T) (h3 : @LT.lt Nat _ D T) (sub : ∀ p ∈ news ++ tLed rs, p ∈ all) (e : v' = v) :
    LCg.CompEnd h₀ L m s₁ I oI C oC D oD (fun _ => True) (fun y news' => PairEl (tLed rs ++ news) k v y news') (.ref T) { s₁ with heap := h', toks := tk } := by
  subst e
  refine ⟨h', tk, (T, tupObj (T, k, t1, v', t2)) :: (tLed rs ++ news), rfl, F, news_mono N fun p hp => ?_, off3_cons h1 h2 h3 off, trivial, T, t1, t2, rfl, rfl⟩
  rcases List.mem_cons.mp hp with rfl | hp
  · exact .tail _ (.head _)
  · rcases List.mem_cons.mp hp with rfl | hp
    · exact .tail _ (.tail _ (.head _))
    · rcases List.mem_cons.mp hp with rfl | hp
      · exact .tail _ (.tail _ (.tail _ (.head _)))
      · rcases List.mem_cons.mp hp with rfl | hp
        · exact .head _
        · refine .tail _ (.tail _ (.tail _ (.tail _ (sub p ?_))))
          rcases List.mem_append.mp hp with h | h
          · exact List.mem_append_right _ h
          · exact List.mem_append_left _ h
def pairD (q : Int × Int) : PyData := .tuple [.int q.1, .int q.2]
theorem pairs_reads {h : Heap} : ∀ {es : List TupE}, (∀ e ∈ es, h.get? e.1 = some (tupObj e)) → ∃ as, ReadsAll h (tRefs es) ((pv es).map pairD) as
  | [], _ => ⟨_, ReadsAll.nil⟩
  | e :: es, g => by
    obtain ⟨as, r⟩ := pairs_reads (es := es) fun x hx => g x (.tail _ hx)
    exact ⟨_, ReadsAll.cons (reads_tuple_at (g e (.head _)) rfl rfl (.cons (.int _ _) (.cons (.int _ _) .nil))) r⟩
theorem pairs_lay : ∀ l : List (Int × Int), PyData.canLayAll0 (l.map pairD) = true ∧ PyData.depthAll (l.map pairD) ≤ 1
  | [] => ⟨rfl, Nat.zero_le _⟩
  | q :: l => by
    have h := pairs_lay l
    refine ⟨?_, ?_⟩
    · simp [pairD, PyData.canLayAll0, PyData.canLay0]; exact h.1
    · simp [pairD, PyData.depthAll, PyData.depth]; omega
theorem pairs_eqv : ∀ l : List (Int × Int), PyData.eqvAll (l.map pairD) (l.map pairD) = true
  | [] => by simp [PyData.eqvAll]
  | q :: l => by
    have h := pairs_eqv l
    simp [pairD, PyData.eqvAll, PyData.eqv]; exact h
theorem pairs_shaped (l : List (Int × Int)) : SeqAt.shaped (.list (l.map pairD)) = true := by
  have h := pairs_lay l
  unfold SeqAt.shaped
  simp only [PyData.canLay0, PyData.depth, h.1, Bool.true_and]
  exact decide_eq_true (by omega)
theorem table_ne {E : Value → Shared → Prop} {Q : Value → Shared → Prop} {D tb : Addr} {es e2 : List TupE} {cn c2 : Nat} {l : List (Int × Int)} {q1 q2 q3 q4 q5 q6 q7 q8 q9 q10 q11 q12 : Addr × Obj}
    (N : News h₀ L s.heap ((D, listOf (tRefs e2).toArray c2) :: q1 :: q2 :: (tb, listOf (tRefs es).toArray cn) :: q3 :: q4 :: q5 :: q6 :: q7 :: q8 :: q9 :: q10 :: q11 :: q12 :: (tLed es ++ tLed e2.reverse)))
    (h1 : pv es = l) (h2 : pv e2 = l) (hu : A.units + 64 < cLine)
    (h : News h₀ L s.heap [q5, q6, q7, q8, q9, q10, q11, q12] → Q (.bool false) s) : wpAny (model prog w) A (compareOp .NotEq (.ref tb) (.ref D)) Q E s := by
  have g1 : ∀ e ∈ es, s.heap.get? e.1 = some (tupObj e) := fun e he => (N (e.1, tupObj e) (List.mem_append_right [_, _, _, _, _, _, _, _, _, _, _, _, _, _] (List.mem_append_left _ (tLed_mem he)))).1
  have g2 : ∀ e ∈ e2, s.heap.get? e.1 = some (tupObj e) := fun e he => (N (e.1, tupObj e) (List.mem_append_right [_, _, _, _, _, _, _, _, _, _, _, _, _, _] (List.mem_append_right _ (tLed_mem (List.mem_reverse.mpr he))))).1
  obtain ⟨as, r1⟩ := pairs_reads g1
  obtain ⟨bs, r2⟩ := pairs_reads g2
  rw [h1] at r1
  rw [h2] at r2
  refine ne_dataH (reads_list_at (N _ (.tail _ (.tail _ (.tail _ (.head _))))).1 rfl rfl (by simpa using r1)) (reads_list_at (N _ (.head _)).1 rfl rfl (by simpa using r2)) (pairs_shaped l) (pairs_shaped l) hu ?_
  have e9 : PyData.eqv (.list (l.map pairD)) (.list (l.map pairD)) = true := by
    simp only [PyData.eqv]; exact pairs_eqv l
  rw [e9]
  exact h (news_mono N fun p hp => List.mem_append_right [_, _, _, _, _, _] (List.mem_append_left (tLed es ++ tLed e2.reverse) hp))
end
section
variable {prog : Program} {w : World} {p : Program} {loose : List Str} {mean : ExcName → Option Value} {mg mb : Str → Option Value} 
  {dp un : Nat} {gd : Option (List Code)} {cn : Str} {cs : Scope} {L a : Addr} {ccd : Value} {cl : List (Str × Addr)} {outer : List Env} {A₀ : Around} {base h₀ : Heap} {m : Str → Option Value} {s : Shared} {Q E : Value → Shared → Prop} {news : List (Addr × Obj)}
theorem led_sp {h : Heap} {a b c d e f g i j k l : Addr × Obj} {r : List (Addr × Obj)} (N : News h₀ L h (a :: b :: c :: d :: e :: f :: g :: i :: j :: k :: l :: r)) : News h₀ L h (a :: r) := news_mono N fun p hp => by
  rcases List.mem_cons.mp hp with rfl | hp
  · exact List.mem_cons_self
  · exact (List.mem_append_right [a, b, c, d, e, f, g, i, j, k, l] hp)
theorem xt_len : (Str.ofString "x \t").length = 3 := by decide
theorem sum_lvl {A : Around} {l : Addr} {vs : List Value} {k : Int} {sp : List Int} (hh : A.handled = none) (F : Fr h₀ L s.heap m) (N : News h₀ L s.heap news) (hl : s.heap.IsList l vs.toArray) (hi : IntsAre vs (sp.map (lvlF k)))
    (h : ∀ h' tk t', Fr h₀ L h' m → News h₀ L h' news → Q (.int (lvlSum k sp) t') { s with heap := h', toks := tk }) : wpAny (model prog w) A (call (.builtin "sum") [.ref l]) Q E s := sumK hh F N hl hi h
theorem fin_perm {h : Heap} {D q1 q2 q3 q4 q5 q6 q7 q8 q9 q10 q11 q12 q13 : Addr × Obj} {X Y : List (Addr × Obj)} (N : News h₀ L h (D :: (X ++ (q1 :: q2 :: q3 :: q4 :: q5 :: q6 :: q7 :: q8 :: q9 :: q10 :: q11 :: q12 :: q13 :: Y)))) :
    News h₀ L h (D :: q1 :: q2 :: q3 :: q4 :: q5 :: q6 :: q7 :: q8 :: q9 :: q10 :: q11 :: q12 :: q13 :: (Y ++ X)) := news_mono N fun p hp => by
  rcases List.mem_cons.mp hp with rfl | hp
  · exact .head _
  · refine .tail _ ?_
    have hp2 : p ∈ (q1 :: q2 :: q3 :: q4 :: q5 :: q6 :: q7 :: q8 :: q9 :: q10 :: q11 :: q12 :: q13 :: Y) ++ X := hp
    rcases List.mem_append.mp hp2 with h | h
    · exact List.mem_append_right _ h
    · exact List.mem_append_left _ h
theorem dt_len : (Str.ofString "...\t").length = 4 := by decide
theorem td_len : (Str.ofString "\t...").length = 4 := by decide
theorem shaped_white (r w : Int) (cs : List Int) : SeqAt.shaped (.tuple [.int r, .int w, .tuple [.tuple (cs.map PyData.int), .int 0], .bool false]) = true := by
  simp [SeqAt.shaped, PyData.canLay0, PyData.canLayAll0, PyData.depth, PyData.depthAll, ke_canLayAll0, ke_depthAll]
theorem eqv_white (r w : Int) (cs : List Int) : PyData.eqv (.tuple [.int r, .int w, .tuple [.tuple (cs.map PyData.int), .int 0], .bool false]) (.tuple [.int r, .int w, .tuple [.tuple (cs.map PyData.int), .int 0], .bool false]) = true := by
  simp [PyData.eqv, PyData.eqvAll, ked_eqvAll]
theorem reads_ints_tup {h : Heap} {c : Addr} {vs : List Value} {cs : List Int} (g : h.get? c = some (tupO vs.toArray)) (hi : IntsAre vs cs) : ∃ as, Reads h (.ref c) (.tuple (cs.map PyData.int)) as :=
  ⟨_, reads_newDataT ⟨_, g, rfl, _, rfl⟩ (ke_carried hi)⟩
theorem reads_white {h : Heap} {a tu cu : Addr} {r w : Int} {t1 t2 t3 : Tok} {vs : List Value} {cs : List Int} (g1 : h.get? a = some (tupO #[.int r t1, .int w t2, .ref tu, .bool false])) (g2 : h.get? tu = some (tupO #[.ref cu, .int 0 t3])) (g3 : h.get? cu = some (tupO vs.toArray)) (hi : IntsAre vs cs) :
    ∃ as, Reads h (.ref a) (.tuple [.int r, .int w, .tuple [.tuple (cs.map PyData.int), .int 0], .bool false]) as := by
  obtain ⟨as, ra⟩ := reads_ints_tup g3 hi
  exact ⟨_, reads_tuple_at g1 rfl rfl (.cons (.int _ _) (.cons (.int _ _) (.cons (reads_tuple_at g2 rfl rfl (.cons ra (.cons (.int _ _) .nil))) (.cons (.bool _) .nil))))⟩
theorem white_ne {A : Around} {a b tb cb tu cu : Addr} {r w' : Int} {t1 t2 t3 u1 u2 u3 : Tok} {bA : Bool} {ys vs : List Value} {cs : List Int} {cl : Addr × Obj} {rest : List (Addr × Obj)}
    (N : News h₀ L s.heap ((b, tupO #[.int r t1, .int w' t2, .ref tb, .bool false]) :: (tb, tupO #[.ref cb, .int 0 t3]) :: (a, tupO #[.int r u1, .int w' u2, .ref tu, .bool bA]) :: (cb, tupO ys.toArray) :: cl :: (tu, tupO #[.ref cu, .int 0 u3]) :: (cu, tupO vs.toArray) :: rest))
    (hb : bA = false) (hi : IntsAre ys cs) (hj : IntsAre vs cs) (hu : A.units + 64 < cLine)
    (h : News h₀ L s.heap ((tu, tupO #[.ref cu, .int 0 u3]) :: (cu, tupO vs.toArray) :: rest) → Q (.bool false) s) : wpAny (model prog w) A (compareOp .NotEq (.ref a) (.ref b)) Q E s := by
  subst hb
  have g (p : Addr × Obj) (hp : p ∈ _) := (N p hp).1
  obtain ⟨as, ra⟩ := reads_white (g (a, _) (.tail _ (.tail _ (.head _)))) (g (tu, _) (.tail _ (.tail _ (.tail _ (.tail _ (.tail _ (.head _))))))) (g (cu, _) (.tail _ (.tail _ (.tail _ (.tail _ (.tail _ (.tail _ (.head _)))))))) hj
  obtain ⟨bs, rb⟩ := reads_white (g (b, _) (.head _)) (g (tb, _) (.tail _ (.head _))) (g (cb, _) (.tail _ (.tail _ (.tail _ (.head _))))) hi
  refine ne_dataH ra rb (shaped_white _ _ _) (shaped_white _ _ _) hu ?_
  rw [eqv_white]
  exact h (news_mono N fun p hp => (List.mem_append_right [_, _, _, _, _] hp))
set_option maxRecDepth 100000 in
set_option maxHeartbeats 16000000 in
theorem law_holds : PySem.Challenge.rw_ty0048_01.Holds := Mine.hdW (by
  k_go0
  k_with_none
  k_with "call ref" => ((with_reducible show wpAny _ _ (call (Value.ref 144) _) _ _ _); ((with_unfolding_all refine' drawn_law ?kB ?kF ?kX ?kN ?kT ?kK ?kd ?ku ?ki ?kl ?kp ?_); (case kB => k_asm); (case kF => k_asm); (case kX => k_asm); (case kN => k_asm); (case kT => k_asm); (case kK => exact rfl); (case kd => ktr_room); (case ku => ktr_units); (case ki => assumption)); (case kl => omega); (case kp => exact fun g9 F9 _ => Heap.IsList.at (by assumption) fun o9 e9 => F9.keep _ o9 e9); intro ring step wide Tu t1 t2 t3 h' tk' lawOk F' N' off'; (obtain ⟨hD1, hD2, hD3, hD4, hD5, hD6⟩ := lawOk.dom); (simp only [LCg.Off1, and_true] at off'); (try dsimp only); (try k_fold))
  k_with "call ref" => ((with_reducible show wpAny _ _ (call (Value.ref 149) _) _ _ _); ((with_unfolding_all refine' lead_law ?kB ?kF ?kX ?kN ?kT ?kK ?kd ?ku lawOk ?_); (case kB => k_asm); (case kF => k_asm); (case kX => k_asm); (case kN => k_asm); (case kT => k_asm); (case kK => exact rfl); (case kd => ktr_room); (case ku => ktr_units)); intro lead t1 h' tk' isLead hLd F' N'; (try dsimp only); (try k_fold))
  k_with "call ref" => ((with_reducible show wpAny _ _ (call (Value.ref 156) [_, Value.int step _, _]) _ _ _); ((with_unfolding_all refine' few_law ?kB ?kF ?kX ?kN ?kT ?kK ?kd ?ku ?kb ?k4 ?_); (case kB => k_asm); (case kF => k_asm); (case kX => k_asm); (case kN => k_asm); (case kT => k_asm); (case kK => exact rfl); (case kd => ktr_room); (case ku => ktr_units); (case k4 => exact lawOk.few1); (case kb => omega)); intro ahead rise a' u1 u2 h' tk' few1 hA1 hA2 hR1 hR2 F' N' l1; (try k_lt l1); (try dsimp only); (try k_fold))
  k_with "call ref" => ((with_reducible show wpAny _ _ (call (Value.ref 156) [_, Value.int (ring - step) _, _]) _ _ _); ((with_unfolding_all refine' few_law ?kB ?kF ?kX ?kN ?kT ?kK ?kd ?ku ?kb ?k4 ?_); (case kB => k_asm); (case kF => k_asm); (case kX => k_asm); (case kN => k_asm); (case kT => k_asm); (case kK => exact rfl); (case kd => ktr_room); (case ku => ktr_units); (case k4 => exact lawOk.few2); (case kb => omega)); intro behind fall a' u1 u2 h' tk' few2 hB1 hB2 hL1 hL2 F' N' l1; (try k_lt l1); (try dsimp only); (try k_fold))
  k_with "call ref" => ((with_reducible show wpAny _ _ (call (Value.ref 133) _) _ _ _); ((with_unfolding_all refine' white_law ?kB ?kF ?kX ?kN ?kT ?kK ?kd ?ku lawOk isSpans isLead rfl ?_); (case kB => k_asm); (case kF => k_asm); (case kX => k_asm); (case kN => k_asm); (case kT => k_asm); (case kK => exact rfl); (case kd => ktr_room); (case ku => ktr_units)); intro xi dx cu tu vsC sz k1 k2 k3 k4 k5 kn knt kb h' tk' hCs hSz l1 l2 o1 o2 F' N'; (try k_lt l1); (try k_lt2 l2); (obtain ⟨hDx, -⟩ := l1); ((dsimp only [wsLed] at N'; simp only [List.cons_append, List.nil_append] at N')); (try dsimp only); (try k_fold))
  k_with "call builtin:max" => (k_here; (with_reducible show wpAny _ _ (call (Value.builtin _) [Value.ref _]) _ _ _); ((with_unfolding_all refine' max_law lawOk isSpans ?k1 ?k2 ?k3 hSpI ?k6 ?_; (case k1 => k_asm); (case k2 => k_asm); (case k3 => kso_list); (case k6 => with_unfolding_all rfl); k_whole)); intro h' t' tk' F' N'; (try dsimp only); (try k_fold))
  k_with "CompSrc" => (k_here; (with_reducible show LCg.CompSrc _ _ _ _ _ _ _ (PySem.Expr.Call _ _ _ _) _ _ _ _ _ _); k_dflt (refine LCg.CompSrc.range (by rfl) (by k_asm) (by k_asm) (by assumption) (by exact small_one (by omega) (by omega) (by omega) (by omega)) (by exact rangeSize_nat _ _) (by (rw [PySem.sizeLine_eq]; omega)) ?_); intro g'; (refine' kcf_range (cntI sp) (fun k' t' I' oI' C' oC' D' m' ys' h' tk' E' hlo' hhi' hC' hx' F' N' off' ne' hMark' => ?_) ?_); (all_goals (try clear ne')); kcf_last)
  k_with "CompEnd" => ((with_reducible show LCg.CompEnd _ _ _ _ _ _ _ _ _ _ _ _ (Value.int (Nat.cast (List.count _ _)) _) _); with_unfolding_all exact cf_end (by k_asm) (by k_asm) (by assumption) trivial rfl)
  k_with "compareOp NotEq ref ref" => ((with_reducible show wpAny _ _ (compareOp CmpOp.NotEq (Value.ref _) (Value.ref _)) _ _ _); (rename News _ _ _ _ => nX); (rename IntsAre _ (List.map (cntI sp) _) => hC2); ((with_unfolding_all refine' white_ne nX ?kb hC2 hCs ?ku ?_); (case kb => exact decide_eq_false (by omega)); (case ku => first | units_room | exact Nat.le_of_ble_eq_true rfl)); (intro nY); (clear nX hC2); (repeat (rename _ < (_ : Nat) ∧ _ => hz9; clear hz9)); (try dsimp only); (try k_fold))
  k_with "call ref" => ((with_reducible show wpAny _ _ (call (Value.ref 95) _) _ _ _); ((with_unfolding_all refine' lr_law ?kB ?kF ?kX ?kN ?kO ?kA ?kT ?kK ?kd ?ku hCs hM1 hM2 ?_); (case kB => k_asm); (case kF => k_asm); (case kX => k_asm); (case kN => k_asm); (case kO => exact rfl); (case kA => exact off_ws hT1 hT2 hC6 hDx l2 o1 o2); (case kT => k_asm); (case kK => exact rfl); (case kd => ktr_room); (case ku => ktr_units)); intro h' tk' tk2 F' N'; (try dsimp only); (try k_fold))
  k_with "compareOp NotEq int int" => ((with_reducible refine ne_self ?_); (try dsimp only); (try k_fold))
  k_with "exec For Name Call cons nil" => (k_here; (rename Fr _ _ _ _ => lF'); (with_unfolding_all refine' For_turns lF' ?_ ?ks ?kE; (case ks => (intro _; with_unfolding_all rfl)); (case kE => passes_own)); k_whole)
  k_with "pyIter ref" =>
    (k_here; (with_reducible show wpAny _ _ (pyIter (Value.ref _)) (fun it s₂ => TurnsAt _ _ _ _ _ _ _ _ _ it s₂) _ _); (rename Fr _ _ _ _ => lF'); (rename News _ _ _ _ => lN'); (rename IsRange _ _ _ _ _ _ _ _ => rgX);
     (with_unfolding_all refine' cell_range (by rfl) rgX (by exact small_one (by omega) (by omega) (by omega) (by omega)) (by exact rangeSize_nat _ _) lF' (led_six lN') ?kc ?kg ?kturn ?kdone);
     (case kc => assumption);
     (case kg => with_unfolding_all exact fun _ _ _ _ _ hq => wpAny_pure hq);
     (all_goals clear lF' lN');
     (case' kturn => (intro kN kT kI kO kv kH kTk hk1 hk2 hI9 ho9 kFr kNews; (try k_lt hI9); (obtain ⟨hI0, hI1, hI2, hI3, hI4, -⟩ := hI9); (try dsimp only [envOfC] at kFr); (try dsimp only [envOfC] at kNews); (try k_fold)));
     (case' kdone => (intro kH kTk kO kv ho9 kFr kNews; (try dsimp only [envOfC] at kFr); (try dsimp only [envOfC] at kNews); (try k_fold))))
  k_with "call ref" => ((with_reducible show wpAny _ _ (call (Value.ref 102) _) _ _ _); ((with_unfolding_all refine' il_law ?kB ?kF ?kX ?kN ?kO ?kA ?kT ?kK ?kd ?ku hCs hM1 hM2 lawOk isSpans ?kk1 ?kk2 ?_); (case kB => k_asm); (case kF => k_asm); (case kX => k_asm); (case kN => k_asm); (case kO => exact rfl); (case kA => exact off_il hT1 hT2 hC6 hDx l2 o1 o2 hI1 hI2 hI3 hI4); (case kT => k_asm); (case kK => exact rfl); (case kd => ktr_room); (case ku => ktr_units); (case kk1 => omega); (case kk2 => omega)); intro h' tk' tk2 F' N'; (try dsimp only); (try k_fold))
  k_with "CompSrc" => (k_here; (with_reducible show LCg.CompSrc _ _ _ _ _ _ _ (PySem.Expr.BinOp (PySem.Expr.BinOp _ Operator.FloorDiv _ _) _ _ _) _ _ _ _ _ _); (k_dflt (refine LCg.CompSrc.ledger (by rfl) (by k_asm) (by k_asm) (by k_mem) (by (rw [PySem.sizeLine_eq, List.size_toArray, hSpI.length]; omega)) ?_)); intro g'; (refine' kcf_list (lvlF kN) hSpI (fun k' t' I' oI' C' oC' D' m' ys' h' tk' E' hk' hC' hx' F' N' off' ne' hMark' => ?_) ?_); (all_goals (try clear ne')); (all_goals (try (have hB9 := span_bd lawOk isSpans hk'))); kcf_last)
  k_with "CompEnd" => ((with_reducible show LCg.CompEnd _ _ _ _ _ _ _ _ _ _ _ _ (Value.int (Int.fdiv _ _ + 1) _) _); with_unfolding_all exact cf_end (by k_asm) (by k_asm) (by assumption) (by first | exact trivial | assumption | lcg_src) rfl)
  k_with "call builtin:sum" => (k_here; (with_reducible show wpAny _ _ (call (Value.builtin "sum") [Value.ref _]) _ _ _); ((with_unfolding_all refine' sum_lvl (k := kN) (sp := sp) ?k0 ?k1 ?k2 ?k3 ?k4 ?_; (case k0 => with_unfolding_all rfl); (case k1 => k_asm); (case k2 => k_asm); (case k3 => is_list); (case k4 => assumption); k_whole)); intro h' tk' t' F' N'; (try dsimp only); (try k_fold))
  k_with "binaryOp Mult int int" => ((with_reducible refine mul_int ?_ (IntMulOk.of_left (PySem.intBits_le_64 (by omega) (by omega)))); (try dsimp only); (try k_fold))
  k_with "CellEnd" => (with_unfolding_all exact cell_end (by k_asm) (by assumption) (by assumption) (by kcf_all))
  k_with "binaryOp FloorDiv int int" => ((with_reducible show wpAny _ _ (binaryOp Operator.FloorDiv (Value.int _ _) (Value.int _ _)) _ _ _); (have h9 : kN ≠ 0 := Int.ne_of_gt (Int.lt_of_lt_of_le Int.one_pos hk1)); (refine floordiv_int h9 ?_ (Or.inl (PyProof.noPylong_small (by (clear h9); omega)))); (try clear h9); (try dsimp only); (try k_fold))
  k_with "CompSrc" => (k_here; (with_reducible show LCg.CompSrc _ _ _ _ _ _ _ (PySem.Expr.BinOp _ _ (PySem.Expr.IfExp _ _ _ _) _) _ _ _ _ _ _); k_dflt (refine LCg.CompSrc.range (by rfl) (by k_asm) (by k_asm) (by assumption) (by exact small_one (by omega) (by omega) (by omega) (by omega)) (by exact rangeSize_nat _ _) (by (rw [PySem.sizeLine_eq]; omega)) ?_); intro g'; (refine' kcf_range (octF ring step lead) (fun k' t' I' oI' C' oC' D' m' ys' h' tk' E' hlo' hhi' hC' hx' F' N' off' ne' hMark' => ?_) ?_); (all_goals (try clear ne')); kcf_last)
  k_with "CompEnd" => ((with_reducible show LCg.CompEnd _ _ _ _ _ _ _ _ _ _ _ _ (Value.int (_ + 64) _) _); (with_unfolding_all exact cf_end (by k_asm) (by k_asm) (by assumption) trivial (oct_yes (by assumption))))
  k_with "CompEnd" => ((with_reducible show LCg.CompEnd _ _ _ _ _ _ _ _ _ _ _ _ (Value.int (_ + 0) _) _); (with_unfolding_all exact cf_end (by k_asm) (by k_asm) (by assumption) trivial (oct_no (by assumption))))
  k_with "call ref" => ((with_reducible show wpAny _ _ (call (Value.ref 170) _) _ _ _); (repeat (rename _ ≠ (_ : Nat) ∧ _ => hz9; clear hz9)); (rename IntsAre _ (List.map (octF ring step lead) _) => hOc); ((with_unfolding_all refine' read_law ?kB ?kX2 ?kT2 ?kF ?kX ?kN ?kT ?kK ?kd ?ku lawOk isLead hOc ?km1 ?km2 ?_); (case kB => k_asm); (case kX2 => k_asm); (case kT2 => k_asm); (case kF => k_asm); (case kX => k_asm); (case kN => k_asm); (case kT => k_asm); (case kK => exact rfl); (case kd => ktr_room); (case ku => ktr_units); (case km1 => (repeat' (first | exact List.mem_cons_self | apply List.mem_cons_of_mem))); (case km2 => (repeat' (first | exact List.mem_cons_self | apply List.mem_cons_of_mem)))); intro wy aN usN cN h' tk' isWays hWl hNum hN7 hN2 F' N'; (clear hOc); (try dsimp only); (try k_fold))
  k_with "call ref" => ((with_reducible show wpAny _ _ (call (Value.ref 163) _) _ _ _); ((with_unfolding_all refine' ways_law ?kB ?kF ?kX ?kN ?kT ?kK ?kd ?ku lawOk isWays ?_); (case kB => k_asm); (case kF => k_asm); (case kX => k_asm); (case kN => k_asm); (case kT => k_asm); (case kK => exact rfl); (case kd => ktr_room); (case ku => ktr_units)); intro aW usW cW h' tk' hWay F' N'; (try dsimp only); (try k_fold))
  k_with "compareOp NotEq ref ref" => ((with_reducible show wpAny _ _ (compareOp CmpOp.NotEq (Value.ref aN) (Value.ref _)) _ _ _); (rename News _ _ _ _ => nX); ((with_unfolding_all refine' ints_ne nX ?km hNum hWay ?ku ?_); (case km => (repeat' (first | exact List.mem_cons_self | apply List.mem_cons_of_mem))); (case ku => first | units_room | exact Nat.le_of_ble_eq_true rfl)); (intro nY); (clear nX hWay); (try dsimp only); (try k_fold))
  k_with "call ref" => ((with_reducible show wpAny _ _ (call (Value.ref 175) _) _ _ _); ((with_unfolding_all refine' table_law ?kB ?kF ?kX ?kN ?kA ?kT ?kK ?kd ?ku lawOk isSpans few1 few2 isWays hNum ?_); (case kB => k_asm); (case kF => k_asm); (case kX => k_asm); (case kN => k_asm); (case kA => exact off_tab hT2 hC6 (by omega) (by omega) hN2); (case kT => k_asm); (case kK => exact rfl); (case kd => ktr_room); (case ku => ktr_units)); intro Tu tb en es cn vsE c2 ps2 h' tk' hEs hEn F' N'; (repeat (rename _ < (_ : Nat) ∧ _ => hz9; clear hz9)); (repeat (rename _ ≠ (_ : Nat) ∧ _ => hz9; clear hz9)); (try dsimp only); (try k_fold))
  k_with "CompSrc" => (k_here; (with_reducible show LCg.CompSrc _ _ _ _ _ _ _ (PySem.Expr.BinOp _ Operator.Mod _ _) _ _ _ _ _ _); (k_dflt (refine LCg.CompSrc.ledger (by rfl) (by k_asm) (by k_asm) (by k_mem) (by (rw [PySem.sizeLine_eq, List.size_toArray, hNum.length]; omega)) ?_)); intro g'; (refine' kcf_list fm64 hNum (fun k' t' I' oI' C' oC' D' m' ys' h' tk' E' hk' hC' hx' F' N' off' ne' hMark' => ?_) ?_); (all_goals (try clear ne')); kcf_last)
  k_with "CompEnd" => ((with_reducible show LCg.CompEnd _ _ _ _ _ _ _ _ _ _ _ _ (Value.int (Int.fmod _ 64) _) _); with_unfolding_all exact cf_end (by k_asm) (by k_asm) (by assumption) (by first | exact trivial | assumption | lcg_src) rfl)
  k_with "compareOp NotEq ref ref" => ((with_reducible show wpAny _ _ (compareOp CmpOp.NotEq (Value.ref en) (Value.ref _)) _ _ _); (rename News _ _ _ _ => nX); (rename IntsAre _ (List.map fm64 _) => hE2); ((with_unfolding_all refine' ints_ne nX ?km hEn hE2 ?ku ?_); (case km => (repeat' (first | exact List.mem_cons_self | apply List.mem_cons_of_mem))); (case ku => first | units_room | exact Nat.le_of_ble_eq_true rfl)); (intro nY); (clear nX hE2); (repeat (rename _ ≠ (_ : Nat) ∧ _ => hz9; clear hz9)); (try dsimp only); (try k_fold))
  k_with "CompSrc" => (k_here; (with_reducible show LCg.CompSrc _ _ _ _ _ _ _ (PySem.Expr.Tuple _ _ _) _ _ _ _ _ _); k_dflt (refine LCg.CompSrc.range (by rfl) (by k_asm) (by k_asm) (by assumption) (by exact small_one (by omega) (by omega) (by omega) (by omega)) (by exact rangeSize_nat _ _) (by (rw [PySem.sizeLine_eq]; omega)) ?_); intro g'; (refine' kpr_range (fun j => sp.getD j.toNat 0) (fun k' t' I' oI' C' oC' D' m' ys' h' tk' E' rs' hlo' hhi' hC' hx' F' N' off' => ?_) ?_); (all_goals (try (simp only [List.cons_append] at N'))); kcf_last)
  k_with "forall" => ((with_reducible show ∀ es : List TupE, _ = _ → _); intro es2 hE2; (unfold LCg.FinE); intro D' h' tk' F' N' o1'; (clear o1'); (rename News _ _ _ _ => nX); (have nY := fin_perm nX); (clear nX); (try dsimp only); (try k_fold))
  k_with "subscriptTail Name Name ref int" => (k_here; (with_reducible show wpAny _ _ (subscriptTail _ _ (Value.ref _) (Value.int _ _)) _ _ _); (with_unfolding_all refine' item_ints ?k1 ?k2 hSpI ?k4 ?k5 ?k6 ?_ ?k7; (case k1 => k_asm); (case k2 => k_mem); (case k4 => omega); (case k5 => omega); (case k6 => omega); (case k7 => with_unfolding_all rfl)); k_whole; intro t'; (try k_fold))
  k_with "CompEnd" => ((with_reducible show LCg.CompEnd _ _ _ _ _ _ _ _ _ _ _ _ (Value.ref _) _); with_unfolding_all exact pr_end (by k_asm) (by k_asm) (by assumption) (by omega) (by omega) (by omega) (fun _ h => h) rfl)
  k_with "compareOp NotEq ref ref" => ((with_reducible show wpAny _ _ (compareOp CmpOp.NotEq (Value.ref tb) (Value.ref _)) _ _ _); (rename News _ _ _ _ => nX); ((with_unfolding_all refine' table_ne nX hEs hE2 ?ku ?_); (case ku => first | units_room | exact Nat.le_of_ble_eq_true rfl)); (intro nY); (clear nX hE2 hEs); (try dsimp only); (try k_fold))
  k_with "exec For Name Call cons nil" => (k_here; (rename Fr _ _ _ _ => lF'); (with_unfolding_all refine' For_invVF lF' ?k1 ?k2 ?_; (case k1 => exact rfl); (case k2 => exact rfl); k_whole))
  k_with "pyIter ref" =>
    (k_here; (with_reducible show wpAny _ _ (pyIter (Value.ref _)) (fun it s₂ => LoopAtV _ _ _ _ _ _ _ _ _ it s₂) _ _); (rename Fr _ _ _ _ => lF'); (rename News _ _ _ _ => lN'); (rename IsRange _ _ _ _ _ _ _ _ => rgX);
     (with_unfolding_all refine' kst_range (σ := Unit) (fun _ => _) (fun _ => []) (fun _ => True) [] (fun _ _ => True) () (by rfl) rgX (by exact small_one (by omega) (by omega) (by omega) (by omega)) (by exact rangeSize_nat _ _) lF' lN' trivial (fun _ h => nomatch h) trivial ?_ ?_);
     (all_goals clear lF' lN');
     (focus (intro kC kPre kN kT kU kH kTk kOwn kEq kLt kOff kFacts kInv kFr kNews; (dsimp only [kstB, envOfC] at kFr); (dsimp only [envOfC] at kNews); (simp only [List.nil_append, List.cons_append, List.append_nil] at kNews); (try k_fold)));
     (rotate_left 1);
     (focus (intro kC kU kH kTk kFacts kInv kFr kNews; (dsimp only [kstB, envOfC] at kFr); (dsimp only [envOfC] at kNews); (try k_fold)));
     (rotate_left 1))
  k_with "binaryOp Mult str int" => ((with_reducible show wpAny _ _ (binaryOp Operator.Mult (Value.str _ _) (Value.int _ _)) _ _ _); (refine KXi.mul (n := 1) (by decide) (by decide) (by omega) (by omega) ?_); intro t9 k9 hm9 hn9; (try dsimp only); (try k_fold))
  k_with "binaryOp Add str str" => ((with_reducible show wpAny _ _ (binaryOp Operator.Add (Value.str _ _) (Value.str _ _)) _ _ _); ((refine SBL.add (hsz := ?hsz) ?_); (case hsz => (simp only [sizeLine_eq, Str.length_append]; (try rw [dt_len]); (try rw [td_len]); omega))); intro t9 k9 e9; (clear e9); (try dsimp only); (try k_fold))
  k_with "call ref" => ((with_reducible show wpAny _ _ (call (Value.ref 71) _) _ _ _); ((with_unfolding_all refine' ell_law ?kB ?kF ?kX ?kN ?kT ?kK ?kd ?ku lawOk isSpans isLead ?kk1 ?kk2 hM2 ?_); (case kB => k_asm); (case kF => k_asm); (case kX => k_asm); (case kN => k_asm); (case kT => k_asm); (case kK => exact rfl); (case kd => ktr_room); (case ku => ktr_units); (case kk1 => omega); (case kk2 => omega)); intro h' tk' F' N'; (try dsimp only); (try k_fold))
  k_with "compareOp In int ref" => (k_here; (with_reducible show wpAny _ _ (compareOp CmpOp.In (Value.int _ _) (Value.ref _)) _ _ _); ((with_unfolding_all refine' in_list_ints ?k1 hSpI ?_; (case k1 => is_list); k_whole)); (try dsimp only); (try k_fold))
  k_with "compareOp NotEq bool bool" => ((with_reducible refine ne_bself ?_); (try dsimp only); (try k_fold))
  k_with "InvEndN" => (rename News _ _ _ _ => nE'; (with_unfolding_all (refine' kst_end (σ := Unit) () ?kf nE' ?ki ?ko ?ka trivial (fun _ h => nomatch h) ?ks trivial; (case kf => assumption); (case ki => kst_in); (case ko => (intro p hp; kst_mem)); (case ka => rfl); (case ks => kst_same))))
  k_with "call ref" => ((with_reducible show wpAny _ _ (call (Value.ref 182) _) _ _ _); ((with_unfolding_all refine' back_law ?kB ?kF ?kX ?kN ?kA ?kT ?kK ?kd ?ku lawOk isLead ?_); (case kB => k_asm); (case kF => k_asm); (case kX => k_asm); (case kN => k_asm); (case kA => exact off_back hT1 hC6); (case kT => k_asm); (case kK => exact rfl); (case kd => ktr_room); (case ku => ktr_units)); intro ps7 h' tk' tk2 F' N'; (try dsimp only); (try k_fold))
  k_with "CompSrcT" => (k_here; k_dflt (refine LCt.CompSrcT.range (by rfl) (by k_asm) (by k_asm) (by assumption) (by exact small_one (by omega) (by omega) (by omega) (by omega)) (by exact rangeSize_nat _ _) (by (rw [PySem.sizeLine_eq]; omega)) ?_); intro g'; (refine' kci_range (lastStep ring step wide) (fun k' t' I' oI' C' oC' D' m' ys' l' h' tk' E' hlo' hhi' hI' hC' hx' F' N' off' ne' => ?_) ?_ ?_); (all_goals (try (simp only [LCg.Off3, and_true] at off'))); (all_goals (try ((show KPfMark → _); intro hMark'))); kcf_last)
  k_with "KPfGrows" => exact lastStep_grows _ _ _
  k_with "subscriptTail ListComp" => (k_here; (with_reducible show wpAny _ _ (subscriptTail _ _ (Value.ref _) (Value.int 0 _)) _ _ _); (with_unfolding_all refine' item_list (ns := lastL ring step wide) ?k1 ?k2 ?k3 ?k4 ?k5 ?k6 ?_ ?k7; (case k1 => k_asm); (case k2 => k_mem); (case k3 => assumption); (case k4 => decide); (case k5 => (have h9 := lawOk.lastLen; omega)); (case k6 => (have hbl := lastL_le ring step wide; omega)); (case k7 => with_unfolding_all rfl); k_whole); intro t')
  k_with "compareOp Eq int int" => ((with_reducible show wpAny _ _ (compareOp CmpOp.Eq (Value.int (List.getD _ _ _) _) (Value.int (List.getD _ _ _) _)) _ _ _); (with_unfolding_all refine eq_self' ?_); (try dsimp only); (try k_fold))
  k_with "binaryOp Add str str" => ((with_reducible show wpAny _ _ (binaryOp Operator.Add (Value.str _ _) (Value.str (Str.ofString "x \t") _)) _ _ _); (rename IntsAre _ (_ ++ _ ++ _) => hS0); (refine Exists.elim (spans_of lawOk few1 few2 hS0) ?_); (intro sp hS1); (refine Exists.elim hS1 ?_); (clear hS1); (intro mx hS1); (obtain ⟨isSpans, hSpI, hSpL, hM1, hM2⟩ := hS1); (rename News _ _ _ _ => nX); (have nY := led_sp nX); (clear nX hS0); (rename (177 : Nat) < _ ∧ (172 : Nat) < _ => hl0); (obtain ⟨hT1, hT2⟩ := hl0); (rename _ < (_ : Nat) ∧ _ => hz); (obtain ⟨-, -, -, -, -, -, -, -, -, -, hC6, -⟩ := hz); (repeat (rename _ < (_ : Nat) ∧ _ => hz9; clear hz9)); (repeat (rename _ ≠ (_ : Nat) ∧ _ => hz9; clear hz9)); (repeat (rename (_ : Int) < 0 → _ => hz9; clear hz9)); (repeat (rename 0 ≤ (_ : Int) → _ => hz9; clear hz9)); (repeat (rename List.length _ = (_ : Nat) => hz9; clear hz9)); (repeat (rename Array.size _ = (_ : Nat) => hz9; clear hz9)); (repeat (rename IntsAre (List.flatten _) _ => hz9; clear hz9)); (repeat (rename IntsAre _ (_ ++ _) => hz9; clear hz9)); ((refine SBL.add (hsz := ?hsz) ?_); (case hsz => (simp only [sizeLine_eq]; (try rw [Str.length_append]); rw [xt_len]; omega))); intro t9 k9 e9; (try dsimp only); (try k_fold))
  k_steps)
end
end Mine
theorem PySem.Challenge.cw_ty0048_01_holds : PySem.Challenge.rw_ty0048_01.Holds := by
  exact Mine.law_holds
