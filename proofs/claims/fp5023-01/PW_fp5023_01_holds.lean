import PyProof.Rows.All
import Wide.All
import OpenK.AllK
import Wide.FinOn
import PySem.Challenge.RW_fp5023_01
set_option Elab.async false
set_option maxRecDepth 100000
section
open PySem PySem.W PyProof.Rows
namespace Mine
set_option maxRecDepth 100000 in
set_option maxHeartbeats 8000000 in
open_top hd for PySem.Challenge.rw_fp5023_01
end Mine

end
section
open PySem PySem.W PySem.Calls PyProof.Rows PySem.Spec
set_option maxRecDepth 100000
namespace Mine
/-- what the caller holds and the call leaves alone -/
def Kept (rest : List (Addr × Obj)) (h : Heap) : Prop := ∀ p ∈ rest, h.get? p.1 = some p.2
def Apart (mod rest : List (Addr × Obj)) : Prop := ∀ p ∈ rest, p.1 ∉ mod.map (·.1)
def KQ (rest : List (Addr × Obj)) (Q₀ Q : Value → Shared → Prop) : Prop := ∀ v s', Q₀ v s' → Kept rest s'.heap → Q v s'
theorem KQ.make {rest : List (Addr × Obj)} {h₀ : Heap} {L : Addr} {m : Str → Option Value} {s : Shared} {post : Value → List (Addr × Obj) → Prop} {Q : Value → Shared → Prop}
    (h : ∀ v h' tk nx, post v nx → Fr h₀ L h' m → News h₀ L h' nx → Kept rest h' → Q v { s with heap := h', toks := tk }) :
    ∃ Q₀, KQ rest Q₀ Q ∧ ∀ v h' tk nx, post v nx → Fr h₀ L h' m → News h₀ L h' nx → Q₀ v { s with heap := h', toks := tk } :=
  ⟨fun v s' => Kept rest s'.heap → Q v s', fun _ _ a b => a b, h⟩
abbrev resOf (Q E : Value → Shared → Prop) : Result → Shared → Prop := fun r s' => match r with | .ok (.ret v) => Q v s' | .ok _ => False | .error e => E e s'

section
variable {prog : Program} {w : World} {A₀ A : Around} {s : Shared} {base h₀ : Heap} {outer : List Env} {L : Addr} {m : Str → Option Value} {env : Env} {mod rest : List (Addr × Obj)} {K : Frag} {p : Program} {loose : List Str} {mean : ExcName → Option Value} {mg mb : Str → Option Value}
  {Q₀ Q E : Value → Shared → Prop} {name qual : Str} {params : Arguments} {body : List Stmt} {scope : Scope} {dV kV doc pm cdv ct oc : Value} {an od : Option Addr} {osl : Array (Option Value)} {f : Addr} {args : Args} {binds : List (Str × Value)}
theorem kp_leave {v : Value} {s' : Shared} (hrest : Kept rest s.heap) (ha : Apart mod rest) (hQ : KQ rest Q₀ Q) (hl : LeaveK h₀ L m (hideAll s.heap (mod.map (·.1))) (resOf Q₀ E) v s') :
    LeaveK h₀ L m (hideAll s.heap (mod.map (·.1))) (resOf Q E) v s' := by
  obtain ⟨L', m', news', F', N', k⟩ := hl
  exact ⟨L', m', news', F', N', fun a b => hQ _ _ (k a b) fun p hp => F'.keep _ _ (hideAll_get _ (hrest p hp) (ha p hp))⟩

theorem enter_plain (hrest : Kept rest s.heap) (ha : Apart mod rest) (hQ : KQ rest Q₀ Q)
    (B : Below A₀ base outer h₀) (F : Fr h₀ L s.heap m) (X₀ : K.In h₀) (N : News h₀ L s.heap mod) (T : Top p loose mean mg mb h₀) (hA : A.frames = some (env :: outer)) (hf : env.frame = some L) (hke : env.scope.kind = .function)
    (ho : K.lookup f = some ⟨oc, od, .func (fnOf name qual params body scope dV kV doc pm an cdv ct), osl⟩) (hcd : codeIn K cdv qual = true) (hroom : A.depth < recursionLimit)
    (hbind : BindsTo s (fnOf name qual params body scope dV kV doc pm an cdv ct) args binds) (hloc : ∀ y ∈ binds, scope.names.lookup y.1 = some .local)
    (h : ∀ g L' h₁, Fr h₀ L g m → Fr g L' h₁ (fun y => binds.reverse.lookup y) → News g L' h₁ mod → Below A base (env :: outer) g → K.In g → Top p loose mean mg mb g →
      wpAny (model prog w) (A.deeper (envOf qual scope L' f cdv)) (execs body (envOf qual scope L' f cdv))
        (fun fl s' => LeaveK h₀ L m g (resOf Q₀ E) (match fl with | .ret v => v | _ => .none) s')
        (fun e s' => wpAny (model prog w) (A.deeper (envOf qual scope L' f cdv)) (leaving (envOf qual scope L' f cdv) e) (fun _ s'' => E e s'') (fun e' s'' => E e' s'') s')
        { s with heap := h₁, toks := s.toks + binds.length })
    (hco : scope.isCoroutine = false) (hgen : scope.isGenerator = false) (hk : scope.kind = .function)
    (hcell : ∀ x ∈ scope.names, x.2 ≠ .cell) : codeAny (model prog w) A (.call (.ref f) args) (resOf Q E) s := by
  obtain ⟨FG, BG, st, lv⟩ := groundX (R := resOf Q E) B F N hA hf hke
  have X := X₀.keeps F.keep
  refine codeAny_call_def (fd := fnOf name qual params body scope dV kV doc pm an cdv ct) (body := body) (binds := binds) hroom (X _ _ ho) rfl (T.nolimit.keeps F.keep) (codeRec_of X hcd) rfl hbind hcell hloc (fun h₁ hns hk₁ => ?_) hco hgen hk
  exact wpAny_mono (h _ s.heap.objs.size h₁ FG ⟨hns, fun b o e => hk₁ b o (of_hideAll _ e), Nat.le_of_eq (hideAll_size _ _)⟩
    (fun p hp => ⟨hk₁ _ _ (N p hp).1, Nat.ne_of_lt (Heap.lt_size (N p hp).1), hideAll_none _ (List.mem_map_of_mem hp)⟩) BG (X₀.keeps st) (T.keeps st)) (fun fl s' hl => lv _ _ (kp_leave hrest ha hQ hl)) fun _ _ y => y

theorem enter_cells (hrest : Kept rest s.heap) (ha : Apart mod rest) (hQ : KQ rest Q₀ Q)
    (B : Below A₀ base outer h₀) (F : Fr h₀ L s.heap m) (X₀ : K.In h₀) (N : News h₀ L s.heap mod) (T : Top p loose mean mg mb h₀) (hA : A.frames = some (env :: outer)) (hf : env.frame = some L) (hke : env.scope.kind = .function)
    (ho : K.lookup f = some ⟨oc, od, .func (fnOf name qual params body scope dV kV doc pm an cdv ct), osl⟩) (hcd : codeIn K cdv qual = true) (hroom : A.depth < recursionLimit)
    (hbind : BindsTo s (fnOf name qual params body scope dV kV doc pm an cdv ct) args binds) (hkind : (binds.all fun y => scope.names.lookup y.1 == some .local || scope.names.lookup y.1 == some .cell) = true)
    (hnd : ((cellsFrom 0 scope.names []).map (·.1)).Nodup)
    (h : ∀ g L' h₁ tk cells, Fr h₀ L g m → Fr g L' h₁ (bindL (envOfC qual scope L' f cdv).kindOf binds fun _ => none) → News g L' h₁ (cells ++ mod) →
      CellsAre (bindC (envOfC qual scope L' f cdv).kindOf binds fun _ => none) (cellsFrom (L' + 1) scope.names []) cells → Below A base (env :: outer) g → K.In g → Top p loose mean mg mb g → (∀ p ∈ mod, p.1 < L') →
      wpAny (model prog w) (A.deeper (envOfC qual scope L' f cdv)) (execs body (envOfC qual scope L' f cdv))
        (fun fl s' => LeaveK h₀ L m g (resOf Q₀ E) (match fl with | .ret v => v | _ => .none) s')
        (fun e s' => wpAny (model prog w) (A.deeper (envOfC qual scope L' f cdv)) (leaving (envOfC qual scope L' f cdv) e) (fun _ s'' => E e s'') (fun e' s'' => E e' s'') s')
        { s with heap := h₁, toks := tk })
    (hco : scope.isCoroutine = false) (hgen : scope.isGenerator = false) (hk : scope.kind = .function) : codeAny (model prog w) A (.call (.ref f) args) (resOf Q E) s := by
  obtain ⟨FG, BG, st, lv⟩ := groundX (R := resOf Q E) B F N hA hf hke
  have X := X₀.keeps F.keep
  refine codeAny_call_function hroom (X _ _ ho) rfl hco hgen rfl (codeRec_of X hcd) (hbind _ _ _ _ ?_)
  refine wpAny_newFunctionEnv_cells hk (kindsX hkind _) fun env' he s' x => ?_
  subst he
  refine ⟨(T.nolimit.keeps F.keep).keeps x.toInCall.keep, codeAny_func ?_⟩
  obtain ⟨h₁, tk, rfl, _⟩ := x.done
  have hk₁ := x.toInCall.keep
  obtain ⟨cells, NC, Y⟩ := Cl.news (h₀ := s.heap) (Nat.le_refl _) fun n c hm => ⟨x.cell n c (lookup_of_mem_nodup (cellsFrom_names scope.names 0 (s.heap.objs.size + 1) [] [] rfl ▸ hnd) hm), x.above n c hm⟩
  refine wpAny_mono (h _ s.heap.objs.size h₁ tk cells FG ⟨x.toInCall.ns, fun b o e => hk₁ b o (of_hideAll _ e), Nat.le_of_eq (hideAll_size _ _)⟩ (fun p hp => ?_) Y BG (X₀.keeps st) (T.keeps st) (fun p hp => Heap.lt_size (N p hp).1)) (fun fl s' hl => lv _ _ (kp_leave hrest ha hQ hl)) fun _ _ y => y
  rcases List.mem_append.mp hp with hp | hp
  · refine ⟨(NC p hp).1, (NC p hp).2.1, ?_⟩
    cases q : (hideAll s.heap (mod.map (·.1))).get? p.1 with
    | none => rfl
    | some o => have := of_hideAll _ q; rw [(NC p hp).2.2] at this; cases this
  · exact ⟨hk₁ _ _ (N p hp).1, Nat.ne_of_lt (Heap.lt_size (N p hp).1), hideAll_none _ (List.mem_map_of_mem hp)⟩
end
end Mine

end
section
open PySem PySem.W PySem.Calls PyProof.Rows PySem.Spec
set_option maxRecDepth 100000
namespace Mine

noncomputable abbrev PRG : Program := PySem.Challenge.rw_fp5023_01.row.prog
noncomputable abbrev KK (w : World) : Frag := hd.heap_39 w.params
noncomputable abbrev LO : List Str := looseW hd.view_39 [Str.ofString "DamerauOsa"]

/-- what a call of the def at f does, said for any caller: mod are the caller's objects that it may turn -/
def Ok (w : World) (f : Addr) (args : List Value) (mod : List (Addr × Obj)) (ins : Heap → Prop) (post : Value → List (Addr × Obj) → Prop) : Prop :=
  ∀ (dp un : Nat) (gd : Option (List Code)) (cn : Str) (cs : Scope) (a : Addr) (ccd : Value) (cl : List (Str × Addr)) (outer : List Env) (A₀ : Around) (base h₀ : Heap) (L : Addr)
    (m mg mb : Str → Option Value) (mean : ExcName → Option Value) (s : Shared) (Q E : Value → Shared → Prop) (rest : List (Addr × Obj)),
    Below A₀ base outer h₀ → Fr h₀ L s.heap m → (KK w).In h₀ → News h₀ L s.heap mod → Top hd.view_39 LO mean mg mb h₀ → cs.kind = .function →
    dp + 6 < recursionLimit → un + 60 < cLine → ins h₀ → Kept rest s.heap → Apart mod rest →
    (∀ v h' tk nx, post v nx → Fr h₀ L h' m → News h₀ L h' nx → Kept rest h' → Q v { s with heap := h', toks := tk }) →
    wpAny (model PRG w) (ktrTop dp un gd cn cs L a ccd cl outer) (call (.ref f) args) Q E s

/-- the walk stands still here -/
def Hold (P : Prop) : Prop := P
theorem Hold.out {P : Prop} (h : P) : Hold P := h
theorem Hold.go {P : Prop} (h : P) : Hold P := h
theorem Hold.of {P : Prop} (h : Hold P) : P := h

def RngJ {σ : Type} (Led : σ → List (Addr × Obj)) (ps : σ → List (Str × Value)) (P : Nat → σ → Prop) (i : Nat) (m : Str → Option Value) (nx : List (Addr × Obj)) : Prop :=
  ∃ c : σ, nx = Led c ∧ (∀ p ∈ ps c, m p.1 = some p.2) ∧ P i c

section
variable {prog : Program} {w : World} {A : Around} {E : Value → Shared → Prop} {s : Shared} {env : Env} {h₀ : Heap} {x : Str} {body : List Stmt} {Q : Flow → Shared → Prop}

theorem frB {L : Addr} {h : Heap} {ps : List (Str × Value)} {m : Str → Option Value} (h1 : ∀ p ∈ ps, m p.1 = some p.2) (F : Fr h₀ L h m) : Fr h₀ L h (kstB m ps) := by
  have e : kstB m ps = m := funext fun y => kstB_eq h1 fun _ => rfl
  rw [e]; exact F
theorem frX {L : Addr} {h : Heap} {ps : List (Str × Value)} {m : Str → Option Value} {v : Value} (h1 : ∀ p ∈ ps, m p.1 = some p.2) (F : Fr h₀ L h (fun y => if y = x then some v else m y)) :
    Fr h₀ L h (fun y => if y = x then some v else kstB m ps y) := by
  have e : kstB m ps = m := funext fun y => kstB_eq h1 fun _ => rfl
  rw [e]; exact F

/-- a loop over a range, by an invariant that names every name it wants -/
theorem rng {σ : Type} {r : Addr} {a₀ b₀ d : Int} {t₀ u₀ v₀ : Tok} {n : Nat} {m₀ : Str → Option Value} (Led : σ → List (Addr × Obj)) (ps : σ → List (Str × Value)) (P : Nat → σ → Prop) (c₀ : σ)
    (hh : A.handled = none) (hr : IsRange s.heap r a₀ b₀ d t₀ u₀ v₀) (hsmall : Builtin.Range.small a₀ b₀ d = true) (hn : Builtin.Range.rangeSize a₀ b₀ d = (n : Int)) (F : Fr h₀ env.locals s.heap m₀)
    (N : News h₀ env.locals s.heap (Led c₀)) (hk : ∀ p ∈ ps c₀, m₀ p.1 = some p.2) (hp : P 0 c₀)
    (turn : ∀ (c : σ) (i : Nat) t (u : Str → Option Value) h tk own, i < n → OwnOff own ((Led c₀).map (·.1)) → P i c →
      Fr h₀ env.locals h (fun y => if y = x then some (.int (a₀ + i * d) t) else kstB u (ps c) y) → News h₀ env.locals h (Led c ++ own) →
      wpAny (model prog w) A (execs body env) (InvPostN h₀ env.locals (RngJ Led ps P (i + 1)) own ((Led c₀).map (·.1)) { s with heap := h, toks := tk } Q) E { s with heap := h, toks := tk })
    (done : ∀ (c : σ) (u : Str → Option Value) h tk, P n c → Fr h₀ env.locals h (kstB u (ps c)) → News h₀ env.locals h (Led c) → Q .next { s with heap := h, toks := tk }) :
    wpAny (model prog w) A (pyIter (.ref r)) (fun it s₂ => LoopAtV prog w A h₀ env x body Q E it s₂) E s := by
  refine wpAny_pyIter_range hr hsmall ?_
  have W : Walks prog w A s.heap.objs.size [s.heap.objs.size] [s.heap.objs.size] n (fun i v => i < n ∧ ∃ t, v = .int (a₀ + i * d) t)
      (fun i h => IsRangeIter h s.heap.objs.size (a₀ + (i : Nat) * d) ((n : Int) - (i : Nat)) d) := (Walks.range hh _ a₀ d n).bound
  have lt : ∀ b : Addr, b ∈ [s.heap.objs.size] → b = s.heap.objs.size := fun b hb => List.mem_singleton.mp hb
  refine loop_invN (fun i m nx => RngJ Led ps P i m nx) W ?_ ?_ ?_ ?_ (by show IsRangeIter _ _ _ _ _; rw [hn]; simpa using Heap.get?_push_size _ rfl) (F.push _) (fun p hp => ⟨Heap.get?_push_of_some _ (N p hp).1, (N p hp).2⟩) ⟨c₀, rfl, hk, hp⟩ ?_ ?_
  · exact fun hm => absurd F.ns.lt (lt _ hm ▸ Nat.lt_irrefl _)
  · intro b hb
    rw [lt b hb]
    exact next_is_new F
  · exact fun p hp hI => absurd (Heap.lt_size (N p hp).1) (lt _ hI ▸ Nat.lt_irrefl _)
  · exact fun p hp hI => absurd (Heap.lt_size (N p hp).1) (lt _ hI ▸ Nat.lt_irrefl _)
  · rintro i v m₁ nx h tk own hi ⟨_, t, rfl⟩ _ hoff ⟨c, rfl, h1, hp'⟩ F₁ N₁
    exact turn c i t m₁ h tk own hi hoff hp' (frX h1 F₁) N₁
  · rintro m₁ nx h tk ⟨c, rfl, h1, hp'⟩ F₁ N₁
    exact done c m₁ h tk hp' (frB h1 F₁) N₁

theorem rng_end {σ : Type} {Led : σ → List (Addr × Obj)} {ps : σ → List (Str × Value)} {P : Nat → σ → Prop} {i : Nat} (c : σ) {L : Addr} {m' : Str → Option Value} {own news' : List (Addr × Obj)} {adr : List Addr} {s₁ : Shared} {h' : Heap} {tk : Nat}
    (F : Fr h₀ L h' m') (N : News h₀ L h' news') (hn : ∀ p ∈ Led c, p ∈ news') (ho : ∀ p ∈ own, p ∈ news') (ha : (Led c).map (·.1) = adr) (hk : ∀ p ∈ ps c, m' p.1 = some p.2) (hp : P i c) :
    InvEndN h₀ L (RngJ Led ps P i) own adr s₁ { s₁ with heap := h', toks := tk } := InvEndN.intro F N ⟨c, rfl, hk, hp⟩ ha hn ho
end
end Mine

end
section
namespace Mine

structure InS (α : Type) where
  cur : Int
  lft : Int
  abv : Int
  nxt : Int
  ch2 : α
  cs : List Int
  ps : List Int

section
variable {α : Type} [DecidableEq α]

/-- one turn of the inner loop -/
def inStep (ch1 pch1 : α) (B : Int → α) (i : Int) (st : InS α) (j : Int) : InS α :=
  let lft := st.cs.getD j.toNat 0
  let a := if st.abv < st.lft then st.abv else st.lft
  let b := if lft < a then lft else a
  let cur := if ch1 = B j then st.lft else
    if i ≠ 0 ∧ j ≠ 0 ∧ ch1 = st.ch2 ∧ pch1 = B j ∧ st.nxt + 1 < b + 1 then st.nxt + 1 else b + 1
  { cur := cur, lft := lft, abv := cur, nxt := st.ps.getD j.toNat 0, ch2 := B j, cs := st.cs.set j.toNat cur, ps := st.ps.set j.toNat st.lft }

def inRun (ch1 pch1 : α) (B : Int → α) (i js : Int) (st0 : InS α) : Nat → InS α
  | 0 => st0
  | n + 1 => inStep ch1 pch1 B i (inRun ch1 pch1 B i js st0 n) (js + n)

structure OuS (α : Type) where
  ch : α
  cur : Int
  js : Int
  je : Int
  cs : List Int
  ps : List Int

/-- one turn of the outer loop -/
def ouStep (blank : α) (A B : Int → α) (lb off : Int) (i : Int) (st : OuS α) : OuS α :=
  let js := st.js + (if off < i then 1 else 0)
  let je := st.je + (if st.je < lb then 1 else 0)
  let r := inRun (A i) st.ch B i js { cur := st.cur, lft := i, abv := i, nxt := 0, ch2 := blank, cs := st.cs, ps := st.ps } (je - js).toNat
  { ch := A i, cur := r.cur, js := js, je := je, cs := r.cs, ps := r.ps }

def ouRun (blank : α) (A B : Int → α) (lb off : Int) (st0 : OuS α) : Nat → OuS α
  | 0 => st0
  | n + 1 => ouStep blank A B lb off n (ouRun blank A B lb off st0 n)

/-- the start of the banded reckoning -/
def ouInit (blank : α) (lb bd : Int) (ps : List Int) : OuS α :=
  { ch := blank, cur := 0, js := 0, je := bd, cs := (List.range lb.toNat).map (fun (k : Nat) => if (k : Int) < bd then (k : Int) + 1 else bd + 1), ps := ps }

/-- what the banded reckoning hands back -/
def BandSays (blank : α) (A B : Int → α) (la lb bd : Int) (ps : List Int) (r : Int) : Prop :=
  let S := ouRun blank A B lb (bd - (lb - la)) (ouInit blank lb bd ps)
  (∃ k : Nat, (k : Int) < la ∧ bd < (S (k + 1)).cs.getD ((k : Int) + (lb - la)).toNat 0 ∧ r = -1) ∨
  ((∀ k : Nat, (k : Int) < la → ¬ bd < (S (k + 1)).cs.getD ((k : Int) + (lb - la)).toNat 0) ∧ r = if (S la.toNat).cur ≤ bd then (S la.toNat).cur else -1)
end
end Mine

namespace Mine
section
variable {α : Type} [DecidableEq α]
/-- the fewest edits that make the first p signs of a into the first q of b -/
def osa (a b : Nat → α) : Nat → Nat → Int
  | 0, q => q
  | p + 1, 0 => (p : Int) + 1
  | p + 1, q + 1 =>
    let base := min (min (osa a b p (q + 1) + 1) (osa a b (p + 1) q + 1)) (osa a b p q + if a p = b q then 0 else 1)
    match p, q with
    | p' + 1, q' + 1 => if a (p' + 1) = b q' ∧ a p' = b (q' + 1) then min base (osa a b p' q' + 1) else base
    | _, _ => base
termination_by p q => p + q
end
end Mine

end
section
open PySem PySem.W PySem.Calls PyProof.Rows PySem.Spec
set_option maxRecDepth 100000
namespace Mine
section
variable {prog : Program} {w : World} {A : Around} {E : Value → Shared → Prop} {s : Shared} {h₀ : Heap} {L a : Addr} {m : Str → Option Value} {cn : Str} {cs : Scope} {ccd : Value} {cl : List (Str × Addr)}
theorem frSame {h : Heap} {x : Str} {v : Value} (F : Fr h₀ L h m) (e : m x = some v) : Fr h₀ L h (fun y => if y = x then some v else m y) := by
  have q : (fun y => if y = x then some v else m y) = m := funext fun y => by
    by_cases h : y = x
    · rw [if_pos h, h, e]
    · rw [if_neg h]
  rw [q]; exact F
theorem exec_min {x y : Str} {p1 p2 p3 p4 p5 p6 p7 : Pos} {vx vy : Int} {tx ty : Tok} {news : List (Addr × Obj)} {Q : Flow → Shared → Prop}
    (F : Fr h₀ L s.heap m) (N : News h₀ L s.heap news) (hvx : m x = some (.int vx tx)) (hvy : m y = some (.int vy ty))
    (h : ∀ h' tk' t', Fr h₀ L h' (fun z => if z = y then some (.int (if vx < vy then vx else vy) t') else m z) → News h₀ L h' news → Q .next { s with heap := h', toks := tk' })
    (hk : cs.kind = .function := by rfl) (hx : (envX cn cs L a ccd cl).kindOf x = some .local := by rfl) (hy : (envX cn cs L a ccd cl).kindOf y = some .local := by rfl)
    (hdx : (x == ("__debug__" : Str)) = false := by decide) (hdy : (y == ("__debug__" : Str)) = false := by decide) :
    wpAny (model prog w) A (exec (.If (.Compare (.Name x p1) [.Lt] [.Name y p2] p3) [.Assign [.Name y p4] (.Name x p5) p6] [] p7) (envX cn cs L a ccd cl)) Q E s := by
  refine wpAny_If ?_
  refine wpAny_isTrue_Compare1 ?_
  refine nameX_L F hvx ?_ hk hx hdx
  refine nameX_L F hvy ?_ hk hy hdy
  refine lt_int ?_
  refine wpAny_truthy_bool ?_
  by_cases c : vx < vy
  · rw [if_pos (decide_eq_true c)]
    refine wpAny_execs_cons ?_
    refine wpAny_Assign_Name ?_
    refine nameX_L F hvx ?_ hk hx hdx
    refine storeX_L F N (fun h' F' N' => ?_) hk hy
    refine wpAny_execs_nil ?_
    refine h _ _ tx ?_ N'
    rw [if_pos c]; exact F'
  · rw [if_neg (by simpa using c)]
    refine wpAny_execs_nil ?_
    refine h _ _ ty ?_ N
    rw [if_neg c]; exact frSame F hvy

theorem frOver {h : Heap} {x : Str} {v v' : Value} (F : Fr h₀ L h (fun y => if y = x then some v else (if y = x then some v' else m y))) : Fr h₀ L h (fun y => if y = x then some v else m y) := by
  have q : (fun y => if y = x then some v else (if y = x then some v' else m y)) = (fun y => if y = x then some v else m y) := funext fun y => by
    by_cases h : y = x
    · rw [if_pos h, if_pos h]
    · rw [if_neg h, if_neg h, if_neg h]
  rw [q] at F; exact F

/-- a local name of the def -/
def IsL (cs : Scope) (x : Str) : Prop := cs.names.lookup x = some .local ∧ (x == ("__debug__" : Str)) = false
theorem rd {x : Str} {pos : Pos} {v : Value} {Q : Value → Shared → Prop} (F : Fr h₀ L s.heap m) (hk : cs.kind = .function) (hl : IsL cs x) (hv : m x = some v) (h : Q v s) (hx : (envX cn cs L a ccd cl).kindOf x = cs.names.lookup x := by rfl) :
    wpAny (model prog w) A (eval (.Name x pos) (envX cn cs L a ccd cl)) Q E s := nameX_L F hv h hk (hx.trans hl.1) hl.2
theorem wr {x : Str} {v : Value} {Q : Unit → Shared → Prop} {news : List (Addr × Obj)} (F : Fr h₀ L s.heap m) (N : News h₀ L s.heap news) (hk : cs.kind = .function) (hl : IsL cs x)
    (h : ∀ h', Fr h₀ L h' (fun y => if y = x then some v else m y) → News h₀ L h' news → Q () { s with heap := h', toks := s.toks + 1 }) (hx : (envX cn cs L a ccd cl).kindOf x = cs.names.lookup x := by rfl) :
    wpAny (model prog w) A (storeName (envX cn cs L a ccd cl) x v) Q E s := storeX_L F N h hk (hx.trans hl.1)

theorem exec_tr {cur th i j c1 c2 p1 p2 : Str} {q1 q2 q3 q4 q5 q6 q7 q8 q9 q10 q11 q12 q13 q14 q15 q16 q17 q18 q19 q20 q21 q22 q23 q24 : Pos} {k1 k2 k3 k4 : Nat} {vc vt vi vj : Int} {s1 s2 r1 r2 : Str} {tc tt ti tj u1 u2 u3 u4 : Tok} {news : List (Addr × Obj)} {Q : Flow → Shared → Prop}
    (F : Fr h₀ L s.heap m) (N : News h₀ L s.heap news) (hc : m cur = some (.int vc tc)) (ht : m th = some (.int vt tt)) (hi : m i = some (.int vi ti)) (hj : m j = some (.int vj tj))
    (hc1 : m c1 = some (.str s1 u1)) (hc2 : m c2 = some (.str s2 u2)) (hp1 : m p1 = some (.str r1 u3)) (hp2 : m p2 = some (.str r2 u4))
    (hk : cs.kind = .function) (lc : IsL cs cur) (lt : IsL cs th) (li : IsL cs i) (lj : IsL cs j) (l1 : IsL cs c1) (l2 : IsL cs c2) (l3 : IsL cs p1) (l4 : IsL cs p2)
    (h : ∀ h' tk' t', Fr h₀ L h' (fun z => if z = cur then some (.int (if vi ≠ 0 ∧ vj ≠ 0 ∧ s1 = r2 ∧ r1 = s2 ∧ vt + 1 < vc then vt + 1 else vc) t') else m z) → News h₀ L h' news → Q .next { s with heap := h', toks := tk' }) :
    wpAny (model prog w) A (exec (.If (.BoolOp .And [.Compare (.Name i q1) [.NotEq] [.Constant (.int 0) k1 q2] q3, .Compare (.Name j q4) [.NotEq] [.Constant (.int 0) k2 q5] q6, .Compare (.Name c1 q7) [.Eq] [.Name p2 q8] q9, .Compare (.Name p1 q10) [.Eq] [.Name c2 q11] q12,
      .Compare (.BinOp (.Name th q13) .Add (.Constant (.int 1) k3 q14) q15) [.Lt] [.Name cur q16] q17] q18) [.Assign [.Name cur q19] (.BinOp (.Name th q20) .Add (.Constant (.int 1) k4 q21) q22) q23] [] q24) (envX cn cs L a ccd cl)) Q E s := by
  refine wpAny_If ?_
  have no : ¬ (vi ≠ 0 ∧ vj ≠ 0 ∧ s1 = r2 ∧ r1 = s2 ∧ vt + 1 < vc) → ∀ tk, wpAny (model prog w) A (execs [] (envX cn cs L a ccd cl)) Q E { s with toks := tk } := fun hn tk => by
    refine wpAny_execs_nil (h s.heap tk tc ?_ N)
    rw [if_neg hn]; exact frSame F hc
  refine isTrue_and (wpAny_isTrue_Compare1 ?_)
  refine rd F hk li hi ?_
  refine wpAny_Constant_int ?_
  refine ne_int (wpAny_truthy_bool ?_)
  by_cases h1 : vi ≠ 0
  case neg => rw [if_neg (by simpa using h1), if_neg (by simp)]; exact no (fun x => h1 x.1) _
  rw [if_pos (by simpa using h1)]
  refine isTrue_and (wpAny_isTrue_Compare1 ?_)
  refine rd F hk lj hj ?_
  refine wpAny_Constant_int ?_
  refine ne_int (wpAny_truthy_bool ?_)
  by_cases h2 : vj ≠ 0
  case neg => rw [if_neg (by simpa using h2), if_neg (by simp)]; exact no (fun x => h2 x.2.1) _
  rw [if_pos (by simpa using h2)]
  refine isTrue_and (wpAny_isTrue_Compare1 ?_)
  refine rd F hk l1 hc1 ?_
  refine rd F hk l4 hp2 ?_
  refine PyProof.Rows.eq_str (wpAny_truthy_bool ?_)
  by_cases h3 : s1 = r2
  case neg => rw [if_neg (by simpa using h3), if_neg (by simp)]; exact no (fun x => h3 x.2.2.1) _
  rw [if_pos (by simpa using h3)]
  refine isTrue_and (wpAny_isTrue_Compare1 ?_)
  refine rd F hk l3 hp1 ?_
  refine rd F hk l2 hc2 ?_
  refine PyProof.Rows.eq_str (wpAny_truthy_bool ?_)
  by_cases h4 : r1 = s2
  case neg => rw [if_neg (by simpa using h4), if_neg (by simp)]; exact no (fun x => h4 x.2.2.2.1) _
  rw [if_pos (by simpa using h4)]
  refine isTrue_and (wpAny_isTrue_Compare1 ?_)
  refine wpAny_BinOp ?_
  refine rd F hk lt ht ?_
  refine wpAny_Constant_int ?_
  refine add_int ?_
  refine rd F hk lc hc ?_
  refine lt_int (wpAny_truthy_bool ?_)
  by_cases h5 : vt + 1 < vc
  case neg => rw [if_neg (by simpa using h5), if_neg (by simp)]; exact no (fun x => h5 x.2.2.2.2) _
  rw [if_pos (by simpa using h5)]
  refine isTrue_and_nil ?_
  rw [if_pos rfl]
  refine wpAny_execs_cons ?_
  refine wpAny_Assign_Name ?_
  refine wpAny_BinOp ?_
  refine rd F hk lt ht ?_
  refine wpAny_Constant_int ?_
  refine add_int ?_
  refine wr F N hk lc (fun h' F' N' => ?_)
  have e : (if vi ≠ 0 ∧ vj ≠ 0 ∧ s1 = r2 ∧ r1 = s2 ∧ vt + 1 < vc then vt + 1 else vc) = vt + 1 := if_pos ⟨h1, h2, h3, h4, h5⟩
  rw [e] at h
  exact wpAny_execs_nil (h _ _ _ F' N')

theorem exec_cost {cur abv lft th i j c1 c2 p1 p2 : Str} {g1 g2 g3 g4 g5 g6 g7 f1 f2 f3 f4 f5 f6 f7 e1 e2 e3 e4 e5 e6 e7 q1 q2 q3 q4 q5 q6 q7 q8 q9 q10 q11 q12 q13 q14 q15 q16 q17 q18 q19 q20 q21 q22 q23 q24 : Pos} {k0 k1 k2 k3 k4 : Nat}
    {vc va vl vt vi vj : Int} {s1 s2 r1 r2 : Str} {tc ta tl tt ti tj u1 u2 u3 u4 : Tok} {news : List (Addr × Obj)} {Q : Flow → Shared → Prop}
    (F : Fr h₀ L s.heap m) (N : News h₀ L s.heap news) (hc : m cur = some (.int vc tc)) (ha : m abv = some (.int va ta)) (hl : m lft = some (.int vl tl)) (ht : m th = some (.int vt tt)) (hi : m i = some (.int vi ti)) (hj : m j = some (.int vj tj))
    (hc1 : m c1 = some (.str s1 u1)) (hc2 : m c2 = some (.str s2 u2)) (hp1 : m p1 = some (.str r1 u3)) (hp2 : m p2 = some (.str r2 u4))
    (hk : cs.kind = .function) (lc : IsL cs cur) (la : IsL cs abv) (ll : IsL cs lft) (lt : IsL cs th) (li : IsL cs i) (lj : IsL cs j) (l1 : IsL cs c1) (l2 : IsL cs c2) (l3 : IsL cs p1) (l4 : IsL cs p2)
    (hn : ∀ x ∈ [abv, lft, th, i, j, c1, c2, p1, p2], x ≠ cur)
    (h : ∀ h' tk' t', Fr h₀ L h' (fun z => if z = cur then some (.int (if s1 = s2 then vc else
        (if vi ≠ 0 ∧ vj ≠ 0 ∧ s1 = r2 ∧ r1 = s2 ∧ vt + 1 < (if vl < (if va < vc then va else vc) then vl else (if va < vc then va else vc)) + 1 then vt + 1 else (if vl < (if va < vc then va else vc) then vl else (if va < vc then va else vc)) + 1)) t') else m z) →
      News h₀ L h' news → Q .next { s with heap := h', toks := tk' }) :
    wpAny (model prog w) A (exec (.If (.Compare (.Name c1 e1) [.NotEq] [.Name c2 e2] e3)
      [.If (.Compare (.Name abv g1) [.Lt] [.Name cur g2] g3) [.Assign [.Name cur g4] (.Name abv g5) g6] [] g7,
       .If (.Compare (.Name lft f1) [.Lt] [.Name cur f2] f3) [.Assign [.Name cur f4] (.Name lft f5) f6] [] f7,
       .AugAssign (.Name cur e4) .Add (.Constant (.int 1) k0 e5) e6,
       .If (.BoolOp .And [.Compare (.Name i q1) [.NotEq] [.Constant (.int 0) k1 q2] q3, .Compare (.Name j q4) [.NotEq] [.Constant (.int 0) k2 q5] q6, .Compare (.Name c1 q7) [.Eq] [.Name p2 q8] q9, .Compare (.Name p1 q10) [.Eq] [.Name c2 q11] q12,
      .Compare (.BinOp (.Name th q13) .Add (.Constant (.int 1) k3 q14) q15) [.Lt] [.Name cur q16] q17] q18) [.Assign [.Name cur q19] (.BinOp (.Name th q20) .Add (.Constant (.int 1) k4 q21) q22) q23] [] q24] [] e7) (envX cn cs L a ccd cl)) Q E s := by
  simp only [List.forall_mem_cons, List.not_mem_nil, false_implies, implies_true, and_true] at hn
  obtain ⟨na, nl, nt, ni, nj, n1, n2, n3, n4⟩ := hn
  refine wpAny_If (wpAny_isTrue_Compare1 ?_)
  refine rd F hk l1 hc1 ?_
  refine rd F hk l2 hc2 ?_
  refine PyProof.Rows.ne_str (wpAny_truthy_bool ?_)
  by_cases hs : s1 = s2
  · rw [if_neg (by simpa using hs)]
    refine wpAny_execs_nil (h _ _ tc ?_ N)
    rw [if_pos hs]; exact frSame F hc
  rw [if_pos (by simpa using hs)]
  simp only [if_neg hs] at h
  have hx : ∀ x, (envX cn cs L a ccd cl).kindOf x = cs.names.lookup x := fun x => rfl
  refine wpAny_execs_cons ?_
  refine exec_min F N ha hc (fun h1 k1 t1 F1 N1 => ?_) hk ((hx _).trans la.1) ((hx _).trans lc.1) la.2 lc.2
  refine wpAny_execs_cons ?_
  refine exec_min F1 N1 ((if_neg nl).trans hl) (if_pos rfl) (fun h2 k2 t2 F2 N2 => ?_) hk ((hx _).trans ll.1) ((hx _).trans lc.1) ll.2 lc.2
  replace F2 := frOver F2
  refine wpAny_execs_cons ?_
  refine wpAny_AugAssign_Name ?_
  refine wpAny_loadName_local (v := .int _ _) hk ((hx _).trans lc.1) F2.ns (if_pos rfl) ?_
  refine wpAny_Constant_int ?_
  refine iadd_int ?_
  refine wr F2 N2 hk lc (fun h3 F3 N3 => ?_)
  replace F3 := frOver F3
  refine wpAny_execs_cons ?_
  refine exec_tr F3 N3 (if_pos rfl) ((if_neg nt).trans ht) ((if_neg ni).trans hi) ((if_neg nj).trans hj) ((if_neg n1).trans hc1) ((if_neg n2).trans hc2) ((if_neg n3).trans hp1) ((if_neg n4).trans hp2) hk lc lt li lj l1 l2 l3 l4 (fun h4 k4 t4 F4 N4 => ?_)
  replace F4 := frOver F4
  refine wpAny_execs_nil ?_
  exact h _ _ _ F4 N4
end
end Mine

end
section
open PySem PySem.W PySem.Calls PyProof.Rows PySem.Spec
set_option maxRecDepth 100000
namespace Mine
section
variable {prog : Program} {w : World} {A : Around} {h₀ : Heap} {L : Addr} {m : Str → Option Value} {env : Env} {elt : Expr} {x : Str} {scope : Scope} {cl : List (Str × Addr)} {s : Shared} {S : List (Addr × Obj) → Prop} {P : Nat → Value → Prop} {Fin : List Value → List (Addr × Obj) → Prop}
/-- a comprehension by what holds of its items and of the ledger -/
theorem comp_inv {n : Nat} (J : Nat → List Value → List (Addr × Obj) → Prop)
    (turn : ∀ i v ys news I oI C oC D m₂ h tk (E' : Value → Shared → Prop), i < n → P i v → J i ys news → LCg.NsObj oC m₂ → m₂ x = some v → Fr h₀ L h m → News h₀ L h ((I, oI) :: (C, oC) :: (D, LCg.lst ys) :: news) → LCg.Off3 I C D news → ((@Ne Nat I C) ∧ (@Ne Nat I D) ∧ (@Ne Nat C D)) →
      wpAny (model prog w) A (eval elt (compEnvC scope cl C env)) (LCg.CompEnd h₀ L m { s with heap := h, toks := tk } I oI C oC D (LCg.lst ys) S (fun y news' => J (i + 1) (ys ++ [y]) news')) E' { s with heap := h, toks := tk })
    (fin : ∀ ys news, J n ys news → Fin ys news) : ∀ (k i : Nat) (ys : List Value) (news : List (Addr × Obj)), i + k = n → J i ys news → LCg.CompRest prog w A h₀ L m env elt x scope cl s S P Fin k i ys news
  | 0, i, ys, news, e, hJ => LCg.CompRest.zero (fin ys news ((show i = n by omega) ▸ hJ))
  | k + 1, i, ys, news, e, hJ => by
    refine LCg.CompRest.succ fun v I oI C oC D m₂ h tk E' hv hC hx F N off ne => ?_
    refine wpAny_mono (turn i v ys news I oI C oC D m₂ h tk E' (by omega) hv hJ hC hx F N off ne) (fun y s₂ hq => ?_) fun _ _ e => e
    obtain ⟨h', tk', nw, e', F', N', off', hS, hy⟩ := hq
    exact ⟨h', tk', nw, e', F', N', off', hS, comp_inv J turn fin k (i + 1) _ nw (by omega) hy⟩
end
end Mine

end
section
open PySem PySem.W PySem.Calls PyProof.Rows PySem.Spec
set_option maxRecDepth 100000
namespace Mine
section
variable {prog : Program} {w : World} {A : Around} {s : Shared} {env : Env}
/-- a name that is read without any turn of the state -/
def RdS (prog : Program) (w : World) (A : Around) (env : Env) (s : Shared) (x : Str) (v : Value) : Prop :=
  ∀ (tk : Nat) (pos : Pos) (Q E : Value → Shared → Prop), Q v { s with toks := tk } → wpAny (model prog w) A (eval (.Name x pos) env) Q E { s with toks := tk }
theorem RdS.loc {h₀ : Heap} {L a : Addr} {m : Str → Option Value} {cn : Str} {cs : Scope} {ccd : Value} {cl : List (Str × Addr)} {x : Str} {v : Value} (F : Fr h₀ L s.heap m) (hk : cs.kind = .function) (hl : IsL cs x) (hv : m x = some v) :
    RdS prog w A (envX cn cs L a ccd cl) s x v := fun tk _ _ _ h => rd (s := { s with toks := tk }) F hk hl hv h
theorem RdS.cell {h₀ : Heap} {L a : Addr} {cn : Str} {cs : Scope} {ccd : Value} {cl : List (Str × Addr)} {x : Str} {v : Value} {news : List (Addr × Obj)} {c : Addr} {o : Obj} (N : News h₀ L s.heap news) (hc : cl.lookup x = some c) (hm : (c, o) ∈ news) (hd : o.data = .cell (some v))
    (hk : cs.kind = .function) (hx : cs.names.lookup x = some .cell) (hb : (x == ("__debug__" : Str)) = false) : RdS prog w A (envX cn cs L a ccd cl) s x v :=
  fun tk _ _ _ h => nameX_C (s := { s with toks := tk }) N hc hm hd h hk hx hb

theorem item_at {E : Value → Shared → Prop} {value slice : Expr} {x : Str} {i : Int} {t u : Tok} {Q : Value → Shared → Prop} (h0 : 0 ≤ i) (h1 : i < x.length) (hx : x.length ≤ 1000) (h : ∀ t', Q (.str (Txt.item x i) t') { s with toks := s.toks + 1 })
    (hs : subscripted slice false (.str x t) (.int i u) = operate [.str x t, .int i u] (getItem (.str x t) (.int i u)) := by with_unfolding_all rfl) (hg : ∀ r, letTemporaryGo value (.str x t) r = pure () := by intro _; with_unfolding_all rfl) :
    wpAny (model prog w) A (subscriptTail value slice (.str x t) (.int i u)) Q E s := by
  exact item_str (fitsSsize_of (N := 9223372036854775808) (by omega) (by omega) (Int.le_refl _)) (by omega) (by omega) (fun _ => h _) hs hg

theorem exec_chain {n1 n2 o1 o2 i j : Str} {body : List Stmt} {q1 q2 q3 q4 q5 q6 q7 q8 q9 q10 q11 q12 q13 q14 q15 q16 q17 q18 q19 q20 q21 q22 q23 q24 q25 q26 : Pos} {k1 k2 k3 k4 : Nat} {v1 v2 vi vj : Int} {x y : Str} {u1 u2 u3 u4 ui uj : Tok} {E : Value → Shared → Prop} {Q : Flow → Shared → Prop}
    (r1 : RdS prog w A env s n1 (.int v1 u1)) (r2 : RdS prog w A env s n2 (.int v2 u2)) (r3 : RdS prog w A env s o1 (.str x u3)) (r4 : RdS prog w A env s o2 (.str y u4)) (r5 : RdS prog w A env s i (.int vi ui)) (r6 : RdS prog w A env s j (.int vj uj))
    (hx : x.length ≤ 100) (hy : y.length ≤ 100) (hi : 0 ≤ vi) (hj : 0 ≤ vj) (hi2 : 1 < v1 → vi + 1 < x.length) (hj2 : 1 < v2 → vj + 1 < y.length)
    (h1 : (1 < v1 ∧ 1 < v2 ∧ Txt.item x vi = Txt.item y (vj + 1) ∧ Txt.item x (vi + 1) = Txt.item y vj) → ∀ tk, wpAny (model prog w) A (execs body env) Q E { s with toks := tk })
    (h2 : ¬ (1 < v1 ∧ 1 < v2 ∧ Txt.item x vi = Txt.item y (vj + 1) ∧ Txt.item x (vi + 1) = Txt.item y vj) → ∀ tk, Q .next { s with toks := tk }) :
    wpAny (model prog w) A (exec (.If (.BoolOp .And [.Compare (.Name n1 q1) [.Gt] [.Constant (.int 1) k1 q2] q3, .Compare (.Name n2 q4) [.Gt] [.Constant (.int 1) k2 q5] q6,
      .Compare (.Subscript (.Name o1 q7) (.Name i q8) q9) [.Eq] [.Subscript (.Name o2 q10) (.BinOp (.Name j q11) .Add (.Constant (.int 1) k3 q12) q13) q14] q15,
      .Compare (.Subscript (.Name o1 q16) (.BinOp (.Name i q17) .Add (.Constant (.int 1) k4 q18) q19) q20) [.Eq] [.Subscript (.Name o2 q21) (.Name j q22) q23] q24] q25) body [] q26) env) Q E s := by
  refine wpAny_If ?_
  have no := fun hn tk => wpAny_execs_nil (M := model prog w) (A := A) (E := E) (env := env) (h2 hn tk)
  refine isTrue_and (wpAny_isTrue_Compare1 ?_)
  refine r1 s.toks _ _ _ ?_
  refine wpAny_Constant_int ?_
  refine gt_int (wpAny_truthy_bool ?_)
  by_cases c1 : 1 < v1
  case neg => rw [if_neg (by simpa using c1), if_neg (by simp)]; exact no (fun z => c1 z.1) _
  rw [if_pos (by simpa using c1)]
  refine isTrue_and (wpAny_isTrue_Compare1 ?_)
  refine r2 _ _ _ _ ?_
  refine wpAny_Constant_int ?_
  refine gt_int (wpAny_truthy_bool ?_)
  by_cases c2 : 1 < v2
  case neg => rw [if_neg (by simpa using c2), if_neg (by simp)]; exact no (fun z => c2 z.2.1) _
  rw [if_pos (by simpa using c2)]
  have b1 := hi2 c1
  have b2 := hj2 c2
  refine isTrue_and (wpAny_isTrue_Compare1 ?_)
  refine Subscript_ (r3 _ _ _ _ (r5 _ _ _ _ ?_))
  refine item_at hi (by omega) (by omega) fun t1 => ?_
  refine Subscript_ (r4 _ _ _ _ ?_)
  refine wpAny_BinOp (r6 _ _ _ _ (wpAny_Constant_int (add_int ?_)))
  refine item_at (by omega) (by omega) (by omega) fun t2 => ?_
  refine PyProof.Rows.eq_str (wpAny_truthy_bool ?_)
  by_cases c3 : Txt.item x vi = Txt.item y (vj + 1)
  case neg => rw [if_neg (by simpa using c3), if_neg (by simp)]; exact no (fun z => c3 z.2.2.1) _
  rw [if_pos (by simpa using c3)]
  refine isTrue_and (wpAny_isTrue_Compare1 ?_)
  refine Subscript_ (r3 _ _ _ _ ?_)
  refine wpAny_BinOp (r5 _ _ _ _ (wpAny_Constant_int (add_int ?_)))
  refine item_at (by omega) (by omega) (by omega) fun t3 => ?_
  refine Subscript_ (r4 _ _ _ _ (r6 _ _ _ _ ?_))
  refine item_at hj (by omega) (by omega) fun t4 => ?_
  refine PyProof.Rows.eq_str (wpAny_truthy_bool ?_)
  by_cases c4 : Txt.item x (vi + 1) = Txt.item y vj
  case neg => rw [if_neg (by simpa using c4), if_neg (by simp)]; exact no (fun z => c4 z.2.2.2) _
  rw [if_pos (by simpa using c4)]
  refine isTrue_and_nil ?_
  rw [if_pos rfl]
  exact h1 ⟨c1, c2, c3, c4⟩ _
end
end Mine

end
section
open PySem PySem.W PySem.Calls PyProof.Rows PySem.Spec
set_option maxRecDepth 100000
namespace Mine

def rowsOf (ad : Nat → Addr) (vals : Nat → List Value) (R : Nat) : List (Addr × Obj) := (List.range R).map fun r => (ad r, PySem.W.listOf (vals r).toArray 0)
def refsOf (ad : Nat → Addr) (R : Nat) : List Value := (List.range R).map fun r => Value.ref (ad r)
def Inj (ad : Nat → Addr) (R : Nat) : Prop := ∀ a b, a < R → b < R → ad a = ad b → a = b

theorem rows_mem {ad : Nat → Addr} {vals : Nat → List Value} {R r : Nat} (h : r < R) : (ad r, PySem.W.listOf (vals r).toArray 0) ∈ rowsOf ad vals R := List.mem_map.mpr ⟨r, List.mem_range.mpr h, rfl⟩
theorem refs_get {ad : Nat → Addr} {R r : Nat} (h : r < R) : (refsOf ad R)[r]? = some (.ref (ad r)) := by simp [refsOf, h]
theorem refs_len {ad : Nat → Addr} {R : Nat} : (refsOf ad R).length = R := by simp [refsOf]

theorem upd_map {ad : Nat → Addr} {O : Nat → Obj} {o' : Obj} {i : Nat} {post : List (Addr × Obj)} (hpost : ∀ p ∈ post, p.1 ≠ ad i) :
    ∀ {l : List Nat}, i ∈ l → l.Nodup → (∀ r ∈ l, ad r = ad i → r = i) →
    Upd (ad i) (O i) o' (l.map (fun r => (ad r, O r)) ++ post) (l.map (fun r => (ad r, if r = i then o' else O r)) ++ post)
  | [], hi, _, _ => nomatch hi
  | r :: l, hi, hn, hinj => by
    obtain ⟨hr, hn'⟩ := List.nodup_cons.mp hn
    by_cases e : r = i
    · subst e
      have hm : l.map (fun q => (ad q, if q = r then o' else O q)) = l.map (fun q => (ad q, O q)) := by
        refine List.map_congr_left fun q hq => ?_
        have : q ≠ r := fun e => hr (e ▸ hq)
        rw [if_neg this]
      simp only [List.map_cons, List.cons_append, if_true]
      rw [hm]
      refine Upd.head fun p hp => ?_
      rcases List.mem_append.mp hp with hp | hp
      · obtain ⟨q, hq, rfl⟩ := List.mem_map.mp hp
        intro e
        exact hr (hinj q (.tail _ hq) e ▸ hq)
      · exact hpost p hp
    · simp only [List.map_cons, List.cons_append, if_neg e]
      refine Upd.tail (fun x => e (hinj r (.head _) x)) ?_
      refine upd_map hpost ?_ hn' (fun q hq => hinj q (.tail _ hq))
      rcases List.mem_cons.mp hi with x | x
      · exact absurd x.symm e
      · exact x
theorem upd_rows {ad : Nat → Addr} {vals : Nat → List Value} {R r : Nat} {new : List Value} {post : List (Addr × Obj)} (hpost : ∀ p ∈ post, p.1 ≠ ad r) (hr : r < R) (hinj : Inj ad R) :
    Upd (ad r) (PySem.W.listOf (vals r).toArray 0) (PySem.W.listOf new.toArray 0) (rowsOf ad vals R ++ post) (rowsOf ad (fun q => if q = r then new else vals q) R ++ post) := by
  have h := upd_map (ad := ad) (O := fun q => PySem.W.listOf (vals q).toArray 0) (o' := PySem.W.listOf new.toArray 0) (i := r) hpost (List.mem_range.mpr hr) List.nodup_range (fun q hq e => hinj q r (List.mem_range.mp hq) hr e)
  have e : (fun q => (ad q, PySem.W.listOf ((fun q => if q = r then new else vals q) q).toArray 0)) = fun q => (ad q, if q = r then PySem.W.listOf new.toArray 0 else PySem.W.listOf (vals q).toArray 0) := by
    funext q
    by_cases c : q = r
    · simp only [if_pos c]
    · simp only [if_neg c]
  unfold rowsOf
  rw [e]
  exact h

/-- what the comprehension has made so far -/
def TbQ (W i : Nat) (ys : List Value) (rows : List (Addr × Obj)) : Prop :=
  ∃ ad vals, ys = refsOf ad i ∧ rows = rowsOf ad vals i ∧ Inj ad i ∧ ∀ k, k < i → IntsAre (vals k) (List.replicate W 0)
theorem TbQ.zero {W : Nat} : TbQ W 0 [] [] := ⟨fun _ => 0, fun _ => [], rfl, rfl, fun a _ h => absurd h (Nat.not_lt_zero a), fun k h => absurd h (Nat.not_lt_zero k)⟩
theorem TbQ.step {W i : Nat} {ys v : List Value} {rows : List (Addr × Obj)} {d : Addr} (h : TbQ W i ys rows) (hd : ∀ p ∈ rows, p.1 ≠ d) (hv : IntsAre v (List.replicate W 0)) : TbQ W (i + 1) (ys ++ [.ref d]) (rows ++ [(d, PySem.W.listOf v.toArray 0)]) := by
  obtain ⟨ad, vals, rfl, rfl, hinj, hk⟩ := h
  have hne : ∀ k, k < i → ad k ≠ d := fun k hk => hd _ (rows_mem hk)
  refine ⟨fun k => if k = i then d else ad k, fun k => if k = i then v else vals k, ?_, ?_, ?_, ?_⟩
  · unfold refsOf
    rw [List.range_succ, List.map_append]
    congr 1
    · refine List.map_congr_left fun q hq => ?_
      have : q ≠ i := Nat.ne_of_lt (List.mem_range.mp hq)
      simp only [if_neg this]
    · simp
  · unfold rowsOf
    rw [List.range_succ, List.map_append]
    congr 1
    · refine List.map_congr_left fun q hq => ?_
      have : q ≠ i := Nat.ne_of_lt (List.mem_range.mp hq)
      simp only [if_neg this]
    · simp
  · intro a b ha hb e
    dsimp only at e
    by_cases ca : a = i <;> by_cases cb : b = i
    · rw [ca, cb]
    · rw [if_pos ca, if_neg cb] at e; exact absurd e.symm (hne b (by omega))
    · rw [if_neg ca, if_pos cb] at e; exact absurd e (hne a (by omega))
    · rw [if_neg ca, if_neg cb] at e; exact hinj a b (by omega) (by omega) e
  · intro k hk'
    dsimp only
    by_cases c : k = i
    · rw [if_pos c]; exact hv
    · rw [if_neg c]; exact hk k (by omega)

theorem tb_elt {h₀ h' : Heap} {L Dn t I C D ca : Addr} {ot oI oC co : Obj} {m : Str → Option Value} {s₁ : Shared} {tk W i : Nat} {ys v : List Value} {rows : List (Addr × Obj)} {S : List (Addr × Obj) → Prop} (F : Fr h₀ L h' m)
    (N : News h₀ L h' ((Dn, PySem.W.listOf v.toArray 0) :: (t, ot) :: (I, oI) :: (C, oC) :: (D, LCg.lst ys) :: (ca, co) :: rows)) (hlt : AllLt Dn ((t, ot) :: (I, oI) :: (C, oC) :: (D, LCg.lst ys) :: (ca, co) :: rows))
    (off : LCg.Off3 I C D ((ca, co) :: rows)) (hv : IntsAre v (List.replicate W 0)) (hQ : TbQ W i ys rows) (hca : ∀ p ∈ rows, p.1 ≠ ca) (hS : ∀ l, S l) :
    LCg.CompEnd h₀ L m s₁ I oI C oC D (LCg.lst ys) S (fun y news' => ∃ rows, news' = (ca, co) :: rows ∧ TbQ W (i + 1) (ys ++ [y]) rows ∧ ∀ p ∈ rows, p.1 ≠ ca) (.ref Dn) { s₁ with heap := h', toks := tk } := by
  have lt := kst_ltOf hlt
  refine LCg.CompEnd.intro F N ((ca, co) :: (rows ++ [(Dn, PySem.W.listOf v.toArray 0)])) ?_ ?_ (hS _) ⟨_, rfl, hQ.step (fun p hp => Nat.ne_of_lt (lt p (by simp [hp]))) hv, fun p hp => ?_⟩
  rotate_left 2
  · rcases List.mem_append.mp hp with h | h
    · exact hca p h
    · rw [List.mem_singleton.mp h]; exact Ne.symm (Nat.ne_of_lt (lt (ca, co) (by simp)))
  · intro p hp
    simp only [List.mem_cons, List.mem_append, List.not_mem_nil, or_false] at hp ⊢
    rcases hp with h | h | h | h | h | h <;> simp [h]
  · refine LCg.Off3.of fun p hp => ?_
    simp only [List.mem_cons, List.mem_append, List.not_mem_nil, or_false] at hp
    rcases hp with h | h | h
    · exact off.mem p (by simp [h])
    · exact off.mem p (by simp [h])
    · subst h
      exact ⟨Ne.symm (Nat.ne_of_lt (lt (I, oI) (by simp))), Ne.symm (Nat.ne_of_lt (lt (C, oC) (by simp))), Ne.symm (Nat.ne_of_lt (lt (D, LCg.lst ys) (by simp)))⟩

abbrev tbLed (G ca : Addr) (co : Obj) (kG : Nat) (ad : Nat → Addr) (R : Nat) (own : List (Addr × Obj)) (vals : Nat → List Value) : List (Addr × Obj) :=
  (G, PySem.W.listOf (refsOf ad R).toArray kG) :: (ca, co) :: (rowsOf ad vals R ++ own)

theorem off1_mem {D : Addr} : ∀ {l : List (Addr × Obj)}, LCg.Off1 D l → ∀ p ∈ l, p.1 ≠ D
  | [], _, _, h => nomatch h
  | _ :: _, x, p, h => by
    rcases List.mem_cons.mp h with rfl | h
    · exact x.1
    · exact off1_mem x.2 p h

structure TbS where
  vals : Nat → List Value
  gr : Nat → List Int
def tbA (x : Str) (p : Nat) : Str := Txt.item x ((x.length : Int) - 1 - p)
def tbP (x y : Str) (k q : Nat) (c : TbS) : Prop :=
  (∀ r, r < x.length + 2 → IntsAre (c.vals r) (c.gr r) ∧ (c.gr r).length = y.length + 2) ∧
  (∀ p' q' : Nat, p' ≤ x.length → q' ≤ y.length → (p' < k ∨ (p' = k ∧ q' < q)) → (c.gr (x.length - p')).getD (y.length - q') 0 = osa (tbA x) (tbA y) p' q')
theorem tbP.row {x y : Str} {k : Nat} {c : TbS} (h : tbP x y k (y.length + 1) c) : tbP x y (k + 1) 0 c :=
  ⟨h.1, fun p' q' hp hq hor => h.2 p' q' hp hq (by omega)⟩
theorem tbP.set {x y : Str} {k q r j : Nat} {c : TbS} {v : Int} {u : Tok} (h : tbP x y k q c) (hk : k ≤ x.length) (hq : q ≤ y.length) (hr : r = x.length - k) (hj : j = y.length - q) (hv : v = osa (tbA x) (tbA y) k q)
    (hi : IntsAre ((c.vals r).set j (.int v u)) ((c.gr r).set j v)) :
    tbP x y k (q + 1) ⟨fun z => if z = r then (c.vals r).set j (.int v u) else c.vals z, fun z => if z = r then (c.gr r).set j v else c.gr z⟩ := by
  refine ⟨fun z hz => ?_, fun p' q' hp' hq' hor => ?_⟩
  · dsimp only
    by_cases e : z = r
    · rw [if_pos e, if_pos e]
      exact ⟨hi, (List.length_set ..).trans (e ▸ (h.1 z hz).2)⟩
    · rw [if_neg e, if_neg e]; exact h.1 z hz
  · dsimp only
    by_cases e : x.length - p' = r
    · have ep : p' = k := by omega
      rw [if_pos e]
      by_cases eq : q' = q
      · rw [ep, eq, ← hj, ← hv]
        have hl := (h.1 r (by omega)).2
        rw [List.getD_eq_getElem?_getD, List.getElem?_set_self (by omega)]; rfl
      · have := h.2 p' q' hp' hq' (by omega)
        rw [e] at this
        rw [← this, List.getD_eq_getElem?_getD, List.getD_eq_getElem?_getD, List.getElem?_set_ne (by omega)]
    · rw [if_neg e]
      exact h.2 p' q' hp' hq' (by
        have : p' ≠ k := fun e' => e (by omega)
        omega)

section
variable {prog : Program} {w : World} {A : Around} {E : Value → Shared → Prop} {s : Shared} {h₀ : Heap} {L G ca : Addr} {co : Obj} {kG : Nat} {ad : Nat → Addr} {gv : List Value} {own led tail : List (Addr × Obj)} {m : Str → Option Value} {x y : Str} {k' q' : Nat} {c : TbS}
/-- grid[i] -/
theorem tb_row {value slice : Expr} {k : Int} {u : Tok} {Q : Value → Shared → Prop} (hg9 : gv = refsOf ad (x.length + 2)) (N : News h₀ L s.heap led) (hm : (G, PySem.W.listOf gv.toArray kG) ∈ led) (hx : x.length ≤ 16) (h0 : 0 ≤ k) (h1 : k < x.length + 2) (h : Q (.ref (ad k.toNat)) s)
    (hs : subscripted slice false (.ref G) (.int k u) = operate [.ref G, .int k u] (getItem (.ref G) (.int k u)) := by with_unfolding_all rfl) (hg : ∀ r, letTemporaryGo value (.ref G) r = pure () := by intro _; with_unfolding_all rfl) :
    wpAny (model prog w) A (subscriptTail value slice (.ref G) (.int k u)) Q E s :=
  kim_list N hm rfl rfl h0 (by omega) (by rw [hg9]; exact refs_get (by omega)) h hs hg
/-- grid[i][j] where the row is at hand -/
theorem tb_cell {value slice : Expr} {r : Nat} {k : Int} {u : Tok} {Q : Value → Shared → Prop} (hT : tail = rowsOf ad c.vals (x.length + 2) ++ own) (hP : tbP x y k' q' c) (N : News h₀ L s.heap led) (hm : ∀ p ∈ tail, p ∈ led) (hr : r < x.length + 2) (hy : y.length ≤ 16)
    (h0 : 0 ≤ k) (h1 : k < y.length + 2) (h : ∀ t, Q (.int ((c.gr r).getD k.toNat 0) t) s)
    (hs : subscripted slice false (.ref (ad r)) (.int k u) = operate [.ref (ad r), .int k u] (getItem (.ref (ad r)) (.int k u)) := by with_unfolding_all rfl) :
    wpAny (model prog w) A (subscriptTail value slice (.ref (ad r)) (.int k u)) Q E s := by
  have hl := (hP.1 r hr).2
  exact ksa_sub N (hm _ (hT ▸ List.mem_append_left _ (rows_mem hr))) (hP.1 r hr).1 h0 (by omega) (by omega) h hs
/-- grid[i][j] = v -/
theorem tb_set {r : Nat} {k v : Int} {t u : Tok} {Q : Unit → Shared → Prop} (hT : tail = rowsOf ad c.vals (x.length + 2) ++ own) (hg9 : gv = refsOf ad (x.length + 2)) (hP : tbP x y k' q' c) (F : Fr h₀ L s.heap m) (N : News h₀ L s.heap led) (hsub : ∀ p ∈ (G, PySem.W.listOf gv.toArray kG) :: (ca, co) :: tail, p ∈ led) (hinj : Inj ad (x.length + 2)) (hr : r < x.length + 2) (hy : y.length ≤ 16)
    (hG : ∀ r, r < x.length + 2 → G ≠ ad r) (hc : ∀ r, r < x.length + 2 → ca ≠ ad r) (ho : ∀ r, r < x.length + 2 → ∀ p ∈ own, p.1 ≠ ad r) (h0 : 0 ≤ k) (h1 : k < y.length + 2)
    (h : ∀ h', Fr h₀ L h' m → News h₀ L h' (tbLed G ca co kG ad (x.length + 2) own (fun q => if q = r then (c.vals r).set k.toNat (.int v u) else c.vals q)) → IntsAre ((c.vals r).set k.toNat (.int v u)) ((c.gr r).set k.toNat v) → Q () { s with heap := h' }) :
    wpAny (model prog w) A (setItem (.ref (ad r)) (.int k t) (.int v u)) Q E s := by
  have hl := (hP.1 r hr).2
  subst hT hg9
  exact ksa_set F (fun p hp => N p (hsub p hp)) (.tail (hG r hr) (.tail (hc r hr) (upd_rows (ho r hr) hr hinj))) (hP.1 r hr).1 h0 (by omega) (by omega) fun h' F' N' hi' _ _ => h h' F' N' hi'
end

theorem ite_constB {M : Model} {A : Around} {E : Value → Shared → Prop} {s : Shared} {b : Bool} {x y : Int} {k k' : Nat} {p p' : Pos} {env : Env} {Q : Value → Shared → Prop}
    (h : Q (.int (if b = true then x else y) s.toks) { s with toks := s.toks + 1 }) :
    if b = true then wpAny M A (eval (.Constant (.int x) k p) env) Q E s else wpAny M A (eval (.Constant (.int y) k' p') env) Q E s := by
  by_cases hc : b = true
  · rw [if_pos hc]; rw [if_pos hc] at h; exact wpAny_Constant_int h
  · rw [if_neg hc]; rw [if_neg hc] at h; exact wpAny_Constant_int h
end Mine

end
section
namespace Mine
section
variable {α : Type} [DecidableEq α] (a b : Nat → α)

theorem osa_left (q : Nat) : osa a b 0 q = q := by rw [osa]
theorem osa_right (p : Nat) : osa a b p 0 = p := by cases p <;> rw [osa] <;> simp
def Tr (p q : Nat) : Prop := 0 < p ∧ 0 < q ∧ a p = b (q - 1) ∧ a (p - 1) = b q
def trDec (p q : Nat) : Decidable (Tr a b p q) := by unfold Tr; exact inferInstance
theorem osa_succ (p q : Nat) : osa a b (p + 1) (q + 1) =
    @ite Int (Tr a b p q) (trDec a b p q) (min (min (min (osa a b p (q + 1) + 1) (osa a b (p + 1) q + 1)) (osa a b p q + if a p = b q then 0 else 1)) (osa a b (p - 1) (q - 1) + 1))
      (min (min (osa a b p (q + 1) + 1) (osa a b (p + 1) q + 1)) (osa a b p q + if a p = b q then 0 else 1)) := by
  cases p with
  | zero =>
    rw [if_neg (fun t => absurd t.1 (Nat.lt_irrefl _))]
    conv => lhs; rw [osa]; rfl; (tactic => intro _ _ h; cases h)
  | succ p => cases q with
    | zero =>
      rw [if_neg (fun t => absurd t.2.1 (Nat.lt_irrefl _))]
      conv => lhs; rw [osa]; rfl; (tactic => intro _ _ _ h; cases h)
    | succ q => (conv => lhs; rw [osa]); simp only [Tr, Nat.succ_pos, Nat.add_sub_cancel, true_and]

theorem osa_le_del (p q : Nat) : osa a b (p + 1) q ≤ osa a b p q + 1 := by
  cases q with
  | zero => rw [osa_right, osa_right]; omega
  | succ q => rw [osa_succ]; split <;> omega
theorem osa_le_ins (p q : Nat) : osa a b p (q + 1) ≤ osa a b p q + 1 := by
  cases p with
  | zero => rw [osa_left, osa_left]; omega
  | succ p => rw [osa_succ]; split <;> omega
theorem osa_le_sub (p q : Nat) : osa a b (p + 1) (q + 1) ≤ osa a b p q + 1 := by
  rw [osa_succ]; split <;> split <;> omega
theorem osa_le_eq {p q : Nat} (h : a p = b q) : osa a b (p + 1) (q + 1) ≤ osa a b p q := by
  rw [osa_succ, if_pos h]; split <;> omega
theorem osa_le_tr {p q : Nat} (h : Tr a b p q) : osa a b (p + 1) (q + 1) ≤ osa a b (p - 1) (q - 1) + 1 := by
  rw [osa_succ, if_pos h]; omega
theorem osa_cases (p q : Nat) : osa a b (p + 1) (q + 1) = osa a b p (q + 1) + 1 ∨ osa a b (p + 1) (q + 1) = osa a b (p + 1) q + 1 ∨
    (a p = b q ∧ osa a b (p + 1) (q + 1) = osa a b p q) ∨ (a p ≠ b q ∧ osa a b (p + 1) (q + 1) = osa a b p q + 1) ∨ (Tr a b p q ∧ osa a b (p + 1) (q + 1) = osa a b (p - 1) (q - 1) + 1) := by
  rw [osa_succ]
  by_cases h : a p = b q <;> by_cases t : Tr a b p q <;> simp only [h, t, if_true, if_false, true_and, false_and, not_true_eq_false, not_false_eq_true, ne_eq, false_or, or_false] <;> omega

/-- neighbours differ by one at most -/
theorem osa_near : ∀ (n p q : Nat), p + q ≤ n → osa a b p q ≤ osa a b (p + 1) q + 1 ∧ osa a b p q ≤ osa a b p (q + 1) + 1
  | 0, p, q, h => by
    have hp : p = 0 := by omega
    have hq : q = 0 := by omega
    subst hp; subst hq
    rw [osa_left, osa_right, osa_left]; omega
  | n + 1, p, q, h => by
    constructor
    · cases q with
      | zero => rw [osa_right, osa_right]; omega
      | succ q =>
        have ih := (osa_near n p q (by omega)).1
        have i1 := osa_le_ins a b p q
        rcases osa_cases a b p q with e | e | ⟨_, e⟩ | ⟨_, e⟩ | ⟨t, e⟩
        · omega
        · omega
        · omega
        · omega
        · obtain ⟨hp, hq, _⟩ := t
          obtain ⟨p, rfl⟩ : ∃ p', p = p' + 1 := ⟨p - 1, by omega⟩
          obtain ⟨q, rfl⟩ : ∃ q', q = q' + 1 := ⟨q - 1, by omega⟩
          have := osa_le_sub a b p q
          simp only [Nat.add_sub_cancel] at e
          omega
    · cases p with
      | zero => rw [osa_left, osa_left]; omega
      | succ p =>
        have ih := (osa_near n p q (by omega)).2
        have i1 := osa_le_del a b p q
        rcases osa_cases a b p q with e | e | ⟨_, e⟩ | ⟨_, e⟩ | ⟨t, e⟩
        · omega
        · omega
        · omega
        · omega
        · obtain ⟨hp, hq, _⟩ := t
          obtain ⟨p, rfl⟩ : ∃ p', p = p' + 1 := ⟨p - 1, by omega⟩
          obtain ⟨q, rfl⟩ : ∃ q', q = q' + 1 := ⟨q - 1, by omega⟩
          have := osa_le_sub a b p q
          simp only [Nat.add_sub_cancel] at e
          omega
theorem osa_del_near (p q : Nat) : osa a b p q ≤ osa a b (p + 1) q + 1 := (osa_near a b _ p q (Nat.le_refl _)).1
theorem osa_ins_near (p q : Nat) : osa a b p q ≤ osa a b p (q + 1) + 1 := (osa_near a b _ p q (Nat.le_refl _)).2
/-- along a diagonal it never falls -/
theorem osa_diag (p q : Nat) : osa a b p q ≤ osa a b (p + 1) (q + 1) := by
  have h1 := osa_ins_near a b p q
  have h2 := osa_del_near a b p q
  rcases osa_cases a b p q with e | e | ⟨_, e⟩ | ⟨_, e⟩ | ⟨t, e⟩
  · omega
  · omega
  · omega
  · omega
  · obtain ⟨hp, hq, _⟩ := t
    obtain ⟨p, rfl⟩ : ∃ p', p = p' + 1 := ⟨p - 1, by omega⟩
    obtain ⟨q, rfl⟩ : ∃ q', q = q' + 1 := ⟨q - 1, by omega⟩
    have := osa_le_sub a b p q
    simp only [Nat.add_sub_cancel] at e
    omega
theorem osa_eq {p q : Nat} (h : a p = b q) : osa a b (p + 1) (q + 1) = osa a b p q := by
  have := osa_le_eq a b h
  have := osa_diag a b p q
  omega
theorem osa_diag_add (p q k : Nat) : osa a b p q ≤ osa a b (p + k) (q + k) := by
  induction k with
  | zero => exact Int.le_refl _
  | succ k ih => exact Int.le_trans ih (osa_diag a b (p + k) (q + k))
theorem osa_far : ∀ (n p q : Nat), p + q ≤ n → (p : Int) - q ≤ osa a b p q ∧ (q : Int) - p ≤ osa a b p q ∧ osa a b p q ≤ max p q
  | n, 0, q, h => by rw [osa_left]; omega
  | n, p + 1, 0, h => by rw [osa_right]; omega
  | n, p + 1, q + 1, h => by
    obtain ⟨n, rfl⟩ : ∃ n', n = n' + 1 := ⟨n - 1, by omega⟩
    have h1 := osa_far n p q (by omega)
    have h4 := osa_le_sub a b p q
    have h5 := osa_diag a b p q
    omega
theorem osa_ge1 (p q : Nat) : (p : Int) - q ≤ osa a b p q := (osa_far a b _ p q (Nat.le_refl _)).1
theorem osa_ge2 (p q : Nat) : (q : Int) - p ≤ osa a b p q := (osa_far a b _ p q (Nat.le_refl _)).2.1
theorem osa_le_max (p q : Nat) : osa a b p q ≤ max p q := (osa_far a b _ p q (Nat.le_refl _)).2.2
theorem osa_nonneg (p q : Nat) : 0 ≤ osa a b p q := by
  have := osa_ge1 a b p q
  have := osa_ge2 a b p q
  omega
/-- unlike beginnings cost one edit at least -/
theorem osa_pos (h0 : a 0 ≠ b 0) (p q : Nat) : 1 ≤ osa a b (p + 1) (q + 1) := by
  by_cases h : p ≤ q
  · have h1 := osa_diag_add a b 1 (1 + (q - p)) p
    rw [show 1 + p = p + 1 by omega, show 1 + (q - p) + p = q + 1 by omega] at h1
    have h2 : 1 ≤ osa a b 1 (1 + (q - p)) := by
      by_cases e : q - p = 0
      · rw [e]
        have n1 := osa_nonneg a b 0 1
        have n2 := osa_nonneg a b 1 0
        have n3 := osa_nonneg a b 0 0
        have hc := osa_cases a b 0 0
        simp only [Nat.zero_add, Nat.add_zero] at hc ⊢
        rcases hc with e | e | ⟨h, e⟩ | ⟨_, e⟩ | ⟨t, e⟩
        · omega
        · omega
        · exact absurd h h0
        · omega
        · exact absurd t.1 (Nat.lt_irrefl _)
      · have := osa_ge2 a b 1 (1 + (q - p)); omega
    omega
  · have := osa_ge1 a b (p + 1) (q + 1)
    omega
end
end Mine

end
section
open PySem PySem.W PySem.Calls PyProof.Rows PySem.Spec
set_option maxRecDepth 100000
namespace Mine
theorem rows_addr {ad : Nat → Addr} {vals : Nat → List Value} {R : Nat} : (rowsOf ad vals R).map (·.1) = (List.range R).map ad := by
  unfold rowsOf
  rw [List.map_map]; rfl
theorem tbLed_addr {G ca : Addr} {co : Obj} {kG : Nat} {ad : Nat → Addr} {R : Nat} {own : List (Addr × Obj)} {vals : Nat → List Value} :
    (tbLed G ca co kG ad R own vals).map (·.1) = G :: ca :: ((List.range R).map ad ++ own.map (·.1)) := by
  show _ :: _ :: List.map _ (_ ++ _) = _
  rw [List.map_append, rows_addr]

/-- a turn of the inner loop is done -/
theorem tbI_end {h₀ h' : Heap} {L G ca : Addr} {co : Obj} {kG kG' : Nat} {ad : Nat → Addr} {gv : List Value} {own own' : List (Addr × Obj)} {m' : Str → Option Value} {x y : Str} {k q : Nat} {d : TbS} {v i : Int} {u t1 ti : Tok} {s₁ : Shared} {tk : Nat} {vals0 : Nat → List Value}
    (hP : tbP x y k q d) (hk : k ≤ x.length) (hq : q ≤ y.length) (hgv : gv = refsOf ad (x.length + 2)) (hkG : kG' = kG) (F : Fr h₀ L h' m')
    (N : News h₀ L h' (tbLed G ca co kG' ad (x.length + 2) (own ++ own') (fun z => if z = ((x.length : Int) - k).toNat then (d.vals ((x.length : Int) - k).toNat).set ((y.length : Int) - q).toNat (.int v u) else d.vals z)))
    (hi : IntsAre ((d.vals ((x.length : Int) - k).toNat).set ((y.length : Int) - q).toNat (.int v u)) ((d.gr ((x.length : Int) - k).toNat).set ((y.length : Int) - q).toNat v))
    (e1 : m' (Str.ofString "grid") = some (.ref G)) (e2 : m' (Str.ofString "one") = some (.str x t1)) (e3 : m' (Str.ofString "i") = some (.int i ti)) (hv : v = osa (tbA x) (tbA y) k q) :
    InvEndN h₀ L (RngJ (fun c : TbS × Tok => tbLed G ca co kG ad (x.length + 2) own c.1.vals) (fun c => [(Str.ofString "grid", .ref G), (Str.ofString "one", .str x t1), (Str.ofString "i", .int i c.2)]) (fun q c => tbP x y k q c.1) (q + 1)) own'
      ((tbLed G ca co kG ad (x.length + 2) own vals0).map (·.1)) s₁ { s₁ with heap := h', toks := tk } := by
  subst hgv hkG
  refine rng_end ((⟨fun z => if z = ((x.length : Int) - k).toNat then (d.vals ((x.length : Int) - k).toNat).set ((y.length : Int) - q).toNat (.int v u) else d.vals z,
    fun z => if z = ((x.length : Int) - k).toNat then (d.gr ((x.length : Int) - k).toNat).set ((y.length : Int) - q).toNat v else d.gr z⟩, ti) : TbS × Tok) F N ?_ ?_ ?_ ?_ ?_
  · intro p hp
    simp only [tbLed, List.mem_cons, List.mem_append] at hp ⊢
    rcases hp with h | h | h | h
    · exact .inl h
    · exact .inr (.inl h)
    · exact .inr (.inr (.inl h))
    · exact .inr (.inr (.inr (.inl h)))
  · intro p hp
    simp only [tbLed, List.mem_cons, List.mem_append]
    exact .inr (.inr (.inr (.inr hp)))
  · rw [tbLed_addr, tbLed_addr]
  · exact List.forall_mem_cons.mpr ⟨e1, List.forall_mem_cons.mpr ⟨e2, List.forall_mem_cons.mpr ⟨e3, fun _ h => nomatch h⟩⟩⟩
  · exact hP.set hk hq (by omega) (by omega) hv hi
/-- a turn of the outer loop is done -/
theorem tbO_end {h₀ h' : Heap} {L G ca : Addr} {co : Obj} {kG : Nat} {ad : Nat → Addr} {own own' : List (Addr × Obj)} {m' : Str → Option Value} {x y : Str} {k n : Nat} {d : TbS} {t1 : Tok} {s₁ : Shared} {tk : Nat} {vals0 : Nat → List Value}
    (hP : tbP x y k n d) (hn : n = y.length + 1) (F : Fr h₀ L h' m') (N : News h₀ L h' (tbLed G ca co kG ad (x.length + 2) own d.vals))
    (e1 : m' (Str.ofString "grid") = some (.ref G)) (e2 : m' (Str.ofString "one") = some (.str x t1)) :
    InvEndN h₀ L (RngJ (fun c : TbS => tbLed G ca co kG ad (x.length + 2) [] c.vals) (fun _ => [(Str.ofString "grid", .ref G), (Str.ofString "one", .str x t1)]) (fun k c => tbP x y k 0 c) (k + 1)) own
      ((tbLed G ca co kG ad (x.length + 2) [] vals0).map (·.1)) s₁ { s₁ with heap := h', toks := tk } := by
  subst hn
  refine rng_end d F N ?_ ?_ ?_ ?_ hP.row
  · intro p hp
    simp only [tbLed, List.mem_cons, List.mem_append, List.not_mem_nil, or_false] at hp ⊢
    rcases hp with h | h | h
    · exact .inl h
    · exact .inr (.inl h)
    · exact .inr (.inr (.inl h))
  · intro p hp
    simp only [tbLed, List.mem_cons, List.mem_append]
    exact .inr (.inr (.inr hp))
  · rw [tbLed_addr, tbLed_addr]
  · exact List.forall_mem_cons.mpr ⟨e1, List.forall_mem_cons.mpr ⟨e2, fun _ h => nomatch h⟩⟩

/-- what a cell holds, by the place that the program names -/
theorem tbP.at {x y : Str} {k q : Nat} {d : TbS} (hP : tbP x y k q d) {r j : Int} {p' q' : Nat} (hp : p' ≤ x.length) (hq : q' ≤ y.length) (h : p' < k ∨ (p' = k ∧ q' < q)) (hr : r = (x.length : Int) - p') (hj : j = (y.length : Int) - q') :
    (d.gr r.toNat).getD j.toNat 0 = osa (tbA x) (tbA y) p' q' := by
  have := hP.2 p' q' hp hq h
  rw [← this, show r.toNat = x.length - p' by omega, show j.toNat = y.length - q' by omega]
theorem tb_edge {x y : Str} {k q : Nat} (h : k = 0 ∨ q = 0) : (x.length : Int) - ((x.length : Int) - k) + ((y.length : Int) - ((y.length : Int) - q)) = osa (tbA x) (tbA y) k q := by
  rcases h with rfl | rfl
  · rw [osa_left]; omega
  · rw [osa_right]; omega
theorem tb_same {x y : Str} {k q : Nat} : (Txt.item x ((x.length : Int) - (k + 1 : Nat)) = Txt.item y ((y.length : Int) - (q + 1 : Nat))) ↔ tbA x k = tbA y q := by
  unfold tbA
  rw [show (x.length : Int) - (k + 1 : Nat) = x.length - 1 - k by omega, show (y.length : Int) - (q + 1 : Nat) = y.length - 1 - q by omega]
theorem tb_tr {x y : Str} {k q : Nat} : (1 < (x.length : Int) - (x.length - (k + 1 : Nat)) ∧ 1 < (y.length : Int) - (y.length - (q + 1 : Nat)) ∧ Txt.item x (x.length - (k + 1 : Nat)) = Txt.item y (y.length - (q + 1 : Nat) + 1) ∧ Txt.item x (x.length - (k + 1 : Nat) + 1) = Txt.item y (y.length - (q + 1 : Nat)))
    ↔ Tr (tbA x) (tbA y) k q := by
  unfold Tr tbA
  constructor
  · rintro ⟨a, b, c, d⟩
    refine ⟨by omega, by omega, ?_, ?_⟩
    · rw [show (x.length : Int) - 1 - k = x.length - (k + 1 : Nat) by omega, show (y.length : Int) - 1 - ((q - 1 : Nat) : Int) = y.length - (q + 1 : Nat) + 1 by omega]; exact c
    · rw [show (y.length : Int) - 1 - q = y.length - (q + 1 : Nat) by omega, show (x.length : Int) - 1 - ((k - 1 : Nat) : Int) = x.length - (k + 1 : Nat) + 1 by omega]; exact d
  · rintro ⟨a, b, c, d⟩
    refine ⟨by omega, by omega, ?_, ?_⟩
    · rw [show (x.length : Int) - 1 - k = x.length - (k + 1 : Nat) by omega, show (y.length : Int) - 1 - ((q - 1 : Nat) : Int) = y.length - (q + 1 : Nat) + 1 by omega] at c; exact c
    · rw [show (y.length : Int) - 1 - q = y.length - (q + 1 : Nat) by omega, show (x.length : Int) - 1 - ((k - 1 : Nat) : Int) = x.length - (k + 1 : Nat) + 1 by omega] at d; exact d
theorem tb_v1 {x y : Str} {k q : Nat} {d : TbS} {M : Int} (hP : tbP x y k q d) (hk : k ≤ x.length) (hq : q ≤ y.length) (hk0 : (x.length : Int) - (x.length - k) ≠ 0) (hq0 : (y.length : Int) - (y.length - q) ≠ 0)
    (hc : 1 < (x.length : Int) - (x.length - k) ∧ 1 < (y.length : Int) - (y.length - q) ∧ Txt.item x (x.length - k) = Txt.item y (y.length - q + 1) ∧ Txt.item x (x.length - k + 1) = Txt.item y (y.length - q))
    (ha : M = (d.gr ((x.length : Int) - k + 1).toNat).getD ((y.length : Int) - q).toNat 0 + 1 ∨ M = (d.gr ((x.length : Int) - k).toNat).getD ((y.length : Int) - q + 1).toNat 0 + 1 ∨
      (M = (d.gr ((x.length : Int) - k + 1).toNat).getD ((y.length : Int) - q + 1).toNat 0 + if (Txt.item x ((x.length : Int) - k) == Txt.item y ((y.length : Int) - q)) = true then 0 else 1) ∨ M = (d.gr ((x.length : Int) - k + 2).toNat).getD ((y.length : Int) - q + 2).toNat 0 + 1)
    (hb : M ≤ (d.gr ((x.length : Int) - k + 1).toNat).getD ((y.length : Int) - q).toNat 0 + 1 ∧ M ≤ (d.gr ((x.length : Int) - k).toNat).getD ((y.length : Int) - q + 1).toNat 0 + 1 ∧
      (M ≤ (d.gr ((x.length : Int) - k + 1).toNat).getD ((y.length : Int) - q + 1).toNat 0 + if (Txt.item x ((x.length : Int) - k) == Txt.item y ((y.length : Int) - q)) = true then 0 else 1) ∧ M ≤ (d.gr ((x.length : Int) - k + 2).toNat).getD ((y.length : Int) - q + 2).toNat 0 + 1) :
    M = osa (tbA x) (tbA y) k q := by
  obtain ⟨k, rfl⟩ : ∃ k', k = k' + 1 := ⟨k - 1, by omega⟩
  obtain ⟨q, rfl⟩ : ∃ q', q = q' + 1 := ⟨q - 1, by omega⟩
  have hT := tb_tr.mp hc
  have t1 := hT.1
  have t2 := hT.2.1
  rw [hP.at (p' := k) (q' := q + 1) (by omega) hq (by omega) (by omega) rfl, hP.at (p' := k + 1) (q' := q) hk (by omega) (by omega) rfl (by omega), hP.at (p' := k) (q' := q) (by omega) (by omega) (by omega) (by omega) (by omega),
    hP.at (p' := k - 1) (q' := q - 1) (by omega) (by omega) (by omega) (by omega) (by omega)] at ha hb
  simp only [beq_iff_eq, tb_same] at ha hb
  rw [osa_succ, if_pos hT]
  omega
theorem tb_v2 {x y : Str} {k q : Nat} {d : TbS} {M : Int} (hP : tbP x y k q d) (hk : k ≤ x.length) (hq : q ≤ y.length) (hk0 : (x.length : Int) - (x.length - k) ≠ 0) (hq0 : (y.length : Int) - (y.length - q) ≠ 0)
    (hc : ¬ (1 < (x.length : Int) - (x.length - k) ∧ 1 < (y.length : Int) - (y.length - q) ∧ Txt.item x (x.length - k) = Txt.item y (y.length - q + 1) ∧ Txt.item x (x.length - k + 1) = Txt.item y (y.length - q)))
    (ha : M = (d.gr ((x.length : Int) - k + 1).toNat).getD ((y.length : Int) - q).toNat 0 + 1 ∨ M = (d.gr ((x.length : Int) - k).toNat).getD ((y.length : Int) - q + 1).toNat 0 + 1 ∨
      (M = (d.gr ((x.length : Int) - k + 1).toNat).getD ((y.length : Int) - q + 1).toNat 0 + if (Txt.item x ((x.length : Int) - k) == Txt.item y ((y.length : Int) - q)) = true then 0 else 1))
    (hb : M ≤ (d.gr ((x.length : Int) - k + 1).toNat).getD ((y.length : Int) - q).toNat 0 + 1 ∧ M ≤ (d.gr ((x.length : Int) - k).toNat).getD ((y.length : Int) - q + 1).toNat 0 + 1 ∧
      (M ≤ (d.gr ((x.length : Int) - k + 1).toNat).getD ((y.length : Int) - q + 1).toNat 0 + if (Txt.item x ((x.length : Int) - k) == Txt.item y ((y.length : Int) - q)) = true then 0 else 1)) :
    M = osa (tbA x) (tbA y) k q := by
  obtain ⟨k, rfl⟩ : ∃ k', k = k' + 1 := ⟨k - 1, by omega⟩
  obtain ⟨q, rfl⟩ : ∃ q', q = q' + 1 := ⟨q - 1, by omega⟩
  have hT : ¬ Tr (tbA x) (tbA y) k q := fun h => hc (tb_tr.mpr h)
  rw [hP.at (p' := k) (q' := q + 1) (by omega) hq (by omega) (by omega) rfl, hP.at (p' := k + 1) (q' := q) hk (by omega) (by omega) rfl (by omega), hP.at (p' := k) (q' := q) (by omega) (by omega) (by omega) (by omega) (by omega)] at ha hb
  simp only [beq_iff_eq, tb_same] at ha hb
  rw [osa_succ, if_neg hT]
  omega
end Mine

end
section
open PySem PySem.W PySem.Calls PyProof.Rows PySem.Spec
set_option maxRecDepth 100000
namespace Mine
/-- as Ok, with room for calls below -/
def Ok2 (rd ru : Nat) (w : World) (f : Addr) (args : List Value) (mod : List (Addr × Obj)) (ins : Heap → Prop) (post : Value → List (Addr × Obj) → Prop) : Prop :=
  ∀ (dp un : Nat) (gd : Option (List Code)) (cn : Str) (cs : Scope) (a : Addr) (ccd : Value) (cl : List (Str × Addr)) (outer : List Env) (A₀ : Around) (base h₀ : Heap) (L : Addr)
    (m mg mb : Str → Option Value) (mean : ExcName → Option Value) (s : Shared) (Q E : Value → Shared → Prop) (rest : List (Addr × Obj)),
    Below A₀ base outer h₀ → Fr h₀ L s.heap m → (KK w).In h₀ → News h₀ L s.heap mod → Top hd.view_39 LO mean mg mb h₀ → cs.kind = .function →
    dp + rd < recursionLimit → un + ru < cLine → ins base → Kept rest s.heap → Apart mod rest →
    (∀ v h' tk nx, post v nx → Fr h₀ L h' m → News h₀ L h' nx → Kept rest h' → Q v { s with heap := h', toks := tk }) →
    wpAny (model PRG w) (ktrTop dp un gd cn cs L a ccd cl outer) (call (.ref f) args) Q E s

theorem kept_news {h₀ h' : Heap} {L : Addr} {s : Shared} {led nx rest : List (Addr × Obj)} (N : News h₀ L s.heap led) (hr : ∀ p ∈ rest, p ∈ led) (N' : News h₀ L h' nx) (k : Kept rest h') : News h₀ L h' (nx ++ rest) := fun p hp =>
  (List.mem_append.mp hp).elim (fun h => N' p h) fun h => ⟨k p h, (N p (hr p h)).2⟩
section
variable {w : World} {f : Addr} {args : List Value} {mod led : List (Addr × Obj)} {ins : Heap → Prop} {post : Value → List (Addr × Obj) → Prop}
  {dp un : Nat} {gd : Option (List Code)} {cn : Str} {cs : Scope} {a : Addr} {ccd : Value} {cl : List (Str × Addr)} {outer : List Env} {A₀ : Around} {base h₀ : Heap} {L : Addr}
    {m mg mb : Str → Option Value} {mean : ExcName → Option Value} {s : Shared} {Q E : Value → Shared → Prop}
theorem Ok.at (H : Ok w f args mod ins post) (rest : List (Addr × Obj)) (B : Below A₀ base outer h₀) (F : Fr h₀ L s.heap m) (X : (KK w).In h₀) (N : News h₀ L s.heap led) (T : Top hd.view_39 LO mean mg mb h₀) (hk : cs.kind = .function)
    (hd : dp + 6 < recursionLimit) (hu : un + 60 < cLine) (hi : ins h₀) (hm : ∀ p ∈ mod, p ∈ led) (hr : ∀ p ∈ rest, p ∈ led) (ha : Apart mod rest)
    (h : ∀ v h' tk nx, post v nx → Fr h₀ L h' m → News h₀ L h' (nx ++ rest) → Q v { s with heap := h', toks := tk }) : wpAny (model PRG w) (ktrTop dp un gd cn cs L a ccd cl outer) (call (.ref f) args) Q E s :=
  H _ _ _ _ _ _ _ _ _ _ _ _ _ _ _ _ _ _ _ _ rest B F X (fun p hp => N p (hm p hp)) T hk hd hu hi (fun p hp => (N p (hr p hp)).1) ha fun v h' tk nx hp F' N' k => h v h' tk nx hp F' (kept_news N hr N' k)
theorem Ok2.at {rd ru : Nat} (H : Ok2 rd ru w f args mod ins post) (rest : List (Addr × Obj)) (B : Below A₀ base outer h₀) (F : Fr h₀ L s.heap m) (X : (KK w).In h₀) (N : News h₀ L s.heap led) (T : Top hd.view_39 LO mean mg mb h₀) (hk : cs.kind = .function)
    (hd : dp + rd < recursionLimit) (hu : un + ru < cLine) (hi : ins base) (hm : ∀ p ∈ mod, p ∈ led) (hr : ∀ p ∈ rest, p ∈ led) (ha : Apart mod rest)
    (h : ∀ v h' tk nx, post v nx → Fr h₀ L h' m → News h₀ L h' (nx ++ rest) → Q v { s with heap := h', toks := tk }) : wpAny (model PRG w) (ktrTop dp un gd cn cs L a ccd cl outer) (call (.ref f) args) Q E s :=
  H _ _ _ _ _ _ _ _ _ _ _ _ _ _ _ _ _ _ _ _ rest B F X (fun p hp => N p (hm p hp)) T hk hd hu hi (fun p hp => (N p (hr p hp)).1) ha fun v h' tk nx hp F' N' k => h v h' tk nx hp F' (kept_news N hr N' k)
end
theorem rm_d {dp un : Nat} {gd : Option (List Code)} {cn : Str} {cs : Scope} {L a : Addr} {ccd : Value} {cl : List (Str × Addr)} {outer : List Env} : (ktrTop dp un gd cn cs L a ccd cl outer).depth = dp := rfl
theorem rm_u {dp un : Nat} {gd : Option (List Code)} {cn : Str} {cs : Scope} {L a : Addr} {ccd : Value} {cl : List (Str × Addr)} {outer : List Env} : (ktrTop dp un gd cn cs L a ccd cl outer).units = un := rfl
section
variable {prog : Program} {w : World} {A : Around} {E : Value → Shared → Prop} {Q : Flow → Shared → Prop} {s : Shared} {env : Env} {h₀ : Heap} {L : Addr}
def WhlEnd {σ : Type} (h₀ : Heap) (L : Addr) (s : Shared) (Led : σ → List (Addr × Obj)) (ps : σ → List (Str × Value)) (P : σ → Prop) (μ : σ → Nat) (n : Nat) (s₂ : Shared) : Prop :=
  ∃ (c' : σ) (h' : Heap) (tk : Nat) (m' : Str → Option Value), s₂ = { s with heap := h', toks := tk } ∧ Fr h₀ L h' m' ∧ News h₀ L h' (Led c') ∧ (∀ p ∈ ps c', m' p.1 = some p.2) ∧ P c' ∧ μ c' < n
def WhlPost {σ : Type} (h₀ : Heap) (L : Addr) (s : Shared) (Led : σ → List (Addr × Obj)) (ps : σ → List (Str × Value)) (P : σ → Prop) (μ : σ → Nat) (Q : Flow → Shared → Prop) (n : Nat) (f : Flow) (s₂ : Shared) : Prop :=
  match f with
  | .ret v => Q (.ret v) s₂
  | .brk => Q .next s₂
  | _ => WhlEnd h₀ L s Led ps P μ n s₂
theorem whl_end {σ : Type} {Led : σ → List (Addr × Obj)} {ps : σ → List (Str × Value)} {P : σ → Prop} {μ : σ → Nat} {n : Nat} {h' : Heap} {tk : Nat} {m' : Str → Option Value} (c' : σ) (F : Fr h₀ L h' m') (N : News h₀ L h' (Led c')) (hk : ∀ p ∈ ps c', m' p.1 = some p.2) (hp : P c') (hm : μ c' < n) :
    WhlEnd h₀ L s Led ps P μ n { s with heap := h', toks := tk } := ⟨c', h', tk, m', rfl, F, N, hk, hp, hm⟩
theorem whl {σ : Type} {test : Expr} {body : List Stmt} {pos : Pos} {m₀ : Str → Option Value} (Led : σ → List (Addr × Obj)) (ps : σ → List (Str × Value)) (P : σ → Prop) (μ : σ → Nat) (c₀ : σ)
    (F : Fr h₀ L s.heap m₀) (N : News h₀ L s.heap (Led c₀)) (hk : ∀ p ∈ ps c₀, m₀ p.1 = some p.2) (hp : P c₀)
    (turn : ∀ (c : σ) (u : Str → Option Value) h tk, P c → Fr h₀ L h (kstB u (ps c)) → News h₀ L h (Led c) →
      wpAny (model prog w) A (isTrue test env (eval test env)) (fun b s₂ =>
        if b = true then wpAny (model prog w) A (execs body env) (WhlPost h₀ L s Led ps P μ Q (μ c)) E s₂ else Q .next s₂) E { s with heap := h, toks := tk })
    (hE : PassesOwn (model prog w) A env E := by passes_own) :
    wpAny (model prog w) A (exec (.While test body [] pos) env) Q E s := by
  refine While_inv2 (fun n m nx => ∃ c : σ, nx = Led c ∧ μ c = n ∧ (∀ p ∈ ps c, m p.1 = some p.2) ∧ P c) F N ⟨c₀, rfl, rfl, hk, hp⟩ ?_ hE
  rintro n m₁ nx h tk F₁ N₁ ⟨c, rfl, rfl, h1, hp'⟩
  refine wpAny_mono (turn c m₁ h tk hp' (frB h1 F₁) N₁) (fun b s₂ p => ?_) fun _ _ x => x
  cases b with
  | false => simpa using p
  | true =>
    simp only [if_true] at p ⊢
    refine wpAny_mono p (fun f s₃ q => ?_) fun _ _ x => x
    cases f with
    | ret v => exact q
    | brk => exact q
    | next =>
      obtain ⟨c', h', tk', m', rfl, F', N', hk9, hp9, hm9⟩ := q
      exact ⟨h', tk', m', Led c', μ c', rfl, F', N', hm9, c', rfl, rfl, hk9, hp9⟩
    | cont =>
      obtain ⟨c', h', tk', m', rfl, F', N', hk9, hp9, hm9⟩ := q
      exact ⟨h', tk', m', Led c', μ c', rfl, F', N', hm9, c', rfl, rfl, hk9, hp9⟩
end
end Mine

end
section
namespace Mine
theorem getD_self {l : List Int} {i : Nat} {v : Int} (h : i < l.length) : (l.set i v).getD i 0 = v := by
  rw [List.getD_eq_getElem?_getD, List.getElem?_set_self h]; rfl
theorem getD_ne {l : List Int} {i j : Nat} {v : Int} (h : i ≠ j) : (l.set i v).getD j 0 = l.getD j 0 := by
  rw [List.getD_eq_getElem?_getD, List.getD_eq_getElem?_getD, List.getElem?_set_ne h]

section
variable {α : Type} [DecidableEq α]

/-- the least that the rest of a way must cost -/
def rem (n1 n2 p q : Nat) : Int := max ((n2 : Int) - n1 - q + p) (-((n2 : Int) - n1 - q + p))
/-- a cell's value is right as far as it matters -/
def Okc (a b : Nat → α) (n1 n2 bd p q : Nat) (v : Int) : Prop :=
  (osa a b p q ≤ v ∨ (bd : Int) + 1 ≤ v + rem n1 n2 p q) ∧ (osa a b p q + rem n1 n2 p q ≤ bd → v ≤ osa a b p q)

variable {a b : Nat → α} {n1 n2 bd : Nat}

theorem ok_edge (h0 : a 0 ≠ b 0) (hbd : n2 ≤ bd + n1) {i js : Nat} (h : js = 0 ∨ (js + bd + n1 = i + n2)) (hle : n1 ≤ n2) : Okc a b n1 n2 bd i js i := by
  rcases Nat.eq_zero_or_pos js with e | e
  · subst e
    rw [Okc, osa_right]
    omega
  · have h' : js + bd + n1 = i + n2 := by omega
    have hm := osa_le_max a b i js
    obtain ⟨j, rfl⟩ : ∃ j, js = j + 1 := ⟨js - 1, by omega⟩
    obtain ⟨p, rfl⟩ : ∃ p, i = p + 1 := ⟨i - 1, by omega⟩
    have hp := osa_pos a b h0 p j
    refine ⟨.inl (by omega), fun h => ?_⟩
    have hr : rem n1 n2 (p + 1) (j + 1) = bd := by unfold rem; omega
    omega
theorem ok_beyond {i q : Nat} (h : i + bd + 1 ≤ q) : Okc a b n1 n2 bd i q ((bd : Int) + 1) := by
  have := osa_ge2 a b i q
  have hr : 0 ≤ rem n1 n2 i q := by unfold rem; omega
  exact ⟨.inr (by omega), fun h => by omega⟩
theorem ok_start {q : Nat} : Okc a b n1 n2 bd 0 q q := by
  rw [Okc, osa_left]; exact ⟨.inl (Int.le_refl _), fun _ => Int.le_refl _⟩

theorem cell_ok (h0 : a 0 ≠ b 0) (hbd : n2 ≤ bd + n1) (hle : n1 ≤ n2) {i j : Nat} {v0 v1 va vt m : Int} {p1 p2 : α} (k0 : Okc a b n1 n2 bd i j v0) (k1 : Okc a b n1 n2 bd i (j + 1) v1)
    (hc : (va = v0 ∧ vt = 0 ∧ (j = 0 ∨ j + bd + n1 = i + n2)) ∨ (Okc a b n1 n2 bd (i + 1) j va ∧ 0 < j ∧ p2 = b (j - 1) ∧ (i ≠ 0 → Okc a b n1 n2 bd (i - 1) (j - 1) vt)))
    (hp1 : i ≠ 0 → p1 = a (i - 1)) (hm : m = if v1 < (if va < v0 then va else v0) then v1 else (if va < v0 then va else v0)) :
    Okc a b n1 n2 bd (i + 1) (j + 1) (if a i = b j then v0 else if (i : Int) ≠ 0 ∧ (j : Int) ≠ 0 ∧ a i = p2 ∧ p1 = b j ∧ vt + 1 < m + 1 then vt + 1 else m + 1) := by
  have r0 : rem n1 n2 (i + 1) (j + 1) = rem n1 n2 i j := by unfold rem; omega
  have r1 : rem n1 n2 i (j + 1) ≤ rem n1 n2 (i + 1) (j + 1) + 1 ∧ rem n1 n2 (i + 1) (j + 1) ≤ rem n1 n2 i (j + 1) + 1 := by unfold rem; omega
  have r2 : rem n1 n2 (i + 1) j ≤ rem n1 n2 (i + 1) (j + 1) + 1 ∧ rem n1 n2 (i + 1) (j + 1) ≤ rem n1 n2 (i + 1) j + 1 := by unfold rem; omega
  have r3 : i ≠ 0 → j ≠ 0 → rem n1 n2 (i - 1) (j - 1) = rem n1 n2 (i + 1) (j + 1) := by unfold rem; omega
  have rd : j + bd + n1 = i + n2 → rem n1 n2 (i + 1) (j + 1) = bd := by unfold rem; omega
  have hpos := osa_pos a b h0 i j
  have d1 := osa_le_del a b i (j + 1)
  have d2 := osa_le_ins a b (i + 1) j
  have d3 := osa_le_sub a b i j
  obtain ⟨k0l, k0u⟩ := k0
  obtain ⟨k1l, k1u⟩ := k1
  have hmle : m ≤ v0 ∧ m ≤ v1 ∧ m ≤ va := by rw [hm]; split <;> split <;> omega
  have hmis : m = v0 ∨ m = v1 ∨ m = va := by rw [hm]; split <;> split <;> omega
  by_cases e : a i = b j
  · rw [if_pos e, Okc, osa_eq a b e, r0]
    exact ⟨k0l, k0u⟩
  rw [if_neg e]
  generalize hR : rem n1 n2 (i + 1) (j + 1) = R at *
  generalize hV : (if (i : Int) ≠ 0 ∧ (j : Int) ≠ 0 ∧ a i = p2 ∧ p1 = b j ∧ vt + 1 < m + 1 then vt + 1 else m + 1) = V
  have hVm : V ≤ m + 1 := by rw [← hV]; split <;> omega
  have hVc : V = m + 1 ∨ (V = vt + 1 ∧ i ≠ 0 ∧ j ≠ 0 ∧ a i = p2 ∧ p1 = b j) := by
    by_cases c : (i : Int) ≠ 0 ∧ (j : Int) ≠ 0 ∧ a i = p2 ∧ p1 = b j ∧ vt + 1 < m + 1
    · rw [if_pos c] at hV
      exact .inr ⟨hV.symm, by omega, by omega, c.2.2.1, c.2.2.2.1⟩
    · rw [if_neg c] at hV
      exact .inl hV.symm
  refine ⟨?_, fun hu => ?_⟩
  · rw [hR]
    rcases hVc with hv | ⟨hv, hi, hj, e1, e2⟩
    · rcases hmis with em | em | em
      · rcases k0l with k | k <;> omega
      · rcases k1l with k | k <;> omega
      · rcases hc with ⟨ea, _, _⟩ | ⟨⟨kl, _⟩, _⟩
        · rcases k0l with k | k <;> omega
        · rcases kl with k | k <;> omega
    · rcases hc with ⟨_, et, ej⟩ | ⟨_, hj', ep, kt⟩
      · have := rd (by omega); omega
      · have htr : Tr a b i j := ⟨by omega, by omega, e1.trans ep, (hp1 hi).symm.trans e2⟩
        have := osa_le_tr a b htr
        have hr3 := r3 hi hj
        rcases (kt hi).1 with k | k <;> omega
  · rw [hR] at hu
    have hbig : ¬ (j + bd + n1 = i + n2) := fun x => by have := rd x; omega
    rcases osa_cases a b i j with c | c | ⟨c, _⟩ | ⟨_, c⟩ | ⟨t, c⟩
    · have := k1u (by omega); omega
    · rcases hc with ⟨_, _, ej⟩ | ⟨⟨_, ku⟩, _⟩
      · have ej0 : j = 0 := by omega
        subst ej0
        rw [osa_right] at c d2
        rw [osa_right] at d3
        omega
      · have := ku (by omega); omega
    · exact absurd c e
    · have := k0u (by omega); omega
    · obtain ⟨ti, tj, t1, t2⟩ := t
      rcases hc with ⟨_, _, ej⟩ | ⟨_, hj', ep, kt⟩
      · omega
      · have hi : i ≠ 0 := by omega
        have hr3 := r3 hi (by omega)
        have hvt := (kt hi).2 (by omega)
        by_cases c : vt + 1 < m + 1
        · rw [if_pos ⟨by omega, by omega, t1.trans ep.symm, (hp1 hi).trans t2, c⟩] at hV
          omega
        · omega
end
end Mine

end
section
namespace Mine
section
variable {α : Type} [DecidableEq α] {a b : Nat → α} {n1 n2 bd : Nat} {A B : Int → α} {blank : α}

/-- what holds in the midst of a row -/
structure InInv (a b : Nat → α) (n1 n2 bd np i js jp : Nat) (st0 : InS α) (t : Nat) (st : InS α) : Prop where
  lcs : st.cs.length = n2
  lps : st.ps.length = np
  head : t = 0 → st.abv = i ∧ st.lft = i ∧ st.nxt = 0
  abv : t ≠ 0 → Okc a b n1 n2 bd (i + 1) (js + t) st.abv
  lft : t ≠ 0 → Okc a b n1 n2 bd i (js + t) st.lft
  ch2 : t ≠ 0 → st.ch2 = b (js + t - 1)
  nxt : t ≠ 0 → i ≠ 0 → js + t - 1 < jp → Okc a b n1 n2 bd (i - 1) (js + t - 1) st.nxt
  cur : t ≠ 0 → st.cur = st.cs.getD (js + t - 1) 0
  done : ∀ j, js ≤ j → j < js + t → Okc a b n1 n2 bd (i + 1) (j + 1) (st.cs.getD j 0)
  rest : ∀ j, js + t ≤ j → st.cs.getD j 0 = st0.cs.getD j 0
  pdone : ∀ j, js ≤ j → j < js + t → Okc a b n1 n2 bd i j (st.ps.getD j 0)
  prest : ∀ j, js + t ≤ j → st.ps.getD j 0 = st0.ps.getD j 0

theorem in_inv (h0 : a 0 ≠ b 0) (hbd : n2 ≤ bd + n1) (hle : n1 ≤ n2) (hB : ∀ j : Nat, j < n2 → B j = b j) {np i js jp je : Nat} {ch1 pch1 : α} {st0 : InS α}
    (hch1 : ch1 = a i) (hpch : i ≠ 0 → pch1 = a (i - 1)) (hjs : js = 0 ∨ js + bd + n1 = i + n2) (hje : je ≤ n2) (hjp : je ≤ jp + 1) (hnp : n2 ≤ np)
    (l1 : st0.cs.length = n2) (l2 : st0.ps.length = np) (s1 : st0.abv = i) (s2 : st0.lft = i) (s3 : st0.nxt = 0)
    (hC : ∀ j, js ≤ j → j < n2 → Okc a b n1 n2 bd i (j + 1) (st0.cs.getD j 0))
    (hP : i ≠ 0 → ∀ j, js ≤ j → j < jp → Okc a b n1 n2 bd (i - 1) j (st0.ps.getD j 0)) :
    ∀ t, js + t ≤ je → InInv a b n1 n2 bd np i js jp st0 t (inRun ch1 pch1 B i js st0 t)
  | 0, _ => by
    refine ⟨l1, l2, fun _ => ⟨s1, s2, s3⟩, fun h => absurd rfl h, fun h => absurd rfl h, fun h => absurd rfl h, fun h => absurd rfl h, fun h => absurd rfl h, fun j h1 h2 => absurd h1 (by omega), fun _ _ => rfl, fun j h1 h2 => absurd h1 (by omega), fun _ _ => rfl⟩
  | t + 1, ht => by
    have ih := in_inv h0 hbd hle hB hch1 hpch hjs hje hjp hnp l1 l2 s1 s2 s3 hC hP t (by omega)
    rw [inRun]
    generalize hst : inRun ch1 pch1 B i js st0 t = st at ih
    have hj : ((js : Int) + (t : Int)).toNat = js + t := by omega
    have hBj : B ((js : Int) + (t : Int)) = b (js + t) := by
      have := hB (js + t) (by omega)
      rw [← this]; congr 1
    have hne : ∀ z : Nat, z = t + 1 → z ≠ 0 := fun z h => by omega
    have eidx : js + (t + 1) - 1 = js + t := by omega
    have eidx2 : js + (t + 1) = js + t + 1 := by omega
    -- the new cell
    have k0 : Okc a b n1 n2 bd i (js + t) st.lft := by
      by_cases c : t = 0
      · rw [(ih.head c).2.1, c]; exact ok_edge h0 hbd hjs hle
      · exact ih.lft c
    have k1 : Okc a b n1 n2 bd i (js + t + 1) (st.cs.getD (js + t) 0) := by
      rw [ih.rest _ (Nat.le_refl _)]; exact hC _ (by omega) (by omega)
    have hc : (st.abv = st.lft ∧ st.nxt = 0 ∧ (js + t = 0 ∨ js + t + bd + n1 = i + n2)) ∨
        (Okc a b n1 n2 bd (i + 1) (js + t) st.abv ∧ 0 < js + t ∧ st.ch2 = b (js + t - 1) ∧ (i ≠ 0 → Okc a b n1 n2 bd (i - 1) (js + t - 1) st.nxt)) := by
      by_cases c : t = 0
      · obtain ⟨x1, x2, x3⟩ := ih.head c
        exact .inl ⟨x1.trans x2.symm, x3, by omega⟩
      · exact .inr ⟨ih.abv c, by omega, ih.ch2 c, fun hi => ih.nxt c hi (by omega)⟩
    have cell := cell_ok h0 hbd hle k0 k1 hc hpch rfl (va := st.abv) (vt := st.nxt)
    have hcell : (inStep ch1 pch1 B i st ((js : Int) + (t : Int))).cur = (if a i = b (js + t) then st.lft else
        if (i : Int) ≠ 0 ∧ ((js + t : Nat) : Int) ≠ 0 ∧ a i = st.ch2 ∧ pch1 = b (js + t) ∧ st.nxt + 1 < (if st.cs.getD (js + t) 0 < (if st.abv < st.lft then st.abv else st.lft) then st.cs.getD (js + t) 0 else (if st.abv < st.lft then st.abv else st.lft)) + 1
        then st.nxt + 1 else (if st.cs.getD (js + t) 0 < (if st.abv < st.lft then st.abv else st.lft) then st.cs.getD (js + t) 0 else (if st.abv < st.lft then st.abv else st.lft)) + 1) := by
      dsimp only [inStep]
      rw [hj, hBj, hch1, show ((js : Int) + (t : Int)) = ((js + t : Nat) : Int) by omega]
    rw [← hcell] at cell
    generalize hcur : (inStep ch1 pch1 B i st ((js : Int) + (t : Int))).cur = cur at cell
    have e1 : (inStep ch1 pch1 B i st ((js : Int) + (t : Int))).cs = st.cs.set (js + t) cur := by rw [← hcur, ← hj]; rfl
    have e2 : (inStep ch1 pch1 B i st ((js : Int) + (t : Int))).ps = st.ps.set (js + t) st.lft := by rw [← hj]; rfl
    have e3 : (inStep ch1 pch1 B i st ((js : Int) + (t : Int))).abv = cur := by rw [← hcur]; rfl
    have e4 : (inStep ch1 pch1 B i st ((js : Int) + (t : Int))).lft = st.cs.getD (js + t) 0 := by rw [← hj]; rfl
    have e5 : (inStep ch1 pch1 B i st ((js : Int) + (t : Int))).nxt = st.ps.getD (js + t) 0 := by rw [← hj]; rfl
    have e6 : (inStep ch1 pch1 B i st ((js : Int) + (t : Int))).ch2 = b (js + t) := hBj
    refine ⟨?_, ?_, fun h => absurd h (by omega), fun _ => ?_, fun _ => ?_, fun _ => ?_, fun _ hi hlt => ?_, fun _ => ?_, fun j h1 h2 => ?_, fun j h1 => ?_, fun j h1 h2 => ?_, fun j h1 => ?_⟩
    · rw [e1, List.length_set]; exact ih.lcs
    · rw [e2, List.length_set]; exact ih.lps
    · rw [e3]; exact cell
    · rw [e4]; exact k1
    · rw [e6, eidx]
    · rw [e5, eidx, ih.prest _ (Nat.le_refl _)]
      rw [eidx] at hlt
      exact hP hi _ (by omega) hlt
    · rw [hcur, e1, eidx, getD_self (by rw [ih.lcs]; omega)]
    · rw [e1]
      by_cases c : j = js + t
      · subst c; rw [getD_self (by rw [ih.lcs]; omega)]; exact cell
      · rw [getD_ne (by omega)]; exact ih.done j h1 (by omega)
    · rw [e1, getD_ne (by omega)]; exact ih.rest j (by omega)
    · rw [e2]
      by_cases c : j = js + t
      · subst c; rw [getD_self (by rw [ih.lps]; omega)]; exact k0
      · rw [getD_ne (by omega)]; exact ih.pdone j h1 (by omega)
    · rw [e2, getD_ne (by omega)]; exact ih.prest j (by omega)
end
end Mine

end
section
namespace Mine
section
variable {α : Type} [DecidableEq α] {a b : Nat → α} {n1 n2 bd : Nat} {A B : Int → α} {blank : α}

/-- what holds between the rows -/
structure OuInv (a b : Nat → α) (n1 n2 bd np i : Nat) (S : OuS α) : Prop where
  js : S.js = max 0 ((i : Int) - 1 - ((bd : Int) - ((n2 : Int) - n1)))
  je : S.je = min ((bd : Int) + i) n2
  lcs : S.cs.length = n2
  lps : S.ps.length = np
  c : ∀ j, i - 1 - (bd + n1 - n2) ≤ j → j < n2 → Okc a b n1 n2 bd i (j + 1) (S.cs.getD j 0)
  c2 : ∀ j, min (bd + i) n2 ≤ j → j < n2 → S.cs.getD j 0 = (bd : Int) + 1
  p : i ≠ 0 → ∀ j, i - 1 - (bd + n1 - n2) ≤ j → j < min (bd + i) n2 → Okc a b n1 n2 bd (i - 1) j (S.ps.getD j 0)
  ch : i ≠ 0 → S.ch = a (i - 1)
  cur : i ≠ 0 → S.cur = S.cs.getD (min (bd + i) n2 - 1) 0

theorem ou_inv (h0 : a 0 ≠ b 0) (hA : ∀ i : Nat, i < n1 → A i = a i) (hB : ∀ j : Nat, j < n2 → B j = b j) (hle : n1 ≤ n2) (hbd : n2 ≤ bd + n1) (hbd0 : 0 < bd) (hbd2 : bd < n2) {ps : List Int} (hps : n2 ≤ ps.length) :
    ∀ i, i ≤ n1 → OuInv a b n1 n2 bd ps.length i (ouRun blank A B n2 ((bd : Int) - ((n2 : Int) - n1)) (ouInit blank n2 bd ps) i)
  | 0, _ => by
    have hcs : ∀ j, j < n2 → (ouInit blank (n2 : Int) (bd : Int) ps).cs.getD j 0 = if (j : Int) < bd then (j : Int) + 1 else (bd : Int) + 1 := fun j hj => by
      unfold ouInit
      dsimp only
      rw [List.getD_eq_getElem?_getD, List.getElem?_map, List.getElem?_range (by omega)]
      rfl
    show OuInv a b n1 n2 bd ps.length 0 (ouInit blank (n2 : Int) (bd : Int) ps)
    refine ⟨?_, ?_, ?_, rfl, fun j _ hj => ?_, fun j h1 hj => ?_, fun h => absurd rfl h, fun h => absurd rfl h, fun h => absurd rfl h⟩
    · show (0 : Int) = _; omega
    · show (bd : Int) = _; omega
    · show ((List.range (n2 : Int).toNat).map _).length = _
      rw [List.length_map, List.length_range]; omega
    · rw [hcs j hj]
      by_cases c : (j : Int) < bd
      · rw [if_pos c, show (j : Int) + 1 = ((j + 1 : Nat) : Int) by omega]; exact ok_start
      · rw [if_neg c]; exact ok_beyond (by omega)
    · rw [hcs j hj, if_neg (by omega)]
  | i + 1, hi => by
    have ih := ou_inv h0 hA hB hle hbd hbd0 hbd2 hps i (by omega)
    rw [ouRun]
    generalize hS : ouRun blank A B n2 ((bd : Int) - ((n2 : Int) - n1)) (ouInit blank n2 bd ps) i = S at ih
    have ejs : S.js + (if (bd : Int) - ((n2 : Int) - n1) < (i : Int) then 1 else 0) = ((i - (bd + n1 - n2) : Nat) : Int) := by rw [ih.js]; split <;> omega
    have eje : S.je + (if S.je < (n2 : Int) then 1 else 0) = ((min (bd + i + 1) n2 : Nat) : Int) := by rw [ih.je]; split <;> omega
    have hAi := hA i (by omega)
    have key := in_inv (B := B) (ch1 := A i) (pch1 := S.ch) (np := ps.length) (i := i) (js := i - (bd + n1 - n2)) (jp := min (bd + i) n2) (je := min (bd + i + 1) n2)
      (st0 := { cur := S.cur, lft := i, abv := i, nxt := 0, ch2 := blank, cs := S.cs, ps := S.ps })
      h0 hbd hle hB hAi ih.ch (by omega) (by omega) (by omega) hps ih.lcs ih.lps rfl rfl rfl (fun j h1 h2 => ih.c j (by omega) h2) (fun h j h1 h2 => ih.p h j (by omega) h2)
      (min (bd + i + 1) n2 - (i - (bd + n1 - n2))) (by omega)
    have et : (((min (bd + i + 1) n2 : Nat) : Int) - ((i - (bd + n1 - n2) : Nat) : Int)).toNat = min (bd + i + 1) n2 - (i - (bd + n1 - n2)) := by omega
    dsimp only [ouStep]
    rw [ejs, eje, et]
    generalize inRun (A i) S.ch B i ((i - (bd + n1 - n2) : Nat) : Int) { cur := S.cur, lft := i, abv := i, nxt := 0, ch2 := blank, cs := S.cs, ps := S.ps } (min (bd + i + 1) n2 - (i - (bd + n1 - n2))) = r at key
    have ejt : i - (bd + n1 - n2) + (min (bd + i + 1) n2 - (i - (bd + n1 - n2))) = min (bd + i + 1) n2 := by omega
    have hrest : ∀ j, min (bd + i + 1) n2 ≤ j → j < n2 → r.cs.getD j 0 = (bd : Int) + 1 := fun j h1 h2 => by
      rw [key.rest j (by omega)]; exact ih.c2 j (by omega) h2
    refine ⟨?_, ?_, key.lcs, key.lps, fun j h1 h2 => ?_, fun j h1 h2 => ?_, fun _ j h1 h2 => ?_, fun _ => ?_, fun _ => ?_⟩
    · show ((i - (bd + n1 - n2) : Nat) : Int) = _; omega
    · show ((min (bd + i + 1) n2 : Nat) : Int) = _; omega
    · by_cases c : j < min (bd + i + 1) n2
      · exact key.done j (by omega) (by omega)
      · show Okc a b n1 n2 bd (i + 1) (j + 1) (r.cs.getD j 0)
        rw [hrest j (by omega) h2]; exact ok_beyond (by omega)
    · exact hrest j (by omega) h2
    · show Okc a b n1 n2 bd (i + 1 - 1) j (r.ps.getD j 0)
      rw [Nat.add_sub_cancel]; exact key.pdone j (by omega) (by omega)
    · show A i = _
      rw [Nat.add_sub_cancel]; exact hAi
    · show r.cur = r.cs.getD _ 0
      rw [key.cur (by omega), show i - (bd + n1 - n2) + (min (bd + i + 1) n2 - (i - (bd + n1 - n2))) - 1 = min (bd + (i + 1)) n2 - 1 by omega]

theorem band_right (h0 : a 0 ≠ b 0) (hA : ∀ i : Nat, i < n1 → A i = a i) (hB : ∀ j : Nat, j < n2 → B j = b j) (h1 : 0 < n1) (hle : n1 ≤ n2) (hbd : n2 ≤ bd + n1) (hbd0 : 0 < bd) (hbd2 : bd < n2) {ps : List Int} (hps : n2 ≤ ps.length) {r : Int}
    (h : BandSays blank A B (n1 : Int) (n2 : Int) (bd : Int) ps r) : r = if osa a b n1 n2 ≤ bd then osa a b n1 n2 else -1 := by
  have inv := ou_inv (blank := blank) h0 hA hB hle hbd hbd0 hbd2 hps
  have r0 : ∀ k, rem n1 n2 (k + 1) (k + (n2 - n1) + 1) = 0 := fun k => by unfold rem; omega
  rcases h with ⟨k, hk, hlt, rfl⟩ | ⟨hall, rfl⟩
  · have hk' : k < n1 := by omega
    have hc := (inv (k + 1) (by omega)).c (k + (n2 - n1)) (by omega) (by omega)
    have et : ((k : Int) + ((n2 : Int) - n1)).toNat = k + (n2 - n1) := by omega
    rw [et] at hlt
    have hd := osa_diag_add a b (k + 1) (k + (n2 - n1) + 1) (n1 - (k + 1))
    rw [show k + 1 + (n1 - (k + 1)) = n1 by omega, show k + (n2 - n1) + 1 + (n1 - (k + 1)) = n2 by omega] at hd
    have hu := hc.2
    rw [r0] at hu
    rw [if_neg (fun hle => by have := hu (by omega); omega)]
  · have hI := inv n1 (Nat.le_refl _)
    have hn : ((n1 : Int)).toNat = n1 := by omega
    clear hall
    rw [hn]
    have hcur := hI.cur (by omega)
    have ej : min (bd + n1) n2 - 1 = n2 - 1 := by omega
    rw [ej] at hcur
    have hc := hI.c (n2 - 1) (by omega) (by omega)
    rw [← hcur, show n2 - 1 + 1 = n2 by omega] at hc
    have hr : rem n1 n2 n1 n2 = 0 := by unfold rem; omega
    rw [Okc, hr] at hc
    obtain ⟨hl, hu⟩ := hc
    generalize (ouRun blank A B (n2 : Int) ((bd : Int) - ((n2 : Int) - n1)) (ouInit blank n2 bd ps) n1).cur = v at hl hu ⊢
    by_cases c : osa a b n1 n2 ≤ bd
    · have := hu (by omega)
      rw [if_pos c, if_pos (by omega)]
      omega
    · rw [if_neg c, if_neg (by omega)]
end
end Mine

end
section
namespace Mine
section
variable {α : Type} [DecidableEq α]

/-- a way through the table, step by step -/
inductive Way (a b : Nat → α) (p q : Nat) : Nat → Nat → Int → Prop
  | nil : Way a b p q p q 0
  | del {p' q' : Nat} {c : Int} : Way a b p q p' q' c → Way a b p q (p' + 1) q' (c + 1)
  | ins {p' q' : Nat} {c : Int} : Way a b p q p' q' c → Way a b p q p' (q' + 1) (c + 1)
  | sub {p' q' : Nat} {c : Int} : Way a b p q p' q' c → Way a b p q (p' + 1) (q' + 1) (c + if a p' = b q' then 0 else 1)
  | tr {p' q' : Nat} {c : Int} : Way a b p q p' q' c → a p' = b (q' + 1) → a (p' + 1) = b q' → Way a b p q (p' + 2) (q' + 2) (c + 1)

theorem Way.cast {a b : Nat → α} {p q p' q' r s : Nat} {c d : Int} (h : Way a b p q p' q' c) (h1 : p' = r) (h2 : q' = s) (h3 : c = d) : Way a b p q r s d := by subst h1; subst h2; subst h3; exact h
theorem Way.trans {a b : Nat → α} {p q r s t u : Nat} {c d : Int} (h : Way a b p q r s c) (k : Way a b r s t u d) : Way a b p q t u (c + d) := by
  induction k with
  | nil => exact h.cast rfl rfl (by omega)
  | del _ ih => exact ih.del.cast rfl rfl (by omega)
  | ins _ ih => exact ih.ins.cast rfl rfl (by omega)
  | sub _ ih => exact ih.sub.cast rfl rfl (by omega)
  | tr _ h1 h2 ih => exact (ih.tr h1 h2).cast rfl rfl (by omega)

theorem osa_le_way {a b : Nat → α} {p q : Nat} {c : Int} (h : Way a b 0 0 p q c) : osa a b p q ≤ c := by
  induction h with
  | nil => rw [osa_left]; exact Int.le_refl _
  | del _ ih => exact Int.le_trans (osa_le_del ..) (by omega)
  | ins _ ih => exact Int.le_trans (osa_le_ins ..) (by omega)
  | @sub p' q' c _ ih =>
    by_cases e : a p' = b q'
    · rw [if_pos e, osa_eq a b e]; omega
    · rw [if_neg e]; exact Int.le_trans (osa_le_sub ..) (by omega)
  | @tr p' q' c _ h1 h2 ih =>
    have := osa_le_tr a b (p := p' + 1) (q := q' + 1) ⟨by omega, by omega, h2, h1⟩
    simp only [Nat.add_sub_cancel] at this
    exact Int.le_trans this (by omega)

theorem way_of (a b : Nat → α) : ∀ (n p q : Nat), p + q ≤ n → Way a b 0 0 p q (osa a b p q)
  | n, 0, 0, _ => by rw [osa_left]; exact .nil
  | n, 0, q + 1, h => by
    obtain ⟨n, rfl⟩ : ∃ n', n = n' + 1 := ⟨n - 1, by omega⟩
    exact (way_of a b n 0 q (by omega)).ins.cast rfl rfl (by rw [osa_left, osa_left]; omega)
  | n, p + 1, 0, h => by
    obtain ⟨n, rfl⟩ : ∃ n', n = n' + 1 := ⟨n - 1, by omega⟩
    exact (way_of a b n p 0 (by omega)).del.cast rfl rfl (by rw [osa_right, osa_right]; omega)
  | n, p + 1, q + 1, h => by
    obtain ⟨n, rfl⟩ : ∃ n', n = n' + 1 := ⟨n - 1, by omega⟩
    rcases osa_cases a b p q with e | e | ⟨c, e⟩ | ⟨c, e⟩ | ⟨t, e⟩
    · exact (way_of a b n p (q + 1) (by omega)).del.cast rfl rfl e.symm
    · exact (way_of a b n (p + 1) q (by omega)).ins.cast rfl rfl e.symm
    · exact (way_of a b n p q (by omega)).sub.cast rfl rfl (by rw [if_pos c, e]; omega)
    · exact (way_of a b n p q (by omega)).sub.cast rfl rfl (by rw [if_neg c, e])
    · obtain ⟨hp, hq, t1, t2⟩ := t
      obtain ⟨p, rfl⟩ : ∃ p', p = p' + 1 := ⟨p - 1, by omega⟩
      obtain ⟨q, rfl⟩ : ∃ q', q = q' + 1 := ⟨q - 1, by omega⟩
      simp only [Nat.add_sub_cancel] at e t1 t2
      exact ((way_of a b n p q (by omega)).tr t2 t1).cast rfl rfl e.symm

theorem way_rev {a b c d : Nat → α} {n1 n2 : Nat} (hc : ∀ p, p < n1 → c p = a (n1 - 1 - p)) (hd : ∀ q, q < n2 → d q = b (n2 - 1 - q)) {p q p' q' : Nat} {k : Int} (h : Way a b p q p' q' k) :
    p' ≤ n1 → q' ≤ n2 → Way c d (n1 - p') (n2 - q') (n1 - p) (n2 - q) k := by
  induction h with
  | nil => exact fun _ _ => .nil
  | @del p' q' k _ ih =>
    intro h1 h2
    have s : Way c d (n1 - (p' + 1)) (n2 - q') (n1 - p') (n2 - q') 1 := Way.cast (Way.del .nil) (by omega) rfl (by omega)
    exact (s.trans (ih (by omega) h2)).cast rfl rfl (by omega)
  | @ins p' q' k _ ih =>
    intro h1 h2
    have s : Way c d (n1 - p') (n2 - (q' + 1)) (n1 - p') (n2 - q') 1 := Way.cast (Way.ins .nil) rfl (by omega) (by omega)
    exact (s.trans (ih h1 (by omega))).cast rfl rfl (by omega)
  | @sub p' q' k _ ih =>
    intro h1 h2
    have e1 : c (n1 - (p' + 1)) = a p' := by rw [hc _ (by omega)]; congr 1; omega
    have e2 : d (n2 - (q' + 1)) = b q' := by rw [hd _ (by omega)]; congr 1; omega
    have s : Way c d (n1 - (p' + 1)) (n2 - (q' + 1)) (n1 - p') (n2 - q') (if a p' = b q' then 0 else 1) := Way.cast (Way.sub .nil) (by omega) (by omega) (by rw [e1, e2]; omega)
    exact (s.trans (ih (by omega) (by omega))).cast rfl rfl (by omega)
  | @tr p' q' k _ t1 t2 ih =>
    intro h1 h2
    have e1 : c (n1 - (p' + 2)) = a (p' + 1) := by rw [hc _ (by omega)]; congr 1; omega
    have e2 : d (n2 - (q' + 2)) = b (q' + 1) := by rw [hd _ (by omega)]; congr 1; omega
    have e3 : c (n1 - (p' + 2) + 1) = a p' := by rw [hc _ (by omega)]; congr 1; omega
    have e4 : d (n2 - (q' + 2) + 1) = b q' := by rw [hd _ (by omega)]; congr 1; omega
    have s : Way c d (n1 - (p' + 2)) (n2 - (q' + 2)) (n1 - p') (n2 - q') 1 := Way.cast (Way.tr .nil (by rw [e1, e4, t2]) (by rw [e3, e2, t1])) (by omega) (by omega) (by omega)
    exact (s.trans (ih (by omega) (by omega))).cast rfl rfl (by omega)

theorem osa_rev_le {a b c d : Nat → α} {n1 n2 : Nat} (hc : ∀ p, p < n1 → c p = a (n1 - 1 - p)) (hd : ∀ q, q < n2 → d q = b (n2 - 1 - q)) : osa c d n1 n2 ≤ osa a b n1 n2 := by
  have h := way_rev hc hd (way_of a b _ n1 n2 (Nat.le_refl _)) (Nat.le_refl _) (Nat.le_refl _)
  simp only [Nat.sub_self, Nat.sub_zero] at h
  exact osa_le_way h
/-- read from the ends or from the beginnings: the same -/
theorem osa_rev {a b c d : Nat → α} {n1 n2 : Nat} (hc : ∀ p, p < n1 → c p = a (n1 - 1 - p)) (hd : ∀ q, q < n2 → d q = b (n2 - 1 - q)) : osa c d n1 n2 = osa a b n1 n2 := by
  have h1 := osa_rev_le hc hd
  have h2 := osa_rev_le (a := c) (b := d) (c := a) (d := b) (n1 := n1) (n2 := n2) (fun p hp => by rw [hc _ (by omega)]; congr 1; omega) (fun q hq => by rw [hd _ (by omega)]; congr 1; omega)
  omega
end
end Mine

end
section
open PySem PySem.W PySem.Calls PyProof.Rows PySem.Spec
set_option maxRecDepth 100000
namespace Mine
local macro_rules | `(tactic| ktr_room) => `(tactic| ((simp only [depth_deeper, depth_in1]); omega))
local macro_rules | `(tactic| walk_at "pyIter ref") => `(tactic| ((with_reducible show wpAny _ _ (pyIter (Value.ref _)) _ _ _); refine Hold.of ?_))
local macro_rules | `(tactic| walk_at "exec For Name Call cons nil") => `(tactic| (k_here; (rename Fr _ _ _ _ => lF'); (with_unfolding_all refine' For_invVF lF' ?k1 ?k2 ?_; (case k1 => exact rfl); (case k2 => exact rfl); k_whole)))
local macro_rules | `(tactic| walk_at "m open") => `(tactic| (k_dflt first
  | (refine' enter_plain ?q1 ?q2 ?q3 ?k1 ?k2 ?k3 ?k4 ?k5 ?kA ?kF ?kK ?k6 ?k7 ?k8 ?k9 ?kB ?_ ?c2 ?c3 ?c4 ?c5; (case q3 => assumption); (case q1 => assumption); (case q2 => assumption); (case kA => exact rfl); (case kF => exact rfl); (case kK => first | exact rfl | assumption); (case k1 => k_asm); (case k2 => k_asm); (case k3 => k_asm); (case k4 => k_asm); (case k5 => k_asm); (case k6 => k_is); (case k7 => k_is); (case k8 => ktr_room); (case k9 => first | exact BindsTo.of_eq rfl | exact binds_K (by k_in) rfl (by k_is) rfl rfl rfl | fail "k_enter: no rule for these arguments"); (case c5 => decide); (case kB => exact locs rfl); (case c2 => exact rfl); (case c3 => exact rfl); (case c4 => exact rfl); k_whole; intro g' L' h' FG' F' N' B' X' T'; (try dsimp only); (try k_lift B'); (try k_fold))
  | (refine' enter_cells ?q1 ?q2 ?q3 ?k1 ?k2 ?k3 ?k4 ?k5 ?kA ?kF ?kK ?k6 ?k7 ?k8 ?k9 ?kB ?kD ?_ ?c2 ?c3 ?c4; (case q3 => assumption); (case q1 => assumption); (case q2 => assumption); (case kA => exact rfl); (case kF => exact rfl); (case kK => first | exact rfl | assumption); (case k1 => k_asm); (case k2 => k_asm); (case k3 => k_asm); (case k4 => k_asm); (case k5 => k_asm); (case k6 => k_is); (case k7 => k_is); (case k8 => ktr_room); (case k9 => first | exact BindsTo.of_eq rfl | exact binds_K (by k_in) rfl (by k_is) rfl rfl rfl | fail "k_enter: no rule for these arguments"); (case kB => exact rfl); (case kD => decide +kernel); (case c2 => exact rfl); (case c3 => exact rfl); (case c4 => exact rfl); k_whole; intro g' L' h' tk' cells' FG' F' N' Y' B' X' T' l1; (try k_lt l1); k_cells Y'; (try simp only [List.cons_append, List.nil_append] at N'); (try dsimp only); (try k_lift B'); (try k_fold))))

theorem ite_const {M : Model} {A : Around} {E : Value → Shared → Prop} {s : Shared} {c : Prop} [Decidable c] {x y : Int} {k k' : Nat} {p p' : Pos} {env : Env} {Q : Value → Shared → Prop}
    (h : Q (.int (if c then x else y) s.toks) { s with toks := s.toks + 1 }) :
    if decide c = true then wpAny M A (eval (.Constant (.int x) k p) env) Q E s else wpAny M A (eval (.Constant (.int y) k' p') env) Q E s := by
  by_cases hc : c
  · rw [if_pos (decide_eq_true hc)]; rw [if_pos hc] at h; exact wpAny_Constant_int h
  · rw [if_neg (by simpa using hc)]; rw [if_neg hc] at h; exact wpAny_Constant_int h
local macro_rules | `(tactic| walk_at "ite") => `(tactic| (with_reducible refine ite_const ?_))

local macro_rules | `(tactic| walk_at "exec If") => `(tactic| (k_here; k_dflt (refine' exec_cost ?F ?N ?c ?a ?l ?t ?i ?j ?x1 ?x2 ?y1 ?y2 ?hk ?lc ?la ?ll ?lt ?li ?lj ?l1 ?l2 ?l3 ?l4 ?hn ?_; (case F => k_asm); (case N => k_asm); (case c => exact rfl); (case a => exact rfl); (case l => exact rfl); (case t => exact rfl); (case i => exact rfl); (case j => exact rfl); (case x1 => exact rfl); (case x2 => exact rfl); (case y1 => exact rfl); (case y2 => exact rfl); (case hk => exact rfl); (case lc => exact ⟨rfl, rfl⟩); (case la => exact ⟨rfl, rfl⟩); (case ll => exact ⟨rfl, rfl⟩); (case lt => exact ⟨rfl, rfl⟩); (case li => exact ⟨rfl, rfl⟩); (case lj => exact ⟨rfl, rfl⟩); (case l1 => exact ⟨rfl, rfl⟩); (case l2 => exact ⟨rfl, rfl⟩); (case l3 => exact ⟨rfl, rfl⟩); (case l4 => exact ⟨rfl, rfl⟩); (case hn => decide); intro h' tk' t' F' N'; (try k_sweep))))

structure DmO where
  st : OuS Str
  tch : Tok
  tcur : Tok
  tjs : Tok
  tje : Tok
  tld : Tok
  tjo : Tok
  vcs : List Value
  vps : List Value

structure DmI where
  st : InS Str
  tcur : Tok
  tlft : Tok
  tabv : Tok
  tnxt : Tok
  tch2 : Tok
  tch1 : Tok
  tpch : Tok
  ti : Tok
  tjs : Tok
  tje : Tok
  tld : Tok
  tjo : Tok
  vcs : List Value
  vps : List Value

/-- what does not turn while the def runs -/
structure DmC where
  sa : Str
  sb : Str
  ta : Tok
  tb : Tok
  t1 : Tok
  t2 : Tok
  t3 : Tok
  t4 : Tok
  la : Int
  lb : Int
  pl : Int
  bd : Int
  ns : List Int
  l2 : Addr
  k2 : Nat

def DmC.A (C : DmC) (i : Int) : Str := Txt.item C.sa (C.pl + i)
def DmC.B (C : DmC) (j : Int) : Str := Txt.item C.sb (C.pl + j)
def DmC.run (C : DmC) : Nat → OuS Str := ouRun (Str.ofString " ") C.A C.B C.lb (C.bd - (C.lb - C.la)) (ouInit (Str.ofString " ") C.lb C.bd C.ns)

abbrev dmILed (C : DmC) (D ca : Addr) (co : Obj) (kD : Nat) (own : List (Addr × Obj)) (c : DmI) : List (Addr × Obj) := (D, PySem.W.listOf c.vcs.toArray kD) :: (ca, co) :: (C.l2, PySem.W.listOf c.vps.toArray C.k2) :: own
abbrev dmIps (C : DmC) (D : Addr) (i : Nat) (JS JE : Int) (pch : Str) (d : DmI) : List (Str × Value) :=
  [(Str.ofString "current_cost", .int d.st.cur d.tcur), (Str.ofString "left_char_cost", .int d.st.lft d.tlft), (Str.ofString "above_char_cost", .int d.st.abv d.tabv), (Str.ofString "next_trans_cost", .int d.st.nxt d.tnxt), (Str.ofString "char_2", .str d.st.ch2 d.tch2),
   (Str.ofString "char_1", .str (C.A i) d.tch1), (Str.ofString "prev_char_1", .str pch d.tpch), (Str.ofString "i", .int i d.ti), (Str.ofString "j_start", .int JS d.tjs), (Str.ofString "j_end", .int JE d.tje),
   (Str.ofString "string_1", .str C.sa C.ta), (Str.ofString "string_2", .str C.sb C.tb), (Str.ofString "len_1", .int C.la C.t1), (Str.ofString "len_2", .int C.lb C.t2), (Str.ofString "start", .int C.pl C.t3),
   (Str.ofString "char_1_costs", .ref D), (Str.ofString "prev_char_1_costs", .ref C.l2), (Str.ofString "len_diff", .int (C.lb - C.la) d.tld), (Str.ofString "j_start_offset", .int (C.bd - (C.lb - C.la)) d.tjo)]
def dmIP (C : DmC) (i : Nat) (JS : Int) (pch : Str) (st0 : InS Str) (k : Nat) (d : DmI) : Prop :=
  d.st = inRun (C.A i) pch C.B i JS st0 k ∧ IntsAre d.vcs d.st.cs ∧ IntsAre d.vps d.st.ps ∧ d.st.cs.length = C.lb.toNat ∧ d.st.ps.length = C.ns.length

abbrev dmOLed (C : DmC) (D ca : Addr) (co : Obj) (kD : Nat) (c : DmO) : List (Addr × Obj) := [(D, PySem.W.listOf c.vcs.toArray kD), (ca, co), (C.l2, PySem.W.listOf c.vps.toArray C.k2)]
abbrev dmOps (C : DmC) (D : Addr) (c : DmO) : List (Str × Value) :=
  [(Str.ofString "char_1", .str c.st.ch c.tch), (Str.ofString "current_cost", .int c.st.cur c.tcur), (Str.ofString "j_start", .int c.st.js c.tjs), (Str.ofString "j_end", .int c.st.je c.tje),
   (Str.ofString "string_1", .str C.sa C.ta), (Str.ofString "string_2", .str C.sb C.tb), (Str.ofString "len_1", .int C.la C.t1), (Str.ofString "len_2", .int C.lb C.t2), (Str.ofString "start", .int C.pl C.t3),
   (Str.ofString "char_1_costs", .ref D), (Str.ofString "prev_char_1_costs", .ref C.l2), (Str.ofString "len_diff", .int (C.lb - C.la) c.tld), (Str.ofString "j_start_offset", .int (C.bd - (C.lb - C.la)) c.tjo)]
def dmOP (C : DmC) (i : Nat) (c : DmO) : Prop :=
  c.st = C.run i ∧ IntsAre c.vcs c.st.cs ∧ IntsAre c.vps c.st.ps ∧ c.st.cs.length = C.lb.toNat ∧ c.st.ps.length = C.ns.length ∧ c.st.js = max 0 ((i : Int) - 1 - (C.bd - (C.lb - C.la))) ∧ c.st.je = min (C.bd + i) C.lb ∧
  (∀ k : Nat, k < i → ¬ C.bd < (C.run (k + 1)).cs.getD ((k : Int) + (C.lb - C.la)).toNat 0)

section
variable {h₀ : Heap} {C : DmC} {D ca : Addr} {co : Obj} {kD : Nat} {i : Nat} {JS JE : Int} {pch : Str} {L : Addr} {m' : Str → Option Value} {own own' : List (Addr × Obj)} {adr : List Addr} {s₁ : Shared} {h' : Heap} {tk : Nat}
theorem dmI_end {st0 : InS Str} {j : Nat} {d : DmI} {cur lft abv nxt : Int} {ch2 : Str} {cs ps : List Int} {vcs vps : List Value} {tcur tlft tabv tnxt tch2 tch1 tpch ti tjs tje tld tjo : Tok}
    (hP : dmIP C i JS pch st0 j d) (F : Fr h₀ L h' m')
    (N : News h₀ L h' ((D, PySem.W.listOf vcs.toArray kD) :: (ca, co) :: (C.l2, PySem.W.listOf vps.toArray C.k2) :: (own ++ own')))
    (ha : adr = D :: ca :: C.l2 :: own.map (·.1))
    (e1 : m' (Str.ofString "current_cost") = some (.int cur tcur)) (e2 : m' (Str.ofString "left_char_cost") = some (.int lft tlft)) (e3 : m' (Str.ofString "above_char_cost") = some (.int abv tabv))
    (e4 : m' (Str.ofString "next_trans_cost") = some (.int nxt tnxt)) (e5 : m' (Str.ofString "char_2") = some (.str ch2 tch2)) (e6 : m' (Str.ofString "char_1") = some (.str (C.A i) tch1))
    (e7 : m' (Str.ofString "prev_char_1") = some (.str pch tpch)) (e8 : m' (Str.ofString "i") = some (.int i ti)) (e9 : m' (Str.ofString "j_start") = some (.int JS tjs)) (e10 : m' (Str.ofString "j_end") = some (.int JE tje))
    (e11 : m' (Str.ofString "string_1") = some (.str C.sa C.ta)) (e12 : m' (Str.ofString "string_2") = some (.str C.sb C.tb)) (e13 : m' (Str.ofString "len_1") = some (.int C.la C.t1)) (e14 : m' (Str.ofString "len_2") = some (.int C.lb C.t2))
    (e15 : m' (Str.ofString "start") = some (.int C.pl C.t3)) (e16 : m' (Str.ofString "char_1_costs") = some (.ref D)) (e17 : m' (Str.ofString "prev_char_1_costs") = some (.ref C.l2))
    (e18 : m' (Str.ofString "len_diff") = some (.int (C.lb - C.la) tld)) (e19 : m' (Str.ofString "j_start_offset") = some (.int (C.bd - (C.lb - C.la)) tjo))
    (hcs : IntsAre vcs cs) (hps : IntsAre vps ps) (hst : (⟨cur, lft, abv, nxt, ch2, cs, ps⟩ : InS Str) = inStep (C.A i) pch C.B i d.st (JS + j)) :
    InvEndN h₀ L (RngJ (dmILed C D ca co kD own) (dmIps C D i JS JE pch) (dmIP C i JS pch st0) (j + 1)) own' adr s₁ { s₁ with heap := h', toks := tk } := by
  obtain ⟨hdst, _, _, hlc, hlp⟩ := hP
  refine rng_end (⟨⟨cur, lft, abv, nxt, ch2, cs, ps⟩, tcur, tlft, tabv, tnxt, tch2, tch1, tpch, ti, tjs, tje, tld, tjo, vcs, vps⟩ : DmI) F N
    (List.forall_mem_cons.mpr ⟨.head _, List.forall_mem_cons.mpr ⟨.tail _ (.head _), List.forall_mem_cons.mpr ⟨.tail _ (.tail _ (.head _)), fun p hp => .tail _ (.tail _ (.tail _ (List.mem_append_left _ hp)))⟩⟩⟩)
    (fun p hp => .tail _ (.tail _ (.tail _ (List.mem_append_right _ hp)))) ha.symm ?_ ?_
  · simp only [dmIps, List.forall_mem_cons, List.not_mem_nil, false_implies, implies_true, and_true]
    exact ⟨e1, e2, e3, e4, e5, e6, e7, e8, e9, e10, e11, e12, e13, e14, e15, e16, e17, e18, e19⟩
  · refine ⟨by rw [inRun, ← hdst]; exact hst, hcs, hps, ?_, ?_⟩
    · have := congrArg InS.cs hst
      dsimp only [inStep] at this
      show cs.length = _
      rw [this, List.length_set]; exact hlc
    · have := congrArg InS.ps hst
      dsimp only [inStep] at this
      show ps.length = _
      rw [this, List.length_set]; exact hlp

theorem dm_run {c : DmO} {d : DmI} (hO : dmOP C i c) (hI : dmIP C i JS c.st.ch { cur := c.st.cur, lft := i, abv := i, nxt := 0, ch2 := Str.ofString " ", cs := c.st.cs, ps := c.st.ps } (JE - JS).toNat d)
    (hJS : JS = c.st.js + (if C.bd - (C.lb - C.la) < (i : Int) then 1 else 0)) (hJE : JE = c.st.je + (if c.st.je < C.lb then 1 else 0)) :
    C.run (i + 1) = ⟨C.A i, d.st.cur, JS, JE, d.st.cs, d.st.ps⟩ := by
  show ouStep _ _ _ _ _ _ (C.run i) = _
  rw [← hO.1]
  dsimp only [ouStep]
  rw [← hJS, ← hJE, ← hI.1]

theorem dmO_end {c : DmO} {d : DmI} {tcur tch tjs tje tld tjo : Tok}
    (hO : dmOP C i c) (hI : dmIP C i JS c.st.ch { cur := c.st.cur, lft := i, abv := i, nxt := 0, ch2 := Str.ofString " ", cs := c.st.cs, ps := c.st.ps } (JE - JS).toNat d) (hi : (i : Int) < C.la)
    (hJS : JS = c.st.js + (if C.bd - (C.lb - C.la) < (i : Int) then 1 else 0)) (hJE : JE = c.st.je + (if c.st.je < C.lb then 1 else 0)) (hbd : C.lb - C.la ≤ C.bd) (hbl : C.bd < C.lb)
    (hok : ¬ C.bd < d.st.cs.getD ((i : Int) + (C.lb - C.la)).toNat 0) (F : Fr h₀ L h' m')
    (N : News h₀ L h' ((D, PySem.W.listOf d.vcs.toArray kD) :: (ca, co) :: (C.l2, PySem.W.listOf d.vps.toArray C.k2) :: own))
    (ha : adr = [D, ca, C.l2])
    (e1 : m' (Str.ofString "char_1") = some (.str (C.A i) tch)) (e2 : m' (Str.ofString "current_cost") = some (.int d.st.cur tcur)) (e3 : m' (Str.ofString "j_start") = some (.int JS tjs)) (e4 : m' (Str.ofString "j_end") = some (.int JE tje))
    (e11 : m' (Str.ofString "string_1") = some (.str C.sa C.ta)) (e12 : m' (Str.ofString "string_2") = some (.str C.sb C.tb)) (e13 : m' (Str.ofString "len_1") = some (.int C.la C.t1)) (e14 : m' (Str.ofString "len_2") = some (.int C.lb C.t2))
    (e15 : m' (Str.ofString "start") = some (.int C.pl C.t3)) (e16 : m' (Str.ofString "char_1_costs") = some (.ref D)) (e17 : m' (Str.ofString "prev_char_1_costs") = some (.ref C.l2))
    (e18 : m' (Str.ofString "len_diff") = some (.int (C.lb - C.la) tld)) (e19 : m' (Str.ofString "j_start_offset") = some (.int (C.bd - (C.lb - C.la)) tjo)) :
    InvEndN h₀ L (RngJ (dmOLed C D ca co kD) (dmOps C D) (dmOP C) (i + 1)) own adr s₁ { s₁ with heap := h', toks := tk } := by
  obtain ⟨hcst, _, _, hlc0, hlp0, hjs, hje, hbad⟩ := hO
  obtain ⟨hdst, hcs, hps, hlc, hlp⟩ := hI
  have hrun : C.run (i + 1) = ⟨C.A i, d.st.cur, JS, JE, d.st.cs, d.st.ps⟩ := by
    show ouStep _ _ _ _ _ _ (C.run i) = _
    rw [← hcst]
    dsimp only [ouStep]
    rw [← hJS, ← hJE, ← hdst]
  refine rng_end (⟨⟨C.A i, d.st.cur, JS, JE, d.st.cs, d.st.ps⟩, tch, tcur, tjs, tje, tld, tjo, d.vcs, d.vps⟩ : DmO) F N
    (List.forall_mem_cons.mpr ⟨.head _, List.forall_mem_cons.mpr ⟨.tail _ (.head _), List.forall_mem_cons.mpr ⟨.tail _ (.tail _ (.head _)), fun p hp => nomatch hp⟩⟩⟩)
    (fun p hp => .tail _ (.tail _ (.tail _ hp))) ha.symm ?_ ?_
  · simp only [dmOps, List.forall_mem_cons, List.not_mem_nil, false_implies, implies_true, and_true]
    exact ⟨e1, e2, e3, e4, e11, e12, e13, e14, e15, e16, e17, e18, e19⟩
  · refine ⟨hrun.symm, hcs, hps, hlc, hlp, ?_, ?_, fun k hk => ?_⟩
    · show JS = _
      rw [hJS, hjs]; split <;> omega
    · show JE = _
      rw [hJE, hje]; split <;> omega
    · by_cases e : k = i
      · subst e; rw [hrun]; exact hok
      · exact hbad k (by omega)
end

set_option maxHeartbeats 8000000
theorem dm_ok (w : World) (C : DmC) (l1 : Addr) (vs : List Value) (ha : 0 < C.la) (hab : C.la ≤ C.lb) (hb : C.lb ≤ 16) (hp : 0 ≤ C.pl) (hpl : C.pl ≤ 3) (hbd : 0 < C.bd) (hbd2 : C.bd < C.lb) (hd : C.lb - C.la ≤ C.bd)
   (hsa : C.pl + C.la ≤ C.sa.length) (hsb : C.pl + C.lb ≤ C.sb.length) (hsa9 : C.sa.length ≤ 100) (hsb9 : C.sb.length ≤ 100) (hvs : IntsAre vs C.ns) (hns : C.lb ≤ C.ns.length) (hns9 : C.ns.length ≤ 100) :
   Ok w 81 [.str C.sa C.ta, .str C.sb C.tb, .int C.la C.t1, .int C.lb C.t2, .int C.pl C.t3, .int C.bd C.t4, .ref l1, .ref C.l2] [(C.l2, PySem.W.listOf vs.toArray C.k2)] (fun _ => True)
     (fun v nx => nx = [] ∧ ∃ r t, v = .int r t ∧ BandSays (Str.ofString " ") C.A C.B C.la C.lb C.bd C.ns r) := by
  w_top off
  unfold Ok PRG KK LO
  k_fill
  intro dp un gd cn cs a ccd cl outer A₀ base h₀ L m mg mb mean s Q E rest B F X N T hk hdp hun hins hrest hapart hret
  obtain ⟨Q₀, hKQ, hret⟩ := KQ.make hret
  refine wpAny_call ?_
  walk_at "m open"
  k_steps
  unfold Hold
  have hMk := kstMark
  (rename Fr _ _ _ _ => lF'); (rename News _ _ _ _ => lN'); (rename IsRange _ _ _ _ _ _ _ _ => rgX)
  rename_i gg LL hx0 tkx0 FG BB XX TT l12 co dco h8 tk8 t8 u8 v8 rg8 kp8 lvs g8 hI8 hL8 D h7 tk7 o1 h6 h5 h4 h3 h2 h1 FF NN hh tt t1' u1' v1' keep
  replace dco : co.data = Data.cell (some (.int C.bd C.t4)) := by with_unfolding_all exact dco
  have hys9 : ys.length = C.lb.toNat := by rw [hL8, List.length_map, rangeKs_length]; omega
  clear FF NN keep rg8 kp8
  with_unfolding_all
   refine' rng (σ := DmO) (dmOLed C D (LL + 1) co ys.length) (dmOps C D) (dmOP C) ⟨ouInit (Str.ofString " ") C.lb C.bd C.ns, _, _, _, _, _, _, ys, vs⟩ (by rfl) rgX ?ks ?kz lF' ?kn ?kk ?kp ?turn ?done
  case kn => exact lN'
  case kk => kst_all
  case ks => exact small_one (by omega) (by omega) (by omega) (by omega)
  case kz => exact rangeSize_nat _ _
  case kp => 
    have el : (List.map (fun k' => if k' < C.bd then k' + 1 else C.bd + 1) (rangeKs 0 (C.lb - 0).toNat)) = (ouInit (Str.ofString " ") C.lb C.bd C.ns).cs := by
      show _ = (List.range C.lb.toNat).map _
      rw [show (C.lb - 0).toNat = C.lb.toNat by omega]
      unfold rangeKs
      rw [List.map_map]
      refine List.map_congr_left fun k _ => ?_
      simp only [Function.comp_apply]
      rw [show (0 : Int) + (k : Int) = (k : Int) by omega]
    refine ⟨rfl, el ▸ hI8, hvs, ?_, rfl, ?_, ?_, fun k hk => absurd hk (Nat.not_lt_zero _)⟩
    · show ((List.range C.lb.toNat).map _).length = _
      rw [List.length_map, List.length_range]
    · show (0 : Int) = _
      omega
    · show C.bd = _
      omega
  case turn =>
    clear lF' lN' rgX hI8 hL8 F N FG hins B
    intro c i t u h tk own hi hoff hP F' N'
    simp only [dmOLed, List.map_cons, List.map_nil] at hoff
    have hO := hP
    obtain ⟨hst, hcs, hps, hlc, hlp, hjs, hje, hbad⟩ := hP
    have ei : (0 : Int) + (i : Int) * 1 = (i : Int) := by omega
    rw [ei] at F'
    simp only [dmOLed, List.cons_append, List.nil_append] at N'
    dsimp only [dmOps, kstB] at F'
    have hi' : (i : Int) < C.la := by omega
    (with_reducible show wpAny _ _ _ _ _ _)
    k_fold
    k_steps
    unfold Hold
    (rename Fr _ _ _ _ => lF2); (rename News _ _ _ _ => lN2); (rename IsRange _ _ _ _ _ _ _ _ => rgY)
    have hlo : 0 ≤ c.st.js + (if C.bd - (C.lb - C.la) < (i : Int) then 1 else 0) := by split <;> omega
    have hhi : c.st.je + (if c.st.je < C.lb then 1 else 0) ≤ C.lb := by split <;> omega
    have hdj : c.st.js + (if C.bd - (C.lb - C.la) < (i : Int) then 1 else 0) ≤ (i : Int) + (C.lb - C.la) := by split <;> omega
    have hje2 : (i : Int) + (C.lb - C.la) < c.st.je + (if c.st.je < C.lb then 1 else 0) := by split <;> omega
    generalize hJS : c.st.js + (if C.bd - (C.lb - C.la) < (i : Int) then 1 else 0) = JS at *
    generalize hJE : c.st.je + (if c.st.je < C.lb then 1 else 0) = JE at *
    with_unfolding_all
     refine' rng (σ := DmI) (dmILed C D (LL + 1) co ys.length own) (dmIps C D i JS JE c.st.ch) (dmIP C i JS c.st.ch { cur := c.st.cur, lft := i, abv := i, nxt := 0, ch2 := Str.ofString " ", cs := c.st.cs, ps := c.st.ps })
      ⟨{ cur := c.st.cur, lft := i, abv := i, nxt := 0, ch2 := Str.ofString " ", cs := c.st.cs, ps := c.st.ps }, _, _, _, _, _, _, _, _, _, _, _, _, c.vcs, c.vps⟩ (by rfl) rgY ?ks2 ?kz2 lF2 ?kn2 ?kk2 ?kp2 ?turn2 ?done2
    case kn2 => exact lN2
    case kk2 => kst_all
    case ks2 => exact small_one (by omega) (by omega) (by omega) (by omega)
    case kz2 => exact rangeSize_nat _ _
    case kp2 => exact ⟨rfl, hcs, hps, hlc, hlp⟩
    case turn2 =>
      clear lF2 lN2 rgY hret T hbad hO BB TT
      intro d j t' u' h' tk' own' hj hoff' hP' F' N'
      have hI := hP'
      obtain ⟨hdst, hdcs, hdps, hdlc, hdlp⟩ := hP'
      simp only [dmILed, List.map_cons] at hoff'
      have ej : JS + (j : Int) * 1 = JS + (j : Int) := by omega
      rw [ej] at F'
      simp only [dmILed, List.cons_append] at N'
      dsimp only [dmIps, kstB] at F'
      have hj1 : 0 ≤ JS + (j : Int) := by omega
      have hj2 : JS + (j : Int) < C.lb := by omega
      generalize hJ : JS + (j : Int) = J at *
      (with_reducible show wpAny _ _ _ _ _ _)
      k_fold
      k_steps
      (rename Fr _ _ _ _ => lF3); (rename News _ _ _ _ => lN3)
      with_unfolding_all
       refine' dmI_end hI lF3 lN3 (by rfl) (by rfl) (by rfl) (by rfl) (by rfl) (by rfl) (by rfl) (by rfl) (by rfl) (by rfl) (by rfl) (by rfl) (by rfl) (by rfl) (by rfl) (by rfl) (by rfl) (by rfl) (by rfl) (by rfl) (ints_set hdcs _) (ints_set hdps _) ?_
      rw [hJ]; rfl
    case done2 =>
      clear lF2 lN2 rgY
      intro d u' h' tk' hP' F' N'
      have hI := hP'
      obtain ⟨hdst, hdcs, hdps, hdlc, hdlp⟩ := hP'
      dsimp only
      dsimp only [dmIps, kstB] at F'
      k_steps
      · (rename C.bd < _ => hq)
        exact hret _ _ _ [] ⟨rfl, -1, _, rfl, .inl ⟨i, hi', by show C.bd < (C.run (i + 1)).cs.getD _ 0; rw [dm_run hO hI hJS.symm hJE.symm]; exact hq, rfl⟩⟩ (by assumption) News.nil
      · (rename ¬ (C.bd < _) => hq)
        (rename Fr _ _ _ _ => lF3); (rename News _ _ _ _ => lN3)
        with_unfolding_all
         exact dmO_end hO hI hi' hJS.symm hJE.symm hd hbd2 hq lF3 lN3 (by rfl) (by rfl) (by rfl) (by rfl) (by rfl) (by rfl) (by rfl) (by rfl) (by rfl) (by rfl) (by rfl) (by rfl) (by rfl) (by rfl)
  case done =>
    clear lF' lN' rgX hI8 hL8 F N FG hins B
    intro c u h tk hP F' N'
    dsimp only
    dsimp only [dmOps, kstB] at F'
    have hla : (C.la - 0).toNat = C.la.toNat := by omega
    rw [hla] at hP
    have hO := hP
    obtain ⟨hst, hcs, hps, hlc, hlp, hjs, hje, hbad⟩ := hP
    k_steps
    · (rename c.st.cur ≤ _ => hq)
      refine hret _ _ _ [] ⟨rfl, c.st.cur, _, rfl, .inr ⟨fun k hk => hbad k (by omega), ?_⟩⟩ (by assumption) News.nil
      show _ = if (C.run C.la.toNat).cur ≤ C.bd then (C.run C.la.toNat).cur else -1
      rw [← hst, if_pos hq]
    · (rename ¬ (c.st.cur ≤ _) => hq)
      refine hret _ _ _ [] ⟨rfl, -1, _, rfl, .inr ⟨fun k hk => hbad k (by omega), ?_⟩⟩ (by assumption) News.nil
      show _ = if (C.run C.la.toNat).cur ≤ C.bd then (C.run C.la.toNat).cur else -1
      rw [← hst, if_neg hq]
end Mine

end
section
open PySem PySem.W PySem.Calls PyProof.Rows PySem.Spec
set_option maxRecDepth 100000
namespace Mine
local macro_rules | `(tactic| ktr_room) => `(tactic| ((simp only [depth_deeper, depth_in1]); omega))
local macro_rules | `(tactic| walk_at "pyIter ref") => `(tactic| ((with_reducible show wpAny _ _ (pyIter (Value.ref _)) _ _ _); refine Hold.of ?_))
local macro_rules | `(tactic| walk_at "exec For Name Call cons nil") => `(tactic| (k_here; (rename Fr _ _ _ _ => lF'); (with_unfolding_all refine' For_invVF lF' ?k1 ?k2 ?_; (case k1 => exact rfl); (case k2 => exact rfl); k_whole)))
local macro_rules | `(tactic| walk_at "m open") => `(tactic| (k_dflt first
  | (refine' enter_plain ?q1 ?q2 ?q3 ?k1 ?k2 ?k3 ?k4 ?k5 ?kA ?kF ?kK ?k6 ?k7 ?k8 ?k9 ?kB ?_ ?c2 ?c3 ?c4 ?c5; (case q3 => assumption); (case q1 => assumption); (case q2 => assumption); (case kA => exact rfl); (case kF => exact rfl); (case kK => first | exact rfl | assumption); (case k1 => k_asm); (case k2 => k_asm); (case k3 => k_asm); (case k4 => k_asm); (case k5 => k_asm); (case k6 => k_is); (case k7 => k_is); (case k8 => ktr_room); (case k9 => first | exact BindsTo.of_eq rfl | exact binds_K (by k_in) rfl (by k_is) rfl rfl rfl | fail "k_enter: no rule for these arguments"); (case c5 => decide); (case kB => exact locs rfl); (case c2 => exact rfl); (case c3 => exact rfl); (case c4 => exact rfl); k_whole; intro g' L' h' FG' F' N' B' X' T'; (try dsimp only); (try k_lift B'); (try k_fold))
  | (refine' enter_cells ?q1 ?q2 ?q3 ?k1 ?k2 ?k3 ?k4 ?k5 ?kA ?kF ?kK ?k6 ?k7 ?k8 ?k9 ?kB ?kD ?_ ?c2 ?c3 ?c4; (case q3 => assumption); (case q1 => assumption); (case q2 => assumption); (case kA => exact rfl); (case kF => exact rfl); (case kK => first | exact rfl | assumption); (case k1 => k_asm); (case k2 => k_asm); (case k3 => k_asm); (case k4 => k_asm); (case k5 => k_asm); (case k6 => k_is); (case k7 => k_is); (case k8 => ktr_room); (case k9 => first | exact BindsTo.of_eq rfl | exact binds_K (by k_in) rfl (by k_is) rfl rfl rfl | fail "k_enter: no rule for these arguments"); (case kB => exact rfl); (case kD => decide +kernel); (case c2 => exact rfl); (case c3 => exact rfl); (case c4 => exact rfl); k_whole; intro g' L' h' tk' cells' FG' F' N' Y' B' X' T' l1; (try k_lt l1); k_cells Y'; (try simp only [List.cons_append, List.nil_append] at N'); (try dsimp only); (try k_lift B'); (try k_fold))))

local macro_rules | `(tactic| walk_at "CompSrc") => `(tactic| (refine Hold.of ?_))
local macro_rules | `(tactic| walk_at "CompEnd") => `(tactic| (refine Hold.of ?_))
local macro_rules | `(tactic| walk_at "subscriptTail Name BinOp str int") => `(tactic| ((with_reducible show wpAny _ _ (subscriptTail _ _ (Value.str _ _) (Value.int _ _)) _ _ _); refine item_at (by omega) (by omega) (by omega) ?_; intro _))

local macro_rules | `(tactic| walk_at "binaryOp FloorDiv int int") => `(tactic| (k_here; (with_reducible refine floordiv_int ?ne ?_ (Or.inl (PyProof.noPylong_of_log2 ?lg))); (case ne => assumption); (case lg => assumption)))
local macro_rules | `(tactic| walk_at "binaryOp Mult int int") => `(tactic| (k_here; (with_reducible refine mul_int ?_ (IntMulOk.of_left (PySem.intBits_le_64 (by omega) (by omega))))))
theorem pow4 : ∀ k : Nat, k < 11 → (4 : Int) ^ k ≠ 0 ∧ ((4 : Int) ^ k).natAbs.log2 < 9000 := by decide +kernel

theorem strs_snoc {v : Value} {z : Str} {t : Tok} (hv : v = .str z t) : ∀ {ys : List Value} {zs : List Str}, StrsAre ys zs → StrsAre (ys ++ [v]) (zs ++ [z])
  | _, _, .nil => by subst hv; exact .cons z t .nil
  | _, _, .cons y t' h => .cons y t' (strs_snoc hv h)
theorem sum_ones : ∀ {zs : List Str}, (∀ z ∈ zs, z.length = 1) → (zs.map (fun z => z.length)).sum = zs.length
  | [], _ => rfl
  | z :: r, h => by
    rw [List.map_cons, List.sum_cons, h z (.head _), sum_ones (fun q hq => h q (.tail _ hq)), List.length_cons]; omega
theorem sp_len1 {x z : Str} {p : Int} (h0 : 0 ≤ p) (h1 : p ≤ x.length) : (Txt.slice x none (some p) ++ z ++ Txt.slice x (some p) none).length = x.length + z.length := by
  have a := (fact_slice_ns x p).1 h0 h1
  have b := (fact_slice_sn x p).1 h0 h1
  rw [Str.length_append, Str.length_append]; omega
theorem sp_len2 {x : Str} {p : Int} (h0 : 0 ≤ p) (h1 : p ≤ x.length) : (Txt.slice x (some (p + 1)) none).length + p ≤ x.length := by
  have b := fact_slice_sn x (p + 1)
  by_cases c : p + 1 ≤ x.length
  · have := b.1 (by omega) c; omega
  · have := b.2 (by omega); omega

set_option maxHeartbeats 4000000
theorem spoil_ok (w : World) (t1 t2 : Tok) (x : Str) (n : Int) (ha : x.length ≤ 30) :
   Ok w 108 [.str x t1, .int n t2] [] (fun _ => True) (fun v nx => nx = [] ∧ ∃ z t, v = .str z t ∧ z.length ≤ x.length + 1) := by
  w_top off
  unfold Ok PRG KK LO
  k_fill
  intro dp un gd cn cs a ccd cl outer A₀ base h₀ L m mg mb mean s Q E rest B F X N T hk hdp hun hins hrest hapart hret
  obtain ⟨Q₀, hKQ, hret⟩ := KQ.make hret
  refine wpAny_call ?_
  walk_at "m open"
  have hp0 := fmod_lo (n.fdiv 5) (n := (x.length : Int) + 1) (by omega)
  have hp1 := fmod_hi (n.fdiv 5) (n := (x.length : Int) + 1) (by omega)
  have l1 := (fact_slice_ns x ((n.fdiv 5).fmod ((x.length : Int) + 1))).1 hp0 (by omega)
  have l2 := (fact_slice_sn x ((n.fdiv 5).fmod ((x.length : Int) + 1))).1 hp0 (by omega)
  have l3 := sp_len2 (x := x) hp0 (by omega)
  have l6 := fact_slice_sn x ((n.fdiv 5).fmod ((x.length : Int) + 1) + 2)
  have l4 := len_item x ((n.fdiv 5).fmod ((x.length : Int) + 1) + 1)
  have l5 := len_item x ((n.fdiv 5).fmod ((x.length : Int) + 1))
  k_steps
  all_goals (refine hret _ _ _ [] ⟨rfl, _, _, rfl, by first | omega | (simp only [Str.length_append, len_item]; omega)⟩ (by assumption) News.nil)

theorem text_ok (w : World) (t1 t2 : Tok) (n sz : Int) (ha : 0 ≤ sz) (hab : sz ≤ 10) :
   Ok w 101 [.int n t1, .int sz t2] [] (fun _ => True) (fun v nx => nx = [] ∧ ∃ z t, v = .str z t ∧ (z.length : Int) = sz) := by
  w_top off
  unfold Ok PRG KK LO
  k_fill
  intro dp un gd cn cs a ccd cl outer A₀ base h₀ L m mg mb mean s Q E rest B F X N T hk hdp hun hins hrest hapart hret
  obtain ⟨Q₀, hKQ, hret⟩ := KQ.make hret
  refine wpAny_call ?_
  walk_at "m open"
  k_steps
  unfold Hold
  have hMk := kstMark
  (rename Fr _ _ _ _ => lF'); (rename News _ _ _ _ => lN'); (rename IsRange _ _ _ _ _ _ _ _ => rgX)
  rename_i gg LL hx0 tkx0 FG F0 BB XX TT l12 co dco N0 h8 tk8 t8 u8 v8 keep
  replace dco : co.data = Data.cell (some (.int n t1)) := by with_unfolding_all exact dco
  have hsz9 : (sz - 0).toNat ≤ sizeLine := by rw [sizeLine_eq]; omega
  refine LCg.CompSrc.range (by rfl) lF' lN' rgX (small_one (by omega) (by omega) (by omega) (by omega)) (rangeSize_nat _ _) hsz9 (fun g => ?_)
  refine comp_inv (fun i ys news => news = [(LL + 1, co)] ∧ ∃ zs, StrsAre ys zs ∧ zs.length = i ∧ ∀ z ∈ zs, z.length = 1) ?turn ?fin _ 0 _ _ (Nat.zero_add _) ⟨rfl, [], ?st0, rfl, fun _ hz => nomatch hz⟩
  case st0 => constructor
  case turn =>
    clear lF' lN' rgX keep F N FG B BB hret F0 N0 l12
    intro i v ys news I oI C oC D m₂ h tk E' hi hv hJ hC hx F' N' off ne
    obtain ⟨tv, rfl⟩ := hv
    obtain ⟨rfl, zs, hz, hzl, hz1⟩ := hJ
    have hMark : KPfMark := True.intro
    have off3 := off
    simp only [LCg.Off3] at off
    have hpw := pow4 ((i : Int)).toNat (by omega)
    obtain ⟨hpw1, hpw2⟩ := hpw
    rw [show (0 : Int) + (i : Int) = (i : Int) by omega] at hx
    (with_reducible show wpAny _ _ _ _ _ _)
    k_fold
    k_steps
    unfold Hold
    (rename Fr _ _ _ _ => lF3); (rename News _ _ _ _ => lN3)
    refine LCg.CompEnd.intro lF3 lN3 [(LL + 1, co)] (fun p hp => hp) off3 trivial ⟨rfl, _, strs_snoc rfl hz, by rw [List.length_append, hzl]; rfl, fun z hz' => ?_⟩
    rcases List.mem_append.mp hz' with h9 | h9
    · exact hz1 z h9
    · rw [List.mem_singleton.mp h9]; exact len_item _ _
  case fin =>
    clear lF' lN' rgX keep
    rintro ys news ⟨rfl, zs, hz, hzl, hz1⟩
    unfold LCg.FinE
    intro D h tk F' N' o1
    dsimp only
    have hlen := sum_ones hz1
    k_steps
    have hD : h.IsList D ys.toArray := News.isList N' (.head _)
    refine' join_listW (ys := zs) ?j1 ?j2 ?j3 ?j4 (fun t' k => ?j5)
    case j1 => exact hD
    case j2 => exact hz
    case j3 => exact Nat.zero_le _
    case j4 => omega
    case j5 =>
      refine ⟨_, _, _, F', N', fun F9 N9 => hret _ _ _ [] ⟨rfl, _, _, rfl, ?_⟩ F9 News.nil⟩
      rw [show Txt.join (Str.ofString "") zs = Builtin.Str.glued (Str.ofString "") zs from rfl, size_glued, hlen, hzl, show (Str.ofString "").length = 0 from rfl]
      omega
end Mine

end
section
open PySem PySem.W PySem.Calls PyProof.Rows PySem.Spec
set_option maxRecDepth 100000
namespace Mine
local macro_rules | `(tactic| ktr_room) => `(tactic| ((simp only [depth_deeper, depth_in1]); omega))
local macro_rules | `(tactic| walk_at "pyIter ref") => `(tactic| ((with_reducible show wpAny _ _ (pyIter (Value.ref _)) _ _ _); refine Hold.of ?_))
local macro_rules | `(tactic| walk_at "exec For Name Call cons nil") => `(tactic| (k_here; (rename Fr _ _ _ _ => lF'); (with_unfolding_all refine' For_invVF lF' ?k1 ?k2 ?_; (case k1 => exact rfl); (case k2 => exact rfl); k_whole)))
local macro_rules | `(tactic| walk_at "m open") => `(tactic| (k_dflt first
  | (refine' enter_plain ?q1 ?q2 ?q3 ?k1 ?k2 ?k3 ?k4 ?k5 ?kA ?kF ?kK ?k6 ?k7 ?k8 ?k9 ?kB ?_ ?c2 ?c3 ?c4 ?c5; (case q3 => assumption); (case q1 => assumption); (case q2 => assumption); (case kA => exact rfl); (case kF => exact rfl); (case kK => first | exact rfl | assumption); (case k1 => k_asm); (case k2 => k_asm); (case k3 => k_asm); (case k4 => k_asm); (case k5 => k_asm); (case k6 => k_is); (case k7 => k_is); (case k8 => ktr_room); (case k9 => first | exact BindsTo.of_eq rfl | exact binds_K (by k_in) rfl (by k_is) rfl rfl rfl | fail "k_enter: no rule for these arguments"); (case c5 => decide); (case kB => exact locs rfl); (case c2 => exact rfl); (case c3 => exact rfl); (case c4 => exact rfl); k_whole; intro g' L' h' FG' F' N' B' X' T'; (try dsimp only); (try k_lift B'); (try k_fold))
  | (refine' enter_cells ?q1 ?q2 ?q3 ?k1 ?k2 ?k3 ?k4 ?k5 ?kA ?kF ?kK ?k6 ?k7 ?k8 ?k9 ?kB ?kD ?_ ?c2 ?c3 ?c4; (case q3 => assumption); (case q1 => assumption); (case q2 => assumption); (case kA => exact rfl); (case kF => exact rfl); (case kK => first | exact rfl | assumption); (case k1 => k_asm); (case k2 => k_asm); (case k3 => k_asm); (case k4 => k_asm); (case k5 => k_asm); (case k6 => k_is); (case k7 => k_is); (case k8 => ktr_room); (case k9 => first | exact BindsTo.of_eq rfl | exact binds_K (by k_in) rfl (by k_is) rfl rfl rfl | fail "k_enter: no rule for these arguments"); (case kB => exact rfl); (case kD => decide +kernel); (case c2 => exact rfl); (case c3 => exact rfl); (case c4 => exact rfl); k_whole; intro g' L' h' tk' cells' FG' F' N' Y' B' X' T' l1; (try k_lt l1); k_cells Y'; (try simp only [List.cons_append, List.nil_append] at N'); (try dsimp only); (try k_lift B'); (try k_fold))))

local macro_rules | `(tactic| walk_at "CompSrc") => `(tactic| (refine Hold.of ?_))
local macro_rules | `(tactic| walk_at "CompEnd") => `(tactic| (refine Hold.of ?_))
local macro_rules | `(tactic| walk_at "ite") => `(tactic| (with_reducible refine ite_constB ?_))
local macro_rules | `(tactic| walk_at "tb sub") => `(tactic| first | exact fun p hp => hp | exact fun p hp => .tail _ hp | exact fun p hp => .tail _ (.tail _ hp) | exact fun p hp => .tail _ (.tail _ (.tail _ hp)) | exact fun p hp => .tail _ (.tail _ (.tail _ (.tail _ hp))) | exact fun p hp => .tail _ (.tail _ (.tail _ (.tail _ (.tail _ hp)))))
local macro_rules | `(tactic| walk_at "tb item") => `(tactic| ((with_reducible show wpAny _ _ (subscriptTail _ _ (Value.ref _) (Value.int _ _)) _ _ _); k_dflt (first
  | (refine' tb_cell ?T ?P ?N ?m ?r ?y ?a ?b ?_; (case T => with_reducible assumption); (case P => with_reducible assumption); (case N => k_asm); (case m => walk_at "tb sub"); (case r => omega); (case y => omega); (case a => omega); (case b => omega); k_whole; intro _)
  | (refine' tb_row ?g ?N ?m ?x ?a ?b ?_; (case g => with_reducible assumption); (case N => k_asm); (case m => k_mem); (case x => omega); (case a => omega); (case b => omega); k_whole))))
local macro_rules | `(tactic| walk_at "subscriptTail Name Name ref int") => `(tactic| walk_at "tb item")
local macro_rules | `(tactic| walk_at "subscriptTail Name BinOp ref int") => `(tactic| walk_at "tb item")
local macro_rules | `(tactic| walk_at "subscriptTail") => `(tactic| walk_at "tb item")
local macro_rules | `(tactic| walk_at "setItem ref int") => `(tactic| (k_here; (with_reducible show wpAny _ _ (setItem (Value.ref _) (Value.int _ _) (Value.int _ _)) _ _ _); k_dflt (refine' tb_set ?T ?g ?P ?F ?N ?S ?I ?r ?y ?G ?C ?O ?a ?b ?_; (case T => with_reducible assumption); (case g => with_reducible assumption); (case P => with_reducible assumption); (case F => k_asm); (case N => k_asm); (case S => walk_at "tb sub"); (case I => with_reducible assumption); (case r => omega); (case y => omega); (case G => with_reducible assumption); (case C => with_reducible assumption); (case O => with_reducible assumption); (case a => omega); (case b => omega); k_whole; intro h' F' N' hi'; (try k_sweep))))
local macro_rules | `(tactic| walk_at "rd loc") => `(tactic| (refine' RdS.loc ?F ?k ?l ?v; (case F => k_asm); (case k => exact rfl); (case l => exact ⟨rfl, rfl⟩); (case v => exact rfl)))
local macro_rules | `(tactic| walk_at "rd cell") => `(tactic| (refine' RdS.cell ?N ?c ?m ?d ?k ?x ?b; (case N => k_asm); (case c => exact rfl); (case m => k_mem); (case d => assumption); (case k => exact rfl); (case x => exact rfl); (case b => exact rfl)))
local macro_rules | `(tactic| walk_at "exec If") => `(tactic| ((with_reducible show wpAny _ _ (exec (Stmt.If (Expr.BoolOp BoolOp.And _ _) _ _ _) _) _ _ _); refine Hold.of ?_))
set_option maxHeartbeats 3000000
theorem table_ok (w : World) (t1 t2 : Tok) (x y : Str) (ha : x.length ≤ 16) (hb : y.length ≤ 16) :
   Ok w 113 [.str x t1, .str y t2] [] (fun _ => True) (fun v nx => nx = [] ∧ ∃ t, v = .int (osa (fun p => Txt.item x ((x.length : Int) - 1 - p)) (fun q => Txt.item y ((y.length : Int) - 1 - q)) x.length y.length) t) := by
  w_top off
  unfold Ok PRG KK LO
  k_fill
  intro dp un gd cn cs a ccd cl outer A₀ base h₀ L m mg mb mean s Q E rest B F X N T hk hdp hun hins hrest hapart hret
  obtain ⟨Q₀, hKQ, hret⟩ := KQ.make hret
  refine wpAny_call ?_
  walk_at "m open"
  k_steps
  unfold Hold
  have hMk := kstMark
  (rename Fr _ _ _ _ => lF'); (rename News _ _ _ _ => lN'); (rename IsRange _ _ _ _ _ _ _ _ => rgX)
  rename_i gg LL hx0 tkx0 FG F0 BB XX TT l12 co dco N0 h8 tk8 t8 u8 v8 keep
  replace dco : co.data = Data.cell (some (.str y t2)) := by with_unfolding_all exact dco
  have hsz9 : ((x.length : Int) + 2 - 0).toNat ≤ sizeLine := by rw [sizeLine_eq]; omega
  refine LCg.CompSrc.range (by rfl) lF' lN' rgX (small_one (by omega) (by omega) (by omega) (by omega)) (rangeSize_nat _ _) hsz9 (fun g => ?_)
  refine comp_inv (fun i ys news => ∃ rows, news = (LL + 1, co) :: rows ∧ TbQ ((y.length : Int) + 2).toNat i ys rows ∧ ∀ p ∈ rows, p.1 ≠ LL + 1) ?turn ?fin _ 0 _ _ (Nat.zero_add _) ⟨[], rfl, TbQ.zero, fun _ hp => nomatch hp⟩
  case turn =>
    clear lF' lN' rgX keep F N FG B BB hret F0 N0 l12
    intro i v ys news I oI C oC D m₂ h tk E' hi hv hJ hC hx F' N' off ne
    obtain ⟨tv, rfl⟩ := hv
    obtain ⟨rows, rfl, hQ, hca⟩ := hJ
    have hMark : KPfMark := True.intro
    have off3 := off
    simp only [LCg.Off3] at off
    (with_reducible show wpAny _ _ _ _ _ _)
    k_fold
    k_steps
    unfold Hold
    (rename Fr _ _ _ _ => lF3); (rename News _ _ _ _ => lN3); (rename IntsAre _ _ => hI3); (rename _ ∧ _ => hlt)
    have e0 : (List.replicate ((y.length : Int) + 2).toNat [(0 : Int)]).flatten = List.replicate ((y.length : Int) + 2).toNat 0 := by simp
    rw [e0] at hI3
    exact tb_elt lF3 lN3 hlt off3 hI3 hQ hca (fun _ => trivial)
  case fin =>
    clear lF' lN' rgX keep
    rintro ys news ⟨rows, rfl, hQ, hca⟩
    rw [show ((x.length : Int) + 2 - 0).toNat = x.length + 2 by omega, show ((y.length : Int) + 2).toNat = y.length + 2 by omega] at hQ
    obtain ⟨ad, vals, rfl, rfl, hinj, hvals⟩ := hQ
    unfold LCg.FinA
    intro G h tk F' N' o1
    have o2 := o1
    simp only [LCg.Off1] at o1
    obtain ⟨oG, offr⟩ := o1
    obtain ⟨m0, F1⟩ : ∃ m0, Fr gg LL h (kstB m0 [(Str.ofString "grid", .ref G), (Str.ofString "one", .str x t1)]) := ⟨_, frB (by kst_all) F'⟩
    clear F'
    dsimp only [kstB] at F1
    dsimp only
    k_steps
    unfold Hold
    (rename Fr _ _ _ _ => lF'); (rename News _ _ _ _ => lN'); (rename IsRange _ _ _ _ _ _ _ _ => rgX)
    have hadG : ∀ r, r < x.length + 2 → G ≠ ad r := fun r hr => Ne.symm (off1_mem offr _ (rows_mem hr))
    have hadC : ∀ r, r < x.length + 2 → LL + 1 ≠ ad r := fun r hr => Ne.symm (hca _ (rows_mem hr))
    with_unfolding_all
     refine' rng (σ := TbS) (fun c => tbLed G (LL + 1) co (refsOf ad (x.length + 2)).length ad (x.length + 2) [] c.vals) (fun c => [(Str.ofString "grid", .ref G), (Str.ofString "one", .str x t1)]) (fun k c => tbP x y k 0 c) ⟨vals, fun _ => List.replicate (y.length + 2) 0⟩ (by rfl) rgX ?ks ?kz lF' ?kn ?kk ?kp ?turn ?done
    case ks => exact small_down (by omega) (by omega) (by omega) (by omega)
    case kz => exact rangeSize_downNat _ _
    case kn => (show News _ _ _ (_ :: _ :: (rowsOf ad vals (x.length + 2) ++ [])); rw [List.append_nil]; exact lN')
    case kk => kst_all
    case kp => exact ⟨fun r hr => ⟨hvals r hr, List.length_replicate⟩, fun p' q' _ _ h => by omega⟩
    case turn => 
      clear lF' lN' rgX
      intro c k tk u h tk own hk' hoff hP F' N'
      have ei : (x.length : Int) + (k : Int) * (-1) = (x.length : Int) - k := by omega
      rw [ei] at F'
      simp only [List.cons_append, List.append_assoc, List.nil_append] at N'
      dsimp only [kstB] at F'
      have hk9 : k ≤ x.length := by omega
      (with_reducible show wpAny _ _ _ _ _ _)
      k_fold
      k_steps
      unfold Hold
      (rename Fr _ _ _ _ => lF2); (rename News _ _ _ _ => lN2); (rename IsRange _ _ _ _ _ _ _ _ => rgY)
      with_unfolding_all
       refine' rng (σ := TbS × Tok) (fun c => tbLed G (LL + 1) co (refsOf ad (x.length + 2)).length ad (x.length + 2) own c.1.vals) (fun c => [(Str.ofString "grid", .ref G), (Str.ofString "one", .str x t1), (Str.ofString "i", .int ((x.length : Int) - k) c.2)]) (fun q c => tbP x y k q c.1) ⟨c, _⟩ (by rfl) rgY ?ks2 ?kz2 lF2 ?kn2 ?kk2 ?kp2 ?turn2 ?done2
      case ks2 => exact small_down (by omega) (by omega) (by omega) (by omega)
      case kz2 => exact rangeSize_downNat _ _
      case kn2 => exact lN2
      case kk2 => kst_all
      case kp2 => exact hP
      case turn2 =>
        clear lF2 lN2 rgY hret
        rintro ⟨d, ti⟩ q t' u' h' tk' own' hq hoff' hP' F' N'
        have ej : (y.length : Int) + (q : Int) * (-1) = (y.length : Int) - q := by omega
        rw [ej] at F'
        simp only [tbLed, List.cons_append, List.append_assoc] at N'
        dsimp only [kstB] at F'
        have hq9 : q ≤ y.length := by omega
        dsimp only at hP'
        have hown : ∀ r, r < x.length + 2 → ∀ p ∈ own ++ own', p.1 ≠ ad r := fun r hr p hp => (List.mem_append.mp hp).elim
          (fun e => hoff p e _ (List.mem_map.mpr ⟨_, .tail _ (.tail _ (List.mem_append_left _ (rows_mem hr))), rfl⟩))
          (fun e => hoff' p e _ (List.mem_map.mpr ⟨_, .tail _ (.tail _ (List.mem_append_left _ (rows_mem hr))), rfl⟩))
        obtain ⟨tail, hT⟩ : ∃ tail, tail = rowsOf ad d.vals (x.length + 2) ++ (own ++ own') := ⟨_, rfl⟩
        rw [← hT] at N'
        obtain ⟨gv, hgv⟩ : ∃ gv, gv = refsOf ad (x.length + 2) := ⟨_, rfl⟩
        rw [← hgv] at N'
        (with_reducible show wpAny _ _ _ _ _ _)
        k_fold
        k_steps
        · (rename Fr _ _ _ _ => lF5); (rename News _ _ _ _ => lN5); (rename IntsAre _ _ => hI5)
          with_unfolding_all
           refine' tbI_end hP' hk9 hq9 hgv ?_ lF5 lN5 hI5 (by rfl) (by rfl) (by rfl) ?_
          · rw [hgv]
          · exact tb_edge (.inl (by omega))
        · (rename Fr _ _ _ _ => lF5); (rename News _ _ _ _ => lN5); (rename IntsAre _ _ => hI5)
          with_unfolding_all
           refine' tbI_end hP' hk9 hq9 hgv ?_ lF5 lN5 hI5 (by rfl) (by rfl) (by rfl) ?_
          · rw [hgv]
          · exact tb_edge (.inr (by omega))
        · unfold Hold
          refine' exec_chain ?r1 ?r2 ?r3 ?r4 ?r5 ?r6 ?x ?y ?i ?j ?i2 ?j2 ?h1 ?h2
          case r1 => walk_at "rd loc"
          case r2 => walk_at "rd loc"
          case r3 => walk_at "rd loc"
          case r4 => walk_at "rd cell"
          case r5 => walk_at "rd loc"
          case r6 => walk_at "rd loc"
          case x => omega
          case y => omega
          case i => omega
          case j => omega
          case i2 => omega
          case j2 => omega
          case h1 =>
            intro hcond tk9
            dsimp only
            k_steps
            (rename Fr _ _ _ _ => lF5); (rename News _ _ _ _ => lN5); (rename IntsAre _ _ => hI5); (rename _ ∨ _ => a9); (rename _ ∧ _ => b9)
            with_unfolding_all
             refine' tbI_end hP' hk9 hq9 hgv ?_ lF5 lN5 hI5 (by rfl) (by rfl) (by rfl) ?_
            · rw [hgv]
            · exact tb_v1 hP' hk9 hq9 (by assumption) (by assumption) hcond a9 b9
          case h2 =>
            intro hcond tk9
            dsimp only
            k_steps
            (rename Fr _ _ _ _ => lF5); (rename News _ _ _ _ => lN5); (rename IntsAre _ _ => hI5); (rename _ ∨ _ => a9); (rename _ ∧ _ => b9)
            with_unfolding_all
             refine' tbI_end hP' hk9 hq9 hgv ?_ lF5 lN5 hI5 (by rfl) (by rfl) (by rfl) ?_
            · rw [hgv]
            · exact tb_v2 hP' hk9 hq9 (by assumption) (by assumption) hcond a9 b9
      case done2 =>
        clear lF2 lN2 rgY hret
        rintro ⟨d, ti⟩ u' h' tk' hP' F' N'
        dsimp only at hP' F' N'
        dsimp only
        dsimp only [kstB] at F'
        k_steps
        (rename Fr _ _ _ _ => lF5); (rename News _ _ _ _ => lN5)
        with_unfolding_all
         refine' tbO_end hP' ?hn9 lF5 lN5 (by rfl) (by rfl)
        all_goals omega
    case done =>
      clear lF' lN' rgX
      intro c u h tk hP F' N'
      dsimp only [kstB] at F'
      rw [show ((x.length : Int) - -1).toNat = x.length + 1 by omega] at hP
      obtain ⟨tail, hT⟩ : ∃ tail, tail = rowsOf ad c.vals (x.length + 2) ++ [] := ⟨_, rfl⟩
      simp only [tbLed] at N'
      rw [← hT] at N'
      obtain ⟨gv, hgv⟩ : ∃ gv, gv = refsOf ad (x.length + 2) := ⟨_, rfl⟩
      rw [← hgv] at N'
      dsimp only
      k_steps
      have hv := hP.at (r := 0) (j := 0) (p' := x.length) (q' := y.length) (Nat.le_refl _) (Nat.le_refl _) (.inl (Nat.lt_succ_self _)) (by omega) (by omega)
      exact hret _ _ _ [] ⟨rfl, _, congrArg (fun z => Value.int z _) hv⟩ (by assumption) News.nil
end Mine

end
section
open PySem PySem.W PySem.Calls PyProof.Rows PySem.Spec
set_option maxRecDepth 100000
namespace Mine
local macro_rules | `(tactic| ktr_room) => `(tactic| ((simp only [depth_deeper, depth_in1]); omega))
local macro_rules | `(tactic| walk_at "idle") => `(tactic| fail)
local macro_rules | `(tactic| walk_at "idle") => `(tactic| fail)
local macro_rules | `(tactic| walk_at "idle") => `(tactic| fail)
local macro_rules | `(tactic| walk_at "idle") => `(tactic| fail)
local macro_rules | `(tactic| walk_at "idle") => `(tactic| fail)
local macro_rules | `(tactic| walk_at "idle") => `(tactic| fail)
local macro_rules | `(tactic| walk_at "idle") => `(tactic| fail)
local macro_rules | `(tactic| walk_at "idle") => `(tactic| fail)
local macro_rules | `(tactic| walk_at "idle") => `(tactic| fail)
local macro_rules | `(tactic| walk_at "idle") => `(tactic| fail)
local macro_rules | `(tactic| walk_at "idle") => `(tactic| fail)
local macro_rules | `(tactic| walk_at "pyIter ref") => `(tactic| ((with_reducible show wpAny _ _ (pyIter (Value.ref _)) _ _ _); refine Hold.of ?_))
local macro_rules | `(tactic| walk_at "exec For Name Call cons nil") => `(tactic| (k_here; (rename Fr _ _ _ _ => lF'); (with_unfolding_all refine' For_invVF lF' ?k1 ?k2 ?_; (case k1 => exact rfl); (case k2 => exact rfl); k_whole)))
local macro_rules | `(tactic| walk_at "m open") => `(tactic| (k_dflt first
  | (refine' enter_plain ?q1 ?q2 ?q3 ?k1 ?k2 ?k3 ?k4 ?k5 ?kA ?kF ?kK ?k6 ?k7 ?k8 ?k9 ?kB ?_ ?c2 ?c3 ?c4 ?c5; (case q3 => assumption); (case q1 => assumption); (case q2 => assumption); (case kA => exact rfl); (case kF => exact rfl); (case kK => first | exact rfl | assumption); (case k1 => k_asm); (case k2 => k_asm); (case k3 => k_asm); (case k4 => k_asm); (case k5 => k_asm); (case k6 => k_is); (case k7 => k_is); (case k8 => ktr_room); (case k9 => first | exact BindsTo.of_eq rfl | exact binds_K (by k_in) rfl (by k_is) rfl rfl rfl | fail "k_enter: no rule for these arguments"); (case c5 => decide); (case kB => exact locs rfl); (case c2 => exact rfl); (case c3 => exact rfl); (case c4 => exact rfl); k_whole; intro g' L' h' FG' F' N' B' X' T'; (try dsimp only); (try k_lift B'); (try k_fold))
  | (refine' enter_cells ?q1 ?q2 ?q3 ?k1 ?k2 ?k3 ?k4 ?k5 ?kA ?kF ?kK ?k6 ?k7 ?k8 ?k9 ?kB ?kD ?_ ?c2 ?c3 ?c4; (case q3 => assumption); (case q1 => assumption); (case q2 => assumption); (case kA => exact rfl); (case kF => exact rfl); (case kK => first | exact rfl | assumption); (case k1 => k_asm); (case k2 => k_asm); (case k3 => k_asm); (case k4 => k_asm); (case k5 => k_asm); (case k6 => k_is); (case k7 => k_is); (case k8 => ktr_room); (case k9 => first | exact BindsTo.of_eq rfl | exact binds_K (by k_in) rfl (by k_is) rfl rfl rfl | fail "k_enter: no rule for these arguments"); (case kB => exact rfl); (case kD => decide +kernel); (case c2 => exact rfl); (case c3 => exact rfl); (case c4 => exact rfl); k_whole; intro g' L' h' tk' cells' FG' F' N' Y' B' X' T' l1; (try k_lt l1); k_cells Y'; (try simp only [List.cons_append, List.nil_append] at N'); (try dsimp only); (try k_lift B'); (try k_fold))))

local macro_rules | `(tactic| walk_at "exec While") => `(tactic| ((with_reducible show wpAny _ _ (exec _ _) _ _ _); refine Hold.of ?_))

local macro_rules | `(tactic| walk_at "call ref") => `(tactic| (k_here; (with_reducible show wpAny _ _ (call (Value.ref 113) _) _ _ _); k_dflt (refine' Ok.at (table_ok _ _ _ _ _ ?y1 ?y2) [] ?kB ?kF ?kX ?kN ?kT ?kk ?kd ?ku trivial (fun _ h => nomatch h) (fun _ h => nomatch h) (fun _ h => nomatch h) ?_; (case y1 => omega); (case y2 => omega); (case kB => k_asm); (case kF => k_asm); (case kX => k_asm); (case kN => k_asm); (case kT => k_asm); (case kk => exact rfl); (case kd => (show _ + 1 + 6 < recursionLimit); (rw [rm_d]; omega)); (case ku => (show _ + 3 + 60 < cLine); (rw [rm_u]; omega)); k_whole; intro v9 h' tk nx9 hp9 F' N'; (obtain ⟨hn9, t9, hv9⟩ := hp9); subst hn9; subst hv9)))
structure PairW (x y o t : Str) : Prop where
  le : o.length ≤ t.length
  t16 : t.length ≤ 16
  ne : 0 < o.length → Txt.item o 0 ≠ Txt.item t 0
  same : Txt.item x 0 ≠ Txt.item y 0 → x.length = y.length → o = x
def PairQ (x y : Str) (place : Int) (v : Value) (nx : List (Addr × Obj)) : Prop :=
  ∃ (a : Addr) (o t : Str) (u1 u2 u3 u4 u5 u6 : Tok), nx = [(a, { cls := Value.type "tuple", data := Data.seq #[.str (Txt.mul (Str.ofString "x") place ++ o ++ Str.ofString "yx") u1, .str (Txt.mul (Str.ofString "y") place ++ t ++ Str.ofString "x") u2, .int o.length u3, .int t.length u4, .int place u5, .int (osa (tbA o) (tbA t) o.length t.length) u6] })] ∧
    v = .ref a ∧ PairW x y o t
theorem pair_w {x y o t : Str} (ho : o.length ≤ 16) (ht : t.length ≤ 16) (hs : Txt.item x 0 ≠ Txt.item y 0 → o = x ∧ t = y) (hd : ((o.length : Int) = 0 ∨ (t.length : Int) = 0) ∨ (Txt.item o 0 == Txt.item t 0) = false) :
    (¬ ((t.length : Int) < (o.length : Int)) → PairW x y o t) ∧ ((t.length : Int) < (o.length : Int) → PairW x y t o) := by
  constructor
  · intro h
    refine ⟨by omega, by omega, fun h0 => ?_, fun h1 h2 => (hs h1).1⟩
    rcases hd with hd | hd
    · omega
    · simpa using hd
  · intro h
    refine ⟨by omega, by omega, fun h0 => ?_, fun h1 h2 => ?_⟩
    · rcases hd with hd | hd
      · omega
      · exact fun e => absurd e.symm (by simpa using hd)
    · obtain ⟨rfl, rfl⟩ := hs h1
      omega
theorem slice1 {o : Str} (h : 1 ≤ o.length) : (Txt.slice o (some 1) none).length < o.length := by
  have b := (fact_slice_sn o 1).1 (by omega) (by omega)
  omega
structure PrS where
  o : Str
  t : Str
  u1 : Tok
  u2 : Tok
set_option maxHeartbeats 3000000
theorem pair_ok (w : World) (t1 t2 t3 : Tok) (x y : Str) (place : Int) (ha : x.length ≤ 16) (hb : y.length ≤ 16) (hp0 : 0 ≤ place) (hp1 : place ≤ 3) :
   Ok2 12 90 w 120 [.str x t1, .str y t2, .int place t3] [] (fun _ => True) (fun v nx => PairQ x y place v nx) := by
  w_top off
  unfold Ok2 PRG KK LO
  k_fill
  intro dp un gd cn cs a ccd cl outer A₀ base h₀ L m mg mb mean s Q E rest B F X N T hk hdp hun hins hrest hapart hret
  obtain ⟨Q₀, hKQ, hret⟩ := KQ.make hret
  refine wpAny_call ?_
  walk_at "m open"
  k_steps
  unfold Hold
  (rename Fr _ _ _ _ => lF'); (rename News _ _ _ _ => lN')
  refine whl (σ := PrS) (fun _ => []) (fun c => [(Str.ofString "one", .str c.o c.u1), (Str.ofString "two", .str c.t c.u2), (Str.ofString "place", .int place t3)]) (fun c => c.o.length ≤ 16 ∧ c.t.length ≤ 16 ∧ (Txt.item x 0 ≠ Txt.item y 0 → c.o = x ∧ c.t = y)) (fun c => c.o.length) ⟨x, y, t1, t2⟩ lF' lN' ?kk ?kp ?turn
  case kk => kst_all
  case kp => exact ⟨ha, hb, fun _ => ⟨rfl, rfl⟩⟩
  case turn =>
    clear lF' lN'
    rintro ⟨o, t, u1, u2⟩ u h tk ⟨ho, ht, hs⟩ F' N'
    dsimp only at ho ht hs
    dsimp only [kstB] at F'
    have hMk := kstMark
    (with_reducible show wpAny _ _ _ _ _ _)
    k_fold
    k_steps
    all_goals first
      | exact hret _ _ _ _ ⟨_, _, _, _, _, _, _, _, _, rfl, rfl, (pair_w ho ht hs (.inr (by assumption))).1 (by assumption)⟩ (by assumption) (by assumption)
      | exact hret _ _ _ _ ⟨_, _, _, _, _, _, _, _, _, rfl, rfl, (pair_w ho ht hs (.inr (by assumption))).2 (by assumption)⟩ (by assumption) (by assumption)
      | exact hret _ _ _ _ ⟨_, _, _, _, _, _, _, _, _, rfl, rfl, (pair_w ho ht hs (.inl (by omega))).1 (by omega)⟩ (by assumption) (by assumption)
      | exact hret _ _ _ _ ⟨_, _, _, _, _, _, _, _, _, rfl, rfl, (pair_w ho ht hs (.inl (by omega))).2 (by omega)⟩ (by assumption) (by assumption)
      | skip
    (rename Fr _ _ _ _ => lF5); (rename (_ == _) = true => he)
    refine' whl_end (⟨Txt.slice o (some 1) none, Txt.slice t (some 1) none, ?ta, ?tb⟩ : PrS) lF5 (fun _ h => nomatch h) ?ek ?ep ?em
    case ek => kst_all
    case ep => exact ⟨by (show (Txt.slice o (some 1) none).length ≤ 16); omega, by (show (Txt.slice t (some 1) none).length ≤ 16); omega, fun h => by obtain ⟨e1, e2⟩ := hs h; subst e1; subst e2; exact absurd (by simpa using he) h⟩
    case em => exact slice1 (by omega)
end Mine

end
section
open PySem PySem.W PySem.Calls PyProof.Rows PySem.Spec
set_option maxRecDepth 100000
namespace Mine
local macro_rules | `(tactic| ktr_room) => `(tactic| ((simp only [depth_deeper, depth_in1]); omega))
local macro_rules | `(tactic| walk_at "idle") => `(tactic| fail)
local macro_rules | `(tactic| walk_at "idle") => `(tactic| fail)
local macro_rules | `(tactic| walk_at "idle") => `(tactic| fail)
local macro_rules | `(tactic| walk_at "idle") => `(tactic| fail)
local macro_rules | `(tactic| walk_at "idle") => `(tactic| fail)
local macro_rules | `(tactic| walk_at "idle") => `(tactic| fail)
local macro_rules | `(tactic| walk_at "idle") => `(tactic| fail)
local macro_rules | `(tactic| walk_at "idle") => `(tactic| fail)
local macro_rules | `(tactic| walk_at "idle") => `(tactic| fail)
local macro_rules | `(tactic| walk_at "idle") => `(tactic| fail)
local macro_rules | `(tactic| walk_at "idle") => `(tactic| fail)
local macro_rules | `(tactic| walk_at "idle") => `(tactic| fail)
local macro_rules | `(tactic| walk_at "idle") => `(tactic| fail)
local macro_rules | `(tactic| walk_at "idle") => `(tactic| fail)
local macro_rules | `(tactic| walk_at "pyIter ref") => `(tactic| ((with_reducible show wpAny _ _ (pyIter (Value.ref _)) _ _ _); refine Hold.of ?_))
local macro_rules | `(tactic| walk_at "exec For Name Call cons nil") => `(tactic| (k_here; (rename Fr _ _ _ _ => lF'); (with_unfolding_all refine' For_invVF lF' ?k1 ?k2 ?_; (case k1 => exact rfl); (case k2 => exact rfl); k_whole)))
local macro_rules | `(tactic| walk_at "m open") => `(tactic| (k_dflt first
  | (refine' enter_plain ?q1 ?q2 ?q3 ?k1 ?k2 ?k3 ?k4 ?k5 ?kA ?kF ?kK ?k6 ?k7 ?k8 ?k9 ?kB ?_ ?c2 ?c3 ?c4 ?c5; (case q3 => assumption); (case q1 => assumption); (case q2 => assumption); (case kA => exact rfl); (case kF => exact rfl); (case kK => first | exact rfl | assumption); (case k1 => k_asm); (case k2 => k_asm); (case k3 => k_asm); (case k4 => k_asm); (case k5 => k_asm); (case k6 => k_is); (case k7 => k_is); (case k8 => ktr_room); (case k9 => first | exact BindsTo.of_eq rfl | exact binds_K (by k_in) rfl (by k_is) rfl rfl rfl | fail "k_enter: no rule for these arguments"); (case c5 => decide); (case kB => exact locs rfl); (case c2 => exact rfl); (case c3 => exact rfl); (case c4 => exact rfl); k_whole; intro g' L' h' FG' F' N' B' X' T'; (try dsimp only); (try k_lift B'); (try k_fold))
  | (refine' enter_cells ?q1 ?q2 ?q3 ?k1 ?k2 ?k3 ?k4 ?k5 ?kA ?kF ?kK ?k6 ?k7 ?k8 ?k9 ?kB ?kD ?_ ?c2 ?c3 ?c4; (case q3 => assumption); (case q1 => assumption); (case q2 => assumption); (case kA => exact rfl); (case kF => exact rfl); (case kK => first | exact rfl | assumption); (case k1 => k_asm); (case k2 => k_asm); (case k3 => k_asm); (case k4 => k_asm); (case k5 => k_asm); (case k6 => k_is); (case k7 => k_is); (case k8 => ktr_room); (case k9 => first | exact BindsTo.of_eq rfl | exact binds_K (by k_in) rfl (by k_is) rfl rfl rfl | fail "k_enter: no rule for these arguments"); (case kB => exact rfl); (case kD => decide +kernel); (case c2 => exact rfl); (case c3 => exact rfl); (case c4 => exact rfl); k_whole; intro g' L' h' tk' cells' FG' F' N' Y' B' X' T' l1; (try k_lt l1); k_cells Y'; (try simp only [List.cons_append, List.nil_append] at N'); (try dsimp only); (try k_lift B'); (try k_fold))))


def RestL : List Int := [4, 27, 11, 38, 7, 64, 2, 1, 6, 93, 52, 18, 3, 40, 29, 3]
theorem rest_ok (w : World) : Ok w 96 [] [] (fun _ => True) (fun v nx => ∃ a vs k, nx = [(a, PySem.W.listOf (List.toArray vs) k)] ∧ v = .ref a ∧ IntsAre vs RestL) := by
  w_top off
  unfold Ok PRG KK LO
  k_fill
  intro dp un gd cn cs a ccd cl outer A₀ base h₀ L m mg mb mean s Q E rest B F X N T hk hdp hun hins hrest hapart hret
  obtain ⟨Q₀, hKQ, hret⟩ := KQ.make hret
  refine wpAny_call ?_
  walk_at "m open"
  k_steps
  refine hret _ _ _ _ ⟨_, _, _, rfl, rfl, ?_⟩ (by assumption) (by assumption)
  unfold RestL
  repeat (first | exact .nil | refine .cons _ _ ?_)
end Mine

end
section
open PySem PySem.W PySem.Calls PyProof.Rows PySem.Spec
set_option maxRecDepth 100000
namespace Mine
section
variable {prog : Program} {w : World} {A : Around} {E : Value → Shared → Prop} {s : Shared} {env : Env} {h₀ : Heap} {x : Str} {target : Expr} {body : List Stmt} {Q : Flow → Shared → Prop}

theorem lst_apart {h : Heap} {L l : Addr} {items : List Value} {k : Nat} {led : List (Addr × Obj)} {m₀ : Str → Option Value} (F : Fr h₀ L h m₀) (N : News h₀ L h ((l, PySem.W.listOf items.toArray k) :: led)) (hne : ∀ p ∈ led, p.1 ≠ l) :
    h.IsList l items.toArray ∧ l ≠ h.objs.size ∧ L ∉ [h.objs.size, l] ∧ (∀ q ∈ led, q.1 ∉ [h.objs.size, l]) := by
  have hl := N _ (.head _)
  have hlt : l < h.objs.size := Heap.lt_size hl.1
  refine ⟨News.isList N (.head _), Nat.ne_of_lt hlt, fun hm => ?_, fun q hq hm => ?_⟩
  · rcases List.mem_cons.mp hm with e | hm
    · exact absurd F.ns.lt (e ▸ Nat.lt_irrefl _)
    · exact hl.2.1 (List.mem_singleton.mp hm).symm
  · rcases List.mem_cons.mp hm with e | hm
    · exact absurd (Heap.lt_size (N q (.tail _ hq)).1) (e ▸ Nat.lt_irrefl _)
    · exact hne q hq (List.mem_singleton.mp hm)

/-- a loop over a list that the call has made, by an invariant that names every name it wants -/
theorem lst {σ : Type} {l : Addr} {items : List Value} {k : Nat} {m₀ : Str → Option Value} (Led : σ → List (Addr × Obj)) (ps : σ → List (Str × Value)) (P : Nat → σ → Prop) (c₀ : σ)
    (hh : A.handled = none) (F : Fr h₀ env.locals s.heap m₀) (N : News h₀ env.locals s.heap ((l, PySem.W.listOf items.toArray k) :: Led c₀)) (hne : ∀ p ∈ Led c₀, p.1 ≠ l)
    (hk : ∀ p ∈ ps c₀, m₀ p.1 = some p.2) (hp : P 0 c₀)
    (turn : ∀ (c : σ) (i : Nat) v (u : Str → Option Value) h tk own, i < items.length → items[i]? = some v → OwnOff own ((Led c₀).map (·.1)) → P i c →
      Fr h₀ env.locals h (fun y => if y = x then some v else kstB u (ps c) y) → News h₀ env.locals h (Led c ++ own) →
      wpAny (model prog w) A (execs body env) (InvPostN h₀ env.locals (RngJ Led ps P (i + 1)) own ((Led c₀).map (·.1)) { s with heap := h, toks := tk } Q) E { s with heap := h, toks := tk })
    (done : ∀ (c : σ) (u : Str → Option Value) h tk, P items.length c → Fr h₀ env.locals h (kstB u (ps c)) → News h₀ env.locals h (Led c) → Q .next { s with heap := h, toks := tk }) :
    wpAny (model prog w) A (pyIter (.ref l)) (fun it s₂ => LoopAtV prog w A h₀ env x body Q E it s₂) E s := by
  obtain ⟨hl, hlI, hLf, hfp⟩ := lst_apart F N hne
  refine wpAny_pyIter_list hl ?_
  have W := Walks.list (prog := prog) (w := w) hh s.heap.objs.size l hlI items.toArray
  rw [show items.toArray.size = items.length from rfl] at W
  refine loop_invN (fun i m nx => RngJ Led ps P i m nx) W hLf ?_ ?_ hfp ⟨⟨_, Heap.get?_push_size _ rfl, rfl, rfl⟩, hl.at fun o e => Heap.get?_push_of_some _ e⟩ (F.push _) (fun p hp => ⟨Heap.get?_push_of_some _ (N p (.tail _ hp)).1, (N p (.tail _ hp)).2⟩) ⟨c₀, rfl, hk, hp⟩ ?_ ?_
  · intro b hb
    rw [List.mem_singleton.mp hb]
    exact next_is_new F
  · exact fun p hp hI => hfp p hp (by rw [List.mem_singleton.mp hI]; exact .head _)
  · rintro i v m₁ nx h tk own hi hv _ hoff ⟨c, rfl, h1, hp'⟩ F₁ N₁
    exact turn c i v m₁ h tk own hi (by simpa using hv) hoff hp' (frX h1 F₁) N₁
  · rintro m₁ nx h tk ⟨c, rfl, h1, hp'⟩ F₁ N₁
    exact done c m₁ h tk hp' (frB h1 F₁) N₁

/-- the same where the loop's target is a tuple of names -/
theorem lstT {σ : Type} {l : Addr} {items : List Value} {k : Nat} {m₀ : Str → Option Value} (Led : σ → List (Addr × Obj)) (ps : σ → List (Str × Value)) (P : Nat → σ → Prop) (c₀ : σ)
    (hh : A.handled = none) (F : Fr h₀ env.locals s.heap m₀) (N : News h₀ env.locals s.heap ((l, PySem.W.listOf items.toArray k) :: Led c₀)) (hne : ∀ p ∈ Led c₀, p.1 ≠ l)
    (hk : ∀ p ∈ ps c₀, m₀ p.1 = some p.2) (hp : P 0 c₀)
    (turn : ∀ (c : σ) (i : Nat) v (u : Str → Option Value) h tk own, i < items.length → items[i]? = some v → OwnOff own ((Led c₀).map (·.1)) → P i c →
      Fr h₀ env.locals h (kstB u (ps c)) → News h₀ env.locals h (Led c ++ own) →
      wpAny (model prog w) A (assign target env v) (fun _ s₃ => wpAny (model prog w) A (execs body env) (InvPostN h₀ env.locals (RngJ Led ps P (i + 1)) own ((Led c₀).map (·.1)) { s with heap := h, toks := tk } Q) E s₃) E { s with heap := h, toks := tk })
    (done : ∀ (c : σ) (u : Str → Option Value) h tk, P items.length c → Fr h₀ env.locals h (kstB u (ps c)) → News h₀ env.locals h (Led c) → Q .next { s with heap := h, toks := tk }) :
    wpAny (model prog w) A (pyIter (.ref l)) (fun it s₂ => TurnsAt prog w A h₀ env target body Q E it s₂) E s := by
  obtain ⟨hl, hlI, hLf, hfp⟩ := lst_apart F N hne
  refine wpAny_pyIter_list hl ?_
  have W := Walks.list (prog := prog) (w := w) hh s.heap.objs.size l hlI items.toArray
  rw [show items.toArray.size = items.length from rfl] at W
  let J' : Nat → (Str → Option Value) → List (Addr × Obj) → Prop := fun i m₁ news₁ => news₁.map (·.1) = (Led c₀).map (·.1) ∧ RngJ Led ps P i m₁ news₁
  refine ⟨s.heap.objs.size, _, _, items.length, _, _, _, m₀, Led c₀, J', rfl, KTurns.ofWalks W fun i v s Q E st q => letGo_listiter st.1 q, hLf, ?_, ?_, ⟨⟨_, Heap.get?_push_size _ rfl, rfl, rfl⟩, hl.at fun o e => Heap.get?_push_of_some _ e⟩, F.push _, fun p hp => ⟨Heap.get?_push_of_some _ (N p (.tail _ hp)).1, (N p (.tail _ hp)).2⟩, ⟨rfl, c₀, rfl, hk, hp⟩, ?_, ?_⟩
  · intro b hb
    rw [List.mem_singleton.mp hb]
    exact next_is_new F
  · exact fun p hp hI => hfp p hp (by rw [List.mem_singleton.mp hI]; exact .head _)
  · rintro i v m₁ news₁ h tk own hi hv ⟨hadr, c, rfl, h1, hp'⟩ hoff hown _ _ _ F₁ N₁
    have hsep : OwnOff own ((Led c₀).map (·.1)) := by
      intro p hp b hb e
      obtain ⟨q, hq, rfl⟩ := List.mem_map.mp hb
      exact hfp q hq (e ▸ hown p hp)
    have N₂ : News h₀ env.locals h (Led c ++ own) := fun p hp => N₁ p ((List.mem_append.mp hp).elim (fun h => List.mem_append.mpr (.inr h)) fun h => List.mem_append.mpr (.inl h))
    refine wpAny_mono (turn c i v m₁ h tk own hi (by simpa using hv) hsep hp' (frB h1 F₁) N₂) (fun _ s₂ h₂ => wpAny_mono h₂ (fun f s₃ p => ?_) fun _ _ e => e) fun _ _ e => e
    have fin : InvEndN h₀ env.locals (RngJ Led ps P (i + 1)) own ((Led c₀).map (·.1)) { s with heap := h, toks := tk } s₃ → LoopStepU h₀ env.locals [s.heap.objs.size] own (J' (i + 1)) { s with heap := h, toks := tk } .next s₃ := by
      rintro ⟨h', tk, m', news', nx, e, F', N', hn, ho, ha, hm⟩
      refine ⟨rfl, h', tk, m', nx, e, F', fun p hp => N' p ((List.mem_append.mp hp).elim (ho p) (hn p)), fun p hp hq => ?_, ha, hm⟩
      have h1 : p.1 ∈ nx.map (·.1) := List.mem_map.mpr ⟨p, hp, rfl⟩
      rw [ha, ← hadr] at h1
      obtain ⟨q, hq1, hq2⟩ := List.mem_map.mp h1
      exact hoff q hq1 (by rw [hq2]; exact hq)
    cases f with
    | ret v => exact .ret p
    | brk => exact .brk p
    | next => exact .next (fin p)
    | cont => exact .cont (fin p)
  · rintro h' tk m' news' F' N' _ ⟨_, c, rfl, h1, hp'⟩
    exact done c m' h' tk hp' (frB h1 F') N'
end
end Mine

end
section
open PySem PySem.W PySem.Calls PyProof.Rows PySem.Spec
set_option maxRecDepth 100000
namespace Mine
local macro_rules | `(tactic| ktr_room) => `(tactic| ((simp only [depth_deeper, depth_in1]); omega))
local macro_rules | `(tactic| walk_at "idle") => `(tactic| fail)
local macro_rules | `(tactic| walk_at "idle") => `(tactic| fail)
local macro_rules | `(tactic| walk_at "idle") => `(tactic| fail)
local macro_rules | `(tactic| walk_at "idle") => `(tactic| fail)
local macro_rules | `(tactic| walk_at "idle") => `(tactic| fail)
local macro_rules | `(tactic| walk_at "idle") => `(tactic| fail)
local macro_rules | `(tactic| walk_at "idle") => `(tactic| fail)
local macro_rules | `(tactic| walk_at "idle") => `(tactic| fail)
local macro_rules | `(tactic| walk_at "idle") => `(tactic| fail)
local macro_rules | `(tactic| walk_at "idle") => `(tactic| fail)
local macro_rules | `(tactic| walk_at "pyIter ref") => `(tactic| ((with_reducible show wpAny _ _ (pyIter (Value.ref _)) (fun it s₂ => LoopAtV _ _ _ _ _ _ _ _ _ it s₂) _ _); refine Hold.of ?_))
local macro_rules | `(tactic| walk_at "exec For Name Call cons nil") => `(tactic| (k_here; (rename Fr _ _ _ _ => lF'); (with_unfolding_all refine' For_invVF lF' ?k1 ?k2 ?_; (case k1 => exact rfl); (case k2 => exact rfl); k_whole)))
local macro_rules | `(tactic| walk_at "exec For Name Subscript cons nil") => `(tactic| (k_here; (rename Fr _ _ _ _ => lF'); (with_unfolding_all refine' For_invVF lF' ?k1 ?k2 ?_; (case k1 => exact rfl); (case k2 => exact rfl); k_whole)))
local macro_rules | `(tactic| walk_at "m open") => `(tactic| (k_dflt first
  | (refine' enter_plain ?q1 ?q2 ?q3 ?k1 ?k2 ?k3 ?k4 ?k5 ?kA ?kF ?kK ?k6 ?k7 ?k8 ?k9 ?kB ?_ ?c2 ?c3 ?c4 ?c5; (case q3 => assumption); (case q1 => assumption); (case q2 => assumption); (case kA => exact rfl); (case kF => exact rfl); (case kK => first | exact rfl | assumption); (case k1 => k_asm); (case k2 => k_asm); (case k3 => k_asm); (case k4 => k_asm); (case k5 => k_asm); (case k6 => k_is); (case k7 => k_is); (case k8 => ktr_room); (case k9 => first | exact BindsTo.of_eq rfl | exact binds_K (by k_in) rfl (by k_is) rfl rfl rfl | fail "k_enter: no rule for these arguments"); (case c5 => decide); (case kB => exact locs rfl); (case c2 => exact rfl); (case c3 => exact rfl); (case c4 => exact rfl); k_whole; intro g' L' h' FG' F' N' B' X' T'; (try dsimp only); (try k_lift B'); (try k_fold))
  | (refine' enter_cells ?q1 ?q2 ?q3 ?k1 ?k2 ?k3 ?k4 ?k5 ?kA ?kF ?kK ?k6 ?k7 ?k8 ?k9 ?kB ?kD ?_ ?c2 ?c3 ?c4; (case q3 => assumption); (case q1 => assumption); (case q2 => assumption); (case kA => exact rfl); (case kF => exact rfl); (case kK => first | exact rfl | assumption); (case k1 => k_asm); (case k2 => k_asm); (case k3 => k_asm); (case k4 => k_asm); (case k5 => k_asm); (case k6 => k_is); (case k7 => k_is); (case k8 => ktr_room); (case k9 => first | exact BindsTo.of_eq rfl | exact binds_K (by k_in) rfl (by k_is) rfl rfl rfl | fail "k_enter: no rule for these arguments"); (case kB => exact rfl); (case kD => decide +kernel); (case c2 => exact rfl); (case c3 => exact rfl); (case c4 => exact rfl); k_whole; intro g' L' h' tk' cells' FG' F' N' Y' B' X' T' l1; (try k_lt l1); k_cells Y'; (try simp only [List.cons_append, List.nil_append] at N'); (try dsimp only); (try k_lift B'); (try k_fold))))
local macro_rules | `(tactic| walk_at "m enter") => `(tactic| (k_dflt first
  | (refine' code_def ?k1 ?k2 ?k3 ?k4 ?k5 ?kA ?kF ?kK ?k6 ?k7 ?k8 ?k9 ?kB ?_ ?c2 ?c3 ?c4 ?c5; (case kA => exact rfl); (case kF => exact rfl); (case kK => first | exact rfl | assumption); (case k1 => k_asm); (case k2 => k_asm); (case k3 => k_asm); (case k4 => k_asm); (case k5 => k_asm); (case k6 => k_is); (case k7 => k_is); (case k8 => ktr_room); (case k9 => first | exact BindsTo.of_eq rfl | exact binds_K (by k_in) rfl (by k_is) rfl rfl rfl | fail "k_enter: no rule for these arguments"); (case c5 => decide); (case kB => exact locs rfl); (case c2 => exact rfl); (case c3 => exact rfl); (case c4 => exact rfl); k_whole; intro g' L' h' FG' F' N' B' X' T'; (try dsimp only); (try k_lift B'); (try k_fold))
  | (refine' code_defC ?k1 ?k2 ?k3 ?k4 ?k5 ?kA ?kF ?kK ?k6 ?k7 ?k8 ?k9 ?kB ?kD ?_ ?c2 ?c3 ?c4; (case kA => exact rfl); (case kF => exact rfl); (case kK => first | exact rfl | assumption); (case k1 => k_asm); (case k2 => k_asm); (case k3 => k_asm); (case k4 => k_asm); (case k5 => k_asm); (case k6 => k_is); (case k7 => k_is); (case k8 => ktr_room); (case k9 => first | exact BindsTo.of_eq rfl | exact binds_K (by k_in) rfl (by k_is) rfl rfl rfl | fail "k_enter: no rule for these arguments"); (case kB => exact rfl); (case kD => decide +kernel); (case c2 => exact rfl); (case c3 => exact rfl); (case c4 => exact rfl); k_whole; intro g' L' h' tk' cells' FG' F' N' Y' B' X' T' l1; (try k_lt l1); k_cells Y'; (try simp only [List.cons_append, List.nil_append] at N'); (try dsimp only); (try k_lift B'); (try k_fold))))
local macro_rules | `(tactic| walk_at "call ref") => `(tactic| (k_here; (with_reducible show wpAny _ _ (call (Value.ref 96) _) _ _ _); (rename News _ _ _ _ => lN9); k_dflt (refine' Ok.at (rest_ok _) _ ?kB ?kF ?kX lN9 ?kT ?kk ?kd ?ku trivial (fun _ h => nomatch h) (fun _ h => h) (fun _ _ h => nomatch h) ?_; (case kB => k_asm); (case kF => k_asm); (case kX => k_asm); (case kT => k_asm); (case kk => exact rfl); (case kd => (show _ + 1 + 6 < recursionLimit); (rw [rm_d]; omega)); (case ku => (show _ + 3 + 60 < cLine); (rw [rm_u]; omega)); k_whole; intro v9 h' tk nx9 hp9 F' N'; clear lN9; (obtain ⟨a9, vs9, k9, hn9, hv9, hi9⟩ := hp9); subst hn9; subst hv9; (try simp only [List.cons_append, List.nil_append] at N'))))

local macro_rules | `(tactic| walk_at "call ref") => `(tactic| (k_here; (with_reducible show wpAny _ _ (call (Value.ref 101) _) _ _ _); (try k_fmods); (rename News _ _ _ _ => lN9); k_dflt (refine' Ok.at (text_ok _ _ _ _ _ ?y1 ?y2) _ ?kB ?kF ?kX lN9 ?kT ?kk ?kd ?ku trivial (fun _ h => nomatch h) (fun _ h => h) (fun _ _ h => nomatch h) ?_; (case y1 => first | omega | decide +kernel); (case y2 => first | omega | decide +kernel); (case kB => k_asm); (case kF => k_asm); (case kX => k_asm); (case kT => k_asm); (case kk => exact rfl); (case kd => (show _ + 1 + 6 < recursionLimit); (rw [rm_d]; omega)); (case ku => (show _ + 3 + 60 < cLine); (rw [rm_u]; omega)); k_whole; intro v9 h' tk nx9 hp9 F' N'; clear lN9; (obtain ⟨hn9, z9, t9, hv9, hz9⟩ := hp9); subst hn9; subst hv9; (try simp only [List.nil_append] at N'))))
local macro_rules | `(tactic| walk_at "call ref") => `(tactic| (k_here; (with_reducible show wpAny _ _ (call (Value.ref 108) _) _ _ _); (rename News _ _ _ _ => lN9); k_dflt (refine' Ok.at (spoil_ok _ _ _ _ _ ?y1) _ ?kB ?kF ?kX lN9 ?kT ?kk ?kd ?ku trivial (fun _ h => nomatch h) (fun _ h => h) (fun _ _ h => nomatch h) ?_; (case y1 => first | omega | decide +kernel); (case kB => k_asm); (case kF => k_asm); (case kX => k_asm); (case kT => k_asm); (case kk => exact rfl); (case kd => (show _ + 1 + 6 < recursionLimit); (rw [rm_d]; omega)); (case ku => (show _ + 3 + 60 < cLine); (rw [rm_u]; omega)); k_whole; intro v9 h' tk nx9 hp9 F' N'; clear lN9; (obtain ⟨hn9, z9, t9, hv9, hz9⟩ := hp9); subst hn9; subst hv9; (try simp only [List.nil_append] at N'))))
theorem tup_ne {h₀ h : Heap} {L a l : Addr} {o : Obj} {rest : List (Addr × Obj)} {vs : Array Value} {k : Nat} (N : News h₀ L h ((a, o) :: rest)) (hc : o.cls = .type "tuple") (hm : (l, PySem.W.listOf vs k) ∈ rest) : @Ne Nat a l := fun e => by
  have h1 := (N _ (.head _)).1
  have h2 := (N _ (.tail _ hm)).1
  dsimp only at h1 h2
  rw [e, h2] at h1
  have h3 := congrArg Obj.cls (Option.some.inj h1)
  rw [hc] at h3
  exact absurd (show Value.type "list" = Value.type "tuple" from h3) (by simp)
local macro_rules | `(tactic| walk_at "ps pair") => `(tactic| (k_here; (with_reducible show wpAny _ _ (call (Value.ref 120) _) _ _ _); (try k_fmods); (rename News _ _ _ _ => lN9); k_dflt (refine' Ok2.at (pair_ok _ _ _ _ _ _ _ ?y1 ?y2 ?y3 ?y4) _ ?kB ?kF ?kX lN9 ?kT ?kk ?kd ?ku trivial (fun _ h => nomatch h) (fun _ h => h) (fun _ _ h => nomatch h) ?_; (case y1 => first | omega | decide +kernel); (case y2 => first | omega | decide +kernel); (case y3 => first | omega | decide +kernel); (case y4 => first | omega | decide +kernel); (case kB => k_asm); (case kF => k_asm); (case kX => k_asm); (case kT => k_asm); (case kk => exact rfl); (case kd => (show _ + 1 + 12 < recursionLimit); (rw [rm_d]; omega)); (case ku => (show _ + 3 + 90 < cLine); (rw [rm_u]; omega)); k_whole; intro v9 h' tk nx9 hp9 F' N'; clear lN9; (obtain ⟨a9, o9, t9, u1, u2, u3, u4, u5, u6, hn9, hv9, hw9⟩ := hp9); subst hn9; subst hv9; (try simp only [List.cons_append, List.nil_append] at N'); (have hx9 := tup_ne N' (by rfl) (by k_memK)))))
local macro_rules | `(tactic| walk_at "call ref") => `(tactic| ((with_reducible show wpAny _ _ (call (Value.ref 120) _) _ _ _); walk_at "ps pair"))
local macro_rules | `(tactic| walk_at "ps nums") => `(tactic| (first | (with_reducible exact kmk_from (by l_ints) (by omega)) | (with_reducible exact kmk_upto (by l_ints) (by omega)) | (with_reducible exact kmk_run (by l_ints) (by omega) (by omega))))
local macro_rules | `(tactic| walk_at "subscriptTail Name Slice ref ref") => `(tactic| ((with_reducible show wpAny _ _ (subscriptTail _ (PySem.Expr.Slice _ _ none _) (Value.ref _) (Value.ref _)) _ _ _); k_dflt (refine' kmk_slice_ints ?F ?N ?l ?p ?q ?i ?m ?c ?_ ?s ?t ?z; (case F => k_asm); (case N => k_asm); (case l => kmk_list); (case p => kmk_part); (case q => kmk_part); (case i => l_ints); (case m => walk_at "ps nums"); (case c => kmk_len); (case s => with_unfolding_all rfl); (case t => kmk_pure); (case z => kmk_size)); intro D' ws' h' F' N' l1 hI' hC' hL'; (try simp only [Int.reduceNeg, Int.neg_neg, Int.reduceToNat] at hI' hC' hL'); (try k_lt l1); (try k_sweep)))
local macro_rules | `(tactic| walk_at "call ref") => `(tactic| (k_here; (with_reducible show wpAny _ _ (call (Value.ref 120) [Value.str (Str.ofString "abcab") _, _, _]) _ _ _); refine Hold.of ?_))
theorem draws16 {ns : List Int} : (List.take 16 (ns ++ List.drop ((ns.length : Int)).toNat RestL)).length = 16 := by
  have h : RestL.length = 16 := rfl
  simp [h]; omega

structure PsS where
  z : Str
  t : Tok
def psPs (v1 v2 v3 v4 : Value) (c : PsS) : List (Str × Value) := [(Str.ofString "text", .str c.z c.t), (Str.ofString "first", v1), (Str.ofString "at", v2), (Str.ofString "pairs", v3), (Str.ofString "draws", v4)]
section
variable {prog : Program} {w : World} {A : Around} {E : Value → Shared → Prop} {s : Shared} {env : Env} {h₀ : Heap} {x : Str} {body : List Stmt} {Q : Flow → Shared → Prop}
theorem ps_lst {l : Addr} {items : List Value} {k : Nat} {m₀ : Str → Option Value} {led : List (Addr × Obj)} {z : Str} {t : Tok} {v1 v2 v3 v4 : Value}
    (hh : A.handled = none) (F : Fr h₀ env.locals s.heap m₀) (N : News h₀ env.locals s.heap ((l, PySem.W.listOf items.toArray k) :: led)) (hne : ∀ p ∈ led, p.1 ≠ l)
    (e0 : m₀ (Str.ofString "text") = some (.str z t)) (e1 : m₀ (Str.ofString "first") = some v1) (e2 : m₀ (Str.ofString "at") = some v2) (e3 : m₀ (Str.ofString "pairs") = some v3) (e4 : m₀ (Str.ofString "draws") = some v4)
    (hz : z.length ≤ 7) (hn : items.length ≤ 4)
    (turn : ∀ (z : Str) (t : Tok) (i : Nat) v (u : Str → Option Value) h tk own, i < 4 → items[i]? = some v → OwnOff own (led.map (·.1)) → z.length ≤ 7 + i →
      Fr h₀ env.locals h (fun y => if y = x then some v else kstB u (psPs v1 v2 v3 v4 ⟨z, t⟩) y) → News h₀ env.locals h (led ++ own) →
      wpAny (model prog w) A (execs body env) (InvPostN h₀ env.locals (RngJ (fun _ : PsS => led) (psPs v1 v2 v3 v4) (fun i c => c.z.length ≤ 7 + i) (i + 1)) own (led.map (·.1)) { s with heap := h, toks := tk } Q) E { s with heap := h, toks := tk })
    (done : ∀ (z : Str) (t : Tok) (u : Str → Option Value) h tk, z.length ≤ 11 → Fr h₀ env.locals h (kstB u (psPs v1 v2 v3 v4 ⟨z, t⟩)) → News h₀ env.locals h led → Q .next { s with heap := h, toks := tk }) :
    wpAny (model prog w) A (pyIter (.ref l)) (fun it s₂ => LoopAtV prog w A h₀ env x body Q E it s₂) E s := by
  refine lst (σ := PsS) (fun _ => led) (psPs v1 v2 v3 v4) (fun i c => c.z.length ≤ 7 + i) ⟨z, t⟩ hh F N hne ?_ (by show z.length ≤ 7 + 0; omega) ?_ ?_
  · intro p hp
    simp only [psPs, List.mem_cons, List.not_mem_nil, or_false] at hp
    rcases hp with rfl | rfl | rfl | rfl | rfl <;> assumption
  · rintro ⟨z, t⟩ i v u h tk own hi hv ho hP F' N'
    exact turn z t i v u h tk own (by omega) hv ho hP F' N'
  · rintro ⟨z, t⟩ u h tk hP F' N'
    exact done z t u h tk (by have : z.length ≤ 7 + items.length := hP; omega) F' N'
theorem ps_end {h' : Heap} {L : Addr} {m' : Str → Option Value} {led own news' : List (Addr × Obj)} {v1 v2 v3 v4 : Value} {z : Str} {t : Tok} {i tk : Nat} {s₁ : Shared}
    (F : Fr h₀ L h' m') (N : News h₀ L h' news') (hn : ∀ p ∈ led, p ∈ news') (ho : ∀ p ∈ own, p ∈ news')
    (e0 : m' (Str.ofString "text") = some (.str z t)) (e1 : m' (Str.ofString "first") = some v1) (e2 : m' (Str.ofString "at") = some v2) (e3 : m' (Str.ofString "pairs") = some v3) (e4 : m' (Str.ofString "draws") = some v4) (hp : z.length ≤ 7 + (i + 1)) :
    InvEndN h₀ L (RngJ (fun _ : PsS => led) (psPs v1 v2 v3 v4) (fun i c => c.z.length ≤ 7 + i) (i + 1)) own (led.map (·.1)) s₁ { s₁ with heap := h', toks := tk } := by
  refine rng_end (σ := PsS) ⟨z, t⟩ F N hn ho rfl ?_ hp
  intro p hp
  simp only [psPs, List.mem_cons, List.not_mem_nil, or_false] at hp
  rcases hp with rfl | rfl | rfl | rfl | rfl <;> assumption
end
theorem cut1 {h₀ h : Heap} {L : Addr} {p : Addr × Obj} {led : List (Addr × Obj)} (N : News h₀ L h (p :: led)) : News h₀ L h [p] := fun q hq => N q (by rw [List.mem_singleton.mp hq]; exact .head _)
theorem fr1 {h₀ h : Heap} {L : Addr} {m : Str → Option Value} {x : Str} {v : Value} (F : Fr h₀ L h m) (hk : m x = some v) : ∃ u : Str → Option Value, Fr h₀ L h (fun y => if y = x then some v else u y) := by
  refine ⟨m, ?_⟩
  have e : (fun y => if y = x then some v else m y) = m := funext fun y => by
    by_cases c : y = x
    · rw [if_pos c, c, hk]
    · rw [if_neg c]
  rw [e]; exact F
local macro_rules | `(tactic| walk_at "ps inner") => `(tactic| (unfold Hold; (rename Fr _ _ _ _ => lF'); (rename News _ _ _ _ => lN'); (rename IntsAre _ _ => hI8); (have hL8 := hI8.length); (with_unfolding_all refine' ps_lst (by rfl) lF' lN' ?hne (by rfl) (by rfl) (by rfl) (by rfl) (by rfl) ?hz ?hn ?turn ?done); (case hne => (repeat' (first | exact List.forall_mem_nil _ | refine List.forall_mem_cons.mpr ⟨Nat.ne_of_lt (by dsimp only; omega), ?_⟩))); (case hz => omega); (case hn => omega); (case turn => (clear lF' lN'; intro z8 t8 i8 v8 u8 h8 tk8 own8 hi8 hv8 ho8 hP8 F' N'; (obtain ⟨n8, q8, e8, _⟩ := hI8.at i8 v8 hv8); subst e8; (simp only [List.cons_append, List.nil_append] at N'); (dsimp only [psPs, kstB] at F'); (with_reducible show wpAny _ _ _ _ _ _); k_fold; k_steps; (rename Fr _ _ _ _ => lF3); (rename News _ _ _ _ => lN3); (with_unfolding_all refine' ps_end lF3 lN3 ?en ?eo (by rfl) (by rfl) (by rfl) (by rfl) (by rfl) ?ep); (case ep => omega); (case en => (with_unfolding_all kst_allIn)); (case eo => (intro p8 hp8; k_ownIn)))); clear lF' lN'; intro z8 t8 u8 h8 tk8 hP8 F' N'; dsimp only; (dsimp only [psPs, kstB] at F'); k_steps))
structure GoodW (o t : Str) (pl : Int) : Prop where
  p0 : 0 ≤ pl
  p3 : pl ≤ 3
  le : o.length ≤ t.length
  t16 : t.length ≤ 16
  ne : 0 < o.length → Txt.item o 0 ≠ Txt.item t 0
theorem GoodW.of {x y o t : Str} {pl : Int} (h : PairW x y o t) (h0 : 0 ≤ pl) (h3 : pl ≤ 3) : GoodW o t pl := ⟨h0, h3, h.le, h.t16, h.ne⟩
/-- the tuple that a pair is -/
def pairO (o t : Str) (pl : Int) (u : Fin 6 → Tok) : Obj :=
  { cls := Value.type "tuple", data := Data.seq #[.str (Txt.mul (Str.ofString "x") pl ++ o ++ Str.ofString "yx") (u 0), .str (Txt.mul (Str.ofString "y") pl ++ t ++ Str.ofString "x") (u 1), .int o.length (u 2), .int t.length (u 3), .int pl (u 4), .int (osa (tbA o) (tbA t) o.length t.length) (u 5)] }
def PairO (n : Nat) (ob : Obj) : Prop := ∃ o t pl u, ob = pairO o t pl u ∧ GoodW o t pl ∧ n ≤ o.length
theorem PairO.of {x y o t : Str} {pl : Int} {u1 u2 u3 u4 u5 u6 : Tok} (h : PairW x y o t) (h0 : 0 ≤ pl) (h3 : pl ≤ 3) :
    PairO 0 { cls := Value.type "tuple", data := Data.seq #[.str (Txt.mul (Str.ofString "x") pl ++ o ++ Str.ofString "yx") u1, .str (Txt.mul (Str.ofString "y") pl ++ t ++ Str.ofString "x") u2, .int o.length u3, .int t.length u4, .int pl u5, .int (osa (tbA o) (tbA t) o.length t.length) u6] } :=
  ⟨o, t, pl, (fun | 0 => u1 | 1 => u2 | 2 => u3 | 3 => u4 | 4 => u5 | 5 => u6), rfl, .of h h0 h3, Nat.zero_le _⟩
theorem PairO.of1 {o t : Str} {pl : Int} {u1 u2 u3 u4 u5 u6 : Tok} (h : PairW (Str.ofString "abcab") (Str.ofString "bacba") o t) (h0 : 0 ≤ pl) (h3 : pl ≤ 3) :
    PairO 2 { cls := Value.type "tuple", data := Data.seq #[.str (Txt.mul (Str.ofString "x") pl ++ o ++ Str.ofString "yx") u1, .str (Txt.mul (Str.ofString "y") pl ++ t ++ Str.ofString "x") u2, .int o.length u3, .int t.length u4, .int pl u5, .int (osa (tbA o) (tbA t) o.length t.length) u6] } := by
  obtain ⟨o', t', pl', u, he, hw, _⟩ := PairO.of (u1 := u1) (u2 := u2) (u3 := u3) (u4 := u4) (u5 := u5) (u6 := u6) h h0 h3
  refine ⟨o, t, pl, (fun | 0 => u1 | 1 => u2 | 2 => u3 | 3 => u4 | 4 => u5 | 5 => u6), rfl, .of h h0 h3, ?_⟩
  have e := h.same (by decide +kernel) (by decide +kernel)
  rw [e]; decide +kernel
def PairsQ (v : Value) (nx : List (Addr × Obj)) : Prop :=
  ∃ G a1 a2 a3 T1 T2 T3 k, nx = [(G, PySem.W.listOf #[.ref a1, .ref a2, .ref a3] k), (a1, T1), (a2, T2), (a3, T3)] ∧ v = .ref G ∧ PairO 2 T1 ∧ PairO 0 T2 ∧ PairO 0 T3
theorem pairs_end {h₀ h : Heap} {L G a b c : Addr} {k : Nat} {T1 T2 T3 : Obj} {p q : Addr × Obj} (N : News h₀ L h [(c, T3), (b, T2), p, (G, PySem.W.listOf ((#[Value.ref a].push (.ref b)).push (.ref c)) k), (a, T1), q]) (h1 : PairO 2 T1) (h2 : PairO 0 T2) (h3 : PairO 0 T3) :
    ∃ nx, PairsQ (.ref G) nx ∧ News h₀ L h nx := by
  refine ⟨_, ⟨G, a, b, c, T1, T2, T3, k, rfl, rfl, h1, h2, h3⟩, fun x hx => N x ?_⟩
  simp only [List.mem_cons, List.not_mem_nil, or_false] at hx ⊢
  rcases hx with h | h | h | h <;> simp [h]
theorem fm3 (a : Int) : 0 ≤ a.fmod 3 ∧ a.fmod 3 ≤ 3 := ⟨fmod_lo _ (by omega), by have := fmod_hi a (n := 3) (by omega); omega⟩
theorem fm4 (a : Int) : 0 ≤ a.fmod 4 ∧ a.fmod 4 ≤ 3 := ⟨fmod_lo _ (by omega), by have := fmod_hi a (n := 4) (by omega); omega⟩
set_option maxHeartbeats 3000000
theorem pairs_ok (w : World) (l : Addr) (vs : List Value) (ns : List Int) (hv : IntsAre vs ns) (hn : ns.length ≤ 63) :
   Ok2 20 120 w 127 [.ref l] [] (fun h => h.IsList l vs.toArray) PairsQ := by
  w_top off
  unfold Ok2 PRG KK LO
  k_fill
  intro dp un gd cn cs a ccd cl outer A₀ base h₀ L m mg mb mean s Q E rest B F X N T hk hdp hun hins hrest hapart hret
  obtain ⟨Q₀, hKQ, hret⟩ := KQ.make hret
  refine wpAny_call ?_
  walk_at "m open"
  have hrl : RestL.length = 16 := rfl
  k_steps
  unfold Hold
  (rename Fr _ _ _ _ => lF'); (rename News _ _ _ _ => lN'); (rename IntsAre _ _ => hI9)
  generalize hds : List.take 16 (ns ++ List.drop ((ns.length : Int)).toNat RestL) = ds at hI9 ⊢
  have hlen : ds.length = 16 := hds ▸ draws16
  replace lN' := cut1 lN'
  obtain ⟨u9, lF9⟩ := fr1 (x := Str.ofString "draws") lF' (by rfl)
  clear lF'
  walk_at "ps pair"
  k_steps
  walk_at "ps inner"
  walk_at "ps inner"
  (rename News _ _ _ _ => kN9); (rename Fr _ _ _ _ => kF9)
  obtain ⟨nx9, hq9, hn9⟩ := pairs_end kN9 (.of1 (by assumption) (fm3 _).1 (fm3 _).2) (.of (by assumption) (fm4 _).1 (fm4 _).2) (.of (by assumption) (fm4 _).1 (fm4 _).2)
  exact hret _ _ _ nx9 hq9 kF9 hn9
end Mine

end
section
open PySem PySem.W PySem.Calls PyProof.Rows PySem.Spec
set_option maxRecDepth 100000
namespace Mine
theorem item_mid {x o y : Str} {i : Int} (h0 : 0 ≤ i) (h1 : i < o.length) : Txt.item (x ++ o ++ y) ((x.length : Int) + i) = Txt.item o i := by
  have hl : (x ++ o ++ y).length = x.length + o.length + y.length := by rw [Str.length_append, Str.length_append]
  obtain ⟨n, rfl⟩ := Int.eq_ofNat_of_zero_le h0
  have hn : n < o.length := by omega
  rw [PySem.W.item_meets (x := x ++ o ++ y) ⟨by omega, by rw [hl]; omega⟩, PySem.W.item_meets (x := o) ⟨h0, h1⟩]
  have e : (x ++ o ++ y).cps = x.cps ++ o.cps ++ y.cps := by rw [Str.cps_append, Str.cps_append]
  have hx : x.length = x.cps.size := rfl
  have ho : o.length = o.cps.size := rfl
  rw [e, show ((x.length : Int) + (n : Int)).toNat = x.cps.size + n by omega, show ((n : Int)).toNat = n by omega]
  rw [Array.getD_eq_getD_getElem?, Array.getD_eq_getD_getElem?, Array.getElem?_append_left (by rw [Array.size_append]; omega), Array.getElem?_append_right (by omega), Nat.add_sub_cancel_left]
theorem len_x {pl : Int} (h : 0 ≤ pl) : ((Txt.mul (Str.ofString "x") pl).length : Int) = pl := by
  rw [len_mul_k1 (by decide +kernel), if_neg (by omega)]; omega
theorem len_y {pl : Int} (h : 0 ≤ pl) : ((Txt.mul (Str.ofString "y") pl).length : Int) = pl := by
  rw [len_mul_k1 (by decide +kernel), if_neg (by omega)]; omega
def farOf (o t : Str) : Int := osa (tbA o) (tbA t) o.length t.length
theorem far_rev (o t : Str) : farOf o t = osa (fun p => Txt.item o p) (fun q => Txt.item t q) o.length t.length := by
  unfold farOf tbA
  refine osa_rev (fun p hp => ?_) (fun q hq => ?_)
  · congr 1; omega
  · congr 1; omega
theorem Ok.mono {w : World} {f : Addr} {args : List Value} {mod : List (Addr × Obj)} {ins : Heap → Prop} {post post' : Value → List (Addr × Obj) → Prop} (H : Ok w f args mod ins post) (h : ∀ v nx, post v nx → post' v nx) : Ok w f args mod ins post' := by
  intro dp un gd cn cs a ccd cl outer A₀ base h₀ L m mg mb mean s Q E rest B F X N T hk hdp hun hins hrest hapart hret
  exact H _ _ _ _ _ _ _ _ _ _ _ _ _ _ _ _ _ _ _ _ rest B F X N T hk hdp hun hins hrest hapart fun v h' tk nx hp => hret v h' tk nx (h v nx hp)
theorem band_at {o t : Str} {pl bd : Int} {ps : List Int} {r : Int} (h : GoodW o t pl) (ho : 0 < o.length) (hb1 : 1 ≤ bd) (hb2 : bd < t.length) (hb3 : (t.length : Int) - o.length ≤ bd) (hps : t.length ≤ ps.length)
    (hs : BandSays (Str.ofString " ") (fun i => Txt.item (Txt.mul (Str.ofString "x") pl ++ o ++ Str.ofString "yx") (pl + i)) (fun j => Txt.item (Txt.mul (Str.ofString "y") pl ++ t ++ Str.ofString "x") (pl + j)) o.length t.length bd ps r) :
    r = if farOf o t ≤ bd then farOf o t else -1 := by
  obtain ⟨b, rfl⟩ := Int.eq_ofNat_of_zero_le (show 0 ≤ bd by omega)
  rw [far_rev]
  refine band_right (a := fun p : Nat => Txt.item o (p : Int)) (b := fun q : Nat => Txt.item t (q : Int)) (h.ne ho) (fun i hi => ?_) (fun j hj => ?_) ho h.le (by omega) (by omega) (by omega) hps hs
  · have := item_mid (x := Txt.mul (Str.ofString "x") pl) (o := o) (y := Str.ofString "yx") (i := (i : Int)) (by omega) (by omega)
    rw [len_x h.p0] at this
    exact this
  · have := item_mid (x := Txt.mul (Str.ofString "y") pl) (o := t) (y := Str.ofString "x") (i := (j : Int)) (by omega) (by omega)
    rw [len_y h.p0] at this
    exact this
theorem dmp_ok (w : World) {o t : Str} {pl bd : Int} {ta tb t1 t2 t3 t4 : Tok} {l1 l2 : Addr} {k2 : Nat} {vs : List Value} {ns : List Int} (h : GoodW o t pl) (ho : 0 < o.length) (hb1 : 1 ≤ bd) (hb2 : bd < t.length) (hb3 : (t.length : Int) - o.length ≤ bd)
    (hvs : IntsAre vs ns) (hns : t.length ≤ ns.length) (hns9 : ns.length ≤ 100) :
    Ok w 81 [.str (Txt.mul (Str.ofString "x") pl ++ o ++ Str.ofString "yx") ta, .str (Txt.mul (Str.ofString "y") pl ++ t ++ Str.ofString "x") tb, .int o.length t1, .int t.length t2, .int pl t3, .int bd t4, .ref l1, .ref l2]
      [(l2, PySem.W.listOf vs.toArray k2)] (fun _ => True) (fun v nx => nx = [] ∧ ∃ tk, v = .int (if farOf o t ≤ bd then farOf o t else -1) tk) := by
  have hx := len_x h.p0
  have hy := len_y h.p0
  have hle := h.le
  have h16 := h.t16
  have h3 := h.p3
  have h0 := h.p0
  have l1' : (Str.ofString "yx").length = 2 := by decide +kernel
  have l2' : (Str.ofString "x").length = 1 := by decide +kernel
  have q1 : (Txt.mul (Str.ofString "x") pl ++ o ++ Str.ofString "yx").length = (Txt.mul (Str.ofString "x") pl).length + o.length + 2 := by rw [Str.length_append, Str.length_append, l1']
  have q2 : (Txt.mul (Str.ofString "y") pl ++ t ++ Str.ofString "x").length = (Txt.mul (Str.ofString "y") pl).length + t.length + 1 := by rw [Str.length_append, Str.length_append, l2']
  refine Ok.mono (dm_ok w ⟨Txt.mul (Str.ofString "x") pl ++ o ++ Str.ofString "yx", Txt.mul (Str.ofString "y") pl ++ t ++ Str.ofString "x", ta, tb, t1, t2, t3, t4, o.length, t.length, pl, bd, ns, l2, k2⟩ l1 vs
    ?_ ?_ ?_ ?_ ?_ ?_ ?_ ?_ ?_ ?_ ?_ ?_ hvs ?_ hns9) ?zpost
  case zpost =>
    rintro v nx ⟨rfl, r, tk, rfl, hs⟩
    refine ⟨rfl, tk, ?_⟩
    rw [band_at h ho hb1 hb2 hb3 hns hs]
  all_goals (dsimp only; omega)
end Mine

end
section
open PySem PySem.W PySem.Calls PyProof.Rows PySem.Spec
set_option maxRecDepth 100000
namespace Mine
structure LwS where
  n : Int
  t : Tok
def lwPs (D : Addr) (c : LwS) : List (Str × Value) := [(Str.ofString "asked", .int c.n c.t), (Str.ofString "draws", .ref D)]
def LwEnd (h₀ : Heap) (L D : Addr) (s : Shared) (tail : List (Addr × Obj)) (s₂ : Shared) : Prop :=
  ∃ (h' : Heap) (tk : Nat) (m' : Str → Option Value) (n' : Int) (t' : Tok), s₂ = { s with heap := h', toks := tk } ∧ Fr h₀ L h' m' ∧ News h₀ L h' tail ∧ m' (Str.ofString "asked") = some (.int n' t') ∧ m' (Str.ofString "draws") = some (.ref D) ∧ 0 < n'
def LwPost (h₀ : Heap) (L D : Addr) (s : Shared) (tail : List (Addr × Obj)) (Q : Flow → Shared → Prop) (f : Flow) (s₂ : Shared) : Prop :=
  match f with
  | .ret v => Q (.ret v) s₂
  | .brk => Q .next s₂
  | _ => LwEnd h₀ L D s tail s₂
theorem lw_end {h₀ h' : Heap} {L D : Addr} {s : Shared} {tail news' : List (Addr × Obj)} {tk : Nat} {m' : Str → Option Value} {n' : Int} {t' : Tok} (F : Fr h₀ L h' m') (N : News h₀ L h' news') (hn : ∀ p ∈ tail, p ∈ news')
    (e0 : m' (Str.ofString "asked") = some (.int n' t')) (e1 : m' (Str.ofString "draws") = some (.ref D)) (hp : 0 < n') : LwEnd h₀ L D s tail { s with heap := h', toks := tk } :=
  ⟨h', tk, m', n', t', rfl, F, fun p hp => N p (hn p hp), e0, e1, hp⟩
/-- the text a pair's call is made with -/
abbrev saOf (o : Str) (pl : Int) : Str := Txt.mul (Str.ofString "x") pl ++ o ++ Str.ofString "yx"
abbrev sbOf (t : Str) (pl : Int) : Str := Txt.mul (Str.ofString "y") pl ++ t ++ Str.ofString "x"
abbrev lwLed (D : Addr) (vs : List Value) (tail : List (Addr × Obj)) (_ : LwS) : List (Addr × Obj) := (D, PySem.W.listOf vs.toArray 0) :: tail
abbrev lwPs2 (D : Addr) (o t : Str) (pl : Int) (u : Fin 6 → Tok) (c : LwS) : List (Str × Value) :=
  [(Str.ofString "asked", .int c.n c.t), (Str.ofString "draws", .ref D), (Str.ofString "string_a", .str (saOf o pl) (u 0)), (Str.ofString "string_b", .str (sbOf t pl) (u 1)), (Str.ofString "size_a", .int o.length (u 2)), (Str.ofString "size_b", .int t.length (u 3)),
   (Str.ofString "place", .int pl (u 4)), (Str.ofString "far", .int (osa (tbA o) (tbA t) o.length t.length) (u 5))]
def lwP (n : Int) (i : Nat) (c : LwS) : Prop := c.n = n + i
theorem lwi_end {h₀ h' : Heap} {L D : Addr} {m' : Str → Option Value} {own news' tail : List (Addr × Obj)} {vs : List Value} {o t : Str} {pl n n' : Int} {u : Fin 6 → Tok} {i tk : Nat} {t' : Tok} {s₁ : Shared} {adr : List Addr} {c : LwS} (hP : lwP n i c)
    (F : Fr h₀ L h' m') (N : News h₀ L h' news') (hn : ∀ p ∈ (D, PySem.W.listOf vs.toArray 0) :: (tail ++ own), p ∈ news') (ha : adr = D :: tail.map (·.1))
    (e1 : m' (Str.ofString "asked") = some (.int n' t')) (e2 : m' (Str.ofString "draws") = some (.ref D)) (e3 : m' (Str.ofString "string_a") = some (.str (saOf o pl) (u 0))) (e4 : m' (Str.ofString "string_b") = some (.str (sbOf t pl) (u 1)))
    (e5 : m' (Str.ofString "size_a") = some (.int o.length (u 2))) (e6 : m' (Str.ofString "size_b") = some (.int t.length (u 3))) (e7 : m' (Str.ofString "place") = some (.int pl (u 4))) (e8 : m' (Str.ofString "far") = some (.int (osa (tbA o) (tbA t) o.length t.length) (u 5)))
    (he : n' = c.n + 1) : InvEndN h₀ L (RngJ (lwLed D vs tail) (lwPs2 D o t pl u) (lwP n) (i + 1)) own adr s₁ { s₁ with heap := h', toks := tk } := by
  refine rng_end (⟨n', t'⟩ : LwS) F N (fun p hp => hn p ?_) (fun p hp => hn p (.tail _ (List.mem_append_right _ hp))) ha.symm ?_ ?_
  · rcases List.mem_cons.mp hp with rfl | hp
    · exact .head _
    · exact .tail _ (List.mem_append_left _ hp)
  · simp only [lwPs2, List.forall_mem_cons, List.not_mem_nil, false_implies, implies_true, and_true]
    exact ⟨e1, e2, e3, e4, e5, e6, e7, e8⟩
  · have h0 : c.n = n + i := hP
    show n' = n + ((i + 1 : Nat) : Int)
    omega
theorem apart_lt {d : Addr} {o : Obj} {rest : List (Addr × Obj)} (h : AllLt d rest) : Apart [(d, o)] rest := fun p hp hm => by
  have h1 := kst_ltOf h p hp
  have h2 : p.1 = d := List.mem_singleton.mp hm
  exact absurd h2 (Nat.ne_of_lt h1)
def LawQ (h₀ : Heap) (L : Addr) (s1 : Shared) (f : Flow) (s' : Shared) : Prop := f = .ret (.bool true) ∧ ∃ h' tk m', s' = { s1 with heap := h', toks := tk } ∧ Fr h₀ L h' m'
section
variable {prog : Program} {w : World} {A : Around} {E : Value → Shared → Prop} {s : Shared} {env : Env} {h₀ : Heap} {target : Expr} {body : List Stmt} {Q : Flow → Shared → Prop}
theorem lw_lst {G a1 a2 a3 D : Addr} {T1 T2 T3 : Obj} {k : Nat} {vs : List Value} {m₀ : Str → Option Value} {t : Tok} (hh : A.handled = none) (F : Fr h₀ env.locals s.heap m₀)
    (N : News h₀ env.locals s.heap [(G, PySem.W.listOf #[.ref a1, .ref a2, .ref a3] k), (a1, T1), (a2, T2), (a3, T3), (D, PySem.W.listOf vs.toArray 0)]) (hq1 : PairO 2 T1) (hq2 : PairO 0 T2) (hq3 : PairO 0 T3) (hl : vs.length = 16)
    (e0 : m₀ (Str.ofString "asked") = some (.int 0 t)) (e1 : m₀ (Str.ofString "draws") = some (.ref D))
    (turn : ∀ (n : Int) (tk0 : Tok) (a : Addr) (o t : Str) (pl : Int) (u : Fin 6 → Tok) (mm : Str → Option Value) h tk tail, 0 ≤ n → GoodW o t pl → (0 < n ∨ 2 ≤ o.length) →
      Fr h₀ env.locals h (fun y => if y = Str.ofString "asked" then some (.int n tk0) else if y = Str.ofString "draws" then some (.ref D) else mm y) → News h₀ env.locals h ((a, pairO o t pl u) :: (D, PySem.W.listOf vs.toArray 0) :: tail) →
      wpAny (model prog w) A (assign target env (.ref a)) (fun _ s₃ => wpAny (model prog w) A (execs body env) (LwPost h₀ env.locals D { s with heap := h, toks := tk } tail Q) E s₃) E { s with heap := h, toks := tk })
    (done : ∀ (n : Int) (tk0 : Tok) (mm : Str → Option Value) h tk, 0 < n → Fr h₀ env.locals h (fun y => if y = Str.ofString "asked" then some (.int n tk0) else if y = Str.ofString "draws" then some (.ref D) else mm y) → News h₀ env.locals h [(D, PySem.W.listOf vs.toArray 0)] → Q .next { s with heap := h, toks := tk }) :
    wpAny (model prog w) A (pyIter (.ref G)) (fun it s₂ => TurnsAt prog w A h₀ env target body Q E it s₂) E s := by
  generalize hled : [(a1, T1), (a2, T2), (a3, T3), (D, PySem.W.listOf vs.toArray 0)] = led at N
  have hD : (D, PySem.W.listOf vs.toArray 0) ∈ led := by rw [← hled]; simp
  have hGt : ∀ (a : Addr) T n, PairO n T → (a, T) ∈ led → a ≠ G := by
    rintro a T n ⟨o, t, pl, u, rfl, _⟩ hm e
    have h1 := (N _ (.tail _ hm)).1
    have h2 := (N _ (.head _)).1
    dsimp only at h1 h2
    rw [e, h2] at h1
    have h3 := congrArg Obj.cls (Option.some.inj h1)
    exact absurd (show Value.type "list" = Value.type "tuple" from h3) (by simp)
  have hne : ∀ p ∈ led, p.1 ≠ G := by
    intro p hp
    have hp' := hp
    rw [← hled] at hp
    simp only [List.mem_cons, List.not_mem_nil, or_false] at hp
    rcases hp with rfl | rfl | rfl | rfl
    · exact hGt _ _ _ hq1 hp'
    · exact hGt _ _ _ hq2 hp'
    · exact hGt _ _ _ hq3 hp'
    · intro e
      have h1 := (N _ (.tail _ hp')).1
      have h2 := (N _ (.head _)).1
      dsimp only at h1 h2 e
      rw [e, h2] at h1
      have h3 := congrArg (fun o : Obj => match o.data with | .seq xs _ => xs.size | _ => 0) (Option.some.inj h1)
      have h4 : 3 = vs.length := h3
      omega
  have hps : ∀ (n : Int) (tk0 : Tok) (mm : Str → Option Value), kstB mm (lwPs D ⟨n, tk0⟩) = fun y => if y = Str.ofString "asked" then some (.int n tk0) else if y = Str.ofString "draws" then some (.ref D) else mm y := fun n tk0 mm => by
    funext y
    simp only [lwPs, kstB]
  refine lstT (σ := LwS) (items := [.ref a1, .ref a2, .ref a3]) (fun _ => led) (lwPs D) (fun i c => 0 ≤ c.n ∧ (0 < i → 0 < c.n)) ⟨0, t⟩ hh F N hne ?_ ⟨Int.le_refl _, fun h => absurd h (Nat.lt_irrefl _)⟩ ?_ ?_
  · intro p hp
    simp only [lwPs, List.mem_cons, List.not_mem_nil, or_false] at hp
    rcases hp with rfl | rfl <;> assumption
  · rintro ⟨n, tk0⟩ i v u h tk own hi hv ho ⟨hn, hn1⟩ F' N'
    dsimp only at hn hn1
    have key : ∃ a T, v = .ref a ∧ (a, T) ∈ led ∧ ∃ o t pl u, T = pairO o t pl u ∧ GoodW o t pl ∧ (0 < n ∨ 2 ≤ o.length) := by
      have hi3 : i = 0 ∨ i = 1 ∨ i = 2 := by simp only [List.length_cons, List.length_nil] at hi; omega
      rcases hi3 with rfl | rfl | rfl
      · obtain ⟨o, t, pl, u, e, hw, hle⟩ := hq1
        exact ⟨a1, T1, (Option.some.inj hv).symm, by rw [← hled]; simp, o, t, pl, u, e, hw, .inr hle⟩
      · obtain ⟨o, t, pl, u, e, hw, hle⟩ := hq2
        exact ⟨a2, T2, (Option.some.inj hv).symm, by rw [← hled]; simp, o, t, pl, u, e, hw, .inl (hn1 (by omega))⟩
      · obtain ⟨o, t, pl, u, e, hw, hle⟩ := hq3
        exact ⟨a3, T3, (Option.some.inj hv).symm, by rw [← hled]; simp, o, t, pl, u, e, hw, .inl (hn1 (by omega))⟩
    obtain ⟨a, T, rfl, hm, o, t', pl, u', rfl, hw, hor⟩ := key
    rw [hps] at F'
    refine wpAny_mono (turn n tk0 a o t' pl u' u h tk (led ++ own) hn hw hor F' fun p hp => ?_) (fun _ s₃ h₃ => wpAny_mono h₃ (fun f s₂ p => ?_) fun _ _ e => e) fun _ _ e => e
    · rcases List.mem_cons.mp hp with rfl | hp
      · exact N' _ (List.mem_append_left _ hm)
      · rcases List.mem_cons.mp hp with rfl | hp
        · exact N' _ (List.mem_append_left _ hD)
        · exact N' _ hp
    · have fin : LwEnd h₀ env.locals D { s with heap := h, toks := tk } (led ++ own) s₂ → InvEndN h₀ env.locals (RngJ (fun _ : LwS => led) (lwPs D) (fun i c => 0 ≤ c.n ∧ (0 < i → 0 < c.n)) (i + 1)) own (led.map (·.1)) { s with heap := h, toks := tk } s₂ := by
        rintro ⟨h', tk', m', n', t'', rfl, F', N', e0, e1, hp⟩
        refine rng_end (σ := LwS) ⟨n', t''⟩ F' N' (fun p hp => List.mem_append_left _ hp) (fun p hp => List.mem_append_right _ hp) rfl ?_ ⟨by show 0 ≤ n'; omega, fun _ => hp⟩
        intro p hp
        simp only [lwPs, List.mem_cons, List.not_mem_nil, or_false] at hp
        rcases hp with rfl | rfl <;> assumption
      cases f with
      | ret v => exact p
      | brk => exact p
      | next => exact fin p
      | cont => exact fin p
  · rintro ⟨n, tk0⟩ u h tk ⟨hn, hn1⟩ F' N'
    dsimp only at hn hn1
    rw [hps] at F'
    exact done n tk0 u h tk (hn1 (Nat.succ_pos _)) F' fun p hp => N' p (by rw [List.mem_singleton.mp hp]; exact hD)
end
end Mine

end
section
open PySem PySem.W PySem.Calls PyProof.Rows PySem.Spec
set_option maxRecDepth 100000
namespace Mine
local macro_rules | `(tactic| walk_at "idle") => `(tactic| fail)
local macro_rules | `(tactic| walk_at "idle") => `(tactic| fail)
local macro_rules | `(tactic| walk_at "idle") => `(tactic| fail)
local macro_rules | `(tactic| walk_at "idle") => `(tactic| fail)
local macro_rules | `(tactic| walk_at "idle") => `(tactic| fail)
local macro_rules | `(tactic| walk_at "idle") => `(tactic| fail)
local macro_rules | `(tactic| walk_at "idle") => `(tactic| fail)
local macro_rules | `(tactic| walk_at "idle") => `(tactic| fail)
local macro_rules | `(tactic| walk_at "idle") => `(tactic| fail)
local macro_rules | `(tactic| walk_at "idle") => `(tactic| fail)
local macro_rules | `(tactic| walk_at "idle") => `(tactic| fail)
local macro_rules | `(tactic| walk_at "idle") => `(tactic| fail)
local macro_rules | `(tactic| walk_at "pyIter ref") => `(tactic| ((with_reducible show wpAny _ _ (pyIter (Value.ref _)) _ _ _); refine Hold.of ?_))
local macro_rules | `(tactic| walk_at "call ref") => `(tactic| (k_here; (with_reducible show wpAny _ _ (call (Value.ref 96) _) _ _ _); (rename News _ _ _ _ => lN9); k_dflt (refine' Ok.at (rest_ok _) _ ?kB ?kF ?kX lN9 ?kT ?kk ?kd ?ku trivial (fun _ h => nomatch h) (fun _ h => h) (fun _ _ h => nomatch h) ?_; (case kB => k_asm); (case kF => k_asm); (case kX => k_asm); (case kT => k_asm); (case kk => exact rfl); (case kd => omega); (case ku => omega); k_whole; intro v9 h' tk nx9 hp9 F' N'; clear lN9; (obtain ⟨a9, vs9, k9, hn9, hv9, hi9⟩ := hp9); subst hn9; subst hv9; (try simp only [List.cons_append, List.nil_append] at N'))))
local macro_rules | `(tactic| walk_at "call ref") => `(tactic| ((with_reducible show wpAny _ _ (call (Value.ref 127) _) _ _ _); refine Hold.of ?_))
local macro_rules | `(tactic| walk_at "ps nums") => `(tactic| (first | (with_reducible exact kmk_from (by l_ints) (by omega)) | (with_reducible exact kmk_upto (by l_ints) (by omega)) | (with_reducible exact kmk_run (by l_ints) (by omega) (by omega))))
local macro_rules | `(tactic| walk_at "subscriptTail Name Slice ref ref") => `(tactic| ((with_reducible show wpAny _ _ (subscriptTail _ (PySem.Expr.Slice _ _ none _) (Value.ref _) (Value.ref _)) _ _ _); k_dflt (refine' kmk_slice_ints ?F ?N ?l ?p ?q ?i ?m ?c ?_ ?s ?t ?z; (case F => k_asm); (case N => k_asm); (case l => kmk_list); (case p => kmk_part); (case q => kmk_part); (case i => l_ints); (case m => walk_at "ps nums"); (case c => kmk_len); (case s => with_unfolding_all rfl); (case t => kmk_pure); (case z => kmk_size)); intro D' ws' h' F' N' l1 hI' hC' hL'; (try simp only [Int.reduceNeg, Int.neg_neg, Int.reduceToNat] at hI' hC' hL'); (try k_lt l1); (try k_sweep)))
local macro_rules | `(tactic| walk_at "subscriptTail Call") => `(tactic| (k_here; (with_reducible show wpAny _ _ (subscriptTail _ (PySem.Expr.Slice _ _ _ _) (Value.ref _) (Value.ref _)) _ _ _); k_dflt (refine kba_turn (value' := PySem.Expr.Name (PySem.Str.ofString "_") ⟨0, 0, 0, 0⟩) (fun _ => rfl) ?_)))
local macro_rules | `(tactic| walk_at "subscriptTail Call Slice ref ref") => `(tactic| (k_here; (with_reducible show wpAny _ _ (subscriptTail _ (PySem.Expr.Slice _ _ _ _) (Value.ref _) (Value.ref _)) _ _ _); k_dflt (refine kba_turn (value' := PySem.Expr.Name (PySem.Str.ofString "_") ⟨0, 0, 0, 0⟩) (fun _ => rfl) ?_)))
local macro_rules | `(tactic| walk_at "subscriptTail BinOp") => `(tactic| (k_here; (with_reducible show wpAny _ _ (subscriptTail _ (PySem.Expr.Slice _ _ _ _) (Value.ref _) (Value.ref _)) _ _ _); k_dflt (refine kba_turn (value' := PySem.Expr.Name (PySem.Str.ofString "_") ⟨0, 0, 0, 0⟩) (fun _ => rfl) ?_)))
local macro_rules | `(tactic| walk_at "subscriptTail BinOp Slice ref ref") => `(tactic| (k_here; (with_reducible show wpAny _ _ (subscriptTail _ (PySem.Expr.Slice _ _ _ _) (Value.ref _) (Value.ref _)) _ _ _); k_dflt (refine kba_turn (value' := PySem.Expr.Name (PySem.Str.ofString "_") ⟨0, 0, 0, 0⟩) (fun _ => rfl) ?_)))
local macro_rules | `(tactic| walk_at "subscriptTail Subscript") => `(tactic| (k_here; (with_reducible show wpAny _ _ (subscriptTail _ (PySem.Expr.Slice _ _ _ _) (Value.ref _) (Value.ref _)) _ _ _); k_dflt (refine kba_turn (value' := PySem.Expr.Name (PySem.Str.ofString "_") ⟨0, 0, 0, 0⟩) (fun _ => rfl) ?_)))
local macro_rules | `(tactic| walk_at "subscriptTail Subscript Slice ref ref") => `(tactic| (k_here; (with_reducible show wpAny _ _ (subscriptTail _ (PySem.Expr.Slice _ _ _ _) (Value.ref _) (Value.ref _)) _ _ _); k_dflt (refine kba_turn (value' := PySem.Expr.Name (PySem.Str.ofString "_") ⟨0, 0, 0, 0⟩) (fun _ => rfl) ?_)))
local macro_rules | `(tactic| walk_at "exec For Tuple Call cons nil") => `(tactic| (k_here; (rename Fr _ _ _ _ => lF'); (with_unfolding_all refine' For_turns lF' ?_); k_whole))
local macro_rules | `(tactic| walk_at "call ref") => `(tactic| ((with_reducible show wpAny _ _ (call (Value.ref 81) _) _ _ _); refine Hold.of ?_))
set_option maxHeartbeats 4000000
theorem law_holds : PySem.Challenge.rw_fp5023_01.Holds := by
  w_top off
  refine hd ?_
  k_go0
  rename_i w s0 s1 mg mb G Y fa o pm doc kV ho hg KX X V GL T TB TE TW b1 b2 M b3 b4 hcd ns hs hlay0 hL1 hr1 hl2 c1 c2 l vs c5 hL ra w1 r0 hI hr hc1 hc2 K0 hD h1 F N0
  with_reducible show wpAny _ _ _ _ _ _
  refine wpAny_noRaise ?_
  refine wpAny_mono (Q := LawQ s1.heap s1.heap.objs.size s1) ?law ?good (fun _ _ h => h)
  case good =>
    rintro f s' ⟨rfl, h', tk, m', rfl, F'⟩
    dsimp only
    wrow_close
  case law =>
    clear Y X V GL TB TE TW M hcd hs hlay0 hL1 hr1 hl2 ra w1 r0 hr hc2 hD ho hg
    (with_unfolding_all show wpAny _ (ktrTop 302 7 callerA.guards _ _ _ _ _ _ _) _ _ _ _)
    generalize hdp : 302 = dp
    generalize hun : 7 = un
    generalize callerA.guards = gd
    generalize Value.ref b3 = ccd
    have K1 : Below callerA s1.heap [] s1.heap := K0
    clear K0
    generalize s1.heap.objs.size = L at *
    generalize s1.heap = h₀ at *
    have hrl : RestL.length = 16 := rfl
    have hn63 : ns.length ≤ 63 := by omega
    have hdp1 : dp + 100 < recursionLimit := by subst hdp; decide
    have hun1 : un + 400 < cLine := by subst hun; decide
    clear hdp hun hc1 G
    obtain ⟨u9, F9⟩ := fr1 (x := Str.ofString "script") F (by rfl)
    clear F
    dsimp only
    (with_reducible show wpAny _ _ _ _ _ _)
    k_fold
    k_steps
    unfold Hold
    (rename Fr _ _ _ _ => lF'); (rename News _ _ _ _ => lN'); (rename IntsAre _ _ => hI9)
    rename_i D9 ws9 hx1 hC9 hL9 l9 hx2 hx3
    generalize hds : List.take 16 (ns ++ List.drop ((ns.length : Int)).toNat RestL) = ds at hI9 ⊢
    have hlen : ds.length = 16 := hds ▸ draws16
    replace lN' := cut1 lN'
    refine' Ok2.at (pairs_ok _ _ _ _ ?zi ?zn) _ ?zB lF' ?zX lN' ?zT ?zk ?zd ?zu ?zin (fun _ h => nomatch h) (fun _ h => h) (fun _ _ h => nomatch h) ?_
    case zB => exact K1
    case zX => exact KX
    case zT => exact T
    case zk => exact rfl
    case zd => omega
    case zu => omega
    case zin => exact hL
    case zi => exact hI
    case zn => exact hn63
    intro v9 h' tk nx9 hp9 F' N'
    clear lN'
    obtain ⟨G9, a1, a2, a3, T1, T2, T3, k9, rfl, rfl, hq1, hq2, hq3⟩ := hp9
    simp only [List.cons_append, List.nil_append] at N'
    k_steps
    unfold Hold
    have hvl : _ = 16 := hI9.length.trans hlen
    with_unfolding_all
     refine' lw_lst (by rfl) F' N' hq1 hq2 hq3 hvl (by rfl) (by rfl) ?zturn ?zdone
    case zdone =>
      clear F' N' lF'
      intro n8 t8 u8 h8 tk8 hn8 F' N'
      dsimp only
      k_steps
      exact ⟨by simp [hn8], _, _, _, rfl, by assumption⟩
    case zturn =>
      clear F' N' lF'
      intro n8 t8 a8 o8 p8 pl8 w8 u8 h8 tk8 tail8 hn8 hG8 hor8 F' N'
      have hMk := kstMark
      have hle8 := hG8.le
      have ht8 := hG8.t16
      have hf0 := osa_nonneg (tbA o8) (tbA p8) o8.length p8.length
      have hf1 : osa (tbA o8) (tbA p8) o8.length p8.length ≤ 16 := by have := osa_le_max (tbA o8) (tbA p8) o8.length p8.length; omega
      (with_reducible show wpAny _ _ _ _ _ _)
      k_fold
      k_steps
      case' _ =>
        (rename Fr _ _ _ _ => lF5); (rename News _ _ _ _ => lN5)
        with_unfolding_all
         exact lw_end lF5 lN5 (fun p hp => .tail _ (.tail _ hp)) (by rfl) (by rfl) (by omega)
      unfold Hold
      (rename Fr _ _ _ _ => lF5); (rename News _ _ _ _ => lN5); (rename IsRange _ _ _ _ _ _ _ _ => rgX)
      have hol : 0 < o8.length := by omega
      generalize hlo : (if (p8.length : Int) - o8.length > 1 then (p8.length : Int) - o8.length else 1) = lo at rgX ⊢
      have hlo1 : 1 ≤ lo := by subst hlo; split <;> omega
      have hlo2 : (p8.length : Int) - o8.length ≤ lo := by subst hlo; split <;> omega
      have hlo3 : lo ≤ p8.length := by subst hlo; split <;> omega
      have hlo4 : 2 ≤ o8.length → lo < p8.length := by intro h2; subst hlo; split <;> omega
      replace lN5 : News h₀ L _ (lwLed D9 ws9 tail8 ⟨n8, t8⟩) := fun p hp => lN5 p (.tail _ hp)
      with_unfolding_all
       refine' rng (σ := LwS) (lwLed D9 ws9 tail8) (lwPs2 D9 o8 p8 pl8 w8) (lwP n8) ⟨n8, t8⟩ (by rfl) rgX ?ks ?kz lF5 ?kn ?kk ?kp ?turn ?done
      case ks => exact small_one (by omega) (by omega) (by omega) (by omega)
      case kz => exact rangeSize_nat _ _
      case kn => exact lN5
      case kk => kst_all
      case kp => show n8 = n8 + ((0 : Nat) : Int); omega
      case done =>
        clear lF5 lN5 rgX
        intro c u h tk hP F' N'
        have hP' : c.n = n8 + (((p8.length : Int) - lo).toNat : Int) := hP
        dsimp only
        dsimp only [lwPs2, kstB] at F'
        k_steps
        (with_unfolding_all exact lw_end F' N' (fun p hp => .tail _ hp) (by rfl) (by rfl) (by rcases hor8 with h9 | h9; omega; have := hlo4 h9; omega))
      case turn =>
        clear lF5 lN5 rgX
        intro c i t u h tk own hi hoff hP F' N'
        have hb1 : 1 ≤ lo + (i : Int) * 1 := by omega
        have hb2 : lo + (i : Int) * 1 < p8.length := by omega
        have hb3 : (p8.length : Int) - o8.length ≤ lo + (i : Int) * 1 := by omega
        generalize lo + (i : Int) * 1 = bd at F' hb1 hb2 hb3
        simp only [lwLed, List.cons_append] at N'
        simp only [lwLed, List.map_cons] at hoff
        dsimp only [lwPs2, kstB] at F'
        (with_reducible show wpAny _ _ _ _ _ _)
        k_fold
        k_steps
        all_goals unfold Hold
        all_goals
          (rename Fr _ _ _ _ => lF5); (rename News _ _ _ _ => lN5); (rename IntsAre _ _ => hI5); (rename _ ∧ _ => hlt5); (rename (List.take _ _).length = _ => hC5)
          rw [List.length_reverse, hlen] at hC5
          refine' Ok.at (dmp_ok _ hG8 hol hb1 hb2 hb3 hI5 ?z5 ?z6) _ ?zB lF5 ?zX lN5 ?zT ?zk ?zd ?zu trivial (fun p hp => by rw [List.mem_singleton.mp hp]; exact .head _) (fun p hp => .tail _ hp) (apart_lt hlt5) ?_
          case z5 => omega
          case z6 => omega
          case zB => exact K1
          case zX => exact KX
          case zT => exact T
          case zk => exact rfl
          case zd => omega
          case zu => omega
          clear lF5 lN5
          rintro v9 h9 tk9 nx9 ⟨rfl, t9, rfl⟩ F' N'
          rw [List.nil_append] at N'
        all_goals first
          | rw [if_pos (show farOf o8 p8 ≤ bd by assumption)]
          | rw [if_neg (show ¬ farOf o8 p8 ≤ bd by assumption)]
        all_goals try unfold farOf
        all_goals (with_reducible show wpAny _ _ _ _ _ _)
        all_goals k_steps
        all_goals try (exfalso; (rename (_ != _) = true => hbad); exact absurd (bne_self_eq_false _) (by rw [hbad]; exact Bool.noConfusion))
        all_goals
          (rename Fr _ _ _ _ => lF5); (rename News _ _ _ _ => lN5)
          with_unfolding_all
           refine' lwi_end hP lF5 lN5 (fun p hp => .tail _ (.tail _ hp)) (by rfl) (by rfl) (by rfl) (by rfl) (by rfl) (by rfl) (by rfl) (by rfl) (by rfl) (by rfl)
end Mine

end
theorem PySem.Challenge.cw_fp5023_01_holds : PySem.Challenge.rw_fp5023_01.Holds := by
  exact Mine.law_holds
