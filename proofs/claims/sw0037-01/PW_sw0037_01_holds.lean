import PyProof.Rows.All
import Wide.All
import OpenK.AllK
import Wide.FinOn
import PySem.Challenge.RW_sw0037_01

-- part TopA
open PySem PySem.W PyProof.Rows
set_option Elab.async false
namespace Mine
set_option maxRecDepth 100000 in
set_option maxHeartbeats 16000000 in
open_top hd for PySem.Challenge.rw_sw0037_01
end Mine

-- part Base
open PySem PySem.W PyProof.Rows PySem.Calls
set_option Elab.async false
namespace Mine
set_option maxRecDepth 100000

/-- a plain call of a def of the top's, entered over the whole heap -/
theorem enter_pure {prog : Program} {w : World} {A : Around} {s : Shared} {K : Frag} {p : Program} {loose : List Str} {mean : ExcName → Option Value} {mg mb : Str → Option Value}
    {R : Result → Shared → Prop} {name qual : Str} {params : Arguments} {body : List Stmt} {scope : Scope} {dV kV doc pm cdv ct oc : Value} {an od : Option Addr} {osl : Array (Option Value)} {f : Addr} {args : Args} {binds : List (Str × Value)}
    (X : K.In s.heap) (T : Top p loose mean mg mb s.heap)
    (ho : K.lookup f = some ⟨oc, od, .func (fnOf name qual params body scope dV kV doc pm an cdv ct), osl⟩) (hcd : codeIn K cdv qual = true) (hroom : A.depth < recursionLimit)
    (hbind : BindsTo s (fnOf name qual params body scope dV kV doc pm an cdv ct) args binds) (hloc : ∀ y ∈ binds, scope.names.lookup y.1 = some .local)
    (h : ∀ h₁, Fr s.heap s.heap.objs.size h₁ (fun y => binds.reverse.lookup y) →
      wpAny (model prog w) (A.deeper (envOf qual scope s.heap.objs.size f cdv)) (execs body (envOf qual scope s.heap.objs.size f cdv))
        (fun fl s' => R (.ok (.ret (match fl with | .ret v => v | _ => .none))) s')
        (fun _ _ => False)
        { s with heap := h₁, toks := s.toks + binds.length })
    (hco : scope.isCoroutine = false) (hgen : scope.isGenerator = false) (hk : scope.kind = .function)
    (hcell : ∀ x ∈ scope.names, x.2 ≠ .cell) : codeAny (model prog w) A (.call (.ref f) args) R s := by
  refine codeAny_call_def (fd := fnOf name qual params body scope dV kV doc pm an cdv ct) (body := body) (binds := binds) hroom (X _ _ ho) rfl T.nolimit (codeRec_of X hcd) rfl hbind hcell hloc (fun h₁ hns hk₁ => ?_) hco hgen hk
  exact wpAny_mono (h h₁ ⟨hns, hk₁, Nat.le_refl _⟩) (fun _ _ y => y) fun _ _ y => y.elim

/-- a while's turn is over: the word holds at a smaller measure -/
def WNext (I : Nat → Shared → Prop) (n : Nat) (s : Shared) : Prop := ∃ k, k < n ∧ I k s
theorem my_while {prog : Program} {w : World} {A : Around} {E : Value → Shared → Prop} {s : Shared} {env : Env} {test : PySem.Expr} {body : List Stmt} {pos : Pos} {Q : Flow → Shared → Prop} (I : Nat → Shared → Prop)
    (turn : ∀ n s, I n s →
      wpAny (model prog w) A (isTrue test env (eval test env)) (fun b s₂ =>
        if b then wpAny (model prog w) A (execs body env) (fun f s₃ => match f with
            | .next => WNext I n s₃
            | .cont => WNext I n s₃
            | .brk => Q .next s₃
            | .ret v => Q (.ret v) s₃) (fun _ _ => False) s₂
        else Q .next s₂) (fun _ _ => False) s)
    (n : Nat) (h : I n s) : wpAny (model prog w) A (exec (.While test body [] pos) env) Q E s := by
  refine wpAny_While (codeAny_whileLoop I (fun n s hI => ?_) n h)
  refine wpAny_mono (turn n s hI) (fun b s₂ h₂ => ?_) fun _ _ y => y.elim
  cases b with
  | false => exact wpAny_execs_nil h₂
  | true =>
    refine wpAny_mono h₂ (fun f s₃ h₃ => ?_) fun _ _ y => y.elim
    cases f <;> exact h₃

theorem binds_peek {s : Shared} {K : Frag} {fd : FuncData} {args : Args} {binds : List (Str × Value)} (X : K.In s.heap) (e : ∀ S, peek K S (bindArgs fd args) = some binds) : BindsTo s fd args binds :=
  fun _ _ _ _ hq _ _ _ => wp_of_peek X hq _ (e _)

/-- the walk halts here -/
def Halt (P : Prop) : Prop := P
theorem to_halt {P : Prop} (h : Halt P) : P := h

theorem Fr.cast {h₀ h : Heap} {L : Addr} {m m' : Str → Option Value} (F : Fr h₀ L h m) (e : m = m') : Fr h₀ L h m' := e ▸ F

/-- what stands of the program at a heap -/
structure PC (w : World) (mean : ExcName → Option Value) (mg mb : Str → Option Value) (h : Heap) : Prop where
  X : Frag.In (Mine.hd.heap_39 w.params) h
  T : Top Mine.hd.view_39 [Str.ofString "bisect_right", Str.ofString "insort_left", Str.ofString "bisect_left"] mean mg mb h
theorem PC.keeps {w : World} {mean : ExcName → Option Value} {mg mb : Str → Option Value} {h h' : Heap} (P : PC w mean mg mb h) (k : ∀ b o, h.get? b = some o → h'.get? b = some o) : PC w mean mg mb h' :=
  ⟨P.X.keeps k, P.T.keeps k⟩
end Mine

-- part C2
open PySem PySem.W PyProof.Rows PySem.Calls
set_option Elab.async false
set_option linter.unusedVariables false
namespace Mine
set_option maxRecDepth 100000
set_option maxHeartbeats 16000000

def bisR (ns : List Int) (x : Int) : Nat → Int → Int → Int
  | 0, lo, _ => lo
  | n + 1, lo, hi => if lo < hi then (if x < ns.getD (Int.fdiv (lo + hi) 2).toNat 0 then bisR ns x n lo (Int.fdiv (lo + hi) 2) else bisR ns x n (Int.fdiv (lo + hi) 2 + 1) hi) else lo

theorem ldm {M : Model} {A : Around} {E : Value → Shared → Prop} {s : Shared} {name : Str} {scope : Scope} {L a : Addr} {cd : Value} {h₀ : Heap} {m : Str → Option Value} {x : Str} {pos : Pos} {v : Value} {Q : Value → Shared → Prop}
    (F : Fr h₀ L s.heap m) (hv : m x = some v) (h : Q v s)
    (hk : scope.kind = .function) (hl : (envOf name scope L a cd).kindOf x = some .local)
    (hd : (x == ("__debug__" : Str)) = false) :
    wpAny M A (eval (.Name x pos) (envOf name scope L a cd)) Q E s := ld F hv h hk hl hd

theorem ldnm {M : Model} {A : Around} {E : Value → Shared → Prop} {s : Shared} {name : Str} {scope : Scope} {L a : Addr} {cd : Value} {h₀ : Heap} {m : Str → Option Value} {x : Str} {v : Value} {Q : Value → Shared → Prop}
    (F : Fr h₀ L s.heap m) (hv : m x = some v) (h : Q v s)
    (hk : scope.kind = .function) (hl : (envOf name scope L a cd).kindOf x = some .local) :
    wpAny M A (loadName (envOf name scope L a cd) x) Q E s := ldn F hv h hk hl

structure BrI (s : Shared) (l : Addr) (x : Int) (t : Tok) (ns : List Int) (size : Int) (n : Nat) (s' : Shared) (h : Heap) (tk : Nat) (m : Str → Option Value) (lo hi : Int) (tlo thi : Tok) : Prop where
  e : s' = { s with heap := h, toks := tk }
  F : Fr s.heap s.heap.objs.size h m
  ma : m (Str.ofString "a") = some (.ref l)
  mx : m (Str.ofString "x") = some (.int x t)
  mlo : m (Str.ofString "lo") = some (.int lo tlo)
  mhi : m (Str.ofString "hi") = some (.int hi thi)
  l0 : 0 ≤ lo
  l1 : lo ≤ hi
  l2 : hi ≤ ns.length
  k : (hi - lo).toNat ≤ n
  b : bisR ns x n lo hi = bisR ns x size.toNat 0 size
def BrInv (s : Shared) (l : Addr) (x : Int) (t : Tok) (ns : List Int) (size : Int) (n : Nat) (s' : Shared) : Prop :=
  ∃ h tk m lo hi tlo thi, BrI s l x t ns size n s' h tk m lo hi tlo thi

section
local macro_rules | `(tactic| walk_at "exec While Compare cons nil") => `(tactic| refine to_halt ?_)
local macro_rules | `(tactic| walk_at "eval Name") => `(tactic| (refine ldm (by assumption) (by assumption) ?_ (by rfl) (by rfl) (by decide)))
/-- bisect_right over ints -/
theorem bisect_right_ints (w : World) (mean : ExcName → Option Value) (mg mb : Str → Option Value) (A : Around) (s : Shared) (Q E : Value → Shared → Prop)
   (l : Addr) (vs : List Value) (ns : List Int) (x size : Int) (t t1 t2 : Tok)
   (P : PC w mean mg mb s.heap)
   (hd : A.depth + 1 < recursionLimit) 
   (hl : s.heap.IsList l vs.toArray) (hi : IntsAre vs ns) (hn : ns.length < 2 ^ 20) (h0 : 0 ≤ size) (h1 : size ≤ ns.length)
   (hret : ∀ tk h' tk', (∀ b o, s.heap.get? b = some o → h'.get? b = some o) → Q (.int (bisR ns x size.toNat 0 size) tk) { s with heap := h', toks := tk' }) :
   wpAny (model PySem.Challenge.rw_sw0037_01.row.prog w) A (call (.ref 23) [.ref l, .int x t, .int 0 t1, .int size t2]) Q E s := by
  obtain ⟨X, T⟩ := P
  revert X; k_fill; intro X
  refine wpAny_call ?_
  k_dflt (refine' enter_pure (binds := [(Str.ofString "a", .ref l), (Str.ofString "x", .int x t), (Str.ofString "lo", .int 0 t1), (Str.ofString "hi", .int size t2), (Str.ofString "key", .none)]) X T ?k6 ?k7 ?k8 ?k9 ?kB ?_ ?c2 ?c3 ?c4 ?c5; (case k6 => k_is); (case k7 => k_is); (case k8 => exact Nat.lt_of_succ_lt hd); (case k9 => exact binds_peek X (fun _ => rfl)); (case c5 => decide); (case kB => exact locs rfl); (case c2 => exact rfl); (case c3 => exact rfl); (case c4 => exact rfl); k_whole)
  intro h₁ F
  (try dsimp only)
  k_steps
  unfold Halt
  refine my_while (BrInv s l x t ns size) ?_ size.toNat ⟨_, _, _, _, _, _, _, rfl, F, rfl, rfl, rfl, rfl, by omega, by omega, by omega, by omega, rfl⟩
  rintro n s' ⟨h, tk, m, lo, hi', tlo, thi, rfl, F1, ma, mx, mlo, mhi, l0, l1, l2, ln, hb⟩
  clear F
  have hl1 : h.IsList l vs.toArray := hl.at fun o e => F1.keep l o e
  have N1 : News s.heap s.heap.objs.size h [] := News.nil
  k_steps
  · obtain ⟨k, rfl⟩ : ∃ k, n = k + 1 := ⟨n - 1, by omega⟩
    have e := Int.fdiv_eq_ediv_of_nonneg (lo + hi') (b := 2) (by decide)
    rename Fr _ _ _ _ => F2
    refine ⟨k, Nat.lt_succ_self k, _, _, _, lo, Int.fdiv (lo + hi') 2, _, _, ⟨rfl, F2, ma, mx, mlo, rfl, l0, by omega, by omega, by omega, ?_⟩⟩
    rw [← hb, bisR, if_pos (by assumption), if_pos (by assumption)]
  · obtain ⟨k, rfl⟩ : ∃ k, n = k + 1 := ⟨n - 1, by omega⟩
    have e := Int.fdiv_eq_ediv_of_nonneg (lo + hi') (b := 2) (by decide)
    rename Fr _ _ _ _ => F2
    refine ⟨k, Nat.lt_succ_self k, _, _, _, Int.fdiv (lo + hi') 2 + 1, hi', _, _, ⟨rfl, F2, ma, mx, rfl, mhi, by omega, by omega, by omega, by omega, ?_⟩⟩
    rw [← hb, bisR, if_pos (by assumption), if_neg (by assumption)]
  · have e : bisR ns x size.toNat 0 size = lo := by
      rw [← hb]
      cases n with
      | zero => rfl
      | succ n => rw [bisR, if_neg (by assumption)]
    rw [e] at hret
    exact hret _ _ _ F1.keep
end
end Mine

-- part C3
open PySem PySem.W PyProof.Rows PySem.Calls
set_option Elab.async false
set_option linter.unusedVariables false
namespace Mine
set_option maxRecDepth 100000
set_option maxHeartbeats 16000000

def bisL (xs : List Str) (x : Str) : Nat → Int → Int → Int
  | 0, lo, _ => lo
  | n + 1, lo, hi => if lo < hi then (if (xs.getD (Int.fdiv (lo + hi) 2).toNat (Str.mk #[])).cps.toList < x.cps.toList then bisL xs x n (Int.fdiv (lo + hi) 2 + 1) hi else bisL xs x n lo (Int.fdiv (lo + hi) 2)) else lo

structure BlI (s : Shared) (l : Addr) (x : Str) (t : Tok) (xs : List Str) (n : Nat) (s' : Shared) (h : Heap) (tk : Nat) (m : Str → Option Value) (lo hi : Int) (tlo thi : Tok) : Prop where
  e : s' = { s with heap := h, toks := tk }
  F : Fr s.heap s.heap.objs.size h m
  ma : m (Str.ofString "a") = some (.ref l)
  mx : m (Str.ofString "x") = some (.str x t)
  mlo : m (Str.ofString "lo") = some (.int lo tlo)
  mhi : m (Str.ofString "hi") = some (.int hi thi)
  l0 : 0 ≤ lo
  l1 : lo ≤ hi
  l2 : hi ≤ xs.length
  k : (hi - lo).toNat ≤ n
  b : bisL xs x n lo hi = bisL xs x xs.length 0 xs.length
def BlInv (s : Shared) (l : Addr) (x : Str) (t : Tok) (xs : List Str) (n : Nat) (s' : Shared) : Prop :=
  ∃ h tk m lo hi tlo thi, BlI s l x t xs n s' h tk m lo hi tlo thi

theorem item_strsD {prog : Program} {w : World} {A : Around} {E : Value → Shared → Prop} {s : Shared} {value slice : PySem.Expr} {l : Addr} {vs : List Value} {ns : List Str} {k : Int} {u : Tok} {Q : Value → Shared → Prop}
    (hl : s.heap.IsList l vs.toArray) (hi : StrsAre vs ns) (h0 : 0 ≤ k) (hk : k < ns.length) (hhi : k < 2 ^ 63) (h : ∀ t, Q (.str (ns.getD k.toNat (Str.mk #[])) t) s)
    (hs : subscripted slice false (.ref l) (.int k u) = operate [.ref l, .int k u] (getItem (.ref l) (.int k u)) := by with_unfolding_all rfl) :
    wpAny (model prog w) A (subscriptTail value slice (.ref l) (.int k u)) Q E s := by
  have hk' : k.toNat < ns.length := by omega
  obtain ⟨t, ht⟩ := hi.get k.toNat ns[k.toNat] (by simp [hk'])
  have e : ns.getD k.toNat (Str.mk #[]) = ns[k.toNat] := by
    rw [List.getD_eq_getElem?_getD, List.getElem?_eq_getElem hk']; rfl
  exact tail_any hl.typeIs slot_list_getitem.lookup (wpAny_getItem_list hl h0 hhi (by simpa using ht) (by have := h t; rwa [e] at this)) hs

section
local macro_rules | `(tactic| walk_at "exec While Compare cons nil") => `(tactic| refine to_halt ?_)
local macro_rules | `(tactic| walk_at "eval Name") => `(tactic| (refine ldm (by assumption) (by assumption) ?_ (by rfl) (by rfl) (by decide)))
local macro_rules | `(tactic| walk_at "subscriptTail Name Name ref int") => `(tactic| (refine item_strsD (by assumption) (by assumption) (by omega) (by omega) (by omega) ?_; intro _))

theorem bisect_left_two (w : World) (mean : ExcName → Option Value) (mg mb : Str → Option Value) (A : Around) (s : Shared) (Q E : Value → Shared → Prop)
   (l : Addr) (vs : List Value) (xs : List Str) (x : Str) (t t1 : Tok)
   (P : PC w mean mg mb s.heap)
   (hd : A.depth + 1 < recursionLimit) 
   (hl : s.heap.IsList l vs.toArray) (hi : StrsAre vs xs) (hn : xs.length < 2 ^ 20)
   (hret : ∀ tk h' tk', (∀ b o, s.heap.get? b = some o → h'.get? b = some o) → Q (.int (bisL xs x xs.length 0 xs.length) tk) { s with heap := h', toks := tk' }) :
   wpAny (model PySem.Challenge.rw_sw0037_01.row.prog w) A (call (.ref 41) [.ref l, .str x t]) Q E s := by
  obtain ⟨X, T⟩ := P
  revert X; k_fill; intro X
  have hle := hi.length
  refine wpAny_call ?_
  k_dflt (refine' enter_pure (binds := [(Str.ofString "a", .ref l), (Str.ofString "x", .str x t), (Str.ofString "lo", .int 0 216), (Str.ofString "hi", .none), (Str.ofString "key", .none)]) X T ?k6 ?k7 ?k8 ?k9 ?kB ?_ ?c2 ?c3 ?c4 ?c5; (case k6 => k_is); (case k7 => k_is); (case k8 => exact Nat.lt_of_succ_lt hd); (case k9 => exact binds_peek X (fun _ => rfl)); (case c5 => decide); (case kB => exact locs rfl); (case c2 => exact rfl); (case c3 => exact rfl); (case c4 => exact rfl); k_whole)
  intro h₁ F
  have hl0 : h₁.IsList l vs.toArray := hl.at fun o e => F.keep l o e
  (try dsimp only)
  k_steps
  unfold Halt
  rename Fr _ _ _ _ => F2
  refine my_while (BlInv s l x t xs) ?_ xs.length ⟨_, _, _, 0, xs.length, _, _, rfl, F2, rfl, rfl, rfl, rfl, by omega, by omega, by omega, by omega, rfl⟩
  rintro n s' ⟨h, tk, m, lo, hi', tlo, thi, rfl, F1, ma, mx, mlo, mhi, l0, l1, l2, ln, hb⟩
  clear F2
  have hl1 : h.IsList l vs.toArray := hl.at fun o e => F1.keep l o e
  have N1 : News s.heap s.heap.objs.size h [] := News.nil
  have e := Int.fdiv_eq_ediv_of_nonneg (lo + hi') (b := 2) (by decide)
  k_steps
  · obtain ⟨k, rfl⟩ : ∃ k, n = k + 1 := ⟨n - 1, by omega⟩
    rename Fr _ _ _ _ => F2
    refine ⟨k, Nat.lt_succ_self k, _, _, _, Int.fdiv (lo + hi') 2 + 1, hi', _, _, ⟨rfl, F2, ma, mx, rfl, mhi, by omega, by omega, by omega, by omega, ?_⟩⟩
    rw [← hb, bisL, if_pos (by assumption), if_pos (by assumption)]
  · obtain ⟨k, rfl⟩ : ∃ k, n = k + 1 := ⟨n - 1, by omega⟩
    rename Fr _ _ _ _ => F2
    refine ⟨k, Nat.lt_succ_self k, _, _, _, lo, Int.fdiv (lo + hi') 2, _, _, ⟨rfl, F2, ma, mx, mlo, rfl, l0, by omega, by omega, by omega, ?_⟩⟩
    rw [← hb, bisL, if_pos (by assumption), if_neg (by assumption)]
  · have e : bisL xs x xs.length 0 xs.length = lo := by
      rw [← hb]
      cases n with
      | zero => rfl
      | succ n => rw [bisL, if_neg (by assumption)]
    rw [e] at hret
    exact hret _ _ _ F1.keep

theorem bisect_left_four (w : World) (mean : ExcName → Option Value) (mg mb : Str → Option Value) (A : Around) (s : Shared) (Q E : Value → Shared → Prop)
   (l : Addr) (vs : List Value) (xs : List Str) (x : Str) (t t1 : Tok)
   (P : PC w mean mg mb s.heap)
   (hd : A.depth + 1 < recursionLimit) 
   (hl : s.heap.IsList l vs.toArray) (hi : StrsAre vs xs) (hn : xs.length < 2 ^ 20)
   (hret : ∀ tk h' tk', (∀ b o, s.heap.get? b = some o → h'.get? b = some o) → Q (.int (bisL xs x xs.length 0 xs.length) tk) { s with heap := h', toks := tk' }) :
   wpAny (model PySem.Challenge.rw_sw0037_01.row.prog w) A (call (.ref 41) [.ref l, .str x t, .int 0 t1, .none]) Q E s := by
  obtain ⟨X, T⟩ := P
  revert X; k_fill; intro X
  have hle := hi.length
  refine wpAny_call ?_
  k_dflt (refine' enter_pure (binds := [(Str.ofString "a", .ref l), (Str.ofString "x", .str x t), (Str.ofString "lo", .int 0 t1), (Str.ofString "hi", .none), (Str.ofString "key", .none)]) X T ?k6 ?k7 ?k8 ?k9 ?kB ?_ ?c2 ?c3 ?c4 ?c5; (case k6 => k_is); (case k7 => k_is); (case k8 => exact Nat.lt_of_succ_lt hd); (case k9 => exact binds_peek X (fun _ => rfl)); (case c5 => decide); (case kB => exact locs rfl); (case c2 => exact rfl); (case c3 => exact rfl); (case c4 => exact rfl); k_whole)
  intro h₁ F
  have hl0 : h₁.IsList l vs.toArray := hl.at fun o e => F.keep l o e
  (try dsimp only)
  k_steps
  unfold Halt
  rename Fr _ _ _ _ => F2
  refine my_while (BlInv s l x t xs) ?_ xs.length ⟨_, _, _, 0, xs.length, _, _, rfl, F2, rfl, rfl, rfl, rfl, by omega, by omega, by omega, by omega, rfl⟩
  rintro n s' ⟨h, tk, m, lo, hi', tlo, thi, rfl, F1, ma, mx, mlo, mhi, l0, l1, l2, ln, hb⟩
  clear F2
  have hl1 : h.IsList l vs.toArray := hl.at fun o e => F1.keep l o e
  have N1 : News s.heap s.heap.objs.size h [] := News.nil
  have e := Int.fdiv_eq_ediv_of_nonneg (lo + hi') (b := 2) (by decide)
  k_steps
  · obtain ⟨k, rfl⟩ : ∃ k, n = k + 1 := ⟨n - 1, by omega⟩
    rename Fr _ _ _ _ => F2
    refine ⟨k, Nat.lt_succ_self k, _, _, _, Int.fdiv (lo + hi') 2 + 1, hi', _, _, ⟨rfl, F2, ma, mx, rfl, mhi, by omega, by omega, by omega, by omega, ?_⟩⟩
    rw [← hb, bisL, if_pos (by assumption), if_pos (by assumption)]
  · obtain ⟨k, rfl⟩ : ∃ k, n = k + 1 := ⟨n - 1, by omega⟩
    rename Fr _ _ _ _ => F2
    refine ⟨k, Nat.lt_succ_self k, _, _, _, lo, Int.fdiv (lo + hi') 2, _, _, ⟨rfl, F2, ma, mx, mlo, rfl, l0, by omega, by omega, by omega, ?_⟩⟩
    rw [← hb, bisL, if_pos (by assumption), if_neg (by assumption)]
  · have e : bisL xs x xs.length 0 xs.length = lo := by
      rw [← hb]
      cases n with
      | zero => rfl
      | succ n => rw [bisL, if_neg (by assumption)]
    rw [e] at hret
    exact hret _ _ _ F1.keep
end
end Mine

-- part C4
open PySem PySem.W PyProof.Rows PySem.Calls
set_option Elab.async false
set_option linter.unusedVariables false
namespace Mine
set_option maxRecDepth 100000
set_option maxHeartbeats 16000000
section
local macro_rules | `(tactic| walk_at "execs nil") => `(tactic| refine wpAny_execs_nil ?_)
local macro_rules | `(tactic| walk_at "execs cons") => `(tactic| refine wpAny_execs_cons ?_)

theorem add_ints (w : World) (mean : ExcName → Option Value) (mg mb : Str → Option Value) (A : Around) (s : Shared) (Q E : Value → Shared → Prop)
   (x y : Int) (t t1 : Tok)
   (P : PC w mean mg mb s.heap)
   (hd : A.depth + 1 < recursionLimit) 
   (hret : ∀ (tk : Nat) h' tk', s.toks ≤ tk → tk < tk' → (∀ b o, s.heap.get? b = some o → h'.get? b = some o) → Q (.int (x + y) tk) { s with heap := h', toks := tk' }) :
   wpAny (model PySem.Challenge.rw_sw0037_01.row.prog w) A (call (.ref 55) [.int x t, .int y t1]) Q E s := by
  obtain ⟨X, T⟩ := P
  revert X; k_fill; intro X
  refine wpAny_call ?_
  k_dflt (refine' enter_pure (binds := [(Str.ofString "a", .int x t), (Str.ofString "b", .int y t1)]) X T ?k6 ?k7 ?k8 ?k9 ?kB ?_ ?c2 ?c3 ?c4 ?c5; (case k6 => k_is); (case k7 => k_is); (case k8 => exact Nat.lt_of_succ_lt hd); (case k9 => exact binds_peek X (fun _ => rfl)); (case c5 => decide); (case kB => exact locs rfl); (case c2 => exact rfl); (case c3 => exact rfl); (case c4 => exact rfl); k_whole)
  intro h₁ F
  (try dsimp only)
  k_steps
  all_goals exact hret _ _ _ (by show s.toks ≤ s.toks + 2; omega) (Nat.lt_succ_self _) F.keep

theorem sub_ints (w : World) (mean : ExcName → Option Value) (mg mb : Str → Option Value) (A : Around) (s : Shared) (Q E : Value → Shared → Prop)
   (x y : Int) (t t1 : Tok)
   (P : PC w mean mg mb s.heap)
   (hd : A.depth + 1 < recursionLimit) 
   (hret : ∀ (tk : Nat) h' tk', s.toks ≤ tk → tk < tk' → (∀ b o, s.heap.get? b = some o → h'.get? b = some o) → Q (.int (x - y) tk) { s with heap := h', toks := tk' }) :
   wpAny (model PySem.Challenge.rw_sw0037_01.row.prog w) A (call (.ref 69) [.int x t, .int y t1]) Q E s := by
  obtain ⟨X, T⟩ := P
  revert X; k_fill; intro X
  refine wpAny_call ?_
  k_dflt (refine' enter_pure (binds := [(Str.ofString "a", .int x t), (Str.ofString "b", .int y t1)]) X T ?k6 ?k7 ?k8 ?k9 ?kB ?_ ?c2 ?c3 ?c4 ?c5; (case k6 => k_is); (case k7 => k_is); (case k8 => exact Nat.lt_of_succ_lt hd); (case k9 => exact binds_peek X (fun _ => rfl)); (case c5 => decide); (case kB => exact locs rfl); (case c2 => exact rfl); (case c3 => exact rfl); (case c4 => exact rfl); k_whole)
  intro h₁ F
  (try dsimp only)
  k_steps
  all_goals exact hret _ _ _ (by show s.toks ≤ s.toks + 2; omega) (Nat.lt_succ_self _) F.keep

theorem mul_ints (w : World) (mean : ExcName → Option Value) (mg mb : Str → Option Value) (A : Around) (s : Shared) (Q E : Value → Shared → Prop)
   (x y : Int) (t t1 : Tok)
   (P : PC w mean mg mb s.heap)
   (hd : A.depth + 1 < recursionLimit) (hx0 : 0 ≤ x) (hx1 : x ≤ 2) (hy0 : 0 ≤ y) (hy1 : y < 2 ^ 40) (hm : x * y < 2 ^ 42)
   (hret : ∀ (tk : Nat) h' tk', s.toks ≤ tk → tk < tk' → (∀ b o, s.heap.get? b = some o → h'.get? b = some o) → Q (.int (x * y) tk) { s with heap := h', toks := tk' }) :
   wpAny (model PySem.Challenge.rw_sw0037_01.row.prog w) A (call (.ref 62) [.int x t, .int y t1]) Q E s := by
  obtain ⟨X, T⟩ := P
  revert X; k_fill; intro X
  refine wpAny_call ?_
  k_dflt (refine' enter_pure (binds := [(Str.ofString "a", .int x t), (Str.ofString "b", .int y t1)]) X T ?k6 ?k7 ?k8 ?k9 ?kB ?_ ?c2 ?c3 ?c4 ?c5; (case k6 => k_is); (case k7 => k_is); (case k8 => exact Nat.lt_of_succ_lt hd); (case k9 => exact binds_peek X (fun _ => rfl)); (case c5 => decide); (case kB => exact locs rfl); (case c2 => exact rfl); (case c3 => exact rfl); (case c4 => exact rfl); k_whole)
  intro h₁ F
  (try dsimp only)
  k_steps
  all_goals exact hret _ _ _ (by show s.toks ≤ s.toks + 2; omega) (Nat.lt_succ_self _) F.keep
end
end Mine

-- part Loops
open PySem PySem.W PyProof.Rows PySem.Calls
set_option Elab.async false
set_option linter.unusedVariables false
namespace Mine
set_option maxRecDepth 100000

/-- an iterator, turn by turn; P tells the item by the tokens ahead of and behind the turn -/
structure WalksT (prog : Program) (w : World) (A : Around) (I : Addr) (fp : List Addr) (n : Nat) (P : Nat → Value → Nat → Nat → Prop) (St : Nat → Heap → Prop) : Prop where
  hI : I ∈ fp
  frame : ∀ i h h', St i h → (∀ b ∈ fp, ∀ o, h.get? b = some o → h'.get? b = some o) → St i h'
  ex : ∀ i h, St i h → ∃ o, h.get? I = some o
  le : ∀ i v t0 t1, P i v t0 t1 → t0 ≤ t1
  item : ∀ i (s : Shared) (Q : Option Value → Shared → Prop) (E : Value → Shared → Prop), i < n → St i s.heap →
    (∀ v h' tk, P i v s.toks tk → St (i + 1) h' → (∀ b o, b ≠ I → s.heap.get? b = some o → h'.get? b = some o) → Q (some v) { s with heap := h', toks := tk }) → wpAny (model prog w) A (pyNext (.ref I)) Q E s
  done : ∀ (s : Shared) (Q : Option Value → Shared → Prop) (E : Value → Shared → Prop), St n s.heap →
    (∀ h' tk, s.toks ≤ tk → (∀ b o, b ≠ I → s.heap.get? b = some o → h'.get? b = some o) → Q none { s with heap := h', toks := tk }) → wpAny (model prog w) A (pyNext (.ref I)) Q E s
  self : ∀ i (s : Shared) (Q : Value → Shared → Prop) (E : Value → Shared → Prop), St i s.heap → Q (.ref I) s → wpAny (model prog w) A (pyIter (.ref I)) Q E s

section
variable {prog : Program} {w : World} {A : Around}
theorem walksT_list (hh : A.handled = none) (I ax : Addr) (hne : ax ≠ I) (items : Array Value) :
    WalksT prog w A I [I, ax] items.size (fun i v t0 t1 => items[i]? = some v ∧ t1 = t0) (fun i h => h.IsListIter I ax i ∧ h.IsList ax items) where
  hI := by simp
  frame := fun _ _ _ st hk => ⟨st.1.at fun o e => hk I (by simp) o e, st.2.at fun o e => hk ax (by simp) o e⟩
  ex := fun i h st => let ⟨o, ho, _⟩ := st.1; ⟨o, ho⟩
  le := fun i v t0 t1 h => Nat.le_of_eq h.2.symm
  item := fun i s Q E hi st hQ => by
    refine wpAny_pyNext_list_item st.1 st.2 (x := items[i]) (by simp [hi]) fun h' hit' hs' => ?_
    exact hQ _ h' s.toks ⟨by simp [hi], rfl⟩ ⟨hit', st.2.extBut hs'.extBut hne⟩ fun b o hb e => hs'.extBut b o hb e
  done := fun s Q E st hQ => wpAny_pyNext_list_end hh st.1 st.2 (by simp) fun h' he' => hQ h' s.toks (Nat.le_refl _) fun b o hb e => he' b o hb e
  self := fun _ _ _ _ st hQ => wpAny_pyIter_listiter st.1 hQ
theorem walksT_range (hh : A.handled = none) (I : Addr) (a c : Int) (n : Nat) :
    WalksT prog w A I [I] n (fun i v t0 t1 => v = .int (a + i * c) t0 ∧ t1 = t0 + 1) (fun i h => IsRangeIter h I (a + (i : Nat) * c) ((n : Int) - (i : Nat)) c) where
  hI := by simp
  frame := fun _ _ _ st hk => hk I (by simp) _ st
  ex := fun i h st => ⟨_, st⟩
  le := fun i v t0 t1 h => by rw [h.2]; exact Nat.le_succ _
  item := fun i s Q E hi st hQ => by
    refine wpAny_pyNext_range_item st (by omega) fun h' hit' hs' => ?_
    refine hQ _ h' _ ⟨rfl, rfl⟩ ?_ fun b o hb e => hs'.extBut b o hb e
    have e1 : a + ((i + 1 : Nat) : Int) * c = a + (i : Int) * c + c := by push_cast; rw [Int.add_mul, Int.one_mul, Int.add_assoc]
    have e2 : (n : Int) - ((i + 1 : Nat) : Int) = (n : Int) - (i : Int) - 1 := by push_cast; omega
    rw [e1, e2]; exact hit'
  done := fun s Q E st hQ => wpAny_pyNext_range_end hh st (by omega) fun h' he' => hQ h' s.toks (Nat.le_refl _) fun b o hb e => he' b o hb e
  self := fun _ _ _ _ st hQ => wpAny_pyIter_rangeiter st hQ
def SignT (x : Str) (i : Nat) (v : Value) (t0 t1 : Nat) : Prop := ∃ c, x.cps[i]? = some c ∧ v = .str ⟨#[c]⟩ t0 ∧ t1 = t0 + 1
theorem walksT_ascii (hh : A.handled = none) (I : Addr) (x : Str) (t : Tok) :
    WalksT prog w A I [I] x.cps.size (SignT x) (fun i h => h.IsStrIter I "str_ascii_iterator" x t i) where
  hI := by simp
  frame := fun _ _ _ st hk => let ⟨o, ho, r⟩ := st; ⟨o, hk I (by simp) o ho, r⟩
  ex := fun i h st => let ⟨o, ho, _⟩ := st; ⟨o, ho⟩
  le := fun i v t0 t1 h => by obtain ⟨_, _, _, h⟩ := h; rw [h]; exact Nat.le_succ _
  item := fun i s Q E hi st hQ => by
    refine wpAny_pyNext_ascii_item st (c := x.cps[i]) (by simp [hi]) fun h' hit' hs' => ?_
    exact hQ _ h' (s.toks + 1) ⟨_, by simp [hi], rfl, rfl⟩ hit' fun b o hb e => hs'.extBut b o hb e
  done := fun s Q E st hQ => wpAny_pyNext_ascii_end hh st (by simp) fun h' he' => hQ h' s.toks (Nat.le_refl _) fun b o hb e => he' b o hb e
  self := fun _ _ _ _ st hQ => wpAny_pyIter_striter_ascii st hQ
theorem walksT_wide (hh : A.handled = none) (I : Addr) (x : Str) (t : Tok) :
    WalksT prog w A I [I] x.cps.size (SignT x) (fun i h => h.IsStrIter I "str_iterator" x t i) where
  hI := by simp
  frame := fun _ _ _ st hk => let ⟨o, ho, r⟩ := st; ⟨o, hk I (by simp) o ho, r⟩
  ex := fun i h st => let ⟨o, ho, _⟩ := st; ⟨o, ho⟩
  le := fun i v t0 t1 h => by obtain ⟨_, _, _, h⟩ := h; rw [h]; exact Nat.le_succ _
  item := fun i s Q E hi st hQ => by
    refine wpAny_pyNext_wide_item st (c := x.cps[i]) (by simp [hi]) fun h' hit' hs' => ?_
    exact hQ _ h' (s.toks + 1) ⟨_, by simp [hi], rfl, rfl⟩ hit' fun b o hb e => hs'.extBut b o hb e
  done := fun s Q E st hQ => wpAny_pyNext_wide_end hh st (by simp) fun h' he' => hQ h' s.toks (Nat.le_refl _) fun b o hb e => he' b o hb e
  self := fun _ _ _ _ st hQ => wpAny_pyIter_striter_wide st hQ
end

/-- a for's turn is over -/
def FEnd (h₀ : Heap) (L : Addr) (J : (Str → Option Value) → Prop) (news : List (Addr × Obj)) (s₁ s₂ : Shared) : Prop :=
  ∃ h' tk m', s₂ = { s₁ with heap := h', toks := tk } ∧ Fr h₀ L h' m' ∧ News h₀ L h' news ∧ J m'
def FPost (h₀ : Heap) (L : Addr) (J : (Str → Option Value) → Prop) (news : List (Addr × Obj)) (s₁ : Shared) (Q : Flow → Shared → Prop) (f : Flow) (s₂ : Shared) : Prop :=
  match f with
  | .ret v => Q (.ret v) s₂
  | .brk => Q .next s₂
  | _ => FEnd h₀ L J news s₁ s₂
theorem FPost.nextI {h₀ : Heap} {L : Addr} {J : (Str → Option Value) → Prop} {news : List (Addr × Obj)} {s₁ : Shared} {Q : Flow → Shared → Prop} {h' : Heap} {tk : Nat} {m' : Str → Option Value}
    (F : Fr h₀ L h' m') (N : News h₀ L h' news) (hj : J m') : FPost h₀ L J news s₁ Q .next { s₁ with heap := h', toks := tk } := ⟨h', tk, m', rfl, F, N, hj⟩

/-- the loop that stands ahead: what an iterator must bring -/
def LoopT (prog : Program) (w : World) (A : Around) (h₀ : Heap) (env : Env) (x : Str) (body : List Stmt) (Q : Flow → Shared → Prop) (it : Value) (s : Shared) : Prop :=
  ∃ (I : Addr) (fp : List Addr) (n : Nat) (P : Nat → Value → Nat → Nat → Prop) (St : Nat → Heap → Prop) (m₀ : Str → Option Value) (news : List (Addr × Obj)) (J : Nat → (Str → Option Value) → Prop),
    it = .ref I ∧ WalksT prog w A I fp n P St ∧ env.locals ∉ fp ∧ h₀.get? I = none ∧ (∀ p ∈ news, p.1 ≠ I) ∧ (∀ b ∈ fp, b = I ∨ (∃ o, h₀.get? b = some o) ∨ (∃ o, (b, o) ∈ news)) ∧
    St 0 s.heap ∧ Fr h₀ env.locals s.heap m₀ ∧ News h₀ env.locals s.heap news ∧ J 0 m₀ ∧
    (∀ i v m₁ h t0 t1 o, i < n → s.toks ≤ t0 → P i v t0 t1 → J i m₁ → Fr h₀ env.locals h (fun y => if y = x then some v else m₁ y) → News h₀ env.locals h ((I, o) :: news) →
      wpAny (model prog w) A (execs body env) (FPost h₀ env.locals (J (i + 1)) ((I, o) :: news) { s with heap := h, toks := t1 + 1 } Q) (fun _ _ => False) { s with heap := h, toks := t1 + 1 }) ∧
    (∀ m₁ h tk, s.toks ≤ tk → J n m₁ → Fr h₀ env.locals h m₁ → News h₀ env.locals h news → Q .next { s with heap := h, toks := tk })

section
variable {prog : Program} {w : World} {A : Around} {E : Value → Shared → Prop} {s : Shared} {env : Env} {h₀ : Heap} {x : Str} {body : List Stmt} {Q : Flow → Shared → Prop}

theorem for_T {iter : PySem.Expr} {px pos : Pos} (h₀ : Heap) (hx : env.kindOf x = some .local)
    (hp : (env.scope.kind == .class || (env.scope.kind == .module && env.locals != env.globals)) = false)
    (h : wpAny (model prog w) A (eval iter env) (fun xv s₁ => wpAny (model prog w) A (pyIter xv) (fun it s₂ => LoopT prog w A h₀ env x body Q it s₂) E s₁) E s)
    (hs : ∀ x, foldedSetIterable iter env x = pure x := by intro _; rfl) :
    wpAny (model prog w) A (exec (.For (.Name x px) iter body [] pos) env) Q E s := by
  refine wpAny_For (wpAny_mono h (fun xv s₁ h₁ => wpAny_mono h₁ (fun it s₂ h₂ => ?_) fun _ _ e => e) fun _ _ e => e) hs
  obtain ⟨I, fp, n, P, St, m₀, news, J, rfl, W, hLf, hI, hnI, hfp, hst, F, N, hj, turn, done⟩ := h₂
  clear h
  have hLI : env.locals ≠ I := fun e => hLf (e ▸ W.hI)
  refine codeAny_forLoop
    (fun k s' => ∃ h' tk m' i, s' = { s₂ with heap := h', toks := tk } ∧ s₂.toks ≤ tk ∧ St i h' ∧ Fr h₀ env.locals h' m' ∧ News h₀ env.locals h' news ∧ J i m' ∧ i ≤ n ∧ k = n + 1 - i) ?_ (n + 1)
    ⟨s₂.heap, s₂.toks, m₀, 0, rfl, Nat.le_refl _, hst, F, N, hj, Nat.zero_le _, rfl⟩
  rintro k s' ⟨h', tk, m', i, rfl, htk, hst', F', N', hJ, hi, rfl⟩
  have next : ∀ h₁ : Heap, (∀ b o, b ≠ I → h'.get? b = some o → h₁.get? b = some o) → Fr h₀ env.locals h₁ m' ∧ News h₀ env.locals h₁ news := fun h₁ hk₁ =>
    ⟨⟨F'.ns.at' fun o e => hk₁ _ o hLI e, fun b o e => hk₁ b o (fun q => by rw [q, hI] at e; cases e) (F'.keep b o e), F'.above⟩, fun p hp => ⟨hk₁ _ _ (hnI p hp) (N' p hp).1, (N' p hp).2⟩⟩
  by_cases hlt : i < n
  · refine W.item i _ _ _ hlt hst' fun v h₁ tk₁ hP hst₁ hk₁ => ?_
    have hle := W.le _ _ _ _ hP
    obtain ⟨F₁, N₁⟩ := next h₁ hk₁
    refine wpAny_assign_Name (wpAny_storeName_local hx F₁.ns (fun h₂ hn₂ hs₂ => ?_) hp)
    have F₂ := F₁.set hn₂ hs₂
    have N₂ := N₁.set hs₂
    have hst₂ : St (i + 1) h₂ := W.frame _ _ _ hst₁ fun b hb o e => (hs₂.2 b fun q => hLf (q ▸ hb)).trans e
    obtain ⟨o, ho⟩ := W.ex _ _ hst₂
    have N₃ : News h₀ env.locals h₂ ((I, o) :: news) := fun p hp => by
      rcases List.mem_cons.mp hp with rfl | hp
      · exact ⟨ho, Ne.symm hLI, hI⟩
      · exact N₂ p hp
    have key : ∀ (_ : Flow) (s₃ : Shared), (s₂.toks ≤ s₃.toks ∧ FEnd h₀ env.locals (J (i + 1)) ((I, o) :: news) { s₂ with heap := h₂, toks := tk₁ + 1 } s₃) → ∃ k, k < n + 1 - i ∧ ∃ h' tk m' j, s₃ = { s₂ with heap := h', toks := tk } ∧ s₂.toks ≤ tk ∧ St j h' ∧ Fr h₀ env.locals h' m' ∧ News h₀ env.locals h' news ∧ J j m' ∧ j ≤ n ∧ k = n + 1 - j := by
      rintro (f : Flow) s₃ ⟨ht, h₄, tk₄, m₄, rfl, F₄, N₄, hJ₄⟩
      refine ⟨n + 1 - (i + 1), by omega, h₄, tk₄, m₄, i + 1, rfl, ht, ?_, F₄, fun p hp => N₄ p (List.mem_cons_of_mem _ hp), hJ₄, hlt, rfl⟩
      refine W.frame _ _ _ hst₂ fun b hb ob e => ?_
      rcases hfp b hb with rfl | ⟨o₁, e₁⟩ | ⟨o₁, e₁⟩
      · rw [ho] at e
        exact (Option.some.inj e) ▸ (N₄ _ (List.mem_cons_self ..)).1
      · have := F₂.keep b o₁ e₁
        rw [e] at this
        exact (Option.some.inj this) ▸ F₄.keep b o₁ e₁
      · have := (N₂ _ e₁).1
        rw [e] at this
        exact (Option.some.inj this) ▸ (N₄ _ (List.mem_cons_of_mem _ e₁)).1
    refine wpAny_mono (wpAny_toks_of (n := s₂.toks) (by show s₂.toks ≤ tk₁ + 1; have : tk ≤ tk₁ := hle; omega) (turn i v m' h₂ tk tk₁ o hlt htk hP hJ F₂ N₃)) (fun f s₃ h₃ => ?_) fun _ _ e => e.2.elim
    obtain ⟨ht, h₃⟩ := h₃
    cases f with
    | ret v => exact h₃
    | brk => exact h₃
    | cont => exact key .next _ ⟨ht, h₃⟩
    | next => exact key .next _ ⟨ht, h₃⟩
  · have hin : i = n := by omega
    subst hin
    refine W.done _ _ _ hst' fun h₁ tk₁ hle hk₁ => wpAny_execs_nil ?_
    obtain ⟨F₁, N₁⟩ := next h₁ hk₁
    exact done m' h₁ tk₁ (Nat.le_trans htk hle) hJ F₁ N₁

/-- for x in (a list that stands) -/
theorem iter_list {l : Addr} {items : Array Value} {m₀ : Str → Option Value} {news : List (Addr × Obj)} (J : Nat → (Str → Option Value) → Prop)
    (hh : A.handled = none) (hl : s.heap.IsList l items) (hlw : (∃ o, h₀.get? l = some o) ∨ (∃ o, (l, o) ∈ news)) (F : Fr h₀ env.locals s.heap m₀) (N : News h₀ env.locals s.heap news) (hj : J 0 m₀)
    (turn : ∀ I i v m₁ h tk o, (∀ p ∈ news, p.1 < I) → s.toks < tk → items[i]? = some v → J i m₁ → Fr h₀ env.locals h (fun y => if y = x then some v else m₁ y) → News h₀ env.locals h ((I, o) :: news) →
      wpAny (model prog w) A (execs body env) (FPost h₀ env.locals (J (i + 1)) ((I, o) :: news) { s with heap := h, toks := tk } Q) (fun _ _ => False) { s with heap := h, toks := tk })
    (done : ∀ m₁ h tk, s.toks ≤ tk → J items.size m₁ → Fr h₀ env.locals h m₁ → News h₀ env.locals h news → Q .next { s with heap := h, toks := tk }) :
    wpAny (model prog w) A (pyIter (.ref l)) (fun it s₂ => LoopT prog w A h₀ env x body Q it s₂) E s := by
  obtain ⟨ol, hol, _⟩ := id hl
  have hlt : l < s.heap.objs.size := Heap.lt_size hol
  have hnew := next_is_new F
  refine wpAny_pyIter_list hl ?_
  refine ⟨_, _, _, _, _, m₀, news, J, rfl, walksT_list (prog := prog) (w := w) hh s.heap.objs.size l (Nat.ne_of_lt hlt) items, ?_, hnew, (fun p hp => Nat.ne_of_lt (Heap.lt_size (N p hp).1)), ?_,
    ⟨⟨_, Heap.get?_push_size _ rfl, rfl, rfl⟩, hl.at fun o e => Heap.get?_push_of_some _ e⟩, (F.push _), (fun p hp => ⟨Heap.get?_push_of_some _ (N p hp).1, (N p hp).2⟩), hj, ?_, ?_⟩
  · intro hm
    rcases List.mem_cons.mp hm with e | hm
    · exact absurd F.ns.lt (e ▸ Nat.lt_irrefl _)
    · have e := List.mem_singleton.mp hm
      rcases hlw with ⟨o, h⟩ | ⟨o, h⟩
      · exact absurd (Nat.lt_of_lt_of_le (Heap.lt_size h) F.above) (e ▸ Nat.lt_irrefl _)
      · exact (N _ h).2.1 e.symm
  · intro b hb
    rcases List.mem_cons.mp hb with e | hb
    · exact .inl e
    · rw [List.mem_singleton.mp hb]; exact .inr hlw
  · rintro i v m₁ h t0 t1 o hi ht ⟨hP, rfl⟩ hJ F₁ N₁
    exact turn _ i v m₁ h _ o (fun p hp => Heap.lt_size (N p hp).1) (Nat.lt_succ_of_le ht) hP hJ F₁ N₁
  · intro m₁ h tk ht hJ F₁ N₁
    exact done m₁ h tk ht hJ F₁ N₁

/-- for x in range(a, b, c) of n turns -/
theorem iter_rangeT {r : Addr} {a₀ b₀ c₀ : Int} {t₀ u₀ v₀ : Tok} (n : Nat) {m₀ : Str → Option Value} {news : List (Addr × Obj)} (J : Nat → (Str → Option Value) → Prop)
    (hh : A.handled = none) (hr : IsRange s.heap r a₀ b₀ c₀ t₀ u₀ v₀) (hsmall : Builtin.Range.small a₀ b₀ c₀ = true) (hn : Builtin.Range.rangeSize a₀ b₀ c₀ = ((n : Nat) : Int))
    (F : Fr h₀ env.locals s.heap m₀) (N : News h₀ env.locals s.heap news) (hj : J 0 m₀)
    (turn : ∀ I i t m₁ h o, (∀ p ∈ news, p.1 < I) → s.toks ≤ t → i < n → J i m₁ → Fr h₀ env.locals h (fun y => if y = x then some (.int (a₀ + (i : Int) * c₀) t) else m₁ y) → News h₀ env.locals h ((I, o) :: news) →
      wpAny (model prog w) A (execs body env) (FPost h₀ env.locals (J (i + 1)) ((I, o) :: news) { s with heap := h, toks := t + 2 } Q) (fun _ _ => False) { s with heap := h, toks := t + 2 })
    (done : ∀ m₁ h tk, s.toks ≤ tk → J n m₁ → Fr h₀ env.locals h m₁ → News h₀ env.locals h news → Q .next { s with heap := h, toks := tk }) :
    wpAny (model prog w) A (pyIter (.ref r)) (fun it s₂ => LoopT prog w A h₀ env x body Q it s₂) E s := by
  have hnew := next_is_new F
  refine wpAny_pyIter_range hr hsmall ?_
  refine ⟨_, _, _, _, _, m₀, news, J, rfl, walksT_range (prog := prog) (w := w) hh s.heap.objs.size a₀ c₀ n, ?_, hnew, (fun p hp => Nat.ne_of_lt (Heap.lt_size (N p hp).1)), ?_,
    (by show IsRangeIter _ _ _ _ _; rw [hn]; simpa using Heap.get?_push_size _ rfl), (F.push _), (fun p hp => ⟨Heap.get?_push_of_some _ (N p hp).1, (N p hp).2⟩), hj, ?_, ?_⟩
  · intro hm
    exact absurd F.ns.lt ((List.mem_singleton.mp hm) ▸ Nat.lt_irrefl _)
  · intro b hb
    exact .inl (List.mem_singleton.mp hb)
  · rintro i v m₁ h t0 t1 o hi ht ⟨rfl, rfl⟩ hJ F₁ N₁
    exact turn _ i t0 m₁ h o (fun p hp => Heap.lt_size (N p hp).1) ht hi hJ F₁ N₁
  · intro m₁ h tk ht hJ F₁ N₁
    exact done m₁ h tk ht hJ F₁ N₁

/-- for x in (a text) -/
theorem iter_str {y : Str} {t₀ : Tok} {m₀ : Str → Option Value} {news : List (Addr × Obj)} (J : Nat → (Str → Option Value) → Prop)
    (hh : A.handled = none) (F : Fr h₀ env.locals s.heap m₀) (N : News h₀ env.locals s.heap news) (hj : J 0 m₀)
    (turn : ∀ I i c t m₁ h o, (∀ p ∈ news, p.1 < I) → s.toks ≤ t → y.cps[i]? = some c → J i m₁ → Fr h₀ env.locals h (fun z => if z = x then some (.str ⟨#[c]⟩ t) else m₁ z) → News h₀ env.locals h ((I, o) :: news) →
      wpAny (model prog w) A (execs body env) (FPost h₀ env.locals (J (i + 1)) ((I, o) :: news) { s with heap := h, toks := t + 2 } Q) (fun _ _ => False) { s with heap := h, toks := t + 2 })
    (done : ∀ m₁ h tk, s.toks ≤ tk → J y.cps.size m₁ → Fr h₀ env.locals h m₁ → News h₀ env.locals h news → Q .next { s with heap := h, toks := tk }) :
    wpAny (model prog w) A (pyIter (.str y t₀)) (fun it s₂ => LoopT prog w A h₀ env x body Q it s₂) E s := by
  have hnew := next_is_new F
  have key : ∀ (ob : Obj) (St : Nat → Heap → Prop), WalksT prog w A s.heap.objs.size [s.heap.objs.size] y.cps.size (SignT y) St → St 0 (s.heap.push ob) →
      LoopT prog w A h₀ env x body Q (.ref s.heap.objs.size) { s with heap := s.heap.push ob } := by
    intro ob St W hst
    refine ⟨_, _, _, _, _, m₀, news, J, rfl, W, ?_, hnew, (fun p hp => Nat.ne_of_lt (Heap.lt_size (N p hp).1)), ?_, hst, (F.push _), (fun p hp => ⟨Heap.get?_push_of_some _ (N p hp).1, (N p hp).2⟩), hj, ?_, ?_⟩
    · intro hm
      exact absurd F.ns.lt ((List.mem_singleton.mp hm) ▸ Nat.lt_irrefl _)
    · intro b hb
      exact .inl (List.mem_singleton.mp hb)
    · rintro i v m₁ h t0 t1 o hi ht ⟨c, hc, rfl, rfl⟩ hJ F₁ N₁
      exact turn _ i c t0 m₁ h o (fun p hp => Heap.lt_size (N p hp).1) ht hc hJ F₁ N₁
    · intro m₁ h tk ht hJ F₁ N₁
      exact done m₁ h tk ht hJ F₁ N₁
  cases ha : y.cps.all (· < 128)
  · exact wpAny_pyIter_wide ha (key _ _ (walksT_wide hh _ y t₀) ⟨_, Heap.get?_push_size _ rfl, rfl, rfl⟩)
  · exact wpAny_pyIter_ascii ha (key _ _ (walksT_ascii hh _ y t₀) ⟨_, Heap.get?_push_size _ rfl, rfl, rfl⟩)
end
end Mine

-- part EnumT
open PySem PySem.W PyProof.Rows PySem.Calls
set_option Elab.async false
set_option linter.unusedVariables false
namespace Mine
set_option maxRecDepth 100000

/-- one draw of enumerate(a text of ASCII signs): the sign's token and the number's -/
theorem enum_ascii_next {prog : Program} {w : World} {A : Around} {E : Value → Shared → Prop} {s : Shared} {e it : Addr} {y : Str} {t : Tok} {i c : Nat} {old : Value} {Q : Option Value → Shared → Prop}
    (he : IsEnum s.heap e it i old) (hit : s.heap.IsStrIter it "str_ascii_iterator" y t i) (hx : y.cps[i]? = some c) (hne : e ≠ it)
    (hQ : ∀ h', IsEnumOut h' e it ((i : Int) + 1) (.str ⟨#[c]⟩ s.toks) s.heap.objs.size → h'.IsStrIter it "str_ascii_iterator" y t (i + 1) →
      h'.get? s.heap.objs.size = some { cls := .type "tuple", data := .seq #[.int i (s.toks + 1), .str ⟨#[c]⟩ s.toks] } → h'.objs.size = s.heap.objs.size + 1 →
      (∀ b o, b ≠ e → b ≠ it → s.heap.get? b = some o → h'.get? b = some o) → Q (some (.ref s.heap.objs.size)) { s with heap := h', toks := s.toks + 2 }) :
    wpAny (model prog w) A (pyNext (.ref e)) Q E s := by
  have hT : s.TypeIs (.ref e) "enumerate" := ⟨_, he, rfl⟩
  obtain ⟨hp, g, d, tk, os⟩ := s
  have hel : e < hp.objs.size := Heap.lt_size he
  unfold pyNext
  refine wpAny_bind (wpAny_attempt (wpAny_callSpecial?_slot (name := Str.ofString "__next__") hT F.slot_enumerate_next
    (wpAny_call_entry F.slot_enumerate_next hT F.entry_enumerate_next ?_ (F.args_enumerate_next_1 _))))
  show wpAny _ _ (field (.ref e) 2 >>= _) _ _ _
  refine wpAny_bind (wpAny_field he rfl (x := .ref it) rfl ?_)
  refine wpAny_bind (wpAny_nextOf_ascii_item hit hx fun h₁ hit₁ hs₁ => ?_)
  have he₁ : IsEnum h₁ e it i old := (hs₁.2 e hne).trans he
  show wpAny _ _ (field (.ref e) 3 >>= _) _ _ ⟨h₁, g, d, tk + 1, os⟩
  refine wpAny_bind (wpAny_field he₁ rfl (x := rawInt i) rfl ?_)
  show wpAny _ _ (field (.ref e) 4 >>= _) _ _ ⟨h₁, g, d, tk + 1, os⟩
  refine wpAny_bind (wpAny_field he₁ rfl (x := .none) rfl ?_)
  show wpAny _ _ (mkInt i >>= _) _ _ ⟨h₁, g, d, tk + 1, os⟩
  refine wpAny_bind (wpAny_mkInt ?_)
  show wpAny _ _ (setField (.ref e) 3 (rawInt ((i : Int) + 1)) >>= _) _ _ ⟨h₁, g, d, tk + 2, os⟩
  refine wpAny_bind (wpAny_setField_rec he₁ (by simp) fun h₂ he₂ hs₂ => ?_)
  have hb₂ : Heap.SameBut e h₁ h₂ := hs₂
  have ho₂ : IsEnum h₂ e it ((i : Int) + 1) old := he₂
  show wpAny _ _ (setField (.ref e) 4 .none >>= _) _ _ ⟨h₂, g, d, tk + 2, os⟩
  refine wpAny_bind (wpAny_setField_rec ho₂ (by simp) fun h₃ he₃ hs₃ => ?_)
  have hb₃ : Heap.SameBut e h₂ h₃ := hs₃
  have ho₃ : IsEnum h₃ e it ((i : Int) + 1) old := he₃
  have hz : h₃.objs.size = hp.objs.size := hb₃.1.trans (hb₂.1.trans hs₁.1)
  have b₁ : Heap.SameBut it hp h₁ := hs₁
  have keep₃ : ∀ b o, b ≠ e → b ≠ it → hp.get? b = some o → h₃.get? b = some o := fun b o hbe hbi hb => hb₃.extBut b o hbe (hb₂.extBut b o hbe (b₁.extBut b o hbi hb))
  have it₃ : h₃.IsStrIter it "str_ascii_iterator" y t (i + 1) := let ⟨o, ho, r⟩ := hit₁; ⟨o, hb₃.extBut it o hne.symm (hb₂.extBut it o hne.symm ho), r⟩
  clear hs₃ he₃ hb₃ hs₂ he₂ hb₂ ho₂ hit₁ he₁ hs₁ b₁ hit he hT
  show wpAny _ _ (newTuple [.int i (tk + 1), .str ⟨#[c]⟩ tk] >>= _) _ _ ⟨h₃, g, d, tk + 2, os⟩
  refine wpAny_bind (wpAny_newTuple ?_)
  have et : (h₃.push { cls := .type "tuple", data := .seq #[.int i (tk + 1), .str ⟨#[c]⟩ tk] }).get? hp.objs.size = some { cls := .type "tuple", data := .seq #[.int i (tk + 1), .str ⟨#[c]⟩ tk] } := hz ▸ Heap.get?_push_size _ rfl
  have ez : (h₃.push { cls := .type "tuple", data := .seq #[.int i (tk + 1), .str ⟨#[c]⟩ tk] }).objs.size = hp.objs.size + 1 := by rw [Heap.size_push, hz]
  have ep : ∀ b o, h₃.get? b = some o → (h₃.push { cls := .type "tuple", data := .seq #[.int i (tk + 1), .str ⟨#[c]⟩ tk] }).get? b = some o := fun b o q => Heap.get?_push_of_some _ q
  generalize h₃.push { cls := .type "tuple", data := .seq #[.int i (tk + 1), .str ⟨#[c]⟩ tk] } = h₄ at et ez ep
  have ho₄ : IsEnum h₄ e it ((i : Int) + 1) old := ep _ _ ho₃
  rw [hz]
  refine wpAny_bind ?_
  unfold Builtin.SmallTypes.ownedTupleIsFree
  refine wpAny_bind (wpAny_field ho₄ rfl (x := .none) rfl (wpAny_pure ?_))
  simp only [if_true]
  refine wpAny_bind (wpAny_rule ?_)
  refine wpAny_bind (wpAny_field ho₄ rfl (x := old) rfl ?_)
  refine wpAny_bind (wpAny_setField_rec ho₄ (by simp) fun h₅ he₅ hs₅ => ?_)
  have ho₅ : IsEnum h₅ e it ((i : Int) + 1) (.str ⟨#[c]⟩ tk) := he₅
  have b₅ : Heap.SameBut e h₄ h₅ := hs₅
  refine wpAny_bind ?_
  unfold Builtin.SmallTypes.ownedTupleHandOut
  refine wpAny_bind (wpAny_setField_rec ho₅ (by simp) fun h₆ he₆ hs₆ => ?_)
  have ho₆ : IsEnumOut h₆ e it ((i : Int) + 1) (.str ⟨#[c]⟩ tk) hp.objs.size := he₆
  have b₆ : Heap.SameBut e h₅ h₆ := hs₆
  refine wpAny_setField_rec ho₆ (by simp) fun h₇ he₇ hs₇ => ?_
  have ho₇ : IsEnumOut h₇ e it ((i : Int) + 1) (.str ⟨#[c]⟩ tk) hp.objs.size := he₇
  have b₇ : Heap.SameBut e h₆ h₇ := hs₇
  have up : ∀ b o, b ≠ e → h₄.get? b = some o → h₇.get? b = some o := fun b o hb q => b₇.extBut b o hb (b₆.extBut b o hb (b₅.extBut b o hb q))
  refine wpAny_bind (wpAny_letGo (wpAny_pure ⟨_, rfl, wpAny_pure (hQ h₇ ho₇ ?_ ?_ ?_ ?_)⟩))
  · exact let ⟨o, ho, r⟩ := it₃; ⟨o, up it o hne.symm (ep _ _ ho), r⟩
  · exact up _ _ (Nat.ne_of_gt hel) et
  · rw [b₇.1, b₆.1, b₅.1, ez]
  · exact fun b o hbe hbi hb => up b o hbe (ep _ _ (keep₃ b o hbe hbi hb))
end Mine

-- part C5
open PySem PySem.W PyProof.Rows PySem.Calls
set_option Elab.async false
set_option linter.unusedVariables false
namespace Mine
set_option maxRecDepth 100000
set_option maxHeartbeats 16000000

def cntI (ns : List Int) (b : Int) : Int := (ns.countP (· == b) : Nat)

theorem is_ints {M : Model} {A : Around} {E : Value → Shared → Prop} {s : Shared} {p q : Int} {t u : Tok} {Q : Value → Shared → Prop} (ht : t ≠ 0) (hu : u ≠ 0) (hne : t ≠ u) (hs : smallInt q = true) (h : Q (.bool (decide (p = q))) s) :
    wpAny M A (compareOp .Is (.int p t) (.int q u)) Q E s := by
  show wpAny M A (do return .bool (← isSame (.int p t) (.int q u))) Q E s
  have h0 : (t == 0 || u == 0) = false := by simp [ht, hu]
  have h1 : (t == u) = false := by simp [hne]
  refine wpAny_bind ?_
  show wpAny M A (if (p == q && smallInt p) = true then isSame.cachedInt t u else isSame.created (p == q) t u) _ _ _
  by_cases hpq : p = q
  · subst hpq
    simp only [beq_self_eq_true, hs, Bool.and_self, if_true]
    unfold isSame.cachedInt
    rw [h0]
    simp only [Bool.false_eq_true, if_false]
    refine wpAny_bind (wpAny_rule (wpAny_pure (wpAny_pure ?_)))
    simpa using h
  · have hb : (p == q) = false := by simp [hpq]
    simp only [hb, Bool.false_and, Bool.false_eq_true, if_false]
    unfold isSame.created
    rw [h0, h1]
    simp only [Bool.false_eq_true, if_false, Bool.not_false, if_true]
    refine wpAny_pure (wpAny_pure ?_)
    simpa [hpq] using h

section
local macro_rules | `(tactic| walk_at "exec For Name Name cons nil") => `(tactic| refine to_halt ?_)
local macro_rules | `(tactic| walk_at "compareOp Is int int") => `(tactic| (refine is_ints (by assumption) (by assumption) (by assumption) (by assumption) ?_))
local macro_rules | `(tactic| walk_at "eval Name") => `(tactic| (refine ldm (by assumption) (by assumption) ?_ (by rfl) (by rfl) (by decide)))
local macro_rules | `(tactic| walk_at "loadName") => `(tactic| (refine ldnm (by assumption) (by assumption) ?_ (by rfl) (by rfl)))

theorem countOf_ints (w : World) (mean : ExcName → Option Value) (mg mb : Str → Option Value) (A : Around) (s : Shared) (Q E : Value → Shared → Prop)
   (l : Addr) (vs : List Value) (ns : List Int) (x : Int) (t : Tok)
   (P : PC w mean mg mb s.heap)
   (hd : A.depth + 1 < recursionLimit) (hh : A.handled = none)
   (hl : s.heap.IsList l vs.toArray) (hi : IntsAre vs ns) (hn : ns.length < 2 ^ 20)
   (ht : t ≠ 0) (hs : smallInt x = true) (htk : ∀ (i : Nat) y ty, vs[i]? = some (.int y ty) → ty ≠ 0 ∧ ty ≠ t)
   (hret : ∀ tk h' tk', (∀ b o, s.heap.get? b = some o → h'.get? b = some o) → Q (.int (cntI ns x) tk) { s with heap := h', toks := tk' }) :
   wpAny (model PySem.Challenge.rw_sw0037_01.row.prog w) A (call (.ref 76) [.ref l, .int x t]) Q E s := by
  obtain ⟨X, T⟩ := P
  revert X; k_fill; intro X
  refine wpAny_call ?_
  k_dflt (refine' enter_pure (binds := [(Str.ofString "a", .ref l), (Str.ofString "b", .int x t)]) X T ?k6 ?k7 ?k8 ?k9 ?kB ?_ ?c2 ?c3 ?c4 ?c5; (case k6 => k_is); (case k7 => k_is); (case k8 => exact Nat.lt_of_succ_lt hd); (case k9 => exact binds_peek X (fun _ => rfl)); (case c5 => decide); (case kB => exact locs rfl); (case c2 => exact rfl); (case c3 => exact rfl); (case c4 => exact rfl); k_whole)
  intro h₁ F
  (try dsimp only)
  k_steps
  unfold Halt
  rename Fr _ _ _ _ => F2
  refine for_T s.heap rfl rfl ?_
  refine ld F2 rfl ?_
  refine iter_list (items := vs.toArray) (news := []) (fun i m => m (Str.ofString "a") = some (.ref l) ∧ m (Str.ofString "b") = some (.int x t) ∧ ∃ u, m (Str.ofString "count") = some (.int (cntI (ns.take i) x) u))
    hh (hl.at fun o e => F2.keep l o e) (.inl ⟨_, hl.choose_spec.1⟩) F2 News.nil ⟨rfl, rfl, _, rfl⟩ ?_ ?_
  · rintro I i v m₁ h tk o _ _ hv ⟨ma, mb', u, mc⟩ F3 N3
    clear F2
    have hv' : vs[i]? = some v := by simpa using hv
    obtain ⟨y, ty, rfl, hy⟩ := hi.at i v hv'
    obtain ⟨ht1, ht2⟩ := htk i y ty hv'
    have hs' : cntI (ns.take (i + 1)) x = cntI (ns.take i) x + (if y = x then 1 else 0) := by
      unfold cntI
      rw [List.take_add_one, hy]
      simp only [Option.toList_some, List.countP_append, List.countP_singleton]
      by_cases h : y = x <;> simp [h]
    clear hv
    k_steps
    · rename Fr _ _ _ _ => F5
      rename News _ _ _ _ => N5
      rw [if_pos (by assumption)] at hs'
      exact FPost.nextI F5 N5 ⟨ma, mb', _, by rw [hs']; rfl⟩
    · exact absurd (by assumption : y = x) (by assumption)
    · rw [if_neg (by assumption), Int.add_zero] at hs'
      exact FPost.nextI F3 N3 ⟨ma, mb', u, by rw [hs']; exact mc⟩
  · rintro m₁ h tk _ ⟨ma, mb', u, mc⟩ F3 N3
    clear F2
    k_steps
    have e : ns.take vs.toArray.size = ns := by rw [List.size_toArray, hi.length, List.take_length]
    rw [e]
    exact hret _ _ _ F3.keep
end
end Mine

-- part C6
open PySem PySem.W PyProof.Rows PySem.Calls
set_option Elab.async false
set_option linter.unusedVariables false
namespace Mine
set_option maxRecDepth 100000
set_option maxHeartbeats 16000000

theorem booked {w : World} {h : Heap} (X : Frag.In (Mine.hd.heap_39 w.params) h) : NoneBooked h :=
  ⟨fun _ => none, ⟨_, #[], 0, X 2 _ rfl, rfl, (fun _ h => by simp at h), fun _ => rfl⟩, rfl⟩

theorem is_strs {M : Model} {A : Around} {E : Value → Shared → Prop} {s : Shared} {p q : Str} {t u : Tok} {Q : Value → Shared → Prop} (hb : NoneBooked s.heap) (ht : t ≠ 0) (hu : u ≠ 0) (hne : t ≠ u)
    (h1 : p ≠ q → Q (.bool false) s) (h2 : p = q → ∀ b, Q (.bool b) s) :
    wpAny M A (compareOp .Is (.str p t) (.str q u)) Q E s := by
  show wpAny M A (do return .bool (← isSame (.str p t) (.str q u))) Q E s
  have h0 : (t == 0 || u == 0) = false := by simp [ht, hu]
  have h3 : (t == u) = false := by simp [hne]
  refine wpAny_bind ?_
  by_cases hpq : p = q
  · exact wpAny_isSame_str h0 hb fun b => wpAny_pure (h2 hpq b)
  · show wpAny M A (isSame.created (p == q) t u) _ _ _
    have hb : (p == q) = false := by simp [hpq]
    rw [hb]
    unfold isSame.created
    rw [h0, h3]
    simp only [Bool.false_eq_true, if_false, Bool.not_false, if_true]
    exact wpAny_pure (wpAny_pure (h1 hpq))

def IxInv (s : Shared) (y : Str) (u t : Nat) (c r : Nat) (e it : Addr) (k : Nat) (s' : Shared) : Prop :=
  ∃ h tk m i old, s' = { s with heap := h, toks := tk } ∧ s.toks ≤ tk ∧ IsEnum h e it ((i : Nat) : Int) old ∧ h.IsStrIter it "str_ascii_iterator" y u i ∧ Fr s.heap s.heap.objs.size h m ∧ m (Str.ofString "b") = some (.str ⟨#[c]⟩ t) ∧ i ≤ r ∧ k = r + 1 - i
def IxNext (s : Shared) (y : Str) (u t : Nat) (c r : Nat) (e it : Addr) (n : Nat) (s' : Shared) : Prop := ∃ k, k < n ∧ IxInv s y u t c r e it k s'

section
local macro_rules | `(tactic| walk_at "exec For Tuple Call cons cons") => `(tactic| refine to_halt ?_)
local macro_rules | `(tactic| walk_at "eval Name") => `(tactic| (refine ldm (by assumption) (by assumption) ?_ (by rfl) (by rfl) (by decide)))
local macro_rules | `(tactic| walk_at "loadName") => `(tactic| (refine ldnm (by assumption) (by assumption) ?_ (by rfl) (by rfl)))
local macro_rules | `(tactic| walk_at "execs nil") => `(tactic| refine wpAny_execs_nil ?_)
local macro_rules | `(tactic| walk_at "execs cons") => `(tactic| refine wpAny_execs_cons ?_)
local macro_rules | `(tactic| walk_at "call type:enumerate") => `(tactic| refine to_halt ?_)
local macro_rules | `(tactic| walk_at "compareOp Is str str") => `(tactic| (refine is_strs (by assumption) (by assumption) (by assumption) (by assumption) ?_ ?_ <;> intros))

theorem indexOf_str (w : World) (mean : ExcName → Option Value) (mg mb : Str → Option Value) (A : Around) (s : Shared) (Q E : Value → Shared → Prop)
   (y : Str) (c r : Nat) (u t : Nat)
   (P : PC w mean mg mb s.heap)
   (hd : A.depth + 1 < recursionLimit) (hh : A.handled = none)
   (ha : y.cps.all (· < 128) = true) (hr : y.cps[r]? = some c) (hlt : ∀ i, i < r → y.cps[i]? ≠ some c)
   (ht : t ≠ 0) (hts : t < s.toks)
   (hret : ∀ tk h' tk', (∀ b o, s.heap.get? b = some o → h'.get? b = some o) → Q (.int r tk) { s with heap := h', toks := tk' }) :
   wpAny (model PySem.Challenge.rw_sw0037_01.row.prog w) A (call (.ref 83) [.str y u, .str ⟨#[c]⟩ t]) Q E s := by
  obtain ⟨X, T⟩ := P
  revert X; k_fill; intro X
  refine wpAny_call ?_
  k_dflt (refine' enter_pure (binds := [(Str.ofString "a", .str y u), (Str.ofString "b", .str ⟨#[c]⟩ t)]) X T ?k6 ?k7 ?k8 ?k9 ?kB ?_ ?c2 ?c3 ?c4 ?c5; (case k6 => k_is); (case k7 => k_is); (case k8 => exact Nat.lt_of_succ_lt hd); (case k9 => exact binds_peek X (fun _ => rfl)); (case c5 => decide); (case kB => exact locs rfl); (case c2 => exact rfl); (case c3 => exact rfl); (case c4 => exact rfl); k_whole)
  intro h₁ F
  (try dsimp only)
  k_steps
  unfold Halt
  refine wpAny_For ?_ (by intro _; rfl)
  k_steps
  unfold Halt
  refine call_enumerate_str fun h₂ he hst hz hk => ?_
  have hst' : h₂.IsStrIter h₁.objs.size "str_ascii_iterator" y u 0 := by
    have e : strIterType y = "str_ascii_iterator" := by unfold strIterType; rw [ha]; rfl
    rwa [e] at hst
  have F2 := F.keeps hk
  refine wpAny_pyIter_enum he ?_
  have hLit : s.heap.objs.size ≠ h₁.objs.size := Nat.ne_of_lt F.ns.lt
  have hLe : s.heap.objs.size ≠ h₁.objs.size + 1 := Nat.ne_of_lt (Nat.lt_succ_of_lt F.ns.lt)
  have hei : h₁.objs.size + 1 ≠ h₁.objs.size := Nat.succ_ne_self _
  have hnit : ∀ o, s.heap.get? h₁.objs.size ≠ some o := fun o e => absurd (Heap.lt_size e) (Nat.not_lt.mpr (Nat.le_of_lt F.ns.lt))
  have hne : ∀ o, s.heap.get? (h₁.objs.size + 1) ≠ some o := fun o e => absurd (Heap.lt_size e) (Nat.not_lt.mpr (Nat.le_of_lt (Nat.lt_succ_of_lt F.ns.lt)))
  change IsEnum h₂ (h₁.objs.size + 1) h₁.objs.size 0 .none at he
  generalize h₁.objs.size = it at *
  generalize it + 1 = e at *
  refine codeAny_forLoop_any (IxInv s y u t c r e it) ?_ (r + 1)
    ⟨_, _, _, 0, _, rfl, by show s.toks ≤ s.toks + _; omega, he, hst', F2, rfl, Nat.zero_le _, rfl⟩
  rintro k s' ⟨h, tk, m, i, old, rfl, htk, he3, hst3, F3, mb', hir, rfl⟩
  clear F F2 he hst hst'
  have hrs : r < y.cps.size := by
    by_cases q : r < y.cps.size
    · exact q
    · rw [Array.getElem?_eq_none (Nat.le_of_not_lt q)] at hr; cases hr
  have hv : y.cps[i]? = some (y.cps[i]'(Nat.lt_of_le_of_lt hir hrs)) := Array.getElem?_eq_getElem _
  generalize y.cps[i]'(Nat.lt_of_le_of_lt hir hrs) = ci at hv
  refine enum_ascii_next he3 hst3 hv hei fun h4 he4 hst4 ht4 hz4 hk4 => ?_
  refine wpAny_letOwnedTupleGo_enum he4 fun h5 he5 hs5 => ?_
  have b5 : Heap.SameBut e h4 h5 := hs5
  have elt : e < h.objs.size := Heap.lt_size he3
  have ht5 : h5.IsTuple h.objs.size #[.int i (tk + 1), .str ⟨#[ci]⟩ tk] := ⟨_, (b5.2 _ (Nat.ne_of_gt elt)).trans ht4, rfl, _, rfl⟩
  refine wpAny_assign_Tuple hh ht5 rfl rfl fun h6 hx6 => ?_
  have x6 : Heap.ExtBut h5.objs.size h5 h6 := hx6
  have hz5 : h5.objs.size = h.objs.size + 1 := b5.1.trans hz4
  have up6 : ∀ b o, b < h.objs.size → h5.get? b = some o → h6.get? b = some o := fun b o hb q => x6 b o (by rw [hz5]; exact Nat.ne_of_lt (Nat.lt_succ_of_lt hb)) q
  have hLlt : s.heap.objs.size < h.objs.size := F3.ns.lt
  have ilt : it < h.objs.size := let ⟨_, q, _⟩ := hst3; Heap.lt_size q
  have F6 : Fr s.heap s.heap.objs.size h6 m := by
    refine ⟨(((F3.ns.at fun o q => hk4 _ o hLe hLit q).sameBut b5 hLe)).at fun o q => up6 _ o hLlt q, fun b o q => ?_, Nat.le_refl _⟩
    have hb : b < h.objs.size := Nat.lt_trans (Heap.lt_size q) hLlt
    exact up6 b o hb (b5.extBut b o (fun z => hne o (z ▸ q)) (hk4 b o (fun z => hne o (z ▸ q)) (fun z => hnit o (z ▸ q)) (F3.keep b o q)))
  have e6 : IsEnum h6 e it ((i : Int) + 1) (.str ⟨#[ci]⟩ tk) := up6 _ _ elt he5
  have st6 : h6.IsStrIter it "str_ascii_iterator" y u (i + 1) := let ⟨o, ho, q⟩ := hst4; ⟨o, up6 _ _ ilt (b5.extBut it o hei.symm ho), q⟩
  clear hx6 x6 up6 ht5 hs5 b5 he5 hz5 ht4 hst4 he4 hk4 hz4 F3 hst3 he3
  show wpAny _ _ (do holding [.str ⟨#[ci]⟩ tk] (assign (.Name _ _) _ (.int i (tk + 1))); do holding [] (assign (.Name _ _) _ (.str ⟨#[ci]⟩ tk)); pure ()) _ _ _
  refine wpAny_bind (wpAny_holding (wpAny_assign_Name (wpAny_storeName_local rfl F6.ns (fun h7 hn7 hs7 => ?_) rfl)))
  have F7 := F6.set hn7 hs7
  refine wpAny_bind (wpAny_holding (wpAny_assign_Name (wpAny_storeName_local rfl F7.ns (fun h8 hn8 hs8 => wpAny_pure ?_) rfl)))
  have F8 := F7.set hn8 hs8
  have e8 : IsEnum h8 e it ((i : Int) + 1) (.str ⟨#[ci]⟩ tk) := (hs8.2 _ hLe.symm).trans ((hs7.2 _ hLe.symm).trans e6)
  have st8 : h8.IsStrIter it "str_ascii_iterator" y u (i + 1) := let ⟨o, ho, q⟩ := st6; ⟨o, (hs8.2 _ hLit.symm).trans ((hs7.2 _ hLit.symm).trans ho), q⟩
  clear F6 F7 hn7 hs7 hn8 hs8 e6 st6
  have hb8 : NoneBooked h8 := booked (X.keeps F8.keep)
  have htk0 : tk ≠ 0 := by omega
  have htkt : tk ≠ t := by omega
  have hii : ((i + 1 : Nat) : Int) = (i : Int) + 1 := by push_cast; rfl
  have N8 : News s.heap s.heap.objs.size h8 [] := News.nil
  refine wpAny_mono (Q := fun f s₃ => match f with
            | .ret v => Q v s₃
            | .next => IxNext s y u t c r e it (r + 1 - i) s₃
            | _ => False) (E := fun _ _ => False) ?_ (fun f s₃ q => ?_) (fun _ _ q => q.elim)
  · have hci : (⟨#[ci]⟩ : Str) = ⟨#[c]⟩ → i = r := fun q => by
      cases q
      by_cases z : i < r
      · exact absurd hv (hlt i z)
      · omega
    k_steps
    · exact absurd (beq_iff_eq.mp (by assumption)) (by assumption)
    · have hir' : i ≠ r := fun q => by
        subst q
        rw [hv] at hr
        cases hr
        rename _ ≠ _ => q1
        exact absurd rfl q1
      exact ⟨r + 1 - (i + 1), by omega, h8, _, _, i + 1, _, rfl, by show s.toks ≤ tk + 1 + 1 + 1 + 1; omega, by rw [hii]; exact e8, st8, F8, mb', by omega, rfl⟩
    · have q := hci (by assumption)
      subst q
      exact hret _ _ _ F8.keep
    · have q := hci (by assumption)
      subst q
      exact hret _ _ _ F8.keep
    · rename (⟨#[ci]⟩ : Str) = ⟨#[c]⟩ => q1
      rename ((⟨#[ci]⟩ : Str) == ⟨#[c]⟩) = false => q2
      rw [q1] at q2
      simp at q2
  · cases f with
    | ret v => exact q
    | next => exact q
    | brk => exact q.elim
    | cont => exact q.elim
end
end Mine

-- part C7
open PySem PySem.W PyProof.Rows PySem.Calls
set_option Elab.async false
set_option linter.unusedVariables false
namespace Mine
set_option maxRecDepth 100000
set_option maxHeartbeats 16000000

theorem split_three {prog : Program} {w : World} {A : Around} {E : Value → Shared → Prop} {s : Shared} {h₀ : Heap} {L : Addr} {m : Str → Option Value} {news : List (Addr × Obj)} {Q : Value → Shared → Prop} {x y e1 e2 e3 : Str} {t u : Tok}
    (hF : Fr h₀ L s.heap m) (hN : News h₀ L s.heap news) (hs : Txt.split x y = [e1, e2, e3]) (hy : (y.length == 0) = false) (hsz : x.length + 2 ≤ sizeLine)
    (h : ∀ D t1 t2 t3 h' k, Fr h₀ L h' m → News h₀ L h' ((D, listOf #[.str e1 t1, .str e2 t2, .str e3 t3] 0) :: news) → (∀ p ∈ news, p.1 < D) → Q (.ref D) { s with heap := h', toks := k }) :
    wpAny (model prog w) A (call (.builtin "str.split") [.str x t, .str y u]) Q E s := by
  refine splitN1 hF hN hy (fun l h' k e F N => ?_) hsz
  rw [hs] at e
  match l, e with
  | [(a, ta), (b, tb), (c, tc)], e =>
    simp only [List.map_cons, List.map_nil, List.cons.injEq, and_true] at e
    obtain ⟨rfl, rfl, rfl⟩ := e
    exact h _ ta tb tc h' k F N fun p hp => Heap.lt_size (hN p hp).1


theorem fval_ex : ∃ f : Str → Str → Nat → Int, ∀ x y lo, f x y lo = match PySem.Builtin.Str.occurrences x y lo x.length 1 with | k :: _ => (k : Int) | [] => -1 := ⟨_, fun _ _ _ => rfl⟩
/-- where a text is found (sealed, so that no step of the walk opens it) -/
noncomputable def fval : Str → Str → Nat → Int := Classical.choose fval_ex
theorem fval_eq (x y : Str) (lo : Nat) : fval x y lo = match PySem.Builtin.Str.occurrences x y lo x.length 1 with | k :: _ => (k : Int) | [] => -1 := Classical.choose_spec fval_ex x y lo
def hasSub (x y : Str) : Bool := !(PySem.Builtin.Str.occurrences x y 0 x.length 1).isEmpty

open PySem.Builtin PySem.Builtin.Str in
theorem gives_find4 (x y : Str) (i j : Int) (t u v w : Tok) : Gives («str.find» ⟨[.str x t, .str y u, .int i v, .int j w], []⟩) (.int (match occurrences x y (fromIndex x.length i) (min (fromIndex x.length j) x.length) 1 with | k :: _ => (k : Int) | [] => -1)) := by
  show Gives (match occurrences x y (fromIndex x.length i) (min (fromIndex x.length j) x.length) 1 with | k :: _ => retInt k | [] => (do rule "str.find.not-found"; retInt (-1))) _
  cases occurrences x y (fromIndex x.length i) (min (fromIndex x.length j) x.length) 1 with
  | nil => exact .rule (.of_eq rfl)
  | cons k _ => exact .of_eq rfl

theorem find4 {prog : Program} {w : World} {A : Around} {E : Value → Shared → Prop} {s : Shared} {x y : Str} {t u v z : Tok} {i r : Int} {Q : Value → Shared → Prop} (h0 : 0 ≤ i) (hr : fval x y i.toNat = r) (hq : Q (.int r s.toks) { s with toks := s.toks + 1 }) :
    wpAny (model prog w) A (call (.builtin "str.find") [.str x t, .str y u, .int i v, .int (x.length : Nat) z]) Q E s := by
  refine call_gives F.slot_str_find (typeIs_str _ _ _) F.entry_str_find (F.args_str_find_4 _ _ _ _) (gives_find4 x y i _ t u v z) ?_
  have e1 : fromIndex x.length i = i.toNat := by unfold fromIndex; rw [if_neg (by omega)]; omega
  have e2 : min (fromIndex x.length ((x.length : Nat) : Int)) x.length = x.length := by unfold fromIndex; rw [if_neg (by omega)]; omega
  rw [fval_eq] at hr
  rw [e1, e2]
  subst hr
  exact hq

theorem fval_empty (x : Str) (lo : Nat) (h : lo ≤ x.length) : fval x (Str.ofString "") lo = lo := by
  rw [fval_eq]
  have hat : StrLaws.At x (Str.ofString "") x.length lo := by
    refine ⟨h, ?_⟩
    show (x.cps.extract lo (lo + 0) == #[]) = true
    simp; omega
  rcases StrLaws.occ_head_from x (Str.ofString "") lo 1 (Nat.le_refl _) with ⟨_, h1⟩ | ⟨i, r, h1, h2, _, h3⟩
  · exact absurd hat (h1 lo (Nat.le_refl _))
  · rw [h1]
    by_cases q : lo < i
    · exact absurd hat (h3 lo (Nat.le_refl _) q)
    · have : i = lo := by omega
      rw [this]

theorem fval_sub (x y : Str) : (hasSub x y = true ∧ 0 ≤ fval x y 0 ∧ fval x y 0 + y.length ≤ x.length) ∨ (hasSub x y = false ∧ fval x y 0 = -1) := by
  rw [fval_eq]
  unfold hasSub
  rcases StrLaws.occ_head_from x y 0 1 (Nat.le_refl _) with ⟨h0, h1⟩ | ⟨i, r, h1, h2, h4, h3⟩
  · right; rw [h0]; exact ⟨rfl, rfl⟩
  · left; rw [h1]
    have := h4.1
    exact ⟨rfl, by simp only; omega, by simp only; omega⟩

structure Hide (P : Prop) : Prop where
  out : P
noncomputable def epos (g p : Str) : Nat → Int
  | 0 => 0
  | 1 => 0
  | _ => fval g p 0 + p.length
def EJ (g p : Str) (t : Nat) (i : Nat) (m : Str → Option Value) : Prop :=
  m (Str.ofString "got") = some (.str g t) ∧ (∃ te, m (Str.ofString "endpos") = some (.int (g.length : Nat) te)) ∧ (∃ ts, m (Str.ofString "startpos") = some (.int (epos g p i) ts)) ∧ (2 ≤ i → hasSub g p = true)

theorem epos_two {g p : Str} (h : hasSub g p = true) : ∃ r : Int, 0 ≤ r ∧ fval g (Str.ofString "") r.toNat = r ∧ epos g p 2 = r ∧ Hide (epos g p 3 = r) := by
  rcases fval_sub g p with ⟨f1, f2, f3⟩ | ⟨f1, f2⟩
  · have e : epos g p 2 = fval g p 0 + p.length := rfl
    have e' : epos g p 3 = fval g p 0 + p.length := rfl
    generalize fval g p 0 = z at *
    exact ⟨z + p.length, by omega, (fval_empty g _ (by omega)).trans (by omega), e, ⟨e'⟩⟩
  · rw [f1] at h; cases h
theorem epos_one (g p : Str) : (hasSub g p = true ∧ ∃ r : Int, 0 ≤ r ∧ fval g p 0 = r ∧ Hide (epos g p 2 = r + p.length)) ∨ (hasSub g p = false ∧ fval g p 0 = -1) := by
  rcases fval_sub g p with ⟨f1, f2, f3⟩ | ⟨f1, f2⟩
  · exact .inl ⟨f1, _, f2, rfl, ⟨rfl⟩⟩
  · exact .inr ⟨f1, f2⟩

theorem ex_cast {o : Option Value} {a b : Int} (e : a = b) (h : ∃ ts, o = some (Value.int b ts)) : ∃ ts, o = some (Value.int a ts) := e ▸ h
theorem len_small {n : Nat} (h : n ≤ 1048576) : ¬ (n : Int) ≥ 2 ^ 63 := by omega
section
local macro_rules | `(tactic| walk_at "call builtin:str.split") => `(tactic| (refine split_three (by assumption) (by assumption) (by assumption) (by decide) (by assumption) ?_; intro _ _ _ _ _ _ _ _ _))
local macro_rules | `(tactic| walk_at "unpackItems ref") => `(tactic| (refine unpackItemsN_ (by assumption) (by assumption) (News.isTup (by assumption) (by k_mem)) (by assumption) (by rfl) ?_; intro _ _ _))
local macro_rules | `(tactic| walk_at "exec If Name cons nil") => `(tactic| refine wpAny_If ?_)
local macro_rules | `(tactic| walk_at "exec If Name cons cons") => `(tactic| refine wpAny_If ?_)
local macro_rules | `(tactic| walk_at "exec If Compare cons nil") => `(tactic| refine wpAny_If ?_)
local macro_rules | `(tactic| walk_at "exec If Compare cons cons") => `(tactic| refine wpAny_If ?_)
local macro_rules | `(tactic| walk_at "exec If BoolOp cons nil") => `(tactic| refine wpAny_If ?_)
local macro_rules | `(tactic| walk_at "exec If BoolOp cons cons") => `(tactic| refine wpAny_If ?_)
local macro_rules | `(tactic| walk_at "exec If Call cons nil") => `(tactic| refine wpAny_If ?_)
local macro_rules | `(tactic| walk_at "exec If Call cons cons") => `(tactic| refine wpAny_If ?_)
local macro_rules | `(tactic| walk_at "exec If UnaryOp cons nil") => `(tactic| refine wpAny_If ?_)
local macro_rules | `(tactic| walk_at "exec If UnaryOp cons cons") => `(tactic| refine wpAny_If ?_)
local macro_rules | `(tactic| walk_at "exec For Name Name cons nil") => `(tactic| refine to_halt ?_)
local macro_rules | `(tactic| walk_at "call builtin:len") => `(tactic| (refine PySem.P.len_str (len_small (by assumption)) ?_))
local macro_rules | `(tactic| walk_at "call builtin:str.find") => `(tactic| refine to_halt ?_)
local macro_rules | `(tactic| walk_at "eval Name") => `(tactic| (refine ldm (by assumption) (by assumption) ?_ (by rfl) (by rfl) (by decide)))
local macro_rules | `(tactic| walk_at "loadName") => `(tactic| (refine ldnm (by assumption) (by assumption) ?_ (by rfl) (by rfl)))
local macro_rules | `(tactic| walk_at "execs nil") => `(tactic| refine wpAny_execs_nil ?_)
local macro_rules | `(tactic| walk_at "execs cons") => `(tactic| refine wpAny_execs_cons ?_)

theorem ellipsis_str (w : World) (mean : ExcName → Option Value) (mg mb : Str → Option Value) (A : Around) (s : Shared) (Q E : Value → Shared → Prop)
   (p g v : Str) (u t : Nat) (hsp : Txt.split v (Str.ofString "...") = [Str.ofString "", p, Str.ofString ""]) (hvl : v.length + 2 ≤ sizeLine) (hg : g.length ≤ 1048576) (hpl : p.length ≤ 1048576) (hocc : (Builtin.Str.occurrences v (Str.ofString "...") 0 v.length 1).isEmpty = false)
   (P : PC w mean mg mb s.heap)
   (hd : A.depth + 1 < recursionLimit) (hh : A.handled = none)
   (hret : ∀ h' tk', (∀ b o, s.heap.get? b = some o → h'.get? b = some o) → Q (.bool (hasSub g p)) { s with heap := h', toks := tk' }) :
   wpAny (model PySem.Challenge.rw_sw0037_01.row.prog w) A (call (.ref 48) [.str v u, .str g t]) Q E s := by
  obtain ⟨X, T⟩ := P
  revert X; k_fill; intro X
  refine wpAny_call ?_
  k_dflt (refine' enter_pure (binds := [(Str.ofString "want", .str v u), (Str.ofString "got", .str g t)]) X T ?k6 ?k7 ?k8 ?k9 ?kB ?_ ?c2 ?c3 ?c4 ?c5; (case k6 => k_is); (case k7 => k_is); (case k8 => exact Nat.lt_of_succ_lt hd); (case k9 => exact binds_peek X (fun _ => rfl)); (case c5 => decide); (case kB => exact locs rfl); (case c2 => exact rfl); (case c3 => exact rfl); (case c4 => exact rfl); k_whole)
  intro h₁ F
  have N : News s.heap s.heap.objs.size h₁ [] := News.nil
  (try dsimp only)
  k_steps
  unfold Halt
  clear hocc hsp hvl
  rename Fr _ _ _ _ => F2
  rename News _ _ _ _ => N2
  have N3 := cb_drop (news := [_]) N2 (fun p hp => List.Mem.tail _ hp)
  have hL3 := News.isList N3 (List.Mem.head _)
  refine for_T s.heap rfl rfl ?_
  refine ld F2 rfl ?_
  refine iter_list (EJ g p t) hh hL3 (.inr ⟨_, List.Mem.head _⟩) F2 N3 ⟨rfl, ⟨_, rfl⟩, ⟨_, rfl⟩, fun q => absurd q (by decide)⟩ ?_ ?_
  · rintro I i v' m₁ h tk o _ _ hv ⟨ma, ⟨te, mb'⟩, ⟨ts, mc⟩, hi2⟩ F3 N4
    clear F2 N2 N3 hL3
    match i, hv, mc, hi2 with
    | 0, hv, mc, hi2 =>
      simp at hv
      subst hv
      clear hi2
      have z0 : (0 : Int) ≤ 0 := Int.le_refl _
      have e0 : fval g (Str.ofString "") (0 : Int).toNat = 0 := fval_empty g 0 (Nat.zero_le _)
      change m₁ (Str.ofString "startpos") = some (.int 0 ts) at mc
      clear e0 hret hpl
      k_steps
      unfold Halt
      refine find4 z0 (fval_empty g 0 (Nat.zero_le _)) ?_
      k_steps
      rename Fr _ _ _ _ => F5
      rename News _ _ _ _ => N5
      exact FPost.nextI F5 N5 ⟨ma, ⟨te, mb'⟩, ⟨_, rfl⟩, fun q => absurd q (by decide)⟩
    | 1, hv, mc, hi2 =>
      simp at hv
      subst hv
      clear hi2
      have z0 : (0 : Int) ≤ 0 := Int.le_refl _
      change m₁ (Str.ofString "startpos") = some (.int 0 ts) at mc
      refine (epos_one g p).elim (fun q => ?_) (fun q => ?_)
      · have f1 := q.1
        rw [f1] at hret
        refine q.2.elim (fun r q2 => ?_)
        have z2 := q2.1
        have hr' : fval g p (0 : Int).toNat = r := q2.2.1
        have ep := q2.2.2
        clear q q2
        have hq9 : Hide _ := ⟨hr'⟩
        clear hr'
        k_steps
        unfold Halt
        refine find4 z0 hq9.out ?_
        clear hq9
        k_steps
        rename Fr _ _ _ _ => F5
        rename News _ _ _ _ => N5
        exact FPost.nextI F5 N5 ⟨ma, ⟨te, mb'⟩, ex_cast ep.out ⟨_, rfl⟩, fun _ => f1⟩
      · have f1 := q.1
        rw [f1] at hret
        have hr : fval g p (0 : Int).toNat = -1 := q.2
        clear q
        have hq9 : Hide _ := ⟨hr⟩
        clear hr
        k_steps
        unfold Halt
        refine find4 z0 hq9.out ?_
        clear hq9
        k_steps
        rename Fr _ _ _ _ => F5
        exact hret _ _ F5.keep
    | 2, hv, mc, hi2 =>
      simp at hv
      subst hv
      have f1 := hi2 (Nat.le_refl _)
      clear hi2
      refine (epos_two f1).elim (fun r q => ?_)
      have z0 := q.1
      have e0 := q.2.1
      have er := q.2.2.1
      have ep := q.2.2.2
      rw [er] at mc
      clear er q
      have hq9 : Hide _ := ⟨e0⟩
      clear e0
      k_steps
      unfold Halt
      refine find4 z0 hq9.out ?_
      clear hq9
      k_steps
      rename Fr _ _ _ _ => F5
      rename News _ _ _ _ => N5
      exact FPost.nextI F5 N5 ⟨ma, ⟨te, mb'⟩, ex_cast (ep.out.trans (Int.add_zero r).symm) ⟨_, rfl⟩, fun _ => f1⟩
    | n + 3, hv, _, _ => simp at hv
  · rintro m₁ h tk _ ⟨ma, ⟨te, mb'⟩, ⟨ts, mc⟩, hi2⟩ F3 N4
    clear F2 N2 N3 hL3
    have f1 := hi2 (by show 2 ≤ 3; decide)
    rw [f1] at hret
    k_steps
    exact hret _ _ F3.keep
end
end Mine

-- part C8
open PySem PySem.W PyProof.Rows PySem.Calls
set_option Elab.async false
set_option linter.unusedVariables false
namespace Mine
set_option maxRecDepth 100000
set_option maxHeartbeats 16000000

structure PieceOK (b : Str) : Prop where
  split : Txt.split (Str.ofString "..." ++ b ++ Str.ofString "...") (Str.ofString "...") = [Str.ofString "", b, Str.ofString ""]
  occ : (Builtin.Str.occurrences (Str.ofString "..." ++ b ++ Str.ofString "...") (Str.ofString "...") 0 (Str.ofString "..." ++ b ++ Str.ofString "...").length 1).isEmpty = false
  len : b.length ≤ 100
theorem PieceOK.size {b : Str} (h : PieceOK b) : (Str.ofString "..." ++ b ++ Str.ofString "...").length + 2 ≤ sizeLine := by
  have := h.len
  have e : (Str.ofString "...").length = 3 := by decide
  rw [Str.length_append, Str.length_append, e, sizeLine_eq]
  omega

section
local macro_rules | `(tactic| walk_at "exec For Name Name cons nil") => `(tactic| refine to_halt ?_)
local macro_rules | `(tactic| walk_at "call ref") => `(tactic| refine to_halt ?_)
local macro_rules | `(tactic| walk_at "eval Name") => `(tactic| (refine ldm (by assumption) (by assumption) ?_ (by rfl) (by rfl) (by decide)))
local macro_rules | `(tactic| walk_at "execs nil") => `(tactic| refine wpAny_execs_nil ?_)
local macro_rules | `(tactic| walk_at "execs cons") => `(tactic| refine wpAny_execs_cons ?_)
local macro_rules | `(tactic| walk_at "exec If Call cons nil") => `(tactic| refine wpAny_If ?_)

theorem law_free (w : World) (mean : ExcName → Option Value) (mg mb : Str → Option Value) (A : Around) (s : Shared) (Q E : Value → Shared → Prop)
   (l : Addr) (vs : List Value) (bs : List Str) (g : Str) (t : Nat)
   (P : PC w mean mg mb s.heap)
   (hd : A.depth + 2 < recursionLimit) (hh : A.handled = none)
   (hl : s.heap.IsList l vs.toArray) (hi : StrsAre vs bs) (hg : g.length ≤ 1048576) (hbl : ∀ b ∈ bs, PieceOK b)
   (hret : ∀ h' tk', (∀ b o, s.heap.get? b = some o → h'.get? b = some o) → Q (.bool (bs.all fun b => !hasSub g b)) { s with heap := h', toks := tk' }) :
   wpAny (model PySem.Challenge.rw_sw0037_01.row.prog w) A (call (.ref 95) [.str g t, .ref l]) Q E s := by
  have P0 := P
  obtain ⟨X, T⟩ := P
  revert X; k_fill; intro X
  refine wpAny_call ?_
  k_dflt (refine' enter_pure (binds := [(Str.ofString "text", .str g t), (Str.ofString "barred", .ref l)]) X T ?k6 ?k7 ?k8 ?k9 ?kB ?_ ?c2 ?c3 ?c4 ?c5; (case k6 => k_is); (case k7 => k_is); (case k8 => exact Nat.lt_of_succ_lt (Nat.lt_of_succ_lt hd)); (case k9 => exact binds_peek X (fun _ => rfl)); (case c5 => decide); (case kB => exact locs rfl); (case c2 => exact rfl); (case c3 => exact rfl); (case c4 => exact rfl); k_whole)
  intro h₁ F
  (try dsimp only)
  k_steps
  unfold Halt
  refine for_T s.heap rfl rfl ?_
  refine ld F rfl ?_
  refine iter_list (news := []) (fun i m => m (Str.ofString "text") = some (.str g t) ∧ (bs.take i).all (fun b => !hasSub g b) = true) hh (hl.at fun o e => F.keep l o e) (.inl ⟨_, hl.choose_spec.1⟩) F News.nil ⟨rfl, rfl⟩ ?_ ?_
  · rintro I i v m₁ h tk o _ _ hv ⟨ma, hall⟩ F3 N3
    clear F
    have hv' : vs[i]? = some v := by simpa using hv
    obtain ⟨b, tb, hvb, hb⟩ := hi.item i v hv'
    subst hvb
    clear hv hv'
    have hb1 := (hbl b (List.mem_of_getElem? hb)).len
    k_steps
    unfold Halt
    have hbo := hbl b (List.mem_of_getElem? hb)
    refine ellipsis_str w mean mg mb _ _ _ _ b g _ _ t hbo.split hbo.size hg (Nat.le_trans hbo.len (by decide)) hbo.occ (P0.keeps F3.keep) hd hh ?_
    intro h' tk' hk
    have F4 := F3.keeps hk
    have N4 := N3.grown hk
    clear F3 N3 hk hbo
    cases hs : hasSub g b with
    | true =>
      have e : (bs.all fun b => !hasSub g b) = false := by
        rw [Bool.eq_false_iff]
        intro q
        have := List.all_eq_true.mp q b (List.mem_of_getElem? hb)
        rw [hs] at this
        cases this
      rw [e] at hret
      k_steps
      exact hret _ _ F4.keep
    | false =>
      k_steps
      refine FPost.nextI F4 N4 ⟨ma, ?_⟩
      rw [List.take_add_one, hb]
      simp [hall, hs]
  · rintro m₁ h tk _ ⟨ma, hall⟩ F3 N3
    clear F
    have e : bs.take vs.toArray.size = bs := by rw [List.size_toArray, hi.length, List.take_length]
    rw [e] at hall
    rw [hall] at hret
    k_steps
    exact hret _ _ F3.keep
end
end Mine

-- part CompT
open PySem PySem.W PyProof.Rows PySem.Calls
set_option Elab.async false
set_option linter.unusedVariables false
namespace Mine
set_option maxRecDepth 100000

section
variable {prog : Program} {w : World} {A : Around}

/-- what a comprehension's turn asks: its tests and its element, by the turn's number -/
structure QuietT (prog : Program) (w : World) (A : Around) (cenv : Addr → Env) (x : Str) (ifs : List PySem.Expr) (elt : PySem.Expr) (I : Addr) (n : Nat) (P : Nat → Value → Nat → Nat → Prop) (p : Nat → Bool) (G : Nat → Value → Prop) (s₂ : Shared) : Prop where
  tests : ∀ C i v t0 t1 s₃ m₃ E', s₂.heap.objs.size ≤ C → i < n → s₂.toks ≤ t0 → P i v t0 t1 → t1 < s₃.toks → s₃.heap.Ns C m₃ → m₃ x = some v → (∀ b o, b ≠ I → s₂.heap.get? b = some o → s₃.heap.get? b = some o) →
    wpAny (model prog w) A (forIn ifs true fun c r => if r = true then do let ok ← isTrue c (cenv C) (eval c (cenv C)); pure (ForInStep.yield ok) else pure (ForInStep.yield r))
      (fun ok s₄ => ok = p i ∧ Keeps s₃ s₄) E' s₃
  elt : ∀ C i v t0 t1 s₃ m₃ E', s₂.heap.objs.size ≤ C → i < n → p i = true → s₂.toks ≤ t0 → P i v t0 t1 → t1 < s₃.toks → s₃.heap.Ns C m₃ → m₃ x = some v → (∀ b o, b ≠ I → s₂.heap.get? b = some o → s₃.heap.get? b = some o) →
    wpAny (model prog w) A (eval elt (cenv C)) (fun y s₄ => G i y ∧ Keeps s₃ s₄) E' s₃

theorem keeps_toks {s s' : Shared} (k : Keeps s s') : ∀ b o, s.heap.get? b = some o → s'.heap.get? b = some o := by
  obtain ⟨h', tk, rfl, hk⟩ := k; exact hk

theorem range_filter_succ (p : Nat → Bool) (i : Nat) : (List.range (i + 1)).filter p = (List.range i).filter p ++ (if p i then [i] else []) := by
  rw [List.range_succ, List.filter_append]
  cases h : p i <;> simp [h]

theorem comp_loopT {R : Result → Shared → Prop} {s : Shared} {elt iter : PySem.Expr} {x : Str} {px : Pos} {ifs : List PySem.Expr} {scope : Scope} {pos : Pos} {I D C : Addr} {fp : List Addr} {n : Nat} {P : Nat → Value → Nat → Nat → Prop} {St : Nat → Heap → Prop}
    {cenv : Addr → Env} {m : Str → Option Value} {s₂ : Shared} (W : WalksT prog w A I fp n P St) (p : Nat → Bool) (G : Nat → Value → Prop)
    (hcl : (cenv C).locals = C) (hx : (cenv C).kindOf x = some .local) (hp : ((cenv C).scope.kind == .class || ((cenv C).scope.kind == .module && (cenv C).locals != (cenv C).globals)) = false)
    (hDC : D ≠ C) (hDf : D ∉ fp) (hCf : C ∉ fp) (hC : s₂.heap.objs.size ≤ C) (hD : s₂.heap.objs.size ≤ D)
    (hst : St 0 s.heap) (hacc : s.heap.PlainList D #[]) (hn : s.heap.Ns C m) (hs₂ : ∀ b o, s₂.heap.get? b = some o → s.heap.get? b = some o) (htk₂ : s₂.toks ≤ s.toks)
    (q : QuietT prog w A cenv x ifs elt I n P p G s₂)
    (hR : ∀ h' tk m' ys, h'.Ns C m' → h'.PlainList D ys → Paired G ((List.range n).filter p) ys.toList → s₂.toks ≤ tk →
      (∀ b o, b ≠ I → s₂.heap.get? b = some o → h'.get? b = some o) → R (.ok .next) { s with heap := h', toks := tk })
    (hsz : n ≤ sizeLine) :
    codeAny (model prog w) A (.compLoop (.ListComp elt [⟨.Name x px, iter, ifs, 0⟩] scope pos) 0 (.ref I) (.ref D) (cenv C)) R s := by
  have hlt2 : ∀ b o, s₂.heap.get? b = some o → b ≠ C ∧ b ≠ D := fun b o e => ⟨Nat.ne_of_lt (Nat.lt_of_lt_of_le (Heap.lt_size e) hC), Nat.ne_of_lt (Nat.lt_of_lt_of_le (Heap.lt_size e) hD)⟩
  have hDI : D ≠ I := fun e => hDf (e ▸ W.hI)
  have hCI : C ≠ I := fun e => hCf (e ▸ W.hI)
  refine codeAny_compLoop_tests
    (fun k s' => ∃ h' tk m' ys i, s' = { s with heap := h', toks := tk } ∧ St i h' ∧ h'.PlainList D ys ∧ h'.Ns C m' ∧ Paired G ((List.range i).filter p) ys.toList ∧ i ≤ n ∧ k = n + 1 - i ∧
      (∀ b o, b ≠ I → s₂.heap.get? b = some o → h'.get? b = some o) ∧ s₂.toks ≤ tk) ?_ (n + 1)
    ⟨s.heap, s.toks, m, #[], 0, rfl, hst, hacc, hn, Paired.nil, Nat.zero_le _, rfl, fun b o _ e => hs₂ b o e, htk₂⟩
  rintro k s' ⟨H, tk, m', ys, i, rfl, hst', hacc', hn', hF, hi, rfl, hk, htk⟩
  by_cases hlt : i < n
  · refine W.item i _ _ _ hlt hst' fun v h₁ tk₁ hPv hst₁ hk₁ => ?_
    have hle := W.le _ _ _ _ hPv
    have hn₁ : h₁.Ns C m' := hn'.at' fun o e => hk₁ _ o hCI e
    refine wpAny_assign_Name (wpAny_storeName_local hx (m := m') (by rw [hcl]; exact hn₁) (fun h₂ hn₂ hs₂' => ?_) hp)
    rw [hcl] at hn₂ hs₂'
    have sb₂ : Heap.SameBut C h₁ h₂ := hs₂'
    have up₂ : ∀ b o, b ≠ I → s₂.heap.get? b = some o → h₂.get? b = some o := fun b o hb e => sb₂.extBut b o (hlt2 b o e).1 (hk₁ b o hb (hk b o hb e))
    have hst₂ : St (i + 1) h₂ := W.frame _ _ _ hst₁ fun b hb o e => sb₂.extBut b o (fun h => hCf (h ▸ hb)) e
    have hacc₂ : h₂.PlainList D ys := hacc'.at fun o e => sb₂.extBut D o hDC (hk₁ D o hDI e)
    refine wpAny_mono (wpAny_toks_of (n := tk₁ + 1) (Nat.le_refl _) (q.tests C i v tk tk₁ _ _ _ hC hlt htk hPv (Nat.lt_succ_self _) hn₂ (by simp) up₂)) (fun ok s₃ h₃ => ?_) fun _ _ e => e.2
    obtain ⟨htk₃, rfl, h₃, tk₃, rfl, hk₃⟩ := h₃
    have hst₃ : St (i + 1) h₃ := W.frame _ _ _ hst₂ fun b _ o e => hk₃ b o e
    have hacc₃ : h₃.PlainList D ys := hacc₂.at fun o e => hk₃ _ o e
    have hn₃ := hn₂.keeps hk₃
    have hle₃ : s₂.toks ≤ tk₃ := Nat.le_trans htk (Nat.le_trans hle (Nat.le_of_succ_le htk₃))
    cases hpv : p i with
    | false =>
      simp only [Bool.false_eq_true, if_false]
      refine ⟨n + 1 - (i + 1), by omega, h₃, tk₃, _, ys, i + 1, rfl, hst₃, hacc₃, hn₃, ?_, hlt, rfl, fun b o hb e => hk₃ b o (up₂ b o hb e), hle₃⟩
      rw [range_filter_succ]; simpa [hpv] using hF
    | true =>
      simp only [if_true]
      refine wpAny_mono (wpAny_toks_of (n := tk₃) (Nat.le_refl _) (q.elt C i v tk tk₁ _ _ _ hC hlt hpv htk hPv (Nat.lt_of_succ_le htk₃) hn₃ (by simp) (fun b o hb e => hk₃ b o (up₂ b o hb e)))) (fun y s₄ h₄ => ?_) fun _ _ e => e.2
      obtain ⟨htk₄, hFy, h₄, tk₄, rfl, hk₄⟩ := h₄
      have hys : ys.size ≤ sizeLine := by
        have e1 := hF.length
        have e2 : ((List.range i).filter p).length ≤ (List.range i).length := List.length_filter_le _ _
        have e3 : (List.range i).length = i := List.length_range
        have e4 : ys.toList.length = ys.size := by simp
        omega
      refine wpAny_list_append_plain (hsz := hys) (hacc₃.at fun o e => hk₄ _ o e) fun h₅ hl₅ hs₅ => ?_
      have sb₅ : Heap.SameBut D h₄ h₅ := hs₅
      refine ⟨n + 1 - (i + 1), by omega, h₅, tk₄, _, ys.push y, i + 1, rfl, ?_, hl₅, (hn₃.keeps hk₄).sameBut sb₅ (Ne.symm hDC), ?_, hlt, rfl,
        fun b o hb e => sb₅.extBut b o (hlt2 b o e).2 (hk₄ b o (hk₃ b o (up₂ b o hb e))), Nat.le_trans hle₃ htk₄⟩
      · exact W.frame _ _ h₅ hst₃ fun b hb o e => sb₅.extBut b o (fun h => hDf (h ▸ hb)) (hk₄ b o e)
      · rw [range_filter_succ]; simpa [hpv] using Paired.snoc hF hFy
  · have hin : i = n := by omega
    subst hin
    refine W.done _ _ _ hst' fun h₁ tk₁ hle hk₁ => ?_
    exact hR h₁ tk₁ m' ys (hn'.at' fun o e => hk₁ _ o hCI e) (hacc'.at fun o e => hk₁ _ o hDI e) hF (Nat.le_trans htk hle) fun b o hb e => hk₁ b o hb (hk b o hb e)

/-- where a comprehension's items come from -/
def CSrc (prog : Program) (w : World) (A : Around) (s : Shared) (n : Nat) (P : Nat → Value → Nat → Nat → Prop) (it : Value) (s₂ : Shared) : Prop :=
  ∃ I fp St h₂, it = .ref I ∧ s₂ = { s with heap := h₂ } ∧ WalksT prog w A I fp n P St ∧ St 0 h₂ ∧ (∀ b ∈ fp, b < h₂.objs.size) ∧ s.heap.get? I = none ∧ s.heap.objs.size ≤ h₂.objs.size ∧ (∀ b o, s.heap.get? b = some o → h₂.get? b = some o)

theorem get_size_none (h : Heap) : h.get? h.objs.size = none := by
  cases q : h.get? h.objs.size with
  | none => rfl
  | some o => exact absurd (Heap.lt_size q) (Nat.lt_irrefl _)

section
variable {E : Value → Shared → Prop} {s : Shared} {Q : Value → Shared → Prop}
theorem csrc_list {l : Addr} {items : Array Value} (hh : A.handled = none) (hl : s.heap.IsList l items)
    (k : ∀ it s₂, CSrc prog w A s items.size (fun i v t0 t1 => items[i]? = some v ∧ t1 = t0) it s₂ → Q it s₂) : wpAny (model prog w) A (pyIter (.ref l)) Q E s := by
  obtain ⟨ol, hol, _⟩ := id hl
  have hlt : l < s.heap.objs.size := Heap.lt_size hol
  refine wpAny_pyIter_list hl (k _ _ ⟨_, _, _, _, rfl, rfl, walksT_list hh s.heap.objs.size l (Nat.ne_of_lt hlt) items, ⟨⟨_, Heap.get?_push_size _ rfl, rfl, rfl⟩, hl.at fun o e => Heap.get?_push_of_some _ e⟩, ?_, get_size_none _, ?_, fun b o e => Heap.get?_push_of_some _ e⟩)
  · intro b hb
    rw [Heap.size_push]
    rcases List.mem_cons.mp hb with rfl | hb
    · exact Nat.lt_succ_self _
    · rw [List.mem_singleton.mp hb]; exact Nat.lt_succ_of_lt hlt
  · rw [Heap.size_push]; exact Nat.le_succ _
theorem csrc_range {r : Addr} {a₀ b₀ c₀ : Int} (n : Nat) (hh : A.handled = none) (hr' : ∃ t₀ u₀ v₀, IsRange s.heap r a₀ b₀ c₀ t₀ u₀ v₀) (hsmall : Builtin.Range.small a₀ b₀ c₀ = true) (hn : Builtin.Range.rangeSize a₀ b₀ c₀ = ((n : Nat) : Int))
    (k : ∀ it s₂, CSrc prog w A s n (fun i v t0 t1 => v = .int (a₀ + i * c₀) t0 ∧ t1 = t0 + 1) it s₂ → Q it s₂) : wpAny (model prog w) A (pyIter (.ref r)) Q E s := by
  obtain ⟨t₀, u₀, v₀, hr⟩ := hr'
  refine wpAny_pyIter_range hr hsmall (k _ _ ⟨_, _, _, _, rfl, rfl, walksT_range hh s.heap.objs.size a₀ c₀ n, (by show IsRangeIter _ _ _ _ _; rw [hn]; simpa using Heap.get?_push_size _ rfl), ?_, get_size_none _, ?_, fun b o e => Heap.get?_push_of_some _ e⟩)
  · intro b hb
    rw [Heap.size_push, List.mem_singleton.mp hb]; exact Nat.lt_succ_self _
  · rw [Heap.size_push]; exact Nat.le_succ _
theorem csrc_str {y : Str} {t : Tok} (hh : A.handled = none)
    (k : ∀ it s₂, CSrc prog w A s y.cps.size (SignT y) it s₂ → Q it s₂) : wpAny (model prog w) A (pyIter (.str y t)) Q E s := by
  cases ha : y.cps.all (· < 128)
  · refine wpAny_pyIter_wide ha (k _ _ ⟨_, _, _, _, rfl, rfl, walksT_wide hh s.heap.objs.size y t, ⟨_, Heap.get?_push_size _ rfl, rfl, rfl⟩, ?_, get_size_none _, ?_, fun b o e => Heap.get?_push_of_some _ e⟩)
    · intro b hb
      rw [Heap.size_push, List.mem_singleton.mp hb]; exact Nat.lt_succ_self _
    · rw [Heap.size_push]; exact Nat.le_succ _
  · refine wpAny_pyIter_ascii ha (k _ _ ⟨_, _, _, _, rfl, rfl, walksT_ascii hh s.heap.objs.size y t, ⟨_, Heap.get?_push_size _ rfl, rfl, rfl⟩, ?_, get_size_none _, ?_, fun b o e => Heap.get?_push_of_some _ e⟩)
    · intro b hb
      rw [Heap.size_push, List.mem_singleton.mp hb]; exact Nat.lt_succ_self _
    · rw [Heap.size_push]; exact Nat.le_succ _
end

/-- the turns' contract, told over the state ahead of the iterator -/
structure QuietS (prog : Program) (w : World) (A : Around) (cenv : Addr → Env) (x : Str) (ifs : List PySem.Expr) (elt : PySem.Expr) (n : Nat) (P : Nat → Value → Nat → Nat → Prop) (p : Nat → Bool) (G : Nat → Value → Prop) (s₁ : Shared) : Prop where
  tests : ∀ C i v t0 t1 s₃ m₃ E', s₁.heap.objs.size ≤ C → i < n → s₁.toks ≤ t0 → P i v t0 t1 → t1 < s₃.toks → s₃.heap.Ns C m₃ → m₃ x = some v → (∀ b o, s₁.heap.get? b = some o → s₃.heap.get? b = some o) →
    wpAny (model prog w) A (forIn ifs true fun c r => if r = true then do let ok ← isTrue c (cenv C) (eval c (cenv C)); pure (ForInStep.yield ok) else pure (ForInStep.yield r))
      (fun ok s₄ => ok = p i ∧ Keeps s₃ s₄) E' s₃
  elt : ∀ C i v t0 t1 s₃ m₃ E', s₁.heap.objs.size ≤ C → i < n → p i = true → s₁.toks ≤ t0 → P i v t0 t1 → t1 < s₃.toks → s₃.heap.Ns C m₃ → m₃ x = some v → (∀ b o, s₁.heap.get? b = some o → s₃.heap.get? b = some o) →
    wpAny (model prog w) A (eval elt (cenv C)) (fun y s₄ => G i y ∧ Keeps s₃ s₄) E' s₃

theorem QuietS.toT {cenv : Addr → Env} {x : Str} {ifs : List PySem.Expr} {elt : PySem.Expr} {n : Nat} {P : Nat → Value → Nat → Nat → Prop} {p : Nat → Bool} {G : Nat → Value → Prop} {s₁ : Shared} {h₂ : Heap} {I : Addr}
    (q : QuietS prog w A cenv x ifs elt n P p G s₁) (hI : s₁.heap.get? I = none) (hz : s₁.heap.objs.size ≤ h₂.objs.size) (hk : ∀ b o, s₁.heap.get? b = some o → h₂.get? b = some o) :
    QuietT prog w A cenv x ifs elt I n P p G { s₁ with heap := h₂ } where
  tests := fun C i v t0 t1 s₃ m₃ E' hC hi ht hP h3 hn hm hk3 => q.tests C i v t0 t1 s₃ m₃ E' (Nat.le_trans hz hC) hi ht hP h3 hn hm fun b o e => hk3 b o (fun z => by rw [z, hI] at e; cases e) (hk b o e)
  elt := fun C i v t0 t1 s₃ m₃ E' hC hi hp ht hP h3 hn hm hk3 => q.elt C i v t0 t1 s₃ m₃ E' (Nat.le_trans hz hC) hi hp ht hP h3 hn hm fun b o e => hk3 b o (fun z => by rw [z, hI] at e; cases e) (hk b o e)

section
variable {E : Value → Shared → Prop} {env : Env}
theorem comp_blockT {elt iter : PySem.Expr} {x : Str} {px : Pos} {ifs : List PySem.Expr} {scope : Scope} {cl : List (Str × Addr)} {pos : Pos} {s₁ s₂ : Shared} {it : Value} {n : Nat} {P : Nat → Value → Nat → Nat → Prop}
    (src : CSrc prog w A s₁ n P it s₂) (hsz : n ≤ sizeLine) (p : Nat → Bool) (G : Nat → Value → Prop) {RR : Value → Addr → Result → Shared → Prop}
    (hcell : ∀ y ∈ scope.names, y.2 ≠ .cell) (hkind : scope.kind = .function) (hx : scope.names.lookup x = some .local)
    (hq : QuietS prog w A (fun C => compEnvC scope cl C env) x ifs elt n P p G s₁)
    (hRR : ∀ D C h' tk m' ys, s₁.heap.objs.size ≤ D → s₁.heap.objs.size ≤ C → D ≠ C → h'.Ns C m' → h'.PlainList D ys → Paired G ((List.range n).filter p) ys.toList → s₁.toks ≤ tk →
      (∀ b o, s₁.heap.get? b = some o → h'.get? b = some o) → RR (.ref D) C (.ok .next) { s₁ with heap := h', toks := tk }) :
    wpAny (model prog w) A (newList []) (fun acc s₃ => wpAny (model prog w) A (newFunctionEnv scope env.globals cl [] env.qual none .none (some env)) (fun cenv s₄ =>
      codeAny (model prog w) A (.compStart (.ListComp elt [⟨.Name x px, iter, ifs, 0⟩] scope pos) 0 it acc { cenv with scope := relabel scope env }) (RR acc cenv.locals) s₄) E s₃) E s₂ := by
  obtain ⟨I, fp, St, h₂, rfl, rfl, W, hst, hfp, hI, hz, hk₂⟩ := src
  refine wpAny_newObj_type (wpAny_newFunctionEnv hcell (by intro y hy; simp at hy) (fun h₁ hns₁ hsb₁ => ?_) hkind)
  dsimp only at hns₁ hsb₁ ⊢
  generalize hH2 : h₂.push { cls := .type "list", dict := none, data := .seq ([] : List Value).toArray } = H2 at hns₁ hsb₁ ⊢
  have sb : Heap.SameBut H2.objs.size (H2.push _) h₁ := hsb₁
  have hC : H2.objs.size = h₂.objs.size + 1 := by rw [← hH2, Heap.size_push]
  have hDC : h₂.objs.size ≠ H2.objs.size := by rw [hC]; exact Nat.ne_of_lt (Nat.lt_succ_self _)
  have hCle : h₂.objs.size ≤ H2.objs.size := by rw [hC]; exact Nat.le_succ _
  have hDf : h₂.objs.size ∉ fp := fun hm => Nat.lt_irrefl _ (hfp _ hm)
  have hCf : H2.objs.size ∉ fp := fun hm => by have := hfp _ hm; rw [hC] at this; exact Nat.lt_irrefl _ (Nat.lt_of_succ_lt this)
  have old : ∀ b o, h₂.get? b = some o → h₁.get? b = some o := fun b o e => sb.extBut b o (by have := Heap.lt_size e; rw [hC]; exact Nat.ne_of_lt (Nat.lt_succ_of_lt this)) (Heap.get?_push_of_some _ (hH2 ▸ Heap.get?_push_of_some _ e))
  have hacc : h₁.PlainList h₂.objs.size #[] := ⟨_, sb.extBut _ _ hDC (Heap.get?_push_of_some _ (hH2 ▸ Heap.get?_push_size _ rfl))⟩
  have hst₁ : St 0 h₁ := W.frame _ _ _ hst fun b _ o e => old b o e
  have loop : ∀ s₃ : Shared, s₃ = { s₁ with heap := h₁, toks := s₁.toks + ([] : List (Str × Value)).length } →
      codeAny (model prog w) A (.compLoop (.ListComp elt [⟨.Name x px, iter, ifs, 0⟩] scope pos) 0 (.ref I) (.ref h₂.objs.size) (compEnvC scope cl H2.objs.size env))
        (RR (.ref h₂.objs.size) H2.objs.size) s₃ := by
    rintro s₃ rfl
    refine comp_loopT (cenv := fun C => compEnvC scope cl C env) (s₂ := { s₁ with heap := h₂ }) W p G rfl (lookup_relabel_local hx) (by simp [compEnvC, relabel, hkind]) hDC hDf hCf hCle (Nat.le_refl _) hst₁ hacc hns₁ old (Nat.le_refl _)
      (hq.toT hI hz hk₂) (fun h' tk m' ys hn hpl hF htk hk => ?_) hsz
    exact hRR _ _ h' tk m' ys hz (Nat.le_trans hz hCle) hDC hn hpl hF htk fun b o e => hk b o (fun z => by rw [z, hI] at e; cases e) (hk₂ b o e)
  exact codeAny_compStart_list (loop _ rfl) (W.self 0 _ _ _ hst₁ (loop _ rfl))

theorem ListComp_T {s : Shared} {elt iter : PySem.Expr} {x : Str} {px : Pos} {ifs : List PySem.Expr} {scope : Scope} {cl : List (Str × Addr)} {pos : Pos} {Q : Value → Shared → Prop}
    (hclos : closureFor scope env = pure cl) (hcell : ∀ y ∈ scope.names, y.2 ≠ .cell) (hkind : scope.kind = .function)
    (hnames : ∀ y ∈ scope.names, y.2 = .local → scope.names.lookup y.1 = some .local) (hx : scope.names.lookup x = some .local)
    (h : wpAny (model prog w) A (eval iter env) (fun xv s₁ => wpAny (model prog w) A (pyIter xv) (fun it s₂ => ∃ n P p G, CSrc prog w A s₁ n P it s₂ ∧ n ≤ sizeLine ∧
      QuietS prog w A (fun C => compEnvC scope cl C env) x ifs elt n P p G s₁ ∧
      (∀ D h' tk ys k, s₁.heap.objs.size ≤ D → h'.get? D = some (listOf ys k) → Paired G ((List.range n).filter p) ys.toList → s₁.toks ≤ tk →
        (∀ b o, s₁.heap.get? b = some o → h'.get? b = some o) → Q (.ref D) { s₁ with heap := h', toks := tk })) E s₁) E s)
    (hs : ∀ x, foldedSetIterable iter env x = pure x := by intro _; rfl) :
    wpAny (model prog w) A (eval (.ListComp elt [⟨.Name x px, iter, ifs, 0⟩] scope pos) env) Q E s := by
  rw [eval_ListComp]
  refine wpAny_comprehension_free (use := none) rfl hs hclos hkind hnames (wpAny_mono h (fun xv s₁ h₁ => wpAny_mono h₁ (fun it s₂ h₂ => ?_) fun _ _ e => e) fun _ _ e => e)
  obtain ⟨n, P, p, G, src, hsz, hq, hQ⟩ := h₂
  refine comp_blockT (RR := fun acc C => compPost (model prog w) A E none Q acc C) src hsz p G hcell hkind hx hq ?_
  intro D C h' tk m' ys hD hC hDC hn hpl hF htk hk
  refine ⟨m', hn, fun h'' hs'' => ?_⟩
  have sb : Heap.SameBut C h' h'' := hs''
  obtain ⟨k, e⟩ := hpl
  exact hQ D h'' tk ys k hD (sb.extBut _ _ hDC e) hF htk fun b o e => sb.extBut b o (Nat.ne_of_lt (Nat.lt_of_lt_of_le (Heap.lt_size e) hC)) (hk b o e)

theorem Assign_ListComp_T {s : Shared} {elt iter : PySem.Expr} {x y : Str} {px py : Pos} {ifs : List PySem.Expr} {scope : Scope} {cl : List (Str × Addr)} {pos spos : Pos} {Q : Flow → Shared → Prop}
    (hsw : swapsWith (.ListComp elt [⟨.Name x px, iter, ifs, 0⟩] scope pos) (some (.Name y py)) spos.line env = pure true)
    (hclos : closureFor scope env = pure cl) (hcell : ∀ z ∈ scope.names, z.2 ≠ .cell) (hkind : scope.kind = .function)
    (hnames : ∀ z ∈ scope.names, z.2 = .local → scope.names.lookup z.1 = some .local) (hx : scope.names.lookup x = some .local)
    (hy : env.kindOf y = some .local) (hp : (env.scope.kind == .class || (env.scope.kind == .module && env.locals != env.globals)) = false)
    (h : wpAny (model prog w) A (eval iter env) (fun xv s₁ => wpAny (model prog w) A (pyIter xv) (fun it s₂ => ∃ n P p G m, CSrc prog w A s₁ n P it s₂ ∧ n ≤ sizeLine ∧ s₁.heap.Ns env.locals m ∧
      QuietS prog w A (fun C => compEnvC scope cl C env) x ifs elt n P p G s₁ ∧
      (∀ D h' tk ys k, s₁.heap.objs.size ≤ D → h'.get? D = some (listOf ys k) → Paired G ((List.range n).filter p) ys.toList → s₁.toks < tk →
        h'.Ns env.locals (fun z => if z = y then some (.ref D) else m z) → (∀ b o, b ≠ env.locals → s₁.heap.get? b = some o → h'.get? b = some o) → Q .next { s₁ with heap := h', toks := tk })) E s₁) E s)
    (hs : ∀ x, foldedSetIterable iter env x = pure x := by intro _; rfl) :
    wpAny (model prog w) A (exec (.Assign [.Name y py] (.ListComp elt [⟨.Name x px, iter, ifs, 0⟩] scope pos) spos) env) Q E s := by
  rw [exec_Assign_Name_used _ _ _ _ hsw]
  refine wpAny_bind (wpAny_standAt (wpAny_bind ?_))
  show wpAny _ A (do let _ ← comprehension (.ListComp elt [⟨.Name x px, iter, ifs, 0⟩] scope pos) scope env _ (newList []) false (eval iter env) (some (assign (.Name y py) env))) _ _ s
  refine wpAny_bind (wpAny_mono (wpAny_comprehension_free (use := some (assign (.Name y py) env)) (Q := fun _ s' => Q .next s') rfl hs hclos hkind hnames
    (wpAny_mono h (fun xv s₁ h₁ => wpAny_mono h₁ (fun it s₂ h₂ => ?_) fun _ _ e => e) fun _ _ e => e)) (fun _ s' hq => wpAny_pure (wpAny_pure hq)) fun _ _ e => e)
  obtain ⟨n, P, p, G, m, src, hsz, hn, hq, hQ⟩ := h₂
  refine comp_blockT (RR := fun acc C => compPost (model prog w) A E (some (assign (.Name y py) env)) (fun _ s' => Q .next s') acc C) src hsz p G hcell hkind hx hq ?_
  intro D C h' tk m' ys hD hC hDC hnC hpl hF htk hk
  have hLlt := hn.lt
  have hLC : env.locals ≠ C := Nat.ne_of_lt (Nat.lt_of_lt_of_le hLlt hC)
  have hLD : env.locals ≠ D := Nat.ne_of_lt (Nat.lt_of_lt_of_le hLlt hD)
  show wpAny _ A (assign (.Name y py) env (.ref D)) _ _ _
  refine wpAny_assign_Name (wpAny_storeName_local hy (hn.at' fun o e => hk _ o e) (fun h₂ hn₂ hs₂ => ?_) hp)
  have sb2 : Heap.SameBut env.locals h' h₂ := hs₂
  refine ⟨m', hnC.sameBut sb2 (Ne.symm hLC), fun h₃ hs₃ => ?_⟩
  have sb3 : Heap.SameBut C h₂ h₃ := hs₃
  obtain ⟨k, e⟩ := hpl
  exact hQ D h₃ _ ys k hD (sb3.extBut _ _ hDC (sb2.extBut _ _ (Ne.symm hLD) e)) hF (Nat.lt_succ_of_le htk) (hn₂.sameBut sb3 hLC) fun b o hbL e =>
    sb3.extBut b o (Nat.ne_of_lt (Nat.lt_of_lt_of_le (Heap.lt_size e) hC)) (sb2.extBut b o hbL (hk b o e))
end
end

section
variable {M : Model} {A : Around} {E : Value → Shared → Prop} {s : Shared} {scope : Scope} {cl : List (Str × Addr)} {C c : Addr} {env : Env} {m : Str → Option Value} {x : Str} {pos : Pos} {v : Value} {Q : Value → Shared → Prop}
theorem ldCompL (hn : s.heap.Ns C m) (hv : m x = some v) (h : Q v s) (hk : (compEnvC scope cl C env).scope.kind = .function) (hl : (compEnvC scope cl C env).kindOf x = some .local) (hd : (x == ("__debug__" : Str)) = false) :
    wpAny M A (eval (.Name x pos) (compEnvC scope cl C env)) Q E s := wpAny_Name (wpAny_loadName_local hk hl hn hv h) hd
theorem ldCompC (hc : cl.lookup x = some c) (hcell : s.heap.IsCell c (some v)) (h : Q v s) (hk : (compEnvC scope cl C env).scope.kind = .function) (hl : (compEnvC scope cl C env).kindOf x = some .cell) (hd : (x == ("__debug__" : Str)) = false) :
    wpAny M A (eval (.Name x pos) (compEnvC scope cl C env)) Q E s := wpAny_Name (wpAny_loadName_cell hk hl hc hcell h) hd
theorem ldCompG {w : World} {mean : ExcName → Option Value} {mg mb : Str → Option Value} (P : PC w mean mg mb s.heap) (e : nsIn (Mine.hd.heap_39 w.params) mainGlobals x = some (some v)) (h : Q v s) (hg : env.globals = mainGlobals) (hk : (compEnvC scope cl C env).scope.kind = .function) (hl : (compEnvC scope cl C env).kindOf x = some .globalImplicit) (hd : (x == ("__debug__" : Str)) = false) :
    wpAny M A (eval (.Name x pos) (compEnvC scope cl C env)) Q E s :=
  Name_function_global hk hl (loadGlobal_global (env := compEnvC scope cl C env) (by show s.heap.Ns env.globals mg; rw [hg]; exact P.T.g) (mg_of P.X P.T.g e) h) hd
theorem ldCompB {w : World} {mean : ExcName → Option Value} {mg mb : Str → Option Value} (P : PC w mean mg mb s.heap) (e : nsIn (Mine.hd.heap_39 w.params) mainGlobals x = some none) (hv : bootBuiltins x = some v) (hn : x ≠ "__name__") (h : Q v s) (hg : env.globals = mainGlobals) (hb : env.builtins = builtinsNs) (hk : (compEnvC scope cl C env).scope.kind = .function) (hl : (compEnvC scope cl C env).kindOf x = some .globalImplicit) (hd : (x == ("__debug__" : Str)) = false) :
    wpAny M A (eval (.Name x pos) (compEnvC scope cl C env)) Q E s :=
  Name_function_global hk hl (loadGlobal_builtin (env := compEnvC scope cl C env) (by show s.heap.Ns env.globals mg; rw [hg]; exact P.T.g) (mg_none_of P.X P.T.g e) (by show s.heap.Ns env.builtins mb; rw [hb]; exact P.T.b) ((P.T.builtins x hn).trans hv) h) hd
end

/-- a comprehension's element is done -/
def EltEnd (G : Value → Prop) (s₃ : Shared) (y : Value) (s₄ : Shared) : Prop := G y ∧ Keeps s₃ s₄
theorem EltEnd.intro {G : Value → Prop} {s₃ : Shared} {y : Value} {h' : Heap} {tk : Nat} (g : G y) (k : ∀ b o, s₃.heap.get? b = some o → h'.get? b = some o) : EltEnd G s₃ y { s₃ with heap := h', toks := tk } := ⟨g, h', tk, rfl, k⟩
def TstEnd (b : Bool) (s₃ : Shared) (y : Bool) (s₄ : Shared) : Prop := y = b ∧ Keeps s₃ s₄
theorem TstEnd.intro {b : Bool} {s₃ : Shared} {y : Bool} {h' : Heap} {tk : Nat} (g : y = b) (k : ∀ b o, s₃.heap.get? b = some o → h'.get? b = some o) : TstEnd b s₃ y { s₃ with heap := h', toks := tk } := ⟨g, h', tk, rfl, k⟩

theorem no_tests {prog : Program} {w : World} {A : Around} {E : Value → Shared → Prop} {s : Shared} {env : Env} : wpAny (model prog w) A (forIn ([] : List PySem.Expr) true fun c r => if r = true then do let ok ← isTrue c env (eval c env); pure (ForInStep.yield ok) else pure (ForInStep.yield r)) (fun ok s₄ => ok = true ∧ Keeps s s₄) E s :=
  wpAny_tests_nil ⟨rfl, s.heap, s.toks, rfl, fun _ _ e => e⟩

theorem paired_strs {f : Nat → Str} : ∀ {is : List Nat} {ys : List Value}, Paired (fun i y => ∃ tk, y = Value.str (f i) tk) is ys → StrsAre ys (is.map f)
  | _, _, .nil => .nil
  | _, _, .cons ⟨tk, e⟩ r => by subst e; exact .cons _ tk (paired_strs r)
theorem paired_ints' {f : Nat → Int} : ∀ {is : List Nat} {ys : List Value}, Paired (fun i y => ∃ tk, y = Value.int (f i) tk) is ys → IntsAre ys (is.map f)
  | _, _, .nil => .nil
  | _, _, .cons ⟨tk, e⟩ r => by subst e; exact .cons _ tk (paired_ints' r)
theorem filter_true (n : Nat) : (List.range n).filter (fun _ => true) = List.range n := List.filter_eq_self.mpr fun _ _ => rfl
end Mine

-- part C9
open PySem PySem.W PyProof.Rows PySem.Calls
set_option Elab.async false
set_option linter.unusedVariables false
namespace Mine
set_option maxRecDepth 100000
set_option maxHeartbeats 16000000

/-- a call of a def of the top's whose frame has cells, entered over the whole heap -/
theorem enter_cells {prog : Program} {w : World} {A : Around} {s : Shared} {K : Frag} {p : Program} {loose : List Str} {mean : ExcName → Option Value} {mg mb : Str → Option Value}
    {R : Result → Shared → Prop} {name qual : Str} {params : Arguments} {body : List Stmt} {scope : Scope} {dV kV doc pm cdv ct oc : Value} {an od : Option Addr} {osl : Array (Option Value)} {f : Addr} {args : Args} {binds : List (Str × Value)}
    (X : K.In s.heap) (T : Top p loose mean mg mb s.heap)
    (ho : K.lookup f = some ⟨oc, od, .func (fnOf name qual params body scope dV kV doc pm an cdv ct), osl⟩) (hcd : codeIn K cdv qual = true) (hroom : A.depth < recursionLimit)
    (hbind : BindsTo s (fnOf name qual params body scope dV kV doc pm an cdv ct) args binds) (hkind : (binds.all fun y => scope.names.lookup y.1 == some .local || scope.names.lookup y.1 == some .cell) = true)
    (hnd : ((cellsFrom 0 scope.names []).map (·.1)).Nodup)
    (h : ∀ h₁ tk cells, s.toks ≤ tk → Fr s.heap s.heap.objs.size h₁ (bindL (envOfC qual scope s.heap.objs.size f cdv).kindOf binds fun _ => none) → News s.heap s.heap.objs.size h₁ cells →
      CellsAre (bindC (envOfC qual scope s.heap.objs.size f cdv).kindOf binds fun _ => none) (cellsFrom (s.heap.objs.size + 1) scope.names []) cells →
      wpAny (model prog w) (A.deeper (envOfC qual scope s.heap.objs.size f cdv)) (execs body (envOfC qual scope s.heap.objs.size f cdv))
        (fun fl s' => R (.ok (.ret (match fl with | .ret v => v | _ => .none))) s')
        (fun _ _ => False)
        { s with heap := h₁, toks := tk })
    (hco : scope.isCoroutine = false) (hgen : scope.isGenerator = false) (hk : scope.kind = .function) : codeAny (model prog w) A (.call (.ref f) args) R s := by
  refine codeAny_call_function hroom (X _ _ ho) rfl hco hgen rfl (codeRec_of X hcd) (hbind _ _ _ _ ?_)
  refine wpAny_with_toks (n := s.toks) (Nat.le_refl _) (wpAny_newFunctionEnv_cells hk (kindsX hkind _) fun env' he s' x hle => ?_)
  subst he
  refine ⟨T.nolimit.keeps x.toInCall.keep, codeAny_func ?_⟩
  obtain ⟨h₁, tk, rfl, _⟩ := x.done
  obtain ⟨cells, NC, Y⟩ := Cl.news (h₀ := s.heap) (Nat.le_refl _) fun n c hm => ⟨x.cell n c (lookup_of_mem_nodup (cellsFrom_names scope.names 0 (s.heap.objs.size + 1) [] [] rfl ▸ hnd) hm), x.above n c hm⟩
  exact wpAny_mono (h h₁ tk cells hle ⟨x.toInCall.ns, x.toInCall.keep, Nat.le_refl _⟩ NC Y) (fun _ _ y => y) fun _ _ y => y.elim

/-- the places that are taken off, one by one -/
def wrF (ns : List Int) (size : Int) : Nat → Int → List Int
  | 0, _ => []
  | n + 1, r => if 0 < r then (bisR ns r size.toNat 0 size - 1) :: wrF ns size n (r - ns.getD (bisR ns r size.toNat 0 size - 1).toNat 0) else []

def WrGood (ns : List Int) (size num : Int) : Prop :=
  ∀ r, 0 < r → r ≤ num → 0 ≤ bisR ns r size.toNat 0 size - 1 ∧ bisR ns r size.toNat 0 size - 1 < size ∧ 1 ≤ ns.getD (bisR ns r size.toNat 0 size - 1).toNat 0 ∧ ns.getD (bisR ns r size.toNat 0 size - 1).toNat 0 ≤ r

structure WrI (s : Shared) (l : Addr) (ns : List Int) (size num : Int) (t1 : Nat) (lt : Addr) (o1 o2 : Obj) (n : Nat) (s' : Shared) (h : Heap) (tk : Nat) (m : Str → Option Value) (r : Int) (tr : Tok) (xs : Array Value) (k : Nat) (ts : List Int) : Prop where
  e : s' = { s with heap := h, toks := tk }
  le : s.toks ≤ tk
  F : Fr s.heap s.heap.objs.size h m
  mp : m (Str.ofString "places") = some (.ref l)
  ms : m (Str.ofString "size") = some (.int size t1)
  mr : m (Str.ofString "rest") = some (.int r tr)
  N : News s.heap s.heap.objs.size h [(lt, listOf xs k), (s.heap.objs.size + 1 + 1, o2), (s.heap.objs.size + 1, o1)]
  ia : IntsAre xs.toList ts
  tks : ∀ (i : Nat) y ty, xs.toList[i]? = some (.int y ty) → 0 < (ty : Nat) ∧ (ty : Nat) < tk
  r0 : 0 ≤ r
  r1 : r + ts.length ≤ num
  rn : r.toNat ≤ n
  eq : ts ++ wrF ns size n r = wrF ns size num.toNat num
def WrInv (s : Shared) (l : Addr) (ns : List Int) (size num : Int) (t1 : Nat) (lt : Addr) (o1 o2 : Obj) (n : Nat) (s' : Shared) : Prop :=
  ∃ h tk m r tr xs k ts, WrI s l ns size num t1 lt o1 o2 n s' h tk m r tr xs k ts

/-- the i-th sign that is written -/
def wch (g : Str) (ts : List Int) (size : Int) (i : Nat) : Str := Txt.item g (cntI ts (size - 1 - i))

theorem item_str0 {prog : Program} {w : World} {A : Around} {E : Value → Shared → Prop} {s : Shared} {value slice : PySem.Expr} {x : Str} {t u : Tok} {i : Int} {Q : Value → Shared → Prop} (h0 : 0 ≤ i) (h1 : i < x.length) (hl : x.length ≤ 1000)
    (h : Q (.str (Txt.item x i) s.toks) { s with toks := s.toks + 1 })
    (hs : subscripted slice false (.str x t) (.int i u) = operate [.str x t, .int i u] (getItem (.str x t) (.int i u)) := by with_unfolding_all rfl)
    (ht : ∀ r, letTemporaryGo value (.str x t) r = pure () := by intro _; with_unfolding_all rfl) :
    wpAny (model prog w) A (subscriptTail value slice (.str x t) (.int i u)) Q E s :=
  item_str (fitsSsize_of (N := 9223372036854775808) (by omega) (by omega) (Int.le_refl _)) (by omega) (by omega) (fun _ => h) hs ht

theorem sum_lens {f : Nat → Str} (h : ∀ i, (f i).length = 1) : ∀ l : List Nat, ((l.map f).map (fun x : Str => x.length)).sum = l.length
  | [] => rfl
  | a :: l => by rw [List.map_cons, List.map_cons, List.sum_cons, sum_lens h l, h a, List.length_cons, Nat.add_comm]

theorem small_int {i : Int} (h0 : 0 ≤ i) (h1 : i ≤ 200) : smallInt i = true := by
  unfold smallInt
  simp only [Bool.and_eq_true, decide_eq_true_eq]
  omega

theorem range_down {size : Int} (h : size = 3 ∨ size = 5 ∨ size = 12) : Builtin.Range.small (size - 1) (-1) (-1) = true ∧ Builtin.Range.rangeSize (size - 1) (-1) (-1) = ((size.toNat : Nat) : Int) ∧ size.toNat ≤ sizeLine ∧ 0 ≤ size ∧ size ≤ 12 := by
  rcases h with rfl | rfl | rfl <;> decide

theorem ints_push {xs : Array Value} {ts : List Int} (h : IntsAre xs.toList ts) (b : Int) (tk : Tok) : IntsAre (xs.push (.int b tk)).toList (ts ++ [b]) := by
  rw [Array.toList_push]
  exact h.append (.cons b tk .nil)
theorem toks_push {xs : Array Value} {T T' : Nat} (h : ∀ (i : Nat) y ty, xs.toList[i]? = some (.int y ty) → 0 < (ty : Nat) ∧ (ty : Nat) < T) (b : Int) (tk : Nat) (h0 : 0 < tk) (h1 : tk < T') (h2 : T ≤ T') :
    ∀ (i : Nat) y ty, (xs.push (.int b tk)).toList[i]? = some (.int y ty) → 0 < (ty : Nat) ∧ (ty : Nat) < T' := by
  intro i y ty e
  rw [Array.toList_push] at e
  rcases Nat.lt_or_ge i xs.toList.length with q | q
  · rw [List.getElem?_append_left q] at e
    exact ⟨(h i y ty e).1, Nat.lt_of_lt_of_le (h i y ty e).2 h2⟩
  · rw [List.getElem?_append_right q] at e
    cases hz : i - xs.toList.length with
    | zero => rw [hz] at e; cases e; exact ⟨h0, h1⟩
    | succ j => rw [hz] at e; simp at e

theorem ldmC {M : Model} {A : Around} {E : Value → Shared → Prop} {s : Shared} {name : Str} {scope : Scope} {L a : Addr} {cd : Value} {h₀ : Heap} {m : Str → Option Value} {x : Str} {pos : Pos} {v : Value} {Q : Value → Shared → Prop}
    (F : Fr h₀ L s.heap m) (hv : m x = some v) (h : Q v s)
    (hk : scope.kind = .function) (hl : (envOfC name scope L a cd).kindOf x = some .local)
    (hd : (x == ("__debug__" : Str)) = false) :
    wpAny M A (eval (.Name x pos) (envOfC name scope L a cd)) Q E s := wpAny_Name (wpAny_loadName_local hk hl F.ns hv h) hd

section
local macro_rules | `(tactic| walk_at "eval Name") => `(tactic| (refine ldmC (by assumption) (by assumption) ?_ (by rfl) (by rfl) (by decide)))
local macro_rules | `(tactic| walk_at "eval Name") => `(tactic| (first
  | refine ldCompL (by assumption) (by assumption) ?_ rfl rfl (by decide)
  | refine ldCompC rfl (by assumption) ?_ rfl rfl (by decide)
  | refine ldCompG (by assumption) (by k_is) ?_ rfl rfl rfl (by decide)))
local macro_rules | `(tactic| walk_at "subscriptTail Name Call str int") => `(tactic| refine to_halt ?_)
local macro_rules | `(tactic| walk_at "call builtin:list.append") => `(tactic| refine to_halt ?_)
local macro_rules | `(tactic| walk_at "call builtin:str.join") => `(tactic| refine to_halt ?_)
local macro_rules | `(tactic| walk_at "pyIter ref") => `(tactic| refine to_halt ?_)
local macro_rules | `(tactic| walk_at "call ref") => `(tactic| refine to_halt ?_)
local macro_rules | `(tactic| walk_at "eval ListComp") => `(tactic| refine to_halt ?_)
local macro_rules | `(tactic| walk_at "execs nil") => `(tactic| refine wpAny_execs_nil ?_)
local macro_rules | `(tactic| walk_at "execs cons") => `(tactic| refine wpAny_execs_cons ?_)
local macro_rules | `(tactic| walk_at "exec While Compare cons nil") => `(tactic| refine to_halt ?_)

theorem law_written (w : World) (mean : ExcName → Option Value) (mg mb : Str → Option Value) (A : Around) (s : Shared) (Q E : Value → Shared → Prop)
   (l : Addr) (vs : List Value) (ns : List Int) (g : Str) (num size : Int) (t t1 t2 : Nat)
   (P : PC w mean mg mb s.heap)
   (hd : A.depth + 2 < recursionLimit) (hh : A.handled = none)
   (hs0 : 0 < s.toks) (hl : s.heap.IsList l vs.toArray) (hi : IntsAre vs ns) (hn : ns.length < 2 ^ 20) (h0 : 0 ≤ size) (h1 : size ≤ ns.length) (hnum : 0 ≤ num) (hnum1 : num ≤ 1000000) (hgood : WrGood ns size num) (hsize : size = 3 ∨ size = 5 ∨ size = 12) (hcnt : ∀ i : Nat, (i : Int) < size → cntI (wrF ns size num.toNat num) (size - 1 - i) < g.length) (hgl : g.length ≤ 1000)
   (hret : ∀ tk h' tk', (∀ b o, s.heap.get? b = some o → h'.get? b = some o) → Q (.str (Txt.join (Str.ofString "") ((List.range size.toNat).map (wch g (wrF ns size num.toNat num) size))) tk) { s with heap := h', toks := tk' }) :
   wpAny (model PySem.Challenge.rw_sw0037_01.row.prog w) A (call (.ref 88) [.int num t, .ref l, .int size t1, .str g t2]) Q E s := by
  have P0 := P
  obtain ⟨X, T⟩ := P
  revert X; k_fill; intro X
  refine wpAny_call ?_
  k_dflt (refine' enter_cells (binds := [(Str.ofString "number", .int num t), (Str.ofString "places", .ref l), (Str.ofString "size", .int size t1), (Str.ofString "signs", .str g t2)]) X T ?k6 ?k7 ?k8 ?k9 ?kB ?kC ?_ ?c2 ?c3 ?c4; (case k6 => k_is); (case k7 => k_is); (case k8 => exact Nat.lt_of_succ_lt (Nat.lt_of_succ_lt hd)); (case k9 => exact binds_peek X (fun _ => rfl)); (case kB => exact rfl); (case kC => decide); (case c2 => exact rfl); (case c3 => exact rfl); (case c4 => exact rfl); k_whole)
  intro h₁ tk cells hle F N Y
  obtain ⟨o1, o2, he, d1, d2⟩ := CellsAre.two Y
  subst he
  (try dsimp only)
  k_steps
  unfold Halt
  rename Fr _ _ _ _ => F2
  rename News _ _ _ _ => N2
  rename_i lt' _ _ o1' _
  rename _ = Data.cell (some (Value.ref _)) => d3
  have d2' : o2.data = .cell (some (.str g t2)) := d2
  clear d1 d2
  refine my_while (WrInv s l ns size num t1 _ _ _) ?_ num.toNat ⟨_, _, _, num, _, #[], 0, [], rfl, by dsimp only; omega, F2, rfl, rfl, rfl, N2, .nil, by simp, hnum, by simp, Nat.le_refl _, rfl⟩
  rintro n s' ⟨h, tk', m, r, tr, xs, k, ts, rfl, le', F3, mp, ms, mr, N3, ia, tks, r0, r1, rn, eq⟩
  clear F2 N2 Y
  have hl3 : h.IsList l vs.toArray := hl.at fun o e => F3.keep l o e
  have hts := ia.length
  k_steps
  · unfold Halt
    refine wpAny_with_toks (Nat.le_refl _) (bisect_right_ints w mean mg mb _ _ _ _ l vs ns r size _ _ _ (P0.keeps F3.keep) hd hl3 hi hn h0 h1 ?_)
    intro tk1 h2 tk2 hk hle2
    have F4 := F3.keeps hk
    have N4 := N3.grown hk
    have hl4 : h2.IsList l vs.toArray := hl.at fun o e => F4.keep l o e
    have g1 := (hgood r (by assumption) (by omega)).1
    have g2 := (hgood r (by assumption) (by omega)).2.1
    have g3 := (hgood r (by assumption) (by omega)).2.2.1
    have g4 := (hgood r (by assumption) (by omega)).2.2.2
    have ew : ∀ n, wrF ns size (n + 1) r = (bisR ns r size.toNat 0 size - 1) :: wrF ns size n (r - ns.getD (bisR ns r size.toNat 0 size - 1).toNat 0) := fun n => by rw [wrF, if_pos (by assumption)]
    generalize bisR ns r size.toNat 0 size = b at *
    clear F3 N3 hl3 hk
    k_steps
    unfold Halt
    refine sub_ints w mean mg mb _ _ _ _ b 1 _ _ (P0.keeps F4.keep) hd ?_
    intro tk3 h3 tk4 c1 c2 hk3
    have F5 := F4.keeps hk3
    have N5 := N4.grown hk3
    have hl5 : h3.IsList l vs.toArray := hl.at fun o e => F5.keep l o e
    clear F4 N4 hl4 hk3
    k_steps
    unfold Halt
    rename Fr _ _ _ _ => Fa
    rename News _ _ _ _ => Na
    have hxs : xs.size ≤ sizeLine := by
      have q := Array.length_toList (xs := xs)
      rw [sizeLine_eq]
      omega
    refine append_K Fa Na (.head ?hrA) (fun h9 Fb Nb => ?_) hxs
    case hrA =>
      intro p hp
      simp only [List.mem_cons, List.not_mem_nil, or_false] at hp
      rcases hp with rfl | rfl
      all_goals (intro e; have e2 : @Eq Nat _ _ := e; dsimp only at e2; omega)
    clear Fa Na hxs
    k_steps
    unfold Halt
    rename Fr _ _ _ _ => F6
    rename News _ _ _ _ => N6
    refine sub_ints w mean mg mb _ _ _ _ r _ _ _ (P0.keeps F6.keep) hd ?_
    intro tk5 h5 tk6 c3 c4 hk5
    have F7 := F6.keeps hk5
    have N7 := N6.grown hk5
    clear F6 N6 hk5
    k_steps
    rename Fr _ _ _ _ => F8
    rename News _ _ _ _ => N8
    dsimp only at hle2 c1 c3
    obtain ⟨n', rfl⟩ : ∃ n', n = n' + 1 := ⟨n - 1, by omega⟩
    refine ⟨n', Nat.lt_succ_self _, _, _, _, r - ns.getD (b - 1).toNat 0, _, _, _, ts ++ [b - 1], ⟨rfl, ?_, F8, mp, ms, rfl, N8, ints_push ia _ _, toks_push tks _ _ ?_ ?_ ?_, by omega, ?_, by omega, ?_⟩⟩
    · dsimp only; omega
    · omega
    · dsimp only; omega
    · dsimp only; omega
    · rw [List.length_append, List.length_singleton]; omega
    · rw [← eq, ew n', List.append_assoc]; rfl
  · unfold Halt
    have er : wrF ns size n r = [] := by
      cases n with
      | zero => rfl
      | succ n => rw [wrF, if_neg (by assumption)]
    rw [er, List.append_nil] at eq
    subst eq
    generalize hT : wrF ns size num.toNat num = T at *
    clear hT er mr mp hgood
    obtain ⟨q1, q2, q3, q4, q5⟩ := range_down hsize
    refine ListComp_T (cl := [(Str.ofString "taken", s.heap.objs.size + 1 + 1), (Str.ofString "signs", s.heap.objs.size + 1)]) (by with_unfolding_all rfl) (by decide) rfl (by decide) rfl ?_
    refine wpAny_with_toks (n := tk') (by dsimp only; omega) ?_
    k_steps
    unfold Halt
    rename Fr _ _ _ _ => F4
    rename News _ _ _ _ => N4
    rename IsRange _ _ _ _ _ _ _ _ => hr4
    refine csrc_range size.toNat hh ?_ q1 q2 fun it s₂ src => ?_
    · exact ⟨_, _, _, hr4⟩
    refine ⟨size.toNat, _, fun _ => true, fun i y => ∃ tk, y = .str (wch g T size i) tk, src, q3, ⟨fun _ _ _ _ _ _ _ _ _ _ _ _ _ _ _ _ => no_tests, ?_⟩, ?_⟩
    · rintro C i v t0 t3 s₃ m₃ E' hC hin _ ht0 ⟨rfl, rfl⟩ ht3 hn3 hm3 hk3
      change wpAny _ _ _ (fun y s₄ => EltEnd (fun y => ∃ tk, y = .str (wch g T size i) tk) s₃ y s₄) _ _
      have hcS : s₃.heap.IsCell (s.heap.objs.size + 1) (some (.str g t2)) := ⟨o2, hk3 _ _ (N4 _ (.tail _ (.tail _ (.head _)))).1, d2'⟩
      have hcT : s₃.heap.IsCell (s.heap.objs.size + 1 + 1) (some (.ref _)) := ⟨_, hk3 _ _ (N4 _ (.tail _ (.head _))).1, d3⟩
      have hlT : s₃.heap.IsList _ xs := ⟨_, hk3 _ _ (N4 _ (.head _)).1, rfl, _, rfl⟩
      have P3 : PC w mean mg mb s₃.heap := P0.keeps (fun b o e => hk3 b o (F4.keep b o e))
      have X3 := P3.X
      clear hk3 hC
      k_steps
      unfold Halt
      have e0 : (0 : Int) ≤ size - 1 + (i : Int) * -1 := by omega
      have e1 : size - 1 + (i : Int) * -1 = size - 1 - (i : Int) := by omega
      have hc := hcnt i (by omega)
      rw [← e1] at hc
      rename tk' ≤ _ => hle9
      have hle' : tk' ≤ t0 := Nat.le_trans hle9 ht0
      have ht1 : t0 ≠ 0 := Nat.ne_of_gt (Nat.lt_of_lt_of_le hs0 (Nat.le_trans le' hle'))
      have hTl : T.length < 2 ^ 20 := by clear hcnt tks; omega
      refine countOf_ints w mean mg mb _ _ _ _ _ xs.toList T (size - 1 + (i : Int) * -1) t0 P3 hd hh (by simpa using hlT) ia hTl ht1 (small_int e0 (by omega)) (fun j y ty q => ⟨Nat.ne_of_gt (tks j y ty q).1, Nat.ne_of_lt (Nat.lt_of_lt_of_le (tks j y ty q).2 hle')⟩) ?_
      intro tk7 h7 tk8 hk7
      k_steps
      unfold Halt
      refine item_str0 (by unfold cntI; omega) hc hgl ?_
      exact EltEnd.intro ⟨_, by rw [wch, ← e1]⟩ hk7
    · intro D h7 tk7 ys k7 hD hget hP htk hk
      rw [filter_true] at hP
      have hS := paired_strs hP
      have F7 := F4.keeps hk
      have hLD : s.heap.objs.size < D := Nat.lt_of_lt_of_le F4.ns.lt hD
      have N7 : News s.heap s.heap.objs.size h7 [(D, listOf ys k7)] := fun p hp => by
        rw [List.mem_singleton.mp hp]
        exact ⟨hget, Nat.ne_of_gt hLD, Heap.get?_none_of_le (Nat.le_of_lt hLD)⟩
      have hI7 := News.isList N7 (List.Mem.head _)
      clear hk F4 N4 hr4
      k_steps
      unfold Halt
      refine join_list (D := D) (items := ys) ?_ hS ?_ (fun t' k => ?_)
      · exact hI7
      rotate_left
      · exact hret _ _ _ F7.keep
      have e1 := sum_lens (f := wch g T size) (fun i => len_item _ _) (List.range size.toNat)
      rw [List.length_range] at e1
      have e2 : (Str.ofString "").length = 0 := by decide
      rw [e1, e2]
      omega
end
end Mine

-- part C10
open PySem PySem.W PyProof.Rows PySem.Calls
set_option Elab.async false
set_option linter.unusedVariables false
namespace Mine
set_option maxRecDepth 100000
set_option maxHeartbeats 16000000

/-- the heap without one object -/
def hole (h : Heap) (l : Addr) : Heap := h.update l (fun o => { o with data := .freed })
theorem hole_self (h : Heap) (l : Addr) : (hole h l).get? l = none := by
  cases e : (hole h l).get? l with
  | none => rfl
  | some o =>
    have q := Heap.get?_some_iff.mp e
    have q1 : (h.update l (fun o => { o with data := .freed })).objs[l]? = some o := q.1
    cases h
    simp only [Heap.update, Array.getElem?_modify, if_true] at q1
    rename_i os _
    cases z : os[l]? with
    | none => simp [z] at q1
    | some y =>
      simp [z] at q1
      subst q1
      exact absurd q.2 (by simp [Obj.isFreed])
theorem hole_other (h : Heap) {l b : Addr} (e : b ≠ l) : (hole h l).get? b = h.get? b := Heap.get?_update_other h _ (Ne.symm e)
theorem hole_size (h : Heap) (l : Addr) : (hole h l).objs.size = h.objs.size := Heap.size_after_update ..
theorem hole_up {h : Heap} {l b : Addr} {o : Obj} (e : (hole h l).get? b = some o) : b ≠ l ∧ h.get? b = some o := by
  have q : b ≠ l := by
    rintro rfl
    rw [hole_self] at e
    cases e
  exact ⟨q, (hole_other h q) ▸ e⟩
theorem hole_keep {h0 h : Heap} {l : Addr} (k : ∀ b o, h0.get? b = some o → h.get? b = some o) (hl : h0.get? l = none) : ∀ b o, h0.get? b = some o → (hole h l).get? b = some o := by
  intro b o e
  rw [hole_other h (by rintro rfl; rw [hl] at e; cases e)]
  exact k b o e
theorem Fr.hole {h h' : Heap} {L l : Addr} {m : Str → Option Value} (F : Fr h L h' m) : Fr (Mine.hole h l) L h' m :=
  ⟨F.ns, fun b o e => F.keep b o (hole_up e).2, by rw [hole_size]; exact F.above⟩

/-- a str put in before what is not smaller -/
def insL (xs : List Str) (x : Str) : List Str := xs.take (min (bisL xs x xs.length 0 xs.length).toNat xs.length) ++ x :: xs.drop (min (bisL xs x xs.length 0 xs.length).toNat xs.length)

theorem strs_take {vs : List Value} {xs : List Str} (h : StrsAre vs xs) : ∀ k, StrsAre (vs.take k) (xs.take k) ∧ StrsAre (vs.drop k) (xs.drop k) := by
  induction h with
  | nil => intro k; simp; exact .nil
  | cons a t r ih =>
    intro k
    cases k with
    | zero => exact ⟨.nil, .cons a t r⟩
    | succ k => exact ⟨.cons a t (ih k).1, (ih k).2⟩
theorem bisL_bounds (xs : List Str) (x : Str) : ∀ n lo hi, 0 ≤ lo → lo ≤ hi → 0 ≤ bisL xs x n lo hi ∧ bisL xs x n lo hi ≤ hi
  | 0, lo, hi, h0, h1 => ⟨h0, h1⟩
  | n + 1, lo, hi, h0, h1 => by
    have e := Int.fdiv_eq_ediv_of_nonneg (lo + hi) (b := 2) (by decide)
    unfold bisL
    split
    · split
      · have := bisL_bounds xs x n (Int.fdiv (lo + hi) 2 + 1) hi (by omega) (by omega)
        exact this
      · have := bisL_bounds xs x n lo (Int.fdiv (lo + hi) 2) (by omega) (by omega)
        exact ⟨this.1, by omega⟩
    · exact ⟨h0, h1⟩

section
local macro_rules | `(tactic| walk_at "call ref") => `(tactic| refine to_halt ?_)
local macro_rules | `(tactic| walk_at "call builtin:list.insert") => `(tactic| refine to_halt ?_)
local macro_rules | `(tactic| walk_at "eval Name") => `(tactic| (refine ldm (by assumption) (by assumption) ?_ (by rfl) (by rfl) (by decide)))
local macro_rules | `(tactic| walk_at "execs nil") => `(tactic| refine wpAny_execs_nil ?_)
local macro_rules | `(tactic| walk_at "execs cons") => `(tactic| refine wpAny_execs_cons ?_)

theorem insort_left (w : World) (mean : ExcName → Option Value) (mg mb : Str → Option Value) (A : Around) (s : Shared) (Q E : Value → Shared → Prop)
   (h0 : Heap) (l : Addr) (its : Array Value) (n : Nat) (xs : List Str) (x : Str) (t : Tok)
   (P : PC w mean mg mb h0) (k0 : ∀ b o, h0.get? b = some o → s.heap.get? b = some o) (hl0 : h0.get? l = none)
   (hd : A.depth + 2 < recursionLimit)
   (hl : s.heap.get? l = some (listOf its n)) (hi : StrsAre its.toList xs) (hn : xs.length < 100)
   (hret : ∀ h' tk' its' n', (∀ b o, b ≠ l → s.heap.get? b = some o → h'.get? b = some o) → h'.get? l = some (listOf its' n') → StrsAre its'.toList (insL xs x) → Q .none { s with heap := h', toks := tk' }) :
   wpAny (model PySem.Challenge.rw_sw0037_01.row.prog w) A (call (.ref 32) [.ref l, .str x t]) Q E s := by
  have Ps := P.keeps k0
  have Ph := P.keeps (hole_keep k0 hl0)
  obtain ⟨X, T⟩ := Ps
  revert X; k_fill; intro X
  have hle := hi.length
  have hb := bisL_bounds xs x xs.length 0 xs.length (by omega) (by omega)
  refine wpAny_call ?_
  k_dflt (refine' enter_pure (binds := [(Str.ofString "a", .ref l), (Str.ofString "x", .str x t), (Str.ofString "lo", .int 0 203), (Str.ofString "hi", .none), (Str.ofString "key", .none)]) X T ?k6 ?k7 ?k8 ?k9 ?kB ?_ ?c2 ?c3 ?c4 ?c5; (case k6 => k_is); (case k7 => k_is); (case k8 => exact Nat.lt_of_succ_lt (Nat.lt_of_succ_lt hd)); (case k9 => exact binds_peek X (fun _ => rfl)); (case c5 => decide); (case kB => exact locs rfl); (case c2 => exact rfl); (case c3 => exact rfl); (case c4 => exact rfl); k_whole)
  intro h₁ F0
  have N : News (hole s.heap l) s.heap.objs.size h₁ [(l, listOf its n)] := by
    intro p hp
    cases hp with
    | head => exact ⟨F0.keep _ _ hl, Nat.ne_of_lt (Heap.lt_size hl), hole_self _ _⟩
    | tail _ q => cases q
  have F := Fr.hole (l := l) F0
  clear F0 X T
  have Ph' := Ph
  obtain ⟨X, T⟩ := Ph'
  (try dsimp only)
  k_steps
  unfold Halt
  refine bisect_left_four w mean mg mb _ _ _ _ l its.toList xs x _ _ (Ph.keeps F.keep) (by exact hd) ?_ hi (by omega) ?_
  · exact ⟨_, (N _ (.head _)).1, by rw [Array.toArray_toList]; exact ⟨rfl, _, rfl⟩⟩
  intro tk' h2 tk2 hk
  have F2 := F.keeps hk
  have N2 := N.grown hk
  clear F N hk
  have X2 : Frag.In (Mine.hd.heap_39 w.params) h2 := X.keeps F2.keep
  k_steps
  unfold Halt
  rename Fr _ _ _ _ => F3
  rename News _ _ _ _ => N3
  have st : ∀ k, StrsAre (its.toList.take k ++ .str x t :: its.toList.drop k) (xs.take k ++ x :: xs.drop k) := fun k => StrsAre.append' (strs_take hi k).1 (.cons x t (strs_take hi k).2)
  refine kl_insert (news' := [(l, listOf (kl_ins its.toList (bisL xs x xs.length 0 xs.length) (.str x t)).toArray (n + 1))]) F3 N3 ?_ rfl (.head (fun _ q => nomatch q)) (by rw [sizeLine_eq]; omega) ?_
  · unfold Builtin.List.listFitsIndex
    simp only [Bool.and_eq_true, decide_eq_true_eq]
    omega
  intro h4 F4 N4
  k_steps
  refine hret _ _ _ _ (fun b o hb e => F4.keep b o ?_) (N4 _ (.head _)).1 ?_
  · rw [hole_other _ hb]; exact e
  · rw [List.toList_toArray]
    unfold kl_ins insL
    rw [if_neg (by omega), hle]
    exact st _
end
end Mine

-- part LoopsV
open PySem PySem.W PyProof.Rows PySem.Calls
set_option Elab.async false
set_option linter.unusedVariables false
namespace Mine
set_option maxRecDepth 100000
set_option maxHeartbeats 16000000

/-- a for's turn is over; the ledger may have changed -/
def FEndV (h₀ : Heap) (L : Addr) (J : (Str → Option Value) → List (Addr × Obj) → Prop) (I : Addr) (o : Obj) (s₁ s₂ : Shared) : Prop :=
  ∃ h' tk m' nw, s₂ = { s₁ with heap := h', toks := tk } ∧ Fr h₀ L h' m' ∧ News h₀ L h' ((I, o) :: nw) ∧ (∀ p ∈ nw, p.1 ≠ I) ∧ J m' nw
def FPostV (h₀ : Heap) (L : Addr) (J : (Str → Option Value) → List (Addr × Obj) → Prop) (I : Addr) (o : Obj) (s₁ : Shared) (Q : Flow → Shared → Prop) (f : Flow) (s₂ : Shared) : Prop :=
  match f with
  | .ret v => Q (.ret v) s₂
  | .brk => Q .next s₂
  | _ => FEndV h₀ L J I o s₁ s₂
theorem FPostV.nextI {h₀ : Heap} {L : Addr} {J : (Str → Option Value) → List (Addr × Obj) → Prop} {I : Addr} {o : Obj} {nw : List (Addr × Obj)} {s₁ : Shared} {Q : Flow → Shared → Prop} {h' : Heap} {tk : Nat} {m' : Str → Option Value}
    (F : Fr h₀ L h' m') (N : News h₀ L h' ((I, o) :: nw)) (hI : ∀ p ∈ nw, p.1 ≠ I) (hj : J m' nw) : FPostV h₀ L J I o s₁ Q .next { s₁ with heap := h', toks := tk } := ⟨h', tk, m', nw, rfl, F, N, hI, hj⟩

def LoopV (prog : Program) (w : World) (A : Around) (h₀ : Heap) (env : Env) (x : Str) (body : List Stmt) (Q : Flow → Shared → Prop) (it : Value) (s : Shared) : Prop :=
  ∃ (I : Addr) (n : Nat) (P : Nat → Value → Nat → Nat → Prop) (St : Nat → Heap → Prop) (m₀ : Str → Option Value) (news : List (Addr × Obj)) (J : Nat → (Str → Option Value) → List (Addr × Obj) → Prop),
    it = .ref I ∧ WalksT prog w A I [I] n P St ∧ env.locals ≠ I ∧ h₀.get? I = none ∧ (∀ p ∈ news, p.1 ≠ I) ∧
    St 0 s.heap ∧ Fr h₀ env.locals s.heap m₀ ∧ News h₀ env.locals s.heap news ∧ J 0 m₀ news ∧
    (∀ i v m₁ nw h t0 t1 o, i < n → s.toks ≤ t0 → P i v t0 t1 → J i m₁ nw → (∀ p ∈ nw, p.1 ≠ I) → Fr h₀ env.locals h (fun y => if y = x then some v else m₁ y) → News h₀ env.locals h ((I, o) :: nw) →
      wpAny (model prog w) A (execs body env) (FPostV h₀ env.locals (J (i + 1)) I o { s with heap := h, toks := t1 + 1 } Q) (fun _ _ => False) { s with heap := h, toks := t1 + 1 }) ∧
    (∀ m₁ nw h tk, s.toks ≤ tk → J n m₁ nw → Fr h₀ env.locals h m₁ → News h₀ env.locals h nw → Q .next { s with heap := h, toks := tk })

section
variable {prog : Program} {w : World} {A : Around} {E : Value → Shared → Prop} {s : Shared} {env : Env} {h₀ : Heap} {x : Str} {body : List Stmt} {Q : Flow → Shared → Prop}

theorem for_V {iter : PySem.Expr} {px pos : Pos} (h₀ : Heap) (hx : env.kindOf x = some .local)
    (hp : (env.scope.kind == .class || (env.scope.kind == .module && env.locals != env.globals)) = false)
    (h : wpAny (model prog w) A (eval iter env) (fun xv s₁ => wpAny (model prog w) A (pyIter xv) (fun it s₂ => LoopV prog w A h₀ env x body Q it s₂) E s₁) E s)
    (hs : ∀ x, foldedSetIterable iter env x = pure x := by intro _; rfl) :
    wpAny (model prog w) A (exec (.For (.Name x px) iter body [] pos) env) Q E s := by
  refine wpAny_For (wpAny_mono h (fun xv s₁ h₁ => wpAny_mono h₁ (fun it s₂ h₂ => ?_) fun _ _ e => e) fun _ _ e => e) hs
  obtain ⟨I, n, P, St, m₀, news, J, rfl, W, hLI, hI, hnI, hst, F, N, hj, turn, done⟩ := h₂
  clear h
  refine codeAny_forLoop
    (fun k s' => ∃ h' tk m' nw i, s' = { s₂ with heap := h', toks := tk } ∧ s₂.toks ≤ tk ∧ St i h' ∧ Fr h₀ env.locals h' m' ∧ News h₀ env.locals h' nw ∧ (∀ p ∈ nw, p.1 ≠ I) ∧ J i m' nw ∧ i ≤ n ∧ k = n + 1 - i) ?_ (n + 1)
    ⟨s₂.heap, s₂.toks, m₀, news, 0, rfl, Nat.le_refl _, hst, F, N, hnI, hj, Nat.zero_le _, rfl⟩
  rintro k s' ⟨h', tk, m', nw, i, rfl, htk, hst', F', N', hnI', hJ, hi, rfl⟩
  have next : ∀ h₁ : Heap, (∀ b o, b ≠ I → h'.get? b = some o → h₁.get? b = some o) → Fr h₀ env.locals h₁ m' ∧ News h₀ env.locals h₁ nw := fun h₁ hk₁ =>
    ⟨⟨F'.ns.at' fun o e => hk₁ _ o hLI e, fun b o e => hk₁ b o (fun q => by rw [q, hI] at e; cases e) (F'.keep b o e), F'.above⟩, fun p hp => ⟨hk₁ _ _ (hnI' p hp) (N' p hp).1, (N' p hp).2⟩⟩
  by_cases hlt : i < n
  · refine W.item i _ _ _ hlt hst' fun v h₁ tk₁ hP hst₁ hk₁ => ?_
    have hle := W.le _ _ _ _ hP
    obtain ⟨F₁, N₁⟩ := next h₁ hk₁
    refine wpAny_assign_Name (wpAny_storeName_local hx F₁.ns (fun h₂ hn₂ hs₂ => ?_) hp)
    have F₂ := F₁.set hn₂ hs₂
    have N₂ := N₁.set hs₂
    have hst₂ : St (i + 1) h₂ := W.frame _ _ _ hst₁ fun b hb o e => (hs₂.2 b fun q => hLI (q ▸ List.mem_singleton.mp hb)).trans e
    obtain ⟨o, ho⟩ := W.ex _ _ hst₂
    have N₃ : News h₀ env.locals h₂ ((I, o) :: nw) := fun p hp => by
      rcases List.mem_cons.mp hp with rfl | hp
      · exact ⟨ho, Ne.symm hLI, hI⟩
      · exact N₂ p hp
    have key : ∀ (_ : Flow) (s₃ : Shared), (s₂.toks ≤ s₃.toks ∧ FEndV h₀ env.locals (J (i + 1)) I o { s₂ with heap := h₂, toks := tk₁ + 1 } s₃) → ∃ k, k < n + 1 - i ∧ ∃ h' tk m' nw j, s₃ = { s₂ with heap := h', toks := tk } ∧ s₂.toks ≤ tk ∧ St j h' ∧ Fr h₀ env.locals h' m' ∧ News h₀ env.locals h' nw ∧ (∀ p ∈ nw, p.1 ≠ I) ∧ J j m' nw ∧ j ≤ n ∧ k = n + 1 - j := by
      rintro (f : Flow) s₃ ⟨ht, h₄, tk₄, m₄, nw₄, rfl, F₄, N₄, hI₄, hJ₄⟩
      refine ⟨n + 1 - (i + 1), by omega, h₄, tk₄, m₄, nw₄, i + 1, rfl, ht, ?_, F₄, fun p hp => N₄ p (List.mem_cons_of_mem _ hp), hI₄, hJ₄, hlt, rfl⟩
      refine W.frame _ _ _ hst₂ fun b hb ob e => ?_
      rw [List.mem_singleton.mp hb] at e ⊢
      rw [ho] at e
      exact (Option.some.inj e) ▸ (N₄ _ (List.mem_cons_self ..)).1
    refine wpAny_mono (wpAny_toks_of (n := s₂.toks) (by show s₂.toks ≤ tk₁ + 1; have : tk ≤ tk₁ := hle; omega) (turn i v m' nw h₂ tk tk₁ o hlt htk hP hJ hnI' F₂ N₃)) (fun f s₃ h₃ => ?_) fun _ _ e => e.2.elim
    obtain ⟨ht, h₃⟩ := h₃
    cases f with
    | ret v => exact h₃
    | brk => exact h₃
    | cont => exact key .next _ ⟨ht, h₃⟩
    | next => exact key .next _ ⟨ht, h₃⟩
  · have hin : i = n := by omega
    subst hin
    refine W.done _ _ _ hst' fun h₁ tk₁ hle hk₁ => wpAny_execs_nil ?_
    obtain ⟨F₁, N₁⟩ := next h₁ hk₁
    exact done m' nw h₁ tk₁ (Nat.le_trans htk hle) hJ F₁ N₁

/-- for x in range(a, b, c) of n turns -/
theorem iter_rangeV {r : Addr} {a₀ b₀ c₀ : Int} {t₀ u₀ v₀ : Tok} (n : Nat) {m₀ : Str → Option Value} {news : List (Addr × Obj)} (J : Nat → (Str → Option Value) → List (Addr × Obj) → Prop)
    (hh : A.handled = none) (hr : IsRange s.heap r a₀ b₀ c₀ t₀ u₀ v₀) (hsmall : Builtin.Range.small a₀ b₀ c₀ = true) (hn : Builtin.Range.rangeSize a₀ b₀ c₀ = ((n : Nat) : Int))
    (F : Fr h₀ env.locals s.heap m₀) (N : News h₀ env.locals s.heap news) (hj : J 0 m₀ news)
    (turn : ∀ I i t m₁ nw h o, s.heap.objs.size ≤ I → (∀ p ∈ nw, p.1 ≠ I) → s.toks ≤ t → i < n → J i m₁ nw → Fr h₀ env.locals h (fun y => if y = x then some (.int (a₀ + (i : Int) * c₀) t) else m₁ y) → News h₀ env.locals h ((I, o) :: nw) →
      wpAny (model prog w) A (execs body env) (FPostV h₀ env.locals (J (i + 1)) I o { s with heap := h, toks := t + 2 } Q) (fun _ _ => False) { s with heap := h, toks := t + 2 })
    (done : ∀ m₁ nw h tk, s.toks ≤ tk → J n m₁ nw → Fr h₀ env.locals h m₁ → News h₀ env.locals h nw → Q .next { s with heap := h, toks := tk }) :
    wpAny (model prog w) A (pyIter (.ref r)) (fun it s₂ => LoopV prog w A h₀ env x body Q it s₂) E s := by
  have hnew := next_is_new F
  refine wpAny_pyIter_range hr hsmall ?_
  refine ⟨_, _, _, _, m₀, news, J, rfl, walksT_range (prog := prog) (w := w) hh s.heap.objs.size a₀ c₀ n, ?_, hnew, (fun p hp => Nat.ne_of_lt (Heap.lt_size (N p hp).1)),
    (by show IsRangeIter _ _ _ _ _; rw [hn]; simpa using Heap.get?_push_size _ rfl), (F.push _), (fun p hp => ⟨Heap.get?_push_of_some _ (N p hp).1, (N p hp).2⟩), hj, ?_, ?_⟩
  · exact Nat.ne_of_lt F.ns.lt
  · rintro i v m₁ nw h t0 t1 o hi ht ⟨rfl, rfl⟩ hJ hI F₁ N₁
    exact turn _ i t0 m₁ nw h o (Nat.le_refl _) hI ht hi hJ F₁ N₁
  · intro m₁ nw h tk ht hJ F₁ N₁
    exact done m₁ nw h tk ht hJ F₁ N₁

/-- for x in (a text) -/
theorem iter_strV {y : Str} {t₀ : Tok} {m₀ : Str → Option Value} {news : List (Addr × Obj)} (J : Nat → (Str → Option Value) → List (Addr × Obj) → Prop)
    (hh : A.handled = none) (F : Fr h₀ env.locals s.heap m₀) (N : News h₀ env.locals s.heap news) (hj : J 0 m₀ news)
    (turn : ∀ I i c t m₁ nw h o, s.heap.objs.size ≤ I → (∀ p ∈ nw, p.1 ≠ I) → s.toks ≤ t → y.cps[i]? = some c → J i m₁ nw → Fr h₀ env.locals h (fun z => if z = x then some (.str ⟨#[c]⟩ t) else m₁ z) → News h₀ env.locals h ((I, o) :: nw) →
      wpAny (model prog w) A (execs body env) (FPostV h₀ env.locals (J (i + 1)) I o { s with heap := h, toks := t + 2 } Q) (fun _ _ => False) { s with heap := h, toks := t + 2 })
    (done : ∀ m₁ nw h tk, s.toks ≤ tk → J y.cps.size m₁ nw → Fr h₀ env.locals h m₁ → News h₀ env.locals h nw → Q .next { s with heap := h, toks := tk }) :
    wpAny (model prog w) A (pyIter (.str y t₀)) (fun it s₂ => LoopV prog w A h₀ env x body Q it s₂) E s := by
  have hnew := next_is_new F
  have key : ∀ (ob : Obj) (St : Nat → Heap → Prop), WalksT prog w A s.heap.objs.size [s.heap.objs.size] y.cps.size (SignT y) St → St 0 (s.heap.push ob) →
      LoopV prog w A h₀ env x body Q (.ref s.heap.objs.size) { s with heap := s.heap.push ob } := by
    intro ob St W hst
    refine ⟨_, _, _, _, m₀, news, J, rfl, W, Nat.ne_of_lt F.ns.lt, hnew, (fun p hp => Nat.ne_of_lt (Heap.lt_size (N p hp).1)), hst, (F.push _), (fun p hp => ⟨Heap.get?_push_of_some _ (N p hp).1, (N p hp).2⟩), hj, ?_, ?_⟩
    · rintro i v m₁ nw h t0 t1 o hi ht ⟨c, hc, rfl, rfl⟩ hJ hI F₁ N₁
      exact turn _ i c t0 m₁ nw h o (Nat.le_refl _) hI ht hc hJ F₁ N₁
    · intro m₁ nw h tk ht hJ F₁ N₁
      exact done m₁ nw h tk ht hJ F₁ N₁
  cases ha : y.cps.all (· < 128)
  · exact wpAny_pyIter_wide ha (key _ _ (walksT_wide hh _ y t₀) ⟨_, Heap.get?_push_size _ rfl, rfl, rfl⟩)
  · exact wpAny_pyIter_ascii ha (key _ _ (walksT_ascii hh _ y t₀) ⟨_, Heap.get?_push_size _ rfl, rfl, rfl⟩)
end
end Mine

-- part SegBase
open PySem PySem.W PyProof.Rows PySem.Calls
set_option Elab.async false
set_option linter.unusedVariables false
namespace Mine
set_option maxRecDepth 100000
set_option maxHeartbeats 16000000

theorem gt9 {L : Addr} {D : Nat} (h : LT.lt (α := Nat) (L + 1 + 1 + 1 + 1 + 1 + 1 + 1 + 1 + 1) D) : LT.lt (α := Nat) (L + 1 + 1 + 1 + 1 + 1 + 1 + 1 + 1 + 1) D ∧ LT.lt (α := Nat) (L + 1 + 1 + 1 + 1 + 1 + 1 + 1 + 1) D ∧ LT.lt (α := Nat) (L + 1 + 1 + 1 + 1 + 1 + 1 + 1) D ∧ LT.lt (α := Nat) (L + 1 + 1 + 1 + 1 + 1 + 1) D ∧ LT.lt (α := Nat) (L + 1 + 1 + 1 + 1 + 1) D ∧ LT.lt (α := Nat) (L + 1 + 1 + 1 + 1) D ∧ LT.lt (α := Nat) (L + 1 + 1 + 1) D ∧ LT.lt (α := Nat) (L + 1 + 1) D ∧ LT.lt (α := Nat) (L + 1) D :=
  have h8 := Nat.lt_of_succ_lt h
  have h7 := Nat.lt_of_succ_lt h8
  have h6 := Nat.lt_of_succ_lt h7
  have h5 := Nat.lt_of_succ_lt h6
  have h4 := Nat.lt_of_succ_lt h5
  have h3 := Nat.lt_of_succ_lt h4
  have h2 := Nat.lt_of_succ_lt h3
  ⟨h, h8, h7, h6, h5, h4, h3, h2, Nat.lt_of_succ_lt h2⟩
/-- the nine cells lie below D -/
theorem ne9 {L : Addr} {D : Nat} {c1 c2 c3 c4 c5 c6 c7 c8 c9 : Obj} (h : LT.lt (α := Nat) (L + 1 + 1 + 1 + 1 + 1 + 1 + 1 + 1 + 1) D) : ∀ p ∈ [(L + 1 + 1 + 1 + 1 + 1 + 1 + 1 + 1 + 1, c9), (L + 1 + 1 + 1 + 1 + 1 + 1 + 1 + 1, c8), (L + 1 + 1 + 1 + 1 + 1 + 1 + 1, c7), (L + 1 + 1 + 1 + 1 + 1 + 1, c6), (L + 1 + 1 + 1 + 1 + 1, c5), (L + 1 + 1 + 1 + 1, c4), (L + 1 + 1 + 1, c3), (L + 1 + 1, c2), (L + 1, c1)], p.1 ≠ D := by
  obtain ⟨h9, h8, h7, h6, h5, h4, h3, h2, h1⟩ := gt9 h
  intro p hp
  simp only [List.mem_cons, List.not_mem_nil, or_false] at hp
  rcases hp with rfl | rfl | rfl | rfl | rfl | rfl | rfl | rfl | rfl
  · exact Nat.ne_of_lt h9
  · exact Nat.ne_of_lt h8
  · exact Nat.ne_of_lt h7
  · exact Nat.ne_of_lt h6
  · exact Nat.ne_of_lt h5
  · exact Nat.ne_of_lt h4
  · exact Nat.ne_of_lt h3
  · exact Nat.ne_of_lt h2
  · exact Nat.ne_of_lt h1
theorem ne_cons {D : Nat} {A : Addr} {o : Obj} {r : List (Addr × Obj)} (h : LT.lt (α := Nat) A D) (hr : ∀ p ∈ r, p.1 ≠ D) : ∀ p ∈ (A, o) :: r, p.1 ≠ D := by
  intro p hp
  rcases List.mem_cons.mp hp with rfl | hp
  · exact Nat.ne_of_lt h
  · exact hr p hp
/-- what is said of the law's own text, wherever it is read off -/
def LawB (w : World) (T : Str → Scope → List Stmt → Prop) : Prop :=
  ∀ name qual params body scope dV kV doc pm an cdv ct oc od osl, (Mine.hd.heap_39 w.params).lookup 100 = some ⟨oc, od, .func (fnOf name qual params body scope dV kV doc pm an cdv ct), osl⟩ → T name scope body
theorem fnOf_inj {name qual : Str} {params : Arguments} {body : List Stmt} {scope : Scope} {dV kV doc pm cdv ct oc : Value} {an od : Option Addr} {osl : Array (Option Value)}
    {name' qual' : Str} {params' : Arguments} {body' : List Stmt} {scope' : Scope} {dV' kV' doc' pm' cdv' ct' oc' : Value} {an' od' : Option Addr} {osl' : Array (Option Value)}
    (e : (some ⟨oc, od, .func (fnOf name qual params body scope dV kV doc pm an cdv ct), osl⟩ : Option Obj) = some ⟨oc', od', .func (fnOf name' qual' params' body' scope' dV' kV' doc' pm' an' cdv' ct'), osl'⟩) :
    name = name' ∧ scope = scope' ∧ body = body' := by
  injection e with e
  injection e with e1 e2 e3 e4
  injection e3 with e3
  unfold fnOf at e3
  injection e3 with a b c d f
  injection d with d
  exact ⟨a, f, d⟩
theorem LawB.intro {w : World} {T : Str → Scope → List Stmt → Prop} {name qual : Str} {params : Arguments} {body : List Stmt} {scope : Scope} {dV kV doc pm cdv ct oc : Value} {an od : Option Addr} {osl : Array (Option Value)}
    (h : (Mine.hd.heap_39 w.params).lookup 100 = some ⟨oc, od, .func (fnOf name qual params body scope dV kV doc pm an cdv ct), osl⟩) (t : T name scope body) : LawB w T := by
  intro name' qual' params' body' scope' dV' kV' doc' pm' an' cdv' ct' oc' od' osl' e
  rw [h] at e
  obtain ⟨rfl, rfl, rfl⟩ := fnOf_inj e
  exact t

theorem News_afterL {h0 h h' : Heap} {L : Addr} {news : List (Addr × Obj)} (N : News h0 L h news) (hk : ∀ b o, b ≠ L → h.get? b = some o → h'.get? b = some o) : News h0 L h' news :=
  fun p hp => ⟨hk _ _ (N p hp).2.1 (N p hp).1, (N p hp).2.1, (N p hp).2.2⟩
theorem Fr_afterL {h0 h h' : Heap} {L : Addr} {m m' : Str → Option Value} (F : Fr h0 L h m) (hn : h'.Ns L m') (hk : ∀ b o, b ≠ L → h.get? b = some o → h'.get? b = some o) : Fr h0 L h' m' :=
  ⟨hn, fun b o e => hk b o (Nat.ne_of_lt (Nat.lt_of_lt_of_le (Heap.lt_size e) F.above)) (F.keep b o e), F.above⟩
theorem News_addL {h0 h h' : Heap} {L D : Addr} {m : Str → Option Value} {o : Obj} {news : List (Addr × Obj)} (N : News h0 L h' news) (F : Fr h0 L h m) (hD : h.objs.size ≤ D) (hget : h'.get? D = some o) : News h0 L h' ((D, o) :: news) := by
  have hL := Nat.lt_of_lt_of_le F.ns.lt hD
  intro p hp
  rcases List.mem_cons.mp hp with rfl | hp
  · exact ⟨hget, Nat.ne_of_gt hL, Heap.get?_none_of_le (Nat.le_trans F.above (Nat.le_of_lt hL))⟩
  · exact N p hp
theorem News_d2 {h0 h : Heap} {L : Addr} {a b : Addr × Obj} {r : List (Addr × Obj)} (N : News h0 L h (a :: b :: r)) : News h0 L h (a :: r) := by
  intro p hp
  rcases List.mem_cons.mp hp with rfl | hp
  · exact N _ (.head _)
  · exact N _ (.tail _ (.tail _ hp))
end Mine

-- part C11
open PySem PySem.W PyProof.Rows PySem.Calls
set_option Elab.async false
set_option linter.unusedVariables false
namespace Mine
section
local macro_rules | `(tactic| walk_at "execs nil") => `(tactic| refine wpAny_execs_nil ?_)
local macro_rules | `(tactic| walk_at "execs cons") => `(tactic| refine to_halt ?_)
local macro_rules | `(tactic| walk_at "eval Name") => `(tactic| (refine ldmC (by assumption) (by assumption) ?_ (by rfl) (by rfl) (by decide)))
local macro_rules | `(tactic| walk_at "eval Name") => `(tactic| (first
  | refine ldCompL (by assumption) (by assumption) ?_ rfl rfl (by decide)
  | refine ldCompC rfl (by assumption) ?_ rfl rfl (by decide)
  | refine ldCompG (by assumption) (by k_is) ?_ rfl rfl rfl (by decide)))
local macro_rules | `(tactic| walk_at "exec Assign cons ListComp") => `(tactic| refine to_halt ?_)
local macro_rules | `(tactic| walk_at "eval ListComp") => `(tactic| refine to_halt ?_)
local macro_rules | `(tactic| walk_at "call ref") => `(tactic| refine to_halt ?_)
set_option maxRecDepth 100000
set_option maxHeartbeats 16000000

section

def SegA (w : World) (mean : ExcName → Option Value) (mg mb : Str → Option Value) (name : Str) (scope : Scope) (body : List Stmt) : Prop :=
  ∀ (s : Shared) (Q : Flow → Shared → Prop) (E : Value → Shared → Prop) (h0 : Heap) (L fa l : Addr) (cd : Value) (vs : List Value) (ns : List Int) (m : Str → Option Value) (c1 c2 c3 c4 c5 c6 c7 c8 c9 : Obj),
   PC w mean mg mb h0 →
   h0.IsList l vs.toArray → IntsAre vs ns → ns.length ≤ 63 → m (Str.ofString "script") = some (.ref l) →
   Fr h0 L s.heap m → News h0 L s.heap [(L + 1 + 1 + 1 + 1 + 1 + 1 + 1 + 1 + 1, c9), (L + 1 + 1 + 1 + 1 + 1 + 1 + 1 + 1, c8), (L + 1 + 1 + 1 + 1 + 1 + 1 + 1, c7), (L + 1 + 1 + 1 + 1 + 1 + 1, c6), (L + 1 + 1 + 1 + 1 + 1, c5), (L + 1 + 1 + 1 + 1, c4), (L + 1 + 1 + 1, c3), (L + 1 + 1, c2), (L + 1, c1)] →
   c1.data = .cell none → c2.data = .cell none → c3.data = .cell none → c4.data = .cell none → c5.data = .cell none → c6.data = .cell none → c7.data = .cell none → c8.data = .cell none → c9.data = .cell none →
   (∀ (h : Heap) (tk : Nat) (m' : Str → Option Value) (D : Nat) (x0 x1 x2 : Int) (t0 t1 t2 : Tok) (n : Nat), Fr h0 L h m' → News h0 L h [(D, listOf #[.int x0 t0, .int x1 t1, .int x2 t2] n), (L + 1 + 1 + 1 + 1 + 1 + 1 + 1 + 1 + 1, c9), (L + 1 + 1 + 1 + 1 + 1 + 1 + 1 + 1, c8), (L + 1 + 1 + 1 + 1 + 1 + 1 + 1, c7), (L + 1 + 1 + 1 + 1 + 1 + 1, c6), (L + 1 + 1 + 1 + 1 + 1, c5), (L + 1 + 1 + 1 + 1, c4), (L + 1 + 1 + 1, c3), (L + 1 + 1, c2), (L + 1, c1)] →
     L + 1 + 1 + 1 + 1 + 1 + 1 + 1 + 1 + 1 < D → m' (Str.ofString "drawn") = some (.ref D) → m' (Str.ofString "script") = some (.ref l) → 0 ≤ x0 → 0 ≤ x1 → 0 ≤ x2 → 0 < tk →
     wpAny (model PySem.Challenge.rw_sw0037_01.row.prog w) (callerA.deeper (envOfC name scope L fa cd)) (execs (body.drop 2) (envOfC name scope L fa cd)) Q E { s with heap := h, toks := tk }) →
   wpAny (model PySem.Challenge.rw_sw0037_01.row.prog w) (callerA.deeper (envOfC name scope L fa cd)) (execs body (envOfC name scope L fa cd)) Q E s

theorem segA (w : World) (mean : ExcName → Option Value) (mg mb : Str → Option Value) : LawB w (SegA w mean mg mb) := by
  refine LawB.intro (by with_unfolding_all rfl) ?_
  intro s Q E h0 L fa l cd vs ns m c1 c2 c3 c4 c5 c6 c7 c8 c9 P hl hi hn hm F N d1 d2 d3 d4 d5 d6 d7 d8 d9 hnext
  have P0 := P
  obtain ⟨X, T⟩ := P
  revert X; k_fill; intro X
  refine wpAny_execs_cons ?_
  k_steps
  unfold Halt
  refine Assign_ListComp_T (cl := []) ?a ?b ?c ?d ?e ?f ?g ?h ?_ ?j
  case a => with_unfolding_all rfl
  case b => with_unfolding_all rfl
  case c => decide
  case d => rfl
  case e => decide
  case f => rfl
  case g => rfl
  case h => rfl
  case j => intro _; with_unfolding_all rfl
  k_steps
  rename Fr _ _ _ _ => F1
  rename News _ _ _ _ => N1
  rename IntsAre _ (List.take 3 ns) => I1
  refine csrc_list (by with_unfolding_all rfl) (News.isList N1 (.head _)) fun it s₂ src => ?_
  generalize ht : ns.take 3 = ts at *
  have hlen := I1.length
  have htl : ts.length ≤ 3 := by rw [← ht, List.length_take]; omega
  refine ⟨_, _, fun _ => true, fun i y => ∃ tk, y = .int (Int.fmod (ts.getD i 0) 1000000) tk, _, src, ?_, F1.ns, ⟨fun _ _ _ _ _ _ _ _ _ _ _ _ _ _ _ _ => no_tests, ?_⟩, ?_⟩
  · rw [List.size_toArray, hlen, sizeLine_eq]; omega
  · rintro C i v t0 t1 s₃ m₃ E' hC hin _ ht0 ⟨hv, rfl⟩ ht1 hn3 hm3 hk3
    change wpAny _ _ _ (fun y s₄ => EltEnd (fun y => ∃ tk, y = .int (Int.fmod (ts.getD i 0) 1000000) tk) s₃ y s₄) _ _
    obtain ⟨b, tb, hvb, hb⟩ := I1.at i v (by simpa using hv)
    subst hvb
    have eb : ts.getD i 0 = b := by rw [List.getD_eq_getElem?_getD, hb]; rfl
    rw [eb]
    clear hk3 hC
    k_steps
    exact EltEnd.intro ⟨_, rfl⟩ fun _ _ e => e
  · intro D h' tk ys k hD hget hP htk hns hk
    rw [filter_true] at hP
    have hI := paired_ints' hP
    have F2 := Fr_afterL F1 hns hk
    have N2 := News_addL (News_afterL N1 hk) F1 hD hget
    rw [List.size_toArray, hlen] at hI
    have e3 : ∃ xs : List Int, xs = (List.range ts.length).map (fun i => Int.fmod (ts.getD i 0) 1000000) ∧ xs.length = min 3 ns.length ∧ ∀ x ∈ xs, 0 ≤ x := by
      refine ⟨_, rfl, ?_, ?_⟩
      · rw [List.length_map, List.length_range, ← ht, List.length_take]
      · intro x hx
        obtain ⟨i, _, rfl⟩ := List.mem_map.mp hx
        rw [Int.fmod_eq_emod_of_nonneg _ (by decide)]
        exact Int.emod_nonneg _ (by decide)
    obtain ⟨xs, ex, exl, exn⟩ := e3
    rw [← ex] at hI
    clear hP hk N1 F1 I1 hns hget src ht htl
    obtain ⟨zs, rfl⟩ : ∃ zs : List Value, ys = zs.toArray := ⟨ys.toList, by rw [Array.toArray_toList]⟩
    rw [List.toList_toArray] at hI
    have hx3 : xs.length ≤ 3 := by omega
    clear ex exl
    (try dsimp only at F2 N2)
    rcases xs with _ | ⟨a, _ | ⟨b, _ | ⟨c, _ | ⟨d, r⟩⟩⟩⟩
    · cases hI
      k_steps
      unfold Halt
      refine wpAny_execs_cons ?_
      k_steps
      unfold Halt
      rename Fr _ _ _ _ => F3
      rename News _ _ _ _ => N3
      exact hnext _ _ _ _ _ _ _ _ _ _ _ F3 (News_d2 (News_d2 (News_d2 (News_d2 N3)))) (by show @LT.lt Nat _ _ _; omega) rfl hm (by omega) (by omega) (by omega) (by omega)
    · obtain ⟨ta, ra, rfl, hI1⟩ := hI.cons_inv
      clear hI
      cases hI1
      have ha := exn a (.head _)
      k_steps
      unfold Halt
      refine wpAny_execs_cons ?_
      k_steps
      unfold Halt
      rename Fr _ _ _ _ => F3
      rename News _ _ _ _ => N3

      exact hnext _ _ _ _ _ _ _ _ _ _ _ F3 (News_d2 (News_d2 (News_d2 (News_d2 N3)))) (by show @LT.lt Nat _ _ _; omega) rfl hm ha (by omega) (by omega) (by omega)
    · obtain ⟨ta, ra, rfl, hI1⟩ := hI.cons_inv
      clear hI
      obtain ⟨tb, rb, rfl, hI2⟩ := hI1.cons_inv
      clear hI1
      cases hI2
      have ha := exn a (.head _)
      have hb := exn b (.tail _ (.head _))
      k_steps
      unfold Halt
      refine wpAny_execs_cons ?_
      k_steps
      unfold Halt
      rename Fr _ _ _ _ => F3
      rename News _ _ _ _ => N3
      exact hnext _ _ _ _ _ _ _ _ _ _ _ F3 (News_d2 (News_d2 (News_d2 (News_d2 N3)))) (by show @LT.lt Nat _ _ _; omega) rfl hm ha hb (by omega) (by omega)
    · obtain ⟨ta, ra, rfl, hI1⟩ := hI.cons_inv
      clear hI
      obtain ⟨tb, rb, rfl, hI2⟩ := hI1.cons_inv
      clear hI1
      obtain ⟨tc, rc, rfl, hI3⟩ := hI2.cons_inv
      clear hI2
      cases hI3
      have ha := exn a (.head _)
      have hb := exn b (.tail _ (.head _))
      have hc := exn c (.tail _ (.tail _ (.head _)))
      k_steps
      unfold Halt
      refine wpAny_execs_cons ?_
      k_steps
      unfold Halt
      rename Fr _ _ _ _ => F3
      rename News _ _ _ _ => N3
      exact hnext _ _ _ _ _ _ _ _ _ _ _ F3 (News_d2 (News_d2 (News_d2 (News_d2 N3)))) (by show @LT.lt Nat _ _ _; omega) rfl hm ha hb hc (by omega)
    · exact absurd hx3 (by simp)
end

-- part C12
local macro_rules | `(tactic| walk_at "call builtin:str.join") => `(tactic| refine to_halt ?_)
local macro_rules | `(tactic| walk_at "pyIter ref") => `(tactic| refine to_halt ?_)
set_option maxRecDepth 100000
set_option maxHeartbeats 16000000

def sgS : Nat → Str
  | 0 => Str.ofString "012"
  | 1 => Str.ofString "\n a"
  | 2 => Str.ofString "*[a"
  | _ => Str.ofString " *\\"
structure RowOK (S R : Str) : Prop where
  h : ∃ j a b c : Nat, j < 4 ∧ a < 3 ∧ b < 3 ∧ c < 3 ∧ S = sgS j ∧ R = Txt.join (Str.ofString "") [Txt.item (sgS j) a, Txt.item (sgS j) b, Txt.item (sgS j) c]

section
local macro_rules | `(tactic| walk_at "subscriptTail List BinOp ref int") => `(tactic| refine to_halt ?_)

def SegA2 (w : World) (mean : ExcName → Option Value) (mg mb : Str → Option Value) (name : Str) (scope : Scope) (body : List Stmt) : Prop :=
  ∀ (s : Shared) (Q : Flow → Shared → Prop) (E : Value → Shared → Prop) (h0 : Heap) (L fa l : Addr) (cd : Value) (m : Str → Option Value) (c1 c2 c3 c4 c5 c6 c7 c8 c9 : Obj) (D : Nat) (x0 x1 x2 : Int) (t0 t1 t2 : Tok) (n : Nat),
   PC w mean mg mb h0 →
   m (Str.ofString "script") = some (.ref l) → m (Str.ofString "drawn") = some (.ref D) →
   Fr h0 L s.heap m → News h0 L s.heap [(D, listOf #[.int x0 t0, .int x1 t1, .int x2 t2] n), (L + 1 + 1 + 1 + 1 + 1 + 1 + 1 + 1 + 1, c9), (L + 1 + 1 + 1 + 1 + 1 + 1 + 1 + 1, c8), (L + 1 + 1 + 1 + 1 + 1 + 1 + 1, c7), (L + 1 + 1 + 1 + 1 + 1 + 1, c6), (L + 1 + 1 + 1 + 1 + 1, c5), (L + 1 + 1 + 1 + 1, c4), (L + 1 + 1 + 1, c3), (L + 1 + 1, c2), (L + 1, c1)] →
   L + 1 + 1 + 1 + 1 + 1 + 1 + 1 + 1 + 1 < D → 0 ≤ x0 → 0 ≤ x1 → 0 ≤ x2 → 0 < s.toks → 
   c1.data = .cell none → c2.data = .cell none →
   (∀ (h : Heap) (tk : Nat) (m' : Str → Option Value) (c1 : Obj) (j : Nat) (tS : Tok), j < 4 → Fr h0 L h m' → News h0 L h [(D, listOf #[.int x0 t0, .int x1 t1, .int x2 t2] n), (L + 1 + 1 + 1 + 1 + 1 + 1 + 1 + 1 + 1, c9), (L + 1 + 1 + 1 + 1 + 1 + 1 + 1 + 1, c8), (L + 1 + 1 + 1 + 1 + 1 + 1 + 1, c7), (L + 1 + 1 + 1 + 1 + 1 + 1, c6), (L + 1 + 1 + 1 + 1 + 1, c5), (L + 1 + 1 + 1 + 1, c4), (L + 1 + 1 + 1, c3), (L + 1 + 1, c2), (L + 1, c1)] →
     c1.data = .cell (some (.str (sgS j) tS)) → m' (Str.ofString "drawn") = some (.ref D) → m' (Str.ofString "script") = some (.ref l) → 0 < tk →
     wpAny (model PySem.Challenge.rw_sw0037_01.row.prog w) (callerA.deeper (envOfC name scope L fa cd)) (execs (body.drop 3) (envOfC name scope L fa cd)) Q E { s with heap := h, toks := tk }) →
   wpAny (model PySem.Challenge.rw_sw0037_01.row.prog w) (callerA.deeper (envOfC name scope L fa cd)) (execs (body.drop 2) (envOfC name scope L fa cd)) Q E s

theorem segA2 (w : World) (mean : ExcName → Option Value) (mg mb : Str → Option Value) : LawB w (SegA2 w mean mg mb) := by
  refine LawB.intro (by with_unfolding_all rfl) ?_
  intro s Q E h0 L fa l cd m c1 c2 c3 c4 c5 c6 c7 c8 c9 D x0 x1 x2 t0 t1 t2 n P hm hmD F N lD p0 p1 p2 hs0 d1 d2 hnext
  have P0 := P
  obtain ⟨X, T⟩ := P
  revert X; k_fill; intro X
  have I : IntsAre [.int x0 t0, .int x1 t1, .int x2 t2] [x0, x1, x2] := .cons _ _ (.cons _ _ (.cons _ _ .nil))
  have hl := News.isList N (.head _)
  have l0 : LT.lt (α := Nat) (L + 1 + 1 + 1 + 1 + 1 + 1 + 1 + 1 + 1) D ∧ LT.lt (α := Nat) (L + 1 + 1 + 1 + 1 + 1 + 1 + 1 + 1) D ∧ LT.lt (α := Nat) (L + 1 + 1 + 1 + 1 + 1 + 1 + 1) D ∧ LT.lt (α := Nat) (L + 1 + 1 + 1 + 1 + 1 + 1) D ∧ LT.lt (α := Nat) (L + 1 + 1 + 1 + 1 + 1) D ∧ LT.lt (α := Nat) (L + 1 + 1 + 1 + 1) D ∧ LT.lt (α := Nat) (L + 1 + 1 + 1) D ∧ LT.lt (α := Nat) (L + 1 + 1) D ∧ LT.lt (α := Nat) (L + 1) D := by
    have lD' : LT.lt (α := Nat) (L + 1 + 1 + 1 + 1 + 1 + 1 + 1 + 1 + 1) D := lD
    exact gt9 lD'
  clear lD
  dsimp only [List.drop]
  refine wpAny_execs_cons ?_
  refine wpAny_with_toks (n := s.toks) (Nat.le_refl _) ?_
  k_steps
  · unfold Halt
    rename Fr _ _ _ _ => F3
    rename News _ _ _ _ => N3
    rename s.toks ≤ _ => hle9
    exact hnext _ _ _ _ 0 _ (by decide) F3 N3.tail' (by assumption) hmD hm (Nat.lt_of_lt_of_le hs0 hle9)
  · unfold Halt
    rename Fr _ _ _ _ => F3
    rename News _ _ _ _ => N3
    rename s.toks ≤ _ => hle9
    exact hnext _ _ _ _ 1 _ (by decide) F3 N3.tail' (by assumption) hmD hm (Nat.lt_of_lt_of_le hs0 hle9)
  · unfold Halt
    rename Fr _ _ _ _ => F3
    rename News _ _ _ _ => N3
    rename s.toks ≤ _ => hle9
    exact hnext _ _ _ _ 2 _ (by decide) F3 N3.tail' (by assumption) hmD hm (Nat.lt_of_lt_of_le hs0 hle9)
  · unfold Halt
    rename Fr _ _ _ _ => F3
    rename News _ _ _ _ => N3
    rename s.toks ≤ _ => hle9
    exact hnext _ _ _ _ 3 _ (by decide) F3 N3.tail' (by assumption) hmD hm (Nat.lt_of_lt_of_le hs0 hle9)
end

-- part C13
set_option maxRecDepth 100000
set_option maxHeartbeats 16000000

section
local macro_rules | `(tactic| walk_at "subscriptTail Name BinOp str int") => `(tactic| refine to_halt ?_)

/-- the row of signs that three numbers choose -/
def rowS (S : Str) (x0 x1 x2 : Int) : Str := Txt.join (Str.ofString "") ((List.range 3).map fun i => Txt.item S (Int.fmod ([x0, x1, x2].getD i 0) 3))

def SegA3 (w : World) (mean : ExcName → Option Value) (mg mb : Str → Option Value) (name : Str) (scope : Scope) (body : List Stmt) : Prop :=
  ∀ (s : Shared) (Q : Flow → Shared → Prop) (E : Value → Shared → Prop) (h0 : Heap) (L fa l : Addr) (cd : Value) (m : Str → Option Value) (c1 c2 c3 c4 c5 c6 c7 c8 c9 : Obj) (D : Nat) (x0 x1 x2 : Int) (t0 t1 t2 : Tok) (n : Nat) (S : Str) (tS : Tok),
   PC w mean mg mb h0 → S.length = 3 →
   m (Str.ofString "script") = some (.ref l) → m (Str.ofString "drawn") = some (.ref D) →
   Fr h0 L s.heap m → News h0 L s.heap [(D, listOf #[.int x0 t0, .int x1 t1, .int x2 t2] n), (L + 1 + 1 + 1 + 1 + 1 + 1 + 1 + 1 + 1, c9), (L + 1 + 1 + 1 + 1 + 1 + 1 + 1 + 1, c8), (L + 1 + 1 + 1 + 1 + 1 + 1 + 1, c7), (L + 1 + 1 + 1 + 1 + 1 + 1, c6), (L + 1 + 1 + 1 + 1 + 1, c5), (L + 1 + 1 + 1 + 1, c4), (L + 1 + 1 + 1, c3), (L + 1 + 1, c2), (L + 1, c1)] →
   L + 1 + 1 + 1 + 1 + 1 + 1 + 1 + 1 + 1 < D → 0 < s.toks →
   c1.data = .cell (some (.str S tS)) → c2.data = .cell none →
   (∀ (h : Heap) (tk : Nat) (m' : Str → Option Value) (c2 : Obj) (tR : Tok), Fr h0 L h m' → News h0 L h [(L + 1 + 1 + 1 + 1 + 1 + 1 + 1 + 1 + 1, c9), (L + 1 + 1 + 1 + 1 + 1 + 1 + 1 + 1, c8), (L + 1 + 1 + 1 + 1 + 1 + 1 + 1, c7), (L + 1 + 1 + 1 + 1 + 1 + 1, c6), (L + 1 + 1 + 1 + 1 + 1, c5), (L + 1 + 1 + 1 + 1, c4), (L + 1 + 1 + 1, c3), (L + 1 + 1, c2), (L + 1, c1)] →
     c2.data = .cell (some (.str (rowS S x0 x1 x2) tR)) → m' (Str.ofString "script") = some (.ref l) → 0 < tk →
     wpAny (model PySem.Challenge.rw_sw0037_01.row.prog w) (callerA.deeper (envOfC name scope L fa cd)) (execs (body.drop 4) (envOfC name scope L fa cd)) Q E { s with heap := h, toks := tk }) →
   wpAny (model PySem.Challenge.rw_sw0037_01.row.prog w) (callerA.deeper (envOfC name scope L fa cd)) (execs (body.drop 3) (envOfC name scope L fa cd)) Q E s

theorem segA3 (w : World) (mean : ExcName → Option Value) (mg mb : Str → Option Value) : LawB w (SegA3 w mean mg mb) := by
  refine LawB.intro (by with_unfolding_all rfl) ?_
  intro s Q E h0 L fa l cd m c1 c2 c3 c4 c5 c6 c7 c8 c9 D x0 x1 x2 t0 t1 t2 n S tS P hS hm hmD F N lD hs0 d1 d2 hnext
  have P0 := P
  obtain ⟨X, T⟩ := P
  revert X; k_fill; intro X
  have I : IntsAre [.int x0 t0, .int x1 t1, .int x2 t2] [x0, x1, x2] := .cons _ _ (.cons _ _ (.cons _ _ .nil))
  have hl := News.isList N (.head _)
  have l0 : LT.lt (α := Nat) (L + 1 + 1 + 1 + 1 + 1 + 1 + 1 + 1 + 1) D ∧ LT.lt (α := Nat) (L + 1 + 1 + 1 + 1 + 1 + 1 + 1 + 1) D ∧ LT.lt (α := Nat) (L + 1 + 1 + 1 + 1 + 1 + 1 + 1) D ∧ LT.lt (α := Nat) (L + 1 + 1 + 1 + 1 + 1 + 1) D ∧ LT.lt (α := Nat) (L + 1 + 1 + 1 + 1 + 1) D ∧ LT.lt (α := Nat) (L + 1 + 1 + 1 + 1) D ∧ LT.lt (α := Nat) (L + 1 + 1 + 1) D ∧ LT.lt (α := Nat) (L + 1 + 1) D ∧ LT.lt (α := Nat) (L + 1) D := by
    have lD' : LT.lt (α := Nat) (L + 1 + 1 + 1 + 1 + 1 + 1 + 1 + 1 + 1) D := lD
    exact gt9 lD'
  clear lD
  dsimp only [List.drop]
  refine wpAny_execs_cons ?_
  refine wpAny_with_toks (n := s.toks) (Nat.le_refl _) ?_
  k_steps
  unfold Halt
  refine ListComp_T (cl := [(Str.ofString "signs", L + 1)]) ?a ?b ?c ?d ?e ?_
  case a => with_unfolding_all rfl
  case b => decide
  case c => rfl
  case d => decide
  case e => rfl
  k_steps
  unfold Halt
  refine csrc_list (by with_unfolding_all rfl) hl fun it s₂ src => ?_
  refine ⟨3, _, fun _ => true, fun i y => ∃ tk, y = .str (Txt.item S (Int.fmod ([x0, x1, x2].getD i 0) 3)) tk, src, by rw [sizeLine_eq]; decide, ⟨fun _ _ _ _ _ _ _ _ _ _ _ _ _ _ _ _ => no_tests, ?_⟩, ?_⟩
  · rintro C i v t0' t3 s₃ m₃ E' hC hin _ ht0 ⟨hv, rfl⟩ ht3 hn3 hm3 hk3
    change wpAny _ _ _ (fun y s₄ => EltEnd (fun y => ∃ tk, y = .str (Txt.item S (Int.fmod ([x0, x1, x2].getD i 0) 3)) tk) s₃ y s₄) _ _
    obtain ⟨b, tb, hvb, hb⟩ := I.at i v (by simpa using hv)
    subst hvb
    have eb : [x0, x1, x2].getD i 0 = b := by rw [List.getD_eq_getElem?_getD, hb]; rfl
    rw [eb]
    have hcS : s₃.heap.IsCell (L + 1) (some (.str S tS)) := ⟨c1, hk3 _ _ (N (L + 1, c1) (by simp)).1, d1⟩
    have q0 := Int.emod_nonneg b (b := 3) (by decide)
    have q1 := Int.emod_lt_of_pos b (b := 3) (by decide)
    have q2 := Int.fmod_eq_emod_of_nonneg b (b := 3) (by decide)
    clear hk3 hC
    k_steps
    unfold Halt
    refine item_str0 (by omega) (by omega) (by omega) ?_
    exact EltEnd.intro ⟨_, rfl⟩ fun _ _ e => e
  · intro D' h' tk ys k hD hget hP htk hk
    rw [filter_true] at hP
    have hS' := paired_strs hP
    have F2 := F.keeps hk
    have N2 := News_addL (N.grown hk) F hD hget
    have hl2 := News.isList N2 (.head _)
    have l2 : LT.lt (α := Nat) (L + 1 + 1 + 1 + 1 + 1 + 1 + 1 + 1 + 1) D' ∧ LT.lt (α := Nat) (L + 1 + 1 + 1 + 1 + 1 + 1 + 1 + 1) D' ∧ LT.lt (α := Nat) (L + 1 + 1 + 1 + 1 + 1 + 1 + 1) D' ∧ LT.lt (α := Nat) (L + 1 + 1 + 1 + 1 + 1 + 1) D' ∧ LT.lt (α := Nat) (L + 1 + 1 + 1 + 1 + 1) D' ∧ LT.lt (α := Nat) (L + 1 + 1 + 1 + 1) D' ∧ LT.lt (α := Nat) (L + 1 + 1 + 1) D' ∧ LT.lt (α := Nat) (L + 1 + 1) D' ∧ LT.lt (α := Nat) (L + 1) D' := by
      have lD' : LT.lt (α := Nat) (L + 1 + 1 + 1 + 1 + 1 + 1 + 1 + 1 + 1) D' := Nat.lt_of_lt_of_le (Heap.lt_size (N (L + 1 + 1 + 1 + 1 + 1 + 1 + 1 + 1 + 1, c9) (by simp)).1) hD
      exact gt9 lD'
    clear hP hk F N hget src I hl hD
    k_steps
    unfold Halt
    refine join_list (D := D') (items := ys) hl2 hS' ?_ (fun t' k => ?_)
    · have e1 := sum_lens (f := fun i => Txt.item S (Int.fmod ([x0, x1, x2].getD i 0) 3)) (fun i => len_item _ _) (List.range 3)
      rw [List.length_range] at e1
      have e2 : (Str.ofString "").length = 0 := by decide
      rw [e1, e2]
      omega
    k_steps
    unfold Halt
    rename Fr _ _ _ _ => F3
    rename News _ _ _ _ => N3
    rename s.toks ≤ _ => hle9
    exact hnext _ _ _ _ _ F3 N3.tail'.tail' (by assumption) hm (Nat.lt_of_lt_of_le hs0 hle9)
end

-- part C14
set_option maxRecDepth 100000
set_option maxHeartbeats 16000000

section
local macro_rules | `(tactic| walk_at "exec For Name Call cons nil") => `(tactic| refine to_halt ?_)
local macro_rules | `(tactic| walk_at "subscriptTail Name BinOp str int") => `(tactic| refine to_halt ?_)


def endsF (R : Str) : Nat → List Str
  | 0 => []
  | i + 1 => insL (endsF R i) (Txt.slice R (some (0 + (i : Int) * 1)) none)
theorem insL_length (xs : List Str) (x : Str) : (insL xs x).length = xs.length + 1 := by
  unfold insL
  rw [List.length_append, List.length_cons, List.length_take, List.length_drop]
  omega
theorem endsF_length (R : Str) : ∀ i, (endsF R i).length = i
  | 0 => rfl
  | i + 1 => by rw [endsF, insL_length, endsF_length R i]

def SegB (w : World) (mean : ExcName → Option Value) (mg mb : Str → Option Value) (name : Str) (scope : Scope) (body : List Stmt) : Prop :=
  ∀ (s : Shared) (Q : Flow → Shared → Prop) (E : Value → Shared → Prop) (h0 : Heap) (L fa l : Addr) (cd : Value) (m : Str → Option Value) (c1 c2 c3 c4 c5 c6 c7 c8 c9 : Obj) (S R : Str) (tS tR : Tok),
   PC w mean mg mb h0 → S.length = 3 → R.length = 3 →
   m (Str.ofString "script") = some (.ref l) →
   Fr h0 L s.heap m → News h0 L s.heap [(L + 1 + 1 + 1 + 1 + 1 + 1 + 1 + 1 + 1, c9), (L + 1 + 1 + 1 + 1 + 1 + 1 + 1 + 1, c8), (L + 1 + 1 + 1 + 1 + 1 + 1 + 1, c7), (L + 1 + 1 + 1 + 1 + 1 + 1, c6), (L + 1 + 1 + 1 + 1 + 1, c5), (L + 1 + 1 + 1 + 1, c4), (L + 1 + 1 + 1, c3), (L + 1 + 1, c2), (L + 1, c1)] → 0 < s.toks →
   c1.data = .cell (some (.str S tS)) → c2.data = .cell (some (.str R tR)) →
   (∀ (h : Heap) (tk : Nat) (m' : Str → Option Value) (D : Nat) (its : Array Value) (n : Nat), Fr h0 L h m' → News h0 L h [(D, listOf its n), (L + 1 + 1 + 1 + 1 + 1 + 1 + 1 + 1 + 1, c9), (L + 1 + 1 + 1 + 1 + 1 + 1 + 1 + 1, c8), (L + 1 + 1 + 1 + 1 + 1 + 1 + 1, c7), (L + 1 + 1 + 1 + 1 + 1 + 1, c6), (L + 1 + 1 + 1 + 1 + 1, c5), (L + 1 + 1 + 1 + 1, c4), (L + 1 + 1 + 1, c3), (L + 1 + 1, c2), (L + 1, c1)] → LT.lt (α := Nat) (L + 1 + 1 + 1 + 1 + 1 + 1 + 1 + 1 + 1) D →
     m' (Str.ofString "ends") = some (.ref D) → m' (Str.ofString "script") = some (.ref l) → StrsAre its.toList (endsF R 3) → 0 < tk →
     wpAny (model PySem.Challenge.rw_sw0037_01.row.prog w) (callerA.deeper (envOfC name scope L fa cd)) (execs (body.drop 6) (envOfC name scope L fa cd)) Q E { s with heap := h, toks := tk }) →
   wpAny (model PySem.Challenge.rw_sw0037_01.row.prog w) (callerA.deeper (envOfC name scope L fa cd)) (execs (body.drop 4) (envOfC name scope L fa cd)) Q E s

theorem segB (w : World) (mean : ExcName → Option Value) (mg mb : Str → Option Value) : LawB w (SegB w mean mg mb) := by
  refine LawB.intro (by with_unfolding_all rfl) ?_
  intro s Q E h0 L fa l cd m c1 c2 c3 c4 c5 c6 c7 c8 c9 S R tS tR P hS hR hm F N hs0 d1 d2 hnext
  have P0 := P
  obtain ⟨X, T⟩ := P
  revert X; k_fill; intro X
  dsimp only [List.drop]
  refine wpAny_execs_cons ?_
  k_steps
  unfold Halt
  refine wpAny_execs_cons ?_
  refine wpAny_with_toks (n := s.toks) (by dsimp only; omega) ?_
  refine for_V h0 rfl rfl ?_
  k_steps
  unfold Halt
  rename Fr _ _ _ _ => F1
  rename News _ _ _ _ => N1
  rename IsRange _ _ _ _ _ _ _ _ => hr
  refine iter_rangeV 3 (fun i m' nw => m' (Str.ofString "script") = some (.ref l) ∧ ∃ (D : Nat) (its : Array Value) (n : Nat), LT.lt (α := Nat) (L + 1 + 1 + 1 + 1 + 1 + 1 + 1 + 1 + 1) D ∧ nw = [(D, listOf its n), (L + 1 + 1 + 1 + 1 + 1 + 1 + 1 + 1 + 1, c9), (L + 1 + 1 + 1 + 1 + 1 + 1 + 1 + 1, c8), (L + 1 + 1 + 1 + 1 + 1 + 1 + 1, c7), (L + 1 + 1 + 1 + 1 + 1 + 1, c6), (L + 1 + 1 + 1 + 1 + 1, c5), (L + 1 + 1 + 1 + 1, c4), (L + 1 + 1 + 1, c3), (L + 1 + 1, c2), (L + 1, c1)] ∧ m' (Str.ofString "ends") = some (.ref D) ∧ StrsAre its.toList (endsF R i)) (by with_unfolding_all rfl) hr (by decide) (by decide) F1 N1 ⟨hm, _, _, _, ?_, rfl, rfl, .nil⟩ ?_ ?_
  · omega
  · rintro I i t m₁ nw h o hI hnI ht hi ⟨ms, D, its, n, lD, rfl, me, hS⟩ F2 N2
    clear F1 N1 hr
    have l0 : LT.lt (α := Nat) (L + 1 + 1 + 1 + 1 + 1 + 1 + 1 + 1 + 1) D ∧ LT.lt (α := Nat) (L + 1 + 1 + 1 + 1 + 1 + 1 + 1 + 1) D ∧ LT.lt (α := Nat) (L + 1 + 1 + 1 + 1 + 1 + 1 + 1) D ∧ LT.lt (α := Nat) (L + 1 + 1 + 1 + 1 + 1 + 1) D ∧ LT.lt (α := Nat) (L + 1 + 1 + 1 + 1 + 1) D ∧ LT.lt (α := Nat) (L + 1 + 1 + 1 + 1) D ∧ LT.lt (α := Nat) (L + 1 + 1 + 1) D ∧ LT.lt (α := Nat) (L + 1 + 1) D ∧ LT.lt (α := Nat) (L + 1) D := gt9 lD
    refine wpAny_execs_cons ?_
    k_steps
    unfold Halt
    rename Fr _ _ _ _ => F3
    rename News _ _ _ _ => N3
    have lL : D ≠ L := (N3 (D, listOf its n) (by simp)).2.1
    have lh : h0.get? D = none := (N3 (D, listOf its n) (by simp)).2.2
    refine insort_left w mean mg mb _ _ _ _ h0 D its n (endsF R i) _ _ P0 F3.keep lh (by show callerA.depth + 1 + 2 < recursionLimit; decide) (N3 (D, listOf its n) (by simp)).1 hS (by rw [endsF_length]; omega) ?_
    intro h4 tk4 its' n' hk hget hS'
    have F4 : Fr h0 L h4 _ := ⟨F3.ns.at' fun o e => hk _ o (Ne.symm lL) e, fun b o e => hk b o (by rintro rfl; rw [lh] at e; cases e) (F3.keep b o e), F3.above⟩
    have N4 : News h0 L h4 [(I, o), (D, listOf its' n'), (L + 1 + 1 + 1 + 1 + 1 + 1 + 1 + 1 + 1, c9), (L + 1 + 1 + 1 + 1 + 1 + 1 + 1 + 1, c8), (L + 1 + 1 + 1 + 1 + 1 + 1 + 1, c7), (L + 1 + 1 + 1 + 1 + 1 + 1, c6), (L + 1 + 1 + 1 + 1 + 1, c5), (L + 1 + 1 + 1 + 1, c4), (L + 1 + 1 + 1, c3), (L + 1 + 1, c2), (L + 1, c1)] := by
      intro p hp
      have q : p.1 = D → p = (D, listOf its' n') := by
        intro e
        rcases List.mem_cons.mp hp with rfl | hp
        · exact absurd e.symm (hnI _ (.head _))
        · rcases List.mem_cons.mp hp with rfl | hp
          · rfl
          · exact absurd e (ne9 lD p hp)
      by_cases e : p.1 = D
      · rw [q e]; exact ⟨hget, lL, lh⟩
      · have hm' : p ∈ [(I, o), (D, listOf its n), (L + 1 + 1 + 1 + 1 + 1 + 1 + 1 + 1 + 1, c9), (L + 1 + 1 + 1 + 1 + 1 + 1 + 1 + 1, c8), (L + 1 + 1 + 1 + 1 + 1 + 1 + 1, c7), (L + 1 + 1 + 1 + 1 + 1 + 1, c6), (L + 1 + 1 + 1 + 1 + 1, c5), (L + 1 + 1 + 1 + 1, c4), (L + 1 + 1 + 1, c3), (L + 1 + 1, c2), (L + 1, c1)] := by
          simp only [List.mem_cons, List.not_mem_nil, or_false] at hp ⊢
          rcases hp with h | rfl | h
          · exact .inl h
          · exact absurd rfl e
          · exact .inr (.inr h)
        exact ⟨hk _ _ e (N3 p hm').1, (N3 p hm').2⟩
    clear F3 N3 hk
    k_steps
    refine FPostV.nextI F4 N4 (fun p hp => ?_) ⟨ms, D, its', n', lD, rfl, me, hS'⟩
    rcases List.mem_cons.mp hp with rfl | hp
    · exact hnI (D, listOf its n) (.head _)
    · exact hnI p (.tail _ hp)
  · rintro m₁ nw h tk ht ⟨ms, D, its, n, lD, rfl, me, hS⟩ F2 N2
    clear F1 N1 hr
    k_steps
    unfold Halt
    rename s.toks ≤ _ => hle9
    exact hnext _ _ _ _ _ _ F2 N2 lD me ms hS (Nat.lt_of_lt_of_le hs0 hle9)
end
end
end Mine

-- part K1
open PySem PySem.W PyProof.Rows PySem.Calls
set_option Elab.async false
set_option linter.unusedVariables false
namespace Mine
set_option maxRecDepth 100000
set_option maxHeartbeats 16000000

section
variable {prog : Program} {w : World} {A : Around} {E : Value → Shared → Prop} {s : Shared} {Q : Value → Shared → Prop}

/-- max of a list of texts -/
def maxS (f : Nat → Str) (n : Nat) : Str := f (argBest (fun i j => decide ((f j).cps.toList < (f i).cps.toList)) (n - 1))
theorem cmp_strs_gt {P : Nat → Value → Prop} (val : Nat → Str) (hval : ∀ i v, P i v → ∃ t, v = .str (val i) t) :
    CmpOf prog w A .Gt P (fun i j => decide ((val j).cps.toList < (val i).cps.toList)) := fun i j vi vj s Q E hi hj h => by
  obtain ⟨t, rfl⟩ := hval i vi hi
  obtain ⟨u, rfl⟩ := hval j vj hj
  exact PySem.P.gt_str (x := val i) (y := val j) (t := t) (u := u) h
theorem strs_at {vs : List Value} {ss : List Str} (h : StrsAre vs ss) : ∀ (i : Nat) (v : Value), vs[i]? = some v → ∃ t, v = .str (ss.getD i (Str.mk #[])) t := by
  induction h with
  | nil => intro i v e; simp at e
  | cons a t r ih =>
    intro i v e
    cases i with
    | zero => simp at e; subst e; exact ⟨t, by simp⟩
    | succ i => simp at e; obtain ⟨t', e'⟩ := ih i v e; exact ⟨t', by simpa using e'⟩
theorem max_strs {l : Addr} {vs : List Value} {ss : List Str} (hh : A.handled = none) (hl : s.heap.IsList l vs.toArray) (hi : StrsAre vs ss) (hne : 0 < ss.length)
    (h : ∀ h' t tk, (∀ b o, s.heap.get? b = some o → h'.get? b = some o) → Q (.str (maxS (fun i => ss.getD i (Str.mk #[])) ss.length) t) { s with heap := h', toks := tk }) :
    wpAny (model prog w) A (call (.builtin "max") [.ref l]) Q E s := by
  have hlen := hi.length
  have hlt : l < s.heap.objs.size := by obtain ⟨_, e, _⟩ := hl; exact Heap.lt_size e
  refine call_max_walk (wpAny_pyIter_list hl ?_)
  refine ⟨_, _, _, _, _, _, _, rfl, Walks.list (A := A.in1) hh _ l (Nat.ne_of_lt hlt) vs.toArray, ⟨⟨_, Heap.get?_push_size _ rfl, rfl, rfl⟩, hl.at fun o e => Heap.get?_push_of_some _ e⟩, fun b hb => ?_, ?_,
    cmp_strs_gt (fun i => ss.getD i (Str.mk #[])) (fun i v e => strs_at hi i v (by simpa using e)), fun v h' tk hP hk => ?_⟩
  · rw [Heap.size_push]
    rcases List.mem_cons.mp hb with rfl | hb
    · exact Nat.lt_succ_self _
    · rw [List.mem_singleton.mp hb]; exact Nat.lt_succ_of_lt hlt
  · rw [List.size_toArray, hlen]; exact hne
  · rw [List.getElem?_toArray, List.size_toArray, hlen] at hP
    obtain ⟨t, rfl⟩ := strs_at hi _ v hP
    exact h h' t tk (old_kept hk)

theorem sameAll_strs : ∀ ns ms : List Str, PySem.Spec.sameAll (ns.map PyData.str) (ms.map PyData.str) = decide (ns = ms)
  | [], [] => by simp [PySem.Spec.sameAll]
  | [], _ :: _ => by simp [PySem.Spec.sameAll]
  | _ :: _, [] => by simp [PySem.Spec.sameAll]
  | a :: r, b :: t => by
    simp only [List.map_cons, PySem.Spec.sameAll, PySem.Spec.same, sameAll_strs r t]
    by_cases h : a = b <;> by_cases h' : r = t <;> simp [h, h']
theorem canLayAll0_strs : ∀ ns : List Str, (∀ x ∈ ns, PyData.strOk x = true) → PyData.canLayAll0 (ns.map PyData.str) = true
  | [], _ => rfl
  | a :: r, h => by simp [PyData.canLayAll0, PyData.canLay0, h a (.head _), canLayAll0_strs r fun x hx => h x (.tail _ hx)]
theorem shaped_strs (ns : List Str) (h : ∀ x ∈ ns, PyData.strOk x = true) : SeqAt.shaped (.list (ns.map PyData.str)) = true := by
  simp [SeqAt.shaped, PyData.canLay0, PyData.depth, canLayAll0_strs ns h, depthAll_strs']
theorem ne_strs {a b : Addr} {xs ys : List Value} {ns : List Str} (ha : s.heap.IsList a xs.toArray) (hb : s.heap.IsList b ys.toArray) (hi : StrsAre xs ns) (hj : StrsAre ys ns) (hok : ∀ x ∈ ns, PyData.strOk x = true) (hu : A.units + 64 < cLine)
    (h : Q (.bool false) s) : wpAny (model prog w) A (compareOp .NotEq (.ref a) (.ref b)) Q E s :=
  ne_dataH_same (reads_newData ha (lm_carried_strs hi)) (reads_newData hb (lm_carried_strs hj)) (shaped_strs _ hok) (shaped_strs _ hok) hu (SeqAt.noMix_of_shape (.list .str) rfl _ _ (list_map_has fun _ => rfl) (list_map_has fun _ => rfl))
    (by rw [show PySem.Spec.same (.list (ns.map PyData.str)) (.list (ns.map PyData.str)) = true from by simp only [PySem.Spec.same]; rw [sameAll_strs ns ns]; simp]; exact h)
end

section
variable {w : World} {A : Around} {E : Value → Shared → Prop} {s : Shared} {Q : Value → Shared → Prop}
theorem keptOld {h0 : Heap} : KeptH (fun h => ∀ b o, h0.get? b = some o → h.get? b = some o) := fun _ ob F b o e => Heap.get?_push_of_some _ (F b o e)
theorem slice_sn_keep {prog : Program} {value slice : PySem.Expr} {x : Str} {t : Tok} {i : Int} {ui : Tok}
    (h : ∀ h' t' k, (∀ b o, s.heap.get? b = some o → h'.get? b = some o) → Q (.str (Txt.slice x (some i) none) t') { s with heap := h', toks := k })
    (hs : subscripted slice false (.str x t) (.ref s.heap.objs.size) = operate [.ref s.heap.objs.size, .str x t] (getItem (.str x t) (.ref s.heap.objs.size)) := by with_unfolding_all rfl)
    (ht : ∀ r, letTemporaryGo value (.str x t) r = pure () := by intro _; with_unfolding_all rfl) (hsz : x.length ≤ sizeLine) :
    wpAny (model prog w) A (subscriptTail value slice (.str x t) (.ref s.heap.objs.size)) Q E { s with heap := s.heap.push { cls := .type "slice", data := .fields #[.int i ui, .none, .none] } } :=
  tail_of_ItemOn (SBH.sliceItem_sn keptOld (fun _ _ e => e) h hsz) hs ht
end
end Mine

-- part C15
open PySem PySem.W PyProof.Rows PySem.Calls
set_option Elab.async false
set_option linter.unusedVariables false
namespace Mine
section
local macro_rules | `(tactic| walk_at "exec For Name Call cons nil") => `(tactic| refine to_halt ?_)
local macro_rules | `(tactic| walk_at "call builtin:sorted") => `(tactic| refine to_halt ?_)
local macro_rules | `(tactic| walk_at "call builtin:max") => `(tactic| refine to_halt ?_)
local macro_rules | `(tactic| walk_at "compareOp NotEq ref ref") => `(tactic| refine to_halt ?_)
local macro_rules | `(tactic| walk_at "exec If Compare cons nil") => `(tactic| refine wpAny_If ?_)
local macro_rules | `(tactic| walk_at "newList") => `(tactic| refine to_halt ?_)
local macro_rules | `(tactic| walk_at "call builtin:str.rstrip") => `(tactic| refine to_halt ?_)
local macro_rules | `(tactic| walk_at "compareOp In str ref") => `(tactic| refine to_halt ?_)
local macro_rules | `(tactic| walk_at "execs nil") => `(tactic| refine wpAny_execs_nil ?_)
local macro_rules | `(tactic| walk_at "execs cons") => `(tactic| refine to_halt ?_)
local macro_rules | `(tactic| walk_at "eval Name") => `(tactic| (refine ldmC (by assumption) (by assumption) ?_ (by rfl) (by rfl) (by decide)))
local macro_rules | `(tactic| walk_at "eval Name") => `(tactic| (first
  | refine ldCompL (by assumption) (by assumption) ?_ rfl rfl (by decide)
  | refine ldCompC rfl (by assumption) ?_ rfl rfl (by decide)
  | refine ldCompG (by assumption) (by k_is) ?_ rfl rfl rfl (by decide)
  | refine ldCompB (v := .builtin "max") (by assumption) (by k_is) (by with_unfolding_all rfl) (by decide) ?_ rfl rfl rfl rfl (by decide)
  | refine ldCompB (v := .type "range") (by assumption) (by k_is) (by with_unfolding_all rfl) (by decide) ?_ rfl rfl rfl rfl (by decide)))
local macro_rules | `(tactic| walk_at "exec Assign cons ListComp") => `(tactic| first | (refine wpAny_Assign_Name ?_ (by with_unfolding_all rfl)) | refine to_halt ?_)
local macro_rules | `(tactic| walk_at "eval ListComp") => `(tactic| refine to_halt ?_)
local macro_rules | `(tactic| walk_at "call ref") => `(tactic| refine to_halt ?_)
local macro_rules | `(tactic| walk_at "call builtin:str.join") => `(tactic| refine to_halt ?_)
local macro_rules | `(tactic| walk_at "pyIter ref") => `(tactic| refine to_halt ?_)
local macro_rules | `(tactic| walk_at "subscriptTail Name BinOp str int") => `(tactic| refine to_halt ?_)
local macro_rules | `(tactic| walk_at "subscriptTail Name Slice str ref") => `(tactic| refine to_halt ?_)
set_option maxRecDepth 100000
set_option maxHeartbeats 16000000

section

def tailsF (R : Str) : List Str := (List.range 3).map fun i => Txt.slice R (some (0 + ((i : Nat) : Int) * 1)) none
theorem tails_len (R : Str) (h : R.length = 3) : ∀ x ∈ tailsF R, x.length ≤ 3 := by
  intro x hx
  obtain ⟨i, _, rfl⟩ := List.mem_map.mp hx
  exact h ▸ Txt.slice_le R _ _

def SegC (w : World) (mean : ExcName → Option Value) (mg mb : Str → Option Value) (name : Str) (scope : Scope) (body : List Stmt) : Prop :=
  ∀ (s : Shared) (Q : Flow → Shared → Prop) (E : Value → Shared → Prop) (h0 : Heap) (L fa l : Addr) (cd : Value) (m : Str → Option Value) (c1 c2 c3 c4 c5 c6 c7 c8 c9 : Obj) (R : Str) (tR : Tok) (D : Nat) (its : Array Value) (n : Nat),
   PC w mean mg mb h0 → R.length = 3 → (∀ x ∈ endsF R 3, PyData.strOk x = true) → (∀ p : List Str, p.Perm (tailsF R) → sortedS p = true → p = endsF R 3) →
   m (Str.ofString "script") = some (.ref l) → m (Str.ofString "ends") = some (.ref D) →
   Fr h0 L s.heap m → News h0 L s.heap [(D, listOf its n), (L + 1 + 1 + 1 + 1 + 1 + 1 + 1 + 1 + 1, c9), (L + 1 + 1 + 1 + 1 + 1 + 1 + 1 + 1, c8), (L + 1 + 1 + 1 + 1 + 1 + 1 + 1, c7), (L + 1 + 1 + 1 + 1 + 1 + 1, c6), (L + 1 + 1 + 1 + 1 + 1, c5), (L + 1 + 1 + 1 + 1, c4), (L + 1 + 1 + 1, c3), (L + 1 + 1, c2), (L + 1, c1)] → LT.lt (α := Nat) (L + 1 + 1 + 1 + 1 + 1 + 1 + 1 + 1 + 1) D → 0 < s.toks →
   c2.data = .cell (some (.str R tR)) → StrsAre its.toList (endsF R 3) →
   (∀ (h : Heap) (tk : Nat), Fr h0 L h m → News h0 L h [(D, listOf its n), (L + 1 + 1 + 1 + 1 + 1 + 1 + 1 + 1 + 1, c9), (L + 1 + 1 + 1 + 1 + 1 + 1 + 1 + 1, c8), (L + 1 + 1 + 1 + 1 + 1 + 1 + 1, c7), (L + 1 + 1 + 1 + 1 + 1 + 1, c6), (L + 1 + 1 + 1 + 1 + 1, c5), (L + 1 + 1 + 1 + 1, c4), (L + 1 + 1 + 1, c3), (L + 1 + 1, c2), (L + 1, c1)] → 0 < tk → wpAny (model PySem.Challenge.rw_sw0037_01.row.prog w) (callerA.deeper (envOfC name scope L fa cd)) (execs (body.drop 7) (envOfC name scope L fa cd)) Q E { s with heap := h, toks := tk }) →
   wpAny (model PySem.Challenge.rw_sw0037_01.row.prog w) (callerA.deeper (envOfC name scope L fa cd)) (execs (body.drop 6) (envOfC name scope L fa cd)) Q E s

theorem segC (w : World) (mean : ExcName → Option Value) (mg mb : Str → Option Value) : LawB w (SegC w mean mg mb) := by
  refine LawB.intro (by with_unfolding_all rfl) ?_
  intro s Q E h0 L fa l cd m c1 c2 c3 c4 c5 c6 c7 c8 c9 R tR D its n P hR hok hsort hm hme F N lD hs0 d2 hS hnext
  generalize endsF R 3 = eL at hok hsort hS
  have P0 := P
  obtain ⟨X, T⟩ := P
  revert X; k_fill; intro X
  have l0 : LT.lt (α := Nat) (L + 1 + 1 + 1 + 1 + 1 + 1 + 1 + 1 + 1) D ∧ LT.lt (α := Nat) (L + 1 + 1 + 1 + 1 + 1 + 1 + 1 + 1) D ∧ LT.lt (α := Nat) (L + 1 + 1 + 1 + 1 + 1 + 1 + 1) D ∧ LT.lt (α := Nat) (L + 1 + 1 + 1 + 1 + 1 + 1) D ∧ LT.lt (α := Nat) (L + 1 + 1 + 1 + 1 + 1) D ∧ LT.lt (α := Nat) (L + 1 + 1 + 1 + 1) D ∧ LT.lt (α := Nat) (L + 1 + 1 + 1) D ∧ LT.lt (α := Nat) (L + 1 + 1) D ∧ LT.lt (α := Nat) (L + 1) D := gt9 lD
  dsimp only [List.drop]
  refine wpAny_execs_cons ?_
  refine wpAny_with_toks (n := s.toks) (Nat.le_refl _) ?_
  k_steps
  unfold Halt
  refine ListComp_T (cl := [(Str.ofString "row", (L + 1 + 1))]) ?a ?b ?c ?d ?e ?_
  case a => with_unfolding_all rfl
  case b => decide
  case c => rfl
  case d => decide
  case e => rfl
  k_steps
  unfold Halt
  rename Fr _ _ _ _ => F4
  rename News _ _ _ _ => N4
  rename IsRange _ _ _ _ _ _ _ _ => hr4
  refine csrc_range 3 (by with_unfolding_all rfl) ⟨_, _, _, hr4⟩ (by decide) (by decide) fun it s₂ src => ?_
  refine ⟨3, _, fun _ => true, fun i y => ∃ tk, y = .str (Txt.slice R (some (0 + ((i : Nat) : Int) * 1)) none) tk, src, by rw [sizeLine_eq]; decide, ⟨fun _ _ _ _ _ _ _ _ _ _ _ _ _ _ _ _ => no_tests, ?_⟩, ?_⟩
  · rintro C i v t0' t3 s₃ m₃ E' hC hin _ ht0 ⟨rfl, rfl⟩ ht3 hn3 hm3 hk3
    change wpAny _ _ _ (fun y s₄ => EltEnd (fun y => ∃ tk, y = .str (Txt.slice R (some (0 + ((i : Nat) : Int) * 1)) none) tk) s₃ y s₄) _ _
    have hcS : s₃.heap.IsCell (L + 1 + 1) (some (.str R tR)) := ⟨c2, hk3 _ _ (N4 ((L + 1 + 1), c2) (by simp)).1, d2⟩
    have FC : Fr _ C s₃.heap m₃ := ⟨hn3, hk3, hC⟩
    have NC : News _ C s₃.heap [] := News.nil (h₀ := h0)
    clear hk3 hC F4 N4
    k_steps
    unfold Halt
    refine slice_sn_keep (fun h' t' k hk => ?_) (hsz := by rw [hR, sizeLine_eq]; decide)
    k_steps
    exact EltEnd.intro ⟨_, rfl⟩ hk
  · intro D' h' tk ys k hD hget hP htk hk
    rw [filter_true] at hP
    have hS' := paired_strs hP
    have F2 := F4.keeps hk
    have N2 := News_addL (N4.grown hk) F4 hD hget
    have hl2 := News.isList N2 (.head _)
    clear hP hk hget src
    k_steps
    unfold Halt
    refine sorted_N_str (vs := ys.toList) (ss := tailsF R) F2 N2 (by rw [Array.toArray_toList]; exact hl2) hS' (by rw [hS'.length, List.length_map, List.length_range]; decide) ?_
    intro h5 vs' ss' e F5 N5 hS5 hp5 hso
    have e5 := hsort ss' hp5 hso
    subst e5
    k_steps
    unfold Halt
    rename Fr _ _ _ _ => F6
    rename News _ _ _ _ => N6
    refine ne_strs (xs := its.toList) (ys := vs') (ns := ss') (by rw [Array.toArray_toList]; exact News.isList N6 (.tail _ (.tail _ (.head _)))) (News.isList N6 (.head _)) hS hS5 hok (Nat.le_of_ble_eq_true rfl) ?_
    k_steps
    unfold Halt
    exact hnext _ _ F6 N6.tail'.tail' (by dsimp only at *; omega)
end

-- part C16
set_option maxRecDepth 100000
set_option maxHeartbeats 16000000

section

local macro_rules | `(tactic| walk_at "binaryOp Add str str") => `(tactic| refine to_halt ?_)
def endF (S e2 : Str) : Str := Txt.rstripChars e2 (Txt.item S 0)
def leadF (S e2 : Str) : Str := if ([Str.ofString "", Txt.item S 1].any (· == endF S e2)) = true then Txt.item S 1 ++ Txt.item S 1 else endF S e2

def SegD (w : World) (mean : ExcName → Option Value) (mg mb : Str → Option Value) (name : Str) (scope : Scope) (body : List Stmt) : Prop :=
  ∀ (s : Shared) (Q : Flow → Shared → Prop) (E : Value → Shared → Prop) (h0 : Heap) (L fa l : Addr) (cd : Value) (m : Str → Option Value) (c1 c2 c3 c4 c5 c6 c7 c8 c9 : Obj) (S R e0 e1 e2 : Str) (tS : Tok) (D : Nat) (its : Array Value) (n : Nat),
   PC w mean mg mb h0 → S.length = 3 → endsF R 3 = [e0, e1, e2] → e2.length ≤ 3 →
   m (Str.ofString "script") = some (.ref l) → m (Str.ofString "ends") = some (.ref D) →
   Fr h0 L s.heap m → News h0 L s.heap [(D, listOf its n), (L + 1 + 1 + 1 + 1 + 1 + 1 + 1 + 1 + 1, c9), (L + 1 + 1 + 1 + 1 + 1 + 1 + 1 + 1, c8), (L + 1 + 1 + 1 + 1 + 1 + 1 + 1, c7), (L + 1 + 1 + 1 + 1 + 1 + 1, c6), (L + 1 + 1 + 1 + 1 + 1, c5), (L + 1 + 1 + 1 + 1, c4), (L + 1 + 1 + 1, c3), (L + 1 + 1, c2), (L + 1, c1)] → LT.lt (α := Nat) (L + 1 + 1 + 1 + 1 + 1 + 1 + 1 + 1 + 1) D → 0 < s.toks →
   c1.data = .cell (some (.str S tS)) → c3.data = .cell none → StrsAre its.toList (endsF R 3) →
   (∀ (h : Heap) (tk : Nat) (c3 : Obj) (tL : Tok), Fr h0 L h m → News h0 L h [(L + 1 + 1 + 1 + 1 + 1 + 1 + 1 + 1 + 1, c9), (L + 1 + 1 + 1 + 1 + 1 + 1 + 1 + 1, c8), (L + 1 + 1 + 1 + 1 + 1 + 1 + 1, c7), (L + 1 + 1 + 1 + 1 + 1 + 1, c6), (L + 1 + 1 + 1 + 1 + 1, c5), (L + 1 + 1 + 1 + 1, c4), (L + 1 + 1 + 1, c3), (L + 1 + 1, c2), (L + 1, c1)] → 0 < tk → c3.data = .cell (some (.str (leadF S e2) tL)) → wpAny (model PySem.Challenge.rw_sw0037_01.row.prog w) (callerA.deeper (envOfC name scope L fa cd)) (execs (body.drop 9) (envOfC name scope L fa cd)) Q E { s with heap := h, toks := tk }) →
   wpAny (model PySem.Challenge.rw_sw0037_01.row.prog w) (callerA.deeper (envOfC name scope L fa cd)) (execs (body.drop 7) (envOfC name scope L fa cd)) Q E s

theorem segD (w : World) (mean : ExcName → Option Value) (mg mb : Str → Option Value) : LawB w (SegD w mean mg mb) := by
  refine LawB.intro (by with_unfolding_all rfl) ?_
  intro s Q E h0 L fa l cd m c1 c2 c3 c4 c5 c6 c7 c8 c9 S R e0 e1 e2 tS D its n P hS3 he h2 hm hme F N lD hs0 d1 d3 hS hnext
  have P0 := P
  obtain ⟨X, T⟩ := P
  revert X; k_fill; intro X
  have l0 : LT.lt (α := Nat) (L + 1 + 1 + 1 + 1 + 1 + 1 + 1 + 1 + 1) D ∧ LT.lt (α := Nat) (L + 1 + 1 + 1 + 1 + 1 + 1 + 1 + 1) D ∧ LT.lt (α := Nat) (L + 1 + 1 + 1 + 1 + 1 + 1 + 1) D ∧ LT.lt (α := Nat) (L + 1 + 1 + 1 + 1 + 1 + 1) D ∧ LT.lt (α := Nat) (L + 1 + 1 + 1 + 1 + 1) D ∧ LT.lt (α := Nat) (L + 1 + 1 + 1 + 1) D ∧ LT.lt (α := Nat) (L + 1 + 1 + 1) D ∧ LT.lt (α := Nat) (L + 1 + 1) D ∧ LT.lt (α := Nat) (L + 1) D := gt9 lD
  obtain ⟨zs, rfl⟩ : ∃ zs : List Value, its = zs.toArray := ⟨its.toList, by rw [Array.toArray_toList]⟩
  rw [List.toList_toArray, he] at hS
  cases hS with | cons _ t0 hS => ?_
  cases hS with | cons _ t1 hS => ?_
  cases hS with | cons _ t2 hS => ?_
  cases hS
  dsimp only [List.drop]
  refine wpAny_execs_cons ?_
  refine wpAny_with_toks (n := s.toks) (Nat.le_refl _) ?_
  k_steps
  unfold Halt
  refine SCL.rstripChars (fun t' k hle => ?_) (hsz := by rw [sizeLine_eq]; omega)
  obtain ⟨Z, hZ⟩ : ∃ Z, Z = Txt.rstripChars e2 (Txt.item S 0) := ⟨_, rfl⟩
  rw [← hZ] at hle ⊢
  k_steps
  unfold Halt
  rename s.toks ≤ _ => hle9
  refine wpAny_execs_cons ?_
  refine wpAny_with_toks (n := s.toks) (by dsimp only; omega) ?_
  k_steps
  unfold Halt
  rename Fr _ _ _ _ => F3
  rename News _ _ _ _ => N3
  refine newList_N F3 N3 (fun h' F4 N4 => ?_) (hsz := by rw [sizeLine_eq]; show 2 ≤ _; decide)
  k_steps
  unfold Halt
  refine in_list_strs (vs := [.str (Str.ofString "") _, .str (Txt.item S 1) _]) (ys := [Str.ofString "", Txt.item S 1]) (News.isList N4 (.head _)) (.cons _ _ (.cons _ _ .nil)) ?_
  have hLF : leadF S e2 = if ([Str.ofString "", Txt.item S 1].any (· == Z)) = true then Txt.item S 1 ++ Txt.item S 1 else Z := by rw [hZ]; rfl
  generalize ([Str.ofString "", Txt.item S 1].any (· == Z)) = b at hLF ⊢
  clear hZ
  replace N4 := N4.tail'
  cases b
  · k_steps
    unfold Halt
    rw [if_neg (by decide)] at hLF
    rename Fr h0 L h' m => F5
    rename News h0 L h' _ => N5
    exact hnext _ _ _ t' F5 N5.tail' (by dsimp only at *; omega) (by rw [hLF]; assumption)
  · k_steps
    unfold Halt
    refine wpAny_execs_cons ?_
    refine wpAny_with_toks (n := s.toks) (by dsimp only at *; omega) ?_
    k_steps
    unfold Halt
    refine SBL.add (fun t' k' hle' => ?_) (hsz := by rw [len_item, sizeLine_eq]; decide)
    k_steps
    unfold Halt
    rename Fr _ _ _ _ => F6
    rename News _ _ _ _ => N6
    rw [if_pos rfl] at hLF
    exact hnext _ _ _ _ F6 N6.tail' (by dsimp only at *; omega) (by rw [hLF]; assumption)
end

-- part C17
set_option maxRecDepth 100000
set_option maxHeartbeats 16000000

section

theorem newList_O {M : Model} {A : Around} {E : Value → Shared → Prop} {s : Shared} {h₀ : Heap} {L : Addr} {m : Str → Option Value} {news : List (Addr × Obj)} {vs : List Value} {Q : Value → Shared → Prop} (F : Fr h₀ L s.heap m) (N : News h₀ L s.heap news)
    (h : ∀ (P : Nat) h', (∀ q ∈ news, LT.lt (α := Nat) q.1 P) → Fr h₀ L h' m → News h₀ L h' ((P, listOf vs.toArray 0) :: news) → Q (.ref P) { s with heap := h' }) (hsz : vs.length ≤ sizeLine) :
    wpAny M A (newList vs) Q E s :=
  newList_N F N (fun h' F' N' => h _ h' (fun q hq => Heap.lt_size (N q hq).1) F' N') hsz

/-- signs, lead and the lead's figures -/
structure Cfg (S ld : Str) (W : List Int) : Prop where
  s3 : S.length = 3
  asc : S.cps.all (· < 128) = true
  sz : ld.cps.size = W.length
  at' : ∀ (i c : Nat), ld.cps[i]? = some c → ∃ r : Nat, W.getD i 0 = (r : Int) ∧ S.cps[r]? = some c ∧ ∀ j, j < r → S.cps[j]? ≠ some c
  wlo : ∀ x ∈ W, 0 ≤ x
  whi : ∀ x ∈ W, x ≤ 2
  len2 : 1 ≤ W.length
  len3 : W.length ≤ 3
theorem Cfg.len {S ld : Str} {W : List Int} (c : Cfg S ld W) : ld.length = W.length := c.sz
theorem map_getD (W : List Int) : (List.range W.length).map (fun i => W.getD i 0) = W := by
  apply List.ext_getElem?
  intro i
  by_cases h : i < W.length
  · simp [h]
  · simp [h]

def SegE1 (w : World) (mean : ExcName → Option Value) (mg mb : Str → Option Value) (name : Str) (scope : Scope) (body : List Stmt) : Prop :=
  ∀ (s : Shared) (Q : Flow → Shared → Prop) (E : Value → Shared → Prop) (h0 : Heap) (L fa l : Addr) (cd : Value) (m : Str → Option Value) (c1 c2 c3 c4 c5 c6 c7 c8 c9 : Obj) (S ld : Str) (W : List Int) (tS tL : Tok),
   PC w mean mg mb h0 → Cfg S ld W →
   m (Str.ofString "script") = some (.ref l) →
   Fr h0 L s.heap m → News h0 L s.heap [(L + 1 + 1 + 1 + 1 + 1 + 1 + 1 + 1 + 1, c9), (L + 1 + 1 + 1 + 1 + 1 + 1 + 1 + 1, c8), (L + 1 + 1 + 1 + 1 + 1 + 1 + 1, c7), (L + 1 + 1 + 1 + 1 + 1 + 1, c6), (L + 1 + 1 + 1 + 1 + 1, c5), (L + 1 + 1 + 1 + 1, c4), (L + 1 + 1 + 1, c3), (L + 1 + 1, c2), (L + 1, c1)] → 0 < s.toks →
   c1.data = .cell (some (.str S tS)) → c3.data = .cell (some (.str ld tL)) → c4.data = .cell none → c5.data = .cell none →
   (∀ (h : Heap) (tk : Nat) (c4 c5 : Obj) (DP DW : Nat) (ws ps : Array Value) (n k : Nat), Fr h0 L h m → News h0 L h [(DP, listOf ps k), (DW, listOf ws n), (L + 1 + 1 + 1 + 1 + 1 + 1 + 1 + 1 + 1, c9), (L + 1 + 1 + 1 + 1 + 1 + 1 + 1 + 1, c8), (L + 1 + 1 + 1 + 1 + 1 + 1 + 1, c7), (L + 1 + 1 + 1 + 1 + 1 + 1, c6), (L + 1 + 1 + 1 + 1 + 1, c5), (L + 1 + 1 + 1 + 1, c4), (L + 1 + 1 + 1, c3), (L + 1 + 1, c2), (L + 1, c1)] → LT.lt (α := Nat) (L + 1 + 1 + 1 + 1 + 1 + 1 + 1 + 1 + 1) DW → LT.lt (α := Nat) DW DP → 0 < tk →
     c4.data = .cell (some (.ref DW)) → c5.data = .cell (some (.ref DP)) → IntsAre ws.toList W → IntsAre ps.toList [1] → wpAny (model PySem.Challenge.rw_sw0037_01.row.prog w) (callerA.deeper (envOfC name scope L fa cd)) (execs (body.drop 11) (envOfC name scope L fa cd)) Q E { s with heap := h, toks := tk }) →
   wpAny (model PySem.Challenge.rw_sw0037_01.row.prog w) (callerA.deeper (envOfC name scope L fa cd)) (execs (body.drop 9) (envOfC name scope L fa cd)) Q E s

theorem segE1 (w : World) (mean : ExcName → Option Value) (mg mb : Str → Option Value) : LawB w (SegE1 w mean mg mb) := by
  refine LawB.intro (by with_unfolding_all rfl) ?_
  intro s Q E h0 L fa l cd m c1 c2 c3 c4 c5 c6 c7 c8 c9 S ld W tS tL P K hm F N hs0 d1 d3 d4 d5 hnext
  have P0 := P
  obtain ⟨X, T⟩ := P
  revert X; k_fill; intro X
  dsimp only [List.drop]
  refine wpAny_execs_cons ?_
  refine wpAny_with_toks (n := s.toks) (Nat.le_refl _) ?_
  k_steps
  unfold Halt
  refine ListComp_T (cl := [(Str.ofString "signs", (L + 1))]) ?a ?b ?c ?d ?e ?_
  case a => with_unfolding_all rfl
  case b => decide
  case c => rfl
  case d => decide
  case e => rfl
  k_steps
  refine csrc_str (by with_unfolding_all rfl) fun it s₂ src => ?_
  refine ⟨_, _, fun _ => true, fun i y => ∃ tk, y = .int (W.getD i 0) tk, src, by have := K.sz; have := K.len3; rw [sizeLine_eq]; omega, ⟨fun _ _ _ _ _ _ _ _ _ _ _ _ _ _ _ _ => no_tests, ?_⟩, ?_⟩
  · rintro C i v t0' t3 s₃ m₃ E' hC hin _ ht0 ⟨c, hc, rfl, rfl⟩ ht3 hn3 hm3 hk3
    change wpAny _ _ _ (fun y s₄ => EltEnd (fun y => ∃ tk, y = .int (W.getD i 0) tk) s₃ y s₄) _ _
    obtain ⟨r, hr, hr1, hr2⟩ := K.at' i c hc
    rw [hr]
    have hcS : s₃.heap.IsCell (L + 1) (some (.str S tS)) := ⟨c1, hk3 _ _ (N ((L + 1), c1) (by simp)).1, d1⟩
    have P3 := (P0.keeps F.keep).keeps hk3
    have FC : Fr _ C s₃.heap m₃ := ⟨hn3, hk3, hC⟩
    have NC : News _ C s₃.heap [] := News.nil (h₀ := h0)
    have asc := K.asc
    have X3 := P3.X
    clear hk3 hC F N hr K
    k_steps
    unfold Halt
    exact indexOf_str w mean mg mb _ _ _ _ S c r _ _ P3 (by show callerA.depth + 1 + 1 < recursionLimit; decide) (by with_unfolding_all rfl) asc hr1 hr2 (by omega) (by omega) (fun tk h' tk' hk => EltEnd.intro ⟨_, rfl⟩ hk)
  · intro D' h' tk ys k hD hget hP htk hk
    rw [filter_true, K.sz] at hP
    have hI := paired_ints' hP
    rw [map_getD] at hI
    have F2 := F.keeps hk
    have N2 := News_addL (N.grown hk) F hD hget
    have l2 : LT.lt (α := Nat) (L + 1 + 1 + 1 + 1 + 1 + 1 + 1 + 1 + 1) D' ∧ LT.lt (α := Nat) (L + 1 + 1 + 1 + 1 + 1 + 1 + 1 + 1) D' ∧ LT.lt (α := Nat) (L + 1 + 1 + 1 + 1 + 1 + 1 + 1) D' ∧ LT.lt (α := Nat) (L + 1 + 1 + 1 + 1 + 1 + 1) D' ∧ LT.lt (α := Nat) (L + 1 + 1 + 1 + 1 + 1) D' ∧ LT.lt (α := Nat) (L + 1 + 1 + 1 + 1) D' ∧ LT.lt (α := Nat) (L + 1 + 1 + 1) D' ∧ LT.lt (α := Nat) (L + 1 + 1) D' ∧ LT.lt (α := Nat) (L + 1) D' := by
      have lD' : LT.lt (α := Nat) (L + 1 + 1 + 1 + 1 + 1 + 1 + 1 + 1 + 1) D' := Nat.lt_of_lt_of_le (Heap.lt_size (N ((L + 1 + 1 + 1 + 1 + 1 + 1 + 1 + 1 + 1), c9) (by simp)).1) hD
      exact gt9 lD'
    clear hP hk F N hget src hD
    k_steps
    unfold Halt
    refine wpAny_execs_cons ?_
    refine wpAny_with_toks (n := s.toks) (by dsimp only at *; omega) ?_
    k_steps
    unfold Halt
    rename Fr _ _ _ _ => F3
    rename News _ _ _ _ => N3
    refine newList_O F3 N3 (fun P h5 hP F5 N5 => ?_) (by rw [sizeLine_eq]; show 1 ≤ _; decide)
    have lP : LT.lt (α := Nat) D' P := hP (D', listOf ys k) (.head _)
    clear hP
    k_steps
    unfold Halt
    rename Fr _ _ _ _ => F6
    rename News _ _ _ _ => N6
    rename s.toks ≤ _ => hle9
    exact hnext _ _ _ _ P D' ys _ k _ F6 N6 l2.1 lP (by dsimp only at *; omega) (by assumption) (by assumption) hI (.cons _ _ .nil)
end

-- part C18
set_option maxRecDepth 100000
set_option maxHeartbeats 16000000

section

local macro_rules | `(tactic| walk_at "call builtin:len") => `(tactic| ((with_reducible show wpAny _ _ (call (Value.builtin "len") [Value.ref _]) _ _ _); refine len_list (News.isList (by assumption) (by first | exact .head _ | exact .tail _ (.head _))) (by rw [List.size_toArray]; omega) ?_; rw [List.size_toArray]))
local macro_rules | `(tactic| walk_at "subscriptTail Name Name ref int") => `(tactic| refine to_halt ?_)
local macro_rules | `(tactic| walk_at "subscriptTail Name BinOp ref int") => `(tactic| refine to_halt ?_)
local macro_rules | `(tactic| walk_at "call builtin:list.append") => `(tactic| refine to_halt ?_)
local macro_rules | `(tactic| walk_at "exec While Compare cons nil") => `(tactic| refine to_halt ?_)
theorem ints_get {vs : List Value} {ns : List Int} (h : IntsAre vs ns) : ∀ i, i < ns.length → ∃ t, vs[i]? = some (.int (ns.getD i 0) t) := by
  induction h with
  | nil => intro i hi; simp at hi
  | cons a t r ih =>
    intro i hi
    cases i with
    | zero => exact ⟨t, by simp⟩
    | succ i =>
      obtain ⟨t', e⟩ := ih i (by simpa using hi)
      exact ⟨t', by simpa using e⟩
theorem item_ints {prog : Program} {w : World} {A : Around} {E : Value → Shared → Prop} {s : Shared} {value slice : PySem.Expr} {l : Addr} {vs : List Value} {ns : List Int} {k : Int} {u : Tok} {Q : Value → Shared → Prop} (hl : s.heap.IsList l vs.toArray) (hi : IntsAre vs ns)
    (h0 : 0 ≤ k) (h1 : k < ns.length) (h2 : ns.length < 1000) (h : ∀ t, Q (.int (ns.getD k.toNat 0) t) s)
    (hs : subscripted slice false (.ref l) (.int k u) = operate [.ref l, .int k u] (getItem (.ref l) (.int k u)) := by with_unfolding_all rfl) (hg : ∀ r, letTemporaryGo value (.ref l) r = pure () := by intro _; with_unfolding_all rfl) :
    wpAny (model prog w) A (subscriptTail value slice (.ref l) (.int k u)) Q E s := by
  obtain ⟨t, e⟩ := ints_get hi k.toNat (by omega)
  exact item_list hl h0 (by omega) (by rw [List.getElem?_toArray]; exact e) (h t) hs hg

/-- small laws of places, so that the walk's steps bear short proofs -/
theorem ixj (j : Nat) : (0 : Int) + (j : Int) * 1 = (j : Int) := by omega
theorem ixk {a b j : Nat} (h : a = b) (hj : j < b) : (a : Int) - 1 - (0 + (j : Int) * 1) = ((b - 1 - j : Nat) : Int) := by omega
theorem ixm {b j : Nat} (hj : j < b) : b - 1 - j < b := by omega
theorem item_eq {prog : Program} {w : World} {A : Around} {E : Value → Shared → Prop} {s : Shared} {value slice : PySem.Expr} {l : Addr} {vs : List Value} {ns : List Int} {k : Int} {u : Tok} {Q : Value → Shared → Prop} (j : Nat) (v : Int) (hl : s.heap.IsList l vs.toArray) (hi : IntsAre vs ns)
    (hk : k = (j : Int)) (h1 : j < ns.length) (h2 : ns.length < 1000) (hv : ns.getD j 0 = v) (h : ∀ t, Q (.int v t) s)
    (hs : subscripted slice false (.ref l) (.int k u) = operate [.ref l, .int k u] (getItem (.ref l) (.int k u)) := by with_unfolding_all rfl) (hg : ∀ r, letTemporaryGo value (.ref l) r = pure () := by intro _; with_unfolding_all rfl) :
    wpAny (model prog w) A (subscriptTail value slice (.ref l) (.int k u)) Q E s := by
  subst hv
  refine item_ints hl hi (by omega) (by omega) h2 (fun t => ?_) hs hg
  have e : k.toNat = j := by omega
  rw [e]
  exact h t

def totF (W pl : List Int) : Nat → Int
  | 0 => if pl.length < W.length then 1 else 0
  | j + 1 => totF W pl j + W.getD j 0 * pl.getD (pl.length - 1 - j) 0
def plF (W : List Int) : Nat → List Int
  | 0 => [1]
  | n + 1 => plF W n ++ [totF W (plF W n) (min (plF W n).length W.length)]
theorem plF_length (W : List Int) : ∀ n, (plF W n).length = n + 1
  | 0 => rfl
  | n + 1 => by rw [plF, List.length_append, plF_length W n]; rfl

theorem range_up : ∀ n : Nat, n ≤ 12 → Builtin.Range.small 0 (n : Int) 1 = true ∧ Builtin.Range.rangeSize 0 (n : Int) 1 = (n : Int) := by decide

theorem getD_of {p : Int → Prop} {W : List Int} (h : ∀ x ∈ W, p x) (j : Nat) (hj : j < W.length) : p (W.getD j 0) := by
  rw [List.getD_eq_getElem?_getD, List.getElem?_eq_getElem hj]
  exact h _ (List.getElem_mem hj)
theorem mul_bd {x y : Int} (x0 : 0 ≤ x) (x2 : x ≤ 2) (y0 : 0 ≤ y) (y1 : y < 2 ^ 30) : x * y < 2 ^ 42 := by
  have := Int.mul_le_mul_of_nonneg_right x2 y0
  omega

theorem append_head {prog : Program} {w : World} {A : Around} {E : Value → Shared → Prop} {s : Shared} {h₀ : Heap} {L D : Addr} {m : Str → Option Value} {vs : List Value} {n : Nat} {x : Value} {r : List (Addr × Obj)} {Q : Value → Shared → Prop} (F : Fr h₀ L s.heap m) (N : News h₀ L s.heap ((D, listOf vs.toArray n) :: r)) (hr : ∀ p ∈ r, p.1 ≠ D)
    (hsz : vs.length ≤ sizeLine) (h : ∀ h', Fr h₀ L h' m → News h₀ L h' ((D, listOf (vs ++ [x]).toArray (n + 1)) :: r) → Q .none { s with heap := h' }) : wpAny (model prog w) A (call (.builtin "list.append") [.ref D, x]) Q E s :=
  append_K F N (.head hr) (fun h' F' N' => h h' F' (by rw [List.push_toArray] at N'; exact N')) (by rw [List.size_toArray]; exact hsz)

structure PlInv (s : Shared) (h0 : Heap) (L l : Addr) (DP : Nat) (news : List (Addr × Obj)) (W : List Int) (k : Nat) (s' : Shared) (h : Heap) (tk : Nat) (m' : Str → Option Value) (vs : List Value) (kk i : Nat) : Prop where
  e : s' = { s with heap := h, toks := tk }
  le : s.toks ≤ tk
  F : Fr h0 L h m'
  ms : m' (Str.ofString "script") = some (.ref l)
  N : News h0 L h ((DP, listOf vs.toArray kk) :: news)
  ia : IntsAre vs (plF W i)
  hi : i ≤ 12
  k : k = 12 - i
def PlI (s : Shared) (h0 : Heap) (L l : Addr) (DP : Nat) (news : List (Addr × Obj)) (W : List Int) (k : Nat) (s' : Shared) : Prop :=
  ∃ h tk m' vs kk i, PlInv s h0 L l DP news W k s' h tk m' vs kk i

def SegE2 (w : World) (mean : ExcName → Option Value) (mg mb : Str → Option Value) (name : Str) (scope : Scope) (body : List Stmt) : Prop :=
  ∀ (s : Shared) (Q : Flow → Shared → Prop) (E : Value → Shared → Prop) (h0 : Heap) (L fa l : Addr) (cd : Value) (m : Str → Option Value) (c1 c2 c3 c4 c5 c6 c7 c8 c9 : Obj) (S ld : Str) (W : List Int) (tL : Tok) (DP DW : Nat) (ws ps : List Value) (n k : Nat),
   PC w mean mg mb h0 → Cfg S ld W → (∀ i, i ≤ 12 → ∀ y ∈ plF W i, 0 ≤ y ∧ y < 2 ^ 30) →
   m (Str.ofString "script") = some (.ref l) →
   Fr h0 L s.heap m → News h0 L s.heap [(DP, listOf ps.toArray k), (DW, listOf ws.toArray n), (L + 1 + 1 + 1 + 1 + 1 + 1 + 1 + 1 + 1, c9), (L + 1 + 1 + 1 + 1 + 1 + 1 + 1 + 1, c8), (L + 1 + 1 + 1 + 1 + 1 + 1 + 1, c7), (L + 1 + 1 + 1 + 1 + 1 + 1, c6), (L + 1 + 1 + 1 + 1 + 1, c5), (L + 1 + 1 + 1 + 1, c4), (L + 1 + 1 + 1, c3), (L + 1 + 1, c2), (L + 1, c1)] → LT.lt (α := Nat) (L + 1 + 1 + 1 + 1 + 1 + 1 + 1 + 1 + 1) DW → LT.lt (α := Nat) DW DP → 0 < s.toks →
   c3.data = .cell (some (.str ld tL)) → c4.data = .cell (some (.ref DW)) → c5.data = .cell (some (.ref DP)) → IntsAre ws W → IntsAre ps [1] →
   (∀ (h : Heap) (tk : Nat) (m' : Str → Option Value) (ps : List Value) (k : Nat), Fr h0 L h m' → m' (Str.ofString "script") = some (.ref l) → News h0 L h [(DP, listOf ps.toArray k), (DW, listOf ws.toArray n), (L + 1 + 1 + 1 + 1 + 1 + 1 + 1 + 1 + 1, c9), (L + 1 + 1 + 1 + 1 + 1 + 1 + 1 + 1, c8), (L + 1 + 1 + 1 + 1 + 1 + 1 + 1, c7), (L + 1 + 1 + 1 + 1 + 1 + 1, c6), (L + 1 + 1 + 1 + 1 + 1, c5), (L + 1 + 1 + 1 + 1, c4), (L + 1 + 1 + 1, c3), (L + 1 + 1, c2), (L + 1, c1)] → 0 < tk →
     IntsAre ps (plF W 12) → wpAny (model PySem.Challenge.rw_sw0037_01.row.prog w) (callerA.deeper (envOfC name scope L fa cd)) (execs (body.drop 12) (envOfC name scope L fa cd)) Q E { s with heap := h, toks := tk }) →
   wpAny (model PySem.Challenge.rw_sw0037_01.row.prog w) (callerA.deeper (envOfC name scope L fa cd)) (execs (body.drop 11) (envOfC name scope L fa cd)) Q E s

theorem segE2 (w : World) (mean : ExcName → Option Value) (mg mb : Str → Option Value) : LawB w (SegE2 w mean mg mb) := by
  refine LawB.intro (by with_unfolding_all rfl) ?_
  intro s Q E h0 L fa l cd m c1 c2 c3 c4 c5 c6 c7 c8 c9 S ld W tL DP DW ws ps n k P K hpl hm F N lW lP hs0 d3 d4 d5 iW iP hnext
  have hW9 : Hide (IntsAre ws W) := ⟨iW⟩
  have P0 := P
  obtain ⟨X, T⟩ := P
  revert X; k_fill; intro X
  have lW9 : LT.lt (α := Nat) (L + 1 + 1 + 1 + 1 + 1 + 1 + 1 + 1 + 1) DW ∧ LT.lt (α := Nat) (L + 1 + 1 + 1 + 1 + 1 + 1 + 1 + 1) DW ∧ LT.lt (α := Nat) (L + 1 + 1 + 1 + 1 + 1 + 1 + 1) DW ∧ LT.lt (α := Nat) (L + 1 + 1 + 1 + 1 + 1 + 1) DW ∧ LT.lt (α := Nat) (L + 1 + 1 + 1 + 1 + 1) DW ∧ LT.lt (α := Nat) (L + 1 + 1 + 1 + 1) DW ∧ LT.lt (α := Nat) (L + 1 + 1 + 1) DW ∧ LT.lt (α := Nat) (L + 1 + 1) DW ∧ LT.lt (α := Nat) (L + 1) DW := gt9 lW
  have lP9 : LT.lt (α := Nat) (L + 1 + 1 + 1 + 1 + 1 + 1 + 1 + 1 + 1) DP ∧ LT.lt (α := Nat) (L + 1 + 1 + 1 + 1 + 1 + 1 + 1 + 1) DP ∧ LT.lt (α := Nat) (L + 1 + 1 + 1 + 1 + 1 + 1 + 1) DP ∧ LT.lt (α := Nat) (L + 1 + 1 + 1 + 1 + 1 + 1) DP ∧ LT.lt (α := Nat) (L + 1 + 1 + 1 + 1 + 1) DP ∧ LT.lt (α := Nat) (L + 1 + 1 + 1 + 1) DP ∧ LT.lt (α := Nat) (L + 1 + 1 + 1) DP ∧ LT.lt (α := Nat) (L + 1 + 1) DP ∧ LT.lt (α := Nat) (L + 1) DP := gt9 (Nat.lt_trans lW lP)
  dsimp only [List.drop]
  refine wpAny_execs_cons ?_
  k_steps
  unfold Halt
  have hr9 : ∀ p ∈ [(DW, listOf ws.toArray n), (L + 1 + 1 + 1 + 1 + 1 + 1 + 1 + 1 + 1, c9), (L + 1 + 1 + 1 + 1 + 1 + 1 + 1 + 1, c8), (L + 1 + 1 + 1 + 1 + 1 + 1 + 1, c7), (L + 1 + 1 + 1 + 1 + 1 + 1, c6), (L + 1 + 1 + 1 + 1 + 1, c5), (L + 1 + 1 + 1 + 1, c4), (L + 1 + 1 + 1, c3), (L + 1 + 1, c2), (L + 1, c1)], p.1 ≠ DP := ne_cons lP (ne9 (Nat.lt_trans lW lP))
  refine my_while (PlI s h0 L l DP [(DW, listOf ws.toArray n), (L + 1 + 1 + 1 + 1 + 1 + 1 + 1 + 1 + 1, c9), (L + 1 + 1 + 1 + 1 + 1 + 1 + 1 + 1, c8), (L + 1 + 1 + 1 + 1 + 1 + 1 + 1, c7), (L + 1 + 1 + 1 + 1 + 1 + 1, c6), (L + 1 + 1 + 1 + 1 + 1, c5), (L + 1 + 1 + 1 + 1, c4), (L + 1 + 1 + 1, c3), (L + 1 + 1, c2), (L + 1, c1)] W) ?_ 12 ⟨s.heap, s.toks, m, ps, k, 0, ⟨rfl, Nat.le_refl _, F, hm, N, iP, by decide, rfl⟩⟩
  rintro nn s' ⟨h, tk, m', vs, kk, i, ⟨rfl, le', F3, ms, N3, ia, hi, rfl⟩⟩
  clear F N iP hm
  have hlen := ia.length
  rw [plF_length] at hlen
  have hllen := K.len
  have hl2 := K.len2
  have hl3 := K.len3
  clear lW lP
  k_steps
  · unfold Halt
    refine wpAny_execs_cons ?_
    k_steps
    unfold Halt
    refine wpAny_execs_cons ?_
    k_steps
    · have ht0 : totF W (plF W i) 0 = 1 := by rw [totF, if_pos (by rw [plF_length]; omega)]
      unfold Halt
      refine wpAny_execs_cons ?_
      refine wpAny_with_toks (n := s.toks) (by dsimp only; omega) ?_
      refine for_T h0 rfl rfl ?_
      k_steps
      unfold Halt
      rename Fr _ _ _ _ => F5
      rename News _ _ _ _ => N5
      rename IsRange _ _ _ _ _ _ _ _ => hr
      rename IntsAre vs (plF W i) => ia
      obtain ⟨q1, q2⟩ := range_up (min (plF W i).length W.length) (by omega)
      have e5 : (if (ld.length : Int) < ((plF W i).length : Int) then (ld.length : Int) else ((plF W i).length : Int)) = ((min (plF W i).length W.length : Nat) : Int) := by rw [hllen]; split <;> omega
      rw [e5] at hr
      clear e5
      have hlen2 := plF_length W i
      have hi9 : i ≤ 12 := hi
      have lenW : W.length < 1000 := by omega
      have lenP : (plF W i).length < 1000 := by omega
      have ia9 : Hide (IntsAre vs (plF W i)) := ⟨ia⟩
      refine iter_rangeT (min (plF W i).length W.length) (fun j m => m (Str.ofString "script") = some (.ref l) ∧ (∃ t, m (Str.ofString "count") = some (.int (vs.length : Int) t)) ∧ ∃ t, m (Str.ofString "total") = some (.int (totF W (plF W i) j) t)) (by with_unfolding_all rfl) hr q1 q2 F5 N5 ⟨ms, ⟨_, rfl⟩, ⟨_, by rw [ht0]; rfl⟩⟩ ?_ ?_
      · rintro I j t m₁ h6 o hI ht hj ⟨ms6, ⟨tc, mc⟩, tt, mt⟩ F6 N6
        clear F5 N5 hr
        refine wpAny_execs_cons ?_
        k_steps
        unfold Halt
        have jW : j < W.length := Nat.lt_of_lt_of_le hj (Nat.min_le_right _ _)
        have jP : j < (plF W i).length := Nat.lt_of_lt_of_le hj (Nat.min_le_left _ _)
        have w1 := getD_of K.wlo j jW
        have w2 := getD_of K.whi j jW
        have p1 := getD_of (hpl i hi9) ((plF W i).length - 1 - j) (ixm jP)
        have eT : totF W (plF W i) (j + 1) = totF W (plF W i) j + W.getD j 0 * (plF W i).getD ((plF W i).length - 1 - j) 0 := by rw [totF]
        refine item_eq j (W.getD j 0) (News.isList N6 (.tail _ (.tail _ (.head _)))) hW9.out (ixj j) jW lenW rfl fun tw => ?_
        generalize W.getD j 0 = x at w1 w2 eT ⊢
        k_steps
        unfold Halt
        refine item_eq ((plF W i).length - 1 - j) ((plF W i).getD ((plF W i).length - 1 - j) 0) (News.isList N6 (.tail _ (.head _))) ia9.out (ixk ia9.out.length jP) (ixm jP) lenP rfl fun tp => ?_
        generalize (plF W i).getD ((plF W i).length - 1 - j) 0 = y at p1 eT ⊢
        generalize totF W (plF W i) j = T at mt eT ⊢
        k_steps
        unfold Halt
        refine mul_ints w mean mg mb _ _ _ _ x y _ _ (P0.keeps F6.keep) (by show callerA.depth + 1 + 1 < recursionLimit; decide) w1 w2 p1.1 (by omega) (mul_bd w1 w2 p1.1 p1.2) ?_
        intro tk7 h7 tk8 l7 l8 hk7
        have F7 := F6.keeps hk7
        have N7 := N6.grown hk7
        clear F6 N6 hk7
        k_steps
        unfold Halt
        refine add_ints w mean mg mb _ _ _ _ T (x * y) _ _ (P0.keeps F7.keep) (by show callerA.depth + 1 + 1 < recursionLimit; decide) ?_
        intro tk9 h9 tk10 l9 l10 hk9
        have F9 := F7.keeps hk9
        have N9 := N7.grown hk9
        clear F7 N7 hk9
        rw [← eT]
        k_steps
        rename Fr _ _ _ _ => F10
        rename News _ _ _ _ => N10
        exact FPost.nextI F10 N10 ⟨ms6, ⟨_, mc⟩, ⟨_, rfl⟩⟩
      · rintro m₁ h6 tk6 ht6 ⟨ms6, ⟨tc, mc⟩, tt, mt⟩ F6 N6
        clear F5 N5 hr
        have eP : plF W (i + 1) = plF W i ++ [totF W (plF W i) (min (plF W i).length W.length)] := by rw [plF]
        generalize totF W (plF W i) (min (plF W i).length W.length) = T at mt eP
        k_steps
        unfold Halt
        refine wpAny_execs_cons ?_
        have hz : vs.toArray.size = i + 1 := by rw [List.size_toArray]; exact hlen
        k_steps
        unfold Halt
        rename Fr _ _ _ _ => F7
        rename News _ _ _ _ => N7
        refine append_head F7 N7 hr9 (by rw [sizeLine_eq]; omega) fun h8 F8 N8 => ?_
        clear F7 N7
        k_steps
        rename s.toks ≤ _ => hle9
        have N9 : News h0 L h8 ((DP, listOf (vs ++ [Value.int T tt]).toArray (kk + 1)) :: [(DW, listOf ws.toArray n), (L + 1 + 1 + 1 + 1 + 1 + 1 + 1 + 1 + 1, c9), (L + 1 + 1 + 1 + 1 + 1 + 1 + 1 + 1, c8), (L + 1 + 1 + 1 + 1 + 1 + 1 + 1, c7), (L + 1 + 1 + 1 + 1 + 1 + 1, c6), (L + 1 + 1 + 1 + 1 + 1, c5), (L + 1 + 1 + 1 + 1, c4), (L + 1 + 1 + 1, c3), (L + 1 + 1, c2), (L + 1, c1)]) := N8
        refine ⟨12 - (i + 1), by omega, h8, _, _, vs ++ [Value.int T tt], kk + 1, i + 1, ⟨rfl, by dsimp only at *; omega, F8, ms6, N9, ?_, by omega, rfl⟩⟩
        rw [eP]
        exact ia.append (.cons _ _ .nil)
    · have ht0 : totF W (plF W i) 0 = 0 := by rw [totF, if_neg (by rw [plF_length]; omega)]
      unfold Halt
      refine wpAny_execs_cons ?_
      refine wpAny_with_toks (n := s.toks) (by dsimp only; omega) ?_
      refine for_T h0 rfl rfl ?_
      k_steps
      unfold Halt
      rename Fr _ _ _ _ => F5
      rename News _ _ _ _ => N5
      rename IsRange _ _ _ _ _ _ _ _ => hr
      rename IntsAre vs (plF W i) => ia
      obtain ⟨q1, q2⟩ := range_up (min (plF W i).length W.length) (by omega)
      have e5 : (if (ld.length : Int) < ((plF W i).length : Int) then (ld.length : Int) else ((plF W i).length : Int)) = ((min (plF W i).length W.length : Nat) : Int) := by rw [hllen]; split <;> omega
      rw [e5] at hr
      clear e5
      have hlen2 := plF_length W i
      have hi9 : i ≤ 12 := hi
      have lenW : W.length < 1000 := by omega
      have lenP : (plF W i).length < 1000 := by omega
      have ia9 : Hide (IntsAre vs (plF W i)) := ⟨ia⟩
      refine iter_rangeT (min (plF W i).length W.length) (fun j m => m (Str.ofString "script") = some (.ref l) ∧ (∃ t, m (Str.ofString "count") = some (.int (vs.length : Int) t)) ∧ ∃ t, m (Str.ofString "total") = some (.int (totF W (plF W i) j) t)) (by with_unfolding_all rfl) hr q1 q2 F5 N5 ⟨ms, ⟨_, rfl⟩, ⟨_, by rw [ht0]; rfl⟩⟩ ?_ ?_
      · rintro I j t m₁ h6 o hI ht hj ⟨ms6, ⟨tc, mc⟩, tt, mt⟩ F6 N6
        clear F5 N5 hr
        refine wpAny_execs_cons ?_
        k_steps
        unfold Halt
        have jW : j < W.length := Nat.lt_of_lt_of_le hj (Nat.min_le_right _ _)
        have jP : j < (plF W i).length := Nat.lt_of_lt_of_le hj (Nat.min_le_left _ _)
        have w1 := getD_of K.wlo j jW
        have w2 := getD_of K.whi j jW
        have p1 := getD_of (hpl i hi9) ((plF W i).length - 1 - j) (ixm jP)
        have eT : totF W (plF W i) (j + 1) = totF W (plF W i) j + W.getD j 0 * (plF W i).getD ((plF W i).length - 1 - j) 0 := by rw [totF]
        refine item_eq j (W.getD j 0) (News.isList N6 (.tail _ (.tail _ (.head _)))) hW9.out (ixj j) jW lenW rfl fun tw => ?_
        generalize W.getD j 0 = x at w1 w2 eT ⊢
        k_steps
        unfold Halt
        refine item_eq ((plF W i).length - 1 - j) ((plF W i).getD ((plF W i).length - 1 - j) 0) (News.isList N6 (.tail _ (.head _))) ia9.out (ixk ia9.out.length jP) (ixm jP) lenP rfl fun tp => ?_
        generalize (plF W i).getD ((plF W i).length - 1 - j) 0 = y at p1 eT ⊢
        generalize totF W (plF W i) j = T at mt eT ⊢
        k_steps
        unfold Halt
        refine mul_ints w mean mg mb _ _ _ _ x y _ _ (P0.keeps F6.keep) (by show callerA.depth + 1 + 1 < recursionLimit; decide) w1 w2 p1.1 (by omega) (mul_bd w1 w2 p1.1 p1.2) ?_
        intro tk7 h7 tk8 l7 l8 hk7
        have F7 := F6.keeps hk7
        have N7 := N6.grown hk7
        clear F6 N6 hk7
        k_steps
        unfold Halt
        refine add_ints w mean mg mb _ _ _ _ T (x * y) _ _ (P0.keeps F7.keep) (by show callerA.depth + 1 + 1 < recursionLimit; decide) ?_
        intro tk9 h9 tk10 l9 l10 hk9
        have F9 := F7.keeps hk9
        have N9 := N7.grown hk9
        clear F7 N7 hk9
        rw [← eT]
        k_steps
        rename Fr _ _ _ _ => F10
        rename News _ _ _ _ => N10
        exact FPost.nextI F10 N10 ⟨ms6, ⟨_, mc⟩, ⟨_, rfl⟩⟩
      · rintro m₁ h6 tk6 ht6 ⟨ms6, ⟨tc, mc⟩, tt, mt⟩ F6 N6
        clear F5 N5 hr
        have eP : plF W (i + 1) = plF W i ++ [totF W (plF W i) (min (plF W i).length W.length)] := by rw [plF]
        generalize totF W (plF W i) (min (plF W i).length W.length) = T at mt eP
        k_steps
        unfold Halt
        refine wpAny_execs_cons ?_
        have hz : vs.toArray.size = i + 1 := by rw [List.size_toArray]; exact hlen
        k_steps
        unfold Halt
        rename Fr _ _ _ _ => F7
        rename News _ _ _ _ => N7
        refine append_head F7 N7 hr9 (by rw [sizeLine_eq]; omega) fun h8 F8 N8 => ?_
        clear F7 N7
        k_steps
        rename s.toks ≤ _ => hle9
        have N9 : News h0 L h8 ((DP, listOf (vs ++ [Value.int T tt]).toArray (kk + 1)) :: [(DW, listOf ws.toArray n), (L + 1 + 1 + 1 + 1 + 1 + 1 + 1 + 1 + 1, c9), (L + 1 + 1 + 1 + 1 + 1 + 1 + 1 + 1, c8), (L + 1 + 1 + 1 + 1 + 1 + 1 + 1, c7), (L + 1 + 1 + 1 + 1 + 1 + 1, c6), (L + 1 + 1 + 1 + 1 + 1, c5), (L + 1 + 1 + 1 + 1, c4), (L + 1 + 1 + 1, c3), (L + 1 + 1, c2), (L + 1, c1)]) := N8
        refine ⟨12 - (i + 1), by omega, h8, _, _, vs ++ [Value.int T tt], kk + 1, i + 1, ⟨rfl, by dsimp only at *; omega, F8, ms6, N9, ?_, by omega, rfl⟩⟩
        rw [eP]
        exact ia.append (.cons _ _ .nil)
  · unfold Halt
    have hi12 : i = 12 := by omega
    subst hi12
    exact hnext _ _ _ _ _ F3 ms N3 (by omega) ia
end

-- part C19
set_option maxRecDepth 100000
set_option maxHeartbeats 16000000

section

local macro_rules | `(tactic| walk_at "subscriptTail Name Name ref int") => `(tactic| refine to_halt ?_)
local macro_rules | `(tactic| walk_at "subscriptTail Name Constant ref int") => `(tactic| refine to_halt ?_)
local macro_rules | `(tactic| walk_at "call builtin:list.append") => `(tactic| refine to_halt ?_)
local macro_rules | `(tactic| walk_at "binaryOp Add str str") => `(tactic| refine to_halt ?_)
local macro_rules | `(tactic| walk_at "exec For Name Subscript cons nil") => `(tactic| refine to_halt ?_)
section
variable {w : World} {A : Around} {E : Value → Shared → Prop} {s : Shared} {Q : Value → Shared → Prop}
theorem slice_ns_keep {prog : Program} {value slice : PySem.Expr} {x : Str} {t : Tok} {i : Int} {ui : Tok}
    (h : ∀ h' t' k, (∀ b o, s.heap.get? b = some o → h'.get? b = some o) → Q (.str (Txt.slice x none (some i)) t') { s with heap := h', toks := k })
    (hs : subscripted slice false (.str x t) (.ref s.heap.objs.size) = operate [.ref s.heap.objs.size, .str x t] (getItem (.str x t) (.ref s.heap.objs.size)) := by with_unfolding_all rfl)
    (ht : ∀ r, letTemporaryGo value (.str x t) r = pure () := by intro _; with_unfolding_all rfl) (hsz : x.length ≤ sizeLine) :
    wpAny (model prog w) A (subscriptTail value slice (.str x t) (.ref s.heap.objs.size)) Q E { s with heap := s.heap.push { cls := .type "slice", data := .fields #[.none, .int i ui, .none] } } :=
  tail_of_ItemOn (SBH.sliceItem_ns keptOld (fun _ _ e => e) h hsz) hs ht
theorem slice_ss_keep {prog : Program} {value slice : PySem.Expr} {x : Str} {t : Tok} {i j : Int} {ui uj : Tok}
    (h : ∀ h' t' k, (∀ b o, s.heap.get? b = some o → h'.get? b = some o) → Q (.str (Txt.slice x (some i) (some j)) t') { s with heap := h', toks := k })
    (hs : subscripted slice false (.str x t) (.ref s.heap.objs.size) = operate [.ref s.heap.objs.size, .str x t] (getItem (.str x t) (.ref s.heap.objs.size)) := by with_unfolding_all rfl)
    (ht : ∀ r, letTemporaryGo value (.str x t) r = pure () := by intro _; with_unfolding_all rfl) (hsz : x.length ≤ sizeLine) :
    wpAny (model prog w) A (subscriptTail value slice (.str x t) (.ref s.heap.objs.size)) Q E { s with heap := s.heap.push { cls := .type "slice", data := .fields #[.int i ui, .int j uj, .none] } } :=
  tail_of_ItemOn (SBH.sliceItem_ss keptOld (fun _ _ e => e) h hsz) hs ht
end

theorem range_1 : ∀ n : Nat, n ≤ 12 → Builtin.Range.small 1 (n : Int) 1 = true ∧ Builtin.Range.rangeSize 1 (n : Int) 1 = ((n - 1 : Nat) : Int) := by decide

/-- the signs above the j-th figure and not above the first -/
def aboveF (S : Str) (W : List Int) (j : Nat) : Str := Txt.slice S (some (W.getD j 0 + 1)) (some (W.getD 0 0 + 1))
def barF (S ld : Str) (W : List Int) : Nat → List Str
  | 0 => [ld]
  | i + 1 => barF S ld W i ++ (aboveF S W (i + 1)).cps.toList.map fun c => Txt.slice ld none (some ((i + 1 : Nat) : Int)) ++ ⟨#[c]⟩

def SegF (w : World) (mean : ExcName → Option Value) (mg mb : Str → Option Value) (name : Str) (scope : Scope) (body : List Stmt) : Prop :=
  ∀ (s : Shared) (Q : Flow → Shared → Prop) (E : Value → Shared → Prop) (h0 : Heap) (L fa l : Addr) (cd : Value) (m : Str → Option Value) (c1 c2 c3 c4 c5 c6 c7 c8 c9 : Obj) (S ld : Str) (W : List Int) (tS tL : Tok) (DP DW : Nat) (ws ps : List Value) (n k : Nat),
   PC w mean mg mb h0 → Cfg S ld W → (∀ i, i ≤ 2 → (barF S ld W i).length ≤ 10) →
   m (Str.ofString "script") = some (.ref l) →
   Fr h0 L s.heap m → News h0 L s.heap [(DP, listOf ps.toArray k), (DW, listOf ws.toArray n), (L + 1 + 1 + 1 + 1 + 1 + 1 + 1 + 1 + 1, c9), (L + 1 + 1 + 1 + 1 + 1 + 1 + 1 + 1, c8), (L + 1 + 1 + 1 + 1 + 1 + 1 + 1, c7), (L + 1 + 1 + 1 + 1 + 1 + 1, c6), (L + 1 + 1 + 1 + 1 + 1, c5), (L + 1 + 1 + 1 + 1, c4), (L + 1 + 1 + 1, c3), (L + 1 + 1, c2), (L + 1, c1)] → LT.lt (α := Nat) (L + 1 + 1 + 1 + 1 + 1 + 1 + 1 + 1 + 1) DW → LT.lt (α := Nat) DW DP → 0 < s.toks →
   c1.data = .cell (some (.str S tS)) → c3.data = .cell (some (.str ld tL)) → c4.data = .cell (some (.ref DW)) → c6.data = .cell none → IntsAre ws W →
   (∀ (h : Heap) (tk : Nat) (m' : Str → Option Value) (DB : Nat) (bs : List Value) (kb : Nat) (c6 : Obj), Fr h0 L h m' → m' (Str.ofString "script") = some (.ref l) → News h0 L h [(DB, listOf bs.toArray kb), (DP, listOf ps.toArray k), (DW, listOf ws.toArray n), (L + 1 + 1 + 1 + 1 + 1 + 1 + 1 + 1 + 1, c9), (L + 1 + 1 + 1 + 1 + 1 + 1 + 1 + 1, c8), (L + 1 + 1 + 1 + 1 + 1 + 1 + 1, c7), (L + 1 + 1 + 1 + 1 + 1 + 1, c6), (L + 1 + 1 + 1 + 1 + 1, c5), (L + 1 + 1 + 1 + 1, c4), (L + 1 + 1 + 1, c3), (L + 1 + 1, c2), (L + 1, c1)] → LT.lt (α := Nat) DP DB → 0 < tk →
     c6.data = .cell (some (.ref DB)) → StrsAre bs (barF S ld W (W.length - 1)) → wpAny (model PySem.Challenge.rw_sw0037_01.row.prog w) (callerA.deeper (envOfC name scope L fa cd)) (execs (body.drop 14) (envOfC name scope L fa cd)) Q E { s with heap := h, toks := tk }) →
   wpAny (model PySem.Challenge.rw_sw0037_01.row.prog w) (callerA.deeper (envOfC name scope L fa cd)) (execs (body.drop 12) (envOfC name scope L fa cd)) Q E s

theorem segF (w : World) (mean : ExcName → Option Value) (mg mb : Str → Option Value) : LawB w (SegF w mean mg mb) := by
  refine LawB.intro (by with_unfolding_all rfl) ?_
  intro s Q E h0 L fa l cd m c1 c2 c3 c4 c5 c6 c7 c8 c9 S ld W tS tL DP DW ws ps n k P K hbl hm F N lW lP hs0 d1 d3 d4 d6 iW hnext
  have hW9 : Hide (IntsAre ws W) := ⟨iW⟩
  have P0 := P
  obtain ⟨X, T⟩ := P
  revert X; k_fill; intro X
  have lW9 : LT.lt (α := Nat) (L + 1 + 1 + 1 + 1 + 1 + 1 + 1 + 1 + 1) DW ∧ LT.lt (α := Nat) (L + 1 + 1 + 1 + 1 + 1 + 1 + 1 + 1) DW ∧ LT.lt (α := Nat) (L + 1 + 1 + 1 + 1 + 1 + 1 + 1) DW ∧ LT.lt (α := Nat) (L + 1 + 1 + 1 + 1 + 1 + 1) DW ∧ LT.lt (α := Nat) (L + 1 + 1 + 1 + 1 + 1) DW ∧ LT.lt (α := Nat) (L + 1 + 1 + 1 + 1) DW ∧ LT.lt (α := Nat) (L + 1 + 1 + 1) DW ∧ LT.lt (α := Nat) (L + 1 + 1) DW ∧ LT.lt (α := Nat) (L + 1) DW := gt9 lW
  have lP9 : LT.lt (α := Nat) (L + 1 + 1 + 1 + 1 + 1 + 1 + 1 + 1 + 1) DP ∧ LT.lt (α := Nat) (L + 1 + 1 + 1 + 1 + 1 + 1 + 1 + 1) DP ∧ LT.lt (α := Nat) (L + 1 + 1 + 1 + 1 + 1 + 1 + 1) DP ∧ LT.lt (α := Nat) (L + 1 + 1 + 1 + 1 + 1 + 1) DP ∧ LT.lt (α := Nat) (L + 1 + 1 + 1 + 1 + 1) DP ∧ LT.lt (α := Nat) (L + 1 + 1 + 1 + 1) DP ∧ LT.lt (α := Nat) (L + 1 + 1 + 1) DP ∧ LT.lt (α := Nat) (L + 1 + 1) DP ∧ LT.lt (α := Nat) (L + 1) DP := gt9 (Nat.lt_trans lW lP)
  dsimp only [List.drop]
  refine wpAny_execs_cons ?_
  refine wpAny_with_toks (n := s.toks) (Nat.le_refl _) ?_
  k_steps
  unfold Halt
  rename Fr _ _ _ _ => F3
  rename News _ _ _ _ => N3
  refine newList_O F3 N3 (fun DB h5 hP F5 N5 => ?_) (by rw [sizeLine_eq]; show 1 ≤ _; decide)
  have lB : LT.lt (α := Nat) DP DB := hP (DP, listOf ps.toArray k) (.head _)
  clear hP F3 N3
  have lB9 : LT.lt (α := Nat) (L + 1 + 1 + 1 + 1 + 1 + 1 + 1 + 1 + 1) DB ∧ LT.lt (α := Nat) (L + 1 + 1 + 1 + 1 + 1 + 1 + 1 + 1) DB ∧ LT.lt (α := Nat) (L + 1 + 1 + 1 + 1 + 1 + 1 + 1) DB ∧ LT.lt (α := Nat) (L + 1 + 1 + 1 + 1 + 1 + 1) DB ∧ LT.lt (α := Nat) (L + 1 + 1 + 1 + 1 + 1) DB ∧ LT.lt (α := Nat) (L + 1 + 1 + 1 + 1) DB ∧ LT.lt (α := Nat) (L + 1 + 1 + 1) DB ∧ LT.lt (α := Nat) (L + 1 + 1) DB ∧ LT.lt (α := Nat) (L + 1) DB := gt9 (Nat.lt_trans (Nat.lt_trans lW lP) lB)
  have hllen := K.len
  have hl2 := K.len2
  have hl3 := K.len3
  k_steps
  unfold Halt
  rename s.toks ≤ _ => hle9
  refine wpAny_execs_cons ?_
  refine wpAny_with_toks (n := s.toks) (by dsimp only at *; omega) ?_
  refine for_V h0 rfl rfl ?_
  k_steps
  unfold Halt
  rename Fr _ _ _ _ => F1
  rename News _ _ _ _ => N1
  rename IsRange _ _ _ _ _ _ _ _ => hr
  rename _ = Data.cell (some (Value.ref DB)) => d6'
  rename Obj => c6'
  rw [hllen] at hr
  obtain ⟨q1, q2⟩ := range_1 W.length (by omega)
  have hrB : ∀ p ∈ [(DP, listOf ps.toArray k), (DW, listOf ws.toArray n), (L + 1 + 1 + 1 + 1 + 1 + 1 + 1 + 1 + 1, c9), (L + 1 + 1 + 1 + 1 + 1 + 1 + 1 + 1, c8), (L + 1 + 1 + 1 + 1 + 1 + 1 + 1, c7), (L + 1 + 1 + 1 + 1 + 1 + 1, c6'), (L + 1 + 1 + 1 + 1 + 1, c5), (L + 1 + 1 + 1 + 1, c4), (L + 1 + 1 + 1, c3), (L + 1 + 1, c2), (L + 1, c1)], p.1 ≠ DB := ne_cons lB (ne_cons (Nat.lt_trans lP lB) (ne9 (Nat.lt_trans (Nat.lt_trans lW lP) lB)))
  clear d6
  refine iter_rangeV (W.length - 1) (fun i m' nw => m' (Str.ofString "script") = some (.ref l) ∧ ∃ (bs : List Value) (kb : Nat), nw = (DB, listOf bs.toArray kb) :: [(DP, listOf ps.toArray k), (DW, listOf ws.toArray n), (L + 1 + 1 + 1 + 1 + 1 + 1 + 1 + 1 + 1, c9), (L + 1 + 1 + 1 + 1 + 1 + 1 + 1 + 1, c8), (L + 1 + 1 + 1 + 1 + 1 + 1 + 1, c7), (L + 1 + 1 + 1 + 1 + 1 + 1, c6'), (L + 1 + 1 + 1 + 1 + 1, c5), (L + 1 + 1 + 1 + 1, c4), (L + 1 + 1 + 1, c3), (L + 1 + 1, c2), (L + 1, c1)] ∧ StrsAre bs (barF S ld W i)) (by with_unfolding_all rfl) hr q1 q2 F1 N1 ⟨hm, _, _, rfl, .cons _ _ .nil⟩ ?_ ?_
  · rintro I i t m₁ nw h o hI hnI ht hi ⟨ms, bs, kb, rfl, iB⟩ F2 N2
    clear F1 N1 hr
    have hIB : DB ≠ I := hnI _ (.head _)
    refine wpAny_execs_cons ?_
    refine for_V h0 rfl rfl ?_
    k_steps
    unfold Halt
    have e1 : (1 + (i : Int) * 1).toNat = i + 1 := by omega
    have e2 : 1 + (i : Int) * 1 = ((i + 1 : Nat) : Int) := by omega
    refine item_eq (i + 1) (W.getD (i + 1) 0) (News.isList N2 (.tail _ (.tail _ (.tail _ (.head _))))) hW9.out e2 (by omega) (by omega) rfl fun tw => ?_
    k_steps
    unfold Halt
    refine item_eq 0 (W.getD 0 0) (News.isList N2 (.tail _ (.tail _ (.tail _ (.head _))))) hW9.out rfl (by omega) (by omega) rfl fun tv => ?_
    k_steps
    unfold Halt
    refine slice_ss_keep (fun h6 t6 k6 hk6 => ?_) (hsz := by rw [K.s3, sizeLine_eq]; decide)
    have F3 := F2.keeps hk6
    have N3 := N2.grown hk6
    have eB : barF S ld W (i + 1) = barF S ld W i ++ (aboveF S W (i + 1)).cps.toList.map fun c => Txt.slice ld none (some ((i + 1 : Nat) : Int)) ++ ⟨#[c]⟩ := by rw [barF]
    have eA : aboveF S W (i + 1) = Txt.slice S (some (W.getD (i + 1) 0 + 1)) (some (W.getD 0 0 + 1)) := rfl
    have hB1 := hbl (i + 1) (by omega)
    rw [eB, List.length_append, List.length_map] at hB1
    rw [eA] at eB hB1
    generalize Txt.slice S (some (W.getD (i + 1) 0 + 1)) (some (W.getD 0 0 + 1)) = Z at eB hB1 ⊢
    clear F2 N2 hk6 eA
    refine iter_strV (fun q m' nw => m' (Str.ofString "script") = some (.ref l) ∧ m' (Str.ofString "j") = some (.int (1 + (i : Int) * 1) t) ∧ ∃ (bs : List Value) (kb : Nat), nw = (I, o) :: (DB, listOf bs.toArray kb) :: [(DP, listOf ps.toArray k), (DW, listOf ws.toArray n), (L + 1 + 1 + 1 + 1 + 1 + 1 + 1 + 1 + 1, c9), (L + 1 + 1 + 1 + 1 + 1 + 1 + 1 + 1, c8), (L + 1 + 1 + 1 + 1 + 1 + 1 + 1, c7), (L + 1 + 1 + 1 + 1 + 1 + 1, c6'), (L + 1 + 1 + 1 + 1 + 1, c5), (L + 1 + 1 + 1 + 1, c4), (L + 1 + 1 + 1, c3), (L + 1 + 1, c2), (L + 1, c1)] ∧ StrsAre bs (barF S ld W i ++ (Z.cps.toList.take q).map fun c => Txt.slice ld none (some ((i + 1 : Nat) : Int)) ++ ⟨#[c]⟩)) (by with_unfolding_all rfl) F3 N3 ⟨ms, rfl, _, _, rfl, by simpa using iB⟩ ?_ ?_
    · rintro I2 q c t2 m₂ nw h7 o2 hI2 hnI2 ht2 hc ⟨ms2, mj2, bs2, kb2, rfl, iB2⟩ F4 N4
      clear F3 N3
      have hlen2 := iB2.length
      have hq : q < Z.cps.size := by
        rcases Nat.lt_or_ge q Z.cps.size with e | e
        · exact e
        · rw [Array.getElem?_eq_none e] at hc; cases hc
      refine wpAny_execs_cons ?_
      k_steps
      unfold Halt
      refine slice_ns_keep (fun h8 t8 k8 hk8 => ?_) (hsz := by rw [hllen, sizeLine_eq]; omega)
      have F5 := F4.keeps hk8
      have N5 := N4.grown hk8
      clear F4 N4 hk8
      k_steps
      unfold Halt
      refine SBL.add (fun t9 k9 hle' => ?_) (hsz := ?_)
      · k_steps
        unfold Halt
        refine append_K F5 N5 (.tail (Ne.symm (hnI2 (DB, _) (.tail _ (.head _)))) (.tail (Ne.symm hIB) (.head hrB))) (fun h10 F10 N10 => ?_) (by rw [List.size_toArray, sizeLine_eq, hlen2, List.length_append, List.length_map, List.length_take]; clear hc; omega)
        rw [List.push_toArray] at N10
        clear F5 N5
        k_steps
        refine FPostV.nextI F10 N10 (fun p hp => ?_) ⟨ms2, mj2, bs2 ++ [Value.str (Txt.slice ld none (some (1 + (i : Int) * 1)) ++ ⟨#[c]⟩) t9], kb2 + 1, rfl, ?_⟩
        · rcases List.mem_cons.mp hp with rfl | hp
          · exact hnI2 (I, o) (.head _)
          rcases List.mem_cons.mp hp with rfl | hp
          · exact hnI2 (DB, listOf bs2.toArray kb2) (.tail _ (.head _))
          · exact hnI2 p (.tail _ (.tail _ hp))
        · rw [List.take_succ, List.map_append, ← List.append_assoc]
          refine StrsAre.append' iB2 ?_
          rw [Array.getElem?_toList, hc, e2]
          exact .cons _ _ .nil
      · have z1 := Txt.slice_le ld none (some (1 + (i : Int) * 1))
        have z2 : (⟨#[c]⟩ : Str).length = 1 := rfl
        rw [z2, sizeLine_eq]
        clear hc
        omega
    · rintro m₂ nw h7 tk7 ht7 ⟨ms2, mj2, bs2, kb2, rfl, iB2⟩ F4 N4
      clear F3 N3
      k_steps
      refine FPostV.nextI F4 N4 (fun p hp => ?_) ⟨ms2, bs2, kb2, rfl, ?_⟩
      · rcases List.mem_cons.mp hp with rfl | hp
        · exact hIB
        · exact hnI p (.tail _ hp)
      · rw [List.take_of_length_le (by simp)] at iB2
        rw [eB]
        exact iB2
  · rintro m₁ nw h tk ht ⟨ms, bs, kb, rfl, iB⟩ F2 N2
    clear F1 N1 hr
    k_steps
    unfold Halt
    exact hnext _ _ _ DB bs kb c6' F2 ms N2 lB (by dsimp only at *; omega) d6' iB
end

-- part CompN
set_option maxRecDepth 100000
set_option maxHeartbeats 16000000

section
variable {prog : Program} {w : World} {A : Around} {R : Result → Shared → Prop} {s : Shared}
variable {elt i0 i1 t0 t1 : PySem.Expr} {scope : Scope} {pos : Pos} {it acc : Value} {env : Env}

theorem compTurn_two0 (elt t0 i0 t1 i1 : PySem.Expr) (scope : Scope) (pos : Pos) (it acc : Value) (env : Env) :
    compTurn (.ListComp elt [⟨t0, i0, [], 0⟩, ⟨t1, i1, [], 0⟩] scope pos) 0 it acc env = (standAt i0.pos >>= fun _ => pyNext it >>= fun r => match r with
      | none => pure (.done .next)
      | some v => letOwnedTupleGo t0 it v >>= fun _ => assign t0 env v >>= fun _ =>
        (eval i1 env >>= fun x => standAt i1.pos >>= fun _ => foldedSetIterable i1 env x >>= fun x => holding [x] (pyIter x) >>= fun it1 =>
          runOwn (.compStart (.ListComp elt [⟨t0, i0, [], 0⟩, ⟨t1, i1, [], 0⟩] scope pos) 1 it1 acc env) env >>= fun _ => 
          again (.compLoop (.ListComp elt [⟨t0, i0, [], 0⟩, ⟨t1, i1, [], 0⟩] scope pos) 0 it acc env))) := by rfl
theorem compTurn_two1 (elt t0 i0 t1 i1 : PySem.Expr) (scope : Scope) (pos : Pos) (it acc : Value) (env : Env) :
    compTurn (.ListComp elt [⟨t0, i0, [], 0⟩, ⟨t1, i1, [], 0⟩] scope pos) 1 it acc env = (standAt i1.pos >>= fun _ => pyNext it >>= fun r => match r with
      | none => pure (.done .next)
      | some v => letOwnedTupleGo t1 it v >>= fun _ => assign t1 env v >>= fun _ =>
        (eval elt env >>= fun x => call (.builtin "list.append") [acc, x] >>= fun _ => pure ()) >>= fun _ =>
          again (.compLoop (.ListComp elt [⟨t0, i0, [], 0⟩, ⟨t1, i1, [], 0⟩] scope pos) 1 it acc env)) := by rfl

theorem codeAny_compLoop_two1 (I : Nat → Shared → Prop)
    (turn : ∀ n s, I n s → wpAny (model prog w) A (pyNext it) (fun r s₁ => match r with
      | none => R (.ok .next) s₁
      | some v => wpAny (model prog w) A (assign t1 env v) (fun _ s₂ => wpAny (model prog w) A (eval elt env) (fun x s₃ =>
          wpAny (model prog w) A (call (.builtin "list.append") [acc, x]) (fun _ s₄ => ∃ m, m < n ∧ I m s₄) (notedBy (model prog w) A env fun e s' => R (.error e) s') s₃)
          (notedBy (model prog w) A env fun e s' => R (.error e) s') s₂) (notedBy (model prog w) A env fun e s' => R (.error e) s') s₁) (notedBy (model prog w) A env fun e s' => R (.error e) s') s)
    (n : Nat) (h : I n s) (ht : ∀ v, letOwnedTupleGo t1 it v = pure () := by intro _; rfl) :
    codeAny (model prog w) A (.compLoop (.ListComp elt [⟨t0, i0, [], 0⟩, ⟨t1, i1, [], 0⟩] scope pos) 1 it acc env) R s := by
  refine codeAny_loop rfl I (fun n s hI => ?_) n h
  show wpAny _ A ((compTurn (.ListComp elt [⟨t0, i0, [], 0⟩, ⟨t1, i1, [], 0⟩] scope pos) 1 it acc env).onRaise (fun x => do noteFrame x env; theTreesLotGoes x)) _ _ s
  refine wpAny_noted ?_
  rw [compTurn_two1]
  refine wpAny_bind (wpAny_standAt (wpAny_bind (wpAny_mono (turn n s hI) (fun r s₁ h₁ => ?_) fun _ _ h' => h')))
  cases r with
  | none => exact wpAny_pure h₁
  | some v =>
    refine wpAny_bind (wpAny_of_eq (ht v) ?_)
    exact wpAny_bind (wpAny_mono h₁ (fun _ s₂ h₂ => wpAny_bind (wpAny_bind (wpAny_mono h₂ (fun x s₃ h₃ => wpAny_bind (wpAny_mono h₃
      (fun _ s₄ h₄ => wpAny_pure (wpAny_pure ⟨rfl, h₄⟩)) fun _ _ h' => h')) fun _ _ h' => h'))) fun _ _ h' => h')

theorem codeAny_compStart_two1
    (h : codeAny (model prog w) A (.compLoop (.ListComp elt [⟨t0, i0, [], 0⟩, ⟨t1, i1, [], 0⟩] scope pos) 1 it acc env) R s)
    (hi : wpAny (model prog w) A (pyIter it) (fun it' s' => codeAny (model prog w) A (.compLoop (.ListComp elt [⟨t0, i0, [], 0⟩, ⟨t1, i1, [], 0⟩] scope pos) 1 it' acc env) R s')
      (notedBy (model prog w) A env fun x s' => R (.error x) s') s) :
    codeAny (model prog w) A (.compStart (.ListComp elt [⟨t0, i0, [], 0⟩, ⟨t1, i1, [], 0⟩] scope pos) 1 it acc env) R s := by
  refine codeAny_of_tree ?_
  show wpAny _ _ ((compStart (.ListComp elt [⟨t0, i0, [], 0⟩, ⟨t1, i1, [], 0⟩] scope pos) 1 it acc env).onRaise (fun x => do noteFrame x env; standAt theWindowsPlace)) _ _ s
  refine wpAny_notedAt ?_
  unfold compStart
  show wpAny _ _ (ask >>= _) _ _ s
  refine wpAny_bind (wpAny_askSetting (wpAny_ite ?_))
  split
  · first
      | exact wpAny_bind (wpAny_pure (wpAny_pure (And.intro rfl h)))
      | exact wpAny_pure (And.intro rfl h)
  · first
      | exact wpAny_bind (wpAny_rule (wpAny_bind (wpAny_standAt (wpAny_bind (wpAny_mono hi (fun it' s' h' => wpAny_pure (And.intro rfl h')) fun _ _ x => x)))))
      | exact (wpAny_rule (wpAny_bind (wpAny_standAt (wpAny_bind (wpAny_mono hi (fun it' s' h' => wpAny_pure (And.intro rfl h')) fun _ _ x => x)))))

theorem codeAny_compLoop_two0 (I : Nat → Shared → Prop)
    (turn : ∀ n s, I n s → wpAny (model prog w) A (pyNext it) (fun r s₁ => match r with
      | none => R (.ok .next) s₁
      | some v => wpAny (model prog w) A (assign t0 env v) (fun _ s₂ => wpAny (model prog w) A (eval i1 env) (fun x s₃ =>
          wpAny (model prog w) A (pyIter x) (fun it1 s₄ => codeAny (model prog w) A (.compStart (.ListComp elt [⟨t0, i0, [], 0⟩, ⟨t1, i1, [], 0⟩] scope pos) 1 it1 acc env)
            (fun r s' => match r with | .ok _ => ∃ m, m < n ∧ I m s' | .error _ => False) s₄) (fun _ _ => False) s₃)
          (fun _ _ => False) s₂) (fun _ _ => False) s₁) (fun _ _ => False) s)
    (n : Nat) (h : I n s) (ht : ∀ v, letOwnedTupleGo t0 it v = pure () := by intro _; rfl) (hs : ∀ x, foldedSetIterable i1 env x = pure x) :
    codeAny (model prog w) A (.compLoop (.ListComp elt [⟨t0, i0, [], 0⟩, ⟨t1, i1, [], 0⟩] scope pos) 0 it acc env) R s := by
  refine codeAny_loop rfl I (fun n s hI => ?_) n h
  show wpAny _ A ((compTurn (.ListComp elt [⟨t0, i0, [], 0⟩, ⟨t1, i1, [], 0⟩] scope pos) 0 it acc env).onRaise (fun x => do noteFrame x env; theTreesLotGoes x)) _ _ s
  refine wpAny_noted ?_
  rw [compTurn_two0]
  refine wpAny_bind (wpAny_standAt (wpAny_bind (wpAny_mono (turn n s hI) (fun r s₁ h₁ => ?_) fun _ _ h' => h'.elim)))
  cases r with
  | none => exact wpAny_pure h₁
  | some v =>
    refine wpAny_bind (wpAny_of_eq (ht v) ?_)
    refine wpAny_bind (wpAny_mono h₁ (fun _ s₂ h₂ => wpAny_bind (wpAny_mono h₂ (fun x s₃ h₃ => wpAny_bind (wpAny_standAt (wpAny_bind (wpAny_of_eq (hs x) ?_)))) fun _ _ h' => h'.elim)) fun _ _ h' => h'.elim)
    refine wpAny_bind (wpAny_holding (wpAny_mono h₃ (fun it1 s₄ h₄ => wpAny_bind (wpAny_runOwn (codeAny_mono h₄ (fun r s₅ h₅ => ?_)))) fun _ _ h' => h'.elim))
    cases r with
    | error e => exact h₅.elim
    | ok f => exact wpAny_pure ⟨rfl, h₅⟩
end

-- part CompO
set_option maxRecDepth 100000
set_option maxHeartbeats 16000000

section
variable {prog : Program} {w : World} {A : Around}

theorem comp_in {R : Result → Shared → Prop} {s : Shared} {elt i0 i1 : PySem.Expr} {x y : Str} {px py : Pos} {scope : Scope} {pos : Pos} {env : Env} {hb : Heap} {I D C : Addr} {fp : List Addr} {n : Nat} {P : Nat → Value → Nat → Nat → Prop} {St : Nat → Heap → Prop} {ys0 : Array Value}
    (W : WalksT prog w A I fp n P St) (G : Nat → Value → Prop) (m0 : Str → Option Value)
    (hcl : env.locals = C) (hy : env.kindOf y = some .local) (hp : (env.scope.kind == .class || (env.scope.kind == .module && env.locals != env.globals)) = false) (hxy : x ≠ y)
    (hDC : D ≠ C) (hDf : D ∉ fp) (hCf : C ∉ fp)
    (hst : St 0 s.heap) (hacc : s.heap.PlainList D ys0) (hn : s.heap.Ns C m0)
    (hkb : ∀ b o, b ≠ C → b ≠ D → hb.get? b = some o → s.heap.get? b = some o) (hI : hb.get? I = none)
    (helt : ∀ j v t0 t1 s₃ m₃ E', j < n → s.toks ≤ t0 → P j v t0 t1 → t1 < s₃.toks → s₃.heap.Ns C m₃ → m₃ y = some v → m₃ x = m0 x → (∀ b o, b ≠ C → b ≠ D → hb.get? b = some o → s₃.heap.get? b = some o) →
      wpAny (model prog w) A (eval elt env) (EltEnd (G j) s₃) E' s₃)
    (hsz : ys0.size + n ≤ sizeLine)
    (hR : ∀ h' tk m' zs, h'.Ns C m' → h'.PlainList D (ys0 ++ zs) → Paired G (List.range n) zs.toList → s.toks ≤ tk → (∀ b o, b ≠ C → b ≠ D → hb.get? b = some o → h'.get? b = some o) → R (.ok .next) { s with heap := h', toks := tk }) :
    codeAny (model prog w) A (.compLoop (.ListComp elt [⟨.Name x px, i0, [], 0⟩, ⟨.Name y py, i1, [], 0⟩] scope pos) 1 (.ref I) (.ref D) env) R s := by
  have hDI : D ≠ I := fun e => hDf (e ▸ W.hI)
  have hCI : C ≠ I := fun e => hCf (e ▸ W.hI)
  refine codeAny_compLoop_two1
    (fun k s' => ∃ h' tk m' zs i, s' = { s with heap := h', toks := tk } ∧ St i h' ∧ h'.PlainList D (ys0 ++ zs) ∧ h'.Ns C m' ∧ m' x = m0 x ∧ Paired G (List.range i) zs.toList ∧ i ≤ n ∧ k = n + 1 - i ∧
      (∀ b o, b ≠ C → b ≠ D → hb.get? b = some o → h'.get? b = some o) ∧ s.toks ≤ tk) ?_ (n + 1)
    ⟨s.heap, s.toks, m0, #[], 0, rfl, hst, by simpa using hacc, hn, rfl, Paired.nil, Nat.zero_le _, rfl, hkb, Nat.le_refl _⟩
  rintro k s' ⟨H, tk, m', zs, i, rfl, hst', hacc', hn', hmx, hF, hi, rfl, hk, htk⟩
  by_cases hlt : i < n
  · refine W.item i _ _ _ hlt hst' fun v h₁ tk₁ hPv hst₁ hk₁ => ?_
    have hle := W.le _ _ _ _ hPv
    have hn₁ : h₁.Ns C m' := hn'.at' fun o e => hk₁ _ o hCI e
    refine wpAny_assign_Name (wpAny_storeName_local hy (m := m') (by rw [hcl]; exact hn₁) (fun h₂ hn₂ hs₂' => ?_) hp)
    rw [hcl] at hn₂ hs₂'
    have sb₂ : Heap.SameBut C h₁ h₂ := hs₂'
    have up₂ : ∀ b o, b ≠ C → b ≠ D → hb.get? b = some o → h₂.get? b = some o := fun b o hC hD e => sb₂.extBut b o hC (hk₁ b o (fun q => by rw [q, hI] at e; cases e) (hk b o hC hD e))
    have hst₂ : St (i + 1) h₂ := W.frame _ _ _ hst₁ fun b hb o e => sb₂.extBut b o (fun h => hCf (h ▸ hb)) e
    have hacc₂ : h₂.PlainList D (ys0 ++ zs) := hacc'.at fun o e => sb₂.extBut D o hDC (hk₁ D o hDI e)
    refine wpAny_mono (wpAny_toks_of (n := tk₁ + 1) (Nat.le_refl _) (helt i v tk tk₁ _ _ _ hlt htk hPv (Nat.lt_succ_self _) hn₂ (by simp) (by simp only [hxy, if_false]; exact hmx) up₂)) (fun r s₄ h₄ => ?_) fun _ _ e => e.2
    obtain ⟨htk₄, hFy, h₄, tk₄, rfl, hk₄⟩ := h₄
    have hl := hF.length
    have hzl : zs.size = i := by
      have e4 : zs.toList.length = zs.size := by simp
      rw [List.length_range] at hl
      omega
    refine wpAny_list_append_plain (hsz := by rw [Array.size_append]; omega) (hacc₂.at fun o e => hk₄ _ o e) fun h₅ hl₅ hs₅ => ?_
    have sb₅ : Heap.SameBut D h₄ h₅ := hs₅
    refine ⟨n + 1 - (i + 1), by omega, h₅, tk₄, _, zs.push r, i + 1, rfl, ?_, by rw [← Array.append_push] at hl₅; exact hl₅, (hn₂.keeps hk₄).sameBut sb₅ (Ne.symm hDC), by simp only [hxy, if_false]; exact hmx, ?_, hlt, rfl,
      fun b o hC hD e => sb₅.extBut b o hD (hk₄ b o (up₂ b o hC hD e)), ?_⟩
    · exact W.frame _ _ h₅ hst₂ fun b hb o e => sb₅.extBut b o (fun h => hDf (h ▸ hb)) (hk₄ b o e)
    · rw [List.range_succ]; simpa using Paired.snoc hF hFy
    · have : tk₁ + 1 ≤ tk₄ := htk₄
      have h1 : tk ≤ tk₁ := hle
      omega
  · have hin : i = n := by omega
    subst hin
    refine W.done _ _ _ hst' fun h₁ tk₁ hle hk₁ => ?_
    exact hR h₁ tk₁ m' zs (hn'.at' fun o e => hk₁ _ o hCI e) (hacc'.at fun o e => hk₁ _ o hDI e) hF (Nat.le_trans htk hle) fun b o hC hD e => hk₁ b o (fun q => by rw [q, hI] at e; cases e) (hk b o hC hD e)

/-- where an inner loop's items come from: an iterator of its own -/
def CSrcI (prog : Program) (w : World) (A : Around) (s : Shared) (n : Nat) (P : Nat → Value → Nat → Nat → Prop) (it : Value) (s₂ : Shared) : Prop :=
  ∃ St h₂, it = .ref s.heap.objs.size ∧ s₂ = { s with heap := h₂ } ∧ WalksT prog w A s.heap.objs.size [s.heap.objs.size] n P St ∧ St 0 h₂ ∧ (∀ b o, s.heap.get? b = some o → h₂.get? b = some o)
theorem csrcI_str {E : Value → Shared → Prop} {s : Shared} {Q : Value → Shared → Prop} {y : Str} {t : Tok} (hh : A.handled = none)
    (k : ∀ it s₂, CSrcI prog w A s y.cps.size (SignT y) it s₂ → Q it s₂) : wpAny (model prog w) A (pyIter (.str y t)) Q E s := by
  cases ha : y.cps.all (· < 128)
  · exact wpAny_pyIter_wide ha (k _ _ ⟨_, _, rfl, rfl, walksT_wide hh s.heap.objs.size y t, ⟨_, Heap.get?_push_size _ rfl, rfl, rfl⟩, fun b o e => Heap.get?_push_of_some _ e⟩)
  · exact wpAny_pyIter_ascii ha (k _ _ ⟨_, _, rfl, rfl, walksT_ascii hh s.heap.objs.size y t, ⟨_, Heap.get?_push_size _ rfl, rfl, rfl⟩, fun b o e => Heap.get?_push_of_some _ e⟩)

/-- what the inner loop brings -/
def InnerT (prog : Program) (w : World) (A : Around) (elt : PySem.Expr) (x y : Str) (env : Env) (v : Value) (hb : Heap) (Ib : Addr) (s₄ : Shared) (C : Addr) (k : Nat) (B : List Value → Prop) (it1 : Value) (s₅ : Shared) : Prop :=
  ∃ n1 P1 G, CSrcI prog w A s₄ n1 P1 it1 s₅ ∧ k + n1 ≤ sizeLine ∧
    (∀ j v' t2 t3 s₆ m₆ E', j < n1 → s₄.toks ≤ t2 → P1 j v' t2 t3 → t3 < s₆.toks → s₆.heap.Ns C m₆ → m₆ y = some v' → m₆ x = some v → (∀ b o, b ≠ Ib → hb.get? b = some o → s₆.heap.get? b = some o) →
      wpAny (model prog w) A (eval elt env) (EltEnd (G j) s₆) E' s₆) ∧
    (∀ zs, Paired G (List.range n1) zs → B zs)

theorem comp_out {R : Result → Shared → Prop} {s : Shared} {elt i0 i1 : PySem.Expr} {x y : Str} {px py : Pos} {scope : Scope} {pos : Pos} {I D C : Addr} {fp : List Addr} {n : Nat} {P : Nat → Value → Nat → Nat → Prop} {St : Nat → Heap → Prop}
    {env : Env} {m : Str → Option Value} {s₂ : Shared} (W : WalksT prog w A I fp n P St) (B : Nat → List Value → Prop)
    (hcl : env.locals = C) (hx : env.kindOf x = some .local) (hy : env.kindOf y = some .local) (hp : (env.scope.kind == .class || (env.scope.kind == .module && env.locals != env.globals)) = false) (hxy : x ≠ y)
    (hDC : D ≠ C) (hDf : D ∉ fp) (hCf : C ∉ fp) (hC : s₂.heap.objs.size ≤ C) (hD : s₂.heap.objs.size ≤ D)
    (hst : St 0 s.heap) (hacc : s.heap.PlainList D #[]) (hn : s.heap.Ns C m) (hs₂ : ∀ b o, s₂.heap.get? b = some o → s.heap.get? b = some o) (htk₂ : s₂.toks ≤ s.toks)
    (hB : B 0 []) (hs : ∀ x, foldedSetIterable i1 env x = pure x)
    (turn : ∀ i v ys t0 t1 s₃ m₃, i < n → B i ys → s₂.toks ≤ t0 → P i v t0 t1 → t1 < s₃.toks → s₃.heap.Ns C m₃ → m₃ x = some v → (∀ b o, b ≠ I → s₂.heap.get? b = some o → s₃.heap.get? b = some o) →
      wpAny (model prog w) A (eval i1 env) (fun xv s₄ => Keeps s₃ s₄ ∧ wpAny (model prog w) A (pyIter xv) (fun it1 s₅ => InnerT prog w A elt x y env v s₂.heap I s₄ C ys.length (fun zs => B (i + 1) (ys ++ zs)) it1 s₅) (fun _ _ => False) s₄) (fun _ _ => False) s₃)
    (hR : ∀ h' tk m' ys, h'.Ns C m' → h'.PlainList D ys → B n ys.toList → s₂.toks ≤ tk →
      (∀ b o, b ≠ I → s₂.heap.get? b = some o → h'.get? b = some o) → R (.ok .next) { s with heap := h', toks := tk }) :
    codeAny (model prog w) A (.compLoop (.ListComp elt [⟨.Name x px, i0, [], 0⟩, ⟨.Name y py, i1, [], 0⟩] scope pos) 0 (.ref I) (.ref D) env) R s := by
  have hlt2 : ∀ b o, s₂.heap.get? b = some o → b ≠ C ∧ b ≠ D := fun b o e => ⟨Nat.ne_of_lt (Nat.lt_of_lt_of_le (Heap.lt_size e) hC), Nat.ne_of_lt (Nat.lt_of_lt_of_le (Heap.lt_size e) hD)⟩
  have hDI : D ≠ I := fun e => hDf (e ▸ W.hI)
  have hCI : C ≠ I := fun e => hCf (e ▸ W.hI)
  refine codeAny_compLoop_two0 (hs := hs)
    (fun k s' => ∃ h' tk m' ys i, s' = { s with heap := h', toks := tk } ∧ St i h' ∧ h'.PlainList D ys ∧ h'.Ns C m' ∧ B i ys.toList ∧ i ≤ n ∧ k = n + 1 - i ∧
      (∀ b o, b ≠ I → s₂.heap.get? b = some o → h'.get? b = some o) ∧ s₂.toks ≤ tk) ?_ (n + 1)
    ⟨s.heap, s.toks, m, #[], 0, rfl, hst, hacc, hn, hB, Nat.zero_le _, rfl, fun b o _ e => hs₂ b o e, htk₂⟩
  rintro k s' ⟨H, tk, m', ys, i, rfl, hst', hacc', hn', hF, hi, rfl, hk, htk⟩
  by_cases hlt : i < n
  · refine W.item i _ _ _ hlt hst' fun v h₁ tk₁ hPv hst₁ hk₁ => ?_
    have hle := W.le _ _ _ _ hPv
    have hn₁ : h₁.Ns C m' := hn'.at' fun o e => hk₁ _ o hCI e
    refine wpAny_assign_Name (wpAny_storeName_local hx (m := m') (by rw [hcl]; exact hn₁) (fun h₂ hn₂ hs₂' => ?_) hp)
    rw [hcl] at hn₂ hs₂'
    have sb₂ : Heap.SameBut C h₁ h₂ := hs₂'
    have up₂ : ∀ b o, b ≠ I → s₂.heap.get? b = some o → h₂.get? b = some o := fun b o hb e => sb₂.extBut b o (hlt2 b o e).1 (hk₁ b o hb (hk b o hb e))
    have hst₂ : St (i + 1) h₂ := W.frame _ _ _ hst₁ fun b hb o e => sb₂.extBut b o (fun h => hCf (h ▸ hb)) e
    have hacc₂ : h₂.PlainList D ys := hacc'.at fun o e => sb₂.extBut D o hDC (hk₁ D o hDI e)
    refine wpAny_mono (wpAny_toks_of (n := tk₁ + 1) (Nat.le_refl _) (turn i v ys.toList tk tk₁ _ _ hlt hF htk hPv (Nat.lt_succ_self _) hn₂ (by simp) up₂)) (fun xv s₄ h₄ => ?_) fun _ _ e => e.2.elim
    obtain ⟨htk₄, ⟨h₄, tk₄, rfl, hk₄⟩, q₄⟩ := h₄
    refine wpAny_mono (wpAny_toks_of (n := tk₄) (Nat.le_refl _) q₄) (fun it1 s₅ h₅ => ?_) fun _ _ e => e.2.elim
    obtain ⟨htk₅, n1, P1, G, ⟨St1, h₅, rfl, rfl, W1, hst5, hk5⟩, hsz5, helt5, hB5⟩ := h₅
    have hst₄ : St (i + 1) h₄ := W.frame _ _ _ hst₂ fun b hb o e => hk₄ b o e
    have hacc₅ : h₅.PlainList D ys := hacc₂.at fun o e => hk5 _ o (hk₄ _ o e)
    have hn₄ : h₄.Ns C _ := hn₂.keeps hk₄
    have hn₅ := hn₄.keeps hk5
    have hCl : C < h₄.objs.size := hn₄.lt
    have hDl : D < h₄.objs.size := by
      obtain ⟨kD, eD⟩ := hacc₂
      exact Heap.lt_size (hk₄ _ _ eD)
    have hI5 : h₄.get? h₄.objs.size = none := get_size_none _
    have loop : codeAny (model prog w) A (.compLoop (.ListComp elt [⟨.Name x px, i0, [], 0⟩, ⟨.Name y py, i1, [], 0⟩] scope pos) 1 (.ref h₄.objs.size) (.ref D) env)
        (fun r s' => match r with
          | .ok _ => ∃ m, m < n + 1 - i ∧ ∃ h' tk m' ys i, s' = { s with heap := h', toks := tk } ∧ St i h' ∧ h'.PlainList D ys ∧ h'.Ns C m' ∧ B i ys.toList ∧ i ≤ n ∧ m = n + 1 - i ∧ (∀ b o, b ≠ I → s₂.heap.get? b = some o → h'.get? b = some o) ∧ s₂.toks ≤ tk
          | .error _ => False) { s with heap := h₅, toks := tk₄ } := by
      refine comp_in W1 G _ hcl hy hp hxy hDC (by simp only [List.mem_singleton]; exact Nat.ne_of_lt hDl) (by simp only [List.mem_singleton]; exact Nat.ne_of_lt hCl) hst5 hacc₅ hn₅ (fun b o _ _ e => hk5 b o e) hI5 ?_ (by simpa using hsz5) ?_
      · intro j v' t2 t3 s₆ m₆ E' hj ht2 hP1 ht3 hn6 hm6 hmx hk6
        exact helt5 j v' t2 t3 s₆ m₆ E' hj ht2 hP1 ht3 hn6 hm6 (by rw [hmx]; simp) fun b o hbI e => hk6 b o (hlt2 b o e).1 (hlt2 b o e).2 (hk₄ b o (up₂ b o hbI e))
      · intro h' tk' m'' zs hn7 hpl hP7 htk7 hk7
        refine ⟨n + 1 - (i + 1), by omega, h', tk', m'', ys ++ zs, i + 1, rfl, ?_, hpl, hn7, ?_, hlt, rfl, fun b o hbI e => hk7 b o (hlt2 b o e).1 (hlt2 b o e).2 (hk₄ b o (up₂ b o hbI e)), ?_⟩
        · exact W.frame _ _ _ hst₄ fun b hb o e => hk7 b o (fun h => hCf (h ▸ hb)) (fun h => hDf (h ▸ hb)) e
        · rw [Array.toList_append]; exact hB5 _ hP7
        · have e1 : tk₁ + 1 ≤ tk₄ := htk₄
          have e2 : tk ≤ tk₁ := hle
          have e3 : tk₄ ≤ tk' := htk7
          omega
    exact codeAny_compStart_two1 loop (W1.self 0 _ _ _ hst5 loop)
  · have hin : i = n := by omega
    subst hin
    refine W.done _ _ _ hst' fun h₁ tk₁ hle hk₁ => ?_
    exact hR h₁ tk₁ m' ys (hn'.at' fun o e => hk₁ _ o hCI e) (hacc'.at fun o e => hk₁ _ o hDI e) hF (Nat.le_trans htk hle) fun b o hb e => hk₁ b o hb (hk b o hb e)
end

-- part CompP
set_option maxRecDepth 100000
set_option maxHeartbeats 16000000

section
variable {prog : Program} {w : World} {A : Around} {E : Value → Shared → Prop} {env : Env}

/-- what a two-fold comprehension's turn asks, told over the state ahead of the iterator -/
def TurnS (prog : Program) (w : World) (A : Around) (elt i1 : PySem.Expr) (x y : Str) (cenv : Addr → Env) (n : Nat) (P : Nat → Value → Nat → Nat → Prop) (B : Nat → List Value → Prop) (s₁ : Shared) : Prop :=
  ∀ C i v ys t0 t1 s₃ m₃ Ib, s₁.heap.objs.size ≤ C → s₁.heap.get? Ib = none → i < n → B i ys → s₁.toks ≤ t0 → P i v t0 t1 → t1 < s₃.toks → s₃.heap.Ns C m₃ → m₃ x = some v → (∀ b o, s₁.heap.get? b = some o → s₃.heap.get? b = some o) →
      wpAny (model prog w) A (eval i1 (cenv C)) (fun xv s₄ => Keeps s₃ s₄ ∧ wpAny (model prog w) A (pyIter xv) (fun it1 s₅ => InnerT prog w A elt x y (cenv C) v s₁.heap Ib s₄ C ys.length (fun zs => B (i + 1) (ys ++ zs)) it1 s₅) (fun _ _ => False) s₄) (fun _ _ => False) s₃

theorem comp_block2 {elt i0 i1 : PySem.Expr} {x y : Str} {px py : Pos} {scope : Scope} {cl : List (Str × Addr)} {pos : Pos} {s₁ s₂ : Shared} {it : Value} {n : Nat} {P : Nat → Value → Nat → Nat → Prop}
    (src : CSrc prog w A s₁ n P it s₂) (B : Nat → List Value → Prop) {RR : Value → Addr → Result → Shared → Prop}
    (hcell : ∀ y ∈ scope.names, y.2 ≠ .cell) (hkind : scope.kind = .function) (hx : scope.names.lookup x = some .local) (hy : scope.names.lookup y = some .local) (hxy : x ≠ y)
    (hs : ∀ C x, foldedSetIterable i1 (compEnvC scope cl C env) x = pure x) (hB : B 0 [])
    (hq : TurnS prog w A elt i1 x y (fun C => compEnvC scope cl C env) n P B s₁)
    (hRR : ∀ D C h' tk m' ys, s₁.heap.objs.size ≤ D → s₁.heap.objs.size ≤ C → D ≠ C → h'.Ns C m' → h'.PlainList D ys → B n ys.toList → s₁.toks ≤ tk →
      (∀ b o, s₁.heap.get? b = some o → h'.get? b = some o) → RR (.ref D) C (.ok .next) { s₁ with heap := h', toks := tk }) :
    wpAny (model prog w) A (newList []) (fun acc s₃ => wpAny (model prog w) A (newFunctionEnv scope env.globals cl [] env.qual none .none (some env)) (fun cenv s₄ =>
      codeAny (model prog w) A (.compStart (.ListComp elt [⟨.Name x px, i0, [], 0⟩, ⟨.Name y py, i1, [], 0⟩] scope pos) 0 it acc { cenv with scope := relabel scope env }) (RR acc cenv.locals) s₄) E s₃) E s₂ := by
  obtain ⟨I, fp, St, h₂, rfl, rfl, W, hst, hfp, hI, hz, hk₂⟩ := src
  refine wpAny_newObj_type (wpAny_newFunctionEnv hcell (by intro y hy; simp at hy) (fun h₁ hns₁ hsb₁ => ?_) hkind)
  dsimp only at hns₁ hsb₁ ⊢
  generalize hH2 : h₂.push { cls := .type "list", dict := none, data := .seq ([] : List Value).toArray } = H2 at hns₁ hsb₁ ⊢
  have sb : Heap.SameBut H2.objs.size (H2.push _) h₁ := hsb₁
  have hC : H2.objs.size = h₂.objs.size + 1 := by rw [← hH2, Heap.size_push]
  have hDC : h₂.objs.size ≠ H2.objs.size := by rw [hC]; exact Nat.ne_of_lt (Nat.lt_succ_self _)
  have hCle : h₂.objs.size ≤ H2.objs.size := by rw [hC]; exact Nat.le_succ _
  have hDf : h₂.objs.size ∉ fp := fun hm => Nat.lt_irrefl _ (hfp _ hm)
  have hCf : H2.objs.size ∉ fp := fun hm => by have := hfp _ hm; rw [hC] at this; exact Nat.lt_irrefl _ (Nat.lt_of_succ_lt this)
  have old : ∀ b o, h₂.get? b = some o → h₁.get? b = some o := fun b o e => sb.extBut b o (by have := Heap.lt_size e; rw [hC]; exact Nat.ne_of_lt (Nat.lt_succ_of_lt this)) (Heap.get?_push_of_some _ (hH2 ▸ Heap.get?_push_of_some _ e))
  have hacc : h₁.PlainList h₂.objs.size #[] := ⟨_, sb.extBut _ _ hDC (Heap.get?_push_of_some _ (hH2 ▸ Heap.get?_push_size _ rfl))⟩
  have hst₁ : St 0 h₁ := W.frame _ _ _ hst fun b _ o e => old b o e
  have nI : ∀ b o, s₁.heap.get? b = some o → b ≠ I := fun b o e z => by rw [z, hI] at e; cases e
  have loop : ∀ s₃ : Shared, s₃ = { s₁ with heap := h₁, toks := s₁.toks + ([] : List (Str × Value)).length } →
      codeAny (model prog w) A (.compLoop (.ListComp elt [⟨.Name x px, i0, [], 0⟩, ⟨.Name y py, i1, [], 0⟩] scope pos) 0 (.ref I) (.ref h₂.objs.size) (compEnvC scope cl H2.objs.size env))
        (RR (.ref h₂.objs.size) H2.objs.size) s₃ := by
    rintro s₃ rfl
    refine comp_out (s₂ := { s₁ with heap := h₂ }) W B rfl (lookup_relabel_local hx) (lookup_relabel_local hy) (by simp [compEnvC, relabel, hkind]) hxy hDC hDf hCf hCle (Nat.le_refl _) hst₁ hacc hns₁ old (Nat.le_refl _) hB (hs _) ?_ ?_
    · intro i v ys t0 t1 s₃ m₃ hi hBi ht0 hP ht1 hn3 hm3 hk3
      refine wpAny_mono (hq H2.objs.size i v ys t0 t1 s₃ m₃ I (Nat.le_trans hz hCle) hI hi hBi ht0 hP ht1 hn3 hm3 fun b o e => hk3 b o (nI b o e) (hk₂ b o e)) (fun xv s₄ h₄ => ⟨h₄.1, wpAny_mono h₄.2 (fun it1 s₅ h₅ => ?_) fun _ _ e => e⟩) fun _ _ e => e
      obtain ⟨n1, P1, G, src1, hsz1, helt1, hB1⟩ := h₅
      exact ⟨n1, P1, G, src1, hsz1, fun j v' t2 t3 s₆ m₆ E' hj ht2 hP1 ht3 hn6 hm6 hmx hk6 => helt1 j v' t2 t3 s₆ m₆ E' hj ht2 hP1 ht3 hn6 hm6 hmx fun b o hbI e => hk6 b o hbI (hk₂ b o e), hB1⟩
    · intro h' tk m' ys hn hpl hF htk hk
      exact hRR _ _ h' tk m' ys hz (Nat.le_trans hz hCle) hDC hn hpl hF htk fun b o e => hk b o (nI b o e) (hk₂ b o e)
  refine codeAny_of_tree ?_
  show wpAny _ _ ((compStart (.ListComp elt [⟨.Name x px, i0, [], 0⟩, ⟨.Name y py, i1, [], 0⟩] scope pos) 0 (.ref I) (.ref h₂.objs.size) (compEnvC scope cl H2.objs.size env)).onRaise (fun x => do noteFrame x _; standAt theWindowsPlace)) _ _ _
  refine wpAny_notedAt ?_
  unfold compStart
  show wpAny _ _ (ask >>= _) _ _ _
  refine wpAny_bind (wpAny_askSetting (wpAny_ite ?_))
  have lp := loop _ rfl
  split
  · first
      | exact wpAny_bind (wpAny_pure (wpAny_pure (And.intro rfl lp)))
      | exact wpAny_pure (And.intro rfl lp)
  · first
      | exact wpAny_bind (wpAny_rule (wpAny_bind (wpAny_standAt (wpAny_bind (W.self 0 _ _ _ hst₁ (wpAny_pure (And.intro rfl lp)))))))
      | exact wpAny_rule (wpAny_bind (wpAny_standAt (wpAny_bind (W.self 0 _ _ _ hst₁ (wpAny_pure (And.intro rfl lp))))))

theorem Assign_ListComp_2 {s : Shared} {elt i0 i1 : PySem.Expr} {x y z : Str} {px py pz : Pos} {scope : Scope} {cl : List (Str × Addr)} {pos spos : Pos} {Q : Flow → Shared → Prop}
    (hsw : swapsWith (.ListComp elt [⟨.Name x px, i0, [], 0⟩, ⟨.Name y py, i1, [], 0⟩] scope pos) (some (.Name z pz)) spos.line env = pure true)
    (hclos : closureFor scope env = pure cl) (hcell : ∀ z ∈ scope.names, z.2 ≠ .cell) (hkind : scope.kind = .function)
    (hnames : ∀ z ∈ scope.names, z.2 = .local → scope.names.lookup z.1 = some .local) (hx : scope.names.lookup x = some .local) (hy : scope.names.lookup y = some .local) (hxy : x ≠ y)
    (hz : env.kindOf z = some .local) (hp : (env.scope.kind == .class || (env.scope.kind == .module && env.locals != env.globals)) = false)
    (hs1 : ∀ C x, foldedSetIterable i1 (compEnvC scope cl C env) x = pure x)
    (h : wpAny (model prog w) A (eval i0 env) (fun xv s₁ => wpAny (model prog w) A (pyIter xv) (fun it s₂ => ∃ n P B m, CSrc prog w A s₁ n P it s₂ ∧ s₁.heap.Ns env.locals m ∧ B 0 [] ∧
      TurnS prog w A elt i1 x y (fun C => compEnvC scope cl C env) n P B s₁ ∧
      (∀ D h' tk ys k, s₁.heap.objs.size ≤ D → h'.get? D = some (listOf ys k) → B n ys.toList → s₁.toks < tk →
        h'.Ns env.locals (fun q => if q = z then some (.ref D) else m q) → (∀ b o, b ≠ env.locals → s₁.heap.get? b = some o → h'.get? b = some o) → Q .next { s₁ with heap := h', toks := tk })) E s₁) E s)
    (hs : ∀ x, foldedSetIterable i0 env x = pure x := by intro _; rfl) :
    wpAny (model prog w) A (exec (.Assign [.Name z pz] (.ListComp elt [⟨.Name x px, i0, [], 0⟩, ⟨.Name y py, i1, [], 0⟩] scope pos) spos) env) Q E s := by
  rw [exec_Assign_Name_used _ _ _ _ hsw]
  refine wpAny_bind (wpAny_standAt (wpAny_bind ?_))
  show wpAny _ A (do let _ ← comprehension (.ListComp elt [⟨.Name x px, i0, [], 0⟩, ⟨.Name y py, i1, [], 0⟩] scope pos) scope env _ (newList []) false (eval i0 env) (some (assign (.Name z pz) env))) _ _ s
  refine wpAny_bind (wpAny_mono (wpAny_comprehension_free (use := some (assign (.Name z pz) env)) (Q := fun _ s' => Q .next s') rfl hs hclos hkind hnames
    (wpAny_mono h (fun xv s₁ h₁ => wpAny_mono h₁ (fun it s₂ h₂ => ?_) fun _ _ e => e) fun _ _ e => e)) (fun _ s' hq => wpAny_pure (wpAny_pure hq)) fun _ _ e => e)
  obtain ⟨n, P, B, m, src, hn, hB, hq, hQ⟩ := h₂
  refine comp_block2 (RR := fun acc C => compPost (model prog w) A E (some (assign (.Name z pz) env)) (fun _ s' => Q .next s') acc C) src B hcell hkind hx hy hxy hs1 hB hq ?_
  intro D C h' tk m' ys hD hC hDC hnC hpl hF htk hk
  have hLlt := hn.lt
  have hLC : env.locals ≠ C := Nat.ne_of_lt (Nat.lt_of_lt_of_le hLlt hC)
  have hLD : env.locals ≠ D := Nat.ne_of_lt (Nat.lt_of_lt_of_le hLlt hD)
  show wpAny _ A (assign (.Name z pz) env (.ref D)) _ _ _
  refine wpAny_assign_Name (wpAny_storeName_local hz (hn.at' fun o e => hk _ o e) (fun h₂ hn₂ hs₂ => ?_) hp)
  have sb2 : Heap.SameBut env.locals h' h₂ := hs₂
  refine ⟨m', hnC.sameBut sb2 (Ne.symm hLC), fun h₃ hs₃ => ?_⟩
  have sb3 : Heap.SameBut C h₂ h₃ := hs₃
  obtain ⟨k, e⟩ := hpl
  exact hQ D h₃ _ ys k hD (sb3.extBut _ _ hDC (sb2.extBut _ _ (Ne.symm hLD) e)) hF (Nat.lt_succ_of_le htk) (hn₂.sameBut sb3 hLC) fun b o hbL e =>
    sb3.extBut b o (Nat.ne_of_lt (Nat.lt_of_lt_of_le (Heap.lt_size e) hC)) (sb2.extBut b o hbL (hk b o e))
end

-- part C20
set_option maxRecDepth 100000
set_option maxHeartbeats 16000000

section

local macro_rules | `(tactic| walk_at "subscriptTail Name Name ref int") => `(tactic| refine to_halt ?_)
local macro_rules | `(tactic| walk_at "subscriptTail Name Constant ref int") => `(tactic| refine to_halt ?_)
local macro_rules | `(tactic| walk_at "binaryOp Add str str") => `(tactic| refine to_halt ?_)

def szN (W : List Int) : Nat := if W.getD 0 0 = 1 then 5 else 3

def SegG1 (w : World) (mean : ExcName → Option Value) (mg mb : Str → Option Value) (name : Str) (scope : Scope) (body : List Stmt) : Prop :=
  ∀ (s : Shared) (Q : Flow → Shared → Prop) (E : Value → Shared → Prop) (h0 : Heap) (L fa l : Addr) (cd : Value) (m : Str → Option Value) (c1 c2 c3 c4 c5 c6 c7 c8 c9 : Obj) (S ld : Str) (W : List Int) (DB DP DW : Nat) (ws ps bs : List Value) (n k kb : Nat),
   PC w mean mg mb h0 → Cfg S ld W → (W.getD 0 0 = 1 ∨ W.getD 0 0 = 2) →
   Fr h0 L s.heap m → News h0 L s.heap [(DB, listOf bs.toArray kb), (DP, listOf ps.toArray k), (DW, listOf ws.toArray n), (L + 1 + 1 + 1 + 1 + 1 + 1 + 1 + 1 + 1, c9), (L + 1 + 1 + 1 + 1 + 1 + 1 + 1 + 1, c8), (L + 1 + 1 + 1 + 1 + 1 + 1 + 1, c7), (L + 1 + 1 + 1 + 1 + 1 + 1, c6), (L + 1 + 1 + 1 + 1 + 1, c5), (L + 1 + 1 + 1 + 1, c4), (L + 1 + 1 + 1, c3), (L + 1 + 1, c2), (L + 1, c1)] → LT.lt (α := Nat) (L + 1 + 1 + 1 + 1 + 1 + 1 + 1 + 1 + 1) DW → LT.lt (α := Nat) DW DP → LT.lt (α := Nat) DP DB → 0 < s.toks →
   c4.data = .cell (some (.ref DW)) → c7.data = .cell none → IntsAre ws W →
   (∀ (h : Heap) (tk : Nat) (c7 : Obj) (t7 : Tok), Fr h0 L h m → News h0 L h [(DB, listOf bs.toArray kb), (DP, listOf ps.toArray k), (DW, listOf ws.toArray n), (L + 1 + 1 + 1 + 1 + 1 + 1 + 1 + 1 + 1, c9), (L + 1 + 1 + 1 + 1 + 1 + 1 + 1 + 1, c8), (L + 1 + 1 + 1 + 1 + 1 + 1 + 1, c7), (L + 1 + 1 + 1 + 1 + 1 + 1, c6), (L + 1 + 1 + 1 + 1 + 1, c5), (L + 1 + 1 + 1 + 1, c4), (L + 1 + 1 + 1, c3), (L + 1 + 1, c2), (L + 1, c1)] → 0 < tk →
     c7.data = .cell (some (.int (szN W : Nat) t7)) → wpAny (model PySem.Challenge.rw_sw0037_01.row.prog w) (callerA.deeper (envOfC name scope L fa cd)) (execs (body.drop 15) (envOfC name scope L fa cd)) Q E { s with heap := h, toks := tk }) →
   wpAny (model PySem.Challenge.rw_sw0037_01.row.prog w) (callerA.deeper (envOfC name scope L fa cd)) (execs (body.drop 14) (envOfC name scope L fa cd)) Q E s

theorem segG1 (w : World) (mean : ExcName → Option Value) (mg mb : Str → Option Value) : LawB w (SegG1 w mean mg mb) := by
  refine LawB.intro (by with_unfolding_all rfl) ?_
  intro s Q E h0 L fa l cd m c1 c2 c3 c4 c5 c6 c7 c8 c9 S ld W DB DP DW ws ps bs n k kb P K hw0 F N lW lP lB hs0 d4 d7 iW hnext
  have P0 := P
  obtain ⟨X, T⟩ := P
  revert X; k_fill; intro X
  have lW9 : LT.lt (α := Nat) (L + 1 + 1 + 1 + 1 + 1 + 1 + 1 + 1 + 1) DW ∧ LT.lt (α := Nat) (L + 1 + 1 + 1 + 1 + 1 + 1 + 1 + 1) DW ∧ LT.lt (α := Nat) (L + 1 + 1 + 1 + 1 + 1 + 1 + 1) DW ∧ LT.lt (α := Nat) (L + 1 + 1 + 1 + 1 + 1 + 1) DW ∧ LT.lt (α := Nat) (L + 1 + 1 + 1 + 1 + 1) DW ∧ LT.lt (α := Nat) (L + 1 + 1 + 1 + 1) DW ∧ LT.lt (α := Nat) (L + 1 + 1 + 1) DW ∧ LT.lt (α := Nat) (L + 1 + 1) DW ∧ LT.lt (α := Nat) (L + 1) DW := gt9 lW
  have lP9 : LT.lt (α := Nat) (L + 1 + 1 + 1 + 1 + 1 + 1 + 1 + 1 + 1) DP ∧ LT.lt (α := Nat) (L + 1 + 1 + 1 + 1 + 1 + 1 + 1 + 1) DP ∧ LT.lt (α := Nat) (L + 1 + 1 + 1 + 1 + 1 + 1 + 1) DP ∧ LT.lt (α := Nat) (L + 1 + 1 + 1 + 1 + 1 + 1) DP ∧ LT.lt (α := Nat) (L + 1 + 1 + 1 + 1 + 1) DP ∧ LT.lt (α := Nat) (L + 1 + 1 + 1 + 1) DP ∧ LT.lt (α := Nat) (L + 1 + 1 + 1) DP ∧ LT.lt (α := Nat) (L + 1 + 1) DP ∧ LT.lt (α := Nat) (L + 1) DP := gt9 (Nat.lt_trans lW lP)
  have lB9 : LT.lt (α := Nat) (L + 1 + 1 + 1 + 1 + 1 + 1 + 1 + 1 + 1) DB ∧ LT.lt (α := Nat) (L + 1 + 1 + 1 + 1 + 1 + 1 + 1 + 1) DB ∧ LT.lt (α := Nat) (L + 1 + 1 + 1 + 1 + 1 + 1 + 1) DB ∧ LT.lt (α := Nat) (L + 1 + 1 + 1 + 1 + 1 + 1) DB ∧ LT.lt (α := Nat) (L + 1 + 1 + 1 + 1 + 1) DB ∧ LT.lt (α := Nat) (L + 1 + 1 + 1 + 1) DB ∧ LT.lt (α := Nat) (L + 1 + 1 + 1) DB ∧ LT.lt (α := Nat) (L + 1 + 1) DB ∧ LT.lt (α := Nat) (L + 1) DB := gt9 (Nat.lt_trans (Nat.lt_trans lW lP) lB)
  have hl2 := K.len2
  have hl3 := K.len3
  dsimp only [List.drop]
  refine wpAny_execs_cons ?_
  refine wpAny_with_toks (n := s.toks) (Nat.le_refl _) ?_
  k_steps
  unfold Halt
  refine item_ints (News.isList N (.tail _ (.tail _ (.head _)))) iW (by omega) (by omega) (by omega) fun tw => ?_
  have e0 : (0 : Int).toNat = 0 := rfl
  rw [e0]
  rcases hw0 with e | e
  · have e7 : szN W = 5 := by rw [szN, if_pos e]
    rw [e]
    k_steps
    unfold Halt
    rename Fr _ _ _ _ => F6
    rename News _ _ _ _ => N6
    rename s.toks ≤ _ => hle9
    exact hnext _ _ _ _ F6 N6 (by dsimp only at *; omega) (by rw [e7]; assumption)
  · have e7 : szN W = 3 := by rw [szN, if_neg (by omega)]
    rw [e]
    k_steps
    unfold Halt
    rename Fr _ _ _ _ => F6
    rename News _ _ _ _ => N6
    rename s.toks ≤ _ => hle9
    exact hnext _ _ _ _ F6 N6 (by dsimp only at *; omega) (by rw [e7]; assumption)

def oneF (S : Str) (W : List Int) (t : Str) : List Str := (Txt.slice S none (some (W.getD 0 0 + 1))).cps.toList.map fun c => t ++ ⟨#[c]⟩
def txF (S : Str) (W : List Int) : Nat → List Str
  | 0 => [Str.ofString ""]
  | k + 1 => (txF S W k).flatMap (oneF S W)
theorem txF_len (S : Str) (W : List Int) : ∀ k, ∀ t ∈ txF S W k, t.length = k := by
  intro k
  induction k with
  | zero => intro t ht; rw [txF, List.mem_singleton] at ht; subst ht; decide
  | succ k ih =>
    intro t ht
    rw [txF, List.mem_flatMap] at ht
    obtain ⟨u, hu, ht⟩ := ht
    unfold oneF at ht
    obtain ⟨c, _, rfl⟩ := List.mem_map.mp ht
    rw [Str.length_append, ih u hu]; rfl

theorem range_map_chars (Z x : Str) : (List.range Z.cps.size).map (fun j => x ++ (⟨#[Z.cps.toList.getD j 0]⟩ : Str)) = Z.cps.toList.map fun c => x ++ (⟨#[c]⟩ : Str) := by
  apply List.ext_getElem?
  intro i
  by_cases h : i < Z.cps.size
  · simp [h]
  · simp [h]

def SegG2 (w : World) (mean : ExcName → Option Value) (mg mb : Str → Option Value) (name : Str) (scope : Scope) (body : List Stmt) : Prop :=
  ∀ (s : Shared) (Q : Flow → Shared → Prop) (E : Value → Shared → Prop) (h0 : Heap) (L fa l : Addr) (cd : Value) (m : Str → Option Value) (c1 c2 c3 c4 c5 c6 c7 c8 c9 : Obj) (S ld : Str) (W : List Int) (tS t7 : Tok) (DB DP DW : Nat) (ws ps bs : List Value) (n k kb : Nat),
   PC w mean mg mb h0 → Cfg S ld W → (∀ i, i < szN W → (txF S W (i + 1)).length ≤ 1000) →
   m (Str.ofString "script") = some (.ref l) →
   Fr h0 L s.heap m → News h0 L s.heap [(DB, listOf bs.toArray kb), (DP, listOf ps.toArray k), (DW, listOf ws.toArray n), (L + 1 + 1 + 1 + 1 + 1 + 1 + 1 + 1 + 1, c9), (L + 1 + 1 + 1 + 1 + 1 + 1 + 1 + 1, c8), (L + 1 + 1 + 1 + 1 + 1 + 1 + 1, c7), (L + 1 + 1 + 1 + 1 + 1 + 1, c6), (L + 1 + 1 + 1 + 1 + 1, c5), (L + 1 + 1 + 1 + 1, c4), (L + 1 + 1 + 1, c3), (L + 1 + 1, c2), (L + 1, c1)] → LT.lt (α := Nat) (L + 1 + 1 + 1 + 1 + 1 + 1 + 1 + 1 + 1) DW → LT.lt (α := Nat) DW DP → LT.lt (α := Nat) DP DB → 0 < s.toks →
   c1.data = .cell (some (.str S tS)) → c4.data = .cell (some (.ref DW)) → c7.data = .cell (some (.int (szN W : Nat) t7)) → IntsAre ws W →
   (∀ (h : Heap) (tk : Nat) (m' : Str → Option Value) (DT : Nat) (vs : List Value) (kt : Nat), Fr h0 L h m' → m' (Str.ofString "script") = some (.ref l) → m' (Str.ofString "texts") = some (.ref DT) → News h0 L h [(DT, listOf vs.toArray kt), (DB, listOf bs.toArray kb), (DP, listOf ps.toArray k), (DW, listOf ws.toArray n), (L + 1 + 1 + 1 + 1 + 1 + 1 + 1 + 1 + 1, c9), (L + 1 + 1 + 1 + 1 + 1 + 1 + 1 + 1, c8), (L + 1 + 1 + 1 + 1 + 1 + 1 + 1, c7), (L + 1 + 1 + 1 + 1 + 1 + 1, c6), (L + 1 + 1 + 1 + 1 + 1, c5), (L + 1 + 1 + 1 + 1, c4), (L + 1 + 1 + 1, c3), (L + 1 + 1, c2), (L + 1, c1)] → LT.lt (α := Nat) DB DT → 0 < tk →
     StrsAre vs (txF S W (szN W)) → wpAny (model PySem.Challenge.rw_sw0037_01.row.prog w) (callerA.deeper (envOfC name scope L fa cd)) (execs (body.drop 17) (envOfC name scope L fa cd)) Q E { s with heap := h, toks := tk }) →
   wpAny (model PySem.Challenge.rw_sw0037_01.row.prog w) (callerA.deeper (envOfC name scope L fa cd)) (execs (body.drop 15) (envOfC name scope L fa cd)) Q E s

theorem segG2 (w : World) (mean : ExcName → Option Value) (mg mb : Str → Option Value) : LawB w (SegG2 w mean mg mb) := by
  refine LawB.intro (by with_unfolding_all rfl) ?_
  intro s Q E h0 L fa l cd m c1 c2 c3 c4 c5 c6 c7 c8 c9 S ld W tS t7 DB DP DW ws ps bs n k kb P K htx hm F N lW lP lB hs0 d1 d4 d7 iW hnext
  have hW9 : Hide (IntsAre ws W) := ⟨iW⟩
  have P0 := P
  obtain ⟨X, T⟩ := P
  revert X; k_fill; intro X
  have lW9 : LT.lt (α := Nat) (L + 1 + 1 + 1 + 1 + 1 + 1 + 1 + 1 + 1) DW ∧ LT.lt (α := Nat) (L + 1 + 1 + 1 + 1 + 1 + 1 + 1 + 1) DW ∧ LT.lt (α := Nat) (L + 1 + 1 + 1 + 1 + 1 + 1 + 1) DW ∧ LT.lt (α := Nat) (L + 1 + 1 + 1 + 1 + 1 + 1) DW ∧ LT.lt (α := Nat) (L + 1 + 1 + 1 + 1 + 1) DW ∧ LT.lt (α := Nat) (L + 1 + 1 + 1 + 1) DW ∧ LT.lt (α := Nat) (L + 1 + 1 + 1) DW ∧ LT.lt (α := Nat) (L + 1 + 1) DW ∧ LT.lt (α := Nat) (L + 1) DW := gt9 lW
  have lP9 : LT.lt (α := Nat) (L + 1 + 1 + 1 + 1 + 1 + 1 + 1 + 1 + 1) DP ∧ LT.lt (α := Nat) (L + 1 + 1 + 1 + 1 + 1 + 1 + 1 + 1) DP ∧ LT.lt (α := Nat) (L + 1 + 1 + 1 + 1 + 1 + 1 + 1) DP ∧ LT.lt (α := Nat) (L + 1 + 1 + 1 + 1 + 1 + 1) DP ∧ LT.lt (α := Nat) (L + 1 + 1 + 1 + 1 + 1) DP ∧ LT.lt (α := Nat) (L + 1 + 1 + 1 + 1) DP ∧ LT.lt (α := Nat) (L + 1 + 1 + 1) DP ∧ LT.lt (α := Nat) (L + 1 + 1) DP ∧ LT.lt (α := Nat) (L + 1) DP := gt9 (Nat.lt_trans lW lP)
  have lB9 : LT.lt (α := Nat) (L + 1 + 1 + 1 + 1 + 1 + 1 + 1 + 1 + 1) DB ∧ LT.lt (α := Nat) (L + 1 + 1 + 1 + 1 + 1 + 1 + 1 + 1) DB ∧ LT.lt (α := Nat) (L + 1 + 1 + 1 + 1 + 1 + 1 + 1) DB ∧ LT.lt (α := Nat) (L + 1 + 1 + 1 + 1 + 1 + 1) DB ∧ LT.lt (α := Nat) (L + 1 + 1 + 1 + 1 + 1) DB ∧ LT.lt (α := Nat) (L + 1 + 1 + 1 + 1) DB ∧ LT.lt (α := Nat) (L + 1 + 1 + 1) DB ∧ LT.lt (α := Nat) (L + 1 + 1) DB ∧ LT.lt (α := Nat) (L + 1) DB := gt9 (Nat.lt_trans (Nat.lt_trans lW lP) lB)
  have hl2 := K.len2
  have hl3 := K.len3
  have hsz5 : szN W ≤ 5 := by unfold szN; split <;> decide
  dsimp only [List.drop]
  refine wpAny_execs_cons ?_
  refine wpAny_with_toks (n := s.toks) (Nat.le_refl _) ?_
  k_steps
  unfold Halt
  rename Fr _ _ _ _ => F3
  rename News _ _ _ _ => N3
  refine newList_O F3 N3 (fun DT h5 hP F5 N5 => ?_) (by rw [sizeLine_eq]; show 1 ≤ _; decide)
  have lT : LT.lt (α := Nat) DB DT := hP (DB, listOf bs.toArray kb) (.head _)
  clear hP F3 N3
  k_steps
  unfold Halt
  rename s.toks ≤ _ => hle9
  refine wpAny_execs_cons ?_
  refine wpAny_with_toks (n := s.toks) (by dsimp only at *; omega) ?_
  refine for_V h0 rfl rfl ?_
  k_steps
  unfold Halt
  rename Fr _ _ _ _ => F1
  rename News _ _ _ _ => N1
  rename IsRange _ _ _ _ _ _ _ _ => hr
  obtain ⟨q1, q2⟩ := range_up (szN W) (by omega)
  refine iter_rangeV (szN W) (fun i m' nw => m' (Str.ofString "script") = some (.ref l) ∧ ∃ (DT : Nat) (vs : List Value) (kt : Nat), LT.lt (α := Nat) DB DT ∧ nw = (DT, listOf vs.toArray kt) :: [(DB, listOf bs.toArray kb), (DP, listOf ps.toArray k), (DW, listOf ws.toArray n), (L + 1 + 1 + 1 + 1 + 1 + 1 + 1 + 1 + 1, c9), (L + 1 + 1 + 1 + 1 + 1 + 1 + 1 + 1, c8), (L + 1 + 1 + 1 + 1 + 1 + 1 + 1, c7), (L + 1 + 1 + 1 + 1 + 1 + 1, c6), (L + 1 + 1 + 1 + 1 + 1, c5), (L + 1 + 1 + 1 + 1, c4), (L + 1 + 1 + 1, c3), (L + 1 + 1, c2), (L + 1, c1)] ∧ m' (Str.ofString "texts") = some (.ref DT) ∧ StrsAre vs (txF S W i)) (by with_unfolding_all rfl) hr q1 q2 F1 N1 ⟨hm, DT, _, _, lT, rfl, rfl, .cons _ _ .nil⟩ ?_ ?_
  · rintro I i t m₁ nw h o hI hnI ht hi ⟨ms, DT, vs, kt, lT, rfl, mt, iT⟩ F2 N2
    clear F1 N1 hr
    refine wpAny_execs_cons ?_
    refine Assign_ListComp_2 (cl := [(Str.ofString "weights", (L + 1 + 1 + 1 + 1)), (Str.ofString "signs", (L + 1))]) ?a ?b ?c ?d ?e ?f ?g ?h ?i ?j ?k ?_
    case a => with_unfolding_all rfl
    case b => with_unfolding_all rfl
    case c => decide
    case d => rfl
    case e => decide
    case f => rfl
    case g => rfl
    case h => decide
    case i => rfl
    case j => rfl
    case k => intro _ _; with_unfolding_all rfl
    k_steps
    unfold Halt
    have hb1 := htx i hi
    rw [txF] at hb1
    have hlen := txF_len S W i
    have eT : txF S W (i + 1) = (txF S W i).flatMap (oneF S W) := by rw [txF]
    generalize txF S W i = xs at *
    have hvl := iT.length
    refine csrc_list (by with_unfolding_all rfl) (News.isList N2 (.tail _ (.head _))) fun it s₂ src => ?_
    rw [List.size_toArray] at src
    refine ⟨_, _, fun i ys => StrsAre ys ((xs.take i).flatMap (oneF S W)), _, src, F2.ns, .nil, ?_, ?_⟩
    · rintro C i v ys t0 t1 s₃ m₃ Ib hC hIb hi3 iY ht0 ⟨hv, rfl⟩ ht1 hn3 hm3 hk3
      obtain ⟨t4, rfl⟩ := strs_at iT i v (by rw [List.getElem?_toArray] at hv; exact hv)
      have hi4 : i < xs.length := by omega
      have hxl : (xs.getD i (Str.mk #[])).length ≤ 5 := by
        rw [List.getD_eq_getElem?_getD, List.getElem?_eq_getElem hi4]
        show (xs[i]).length ≤ 5
        rw [hlen _ (List.getElem_mem hi4)]; omega
      have hxe : xs[i]? = some (xs.getD i (Str.mk #[])) := by rw [List.getD_eq_getElem?_getD, List.getElem?_eq_getElem hi4]; rfl
      generalize xs.getD i (Str.mk #[]) = x at hm3 hxl hxe hv
      have hcS : s₃.heap.IsCell (L + 1) (some (.str S tS)) := ⟨c1, hk3 _ _ (N2 ((L + 1), c1) (by simp)).1, d1⟩
      have hcW : s₃.heap.IsCell (L + 1 + 1 + 1 + 1) (some (.ref DW)) := ⟨c4, hk3 _ _ (N2 ((L + 1 + 1 + 1 + 1), c4) (by simp)).1, d4⟩
      have hlW : s₃.heap.IsList DW ws.toArray := ⟨_, hk3 _ _ (N2 (DW, listOf ws.toArray n) (by simp)).1, rfl, _, rfl⟩
      have FC : Fr _ C s₃.heap m₃ := ⟨hn3, hk3, hC⟩
      have NC : News _ C s₃.heap [] := News.nil (h₀ := h0)
      clear hk3 F2 N2
      k_steps
      unfold Halt
      refine item_eq 0 (W.getD 0 0) hlW hW9.out rfl (by omega) (by omega) rfl fun tw => ?_
      k_steps
      unfold Halt
      refine slice_ns_keep (fun h6 t6 k6 hk6 => ?_) (hsz := by rw [K.s3, sizeLine_eq]; decide)
      refine ⟨⟨h6, k6, rfl, hk6⟩, ?_⟩
      have e1 : (xs.take (i + 1)).flatMap (oneF S W) = (xs.take i).flatMap (oneF S W) ++ oneF S W x := by
        rw [List.take_succ, List.flatMap_append, hxe]; simp
      have e2 : ((xs.take (i + 1)).flatMap (oneF S W)).length ≤ 1000 := by
        refine Nat.le_trans ?_ hb1
        conv => rhs; rw [← List.take_append_drop (i + 1) xs, List.flatMap_append, List.length_append]
        exact Nat.le_add_right _ _
      have eo : oneF S W x = (Txt.slice S none (some (W.getD 0 0 + 1))).cps.toList.map fun c => x ++ (⟨#[c]⟩ : Str) := rfl
      generalize Txt.slice S none (some (W.getD 0 0 + 1)) = Z at eo ⊢
      rw [e1, List.length_append, ← iY.length, eo, List.length_map, Array.length_toList] at e2
      refine csrcI_str (by with_unfolding_all rfl) fun it1 s₅ src1 => ?_
      refine ⟨_, _, fun j y => ∃ tk, y = .str (x ++ ⟨#[Z.cps.toList.getD j 0]⟩) tk, src1, by rw [sizeLine_eq]; exact Nat.le_trans e2 (by decide), ?_, ?_⟩
      · rintro j v' t2 t3 s₆ m₆ E' hj ht2 ⟨c, hc, rfl, rfl⟩ ht3 hn6 hm6 hmx hk6
        have ec : Z.cps.toList.getD j 0 = c := by rw [List.getD_eq_getElem?_getD, Array.getElem?_toList, hc]; rfl
        change wpAny _ _ _ (EltEnd (fun y => ∃ tk, y = .str (x ++ ⟨#[Z.cps.toList.getD j 0]⟩) tk) s₆) _ _
        rw [ec]
        have FE : Fr _ C s₆.heap m₆ := ⟨hn6, fun b o e => hk6 b o (fun z => by rw [z, hIb] at e; cases e) e, hC⟩
        have NE : News _ C s₆.heap [] := News.nil (h₀ := h0)
        clear hk6 FC NC hn3 hm3 hcS hcW hlW hc ec
        k_steps
        unfold Halt
        refine SBL.add (fun t9 k9 hle' => ?_) (hsz := by have z2 : (⟨#[c]⟩ : Str).length = 1 := rfl; rw [z2, sizeLine_eq]; omega)
        exact EltEnd.intro ⟨_, rfl⟩ fun _ _ e => e
      · intro zs hz
        show StrsAre (ys ++ zs) _
        rw [e1, eo, ← range_map_chars]
        exact StrsAre.append' iY (paired_strs hz)
    · intro D' h' tk ys k' hD hget hB htk hns hk
      rw [hvl, List.take_length, ← eT] at hB
      have F3 := Fr_afterL F2 hns hk
      have hI1 := (N2 (I, o) (.head _)).1
      have hIl : LT.lt (α := Nat) I D' := Nat.lt_of_lt_of_le (Heap.lt_size hI1) hD
      have hBl : LT.lt (α := Nat) DB D' := Nat.lt_of_lt_of_le (Heap.lt_size (N2 (DB, listOf bs.toArray kb) (by simp)).1) hD
      have N3 := News_addL (News_afterL N2 hk) F2 hD hget
      have N4 : News h0 L h' ((I, o) :: (D', listOf ys.toList.toArray k') :: [(DB, listOf bs.toArray kb), (DP, listOf ps.toArray k), (DW, listOf ws.toArray n), (L + 1 + 1 + 1 + 1 + 1 + 1 + 1 + 1 + 1, c9), (L + 1 + 1 + 1 + 1 + 1 + 1 + 1 + 1, c8), (L + 1 + 1 + 1 + 1 + 1 + 1 + 1, c7), (L + 1 + 1 + 1 + 1 + 1 + 1, c6), (L + 1 + 1 + 1 + 1 + 1, c5), (L + 1 + 1 + 1 + 1, c4), (L + 1 + 1 + 1, c3), (L + 1 + 1, c2), (L + 1, c1)]) := by
        intro p hp
        rw [Array.toArray_toList] at hp
        rcases List.mem_cons.mp hp with rfl | hp
        · exact N3 _ (.tail _ (.head _))
        rcases List.mem_cons.mp hp with rfl | hp
        · exact N3 _ (.head _)
        · exact N3 _ (.tail _ (.tail _ (.tail _ hp)))
      clear F2 N2 N3
      k_steps
      refine FPostV.nextI F3 N4 (fun p hp => ?_) ⟨ms, D', ys.toList, k', hBl, rfl, rfl, hB⟩
      rcases List.mem_cons.mp hp with rfl | hp
      · exact Nat.ne_of_gt hIl
      · exact hnI p (.tail _ hp)
  · rintro m₁ nw h tk ht ⟨ms, DT, vs, kt, lT, rfl, mt, iT⟩ F2 N2
    clear F1 N1 hr
    k_steps
    unfold Halt
    exact hnext _ _ _ DT vs kt F2 ms mt N2 lT (by dsimp only at *; omega) iT
end

-- part CompC
set_option maxRecDepth 100000
set_option maxHeartbeats 16000000

section
variable {prog : Program} {w : World} {A : Around}

theorem newFunctionEnv_c {M : Model} {E : Value → Shared → Prop} {s : Shared} {scope : Scope} {globals : Addr} {cl : List (Str × Addr)} {qual : Str} {func : Option Addr} {code : Value} {outer : Env} {builtins : Addr} {Q : Env → Shared → Prop} {x : Str}
    (h1 : ∀ n, cellsFrom n scope.names cl = (x, n) :: cl) (h2 : ∀ H, pushCells H scope.names = H.push { cls := .type "cell", data := .cell none })
    (hQ : Q (newEnv scope s.heap.objs.size globals ((x, s.heap.objs.size + 1) :: cl) qual func code (some outer) builtins)
      { s with heap := (s.heap.push { cls := .type "dict", data := .dict #[] }).push { cls := .type "cell", data := .cell none } }) :
    wpAny M A (newFunctionEnv scope globals cl [] qual func code (some outer) builtins) Q E s := by
  simp only [newFunctionEnv, Option.isSome_some, if_true]
  refine wpAny_bind (wpAny_alloc ?_)
  refine wpAny_bind (wpAny_layCells _ (fun name kind cells => by cases hkc : kind == NameKind.cell <;> simp [hkc]) _ _ _ _ ?_)
  rw [h2, h1]
  rw [show ({ s with heap := s.heap.push { cls := .type "dict", data := .dict #[] } } : Shared).heap.objs.size = s.heap.objs.size + 1 from Heap.size_push ..]
  rw [List.forIn_nil]
  exact wpAny_bind (wpAny_pure (wpAny_pure hQ))

structure QuietC (prog : Program) (w : World) (A : Around) (cenv : Addr → Addr → Env) (ifs : List PySem.Expr) (elt : PySem.Expr) (n : Nat) (P : Nat → Value → Nat → Nat → Prop) (p : Nat → Bool) (G : Nat → Value → Prop) (s₁ : Shared) : Prop where
  tests : ∀ C X i v t0 t1 s₃ m₃ E', s₁.heap.objs.size ≤ C → C < X → i < n → s₁.toks ≤ t0 → P i v t0 t1 → t1 ≤ s₃.toks → s₃.heap.Ns C m₃ → s₃.heap.IsCell X (some v) → (∀ b o, s₁.heap.get? b = some o → s₃.heap.get? b = some o) →
    wpAny (model prog w) A (forIn ifs true fun c r => if r = true then do let ok ← isTrue c (cenv C X) (eval c (cenv C X)); pure (ForInStep.yield ok) else pure (ForInStep.yield r))
      (fun ok s₄ => ok = p i ∧ Keeps s₃ s₄) E' s₃
  elt : ∀ C X i v t0 t1 s₃ m₃ E', s₁.heap.objs.size ≤ C → C < X → i < n → p i = true → s₁.toks ≤ t0 → P i v t0 t1 → t1 ≤ s₃.toks → s₃.heap.Ns C m₃ → s₃.heap.IsCell X (some v) → (∀ b o, s₁.heap.get? b = some o → s₃.heap.get? b = some o) →
    wpAny (model prog w) A (eval elt (cenv C X)) (fun y s₄ => G i y ∧ Keeps s₃ s₄) E' s₃

theorem comp_loopC {R : Result → Shared → Prop} {s : Shared} {elt iter : PySem.Expr} {x : Str} {px : Pos} {ifs : List PySem.Expr} {scope : Scope} {pos : Pos} {I D C X : Addr} {fp : List Addr} {n : Nat} {P : Nat → Value → Nat → Nat → Prop} {St : Nat → Heap → Prop}
    {cenv : Addr → Addr → Env} {m : Str → Option Value} {s₁ : Shared} {h₂ : Heap} {v0 : Option Value} (W : WalksT prog w A I fp n P St) (p : Nat → Bool) (G : Nat → Value → Prop)
    (hk2 : ∀ b o, s₁.heap.get? b = some o → h₂.get? b = some o) (hz : s₁.heap.objs.size ≤ h₂.objs.size) (hIn : s₁.heap.get? I = none)
    (hkf : (cenv C X).scope.kind = .function) (hx : (cenv C X).kindOf x = some .cell) (hxl : (cenv C X).cells.lookup x = some X)
    (hDC : D ≠ C) (hDX : D ≠ X) (hCX : C < X) (hDf : D ∉ fp) (hCf : C ∉ fp) (hXf : X ∉ fp) (hC : h₂.objs.size ≤ C) (hD : h₂.objs.size ≤ D)
    (hst : St 0 s.heap) (hacc : s.heap.PlainList D #[]) (hn : s.heap.Ns C m) (hc : s.heap.IsCell X v0) (hs₂ : ∀ b o, h₂.get? b = some o → s.heap.get? b = some o) (htk₂ : s₁.toks ≤ s.toks)
    (q : QuietC prog w A cenv ifs elt n P p G s₁)
    (hR : ∀ h' tk m' ys, h'.Ns C m' → h'.PlainList D ys → Paired G ((List.range n).filter p) ys.toList → s₁.toks ≤ tk →
      (∀ b o, s₁.heap.get? b = some o → h'.get? b = some o) → R (.ok .next) { s with heap := h', toks := tk })
    (hsz : n ≤ sizeLine) :
    codeAny (model prog w) A (.compLoop (.ListComp elt [⟨.Name x px, iter, ifs, 0⟩] scope pos) 0 (.ref I) (.ref D) (cenv C X)) R s := by
  have hXge : h₂.objs.size ≤ X := Nat.le_trans hC (Nat.le_of_lt hCX)
  have hlt2 : ∀ b o, s₁.heap.get? b = some o → b ≠ X ∧ b ≠ D ∧ b ≠ I := fun b o e => ⟨Nat.ne_of_lt (Nat.lt_of_lt_of_le (Heap.lt_size (hk2 b o e)) hXge), Nat.ne_of_lt (Nat.lt_of_lt_of_le (Heap.lt_size (hk2 b o e)) hD), fun z => by rw [z, hIn] at e; cases e⟩
  have hDI : D ≠ I := fun e => hDf (e ▸ W.hI)
  have hCI : C ≠ I := fun e => hCf (e ▸ W.hI)
  have hXI : X ≠ I := fun e => hXf (e ▸ W.hI)
  have hC' : s₁.heap.objs.size ≤ C := Nat.le_trans hz hC
  refine codeAny_compLoop_tests
    (fun k s' => ∃ h' tk m' ys i v, s' = { s with heap := h', toks := tk } ∧ St i h' ∧ h'.PlainList D ys ∧ h'.Ns C m' ∧ h'.IsCell X v ∧ Paired G ((List.range i).filter p) ys.toList ∧ i ≤ n ∧ k = n + 1 - i ∧
      (∀ b o, s₁.heap.get? b = some o → h'.get? b = some o) ∧ s₁.toks ≤ tk) ?_ (n + 1)
    ⟨s.heap, s.toks, m, #[], 0, v0, rfl, hst, hacc, hn, hc, Paired.nil, Nat.zero_le _, rfl, fun b o e => hs₂ b o (hk2 b o e), htk₂⟩
  rintro k s' ⟨H, tk, m', ys, i, w0, rfl, hst', hacc', hn', hc', hF, hi, rfl, hk, htk⟩
  by_cases hlt : i < n
  · refine W.item i _ _ _ hlt hst' fun v h₁ tk₁ hPv hst₁ hk₁ => ?_
    have hle := W.le _ _ _ _ hPv
    have hn₁ : h₁.Ns C m' := hn'.at' fun o e => hk₁ _ o hCI e
    have hc₁ : h₁.IsCell X w0 := by obtain ⟨o, ho, hd⟩ := hc'; exact ⟨o, hk₁ _ o hXI ho, hd⟩
    refine wpAny_assign_Name (wpAny_storeName_cell hkf hx hxl hc₁ (fun h₂' hc₂ hs₂' => ?_))
    have sb₂ : Heap.SameBut X h₁ h₂' := hs₂'
    have hn₂ : h₂'.Ns C m' := hn₁.sameBut sb₂ (Nat.ne_of_lt hCX)
    have up₂ : ∀ b o, s₁.heap.get? b = some o → h₂'.get? b = some o := fun b o e => sb₂.extBut b o (hlt2 b o e).1 (hk₁ b o (hlt2 b o e).2.2 (hk b o e))
    have hst₂ : St (i + 1) h₂' := W.frame _ _ _ hst₁ fun b hb o e => sb₂.extBut b o (fun h => hXf (h ▸ hb)) e
    have hacc₂ : h₂'.PlainList D ys := hacc'.at fun o e => sb₂.extBut D o hDX (hk₁ D o hDI e)
    refine wpAny_mono (wpAny_toks_of (n := tk₁) (Nat.le_refl _) (q.tests C X i v tk tk₁ _ _ _ hC' hCX hlt htk hPv (Nat.le_refl _) hn₂ hc₂ up₂)) (fun ok s₃ h₃ => ?_) fun _ _ e => e.2
    obtain ⟨htk₃, rfl, h₃, tk₃, rfl, hk₃⟩ := h₃
    have hst₃ : St (i + 1) h₃ := W.frame _ _ _ hst₂ fun b _ o e => hk₃ b o e
    have hacc₃ : h₃.PlainList D ys := hacc₂.at fun o e => hk₃ _ o e
    have hn₃ := hn₂.keeps hk₃
    have hc₃ : h₃.IsCell X (some v) := by obtain ⟨o, ho, hd⟩ := hc₂; exact ⟨o, hk₃ _ o ho, hd⟩
    have hle₃ : s₁.toks ≤ tk₃ := Nat.le_trans htk (Nat.le_trans hle htk₃)
    cases hpv : p i with
    | false =>
      simp only [Bool.false_eq_true, if_false]
      refine ⟨n + 1 - (i + 1), by omega, h₃, tk₃, _, ys, i + 1, _, rfl, hst₃, hacc₃, hn₃, hc₃, ?_, hlt, rfl, fun b o e => hk₃ b o (up₂ b o e), hle₃⟩
      rw [range_filter_succ]; simpa [hpv] using hF
    | true =>
      simp only [if_true]
      refine wpAny_mono (wpAny_toks_of (n := tk₃) (Nat.le_refl _) (q.elt C X i v tk tk₁ _ _ _ hC' hCX hlt hpv htk hPv htk₃ hn₃ hc₃ (fun b o e => hk₃ b o (up₂ b o e)))) (fun y s₄ h₄ => ?_) fun _ _ e => e.2
      obtain ⟨htk₄, hFy, h₄, tk₄, rfl, hk₄⟩ := h₄
      have hys : ys.size ≤ sizeLine := by
        have e1 := hF.length
        have e2 : ((List.range i).filter p).length ≤ (List.range i).length := List.length_filter_le _ _
        have e3 : (List.range i).length = i := List.length_range
        have e4 : ys.toList.length = ys.size := by simp
        omega
      refine wpAny_list_append_plain (hsz := hys) (hacc₃.at fun o e => hk₄ _ o e) fun h₅ hl₅ hs₅ => ?_
      have sb₅ : Heap.SameBut D h₄ h₅ := hs₅
      refine ⟨n + 1 - (i + 1), by omega, h₅, tk₄, _, ys.push y, i + 1, some v, rfl, ?_, hl₅, (hn₃.keeps hk₄).sameBut sb₅ (Ne.symm hDC), ?_, ?_, hlt, rfl,
        fun b o e => sb₅.extBut b o (hlt2 b o e).2.1 (hk₄ b o (hk₃ b o (up₂ b o e))), Nat.le_trans hle₃ htk₄⟩
      · exact W.frame _ _ h₅ hst₃ fun b hb o e => sb₅.extBut b o (fun h => hDf (h ▸ hb)) (hk₄ b o e)
      · obtain ⟨o, ho, hd⟩ := hc₃; exact ⟨o, sb₅.extBut _ o (Ne.symm hDX) (hk₄ _ o ho), hd⟩
      · rw [range_filter_succ]; simpa [hpv] using Paired.snoc hF hFy
  · have hin : i = n := by omega
    subst hin
    refine W.done _ _ _ hst' fun h₁ tk₁ hle hk₁ => ?_
    exact hR h₁ tk₁ m' ys (hn'.at' fun o e => hk₁ _ o hCI e) (hacc'.at fun o e => hk₁ _ o hDI e) hF (Nat.le_trans htk hle) fun b o e => hk₁ b o (hlt2 b o e).2.2 (hk b o e)

section
variable {E : Value → Shared → Prop} {env : Env}
theorem ListComp_C {s : Shared} {elt iter : PySem.Expr} {x : Str} {px : Pos} {ifs : List PySem.Expr} {scope : Scope} {cl : List (Str × Addr)} {pos : Pos} {Q : Value → Shared → Prop}
    (hclos : closureFor scope env = pure cl) (h1 : ∀ n, cellsFrom n scope.names cl = (x, n) :: cl) (h2 : ∀ H, pushCells H scope.names = H.push { cls := .type "cell", data := .cell none }) (hkind : scope.kind = .function)
    (hnames : ∀ y ∈ scope.names, y.2 = .local → scope.names.lookup y.1 = some .local) (hx : ∀ C X, (compEnvC scope ((x, X) :: cl) C env).kindOf x = some .cell)
    (h : wpAny (model prog w) A (eval iter env) (fun xv s₁ => wpAny (model prog w) A (pyIter xv) (fun it s₂ => ∃ n P p G, CSrc prog w A s₁ n P it s₂ ∧ n ≤ sizeLine ∧
      QuietC prog w A (fun C X => compEnvC scope ((x, X) :: cl) C env) ifs elt n P p G s₁ ∧
      (∀ D h' tk ys k, s₁.heap.objs.size ≤ D → h'.get? D = some (listOf ys k) → Paired G ((List.range n).filter p) ys.toList → s₁.toks ≤ tk →
        (∀ b o, s₁.heap.get? b = some o → h'.get? b = some o) → Q (.ref D) { s₁ with heap := h', toks := tk })) E s₁) E s)
    (hs : ∀ x, foldedSetIterable iter env x = pure x := by intro _; rfl) :
    wpAny (model prog w) A (eval (.ListComp elt [⟨.Name x px, iter, ifs, 0⟩] scope pos) env) Q E s := by
  rw [eval_ListComp]
  refine wpAny_comprehension_free (use := none) rfl hs hclos hkind hnames (wpAny_mono h (fun xv s₁ h₁ => wpAny_mono h₁ (fun it s₂ h₂ => ?_) fun _ _ e => e) fun _ _ e => e)
  obtain ⟨n, P, p, G, ⟨I, fp, St, h₂, rfl, rfl, W, hst, hfp, hI, hz, hk₂⟩, hsz, hq, hQ⟩ := h₂
  refine wpAny_newObj_type (newFunctionEnv_c h1 h2 ?_)
  dsimp only
  generalize hH2 : h₂.push { cls := .type "list", dict := none, data := .seq ([] : List Value).toArray } = H2
  have hC : H2.objs.size = h₂.objs.size + 1 := by rw [← hH2, Heap.size_push]
  have hDC : h₂.objs.size ≠ H2.objs.size := by rw [hC]; exact Nat.ne_of_lt (Nat.lt_succ_self _)
  have hCle : h₂.objs.size ≤ H2.objs.size := by rw [hC]; exact Nat.le_succ _
  have hDf : h₂.objs.size ∉ fp := fun hm => Nat.lt_irrefl _ (hfp _ hm)
  have hCf : H2.objs.size ∉ fp := fun hm => by have := hfp _ hm; rw [hC] at this; exact Nat.lt_irrefl _ (Nat.lt_of_succ_lt this)
  have hXf : H2.objs.size + 1 ∉ fp := fun hm => by have := hfp _ hm; rw [hC] at this; exact Nat.lt_irrefl _ (Nat.lt_of_succ_lt (Nat.lt_of_succ_lt this))
  generalize hH1 : (H2.push { cls := .type "dict", data := .dict #[] }).push { cls := .type "cell", data := .cell none } = H1
  have old : ∀ b o, h₂.get? b = some o → H1.get? b = some o := fun b o e => by
    rw [← hH1]; exact Heap.get?_push_of_some _ (Heap.get?_push_of_some _ (hH2 ▸ Heap.get?_push_of_some _ e))
  have hacc : H1.PlainList h₂.objs.size #[] := ⟨_, by rw [← hH1]; exact Heap.get?_push_of_some _ (Heap.get?_push_of_some _ (hH2 ▸ Heap.get?_push_size _ rfl))⟩
  have hns : H1.Ns H2.objs.size (fun _ => none) := by
    rw [← hH1]; exact (Heap.Ns.new H2 (.type "dict")).keeps fun b o e => Heap.get?_push_of_some _ e
  have hcell : H1.IsCell (H2.objs.size + 1) none := ⟨_, by rw [← hH1, ← Heap.size_push H2 { cls := .type "dict", data := .dict #[] }]; exact Heap.get?_push_size _ rfl, rfl⟩
  have hst₁ : St 0 H1 := W.frame _ _ _ hst fun b _ o e => old b o e
  have loop : codeAny (model prog w) A (.compLoop (.ListComp elt [⟨.Name x px, iter, ifs, 0⟩] scope pos) 0 (.ref I) (.ref h₂.objs.size) (compEnvC scope ((x, H2.objs.size + 1) :: cl) H2.objs.size env))
        (compPost (model prog w) A E none Q (.ref h₂.objs.size) H2.objs.size) { s₁ with heap := H1 } := by
    refine comp_loopC (cenv := fun C X => compEnvC scope ((x, X) :: cl) C env) (s₁ := s₁) (h₂ := h₂) W p G hk₂ hz hI hkind (hx _ _) (by simp [compEnvC, List.lookup_cons]) hDC (Nat.ne_of_lt (by rw [hC]; exact Nat.lt_succ_of_lt (Nat.lt_succ_self _))) (Nat.lt_succ_self _) hDf hCf hXf hCle (Nat.le_refl _) hst₁ hacc hns hcell old (Nat.le_refl _) hq (fun h' tk m' ys hn hpl hF htk hk => ?_) hsz
    refine ⟨m', hn, fun h'' hs'' => ?_⟩
    have sb : Heap.SameBut H2.objs.size h' h'' := hs''
    obtain ⟨k, e⟩ := hpl
    exact hQ _ h'' tk ys k hz (sb.extBut _ _ hDC e) hF htk fun b o e => sb.extBut b o (Nat.ne_of_lt (Nat.lt_of_lt_of_le (Heap.lt_size e) (Nat.le_trans hz hCle))) (hk b o e)
  exact codeAny_compStart_list loop (W.self 0 _ _ _ hst₁ loop)
end
end

-- part C21
set_option maxRecDepth 100000
set_option maxHeartbeats 16000000

section

def tailsN (R : Str) (n : Nat) : List Str := (List.range n).map fun i => Txt.slice R (some (0 + ((i : Nat) : Int) * 1)) none
def maxL (ss : List Str) : Str := maxS (fun i => ss.getD i (Str.mk #[])) ss.length
def dueF (S ld : Str) (W : List Int) : List Str := (txF S W (szN W)).filter fun t => decide ((maxL (tailsN t (szN W))).cps.toList < ld.cps.toList)

theorem filter_getD {α : Type} (p : α → Bool) (l : List α) (d : α) : ((List.range l.length).filter fun i => p (l.getD i d)).map (fun i => l.getD i d) = l.filter p := by
  have e : (List.range l.length).map (fun i => l.getD i d) = l := by
    apply List.ext_getElem?
    intro i
    by_cases h : i < l.length
    · simp [h]
    · simp [h]
  conv => rhs; rw [← e]
  rw [List.filter_map]
  rfl

def SegH (w : World) (mean : ExcName → Option Value) (mg mb : Str → Option Value) (name : Str) (scope : Scope) (body : List Stmt) : Prop :=
  ∀ (s : Shared) (Q : Flow → Shared → Prop) (E : Value → Shared → Prop) (h0 : Heap) (L fa l : Addr) (cd : Value) (m : Str → Option Value) (c1 c2 c3 c4 c5 c6 c7 c8 c9 : Obj) (S ld : Str) (W : List Int) (tL t7 : Tok) (DT DB DP DW : Nat) (ws ps bs vs : List Value) (n k kb kt : Nat),
   PC w mean mg mb h0 → Cfg S ld W → (txF S W (szN W)).length ≤ 1000 →
   m (Str.ofString "script") = some (.ref l) → m (Str.ofString "texts") = some (.ref DT) →
   Fr h0 L s.heap m → News h0 L s.heap [(DT, listOf vs.toArray kt), (DB, listOf bs.toArray kb), (DP, listOf ps.toArray k), (DW, listOf ws.toArray n), (L + 1 + 1 + 1 + 1 + 1 + 1 + 1 + 1 + 1, c9), (L + 1 + 1 + 1 + 1 + 1 + 1 + 1 + 1, c8), (L + 1 + 1 + 1 + 1 + 1 + 1 + 1, c7), (L + 1 + 1 + 1 + 1 + 1 + 1, c6), (L + 1 + 1 + 1 + 1 + 1, c5), (L + 1 + 1 + 1 + 1, c4), (L + 1 + 1 + 1, c3), (L + 1 + 1, c2), (L + 1, c1)] → LT.lt (α := Nat) (L + 1 + 1 + 1 + 1 + 1 + 1 + 1 + 1 + 1) DW → LT.lt (α := Nat) DW DP → LT.lt (α := Nat) DP DB → LT.lt (α := Nat) DB DT → 0 < s.toks →
   c3.data = .cell (some (.str ld tL)) → c7.data = .cell (some (.int (szN W : Nat) t7)) → c9.data = .cell none → StrsAre vs (txF S W (szN W)) →
   (∀ (h : Heap) (tk : Nat) (DD : Nat) (ds : List Value) (kd : Nat) (c9 : Obj), Fr h0 L h m → News h0 L h [(DD, listOf ds.toArray kd), (DT, listOf vs.toArray kt), (DB, listOf bs.toArray kb), (DP, listOf ps.toArray k), (DW, listOf ws.toArray n), (L + 1 + 1 + 1 + 1 + 1 + 1 + 1 + 1 + 1, c9), (L + 1 + 1 + 1 + 1 + 1 + 1 + 1 + 1, c8), (L + 1 + 1 + 1 + 1 + 1 + 1 + 1, c7), (L + 1 + 1 + 1 + 1 + 1 + 1, c6), (L + 1 + 1 + 1 + 1 + 1, c5), (L + 1 + 1 + 1 + 1, c4), (L + 1 + 1 + 1, c3), (L + 1 + 1, c2), (L + 1, c1)] → LT.lt (α := Nat) DT DD → 0 < tk →
     c9.data = .cell (some (.ref DD)) → StrsAre ds (dueF S ld W) → wpAny (model PySem.Challenge.rw_sw0037_01.row.prog w) (callerA.deeper (envOfC name scope L fa cd)) (execs (body.drop 18) (envOfC name scope L fa cd)) Q E { s with heap := h, toks := tk }) →
   wpAny (model PySem.Challenge.rw_sw0037_01.row.prog w) (callerA.deeper (envOfC name scope L fa cd)) (execs (body.drop 17) (envOfC name scope L fa cd)) Q E s

theorem segH (w : World) (mean : ExcName → Option Value) (mg mb : Str → Option Value) : LawB w (SegH w mean mg mb) := by
  refine LawB.intro (by with_unfolding_all rfl) ?_
  intro s Q E h0 L fa l cd m c1 c2 c3 c4 c5 c6 c7 c8 c9 S ld W tL t7 DT DB DP DW ws ps bs vs n k kb kt P K htx hm hmt F N lW lP lB lT hs0 d3 d7 d9 iT hnext
  have P0 := P
  obtain ⟨X, T⟩ := P
  revert X; k_fill; intro X
  have lW9 : LT.lt (α := Nat) (L + 1 + 1 + 1 + 1 + 1 + 1 + 1 + 1 + 1) DW ∧ LT.lt (α := Nat) (L + 1 + 1 + 1 + 1 + 1 + 1 + 1 + 1) DW ∧ LT.lt (α := Nat) (L + 1 + 1 + 1 + 1 + 1 + 1 + 1) DW ∧ LT.lt (α := Nat) (L + 1 + 1 + 1 + 1 + 1 + 1) DW ∧ LT.lt (α := Nat) (L + 1 + 1 + 1 + 1 + 1) DW ∧ LT.lt (α := Nat) (L + 1 + 1 + 1 + 1) DW ∧ LT.lt (α := Nat) (L + 1 + 1 + 1) DW ∧ LT.lt (α := Nat) (L + 1 + 1) DW ∧ LT.lt (α := Nat) (L + 1) DW := gt9 lW
  have lP9 : LT.lt (α := Nat) (L + 1 + 1 + 1 + 1 + 1 + 1 + 1 + 1 + 1) DP ∧ LT.lt (α := Nat) (L + 1 + 1 + 1 + 1 + 1 + 1 + 1 + 1) DP ∧ LT.lt (α := Nat) (L + 1 + 1 + 1 + 1 + 1 + 1 + 1) DP ∧ LT.lt (α := Nat) (L + 1 + 1 + 1 + 1 + 1 + 1) DP ∧ LT.lt (α := Nat) (L + 1 + 1 + 1 + 1 + 1) DP ∧ LT.lt (α := Nat) (L + 1 + 1 + 1 + 1) DP ∧ LT.lt (α := Nat) (L + 1 + 1 + 1) DP ∧ LT.lt (α := Nat) (L + 1 + 1) DP ∧ LT.lt (α := Nat) (L + 1) DP := gt9 (Nat.lt_trans lW lP)
  have lB9 : LT.lt (α := Nat) (L + 1 + 1 + 1 + 1 + 1 + 1 + 1 + 1 + 1) DB ∧ LT.lt (α := Nat) (L + 1 + 1 + 1 + 1 + 1 + 1 + 1 + 1) DB ∧ LT.lt (α := Nat) (L + 1 + 1 + 1 + 1 + 1 + 1 + 1) DB ∧ LT.lt (α := Nat) (L + 1 + 1 + 1 + 1 + 1 + 1) DB ∧ LT.lt (α := Nat) (L + 1 + 1 + 1 + 1 + 1) DB ∧ LT.lt (α := Nat) (L + 1 + 1 + 1 + 1) DB ∧ LT.lt (α := Nat) (L + 1 + 1 + 1) DB ∧ LT.lt (α := Nat) (L + 1 + 1) DB ∧ LT.lt (α := Nat) (L + 1) DB := gt9 (Nat.lt_trans (Nat.lt_trans lW lP) lB)
  have lT9 : LT.lt (α := Nat) (L + 1 + 1 + 1 + 1 + 1 + 1 + 1 + 1 + 1) DT ∧ LT.lt (α := Nat) (L + 1 + 1 + 1 + 1 + 1 + 1 + 1 + 1) DT ∧ LT.lt (α := Nat) (L + 1 + 1 + 1 + 1 + 1 + 1 + 1) DT ∧ LT.lt (α := Nat) (L + 1 + 1 + 1 + 1 + 1 + 1) DT ∧ LT.lt (α := Nat) (L + 1 + 1 + 1 + 1 + 1) DT ∧ LT.lt (α := Nat) (L + 1 + 1 + 1 + 1) DT ∧ LT.lt (α := Nat) (L + 1 + 1 + 1) DT ∧ LT.lt (α := Nat) (L + 1 + 1) DT ∧ LT.lt (α := Nat) (L + 1) DT := gt9 (Nat.lt_trans (Nat.lt_trans (Nat.lt_trans lW lP) lB) lT)
  have hsz5 : szN W ≤ 5 := by unfold szN; split <;> decide
  have hsz1 : 1 ≤ szN W := by unfold szN; split <;> decide
  have hlen := txF_len S W (szN W)
  have hvl := iT.length
  dsimp only [List.drop]
  refine wpAny_execs_cons ?_
  refine wpAny_with_toks (n := s.toks) (Nat.le_refl _) ?_
  k_steps
  unfold Halt
  refine ListComp_C (cl := [(Str.ofString "size", (L + 1 + 1 + 1 + 1 + 1 + 1 + 1)), (Str.ofString "lead", (L + 1 + 1 + 1))]) ?a ?b ?c ?d ?e ?f ?_
  case a => with_unfolding_all rfl
  case b => intro _; rfl
  case c => intro _; rfl
  case d => rfl
  case e => decide
  case f => intro _ _; rfl
  k_steps
  unfold Halt
  refine csrc_list (by with_unfolding_all rfl) (News.isList N (.head _)) fun it s₂ src => ?_
  rw [List.size_toArray] at src
  refine ⟨_, _, fun i => decide ((maxL (tailsN ((txF S W (szN W)).getD i (Str.mk #[])) (szN W))).cps.toList < ld.cps.toList), fun i y => ∃ tk, y = .str ((txF S W (szN W)).getD i (Str.mk #[])) tk, src, by rw [hvl, sizeLine_eq]; omega, ⟨?_, ?_⟩, ?_⟩
  · rintro C X1 i v t0 t1 s₃ m₃ E' hC hCX hi ht0 ⟨hv, rfl⟩ ht1 hn3 hc3 hk3
    obtain ⟨t4, rfl⟩ := strs_at iT i v (by rw [List.getElem?_toArray] at hv; exact hv)
    change wpAny _ _ _ (TstEnd (decide ((maxL (tailsN ((txF S W (szN W)).getD i (Str.mk #[])) (szN W))).cps.toList < ld.cps.toList)) s₃) _ _
    have hi4 : i < (txF S W (szN W)).length := by omega
    have hxl : ((txF S W (szN W)).getD i (Str.mk #[])).length = szN W := by
      rw [List.getD_eq_getElem?_getD, List.getElem?_eq_getElem hi4]
      exact hlen _ (List.getElem_mem hi4)
    generalize (txF S W (szN W)).getD i (Str.mk #[]) = x at hc3 hxl hv ⊢
    refine wpAny_tests_one ?_
    have hcL : s₃.heap.IsCell (L + 1 + 1 + 1) (some (.str ld tL)) := ⟨c3, hk3 _ _ (N ((L + 1 + 1 + 1), c3) (by simp)).1, d3⟩
    have hcZ : s₃.heap.IsCell (L + 1 + 1 + 1 + 1 + 1 + 1 + 1) (some (.int (szN W : Nat) t7)) := ⟨c7, hk3 _ _ (N ((L + 1 + 1 + 1 + 1 + 1 + 1 + 1), c7) (by simp)).1, d7⟩
    have P3 := (P0.keeps F.keep).keeps hk3
    have X3 := P3.X
    have FC : Fr s.heap C s₃.heap m₃ := ⟨hn3, hk3, hC⟩
    have NC : News s.heap C s₃.heap [] := News.nil
    clear hk3 F N
    k_steps
    unfold Halt
    refine ListComp_T (cl := [(Str.ofString "text", X1)]) ?a ?b ?c ?d ?e ?_
    case a => with_unfolding_all rfl
    case b => decide
    case c => rfl
    case d => decide
    case e => rfl
    k_steps
    unfold Halt
    rename IsRange _ _ _ _ _ _ _ _ => hr4
    rename Fr _ _ _ _ => F4
    rename ∀ b o, Heap.get? _ b = some o → Heap.get? _ b = some o => hk4
    obtain ⟨q1, q2⟩ := range_up (szN W) (by omega)
    refine csrc_range (szN W) (by with_unfolding_all rfl) ⟨_, _, _, hr4⟩ q1 q2 fun it2 s₄ src2 => ?_
    refine ⟨szN W, _, fun _ => true, fun j y => ∃ tk, y = .str (Txt.slice x (some (0 + ((j : Nat) : Int) * 1)) none) tk, src2, by rw [sizeLine_eq]; omega, ⟨fun _ _ _ _ _ _ _ _ _ _ _ _ _ _ _ _ => no_tests, ?_⟩, ?_⟩
    · rintro C2 j v t0' t3 s₆ m₆ E2 hC2 hj _ ht2 ⟨rfl, rfl⟩ ht3 hn6 hm6 hk6
      change wpAny _ _ _ (EltEnd (fun y => ∃ tk, y = .str (Txt.slice x (some (0 + ((j : Nat) : Int) * 1)) none) tk) s₆) _ _
      have hcX : s₆.heap.IsCell X1 (some (.str x t4)) := by obtain ⟨o, ho, hd⟩ := hc3; exact ⟨o, hk6 _ _ (hk4 _ _ ho), hd⟩
      have FE : Fr _ C2 s₆.heap m₆ := ⟨hn6, hk6, hC2⟩
      have NE : News _ C2 s₆.heap [] := News.nil (h₀ := h0)
      clear hk6 hk4 F4 hC2
      k_steps
      unfold Halt
      refine slice_sn_keep (fun h' t' k hk => ?_) (hsz := by rw [hxl, sizeLine_eq]; omega)
      k_steps
      exact EltEnd.intro ⟨_, rfl⟩ hk
    · intro D' h' tk ys k' hD hget hP htk hk
      rw [filter_true] at hP
      have hS' : StrsAre ys.toList (tailsN x (szN W)) := paired_strs hP
      have hl2 : h'.IsList D' ys.toList.toArray := by rw [Array.toArray_toList]; exact ⟨_, hget, rfl, _, rfl⟩
      have hk0 : ∀ b o, s₃.heap.get? b = some o → h'.get? b = some o := fun b o e => hk b o (hk4 b o e)
      have hnL : (tailsN x (szN W)).length = szN W := by rw [tailsN, List.length_map, List.length_range]
      have FE := F4.keeps hk
      have NE : News s.heap C h' [] := News.nil
      clear hP hk hget src2 hk4 F4
      k_steps
      unfold Halt
      refine max_strs (by with_unfolding_all rfl) hl2 hS' (by rw [hnL]; exact hsz1) fun h8 t8 k8 hk8 => ?_
      change wpAny _ _ _ _ _ _
      have hcL8 : h8.IsCell (L + 1 + 1 + 1) (some (.str ld tL)) := by obtain ⟨o, ho, hd⟩ := hcL; exact ⟨o, hk8 _ _ (hk0 _ _ ho), hd⟩
      have FE8 := FE.keeps hk8
      have NE8 : News s.heap C h8 [] := News.nil
      have hk9 : ∀ b o, s₃.heap.get? b = some o → h8.get? b = some o := fun b o e => hk8 b o (hk0 b o e)
      clear hk8 hk0 FE NE
      generalize hMX : maxS (fun i => (tailsN x (szN W)).getD i (Str.mk #[])) (tailsN x (szN W)).length = MX
      have hMX2 : maxL (tailsN x (szN W)) = MX := hMX
      rw [hMX2]
      k_steps
      exact ⟨rfl, h8, k8, rfl, hk9⟩
  · rintro C X1 i v t0 t1 s₃ m₃ E' hC hCX hi hp ht0 ⟨hv, rfl⟩ ht1 hn3 hc3 hk3
    obtain ⟨t4, rfl⟩ := strs_at iT i v (by rw [List.getElem?_toArray] at hv; exact hv)
    change wpAny _ _ _ (EltEnd (fun y => ∃ tk, y = .str ((txF S W (szN W)).getD i (Str.mk #[])) tk) s₃) _ _
    generalize (txF S W (szN W)).getD i (Str.mk #[]) = x at hc3 hv ⊢
    have FC : Fr _ C s₃.heap m₃ := ⟨hn3, hk3, hC⟩
    have NC : News _ C s₃.heap [] := News.nil (h₀ := h0)
    clear hk3 F N
    k_steps
    exact EltEnd.intro ⟨_, rfl⟩ fun _ _ e => e
  · intro D' h' tk ys k' hD hget hP htk hk
    have hS' := paired_strs hP
    have eD : ((List.range vs.length).filter fun i => decide ((maxL (tailsN ((txF S W (szN W)).getD i (Str.mk #[])) (szN W))).cps.toList < ld.cps.toList)).map (fun i => (txF S W (szN W)).getD i (Str.mk #[])) = dueF S ld W := by
      rw [hvl, dueF]
      exact filter_getD (fun t => decide ((maxL (tailsN t (szN W))).cps.toList < ld.cps.toList)) _ (Str.mk #[])
    rw [eD] at hS'
    have F2 := F.keeps hk
    have lD : LT.lt (α := Nat) DT D' := Nat.lt_of_lt_of_le (Heap.lt_size (N (DT, listOf vs.toArray kt) (by simp)).1) hD
    have N2 : News h0 L h' [(D', listOf ys.toList.toArray k'), (DT, listOf vs.toArray kt), (DB, listOf bs.toArray kb), (DP, listOf ps.toArray k), (DW, listOf ws.toArray n), (L + 1 + 1 + 1 + 1 + 1 + 1 + 1 + 1 + 1, c9), (L + 1 + 1 + 1 + 1 + 1 + 1 + 1 + 1, c8), (L + 1 + 1 + 1 + 1 + 1 + 1 + 1, c7), (L + 1 + 1 + 1 + 1 + 1 + 1, c6), (L + 1 + 1 + 1 + 1 + 1, c5), (L + 1 + 1 + 1 + 1, c4), (L + 1 + 1 + 1, c3), (L + 1 + 1, c2), (L + 1, c1)] := by
      rw [Array.toArray_toList]; exact News_addL (N.grown hk) F hD hget
    have lD9 : LT.lt (α := Nat) (L + 1 + 1 + 1 + 1 + 1 + 1 + 1 + 1 + 1) D' ∧ LT.lt (α := Nat) (L + 1 + 1 + 1 + 1 + 1 + 1 + 1 + 1) D' ∧ LT.lt (α := Nat) (L + 1 + 1 + 1 + 1 + 1 + 1 + 1) D' ∧ LT.lt (α := Nat) (L + 1 + 1 + 1 + 1 + 1 + 1) D' ∧ LT.lt (α := Nat) (L + 1 + 1 + 1 + 1 + 1) D' ∧ LT.lt (α := Nat) (L + 1 + 1 + 1 + 1) D' ∧ LT.lt (α := Nat) (L + 1 + 1 + 1) D' ∧ LT.lt (α := Nat) (L + 1 + 1) D' ∧ LT.lt (α := Nat) (L + 1) D' := gt9 (Nat.lt_trans (Nat.lt_trans (Nat.lt_trans (Nat.lt_trans lW lP) lB) lT) lD)
    clear hP hk F N hget src hD eD
    k_steps
    unfold Halt
    rename Fr _ _ _ _ => F6
    rename News _ _ _ _ => N6
    rename s.toks ≤ _ => hle9
    exact hnext _ _ D' ys.toList k' _ F6 N6 lD (by dsimp only at *; omega) (by assumption) hS'
end

-- part C22
set_option maxRecDepth 100000
set_option maxHeartbeats 16000000

section

local macro_rules | `(tactic| walk_at "isTrue Call") => `(tactic| refine wpAny_isTrue ?_)
def freeB (bl : List Str) (t : Str) : Bool := bl.all fun b => !hasSub t b
structure FreeOK (S ld : Str) (W : List Int) : Prop where
  eq : (txF S W (szN W)).filter (freeB (barF S ld W (W.length - 1))) = dueF S ld W
  pc : ∀ b ∈ barF S ld W (W.length - 1), PieceOK b
  ok : ∀ x ∈ dueF S ld W, PyData.strOk x = true
  tx : (txF S W (szN W)).length ≤ 1000

def SegI (w : World) (mean : ExcName → Option Value) (mg mb : Str → Option Value) (name : Str) (scope : Scope) (body : List Stmt) : Prop :=
  ∀ (s : Shared) (Q : Flow → Shared → Prop) (E : Value → Shared → Prop) (h0 : Heap) (L fa l : Addr) (cd : Value) (m : Str → Option Value) (c1 c2 c3 c4 c5 c6 c7 c8 c9 : Obj) (S ld : Str) (W : List Int) (DD DT DB DP DW : Nat) (ws ps bs vs ds : List Value) (n k kb kt kd : Nat),
   PC w mean mg mb h0 → FreeOK S ld W →
   m (Str.ofString "script") = some (.ref l) → m (Str.ofString "texts") = some (.ref DT) →
   Fr h0 L s.heap m → News h0 L s.heap [(DD, listOf ds.toArray kd), (DT, listOf vs.toArray kt), (DB, listOf bs.toArray kb), (DP, listOf ps.toArray k), (DW, listOf ws.toArray n), (L + 1 + 1 + 1 + 1 + 1 + 1 + 1 + 1 + 1, c9), (L + 1 + 1 + 1 + 1 + 1 + 1 + 1 + 1, c8), (L + 1 + 1 + 1 + 1 + 1 + 1 + 1, c7), (L + 1 + 1 + 1 + 1 + 1 + 1, c6), (L + 1 + 1 + 1 + 1 + 1, c5), (L + 1 + 1 + 1 + 1, c4), (L + 1 + 1 + 1, c3), (L + 1 + 1, c2), (L + 1, c1)] → LT.lt (α := Nat) (L + 1 + 1 + 1 + 1 + 1 + 1 + 1 + 1 + 1) DW → LT.lt (α := Nat) DW DP → LT.lt (α := Nat) DP DB → LT.lt (α := Nat) DB DT → LT.lt (α := Nat) DT DD → 0 < s.toks →
   c6.data = .cell (some (.ref DB)) → c9.data = .cell (some (.ref DD)) → StrsAre vs (txF S W (szN W)) → StrsAre bs (barF S ld W (W.length - 1)) → StrsAre ds (dueF S ld W) →
   (∀ (h : Heap) (tk : Nat), Fr h0 L h m → News h0 L h [(DD, listOf ds.toArray kd), (DT, listOf vs.toArray kt), (DB, listOf bs.toArray kb), (DP, listOf ps.toArray k), (DW, listOf ws.toArray n), (L + 1 + 1 + 1 + 1 + 1 + 1 + 1 + 1 + 1, c9), (L + 1 + 1 + 1 + 1 + 1 + 1 + 1 + 1, c8), (L + 1 + 1 + 1 + 1 + 1 + 1 + 1, c7), (L + 1 + 1 + 1 + 1 + 1 + 1, c6), (L + 1 + 1 + 1 + 1 + 1, c5), (L + 1 + 1 + 1 + 1, c4), (L + 1 + 1 + 1, c3), (L + 1 + 1, c2), (L + 1, c1)] → 0 < tk → wpAny (model PySem.Challenge.rw_sw0037_01.row.prog w) (callerA.deeper (envOfC name scope L fa cd)) (execs (body.drop 19) (envOfC name scope L fa cd)) Q E { s with heap := h, toks := tk }) →
   wpAny (model PySem.Challenge.rw_sw0037_01.row.prog w) (callerA.deeper (envOfC name scope L fa cd)) (execs (body.drop 18) (envOfC name scope L fa cd)) Q E s

theorem segI (w : World) (mean : ExcName → Option Value) (mg mb : Str → Option Value) : LawB w (SegI w mean mg mb) := by
  refine LawB.intro (by with_unfolding_all rfl) ?_
  intro s Q E h0 L fa l cd m c1 c2 c3 c4 c5 c6 c7 c8 c9 S ld W DD DT DB DP DW ws ps bs vs ds n k kb kt kd P K hm hmt F N lW lP lB lT lD hs0 d6 d9 iT iB iD hnext
  have P0 := P
  obtain ⟨X, T⟩ := P
  revert X; k_fill; intro X
  have lW9 : LT.lt (α := Nat) (L + 1 + 1 + 1 + 1 + 1 + 1 + 1 + 1 + 1) DW ∧ LT.lt (α := Nat) (L + 1 + 1 + 1 + 1 + 1 + 1 + 1 + 1) DW ∧ LT.lt (α := Nat) (L + 1 + 1 + 1 + 1 + 1 + 1 + 1) DW ∧ LT.lt (α := Nat) (L + 1 + 1 + 1 + 1 + 1 + 1) DW ∧ LT.lt (α := Nat) (L + 1 + 1 + 1 + 1 + 1) DW ∧ LT.lt (α := Nat) (L + 1 + 1 + 1 + 1) DW ∧ LT.lt (α := Nat) (L + 1 + 1 + 1) DW ∧ LT.lt (α := Nat) (L + 1 + 1) DW ∧ LT.lt (α := Nat) (L + 1) DW := gt9 lW
  have lP9 : LT.lt (α := Nat) (L + 1 + 1 + 1 + 1 + 1 + 1 + 1 + 1 + 1) DP ∧ LT.lt (α := Nat) (L + 1 + 1 + 1 + 1 + 1 + 1 + 1 + 1) DP ∧ LT.lt (α := Nat) (L + 1 + 1 + 1 + 1 + 1 + 1 + 1) DP ∧ LT.lt (α := Nat) (L + 1 + 1 + 1 + 1 + 1 + 1) DP ∧ LT.lt (α := Nat) (L + 1 + 1 + 1 + 1 + 1) DP ∧ LT.lt (α := Nat) (L + 1 + 1 + 1 + 1) DP ∧ LT.lt (α := Nat) (L + 1 + 1 + 1) DP ∧ LT.lt (α := Nat) (L + 1 + 1) DP ∧ LT.lt (α := Nat) (L + 1) DP := gt9 (Nat.lt_trans lW lP)
  have lB9 : LT.lt (α := Nat) (L + 1 + 1 + 1 + 1 + 1 + 1 + 1 + 1 + 1) DB ∧ LT.lt (α := Nat) (L + 1 + 1 + 1 + 1 + 1 + 1 + 1 + 1) DB ∧ LT.lt (α := Nat) (L + 1 + 1 + 1 + 1 + 1 + 1 + 1) DB ∧ LT.lt (α := Nat) (L + 1 + 1 + 1 + 1 + 1 + 1) DB ∧ LT.lt (α := Nat) (L + 1 + 1 + 1 + 1 + 1) DB ∧ LT.lt (α := Nat) (L + 1 + 1 + 1 + 1) DB ∧ LT.lt (α := Nat) (L + 1 + 1 + 1) DB ∧ LT.lt (α := Nat) (L + 1 + 1) DB ∧ LT.lt (α := Nat) (L + 1) DB := gt9 (Nat.lt_trans (Nat.lt_trans lW lP) lB)
  have lT9 : LT.lt (α := Nat) (L + 1 + 1 + 1 + 1 + 1 + 1 + 1 + 1 + 1) DT ∧ LT.lt (α := Nat) (L + 1 + 1 + 1 + 1 + 1 + 1 + 1 + 1) DT ∧ LT.lt (α := Nat) (L + 1 + 1 + 1 + 1 + 1 + 1 + 1) DT ∧ LT.lt (α := Nat) (L + 1 + 1 + 1 + 1 + 1 + 1) DT ∧ LT.lt (α := Nat) (L + 1 + 1 + 1 + 1 + 1) DT ∧ LT.lt (α := Nat) (L + 1 + 1 + 1 + 1) DT ∧ LT.lt (α := Nat) (L + 1 + 1 + 1) DT ∧ LT.lt (α := Nat) (L + 1 + 1) DT ∧ LT.lt (α := Nat) (L + 1) DT := gt9 (Nat.lt_trans (Nat.lt_trans (Nat.lt_trans lW lP) lB) lT)
  have lD9 : LT.lt (α := Nat) (L + 1 + 1 + 1 + 1 + 1 + 1 + 1 + 1 + 1) DD ∧ LT.lt (α := Nat) (L + 1 + 1 + 1 + 1 + 1 + 1 + 1 + 1) DD ∧ LT.lt (α := Nat) (L + 1 + 1 + 1 + 1 + 1 + 1 + 1) DD ∧ LT.lt (α := Nat) (L + 1 + 1 + 1 + 1 + 1 + 1) DD ∧ LT.lt (α := Nat) (L + 1 + 1 + 1 + 1 + 1) DD ∧ LT.lt (α := Nat) (L + 1 + 1 + 1 + 1) DD ∧ LT.lt (α := Nat) (L + 1 + 1 + 1) DD ∧ LT.lt (α := Nat) (L + 1 + 1) DD ∧ LT.lt (α := Nat) (L + 1) DD := gt9 (Nat.lt_trans (Nat.lt_trans (Nat.lt_trans (Nat.lt_trans lW lP) lB) lT) lD)
  have hsz5 : szN W ≤ 5 := by unfold szN; split <;> decide
  have hlen := txF_len S W (szN W)
  have hvl := iT.length
  dsimp only [List.drop]
  refine wpAny_execs_cons ?_
  refine wpAny_with_toks (n := s.toks) (Nat.le_refl _) ?_
  k_steps
  unfold Halt
  refine ListComp_T (cl := [(Str.ofString "barred", (L + 1 + 1 + 1 + 1 + 1 + 1))]) ?a ?b ?c ?d ?e ?_
  case a => with_unfolding_all rfl
  case b => decide
  case c => rfl
  case d => decide
  case e => rfl
  k_steps
  unfold Halt
  refine csrc_list (by with_unfolding_all rfl) (News.isList N (.tail _ (.head _))) fun it s₂ src => ?_
  rw [List.size_toArray] at src
  refine ⟨_, _, fun i => freeB (barF S ld W (W.length - 1)) ((txF S W (szN W)).getD i (Str.mk #[])), fun i y => ∃ tk, y = .str ((txF S W (szN W)).getD i (Str.mk #[])) tk, src, by rw [hvl, sizeLine_eq]; exact Nat.le_trans K.tx (by decide), ⟨?_, ?_⟩, ?_⟩
  · rintro C i v t0 t1 s₃ m₃ E' hC hi ht0 ⟨hv, rfl⟩ ht1 hn3 hm3 hk3
    obtain ⟨t4, rfl⟩ := strs_at iT i v (by rw [List.getElem?_toArray] at hv; exact hv)
    change wpAny _ _ _ (TstEnd (freeB (barF S ld W (W.length - 1)) ((txF S W (szN W)).getD i (Str.mk #[]))) s₃) _ _
    have hi4 : i < (txF S W (szN W)).length := by omega
    have hxl : ((txF S W (szN W)).getD i (Str.mk #[])).length = szN W := by
      rw [List.getD_eq_getElem?_getD, List.getElem?_eq_getElem hi4]
      exact hlen _ (List.getElem_mem hi4)
    generalize (txF S W (szN W)).getD i (Str.mk #[]) = x at hm3 hxl hv ⊢
    refine wpAny_tests_one ?_
    have hcB : s₃.heap.IsCell (L + 1 + 1 + 1 + 1 + 1 + 1) (some (.ref DB)) := ⟨c6, hk3 _ _ (N ((L + 1 + 1 + 1 + 1 + 1 + 1), c6) (by simp)).1, d6⟩
    have hlB : s₃.heap.IsList DB bs.toArray := ⟨_, hk3 _ _ (N (DB, listOf bs.toArray kb) (by simp)).1, rfl, _, rfl⟩
    have P3 := (P0.keeps F.keep).keeps hk3
    have X3 := P3.X
    have FC : Fr s.heap C s₃.heap m₃ := ⟨hn3, hk3, hC⟩
    have NC : News s.heap C s₃.heap [] := News.nil
    clear hk3 F N
    k_steps
    unfold Halt
    refine law_free w mean mg mb _ _ _ _ DB bs _ x _ P3 (by show callerA.depth + 1 + 2 < recursionLimit; decide) (by with_unfolding_all rfl) hlB iB (by omega) K.pc fun h7 tk7 hk7 => ?_
    change wpAny _ _ _ _ _ _
    k_steps
    exact ⟨rfl, h7, tk7, rfl, hk7⟩
  · rintro C i v t0 t1 s₃ m₃ E' hC hi hp ht0 ⟨hv, rfl⟩ ht1 hn3 hm3 hk3
    obtain ⟨t4, rfl⟩ := strs_at iT i v (by rw [List.getElem?_toArray] at hv; exact hv)
    change wpAny _ _ _ (EltEnd (fun y => ∃ tk, y = .str ((txF S W (szN W)).getD i (Str.mk #[])) tk) s₃) _ _
    clear hp
    generalize (txF S W (szN W)).getD i (Str.mk #[]) = x at hm3 hv ⊢
    have FC : Fr s.heap C s₃.heap m₃ := ⟨hn3, hk3, hC⟩
    have NC : News s.heap C s₃.heap [] := News.nil
    clear hk3 F N
    k_steps
    exact EltEnd.intro ⟨_, rfl⟩ fun _ _ e => e
  · intro D' h' tk ys k' hD hget hP htk hk
    have hS' := paired_strs hP
    have eD : ((List.range vs.length).filter fun i => freeB (barF S ld W (W.length - 1)) ((txF S W (szN W)).getD i (Str.mk #[]))).map (fun i => (txF S W (szN W)).getD i (Str.mk #[])) = dueF S ld W := by
      rw [hvl, ← K.eq]
      exact filter_getD (freeB (barF S ld W (W.length - 1))) _ (Str.mk #[])
    rw [eD] at hS'
    have F2 := F.keeps hk
    have lE : LT.lt (α := Nat) DD D' := Nat.lt_of_lt_of_le (Heap.lt_size (N (DD, listOf ds.toArray kd) (by simp)).1) hD
    have N2 : News h0 L h' [(D', listOf ys.toList.toArray k'), (DD, listOf ds.toArray kd), (DT, listOf vs.toArray kt), (DB, listOf bs.toArray kb), (DP, listOf ps.toArray k), (DW, listOf ws.toArray n), (L + 1 + 1 + 1 + 1 + 1 + 1 + 1 + 1 + 1, c9), (L + 1 + 1 + 1 + 1 + 1 + 1 + 1 + 1, c8), (L + 1 + 1 + 1 + 1 + 1 + 1 + 1, c7), (L + 1 + 1 + 1 + 1 + 1 + 1, c6), (L + 1 + 1 + 1 + 1 + 1, c5), (L + 1 + 1 + 1 + 1, c4), (L + 1 + 1 + 1, c3), (L + 1 + 1, c2), (L + 1, c1)] := by
      rw [Array.toArray_toList]; exact News_addL (N.grown hk) F hD hget
    have lE9 : LT.lt (α := Nat) (L + 1 + 1 + 1 + 1 + 1 + 1 + 1 + 1 + 1) D' ∧ LT.lt (α := Nat) (L + 1 + 1 + 1 + 1 + 1 + 1 + 1 + 1) D' ∧ LT.lt (α := Nat) (L + 1 + 1 + 1 + 1 + 1 + 1 + 1) D' ∧ LT.lt (α := Nat) (L + 1 + 1 + 1 + 1 + 1 + 1) D' ∧ LT.lt (α := Nat) (L + 1 + 1 + 1 + 1 + 1) D' ∧ LT.lt (α := Nat) (L + 1 + 1 + 1 + 1) D' ∧ LT.lt (α := Nat) (L + 1 + 1 + 1) D' ∧ LT.lt (α := Nat) (L + 1 + 1) D' ∧ LT.lt (α := Nat) (L + 1) D' := gt9 (Nat.lt_trans (Nat.lt_trans (Nat.lt_trans (Nat.lt_trans (Nat.lt_trans lW lP) lB) lT) lD) lE)
    clear hP hk F N hget src hD eD
    k_steps
    unfold Halt
    refine ne_strs (xs := ys.toList) (ys := ds) (ns := dueF S ld W) (News.isList N2 (.head _)) (News.isList N2 (.tail _ (.head _))) hS' iD K.ok (Nat.le_of_ble_eq_true rfl) ?_
    k_steps
    unfold Halt
    exact hnext _ _ F2 N2.tail' (by dsimp only at *; omega)
end

-- part C23
set_option maxRecDepth 100000
set_option maxHeartbeats 16000000

section

local macro_rules | `(tactic| walk_at "subscriptTail Name Name ref int") => `(tactic| refine to_halt ?_)
def wrS (S : Str) (ns : List Int) (size num : Int) : Str := Txt.join (Str.ofString "") ((List.range size.toNat).map (wch S (wrF ns size num.toNat num) size))
structure WrOK (S ld : Str) (W : List Int) (N0 : Nat) : Prop where
  pn : (plF W 12).getD (szN W) 0 = (N0 : Int)
  n100 : N0 ≤ 100
  good : ∀ i, i < N0 → WrGood (plF W 12) ((szN W : Nat) : Int) (i : Int)
  cnt : ∀ i, i < N0 → ∀ j : Nat, (j : Int) < ((szN W : Nat) : Int) → cntI (wrF (plF W 12) ((szN W : Nat) : Int) (i : Int).toNat (i : Int)) (((szN W : Nat) : Int) - 1 - (j : Int)) < S.length
  eq : (List.range N0).map (fun i : Nat => wrS S (plF W 12) ((szN W : Nat) : Int) (i : Int)) = dueF S ld W
  ok : ∀ x ∈ dueF S ld W, PyData.strOk x = true
theorem range_up2 : ∀ n : Nat, n ≤ 100 → Builtin.Range.small 0 (n : Int) 1 = true ∧ Builtin.Range.rangeSize 0 (n : Int) 1 = (n : Int) := by decide +kernel

def SegJ (w : World) (mean : ExcName → Option Value) (mg mb : Str → Option Value) (name : Str) (scope : Scope) (body : List Stmt) : Prop :=
  ∀ (s : Shared) (Q : Flow → Shared → Prop) (E : Value → Shared → Prop) (h0 : Heap) (L fa l : Addr) (cd : Value) (m : Str → Option Value) (c1 c2 c3 c4 c5 c6 c7 c8 c9 : Obj) (S ld : Str) (W : List Int) (N0 : Nat) (tS t7 : Tok) (DD DT DB DP DW : Nat) (ws ps bs vs ds : List Value) (n k kb kt kd : Nat),
   PC w mean mg mb h0 → Cfg S ld W → WrOK S ld W N0 →
   m (Str.ofString "script") = some (.ref l) →
   Fr h0 L s.heap m → News h0 L s.heap [(DD, listOf ds.toArray kd), (DT, listOf vs.toArray kt), (DB, listOf bs.toArray kb), (DP, listOf ps.toArray k), (DW, listOf ws.toArray n), (L + 1 + 1 + 1 + 1 + 1 + 1 + 1 + 1 + 1, c9), (L + 1 + 1 + 1 + 1 + 1 + 1 + 1 + 1, c8), (L + 1 + 1 + 1 + 1 + 1 + 1 + 1, c7), (L + 1 + 1 + 1 + 1 + 1 + 1, c6), (L + 1 + 1 + 1 + 1 + 1, c5), (L + 1 + 1 + 1 + 1, c4), (L + 1 + 1 + 1, c3), (L + 1 + 1, c2), (L + 1, c1)] → LT.lt (α := Nat) (L + 1 + 1 + 1 + 1 + 1 + 1 + 1 + 1 + 1) DW → LT.lt (α := Nat) DW DP → LT.lt (α := Nat) DP DB → LT.lt (α := Nat) DB DT → LT.lt (α := Nat) DT DD → 0 < s.toks →
   c1.data = .cell (some (.str S tS)) → c5.data = .cell (some (.ref DP)) → c7.data = .cell (some (.int (szN W : Nat) t7)) → c9.data = .cell (some (.ref DD)) → IntsAre ps (plF W 12) → StrsAre ds (dueF S ld W) →
   (∀ (h : Heap) (tk : Nat), Fr h0 L h m → News h0 L h [(DD, listOf ds.toArray kd), (DT, listOf vs.toArray kt), (DB, listOf bs.toArray kb), (DP, listOf ps.toArray k), (DW, listOf ws.toArray n), (L + 1 + 1 + 1 + 1 + 1 + 1 + 1 + 1 + 1, c9), (L + 1 + 1 + 1 + 1 + 1 + 1 + 1 + 1, c8), (L + 1 + 1 + 1 + 1 + 1 + 1 + 1, c7), (L + 1 + 1 + 1 + 1 + 1 + 1, c6), (L + 1 + 1 + 1 + 1 + 1, c5), (L + 1 + 1 + 1 + 1, c4), (L + 1 + 1 + 1, c3), (L + 1 + 1, c2), (L + 1, c1)] → 0 < tk → wpAny (model PySem.Challenge.rw_sw0037_01.row.prog w) (callerA.deeper (envOfC name scope L fa cd)) (execs (body.drop 20) (envOfC name scope L fa cd)) Q E { s with heap := h, toks := tk }) →
   wpAny (model PySem.Challenge.rw_sw0037_01.row.prog w) (callerA.deeper (envOfC name scope L fa cd)) (execs (body.drop 19) (envOfC name scope L fa cd)) Q E s

theorem segJ (w : World) (mean : ExcName → Option Value) (mg mb : Str → Option Value) : LawB w (SegJ w mean mg mb) := by
  refine LawB.intro (by with_unfolding_all rfl) ?_
  intro s Q E h0 L fa l cd m c1 c2 c3 c4 c5 c6 c7 c8 c9 S ld W N0 tS t7 DD DT DB DP DW ws ps bs vs ds n k kb kt kd P K KW hm F N lW lP lB lT lD hs0 d1 d5 d7 d9 iP iD hnext
  have P0 := P
  obtain ⟨X, T⟩ := P
  revert X; k_fill; intro X
  have lW9 : LT.lt (α := Nat) (L + 1 + 1 + 1 + 1 + 1 + 1 + 1 + 1 + 1) DW ∧ LT.lt (α := Nat) (L + 1 + 1 + 1 + 1 + 1 + 1 + 1 + 1) DW ∧ LT.lt (α := Nat) (L + 1 + 1 + 1 + 1 + 1 + 1 + 1) DW ∧ LT.lt (α := Nat) (L + 1 + 1 + 1 + 1 + 1 + 1) DW ∧ LT.lt (α := Nat) (L + 1 + 1 + 1 + 1 + 1) DW ∧ LT.lt (α := Nat) (L + 1 + 1 + 1 + 1) DW ∧ LT.lt (α := Nat) (L + 1 + 1 + 1) DW ∧ LT.lt (α := Nat) (L + 1 + 1) DW ∧ LT.lt (α := Nat) (L + 1) DW := gt9 lW
  have lP9 : LT.lt (α := Nat) (L + 1 + 1 + 1 + 1 + 1 + 1 + 1 + 1 + 1) DP ∧ LT.lt (α := Nat) (L + 1 + 1 + 1 + 1 + 1 + 1 + 1 + 1) DP ∧ LT.lt (α := Nat) (L + 1 + 1 + 1 + 1 + 1 + 1 + 1) DP ∧ LT.lt (α := Nat) (L + 1 + 1 + 1 + 1 + 1 + 1) DP ∧ LT.lt (α := Nat) (L + 1 + 1 + 1 + 1 + 1) DP ∧ LT.lt (α := Nat) (L + 1 + 1 + 1 + 1) DP ∧ LT.lt (α := Nat) (L + 1 + 1 + 1) DP ∧ LT.lt (α := Nat) (L + 1 + 1) DP ∧ LT.lt (α := Nat) (L + 1) DP := gt9 (Nat.lt_trans lW lP)
  have lB9 : LT.lt (α := Nat) (L + 1 + 1 + 1 + 1 + 1 + 1 + 1 + 1 + 1) DB ∧ LT.lt (α := Nat) (L + 1 + 1 + 1 + 1 + 1 + 1 + 1 + 1) DB ∧ LT.lt (α := Nat) (L + 1 + 1 + 1 + 1 + 1 + 1 + 1) DB ∧ LT.lt (α := Nat) (L + 1 + 1 + 1 + 1 + 1 + 1) DB ∧ LT.lt (α := Nat) (L + 1 + 1 + 1 + 1 + 1) DB ∧ LT.lt (α := Nat) (L + 1 + 1 + 1 + 1) DB ∧ LT.lt (α := Nat) (L + 1 + 1 + 1) DB ∧ LT.lt (α := Nat) (L + 1 + 1) DB ∧ LT.lt (α := Nat) (L + 1) DB := gt9 (Nat.lt_trans (Nat.lt_trans lW lP) lB)
  have lT9 : LT.lt (α := Nat) (L + 1 + 1 + 1 + 1 + 1 + 1 + 1 + 1 + 1) DT ∧ LT.lt (α := Nat) (L + 1 + 1 + 1 + 1 + 1 + 1 + 1 + 1) DT ∧ LT.lt (α := Nat) (L + 1 + 1 + 1 + 1 + 1 + 1 + 1) DT ∧ LT.lt (α := Nat) (L + 1 + 1 + 1 + 1 + 1 + 1) DT ∧ LT.lt (α := Nat) (L + 1 + 1 + 1 + 1 + 1) DT ∧ LT.lt (α := Nat) (L + 1 + 1 + 1 + 1) DT ∧ LT.lt (α := Nat) (L + 1 + 1 + 1) DT ∧ LT.lt (α := Nat) (L + 1 + 1) DT ∧ LT.lt (α := Nat) (L + 1) DT := gt9 (Nat.lt_trans (Nat.lt_trans (Nat.lt_trans lW lP) lB) lT)
  have lD9 : LT.lt (α := Nat) (L + 1 + 1 + 1 + 1 + 1 + 1 + 1 + 1 + 1) DD ∧ LT.lt (α := Nat) (L + 1 + 1 + 1 + 1 + 1 + 1 + 1 + 1) DD ∧ LT.lt (α := Nat) (L + 1 + 1 + 1 + 1 + 1 + 1 + 1) DD ∧ LT.lt (α := Nat) (L + 1 + 1 + 1 + 1 + 1 + 1) DD ∧ LT.lt (α := Nat) (L + 1 + 1 + 1 + 1 + 1) DD ∧ LT.lt (α := Nat) (L + 1 + 1 + 1 + 1) DD ∧ LT.lt (α := Nat) (L + 1 + 1 + 1) DD ∧ LT.lt (α := Nat) (L + 1 + 1) DD ∧ LT.lt (α := Nat) (L + 1) DD := gt9 (Nat.lt_trans (Nat.lt_trans (Nat.lt_trans (Nat.lt_trans lW lP) lB) lT) lD)
  have hsz5 : szN W ≤ 5 := by unfold szN; split <;> decide
  have hsz35 : ((szN W : Nat) : Int) = 3 ∨ ((szN W : Nat) : Int) = 5 ∨ ((szN W : Nat) : Int) = 12 := by unfold szN; split <;> decide
  have hpl := plF_length W 12
  have hn100 := KW.n100
  dsimp only [List.drop]
  refine wpAny_execs_cons ?_
  refine wpAny_with_toks (n := s.toks) (Nat.le_refl _) ?_
  k_steps
  unfold Halt
  refine ListComp_T (cl := [(Str.ofString "size", (L + 1 + 1 + 1 + 1 + 1 + 1 + 1)), (Str.ofString "signs", (L + 1)), (Str.ofString "places", (L + 1 + 1 + 1 + 1 + 1))]) ?a ?b ?c ?d ?e ?_
  case a => with_unfolding_all rfl
  case b => decide
  case c => rfl
  case d => decide
  case e => rfl
  k_steps
  unfold Halt
  refine item_eq (szN W) (N0 : Int) (News.isList N (.tail _ (.tail _ (.tail _ (.head _))))) iP rfl (by omega) (by omega) KW.pn fun tp => ?_
  k_steps
  unfold Halt
  rename Fr _ _ _ _ => F4
  rename News _ _ _ _ => N4
  rename IsRange _ _ _ _ _ _ _ _ => hr4
  obtain ⟨q1, q2⟩ := range_up2 N0 hn100
  refine csrc_range N0 (by with_unfolding_all rfl) ⟨_, _, _, hr4⟩ q1 q2 fun it s₂ src => ?_
  refine ⟨N0, _, fun _ => true, fun i y => ∃ tk, y = .str (wrS S (plF W 12) ((szN W : Nat) : Int) ((i : Nat) : Int)) tk, src, by rw [sizeLine_eq]; omega, ⟨fun _ _ _ _ _ _ _ _ _ _ _ _ _ _ _ _ => no_tests, ?_⟩, ?_⟩
  · rintro C i v t0' t3 s₃ m₃ E' hC hin _ ht0 ⟨rfl, rfl⟩ ht3 hn3 hm3 hk3
    change wpAny _ _ _ (EltEnd (fun y => ∃ tk, y = .str (wrS S (plF W 12) ((szN W : Nat) : Int) ((i : Nat) : Int)) tk) s₃) _ _
    have hcP : s₃.heap.IsCell (L + 1 + 1 + 1 + 1 + 1) (some (.ref DP)) := ⟨c5, hk3 _ _ (N4 ((L + 1 + 1 + 1 + 1 + 1), c5) (by simp)).1, d5⟩
    have hcS : s₃.heap.IsCell (L + 1) (some (.str S tS)) := ⟨c1, hk3 _ _ (N4 ((L + 1), c1) (by simp)).1, d1⟩
    have hcZ : s₃.heap.IsCell (L + 1 + 1 + 1 + 1 + 1 + 1 + 1) (some (.int (szN W : Nat) t7)) := ⟨c7, hk3 _ _ (N4 ((L + 1 + 1 + 1 + 1 + 1 + 1 + 1), c7) (by simp)).1, d7⟩
    have hlP : s₃.heap.IsList DP ps.toArray := ⟨_, hk3 _ _ (N4 (DP, listOf ps.toArray k) (by simp)).1, rfl, _, rfl⟩
    have P3 := (P0.keeps F4.keep).keeps hk3
    have X3 := P3.X
    have FC : Fr _ C s₃.heap m₃ := ⟨hn3, hk3, hC⟩
    have NC : News _ C s₃.heap [] := News.nil (h₀ := h0)
    have ei : (0 : Int) + (i : Int) * 1 = (i : Int) := by omega
    rw [ei] at hm3
    have g1 := KW.good i hin
    have g2 := KW.cnt i hin
    clear hk3 F4 N4
    k_steps
    unfold Halt
    refine law_written w mean mg mb _ _ _ _ DP ps (plF W 12) S ((i : Nat) : Int) ((szN W : Nat) : Int) _ _ _ P3 (by show callerA.depth + 1 + 2 < recursionLimit; decide) (by with_unfolding_all rfl) (by omega) hlP iP (by rw [hpl]; decide) (by omega) (by rw [hpl]; omega) (by omega) (by omega) g1 hsz35 g2 (by rw [K.s3]; decide) fun tk7 h7 tk8 hk7 => ?_
    exact EltEnd.intro ⟨_, rfl⟩ hk7
  · intro D' h' tk ys k' hD hget hP htk hk
    rw [filter_true] at hP
    have hS' := paired_strs hP
    rw [KW.eq] at hS'
    have F2 := F4.keeps hk
    have lE : LT.lt (α := Nat) DD D' := Nat.lt_of_lt_of_le (Heap.lt_size (N4 (DD, listOf ds.toArray kd) (by simp)).1) hD
    have N2 : News h0 L h' [(D', listOf ys.toList.toArray k'), (DD, listOf ds.toArray kd), (DT, listOf vs.toArray kt), (DB, listOf bs.toArray kb), (DP, listOf ps.toArray k), (DW, listOf ws.toArray n), (L + 1 + 1 + 1 + 1 + 1 + 1 + 1 + 1 + 1, c9), (L + 1 + 1 + 1 + 1 + 1 + 1 + 1 + 1, c8), (L + 1 + 1 + 1 + 1 + 1 + 1 + 1, c7), (L + 1 + 1 + 1 + 1 + 1 + 1, c6), (L + 1 + 1 + 1 + 1 + 1, c5), (L + 1 + 1 + 1 + 1, c4), (L + 1 + 1 + 1, c3), (L + 1 + 1, c2), (L + 1, c1)] := by
      rw [Array.toArray_toList]; exact News_addL (N4.grown hk) F4 hD hget
    have lE9 : LT.lt (α := Nat) (L + 1 + 1 + 1 + 1 + 1 + 1 + 1 + 1 + 1) D' ∧ LT.lt (α := Nat) (L + 1 + 1 + 1 + 1 + 1 + 1 + 1 + 1) D' ∧ LT.lt (α := Nat) (L + 1 + 1 + 1 + 1 + 1 + 1 + 1) D' ∧ LT.lt (α := Nat) (L + 1 + 1 + 1 + 1 + 1 + 1) D' ∧ LT.lt (α := Nat) (L + 1 + 1 + 1 + 1 + 1) D' ∧ LT.lt (α := Nat) (L + 1 + 1 + 1 + 1) D' ∧ LT.lt (α := Nat) (L + 1 + 1 + 1) D' ∧ LT.lt (α := Nat) (L + 1 + 1) D' ∧ LT.lt (α := Nat) (L + 1) D' := gt9 (Nat.lt_trans (Nat.lt_trans (Nat.lt_trans (Nat.lt_trans (Nat.lt_trans lW lP) lB) lT) lD) lE)
    clear hP hk F4 N4 hget src hD
    k_steps
    unfold Halt
    refine ne_strs (xs := ys.toList) (ys := ds) (ns := dueF S ld W) (News.isList N2 (.head _)) (News.isList N2 (.tail _ (.head _))) hS' iD KW.ok (Nat.le_of_ble_eq_true rfl) ?_
    k_steps
    unfold Halt
    exact hnext _ _ F2 N2.tail' (by dsimp only at *; omega)
end

-- part C24
set_option maxRecDepth 100000
set_option maxHeartbeats 16000000

section

local macro_rules | `(tactic| walk_at "subscriptTail Name Name ref int") => `(tactic| refine to_halt ?_)
local macro_rules | `(tactic| walk_at "call type:list") => `(tactic| refine to_halt ?_)
structure BisOK (S ld : Str) (W : List Int) (N0 : Nat) : Prop where
  pn : (plF W 12).getD (szN W) 0 = (N0 : Int)
  n100 : N0 ≤ 100
  len : (dueF S ld W).length ≤ 100
  eq : (List.range (dueF S ld W).length).map (fun i : Nat => bisL (dueF S ld W) ((dueF S ld W).getD i (Str.mk #[])) (dueF S ld W).length 0 (dueF S ld W).length) = (List.range N0).map (fun i : Nat => (i : Int))

def SegK (w : World) (mean : ExcName → Option Value) (mg mb : Str → Option Value) (name : Str) (scope : Scope) (body : List Stmt) : Prop :=
  ∀ (s : Shared) (Q : Flow → Shared → Prop) (E : Value → Shared → Prop) (h0 : Heap) (L fa l : Addr) (cd : Value) (m : Str → Option Value) (c1 c2 c3 c4 c5 c6 c7 c8 c9 : Obj) (S ld : Str) (W : List Int) (N0 : Nat) (t7 : Tok) (DD DT DB DP DW : Nat) (ws ps bs vs ds : List Value) (n k kb kt kd : Nat),
   PC w mean mg mb h0 → BisOK S ld W N0 →
   m (Str.ofString "script") = some (.ref l) →
   Fr h0 L s.heap m → News h0 L s.heap [(DD, listOf ds.toArray kd), (DT, listOf vs.toArray kt), (DB, listOf bs.toArray kb), (DP, listOf ps.toArray k), (DW, listOf ws.toArray n), (L + 1 + 1 + 1 + 1 + 1 + 1 + 1 + 1 + 1, c9), (L + 1 + 1 + 1 + 1 + 1 + 1 + 1 + 1, c8), (L + 1 + 1 + 1 + 1 + 1 + 1 + 1, c7), (L + 1 + 1 + 1 + 1 + 1 + 1, c6), (L + 1 + 1 + 1 + 1 + 1, c5), (L + 1 + 1 + 1 + 1, c4), (L + 1 + 1 + 1, c3), (L + 1 + 1, c2), (L + 1, c1)] → LT.lt (α := Nat) (L + 1 + 1 + 1 + 1 + 1 + 1 + 1 + 1 + 1) DW → LT.lt (α := Nat) DW DP → LT.lt (α := Nat) DP DB → LT.lt (α := Nat) DB DT → LT.lt (α := Nat) DT DD → 0 < s.toks →
   c5.data = .cell (some (.ref DP)) → c7.data = .cell (some (.int (szN W : Nat) t7)) → c9.data = .cell (some (.ref DD)) → IntsAre ps (plF W 12) → StrsAre ds (dueF S ld W) →
   (∀ (h : Heap) (tk : Nat), Fr h0 L h m → News h0 L h [(DD, listOf ds.toArray kd), (DT, listOf vs.toArray kt), (DB, listOf bs.toArray kb), (DP, listOf ps.toArray k), (DW, listOf ws.toArray n), (L + 1 + 1 + 1 + 1 + 1 + 1 + 1 + 1 + 1, c9), (L + 1 + 1 + 1 + 1 + 1 + 1 + 1 + 1, c8), (L + 1 + 1 + 1 + 1 + 1 + 1 + 1, c7), (L + 1 + 1 + 1 + 1 + 1 + 1, c6), (L + 1 + 1 + 1 + 1 + 1, c5), (L + 1 + 1 + 1 + 1, c4), (L + 1 + 1 + 1, c3), (L + 1 + 1, c2), (L + 1, c1)] → 0 < tk → wpAny (model PySem.Challenge.rw_sw0037_01.row.prog w) (callerA.deeper (envOfC name scope L fa cd)) (execs (body.drop 21) (envOfC name scope L fa cd)) Q E { s with heap := h, toks := tk }) →
   wpAny (model PySem.Challenge.rw_sw0037_01.row.prog w) (callerA.deeper (envOfC name scope L fa cd)) (execs (body.drop 20) (envOfC name scope L fa cd)) Q E s

theorem segK (w : World) (mean : ExcName → Option Value) (mg mb : Str → Option Value) : LawB w (SegK w mean mg mb) := by
  refine LawB.intro (by with_unfolding_all rfl) ?_
  intro s Q E h0 L fa l cd m c1 c2 c3 c4 c5 c6 c7 c8 c9 S ld W N0 t7 DD DT DB DP DW ws ps bs vs ds n k kb kt kd P KW hm F N lW lP lB lT lD hs0 d5 d7 d9 iP iD hnext
  have P0 := P
  obtain ⟨X, T⟩ := P
  revert X; k_fill; intro X
  have lW9 : LT.lt (α := Nat) (L + 1 + 1 + 1 + 1 + 1 + 1 + 1 + 1 + 1) DW ∧ LT.lt (α := Nat) (L + 1 + 1 + 1 + 1 + 1 + 1 + 1 + 1) DW ∧ LT.lt (α := Nat) (L + 1 + 1 + 1 + 1 + 1 + 1 + 1) DW ∧ LT.lt (α := Nat) (L + 1 + 1 + 1 + 1 + 1 + 1) DW ∧ LT.lt (α := Nat) (L + 1 + 1 + 1 + 1 + 1) DW ∧ LT.lt (α := Nat) (L + 1 + 1 + 1 + 1) DW ∧ LT.lt (α := Nat) (L + 1 + 1 + 1) DW ∧ LT.lt (α := Nat) (L + 1 + 1) DW ∧ LT.lt (α := Nat) (L + 1) DW := gt9 lW
  have lP9 : LT.lt (α := Nat) (L + 1 + 1 + 1 + 1 + 1 + 1 + 1 + 1 + 1) DP ∧ LT.lt (α := Nat) (L + 1 + 1 + 1 + 1 + 1 + 1 + 1 + 1) DP ∧ LT.lt (α := Nat) (L + 1 + 1 + 1 + 1 + 1 + 1 + 1) DP ∧ LT.lt (α := Nat) (L + 1 + 1 + 1 + 1 + 1 + 1) DP ∧ LT.lt (α := Nat) (L + 1 + 1 + 1 + 1 + 1) DP ∧ LT.lt (α := Nat) (L + 1 + 1 + 1 + 1) DP ∧ LT.lt (α := Nat) (L + 1 + 1 + 1) DP ∧ LT.lt (α := Nat) (L + 1 + 1) DP ∧ LT.lt (α := Nat) (L + 1) DP := gt9 (Nat.lt_trans lW lP)
  have lB9 : LT.lt (α := Nat) (L + 1 + 1 + 1 + 1 + 1 + 1 + 1 + 1 + 1) DB ∧ LT.lt (α := Nat) (L + 1 + 1 + 1 + 1 + 1 + 1 + 1 + 1) DB ∧ LT.lt (α := Nat) (L + 1 + 1 + 1 + 1 + 1 + 1 + 1) DB ∧ LT.lt (α := Nat) (L + 1 + 1 + 1 + 1 + 1 + 1) DB ∧ LT.lt (α := Nat) (L + 1 + 1 + 1 + 1 + 1) DB ∧ LT.lt (α := Nat) (L + 1 + 1 + 1 + 1) DB ∧ LT.lt (α := Nat) (L + 1 + 1 + 1) DB ∧ LT.lt (α := Nat) (L + 1 + 1) DB ∧ LT.lt (α := Nat) (L + 1) DB := gt9 (Nat.lt_trans (Nat.lt_trans lW lP) lB)
  have lT9 : LT.lt (α := Nat) (L + 1 + 1 + 1 + 1 + 1 + 1 + 1 + 1 + 1) DT ∧ LT.lt (α := Nat) (L + 1 + 1 + 1 + 1 + 1 + 1 + 1 + 1) DT ∧ LT.lt (α := Nat) (L + 1 + 1 + 1 + 1 + 1 + 1 + 1) DT ∧ LT.lt (α := Nat) (L + 1 + 1 + 1 + 1 + 1 + 1) DT ∧ LT.lt (α := Nat) (L + 1 + 1 + 1 + 1 + 1) DT ∧ LT.lt (α := Nat) (L + 1 + 1 + 1 + 1) DT ∧ LT.lt (α := Nat) (L + 1 + 1 + 1) DT ∧ LT.lt (α := Nat) (L + 1 + 1) DT ∧ LT.lt (α := Nat) (L + 1) DT := gt9 (Nat.lt_trans (Nat.lt_trans (Nat.lt_trans lW lP) lB) lT)
  have lD9 : LT.lt (α := Nat) (L + 1 + 1 + 1 + 1 + 1 + 1 + 1 + 1 + 1) DD ∧ LT.lt (α := Nat) (L + 1 + 1 + 1 + 1 + 1 + 1 + 1 + 1) DD ∧ LT.lt (α := Nat) (L + 1 + 1 + 1 + 1 + 1 + 1 + 1) DD ∧ LT.lt (α := Nat) (L + 1 + 1 + 1 + 1 + 1 + 1) DD ∧ LT.lt (α := Nat) (L + 1 + 1 + 1 + 1 + 1) DD ∧ LT.lt (α := Nat) (L + 1 + 1 + 1 + 1) DD ∧ LT.lt (α := Nat) (L + 1 + 1 + 1) DD ∧ LT.lt (α := Nat) (L + 1 + 1) DD ∧ LT.lt (α := Nat) (L + 1) DD := gt9 (Nat.lt_trans (Nat.lt_trans (Nat.lt_trans (Nat.lt_trans lW lP) lB) lT) lD)
  have hsz5 : szN W ≤ 5 := by unfold szN; split <;> decide
  have hpl := plF_length W 12
  have hn100 := KW.n100
  have hd100 := KW.len
  have hdl := iD.length
  have hDD : s.heap.IsList DD ds.toArray := News.isList N (.head _)
  dsimp only [List.drop]
  refine wpAny_execs_cons ?_
  refine wpAny_with_toks (n := s.toks) (Nat.le_refl _) ?_
  k_steps
  unfold Halt
  refine ListComp_T (cl := [(Str.ofString "due", (L + 1 + 1 + 1 + 1 + 1 + 1 + 1 + 1 + 1))]) ?a ?b ?c ?d ?e ?_
  case a => with_unfolding_all rfl
  case b => decide
  case c => rfl
  case d => decide
  case e => rfl
  k_steps
  unfold Halt
  refine csrc_list (by with_unfolding_all rfl) (News.isList N (.head _)) fun it s₂ src => ?_
  rw [List.size_toArray] at src
  refine ⟨_, _, fun _ => true, fun i y => ∃ tk, y = .int (bisL (dueF S ld W) ((dueF S ld W).getD i (Str.mk #[])) (dueF S ld W).length 0 (dueF S ld W).length) tk, src, by rw [sizeLine_eq]; omega, ⟨fun _ _ _ _ _ _ _ _ _ _ _ _ _ _ _ _ => no_tests, ?_⟩, ?_⟩
  · rintro C i v t0' t3 s₃ m₃ E' hC hin _ ht0 ⟨hv, rfl⟩ ht3 hn3 hm3 hk3
    obtain ⟨t4, rfl⟩ := strs_at iD i v (by rw [List.getElem?_toArray] at hv; exact hv)
    change wpAny _ _ _ (EltEnd (fun y => ∃ tk, y = .int (bisL (dueF S ld W) ((dueF S ld W).getD i (Str.mk #[])) (dueF S ld W).length 0 (dueF S ld W).length) tk) s₃) _ _
    have hcD : s₃.heap.IsCell (L + 1 + 1 + 1 + 1 + 1 + 1 + 1 + 1 + 1) (some (.ref DD)) := ⟨c9, hk3 _ _ (N ((L + 1 + 1 + 1 + 1 + 1 + 1 + 1 + 1 + 1), c9) (by simp)).1, d9⟩
    have hlD : s₃.heap.IsList DD ds.toArray := ⟨_, hk3 _ _ (N (DD, listOf ds.toArray kd) (by simp)).1, rfl, _, rfl⟩
    have P3 := (P0.keeps F.keep).keeps hk3
    have X3 := P3.X
    have FC : Fr _ C s₃.heap m₃ := ⟨hn3, hk3, hC⟩
    have NC : News _ C s₃.heap [] := News.nil (h₀ := h0)
    clear hk3 F N hDD
    k_steps
    unfold Halt
    refine bisect_left_two w mean mg mb _ _ _ _ DD ds (dueF S ld W) _ _ 0 P3 (by show callerA.depth + 1 + 1 < recursionLimit; decide) hlD iD (by omega) fun tk7 h7 tk8 hk7 => ?_
    exact EltEnd.intro ⟨_, rfl⟩ hk7
  · intro D' h' tk ys k' hD hget hP htk hk
    rw [filter_true, hdl] at hP
    have hI' := paired_ints' hP
    rw [KW.eq] at hI'
    have F2 := F.keeps hk
    have lE : LT.lt (α := Nat) DD D' := Nat.lt_of_lt_of_le (Heap.lt_size (N (DD, listOf ds.toArray kd) (by simp)).1) hD
    have N2 : News h0 L h' [(D', listOf ys.toList.toArray k'), (DD, listOf ds.toArray kd), (DT, listOf vs.toArray kt), (DB, listOf bs.toArray kb), (DP, listOf ps.toArray k), (DW, listOf ws.toArray n), (L + 1 + 1 + 1 + 1 + 1 + 1 + 1 + 1 + 1, c9), (L + 1 + 1 + 1 + 1 + 1 + 1 + 1 + 1, c8), (L + 1 + 1 + 1 + 1 + 1 + 1 + 1, c7), (L + 1 + 1 + 1 + 1 + 1 + 1, c6), (L + 1 + 1 + 1 + 1 + 1, c5), (L + 1 + 1 + 1 + 1, c4), (L + 1 + 1 + 1, c3), (L + 1 + 1, c2), (L + 1, c1)] := by
      rw [Array.toArray_toList]; exact News_addL (N.grown hk) F hD hget
    have lE9 : LT.lt (α := Nat) (L + 1 + 1 + 1 + 1 + 1 + 1 + 1 + 1 + 1) D' ∧ LT.lt (α := Nat) (L + 1 + 1 + 1 + 1 + 1 + 1 + 1 + 1) D' ∧ LT.lt (α := Nat) (L + 1 + 1 + 1 + 1 + 1 + 1 + 1) D' ∧ LT.lt (α := Nat) (L + 1 + 1 + 1 + 1 + 1 + 1) D' ∧ LT.lt (α := Nat) (L + 1 + 1 + 1 + 1 + 1) D' ∧ LT.lt (α := Nat) (L + 1 + 1 + 1 + 1) D' ∧ LT.lt (α := Nat) (L + 1 + 1 + 1) D' ∧ LT.lt (α := Nat) (L + 1 + 1) D' ∧ LT.lt (α := Nat) (L + 1) D' := gt9 (Nat.lt_trans (Nat.lt_trans (Nat.lt_trans (Nat.lt_trans (Nat.lt_trans lW lP) lB) lT) lD) lE)
    clear hP hk F N hget src hD hDD
    k_steps
    unfold Halt
    refine item_eq (szN W) (N0 : Int) (News.isList N2 (.tail _ (.tail _ (.tail _ (.tail _ (.head _)))))) iP rfl (by omega) (by omega) KW.pn fun tp => ?_
    k_steps
    unfold Halt
    rename Fr _ _ _ _ => F4
    rename News _ _ _ _ => N4
    rename IsRange _ _ _ _ _ _ _ _ => hr4
    obtain ⟨q1, q2⟩ := range_up2 N0 hn100
    refine list_rangeD (by with_unfolding_all rfl) F4 N4 hr4 q1 q2 (by omega) fun h8 tk8 zs F8 N8 hk8 _ hl8 _ hc8 => ?_
    have hJ : IntsAre zs ((List.range N0).map (fun i : Nat => (i : Int))) := by
      have := CarriedAll.intsOf (f := fun x : Int => x) hc8
      rw [List.map_id', rangeInts_zero_one] at this
      exact this
    clear hc8 hk8 F4 N4 hr4
    k_steps
    unfold Halt
    refine ke_ne_ints (xs := ys.toList) (ys := zs) (News.isList N8 (.head _)) hl8 hI' hJ (Nat.le_of_ble_eq_true rfl) ?_
    rw [decide_eq_true rfl, Bool.not_true]
    k_steps
    unfold Halt
    rename s.toks ≤ _ => hle9
    exact hnext _ _ F8 N8.tail' (by dsimp only at *; omega)
end

-- part C25
set_option maxRecDepth 100000
set_option maxHeartbeats 16000000

section

local macro_rules | `(tactic| walk_at "subscriptTail Name Constant ref int") => `(tactic| refine to_halt ?_)
local macro_rules | `(tactic| walk_at "call builtin:sum") => `(tactic| refine to_halt ?_)
/-- the great number can be written -/
structure GrOK (S : Str) (W : List Int) : Prop where
  p0 : 0 < (plF W 12).getD 12 0
  p1 : (plF W 12).getD 12 0 ≤ 1000000
  good : ∀ g, 0 ≤ g → g < (plF W 12).getD 12 0 → WrGood (plF W 12) 12 g
  cnt : ∀ g, 0 ≤ g → g < (plF W 12).getD 12 0 → ∀ j : Nat, (j : Int) < 12 → cntI (wrF (plF W 12) 12 g.toNat g) (12 - 1 - (j : Int)) < S.length

def SegL (w : World) (mean : ExcName → Option Value) (mg mb : Str → Option Value) (name : Str) (scope : Scope) (body : List Stmt) : Prop :=
  ∀ (s : Shared) (Q : Flow → Shared → Prop) (E : Value → Shared → Prop) (h0 : Heap) (L fa l : Addr) (cd : Value) (m : Str → Option Value) (c1 c2 c3 c4 c5 c6 c7 c8 c9 : Obj) (S ld : Str) (W : List Int) (tS : Tok) (DD DT DB DP DW : Nat) (ws ps bs vs ds vs0 : List Value) (ns0 : List Int) (n k kb kt kd : Nat),
   PC w mean mg mb h0 → Cfg S ld W → GrOK S W → h0.IsList l vs0.toArray → IntsAre vs0 ns0 → ns0.length ≤ 63 →
   m (Str.ofString "script") = some (.ref l) →
   Fr h0 L s.heap m → News h0 L s.heap [(DD, listOf ds.toArray kd), (DT, listOf vs.toArray kt), (DB, listOf bs.toArray kb), (DP, listOf ps.toArray k), (DW, listOf ws.toArray n), (L + 1 + 1 + 1 + 1 + 1 + 1 + 1 + 1 + 1, c9), (L + 1 + 1 + 1 + 1 + 1 + 1 + 1 + 1, c8), (L + 1 + 1 + 1 + 1 + 1 + 1 + 1, c7), (L + 1 + 1 + 1 + 1 + 1 + 1, c6), (L + 1 + 1 + 1 + 1 + 1, c5), (L + 1 + 1 + 1 + 1, c4), (L + 1 + 1 + 1, c3), (L + 1 + 1, c2), (L + 1, c1)] → LT.lt (α := Nat) (L + 1 + 1 + 1 + 1 + 1 + 1 + 1 + 1 + 1) DW → LT.lt (α := Nat) DW DP → LT.lt (α := Nat) DP DB → LT.lt (α := Nat) DB DT → LT.lt (α := Nat) DT DD → 0 < s.toks →
   c1.data = .cell (some (.str S tS)) → c5.data = .cell (some (.ref DP)) → c8.data = .cell none → IntsAre ps (plF W 12) →
   (∀ (h : Heap) (tk : Nat) (m' : Str → Option Value) (g : Int) (tg t8 : Tok) (c8 : Obj), Fr h0 L h m' → News h0 L h [(DD, listOf ds.toArray kd), (DT, listOf vs.toArray kt), (DB, listOf bs.toArray kb), (DP, listOf ps.toArray k), (DW, listOf ws.toArray n), (L + 1 + 1 + 1 + 1 + 1 + 1 + 1 + 1 + 1, c9), (L + 1 + 1 + 1 + 1 + 1 + 1 + 1 + 1, c8), (L + 1 + 1 + 1 + 1 + 1 + 1 + 1, c7), (L + 1 + 1 + 1 + 1 + 1 + 1, c6), (L + 1 + 1 + 1 + 1 + 1, c5), (L + 1 + 1 + 1 + 1, c4), (L + 1 + 1 + 1, c3), (L + 1 + 1, c2), (L + 1, c1)] → 0 < tk →
     0 ≤ g → g < (plF W 12).getD 12 0 → m' (Str.ofString "great") = some (.int g tg) → c8.data = .cell (some (.str (wrS S (plF W 12) 12 g) t8)) → wpAny (model PySem.Challenge.rw_sw0037_01.row.prog w) (callerA.deeper (envOfC name scope L fa cd)) (execs (body.drop 23) (envOfC name scope L fa cd)) Q E { s with heap := h, toks := tk }) →
   wpAny (model PySem.Challenge.rw_sw0037_01.row.prog w) (callerA.deeper (envOfC name scope L fa cd)) (execs (body.drop 21) (envOfC name scope L fa cd)) Q E s

theorem segL (w : World) (mean : ExcName → Option Value) (mg mb : Str → Option Value) : LawB w (SegL w mean mg mb) := by
  refine LawB.intro (by with_unfolding_all rfl) ?_
  intro s Q E h0 L fa l cd m c1 c2 c3 c4 c5 c6 c7 c8 c9 S ld W tS DD DT DB DP DW ws ps bs vs ds vs0 ns0 n k kb kt kd P K KG hl0 hi0 hn0 hm F N lW lP lB lT lD hs0 d1 d5 d8 iP hnext
  have P0 := P
  obtain ⟨X, T⟩ := P
  revert X; k_fill; intro X
  have lW9 : LT.lt (α := Nat) (L + 1 + 1 + 1 + 1 + 1 + 1 + 1 + 1 + 1) DW ∧ LT.lt (α := Nat) (L + 1 + 1 + 1 + 1 + 1 + 1 + 1 + 1) DW ∧ LT.lt (α := Nat) (L + 1 + 1 + 1 + 1 + 1 + 1 + 1) DW ∧ LT.lt (α := Nat) (L + 1 + 1 + 1 + 1 + 1 + 1) DW ∧ LT.lt (α := Nat) (L + 1 + 1 + 1 + 1 + 1) DW ∧ LT.lt (α := Nat) (L + 1 + 1 + 1 + 1) DW ∧ LT.lt (α := Nat) (L + 1 + 1 + 1) DW ∧ LT.lt (α := Nat) (L + 1 + 1) DW ∧ LT.lt (α := Nat) (L + 1) DW := gt9 lW
  have lP9 : LT.lt (α := Nat) (L + 1 + 1 + 1 + 1 + 1 + 1 + 1 + 1 + 1) DP ∧ LT.lt (α := Nat) (L + 1 + 1 + 1 + 1 + 1 + 1 + 1 + 1) DP ∧ LT.lt (α := Nat) (L + 1 + 1 + 1 + 1 + 1 + 1 + 1) DP ∧ LT.lt (α := Nat) (L + 1 + 1 + 1 + 1 + 1 + 1) DP ∧ LT.lt (α := Nat) (L + 1 + 1 + 1 + 1 + 1) DP ∧ LT.lt (α := Nat) (L + 1 + 1 + 1 + 1) DP ∧ LT.lt (α := Nat) (L + 1 + 1 + 1) DP ∧ LT.lt (α := Nat) (L + 1 + 1) DP ∧ LT.lt (α := Nat) (L + 1) DP := gt9 (Nat.lt_trans lW lP)
  have lB9 : LT.lt (α := Nat) (L + 1 + 1 + 1 + 1 + 1 + 1 + 1 + 1 + 1) DB ∧ LT.lt (α := Nat) (L + 1 + 1 + 1 + 1 + 1 + 1 + 1 + 1) DB ∧ LT.lt (α := Nat) (L + 1 + 1 + 1 + 1 + 1 + 1 + 1) DB ∧ LT.lt (α := Nat) (L + 1 + 1 + 1 + 1 + 1 + 1) DB ∧ LT.lt (α := Nat) (L + 1 + 1 + 1 + 1 + 1) DB ∧ LT.lt (α := Nat) (L + 1 + 1 + 1 + 1) DB ∧ LT.lt (α := Nat) (L + 1 + 1 + 1) DB ∧ LT.lt (α := Nat) (L + 1 + 1) DB ∧ LT.lt (α := Nat) (L + 1) DB := gt9 (Nat.lt_trans (Nat.lt_trans lW lP) lB)
  have lT9 : LT.lt (α := Nat) (L + 1 + 1 + 1 + 1 + 1 + 1 + 1 + 1 + 1) DT ∧ LT.lt (α := Nat) (L + 1 + 1 + 1 + 1 + 1 + 1 + 1 + 1) DT ∧ LT.lt (α := Nat) (L + 1 + 1 + 1 + 1 + 1 + 1 + 1) DT ∧ LT.lt (α := Nat) (L + 1 + 1 + 1 + 1 + 1 + 1) DT ∧ LT.lt (α := Nat) (L + 1 + 1 + 1 + 1 + 1) DT ∧ LT.lt (α := Nat) (L + 1 + 1 + 1 + 1) DT ∧ LT.lt (α := Nat) (L + 1 + 1 + 1) DT ∧ LT.lt (α := Nat) (L + 1 + 1) DT ∧ LT.lt (α := Nat) (L + 1) DT := gt9 (Nat.lt_trans (Nat.lt_trans (Nat.lt_trans lW lP) lB) lT)
  have lD9 : LT.lt (α := Nat) (L + 1 + 1 + 1 + 1 + 1 + 1 + 1 + 1 + 1) DD ∧ LT.lt (α := Nat) (L + 1 + 1 + 1 + 1 + 1 + 1 + 1 + 1) DD ∧ LT.lt (α := Nat) (L + 1 + 1 + 1 + 1 + 1 + 1 + 1) DD ∧ LT.lt (α := Nat) (L + 1 + 1 + 1 + 1 + 1 + 1) DD ∧ LT.lt (α := Nat) (L + 1 + 1 + 1 + 1 + 1) DD ∧ LT.lt (α := Nat) (L + 1 + 1 + 1 + 1) DD ∧ LT.lt (α := Nat) (L + 1 + 1 + 1) DD ∧ LT.lt (α := Nat) (L + 1 + 1) DD ∧ LT.lt (α := Nat) (L + 1) DD := gt9 (Nat.lt_trans (Nat.lt_trans (Nat.lt_trans (Nat.lt_trans lW lP) lB) lT) lD)
  have hpl := plF_length W 12
  have hl1 : s.heap.IsList l vs0.toArray := hl0.at fun o e => F.keep _ o e
  dsimp only [List.drop]
  refine wpAny_execs_cons ?_
  refine wpAny_with_toks (n := s.toks) (Nat.le_refl _) ?_
  k_steps
  unfold Halt
  refine LSm.sum_ints F N (by with_unfolding_all rfl) hl1 hi0 fun h5 tk5 t5 F5 N5 => ?_
  clear F N hl1
  k_steps
  unfold Halt
  refine item_eq 12 ((plF W 12).getD 12 0) (News.isList N5 (.tail _ (.tail _ (.tail _ (.head _))))) iP rfl (by omega) (by omega) rfl fun tp => ?_
  have p0 := KG.p0
  have p1 := KG.p1
  have KG1 := KG.good
  have KG2 := KG.cnt
  generalize (plF W 12).getD 12 0 = P12 at p0 p1 hnext KG1 KG2 ⊢
  have g0 : 0 ≤ Int.fmod ns0.sum P12 := by rw [Int.fmod_eq_emod_of_nonneg _ (Int.le_of_lt p0)]; exact Int.emod_nonneg _ (Int.ne_of_gt p0)
  have g1 : Int.fmod ns0.sum P12 < P12 := by rw [Int.fmod_eq_emod_of_nonneg _ (Int.le_of_lt p0)]; exact Int.emod_lt_of_pos _ p0
  k_steps
  unfold Halt
  rename Fr _ _ _ _ => F6
  rename News _ _ _ _ => N6
  generalize Int.fmod ns0.sum P12 = g at g0 g1 F6
  rename s.toks ≤ _ => hle9
  refine wpAny_execs_cons ?_
  refine wpAny_with_toks (n := s.toks) (by dsimp only at *; omega) ?_
  have w1 := KG1 g g0 g1
  have w2 := KG2 g g0 g1
  clear KG1 KG2
  k_steps
  unfold Halt
  rename Fr _ _ _ _ => F7
  rename News _ _ _ _ => N7
  refine law_written w mean mg mb _ _ _ _ DP ps (plF W 12) S g 12 _ _ _ (P0.keeps F7.keep) (by show callerA.depth + 1 + 2 < recursionLimit; decide) (by with_unfolding_all rfl) (by dsimp only at *; omega) (News.isList N7 (.tail _ (.tail _ (.tail _ (.head _))))) iP (by rw [hpl]; decide) (by decide) (by rw [hpl]; decide) g0 (by omega) w1 (.inr (.inr rfl)) w2 (by rw [K.s3]; decide) fun tk7 h7 tk8 hk7 => ?_
  have F8 := F7.keeps hk7
  have N8 := N7.grown hk7
  clear F7 N7 hk7 w1 w2
  change wpAny _ _ _ _ _ _
  k_steps
  unfold Halt
  rename Fr _ _ _ _ => F9
  rename News _ _ _ _ => N9
  rename s.toks ≤ _ => hle8
  exact hnext _ _ _ g _ _ _ F9 N9 (by dsimp only at *; omega) g0 g1 rfl (by assumption)
end

-- part C26
set_option maxRecDepth 100000
set_option maxHeartbeats 16000000

section

local macro_rules | `(tactic| walk_at "subscriptTail Name BinOp ref int") => `(tactic| refine to_halt ?_)
local macro_rules | `(tactic| walk_at "subscriptTail Name Name str int") => `(tactic| refine to_halt ?_)
def dgF (W : List Int) (g : Int) (k : Nat) : Int := cntI (wrF (plF W 12) 12 g.toNat g) (12 - 1 - (k : Int))
def backF (W : List Int) (g : Int) : Nat → Int
  | 0 => 0
  | k + 1 => backF W g k + dgF W g k * (plF W 12).getD (11 - k) 0
structure TxOK (S ld : Str) (W : List Int) (g : Int) (x : Str) : Prop where
  len : x.length = 12
  at' : ∀ k : Nat, k < 12 → ∃ (r c : Nat), Txt.item x (0 + (k : Int) * 1) = ⟨#[c]⟩ ∧ dgF W g k = (r : Int) ∧ S.cps[r]? = some c ∧ ∀ j, j < r → S.cps[j]? ≠ some c
  d0 : ∀ k : Nat, k < 12 → 0 ≤ dgF W g k
  d2 : ∀ k : Nat, k < 12 → dgF W g k ≤ 2
  back : backF W g 12 = g
  free : freeB (barF S ld W (W.length - 1)) x = true
  pc : ∀ b ∈ barF S ld W (W.length - 1), PieceOK b
  lt : (maxL (tailsN x 12)).cps.toList < ld.cps.toList

def SegM (w : World) (mean : ExcName → Option Value) (mg mb : Str → Option Value) (name : Str) (scope : Scope) (body : List Stmt) : Prop :=
  ∀ (s : Shared) (Q : Flow → Shared → Prop) (E : Value → Shared → Prop) (h0 : Heap) (L fa l : Addr) (cd : Value) (m : Str → Option Value) (c1 c2 c3 c4 c5 c6 c7 c8 c9 : Obj) (S ld : Str) (W : List Int) (tS t8 tg : Tok) (g : Int) (x : Str) (DD DT DB DP DW : Nat) (ws ps bs vs ds : List Value) (n k kb kt kd : Nat),
   PC w mean mg mb h0 → Cfg S ld W → TxOK S ld W g x → (∀ y ∈ plF W 12, 0 ≤ y ∧ y < 2 ^ 30) →
   m (Str.ofString "great") = some (.int g tg) →
   Fr h0 L s.heap m → News h0 L s.heap [(DD, listOf ds.toArray kd), (DT, listOf vs.toArray kt), (DB, listOf bs.toArray kb), (DP, listOf ps.toArray k), (DW, listOf ws.toArray n), (L + 1 + 1 + 1 + 1 + 1 + 1 + 1 + 1 + 1, c9), (L + 1 + 1 + 1 + 1 + 1 + 1 + 1 + 1, c8), (L + 1 + 1 + 1 + 1 + 1 + 1 + 1, c7), (L + 1 + 1 + 1 + 1 + 1 + 1, c6), (L + 1 + 1 + 1 + 1 + 1, c5), (L + 1 + 1 + 1 + 1, c4), (L + 1 + 1 + 1, c3), (L + 1 + 1, c2), (L + 1, c1)] → LT.lt (α := Nat) (L + 1 + 1 + 1 + 1 + 1 + 1 + 1 + 1 + 1) DW → LT.lt (α := Nat) DW DP → LT.lt (α := Nat) DP DB → LT.lt (α := Nat) DB DT → LT.lt (α := Nat) DT DD → 0 < s.toks →
   c1.data = .cell (some (.str S tS)) → c5.data = .cell (some (.ref DP)) → c8.data = .cell (some (.str x t8)) → IntsAre ps (plF W 12) →
   (∀ (h : Heap) (tk : Nat) (m' : Str → Option Value) (tb : Tok), Fr h0 L h m' → News h0 L h [(DD, listOf ds.toArray kd), (DT, listOf vs.toArray kt), (DB, listOf bs.toArray kb), (DP, listOf ps.toArray k), (DW, listOf ws.toArray n), (L + 1 + 1 + 1 + 1 + 1 + 1 + 1 + 1 + 1, c9), (L + 1 + 1 + 1 + 1 + 1 + 1 + 1 + 1, c8), (L + 1 + 1 + 1 + 1 + 1 + 1 + 1, c7), (L + 1 + 1 + 1 + 1 + 1 + 1, c6), (L + 1 + 1 + 1 + 1 + 1, c5), (L + 1 + 1 + 1 + 1, c4), (L + 1 + 1 + 1, c3), (L + 1 + 1, c2), (L + 1, c1)] → 0 < tk →
     m' (Str.ofString "great") = some (.int g tg) → m' (Str.ofString "back") = some (.int g tb) → wpAny (model PySem.Challenge.rw_sw0037_01.row.prog w) (callerA.deeper (envOfC name scope L fa cd)) (execs (body.drop 25) (envOfC name scope L fa cd)) Q E { s with heap := h, toks := tk }) →
   wpAny (model PySem.Challenge.rw_sw0037_01.row.prog w) (callerA.deeper (envOfC name scope L fa cd)) (execs (body.drop 23) (envOfC name scope L fa cd)) Q E s

theorem segM (w : World) (mean : ExcName → Option Value) (mg mb : Str → Option Value) : LawB w (SegM w mean mg mb) := by
  refine LawB.intro (by with_unfolding_all rfl) ?_
  intro s Q E h0 L fa l cd m c1 c2 c3 c4 c5 c6 c7 c8 c9 S ld W tS t8 tg g x DD DT DB DP DW ws ps bs vs ds n k kb kt kd P K KT hpb hmg F N lW lP lB lT lD hs0 d1 d5 d8 iP hnext
  have hP9 : Hide (IntsAre ps (plF W 12)) := ⟨iP⟩
  have P0 := P
  obtain ⟨X, T⟩ := P
  revert X; k_fill; intro X
  have lW9 : LT.lt (α := Nat) (L + 1 + 1 + 1 + 1 + 1 + 1 + 1 + 1 + 1) DW ∧ LT.lt (α := Nat) (L + 1 + 1 + 1 + 1 + 1 + 1 + 1 + 1) DW ∧ LT.lt (α := Nat) (L + 1 + 1 + 1 + 1 + 1 + 1 + 1) DW ∧ LT.lt (α := Nat) (L + 1 + 1 + 1 + 1 + 1 + 1) DW ∧ LT.lt (α := Nat) (L + 1 + 1 + 1 + 1 + 1) DW ∧ LT.lt (α := Nat) (L + 1 + 1 + 1 + 1) DW ∧ LT.lt (α := Nat) (L + 1 + 1 + 1) DW ∧ LT.lt (α := Nat) (L + 1 + 1) DW ∧ LT.lt (α := Nat) (L + 1) DW := gt9 lW
  have lP9 : LT.lt (α := Nat) (L + 1 + 1 + 1 + 1 + 1 + 1 + 1 + 1 + 1) DP ∧ LT.lt (α := Nat) (L + 1 + 1 + 1 + 1 + 1 + 1 + 1 + 1) DP ∧ LT.lt (α := Nat) (L + 1 + 1 + 1 + 1 + 1 + 1 + 1) DP ∧ LT.lt (α := Nat) (L + 1 + 1 + 1 + 1 + 1 + 1) DP ∧ LT.lt (α := Nat) (L + 1 + 1 + 1 + 1 + 1) DP ∧ LT.lt (α := Nat) (L + 1 + 1 + 1 + 1) DP ∧ LT.lt (α := Nat) (L + 1 + 1 + 1) DP ∧ LT.lt (α := Nat) (L + 1 + 1) DP ∧ LT.lt (α := Nat) (L + 1) DP := gt9 (Nat.lt_trans lW lP)
  have lB9 : LT.lt (α := Nat) (L + 1 + 1 + 1 + 1 + 1 + 1 + 1 + 1 + 1) DB ∧ LT.lt (α := Nat) (L + 1 + 1 + 1 + 1 + 1 + 1 + 1 + 1) DB ∧ LT.lt (α := Nat) (L + 1 + 1 + 1 + 1 + 1 + 1 + 1) DB ∧ LT.lt (α := Nat) (L + 1 + 1 + 1 + 1 + 1 + 1) DB ∧ LT.lt (α := Nat) (L + 1 + 1 + 1 + 1 + 1) DB ∧ LT.lt (α := Nat) (L + 1 + 1 + 1 + 1) DB ∧ LT.lt (α := Nat) (L + 1 + 1 + 1) DB ∧ LT.lt (α := Nat) (L + 1 + 1) DB ∧ LT.lt (α := Nat) (L + 1) DB := gt9 (Nat.lt_trans (Nat.lt_trans lW lP) lB)
  have lT9 : LT.lt (α := Nat) (L + 1 + 1 + 1 + 1 + 1 + 1 + 1 + 1 + 1) DT ∧ LT.lt (α := Nat) (L + 1 + 1 + 1 + 1 + 1 + 1 + 1 + 1) DT ∧ LT.lt (α := Nat) (L + 1 + 1 + 1 + 1 + 1 + 1 + 1) DT ∧ LT.lt (α := Nat) (L + 1 + 1 + 1 + 1 + 1 + 1) DT ∧ LT.lt (α := Nat) (L + 1 + 1 + 1 + 1 + 1) DT ∧ LT.lt (α := Nat) (L + 1 + 1 + 1 + 1) DT ∧ LT.lt (α := Nat) (L + 1 + 1 + 1) DT ∧ LT.lt (α := Nat) (L + 1 + 1) DT ∧ LT.lt (α := Nat) (L + 1) DT := gt9 (Nat.lt_trans (Nat.lt_trans (Nat.lt_trans lW lP) lB) lT)
  have lD9 : LT.lt (α := Nat) (L + 1 + 1 + 1 + 1 + 1 + 1 + 1 + 1 + 1) DD ∧ LT.lt (α := Nat) (L + 1 + 1 + 1 + 1 + 1 + 1 + 1 + 1) DD ∧ LT.lt (α := Nat) (L + 1 + 1 + 1 + 1 + 1 + 1 + 1) DD ∧ LT.lt (α := Nat) (L + 1 + 1 + 1 + 1 + 1 + 1) DD ∧ LT.lt (α := Nat) (L + 1 + 1 + 1 + 1 + 1) DD ∧ LT.lt (α := Nat) (L + 1 + 1 + 1 + 1) DD ∧ LT.lt (α := Nat) (L + 1 + 1 + 1) DD ∧ LT.lt (α := Nat) (L + 1 + 1) DD ∧ LT.lt (α := Nat) (L + 1) DD := gt9 (Nat.lt_trans (Nat.lt_trans (Nat.lt_trans (Nat.lt_trans lW lP) lB) lT) lD)
  have hpl := plF_length W 12
  have hxl := KT.len
  dsimp only [List.drop]
  refine wpAny_execs_cons ?_
  refine wpAny_with_toks (n := s.toks) (Nat.le_refl _) ?_
  k_steps
  unfold Halt
  rename s.toks ≤ _ => hle9
  refine wpAny_execs_cons ?_
  refine wpAny_with_toks (n := s.toks) (by dsimp only at *; omega) ?_
  refine for_T h0 rfl rfl ?_
  k_steps
  unfold Halt
  rename Fr _ _ _ _ => F5
  rename News _ _ _ _ => N5
  rename IsRange _ _ _ _ _ _ _ _ => hr
  refine iter_rangeT 12 (fun j m => m (Str.ofString "great") = some (.int g tg) ∧ ∃ t, m (Str.ofString "back") = some (.int (backF W g j) t)) (by with_unfolding_all rfl) hr (by decide) (by decide) F5 N5 ⟨hmg, ⟨_, rfl⟩⟩ ?_ ?_
  · rintro I j t m₁ h6 o hI ht hj ⟨ms6, tb, mt⟩ F6 N6
    clear F5 N5 hr
    refine wpAny_execs_cons ?_
    obtain ⟨r, c, ex, ed, ec, ec2⟩ := KT.at' j hj
    have hd0 := KT.d0 j hj
    have hd2 := KT.d2 j hj
    have ek : ((11 : Int) - (0 + (j : Int) * 1)).toNat = 11 - j := by omega
    have eT : backF W g (j + 1) = backF W g j + dgF W g j * (plF W 12).getD (11 - j) 0 := by rw [backF]
    have p1 := getD_of hpb (11 - j) (by omega)
    rw [ed] at eT hd0 hd2
    generalize backF W g j = B at mt eT
    have asc := K.asc
    k_steps
    unfold Halt
    refine item_str0 (by omega) (by rw [hxl]; omega) (by rw [hxl]; decide) ?_
    rw [ex]
    k_steps
    unfold Halt
    refine indexOf_str w mean mg mb _ _ _ _ S c r _ _ (P0.keeps F6.keep) (by show callerA.depth + 1 + 1 < recursionLimit; decide) (by with_unfolding_all rfl) asc ec ec2 (by omega) (by dsimp only; omega) fun tk7 h7 tk8 hk7 => ?_
    have F7 := F6.keeps hk7
    have N7 := N6.grown hk7
    clear F6 N6 hk7
    change wpAny _ _ _ _ _ _
    k_steps
    unfold Halt
    refine item_eq (11 - j) ((plF W 12).getD (11 - j) 0) (News.isList N7 (.tail _ (.tail _ (.tail _ (.tail _ (.head _)))))) hP9.out (by omega) (by omega) (by omega) rfl fun tp => ?_
    generalize (plF W 12).getD (11 - j) 0 = y at p1 eT ⊢
    k_steps
    unfold Halt
    refine mul_ints w mean mg mb _ _ _ _ (r : Int) y _ _ (P0.keeps F7.keep) (by show callerA.depth + 1 + 1 < recursionLimit; decide) hd0 hd2 p1.1 (by omega) (mul_bd hd0 hd2 p1.1 p1.2) ?_
    intro tk9 h9 tk10 l7 l8 hk9
    have F9 := F7.keeps hk9
    have N9 := N7.grown hk9
    clear F7 N7 hk9
    k_steps
    unfold Halt
    refine add_ints w mean mg mb _ _ _ _ B ((r : Int) * y) _ _ (P0.keeps F9.keep) (by show callerA.depth + 1 + 1 < recursionLimit; decide) ?_
    intro tk11 h11 tk12 l9 l10 hk11
    have F11 := F9.keeps hk11
    have N11 := N9.grown hk11
    clear F9 N9 hk11
    k_steps
    rename Fr _ _ _ _ => F12
    rename News _ _ _ _ => N12
    exact FPost.nextI F12 N12 ⟨ms6, ex_cast eT ⟨_, rfl⟩⟩
  · rintro m₁ h6 tk6 ht6 ⟨ms6, tb, mt⟩ F6 N6
    clear F5 N5 hr
    rw [KT.back] at mt
    k_steps
    unfold Halt
    exact hnext _ _ _ _ F6 N6 (by dsimp only at *; omega) ms6 mt
end

-- part C27
set_option maxRecDepth 100000
set_option maxHeartbeats 16000000

section

local macro_rules | `(tactic| walk_at "exec If BoolOp cons nil") => `(tactic| refine wpAny_If ?_)

def SegN (w : World) (mean : ExcName → Option Value) (mg mb : Str → Option Value) (name : Str) (scope : Scope) (body : List Stmt) : Prop :=
  ∀ (s : Shared) (Q : Flow → Shared → Prop) (E : Value → Shared → Prop) (h0 : Heap) (L fa l : Addr) (cd : Value) (m : Str → Option Value) (c1 c2 c3 c4 c5 c6 c7 c8 c9 : Obj) (S ld : Str) (W : List Int) (tL t8 tg tb : Tok) (g : Int) (x : Str) (DD DT DB DP DW : Nat) (ws ps bs vs ds : List Value) (n k kb kt kd : Nat),
   PC w mean mg mb h0 → TxOK S ld W g x →
   m (Str.ofString "great") = some (.int g tg) → m (Str.ofString "back") = some (.int g tb) →
   Fr h0 L s.heap m → News h0 L s.heap [(DD, listOf ds.toArray kd), (DT, listOf vs.toArray kt), (DB, listOf bs.toArray kb), (DP, listOf ps.toArray k), (DW, listOf ws.toArray n), (L + 1 + 1 + 1 + 1 + 1 + 1 + 1 + 1 + 1, c9), (L + 1 + 1 + 1 + 1 + 1 + 1 + 1 + 1, c8), (L + 1 + 1 + 1 + 1 + 1 + 1 + 1, c7), (L + 1 + 1 + 1 + 1 + 1 + 1, c6), (L + 1 + 1 + 1 + 1 + 1, c5), (L + 1 + 1 + 1 + 1, c4), (L + 1 + 1 + 1, c3), (L + 1 + 1, c2), (L + 1, c1)] → LT.lt (α := Nat) (L + 1 + 1 + 1 + 1 + 1 + 1 + 1 + 1 + 1) DW → LT.lt (α := Nat) DW DP → LT.lt (α := Nat) DP DB → LT.lt (α := Nat) DB DT → LT.lt (α := Nat) DT DD → 0 < s.toks →
   c3.data = .cell (some (.str ld tL)) → c6.data = .cell (some (.ref DB)) → c8.data = .cell (some (.str x t8)) → StrsAre bs (barF S ld W (W.length - 1)) →
   (∀ (h : Heap) (tk : Nat) (m' : Str → Option Value), Fr h0 L h m' → Q (.ret (.bool true)) { s with heap := h, toks := tk }) →
   wpAny (model PySem.Challenge.rw_sw0037_01.row.prog w) (callerA.deeper (envOfC name scope L fa cd)) (execs (body.drop 25) (envOfC name scope L fa cd)) Q E s

theorem segN (w : World) (mean : ExcName → Option Value) (mg mb : Str → Option Value) : LawB w (SegN w mean mg mb) := by
  refine LawB.intro (by with_unfolding_all rfl) ?_
  intro s Q E h0 L fa l cd m c1 c2 c3 c4 c5 c6 c7 c8 c9 S ld W tL t8 tg tb g x DD DT DB DP DW ws ps bs vs ds n k kb kt kd P KT hmg hmb F N lW lP lB lT lD hs0 d3 d6 d8 iB hnext
  have P0 := P
  obtain ⟨X, T⟩ := P
  revert X; k_fill; intro X
  have lW9 : LT.lt (α := Nat) (L + 1 + 1 + 1 + 1 + 1 + 1 + 1 + 1 + 1) DW ∧ LT.lt (α := Nat) (L + 1 + 1 + 1 + 1 + 1 + 1 + 1 + 1) DW ∧ LT.lt (α := Nat) (L + 1 + 1 + 1 + 1 + 1 + 1 + 1) DW ∧ LT.lt (α := Nat) (L + 1 + 1 + 1 + 1 + 1 + 1) DW ∧ LT.lt (α := Nat) (L + 1 + 1 + 1 + 1 + 1) DW ∧ LT.lt (α := Nat) (L + 1 + 1 + 1 + 1) DW ∧ LT.lt (α := Nat) (L + 1 + 1 + 1) DW ∧ LT.lt (α := Nat) (L + 1 + 1) DW ∧ LT.lt (α := Nat) (L + 1) DW := gt9 lW
  have lP9 : LT.lt (α := Nat) (L + 1 + 1 + 1 + 1 + 1 + 1 + 1 + 1 + 1) DP ∧ LT.lt (α := Nat) (L + 1 + 1 + 1 + 1 + 1 + 1 + 1 + 1) DP ∧ LT.lt (α := Nat) (L + 1 + 1 + 1 + 1 + 1 + 1 + 1) DP ∧ LT.lt (α := Nat) (L + 1 + 1 + 1 + 1 + 1 + 1) DP ∧ LT.lt (α := Nat) (L + 1 + 1 + 1 + 1 + 1) DP ∧ LT.lt (α := Nat) (L + 1 + 1 + 1 + 1) DP ∧ LT.lt (α := Nat) (L + 1 + 1 + 1) DP ∧ LT.lt (α := Nat) (L + 1 + 1) DP ∧ LT.lt (α := Nat) (L + 1) DP := gt9 (Nat.lt_trans lW lP)
  have lB9 : LT.lt (α := Nat) (L + 1 + 1 + 1 + 1 + 1 + 1 + 1 + 1 + 1) DB ∧ LT.lt (α := Nat) (L + 1 + 1 + 1 + 1 + 1 + 1 + 1 + 1) DB ∧ LT.lt (α := Nat) (L + 1 + 1 + 1 + 1 + 1 + 1 + 1) DB ∧ LT.lt (α := Nat) (L + 1 + 1 + 1 + 1 + 1 + 1) DB ∧ LT.lt (α := Nat) (L + 1 + 1 + 1 + 1 + 1) DB ∧ LT.lt (α := Nat) (L + 1 + 1 + 1 + 1) DB ∧ LT.lt (α := Nat) (L + 1 + 1 + 1) DB ∧ LT.lt (α := Nat) (L + 1 + 1) DB ∧ LT.lt (α := Nat) (L + 1) DB := gt9 (Nat.lt_trans (Nat.lt_trans lW lP) lB)
  have lT9 : LT.lt (α := Nat) (L + 1 + 1 + 1 + 1 + 1 + 1 + 1 + 1 + 1) DT ∧ LT.lt (α := Nat) (L + 1 + 1 + 1 + 1 + 1 + 1 + 1 + 1) DT ∧ LT.lt (α := Nat) (L + 1 + 1 + 1 + 1 + 1 + 1 + 1) DT ∧ LT.lt (α := Nat) (L + 1 + 1 + 1 + 1 + 1 + 1) DT ∧ LT.lt (α := Nat) (L + 1 + 1 + 1 + 1 + 1) DT ∧ LT.lt (α := Nat) (L + 1 + 1 + 1 + 1) DT ∧ LT.lt (α := Nat) (L + 1 + 1 + 1) DT ∧ LT.lt (α := Nat) (L + 1 + 1) DT ∧ LT.lt (α := Nat) (L + 1) DT := gt9 (Nat.lt_trans (Nat.lt_trans (Nat.lt_trans lW lP) lB) lT)
  have lD9 : LT.lt (α := Nat) (L + 1 + 1 + 1 + 1 + 1 + 1 + 1 + 1 + 1) DD ∧ LT.lt (α := Nat) (L + 1 + 1 + 1 + 1 + 1 + 1 + 1 + 1) DD ∧ LT.lt (α := Nat) (L + 1 + 1 + 1 + 1 + 1 + 1 + 1) DD ∧ LT.lt (α := Nat) (L + 1 + 1 + 1 + 1 + 1 + 1) DD ∧ LT.lt (α := Nat) (L + 1 + 1 + 1 + 1 + 1) DD ∧ LT.lt (α := Nat) (L + 1 + 1 + 1 + 1) DD ∧ LT.lt (α := Nat) (L + 1 + 1 + 1) DD ∧ LT.lt (α := Nat) (L + 1 + 1) DD ∧ LT.lt (α := Nat) (L + 1) DD := gt9 (Nat.lt_trans (Nat.lt_trans (Nat.lt_trans (Nat.lt_trans lW lP) lB) lT) lD)
  have hxl := KT.len
  dsimp only [List.drop]
  refine wpAny_execs_cons ?_
  refine wpAny_with_toks (n := s.toks) (Nat.le_refl _) ?_
  k_steps
  · rename_i hq
    exfalso
    revert hq
    simp
  · unfold Halt
    refine law_free w mean mg mb _ _ _ _ DB bs _ x _ (P0.keeps F.keep) (by show callerA.depth + 1 + 2 < recursionLimit; decide) (by with_unfolding_all rfl) (News.isList N (.tail _ (.tail _ (.head _)))) iB (by rw [hxl]; decide) KT.pc fun h7 tk7 hk7 => ?_
    have ef : ((barF S ld W (W.length - 1)).all fun b => !hasSub x b) = true := KT.free
    rw [ef]
    have F7 := F.keeps hk7
    have N7 := N.grown hk7
    clear F N hk7
    change wpAny _ _ _ _ _ _
    k_steps
    unfold Halt
    rename s.toks ≤ _ => hle9
    refine wpAny_execs_cons ?_
    refine wpAny_with_toks (n := s.toks) (by dsimp only at *; omega) ?_
    k_steps
    unfold Halt
    refine ListComp_T (cl := [(Str.ofString "text", (L + 1 + 1 + 1 + 1 + 1 + 1 + 1 + 1))]) ?a ?b ?c ?d ?e ?_
    case a => with_unfolding_all rfl
    case b => decide
    case c => rfl
    case d => decide
    case e => rfl
    k_steps
    unfold Halt
    rename Fr _ _ _ _ => F4
    rename News _ _ _ _ => N4
    rename IsRange _ _ _ _ _ _ _ _ => hr4
    refine csrc_range 12 (by with_unfolding_all rfl) ⟨_, _, _, hr4⟩ (by decide) (by decide) fun it s₂ src => ?_
    refine ⟨12, _, fun _ => true, fun i y => ∃ tk, y = .str (Txt.slice x (some (0 + ((i : Nat) : Int) * 1)) none) tk, src, by rw [sizeLine_eq]; decide, ⟨fun _ _ _ _ _ _ _ _ _ _ _ _ _ _ _ _ => no_tests, ?_⟩, ?_⟩
    · rintro C i v t0' t3 s₃ m₃ E' hC hin _ ht0 ⟨rfl, rfl⟩ ht3 hn3 hm3 hk3
      change wpAny _ _ _ (EltEnd (fun y => ∃ tk, y = .str (Txt.slice x (some (0 + ((i : Nat) : Int) * 1)) none) tk) s₃) _ _
      have hcX : s₃.heap.IsCell (L + 1 + 1 + 1 + 1 + 1 + 1 + 1 + 1) (some (.str x t8)) := ⟨c8, hk3 _ _ (N4 ((L + 1 + 1 + 1 + 1 + 1 + 1 + 1 + 1), c8) (by simp)).1, d8⟩
      have FC : Fr _ C s₃.heap m₃ := ⟨hn3, hk3, hC⟩
      have NC : News _ C s₃.heap [] := News.nil (h₀ := h0)
      clear hk3 hC F4 N4
      k_steps
      unfold Halt
      refine slice_sn_keep (fun h' t' k hk => ?_) (hsz := by rw [hxl, sizeLine_eq]; decide)
      k_steps
      exact EltEnd.intro ⟨_, rfl⟩ hk
    · intro D' h' tk ys k' hD hget hP htk hk
      rw [filter_true] at hP
      have hS' : StrsAre ys.toList (tailsN x 12) := paired_strs hP
      have hnL : (tailsN x 12).length = 12 := by rw [tailsN, List.length_map, List.length_range]
      have h12 : 0 < (tailsN x 12).length := by rw [hnL]; decide
      have F2 := F4.keeps hk
      have N2 := N4.grown hk
      have hl2 : h'.IsList D' ys.toList.toArray := by rw [Array.toArray_toList]; exact ⟨_, hget, rfl, _, rfl⟩
      clear hP hk F4 N4 hget src hD
      k_steps
      unfold Halt
      refine max_strs (by with_unfolding_all rfl) hl2 hS' h12 fun h8 t9 k8 hk8 => ?_
      have F8 := F2.keeps hk8
      have N8 := N2.grown hk8
      clear F2 N2 hl2 hk8
      have hMX := KT.lt
      unfold maxL at hMX
      generalize maxS (fun i => (tailsN x 12).getD i (Str.mk #[])) (tailsN x 12).length = MX at hMX ⊢
      change wpAny _ _ _ _ _ _
      k_steps
      rw [decide_eq_true hMX]
      exact hnext _ _ _ F8
end

-- part C28
set_option maxRecDepth 100000
set_option maxHeartbeats 16000000

section

set_option maxHeartbeats 16000000
structure LeadOK (S ld : Str) (W : List Int) (N0 : Nat) : Prop where
  cfg : Cfg S ld W
  w0 : W.getD 0 0 = 1 ∨ W.getD 0 0 = 2
  pl : ∀ i, i ≤ 12 → ∀ y ∈ plF W i, 0 ≤ y ∧ y < 2 ^ 30
  bar : ∀ i, i ≤ 2 → (barF S ld W i).length ≤ 10
  tx : ∀ i, i < szN W → (txF S W (i + 1)).length ≤ 1000
  free : FreeOK S ld W
  wr : WrOK S ld W N0
  bis : BisOK S ld W N0
  gr : GrOK S W
  txt : ∀ g, 0 ≤ g → g < (plF W 12).getD 12 0 → TxOK S ld W g (wrS S (plF W 12) 12 g)
structure PlainOK (S R : Str) : Prop where
  s3 : S.length = 3
  r3 : R.length = 3
  ends : ∃ e0 e1 e2, endsF R 3 = [e0, e1, e2] ∧ e2.length ≤ 3 ∧ ∃ W N0, LeadOK S (leadF S e2) W N0
  ok : ∀ x ∈ endsF R 3, PyData.strOk x = true
  sort : ∀ p : List Str, p.Perm (tailsF R) → sortedS p = true → p = endsF R 3

def SegAll (w : World) (mean : ExcName → Option Value) (mg mb : Str → Option Value) (name : Str) (scope : Scope) (body : List Stmt) : Prop :=
  ∀ (s : Shared) (Q : Flow → Shared → Prop) (E : Value → Shared → Prop) (h0 : Heap) (L fa l : Addr) (cd : Value) (m : Str → Option Value) (c1 c2 c3 c4 c5 c6 c7 c8 c9 : Obj) (vs : List Value) (ns : List Int),
   PC w mean mg mb h0 → (∀ j, j < 4 → ∀ x0 x1 x2 : Int, 0 ≤ x0 → 0 ≤ x1 → 0 ≤ x2 → PlainOK (sgS j) (rowS (sgS j) x0 x1 x2)) →
   h0.IsList l vs.toArray → IntsAre vs ns → ns.length ≤ 63 → m (Str.ofString "script") = some (.ref l) →
   Fr h0 L s.heap m → News h0 L s.heap [(L + 1 + 1 + 1 + 1 + 1 + 1 + 1 + 1 + 1, c9), (L + 1 + 1 + 1 + 1 + 1 + 1 + 1 + 1, c8), (L + 1 + 1 + 1 + 1 + 1 + 1 + 1, c7), (L + 1 + 1 + 1 + 1 + 1 + 1, c6), (L + 1 + 1 + 1 + 1 + 1, c5), (L + 1 + 1 + 1 + 1, c4), (L + 1 + 1 + 1, c3), (L + 1 + 1, c2), (L + 1, c1)] →
   c1.data = .cell none → c2.data = .cell none → c3.data = .cell none → c4.data = .cell none → c5.data = .cell none → c6.data = .cell none → c7.data = .cell none → c8.data = .cell none → c9.data = .cell none →
   (∀ (h : Heap) (tk : Nat) (m' : Str → Option Value), Fr h0 L h m' → Q (.ret (.bool true)) { s with heap := h, toks := tk }) →
   wpAny (model PySem.Challenge.rw_sw0037_01.row.prog w) (callerA.deeper (envOfC name scope L fa cd)) (execs body (envOfC name scope L fa cd)) Q E s

theorem segAll (w : World) (mean : ExcName → Option Value) (mg mb : Str → Option Value) : LawB w (SegAll w mean mg mb) := by
  intro name qual params body scope dV kV doc pm an cdv ct oc od osl e
  have hA := segA w mean mg mb name qual params body scope dV kV doc pm an cdv ct oc od osl e
  have hA2 := segA2 w mean mg mb name qual params body scope dV kV doc pm an cdv ct oc od osl e
  have hA3 := segA3 w mean mg mb name qual params body scope dV kV doc pm an cdv ct oc od osl e
  have hB := segB w mean mg mb name qual params body scope dV kV doc pm an cdv ct oc od osl e
  have hC := segC w mean mg mb name qual params body scope dV kV doc pm an cdv ct oc od osl e
  have hD := segD w mean mg mb name qual params body scope dV kV doc pm an cdv ct oc od osl e
  have hE1 := segE1 w mean mg mb name qual params body scope dV kV doc pm an cdv ct oc od osl e
  have hE2 := segE2 w mean mg mb name qual params body scope dV kV doc pm an cdv ct oc od osl e
  have hF := segF w mean mg mb name qual params body scope dV kV doc pm an cdv ct oc od osl e
  have hG1 := segG1 w mean mg mb name qual params body scope dV kV doc pm an cdv ct oc od osl e
  have hG2 := segG2 w mean mg mb name qual params body scope dV kV doc pm an cdv ct oc od osl e
  have hH := segH w mean mg mb name qual params body scope dV kV doc pm an cdv ct oc od osl e
  have hI := segI w mean mg mb name qual params body scope dV kV doc pm an cdv ct oc od osl e
  have hJ := segJ w mean mg mb name qual params body scope dV kV doc pm an cdv ct oc od osl e
  have hK := segK w mean mg mb name qual params body scope dV kV doc pm an cdv ct oc od osl e
  have hL := segL w mean mg mb name qual params body scope dV kV doc pm an cdv ct oc od osl e
  have hM := segM w mean mg mb name qual params body scope dV kV doc pm an cdv ct oc od osl e
  have hN := segN w mean mg mb name qual params body scope dV kV doc pm an cdv ct oc od osl e
  clear e
  intro s Q E h0 L fa l cd m c1 c2 c3 c4 c5 c6 c7 c8 c9 vs ns P hp hl hi hn hm F N d1 d2 d3 d4 d5 d6 d7 d8 d9 fin
  refine hA s Q E h0 L fa l cd vs ns m c1 c2 c3 c4 c5 c6 c7 c8 c9 P hl hi hn hm F N d1 d2 d3 d4 d5 d6 d7 d8 d9 ?_
  clear hA hm F N
  intro h tk m1 D x0 x1 x2 t0 t1 t2 nn F N lD hmd hms z0 z1 z2 htk
  refine hA2 _ Q E h0 L fa l cd m1 c1 c2 c3 c4 c5 c6 c7 c8 c9 D x0 x1 x2 t0 t1 t2 nn P hms hmd F N lD z0 z1 z2 htk d1 d2 ?_
  clear hA2 hms hmd F N d1 htk
  intro h tk m1 c1 j tS hj F N d1 hmd hms htk
  have hpl := hp j hj x0 x1 x2 z0 z1 z2
  clear hp
  have s3 := hpl.s3
  refine hA3 _ Q E h0 L fa l cd m1 c1 c2 c3 c4 c5 c6 c7 c8 c9 D x0 x1 x2 t0 t1 t2 nn (sgS j) tS P s3 hms hmd F N lD htk d1 d2 ?_
  generalize rowS (sgS j) x0 x1 x2 = R at hpl ⊢
  generalize sgS j = S at hpl s3 d1 ⊢
  clear hA3 hms hmd F N d2 htk lD
  intro h tk m1 c2 tR F N d2 hms htk
  obtain ⟨e0, e1, e2, he, he2, W, N0, KL⟩ := hpl.ends
  have r3 := hpl.r3
  have hok := hpl.ok
  have hsort := hpl.sort
  clear hpl
  refine hB _ Q E h0 L fa l cd m1 c1 c2 c3 c4 c5 c6 c7 c8 c9 S R tS tR P s3 r3 hms F N htk d1 d2 ?_
  clear hB hms F N htk
  intro h tk m1 D its nd F N lD hme hms hS htk
  refine hC _ Q E h0 L fa l cd m1 c1 c2 c3 c4 c5 c6 c7 c8 c9 R tR D its nd P r3 hok hsort hms hme F N lD htk d2 hS ?_
  clear hC F N htk hok hsort
  intro h tk F N htk
  refine hD _ Q E h0 L fa l cd m1 c1 c2 c3 c4 c5 c6 c7 c8 c9 S R e0 e1 e2 tS D its nd P s3 he he2 hms hme F N lD htk d1 d3 hS ?_
  generalize leadF S e2 = ld at KL ⊢
  clear hD F N htk hS he he2 d3 hme lD
  intro h tk c3 tL F N htk d3
  refine hE1 _ Q E h0 L fa l cd m1 c1 c2 c3 c4 c5 c6 c7 c8 c9 S ld W tS tL P KL.cfg hms F N htk d1 d3 d4 d5 ?_
  clear hE1 F N htk d4 d5
  intro h tk c4 c5 DP DW ws ps n k F N lW lP htk d4 d5 iW iP
  obtain ⟨ws, rfl⟩ : ∃ zs : List Value, ws = zs.toArray := ⟨ws.toList, by rw [Array.toArray_toList]⟩
  obtain ⟨ps, rfl⟩ : ∃ zs : List Value, ps = zs.toArray := ⟨ps.toList, by rw [Array.toArray_toList]⟩
  rw [List.toList_toArray] at iW iP
  refine hE2 _ Q E h0 L fa l cd m1 c1 c2 c3 c4 c5 c6 c7 c8 c9 S ld W tL DP DW ws ps n k P KL.cfg KL.pl hms F N lW lP htk d3 d4 d5 iW iP ?_
  clear hE2 F N htk iP ps k hms
  intro h tk m1 ps k F hms N htk iP
  refine hF _ Q E h0 L fa l cd m1 c1 c2 c3 c4 c5 c6 c7 c8 c9 S ld W tS tL DP DW ws ps n k P KL.cfg KL.bar hms F N lW lP htk d1 d3 d4 d6 iW ?_
  clear hF F N htk hms d6
  intro h tk m1 DB bs kb c6 F hms N lB htk d6 iB
  refine hG1 _ Q E h0 L fa l cd m1 c1 c2 c3 c4 c5 c6 c7 c8 c9 S ld W DB DP DW ws ps bs n k kb P KL.cfg KL.w0 F N lW lP lB htk d4 d7 iW ?_
  clear hG1 F N htk d7
  intro h tk c7 t7 F N htk d7
  refine hG2 _ Q E h0 L fa l cd m1 c1 c2 c3 c4 c5 c6 c7 c8 c9 S ld W tS t7 DB DP DW ws ps bs n k kb P KL.cfg KL.tx hms F N lW lP lB htk d1 d4 d7 iW ?_
  clear hG2 F N htk hms
  intro h tk m1 DT vs' kt F hms hmt N lT htk iT
  refine hH _ Q E h0 L fa l cd m1 c1 c2 c3 c4 c5 c6 c7 c8 c9 S ld W tL t7 DT DB DP DW ws ps bs vs' n k kb kt P KL.cfg KL.free.tx hms hmt F N lW lP lB lT htk d3 d7 d9 iT ?_
  clear hH F N htk d9
  intro h tk DD ds kd c9 F N lDD htk d9 iD
  refine hI _ Q E h0 L fa l cd m1 c1 c2 c3 c4 c5 c6 c7 c8 c9 S ld W DD DT DB DP DW ws ps bs vs' ds n k kb kt kd P KL.free hms hmt F N lW lP lB lT lDD htk d6 d9 iT iB iD ?_
  clear hI F N htk
  intro h tk F N htk
  refine hJ _ Q E h0 L fa l cd m1 c1 c2 c3 c4 c5 c6 c7 c8 c9 S ld W N0 tS t7 DD DT DB DP DW ws ps bs vs' ds n k kb kt kd P KL.cfg KL.wr hms F N lW lP lB lT lDD htk d1 d5 d7 d9 iP iD ?_
  clear hJ F N htk
  intro h tk F N htk
  refine hK _ Q E h0 L fa l cd m1 c1 c2 c3 c4 c5 c6 c7 c8 c9 S ld W N0 t7 DD DT DB DP DW ws ps bs vs' ds n k kb kt kd P KL.bis hms F N lW lP lB lT lDD htk d5 d7 d9 iP iD ?_
  clear hK F N htk
  intro h tk F N htk
  refine hL _ Q E h0 L fa l cd m1 c1 c2 c3 c4 c5 c6 c7 c8 c9 S ld W tS DD DT DB DP DW ws ps bs vs' ds vs ns n k kb kt kd P KL.cfg KL.gr hl hi hn hms F N lW lP lB lT lDD htk d1 d5 d8 iP ?_
  clear hL F N htk d8 hms hmt
  intro h tk m1 g tg t8 c8 F N htk g0 g1 hmg d8
  have KT := KL.txt g g0 g1
  generalize wrS S (plF W 12) 12 g = x at d8 KT
  refine hM _ Q E h0 L fa l cd m1 c1 c2 c3 c4 c5 c6 c7 c8 c9 S ld W tS t8 tg g x DD DT DB DP DW ws ps bs vs' ds n k kb kt kd P KL.cfg KT (KL.pl 12 (by decide)) hmg F N lW lP lB lT lDD htk d1 d5 d8 iP ?_
  clear hM F N htk hmg
  intro h tk m1 tb F N htk hmg hmb
  refine hN _ Q E h0 L fa l cd m1 c1 c2 c3 c4 c5 c6 c7 c8 c9 S ld W tL t8 tg tb g x DD DT DB DP DW ws ps bs vs' ds n k kb kt kd P KT hmg hmb F N lW lP lB lT lDD htk d3 d6 d8 iB ?_
  intro h tk m1 F
  exact fin _ _ _ F
end
end
end Mine

-- part P1
open PySem PySem.W PyProof.Rows PySem.Calls
set_option Elab.async false
set_option linter.unusedVariables false
namespace Mine
set_option maxRecDepth 100000
set_option maxHeartbeats 16000000

theorem bisR_spec (ns : List Int) (x : Int) (sz : Nat) (hs : ∀ i j, i ≤ j → j < sz → ns.getD i 0 ≤ ns.getD j 0) : ∀ (n lo hi : Nat), lo ≤ hi → hi ≤ sz → hi - lo ≤ n →
    ∃ b : Nat, bisR ns x n lo hi = (b : Int) ∧ lo ≤ b ∧ b ≤ hi ∧ (∀ i, lo ≤ i → i < b → ns.getD i 0 ≤ x) ∧ (∀ i, b ≤ i → i < hi → x < ns.getD i 0) := by
  intro n
  induction n with
  | zero =>
    intro lo hi h1 h2 h3
    exact ⟨lo, rfl, Nat.le_refl _, h1, fun i a b => absurd b (by omega), fun i a b => absurd b (by omega)⟩
  | succ n ih =>
    intro lo hi h1 h2 h3
    rw [bisR]
    by_cases hlt : lo < hi
    · have hlt' : (lo : Int) < (hi : Int) := by omega
      rw [if_pos hlt']
      have em : Int.fdiv ((lo : Int) + (hi : Int)) 2 = (((lo + hi) / 2 : Nat) : Int) := by
        rw [Int.fdiv_eq_ediv_of_nonneg _ (by decide)]; omega
      rw [em]
      have e1 : (((lo + hi) / 2 : Nat) : Int).toNat = (lo + hi) / 2 := Int.toNat_natCast _
      rw [e1]
      have m1 : lo ≤ (lo + hi) / 2 := by omega
      have m2 : (lo + hi) / 2 < hi := by omega
      generalize (lo + hi) / 2 = m at m1 m2
      by_cases hx : x < ns.getD m 0
      · rw [if_pos hx]
        obtain ⟨b, eb, b1, b2, b3, b4⟩ := ih lo m m1 (by omega) (by omega)
        refine ⟨b, eb, b1, by omega, b3, fun i a c => ?_⟩
        by_cases him : i < m
        · exact b4 i a him
        · exact Int.lt_of_lt_of_le hx (hs m i (by omega) (by omega))
      · rw [if_neg hx]
        obtain ⟨b, eb, b1, b2, b3, b4⟩ := ih (m + 1) hi (by omega) h2 (by omega)
        refine ⟨b, by rw [← eb]; rfl, by omega, b2, fun i a c => ?_, b4⟩
        by_cases him : i ≤ m
        · exact Int.le_trans (hs i m him (by omega)) (by omega)
        · exact b3 i (by omega) c
    · have hlt' : ¬ (lo : Int) < (hi : Int) := by omega
      rw [if_neg hlt']
      exact ⟨lo, rfl, Nat.le_refl _, h1, fun i a b => absurd b (by omega), fun i a b => absurd b (by omega)⟩

structure Pos (ns : List Int) (sz : Nat) : Prop where
  mono : ∀ i j, i ≤ j → j ≤ sz → ns.getD i 0 ≤ ns.getD j 0
  one : ns.getD 0 0 = 1
  sz1 : 1 ≤ sz
theorem Pos.ge {ns : List Int} {sz : Nat} (p : Pos ns sz) (i : Nat) (h : i ≤ sz) : 1 ≤ ns.getD i 0 := by
  have := p.mono 0 i (Nat.zero_le _) h
  rw [p.one] at this
  exact this
theorem Pos.top {ns : List Int} {sz : Nat} (p : Pos ns sz) {r : Int} (h0 : 0 < r) (h1 : r < ns.getD sz 0) :
    ∃ t : Nat, bisR ns r sz 0 sz - 1 = (t : Int) ∧ t < sz ∧ ns.getD t 0 ≤ r ∧ r < ns.getD (t + 1) 0 := by
  obtain ⟨b, eb, b1, b2, b3, b4⟩ := bisR_spec ns r sz (fun i j a c => p.mono i j a (by omega)) sz 0 sz (Nat.zero_le _) (Nat.le_refl _) (by omega)
  have hb : 1 ≤ b := by
    rcases Nat.eq_zero_or_pos b with rfl | h
    · have := b4 0 (Nat.le_refl _) (by have := p.sz1; omega)
      rw [p.one] at this; omega
    · exact h
  refine ⟨b - 1, ?_, by omega, b3 (b - 1) (by omega) (by omega), ?_⟩
  · have eb' : bisR ns r sz 0 sz = (b : Int) := eb
    rw [eb']; omega
  · have e : b - 1 + 1 = b := by omega
    rw [e]
    by_cases hbs : b < sz
    · exact b4 b (Nat.le_refl _) hbs
    · have : b = sz := by omega
      rw [this]; exact h1
theorem Pos.good {ns : List Int} {sz : Nat} (p : Pos ns sz) {num : Int} (h : num < ns.getD sz 0) : WrGood ns (sz : Int) num := by
  intro r h0 h1
  obtain ⟨t, et, t1, t2, t3⟩ := p.top h0 (Int.lt_of_le_of_lt h1 h)
  rw [Int.toNat_natCast, et]
  have := p.ge t (by omega)
  rw [Int.toNat_natCast]
  exact ⟨by omega, by omega, this, t2⟩

def vsum (ts ns : List Int) : Nat → Int
  | 0 => 0
  | i + 1 => vsum ts ns i + cntI ts (i : Int) * ns.getD i 0
theorem cntI_nonneg (ts : List Int) (k : Int) : 0 ≤ cntI ts k := by unfold cntI; omega
theorem cntI_cons (t : Int) (ts : List Int) (k : Int) : cntI (t :: ts) k = cntI ts k + if t = k then 1 else 0 := by
  unfold cntI
  rw [List.countP_cons]
  by_cases h : t = k
  · simp [h]
  · simp [h]
theorem vsum_nil (ns : List Int) : ∀ i, vsum [] ns i = 0
  | 0 => rfl
  | i + 1 => by rw [vsum, vsum_nil ns i]; simp [cntI]
theorem vsum_cons (t : Nat) (ts ns : List Int) : ∀ i, vsum ((t : Int) :: ts) ns i = vsum ts ns i + if t < i then ns.getD t 0 else 0
  | 0 => by simp [vsum]
  | i + 1 => by
    rw [vsum, vsum, vsum_cons t ts ns i, cntI_cons]
    by_cases h : t = i
    · subst h
      rw [if_neg (Nat.lt_irrefl _), if_pos rfl, if_pos (Nat.lt_succ_self _), Int.add_mul]
      omega
    · rw [if_neg (by omega : ¬ (t : Int) = (i : Int))]
      by_cases h2 : t < i
      · rw [if_pos h2, if_pos (by omega : t < i + 1)]
        simp only [Int.add_zero]
        omega
      · rw [if_neg h2, if_neg (by omega : ¬ t < i + 1)]
        simp only [Int.add_zero]
theorem vsum_mono {ns : List Int} {sz : Nat} (p : Pos ns sz) (ts : List Int) : ∀ (j i : Nat), i ≤ j → j ≤ sz → vsum ts ns i ≤ vsum ts ns j := by
  intro j
  induction j with
  | zero => intro i h1 h2; have : i = 0 := by omega
            subst this; exact Int.le_refl _
  | succ j ih =>
    intro i h1 h2
    by_cases h : i = j + 1
    · subst h; exact Int.le_refl _
    · refine Int.le_trans (ih i (by omega) (by omega)) ?_
      rw [vsum]
      have := Int.mul_nonneg (cntI_nonneg ts (j : Int)) (Int.le_trans (by decide) (p.ge j (by omega)))
      omega
theorem wr_val {ns : List Int} {sz : Nat} (p : Pos ns sz) : ∀ (n : Nat) (r : Int), 0 ≤ r → r ≤ n → r < ns.getD sz 0 →
    vsum (wrF ns (sz : Int) n r) ns sz = r ∧ ∀ i, i ≤ sz → vsum (wrF ns (sz : Int) n r) ns i < ns.getD i 0 := by
  intro n
  induction n with
  | zero =>
    intro r h0 h1 h2
    have : r = 0 := by omega
    subst this
    rw [wrF, vsum_nil]
    exact ⟨rfl, fun i hi => by rw [vsum_nil]; have := p.ge i hi; omega⟩
  | succ n ih =>
    intro r h0 h1 h2
    rw [wrF]
    by_cases hr : 0 < r
    · rw [if_pos hr, Int.toNat_natCast]
      obtain ⟨t, et, t1, t2, t3⟩ := p.top hr h2
      rw [et, Int.toNat_natCast]
      have hge := p.ge t (by omega)
      obtain ⟨v1, v2⟩ := ih (r - ns.getD t 0) (by omega) (by omega) (by omega)
      generalize wrF ns (sz : Int) n (r - ns.getD t 0) = ts at v1 v2
      refine ⟨?_, fun i hi => ?_⟩
      · rw [vsum_cons, if_pos t1, v1]; omega
      · rw [vsum_cons]
        by_cases hti : t < i
        · rw [if_pos hti]
          have m1 := vsum_mono p ts sz i hi (Nat.le_refl _)
          have m2 := p.mono (t + 1) i (by omega) hi
          omega
        · rw [if_neg hti]; have := v2 i hi; omega
    · rw [if_neg hr]
      have : r = 0 := by omega
      subst this
      rw [vsum_nil]
      exact ⟨rfl, fun i hi => by rw [vsum_nil]; have := p.ge i hi; omega⟩
end Mine

-- part P2
open PySem PySem.W PyProof.Rows PySem.Calls
set_option Elab.async false
set_option linter.unusedVariables false
namespace Mine
set_option maxRecDepth 100000
set_option maxHeartbeats 16000000

/-- three figures that may stand at the head of an end -/
def okp (Wn : List Nat) (ba : List (List Nat)) (p : List Nat) : Bool := decide (p < Wn) && ba.all fun b => !(b.isPrefixOf p)
def chkM (pl : List Int) (Wn : List Nat) (ba : List (List Nat)) (m : Nat) : Bool :=
  (List.range 3).all fun a => (List.range 3).all fun b => (List.range 3).all fun c =>
     !(decide ((a : Int) * pl.getD (m - 1) 0 + (if 2 ≤ m then (b : Int) * pl.getD (m - 2) 0 else 0) + (if 3 ≤ m then (c : Int) * pl.getD (m - 3) 0 else 0) < pl.getD m 0)) || okp Wn ba ([a, b, c].take m)
structure Chk (pl : List Int) (Wn : List Nat) (ba : List (List Nat)) : Prop where
  p : Pos pl 12
  three : ∀ m, m < 12 → pl.getD (m + 1) 0 ≤ 3 * pl.getD m 0
  ok : ∀ m, m < 12 → chkM pl Wn ba (m + 1) = true
  w3 : ∀ x ∈ Wn, x < 3
  wl : Wn.length ≤ 3
  bl : ∀ b ∈ ba, b.length ≤ 3 ∧ 1 ≤ b.length ∧ ∀ x ∈ b, x < 3

theorem Chk.good {pl : List Int} {Wn : List Nat} {ba : List (List Nat)} (K : Chk pl Wn ba) {m : Nat} (hm : m < 12) {a b c : Nat} (ha : a < 3) (hb : b < 3) (hc : c < 3)
    (hv : (a : Int) * pl.getD m 0 + (if 2 ≤ m + 1 then (b : Int) * pl.getD (m + 1 - 2) 0 else 0) + (if 3 ≤ m + 1 then (c : Int) * pl.getD (m + 1 - 3) 0 else 0) < pl.getD (m + 1) 0) :
    okp Wn ba ([a, b, c].take (m + 1)) = true := by
  have h := K.ok m hm
  unfold chkM at h
  rw [List.all_eq_true] at h
  have h1 := h a (List.mem_range.mpr ha)
  rw [List.all_eq_true] at h1
  have h2 := h1 b (List.mem_range.mpr hb)
  rw [List.all_eq_true] at h2
  have h3 := h2 c (List.mem_range.mpr hc)
  rw [Nat.add_sub_cancel, decide_eq_true hv] at h3
  simpa using h3

theorem mul_lt3 {a p q : Int} (h : a * p < q) (h3 : q ≤ 3 * p) (hp : 1 ≤ p) : a < 3 := by
  rcases Int.lt_or_le a 3 with h' | h'
  · exact h'
  · have := Int.mul_le_mul_of_nonneg_right h' (Int.le_trans (by decide) hp)
    omega

section
variable {pl : List Int} {Wn : List Nat} {ba : List (List Nat)} {g : Int}
theorem Chk.val (K : Chk pl Wn ba) (g0 : 0 ≤ g) (g1 : g < pl.getD 12 0) :
    vsum (wrF pl 12 g.toNat g) pl 12 = g ∧ ∀ i, i ≤ 12 → vsum (wrF pl 12 g.toNat g) pl i < pl.getD i 0 := wr_val (sz := 12) K.p g.toNat g g0 (by omega) g1
theorem vsum_nonneg (K : Chk pl Wn ba) (ts : List Int) (i : Nat) (hi : i ≤ 12) : 0 ≤ vsum ts pl i := by
  have := vsum_mono K.p ts i 0 (Nat.zero_le _) hi
  rw [vsum] at this; exact this
theorem Chk.dig (K : Chk pl Wn ba) (g0 : 0 ≤ g) (g1 : g < pl.getD 12 0) (i : Nat) (hi : i < 12) : cntI (wrF pl 12 g.toNat g) (i : Int) < 3 := by
  have h := (K.val g0 g1).2 (i + 1) hi
  rw [vsum] at h
  have h0 := vsum_nonneg K (wrF pl 12 g.toNat g) i (by omega)
  exact mul_lt3 (by omega) (K.three i hi) (K.p.ge i (by omega))

/-- the figure at the k-th place from the left -/
def dgN (pl : List Int) (g : Int) (k : Nat) : Nat := (cntI (wrF pl 12 g.toNat g) (((11 - k : Nat) : Nat) : Int)).toNat
theorem dgN_cast (k : Nat) : (dgN pl g k : Int) = cntI (wrF pl 12 g.toNat g) (((11 - k : Nat) : Nat) : Int) := by
  unfold dgN; have := cntI_nonneg (wrF pl 12 g.toNat g) (((11 - k : Nat) : Nat) : Int); omega
theorem Chk.dgN3 (K : Chk pl Wn ba) (g0 : 0 ≤ g) (g1 : g < pl.getD 12 0) (k : Nat) : dgN pl g k < 3 := by
  have := K.dig g0 g1 (11 - k) (by omega)
  rw [← dgN_cast] at this; omega

theorem Chk.head (K : Chk pl Wn ba) (g0 : 0 ≤ g) (g1 : g < pl.getD 12 0) (s : Nat) (hs : s < 12) :
    okp Wn ba ([dgN pl g s, dgN pl g (s + 1), dgN pl g (s + 2)].take (12 - s)) = true := by
  have e : 12 - s = (11 - s) + 1 := by omega
  rw [e]
  have hV := (K.val g0 g1).2 (11 - s + 1) (by omega)
  have d0 := K.dgN3 g0 g1 s
  have d1 := K.dgN3 g0 g1 (s + 1)
  have d2 := K.dgN3 g0 g1 (s + 2)
  refine K.good (by omega) d0 d1 d2 ?_
  refine Int.lt_of_le_of_lt ?_ hV
  rw [vsum, ← dgN_cast (pl := pl) (g := g) s]
  by_cases h2 : 2 ≤ 11 - s + 1
  · rw [if_pos h2]
    have e1 : 11 - s = (11 - (s + 1)) + 1 := by omega
    have e2 : 11 - s + 1 - 2 = 11 - (s + 1) := by omega
    rw [e2]
    have q1 : vsum (wrF pl 12 g.toNat g) pl (11 - s) = vsum (wrF pl 12 g.toNat g) pl (11 - (s + 1)) + (dgN pl g (s + 1) : Int) * pl.getD (11 - (s + 1)) 0 := by
      rw [e1, vsum, dgN_cast]
    rw [q1]
    by_cases h3 : 3 ≤ 11 - s + 1
    · rw [if_pos h3]
      have e3 : 11 - (s + 1) = (11 - (s + 2)) + 1 := by omega
      have e4 : 11 - s + 1 - 3 = 11 - (s + 2) := by omega
      rw [e4]
      have q2 : vsum (wrF pl 12 g.toNat g) pl (11 - (s + 1)) = vsum (wrF pl 12 g.toNat g) pl (11 - (s + 2)) + (dgN pl g (s + 2) : Int) * pl.getD (11 - (s + 2)) 0 := by
        rw [e3, vsum, dgN_cast]
      rw [q2]
      have := vsum_nonneg K (wrF pl 12 g.toNat g) (11 - (s + 2)) (by omega)
      omega
    · rw [if_neg h3]
      have := vsum_nonneg K (wrF pl 12 g.toNat g) (11 - (s + 1)) (by omega)
      omega
  · rw [if_neg h2, if_neg (by omega)]
    have := vsum_nonneg K (wrF pl 12 g.toNat g) (11 - s) (by omega)
    omega
end

theorem lt_app : ∀ (p w r : List Nat), p < w → (w.length ≤ p.length ∨ r = []) → p ++ r < w
  | p, w, r, h, .inr e => by subst e; simpa using h
  | [], [], r, h, _ => absurd h (by simp)
  | [], b :: w, r, h, .inl e => absurd e (by simp)
  | a :: p, [], r, h, _ => absurd h (by simp)
  | a :: p, b :: w, r, h, .inl e => by
    rw [List.cons_append, List.cons_lt_cons_iff]
    rcases List.cons_lt_cons_iff.mp h with h2 | ⟨h1, h2⟩
    · exact .inl h2
    · exact .inr ⟨h1, lt_app p w r h2 (.inl (by simpa using e))⟩
theorem lt_map {f : Nat → Nat} (hf : ∀ a b, a < b → b < 3 → f a < f b) : ∀ (a b : List Nat), (∀ x ∈ b, x < 3) → a < b → a.map f < b.map f
  | a, [], _, h => absurd h (by simp)
  | [], b :: w, _, h => by simp
  | a :: p, b :: w, hb, h => by
    rw [List.map_cons, List.map_cons, List.cons_lt_cons_iff]
    rcases List.cons_lt_cons_iff.mp h with h2 | ⟨h1, h2⟩
    · exact .inl (hf _ _ h2 (hb _ (.head _)))
    · exact .inr ⟨by rw [h1], lt_map hf p w (fun x hx => hb x (.tail _ hx)) h2⟩

theorem pre_app : ∀ (b p r : List Nat), b.isPrefixOf (p ++ r) = true → (b.length ≤ p.length ∨ r = []) → b.isPrefixOf p = true
  | b, p, r, h, .inr e => by subst e; simpa using h
  | [], p, r, h, _ => by simp
  | a :: b, [], r, h, .inl e => absurd e (by simp)
  | a :: b, c :: p, r, h, .inl e => by
    rw [List.cons_append] at h
    simp only [List.isPrefixOf, Bool.and_eq_true] at h ⊢
    exact ⟨h.1, pre_app b p r h.2 (.inl (by simpa using e))⟩

theorem drop12 (d0 d1 d2 d3 d4 d5 d6 d7 d8 d9 d10 d11 : Nat) : ∀ s, s < 12 → [d0, d1, d2, d3, d4, d5, d6, d7, d8, d9, d10, d11].drop s =
    ([[d0, d1, d2, d3, d4, d5, d6, d7, d8, d9, d10, d11].getD s 0, [d0, d1, d2, d3, d4, d5, d6, d7, d8, d9, d10, d11].getD (s + 1) 0, [d0, d1, d2, d3, d4, d5, d6, d7, d8, d9, d10, d11].getD (s + 2) 0]).take (12 - s) ++ [d0, d1, d2, d3, d4, d5, d6, d7, d8, d9, d10, d11].drop (s + 3)
  | 0, _ | 1, _ | 2, _ | 3, _ | 4, _ | 5, _ | 6, _ | 7, _ | 8, _ | 9, _ | 10, _ | 11, _ => rfl
  | n + 12, h => absurd h (by omega)

/-- the twelve figures -/
def dgL (pl : List Int) (g : Int) : List Nat := (List.range 12).map (dgN pl g)
theorem dgL_drop (pl : List Int) (g : Int) (s : Nat) (hs : s < 12) : (dgL pl g).drop s = [dgN pl g s, dgN pl g (s + 1), dgN pl g (s + 2)].take (12 - s) ++ (dgL pl g).drop (s + 3) := by
  have e : dgL pl g = [dgN pl g 0, dgN pl g 1, dgN pl g 2, dgN pl g 3, dgN pl g 4, dgN pl g 5, dgN pl g 6, dgN pl g 7, dgN pl g 8, dgN pl g 9, dgN pl g 10, dgN pl g 11] := rfl
  have h := drop12 (dgN pl g 0) (dgN pl g 1) (dgN pl g 2) (dgN pl g 3) (dgN pl g 4) (dgN pl g 5) (dgN pl g 6) (dgN pl g 7) (dgN pl g 8) (dgN pl g 9) (dgN pl g 10) (dgN pl g 11) s hs
  rw [← e] at h
  rw [h]
  congr 1
  match s, hs with
  | 0, _ | 1, _ | 2, _ | 3, _ | 4, _ | 5, _ | 6, _ | 7, _ | 8, _ | 9, _ => rfl
  | 10, _ | 11, _ => rfl
  | n + 12, h => exact absurd h (by omega)

section
variable {pl : List Int} {Wn : List Nat} {ba : List (List Nat)} {g : Int}
theorem dgL_len : (dgL pl g).length = 12 := by simp [dgL]
theorem take_or (s : Nat) (hs : s < 12) (a b c : Nat) (n : Nat) (hn : n ≤ 3) : n ≤ ([a, b, c].take (12 - s)).length ∨ (dgL pl g).drop (s + 3) = [] := by
  by_cases h : s ≤ 9
  · left; rw [List.length_take]; show n ≤ min (12 - s) 3; omega
  · right; rw [List.drop_eq_nil_iff, dgL_len]; omega
theorem Chk.lt (K : Chk pl Wn ba) (g0 : 0 ≤ g) (g1 : g < pl.getD 12 0) (s : Nat) (hs : s < 12) : (dgL pl g).drop s < Wn := by
  have h := K.head g0 g1 s hs
  unfold okp at h
  rw [Bool.and_eq_true, decide_eq_true_eq] at h
  rw [dgL_drop pl g s hs]
  exact lt_app _ _ _ h.1 (take_or s hs _ _ _ _ K.wl)
theorem Chk.free (K : Chk pl Wn ba) (g0 : 0 ≤ g) (g1 : g < pl.getD 12 0) (s : Nat) (hs : s < 12) (b : List Nat) (hb : b ∈ ba) : b.isPrefixOf ((dgL pl g).drop s) = false := by
  have h := K.head g0 g1 s hs
  unfold okp at h
  rw [Bool.and_eq_true, List.all_eq_true] at h
  have h2 := h.2 b hb
  rw [dgL_drop pl g s hs]
  cases q : b.isPrefixOf ([dgN pl g s, dgN pl g (s + 1), dgN pl g (s + 2)].take (12 - s) ++ (dgL pl g).drop (s + 3)) with
  | false => rfl
  | true =>
    rw [pre_app _ _ _ q (take_or s hs _ _ _ _ (K.bl b hb).1)] at h2
    exact absurd h2 (by simp)
end
end Mine

-- part P3
open PySem PySem.W PyProof.Rows PySem.Calls
set_option Elab.async false
set_option linter.unusedVariables false
namespace Mine
set_option maxRecDepth 100000
set_option maxHeartbeats 16000000

def chS (S : Str) (i : Nat) : Nat := S.cps.toList.getD i 0
def strI (S : Str) (l : List Nat) : Str := ⟨(l.map (chS S)).toArray⟩
def wI (l : List Nat) : List Int := l.map fun x : Nat => (x : Int)
/-- three rising signs -/
structure SigOK (S : Str) : Prop where
  h : ∃ a b c : Nat, S = ⟨#[a, b, c]⟩ ∧ a < b ∧ b < c ∧ c < 128
theorem sig_sgS (j : Nat) : SigOK (sgS j) := by
  match j with
  | 0 => exact ⟨48, 49, 50, by decide +kernel, by decide, by decide, by decide⟩
  | 1 => exact ⟨10, 32, 97, by decide +kernel, by decide, by decide, by decide⟩
  | 2 => exact ⟨42, 91, 97, by decide +kernel, by decide, by decide, by decide⟩
  | n + 3 => exact ⟨32, 42, 92, by show Str.ofString " *\\" = _; decide +kernel, by decide, by decide, by decide⟩

theorem SigOK.s3 {S : Str} (h : SigOK S) : S.length = 3 := by obtain ⟨a, b, c, rfl, _⟩ := h.h; rfl
theorem SigOK.asc {S : Str} (h : SigOK S) : S.cps.all (· < 128) = true := by
  obtain ⟨a, b, c, rfl, h1, h2, h3⟩ := h.h
  simp
  omega
theorem SigOK.lt {S : Str} (h : SigOK S) : ∀ i j, i < j → j < 3 → chS S i < chS S j := by
  obtain ⟨a, b, c, rfl, h1, h2, h3⟩ := h.h
  intro i j hij hj
  match i, j, hij, hj with
  | 0, 1, _, _ => exact h1
  | 0, 2, _, _ => exact Nat.lt_trans h1 h2
  | 1, 2, _, _ => exact h2
  | _, 0, h, _ => exact absurd h (by omega)
  | n + 1, 1, h, _ => exact absurd h (by omega)
  | n + 2, 2, h, _ => exact absurd h (by omega)
  | _, n + 3, _, h => exact absurd h (by omega)
theorem SigOK.at {S : Str} (h : SigOK S) : ∀ i, i < 3 → S.cps[i]? = some (chS S i) := by
  obtain ⟨a, b, c, rfl, h1, h2, h3⟩ := h.h
  intro i hi
  match i, hi with
  | 0, _ => rfl
  | 1, _ => rfl
  | 2, _ => rfl
  | n + 3, h => exact absurd h (by omega)
theorem SigOK.inj {S : Str} (h : SigOK S) {i j : Nat} (hi : i < 3) (hj : j < 3) (e : chS S i = chS S j) : i = j := by
  rcases Nat.lt_trichotomy i j with q | q | q
  · have := h.lt i j q hj; omega
  · exact q
  · have := h.lt j i q hi; omega
theorem SigOK.before {S : Str} (h : SigOK S) (r : Nat) (hr : r < 3) : ∀ j, j < r → S.cps[j]? ≠ some (chS S r) := by
  intro j hj e
  rw [h.at j (by omega)] at e
  have := h.inj (by omega) hr (Option.some.inj e)
  omega
theorem strI_list (S : Str) (l : List Nat) : (strI S l).cps.toList = l.map (chS S) := by simp [strI]
theorem strI_len (S : Str) (l : List Nat) : (strI S l).length = l.length := by show (strI S l).cps.size = _; simp [strI]

theorem cfg_of {S : Str} (h : SigOK S) (l : List Nat) (h3 : ∀ x ∈ l, x < 3) (h1 : 1 ≤ l.length) (h2 : l.length ≤ 3) : Cfg S (strI S l) (wI l) where
  s3 := h.s3
  asc := h.asc
  sz := by rw [wI, List.length_map]; exact strI_len S l
  at' := by
    intro i c hc
    rw [← Array.getElem?_toList, strI_list, List.getElem?_map] at hc
    cases q : l[i]? with
    | none => rw [q] at hc; cases hc
    | some r =>
      rw [q] at hc
      have hc' : chS S r = c := Option.some.inj hc
      have hr : r < 3 := h3 r (List.mem_of_getElem? q)
      refine ⟨r, ?_, by rw [← hc']; exact h.at r hr, by rw [← hc']; exact h.before r hr⟩
      rw [List.getD_eq_getElem?_getD, wI, List.getElem?_map, q]; rfl
  wlo := by
    intro x hx
    obtain ⟨y, _, rfl⟩ := List.mem_map.mp hx
    omega
  whi := by
    intro x hx
    obtain ⟨y, hy, rfl⟩ := List.mem_map.mp hx
    have := h3 y hy
    omega
  len2 := by rw [wI, List.length_map]; exact h1
  len3 := by rw [wI, List.length_map]; exact h2

theorem foldl_chars (f : Nat → Nat) : ∀ (l : List Nat) (acc : Array Nat), ((l.map fun i => (⟨#[f i]⟩ : Str)).foldl (fun acc p => acc ++ (Str.ofString "").cps ++ p.cps) acc).toList = acc.toList ++ l.map f
  | [], acc => by simp
  | a :: l, acc => by
    rw [List.map_cons, List.foldl_cons, foldl_chars f l]
    have e : (Str.ofString "").cps = #[] := by decide +kernel
    rw [e]
    simp
theorem join_chars (f : Nat → Nat) (l : List Nat) : (Txt.join (Str.ofString "") (l.map fun i => (⟨#[f i]⟩ : Str))).cps.toList = l.map f := by
  show ((List.drop 1 (l.map fun i => (⟨#[f i]⟩ : Str))).foldl (fun acc p => acc ++ (Str.ofString "").cps ++ p.cps) ((l.map fun i => (⟨#[f i]⟩ : Str)).headD Str.empty).cps).toList = _
  cases l with
  | nil => rfl
  | cons a l =>
    rw [List.map_cons, List.drop_succ_cons, List.drop_zero, foldl_chars f l]
    simp
theorem item_sig {S : Str} (h : SigOK S) (d : Nat) (hd : d < 3) : Txt.item S (d : Int) = ⟨#[chS S d]⟩ := by
  obtain ⟨a, b, c, rfl, h1, h2, h3⟩ := h.h
  match d, hd with
  | 0, _ => rfl
  | 1, _ => rfl
  | 2, _ => rfl
  | n + 3, h => exact absurd h (by omega)

section
variable {S : Str} {pl : List Int} {Wn : List Nat} {ba : List (List Nat)} {g : Int}
theorem wrS_list (h : SigOK S) (K : Chk pl Wn ba) (g0 : 0 ≤ g) (g1 : g < pl.getD 12 0) : (wrS S pl 12 g).cps.toList = (dgL pl g).map (chS S) := by
  have e : (List.range (12 : Int).toNat).map (wch S (wrF pl 12 g.toNat g) 12) = (List.range 12).map fun i => (⟨#[chS S (dgN pl g i)]⟩ : Str) := by
    show (List.range 12).map _ = _
    apply List.map_congr_left
    intro i hi
    have hi' := List.mem_range.mp hi
    rw [wch, ← item_sig h (dgN pl g i) (K.dgN3 g0 g1 i), dgN_cast]
    congr 2
    omega
  unfold wrS
  rw [e, join_chars (fun i => chS S (dgN pl g i)), dgL, List.map_map]
  rfl
theorem wrS_len (h : SigOK S) (K : Chk pl Wn ba) (g0 : 0 ≤ g) (g1 : g < pl.getD 12 0) : (wrS S pl 12 g).length = 12 := by
  have e := congrArg List.length (wrS_list h K g0 g1)
  rw [List.length_map, dgL_len, Array.length_toList] at e
  exact e
end

theorem slice_list {x : Str} (i : Nat) (hi : i ≤ x.length) : (Txt.slice x (some (0 + (i : Int) * 1)) none).cps.toList = x.cps.toList.drop i := by
  rw [slice_from_eq (x := x) (i := 0 + (i : Int) * 1) (b := (x.length : Int)) (by omega) (by omega) rfl]
  have e1 : (0 + (i : Int) * 1).toNat = i := by omega
  have e2 : ((x.length : Int) - (0 + (i : Int) * 1)).toNat = x.length - i := by omega
  rw [e1, e2]
  show (x.cps.toList.drop i).take (x.length - i) = _
  rw [List.take_of_length_le]
  rw [List.length_drop, Array.length_toList]
  exact Nat.le_refl _
theorem argBest_le (bt : Nat → Nat → Bool) : ∀ k, argBest bt k ≤ k
  | 0 => Nat.le_refl _
  | k + 1 => by
    rw [argBest]
    split
    · exact Nat.le_refl _
    · exact Nat.le_succ_of_le (argBest_le bt k)

section
variable {S : Str} {pl : List Int} {Wn : List Nat} {ba : List (List Nat)} {g : Int}
theorem max_lt (h : SigOK S) (K : Chk pl Wn ba) (g0 : 0 ≤ g) (g1 : g < pl.getD 12 0) : (maxL (tailsN (wrS S pl 12 g) 12)).cps.toList < (strI S Wn).cps.toList := by
  have hl := wrS_list h K g0 g1
  have hn := wrS_len h K g0 g1
  generalize wrS S pl 12 g = x at hl hn
  have hlen : (tailsN x 12).length = 12 := by rw [tailsN, List.length_map, List.length_range]
  unfold maxL maxS
  rw [hlen]
  have hs := argBest_le (fun i j => decide (((tailsN x 12).getD j (Str.mk #[])).cps.toList < ((tailsN x 12).getD i (Str.mk #[])).cps.toList)) (12 - 1)
  generalize argBest _ (12 - 1) = s at hs
  have e : (tailsN x 12).getD s (Str.mk #[]) = Txt.slice x (some (0 + (s : Int) * 1)) none := by
    rw [tailsN, List.getD_eq_getElem?_getD, List.getElem?_map, List.getElem?_range (by omega)]
    rfl
  show ((tailsN x 12).getD s (Str.mk #[])).cps.toList < _
  rw [e, slice_list s (by omega), hl, strI_list, ← List.map_drop]
  exact lt_map h.lt _ _ K.w3 (K.lt g0 g1 s (by omega))

theorem map_inj (h : SigOK S) : ∀ (a b : List Nat), (∀ x ∈ a, x < 3) → (∀ x ∈ b, x < 3) → a.map (chS S) = b.map (chS S) → a = b
  | [], [], _, _, _ => rfl
  | [], b :: bs, _, _, e => by simp at e
  | a :: as, [], _, _, e => by simp at e
  | a :: as, b :: bs, ha, hb, e => by
    rw [List.map_cons, List.map_cons] at e
    injection e with e1 e2
    rw [h.inj (ha a (.head _)) (hb b (.head _)) e1, map_inj h as bs (fun x hx => ha x (.tail _ hx)) (fun x hx => hb x (.tail _ hx)) e2]
theorem isPrefixOf_take : ∀ (b l : List Nat), l.take b.length = b → b.isPrefixOf l = true
  | [], _, _ => by simp
  | a :: b, [], e => by simp at e
  | a :: b, c :: l, e => by
    rw [List.length_cons, List.take_succ_cons] at e
    injection e with e1 e2
    subst e1
    simp only [List.isPrefixOf, beq_self_eq_true, Bool.true_and]
    exact isPrefixOf_take b l e2
theorem no_sub (h : SigOK S) (K : Chk pl Wn ba) (g0 : 0 ≤ g) (g1 : g < pl.getD 12 0) (b : List Nat) (hb : b ∈ ba) : hasSub (wrS S pl 12 g) (strI S b) = false := by
  have hl := wrS_list h K g0 g1
  have hn := wrS_len h K g0 g1
  generalize wrS S pl 12 g = x at hl hn
  unfold hasSub
  rw [occ_nil_of_no]
  · rfl
  · intro i hi
    obtain ⟨b1, b2, b3⟩ := K.bl b hb
    rw [strI_len, hn] at hi
    cases q : Builtin.Str.subAt x (strI S b) i with
    | false => rfl
    | true =>
      exfalso
      unfold Builtin.Str.subAt at q
      have q1 := congrArg Array.toList (eq_of_beq q)
      rw [strI_list, strI_len, Array.toList_extract, hl] at q1
      have q2 : ((dgL pl g).drop i).take b.length = b := by
        refine map_inj h _ _ ?_ b3 ?_
        · intro y hy
          have hy2 := List.mem_of_mem_drop (List.mem_of_mem_take hy)
          obtain ⟨k, _, rfl⟩ := List.mem_map.mp hy2
          exact K.dgN3 g0 g1 k
        · rw [← q1, List.extract_eq_take_drop, List.map_take, List.map_drop]
          congr 1
          omega
      have := K.free g0 g1 i (by omega) b hb
      rw [isPrefixOf_take _ _ q2] at this
      cases this
end

theorem backF_eq (W : List Int) (g : Int) : ∀ k, k ≤ 12 → backF W g k = vsum (wrF (plF W 12) 12 g.toNat g) (plF W 12) 12 - vsum (wrF (plF W 12) 12 g.toNat g) (plF W 12) (12 - k)
  | 0, _ => by rw [backF]; simp
  | k + 1, h => by
    rw [backF, backF_eq W g k (by omega), dgF]
    have e1 : 12 - k = (11 - k) + 1 := by omega
    have e2 : 12 - (k + 1) = 11 - k := by omega
    have e3 : (12 : Int) - 1 - (k : Int) = ((11 - k : Nat) : Int) := by omega
    have ev : ∀ ts pl : List Int, vsum ts pl (11 - k + 1) = vsum ts pl (11 - k) + cntI ts ((11 - k : Nat) : Int) * pl.getD (11 - k) 0 := fun _ _ => by rw [vsum]
    rw [e1, e2, e3, ev]
    omega

theorem txOK_of {S ld : Str} {l : List Nat} {ba : List (List Nat)} {g : Int} (h : SigOK S) (K : Chk (plF (wI l) 12) l ba) (hld : ld = strI S l) (g0 : 0 ≤ g) (g1 : g < (plF (wI l) 12).getD 12 0)
    (hb : barF S ld (wI l) ((wI l).length - 1) = ba.map (strI S)) (pc : ∀ b ∈ barF S ld (wI l) ((wI l).length - 1), PieceOK b) :
    TxOK S ld (wI l) g (wrS S (plF (wI l) 12) 12 g) := by
  have hl := wrS_list h K g0 g1
  have hn := wrS_len h K g0 g1
  have edg : ∀ k, k < 12 → dgF (wI l) g k = (dgN (plF (wI l) 12) g k : Int) := by
    intro k hk
    rw [dgF, dgN_cast]
    congr 1
    omega
  refine ⟨hn, ?_, ?_, ?_, ?_, ?_, pc, ?_⟩
  · intro k hk
    have d3 := K.dgN3 g0 g1 k
    refine ⟨dgN (plF (wI l) 12) g k, chS S (dgN (plF (wI l) 12) g k), ?_, edg k hk, h.at _ d3, h.before _ d3⟩
    generalize wrS S (plF (wI l) 12) 12 g = x at hl hn
    unfold Txt.item Txt.charAt seqIndex?
    have e1 : 0 + (k : Int) * 1 = (k : Int) := by omega
    rw [e1]
    have e2 : ¬ (k : Int) < 0 := by omega
    have e3 : (decide (0 ≤ (k : Int)) && decide ((k : Int) < (x.length : Int))) = true := by rw [hn]; simp; omega
    simp only [if_neg e2, if_pos e3]
    rw [Int.toNat_natCast]
    show (⟨#[(x.cps[k]?).getD 0]⟩ : Str) = _
    rw [← Array.getElem?_toList, hl, List.getElem?_map, dgL, List.getElem?_map, List.getElem?_range hk]
    rfl
  · intro k hk; rw [edg k hk]; omega
  · intro k hk; rw [edg k hk]; have := K.dgN3 g0 g1 k; omega
  · rw [backF_eq _ _ 12 (Nat.le_refl _), (K.val g0 g1).1]
    show g - vsum _ _ 0 = g
    rw [vsum]; omega
  · unfold freeB
    rw [hb, List.all_eq_true]
    intro b hb'
    obtain ⟨c, hc, rfl⟩ := List.mem_map.mp hb'
    rw [no_sub h K g0 g1 c hc]; rfl
  · rw [hld]; exact max_lt h K g0 g1
end Mine

-- part P4
open PySem PySem.W PyProof.Rows PySem.Calls
set_option Elab.async false
set_option linter.unusedVariables false
namespace Mine
set_option maxRecDepth 100000
set_option maxHeartbeats 16000000

def leads : List (List Nat) := [[1, 1], [1, 0, 1], [1, 1, 1], [2], [2, 1], [2, 2], [2, 0, 1], [2, 0, 2], [2, 1, 1], [2, 1, 2], [2, 2, 1], [2, 2, 2]]
def barI (l : List Nat) : List (List Nat) :=
  l :: (List.range (l.length - 1)).flatMap fun i => ((List.range 3).filter fun s => decide (l.getD (i + 1) 0 < s) && decide (s ≤ l.getD 0 0)).map fun s => l.take (i + 1) ++ [s]
def ledB (l : List Nat) : Bool :=
  ((List.range 12).all fun i => decide ((plF (wI l) 12).getD i 0 ≤ (plF (wI l) 12).getD (i + 1) 0) && decide ((plF (wI l) 12).getD (i + 1) 0 ≤ 3 * (plF (wI l) 12).getD i 0) && chkM (plF (wI l) 12) l (barI l) (i + 1)) &&
  (decide ((plF (wI l) 12).getD 0 0 = 1) && ((l.all fun x => decide (x < 3)) && (decide (1 ≤ l.length) && (decide (l.length ≤ 3) &&
  (((barI l).all fun b => decide (b.length ≤ 3) && decide (1 ≤ b.length) && b.all fun x => decide (x < 3)) &&
  ((decide ((wI l).getD 0 0 = 1) || decide ((wI l).getD 0 0 = 2)) &&
  (((List.range 13).all fun i => (plF (wI l) i).all fun y => decide (0 ≤ y) && decide (y < 2 ^ 30)) &&
  decide ((plF (wI l) 12).getD 12 0 ≤ 1000000))))))))
theorem led_all : leads.all ledB = true := by decide +kernel

structure LedOK (l : List Nat) : Prop where
  chk : Chk (plF (wI l) 12) l (barI l)
  l1 : 1 ≤ l.length
  w0 : (wI l).getD 0 0 = 1 ∨ (wI l).getD 0 0 = 2
  pl : ∀ i, i ≤ 12 → ∀ y ∈ plF (wI l) i, 0 ≤ y ∧ y < 2 ^ 30
  p1 : (plF (wI l) 12).getD 12 0 ≤ 1000000
theorem mono_of {ns : List Int} (h : ∀ i, i < 12 → ns.getD i 0 ≤ ns.getD (i + 1) 0) : ∀ j i, i ≤ j → j ≤ 12 → ns.getD i 0 ≤ ns.getD j 0 := by
  intro j
  induction j with
  | zero => intro i h1 h2; have : i = 0 := by omega
            subst this; exact Int.le_refl _
  | succ j ih =>
    intro i h1 h2
    by_cases e : i = j + 1
    · subst e; exact Int.le_refl _
    · exact Int.le_trans (ih i (by omega) (by omega)) (h j (by omega))
theorem ledOK_of {l : List Nat} (h : ledB l = true) : LedOK l := by
  unfold ledB at h
  simp only [Bool.and_eq_true, Bool.or_eq_true, decide_eq_true_eq, List.all_eq_true, List.mem_range] at h
  obtain ⟨h1, h2, h3, h4, h5, h6, h7, h8, h9⟩ := h
  refine ⟨⟨⟨fun i j a b => mono_of (fun i hi => (h1 i hi).1.1) j i a b, h2, by decide⟩, fun m hm => (h1 m hm).1.2, fun m hm => (h1 m hm).2, h3, h5, fun b hb => ⟨(h6 b hb).1.1, (h6 b hb).1.2, (h6 b hb).2⟩⟩, h4, h7, fun i hi y hy => h8 i (by omega) y hy, h9⟩

def numN (l : List Nat) : Nat := ((plF (wI l) 12).getD (szN (wI l)) 0).toNat
def finB (S : Str) (l : List Nat) : Bool :=
  ((List.range 3).all fun i => decide ((barF S (strI S l) (wI l) i).length ≤ 10)) &&
  (((List.range (szN (wI l))).all fun i => decide ((txF S (wI l) (i + 1)).length ≤ 1000)) &&
  (decide ((txF S (wI l) (szN (wI l))).filter (freeB (barF S (strI S l) (wI l) ((wI l).length - 1))) = dueF S (strI S l) (wI l)) &&
  (((barF S (strI S l) (wI l) ((wI l).length - 1)).all fun b => decide (Txt.split (Str.ofString "..." ++ b ++ Str.ofString "...") (Str.ofString "...") = [Str.ofString "", b, Str.ofString ""]) &&
    (decide ((Builtin.Str.occurrences (Str.ofString "..." ++ b ++ Str.ofString "...") (Str.ofString "...") 0 (Str.ofString "..." ++ b ++ Str.ofString "...").length 1).isEmpty = false) && decide (b.length ≤ 100))) &&
  (((dueF S (strI S l) (wI l)).all PyData.strOk) &&
  (decide ((txF S (wI l) (szN (wI l))).length ≤ 1000) &&
  (decide ((plF (wI l) 12).getD (szN (wI l)) 0 = (numN l : Int)) &&
  (decide (numN l ≤ 100) &&
  (((List.range (numN l)).all fun i => (List.range (szN (wI l))).all fun j => decide (cntI (wrF (plF (wI l) 12) ((szN (wI l) : Nat) : Int) (i : Int).toNat (i : Int)) (((szN (wI l) : Nat) : Int) - 1 - (j : Int)) < 3)) &&
  (decide ((List.range (numN l)).map (fun i : Nat => wrS S (plF (wI l) 12) ((szN (wI l) : Nat) : Int) (i : Int)) = dueF S (strI S l) (wI l)) &&
  (decide ((dueF S (strI S l) (wI l)).length ≤ 100) &&
  (decide ((List.range (dueF S (strI S l) (wI l)).length).map (fun i : Nat => bisL (dueF S (strI S l) (wI l)) ((dueF S (strI S l) (wI l)).getD i (Str.mk #[])) (dueF S (strI S l) (wI l)).length 0 (dueF S (strI S l) (wI l)).length) = (List.range (numN l)).map (fun i : Nat => (i : Int))) &&
  decide (barF S (strI S l) (wI l) ((wI l).length - 1) = (barI l).map (strI S)))))))))))))
theorem fin_0_0 : finB (sgS 0) [1, 1] = true := by decide +kernel
theorem fin_0_1 : finB (sgS 0) [1, 0, 1] = true := by decide +kernel
theorem fin_0_2 : finB (sgS 0) [1, 1, 1] = true := by decide +kernel
theorem fin_0_3 : finB (sgS 0) [2] = true := by decide +kernel
theorem fin_0_4 : finB (sgS 0) [2, 1] = true := by decide +kernel
theorem fin_0_5 : finB (sgS 0) [2, 2] = true := by decide +kernel
theorem fin_0_6 : finB (sgS 0) [2, 0, 1] = true := by decide +kernel
theorem fin_0_7 : finB (sgS 0) [2, 0, 2] = true := by decide +kernel
theorem fin_0_8 : finB (sgS 0) [2, 1, 1] = true := by decide +kernel
theorem fin_0_9 : finB (sgS 0) [2, 1, 2] = true := by decide +kernel
theorem fin_0_10 : finB (sgS 0) [2, 2, 1] = true := by decide +kernel
theorem fin_0_11 : finB (sgS 0) [2, 2, 2] = true := by decide +kernel
theorem fin_1_0 : finB (sgS 1) [1, 1] = true := by decide +kernel
theorem fin_1_1 : finB (sgS 1) [1, 0, 1] = true := by decide +kernel
theorem fin_1_2 : finB (sgS 1) [1, 1, 1] = true := by decide +kernel
theorem fin_1_3 : finB (sgS 1) [2] = true := by decide +kernel
theorem fin_1_4 : finB (sgS 1) [2, 1] = true := by decide +kernel
theorem fin_1_5 : finB (sgS 1) [2, 2] = true := by decide +kernel
theorem fin_1_6 : finB (sgS 1) [2, 0, 1] = true := by decide +kernel
theorem fin_1_7 : finB (sgS 1) [2, 0, 2] = true := by decide +kernel
theorem fin_1_8 : finB (sgS 1) [2, 1, 1] = true := by decide +kernel
theorem fin_1_9 : finB (sgS 1) [2, 1, 2] = true := by decide +kernel
theorem fin_1_10 : finB (sgS 1) [2, 2, 1] = true := by decide +kernel
theorem fin_1_11 : finB (sgS 1) [2, 2, 2] = true := by decide +kernel
theorem fin_2_0 : finB (sgS 2) [1, 1] = true := by decide +kernel
theorem fin_2_1 : finB (sgS 2) [1, 0, 1] = true := by decide +kernel
theorem fin_2_2 : finB (sgS 2) [1, 1, 1] = true := by decide +kernel
theorem fin_2_3 : finB (sgS 2) [2] = true := by decide +kernel
theorem fin_2_4 : finB (sgS 2) [2, 1] = true := by decide +kernel
theorem fin_2_5 : finB (sgS 2) [2, 2] = true := by decide +kernel
theorem fin_2_6 : finB (sgS 2) [2, 0, 1] = true := by decide +kernel
theorem fin_2_7 : finB (sgS 2) [2, 0, 2] = true := by decide +kernel
theorem fin_2_8 : finB (sgS 2) [2, 1, 1] = true := by decide +kernel
theorem fin_2_9 : finB (sgS 2) [2, 1, 2] = true := by decide +kernel
theorem fin_2_10 : finB (sgS 2) [2, 2, 1] = true := by decide +kernel
theorem fin_2_11 : finB (sgS 2) [2, 2, 2] = true := by decide +kernel
theorem fin_3_0 : finB (sgS 3) [1, 1] = true := by decide +kernel
theorem fin_3_1 : finB (sgS 3) [1, 0, 1] = true := by decide +kernel
theorem fin_3_2 : finB (sgS 3) [1, 1, 1] = true := by decide +kernel
theorem fin_3_3 : finB (sgS 3) [2] = true := by decide +kernel
theorem fin_3_4 : finB (sgS 3) [2, 1] = true := by decide +kernel
theorem fin_3_5 : finB (sgS 3) [2, 2] = true := by decide +kernel
theorem fin_3_6 : finB (sgS 3) [2, 0, 1] = true := by decide +kernel
theorem fin_3_7 : finB (sgS 3) [2, 0, 2] = true := by decide +kernel
theorem fin_3_8 : finB (sgS 3) [2, 1, 1] = true := by decide +kernel
theorem fin_3_9 : finB (sgS 3) [2, 1, 2] = true := by decide +kernel
theorem fin_3_10 : finB (sgS 3) [2, 2, 1] = true := by decide +kernel
theorem fin_3_11 : finB (sgS 3) [2, 2, 2] = true := by decide +kernel
theorem fin_all : ∀ j, j < 4 → ∀ l ∈ leads, finB (sgS j) l = true := by
  intro j hj l hl
  simp only [leads, List.mem_cons, List.not_mem_nil, or_false] at hl
  match j, hj with
  | 0, _ =>
    rcases hl with rfl | rfl | rfl | rfl | rfl | rfl | rfl | rfl | rfl | rfl | rfl | rfl
    · exact fin_0_0
    · exact fin_0_1
    · exact fin_0_2
    · exact fin_0_3
    · exact fin_0_4
    · exact fin_0_5
    · exact fin_0_6
    · exact fin_0_7
    · exact fin_0_8
    · exact fin_0_9
    · exact fin_0_10
    · exact fin_0_11
  | 1, _ =>
    rcases hl with rfl | rfl | rfl | rfl | rfl | rfl | rfl | rfl | rfl | rfl | rfl | rfl
    · exact fin_1_0
    · exact fin_1_1
    · exact fin_1_2
    · exact fin_1_3
    · exact fin_1_4
    · exact fin_1_5
    · exact fin_1_6
    · exact fin_1_7
    · exact fin_1_8
    · exact fin_1_9
    · exact fin_1_10
    · exact fin_1_11
  | 2, _ =>
    rcases hl with rfl | rfl | rfl | rfl | rfl | rfl | rfl | rfl | rfl | rfl | rfl | rfl
    · exact fin_2_0
    · exact fin_2_1
    · exact fin_2_2
    · exact fin_2_3
    · exact fin_2_4
    · exact fin_2_5
    · exact fin_2_6
    · exact fin_2_7
    · exact fin_2_8
    · exact fin_2_9
    · exact fin_2_10
    · exact fin_2_11
  | 3, _ =>
    rcases hl with rfl | rfl | rfl | rfl | rfl | rfl | rfl | rfl | rfl | rfl | rfl | rfl
    · exact fin_3_0
    · exact fin_3_1
    · exact fin_3_2
    · exact fin_3_3
    · exact fin_3_4
    · exact fin_3_5
    · exact fin_3_6
    · exact fin_3_7
    · exact fin_3_8
    · exact fin_3_9
    · exact fin_3_10
    · exact fin_3_11
  | n + 4, h => exact absurd h (by omega)

/-- the row of three signs -/
def rowT (S : Str) (a b c : Nat) : Str := Txt.join (Str.ofString "") [Txt.item S a, Txt.item S b, Txt.item S c]
def perm6 : List Str → List (List Str)
  | [x, y, z] => [[x, y, z], [x, z, y], [y, x, z], [y, z, x], [z, x, y], [z, y, x]]
  | _ => []
def rowB (S R : Str) : Bool :=
  decide (R.length = 3) && (decide (perm6 (tailsF R) ≠ []) && (((perm6 (tailsF R)).all fun p => !sortedS p || decide (p = endsF R 3)) && (((endsF R 3).all PyData.strOk) &&
  (match endsF R 3 with
  | [e0, e1, e2] => decide (e2.length ≤ 3) && leads.any fun l => decide (leadF S e2 = strI S l)
  | _ => false))))
theorem row_0 : ((List.range 3).all fun a => (List.range 3).all fun b => (List.range 3).all fun c => rowB (sgS 0) (rowT (sgS 0) a b c)) = true := by decide +kernel
theorem row_1 : ((List.range 3).all fun a => (List.range 3).all fun b => (List.range 3).all fun c => rowB (sgS 1) (rowT (sgS 1) a b c)) = true := by decide +kernel
theorem row_2 : ((List.range 3).all fun a => (List.range 3).all fun b => (List.range 3).all fun c => rowB (sgS 2) (rowT (sgS 2) a b c)) = true := by decide +kernel
theorem row_3 : ((List.range 3).all fun a => (List.range 3).all fun b => (List.range 3).all fun c => rowB (sgS 3) (rowT (sgS 3) a b c)) = true := by decide +kernel
theorem row_all : ∀ j, j < 4 → ∀ a b c : Nat, a < 3 → b < 3 → c < 3 → rowB (sgS j) (rowT (sgS j) a b c) = true := by
  intro j hj a b c ha hb hc
  have key : ((List.range 3).all fun a => (List.range 3).all fun b => (List.range 3).all fun c => rowB (sgS j) (rowT (sgS j) a b c)) = true := by
    match j, hj with
    | 0, _ => exact row_0
    | 1, _ => exact row_1
    | 2, _ => exact row_2
    | 3, _ => exact row_3
    | n + 4, h => exact absurd h (by omega)
  rw [List.all_eq_true] at key
  have h1 := key a (List.mem_range.mpr ha)
  rw [List.all_eq_true] at h1
  have h2 := h1 b (List.mem_range.mpr hb)
  rw [List.all_eq_true] at h2
  exact h2 c (List.mem_range.mpr hc)
end Mine

-- part P5
open PySem PySem.W PyProof.Rows PySem.Calls
set_option Elab.async false
set_option linter.unusedVariables false
namespace Mine
set_option maxRecDepth 100000
set_option maxHeartbeats 16000000

theorem perm2 {b c y z : Str} (h : [b, c].Perm [y, z]) : [b, c] = [y, z] ∨ [b, c] = [z, y] := by
  have hb : b ∈ [y, z] := h.mem_iff.mp (.head _)
  simp only [List.mem_cons, List.not_mem_nil, or_false] at hb
  rcases hb with rfl | rfl
  · have h2 := h.cons_inv
    rw [List.perm_singleton] at h2
    left; rw [h2]
  · have h2 := (h.trans (List.Perm.swap b y [])).cons_inv
    rw [List.perm_singleton] at h2
    right; rw [h2]
theorem perm3 {p : List Str} {x y z : Str} (h : p.Perm [x, y, z]) : p ∈ perm6 [x, y, z] := by
  have hl := h.length_eq
  match p, hl with
  | [a, b, c], _ =>
    have ha : a ∈ [x, y, z] := h.mem_iff.mp (.head _)
    simp only [List.mem_cons, List.not_mem_nil, or_false] at ha
    simp only [perm6, List.mem_cons, List.not_mem_nil, or_false]
    rcases ha with rfl | rfl | rfl
    · rcases perm2 h.cons_inv with e | e
      · rw [e]; exact .inl rfl
      · rw [e]; exact .inr (.inl rfl)
    · have h2 := (h.trans (List.Perm.swap a x [z])).cons_inv
      rcases perm2 h2 with e | e
      · rw [e]; exact .inr (.inr (.inl rfl))
      · rw [e]; exact .inr (.inr (.inr (.inl rfl)))
    · have h2 := (h.trans ((List.Perm.cons x (List.Perm.swap a y [])).trans (List.Perm.swap a x [y]))).cons_inv
      rcases perm2 h2 with e | e
      · rw [e]; exact .inr (.inr (.inr (.inr (.inl rfl))))
      · rw [e]; exact .inr (.inr (.inr (.inr (.inr rfl))))

theorem szN_le (W : List Int) : szN W ≤ 12 ∧ 1 ≤ szN W := by unfold szN; split <;> decide
theorem grOK_of {S : Str} {l : List Nat} (h : SigOK S) (K : LedOK l) : GrOK S (wI l) where
  p0 := Int.lt_of_lt_of_le (by decide) (K.chk.p.ge 12 (Nat.le_refl _))
  p1 := K.p1
  good := fun g g0 g1 => K.chk.p.good g1
  cnt := fun g g0 g1 j hj => by
    have e : (12 : Int) - 1 - (j : Int) = ((11 - j : Nat) : Int) := by omega
    rw [e, h.s3]
    exact K.chk.dig g0 g1 (11 - j) (by omega)
theorem leadOK_of {S : Str} {l : List Nat} (h : SigOK S) (K : LedOK l) (f : finB S l = true) : LeadOK S (strI S l) (wI l) (numN l) := by
  unfold finB at f
  simp only [Bool.and_eq_true, decide_eq_true_eq, List.all_eq_true, List.mem_range] at f
  obtain ⟨f1, f2, f3, f4, f5, f6, f7, f8, f9, f10, f11, f12, f13⟩ := f
  have pc : ∀ b ∈ barF S (strI S l) (wI l) ((wI l).length - 1), PieceOK b := fun b hb => ⟨(f4 b hb).1, (f4 b hb).2.1, (f4 b hb).2.2⟩
  have ps : Pos (plF (wI l) 12) (szN (wI l)) := ⟨fun i j a b => K.chk.p.mono i j a (Nat.le_trans b (szN_le _).1), K.chk.p.one, (szN_le _).2⟩
  refine ⟨cfg_of h l K.chk.w3 K.l1 K.chk.wl, K.w0, K.pl, fun i hi => f1 i (by omega), f2, ⟨f3, pc, f5, f6⟩, ⟨f7, f8, ?_, ?_, f10, f5⟩, ⟨f7, f8, f11, f12⟩, grOK_of h K, ?_⟩
  · intro i hi
    exact ps.good (by rw [f7]; omega)
  · intro i hi j hj
    rw [h.s3]
    exact f9 i hi j (by omega)
  · intro g g0 g1
    exact txOK_of h K.chk rfl g0 g1 f13 pc

theorem rowS_eq (S : Str) (x0 x1 x2 : Int) : ∃ a b c : Nat, a < 3 ∧ b < 3 ∧ c < 3 ∧ rowS S x0 x1 x2 = rowT S a b c := by
  have key : ∀ x : Int, ((Int.fmod x 3).toNat : Int) = Int.fmod x 3 ∧ (Int.fmod x 3).toNat < 3 := by
    intro x
    have q0 := Int.emod_nonneg x (b := 3) (by decide)
    have q1 := Int.emod_lt_of_pos x (b := 3) (by decide)
    rw [Int.fmod_eq_emod_of_nonneg x (by decide)]
    omega
  refine ⟨_, _, _, (key x0).2, (key x1).2, (key x2).2, ?_⟩
  unfold rowT
  rw [(key x0).1, (key x1).1, (key x2).1]
  rfl

theorem plain_all : ∀ j, j < 4 → ∀ x0 x1 x2 : Int, 0 ≤ x0 → 0 ≤ x1 → 0 ≤ x2 → PlainOK (sgS j) (rowS (sgS j) x0 x1 x2) := by
  intro j hj x0 x1 x2 _ _ _
  obtain ⟨a, b, c, ha, hb, hc, e⟩ := rowS_eq (sgS j) x0 x1 x2
  rw [e]
  have h := row_all j hj a b c ha hb hc
  have hS := sig_sgS j
  have hF := fin_all j hj
  generalize rowT (sgS j) a b c = R at h
  generalize sgS j = S at h hS hF
  unfold rowB at h
  rw [Bool.and_eq_true, Bool.and_eq_true, Bool.and_eq_true, Bool.and_eq_true, decide_eq_true_eq, List.all_eq_true, List.all_eq_true] at h
  obtain ⟨h1, _, h3, h4, h5⟩ := h
  refine ⟨hS.s3, h1, ?_, h4, ?_⟩
  · split at h5
    · rename_i e0 e1 e2 he
      rw [Bool.and_eq_true, decide_eq_true_eq, List.any_eq_true] at h5
      obtain ⟨h6, l, hl, h7⟩ := h5
      rw [decide_eq_true_eq] at h7
      refine ⟨e0, e1, e2, he, h6, wI l, numN l, ?_⟩
      rw [h7]
      have hL := led_all
      rw [List.all_eq_true] at hL
      exact leadOK_of hS (ledOK_of (hL l hl)) (hF l hl)
    · cases h5
  · intro p hp hs
    have h6 := h3 p (perm3 hp)
    rw [hs] at h6
    simpa using h6
end Mine

-- part LawF
open PySem PySem.W PyProof.Rows PySem.Calls
set_option Elab.async false
set_option linter.unusedVariables false
namespace Mine
set_option maxRecDepth 100000
set_option maxHeartbeats 16000000
theorem kc_nine {cm : Str → Option Value} {n₁ n₂ n₃ n₄ n₅ n₆ n₇ n₈ n₉ : Str} {c₁ c₂ c₃ c₄ c₅ c₆ c₇ c₈ c₉ : Addr} {cells : List (Addr × Obj)} (x : CellsAre cm [(n₁, c₁), (n₂, c₂), (n₃, c₃), (n₄, c₄), (n₅, c₅), (n₆, c₆), (n₇, c₇), (n₈, c₈), (n₉, c₉)] cells) :
    ∃ o₁ o₂ o₃ o₄ o₅ o₆ o₇ o₈ o₉, cells = [(c₁, o₁), (c₂, o₂), (c₃, o₃), (c₄, o₄), (c₅, o₅), (c₆, o₆), (c₇, o₇), (c₈, o₈), (c₉, o₉)] ∧ o₁.data = .cell (cm n₁) ∧ o₂.data = .cell (cm n₂) ∧ o₃.data = .cell (cm n₃) ∧ o₄.data = .cell (cm n₄) ∧ o₅.data = .cell (cm n₅) ∧ o₆.data = .cell (cm n₆) ∧ o₇.data = .cell (cm n₇) ∧ o₈.data = .cell (cm n₈) ∧ o₉.data = .cell (cm n₉) := by
  cases x with | cons h r => obtain ⟨o₂, o₃, o₄, o₅, o₆, o₇, o₈, o₉, rfl, q⟩ := kc_eight r; exact ⟨_, o₂, o₃, o₄, o₅, o₆, o₇, o₈, o₉, rfl, h, q⟩

local macro_rules | `(tactic| cells_open $x:ident) => `(tactic| (obtain ⟨_, _, _, _, _, _, _, _, _, he, _, _, _, _, _, _, _, _, _⟩ := kc_nine $x; subst he))

theorem LawB.use {w : World} {T : Str → Scope → List Stmt → Prop} {name qual : Str} {params : Arguments} {body : List Stmt} {scope : Scope} {dV kV doc pm cdv ct oc : Value} {an od : Option Addr} {osl : Array (Option Value)}
    (h : LawB w T) (e : (Mine.hd.heap_39 w.params).lookup 100 = some ⟨oc, od, .func (fnOf name qual params body scope dV kV doc pm an cdv ct), osl⟩) : T name scope body := h _ _ _ _ _ _ _ _ _ _ _ _ _ _ _ e

theorem law_final : PySem.Challenge.rw_sw0037_01.Holds := hd (by
  k_go0
  rename Fr _ _ _ _ => F0
  rename News _ _ _ _ => N0
  rename Top _ _ _ _ _ _ => T0
  rename Frag.In _ _ => X0
  rename IntsAre _ _ => I0
  rename ¬ _ < _ => hlen
  rename Heap.IsList _ _ _ => L0
  refine LawB.use (segAll _ (ExcName.means _) _ _) (by with_unfolding_all rfl) _ _ _ _ _ _ _ _ _ _ _ _ _ _ _ _ _ _ _ _ ⟨X0, T0⟩ plain_all L0 I0 (by omega) (by with_unfolding_all rfl) F0 N0 (by assumption) (by assumption) (by assumption) (by assumption) (by assumption) (by assumption) (by assumption) (by assumption) (by assumption) ?_
  intro h' tk' m' F'
  k_steps)
end Mine

theorem PySem.Challenge.cw_sw0037_01_holds : PySem.Challenge.rw_sw0037_01.Holds := by
  exact Mine.law_final
