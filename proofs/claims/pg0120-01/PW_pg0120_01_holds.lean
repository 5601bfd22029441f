import PyProof.Rows.All
import Wide.All
import OpenK.AllK
import Wide.FinOn
import PySem.Challenge.RW_pg0120_01
open PySem PySem.W PyProof.Rows PySem.Calls
set_option Elab.async false
set_option maxRecDepth 100000
set_option maxHeartbeats 8000000
namespace Mine
open_top hd for PySem.Challenge.rw_pg0120_01
end Mine
namespace Mine

abbrev No : Value → Shared → Prop := fun _ _ => False
abbrev Ext (h h' : Heap) : Prop := ∀ b o, h.get? b = some o → h'.get? b = some o

theorem frExt {h₀ h h' : Heap} {L : Addr} {m : Str → Option Value} (F : Fr h₀ L h m) (e : Ext h h') : Fr h₀ L h' m :=
  ⟨F.ns.keeps e, fun b o q => e b o (F.keep b o q), F.above⟩
theorem newsExt {h₀ h h' : Heap} {L : Addr} {news : List (Addr × Obj)} (N : News h₀ L h news) (e : Ext h h') : News h₀ L h' news :=
  fun p hp => ⟨e _ _ (N p hp).1, (N p hp).2⟩

abbrev Ar (dp un : Nat) (fr : Option (List Env)) (gd : Option (List Code)) : Around := { handled := none, depth := dp, frames := fr, guards := gd, units := un }

def Halt (P : Prop) : Prop := P
theorem Halt.of {P : Prop} (h : Halt P) : P := h
theorem frSet {h₀ h : Heap} {L : Addr} {m : Str → Option Value} (F : Fr h₀ L h m) (k : Str) {v : Value} (e : m k = some v) : Fr h₀ L h (fun z => if z = k then some v else m z) := by
  have : (fun z => if z = k then some v else m z) = m := by
    funext z
    by_cases q : z = k
    · subst q; simp [e]
    · simp [q]
  rw [this]; exact F
def At (s : Shared) (L : Addr) (news : List (Addr × Obj)) (M : (Str → Option Value) → Str → Option Value) (s' : Shared) : Prop :=
  ∃ h' tk' u, s' = { s with heap := h', toks := tk' } ∧ Fr s.heap L h' (M u) ∧ News s.heap L h' news

theorem enter {w : World} {A : Around} {s : Shared} {K : Frag} {Q E : Value → Shared → Prop} {f : Addr} {vals : List Value} {name qual : Str} {params : Arguments} {body : List Stmt} {scope : Scope} {dV kV doc pm cdv ct oc : Value} {an od : Option Addr} {osl : Array (Option Value)} (binds : List (Str × Value))
    (X : K.In s.heap) (hlim : s.heap.NoLimit) (ho : K.lookup f = some ⟨oc, od, .func (fnOf name qual params body scope dV kV doc pm an cdv ct), osl⟩)
    (hcd : codeIn K cdv qual = true) (hroom : A.depth < recursionLimit)
    (hbind : BindsTo s (fnOf name qual params body scope dV kV doc pm an cdv ct) ⟨vals, []⟩ binds) (hloc : ∀ y ∈ binds, scope.names.lookup y.1 = some .local)
    (h : ∀ L h₁ tk, Fr s.heap L h₁ (fun y => binds.reverse.lookup y) → News s.heap L h₁ [] → s.toks ≤ tk →
      wpAny (model PySem.Challenge.rw_pg0120_01.row.prog w) (A.deeper (envOf qual scope L f cdv)) (execs body (envOf qual scope L f cdv))
        (fun fl s' => Q (match fl with | .ret v => v | _ => .none) s')
        No { s with heap := h₁, toks := tk })
    (hco : scope.isCoroutine = false) (hgen : scope.isGenerator = false) (hk : scope.kind = .function)
    (hcell : ∀ x ∈ scope.names, x.2 ≠ .cell) : wpAny (model PySem.Challenge.rw_pg0120_01.row.prog w) A (call (.ref f) vals) Q E s := by
  refine wpAny_call ?_
  refine codeAny_call_def (fd := fnOf name qual params body scope dV kV doc pm an cdv ct) (body := body) (binds := binds) hroom (X _ _ ho) rfl hlim (codeRec_of X hcd) rfl hbind hcell hloc (fun h₁ hns hk₁ => ?_) hco hgen hk
  refine wpAny_mono (h s.heap.objs.size h₁ _ ⟨hns, hk₁, Nat.le_refl _⟩ (fun p hp => nomatch hp) (Nat.le_add_right _ _)) (fun fl s' hl => ?_) fun _ _ y => y.elim
  cases fl <;> exact hl

def Less (I : Nat → Shared → Prop) (n : Nat) (s : Shared) : Prop := ∃ m, m < n ∧ I m s

section
variable {prog : Program} {w : World} {A : Around} {E : Value → Shared → Prop} {s : Shared} {env : Env}
theorem while_inv {test : Expr} {body : List Stmt} {pos : Pos} {Q : Flow → Shared → Prop} (I : Nat → Shared → Prop)
    (turn : ∀ n s, I n s → wpAny (model prog w) A (isTrue test env (eval test env)) (fun b s₂ =>
        if b then wpAny (model prog w) A (execs body env) (fun f s₃ => match f with
            | .next | .cont => Less I n s₃
            | .brk => Q .next s₃
            | .ret v => Q (.ret v) s₃) No s₂
        else Q .next s₂) No s)
    (n : Nat) (h : I n s) : wpAny (model prog w) A (exec (.While test body [] pos) env) Q E s := by
  refine wpAny_While (codeAny_whileLoop I (fun n s hI => ?_) n h)
  refine wpAny_mono (turn n s hI) (fun b s₂ h₂ => ?_) fun _ _ x => x.elim
  cases b with
  | true => exact wpAny_mono h₂ (fun f s₃ h₃ => by cases f <;> exact h₃) fun _ _ x => x.elim
  | false => exact wpAny_execs_nil h₂

def Tkd (n : Nat) (s : Shared) (P : Prop) : Prop := n ≤ s.toks → P
theorem while_invT {test : Expr} {body : List Stmt} {pos : Pos} {Q : Flow → Shared → Prop} (I : Nat → Shared → Prop)
    (turn : ∀ n s, I n s → wpAny (model prog w) A (isTrue test env (eval test env)) (fun b s₂ =>
        if b then wpAny (model prog w) A (execs body env) (fun f s₃ => match f with
            | .next | .cont => Tkd s.toks s₃ (Less I n s₃)
            | .brk => Q .next s₃
            | .ret v => Q (.ret v) s₃) No s₂
        else Q .next s₂) No s)
    (n : Nat) (h : I n s) : wpAny (model prog w) A (exec (.While test body [] pos) env) Q E s := by
  refine while_inv I (fun n s hI => ?_) n h
  refine wpAny_mono (wpAny_toks (turn n s hI)) (fun b s₂ h₂ => ?_) fun _ _ z => z.2
  cases b with
  | false => exact h₂.2
  | true =>
    refine wpAny_mono (wpAny_toks_of h₂.1 h₂.2) (fun f s₃ h₃ => ?_) fun _ _ z => z.2
    cases f with
    | next => exact h₃.2 h₃.1
    | cont => exact h₃.2 h₃.1
    | brk => exact h₃.2
    | ret v => exact h₃.2
def ItPost (prog : Program) (w : World) (A : Around) (env : Env) (target : Expr) (body : List Stmt) (Q : Flow → Shared → Prop) (it : Value) (s₂ : Shared) : Prop :=
  ∃ (I : Nat → Shared → Prop) (n : Nat), I n s₂ ∧ (∀ v, letOwnedTupleGo target it v = pure ()) ∧
    ∀ n s, I n s → wpAny (model prog w) A (pyNext it) (fun r s₁ => match r with
      | none => Q .next s₁
      | some v => wpAny (model prog w) A (assign target env v) (fun _ s₂ => wpAny (model prog w) A (execs body env) (fun f s₃ => match f with
          | .next | .cont => Less I n s₃
          | .brk => Q .next s₃
          | .ret v => Q (.ret v) s₃) No s₂) No s₁) No s

theorem for_inv {target iter : Expr} {body : List Stmt} {pos : Pos} {Q : Flow → Shared → Prop}
    (h : wpAny (model prog w) A (eval iter env) (fun x s₁ => wpAny (model prog w) A (pyIter x) (ItPost prog w A env target body Q) No s₁) No s)
    (hs : ∀ x, foldedSetIterable iter env x = pure x := by intro _; rfl) :
    wpAny (model prog w) A (exec (.For target iter body [] pos) env) Q E s := by
  refine wpAny_For (wpAny_mono h (fun x s₁ h₁ => wpAny_mono h₁ (fun it s₂ h₂ => ?_) fun _ _ x => x.elim) fun _ _ x => x.elim) hs
  obtain ⟨I, n, hI, ht, turn⟩ := h₂
  refine codeAny_forLoop I (fun n s hI => ?_) n hI ht
  refine wpAny_mono (turn n s hI) (fun r s₂ h₂ => ?_) fun _ _ x => x.elim
  cases r with
  | none => exact wpAny_execs_nil h₂
  | some v => exact wpAny_mono h₂ (fun _ s₃ h₃ => wpAny_mono h₃ (fun f s₄ h₄ => by cases f <;> exact h₄) fun _ _ x => x.elim) fun _ _ x => x.elim
end

def Nx (P : Shared → Prop) (f : Flow) (s : Shared) : Prop := f = .next ∧ P s
theorem seq_next {M : Model} {A : Around} {s : Shared} {env : Env} {st : Stmt} {rest : List Stmt} {Q : Flow → Shared → Prop} (P : Shared → Prop) (h1 : wpAny M A (exec st env) (Nx P) No s)
    (h2 : ∀ s', P s' → wpAny M A (execs rest env) Q No s') : wpAny M A (execs (st :: rest) env) Q No s := by
  refine wpAny_execs_cons (wpAny_mono h1 (fun f s' h => ?_) fun _ _ z => z)
  obtain ⟨rfl, hp⟩ := h
  exact h2 s' hp

theorem seq_ret {M : Model} {A : Around} {s : Shared} {env : Env} {st : Stmt} {rest : List Stmt} {Q : Flow → Shared → Prop} (P : Shared → Prop)
    (h1 : wpAny M A (exec st env) (fun f s' => match f with | .next => Halt (P s') | f => Q f s') No s)
    (h2 : ∀ s', P s' → wpAny M A (execs rest env) Q No s') : wpAny M A (execs (st :: rest) env) Q No s := by
  refine wpAny_execs_cons (wpAny_mono h1 (fun f s' h => ?_) fun _ _ z => z)
  cases f with
  | next => exact h2 s' h
  | _ => exact h

def subCost (x y : Str) : Int := if x == y then 0 else if Txt.lower x == Txt.lower y then 1 else 2

theorem sub_call {w : World} {dp un : Nat} {fr : Option (List Env)} {gd : Option (List Code)} {s : Shared} {Q E : Value → Shared → Prop} {mean mg mb} {x y : Str} {t u : Tok}
    (X : (hd.heap_39 w.params).In s.heap) (T : Top hd.view_39 (looseW hd.view_39 []) mean mg mb s.heap) (hx : x.length ≤ 1000) (hy : y.length ≤ 1000) (hroom : dp + 1 < recursionLimit) (hu : un + 8 < cLine)
    (hret : ∀ (t : Tok) (h' : Heap) (tk' : Nat), Ext s.heap h' → Q (.int (subCost x y) t) { s with heap := h', toks := tk' }) :
    wpAny (model PySem.Challenge.rw_pg0120_01.row.prog w) (Ar dp un fr gd) (call (.ref 42) [.str x t, .str y u]) Q E s := by
  revert X T
  w_top off
  k_fill
  intro X T
  refine' enter (K := hd.heap_39 w.params) [(Str.ofString "ch_a", .str x t), (Str.ofString "ch_b", .str y u)] X T.nolimit ?ho ?hcd ?hroom ?hbind ?hloc ?_ ?c1 ?c2 ?c3 ?c4
  case ho => k_is
  case hcd => k_is
  case hroom => show dp < recursionLimit; omega
  case hbind => exact BindsTo.of_eq rfl
  case hloc => exact locs rfl
  case c1 => rfl
  case c2 => rfl
  case c3 => rfl
  case c4 => decide
  intro L h₁ tk F N htk
  (try dsimp only)
  k_steps
  all_goals (try dsimp only)
  all_goals (refine (congrArg (fun z => Q (.int z _) _) ?_).mpr (hret _ _ _ F.keep))
  all_goals (simp only [subCost, *]; try rfl)
end Mine
namespace Mine

abbrev tl (x : Str) : List Nat := x.cps.toList
abbrev ms (l : List Nat) : Str := ⟨l.toArray⟩

theorem ms_tl (x : Str) : ms (tl x) = x := rfl
theorem tl_ms (l : List Nat) : tl (ms l) = l := rfl
theorem len_tl (x : Str) : (tl x).length = x.length := by simp [tl, Str.length]
theorem str_ext {x y : Str} (h : tl x = tl y) : x = y := by
  cases x; cases y; simp only [tl] at h; congr 1; exact Array.toList_inj.mp h
theorem beq_str (x y : Str) : (x == y) = decide (tl x = tl y) := by
  by_cases h : x = y
  · subst h; simp
  · have : tl x ≠ tl y := fun e => h (str_ext e)
    simp [h, this]

theorem slice_from {x : Str} {i : Int} (h0 : 0 ≤ i) (h2 : i ≤ x.length) : Txt.slice x (some i) none = ms ((tl x).drop i.toNat) := by
  rw [slice_from_eq h0 h2 rfl]
  congr 2
  apply List.take_of_length_le
  have := len_tl x
  simp only [List.length_drop, tl] at *
  omega
theorem slice_to_neg {x : Str} {j : Int} (h0 : j < 0) (h1 : -(x.length : Int) ≤ j) : Txt.slice x none (some j) = ms ((tl x).take (x.length - (-j).toNat)) := by
  have := beq_iff_eq.mp (slice_closes_to_neg (x := x) (j := j) h0 h1 rfl)
  rw [this]
  congr 2
  simp only [Int.toNat_zero, List.drop_zero]
  congr 1
  omega
theorem item_eq {x : Str} {i : Nat} {c : Nat} (h : (tl x)[i]? = some c) : Txt.item x (i : Int) = ms [c] := by
  have hl : i < x.length := by
    have := (List.getElem?_eq_some_iff.mp h).1
    rwa [len_tl] at this
  unfold Txt.item Txt.charAt seqIndex?
  have h1 : ¬ ((i : Int) < 0) := by omega
  simp only [h1, if_false]
  have h3 : x.cps[i]? = some c := by rw [← h]; simp [tl]
  simp [show (i : Int) < x.length by omega, h3, ms]
theorem slice_len {x : Str} {p : Nat} (h : p ≤ x.length) : (Txt.slice x (some (p : Int)) none).length = x.length - p := by
  rw [slice_from (by omega) (by omega)]
  have := len_tl x
  simp only [ms, Str.length, List.size_toArray, List.length_drop, Int.toNat_natCast] at *
  omega
theorem item_getD {x : Str} {p : Nat} (h : p < x.length) : Txt.item x (p : Int) = ms [(tl x).getD p 0] := by
  refine item_eq ?_
  have h' : p < (tl x).length := by rw [len_tl]; exact h
  simp [List.getD_eq_getElem?_getD, List.getElem?_eq_getElem h']
theorem drop_cons {l : List Nat} {p : Nat} (h : p < l.length) : l.drop p = l.getD p 0 :: l.drop (p + 1) := by
  rw [List.drop_eq_getElem_cons h]
  simp [List.getD_eq_getElem?_getD, List.getElem?_eq_getElem h]

theorem slice_all (x : Str) : Txt.slice x none none = x := by
  have h := slice_from (x := x) (i := 0) (by omega) (by omega)
  have e : Txt.slice x none none = Txt.slice x (some 0) none := by
    unfold Txt.slice Builtin.Str.strSliceIndices
    have : (max 0 (min (0 : Int) x.length)) = 0 := by omega
    simp [this]
  rw [e, h]; rfl
theorem slice_neg_len {x : Str} {j : Int} (h0 : j < 0) (h1 : -(x.length : Int) ≤ j) : ((Txt.slice x none (some j)).length : Int) = x.length + j := by
  rw [slice_to_neg h0 h1]
  have := len_tl x
  simp only [ms, Str.length, List.size_toArray, List.length_take] at *
  omega
theorem item_neg {x : Str} {q : Nat} (h : q < x.length) : Txt.item x (-(q : Int) - 1) = ms [(tl x).reverse.getD q 0] := by
  have := beq_iff_eq.mp (item_closes_neg (x := x) (i := -(q : Int) - 1) (j := -(q : Int) - 1 + x.length) (by omega) (by omega) rfl)
  rw [this]
  congr 3
  have e : (-(q : Int) - 1 + x.length).toNat = x.length - 1 - q := by omega
  rw [e]
  have hl := len_tl x
  have h' : q < (tl x).reverse.length := by simp only [List.length_reverse]; omega
  rw [List.getD_eq_getElem?_getD, List.getElem?_eq_getElem h', Option.getD_some, List.getElem_reverse]
  simp only [tl, Array.getD_eq_getD_getElem?]
  have h2 : x.length - 1 - q < x.cps.size := by unfold Str.length; unfold Str.length at h; omega
  rw [Array.getElem?_eq_getElem h2]
  simp [Str.length]

section
variable {prog : Program} {w : World} {A : Around} {E : Value → Shared → Prop} {s : Shared} {value slice : Expr} {x : Str} {t : Tok} {h₀ : Heap} {L : Addr} {m : Str → Option Value} {news : List (Addr × Obj)} {Q : Value → Shared → Prop}
theorem sl_nn (hF : Fr h₀ L s.heap m) (hN : News h₀ L s.heap news) (hsz : x.length ≤ 1000) (h : ∀ h' t' k, Fr h₀ L h' m → News h₀ L h' news → Q (.str x t') { s with heap := h', toks := k })
    (hs : subscripted slice false (.str x t) (.ref s.heap.objs.size) = operate [.ref s.heap.objs.size, .str x t] (getItem (.str x t) (.ref s.heap.objs.size)))
    (ht : ∀ r, letTemporaryGo value (.str x t) r = pure ()) :
    wpAny (model prog w) A (subscriptTail value slice (.str x t) (.ref s.heap.objs.size)) Q E { s with heap := s.heap.push { cls := .type "slice", data := .fields #[.none, .none, .none] } } :=
  slice_strN_nn hF hN (fun h' t' k a b => by rw [slice_all]; exact h h' t' k a b) hs ht (by unfold sizeLine; omega)
theorem sl_neg {j : Int} {uj : Tok} (hF : Fr h₀ L s.heap m) (hN : News h₀ L s.heap news) (hsz : x.length ≤ 1000) (h0 : j < 0) (h1 : -(x.length : Int) ≤ j)
    (h : ∀ h' t' k, Fr h₀ L h' m → News h₀ L h' news → ((Txt.slice x none (some j)).length : Int) = x.length + j → Q (.str (Txt.slice x none (some j)) t') { s with heap := h', toks := k })
    (hs : subscripted slice false (.str x t) (.ref s.heap.objs.size) = operate [.ref s.heap.objs.size, .str x t] (getItem (.str x t) (.ref s.heap.objs.size)))
    (ht : ∀ r, letTemporaryGo value (.str x t) r = pure ()) :
    wpAny (model prog w) A (subscriptTail value slice (.str x t) (.ref s.heap.objs.size)) Q E { s with heap := s.heap.push { cls := .type "slice", data := .fields #[.none, .int j uj, .none] } } :=
  slice_strN_ns hF hN (fun h' t' k a b => h h' t' k a b (slice_neg_len h0 h1)) hs ht (by unfold sizeLine; omega)
end

def cpl : List Nat → List Nat → Nat
  | a :: as, b :: bs => if a = b then cpl as bs + 1 else 0
  | _, _ => 0
theorem cpl_nil_left (l : List Nat) : cpl [] l = 0 := by unfold cpl; rfl
theorem cpl_nil_right (l : List Nat) : cpl l [] = 0 := by cases l <;> rfl
theorem cpl_drop_eq {a b : List Nat} {p : Nat} (ha : p < a.length) (hb : p < b.length) : cpl (a.drop p) (b.drop p) = if a.getD p 0 = b.getD p 0 then cpl (a.drop (p + 1)) (b.drop (p + 1)) + 1 else 0 := by
  rw [drop_cons ha, drop_cons hb]; rfl
theorem ms_one {a b : Nat} : (ms [a] == ms [b]) = decide (a = b) := by
  rw [beq_str]; simp [tl, ms]

def cost (b a : Nat) : Int := subCost (ms [b]) (ms [a])
def resOf (sub res r : Int) : Int := if sub < (if r < res then r else res) + 2 then sub else (if r < res then r else res) + 2
def cells (bc : Nat) : List Nat → List Int → Int → Int → Int → List Int × Int × Int
  | [], _, _, res, mn => ([], res, mn)
  | ac :: as, row, dist, res, mn =>
    let r := row.headD 0
    let res' := resOf (dist + cost bc ac) res r
    let out := cells bc as row.tail r res' (if res' < mn then res' else mn)
    (res' :: out.1, out.2)
def rowsF (a : List Nat) (mc : Int) : List Nat → Nat → List Int → Int → Int
  | [], _, _, res => res
  | bc :: bs, i, row, _ =>
    let out := cells bc a row (i * 2) (i * 2) 9223372036854775807
    if out.2.2 > mc then mc + 1 else rowsF a mc bs (i + 1) out.1 out.2.1
theorem cells_step {bc : Nat} {a : List Nat} {row ns dn : List Int} {dist res mn : Int} {i : Nat} (hi : i < a.length) (hn : i < ns.length) (hdn : dn.length = i) (hns : ns = dn ++ row.drop i) {R mn' : Int}
    (hR : R = resOf (dist + cost bc (a.getD i 0)) res (ns.getD i 0)) (hm : mn' = if R < mn then R else mn) :
    ns.set i R = (dn ++ [R]) ++ row.drop (i + 1) ∧
    (dn ++ (cells bc (a.drop i) (row.drop i) dist res mn).1, (cells bc (a.drop i) (row.drop i) dist res mn).2) =
      ((dn ++ [R]) ++ (cells bc (a.drop (i + 1)) (row.drop (i + 1)) (ns.getD i 0) R mn').1, (cells bc (a.drop (i + 1)) (row.drop (i + 1)) (ns.getD i 0) R mn').2) := by
  have hlr : (row.drop i).length ≠ 0 := by
    intro e
    rw [hns, List.length_append, e] at hn
    omega
  obtain ⟨r, rs, er⟩ : ∃ r rs, row.drop i = r :: rs := by
    cases q : row.drop i with
    | nil => rw [q] at hlr; exact absurd rfl hlr
    | cons r rs => exact ⟨r, rs, rfl⟩
  have e1 : row.drop (i + 1) = rs := by
    have : row.drop (i + 1) = (row.drop i).drop 1 := by rw [List.drop_drop]
    rw [this, er]; rfl
  have e2 : ns.getD i 0 = r := by
    rw [hns, er, List.getD_eq_getElem?_getD, List.getElem?_append_right (by omega), hdn]
    simp
  constructor
  · rw [hns, er, e1, List.set_append_right _ _ (by omega), hdn]
    simp
  · rw [drop_cons hi, er, e1, e2]
    rw [e2] at hR
    subst hR
    subst hm
    show (dn ++ (resOf (dist + cost bc (a.getD i 0)) res r :: (cells bc (a.drop (i + 1)) rs r _ _).1), (cells bc (a.drop (i + 1)) rs r _ _).2) = _
    rw [List.append_assoc]
    rfl
def row0 (a : List Nat) : List Int := (List.range a.length).map fun (i : Nat) => 2 + (i : Int) * 2
def levDP (a b : List Nat) (mc : Int) : Int :=
  if ((b.length : Int) - a.length) * 2 > mc then mc + 1 else rowsF a mc b 0 (row0 a) 0
def levMain (x y : List Nat) (mc : Int) : Int :=
  if x.length = 0 ∨ y.length = 0 then 2 * ((x.length : Int) + y.length) else
  if y.length < x.length then levDP y x mc else levDP x y mc
def levCut (x y : List Nat) (mc : Int) : Int :=
  let d := cpl x.reverse y.reverse
  levMain (x.take (x.length - d)) (y.take (y.length - d)) mc
def lev (x y : List Nat) (mc : Int) : Int :=
  if x = y then 0 else levCut (x.drop (cpl x y)) (y.drop (cpl x y)) mc
end Mine
namespace Mine
abbrev ritObj (i n : Nat) : Obj := { cls := .type "range_iterator", dict := none, data := .fields #[rawInt (i : Int), rawInt ((n : Int) - (i : Int)), rawInt 1], slots := #[] }

def Step (h₀ : Heap) (L : Addr) (s : Shared) (it : Addr) (o : Obj) (as : List Addr) (P : (Str → Option Value) → List (Addr × Obj) → Prop) (s' : Shared) : Prop :=
  ∃ h' tk' m' news' more, s' = { s with heap := h', toks := tk' } ∧ Fr h₀ L h' m' ∧ News h₀ L h' ((it, o) :: (news' ++ more)) ∧ news'.map (·.1) = as ∧ P m' news'

section
variable {prog : Program} {w : World} {A : Around} {s : Shared} {env : Env} {h₀ : Heap} {x : Str} {body : List Stmt} {Q : Flow → Shared → Prop}

theorem newsSame {h h' : Heap} {L it : Addr} {news : List (Addr × Obj)} (N : News h₀ L h news) (hs : Heap.SameBut it h h') (hne : ∀ p ∈ news, p.1 ≠ it) : News h₀ L h' news :=
  fun p hp => ⟨(hs.2 _ (hne p hp)).trans (N p hp).1, (N p hp).2⟩
theorem frSame {h h' : Heap} {L it : Addr} {m : Str → Option Value} (F : Fr h₀ L h m) (hs : Heap.SameBut it h h') (hL : it ≠ L) (h0 : h₀.get? it = none) : Fr h₀ L h' m :=
  ⟨F.ns.sameBut hs (Ne.symm hL), fun b o e => (hs.2 b fun q => by subst q; rw [h0] at e; cases e).trans (F.keep b o e), F.above⟩
theorem frExtBut {h h' : Heap} {L it : Addr} {m : Str → Option Value} (F : Fr h₀ L h m) (hs : Heap.ExtBut it h h') (hL : it ≠ L) (h0 : h₀.get? it = none) : Fr h₀ L h' m :=
  ⟨F.ns.extBut hs (Ne.symm hL), fun b o e => hs b o (fun q => by subst q; rw [h0] at e; cases e) (F.keep b o e), F.above⟩
theorem newsExtBut {h h' : Heap} {L it : Addr} {news : List (Addr × Obj)} (N : News h₀ L h news) (hs : Heap.ExtBut it h h') (hne : ∀ p ∈ news, p.1 ≠ it) : News h₀ L h' news :=
  fun p hp => ⟨hs _ _ (hne p hp) (N p hp).1, (N p hp).2⟩
theorem frStore {h h' : Heap} {L : Addr} {m m' : Str → Option Value} (F : Fr h₀ L h m) (hs : Heap.SameBut L h h') (hn : h'.Ns L m') : Fr h₀ L h' m' :=
  ⟨hn, fun b o e => (hs.2 b fun q => by subst q; exact absurd (Heap.lt_size e) (Nat.not_lt.mpr F.above)).trans (F.keep b o e), F.above⟩
theorem newsStore {h h' : Heap} {L : Addr} {news : List (Addr × Obj)} (N : News h₀ L h news) (hs : Heap.SameBut L h h') : News h₀ L h' news :=
  fun p hp => ⟨(hs.2 _ (N p hp).2.1).trans (N p hp).1, (N p hp).2⟩

theorem range_loop {m₀ : Str → Option Value} {news₀ : List (Addr × Obj)} {r : Addr} {n : Nat} {b : Int} {px : Pos} {t u v : Tok} (P : Nat → (Str → Option Value) → List (Addr × Obj) → Prop)
    (hh : A.handled = none) (hx : env.kindOf x = some .local) (hp : (env.scope.kind == .class || (env.scope.kind == .module && env.locals != env.globals)) = false)
    (hr : s.heap.get? r = some { cls := .type "range", data := .fields #[.int 0 t, .int b u, .int 1 v] }) (hb : b = (n : Int)) (hn : n < 1000000)
    (F : Fr h₀ env.locals s.heap m₀) (N : News h₀ env.locals s.heap news₀) (h0 : P 0 m₀ news₀)
    (turn : ∀ (i : Nat) (tk : Tok) (m : Str → Option Value) (news : List (Addr × Obj)) (h : Heap) (tk' : Nat) (it : Addr), i < n → P i m news → news.map (·.1) = news₀.map (·.1) → (∀ a ∈ news₀.map (·.1), a < it) →
      Fr h₀ env.locals h (fun y => if y = x then some (.int (i : Int) tk) else m y) → News h₀ env.locals h ((it, ritObj (i + 1) n) :: news) →
      wpAny (model prog w) A (execs body env) (fun f s₃ => match f with
        | .next | .cont => Step h₀ env.locals s it (ritObj (i + 1) n) (news₀.map (·.1)) (P (i + 1)) s₃
        | .brk => Q .next s₃
        | .ret v => Q (.ret v) s₃) No { s with heap := h, toks := tk' })
    (done : ∀ (m : Str → Option Value) (news : List (Addr × Obj)) (h : Heap) (tk : Nat), P n m news → Fr h₀ env.locals h m → News h₀ env.locals h news → Q .next { s with heap := h, toks := tk }) :
    wpAny (model prog w) A (pyIter (.ref r)) (ItPost prog w A env (.Name x px) body Q) No s := by
  subst hb
  have hsz : Builtin.Range.rangeSize 0 (n : Int) 1 = (n : Int) := by rw [rangeSize_one]; split <;> omega
  refine wpAny_pyIter_range hr (small_one (by omega) (by omega) (by omega) (by omega)) ?_
  rw [hsz]
  generalize hit : s.heap.objs.size = it
  have hItL : it ≠ env.locals := fun e => absurd F.ns.lt (by rw [← e, ← hit]; exact Nat.lt_irrefl _)
  have hIt0 : h₀.get? it = none := Heap.get?_none_of_le (by rw [← hit]; exact Nat.le_trans F.above (Nat.le_of_lt F.ns.lt))
  have hlt : ∀ a ∈ news₀.map (·.1), a < it := by
    intro a ha
    obtain ⟨p, hp', rfl⟩ := List.mem_map.mp ha
    rw [← hit]; exact Heap.lt_size (N p hp').1
  refine ⟨fun k s' => ∃ i h' tk' m news more, s' = { s with heap := h', toks := tk' } ∧ Fr h₀ env.locals h' m ∧ News h₀ env.locals h' ((it, ritObj i n) :: (news ++ more)) ∧ news.map (·.1) = news₀.map (·.1) ∧ P i m news ∧ i ≤ n ∧ k = n - i,
    n, ⟨0, _, s.toks, m₀, news₀, [], rfl, F.push _, ?_, rfl, h0, Nat.zero_le _, rfl⟩, fun _ => rfl, ?_⟩
  · intro p hp'
    rcases List.mem_cons.mp hp' with rfl | hp'
    · refine ⟨?_, hItL, hIt0⟩
      have : (s.heap.push { cls := .type "range_iterator", data := .fields #[rawInt 0, rawInt (n : Int), rawInt 1] }).get? s.heap.objs.size = some { cls := .type "range_iterator", data := .fields #[rawInt 0, rawInt (n : Int), rawInt 1] } := Heap.get?_push_size _ rfl
      rw [hit] at this
      simpa [ritObj] using this
    · rw [List.append_nil] at hp'
      exact ⟨Heap.get?_push_of_some _ (N p hp').1, (N p hp').2⟩
  · rintro k s' ⟨i, h', tk', m, news, more, rfl, F', N', hmap, hP, hi, rfl⟩
    have hne : ∀ p ∈ news, p.1 ≠ it := fun p hp' e => absurd (hlt p.1 (hmap ▸ List.mem_map_of_mem hp')) (by rw [e]; exact Nat.lt_irrefl _)
    have Nn : News h₀ env.locals h' news := fun p hp' => N' p (List.mem_cons_of_mem _ (List.mem_append_left _ hp'))
    have hiter := (N' (it, ritObj i n) List.mem_cons_self).1
    by_cases hlt' : i < n
    · refine wpAny_pyNext_range_item (it := it) (x := (i : Int)) (left := (n : Int) - (i : Int)) (step := 1) hiter (by omega) fun h₁ hit₁ hs₁ => ?_
      have F₁ := frSame F' hs₁ hItL hIt0
      have N₁ := newsSame Nn hs₁ hne
      refine wpAny_assign_Name (wpAny_storeName_local hx F₁.ns (fun h₂ hn₂ hs₂ => ?_) hp)
      have F₂ := frStore F₁ hs₂ hn₂
      have N₂ := newsStore N₁ hs₂
      have e1 : (i : Int) + 1 = ((i + 1 : Nat) : Int) := by omega
      have e2 : (n : Int) - (i : Int) - 1 = (n : Int) - ((i + 1 : Nat) : Int) := by omega
      have hit₂ : h₂.get? it = some (ritObj (i + 1) n) := by
        refine (hs₂.2 it hItL).trans ?_
        rw [e1, e2] at hit₁
        exact hit₁
      have N₃ : News h₀ env.locals h₂ ((it, ritObj (i + 1) n) :: news) := by
        intro p hp'
        rcases List.mem_cons.mp hp' with rfl | hp'
        · exact ⟨hit₂, hItL, hIt0⟩
        · exact N₂ p hp'
      refine wpAny_mono (turn i _ m news h₂ _ it hlt' hP hmap hlt F₂ N₃) (fun f s₃ h₃ => ?_) fun _ _ e => e
      have fin : Step h₀ env.locals s it (ritObj (i + 1) n) (news₀.map (·.1)) (P (i + 1)) s₃ → Less (fun k s' => ∃ i h' tk' m news more, s' = { s with heap := h', toks := tk' } ∧ Fr h₀ env.locals h' m ∧ News h₀ env.locals h' ((it, ritObj i n) :: (news ++ more)) ∧ news.map (·.1) = news₀.map (·.1) ∧ P i m news ∧ i ≤ n ∧ k = n - i) (n - i) s₃ := by
        rintro ⟨h'', tk'', m'', news'', more'', e, F'', N'', hm'', hP''⟩
        exact ⟨n - (i + 1), by omega, i + 1, h'', tk'', m'', news'', more'', e, F'', N'', hm'', hP'', hlt', rfl⟩
      cases f with
      | next => exact fin h₃
      | cont => exact fin h₃
      | brk => exact h₃
      | ret v => exact h₃
    · have hin : i = n := by omega
      subst hin
      refine wpAny_pyNext_range_end hh hiter (by omega) fun h₁ he₁ => ?_
      exact done m news h₁ tk' hP (frExtBut F' he₁ hItL hIt0) (newsExtBut Nn he₁ hne)
end

theorem ints_set : ∀ {vs : List Value} {ns : List Int}, IntsAre vs ns → ∀ (k : Nat) (n : Int) (t : Tok), IntsAre (vs.set k (.int n t)) (ns.set k n)
  | _, _, .nil, _, _, _ => .nil
  | _, _, .cons _ _ h, 0, n, t => .cons n t h
  | _, _, .cons a b h, k + 1, n, t => .cons a b (ints_set h k n t)
theorem setL_eq : ∀ (l : List Value) (k : Nat) (v : Value), k < l.length → ki_setL l k v = some (l.set k v)
  | [], _, _, h => absurd h (Nat.not_lt_zero _)
  | _ :: _, 0, _, _ => rfl
  | _ :: r, k + 1, v, h => by
    unfold ki_setL
    rw [setL_eq r k v (Nat.lt_of_succ_lt_succ h)]
    rfl

section
variable {prog : Program} {w : World} {A : Around} {E : Value → Shared → Prop} {s : Shared} {h₀ : Heap} {L D : Addr} {m : Str → Option Value} {news news' : List (Addr × Obj)}
theorem row_set {k : Nat} {t : Tok} {x : Int} {tx : Tok} {vs : List Value} {ns : List Int} {c : Nat} {Q : Unit → Shared → Prop} (F : Fr h₀ L s.heap m) (N : News h₀ L s.heap news) (hi : IntsAre vs ns) (hk : k < ns.length) (hl : ns.length < 1000)
    (U : Upd D (listOf vs.toArray c) (listOf (vs.set k (.int x tx)).toArray c) news news')
    (h : ∀ h', Fr h₀ L h' m → News h₀ L h' news' → IntsAre (vs.set k (.int x tx)) (ns.set k x) → Q () { s with heap := h' }) : wpAny (model prog w) A (setItem (.ref D) (.int (k : Int) t) (.int x tx)) Q E s := by
  have hlen := hi.length
  refine ki_set F N (by omega) (by omega) ?_ U fun h' F' N' => h h' F' N' (ints_set hi k x tx)
  rw [Int.toNat_natCast]
  exact setL_eq _ _ _ (by show k < vs.length; omega)
theorem row_get {value slice : Expr} {k : Nat} {u : Tok} {vs : List Value} {ns : List Int} {Q : Value → Shared → Prop} (hl : s.heap.IsList D vs.toArray) (hi : IntsAre vs ns)
    (hk : k < ns.length) (hn : ns.length < 1000) (h : ∀ t, Q (.int (ns.getD k 0) t) s)
    (hs : subscripted slice false (.ref D) (.int (k : Int) u) = operate [.ref D, .int (k : Int) u] (getItem (.ref D) (.int (k : Int) u))) (hg : ∀ r, letTemporaryGo value (.ref D) r = pure ()) :
    wpAny (model prog w) A (subscriptTail value slice (.ref D) (.int (k : Int) u)) Q E s :=
  item_list_ints hl hi (by omega) (by omega) (by omega) (fun t => by rw [Int.toNat_natCast]; exact h t) hs hg

theorem rangeSize_two (n : Nat) (h : 0 < n) : Builtin.Range.rangeSize 2 (2 * ((n : Int) + 1)) 2 = (n : Int) := by
  unfold Builtin.Range.rangeSize
  rw [if_pos (by decide), if_pos (by omega)]
  omega
theorem small_two (n : Nat) (h : 0 < n) (hn : n < 1000) : Builtin.Range.small 2 (2 * ((n : Int) + 1)) 2 = true := by
  unfold Builtin.Range.small
  rw [rangeSize_two n h]
  rw [if_pos (show (2 : Int) > 0 by decide)]
  have fit : ∀ k : Int, -100000 < k → k < 100000 → Builtin.Range.rangeFitsLong k = true := by
    intro k h1 h2
    unfold Builtin.Range.rangeFitsLong
    rw [Bool.and_eq_true, decide_eq_true_eq, decide_eq_true_eq]
    omega
  rw [fit 2 (by omega) (by omega), fit (2 * ((n : Int) + 1)) (by omega) (by omega), fit (n : Int) (by omega) (by omega), fit (2 * ((n : Int) + 1) + (2 - 1)) (by omega) (by omega)]
  simp
theorem list_range2 {Q : Value → Shared → Prop} {r : Addr} {n : Nat} {t u v : Tok} (hh : A.handled = none) (F : Fr h₀ L s.heap m) (N : News h₀ L s.heap news)
    (hr : IsRange s.heap r 2 (2 * ((n : Int) + 1)) 2 t u v) (h0 : 0 < n) (hn : n < 1000)
    (hQ : ∀ D h' tk (ys : List Value) (c : Nat), Fr h₀ L h' m → News h₀ L h' ((D, listOf ys.toArray c) :: news) → (∀ p ∈ news, p.1 < D) → IntsAre ys ((List.range n).map fun (i : Nat) => 2 + (i : Int) * 2) → Q (.ref D) { s with heap := h', toks := tk }) :
    wpAny (model prog w) A (call (.type "list") [.ref r]) Q E s := by
  refine list_rangeD hh F N hr (small_two n h0 hn) (rangeSize_two n h0) (by omega) fun h' tk ys F' N' hk h0' hl hp hc => ?_
  obtain ⟨⟨c, hS⟩, hne⟩ := hp
  refine hQ _ h' tk ys c F' ?_ (fun p hp => Heap.lt_size (N p hp).1) (IntsAre.ofCarried hc)
  intro p hp
  rcases List.mem_cons.mp hp with rfl | hp
  · exact ⟨hS, fun e => absurd F.ns.lt (by rw [← e]; exact Nat.lt_irrefl _), h0'⟩
  · exact N' p hp
end
end Mine
namespace Mine
abbrev M1 (x y : Str) (mc : Int) (t u v : Tok) (p : Int) (tp : Tok) (z : Str → Option Value) : Str → Option Value := fun k =>
  if k = Str.ofString "pre" then some (.int p tp) else if k = Str.ofString "a" then some (.str x t) else if k = Str.ofString "b" then some (.str y u) else if k = Str.ofString "max_cost" then some (.int mc v) else z k

def W1 (s : Shared) (L : Addr) (x y : Str) (mc : Int) (t u v : Tok) (n : Nat) (s' : Shared) : Prop :=
  ∃ (p : Nat) (tp : Tok), At s L [] (M1 x y mc t u v p tp) s' ∧ p ≤ x.length ∧ p ≤ y.length ∧ cpl (tl x) (tl y) = p + cpl ((tl x).drop p) ((tl y).drop p) ∧ n = x.length - p
def E1 (s : Shared) (L : Addr) (x y : Str) (mc : Int) (t u v : Tok) (f : Flow) (s' : Shared) : Prop :=
  f = .next ∧ ∃ tp, At s L [] (M1 x y mc t u v (cpl (tl x) (tl y)) tp) s'

abbrev M2 (x y : Str) (mc : Int) (t u v : Tok) (p : Int) (tp : Tok) (z : Str → Option Value) : Str → Option Value := fun k =>
  if k = Str.ofString "post" then some (.int p tp) else if k = Str.ofString "a" then some (.str x t) else if k = Str.ofString "b" then some (.str y u) else if k = Str.ofString "max_cost" then some (.int mc v) else z k
def W2 (s : Shared) (L : Addr) (x y : Str) (mc : Int) (t u v : Tok) (n : Nat) (s' : Shared) : Prop :=
  ∃ (q : Nat) (tp : Tok), At s L [] (M2 x y mc t u v (-(q : Int)) tp) s' ∧ q ≤ x.length ∧ q ≤ y.length ∧ cpl (tl x).reverse (tl y).reverse = q + cpl ((tl x).reverse.drop q) ((tl y).reverse.drop q) ∧ n = x.length - q
def E2 (s : Shared) (L : Addr) (x y : Str) (mc : Int) (t u v : Tok) (f : Flow) (s' : Shared) : Prop :=
  f = .next ∧ ∃ tp, At s L [] (M2 x y mc t u v (-(cpl (tl x).reverse (tl y).reverse : Int)) tp) s'
theorem cut_neg {x : Str} {q : Nat} (h : q ≤ x.length) (hq : ¬ q = 0) : Txt.slice x none (some (-(q : Int))) = ms ((tl x).take (x.length - q)) := by
  rw [slice_to_neg (by omega) (by omega)]
  congr 3
  omega
theorem cut_zero {x : Str} {q : Nat} (hq : q = 0) : x = ms ((tl x).take (x.length - q)) := by
  subst hq
  have : (tl x).take (x.length - 0) = tl x := List.take_of_length_le (by rw [len_tl]; omega)
  rw [this]
theorem cut_len (x : Str) (q : Nat) : (ms ((tl x).take (x.length - q))).length = x.length - q := by
  have := len_tl x
  show (List.toArray _).size = _
  simp only [List.size_toArray, List.length_take]
  omega
theorem strEq {a b : Str} {t : Tok} (e : a = b) : some (Value.str a t) = some (Value.str b t) := by rw [e]
theorem cpl_le_left (a b : List Nat) : cpl a b ≤ a.length := by
  induction a generalizing b with
  | nil => simp [cpl_nil_left]
  | cons x a ih =>
    cases b with
    | nil => simp [cpl_nil_right]
    | cons y b =>
      unfold cpl
      have := ih b
      split <;> simp only [List.length_cons] <;> omega
theorem cpl_le_right (a b : List Nat) : cpl a b ≤ b.length := by
  induction a generalizing b with
  | nil => simp [cpl_nil_left]
  | cons x a ih =>
    cases b with
    | nil => simp [cpl_nil_right]
    | cons y b =>
      unfold cpl
      have := ih b
      split <;> simp only [List.length_cons] <;> omega
theorem lev_eq {x y : Str} {mc : Int} (h : (x == y) = false) :
    let x1 := Txt.slice x (some (↑(cpl (tl x) (tl y)) : Int)) none
    let y1 := Txt.slice y (some (↑(cpl (tl x) (tl y)) : Int)) none
    let d := cpl (tl x1).reverse (tl y1).reverse
    lev (tl x) (tl y) mc = levMain (tl (ms ((tl x1).take (x1.length - d)))) (tl (ms ((tl y1).take (y1.length - d)))) mc := by
  have hc1 := cpl_le_left (tl x) (tl y)
  have hc2 := cpl_le_right (tl x) (tl y)
  rw [len_tl] at hc1 hc2
  rw [slice_from (by omega) (by omega), slice_from (by omega) (by omega)]
  rw [beq_str] at h
  have h' := of_decide_eq_false h
  unfold lev
  rw [if_neg h']
  unfold levCut
  simp only [tl_ms, Int.toNat_natCast]
  rw [← len_tl, ← len_tl, tl_ms, tl_ms]
theorem levMain_nil {x y : Str} {mc : Int} (h : x.length = 0 ∨ y.length = 0) : levMain (tl x) (tl y) mc = 2 * ((x.length : Int) + y.length) := by
  unfold levMain
  rw [len_tl, len_tl, if_pos h]
theorem levMain_le {x y : Str} {mc : Int} (hx : x.length ≠ 0) (hy : y.length ≠ 0) (h : ¬ y.length < x.length) : levMain (tl x) (tl y) mc = levDP (tl x) (tl y) mc := by
  unfold levMain
  rw [len_tl, len_tl, if_neg (by omega), if_neg h]
theorem levMain_gt {x y : Str} {mc : Int} (hx : x.length ≠ 0) (hy : y.length ≠ 0) (h : y.length < x.length) : levMain (tl x) (tl y) mc = levDP (tl y) (tl x) mc := by
  unfold levMain
  rw [len_tl, len_tl, if_neg (by omega), if_pos h]
theorem levDP_gt {a b : Str} {mc : Int} (h : ((b.length : Int) - a.length) * 2 > mc) : levDP (tl a) (tl b) mc = mc + 1 := by
  unfold levDP
  rw [len_tl, len_tl, if_pos h]
theorem levDP_le {a b : Str} {mc : Int} (h : ¬ ((b.length : Int) - a.length) * 2 > mc) : levDP (tl a) (tl b) mc = rowsF (tl a) mc (tl b) 0 (row0 (tl a)) 0 := by
  unfold levDP
  rw [len_tl, len_tl, if_neg h]
abbrev M4 (a b : Str) (mc res : Int) (D : Addr) (ta tb tm tr : Tok) (z : Str → Option Value) : Str → Option Value := fun k =>
  if k = Str.ofString "result" then some (.int res tr) else if k = Str.ofString "row" then some (.ref D) else if k = Str.ofString "a" then some (.str a ta) else if k = Str.ofString "b" then some (.str b tb) else if k = Str.ofString "max_cost" then some (.int mc tm) else z k
def P4 (a b : Str) (mc : Int) (D : Addr) (ta tb tm : Tok) (c : Nat) (j : Nat) (m : Str → Option Value) (news : List (Addr × Obj)) : Prop :=
  ∃ z res tr vs ns, m = M4 a b mc res D ta tb tm tr z ∧ news = [(D, listOf vs.toArray c)] ∧ IntsAre vs ns ∧ ns.length = a.length ∧ rowsF (tl a) mc ((tl b).drop j) j ns res = rowsF (tl a) mc (tl b) 0 (row0 (tl a)) 0
abbrev M3 (a b bc : Str) (mc dist res mn : Int) (j : Int) (D : Addr) (ta tb tm td tr tn tc tj : Tok) (z : Str → Option Value) : Str → Option Value := fun k =>
  if k = Str.ofString "minimum" then some (.int mn tn) else if k = Str.ofString "result" then some (.int res tr) else if k = Str.ofString "distance" then some (.int dist td) else if k = Str.ofString "bchar" then some (.str bc tc) else if k = Str.ofString "bindex" then some (.int j tj) else
  if k = Str.ofString "row" then some (.ref D) else if k = Str.ofString "a" then some (.str a ta) else if k = Str.ofString "b" then some (.str b tb) else if k = Str.ofString "max_cost" then some (.int mc tm) else z k
def P3 (a b : Str) (bc : Nat) (mc : Int) (j : Nat) (D it1 : Addr) (o1 : Obj) (ta tb tm tc tj : Tok) (c : Nat) (row : List Int) (i : Nat) (m : Str → Option Value) (news : List (Addr × Obj)) : Prop :=
  ∃ z dist res mn td tr tn vs ns dn, m = M3 a b (ms [bc]) mc dist res mn j D ta tb tm td tr tn tc tj z ∧ news = [(it1, o1), (D, listOf vs.toArray c)] ∧ IntsAre vs ns ∧ ns.length = a.length ∧ dn.length = i ∧ ns = dn ++ row.drop i ∧
    (dn ++ (cells bc ((tl a).drop i) (row.drop i) dist res mn).1, (cells bc ((tl a).drop i) (row.drop i) dist res mn).2) = cells bc (tl a) row (j * 2) (j * 2) 9223372036854775807
theorem p3_step {s0 : Shared} {g : Heap} {L : Addr} {a b : Str} {bc : Nat} {mc : Int} {j : Nat} {D it1 it2 : Addr} {o1 o2 : Obj} {ta tb tm tc tj : Tok} {c : Nat} {row ns dn : List Int} {i : Nat} {dist res mn R mn' : Int} {td tr tn : Tok}
    {h' : Heap} {tk' : Nat} {m' : Str → Option Value} {vs' : List Value} (hi : i < a.length) (hlen : ns.length = a.length) (hdn : dn.length = i) (hns : ns = dn ++ row.drop i)
    (hcells : (dn ++ (cells bc ((tl a).drop i) (row.drop i) dist res mn).1, (cells bc ((tl a).drop i) (row.drop i) dist res mn).2) = cells bc (tl a) row (j * 2) (j * 2) 9223372036854775807)
    (F : Fr g L h' m') (N : News g L h' [(it2, o2), (it1, o1), (D, listOf vs'.toArray c)]) (hI : IntsAre vs' (ns.set i R))
    (hR : R = resOf (dist + subCost (ms [bc]) (Txt.item a (i : Int))) res (ns.getD i 0)) (hm : mn' = if R < mn then R else mn)
    (f1 : m' (Str.ofString "minimum") = some (.int mn' tn)) (f2 : m' (Str.ofString "result") = some (.int R tr)) (f3 : m' (Str.ofString "distance") = some (.int (ns.getD i 0) td)) (f4 : m' (Str.ofString "bchar") = some (.str (ms [bc]) tc)) (f5 : m' (Str.ofString "bindex") = some (.int j tj))
    (f6 : m' (Str.ofString "row") = some (.ref D)) (f7 : m' (Str.ofString "a") = some (.str a ta)) (f8 : m' (Str.ofString "b") = some (.str b tb)) (f9 : m' (Str.ofString "max_cost") = some (.int mc tm)) :
    Step g L s0 it2 o2 [it1, D] (P3 a b bc mc j D it1 o1 ta tb tm tc tj c row (i + 1)) { s0 with heap := h', toks := tk' } := by
  rw [item_getD hi] at hR
  have hl := len_tl a
  obtain ⟨e1, e2⟩ := cells_step (bc := bc) (a := tl a) (row := row) (ns := ns) (dn := dn) (dist := dist) (res := res) (mn := mn) (i := i) (by omega) (by omega) hdn hns hR hm
  refine ⟨h', tk', _, [(it1, o1), (D, listOf vs'.toArray c)], [], rfl, frSet (frSet (frSet (frSet (frSet (frSet (frSet (frSet (frSet F (Str.ofString "max_cost") f9) (Str.ofString "b") f8) (Str.ofString "a") f7) (Str.ofString "row") f6) (Str.ofString "bindex") f5) (Str.ofString "bchar") f4) (Str.ofString "distance") f3) (Str.ofString "result") f2) (Str.ofString "minimum") f1, N, rfl, ?_⟩
  refine ⟨_, _, _, _, _, _, _, vs', ns.set i R, dn ++ [R], rfl, rfl, hI, ?_, ?_, e1, ?_⟩
  · rw [List.length_set]; exact hlen
  · rw [List.length_append, hdn]; rfl
  · rw [← e2]; exact hcells
theorem rows_step {a b : Str} {mc : Int} {i : Nat} {ns ns2 dn : List Int} {res dist res2 mn : Int} (hi : i < b.length) (hlen : ns.length = a.length) (hdn : dn.length = a.length) (hns : ns2 = dn ++ ns.drop a.length)
    (hcells : (dn ++ (cells ((tl b).getD i 0) ((tl a).drop a.length) (ns.drop a.length) dist res2 mn).1, (cells ((tl b).getD i 0) ((tl a).drop a.length) (ns.drop a.length) dist res2 mn).2) = cells ((tl b).getD i 0) (tl a) ns (i * 2) (i * 2) 9223372036854775807) :
    rowsF (tl a) mc ((tl b).drop i) i ns res = if mn > mc then mc + 1 else rowsF (tl a) mc ((tl b).drop (i + 1)) (i + 1) ns2 res2 := by
  have h1 := len_tl a
  have h2 := len_tl b
  rw [List.drop_eq_nil_of_le (as := tl a) (by omega)] at hcells
  rw [List.drop_eq_nil_of_le (as := ns) (by omega), List.append_nil] at hns
  simp only [cells, List.append_nil] at hcells
  subst hns
  rw [drop_cons (by omega)]
  have e : ∀ (bc : Nat) (bs : List Nat), rowsF (tl a) mc (bc :: bs) i ns res = if (cells bc (tl a) ns (i * 2) (i * 2) 9223372036854775807).2.2 > mc then mc + 1 else rowsF (tl a) mc bs (i + 1) (cells bc (tl a) ns (i * 2) (i * 2) 9223372036854775807).1 (cells bc (tl a) ns (i * 2) (i * 2) 9223372036854775807).2.1 := fun _ _ => rfl
  rw [e, ← hcells]
theorem lev_same {x y : Str} {mc : Int} (h : (x == y) = true) : lev (tl x) (tl y) mc = 0 := by
  rw [beq_str] at h
  unfold lev
  rw [if_pos (of_decide_eq_true h)]
theorem row0_len (a : Str) : (row0 (tl a)).length = a.length := by
  unfold row0
  simp only [List.length_map, List.length_range, len_tl]
theorem lev_i1 (a : Str) : (List.map (fun (i : Nat) => 2 + (i : Int) * 2) (List.range a.length)).length = a.length := by simp
theorem lev_i2 (a b : Str) (mc : Int) : rowsF (tl a) mc ((tl b).drop 0) 0 (List.map (fun (i : Nat) => 2 + (i : Int) * 2) (List.range a.length)) 0 = rowsF (tl a) mc (tl b) 0 (row0 (tl a)) 0 := by
  unfold row0
  rw [len_tl]
  rfl
theorem w1_end {s : Shared} {L : Addr} {x y : Str} {mc : Int} {t u v : Tok} {p : Nat} {tp : Tok} {s' : Shared} (h3 : cpl (tl x) (tl y) = p + cpl ((tl x).drop p) ((tl y).drop p))
    (hz : cpl ((tl x).drop p) ((tl y).drop p) = 0) (a : At s L [] (M1 x y mc t u v p tp) s') : E1 s L x y mc t u v .next s' := by
  refine ⟨rfl, tp, ?_⟩
  rw [h3, hz, Nat.add_zero]
  exact a
theorem w1_zx {x y : Str} {p : Nat} (h : p ≤ x.length) (e : (Txt.slice x (some (p : Int)) none).length = 0) : cpl ((tl x).drop p) ((tl y).drop p) = 0 := by
  rw [slice_len h] at e
  have := len_tl x
  rw [List.drop_eq_nil_of_le (by omega), cpl_nil_left]
theorem w1_zy {x y : Str} {p : Nat} (h : p ≤ y.length) (e : (Txt.slice y (some (p : Int)) none).length = 0) : cpl ((tl x).drop p) ((tl y).drop p) = 0 := by
  rw [slice_len h] at e
  have := len_tl y
  rw [List.drop_eq_nil_of_le (as := tl y) (by omega), cpl_nil_right]
theorem w1_zi {x y : Str} {p : Nat} (hx : p ≤ x.length) (hy : p ≤ y.length) (ex : (Txt.slice x (some (p : Int)) none).length ≠ 0) (ey : (Txt.slice y (some (p : Int)) none).length ≠ 0)
    (e : (Txt.item x (p : Int) == Txt.item y (p : Int)) = false) : cpl ((tl x).drop p) ((tl y).drop p) = 0 := by
  rw [slice_len hx] at ex
  rw [slice_len hy] at ey
  have h1 := len_tl x
  have h2 := len_tl y
  rw [item_getD (by omega), item_getD (by omega), ms_one] at e
  rw [cpl_drop_eq (by omega) (by omega), if_neg (of_decide_eq_false e)]
theorem w1_turn {s : Shared} {L : Addr} {x y : Str} {mc : Int} {t u v : Tok} {p : Nat} {tp : Tok} {s' : Shared} (h3 : cpl (tl x) (tl y) = p + cpl ((tl x).drop p) ((tl y).drop p))
    (hx : p ≤ x.length) (hy : p ≤ y.length) (ex : (Txt.slice x (some (p : Int)) none).length ≠ 0) (ey : (Txt.slice y (some (p : Int)) none).length ≠ 0)
    (e : (Txt.item x (p : Int) == Txt.item y (p : Int)) = true) (a : At s L [] (M1 x y mc t u v (p + 1 : Int) tp) s') : Less (W1 s L x y mc t u v) (x.length - p) s' := by
  rw [slice_len hx] at ex
  rw [slice_len hy] at ey
  have h1 := len_tl x
  have h2 := len_tl y
  rw [item_getD (by omega), item_getD (by omega), ms_one] at e
  rw [cpl_drop_eq (by omega) (by omega), if_pos (of_decide_eq_true e)] at h3
  refine ⟨x.length - (p + 1), by omega, p + 1, tp, ?_, by omega, by omega, by omega, rfl⟩
  have : ((p + 1 : Nat) : Int) = (p : Int) + 1 := by omega
  rw [this]
  exact a

theorem w2_end {s : Shared} {L : Addr} {x y : Str} {mc : Int} {t u v : Tok} {q : Nat} {tp : Tok} {s' : Shared} (h3 : cpl (tl x).reverse (tl y).reverse = q + cpl ((tl x).reverse.drop q) ((tl y).reverse.drop q))
    (hz : cpl ((tl x).reverse.drop q) ((tl y).reverse.drop q) = 0) (a : At s L [] (M2 x y mc t u v (-(q : Int)) tp) s') : E2 s L x y mc t u v .next s' := by
  refine ⟨rfl, tp, ?_⟩
  rw [h3, hz, Nat.add_zero]
  exact a
theorem w2_zx {x y : Str} {q : Nat} (h : x.length ≤ q) : cpl ((tl x).reverse.drop q) ((tl y).reverse.drop q) = 0 := by
  have := len_tl x
  rw [List.drop_eq_nil_of_le (by simp only [List.length_reverse]; omega), cpl_nil_left]
theorem w2_zy {x y : Str} {q : Nat} (h : y.length ≤ q) : cpl ((tl x).reverse.drop q) ((tl y).reverse.drop q) = 0 := by
  have := len_tl y
  rw [List.drop_eq_nil_of_le (as := (tl y).reverse) (by simp only [List.length_reverse]; omega), cpl_nil_right]
theorem w2_zi {x y : Str} {q : Nat} (hx : q < x.length) (hy : q < y.length)
    (e : (Txt.item x (-(q : Int) - 1) == Txt.item y (-(q : Int) - 1)) = false) : cpl ((tl x).reverse.drop q) ((tl y).reverse.drop q) = 0 := by
  have h1 := len_tl x
  have h2 := len_tl y
  rw [item_neg hx, item_neg hy, ms_one] at e
  rw [cpl_drop_eq (by simp only [List.length_reverse]; omega) (by simp only [List.length_reverse]; omega), if_neg (of_decide_eq_false e)]
theorem w2_turn {s : Shared} {L : Addr} {x y : Str} {mc : Int} {t u v : Tok} {q : Nat} {tp : Tok} {s' : Shared} (h3 : cpl (tl x).reverse (tl y).reverse = q + cpl ((tl x).reverse.drop q) ((tl y).reverse.drop q))
    (hx : q < x.length) (hy : q < y.length)
    (e : (Txt.item x (-(q : Int) - 1) == Txt.item y (-(q : Int) - 1)) = true) (a : At s L [] (M2 x y mc t u v (-(q : Int) - 1) tp) s') : Less (W2 s L x y mc t u v) (x.length - q) s' := by
  have h1 := len_tl x
  have h2 := len_tl y
  rw [item_neg hx, item_neg hy, ms_one] at e
  rw [cpl_drop_eq (by simp only [List.length_reverse]; omega) (by simp only [List.length_reverse]; omega), if_pos (of_decide_eq_true e)] at h3
  refine ⟨x.length - (q + 1), by omega, q + 1, tp, ?_, by omega, by omega, by omega, rfl⟩
  have : (-((q + 1 : Nat) : Int)) = -(q : Int) - 1 := by omega
  rw [this]
  exact a

local macro_rules | `(tactic| walk_at "subscriptTail Name Slice str ref") => `(tactic| ((with_reducible show wpAny _ _ (subscriptTail _ (Expr.Slice none (some _) none _) _ _) _ _ _); (with_reducible rename Fr _ _ _ _ => F'); (with_reducible rename News _ _ _ _ => N'); (refine sl_neg (s := ⟨_, _, _, _, _⟩) F' N' (by omega) (by omega) (by omega) ?_ (by with_unfolding_all rfl) (by intro _; with_unfolding_all rfl)); (clear F' N'); intro _ _ _ _ _ _; (try dsimp only)))
local macro_rules | `(tactic| walk_at "subscriptTail Name Slice str ref") => `(tactic| ((with_reducible show wpAny _ _ (subscriptTail _ (Expr.Slice none (some _) none _) _ _) _ _ _); (with_reducible rename Fr _ _ _ _ => F'); (with_reducible rename News _ _ _ _ => N'); (refine sl_nn (s := ⟨_, _, _, _, _⟩) F' N' (by omega) ?_ (by with_unfolding_all rfl) (by intro _; with_unfolding_all rfl)); (clear F' N'); intro _ _ _ _ _; (try dsimp only)))
local macro_rules | `(tactic| walk_at "call type:list") => `(tactic| ((with_reducible show wpAny _ _ (call (Value.type _) [Value.ref _]) _ _ _); (rename IsRange _ _ _ _ _ _ _ _ => R'); (rename Fr _ _ _ _ => F'); (rename News _ _ _ _ => N'); (with_unfolding_all refine list_range2 rfl F' N' R' (by omega) (by omega) ?_); (clear R' F' N'); intro _ _ _ _ _ _ _ _ _; (try dsimp only)))
local macro_rules | `(tactic| walk_at "call ref") => `(tactic| ((with_reducible show wpAny _ _ (call (Value.ref 42) [Value.str _ _, Value.str _ _]) _ _ _); (rename Fr _ _ _ _ => F'); (rename News _ _ _ _ => N'); (rename Top _ _ _ _ _ _ => T'); (rename Frag.In _ _ => X'); (refine sub_call (Frag.In.keeps X' F'.keep) (Top.keeps T' F'.keep) (by omega) (by omega) (by dsimp only [Around.deeper]; omega) (by dsimp only [Around.deeper]; omega) ?_); intro _ _ _ e'; (replace F' := frExt F' e'); (replace N' := newsExt N' e'); (clear e'); (try dsimp only)))
local macro_rules | `(tactic| walk_at "subscriptTail Name Name ref int") => `(tactic| ((with_reducible show wpAny _ _ (subscriptTail _ _ (Value.ref _) (Value.int _ _)) _ _ _); (rename IntsAre _ _ => I'); (rename News _ _ _ _ => N'); (refine row_get (News.isList N' (by k_mem)) I' (by omega) (by omega) ?_ (by with_unfolding_all rfl) (by intro _; with_unfolding_all rfl)); intro _; (try dsimp only)))
local macro_rules | `(tactic| walk_at "setItem ref int") => `(tactic| ((with_reducible show wpAny _ _ (setItem (Value.ref _) (Value.int _ _) (Value.int _ _)) _ _ _); (rename IntsAre _ _ => I'); (rename Fr _ _ _ _ => F'); (rename News _ _ _ _ => N'); (refine' row_set F' N' I' ?rsa ?rsb ?rsU ?_; (case rsa => omega); (case rsb => omega); (case rsU => k_upd)); (clear F' N' I'); intro _ _ _ _; (try dsimp only)))
local macro_rules | `(tactic| walk_at "ite") => `(tactic| first | (rw [if_pos (by first | omega | (simp; omega))]) | (rw [if_neg (by first | omega | (simp; omega))]))
local macro_rules | `(tactic| walk_at "exec While BoolOp cons nil") => `(tactic| refine Halt.of ?_)
local macro_rules | `(tactic| walk_at "exec For Name Call cons nil") => `(tactic| refine Halt.of ?_)

theorem lev_call {w : World} {dp un : Nat} {fr : Option (List Env)} {gd : Option (List Code)} {s : Shared} {Q E : Value → Shared → Prop} {mean mg mb} {x y : Str} {mc : Int} {t u v : Tok}
    (X : (hd.heap_39 w.params).In s.heap) (T : Top hd.view_39 (looseW hd.view_39 []) mean mg mb s.heap) (hx : x.length ≤ 40) (hy : y.length ≤ 40) (hroom : dp + 3 < recursionLimit) (hu : un + 20 < cLine)
    (hret : ∀ (t : Tok) (h' : Heap) (tk' : Nat), Ext s.heap h' → Q (.int (lev (tl x) (tl y) mc) t) { s with heap := h', toks := tk' }) :
    wpAny (model PySem.Challenge.rw_pg0120_01.row.prog w) (Ar dp un fr gd) (call (.ref 49) [.str x t, .str y u, .int mc v]) Q E s := by
  revert X T
  w_top off
  k_fill
  intro X T
  refine' enter (K := hd.heap_39 w.params) [(Str.ofString "a", .str x t), (Str.ofString "b", .str y u), (Str.ofString "max_cost", .int mc v)] X T.nolimit ?ho ?hcd ?hroom ?hbind ?hloc ?_ ?c1 ?c2 ?c3 ?c4
  case ho => k_is
  case hcd => k_is
  case hroom => show dp < recursionLimit; omega
  case hbind => exact BindsTo.of_eq rfl
  case hloc => exact locs rfl
  case c1 => rfl
  case c2 => rfl
  case c3 => rfl
  case c4 => decide
  intro L h₁ tk F N htk
  (try dsimp only)
  k_steps
  · refine (congrArg (fun z => Q (.int z _) _) ?_).mpr (hret _ _ _ F.keep)
    exact (lev_same (by assumption)).symm
  · rename Fr _ _ _ _ => F0
    rename News _ _ _ _ => N0
    refine wpAny_mono (Q := E1 s L x y mc t u v) (E := No) (while_inv (W1 s L x y mc t u v) ?turn x.length ?start) ?cont (fun _ _ z => z)
    case start =>
      exact ⟨0, tk, ⟨_, _, _, rfl, frSet (frSet (frSet (frSet F0 (Str.ofString "max_cost") rfl) (Str.ofString "b") rfl) (Str.ofString "a") rfl) (Str.ofString "pre") rfl, N0⟩, Nat.zero_le _, Nat.zero_le _, by simp, by simp⟩
    case turn =>
      clear F0 N0
      rintro n s' ⟨p, tp, ⟨h', tk', z, rfl, F', N'⟩, h1, h2, h3, rfl⟩
      k_steps
      · refine w1_turn h3 h1 h2 (by omega) (by omega) (by assumption) ⟨_, _, _, rfl, frSet (frSet (frSet (frSet (by assumption) (Str.ofString "max_cost") rfl) (Str.ofString "b") rfl) (Str.ofString "a") rfl) (Str.ofString "pre") rfl, by assumption⟩
      · refine w1_end h3 (w1_zi h1 h2 (by omega) (by omega) (by assumption)) ⟨_, _, _, rfl, by assumption, by assumption⟩
      · refine w1_end h3 (w1_zy h2 (by omega)) ⟨_, _, _, rfl, by assumption, by assumption⟩
      · refine w1_end h3 (w1_zx h1 (by omega)) ⟨_, _, _, rfl, by assumption, by assumption⟩
    case cont =>
      clear F0 N0
      rintro f s' ⟨rfl, tp, ⟨h', tk', z, rfl, F', N'⟩⟩
      dsimp only
      k_steps
      rename Fr _ _ _ _ => F0
      rename News _ _ _ _ => N0
      have hx1 : (Txt.slice x (some (↑(cpl (tl x) (tl y)) : Int)) none).length ≤ 40 := by omega
      have hy1 : (Txt.slice y (some (↑(cpl (tl x) (tl y)) : Int)) none).length ≤ 40 := by omega
      generalize ex1 : Txt.slice x (some (↑(cpl (tl x) (tl y)) : Int)) none = x1 at *
      generalize ey1 : Txt.slice y (some (↑(cpl (tl x) (tl y)) : Int)) none = y1 at *
      obtain ⟨t1, u1, tp1, z1, F1⟩ : ∃ t1 u1 tp1 z1, Fr s.heap L _ (M2 x1 y1 mc t1 u1 v 0 tp1 z1) := ⟨_, _, _, _, frSet (frSet (frSet (frSet F0 (Str.ofString "max_cost") rfl) (Str.ofString "b") rfl) (Str.ofString "a") rfl) (Str.ofString "post") rfl⟩
      clear F0
      refine wpAny_mono (Q := E2 s L x1 y1 mc t1 u1 v) (E := No) (while_inv (W2 s L x1 y1 mc t1 u1 v) ?turn x1.length ?start) ?cont (fun _ _ z => z)
      case start =>
        exact ⟨0, _, ⟨_, _, _, rfl, F1, N0⟩, Nat.zero_le _, Nat.zero_le _, by simp, by simp⟩
      case turn =>
        clear F1 N0
        rintro n s' ⟨q, tp, ⟨h', tk', z, rfl, F', N'⟩, h1, h2, h3, rfl⟩
        by_cases hq : q = 0
        · k_steps
          · refine w2_turn h3 (by omega) (by omega) (by assumption) ⟨_, _, _, rfl, frSet (frSet (frSet (frSet (by assumption) (Str.ofString "max_cost") rfl) (Str.ofString "b") rfl) (Str.ofString "a") rfl) (Str.ofString "post") rfl, by assumption⟩
          · refine w2_end h3 (w2_zi (by omega) (by omega) (by assumption)) ⟨_, _, _, rfl, by assumption, by assumption⟩
          · refine w2_end h3 (w2_zy (by omega)) ⟨_, _, _, rfl, by assumption, by assumption⟩
          · refine w2_end h3 (w2_zx (by omega)) ⟨_, _, _, rfl, by assumption, by assumption⟩
        · k_steps
          · refine w2_turn h3 (by omega) (by omega) (by assumption) ⟨_, _, _, rfl, frSet (frSet (frSet (frSet (by assumption) (Str.ofString "max_cost") rfl) (Str.ofString "b") rfl) (Str.ofString "a") rfl) (Str.ofString "post") rfl, by assumption⟩
          · refine w2_end h3 (w2_zi (by omega) (by omega) (by assumption)) ⟨_, _, _, rfl, by assumption, by assumption⟩
          · refine w2_end h3 (w2_zy (by omega)) ⟨_, _, _, rfl, by assumption, by assumption⟩
          · refine w2_end h3 (w2_zx (by omega)) ⟨_, _, _, rfl, by assumption, by assumption⟩
      case cont =>
        clear F1 N0
        rintro f s' ⟨rfl, tp, ⟨h', tk', z, rfl, F', N'⟩⟩
        dsimp only
        have hd1 : cpl (tl x1).reverse (tl y1).reverse ≤ x1.length := by
          have := cpl_le_left (tl x1).reverse (tl y1).reverse
          rwa [List.length_reverse, len_tl] at this
        have hd2 : cpl (tl x1).reverse (tl y1).reverse ≤ y1.length := by
          have := cpl_le_right (tl x1).reverse (tl y1).reverse
          rwa [List.length_reverse, len_tl] at this
        generalize ed : cpl (tl x1).reverse (tl y1).reverse = d at *
        refine seq_next (fun s' => ∃ t2, At s L [] (M2 (ms ((tl x1).take (x1.length - d))) y1 mc t2 u1 v (-(d : Int)) tp) s') ?_ ?_
        · by_cases hq : d = 0
          · k_steps
            rename Fr _ _ _ _ => F9
            rename News _ _ _ _ => N9
            exact ⟨rfl, _, ⟨_, _, _, rfl, frSet (frSet (frSet (frSet F9 (Str.ofString "max_cost") rfl) (Str.ofString "b") rfl) (Str.ofString "a") (strEq (cut_zero hq))) (Str.ofString "post") rfl, N9⟩⟩
          · k_steps
            rename Fr _ _ _ _ => F9
            rename News _ _ _ _ => N9
            exact ⟨rfl, _, ⟨_, _, _, rfl, frSet (frSet (frSet (frSet F9 (Str.ofString "max_cost") rfl) (Str.ofString "b") rfl) (Str.ofString "a") (strEq (cut_neg hd1 hq))) (Str.ofString "post") rfl, N9⟩⟩
        clear F' N'
        rintro s' ⟨t2, ⟨h', tk', z, rfl, F', N'⟩⟩
        have hx2 : (ms ((tl x1).take (x1.length - d))).length ≤ 40 := by
          rw [cut_len]; omega
        generalize ex2 : ms ((tl x1).take (x1.length - d)) = x2 at *
        refine seq_next (fun s' => ∃ u2, At s L [] (M2 x2 (ms ((tl y1).take (y1.length - d))) mc t2 u2 v (-(d : Int)) tp) s') ?_ ?_
        · by_cases hq : d = 0
          · k_steps
            rename Fr _ _ _ _ => F9
            rename News _ _ _ _ => N9
            exact ⟨rfl, _, ⟨_, _, _, rfl, frSet (frSet (frSet (frSet F9 (Str.ofString "max_cost") rfl) (Str.ofString "b") (strEq (cut_zero hq))) (Str.ofString "a") rfl) (Str.ofString "post") rfl, N9⟩⟩
          · k_steps
            rename Fr _ _ _ _ => F9
            rename News _ _ _ _ => N9
            exact ⟨rfl, _, ⟨_, _, _, rfl, frSet (frSet (frSet (frSet F9 (Str.ofString "max_cost") rfl) (Str.ofString "b") (strEq (cut_neg hd2 hq))) (Str.ofString "a") rfl) (Str.ofString "post") rfl, N9⟩⟩
        clear F' N'
        rintro s' ⟨u2, ⟨h', tk', z, rfl, F', N'⟩⟩
        have hy2 : (ms ((tl y1).take (y1.length - d))).length ≤ 40 := by
          rw [cut_len]; omega
        generalize ey2 : ms ((tl y1).take (y1.length - d)) = y2 at *
        have hlev : lev (tl x) (tl y) mc = levMain (tl x2) (tl y2) mc := by
          subst ex2 ey2 ed ex1 ey1
          exact lev_eq (by assumption)
        rw [hlev] at hret
        clear hlev ex2 ey2 ed hd1 hd2 ex1 ey1
        refine seq_ret (fun s' => x2.length ≠ 0 ∧ y2.length ≠ 0 ∧ ∃ z tk h, s' = { s with heap := h, toks := tk } ∧ Fr s.heap L h (M2 x2 y2 mc t2 u2 v (-(d : Int)) tp z) ∧ News s.heap L h []) ?_ ?_
        · k_steps
          · exact ⟨by omega, by omega, _, _, _, rfl, by assumption, by assumption⟩
          · refine (congrArg (fun z => Q (.int z _) _) ?_).mpr (hret _ _ _ (Fr.keep (by assumption)))
            exact (levMain_nil (by omega)).symm
          · refine (congrArg (fun z => Q (.int z _) _) ?_).mpr (hret _ _ _ (Fr.keep (by assumption)))
            exact (levMain_nil (by omega)).symm
        clear F' N'
        rintro s' ⟨n1, n2, z1, tk', h', rfl, F', N'⟩
        refine seq_ret (fun s' => ∃ z tk h, s' = { s with heap := h, toks := tk } ∧ Fr s.heap L h (M2 x2 y2 mc t2 u2 v (-(d : Int)) tp z) ∧ News s.heap L h []) ?_ ?_
        · k_steps
          · exact ⟨_, _, _, rfl, by assumption, by assumption⟩
        clear F' N'
        rintro s' ⟨z2, tk', h', rfl, F', N'⟩
        refine seq_ret (fun s' => ∃ (a b : Str) (ta tb : Tok), levMain (tl x2) (tl y2) mc = levDP (tl a) (tl b) mc ∧ a.length ≤ b.length ∧ b.length ≤ 40 ∧ 0 < a.length ∧ ∃ z tk h, s' = { s with heap := h, toks := tk } ∧ Fr s.heap L h (M2 a b mc ta tb v (-(d : Int)) tp z) ∧ News s.heap L h []) ?_ ?_
        · k_steps
          · refine ⟨y2, x2, _, _, levMain_gt n1 n2 (by omega), by omega, by omega, by omega, _, _, _, rfl, frSet (frSet (frSet (frSet (by assumption) (Str.ofString "max_cost") rfl) (Str.ofString "b") rfl) (Str.ofString "a") rfl) (Str.ofString "post") rfl, ?_⟩
            intro p hp
            exact nomatch hp
          · exact ⟨x2, y2, _, _, levMain_le n1 n2 (by omega), by omega, by omega, by omega, _, _, _, rfl, by assumption, by assumption⟩
        clear F' N'
        rintro s' ⟨a, b, ta, tb, hab, hle, h40, hpos, z2, tk', h', rfl, F', N'⟩
        rw [hab] at hret
        clear hab
        refine seq_ret (fun s' => ¬ (((b.length : Int) - a.length) * 2 > mc) ∧ ∃ z tk h, s' = { s with heap := h, toks := tk } ∧ Fr s.heap L h (M2 a b mc ta tb v (-(d : Int)) tp z) ∧ News s.heap L h []) ?_ ?_
        · k_steps
          · refine (congrArg (fun z => Q (.int z _) _) ?_).mpr (hret _ _ _ (Fr.keep (by assumption)))
            exact (levDP_gt (by omega)).symm
          · exact ⟨by omega, _, _, _, rfl, by assumption, by assumption⟩
        clear F' N'
        rintro s' ⟨hmc, z2, tk', h', rfl, F', N'⟩
        k_steps
        rename Fr _ _ _ _ => F0
        rename IntsAre _ _ => I0
        rename News _ _ _ _ => N0
        refine for_inv ?_ (by intro _; rfl)
        k_steps
        rename IsRange _ _ _ _ _ _ _ _ => R1
        rename Fr _ _ _ _ => F1
        rename News _ _ _ _ => N1
        obtain ⟨tr0, z0, F2⟩ : ∃ tr0 z0, Fr s.heap L _ (M4 a b mc 0 _ ta tb v tr0 z0) := ⟨_, _, frSet (frSet (frSet (frSet (frSet F1 (Str.ofString "max_cost") rfl) (Str.ofString "b") rfl) (Str.ofString "a") rfl) (Str.ofString "row") rfl) (Str.ofString "result") rfl⟩
        clear F1
        refine range_loop (n := b.length) (P4 a b mc _ ta tb v _) rfl rfl rfl R1 rfl (by omega) F2 N1 ⟨z0, 0, tr0, _, _, rfl, rfl, I0, lev_i1 a, lev_i2 a b mc⟩ ?rt ?rd
        case rt =>
          clear F2 N1 R1 I0
          rintro i tk m news h tk' it hi ⟨z, res, tr, vs, ns, rfl, rfl, hI, hlen, hrows⟩ hmap hlt F N
          clear hmap
          simp only [List.map_cons, List.map_nil, List.mem_cons, List.not_mem_nil, or_false, forall_eq] at hlt
          k_steps
          rename Fr _ _ _ _ => F0
          rename News _ _ _ _ => N0
          refine for_inv ?_ (by intro _; rfl)
          k_steps
          rename IsRange _ _ _ _ _ _ _ _ => R1
          rename Fr _ _ _ _ => F1
          rename News _ _ _ _ => N1
          obtain ⟨td, tr3, tn, tc, z3, F2⟩ : ∃ td tr3 tn tc z3, Fr s.heap L _ (M3 a b (ms [(tl b).getD i 0]) mc (i * 2) (i * 2) 9223372036854775807 i _ ta tb v td tr3 tn tc tk z3) :=
            ⟨_, _, _, _, _, frSet (frSet (frSet (frSet (frSet (frSet (frSet (frSet (frSet F1 (Str.ofString "max_cost") rfl) (Str.ofString "b") rfl) (Str.ofString "a") rfl) (Str.ofString "row") rfl) (Str.ofString "bindex") rfl) (Str.ofString "bchar") (strEq (item_getD hi))) (Str.ofString "distance") rfl) (Str.ofString "result") rfl) (Str.ofString "minimum") rfl⟩
          clear F1
          refine range_loop (n := a.length) (P3 a b ((tl b).getD i 0) mc i _ it (ritObj (i + 1) b.length) ta tb v tc tk _ ns) rfl rfl rfl R1 rfl (by omega) F2 N1 ⟨z3, _, _, _, _, _, _, vs, ns, [], rfl, rfl, hI, hlen, rfl, rfl, rfl⟩ ?jt ?jd
          case jt =>
            clear F2 N1 R1 hI
            rintro i2 tk2 m news h2 tk2' it2 hi2 ⟨z, dist, res, mn, td, tr, tn, vs2, ns2, dn, rfl, rfl, hI2, hlen2, hdn, hns, hcells⟩ hmap hlt2 F N
            clear hmap
            simp only [List.map_cons, List.map_nil, List.mem_cons, List.not_mem_nil, or_false, forall_eq_or_imp, forall_eq] at hlt2
            obtain ⟨hlt2, hlt3⟩ := hlt2
            replace hlt := ltN hlt
            replace hlt2 := ltN hlt2
            replace hlt3 := ltN hlt3
            change Fr s.heap L h2 _ at F
            change News s.heap L h2 _ at N
            have hbc : (ms [(tl b).getD i 0]).length = 1 := rfl
            k_steps
            · rename Fr _ _ _ _ => F7
              rename News _ _ _ _ => N7
              rename IntsAre _ _ => I7
              exact p3_step hi2 hlen2 hdn hns hcells F7 N7 I7 rfl (by exact (if_pos (by assumption)).symm) rfl rfl rfl rfl rfl rfl rfl rfl rfl
            · rename Fr _ _ _ _ => F7
              rename News _ _ _ _ => N7
              rename IntsAre _ _ => I7
              exact p3_step hi2 hlen2 hdn hns hcells F7 N7 I7 rfl (by rw [if_neg (by assumption)]) rfl rfl rfl rfl rfl rfl rfl rfl rfl
          case jd =>
            clear F2 N1 R1 hI
            rintro m news h2 tk2 ⟨z, dist, res2, mn, td, tr, tn, vs2, ns2, dn, rfl, rfl, hI2, hlen2, hdn, hns, hcells⟩ F N
            change Fr s.heap L h2 _ at F
            change News s.heap L h2 _ at N
            dsimp only
            have hrs := rows_step (mc := mc) (res := res) hi hlen hdn hns hcells
            have hle := levDP_le hmc
            k_steps
            · refine (congrArg (fun z => Q (.int z _) _) ?_).mpr (hret _ _ _ (Fr.keep (by assumption)))
              rw [hle, ← hrows, hrs, if_pos (by omega)]
            · refine ⟨h2, _, _, [(_, listOf vs2.toArray _)], [], rfl, frSet (frSet (frSet (frSet (frSet F (Str.ofString "max_cost") rfl) (Str.ofString "b") rfl) (Str.ofString "a") rfl) (Str.ofString "row") rfl) (Str.ofString "result") rfl, N, rfl, ⟨_, res2, tr, vs2, ns2, rfl, rfl, hI2, hlen2, ?_⟩⟩
              rw [← hrows, hrs, if_neg (by omega)]
        case rd =>
          clear F2 N1 R1 I0
          rintro m news h2 tk2 ⟨z, res, tr, vs2, ns2, rfl, rfl, hI2, hlen2, hrows⟩ F N
          change Fr s.heap L h2 _ at F
          change News s.heap L h2 _ at N
          dsimp only
          have hle := levDP_le hmc
          k_steps
          refine (congrArg (fun z => Q (.int z _) _) ?_).mpr (hret _ _ _ (Fr.keep (by assumption)))
          rw [hle, ← hrows, List.drop_eq_nil_of_le (by have := len_tl b; omega)]
          rfl
end Mine
namespace Mine
def strikes : Nat → Str → Str → Option Str
  | 0, _, _ => none
  | k + 1, l, p => if l.length ≤ 1000 then (if Txt.contains l p then strikes k (Txt.replace l p (Str.ofString "")) p else some l) else none
theorem strikes_len {k : Nat} {l p r : Str} (h : strikes k l p = some r) : l.length ≤ 1000 := by
  cases k with
  | zero => cases h
  | succ k =>
    unfold strikes at h
    split at h
    · assumption
    · cases h
theorem strikes_stop {k : Nat} {l p r : Str} (h : strikes k l p = some r) (e : (Builtin.Str.occurrences l p 0 l.length 1).isEmpty = true) : l = r := by
  cases k with
  | zero => cases h
  | succ k =>
    have hl := strikes_len h
    unfold strikes at h
    rw [if_pos hl] at h
    unfold Txt.contains at h
    rw [e] at h
    exact Option.some.inj h
theorem strikes_go {k : Nat} {l p r : Str} (h : strikes k l p = some r) (e : (Builtin.Str.occurrences l p 0 l.length 1).isEmpty = false) : ∃ j, j < k ∧ strikes j (Txt.replace l p (Str.ofString "")) p = some r := by
  cases k with
  | zero => cases h
  | succ k =>
    have hl := strikes_len h
    unfold strikes at h
    rw [if_pos hl] at h
    unfold Txt.contains at h
    rw [e] at h
    exact ⟨k, Nat.lt_succ_self _, h⟩

abbrev M5 (x p l : Str) (tx tp t : Tok) (z : Str → Option Value) : Str → Option Value := fun k =>
  if k = Str.ofString "left" then some (.str l t) else if k = Str.ofString "row" then some (.str x tx) else if k = Str.ofString "pair" then some (.str p tp) else z k
theorem rep_rule {prog : Program} {w : World} {A : Around} {E : Value → Shared → Prop} {s : Shared} {x y z : Str} {t u v : Tok} {Q : Value → Shared → Prop} (hu : @Ne Nat u 0) (hv : @Ne Nat v 0) (huv : @Ne Nat u v) (hyz : (y == z) = false) (hx : x.length ≤ 1000) (hz : z.length ≤ 14)
    (hq : ∀ t' k, s.toks ≤ k → Q (.str (Txt.replace x y z) t') { s with toks := k }) : wpAny (model prog w) A (call (.builtin "str.replace") [.str x t, .str y u, .str z v]) Q E s :=
  wpAny_with_toks (n := s.toks) (Nat.le_refl _) (SC.replaceW hu hv huv hyz (by omega) hz fun t' k h => hq t' k h)
def W5 (s : Shared) (L : Addr) (x p : Str) (r : Str) (tx tp : Tok) (n : Nat) (s' : Shared) : Prop :=
  ∃ (l : Str) (t : Tok), (∃ h' tk' z, s' = { s with heap := h', toks := tk' } ∧ Fr s.heap L h' (M5 x p l tx tp t z) ∧ News s.heap L h' [] ∧ s.toks ≤ tk') ∧ strikes n l p = some r
def E5 (s : Shared) (L : Addr) (x p : Str) (r : Str) (tx tp : Tok) (f : Flow) (s' : Shared) : Prop :=
  f = .next ∧ ∃ t, At s L [] (M5 x p r tx tp t) s'

local macro_rules | `(tactic| walk_at "call builtin:str.replace") => `(tactic| (refine rep_rule (by omega) (by omega) (by omega) (by assumption) (by omega) (by decide) ?_; intro _ _ hk'; (try dsimp only at hk'); (try dsimp only)))
local macro_rules | `(tactic| walk_at "exec While Compare cons nil") => `(tactic| refine Halt.of ?_)

theorem struck_call {w : World} {dp un : Nat} {fr : Option (List Env)} {gd : Option (List Code)} {s : Shared} {Q E : Value → Shared → Prop} {mean mg mb} {x p r : Str} {k : Nat} {t u : Tok}
    (X : (hd.heap_39 w.params).In s.heap) (T : Top hd.view_39 (looseW hd.view_39 []) mean mg mb s.heap) (hx : x.length ≤ 1000) (hp : p.length ≤ 10) (hk : strikes k x p = some r) (hp0 : (p == Str.ofString "") = false) (hr : r.length ≤ 1000) (hu0 : @Ne Nat u 0) (hut : @LT.lt Nat _ u s.toks) (hroom : dp + 3 < recursionLimit) (hu : un + 20 < cLine)
    (hret : ∀ (t : Tok) (h' : Heap) (tk' : Nat), Ext s.heap h' → Q (.int (((x.length : Int) - r.length).fdiv 2) t) { s with heap := h', toks := tk' }) :
    wpAny (model PySem.Challenge.rw_pg0120_01.row.prog w) (Ar dp un fr gd) (call (.ref 66) [.str x t, .str p u]) Q E s := by
  revert X T
  w_top off
  k_fill
  intro X T
  refine' enter (K := hd.heap_39 w.params) [(Str.ofString "row", .str x t), (Str.ofString "pair", .str p u)] X T.nolimit ?ho ?hcd ?hroom ?hbind ?hloc ?_ ?c1 ?c2 ?c3 ?c4
  case ho => k_is
  case hcd => k_is
  case hroom => show dp < recursionLimit; omega
  case hbind => exact BindsTo.of_eq rfl
  case hloc => exact locs rfl
  case c1 => rfl
  case c2 => rfl
  case c3 => rfl
  case c4 => decide
  intro L h₁ tk F N htk
  (try dsimp only)
  k_steps
  rename Fr _ _ _ _ => F0
  rename News _ _ _ _ => N0
  refine wpAny_mono (Q := E5 s L x p r t u) (E := No) (while_invT (W5 s L x p r t u) ?turn k ?start) ?cont (fun _ _ z => z)
  case start =>
    exact ⟨x, _, ⟨_, _, _, rfl, frSet (frSet (frSet F0 (Str.ofString "pair") rfl) (Str.ofString "row") rfl) (Str.ofString "left") rfl, N0, by omega⟩, hk⟩
  case turn =>
    clear F0 N0
    rintro n s' ⟨l, tl', ⟨h', tk', z, rfl, F', N', htk'⟩, h1⟩
    have h2 := strikes_len h1
    k_steps
    · have e := strikes_stop h1 (by assumption)
      subst e
      exact ⟨rfl, _, ⟨_, _, _, rfl, by assumption, by assumption⟩⟩
    · intro htk9
      obtain ⟨j, hj, h3⟩ := strikes_go h1 (by assumption)
      exact ⟨j, hj, _, _, ⟨_, _, _, rfl, frSet (frSet (frSet (by assumption) (Str.ofString "pair") rfl) (Str.ofString "row") rfl) (Str.ofString "left") rfl, by assumption, Nat.le_trans htk' htk9⟩, h3⟩
  case cont =>
    clear F0 N0
    rintro f s' ⟨rfl, tp, ⟨h', tk', z, rfl, F', N'⟩⟩
    dsimp only
    k_steps
    exact hret _ _ _ (Fr.keep (by assumption))
end Mine
namespace Mine

theorem bind_wrap {α β γ : Type} (m : Sem α) (f : α → Sem β) (K : β → Sem γ) (H : Value → Sem γ) (gd lv) : (m >>= f).wrap K H gd lv = m.wrap (fun a => (f a).wrap K H gd lv) H gd lv := by
  rw [Sem.bind_eq_wrap', Sem.wrap_wrap]
  rfl

section
variable {M : Model} {A : Around} {R : GenEnd} {Y : Protocol} {n : Nat} {s₀ : Shared} {c : Code} {fs : List Frame} {s : Shared} {env : Env}
  {K : Flow → Sem Fin} {H : Value → Sem Fin} {gd : Bool → Bool} {lv : List Value → List Value}

theorem seg_plain {α : Type} {m : Sem α} {K : α → Sem Fin} {H : Value → Sem Fin} {gd : Bool → Bool} {lv : List Value → List Value}
    (h : wpAny M (A.over c fs) m (fun a s' => Seg M A R Y n s₀ c (K a) fs s') No s) : Seg M A R Y n s₀ c (m.wrap K H gd lv) fs s :=
  seg_wrap (wpAny_mono h (fun _ _ z => z) fun _ _ z => z.elim)

theorem seg_stmt {st : Stmt} {rest : List Stmt}
    (h : wpAny M (A.over c fs) (exec st env) (Nx fun s' => Seg M A R Y n s₀ c ((execs rest env).wrap K H gd lv) fs s') No s) :
    Seg M A R Y n s₀ c ((execs (st :: rest) env).wrap K H gd lv) fs s := by
  refine seg_execs_cons (seg_plain (wpAny_mono h (fun f s' hf => ?_) fun _ _ z => z))
  obtain ⟨rfl, hs⟩ := hf
  exact hs

theorem seg_If {test : Expr} {body orelse : List Stmt} {pos : Pos}
    (h : wpAny M (A.over c fs) (isTrue test env (eval test env)) (fun b s' =>
      Halt (if b = true then Seg M A R Y n s₀ c ((execs body env).wrap K H gd lv) fs s' else Seg M A R Y n s₀ c ((execs orelse env).wrap K H gd lv) fs s')) No s) :
    Seg M A R Y n s₀ c ((exec (.If test body orelse pos) env).wrap K H gd lv) fs s := by
  rw [exec_If]
  refine seg_at ?_
  show Seg M A R Y n s₀ c ((isTrue test env (eval test env) >>= fun b => if b = true then execs body env else execs orelse env).wrap K H gd lv) fs s
  rw [bind_wrap]
  refine seg_plain (wpAny_mono h (fun b s' hb => ?_) fun _ _ z => z)
  cases b with
  | true => exact hb
  | false => exact hb

theorem seg_For {target iter : Expr} {body orelse : List Stmt} {pos : Pos} (hs : ∀ x, foldedSetIterable iter env x = pure x)
    (h : wpAny M (A.over c fs) (eval iter env) (fun x s₁ => wpAny M (A.over c fs) (pyIter x) (fun it s₂ =>
      Halt (∀ p, Seg M A R Y n s₀ (.forLoop target it body orelse env) (M.den (.forLoop target it body orelse env))
      (.ret (fun r => ((match r with | .ok f => (.pure f : Sem Flow) | .error e => .raise e).onRaise fun (x : Value) => do
        if (← field x 1) == Value.none then unsupported "frame.own-activation:exception-without-traceback"
        setFlight x env.frame).wrap K H gd lv) none (gd false) (lv []) c p [] :: fs) s₂)) No s₁) No s) :
    Seg M A R Y n s₀ c ((exec (.For target iter body orelse pos) env).wrap K H gd lv) fs s := by
  rw [exec_For]
  refine seg_at ?_
  show Seg M A R Y n s₀ c ((eval iter env >>= fun v => foldedSetIterable iter env v >>= fun x => standAt iter.pos >>= fun _ => holding [x] (pyIter x) >>= fun it => runOwn (.forLoop target it body orelse env) env).wrap K H gd lv) fs s
  rw [bind_wrap]
  refine seg_plain (wpAny_mono h (fun x s₁ h₁ => ?_) fun _ _ z => z)
  rw [hs x]
  show Seg M A R Y n s₀ c (.at iter.pos fun _ => (holding [x] (pyIter x) >>= fun it => runOwn (.forLoop target it body orelse env) env).wrap K H gd lv) fs s₁
  refine seg_at ?_
  rw [bind_wrap]
  refine seg_plain (wpAny_holding (wpAny_mono h₁ (fun it s₂ h₂ => ?_) fun _ _ z => z))
  exact seg_call h₂
end

section
variable {prog : Program} {w : World} {A : Around} {R : GenEnd} {Y : Protocol} {n : Nat} {s₀ : Shared} {fs : List Frame} {s : Shared} {env : Env}

def KB (c : Code) : Flow → Sem Fin
  | .next | .cont => .pure (.again c)
  | .brk => .pure (.done .next)
  | .ret v => .pure (.done (.ret v))
def HB (env : Env) (e : Value) : Sem Fin := (do noteFrame e env; theTreesLotGoes e : Sem Unit).wrap (fun _ => .raise e) .raise id id

theorem seg_forLoop {target : Expr} {it : Value} {body : List Stmt}
    (h : wpAny (model prog w) (A.over (.forLoop target it body [] env) fs) (pyNext it) (fun r s' => match r with
      | none => Seg (model prog w) A R Y n s₀ (.block [] env) (.pure (.done .next)) fs s'
      | some v => wpAny (model prog w) (A.over (.forLoop target it body [] env) fs) (letOwnedTupleGo target it v) (fun _ s₂ =>
          wpAny (model prog w) (A.over (.forLoop target it body [] env) fs) (assign target env v) (fun _ s₃ =>
            Halt (Seg (model prog w) A R Y n s₀ (.forLoop target it body [] env) ((execs body env).wrap (KB (.forLoop target it body [] env)) (HB env) id id) fs s₃)) No s₂) No s') No s) :
    Seg (model prog w) A R Y n s₀ (.forLoop target it body [] env) ((model prog w).den (.forLoop target it body [] env)) fs s := by
  show Seg _ A R Y n s₀ _ ((forTurn target it body [] env).onRaise (fun x => do noteFrame x env; theTreesLotGoes x)) fs s
  unfold forTurn
  rw [Sem.onRaise_eq_wrap, bind_wrap]
  refine seg_plain (wpAny_standAt ?_)
  rw [bind_wrap]
  refine seg_plain (wpAny_onRaise (wpAny_mono h (fun r s' hr => ?_) fun _ _ z => z.elim))
  cases r with
  | none =>
    show Seg _ A R Y n s₀ _ (.pure (.again (.block [] env))) fs s'
    refine seg_again rfl ?_
    exact hr
  | some v =>
    show Seg _ A R Y n s₀ _ ((letOwnedTupleGo target it v >>= fun _ => assign target env v >>= fun _ => execs body env >>= fun f => _).wrap _ _ _ _) fs s'
    rw [bind_wrap]
    refine seg_plain (wpAny_mono hr (fun _ s₂ h₂ => ?_) fun _ _ z => z)
    rw [bind_wrap]
    refine seg_plain (wpAny_mono h₂ (fun _ s₃ h₃ => ?_) fun _ _ z => z)
    rw [bind_wrap]
    rw [Sem.wrap_congr (execs body env) _ _ (K' := KB (.forLoop target it body [] env)) (H' := HB env) (fun f => by cases f <;> rfl)
      (fun e => by first | exact Sem.bind_eq_wrap _ _ | rfl)]
    exact h₃
end
end Mine
namespace Mine

abbrev GU := Nat × List Nat
def unitsF : Nat → Bool → List Nat → List GU
  | p, true, [] => [(p - 1, [92])]
  | _, false, [] => []
  | p, true, c :: cs => (p, [92, c]) :: unitsF (p + 1) false cs
  | p, false, c :: cs => if c = 92 then unitsF (p + 1) true cs else (p, [c]) :: unitsF (p + 1) false cs

abbrev tupObj (p : Int) (tp : Tok) (c : Str) (tc : Tok) : Obj := { cls := .type "tuple", data := .seq #[.int p tp, .str c tc] }

structure Ready (B : Heap) (kA : List Addr) (fp : List (Addr × Obj)) (h : Heap) : Prop where
  ext : Ext B h
  own : ∀ p ∈ fp, h.get? p.1 = some p.2
  live : ∀ b ∈ kA, ∃ o, h.get? b = some o
abbrev KeptA (kA : List Addr) (h h' : Heap) : Prop := ∀ b ∈ kA, ∀ o, h.get? b = some o → h'.get? b = some o
abbrev OffA (B : Heap) (kA : List Addr) (fp : List (Addr × Obj)) : Prop := ∀ p ∈ fp, p.1 ∉ kA ∧ B.get? p.1 = none
def GY (B : Heap) (kA : List Addr) (us : List GU) : Protocol := fun n s₀ v s' kap =>
  ∃ u T tp tc fp h tk, us.drop (us.length - (n + 1)) = u :: us.drop (us.length - n) ∧ v = .ref T ∧ s' = { s₀ with heap := h, toks := tk } ∧ h.get? T = some (tupObj (u.1 : Nat) tp (ms u.2) tc) ∧
    Ready B kA fp h ∧ KeptA kA s₀.heap h ∧ OffA B kA fp ∧ ∀ s'', Ready B kA fp s''.heap → kap (.send .none) s''
def GP (B : Heap) (kA : List Addr) (n : Nat) (s₀ s₁ : Shared) : Prop := n = 0 ∧ ∃ h tk, s₁ = { s₀ with heap := h, toks := tk } ∧ Ext B h ∧ KeptA kA s₀.heap h
abbrev GR (B : Heap) (kA : List Addr) : GenEnd := fun n s₀ r s₁ => r = .ok (.ret .none) ∧ GP B kA n s₀ s₁

def GenLive (w : World) (A : Around) (B : Heap) (kA : List Addr) (g : Nat) (rest : List GU) (fp : List (Addr × Obj)) (s : Shared) : Prop :=
  ∃ gs us, s.gens[g]? = some gs ∧ Ready B kA fp s.heap ∧ OffA B kA fp ∧ us.drop (us.length - rest.length) = rest ∧ rest.length ≤ us.length ∧
    ∀ s', Ready B kA fp s'.heap → gs.Goes (model PySem.Challenge.rw_pg0120_01.row.prog w) A.in1 (GR B kA) (GY B kA us) rest.length (.send .none) s'

theorem gen_next {w : World} {A : Around} {B : Heap} {kA : List Addr} {a : Addr} {g : Nat} {rest : List GU} {fp : List (Addr × Obj)} {s : Shared} {Q : Option Value → Shared → Prop} {E : Value → Shared → Prop} (hh : A.handled = none)
    (hl : s.heap.NoLimit) (hroom : A.depth < recursionLimit) (hg : s.heap.IsGen a g) (hgl : g < s.gens.size) (L : GenLive w A B kA g rest fp s)
    (hnone : rest = [] → ∀ h' tk' gs', Ext B h' → KeptA kA s.heap h' → Q none { s with heap := h', toks := tk', gens := gs' })
    (hsome : ∀ u rest', rest = u :: rest' → ∀ T tp tc fp' s', s'.heap.get? T = some (tupObj (u.1 : Nat) tp (ms u.2) tc) → KeptA kA s.heap s'.heap → s'.gens.size = s.gens.size → s'.drawn = s.drawn → s'.os = s.os → GenLive w A B kA g rest' fp' s' → Q (some (.ref T)) s') :
    wpAny (model PySem.Challenge.rw_pg0120_01.row.prog w) A (pyNext (.ref a)) Q E s := by
  obtain ⟨gs, us, hgs, hR, hoff, hus, hul, hgo⟩ := L
  refine wpAny_pyNext_gen (n := rest.length) (P := GP B kA) (Y := GY B kA us) hh hl hroom hg hgs (hgo _ hR) ?_ ?_
  · rintro v s₁ gs' ⟨u, T, tp, tc, fp', h, tk, hu, rfl, rfl, hT, hR', hK, hoff', hk⟩
    cases rest with
    | nil =>
      exfalso
      have e : us.length - ((([] : List GU).length - 1) + 1) = us.length - 1 := rfl
      rw [e] at hu
      have e2 : us.drop (us.length - (([] : List GU).length - 1)) = [] := by simp
      rw [e2] at hu
      have := hk ⟨h, #[], s.drawn, tk, s.os⟩ hR'
      exact this
    | cons u' rest' =>
      have e1 : (u' :: rest').length - 1 + 1 = (u' :: rest').length := rfl
      rw [e1, hus] at hu
      obtain ⟨rfl, hr⟩ := List.cons.inj hu
      refine hsome u' rest' rfl T tp tc fp' _ hT hK (by simp [Shared.setGen]) rfl rfl ?_
      refine ⟨gs', us, ?_, hR', hoff', ?_, by simp only [List.length_cons] at hul; omega, fun s' hs' => hk s' hs'⟩
      · simp only [Shared.setGen]
        rw [Array.getElem?_setIfInBounds]
        simp [hgl]
      · exact hr.symm
  · rintro s₁ ⟨h0, h, tk, rfl, hE, hK⟩ h' hx
    refine hnone (List.length_eq_zero_iff.mp h0) h' tk _ (fun b o e => hx b o (hE b o e)) fun b hb o e => hx b o (hK b hb o e)
end Mine
namespace Mine
section
variable {prog : Program} {w : World} {A : Around} {E : Value → Shared → Prop} {s : Shared} {env : Env} {B : Heap} {L e it : Addr} {m : Str → Option Value} {ext : List (Addr × Obj)} {x : Str} {t : Tok} {i : Nat}

theorem drawsStr (hh : A.handled = none) (it : Addr) (x : Str) (t : Tok) : Draws prog w A it [it] x.cps.size (fun i v => ∃ c u, x.cps[i]? = some c ∧ v = .str ⟨#[c]⟩ u) (fun i h => h.IsStrIter it (strIterType x) x t i) := by
  unfold strIterType
  split
  · exact Draws.strAscii hh it x t
  · exact Draws.strWide hh it x t

structure Priv (B : Heap) (L e it : Addr) (x : Str) (t : Tok) (ext : List (Addr × Obj)) (i : Nat) (h : Heap) : Prop where
  en : ∃ old, IsEnum h e it (i : Int) old
  si : h.IsStrIter it (strIterType x) x t i
  ne : e ≠ it
  eL : e ≠ L
  iL : it ≠ L
  eB : B.get? e = none
  iB : B.get? it = none
  off : ∀ p ∈ ext, p.1 ≠ e ∧ p.1 ≠ it

theorem privKeeps {h h' : Heap} (P : Priv B L e it x t ext i h) (k : ∀ b o, b ≠ L → h.get? b = some o → h'.get? b = some o) : Priv B L e it x t ext i h' := by
  obtain ⟨⟨old, en⟩, ⟨o, ho, hr⟩, ne, eL, iL, eB, iB, off⟩ := P
  exact ⟨⟨old, k _ _ eL en⟩, ⟨o, k _ _ iL ho, hr⟩, ne, eL, iL, eB, iB, off⟩

theorem enum_turn {p1 p2 pt : Pos} {k : Nat} {Q0 Q1 : Shared → Prop} (hh : A.handled = none) (hL : env.locals = L) (hx1 : env.kindOf (Str.ofString "pos") = some .local) (hx2 : env.kindOf (Str.ofString "ch") = some .local)
    (hp : (env.scope.kind == .class || (env.scope.kind == .module && env.locals != env.globals)) = false)
    (F : Fr B L s.heap m) (N : News B L s.heap ext) (P : Priv B L e it x t ext i s.heap) (hi : i ≤ x.length)
    (h0 : i = x.length → ∀ h', Fr B L h' m → News B L h' ext → Q0 { s with heap := h' })
    (h1 : i < x.length → ∀ h' tk tp tc, Fr B L h' (fun z => if z = Str.ofString "ch" then some (.str (ms [(tl x).getD i 0]) tc) else if z = Str.ofString "pos" then some (.int (i : Int) tp) else m z) → News B L h' ext → Priv B L e it x t ext (i + 1) h' → Q1 { s with heap := h', toks := tk }) :
    wpAny (model prog w) A (pyNext (.ref e)) (fun r s' => match r with
      | none => Q0 s'
      | some v => wpAny (model prog w) A (letOwnedTupleGo (.Tuple [.Name (Str.ofString "pos") p1, .Name (Str.ofString "ch") p2] k pt) (.ref e) v) (fun _ s₂ =>
          wpAny (model prog w) A (assign (.Tuple [.Name (Str.ofString "pos") p1, .Name (Str.ofString "ch") p2] k pt) env v) (fun _ s₃ => Q1 s₃) No s₂) No s') No s := by
  subst hL
  obtain ⟨⟨old, en⟩, si, hei, heL, hiL, eB, iB, off⟩ := P
  have D := drawsStr (prog := prog) (w := w) (A := A.in1) hh it x t
  have hsz : x.cps.size = x.length := rfl
  by_cases hlt : i < x.length
  · have h1 := h1 hlt
    have heH : e < s.heap.objs.size := Heap.lt_size en
    have hLH : env.locals < s.heap.objs.size := F.ns.lt
    obtain ⟨oi, hoi, _⟩ := id si
    have hiH : it < s.heap.objs.size := Heap.lt_size hoi
    refine wpAny_pyNext_enum_itemD D en si (by omega) hei (by simpa using hei) fun v h₁ tk hP heo si₁ ht₁ hz₁ hk₁ => ?_
    obtain ⟨c, tc, hc, rfl⟩ := hP
    have hc' : c = (tl x).getD i 0 := by
      rw [List.getD_eq_getElem?_getD]
      have : (tl x)[i]? = some c := by simp only [tl]; simpa using hc
      rw [this]; rfl
    subst hc'
    refine wpAny_letOwnedTupleGo_enum heo fun h₂ he₂ hs₂ => ?_
    replace hs₂ : Heap.SameBut e h₁ h₂ := hs₂
    have ht₂ : h₂.IsTuple s.heap.objs.size #[.int i tk, .str ⟨#[(tl x).getD i 0]⟩ tc] := ⟨_, (hs₂.2 _ (Nat.ne_of_gt heH)).trans ht₁, rfl, _, rfl⟩
    have hz₂ : h₂.objs.size = s.heap.objs.size + 1 := hs₂.1.trans hz₁
    refine wpAny_assign_Tuple hh ht₂ rfl rfl fun h₃ hx₃ => ?_
    replace hx₃ : Heap.ExtBut h₂.objs.size h₂ h₃ := hx₃
    have old₃ : ∀ b o, b < s.heap.objs.size → h₂.get? b = some o → h₃.get? b = some o := fun b o hb y => hx₃ b o (by rw [hz₂]; exact Nat.ne_of_lt (Nat.lt_succ_of_lt hb)) y
    have up₃ : ∀ b o, b ≠ e → b ≠ it → s.heap.get? b = some o → h₃.get? b = some o := fun b o hbe hbi y =>
      old₃ b o (Heap.lt_size y) ((hs₂.2 b hbe).trans (hk₁ b o hbe hbi y))
    have F₃ : Fr B env.locals h₃ m := ⟨F.ns.at fun o y => up₃ _ o (Ne.symm heL) (Ne.symm hiL) y, fun b o y => up₃ b o (fun q => by subst q; rw [eB] at y; cases y) (fun q => by subst q; rw [iB] at y; cases y) (F.keep b o y), F.above⟩
    have N₃ : News B env.locals h₃ ext := fun p hp' => ⟨up₃ _ _ (off p hp').1 (off p hp').2 (N p hp').1, (N p hp').2⟩
    show wpAny (model prog w) A (do holding [.str ⟨#[(tl x).getD i 0]⟩ tc] (assign (.Name (Str.ofString "pos") p1) env (.int i tk)); do holding [] (assign (.Name (Str.ofString "ch") p2) env (.str ⟨#[(tl x).getD i 0]⟩ tc)); pure ()) _ _ _
    refine wpAny_bind (wpAny_holding (wpAny_assign_Name (wpAny_storeName_local hx1 F₃.ns (fun h₄ hn₄ hs₄ => ?_) hp)))
    replace hs₄ : Heap.SameBut env.locals h₃ h₄ := hs₄
    refine wpAny_bind (wpAny_holding (wpAny_assign_Name (wpAny_storeName_local hx2 hn₄ (fun h₅ hn₅ hs₅ => wpAny_pure ?_) hp)))
    replace hs₅ : Heap.SameBut env.locals h₄ h₅ := hs₅
    have F₄ := frStore F₃ hs₄ hn₄
    have F₅ := frStore F₄ hs₅ hn₅
    have N₅ := newsStore (newsStore N₃ hs₄) hs₅
    refine h1 h₅ _ tk tc F₅ N₅ ⟨⟨.str ⟨#[(tl x).getD i 0]⟩ tc, ?_⟩, ?_, hei, heL, hiL, eB, iB, off⟩
    · have he₂' : IsEnum h₂ e it ((i : Int) + 1) (.str ⟨#[(tl x).getD i 0]⟩ tc) := he₂
      have ei : ((i + 1 : Nat) : Int) = (i : Int) + 1 := by omega
      rw [ei]
      exact (hs₅.2 e heL).trans ((hs₄.2 e heL).trans (old₃ _ _ heH he₂'))
    · obtain ⟨o1, ho1, hr1⟩ := si₁
      have : h₂.get? it = some o1 := (hs₂.2 it (Ne.symm hei)).trans ho1
      exact ⟨o1, (hs₅.2 it hiL).trans ((hs₄.2 it hiL).trans (old₃ _ _ hiH this)), hr1⟩
  · have hin : i = x.length := by omega
    subst hin
    refine wpAny_pyNext_enum_endD D en si fun h' hx' => ?_
    refine h0 rfl h' ?_ ?_
    · exact frExtBut F hx' hiL iB
    · exact newsExtBut N hx' fun p hp' => (off p hp').2

theorem enum_make {Q : Value → Shared → Prop} {news : List (Addr × Obj)} (F : Fr B L s.heap m) (N : News B L s.heap news)
    (h : ∀ h' e it, Fr B L h' m → News B L h' news → Priv B L e it x t news 0 h' → Q (.ref e) { s with heap := h' }) : wpAny (model prog w) A (call (.type "enumerate") [.str x t]) Q E s := by
  refine call_enumerate_str fun h' he hit hsz hk => ?_
  have hLs := F.ns.lt
  have hb : B.objs.size ≤ s.heap.objs.size := Nat.le_trans F.above (Nat.le_of_lt hLs)
  refine h h' _ _ (frExt F hk) (newsExt N hk) ⟨⟨_, he⟩, hit, Nat.succ_ne_self _, Nat.ne_of_gt (Nat.lt_succ_of_lt hLs), Nat.ne_of_gt hLs, Heap.get?_none_of_le (Nat.le_succ_of_le hb), Heap.get?_none_of_le hb, fun p hp => ?_⟩
  have := Heap.lt_size (N p hp).1
  exact ⟨Nat.ne_of_lt (Nat.lt_succ_of_lt this), Nat.ne_of_lt this⟩
end
end Mine
namespace Mine

theorem gen_enter {w : World} {A : Around} {s : Shared} {K : Frag} {Q E : Value → Shared → Prop} {f : Addr} {vals : List Value} {name qual : Str} {params : Arguments} {body : List Stmt} {scope : Scope} {dV kV doc pm cdv ct oc : Value} {an od : Option Addr} {osl : Array (Option Value)} (binds : List (Str × Value))
    (X : K.In s.heap) (hlim : s.heap.NoLimit) (ho : K.lookup f = some ⟨oc, od, .func (fnOf name qual params body scope dV kV doc pm an cdv ct), osl⟩)
    (hcd : codeIn K cdv qual = true) (hroom : A.depth < recursionLimit)
    (hbind : BindsTo s (fnOf name qual params body scope dV kV doc pm an cdv ct) ⟨vals, []⟩ binds) (hloc : ∀ y ∈ binds, scope.names.lookup y.1 = some .local)
    (h : ∀ h₁ tk t1 t2, h₁.Ns s.heap.objs.size (fun y => binds.reverse.lookup y) → Ext s.heap h₁ → s.heap.objs.size < h₁.objs.size →
      Q (.ref h₁.objs.size) { s with gens := s.gens.push (.fresh (.func body (envOf qual scope s.heap.objs.size f cdv))), toks := tk, heap := h₁.push { cls := .type "generator", data := .fields #[.int s.gens.size 0, .str name t1, .str qual t2] } })
    (hco : scope.isCoroutine = false) (hgen : scope.isGenerator = true) (hk : scope.kind = .function)
    (hcell : ∀ x ∈ scope.names, x.2 ≠ .cell) : wpAny (model PySem.Challenge.rw_pg0120_01.row.prog w) A (call (.ref f) vals) Q E s := by
  refine wpAny_call ?_
  refine codeAny_call_generator (fd := fnOf name qual params body scope dV kV doc pm an cdv ct) (body := body) hroom (X _ _ ho) rfl hco hgen rfl (codeRec_of X hcd) (hbind _ _ _ _ ?_)
  refine wpAny_newFunctionEnv hcell hloc (fun h₀ hns₀ hsb₀ => ⟨hlim.fresh _ hsb₀, ?_⟩) hk
  have hext : Ext s.heap h₀ := fun b o e => hsb₀.extBut b o (Nat.ne_of_lt (Heap.lt_size e)) (Heap.get?_push_of_some _ e)
  exact h h₀ _ _ _ hns₀ hext hns₀.lt

def Rm (us : List GU) (n : Nat) (l : List GU) : Prop := us.drop (us.length - n) = l ∧ l.length = n ∧ n ≤ us.length
theorem Rm.tail {us : List GU} {n : Nat} {u : GU} {l : List GU} (h : Rm us n (u :: l)) : ∃ k, n = k + 1 ∧ us.drop (us.length - (k + 1)) = u :: us.drop (us.length - k) ∧ Rm us k l := by
  obtain ⟨h1, h2, h3⟩ := h
  subst h2
  refine ⟨l.length, rfl, ?_⟩
  have e : us.drop (us.length - l.length) = l := by
    have e1 : us.length - l.length = us.length - (u :: l).length + 1 := by
      simp only [List.length_cons] at *
      omega
    rw [e1, ← List.drop_drop, h1]
    rfl
  refine ⟨?_, e, rfl, by simp only [List.length_cons] at h3; omega⟩
  rw [e]
  exact h1

abbrev MG (esc : Bool) (p : Int) (tp : Tok) (z : Str → Option Value) : Str → Option Value := fun k =>
  if k = Str.ofString "escape" then some (.bool esc) else if k = Str.ofString "pos" then some (.int p tp) else z k

structure ExtOf (kA : List Addr) (h : Heap) (ext : List (Addr × Obj)) : Prop where
  adr : ext.map (·.1) = kA
  at' : ∀ p ∈ ext, h.get? p.1 = some p.2
theorem extOf_ex {kA : List Addr} {h : Heap} (hl : ∀ b ∈ kA, ∃ o, h.get? b = some o) : ∃ ext, ExtOf kA h ext := by
  induction kA with
  | nil => exact ⟨[], rfl, fun _ hp => nomatch hp⟩
  | cons a kA ih =>
    obtain ⟨ext, h1, h2⟩ := ih fun b hb => hl b (List.mem_cons_of_mem _ hb)
    obtain ⟨o, ho⟩ := hl a List.mem_cons_self
    refine ⟨(a, o) :: ext, by simp [h1], fun p hp => ?_⟩
    rcases List.mem_cons.mp hp with rfl | hp
    · exact ho
    · exact h2 p hp
theorem keptA_of {kA : List Addr} {B h h' : Heap} {L : Addr} {ext : List (Addr × Obj)} (x : ExtOf kA h ext) (N : News B L h' ext) : KeptA kA h h' := by
  intro b hb o ho
  rw [← x.adr] at hb
  obtain ⟨p, hp, rfl⟩ := List.mem_map.mp hb
  have := x.at' p hp
  rw [this] at ho
  rw [← ho]
  exact (N p hp).1

def GInv (B : Heap) (L e it : Addr) (x : Str) (t : Tok) (kA : List Addr) (s₀ : Shared) (i : Nat) (esc : Bool) (s : Shared) : Prop :=
  ∃ h tk ext tp z, s = { s₀ with heap := h, toks := tk } ∧ ExtOf kA s₀.heap ext ∧ Fr B L h (MG esc ((i - 1 : Nat) : Int) tp z) ∧ News B L h ext ∧ Priv B L e it x t ext i h

section
variable {w : World} {A : Around} {B : Heap} {L e it : Addr} {x : Str} {t : Tok} {kA : List Addr} {us : List GU} {env : Env} {fs : List Frame}
theorem gen_loop {p1 p2 pt : Pos} {k : Nat} {fbody : List Stmt} (hh : (A.over (.forLoop (.Tuple [.Name (Str.ofString "pos") p1, .Name (Str.ofString "ch") p2] k pt) (.ref e) fbody [] env) fs).handled = none)
    (hL : env.locals = L) (hx1 : env.kindOf (Str.ofString "pos") = some .local) (hx2 : env.kindOf (Str.ofString "ch") = some .local)
    (hp : (env.scope.kind == .class || (env.scope.kind == .module && env.locals != env.globals)) = false)
    (done : ∀ n s₀ esc h tk ext tp z, ExtOf kA s₀.heap ext → Fr B L h (MG esc ((x.length - 1 : Nat) : Int) tp z) → News B L h ext → Rm us n (unitsF x.length esc []) → Seg (model PySem.Challenge.rw_pg0120_01.row.prog w) A (GR B kA) (GY B kA us) n s₀ (.block [] env) (.pure (.done .next)) fs { s₀ with heap := h, toks := tk })
    (turn : ∀ n s₀ i esc c h tk ext tp tc z, i < x.length → c = (tl x).getD i 0 → ExtOf kA s₀.heap ext → Fr B L h (fun k => if k = Str.ofString "ch" then some (.str (ms [c]) tc) else MG esc (i : Int) tp z k) → News B L h ext → Priv B L e it x t ext (i + 1) h →
      Rm us n (unitsF i esc (c :: (tl x).drop (i + 1))) →
      (∀ n' s₀' esc' s', GInv B L e it x t kA s₀' (i + 1) esc' s' → Rm us n' (unitsF (i + 1) esc' ((tl x).drop (i + 1))) →
        Seg (model PySem.Challenge.rw_pg0120_01.row.prog w) A (GR B kA) (GY B kA us) n' s₀' (.forLoop (.Tuple [.Name (Str.ofString "pos") p1, .Name (Str.ofString "ch") p2] k pt) (.ref e) fbody [] env)
          ((model PySem.Challenge.rw_pg0120_01.row.prog w).den (.forLoop (.Tuple [.Name (Str.ofString "pos") p1, .Name (Str.ofString "ch") p2] k pt) (.ref e) fbody [] env)) fs s') →
      Seg (model PySem.Challenge.rw_pg0120_01.row.prog w) A (GR B kA) (GY B kA us) n s₀ (.forLoop (.Tuple [.Name (Str.ofString "pos") p1, .Name (Str.ofString "ch") p2] k pt) (.ref e) fbody [] env)
        ((execs fbody env).wrap (KB (.forLoop (.Tuple [.Name (Str.ofString "pos") p1, .Name (Str.ofString "ch") p2] k pt) (.ref e) fbody [] env)) (HB env) id id) fs { s₀ with heap := h, toks := tk }) :
    ∀ (d i : Nat), i + d = x.length → ∀ n s₀ esc s, GInv B L e it x t kA s₀ i esc s → Rm us n (unitsF i esc ((tl x).drop i)) →
      Seg (model PySem.Challenge.rw_pg0120_01.row.prog w) A (GR B kA) (GY B kA us) n s₀ (.forLoop (.Tuple [.Name (Str.ofString "pos") p1, .Name (Str.ofString "ch") p2] k pt) (.ref e) fbody [] env)
          ((model PySem.Challenge.rw_pg0120_01.row.prog w).den (.forLoop (.Tuple [.Name (Str.ofString "pos") p1, .Name (Str.ofString "ch") p2] k pt) (.ref e) fbody [] env)) fs s := by
  intro d
  induction d with
  | zero =>
    rintro i hi n s₀ esc s ⟨h, tk, ext, tp, z, rfl, hE, F, N, P⟩ hR
    have hi' : i = x.length := by omega
    subst hi'
    refine seg_forLoop (enum_turn hh hL hx1 hx2 hp F N P (Nat.le_refl _) (fun _ h' F' N' => ?_) fun hlt => absurd hlt (Nat.lt_irrefl _))
    have hd : (tl x).drop x.length = [] := List.drop_eq_nil_of_le (by rw [len_tl]; exact Nat.le_refl _)
    rw [hd] at hR
    exact done n s₀ esc h' tk ext tp z hE F' N' hR
  | succ d ih =>
    rintro i hi n s₀ esc s ⟨h, tk, ext, tp, z, rfl, hE, F, N, P⟩ hR
    have hlt : i < x.length := by omega
    refine seg_forLoop (enum_turn hh hL hx1 hx2 hp F N P (Nat.le_of_lt hlt) (fun he => absurd he (Nat.ne_of_lt hlt)) fun _ h' tk' tp' tc' F' N' P' => ?_)
    rw [drop_cons (by rw [len_tl]; exact hlt)] at hR
    have F'' := frSet (frSet (frSet F' (Str.ofString "pos") rfl) (Str.ofString "escape") rfl) (Str.ofString "ch") rfl
    exact turn n s₀ i esc _ h' _ ext tp' tc' _ hlt rfl hE F'' N' P' hR (fun n' s₀' esc' s' hI hr => ih (i + 1) (by omega) n' s₀' esc' s' hI hr)
end
end Mine
namespace Mine
local macro_rules | `(tactic| walk_at "call type:enumerate") => `(tactic| ((with_reducible show wpAny _ _ (call (Value.type "enumerate") [Value.str _ _]) _ _ _); (rename Fr _ _ _ _ => F'); (rename News _ _ _ _ => N'); (refine enum_make F' N' ?_); (clear F' N'); intro _ _ _ _ _ _; (try dsimp only)))

theorem seg_yield2 {M : Model} {A : Around} {R : GenEnd} {Y : Protocol} {n : Nat} {s₀ : Shared} {c : Code} {fs : List Frame} {s : Shared} {env : Env}
    {K : Flow → Sem Fin} {H : Value → Sem Fin} {gd : Bool → Bool} {lv : List Value → List Value} {e : Expr} {ypos pos : Pos} (hfs : splitAtGen fs = none) (hgd : gd false = false) (hfg : fs.any Frame.guarded = false)
    (hco : env.scope.isCoroutine = false) (hi : interactive env = false)
    (h : wpAny M (A.over c fs) (eval e env) (fun v s' => Halt (∀ kap : Resume → Shared → Prop, (∀ s'', Seg M A R Y n s'' c (K .next) fs s'' → kap (.send .none) s'') → Y n s₀ v s' kap)) No s) :
    Seg M A R Y (n + 1) s₀ c ((exec (.Expr (.Yield (some e) ypos) pos) env).wrap K H gd lv) fs s := by
  refine seg_Expr_Yield hfs hgd hfg (wpAny_mono h (fun v s' hv => ?_) fun _ _ z => z.elim) hco hi
  intro kap hk
  exact hv kap fun s'' hs => hk .none s'' hs

theorem slash_eq (c : Nat) : (ms [c] == Str.ofString "\\") = decide (c = 92) := by
  rw [show Str.ofString "\\" = ms [92] from by decide +kernel, ms_one]

theorem slash_cat (c : Nat) : Str.ofString "\\" ++ ms [c] = ms [92, c] := by
  rw [show Str.ofString "\\" = ms [92] from by decide +kernel]
  rfl
theorem priv_news {B h h0 : Heap} {L e it : Addr} {x : Str} {t : Tok} {ext : List (Addr × Obj)} {kA : List Addr} {i : Nat} (P : Priv B L e it x t ext i h) (N : News B L h ext) (hE : ExtOf kA h0 ext) :
    ∃ eo oi, News B L h ((e, eo) :: (it, oi) :: ext) ∧ (e ∉ kA ∧ it ∉ kA ∧ B.get? e = none ∧ B.get? it = none) ∧ ∀ h' ext', ext'.map (·.1) = kA → h'.get? e = some eo → h'.get? it = some oi → Priv B L e it x t ext' i h' := by
  obtain ⟨⟨old, en⟩, ⟨oi, ho, hr⟩, ne, eL, iL, eB, iB, off⟩ := P
  have offK : ∀ b ∈ kA, b ≠ e ∧ b ≠ it := by
    intro b hb
    rw [← hE.adr] at hb
    obtain ⟨p, hp, rfl⟩ := List.mem_map.mp hb
    exact off p hp
  refine ⟨_, oi, ?_, ⟨fun q => (offK _ q).1 rfl, fun q => (offK _ q).2 rfl, eB, iB⟩, fun h' ext' ha h1 h2 => ⟨⟨old, h1⟩, ⟨oi, h2, hr⟩, ne, eL, iL, eB, iB, fun p hp => offK p.1 (ha ▸ List.mem_map_of_mem hp)⟩⟩
  intro p hp
  rcases List.mem_cons.mp hp with rfl | hp
  · exact ⟨en, eL, eB⟩
  · rcases List.mem_cons.mp hp with rfl | hp
    · exact ⟨ho, iL, iB⟩
    · exact N p hp
theorem frAt {B h h' : Heap} {L : Addr} {m : Str → Option Value} (F : Fr B L h m) {o : Obj} (ho : h.get? L = some o) (ho' : h'.get? L = some o) (hB : Ext B h') : Fr B L h' m := by
  obtain ⟨oL, es, ep, hL, hr⟩ := F.ns
  rw [hL] at ho
  cases ho
  exact ⟨⟨_, es, ep, ho', hr⟩, hB, F.above⟩

theorem yield_ok {B : Heap} {kA : List Addr} {us : List GU} {n : Nat} {s₀ : Shared} {h : Heap} {tk : Nat} {L T : Addr} {m : Str → Option Value} {ext more : List (Addr × Obj)} {u : GU} {tp tc : Tok} {ps : List (Addr × Obj)} {kap : Resume → Shared → Prop}
    (hu : us.drop (us.length - (n + 1)) = u :: us.drop (us.length - n)) (F : Fr B L h m) (hE : ExtOf kA s₀.heap ext) (N : News B L h (more ++ ext)) (hT : (T, tupObj (u.1 : Nat) tp (ms u.2) tc) ∈ more)
    (hkA : ∀ b ∈ kA, B.get? b = none ∧ b ≠ L) (hps : ∀ p ∈ ps, h.get? p.1 = some p.2 ∧ p.1 ∉ kA ∧ B.get? p.1 = none)
    (hk : ∀ s'' ext'', ExtOf kA s''.heap ext'' → Fr B L s''.heap m → News B L s''.heap ext'' → (∀ p ∈ ps, s''.heap.get? p.1 = some p.2) → kap (.send .none) s'') :
    GY B kA us n s₀ (.ref T) { s₀ with heap := h, toks := tk } kap := by
  obtain ⟨oL, es, ep, hL, hr⟩ := id F.ns
  have Ne' : News B L h ext := fun p hp => N p (List.mem_append_right _ hp)
  refine ⟨u, T, tp, tc, (L, oL) :: ps, h, tk, hu, rfl, rfl, (N _ (List.mem_append_left _ hT)).1, ⟨F.keep, ?_, ?_⟩, keptA_of hE Ne', ?_, ?_⟩
  · intro p hp
    rcases List.mem_cons.mp hp with rfl | hp
    · exact hL
    · exact (hps p hp).1
  · intro b hb
    rw [← hE.adr] at hb
    obtain ⟨p, hp, rfl⟩ := List.mem_map.mp hb
    exact ⟨_, (Ne' p hp).1⟩
  · intro p hp
    rcases List.mem_cons.mp hp with rfl | hp
    · exact ⟨fun hm => (hkA _ hm).2 rfl, Heap.get?_none_of_le F.above⟩
    · exact (hps p hp).2
  · intro s'' hR
    obtain ⟨ext'', hE''⟩ := extOf_ex hR.live
    exact hk s'' ext'' hE'' (frAt F hL (hR.own _ List.mem_cons_self) hR.ext) (fun p hp => ⟨hE''.at' p hp, (hkA p.1 (hE''.adr ▸ List.mem_map_of_mem hp)).2, (hkA p.1 (hE''.adr ▸ List.mem_map_of_mem hp)).1⟩) fun p hp => hR.own p (List.mem_cons_of_mem _ hp)

def GenNew (w : World) (B : Heap) (L : Addr) (g : Nat) (us : List GU) (gs : GenState) (h : Heap) : Prop :=
  ∃ oL, h.get? L = some oL ∧ ∀ kA dp' un' fr' gd' s'', (∀ b ∈ kA, B.get? b = none ∧ b ≠ L) → s''.gens[g]? = some gs → Ready B kA [(L, oL)] s''.heap → GenLive w (Ar dp' un' fr' gd') B kA g us [(L, oL)] s''
theorem GenNew.live {w : World} {B : Heap} {L : Addr} {us : List GU} {gs : GenState} {h : Heap} {s : Shared} {tk : Nat} (n : GenNew w B L s.gens.size us gs h) (hB : Ext B h) :
    ∀ kA dp' un' fr' gd', (∀ b ∈ kA, B.get? b = none ∧ b ≠ L) → (∀ b ∈ kA, ∃ o, h.get? b = some o) → ∃ oL, GenLive w (Ar dp' un' fr' gd') B kA s.gens.size us [(L, oL)] { s with heap := h, toks := tk, gens := s.gens.push gs } := by
  obtain ⟨oL, hL, n⟩ := n
  intro kA dp' un' fr' gd' h1 h2
  exact ⟨oL, n kA dp' un' fr' gd' _ h1 Array.getElem?_push_size ⟨hB, fun p hp => by rw [List.mem_singleton.mp hp]; exact hL, h2⟩⟩

theorem gen_call {w : World} {dp un : Nat} {fr : Option (List Env)} {gd : Option (List Code)} {s : Shared} {Q E : Value → Shared → Prop} {mean mg mb} {x : Str} {t : Tok} {B : Heap}
    (X : (hd.heap_39 w.params).In B) (T : Top hd.view_39 (looseW hd.view_39 []) mean mg mb B) (hB : Ext B s.heap) (hBs : B.objs.size ≤ s.heap.objs.size) (hx : x.length ≤ 1000) (hroom : dp + 3 < recursionLimit)
    (hQ : ∀ a L h' tk' gs, Ext s.heap h' → h'.IsGen a s.gens.size → s.heap.get? a = none → s.heap.get? L = none → a ≠ L →
      GenNew w B L s.gens.size (unitsF 0 false (tl x)) gs h' →
      Q (.ref a) { s with heap := h', toks := tk', gens := s.gens.push gs }) :
    wpAny (model PySem.Challenge.rw_pg0120_01.row.prog w) (Ar dp un fr gd) (call (.ref 21) [.str x t]) Q E s := by
  revert X T
  w_top off
  k_fill
  intro X T
  refine' gen_enter (K := hd.heap_39 w.params) [(Str.ofString "addr", .str x t)] (X.keeps hB) (T.nolimit.keeps hB) ?ho ?hcd ?hroom ?hbind ?hloc ?_ ?c1 ?c2 ?c3 ?c4
  case ho => k_is
  case hcd => k_is
  case hroom => show dp < recursionLimit; omega
  case hbind => exact BindsTo.of_eq rfl
  case hloc => exact locs rfl
  case c1 => rfl
  case c2 => rfl
  case c3 => rfl
  case c4 => decide
  intro h₁ tk t1 t2 hns hext hlt
  have hpush : Ext h₁ (h₁.push { cls := .type "generator", data := .fields #[.int s.gens.size 0, .str (Str.ofString "_iter_escaped_chars") t1, .str (Str.ofString "_iter_escaped_chars") t2] }) := fun b o e => Heap.get?_push_of_some _ e
  refine hQ h₁.objs.size s.heap.objs.size _ _ _ (fun b o e => hpush b o (hext b o e)) ⟨_, _, _, Heap.get?_push_size _ rfl, rfl, rfl, rfl⟩ (Heap.get?_none_of_le (Nat.le_of_lt hlt)) (Heap.get?_none_of_le (Nat.le_refl _)) (Nat.ne_of_gt hlt) ?_
  obtain ⟨oL, es, ep, hL, hLr⟩ := id hns
  refine ⟨oL, hpush _ _ hL, ?_⟩
  intro kA dp' un' fr' gd' s9 hkA hs9 hR9
  refine ⟨_, unitsF 0 false (tl x), hs9, hR9, ?_, ?_, Nat.le_refl _, ?_⟩
  · intro p hp
    rw [List.mem_singleton.mp hp]
    exact ⟨fun hm => (hkA _ hm).2 rfl, Heap.get?_none_of_le hBs⟩
  · simp
  clear hR9 hs9
  intro s' hR
  refine ⟨rfl, ?_⟩
  obtain ⟨ext, hE⟩ := extOf_ex hR.live
  have hL' : s'.heap.get? s.heap.objs.size = some oL := hR.own _ List.mem_cons_self
  have F : Fr B s.heap.objs.size s'.heap (fun y => [(Str.ofString "addr", Value.str x t)].reverse.lookup y) := ⟨⟨oL, es, ep, hL', hLr⟩, hR.ext, hBs⟩
  have N : News B s.heap.objs.size s'.heap ext := fun p hp => ⟨hE.at' p hp, (hkA p.1 (hE.adr ▸ List.mem_map_of_mem hp)).2, (hkA p.1 (hE.adr ▸ List.mem_map_of_mem hp)).1⟩
  generalize s.heap.objs.size = L at *
  refine seg_func ?_
  refine seg_stmt ?_
  k_steps
  refine ⟨rfl, ?_⟩
  refine seg_stmt ?_
  k_steps
  refine ⟨rfl, ?_⟩
  refine seg_execs_cons (seg_For (by intro _; rfl) ?_)
  k_steps
  rename Fr _ _ _ _ => F1
  rename News _ _ _ _ => N1
  rename Priv _ _ _ _ _ _ _ _ _ => P1
  rename_i eA iA
  obtain ⟨old, en⟩ := id P1.en
  refine wpAny_pyIter_enum en ?_
  intro p
  have F2 := frSet (frSet F1 (Str.ofString "pos") rfl) (Str.ofString "escape") rfl
  refine gen_loop (x := x) (t := t) (L := L) (us := unitsF 0 false (tl x)) rfl rfl rfl rfl rfl ?done ?turn x.length 0 (by omega) _ s' false _ ⟨_, _, ext, _, _, rfl, hE, F2, N1, P1⟩ ⟨by simp, rfl, Nat.le_refl _⟩
  case done =>
    clear F1 N1 P1 F2 hE en
    intro n s₀ esc h tk ext tp z hE F N hRm
    refine seg_leaf (.ok .next) ?_
    refine seg_execs_cons (seg_If ?_)
    k_steps
    cases esc with
    | false =>
      have hn : n = 0 := hRm.2.1.symm
      subst hn
      exact seg_execs_nil (seg_execs_nil (seg_end (.ok (.ret .none)) ⟨rfl, rfl, h, tk, rfl, F.keep, keptA_of hE N⟩))
    | true =>
      obtain ⟨k, rfl, hu, hRm'⟩ := Rm.tail hRm
      refine seg_execs_cons (seg_yield2 rfl rfl rfl rfl rfl ?_)
      k_steps
      rename Fr _ _ _ _ => F7
      rename News _ _ _ _ => N7
      intro kap hkap
      refine yield_ok (more := [_]) hu F7 hE N7 List.mem_cons_self hkA (ps := []) (fun _ hp => nomatch hp) ?_
      intro s'' ext'' hE'' F'' N'' _
      refine hkap s'' ?_
      have hk : k = 0 := hRm'.2.1.symm
      subst hk
      exact seg_execs_nil (seg_execs_nil (seg_end (.ok (.ret .none)) ⟨rfl, rfl, s''.heap, s''.toks, rfl, F''.keep, fun _ _ _ z => z⟩))
  case turn =>
    clear F1 N1 P1 F2 hE en
    intro n s₀ i esc c h tk ext tp tc z hi hc hE F N P hRm ih
    obtain ⟨eo, oi, N2, ⟨hek, hik, heB, hiB⟩, hP⟩ := priv_news P N hE
    clear N P
    have hps : ∀ h', News B L h' [(eA, eo), (iA, oi)] → ∀ p ∈ [(eA, eo), (iA, oi)], h'.get? p.1 = some p.2 ∧ p.1 ∉ kA ∧ B.get? p.1 = none := by
      intro h' N' p hp
      refine ⟨(N' p hp).1, ?_⟩
      rcases List.mem_cons.mp hp with rfl | hp
      · exact ⟨hek, heB⟩
      · rw [List.mem_singleton.mp hp]
        exact ⟨hik, hiB⟩
    refine seg_execs_cons (seg_If ?_)
    k_steps
    cases esc with
    | true =>
      obtain ⟨k, rfl, hu, hRm'⟩ := Rm.tail hRm
      refine seg_execs_cons (seg_yield2 rfl rfl rfl rfl rfl ?_)
      k_steps
      rename Fr _ _ _ _ => F7
      rename News _ _ _ _ => N7
      rw [slash_cat] at N7
      intro kap hkap
      refine yield_ok (more := [_, _, _]) hu F7 hE N7 List.mem_cons_self hkA (ps := [(eA, eo), (iA, oi)]) (hps _ fun p hp => N7 p (List.mem_cons_of_mem _ (List.mem_append_left ext hp))) ?_
      clear F7 N7
      intro s'' ext'' hE'' F'' N'' hown
      refine hkap s'' ?_
      refine seg_stmt ?_
      have hP'' := hP s''.heap ext'' hE''.adr (hown _ List.mem_cons_self) (hown _ (List.mem_cons_of_mem _ List.mem_cons_self))
      obtain ⟨eo2, oi2, N3, _, hP3⟩ := priv_news hP'' N'' hE''
      clear N''
      k_steps
      rename Fr _ _ _ _ => F8
      rename News _ _ _ _ => N8
      refine ⟨rfl, ?_⟩
      refine seg_execs_nil (seg_execs_nil (seg_again rfl ?_))
      have F9 := frSet (frSet F8 (Str.ofString "pos") rfl) (Str.ofString "escape") rfl
      exact ih k s'' false _ ⟨_, _, ext'', _, _, rfl, hE'', F9, fun p hp => N8 p (List.mem_cons_of_mem _ (List.mem_cons_of_mem _ hp)), hP3 _ ext'' hE''.adr (N8 _ List.mem_cons_self).1 (N8 _ (List.mem_cons_of_mem _ List.mem_cons_self)).1⟩ hRm'
    | false =>
      refine seg_execs_cons (seg_If ?_)
      k_steps
      rw [slash_eq]
      by_cases hc92 : c = 92
      · rw [decide_eq_true hc92]
        show Seg _ _ _ _ _ _ _ _ _ _
        rw [show unitsF i false (c :: (tl x).drop (i + 1)) = unitsF (i + 1) true ((tl x).drop (i + 1)) from by rw [unitsF, if_pos hc92]] at hRm
        refine seg_stmt ?_
        k_steps
        rename Fr _ _ _ _ => F8
        rename News _ _ _ _ => N8
        refine ⟨rfl, ?_⟩
        refine seg_execs_nil (seg_execs_nil (seg_execs_nil (seg_again rfl ?_)))
        have F9 := frSet (frSet F8 (Str.ofString "pos") rfl) (Str.ofString "escape") rfl
        exact ih n s₀ true _ ⟨_, _, ext, _, _, rfl, hE, F9, fun p hp => N8 p (List.mem_cons_of_mem _ (List.mem_cons_of_mem _ hp)), hP _ ext hE.adr (N8 _ List.mem_cons_self).1 (N8 _ (List.mem_cons_of_mem _ List.mem_cons_self)).1⟩ hRm
      · rw [decide_eq_false hc92]
        show Seg _ _ _ _ _ _ _ _ _ _
        rw [show unitsF i false (c :: (tl x).drop (i + 1)) = (i, [c]) :: unitsF (i + 1) false ((tl x).drop (i + 1)) from by rw [unitsF, if_neg hc92]] at hRm
        obtain ⟨k, rfl, hu, hRm'⟩ := Rm.tail hRm
        refine seg_execs_cons (seg_yield2 rfl rfl rfl rfl rfl ?_)
        k_steps
        rename Fr _ _ _ _ => F7
        rename News _ _ _ _ => N7
        intro kap hkap
        refine yield_ok (more := [_, _, _]) hu F7 hE N7 List.mem_cons_self hkA (ps := [(eA, eo), (iA, oi)]) (hps _ fun p hp => N7 p (List.mem_cons_of_mem _ (List.mem_append_left ext hp))) ?_
        clear F7 N7
        intro s'' ext'' hE'' F'' N'' hown
        refine hkap s'' ?_
        have hP'' := hP s''.heap ext'' hE''.adr (hown _ List.mem_cons_self) (hown _ (List.mem_cons_of_mem _ List.mem_cons_self))
        refine seg_execs_nil (seg_execs_nil (seg_execs_nil (seg_again rfl ?_)))
        have F9 := frSet (frSet F'' (Str.ofString "pos") rfl) (Str.ofString "escape") rfl
        exact ih k s'' false _ ⟨s''.heap, s''.toks, ext'', _, _, rfl, hE'', F9, N'', hP''⟩ hRm'
end Mine
namespace Mine
def ItPostG (prog : Program) (w : World) (A : Around) (env : Env) (target : Expr) (body : List Stmt) (Q : Flow → Shared → Prop) (it : Value) (s₂ : Shared) : Prop :=
  ∃ (I : Nat → Shared → Prop) (n : Nat), I n s₂ ∧
    ∀ n s, I n s → wpAny (model prog w) A (pyNext it) (fun r s₁ => match r with
      | none => Q .next s₁
      | some v => wpAny (model prog w) A (letOwnedTupleGo target it v) (fun _ s₁ => wpAny (model prog w) A (assign target env v) (fun _ s₂ => wpAny (model prog w) A (execs body env) (fun f s₃ => match f with
          | .next | .cont => Less I n s₃
          | .brk => Q .next s₃
          | .ret v => Q (.ret v) s₃) No s₂) No s₁) No s₁) No s

theorem for_invG {prog : Program} {w : World} {A : Around} {E : Value → Shared → Prop} {s : Shared} {env : Env} {target iter : Expr} {body : List Stmt} {pos : Pos} {Q : Flow → Shared → Prop}
    (h : wpAny (model prog w) A (eval iter env) (fun x s₁ => wpAny (model prog w) A (pyIter x) (ItPostG prog w A env target body Q) No s₁) No s)
    (hs : ∀ x, foldedSetIterable iter env x = pure x := by intro _; rfl) :
    wpAny (model prog w) A (exec (.For target iter body [] pos) env) Q E s := by
  refine wpAny_For (wpAny_mono h (fun x s₁ h₁ => wpAny_mono h₁ (fun it s₂ h₂ => ?_) fun _ _ x => x.elim) fun _ _ x => x.elim) hs
  obtain ⟨I, n, hI, turn⟩ := h₂
  refine codeAny_forLoop_any I (fun n s hI => ?_) n hI
  refine wpAny_mono (turn n s hI) (fun r s₂ h₂ => ?_) fun _ _ x => x.elim
  cases r with
  | none => exact wpAny_execs_nil h₂
  | some v => exact wpAny_mono h₂ (fun _ s₃ h₃ => wpAny_mono h₃ (fun _ s₃ h₃ => wpAny_mono h₃ (fun f s₄ h₄ => by cases f <;> exact h₄) fun _ _ x => x.elim) fun _ _ x => x.elim) fun _ _ x => x.elim

def GStep (B : Heap) (L : Addr) (s : Shared) (gl : List (Addr × Obj)) (as : List Addr) (P : (Str → Option Value) → List (Addr × Obj) → Prop) (s' : Shared) : Prop :=
  ∃ h' tk' m' own' led, s' = { s with heap := h', toks := tk' } ∧ Fr B L h' m' ∧ News B L h' led ∧ (∀ p ∈ own', p ∈ led) ∧ (∀ p ∈ gl, p ∈ led) ∧ own'.map (·.1) = as ∧ P m' own'

theorem go_gen {M : Model} {A : Around} {E : Value → Shared → Prop} {s : Shared} {elts : List Expr} {k : Nat} {pos : Pos} {a T : Addr} {g : Nat} {Q : Unit → Shared → Prop} (hg : s.heap.IsGen a g) (h : Q () s) :
    wpAny M A (letOwnedTupleGo (.Tuple elts k pos) (.ref a) (.ref T)) Q E s := by
  obtain ⟨o, nm, qn, ho, hc, hd, hs⟩ := hg
  unfold letOwnedTupleGo
  refine wpAny_bind (wpAny_load ho ?_)
  obtain ⟨c, dct, dt, sl⟩ := o
  cases hc
  cases hd
  show wpAny M A (if (["enumerate", "zip", "dict_itemiterator", "dict_reverseitemiterator", "odict_iterator", "itertools.zip_longest", "itertools.pairwise"].contains "generator" && _) = true then _ else _) Q E s
  rw [if_neg (by simp)]
  exact wpAny_pure h

theorem gen_for {w : World} {dp un : Nat} {fr : Option (List Env)} {gd : Option (List Code)} {s : Shared} {env : Env} {B : Heap} {L a : Addr} {g : Nat} {n1 n2 : Str} {p1 p2 pt : Pos} {k : Nat} {body : List Stmt} {Q : Flow → Shared → Prop}
    {m₀ : Str → Option Value} {own₀ : List (Addr × Obj)} {us : List GU} (P : List GU → (Str → Option Value) → List (Addr × Obj) → Prop)
    (hx1 : env.kindOf n1 = some .local) (hx2 : env.kindOf n2 = some .local) (hp : (env.scope.kind == .class || (env.scope.kind == .module && env.locals != env.globals)) = false)
    (hroom : dp < recursionLimit) (hlim : B.NoLimit)
    (F : Fr B env.locals s.heap m₀) (N : News B env.locals s.heap own₀) (hgen : s.heap.IsGen a g) (hg : g < s.gens.size) (haB : B.get? a = none) (haL : a ≠ env.locals) (hao : ∀ p ∈ own₀, p.1 ≠ a)
    (hL1 : L ≠ env.locals) (hL2 : L ≠ a) (hL3 : ∀ p ∈ own₀, p.1 ≠ L)
    (live : ∀ kA dp' un' fr' gd', (∀ b ∈ kA, B.get? b = none ∧ b ≠ L) → (∀ b ∈ kA, ∃ o, s.heap.get? b = some o) → ∃ oL, GenLive w (Ar dp' un' fr' gd') B kA g us [(L, oL)] s)
    (h0 : P us m₀ own₀)
    (turn : ∀ u rest m own h tk gens' gl tp tc, P (u :: rest) m own → own.map (·.1) = own₀.map (·.1) → OwnOff gl (own₀.map (·.1)) →
      Fr B env.locals h (fun z => if z = n2 then some (.str (ms u.2) tc) else if z = n1 then some (.int (u.1 : Nat) tp) else m z) → News B env.locals h (own ++ gl) →
      wpAny (model PySem.Challenge.rw_pg0120_01.row.prog w) (Ar dp un fr gd) (execs body env) (fun f s₃ => match f with
        | .next | .cont => GStep B env.locals { s with heap := h, toks := tk, gens := gens' } gl (own₀.map (·.1)) (P rest) s₃
        | .brk => Q .next s₃
        | .ret v => Q (.ret v) s₃) No { s with heap := h, toks := tk, gens := gens' })
    (done : ∀ m own h tk gens', P [] m own → Fr B env.locals h m → News B env.locals h own → Q .next { s with heap := h, toks := tk, gens := gens' }) :
    wpAny (model PySem.Challenge.rw_pg0120_01.row.prog w) (Ar dp un fr gd) (pyIter (.ref a)) (ItPostG PySem.Challenge.rw_pg0120_01.row.prog w (Ar dp un fr gd) env (.Tuple [.Name n1 p1, .Name n2 p2] k pt) body Q) No s := by
  obtain ⟨oa, nm, qn, hoa, hga⟩ := id hgen
  obtain ⟨oLc, _, _, hLc, _⟩ := id F.ns
  have hLcB : B.get? env.locals = none := Heap.get?_none_of_le F.above
  obtain ⟨oL, G⟩ := live (env.locals :: a :: own₀.map (·.1)) dp un fr gd (by
      intro b hb
      rcases List.mem_cons.mp hb with rfl | hb
      · exact ⟨hLcB, Ne.symm hL1⟩
      · rcases List.mem_cons.mp hb with rfl | hb
        · exact ⟨haB, Ne.symm hL2⟩
        · obtain ⟨p, hp', rfl⟩ := List.mem_map.mp hb
          exact ⟨(N p hp').2.2, hL3 p hp'⟩) (by
      intro b hb
      rcases List.mem_cons.mp hb with rfl | hb
      · exact ⟨_, hLc⟩
      · rcases List.mem_cons.mp hb with rfl | hb
        · exact ⟨_, hoa⟩
        · obtain ⟨p, hp', rfl⟩ := List.mem_map.mp hb
          exact ⟨_, (N p hp').1⟩)
  refine wpAny_pyIter_gen hgen ?_
  refine ⟨fun k s' => ∃ rest h tk gens' m own fp, s' = { s with heap := h, toks := tk, gens := gens' } ∧ Fr B env.locals h m ∧ News B env.locals h own ∧ own.map (·.1) = own₀.map (·.1) ∧ h.get? a = some oa ∧ g < gens'.size ∧
      GenLive w (Ar dp un fr gd) B (env.locals :: a :: own₀.map (·.1)) g rest fp s' ∧ P rest m own ∧ k = rest.length, us.length, ⟨us, s.heap, s.toks, s.gens, m₀, own₀, _, rfl, F, N, rfl, hoa, hg, G, h0, rfl⟩, ?_⟩
  rintro k s' ⟨rest, h, tk, gens', m, own, fp, rfl, F', N', hmap, hoa', hg', G', hP, rfl⟩
  have kL : env.locals ∈ env.locals :: a :: own₀.map (·.1) := List.mem_cons_self
  have ka : a ∈ env.locals :: a :: own₀.map (·.1) := List.mem_cons_of_mem _ List.mem_cons_self
  have ko : ∀ p ∈ own, p.1 ∈ env.locals :: a :: own₀.map (·.1) := fun p hp' => List.mem_cons_of_mem _ (List.mem_cons_of_mem _ (hmap ▸ List.mem_map_of_mem hp'))
  refine gen_next rfl (hlim.keeps F'.keep) hroom ⟨oa, nm, qn, hoa', hga⟩ hg' G' ?_ ?_
  · rintro rfl h' tk' gs' hE hK
    exact done m own h' tk' gs' hP ⟨F'.ns.at fun o e => hK _ kL o e, hE, F'.above⟩ fun p hp' => ⟨hK _ (ko p hp') _ (N' p hp').1, (N' p hp').2⟩
  · rintro u rest' rfl T tp tc fp' s'' hT hK hsz hdr hos G''
    obtain ⟨h2, gens2, d2, tk2, os2⟩ := s''
    change d2 = s.drawn at hdr
    change os2 = s.os at hos
    subst hdr hos
    change h2.get? T = _ at hT
    change KeptA _ h h2 at hK
    change gens2.size = gens'.size at hsz
    obtain ⟨gs2, us2, hgs2, hR2, hoff2, hus2, hul2, hgo2⟩ := G''
    have hoa2 : h2.get? a = some oa := hK _ ka _ hoa'
    refine go_gen ⟨oa, nm, qn, hoa2, hga⟩ ?_
    have ht : (⟨h2, gens2, s.drawn, tk2, s.os⟩ : Shared).heap.IsTuple T #[.int (u.1 : Nat) tp, .str (ms u.2) tc] := ⟨_, hT, rfl, _, rfl⟩
    refine wpAny_assign_Tuple rfl ht rfl rfl fun h₃ hx₃ => ?_
    replace hx₃ : Heap.ExtBut h2.objs.size h2 h₃ := hx₃
    have up₃ : Ext h2 h₃ := fun b o e => hx₃ b o (Nat.ne_of_lt (Heap.lt_size e)) e
    have F₃ : Fr B env.locals h₃ m := ⟨F'.ns.at fun o e => up₃ _ _ (hK _ kL o e), fun b o e => up₃ b o (hR2.ext b o e), F'.above⟩
    have N₃ : News B env.locals h₃ (own ++ ((a, oa) :: fp')) := by
      intro p hp'
      rcases List.mem_append.mp hp' with hp' | hp'
      · exact ⟨up₃ _ _ (hK _ (ko p hp') _ (N' p hp').1), (N' p hp').2⟩
      · rcases List.mem_cons.mp hp' with rfl | hp'
        · exact ⟨up₃ _ _ hoa2, haL, haB⟩
        · exact ⟨up₃ _ _ (hR2.own p hp'), fun e => (hoff2 p hp').1 (by rw [e]; exact kL), (hoff2 p hp').2⟩
    show wpAny _ _ (do holding [.str (ms u.2) tc] (assign (.Name n1 p1) env (.int (u.1 : Nat) tp)); do holding [] (assign (.Name n2 p2) env (.str (ms u.2) tc)); pure ()) _ _ _
    refine wpAny_bind (wpAny_holding (wpAny_assign_Name (wpAny_storeName_local hx1 F₃.ns (fun h₄ hn₄ hs₄ => ?_) hp)))
    replace hs₄ : Heap.SameBut env.locals h₃ h₄ := hs₄
    refine wpAny_bind (wpAny_holding (wpAny_assign_Name (wpAny_storeName_local hx2 hn₄ (fun h₅ hn₅ hs₅ => wpAny_pure ?_) hp)))
    replace hs₅ : Heap.SameBut env.locals h₄ h₅ := hs₅
    have F₅ := frStore (frStore F₃ hs₄ hn₄) hs₅ hn₅
    have N₅ := newsStore (newsStore N₃ hs₄) hs₅
    have hoff : OwnOff ((a, oa) :: fp') (own₀.map (·.1)) := by
      intro p hp' b hb e
      rcases List.mem_cons.mp hp' with rfl | hp'
      · obtain ⟨q, hq, rfl⟩ := List.mem_map.mp hb
        exact hao q hq e.symm
      · exact (hoff2 p hp').1 (by rw [e]; exact List.mem_cons_of_mem _ (List.mem_cons_of_mem _ hb))
    refine wpAny_mono (turn u rest' m own h₅ _ gens2 _ tp tc hP hmap hoff F₅ N₅) (fun f s₃ h₃ => ?_) fun _ _ e => e
    have fin : GStep B env.locals { s with heap := h₅, toks := tk2 + 1 + 1, gens := gens2 } ((a, oa) :: fp') (own₀.map (·.1)) (P rest') s₃ → Less (fun k s' => ∃ rest h tk gens' m own fp, s' = { s with heap := h, toks := tk, gens := gens' } ∧ Fr B env.locals h m ∧ News B env.locals h own ∧ own.map (·.1) = own₀.map (·.1) ∧ h.get? a = some oa ∧ g < gens'.size ∧
      GenLive w (Ar dp un fr gd) B (env.locals :: a :: own₀.map (·.1)) g rest fp s' ∧ P rest m own ∧ k = rest.length) (u :: rest').length s₃ := by
      rintro ⟨h', tk', m', own', led, rfl, F6, N6, i1, i2, i3, i4⟩
      refine ⟨rest'.length, Nat.lt_succ_self _, rest', h', tk', gens2, m', own', fp', rfl, F6, fun p hp' => N6 p (i1 p hp'), i3, (N6 _ (i2 _ List.mem_cons_self)).1, by omega, ⟨gs2, us2, hgs2, ⟨F6.keep, fun p hp' => (N6 p (i2 p (List.mem_cons_of_mem _ hp'))).1, ?_⟩, hoff2, hus2, hul2, hgo2⟩, i4, rfl⟩
      intro b hb
      rcases List.mem_cons.mp hb with rfl | hb
      · obtain ⟨o6, _, _, ho6, _⟩ := F6.ns
        exact ⟨o6, ho6⟩
      · rcases List.mem_cons.mp hb with rfl | hb
        · exact ⟨_, (N6 _ (i2 _ List.mem_cons_self)).1⟩
        · rw [← i3] at hb
          obtain ⟨p, hp', rfl⟩ := List.mem_map.mp hb
          exact ⟨_, (N6 p (i1 p hp')).1⟩
    cases f with
    | next => exact fin h₃
    | cont => exact fin h₃
    | brk => exact h₃
    | ret v => exact h₃
end Mine
namespace Mine
def stripLoop (x : Str) : List GU → Nat → Option Nat → List Str → Nat × List Str
  | [], st, _, res => (st, res)
  | u :: us, st, none, res => if u.2 = [34] then stripLoop x us st (some u.1) res else stripLoop x us st none res
  | u :: us, st, some q, res => if u.2 = [34] then stripLoop x us (u.1 + 1) none (if (st : Int) = q then res else res ++ [Txt.slice x (some (st : Int)) (some (q : Int))]) else stripLoop x us st (some q) res
def stripS (x : Str) : Str :=
  if (Builtin.Str.occurrences x (Str.ofString "\"") 0 x.length 1).isEmpty then x else
    let r := stripLoop x (unitsF 0 false (tl x)) 0 none []
    Txt.join (Str.ofString "") (if r.1 < x.length then r.2 ++ [Txt.slice x (some (r.1 : Int)) none] else r.2)

def opVal : Option Nat → Tok → Value
  | none, _ => .none
  | some q, t => .int (q : Int) t
abbrev MS (x : Str) (t : Tok) (st : Nat) (op : Value) (D : Addr) (ts : Tok) (z : Str → Option Value) : Str → Option Value := fun k =>
  if k = Str.ofString "result" then some (.ref D) else if k = Str.ofString "open_pos" then some op else if k = Str.ofString "start" then some (.int (st : Int) ts) else if k = Str.ofString "addr" then some (.str x t) else z k
def PS (x : Str) (t : Tok) (D : Addr) (us : List GU) (rest : List GU) (m : Str → Option Value) (own : List (Addr × Obj)) : Prop :=
  ∃ z st op ts tq vs c res, m = MS x t st (opVal op tq) D ts z ∧ own = [(D, listOf vs.toArray c)] ∧ StrsAre vs res ∧ stripLoop x rest st op res = stripLoop x us 0 none [] ∧ vs.length + rest.length ≤ us.length ∧ ∀ y ∈ res, y.length ≤ x.length

theorem quote_eq (l : List Nat) : (ms l == Str.ofString "\"") = decide (l = [34]) := by
  rw [show Str.ofString "\"" = ms [34] from by decide +kernel, beq_str]
theorem unitsF_len (l : List Nat) : ∀ p e, (unitsF p e l).length ≤ l.length + 1 := by
  induction l with
  | nil => intro p e; cases e <;> simp [unitsF]
  | cons c l ih =>
    intro p e
    have h1 := ih (p + 1) false
    have h2 := ih (p + 1) true
    cases e with
    | true => simp only [unitsF, List.length_cons]; omega
    | false =>
      unfold unitsF
      split <;> simp only [List.length_cons] <;> omega
theorem strip_n1 {x : Str} {u : GU} {rest : List GU} {st : Nat} {res : List Str} (h : (ms u.2 == Str.ofString "\"") = true) : stripLoop x (u :: rest) st none res = stripLoop x rest st (some u.1) res := by
  rw [quote_eq] at h
  rw [stripLoop, if_pos (of_decide_eq_true h)]
theorem strip_n2 {x : Str} {u : GU} {rest : List GU} {st : Nat} {res : List Str} (h : (ms u.2 == Str.ofString "\"") = false) : stripLoop x (u :: rest) st none res = stripLoop x rest st none res := by
  rw [quote_eq] at h
  rw [stripLoop, if_neg (of_decide_eq_false h)]
theorem strip_s1 {x : Str} {u : GU} {rest : List GU} {st q : Nat} {res : List Str} (h : (ms u.2 == Str.ofString "\"") = true) (hq : ¬ (st : Int) = q) : stripLoop x (u :: rest) st (some q) res = stripLoop x rest (u.1 + 1) none (res ++ [Txt.slice x (some (st : Int)) (some (q : Int))]) := by
  rw [quote_eq] at h
  rw [stripLoop, if_pos (of_decide_eq_true h), if_neg hq]
theorem strip_s2 {x : Str} {u : GU} {rest : List GU} {st q : Nat} {res : List Str} (h : (ms u.2 == Str.ofString "\"") = true) (hq : (st : Int) = q) : stripLoop x (u :: rest) st (some q) res = stripLoop x rest (u.1 + 1) none res := by
  rw [quote_eq] at h
  rw [stripLoop, if_pos (of_decide_eq_true h), if_pos hq]
theorem strip_s3 {x : Str} {u : GU} {rest : List GU} {st q : Nat} {res : List Str} (h : (ms u.2 == Str.ofString "\"") = false) : stripLoop x (u :: rest) st (some q) res = stripLoop x rest st (some q) res := by
  rw [quote_eq] at h
  rw [stripLoop, if_neg (of_decide_eq_false h)]
theorem strs_snoc {vs : List Value} {res : List Str} {y : Str} {t : Tok} (h : StrsAre vs res) : StrsAre (vs ++ [.str y t]) (res ++ [y]) := by
  induction h with
  | nil => exact .cons y t .nil
  | cons a b _ ih => exact .cons a b ih
theorem strs_pairs {vs : List Value} {res : List Str} (h : StrsAre vs res) : ∃ l : List (Str × Tok), strValues l = vs ∧ l.map (·.1) = res := by
  induction h with
  | nil => exact ⟨[], rfl, rfl⟩
  | cons y t _ ih =>
    obtain ⟨l, h1, h2⟩ := ih
    exact ⟨(y, t) :: l, by rw [← h1]; rfl, by rw [← h2]; rfl⟩
theorem sum_le {res : List Str} {k : Nat} (h : ∀ y ∈ res, y.length ≤ k) : (res.map Str.length).sum ≤ res.length * k := by
  induction res with
  | nil => simp
  | cons y r ih =>
    have h1 := h y List.mem_cons_self
    have h2 := ih fun z hz => h z (List.mem_cons_of_mem _ hz)
    simp only [List.map_cons, List.sum_cons, List.length_cons, Nat.succ_mul]
    omega
theorem join_rule {prog : Program} {w : World} {A : Around} {E : Value → Shared → Prop} {s : Shared} {Q : Value → Shared → Prop} {D : Addr} {vs : List Value} {res : List Str} {t : Tok} (hl : s.heap.IsList D vs.toArray) (hs : StrsAre vs res) (hsz : (res.map Str.length).sum ≤ 10000000)
    (hq : ∀ t' k, Q (.str (Txt.join (Str.ofString "") res) t') { s with toks := k }) : wpAny (model prog w) A (call (.builtin "str.join") [.str (Str.ofString "") t, .ref D]) Q E s := by
  obtain ⟨l, h1, h2⟩ := strs_pairs hs
  subst h1
  refine SC.join hl h2 ?_ hq
  unfold JoinOk
  rw [StrLaws.joinTotal]
  have e : (Str.ofString "").length = 0 := by decide +kernel
  rw [e, Nat.mul_zero, Nat.add_zero, Bool.not_eq_true']
  unfold Builtin.Str.tooLong sizeLine
  refine decide_eq_false ?_
  have : (res.map (·.length)).sum = (res.map Str.length).sum := rfl
  omega
theorem strip_end1 {x : Str} {st : Nat} {op : Option Nat} {res : List Str} (h : (Builtin.Str.occurrences x (Str.ofString "\"") 0 x.length 1).isEmpty = false) (hl : stripLoop x [] st op res = stripLoop x (unitsF 0 false (tl x)) 0 none []) (hs : st < x.length) :
    Txt.join (Str.ofString "") (res ++ [Txt.slice x (some (st : Int)) none]) = stripS x := by
  unfold stripS
  rw [h, ← hl]
  simp [stripLoop, hs]
theorem strip_end2 {x : Str} {st : Nat} {op : Option Nat} {res : List Str} (h : (Builtin.Str.occurrences x (Str.ofString "\"") 0 x.length 1).isEmpty = false) (hl : stripLoop x [] st op res = stripLoop x (unitsF 0 false (tl x)) 0 none []) (hs : ¬ st < x.length) :
    Txt.join (Str.ofString "") res = stripS x := by
  unfold stripS
  rw [h, ← hl]
  simp [stripLoop, hs]
theorem strip_end0 {x : Str} (h : (Builtin.Str.occurrences x (Str.ofString "\"") 0 x.length 1).isEmpty = true) : x = stripS x := by
  unfold stripS
  rw [h]
  rfl
theorem fresh_facts {B h : Heap} {L a : Addr} {m : Str → Option Value} {own : List (Addr × Obj)} (F : Fr B L h m) (N : News B L h own) (ha : h.get? a = none) : B.get? a = none ∧ a ≠ L ∧ ∀ p ∈ own, p.1 ≠ a := by
  refine ⟨?_, ?_, fun p hp e => ?_⟩
  · cases q : B.get? a with
    | none => rfl
    | some o => have := F.keep a o q; rw [ha] at this; cases this
  · rintro rfl
    obtain ⟨o, _, _, ho, _⟩ := F.ns
    rw [ha] at ho; cases ho
  · have := (N p hp).1
    rw [e, ha] at this; cases this
local macro_rules | `(tactic| walk_at "call ref") => `(tactic| refine Halt.of ?_)
local macro_rules | `(tactic| walk_at "exec For Tuple Call cons nil") => `(tactic| refine Halt.of ?_)

theorem strip_call {w : World} {dp un : Nat} {fr : Option (List Env)} {gd : Option (List Code)} {s : Shared} {Q E : Value → Shared → Prop} {mean mg mb} {x : Str} {t : Tok}
    (X : (hd.heap_39 w.params).In s.heap) (T : Top hd.view_39 (looseW hd.view_39 []) mean mg mb s.heap) (hx : x.length ≤ 1000) (hroom : dp + 5 < recursionLimit) (hu : un + 20 < cLine)
    (hret : ∀ (t : Tok) (h' : Heap) (tk' : Nat) (gs' : Array GenState), Ext s.heap h' → Q (.str (stripS x) t) { s with heap := h', toks := tk', gens := gs' }) :
    wpAny (model PySem.Challenge.rw_pg0120_01.row.prog w) (Ar dp un fr gd) (call (.ref 28) [.str x t]) Q E s := by
  revert X T
  w_top off
  k_fill
  intro X T
  refine' enter (K := hd.heap_39 w.params) [(Str.ofString "addr", .str x t)] X T.nolimit ?ho ?hcd ?hroom ?hbind ?hloc ?_ ?c1 ?c2 ?c3 ?c4
  case ho => k_is
  case hcd => k_is
  case hroom => show dp < recursionLimit; omega
  case hbind => exact BindsTo.of_eq rfl
  case hloc => exact locs rfl
  case c1 => rfl
  case c2 => rfl
  case c3 => rfl
  case c4 => decide
  intro L h₁ tk F N htk
  (try dsimp only)
  k_steps
  · refine (congrArg (fun z => Q (.str z _) _) ?_).mpr (hret _ _ _ s.gens F.keep)
    exact strip_end0 (by assumption)
  · rename Fr _ _ _ _ => F1
    rename News _ _ _ _ => N1
    refine for_invG ?_ (by intro _; rfl)
    k_steps
    rename_i D _ _ _ _
    refine gen_call (B := s.heap) X T F1.keep (Nat.le_trans F1.above (Nat.le_of_lt F1.ns.lt)) hx (by dsimp only [Around.deeper]; omega) ?_
    intro a Lg h' tk' gs hext hgen ha hLg haL liveN
    have live := liveN.live (tk := tk') (fun b o e => hext b o (F1.keep b o e))
    clear liveN
    have F2 := frSet (frSet (frSet (frSet (frExt F1 hext) (Str.ofString "addr") rfl) (Str.ofString "start") rfl) (Str.ofString "open_pos") rfl) (Str.ofString "result") rfl
    have N2 := newsExt N1 hext
    k_steps
    obtain ⟨a1, a2, a3⟩ := fresh_facts F1 N1 ha
    obtain ⟨l1, l2, l3⟩ := fresh_facts F1 N1 hLg
    refine gen_for (L := Lg) (us := unitsF 0 false (tl x)) (PS x t _ (unitsF 0 false (tl x))) rfl rfl rfl (by dsimp only [Around.deeper]; omega) T.nolimit F2 N2 hgen (by simp) a1 a2 a3 l2 (Ne.symm haL) l3 live ⟨_, 0, none, _, 0, [], 0, [], rfl, rfl, .nil, rfl, by simp, by simp⟩ ?turn ?done
    case turn =>
      clear F1 N1 F2 N2 live hgen hext
      rintro u rest m own h tk gens' gl tp tc ⟨z, st, op, ts, tq, vs, c, res, rfl, rfl, hvs, hloop, hlen, hyl⟩ hmap hoff F N
      change Fr s.heap L h _ at F
      change News s.heap L h ((_, listOf vs.toArray c) :: gl) at N
      have hul := unitsF_len (tl x) 0 false
      rw [len_tl] at hul
      have hvl : vs.length ≤ 2000 := by omega
      cases op with
      | none =>
        simp only [opVal] at F
        k_steps
        · rename Fr _ _ _ _ => F7
          rename News _ _ _ _ => N7
          have F9 := frSet (frSet (frSet (frSet F7 (Str.ofString "addr") rfl) (Str.ofString "start") rfl) (Str.ofString "open_pos") rfl) (Str.ofString "result") rfl
          exact ⟨_, _, _, [(_, listOf vs.toArray c)], _, rfl, F9, N7, fun p hp => List.mem_cons.mpr (.inl (List.mem_singleton.mp hp)), fun p hp => List.mem_cons_of_mem _ hp, rfl, ⟨_, st, some u.1, _, tp, vs, c, res, rfl, rfl, hvs, by rw [← hloop, strip_n1 (by assumption)], by simp only [List.length_cons] at hlen; omega, hyl⟩⟩
        · rename Fr _ _ _ _ => F7
          rename News _ _ _ _ => N7
          have F9 := frSet (frSet (frSet (frSet F7 (Str.ofString "addr") rfl) (Str.ofString "start") rfl) (Str.ofString "open_pos") rfl) (Str.ofString "result") rfl
          exact ⟨_, _, _, [(_, listOf vs.toArray c)], _, rfl, F9, N7, fun p hp => List.mem_cons.mpr (.inl (List.mem_singleton.mp hp)), fun p hp => List.mem_cons_of_mem _ hp, rfl, ⟨_, st, none, _, 0, vs, c, res, rfl, rfl, hvs, by rw [← hloop, strip_n2 (by assumption)], by simp only [List.length_cons] at hlen; omega, hyl⟩⟩
      | some q =>
        simp only [opVal] at F
        k_steps
        · rename Fr _ _ _ _ => F7
          rename News _ _ _ _ => N7
          have F9 := frSet (frSet (frSet (frSet F7 (Str.ofString "addr") rfl) (Str.ofString "start") (v := .int ((u.1 + 1 : Nat) : Int) _) rfl) (Str.ofString "open_pos") rfl) (Str.ofString "result") rfl
          rw [List.push_toArray] at N7
          exact ⟨_, _, _, [(_, listOf (vs ++ [_]).toArray (c + 1))], _, rfl, F9, N7, fun p hp => List.mem_cons.mpr (.inl (List.mem_singleton.mp hp)), fun p hp => List.mem_cons_of_mem _ hp, rfl, ⟨_, u.1 + 1, none, _, 0, vs ++ [_], c + 1, _, rfl, rfl, strs_snoc hvs, by rw [← hloop, strip_s1 (by assumption) (by assumption)], by simp only [List.length_cons, List.length_append, List.length_nil] at hlen ⊢; omega, fun y hy => (List.mem_append.mp hy).elim (hyl y) fun hy => by rw [List.mem_singleton.mp hy]; assumption⟩⟩
        · rename Fr _ _ _ _ => F7
          rename News _ _ _ _ => N7
          have F9 := frSet (frSet (frSet (frSet F7 (Str.ofString "addr") rfl) (Str.ofString "start") (v := .int ((u.1 + 1 : Nat) : Int) _) rfl) (Str.ofString "open_pos") rfl) (Str.ofString "result") rfl
          exact ⟨_, _, _, [(_, listOf vs.toArray c)], _, rfl, F9, N7, fun p hp => List.mem_cons.mpr (.inl (List.mem_singleton.mp hp)), fun p hp => List.mem_cons_of_mem _ hp, rfl, ⟨_, u.1 + 1, none, _, 0, vs, c, res, rfl, rfl, hvs, by rw [← hloop, strip_s2 (by assumption) (by assumption)], by simp only [List.length_cons] at hlen; omega, hyl⟩⟩
        · rename Fr _ _ _ _ => F7
          rename News _ _ _ _ => N7
          have F9 := frSet (frSet (frSet (frSet F7 (Str.ofString "addr") rfl) (Str.ofString "start") rfl) (Str.ofString "open_pos") rfl) (Str.ofString "result") rfl
          exact ⟨_, _, _, [(_, listOf vs.toArray c)], _, rfl, F9, N7, fun p hp => List.mem_cons.mpr (.inl (List.mem_singleton.mp hp)), fun p hp => List.mem_cons_of_mem _ hp, rfl, ⟨_, st, some q, _, tq, vs, c, res, rfl, rfl, hvs, by rw [← hloop, strip_s3 (by assumption)], by simp only [List.length_cons] at hlen; omega, hyl⟩⟩
    case done =>
      clear F1 N1 F2 N2 live hgen hext
      rintro m own h tk gens' ⟨z, st, op, ts, tq, vs, c, res, rfl, rfl, hvs, hloop, hlen, hyl⟩ F N
      change Fr s.heap L h _ at F
      change News s.heap L h [(_, listOf vs.toArray c)] at N
      have hul := unitsF_len (tl x) 0 false
      rw [len_tl] at hul
      have hvl : vs.length ≤ 2000 := by omega
      have hrl : res.length = vs.length := by
        obtain ⟨l, h1, h2⟩ := strs_pairs hvs
        rw [← h1, ← h2]; simp [strValues]
      have hsum := sum_le hyl
      have hmul : res.length * x.length ≤ 2000 * 1000 := Nat.mul_le_mul (by omega) hx
      dsimp only
      k_steps
      · rename News _ _ _ _ => N7
        rename Fr _ _ _ _ => F7
        rw [List.push_toArray] at N7
        refine join_rule (News.isList N7 (by k_mem)) (strs_snoc hvs) (by simp only [List.map_append, List.map_cons, List.map_nil, List.sum_append, List.sum_cons, List.sum_nil]; omega) ?_
        intro t' k
        k_steps
        refine (congrArg (fun z => Q (.str z _) _) ?_).mpr (hret _ _ _ _ F7.keep)
        exact strip_end1 (by assumption) hloop (by omega)
      · rename News _ _ _ _ => N7
        rename Fr _ _ _ _ => F7
        refine join_rule (News.isList N7 (by k_mem)) hvs (by omega) ?_
        intro t' k
        k_steps
        refine (congrArg (fun z => Q (.str z _) _) ?_).mpr (hret _ _ _ _ F7.keep)
        exact strip_end2 (by assumption) hloop (by omega)
end Mine
namespace Mine
local macro_rules | `(tactic| walk_at "no such key 0") => `(tactic| fail)
def checkLoop : List GU → Int → Bool
  | [], o => o == 0
  | u :: us, o => if u.2 = [40] then checkLoop us (o + 1) else if u.2 = [41] then (if o - 1 < 0 then false else checkLoop us (o - 1)) else checkLoop us o
def checkS (x : Str) : Bool := checkLoop (unitsF 0 false (tl (stripS x))) 0

abbrev MC (o : Int) (to : Tok) (z : Str → Option Value) : Str → Option Value := fun k =>
  if k = Str.ofString "opens" then some (.int o to) else z k
def PC (r : Bool) (rest : List GU) (m : Str → Option Value) (own : List (Addr × Obj)) : Prop :=
  ∃ z o to, m = MC o to z ∧ own = [] ∧ checkLoop rest o = r
theorem open_eq (l : List Nat) : (ms l == Str.ofString "(") = decide (l = [40]) := by
  rw [show Str.ofString "(" = ms [40] from by decide +kernel, beq_str]
theorem close_eq (l : List Nat) : (ms l == Str.ofString ")") = decide (l = [41]) := by
  rw [show Str.ofString ")" = ms [41] from by decide +kernel, beq_str]
theorem check_1 {u : GU} {rest : List GU} {o : Int} (h : (ms u.2 == Str.ofString "(") = true) : checkLoop (u :: rest) o = checkLoop rest (o + 1) := by
  rw [open_eq] at h
  rw [checkLoop, if_pos (of_decide_eq_true h)]
theorem check_2 {u : GU} {rest : List GU} {o : Int} (h : (ms u.2 == Str.ofString "(") = false) (h2 : (ms u.2 == Str.ofString ")") = true) : checkLoop (u :: rest) o = if o - 1 < 0 then false else checkLoop rest (o - 1) := by
  rw [open_eq] at h
  rw [close_eq] at h2
  rw [checkLoop, if_neg (of_decide_eq_false h), if_pos (of_decide_eq_true h2)]
theorem check_3 {u : GU} {rest : List GU} {o : Int} (h : (ms u.2 == Str.ofString "(") = false) (h2 : (ms u.2 == Str.ofString ")") = false) : checkLoop (u :: rest) o = checkLoop rest o := by
  rw [open_eq] at h
  rw [close_eq] at h2
  rw [checkLoop, if_neg (of_decide_eq_false h), if_neg (of_decide_eq_false h2)]

local macro_rules | `(tactic| walk_at "call ref") => `(tactic| refine Halt.of ?_)
local macro_rules | `(tactic| walk_at "exec For Tuple Call cons nil") => `(tactic| refine Halt.of ?_)

theorem check_call {w : World} {dp un : Nat} {fr : Option (List Env)} {gd : Option (List Code)} {s : Shared} {Q E : Value → Shared → Prop} {mean mg mb} {x : Str} {t : Tok}
    (X : (hd.heap_39 w.params).In s.heap) (T : Top hd.view_39 (looseW hd.view_39 []) mean mg mb s.heap) (hx : x.length ≤ 1000) (hx2 : (stripS x).length ≤ 1000) (hroom : dp + 8 < recursionLimit) (hu : un + 40 < cLine)
    (hret : ∀ (h' : Heap) (tk' : Nat) (gs' : Array GenState), Ext s.heap h' → Q (.bool (checkS x)) { s with heap := h', toks := tk', gens := gs' }) :
    wpAny (model PySem.Challenge.rw_pg0120_01.row.prog w) (Ar dp un fr gd) (call (.ref 35) [.str x t]) Q E s := by
  revert X T
  w_top off
  k_fill
  intro X T
  refine' enter (K := hd.heap_39 w.params) [(Str.ofString "addr", .str x t)] X T.nolimit ?ho ?hcd ?hroom ?hbind ?hloc ?_ ?c1 ?c2 ?c3 ?c4
  case ho => k_is
  case hcd => k_is
  case hroom => show dp < recursionLimit; omega
  case hbind => exact BindsTo.of_eq rfl
  case hloc => exact locs rfl
  case c1 => rfl
  case c2 => rfl
  case c3 => rfl
  case c4 => decide
  intro L h₁ tk F N htk
  (try dsimp only)
  k_steps
  refine strip_call (X.keeps F.keep) (T.keeps F.keep) hx (by dsimp only [Around.deeper]; omega) (by dsimp only [Around.deeper]; omega) ?_
  intro t1 h1 tk1 gs1 e1
  replace F := frExt F e1
  replace N := newsExt N e1
  clear e1
  k_steps
  rename Fr _ _ _ _ => F1
  rename News _ _ _ _ => N1
  refine for_invG ?_ (by intro _; rfl)
  k_steps
  refine gen_call (B := s.heap) X T F1.keep (Nat.le_trans F1.above (Nat.le_of_lt F1.ns.lt)) hx2 (by dsimp only [Around.deeper]; omega) ?_
  intro a Lg h' tk' gs hext hgen ha hLg haL liveN
  have live := liveN.live (tk := tk') (fun b o e => hext b o (F1.keep b o e))
  clear liveN
  have F2 := frSet (frExt F1 hext) (Str.ofString "opens") rfl
  have N2 := newsExt N1 hext
  k_steps
  obtain ⟨a1, a2, a3⟩ := fresh_facts F1 N1 ha
  obtain ⟨l1, l2, l3⟩ := fresh_facts F1 N1 hLg
  refine gen_for (L := Lg) (us := unitsF 0 false (tl (stripS x))) (PC (checkS x)) rfl rfl rfl (by dsimp only [Around.deeper]; omega) T.nolimit F2 N2 hgen (by simp) a1 a2 a3 l2 (Ne.symm haL) l3 live ⟨_, 0, _, rfl, rfl, rfl⟩ ?turn ?done
  case turn =>
    clear F1 N1 F2 N2 live hgen hext
    rintro u rest m own h tk gens' gl tp tc ⟨z, o, to, rfl, rfl, hloop⟩ hmap hoff F N
    change Fr s.heap L h _ at F
    change News s.heap L h gl at N
    k_steps
    · rename Fr _ _ _ _ => F7
      rename News _ _ _ _ => N7
      have F9 := frSet F7 (Str.ofString "opens") rfl
      exact ⟨_, _, _, [], _, rfl, F9, N7, fun p hp => (nomatch hp), fun p hp => hp, rfl, ⟨_, _, _, rfl, rfl, by rw [← hloop, check_1 (by assumption)]⟩⟩
    · rename Fr _ _ _ _ => F7
      refine (congrArg (fun z => Q (.bool z) _) ?_).mpr (hret _ _ _ F7.keep)
      rw [← hloop, check_2 (by assumption) (by assumption), if_pos (by assumption)]
    · rename Fr _ _ _ _ => F7
      rename News _ _ _ _ => N7
      have F9 := frSet F7 (Str.ofString "opens") rfl
      exact ⟨_, _, _, [], _, rfl, F9, N7, fun p hp => (nomatch hp), fun p hp => hp, rfl, ⟨_, _, _, rfl, rfl, by rw [← hloop, check_2 (by assumption) (by assumption), if_neg (by assumption)]⟩⟩
    · rename Fr _ _ _ _ => F7
      rename News _ _ _ _ => N7
      have F9 := frSet F7 (Str.ofString "opens") rfl
      exact ⟨_, _, _, [], _, rfl, F9, N7, fun p hp => (nomatch hp), fun p hp => hp, rfl, ⟨_, _, _, rfl, rfl, by rw [← hloop, check_3 (by assumption) (by assumption)]⟩⟩
  case done =>
    clear F1 N1 F2 N2 live hgen hext
    rintro m own h tk gens' ⟨z, o, to, rfl, rfl, hloop⟩ F N
    change Fr s.heap L h _ at F
    change News s.heap L h [] at N
    dsimp only
    k_steps
    refine (congrArg (fun z => Q (.bool z) _) ?_).mpr (hret _ _ _ F.keep)
    rw [← hloop]
    rfl
end Mine
namespace Mine

theorem comp_loop {prog : Program} {w : World} {A : Around} {R : Result → Shared → Prop} {s : Shared} {elt target iter test : Expr} {scope : Scope} {pos : Pos} {it acc : Value} {env : Env} (I : Nat → Shared → Prop)
    (turn : ∀ n s, I n s → wpAny (model prog w) A (pyNext it) (fun r s₁ => match r with
      | none => R (.ok .next) s₁
      | some v => wpAny (model prog w) A (letOwnedTupleGo target it v) (fun _ s₁ => wpAny (model prog w) A (assign target env v) (fun _ s₂ =>
          wpAny (model prog w) A (isTrue test env (eval test env)) (fun ok s₃ =>
            if ok = true then wpAny (model prog w) A (eval elt env) (fun x s₄ => wpAny (model prog w) A (call (.builtin "list.append") [acc, x]) (fun _ s₅ => Less I n s₅) No s₄) No s₃
            else Less I n s₃) No s₂) No s₁) No s₁) No s)
    (n : Nat) (h : I n s) : codeAny (model prog w) A (.compLoop (.ListComp elt [⟨target, iter, [test], 0⟩] scope pos) 0 it acc env) R s := by
  refine codeAny_loop rfl I (fun n s hI => ?_) n h
  show wpAny _ A ((compTurn (.ListComp elt [⟨target, iter, [test], 0⟩] scope pos) 0 it acc env).onRaise (fun x => do noteFrame x env; theTreesLotGoes x)) _ _ s
  refine wpAny_noted ?_
  rw [compTurn_list]
  refine wpAny_bind (wpAny_standAt (wpAny_bind (wpAny_mono (turn n s hI) (fun r s₁ h₁ => ?_) fun _ _ z => z.elim)))
  cases r with
  | none => exact wpAny_pure h₁
  | some v =>
    refine wpAny_bind (wpAny_mono h₁ (fun _ s₁ h₁ => ?_) fun _ _ z => z.elim)
    refine wpAny_bind (wpAny_mono h₁ (fun _ s₂ h₂ => wpAny_bind (wpAny_tests_one (wpAny_mono h₂ (fun ok s₃ h₃ => ?_) fun _ _ z => z.elim))) fun _ _ z => z.elim)
    cases ok with
    | false => exact wpAny_pure ⟨rfl, h₃⟩
    | true =>
      exact wpAny_bind (wpAny_bind (wpAny_mono h₃ (fun x s₄ h₄ => wpAny_bind (wpAny_mono h₄ (fun _ s₅ h₅ => wpAny_pure (wpAny_pure ⟨rfl, h₅⟩)) fun _ _ z => z.elim)) fun _ _ z => z.elim))

theorem gen_turn {w : World} {dp un : Nat} {fr : Option (List Env)} {gd : Option (List Code)} {s : Shared} {env : Env} {B h : Heap} {tk : Nat} {gens' : Array GenState} {a : Addr} {g : Nat} {n1 n2 : Str} {p1 p2 pt : Pos} {k : Nat}
    {m : Str → Option Value} {own : List (Addr × Obj)} {rest : List GU} {fp : List (Addr × Obj)} {oa : Obj} {nm qn : Value} {Q0 Q1 : Shared → Prop}
    (hx1 : env.kindOf n1 = some .local) (hx2 : env.kindOf n2 = some .local) (hp : (env.scope.kind == .class || (env.scope.kind == .module && env.locals != env.globals)) = false)
    (hroom : dp < recursionLimit) (hlim : B.NoLimit)
    (F' : Fr B env.locals h m) (N' : News B env.locals h own) (hoa' : h.get? a = some oa) (hga : oa.cls = .type "generator" ∧ oa.data = .fields #[.int g 0, nm, qn] ∧ oa.slots = #[]) (hg' : g < gens'.size) (haB : B.get? a = none) (haL : a ≠ env.locals) (hao : ∀ p ∈ own, p.1 ≠ a)
    (G' : GenLive w (Ar dp un fr gd) B (env.locals :: a :: own.map (·.1)) g rest fp { s with heap := h, toks := tk, gens := gens' })
    (h0 : rest = [] → ∀ h' tk' gs', Fr B env.locals h' m → News B env.locals h' own → Q0 { s with heap := h', toks := tk', gens := gs' })
    (h1 : ∀ u rest', rest = u :: rest' → ∀ h5 tk5 gens2 fp' tp tc, Fr B env.locals h5 (fun z => if z = n2 then some (.str (ms u.2) tc) else if z = n1 then some (.int (u.1 : Nat) tp) else m z) → News B env.locals h5 (own ++ ((a, oa) :: fp')) → OwnOff ((a, oa) :: fp') (own.map (·.1)) → g < gens2.size →
      (∀ (h' : Heap) (tk' : Nat) (own' led : List (Addr × Obj)), Ext B h' → News B env.locals h' led → (∀ p ∈ own', p ∈ led) → (∀ p ∈ (a, oa) :: fp', p ∈ led) → own'.map (·.1) = own.map (·.1) → (∃ o, h'.get? env.locals = some o) →
        GenLive w (Ar dp un fr gd) B (env.locals :: a :: own.map (·.1)) g rest' fp' { s with heap := h', toks := tk', gens := gens2 }) → Q1 { s with heap := h5, toks := tk5, gens := gens2 }) :
    wpAny (model PySem.Challenge.rw_pg0120_01.row.prog w) (Ar dp un fr gd) (pyNext (.ref a)) (fun r s₁ => match r with
      | none => Q0 s₁
      | some v => wpAny (model PySem.Challenge.rw_pg0120_01.row.prog w) (Ar dp un fr gd) (letOwnedTupleGo (.Tuple [.Name n1 p1, .Name n2 p2] k pt) (.ref a) v) (fun _ s₁ =>
          wpAny (model PySem.Challenge.rw_pg0120_01.row.prog w) (Ar dp un fr gd) (assign (.Tuple [.Name n1 p1, .Name n2 p2] k pt) env v) (fun _ s₂ => Q1 s₂) No s₁) No s₁) No { s with heap := h, toks := tk, gens := gens' } := by
  have kL : env.locals ∈ env.locals :: a :: own.map (·.1) := List.mem_cons_self
  have ka : a ∈ env.locals :: a :: own.map (·.1) := List.mem_cons_of_mem _ List.mem_cons_self
  have ko : ∀ p ∈ own, p.1 ∈ env.locals :: a :: own.map (·.1) := fun p hp' => List.mem_cons_of_mem _ (List.mem_cons_of_mem _ (List.mem_map_of_mem hp'))
  refine gen_next rfl (hlim.keeps F'.keep) hroom ⟨oa, nm, qn, hoa', hga⟩ hg' G' ?_ ?_
  · rintro rfl h' tk' gs' hE hK
    exact h0 rfl h' tk' gs' ⟨F'.ns.at fun o e => hK _ kL o e, hE, F'.above⟩ fun p hp' => ⟨hK _ (ko p hp') _ (N' p hp').1, (N' p hp').2⟩
  · rintro u rest' rfl T tp tc fp' s'' hT hK hsz hdr hos G''
    obtain ⟨h2, gens2, d2, tk2, os2⟩ := s''
    change d2 = s.drawn at hdr
    change os2 = s.os at hos
    subst hdr hos
    change h2.get? T = _ at hT
    change KeptA _ h h2 at hK
    change gens2.size = gens'.size at hsz
    obtain ⟨gs2, us2, hgs2, hR2, hoff2, hus2, hul2, hgo2⟩ := G''
    have hoa2 : h2.get? a = some oa := hK _ ka _ hoa'
    refine go_gen ⟨oa, nm, qn, hoa2, hga⟩ ?_
    have ht : (⟨h2, gens2, s.drawn, tk2, s.os⟩ : Shared).heap.IsTuple T #[.int (u.1 : Nat) tp, .str (ms u.2) tc] := ⟨_, hT, rfl, _, rfl⟩
    refine wpAny_assign_Tuple rfl ht rfl rfl fun h₃ hx₃ => ?_
    replace hx₃ : Heap.ExtBut h2.objs.size h2 h₃ := hx₃
    have up₃ : Ext h2 h₃ := fun b o e => hx₃ b o (Nat.ne_of_lt (Heap.lt_size e)) e
    have F₃ : Fr B env.locals h₃ m := ⟨F'.ns.at fun o e => up₃ _ _ (hK _ kL o e), fun b o e => up₃ b o (hR2.ext b o e), F'.above⟩
    have N₃ : News B env.locals h₃ (own ++ ((a, oa) :: fp')) := by
      intro p hp'
      rcases List.mem_append.mp hp' with hp' | hp'
      · exact ⟨up₃ _ _ (hK _ (ko p hp') _ (N' p hp').1), (N' p hp').2⟩
      · rcases List.mem_cons.mp hp' with rfl | hp'
        · exact ⟨up₃ _ _ hoa2, haL, haB⟩
        · exact ⟨up₃ _ _ (hR2.own p hp'), fun e => (hoff2 p hp').1 (by rw [e]; exact kL), (hoff2 p hp').2⟩
    show wpAny _ _ (do holding [.str (ms u.2) tc] (assign (.Name n1 p1) env (.int (u.1 : Nat) tp)); do holding [] (assign (.Name n2 p2) env (.str (ms u.2) tc)); pure ()) _ _ _
    refine wpAny_bind (wpAny_holding (wpAny_assign_Name (wpAny_storeName_local hx1 F₃.ns (fun h₄ hn₄ hs₄ => ?_) hp)))
    replace hs₄ : Heap.SameBut env.locals h₃ h₄ := hs₄
    refine wpAny_bind (wpAny_holding (wpAny_assign_Name (wpAny_storeName_local hx2 hn₄ (fun h₅ hn₅ hs₅ => wpAny_pure ?_) hp)))
    replace hs₅ : Heap.SameBut env.locals h₄ h₅ := hs₅
    have F₅ := frStore (frStore F₃ hs₄ hn₄) hs₅ hn₅
    have N₅ := newsStore (newsStore N₃ hs₄) hs₅
    have hoff : OwnOff ((a, oa) :: fp') (own.map (·.1)) := by
      intro p hp' b hb e
      rcases List.mem_cons.mp hp' with rfl | hp'
      · obtain ⟨q, hq, rfl⟩ := List.mem_map.mp hb
        exact hao q hq e.symm
      · exact (hoff2 p hp').1 (by rw [e]; exact List.mem_cons_of_mem _ (List.mem_cons_of_mem _ hb))
    refine h1 u rest' rfl h₅ _ gens2 fp' tp tc F₅ N₅ hoff (by omega) ?_
    rintro h' tk' own' led hE N6 i1 i2 i3 hC
    refine ⟨gs2, us2, hgs2, ⟨hE, fun p hp' => (N6 p (i2 p (List.mem_cons_of_mem _ hp'))).1, ?_⟩, hoff2, hus2, hul2, hgo2⟩
    intro b hb
    rcases List.mem_cons.mp hb with rfl | hb
    · exact hC
    · rcases List.mem_cons.mp hb with rfl | hb
      · exact ⟨_, (N6 _ (i2 _ List.mem_cons_self)).1⟩
      · rw [← i3] at hb
        obtain ⟨p, hp', rfl⟩ := List.mem_map.mp hb
        exact ⟨_, (N6 p (i1 p hp')).1⟩
end Mine
namespace Mine
abbrev cEnv (scope : Scope) (env : Env) (C : Addr) : Env := { newEnv scope C env.globals [] env.qual none .none (some env) 0 with scope := scope }

theorem gen_comp {w : World} {dp un : Nat} {fr : Option (List Env)} {gd : Option (List Code)} {s : Shared} {env : Env} {B : Heap} {L Lg a : Addr} {g : Nat} {n1 n2 : Str} {p1 p2 pt pos : Pos} {k : Nat} {elt iter test : Expr} {scope : Scope} {gs : GenState}
    {m₀ : Str → Option Value} {us : List GU} {E : Value → Shared → Prop} {Q : Value → Shared → Prop} (p : GU → Bool)
    (hcell : ∀ y ∈ scope.names, y.2 ≠ .cell) (hkind : scope.kind = .function) (hx1 : scope.names.lookup n1 = some .local) (hx2 : scope.names.lookup n2 = some .local)
    (hroom : dp < recursionLimit) (hlim : B.NoLimit) (hlen : us.length ≤ 2000)
    (F : Fr B L s.heap m₀) (hgen : s.heap.IsGen a g) (hgs : s.gens[g]? = some gs) (haB : B.get? a = none) (haL : a ≠ L) (hL1 : Lg ≠ L) (hL2 : Lg ≠ a) (new : GenNew w B Lg g us gs s.heap)
    (htest : ∀ (C : Addr) (u : GU) (h : Heap) (tk : Nat) (gens' : Array GenState) (mC : Str → Option Value) (tc : Tok), h.Ns C mC → mC n2 = some (.str (ms u.2) tc) → wpAny (model PySem.Challenge.rw_pg0120_01.row.prog w) (Ar dp un fr gd) (isTrue test (cEnv scope env C) (eval test (cEnv scope env C))) (fun ok s₃ => ok = p u ∧ ∃ tk', s₃ = { s with heap := h, toks := tk', gens := gens' }) No { s with heap := h, toks := tk, gens := gens' })
    (helt : ∀ (C : Addr) (u : GU) (h : Heap) (tk : Nat) (gens' : Array GenState) (mC : Str → Option Value) (tc : Tok), h.Ns C mC → mC n2 = some (.str (ms u.2) tc) → wpAny (model PySem.Challenge.rw_pg0120_01.row.prog w) (Ar dp un fr gd) (eval elt (cEnv scope env C)) (fun v s₃ => v = .str (ms u.2) tc ∧ ∃ tk', s₃ = { s with heap := h, toks := tk', gens := gens' }) No { s with heap := h, toks := tk, gens := gens' })
    (hQ : ∀ (D : Addr) (h' : Heap) (tk' : Nat) (gs' : Array GenState) (vs : List Value) (oD : Obj), Fr B L h' m₀ → News B L h' [(D, oD)] → h'.IsList D vs.toArray → StrsAre vs ((us.filter p).map fun (u : GU) => ms u.2) → Q (.ref D) { s with heap := h', toks := tk', gens := gs' }) :
    wpAny (model PySem.Challenge.rw_pg0120_01.row.prog w) (Ar dp un fr gd) (pyIter (.ref a)) (fun it s₂ => wpAny (model PySem.Challenge.rw_pg0120_01.row.prog w) (Ar dp un fr gd) (newList []) (fun acc s₃ =>
      wpAny (model PySem.Challenge.rw_pg0120_01.row.prog w) (Ar dp un fr gd) (newFunctionEnv scope env.globals [] [] env.qual none .none (some env)) (fun cenv s₄ =>
        codeAny (model PySem.Challenge.rw_pg0120_01.row.prog w) (Ar dp un fr gd) (.compStart (.ListComp elt [⟨.Tuple [.Name n1 p1, .Name n2 p2] k pt, iter, [test], 0⟩] scope pos) 0 it acc { cenv with scope := scope })
          (fun r s' => ∃ m, s'.heap.Ns cenv.locals m ∧ ∀ h', Heap.SameBut cenv.locals s'.heap h' →
            match r with | .ok _ => Q acc { s' with heap := h' } | .error x => wpAny (model PySem.Challenge.rw_pg0120_01.row.prog w) (Ar dp un fr gd) (passOn "comprehension.variables-let-go" x { cenv with scope := scope }) Q E { s' with heap := h' }) s₄) E s₃) E s₂) E s := by
  obtain ⟨oa, nm, qn, hoa, hga⟩ := id hgen
  obtain ⟨oL, es, ep, hLo, hLr⟩ := id F.ns
  obtain ⟨og, hLg, new⟩ := new
  have hg : g < s.gens.size := (Array.getElem?_eq_some_iff.mp hgs).1
  refine wpAny_pyIter_gen hgen (wpAny_newList ?_ (by unfold sizeLine; simp))
  refine wpAny_newFunctionEnv hcell (by intro y hy; simp at hy) (fun h₁ hns₁ hsb₁ => ?_) hkind
  dsimp only at hns₁ hsb₁ ⊢
  generalize hH2 : s.heap.push { cls := .type "list", dict := none, data := .seq ([] : List Value).toArray } = H2 at hns₁ hsb₁ ⊢
  have hC : H2.objs.size = s.heap.objs.size + 1 := by rw [← hH2, Heap.size_push]
  have hDC : s.heap.objs.size ≠ H2.objs.size := by rw [hC]; exact Nat.ne_of_lt (Nat.lt_succ_self _)
  have below : ∀ b, b < s.heap.objs.size → b ≠ H2.objs.size ∧ b ≠ s.heap.objs.size := fun b hb => ⟨by rw [hC]; exact Nat.ne_of_lt (Nat.lt_succ_of_lt hb), Nat.ne_of_lt hb⟩
  have old : Ext s.heap h₁ := fun b o e => hsb₁.extBut b o (below b (Heap.lt_size e)).1 (Heap.get?_push_of_some _ (hH2 ▸ Heap.get?_push_of_some _ e))
  have hacc : h₁.get? s.heap.objs.size = some { cls := .type "list", dict := none, data := .seq ([] : List Value).toArray } := hsb₁.extBut _ _ hDC (Heap.get?_push_of_some _ (hH2 ▸ Heap.get?_push_size _ rfl))
  have hBs : B.objs.size ≤ s.heap.objs.size := Nat.le_trans F.above (Nat.le_of_lt F.ns.lt)
  have hLB : B.get? L = none := Heap.get?_none_of_le F.above
  have hDB : B.get? s.heap.objs.size = none := Heap.get?_none_of_le hBs
  have hCB : B.get? H2.objs.size = none := Heap.get?_none_of_le (by rw [hC]; exact Nat.le_succ_of_le hBs)
  have hLl := Heap.lt_size hLo
  have hal := Heap.lt_size hoa
  have hLgl := Heap.lt_size hLg
  generalize hDe : s.heap.objs.size = D at *
  generalize hCe : H2.objs.size = C at *
  have FC : Fr B C h₁ (fun x => ([] : List (Str × Value)).reverse.lookup x) := ⟨hns₁, fun b o e => old b o (F.keep b o e), by omega⟩
  have loop : ∀ s₃ : Shared, s₃ = { s with heap := h₁, toks := s.toks + ([] : List (Str × Value)).length } →
      codeAny (model PySem.Challenge.rw_pg0120_01.row.prog w) (Ar dp un fr gd) (.compLoop (.ListComp elt [⟨.Tuple [.Name n1 p1, .Name n2 p2] k pt, iter, [test], 0⟩] scope pos) 0 (.ref a) (.ref D) (cEnv scope env C))
          (fun r s' => ∃ m, s'.heap.Ns C m ∧ ∀ h', Heap.SameBut C s'.heap h' →
            match r with | .ok _ => Q (.ref D) { s' with heap := h' } | .error x => wpAny (model PySem.Challenge.rw_pg0120_01.row.prog w) (Ar dp un fr gd) (passOn "comprehension.variables-let-go" x (cEnv scope env C)) Q E { s' with heap := h' }) s₃ := by
    rintro s₃ rfl
    refine comp_loop (fun n s' => ∃ done rest h tk gens' m oD vs fp, s' = { s with heap := h, toks := tk, gens := gens' } ∧ Fr B C h m ∧ News B C h [(L, oL), (D, oD)] ∧ h.IsList D vs.toArray ∧ h.get? a = some oa ∧ g < gens'.size ∧
        GenLive w (Ar dp un fr gd) B [C, a, L, D] g rest fp s' ∧ us = done ++ rest ∧ StrsAre vs ((done.filter p).map fun (u : GU) => ms u.2) ∧ vs.length ≤ done.length ∧ n = rest.length) ?_ us.length ?_
    · rintro n s' ⟨done, rest, h, tk, gens', m, oD, vs, fp, rfl, F', N', hl, hoa', hg', G', hus, hvs, hvl, rfl⟩
      have hDn := N' (D, oD) (List.mem_cons_of_mem _ List.mem_cons_self)
      have hLn := N' (L, oL) List.mem_cons_self
      have hoD : oD.cls = .type "list" ∧ ∃ n, oD.data = .seq vs.toArray n := by
        obtain ⟨o, ho, h1, h2⟩ := hl
        rw [hDn.1] at ho
        cases ho
        exact ⟨h1, h2⟩
      refine gen_turn (env := cEnv scope env C) (own := [(L, oL), (D, oD)]) hx1 hx2 (by show (scope.kind == _ || (scope.kind == _ && _)) = false; rw [hkind]; rfl) hroom hlim F' N' hoa' hga hg' haB (below _ hal).1 ?_ G' ?_ ?_
      · intro q hq
        rcases List.mem_cons.mp hq with rfl | hq
        · exact Ne.symm haL
        · rw [List.mem_singleton.mp hq]
          exact Ne.symm (below _ hal).2
      · rintro rfl h' tk' gs' F6 N6
        refine ⟨_, F6.ns, fun h'' hs => ?_⟩
        have hL6 := N6 (L, oL) List.mem_cons_self
        have hD6 := N6 (D, oD) (List.mem_cons_of_mem _ List.mem_cons_self)
        rw [List.append_nil] at hus
        subst hus
        refine hQ D h'' tk' gs' vs oD ⟨⟨oL, es, ep, (hs.2 L hL6.2.1).trans hL6.1, hLr⟩, fun b o e => (hs.2 b fun q => by subst q; rw [hCB] at e; cases e).trans (F6.keep b o e), F.above⟩ ?_ ⟨oD, (hs.2 D hD6.2.1).trans hD6.1, hoD⟩ hvs
        intro q hq
        rw [List.mem_singleton.mp hq]
        exact ⟨(hs.2 D hD6.2.1).trans hD6.1, Ne.symm (below _ hLl).2, hDB⟩
      · rintro u rest' rfl h5 tk5 gens2 fp' tp tc F5 N5 hoff hg2 mk
        have hD5 := N5 (D, oD) (List.mem_cons_of_mem _ List.mem_cons_self)
        have hL5 := N5 (L, oL) List.mem_cons_self
        have ha5 := N5 (a, oa) (List.mem_append_right _ List.mem_cons_self)
        have N5' : News B C h5 [(L, oL), (D, oD)] := fun q hq => N5 q (List.mem_append_left _ hq)
        refine wpAny_mono (htest C u h5 tk5 gens2 _ tc F5.ns (by simp)) (fun ok s₃ h₃ => ?_) (fun _ _ z => z)
        obtain ⟨rfl, tk6, rfl⟩ := h₃
        cases hpu : p u with
        | false =>
          rw [if_neg Bool.false_ne_true]
          refine ⟨rest'.length, Nat.lt_succ_self _, done ++ [u], rest', h5, tk6, gens2, _, oD, vs, fp', rfl, F5, N5', ⟨oD, hD5.1, hoD⟩, ha5.1, hg2, mk h5 tk6 [(L, oL), (D, oD)] _ F5.keep N5 (fun q hq => List.mem_append_left _ hq) (fun q hq => List.mem_append_right _ hq) rfl ?_, by simp [hus], ?_, by simp; omega, rfl⟩
          · obtain ⟨o, _, _, ho, _⟩ := F5.ns
            exact ⟨o, ho⟩
          · rw [List.filter_append]
            simpa [hpu] using hvs
        | true =>
          rw [if_pos rfl]
          refine wpAny_mono (helt C u h5 tk6 gens2 _ tc F5.ns (by simp)) (fun v s₄ h₄ => ?_) (fun _ _ z => z)
          obtain ⟨rfl, tk7, rfl⟩ := h₄
          refine wpAny_list_append (items := vs.toArray) ⟨oD, hD5.1, hoD⟩ (fun h' hl' hs' => ?_) (by have : done.length ≤ us.length := by { rw [hus]; simp }; unfold sizeLine; simp; omega)
          obtain ⟨oD', hoD', hcD, nD, hdD⟩ := hl'
          have F7 : Fr B C h' _ := frSame F5 hs' hD5.2.1 hDB
          have N7 : News B C h' ([(L, oL), (D, oD')] ++ ((a, oa) :: fp')) := by
            intro q hq
            rcases List.mem_append.mp hq with hq | hq
            · rcases List.mem_cons.mp hq with rfl | hq
              · exact ⟨(hs'.2 L (below _ hLl).2).trans hL5.1, hL5.2⟩
              · rw [List.mem_singleton.mp hq]
                exact ⟨hoD', hD5.2⟩
            · have := N5 q (List.mem_append_right _ hq)
              exact ⟨(hs'.2 q.1 (hoff q hq D (by simp))).trans this.1, this.2⟩
          refine ⟨rest'.length, Nat.lt_succ_self _, done ++ [u], rest', h', tk7, gens2, _, oD', vs ++ [.str (ms u.2) tc], fp', rfl, F7, fun q hq => N7 q (List.mem_append_left _ hq), ⟨oD', hoD', hcD, nD, by rw [hdD, List.push_toArray]⟩, (N7 (a, oa) (List.mem_append_right _ List.mem_cons_self)).1, hg2, mk h' tk7 [(L, oL), (D, oD')] _ F7.keep N7 (fun q hq => List.mem_append_left _ hq) (fun q hq => List.mem_append_right _ hq) rfl ?_, by simp [hus], ?_, by simp; omega, rfl⟩
          · obtain ⟨o, _, _, ho, _⟩ := F7.ns
            exact ⟨o, ho⟩
          · rw [List.filter_append]
            simp only [List.filter_cons, hpu, if_true, List.filter_nil, List.map_append, List.map_cons, List.map_nil]
            exact strs_snoc hvs
    · refine ⟨[], us, h₁, _, s.gens, _, { cls := .type "list", dict := none, data := .seq ([] : List Value).toArray }, [], [(Lg, og)], rfl, FC, ?_, ⟨_, hacc, rfl, _, rfl⟩, old _ _ hoa, hg, ?_, rfl, .nil, Nat.le_refl _, rfl⟩
      · intro q hq
        rcases List.mem_cons.mp hq with rfl | hq
        · exact ⟨old _ _ hLo, (below _ hLl).1, hLB⟩
        · rw [List.mem_singleton.mp hq]
          exact ⟨hacc, hDC, hDB⟩
      · refine new [C, a, L, D] dp un fr gd _ ?_ hgs ⟨fun b o e => old b o (F.keep b o e), ?_, ?_⟩
        · intro b hb
          simp only [List.mem_cons, List.not_mem_nil, or_false] at hb
          rcases hb with rfl | rfl | rfl | rfl
          · exact ⟨hCB, Ne.symm (below _ hLgl).1⟩
          · exact ⟨haB, Ne.symm hL2⟩
          · exact ⟨hLB, Ne.symm hL1⟩
          · exact ⟨hDB, Ne.symm (below _ hLgl).2⟩
        · intro q hq
          rw [List.mem_singleton.mp hq]
          exact old _ _ hLg
        · intro b hb
          simp only [List.mem_cons, List.not_mem_nil, or_false] at hb
          rcases hb with rfl | rfl | rfl | rfl
          · obtain ⟨o, _, _, ho, _⟩ := hns₁
            exact ⟨o, ho⟩
          · exact ⟨_, old _ _ hoa⟩
          · exact ⟨_, old _ _ hLo⟩
          · exact ⟨_, hacc⟩
  refine codeAny_compStart_list (loop _ rfl) ?_
  exact wpAny_pyIter_gen ⟨oa, nm, qn, old _ _ hoa, hga⟩ (loop _ rfl)
end Mine
namespace Mine
def isB (u : GU) : Bool := decide (u.2 = [40]) || decide (u.2 = [41])
def readS (x : Str) : Str := Txt.join (Str.ofString "") (((unitsF 0 false (tl (stripS x))).filter isB).map fun (u : GU) => ms u.2)
theorem const_str {M : Model} {A : Around} {E : Value → Shared → Prop} {s : Shared} {env : Env} {c : Str} {k : Nat} {pos : Pos} {Q : Value → Shared → Prop} (h : Q (.str c s.toks) { s with toks := s.toks + 1 }) : wpAny M A (eval (.Constant (.str c) k pos) env) Q E s := fun _ _ _ => h
theorem name_eq {prog : Program} {w : World} {A : Around} {E : Value → Shared → Prop} {s : Shared} {env : Env} {n c x : Str} {k : Nat} {p1 p2 pos : Pos} {whole : Sem Value} {m : Str → Option Value} {t : Tok} {Q : Bool → Shared → Prop} (hk : env.scope.kind = .function)
    (hl : env.kindOf n = some .local) (hn : s.heap.Ns env.locals m) (hv : m n = some (.str x t)) (hd : (n == ("__debug__" : Str)) = false) (h : Q (x == c) { s with toks := s.toks + 1 }) :
    wpAny (model prog w) A (isTrue (.Compare (.Name n p1) [.Eq] [.Constant (.str c) k p2] pos) env whole) Q E s :=
  wpAny_isTrue_Compare1 (wpAny_Name (wpAny_loadName_local hk hl hn hv (const_str (eq_str (wpAny_truthy_bool h)))) hd)
theorem isB_len (us : List GU) : ((((us.filter isB).map fun (u : GU) => ms u.2)).map Str.length).sum ≤ us.length := by
  have h : ∀ y ∈ ((us.filter isB).map fun (u : GU) => ms u.2), y.length ≤ 1 := by
    intro y hy
    obtain ⟨u, hu, rfl⟩ := List.mem_map.mp hy
    have := (List.mem_filter.mp hu).2
    unfold isB at this
    rw [Bool.or_eq_true, decide_eq_true_eq, decide_eq_true_eq] at this
    rcases this with e | e <;> rw [e] <;> exact Nat.le_refl 1
  have h2 := sum_le h
  have h3 := List.length_filter_le isB us
  simp only [List.length_map] at h2
  omega
local macro_rules | `(tactic| walk_at "call ref") => `(tactic| refine Halt.of ?_)
local macro_rules | `(tactic| walk_at "eval ListComp") => `(tactic| refine Halt.of ?_)

theorem read_call {w : World} {dp un : Nat} {fr : Option (List Env)} {gd : Option (List Code)} {s : Shared} {Q E : Value → Shared → Prop} {mean mg mb} {x : Str} {t : Tok}
    (X : (hd.heap_39 w.params).In s.heap) (T : Top hd.view_39 (looseW hd.view_39 []) mean mg mb s.heap) (hx : x.length ≤ 1000) (hx2 : (stripS x).length ≤ 1000) (hroom : dp + 8 < recursionLimit) (hu : un + 40 < cLine)
    (hret : ∀ (t : Tok) (h' : Heap) (tk' : Nat) (gs' : Array GenState), Ext s.heap h' → Q (.str (readS x) t) { s with heap := h', toks := tk', gens := gs' }) :
    wpAny (model PySem.Challenge.rw_pg0120_01.row.prog w) (Ar dp un fr gd) (call (.ref 59) [.str x t]) Q E s := by
  revert X T
  w_top off
  k_fill
  intro X T
  refine' enter (K := hd.heap_39 w.params) [(Str.ofString "text", .str x t)] X T.nolimit ?ho ?hcd ?hroom ?hbind ?hloc ?_ ?c1 ?c2 ?c3 ?c4
  case ho => k_is
  case hcd => k_is
  case hroom => show dp < recursionLimit; omega
  case hbind => exact BindsTo.of_eq rfl
  case hloc => exact locs rfl
  case c1 => rfl
  case c2 => rfl
  case c3 => rfl
  case c4 => decide
  intro L h₁ tk F N htk
  (try dsimp only)
  k_steps
  refine strip_call (X.keeps F.keep) (T.keeps F.keep) hx (by dsimp only [Around.deeper]; omega) (by dsimp only [Around.deeper]; omega) ?_
  intro t1 h1 tk1 gs1 e1
  replace F := frExt F e1
  replace N := newsExt N e1
  clear e1
  k_steps
  rename Fr _ _ _ _ => F1
  rename News _ _ _ _ => N1
  refine wpAny_ListComp (by decide) rfl (by decide) ?_ (by intro _; rfl)
  k_steps
  refine gen_call (B := s.heap) X T F1.keep (Nat.le_trans F1.above (Nat.le_of_lt F1.ns.lt)) hx2 (by dsimp only [Around.deeper]; omega) ?_
  intro a Lg h' tk' gs hext hgen ha hLg haL new
  have F2 := frExt F1 hext
  have N2 := newsExt N1 hext
  k_steps
  obtain ⟨a1, a2, a3⟩ := fresh_facts F1 N1 ha
  obtain ⟨l1, l2, l3⟩ := fresh_facts F1 N1 hLg
  have hul := unitsF_len (tl (stripS x)) 0 false
  rw [len_tl] at hul
  refine gen_comp isB (by decide) rfl rfl rfl (by dsimp only [Around.deeper]; omega) T.nolimit (by omega) F2 hgen Array.getElem?_push_size a1 a2 l2 (Ne.symm haL) new ?htest ?helt ?hQ
  case htest =>
    intro C u h tk gens' mC tc hn hm
    refine isTrue_or (name_eq rfl rfl hn hm (by decide) ?_)
    rw [open_eq]
    by_cases h1 : u.2 = [40]
    · rw [decide_eq_true h1, if_pos rfl]
      exact ⟨by simp [isB, h1], _, rfl⟩
    · rw [decide_eq_false h1, if_neg Bool.false_ne_true]
      refine isTrue_or (name_eq rfl rfl hn hm (by decide) ?_)
      rw [close_eq]
      by_cases h2 : u.2 = [41]
      · rw [decide_eq_true h2, if_pos rfl]
        exact ⟨by simp [isB, h2], _, rfl⟩
      · rw [decide_eq_false h2, if_neg Bool.false_ne_true]
        refine isTrue_or_nil ?_
        exact ⟨by simp [isB, h1, h2], _, rfl⟩
  case helt =>
    intro C u h tk gens' mC tc hn hm
    exact wpAny_Name (wpAny_loadName_local rfl rfl hn hm ⟨rfl, tk, rfl⟩) (by decide)
  case hQ =>
    clear F1 F2 N1 N2 new
    intro D h' tk' gs' vs oD F9 N9 hl9 hs9
    k_steps
    have hbl := isB_len (unitsF 0 false (tl (stripS x)))
    refine join_rule hl9 hs9 (by omega) ?_
    intro t' k
    k_steps
    exact hret _ _ _ _ F9.keep
end Mine
namespace Mine
theorem enterC {w : World} {A : Around} {s : Shared} {K : Frag} {Q E : Value → Shared → Prop} {f : Addr} {vals : List Value} {name qual : Str} {params : Arguments} {body : List Stmt} {scope : Scope} {dV kV doc pm cdv ct oc : Value} {an od : Option Addr} {osl : Array (Option Value)} (binds : List (Str × Value))
    (X : K.In s.heap) (hlim : s.heap.NoLimit) (ho : K.lookup f = some ⟨oc, od, .func (fnOf name qual params body scope dV kV doc pm an cdv ct), osl⟩)
    (hcd : codeIn K cdv qual = true) (hroom : A.depth < recursionLimit)
    (hbind : BindsTo s (fnOf name qual params body scope dV kV doc pm an cdv ct) ⟨vals, []⟩ binds) (hkind : (binds.all fun y => scope.names.lookup y.1 == some .local || scope.names.lookup y.1 == some .cell) = true)
    (hnd : ((cellsFrom 0 scope.names []).map (·.1)).Nodup)
    (h : ∀ L h₁ tk cells, Fr s.heap L h₁ (bindL (envOfC qual scope L f cdv).kindOf binds fun _ => none) → News s.heap L h₁ cells → CellsAre (bindC (envOfC qual scope L f cdv).kindOf binds fun _ => none) (cellsFrom (L + 1) scope.names []) cells → s.toks ≤ tk →
      wpAny (model PySem.Challenge.rw_pg0120_01.row.prog w) (A.deeper (envOfC qual scope L f cdv)) (execs body (envOfC qual scope L f cdv))
        (fun fl s' => Q (match fl with | .ret v => v | _ => .none) s') No { s with heap := h₁, toks := tk })
    (hco : scope.isCoroutine = false) (hgen : scope.isGenerator = false) (hk : scope.kind = .function) : wpAny (model PySem.Challenge.rw_pg0120_01.row.prog w) A (call (.ref f) vals) Q E s := by
  refine wpAny_call ?_
  refine codeAny_call_function (fd := fnOf name qual params body scope dV kV doc pm an cdv ct) (body := body) hroom (X _ _ ho) rfl hco hgen rfl (codeRec_of X hcd) (hbind _ _ _ _ ?_)
  refine wpAny_with_toks (n := s.toks) (Nat.le_refl _) (wpAny_newFunctionEnv_cells hk (kindsX hkind _) fun env' he s' x htk => ?_)
  subst he
  refine ⟨hlim.keeps x.toInCall.keep, codeAny_func ?_⟩
  obtain ⟨h₁, tk, rfl, _⟩ := x.done
  have hk₁ := x.toInCall.keep
  obtain ⟨cells, NC, Y⟩ := Cl.news (h₀ := s.heap) (Nat.le_refl _) fun n c hm => ⟨x.cell n c (lookup_of_mem_nodup (cellsFrom_names scope.names 0 (s.heap.objs.size + 1) [] [] rfl ▸ hnd) hm), x.above n c hm⟩
  refine wpAny_mono (h s.heap.objs.size h₁ tk cells ⟨x.toInCall.ns, hk₁, Nat.le_refl _⟩ NC Y htk) (fun fl s' hl => ?_) fun _ _ y => y.elim
  cases fl <;> exact hl
end Mine
namespace Mine
theorem paired_strs {f : Int → Str} {ks : List Int} {vs ys : List Value} (hi : IntsAre vs ks) (h : Paired (fun v y => ∃ k t t', v = .int k t ∧ y = .str (f k) t') vs ys) : StrsAre ys (ks.map f) := by
  induction hi generalizing ys with
  | nil => cases h; exact .nil
  | cons n t _ ih =>
    cases h with
    | cons h1 h2 =>
      obtain ⟨k, t1, t2, e, rfl⟩ := h1
      cases e
      exact .cons _ _ (ih h2)

theorem comp_src {prog : Program} {w : World} {A : Around} {E : Value → Shared → Prop} {s : Shared} {env : Env} {elt : Expr} {x : Str} {scope : Scope} {cl : List (Str × Addr)} {Q : Value → Shared → Prop} {lk : Addr} {vs : List Value} {ks : List Int} (f : Int → Str)
    (hh : A.handled = none) (hl : s.heap.IsList lk vs.toArray) (hi : IntsAre vs ks) (hlen : ks.length ≤ 1000)
    (helt : ∀ C k tki s₃ m₃ E', s.heap.objs.size ≤ C → k ∈ ks → s₃.heap.Ns C m₃ → m₃ x = some (.int k tki) → Ext s.heap s₃.heap →
      wpAny (model prog w) A (eval elt (compEnvC scope cl C env)) (fun y s₄ => (∃ t, y = .str (f k) t) ∧ Keeps s₃ s₄) E' s₃)
    (hQ : ∀ D h' tk vs', s.heap.get? D = none → h'.PlainList D (List.toArray vs') → StrsAre vs' (ks.map f) → Ext s.heap h' → Q (.ref D) { s with heap := h', toks := tk }) :
    wpAny (model prog w) A (pyIter (.ref lk)) (fun it s₂ => ∃ I fp wr n P St, it = .ref I ∧ Walks prog w A I fp wr n P St ∧ n ≤ sizeLine ∧ St 0 s₂.heap ∧ (∀ b ∈ fp, b < s₂.heap.objs.size) ∧
      QuietOnC prog w A env scope cl x [] elt wr P (fun _ => true) (fun v y => ∃ k t t', v = .int k t ∧ y = .str (f k) t') s₂ ∧
      (∀ D h' tk ys (vs : List Value), s₂.heap.get? D = none → h'.IsList D ys → h'.PlainList D ys → vs.length = n → (∀ j v, vs[j]? = some v → P j v) → Paired (fun v y => ∃ k t t', v = .int k t ∧ y = .str (f k) t') (vs.filter fun _ => true) ys.toList →
        (∀ b o, b ∉ wr → s₂.heap.get? b = some o → h'.get? b = some o) → Q (.ref D) { s₂ with heap := h', toks := tk })) E s := by
  obtain ⟨ol, hol, hlr⟩ := id hl
  have hlt := Heap.lt_size hol
  refine wpAny_pyIter_list hl ?_
  have W := Walks.list (prog := prog) (w := w) hh s.heap.objs.size lk (Nat.ne_of_lt hlt) vs.toArray
  have hvl : vs.toArray.size = ks.length := by simp [hi.length]
  have up : ∀ {o : Obj}, Ext s.heap (s.heap.push o) := fun b o e => Heap.get?_push_of_some _ e
  refine ⟨_, _, _, _, _, _, rfl, W, by rw [hvl]; unfold sizeLine; omega, ⟨⟨_, Heap.get?_push_size _ rfl, rfl, rfl⟩, ol, Heap.get?_push_of_some _ hol, hlr⟩, ?_, ⟨?_, ?_⟩, ?_⟩
  · intro b hb
    rw [Heap.size_push]
    rcases List.mem_cons.mp hb with rfl | hb
    · exact Nat.lt_succ_self _
    · rw [List.mem_singleton.mp hb]; exact Nat.lt_succ_of_lt hlt
  · intro C i v s₃ m₃ E' _ _ _ _ _ _
    exact wpAny_tests_nil ⟨rfl, ⟨_, _, rfl, fun _ _ e => e⟩⟩
  · intro C i v s₃ m₃ E' hC hP _ hn hm hk _
    have hP' : vs[i]? = some v := by simpa using hP
    obtain ⟨k, t, rfl, hki⟩ := IntsAre.at hi i v hP'
    refine wpAny_mono (helt C k t s₃ m₃ E' ?_ (List.mem_of_getElem? hki) hn hm ?_) (fun y s₄ h => ?_) fun _ _ z => z
    · rw [Heap.size_push] at hC; exact Nat.le_of_succ_le hC
    · intro b o e
      exact hk b o (fun hm => absurd (Heap.lt_size e) (by rw [List.mem_singleton.mp hm]; exact Nat.lt_irrefl _)) (up b o e)
    · obtain ⟨⟨t', rfl⟩, hk⟩ := h
      exact ⟨⟨k, t, t', rfl, rfl⟩, hk⟩
  · intro D h' tk ys vs' hD hl' hpl hn hP hF hk
    have hvv : vs' = vs := by
      apply List.ext_getElem?
      intro j
      cases q : vs'[j]? with
      | none =>
        have : vs'.length ≤ j := by simpa using q
        rw [hn] at this
        have : vs.length ≤ j := by simpa using this
        simp [this]
      | some v =>
        have := hP j v q
        have : vs[j]? = some v := by simpa using this
        exact this.symm
    subst hvv
    have hs := paired_strs (f := f) (ys := ys.toList) hi (by rw [List.filter_eq_self.mpr (fun _ _ => rfl)] at hF; exact hF)
    refine hQ D h' tk ys.toList ?_ (by simpa using hpl) hs ?_
    · cases q : s.heap.get? D with
      | none => rfl
      | some o =>
        rw [Heap.get?_push_of_some _ q] at hD
        cases hD
    · intro b o e
      exact hk b o (fun hm => absurd (Heap.lt_size e) (by rw [List.mem_singleton.mp hm]; exact Nat.lt_irrefl _)) (up b o e)
end Mine
namespace Mine
theorem comp_assign {prog : Program} {w : World} {A : Around} {E : Value → Shared → Prop} {s : Shared} {env : Env} {elt : Expr} {x y : Str} {scope : Scope} {cl : List (Str × Addr)} {Q : Flow → Shared → Prop} {lk L : Addr} {vs : List Value} {ks : List Int} {B : Heap} {m : Str → Option Value} {news : List (Addr × Obj)} (f : Int → Str)
    (hh : A.handled = none) (hL : env.locals = L) (F : Fr B L s.heap m) (N : News B L s.heap news) (hl : s.heap.IsList lk vs.toArray) (hi : IntsAre vs ks) (hlen : ks.length ≤ 1000)
    (helt : ∀ C k tki s₃ m₃ E', s.heap.objs.size ≤ C → k ∈ ks → s₃.heap.Ns C m₃ → m₃ x = some (.int k tki) → Ext s.heap s₃.heap →
      wpAny (model prog w) A (eval elt (compEnvC scope cl C env)) (fun y s₄ => (∃ t, y = .str (f k) t) ∧ Keeps s₃ s₄) E' s₃)
    (hQ : ∀ (D : Addr) (h' : Heap) (tk : Nat) (vs' : List Value) (c : Nat), Fr B L h' (fun z => if z = y then some (.ref D) else m z) → News B L h' ((D, listOf vs'.toArray c) :: news) → (∀ p ∈ news, p.1 ≠ D) → StrsAre vs' (ks.map f) → Q .next { s with heap := h', toks := tk }) :
    wpAny (model prog w) A (pyIter (.ref lk)) (fun it s₂ => ∃ I fp wr n P St m, it = .ref I ∧ Walks prog w A I fp wr n P St ∧ n ≤ sizeLine ∧ St 0 s₂.heap ∧ (∀ b ∈ fp, b < s₂.heap.objs.size) ∧
      env.locals ∉ wr ∧ s₂.heap.Ns env.locals m ∧ QuietOnC prog w A env scope cl x [] elt wr P (fun _ => true) (fun v y => ∃ k t t', v = .int k t ∧ y = .str (f k) t') s₂ ∧
      (∀ D h' tk ys (vs : List Value), s₂.heap.get? D = none → h'.IsList D ys → h'.PlainList D ys → vs.length = n → (∀ j v, vs[j]? = some v → P j v) → Paired (fun v y => ∃ k t t', v = .int k t ∧ y = .str (f k) t') (vs.filter fun _ => true) ys.toList →
        h'.Ns env.locals (fun z => if z = y then some (.ref D) else m z) → (∀ b o, b ≠ env.locals → b ∉ wr → s₂.heap.get? b = some o → h'.get? b = some o) → Q .next { s₂ with heap := h', toks := tk })) E s := by
  subst hL
  obtain ⟨ol, hol, hlr⟩ := id hl
  have hlt := Heap.lt_size hol
  have hLlt := F.ns.lt
  refine wpAny_pyIter_list hl ?_
  have W := Walks.list (prog := prog) (w := w) hh s.heap.objs.size lk (Nat.ne_of_lt hlt) vs.toArray
  have hvl : vs.toArray.size = ks.length := by simp [hi.length]
  have up : ∀ {o : Obj}, Ext s.heap (s.heap.push o) := fun b o e => Heap.get?_push_of_some _ e
  refine ⟨_, _, _, _, _, _, m, rfl, W, by rw [hvl]; unfold sizeLine; omega, ⟨⟨_, Heap.get?_push_size _ rfl, rfl, rfl⟩, ol, Heap.get?_push_of_some _ hol, hlr⟩, ?_, ?_, F.ns.push _, ⟨?_, ?_⟩, ?_⟩
  · intro b hb
    rw [Heap.size_push]
    rcases List.mem_cons.mp hb with rfl | hb
    · exact Nat.lt_succ_self _
    · rw [List.mem_singleton.mp hb]; exact Nat.lt_succ_of_lt hlt
  · intro hm
    exact absurd hLlt (by rw [List.mem_singleton.mp hm]; exact Nat.lt_irrefl _)
  · intro C i v s₃ m₃ E' _ _ _ _ _ _
    exact wpAny_tests_nil ⟨rfl, ⟨_, _, rfl, fun _ _ e => e⟩⟩
  · intro C i v s₃ m₃ E' hC hP _ hn hm hk _
    have hP' : vs[i]? = some v := by simpa using hP
    obtain ⟨k, t, rfl, hki⟩ := IntsAre.at hi i v hP'
    refine wpAny_mono (helt C k t s₃ m₃ E' ?_ (List.mem_of_getElem? hki) hn hm ?_) (fun y s₄ h => ?_) fun _ _ z => z
    · rw [Heap.size_push] at hC; exact Nat.le_of_succ_le hC
    · intro b o e
      exact hk b o (fun hm => absurd (Heap.lt_size e) (by rw [List.mem_singleton.mp hm]; exact Nat.lt_irrefl _)) (up b o e)
    · obtain ⟨⟨t', rfl⟩, hk⟩ := h
      exact ⟨⟨k, t, t', rfl, rfl⟩, hk⟩
  · intro D h' tk ys vs' hD hl' hpl hn hP hF hns hk
    have hvv : vs' = vs := by
      apply List.ext_getElem?
      intro j
      cases q : vs'[j]? with
      | none =>
        have : vs'.length ≤ j := by simpa using q
        rw [hn] at this
        have : vs.length ≤ j := by simpa using this
        simp [this]
      | some v =>
        have := hP j v q
        have : vs[j]? = some v := by simpa using this
        exact this.symm
    subst hvv
    have hs := paired_strs (f := f) (ys := ys.toList) hi (by rw [List.filter_eq_self.mpr (fun _ _ => rfl)] at hF; exact hF)
    obtain ⟨c, hc⟩ := hpl
    have hD' : s.heap.get? D = none := by
      cases q : s.heap.get? D with
      | none => rfl
      | some o =>
        rw [Heap.get?_push_of_some _ q] at hD
        cases hD
    have hne : ∀ p ∈ news, p.1 ≠ D := by
      intro p hp e
      have := (N p hp).1
      rw [e, hD'] at this
      cases this
    have kp : ∀ b o, b ≠ env.locals → s.heap.get? b = some o → h'.get? b = some o := fun b o hb e =>
      hk b o hb (fun hm => absurd (Heap.lt_size e) (by rw [List.mem_singleton.mp hm]; exact Nat.lt_irrefl _)) (up b o e)
    have hDL : D ≠ env.locals := by
      rintro rfl
      obtain ⟨o, _, _, ho, _⟩ := F.ns
      rw [hD'] at ho
      cases ho
    have hDB : B.get? D = none := by
      cases q : B.get? D with
      | none => rfl
      | some o => have := F.keep D o q; rw [hD'] at this; cases this
    refine hQ D h' tk ys.toList c ⟨hns, fun b o e => kp b o (fun q => by subst q; rw [Heap.get?_none_of_le F.above] at e; cases e) (F.keep b o e), F.above⟩ ?_ hne hs
    intro p hp
    rcases List.mem_cons.mp hp with rfl | hp
    · exact ⟨by simpa [PySem.W.listOf] using hc, hDL, hDB⟩
    · exact ⟨kp _ _ (N p hp).2.1 (N p hp).1, (N p hp).2⟩
end Mine
namespace Mine
theorem comp_store {prog : Program} {w : World} {A : Around} {E : Value → Shared → Prop} {s : Shared} {env : Env} {elt : Expr} {x y kn : Str} {px py pk pos spos : Pos} {scope : Scope} {cl : List (Str × Addr)} {Q : Flow → Shared → Prop} {lk L : Addr} {vs : List Value} {ks : List Int} {B : Heap} {m : Str → Option Value} {news : List (Addr × Obj)} (f : Int → Str)
    (F : Fr B L s.heap m) (N : News B L s.heap news) (hh : A.handled = none) (hL : env.locals = L)
    (hsw : swapsWith (.ListComp elt [⟨.Name x px, .Name kn pk, [], 0⟩] scope pos) (some (.Name y py)) spos.line env = pure true)
    (hclos : closureFor scope env = pure cl) (hcell : ∀ z ∈ scope.names, z.2 ≠ .cell) (hkind : scope.kind = .function)
    (hnames : ∀ z ∈ scope.names, z.2 = .local → scope.names.lookup z.1 = some .local) (hx : scope.names.lookup x = some .local)
    (hy : env.kindOf y = some .local) (hp : (env.scope.kind == .class || (env.scope.kind == .module && env.locals != env.globals)) = false)
    (hek : env.scope.kind = .function) (hkn : env.kindOf kn = some .local) (hmk : m kn = some (.ref lk)) (hdb : (kn == ("__debug__" : Str)) = false)
    (hl : s.heap.IsList lk vs.toArray) (hi : IntsAre vs ks) (hlen : ks.length ≤ 1000)
    (helt : ∀ C k tki s₃ m₃ E', s.heap.objs.size ≤ C → k ∈ ks → s₃.heap.Ns C m₃ → m₃ x = some (.int k tki) → Ext s.heap s₃.heap →
      wpAny (model prog w) A (eval elt (compEnvC scope cl C env)) (fun y s₄ => (∃ t, y = .str (f k) t) ∧ Keeps s₃ s₄) E' s₃)
    (hQ : ∀ (D : Addr) (h' : Heap) (tk : Nat) (vs' : List Value) (c : Nat), Fr B L h' (fun z => if z = y then some (.ref D) else m z) → News B L h' ((D, listOf vs'.toArray c) :: news) → (∀ p ∈ news, p.1 ≠ D) → StrsAre vs' (ks.map f) → Q .next { s with heap := h', toks := tk })
    (hs : ∀ x, foldedSetIterable (.Name kn pk) env x = pure x) :
    wpAny (model prog w) A (exec (.Assign [.Name y py] (.ListComp elt [⟨.Name x px, .Name kn pk, [], 0⟩] scope pos) spos) env) Q E s := by
  refine wpAny_Assign_ListComp_free (fun _ => true) (fun v y => ∃ k t t', v = .int k t ∧ y = .str (f k) t') hsw hclos hcell hkind hnames hx hy hp ?_ hs
  refine wpAny_Name (wpAny_loadName_local hek hkn (by rw [hL]; exact F.ns) hmk ?_) hdb
  exact comp_assign (Q := Q) f hh hL F N hl hi hlen helt hQ
theorem comp_eval {prog : Program} {w : World} {A : Around} {E : Value → Shared → Prop} {s : Shared} {env : Env} {elt : Expr} {x kn : Str} {px pk pos : Pos} {scope : Scope} {cl : List (Str × Addr)} {Q : Value → Shared → Prop} {lk L : Addr} {vs : List Value} {ks : List Int} {B : Heap} {m : Str → Option Value} {news : List (Addr × Obj)} (f : Int → Str)
    (F : Fr B L s.heap m) (N : News B L s.heap news) (hh : A.handled = none) (hL : env.locals = L)
    (hclos : closureFor scope env = pure cl) (hcell : ∀ z ∈ scope.names, z.2 ≠ .cell) (hkind : scope.kind = .function)
    (hnames : ∀ z ∈ scope.names, z.2 = .local → scope.names.lookup z.1 = some .local) (hx : scope.names.lookup x = some .local)
    (hek : env.scope.kind = .function) (hkn : env.kindOf kn = some .local) (hmk : m kn = some (.ref lk)) (hdb : (kn == ("__debug__" : Str)) = false)
    (hl : s.heap.IsList lk vs.toArray) (hi : IntsAre vs ks) (hlen : ks.length ≤ 1000)
    (helt : ∀ C k tki s₃ m₃ E', s.heap.objs.size ≤ C → k ∈ ks → s₃.heap.Ns C m₃ → m₃ x = some (.int k tki) → Ext s.heap s₃.heap →
      wpAny (model prog w) A (eval elt (compEnvC scope cl C env)) (fun y s₄ => (∃ t, y = .str (f k) t) ∧ Keeps s₃ s₄) E' s₃)
    (hQ : ∀ (D : Addr) (h' : Heap) (tk : Nat) (vs' : List Value) (c : Nat), Fr B L h' m → News B L h' ((D, listOf vs'.toArray c) :: news) → (∀ p ∈ news, p.1 ≠ D) → StrsAre vs' (ks.map f) → Q (.ref D) { s with heap := h', toks := tk })
    (hs : ∀ x, foldedSetIterable (.Name kn pk) env x = pure x) :
    wpAny (model prog w) A (eval (.ListComp elt [⟨.Name x px, .Name kn pk, [], 0⟩] scope pos) env) Q E s := by
  refine wpAny_ListComp_free (fun _ => true) (fun v y => ∃ k t t', v = .int k t ∧ y = .str (f k) t') hclos hcell hkind hnames hx ?_ hs
  refine wpAny_Name (wpAny_loadName_local hek hkn (by rw [hL]; exact F.ns) hmk ?_) hdb
  refine comp_src (Q := Q) f hh hl hi hlen helt ?_
  intro D h' tk vs' hD hpl hs' hext
  obtain ⟨c, hc⟩ := hpl
  have hne : ∀ p ∈ news, p.1 ≠ D := by
    intro p hp e
    have := (N p hp).1
    rw [e, hD] at this
    cases this
  have hDL : D ≠ L := by
    rintro rfl
    obtain ⟨o, _, _, ho, _⟩ := F.ns
    rw [hD] at ho
    cases ho
  have hDB : B.get? D = none := by
    cases q : B.get? D with
    | none => rfl
    | some o => have := F.keep D o q; rw [hD] at this; cases this
  refine hQ D h' tk vs' c (frExt F hext) ?_ hne hs'
  intro p hp
  rcases List.mem_cons.mp hp with rfl | hp
  · exact ⟨by simpa [PySem.W.listOf] using hc, hDL, hDB⟩
  · exact newsExt N hext p hp
end Mine
namespace Mine
def aheadL : List Str := [Str.ofString "", Str.ofString "", Str.ofString "", Str.ofString "", Str.ofString "\"(\\\"\"", Str.ofString "\\)", Str.ofString "\\\\", Str.ofString "a"]
def pieceS (sg : List Str) (k : Int) : Str := aheadL.getD k.toNat Str.empty ++ sg.getD k.toNat Str.empty
def textS (ks : List Int) (sg : List Str) (mark : Str) : Str :=
  let ps := ks.map (pieceS sg)
  Txt.join (Str.ofString "") (ps.take (ps.length - 2) ++ [mark] ++ ps.drop (ps.length - 2))

theorem str_get {prog : Program} {w : World} {A : Around} {E : Value → Shared → Prop} {s : Shared} {value slice : Expr} {D : Addr} {k : Int} {u : Tok} {vs : List Value} {ys : List Str} {Q : Value → Shared → Prop}
    (hl : s.heap.IsList D vs.toArray) (hi : StrsAre vs ys) (h0 : 0 ≤ k) (hk : k < ys.length) (hn : ys.length < 1000) (h : ∀ t, Q (.str (ys.getD k.toNat Str.empty) t) s)
    (hs : subscripted slice false (.ref D) (.int k u) = operate [.ref D, .int k u] (getItem (.ref D) (.int k u)) := by with_unfolding_all rfl) (hg : ∀ r, letTemporaryGo value (.ref D) r = pure () := by intro _; with_unfolding_all rfl) :
    wpAny (model prog w) A (subscriptTail value slice (.ref D) (.int k u)) Q E s := by
  have hlt : k.toNat < ys.length := by omega
  obtain ⟨t, hx⟩ := hi.at (j := k.toNat) (y := ys.getD k.toNat Str.empty) (by rw [List.getD_eq_getElem?_getD, List.getElem?_eq_getElem hlt]; rfl)
  exact item_list hl h0 (by omega) (by simpa using hx) (h t) hs hg

theorem listExt {h h' : Heap} {l : Addr} {vs : Array Value} (e : Ext h h') (hl : h.IsList l vs) : h'.IsList l vs := let ⟨o, ho, r⟩ := hl; ⟨o, e _ _ ho, r⟩
theorem newsC {B h h' : Heap} {L C : Addr} {news : List (Addr × Obj)} (N : News B L h news) (hC : h.objs.size ≤ C) (e : Ext h h') : News B C h' news :=
  fun p hp => ⟨e _ _ (N p hp).1, fun q => absurd (Heap.lt_size (N p hp).1) (by rw [q]; exact Nat.not_lt.mpr hC), (N p hp).2.2⟩
theorem strsA (t0 t1 t2 t3 t4 t5 t6 t7 : Tok) : StrsAre [.str (Str.ofString "") t0, .str (Str.ofString "") t1, .str (Str.ofString "") t2, .str (Str.ofString "") t3, .str (Str.ofString "\"(\\\"\"") t4, .str (Str.ofString "\\)") t5, .str (Str.ofString "\\\\") t6, .str (Str.ofString "a") t7] aheadL :=
  .cons _ _ (.cons _ _ (.cons _ _ (.cons _ _ (.cons _ _ (.cons _ _ (.cons _ _ (.cons _ _ .nil)))))))
theorem ahead_len {k : Nat} : (aheadL.getD k Str.empty).length ≤ 5 := by
  match k with
  | 0 | 1 | 2 | 3 | 4 | 5 | 6 | 7 => decide +kernel
  | k + 8 => exact Nat.le_trans (by rw [List.getD_eq_getElem?_getD, List.getElem?_eq_none (by simp [aheadL])]; decide +kernel) (Nat.zero_le 5)
theorem piece_len {sg : List Str} (hsgl : ∀ y ∈ sg, y.length ≤ 10) (k : Int) : (pieceS sg k).length ≤ 15 := by
  have h1 := ahead_len (k := k.toNat)
  have h2 : (sg.getD k.toNat Str.empty).length ≤ 10 := by
    by_cases h : k.toNat < sg.length
    · exact hsgl _ (strs_getD_mem h)
    · rw [List.getD_eq_getElem?_getD, List.getElem?_eq_none (by omega)]
      exact Nat.zero_le _
  unfold pieceS
  rw [Str.length_append]
  omega
theorem text_len {sg : List Str} {ks : List Int} {mark : Str} (hml : mark.length ≤ 10) (hsgl : ∀ y ∈ sg, y.length ≤ 10) (hk7 : ks.length ≤ 7) :
    (((ks.map (pieceS sg)).take (ks.length - 2) ++ [mark] ++ (ks.map (pieceS sg)).drop (ks.length - 2)).map Str.length).sum ≤ 10000000 := by
  have h : ∀ y ∈ (ks.map (pieceS sg)).take (ks.length - 2) ++ [mark] ++ (ks.map (pieceS sg)).drop (ks.length - 2), y.length ≤ 15 := by
    have hp : ∀ y ∈ ks.map (pieceS sg), y.length ≤ 15 := by
      intro y hy
      obtain ⟨k, _, rfl⟩ := List.mem_map.mp hy
      exact piece_len hsgl k
    intro y hy
    rcases List.mem_append.mp hy with hy | hy
    · rcases List.mem_append.mp hy with hy | hy
      · exact hp y (List.mem_of_mem_take hy)
      · rw [List.mem_singleton.mp hy]; omega
    · exact hp y (List.mem_of_mem_drop hy)
  have h2 := sum_le h
  simp only [List.length_append, List.length_take, List.length_drop, List.length_map, List.length_cons, List.length_nil] at h2
  omega

local macro_rules | `(tactic| walk_at "eval ListComp") => `(tactic| refine Halt.of ?_)
local macro_rules | `(tactic| walk_at "exec Assign cons ListComp") => `(tactic| refine Halt.of ?_)
local macro_rules | `(tactic| walk_at "eval Name") => `(tactic| (k_here; (with_reducible show wpAny _ _ (eval (Expr.Name _ _) (compEnvC _ _ _ _)) _ _ _); (with_reducible rename Fr _ _ _ _ => F'); (refine wpAny_Name (wpAny_loadName_local rfl rfl F'.ns (by assumption) ?_) (by decide))))
local macro_rules | `(tactic| walk_at "subscriptTail Name Name ref int") => `(tactic| (k_here; refine Halt.of ?_))
local macro_rules | `(tactic| walk_at "binaryOp Add ref ref") => `(tactic| (k_here; refine Halt.of ?_))

theorem text_call {w : World} {dp un : Nat} {fr : Option (List Env)} {gd : Option (List Code)} {s : Shared} {Q E : Value → Shared → Prop} {mean mg mb} {lk ls : Addr} {vk vsg : List Value} {ks : List Int} {sg : List Str} {mark : Str} {t : Tok}
    (X : (hd.heap_39 w.params).In s.heap) (T : Top hd.view_39 (looseW hd.view_39 []) mean mg mb s.heap) (hlk : s.heap.IsList lk vk.toArray) (hvk : IntsAre vk ks) (hls : s.heap.IsList ls vsg.toArray) (hsg : StrsAre vsg sg) (hsl : sg.length = 8)
    (hk8 : ∀ k ∈ ks, 0 ≤ k ∧ k < 8) (hk2 : 2 ≤ ks.length) (hk7 : ks.length ≤ 7) (hsgl : ∀ y ∈ sg, y.length ≤ 10) (hml : mark.length ≤ 10) (hroom : dp + 8 < recursionLimit) (hu : un + 40 < cLine)
    (hret : ∀ (t : Tok) (h' : Heap) (tk' : Nat), Ext s.heap h' → Q (.str (textS ks sg mark) t) { s with heap := h', toks := tk' }) :
    wpAny (model PySem.Challenge.rw_pg0120_01.row.prog w) (Ar dp un fr gd) (call (.ref 54) [.ref lk, .ref ls, .str mark t]) Q E s := by
  revert X T
  w_top off
  k_fill
  intro X T
  refine' enterC (K := hd.heap_39 w.params) [(Str.ofString "kinds", .ref lk), (Str.ofString "signs", .ref ls), (Str.ofString "mark", .str mark t)] X T.nolimit ?ho ?hcd ?hroom ?hbind ?hloc ?hnd ?_ ?c1 ?c2 ?c3
  case ho => k_is
  case hcd => k_is
  case hroom => show dp < recursionLimit; omega
  case hbind => exact BindsTo.of_eq rfl
  case hloc => rfl
  case hnd => decide
  case c1 => rfl
  case c2 => rfl
  case c3 => rfl
  intro L h₁ tk cells F N Y htk
  obtain ⟨o1, o2, hE, d1, d2⟩ := CellsAre.two Y
  subst hE
  clear Y
  change o1.data = Data.cell none at d1
  change o2.data = Data.cell (some (Value.ref ls)) at d2
  have F1 := frSet (frSet F (Str.ofString "kinds") (v := .ref lk) rfl) (Str.ofString "mark") (v := .str mark t) rfl
  clear F
  k_steps
  rename Fr _ _ _ _ => F2
  rename News _ _ _ _ => N2
  refine comp_store (cl := [(Str.ofString "signs", L + 1), (Str.ofString "ahead", L + 1 + 1)]) (ks := ks) (vs := vk) (pieceS sg) F2 N2 rfl rfl rfl ?hclos (by decide) rfl (by decide) rfl rfl rfl rfl rfl rfl (by decide) ?hl hvk (by omega) ?helt ?hQ (by intro _; rfl)
  case hclos => with_unfolding_all rfl
  case hl => exact listExt F2.keep hlk
  case helt =>
    intro C k tki s₃ m₃ E' hC hk hns hm hext
    have F3 : Fr s.heap C s₃.heap m₃ := ⟨hns, fun b o e => hext b o (F2.keep b o e), Nat.le_trans F2.above (Nat.le_trans (Nat.le_of_lt F2.ns.lt) hC)⟩
    obtain ⟨k0, k1⟩ := hk8 k hk
    have hls3 := listExt F3.keep hls
    have N3 := newsC N2 hC hext
    clear F2 N2 hext hns hC
    k_steps
    refine str_get (ys := aheadL) (News.isList N3 (by k_mem)) (by exact strsA _ _ _ _ _ _ _ _) k0 (by exact k1) (by decide) ?_
    intro ta
    k_steps
    refine str_get hls3 hsg k0 (by rw [hsl]; exact k1) (by rw [hsl]; decide) ?_
    intro tb
    have hl1 := ahead_len (k := k.toNat)
    have hl2 : (sg.getD k.toNat Str.empty).length ≤ 10 := hsgl _ (strs_getD_mem (by omega))
    k_steps
    exact ⟨s₃.heap, _, rfl, fun _ _ e => e⟩
  case hQ =>
    clear F2 N2
    intro D h' tk vs' c F9 N9 hne hs9
    have hlv := StrsAre.len_eq hs9
    dsimp only
    k_steps
    rename News _ _ _ _ => N7
    rename Fr _ _ _ _ => F7
    dsimp only at N7
    have e1 : slicePick vs'.toArray none (some (-2)) none = (vs'.take (vs'.length - 2)).toArray := by
      have := slicePick_butLast vs'.toArray 2 (by decide)
      simpa using this
    have e2 : slicePick vs'.toArray (some (-2)) none none = (vs'.drop (vs'.length - 2)).toArray := by
      have := slicePick_last vs'.toArray 2 (by decide)
      simpa using this
    rw [List.length_map] at hlv
    rw [e1] at N7
    refine add_lists (ws := [.str mark t]) F7 N7 (News.isList N7 (by k_mem)) (News.isList N7 (by k_mem)) ?_ (by simp only [List.length_take, List.length_cons, List.length_nil]; unfold sizeLine; omega)
    intro h8 F8 N8
    clear F7 N7
    k_steps
    rename News _ _ _ _ => N9
    rename Fr _ _ _ _ => F9
    dsimp only at N9
    rw [e2] at N9
    refine add_lists F9 N9 (News.isList N9 (by k_mem)) (News.isList N9 (by k_mem)) ?_ (by simp only [List.length_append, List.length_drop, List.length_take, List.length_cons, List.length_nil]; unfold sizeLine; omega)
    intro h10 F10 N10
    clear F9 N9
    k_steps
    have hs10 : StrsAre (vs'.take (vs'.length - 2) ++ [.str mark t] ++ vs'.drop (vs'.length - 2)) ((ks.map (pieceS sg)).take (ks.length - 2) ++ [mark] ++ (ks.map (pieceS sg)).drop (ks.length - 2)) := by
      rw [hlv]
      exact ((hs9.take' _).append' (.cons _ _ .nil)).append' (hs9.drop' _)
    refine join_rule (News.isList N10 (by k_mem)) hs10 ?_ ?_
    · exact text_len hml hsgl hk7
    intro t' k
    k_steps
    refine (congrArg (fun z => Q (.str z _) _) ?_).mpr (hret _ _ _ F10.keep)
    simp only [textS, List.length_map]
end Mine
namespace Mine
def signsL : List Str := [Str.ofString "(", Str.ofString ")", Str.ofString "(", Str.ofString ")", Str.ofString "", Str.ofString "", Str.ofString "(", Str.ofString ")"]
def turnedL : List Str := [Str.ofString ")", Str.ofString "(", Str.ofString ")", Str.ofString "(", Str.ofString "", Str.ofString "", Str.ofString ")", Str.ofString "("]
def signS (sg : List Str) (k : Int) : Str := sg.getD k.toNat Str.empty
def rowS (sg : List Str) (ks : List Int) : Str := Txt.join (Str.ofString "") (ks.map (signS sg))
theorem strsS (t0 t1 t2 t3 t4 t5 t6 t7 : Tok) : StrsAre [.str (Str.ofString "(") t0, .str (Str.ofString ")") t1, .str (Str.ofString "(") t2, .str (Str.ofString ")") t3, .str (Str.ofString "") t4, .str (Str.ofString "") t5, .str (Str.ofString "(") t6, .str (Str.ofString ")") t7] signsL :=
  .cons _ _ (.cons _ _ (.cons _ _ (.cons _ _ (.cons _ _ (.cons _ _ (.cons _ _ (.cons _ _ .nil)))))))
theorem strsT (t0 t1 t2 t3 t4 t5 t6 t7 : Tok) : StrsAre [.str (Str.ofString ")") t0, .str (Str.ofString "(") t1, .str (Str.ofString ")") t2, .str (Str.ofString "(") t3, .str (Str.ofString "") t4, .str (Str.ofString "") t5, .str (Str.ofString ")") t6, .str (Str.ofString "(") t7] turnedL :=
  .cons _ _ (.cons _ _ (.cons _ _ (.cons _ _ (.cons _ _ (.cons _ _ (.cons _ _ (.cons _ _ .nil)))))))
theorem signs_len : ∀ y ∈ signsL, y.length ≤ 10 := by decide +kernel
theorem turned_len : ∀ y ∈ turnedL, y.length ≤ 10 := by decide +kernel
theorem dec_eq (a b : Int) : (decide (a = b) == (a == b)) = true := by
  by_cases h : a = b
  · subst h; simp
  · simp [h]
theorem sgn_len {sg : List Str} (h : ∀ y ∈ sg, y.length ≤ 1) (k : Int) : (signS sg k).length ≤ 1 := by
  unfold signS
  by_cases h2 : k.toNat < sg.length
  · exact h _ (strs_getD_mem h2)
  · rw [List.getD_eq_getElem?_getD, List.getElem?_eq_none (by omega)]
    exact Nat.zero_le _
theorem sign_len : ∀ k, (signS signsL k).length ≤ 1 := sgn_len (by decide +kernel)
theorem turn_len : ∀ k, (signS turnedL k).length ≤ 1 := sgn_len (by decide +kernel)
theorem row_len {sg : List Str} {ks : List Int} (h : ∀ k, (signS sg k).length ≤ 1) (hk7 : ks.length ≤ 7) : ((ks.map (signS sg)).map Str.length).sum ≤ 10000000 := by
  have := sum_le (res := ks.map (signS sg)) (k := 1) (by
    intro y hy
    obtain ⟨k, _, rfl⟩ := List.mem_map.mp hy
    exact h k)
  rw [List.length_map] at this
  omega
local macro_rules | `(tactic| walk_at "eval ListComp") => `(tactic| refine Halt.of ?_)
local macro_rules | `(tactic| walk_at "exec Assign cons ListComp") => `(tactic| refine Halt.of ?_)
local macro_rules | `(tactic| walk_at "call ref") => `(tactic| refine Halt.of ?_)
local macro_rules | `(tactic| walk_at "eval Name") => `(tactic| (k_here; (with_reducible show wpAny _ _ (eval (Expr.Name _ _) (compEnvC _ _ _ _)) _ _ _); (with_reducible rename Fr _ _ _ _ => F'); (refine wpAny_Name (wpAny_loadName_local rfl rfl F'.ns (by assumption) ?_) (by decide))))
local macro_rules | `(tactic| walk_at "subscriptTail Name Name ref int") => `(tactic| (k_here; refine Halt.of ?_))
local macro_rules | `(tactic| walk_at "call builtin:str.join") => `(tactic| (k_here; refine Halt.of ?_))

theorem toks_gen {α : Type} {M : Model} {A : Around} {tr : Sem α} {Q : α → Shared → Prop} {E : Value → Shared → Prop} {h : Heap} {g : Array GenState} {d : _} {os : _} {n : Nat}
    (hq : ∀ k : Nat, 1 ≤ k → wpAny M A tr Q E ⟨h, g, d, k, os⟩) : wpAny M A tr Q E ⟨h, g, d, n + 1, os⟩ := hq _ (Nat.succ_le_succ (Nat.zero_le _))
local macro_rules | `(tactic| walk_at "execs cons") => `(tactic| (k_here; refine toks_gen ?_; intro tk hpos))

theorem agree_call {w : World} {dp un : Nat} {fr : Option (List Env)} {gd : Option (List Code)} {s : Shared} {Q E : Value → Shared → Prop} {mean mg mb} {lk : Addr} {vk : List Value} {ks : List Int} {mark : Str} {t : Tok}
    (X : (hd.heap_39 w.params).In s.heap) (T : Top hd.view_39 (looseW hd.view_39 []) mean mg mb s.heap) (hlk : s.heap.IsList lk vk.toArray) (hvk : IntsAre vk ks)
    (hk8 : ∀ k ∈ ks, 0 ≤ k ∧ k < 8) (hk2 : 2 ≤ ks.length) (hk7 : ks.length ≤ 7) (hml : mark.length ≤ 10) {first second row rowT : Str}
    (e1 : textS ks signsL mark = first) (e2 : textS ks turnedL mark = second) (e3 : rowS signsL ks = row) (e4 : rowS turnedL ks = rowT) (r1 : readS first = row) (r2 : readS second = rowT)
    (hf1 : first.length ≤ 1000) (hf2 : second.length ≤ 1000) (hs1 : (stripS first).length ≤ 1000) (hs2 : (stripS second).length ≤ 1000) (hrow : row.length ≤ 7) (hrowT : rowT.length ≤ 7)
    {l1 l2 : Str} {p q : Int} (z1 : strikes 20 row (Str.ofString "()") = some l1) (z2 : strikes 20 row (Str.ofString ")(") = some l2) (hl1 : l1.length ≤ 1000) (hl2 : l2.length ≤ 1000)
    (hp : ((row.length : Int) - l1.length).fdiv 2 = p) (hq : ((row.length : Int) - l2.length).fdiv 2 = q)
    {y1 y2 y3 le : Str} {va ri sl : Int} (m1 : Txt.mul (Str.ofString ")") row.length ++ Txt.mul (Str.ofString "(") row.length = y1) (m2 : Txt.mul (Str.ofString "(") row.length ++ Txt.mul (Str.ofString ")") row.length = y2)
    (m3 : Txt.mul (Str.ofString "A") row.length ++ Txt.mul (Str.ofString "a") row.length = y3) (m4 : Txt.replace (Txt.replace row (Str.ofString "(") (Str.ofString "a")) (Str.ofString ")") (Str.ofString "A") = le)
    (hy1 : y1.length ≤ 40) (hy2 : y2.length ≤ 40) (hy3 : y3.length ≤ 40) (hle0 : (Txt.replace row (Str.ofString "(") (Str.ofString "a")).length ≤ 1000) (hle : le.length ≤ 40)
    (v1 : lev (tl row) (tl y1) (3 * row.length) = va) (v2 : lev (tl y2) (tl row) (3 * row.length) = ri) (v3 : lev (tl le) (tl y3) (2 * row.length + p) = sl)
    (w1 : va = 2 * (row.length + p)) (w2 : ri = 2 * (row.length + q)) (w3 : sl = 2 * row.length + p) (hp7 : 0 ≤ p ∧ p ≤ 7) (hq7 : 0 ≤ q ∧ q ≤ 7)
    (c1 : checkS first = decide (va = 3 * row.length)) (c2 : checkS second = decide (ri = 3 * row.length))
    (hroom : dp + 20 < recursionLimit) (hu : un + 100 < cLine)
    (hret : ∀ (h' : Heap) (tk' : Nat) gs', Ext s.heap h' → Q (.bool true) { s with heap := h', toks := tk', gens := gs' }) :
    wpAny (model PySem.Challenge.rw_pg0120_01.row.prog w) (Ar dp un fr gd) (call (.ref 71) [.ref lk, .str mark t]) Q E s := by
  revert X T
  w_top off
  k_fill
  intro X T
  refine' enterC (K := hd.heap_39 w.params) [(Str.ofString "kinds", .ref lk), (Str.ofString "mark", .str mark t)] X T.nolimit ?ho ?hcd ?hroom ?hbind ?hloc ?hnd ?_ ?c1 ?c2 ?c3
  case ho => k_is
  case hcd => k_is
  case hroom => show dp < recursionLimit; omega
  case hbind => exact BindsTo.of_eq rfl
  case hloc => rfl
  case hnd => decide
  case c1 => rfl
  case c2 => rfl
  case c3 => rfl
  intro L h₁ tk cells F N Y htk
  obtain ⟨o1, o2, hE, d1, d2⟩ := CellsAre.two Y
  subst hE
  clear Y
  change o1.data = Data.cell none at d1
  change o2.data = Data.cell none at d2
  have F1 := frSet (frSet F (Str.ofString "kinds") (v := .ref lk) rfl) (Str.ofString "mark") (v := .str mark t) rfl
  clear F
  k_steps
  rename Fr _ _ _ _ => F2
  rename News _ _ _ _ => N2
  refine text_call (ks := ks) (X.keeps F2.keep) (T.keeps F2.keep) (listExt F2.keep hlk) hvk (News.isList N2 (by k_mem)) (by exact strsS _ _ _ _ _ _ _ _) rfl hk8 hk2 hk7 signs_len hml (by dsimp only [Around.deeper]; omega) (by dsimp only [Around.deeper]; omega) ?_
  intro t3 h3 tk3 e3
  rw [e1]
  replace F2 := frExt F2 e3
  replace N2 := newsExt N2 e3
  clear e3
  k_steps
  rename Fr _ _ _ _ => F2
  rename News _ _ _ _ => N2
  refine text_call (ks := ks) (X.keeps F2.keep) (T.keeps F2.keep) (listExt F2.keep hlk) hvk (News.isList N2 (by k_mem)) (by exact strsT _ _ _ _ _ _ _ _) rfl hk8 hk2 hk7 turned_len hml (by dsimp only [Around.deeper]; omega) (by dsimp only [Around.deeper]; omega) ?_
  intro t4 h4 tk4 x4
  rw [e2]
  replace F2 := frExt F2 x4
  replace N2 := newsExt N2 x4
  clear x4
  k_steps
  rename Fr _ _ _ _ => F2
  rename News _ _ _ _ => N2
  refine comp_eval (cl := [(Str.ofString "signs", L + 1)]) (ks := ks) (vs := vk) (signS signsL) F2 N2 rfl rfl ?hclos (by decide) rfl (by decide) rfl rfl rfl rfl (by decide) ?hl hvk (by omega) ?helt ?hQ (by intro _; rfl)
  case hclos => with_unfolding_all rfl
  case hl => exact listExt F2.keep hlk
  case helt =>
    intro C k tki s₃ m₃ E' hC hk hns hm hext
    have F3 : Fr s.heap C s₃.heap m₃ := ⟨hns, fun b o e => hext b o (F2.keep b o e), Nat.le_trans F2.above (Nat.le_trans (Nat.le_of_lt F2.ns.lt) hC)⟩
    obtain ⟨k0, k1⟩ := hk8 k hk
    have N3 := newsC N2 hC hext
    clear F2 N2 hext hns hC
    k_steps
    refine str_get (ys := signsL) (News.isList N3 (by k_mem)) (by exact strsS _ _ _ _ _ _ _ _) k0 (by exact k1) (by decide) ?_
    intro ta
    k_steps
    exact ⟨s₃.heap, _, rfl, fun _ _ e => e⟩
  case hQ =>
    clear F2 N2
    intro D h' tk vs' c F9 N9 hne hs9
    k_steps
    rename Fr _ _ _ _ => F2
    rename News _ _ _ _ => N2
    refine join_rule (News.isList N2 (by k_mem)) hs9 (row_len sign_len hk7) ?_
    intro t' k
    rw [show Txt.join (Str.ofString "") (ks.map (signS signsL)) = row from e3]
    k_steps
    rename Fr _ _ _ _ => F2
    rename News _ _ _ _ => N2
    refine read_call (X.keeps F2.keep) (T.keeps F2.keep) hf1 hs1 (by dsimp only [Around.deeper]; omega) (by dsimp only [Around.deeper]; omega) ?_
    intro t5 h5 tk5 gs5 x5
    rw [r1]
    replace F2 := frExt F2 x5
    replace N2 := newsExt N2 x5
    clear x5
    k_steps
    · exact absurd (show (row != row) = true by assumption) (by simp)
    refine read_call (X.keeps F2.keep) (T.keeps F2.keep) hf2 hs2 (by dsimp only [Around.deeper]; omega) (by dsimp only [Around.deeper]; omega) ?_
    intro t6 h6 tk6 gs6 x6
    rw [r2]
    replace F2 := frExt F2 x6
    replace N2 := newsExt N2 x6
    clear x6
    k_steps
    rename Fr _ _ _ _ => F2
    rename News _ _ _ _ => N2
    refine comp_eval (cl := [(Str.ofString "turned", L + 1 + 1)]) (ks := ks) (vs := vk) (signS turnedL) F2 N2 rfl rfl ?hclos2 (by decide) rfl (by decide) rfl rfl rfl rfl (by decide) ?hl2 hvk (by omega) ?helt2 ?hQ2 (by intro _; rfl)
    case hclos2 => with_unfolding_all rfl
    case hl2 => exact listExt F2.keep hlk
    case helt2 =>
      intro C k tki s₃ m₃ E' hC hk hns hm hext
      have F3 : Fr s.heap C s₃.heap m₃ := ⟨hns, fun b o e => hext b o (F2.keep b o e), Nat.le_trans F2.above (Nat.le_trans (Nat.le_of_lt F2.ns.lt) hC)⟩
      obtain ⟨k0, k1⟩ := hk8 k hk
      have N3 := newsC N2 hC hext
      clear F2 N2 hext hns hC
      k_steps
      refine str_get (ys := turnedL) (News.isList N3 (by k_mem)) (by exact strsT _ _ _ _ _ _ _ _) k0 (by exact k1) (by decide) ?_
      intro ta
      k_steps
      exact ⟨s₃.heap, _, rfl, fun _ _ e => e⟩
    case hQ2 =>
      clear F2 N2
      intro D2 h' tk vs2 cn2 F9 N9 hne hs9
      k_steps
      rename Fr _ _ _ _ => F2
      rename News _ _ _ _ => N2
      refine join_rule (News.isList N2 (by k_mem)) hs9 (row_len turn_len hk7) ?_
      intro t' k
      rw [show Txt.join (Str.ofString "") (ks.map (signS turnedL)) = rowT from e4]
      k_steps
      · exact absurd (show (rowT != rowT) = true by assumption) (by simp)
      rename Fr _ _ _ _ => F2
      rename News _ _ _ _ => N2
      refine wpAny_with_toks (n := 1) ?tk1 ?_
      case tk1 => dsimp only; omega
      refine struck_call (X.keeps F2.keep) (T.keeps F2.keep) (by omega) (by decide +kernel) z1 (by decide +kernel) hl1 ?u0 ?u1 (by dsimp only [Around.deeper]; omega) (by dsimp only [Around.deeper]; omega) ?_
      case u0 => omega
      case u1 => dsimp only; omega
      intro t7 h7 tk7 x7 ht7
      change 1 ≤ tk7 at ht7
      rw [hp]
      replace F2 := frExt F2 x7
      replace N2 := newsExt N2 x7
      clear x7
      k_steps
      rename Fr _ _ _ _ => F2
      rename News _ _ _ _ => N2
      refine wpAny_with_toks (n := 1) ?tk2 ?_
      case tk2 => dsimp only; omega
      refine struck_call (X.keeps F2.keep) (T.keeps F2.keep) (by omega) (by decide +kernel) z2 (by decide +kernel) hl2 ?u2 ?u3 (by dsimp only [Around.deeper]; omega) (by dsimp only [Around.deeper]; omega) ?_
      case u2 => omega
      case u3 => dsimp only; omega
      intro t8 h8 tk8 x8 ht8
      change 1 ≤ tk8 at ht8
      rw [hq]
      replace F2 := frExt F2 x8
      replace N2 := newsExt N2 x8
      clear x8
      k_steps
      rename Fr _ _ _ _ => F2
      rename News _ _ _ _ => N2
      rw [m1]
      refine lev_call (X.keeps F2.keep) (T.keeps F2.keep) (by omega) hy1 (by dsimp only [Around.deeper]; omega) (by dsimp only [Around.deeper]; omega) ?_
      intro t9 h9 tk9 x9
      rw [v1]
      replace F2 := frExt F2 x9
      replace N2 := newsExt N2 x9
      clear x9
      k_steps
      rename Fr _ _ _ _ => F2
      rename News _ _ _ _ => N2
      rw [m2]
      refine wpAny_with_toks (n := 1) ?tk3 ?_
      case tk3 => dsimp only; omega
      refine lev_call (X.keeps F2.keep) (T.keeps F2.keep) hy2 (by omega) (by dsimp only [Around.deeper]; omega) (by dsimp only [Around.deeper]; omega) ?_
      intro t10 h10 tk10 x10 ht10
      change 1 ≤ tk10 at ht10
      rw [v2]
      replace F2 := frExt F2 x10
      replace N2 := newsExt N2 x10
      clear x10
      k_steps
      refine rep_rule ?ru1 ?rv1 ?ruv1 (by decide +kernel) (by omega) (by decide +kernel) ?_
      case ru1 => omega
      case rv1 => omega
      case ruv1 => omega
      intro t11 k11 hk11
      dsimp only at hk11
      k_steps
      refine rep_rule ?ru2 ?rv2 ?ruv2 (by decide +kernel) hle0 (by decide +kernel) ?_
      case ru2 => omega
      case rv2 => omega
      case ruv2 => omega
      intro t12 k12 hk12
      rw [m4]
      k_steps
      rename Fr _ _ _ _ => F2
      rename News _ _ _ _ => N2
      rw [m3]
      refine lev_call (X.keeps F2.keep) (T.keeps F2.keep) hle hy3 (by dsimp only [Around.deeper]; omega) (by dsimp only [Around.deeper]; omega) ?_
      intro t13 h13 tk13 x13
      rw [v3]
      replace F2 := frExt F2 x13
      replace N2 := newsExt N2 x13
      clear x13
      k_steps
      rotate_left
      · exact absurd (show [va, ri, sl] = [2 * (↑row.length + p), 2 * (↑row.length + q), 2 * ↑row.length + p] by rw [w1, w2, w3]) (by assumption)
      rename Fr _ _ _ _ => F2
      rename News _ _ _ _ => N2
      refine check_call (X.keeps F2.keep) (T.keeps F2.keep) hf1 hs1 (by dsimp only [Around.deeper]; omega) (by dsimp only [Around.deeper]; omega) ?_
      intro h14 tk14 gs14 x14
      rw [c1]
      replace F2 := frExt F2 x14
      replace N2 := newsExt N2 x14
      clear x14
      k_steps
      rotate_left
      · exact absurd (show (decide (va = 3 * (row.length : Int)) == (va == 3 * (row.length : Int))) = false by assumption) (by rw [dec_eq]; exact Bool.noConfusion)
      refine check_call (X.keeps F2.keep) (T.keeps F2.keep) hf2 hs2 (by dsimp only [Around.deeper]; omega) (by dsimp only [Around.deeper]; omega) ?_
      intro h15 tk15 gs15 x15
      rw [c2]
      replace F2 := frExt F2 x15
      replace N2 := newsExt N2 x15
      clear x15
      k_steps
      rw [dec_eq]
      exact hret _ _ _ F2.keep
end Mine
namespace Mine

theorem tl_append (x y : Str) : tl (x ++ y) = tl x ++ tl y := by
  show (x ++ y).cps.toList = _
  rw [Str.cps_append]; simp [tl]
theorem tl_join (l : List Str) : tl (Txt.join (Str.ofString "") l) = (l.map tl).flatten := by
  unfold Txt.join
  rw [StrLaws.glued_eq_join]
  induction l with
  | nil => rfl
  | cons x r ih =>
    cases r with
    | nil => simp [Str.join]
    | cons y r =>
      show tl (x ++ Str.ofString "" ++ Str.join (Str.ofString "") (y :: r)) = _
      rw [tl_append, tl_append, ih]
      have : tl (Str.ofString "") = [] := by decide +kernel
      rw [this, List.append_nil]
      rfl

/-- the signs of a piece of kind k, o and c the brackets -/
def pl (o c : Nat) : Nat → List Nat
  | 0 => [o] | 1 => [c] | 2 => [o] | 3 => [c] | 4 => [34, 40, 92, 34, 34] | 5 => [92, 41] | 6 => [92, 92, o] | 7 => [97, c] | _ => []
/-- its bare bracket -/
def br (o c : Nat) : Nat → List (List Nat)
  | 0 => [[o]] | 1 => [[c]] | 2 => [[o]] | 3 => [[c]] | 6 => [[o]] | 7 => [[c]] | _ => []
def bl : Nat → List Bool
  | 0 => [true] | 1 => [false] | 2 => [true] | 3 => [false] | 6 => [true] | 7 => [false] | _ => []
def BrOk (o c : Nat) : Prop := (o = 40 ∧ c = 41) ∨ (o = 41 ∧ c = 40)

def brks (us : List GU) : List (List Nat) := (us.filter isB).map (·.2)
theorem brks_cons (u : GU) (us : List GU) : brks (u :: us) = if u.2 = [40] ∨ u.2 = [41] then u.2 :: brks us else brks us := by
  unfold brks
  rw [List.filter_cons]
  unfold isB
  by_cases h1 : u.2 = [40]
  · simp [h1]
  · by_cases h2 : u.2 = [41]
    · simp [h2]
    · simp [h1, h2]

theorem units_piece {o c : Nat} (h : BrOk o c) {k : Nat} (hk : k < 8) (h4 : k ≠ 4) (p : Nat) (r : List Nat) :
    brks (unitsF p false (pl o c k ++ r)) = br o c k ++ brks (unitsF (p + (pl o c k).length) false r) := by
  rcases h with ⟨rfl, rfl⟩ | ⟨rfl, rfl⟩ <;>
  match k, hk, h4 with
  | 0, _, _ | 1, _, _ | 2, _, _ | 3, _, _ | 5, _, _ | 6, _, _ | 7, _, _ => simp [pl, br, unitsF, brks_cons]
def flat (o c : Nat) (ks : List Nat) : List Nat := ks.flatMap (pl o c)
def bare (ks : List Nat) : List Nat := ks.filter (· ≠ 4)
theorem units_flat {o c : Nat} (h : BrOk o c) : ∀ (ks : List Nat), (∀ k ∈ ks, k < 8) → (∀ k ∈ ks, k ≠ 4) → ∀ (p : Nat) (r : List Nat),
    brks (unitsF p false (flat o c ks ++ r)) = ks.flatMap (br o c) ++ brks (unitsF (p + (flat o c ks).length) false r)
  | [], _, _, p, r => rfl
  | k :: ks, h8, h4, p, r => by
    show brks (unitsF p false ((pl o c k ++ flat o c ks) ++ r)) = (br o c k ++ ks.flatMap (br o c)) ++ brks (unitsF (p + (pl o c k ++ flat o c ks).length) false r)
    rw [List.append_assoc, units_piece h (h8 k List.mem_cons_self) (h4 k List.mem_cons_self), units_flat h ks (fun z hz => h8 z (List.mem_cons_of_mem _ hz)) (fun z hz => h4 z (List.mem_cons_of_mem _ hz)), List.append_assoc, List.length_append, Nat.add_assoc]

/-- the loop of _strip_quoted_realnames over one piece -/
theorem strip_piece {o c : Nat} (h : BrOk o c) {k : Nat} (hk : k < 8) (h4 : k ≠ 4) (x : Str) (p st : Nat) (res : List Str) (r : List Nat) :
    stripLoop x (unitsF p false (pl o c k ++ r)) st none res = stripLoop x (unitsF (p + (pl o c k).length) false r) st none res := by
  rcases h with ⟨rfl, rfl⟩ | ⟨rfl, rfl⟩ <;>
  match k, hk, h4 with
  | 0, _, _ | 1, _, _ | 2, _, _ | 3, _, _ | 5, _, _ | 6, _, _ | 7, _, _ => simp [pl, unitsF, stripLoop]
theorem strip_piece4 {o c : Nat} (x : Str) (p st : Nat) (res : List Str) (r : List Nat) :
    stripLoop x (unitsF p false (pl o c 4 ++ r)) st none res = stripLoop x (unitsF (p + 5) false r) (p + 5) none (if (st : Int) = p then res else res ++ [Txt.slice x (some (st : Int)) (some (p : Int))]) := by
  simp [pl, unitsF, stripLoop]

def flatS (res : List Str) : List Nat := (res.map tl).flatten
theorem flatS_snoc (res : List Str) (y : Str) : flatS (res ++ [y]) = flatS res ++ tl y := by simp [flatS]
theorem slice_mid {x : Str} {a b : Nat} (h1 : a ≤ b) (h2 : b ≤ x.length) : tl (Txt.slice x (some (a : Int)) (some (b : Int))) = ((tl x).drop a).take (b - a) := by
  have := beq_iff_eq.mp (slice_closesL (x := x) (i := a) (j := b) (by omega) (by omega) (by omega))
  rw [this]
  show (List.take ((b : Int) - a).toNat (List.drop (a : Int).toNat x.cps.toList)) = _
  congr 1
  omega

theorem strip_flat {o c : Nat} (h : BrOk o c) (x : Str) : ∀ (ks : List Nat), (∀ k ∈ ks, k < 8) → ∀ (p st : Nat) (res : List Str) (suf : List Nat), (tl x).drop p = flat o c ks ++ suf → p ≤ x.length → st ≤ p →
    ∃ st' res', stripLoop x (unitsF p false (flat o c ks ++ suf)) st none res = stripLoop x (unitsF (p + (flat o c ks).length) false suf) st' none res' ∧ st' ≤ p + (flat o c ks).length ∧
      flatS res' ++ ((tl x).drop st').take (p + (flat o c ks).length - st') = flatS res ++ ((tl x).drop st).take (p - st) ++ flat o c (bare ks)
  | [], _, p, st, res, suf, _, _, hst => ⟨st, res, rfl, hst, by simp [flat, bare]⟩
  | k :: ks, h8, p, st, res, suf, hx, hp, hst => by
    have e0 : flat o c (k :: ks) = pl o c k ++ flat o c ks := rfl
    have hl : (tl x).length = x.length := len_tl x
    have hx2 : (tl x).drop (p + (pl o c k).length) = flat o c ks ++ suf := by
      rw [← List.drop_drop, hx, e0, List.append_assoc, List.drop_left]
    have hp2 : p + (pl o c k).length ≤ x.length := by
      have h1 := congrArg List.length hx
      rw [e0, List.length_drop, List.length_append, List.length_append] at h1
      omega
    have hpre : ((tl x).drop p).take (pl o c k).length = pl o c k := by
      rw [hx, e0, List.append_assoc, List.take_left]
    by_cases h4 : k = 4
    · subst h4
      have h5 : (pl o c 4).length = 5 := rfl
      rw [h5] at hx2 hp2
      obtain ⟨st', res', e1, e2, e3⟩ := strip_flat h x ks (fun z hz => h8 z (List.mem_cons_of_mem _ hz)) (p + 5) (p + 5) (if (st : Int) = p then res else res ++ [Txt.slice x (some (st : Int)) (some (p : Int))]) suf hx2 hp2 (Nat.le_refl _)
      refine ⟨st', res', ?_, ?_, ?_⟩
      · rw [e0, List.append_assoc, strip_piece4, e1, List.length_append, h5, Nat.add_assoc]
      · rw [e0, List.length_append, h5]; omega
      · rw [e0, List.length_append, h5, ← Nat.add_assoc, e3, Nat.sub_self, List.take_zero, List.append_nil]
        have : bare (4 :: ks) = bare ks := rfl
        rw [this]
        congr 1
        by_cases hc : (st : Int) = p
        · rw [if_pos hc]
          have : p - st = 0 := by omega
          rw [this, List.take_zero, List.append_nil]
        · rw [if_neg hc, flatS_snoc, slice_mid hst hp]
    · obtain ⟨st', res', e1, e2, e3⟩ := strip_flat h x ks (fun z hz => h8 z (List.mem_cons_of_mem _ hz)) (p + (pl o c k).length) st res suf hx2 hp2 (by omega)
      refine ⟨st', res', ?_, ?_, ?_⟩
      · rw [e0, List.append_assoc, strip_piece h (h8 k List.mem_cons_self) h4, e1, List.length_append, Nat.add_assoc]
      · rw [e0, List.length_append]; omega
      · rw [e0, List.length_append, ← Nat.add_assoc, e3]
        have hb : bare (k :: ks) = k :: bare ks := by unfold bare; rw [List.filter_cons_of_pos (by simpa using h4)]
        rw [hb]
        show _ = flatS res ++ _ ++ (pl o c k ++ flat o c (bare ks))
        have hs : p + (pl o c k).length - st = (p - st) + (pl o c k).length := by omega
        have hs2 : st + (p - st) = p := by omega
        rw [hs, List.take_add, List.drop_drop, hs2, hpre]
        simp only [List.append_assoc]

def okMark (mk : List Nat) : Prop := mk = [] ∨ mk = [34]
/-- behind the pieces: a mark or none, then two brackets -/
theorem strip_suf {mk : List Nat} (hm : okMark mk) {a b : Nat} (ha : a = 40 ∨ a = 41) (hb : b = 40 ∨ b = 41) (x : Str) (p st : Nat) (res : List Str) :
    stripLoop x (unitsF p false (mk ++ [a, b])) st none res = (st, res) := by
  rcases hm with rfl | rfl <;> rcases ha with rfl | rfl <;> rcases hb with rfl | rfl <;> simp [unitsF, stripLoop]
theorem brks_suf {mk : List Nat} (hm : okMark mk) {a b : Nat} (ha : a = 40 ∨ a = 41) (hb : b = 40 ∨ b = 41) (p : Nat) :
    brks (unitsF p false (mk ++ [a, b])) = [[a], [b]] := by
  rcases hm with rfl | rfl <;> rcases ha with rfl | rfl <;> rcases hb with rfl | rfl <;> rfl

theorem no_quote {x : Str} : (Builtin.Str.occurrences x (Str.ofString "\"") 0 x.length 1).isEmpty = !decide (34 ∈ tl x) := by
  have h := StrLaws.found_one x 34
  rw [show (⟨#[34]⟩ : Str) = Str.ofString "\"" from by decide +kernel] at h
  cases q : (Builtin.Str.occurrences x (Str.ofString "\"") 0 x.length 1).isEmpty <;> rw [q] at h <;> simp only [Bool.not_true, Bool.not_false] at h <;> rw [← h] <;> rfl

theorem strip_text {o c : Nat} (h : BrOk o c) {x : Str} {ks : List Nat} (h8 : ∀ k ∈ ks, k < 8) {mk : List Nat} (hm : okMark mk) {a b : Nat} (ha : a = 40 ∨ a = 41) (hb : b = 40 ∨ b = 41)
    (hx : tl x = flat o c ks ++ (mk ++ [a, b])) : tl (stripS x) = flat o c (bare ks) ++ (mk ++ [a, b]) := by
  have hl : (tl x).length = x.length := len_tl x
  unfold stripS
  rw [no_quote]
  by_cases hq : 34 ∈ tl x
  · rw [decide_eq_true hq]
    simp only [Bool.not_true, Bool.false_eq_true, if_false]
    obtain ⟨st, res, e1, e2, e3⟩ := strip_flat h x ks h8 0 0 [] (mk ++ [a, b]) hx (Nat.zero_le _) (Nat.le_refl _)
    rw [Nat.zero_add] at e1 e2 e3
    have hlen : x.length = (flat o c ks).length + (mk ++ [a, b]).length := by rw [← hl, hx, List.length_append]
    have hlt : st < x.length := by
      rw [List.length_append] at hlen
      simp only [List.length_cons, List.length_nil] at hlen
      omega
    rw [hx, e1, strip_suf hm ha hb, if_pos hlt, tl_join]
    show flatS (res ++ [_]) = _
    rw [flatS_snoc, slice_from (by omega) (by omega), Int.toNat_natCast]
    show flatS res ++ (tl x).drop st = _
    have e4 : flatS res ++ ((tl x).drop st).take ((flat o c ks).length - st) = flat o c (bare ks) := by simpa [flatS] using e3
    rw [← e4, List.append_assoc]
    congr 1
    have e5 : (tl x).drop st = ((tl x).drop st).take ((flat o c ks).length - st) ++ ((tl x).drop st).drop ((flat o c ks).length - st) := (List.take_append_drop _ _).symm
    refine Eq.trans e5 ?_
    congr 1
    rw [List.drop_drop]
    have : st + ((flat o c ks).length - st) = (flat o c ks).length := by omega
    rw [this, hx, List.drop_left]
  · rw [decide_eq_false hq]
    simp only [Bool.not_false, if_true]
    rw [hx]
    congr 1
    have : bare ks = ks := by
      unfold bare
      rw [List.filter_eq_self]
      intro k hk
      simp only [ne_eq, decide_not, Bool.not_eq_true', decide_eq_false_iff_not]
      rintro rfl
      apply hq
      rw [hx]
      refine List.mem_append_left _ (List.mem_flatMap.mpr ⟨4, hk, ?_⟩)
      simp [pl]
    rw [this]

theorem br_bare (o c : Nat) : ∀ ks : List Nat, (bare ks).flatMap (br o c) = ks.flatMap (br o c)
  | [] => rfl
  | k :: ks => by
    by_cases h : k = 4
    · subst h
      exact br_bare o c ks
    · have hb : bare (k :: ks) = k :: bare ks := by unfold bare; rw [List.filter_cons_of_pos (by simpa using h)]
      rw [hb, List.flatMap_cons, List.flatMap_cons, br_bare o c ks]
theorem brks_text {o c : Nat} (h : BrOk o c) {x : Str} {ks : List Nat} (h8 : ∀ k ∈ ks, k < 8) {mk : List Nat} (hm : okMark mk) {a b : Nat} (ha : a = 40 ∨ a = 41) (hb : b = 40 ∨ b = 41)
    (hx : tl x = flat o c ks ++ (mk ++ [a, b])) : brks (unitsF 0 false (tl (stripS x))) = ks.flatMap (br o c) ++ [[a], [b]] := by
  rw [strip_text h h8 hm ha hb hx, units_flat h (bare ks) (fun k hk => h8 k (List.mem_filter.mp hk).1) (fun k hk => by simpa using (List.mem_filter.mp hk).2), brks_suf hm ha hb]
  rw [br_bare]
end Mine
namespace Mine
/-- the same reckoning over natural numbers, for signs of four kinds -/
def Al (c : Nat) : Prop := c = 40 ∨ c = 41 ∨ c = 65 ∨ c = 97
def alB (c : Nat) : Bool := c == 40 || c == 41 || c == 65 || c == 97
theorem al_of {l : List Nat} (h : l.all alB = true) : ∀ c ∈ l, Al c := by
  intro c hc
  have := List.all_eq_true.mp h c hc
  unfold alB at this
  simp only [Bool.or_eq_true, beq_iff_eq] at this
  rcases this with ((h | h) | h) | h
  · exact .inl h
  · exact .inr (.inl h)
  · exact .inr (.inr (.inl h))
  · exact .inr (.inr (.inr h))
def costN (b a : Nat) : Nat := if b = a then 0 else if b + a = 162 then 1 else 2
theorem cost_al {b a : Nat} (hb : Al b) (ha : Al a) : cost b a = (costN b a : Int) := by
  rcases hb with rfl | rfl | rfl | rfl <;> rcases ha with rfl | rfl | rfl | rfl <;> decide +kernel
def resN (sub res r : Nat) : Nat := if sub < (if r < res then r else res) + 2 then sub else (if r < res then r else res) + 2
theorem resN_eq (sub res r : Nat) : resOf (sub : Int) (res : Int) (r : Int) = (resN sub res r : Int) := by
  unfold resOf resN
  by_cases h1 : r < res
  · rw [if_pos h1, if_pos (show (r : Int) < res by omega)]
    by_cases h2 : sub < r + 2
    · rw [if_pos h2, if_pos (by omega)]
    · rw [if_neg h2, if_neg (by omega)]; rfl
  · rw [if_neg h1, if_neg (show ¬ (r : Int) < res by omega)]
    by_cases h2 : sub < res + 2
    · rw [if_pos h2, if_pos (by omega)]
    · rw [if_neg h2, if_neg (by omega)]; rfl
def cellsN (bc : Nat) : List Nat → List Nat → Nat → Nat → Nat → List Nat × Nat × Nat
  | [], _, _, res, mn => ([], res, mn)
  | ac :: as, row, dist, res, mn =>
    let r := row.headD 0
    let res' := resN (dist + costN bc ac) res r
    let out := cellsN bc as row.tail r res' (if res' < mn then res' else mn)
    (res' :: out.1, out.2)
abbrev up (l : List Nat) : List Int := l.map fun (n : Nat) => (n : Int)
theorem cells_nat {bc : Nat} (hb : Al bc) : ∀ (as : List Nat), (∀ a ∈ as, Al a) → ∀ (row : List Nat) (dist res mn : Nat),
    cells bc as (up row) dist res mn = (up (cellsN bc as row dist res mn).1, ((cellsN bc as row dist res mn).2.1 : Int), ((cellsN bc as row dist res mn).2.2 : Int))
  | [], _, _, _, _, _ => rfl
  | ac :: as, ha, row, dist, res, mn => by
    have hr : (up row).headD 0 = ((row.headD 0 : Nat) : Int) := by cases row <;> rfl
    have ht : (up row).tail = up row.tail := by cases row <;> rfl
    have hs : resOf ((dist : Int) + cost bc ac) res ((row.headD 0 : Nat) : Int) = (resN (dist + costN bc ac) res (row.headD 0) : Int) := by
      rw [cost_al hb (ha ac List.mem_cons_self), ← resN_eq]; rfl
    have hm : (if ((resN (dist + costN bc ac) res (row.headD 0) : Nat) : Int) < mn then ((resN (dist + costN bc ac) res (row.headD 0) : Nat) : Int) else mn) = ((if resN (dist + costN bc ac) res (row.headD 0) < mn then resN (dist + costN bc ac) res (row.headD 0) else mn : Nat) : Int) := by
      split <;> split <;> first | rfl | omega
    simp only [cells, cellsN, hr, ht, hs, hm]
    rw [cells_nat hb as fun a h => ha a (List.mem_cons_of_mem _ h)]
    rfl
def rowsFN (a : List Nat) (mc : Nat) : List Nat → Nat → List Nat → Nat → Nat
  | [], _, _, res => res
  | bc :: bs, i, row, _ =>
    let out := cellsN bc a row (i * 2) (i * 2) 9223372036854775807
    if mc < out.2.2 then mc + 1 else rowsFN a mc bs (i + 1) out.1 out.2.1
theorem rows_nat {a : List Nat} (ha : ∀ x ∈ a, Al x) {mc : Nat} : ∀ (bs : List Nat), (∀ x ∈ bs, Al x) → ∀ (i : Nat) (row : List Nat) (res : Nat),
    rowsF a (mc : Int) bs i (up row) (res : Int) = (rowsFN a mc bs i row res : Int)
  | [], _, _, _, _ => rfl
  | bc :: bs, hb, i, row, res => by
    have h2 : ((i : Int) * 2) = ((i * 2 : Nat) : Int) := by omega
    have hc := cells_nat (hb bc List.mem_cons_self) a ha row (i * 2) (i * 2) 9223372036854775807
    have h9 : ((9223372036854775807 : Nat) : Int) = 9223372036854775807 := rfl
    rw [h9] at hc
    simp only [rowsF, rowsFN, h2, hc]
    by_cases hm : mc < (cellsN bc a row (i * 2) (i * 2) 9223372036854775807).2.2
    · rw [if_pos hm, if_pos (by omega)]; rfl
    · rw [if_neg hm, if_neg (by omega), rows_nat ha bs fun x h => hb x (List.mem_cons_of_mem _ h)]
def row0N (a : List Nat) : List Nat := (List.range a.length).map fun i => 2 + i * 2
theorem row0_up (a : List Nat) : row0 a = up (row0N a) := by
  unfold row0 row0N up
  rw [List.map_map]
  apply List.map_congr_left
  intro i _
  show (2 : Int) + (i : Int) * 2 = ((2 + i * 2 : Nat) : Int)
  omega
def levDPN (a b : List Nat) (mc : Nat) : Nat := if mc < (b.length - a.length) * 2 then mc + 1 else rowsFN a mc b 0 (row0N a) 0
theorem levDP_nat {a b : List Nat} (ha : ∀ x ∈ a, Al x) (hb : ∀ x ∈ b, Al x) (hl : a.length ≤ b.length) (mc : Nat) : levDP a b (mc : Int) = (levDPN a b mc : Int) := by
  unfold levDP levDPN
  by_cases h : mc < (b.length - a.length) * 2
  · rw [if_pos h, if_pos (by omega)]; rfl
  · rw [if_neg h, if_neg (by omega), row0_up]
    exact rows_nat ha b hb 0 (row0N a) 0
def levMainN (x y : List Nat) (mc : Nat) : Nat :=
  if x.length = 0 ∨ y.length = 0 then 2 * (x.length + y.length) else if y.length < x.length then levDPN y x mc else levDPN x y mc
theorem levMain_nat {x y : List Nat} (hx : ∀ c ∈ x, Al c) (hy : ∀ c ∈ y, Al c) (mc : Nat) : levMain x y (mc : Int) = (levMainN x y mc : Int) := by
  unfold levMain levMainN
  by_cases h : x.length = 0 ∨ y.length = 0
  · rw [if_pos h, if_pos h]; omega
  · rw [if_neg h, if_neg h]
    by_cases h2 : y.length < x.length
    · rw [if_pos h2, if_pos h2, levDP_nat hy hx (by omega)]
    · rw [if_neg h2, if_neg h2, levDP_nat hx hy (by omega)]
def levCutN (x y : List Nat) (mc : Nat) : Nat :=
  let d := cpl x.reverse y.reverse
  levMainN (x.take (x.length - d)) (y.take (y.length - d)) mc
def levN (x y : List Nat) (mc : Nat) : Nat := if x = y then 0 else levCutN (x.drop (cpl x y)) (y.drop (cpl x y)) mc
theorem lev_nat {x y : List Nat} (hx : ∀ c ∈ x, Al c) (hy : ∀ c ∈ y, Al c) {mc : Int} (h0 : 0 ≤ mc) : lev x y mc = (levN x y mc.toNat : Int) := by
  obtain ⟨n, rfl⟩ := Int.eq_ofNat_of_zero_le h0
  show lev x y (n : Int) = (levN x y n : Int)
  unfold lev levN
  by_cases h : x = y
  · rw [if_pos h, if_pos h]; rfl
  · rw [if_neg h, if_neg h]
    unfold levCut levCutN
    exact levMain_nat (fun c hc => hx c (List.mem_of_mem_drop (List.mem_of_mem_take hc))) (fun c hc => hy c (List.mem_of_mem_drop (List.mem_of_mem_take hc))) n
end Mine
namespace Mine
def rw6 (b : List Bool) : List Nat := b.map fun x => if x then 40 else 41
def chkB : List Bool → Int → Bool
  | [], o => o == 0
  | true :: r, o => chkB r (o + 1)
  | false :: r, o => if o - 1 < 0 then false else chkB r (o - 1)
def facts (bs : List Bool) : Bool :=
  let row := ms (rw6 bs)
  match strikes 20 row (Str.ofString "()"), strikes 20 row (Str.ofString ")(") with
  | some l1, some l2 =>
    let k : Nat := row.length
    let n : Int := k
    let p := (n - l1.length).fdiv 2
    let q := (n - l2.length).fdiv 2
    let y1 := Txt.mul (Str.ofString ")") row.length ++ Txt.mul (Str.ofString "(") row.length
    let y2 := Txt.mul (Str.ofString "(") row.length ++ Txt.mul (Str.ofString ")") row.length
    let y3 := Txt.mul (Str.ofString "A") row.length ++ Txt.mul (Str.ofString "a") row.length
    let le0 := Txt.replace row (Str.ofString "(") (Str.ofString "a")
    let le := Txt.replace le0 (Str.ofString ")") (Str.ofString "A")
    let va := levN (tl row) (tl y1) (3 * n).toNat
    let ri := levN (tl y2) (tl row) (3 * n).toNat
    let sl := levN (tl le) (tl y3) (2 * n + p).toNat
    (tl row).all alB && (tl y1).all alB && (tl y2).all alB && (tl y3).all alB && (tl le).all alB &&
    decide (l1.length ≤ 1000) && decide (l2.length ≤ 1000) && decide (y1.length ≤ 40) && decide (y2.length ≤ 40) && decide (y3.length ≤ 40) && decide (le0.length ≤ 1000) && decide (le.length ≤ 40) &&
    decide ((va : Int) = 2 * (n + p)) && decide ((ri : Int) = 2 * (n + q)) && decide ((sl : Int) = 2 * n + p) && decide (0 ≤ p ∧ p ≤ 7) && decide (0 ≤ q ∧ q ≤ 7) &&
    decide (chkB bs 0 = decide ((va : Int) = 3 * n)) && decide (chkB (bs.map (!·)) 0 = decide ((ri : Int) = 3 * n))
  | _, _ => false
def rowsN : Nat → List (List Bool)
  | 0 => [[]]
  | n + 1 => (rowsN n).flatMap fun r => [true :: r, false :: r]
theorem mem_rowsN : ∀ bs : List Bool, bs ∈ rowsN bs.length
  | [] => List.mem_singleton.mpr rfl
  | b :: bs => by
    refine List.mem_flatMap.mpr ⟨bs, mem_rowsN bs, ?_⟩
    cases b <;> simp
def chk (n : Nat) (suf : List Bool) : Bool := (rowsN n).all fun bs => facts (bs ++ suf)
theorem chk_of {n : Nat} {suf : List Bool} (h : chk n suf = true) {bs : List Bool} (hl : bs.length = n) : facts (bs ++ suf) = true := by
  subst hl
  exact List.all_eq_true.mp h bs (mem_rowsN bs)
theorem r0xtf : chk 0 [true, false] = true := by decide +kernel
theorem r0xft : chk 0 [false, true] = true := by decide +kernel
theorem r1xtf : chk 1 [true, false] = true := by decide +kernel
theorem r1xft : chk 1 [false, true] = true := by decide +kernel
theorem r2xtf : chk 2 [true, false] = true := by decide +kernel
theorem r2xft : chk 2 [false, true] = true := by decide +kernel
theorem r3xtf : chk 3 [true, false] = true := by decide +kernel
theorem r3xft : chk 3 [false, true] = true := by decide +kernel
theorem r3txtf : chk 3 [true, true, false] = true := by decide +kernel
theorem r3txft : chk 3 [true, false, true] = true := by decide +kernel
theorem r3fxtf : chk 3 [false, true, false] = true := by decide +kernel
theorem r3fxft : chk 3 [false, false, true] = true := by decide +kernel
theorem r3ttxtf : chk 3 [true, true, true, false] = true := by decide +kernel
theorem r3ttxft : chk 3 [true, true, false, true] = true := by decide +kernel
theorem r3tfxtf : chk 3 [true, false, true, false] = true := by decide +kernel
theorem r3tfxft : chk 3 [true, false, false, true] = true := by decide +kernel
theorem r3ftxtf : chk 3 [false, true, true, false] = true := by decide +kernel
theorem r3ftxft : chk 3 [false, true, false, true] = true := by decide +kernel
theorem r3ffxtf : chk 3 [false, false, true, false] = true := by decide +kernel
theorem r3ffxft : chk 3 [false, false, false, true] = true := by decide +kernel
theorem facts_all : ∀ {bs : List Bool}, bs.length ≤ 5 → facts (bs ++ [true, false]) = true ∧ facts (bs ++ [false, true]) = true
  | [], _ => ⟨chk_of (bs := []) r0xtf rfl, chk_of (bs := []) r0xft rfl⟩
  | [a], _ => ⟨chk_of (bs := [a]) r1xtf rfl, chk_of (bs := [a]) r1xft rfl⟩
  | [a, b], _ => ⟨chk_of (bs := [a, b]) r2xtf rfl, chk_of (bs := [a, b]) r2xft rfl⟩
  | [a, b, c], _ => ⟨chk_of (bs := [a, b, c]) r3xtf rfl, chk_of (bs := [a, b, c]) r3xft rfl⟩
  | [a, b, c, true], _ => ⟨chk_of (bs := [a, b, c]) r3txtf rfl, chk_of (bs := [a, b, c]) r3txft rfl⟩
  | [a, b, c, false], _ => ⟨chk_of (bs := [a, b, c]) r3fxtf rfl, chk_of (bs := [a, b, c]) r3fxft rfl⟩
  | [a, b, c, true, true], _ => ⟨chk_of (bs := [a, b, c]) r3ttxtf rfl, chk_of (bs := [a, b, c]) r3ttxft rfl⟩
  | [a, b, c, true, false], _ => ⟨chk_of (bs := [a, b, c]) r3tfxtf rfl, chk_of (bs := [a, b, c]) r3tfxft rfl⟩
  | [a, b, c, false, true], _ => ⟨chk_of (bs := [a, b, c]) r3ftxtf rfl, chk_of (bs := [a, b, c]) r3ftxft rfl⟩
  | [a, b, c, false, false], _ => ⟨chk_of (bs := [a, b, c]) r3ffxtf rfl, chk_of (bs := [a, b, c]) r3ffxft rfl⟩
  | _ :: _ :: _ :: _ :: _ :: _ :: _, h => absurd h (by simp only [List.length_cons]; omega)
end Mine
namespace Mine
theorem kind_cases {k : Int} (h : 0 ≤ k ∧ k < 8) : k = 0 ∨ k = 1 ∨ k = 2 ∨ k = 3 ∨ k = 4 ∨ k = 5 ∨ k = 6 ∨ k = 7 := by omega
theorem piece_signs {k : Int} (h : 0 ≤ k ∧ k < 8) : tl (pieceS signsL k) = pl 40 41 k.toNat := by
  rcases kind_cases h with rfl | rfl | rfl | rfl | rfl | rfl | rfl | rfl <;> decide +kernel
theorem piece_turned {k : Int} (h : 0 ≤ k ∧ k < 8) : tl (pieceS turnedL k) = pl 41 40 k.toNat := by
  rcases kind_cases h with rfl | rfl | rfl | rfl | rfl | rfl | rfl | rfl <;> decide +kernel
theorem sign_signs {k : Int} (h : 0 ≤ k ∧ k < 8) : tl (signS signsL k) = (br 40 41 k.toNat).flatten := by
  rcases kind_cases h with rfl | rfl | rfl | rfl | rfl | rfl | rfl | rfl <;> decide +kernel
theorem sign_turned {k : Int} (h : 0 ≤ k ∧ k < 8) : tl (signS turnedL k) = (br 41 40 k.toNat).flatten := by
  rcases kind_cases h with rfl | rfl | rfl | rfl | rfl | rfl | rfl | rfl <;> decide +kernel
theorem br_bl (o c : Nat) : ∀ k : Nat, k < 8 → br o c k = (bl k).map fun b => if b then [o] else [c]
  | 0, _ => rfl | 1, _ => rfl | 2, _ => rfl | 3, _ => rfl | 4, _ => rfl | 5, _ => rfl | 6, _ => rfl | 7, _ => rfl
  | k + 8, h => absurd h (by omega)
theorem pl_len (o c : Nat) (k : Nat) : (pl o c k).length ≤ 5 := by
  unfold pl
  split <;> simp
theorem flat_len (o c : Nat) : ∀ ks : List Nat, (flat o c ks).length ≤ 5 * ks.length
  | [] => Nat.le_refl _
  | k :: ks => by
    have h1 := pl_len o c k
    have h2 := flat_len o c ks
    show (pl o c k ++ flat o c ks).length ≤ 5 * (ks.length + 1)
    rw [List.length_append]
    omega
def natK (ks : List Int) : List Nat := ks.map Int.toNat
def rowB (ks : List Int) : List Bool := (natK ks).flatMap bl
theorem natK_lt {ks : List Int} (h : ∀ k ∈ ks, 0 ≤ k ∧ k < 8) : ∀ k ∈ natK ks, k < 8 := by
  intro k hk
  obtain ⟨z, hz, rfl⟩ := List.mem_map.mp hk
  have := h z hz
  omega
theorem natK_append (a b : List Int) : natK (a ++ b) = natK a ++ natK b := List.map_append
theorem flatMap_br (o c : Nat) : ∀ {ks : List Nat}, (∀ k ∈ ks, k < 8) → ks.flatMap (br o c) = (ks.flatMap bl).map fun b => if b then [o] else [c]
  | [], _ => rfl
  | k :: ks, h => by
    rw [List.flatMap_cons, List.flatMap_cons, List.map_append, br_bl o c k (h k List.mem_cons_self), flatMap_br o c fun z hz => h z (List.mem_cons_of_mem _ hz)]

theorem text_tl {sg : List Str} {o c : Nat} (hp : ∀ {k : Int}, 0 ≤ k ∧ k < 8 → tl (pieceS sg k) = pl o c k.toNat) {k5 : List Int} (h8 : ∀ k ∈ k5, 0 ≤ k ∧ k < 8) {t1 t2 : Int} (h1 : 0 ≤ t1 ∧ t1 < 8) (h2 : 0 ≤ t2 ∧ t2 < 8) (mark : Str) :
    tl (textS (k5 ++ [t1, t2]) sg mark) = flat o c (natK k5) ++ (tl mark ++ (pl o c t1.toNat ++ pl o c t2.toNat)) := by
  unfold textS
  have e : (k5 ++ [t1, t2]).map (pieceS sg) = k5.map (pieceS sg) ++ [pieceS sg t1, pieceS sg t2] := by simp
  have el : ((k5 ++ [t1, t2]).map (pieceS sg)).length - 2 = (k5.map (pieceS sg)).length := by simp
  simp only [el]
  rw [e, List.take_left, List.drop_left, tl_join]
  simp only [List.map_append, List.map_cons, List.map_nil, List.flatten_append, List.flatten_cons, List.flatten_nil, List.append_nil, hp h1, hp h2, List.append_assoc]
  congr 1
  unfold flat natK
  rw [List.flatMap_map, List.flatMap_def, List.map_map]
  congr 1
  exact List.map_congr_left fun k hk => hp (h8 k hk)
theorem row_tl {sg : List Str} {o c : Nat} (hp : ∀ {k : Int}, 0 ≤ k ∧ k < 8 → tl (signS sg k) = (br o c k.toNat).flatten) {ks : List Int} (h8 : ∀ k ∈ ks, 0 ≤ k ∧ k < 8) :
    tl (rowS sg ks) = ((natK ks).flatMap (br o c)).flatten := by
  unfold rowS
  rw [tl_join, List.map_map]
  induction ks with
  | nil => rfl
  | cons k ks ih =>
    show (tl (signS sg k) ++ _) = ((br o c k.toNat ++ (natK ks).flatMap (br o c))).flatten
    rw [List.flatten_append, hp (h8 k List.mem_cons_self), ih fun z hz => h8 z (List.mem_cons_of_mem _ hz)]
theorem flat_ones (o c : Nat) : ∀ bs : List Bool, (bs.map fun b => if b then [o] else [c]).flatten = bs.map fun b => if b then o else c
  | [] => rfl
  | b :: bs => by
    rw [List.map_cons, List.map_cons, List.flatten_cons, flat_ones o c bs]
    cases b <;> rfl

def cl2 : List (List Nat) → Int → Bool
  | [], o => o == 0
  | u :: us, o => if u = [40] then cl2 us (o + 1) else if u = [41] then (if o - 1 < 0 then false else cl2 us (o - 1)) else cl2 us o
theorem check_brks : ∀ (us : List GU) (o : Int), checkLoop us o = cl2 (brks us) o
  | [], _ => rfl
  | u :: us, o => by
    rw [brks_cons]
    by_cases h1 : u.2 = [40]
    · rw [if_pos (show u.2 = [40] ∨ u.2 = [41] from .inl h1), checkLoop, if_pos h1, cl2, if_pos h1, check_brks us]
    · by_cases h2 : u.2 = [41]
      · rw [if_pos (show u.2 = [40] ∨ u.2 = [41] from .inr h2), checkLoop, if_neg h1, if_pos h2, cl2, if_neg h1, if_pos h2, check_brks us]
      · rw [if_neg (show ¬ (u.2 = [40] ∨ u.2 = [41]) from fun h => h.elim h1 h2), checkLoop, if_neg h1, if_neg h2, check_brks us]
theorem cl2_true : ∀ (bs : List Bool) (o : Int), cl2 (bs.map fun b => if b then [40] else [41]) o = chkB bs o
  | [], _ => rfl
  | true :: bs, o => by
    show cl2 ([40] :: _) o = chkB bs (o + 1)
    rw [cl2, if_pos rfl, cl2_true bs]
  | false :: bs, o => by
    show cl2 ([41] :: _) o = if o - 1 < 0 then false else chkB bs (o - 1)
    rw [cl2, if_neg (by decide), if_pos rfl, cl2_true bs]
theorem cl2_false : ∀ (bs : List Bool) (o : Int), cl2 (bs.map fun b => if b then [41] else [40]) o = chkB (bs.map (!·)) o
  | [], _ => rfl
  | false :: bs, o => by
    show cl2 ([40] :: _) o = chkB (bs.map (!·)) (o + 1)
    rw [cl2, if_pos rfl, cl2_false bs]
  | true :: bs, o => by
    show cl2 ([41] :: _) o = if o - 1 < 0 then false else chkB (bs.map (!·)) (o - 1)
    rw [cl2, if_neg (by decide), if_pos rfl, cl2_false bs]

theorem read_brks (x : Str) : tl (readS x) = (brks (unitsF 0 false (tl (stripS x)))).flatten := by
  unfold readS brks
  rw [tl_join]
  congr 1
  rw [List.map_map]
  exact List.map_congr_left fun u _ => rfl

/-- what the law needs of one text -/
theorem text_facts {sg : List Str} {o c : Nat} (hb : BrOk o c) (hp : ∀ {k : Int}, 0 ≤ k ∧ k < 8 → tl (pieceS sg k) = pl o c k.toNat) (hs : ∀ {k : Int}, 0 ≤ k ∧ k < 8 → tl (signS sg k) = (br o c k.toNat).flatten)
    {k5 : List Int} (h5 : k5.length ≤ 5) (h8 : ∀ k ∈ k5, 0 ≤ k ∧ k < 8) {t1 t2 : Int} (ht : (t1 = 0 ∧ t2 = 1) ∨ (t1 = 1 ∧ t2 = 0)) {mark : Str} (hm : okMark (tl mark)) :
    (textS (k5 ++ [t1, t2]) sg mark).length ≤ 1000 ∧ (stripS (textS (k5 ++ [t1, t2]) sg mark)).length ≤ 1000 ∧
    brks (unitsF 0 false (tl (stripS (textS (k5 ++ [t1, t2]) sg mark)))) = (rowB (k5 ++ [t1, t2])).map (fun b => if b then [o] else [c]) ∧
    readS (textS (k5 ++ [t1, t2]) sg mark) = rowS sg (k5 ++ [t1, t2]) ∧ tl (rowS sg (k5 ++ [t1, t2])) = (rowB (k5 ++ [t1, t2])).map fun b => if b then o else c := by
  have hk : ∀ k ∈ k5 ++ [t1, t2], 0 ≤ k ∧ k < 8 := by
    intro k hk
    rcases List.mem_append.mp hk with hk | hk
    · exact h8 k hk
    · rcases ht with ⟨rfl, rfl⟩ | ⟨rfl, rfl⟩ <;> simp at hk <;> omega
  have hml : (tl mark).length ≤ 1 := by rcases hm with h | h <;> rw [h] <;> simp
  obtain ⟨a, b, ha, hb2, hab, hbr⟩ : ∃ a b, (a = 40 ∨ a = 41) ∧ (b = 40 ∨ b = 41) ∧ pl o c t1.toNat ++ pl o c t2.toNat = [a, b] ∧ [[a], [b]] = (natK [t1, t2]).flatMap (br o c) := by
    rcases ht with ⟨rfl, rfl⟩ | ⟨rfl, rfl⟩
    · exact ⟨o, c, by rcases hb with h | h <;> omega, by rcases hb with h | h <;> omega, rfl, rfl⟩
    · exact ⟨c, o, by rcases hb with h | h <;> omega, by rcases hb with h | h <;> omega, rfl, rfl⟩
  have hx := text_tl hp h8 (hk t1 (by simp)) (hk t2 (by simp)) mark
  rw [hab] at hx
  have hst := strip_text hb (natK_lt h8) hm ha hb2 hx
  have hbk := brks_text hb (natK_lt h8) hm ha hb2 hx
  rw [hbr, ← List.flatMap_append, ← natK_append, flatMap_br o c (natK_lt hk)] at hbk
  have hn : (natK k5).length = k5.length := List.length_map _
  have hbn : (bare (natK k5)).length ≤ (natK k5).length := List.length_filter_le _ _
  have l1 := flat_len o c (natK k5)
  have l2 := flat_len o c (bare (natK k5))
  have hrow : tl (rowS sg (k5 ++ [t1, t2])) = (rowB (k5 ++ [t1, t2])).map fun b => if b then o else c := by
    rw [row_tl hs hk, flatMap_br o c (natK_lt hk), flat_ones]; rfl
  refine ⟨?_, ?_, hbk, ?_, hrow⟩
  · rw [← len_tl, hx, List.length_append, List.length_append]
    simp only [List.length_cons, List.length_nil]
    omega
  · rw [← len_tl, hst, List.length_append, List.length_append]
    simp only [List.length_cons, List.length_nil]
    omega
  · refine str_ext ?_
    rw [hrow, read_brks, hbk, flat_ones]
    rfl
end Mine
namespace Mine
theorem facts_of {bs : List Bool} (h : facts bs = true) : ∃ l1 l2 : Str, ∃ p q va ri sl : Int, ∃ y1 y2 y3 le : Str,
    strikes 20 (ms (rw6 bs)) (Str.ofString "()") = some l1 ∧ strikes 20 (ms (rw6 bs)) (Str.ofString ")(") = some l2 ∧ l1.length ≤ 1000 ∧ l2.length ≤ 1000 ∧
    (((ms (rw6 bs)).length : Int) - l1.length).fdiv 2 = p ∧ (((ms (rw6 bs)).length : Int) - l2.length).fdiv 2 = q ∧
    Txt.mul (Str.ofString ")") (ms (rw6 bs)).length ++ Txt.mul (Str.ofString "(") (ms (rw6 bs)).length = y1 ∧ Txt.mul (Str.ofString "(") (ms (rw6 bs)).length ++ Txt.mul (Str.ofString ")") (ms (rw6 bs)).length = y2 ∧
    Txt.mul (Str.ofString "A") (ms (rw6 bs)).length ++ Txt.mul (Str.ofString "a") (ms (rw6 bs)).length = y3 ∧ Txt.replace (Txt.replace (ms (rw6 bs)) (Str.ofString "(") (Str.ofString "a")) (Str.ofString ")") (Str.ofString "A") = le ∧
    y1.length ≤ 40 ∧ y2.length ≤ 40 ∧ y3.length ≤ 40 ∧ (Txt.replace (ms (rw6 bs)) (Str.ofString "(") (Str.ofString "a")).length ≤ 1000 ∧ le.length ≤ 40 ∧
    lev (tl (ms (rw6 bs))) (tl y1) (3 * (ms (rw6 bs)).length) = va ∧ lev (tl y2) (tl (ms (rw6 bs))) (3 * (ms (rw6 bs)).length) = ri ∧ lev (tl le) (tl y3) (2 * (ms (rw6 bs)).length + p) = sl ∧
    va = 2 * ((ms (rw6 bs)).length + p) ∧ ri = 2 * ((ms (rw6 bs)).length + q) ∧ sl = 2 * (ms (rw6 bs)).length + p ∧ (0 ≤ p ∧ p ≤ 7) ∧ (0 ≤ q ∧ q ≤ 7) ∧
    chkB bs 0 = decide (va = 3 * (ms (rw6 bs)).length) ∧ chkB (bs.map (!·)) 0 = decide (ri = 3 * (ms (rw6 bs)).length) := by
  unfold facts at h
  dsimp only at h
  generalize strikes 20 (ms (rw6 bs)) (Str.ofString "()") = s1 at h ⊢
  generalize strikes 20 (ms (rw6 bs)) (Str.ofString ")(") = s2 at h ⊢
  cases s1 with
  | none => cases h
  | some l1 =>
    cases s2 with
    | none => cases h
    | some l2 =>
      simp only [Bool.and_eq_true, decide_eq_true_eq] at h
      obtain ⟨⟨⟨⟨⟨⟨⟨⟨⟨⟨⟨⟨⟨⟨⟨⟨⟨⟨b1, b2⟩, b3⟩, b4⟩, b5⟩, a1⟩, a2⟩, a3⟩, a4⟩, a5⟩, a6⟩, a7⟩, a8⟩, a9⟩, a10⟩, a11⟩, a12⟩, a13⟩, a14⟩ := h
      have e1 := lev_nat (al_of b1) (al_of b2) (mc := 3 * ((ms (rw6 bs)).length : Int)) (by omega)
      have e2 := lev_nat (al_of b3) (al_of b1) (mc := 3 * ((ms (rw6 bs)).length : Int)) (by omega)
      have e3 := lev_nat (al_of b5) (al_of b4) (mc := 2 * ((ms (rw6 bs)).length : Int) + (((ms (rw6 bs)).length : Int) - l1.length).fdiv 2) (by omega)
      exact ⟨l1, l2, _, _, _, _, _, _, _, _, _, rfl, rfl, a1, a2, rfl, rfl, rfl, rfl, rfl, rfl, a3, a4, a5, a6, a7, e1, e2, e3, a8, a9, a10, a11, a12, a13, a14⟩

theorem bl_len (k : Nat) : (bl k).length ≤ 1 := by
  unfold bl
  split <;> simp
theorem rowB_len : ∀ ks : List Int, (rowB ks).length ≤ ks.length
  | [] => Nat.le_refl _
  | k :: ks => by
    have h1 := bl_len k.toNat
    have h2 := rowB_len ks
    show (bl k.toNat ++ rowB ks).length ≤ ks.length + 1
    rw [List.length_append]
    omega
theorem rowB_append (a b : List Int) : rowB (a ++ b) = rowB a ++ rowB b := by
  unfold rowB
  rw [natK_append, List.flatMap_append]

theorem agree_good {w : World} {dp un : Nat} {fr : Option (List Env)} {gd : Option (List Code)} {s : Shared} {Q E : Value → Shared → Prop} {mean mg mb} {lk : Addr} {vk : List Value} {k5 : List Int} {t1 t2 : Int} {mark : Str} {t : Tok}
    (X : (hd.heap_39 w.params).In s.heap) (T : Top hd.view_39 (looseW hd.view_39 []) mean mg mb s.heap) (hlk : s.heap.IsList lk vk.toArray) (hvk : IntsAre vk (k5 ++ [t1, t2]))
    (h5 : k5.length ≤ 5) (h8 : ∀ k ∈ k5, 0 ≤ k ∧ k < 8) (ht : (t1 = 0 ∧ t2 = 1) ∨ (t1 = 1 ∧ t2 = 0)) (hm : okMark (tl mark)) (hroom : dp + 20 < recursionLimit) (hu : un + 100 < cLine)
    (hret : ∀ (h' : Heap) (tk' : Nat) gs', Ext s.heap h' → Q (.bool true) { s with heap := h', toks := tk', gens := gs' }) :
    wpAny (model PySem.Challenge.rw_pg0120_01.row.prog w) (Ar dp un fr gd) (call (.ref 71) [.ref lk, .str mark t]) Q E s := by
  have hk : ∀ k ∈ k5 ++ [t1, t2], 0 ≤ k ∧ k < 8 := by
    intro k hk
    rcases List.mem_append.mp hk with hk | hk
    · exact h8 k hk
    · rcases ht with ⟨rfl, rfl⟩ | ⟨rfl, rfl⟩ <;> simp at hk <;> omega
  have hlen : (k5 ++ [t1, t2]).length = k5.length + 2 := by simp
  have hml : mark.length ≤ 10 := by
    rw [← len_tl]
    rcases hm with h | h <;> rw [h] <;> simp
  obtain ⟨a1, a2, a3, a4, a5⟩ := text_facts (sg := signsL) (.inl ⟨rfl, rfl⟩) piece_signs sign_signs h5 h8 ht hm
  obtain ⟨b1, b2, b3, b4, b5⟩ := text_facts (sg := turnedL) (.inr ⟨rfl, rfl⟩) piece_turned sign_turned h5 h8 ht hm
  have hrow : rowS signsL (k5 ++ [t1, t2]) = ms (rw6 (rowB (k5 ++ [t1, t2]))) := str_ext a5
  have hbl := rowB_len (k5 ++ [t1, t2])
  have hfac : facts (rowB (k5 ++ [t1, t2])) = true := by
    have := facts_all (bs := rowB k5) (by have := rowB_len k5; omega)
    rw [rowB_append]
    rcases ht with ⟨rfl, rfl⟩ | ⟨rfl, rfl⟩
    · exact this.1
    · exact this.2
  obtain ⟨l1, l2, p, q, va, ri, sl, y1, y2, y3, le, z1, z2, hl1, hl2, hp, hq, m1, m2, m3, m4, hy1, hy2, hy3, hle0, hle, v1, v2, v3, w1, w2, w3, hp7, hq7, c1, c2⟩ := facts_of hfac
  rw [hrow] at a4
  have hrl : (ms (rw6 (rowB (k5 ++ [t1, t2])))).length ≤ 7 := by
    rw [← len_tl]
    show (rw6 _).length ≤ 7
    unfold rw6
    rw [List.length_map]
    omega
  have hrl2 : (rowS turnedL (k5 ++ [t1, t2])).length ≤ 7 := by
    rw [← len_tl, b5, List.length_map]
    omega
  refine agree_call X T hlk hvk hk (by omega) (by omega) hml rfl rfl hrow rfl a4 b4 a1 b1 a2 b2 hrl hrl2 z1 z2 hl1 hl2 hp hq m1 m2 m3 m4 hy1 hy2 hy3 hle0 hle v1 v2 v3 w1 w2 w3 hp7 hq7 ?_ ?_ hroom hu hret
  · unfold checkS
    rw [check_brks, a3, cl2_true, c1]
  · unfold checkS
    rw [check_brks, b3, cl2_false, c2]
end Mine
namespace Mine
theorem bare_set {s : Shared} {g : Nat} {st : GenState} (h : AllBare s.gens) (hb : st.bare = true) : AllBare (s.setGen g st).gens := by
  intro y hy
  have hy' : y ∈ s.gens.setIfInBounds g st := hy
  rcases Array.mem_or_eq_of_mem_setIfInBounds hy' with h1 | h1
  · exact h y h1
  · rw [h1]; exact hb

theorem runs_bare {M : Model} {Γ : Ctx} {p : Pos} {t : Sem Fin} {fs : List Frame} {s s' : Shared} {e : End} (h : Runs M Γ p t fs s e s') : AllBare s.gens → AllBare s'.gens := by
  induction h
  case newGen ih => exact fun hb => ih (hb.push rfl)
  case call ih1 ih2 => exact fun hb => ih2 (ih1 hb)
  case resumeFresh hq _ ih1 ih2 => exact fun hb => ih2 (bare_set (ih1 (bare_set hb rfl)) (End.bare_of_quiet hq))
  case resumeSuspended hq _ ih1 ih2 => exact fun hb => ih2 (bare_set (ih1 (bare_set hb rfl)) (End.bare_of_quiet hq))
  case resumeThrowFresh ih => exact fun hb => ih (bare_set hb rfl)
  case segRet ih1 ih2 => exact fun hb => ih2 (ih1 hb)
  case segGen ih1 ih2 => exact fun hb => ih2 (bare_set (ih1 hb) rfl)
  case segSuspGen hq _ ih1 ih2 => exact fun hb => ih2 (bare_set (ih1 hb) (End.bare_of_quiet hq))
  case done => exact fun hb => hb
  case raise => exact fun hb => hb
  case yield => exact fun hb => hb
  all_goals (rename_i ih; exact fun hb => ih hb)

theorem wakes_bare {M : Model} {Γ : Ctx} {p : Pos} {g : Nat} {r : Resume} {s s' : Shared} {res : GenResult} (h : Wakes M Γ p g r s res s') (hb : AllBare s.gens) : AllBare s'.gens := by
  unfold Wakes at h
  split at h
  · exact h.elim
  · split at h
    · obtain ⟨e₁, s₁, hr, hq, _, rfl⟩ := h
      exact bare_set (runs_bare hr (bare_set hb rfl)) (End.bare_of_quiet hq)
    · rw [h.2]; exact hb
    · rw [h.2]; exact bare_set hb rfl
  · obtain ⟨e₁, s₁, hr, hq, _, rfl⟩ := h
    exact bare_set (runs_bare hr (bare_set hb rfl)) (End.bare_of_quiet hq)
  · rw [h.2]; exact hb
  · rw [h.2]; exact hb

theorem wp_bare {α : Type} (M : Model) (Γ : Ctx) (t : Sem α) : ∀ (Q : α → Pos → Shared → Prop) (E : Value → Pos → Shared → Prop) (p : Pos) (s : Shared), AllBare s.gens → Sem.wp M Γ t Q E p s →
    Sem.wp M Γ t (fun a p' s' => AllBare s'.gens ∧ Q a p' s') (fun e p' s' => AllBare s'.gens ∧ E e p' s') p s := by
  induction t with
  | pure a => exact fun Q E p s hb h => ⟨hb, h⟩
  | raise e => exact fun Q E p s hb h => ⟨hb, h⟩
  | unsupported _ => exact fun Q E p s _ h => h
  | finish _ => exact fun Q E p s _ h => h
  | register _ _ => exact fun Q E p s _ h => h
  | yield _ _ _ _ => exact fun Q E p s _ h => h
  | fork _ _ => exact fun Q E p s _ h => h
  | await _ _ _ _ _ => exact fun Q E p s _ h => h
  | rule _ k ih => exact fun Q E p s hb h => ih () Q E p s hb h
  | «at» p' k ih => exact fun Q E p s hb h => ih () Q E p' s hb h
  | load a _ k ih => exact fun Q E p s hb ⟨o, ho, h⟩ => ⟨o, ho, ih o Q E p s hb h⟩
  | update a _ f k ih => exact fun Q E p s hb h => ⟨h.1, ih () Q E p _ hb h.2⟩
  | loadIfAlive a k ih => exact fun Q E p s hb h => ih _ Q E p s hb h
  | point _ k ih => exact fun Q E p s hb h => ih () Q E p s hb h
  | alloc o k ih => exact fun Q E p s hb h => ih _ Q E p _ hb h
  | fresh k ih => exact fun Q E p s hb h => ih _ Q E p _ hb h
  | ask k ih => exact fun Q E p s hb h => ih _ Q E p s hb h
  | choose src m k ih => exact fun Q E p s hb h => ⟨h.1, ih _ Q E p _ hb h.2⟩
  | os q _ k ih => exact fun Q E p s hb h => ih _ Q E p _ hb h
  | call c hd _ _ k ih => exact fun Q E p s hb ⟨r, s', hr, h⟩ => ⟨r, s', hr, ih r Q E p s' (runs_bare hr hb) h⟩
  | handled own k ih => exact fun Q E p s hb h => ih _ Q E p s hb h
  | genState g k ih => exact fun Q E p s hb ⟨st, hs, h⟩ => ⟨st, hs, ih _ Q E p s hb h⟩
  | newGen c k ih => exact fun Q E p s hb h => ih _ Q E p _ (hb.push rfl) h
  | resume g r _ k ih => exact fun Q E p s hb ⟨res, s', hw, h⟩ => ⟨res, s', hw, ih res Q E p s' (wakes_bare hw hb) h⟩
  | stack k ih => exact fun Q E p s hb h => ih _ Q E p s hb h
  | thread k ih => exact fun Q E p s hb h => ih _ Q E p s hb h

theorem with_bare {α : Type} {M : Model} {A : Around} {s : Shared} {t : Sem α} {Q : α → Shared → Prop} {E : Value → Shared → Prop} (hb : AllBare s.gens)
    (h : wpAny M A t (fun a s' => AllBare s'.gens → Q a s') (fun e s' => AllBare s'.gens → E e s') s) : wpAny M A t Q E s := by
  have h2 : wpAny M A t (fun a s' => AllBare s'.gens ∧ (AllBare s'.gens → Q a s')) (fun e s' => AllBare s'.gens ∧ (AllBare s'.gens → E e s')) s := fun Γ p hΓ => wp_bare M Γ t _ _ p s hb (h Γ p hΓ)
  exact wpAny_mono h2 (fun _ _ x => x.2 x.1) (fun _ _ x => x.2 x.1)
end Mine
namespace Mine
theorem kinds_lt (ns : List Int) : ∀ k ∈ ns.map (fun k' => k'.fmod 8), 0 ≤ k ∧ k < 8 := by
  intro k hk
  obtain ⟨z, _, rfl⟩ := List.mem_map.mp hk
  have h := fdiv_fmod_facts z 8
  exact ⟨Int.fmod_nonneg_of_pos _ (by decide), Int.fmod_lt_of_pos _ (by decide)⟩
theorem tail_two (n : Nat) : ((n : Int).fmod 2 = 0 ∧ 1 - (n : Int).fmod 2 = 1) ∨ ((n : Int).fmod 2 = 1 ∧ 1 - (n : Int).fmod 2 = 0) := by
  have h1 := Int.fmod_nonneg_of_pos (n : Int) (show (0 : Int) < 2 by decide)
  have h2 := Int.fmod_lt_of_pos (n : Int) (show (0 : Int) < 2 by decide)
  omega
theorem mark_ok (z : Int) : okMark (tl (Txt.mul (Str.ofString "\"") (z.fmod 2))) := by
  have h1 := Int.fmod_nonneg_of_pos z (show (0 : Int) < 2 by decide)
  have h2 := Int.fmod_lt_of_pos z (show (0 : Int) < 2 by decide)
  have h : z.fmod 2 = 0 ∨ z.fmod 2 = 1 := by omega
  rcases h with h | h <;> rw [h]
  · exact .inl (by decide +kernel)
  · exact .inr (by decide +kernel)
theorem kinds_len (ns : List Int) : ((ns.take 5).map fun k' => k'.fmod 8).length ≤ 5 := by
  rw [List.length_map, List.length_take]; omega

local macro_rules | `(tactic| walk_at "call ref") => `(tactic| (k_here; (with_reducible show wpAny _ _ (call (Value.ref 71) _) _ _ _); refine Halt.of ?_))
theorem law_holds : PySem.Challenge.rw_pg0120_01.Holds := hd (by
  k_fill
  intro w s₀ s₁ mg mb G Y fa o pm cd doc dV kV ho hd' hcd hD hmg hg args vals as hpre hlay hrd hwl hlo
  have KX := kIn_of Y
  refine Ground.open G ?_
  intro T B D TE TW
  obtain ⟨_, _, M⟩ := bmod_of_top T
  have TA := at_of_top T
  obtain ⟨_, _, he, B0⟩ := based_of_top T rfl hmg ho hd'
  have he' : cd = _ := he
  subst he'
  clear he hmg
  wrow_args hpre hlay hrd hwl hlo
  refine enter_call ?_
  w_top on
  have K0 := below_caller (Top.heap T)
  w_call any ho hd' hcd hD T F
  clear hd' TA
  k_drop
  (try k_fold)
  k_steps
  (rename Fr _ _ _ _ => F1)
  (rename News _ _ _ _ => N1)
  (rename Frag.In _ _ => X1)
  (rename Top _ _ _ _ _ _ => T1)
  refine with_bare (AllBare.of_eq hg) ?_
  refine agree_good (X1.keeps F1.keep) (T1.keeps F1.keep) (News.isList N1 (by k_mem)) (by assumption) (kinds_len _) (kinds_lt _) (tail_two _) (mark_ok _) ?room ?units ?_
  case room => decide
  case units => decide
  intro h' tk' gs' x hbare
  have F2 := frExt F1 x
  exact ⟨.inl ⟨_, .bool true, [], rfl, fun _ => rfl, .bool true, postW_of rfl (w_eq_bool (w_res rfl) w_lit) rfl, unshared_nil⟩, .of_keep F2.keep, rfl, hbare⟩)
end Mine

theorem PySem.Challenge.cw_pg0120_01_holds : PySem.Challenge.rw_pg0120_01.Holds :=
  Mine.law_holds
