import PyProof.Rows.All
import Wide.All
import OpenK.AllK
import Wide.FinOn
import Lean
import PySem.Challenge.RW_ff0010_01
set_option Elab.async false
set_option linter.unusedVariables false
set_option rowWalk.seconds 0

section
open PySem PySem.W PyProof.Rows
namespace Mine
set_option maxRecDepth 100000
set_option maxHeartbeats 8000000
open_top hd for PySem.Challenge.rw_ff0010_01
end Mine
end

theorem Mine.offMB : True := by w_top off; trivial

section
open PySem PySem.W PyProof.Rows
namespace Mine
set_option maxRecDepth 100000
theorem fill : (PySem.Challenge.rw_ff0010_01, hd.heap_39) = (PySem.Challenge.rw_ff0010_01, hd.heap_39) := by k_fill; rfl

/-- a call of the def at `f` upon the values `vs` hands back `R`; nothing that stood is changed -/
abbrev Gives (w : World) (n : Nat) (f : Addr) (vs : List Value) (R : Tok → Value) : Prop :=
  ∀ (mean : ExcName → Option Value) (mg mb : Str → Option Value) (news : List (Addr × Obj)) (dp un : Nat) (gd : Option (List Code)) (cn : Str) (cs : Scope) (a : Addr) (ccd : Value) (cl : List (Str × Addr)) (outer : List Env) (A₀ : Around) (base h₀ : Heap) (L : Addr) (m : Str → Option Value) (s : Shared) (Q E : Value → Shared → Prop),
    Below A₀ base outer h₀ → Fr h₀ L s.heap m → (hd.heap_39 w.params).In h₀ → News h₀ L s.heap news → Top hd.view_39 (looseW hd.view_39 []) mean mg mb h₀ → cs.kind = .function →
    dp + n < recursionLimit → un + 20 * n < cLine →
    (∀ (t : Tok) (h' : Heap) (tk' : Nat), Fr h₀ L h' m → News h₀ L h' news → Q (R t) { s with heap := h', toks := tk' }) →
    wpAny (model PySem.Challenge.rw_ff0010_01.row.prog w) (ktrTop dp un gd cn cs L a ccd cl outer) (call (.ref f) vs) Q E s

theorem Gives.use {w : World} {n : Nat} {f : Addr} {vs : List Value} {R : Tok → Value} (H : Gives w n f vs R) {mean : ExcName → Option Value} {mg mb : Str → Option Value} {news : List (Addr × Obj)} {dp un : Nat} {gd : Option (List Code)} {cn : Str} {cs : Scope} {a : Addr} {ccd : Value} {cl : List (Str × Addr)} {outer : List Env} {A₀ : Around} {base h₀ : Heap} {L : Addr} {m : Str → Option Value} {s : Shared} {Q E : Value → Shared → Prop}
    (B : Below A₀ base outer h₀) (F : Fr h₀ L s.heap m) (X : (hd.heap_39 w.params).In h₀) (N : News h₀ L s.heap news) (T : Top hd.view_39 (looseW hd.view_39 []) mean mg mb h₀) (hk : cs.kind = .function)
    (hdp : dp + n < recursionLimit) (hun : un + 20 * n < cLine)
    (hret : ∀ (t : Tok) (h' : Heap) (tk' : Nat), Fr h₀ L h' m → News h₀ L h' news → Q (R t) { s with heap := h', toks := tk' }) :
    wpAny (model PySem.Challenge.rw_ff0010_01.row.prog w) (ktrTop dp un gd cn cs L a ccd cl outer) (call (.ref f) vs) Q E s :=
  H _ _ _ _ _ _ _ _ _ _ _ _ _ _ _ _ _ _ _ _ _ B F X N T hk hdp hun hret
/-- a call that raises a built-in exception -/
abbrev Raises (w : World) (n : Nat) (f : Addr) (vs : List Value) (X : String) (P : List Value → Prop) : Prop :=
  ∀ (mean : ExcName → Option Value) (mg mb : Str → Option Value) (news : List (Addr × Obj)) (dp un : Nat) (gd : Option (List Code)) (cn : Str) (cs : Scope) (a : Addr) (ccd : Value) (cl : List (Str × Addr)) (outer : List Env) (A₀ : Around) (base h₀ : Heap) (L : Addr) (m : Str → Option Value) (s : Shared) (Q E : Value → Shared → Prop),
    Below A₀ base outer h₀ → Fr h₀ L s.heap m → (hd.heap_39 w.params).In h₀ → News h₀ L s.heap news → Top hd.view_39 (looseW hd.view_39 []) mean mg mb h₀ → cs.kind = .function →
    dp + n < recursionLimit → un + 20 * n < cLine →
    (∀ (e t : Addr) (as : List Value) (G h' : Heap) (tk' : Nat), P as → Fr h₀ L G m → RaisedK base (envX cn cs L a ccd cl :: outer) e (.type X) t as news h' → G.UpToSlots h' → E (.ref e) { s with heap := h', toks := tk' }) →
    wpAny (model PySem.Challenge.rw_ff0010_01.row.prog w) (ktrTop dp un gd cn cs L a ccd cl outer) (call (.ref f) vs) Q E s
theorem Raises.use {w : World} {n : Nat} {f : Addr} {vs : List Value} {X : String} {P : List Value → Prop} (H : Raises w n f vs X P) {mean : ExcName → Option Value} {mg mb : Str → Option Value} {news : List (Addr × Obj)} {dp un : Nat} {gd : Option (List Code)} {cn : Str} {cs : Scope} {a : Addr} {ccd : Value} {cl : List (Str × Addr)} {outer : List Env} {A₀ : Around} {base h₀ : Heap} {L : Addr} {m : Str → Option Value} {s : Shared} {Q E : Value → Shared → Prop}
    (B : Below A₀ base outer h₀) (F : Fr h₀ L s.heap m) (K : (hd.heap_39 w.params).In h₀) (N : News h₀ L s.heap news) (T : Top hd.view_39 (looseW hd.view_39 []) mean mg mb h₀) (hk : cs.kind = .function)
    (hdp : dp + n < recursionLimit) (hun : un + 20 * n < cLine)
    (hret : ∀ (e t : Addr) (as : List Value) (G h' : Heap) (tk' : Nat), P as → Fr h₀ L G m → RaisedK base (envX cn cs L a ccd cl :: outer) e (.type X) t as news h' → G.UpToSlots h' → E (.ref e) { s with heap := h', toks := tk' }) :
    wpAny (model PySem.Challenge.rw_ff0010_01.row.prog w) (ktrTop dp un gd cn cs L a ccd cl outer) (call (.ref f) vs) Q E s :=
  H _ _ _ _ _ _ _ _ _ _ _ _ _ _ _ _ _ _ _ _ _ B F K N T hk hdp hun hret
theorem raisedK_mono {base : Heap} {l : List Env} {e t : Addr} {cls : Value} {vs : List Value} {news news' : List (Addr × Obj)} {h : Heap} (R : RaisedK base l e cls t vs news h) (hs : ∀ p ∈ news', p ∈ news) : RaisedK base l e cls t vs news' h := by
  obtain ⟨⟨B, h1, h2, h3⟩, h4⟩ := R
  exact ⟨⟨B, h1, fun q hq => h2 q (hs q hq), h3⟩, h4⟩
section
variable {h₀ h' : Heap} {L : Addr} {m : Str → Option Value} {news : List (Addr × Obj)} {s : Shared} {Q : Value → Shared → Prop} {t : Tok} {tk' : Nat}
theorem gv_retB {x y : Array UInt8} (hret : ∀ (t : Tok) (h' : Heap) (tk' : Nat), Fr h₀ L h' m → News h₀ L h' news → Q (.bytes x t) { s with heap := h', toks := tk' }) (e : y = x) (F : Fr h₀ L h' m) (N : News h₀ L h' news) : Q (.bytes y t) { s with heap := h', toks := tk' } := by
  subst e
  exact hret t h' tk' F N
end

def sixOf (k : Int) : Int :=
  if 65 ≤ k ∧ k ≤ 90 then k - 65 else if 97 ≤ k ∧ k ≤ 122 then k - 71 else if 48 ≤ k ∧ k ≤ 57 then k + 4
  else if k = 43 ∨ k = 45 then 62 else if k = 47 ∨ k = 95 then 63 else -1

set_option maxHeartbeats 8000000
theorem six_of_gives (w : World) (k : Int) (t0 : Tok) : Gives w 1 49 [.int k t0] (fun t => .int (sixOf k) t) := by
  intro mean mg mb news dp un gd cn cs a ccd cl outer A₀ base h₀ L m s Q E B F X N T hk hdp hun hret
  refine wpAny_call ?_
  k_dflt cell_enter
  k_steps
  all_goals (refine' cb_retI hret ?e1 ?e2 ?e3; (case e2 => k_asm); (case e3 => first | k_asm | (refine' cb_drop ?cbN ?cbS; (case cbN => assumption); (case cbS => kcj_all))); (case e1 => (try simp only [List.any_cons, List.any_nil, Bool.or_false, Bool.or_eq_true, Bool.or_eq_false_iff, beq_iff_eq, beq_eq_false_iff_ne, ne_eq] at *); (simp only [sixOf]; (repeat' split) <;> omega)))
end Mine
end

theorem Mine.offMP : True := by w_top off; trivial

section
open PySem PySem.W PyProof.Rows
namespace Mine

theorem fd262144 (n : Int) : n.fdiv 262144 = n / 262144 := Int.fdiv_eq_ediv_of_nonneg _ (by decide)
theorem fd4096 (n : Int) : n.fdiv 4096 = n / 4096 := Int.fdiv_eq_ediv_of_nonneg _ (by decide)
theorem fd64 (n : Int) : n.fdiv 64 = n / 64 := Int.fdiv_eq_ediv_of_nonneg _ (by decide)
theorem fd16 (n : Int) : n.fdiv 16 = n / 16 := Int.fdiv_eq_ediv_of_nonneg _ (by decide)
theorem fd4 (n : Int) : n.fdiv 4 = n / 4 := Int.fdiv_eq_ediv_of_nonneg _ (by decide)
theorem fd3 (n : Int) : n.fdiv 3 = n / 3 := Int.fdiv_eq_ediv_of_nonneg _ (by decide)
theorem fd1 (n : Int) : n.fdiv 1 = n := by rw [Int.fdiv_eq_ediv_of_nonneg _ (by decide)]; omega
theorem fm64 (n : Int) : n.fmod 64 = n % 64 := Int.fmod_eq_emod_of_nonneg _ (by decide)
theorem fm16 (n : Int) : n.fmod 16 = n % 16 := Int.fmod_eq_emod_of_nonneg _ (by decide)
theorem fm4 (n : Int) : n.fmod 4 = n % 4 := Int.fmod_eq_emod_of_nonneg _ (by decide)

/-- the alphabet's codes -/
def alpha : List Nat := [65, 66, 67, 68, 69, 70, 71, 72, 73, 74, 75, 76, 77, 78, 79, 80, 81, 82, 83, 84, 85, 86, 87, 88, 89, 90, 97, 98, 99, 100, 101, 102, 103, 104, 105, 106, 107, 108, 109, 110, 111, 112, 113, 114, 115, 116, 117, 118, 119, 120, 121, 122, 48, 49, 50, 51, 52, 53, 54, 55, 56, 57, 45, 95]
def codeOf (d : Int) : Nat := alpha.getD d.toNat 0

/-- the octets' sixes -/
def sx : List Int → List Int
  | [] => []
  | [x] => [x / 4, x % 4 * 16]
  | [x, y] => [x / 4, x % 4 * 16 + y / 16, y % 16 * 4]
  | x :: y :: z :: r => x / 4 :: (x % 4 * 16 + y / 16) :: (y % 16 * 4 + z / 64) :: z % 64 :: sx r

theorem sx_app : ∀ (n : Nat) (a b : List Int), a.length = 3 * n → sx (a ++ b) = sx a ++ sx b
  | 0, a, b, h => by
    have : a = [] := List.eq_nil_of_length_eq_zero (by omega)
    subst this; rfl
  | n + 1, a, b, h => by
    match a, h with
    | x :: y :: z :: r, h =>
      have ih := sx_app n r b (by simp only [List.length_cons] at h; omega)
      simp only [List.cons_append, sx, ih]
    | [], h => simp at h
    | [_], h => simp at h; omega
    | [_, _], h => simp at h; omega

theorem sx_in : ∀ (ks : List Int), (∀ n ∈ ks, 0 ≤ n ∧ n < 256) → ∀ d ∈ sx ks, 0 ≤ d ∧ d < 64
  | [], _, d, h => by simp [sx] at h
  | [x], hk, d, h => by
    have hx := hk x (by simp)
    simp only [sx, List.mem_cons, List.not_mem_nil, or_false] at h
    rcases h with rfl | rfl <;> omega
  | [x, y], hk, d, h => by
    have hx := hk x (by simp)
    have hy := hk y (by simp)
    simp only [sx, List.mem_cons, List.not_mem_nil, or_false] at h
    rcases h with rfl | rfl | rfl <;> omega
  | x :: y :: z :: r, hk, d, h => by
    have hx := hk x (by simp)
    have hy := hk y (by simp)
    have hz := hk z (by simp)
    simp only [sx, List.mem_cons] at h
    rcases h with rfl | rfl | rfl | rfl | h
    · omega
    · omega
    · omega
    · omega
    · exact sx_in r (fun n hn => hk n (by simp [hn])) d h

theorem sx_length : ∀ (ks : List Int), (sx ks).length = (4 * ks.length + 2) / 3
  | [] => by simp [sx]
  | [x] => by simp [sx]
  | [x, y] => by simp [sx]
  | x :: y :: z :: r => by
    have := sx_length r
    simp only [sx, List.length_cons] at *
    omega

theorem codeOf_lt (d : Int) : codeOf d < 128 := by
  unfold codeOf
  have h : ∀ i : Nat, i < 64 → alpha.getD i 0 < 128 := by decide +kernel
  by_cases hd : d.toNat < 64
  · exact h _ hd
  · rw [List.getD_eq_getElem?_getD, List.getElem?_eq_none (by show 64 ≤ d.toNat; omega)]; decide
theorem codes_in {ds : List Int} : ∀ n ∈ ds.map (fun d => (codeOf d : Int)), 0 ≤ n ∧ n < 256 := by
  intro n hn
  obtain ⟨d, _, rfl⟩ := List.mem_map.mp hn
  have := codeOf_lt d
  omega

def textOf (ks : List Int) : Str := ⟨((sx ks).map codeOf).toArray⟩
end Mine
end

theorem Mine.offMC : True := by w_top off; trivial

section
open PySem PySem.W PyProof.Rows
namespace Mine
set_option maxRecDepth 100000
open PySem.Calls

section
variable {prog : Program} {w : World} {A : Around} {E : Value → Shared → Prop} {s : Shared} {env : Env} {h₀ : Heap} {x : Str} {body : List Stmt} {Q : Flow → Shared → Prop}
/-- a for over a range by any step, by what holds ahead of turn i -/
theorem step_range {σ : Type} {r : Addr} {a₀ b₀ c : Int} {t₀ u₀ v₀ : Tok} {n : Nat} {m₀ : Str → Option Value} (Led : σ → List (Addr × Obj)) (ps : σ → List (Str × Value)) (Facts : σ → Prop) (stored : List Str) (P : Nat → σ → Prop) (c₀ : σ)
    (hh : A.handled = none) (hr : IsRange s.heap r a₀ b₀ c t₀ u₀ v₀) (hsmall : Builtin.Range.small a₀ b₀ c = true) (hn : Builtin.Range.rangeSize a₀ b₀ c = (n : Int))
    (F : Fr h₀ env.locals s.heap m₀) (N : News h₀ env.locals s.heap (Led c₀)) (hf : Facts c₀) (hk : ∀ p ∈ ps c₀, m₀ p.1 = some p.2) (hp : P 0 c₀)
    (turn : ∀ (st : σ) (i : Nat) (k : Int) t (u : Str → Option Value) h tk own, k = a₀ + (i : Int) * c → i < n → OwnOff own ((Led c₀).map (·.1)) → Facts st → P i st →
      Fr h₀ env.locals h (fun y => if y = x then some (.int k t) else kstB (fun z => if stored.contains z then u z else m₀ z) (ps st) y) → News h₀ env.locals h (Led st ++ own) →
      wpAny (model prog w) A (execs body env) (InvPostN h₀ env.locals (KstS Led ps Facts x stored m₀ (fun _ => P (i + 1)) []) own ((Led c₀).map (·.1)) { s with heap := h, toks := tk } Q) E { s with heap := h, toks := tk })
    (done : ∀ (st : σ) (u : Str → Option Value) h tk, Facts st → P n st → Fr h₀ env.locals h (fun y => if y = x then u y else kstB (fun z => if stored.contains z then u z else m₀ z) (ps st) y) → News h₀ env.locals h (Led st) → Q .next { s with heap := h, toks := tk }) :
    wpAny (model prog w) A (pyIter (.ref r)) (fun it s₂ => LoopAtV prog w A h₀ env x body Q E it s₂) E s := by
  refine wpAny_pyIter_range hr hsmall ?_
  have W := (Walks.range (prog := prog) (w := w) hh s.heap.objs.size a₀ c n).bound
  have it0 : IsRangeIter (s.heap.push { cls := .type "range_iterator", data := .fields #[rawInt a₀, rawInt (Builtin.Range.rangeSize a₀ b₀ c), rawInt c] }) s.heap.objs.size (a₀ + ((0 : Nat) : Int) * c) ((n : Int) - ((0 : Nat) : Int)) c := by
    show Heap.get? _ _ = _
    rw [hn]; simpa using Heap.get?_push_size _ rfl
  have noL : env.locals ∉ [s.heap.objs.size] := fun hm => absurd F.ns.lt ((List.mem_singleton.mp hm) ▸ Nat.lt_irrefl _)
  have new0 : ∀ b ∈ [s.heap.objs.size], h₀.get? b = none := fun b hb => by rw [List.mem_singleton.mp hb]; exact next_is_new F
  have off : ∀ p ∈ Led c₀, p.1 ∉ [s.heap.objs.size] := fun p hp hI => absurd (Heap.lt_size (N p hp).1) ((List.mem_singleton.mp hI) ▸ Nat.lt_irrefl _)
  refine loop_invN (fun i m nx => KstS Led ps Facts x stored m₀ (fun _ => P i) [] m nx) W noL new0 off off it0 (F.push _) (fun p hp => ⟨Heap.get?_push_of_some _ (N p hp).1, (N p hp).2⟩) ⟨c₀, rfl, hf, hk, fun _ _ _ _ => rfl, hp⟩ ?_ ?_
  · rintro i v m₁ nx h tk own hi ⟨_, t, rfl⟩ _ hoff ⟨st, rfl, hf', h1, h2, hp'⟩ F₁ N₁
    exact turn st i _ t m₁ h tk own rfl hi hoff hf' hp' (kst_fr h1 h2 F₁) N₁
  · rintro m₁ nx h tk ⟨st, rfl, hf', h1, h2, hp'⟩ F₁ N₁
    exact done st m₁ h tk hf' hp' (kst_frOut h1 h2 F₁) N₁
end
/-- a step that is to be taken by hand: the walk halts there -/
def Hold (P : Prop) : Prop := P
theorem hold {P : Prop} (h : Hold P) : P := h
theorem allLt_ne {d : Addr} : ∀ {l : List (Addr × Obj)}, AllLt d l → ∀ p ∈ l, p.1 ≠ d
  | [], _, _, h => nomatch h
  | q :: r, hl, p, h => by
    rcases List.mem_cons.mp h with rfl | h
    · exact Nat.ne_of_lt hl.1
    · exact allLt_ne hl.2 p h
/-- the end of an unrolled turn over a ledger with a tail that is not written -/
theorem unr3 {h₀ : Heap} {L I x1 x2 : Addr} {it o1 o2 : Obj} {T : List (Addr × Obj)} {rest : (Str → Option Value) → List (Addr × Obj) → Prop} {s₁ : Shared} {h' : Heap} {tk : Nat} {m' : Str → Option Value}
    (F : Fr h₀ L h' m') (N : News h₀ L h' ((I, it) :: (x1, o1) :: (x2, o2) :: T)) (hl : x1 < I ∧ x2 < I ∧ AllLt I T) (r : rest m' ((x1, o1) :: (x2, o2) :: T)) : UnrEnd h₀ L s₁ I it rest { s₁ with heap := h', toks := tk } :=
  UnrEnd.intro F N _ (fun _ hp => hp) (fun p hp => by
    rcases List.mem_cons.mp hp with rfl | hp
    · exact Nat.ne_of_lt hl.1
    · rcases List.mem_cons.mp hp with rfl | hp
      · exact Nat.ne_of_lt hl.2.1
      · exact allLt_ne hl.2.2 p hp) r
theorem small3 {b : Int} (hb : 0 ≤ b) (hb' : b ≤ 1048576) : Builtin.Range.small 0 b 3 = true := by
  unfold Builtin.Range.small Builtin.Range.rangeSize
  simp only [Builtin.Range.rangeFitsLong, Bool.and_eq_true, Bool.or_eq_true, decide_eq_true_eq, beq_iff_eq]
  (repeat' split) <;> (try simp at *) <;> omega
theorem size3 (k : Nat) : Builtin.Range.rangeSize 0 (k : Int) 3 = (((k + 2) / 3 : Nat) : Int) := by
  unfold Builtin.Range.rangeSize
  split
  · split <;> omega
  · omega

section
variable {prog : Program} {w : World} {A : Around} {E : Value → Shared → Prop} {s : Shared} {value slice : PySem.Expr} {b : Array UInt8} {t : Tok} {h₀ : Heap} {L : Addr} {m : PySem.Str → Option Value} {news : List (Addr × Obj)} {l u : Value} {lo hi : Option Int} {Q : Value → Shared → Prop} {ks : List Int}
/-- a part of three, or the rest -/
theorem slice3 {i : Nat} {k : Int} (hF : Fr h₀ L s.heap m) (hN : News h₀ L s.heap news) (hk : KBw.bInts b = ks) (hb : ks.length ≤ 1048576) (e : k = 0 + (i : Int) * 3) (hlt : i < (ks.length + 2) / 3) (hl : IsPart l (some k)) (hu : IsPart u (some (k + 3)))
    (h3 : ∀ p x y z r h' t' tk', KBw.bInts p = [x, y, z] → ks = ks.take (3 * i) ++ x :: y :: z :: r → ks.take (3 * (i + 1)) = ks.take (3 * i) ++ [x, y, z] → (0 ≤ x ∧ x < 256) ∧ (0 ≤ y ∧ y < 256) ∧ (0 ≤ z ∧ z < 256) → Fr h₀ L h' m → News h₀ L h' news → Q (.bytes p t') { s with heap := h', toks := tk' })
    (h2 : ∀ p x y h' t' tk', KBw.bInts p = [x, y] → ks = ks.take (3 * i) ++ [x, y] → ks.take (3 * (i + 1)) = ks.take (3 * i) ++ [x, y] → (0 ≤ x ∧ x < 256) ∧ (0 ≤ y ∧ y < 256) → Fr h₀ L h' m → News h₀ L h' news → Q (.bytes p t') { s with heap := h', toks := tk' })
    (h1 : ∀ p x h' t' tk', KBw.bInts p = [x] → ks = ks.take (3 * i) ++ [x] → ks.take (3 * (i + 1)) = ks.take (3 * i) ++ [x] → (0 ≤ x ∧ x < 256) → Fr h₀ L h' m → News h₀ L h' news → Q (.bytes p t') { s with heap := h', toks := tk' })
    (hs : subscripted slice false (.bytes b t) (.ref s.heap.objs.size) = operate [.ref s.heap.objs.size, .bytes b t] (getItem (.bytes b t) (.ref s.heap.objs.size)) := by with_unfolding_all rfl)
    (ht : ∀ r, letTemporaryGo value (.bytes b t) r = pure () := by intro _; with_unfolding_all rfl) :
    wpAny (model prog w) A (subscriptTail value slice (.bytes b t) (.ref s.heap.objs.size)) Q E { s with heap := s.heap.push { cls := .type "slice", data := .fields #[l, u, .none] } } := by
  refine KBc.slice_K hF hN hk hl hu (by omega) ?_ hs ht
  intro h' t' tk' F' N' hp
  have hin : ∀ n ∈ ks, 0 ≤ n ∧ n < 256 := fun n hn => KBw.ints_in (hk ▸ hn)
  have e1 : clipAt ks.length k = 3 * i := by
    rw [show k = ((3 * i : Nat) : Int) by omega, clipAt_nat]; omega
  have e2 : clipAt ks.length (k + 3) = min (3 * i + 3) ks.length := by
    rw [show k + 3 = ((3 * i + 3 : Nat) : Int) by omega, clipAt_nat]
  simp only [Option.elim] at hp
  rw [e1, e2] at hp
  have ed : ks = ks.take (3 * i) ++ ks.drop (3 * i) := (List.take_append_drop _ _).symm
  have et : ks.take (3 * (i + 1)) = ks.take (3 * i) ++ (ks.drop (3 * i)).take 3 := by
    rw [show 3 * (i + 1) = 3 * i + 3 by omega, List.take_add]
  have ep : KBw.bInts (KBy.picked b (some k) (some (k + 3))) = (ks.drop (3 * i)).take 3 := by
    rw [hp]
    by_cases hle : 3 * i + 3 ≤ ks.length
    · rw [Nat.min_eq_left hle]; congr 1; omega
    · rw [Nat.min_eq_right (by omega)]
      rw [List.take_of_length_le (by rw [List.length_drop]; omega), List.take_of_length_le (by rw [List.length_drop]; omega)]
  have hld : (ks.drop (3 * i)).length = ks.length - 3 * i := List.length_drop
  have hmem : ∀ n ∈ ks.drop (3 * i), 0 ≤ n ∧ n < 256 := fun n hn => hin n (List.mem_of_mem_drop hn)
  match hd : ks.drop (3 * i) with
  | [] => rw [hd] at hld; simp at hld; omega
  | [x] =>
    rw [hd] at ep ed et hmem
    exact h1 _ x h' t' tk' ep ed et (hmem x (by simp)) F' N'
  | [x, y] =>
    rw [hd] at ep ed et hmem
    exact h2 _ x y h' t' tk' ep ed et ⟨hmem x (by simp), hmem y (by simp)⟩ F' N'
  | x :: y :: z :: r =>
    rw [hd] at ep ed et hmem
    exact h3 _ x y z r h' t' tk' ep ed (by rw [et]; rfl) ⟨hmem x (by simp), hmem y (by simp), hmem z (by simp)⟩ F' N'
end
end Mine
end

theorem Mine.offMD : True := by w_top off; trivial

section
open PySem PySem.W PyProof.Rows PySem.Calls
namespace Mine
set_option maxRecDepth 100000
section
variable {prog : Program} {w : World} {A : Around} {E : Value → Shared → Prop} {s : Shared} {value slice : PySem.Expr} {b : Array UInt8} {t u : Tok} {h₀ : Heap} {L : Addr} {m : PySem.Str → Option Value} {news : List (Addr × Obj)} {Q : Value → Shared → Prop} {ks : List Int} {x y z n i : Int}
theorem len1 (hk : KBw.bInts b = [x]) (h : ∀ t' k, Q (.int 1 t') { s with toks := k }) : wpAny (model prog w) A (call (.builtin "len") [.bytes b t]) Q E s :=
  KBw.len_K hk (by simp) (h _ _)
theorem len2 (hk : KBw.bInts b = [x, y]) (h : ∀ t' k, Q (.int 2 t') { s with toks := k }) : wpAny (model prog w) A (call (.builtin "len") [.bytes b t]) Q E s :=
  KBw.len_K hk (by simp) (h _ _)
theorem len3 (hk : KBw.bInts b = [x, y, z]) (h : ∀ t' k, Q (.int 3 t') { s with toks := k }) : wpAny (model prog w) A (call (.builtin "len") [.bytes b t]) Q E s :=
  KBw.len_K hk (by simp) (h _ _)
theorem zeros0 (hn : n = 0) (h : ∀ d t' k, KBw.bInts d = [] → Q (.bytes d t') { s with toks := k }) : wpAny (model prog w) A (binaryOp .Mult (.bytes #[0] t) (.int n u)) Q E s := by
  subst hn
  exact bytes_mul_any (b := [0]) (by simp) (by omega) (by omega) (by simp) fun t' k => h _ t' k rfl
theorem zeros1 (hn : n = 1) (h : ∀ d t' k, KBw.bInts d = [0] → Q (.bytes d t') { s with toks := k }) : wpAny (model prog w) A (binaryOp .Mult (.bytes #[0] t) (.int n u)) Q E s := by
  subst hn
  exact bytes_mul_any (b := [0]) (by simp) (by omega) (by omega) (by simp) fun t' k => h _ t' k rfl
theorem zeros2 (hn : n = 2) (h : ∀ d t' k, KBw.bInts d = [0, 0] → Q (.bytes d t') { s with toks := k }) : wpAny (model prog w) A (binaryOp .Mult (.bytes #[0] t) (.int n u)) Q E s := by
  subst hn
  exact bytes_mul_any (b := [0]) (by simp) (by omega) (by omega) (by simp) fun t' k => h _ t' k rfl
theorem addB {c : Array UInt8} {ls : List Int} (hb : KBw.bInts b = ks) (hc : KBw.bInts c = ls) (hsz : ks.length + ls.length ≤ 16777216) (h : ∀ d t' k, KBw.bInts d = ks ++ ls → Q (.bytes d t') { s with toks := k }) : wpAny (model prog w) A (binaryOp .Add (.bytes b t) (.bytes c u)) Q E s :=
  KBa.add_K hb hc hsz fun t' k e => h _ t' k e
theorem from3 {a : Addr} (N : News h₀ L s.heap news) (hm : (a, KFB.bound) ∈ news) (hk : KBw.bInts b = [x, y, z]) (h : ∀ t' k, Q (.int (x * 65536 + y * 256 + z) t') { s with toks := k }) :
    wpAny (model prog w) A (call (.ref a) [.bytes b t, .str (PySem.Str.ofString "big") u]) Q E s :=
  KFB.call_big N hm hk (by simp) fun t' k => by
    have e : KFB.value [x, y, z] = x * 65536 + y * 256 + z := by simp only [KFB.value, List.foldl_cons, List.foldl_nil]; omega
    rw [e]; exact h t' k
theorem from2 {a : Addr} (N : News h₀ L s.heap news) (hm : (a, KFB.bound) ∈ news) (hk : KBw.bInts b = [x, y]) (h : ∀ t' k, Q (.int (x * 256 + y) t') { s with toks := k }) :
    wpAny (model prog w) A (call (.ref a) [.bytes b t, .str (PySem.Str.ofString "big") u]) Q E s :=
  KFB.call_big N hm hk (by simp) fun t' k => by
    have e : KFB.value [x, y] = x * 256 + y := by simp only [KFB.value, List.foldl_cons, List.foldl_nil]; omega
    rw [e]; exact h t' k
theorem from1 {a : Addr} (N : News h₀ L s.heap news) (hm : (a, KFB.bound) ∈ news) (hk : KBw.bInts b = [x]) (h : ∀ t' k, Q (.int x t') { s with toks := k }) :
    wpAny (model prog w) A (call (.ref a) [.bytes b t, .str (PySem.Str.ofString "big") u]) Q E s :=
  KFB.call_big N hm hk (by simp) fun t' k => by
    have e : KFB.value [x] = x := by simp only [KFB.value, List.foldl_cons, List.foldl_nil]; omega
    rw [e]; exact h t' k

abbrev signsText : Str := Str.ofString "ABCDEFGHIJKLMNOPQRSTUVWXYZabcdefghijklmnopqrstuvwxyz0123456789-_"
theorem signs_cps : signsText.cps = alpha.toArray := by decide +kernel
/-- a sign out of the alphabet -/
theorem sign (h0 : 0 ≤ i) (h1 : i < 64) (h : ∀ t' k, Q (.str ⟨#[codeOf i]⟩ t') { s with toks := k })
    (hs : subscripted slice false (.str signsText t) (.int i u) = operate [.str signsText t, .int i u] (getItem (.str signsText t) (.int i u)) := by with_unfolding_all rfl)
    (ht : ∀ r, letTemporaryGo value (.str signsText t) r = pure () := by intro _; with_unfolding_all rfl) :
    wpAny (model prog w) A (subscriptTail value slice (.str signsText t) (.int i u)) Q E s := by
  have hlen : signsText.length = 64 := by decide +kernel
  have hal : alpha.length = 64 := rfl
  refine tail_of_ItemOn ⟨"str", _, F.slot_str_getitem.lookup, typeIs_str _ _ _, P.getItem_str (c := codeOf i) ?_ ?_ (h _ _)⟩ hs ht
  · simp only [Bool.or_eq_false_iff, decide_eq_false_iff_not]; omega
  · have e : seqIndex? i signsText.length = some i.toNat := by
      rw [hlen]; unfold seqIndex?
      simp only [show ¬ i < 0 by omega, if_false]
      simp [h0, h1]
    rw [e]
    show signsText.cps[i.toNat]? = some (codeOf i)
    rw [signs_cps]
    have : i.toNat < alpha.length := by omega
    simp only [List.getElem?_toArray, codeOf, List.getD_eq_getElem?_getD]
    rw [List.getElem?_eq_getElem this]; rfl
theorem add1 {n r : Int} (hn : n = r - 1) (h : ∀ t' k, Q (.int r t') { s with toks := k }) : wpAny (model prog w) A (binaryOp .Add (.int n t) (.int 1 u)) Q E s := by
  have e : n + 1 = r := by omega
  refine PyProof.Rows.add_int ?_
  rw [e]; exact h _ _
theorem sub3 {n r : Int} (hn : n = 3 - r) (h : ∀ t' k, Q (.int r t') { s with toks := k }) : wpAny (model prog w) A (binaryOp .Sub (.int 3 t) (.int n u)) Q E s := by
  have e : 3 - n = r := by omega
  refine PyProof.Rows.sub_int ?_
  rw [e]; exact h _ _
theorem powLit {a n r : Int} {j : Nat} (hn : n = (j : Int)) (hj : j ≤ 4) (ha : a.natAbs < 2 ^ 64) (e : a ^ j = r) (h : ∀ t' k, Q (.int r t') { s with toks := k }) : wpAny (model prog w) A (binaryOp .Pow (.int a t) (.int n u)) Q E s := by
  subst hn
  refine PyProof.Rows.pow_int_small (by omega) (by omega) ha ?_
  rw [Int.toNat_natCast, e]; exact h _ _
theorem pow256_0 {n : Int} (hn : n = 0) (h : ∀ t' k, Q (.int 1 t') { s with toks := k }) : wpAny (model prog w) A (binaryOp .Pow (.int 256 t) (.int n u)) Q E s := powLit (j := 0) hn (by decide) (by decide) (by decide) h
theorem pow256_1 {n : Int} (hn : n = 1) (h : ∀ t' k, Q (.int 256 t') { s with toks := k }) : wpAny (model prog w) A (binaryOp .Pow (.int 256 t) (.int n u)) Q E s := powLit (j := 1) hn (by decide) (by decide) (by decide) h
theorem pow256_2 {n : Int} (hn : n = 2) (h : ∀ t' k, Q (.int 65536 t') { s with toks := k }) : wpAny (model prog w) A (binaryOp .Pow (.int 256 t) (.int n u)) Q E s := powLit (j := 2) hn (by decide) (by decide) (by decide) h
theorem pow64_0 {n : Int} (hn : n = 0) (h : ∀ t' k, Q (.int 1 t') { s with toks := k }) : wpAny (model prog w) A (binaryOp .Pow (.int 64 t) (.int n u)) Q E s := powLit (j := 0) hn (by decide) (by decide) (by decide) h
theorem pow64_1 {n : Int} (hn : n = 1) (h : ∀ t' k, Q (.int 64 t') { s with toks := k }) : wpAny (model prog w) A (binaryOp .Pow (.int 64 t) (.int n u)) Q E s := powLit (j := 1) hn (by decide) (by decide) (by decide) h
theorem pow64_2 {n : Int} (hn : n = 2) (h : ∀ t' k, Q (.int 4096 t') { s with toks := k }) : wpAny (model prog w) A (binaryOp .Pow (.int 64 t) (.int n u)) Q E s := powLit (j := 2) hn (by decide) (by decide) (by decide) h
theorem pow64_3 {n : Int} (hn : n = 3) (h : ∀ t' k, Q (.int 262144 t') { s with toks := k }) : wpAny (model prog w) A (binaryOp .Pow (.int 64 t) (.int n u)) Q E s := powLit (j := 3) hn (by decide) (by decide) (by decide) h
abbrev signsBytes : Array UInt8 := #[65, 66, 67, 68, 69, 70, 71, 72, 73, 74, 75, 76, 77, 78, 79, 80, 81, 82, 83, 84, 85, 86, 87, 88, 89, 90, 97, 98, 99, 100, 101, 102, 103, 104, 105, 106, 107, 108, 109, 110, 111, 112, 113, 114, 115, 116, 117, 118, 119, 120, 121, 122, 48, 49, 50, 51, 52, 53, 54, 55, 56, 57, 45, 95]
theorem signsBytes_get : ∀ i : Nat, i < 64 → ((signsBytes.toList.getD i 0).toNat : Int) = (alpha.getD i 0 : Nat) := by decide +kernel
/-- a sign's octet out of the table -/
theorem signB (h0 : 0 ≤ i) (h1 : i < 64) (h : ∀ t' k, Q (.int (codeOf i) t') { s with toks := k })
    (hs : subscripted slice false (.bytes signsBytes t) (.int i u) = operate [.bytes signsBytes t, .int i u] (getItem (.bytes signsBytes t) (.int i u)) := by with_unfolding_all rfl)
    (ht : ∀ r, letTemporaryGo value (.bytes signsBytes t) r = pure () := by intro _; with_unfolding_all rfl) :
    wpAny (model prog w) A (subscriptTail value slice (.bytes signsBytes t) (.int i u)) Q E s := by
  refine KBy.item_N (x := signsBytes.toList) (by decide) h0 (by show i < 64; exact h1) ?_ hs ht
  rw [signsBytes_get i.toNat (by omega)]
  exact h _ _
theorem addSmall {x y : Str} (hx : x.length ≤ 8) (hy : y.length ≤ 8) (h : ∀ t' k, Q (.str (x ++ y) t') { s with toks := k }) : wpAny (model prog w) A (binaryOp .Add (.str x t) (.str y u)) Q E s :=
  add_str h (by rw [sizeLine_eq]; omega)
theorem textOf_length (ks : List Int) : (textOf ks).length = (4 * ks.length + 2) / 3 := by
  show (List.toArray _).size = _
  rw [List.size_toArray, List.length_map, sx_length]
theorem addText {i : Nat} {x y : Str} {ps : List Int} (hx : x = textOf (ks.take (3 * i))) (pT : ks.take (3 * (i + 1)) = ks.take (3 * i) ++ ps) (hi : i < (ks.length + 2) / 3) (hk : ks.length ≤ 1000) (hps : ps.length ≤ 3)
    (hs : y = ⟨((sx ps).map codeOf).toArray⟩) (h : ∀ t' k, Q (.str (textOf (ks.take (3 * (i + 1)))) t') { s with toks := k }) : wpAny (model prog w) A (binaryOp .Add (.str x t) (.str y u)) Q E s := by
  have hl : (ks.take (3 * i)).length = 3 * i := by rw [List.length_take]; omega
  have e : textOf (ks.take (3 * (i + 1))) = x ++ y := by
    rw [pT, hx, hs]
    unfold textOf
    rw [sx_app i _ _ hl, List.map_append]
    apply Str.ext'
    rw [Str.cps_append]
    simp
  rw [e] at h
  refine add_str h ?_
  have h1 : x.length ≤ 2000 := by rw [hx, textOf_length, hl]; omega
  have h2 : y.length ≤ 8 := by
    rw [hs]
    show (List.toArray _).size ≤ _
    rw [List.size_toArray, List.length_map, sx_length]; omega
  rw [sizeLine_eq]; omega
theorem cut4_2 {a b c d : Nat} : Txt.slice ((⟨#[a]⟩ : Str) ++ ⟨#[b]⟩ ++ ⟨#[c]⟩ ++ ⟨#[d]⟩) none (some (1 + 1)) = ⟨#[a, b]⟩ := by rfl
theorem cut4_3 {a b c d : Nat} : Txt.slice ((⟨#[a]⟩ : Str) ++ ⟨#[b]⟩ ++ ⟨#[c]⟩ ++ ⟨#[d]⟩) none (some (2 + 1)) = ⟨#[a, b, c]⟩ := by rfl
theorem cut4_4 {a b c d : Nat} : Txt.slice ((⟨#[a]⟩ : Str) ++ ⟨#[b]⟩ ++ ⟨#[c]⟩ ++ ⟨#[d]⟩) none (some (3 + 1)) = ⟨#[a, b, c, d]⟩ := by rfl
theorem four1 {x : Int} (hx : 0 ≤ x ∧ x < 256) : Txt.slice ((⟨#[codeOf ((x * 65536 + 0 * 256 + 0).fdiv 262144)]⟩ : Str) ++ ⟨#[codeOf (((x * 65536 + 0 * 256 + 0).fdiv 4096).fmod 64)]⟩ ++ ⟨#[codeOf (((x * 65536 + 0 * 256 + 0).fdiv 64).fmod 64)]⟩ ++ ⟨#[codeOf ((x * 65536 + 0 * 256 + 0).fmod 64)]⟩) none (some (1 + 1)) = ⟨((sx [x]).map codeOf).toArray⟩ := by
  rw [cut4_2]
  simp only [sx, List.map_cons, List.map_nil, fd262144, fd4096, fd64, fm64]
  congr 3
  · congr 1; omega
  · congr 2; omega
theorem four2 {x y : Int} (hx : (0 ≤ x ∧ x < 256) ∧ (0 ≤ y ∧ y < 256)) : Txt.slice ((⟨#[codeOf ((x * 65536 + y * 256 + 0).fdiv 262144)]⟩ : Str) ++ ⟨#[codeOf (((x * 65536 + y * 256 + 0).fdiv 4096).fmod 64)]⟩ ++ ⟨#[codeOf (((x * 65536 + y * 256 + 0).fdiv 64).fmod 64)]⟩ ++ ⟨#[codeOf ((x * 65536 + y * 256 + 0).fmod 64)]⟩) none (some (2 + 1)) = ⟨((sx [x, y]).map codeOf).toArray⟩ := by
  rw [cut4_3]
  simp only [sx, List.map_cons, List.map_nil, fd262144, fd4096, fd64, fm64]
  congr 3
  · congr 1; omega
  · congr 2
    · omega
    · congr 2; omega
theorem four3 {x y z : Int} (hx : (0 ≤ x ∧ x < 256) ∧ (0 ≤ y ∧ y < 256) ∧ (0 ≤ z ∧ z < 256)) : Txt.slice ((⟨#[codeOf ((x * 65536 + y * 256 + z).fdiv 262144)]⟩ : Str) ++ ⟨#[codeOf (((x * 65536 + y * 256 + z).fdiv 4096).fmod 64)]⟩ ++ ⟨#[codeOf (((x * 65536 + y * 256 + z).fdiv 64).fmod 64)]⟩ ++ ⟨#[codeOf ((x * 65536 + y * 256 + z).fmod 64)]⟩) none (some (3 + 1)) = ⟨((sx [x, y, z]).map codeOf).toArray⟩ := by
  rw [cut4_4]
  simp only [sx, List.map_cons, List.map_nil, fd262144, fd4096, fd64, fm64]
  rw [show (x * 65536 + y * 256 + z) / 262144 = x / 4 by omega, show (x * 65536 + y * 256 + z) / 4096 % 64 = x % 4 * 16 + y / 16 by omega, show (x * 65536 + y * 256 + z) / 64 % 64 = y % 16 * 4 + z / 64 by omega, show (x * 65536 + y * 256 + z) % 64 = z % 64 by omega]
end
section
variable {prog : Program} {w : World} {A : Around} {E : Value → Shared → Prop} {s : Shared} {t : Tok} {Q : Value → Shared → Prop} {a : Int}
theorem fmtSmall (h0 : 0 ≤ a) (h1 : a ≤ 3000) (h : ∀ (y : Str) t' k, y.length ≤ 6 → Q (.str y t') { s with toks := k }) : wpAny (model prog w) A (formatField (.int a t) Str.empty) Q E s := by
  refine PySem.wpAny_formatField_int ?_ (h _ _ _ ?_)
  · have h2 : a.natAbs < 2 ^ 12 := by omega
    by_cases hz : a.natAbs = 0
    · rw [hz]; decide
    · have := (Nat.log2_lt hz).mpr h2
      omega
  · show (Str.ofString (toString a)).length ≤ 6
    rw [PySem.ofString_length]
    have := int_text_length_le10 (a := a) (k := 4) (by decide) (by omega)
    omega
end
abbrev codesOf (ds : List Int) : List Int := ds.map fun d => (codeOf d : Int)
section
variable {ks ns : List Int} {x y z : Int} {i : Nat}
theorem enc1 (hP : ns = (sx (ks.take (3 * i))).map fun d => (codeOf d : Int)) (pT : ks.take (3 * (i + 1)) = ks.take (3 * i) ++ [x]) (hlt : i < (ks.length + 2) / 3) (hx : 0 ≤ x ∧ x < 256) :
    ns ++ [(codeOf (((x * 65536).fdiv 262144).fmod 64) : Int)] ++ [(codeOf (((x * 65536).fdiv 4096).fmod 64) : Int)] = (sx (ks.take (3 * (i + 1)))).map fun d => (codeOf d : Int) := by
  have hl : (ks.take (3 * i)).length = 3 * i := by rw [List.length_take]; omega
  rw [pT, sx_app i _ _ hl, List.map_append, ← hP]
  simp only [sx, List.map_cons, List.map_nil, fd262144, fd4096, fm64, List.append_assoc, List.cons_append, List.nil_append]
  rw [show x * 65536 / 262144 % 64 = x / 4 by omega, show x * 65536 / 4096 % 64 = x % 4 * 16 by omega]
theorem enc2 (hP : ns = (sx (ks.take (3 * i))).map fun d => (codeOf d : Int)) (pT : ks.take (3 * (i + 1)) = ks.take (3 * i) ++ [x, y]) (hlt : i < (ks.length + 2) / 3) (hx : (0 ≤ x ∧ x < 256) ∧ (0 ≤ y ∧ y < 256)) :
    ns ++ [(codeOf ((((x * 256 + y) * 256).fdiv 262144).fmod 64) : Int)] ++ [(codeOf ((((x * 256 + y) * 256).fdiv 4096).fmod 64) : Int)] ++ [(codeOf ((((x * 256 + y) * 256).fdiv 64).fmod 64) : Int)] = (sx (ks.take (3 * (i + 1)))).map fun d => (codeOf d : Int) := by
  have hl : (ks.take (3 * i)).length = 3 * i := by rw [List.length_take]; omega
  rw [pT, sx_app i _ _ hl, List.map_append, ← hP]
  simp only [sx, List.map_cons, List.map_nil, fd262144, fd4096, fd64, fm64, List.append_assoc, List.cons_append, List.nil_append]
  rw [show (x * 256 + y) * 256 / 262144 % 64 = x / 4 by omega, show (x * 256 + y) * 256 / 4096 % 64 = x % 4 * 16 + y / 16 by omega, show (x * 256 + y) * 256 / 64 % 64 = y % 16 * 4 by omega]
theorem enc3 (hP : ns = (sx (ks.take (3 * i))).map fun d => (codeOf d : Int)) (pT : ks.take (3 * (i + 1)) = ks.take (3 * i) ++ [x, y, z]) (hlt : i < (ks.length + 2) / 3) (hx : (0 ≤ x ∧ x < 256) ∧ (0 ≤ y ∧ y < 256) ∧ (0 ≤ z ∧ z < 256)) :
    ns ++ [(codeOf ((((x * 65536 + y * 256 + z) * 1).fdiv 262144).fmod 64) : Int)] ++ [(codeOf ((((x * 65536 + y * 256 + z) * 1).fdiv 4096).fmod 64) : Int)] ++ [(codeOf ((((x * 65536 + y * 256 + z) * 1).fdiv 64).fmod 64) : Int)] ++ [(codeOf ((((x * 65536 + y * 256 + z) * 1).fdiv 1).fmod 64) : Int)] = (sx (ks.take (3 * (i + 1)))).map fun d => (codeOf d : Int) := by
  have hl : (ks.take (3 * i)).length = 3 * i := by rw [List.length_take]; omega
  rw [pT, sx_app i _ _ hl, List.map_append, ← hP]
  simp only [sx, List.map_cons, List.map_nil, fd262144, fd4096, fd64, fd1, fm64, List.append_assoc, List.cons_append, List.nil_append]
  rw [show (x * 65536 + y * 256 + z) * 1 / 262144 % 64 = x / 4 by omega, show (x * 65536 + y * 256 + z) * 1 / 4096 % 64 = x % 4 * 16 + y / 16 by omega, show (x * 65536 + y * 256 + z) * 1 / 64 % 64 = y % 16 * 4 + z / 64 by omega, show (x * 65536 + y * 256 + z) * 1 % 64 = z % 64 by omega]
end
end Mine
end

theorem Mine.offLS : True := by w_top off; trivial

section
open PySem PySem.W PyProof.Rows
namespace Mine
set_option maxRecDepth 100000
set_option maxHeartbeats 8000000
local macro_rules | `(tactic| walk_at "subscriptTail") => `(tactic| (k_here; (with_reducible show wpAny _ _ (subscriptTail _ (Expr.Slice _ _ none _) (Value.bytes _ _) (Value.ref _)) _ _ _); (with_reducible rename Fr _ _ _ _ => F'); (with_reducible rename News _ _ _ _ => N'); (refine' slice3 (s := ⟨_, _, _, _, _⟩) F' N' (by kba_ints) (by omega) (by assumption) (by assumption) (by constructor) (by constructor) ?h3 ?h2 ?h1); (case' h3 => intro pB pX pY pZ pR _ _ _ pK pE pT pI _ _); (case' h2 => intro pB pX pY _ _ _ pK pE pT pI _ _); (case' h1 => intro pB pX _ _ _ pK pE pT pI _ _)))
local macro_rules | `(tactic| walk_at "call builtin:len") => `(tactic| (k_here; (with_reducible show wpAny _ _ (call (Value.builtin "len") [Value.bytes _ _]) _ _ _); (first | refine len1 (by assumption) ?_ | refine len2 (by assumption) ?_ | refine len3 (by assumption) ?_); intro _ _))
local macro_rules | `(tactic| walk_at "binaryOp Mult bytes int") => `(tactic| (k_here; (first | refine zeros0 (by omega) ?_ | refine zeros1 (by omega) ?_ | refine zeros2 (by omega) ?_); intro zB _ _ zK))
local macro_rules | `(tactic| walk_at "binaryOp Add bytes bytes") => `(tactic| (k_here; (refine addB (by assumption) (by assumption) (by simp) ?_); intro aB _ _ aK; (try simp only [List.cons_append, List.nil_append, List.append_nil] at aK)))
local macro_rules | `(tactic| walk_at "call ref") => `(tactic| (k_here; (with_reducible show wpAny _ _ (call (Value.ref _) [Value.bytes _ _, Value.str _ _]) _ _ _); k_dflt (refine' from3 ?kN ?kM ?kK ?_; (case kN => k_asm); (case kM => k_mem); (case kK => assumption)); intro _ _))
local macro_rules | `(tactic| walk_at "subscriptTail Name BinOp str int") => `(tactic| (k_here; (with_reducible show wpAny _ _ (subscriptTail _ _ (Value.str _ _) (Value.int _ _)) _ _ _); (refine' sign ?z0 ?z1 ?_ ?hs ?ht); (case z0 => simp only [fd262144, fd4096, fd64, fm64]; omega); (case z1 => simp only [fd262144, fd4096, fd64, fm64]; omega); (case hs => with_unfolding_all rfl); (case ht => intro _; with_unfolding_all rfl); intro _ _))
local macro_rules | `(tactic| walk_at "binaryOp Add str str") => `(tactic| (k_here; (first | refine addSmall (by with_unfolding_all exact Nat.le_of_ble_eq_true rfl) (by with_unfolding_all exact Nat.le_of_ble_eq_true rfl) ?_ | (refine' addText (by assumption) (by assumption) (by assumption) (by assumption) ?l1 ?l2 ?_; (case l1 => simp); (case l2 => first | exact four1 (by assumption) | exact four2 (by assumption) | exact four3 (by assumption)))); intro _ _))
theorem law_sixes_gives (w : World) (b : Array UInt8) (t0 : Tok) (ks : List Int) (hks : KBw.bInts b = ks) (hb : ks.length ≤ 1000) : Gives w 1 70 [.bytes b t0] (fun t => .str (textOf ks) t) := by
  intro mean mg mb news dp un gd cn cs a ccd cl outer A₀ base h₀ L m s Q E B F X N T hk hdp hun hret
  refine wpAny_call ?_
  k_dflt cell_enter
  k_steps
  rename IsRange _ _ _ _ _ _ _ _ => rgX
  rename Fr _ _ _ _ => rgF
  rename News _ _ _ _ => rgN
  with_unfolding_all refine' step_range (σ := Str × Nat) (fun _ => news) (fun c => [(Str.ofString "found", .str c.1 c.2)]) (fun _ => True) [Str.ofString "part", Str.ofString "number", Str.ofString "four"] (fun i c => c.1 = textOf (ks.take (3 * i))) (Str.ofString "", _) rfl rgX (small3 (by omega) (by omega)) (size3 _) rgF rgN True.intro ?kk ?kp ?turn ?done
  case kk => kst_all
  case kp => rfl
  case turn =>
    rintro ⟨fnd, tf⟩ i k t u h tk own hi hlt hoff - hP kFr kNews
    try dsimp only [kstB] at kFr
    try dsimp only at kNews
    have kMark := kstMark
    try dsimp only
    k_steps
  case done =>
    rintro ⟨fnd, tf⟩ u h tk - hP kFr kNews
    have hw : ks.take (3 * ((ks.length + 2) / 3)) = ks := List.take_of_length_le (by omega)
    try dsimp only [kstB] at kFr
    try dsimp only at kNews hP
    rw [hw] at hP
    subst hP
    try dsimp only
    k_steps
    all_goals (refine' cb_retS hret ?e1 ?e2 ?e3; (case e2 => k_asm); (case e3 => first | k_asm | (refine' cb_drop ?cbN ?cbS; (case cbN => assumption); (case cbS => kcj_all))); (case e1 => rfl))
end Mine
end

theorem Mine.offEN : True := by w_top off; trivial

section
open PySem PySem.W PyProof.Rows
namespace Mine
set_option maxRecDepth 100000
set_option maxHeartbeats 8000000
local macro_rules | `(tactic| walk_at "subscriptTail") => `(tactic| (k_here; (with_reducible show wpAny _ _ (subscriptTail _ (Expr.Slice _ _ none _) (Value.bytes _ _) (Value.ref _)) _ _ _); (with_reducible rename Fr _ _ _ _ => F'); (with_reducible rename News _ _ _ _ => N'); (refine' slice3 (s := ⟨_, _, _, _, _⟩) F' N' (by kba_ints) (by omega) (by assumption) (by assumption) (by constructor) (by constructor) ?h3 ?h2 ?h1); (case' h3 => intro pB pX pY pZ pR _ _ _ pK pE pT pI _ _); (case' h2 => intro pB pX pY _ _ _ pK pE pT pI _ _); (case' h1 => intro pB pX _ _ _ pK pE pT pI _ _)))
local macro_rules | `(tactic| walk_at "call builtin:len") => `(tactic| (k_here; (with_reducible show wpAny _ _ (call (Value.builtin "len") [Value.bytes _ _]) _ _ _); (first | refine len1 (by assumption) ?_ | refine len2 (by assumption) ?_ | refine len3 (by assumption) ?_); intro _ _))
local macro_rules | `(tactic| walk_at "call ref") => `(tactic| (k_here; (with_reducible show wpAny _ _ (call (Value.ref _) [Value.bytes _ _, Value.str _ _]) _ _ _); k_dflt (first | (refine' from3 ?kN ?kM ?kK ?_; (case kN => k_asm); (case kM => k_mem); (case kK => assumption)) | (refine' from2 ?kN ?kM ?kK ?_; (case kN => k_asm); (case kM => k_mem); (case kK => assumption)) | (refine' from1 ?kN ?kM ?kK ?_; (case kN => k_asm); (case kM => k_mem); (case kK => assumption))); intro _ _))
local macro_rules | `(tactic| walk_at "binaryOp Sub int int") => `(tactic| (k_here; (with_reducible show wpAny _ _ (binaryOp _ (Value.int 3 _) (Value.int _ _)) _ _ _); (first | refine sub3 (r := 3) (by omega) ?_ | refine sub3 (r := 2) (by omega) ?_ | refine sub3 (r := 1) (by omega) ?_ | refine sub3 (r := 0) (by omega) ?_); intro _ _))
local macro_rules | `(tactic| walk_at "binaryOp Add int int") => `(tactic| (k_here; (with_reducible show wpAny _ _ (binaryOp _ (Value.int _ _) (Value.int 1 _)) _ _ _); (first | refine add1 (r := 4) (by omega) ?_ | refine add1 (r := 3) (by omega) ?_ | refine add1 (r := 2) (by omega) ?_); intro _ _))
local macro_rules | `(tactic| walk_at "binaryOp Pow int int") => `(tactic| (k_here; (first | refine pow256_0 (by omega) ?_ | refine pow256_1 (by omega) ?_ | refine pow256_2 (by omega) ?_ | refine pow64_0 (by omega) ?_ | refine pow64_1 (by omega) ?_ | refine pow64_2 (by omega) ?_ | refine pow64_3 (by omega) ?_); intro _ _))
local macro_rules | `(tactic| walk_at "subscriptTail Name BinOp bytes int") => `(tactic| (k_here; (with_reducible show wpAny _ _ (subscriptTail _ _ (Value.bytes _ _) (Value.int _ _)) _ _ _); (refine' signB ?z0 ?z1 ?_ ?hs ?ht); (case z0 => simp only [fd262144, fd4096, fd64, fd1, fm64]; omega); (case z1 => simp only [fd262144, fd4096, fd64, fd1, fm64]; omega); (case hs => with_unfolding_all rfl); (case ht => intro _; with_unfolding_all rfl); intro _ _))
local macro_rules | `(tactic| walk_at "UnrEnd") => `(tactic| (refine unr3 (by assumption) (by assumption) (by assumption) ?_))
local macro_rules | `(tactic| kst_p) => `(tactic| ((try dsimp only); first | with_reducible exact enc1 (by assumption) (by assumption) (by assumption) (by assumption) | with_reducible exact enc2 (by assumption) (by assumption) (by assumption) (by assumption) | with_reducible exact enc3 (by assumption) (by assumption) (by assumption) (by assumption)))
theorem encoded_gives (w : World) (b : Array UInt8) (t0 : Tok) (ks : List Int) (hks : KBw.bInts b = ks) (hb : ks.length ≤ 1000) : Gives w 1 42 [.bytes b t0] (fun t => .bytes (byteArr ((sx ks).map fun d => (codeOf d : Int))) t) := by
  intro mean mg mb news dp un gd cn cs a ccd cl outer A₀ base h₀ L m s Q E B F X N T hk hdp hun hret
  refine wpAny_call ?_
  k_dflt cell_enter
  k_steps
  rename_i lD h1 l1 h2 F1 N1 h3 tk1 t1 u1 v1 rgX rgF rgN keep
  with_unfolding_all refine' step_range (σ := List Value × List Int × Nat) (fun c => (lD, listOf c.1.toArray c.2.2) :: news) (fun _ => []) (fun c => IntsAre c.1 c.2.1) [Str.ofString "part", Str.ofString "number", Str.ofString "place"] (fun i c => c.2.1 = (sx (ks.take (3 * i))).map fun d => (codeOf d : Int)) ([], [], 0) rfl rgX (small3 (by omega) (by omega)) (size3 _) rgF rgN IntsAre.nil ?kk ?kp ?turn ?done
  case kk => kst_all
  case kp => rfl
  case turn =>
    rintro ⟨vs, ns, nn⟩ i k t u h tk own hi hlt hoff hFa hP kFr kNews
    try dsimp only [kstB] at kFr
    try dsimp only at kNews hFa hP
    simp only [List.cons_append] at kNews
    dsimp only at hoff
    simp only [List.map_cons] at hoff
    have kMark := kstMark
    have hlen : vs.length ≤ 2000 := by rw [hFa.length, hP, List.length_map, sx_length, List.length_take]; omega
    try dsimp only
    k_steps
  case done =>
    rintro ⟨vs, ns, nn⟩ u h tk hFa hP kFr kNews
    have hw : ks.take (3 * ((ks.length + 2) / 3)) = ks := List.take_of_length_le (by omega)
    try dsimp only [kstB] at kFr
    try dsimp only at kNews hP hFa
    rw [hw] at hP
    subst hP
    have hin : KBa.In ((sx ks).map fun d => (codeOf d : Int)) := codes_in
    have hlen : ((sx ks).map fun d => (codeOf d : Int)).length ≤ 2000 := by rw [List.length_map, sx_length]; omega
    try dsimp only
    k_steps
    all_goals (refine' gv_retB hret ?e1 ?e2 ?e3; (case e2 => k_asm); (case e3 => first | k_asm | (refine' cb_drop ?cbN ?cbS; (case cbN => assumption); (case cbS => kcj_all))); (case e1 => rfl))
end Mine
end

theorem Mine.offEC : True := by w_top off; trivial

section
open PySem PySem.W PyProof.Rows
namespace Mine
set_option maxRecDepth 100000
set_option maxHeartbeats 8000000
local macro_rules | `(tactic| walk_at "call ref") => `(tactic| (k_here; k_dflt (refine' Gives.use (encoded_gives _ _ _ _ ?p1 ?p2) ?k1 ?k2 ?k3 ?k4 ?k5 ?kK ?kd ?ku ?kR); (case p1 => assumption); (case p2 => assumption); (case k1 => k_asm); (case k2 => k_asm); (case k3 => k_asm); (case k4 => k_asm); (case k5 => k_asm); (case kK => first | exact rfl | assumption); (case kd => ktr_room); (case ku => ktr_units); intro t9 h9 tk9 F9 N9; (try dsimp only); (try k_fold)))
theorem encode_gives (w : World) (b : Array UInt8) (t0 : Tok) (ks : List Int) (hks : KBw.bInts b = ks) (hb : ks.length ≤ 1000) : Gives w 2 35 [.bytes b t0] (fun t => .bytes (byteArr ((sx ks).map fun d => (codeOf d : Int))) t) := by
  intro mean mg mb news dp un gd cn cs a ccd cl outer A₀ base h₀ L m s Q E B F X N T hk hdp hun hret
  refine wpAny_call ?_
  k_dflt cell_enter
  k_steps
  all_goals (refine' gv_retB hret ?e1 ?e2 ?e3; (case e2 => k_asm); (case e3 => first | k_asm | (refine' cb_drop ?cbN ?cbS; (case cbN => assumption); (case cbS => kcj_all))); (case e1 => rfl))
end Mine
end

theorem Mine.offDE : True := by w_top off; trivial

section
open PySem PySem.W PyProof.Rows
namespace Mine
set_option maxRecDepth 100000
set_option maxHeartbeats 8000000
def dstep (st : List Int × Int × Int × Int × Int) (o : Int) : List Int × Int × Int × Int × Int :=
  if o = 61 then (st.1, st.2.1, st.2.2.1, st.2.2.2.1 + 1, st.2.2.2.2)
  else if sixOf o < 0 then st
  else if st.2.1 = 0 then (st.1, 1, sixOf o, 0, st.2.2.2.2 + 1)
  else if st.2.1 = 1 then (st.1 ++ [st.2.2.1 * 4 + sixOf o / 16], 2, sixOf o % 16, 0, st.2.2.2.2 + 1)
  else if st.2.1 = 2 then (st.1 ++ [st.2.2.1 * 16 + sixOf o / 4], 3, sixOf o % 4, 0, st.2.2.2.2 + 1)
  else (st.1 ++ [st.2.2.1 * 64 + sixOf o], 0, st.2.2.1, 0, st.2.2.2.2 + 1)
structure DInv (pre found : List Int) (place left pads many : Int) : Prop where
  hfold : pre.foldl dstep ([], 0, 0, 0, 0) = (found, place, left, pads, many)
  hlen : found.length ≤ pre.length
  hplace : 0 ≤ place ∧ place ≤ 3
  hleft : 0 ≤ left ∧ left ≤ 63
  hpads : 0 ≤ pads ∧ pads ≤ (pre.length : Int)
  hmany : 0 ≤ many ∧ many ≤ (pre.length : Int)
  hleft23 : (place = 2 → left ≤ 15) ∧ (place = 3 → left ≤ 3)
  hins : KBa.In found
theorem dInv_nil : DInv [] [] 0 0 0 0 := ⟨rfl, by simp, by omega, by omega, by simp, by simp, by omega, fun _ h => nomatch h⟩
theorem sixOf_range (k : Int) : -1 ≤ sixOf k ∧ sixOf k ≤ 63 := by
  unfold sixOf
  (repeat' split) <;> omega
section
variable {pre ns : List Int} {pl lf pd mn k : Int}
theorem DInv.fold (hP : DInv pre ns pl lf pd mn) : (pre ++ [k]).foldl dstep ([], 0, 0, 0, 0) = dstep (ns, pl, lf, pd, mn) k := by
  rw [List.foldl_append, hP.hfold]; rfl
theorem DInv.pad (hP : DInv pre ns pl lf pd mn) (h : k = 61) : DInv (pre ++ [k]) ns pl lf (pd + 1) mn := by
  obtain ⟨a, b, c, d, e, f, g, i⟩ := id hP
  refine ⟨?_, ?_, c, d, ?_, ?_, g, i⟩
  · rw [hP.fold]; simp only [dstep, if_pos h]
  all_goals ((try simp only [List.length_append, List.length_cons, List.length_nil]); omega)
theorem DInv.skip (hP : DInv pre ns pl lf pd mn) (h : k ≠ 61) (h2 : sixOf k < 0) : DInv (pre ++ [k]) ns pl lf pd mn := by
  obtain ⟨a, b, c, d, e, f, g, i⟩ := id hP
  refine ⟨?_, ?_, c, d, ?_, ?_, g, i⟩
  · rw [hP.fold]; simp only [dstep, if_neg h, if_pos h2]
  all_goals ((try simp only [List.length_append, List.length_cons, List.length_nil]); omega)
theorem in_snoc {x : Int} (i : KBa.In ns) (h : 0 ≤ x ∧ x < 256) : KBa.In (ns ++ [x]) := fun n hn => by
  rcases List.mem_append.mp hn with hn | hn
  · exact i n hn
  · rw [List.mem_singleton.mp hn]; exact h
theorem DInv.p0 (hP : DInv pre ns pl lf pd mn) (h : k ≠ 61) (h2 : ¬ sixOf k < 0) (h3 : pl = 0) : DInv (pre ++ [k]) ns ((pl + 1).fmod 4) (sixOf k) 0 (mn + 1) := by
  obtain ⟨a, b, c, d, e, f, g, i⟩ := id hP
  have hr := sixOf_range k
  rw [fm4]
  refine ⟨?_, ?_, ?_, ?_, ?_, ?_, ?_, i⟩
  · rw [hP.fold]; simp only [dstep, if_neg h, if_neg h2, if_pos h3]; rw [h3]; rfl
  all_goals ((try simp only [List.length_append, List.length_cons, List.length_nil]); omega)
theorem DInv.p1 (hP : DInv pre ns pl lf pd mn) (h : k ≠ 61) (h2 : ¬ sixOf k < 0) (h3 : pl = 1) : DInv (pre ++ [k]) (ns ++ [lf * 4 + (sixOf k).fdiv 16]) ((pl + 1).fmod 4) ((sixOf k).fmod 16) 0 (mn + 1) := by
  obtain ⟨a, b, c, d, e, f, g, i⟩ := id hP
  have hr := sixOf_range k
  rw [fm4, fm16, fd16]
  refine ⟨?_, ?_, ?_, ?_, ?_, ?_, ?_, in_snoc i (by omega)⟩
  · rw [hP.fold]; simp only [dstep, if_neg h, if_neg h2]; rw [if_neg (by omega), if_pos h3, h3]; rfl
  all_goals ((try simp only [List.length_append, List.length_cons, List.length_nil]); omega)
theorem DInv.p2 (hP : DInv pre ns pl lf pd mn) (h : k ≠ 61) (h2 : ¬ sixOf k < 0) (h3 : pl = 2) : DInv (pre ++ [k]) (ns ++ [lf * 16 + (sixOf k).fdiv 4]) ((pl + 1).fmod 4) ((sixOf k).fmod 4) 0 (mn + 1) := by
  obtain ⟨a, b, c, d, e, f, g, i⟩ := id hP
  have hr := sixOf_range k
  rw [fm4, fm4, fd4]
  refine ⟨?_, ?_, ?_, ?_, ?_, ?_, ?_, in_snoc i (by omega)⟩
  · rw [hP.fold]; simp only [dstep, if_neg h, if_neg h2]; rw [if_neg (by omega), if_neg (by omega), if_pos h3, h3]; rfl
  all_goals ((try simp only [List.length_append, List.length_cons, List.length_nil]); omega)
theorem DInv.p3 (hP : DInv pre ns pl lf pd mn) (h : k ≠ 61) (h2 : ¬ sixOf k < 0) (h3 : pl = 3) : DInv (pre ++ [k]) (ns ++ [lf * 64 + sixOf k]) ((pl + 1).fmod 4) lf 0 (mn + 1) := by
  obtain ⟨a, b, c, d, e, f, g, i⟩ := id hP
  have hr := sixOf_range k
  rw [fm4]
  refine ⟨?_, ?_, ?_, ?_, ?_, ?_, ?_, in_snoc i (by omega)⟩
  · rw [hP.fold]; simp only [dstep, if_neg h, if_neg h2]; rw [if_neg (by omega), if_neg (by omega), if_neg (by omega), h3]; rfl
  all_goals ((try simp only [List.length_append, List.length_cons, List.length_nil]); omega)
end
local macro_rules | `(tactic| walk_at "call ref") => `(tactic| (k_here; k_dflt (refine' Gives.use (six_of_gives _ _ _) ?k1 ?k2 ?k3 ?k4 ?k5 ?kK ?kd ?ku ?kR); (case k1 => k_asm); (case k2 => k_asm); (case k3 => k_asm); (case k4 => k_asm); (case k5 => k_asm); (case kK => first | exact rfl | assumption); (case kd => ktr_room); (case ku => ktr_units); intro t9 h9 tk9 F9 N9; (try dsimp only); (try k_fold)))
local macro_rules | `(tactic| kst_p) => `(tactic| ((try dsimp only); first | exact DInv.pad (by assumption) (by omega) | exact DInv.skip (by assumption) (by omega) (by omega) | exact DInv.p0 (by assumption) (by omega) (by omega) (by omega) | exact DInv.p1 (by assumption) (by omega) (by omega) (by omega) | exact DInv.p2 (by assumption) (by omega) (by omega) (by omega) | exact DInv.p3 (by assumption) (by omega) (by omega) (by omega)))
local macro_rules | `(tactic| walk_at "pyIter bytes") => `(tactic| (refine hold ?_))
local macro_rules | `(tactic| walk_at "exec For Name Name cons nil") => `(tactic| (k_here; (rename Fr _ _ _ _ => lF'); (with_unfolding_all refine' For_invVF lF' ?k1 ?k2 ?_; (case k1 => exact rfl); (case k2 => exact rfl); k_whole)))
local macro_rules | `(tactic| walk_at "exec Raise some none") => `(tactic| (exfalso; omega))
theorem decoded_gives (w : World) (b : Array UInt8) (t0 : Tok) (ks : List Int) (hks : KBw.bInts b = ks) (hb : ks.length ≤ 3000) (found : List Int) (place left pads many : Int)
   (hr : ks.foldl dstep ([], 0, 0, 0, 0) = (found, place, left, pads, many)) (h1 : place ≠ 1) (h2 : ¬ (place ≠ 0 ∧ place + pads < 4)) : Gives w 2 56 [.bytes b t0] (fun t => .bytes (byteArr found) t) := by
  intro mean mg mb news dp un gd cn cs a ccd cl outer A₀ base h₀ L m s Q E B F X N T hk hdp hun hret
  refine wpAny_call ?_
  k_dflt cell_enter
  k_steps
  unfold Hold
  rename_i lD hA l1 ha hb' hc hd' he rgF rgN
  with_unfolding_all refine' KStb.kst_bytes (σ := List Value × List Int × Nat × Int × Tok × Int × Tok × Int × Tok × Int × Tok) (fun c => (lD, listOf c.1.toArray c.2.2.1) :: news) (fun c => [(Str.ofString "place", .int c.2.2.2.1 c.2.2.2.2.1), (Str.ofString "left", .int c.2.2.2.2.2.1 c.2.2.2.2.2.2.1), (Str.ofString "pads", .int c.2.2.2.2.2.2.2.1 c.2.2.2.2.2.2.2.2.1), (Str.ofString "many", .int c.2.2.2.2.2.2.2.2.2.1 c.2.2.2.2.2.2.2.2.2.2)]) (fun c => IntsAre c.1 c.2.1) [Str.ofString "six"] (fun pre c => DInv pre c.2.1 c.2.2.2.1 c.2.2.2.2.2.1 c.2.2.2.2.2.2.2.1 c.2.2.2.2.2.2.2.2.2.1) ([], [], 0, 0, _, 0, _, 0, _, 0, _) hks rfl rfl rgF rgN IntsAre.nil ?kk ?kp ?turn ?done
  case kk => kst_all
  case kp => exact dInv_nil
  case turn =>
    rintro ⟨vs, ns, nn, pl, plT, lf, lfT, pd, pdT, mn, mnT⟩ pre post k t u h tk own hks' hlt hk0 hk1 hoff hFa hP kFr kNews
    try dsimp only [kstB] at kFr
    try dsimp only at kNews hFa hP
    simp only [List.cons_append] at kNews
    dsimp only at hoff
    simp only [List.map_cons] at hoff
    have kMark := kstMark
    have hlen : vs.length ≤ 3000 := by rw [hFa.length]; have := hP.hlen; omega
    obtain ⟨p0, p1⟩ := hP.hplace
    obtain ⟨q0, q1⟩ := hP.hleft
    obtain ⟨q2, q3⟩ := hP.hleft23
    try dsimp only
    k_steps
  case done =>
    rintro ⟨vs, ns, nn, pl, plT, lf, lfT, pd, pdT, mn, mnT⟩ u h tk hlen0 hFa hP kFr kNews
    try dsimp only [kstB] at kFr
    try dsimp only at kNews hFa hP
    have hq := hP.hfold.symm.trans hr
    injection hq with q1 hq
    injection hq with q2 hq
    injection hq with q3 hq
    injection hq with q4 q5
    subst q1 q2 q3 q4 q5
    have hin := hP.hins
    have hlen : ns.length ≤ 3000 := by have := hP.hlen; omega
    try dsimp only
    k_steps
    all_goals (refine' gv_retB hret ?e1 ?e2 ?e3; (case e2 => k_asm); (case e3 => first | k_asm | (refine' cb_drop ?cbN ?cbS; (case cbN => assumption); (case cbS => kcj_all))); (case e1 => rfl))
end Mine
end

theorem Mine.offDR : True := by w_top off; trivial

section
open PySem PySem.W PyProof.Rows
namespace Mine
set_option maxRecDepth 100000
set_option maxHeartbeats 8000000
local macro_rules | `(tactic| walk_at "call ref") => `(tactic| (k_here; k_dflt (refine' Gives.use (six_of_gives _ _ _) ?k1 ?k2 ?k3 ?k4 ?k5 ?kK ?kd ?ku ?kR); (case k1 => k_asm); (case k2 => k_asm); (case k3 => k_asm); (case k4 => k_asm); (case k5 => k_asm); (case kK => first | exact rfl | assumption); (case kd => ktr_room); (case ku => ktr_units); intro t9 h9 tk9 F9 N9; (try dsimp only); (try k_fold)))
local macro_rules | `(tactic| kst_p) => `(tactic| ((try dsimp only); first | exact DInv.pad (by assumption) (by omega) | exact DInv.skip (by assumption) (by omega) (by omega) | exact DInv.p0 (by assumption) (by omega) (by omega) (by omega) | exact DInv.p1 (by assumption) (by omega) (by omega) (by omega) | exact DInv.p2 (by assumption) (by omega) (by omega) (by omega) | exact DInv.p3 (by assumption) (by omega) (by omega) (by omega)))
local macro_rules | `(tactic| walk_at "pyIter bytes") => `(tactic| (refine hold ?_))
local macro_rules | `(tactic| walk_at "exec For Name Name cons nil") => `(tactic| (k_here; (rename Fr _ _ _ _ => lF'); (with_unfolding_all refine' For_invVF lF' ?k1 ?k2 ?_; (case k1 => exact rfl); (case k2 => exact rfl); k_whole)))
theorem glue1 {y : Str} (hy : y.length ≤ 6) : (Str.empty ++ Str.ofString "Invalid base64-encoded string: number of data characters (" ++ y).length ≤ sizeLine := by
  have e : (Str.empty ++ Str.ofString "Invalid base64-encoded string: number of data characters (").length = 58 := by decide +kernel
  rw [Str.length_append, e, sizeLine_eq]; omega
theorem glue2 {y : Str} (hy : y.length ≤ 6) : (Str.empty ++ Str.ofString "Invalid base64-encoded string: number of data characters (" ++ y ++ Str.ofString ") cannot be 1 more than a multiple of 4").length ≤ sizeLine := by
  have e : (Str.empty ++ Str.ofString "Invalid base64-encoded string: number of data characters (").length = 58 := by decide +kernel
  have e2 : (Str.ofString ") cannot be 1 more than a multiple of 4").length = 39 := by decide +kernel
  rw [Str.length_append, Str.length_append, e, e2, sizeLine_eq]; omega
local macro_rules | `(tactic| walk_at "formatField int") => `(tactic| (k_here; (refine fmtSmall (by assumption) (by assumption) ?_); intro _ _ _ _; (try dsimp only); (refine ⟨glue1 (by assumption), ?_⟩)))
local macro_rules | `(tactic| size_fits) => `(tactic| first | (with_reducible exact glue2 (by assumption)) | (fail))
theorem jpEnd {M : Model} {A : Around} {E : Value → Shared → Prop} {s : Shared} {env : Env} {X : Str} {Q : Value → Shared → Prop} (hX : X.length ≤ sizeLine) (h : ∀ (z : Str) t' k, z.length ≤ sizeLine → Q (.str z t') { s with toks := k }) :
    wpAny M A (joinParts X (evalEach [] env)) Q E s := joinParts_nilE (joinParts_nil (h X _ _ hX) hX)
local macro_rules | `(tactic| walk_at "joinParts") => `(tactic| (k_here; (with_reducible refine jpEnd (glue2 (by assumption)) ?_); intro zT _ _ zL; (try dsimp only)))
theorem decoded_raises (w : World) (b : Array UInt8) (t0 : Tok) (ks : List Int) (hks : KBw.bInts b = ks) (hb : ks.length ≤ 3000) (found : List Int) (place left pads many : Int)
   (hr : ks.foldl dstep ([], 0, 0, 0, 0) = (found, place, left, pads, many)) (h1 : place = 1) : Raises w 2 56 [.bytes b t0] "ValueError" (fun _ => True) := by
  intro mean mg mb news dp un gd cn cs a ccd cl outer A₀ base h₀ L m s Q E B F X N T hk hdp hun hret
  refine wpAny_call ?_
  k_dflt cell_enter
  k_steps
  unfold Hold
  rename_i lD hA l1 ha hb' hc hd' he rgF rgN
  with_unfolding_all refine' KStb.kst_bytes (σ := List Value × List Int × Nat × Int × Tok × Int × Tok × Int × Tok × Int × Tok) (fun c => (lD, listOf c.1.toArray c.2.2.1) :: news) (fun c => [(Str.ofString "place", .int c.2.2.2.1 c.2.2.2.2.1), (Str.ofString "left", .int c.2.2.2.2.2.1 c.2.2.2.2.2.2.1), (Str.ofString "pads", .int c.2.2.2.2.2.2.2.1 c.2.2.2.2.2.2.2.2.1), (Str.ofString "many", .int c.2.2.2.2.2.2.2.2.2.1 c.2.2.2.2.2.2.2.2.2.2)]) (fun c => IntsAre c.1 c.2.1) [Str.ofString "six"] (fun pre c => DInv pre c.2.1 c.2.2.2.1 c.2.2.2.2.2.1 c.2.2.2.2.2.2.2.1 c.2.2.2.2.2.2.2.2.2.1) ([], [], 0, 0, _, 0, _, 0, _, 0, _) hks rfl rfl rgF rgN IntsAre.nil ?kk ?kp ?turn ?done
  case kk => kst_all
  case kp => exact dInv_nil
  case turn =>
    rintro ⟨vs, ns, nn, pl, plT, lf, lfT, pd, pdT, mn, mnT⟩ pre post k t u h tk own hks' hlt hk0 hk1 hoff hFa hP kFr kNews
    try dsimp only [kstB] at kFr
    try dsimp only at kNews hFa hP
    simp only [List.cons_append] at kNews
    dsimp only at hoff
    simp only [List.map_cons] at hoff
    have kMark := kstMark
    have hlen : vs.length ≤ 3000 := by rw [hFa.length]; have := hP.hlen; omega
    obtain ⟨p0, p1⟩ := hP.hplace
    obtain ⟨q0, q1⟩ := hP.hleft
    obtain ⟨q2, q3⟩ := hP.hleft23
    try dsimp only
    k_steps
  case done =>
    rintro ⟨vs, ns, nn, pl, plT, lf, lfT, pd, pdT, mn, mnT⟩ u h tk hlen0 hFa hP kFr kNews
    try dsimp only [kstB] at kFr
    try dsimp only at kNews hFa hP
    have hq := hP.hfold.symm.trans hr
    injection hq with q1 hq
    injection hq with q2 hq
    injection hq with q3 hq
    injection hq with q4 q5
    subst q1 q2 q3 q4 q5
    have hin := hP.hins
    obtain ⟨m0, m1⟩ := hP.hmany
    have m2 : mn ≤ 3000 := by omega
    have hlen : ns.length ≤ 3000 := by have := hP.hlen; omega
    try dsimp only
    k_steps
    all_goals first | (exfalso; omega) | exact hret _ _ _ _ _ _ trivial (by assumption) (raisedK_mono (by assumption) (fun p hp => List.mem_cons_of_mem _ hp)) (by assumption)
end Mine
end

theorem Mine.offME : True := by w_top off; trivial

section
open PySem PySem.W PyProof.Rows PySem.Calls
namespace Mine
set_option maxRecDepth 100000
open PySem.Builtin PySem.Builtin._codecs

theorem forIn_two {β : Type} {n : Nat} (hn : 0 < n) (f : Nat → β → Sem (ForInStep β)) (b b1 : β) (h1 : f 0 b = pure (.yield b1)) (h2 : ∀ a, f a b1 = pure (.done b1)) : forIn [0:n] b f = (pure b1 : Sem β) := by
  obtain ⟨k, rfl⟩ : ∃ k, n = k + 1 := ⟨n - 1, by omega⟩
  rw [Std.Legacy.Range.forIn_eq_forIn_range']
  have e : ([0:k+1] : Std.Legacy.Range).size = k + 1 := by simp [Std.Legacy.Range.size]
  rw [e]
  show forIn (List.range' 0 (k + 1) 1) b f = _
  rw [List.range'_succ, List.forIn_cons, h1]
  show forIn (List.range' (0 + 1) k 1) b1 f = _
  cases k with
  | zero => rfl
  | succ k => rw [List.range'_succ, List.forIn_cons, h2]; rfl

def encU (x : Str) : Array UInt8 := x.cps.foldl (fun acc y => acc ++ (Str.utf8Of y).toArray) #[]
theorem narrow_clean {id : String} {self : Value} {x : Str} (h : ∀ c ∈ x.cps.toList, Str.isSurrogate c = false) (hsz : (encU x).size ≤ sizeLine) : encodeNarrow id utf8Codec none self x = pure (encU x) := by
  unfold encodeNarrow
  by_cases h0 : x.length = 0
  · have e : x.cps = #[] := Array.eq_empty_of_size_eq_zero h0
    rw [h0]
    simp [encU, e]
  · have hs : 0 < x.cps.size := Nat.pos_of_ne_zero h0
    have hbad : ∀ c ∈ x.cps, utf8Codec.bad c = false := fun c hc => h c (Array.mem_toList_iff.mpr hc)
    have hfind : Array.findIdx? utf8Codec.bad x.cps = none := by
      rw [Array.findIdx?_eq_none_iff]
      exact hbad
    dsimp only
    rw [forIn_two (b1 := (x.cps.size, encU x, ({} : Faults))) (Nat.pos_of_ne_zero h0)]
    · rfl
    · dsimp only
      rw [if_neg (by simp)]
      have e0 : x.cps[0]? = some x.cps[0] := Array.getElem?_eq_getElem hs
      rw [e0]
      have hb0 : utf8Codec.bad x.cps[0] = false := hbad _ (Array.getElem_mem hs)
      dsimp only
      rw [hb0]
      simp only [Bool.not_false, if_true]
      have ex : x.cps.extract 0 = x.cps := by simp
      rw [ex, hfind]
      simp only [Option.getD_none, Nat.zero_add]
      rw [ex]
      rfl
    · intro a
      dsimp only
      rw [if_neg (by omega)]
      have e1 : x.cps[x.cps.size]? = none := by simp
      rw [e1]
theorem encode_entry {x : Str} {t u : Tok} : «str.encode» ⟨[.str x t, .str (Str.ofString "utf-8") u], []⟩ = (encodeRoad "str.encode" (.str x t) x (Str.ofString "utf-8") none >>= fun v => ret v) := by
  first | rfl | kernel_rfl
theorem meets_encode {x : Str} {t u : Tok} (hx : ∀ c ∈ x.cps.toList, Str.isSurrogate c = false) :
    Meets («str.encode» ⟨[.str x t, .str (Str.ofString "utf-8") u], []⟩) (fun _ R s => (encU x).size ≤ sizeLine ∧ ∀ t' k, R (.ok (.ret (.bytes (encU x) t'))) { s with toks := k }) := by
  refine .of_wp fun prog w A R s hS => ?_
  obtain ⟨hsz, h⟩ := hS
  rw [encode_entry, encodeRoad_utf8, narrow_clean hx hsz]
  exact wpAny_bind (wpAny_bind (wpAny_pure (wpAny_mkBytes (wpAny_pure ⟨_, rfl, h _ _⟩) hsz)))
section
variable {prog : Program} {w : World} {A : Around} {E : Value → Shared → Prop} {s : Shared} {t u : Tok} {x : Str}
theorem encode {Q : Value → Shared → Prop} (hx : ∀ c ∈ x.cps.toList, Str.isSurrogate c = false) (hsz : (encU x).size ≤ sizeLine) (h : ∀ t' k, Q (.bytes (encU x) t') { s with toks := k }) :
    wpAny (model prog w) A (call (.builtin "str.encode") [.str x t, .str (Str.ofString "utf-8") u]) Q E s :=
  call_meets F.slot_str_encode (typeIs_str _ _ _) F.entry_str_encode (F.args_str_encode_2 _ _) (meets_encode hx) ⟨hsz, h⟩
theorem encodeM {M : Model} {pl : Sem Bool} {Q : Value × List Value → Shared → Prop} (h : Q (.builtin "str.encode", [.str x t]) s) : wpAny M A (getMethod (.str x t) "encode" pl) Q E s := by
  with_reducible exact GM.of (.str x t) (typeIs_str _ _ _) F.slot_str_encode F.type_str_encode GM.noRef h
end
end Mine
end

theorem Mine.offMF : True := by w_top off; trivial

section
open PySem PySem.W PyProof.Rows PySem.Calls
namespace Mine
set_option maxRecDepth 100000
theorem noI_bytes_add : typeLookup (.type "bytes") (dunderI "add") = pure none := by rw [typeLookup_type, builtinLookup_eq_fast]; kernel_rfl
def padded (ks : List Int) : List Int := ks ++ List.replicate ((4 - ks.length % 4) % 4) 61
section
variable {prog : Program} {w : World} {A : Around} {E : Value → Shared → Prop} {s : Shared} {b c : Array UInt8} {t u : Tok} {Q : Value → Shared → Prop} {ks ls : List Int}
theorem iaddB (hb : KBw.bInts b = ks) (hc : KBw.bInts c = ls) (hsz : ks.length + ls.length ≤ 16777216) (h : ∀ d t' k, KBw.bInts d = ks ++ ls → Q (.bytes d t') { s with toks := k }) : wpAny (model prog w) A (inplaceOp .Add (.bytes b t) (.bytes c u)) Q E s := by
  have hs : b.size + c.size ≤ 16777216 := by rw [← KBw.ints_length b, ← KBw.ints_length c, hb, hc]; exact hsz
  have hk : KBw.bInts (b ++ c) = ks ++ ls := KBw.ints_app hb hc
  refine iconcat_gives (typeIs_bytes s b t) (typeIs_bytes s c u) noI_bytes_add KBy.noFill_bytes_add KBy.seq_bytes_add FB.slot_bytes_add FB.entry_bytes_add (FB.args_bytes_add_2 _ _) (KBy.gives_bytes_add (KBy.tooLong_not hs)) ?_
  by_cases h1 : b.isEmpty = true
  · rw [if_pos h1]
    have e : b = #[] := Array.isEmpty_iff.1 h1
    rw [e, Array.empty_append] at hk
    exact h c u s.toks hk
  · rw [if_neg h1]
    by_cases h2 : c.isEmpty = true
    · rw [if_pos h2]
      have e : c = #[] := Array.isEmpty_iff.1 h2
      rw [e, Array.append_empty] at hk
      exact h b t s.toks hk
    · rw [if_neg h2]
      exact ⟨by rw [Array.size_append, sizeLine_eq]; exact hs, h _ _ _ hk⟩
theorem eqMul {n : Int} (h0 : 0 ≤ n) (h1 : n ≤ 4) (h : ∀ d t' k, KBw.bInts d = List.replicate n.toNat 61 → Q (.bytes d t') { s with toks := k }) : wpAny (model prog w) A (binaryOp .Mult (.bytes #[61] t) (.int n u)) Q E s := by
  refine bytes_mul_any (b := [61]) (by simp) (by omega) (by omega) (by simp) fun t' k => h _ t' k ?_
  have e : (List.replicate n.toNat [(61 : UInt8)]).flatten = List.replicate n.toNat 61 := by
    generalize n.toNat = j
    induction j with
    | zero => rfl
    | succ j ih => rw [List.replicate_succ, List.replicate_succ, List.flatten_cons, ih]; rfl
  rw [e]
  show (List.replicate n.toNat (61 : UInt8)).map _ = _
  rw [List.map_replicate]; rfl
end
theorem padded_more (h : 0 < ((ks.length : Int).fmod 4)) : ks ++ List.replicate (4 - (ks.length : Int).fmod 4).toNat 61 = padded ks := by
  unfold padded
  rw [fm4] at *
  congr 2
  omega
theorem padded_none (h : ¬ 0 < ((ks.length : Int).fmod 4)) : ks = padded ks := by
  unfold padded
  rw [fm4] at *
  have e : (4 - ks.length % 4) % 4 = 0 := by omega
  rw [e]; simp
end Mine
end

theorem Mine.offFB : True := by w_top off; trivial

section
open PySem PySem.W PyProof.Rows
namespace Mine
set_option maxRecDepth 100000
set_option maxHeartbeats 8000000
local macro_rules | `(tactic| walk_at "getMethod str") => `(tactic| (k_here; (with_reducible refine encodeM ?_)))
local macro_rules | `(tactic| walk_at "call builtin:str.encode") => `(tactic| (k_here; (refine encode (by assumption) (by assumption) ?_); intro _ _))
theorem force_str (w : World) (x : Str) (t0 : Tok) (hx : ∀ c ∈ x.cps.toList, Str.isSurrogate c = false) (hsz : (encU x).size ≤ sizeLine) : Gives w 1 21 [.str x t0] (fun t => .bytes (encU x) t) := by
  intro mean mg mb news dp un gd cn cs a ccd cl outer A₀ base h₀ L m s Q E B F X N T hk hdp hun hret
  refine wpAny_call ?_
  k_dflt cell_enter
  k_steps
  all_goals (refine' gv_retB hret ?e1 ?e2 ?e3; (case e2 => k_asm); (case e3 => first | k_asm | (refine' cb_drop ?cbN ?cbS; (case cbN => assumption); (case cbS => kcj_all))); (case e1 => rfl))
theorem force_bytes (w : World) (x : Array UInt8) (t0 : Tok) : Gives w 1 21 [.bytes x t0] (fun _ => .bytes x t0) := by
  intro mean mg mb news dp un gd cn cs a ccd cl outer A₀ base h₀ L m s Q E B F X N T hk hdp hun hret
  refine wpAny_call ?_
  k_dflt cell_enter
  k_steps
  all_goals exact hret 0 _ _ (by k_asm) (by k_asm)
theorem force_none (w : World) : Raises w 1 21 [.none] "TypeError" (fun as => ∃ t, as = [.str (Str.ofString "Expected a string or bytes value") t]) := by
  intro mean mg mb news dp un gd cn cs a ccd cl outer A₀ base h₀ L m s Q E B F X N T hk hdp hun hret
  refine wpAny_call ?_
  k_dflt cell_enter
  k_steps
  all_goals exact hret _ _ _ _ _ _ ⟨_, rfl⟩ (by assumption) (by assumption) (by assumption)
theorem force_int (w : World) (i : Int) (t0 : Tok) : Raises w 1 21 [.int i t0] "TypeError" (fun as => ∃ t, as = [.str (Str.ofString "Expected a string or bytes value") t]) := by
  intro mean mg mb news dp un gd cn cs a ccd cl outer A₀ base h₀ L m s Q E B F X N T hk hdp hun hret
  refine wpAny_call ?_
  k_dflt cell_enter
  k_steps
  all_goals exact hret _ _ _ _ _ _ ⟨_, rfl⟩ (by assumption) (by assumption) (by assumption)
end Mine
end

theorem Mine.offDC : True := by w_top off; trivial

section
open PySem PySem.W PyProof.Rows
namespace Mine
set_option maxRecDepth 100000
set_option maxHeartbeats 8000000
local macro_rules | `(tactic| walk_at "call builtin:len") => `(tactic| (k_here; (with_reducible show wpAny _ _ (call (Value.builtin "len") [Value.bytes _ _]) _ _ _); (refine KBw.len_K (by assumption) (by omega) ?_)))
local macro_rules | `(tactic| walk_at "binaryOp Mult bytes int") => `(tactic| (k_here; (refine' eqMul ?z0 ?z1 ?_); (case z0 => simp only [fm4]; omega); (case z1 => simp only [fm4]; omega); intro zB _ _ zK))
local macro_rules | `(tactic| walk_at "inplaceOp Add bytes bytes") => `(tactic| (k_here; (refine iaddB (by assumption) (by assumption) (by rw [List.length_replicate, fm4]; omega) ?_); intro aB _ _ aK; (try rw [padded_more (by assumption)] at aK)))
local macro_rules | `(tactic| walk_at "call ref") => `(tactic| (k_here; k_dflt (refine' Gives.use (force_str _ _ _ ?p1 ?p2) ?k1 ?k2 ?k3 ?k4 ?k5 ?kK ?kd ?ku ?_); (case p1 => assumption); (case p2 => assumption); (case k1 => k_asm); (case k2 => k_asm); (case k3 => k_asm); (case k4 => k_asm); (case k5 => k_asm); (case kK => first | exact rfl | assumption); (case kd => ktr_room); (case ku => ktr_units); intro t9 h9 tk9 F9 N9; (try dsimp only); (try k_fold)))
local macro_rules | `(tactic| walk_at "call ref") => `(tactic| (k_here; k_dflt (refine' Gives.use (force_bytes _ _ _) ?k1 ?k2 ?k3 ?k4 ?k5 ?kK ?kd ?ku ?_); (case k1 => k_asm); (case k2 => k_asm); (case k3 => k_asm); (case k4 => k_asm); (case k5 => k_asm); (case kK => first | exact rfl | assumption); (case kd => ktr_room); (case ku => ktr_units); intro t9 h9 tk9 F9 N9; (try dsimp only); (try k_fold)))
local macro_rules | `(tactic| walk_at "call ref") => `(tactic| (k_here; k_dflt (refine' Gives.use (decoded_gives _ _ _ (padded _) ?p1 ?p2 _ _ _ _ _ ?p3 ?p4 ?p5) ?k1 ?k2 ?k3 ?k4 ?k5 ?kK ?kd ?ku ?_); (case p3 => assumption); (case p1 => first | assumption | (rw [← padded_none (by assumption)]; assumption)); (case p2 => assumption); (case p4 => assumption); (case p5 => assumption); (case k1 => k_asm); (case k2 => k_asm); (case k3 => k_asm); (case k4 => k_asm); (case k5 => k_asm); (case kK => first | exact rfl | assumption); (case kd => ktr_room); (case ku => ktr_units); intro t9 h9 tk9 F9 N9; (try dsimp only); (try k_fold)))
theorem decode_str (w : World) (x : Str) (t0 : Tok) (hx : ∀ c ∈ x.cps.toList, Str.isSurrogate c = false) (hsz : (encU x).size ≤ sizeLine) (ks : List Int) (hks : KBw.bInts (encU x) = ks) (hb : ks.length ≤ 2000) (hbp : (padded ks).length ≤ 3000) (found : List Int) (place left pads many : Int)
   (hr : (padded ks).foldl dstep ([], 0, 0, 0, 0) = (found, place, left, pads, many)) (h1 : place ≠ 1) (h2 : ¬ (place ≠ 0 ∧ place + pads < 4)) : Gives w 3 28 [.str x t0] (fun t => .bytes (byteArr found) t) := by
  intro mean mg mb news dp un gd cn cs a ccd cl outer A₀ base h₀ L m s Q E B F X N T hk hdp hun hret
  refine wpAny_call ?_
  k_dflt cell_enter
  k_steps
  all_goals (refine' gv_retB hret ?e1 ?e2 ?e3; (case e2 => k_asm); (case e3 => first | k_asm | (refine' cb_drop ?cbN ?cbS; (case cbN => assumption); (case cbS => kcj_all))); (case e1 => rfl))
theorem decode_bytes (w : World) (x : Array UInt8) (t0 : Tok) (ks : List Int) (hks : KBw.bInts x = ks) (hb : ks.length ≤ 2000) (hbp : (padded ks).length ≤ 3000) (found : List Int) (place left pads many : Int)
   (hr : (padded ks).foldl dstep ([], 0, 0, 0, 0) = (found, place, left, pads, many)) (h1 : place ≠ 1) (h2 : ¬ (place ≠ 0 ∧ place + pads < 4)) : Gives w 3 28 [.bytes x t0] (fun t => .bytes (byteArr found) t) := by
  intro mean mg mb news dp un gd cn cs a ccd cl outer A₀ base h₀ L m s Q E B F X N T hk hdp hun hret
  refine wpAny_call ?_
  k_dflt cell_enter
  k_steps
  all_goals (refine' gv_retB hret ?e1 ?e2 ?e3; (case e2 => k_asm); (case e3 => first | k_asm | (refine' cb_drop ?cbN ?cbS; (case cbN => assumption); (case cbS => kcj_all))); (case e1 => rfl))
local macro_rules | `(tactic| walk_at "call ref") => `(tactic| (k_here; k_dflt (refine' Raises.use (decoded_raises _ _ _ (padded _) ?p1 ?p2 _ _ _ _ _ ?p3 ?p4) ?k1 ?k2 ?k3 ?k4 ?k5 ?kK ?kd ?ku ?_); (case p3 => assumption); (case p1 => first | assumption | (rw [← padded_none (by assumption)]; assumption)); (case p2 => assumption); (case p4 => assumption); (case k1 => k_asm); (case k2 => k_asm); (case k3 => k_asm); (case k4 => k_asm); (case k5 => k_asm); (case kK => first | exact rfl | assumption); (case kd => ktr_room); (case ku => ktr_units); intro e9 t9 as9 G9 h9 tk9 _ FG9 R9 U9; (try dsimp only)))
theorem decode_str_raises (w : World) (x : Str) (t0 : Tok) (hx : ∀ c ∈ x.cps.toList, Str.isSurrogate c = false) (hsz : (encU x).size ≤ sizeLine) (ks : List Int) (hks : KBw.bInts (encU x) = ks) (hb : ks.length ≤ 2000) (hbp : (padded ks).length ≤ 3000) (found : List Int) (place left pads many : Int)
   (hr : (padded ks).foldl dstep ([], 0, 0, 0, 0) = (found, place, left, pads, many)) (h1 : place = 1) : Raises w 3 28 [.str x t0] "ValueError" (fun _ => True) := by
  intro mean mg mb news dp un gd cn cs a ccd cl outer A₀ base h₀ L m s Q E B F X N T hk hdp hun hret
  refine wpAny_call ?_
  k_dflt cell_enter
  k_steps
  all_goals (refine' hret _ _ _ _ _ _ trivial ?a ?b ?c; (case c => assumption); (case b => assumption); (case a => assumption))
end Mine
end

theorem Mine.offTK : True := by w_top off; trivial

section
open PySem PySem.W PyProof.Rows
namespace Mine
set_option maxRecDepth 100000
set_option maxHeartbeats 8000000
local macro_rules | `(tactic| k_all) => `(tactic| assumption)
theorem fmod_in (x : Int) {M : Int} (h : 0 < M) : 0 ≤ x.fmod M ∧ x.fmod M < M := by
  rw [Int.fmod_eq_emod_of_nonneg _ (Int.le_of_lt h)]
  exact ⟨Int.emod_nonneg _ (by omega), Int.emod_lt_of_pos _ h⟩
theorem fdiv_in {x M : Int} (h0 : 0 ≤ x) (h : 0 < M) : 0 ≤ x.fdiv M ∧ x.fdiv M ≤ x := by
  rw [Int.fdiv_eq_ediv_of_nonneg _ (Int.le_of_lt h)]
  exact ⟨Int.ediv_nonneg h0 (Int.le_of_lt h), Int.ediv_le_self _ h0⟩
/-- the drawer: the script, a place, a rest -/
abbrev drawer (sc : Addr) (p : Int) (tp : Tok) (q : Int) (tq : Tok) (n : Nat) : Obj := listOf [Value.ref sc, Value.int p tp, Value.int q tq].toArray n
theorem take_gives (w : World) (M : Int) (tM : Tok) (hM0 : 0 < M) (hM1 : M ≤ 256) (sc c : Addr) (vs : List Value) (ns : List Int) (p q : Int) (tp tq : Tok) (n : Nat) (rest : List (Addr × Obj))
    (hp0 : 0 ≤ p) (hp1 : p ≤ 1000) (hq0 : 0 ≤ q) (hq1 : q < 999983)
    (mean : ExcName → Option Value) (mg mb : Str → Option Value) (dp un : Nat) (gd : Option (List Code)) (cn : Str) (cs : Scope) (a : Addr) (ccd : Value) (cl : List (Str × Addr)) (outer : List Env) (A₀ : Around) (base h₀ : Heap) (L : Addr) (m : Str → Option Value) (s : Shared) (Q E : Value → Shared → Prop)
    (hl : base.IsList sc vs.toArray) (hi : IntsAre vs ns) (hns : ns.length ≤ 63)
    (B : Below A₀ base outer h₀) (F : Fr h₀ L s.heap m) (X : (hd.heap_39 w.params).In h₀) (N : News h₀ L s.heap ((c, drawer sc p tp q tq n) :: rest)) (off : ∀ r ∈ rest, r.1 ≠ c) (T : Top hd.view_39 (looseW hd.view_39 []) mean mg mb h₀) (hk : cs.kind = .function)
    (hdp : dp + 1 < recursionLimit) (hun : un + 20 < cLine)
    (hret : ∀ (d p' q' : Int) (t tp' tq' : Tok) (n' : Nat) (h' : Heap) (tk' : Nat), 0 ≤ d → d < M → 0 ≤ p' → p' ≤ p + 1 → 0 ≤ q' → q' < 999983 → Fr h₀ L h' m → News h₀ L h' ((c, drawer sc p' tp' q' tq' n') :: rest) → Q (.int d t) { s with heap := h', toks := tk' }) :
    wpAny (model PySem.Challenge.rw_ff0010_01.row.prog w) (ktrTop dp un gd cn cs L a ccd cl outer) (call (.ref 63) [.ref c, .int M tM]) Q E s := by
  refine wpAny_call ?_
  k_dflt cell_enter
  k_steps
  all_goals (refine' hret _ _ _ _ _ _ _ _ _ ?a ?b ?c ?d ?e ?f ?g ?h; (case h => k_asm); (case g => k_asm); (case a => exact (fmod_in _ hM0).1); (case b => exact (fmod_in _ hM0).2); (case c => omega); (case d => omega); (case e => first | exact (fdiv_in (fmod_in _ (by decide)).1 hM0).1 | exact (fdiv_in (by omega) hM0).1); (case f => first | exact Int.lt_of_le_of_lt (fdiv_in (fmod_in _ (by decide)).1 hM0).2 (fmod_in _ (by decide)).2 | exact Int.lt_of_le_of_lt (fdiv_in (by omega) hM0).2 (by omega)))
theorem upd_mem {d : Addr} {o o' : Obj} : ∀ {l l' : List (Addr × Obj)}, Upd d o o' l l' → (d, o) ∈ l ∧ ∀ p ∈ l', p = (d, o') ∨ (p ∈ l ∧ p.1 ≠ d)
  | _, _, .head h => ⟨.head _, fun p hp => by
    rcases List.mem_cons.mp hp with rfl | hp
    · exact .inl rfl
    · exact .inr ⟨.tail _ hp, h p hp⟩⟩
  | _, _, .tail (p := q) h r => by
    obtain ⟨h1, h2⟩ := upd_mem r
    refine ⟨.tail _ h1, fun p hp => ?_⟩
    rcases List.mem_cons.mp hp with rfl | hp
    · exact .inr ⟨.head _, h⟩
    · exact (h2 p hp).imp id fun z => ⟨.tail _ z.1, z.2⟩
theorem take_law {w : World} {M : Int} {tM : Tok} (hM0 : 0 < M) (hM1 : M ≤ 256) {sc c : Addr} {vs : List Value} {ns : List Int} {p q : Int} {tp tq : Tok} {n : Nat} {all : List (Addr × Obj)} {all' : Obj → List (Addr × Obj)}
    {mean : ExcName → Option Value} {mg mb : Str → Option Value} {dp un : Nat} {gd : Option (List Code)} {cn : Str} {cs : Scope} {a : Addr} {ccd : Value} {cl : List (Str × Addr)} {outer : List Env} {A₀ : Around} {base h₀ : Heap} {L : Addr} {m : Str → Option Value} {s : Shared} {Q E : Value → Shared → Prop}
    (hl : base.IsList sc vs.toArray) (hi : IntsAre vs ns) (hns : ns.length ≤ 63) (hp0 : 0 ≤ p) (hp1 : p ≤ 1000) (hq0 : 0 ≤ q) (hq1 : q < 999983)
    (B : Below A₀ base outer h₀) (F : Fr h₀ L s.heap m) (X : (hd.heap_39 w.params).In h₀) (N : News h₀ L s.heap all) (U : ∀ o', Upd c (drawer sc p tp q tq n) o' all (all' o')) (T : Top hd.view_39 (looseW hd.view_39 []) mean mg mb h₀) (hk : cs.kind = .function)
    (hdp : dp + 1 < recursionLimit) (hun : un + 20 < cLine)
    (hret : ∀ (d p' q' : Int) (t tp' tq' : Tok) (n' : Nat) (h' : Heap) (tk' : Nat), 0 ≤ d → d < M → 0 ≤ p' → p' ≤ p + 1 → 0 ≤ q' → q' < 999983 → Fr h₀ L h' m → News h₀ L h' (all' (drawer sc p' tp' q' tq' n')) → Q (.int d t) { s with heap := h', toks := tk' }) :
    wpAny (model PySem.Challenge.rw_ff0010_01.row.prog w) (ktrTop dp un gd cn cs L a ccd cl outer) (call (.ref 63) [.ref c, .int M tM]) Q E s := by
  refine take_gives w M tM hM0 hM1 sc c vs ns p q tp tq n (all.filter fun r => decide (r.1 ≠ c)) hp0 hp1 hq0 hq1 mean mg mb dp un gd cn cs a ccd cl outer A₀ base h₀ L m s Q E hl hi hns B F X ?_ ?_ T hk hdp hun ?_
  · intro r hr
    rcases List.mem_cons.mp hr with rfl | hr
    · exact N _ (upd_mem (U (drawer sc p tp q tq n))).1
    · exact N _ (List.mem_filter.mp hr).1
  · intro r hr
    exact of_decide_eq_true (List.mem_filter.mp hr).2
  · intro d p' q' t tp' tq' n' h' tk' h1 h2 h3 h4 h5 h6 F' N'
    refine hret d p' q' t tp' tq' n' h' tk' h1 h2 h3 h4 h5 h6 F' fun r hr => ?_
    rcases (upd_mem (U (drawer sc p' tp' q' tq' n'))).2 r hr with rfl | ⟨ha, hb⟩
    · exact N' _ (.head _)
    · exact N' _ (.tail _ (List.mem_filter.mpr ⟨ha, decide_eq_true hb⟩))
end Mine
end

theorem Mine.offCR : True := by w_top off; trivial

section
open PySem PySem.W PyProof.Rows PySem.Calls
namespace Mine
set_option maxRecDepth 100000
section
variable {prog : Program} {w : World} {A : Around} {h₀ : Heap} {L : Addr} {m : Str → Option Value} {env : Env} {elt : Expr} {x : Str} {scope : Scope} {cl : List (Str × Addr)} {s : Shared} {S : List (Addr × Obj) → Prop} {P : Nat → Value → Prop} {Fin : List Value → List (Addr × Obj) → Prop}
/-- a comprehension whose element stores: by what holds ahead of turn i -/
theorem comp_inv (J : Nat → List (Addr × Obj) → List Value → Prop) {n : Nat} {news : List (Addr × Obj)} (h0 : J 0 news [])
    (turn : ∀ (i : Nat) (ys : List Value) (nw : List (Addr × Obj)) v I oI C oC D m₂ h tk (E' : Value → Shared → Prop), i < n → J i nw ys → P i v → LCg.NsObj oC m₂ → m₂ x = some v → Fr h₀ L h m → News h₀ L h ((I, oI) :: (C, oC) :: (D, LCg.lst ys) :: nw) → LCg.Off3 I C D nw → ((@Ne Nat I C) ∧ (@Ne Nat I D) ∧ (@Ne Nat C D)) →
      wpAny (model prog w) A (eval elt (compEnvC scope cl C env)) (LCg.CompEnd h₀ L m { s with heap := h, toks := tk } I oI C oC D (LCg.lst ys) S (fun y nw' => J (i + 1) nw' (ys ++ [y]))) E' { s with heap := h, toks := tk })
    (fin : ∀ ys nw, J n nw ys → Fin ys nw) : LCg.CompRest prog w A h₀ L m env elt x scope cl s S P Fin n 0 [] news := by
  have key : ∀ (j i : Nat) (ys : List Value) (nw : List (Addr × Obj)), i + j = n → J i nw ys → LCg.CompRest prog w A h₀ L m env elt x scope cl s S P Fin j i ys nw := by
    intro j
    induction j with
    | zero =>
      intro i ys nw hi hJ
      have e : i = n := by omega
      subst e
      exact LCg.CompRest.zero (fin ys nw hJ)
    | succ j ih =>
      intro i ys nw hi hJ
      refine LCg.CompRest.succ fun v I oI C oC D m₂ h tk E' hP hC hx F N off ne => ?_
      refine wpAny_mono (turn i ys nw v I oI C oC D m₂ h tk E' (by omega) hJ hP hC hx F N off ne) (fun y s₂ hq => ?_) fun _ _ e => e
      obtain ⟨h', tk', nw', e, F', N', off', hS, hJ'⟩ := hq
      exact ⟨h', tk', nw', e, F', N', off', hS, ih (i + 1) _ _ (by omega) hJ'⟩
  exact key n 0 [] news (by omega) h0
end
/-- ahead of turn i of the octets' comprehension -/
def TakeJ (sc lC a1 : Addr) (oC : Obj) (i : Nat) (nw : List (Addr × Obj)) (ys : List Value) : Prop :=
  ∃ (p q : Int) (tp tq : Tok) (n : Nat) (os : List Int), nw = [(lC, drawer sc p tp q tq n), (a1, oC)] ∧ 0 ≤ p ∧ p ≤ 1 + (i : Int) ∧ 0 ≤ q ∧ q < 999983 ∧ IntsAre ys os ∧ os.length = i ∧ KBa.In os
theorem TakeJ.snoc {sc lC a1 : Addr} {oC : Obj} {i : Nat} {ys : List Value} {os : List Int} {p q d p0 : Int} {tp tq t : Tok} {n : Nat} (hos : IntsAre ys os) (hl : os.length = i) (hin : KBa.In os) (h1 : p0 ≤ 1 + (i : Int)) (h2 : 0 ≤ p) (h3 : p ≤ p0 + 1) (h4 : 0 ≤ q) (h5 : q < 999983) (h6 : 0 ≤ d) (h7 : d < 256) :
    TakeJ sc lC a1 oC (i + 1) [(lC, drawer sc p tp q tq n), (a1, oC)] (ys ++ [.int d t]) :=
  ⟨p, q, tp, tq, n, os ++ [d], rfl, h2, by omega, h4, h5, IntsAre.append hos (.cons _ _ .nil), by simp [hl], in_snoc hin ⟨h6, h7⟩⟩
end Mine
end

theorem Mine.offMT : True := by w_top off; trivial

section
open PySem PySem.W PyProof.Rows
namespace Mine
set_option maxRecDepth 100000
/-- no run hands marks back -/
theorem runs_toks {M : Model} {Γ : Ctx} {p : Pos} {t : Sem Fin} {fs : List Frame} {s : Shared} {e : End} {s' : Shared} (h : Runs M Γ p t fs s e s') : s.toks ≤ s'.toks := by
  induction h <;> (try simp only [Shared.setGen] at *) <;> omega
theorem wakes_toks {M : Model} {Γ : Ctx} {p : Pos} {g : Nat} {r : Resume} {s : Shared} {res : GenResult} {s' : Shared} (h : Wakes M Γ p g r s res s') : s.toks ≤ s'.toks := by
  unfold Wakes at h
  split at h
  · exact h.elim
  · split at h
    · obtain ⟨e₁, s₁, hr, _, _, rfl⟩ := h
      have := runs_toks hr
      simp only [Shared.setGen] at *; omega
    · obtain ⟨_, rfl⟩ := h; omega
    · obtain ⟨_, rfl⟩ := h; simp only [Shared.setGen]; omega
  · obtain ⟨e₁, s₁, hr, _, _, rfl⟩ := h
    have := runs_toks hr
    simp only [Shared.setGen] at *; omega
  · obtain ⟨_, rfl⟩ := h; omega
  · obtain ⟨_, rfl⟩ := h; omega
theorem wp_toks {α : Type} (M : Model) (Γ : Ctx) (t : Sem α) : ∀ (Q : α → Pos → Shared → Prop) (E : Value → Pos → Shared → Prop) (p : Pos) (s : Shared) (n : Nat), n ≤ s.toks → Sem.wp M Γ t Q E p s →
    Sem.wp M Γ t (fun a p' s' => Q a p' s' ∧ n ≤ s'.toks) (fun e p' s' => E e p' s' ∧ n ≤ s'.toks) p s := by
  induction t with
  | pure a => intro Q E p s n hn h; rw [Sem.wp] at *; exact ⟨h, hn⟩
  | raise e => intro Q E p s n hn h; rw [Sem.wp] at *; exact ⟨h, hn⟩
  | unsupported w => intro Q E p s n hn h; rw [Sem.wp] at *; exact h
  | finish e => intro Q E p s n hn h; rw [Sem.wp] at *; exact h
  | rule t k ih => intro Q E p s n hn h; rw [Sem.wp] at *; exact ih _ _ _ _ _ _ hn h
  | «at» p' k ih => intro Q E p s n hn h; rw [Sem.wp] at *; exact ih _ _ _ _ _ _ hn h
  | load a part k ih => intro Q E p s n hn h; rw [Sem.wp] at *; obtain ⟨o, ho, h⟩ := h; exact ⟨o, ho, ih _ _ _ _ _ _ hn h⟩
  | update a part f k ih => intro Q E p s n hn h; rw [Sem.wp] at *; exact ⟨h.1, ih _ _ _ _ _ _ hn h.2⟩
  | alloc o k ih => intro Q E p s n hn h; rw [Sem.wp] at *; exact ih _ _ _ _ _ _ hn h
  | register a k ih => intro Q E p s n hn h; rw [Sem.wp] at *; exact h
  | loadIfAlive a k ih => intro Q E p s n hn h; rw [Sem.wp] at *; exact ih _ _ _ _ _ _ hn h
  | point l k ih => intro Q E p s n hn h; rw [Sem.wp] at *; exact ih _ _ _ _ _ _ hn h
  | fresh k ih => intro Q E p s n hn h; rw [Sem.wp] at *; exact ih _ _ _ _ _ _ (Nat.le_succ_of_le hn) h
  | ask k ih => intro Q E p s n hn h; rw [Sem.wp] at *; exact ih _ _ _ _ _ _ hn h
  | choose src m k ih => intro Q E p s n hn h; rw [Sem.wp] at *; exact ⟨h.1, ih _ _ _ _ _ _ hn h.2⟩
  | os q l k ih => intro Q E p s n hn h; rw [Sem.wp] at *; exact ih _ _ _ _ _ _ hn h
  | call c hd g l k ih =>
    intro Q E p s n hn h; rw [Sem.wp] at *
    obtain ⟨r, s', hr, h⟩ := h
    exact ⟨r, s', hr, ih _ _ _ _ _ _ (Nat.le_trans hn (runs_toks hr)) h⟩
  | handled own k ih => intro Q E p s n hn h; rw [Sem.wp] at *; exact ih _ _ _ _ _ _ hn h
  | newGen c k ih => intro Q E p s n hn h; rw [Sem.wp] at *; exact ih _ _ _ _ _ _ hn h
  | genState g k ih => intro Q E p s n hn h; rw [Sem.wp] at *; obtain ⟨st, hs, h⟩ := h; exact ⟨st, hs, ih _ _ _ _ _ _ hn h⟩
  | resume g r l k ih =>
    intro Q E p s n hn h; rw [Sem.wp] at *
    obtain ⟨res, s', hr, h⟩ := h
    exact ⟨res, s', hr, ih _ _ _ _ _ _ (Nat.le_trans hn (wakes_toks hr)) h⟩
  | yield v g l k ih => intro Q E p s n hn h; rw [Sem.wp] at *; exact h
  | stack k ih => intro Q E p s n hn h; rw [Sem.wp] at *; exact ih _ _ _ _ _ _ hn h
  | fork c k ih => intro Q E p s n hn h; rw [Sem.wp] at *; exact h
  | thread k ih => intro Q E p s n hn h; rw [Sem.wp] at *; exact ih _ _ _ _ _ _ hn h
  | await a t d l k ih => intro Q E p s n hn h; rw [Sem.wp] at *; exact h
theorem wpAny_toks {α : Type} {M : Model} {A : Around} {t : Sem α} {Q : α → Shared → Prop} {E : Value → Shared → Prop} {s : Shared} (h : wpAny M A t Q E s) :
    wpAny M A t (fun a s' => Q a s' ∧ s.toks ≤ s'.toks) (fun e s' => E e s' ∧ s.toks ≤ s'.toks) s :=
  fun Γ p hΓ => wp_toks M Γ t _ _ p s s.toks (Nat.le_refl _) (h Γ p hΓ)
/-- the same, by what a step asks: what comes behind may lean on the marks -/
theorem wpAny_withToks {α : Type} {M : Model} {A : Around} {t : Sem α} {Q : α → Shared → Prop} {E : Value → Shared → Prop} {s : Shared} (h : wpAny M A t (fun a s' => s.toks ≤ s'.toks → Q a s') E s) : wpAny M A t Q E s :=
  wpAny_mono (wpAny_toks h) (fun _ _ x => x.1 x.2) fun _ _ x => x.1
end Mine
end

theorem Mine.offPL : True := by w_top off; trivial

section
open PySem PySem.W PyProof.Rows
namespace Mine
set_option maxRecDepth 100000

/-- a way of writing sixes as signs that the reader takes back -/
def Signs (f : Int → Int) : Prop := ∀ d : Int, 0 ≤ d → d < 64 → f d ≠ 61 ∧ sixOf (f d) = d

theorem step0 {f : Int → Int} (hf : Signs f) {fd : List Int} {lf pd mn d : Int} (h0 : 0 ≤ d) (h1 : d < 64) : dstep (fd, 0, lf, pd, mn) (f d) = (fd, 1, d, 0, mn + 1) := by
  obtain ⟨a, b⟩ := hf d h0 h1
  simp only [dstep, if_neg a, b]
  rw [if_neg (by omega), if_pos trivial]
theorem step1 {f : Int → Int} (hf : Signs f) {fd : List Int} {lf pd mn d : Int} (h0 : 0 ≤ d) (h1 : d < 64) : dstep (fd, 1, lf, pd, mn) (f d) = (fd ++ [lf * 4 + d / 16], 2, d % 16, 0, mn + 1) := by
  obtain ⟨a, b⟩ := hf d h0 h1
  simp only [dstep, if_neg a, b]
  rw [if_neg (by omega), if_neg (by decide), if_pos trivial]
theorem step2 {f : Int → Int} (hf : Signs f) {fd : List Int} {lf pd mn d : Int} (h0 : 0 ≤ d) (h1 : d < 64) : dstep (fd, 2, lf, pd, mn) (f d) = (fd ++ [lf * 16 + d / 4], 3, d % 4, 0, mn + 1) := by
  obtain ⟨a, b⟩ := hf d h0 h1
  simp only [dstep, if_neg a, b]
  rw [if_neg (by omega), if_neg (by decide), if_neg (by decide), if_pos trivial]
theorem step3 {f : Int → Int} (hf : Signs f) {fd : List Int} {lf pd mn d : Int} (h0 : 0 ≤ d) (h1 : d < 64) : dstep (fd, 3, lf, pd, mn) (f d) = (fd ++ [lf * 64 + d], 0, lf, 0, mn + 1) := by
  obtain ⟨a, b⟩ := hf d h0 h1
  simp only [dstep, if_neg a, b]
  rw [if_neg (by omega), if_neg (by decide), if_neg (by decide), if_neg (by decide)]
theorem fold_codes {f : Int → Int} (hf : Signs f) : ∀ (os : List Int), KBa.In os → ∀ (fd : List Int) (lf mn : Int), ∃ lf' mn' : Int,
    ((sx os).map f).foldl dstep (fd, 0, lf, 0, mn) = (fd ++ os, (((sx os).length % 4 : Nat) : Int), lf', 0, mn')
  | [], _, fd, lf, mn => ⟨lf, mn, by simp [sx]⟩
  | [x], hin, fd, lf, mn => by
    have hx := hin x (by simp)
    refine ⟨x % 4 * 16 % 16, mn + 1 + 1, ?_⟩
    simp only [sx, List.map_cons, List.map_nil, List.foldl_cons, List.foldl_nil]
    rw [step0 hf (by omega) (by omega), step1 hf (by omega) (by omega)]
    rw [show x / 4 * 4 + x % 4 * 16 / 16 = x by omega]
    rfl
  | [x, y], hin, fd, lf, mn => by
    have hx := hin x (by simp)
    have hy := hin y (by simp)
    refine ⟨y % 16 * 4 % 4, mn + 1 + 1 + 1, ?_⟩
    simp only [sx, List.map_cons, List.map_nil, List.foldl_cons, List.foldl_nil]
    rw [step0 hf (by omega) (by omega), step1 hf (by omega) (by omega), step2 hf (by omega) (by omega)]
    rw [show x / 4 * 4 + (x % 4 * 16 + y / 16) / 16 = x by omega, show (x % 4 * 16 + y / 16) % 16 * 16 + y % 16 * 4 / 4 = y by omega]
    simp
  | x :: y :: z :: r, hin, fd, lf, mn => by
    have hx := hin x (by simp)
    have hy := hin y (by simp)
    have hz := hin z (by simp)
    have hr : KBa.In r := fun n hn => hin n (by simp [hn])
    obtain ⟨lf', mn', ih⟩ := fold_codes hf r hr (fd ++ [x] ++ [y] ++ [z]) ((y % 16 * 4 + z / 64) % 4) (mn + 1 + 1 + 1 + 1)
    refine ⟨lf', mn', ?_⟩
    simp only [sx, List.map_cons, List.foldl_cons]
    rw [step0 hf (by omega) (by omega), step1 hf (by omega) (by omega), step2 hf (by omega) (by omega), step3 hf (by omega) (by omega)]
    rw [show x / 4 * 4 + (x % 4 * 16 + y / 16) / 16 = x by omega, show (x % 4 * 16 + y / 16) % 16 * 16 + (y % 16 * 4 + z / 64) / 4 = y by omega, show (y % 16 * 4 + z / 64) % 4 * 64 + z % 64 = z by omega]
    rw [ih]
    simp only [List.append_assoc, List.cons_append, List.nil_append, List.length_cons]
    congr 3
    omega
theorem fold_pads {fd : List Int} {pl lf mn : Int} : ∀ (j : Nat) (pd : Int), (List.replicate j (61 : Int)).foldl dstep (fd, pl, lf, pd, mn) = (fd, pl, lf, pd + (j : Int), mn)
  | 0, pd => by simp
  | j + 1, pd => by
    rw [List.replicate_succ, List.foldl_cons]
    have e : dstep (fd, pl, lf, pd, mn) 61 = (fd, pl, lf, pd + 1, mn) := by simp only [dstep, if_true]
    rw [e, fold_pads j (pd + 1)]
    congr 4
    omega
/-- what is read back, with j pads, where there are none or they fill up -/
theorem read_back {f : Int → Int} (hf : Signs f) {os : List Int} (hin : KBa.In os) {j : Nat} (hj : j = 0 ∨ ((sx os).length + j) % 4 = 0) :
    ∃ pl lf pd mn : Int, (padded ((sx os).map f ++ List.replicate j 61)).foldl dstep ([], 0, 0, 0, 0) = (os, pl, lf, pd, mn) ∧ pl ≠ 1 ∧ ¬ (pl ≠ 0 ∧ pl + pd < 4) := by
  obtain ⟨lf', mn', h⟩ := fold_codes hf os hin [] 0 0
  have hl := sx_length os
  refine ⟨(((sx os).length % 4 : Nat) : Int), lf', ((j + (4 - ((sx os).length + j) % 4) % 4 : Nat) : Int), mn', ?_, ?_, ?_⟩
  · unfold padded
    rw [List.foldl_append, List.foldl_append, h, fold_pads, fold_pads]
    simp only [List.length_append, List.length_map, List.length_replicate, List.nil_append]
    congr 4
    omega
  · omega
  · omega
/-- one sign too many -/
theorem read_wrong {f : Int → Int} (hf : Signs f) {os : List Int} (hin : KBa.In os) {n : Nat} (h3 : os.length = 3 * n) :
    ∃ fd : List Int, ∃ lf pd mn : Int, (padded ((sx os).map f ++ [65])).foldl dstep ([], 0, 0, 0, 0) = (fd, 1, lf, pd, mn) := by
  obtain ⟨lf', mn', h⟩ := fold_codes hf os hin [] 0 0
  have hl := sx_length os
  have hz : (sx os).length % 4 = 0 := by omega
  rw [hz] at h
  unfold padded
  rw [List.foldl_append, List.foldl_append, h]
  have e : ([65] : List Int).foldl dstep ([] ++ os, ((0 : Nat) : Int), lf', 0, mn') = ([] ++ os, 1, 0, 0, mn' + 1) := rfl
  rw [e, fold_pads]
  exact ⟨_, _, _, _, rfl⟩
end Mine
end

theorem Mine.offPM : True := by w_top off; trivial

section
open PySem PySem.W PyProof.Rows PySem.Calls
namespace Mine
set_option maxRecDepth 100000

theorem signs_all : ∀ i : Nat, i < 64 → (((alpha.getD i 0 : Nat) : Int) ≠ 61 ∧ sixOf ((alpha.getD i 0 : Nat) : Int) = (i : Int)) := by decide +kernel
theorem signs_one : Signs fun d => (codeOf d : Int) := fun d h0 h1 => by
  have h := signs_all d.toNat (by omega)
  have e : ((d.toNat : Nat) : Int) = d := by omega
  rw [e] at h
  exact h
/-- the other alphabet -/
def code2 (d : Int) : Nat := if codeOf d = 45 then 43 else if codeOf d = 95 then 47 else codeOf d
theorem signs_all2 : ∀ i : Nat, i < 64 → (((if alpha.getD i 0 = 45 then 43 else if alpha.getD i 0 = 95 then 47 else alpha.getD i 0 : Nat) : Int) ≠ 61 ∧ sixOf ((if alpha.getD i 0 = 45 then 43 else if alpha.getD i 0 = 95 then 47 else alpha.getD i 0 : Nat) : Int) = (i : Int)) := by decide +kernel
theorem signs_two : Signs fun d => (code2 d : Int) := fun d h0 h1 => by
  have h := signs_all2 d.toNat (by omega)
  have e : ((d.toNat : Nat) : Int) = d := by omega
  rw [e] at h
  exact h
theorem code2_lt (d : Int) : code2 d < 128 := by
  have := codeOf_lt d
  unfold code2
  (repeat' split) <;> omega

/-- a text of small signs -/
def asc (cs : List Nat) : Str := ⟨cs.toArray⟩
theorem asc_clean {cs : List Nat} (h : ∀ c ∈ cs, c < 128) : ∀ c ∈ (asc cs).cps.toList, Str.isSurrogate c = false := fun c hc => by
  have := h c hc
  unfold Str.isSurrogate
  simp only [Bool.and_eq_false_iff, decide_eq_false_iff_not]
  omega
theorem asc_foldl (cs : List Nat) (h : ∀ c ∈ cs, c < 128) : ∀ acc : Array UInt8, cs.foldl (fun acc y => acc ++ (Str.utf8Of y).toArray) acc = acc ++ (cs.map Nat.toUInt8).toArray := by
  induction cs with
  | nil => intro acc; simp
  | cons c r ih =>
    intro acc
    have hc : c < 128 := h c (by simp)
    have e : Str.utf8Of c = [c.toUInt8] := by unfold Str.utf8Of; rw [if_pos hc]
    rw [List.foldl_cons, ih (fun d hd => h d (by simp [hd])), e]
    simp
theorem encU_asc {cs : List Nat} (h : ∀ c ∈ cs, c < 128) : encU (asc cs) = byteArr (cs.map fun c : Nat => (c : Int)) := by
  unfold encU asc byteArr
  rw [List.foldl_toArray, asc_foldl cs h]
  simp only [List.map_map]
  rw [Array.empty_append]
  congr 1
theorem ints_asc {cs : List Nat} (h : ∀ c ∈ cs, c < 128) : KBw.bInts (encU (asc cs)) = cs.map fun c : Nat => (c : Int) := by
  rw [encU_asc h]
  refine KBa.ints_make fun n hn => ?_
  obtain ⟨c, hc, rfl⟩ := List.mem_map.mp hn
  have := h c hc
  omega
theorem encU_size {cs : List Nat} (h : ∀ c ∈ cs, c < 128) : (encU (asc cs)).size = cs.length := by
  rw [← KBw.ints_length, ints_asc h, List.length_map]
theorem textOf_asc (os : List Int) : textOf os = asc ((sx os).map codeOf) := rfl
theorem codes_lt (ds : List Int) : ∀ c ∈ ds.map codeOf, c < 128 := fun c hc => by
  obtain ⟨d, _, rfl⟩ := List.mem_map.mp hc
  exact codeOf_lt d

/-- one sign put in the place of another -/
def swap (c d : Nat) (l : List Nat) : List Nat := l.map fun k => if k = c then d else k
theorem swap_free {c d : Nat} {l : List Nat} (h : c ∉ l) : swap c d l = l := by
  unfold swap
  rw [List.map_congr_left (g := _root_.id) (fun k hk => by
    have : k ≠ c := fun e => h (e ▸ hk)
    simp [this]), List.map_id]
theorem swap_join (c d : Nat) : ∀ parts : List Str, (∀ p ∈ parts, c ∉ p.cps.toList) → swap c d (Str.join ⟨#[c]⟩ parts).cps.toList = (Str.join ⟨#[d]⟩ parts).cps.toList
  | [], _ => rfl
  | [p], h => swap_free (h p (List.mem_singleton.mpr rfl))
  | p :: q :: r, h => by
    have ih := swap_join c d (q :: r) fun a ha => h a (List.mem_cons_of_mem _ ha)
    show swap c d (p ++ ⟨#[c]⟩ ++ Str.join ⟨#[c]⟩ (q :: r)).cps.toList = (p ++ ⟨#[d]⟩ ++ Str.join ⟨#[d]⟩ (q :: r)).cps.toList
    simp only [Str.cps_append, Array.toList_append]
    have e : ∀ a b, swap c d (a ++ b) = swap c d a ++ swap c d b := fun a b => List.map_append
    rw [e, e, ih, swap_free (h p (List.mem_cons_self ..))]
    have e1 : swap c d [c] = [d] := by simp [swap]
    show p.cps.toList ++ swap c d [c] ++ _ = _
    rw [e1]
theorem replace_swap (cs : List Nat) (c d : Nat) : Txt.replace (asc cs) ⟨#[c]⟩ ⟨#[d]⟩ = asc (swap c d cs) := by
  apply Str.ext'
  apply Array.toList_inj.mp
  rw [StrLaws.replace_one, ← swap_join c d _ (StrLaws.split_free (asc cs) c), StrLaws.join_split]
  rfl
section
variable {prog : Program} {w : World} {A : Around} {E : Value → Shared → Prop} {s : Shared} {t u v : Tok} {Q : Value → Shared → Prop}
theorem replace1 {cs : List Nat} {c d : Nat} {y z : Str} (hy : y = ⟨#[c]⟩) (hz : z = ⟨#[d]⟩) (hu : u ≠ 0) (hv : v ≠ 0) (huv : u ≠ v) (hcd : c ≠ d) (hl : cs.length ≤ 2000) (hq : ∀ t' k, s.toks ≤ k → Q (.str (asc (swap c d cs)) t') { s with toks := k }) :
    wpAny (model prog w) A (call (.builtin "str.replace") [.str (asc cs) t, .str y u, .str z v]) Q E s := by
  subst hy hz
  refine wpAny_withToks (SC.replaceW hu hv huv ?_ ?_ ?_ ?_)
  · have : (⟨#[c]⟩ : Str) ≠ ⟨#[d]⟩ := fun e => hcd (by injection e with e; simpa using e)
    exact beq_false_of_ne this
  · show cs.toArray.size ≤ _
    rw [List.size_toArray]; omega
  · show (1 : Nat) ≤ 14
    omega
  · intro t' k hk
    rw [replace_swap]
    exact hq t' k hk
end
/-- the text by the other alphabet -/
def text2 (os : List Int) : List Nat := (sx os).map code2
theorem swap_twice (os : List Int) : swap 95 47 (swap 45 43 ((sx os).map codeOf)) = text2 os := by
  unfold swap text2
  rw [List.map_map, List.map_map]
  refine List.map_congr_left fun d _ => ?_
  simp only [Function.comp, code2]
  by_cases h : codeOf d = 45
  · rw [if_pos h, if_pos h]; rfl
  · rw [if_neg h, if_neg h]
theorem text2_lt (os : List Int) : ∀ c ∈ text2 os, c < 128 := fun c hc => by
  obtain ⟨d, _, rfl⟩ := List.mem_map.mp hc
  exact code2_lt d
/-- with pads behind -/
def other (os : List Int) (j : Nat) : List Nat := text2 os ++ List.replicate j 61
theorem other_lt (os : List Int) (j : Nat) : ∀ c ∈ other os j, c < 128 := fun c hc => by
  rcases List.mem_append.mp hc with h | h
  · exact text2_lt os c h
  · rw [(List.mem_replicate.mp h).2]; omega
theorem other_ints (os : List Int) (j : Nat) : ((other os j).map fun c : Nat => (c : Int)) = (sx os).map (fun d => (code2 d : Int)) ++ List.replicate j 61 := by
  unfold other text2
  rw [List.map_append, List.map_map, List.map_replicate]
  rfl
theorem other_length (os : List Int) (j : Nat) : (other os j).length = (4 * os.length + 2) / 3 + j := by
  unfold other text2
  rw [List.length_append, List.length_map, List.length_replicate, sx_length]
section
variable {prog : Program} {w : World} {A : Around} {E : Value → Shared → Prop} {s : Shared} {t u : Tok} {Q : Value → Shared → Prop}
/-- x.encode('utf-8') of a text of small signs -/
theorem encodeA {x : Str} {cs : List Nat} (hx : x = asc cs) (h7 : ∀ c ∈ cs, c < 128) (hl : cs.length ≤ 3000) (h : ∀ t' k, s.toks < k → Q (.bytes (byteArr (cs.map fun c : Nat => (c : Int))) t') { s with toks := k }) :
    wpAny (model prog w) A (call (.builtin "str.encode") [.str x t, .str (Str.ofString "utf-8") u]) Q E s := by
  subst hx
  have hsz : (encU (asc cs)).size ≤ sizeLine := by rw [encU_size h7, sizeLine_eq]; omega
  refine call_meets (S := fun _ R s => ∀ t' k, s.toks < k → R (.ok (.ret (.bytes (byteArr (cs.map fun c : Nat => (c : Int))) t'))) { s with toks := k }) F.slot_str_encode (typeIs_str _ _ _) F.entry_str_encode (F.args_str_encode_2 _ _) (.of_wp fun prog w A R s hS => ?_) h
  rw [encode_entry, PySem.encodeRoad_utf8, narrow_clean (asc_clean h7) hsz]
  refine wpAny_bind (wpAny_bind (wpAny_pure (wpAny_mkBytes (wpAny_pure ⟨_, rfl, ?_⟩) hsz)))
  rw [encU_asc h7]
  exact hS _ _ (Nat.lt_succ_self _)
theorem encodeT {os : List Int} (hl : os.length ≤ 1000) (h : ∀ t' k, s.toks < k → Q (.bytes (byteArr ((sx os).map fun d => (codeOf d : Int))) t') { s with toks := k }) :
    wpAny (model prog w) A (call (.builtin "str.encode") [.str (textOf os) t, .str (Str.ofString "utf-8") u]) Q E s := by
  refine encodeA (textOf_asc os) (codes_lt _) (by rw [List.length_map, sx_length]; omega) fun t' k hk => ?_
  rw [List.map_map]
  exact h t' k hk
theorem encodeO {os : List Int} {j : Nat} (hl : os.length ≤ 1000) (hj : j ≤ 3) (h : ∀ t' k, s.toks < k → Q (.bytes (byteArr ((other os j).map fun c : Nat => (c : Int))) t') { s with toks := k }) :
    wpAny (model prog w) A (call (.builtin "str.encode") [.str (asc (other os j)) t, .str (Str.ofString "utf-8") u]) Q E s :=
  encodeA rfl (other_lt _ _) (by rw [other_length]; omega) h
end
end Mine
end

theorem Mine.offPN : True := by w_top off; trivial

section
open PySem PySem.W PyProof.Rows PySem.Calls
namespace Mine
set_option maxRecDepth 100000
theorem Gives.useT {w : World} {n : Nat} {f : Addr} {vs : List Value} {R : Tok → Value} (H : Gives w n f vs R) {mean : ExcName → Option Value} {mg mb : Str → Option Value} {news : List (Addr × Obj)} {dp un : Nat} {gd : Option (List Code)} {cn : Str} {cs : Scope} {a : Addr} {ccd : Value} {cl : List (Str × Addr)} {outer : List Env} {A₀ : Around} {base h₀ : Heap} {L : Addr} {m : Str → Option Value} {s : Shared} {Q E : Value → Shared → Prop}
    (B : Below A₀ base outer h₀) (F : Fr h₀ L s.heap m) (X : (hd.heap_39 w.params).In h₀) (N : News h₀ L s.heap news) (T : Top hd.view_39 (looseW hd.view_39 []) mean mg mb h₀) (hk : cs.kind = .function)
    (hdp : dp + n < recursionLimit) (hun : un + 20 * n < cLine)
    (hret : ∀ (t : Tok) (h' : Heap) (tk' : Nat), s.toks ≤ tk' → Fr h₀ L h' m → News h₀ L h' news → Q (R t) { s with heap := h', toks := tk' }) :
    wpAny (model PySem.Challenge.rw_ff0010_01.row.prog w) (ktrTop dp un gd cn cs L a ccd cl outer) (call (.ref f) vs) Q E s :=
  wpAny_withToks (H.use B F X N T hk hdp hun fun t h' tk' F' N' hk' => hret t h' tk' hk' F' N')

theorem padded_le (ks : List Int) : (padded ks).length ≤ ks.length + 3 := by
  unfold padded
  rw [List.length_append, List.length_replicate]; omega
theorem encU_line {cs : List Nat} (h7 : ∀ c ∈ cs, c < 128) (hl : cs.length ≤ 2000) : (encU (asc cs)).size ≤ sizeLine := by rw [encU_size h7, sizeLine_eq]; omega
theorem decode_text (w : World) (os : List Int) (t0 : Tok) (hin : KBa.In os) (hl : os.length ≤ 100) : Gives w 3 28 [.str (textOf os) t0] (fun t => .bytes (byteArr os) t) := by
  obtain ⟨pl, lf, pd, mn, h, h1, h2⟩ := read_back signs_one hin (j := 0) (.inl rfl)
  have hlen : ((sx os).map codeOf).length ≤ 200 := by rw [List.length_map, sx_length]; omega
  have e : ((sx os).map codeOf).map (fun c : Nat => (c : Int)) = (sx os).map (fun d => (codeOf d : Int)) ++ List.replicate 0 61 := by rw [List.map_map]; simp
  have hk : KBw.bInts (encU (asc ((sx os).map codeOf))) = (sx os).map (fun d => (codeOf d : Int)) ++ List.replicate 0 61 := by rw [ints_asc (codes_lt _), e]
  have hkl : ((sx os).map (fun d => (codeOf d : Int)) ++ List.replicate 0 61).length ≤ 200 := by rw [← e, List.length_map]; exact hlen
  rw [textOf_asc]
  exact decode_str w _ t0 (asc_clean (codes_lt _)) (encU_line (codes_lt _) (by omega)) _ hk (by omega) (Nat.le_trans (padded_le _) (by omega)) os pl lf pd mn h h1 h2
theorem decode_other_str (w : World) (os : List Int) (j : Nat) (t0 : Tok) (hin : KBa.In os) (hl : os.length ≤ 100) (hj3 : j ≤ 3) (hj : j = 0 ∨ ((sx os).length + j) % 4 = 0) : Gives w 3 28 [.str (asc (other os j)) t0] (fun t => .bytes (byteArr os) t) := by
  obtain ⟨pl, lf, pd, mn, h, h1, h2⟩ := read_back signs_two hin hj
  have hlen : (other os j).length ≤ 200 := by rw [other_length]; omega
  have hk : KBw.bInts (encU (asc (other os j))) = (sx os).map (fun d => (code2 d : Int)) ++ List.replicate j 61 := by rw [ints_asc (other_lt _ _), other_ints]
  have hkl : ((sx os).map (fun d => (code2 d : Int)) ++ List.replicate j 61).length ≤ 200 := by rw [← other_ints, List.length_map]; exact hlen
  exact decode_str w _ t0 (asc_clean (other_lt _ _)) (encU_line (other_lt _ _) (by omega)) _ hk (by omega) (Nat.le_trans (padded_le _) (by omega)) os pl lf pd mn h h1 h2
theorem decode_other_bytes (w : World) (os : List Int) (j : Nat) (t0 : Tok) (hin : KBa.In os) (hl : os.length ≤ 100) (hj3 : j ≤ 3) (hj : j = 0 ∨ ((sx os).length + j) % 4 = 0) : Gives w 3 28 [.bytes (byteArr ((other os j).map fun c : Nat => (c : Int))) t0] (fun t => .bytes (byteArr os) t) := by
  obtain ⟨pl, lf, pd, mn, h, h1, h2⟩ := read_back signs_two hin hj
  have hlen : (other os j).length ≤ 200 := by rw [other_length]; omega
  have hk : KBw.bInts (byteArr ((other os j).map fun c : Nat => (c : Int))) = (sx os).map (fun d => (code2 d : Int)) ++ List.replicate j 61 := by rw [← encU_asc (other_lt _ _), ints_asc (other_lt _ _), other_ints]
  have hkl : ((sx os).map (fun d => (code2 d : Int)) ++ List.replicate j 61).length ≤ 200 := by rw [← other_ints, List.length_map]; exact hlen
  exact decode_bytes w _ t0 _ hk (by omega) (Nat.le_trans (padded_le _) (by omega)) os pl lf pd mn h h1 h2
/-- one sign too many -/
def wrongOf (os : List Int) : List Nat := (sx os).map codeOf ++ [65]
theorem wrong_lt (os : List Int) : ∀ c ∈ wrongOf os, c < 128 := fun c hc => by
  rcases List.mem_append.mp hc with h | h
  · exact codes_lt _ c h
  · rw [List.mem_singleton.mp h]; omega
theorem decode_wrong (w : World) (os : List Int) (n : Nat) (t0 : Tok) (hin : KBa.In os) (hl : os.length ≤ 100) (h3 : os.length = 3 * n) : Raises w 3 28 [.str (asc (wrongOf os)) t0] "ValueError" (fun _ => True) := by
  obtain ⟨fd, lf, pd, mn, h⟩ := read_wrong signs_one hin h3
  have hlen : (wrongOf os).length ≤ 200 := by unfold wrongOf; rw [List.length_append, List.length_map, sx_length]; simp only [List.length_cons, List.length_nil]; omega
  have e : (wrongOf os).map (fun c : Nat => (c : Int)) = (sx os).map (fun d => (codeOf d : Int)) ++ [65] := by unfold wrongOf; rw [List.map_append, List.map_map]; rfl
  have hk : KBw.bInts (encU (asc (wrongOf os))) = (sx os).map (fun d => (codeOf d : Int)) ++ [65] := by rw [ints_asc (wrong_lt _), e]
  have hkl : ((sx os).map (fun d => (codeOf d : Int)) ++ [65]).length ≤ 200 := by rw [← e, List.length_map]; exact hlen
  exact decode_str_raises w _ t0 (asc_clean (wrong_lt _)) (encU_line (wrong_lt _) (by omega)) _ hk (by omega) (Nat.le_trans (padded_le _) (by omega)) fd 1 lf pd mn h rfl
section
variable {prog : Program} {w : World} {A : Around} {E : Value → Shared → Prop} {s : Shared} {t u v : Tok} {Q : Value → Shared → Prop}
theorem replaceA {os : List Int} (hl : os.length ≤ 100) (hu : u ≠ 0) (hv : v ≠ 0) (huv : u ≠ v) (hq : ∀ t' k, s.toks ≤ k → Q (.str (asc (swap 45 43 ((sx os).map codeOf))) t') { s with toks := k }) :
    wpAny (model prog w) A (call (.builtin "str.replace") [.str (textOf os) t, .str (Str.ofString "-") u, .str (Str.ofString "+") v]) Q E s :=
  replace1 (cs := (sx os).map codeOf) (c := 45) (d := 43) (by decide) (by decide) hu hv huv (by decide) (by rw [List.length_map, sx_length]; omega) hq
theorem replaceB {os : List Int} (hl : os.length ≤ 100) (hu : u ≠ 0) (hv : v ≠ 0) (huv : u ≠ v) (hq : ∀ t' k, s.toks ≤ k → Q (.str (asc (text2 os)) t') { s with toks := k }) :
    wpAny (model prog w) A (call (.builtin "str.replace") [.str (asc (swap 45 43 ((sx os).map codeOf))) t, .str (Str.ofString "_") u, .str (Str.ofString "/") v]) Q E s :=
  replace1 (cs := swap 45 43 ((sx os).map codeOf)) (c := 95) (d := 47) (by decide) (by decide) hu hv huv (by decide) (by show (List.map _ _).length ≤ _; rw [List.length_map, List.length_map, sx_length]; omega) fun t' k hk => by
    rw [swap_twice]; exact hq t' k hk
theorem mul_eq (i : Int) (h0 : 0 ≤ i) (h1 : i ≤ 3) : Txt.mul (Str.ofString "=") i = asc (List.replicate i.toNat 61) := by
  have h : i = 0 ∨ i = 1 ∨ i = 2 ∨ i = 3 := by omega
  rcases h with rfl | rfl | rfl | rfl <;> decide
theorem mulEq {i : Int} (h0 : 0 ≤ i) (h1 : i ≤ 3) (h : ∀ t' k, Q (.str (asc (List.replicate i.toNat 61)) t') { s with toks := k }) :
    wpAny (model prog w) A (binaryOp .Mult (.str (Str.ofString "=") t) (.int i u)) Q E s :=
  KXi.mul (n := 1) (by decide) (by decide) (by omega) (by omega) fun t' k _ _ => by rw [mul_eq i h0 h1]; exact h t' k
theorem addO {os : List Int} {j : Nat} (hl : os.length ≤ 100) (hj : j ≤ 3) (h : ∀ t' k, Q (.str (asc (other os j)) t') { s with toks := k }) :
    wpAny (model prog w) A (binaryOp .Add (.str (asc (text2 os)) t) (.str (asc (List.replicate j 61)) u)) Q E s := by
  have e : asc (text2 os) ++ asc (List.replicate j 61) = asc (other os j) := by
    apply Str.ext'
    rw [Str.cps_append]
    simp [asc, other]
  refine add_str (fun t' k => ?_) ?_
  · rw [e]; exact h t' k
  · show (text2 os).toArray.size + (List.replicate j 61).toArray.size ≤ _
    rw [List.size_toArray, List.size_toArray, List.length_replicate, sizeLine_eq]
    unfold text2
    rw [List.length_map, sx_length]; omega
theorem addW {os : List Int} (hl : os.length ≤ 100) (h : ∀ t' k, Q (.str (asc (wrongOf os)) t') { s with toks := k }) :
    wpAny (model prog w) A (binaryOp .Add (.str (textOf os) t) (.str (Str.ofString "A") u)) Q E s := by
  have e : textOf os ++ Str.ofString "A" = asc (wrongOf os) := by
    apply Str.ext'
    rw [Str.cps_append]
    have e2 : (Str.ofString "A").cps = #[65] := by decide
    rw [e2]
    simp [asc, wrongOf, textOf]
  refine add_str (fun t' k => ?_) ?_
  · rw [e]; exact h t' k
  · have e3 : (Str.ofString "A").length = 1 := by decide
    rw [e3, textOf_length, sizeLine_eq]; omega
theorem lenT {os : List Int} (hl : os.length ≤ 100) (h : ∀ t' k, Q (.int ((sx os).length : Int) t') { s with toks := k }) : wpAny (model prog w) A (call (.builtin "len") [.str (textOf os) t]) Q E s := by
  have e : (textOf os).length = (sx os).length := by rw [textOf_length, sx_length]
  refine P.len_str ?_ ?_
  · rw [e, sx_length]; omega
  · rw [e]; exact h _ _
theorem lenO {os : List Int} {j : Nat} (hl : os.length ≤ 100) (hj : j ≤ 3) (h : ∀ t' k, Q (.int (((sx os).length + j : Nat) : Int) t') { s with toks := k }) : wpAny (model prog w) A (call (.builtin "len") [.str (asc (other os j)) t]) Q E s := by
  have e : (asc (other os j)).length = (sx os).length + j := by
    show (other os j).toArray.size = _
    rw [List.size_toArray, other_length, sx_length]
  refine P.len_str ?_ ?_
  · rw [e, sx_length]; omega
  · rw [e]; exact h _ _
end
theorem decode_other_str' (w : World) (os : List Int) (j : Nat) (t0 : Tok) (hin : KBa.In os) (hl : os.length ≤ 100) (hj3 : j ≤ 3) (hj : (((sx os).length + j : Nat) : Int) = ((sx os).length : Int) ∨ (((sx os).length + j : Nat) : Int).fmod 4 = 0) : Gives w 3 28 [.str (asc (other os j)) t0] (fun t => .bytes (byteArr os) t) :=
  decode_other_str w os j t0 hin hl hj3 (hj.imp (fun h => by omega) fun h => by rw [fm4] at h; omega)
theorem decode_other_bytes' (w : World) (os : List Int) (j : Nat) (t0 : Tok) (hin : KBa.In os) (hl : os.length ≤ 100) (hj3 : j ≤ 3) (hj : (((sx os).length + j : Nat) : Int) = ((sx os).length : Int) ∨ (((sx os).length + j : Nat) : Int).fmod 4 = 0) : Gives w 3 28 [.bytes (byteArr ((other os j).map fun c : Nat => (c : Int))) t0] (fun t => .bytes (byteArr os) t) :=
  decode_other_bytes w os j t0 hin hl hj3 (hj.imp (fun h => by omega) fun h => by rw [fm4] at h; omega)
section
variable {prog : Program} {w : World} {A : Around} {E : Value → Shared → Prop} {s : Shared} {value slice : PySem.Expr} {b : Array UInt8} {t : Tok} {h₀ : Heap} {L : Addr} {m : PySem.Str → Option Value} {news : List (Addr × Obj)} {l u : Value} {Q : Value → Shared → Prop} {os : List Int}
/-- the octets up to the last whole three -/
theorem slice_head {n : Int} (hF : Fr h₀ L s.heap m) (hN : News h₀ L s.heap news) (hk : KBw.bInts b = os) (hb : os.length ≤ 100) (e : n = ((3 * (os.length / 3) : Nat) : Int)) (hl : IsPart l none) (hu : IsPart u (some n))
    (h : ∀ p ws h' t' tk', KBw.bInts p = ws → KBa.In ws → ws.length = 3 * (os.length / 3) → ws.length ≤ 100 → Fr h₀ L h' m → News h₀ L h' news → Q (.bytes p t') { s with heap := h', toks := tk' })
    (hs : subscripted slice false (.bytes b t) (.ref s.heap.objs.size) = operate [.ref s.heap.objs.size, .bytes b t] (getItem (.bytes b t) (.ref s.heap.objs.size)) := by with_unfolding_all rfl)
    (ht : ∀ r, letTemporaryGo value (.bytes b t) r = pure () := by intro _; with_unfolding_all rfl) :
    wpAny (model prog w) A (subscriptTail value slice (.bytes b t) (.ref s.heap.objs.size)) Q E { s with heap := s.heap.push { cls := .type "slice", data := .fields #[l, u, .none] } } := by
  refine KBc.slice_K hF hN hk hl hu (by omega) ?_ hs ht
  intro h' t' tk' F' N' hp
  have hin : ∀ n ∈ os, 0 ≤ n ∧ n < 256 := fun n hn => KBw.ints_in (hk ▸ hn)
  simp only [Option.elim, List.drop_zero, Nat.sub_zero] at hp
  have hlen : ((os.take (clipAt os.length n))).length = 3 * (os.length / 3) := by
    rw [List.length_take, e, clipAt_nat]; omega
  exact h _ _ h' t' tk' hp (fun n hn => hin n (List.mem_of_mem_take hn)) hlen (by omega) F' N'
end
end Mine
end

theorem Mine.offCT : True := by w_top off; trivial

section
open PySem PySem.W PyProof.Rows PySem.Calls
namespace Mine
set_option maxRecDepth 100000
section
variable {prog : Program} {w : World} {A : Around} {E : Value → Shared → Prop} {s' : Shared} {base G : Heap} {outer : List Env} {L a e t : Addr} {m : Str → Option Value} {name : Str} {scope : Scope} {cd : Value} {cl : List (Str × Addr)}
  {as : List Value} {b₀ : Stmt} {suite : List Stmt} {pos np : Pos} {rest : List ExceptHandler} {Q : Flow → Shared → Prop} {news : List (Addr × Obj)}
  {mean : ExcName → Option Value} {mg mb : Str → Option Value} {x : Str} {X : String}
theorem name_builtin {M : Model} {A : Around} {E : Value → Shared → Prop} {s : Shared} {h₀ : Heap} {v : Value} {Q : Value → Shared → Prop} (F : Fr h₀ L s.heap m) (hg : h₀.Ns mainGlobals mg) (hmiss : mg x = none) (hb : h₀.Ns builtinsNs mb) (hv : mb x = some v) (h : Q v s)
    (hk : scope.kind = .function) (hx : (envX name scope L a cd cl).kindOf x = some .globalImplicit) (hd : (x == ("__debug__" : Str)) = false) :
    wpAny M A (eval (.Name x pos) (envX name scope L a cd cl)) Q E s :=
  Name_function_global hk hx (loadGlobal_builtin (env := envX name scope L a cd cl) (hg.keeps F.keep) hmiss (hb.keeps F.keep) hv h) hd
/-- a raise that the frame's own except takes, the frame's cells or none -/
theorem catchX (hfr : A.frames = some (envX name scope L a cd cl :: outer)) (F : Fr base L G m) (U : G.UpToSlots s'.heap) (R : RaisedK base (envX name scope L a cd cl :: outer) e (.type X) t as news s'.heap)
    (T : Top hd.view_39 (looseW hd.view_39 []) mean mg mb base) (hv : bootBuiltins x = some (.type X))
    (hexc : isSubtype (.type X) (.type "BaseException") = pure true) (hnt : isSubtype (.type ((Manifest.find? X).elim "type" fun y => y.metatype)) (.type "tuple") = pure false) (hsub : isSubtype (.type X) (.type X) = pure true)
    (k : ∀ h' E', Fr base L h' m → News base L h' news → wpAny (model prog w) (A.mark (some (.ref e))) (execs (b₀ :: suite) (envX name scope L a cd cl)) Q E' { s' with heap := h' })
    (h1 : x ∉ startupNames) (h2 : x ∉ looseW hd.view_39 []) (h3 : x ∉ (recsOf hd.view_39).map (·.name)) (h4 : x ∉ (litsOf hd.view_39).map (·.1)) (h4c : x ∉ (clssOf hd.view_39 (looseW hd.view_39 [])).map (·.name)) (hn : x ≠ "__name__")
    (hk : scope.kind = .function) (hx : (envX name scope L a cd cl).kindOf x = some .globalImplicit) (hd : (x == ("__debug__" : Str)) = false) :
    wpAny (model prog w) A (noteFrame (.ref e) (envX name scope L a cd cl))
      (fun _ s₂ => wpAny (model prog w) A (setFlight (.ref e) none) (fun _ s₃ =>
        wpAny (model prog w) A (handleBy (.ref e) (envX name scope L a cd cl) (.ExceptHandler (some (.Name x np)) none (b₀ :: suite) pos :: rest)) Q E s₃) E s₂) E s' := by
  obtain ⟨⟨B, hB, hl, hfl, hnew⟩, htup⟩ := R
  have hL : B.get? L = none := by
    obtain ⟨_, ⟨L', _, hf, hn', _⟩, _⟩ := hfl.2.2.1
    obtain rfl : L = L' := Option.some.inj hf
    exact hn'
  refine wpAny_looks_onW hfr rfl hfl fun h₄ held₄ u₄ => ?_
  refine wpAny_landsW held₄ fun h₅ fl₅ u₅ => ?_
  have fl₅' := flyingW_base hB fl₅
  have F₅ := F.of_stays fl₅'.1 (U.trans (u₄.trans u₅))
  obtain ⟨ob, hob, hobc⟩ := fl₅'.there
  refine wpAny_handleBy_builtin (X := X) (T := X) (b := true) hexc hnt hsub (name_builtin F₅ T.g (T.free x h1 h2 h3 h4 h4c) T.b ((T.builtins x hn).trans hv) ⟨rfl, ⟨ob, hob, hobc⟩, ?_⟩ hk hx hd)
  refine lands_againW fl₅ fun h₆ fl₆ u₆ => ?_
  have fl₆' := flyingW_base hB fl₆
  have F₆ := F.of_stays fl₆'.1 ((U.trans (u₄.trans u₅)).trans u₆)
  exact k h₆ _ F₆ fun q hq => ⟨fl₆.1 _ _ (hl q hq).1, (fun z => by have := (hl q hq).1; rw [z, hL] at this; cases this), (hl q hq).2⟩
end
section
variable {prog : Program} {w : World} {A : Around} {E : Value → Shared → Prop} {s' : Shared} {base G : Heap} {outer : List Env} {L a e t : Addr} {m : Str → Option Value} {name : Str} {scope : Scope} {cd : Value} {cl : List (Str × Addr)}
  {as : List Value} {b₀ : Stmt} {suite : List Stmt} {pos np : Pos} {rest : List ExceptHandler} {Q : Flow → Shared → Prop} {news : List (Addr × Obj)}
  {mean : ExcName → Option Value} {mg mb : Str → Option Value} {x n : Str} {X : String}
/-- the same with a name for the exception -/
theorem catchXB (hfr : A.frames = some (envX name scope L a cd cl :: outer)) (F : Fr base L G m) (U : G.UpToSlots s'.heap) (R : RaisedK base (envX name scope L a cd cl :: outer) e (.type X) t as news s'.heap)
    (T : Top hd.view_39 (looseW hd.view_39 []) mean mg mb base) (hv : bootBuiltins x = some (.type X))
    (hexc : isSubtype (.type X) (.type "BaseException") = pure true) (hnt : isSubtype (.type ((Manifest.find? X).elim "type" fun y => y.metatype)) (.type "tuple") = pure false) (hsub : isSubtype (.type X) (.type X) = pure true)
    (k : ∀ h' news₂ tk E', Fr base L h' (fun y => if y = n then some (.ref e) else m y) → News base L h' news₂ → Got news₂ e t (.type X) as → News base L h' news →
      wpAny (model prog w) (A.mark (some (.ref e))) (execs (b₀ :: suite) (envX name scope L a cd cl)) (fun f s₄ => wpAny (model prog w) A (do bindName (envX name scope L a cd cl) n .none; unbindBehindTheSuite (envX name scope L a cd cl) n pos) (fun _ s₅ => Q f s₅) E s₄) E' { s' with heap := h', toks := tk })
    (h1 : x ∉ startupNames) (h2 : x ∉ looseW hd.view_39 []) (h3 : x ∉ (recsOf hd.view_39).map (·.name)) (h4 : x ∉ (litsOf hd.view_39).map (·.1)) (h4c : x ∉ (clssOf hd.view_39 (looseW hd.view_39 [])).map (·.name)) (hn : x ≠ "__name__")
    (hk : scope.kind = .function) (hlo : (envX name scope L a cd cl).kindOf n = some .local) (hx : (envX name scope L a cd cl).kindOf x = some .globalImplicit) (hd : (x == ("__debug__" : Str)) = false) :
    wpAny (model prog w) A (noteFrame (.ref e) (envX name scope L a cd cl))
      (fun _ s₂ => wpAny (model prog w) A (setFlight (.ref e) none) (fun _ s₃ =>
        wpAny (model prog w) A (handleBy (.ref e) (envX name scope L a cd cl) (.ExceptHandler (some (.Name x np)) (some n) (b₀ :: suite) pos :: rest)) Q E s₃) E s₂) E s' := by
  obtain ⟨⟨B, hB, hl, hfl, hnew⟩, htup⟩ := R
  have hL : B.get? L = none := by
    obtain ⟨_, ⟨L', _, hf, hn', _⟩, _⟩ := hfl.2.2.1
    obtain rfl : L = L' := Option.some.inj hf
    exact hn'
  refine wpAny_looks_onW hfr rfl hfl fun h₄ held₄ u₄ => ?_
  refine wpAny_landsW held₄ fun h₅ fl₅ u₅ => ?_
  have fl₅' := flyingW_base hB fl₅
  have F₅ := F.of_stays fl₅'.1 (U.trans (u₄.trans u₅))
  obtain ⟨ob, hob, hobc⟩ := fl₅'.there
  refine wpAny_handleBy_builtin_as (X := X) (T := X) (b := true) hexc hnt hsub (name_builtin F₅ T.g (T.free x h1 h2 h3 h4 h4c) T.b ((T.builtins x hn).trans hv) ⟨rfl, ⟨ob, hob, hobc⟩, ?_⟩ hk hx hd)
  refine lands_againW fl₅ fun h₆ fl₆ u₆ => ?_
  have fl₆' := flyingW_base hB fl₆
  have F₆ := F.of_stays fl₆'.1 ((U.trans (u₄.trans u₅)).trans u₆)
  obtain ⟨oe, ws, hoe, hoec, hoed, hoe0⟩ := fl₆'.first
  obtain ⟨ot, nt, hot, hotc, hotd⟩ := (htup.of_slots (u₄.trans u₅)).of_slots u₆
  have N₆ := News.more F₆ (News.more F₆ News.nil hot (fun es n q => by rw [hotd] at q; cases q) (fresh_of_stays hB hnew)) hoe (fun es n q => by rw [hoed] at q; cases q) fl₆'.2.1
  have Nl : News base L h₆ news := fun q hq => ⟨fl₆.1 _ _ (hl q hq).1, (fun z => by have := (hl q hq).1; rw [z, hL] at this; cases this), (hl q hq).2⟩
  refine wpAny_storeName_local hlo F₆.ns (fun h₇ hns hsb => ?_) (by show (scope.kind == .class || (scope.kind == .module && L != mainGlobals)) = false; rw [hk]; rfl)
  exact k h₇ _ _ _ (F₆.set hns hsb) (N₆.set hsb) ⟨oe, ot, ws, nt, .head _, .tail _ (.head _), hoec, hoed, hoe0, hotc, hotd⟩ (Nl.set hsb)
end
/-- a cut behind a statement: its paths meet -/
def CutEnd (base : Heap) (L : Addr) (m : Str → Option Value) (news : List (Addr × Obj)) (s : Shared) (f : Flow) (s' : Shared) : Prop :=
  f = .next ∧ ∃ h' tk', s' = { s with heap := h', toks := tk' } ∧ Fr base L h' m ∧ News base L h' news
theorem CutEnd.intro {base : Heap} {L : Addr} {m : Str → Option Value} {news all : List (Addr × Obj)} {s : Shared} {h' : Heap} {tk' : Nat} (F : Fr base L h' m) (N : News base L h' all) (hs : ∀ p ∈ news, p ∈ all) : CutEnd base L m news s .next { s with heap := h', toks := tk' } :=
  ⟨rfl, h', tk', rfl, F, fun p hp => N p (hs p hp)⟩
theorem cut_next {M : Model} {A : Around} {t : Sem Flow} {Q : Flow → Shared → Prop} {E : Value → Shared → Prop} {s : Shared} {base : Heap} {L : Addr} {m : Str → Option Value} {news : List (Addr × Obj)}
    (F : Fr base L s.heap m) (N : News base L s.heap news) (h1 : wpAny M A t (CutEnd base L m news s) E s) (h2 : ∀ h' tk', Fr base L h' m → News base L h' news → Q .next { s with heap := h', toks := tk' }) : wpAny M A t Q E s :=
  wpAny_mono h1 (fun f s' h => by obtain ⟨rfl, h', tk', rfl, F', N'⟩ := h; exact h2 h' tk' F' N') fun _ _ x => x
structure CutMark : Prop where
theorem force_text (w : World) (os : List Int) (t0 : Tok) (hl : os.length ≤ 100) : Gives w 1 21 [.str (textOf os) t0] (fun t => .bytes (byteArr ((sx os).map fun d => (codeOf d : Int))) t) := by
  have h := force_str w (asc ((sx os).map codeOf)) t0 (asc_clean (codes_lt _)) (encU_line (codes_lt _) (by rw [List.length_map, sx_length]; omega))
  rw [encU_asc (codes_lt _), List.map_map] at h
  exact h
theorem enc_e : encU (Str.ofString "é") = #[195, 169] := by decide +kernel
theorem force_e (w : World) (t0 : Tok) : Gives w 1 21 [.str (Str.ofString "é") t0] (fun t => .bytes #[195, 169] t) := by
  have h := force_str w (Str.ofString "é") t0 (by decide) (by rw [enc_e, sizeLine_eq]; decide)
  rw [enc_e] at h
  exact h
theorem Raises.useMsg {w : World} {n : Nat} {f : Addr} {vs : List Value} {X : String} {msg : Str} (H : Raises w n f vs X (fun as => ∃ t, as = [.str msg t])) {mean : ExcName → Option Value} {mg mb : Str → Option Value} {news : List (Addr × Obj)} {dp un : Nat} {gd : Option (List Code)} {cn : Str} {cs : Scope} {a : Addr} {ccd : Value} {cl : List (Str × Addr)} {outer : List Env} {A₀ : Around} {base h₀ : Heap} {L : Addr} {m : Str → Option Value} {s : Shared} {Q E : Value → Shared → Prop}
    (B : Below A₀ base outer h₀) (F : Fr h₀ L s.heap m) (K : (hd.heap_39 w.params).In h₀) (N : News h₀ L s.heap news) (T : Top hd.view_39 (looseW hd.view_39 []) mean mg mb h₀) (hk : cs.kind = .function)
    (hdp : dp + n < recursionLimit) (hun : un + 20 * n < cLine)
    (hret : ∀ (e t : Addr) (tm : Tok) (G h' : Heap) (tk' : Nat), Fr h₀ L G m → RaisedK base (envX cn cs L a ccd cl :: outer) e (.type X) t [.str msg tm] news h' → G.UpToSlots h' → E (.ref e) { s with heap := h', toks := tk' }) :
    wpAny (model PySem.Challenge.rw_ff0010_01.row.prog w) (ktrTop dp un gd cn cs L a ccd cl outer) (call (.ref f) vs) Q E s :=
  H.use B F K N T hk hdp hun fun e t as G h' tk' hP hF hR hU => by
    obtain ⟨tm, rfl⟩ := hP
    exact hret e t tm G h' tk' hF hR hU
theorem goesX {M : Model} {A : Around} {E : Value → Shared → Prop} {s : Shared} {name : Str} {scope : Scope} {L a : Addr} {cd : Value} {cl : List (Str × Addr)} {h₀ : Heap} {m : Str → Option Value} {news : List (Addr × Obj)} {n : Str} {pos : Pos} {Q : Unit → Shared → Prop} (F : Fr h₀ L s.heap m) (N : News h₀ L s.heap news)
    (hk : scope.kind = .function) (hl : (envX name scope L a cd cl).kindOf n = some .local)
    (h : ∀ h' v, Fr h₀ L h' (fun x => if x = n then v else m x) → News h₀ L h' news → Q () { s with heap := h', toks := s.toks + 1 }) :
    wpAny M A (do bindName (envX name scope L a cd cl) n .none; unbindBehindTheSuite (envX name scope L a cd cl) n pos) Q E s :=
  wpAny_nameGoes_keeps hl F.ns (by show (scope.kind == .class || (scope.kind == .module && L != mainGlobals)) = false; rw [hk]; rfl) fun h' v hn hs => h h' v (F.set hn hs) (N.set hs)
end Mine
end

theorem Mine.offW10 : True := by w_top off; trivial

section
open PySem PySem.W PyProof.Rows
open Mine
set_option maxRecDepth 100000
set_option maxHeartbeats 8000000
local macro_rules | `(tactic| walk_at "call ref") => `(tactic| (k_here; (with_reducible show wpAny _ _ (call (Value.ref _) [Value.ref _, Value.int _ _]) _ _ _); k_dflt (refine' take_law ?m0 ?m1 ?l ?i ?n ?p0 ?p1 ?q0 ?q1 ?k1 ?k2 ?k3 ?k4 ?k6 ?k5 ?kK ?kd ?ku ?_); (case k4 => k_asm); (case k6 => intro o9; k_upd); (case k1 => k_asm); (case k2 => k_asm); (case m0 => decide); (case m1 => decide); (case l => assumption); (case i => assumption); (case n => omega); (case p0 => first | assumption | omega); (case p1 => omega); (case q0 => first | assumption | omega); (case q1 => first | assumption | omega);  (case k3 => k_asm); (case k5 => k_asm); (case kK => first | exact rfl | assumption); (case kd => ktr_room); (case ku => ktr_units); intro d9 p9 q9 t9 tp9 tq9 n9 h9 tk9 tD0 tD1 tP0 tP1 tQ0 tQ1 F9 N9; (try dsimp only); (try k_fold)))
local macro_rules | `(tactic| walk_at "call ref") => `(tactic| (k_here; k_dflt (refine' Gives.use (law_sixes_gives _ _ _ _ ?p1 ?p2) ?k1 ?k2 ?k3 ?k4 ?k5 ?kK ?kd ?ku ?_); (case p1 => first | assumption | exact KBa.ints_make (by assumption)); (case p2 => omega); (case k1 => k_asm); (case k2 => k_asm); (case k3 => k_asm); (case k4 => k_asm); (case k5 => k_asm); (case kK => first | exact rfl | assumption); (case kd => ktr_room); (case ku => ktr_units); intro t9 h9 tk9 F9 N9; (try dsimp only); (try k_fold)))
local macro_rules | `(tactic| walk_at "call ref") => `(tactic| (k_here; k_dflt (refine' Gives.use (encode_gives _ _ _ _ ?p1 ?p2) ?k1 ?k2 ?k3 ?k4 ?k5 ?kK ?kd ?ku ?_); (case p1 => first | assumption | exact KBa.ints_make (by assumption)); (case p2 => omega); (case k1 => k_asm); (case k2 => k_asm); (case k3 => k_asm); (case k4 => k_asm); (case k5 => k_asm); (case kK => first | exact rfl | assumption); (case kd => ktr_room); (case ku => ktr_units); intro t9 h9 tk9 F9 N9; (try dsimp only); (try k_fold)))
local macro_rules | `(tactic| walk_at "getMethod str") => `(tactic| (k_here; (with_reducible refine encodeM ?_)))
local macro_rules | `(tactic| walk_at "call builtin:str.encode") => `(tactic| (k_here; (first | refine encodeT (by omega) ?_ | refine encodeO (by omega) (by omega) ?_); intro _ _ tkLt; (try dsimp only at tkLt)))
local macro_rules | `(tactic| walk_at "call ref") => `(tactic| (k_here; k_dflt (refine' Gives.useT (decode_text _ _ _ ?p1 ?p2) ?k1 ?k2 ?k3 ?k4 ?k5 ?kK ?kd ?ku ?_); (case p1 => assumption); (case p2 => omega); (case k1 => k_asm); (case k2 => k_asm); (case k3 => k_asm); (case k4 => k_asm); (case k5 => k_asm); (case kK => first | exact rfl | assumption); (case kd => ktr_room); (case ku => ktr_units); intro t9 h9 tk9 tkLe F9 N9; (try dsimp only at tkLe); (try dsimp only); (try k_fold)))
local macro_rules | `(tactic| walk_at "call ref") => `(tactic| (k_here; k_dflt (refine' Gives.use (decode_other_str' _ _ _ _ ?p1 ?p2 ?p3 ?p4) ?k1 ?k2 ?k3 ?k4 ?k5 ?kK ?kd ?ku ?_); (case p1 => assumption); (case p2 => omega); (case p3 => omega); (case p4 => first | exact Or.inl (by assumption) | exact Or.inr (by assumption)); (case k1 => k_asm); (case k2 => k_asm); (case k3 => k_asm); (case k4 => k_asm); (case k5 => k_asm); (case kK => first | exact rfl | assumption); (case kd => ktr_room); (case ku => ktr_units); intro t9 h9 tk9 F9 N9; (try dsimp only); (try k_fold)))
local macro_rules | `(tactic| walk_at "call ref") => `(tactic| (k_here; k_dflt (refine' Gives.use (decode_other_bytes' _ _ _ _ ?p1 ?p2 ?p3 ?p4) ?k1 ?k2 ?k3 ?k4 ?k5 ?kK ?kd ?ku ?_); (case p1 => assumption); (case p2 => omega); (case p3 => omega); (case p4 => first | exact Or.inl (by assumption) | exact Or.inr (by assumption)); (case k1 => k_asm); (case k2 => k_asm); (case k3 => k_asm); (case k4 => k_asm); (case k5 => k_asm); (case kK => first | exact rfl | assumption); (case kd => ktr_room); (case ku => ktr_units); intro t9 h9 tk9 F9 N9; (try dsimp only); (try k_fold)))
local macro_rules | `(tactic| walk_at "call builtin:str.replace") => `(tactic| (k_here; (first | refine' replaceA ?l ?u ?v ?w ?_ | refine' replaceB ?l ?u ?v ?w ?_); (case l => omega); (case u => refine neN ?_; (try dsimp only); omega); (case v => refine neN ?_; (try dsimp only); omega); (case w => refine neN ?_; (try dsimp only); omega); intro _ _ tkLe; (try dsimp only at tkLe)))
local macro_rules | `(tactic| walk_at "binaryOp Mult str int") => `(tactic| (k_here; (refine mulEq (by assumption) (by omega) ?_); intro _ _))
local macro_rules | `(tactic| walk_at "binaryOp Add str str") => `(tactic| (k_here; (first | refine addO (by omega) (by omega) ?_ | refine addW (by omega) ?_); intro _ _))
local macro_rules | `(tactic| walk_at "call builtin:len") => `(tactic| (k_here; (with_reducible show wpAny _ _ (call (Value.builtin "len") [Value.str _ _]) _ _ _); (first | refine lenT (by omega) ?_ | refine lenO (by omega) (by omega) ?_); intro _ _))
local macro_rules | `(tactic| walk_at "subscriptTail") => `(tactic| (k_here; (with_reducible show wpAny _ _ (subscriptTail _ (Expr.Slice _ _ none _) (Value.bytes _ _) (Value.ref _)) _ _ _); (with_reducible rename Fr _ _ _ _ => F'); (with_reducible rename News _ _ _ _ => N'); (refine' slice_head (s := ⟨_, _, _, _, _⟩) F' N' (KBa.ints_make (by assumption)) (by omega) ?e (by constructor) (by constructor) ?_); (case e => rw [fd3]; omega); intro wB wS _ _ _ wK wIn wLen wLe _ _))
local macro_rules | `(tactic| walk_at "call ref") => `(tactic| (k_here; k_dflt (refine' Raises.use (decode_wrong _ _ _ _ ?p1 ?p2 ?p3) ?k1 ?k2 ?k3 ?k4 ?k5 ?kK ?kd ?ku ?_); (case p1 => assumption); (case p2 => omega); (case p3 => assumption); (case k1 => k_asm); (case k2 => k_asm); (case k3 => k_asm); (case k4 => k_asm); (case k5 => k_asm); (case kK => first | exact rfl | assumption); (case kd => ktr_room); (case ku => ktr_units); intro e9 t9 as9 G9 h9 tk9 rP rF rR rU; (try (obtain ⟨_, rfl⟩ := rP)); (try dsimp only)))
local macro_rules | `(tactic| walk_at "exec Try") => `(tactic| (k_here; (refine wpAny_Try_except ?_)))
local macro_rules | `(tactic| walk_at "noteFrame ref") => `(tactic| (k_here; (rename RaisedK _ _ _ _ _ _ _ _ => rkX); k_dflt (refine' catchX (x := Str.ofString "ValueError") (X := "ValueError") rfl ?F ?U rkX ?T PyProof.Rows.Boot.«ValueError» PySem.F.isExc_ValueError PySem.F.notTuple_ValueError (by rw [isSubtype_type]; kernel_rfl) ?_ ?h1 ?h2 ?h3 ?h4 ?h5 ?h6 ?hk ?hx ?hd); (case U => assumption); (case F => assumption); (case T => k_asm); (case h1 => decide +kernel); (case h2 => decide +kernel); (case h3 => decide +kernel); (case h4 => decide +kernel); (case h5 => decide +kernel); (case h6 => decide +kernel); (case hk => rfl); (case hx => rfl); (case hd => decide); intro h9 E9 F9 N9))
local macro_rules | `(tactic| walk_at "call ref") => `(tactic| (k_here; k_dflt (refine' Gives.use (force_text _ _ _ ?p1) ?k1 ?k2 ?k3 ?k4 ?k5 ?kK ?kd ?ku ?_); (case p1 => omega); (case k1 => k_asm); (case k2 => k_asm); (case k3 => k_asm); (case k4 => k_asm); (case k5 => k_asm); (case kK => first | exact rfl | assumption); (case kd => ktr_room); (case ku => ktr_units); intro t9 h9 tk9 F9 N9; (try dsimp only); (try k_fold)))
local macro_rules | `(tactic| walk_at "call ref") => `(tactic| (k_here; k_dflt (refine' Gives.use (force_e _ _) ?k1 ?k2 ?k3 ?k4 ?k5 ?kK ?kd ?ku ?_); (case k1 => k_asm); (case k2 => k_asm); (case k3 => k_asm); (case k4 => k_asm); (case k5 => k_asm); (case kK => first | exact rfl | assumption); (case kd => ktr_room); (case ku => ktr_units); intro t9 h9 tk9 F9 N9; (try dsimp only); (try k_fold)))
local macro_rules | `(tactic| walk_at "call ref") => `(tactic| (k_here; k_dflt (refine' Gives.use (force_bytes _ _ _) ?k1 ?k2 ?k3 ?k4 ?k5 ?kK ?kd ?ku ?_); (case k1 => k_asm); (case k2 => k_asm); (case k3 => k_asm); (case k4 => k_asm); (case k5 => k_asm); (case kK => first | exact rfl | assumption); (case kd => ktr_room); (case ku => ktr_units); intro t9 h9 tk9 F9 N9; (try dsimp only); (try k_fold)))
local macro_rules | `(tactic| walk_at "call ref") => `(tactic| (k_here; k_dflt (refine' Raises.useMsg (force_none _) ?k1 ?k2 ?k3 ?k4 ?k5 ?kK ?kd ?ku ?_); (case k1 => k_asm); (case k2 => k_asm); (case k3 => k_asm); (case k4 => k_asm); (case k5 => k_asm); (case kK => first | exact rfl | assumption); (case kd => ktr_room); (case ku => ktr_units); intro e9 t9 tm9 G9 h9 tk9 rF rR rU; (try dsimp only)))
local macro_rules | `(tactic| walk_at "call ref") => `(tactic| (k_here; k_dflt (refine' Raises.useMsg (force_int _ _ _) ?k1 ?k2 ?k3 ?k4 ?k5 ?kK ?kd ?ku ?_); (case k1 => k_asm); (case k2 => k_asm); (case k3 => k_asm); (case k4 => k_asm); (case k5 => k_asm); (case kK => first | exact rfl | assumption); (case kd => ktr_room); (case ku => ktr_units); intro e9 t9 tm9 G9 h9 tk9 rF rR rU; (try dsimp only)))
local macro_rules | `(tactic| walk_at "noteFrame ref") => `(tactic| (k_here; (rename RaisedK _ _ _ _ _ _ _ _ => rkX); k_dflt (refine' catchXB (x := Str.ofString "TypeError") (X := "TypeError") rfl ?F ?U rkX ?T PyProof.Rows.Boot.«TypeError» PySem.F.isExc_TypeError PySem.F.notTuple_TypeError (by rw [isSubtype_type]; kernel_rfl) ?_ ?h1 ?h2 ?h3 ?h4 ?h5 ?h6 ?hk ?hl ?hx ?hd); (case U => assumption); (case F => assumption); (case T => k_asm); (case h1 => decide +kernel); (case h2 => decide +kernel); (case h3 => decide +kernel); (case h4 => decide +kernel); (case h5 => decide +kernel); (case h6 => decide +kernel); (case hk => rfl); (case hl => rfl); (case hx => rfl); (case hd => decide); intro h9 n9 tk9 E9 F9 N8 gX N9; (try dsimp only); (try k_fold)))
local macro_rules | `(tactic| walk_at "call type:str") => `(tactic| (k_here; (rename Got _ _ _ _ _ => gX); (with_reducible show wpAny _ _ (call (Value.type "str") [Value.ref _]) _ _ _); k_dflt (refine' str_got_one PySem.F.excStr_TypeError ?N gX ?u ?_); (case N => assumption); (case u => ktr_units)))
local macro_rules | `(tactic| walk_at "bind") => `(tactic| (k_here; k_dflt (refine' goesX ?F ?N ?k ?l ?_); (case F => k_asm); (case N => k_asm); (case k => rfl); (case l => rfl); intro h9 v9 F9 N9))
local macro_rules | `(tactic| walk_at "exec If") => `(tactic| (k_here; (fail_if_success (have zz : CutMark := by assumption)); (with_reducible show wpAny _ _ (exec (Stmt.If (Expr.BoolOp _ (Expr.Compare (Expr.Call (Expr.Name (Str.ofString "len") _) _ _ _) _ _ _ :: _) _) _ _ _) _) _ _ _); (refine hold ?_)))
local macro_rules | `(tactic| walk_at "CompSrc") => `(tactic| (refine hold ?_))
theorem PySem.Challenge.cw_ff0010_01_holds : PySem.Challenge.rw_ff0010_01.Holds := by
  refine Mine.hd ?_
  k_go0
  all_goals try k_fold
  k_steps

  rename_i W s0 s1 mg mb G Y fa ob pm doc ho hg KX X V GL T B TE TW w1a w2a M w3a w4a hcd ns hs hlay0 hL0 hr0 hl2 la1 la2 sc vs la3 hL ra wl1 r0 hI hr hc1 hc2 K0 hD hh1 tk1 oW right X0 qk ek lC h1 l1 h2 oC dC tkA d9 p9 q9 t9 tp9 tq9 n9 h9 tk9 tD0 tD1 tP0 tP1 tQ0 tQ1 h3 F3 N3 h4 tk4 t1 u1 v1 rgX rgF rgN keep
  replace K0 : Below callerA s1.heap [] s1.heap := K0
  unfold Hold
  refine LCg.CompSrc.range (n := (d9 - 0).toNat) rfl rgF rgN rgX (small_one (by omega) (by omega) (by omega) (by omega)) (rangeSize_nat _ _) (by rw [sizeLine_eq]; omega) ?_
  intro g
  refine comp_inv (TakeJ sc lC (s1.heap.objs.size + 1) oC) ?_ ?_ ?_
  · exact ⟨p9, q9, tp9, tq9, n9, [], rfl, tP0, by omega, tQ0, tQ1, .nil, rfl, fun _ h => nomatch h⟩
  · rintro i ys nw v I oI C oC' D m₂ h tk E' hi ⟨p, q, tp, tq, n, os, rfl, hp0, hp1, hq0, hq1, hos, hlen, hin⟩ hv hC hx F5 N5 off5 ne5
    simp only [LCg.Off3] at off5
    k_steps
    all_goals exact TakeJ.snoc hos hlen hin hp1 (by assumption) (by assumption) (by assumption) (by assumption) (by assumption) (by assumption)
  · rintro ys nw ⟨p, q, tp, tq, n, os, rfl, hp0, hp1, hq0, hq1, hos, hlen, hin⟩
    have hol : os.length ≤ 40 := by omega
    k_steps
    unfold Hold
    rename Fr _ _ _ _ => cF
    rename News _ _ _ _ => cN
    refine cut_next cF cN ?cut1 ?cut2
    case cut1 =>
      have cm : CutMark := CutMark.mk
      k_steps
      all_goals (refine CutEnd.intro (by assumption) (by assumption) (fun _ hp => hp))
    case cut2 =>
      intro h6 tk6 F6 N6
      try dsimp only
      k_steps


      all_goals done
end
