import PyProof.Rows.All
import Wide.All
import OpenK.AllK
import Wide.FinOn
import Lean
import PySem.Challenge.RW_ff0011_01
open PySem PySem.W PyProof.Rows
set_option Elab.async false
set_option maxRecDepth 100000
set_option maxHeartbeats 8000000
set_option linter.unusedSimpArgs false
set_option linter.unusedVariables false

namespace Mine
open_top hd for PySem.Challenge.rw_ff0011_01
noncomputable abbrev Loose : List Str := looseW hd.view_39 [Str.ofString "to_base64url_uint", Str.ofString "bytes_from_int"]

/-- a call that makes nothing that is told of: the ledger stands as it stood -/
noncomputable abbrev Told (d u : Nat) (f : Addr) (vs : List Value) (kw : List (Str × Value)) (news : List (Addr × Obj)) (Post : Value → Prop) : Prop :=
  ∀ (w : World) (mean : ExcName → Option Value) (mg mb : Str → Option Value) (dp un : Nat) (gd : Option (List Code)) (cn : Str) (cs : Scope) (a : Addr) (ccd : Value) (cl : List (Str × Addr)) (outer : List Env) (A₀ : Around) (base h₀ : Heap) (L : Addr) (m : Str → Option Value) (s : Shared) (Q E : Value → Shared → Prop),
    Below A₀ base outer h₀ → Fr h₀ L s.heap m → (hd.heap_39 w.params).In h₀ → News h₀ L s.heap news → Top hd.view_39 Loose mean mg mb h₀ → cs.kind = .function →
    dp + d < recursionLimit → un + u < cLine →
    (∀ v h' tk', Post v → Fr h₀ L h' m → News h₀ L h' news → Q v { s with heap := h', toks := tk' }) →
    wpAny (model PySem.Challenge.rw_ff0011_01.row.prog w) (ktrTop dp un gd cn cs L a ccd cl outer) (call (.ref f) vs kw) Q E s
end Mine

namespace Mine
theorem anewML : True := by
  w_top off
  trivial
section
variable {prog : Program} {w : World} {A : Around} {E : Value → Shared → Prop} {s : Shared} {env : Env} {h₀ : Heap} {x : Str} {body : List Stmt} {Q : Flow → Shared → Prop}
/-- a loop over a range of any step, by an invariant over the letters and the turn's number -/
theorem loop_step {σ : Type} {r : Addr} {a₀ b₀ st : Int} {t₀ u₀ v₀ : Tok} {n : Nat} {m₀ : Str → Option Value} (Led : σ → List (Addr × Obj)) (ps : σ → List (Str × Value)) (Facts : σ → Prop) (stored : List Str) (P : Nat → σ → Prop) (c₀ : σ)
    (hh : A.handled = none) (hr : IsRange s.heap r a₀ b₀ st t₀ u₀ v₀) (hsmall : Builtin.Range.small a₀ b₀ st = true) (hn : Builtin.Range.rangeSize a₀ b₀ st = (n : Int)) (F : Fr h₀ env.locals s.heap m₀) (N : News h₀ env.locals s.heap (Led c₀)) (hf : Facts c₀) (hk : ∀ p ∈ ps c₀, m₀ p.1 = some p.2) (hp : P 0 c₀)
    (turn : ∀ (c : σ) (i : Nat) (pre : List Int) t (u : Str → Option Value) h tk own, pre.length = i + 1 → i < n → OwnOff own ((Led c₀).map (·.1)) → Facts c → P i c →
      Fr h₀ env.locals h (fun y => if y = x then some (.int (a₀ + (i : Int) * st) t) else kstB (fun z => if stored.contains z then u z else m₀ z) (ps c) y) → News h₀ env.locals h (Led c ++ own) →
      wpAny (model prog w) A (execs body env) (InvPostN h₀ env.locals (KstS Led ps Facts x stored m₀ (fun pre c => P pre.length c) pre) own ((Led c₀).map (·.1)) { s with heap := h, toks := tk } Q) E { s with heap := h, toks := tk })
    (done : ∀ (c : σ) (u : Str → Option Value) h tk, Facts c → P n c → Fr h₀ env.locals h (fun y => if y = x then u y else kstB (fun z => if stored.contains z then u z else m₀ z) (ps c) y) → News h₀ env.locals h (Led c) → Q .next { s with heap := h, toks := tk }) :
    wpAny (model prog w) A (pyIter (.ref r)) (fun it s₂ => LoopAtV prog w A h₀ env x body Q E it s₂) E s := by
  refine wpAny_pyIter_range hr hsmall ?_
  have W : Walks prog w A s.heap.objs.size [s.heap.objs.size] [s.heap.objs.size] n (fun i v => i < n ∧ ∃ t, v = .int (a₀ + i * st) t)
      (fun i h => IsRangeIter h s.heap.objs.size (a₀ + (i : Nat) * st) ((n : Int) - (i : Nat)) st) := (Walks.range hh _ a₀ st n).bound
  have far : s.heap.objs.size ∉ ([] : List Addr) ∧ ∀ p ∈ Led c₀, p.1 ∉ [s.heap.objs.size] := by
    refine ⟨List.not_mem_nil, fun p hp hI => ?_⟩
    have h1 := Heap.lt_size (N p hp).1
    rw [List.mem_singleton.mp hI] at h1
    exact Nat.lt_irrefl _ h1
  refine loop_invN (fun i m nx => KstS Led ps Facts x stored m₀ (fun pre c => P pre.length c) ((rangeKs 0 n).take i) m nx) W ?_ ?_ far.2 far.2 ?_ (F.push _) (fun p hp => ⟨Heap.get?_push_of_some _ (N p hp).1, (N p hp).2⟩) ⟨c₀, rfl, hf, hk, fun _ _ _ _ => rfl, by simpa using hp⟩ ?_ ?_
  · intro hm
    exact absurd F.ns.lt ((List.mem_singleton.mp hm) ▸ Nat.lt_irrefl _)
  · intro b hb
    rw [List.mem_singleton.mp hb]
    exact next_is_new F
  · show IsRangeIter _ _ _ _ _
    rw [hn]
    simpa using Heap.get?_push_size _ rfl
  · rintro i v m₁ nx h tk own hi ⟨_, t, rfl⟩ _ hoff ⟨c, rfl, hf', h1, h2, hp'⟩ F₁ N₁
    have hlen : ((rangeKs 0 n).take i).length = i := by rw [List.length_take, rangeKs_length]; omega
    have hlen' : ((rangeKs 0 n).take (i + 1)).length = i + 1 := by rw [List.length_take, rangeKs_length]; omega
    have hp2 : P ((rangeKs 0 n).take i).length c := hp'
    rw [hlen] at hp2
    exact turn c i _ t m₁ h tk own hlen' hi hoff hf' hp2 (kst_fr h1 h2 F₁) N₁
  · rintro m₁ nx h tk ⟨c, rfl, hf', h1, h2, hp'⟩ F₁ N₁
    have hp2 : P ((rangeKs 0 n).take n).length c := hp'
    have hlen : ((rangeKs 0 n).take n).length = n := by rw [List.length_take, rangeKs_length]; omega
    rw [hlen] at hp2
    exact done c m₁ h tk hf' hp2 (kst_frOut h1 h2 F₁) N₁
/-- the same, where the loop grows one list of ints -/
theorem loop_grow {r l : Addr} {rest : List (Addr × Obj)} {a₀ b₀ st : Int} {t₀ u₀ v₀ : Tok} {n nn : Nat} {m₀ : Str → Option Value} (stored : List Str) (P : Nat → List Int → Prop)
    (hh : A.handled = none) (hr : IsRange s.heap r a₀ b₀ st t₀ u₀ v₀) (hsmall : Builtin.Range.small a₀ b₀ st = true) (hn : Builtin.Range.rangeSize a₀ b₀ st = (n : Int)) (F : Fr h₀ env.locals s.heap m₀) (N : News h₀ env.locals s.heap ((l, W.listOf #[] nn) :: rest)) (hp : P 0 [])
    (turn : ∀ (vs : List Value) (ns : List Int) (nn i : Nat) (pre : List Int) t (u : Str → Option Value) h tk own, pre.length = i + 1 → i < n → OwnOff own (((l, W.listOf #[] nn) :: rest).map (·.1)) → IntsAre vs ns → P i ns →
      Fr h₀ env.locals h (fun y => if y = x then some (.int (a₀ + (i : Int) * st) t) else (fun z => if stored.contains z then u z else m₀ z) y) → News h₀ env.locals h ((l, W.listOf vs.toArray nn) :: (rest ++ own)) →
      wpAny (model prog w) A (execs body env) (InvPostN h₀ env.locals (KstS (fun c : List Value × List Int × Nat => (l, W.listOf c.1.toArray c.2.2) :: rest) (fun _ => []) (fun c => IntsAre c.1 c.2.1) x stored m₀ (fun pre c => P pre.length c.2.1) pre) own (((l, W.listOf #[] nn) :: rest).map (·.1)) { s with heap := h, toks := tk } Q) E { s with heap := h, toks := tk })
    (done : ∀ (vs : List Value) (ns : List Int) (nn : Nat) (u : Str → Option Value) h tk, IntsAre vs ns → P n ns → Fr h₀ env.locals h (fun y => if y = x then u y else (fun z => if stored.contains z then u z else m₀ z) y) → News h₀ env.locals h ((l, W.listOf vs.toArray nn) :: rest) → Q .next { s with heap := h, toks := tk }) :
    wpAny (model prog w) A (pyIter (.ref r)) (fun it s₂ => LoopAtV prog w A h₀ env x body Q E it s₂) E s :=
  loop_step (σ := List Value × List Int × Nat) (fun c => (l, W.listOf c.1.toArray c.2.2) :: rest) (fun _ => []) (fun c => IntsAre c.1 c.2.1) stored (fun i c => P i c.2.1) ([], [], nn) hh hr hsmall hn F N .nil (fun _ hp => nomatch hp) hp
    (fun c i pre t u h tk own h1 h2 h3 h4 h5 h6 h7 => turn c.1 c.2.1 c.2.2 i pre t u h tk own h1 h2 h3 h4 h5 h6 h7)
    (fun c u h tk h1 h2 h3 h4 => done c.1 c.2.1 c.2.2 u h tk h1 h2 h3 h4)
end
end Mine

namespace Mine
theorem anewMP : True := by
  w_top off
  trivial
/-- the 64 signs -/
def SIX8 : List UInt8 := [65, 66, 67, 68, 69, 70, 71, 72, 73, 74, 75, 76, 77, 78, 79, 80, 81, 82, 83, 84, 85, 86, 87, 88, 89, 90, 97, 98, 99, 100, 101, 102, 103, 104, 105, 106, 107, 108, 109, 110, 111, 112, 113, 114, 115, 116, 117, 118, 119, 120, 121, 122, 48, 49, 50, 51, 52, 53, 54, 55, 56, 57, 45, 95]
def sgn (v : Int) : Int := (((SIX8.getD v.toNat 0).toNat : Nat) : Int)
def sixOf (c : Int) : Int := if 65 ≤ c ∧ c ≤ 90 then c - 65 else if 97 ≤ c ∧ c ≤ 122 then c - 71 else if 48 ≤ c ∧ c ≤ 57 then c + 4 else if c = 43 ∨ c = 45 then 62 else if c = 47 ∨ c = 95 then 63 else -1
/-- the i-th three of a list -/
def chunk (ks : List Int) (i : Nat) : List Int := (ks.drop (3 * i)).take 3
def encPart : List Int → List Int
  | [a] => [sgn (a * 65536 / 262144 % 64), sgn (a * 65536 / 4096 % 64)]
  | [a, b] => [sgn ((a * 256 + b) * 256 / 262144 % 64), sgn ((a * 256 + b) * 256 / 4096 % 64), sgn ((a * 256 + b) * 256 / 64 % 64)]
  | [a, b, c] => [sgn (((a * 256 + b) * 256 + c) / 262144 % 64), sgn (((a * 256 + b) * 256 + c) / 4096 % 64), sgn (((a * 256 + b) * 256 + c) / 64 % 64), sgn (((a * 256 + b) * 256 + c) % 64)]
  | _ => []
def encUp (ks : List Int) : Nat → List Int
  | 0 => []
  | i + 1 => encUp ks i ++ encPart (chunk ks i)
def chunks (n : Nat) : Nat := (n + 2) / 3
def enc (ks : List Int) : List Int := encUp ks (chunks ks.length)
theorem chunks_size (n : Nat) : Builtin.Range.rangeSize 0 (n : Int) 3 = ((chunks n : Nat) : Int) := by
  rw [rangeSize_pos (by decide) (by omega)]
  unfold chunks
  omega
theorem chunks_small {n : Nat} (h : n ≤ 4096) : Builtin.Range.small 0 (n : Int) 3 = true := by
  unfold Builtin.Range.small
  rw [chunks_size]
  have h2 : chunks n ≤ 4096 := by unfold chunks; omega
  generalize chunks n = k at h2
  have h3 : ∀ i : Int, -100000 ≤ i → i ≤ 100000 → Builtin.Range.rangeFitsLong i = true := by
    intro i h0 h1
    unfold Builtin.Range.rangeFitsLong
    rw [Bool.and_eq_true]
    exact ⟨decide_eq_true (by omega), decide_eq_true (by omega)⟩
  rw [h3 0 (by omega) (by omega), h3 n (by omega) (by omega), h3 3 (by omega) (by omega), h3 k (by omega) (by omega), if_pos (by decide), h3 _ (by omega) (by omega)]
  simp
theorem chunk_ways {ks : List Int} {i : Nat} (h : i < chunks ks.length) : (∃ a, chunk ks i = [a]) ∨ (∃ a b, chunk ks i = [a, b]) ∨ ∃ a b c, chunk ks i = [a, b, c] := by
  have hl : (chunk ks i).length = min 3 (ks.length - 3 * i) := by unfold chunk; rw [List.length_take, List.length_drop]
  have h3 : 3 * i < ks.length := by unfold chunks at h; omega
  match hq : chunk ks i with
  | [] => rw [hq] at hl; simp at hl; omega
  | [a] => exact .inl ⟨a, rfl⟩
  | [a, b] => exact .inr (.inl ⟨a, b, rfl⟩)
  | [a, b, c] => exact .inr (.inr ⟨a, b, c, rfl⟩)
  | a :: b :: c :: d :: r => rw [hq] at hl; simp at hl; omega
theorem chunk_cut {ks : List Int} {i : Nat} (h : i < chunks ks.length) : (ks.drop (clipAt ks.length (0 + (i : Int) * 3))).take (clipAt ks.length (0 + (i : Int) * 3 + 3) - clipAt ks.length (0 + (i : Int) * 3)) = chunk ks i := by
  have h3 : 3 * i < ks.length := by unfold chunks at h; omega
  have e1 : clipAt ks.length (0 + (i : Int) * 3) = 3 * i := by rw [clipAt_in (by omega) (by omega)]; omega
  have e2 := clipAt_min (n := ks.length) (y := 0 + (i : Int) * 3 + 3) (by omega)
  rw [e1]
  unfold chunk
  by_cases hc : 3 * i + 3 ≤ ks.length
  · have e3 : clipAt ks.length (0 + (i : Int) * 3 + 3) - 3 * i = 3 := by split at e2 <;> omega
    rw [e3]
  · have e3 : clipAt ks.length (0 + (i : Int) * 3 + 3) = ks.length := by split at e2 <;> omega
    rw [e3, List.take_of_length_le (by rw [List.length_drop]; omega), List.take_of_length_le (by rw [List.length_drop]; omega)]
theorem sgn_in (v : Int) : 0 ≤ sgn v ∧ sgn v < 256 := by
  unfold sgn
  have h := (SIX8.getD v.toNat 0).toNat_lt
  omega
theorem encPart_in (ks : List Int) : ∀ n ∈ encPart ks, 0 ≤ n ∧ n < 256 := by
  intro n hn
  unfold encPart at hn
  split at hn
  all_goals simp only [List.mem_cons, List.not_mem_nil, or_false] at hn
  · rcases hn with rfl | rfl <;> exact sgn_in _
  · rcases hn with rfl | rfl | rfl <;> exact sgn_in _
  · rcases hn with rfl | rfl | rfl | rfl <;> exact sgn_in _
theorem encUp_in (ks : List Int) : ∀ i, ∀ n ∈ encUp ks i, 0 ≤ n ∧ n < 256
  | 0 => fun n hn => nomatch hn
  | i + 1 => fun n hn => by
    rw [encUp] at hn
    rcases List.mem_append.mp hn with h | h
    · exact encUp_in ks i n h
    · exact encPart_in _ n h
theorem way1 (x1 : Int) : [sgn ((((0 * 256 + x1) * 256 ^ (3 - 1 : Int).toNat).fdiv (64 ^ (3 - (0 + ((0 : Nat) : Int))).toNat)).fmod 64), sgn ((((0 * 256 + x1) * 256 ^ (3 - 1 : Int).toNat).fdiv (64 ^ (3 - (0 + ((0 + 1 : Nat) : Int))).toNat)).fmod 64)] = encPart [x1] := by
  have e1 : ((256 : Int) ^ (3 - 1 : Int).toNat) = 65536 := by decide
  have e2 : (64 : Int) ^ (3 - (0 + ((0 : Nat) : Int))).toNat = 262144 := by decide
  have e3 : (64 : Int) ^ (3 - (0 + ((0 + 1 : Nat) : Int))).toNat = 4096 := by decide
  rw [e1, e2, e3]
  simp only [encPart, Int.fdiv_eq_ediv_of_nonneg _ (show (0 : Int) ≤ 262144 by decide), Int.fdiv_eq_ediv_of_nonneg _ (show (0 : Int) ≤ 4096 by decide), Int.fmod_eq_emod_of_nonneg _ (show (0 : Int) ≤ 64 by decide), Int.zero_mul, Int.zero_add]
theorem way2 (x1 x2 : Int) : [sgn (((((0 * 256 + x1) * 256 + x2) * 256 ^ (3 - 2 : Int).toNat).fdiv (64 ^ (3 - (0 + ((0 : Nat) : Int))).toNat)).fmod 64), sgn (((((0 * 256 + x1) * 256 + x2) * 256 ^ (3 - 2 : Int).toNat).fdiv (64 ^ (3 - (0 + ((0 + 1 : Nat) : Int))).toNat)).fmod 64), sgn (((((0 * 256 + x1) * 256 + x2) * 256 ^ (3 - 2 : Int).toNat).fdiv (64 ^ (3 - (0 + ((0 + 1 + 1 : Nat) : Int))).toNat)).fmod 64)] = encPart [x1, x2] := by
  have e1 : ((256 : Int) ^ (3 - 2 : Int).toNat) = 256 := by decide
  have e2 : (64 : Int) ^ (3 - (0 + ((0 : Nat) : Int))).toNat = 262144 := by decide
  have e3 : (64 : Int) ^ (3 - (0 + ((0 + 1 : Nat) : Int))).toNat = 4096 := by decide
  have e4 : (64 : Int) ^ (3 - (0 + ((0 + 1 + 1 : Nat) : Int))).toNat = 64 := by decide
  rw [e1, e2, e3, e4]
  simp only [encPart, Int.fdiv_eq_ediv_of_nonneg _ (show (0 : Int) ≤ 262144 by decide), Int.fdiv_eq_ediv_of_nonneg _ (show (0 : Int) ≤ 4096 by decide), Int.fdiv_eq_ediv_of_nonneg _ (show (0 : Int) ≤ 64 by decide), Int.fmod_eq_emod_of_nonneg _ (show (0 : Int) ≤ 64 by decide), Int.zero_mul, Int.zero_add]
theorem way3 (x1 x2 x3 : Int) : [sgn ((((((0 * 256 + x1) * 256 + x2) * 256 + x3) * 256 ^ (3 - 3 : Int).toNat).fdiv (64 ^ (3 - (0 + ((0 : Nat) : Int))).toNat)).fmod 64), sgn ((((((0 * 256 + x1) * 256 + x2) * 256 + x3) * 256 ^ (3 - 3 : Int).toNat).fdiv (64 ^ (3 - (0 + ((0 + 1 : Nat) : Int))).toNat)).fmod 64), sgn ((((((0 * 256 + x1) * 256 + x2) * 256 + x3) * 256 ^ (3 - 3 : Int).toNat).fdiv (64 ^ (3 - (0 + ((0 + 1 + 1 : Nat) : Int))).toNat)).fmod 64), sgn ((((((0 * 256 + x1) * 256 + x2) * 256 + x3) * 256 ^ (3 - 3 : Int).toNat).fdiv (64 ^ (3 - (0 + ((0 + 1 + 1 + 1 : Nat) : Int))).toNat)).fmod 64)] = encPart [x1, x2, x3] := by
  have e1 : ((256 : Int) ^ (3 - 3 : Int).toNat) = 1 := by decide
  have e2 : (64 : Int) ^ (3 - (0 + ((0 : Nat) : Int))).toNat = 262144 := by decide
  have e3 : (64 : Int) ^ (3 - (0 + ((0 + 1 : Nat) : Int))).toNat = 4096 := by decide
  have e4 : (64 : Int) ^ (3 - (0 + ((0 + 1 + 1 : Nat) : Int))).toNat = 64 := by decide
  have e5 : (64 : Int) ^ (3 - (0 + ((0 + 1 + 1 + 1 : Nat) : Int))).toNat = 1 := by decide
  rw [e1, e2, e3, e4, e5]
  simp only [encPart, Int.fdiv_eq_ediv_of_nonneg _ (show (0 : Int) ≤ 262144 by decide), Int.fdiv_eq_ediv_of_nonneg _ (show (0 : Int) ≤ 4096 by decide), Int.fdiv_eq_ediv_of_nonneg _ (show (0 : Int) ≤ 64 by decide), Int.fdiv_eq_ediv_of_nonneg _ (show (0 : Int) ≤ 1 by decide), Int.fmod_eq_emod_of_nonneg _ (show (0 : Int) ≤ 64 by decide), Int.zero_mul, Int.zero_add, Int.mul_one, Int.ediv_one]
theorem lway1 {N x1 : Int} (hN : N = x1 * 65536) (h : 0 ≤ x1 ∧ x1 < 256) : [sgn (N.fdiv 262144), sgn ((N.fdiv 4096).fmod 64)] = encPart [x1] := by
  have e : x1 * 65536 / 262144 % 64 = x1 * 65536 / 262144 := by omega
  subst hN
  simp only [encPart, e, Int.fdiv_eq_ediv_of_nonneg _ (show (0 : Int) ≤ 262144 by decide), Int.fdiv_eq_ediv_of_nonneg _ (show (0 : Int) ≤ 4096 by decide), Int.fmod_eq_emod_of_nonneg _ (show (0 : Int) ≤ 64 by decide)]
theorem lway2 {N x1 x2 : Int} (hN : N = (x1 * 256 + x2) * 256) (h : 0 ≤ x1 ∧ x1 < 256) (h2 : 0 ≤ x2 ∧ x2 < 256) : [sgn (N.fdiv 262144), sgn ((N.fdiv 4096).fmod 64), sgn ((N.fdiv 64).fmod 64)] = encPart [x1, x2] := by
  have e : (x1 * 256 + x2) * 256 / 262144 % 64 = (x1 * 256 + x2) * 256 / 262144 := by omega
  subst hN
  simp only [encPart, e, Int.fdiv_eq_ediv_of_nonneg _ (show (0 : Int) ≤ 262144 by decide), Int.fdiv_eq_ediv_of_nonneg _ (show (0 : Int) ≤ 4096 by decide), Int.fdiv_eq_ediv_of_nonneg _ (show (0 : Int) ≤ 64 by decide), Int.fmod_eq_emod_of_nonneg _ (show (0 : Int) ≤ 64 by decide)]
theorem lway3 {N x1 x2 x3 : Int} (hN : N = (x1 * 256 + x2) * 256 + x3) (h : 0 ≤ x1 ∧ x1 < 256) (h2 : 0 ≤ x2 ∧ x2 < 256) (h3 : 0 ≤ x3 ∧ x3 < 256) : [sgn (N.fdiv 262144), sgn ((N.fdiv 4096).fmod 64), sgn ((N.fdiv 64).fmod 64), sgn (N.fmod 64)] = encPart [x1, x2, x3] := by
  have e : ((x1 * 256 + x2) * 256 + x3) / 262144 % 64 = ((x1 * 256 + x2) * 256 + x3) / 262144 := by omega
  subst hN
  simp only [encPart, e, Int.fdiv_eq_ediv_of_nonneg _ (show (0 : Int) ≤ 262144 by decide), Int.fdiv_eq_ediv_of_nonneg _ (show (0 : Int) ≤ 4096 by decide), Int.fdiv_eq_ediv_of_nonneg _ (show (0 : Int) ≤ 64 by decide), Int.fmod_eq_emod_of_nonneg _ (show (0 : Int) ≤ 64 by decide)]
theorem encUp_length_le (ks : List Int) : ∀ i, (encUp ks i).length ≤ 4 * i
  | 0 => by simp [encUp]
  | i + 1 => by
    have h := encUp_length_le ks i
    have h2 : (encPart (chunk ks i)).length ≤ 4 := by unfold encPart; split <;> simp
    rw [encUp, List.length_append]
    omega
end Mine

namespace Mine
theorem anewMU : True := by
  w_top off
  trivial
theorem told_use {d u : Nat} {f : Addr} {vs : List Value} {kw : List (Str × Value)} {news : List (Addr × Obj)} {Post : Value → Prop} (C : Told d u f vs kw news Post)
    {w : World} {mean : ExcName → Option Value} {mg mb : Str → Option Value} {dp un : Nat} {gd : Option (List Code)} {cn : Str} {cs : Scope} {a : Addr} {ccd : Value} {cl : List (Str × Addr)} {outer : List Env} {A₀ : Around} {base h₀ : Heap} {L : Addr} {m : Str → Option Value} {s : Shared} {Q E : Value → Shared → Prop}
    (B : Below A₀ base outer h₀) (F : Fr h₀ L s.heap m) (X : (hd.heap_39 w.params).In h₀) (N : News h₀ L s.heap news) (T : Top hd.view_39 Loose mean mg mb h₀) (hk : cs.kind = .function) (hd : dp + d < recursionLimit) (hu : un + u < cLine)
    (ret : ∀ v h' tk', Post v → Fr h₀ L h' m → News h₀ L h' news → Q v { s with heap := h', toks := tk' }) :
    wpAny (model PySem.Challenge.rw_ff0011_01.row.prog w) (ktrTop dp un gd cn cs L a ccd cl outer) (call (.ref f) vs kw) Q E s := C w mean mg mb dp un gd cn cs a ccd cl outer A₀ base h₀ L m s Q E B F X N T hk hd hu ret
def Stop (P : Prop) : Prop := P
theorem Stop.out {P : Prop} (h : Stop P) : P := h
theorem Stop.go {P : Prop} (h : P) : Stop P := h
theorem bytes_ints (b : Array UInt8) : byteArr (KBw.bInts b) = b := by
  obtain ⟨l⟩ := b
  show (List.map (fun n : Int => n.toNat.toUInt8) (List.map (fun c : UInt8 => (c.toNat : Int)) l)).toArray = _
  rw [List.map_map]
  have e : ((fun n : Int => n.toNat.toUInt8) ∘ fun c : UInt8 => (c.toNat : Int)) = _root_.id := by
    funext c
    simp
  rw [e, List.map_id]
theorem bytes_of {b : Array UInt8} {ks : List Int} (h : KBw.bInts b = ks) : b = byteArr ks := by
  rw [← h, bytes_ints]
theorem bytes_is {x y : Array UInt8} {t : Tok} (h : x = y) : ∃ t', Value.bytes x t = Value.bytes y t' := ⟨t, h ▸ rfl⟩
section
variable {M : Model} {A : Around} {E : Value → Shared → Prop} {s : Shared} {env : Env} {h₀ : Heap} {L : Addr} {m : Str → Option Value} {news : List (Addr × Obj)}
theorem bytes_eq {x y : Array UInt8} {t : Tok} (h : x = y) : Value.bytes x t = Value.bytes y t := h ▸ rfl
/-- the two ways of a conditional expression meet in one value -/
theorem ifexp_meets {test body orelse : PySem.Expr} {pos : Pos} (V : Tok → Value) {Q : Value → Shared → Prop} (F : Fr h₀ L s.heap m) (N : News h₀ L s.heap news)
    (h : wpAny M A (isTrue test env (eval test env)) (fun c s₂ => if c then wpAny M A (eval body env) (fun v s' => Stop (∃ t' h' tk', v = V t' ∧ s' = { s with heap := h', toks := tk' } ∧ Fr h₀ L h' m ∧ News h₀ L h' news)) E s₂ else wpAny M A (eval orelse env) (fun v s' => Stop (∃ t' h' tk', v = V t' ∧ s' = { s with heap := h', toks := tk' } ∧ Fr h₀ L h' m ∧ News h₀ L h' news)) E s₂) E s)
    (k : ∀ t' h' tk', Fr h₀ L h' m → News h₀ L h' news → Q (V t') { s with heap := h', toks := tk' }) : wpAny M A (eval (.IfExp test body orelse pos) env) Q E s := by
  refine wpAny_mono (IfExp_ h) (fun v s' hv => ?_) fun _ _ z => z
  obtain ⟨t', h', tk', rfl, rfl, F', N'⟩ := hv.out
  exact k t' h' tk' F' N'
end
end Mine

namespace Mine
theorem anewMC : True := by
  w_top off
  trivial
open PySem.Builtin PySem.Builtin._codecs
theorem loop_read {σ : Type} {l : List UInt8} {f : Nat → Nat × Array Nat × σ → Sem (ForInStep (Nat × Array Nat × σ))}
    (step : ∀ x p out st c, l[p]? = some c → out.size ≤ 1000 → f x (p, out, st) = pure (ForInStep.yield (p + 1, out.push c.toNat, st))) :
    ∀ (R : List Nat) (p : Nat) (out : Array Nat) (st : σ), p + R.length = l.length → out.size + R.length ≤ 1000 → (forIn R (p, out, st) f : Sem _) = pure (l.length, out ++ ((l.drop p).map fun c => c.toNat).toArray, st) := by
  intro R
  induction R with
  | nil =>
    intro p out st hp ho
    simp only [List.length_nil, Nat.add_zero] at hp
    rw [List.forIn_nil, hp]
    simp
  | cons x r ih =>
    intro p out st hp ho
    simp only [List.length_cons] at hp ho
    have hlt : p < l.length := by omega
    have hc : l[p]? = some l[p] := List.getElem?_eq_getElem hlt
    rw [List.forIn_cons, step x p out st _ hc (by omega), pure_bind]
    show forIn r (p + 1, out.push _, st) f = _
    rw [ih (p + 1) _ st (by omega) (by rw [Array.size_push]; omega)]
    have hd : l.drop p = l[p] :: l.drop (p + 1) := List.drop_eq_getElem_cons hlt
    have e : ∀ (r2 : List UInt8) (c : UInt8), out.push c.toNat ++ (r2.map fun c => c.toNat).toArray = out ++ ((c :: r2).map fun c => c.toNat).toArray := by
      intro r2 c
      apply Array.ext'
      simp
    rw [hd, e]
theorem decoded (id : String) (l : List UInt8) (h : ∀ c ∈ l, c.toNat < 128) (hs : l.length ≤ 1000) : runDecoder id utf8Decoder none true l.toArray 0 [] = pure ((l.map fun c => c.toNat).toArray, l.length) := by
  unfold runDecoder
  dsimp only
  rw [Std.Legacy.Range.forIn_eq_forIn_range']
  rw [loop_read (l := l)]
  · simp
  · intro x p out st c hc ho
    have hlt : p < l.length := (List.getElem?_eq_some_iff.mp hc).1
    have hmem : c ∈ l := List.mem_of_getElem? hc
    dsimp only
    rw [if_neg (by rw [sizeLine_eq]; omega), if_neg (by rw [List.size_toArray]; omega)]
    have hg : l.toArray.getD p 0 = c := by simp [hc]
    have he : utf8Decoder.find true l.toArray p = Found.text [c.toNat] (p + 1) := by
      show (match Bytes.utf8At l.toArray p with
        | (.char c, nx) => Found.char c nx
        | (.bad _ stop reason, _) => .bad stop reason _) = _
      have hu : Bytes.utf8At l.toArray p = (.char c.toNat, p + 1) := by
        unfold Bytes.utf8At
        rw [hg]
        exact if_pos (h c hmem)
      rw [hu]
      rfl
    rw [he]
    dsimp only
    congr 3
  · simp [Std.Legacy.Range.size]
  · simp [Std.Legacy.Range.size]; exact hs
theorem loop_once {σ : Type} {n : Nat} {out' : Array UInt8} {f : Nat → Nat × Array UInt8 × σ → Sem (ForInStep (Nat × Array UInt8 × σ))}
    (first : ∀ x st, f x (0, #[], st) = pure (ForInStep.yield (n, out', st))) (last : ∀ x st, f x (n, out', st) = pure (ForInStep.done (n, out', st))) (st : σ) :
    ∀ (R : List Nat), R ≠ [] → (forIn R (0, #[], st) f : Sem _) = pure (n, out', st)
  | [], h => absurd rfl h
  | x :: [], _ => by
    rw [List.forIn_cons, first x st, pure_bind]
    exact List.forIn_nil
  | x :: y :: r, _ => by
    rw [List.forIn_cons, first x st, pure_bind]
    show forIn (y :: r) (n, out', st) f = _
    rw [List.forIn_cons, last y st, pure_bind]
theorem narrow (id : String) (self : Value) (x : Str) (hz : 0 < x.cps.size) (hs : x.cps.size ≤ 1000) (h : ∀ c ∈ x.cps, c < 128) : encodeNarrow id utf8Codec none self x = pure (x.cps.map fun c => c.toUInt8) := by
  have hb : ∀ c ∈ x.cps, utf8Codec.bad c = false := by
    intro c hc
    have := h c hc
    show (decide (55296 ≤ c) && decide (c ≤ 57343)) = false
    rw [decide_eq_false (by omega)]
    rfl
  have hnone : x.cps.findIdx? utf8Codec.bad = none := by
    rw [Array.findIdx?_eq_none_iff]
    exact hb
  have hfold : ∀ (l : List Nat) (acc : Array UInt8), (∀ c ∈ l, c < 128) → l.foldl (fun acc y => acc ++ (utf8Codec.bytesOf y).toArray) acc = acc ++ (l.map fun c => c.toUInt8).toArray := by
    intro l
    induction l with
    | nil => intro acc _; simp
    | cons c r ih =>
      intro acc hl
      have hc : utf8Codec.bytesOf c = [c.toUInt8] := if_pos (hl c (.head _))
      rw [List.foldl_cons, hc, ih _ fun c hc => hl c (.tail _ hc)]
      apply Array.ext'
      simp
  have hg : x.cps[0]? = some x.cps[0] := Array.getElem?_eq_getElem hz
  have hext : x.cps.extract 0 = x.cps := by simp
  have hmap : x.cps.foldl (fun acc y => acc ++ (utf8Codec.bytesOf y).toArray) #[] = x.cps.map fun c => c.toUInt8 := by
    rw [← Array.foldl_toList, hfold _ _ (by intro c hc; exact h c (Array.mem_toList_iff.mp hc))]
    apply Array.ext'
    simp
  unfold encodeNarrow
  dsimp only
  rw [Std.Legacy.Range.forIn_eq_forIn_range']
  rw [loop_once (n := x.cps.size) (out' := x.cps.map fun c => c.toUInt8)]
  · rfl
  · intro y st
    dsimp only
    rw [if_neg (by rw [sizeLine_eq]; decide)]
    simp only [hg]
    rw [if_pos (by rw [hb _ (Array.getElem_mem hz)]; rfl)]
    simp only [hext, hnone, Option.getD_none, Nat.zero_add, Array.extract_size, hmap]
  · intro y st
    dsimp only
    rw [if_neg (by rw [sizeLine_eq, Array.size_map]; omega)]
    have hn : x.cps[x.cps.size]? = none := by simp
    simp only [hn]
  · have hl : x.length = x.cps.size := rfl
    intro he
    have := congrArg List.length he
    simp only [Std.Legacy.Range.size, List.length_range', List.length_nil, hl] at this
    omega
end Mine

namespace Mine
open PySem.Calls
theorem anewMT : True := by
  w_top off
  trivial
/-- the text of signs -/
def textOf (ks : List Int) : Str := ⟨(ks.map Int.toNat).toArray⟩
def Asc (ks : List Int) : Prop := ∀ n ∈ ks, 0 ≤ n ∧ n < 128
theorem textOf_size (ks : List Int) : (textOf ks).cps.size = ks.length := by simp [textOf]
namespace TX
open PySem.Builtin PySem.Builtin._codecs
theorem encode_eq (x : Str) (t u : Tok) : «str.encode» ⟨[.str x t, .str (Str.ofString "utf-8") u], []⟩ = (do ret (← encodeRoad "str.encode" (.str x t) x (Str.ofString "utf-8") none)) := by first | rfl | kernel_rfl
theorem decode_eq {c : UInt8} {cs : List UInt8} {t u : Tok} : «bytes.decode» ⟨[.bytes (c :: cs).toArray t, .str (Str.ofString "utf-8") u], []⟩ = (mkStr (Str.ofString "utf-8") >>= fun _ => mkStr (Str.ofString "utf-8") >>= fun e => mkStr (Str.ofString "bytes.decode") >>= fun d =>
    call (.builtin "_codecs.decode.text") [.bytes (c :: cs).toArray t, e, .none, d] >>= fun v => ret v) := by kernel_rfl
section
variable {prog : Program} {w : World} {M : Model} {A : Around} {E : Value → Shared → Prop} {s : Shared} {ks : List Int} {t u : Tok}
theorem m_encode {x : Str} {pl : Sem Bool} {Q : Value × List Value → Shared → Prop} (h : Q (.builtin "str.encode", [.str x t]) s) : wpAny M A (getMethod (.str x t) (Str.ofString "encode") pl) Q E s := by
  with_reducible exact GM.of (.str x t) (typeIs_str _ _ _) F.slot_str_encode F.type_str_encode GM.noRef h
theorem encode {Q : Value → Shared → Prop} (hn : ks ≠ []) (ha : Asc ks) (hl : ks.length ≤ 1000) (h : ∀ t' k, Q (.bytes (byteArr ks) t') { s with toks := k }) :
    wpAny (model prog w) A (call (.builtin "str.encode") [.str (textOf ks) t, .str (Str.ofString "utf-8") u]) Q E s := by
  refine wpAny_call_entry F.slot_str_encode (typeIs_str s _ t) F.entry_str_encode ?_ (F.args_str_encode_2 _ _)
  rw [encode_eq, encodeRoad_utf8, narrow _ _ _ (by rw [textOf_size]; exact List.length_pos_iff.mpr hn) (by rw [textOf_size]; exact hl)]
  · have he : (textOf ks).cps.map (fun c => c.toUInt8) = byteArr ks := by
      apply Array.ext'
      simp [textOf, byteArr]
    rw [he]
    refine wpAny_bind (wpAny_bind (wpAny_pure (wpAny_mkBytes (wpAny_pure ⟨_, rfl, h _ _⟩) ?_)))
    rw [byteArr_size, sizeLine_eq]
    omega
  · intro c hc
    have hc2 : c ∈ ks.map Int.toNat := by simpa [textOf] using hc
    obtain ⟨n, hn2, rfl⟩ := List.mem_map.mp hc2
    have := ha n hn2
    omega
theorem decode {Q : Value → Shared → Prop} (hn : ks ≠ []) (ha : Asc ks) (hl : ks.length ≤ 1000) (h : ∀ t' k, Q (.str (textOf ks) t') { s with toks := k }) :
    wpAny (model prog w) A (call (.builtin "bytes.decode") [.bytes (byteArr ks) t, .str (Str.ofString "utf-8") u]) Q E s := by
  have hlist : ∃ c cs, ks.map (fun n => n.toNat.toUInt8) = c :: cs := by
    cases ks with
    | nil => exact absurd rfl hn
    | cons a r => exact ⟨_, _, rfl⟩
  obtain ⟨c, cs, hc⟩ := hlist
  have hb : byteArr ks = (c :: cs).toArray := by unfold byteArr; rw [hc]
  have hsm : ∀ n ∈ ks, (n.toNat.toUInt8).toNat = n.toNat := by
    intro n hn2
    have := ha n hn2
    show (UInt8.ofNat n.toNat).toNat = n.toNat
    rw [UInt8.toNat_ofNat']
    omega
  have hd : ∀ id, runDecoder id utf8Decoder none true (c :: cs).toArray 0 [] = pure ((textOf ks).cps, (c :: cs).length) := by
    intro id
    rw [decoded id (c :: cs)]
    · congr 2
      unfold textOf
      rw [← hc, List.map_map]
      exact congrArg List.toArray (List.map_congr_left hsm)
    · intro x hx
      rw [← hc] at hx
      obtain ⟨n, hn2, rfl⟩ := List.mem_map.mp hx
      rw [hsm n hn2]
      have := ha n hn2
      omega
    · rw [← hc, List.length_map]; exact hl
  rw [hb]
  refine wpAny_call_entry FB.slot_bytes_decode (typeIs_bytes _ _ _) FB.entry_bytes_decode ?_ (by unfold argsOk; kernel_rfl)
  rw [decode_eq]
  refine wpAny_bind (wpAny_mkStr ?_ (by decide))
  refine wpAny_bind (wpAny_mkStr ?_ (by decide))
  refine wpAny_bind (wpAny_mkStr ?_ (by decide))
  refine wpAny_bind (call_function_meets KBd.kind_text KBd.plain_text KBd.entry_text (KBd.args_text _ _ _ _) (KBd.meets_text hd) ⟨?_, wpAny_pure ⟨_, rfl, h _ _⟩⟩)
  show (textOf ks).cps.size ≤ sizeLine
  rw [textOf_size, sizeLine_eq]
  omega
end
theorem text_app (ks ls : List Int) : textOf ks ++ textOf ls = textOf (ks ++ ls) := by
  apply Str.ext'
  show (textOf ks).cps ++ (textOf ls).cps = _
  simp [textOf]
section
variable {prog : Program} {w : World} {M : Model} {A : Around} {E : Value → Shared → Prop} {s : Shared} {ks ls : List Int} {t u : Tok}
theorem add {Q : Value → Shared → Prop} (hl : ks.length + ls.length ≤ 4096) (h : ∀ t' k, Q (.str (textOf (ks ++ ls)) t') { s with toks := k }) : wpAny (model prog w) A (binaryOp .Add (.str (textOf ks) t) (.str (textOf ls) u)) Q E s := by
  refine SB.add (fun t' k => ?_) (by show (textOf ks).cps.size + (textOf ls).cps.size ≤ sizeLine; rw [textOf_size, textOf_size, sizeLine_eq]; omega)
  rw [text_app]
  exact h t' k
abbrev SG : Str := Str.ofString "ABCDEFGHIJKLMNOPQRSTUVWXYZabcdefghijklmnopqrstuvwxyz0123456789-_"
theorem sg_at : ∀ k < 64, SG.cps[k]? = some ((SIX8.getD k 0).toNat) := by decide +kernel
theorem sg_len : SG.length = 64 := by decide +kernel
theorem item {value slice : PySem.Expr} {i : Int} {Q : Value → Shared → Prop} (h0 : 0 ≤ i) (h1 : i < 64) (h : ∀ t' k, Q (.str (textOf [sgn i]) t') { s with toks := k })
    (hs : subscripted slice false (.str SG t) (.int i u) = operate [.str SG t, .int i u] (getItem (.str SG t) (.int i u)) := by with_unfolding_all rfl)
    (ht : ∀ r, letTemporaryGo value (.str SG t) r = pure () := by intro _; with_unfolding_all rfl) : wpAny (model prog w) A (subscriptTail value slice (.str SG t) (.int i u)) Q E s := by
  have hx : textOf [sgn i] = ⟨#[(SIX8.getD i.toNat 0).toNat]⟩ := by
    show Str.mk _ = _
    simp [sgn]
  refine tail_of_ItemOn ⟨"str", _, F.slot_str_getitem.lookup, typeIs_str _ _ _, P.getItem_str (c := (SIX8.getD i.toNat 0).toNat) ?_ ?_ ?_⟩ hs ht
  · rw [decide_eq_false (show ¬ (i < -(2 ^ 63 : Int)) by omega), decide_eq_false (show ¬ (i ≥ 2 ^ 63) by omega)]
    rfl
  · rw [sg_len]
    have e : seqIndex? i 64 = some i.toNat := by
      have h2 : ¬ i < 0 := by omega
      simp [seqIndex?, h2, h0, h1]
    rw [e]
    exact sg_at _ (by omega)
  · rw [← hx]
    exact h _ _
end
theorem cut2 (a b c d : Int) : Txt.slice (textOf [a, b, c, d]) none (some 2) = textOf [a, b] := by rfl
theorem cut3 (a b c d : Int) : Txt.slice (textOf [a, b, c, d]) none (some 3) = textOf [a, b, c] := by rfl
theorem cut4 (a b c d : Int) : Txt.slice (textOf [a, b, c, d]) none (some 4) = textOf [a, b, c, d] := by rfl
end TX
end Mine

namespace Mine
theorem anewM2 : True := by
  w_top off
  trivial
section
variable {M : Model} {A : Around} {E : Value → Shared → Prop} {s : Shared} {env : Env}
theorem callWith_kwF {pos : Pos} {id : String} {first : List Value} {e : PySem.Expr} {rest : List PySem.Expr} {kws : List Keyword} {Q : Value → Shared → Prop}
    (h : wpAny M A (spliced (backTo pos (starEach (e :: rest) env))) (fun vs s₁ => wpAny M A (evalAll ((backToKw pos (keywordEach kws env)).map (·.2)))
      (fun kvs s₂ => wpAny M A (call (.builtin id) (first ++ vs) (((backToKw pos (keywordEach kws env)).filterMap (·.1)).zip kvs)) Q E s₂) E s₁) E s)
    (he : backTo pos (starEach (e :: rest) env) = (false, eval e env) :: backTo pos (starEach rest env) := by rfl)
    (hplain : (backTo pos (starEach (e :: rest) env)).any (·.1) = false := by rfl)
    (hall : (backToKw pos (keywordEach kws env)).all (·.1.isSome) = true := by rfl)
    (hkw : (backToKw pos (keywordEach kws env)).any (·.1.isNone) = false := by rfl) :
    wpAny M A (callWith pos (.builtin id) first (backTo pos (starEach (e :: rest) env)) (backToKw pos (keywordEach kws env))) Q E s := by
  refine callWith_builtin_kwB hplain hkw ?_
  rw [he] at h ⊢
  exact evalArgs_kwB hall h
end

namespace TB
open PySem.Builtin.Int (intBits)
theorem args3 (a b c d : Value) : argsOk "int.to_bytes" ⟨[a, b, c], [(PySem.Str.ofString "signed", d)]⟩ := by unfold argsOk; kernel_rfl
theorem if_not {α : Type} {M : Model} {A : Around} {E : Value → Shared → Prop} {s : Shared} {c : Bool} {a b : Sem α} {Q : α → Shared → Prop} (hc : c = false) (h : wpAny M A b Q E s) : wpAny M A (if c = true then a else b) Q E s := by
  subst hc
  exact h
theorem if_so {α : Type} {M : Model} {A : Around} {E : Value → Shared → Prop} {s : Shared} {c : Bool} {a b : Sem α} {Q : α → Shared → Prop} (hc : c = true) (h : wpAny M A a Q E s) : wpAny M A (if c = true then a else b) Q E s := by
  subst hc
  exact h
section
variable {prog : Program} {w : World} {A : Around} {E : Value → Shared → Prop} {s : Shared} {x : Int} {k : Nat} {t u v : Tok}
theorem bits_le (h0 : 0 ≤ x) (h1 : x < 256 ^ k) : intBits x ≤ 8 * k := KTBy.bits_le (B := 256 ^ k) rfl h0 h1
theorem bits_gt (h0 : 0 ≤ x) (h1 : ¬ x < 256 ^ k) : 8 * k < intBits x := by
  refine Nat.lt_of_not_le fun hc => h1 ?_
  have h := intBits_le_iff.mp hc
  have e2 : (2 : Nat) ^ 8 = 256 := by decide
  rw [Nat.pow_mul, e2] at h
  rw [KTBy.p256]
  omega
theorem to_big_kw {Q : Value → Shared → Prop} (hk : k ≤ 4096) (h0 : 0 ≤ x) (h1 : x < 256 ^ k) (h : ∀ (b : Array UInt8) t' k', KBw.bInts b = (KTBy.little k x).reverse → Q (.bytes b t') { s with toks := k' }) :
    wpAny (model prog w) A (call (.builtin "int.to_bytes") [.int x t, .int (k : Int) u, .str (PySem.Str.ofString "big") v] [(PySem.Str.ofString "signed", .bool false)]) Q E s := by
  refine wpAny_call_entry_kw KTBy.slot (typeIs_int s x t) KTBy.entry ?_ (args3 _ _ _ _)
  have hb := bits_le h0 h1
  show wpAny _ _ (Builtin.Int.intOfSelf (.int x t) >>= fun y => _) _ _ s
  refine wpAny_bind (wpAny_of_eq (a := x) rfl ?_)
  show wpAny _ _ (Builtin.Int.intBindNamed "to_bytes" ["length", "byteorder", "signed"] 0 2 [.int (k : Int) u, .str (PySem.Str.ofString "big") v] [(PySem.Str.ofString "signed", .bool false)] >>= fun l => _) _ _ s
  refine wpAny_bind (wpAny_of_eq (a := [some (.int (k : Int) u), some (.str (PySem.Str.ofString "big") v), some (.bool false)]) (by kernel_rfl) ?_)
  show wpAny _ _ (Builtin.Int.intIndex "int.to_bytes" (.int (k : Int) u) >>= fun n => _) _ _ s
  refine wpAny_bind (wpAny_of_eq (a := (k : Int)) rfl ?_)
  refine if_not (by show (decide ((k : Int) < -(2 ^ 63 : Int)) || decide ((k : Int) ≥ 2 ^ 63)) = false; rw [decide_eq_false (show ¬ ((k : Int) < -(2 ^ 63 : Int)) by omega), decide_eq_false (show ¬ ((k : Int) ≥ 2 ^ 63) by omega)]; rfl) ?_
  refine wpAny_bind (wpAny_of_eq (a := PySem.Str.ofString "big") (by kernel_rfl) ?_)
  show wpAny _ _ (truthy (.bool false) >>= fun y => _) _ _ s
  refine wpAny_bind (wpAny_of_eq (a := false) rfl ?_)
  refine wpAny_bind (wpAny_of_eq (a := false) (by kernel_rfl) ?_)
  refine wpAny_ite_false (decide_eq_false (show ¬ ((k : Int) < 0) by omega)) ?_
  refine wpAny_ite_false (decide_eq_false (show ¬ ((k : Int) > 2 ^ 63 - 1 - 33) by omega)) ?_
  refine wpAny_ite_false (decide_eq_false (show ¬ ((k : Int) > (sizeLine : Int)) by rw [sizeLine_eq]; omega)) ?_
  refine if_not (by show (decide (x < 0) && !false) = false; rw [decide_eq_false (show ¬ x < 0 by omega)]; rfl) ?_
  refine if_not (by show (_ && decide ((intBits x : Int) > 8 * (k : Int))) = false; rw [decide_eq_false (show ¬ ((intBits x : Int) > 8 * (k : Int)) by omega), Bool.and_false]) ?_
  refine wpAny_bind (wpAny_mkBytes (wpAny_pure ⟨_, rfl, h _ _ _ ?_⟩) (by show (List.reverse (KTBy.low x (Int.toNat (k : Int)))).length ≤ sizeLine; rw [List.length_reverse, KTBy.low_length, Int.toNat_natCast, sizeLine_eq]; omega))
  show (List.map (fun c : UInt8 => ((c.toNat : Nat) : Int)) (List.reverse (KTBy.low x (Int.toNat (k : Int))))) = (KTBy.little k x).reverse
  rw [Int.toNat_natCast, List.map_reverse, KTBy.low_ints h0 h1, ← KTBy.little_eq]
theorem too_big_kw {Q : Value → Shared → Prop} (hh : A.in1.handled = none) (hk : k ≤ 4096) (h0 : 0 ≤ x) (h1 : ¬ x < 256 ^ k) (h : ∀ h' tk e, Heap.NewExc s.heap h' e "OverflowError" → E (.ref e) { s with heap := h', toks := tk }) :
    wpAny (model prog w) A (call (.builtin "int.to_bytes") [.int x t, .int (k : Int) u, .str (PySem.Str.ofString "big") v] [(PySem.Str.ofString "signed", .bool false)]) Q E s := by
  refine wpAny_call_entry_kw KTBy.slot (typeIs_int s x t) KTBy.entry ?_ (args3 _ _ _ _)
  have hb := bits_gt h0 h1
  have hx : x ≠ 0 := by
    intro hx
    subst hx
    exact h1 (Int.pow_pos (by decide))
  show wpAny _ _ (Builtin.Int.intOfSelf (.int x t) >>= fun y => _) _ _ s
  refine wpAny_bind (wpAny_of_eq (a := x) rfl ?_)
  show wpAny _ _ (Builtin.Int.intBindNamed "to_bytes" ["length", "byteorder", "signed"] 0 2 [.int (k : Int) u, .str (PySem.Str.ofString "big") v] [(PySem.Str.ofString "signed", .bool false)] >>= fun l => _) _ _ s
  refine wpAny_bind (wpAny_of_eq (a := [some (.int (k : Int) u), some (.str (PySem.Str.ofString "big") v), some (.bool false)]) (by kernel_rfl) ?_)
  show wpAny _ _ (Builtin.Int.intIndex "int.to_bytes" (.int (k : Int) u) >>= fun n => _) _ _ s
  refine wpAny_bind (wpAny_of_eq (a := (k : Int)) rfl ?_)
  refine if_not (by show (decide ((k : Int) < -(2 ^ 63 : Int)) || decide ((k : Int) ≥ 2 ^ 63)) = false; rw [decide_eq_false (show ¬ ((k : Int) < -(2 ^ 63 : Int)) by omega), decide_eq_false (show ¬ ((k : Int) ≥ 2 ^ 63) by omega)]; rfl) ?_
  refine wpAny_bind (wpAny_of_eq (a := PySem.Str.ofString "big") (by kernel_rfl) ?_)
  show wpAny _ _ (truthy (.bool false) >>= fun y => _) _ _ s
  refine wpAny_bind (wpAny_of_eq (a := false) rfl ?_)
  refine wpAny_bind (wpAny_of_eq (a := false) (by kernel_rfl) ?_)
  refine wpAny_ite_false (decide_eq_false (show ¬ ((k : Int) < 0) by omega)) ?_
  refine wpAny_ite_false (decide_eq_false (show ¬ ((k : Int) > 2 ^ 63 - 1 - 33) by omega)) ?_
  refine wpAny_ite_false (decide_eq_false (show ¬ ((k : Int) > (sizeLine : Int)) by rw [sizeLine_eq]; omega)) ?_
  refine if_not (by show (decide (x < 0) && !false) = false; rw [decide_eq_false (show ¬ x < 0 by omega)]; rfl) ?_
  refine if_so (by show ((x != 0) && decide ((intBits x : Int) > 8 * (k : Int))) = true; rw [decide_eq_true (show ((intBits x : Int) > 8 * (k : Int)) by omega), Bool.and_true]; exact bne_iff_ne.mpr hx) ?_
  refine wpAny_bind (wpAny_rule ?_)
  exact wpAny_bind (wpAny_raiseErrorWords plainExc_OverflowError hh h)
end
end TB

namespace FB2
section
variable {prog : Program} {w : World} {M : Model} {A : Around} {E : Value → Shared → Prop} {s : Shared} {h₀ : Heap} {L : Addr} {m : PySem.Str → Option Value} {news : List (Addr × Obj)}
theorem grown {n k : Nat} {Q : Value → Shared → Prop} (hk : k ≤ 4096) (hn : n < 256 ^ k) (h : Q (.int (n : Int) s.toks) { s with toks := s.toks + 1 }) : wpAny M A (mkIntGrown (n : Int)) Q E s := by
  unfold mkIntGrown
  have hl : ¬ ((n : Int).natAbs.log2 ≥ bitsLine) := by
    rw [Int.natAbs_natCast]
    have hb : bitsLine = 134217728 := by first | rfl | decide
    by_cases hz : n = 0
    · subst hz
      rw [hb]
      decide
    · have e2 : (2 : Nat) ^ 8 = 256 := by decide
      have h2 : n < 2 ^ (8 * k) := by rw [Nat.pow_mul, e2]; exact hn
      have h1 := (Nat.log2_lt hz).mpr h2
      omega
  rw [if_neg hl]
  exact wpAny_mkInt h
theorem tree_of {b : Array UInt8} {rest : List Value} {kw : List (Str × Value)} {t u : Tok} {P : Fin → Shared → Prop} (hl : b.size ≤ 4096)
    (hbind : Builtin.Int.intBindNamed "from_bytes" ["bytes", "byteorder", "signed"] 1 2 rest kw = pure [some (.bytes b t), some (.str (PySem.Str.ofString "big") u), none])
    (h : P (.done (.ret (.int (KFB.value (KBw.bInts b)) s.toks))) { s with toks := s.toks + 1 }) :
    wpAny M A (Builtin.«int.from_bytes» ⟨.type "int" :: rest, kw⟩) P E s := by
  have hv : ((b.toList.foldl (fun (acc : Nat) (b : UInt8) => acc * 256 + b.toNat) 0 : Nat) : Int) = KFB.value (KBw.bInts b) := KFB.fold_cast b.toList 0
  have hn : b.toList.foldl (fun (acc : Nat) (b : UInt8) => acc * 256 + b.toNat) 0 < 256 ^ b.size := by
    have h1 := KFB.fold_lt b.toList 0
    rw [Nat.zero_add, Nat.one_mul, Array.length_toList] at h1
    exact h1
  unfold Builtin.«int.from_bytes»
  refine wpAny_bind (wpAny_of_eq (a := true) KFB.type_int ?_)
  refine TB.if_not rfl ?_
  refine wpAny_bind (wpAny_of_eq (a := true) F.conv_sub_int ?_)
  refine TB.if_not rfl ?_
  refine wpAny_bind (wpAny_of_eq (a := [some (.bytes b t), some (.str (PySem.Str.ofString "big") u), none]) hbind ?_)
  refine wpAny_bind (wpAny_of_eq (a := PySem.Str.ofString "big") (by kernel_rfl) ?_)
  refine wpAny_bind (wpAny_of_eq (a := false) rfl ?_)
  refine wpAny_bind (wpAny_of_eq (a := false) (by kernel_rfl) ?_)
  refine wpAny_bind (wpAny_of_eq (a := b) rfl ?_)
  show wpAny _ _ (mkIntGrown (b.toList.foldl (fun (acc : Int) (b : UInt8) => acc * 256 + (b.toNat : Int)) ((0 : Nat) : Int)) >>= fun v => _) _ _ _
  rw [KFB.foldI_eq]
  refine wpAny_bind (grown hl hn ?_)
  rw [hv]
  refine TB.if_so (by decide +kernel) ?_
  exact wpAny_bind (wpAny_pure (wpAny_pure h))
theorem check_pos {b : Array UInt8} {t u : Tok} {o : PySem.Str} : checkBoundCall "int.from_bytes" ⟨[.type "int", .bytes b t, .str o u], []⟩ = pure () := by first | kernel_rfl | rfl
theorem check_kw {b : Array UInt8} {t u : Tok} {o : PySem.Str} : checkBoundCall "int.from_bytes" ⟨[.type "int", .bytes b t], [(PySem.Str.ofString "byteorder", .str o u)]⟩ = pure () := by first | kernel_rfl | rfl
theorem bind_pos {b : Array UInt8} {t u : Tok} {o : PySem.Str} : Builtin.Int.intBindNamed "from_bytes" ["bytes", "byteorder", "signed"] 1 2 [.bytes b t, .str o u] [] = pure [some (.bytes b t), some (.str o u), none] := by kernel_rfl
theorem bind_kw {b : Array UInt8} {t u : Tok} {o : PySem.Str} : Builtin.Int.intBindNamed "from_bytes" ["bytes", "byteorder", "signed"] 1 2 [.bytes b t] [(PySem.Str.ofString "byteorder", .str o u)] = pure [some (.bytes b t), some (.str o u), none] := by kernel_rfl
theorem call_of {x : Addr} {rest : List Value} {kw : List (Str × Value)} {z : Int} {Q : Value → Shared → Prop} (ho : KFB.StandsAt x s.heap)
    (hcheck : checkBoundCall "int.from_bytes" ⟨.type "int" :: rest, kw⟩ = pure ())
    (tree : ∀ {P : Fin → Shared → Prop} {E' : Value → Shared → Prop} {A' : Around}, P (.done (.ret (.int z s.toks))) { s with toks := s.toks + 1 } → wpAny (model prog w) A' (Builtin.«int.from_bytes» ⟨.type "int" :: rest, kw⟩) P E' s)
    (h : Q (.int z s.toks) { s with toks := s.toks + 1 }) : wpAny (model prog w) A (call (.ref x) rest kw) Q E s := by
  refine wpAny_call (codeAny_of_tree ?_)
  show wpAny _ A.in1 (callAny (.ref x) ⟨rest, kw⟩) _ _ s
  simp only [callAny]
  refine wpAny_bind (wpAny_load ho ?_)
  simp only [KFB.bound, show (Value.type "builtin_function_or_method" == Value.type "method" || Value.type "builtin_function_or_method" == Value.type "builtin_function_or_method" || Value.type "builtin_function_or_method" == Value.type "method-wrapper") = true by decide, if_true]
  refine TB.if_so (by decide) ?_
  refine wpAny_bind (wpAny_of_eq (a := ()) hcheck ?_)
  refine wpAny_bind (wpAny_pure (wpAny_pure ?_))
  exact ⟨KFB.quiet_fb, codeAny_builtin KFB.entry_fb (tree h)⟩
theorem call_pos {x : Addr} {b : Array UInt8} {t u : Tok} {Q : Value → Shared → Prop} (N : News h₀ L s.heap news) (hm : (x, KFB.bound) ∈ news) (hl : b.size ≤ 4096)
    (h : ∀ t' k, Q (.int (KFB.value (KBw.bInts b)) t') { s with toks := k }) : wpAny (model prog w) A (call (.ref x) [.bytes b t, .str (PySem.Str.ofString "big") u]) Q E s :=
  call_of (KFB.at_of N hm) check_pos (fun z => tree_of hl bind_pos z) (h _ _)
theorem call_kw {x : Addr} {b : Array UInt8} {t u : Tok} {Q : Value → Shared → Prop} (N : News h₀ L s.heap news) (hm : (x, KFB.bound) ∈ news) (hl : b.size ≤ 4096)
    (h : ∀ t' k, Q (.int (KFB.value (KBw.bInts b)) t') { s with toks := k }) : wpAny (model prog w) A (call (.ref x) [.bytes b t] [(PySem.Str.ofString "byteorder", .str (PySem.Str.ofString "big") u)]) Q E s :=
  call_of (KFB.at_of N hm) check_kw (fun z => tree_of hl bind_kw z) (h _ _)
end
end FB2
namespace BO
section
variable {prog : Program} {w : World} {A : Around} {E : Value → Shared → Prop} {s : Shared} {b c : Array UInt8} {t u : Tok} {Q : Value → Shared → Prop}
theorem noI : typeLookup (.type "bytes") (dunderI "add") = pure none := by rw [typeLookup_type, builtinLookup_eq_fast]; kernel_rfl
theorem iadd_bytes (hb : ¬ b.isEmpty = true) (hc : ¬ c.isEmpty = true) (hsz : b.size + c.size ≤ 16777216) (h : ∀ t' k, Q (.bytes (b ++ c) t') { s with toks := k }) : wpAny (model prog w) A (inplaceOp .Add (.bytes b t) (.bytes c u)) Q E s := by
  refine iconcat_gives (typeIs_bytes s b t) (typeIs_bytes s c u) noI KBy.noFill_bytes_add KBy.seq_bytes_add FB.slot_bytes_add FB.entry_bytes_add (FB.args_bytes_add_2 _ _) (KBy.gives_bytes_add (KBy.tooLong_not hsz)) ?_
  rw [if_neg hb, if_neg hc]
  exact ⟨by rw [Array.size_append, sizeLine_eq]; exact hsz, h s.toks (s.toks + 1)⟩
theorem not_empty {ks : List Int} (h : ks ≠ []) : ¬ (byteArr ks).isEmpty = true := by
  intro he
  have h1 := Array.isEmpty_iff.1 he
  have h2 := byteArr_size ks
  rw [h1] at h2
  exact h (List.eq_nil_of_length_eq_zero h2.symm)
theorem byteArr_app (ks ls : List Int) : byteArr ks ++ byteArr ls = byteArr (ks ++ ls) := by simp [byteArr]
theorem iadd_K {ks ls : List Int} (hk : ks ≠ []) (hl : ls ≠ []) (hsz : ks.length + ls.length ≤ 16777216) (h : ∀ t' k, Q (.bytes (byteArr (ks ++ ls)) t') { s with toks := k }) : wpAny (model prog w) A (inplaceOp .Add (.bytes (byteArr ks) t) (.bytes (byteArr ls) u)) Q E s := by
  refine iadd_bytes (not_empty hk) (not_empty hl) (by rw [byteArr_size, byteArr_size]; exact hsz) fun t' k => ?_
  rw [byteArr_app]
  exact h t' k
theorem add_K {ks ls : List Int} (hsz : ks.length + ls.length ≤ 16777216) (h : ∀ t' k, Q (.bytes (byteArr (ks ++ ls)) t') { s with toks := k }) : wpAny (model prog w) A (binaryOp .Add (.bytes (byteArr ks) t) (.bytes (byteArr ls) u)) Q E s := by
  refine KBy.add_bytes (by rw [byteArr_size, byteArr_size]; exact hsz) fun t' k => ?_
  rw [byteArr_app]
  exact h t' k
/-- so many times one octet -/
theorem mul_one {x n : Int} (h0 : -1000 ≤ n) (h1 : n ≤ 1000) (h : ∀ t' k, Q (.bytes (byteArr (List.replicate n.toNat x)) t') { s with toks := k }) : wpAny (model prog w) A (binaryOp .Mult (.bytes #[x.toNat.toUInt8] t) (.int n u)) Q E s := by
  refine bytes_mul_any (b := [x.toNat.toUInt8]) (by simp) (by omega) (by omega) (by simp) fun t' k => ?_
  have e : (List.replicate n.toNat [x.toNat.toUInt8]).flatten.toArray = byteArr (List.replicate n.toNat x) := by
    unfold byteArr
    rw [List.map_replicate]
    congr 1
    induction n.toNat with
    | zero => rfl
    | succ k ih => rw [List.replicate_succ, List.flatten_cons, ih, List.replicate_succ]; rfl
  rw [e]
  exact h t' k
end
end BO
end Mine

namespace Mine
theorem anewMD : True := by
  w_top off
  trivial
/-- the reader's state: what is found, the place, what is left, the pads, how many signs -/
abbrev DS := List Int × Int × Int × Int × Int
def step : DS → Int → DS
  | (found, place, left, pads, many), c =>
    if c = 61 then (found, place, left, pads + 1, many)
    else if sixOf c < 0 then (found, place, left, pads, many)
    else if place = 0 then (found, Int.fmod (place + 1) 4, sixOf c, 0, many + 1)
    else if place = 1 then (found ++ [left * 4 + Int.fdiv (sixOf c) 16], Int.fmod (place + 1) 4, Int.fmod (sixOf c) 16, 0, many + 1)
    else if place = 2 then (found ++ [left * 16 + Int.fdiv (sixOf c) 4], Int.fmod (place + 1) 4, Int.fmod (sixOf c) 4, 0, many + 1)
    else (found ++ [left * 64 + sixOf c], Int.fmod (place + 1) 4, left, 0, many + 1)
def run (ks : List Int) : DS := ks.foldl step ([], 0, 0, 0, 0)
theorem run_snoc (ks : List Int) (c : Int) : run (ks ++ [c]) = step (run ks) c := by simp [run]
theorem sixOf_lt (c : Int) : sixOf c < 64 := by
  unfold sixOf
  (repeat' split) <;> omega
def Good : DS → Prop
  | (found, place, left, pads, many) => KBa.In found ∧ 0 ≤ place ∧ place < 4 ∧ (place = 1 → 0 ≤ left ∧ left < 64) ∧ (place = 2 → 0 ≤ left ∧ left < 16) ∧ (place = 3 → 0 ≤ left ∧ left < 4) ∧ 0 ≤ pads ∧ 0 ≤ many
theorem in_snoc {ks : List Int} {x : Int} (h : KBa.In ks) (h0 : 0 ≤ x) (h1 : x < 256) : KBa.In (ks ++ [x]) := by
  intro n hn
  rcases List.mem_append.mp hn with h2 | h2
  · exact h n h2
  · rw [List.mem_singleton.mp h2]
    exact ⟨h0, h1⟩
theorem good_step : ∀ (d : DS) (c : Int), Good d → Good (step d c) := by
  rintro ⟨found, place, left, pads, many⟩ c ⟨h1, h2, h3, h4, h5, h6, h7, h8⟩
  have hs := sixOf_lt c
  have em : Int.fmod (place + 1) 4 = (place + 1) % 4 := Int.fmod_eq_emod_of_nonneg _ (by decide)
  have e16 : Int.fmod (sixOf c) 16 = sixOf c % 16 := Int.fmod_eq_emod_of_nonneg _ (by decide)
  have e4 : Int.fmod (sixOf c) 4 = sixOf c % 4 := Int.fmod_eq_emod_of_nonneg _ (by decide)
  have d16 : Int.fdiv (sixOf c) 16 = sixOf c / 16 := Int.fdiv_eq_ediv_of_nonneg _ (by decide)
  have d4 : Int.fdiv (sixOf c) 4 = sixOf c / 4 := Int.fdiv_eq_ediv_of_nonneg _ (by decide)
  unfold step
  simp only [em, e16, e4, d16, d4]
  generalize sixOf c = x at *
  split
  · exact ⟨h1, by omega, by omega, h4, h5, h6, by omega, h8⟩
  · split
    · exact ⟨h1, h2, h3, h4, h5, h6, h7, h8⟩
    · split
      · exact ⟨h1, by omega, by omega, by omega, by omega, by omega, by omega, by omega⟩
      · split
        · exact ⟨in_snoc h1 (by omega) (by omega), by omega, by omega, by omega, by omega, by omega, by omega, by omega⟩
        · split
          · exact ⟨in_snoc h1 (by omega) (by omega), by omega, by omega, by omega, by omega, by omega, by omega, by omega⟩
          · exact ⟨in_snoc h1 (by omega) (by omega), by omega, by omega, by omega, by omega, by omega, by omega, by omega⟩
theorem good_fold : ∀ (ks : List Int) (d : DS), Good d → Good (ks.foldl step d)
  | [], _, h => h
  | c :: r, d, h => good_fold r _ (good_step d c h)
theorem good_run (ks : List Int) : Good (run ks) := good_fold ks _ ⟨fun _ hn => (nomatch hn), by omega, by omega, by omega, by omega, by omega, by omega, by omega⟩
theorem step_len (d : DS) (c : Int) : (step d c).1.length ≤ d.1.length + 1 := by
  obtain ⟨found, place, left, pads, many⟩ := d
  dsimp only [step]
  (repeat' split) <;> simp
theorem fold_len : ∀ (ks : List Int) (d : DS), (ks.foldl step d).1.length ≤ d.1.length + ks.length
  | [], _ => by simp
  | c :: r, d => by
    have h1 := fold_len r (step d c)
    have h2 := step_len d c
    rw [List.foldl_cons, List.length_cons]
    omega
theorem run_len (ks : List Int) : (run ks).1.length ≤ ks.length := by
  have h := fold_len ks ([], 0, 0, 0, 0)
  simpa [run] using h
end Mine

namespace Mine
theorem anewM1 : True := by
  w_top off
  trivial
theorem six_told (news : List (Addr × Obj)) (c : Int) (t : Tok) : Told 1 8 72 [.int c t] [] news (fun v => ∃ t', v = .int (sixOf c) t') := by
  unfold Told
  k_fill
  intro w mean mg mb dp un gd cn cs a ccd cl outer A₀ base h₀ L m s Q E B F X N T hk hd hu hret
  refine wpAny_call ?_
  k_dflt cell_enter
  k_steps
  all_goals (refine hret _ _ _ (ktn_int ?_) (by k_asm) (by first | k_asm | (refine' cb_drop ?cbN ?cbS; (case cbN => assumption); (case cbS => kcj_all))))
  all_goals (simp only [decide_eq_true_eq, decide_eq_false_iff_not, List.any_cons, List.any_nil, Bool.or_false, Bool.or_eq_true, Bool.or_eq_false_iff, beq_iff_eq, beq_eq_false_iff_ne] at *)
  all_goals (unfold sixOf; clear hret; (repeat' split) <;> omega)
end Mine

namespace Mine
theorem anewM3 : True := by
  w_top off
  trivial
open PySem.Builtin.Int (intBits)
theorem TB.to_big_z {prog : Program} {w : World} {A : Around} {E : Value → Shared → Prop} {s : Shared} {x z : Int} {t u v : Tok} {Q : Value → Shared → Prop} (z0 : 0 ≤ z) (z1 : z ≤ 4096) (h0 : 0 ≤ x) (h1 : x < 256 ^ z.toNat) (h : ∀ (b : Array UInt8) t' k', KBw.bInts b = (KTBy.little z.toNat x).reverse → Q (.bytes b t') { s with toks := k' }) :
    wpAny (model prog w) A (call (.builtin "int.to_bytes") [.int x t, .int z u, .str (PySem.Str.ofString "big") v] [(PySem.Str.ofString "signed", .bool false)]) Q E s := by
  obtain ⟨k, rfl⟩ := Int.eq_ofNat_of_zero_le z0
  exact TB.to_big_kw (by omega) h0 h1 h
theorem TB.too_big_z {prog : Program} {w : World} {A : Around} {E : Value → Shared → Prop} {s : Shared} {x z : Int} {t u v : Tok} {Q : Value → Shared → Prop} (hh : A.in1.handled = none) (z0 : 0 ≤ z) (z1 : z ≤ 4096) (h0 : 0 ≤ x) (h1 : ¬ x < 256 ^ z.toNat) (h : ∀ h' tk e, Heap.NewExc s.heap h' e "OverflowError" → E (.ref e) { s with heap := h', toks := tk }) :
    wpAny (model prog w) A (call (.builtin "int.to_bytes") [.int x t, .int z u, .str (PySem.Str.ofString "big") v] [(PySem.Str.ofString "signed", .bool false)]) Q E s := by
  obtain ⟨k, rfl⟩ := Int.eq_ofNat_of_zero_le z0
  exact TB.too_big_kw hh (by omega) h0 h1 h
/-- the octets of a number, so many -/
def big (k : Nat) (n : Int) : List Int := (KTBy.little k n).reverse
/-- how many octets a number wants -/
def nb (n : Int) : Nat := (intBits n + 7) / 8
def row (n : Int) : List Int := big (nb n) n
theorem big_length (k : Nat) (n : Int) : (big k n).length = k := by unfold big; rw [List.length_reverse, KTBy.little_length]
theorem nb_cast (n : Int) : Int.fdiv ((intBits n : Nat) + 7 : Int) 8 = (nb n : Nat) := by
  rw [Int.fdiv_eq_ediv_of_nonneg _ (by decide)]
  unfold nb
  omega
theorem lt_nb {n : Int} (h0 : 0 ≤ n) : n < 256 ^ nb n := by
  have h : intBits n ≤ 8 * nb n := by unfold nb; omega
  have h := intBits_le_iff.mp h
  have e2 : (2 : Nat) ^ 8 = 256 := by decide
  rw [Nat.pow_mul, e2] at h
  rw [KTBy.p256]
  omega
theorem nb_le {n : Int} {k : Nat} (h0 : 0 ≤ n) (h1 : n < 256 ^ k) : nb n ≤ k := by
  have h := TB.bits_le h0 h1
  unfold nb
  omega
local macro_rules | `(tactic| walk_at "mine enter kw") => `(tactic| (refine' code_def ?k1 ?k2 ?k3 ?k4 ?k5 ?kA ?kF ?kK ?k6 ?k7 ?k8 ?k9 ?kB ?_ ?c2 ?c3 ?c4 ?c5; (case kA => exact rfl); (case kF => exact rfl); (case kK => assumption); (case k1 => k_asm); (case k2 => k_asm); (case k3 => k_asm); (case k4 => k_asm); (case k5 => k_asm); (case k6 => k_is); (case k7 => k_is); (case k8 => ktr_room); (case k9 => (refine' kp_binds ?kx ?ke; (case kx => k_in); (case ke => exact fun _ => rfl))); (case c5 => decide); (case kB => exact locs rfl); (case c2 => exact rfl); (case c3 => exact rfl); (case c4 => exact rfl); k_whole; intro g' L' h' FG' F' N' B' X' T'; (try dsimp only); (try k_lift B'); (try k_fold)))
local macro_rules | `(tactic| walk_at "callWith") => `(tactic| (k_here; (with_reducible show wpAny _ _ (callWith _ (Value.builtin _) (_ :: _) (backTo _ (starEach (_ :: _) _)) (backToKw _ (keywordEach (_ :: _) _))) _ _ _); refine callWith_kwF ?_))
local macro_rules | `(tactic| walk_at "mine news") => `(tactic| first | k_asm | (refine' cb_drop ?cbN ?cbS; (case cbN => assumption); (case cbS => kcj_all)))
theorem bfi_told (news : List (Addr × Obj)) (n : Int) (t : Tok) (h0 : 0 ≤ n) (h1 : n < 256 ^ 64) : Told 1 8 58 [.int n t] [] news (fun v => ∃ t', v = .bytes (byteArr (row n)) t') := by
  unfold Told
  k_fill
  intro w mean mg mb dp un gd cn cs a ccd cl outer A₀ base h₀ L m s Q E B F X N T hk hd hu hret
  refine wpAny_call ?_
  k_dflt walk_at "mine enter kw"
  k_steps
  rw [nb_cast n]
  refine TB.to_big_z (by omega) (by have := nb_le h0 h1; omega) h0 (lt_nb h0) ?_
  intro b t' k' hb
  k_steps
  exact hret _ _ _ (bytes_is (bytes_of hb)) (by k_asm) (by walk_at "mine news")
theorem bfiN_told (news : List (Addr × Obj)) (n : Int) (t : Tok) (h0 : 0 ≤ n) (h1 : n < 256 ^ 64) : Told 1 8 58 [.int n t] [(Str.ofString "bit_length", .none)] news (fun v => ∃ t', v = .bytes (byteArr (row n)) t') := by
  unfold Told
  k_fill
  intro w mean mg mb dp un gd cn cs a ccd cl outer A₀ base h₀ L m s Q E B F X N T hk hd hu hret
  refine wpAny_call ?_
  k_dflt walk_at "mine enter kw"
  k_steps
  rw [nb_cast n]
  refine TB.to_big_z (by omega) (by have := nb_le h0 h1; omega) h0 (lt_nb h0) ?_
  intro b t' k' hb
  k_steps
  exact hret _ _ _ (bytes_is (bytes_of hb)) (by k_asm) (by walk_at "mine news")
/-- how many octets a width tells -/
def wb (wd : Int) : Nat := ((wd + 7) / 8).toNat
theorem bfiW_told (news : List (Addr × Obj)) (n wd : Int) (t u : Tok) (h0 : 0 ≤ n) (w0 : 0 ≤ wd) (w1 : wd ≤ 4096) (h1 : n < 256 ^ wb wd) : Told 1 8 58 [.int n t] [(Str.ofString "bit_length", .int wd u)] news (fun v => ∃ t', v = .bytes (byteArr (big (wb wd) n)) t') := by
  unfold Told
  k_fill
  intro w mean mg mb dp un gd cn cs a ccd cl outer A₀ base h₀ L m s Q E B F X N T hk hd hu hret
  refine wpAny_call ?_
  k_dflt walk_at "mine enter kw"
  k_steps
  rw [Int.fdiv_eq_ediv_of_nonneg _ (by decide)]
  refine TB.to_big_z (by omega) (by omega) h0 h1 ?_
  intro b t' k' hb
  k_steps
  exact hret _ _ _ (bytes_is (bytes_of hb)) (by k_asm) (by walk_at "mine news")
end Mine

namespace Mine
local macro_rules | `(tactic| walk_at "nowhere") => `(tactic| fail)
local macro_rules | `(tactic| walk_at "nowhere") => `(tactic| fail)
local macro_rules | `(tactic| walk_at "nowhere") => `(tactic| fail)
theorem anewM4 : True := by
  w_top off
  trivial
local macro_rules | `(tactic| walk_at "InvEndN") => `(tactic| refine Stop.out ?_)
local macro_rules | `(tactic| walk_at "subscriptTail") => `(tactic| (k_here; (with_reducible show wpAny _ _ (subscriptTail _ (Expr.Slice _ _ none _) (Value.bytes _ _) (Value.ref _)) _ _ _); (with_reducible rename Fr _ _ _ _ => F'); (with_reducible rename News _ _ _ _ => N'); (refine KBc.slice_K (s := ⟨_, _, _, _, _⟩) F' N' (by kba_ints) (by constructor) (by constructor) (by kba_size) ?_); intro _ _ _ _ _ kbcK; (simp only [Option.elim] at kbcK); (rw [chunk_cut (by assumption), show chunk _ _ = _ from by assumption] at kbcK)))
theorem len_lit {prog : Program} {w : World} {A : Around} {E : Value → Shared → Prop} {s : Shared} {b : Array UInt8} {t : Tok} {ks : List Int} {Q : Value → Shared → Prop} (k : Nat) (hb : KBw.bInts b = ks) (hl : ks.length = k) (hk : k ≤ 4096) (h : ∀ t' tk, Q (.int (k : Nat) t') { s with toks := tk }) : wpAny (model prog w) A (call (.builtin "len") [.bytes b t]) Q E s := by
  subst hl
  exact KBw.len_K hb (by omega) (h _ _)
local macro_rules | `(tactic| walk_at "call builtin:len") => `(tactic| (k_here; (with_reducible show wpAny _ _ (call (Value.builtin "len") [Value.bytes _ _]) _ _ _); (first | refine len_lit 1 (by assumption) rfl (by decide) ?_ | refine len_lit 2 (by assumption) rfl (by decide) ?_ | refine len_lit 3 (by assumption) rfl (by decide) ?_); intro _ _; simp only [Int.cast_ofNat_Int, Int.natCast_one]))
theorem item_sgn {prog : Program} {w : World} {A : Around} {E : Value → Shared → Prop} {s : Shared} {value slice : PySem.Expr} {i : Int} {t ui : Tok} {Q : Value → Shared → Prop} (h0 : 0 ≤ i) (h1 : i < 64) (h : ∀ t' k, Q (.int (sgn i) t') { s with toks := k })
    (hs : subscripted slice false (.bytes SIX8.toArray t) (.int i ui) = operate [.bytes SIX8.toArray t, .int i ui] (getItem (.bytes SIX8.toArray t) (.int i ui)) := by with_unfolding_all rfl)
    (ht : ∀ r, letTemporaryGo value (.bytes SIX8.toArray t) r = pure () := by intro _; with_unfolding_all rfl) : wpAny (model prog w) A (subscriptTail value slice (.bytes SIX8.toArray t) (.int i ui)) Q E s :=
  bytes_item_K (by decide) h0 h1 rfl (h _ _) hs ht
local macro_rules | `(tactic| walk_at "subscriptTail") => `(tactic| (k_here; (with_reducible show wpAny _ _ (subscriptTail _ _ (Value.bytes _ _) (Value.int _ _)) _ _ _); (refine item_sgn (fmod_lo _ (by decide)) (fmod_hi _ (by decide)) ?_); intro _ _))
section
variable {prog : Program} {w : World} {A : Around} {E : Value → Shared → Prop} {s : Shared} {t u : Tok} {Q : Value → Shared → Prop}
theorem add11 (h : Q (.int 2 s.toks) { s with toks := s.toks + 1 }) : wpAny (model prog w) A (binaryOp .Add (.int 1 t) (.int 1 u)) Q E s := add_int h
theorem add21 (h : Q (.int 3 s.toks) { s with toks := s.toks + 1 }) : wpAny (model prog w) A (binaryOp .Add (.int 2 t) (.int 1 u)) Q E s := add_int h
theorem add31 (h : Q (.int 4 s.toks) { s with toks := s.toks + 1 }) : wpAny (model prog w) A (binaryOp .Add (.int 3 t) (.int 1 u)) Q E s := add_int h
theorem unr_end {h₀ : Heap} {L I : Addr} {it : Obj} {rest : (Str → Option Value) → List (Addr × Obj) → Prop} {s₁ : Shared} {h' : Heap} {tk : Nat} {m' : Str → Option Value} {news' : List (Addr × Obj)} (F : Fr h₀ L h' m') (N : News h₀ L h' ((I, it) :: news'))
    (off : ∀ p ∈ news', p.1 ≠ I) (r : rest m' news') : UnrEnd h₀ L s₁ I it rest { s₁ with heap := h', toks := tk } := ⟨h', tk, m', news', rfl, F, N, off, r⟩
end
local macro_rules | `(tactic| walk_at "binaryOp Add int int") => `(tactic| (with_reducible first | refine add11 ?_ | refine add21 ?_ | refine add31 ?_))
local macro_rules | `(tactic| walk_at "UnrEnd") => `(tactic| ((rename News _ _ _ _ => nE'); (rename Fr _ _ _ _ => fE'); refine unr_end fE' nE' (by k_all) ?_))
local macro_rules | `(tactic| walk_at "call builtin:list.append") => `(tactic| (k_here; (with_reducible show wpAny _ _ (call (Value.builtin _) [Value.ref _, _]) _ _ _); k_dflt (refine' append_K ?k1 ?k2 ?k3 ?_ ?z; (case k1 => k_asm); (case k2 => k_asm); (case k3 => k_upd); (case z => (simp only [Array.size_push, List.size_toArray, sizeLine_eq]; omega)); k_whole); intro h' F' N'; (try k_sweep)))
theorem enc_told (news : List (Addr × Obj)) (ks : List Int) (b : Array UInt8) (t : Tok) (hb : KBw.bInts b = ks) (hl : ks.length ≤ 64) : Told 1 8 65 [.bytes b t] [] news (fun v => ∃ t', v = .bytes (byteArr (enc ks)) t') := by
  unfold Told
  k_fill
  intro w mean mg mb dp un gd cn cs a ccd cl outer A₀ base h₀ L m s Q E B F X N T hk hd hu hret
  refine wpAny_call ?_
  k_dflt cell_enter
  k_steps
  rename IsRange _ _ _ _ _ _ _ _ => rg
  rename Fr _ _ _ _ => lF
  rename News _ _ _ _ => lN
  have hs := chunks_small (n := ks.length) (by omega)
  with_unfolding_all refine' loop_grow [Str.ofString "part", Str.ofString "number", Str.ofString "place"] (fun i ns => ns = encUp ks i) (by rfl) rg hs (chunks_size _) lF lN rfl ?_ ?_
  · clear lF lN rg
    rintro vs ns nn i pre t u h tk own hpre hi hoff hf hp F₁ N₁
    subst hp
    have kMark := kstMark
    simp only [List.map_cons] at hoff
    have hvl : vs.length ≤ 1000 := by
      have h1 := encUp_length_le ks i
      have h2 := IntsAre.length hf
      unfold chunks at hi
      omega
    try k_fold
    rcases chunk_ways hi with ⟨x1, hc⟩ | ⟨x1, x2, hc⟩ | ⟨x1, x2, x3, hc⟩
    · k_steps
      refine Stop.go ?_
      rename News _ _ _ _ => nE
      simp only [List.push_toArray] at nE
      refine kst_end ⟨_, _, _⟩ (by assumption) nE (by first | kst_in | kst_inAny) (by first | (intro p hp; kst_mem) | kst_anyIn) (by rfl) (by kst_facts) (by kst_all) (by kst_same) ?_
      rw [hpre, encUp, hc, ← way1 x1]
      exact List.append_assoc _ _ _
    · k_steps
      refine Stop.go ?_
      rename News _ _ _ _ => nE
      simp only [List.push_toArray] at nE
      refine kst_end ⟨_, _, _⟩ (by assumption) nE (by first | kst_in | kst_inAny) (by first | (intro p hp; kst_mem) | kst_anyIn) (by rfl) (by kst_facts) (by kst_all) (by kst_same) ?_
      rw [hpre, encUp, hc, ← way2 x1 x2]
      exact (List.append_assoc _ _ _).trans (List.append_assoc _ _ _)
    · k_steps
      refine Stop.go ?_
      rename News _ _ _ _ => nE
      simp only [List.push_toArray] at nE
      refine kst_end ⟨_, _, _⟩ (by assumption) nE (by first | kst_in | kst_inAny) (by first | (intro p hp; kst_mem) | kst_anyIn) (by rfl) (by kst_facts) (by kst_all) (by kst_same) ?_
      rw [hpre, encUp, hc, ← way3 x1 x2 x3]
      exact (List.append_assoc _ _ _).trans ((List.append_assoc _ _ _).trans (List.append_assoc _ _ _))
  · clear lF lN rg
    rintro vs ns nn u h tk hf hp F₁ N₁
    subst hp
    have hin : KBa.In (encUp ks (chunks ks.length)) := encUp_in _ _
    have hlen : (encUp ks (chunks ks.length)).length ≤ 1000 := by
      have h1 := encUp_length_le ks (chunks ks.length)
      unfold chunks at h1 ⊢
      omega
    k_steps
    exact hret _ _ _ ⟨_, rfl⟩ (by k_asm) (by first | k_asm | (refine' cb_drop ?cbN ?cbS; (case cbN => assumption); (case cbS => kcj_all)))
end Mine

namespace Mine
local macro_rules | `(tactic| walk_at "nowhere") => `(tactic| fail)
local macro_rules | `(tactic| walk_at "nowhere") => `(tactic| fail)
local macro_rules | `(tactic| walk_at "nowhere") => `(tactic| fail)
local macro_rules | `(tactic| walk_at "nowhere") => `(tactic| fail)
local macro_rules | `(tactic| walk_at "nowhere") => `(tactic| fail)
local macro_rules | `(tactic| walk_at "nowhere") => `(tactic| fail)
local macro_rules | `(tactic| walk_at "nowhere") => `(tactic| fail)
local macro_rules | `(tactic| walk_at "nowhere") => `(tactic| fail)
local macro_rules | `(tactic| walk_at "nowhere") => `(tactic| fail)
local macro_rules | `(tactic| walk_at "nowhere") => `(tactic| fail)
theorem anewM5 : True := by
  w_top off
  trivial
local macro_rules | `(tactic| walk_at "mine told") => `(tactic| ((case k1 => k_asm); (case k2 => k_asm); (case k3 => k_asm); (case k4 => k_asm); (case k5 => k_asm); (case kK => first | exact rfl | assumption); (case kd => ktr_room); (case ku => ktr_units)))
local macro_rules | `(tactic| walk_at "call ref") => `(tactic| (k_here; (with_reducible show wpAny _ _ (call (Value.ref 72) [Value.int _ _] _) _ _ _); refine' told_use (six_told _ _ _) ?k1 ?k2 ?k3 ?k4 ?k5 ?kK ?kd ?ku ?_; walk_at "mine told"; (intro v9 h9 tk9 p9 F' N'); (obtain ⟨t9, e9⟩ := p9); subst e9; (try k_fold)))
local macro_rules | `(tactic| walk_at "InvEndN") => `(tactic| refine Stop.out ?_)
local macro_rules | `(tactic| walk_at "call builtin:list.append") => `(tactic| (k_here; (with_reducible show wpAny _ _ (call (Value.builtin _) [Value.ref _, _]) _ _ _); k_dflt (refine' append_K ?k1 ?k2 ?k3 ?_ ?z; (case k1 => k_asm); (case k2 => k_asm); (case k3 => k_upd); (case z => (simp only [Array.size_push, List.size_toArray, sizeLine_eq]; omega)); k_whole); intro h' F' N'; (try k_sweep)))
theorem dec_told (news : List (Addr × Obj)) (ks : List Int) (t : Tok) (hb : KBa.In ks) (hl : ks.length ≤ 64) (h3 : (run ks).2.1 ≠ 1) (h2 : (run ks).2.1 = 0 ∨ 4 ≤ (run ks).2.1 + (run ks).2.2.2.1) : Told 2 16 79 [.bytes (byteArr ks) t] [] news (fun v => ∃ t', v = .bytes (byteArr (run ks).1) t') := by
  unfold Told
  k_fill
  intro w mean mg mb dp un gd cn cs a ccd cl outer A₀ base h₀ L m s Q E B F X N T hk hd hu hret
  have hbi := KBa.ints_make hb
  refine wpAny_call ?_
  k_dflt cell_enter
  k_steps
  rename Fr _ _ _ _ => lF
  rename News _ _ _ _ => lN
  (with_unfolding_all refine' KStb.kst_bytes (σ := List Value × List Int × Nat × Int × Nat × Int × Nat × Int × Nat × Int × Nat) (fun c => (_, W.listOf c.1.toArray c.2.2.1) :: news) (fun c => [(Str.ofString "place", Value.int c.2.2.2.1 c.2.2.2.2.1), (Str.ofString "left", Value.int c.2.2.2.2.2.1 c.2.2.2.2.2.2.1), (Str.ofString "pads", Value.int c.2.2.2.2.2.2.2.1 c.2.2.2.2.2.2.2.2.1), (Str.ofString "many", Value.int c.2.2.2.2.2.2.2.2.2.1 c.2.2.2.2.2.2.2.2.2.2)]) (fun c => IntsAre c.1 c.2.1) [Str.ofString "six"] (fun pre c => (c.2.1, c.2.2.2.1, c.2.2.2.2.2.1, c.2.2.2.2.2.2.2.1, c.2.2.2.2.2.2.2.2.2.1) = run pre ∧ c.2.1.length ≤ pre.length) ([], [], _, 0, _, 0, _, 0, _, 0, _) hbi rfl rfl lF lN ?kf ?kk ?kp ?_ ?_)
  case kf => exact .nil
  case kp => exact ⟨rfl, Nat.le_refl _⟩
  case kk => kst_all
  · clear lF lN
    rintro ⟨vs, found, nn, place, tp, left, tl, pads, td, many, tm⟩ pre post n t u h tk own heq hlt h0 h1 hoff hf ⟨hp, hpl⟩ F₁ N₁
    dsimp only [kstB] at F₁ N₁ hf hp hpl
    have kMark := kstMark
    simp only [List.map_cons] at hoff
    simp only [List.cons_append] at N₁
    have hvl := IntsAre.length hf
    try k_fold
    k_steps
    all_goals (refine Stop.go ?_)
    all_goals (rename News _ _ _ _ => nE)
    all_goals (try simp only [List.push_toArray] at nE)
    all_goals (refine kst_end ⟨_, _, _, _, _, _, _, _, _, _, _⟩ (by assumption) nE (by first | kst_in | kst_inAny) (by first | (intro p hp; kst_mem) | kst_anyIn) (by rfl) (by kst_facts) (by kst_all) (by kst_same) ?_)
    all_goals (refine ⟨?_, by simp only [List.length_append, List.length_cons, List.length_nil]; omega⟩)
    all_goals (rw [run_snoc, ← hp]; dsimp only [step])
    all_goals ((repeat' split) <;> first | rfl | contradiction | (exfalso; omega))
  · clear lF lN
    rintro ⟨vs, found, nn, place, tp, left, tl, pads, td, many, tm⟩ u h tk _ hf ⟨hp, hpl⟩ F₁ N₁
    dsimp only [kstB] at F₁ N₁ hf hp hpl
    have hg := good_run ks
    rw [← hp] at hg h2 h3
    dsimp only at h2 h3
    have hfound : byteArr found = byteArr (run ks).1 := by rw [← hp]
    have hin : KBa.In found := hg.1
    have hgs := hg.2
    have kMark := kstMark
    have hvl := IntsAre.length hf
    clear hg
    obtain ⟨g1, g2, _, _, _, _, _⟩ := hgs
    have hw : place = 0 ∨ place = 2 ∨ place = 3 := by omega
    clear h3 g1 g2
    rcases hw with rfl | rfl | rfl
    · clear h2
      k_steps
      exact hret _ _ _ (bytes_is hfound) (by k_asm) (by first | k_asm | (refine' cb_drop ?cbN ?cbS; (case cbN => assumption); (case cbS => kcj_all)))
    · have h4 : 2 ≤ pads := by omega
      clear h2
      k_steps
      exact hret _ _ _ (bytes_is hfound) (by k_asm) (by first | k_asm | (refine' cb_drop ?cbN ?cbS; (case cbN => assumption); (case cbS => kcj_all)))
    · have h4 : 1 ≤ pads := by omega
      clear h2
      k_steps
      exact hret _ _ _ (bytes_is hfound) (by k_asm) (by first | k_asm | (refine' cb_drop ?cbN ?cbS; (case cbN => assumption); (case cbS => kcj_all)))
end Mine

namespace Mine
local macro_rules | `(tactic| walk_at "nowhere") => `(tactic| fail)
local macro_rules | `(tactic| walk_at "nowhere") => `(tactic| fail)
local macro_rules | `(tactic| walk_at "nowhere") => `(tactic| fail)
local macro_rules | `(tactic| walk_at "nowhere") => `(tactic| fail)
local macro_rules | `(tactic| walk_at "nowhere") => `(tactic| fail)
local macro_rules | `(tactic| walk_at "nowhere") => `(tactic| fail)
local macro_rules | `(tactic| walk_at "nowhere") => `(tactic| fail)
local macro_rules | `(tactic| walk_at "nowhere") => `(tactic| fail)
local macro_rules | `(tactic| walk_at "nowhere") => `(tactic| fail)
local macro_rules | `(tactic| walk_at "nowhere") => `(tactic| fail)
local macro_rules | `(tactic| walk_at "nowhere") => `(tactic| fail)
local macro_rules | `(tactic| walk_at "nowhere") => `(tactic| fail)
local macro_rules | `(tactic| walk_at "nowhere") => `(tactic| fail)
local macro_rules | `(tactic| walk_at "nowhere") => `(tactic| fail)
theorem anewM6 : True := by
  w_top off
  trivial
local macro_rules | `(tactic| walk_at "mine enter kw") => `(tactic| (refine' code_def ?k1 ?k2 ?k3 ?k4 ?k5 ?kA ?kF ?kK ?k6 ?k7 ?k8 ?k9 ?kB ?_ ?c2 ?c3 ?c4 ?c5; (case kA => exact rfl); (case kF => exact rfl); (case kK => assumption); (case k1 => k_asm); (case k2 => k_asm); (case k3 => k_asm); (case k4 => k_asm); (case k5 => k_asm); (case k6 => k_is); (case k7 => k_is); (case k8 => ktr_room); (case k9 => (refine' kp_binds ?kx ?ke; (case kx => k_in); (case ke => exact fun _ => rfl))); (case c5 => decide); (case kB => exact locs rfl); (case c2 => exact rfl); (case c3 => exact rfl); (case c4 => exact rfl); k_whole; intro g' L' h' FG' F' N' B' X' T'; (try dsimp only); (try k_lift B'); (try k_fold)))
local macro_rules | `(tactic| walk_at "mine told") => `(tactic| ((case k1 => k_asm); (case k2 => k_asm); (case k3 => k_asm); (case k4 => k_asm); (case k5 => k_asm); (case kK => first | exact rfl | assumption); (case kd => ktr_room); (case ku => ktr_units)))
local macro_rules | `(tactic| walk_at "mine news") => `(tactic| first | k_asm | (refine' cb_drop ?cbN ?cbS; (case cbN => assumption); (case cbS => kcj_all)))
local macro_rules | `(tactic| walk_at "call ref") => `(tactic| (k_here; (with_reducible first | show wpAny _ _ (call (Value.ref 58) _ _) _ _ _ | show wpAny _ _ (call (Value.ref 65) _ _) _ _ _); refine Stop.out ?_))
/-- at least one octet -/
def pad (ks : List Int) : List Int := if ks = [] then [0] else ks
theorem pad_nil {ks : List Int} (h : (ks.length : Int) = 0) : pad ks = [0] := by
  have : ks = [] := List.eq_nil_of_length_eq_zero (by omega)
  rw [this]; rfl
theorem pad_cons {ks : List Int} (h : ¬ (ks.length : Int) = 0) : pad ks = ks := by
  unfold pad
  rw [if_neg]
  rintro rfl
  exact h rfl
theorem big_in (k : Nat) (n : Int) : KBa.In (big k n) := by
  intro x hx
  unfold big at hx
  rw [List.mem_reverse, KTBy.little_eq] at hx
  obtain ⟨i, _, rfl⟩ := List.mem_map.mp hx
  omega
theorem b64e_told (news : List (Addr × Obj)) (ks : List Int) (b : Array UInt8) (t : Tok) (hb : KBw.bInts b = ks) (hl : ks.length ≤ 64) : Told 2 16 35 [.bytes b t] [] news (fun v => ∃ t', v = .bytes (byteArr (enc ks)) t') := by
  unfold Told
  k_fill
  intro w mean mg mb dp un gd cn cs a ccd cl outer A₀ base h₀ L m s Q E B F X N T hk hd hu hret
  refine wpAny_call ?_
  k_dflt cell_enter
  k_steps
  refine Stop.go ?_
  refine' told_use (enc_told _ ks b _ hb hl) ?k1 ?k2 ?k3 ?k4 ?k5 ?kK ?kd ?ku ?_
  walk_at "mine told"
  rintro v h' tk' ⟨t', rfl⟩ F' N'
  k_steps
  exact hret _ _ _ ⟨_, rfl⟩ (by k_asm) (by walk_at "mine news")
theorem tbu_told (news : List (Addr × Obj)) (n : Int) (t : Tok) (h0 : 0 ≤ n) (h1 : n < 256 ^ 64) : Told 4 32 43 [.int n t] [] news (fun v => ∃ t', v = .bytes (byteArr (enc (pad (row n)))) t') := by
  unfold Told
  k_fill
  intro w mean mg mb dp un gd cn cs a ccd cl outer A₀ base h₀ L m s Q E B F X N T hk hd hu hret
  refine wpAny_call ?_
  k_dflt walk_at "mine enter kw"
  k_steps
  refine Stop.go ?_
  refine' told_use (bfiN_told _ n _ h0 h1) ?k1 ?k2 ?k3 ?k4 ?k5 ?kK ?kd ?ku ?_
  walk_at "mine told"
  rintro v h' tk' ⟨t', rfl⟩ F' N'
  have hri : KBa.In (row n) := big_in _ _
  have hbi := KBa.ints_make hri
  have hle : (row n).length ≤ 64 := by
    unfold row
    rw [big_length]
    exact nb_le h0 h1
  try k_fold
  k_steps
  · rename (List.length _ : Int) = 0 => he
    refine' told_use (b64e_told _ [0] _ _ rfl (by decide)) ?k1 ?k2 ?k3 ?k4 ?k5 ?kK ?kd ?ku ?_
    walk_at "mine told"
    rintro v h' tk' ⟨t', rfl⟩ F' N'
    k_steps
    exact hret _ _ _ (bytes_is (by rw [pad_nil he])) (by k_asm) (by walk_at "mine news")
  · rename (List.length _ : Int) ≠ 0 => he
    refine' told_use (b64e_told _ _ _ _ hbi hle) ?k1 ?k2 ?k3 ?k4 ?k5 ?kK ?kd ?ku ?_
    walk_at "mine told"
    rintro v h' tk' ⟨t', rfl⟩ F' N'
    k_steps
    exact hret _ _ _ (bytes_is (by rw [pad_cons he])) (by k_asm) (by walk_at "mine news")
theorem tbuW_told (news : List (Addr × Obj)) (n wd : Int) (t u : Tok) (h0 : 0 ≤ n) (w0 : 0 ≤ wd) (w1 : wd ≤ 400) (h1 : n < 256 ^ wb wd) : Told 4 32 43 [.int n t] [(Str.ofString "bit_length", .int wd u)] news (fun v => ∃ t', v = .bytes (byteArr (enc (pad (big (wb wd) n)))) t') := by
  unfold Told
  k_fill
  intro w mean mg mb dp un gd cn cs a ccd cl outer A₀ base h₀ L m s Q E B F X N T hk hd hu hret
  refine wpAny_call ?_
  k_dflt walk_at "mine enter kw"
  k_steps
  refine Stop.go ?_
  refine' told_use (bfiW_told _ n wd _ _ h0 w0 (by omega) h1) ?k1 ?k2 ?k3 ?k4 ?k5 ?kK ?kd ?ku ?_
  walk_at "mine told"
  rintro v h' tk' ⟨t', rfl⟩ F' N'
  have hri : KBa.In (big (wb wd) n) := big_in _ _
  have hbi := KBa.ints_make hri
  have hle : (big (wb wd) n).length ≤ 64 := by
    rw [big_length]
    unfold wb
    omega
  try k_fold
  k_steps
  · rename (List.length _ : Int) = 0 => he
    refine' told_use (b64e_told _ [0] _ _ rfl (by decide)) ?k1 ?k2 ?k3 ?k4 ?k5 ?kK ?kd ?ku ?_
    walk_at "mine told"
    rintro v h' tk' ⟨t', rfl⟩ F' N'
    k_steps
    exact hret _ _ _ (bytes_is (by rw [pad_nil he])) (by k_asm) (by walk_at "mine news")
  · rename (List.length _ : Int) ≠ 0 => he
    refine' told_use (b64e_told _ _ _ _ hbi hle) ?k1 ?k2 ?k3 ?k4 ?k5 ?kK ?kd ?ku ?_
    walk_at "mine told"
    rintro v h' tk' ⟨t', rfl⟩ F' N'
    k_steps
    exact hret _ _ _ (bytes_is (by rw [pad_cons he])) (by k_asm) (by walk_at "mine news")
end Mine

namespace Mine
local macro_rules | `(tactic| walk_at "nowhere") => `(tactic| fail)
local macro_rules | `(tactic| walk_at "nowhere") => `(tactic| fail)
local macro_rules | `(tactic| walk_at "nowhere") => `(tactic| fail)
local macro_rules | `(tactic| walk_at "nowhere") => `(tactic| fail)
local macro_rules | `(tactic| walk_at "nowhere") => `(tactic| fail)
local macro_rules | `(tactic| walk_at "nowhere") => `(tactic| fail)
local macro_rules | `(tactic| walk_at "nowhere") => `(tactic| fail)
local macro_rules | `(tactic| walk_at "nowhere") => `(tactic| fail)
local macro_rules | `(tactic| walk_at "nowhere") => `(tactic| fail)
local macro_rules | `(tactic| walk_at "nowhere") => `(tactic| fail)
local macro_rules | `(tactic| walk_at "nowhere") => `(tactic| fail)
local macro_rules | `(tactic| walk_at "nowhere") => `(tactic| fail)
local macro_rules | `(tactic| walk_at "nowhere") => `(tactic| fail)
local macro_rules | `(tactic| walk_at "nowhere") => `(tactic| fail)
local macro_rules | `(tactic| walk_at "nowhere") => `(tactic| fail)
local macro_rules | `(tactic| walk_at "nowhere") => `(tactic| fail)
local macro_rules | `(tactic| walk_at "nowhere") => `(tactic| fail)
local macro_rules | `(tactic| walk_at "nowhere") => `(tactic| fail)
theorem anewM7 : True := by
  w_top off
  trivial
local macro_rules | `(tactic| walk_at "mine told") => `(tactic| ((case k1 => k_asm); (case k2 => k_asm); (case k3 => k_asm); (case k4 => k_asm); (case k5 => k_asm); (case kK => first | exact rfl | assumption); (case kd => ktr_room); (case ku => ktr_units)))
local macro_rules | `(tactic| walk_at "mine news") => `(tactic| first | k_asm | (refine' cb_drop ?cbN ?cbS; (case cbN => assumption); (case cbS => kcj_all)))
local macro_rules | `(tactic| walk_at "callWith") => `(tactic| (k_here; (with_reducible show wpAny _ _ (callWith _ (Value.builtin _) (_ :: _) (backTo _ (starEach (_ :: _) _)) (backToKw _ (keywordEach (_ :: _) _))) _ _ _); refine callWith_kwF ?_))
theorem fb_told (news : List (Addr × Obj)) (b : Array UInt8) (t : Tok) : Told 1 8 21 [.bytes b t] [] news (fun v => ∃ t', v = .bytes b t') := by
  unfold Told
  k_fill
  intro w mean mg mb dp un gd cn cs a ccd cl outer A₀ base h₀ L m s Q E B F X N T hk hd hu hret
  refine wpAny_call ?_
  k_dflt cell_enter
  k_steps
  exact hret _ _ _ (bytes_is rfl) (by k_asm) (by walk_at "mine news")
local macro_rules | `(tactic| walk_at "call ref") => `(tactic| (k_here; (with_reducible show wpAny _ _ (call (Value.ref 21) [Value.bytes _ _] _) _ _ _); refine' told_use (fb_told _ _ _) ?k1 ?k2 ?k3 ?k4 ?k5 ?kK ?kd ?ku ?_; walk_at "mine told"; (intro v9 h9 tk9 p9 F' N'); (obtain ⟨t9, e9⟩ := p9); subst e9; (try k_fold)))
/-- what the reader is handed: the signs, and '=' up to the next four -/
def padded (ks : List Int) : List Int := if ks.length % 4 = 0 then ks else ks ++ List.replicate (4 - ks.length % 4) 61
theorem padded_in {ks : List Int} (h : KBa.In ks) : KBa.In (padded ks) := by
  unfold padded
  split
  · exact h
  · intro n hn
    rcases List.mem_append.mp hn with h1 | h1
    · exact h n h1
    · rw [List.eq_of_mem_replicate h1]; decide
theorem padded_len (ks : List Int) : (padded ks).length ≤ ks.length + 4 := by
  unfold padded
  split
  · omega
  · rw [List.length_append, List.length_replicate]; omega
theorem dec64_told (news : List (Addr × Obj)) (ks : List Int) (t : Tok) (hb : KBa.In ks) (hl : ks.length ≤ 50) (h3 : (run (padded ks)).2.1 ≠ 1) (h2 : (run (padded ks)).2.1 = 0 ∨ 4 ≤ (run (padded ks)).2.1 + (run (padded ks)).2.2.2.1) : Told 3 24 28 [.bytes (byteArr ks) t] [] news (fun v => ∃ t', v = .bytes (byteArr (run (padded ks)).1) t') := by
  unfold Told
  k_fill
  intro w mean mg mb dp un gd cn cs a ccd cl outer A₀ base h₀ L m s Q E B F X N T hk hd hu hret
  have hbi := KBa.ints_make hb
  have hpl : (padded ks).length ≤ 64 := by have := padded_len ks; omega
  refine wpAny_call ?_
  k_dflt cell_enter
  k_steps
  · rename _ > _ => hr
    rw [Int.fmod_eq_emod_of_nonneg _ (by decide)] at hr ⊢
    refine BO.mul_one (x := 61) (by omega) (by omega) ?_
    intro t1 k1
    k_steps
    refine BO.iadd_K (by rintro rfl; exact absurd hr (by decide)) (by intro he; have := congrArg List.length he; rw [List.length_replicate] at this; simp only [List.length_nil] at this; omega) (by rw [List.length_replicate]; omega) ?_
    intro t2 k2
    have he : ks ++ List.replicate (4 - (ks.length : Int) % 4).toNat 61 = padded ks := by
      unfold padded
      rw [if_neg (by omega)]
      congr 2
      omega
    rw [he]
    k_steps
    refine' told_use (dec_told _ (padded ks) _ (padded_in hb) hpl h3 h2) ?k1 ?k2 ?k3 ?k4 ?k5 ?kK ?kd ?ku ?_
    walk_at "mine told"
    rintro v h' tk' ⟨t', rfl⟩ F' N'
    k_steps
    exact hret _ _ _ (bytes_is rfl) (by k_asm) (by walk_at "mine news")
  · rename ¬ (_ > _) => hr
    rw [Int.fmod_eq_emod_of_nonneg _ (by decide)] at hr
    have he : padded ks = ks := by
      unfold padded
      rw [if_pos (by omega)]
    rw [he] at h3 h2 hpl
    refine' told_use (dec_told _ ks _ hb hpl h3 h2) ?k1 ?k2 ?k3 ?k4 ?k5 ?kK ?kd ?ku ?_
    walk_at "mine told"
    rintro v h' tk' ⟨t', rfl⟩ F' N'
    k_steps
    exact hret _ _ _ (bytes_is (by rw [he])) (by k_asm) (by walk_at "mine news")
end Mine

namespace Mine
local macro_rules | `(tactic| walk_at "nowhere") => `(tactic| fail)
local macro_rules | `(tactic| walk_at "nowhere") => `(tactic| fail)
local macro_rules | `(tactic| walk_at "nowhere") => `(tactic| fail)
local macro_rules | `(tactic| walk_at "nowhere") => `(tactic| fail)
local macro_rules | `(tactic| walk_at "nowhere") => `(tactic| fail)
local macro_rules | `(tactic| walk_at "nowhere") => `(tactic| fail)
local macro_rules | `(tactic| walk_at "nowhere") => `(tactic| fail)
local macro_rules | `(tactic| walk_at "nowhere") => `(tactic| fail)
local macro_rules | `(tactic| walk_at "nowhere") => `(tactic| fail)
local macro_rules | `(tactic| walk_at "nowhere") => `(tactic| fail)
local macro_rules | `(tactic| walk_at "nowhere") => `(tactic| fail)
local macro_rules | `(tactic| walk_at "nowhere") => `(tactic| fail)
local macro_rules | `(tactic| walk_at "nowhere") => `(tactic| fail)
local macro_rules | `(tactic| walk_at "nowhere") => `(tactic| fail)
local macro_rules | `(tactic| walk_at "nowhere") => `(tactic| fail)
local macro_rules | `(tactic| walk_at "nowhere") => `(tactic| fail)
local macro_rules | `(tactic| walk_at "nowhere") => `(tactic| fail)
local macro_rules | `(tactic| walk_at "nowhere") => `(tactic| fail)
local macro_rules | `(tactic| walk_at "nowhere") => `(tactic| fail)
local macro_rules | `(tactic| walk_at "nowhere") => `(tactic| fail)
local macro_rules | `(tactic| walk_at "nowhere") => `(tactic| fail)
local macro_rules | `(tactic| walk_at "nowhere") => `(tactic| fail)
theorem anewM8 : True := by
  w_top off
  trivial
section
variable {M : Model} {A : Around} {E : Value → Shared → Prop} {s : Shared} {env : Env}
theorem callWith_boundKw {h₀ : Heap} {L : Addr} {news : List (Addr × Obj)} {pos : Pos} {u : Addr} {first : List Value} {e : PySem.Expr} {rest : List PySem.Expr} {kws : List Keyword} {Q : Value → Shared → Prop} (_N : News h₀ L s.heap news) (_hm : (u, KFB.bound) ∈ news)
    (h : wpAny M A (spliced (backTo pos (starEach (e :: rest) env))) (fun vs s₁ => wpAny M A (evalAll ((backToKw pos (keywordEach kws env)).map (·.2)))
      (fun kvs s₂ => KFB.StandsAt u s₂.heap ∧ wpAny M A (call (.ref u) (first ++ vs) (((backToKw pos (keywordEach kws env)).filterMap (·.1)).zip kvs)) Q E s₂) E s₁) E s)
    (he : backTo pos (starEach (e :: rest) env) = (false, eval e env) :: backTo pos (starEach rest env) := by rfl)
    (hplain : (backTo pos (starEach (e :: rest) env)).any (·.1) = false := by rfl)
    (hall : (backToKw pos (keywordEach kws env)).all (·.1.isSome) = true := by rfl)
    (hkw : (backToKw pos (keywordEach kws env)).any (·.1.isNone) = false := by rfl) :
    wpAny M A (callWith pos (.ref u) first (backTo pos (starEach (e :: rest) env)) (backToKw pos (keywordEach kws env))) Q E s := by
  unfold callWith
  have h' : wpAny M A (evalArgs (.ref u) true (backTo pos (starEach (e :: rest) env)) (backToKw pos (keywordEach kws env))) (fun x s₁ => KFB.StandsAt u s₁.heap ∧ wpAny M A (call (.ref u) (first ++ x.pos) x.kw) Q E s₁) E s := by
    rw [he] at h ⊢
    exact evalArgs_kwB hall h
  refine wpAny_bind (wpAny_holding (wpAny_mono h' (fun x s₁ h₁ => wpAny_bind (wpAny_standAt ?_)) fun _ _ x => x))
  obtain ⟨ho, hcall⟩ := h₁
  simp only [hplain, hkw, Bool.or_false]
  refine wpAny_bind (m := keeperOf (.ref u)) ?_
  unfold keeperOf
  refine wpAny_bind (wpAny_load ho ?_)
  simp only [KFB.bound, show (Value.type "builtin_function_or_method" != Value.type "method") = true by decide, show (Value.type "builtin_function_or_method" == Value.type "builtin_function_or_method" || Value.type "builtin_function_or_method" == Value.type "method-wrapper") = true by decide, if_true]
  refine wpAny_pure ?_
  exact wpAny_bind (wpAny_mono hcall (fun r s₂ hr => wpAny_bind (wpAny_holding (wpAny_point (wpAny_pure hr)))) fun _ _ x => x)
end
local macro_rules | `(tactic| walk_at "mine told") => `(tactic| ((case k1 => k_asm); (case k2 => k_asm); (case k3 => k_asm); (case k4 => k_asm); (case k5 => k_asm); (case kK => first | exact rfl | assumption); (case kd => ktr_room); (case ku => ktr_units)))
local macro_rules | `(tactic| walk_at "mine news") => `(tactic| first | k_asm | (refine' cb_drop ?cbN ?cbS; (case cbN => assumption); (case cbS => kcj_all)))
local macro_rules | `(tactic| walk_at "callWith ref") => `(tactic| (k_here; (with_reducible show wpAny _ _ (callWith _ (Value.ref _) _ (backTo _ (starEach (_ :: _) _)) (backToKw _ (keywordEach (_ :: _) _))) _ _ _); kfb_any; k_dflt (refine' callWith_boundKw ?kfbN ?kfbM ?_; (case kfbN => k_asm); (case kfbM => k_mem); k_whole)))
local macro_rules | `(tactic| walk_at "call ref") => `(tactic| (k_here; (with_reducible show wpAny _ _ (call (Value.ref 21) [Value.bytes _ _] _) _ _ _); refine' told_use (fb_told _ _ _) ?k1 ?k2 ?k3 ?k4 ?k5 ?kK ?kd ?ku ?_; walk_at "mine told"; (intro v9 h9 tk9 p9 F' N'); (obtain ⟨t9, e9⟩ := p9); subst e9; (try k_fold)))
theorem from_told (news : List (Addr × Obj)) (ks : List Int) (t : Tok) (hb : KBa.In ks) (hl : ks.length ≤ 50) (h3 : (run (padded ks)).2.1 ≠ 1) (h2 : (run (padded ks)).2.1 = 0 ∨ 4 ≤ (run (padded ks)).2.1 + (run (padded ks)).2.2.2.1) : Told 4 32 50 [.bytes (byteArr ks) t] [] news (fun v => ∃ t', v = .int (KFB.value (run (padded ks)).1) t') := by
  unfold Told
  k_fill
  intro w mean mg mb dp un gd cn cs a ccd cl outer A₀ base h₀ L m s Q E B F X N T hk hd hu hret
  refine wpAny_call ?_
  k_dflt cell_enter
  k_steps
  refine' told_use (dec64_told _ ks _ hb hl h3 h2) ?k1 ?k2 ?k3 ?k4 ?k5 ?kK ?kd ?ku ?_
  walk_at "mine told"
  rintro v h' tk' ⟨t', rfl⟩ F' N'
  k_steps
  have hsz : (byteArr (run (padded ks)).1).size ≤ 4096 := by
    have h1 := run_len (padded ks)
    have h4 := padded_len ks
    rw [byteArr_size]
    omega
  have hin : KBw.bInts (byteArr (run (padded ks)).1) = (run (padded ks)).1 := KBa.ints_make (good_run (padded ks)).1
  k_dflt refine FB2.call_kw (by k_asm) (by k_mem) hsz ?_
  intro t1 k1
  rw [hin]
  k_steps
  exact hret _ _ _ (ktn_int rfl) (by k_asm) (by walk_at "mine news")
local macro_rules | `(tactic| walk_at "getMethod str") => `(tactic| (with_reducible refine TX.m_encode ?_))
theorem fbS_told (news : List (Addr × Obj)) (ks : List Int) (t : Tok) (hn : ks ≠ []) (ha : Asc ks) (hl : ks.length ≤ 50) : Told 1 8 21 [.str (textOf ks) t] [] news (fun v => ∃ t', v = .bytes (byteArr ks) t') := by
  unfold Told
  k_fill
  intro w mean mg mb dp un gd cn cs a ccd cl outer A₀ base h₀ L m s Q E B F X N T hk hd hu hret
  refine wpAny_call ?_
  k_dflt cell_enter
  k_steps
  refine TX.encode hn ha (by omega) ?_
  intro t1 k1
  k_steps
  exact hret _ _ _ (bytes_is rfl) (by k_asm) (by walk_at "mine news")
theorem fromS_told (news : List (Addr × Obj)) (ks : List Int) (t : Tok) (hn : ks ≠ []) (ha : Asc ks) (hl : ks.length ≤ 50) (h3 : (run (padded ks)).2.1 ≠ 1) (h2 : (run (padded ks)).2.1 = 0 ∨ 4 ≤ (run (padded ks)).2.1 + (run (padded ks)).2.2.2.1) : Told 4 32 50 [.str (textOf ks) t] [] news (fun v => ∃ t', v = .int (KFB.value (run (padded ks)).1) t') := by
  unfold Told
  k_fill
  intro w mean mg mb dp un gd cn cs a ccd cl outer A₀ base h₀ L m s Q E B F X N T hk hd hu hret
  have hb : KBa.In ks := fun n hn => ⟨(ha n hn).1, by have := (ha n hn).2; omega⟩
  refine wpAny_call ?_
  k_dflt cell_enter
  k_steps
  refine' told_use (fbS_told _ ks _ hn ha hl) ?k1 ?k2 ?k3 ?k4 ?k5 ?kK ?kd ?ku ?_
  walk_at "mine told"
  rintro v h' tk' ⟨t', rfl⟩ F' N'
  k_steps
  refine' told_use (dec64_told _ ks _ hb hl h3 h2) ?k1 ?k2 ?k3 ?k4 ?k5 ?kK ?kd ?ku ?_
  walk_at "mine told"
  rintro v h' tk' ⟨t', rfl⟩ F' N'
  k_steps
  have hsz : (byteArr (run (padded ks)).1).size ≤ 4096 := by
    have h1 := run_len (padded ks)
    have h4 := padded_len ks
    rw [byteArr_size]
    omega
  have hin : KBw.bInts (byteArr (run (padded ks)).1) = (run (padded ks)).1 := KBa.ints_make (good_run (padded ks)).1
  k_dflt refine FB2.call_kw (by k_asm) (by k_mem) hsz ?_
  intro t1 k1
  rw [hin]
  k_steps
  exact hret _ _ _ (ktn_int rfl) (by k_asm) (by walk_at "mine news")
end Mine

namespace Mine
theorem anewM9 : True := by
  w_top off
  trivial
/-- the law's reader of the script: the script, the place, what is left -/
abbrev cursor (sc : Addr) (i acc : Int) (ti ta : Tok) (n : Nat) : Obj := W.listOf #[.ref sc, .int i ti, .int acc ta] n
/-- a draw: a number from 0 up to many, the cursor goes on -/
noncomputable abbrev Draws (many : Int) : Prop :=
  ∀ (w : World) (mean : ExcName → Option Value) (mg mb : Str → Option Value) (dp un : Nat) (gd : Option (List Code)) (cn : Str) (cs : Scope) (a : Addr) (ccd : Value) (cl : List (Str × Addr)) (outer : List Env) (A₀ : Around) (base h₀ : Heap) (L : Addr) (m : Str → Option Value) (s : Shared) (Q E : Value → Shared → Prop)
    (ca sc : Addr) (i acc : Int) (ti ta tm : Tok) (n : Nat) (rest : List (Addr × Obj)) (vs : List Value) (ns : List Int),
    Below A₀ base outer h₀ → Fr h₀ L s.heap m → (hd.heap_39 w.params).In h₀ → News h₀ L s.heap ((ca, cursor sc i acc ti ta n) :: rest) → OwnOff rest [ca] → Top hd.view_39 Loose mean mg mb h₀ → cs.kind = .function →
    base.IsList sc vs.toArray → IntsAre vs ns → ns.length ≤ 63 → 0 ≤ i → 0 ≤ acc → acc < 999983 → dp + 1 < recursionLimit → un + 8 < cLine →
    (∀ d t i' t1 acc' t2 h' tk', 0 ≤ d → d < many → 0 ≤ i' → 0 ≤ acc' → acc' < 999983 → Fr h₀ L h' m → News h₀ L h' ((ca, cursor sc i' acc' t1 t2 n) :: rest) → Q (.int d t) { s with heap := h', toks := tk' }) →
    wpAny (model PySem.Challenge.rw_ff0011_01.row.prog w) (ktrTop dp un gd cn cs L a ccd cl outer) (call (.ref 86) [.ref ca, .int many tm]) Q E s
theorem left_in {x many : Int} (h0 : 0 ≤ x) (h1 : x < 999983) (hm : 1 ≤ many) : 0 ≤ x.fdiv many ∧ x.fdiv many < 999983 := by
  rw [Int.fdiv_eq_ediv_of_nonneg _ (by omega)]
  have h2 := Int.ediv_le_self many h0
  exact ⟨Int.ediv_nonneg h0 (by omega), by omega⟩
theorem take_draws (many : Int) (hm : 1 ≤ many) (hm2 : many ≤ 1000) : Draws many := by
  unfold Draws
  k_fill
  intro w mean mg mb dp un gd cn cs a ccd cl outer A₀ base h₀ L m s Q E ca sc i acc ti ta tm n rest vs ns B F X N hoff T hk hL hI hlen hi hacc hacc2 hd hu hret
  have kMark := kstMark
  refine wpAny_call ?_
  k_dflt cell_enter
  k_steps
  all_goals (refine hret _ _ _ _ _ _ _ _ (fmod_lo _ (by omega)) (fmod_hi _ (by omega)) ?_ ?_ ?_ (by k_asm) (by k_asm))
  all_goals (first | omega | exact (left_in (fmod_lo _ (by decide)) (fmod_hi _ (by decide)) hm).1 | exact (left_in (fmod_lo _ (by decide)) (fmod_hi _ (by decide)) hm).2 | exact (left_in hacc hacc2 hm).1 | exact (left_in hacc hacc2 hm).2 | exact (left_in (Int.le_refl 0) (by decide) hm).1 | exact (left_in (Int.le_refl 0) (by decide) hm).2)
theorem draws_use {many : Int} (C : Draws many) {w : World} {mean : ExcName → Option Value} {mg mb : Str → Option Value} {dp un : Nat} {gd : Option (List Code)} {cn : Str} {cs : Scope} {a : Addr} {ccd : Value} {cl : List (Str × Addr)} {outer : List Env} {A₀ : Around} {base h₀ : Heap} {L : Addr} {m : Str → Option Value} {s : Shared} {Q E : Value → Shared → Prop}
    {ca sc : Addr} {i acc : Int} {ti ta tm : Tok} {n : Nat} {rest : List (Addr × Obj)} {vs : List Value} {ns : List Int}
    (B : Below A₀ base outer h₀) (F : Fr h₀ L s.heap m) (X : (hd.heap_39 w.params).In h₀) (N : News h₀ L s.heap ((ca, cursor sc i acc ti ta n) :: rest)) (off : OwnOff rest [ca]) (T : Top hd.view_39 Loose mean mg mb h₀) (hk : cs.kind = .function)
    (hL : base.IsList sc vs.toArray) (hI : IntsAre vs ns) (hl : ns.length ≤ 63) (hi : 0 ≤ i) (ha : 0 ≤ acc) (hb : acc < 999983) (hd : dp + 1 < recursionLimit) (hu : un + 8 < cLine)
    (ret : ∀ d t i' t1 acc' t2 h' tk', 0 ≤ d → d < many → 0 ≤ i' → 0 ≤ acc' → acc' < 999983 → Fr h₀ L h' m → News h₀ L h' ((ca, cursor sc i' acc' t1 t2 n) :: rest) → Q (.int d t) { s with heap := h', toks := tk' }) :
    wpAny (model PySem.Challenge.rw_ff0011_01.row.prog w) (ktrTop dp un gd cn cs L a ccd cl outer) (call (.ref 86) [.ref ca, .int many tm]) Q E s :=
  C w mean mg mb dp un gd cn cs a ccd cl outer A₀ base h₀ L m s Q E ca sc i acc ti ta tm n rest vs ns B F X N off T hk hL hI hl hi ha hb hd hu ret
end Mine

namespace Mine
theorem anewMLL : True := by
  w_top off
  trivial
section
variable {prog : Program} {w : World} {A : Around} {E : Value → Shared → Prop} {s : Shared} {env : Env} {h₀ : Heap} {x : Str} {body : List Stmt} {Q : Flow → Shared → Prop}
/-- the letters of the first loop: the number, the cursor's place and its rest -/
abbrev DrawS := Int × Tok × Int × Int × Tok × Tok
abbrev drawLed (ca sc : Addr) (nn : Nat) (rest : List (Addr × Obj)) (c : DrawS) : List (Addr × Obj) := (ca, cursor sc c.2.2.1 c.2.2.2.1 c.2.2.2.2.1 c.2.2.2.2.2 nn) :: rest
abbrev drawPs (c : DrawS) : List (Str × Value) := [(Str.ofString "number", Value.int c.1 c.2.1)]
abbrev drawFacts (c : DrawS) : Prop := 0 ≤ c.2.2.1 ∧ 0 ≤ c.2.2.2.1 ∧ c.2.2.2.1 < 999983
theorem loop_draw {r ca sc : Addr} {nn : Nat} {rest : List (Addr × Obj)} {b₀ x₀ i₀ acc₀ : Int} {ti ta tx t₀ u₀ v₀ : Tok} {n : Nat} {m₀ : Str → Option Value} (P : Nat → Int → Prop)
    (hh : A.handled = none) (hr : IsRange s.heap r 0 b₀ 1 t₀ u₀ v₀) (hsmall : Builtin.Range.small 0 b₀ 1 = true) (hn : Builtin.Range.rangeSize 0 b₀ 1 = (n : Int)) (F : Fr h₀ env.locals s.heap m₀) (N : News h₀ env.locals s.heap ((ca, cursor sc i₀ acc₀ ti ta nn) :: rest))
    (h1 : 0 ≤ i₀) (h2 : 0 ≤ acc₀) (h3 : acc₀ < 999983) (hk : m₀ (Str.ofString "number") = some (.int x₀ tx)) (hp : P 0 x₀)
    (turn : ∀ (number : Int) (tn : Tok) (i acc : Int) (ti ta : Tok) (k : Nat) (pre : List Int) t (u : Str → Option Value) h tk own, pre.length = k + 1 → k < n → OwnOff own (ca :: rest.map (·.1)) → 0 ≤ i → 0 ≤ acc → acc < 999983 → P k number →
      Fr h₀ env.locals h (fun y => if y = x then some (.int (0 + (k : Int) * 1) t) else if y = Str.ofString "number" then some (.int number tn) else m₀ y) → News h₀ env.locals h ((ca, cursor sc i acc ti ta nn) :: (rest ++ own)) →
      wpAny (model prog w) A (execs body env) (InvPostN h₀ env.locals (KstS (drawLed ca sc nn rest) drawPs drawFacts x [] m₀ (fun pre c => P pre.length c.1) pre) own (ca :: rest.map (·.1)) { s with heap := h, toks := tk } Q) E { s with heap := h, toks := tk })
    (done : ∀ (number : Int) (tn : Tok) (i acc : Int) (ti ta : Tok) (u : Str → Option Value) h tk, 0 ≤ i → 0 ≤ acc → acc < 999983 → P n number → Fr h₀ env.locals h (fun y => if y = x then u y else if y = Str.ofString "number" then some (.int number tn) else m₀ y) → News h₀ env.locals h ((ca, cursor sc i acc ti ta nn) :: rest) → Q .next { s with heap := h, toks := tk }) :
    wpAny (model prog w) A (pyIter (.ref r)) (fun it s₂ => LoopAtV prog w A h₀ env x body Q E it s₂) E s := by
  refine loop_step (σ := DrawS) (drawLed ca sc nn rest) drawPs drawFacts [] (fun k c => P k c.1) (x₀, tx, i₀, acc₀, ti, ta) hh hr hsmall hn F N ⟨h1, h2, h3⟩ ?_ hp ?_ ?_
  · intro p hp
    rw [List.mem_singleton.mp hp]
    exact hk
  · intro c k pre t u h tk own g1 g2 g3 g4 g5 g6 g7
    exact turn c.1 c.2.1 c.2.2.1 c.2.2.2.1 c.2.2.2.2.1 c.2.2.2.2.2 k pre t u h tk own g1 g2 g3 g4.1 g4.2.1 g4.2.2 g5 g6 g7
  · intro c u h tk g1 g2 g3 g4
    exact done c.1 c.2.1 c.2.2.1 c.2.2.2.1 c.2.2.2.2.1 c.2.2.2.2.2 u h tk g1.1 g1.2.1 g1.2.2 g2 g3 g4

/-- what holds between the turns of the second loop: a new list each turn -/
def RowS (rest : List (Addr × Obj)) (x : Str) (m₀ : Str → Option Value) (P : Nat → List Int → Int → Prop) (k : Nat) (m : Str → Option Value) (nx : List (Addr × Obj)) : Prop :=
  ∃ (la : Addr) (vs : List Value) (nn : Nat) (ns : List Int) (left : Int) (tl : Tok), nx = (la, W.listOf vs.toArray nn) :: rest ∧ IntsAre vs ns ∧ P k ns left ∧ m (Str.ofString "row") = some (.ref la) ∧ m (Str.ofString "left") = some (.int left tl) ∧ ∀ z, z ≠ x → z ≠ Str.ofString "row" → z ≠ Str.ofString "left" → m z = m₀ z
theorem row_map {x : Str} {m₀ m : Str → Option Value} {v a b : Value} (h1 : m (Str.ofString "row") = some a) (h2 : m (Str.ofString "left") = some b) (h3 : ∀ z, z ≠ x → z ≠ Str.ofString "row" → z ≠ Str.ofString "left" → m z = m₀ z) :
    (fun y => if y = x then some v else m y) = fun y => if y = x then some v else if y = Str.ofString "row" then some a else if y = Str.ofString "left" then some b else m₀ y := by
  funext y
  by_cases e1 : y = x
  · rw [if_pos e1, if_pos e1]
  · rw [if_neg e1, if_neg e1]
    by_cases e2 : y = Str.ofString "row"
    · rw [if_pos e2, e2, h1]
    · rw [if_neg e2]
      by_cases e3 : y = Str.ofString "left"
      · rw [if_pos e3, e3, h2]
      · rw [if_neg e3, h3 y e1 e2 e3]
theorem row_out {x : Str} {m₀ m : Str → Option Value} {a b : Value} (h1 : m (Str.ofString "row") = some a) (h2 : m (Str.ofString "left") = some b) (h3 : ∀ z, z ≠ x → z ≠ Str.ofString "row" → z ≠ Str.ofString "left" → m z = m₀ z) :
    m = fun y => if y = x then m y else if y = Str.ofString "row" then some a else if y = Str.ofString "left" then some b else m₀ y := by
  funext y
  by_cases e1 : y = x
  · rw [if_pos e1]
  · rw [if_neg e1]
    by_cases e2 : y = Str.ofString "row"
    · rw [if_pos e2, e2, h1]
    · rw [if_neg e2]
      by_cases e3 : y = Str.ofString "left"
      · rw [if_pos e3, e3, h2]
      · rw [if_neg e3, h3 y e1 e2 e3]
theorem loop_row {r la₀ : Addr} {rest : List (Addr × Obj)} {vs₀ : List Value} {ns₀ : List Int} {nn₀ : Nat} {b₀ x₀ : Int} {tx t₀ u₀ v₀ : Tok} {n : Nat} {m₀ : Str → Option Value} (P : Nat → List Int → Int → Prop)
    (hh : A.handled = none) (hr : IsRange s.heap r 0 b₀ 1 t₀ u₀ v₀) (hsmall : Builtin.Range.small 0 b₀ 1 = true) (hn : Builtin.Range.rangeSize 0 b₀ 1 = (n : Int)) (F : Fr h₀ env.locals s.heap m₀) (N : News h₀ env.locals s.heap ((la₀, W.listOf vs₀.toArray nn₀) :: rest))
    (hi : IntsAre vs₀ ns₀) (hk1 : m₀ (Str.ofString "row") = some (.ref la₀)) (hk2 : m₀ (Str.ofString "left") = some (.int x₀ tx)) (hp : P 0 ns₀ x₀)
    (turn : ∀ (la : Addr) (vs : List Value) (nn : Nat) (ns : List Int) (left : Int) (tl : Tok) (k : Nat) t h tk own, k < n → OwnOff own (la :: rest.map (·.1)) → IntsAre vs ns → P k ns left →
      Fr h₀ env.locals h (fun y => if y = x then some (.int (0 + (k : Int) * 1) t) else if y = Str.ofString "row" then some (.ref la) else if y = Str.ofString "left" then some (.int left tl) else m₀ y) → News h₀ env.locals h ((la, W.listOf vs.toArray nn) :: (rest ++ own)) →
      wpAny (model prog w) A (execs body env) (InvPostG h₀ env.locals (RowS rest x m₀ P (k + 1)) own { s with heap := h, toks := tk } Q) E { s with heap := h, toks := tk })
    (done : ∀ (la : Addr) (vs : List Value) (nn : Nat) (ns : List Int) (left : Int) (tl : Tok) (u : Str → Option Value) h tk, IntsAre vs ns → P n ns left →
      Fr h₀ env.locals h (fun y => if y = x then u y else if y = Str.ofString "row" then some (.ref la) else if y = Str.ofString "left" then some (.int left tl) else m₀ y) → News h₀ env.locals h ((la, W.listOf vs.toArray nn) :: rest) → Q .next { s with heap := h, toks := tk }) :
    wpAny (model prog w) A (pyIter (.ref r)) (fun it s₂ => LoopAtV prog w A h₀ env x body Q E it s₂) E s := by
  refine wpAny_pyIter_range hr hsmall ?_
  have W : Walks prog w A s.heap.objs.size [s.heap.objs.size] [s.heap.objs.size] n (fun i v => i < n ∧ ∃ t, v = .int (0 + i * 1) t)
      (fun i h => IsRangeIter h s.heap.objs.size (0 + (i : Nat) * 1) ((n : Int) - (i : Nat)) 1) := (Walks.range hh _ 0 1 n).bound
  refine kdr_loop (RowS rest x m₀ P) W (fun _ h => h) (fun _ h => h) ?_ ?_ ?_ ?_ ?_ (F.push _) (fun p hp => ⟨Heap.get?_push_of_some _ (N p hp).1, (N p hp).2⟩) ⟨la₀, vs₀, nn₀, ns₀, x₀, tx, rfl, hi, hp, hk1, hk2, fun _ _ _ _ => rfl⟩ ?_ ?_
  · intro i h hi b hb
    rw [List.mem_singleton.mp hb]
    exact ⟨_, hi⟩
  · intro hm
    exact absurd F.ns.lt ((List.mem_singleton.mp hm) ▸ Nat.lt_irrefl _)
  · intro b hb
    rw [List.mem_singleton.mp hb]
    exact next_is_new F
  · intro p hp hI
    have h1 := Heap.lt_size (N p hp).1
    rw [List.mem_singleton.mp hI] at h1
    exact Nat.lt_irrefl _ h1
  · show IsRangeIter _ _ _ _ _
    rw [hn]
    simpa using Heap.get?_push_size _ rfl
  · rintro i v m₁ nx h tk own hi ⟨_, t, rfl⟩ hoff ⟨la, vs, nn, ns, left, tl, rfl, hI, hP, g1, g2, g3⟩ F₁ N₁
    rw [row_map g1 g2 g3] at F₁
    exact turn la vs nn ns left tl i t h tk own hi hoff hI hP F₁ N₁
  · rintro m₁ nx h tk ⟨la, vs, nn, ns, left, tl, rfl, hI, hP, g1, g2, g3⟩ F₁ N₁
    rw [row_out (x := x) g1 g2 g3] at F₁
    exact done la vs nn ns left tl m₁ h tk hI hP F₁ N₁
end
theorem news_swap {h₀ h : Heap} {L : Addr} {a b : Addr × Obj} {rest : List (Addr × Obj)} (N : News h₀ L h (a :: b :: rest)) : News h₀ L h (b :: a :: rest) := fun p hp => N p (by
  rcases List.mem_cons.mp hp with rfl | hp
  · exact .tail _ (.head _)
  · rcases List.mem_cons.mp hp with rfl | hp
    · exact .head _
    · exact .tail _ (.tail _ hp))
theorem row_ne {h₀ h : Heap} {L la ca sc : Addr} {vs : List Value} {ns : List Int} {nn n : Nat} {i acc : Int} {ti ta : Tok} {rest : List (Addr × Obj)} (N : News h₀ L h ((la, W.listOf vs.toArray nn) :: (ca, cursor sc i acc ti ta n) :: rest)) (hI : IntsAre vs ns) : la ≠ ca := by
  rintro rfl
  have h1 := (N _ (.head _)).1
  have h2 := (N _ (.tail _ (.head _))).1
  have h3 := congrArg Obj.data (Option.some.inj (h1.symm.trans h2))
  injection h3 with h4 h5
  have h6 : vs = [.ref sc, .int i ti, .int acc ta] := by
    have := congrArg Array.toList h4
    simpa using this
  rw [h6] at hI
  cases hI
end Mine

namespace Mine
theorem anewMF : True := by
  w_top off
  trivial
open PySem.Builtin.Int (intBits)
theorem big_succ (j : Nat) (x : Int) : big (j + 1) x = (x / 256 ^ j % 256) :: big j x := by
  unfold big
  rw [KTBy.little_eq, KTBy.little_eq, List.range_succ, List.map_append, List.reverse_append]
  rfl
theorem big_zero (x : Int) : big 0 x = [] := rfl
theorem nb_le_iff {n : Int} (h0 : 0 ≤ n) (j : Nat) : nb n ≤ j ↔ n < 256 ^ j := by
  constructor
  · intro h
    have h1 := lt_nb h0
    have h2 : (256 : Int) ^ nb n ≤ 256 ^ j := by
      rw [KTBy.p256, KTBy.p256]
      exact Int.ofNat_le.mpr (Nat.pow_le_pow_right (by decide) h)
    omega
  · exact nb_le h0
theorem left_pos {n : Int} (h0 : 0 ≤ n) (j : Nat) : 0 < n / 256 ^ j ↔ j < nb n := by
  have hp : (0 : Int) < 256 ^ j := Int.pow_pos (by decide)
  have h1 := nb_le_iff h0 j
  have h2 : 0 < n / 256 ^ j ↔ 256 ^ j ≤ n := by
    constructor
    · intro h
      have := (Int.le_ediv_iff_mul_le hp).mp (show 1 ≤ n / 256 ^ j by omega)
      omega
    · intro h
      have := (Int.le_ediv_iff_mul_le hp).mpr (show 1 * 256 ^ j ≤ n by omega)
      omega
  rw [h2]
  omega
/-- between the turns of the law's second loop -/
def RowP (n : Int) (k : Nat) (ns : List Int) (left : Int) : Prop := ns = big (min k (nb n)) n ∧ left = n / 256 ^ min k (nb n)
theorem rowP_zero (n : Int) : RowP n 0 [] n := by
  refine ⟨?_, ?_⟩
  · rw [Nat.zero_min]; rfl
  · rw [Nat.zero_min, Int.pow_zero, Int.ediv_one]
theorem rowP_more {n : Int} (h0 : 0 ≤ n) {k : Nat} {ns : List Int} {left : Int} (h : RowP n k ns left) (hl : 0 < left) : RowP n (k + 1) ([Int.fmod left 256] ++ ns) (Int.fdiv left 256) := by
  obtain ⟨rfl, rfl⟩ := h
  have hk := (left_pos h0 _).mp hl
  have e1 : min k (nb n) = k := by omega
  have e2 : min (k + 1) (nb n) = k + 1 := by omega
  refine ⟨?_, ?_⟩
  · rw [e1, e2, big_succ, Int.fmod_eq_emod_of_nonneg _ (by decide)]
    rfl
  · rw [e1, e2, Int.fdiv_eq_ediv_of_nonneg _ (by decide), Int.pow_succ, Int.ediv_ediv_of_nonneg (Int.le_of_lt (Int.pow_pos (by decide)))]
theorem rowP_same {n : Int} (h0 : 0 ≤ n) {k : Nat} {ns : List Int} {left : Int} (h : RowP n k ns left) (hl : ¬ 0 < left) : RowP n (k + 1) ns left := by
  obtain ⟨rfl, rfl⟩ := h
  have hk : ¬ min k (nb n) < nb n := fun hc => hl ((left_pos h0 _).mpr hc)
  have e1 : min k (nb n) = nb n := by omega
  have e2 : min (k + 1) (nb n) = nb n := by omega
  exact ⟨by rw [e1, e2], by rw [e1, e2]⟩
theorem rowP_end {n : Int} (h0 : 0 ≤ n) (h1 : n < 256 ^ 20) {ns : List Int} {left : Int} (h : RowP n 21 ns left) : ns = row n := by
  have h2 := nb_le h0 h1
  have e : min 21 (nb n) = nb n := by omega
  rw [h.1, e]
  rfl
theorem value_snoc (l : List Int) (d : Int) : KFB.value (l ++ [d]) = KFB.value l * 256 + d := by simp [KFB.value]
theorem value_big : ∀ (k : Nat) (n : Int), 0 ≤ n → n < 256 ^ k → KFB.value (big k n) = n
  | 0, n, h0, h1 => by
    have : n = 0 := by simp at h1; omega
    subst this
    rfl
  | k + 1, n, h0, h1 => by
    have e : big (k + 1) n = big k (n / 256) ++ [n % 256] := by
      unfold big
      show (n % 256 :: KTBy.little k (n / 256)).reverse = _
      rw [List.reverse_cons]
    have h2 : n / 256 < 256 ^ k := by
      rw [Int.pow_succ] at h1
      exact Int.ediv_lt_of_lt_mul (by decide) h1
    rw [e, value_snoc, value_big k (n / 256) (by omega) h2]
    omega
theorem value_pad {ks : List Int} : KFB.value (pad ks) = KFB.value ks := by
  unfold pad
  split
  · next h => rw [h]; rfl
  · rfl
theorem value_row {n : Int} (h0 : 0 ≤ n) : KFB.value (row n) = n := value_big _ n h0 (lt_nb h0)
theorem big_more {n : Int} (h0 : 0 ≤ n) : ∀ (j : Nat), big (nb n + j) n = List.replicate j 0 ++ row n
  | 0 => rfl
  | j + 1 => by
    have h1 : ¬ 0 < n / 256 ^ (nb n + j) := fun hc => by have := (left_pos h0 _).mp hc; omega
    have h2 : 0 ≤ n / 256 ^ (nb n + j) := Int.ediv_nonneg h0 (Int.le_of_lt (Int.pow_pos (by decide)))
    have h3 : n / 256 ^ (nb n + j) = 0 := by omega
    rw [← Nat.add_assoc, big_succ, big_more h0 j, h3, List.replicate_succ]
    rfl
theorem row_length (n : Int) : (row n).length = nb n := big_length _ _
/-- the signs by recursion -/
def encL : List Int → List Int
  | a :: b :: c :: r => encPart [a, b, c] ++ encL r
  | [a, b] => encPart [a, b]
  | [a] => encPart [a]
  | [] => []
theorem chunk_shift (a b c : Int) (r : List Int) (i : Nat) : chunk (a :: b :: c :: r) (i + 1) = chunk r i := by
  unfold chunk
  rw [show 3 * (i + 1) = 3 * i + 3 by omega]
  rfl
theorem encUp_shift (a b c : Int) (r : List Int) : ∀ i, encUp (a :: b :: c :: r) (i + 1) = encPart [a, b, c] ++ encUp r i
  | 0 => by simp [encUp, chunk]
  | i + 1 => by
    rw [encUp, encUp_shift a b c r i, chunk_shift, encUp, List.append_assoc]
theorem enc_eq : ∀ ks : List Int, enc ks = encL ks
  | [] => rfl
  | [a] => by simp [enc, chunks, encUp, chunk, encL]
  | [a, b] => by simp [enc, chunks, encUp, chunk, encL]
  | a :: b :: c :: r => by
    have e : chunks (a :: b :: c :: r).length = chunks r.length + 1 := by
      unfold chunks
      simp only [List.length_cons]
      omega
    unfold enc
    rw [e, encUp_shift, encL]
    congr 1
    exact enc_eq r
theorem sgn_back : ∀ k < 64, sixOf (sgn (k : Nat)) = (k : Nat) ∧ sgn (k : Nat) ≠ 61 ∧ 0 ≤ sgn (k : Nat) ∧ sgn (k : Nat) < 128 := by decide +kernel
theorem sgn_six {v : Int} (h0 : 0 ≤ v) (h1 : v < 64) : sixOf (sgn v) = v ∧ sgn v ≠ 61 := by
  obtain ⟨k, rfl⟩ := Int.eq_ofNat_of_zero_le h0
  have h := sgn_back k (by omega)
  exact ⟨h.1, h.2.1⟩
theorem sgn_asc {v : Int} (h0 : 0 ≤ v) (h1 : v < 64) : 0 ≤ sgn v ∧ sgn v < 128 := by
  obtain ⟨k, rfl⟩ := Int.eq_ofNat_of_zero_le h0
  exact (sgn_back k (by omega)).2.2
theorem step0 {f : List Int} {l p m v : Int} (h0 : 0 ≤ v) (h1 : v < 64) : step (f, 0, l, p, m) (sgn v) = (f, 1, v, 0, m + 1) := by
  obtain ⟨e1, e2⟩ := sgn_six h0 h1
  dsimp only [step]
  rw [if_neg e2, e1, if_neg (by omega), if_pos rfl]
  rfl
theorem step1 {f : List Int} {l p m v : Int} (h0 : 0 ≤ v) (h1 : v < 64) : step (f, 1, l, p, m) (sgn v) = (f ++ [l * 4 + v / 16], 2, v % 16, 0, m + 1) := by
  obtain ⟨e1, e2⟩ := sgn_six h0 h1
  dsimp only [step]
  rw [if_neg e2, e1, if_neg (by omega), if_neg (by decide), if_pos rfl, Int.fdiv_eq_ediv_of_nonneg _ (by decide), Int.fmod_eq_emod_of_nonneg v (by decide)]
  rfl
theorem step2 {f : List Int} {l p m v : Int} (h0 : 0 ≤ v) (h1 : v < 64) : step (f, 2, l, p, m) (sgn v) = (f ++ [l * 16 + v / 4], 3, v % 4, 0, m + 1) := by
  obtain ⟨e1, e2⟩ := sgn_six h0 h1
  dsimp only [step]
  rw [if_neg e2, e1, if_neg (by omega), if_neg (by decide), if_neg (by decide), if_pos rfl, Int.fdiv_eq_ediv_of_nonneg _ (by decide), Int.fmod_eq_emod_of_nonneg v (by decide)]
  rfl
theorem step3 {f : List Int} {l p m v : Int} (h0 : 0 ≤ v) (h1 : v < 64) : step (f, 3, l, p, m) (sgn v) = (f ++ [l * 64 + v], 0, l, 0, m + 1) := by
  obtain ⟨e1, e2⟩ := sgn_six h0 h1
  dsimp only [step]
  rw [if_neg e2, e1, if_neg (by omega), if_neg (by decide), if_neg (by decide), if_neg (by decide)]
  rfl
/-- the place behind so many octets -/
def plc (n : Nat) : Int := if n % 3 = 0 then 0 else if n % 3 = 1 then 2 else 3
theorem fold_enc : ∀ (ks f : List Int) (l m : Int), KBa.In ks → ∃ l' m', (encL ks).foldl step (f, 0, l, 0, m) = (f ++ ks, plc ks.length, l', 0, m')
  | [], f, l, m, _ => ⟨l, m, by simp [encL, plc]⟩
  | [a], f, l, m, h => by
    have ha := h a (by simp)
    simp only [encL, encPart, List.foldl_cons, List.foldl_nil]
    rw [step0 (by omega) (by omega), step1 (by omega) (by omega)]
    have e : a * 65536 / 262144 % 64 * 4 + a * 65536 / 4096 % 64 / 16 = a := by omega
    rw [e]
    exact ⟨_, _, rfl⟩
  | [a, b], f, l, m, h => by
    have ha := h a (by simp)
    have hb := h b (by simp)
    simp only [encL, encPart, List.foldl_cons, List.foldl_nil]
    rw [step0 (by omega) (by omega), step1 (by omega) (by omega), step2 (by omega) (by omega)]
    have e : (a * 256 + b) * 256 / 262144 % 64 * 4 + (a * 256 + b) * 256 / 4096 % 64 / 16 = a := by omega
    have e2 : (a * 256 + b) * 256 / 4096 % 64 % 16 * 16 + (a * 256 + b) * 256 / 64 % 64 / 4 = b := by omega
    rw [e, e2, List.append_assoc]
    exact ⟨_, _, rfl⟩
  | a :: b :: c :: r, f, l, m, h => by
    have ha := h a (by simp)
    have hb := h b (by simp)
    have hc := h c (by simp)
    simp only [encL, encPart, List.foldl_append, List.foldl_cons, List.foldl_nil]
    rw [step0 (by omega) (by omega), step1 (by omega) (by omega), step2 (by omega) (by omega), step3 (by omega) (by omega)]
    have e : ((a * 256 + b) * 256 + c) / 262144 % 64 * 4 + ((a * 256 + b) * 256 + c) / 4096 % 64 / 16 = a := by omega
    have e2 : ((a * 256 + b) * 256 + c) / 4096 % 64 % 16 * 16 + ((a * 256 + b) * 256 + c) / 64 % 64 / 4 = b := by omega
    have e3 : ((a * 256 + b) * 256 + c) / 64 % 64 % 4 * 64 + ((a * 256 + b) * 256 + c) % 64 = c := by omega
    rw [e, e2, e3]
    obtain ⟨l', m', hf⟩ := fold_enc r (f ++ [a] ++ [b] ++ [c]) _ (m + 1 + 1 + 1 + 1) fun n hn => h n (by simp [hn])
    have hp : plc (a :: b :: c :: r).length = plc r.length := by
      unfold plc
      simp only [List.length_cons]
      simp only [show (r.length + 1 + 1 + 1) % 3 = r.length % 3 by omega]
    refine ⟨l', m', hf.trans ?_⟩
    rw [hp]
    simp
theorem fold_pads : ∀ (k : Nat) (f : List Int) (pl l p m : Int), (List.replicate k (61 : Int)).foldl step (f, pl, l, p, m) = (f, pl, l, p + k, m)
  | 0, f, pl, l, p, m => by simp
  | k + 1, f, pl, l, p, m => by
    rw [List.replicate_succ, List.foldl_cons]
    have e : step (f, pl, l, p, m) 61 = (f, pl, l, p + 1, m) := rfl
    rw [e, fold_pads k]
    have e2 : p + 1 + (k : Int) = p + ((k + 1 : Nat) : Int) := by omega
    rw [e2]
theorem encL_length : ∀ ks : List Int, (encL ks).length = 4 * (ks.length / 3) + (if ks.length % 3 = 0 then 0 else ks.length % 3 + 1)
  | [] => rfl
  | [a] => by simp [encL, encPart]
  | [a, b] => by simp [encL, encPart]
  | a :: b :: c :: r => by
    have h := encL_length r
    simp only [encL, encPart, List.length_append, List.length_cons, List.length_nil]
    rw [h, show (r.length + 1 + 1 + 1) / 3 = r.length / 3 + 1 by omega, show (r.length + 1 + 1 + 1) % 3 = r.length % 3 by omega]
    omega
theorem run_back {ks : List Int} (h : KBa.In ks) : (run (padded (enc ks))).1 = ks ∧ (run (padded (enc ks))).2.1 ≠ 1 ∧ ((run (padded (enc ks))).2.1 = 0 ∨ 4 ≤ (run (padded (enc ks))).2.1 + (run (padded (enc ks))).2.2.2.1) := by
  rw [enc_eq]
  obtain ⟨l', m', hf⟩ := fold_enc ks [] 0 0 h
  have hl := encL_length ks
  unfold padded run
  split
  · next h4 =>
    rw [hf]
    have : plc ks.length = 0 := by
      unfold plc
      rw [if_pos]
      split at hl <;> omega
    refine ⟨by simp, ?_, .inl this⟩
    show plc ks.length ≠ 1
    rw [this]
    decide
  · next h4 =>
    rw [List.foldl_append, hf, fold_pads]
    refine ⟨by simp, ?_, .inr ?_⟩
    · show plc ks.length ≠ 1
      unfold plc
      (repeat' split) <;> decide
    · show 4 ≤ plc ks.length + (0 + ((4 - (encL ks).length % 4 : Nat) : Int))
      unfold plc
      rw [hl]
      (repeat' split) <;> omega
theorem enc_asc : ∀ ks : List Int, Asc (enc ks) := by
  have hp : ∀ ks, Asc (encPart ks) := by
    intro ks n hn
    unfold encPart at hn
    split at hn
    all_goals simp only [List.mem_cons, List.not_mem_nil, or_false] at hn
    · rcases hn with rfl | rfl <;> exact sgn_asc (by omega) (by omega)
    · rcases hn with rfl | rfl | rfl <;> exact sgn_asc (by omega) (by omega)
    · rcases hn with rfl | rfl | rfl | rfl <;> exact sgn_asc (by omega) (by omega)
  have hu : ∀ ks i, Asc (encUp ks i) := by
    intro ks i
    induction i with
    | zero => intro n hn; cases hn
    | succ i ih =>
      intro n hn
      rw [encUp] at hn
      rcases List.mem_append.mp hn with h | h
      · exact ih n h
      · exact hp _ n h
  exact fun ks => hu ks _
theorem enc_len {ks : List Int} (h : ks.length ≤ 30) : (enc ks).length ≤ 50 := by
  rw [enc_eq, encL_length]
  split <;> omega
theorem enc_ne {ks : List Int} (h : ks ≠ []) : enc ks ≠ [] := by
  intro he
  have h1 := congrArg List.length he
  rw [enc_eq, encL_length] at h1
  have h2 : 0 < ks.length := List.length_pos_iff.mpr h
  simp only [List.length_nil] at h1
  split at h1 <;> omega
theorem pad_ne (ks : List Int) : pad ks ≠ [] := by
  unfold pad
  split
  · simp
  · assumption
theorem pad_in {ks : List Int} (h : KBa.In ks) : KBa.In (pad ks) := by
  unfold pad
  split
  · intro n hn; rw [List.mem_singleton.mp hn]; decide
  · exact h
theorem pad_length (ks : List Int) : (pad ks).length ≤ ks.length + 1 := by
  unfold pad
  split
  · simp
  · omega
end Mine

namespace Mine
local macro_rules | `(tactic| walk_at "nowhere") => `(tactic| fail)
local macro_rules | `(tactic| walk_at "nowhere") => `(tactic| fail)
local macro_rules | `(tactic| walk_at "nowhere") => `(tactic| fail)
local macro_rules | `(tactic| walk_at "nowhere") => `(tactic| fail)
local macro_rules | `(tactic| walk_at "nowhere") => `(tactic| fail)
local macro_rules | `(tactic| walk_at "nowhere") => `(tactic| fail)
local macro_rules | `(tactic| walk_at "nowhere") => `(tactic| fail)
local macro_rules | `(tactic| walk_at "nowhere") => `(tactic| fail)
local macro_rules | `(tactic| walk_at "nowhere") => `(tactic| fail)
local macro_rules | `(tactic| walk_at "nowhere") => `(tactic| fail)
local macro_rules | `(tactic| walk_at "nowhere") => `(tactic| fail)
local macro_rules | `(tactic| walk_at "nowhere") => `(tactic| fail)
local macro_rules | `(tactic| walk_at "nowhere") => `(tactic| fail)
local macro_rules | `(tactic| walk_at "nowhere") => `(tactic| fail)
local macro_rules | `(tactic| walk_at "nowhere") => `(tactic| fail)
local macro_rules | `(tactic| walk_at "nowhere") => `(tactic| fail)
local macro_rules | `(tactic| walk_at "nowhere") => `(tactic| fail)
local macro_rules | `(tactic| walk_at "nowhere") => `(tactic| fail)
local macro_rules | `(tactic| walk_at "nowhere") => `(tactic| fail)
local macro_rules | `(tactic| walk_at "nowhere") => `(tactic| fail)
local macro_rules | `(tactic| walk_at "nowhere") => `(tactic| fail)
local macro_rules | `(tactic| walk_at "nowhere") => `(tactic| fail)
local macro_rules | `(tactic| walk_at "nowhere") => `(tactic| fail)
local macro_rules | `(tactic| walk_at "nowhere") => `(tactic| fail)
local macro_rules | `(tactic| walk_at "nowhere") => `(tactic| fail)
local macro_rules | `(tactic| walk_at "nowhere") => `(tactic| fail)
local macro_rules | `(tactic| walk_at "nowhere") => `(tactic| fail)
theorem anewM10 : True := by
  w_top off
  trivial
local macro_rules | `(tactic| walk_at "mine news") => `(tactic| first | k_asm | (refine' cb_drop ?cbN ?cbS; (case cbN => assumption); (case cbS => kcj_all)))
local macro_rules | `(tactic| walk_at "InvEndN") => `(tactic| refine Stop.out ?_)
local macro_rules | `(tactic| walk_at "mine idx") => `(tactic| first | exact fmod_lo _ (by decide) | exact fmod_hi _ (by decide) | (rw [Int.fdiv_eq_ediv_of_nonneg _ (by decide)]; omega))
local macro_rules | `(tactic| walk_at "subscriptTail") => `(tactic| (k_here; (with_reducible show wpAny _ _ (subscriptTail _ (Expr.Slice _ _ none _) (Value.bytes _ _) (Value.ref _)) _ _ _); (with_reducible rename Fr _ _ _ _ => F'); (with_reducible rename News _ _ _ _ => N'); (refine KBc.slice_K (s := ⟨_, _, _, _, _⟩) F' N' (by kba_ints) (by constructor) (by constructor) (by kba_size) ?_); intro _ _ _ _ _ kbcK; (simp only [Option.elim] at kbcK); (rw [chunk_cut (by assumption), show chunk _ _ = _ from by assumption] at kbcK); rw [bytes_of kbcK]; clear kbcK))
local macro_rules | `(tactic| walk_at "subscriptTail") => `(tactic| (k_here; (with_reducible show wpAny _ _ (subscriptTail _ _ (Value.str _ _) (Value.int _ _)) _ _ _); (refine TX.item ?a ?b ?_); (case a => walk_at "mine idx"); (case b => walk_at "mine idx"); intro _ _))
local macro_rules | `(tactic| walk_at "subscriptTail Name BinOp str int") => `(tactic| (k_here; (refine TX.item ?a ?b ?_); (case a => walk_at "mine idx"); (case b => walk_at "mine idx"); intro _ _))
local macro_rules | `(tactic| walk_at "subscriptTail") => `(tactic| ((with_reducible show wpAny _ _ (subscriptTail _ _ (Value.str _ _) (Value.ref _)) _ _ _); refine Stop.out ?_))
local macro_rules | `(tactic| walk_at "call builtin:len") => `(tactic| (k_here; (with_reducible show wpAny _ _ (call (Value.builtin "len") [Value.bytes _ _]) _ _ _); (first | refine len_lit 1 (by assumption) rfl (by decide) ?_ | refine len_lit 2 (by assumption) rfl (by decide) ?_ | refine len_lit 3 (by assumption) rfl (by decide) ?_); intro _ _; simp only [Int.cast_ofNat_Int, Int.natCast_one]))
local macro_rules | `(tactic| walk_at "binaryOp Add int int") => `(tactic| (with_reducible first | refine add11 ?_ | refine add21 ?_ | refine add31 ?_))
local macro_rules | `(tactic| walk_at "binaryOp Add str str") => `(tactic| (with_reducible refine TX.add ?a ?_; (case a => (simp only [List.length_append, List.length_cons, List.length_nil]; omega)); intro _ _))
local macro_rules | `(tactic| walk_at "binaryOp Add bytes bytes") => `(tactic| (with_reducible refine BO.add_K ?a ?_; (case a => (simp only [List.length_replicate, List.length_cons, List.length_nil]; omega)); intro _ _))
local macro_rules | `(tactic| walk_at "binaryOp Mult bytes int") => `(tactic| (k_dflt (refine BO.mul_one (x := 0) (by omega) (by omega) ?_); intro _ _))
theorem six_law_told (news : List (Addr × Obj)) (ks : List Int) (t : Tok) (hin : KBa.In ks) (hl : ks.length ≤ 64) : Told 1 8 93 [.bytes (byteArr ks) t] [] news (fun v => ∃ t', v = .str (textOf (enc ks)) t') := by
  unfold Told
  k_fill
  intro w mean mg mb dp un gd cn cs a ccd cl outer A₀ base h₀ L m s Q E B F X N T hk hd hu hret
  have hb := KBa.ints_make hin
  refine wpAny_call ?_
  k_dflt cell_enter
  k_steps
  rename IsRange _ _ _ _ _ _ _ _ => rg
  rename Fr _ _ _ _ => lF
  rename News _ _ _ _ => lN
  have hs := chunks_small (n := ks.length) (by omega)
  (with_unfolding_all refine' loop_step (σ := Str × Tok) (fun _ => news) (fun c => [(Str.ofString "found", Value.str c.1 c.2)]) (fun _ => True) [Str.ofString "part", Str.ofString "number", Str.ofString "four"] (fun i c => c.1 = textOf (encUp ks i)) (_, _) (by rfl) rg hs (chunks_size _) lF lN trivial ?kk ?kp ?_ ?_)
  case kk => kst_all
  case kp => rfl
  · clear lF lN rg
    rintro ⟨found, tf⟩ i pre t u h tk own hpre hi hoff - hp F₁ N₁
    dsimp only [kstB] at F₁ N₁ hp
    subst hp
    have kMark := kstMark
    have hvl : (encUp ks i).length ≤ 1000 := by
      have h1 := encUp_length_le ks i
      unfold chunks at hi
      omega
    try k_fold
    rcases chunk_ways hi with ⟨x1, hc⟩ | ⟨x1, x2, hc⟩ | ⟨x1, x2, x3, hc⟩
    · have hinL : KBa.In [x1] := fun n hn => hin n (List.mem_of_mem_drop (List.mem_of_mem_take (show n ∈ chunk ks i by rw [hc]; exact hn)))
      have hin1 : 0 ≤ x1 ∧ x1 < 256 := hin x1 (List.mem_of_mem_drop (List.mem_of_mem_take (show x1 ∈ chunk ks i by rw [hc]; simp)))
      have hb1 : KBw.bInts (byteArr [x1]) = [x1] := KBa.ints_make hinL
      k_steps
      have hv : KFB.value (KBw.bInts (byteArr (x1 :: List.replicate (3 - 1 : Int).toNat 0))) = x1 * 65536 := by
        rw [KBa.ints_make (ns := x1 :: List.replicate (3 - 1 : Int).toNat 0) (by intro n hn; rcases List.mem_append.mp (show n ∈ [x1] ++ List.replicate (3 - 1 : Int).toNat 0 from hn) with h1 | h1; exact hinL n h1; rw [List.eq_of_mem_replicate h1]; decide)]
        show ((0 * 256 + x1) * 256 + 0) * 256 + 0 = x1 * 65536
        omega
      k_dflt refine FB2.call_pos (by k_asm) (by k_mem) (by rw [byteArr_size]; simp) ?_
      intro t1 k1
      rw [hv]
      k_steps
      refine Stop.go ?_
      (with_reducible rename Fr _ _ _ _ => F9)
      (with_reducible rename News _ _ _ _ => N9)
      refine slice_strN_ns (hsz := by show (textOf _).cps.size ≤ sizeLine; rw [textOf_size, sizeLine_eq]; simp) (s := ⟨_, _, _, _, _⟩) F9 N9 ?_
      intro h9 t9 k9 F9' N9'
      rw [TX.cut2]
      k_steps
      refine Stop.go ?_
      rename News _ _ _ _ => nE
      refine kst_end ⟨_, _⟩ (by assumption) nE (by first | kst_in | kst_inAny) (by first | (intro p hp; kst_mem) | kst_anyIn) (by rfl) trivial (by kst_all) (by kst_same) ?_
      rw [hpre, encUp, hc, ← lway1 rfl hin1]
    · have hinL : KBa.In [x1, x2] := fun n hn => hin n (List.mem_of_mem_drop (List.mem_of_mem_take (show n ∈ chunk ks i by rw [hc]; exact hn)))
      have hin1 : 0 ≤ x1 ∧ x1 < 256 := hin x1 (List.mem_of_mem_drop (List.mem_of_mem_take (show x1 ∈ chunk ks i by rw [hc]; simp)))
      have hin2 : 0 ≤ x2 ∧ x2 < 256 := hin x2 (List.mem_of_mem_drop (List.mem_of_mem_take (show x2 ∈ chunk ks i by rw [hc]; simp)))
      have hb1 : KBw.bInts (byteArr [x1, x2]) = [x1, x2] := KBa.ints_make hinL
      k_steps
      have hv : KFB.value (KBw.bInts (byteArr (x1 :: x2 :: List.replicate (3 - 2 : Int).toNat 0))) = (x1 * 256 + x2) * 256 := by
        rw [KBa.ints_make (ns := x1 :: x2 :: List.replicate (3 - 2 : Int).toNat 0) (by intro n hn; rcases List.mem_append.mp (show n ∈ [x1, x2] ++ List.replicate (3 - 2 : Int).toNat 0 from hn) with h1 | h1; exact hinL n h1; rw [List.eq_of_mem_replicate h1]; decide)]
        show ((0 * 256 + x1) * 256 + x2) * 256 + 0 = (x1 * 256 + x2) * 256
        omega
      k_dflt refine FB2.call_pos (by k_asm) (by k_mem) (by rw [byteArr_size]; simp) ?_
      intro t1 k1
      rw [hv]
      k_steps
      refine Stop.go ?_
      (with_reducible rename Fr _ _ _ _ => F9)
      (with_reducible rename News _ _ _ _ => N9)
      refine slice_strN_ns (hsz := by show (textOf _).cps.size ≤ sizeLine; rw [textOf_size, sizeLine_eq]; simp) (s := ⟨_, _, _, _, _⟩) F9 N9 ?_
      intro h9 t9 k9 F9' N9'
      rw [TX.cut3]
      k_steps
      refine Stop.go ?_
      rename News _ _ _ _ => nE
      refine kst_end ⟨_, _⟩ (by assumption) nE (by first | kst_in | kst_inAny) (by first | (intro p hp; kst_mem) | kst_anyIn) (by rfl) trivial (by kst_all) (by kst_same) ?_
      rw [hpre, encUp, hc, ← lway2 rfl hin1 hin2]
    · have hinL : KBa.In [x1, x2, x3] := fun n hn => hin n (List.mem_of_mem_drop (List.mem_of_mem_take (show n ∈ chunk ks i by rw [hc]; exact hn)))
      have hin1 : 0 ≤ x1 ∧ x1 < 256 := hin x1 (List.mem_of_mem_drop (List.mem_of_mem_take (show x1 ∈ chunk ks i by rw [hc]; simp)))
      have hin2 : 0 ≤ x2 ∧ x2 < 256 := hin x2 (List.mem_of_mem_drop (List.mem_of_mem_take (show x2 ∈ chunk ks i by rw [hc]; simp)))
      have hin3 : 0 ≤ x3 ∧ x3 < 256 := hin x3 (List.mem_of_mem_drop (List.mem_of_mem_take (show x3 ∈ chunk ks i by rw [hc]; simp)))
      have hb1 : KBw.bInts (byteArr [x1, x2, x3]) = [x1, x2, x3] := KBa.ints_make hinL
      k_steps
      refine Stop.go ?_
      (with_reducible rename Fr _ _ _ _ => F9)
      (with_reducible rename News _ _ _ _ => N9)
      refine slice_strN_ns (hsz := by show (textOf _).cps.size ≤ sizeLine; rw [textOf_size, sizeLine_eq]; simp) (s := ⟨_, _, _, _, _⟩) F9 N9 ?_
      intro h9 t9 k9 F9' N9'
      rw [TX.cut4]
      k_steps
      refine Stop.go ?_
      rename News _ _ _ _ => nE
      refine kst_end ⟨_, _⟩ (by assumption) nE (by first | kst_in | kst_inAny) (by first | (intro p hp; kst_mem) | kst_anyIn) (by rfl) trivial (by kst_all) (by kst_same) ?_
      rw [hpre, encUp, hc, ← lway3 (N := ((0 * 256 + x1) * 256 + x2) * 256 + x3) (by omega) hin1 hin2 hin3]
  · clear lF lN rg
    rintro ⟨found, tf⟩ u h tk - hp F₁ N₁
    dsimp only [kstB] at F₁ N₁ hp
    subst hp
    k_steps
    exact hret _ _ _ ⟨_, rfl⟩ (by k_asm) (by walk_at "mine news")
end Mine

namespace Mine
local macro_rules | `(tactic| walk_at "nowhere") => `(tactic| fail)
local macro_rules | `(tactic| walk_at "nowhere") => `(tactic| fail)
local macro_rules | `(tactic| walk_at "nowhere") => `(tactic| fail)
local macro_rules | `(tactic| walk_at "nowhere") => `(tactic| fail)
local macro_rules | `(tactic| walk_at "nowhere") => `(tactic| fail)
local macro_rules | `(tactic| walk_at "nowhere") => `(tactic| fail)
local macro_rules | `(tactic| walk_at "nowhere") => `(tactic| fail)
local macro_rules | `(tactic| walk_at "nowhere") => `(tactic| fail)
local macro_rules | `(tactic| walk_at "nowhere") => `(tactic| fail)
local macro_rules | `(tactic| walk_at "nowhere") => `(tactic| fail)
local macro_rules | `(tactic| walk_at "nowhere") => `(tactic| fail)
local macro_rules | `(tactic| walk_at "nowhere") => `(tactic| fail)
local macro_rules | `(tactic| walk_at "nowhere") => `(tactic| fail)
local macro_rules | `(tactic| walk_at "nowhere") => `(tactic| fail)
local macro_rules | `(tactic| walk_at "nowhere") => `(tactic| fail)
local macro_rules | `(tactic| walk_at "nowhere") => `(tactic| fail)
local macro_rules | `(tactic| walk_at "nowhere") => `(tactic| fail)
local macro_rules | `(tactic| walk_at "nowhere") => `(tactic| fail)
local macro_rules | `(tactic| walk_at "nowhere") => `(tactic| fail)
local macro_rules | `(tactic| walk_at "nowhere") => `(tactic| fail)
local macro_rules | `(tactic| walk_at "nowhere") => `(tactic| fail)
local macro_rules | `(tactic| walk_at "nowhere") => `(tactic| fail)
local macro_rules | `(tactic| walk_at "nowhere") => `(tactic| fail)
local macro_rules | `(tactic| walk_at "nowhere") => `(tactic| fail)
local macro_rules | `(tactic| walk_at "nowhere") => `(tactic| fail)
local macro_rules | `(tactic| walk_at "nowhere") => `(tactic| fail)
local macro_rules | `(tactic| walk_at "nowhere") => `(tactic| fail)
local macro_rules | `(tactic| walk_at "nowhere") => `(tactic| fail)
local macro_rules | `(tactic| walk_at "nowhere") => `(tactic| fail)
local macro_rules | `(tactic| walk_at "nowhere") => `(tactic| fail)
local macro_rules | `(tactic| walk_at "nowhere") => `(tactic| fail)
local macro_rules | `(tactic| walk_at "nowhere") => `(tactic| fail)
local macro_rules | `(tactic| walk_at "nowhere") => `(tactic| fail)
local macro_rules | `(tactic| walk_at "nowhere") => `(tactic| fail)
local macro_rules | `(tactic| walk_at "nowhere") => `(tactic| fail)
local macro_rules | `(tactic| walk_at "nowhere") => `(tactic| fail)
local macro_rules | `(tactic| walk_at "nowhere") => `(tactic| fail)
local macro_rules | `(tactic| walk_at "nowhere") => `(tactic| fail)
local macro_rules | `(tactic| walk_at "nowhere") => `(tactic| fail)
theorem anewM11 : True := by
  w_top off
  trivial
local macro_rules | `(tactic| walk_at "call ref") => `(tactic| (k_here; (with_reducible show wpAny _ _ (call (Value.ref _) _ _) _ _ _); refine Stop.out ?_))
local macro_rules | `(tactic| walk_at "InvEndN") => `(tactic| refine Stop.out ?_)
local macro_rules | `(tactic| walk_at "pyIter ref") => `(tactic| ((with_reducible show wpAny _ _ (pyIter (Value.ref _)) (fun it s₂ => LoopAtV _ _ _ _ _ _ _ _ _ it s₂) _ _); refine Stop.out ?_))
local macro_rules | `(tactic| walk_at "mine draw") => `(tactic| ((case k1 => k_asm); (case k2 => k_asm); (case k3 => k_asm); (case kN => k_asm); (case k5 => k_asm); (case kK => first | exact rfl | assumption); (case hL => k_asm); (case hI => assumption); (case kd => ktr_room); (case ku => ktr_units)))
local macro_rules | `(tactic| walk_at "binaryOp Add ref ref") => `(tactic| (k_here; (with_reducible show wpAny _ _ (binaryOp _ (Value.ref _) (Value.ref _)) _ _ _); k_dflt (refine' kmk_add_ints ?F ?N ?a ?b ?i ?j ?_ ?z; (case F => k_asm); (case N => k_asm); (case a => kmk_list); (case b => kmk_list); (case i => l_ints); (case j => l_ints); (case z => (simp only [sizeLine_eq, List.length_cons, List.length_nil]; omega))); intro D' ws' h' F' N' l1 hI'; (try k_lt l1); (try k_sweep)))
local macro_rules | `(tactic| walk_at "mine told") => `(tactic| ((case k1 => k_asm); (case k2 => k_asm); (case k3 => k_asm); (case k4 => k_asm); (case k5 => k_asm); (case kK => first | exact rfl | assumption); (case kd => ktr_room); (case ku => ktr_units)))
local macro_rules | `(tactic| walk_at "eval IfExp") => `(tactic| refine Stop.out ?_)
local macro_rules | `(tactic| walk_at "mine news") => `(tactic| first | k_asm | (refine' cb_drop ?cbN ?cbS; (case cbN => assumption); (case cbS => kcj_all)))
local macro_rules | `(tactic| walk_at "getMethod str") => `(tactic| (with_reducible refine TX.m_encode ?_))
local macro_rules | `(tactic| walk_at "callWith") => `(tactic| (k_here; (with_reducible show wpAny _ _ (callWith _ (Value.builtin _) (_ :: _) (backTo _ (starEach (_ :: _) _)) (backToKw _ (keywordEach (_ :: _) _))) _ _ _); refine callWith_kwF ?_))
local macro_rules | `(tactic| walk_at "mine enter") => `(tactic| (refine' code_def ?k1 ?k2 ?k3 ?k4 ?k5 ?kA ?kF ?kK ?k6 ?k7 ?k8 ?k9 ?kB ?_ ?c2 ?c3 ?c4 ?c5; (case kA => exact rfl); (case kF => exact rfl); (case kK => exact rfl); (case k1 => k_asm); (case k2 => k_asm); (case k3 => k_asm); (case k4 => k_asm); (case k5 => k_asm); (case k6 => k_is); (case k7 => k_is); (case k8 => k_room); (case k9 => (refine' kp_binds ?kx ?ke; (case kx => k_in); (case ke => exact fun _ => rfl))); (case c5 => decide); (case kB => exact locs rfl); (case c2 => exact rfl); (case c3 => exact rfl); (case c4 => exact rfl); k_whole; intro g' L' h' FG' F' N' B' X' T'; (try dsimp only); (try k_lift B'); (try k_fold)))
local macro_rules | `(tactic| walk_at "binaryOp Add bytes bytes") => `(tactic| refine Stop.out ?_)
theorem law_holds : PySem.Challenge.rw_ff0011_01.Holds := hd (by
  k_go0
  all_goals try k_fold
  k_steps
  refine Stop.go ?_
  rename ¬ ((63 : Nat) : Int) < _ => h63
  k_dflt refine' draws_use (take_draws 21 (by decide) (by decide)) ?k1 ?k2 ?k3 ?kN ?off ?k5 ?kK ?hL ?hI ?hl ?hi ?ha ?hb ?kd ?ku ?_
  walk_at "mine draw"
  case off => exact fun _ hp => nomatch hp
  case hl => omega
  case hi => decide
  case ha => decide
  case hb => decide
  intro d0 td0 i0 ti0 acc0 ta0 h0 tk0 d0lo d0hi i0lo acc0lo acc0hi F0 N0
  k_steps
  refine Stop.go ?_
  rename IsRange _ _ _ _ _ _ _ _ => rg
  have hrs : Builtin.Range.rangeSize 0 d0 1 = ((d0.toNat : Nat) : Int) := by rw [rangeSize_nat]; simp
  have hsm : Builtin.Range.small 0 d0 1 = true := small_one (by omega) (by omega) (by omega) (by omega)
  (rename Fr _ _ _ _ => lF)
  (rename News _ _ _ _ => lN)
  (with_unfolding_all refine' loop_draw (fun k x => 0 ≤ x ∧ x < 256 ^ k) (by rfl) rg hsm hrs lF lN i0lo acc0lo acc0hi ?hk ⟨Int.le_refl 0, by decide⟩ ?_ ?_)
  case hk => rfl
  · clear lF lN rg
    intro number tn i acc ti ta k pre t u h tk own hpre hk hoff hi hacc hacc2 hP F₁ N₁
    have kMark := kstMark
    try k_fold
    simp only [List.nil_append] at N₁
    k_steps
    refine Stop.go ?_
    k_dflt refine' draws_use (take_draws 256 (by decide) (by decide)) ?k1 ?k2 ?k3 ?kN ?off ?k5 ?kK ?hL ?hI ?hl ?hi ?ha ?hb ?kd ?ku ?_
    walk_at "mine draw"
    case off => exact fun p hp b hb => hoff p hp b (by rw [List.mem_singleton.mp hb]; exact .head _)
    case hl => omega
    case hi => exact hi
    case ha => exact hacc
    case hb => exact hacc2
    intro d td i' ti' acc' ta' h' tk' dlo dhi ilo acclo acchi F' N'
    k_steps
    refine Stop.go ?_
    rename News _ _ _ _ => nE
    refine kst_end ⟨_, _, _, _, _, _⟩ (by assumption) nE (by first | kst_in | kst_inAny) (by first | (intro p hp; kst_mem) | kst_anyIn) (by rfl) ⟨ilo, acclo, acchi⟩ (by kst_all) (by kst_same) ?_
    rw [hpre, Int.pow_succ]
    generalize (256 : Int) ^ k = K at hP
    omega
  · clear lF lN rg
    intro number tn i acc ti ta u h tk hi hacc hacc2 hP F₁ N₁
    have hnum : number < 256 ^ 20 := by
      have h1 : (256 : Int) ^ d0.toNat ≤ 256 ^ 20 := by
        rw [KTBy.p256, KTBy.p256]
        exact Int.ofNat_le.mpr (Nat.pow_le_pow_right (by decide) (by omega))
      omega
    have hnum0 : 0 ≤ number := hP.1
    clear hP
    k_steps
    refine Stop.go ?_
    rename IsRange _ _ _ _ _ _ _ _ => rg
    (rename Fr _ _ _ _ => lF)
    (rename News _ _ _ _ => lN)
    have lN2 := cb_drop lN fun p hp => List.mem_cons_of_mem _ hp
    clear lN
    (with_unfolding_all refine' loop_row (vs₀ := []) (ns₀ := []) (n := 21) (RowP number) (by rfl) rg (by decide) (by decide) lF lN2 .nil ?hk1 ?hk2 (rowP_zero number) ?_ ?_)
    case hk1 => rfl
    case hk2 => rfl
    · clear lF lN2 rg
      intro la vs nn ns left tl k t h tk own hk hoff hI hP F₁ N₁
      have kMark := kstMark
      simp only [List.map_cons, List.map_nil] at hoff
      simp only [List.cons_append, List.nil_append] at N₁
      have hns : ns.length ≤ 100 := by
        have h3 := nb_le hnum0 hnum
        rw [hP.1, big_length]
        omega
      try k_fold
      k_steps
      · rename 0 < left => hlp
        rename IntsAre _ ([Int.fmod left 256] ++ ns) => hI2
        rename Fr _ _ _ _ => fE
        rename News _ _ _ _ => nE
        refine InvEndG.intro fE nE ⟨_, _, 0, _, _, _, rfl, hI2, rowP_more hnum0 hP hlp, rfl, rfl, ?_⟩ ?_ (by first | kst_in | kst_inAny) (by first | (intro p hp; kst_mem) | kst_anyIn)
        · intro z z1 z2 z3
          simp [z1, z2, z3]
        · rename _ ∧ _ ∧ _ ∧ AllLt _ own => hlt
          intro p hp b hb
          simp only [List.map_cons, List.map_nil, List.mem_cons, List.not_mem_nil, or_false] at hb
          rcases hb with rfl | rfl
          · exact Nat.ne_of_lt (kst_ltOf hlt.2.2.2 p hp)
          · exact hoff p hp _ (by simp)
      · rename ¬ 0 < left => hlp
        rename Fr _ _ _ _ => fE
        rename News _ _ _ _ => nE
        refine InvEndG.intro fE nE ⟨_, _, nn, _, _, _, rfl, hI, rowP_same hnum0 hP hlp, rfl, rfl, ?_⟩ hoff (by first | kst_in | kst_inAny) (by first | (intro p hp; kst_mem) | kst_anyIn)
        intro z z1 z2 z3
        simp [z1, z2, z3]
    · clear lF lN2 rg
      intro la vs nn ns left tl u h tk hI hP F₁ N₁
      have hns := rowP_end hnum0 hnum hP
      subst hns
      clear hP
      have hin : KBa.In (row number) := big_in _ _
      have hlen : (row number).length ≤ 20 := by
        rw [row_length]
        exact nb_le hnum0 hnum
      have hn64 : number < 256 ^ 64 := Int.lt_trans hnum (by decide)
      k_steps
      refine Stop.go ?_
      k_dflt refine' told_use (bfi_told _ number _ hnum0 hn64) ?k1 ?k2 ?k3 ?k4 ?k5 ?kK ?kd ?ku ?_
      walk_at "mine told"
      rintro v h' tk' ⟨t', rfl⟩ F' N'
      k_steps
      refine Stop.go ?_
      k_dflt refine' told_use (tbu_told _ number _ hnum0 hn64) ?k1 ?k2 ?k3 ?k4 ?k5 ?kK ?kd ?ku ?_
      walk_at "mine told"
      rintro v h' tk' ⟨t', rfl⟩ F' N'
      k_steps
      refine Stop.go ?_
      k_dflt refine' ifexp_meets (fun t => .bytes (byteArr (pad (row number))) t) ?F ?N ?_ ?_
      case F => k_asm
      case N => k_asm
      · k_steps
        · rename 0 < (row number).length => hz
          exact Stop.go ⟨_, _, _, bytes_eq (by rw [pad_cons (by omega)]), rfl, by k_asm, by k_asm⟩
        · rename ¬ 0 < (row number).length => hz
          exact Stop.go ⟨_, _, _, bytes_eq (by rw [pad_nil (by omega)]; rfl), rfl, by k_asm, by k_asm⟩
      · intro t1 h1 k1 F1 N1
        dsimp only
        have hpin : KBa.In (pad (row number)) := pad_in hin
        have hplen : (pad (row number)).length ≤ 21 := by have := pad_length (row number); omega
        k_steps
        refine Stop.go ?_
        k_dflt refine' told_use (six_law_told _ (pad (row number)) _ hpin (by omega)) ?k1 ?k2 ?k3 ?k4 ?k5 ?kK ?kd ?ku ?_
        walk_at "mine told"
        rintro v h' tk' ⟨t2, rfl⟩ F' N'
        k_steps
        have hrb := run_back hpin
        have hval : KFB.value (run (padded (enc (pad (row number))))).1 = number := by rw [hrb.1, value_pad, value_row hnum0]
        have hel : (enc (pad (row number))).length ≤ 50 := enc_len (by omega)
        have hei : KBa.In (enc (pad (row number))) := fun n hn => ⟨(enc_asc _ n hn).1, by have := (enc_asc _ n hn).2; omega⟩
        refine TX.encode (enc_ne (pad_ne _)) (enc_asc _) (by omega) ?_
        intro t3 k3
        k_steps
        refine Stop.go ?_
        k_dflt refine' told_use (from_told _ (enc (pad (row number))) _ hei hel hrb.2.1 hrb.2.2) ?k1 ?k2 ?k3 ?k4 ?k5 ?kK ?kd ?ku ?_
        walk_at "mine told"
        rw [hval]
        rintro v h' tk' ⟨t4, rfl⟩ F' N'
        k_steps
        refine TX.decode (enc_ne (pad_ne _)) (enc_asc _) (by omega) ?_
        intro t5 k5
        k_steps
        refine Stop.go ?_
        k_dflt refine' told_use (fromS_told _ (enc (pad (row number))) _ (enc_ne (pad_ne _)) (enc_asc _) hel hrb.2.1 hrb.2.2) ?k1 ?k2 ?k3 ?k4 ?k5 ?kK ?kd ?ku ?_
        walk_at "mine told"
        rw [hval]
        rintro v h' tk' ⟨t6, rfl⟩ F' N'
        k_steps
        refine Stop.go ?_
        rename News _ _ _ _ => N9
        have hne := row_ne N9 hI
        k_dflt refine' draws_use (take_draws 200 (by decide) (by decide)) ?k1 ?k2 ?k3 (news_swap N9) ?off ?k5 ?kK ?hL ?hI ?hl ?hi ?ha ?hb ?kd ?ku ?_
        case off => exact fun p hp b hb => by rw [List.mem_singleton.mp hp, List.mem_singleton.mp hb]; exact hne
        case k1 => k_asm
        case k2 => k_asm
        case k3 => k_asm
        case k5 => k_asm
        case kK => rfl
        case hL => k_asm
        case hI => assumption
        case kd => ktr_room
        case ku => ktr_units
        case hl => omega
        case hi => assumption
        case ha => assumption
        case hb => assumption
        clear N9
        intro width tw iw tiw accw taw hw tkw wlo whi iwlo accwlo accwhi Fw Nw
        k_steps
        · rename (_ : Int) < _ => hmany
          refine Stop.go ?_
          refine wpAny_call ?_
          k_dflt k_enter
          k_steps
          refine Stop.go ?_
          refine wpAny_call ?_
          k_dflt k_enter
          k_steps
          have hz : (width + 7).fdiv 8 = (width + 7) / 8 := Int.fdiv_eq_ediv_of_nonneg _ (by decide)
          have hov : ¬ number < 256 ^ ((width + 7).fdiv 8).toNat := fun hc => by
            have h9 := (nb_le_iff hnum0 _).mpr hc
            rw [row_length] at hmany
            omega
          k_dflt refine TB.too_big_z rfl (by omega) (by omega) hnum0 hov ?_
          intro hx tkx ex nx
          k_steps
          refine Stop.go ?_
          refine wpAny_call ?_
          (rename Frag.In (hd.heap_39 _) _ => X8; clear X8)
          (rename Frag.In (hd.heap_39 _) _ => X8; clear X8)
          k_dflt walk_at "mine enter"
          k_steps
        · rename ¬ (_ : Int) < _ => hmany
          have hz : (width + 7).fdiv 8 = (width + 7) / 8 := Int.fdiv_eq_ediv_of_nonneg _ (by decide)
          have hlen2 := hlen
          rw [row_length] at hmany hlen2 ⊢
          refine BO.mul_one (x := 0) (by omega) (by omega) ?_
          intro t7 k7
          k_steps
          refine Stop.go ?_
          refine BO.add_K (by rw [List.length_replicate]; omega) ?_
          intro t8 k8
          have hwb : ((width + 7).fdiv 8 - (nb number : Int)).toNat = wb width - nb number := by
            unfold wb
            omega
          have hdue : List.replicate ((width + 7).fdiv 8 - (nb number : Int)).toNat 0 ++ row number = big (wb width) number := by
            rw [hwb, ← big_more hnum0]
            congr 1
            unfold wb
            omega
          rw [hdue]
          have hfit : number < 256 ^ wb width := (nb_le_iff hnum0 _).mp (by unfold wb; omega)
          have hbin : KBa.In (big (wb width) number) := big_in _ _
          have hblen : (big (wb width) number).length ≤ 25 := by
            rw [big_length]
            unfold wb
            omega
          k_steps
          refine Stop.go ?_
          k_dflt refine' told_use (tbuW_told _ number width _ _ hnum0 wlo (by omega) hfit) ?k1 ?k2 ?k3 ?k4 ?k5 ?kK ?kd ?ku ?_
          walk_at "mine told"
          rintro v h' tk' ⟨t9, rfl⟩ F' N'
          k_steps
          refine Stop.go ?_
          k_dflt refine' told_use (bfiW_told _ number width _ _ hnum0 wlo (by omega) hfit) ?k1 ?k2 ?k3 ?k4 ?k5 ?kK ?kd ?ku ?_
          walk_at "mine told"
          rintro v h' tk' ⟨t10, rfl⟩ F' N'
          k_steps
          refine Stop.go ?_
          k_dflt refine' ifexp_meets (fun t => .bytes (byteArr (pad (big (wb width) number))) t) ?F ?N ?_ ?_
          case F => k_asm
          case N => k_asm
          · k_steps
            · rename 0 < (big (wb width) number).length => hz2
              exact Stop.go ⟨_, _, _, bytes_eq (by rw [pad_cons (by omega)]), rfl, by k_asm, by k_asm⟩
            · rename ¬ 0 < (big (wb width) number).length => hz2
              exact Stop.go ⟨_, _, _, bytes_eq (by rw [pad_nil (by omega)]; rfl), rfl, by k_asm, by k_asm⟩
          · intro t11 h11 k11 F11 N11
            dsimp only
            have hpin2 : KBa.In (pad (big (wb width) number)) := pad_in hbin
            have hplen2 : (pad (big (wb width) number)).length ≤ 26 := by have := pad_length (big (wb width) number); omega
            have hrb2 := run_back hpin2
            have hval2 : KFB.value (run (padded (enc (pad (big (wb width) number))))).1 = number := by rw [hrb2.1, value_pad, value_big _ _ hnum0 hfit]
            have hel2 : (enc (pad (big (wb width) number))).length ≤ 50 := enc_len (by omega)
            have hei2 : KBa.In (enc (pad (big (wb width) number))) := fun n hn => ⟨(enc_asc _ n hn).1, by have := (enc_asc _ n hn).2; omega⟩
            k_steps
            refine Stop.go ?_
            k_dflt refine' told_use (six_law_told _ (pad (big (wb width) number)) _ hpin2 (by omega)) ?k1 ?k2 ?k3 ?k4 ?k5 ?kK ?kd ?ku ?_
            walk_at "mine told"
            rintro v h' tk' ⟨t12, rfl⟩ F' N'
            k_steps
            refine TX.encode (enc_ne (pad_ne _)) (enc_asc _) (by omega) ?_
            intro t13 k13
            k_steps
            refine Stop.go ?_
            k_dflt refine' told_use (from_told _ (enc (pad (big (wb width) number))) _ hei2 hel2 hrb2.2.1 hrb2.2.2) ?k1 ?k2 ?k3 ?k4 ?k5 ?kK ?kd ?ku ?_
            walk_at "mine told"
            rw [hval2]
            rintro v h' tk' ⟨t14, rfl⟩ F' N'
            k_steps
            refine Stop.go ?_
            refine wpAny_call ?_
            k_dflt walk_at "mine enter"
            k_steps)
end Mine

theorem PySem.Challenge.cw_ff0011_01_holds : PySem.Challenge.rw_ff0011_01.Holds := by
  exact Mine.law_holds
