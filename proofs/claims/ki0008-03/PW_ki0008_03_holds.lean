import PyProof.Rows.All
import Wide.All
import OpenK.AllK
import Wide.FinOn
import PySem.Challenge.RW_ki0008_03

section
open PySem PySem.W PyProof.Rows
set_option Elab.async false
namespace Mine
set_option maxRecDepth 100000 in
set_option maxHeartbeats 8000000 in
open_top hd for PySem.Challenge.rw_ki0008_03
end Mine
end

section
open PySem PySem.W PyProof.Rows
set_option Elab.async false
namespace Mine

/-- a mark at which the walk stops -/
def Stop (P : Prop) : Prop := P
theorem Stop.go {P : Prop} (h : Stop P) : P := h
/-- a contract: the call ends by handing back what R says, `tl` on top of the ledger -/
abbrev Ctr (w : World) (mean : ExcName → Option Value) (mg mb : Str → Option Value) (need : Nat) (f : Addr) (news : List (Addr × Obj)) (vs : List Value) (kw : List (Str × Value)) (R : Value → List (Addr × Obj) → Prop) : Prop :=
  ∀ (dp un : Nat) (gd : Option (List Code)) (cn : Str) (cs : Scope) (a : Addr) (ccd : Value) (cl : List (Str × Addr)) (outer : List Env) (A₀ : Around) (base h₀ : Heap) (L : Addr) (m : Str → Option Value) (s : Shared) (Q E : Value → Shared → Prop),
    Below A₀ base outer h₀ → Fr h₀ L s.heap m → (hd.heap_39 w.params).In h₀ → News h₀ L s.heap news → Top hd.view_39 (looseW hd.view_39 [Str.ofString "b2a_base64", Str.ofString "b64encode"]) mean mg mb h₀ → cs.kind = .function →
    dp + need < recursionLimit → un + 8 * need < cLine →
    (∀ v tl h' tk', Fr h₀ L h' m → News h₀ L h' (tl ++ news) → R v tl → Q v { s with heap := h', toks := tk' }) →
      wpAny (model Challenge.rw_ki0008_03.row.prog w) (ktrTop dp un gd cn cs L a ccd cl outer) (call (.ref f) vs kw) Q E s

theorem Ctr.use {w : World} {mean : ExcName → Option Value} {mg mb : Str → Option Value} {need : Nat} {f : Addr} {news : List (Addr × Obj)} {vs : List Value} {kw : List (Str × Value)} {R : Value → List (Addr × Obj) → Prop}
    {dp un : Nat} {gd : Option (List Code)} {cn : Str} {cs : Scope} {a : Addr} {ccd : Value} {cl : List (Str × Addr)} {outer : List Env} {A₀ : Around} {base h₀ : Heap} {L : Addr} {m : Str → Option Value} {s : Shared} {Q E : Value → Shared → Prop}
    (B : Below A₀ base outer h₀) (F : Fr h₀ L s.heap m) (X : (hd.heap_39 w.params).In h₀) (N : News h₀ L s.heap news) (T : Top hd.view_39 (looseW hd.view_39 [Str.ofString "b2a_base64", Str.ofString "b64encode"]) mean mg mb h₀) (hk : cs.kind = .function)
    (hd : dp + need < recursionLimit) (hu : un + 8 * need < cLine) (C : Ctr w mean mg mb need f news vs kw R)
    (ret : ∀ v tl h' tk', Fr h₀ L h' m → News h₀ L h' (tl ++ news) → R v tl → Q v { s with heap := h', toks := tk' }) :
    wpAny (model Challenge.rw_ki0008_03.row.prog w) (ktrTop dp un gd cn cs L a ccd cl outer) (call (.ref f) vs kw) Q E s := C _ _ _ _ _ _ _ _ _ _ _ _ _ _ _ _ _ B F X N T hk hd hu ret

end Mine
end

section
open PySem PySem.W PyProof.Rows
set_option Elab.async false
namespace Mine
/-- the alphabet -/
def b64s : List Int := [65, 66, 67, 68, 69, 70, 71, 72, 73, 74, 75, 76, 77, 78, 79, 80, 81, 82, 83, 84, 85, 86, 87, 88, 89, 90, 97, 98, 99, 100, 101, 102, 103, 104, 105, 106, 107, 108, 109, 110, 111, 112, 113, 114, 115, 116, 117, 118, 119, 120, 121, 122, 48, 49, 50, 51, 52, 53, 54, 55, 56, 57, 43, 47]
def sg (i : Int) : Int := b64s.getD i.toNat 0
/-- the places (sextets) of a row of octets -/
def sx : List Int → List Int
  | [] => []
  | [a] => [a / 4, a % 4 * 16]
  | [a, b] => [a / 4, a % 4 * 16 + b / 16, b % 16 * 4]
  | a :: b :: c :: r => a / 4 :: (a % 4 * 16 + b / 16) :: (b % 16 * 4 + c / 64) :: c % 64 :: sx r
/-- how many signs of = -/
def padN (n : Nat) : Nat := (3 - n % 3) % 3
def enc (ks : List Int) : List Int := (sx ks).map sg ++ List.replicate (padN ks.length) 61
theorem sx_app3 : ∀ (q r : List Int), q.length % 3 = 0 → sx (q ++ r) = sx q ++ sx r
  | [], r, _ => rfl
  | [a], r, h => by simp at h
  | [a, b], r, h => by simp at h
  | a :: b :: c :: q, r, h => by
    have h' : q.length % 3 = 0 := by simp only [List.length_cons] at h; omega
    simp only [List.cons_append, sx]
    rw [sx_app3 q r h']
/-- the state between two turns of b2a_base64's loop -/
def InvB (pre os : List Int) (lb lc : Int) : Prop :=
  0 ≤ lc ∧ lc < 65536 ∧ ∃ q r, pre = q ++ r ∧ q.length % 3 = 0 ∧
    ((r = [] ∧ lb = 0 ∧ os = (sx q).map sg) ∨ (∃ a, r = [a] ∧ lb = 2 ∧ lc % 256 = a ∧ os = (sx q).map sg ++ [sg (a / 4)]) ∨
      (∃ a b, r = [a, b] ∧ lb = 4 ∧ lc % 256 = b ∧ os = (sx q).map sg ++ [sg (a / 4), sg (a % 4 * 16 + b / 16)]))
theorem InvB.start : InvB [] [] 0 0 := ⟨by omega, by omega, [], [], rfl, rfl, .inl ⟨rfl, rfl, rfl⟩⟩
theorem sx_length : ∀ q : List Int, (sx q).length = (4 * q.length + 2) / 3
  | [] => by simp [sx]
  | [a] => by simp [sx]
  | [a, b] => by simp [sx]
  | a :: b :: c :: q => by simp only [sx, List.length_cons]; rw [sx_length q]; omega
abbrev lcn (lc x : Int) : Int := Builtin.bitAnd (Builtin.bitOr (lc * 2 ^ Int.toNat 8) x) 65535
theorem and_disj {a x : Int} (ha : 0 ≤ a) (h0 : 0 ≤ x) (h1 : x < 256) : Builtin.bitAnd (a * 256) x = 0 := by
  rw [bitAnd_pp (by omega) h0]
  have e : (a * 256).toNat = a.toNat * 256 := by omega
  rw [e]
  have hx : x.toNat < 2 ^ 8 := by omega
  have : (a.toNat * 256) &&& x.toNat = 0 := by
    apply Nat.eq_of_testBit_eq
    intro i
    rw [Nat.testBit_and, Nat.zero_testBit]
    by_cases hi : i < 8
    · have : (a.toNat * 256).testBit i = false := by
        rw [show a.toNat * 256 = 2 ^ 8 * a.toNat by omega, Nat.testBit_two_pow_mul]
        simp; omega
      rw [this]; rfl
    · have : x.toNat.testBit i = false := Nat.testBit_lt_two_pow (Nat.lt_of_lt_of_le hx (Nat.pow_le_pow_right (by decide) (by omega)))
      rw [this, Bool.and_false]
  rw [this]; rfl
theorem lcn_eq {lc x : Int} (hc : 0 ≤ lc) (h0 : 0 ≤ x) (h1 : x < 256) : lcn lc x = (lc * 256 + x) % 65536 := by
  unfold lcn
  rw [bitAnd_m16, show (2 : Int) ^ Int.toNat 8 = 256 from rfl, bitOr_and, and_disj hc h0 h1]
  omega
theorem lcn_rng (lc x : Int) : 0 ≤ lcn lc x ∧ lcn lc x < 65536 := by unfold lcn; rw [bitAnd_m16]; omega
theorem b64_ix (y : Int) : 0 ≤ Builtin.bitAnd y 63 ∧ Builtin.bitAnd y 63 < 64 := by rw [bitAnd_m6]; omega
theorem b64_ix3 (y : Int) : 0 ≤ Builtin.bitAnd y 3 * 2 ^ Int.toNat 4 ∧ Builtin.bitAnd y 3 * 2 ^ Int.toNat 4 < 64 := by rw [bitAnd_m2, show (2 : Int) ^ Int.toNat 4 = 16 from rfl]; omega
theorem b64_ix15 (y : Int) : 0 ≤ Builtin.bitAnd y 15 * 2 ^ Int.toNat 2 ∧ Builtin.bitAnd y 15 * 2 ^ Int.toNat 2 < 64 := by rw [bitAnd_m4, show (2 : Int) ^ Int.toNat 2 = 4 from rfl]; omega
theorem sg_in (i : Int) : 0 ≤ sg i ∧ sg i < 256 := KBw.getD_in (by decide)
theorem sgs_in (l : List Int) : KBa.In (l.map sg) := by
  intro n hn
  obtain ⟨i, _, rfl⟩ := List.mem_map.mp hn
  exact sg_in i
theorem InvB.s0 {pre q : List Int} {lc x : Int} (hq : q.length % 3 = 0) (hpre : pre = q ++ []) (hc : 0 ≤ lc) (h0 : 0 ≤ x) (h1 : x < 256) :
    InvB (pre ++ [x]) ((sx q).map sg ++ [b64s.getD (Builtin.bitAnd ((lcn lc x).fdiv (2 ^ (0 + 8 - 6 : Int).toNat)) 63).toNat 0]) (0 + 8 - 6) (lcn lc x) := by
  have hr := lcn_rng lc x
  refine ⟨hr.1, hr.2, q, [x], by rw [hpre]; simp, hq, .inr (.inl ⟨x, rfl, by omega, ?_, ?_⟩)⟩
  · rw [lcn_eq hc h0 h1]; omega
  · congr 2
    show sg _ = _
    congr 1
    rw [bitAnd_m6, lcn_eq hc h0 h1, show (2 : Int) ^ (0 + 8 - 6 : Int).toNat = 4 from rfl, Int.fdiv_eq_ediv_of_nonneg _ (by decide)]
    omega
theorem InvB.s2 {pre q : List Int} {lc a x : Int} (hq : q.length % 3 = 0) (hpre : pre = q ++ [a]) (hc : 0 ≤ lc) (ha : lc % 256 = a) (h0 : 0 ≤ x) (h1 : x < 256) :
    InvB (pre ++ [x]) (((sx q).map sg ++ [sg (a / 4)]) ++ [b64s.getD (Builtin.bitAnd ((lcn lc x).fdiv (2 ^ (2 + 8 - 6 : Int).toNat)) 63).toNat 0]) (2 + 8 - 6) (lcn lc x) := by
  have hr := lcn_rng lc x
  refine ⟨hr.1, hr.2, q, [a, x], by rw [hpre]; simp, hq, .inr (.inr ⟨a, x, rfl, by omega, ?_, ?_⟩)⟩
  · rw [lcn_eq hc h0 h1]; omega
  · rw [List.append_assoc]
    congr 1
    show [sg (a / 4), sg _] = _
    congr 2
    congr 1
    rw [bitAnd_m6, lcn_eq hc h0 h1, show (2 : Int) ^ (2 + 8 - 6 : Int).toNat = 16 from rfl, Int.fdiv_eq_ediv_of_nonneg _ (by decide)]
    omega
theorem InvB.s4 {pre q : List Int} {lc a b x : Int} (hq : q.length % 3 = 0) (hpre : pre = q ++ [a, b]) (hc : 0 ≤ lc) (ha : lc % 256 = b) (h0 : 0 ≤ x) (h1 : x < 256) :
    InvB (pre ++ [x]) ((((sx q).map sg ++ [sg (a / 4), sg (a % 4 * 16 + b / 16)]) ++ [b64s.getD (Builtin.bitAnd ((lcn lc x).fdiv (2 ^ (4 + 8 - 6 : Int).toNat)) 63).toNat 0]) ++ [b64s.getD (Builtin.bitAnd ((lcn lc x).fdiv (2 ^ (4 + 8 - 6 - 6 : Int).toNat)) 63).toNat 0]) (4 + 8 - 6 - 6) (lcn lc x) := by
  have hr := lcn_rng lc x
  refine ⟨hr.1, hr.2, q ++ [a, b, x], [], by rw [hpre]; simp, by simp only [List.length_append, List.length_cons, List.length_nil]; omega, .inl ⟨rfl, by omega, ?_⟩⟩
  rw [sx_app3 q _ hq]
  simp only [sx, List.map_append, List.map_cons, List.map_nil, List.append_assoc, List.cons_append, List.nil_append]
  have e1 : Builtin.bitAnd ((lcn lc x).fdiv (2 ^ (4 + 8 - 6 : Int).toNat)) 63 = b % 16 * 4 + x / 64 := by
    rw [bitAnd_m6, lcn_eq hc h0 h1, show (2 : Int) ^ (4 + 8 - 6 : Int).toNat = 64 from rfl, Int.fdiv_eq_ediv_of_nonneg _ (by decide)]
    omega
  have e2 : Builtin.bitAnd ((lcn lc x).fdiv (2 ^ (4 + 8 - 6 - 6 : Int).toNat)) 63 = x % 64 := by
    rw [bitAnd_m6, lcn_eq hc h0 h1, show (2 : Int) ^ (4 + 8 - 6 - 6 : Int).toNat = 1 from rfl, Int.fdiv_eq_ediv_of_nonneg _ (by decide)]
    omega
  rw [e1, e2]
  rfl
theorem InvB.len {pre os : List Int} {lb lc : Int} (h : InvB pre os lb lc) : os.length ≤ 2 * pre.length := by
  obtain ⟨_, _, q, r, rfl, hq, h | ⟨a, h⟩ | ⟨a, b, h⟩⟩ := h
  · obtain ⟨rfl, rfl, rfl⟩ := h; simp [sx_length]; omega
  · obtain ⟨rfl, rfl, _, rfl⟩ := h; simp [sx_length]; omega
  · obtain ⟨rfl, rfl, _, rfl⟩ := h; simp [sx_length]; omega
theorem enc_app3 {q r : List Int} (hq : q.length % 3 = 0) : enc (q ++ r) = (sx q).map sg ++ enc r := by
  unfold enc
  rw [sx_app3 q r hq, List.map_append, List.append_assoc]
  have : padN (q ++ r).length = padN r.length := by unfold padN; rw [List.length_append]; omega
  rw [this]
theorem enc_in (l : List Int) : KBa.In (enc l) := by
  intro n hn
  rcases List.mem_append.mp hn with h | h
  · exact sgs_in _ n h
  · rw [List.eq_of_mem_replicate h]; decide
theorem enc_q1 {q : List Int} {lc a : Int} (hq : q.length % 3 = 0) (ha : lc % 256 = a) : (sx q).map sg ++ [sg (a / 4)] ++ [b64s.getD (Builtin.bitAnd lc 3 * 2 ^ Int.toNat 4).toNat 0] ++ [61] ++ [61] = enc (q ++ [a]) := by
  rw [enc_app3 hq]
  have e : Builtin.bitAnd lc 3 * 2 ^ Int.toNat 4 = a % 4 * 16 := by rw [bitAnd_m2, show (2 : Int) ^ Int.toNat 4 = 16 from rfl]; omega
  rw [e]
  simp [enc, sx, padN, sg, List.replicate]
theorem enc_q2 {q : List Int} {lc a b : Int} (hq : q.length % 3 = 0) (hb : lc % 256 = b) : (sx q).map sg ++ [sg (a / 4), sg (a % 4 * 16 + b / 16)] ++ [b64s.getD (Builtin.bitAnd lc 15 * 2 ^ Int.toNat 2).toNat 0] ++ [61] = enc (q ++ [a, b]) := by
  rw [enc_app3 hq]
  have e : Builtin.bitAnd lc 15 * 2 ^ Int.toNat 2 = b % 16 * 4 := by rw [bitAnd_m4, show (2 : Int) ^ Int.toNat 2 = 4 from rfl]; omega
  rw [e]
  simp [enc, sx, padN, sg, List.replicate]
theorem enc_q {q : List Int} (hq : q.length % 3 = 0) : (sx q).map sg = enc (q ++ []) := by
  rw [enc_app3 hq]; simp [enc, sx, padN]
theorem bInts_inj {a b : Array UInt8} (h : KBw.bInts a = KBw.bInts b) : a = b := by
  unfold KBw.bInts at h
  have : a.toList = b.toList := by
    have inj : ∀ (l m : List UInt8), (l.map fun c => (c.toNat : Int)) = (m.map fun c => (c.toNat : Int)) → l = m := by
      intro l
      induction l with
      | nil => intro m h; cases m with | nil => rfl | cons _ _ => cases h
      | cons x l ih =>
        intro m h
        cases m with
        | nil => cases h
        | cons y m =>
          simp only [List.map_cons, List.cons.injEq] at h
          rw [ih m h.2, UInt8.toNat_inj.mp (by omega : x.toNat = y.toNat)]
    exact inj _ _ h
  exact Array.ext' this
theorem enc_length (ks : List Int) : (enc ks).length = (ks.length + 2) / 3 * 4 := by
  unfold enc padN
  rw [List.length_append, List.length_map, List.length_replicate, sx_length]; omega
end Mine
end

section
open PySem PySem.W PyProof.Rows
set_option Elab.async false
set_option maxRecDepth 100000
namespace Mine
theorem all_lt_ne {news : List (Addr × Obj)} {a b : Nat} (h : ∀ p ∈ news, p.1 < a) (hab : a ≤ b) : ∀ p ∈ news, p.1 ≠ b := fun p hp => Nat.ne_of_lt (Nat.lt_of_lt_of_le (h p hp) hab)
theorem all_app {P : Addr × Obj → Prop} {a b : List (Addr × Obj)} (h1 : ∀ p ∈ a, P p) (h2 : ∀ p ∈ b, P p) : ∀ p ∈ a ++ b, P p := fun p hp => (List.mem_append.mp hp).elim (h1 p) (h2 p)
theorem kst_end {σ : Type} {Led : σ → List (Addr × Obj)} {ps : σ → List (Str × Value)} {Facts : σ → Prop} {x : Str} {stored : List Str} {m₀ m' : Str → Option Value} {P : List Int → σ → Prop} {pre' : List Int} {g h' : Heap} {L : Addr} {own : List (Addr × Obj)} {adr : List Addr} {s₁ : Shared} {tk : Nat} (c : σ)
    (F : Fr g L h' m') (N : News g L h' (Led c ++ own)) (hf : Facts c) (hk : ∀ p ∈ ps c, m' p.1 = some p.2) (hr : ∀ z, z ≠ x → (∀ p ∈ ps c, z ≠ p.1) → stored.contains z = false → m' z = m₀ z) (hP : P pre' c) (ha : (Led c).map (·.1) = adr) :
    InvEndN g L (KstS Led ps Facts x stored m₀ P pre') own adr s₁ { s₁ with heap := h', toks := tk } :=
  ⟨h', tk, m', _, Led c, rfl, F, N, fun _ hp => List.mem_append_left _ hp, fun _ hp => List.mem_append_right _ hp, ha, c, rfl, hf, hk, hr, hP⟩
open Builtin
section
variable {prog : Program} {w : World} {A : Around} {E : Value → Shared → Prop} {s : Shared} {b c : Array UInt8} {t u : Tok} {h₀ : Heap} {L : Addr} {m : PySem.Str → Option Value} {news : List (Addr × Obj)}
theorem gives_in_int {i : Int} (h0 : 0 ≤ i) (h1 : i < 256) : Gives («bytes.__contains__» ⟨[.bytes b t, .int i u], []⟩) (.val (.bool (b.contains i.toNat.toUInt8))) := by
  refine .of_wp fun M A E s Q hq => ?_
  show wpAny M A ((do let r ← Bytes.containsIn "bytes.__contains__" (.bytes b t) (.int i u); ret (.bool r)) : Sem Fin) _ E s
  refine wpAny_bind ?_
  unfold Bytes.containsIn
  refine wpAny_bind (wpAny_attempt (wpAny_of_eq (rfl : asIndex (.int i u) = pure i) ?_))
  refine wpAny_bind (wpAny_of_eq KBy.buffer_eq ?_)
  dsimp only
  rw [if_neg (by simp only [Bool.or_eq_true, decide_eq_true_eq]; omega)]
  exact wpAny_pure (wpAny_pure ⟨_, rfl, hq⟩)
theorem notIn_int {i : Int} {Q : Value → Shared → Prop} (h0 : 0 ≤ i) (h1 : i < 256) (h : Q (.bool (!b.contains i.toNat.toUInt8)) s) : wpAny (model prog w) A (compareOp .NotIn (.int i u) (.bytes b t)) Q E s :=
  notIn_gives (typeIs_bytes s b t) FB.slot_bytes_contains FB.entry_bytes_contains (FB.args_bytes_contains_2 _ _) (gives_in_int h0 h1) h
theorem mul61 {n : Int} {Q : Value → Shared → Prop} (h0 : 0 ≤ n) (h1 : n ≤ 3) (h : ∀ c t' k, KBw.bInts c = List.replicate n.toNat 61 → Q (.bytes c t') { s with toks := k }) :
    wpAny (model prog w) A (binaryOp .Mult (.bytes #[61] t) (.int n u)) Q E s := by
  refine bytes_mul_any (b := [61]) (by decide) (by omega) (by omega) (by decide) fun t' k => h _ t' k ?_
  have : ∀ j : Nat, (List.replicate j [(61 : UInt8)]).flatten = List.replicate j 61 := by
    intro j
    induction j with
    | zero => rfl
    | succ j ih => rw [List.replicate_succ, List.flatten_cons, ih]; rfl
  rw [this]
  simp [KBw.bInts]
theorem neF {ks ls : List Int} {Q : Value → Shared → Prop} (hb : KBw.bInts b = ks) (hc : KBw.bInts c = ls) (e : ks = ls) (h : Q (.bool false) s) : wpAny (model prog w) A (compareOp .NotEq (.bytes b t) (.bytes c u)) Q E s := by
  have : b = c := bInts_inj (by rw [hb, hc, e])
  subst this
  refine ne_bytes ?_
  have e1 : (b.toList != b.toList) = false := by simp
  rw [e1]; exact h
theorem list_item {value slice : PySem.Expr} {l : Addr} {vs : List Value} {i : Int} {v : Value} {Q : Value → Shared → Prop} (hl : s.heap.IsList l vs.toArray) (h0 : 0 ≤ i) (h1 : i < 2 ^ 63) (hx : vs[i.toNat]? = some v) (h : Q v s)
    (hs : subscripted slice false (.ref l) (.int i u) = operate [.ref l, .int i u] (getItem (.ref l) (.int i u)) := by with_unfolding_all rfl) :
    wpAny (model prog w) A (subscriptTail value slice (.ref l) (.int i u)) Q E s :=
  tail_any hl.typeIs slot_list_getitem.lookup (wpAny_getItem_list hl h0 h1 (by simpa using hx) h) hs
theorem list_int {value slice : PySem.Expr} {l : Addr} {vs : List Value} {ns : List Int} {i : Int} {Q : Value → Shared → Prop} (hl : s.heap.IsList l vs.toArray) (hi : IntsAre vs ns) (h0 : 0 ≤ i) (h1 : i < (ns.length : Int)) (h2 : ns.length < 2 ^ 62) (h : ∀ t', Q (.int (ns.getD i.toNat 0) t') s)
    (hs : subscripted slice false (.ref l) (.int i u) = operate [.ref l, .int i u] (getItem (.ref l) (.int i u)) := by with_unfolding_all rfl) :
    wpAny (model prog w) A (subscriptTail value slice (.ref l) (.int i u)) Q E s := by
  obtain ⟨t', ht⟩ := hi.get i.toNat (ns.getD i.toNat 0) (by rw [List.getD_eq_getElem?_getD, List.getElem?_eq_getElem (by omega)]; rfl)
  exact list_item hl h0 (by omega) ht (h t') hs
end
open PyProof.Rows.LCg in
/-- a comprehension's turns by an invariant -/
theorem compRest_ind {prog : Program} {w : World} {A : Around} {h₀ : Heap} {L : Addr} {m : PySem.Str → Option Value} {env : Env} {elt : PySem.Expr} {x : PySem.Str} {scope : Scope} {cl : List (PySem.Str × Addr)} {s : Shared} {S : List (Addr × Obj) → Prop} {P : Nat → Value → Prop} {Fin : List Value → List (Addr × Obj) → Prop}
    (J : Nat → List Value → List (Addr × Obj) → Prop) (n : Nat)
    (step : ∀ i ys news, i < n → J i ys news → ∀ v I oI C oC D m₂ h tk (E' : Value → Shared → Prop), P i v → NsObj oC m₂ → m₂ x = some v → Fr h₀ L h m → News h₀ L h ((I, oI) :: (C, oC) :: (D, lst ys) :: news) → Off3 I C D news → ((@Ne Nat I C) ∧ (@Ne Nat I D) ∧ (@Ne Nat C D)) →
      wpAny (model prog w) A (eval elt (compEnvC scope cl C env)) (CompEnd h₀ L m { s with heap := h, toks := tk } I oI C oC D (lst ys) S (fun y news' => J (i + 1) (ys ++ [y]) news')) E' { s with heap := h, toks := tk })
    (fin : ∀ ys news, J n ys news → Fin ys news) : ∀ (k i : Nat), i + k = n → ∀ ys news, J i ys news → CompRest prog w A h₀ L m env elt x scope cl s S P Fin k i ys news
  | 0, i, hk, ys, news, hJ => CompRest.zero (fin ys news ((show i = n by omega) ▸ hJ))
  | k + 1, i, hk, ys, news, hJ => CompRest.succ fun v I oI C oC D m₂ h tk E' hP hN hx F N off ne =>
    wpAny_mono (step i ys news (by omega) hJ v I oI C oC D m₂ h tk E' hP hN hx F N off ne) (fun y s₂ ⟨h', tk', news', e, F', N', off', hS, hJ'⟩ => ⟨h', tk', news', e, F', N', off', hS, compRest_ind J n step fin k (i + 1) (by omega) _ _ hJ'⟩) fun _ _ e => e
end Mine
end

section
open PySem PySem.W PyProof.Rows
set_option Elab.async false
namespace Mine
theorem sx_in : ∀ {ks : List Int}, KBa.In ks → ∀ i ∈ sx ks, 0 ≤ i ∧ i < 64
  | [], _, i, hi => by simp [sx] at hi
  | [a], h, i, hi => by
    have ha := h a (by simp)
    simp only [sx, List.mem_cons, List.not_mem_nil, or_false] at hi
    omega
  | [a, b], h, i, hi => by
    have ha := h a (by simp)
    have hb := h b (by simp)
    simp only [sx, List.mem_cons, List.not_mem_nil, or_false] at hi
    omega
  | a :: b :: c :: r, h, i, hi => by
    have ha := h a (by simp)
    have hb := h b (by simp)
    have hc := h c (by simp)
    simp only [sx, List.mem_cons] at hi
    rcases hi with rfl | rfl | rfl | rfl | hi
    · omega
    · omega
    · omega
    · omega
    · exact sx_in (fun x hx => h x (by simp [hx])) i hi
theorem sg_low : ∀ i : Nat, i < 62 → b64s.getD i 0 ≠ 43 ∧ b64s.getD i 0 ≠ 47 := by decide
theorem cnt_z (n : Nat) : (4 * (n : Int) + 2).fdiv 3 = (((4 * n + 2) / 3 : Nat) : Int) := by
  rw [Int.fdiv_eq_ediv_of_nonneg _ (by decide)]; omega
theorem clip_take (l : List Int) {x : Int} (h : 0 ≤ x) : l.take (clipAt l.length x) = l.take x.toNat := by
  have e : clipAt l.length x = min x.toNat l.length := by
    obtain ⟨j, rfl⟩ : ∃ j : Nat, x = (j : Int) := ⟨x.toNat, by omega⟩
    rw [clipAt_nat]; rfl
  rw [e]
  rcases Nat.le_total x.toNat l.length with h1 | h1
  · rw [Nat.min_eq_left h1]
  · rw [Nat.min_eq_right h1, List.take_length, List.take_of_length_le h1]
end Mine
end

section
open PySem PySem.W PyProof.Rows
set_option Elab.async false
set_option maxRecDepth 100000
namespace Mine
open Builtin
namespace BT
theorem slot_translate : Slot "bytes" "translate" "bytes.translate" :=
  .of (owner := "bytes") (n := "translate") (by rw [typeLookup_type, builtinLookup_eq_fast]; kernel_rfl) (by decide +kernel) (by decide +kernel) (by decide +kernel)
    (by first | exact .inl (by decide +kernel) | exact .inr (by decide +kernel)) (by rw [isSubtype_type]; kernel_rfl)
theorem type_translate : typeOf (.builtin "bytes.translate") = pure (.type "method_descriptor") := by show builtinType _ = _; rw [builtinType_eq_fast]; kernel_rfl
theorem entry_translate : entryFor table "bytes.translate" = some Builtin.«bytes.translate» := entryFor_of_tree (by kernel_rfl)
theorem args_translate (a b : Value) : argsOk "bytes.translate" ⟨[a, b], []⟩ := by
  unfold argsOk; rw [signature?_of (id := "bytes.translate") (n := ['e', 't', 'a', 'l', 's', 'n', 'a', 'r', 't']) (o := ['s', 'e', 't', 'y', 'b']) (by kernel_rfl) FB.owner_bytes]; kernel_rfl
end BT
section
variable {prog : Program} {w : World} {A : Around} {E : Value → Shared → Prop} {s : Shared} {b c : Array UInt8} {t u : Tok}
theorem method_translate {M : Model} {pl : Sem Bool} {Q : Value × List Value → Shared → Prop} (h : Q (.builtin "bytes.translate", [.bytes b t]) s) : wpAny M A (getMethod (.bytes b t) "translate" pl) Q E s := by
  with_reducible exact KBd.method_of (.bytes b t) (typeIs_bytes _ _ _) BT.slot_translate BT.type_translate KBd.noRef h
theorem gives_translate (hc : c.size = 256) (hb : b.size ≤ 16777216) : Gives («bytes.translate» ⟨[.bytes b t, .bytes c u], []⟩) (if (b.map fun x => c.getD x.toNat x) == b then .val (.bytes b t) else .bytes (b.map fun x => c.getD x.toNat x)) := by
  refine .of_wp fun M A E s Q hq => ?_
  show wpAny M A (Bytes.translateM .bytes ⟨[.bytes b t, .bytes c u], []⟩) _ E s
  unfold Bytes.translateM
  have e1 : ∀ id, Bytes.bytesLike id (.bytes c u) = pure c := fun id => KBd.like_eq
  have e2 : Bytes.payload (.bytes b t) = pure b := rfl
  simp only [e1, e2, pure_bind, List.length_cons, List.length_nil, List.any_nil]
  rw [if_neg (by decide), if_neg (by decide), if_neg (by simp), if_neg (by simp [hc])]
  have e3 : b.filter (fun x => !(#[] : Array UInt8).contains x) = b := by
    apply Array.ext'
    simp
  simp only [List.head?_nil, Option.map_none, Option.orElse_none, Option.or_none, HOrElse.hOrElse, OrElse.orElse, Option.orElse]
  rw [e3]
  by_cases h : ((b.map fun x => c.getD x.toNat x) == b) = true
  · rw [if_pos h] at hq ⊢
    refine wpAny_bind (wpAny_rule ?_)
    refine wpAny_bind (wpAny_pure (wpAny_pure ⟨_, rfl, hq⟩))
  · rw [if_neg h] at hq ⊢
    exact wpAny_bind (wpAny_mkBytes (wpAny_pure ⟨_, rfl, hq.2⟩) hq.1)
/-- translate: the table's octet for each -/
theorem translate {ks : List Int} {f : Int → Int} {Q : Value → Shared → Prop} (hb : KBw.bInts b = ks) (hl : ks.length ≤ 16777216) (hc : c.size = 256) (hf : ∀ x : UInt8, ((c.getD x.toNat x).toNat : Int) = f (x.toNat : Int))
    (h : ∀ d t' k, KBw.bInts d = ks.map f → Q (.bytes d t') { s with toks := k }) : wpAny (model prog w) A (call (.builtin "bytes.translate") [.bytes b t, .bytes c u]) Q E s := by
  subst hb
  rw [KBw.ints_length] at hl
  have e : KBw.bInts (b.map fun x => c.getD x.toNat x) = (KBw.bInts b).map f := by
    unfold KBw.bInts
    rw [Array.toList_map, List.map_map, List.map_map]
    exact List.map_congr_left fun x _ => hf x
  refine call_gives BT.slot_translate (typeIs_bytes _ _ _) BT.entry_translate (BT.args_translate _ _) (gives_translate hc hl) ?_
  by_cases hh : ((b.map fun x => c.getD x.toNat x) == b) = true
  · rw [if_pos hh]
    exact h b t s.toks (by rw [← e, eq_of_beq hh])
  · rw [if_neg hh]
    exact ⟨by rw [sizeLine_eq, Array.size_map]; exact hl, h _ _ _ e⟩
end
namespace BT
theorem check_mk (a b : Value) : checkBuiltinCall "bytes.maketrans" ⟨[a, b], []⟩ = pure () := by kernel_rfl
theorem plain_mk : plainId "bytes.maketrans" = true := by decide +kernel
theorem entry_mk : entryFor table "bytes.maketrans" = some Builtin.«bytes.maketrans» := entryFor_of_tree (by kernel_rfl)
theorem type_type : typeOf (.type "bytes") = pure (.type "type") := by first | rfl | kernel_rfl
end BT
def trans256 (k0 k1 : UInt8) : Array UInt8 := (((Array.range 256).map (·.toUInt8)).setIfInBounds 43 k0).setIfInBounds 47 k1
theorem trans_size (k0 k1 : UInt8) : (trans256 k0 k1).size = 256 := by simp [trans256]
theorem trans_get (k0 k1 x : UInt8) : (trans256 k0 k1).getD x.toNat x = if x = 47 then k1 else if x = 43 then k0 else x := by
  have hx : x.toNat < 256 := x.toNat_lt
  have hs : x.toNat < (trans256 k0 k1).size := by rw [trans_size]; exact hx
  rw [Array.getD_eq_getD_getElem?]
  unfold trans256
  rw [Array.getElem?_setIfInBounds, Array.getElem?_setIfInBounds, Array.getElem?_map, Array.getElem?_range]
  simp only [Array.size_setIfInBounds, Array.size_map, Array.size_range, hx, if_true, (by decide : 47 < 256), (by decide : 43 < 256), Option.map_some]
  have e1 : (47 = x.toNat) ↔ x = 47 := by rw [← UInt8.toNat_inj]; exact ⟨fun h => h.symm, fun h => h.symm⟩
  have e2 : (43 = x.toNat) ↔ x = 43 := by rw [← UInt8.toNat_inj]; exact ⟨fun h => h.symm, fun h => h.symm⟩
  by_cases h1 : x = 47
  · rw [if_pos (e1.mpr h1), if_pos h1]; rfl
  · rw [if_neg (fun h => h1 (e1.mp h)), if_neg h1]
    by_cases h2 : x = 43
    · rw [if_pos (e2.mpr h2), if_pos h2]; rfl
    · rw [if_neg (fun h => h2 (e2.mp h)), if_neg h2]
      exact UInt8.toNat_inj.mp (by simp [Nat.toUInt8])
section
variable {prog : Program} {w : World} {A : Around} {E : Value → Shared → Prop} {s : Shared} {b c : Array UInt8} {t u : Tok}
theorem gives_maketrans (k0 k1 : UInt8) : Gives («bytes.maketrans» ⟨[.bytes #[43, 47] t, .bytes #[k0, k1] u], []⟩) (.bytes (trans256 k0 k1)) := by
  refine .of_wp fun M A E s Q hq => ?_
  show wpAny M A (Bytes.maketransM .bytes ⟨[.bytes #[43, 47] t, .bytes #[k0, k1] u], []⟩) _ E s
  unfold Bytes.maketransM
  have e1 : ∀ id (c : Array UInt8) (u : Tok), Bytes.bytesLike id (.bytes c u) = pure c := fun id c u => KBd.like_eq
  refine wpAny_bind (wpAny_of_eq (a := ()) (by kernel_rfl) ?_)
  refine wpAny_bind (wpAny_of_eq (a := ()) (by kernel_rfl) ?_)
  refine wpAny_bind (wpAny_of_eq (e1 _ _ _) ?_)
  refine wpAny_bind (wpAny_of_eq (e1 _ _ _) ?_)
  refine bm_if_false rfl ?_
  exact wpAny_bind (wpAny_mkBytes (wpAny_pure ⟨_, rfl, hq.2⟩) hq.1)
theorem maketrans {k0 k1 : UInt8} {Q : Value → Shared → Prop} (h : ∀ t' k, Q (.bytes (trans256 k0 k1) t') { s with toks := k }) : wpAny (model prog w) A (call (.builtin "bytes.maketrans") [.bytes #[43, 47] t, .bytes #[k0, k1] u]) Q E s := by
  refine wpAny_call (codeAny_call_builtin BT.plain_mk BT.entry_mk (wpAny_of_eq (BT.check_mk _ _) ?_))
  exact gives_maketrans k0 k1 prog w A (wants Q E) s ⟨by rw [trans_size, sizeLine_eq]; decide, h _ _⟩
end
def alt (m1 m2 x : Int) : Int := if x = 47 then m2 else if x = 43 then m1 else x
theorem two_of {k : Array UInt8} {m1 m2 : Int} (h : KBw.bInts k = [m1, m2]) : ∃ k0 k1 : UInt8, k = #[k0, k1] ∧ m1 = (k0.toNat : Int) ∧ m2 = (k1.toNat : Int) := by
  obtain ⟨l⟩ := k
  unfold KBw.bInts at h
  match l, h with
  | [a, b], h =>
    simp only [List.map_cons, List.map_nil, List.cons.injEq, and_true] at h
    exact ⟨a, b, rfl, h.1.symm, h.2.symm⟩
theorem trans_alt (k0 k1 x : UInt8) : (((trans256 k0 k1).getD x.toNat x).toNat : Int) = alt (k0.toNat : Int) (k1.toNat : Int) (x.toNat : Int) := by
  rw [trans_get]
  unfold alt
  have e1 : ((x.toNat : Int) = 47) ↔ x = 47 := by rw [← UInt8.toNat_inj]; show _ ↔ x.toNat = 47; omega
  have e2 : ((x.toNat : Int) = 43) ↔ x = 43 := by rw [← UInt8.toNat_inj]; show _ ↔ x.toNat = 43; omega
  by_cases h1 : x = 47
  · rw [if_pos (e1.mpr h1), if_pos h1]
  · rw [if_neg (fun h => h1 (e1.mp h)), if_neg h1]
    by_cases h2 : x = 43
    · rw [if_pos (e2.mpr h2), if_pos h2]
    · rw [if_neg (fun h => h2 (e2.mp h)), if_neg h2]
open PyProof.Rows.LCg PyProof.Rows.LCt in
/-- a comprehension with a test, by an invariant -/
theorem compRestT_ind {prog : Program} {w : World} {A : Around} {h₀ : Heap} {L : Addr} {m : PySem.Str → Option Value} {env : Env} {ct elt : PySem.Expr} {x : PySem.Str} {scope : Scope} {cl : List (PySem.Str × Addr)} {s : Shared} {S : List (Addr × Obj) → Prop} {P : Nat → Value → Prop} {Fin : List Value → List (Addr × Obj) → Prop}
    (J : Nat → List Value → List (Addr × Obj) → Prop) (n : Nat)
    (step : ∀ i ys news, i < n → J i ys news → ∀ v I oI C oC D m₂ h tk (E' : Value → Shared → Prop), P i v → NsObj oC m₂ → m₂ x = some v → Fr h₀ L h m → News h₀ L h ((I, oI) :: (C, oC) :: (D, lst ys) :: news) → Off3 I C D news → ((@Ne Nat I C) ∧ (@Ne Nat I D) ∧ (@Ne Nat C D)) →
      wpAny (model prog w) A (isTrue ct (compEnvC scope cl C env) (eval ct (compEnvC scope cl C env))) (fun ok s' => if ok = true then
        wpAny (model prog w) A (eval elt (compEnvC scope cl C env)) (CompEnd h₀ L m { s with heap := h, toks := tk } I oI C oC D (lst ys) S (fun y news' => J (i + 1) (ys ++ [y]) news')) E' s'
        else CompEnd h₀ L m { s with heap := h, toks := tk } I oI C oC D (lst ys) S (fun _ news' => J (i + 1) ys news') Value.none s') E' { s with heap := h, toks := tk })
    (fin : ∀ ys news, J n ys news → Fin ys news) : ∀ (k i : Nat), i + k = n → ∀ ys news, J i ys news → CompRestT prog w A h₀ L m env ct elt x scope cl s S P Fin k i ys news
  | 0, i, hk, ys, news, hJ => CompRestT.zero (fin ys news ((show i = n by omega) ▸ hJ))
  | k + 1, i, hk, ys, news, hJ => CompRestT.succ fun v I oI C oC D m₂ h tk E' hP hN hx F N off ne =>
    wpAny_mono (step i ys news (by omega) hJ v I oI C oC D m₂ h tk E' hP hN hx F N off ne) (fun ok s₁ h₁ => by
      cases ok with
      | true =>
        simp only [if_true] at h₁ ⊢
        exact wpAny_mono h₁ (fun y s₂ ⟨h', tk', news', e, F', N', off', hS, hJ'⟩ => ⟨h', tk', news', e, F', N', off', hS, compRestT_ind J n step fin k (i + 1) (by omega) _ _ hJ'⟩) fun _ _ e => e
      | false =>
        simp only [Bool.false_eq_true, if_false] at h₁ ⊢
        obtain ⟨h', tk', news', e, F', N', off', hS, hJ'⟩ := h₁
        exact ⟨h', tk', news', e, F', N', off', hS, compRestT_ind J n step fin k (i + 1) (by omega) _ _ hJ'⟩) fun _ _ e => e
/-- ints, the ledger as it was -/
def Ji (nw0 : List (Addr × Obj)) (f : Nat → List Int) (i : Nat) (ys : List Value) (nw : List (Addr × Obj)) : Prop := nw = nw0 ∧ IntsAre ys (f i)
end Mine
end

section
open PySem PySem.W PyProof.Rows PyProof.V
set_option Elab.async false
set_option maxRecDepth 100000
namespace Mine
/-- the table of the places, as data -/
def tabFrom : Nat → List Int → List (PyData × PyData)
  | _, [] => []
  | i, a :: r => (.int a, .int (i : Int)) :: tabFrom (i + 1) r
theorem tab_snoc : ∀ (i : Nat) (l : List Int) (a : Int), tabFrom i (l ++ [a]) = tabFrom i l ++ [(.int a, .int ((i + l.length : Nat) : Int))]
  | i, [], a => by simp [tabFrom]
  | i, b :: l, a => by
    simp only [List.cons_append, tabFrom, tab_snoc (i + 1) l a, List.length_cons]
    rw [show i + 1 + l.length = i + (l.length + 1) by omega]
theorem flat_snoc {kvs : List (Int × Value)} {D : List (PyData × PyData)} {k : Int} {v : Value} {d : PyData} (h : FlatPairs PyData.int kvs D) (hv : Flat v d) : FlatPairs PyData.int (kvs ++ [(k, v)]) (D ++ [(.int k, d)]) := by
  induction h with
  | nil => exact .cons hv .nil
  | cons h1 _ ih => exact .cons h1 ih
theorem flat_keys {kvs : List (Int × Value)} {i : Nat} {l : List Int} (h : FlatPairs PyData.int kvs (tabFrom i l)) : kvs.map (·.1) = l := by
  induction l generalizing kvs i with
  | nil => cases h; rfl
  | cons a l ih =>
    unfold tabFrom at h
    cases h with
    | cons _ h => rw [List.map_cons, ih h]
/-- what the comprehension has stored -/
theorem tab_of {as : List Int} (hnd : as.Nodup) {l : List Value} {kvs : List (Int × Value)}
    (h : StoredAll (fun v k => ∃ (i : Nat) (t : Tok), v = Value.int (0 + (i : Int)) t ∧ k = as.getD i 0) (fun v y => ∃ (i : Int) (t t' : Tok), v = Value.int i t ∧ y = Value.int i t') l kvs)
    (hl : l.length ≤ as.length) (hP : ∀ (j : Nat) (v : Value), l[j]? = some v → ∃ t, v = Value.int (0 + (j : Int)) t) : FlatPairs PyData.int kvs (tabFrom 0 (as.take l.length)) := by
  induction h with
  | nil => exact .nil
  | @snoc l kvs v k y hs hk hy ih =>
    rw [List.length_append, List.length_singleton] at hl
    have ih' := ih (by omega) (fun j v hj => hP j v (by rw [List.getElem?_append_left (by exact (List.getElem?_eq_some_iff.mp hj).1)]; exact hj))
    obtain ⟨t, hv⟩ := hP l.length v (by simp)
    obtain ⟨i, t1, e1, hk⟩ := hk
    obtain ⟨i2, t2, t3, e2, hy⟩ := hy
    have hi : i = l.length := by rw [hv] at e1; simp only [Value.int.injEq] at e1; omega
    have hi2 : i2 = ((l.length : Nat) : Int) := by rw [hv] at e2; simp only [Value.int.injEq] at e2; omega
    subst hi
    have hlt : l.length < as.length := by omega
    have hke : k = as[l.length] := by rw [hk, List.getD_eq_getElem?_getD, List.getElem?_eq_getElem hlt]; rfl
    have htk : as.take (l.length + 1) = as.take l.length ++ [k] := by rw [List.take_add_one, List.getElem?_eq_getElem hlt, hke]; rfl
    have hnot : k ∉ kvs.map (·.1) := by
      rw [flat_keys ih']
      intro hm
      have : (as.take l.length ++ [k]).Nodup := by rw [← htk]; exact hnd.sublist (List.take_sublist _ _)
      exact (List.nodup_append.mp this).2.2 k hm k (by simp) rfl
    have hst : stored kvs k y = kvs ++ [(k, y)] := by
      unfold stored
      rw [if_neg]
      intro ha
      rw [List.any_eq_true] at ha
      obtain ⟨kv, hm, he⟩ := ha
      exact hnot (List.mem_map.mpr ⟨kv, hm, of_decide_eq_true he⟩)
    rw [hst, List.length_append, List.length_singleton, htk, tab_snoc]
    refine flat_snoc ih' ?_
    rw [hy, hi2, List.length_take, Nat.min_eq_left (by omega), Nat.zero_add]
    exact Flat.int _ _
theorem tab_look : ∀ (i : Nat) (l : List Int) (j : Nat), l.Nodup → (h : j < l.length) → Spec.lookup (.int l[j]) (tabFrom i l) = some (.int ((i + j : Nat) : Int))
  | i, a :: l, 0, _, _ => by simp [tabFrom, Spec.lookup, Spec.same]
  | i, a :: l, j + 1, hn, h => by
    have hne : a ≠ l[j]'(by simpa using h) := fun e => (List.nodup_cons.mp hn).1 (e ▸ List.getElem_mem _)
    have ih := tab_look (i + 1) l j (List.nodup_cons.mp hn).2 (by simpa using h)
    simp only [tabFrom, Spec.lookup, List.getElem_cons_succ]
    rw [if_neg (by rw [PyProof.V.same_int]; simpa using hne), ih]
    congr 3
    omega
theorem newDict_at {M : Model} {A : Around} {E : Value → Shared → Prop} {s : Shared} {Φ : Value → Shared → Prop} (h : wpAny M A newDict Φ E s) : wpAny M A newDict (fun acc s' => acc = .ref s.heap.objs.size ∧ Φ acc s') E s := by
  intro Γ p hΓ
  have h1 := h Γ p hΓ
  have e : ∀ Ψ : Value → Shared → Prop, Sem.wp M Γ newDict (fun a _ s' => Ψ a s') (fun e _ s' => E e s') p s = Ψ (.ref s.heap.objs.size) { s with heap := s.heap.push { cls := .type "dict", dict := none, data := .dict #[] } } := by
    intro Ψ
    rfl
  rw [e] at h1 ⊢
  exact ⟨rfl, h1⟩
/-- the object of the table -/
def IsTab (prog : Program) (w : World) (od : Obj) (as : List Int) : Prop := ∃ kvs, od.IsDictOf (intKind prog w) kvs ∧ FlatPairs PyData.int kvs (tabFrom 0 as)
section
variable {prog : Program} {w : World} {A : Around} {E : Value → Shared → Prop} {s : Shared} {h₀ : Heap} {L : Addr} {m : PySem.Str → Option Value} {env : Env}
theorem dict64 {iter : PySem.Expr} {x al : PySem.Str} {px p1 p2 p3 p4 : Pos} {scope : Scope} {cl : List (PySem.Str × Addr)} {pos : Pos} {Q : Value → Shared → Prop} {c : Addr} {b : Array UInt8} {tb : Tok} {as : List Int} {oc : Obj}
    (hd : oc.data = .cell (some (.bytes b tb))) (F₀ : Fr h₀ L s.heap m) (hb : KBw.bInts b = as) (hlen : as.length = 64) (hnd : as.Nodup) (hh : A.handled = none) (hlim : h₀.NoLimit)
    (hclos : closureFor scope env = pure cl) (hcell : ∀ y ∈ scope.names, y.2 ≠ .cell) (hkind : scope.kind = .function)
    (hnames : ∀ y ∈ scope.names, y.2 = .local → scope.names.lookup y.1 = some .local) (hx : scope.names.lookup x = some .local)
    (hak : ∀ C, (compEnvC scope cl C env).kindOf al = some .cell) (hxk : ∀ C, (compEnvC scope cl C env).kindOf x = some .local) (hcc : cl.lookup al = some c)
    (hd1 : (x == ("__debug__" : PySem.Str)) = false) (hd2 : (al == ("__debug__" : PySem.Str)) = false)
    (hs1 : ∀ i t u, subscripted (.Name x p2) false (.bytes b t) (.int i u) = operate [.bytes b t, .int i u] (getItem (.bytes b t) (.int i u)))
    (hs2 : ∀ t r, letTemporaryGo (.Name al p1) (.bytes b t) r = pure ())
    (h : wpAny (model prog w) A (eval iter env) (fun xv s₁ => ∃ r t u v news, xv = .ref r ∧ Fr h₀ L s₁.heap m ∧ News h₀ L s₁.heap news ∧ IsRange s₁.heap r 0 64 1 t u v ∧ (c, oc) ∈ news ∧
      ∀ D h' tk od, Fr h₀ L h' m → News h₀ L h' ((D, od) :: news) → (∀ p ∈ news, p.1 ≠ D) → (D == sysModules) = false → IsTab prog w od as → Q (.ref D) { s₁ with heap := h', toks := tk }) E s)
    (hs : ∀ x, foldedSetIterable iter env x = pure x := by intro _; rfl) :
    wpAny (model prog w) A (eval (.DictComp (.Subscript (.Name al p1) (.Name x p2) p3) (.Name x p4) [⟨.Name x px, iter, [], 0⟩] scope pos) env) Q E s := by
  rw [arm_eval_DictComp]
  refine wpAny_comprehension_free (use := none) rfl hs hclos hkind hnames (wpAny_mono h (fun xv s₁ h₁ => ?_) fun _ _ e => e)
  obtain ⟨r, t, u, v, news, rfl, F, N, hr, hm, hQ⟩ := h₁
  refine wpAny_pyIter_range hr (by decide) ?_
  have up : ∀ o b' o', s₁.heap.get? b' = some o' → (s₁.heap.push o).get? b' = some o' := fun o b' o' e => Heap.get?_push_of_some _ e
  have W : Walks prog w A s₁.heap.objs.size [s₁.heap.objs.size] [s₁.heap.objs.size] 64 (fun i v => i < 64 ∧ ∃ t, v = Value.int (0 + (i : Int) * 1) t) (fun i h => IsRangeIter h s₁.heap.objs.size (0 + (i : Nat) * 1) (((64 : Nat) : Int) - (i : Nat)) 1) := (Walks.range hh _ 0 1 64).bound
  have hn64 : Builtin.Range.rangeSize 0 64 1 = ((64 : Nat) : Int) := by decide
  rw [hn64]
  generalize hs₂ : ({ s₁ with heap := s₁.heap.push { cls := .type "range_iterator", data := .fields #[rawInt 0, rawInt ((64 : Nat) : Int), rawInt 1] } } : Shared) = s₂
  have hp₂ : s₂.heap = s₁.heap.push { cls := .type "range_iterator", data := .fields #[rawInt 0, rawInt ((64 : Nat) : Int), rawInt 1] } := by rw [← hs₂]
  have hup : ∀ b' o', s₁.heap.get? b' = some o' → s₂.heap.get? b' = some o' := fun b' o' e => by rw [hp₂]; exact Heap.get?_push_of_some _ e
  have blk := comp_block_walkCD (knd := intKind prog w) (kx := .Subscript (.Name al p1) (.Name x p2) p3) (vx := .Name x p4) (px := px) (iter := iter) (pos := pos) (ifs := []) (cl := cl) (scope := scope) (E := E) (env := env) (s₂ := s₂)
    (RR := fun acc C r s' => acc = .ref s₂.heap.objs.size → compPost (model prog w) A E none Q acc C r s') W (by decide) (fun _ => true) (fun v k => ∃ (i : Nat) (t : Tok), v = Value.int (0 + (i : Int)) t ∧ k = as.getD i 0) (fun v y => ∃ (i : Int) (t t' : Tok), v = Value.int i t ∧ y = Value.int i t') hcell hkind hx
    ?st ?fp ⟨?tests, ?key, ?val⟩ ?rr
  exact wpAny_mono (newDict_at blk) (fun acc s₃ h₃ => wpAny_mono h₃.2 (fun cenv s₄ h₄ => codeAny_mono h₄ (fun r s' g => g h₃.1)) fun _ _ e => e) fun _ _ e => e
  · show IsRangeIter _ _ _ _ _
    rw [hp₂]
    simpa using Heap.get?_push_size _ rfl
  · intro b' hb'
    rw [List.mem_singleton.mp hb', hp₂, Heap.size_push]; exact Nat.lt_succ_self _
  · intro C i v' s₃ m₃ E' hv hn hm₃ hk
    exact wpAny_tests_nil ⟨rfl, _, _, rfl, fun _ _ e => e⟩
  · rintro C i v' s₃ m₃ E' hPv _ hn hm₃ hk
    obtain ⟨hi, tv, rfl⟩ := hPv
    rw [Int.mul_one] at hm₃ ⊢
    have hce : s₃.heap.get? c = some oc := hk c oc (fun q => absurd (Heap.lt_size (N.get hm)) ((List.mem_singleton.mp q) ▸ Nat.lt_irrefl _)) (hup _ _ (N.get hm))
    refine Subscript_ (wpAny_Name (wpAny_loadName_cell hkind (hak C) hcc ⟨oc, hce, hd⟩ ?_) hd2)
    refine wpAny_Name (wpAny_loadName_local hkind (hxk C) hn hm₃ ?_) hd1
    refine KBw.item_K hb (by omega) (by omega) (by omega) (fun t' k' _ _ => ?_) (hs1 _ _ _) (hs2 _)
    refine ⟨⟨_, intKind_is prog w _ t', i, tv, rfl, ?_⟩, _, _, rfl, fun _ _ e => e⟩
    rw [show (0 + (i : Int)).toNat = i by omega]
  · rintro C i v' s₃ m₃ E' ⟨hi, tv, rfl⟩ _ hn hm₃ hk
    refine wpAny_Name (wpAny_loadName_local hkind (hxk C) hn hm₃ ?_) hd1
    exact ⟨⟨_, tv, tv, rfl, rfl⟩, _, _, rfl, fun _ _ e => e⟩
  · intro D C h' tk m' kvs vs hD hC hDC hnC hdo hvl hP hst hk hDe
    have hDe' : D = s₂.heap.objs.size := by simpa using hDe
    refine ⟨m', hnC, fun h'' hs'' => ?_⟩
    obtain ⟨od, hod, hkv⟩ := Heap.dictOf_iff.mp (hdo.extBut hs''.extBut hDC)
    have hC1 : s₁.heap.get? C = none := by
      cases q : s₁.heap.get? C with
      | none => rfl
      | some o' => exact nomatch ((hup _ _ q).symm.trans hC)
    have hold : ∀ b' o', s₁.heap.get? b' = some o' → h''.get? b' = some o' := fun b' o' e => hs''.extBut b' o' (fun q => by rw [q, hC1] at e; cases e) (hk b' o' (fun q => absurd (Heap.lt_size e) ((List.mem_singleton.mp q) ▸ Nat.lt_irrefl _)) (hup _ _ e))
    have hD1 : s₁.heap.get? D = none := by
      cases q : s₁.heap.get? D with
      | none => rfl
      | some o' => exact nomatch ((hup _ _ q).symm.trans hD)
    have hDL : D ≠ L := by
      rintro rfl
      obtain ⟨oL, _, _, hL, _⟩ := F.ns
      rw [hL] at hD1; cases hD1
    have hD0 : h₀.get? D = none := by
      cases q : h₀.get? D with
      | none => rfl
      | some o' => rw [F.keep _ _ q] at hD1; cases hD1
    have hDs : (D == sysModules) = false := by
      have h1 := modules_low hlim
      have h2 := F.above
      have h3 := F.ns.lt
      refine beq_false_of_ne fun e => ?_
      rw [hDe', hp₂, Heap.size_push] at e
      have e' : s₁.heap.objs.size + 1 = 1 := e
      have h1' : 1 < h₀.objs.size := h1
      have h2' : h₀.objs.size ≤ (L : Nat) := h2
      have h4 : 1 < s₁.heap.objs.size := Nat.lt_of_lt_of_le h1' (Nat.le_trans h2' (Nat.le_of_lt h3))
      have h5 : s₁.heap.objs.size + 1 ≠ 1 := by omega
      exact h5 e'
    rw [← hs₂]
    refine hQ D h'' tk od (F.keptAll hold) ?_ (fun p hp e => ?_) hDs ⟨kvs, hkv, ?_⟩
    · intro p hp
      rcases List.mem_cons.mp hp with rfl | hp
      · exact ⟨hod, hDL, hD0⟩
      · exact ⟨hold _ _ (N p hp).1, (N p hp).2⟩
    · rw [← e, (N p hp).1] at hD1; cases hD1
    · have e : vs.filter (fun _ => true) = vs := List.filter_eq_self.mpr fun _ _ => rfl
      rw [e] at hst
      have := tab_of hnd hst (by omega) (fun j v hj => by obtain ⟨_, t', e'⟩ := hP j v hj; exact ⟨t', by rw [e', Int.mul_one]⟩)
      rwa [hvl, ← hlen, List.take_length] at this
theorem tab_at {d : Addr} {od : Obj} {as : List Int} {h : Heap} (ho : h.get? d = some od) (hds : (d == sysModules) = false) (T : IsTab prog w od as) : IntTab prog w h d (tabFrom 0 as) := by
  obtain ⟨kvs, hk, hf⟩ := T
  exact TabAt.ofObj hds ho hk hf
theorem tab_meth {d : Addr} {od : Obj} {as : List Int} {pl : Sem Bool} {Q : Value × List Value → Shared → Prop} (ho : s.heap.get? d = some od) (hds : (d == sysModules) = false) (T : IsTab prog w od as) (h : Q (.builtin "dict.get", [.ref d]) s) :
    wpAny (model prog w) A (getMethod (.ref d) "get" pl) Q E s := getMethod_intTab_get (tab_at ho hds T) h
/-- the place of a sign -/
theorem tab_get {d : Addr} {od : Obj} {as : List Int} {i : Int} {t : Tok} {dflt : Value} {dd : PyData} {Q : Value → Shared → Prop} (ho : s.heap.get? d = some od) (hds : (d == sysModules) = false) (T : IsTab prog w od as) (hx : Flat dflt dd) (hnd : as.Nodup) (j : Nat) (hj : j < as.length) (hi : i = as[j])
    (h : ∀ t', Q (.int (j : Int) t') { s with toks := s.toks + 1 }) : wpAny (model prog w) A (call (.builtin "dict.get") [.ref d, .int i t, dflt]) Q E s := by
  refine call_get2_intTab (tab_at ho hds T) hx fun v hv => ?_
  rw [hi, tab_look 0 as j hnd hj] at hv
  obtain ⟨t', rfl⟩ := Flat.int_inv hv
  rw [Nat.zero_add]
  exact h t'
end
end Mine
end

section
open PySem PySem.W PyProof.Rows PyProof.V
set_option Elab.async false
set_option maxRecDepth 100000
namespace Mine
section
variable {prog : Program} {w : World} {A : Around} {E : Value → Shared → Prop} {s : Shared} {h₀ : Heap} {L : Addr} {m : PySem.Str → Option Value} {env : Env}
open PyProof.Rows.LCg in
/-- «y = [elt for x in iter]», iter a bytes -/
theorem assign_comp_bytes {elt iter : PySem.Expr} {x y : PySem.Str} {px py : Pos} {scope : Scope} {cl : List (PySem.Str × Addr)} {pos spos : Pos} {Q : Flow → Shared → Prop} (_F₀ : Fr h₀ L s.heap m) (hLe : env.locals = L)
    (hsw : swapsWith (.ListComp elt [⟨.Name x px, iter, [], 0⟩] scope pos) (some (.Name y py)) spos.line env = pure true)
    (hclos : closureFor scope env = pure cl) (hcell : ∀ z ∈ scope.names, z.2 ≠ .cell) (hkind : scope.kind = .function)
    (hnames : ∀ z ∈ scope.names, z.2 = .local → scope.names.lookup z.1 = some .local) (hx : scope.names.lookup x = some .local)
    (hy : env.kindOf y = some .local) (hp : (env.scope.kind == .class || (env.scope.kind == .module && env.locals != env.globals)) = false)
    (hh : A.handled = none)
    (h : wpAny (model prog w) A (eval iter env) (fun xv s₁ => ∃ b tb news, xv = .bytes b tb ∧ Fr h₀ L s₁.heap m ∧ News h₀ L s₁.heap news ∧ b.size ≤ sizeLine ∧
      ∀ s₂ : Shared, (∃ g, s₂ = { s₁ with heap := g }) → CompRest prog w A h₀ L m env elt x scope cl s₂ (fun _ => True) (fun i v => ∃ c u, b[i]? = some c ∧ v = .int (c.toNat : Int) u) (FinA h₀ L m s₂ y Q) b.size 0 [] news) E s)
    (hs : ∀ x, foldedSetIterable iter env x = pure x := by intro _; rfl) :
    wpAny (model prog w) A (exec (.Assign [.Name y py] (.ListComp elt [⟨.Name x px, iter, [], 0⟩] scope pos) spos) env) Q E s := by
  subst hLe
  rw [exec_Assign_Name_used _ _ _ _ hsw]
  refine wpAny_bind (wpAny_standAt (wpAny_bind ?_))
  show wpAny _ A (do let _ ← comprehension (.ListComp elt [⟨.Name x px, iter, [], 0⟩] scope pos) scope env _ (newList []) false (eval iter env) (some (assign (.Name y py) env))) _ _ s
  refine wpAny_bind (wpAny_mono (wpAny_comprehension_free (use := some (assign (.Name y py) env)) (Q := fun _ s' => Q .next s') rfl hs hclos hkind hnames
    (wpAny_mono h (fun xv s₁ h₁ => ?_) fun _ _ e => e)) (fun _ s' hq => wpAny_pure (wpAny_pure hq)) fun _ _ e => e)
  obtain ⟨b, tb, news, rfl, F, N, hsz, R⟩ := h₁
  refine KBw.pyIter_bytes ?_
  have up : ∀ b' o', s₁.heap.get? b' = some o' → (s₁.heap.push { cls := .type "bytes_iterator", data := .fields #[.bytes b tb, .int 0 0] }).get? b' = some o' := fun b' o' e => Heap.get?_push_of_some _ e
  refine block_U (KBw.walks hh s₁.heap.objs.size b tb) hsz (fun i h st => by obtain ⟨o, e, _⟩ := st; exact ⟨o, e⟩)
    (fun i h h' o nw st e e' _ _ _ => by obtain ⟨o', q, r⟩ := st; rw [e] at q; cases q; exact ⟨o, e', r⟩) hcell hkind hx ⟨_, Heap.get?_push_size _ rfl, rfl, rfl⟩ (fun b' hb' => ?_)
    (F.keeps up) (N.grown up) (Nat.ne_of_lt F.ns.lt) (next_is_new F) (fun p hp => Nat.ne_of_lt (Heap.lt_size (N p hp).1)) trivial (R _ ⟨_, rfl⟩) ?_
  · rw [List.mem_singleton.mp hb']
    show s₁.heap.objs.size < (s₁.heap.push _).objs.size
    rw [Heap.size_push]; exact Nat.lt_succ_self _
  · intro D C h' tk m' ys news' F' N' o1 hn hC₀ hD₀ hCL hDL hCD offC fin
    show wpAny _ A (assign (.Name y py) env (.ref D)) _ _ _
    refine wpAny_assign_Name (wpAny_storeName_local hy F'.ns (fun h₂ hn₂ hs₂ => ?_) hp)
    have hL₀ : h₀.get? env.locals = none := Heap.get?_none_of_le F'.above
    have F₂ : Fr h₀ env.locals h₂ (fun z => if z = y then some (.ref D) else m z) := ⟨hn₂, fun b o e => hs₂.extBut b o (fun q => by rw [q, hL₀] at e; cases e) (F'.keep b o e), F'.above⟩
    refine ⟨m', hn.sameBut hs₂ hCL, fun h'' hs'' => fin D h'' _ (F₂.change hs'' hCL hC₀) (fun p hp => ?_) o1⟩
    refine ⟨hs''.extBut _ _ ?_ (hs₂.extBut _ _ (N' p hp).2.1 (N' p hp).1), (N' p hp).2⟩
    rcases List.mem_cons.mp hp with rfl | hp
    · exact Ne.symm hCD
    · exact offC p hp
theorem len_ints {l : Addr} {vs : List Value} {ns : List Int} {Q : Value → Shared → Prop} (hl : s.heap.IsList l vs.toArray) (hi : IntsAre vs ns) (hn : ns.length < 2 ^ 62) (h : ∀ t' k, Q (.int (ns.length : Nat) t') { s with toks := k }) :
    wpAny (model prog w) A (call (.builtin "len") [.ref l]) Q E s := by
  have e := hi.length
  refine len_list hl (by rw [List.size_toArray]; omega) ?_
  rw [List.size_toArray, e]
  exact h _ _
end
end Mine
end

section
open PySem PySem.W PyProof.Rows
set_option Elab.async false
namespace Mine
/-- letters, figures, = -/
def knownL : List Int := 61 :: b64s.take 62
structure Marks (m1 m2 : Int) : Prop where
  r1 : 0 ≤ m1 ∧ m1 < 256
  r2 : 0 ≤ m2 ∧ m2 < 256
  ne : m1 ≠ m2
  k1 : m1 ∉ knownL
  k2 : m2 ∉ knownL
def alph (m1 m2 : Int) : List Int := b64s.take 62 ++ [m1, m2]
theorem alph_len (m1 m2 : Int) : (alph m1 m2).length = 64 := by simp [alph, b64s]
theorem alph_nodup {m1 m2 : Int} (h : Marks m1 m2) : (alph m1 m2).Nodup := by
  unfold alph
  rw [List.nodup_append]
  refine ⟨by decide, ?_, ?_⟩
  · simp [h.ne]
  · intro a ha b hb e
    subst e
    simp only [List.mem_cons, List.not_mem_nil, or_false] at hb
    rcases hb with rfl | rfl
    · exact h.k1 (List.mem_cons_of_mem _ ha)
    · exact h.k2 (List.mem_cons_of_mem _ ha)
theorem alt_sg {m1 m2 i : Int} (h0 : 0 ≤ i) (h1 : i < 64) : alt m1 m2 (sg i) = (alph m1 m2).getD i.toNat 0 := by
  obtain ⟨j, rfl⟩ : ∃ j : Nat, i = (j : Int) := ⟨i.toNat, by omega⟩
  unfold sg alph
  rw [Int.toNat_natCast]
  by_cases h62 : j < 62
  · have hb := sg_low j h62
    have : (b64s.take 62 ++ [m1, m2]).getD j 0 = b64s.getD j 0 := by
      rw [List.getD_eq_getElem?_getD, List.getD_eq_getElem?_getD, List.getElem?_append_left (by simpa [b64s] using h62), List.getElem?_take_of_lt h62]
    rw [this]
    unfold alt
    rw [if_neg hb.2, if_neg hb.1]
  · have : j = 62 ∨ j = 63 := by omega
    rcases this with rfl | rfl
    · rfl
    · rfl
theorem alt_61 (m1 m2 : Int) : alt m1 m2 61 = 61 := by unfold alt; rw [if_neg (by decide), if_neg (by decide)]
theorem cut_count (ks : List Int) (m1 m2 : Int) : ((enc ks).map (alt m1 m2)).take (sx ks).length = ((sx ks).map sg).map (alt m1 m2) := by
  unfold enc
  rw [List.map_append, List.take_left' (by simp)]
theorem cut_rest (ks : List Int) (m1 m2 : Int) : ((enc ks).map (alt m1 m2)).drop (sx ks).length = List.replicate (padN ks.length) 61 := by
  unfold enc
  rw [List.map_append, List.drop_left' (by simp), List.map_replicate, alt_61]
theorem pad_z (n : Nat) : (-(((4 * n + 2) / 3 : Nat) : Int)).fmod 4 = ((padN n : Nat) : Int) := by
  rw [Int.fmod_eq_emod_of_nonneg _ (by decide)]
  unfold padN
  obtain ⟨q, r, hr, rfl⟩ : ∃ q r : Nat, r < 3 ∧ n = 3 * q + r := ⟨n / 3, n % 3, by omega, by omega⟩
  have : r = 0 ∨ r = 1 ∨ r = 2 := by omega
  rcases this with rfl | rfl | rfl <;> omega
end Mine
end

section
open PySem PySem.W PyProof.Rows
set_option Elab.async false
namespace Mine
theorem bInts_size {b : Array UInt8} {ks : List Int} (h : KBw.bInts b = ks) : b.size = ks.length := by rw [← h]; simp [KBw.bInts]
theorem bInts_at {b : Array UInt8} {ks : List Int} (h : KBw.bInts b = ks) {i : Nat} {c : UInt8} (hc : b[i]? = some c) : ks.getD i 0 = (c.toNat : Int) := by
  rw [← h, List.getD_eq_getElem?_getD]
  unfold KBw.bInts
  rw [List.getElem?_map, Array.getElem?_toList, hc]; rfl
theorem pick_count {ks : List Int} {m1 m2 : Int} : ((enc ks).map (alt m1 m2)).take (clipAt ((enc ks).map (alt m1 m2)).length ((4 * (ks.length : Int) + 2).fdiv 3)) = ((sx ks).map sg).map (alt m1 m2) := by
  rw [cnt_z, clip_take _ (by omega), Int.toNat_natCast, ← sx_length, cut_count]
/-- the sign at a place, read back -/
theorem sign_at {ks : List Int} {m1 m2 : Int} (hin : KBa.In ks) {i : Nat} (hi : i < (sx ks).length) {c : UInt8} {b : Array UInt8} (hb : KBw.bInts b = ((sx ks).map sg).map (alt m1 m2)) (hc : b[i]? = some c) :
    ((sx ks).getD i 0).toNat < (alph m1 m2).length ∧ ∀ h, (c.toNat : Int) = (alph m1 m2)[((sx ks).getD i 0).toNat]'h := by
  have h1 := sx_in hin ((sx ks)[i]) (List.getElem_mem _)
  have hg : (sx ks).getD i 0 = (sx ks)[i] := by rw [List.getD_eq_getElem?_getD, List.getElem?_eq_getElem hi]; rfl
  refine ⟨by rw [hg, alph_len]; omega, fun h => ?_⟩
  rw [← bInts_at hb hc, List.getD_eq_getElem?_getD, List.getElem?_map, List.getElem?_map, List.getElem?_eq_getElem hi]
  show alt m1 m2 (sg (sx ks)[i]) = _
  rw [alt_sg h1.1 h1.2, ← hg, List.getD_eq_getElem?_getD (l := alph m1 m2), List.getElem?_eq_getElem h]
  rfl
theorem sx_take_succ {ks : List Int} {i : Nat} (hi : i < (sx ks).length) (hin : KBa.In ks) : (sx ks).take (i + 1) = (sx ks).take i ++ [((((sx ks).getD i 0).toNat : Nat) : Int)] := by
  have h1 := sx_in hin ((sx ks)[i]) (List.getElem_mem _)
  have hg : (sx ks).getD i 0 = (sx ks)[i] := by rw [List.getD_eq_getElem?_getD, List.getElem?_eq_getElem hi]; rfl
  rw [List.take_add_one, List.getElem?_eq_getElem hi, hg, Int.toNat_of_nonneg h1.1]; rfl
theorem pad_cnt (n : Nat) : (-(4 * (n : Int) + 2).fdiv 3).fmod 4 = ((padN n : Nat) : Int) := by rw [cnt_z, pad_z]
theorem pad_le (n : Nat) : padN n ≤ 2 := by unfold padN; omega
theorem pick_rest {ks : List Int} {m1 m2 : Int} : (((enc ks).map (alt m1 m2)).drop (clipAt ((enc ks).map (alt m1 m2)).length ((4 * (ks.length : Int) + 2).fdiv 3))).take (((enc ks).map (alt m1 m2)).length - clipAt ((enc ks).map (alt m1 m2)).length ((4 * (ks.length : Int) + 2).fdiv 3)) = List.replicate (padN ks.length) 61 := by
  have hl : (sx ks).length ≤ ((enc ks).map (alt m1 m2)).length := by rw [List.length_map]; unfold enc; rw [List.length_append, List.length_map]; omega
  rw [cnt_z, ← sx_length, clipAt_nat, Nat.min_eq_left hl, cut_rest, ← cut_rest ks m1 m2, ← List.length_drop, List.take_length]
theorem no_neg {ks : List Int} (hin : KBa.In ks) : ((sx ks).any fun x => x == -1) = false := by
  rw [Bool.eq_false_iff]
  intro h
  obtain ⟨x, hx, e⟩ := List.any_eq_true.mp h
  have := sx_in hin x hx
  have := eq_of_beq e
  omega
end Mine
end

section
open PySem PySem.W PyProof.Rows
set_option Elab.async false
set_option maxRecDepth 100000
namespace Mine
theorem small_up {a b : Int} (ha : -(2 ^ 62) ≤ a) (ha' : a < 2 ^ 62) (hb : -(2 ^ 62) ≤ b) (hb' : b < 2 ^ 62) : Builtin.Range.small a b 1 = true := by
  unfold Builtin.Range.small
  rw [rangeSize_one]
  simp only [Builtin.Range.rangeFitsLong, Bool.and_eq_true, Bool.or_eq_true, decide_eq_true_eq, beq_iff_eq, show ((1 : Int) > 0) by decide, if_true]
  split <;> omega
theorem mul_small {prog : Program} {w : World} {A : Around} {E : Value → Shared → Prop} {s : Shared} {a b : Int} {t u : Tok} {Q : Value → Shared → Prop} (h0 : 0 ≤ b) (h1 : b ≤ 1000000) (h : Q (.int (a * b) s.toks) { s with toks := s.toks + 1 }) : wpAny (model prog w) A (binaryOp .Mult (.int a t) (.int b u)) Q E s :=
  mul_int h (IntMulOk.of_right (intBits_le_64 (by omega) (by omega)))
theorem off1_mem {D : Addr} {l : List (Addr × Obj)} (h : PyProof.Rows.LCg.Off1 D l) : ∀ p ∈ l, p.1 ≠ D := by
  induction l with
  | nil => intro p hp; cases hp
  | cons a l ih =>
    intro p hp
    have h' : (@Ne Nat a.1 D) ∧ PyProof.Rows.LCg.Off1 D l := h
    rcases List.mem_cons.mp hp with e | hp
    · rw [e]; exact h'.1
    · exact ih h'.2 p hp
end Mine
end

section
open PySem PySem.W PyProof.Rows
set_option Elab.async false
set_option maxRecDepth 100000
namespace Mine
section
variable {prog : Program} {w : World} {A : Around} {E : Value → Shared → Prop} {s : Shared}
/-- None is no member of a list of three lists of ints -/
theorem none_in3 {l a1 a2 a3 : Addr} {z1 z2 z3 : List Value} {k1 k2 k3 : List Int} {Q : Value → Shared → Prop} (hl : s.heap.IsList l [Value.ref a1, .ref a2, .ref a3].toArray) (h1 : s.heap.IsList a1 z1.toArray) (i1 : IntsAre z1 k1)
    (h2 : s.heap.IsList a2 z2.toArray) (i2 : IntsAre z2 k2) (h3 : s.heap.IsList a3 z3.toArray) (i3 : IntsAre z3 k3) (hu : A.units + 8 < cLine) (h : Q (.bool false) s) : wpAny (model prog w) A (compareOp .In .none (.ref l)) Q E s := by
  obtain ⟨o, ho, hc, n, hd⟩ := hl
  have rc : Reads s.heap (.ref l) (.list [.list (k1.map .int), .list (k2.map .int), .list (k3.map .int)]) _ := Reads.list ho hc hd (.cons (reads_of_ints h1 i1) (.cons (reads_of_ints h2 i2) (.cons (reads_of_ints h3 i3) .nil)))
  refine SeqAt.in_list_reads rc Reads.none ?_ (by decide) ?_ (by simpa [PyData.eqv] using h)
  · simp [PyData.canLayAll0, PyData.canLay0, canLayAll0_ints]
  · have := Nat.min_le_right (PyData.depthAll [.list (k1.map .int), .list (k2.map .int), .list (k3.map .int)]) (PyData.depth .none)
    have e : PyData.depth .none ≤ 1 := by decide
    omega
end
end Mine
namespace Mine
section
variable {prog : Program} {w : World} {A : Around} {E : Value → Shared → Prop} {s : Shared} {h₀ : Heap} {L : Addr} {m : PySem.Str → Option Value} {news : List (Addr × Obj)}
/-- range(n), laid onto the ledger -/
theorem range_led {Q : Value → Shared → Prop} {n : Int} {t : Tok} (F : Fr h₀ L s.heap m) (N : News h₀ L s.heap news)
    (h : ∀ r h' tk t₁ u₁ v₁, Fr h₀ L h' m → News h₀ L h' ((r, { cls := .type "range", dict := none, data := .fields #[.int 0 t₁, .int n u₁, .int 1 v₁], slots := #[] }) :: news) → Q (.ref r) { s with heap := h', toks := tk }) :
    wpAny (model prog w) A (call (.type "range") [.int n t]) Q E s :=
  range1_rows F N fun h' tk t₁ u₁ v₁ hr F' N' _ => h _ h' tk t₁ u₁ v₁ F' fun p hp => by
    rcases List.mem_cons.mp hp with rfl | hp
    · exact ⟨hr, Ne.symm (Nat.ne_of_lt F.ns.lt), next_is_new F⟩
    · exact N' p hp
end
end Mine
end

section
open PySem PySem.W PyProof.Rows
set_option Elab.async false
namespace Mine
local macro_rules | `(tactic| k_room) => `(tactic| ktr_room)
local macro_rules | `(tactic| walk_at "call type:type") => `(tactic| ((with_reducible show wpAny _ _ (call (Value.type "type") [Value.bytes _ _]) _ _ _); refine call_type_of (typeIs_bytes _ _ _) (by decide) ?_))
local macro_rules | `(tactic| walk_at "call type:type") => `(tactic| ((with_reducible show wpAny _ _ (call (Value.type "type") [Value.bool _]) _ _ _); refine call_type_of (show Shared.TypeIs _ (Value.bool _) "bool" from rfl) (by decide) ?_))
theorem b64_arr : KBw.bInts #[65, 66, 67, 68, 69, 70, 71, 72, 73, 74, 75, 76, 77, 78, 79, 80, 81, 82, 83, 84, 85, 86, 87, 88, 89, 90, 97, 98, 99, 100, 101, 102, 103, 104, 105, 106, 107, 108, 109, 110, 111, 112, 113, 114, 115, 116, 117, 118, 119, 120, 121, 122, 48, 49, 50, 51, 52, 53, 54, 55, 56, 57, 43, 47] = b64s := by decide +kernel
local macro_rules | `(tactic| walk_at "subscriptTail") => `(tactic| ((with_reducible show wpAny _ _ (subscriptTail _ _ (Value.bytes _ _) (Value.int (Builtin.bitAnd _ 63) _)) _ _ _); with_unfolding_all refine' KBw.item_K (ks := b64s) ?k1 ?k2 ?k3 ?k4 ?_ ?k5 ?k6; (case k1 => exact b64_arr); (case k2 => decide); (case k3 => exact (b64_ix _).1); (case k4 => exact (b64_ix _).2); (case k5 => with_unfolding_all rfl); (case k6 => intro _; with_unfolding_all rfl); k_whole; intro t' k' _ _))
theorem all_ne {news own : List (Addr × Obj)} {l : Addr} {r : List Addr} (h1 : ∀ p ∈ news, p.1 < l) (h2 : OwnOff own (l :: r)) : ∀ p ∈ news ++ own, p.1 ≠ l := by
  intro p hp
  rcases List.mem_append.mp hp with h | h
  · exact Nat.ne_of_lt (h1 p h)
  · exact h2 p h l (.head _)
local macro_rules | `(tactic| k_all) => `(tactic| exact all_ne (by assumption) (by assumption))
local macro_rules | `(tactic| size_fits) => `(tactic| ((try simp only [List.size_toArray, Array.size_push, PySem.sizeLine_eq]); omega))
local macro_rules | `(tactic| walk_at "call type:bytes") => `(tactic| refine Stop.go ?_)
local macro_rules | `(tactic| walk_at "subscriptTail") => `(tactic| ((with_reducible show wpAny _ _ (subscriptTail _ _ (Value.bytes _ _) (Value.int (Builtin.bitAnd _ _ * _) _)) _ _ _); with_unfolding_all refine' KBw.item_K (ks := b64s) ?k1 ?k2 ?k3 ?k4 ?_ ?k5 ?k6; (case k1 => exact b64_arr); (case k2 => decide); (case k3 => first | exact (b64_ix3 _).1 | exact (b64_ix15 _).1); (case k4 => first | exact (b64_ix3 _).2 | exact (b64_ix15 _).2); (case k5 => with_unfolding_all rfl); (case k6 => intro _; with_unfolding_all rfl); k_whole; intro t' k' _ _))
local macro_rules | `(tactic| walk_at "binaryOp LShift int int") => `(tactic| ((with_reducible show wpAny _ _ (binaryOp Operator.LShift (Value.int (Builtin.bitAnd _ 3) _) (Value.int 4 _)) _ _ _); refine lshift_int_small (by decide) (by decide) (by simp only [bitAnd_m2]; omega) ?_))
local macro_rules | `(tactic| walk_at "binaryOp LShift int int") => `(tactic| ((with_reducible show wpAny _ _ (binaryOp Operator.LShift (Value.int (Builtin.bitAnd _ 15) _) (Value.int 2 _)) _ _ _); refine lshift_int_small (by decide) (by decide) (by simp only [bitAnd_m4]; omega) ?_))
structure StB where
  vs : List Value
  n : Nat
  os : List Int
  lb : Int
  tb : Tok
  lc : Int
  tc : Tok
abbrev ledB (l : Addr) (news : List (Addr × Obj)) (c : StB) : List (Addr × Obj) := (l, listOf c.vs.toArray c.n) :: news
abbrev psB (l : Addr) (c : StB) : List (Str × Value) := [(Str.ofString "out", Value.ref l), (Str.ofString "leftbits", .int c.lb c.tb), (Str.ofString "leftchar", .int c.lc c.tc)]
theorem b2a_end {g : Heap} {L l : Addr} {m₀ m' : Str → Option Value} {news own : List (Addr × Obj)} {s₁ : Shared} {h' : Heap} {tk : Nat} {ws : List Value} {k : Nat} {os : List Int} {lb lc : Int} {tb tc : Tok} {x : Str} {pre' : List Int} {adr : List Addr}
    (F : Fr g L h' m') (N : News g L h' ((l, listOf ws.toArray k) :: (news ++ own))) (h1 : m' (Str.ofString "out") = some (.ref l)) (h2 : m' (Str.ofString "leftbits") = some (.int lb tb)) (h3 : m' (Str.ofString "leftchar") = some (.int lc tc))
    (hr : ∀ z, z ≠ x → z ≠ Str.ofString "out" → z ≠ Str.ofString "leftbits" → z ≠ Str.ofString "leftchar" → m' z = m₀ z) (hi : IntsAre ws os) (hP : InvB pre' os lb lc) (ha : adr = l :: news.map (·.1)) :
    InvEndN g L (KstS (ledB l news) (psB l) (fun c => IntsAre c.vs c.os) x [] m₀ (fun pre c => InvB pre c.os c.lb c.lc) pre') own adr s₁ { s₁ with heap := h', toks := tk } := by
  refine ⟨h', tk, m', _, (l, listOf ws.toArray k) :: news, rfl, F, N, ?_, ?_, ?_, ⟨ws, k, os, lb, tb, lc, tc⟩, rfl, hi, ?_, ?_, hP⟩
  · intro p hp; rcases List.mem_cons.mp hp with rfl | hp
    · exact .head _
    · exact .tail _ (List.mem_append_left _ hp)
  · intro p hp; exact .tail _ (List.mem_append_right _ hp)
  · rw [ha]; rfl
  · intro p hp
    simp only [psB, List.mem_cons, List.not_mem_nil, or_false] at hp
    rcases hp with rfl | rfl | rfl
    · exact h1
    · exact h2
    · exact h3
  · intro z hz hp _
    exact hr z hz (hp _ (.head _)) (hp _ (.tail _ (.head _))) (hp _ (.tail _ (.tail _ (.head _))))
set_option maxRecDepth 100000 in
set_option maxHeartbeats 8000000 in
theorem b2a_c {w mean mg mb news} (b : Array UInt8) (t : Tok) (hlen : b.size < 1000000) : Ctr w mean mg mb 4 43 news [.bytes b t] [(Str.ofString "newline", .bool false)] (fun v tl => ∃ c u, v = .bytes c u ∧ tl = [] ∧ KBw.bInts c = enc (KBw.bInts b)) := by
  unfold Ctr; k_fill
  w_top off; intro dp un gd cn cs a ccd cl outer A₀ base h₀ L m s Q E B F X N T hk hdp hun hret
  (refine wpAny_call ?_; k_dflt (refine' code_def (binds := [(Str.ofString "data", .bytes b t), (Str.ofString "newline", .bool false)]) ?k1 ?k2 ?k3 ?k4 ?k5 ?kA ?kF ?kK ?k6 ?k7 ?k8 ?k9 ?kB ?_ ?c2 ?c3 ?c4 ?c5; (case kA => exact rfl); (case kF => exact rfl); (case kK => first | exact rfl | assumption); (case k1 => k_asm); (case k2 => k_asm); (case k3 => k_asm); (case k4 => k_asm); (case k5 => k_asm); (case k6 => k_is); (case k7 => k_is); (case k8 => ktr_room); (case k9 => first | exact BindsTo.of_eq rfl | exact binds_K (by k_in) rfl (by k_is) rfl rfl rfl); (case c5 => decide); (case kB => exact locs rfl); (case c2 => exact rfl); (case c3 => exact rfl); (case c4 => exact rfl); k_whole; intro g' L' h' FG' F' N' B' X' T'; (try dsimp only); (try k_lift B'); (try k_fold)))
  k_steps
  all_goals (with_reducible rename Fr _ _ _ _ => F1)
  all_goals (with_reducible rename News _ _ _ _ => N1)
  all_goals (with_unfolding_all refine' KStb.kst_bytes (σ := StB) (ledB ?l news) (psB ?l) (fun c => IntsAre c.vs c.os) [] (fun pre c => InvB pre c.os c.lb c.lc) ⟨[], 0, [], 0, _, 0, _⟩ rfl rfl (by rfl) F1 N1 IntsAre.nil ?kk InvB.start ?_ ?_)
  case kk => kst_all
  · clear F1 N1
    rintro ⟨vs, n, os, lb, tb, lc, tc⟩ pre post x tx u h tk own he hlt hx0 hx1 hoff hf hp F1 N1
    dsimp only at *
    simp only [List.cons_append, List.map_cons] at N1 hoff
    have hvl : vs.length < 2000000 := by
      have h1 := hp.len
      rw [KBw.ints_length] at hlt
      rw [hf.length]; omega
    obtain ⟨hc0, hc1, q, r, hpre, hq, hr⟩ := hp
    rcases hr with ⟨rfl, rfl, rfl⟩ | ⟨a1, rfl, rfl, ha, rfl⟩ | ⟨a1, b1, rfl, rfl, ha, rfl⟩
    all_goals k_steps
    all_goals (with_reducible rename Fr _ _ _ _ => F9)
    all_goals (with_reducible rename News _ _ _ _ => N9)
    all_goals simp only [List.push_toArray] at N9
    · refine b2a_end F9 N9 rfl rfl rfl ?_ (hf.append (.cons _ _ .nil)) (InvB.s0 hq hpre hc0 hx0 hx1) rfl
      intro z h1 h2 h3 h4
      simp [h1, h2, h3, h4, kstB]
    · refine b2a_end F9 N9 rfl rfl rfl ?_ (hf.append (.cons _ _ .nil)) (InvB.s2 hq hpre hc0 ha hx0 hx1) rfl
      intro z h1 h2 h3 h4
      simp [h1, h2, h3, h4, kstB]
    · refine b2a_end F9 N9 rfl rfl rfl ?_ ((hf.append (.cons _ _ .nil)).append (.cons _ _ .nil)) (InvB.s4 hq hpre hc0 ha hx0 hx1) rfl
      intro z h1 h2 h3 h4
      simp [h1, h2, h3, h4, kstB]
  · rintro ⟨vs, n, os, lb, tb, lc, tc⟩ u h tk hlt hf hp F1 N1
    dsimp only [psB, ledB] at *
    have hvl : vs.length < 2000000 := by
      have h1 := hp.len
      rw [KBw.ints_length] at h1
      rw [hf.length]; omega
    obtain ⟨hc0, hc1, q, r, hpre, hq, hr⟩ := hp
    rcases hr with ⟨rfl, rfl, rfl⟩ | ⟨a1, rfl, rfl, ha, rfl⟩ | ⟨a1, b1, rfl, rfl, ha, rfl⟩
    all_goals k_steps
    all_goals (with_reducible rename Fr _ _ _ _ => F9)
    all_goals (with_reducible rename News _ _ _ _ => N9)
    all_goals (try simp only [List.push_toArray] at N9)
    all_goals unfold Stop
    · have hi := hf
      rw [enc_q hq] at hi
      refine KBa.make_K F9 N9 rfl (News.isList N9 (.head _)) hi (enc_in _) ?_ ?_
      · rw [← hi.length]; omega
      · intro h2 t2 k2 F2 N2 hin
        k_steps
        refine hret _ [] _ _ (by assumption) (cb_drop (by assumption) fun p hp => .tail _ hp) ⟨_, _, rfl, rfl, ?_⟩
        rw [KBa.ints_make hin, hpre]
    · have hl : (enc (q ++ [a1])).length ≤ 16777216 := by
        rw [← enc_q1 hq ha]; have := hf.length; simp only [List.length_append, List.length_cons, List.length_nil] at *; omega
      refine KBa.make_K F9 N9 rfl (News.isList N9 (.head _)) (ns := enc (q ++ [a1])) (by rw [← enc_q1 hq ha]; exact ((hf.append (.cons _ _ .nil)).append (.cons _ _ .nil)).append (.cons _ _ .nil)) (enc_in _) hl ?_
      · intro h2 t2 k2 F2 N2 hin
        k_steps
        refine hret _ [] _ _ (by assumption) (cb_drop (by assumption) fun p hp => .tail _ hp) ⟨_, _, rfl, rfl, ?_⟩
        rw [KBa.ints_make hin, hpre]
    · have hl : (enc (q ++ [a1, b1])).length ≤ 16777216 := by
        rw [← enc_q2 hq ha]; have := hf.length; simp only [List.length_append, List.length_cons, List.length_nil] at *; omega
      refine KBa.make_K F9 N9 rfl (News.isList N9 (.head _)) (ns := enc (q ++ [a1, b1])) (by rw [← enc_q2 hq ha]; exact (hf.append (.cons _ _ .nil)).append (.cons _ _ .nil)) (enc_in _) hl ?_
      · intro h2 t2 k2 F2 N2 hin
        k_steps
        refine hret _ [] _ _ (by assumption) (cb_drop (by assumption) fun p hp => .tail _ hp) ⟨_, _, rfl, rfl, ?_⟩
        rw [KBa.ints_make hin, hpre]
end Mine
end

section
open PySem PySem.W PyProof.Rows
set_option Elab.async false
namespace Mine
section
local macro_rules | `(tactic| k_room) => `(tactic| ktr_room)
local macro_rules | `(tactic| walk_at "call ref") => `(tactic| ((with_reducible show wpAny _ _ (call (Value.ref 43) _ _) _ _ _); k_dflt (refine' Ctr.use ?k1 ?k2 ?k3 ?k4 ?k5 ?kK ?kd ?ku (b2a_c _ _ ?kz) ?_; (case k1 => k_asm); (case k2 => k_asm); (case k3 => k_asm); (case k4 => k_asm); (case k5 => k_asm); (case kK => first | exact rfl | assumption); (case kd => ktr_room); (case ku => ktr_units)); (case kz => assumption); intro v9 tl9 h9 tk9 F9 N9 hR9; obtain ⟨c9, u9, e1, e2, hc9⟩ := hR9; subst e1; subst e2; (simp only [List.nil_append] at N9); (try dsimp only); (try k_fold)))
set_option maxRecDepth 100000 in
set_option maxHeartbeats 8000000 in
theorem b64_c {w mean mg mb news} (b : Array UInt8) (t : Tok) (hlen : b.size < 1000000) : Ctr w mean mg mb 6 51 news [.bytes b t] [] (fun v tl => ∃ c u, v = .bytes c u ∧ tl = [] ∧ KBw.bInts c = enc (KBw.bInts b)) := by
  unfold Ctr; k_fill
  w_top off; intro dp un gd cn cs a ccd cl outer A₀ base h₀ L m s Q E B F X N T hk hdp hun hret
  (refine wpAny_call ?_; k_dflt (refine' code_def (binds := [(Str.ofString "s", .bytes b t), (Str.ofString "altchars", .none)]) ?k1 ?k2 ?k3 ?k4 ?k5 ?kA ?kF ?kK ?k6 ?k7 ?k8 ?k9 ?kB ?_ ?c2 ?c3 ?c4 ?c5; (case kA => exact rfl); (case kF => exact rfl); (case kK => first | exact rfl | assumption); (case k1 => k_asm); (case k2 => k_asm); (case k3 => k_asm); (case k4 => k_asm); (case k5 => k_asm); (case k6 => k_is); (case k7 => k_is); (case k8 => ktr_room); (case k9 => first | exact BindsTo.of_eq rfl | exact binds_K (by k_in) rfl (by k_is) rfl rfl rfl); (case c5 => decide); (case kB => exact locs rfl); (case c2 => exact rfl); (case c3 => exact rfl); (case c4 => exact rfl); k_whole; intro g' L' h' FG' F' N' B' X' T'; (try dsimp only); (try k_lift B'); (try k_fold)))
  k_steps
  exact hret _ [] _ _ (by assumption) (by assumption) ⟨_, _, rfl, rfl, by assumption⟩
end
end Mine
end

section
open PySem PySem.W PyProof.Rows
set_option Elab.async false
namespace Mine
section
local macro_rules | `(tactic| k_room) => `(tactic| ktr_room)
local macro_rules | `(tactic| k_all) => `(tactic| exact all_lt_ne (by assumption) (by (try dsimp only); omega))
local macro_rules | `(tactic| k_all) => `(tactic| (refine all_app ?ka ?kb; (case ka => k_all); (case kb => k_all)))
local macro_rules | `(tactic| size_fits) => `(tactic| ((try simp only [List.size_toArray, Array.size_push, PySem.sizeLine_eq]); omega))
local macro_rules | `(tactic| walk_at "call type:type") => `(tactic| ((with_reducible show wpAny _ _ (call (Value.type "type") [Value.bytes _ _]) _ _ _); refine call_type_of (typeIs_bytes _ _ _) (by decide) ?_))
local macro_rules | `(tactic| walk_at "call ref") => `(tactic| ((with_reducible show wpAny _ _ (call (Value.ref 43) _ _) _ _ _); k_dflt (refine' Ctr.use ?k1 ?k2 ?k3 ?k4 ?k5 ?kK ?kd ?ku (b2a_c _ _ ?kz) ?_; (case k1 => k_asm); (case k2 => k_asm); (case k3 => k_asm); (case k4 => k_asm); (case k5 => k_asm); (case kK => first | exact rfl | assumption); (case kd => ktr_room); (case ku => ktr_units)); (case kz => assumption); intro v9 tl9 h9 tk9 F9 N9 hR9; obtain ⟨c9, u9, e1, e2, hc9⟩ := hR9; subst e1; subst e2; (simp only [List.nil_append] at N9); (try dsimp only); (try k_fold)))
local macro_rules | `(tactic| walk_at "getMethod") => `(tactic| ((with_reducible show wpAny _ _ (getMethod (Value.bytes _ _) (PySem.Str.ofString "translate") _) _ _ _); refine method_translate ?_))
local macro_rules | `(tactic| walk_at "getMethod") => `(tactic| ((with_reducible show wpAny _ _ (getMethod (Value.type "bytes") (PySem.Str.ofString "maketrans") _) _ _ _); k_here; refine' method_type ?F ?X ?m (by decide +kernel) ?e ?h ?_; (case F => k_asm); (case X => k_asm); (case m => exact BT.type_type); (case e => k_dflt k_is); (case h => k_handed)))
local macro_rules | `(tactic| walk_at "call builtin:bytes.maketrans") => `(tactic| (refine maketrans ?_; intro t9 k9))
local macro_rules | `(tactic| walk_at "call builtin:bytes.translate") => `(tactic| (refine translate (by assumption) ?kl (trans_size _ _) (trans_alt _ _) ?_; (case kl => assumption); intro d9 t9 k9 hd9))
set_option maxRecDepth 100000 in
set_option maxHeartbeats 1000000 in
theorem b64_ca {w mean mg mb news} (b : Array UInt8) (t : Tok) (k : Array UInt8) (tk : Tok) {m1 m2 : Int} {ks : List Int} (hb : KBw.bInts b = ks) (hlen : ks.length < 100000) (hk2 : KBw.bInts k = [m1, m2]) : Ctr w mean mg mb 6 51 news [.bytes b t, .bytes k tk] [] (fun v tl => ∃ c u, v = .bytes c u ∧ tl = [] ∧ KBw.bInts c = (enc ks).map (alt m1 m2)) := by
  obtain ⟨k0, k1, rfl, rfl, rfl⟩ := two_of hk2
  subst hb
  clear hk2
  have hel : (enc (KBw.bInts b)).length ≤ 16777216 := by rw [enc_length]; omega
  rw [KBw.ints_length] at hlen
  have hlen' : b.size < 1000000 := by omega
  unfold Ctr; k_fill
  w_top off; intro dp un gd cn cs a ccd cl outer A₀ base h₀ L m s Q E B F X N T hk hdp hun hret
  (refine wpAny_call ?_; k_dflt (refine' code_def (binds := [(Str.ofString "s", .bytes b t), (Str.ofString "altchars", .bytes #[k0, k1] tk)]) ?k1 ?k2 ?k3 ?k4 ?k5 ?kA ?kF ?kK ?k6 ?k7 ?k8 ?k9 ?kB ?_ ?c2 ?c3 ?c4 ?c5; (case kA => exact rfl); (case kF => exact rfl); (case kK => first | exact rfl | assumption); (case k1 => k_asm); (case k2 => k_asm); (case k3 => k_asm); (case k4 => k_asm); (case k5 => k_asm); (case k6 => k_is); (case k7 => k_is); (case k8 => ktr_room); (case k9 => first | exact BindsTo.of_eq rfl | exact binds_K (by k_in) rfl (by k_is) rfl rfl rfl); (case c5 => decide); (case kB => exact locs rfl); (case c2 => exact rfl); (case c3 => exact rfl); (case c4 => exact rfl); k_whole; intro g' L' h' FG' F' N' B' X' T'; (try dsimp only); (try k_lift B'); (try k_fold)))
  k_steps
  · exact hret _ [] _ _ (by assumption) (by assumption) ⟨_, _, rfl, rfl, by assumption⟩
  · exact absurd rfl (by assumption)
end
end Mine
end

section
open PySem PySem.W PyProof.Rows
set_option Elab.async false
namespace Mine
/-- letters, figures, = -/
def knownA : Array UInt8 := #[65, 66, 67, 68, 69, 70, 71, 72, 73, 74, 75, 76, 77, 78, 79, 80, 81, 82, 83, 84, 85, 86, 87, 88, 89, 90, 97, 98, 99, 100, 101, 102, 103, 104, 105, 106, 107, 108, 109, 110, 111, 112, 113, 114, 115, 116, 117, 118, 119, 120, 121, 122, 48, 49, 50, 51, 52, 53, 54, 55, 56, 57, 61]
def oth (i : Nat) : List Int := (rangeKs 0 i).filter (fun k => !knownA.contains k.toNat.toUInt8)
theorem range_snoc (i : Nat) : rangeKs 0 (i + 1) = rangeKs 0 i ++ [0 + (i : Int)] := by simp [rangeKs, List.range_succ]
theorem oth_t {i : Nat} (h : knownA.contains (0 + (i : Int)).toNat.toUInt8 = true) : oth (i + 1) = oth i := by
  unfold oth
  rw [range_snoc, List.filter_append, List.filter_cons_of_neg (by rw [h]; decide)]; simp
theorem oth_f {i : Nat} (h : knownA.contains (0 + (i : Int)).toNat.toUInt8 = false) : oth (i + 1) = oth i ++ [0 + (i : Int)] := by
  unfold oth
  rw [range_snoc, List.filter_append, List.filter_cons_of_pos (by rw [h]; rfl)]; simp
theorem oth_len : (oth 256).length = 193 := by decide +kernel
theorem oth_all : ∀ k ∈ oth 256, (0 ≤ k ∧ k < 256) ∧ k ∉ knownL := by decide +kernel
theorem oth_nodup : ∀ i : Nat, i < 193 → ∀ j : Nat, j < 193 → i ≠ j → (oth 256).getD i 0 ≠ (oth 256).getD j 0 := by
  have h : (oth 256).Nodup := by decide +kernel
  intro i hi j hj hij e
  rw [List.getD_eq_getElem?_getD, List.getD_eq_getElem?_getD, List.getElem?_eq_getElem (by rw [oth_len]; exact hi), List.getElem?_eq_getElem (by rw [oth_len]; exact hj)] at e
  exact hij ((List.getElem_inj h).mp e)
theorem oth_get {i : Nat} (h : i < 193) : (0 ≤ (oth 256).getD i 0 ∧ (oth 256).getD i 0 < 256) ∧ (oth 256).getD i 0 ∉ knownL := by
  rw [List.getD_eq_getElem?_getD, List.getElem?_eq_getElem (by rw [oth_len]; exact h)]
  exact oth_all _ (List.getElem_mem _)
theorem ix1 (n : Int) : 0 ≤ n.fmod 193 ∧ n.fmod 193 < 193 := by rw [Int.fmod_eq_emod_of_nonneg _ (by decide)]; omega
theorem marks_ok (n : Int) : Marks ((oth 256).getD (n.fmod 193).toNat 0) ((oth 256).getD ((n.fmod 193 + 1 + (n.fdiv 193).fmod 192).fmod 193).toNat 0) := by
  have h1 := ix1 n
  have h2 := ix1 (n.fmod 193 + 1 + (n.fdiv 193).fmod 192)
  have g1 := oth_get (i := (n.fmod 193).toNat) (by omega)
  have g2 := oth_get (i := ((n.fmod 193 + 1 + (n.fdiv 193).fmod 192).fmod 193).toNat) (by omega)
  refine ⟨g1.1, g2.1, oth_nodup _ (by omega) _ (by omega) ?_, g1.2, g2.2⟩
  have h3 : 0 ≤ (n.fdiv 193).fmod 192 ∧ (n.fdiv 193).fmod 192 < 192 := by rw [Int.fmod_eq_emod_of_nonneg _ (by decide)]; omega
  rw [Int.fmod_eq_emod_of_nonneg (n.fmod 193 + 1 + (n.fdiv 193).fmod 192) (by decide)]
  omega
section
local macro_rules | `(tactic| k_room) => `(tactic| ktr_room)
local macro_rules | `(tactic| k_all) => `(tactic| exact all_lt_ne (by assumption) (by (try dsimp only); omega))
local macro_rules | `(tactic| k_all) => `(tactic| (refine all_app ?ka ?kb; (case ka => k_all); (case kb => k_all)))
local macro_rules | `(tactic| size_fits) => `(tactic| ((try simp only [List.size_toArray, Array.size_push, PySem.sizeLine_eq]); omega))
local macro_rules | `(tactic| walk_at "call type:type") => `(tactic| ((with_reducible show wpAny _ _ (call (Value.type "type") [Value.bytes _ _]) _ _ _); refine call_type_of (typeIs_bytes _ _ _) (by decide) ?_))
local macro_rules | `(tactic| walk_at "compareOp NotIn int bytes") => `(tactic| (refine notIn_int (by omega) (by omega) ?_))
local macro_rules | `(tactic| walk_at "CompSrcT") => `(tactic| refine Stop.go ?_)
local macro_rules | `(tactic| walk_at "call type:bytes") => `(tactic| refine Stop.go ?_)
local macro_rules | `(tactic| walk_at "subscriptTail") => `(tactic| ((with_reducible show wpAny _ _ (subscriptTail _ _ (Value.ref _) (Value.int (Int.fmod _ 193) _)) _ _ _); (with_reducible rename News _ _ _ _ => N9); k_dflt (refine' list_int (ns := oth 256) (News.isList N9 (by k_mem)) ?k0 ?k1 ?k2 ?k3 ?_ ?k5; (case k0 => assumption); (case k1 => exact (ix1 _).1); (case k2 => (rw [oth_len]; exact (ix1 _).2)); (case k3 => (rw [oth_len]; decide)); (case k5 => with_unfolding_all rfl); k_whole; intro t9)))
set_option maxRecDepth 100000 in
set_option maxHeartbeats 1000000 in
theorem marks_c {w mean mg mb news} (n : Int) (t : Tok) : Ctr w mean mg mb 6 56 news [.int n t] [] (fun v tl => ∃ c u m1 m2, v = .bytes c u ∧ tl = [] ∧ KBw.bInts c = [m1, m2] ∧ Marks m1 m2) := by
  unfold Ctr; k_fill
  w_top off; intro dp un gd cn cs a ccd cl outer A₀ base h₀ L m s Q E B F X N T hk hdp hun hret
  (refine wpAny_call ?_; k_dflt (refine' code_defC (binds := [(Str.ofString "n", .int n t)]) ?k1 ?k2 ?k3 ?k4 ?k5 ?kA ?kF ?kK ?k6 ?k7 ?k8 ?k9 ?kB ?kD ?_ ?c2 ?c3 ?c4; (case kA => exact rfl); (case kF => exact rfl); (case kK => first | exact rfl | assumption); (case k1 => k_asm); (case k2 => k_asm); (case k3 => k_asm); (case k4 => k_asm); (case k5 => k_asm); (case k6 => k_is); (case k7 => k_is); (case k8 => ktr_room); (case k9 => first | exact BindsTo.of_eq rfl | exact binds_K (by k_in) rfl (by k_is) rfl rfl rfl); (case kB => exact rfl); (case kD => decide +kernel); (case c2 => exact rfl); (case c3 => exact rfl); (case c4 => exact rfl); k_whole; intro g' L' h' tk' cells' FG' F' N' Y' B' X' T' l1; k_cells Y'; (try simp only [List.cons_append, List.nil_append] at N'); (try dsimp only); (try k_lift B'); (try k_fold)))
  k_steps
  unfold Stop
  (with_reducible rename Fr _ _ _ _ => F2)
  (with_reducible rename News _ _ _ _ => N2)
  refine PyProof.Rows.LCt.CompSrcT.range (n := 256) rfl F2 N2 (by assumption) (by decide) (by decide) (by decide) (fun g => compRestT_ind (Ji _ oth) 256 ?_ ?_ 256 0 rfl [] _ ⟨rfl, IntsAre.nil⟩)
  · clear F2 N2
    intro i ys nw hi hJ v I oI C oC D m₂ h tk E' hP hN hx F2 N2 off ne
    obtain ⟨rfl, hB⟩ := hJ
    obtain ⟨tv, rfl⟩ := hP
    k_steps
    · refine PyProof.Rows.LCg.CompEnd.intro F2 N2 _ (fun p hp => hp) off trivial ⟨rfl, ?_⟩
      rw [oth_t (by assumption)]
      exact hB
    · refine PyProof.Rows.LCg.CompEnd.intro F2 N2 _ (fun p hp => hp) off trivial ⟨rfl, ?_⟩
      rw [oth_f (by assumption)]
      exact hB.append (.cons _ _ .nil)
  · clear F2 N2
    intro ys nw hJ
    obtain ⟨rfl, hB1⟩ := hJ
    unfold PyProof.Rows.LCg.FinA
    intro D1 h1 tk1 F2 N2 o1
    dsimp only [PyProof.Rows.LCg.Off1] at o1
    k_steps
    unfold Stop
    (with_reducible rename Fr _ _ _ _ => F3)
    (with_reducible rename News _ _ _ _ => N3)
    have hm := marks_ok n
    refine KBa.make_K F3 N3 rfl (News.isList N3 (.head _)) (.cons _ _ (.cons _ _ .nil)) ?_ (by simp) ?_
    · intro k hk
      simp only [List.mem_cons, List.not_mem_nil, or_false] at hk
      rcases hk with rfl | rfl
      · exact hm.r1
      · exact hm.r2
    · intro h2 t2 k2 F2 N2 hin
      k_steps
      exact hret _ [] _ _ (by assumption) (cb_drop (by assumption) fun p hp => .tail _ (.tail _ (.tail _ hp))) ⟨_, _, _, _, rfl, rfl, KBa.ints_make hin, hm⟩
end
end Mine
end

section
open PySem PySem.W PyProof.Rows
set_option Elab.async false
namespace Mine
section
local macro_rules | `(tactic| k_room) => `(tactic| ktr_room)
local macro_rules | `(tactic| k_all) => `(tactic| exact all_lt_ne (by assumption) (by (try dsimp only); omega))
local macro_rules | `(tactic| k_all) => `(tactic| (refine all_app ?ka ?kb; (case ka => k_all); (case kb => k_all)))
local macro_rules | `(tactic| size_fits) => `(tactic| ((try simp only [List.size_toArray, Array.size_push, PySem.sizeLine_eq]); omega))
local macro_rules | `(tactic| walk_at "call type:type") => `(tactic| ((with_reducible show wpAny _ _ (call (Value.type "type") [Value.bytes _ _]) _ _ _); refine call_type_of (typeIs_bytes _ _ _) (by decide) ?_))
local macro_rules | `(tactic| walk_at "exec Assign cons DictComp") => `(tactic| (with_reducible refine wpAny_Assign_Name ?_ ?_; rotate_left; with_unfolding_all rfl))
local macro_rules | `(tactic| walk_at "eval DictComp") => `(tactic| refine Stop.go ?_)
local macro_rules | `(tactic| walk_at "call type:bytes") => `(tactic| refine Stop.go ?_)
local macro_rules | `(tactic| walk_at "exec Assign cons ListComp") => `(tactic| refine Stop.go ?_)
local macro_rules | `(tactic| walk_at "Exists") => `(tactic| refine Stop.go ?_)
local macro_rules | `(tactic| walk_at "call ref") => `(tactic| ((with_reducible show wpAny _ _ (call (Value.ref 51) _ _) _ _ _); k_dflt (refine' Ctr.use ?k1 ?k2 ?k3 ?k4 ?k5 ?kK ?kd ?ku (b64_ca _ _ _ _ ?kz ?ky ?kx) ?_; (case k1 => k_asm); (case k2 => k_asm); (case k3 => k_asm); (case k4 => k_asm); (case k5 => k_asm); (case kK => first | exact rfl | assumption); (case kd => ktr_room); (case ku => ktr_units)); (case kz => assumption); (case ky => omega); (case kx => assumption); intro v9 tl9 h9 tk9 F9 N9 hR9; obtain ⟨c9, u9, e1, e2, hc9⟩ := hR9; subst e1; subst e2; (simp only [List.nil_append] at N9); (try dsimp only); (try k_fold)))
local macro_rules | `(tactic| walk_at "call builtin:len") => `(tactic| ((with_reducible show wpAny _ _ (call (Value.builtin "len") [Value.ref _]) _ _ _); refine Stop.go ?_))
local macro_rules | `(tactic| walk_at "getMethod ref") => `(tactic| ((with_reducible rename News _ _ _ _ => N9); (with_reducible rename IsTab _ _ _ _ => T9); (refine tab_meth (N9.get (by k_mem)) (by assumption) T9 ?_)))
set_option maxRecDepth 100000 in
set_option maxHeartbeats 1000000 in
theorem places_c {w mean mg mb news} (r : Addr) (vs : List Value) (n : Nat) (ks : List Int) (k : Array UInt8) (tk : Tok) {m1 m2 : Int} (hr : (r, listOf vs.toArray n) ∈ news) (hi : IntsAre vs ks) (hin : KBa.In ks) (hl : ks.length < 1000) (hk2 : KBw.bInts k = [m1, m2]) (hm : Marks m1 m2) :
    Ctr w mean mg mb 9 68 news [.ref r, .bytes k tk] [] (fun v tl => ∃ l ys, v = .ref l ∧ tl = [(l, LCg.lst ys)] ∧ IntsAre ys (sx ks) ∧ ∀ p ∈ news, p.1 ≠ l) := by
  unfold Ctr; k_fill
  w_top off; intro dp un gd cn cs a ccd cl outer A₀ base h₀ L m s Q E B F X N T hk hdp hun hret
  (refine wpAny_call ?_; k_dflt (refine' code_defC (binds := [(Str.ofString "row", .ref r), (Str.ofString "marks", .bytes k tk)]) ?k1 ?k2 ?k3 ?k4 ?k5 ?kA ?kF ?kK ?k6 ?k7 ?k8 ?k9 ?kB ?kD ?_ ?c2 ?c3 ?c4; (case kA => exact rfl); (case kF => exact rfl); (case kK => first | exact rfl | assumption); (case k1 => k_asm); (case k2 => k_asm); (case k3 => k_asm); (case k4 => k_asm); (case k5 => k_asm); (case k6 => k_is); (case k7 => k_is); (case k8 => ktr_room); (case k9 => first | exact BindsTo.of_eq rfl | exact binds_K (by k_in) rfl (by k_is) rfl rfl rfl); (case kB => exact rfl); (case kD => decide +kernel); (case c2 => exact rfl); (case c3 => exact rfl); (case c4 => exact rfl); k_whole; intro g' L' h' tk' cells' FG' F' N' Y' B' X' T' l1; k_cells Y'; (try simp only [List.cons_append, List.nil_append] at N'); (try dsimp only); (try k_lift B'); (try k_fold)))
  k_steps
  unfold Stop
  rename KBw.bInts (_ ++ k) = _ => hal
  have hal' := hal.trans (show _ = alph m1 m2 from rfl)
  (with_reducible rename Fr _ _ _ _ => F1)
  k_dflt (refine' dict64 (by assumption) F1 hal' (alph_len _ _) (alph_nodup hm) ?q1 ?q2 ?q3 ?q4 ?q5 ?q6 ?q7 ?q8 ?q9 ?q10 ?q11 ?q12 ?q13 ?q14 ?q15)
  case q1 => rfl
  case q2 => exact Top.nolimit (by assumption)
  case q3 => rfl
  case q4 => decide
  case q5 => rfl
  case q6 => decide
  case q7 => rfl
  case q8 => intro _; rfl
  case q9 => intro _; rfl
  case q10 => rfl
  case q11 => decide
  case q12 => decide
  case q13 => intro _ _ _; with_unfolding_all rfl
  case q14 => intro _ _; with_unfolding_all rfl
  k_steps
  all_goals (try unfold Stop)
  (with_reducible rename Fr _ _ _ _ => F2)
  (with_reducible rename News _ _ _ _ => N2)
  refine ⟨_, _, _, _, _, rfl, F2, N2, by assumption, by k_mem, ?_⟩
  clear F2 N2
  intro D1 h1 tk1 od F2 N2 hne hds hT
  have n1 : @Ne Nat (L' + 1 + 1) D1 := hne _ (.head _)
  have n2 : @Ne Nat (L' + 1) D1 := hne _ (.tail _ (.head _))
  have n3 : ∀ p ∈ news, p.1 ≠ D1 := fun p hp => hne p (.tail _ (.tail _ hp))
  clear hne
  k_steps
  unfold Stop
  (with_reducible rename Fr _ _ _ _ => F3)
  (with_reducible rename News _ _ _ _ => N3)
  refine KBa.make_K F3 N3 rfl (News.isList N3 (.tail _ (.tail _ (.tail _ hr)))) hi hin (by omega) ?_
  clear F3 N3
  intro h2 t2 k2 F2 N2 hin2
  have hb2 := KBa.ints_make hin
  k_steps
  unfold Stop
  (with_reducible rename News _ _ _ _ => N3)
  refine len_ints (News.isList N3 (.tail _ (.tail _ (.tail _ hr)))) hi (by omega) ?_
  intro t3 k3
  have hel : ((enc ks).map (alt m1 m2)).length ≤ 2000 := by rw [List.length_map, enc_length]; omega
  k_steps
  unfold Stop
  (with_reducible rename Fr _ _ _ _ => F3)
  refine assign_comp_bytes F3 rfl rfl rfl (by decide) rfl (by decide) rfl rfl rfl rfl ?_
  k_steps
  unfold Stop
  (with_reducible rename Fr _ _ _ _ => F3)
  (with_reducible rename News _ _ _ _ => N3)
  (with_reducible rename KBw.bInts (KBy.picked _ _ _) = _ => hpk)
  rw [pick_count] at hpk
  have hps := bInts_size hpk
  rw [List.length_map, List.length_map] at hps
  have hsl := sx_length ks
  refine ⟨_, _, _, rfl, F3, N3, by rw [hps, sizeLine_eq]; omega, ?_⟩
  rintro s₂ ⟨g₂, rfl⟩
  refine compRest_ind (Ji _ (fun i => (sx ks).take i)) _ ?_ ?_ _ 0 (Nat.zero_add _) [] _ ⟨rfl, IntsAre.nil⟩
  · clear F3 N3
    intro i ys nw hi hJ v I oI C oC D m₂ h tk E' hP hN hx F2 N2 off ne
    obtain ⟨rfl, hB⟩ := hJ
    obtain ⟨c, u, hcu, rfl⟩ := hP
    rw [hps] at hi
    have hsg := sign_at hin hi hpk hcu
    k_steps
    (with_reducible rename News _ _ _ _ => N9)
    refine tab_get (N9.get (by k_mem)) hds (by assumption) (PyProof.V.Flat.int _ _) (alph_nodup hm) _ hsg.1 (hsg.2 _) ?_
    intro t9
    refine PyProof.Rows.LCg.CompEnd.intro F2 N9 _ (fun p hp => hp) off trivial ⟨rfl, ?_⟩
    show IntsAre _ ((sx ks).take (i + 1))
    rw [sx_take_succ hi hin]
    exact hB.append (.cons _ _ .nil)
  · clear F3 N3
    intro ys nw hJ
    obtain ⟨rfl, hB1⟩ := hJ
    have hB2 : IntsAre ys (sx ks) := by
      have hB1' : IntsAre ys ((sx ks).take _) := hB1
      rw [hps, List.take_length] at hB1'
      exact hB1'
    clear hB1
    unfold PyProof.Rows.LCg.FinA
    intro D2 h3 tk3 F2 N2 o1
    k_steps
    (with_reducible rename KBw.bInts (KBy.picked _ (some _) none) = _ => hpr)
    rw [pick_rest] at hpr
    have hpc := pad_cnt ks.length
    have hpl := pad_le ks.length
    refine mul61 (by omega) (by omega) ?_
    intro c4 t4 k4 hc4
    rw [hpc, Int.toNat_natCast] at hc4
    dsimp only
    refine neF hpr hc4 rfl ?_
    k_steps
    · rename (List.any _ _) = true => hb
      rw [no_neg hin] at hb
      cases hb
    · exact hret _ [_] _ _ (by assumption) (cb_drop (by assumption) fun p hp => by rcases List.mem_cons.mp hp with rfl | hp; exact .head _; exact .tail _ (.tail _ (.tail _ (.tail _ hp)))) ⟨_, _, rfl, rfl, hB2, fun p hp => off1_mem o1 p (.tail _ (.tail _ (.tail _ hp)))⟩
end
end Mine
end

section
open PySem PySem.W PyProof.Rows
set_option Elab.async false
namespace Mine
def octv (x : Int) : Int := if x.fmod 3 < 2 then 97 + x.fmod 3 else (x.fdiv 3).fmod 256
theorem octv_in (x : Int) : 0 ≤ octv x ∧ octv x < 256 := by
  unfold octv
  rw [Int.fmod_eq_emod_of_nonneg _ (by decide), Int.fmod_eq_emod_of_nonneg _ (by decide)]
  split <;> omega
section
local macro_rules | `(tactic| k_room) => `(tactic| ktr_room)
local macro_rules | `(tactic| k_all) => `(tactic| exact all_lt_ne (by assumption) (by (try dsimp only); omega))
local macro_rules | `(tactic| k_all) => `(tactic| (refine all_app ?ka ?kb; (case ka => k_all); (case kb => k_all)))
local macro_rules | `(tactic| size_fits) => `(tactic| ((try simp only [List.size_toArray, Array.size_push, PySem.sizeLine_eq]); omega))
local macro_rules | `(tactic| walk_at "call type:type") => `(tactic| ((with_reducible show wpAny _ _ (call (Value.type "type") [Value.bytes _ _]) _ _ _); refine call_type_of (typeIs_bytes _ _ _) (by decide) ?_))
set_option maxRecDepth 100000 in
set_option maxHeartbeats 1000000 in
theorem octet_c {w mean mg mb news} (x : Int) (t : Tok) : Ctr w mean mg mb 3 63 news [.int x t] [] (fun v tl => ∃ u, v = .int (octv x) u ∧ tl = []) := by
  unfold Ctr; k_fill
  w_top off; intro dp un gd cn cs a ccd cl outer A₀ base h₀ L m s Q E B F X N T hk hdp hun hret
  (refine wpAny_call ?_; k_dflt (refine' code_def (binds := [(Str.ofString "x", .int x t)]) ?k1 ?k2 ?k3 ?k4 ?k5 ?kA ?kF ?kK ?k6 ?k7 ?k8 ?k9 ?kB ?_ ?c2 ?c3 ?c4 ?c5; (case kA => exact rfl); (case kF => exact rfl); (case kK => first | exact rfl | assumption); (case k1 => k_asm); (case k2 => k_asm); (case k3 => k_asm); (case k4 => k_asm); (case k5 => k_asm); (case k6 => k_is); (case k7 => k_is); (case k8 => ktr_room); (case k9 => first | exact BindsTo.of_eq rfl | exact binds_K (by k_in) rfl (by k_is) rfl rfl rfl); (case c5 => decide); (case kB => exact locs rfl); (case c2 => exact rfl); (case c3 => exact rfl); (case c4 => exact rfl); k_whole; intro g' L' h' FG' F' N' B' X' T'; (try dsimp only); (try k_lift B'); (try k_fold)))
  k_steps
  · exact hret _ [] _ _ (by assumption) (by assumption) ⟨_, congrArg (fun z => Value.int z _) (if_pos (by assumption)).symm, rfl⟩
  · exact hret _ [] _ _ (by assumption) (by assumption) ⟨_, congrArg (fun z => Value.int z _) (if_neg (by assumption)).symm, rfl⟩
set_option maxRecDepth 100000 in
set_option maxHeartbeats 1000000 in
theorem bits_c {w mean mg mb news} (pl ab be : Int) (t u v : Tok) (ha : 0 ≤ ab) (ha' : ab ≤ 6) (hb : 0 ≤ be) (hb' : be ≤ 6) : Ctr w mean mg mb 3 82 news [.int pl t, .int ab u, .int be v] [] (fun v tl => ∃ u, v = .int ((pl.fmod (2 ^ (6 - ab).toNat)).fdiv (2 ^ be.toNat)) u ∧ tl = []) := by
  unfold Ctr; k_fill
  w_top off; intro dp un gd cn cs a ccd cl outer A₀ base h₀ L m s Q E B F X N T hk hdp hun hret
  (refine wpAny_call ?_; k_dflt (refine' code_def (binds := [(Str.ofString "place", .int pl t), (Str.ofString "above", .int ab u), (Str.ofString "below", .int be v)]) ?k1 ?k2 ?k3 ?k4 ?k5 ?kA ?kF ?kK ?k6 ?k7 ?k8 ?k9 ?kB ?_ ?c2 ?c3 ?c4 ?c5; (case kA => exact rfl); (case kF => exact rfl); (case kK => first | exact rfl | assumption); (case k1 => k_asm); (case k2 => k_asm); (case k3 => k_asm); (case k4 => k_asm); (case k5 => k_asm); (case k6 => k_is); (case k7 => k_is); (case k8 => ktr_room); (case k9 => first | exact BindsTo.of_eq rfl | exact binds_K (by k_in) rfl (by k_is) rfl rfl rfl); (case c5 => decide); (case kB => exact locs rfl); (case c2 => exact rfl); (case c3 => exact rfl); (case c4 => exact rfl); k_whole; intro g' L' h' FG' F' N' B' X' T'; (try dsimp only); (try k_lift B'); (try k_fold)))
  k_steps
  refine hret _ [] _ _ (by assumption) (by assumption) ⟨_, rfl, rfl⟩
end
end Mine
end

section
open PySem PySem.W PyProof.Rows
set_option Elab.async false
namespace Mine
def numB (bs : Int) (ks : List Int) : Int := ks.foldl (fun n k => n * bs + k) 0
theorem numB_snoc (bs : Int) (ks : List Int) (k : Int) : numB bs (ks ++ [k]) = numB bs ks * bs + k := by simp [numB]
structure StN where
  v : Int
  t : Tok
section
local macro_rules | `(tactic| k_room) => `(tactic| ktr_room)
local macro_rules | `(tactic| k_all) => `(tactic| exact all_lt_ne (by assumption) (by (try dsimp only); omega))
local macro_rules | `(tactic| k_all) => `(tactic| (refine all_app ?ka ?kb; (case ka => k_all); (case kb => k_all)))
local macro_rules | `(tactic| size_fits) => `(tactic| ((try simp only [List.size_toArray, Array.size_push, PySem.sizeLine_eq]); omega))
local macro_rules | `(tactic| walk_at "call type:type") => `(tactic| ((with_reducible show wpAny _ _ (call (Value.type "type") [Value.bytes _ _]) _ _ _); refine call_type_of (typeIs_bytes _ _ _) (by decide) ?_))
local macro_rules | `(tactic| walk_at "exec For Name Call cons nil") => `(tactic| (k_here; (rename Fr _ _ _ _ => lF'); (with_unfolding_all refine' For_invVF lF' ?k1 ?k2 ?_; (case k1 => exact rfl); (case k2 => exact rfl); k_whole)))
local macro_rules | `(tactic| walk_at "exec For Name Name cons nil") => `(tactic| (k_here; (rename Fr _ _ _ _ => lF'); (with_unfolding_all refine' For_invVF lF' ?k1 ?k2 ?_; (case k1 => exact rfl); (case k2 => exact rfl); k_whole)))
local macro_rules | `(tactic| walk_at "pyIter ref") => `(tactic| ((with_reducible show wpAny _ _ (pyIter _) (fun it s₂ => LoopAtV _ _ _ _ _ _ _ _ _ it s₂) _ _); refine Stop.go ?_))
local macro_rules | `(tactic| walk_at "binaryOp Mult int int") => `(tactic| (refine mul_small (by assumption) (by assumption) ?_))
set_option maxRecDepth 100000 in
set_option maxHeartbeats 1000000 in
theorem number_c {w mean mg mb news} (r : Addr) (vs : List Value) (nn : Nat) (ks : List Int) (bs : Int) (tb : Tok) (hr : (r, listOf vs.toArray nn) ∈ news) (hi : IntsAre vs ks) (hb0 : 0 ≤ bs) (hb1 : bs ≤ 1000000) :
    Ctr w mean mg mb 3 75 news [.ref r, .int bs tb] [] (fun v tl => ∃ u, v = .int (numB bs ks) u ∧ tl = []) := by
  unfold Ctr; k_fill
  w_top off; intro dp un gd cn cs a ccd cl outer A₀ base h₀ L m s Q E B F X N T hk hdp hun hret
  (refine wpAny_call ?_; k_dflt (refine' code_def (binds := [(Str.ofString "figures", .ref r), (Str.ofString "base", .int bs tb)]) ?k1 ?k2 ?k3 ?k4 ?k5 ?kA ?kF ?kK ?k6 ?k7 ?k8 ?k9 ?kB ?_ ?c2 ?c3 ?c4 ?c5; (case kA => exact rfl); (case kF => exact rfl); (case kK => first | exact rfl | assumption); (case k1 => k_asm); (case k2 => k_asm); (case k3 => k_asm); (case k4 => k_asm); (case k5 => k_asm); (case k6 => k_is); (case k7 => k_is); (case k8 => ktr_room); (case k9 => first | exact BindsTo.of_eq rfl | exact binds_K (by k_in) rfl (by k_is) rfl rfl rfl); (case c5 => decide); (case kB => exact locs rfl); (case c2 => exact rfl); (case c3 => exact rfl); (case c4 => exact rfl); k_whole; intro g' L' h' FG' F' N' B' X' T'; (try dsimp only); (try k_lift B'); (try k_fold)))
  k_steps
  unfold Stop
  (with_reducible rename Fr _ _ _ _ => F1)
  (with_reducible rename News _ _ _ _ => N1)
  with_unfolding_all refine' kst_listL (σ := StN) (fun _ => news) (fun c => [(Str.ofString "number", Value.int c.v c.t)]) (fun _ => True) [] (fun pre c => c.v = numB bs pre) ⟨0, _⟩ (by rfl) (fun _ => hr) hi F1 N1 trivial ?kk ?kp ?_ ?_
  case kk => kst_all
  case kp => rfl
  · clear F1 N1
    rintro ⟨v, tv⟩ pre post n tx u' h tk own he hm hoff hf hp F1 N1
    dsimp only at *
    k_steps
    (with_reducible rename News _ _ _ _ => N9)
    refine kst_end (⟨_, _⟩ : StN) (by assumption) N9 trivial (by kst_all) ?_ ?_ rfl
    · intro z h1 h2 _; have h3 := h2 _ (.head _); simp only at h3; simp [h1, h3, kstB]
    · show v * bs + n = _
      rw [numB_snoc, hp]
  · clear F1 N1
    rintro ⟨v, tv⟩ u' h tk hf hp F1 N1
    dsimp only at *
    subst hp
    k_steps
    exact hret _ [] _ _ (by assumption) (by assumption) ⟨_, rfl, rfl⟩
end
end Mine
end

section
open PySem PySem.W PyProof.Rows
set_option Elab.async false
namespace Mine
def bitsAt (a n i p : Int) : Int := (p.fmod (2 ^ (6 - if 8 * a - 6 * i > 0 then 8 * a - 6 * i else 0).toNat)).fdiv (2 ^ (if 6 * i + 6 - 8 * (a + n) > 0 then 6 * i + 6 - 8 * (a + n) else 0).toNat)
def StnAt (ps qs : List Int) (a n i : Int) : Prop := bitsAt a n i (ps.getD i.toNat 0) = bitsAt a n i (qs.getD i.toNat 0)
def Stn (ps qs : List Int) (a n : Int) : Prop := ∀ i, 8 * a / 6 ≤ i → i < (8 * (a + n) + 5) / 6 → StnAt ps qs a n i
section
local macro_rules | `(tactic| k_room) => `(tactic| ktr_room)
local macro_rules | `(tactic| k_all) => `(tactic| exact all_lt_ne (by assumption) (by (try dsimp only); omega))
local macro_rules | `(tactic| k_all) => `(tactic| (refine all_app ?ka ?kb; (case ka => k_all); (case kb => k_all)))
local macro_rules | `(tactic| size_fits) => `(tactic| ((try simp only [List.size_toArray, Array.size_push, PySem.sizeLine_eq]); omega))
local macro_rules | `(tactic| walk_at "call type:type") => `(tactic| ((with_reducible show wpAny _ _ (call (Value.type "type") [Value.bytes _ _]) _ _ _); refine call_type_of (typeIs_bytes _ _ _) (by decide) ?_))
local macro_rules | `(tactic| walk_at "exec For Name Call cons nil") => `(tactic| (k_here; (rename Fr _ _ _ _ => lF'); (with_unfolding_all refine' For_invVF lF' ?k1 ?k2 ?_; (case k1 => exact rfl); (case k2 => exact rfl); k_whole)))
local macro_rules | `(tactic| walk_at "exec For Name Name cons nil") => `(tactic| (k_here; (rename Fr _ _ _ _ => lF'); (with_unfolding_all refine' For_invVF lF' ?k1 ?k2 ?_; (case k1 => exact rfl); (case k2 => exact rfl); k_whole)))
local macro_rules | `(tactic| walk_at "pyIter ref") => `(tactic| ((with_reducible show wpAny _ _ (pyIter _) (fun it s₂ => LoopAtV _ _ _ _ _ _ _ _ _ it s₂) _ _); refine Stop.go ?_))
local macro_rules | `(tactic| walk_at "subscriptTail") => `(tactic| ((with_reducible show wpAny _ _ (subscriptTail _ _ (Value.ref _) (Value.int _ _)) _ _ _); (with_reducible rename News _ _ _ _ => N9); k_dflt (refine' list_int (News.isList N9 (List.Mem.tail _ (List.mem_append_left _ ?km))) ?k0 ?k1 ?k2 ?k3 ?_ ?k5; (case km => assumption); (case k0 => assumption); (case k1 => omega); (case k2 => omega); (case k3 => omega); (case k5 => with_unfolding_all rfl); k_whole; intro t9)))
local macro_rules | `(tactic| walk_at "call ref") => `(tactic| ((with_reducible show wpAny _ _ (call (Value.ref 82) _ _) _ _ _); k_dflt (refine' Ctr.use ?k1 ?k2 ?k3 ?k4 ?k5 ?kK ?kd ?ku (bits_c _ _ _ _ _ _ ?b1 ?b2 ?b3 ?b4) ?_; (case k1 => k_asm); (case k2 => k_asm); (case k3 => k_asm); (case k4 => k_asm); (case k5 => k_asm); (case kK => first | exact rfl | assumption); (case kd => ktr_room); (case ku => ktr_units)); (case b1 => (split <;> omega)); (case b2 => (split <;> omega)); (case b3 => (split <;> omega)); (case b4 => (split <;> omega)); intro v9 tl9 h9 tk9 F9 N9 hR9; obtain ⟨u9, e1, e2⟩ := hR9; subst e1; subst e2; (simp only [List.nil_append] at N9); (try dsimp only); (try k_fold)))
set_option maxRecDepth 100000 in
set_option maxHeartbeats 1000000 in
theorem stands_c {w mean mg mb news} (r q : Addr) (vs us : List Value) (nn mm : Nat) (ps qs : List Int) (ah sz : Int) (ta ts : Tok) (hr : (r, listOf vs.toArray nn) ∈ news) (hi : IntsAre vs ps) (hq : (q, listOf us.toArray mm) ∈ news) (hj : IntsAre us qs) (ha0 : 0 ≤ ah) (ha1 : ah ≤ 2) (hs0 : 0 < sz) (hs1 : sz ≤ 100)
    (hpl : (8 * (ah + sz) + 5) / 6 ≤ (ps.length : Int)) (hpl2 : ps.length < 1000) (hql : (8 * (ah + sz) + 5) / 6 ≤ (qs.length : Int)) (hql2 : qs.length < 1000) :
    Ctr w mean mg mb 6 89 news [.ref r, .ref q, .int ah ta, .int sz ts] [] (fun v tl => ∃ b, v = .bool b ∧ tl = [] ∧ (b = true ↔ Stn ps qs ah sz)) := by
  unfold Ctr; k_fill
  w_top off; intro dp un gd cn cs a ccd cl outer A₀ base h₀ L m s Q E B F X N T hk hdp hun hret
  (refine wpAny_call ?_; k_dflt (refine' code_def (binds := [(Str.ofString "places", .ref r), (Str.ofString "sample", .ref q), (Str.ofString "ahead", .int ah ta), (Str.ofString "size", .int sz ts)]) ?k1 ?k2 ?k3 ?k4 ?k5 ?kA ?kF ?kK ?k6 ?k7 ?k8 ?k9 ?kB ?_ ?c2 ?c3 ?c4 ?c5; (case kA => exact rfl); (case kF => exact rfl); (case kK => first | exact rfl | assumption); (case k1 => k_asm); (case k2 => k_asm); (case k3 => k_asm); (case k4 => k_asm); (case k5 => k_asm); (case k6 => k_is); (case k7 => k_is); (case k8 => ktr_room); (case k9 => first | exact BindsTo.of_eq rfl | exact binds_K (by k_in) rfl (by k_is) rfl rfl rfl); (case c5 => decide); (case kB => exact locs rfl); (case c2 => exact rfl); (case c3 => exact rfl); (case c4 => exact rfl); k_whole; intro g' L' h' FG' F' N' B' X' T'; (try dsimp only); (try k_lift B'); (try k_fold)))
  k_steps
  unfold Stop
  (with_reducible rename Fr _ _ _ _ => F1)
  (with_reducible rename News _ _ _ _ => N1)
  replace N1 := cb_drop N1 (news := news) fun p hp => .tail _ hp
  have e1 : (8 * ah).fdiv 6 = 8 * ah / 6 := Int.fdiv_eq_ediv_of_nonneg _ (by decide)
  have e2 : (8 * (ah + sz) + 5).fdiv 6 = (8 * (ah + sz) + 5) / 6 := Int.fdiv_eq_ediv_of_nonneg _ (by decide)
  with_unfolding_all refine' kst_range (σ := Unit) (n := ((8 * (ah + sz) + 5).fdiv 6 - (8 * ah).fdiv 6).toNat) (fun _ => news) (fun _ => []) (fun _ => True) [Str.ofString "above", Str.ofString "below"] (fun pre _ => ∀ i ∈ pre, StnAt ps qs ah sz i) () (by rfl) (by assumption) ?ks ?kn F1 N1 trivial ?kk ?kp ?_ ?_
  case kk => kst_all
  case kp => intro i hi; cases hi
  case ks => exact small_up (by omega) (by omega) (by omega) (by omega)
  case kn => exact rangeSize_nat _ _
  · clear F1 N1
    rintro _ pre k tx u' h tk own hk hlt hoff hf hp F1 N1
    dsimp only at *
    have hk0 : 8 * ah / 6 ≤ k := by omega
    have hk1 : k < (8 * (ah + sz) + 5) / 6 := by omega
    k_steps
    · rename ¬ _ = _ => hne
      refine hret _ [] _ _ (by assumption) (cb_drop (by assumption) fun p hp => .tail _ (List.mem_append_left _ hp)) ⟨_, rfl, rfl, ?_⟩
      exact Iff.intro (fun h => Bool.noConfusion h) (fun h => absurd (h k hk0 hk1) hne)
    · rename Int.fdiv _ _ = Int.fdiv _ _ => heq
      (with_reducible rename News _ _ _ _ => N9)
      refine kst_end () (by assumption) (cb_drop N9 fun p hp => .tail _ hp) trivial (by kst_all) ?_ ?_ rfl
      · intro z h1 h2 h3
        have h4 : z ≠ Str.ofString "above" := by rintro rfl; revert h3; decide
        have h5 : z ≠ Str.ofString "below" := by rintro rfl; revert h3; decide
        simp [h1, h4, h5, kstB]
      · intro i hi
        rcases List.mem_append.mp hi with hi | hi
        · exact hp i hi
        · rw [List.mem_singleton.mp hi]; exact heq
  · clear F1 N1
    rintro _ u' h tk hf hp F1 N1
    dsimp only at *
    k_steps
    refine hret _ [] _ _ (by assumption) (by assumption) ⟨_, rfl, rfl, fun _ => ?_, fun _ => rfl⟩
    intro i hi0 hi1
    refine hp i ?_
    refine List.mem_map.mpr ⟨(i - (8 * ah).fdiv 6).toNat, List.mem_range.mpr (by omega), by omega⟩
end
end Mine
end

section
open PySem PySem.W PyProof.Rows
set_option Elab.async false
namespace Mine
/-- the j-th bit of a row of octets, of a row of sextets -/
def bitB (ks : List Int) (j : Nat) : Int := ks.getD (j / 8) 0 / 2 ^ (7 - j % 8) % 2
def bitS (ps : List Int) (j : Nat) : Int := ps.getD (j / 6) 0 / 2 ^ (5 - j % 6) % 2
theorem bitB_drop (ks : List Int) (k j : Nat) : bitB (ks.drop k) j = bitB ks (8 * k + j) := by
  unfold bitB
  rw [show (8 * k + j) / 8 = k + j / 8 by omega, show (8 * k + j) % 8 = j % 8 by omega, List.getD_eq_getElem?_getD, List.getD_eq_getElem?_getD, List.getElem?_drop]
theorem bitS_drop (ks : List Int) (k j : Nat) : bitS (ks.drop k) j = bitS ks (6 * k + j) := by
  unfold bitS
  rw [show (6 * k + j) / 6 = k + j / 6 by omega, show (6 * k + j) % 6 = j % 6 by omega, List.getD_eq_getElem?_getD, List.getD_eq_getElem?_getD, List.getElem?_drop]
theorem bitB_app (l r : List Int) (j : Nat) : bitB (l ++ r) (8 * l.length + j) = bitB r j := by
  rw [← bitB_drop, List.drop_left' rfl]
theorem bitB_left (l r : List Int) {j : Nat} (h : j < 8 * l.length) : bitB (l ++ r) j = bitB l j := by
  unfold bitB
  rw [List.getD_eq_getElem?_getD, List.getD_eq_getElem?_getD, List.getElem?_append_left (by omega)]
theorem bitB_nil (j : Nat) : bitB [] j = 0 := by unfold bitB; simp
theorem bitS_nil (j : Nat) : bitS [] j = 0 := by unfold bitS; simp
/-- the bits of three octets, read in sixes -/
theorem bits3 {a b c : Int} (hb : 0 ≤ b ∧ b < 256) (hc : 0 ≤ c ∧ c < 256) (r r' : List Int) : ∀ j, j < 24 → bitS (a / 4 :: (a % 4 * 16 + b / 16) :: (b % 16 * 4 + c / 64) :: c % 64 :: r) j = bitB (a :: b :: c :: r') j
  | 0, _ => by show a / 4 / 32 % 2 = a / 128 % 2; omega
  | 1, _ => by show a / 4 / 16 % 2 = a / 64 % 2; omega
  | 2, _ => by show a / 4 / 8 % 2 = a / 32 % 2; omega
  | 3, _ => by show a / 4 / 4 % 2 = a / 16 % 2; omega
  | 4, _ => by show a / 4 / 2 % 2 = a / 8 % 2; omega
  | 5, _ => by show a / 4 / 1 % 2 = a / 4 % 2; omega
  | 6, _ => by show (a % 4 * 16 + b / 16) / 32 % 2 = a / 2 % 2; omega
  | 7, _ => by show (a % 4 * 16 + b / 16) / 16 % 2 = a / 1 % 2; omega
  | 8, _ => by show (a % 4 * 16 + b / 16) / 8 % 2 = b / 128 % 2; omega
  | 9, _ => by show (a % 4 * 16 + b / 16) / 4 % 2 = b / 64 % 2; omega
  | 10, _ => by show (a % 4 * 16 + b / 16) / 2 % 2 = b / 32 % 2; omega
  | 11, _ => by show (a % 4 * 16 + b / 16) / 1 % 2 = b / 16 % 2; omega
  | 12, _ => by show (b % 16 * 4 + c / 64) / 32 % 2 = b / 8 % 2; omega
  | 13, _ => by show (b % 16 * 4 + c / 64) / 16 % 2 = b / 4 % 2; omega
  | 14, _ => by show (b % 16 * 4 + c / 64) / 8 % 2 = b / 2 % 2; omega
  | 15, _ => by show (b % 16 * 4 + c / 64) / 4 % 2 = b / 1 % 2; omega
  | 16, _ => by show (b % 16 * 4 + c / 64) / 2 % 2 = c / 128 % 2; omega
  | 17, _ => by show (b % 16 * 4 + c / 64) / 1 % 2 = c / 64 % 2; omega
  | 18, _ => by show c % 64 / 32 % 2 = c / 32 % 2; omega
  | 19, _ => by show c % 64 / 16 % 2 = c / 16 % 2; omega
  | 20, _ => by show c % 64 / 8 % 2 = c / 8 % 2; omega
  | 21, _ => by show c % 64 / 4 % 2 = c / 4 % 2; omega
  | 22, _ => by show c % 64 / 2 % 2 = c / 2 % 2; omega
  | 23, _ => by show c % 64 / 1 % 2 = c / 1 % 2; omega
  | j + 24, h => absurd h (by omega)
theorem bitB_out {ks : List Int} {j : Nat} (h : 8 * ks.length ≤ j) : bitB ks j = 0 := by
  unfold bitB
  rw [List.getD_eq_getElem?_getD, List.getElem?_eq_none (by omega)]
  simp
theorem bitS_out {ks : List Int} {j : Nat} (h : 6 * ks.length ≤ j) : bitS ks j = 0 := by
  unfold bitS
  rw [List.getD_eq_getElem?_getD, List.getElem?_eq_none (by omega)]
  simp
theorem bitB_pad (ks : List Int) (n j : Nat) : bitB (ks ++ List.replicate n 0) j = bitB ks j := by
  by_cases h : j < 8 * ks.length
  · exact bitB_left _ _ h
  · rw [bitB_out (ks := ks) (by omega)]
    obtain ⟨i, rfl⟩ : ∃ i, j = 8 * ks.length + i := ⟨j - 8 * ks.length, by omega⟩
    rw [bitB_app]
    unfold bitB
    rw [List.getD_eq_getElem?_getD, List.getElem?_replicate]
    split <;> simp
/-- the sextets' bits are the octets' bits, noughts behind -/
theorem sx_bits : ∀ {ks : List Int}, KBa.In ks → ∀ j, bitS (sx ks) j = bitB ks j
  | [], _, j => by rw [bitB_nil]; exact bitS_nil j
  | [a], _, j => by
    by_cases hj : j < 12
    · have := bits3 (a := a) (b := 0) (c := 0) (by decide) (by decide) [] [] j (by omega)
      have e := bitB_pad [a] 2 j
      show bitS [a / 4, a % 4 * 16] j = _
      rw [← e]
      refine Eq.trans ?_ this
      unfold bitS
      congr 2
      have : j / 6 = 0 ∨ j / 6 = 1 := by omega
      rcases this with h | h <;> rw [h]
      · rfl
      · show a % 4 * 16 = a % 4 * 16 + 0 / 16; omega
    · rw [bitB_out (by simp; omega)]
      exact bitS_out (by simp [sx]; omega)
  | [a, b], h, j => by
    by_cases hj : j < 18
    · have := bits3 (a := a) (b := b) (c := 0) (h b (by simp)) (by decide) [] [] j (by omega)
      have e := bitB_pad [a, b] 1 j
      show bitS [a / 4, a % 4 * 16 + b / 16, b % 16 * 4] j = _
      rw [← e]
      refine Eq.trans ?_ this
      unfold bitS
      congr 2
      have : j / 6 = 0 ∨ j / 6 = 1 ∨ j / 6 = 2 := by omega
      rcases this with h | h | h <;> rw [h]
      · rfl
      · rfl
      · show b % 16 * 4 = b % 16 * 4 + 0 / 64; omega
    · rw [bitB_out (by simp; omega)]
      exact bitS_out (by simp [sx]; omega)
  | a :: b :: c :: r, h, j => by
    by_cases hj : j < 24
    · exact bits3 (h b (by simp)) (h c (by simp)) _ _ j hj
    · obtain ⟨i, rfl⟩ : ∃ i, j = 24 + i := ⟨j - 24, by omega⟩
      have ih := sx_bits (ks := r) (fun y hy => h y (by simp [hy])) i
      have e1 := bitB_drop (a :: b :: c :: r) 3 i
      have e2 := bitS_drop (sx (a :: b :: c :: r)) 4 i
      rw [show 24 + i = 8 * 3 + i by omega, ← e1, show 8 * 3 + i = 6 * 4 + i by omega, ← e2]
      exact ih
/-- octets with the same bits are the same -/
theorem oct_ext {x y : Int} (hx : 0 ≤ x ∧ x < 256) (hy : 0 ≤ y ∧ y < 256) (h : ∀ t, t < 8 → x / 2 ^ (7 - t) % 2 = y / 2 ^ (7 - t) % 2) : x = y := by
  have h0 : x / 128 % 2 = y / 128 % 2 := h 0 (by decide)
  have h1 : x / 64 % 2 = y / 64 % 2 := h 1 (by decide)
  have h2 : x / 32 % 2 = y / 32 % 2 := h 2 (by decide)
  have h3 : x / 16 % 2 = y / 16 % 2 := h 3 (by decide)
  have h4 : x / 8 % 2 = y / 8 % 2 := h 4 (by decide)
  have h5 : x / 4 % 2 = y / 4 % 2 := h 5 (by decide)
  have h6 : x / 2 % 2 = y / 2 % 2 := h 6 (by decide)
  have h7 : x / 1 % 2 = y / 1 % 2 := h 7 (by decide)
  omega
theorem bitB_at (ks : List Int) (i t : Nat) (ht : t < 8) : bitB ks (8 * i + t) = ks.getD i 0 / 2 ^ (7 - t) % 2 := by
  unfold bitB
  rw [show (8 * i + t) / 8 = i by omega, show (8 * i + t) % 8 = t by omega]
theorem getD_in' {ks : List Int} (h : KBa.In ks) (i : Nat) : 0 ≤ ks.getD i 0 ∧ ks.getD i 0 < 256 := by
  rw [List.getD_eq_getElem?_getD]
  by_cases hi : i < ks.length
  · rw [List.getElem?_eq_getElem hi]; exact h _ (List.getElem_mem _)
  · rw [List.getElem?_eq_none (by omega)]; decide
/-- rows of octets with the same bits are the same -/
theorem row_ext {k l : List Int} (hk : KBa.In k) (hl : KBa.In l) (e : k.length = l.length) (h : ∀ j, j < 8 * l.length → bitB k j = bitB l j) : k = l := by
  apply List.ext_getElem?
  intro i
  by_cases hi : i < l.length
  · have := oct_ext (getD_in' hk i) (getD_in' hl i) fun t ht => by
      rw [← bitB_at _ _ _ ht, ← bitB_at _ _ _ ht]; exact h _ (by omega)
    rw [List.getD_eq_getElem?_getD, List.getD_eq_getElem?_getD, List.getElem?_eq_getElem hi, List.getElem?_eq_getElem (by omega)] at this
    rw [List.getElem?_eq_getElem hi, List.getElem?_eq_getElem (by omega)]
    exact congrArg some this
  · rw [List.getElem?_eq_none (by omega), List.getElem?_eq_none (by omega)]
end Mine
end

section
open PySem PySem.W PyProof.Rows
set_option Elab.async false
namespace Mine
theorem bit_dec {P Q u : Nat} : P / 2 ^ u % 2 = Q / 2 ^ u % 2 ↔ P.testBit u = Q.testBit u := by
  rw [Nat.testBit_eq_decide_div_mod_eq, Nat.testBit_eq_decide_div_mod_eq, Bool.eq_iff_iff, decide_eq_true_iff, decide_eq_true_iff]
  omega
theorem cut_nat (P Q A B : Nat) : P % 2 ^ A / 2 ^ B = Q % 2 ^ A / 2 ^ B ↔ ∀ u, B ≤ u → u < A → P / 2 ^ u % 2 = Q / 2 ^ u % 2 := by
  constructor
  · intro h u h1 h2
    have e : (P % 2 ^ A / 2 ^ B).testBit (u - B) = (Q % 2 ^ A / 2 ^ B).testBit (u - B) := by rw [h]
    rw [Nat.testBit_div_two_pow, Nat.testBit_div_two_pow, Nat.testBit_mod_two_pow, Nat.testBit_mod_two_pow, show u - B + B = u by omega] at e
    rw [bit_dec]
    simpa [h2] using e
  · intro h
    apply Nat.eq_of_testBit_eq
    intro i
    rw [Nat.testBit_div_two_pow, Nat.testBit_div_two_pow, Nat.testBit_mod_two_pow, Nat.testBit_mod_two_pow]
    by_cases h2 : i + B < A
    · rw [bit_dec.mp (h (i + B) (by omega) h2)]
    · simp [h2]
theorem cut_cast (p : Int) (hp : 0 ≤ p) (A B : Nat) : (p.fmod (2 ^ A)).fdiv (2 ^ B) = ((p.toNat % 2 ^ A / 2 ^ B : Nat) : Int) := by
  have hA : (0 : Int) ≤ 2 ^ A := Int.le_of_lt (Int.pow_pos (by decide))
  have hB : (0 : Int) ≤ 2 ^ B := Int.le_of_lt (Int.pow_pos (by decide))
  obtain ⟨n, rfl⟩ : ∃ n : Nat, p = (n : Int) := ⟨p.toNat, by omega⟩
  rw [Int.fmod_eq_emod_of_nonneg _ hA, Int.fdiv_eq_ediv_of_nonneg _ hB, Int.toNat_natCast, Int.natCast_ediv, Int.natCast_emod, Int.natCast_pow, Int.natCast_pow]
  rfl
theorem bit_cast (p : Int) (hp : 0 ≤ p) (u : Nat) : p / 2 ^ u % 2 = ((p.toNat / 2 ^ u % 2 : Nat) : Int) := by
  obtain ⟨n, rfl⟩ : ∃ n : Nat, p = (n : Int) := ⟨p.toNat, by omega⟩
  rw [Int.toNat_natCast, Int.natCast_emod, Int.natCast_ediv, Int.natCast_pow]
  rfl
theorem cut_iff {p q : Int} (hp : 0 ≤ p) (hq : 0 ≤ q) (A B : Nat) : (p.fmod (2 ^ A)).fdiv (2 ^ B) = (q.fmod (2 ^ A)).fdiv (2 ^ B) ↔ ∀ u, B ≤ u → u < A → p / 2 ^ u % 2 = q / 2 ^ u % 2 := by
  rw [cut_cast p hp, cut_cast q hq, Int.natCast_inj, cut_nat]
  constructor
  · intro h u h1 h2
    rw [bit_cast p hp, bit_cast q hq, h u h1 h2]
  · intro h u h1 h2
    have := h u h1 h2
    rw [bit_cast p hp, bit_cast q hq] at this
    exact Int.natCast_inj.mp this
theorem bitS_at (ks : List Int) (i t : Nat) (ht : t < 6) : bitS ks (6 * i + t) = ks.getD i 0 / 2 ^ (5 - t) % 2 := by
  unfold bitS
  rw [show (6 * i + t) / 6 = i by omega, show (6 * i + t) % 6 = t by omega]
theorem stn_bits {ps qs : List Int} (hp : ∀ i, 0 ≤ ps.getD i 0) (hq : ∀ i, 0 ≤ qs.getD i 0) (a n : Nat) : Stn ps qs (a : Int) (n : Int) ↔ ∀ j, 8 * a ≤ j → j < 8 * (a + n) → bitS ps j = bitS qs j := by
  constructor
  · intro h j h1 h2
    have hi := h ((j / 6 : Nat) : Int) (by omega) (by omega)
    unfold StnAt bitsAt at hi
    rw [Int.toNat_natCast, cut_iff (hp _) (hq _)] at hi
    have := hi (5 - j % 6) (by split <;> omega) (by split <;> omega)
    rw [show j = 6 * (j / 6) + j % 6 by omega, bitS_at _ _ _ (by omega), bitS_at _ _ _ (by omega)]
    exact this
  · intro h i h1 h2
    obtain ⟨k, rfl⟩ : ∃ k : Nat, i = (k : Int) := ⟨i.toNat, by omega⟩
    unfold StnAt bitsAt
    rw [Int.toNat_natCast, cut_iff (hp _) (hq _)]
    intro u hu1 hu2
    have hu5 : u < 6 := by split at hu2 <;> omega
    have := h (6 * k + (5 - u)) (by split at hu2 <;> omega) (by split at hu1 <;> omega)
    rw [bitS_at _ _ _ (by omega), bitS_at _ _ _ (by omega), show 5 - (5 - u) = u by omega] at this
    exact this
theorem sx_getD {ks : List Int} (h : KBa.In ks) (i : Nat) : 0 ≤ (sx ks).getD i 0 ∧ (sx ks).getD i 0 < 64 := by
  rw [List.getD_eq_getElem?_getD]
  by_cases hi : i < (sx ks).length
  · rw [List.getElem?_eq_getElem hi]; exact sx_in h _ (List.getElem_mem _)
  · rw [List.getElem?_eq_none (by omega)]; decide
theorem stands_iff {hs ns ld : List Int} {x : Int} {k : Nat} (hin : KBa.In hs) (hn : KBa.In ns) (hl : KBa.In ld) (hx : 0 ≤ x ∧ x < 256) (hk : k + ns.length ≤ hs.length) (hld : ld.length = k % 3) :
    Stn ((sx hs).drop (k / 3 * 4)) (sx (ld ++ ns ++ [x])) ((k % 3 : Nat) : Int) (ns.length : Int) ↔ (hs.drop k).take ns.length = ns := by
  have hin2 : KBa.In (ld ++ ns ++ [x]) := by
    intro y hy
    rcases List.mem_append.mp hy with hy | hy
    · rcases List.mem_append.mp hy with hy | hy
      · exact hl y hy
      · exact hn y hy
    · rw [List.mem_singleton.mp hy]; exact hx
  rw [stn_bits (fun i => by rw [List.getD_eq_getElem?_getD, List.getElem?_drop, ← List.getD_eq_getElem?_getD]; exact (sx_getD hin _).1) (fun i => (sx_getD hin2 i).1)]
  have e1 : ∀ j, j < 8 * ns.length → bitS ((sx hs).drop (k / 3 * 4)) (8 * (k % 3) + j) = bitB ((hs.drop k).take ns.length) j := by
    intro j hj
    rw [bitS_drop, sx_bits hin, show 6 * (k / 3 * 4) + (8 * (k % 3) + j) = 8 * k + j by omega, ← bitB_drop]
    conv => lhs; rw [← List.take_append_drop ns.length (hs.drop k)]
    exact bitB_left _ _ (by rw [List.length_take, List.length_drop]; omega)
  have e2 : ∀ j, j < 8 * ns.length → bitS (sx (ld ++ ns ++ [x])) (8 * (k % 3) + j) = bitB ns j := by
    intro j hj
    rw [sx_bits hin2, List.append_assoc, ← hld, bitB_app, bitB_left _ _ hj]
  constructor
  · intro h
    refine row_ext (fun y hy => hin y (List.mem_of_mem_drop (List.mem_of_mem_take hy))) hn (by rw [List.length_take, List.length_drop]; omega) fun j hj => ?_
    rw [← e1 j hj, ← e2 j hj]
    exact h _ (by omega) (by omega)
  · intro h j h1 h2
    obtain ⟨i, rfl⟩ : ∃ i, j = 8 * (k % 3) + i := ⟨j - 8 * (k % 3), by omega⟩
    rw [e1 i (by omega), e2 i (by omega), h]
theorem numB_from (bs : Int) : ∀ (r : List Int) (acc : Int), r.foldl (fun n k => n * bs + k) acc = acc * bs ^ r.length + numB bs r
  | [], acc => by simp [numB]
  | x :: r, acc => by
    have h1 := numB_from bs r (acc * bs + x)
    have h2 := numB_from bs r (0 * bs + x)
    have h3 : numB bs (x :: r) = (0 * bs + x) * bs ^ r.length + numB bs r := h2
    rw [List.foldl_cons, h1, h3, List.length_cons, Int.pow_succ, Int.add_mul, Int.zero_mul, Int.zero_add, Int.add_assoc, Int.mul_assoc, Int.mul_comm bs]
theorem numB_app (bs : Int) (l r : List Int) : numB bs (l ++ r) = numB bs l * bs ^ r.length + numB bs r := by
  unfold numB
  rw [List.foldl_append]
  exact numB_from bs r _
theorem number_nat : ∀ hs : List Int, numB 64 (sx hs) = numB 256 hs * 2 ^ (6 * (sx hs).length - 8 * hs.length)
  | [] => by simp [sx, numB]
  | [a] => by show (0 * 64 + a / 4) * 64 + a % 4 * 16 = (0 * 256 + a) * 2 ^ 4; omega
  | [a, b] => by show ((0 * 64 + a / 4) * 64 + (a % 4 * 16 + b / 16)) * 64 + b % 16 * 4 = ((0 * 256 + a) * 256 + b) * 2 ^ 2; omega
  | a :: b :: c :: r => by
    have ih := number_nat r
    have hl := sx_length r
    show numB 64 ([a / 4, a % 4 * 16 + b / 16, b % 16 * 4 + c / 64, c % 64] ++ sx r) = numB 256 ([a, b, c] ++ r) * 2 ^ (6 * ((sx r).length + 4) - 8 * (r.length + 3))
    rw [numB_app, numB_app, ih, Int.add_mul]
    have e : 6 * ((sx r).length + 4) - 8 * (r.length + 3) = 6 * (sx r).length - 8 * r.length := by omega
    rw [e]
    congr 1
    have hX : numB 64 [a / 4, a % 4 * 16 + b / 16, b % 16 * 4 + c / 64, c % 64] = numB 256 [a, b, c] := by
      show (((0 * 64 + a / 4) * 64 + (a % 4 * 16 + b / 16)) * 64 + (b % 16 * 4 + c / 64)) * 64 + c % 64 = ((0 * 256 + a) * 256 + b) * 256 + c
      omega
    rw [hX, Int.mul_assoc]
    congr 1
    rw [show (64 : Int) = 2 ^ 6 from rfl, show (256 : Int) = 2 ^ 8 from rfl, ← Int.pow_mul, ← Int.pow_mul, ← Int.pow_add]
    congr 1
    omega
theorem number_eq (hs : List Int) : numB 64 (sx hs) = numB 256 hs * 2 ^ (6 * ((sx hs).length : Int) - 8 * (hs.length : Int)).toNat := by
  rw [number_nat]
  have := sx_length hs
  congr 2
  omega
/-- the places at which the short row stands in the long one -/
def dueL (hs ns : List Int) (i : Nat) : List Int := ((List.range i).filter (fun k => decide ((hs.drop k).take ns.length = ns))).map fun k => ((k : Nat) : Int)
theorem dueL_pos {hs ns : List Int} {i : Nat} (h : (hs.drop i).take ns.length = ns) : dueL hs ns (i + 1) = dueL hs ns i ++ [0 + (i : Int)] := by
  unfold dueL
  rw [List.range_succ, List.filter_append, List.map_append]
  simp [h]
theorem dueL_neg {hs ns : List Int} {i : Nat} (h : ¬ (hs.drop i).take ns.length = ns) : dueL hs ns (i + 1) = dueL hs ns i := by
  unfold dueL
  rw [List.range_succ, List.filter_append, List.map_append]
  simp [h]
theorem slice_at {hs ns : List Int} {i : Nat} (hi : i < ((hs.length : Int) - ns.length + 1 - 0).toNat) : (hs.drop (0 + (i : Int)).toNat).take (min (0 + (i : Int) + ns.length).toNat hs.length - (0 + (i : Int)).toNat) = (hs.drop i).take ns.length := by
  rw [show (0 + (i : Int)).toNat = i by omega, show min (0 + (i : Int) + ns.length).toNat hs.length - i = ns.length by omega]
theorem pow_rng (hs : List Int) : 0 ≤ 6 * ((sx hs).length : Int) - 8 * (hs.length : Int) ∧ 6 * ((sx hs).length : Int) - 8 * (hs.length : Int) ≤ 4 ∧ 0 ≤ (2 : Int) ^ (6 * ((sx hs).length : Int) - 8 * (hs.length : Int)).toNat ∧ (2 : Int) ^ (6 * ((sx hs).length : Int) - 8 * (hs.length : Int)).toNat ≤ 1000000 := by
  have h := sx_length hs
  have hc : (6 * ((sx hs).length : Int) - 8 * (hs.length : Int)).toNat = 0 ∨ (6 * ((sx hs).length : Int) - 8 * (hs.length : Int)).toNat = 2 ∨ (6 * ((sx hs).length : Int) - 8 * (hs.length : Int)).toNat = 4 := by omega
  refine ⟨by omega, by omega, ?_, ?_⟩ <;> rcases hc with e | e | e <;> rw [e] <;> decide
end Mine
end

section
open PySem PySem.W PyProof.Rows
set_option Elab.async false
namespace Mine
section
variable {M : Model} {A : Around} {E : Value → Shared → Prop} {s : Shared} {h₀ : Heap} {L : Addr} {m : Str → Option Value} {news : List (Addr × Obj)} {e : PySem.Expr} {env : Env} {Q : Value → Shared → Prop}
theorem in_snoc {ks : List Int} {x : Int} (h : KBa.In ks) (hx : 0 ≤ x ∧ x < 256) : KBa.In (ks ++ [x]) := by
  intro y hy
  rcases List.mem_append.mp hy with hy | hy
  · exact h y hy
  · rw [List.mem_singleton.mp hy]; exact hx
/-- a comprehension's turns keep the ledger; of the ints a word is told -/
def Jp (nw0 : List (Addr × Obj)) (P : Nat → List Int → Prop) (i : Nat) (ys : List Value) (nw : List (Addr × Obj)) : Prop := nw = nw0 ∧ ∃ ks, IntsAre ys ks ∧ P i ks
def InLe (i : Nat) (ks : List Int) : Prop := KBa.In ks ∧ ks.length ≤ i
theorem InLe.nil : InLe 0 [] := And.intro (fun _ h => absurd h List.not_mem_nil) (Nat.le_refl _)
theorem InLe.keep {i : Nat} {ks : List Int} (h : InLe i ks) : InLe (i + 1) ks := ⟨h.1, Nat.le_succ_of_le h.2⟩
theorem InLe.snoc {i : Nat} {ks : List Int} {x : Int} (h : InLe i ks) (hx : 0 ≤ x ∧ x < 256) : InLe (i + 1) (ks ++ [x]) := ⟨in_snoc h.1 hx, by rw [List.length_append, List.length_singleton]; exact Nat.succ_le_succ h.2⟩
theorem in_app {ks ls : List Int} (h : KBa.In ks) (h2 : KBa.In ls) : KBa.In (ks ++ ls) := fun y hy => (List.mem_append.mp hy).elim (h y) (h2 y)
theorem off1_of {D : Addr} : ∀ {l : List (Addr × Obj)}, (∀ p ∈ l, p.1 ≠ D) → PyProof.Rows.LCg.Off1 D l
  | [], _ => trivial
  | _ :: _, h => ⟨h _ List.mem_cons_self, off1_of fun p hp => h p (List.mem_cons_of_mem _ hp)⟩
/-- the faces that the comprehension has made so far -/
def JF (nw0 : List (Addr × Obj)) (g : Nat → List Int) (i : Nat) (ys : List Value) (nw : List (Addr × Obj)) : Prop :=
  ∃ fs : List (Addr × List Value), fs.length = i ∧ ys = fs.map (fun p => Value.ref p.1) ∧ nw = nw0 ++ fs.map (fun p => (p.1, LCg.lst p.2)) ∧ ∀ (j : Nat) (p : Addr × List Value), fs[j]? = some p → IntsAre p.2 (sx (g j)) ∧ PyProof.Rows.LCg.Off1 p.1 nw0
theorem three_of {α : Type} {l : List α} (h : l.length = 3) : ∃ a b c, l = [a, b, c] := by
  match l, h with
  | [a, b, c], _ => exact ⟨a, b, c, rfl⟩
theorem faces_end {h₀ : Heap} {L I C D : Addr} {m : Str → Option Value} {s₁ : Shared} {oI oC : Obj} {h' : Heap} {tk : Nat} {rest nw0 : List (Addr × Obj)} {g : Nat → List Int} {i : Nat} {fs : List (Addr × List Value)} {l : Addr} {zs : List Value}
    (hfl : fs.length = i) (hfs : ∀ (j : Nat) (p : Addr × List Value), fs[j]? = some p → IntsAre p.2 (sx (g j)) ∧ PyProof.Rows.LCg.Off1 p.1 nw0) (F : Fr h₀ L h' m) (N : News h₀ L h' ((l, LCg.lst zs) :: rest))
    (sub : ∀ p ∈ (I, oI) :: (C, oC) :: (D, LCg.lst (fs.map (fun p => Value.ref p.1))) :: (nw0 ++ fs.map (fun p => (p.1, LCg.lst p.2))), p ∈ rest) (off : LCg.Off3 I C D (nw0 ++ fs.map (fun p => (p.1, LCg.lst p.2)))) (ho : ∀ p ∈ rest, p.1 ≠ l) (hz : IntsAre zs (sx (g i))) :
    LCg.CompEnd h₀ L m s₁ I oI C oC D (LCg.lst (fs.map (fun p => Value.ref p.1))) (fun _ => True) (fun y news' => JF nw0 g (i + 1) (fs.map (fun p => Value.ref p.1) ++ [y]) news') (.ref l) { s₁ with heap := h', toks := tk } := by
  refine LCg.CompEnd.intro F N (nw0 ++ (fs ++ [(l, zs)]).map (fun p => (p.1, LCg.lst p.2))) (fun p hp => ?_) (LCg.Off3.of fun p hp => ?_) trivial ⟨fs ++ [(l, zs)], by simp [hfl], by simp, rfl, ?_⟩
  · rcases List.mem_cons.mp hp with rfl | hp
    · exact .tail _ (sub _ (.head _))
    · rcases List.mem_cons.mp hp with rfl | hp
      · exact .tail _ (sub _ (.tail _ (.head _)))
      · rcases List.mem_cons.mp hp with rfl | hp
        · exact .tail _ (sub _ (.tail _ (.tail _ (.head _))))
        · rw [List.map_append, ← List.append_assoc] at hp
          rcases List.mem_append.mp hp with hp | hp
          · exact .tail _ (sub _ (.tail _ (.tail _ (.tail _ hp))))
          · rw [List.map_singleton, List.mem_singleton] at hp
            rw [hp]; exact .head _
  · rw [List.map_append, ← List.append_assoc] at hp
    rcases List.mem_append.mp hp with hp | hp
    · exact off.mem p hp
    · rw [List.map_singleton, List.mem_singleton] at hp
      rw [hp]
      exact ⟨fun e => ho _ (sub _ (.head _)) e.symm, fun e => ho _ (sub _ (.tail _ (.head _))) e.symm, fun e => ho _ (sub _ (.tail _ (.tail _ (.head _)))) e.symm⟩
  · intro j p hj
    by_cases hji : j < fs.length
    · rw [List.getElem?_append_left hji] at hj
      exact hfs j p hj
    · rw [List.getElem?_append_right (by omega)] at hj
      have : j - fs.length = 0 := by
        cases h0 : j - fs.length with
        | zero => rfl
        | succ k => rw [h0] at hj; cases hj
      rw [this] at hj
      cases hj
      rw [show j = i by omega]
      exact ⟨hz, off1_of fun p hp => ho p (sub _ (.tail _ (.tail _ (.tail _ (List.mem_append_left _ hp)))))⟩
theorem face_at {a1 a2 a3 : Addr} {z1 z2 z3 : List Value} {s0 s1 s2 : Int} {ns : List Int} (i : Nat) (h1 : IntsAre z1 (sx ([] ++ ns ++ [s2]))) (h2 : IntsAre z2 (sx ([s0] ++ ns ++ [s2]))) (h3 : IntsAre z3 (sx ([s0, s1] ++ ns ++ [s2]))) :
    ∃ aq zq ld, [Value.ref a1, .ref a2, .ref a3][((0 + (i : Int)).fmod 3).toNat]? = some (.ref aq) ∧ (aq, LCg.lst zq) ∈ [(a1, LCg.lst z1), (a2, LCg.lst z2), (a3, LCg.lst z3)] ∧ IntsAre zq (sx (ld ++ ns ++ [s2])) ∧ ld.length = i % 3 ∧ ∀ y ∈ ld, y ∈ [s0, s1, s2] := by
  have e : (0 + (i : Int)).fmod 3 = ((i % 3 : Nat) : Int) := by rw [Int.fmod_eq_emod_of_nonneg _ (by decide)]; omega
  rw [e, Int.toNat_natCast]
  have h : i % 3 = 0 ∨ i % 3 = 1 ∨ i % 3 = 2 := by omega
  rcases h with h | h | h <;> rw [h]
  · exact ⟨a1, z1, [], rfl, .head _, h1, rfl, fun y hy => nomatch hy⟩
  · exact ⟨a2, z2, [s0], rfl, .tail _ (.head _), h2, rfl, fun y hy => by rw [List.mem_singleton.mp hy]; exact .head _⟩
  · exact ⟨a3, z3, [s0, s1], rfl, .tail _ (.tail _ (.head _)), h3, rfl, fun y hy => by
      rcases List.mem_cons.mp hy with rfl | hy
      · exact .head _
      · rw [List.mem_singleton.mp hy]; exact .tail _ (.head _)⟩
theorem fmod_rng (a : Int) {b : Int} (h : 0 < b) : 0 ≤ a.fmod b ∧ a.fmod b < b := by
  rw [Int.fmod_eq_emod_of_nonneg _ (Int.le_of_lt h)]
  exact ⟨Int.emod_nonneg _ (Int.ne_of_gt h), Int.emod_lt_of_pos _ h⟩
theorem strange_in (c : Int) : KBa.In [(c.fdiv 7).fmod 256, (c.fdiv 1792).fmod 256, (c.fdiv 458752).fmod 256] := by
  intro y hy
  simp only [List.mem_cons, List.not_mem_nil, or_false] at hy
  rcases hy with rfl | rfl | rfl <;> exact fmod_rng _ (by decide)
def IntRes (s : Shared) (v : Value) (s' : Shared) : Prop := ∃ c t k, v = .int c t ∧ s' = { s with toks := k }
theorem cut_int (h : wpAny M A (eval e env) (IntRes s) E s) (k : ∀ c t k, Q (.int c t) { s with toks := k }) : wpAny M A (eval e env) Q E s :=
  wpAny_mono h (fun v s' ⟨c, t, j, e1, e2⟩ => by subst e1; subst e2; exact k c t j) fun _ _ e => e
def ListRes (h₀ : Heap) (L : Addr) (m : Str → Option Value) (news : List (Addr × Obj)) (P : List Int → Prop) (s : Shared) (v : Value) (s' : Shared) : Prop :=
  ∃ l ys ks n h' tk, v = .ref l ∧ s' = { s with heap := h', toks := tk } ∧ Fr h₀ L h' m ∧ News h₀ L h' ((l, listOf ys.toArray n) :: news) ∧ LCg.Off1 l news ∧ IntsAre ys ks ∧ P ks
theorem cut_list (P : List Int → Prop) (_ : Fr h₀ L s.heap m) (_ : News h₀ L s.heap news) (h : wpAny M A (eval e env) (ListRes h₀ L m news P s) E s)
    (k : ∀ l ys ks n h' tk, Fr h₀ L h' m → News h₀ L h' ((l, listOf ys.toArray n) :: news) → LCg.Off1 l news → IntsAre ys ks → P ks → Q (.ref l) { s with heap := h', toks := tk }) : wpAny M A (eval e env) Q E s :=
  wpAny_mono h (fun v s' ⟨l, ys, ks, n, h', tk, e1, e2, r1, r2, r3, r4, r5⟩ => by subst e1; subst e2; exact k l ys ks n h' tk r1 r2 r3 r4 r5) fun _ _ e => e
end
section
local macro_rules | `(tactic| k_room) => `(tactic| ktr_room)
local macro_rules | `(tactic| k_all) => `(tactic| exact all_lt_ne (by assumption) (by (try dsimp only); omega))
local macro_rules | `(tactic| k_all) => `(tactic| (refine all_app ?ka ?kb; (case ka => k_all); (case kb => k_all)))
local macro_rules | `(tactic| size_fits) => `(tactic| ((try simp only [List.size_toArray, Array.size_push, PySem.sizeLine_eq]); omega))
local macro_rules | `(tactic| walk_at "call type:type") => `(tactic| ((with_reducible show wpAny _ _ (call (Value.type "type") [Value.bytes _ _]) _ _ _); refine call_type_of (typeIs_bytes _ _ _) (by decide) ?_))
local macro_rules | `(tactic| walk_at "call ref") => `(tactic| ((with_reducible show wpAny _ _ (call (Value.ref 56) _ _) _ _ _); k_dflt (refine' Ctr.use ?k1 ?k2 ?k3 ?k4 ?k5 ?kK ?kd ?ku (marks_c _ _) ?_; (case k1 => k_asm); (case k2 => k_asm); (case k3 => k_asm); (case k4 => k_asm); (case k5 => k_asm); (case kK => first | exact rfl | assumption); (case kd => ktr_room); (case ku => ktr_units)); intro v9 tl9 h9 tk9 F9 N9 hR9; obtain ⟨c9, u9, m1, m2, e1, e2, hc9, hm9⟩ := hR9; subst e1; subst e2; (simp only [List.nil_append] at N9); (try dsimp only); (try k_fold)))
local macro_rules | `(tactic| walk_at "call ref") => `(tactic| ((with_reducible show wpAny _ _ (call (Value.ref 63) _ _) _ _ _); k_dflt (refine' Ctr.use ?k1 ?k2 ?k3 ?k4 ?k5 ?kK ?kd ?ku (octet_c _ _) ?_; (case k1 => k_asm); (case k2 => k_asm); (case k3 => k_asm); (case k4 => k_asm); (case k5 => k_asm); (case kK => first | exact rfl | assumption); (case kd => ktr_room); (case ku => ktr_units)); intro v9 tl9 h9 tk9 F9 N9 hR9; obtain ⟨u9, e1, e2⟩ := hR9; subst e1; subst e2; (simp only [List.nil_append] at N9); (try dsimp only); (try k_fold)))
local macro_rules | `(tactic| walk_at "call ref") => `(tactic| ((with_reducible show wpAny _ _ (call (Value.ref 68) _ _) _ _ _); refine Stop.go ?_))
local macro_rules | `(tactic| walk_at "eval BoolOp") => `(tactic| refine Stop.go ?_)
local macro_rules | `(tactic| walk_at "eval ListComp") => `(tactic| refine Stop.go ?_)
local macro_rules | `(tactic| walk_at "eval IfExp") => `(tactic| refine Stop.go ?_)
local macro_rules | `(tactic| walk_at "exec If") => `(tactic| refine Stop.go ?_)
local macro_rules | `(tactic| walk_at "compareOp In none ref") => `(tactic| refine Stop.go ?_)
local macro_rules | `(tactic| walk_at "call type:range") => `(tactic| ((with_reducible show wpAny _ _ (call (Value.type "range") [Value.int (_ + 1) _]) _ _ _); refine Stop.go ?_))
local macro_rules | `(tactic| walk_at "call ref") => `(tactic| ((with_reducible show wpAny _ _ (call (Value.ref 89) _ _) _ _ _); refine Stop.go ?_))
local macro_rules | `(tactic| walk_at "subscriptTail") => `(tactic| ((with_reducible show wpAny _ _ (subscriptTail _ _ (Value.ref _) (Value.int (Int.fmod _ _) _)) _ _ _); refine Stop.go ?_))
local macro_rules | `(tactic| walk_at "call ref") => `(tactic| ((with_reducible show wpAny _ _ (call (Value.ref 75) _ _) _ _ _); refine Stop.go ?_))
local macro_rules | `(tactic| walk_at "binaryOp Mult int int") => `(tactic| ((with_reducible show wpAny _ _ (binaryOp _ _ (Value.int (2 ^ _) _)) _ _ _); refine Stop.go ?_))
local macro_rules | `(tactic| walk_at "CompSrc") => `(tactic| refine Stop.go ?_)
local macro_rules | `(tactic| walk_at "CompSrcT") => `(tactic| refine Stop.go ?_)
set_option maxRecDepth 100000 in
set_option maxHeartbeats 4000000 in
theorem law3 : PySem.Challenge.rw_ki0008_03.Holds := hd (by
  k_go0
  all_goals try k_fold
  k_steps
  unfold Stop
  refine cut_int ?_ ?_
  · refine IfExp_ ?_
    k_steps
    · exact ⟨_, _, _, rfl, rfl⟩
    · exact ⟨_, _, _, rfl, rfl⟩
  · intro choice tc kc
    k_steps
    unfold Stop
    (with_reducible rename Fr _ _ _ _ => F1)
    (with_reducible rename News _ _ _ _ => N1)
    refine cut_list (fun ks => KBa.In ks ∧ ks ≠ [] ∧ ks.length ≤ 40) F1 N1 ?_ ?_
    ·
      refine BoolOp_or ?_
      k_steps
      unfold Stop
      k_dflt (refine LCt.ListComp_T (F₀ := F1) (by with_unfolding_all rfl) (by decide) (by rfl) (by decide) (by rfl) ?_)
      k_steps
      unfold Stop
      (with_reducible rename Fr _ _ _ _ => F2)
      (with_reducible rename News _ _ _ _ => N2)
      (with_reducible rename IntsAre _ (List.take _ _) => hI2)
      refine PyProof.Rows.LCt.CompSrcT.ledger rfl F2 N2 (.head _) (by rw [List.size_toArray, hI2.length, sizeLine_eq]; omega) (fun g => compRestT_ind (Jp _ InLe) _ ?_ ?_ _ 0 (Nat.zero_add _) [] _ ⟨rfl, [], IntsAre.nil, InLe.nil⟩)
      · clear F2 N2
        intro i ys nw hi hJ v I oI C oC D m₂ h tk E' hP hN hx F2 N2 off ne
        obtain ⟨rfl, ks, hB, hks⟩ := hJ
        obtain ⟨nv, tv, rfl, _⟩ := hI2.at _ _ (by rw [List.getElem?_toArray] at hP; exact hP)
        k_steps
        · (with_reducible rename News _ _ _ _ => N9)
          exact PyProof.Rows.LCg.CompEnd.intro (by assumption) N9 _ (fun p hp => hp) off (.inr ⟨_, .head _, rfl, _, rfl⟩) ⟨rfl, _, hB.append (.cons _ _ .nil), hks.snoc (octv_in _)⟩
        · exact PyProof.Rows.LCg.CompEnd.intro F2 N2 _ (fun p hp => hp) off (.inr ⟨_, .head _, rfl, _, rfl⟩) ⟨rfl, _, hB, hks.keep⟩
      · clear F2 N2
        intro ys nw hJ
        obtain ⟨rfl, ks, hB, hks⟩ := hJ
        unfold PyProof.Rows.LCg.FinE
        intro D1 h1 tk1 F2 N2 o1
        dsimp only [PyProof.Rows.LCg.Off1] at o1
        dsimp only
        have hkl : ks.length ≤ 62 := by have h1 := hks.2; rw [List.size_toArray, hI2.length, List.length_take] at h1; omega
        replace hks := hks.1
        k_steps
        · exact ⟨_, _, _, _, _, _, rfl, rfl, by assumption, cb_drop (by assumption) fun p hp => by
            rcases List.mem_cons.mp hp with rfl | hp
            · exact .head _
            · exact .tail _ (.tail _ (.tail _ hp)), (by (dsimp only [PyProof.Rows.LCg.Off1]); (repeat' apply And.intro) <;> first | exact True.intro | omega), by assumption, fun y hy => hks y (List.mem_of_mem_take hy), List.ne_nil_of_length_pos (by assumption), by rw [List.length_take]; omega⟩
        · unfold Stop
          refine BoolOp_one ?_
          k_steps
          exact ⟨_, _, [98, 97, 110, 97, 110, 97], _, _, _, rfl, rfl, by assumption, cb_drop (by assumption) fun p hp => by
            rcases List.mem_cons.mp hp with rfl | hp
            · exact .head _
            · exact .tail _ (.tail _ (.tail _ (.tail _ hp))), (by (dsimp only [PyProof.Rows.LCg.Off1]); (repeat' apply And.intro) <;> first | exact True.intro | omega), .cons _ _ (.cons _ _ (.cons _ _ (.cons _ _ (.cons _ _ (.cons _ _ .nil))))), by unfold KBa.In; decide, by decide, by decide⟩
    · intro l2 ys2 hs n2 h2 tk2 F2 N2 o2 hI2 hP2
      obtain ⟨hin, hne, hlen⟩ := hP2
      dsimp only [PyProof.Rows.LCg.Off1] at o2
      dsimp only
      have hst : 0 ≤ (choice.fdiv 5).fmod 41 ∧ (choice.fdiv 5).fmod 41 < 41 := fmod_rng _ (by decide)
      have hc5 : 0 ≤ choice.fmod 5 ∧ choice.fmod 5 < 5 := fmod_rng _ (by decide)
      have hst2 : 0 ≤ (choice.fdiv 5).fmod 41 + choice.fmod 5 := by omega
      k_steps
      unfold Stop
      (with_reducible rename Fr _ _ _ _ => F3)
      (with_reducible rename News _ _ _ _ => N3)
      refine cut_list (fun ks => KBa.In ks ∧ ks ≠ [] ∧ ks.length ≤ 10) F3 N3 ?_ ?_
      ·
        refine BoolOp_or ?_
        k_steps
        unfold Stop
        (with_reducible rename Fr _ _ _ _ => F4)
        (with_reducible rename IntsAre _ (List.take _ _) => hI3)
        k_dflt (refine LCt.ListComp_T (F₀ := F4) (by with_unfolding_all rfl) (by decide) (by rfl) (by decide) (by rfl) ?_)
        k_steps
        unfold Stop
        (with_reducible rename Fr _ _ _ _ => F5)
        (with_reducible rename News _ _ _ _ => N5)
        (with_reducible rename IntsAre _ (List.take _ (List.drop 1 _)) => hI5)
        refine PyProof.Rows.LCt.CompSrcT.ledger rfl F5 N5 (.head _) (by rw [List.size_toArray, hI5.length, sizeLine_eq]; omega) (fun g => compRestT_ind (Jp _ InLe) _ ?_ ?_ _ 0 (Nat.zero_add _) [] _ ⟨rfl, [], IntsAre.nil, InLe.nil⟩)
        · clear F5 N5
          intro i ys nw hi hJ v I oI C oC D m₂ h tk E' hP hN hx F2 N2 off ne
          obtain ⟨rfl, ks, hB, hks⟩ := hJ
          obtain ⟨nv, tv, rfl, _⟩ := hI5.at _ _ (by rw [List.getElem?_toArray] at hP; exact hP)
          k_steps
          · (with_reducible rename News _ _ _ _ => N9)
            exact PyProof.Rows.LCg.CompEnd.intro (by assumption) N9 _ (fun p hp => hp) off (.inr ⟨_, .head _, rfl, _, rfl⟩) ⟨rfl, _, hB.append (.cons _ _ .nil), hks.snoc (octv_in _)⟩
          · exact PyProof.Rows.LCg.CompEnd.intro F2 N2 _ (fun p hp => hp) off (.inr ⟨_, .head _, rfl, _, rfl⟩) ⟨rfl, _, hB, hks.keep⟩
        · clear F5 N5
          intro ys nw hJ
          obtain ⟨rfl, ks, hB, hks⟩ := hJ
          unfold PyProof.Rows.LCg.FinE
          intro D1 h1 tk1 F2 N2 o1
          dsimp only [PyProof.Rows.LCg.Off1] at o1
          dsimp only
          have hkl : ks.length ≤ 62 := by have h1 := hks.2; rw [List.size_toArray, hI5.length, List.length_take] at h1; omega
          replace hks := hks.1
          k_steps
          · exact ⟨_, _, _, _, _, _, rfl, rfl, by assumption, cb_drop (by assumption) fun p hp => by
              rcases List.mem_cons.mp hp with rfl | hp
              · exact .head _
              · exact .tail _ (.tail _ (.tail _ (.tail _ (.tail _ hp)))), (by (dsimp only [PyProof.Rows.LCg.Off1]); (repeat' apply And.intro) <;> first | exact True.intro | omega), by assumption, in_app (fun y hy => hin y (List.mem_of_mem_drop (List.mem_of_mem_take hy))) (fun y hy => hks y (List.mem_of_mem_take hy)), List.ne_nil_of_length_pos (by rw [List.length_append]; assumption), by rw [List.length_append, List.length_take, List.length_take]; omega⟩
          · unfold Stop
            refine BoolOp_one ?_
            k_steps
            exact ⟨_, _, [97], _, _, _, rfl, rfl, by assumption, cb_drop (by assumption) fun p hp => by
              rcases List.mem_cons.mp hp with rfl | hp
              · exact .head _
              · exact .tail _ (.tail _ (.tail _ (.tail _ (.tail _ (.tail _ hp))))), (by (dsimp only [PyProof.Rows.LCg.Off1]); (repeat' apply And.intro) <;> first | exact True.intro | omega), .cons _ _ .nil, by unfold KBa.In; decide, by decide, by decide⟩
      · intro l3 ys3 ns n3 h3 tk3 F4 N4 o3 hI3 hP3
        obtain ⟨hinN, hneN, hlenN⟩ := hP3
        dsimp only [PyProof.Rows.LCg.Off1] at o3
        dsimp only
        k_steps
        unfold Stop
        (with_reducible rename KBw.bInts _ = _ => hc9)
        (with_reducible rename Marks _ _ => hm9)
        k_dflt (refine' Ctr.use ?k1 ?k2 ?k3 ?k4 ?k5 ?kK ?kd ?ku (places_c l2 ys2 n2 hs _ _ ?pa hI2 hin ?pb hc9 hm9) ?_; (case k1 => k_asm); (case k2 => k_asm); (case k3 => k_asm); (case k4 => k_asm); (case k5 => k_asm); (case kK => first | exact rfl | assumption); (case kd => ktr_room); (case ku => ktr_units))
        case pa => k_mem
        case pb => omega
        intro v9 tl9 h9 tk9 F9 N9 hR9
        obtain ⟨l5, ys5, e1, e2, hI5, hof5⟩ := hR9
        subst e1
        subst e2
        replace hof5 := off1_of hof5
        dsimp only [PyProof.Rows.LCg.Off1] at hof5
        simp only [List.nil_append, List.cons_append] at N9
        dsimp only
        k_steps
        unfold Stop
        (with_reducible rename Fr _ _ _ _ => F6)
        k_dflt (refine LCg.ListComp_U (F₀ := F6) (by with_unfolding_all rfl) (by decide) (by rfl) (by decide) (by rfl) ?_)
        k_steps
        unfold Stop
        (with_reducible rename Fr _ _ _ _ => F7)
        (with_reducible rename News _ _ _ _ => N7)
        have hsr := strange_in choice
        generalize hs0 : (choice.fdiv 7).fmod 256 = s0 at *
        generalize hs1 : (choice.fdiv 1792).fmod 256 = s1 at *
        generalize hs2 : (choice.fdiv 458752).fmod 256 = s2 at *
        refine PyProof.Rows.LCg.CompSrc.range (n := 3) rfl F7 N7 (by assumption) (by decide) (by decide) (by decide) (fun g => compRest_ind (JF _ (fun j => [s0, s1, s2].take j ++ ns ++ [s2])) 3 ?_ ?_ 3 0 rfl [] _ ⟨[], rfl, rfl, (List.append_nil _).symm, fun j p h => nomatch h⟩)
        ·
          clear F7 N7
          intro i ys nw hi hJ v I oI C oC D m₂ h tk E' hP hN hx F2 N2 off ne
          obtain ⟨fs, hfl, rfl, rfl, hfs⟩ := hJ
          obtain ⟨tv, rfl⟩ := hP
          simp only [List.cons_append, List.nil_append] at N2
          generalize hex : List.map (fun p : Addr × List Value => (p.1, LCg.lst p.2)) fs = ex at *
          k_steps
          unfold Stop
          (with_reducible rename IntsAre _ _ => hI6)
          (with_reducible rename News _ _ _ _ => N6)
          rw [show (0 + (i : Int)).toNat = i by omega] at hI6
          have hin6 : KBa.In ([s0, s1, s2].take i ++ ns ++ [s2]) := in_app (in_app (fun y hy => hsr y (List.mem_of_mem_take hy)) hinN) (fun y hy => hsr y (by rw [List.mem_singleton.mp hy]; simp))
          k_dflt (refine' Ctr.use ?k1 ?k2 ?k3 ?k4 ?k5 ?kK ?kd ?ku (places_c _ _ _ ([s0, s1, s2].take i ++ ns ++ [s2]) _ _ (.head _) hI6 hin6 ?pb hc9 hm9) ?_; (case k1 => k_asm); (case k2 => k_asm); (case k3 => k_asm); (case k4 => k_asm); (case k5 => k_asm); (case kK => first | exact rfl | assumption); (case kd => ktr_room); (case ku => ktr_units))
          case pb => (simp only [List.length_append, List.length_take, List.length_cons, List.length_nil]; omega)
          intro v9 tl9 h9 tk9 F9 N9 hR9
          obtain ⟨l6, ys6, e1, e2, hI7, hof6⟩ := hR9
          subst e1
          subst e2
          simp only [List.nil_append, List.cons_append] at N9
          dsimp only
          k_steps
          subst hex
          exact faces_end hfl hfs F9 N9 (fun p hp => .tail _ (.tail _ (.tail _ (.tail _ hp)))) off hof6 hI7
        · clear F7 N7
          intro ys nw hJ
          obtain ⟨fs, hfl, rfl, rfl, hfs⟩ := hJ
          obtain ⟨⟨a1, z1⟩, ⟨a2, z2⟩, ⟨a3, z3⟩, rfl⟩ := three_of hfl
          obtain ⟨hz1, hq1⟩ := hfs 0 _ rfl
          obtain ⟨hz2, hq2⟩ := hfs 1 _ rfl
          obtain ⟨hz3, hq3⟩ := hfs 2 _ rfl
          clear hfs
          unfold PyProof.Rows.LCg.FinE
          intro D1 h1 tk1 F2 N2 o1
          simp only [List.cons_append, List.nil_append, List.map_cons, List.map_nil] at N2 o1
          dsimp only [PyProof.Rows.LCg.Off1, List.take] at o1 hz1 hz2 hz3 hq1 hq2 hq3
          dsimp only
          replace o2 := o2.1
          replace o3 := o3.2.1
          replace hof5 := hof5.2.2.2.1
          replace hq1 := hq1.2.2.2.2.1
          replace hq2 := hq2.2.2.2.2.1
          replace hq3 := hq3.2.2.2.2.1
          replace o1 := o1.2.2.2.2.1
          k_steps
          unfold Stop
          clear o2 o3 hof5 hq1 hq2 hq3 o1
          refine wpAny_If ?_
          k_steps
          unfold Stop
          (with_reducible rename News _ _ _ _ => N8)
          refine none_in3 (News.isList N8 (.head _)) (News.isList N8 (by k_mem)) hz1 (News.isList N8 (by k_mem)) hz2 (News.isList N8 (by k_mem)) hz3 (by ktr_units) ?_
          k_steps
          unfold Stop
          (with_reducible rename Fr _ _ _ _ => F8)
          (with_reducible rename News _ _ _ _ => N8)
          refine range_led F8 N8 ?_
          clear F8 N8
          intro r8 h8 tk8 t8 u8 v8 F8 N8
          dsimp only
          k_steps
          unfold Stop
          (with_reducible rename Fr _ _ _ _ => F9)
          (with_reducible rename News _ _ _ _ => N9)
          refine PyProof.Rows.LCt.CompSrcT.range (n := ((hs.length : Int) - ns.length + 1 - 0).toNat) rfl F9 N9 (N9.get (.head _)) (small_up (by omega) (by omega) (by omega) (by omega)) (rangeSize_nat _ _) (by rw [sizeLine_eq]; omega) (fun g => compRestT_ind (Ji _ (dueL hs ns)) _ ?_ ?_ _ 0 (Nat.zero_add _) [] _ ⟨rfl, IntsAre.nil⟩)
          ·
            clear F9 N9
            intro i ys nw hi hJ v I oI C oC D m₂ h tk E' hP hN hx F2 N2 off ne
            obtain ⟨rfl, hB⟩ := hJ
            obtain ⟨tv, rfl⟩ := hP
            k_steps
            · rename List.take _ _ = ns => heq
              rw [slice_at hi] at heq
              (with_reducible rename News _ _ _ _ => N9)
              refine PyProof.Rows.LCg.CompEnd.intro (by assumption) N9 _ (fun p hp => .tail _ hp) off trivial ⟨rfl, ?_⟩
              rw [dueL_pos heq]
              exact hB.append (.cons _ _ .nil)
            · rename ¬ List.take _ _ = ns => heq
              rw [slice_at hi] at heq
              (with_reducible rename News _ _ _ _ => N9)
              refine PyProof.Rows.LCg.CompEnd.intro (by assumption) N9 _ (fun p hp => .tail _ hp) off trivial ⟨rfl, ?_⟩
              rw [dueL_neg heq]
              exact hB
          · clear F9 N9
            intro ys nw hJ
            obtain ⟨rfl, hB1⟩ := hJ
            unfold PyProof.Rows.LCg.FinA
            intro D2 h3 tk3 F9 N9 o9
            clear o9
            k_steps
            unfold Stop
            refine wpAny_If ?_
            k_steps
            unfold Stop
            (with_reducible rename Fr _ _ _ _ => F9)
            k_dflt (refine LCt.ListComp_T (F₀ := F9) (by with_unfolding_all rfl) (by decide) (by rfl) (by decide) (by rfl) ?_)
            k_steps
            unfold Stop
            (with_reducible rename Fr _ _ _ _ => F9)
            (with_reducible rename News _ _ _ _ => N9)
            refine PyProof.Rows.LCt.CompSrcT.range (n := ((hs.length : Int) - ns.length + 1 - 0).toNat) rfl F9 N9 (N9.get (by k_mem)) (small_up (by omega) (by omega) (by omega) (by omega)) (rangeSize_nat _ _) (by rw [sizeLine_eq]; omega) (fun g => compRestT_ind (Ji _ (dueL hs ns)) _ ?_ ?_ _ 0 (Nat.zero_add _) [] _ ⟨rfl, IntsAre.nil⟩)
            ·
              clear F9 N9
              intro i ys nw hi hJ v I oI C oC D m₂ h tk E' hP hN hx F2 N2 off ne
              obtain ⟨rfl, hB⟩ := hJ
              obtain ⟨tv, rfl⟩ := hP
              have hik : i + ns.length ≤ hs.length := by omega
              have hi3 : (0 + (i : Int)).fdiv 3 = ((i / 3 : Nat) : Int) := by rw [Int.fdiv_eq_ediv_of_nonneg _ (by decide)]; omega
              have hi4 : 0 ≤ (0 + (i : Int)).fdiv 3 * 4 := by omega
              have hsl := sx_length hs
              k_steps
              unfold Stop
              obtain ⟨aq, zq, ld, hget, hmq, hzq, hld, hlm⟩ := face_at i hz1 hz2 hz3
              have hi5 : (0 + (i : Int)).fmod 3 = ((i % 3 : Nat) : Int) := by rw [Int.fmod_eq_emod_of_nonneg _ (by decide)]; omega
              (with_reducible rename News _ _ _ _ => N9)
              refine list_item (News.isList N9 (by k_mem)) (by omega) (by omega) hget ?_
              k_steps
              unfold Stop
              (with_reducible rename IntsAre _ (List.drop _ (sx hs)) => hI9)
              (with_reducible rename News _ _ _ _ => N9)
              have hqs := sx_length (ld ++ ns ++ [s2])
              simp only [List.length_append, List.length_cons, List.length_nil] at hqs
              have hns0 : 0 < ns.length := List.length_pos_iff.mpr hneN
              k_dflt (refine' Ctr.use ?k1 ?k2 ?k3 ?k4 ?k5 ?kK ?kd ?ku (stands_c _ aq _ zq _ _ _ _ _ _ _ _ (.head _) hI9 ?p2 hzq ?p3 ?p4 ?p5 ?p6 ?p7 ?p8 ?p9 ?p10) ?_; (case k1 => k_asm); (case k2 => k_asm); (case k3 => k_asm); (case k4 => k_asm); (case k5 => k_asm); (case kK => first | exact rfl | assumption); (case kd => ktr_room); (case ku => ktr_units))
              case p2 => repeat (first | exact hmq | apply List.mem_cons_of_mem)
              case p3 => omega
              case p4 => omega
              case p5 => omega
              case p6 => omega
              case p7 => rw [List.length_drop]; omega
              case p8 => rw [List.length_drop]; omega
              case p9 => omega
              case p10 => omega
              intro v9 tl9 h9 tk9 F9 N9 hR9
              obtain ⟨b, e1, e2, hb⟩ := hR9
              subst e1
              subst e2
              simp only [List.nil_append] at N9
              rw [hi3, hi5, show (((i / 3 : Nat) : Int) * 4).toNat = i / 3 * 4 by omega, stands_iff hin hinN (fun y hy => hsr y (hlm y hy)) (hsr s2 (by simp)) hik hld] at hb
              dsimp only
              cases b with
              | true =>
                have heq := hb.mp rfl
                k_steps
                (with_reducible rename News _ _ _ _ => N9)
                refine PyProof.Rows.LCg.CompEnd.intro (by assumption) N9 _ (fun p hp => .tail _ hp) off trivial ⟨rfl, ?_⟩
                rw [dueL_pos heq]
                exact hB.append (.cons _ _ .nil)
              | false =>
                have heq : ¬ (hs.drop i).take ns.length = ns := fun h => Bool.noConfusion (hb.mpr h)
                k_steps
                (with_reducible rename News _ _ _ _ => N9)
                refine PyProof.Rows.LCg.CompEnd.intro (by assumption) N9 _ (fun p hp => .tail _ hp) off trivial ⟨rfl, ?_⟩
                rw [dueL_neg heq]
                exact hB
            · clear F9 N9
              intro ys nw hJ
              obtain ⟨rfl, hB2⟩ := hJ
              unfold PyProof.Rows.LCg.FinE
              intro D3 h4 tk4 F9 N9 o9
              clear o9
              dsimp only
              have hsl := sx_length hs
              have hpw := pow_rng hs
              k_steps
              unfold Stop
              k_dflt (refine' Ctr.use ?k1 ?k2 ?k3 ?k4 ?k5 ?kK ?kd ?ku (number_c l5 ys5 _ (sx hs) _ _ ?n1 hI5 ?n3 ?n4) ?_; (case k1 => k_asm); (case k2 => k_asm); (case k3 => k_asm); (case k4 => k_asm); (case k5 => k_asm); (case kK => first | exact rfl | assumption); (case kd => ktr_room); (case ku => ktr_units))
              case n1 => k_mem
              case n3 => decide
              case n4 => decide
              intro v9 tl9 h9 tk9 F9 N9 hR9
              obtain ⟨u9, e1, e2⟩ := hR9
              subst e1
              subst e2
              simp only [List.nil_append] at N9
              dsimp only
              k_steps
              unfold Stop
              k_dflt (refine' Ctr.use ?k1 ?k2 ?k3 ?k4 ?k5 ?kK ?kd ?ku (number_c l2 ys2 n2 hs _ _ ?n1 hI2 ?n3 ?n4) ?_; (case k1 => k_asm); (case k2 => k_asm); (case k3 => k_asm); (case k4 => k_asm); (case k5 => k_asm); (case kK => first | exact rfl | assumption); (case kd => ktr_room); (case ku => ktr_units))
              case n1 => k_mem
              case n3 => decide
              case n4 => decide
              intro v8 tl8 h8 tk8 F8 N8 hR8
              obtain ⟨u8, e1, e2⟩ := hR8
              subst e1
              subst e2
              simp only [List.nil_append] at N8
              dsimp only
              k_steps
              unfold Stop
              refine mul_small hpw.2.2.1 hpw.2.2.2 ?_
              k_steps
              rw [show (numB 64 (sx hs) == numB 256 hs * 2 ^ (6 * ((sx hs).length : Int) - 8 * (hs.length : Int)).toNat) = true from beq_iff_eq.mpr (number_eq hs)]
              k_steps)
end
end Mine
end

set_option maxRecDepth 100000 in
theorem PySem.Challenge.cw_ki0008_03_holds : PySem.Challenge.rw_ki0008_03.Holds :=
  Mine.law3
