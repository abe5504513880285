import PyProof.Rows.All
import Wide.All
import OpenK.AllK
import Wide.FinOn
import PySem.Challenge.RW_ki0008_01

section
open PySem PySem.W PyProof.Rows
set_option Elab.async false
namespace Mine
set_option maxRecDepth 100000 in
set_option maxHeartbeats 8000000 in
open_top hd for PySem.Challenge.rw_ki0008_01
end Mine
end

section
open PySem PySem.W PyProof.Rows
set_option Elab.async false
namespace Mine

/-- a mark at which the walk stops -/
def Stop (P : Prop) : Prop := P
theorem Stop.go {P : Prop} (h : Stop P) : P := h
/-- a contract: the call ends by handing back what R says, `tl` on top of the ledger -/
abbrev Ctr (w : World) (mean : ExcName → Option Value) (mg mb : Str → Option Value) (need : Nat) (f : Addr) (news : List (Addr × Obj)) (vs : List Value) (kw : List (Str × Value)) (R : Value → List (Addr × Obj) → Prop) : Prop :=
  ∀ (dp un : Nat) (gd : Option (List Code)) (cn : Str) (cs : Scope) (a : Addr) (ccd : Value) (cl : List (Str × Addr)) (outer : List Env) (A₀ : Around) (base h₀ : Heap) (L : Addr) (m : Str → Option Value) (s : Shared) (Q E : Value → Shared → Prop),
    Below A₀ base outer h₀ → Fr h₀ L s.heap m → (hd.heap_39 w.params).In h₀ → News h₀ L s.heap news → Top hd.view_39 (looseW hd.view_39 [Str.ofString "b2a_base64", Str.ofString "b64encode"]) mean mg mb h₀ → cs.kind = .function →
    dp + need < recursionLimit → un + 8 * need < cLine →
    (∀ v tl h' tk', Fr h₀ L h' m → News h₀ L h' (tl ++ news) → R v tl → Q v { s with heap := h', toks := tk' }) →
      wpAny (model Challenge.rw_ki0008_01.row.prog w) (ktrTop dp un gd cn cs L a ccd cl outer) (call (.ref f) vs kw) Q E s

theorem Ctr.use {w : World} {mean : ExcName → Option Value} {mg mb : Str → Option Value} {need : Nat} {f : Addr} {news : List (Addr × Obj)} {vs : List Value} {kw : List (Str × Value)} {R : Value → List (Addr × Obj) → Prop}
    {dp un : Nat} {gd : Option (List Code)} {cn : Str} {cs : Scope} {a : Addr} {ccd : Value} {cl : List (Str × Addr)} {outer : List Env} {A₀ : Around} {base h₀ : Heap} {L : Addr} {m : Str → Option Value} {s : Shared} {Q E : Value → Shared → Prop}
    (B : Below A₀ base outer h₀) (F : Fr h₀ L s.heap m) (X : (hd.heap_39 w.params).In h₀) (N : News h₀ L s.heap news) (T : Top hd.view_39 (looseW hd.view_39 [Str.ofString "b2a_base64", Str.ofString "b64encode"]) mean mg mb h₀) (hk : cs.kind = .function)
    (hd : dp + need < recursionLimit) (hu : un + 8 * need < cLine) (C : Ctr w mean mg mb need f news vs kw R)
    (ret : ∀ v tl h' tk', Fr h₀ L h' m → News h₀ L h' (tl ++ news) → R v tl → Q v { s with heap := h', toks := tk' }) :
    wpAny (model Challenge.rw_ki0008_01.row.prog w) (ktrTop dp un gd cn cs L a ccd cl outer) (call (.ref f) vs kw) Q E s := C _ _ _ _ _ _ _ _ _ _ _ _ _ _ _ _ _ B F X N T hk hd hu ret

end Mine
end

section
open PySem PySem.W PyProof.Rows
set_option Elab.async false
namespace Mine
/-- the alphabet -/
def b64s : List Int := [65, 66, 67, 68, 69, 70, 71, 72, 73, 74, 75, 76, 77, 78, 79, 80, 81, 82, 83, 84, 85, 86, 87, 88, 89, 90, 97, 98, 99, 100, 101, 102, 103, 104, 105, 106, 107, 108, 109, 110, 111, 112, 113, 114, 115, 116, 117, 118, 119, 120, 121, 122, 48, 49, 50, 51, 52, 53, 54, 55, 56, 57, 43, 47]
def sg (i : Int) : Int := b64s.getD i.toNat 0
/-- the places (sextets) of a row of octets -/
def sx : List Int → List Int
  | [] => []
  | [a] => [a / 4, a % 4 * 16]
  | [a, b] => [a / 4, a % 4 * 16 + b / 16, b % 16 * 4]
  | a :: b :: c :: r => a / 4 :: (a % 4 * 16 + b / 16) :: (b % 16 * 4 + c / 64) :: c % 64 :: sx r
/-- how many signs of = -/
def padN (n : Nat) : Nat := (3 - n % 3) % 3
def enc (ks : List Int) : List Int := (sx ks).map sg ++ List.replicate (padN ks.length) 61
theorem sx_app3 : ∀ (q r : List Int), q.length % 3 = 0 → sx (q ++ r) = sx q ++ sx r
  | [], r, _ => rfl
  | [a], r, h => by simp at h
  | [a, b], r, h => by simp at h
  | a :: b :: c :: q, r, h => by
    have h' : q.length % 3 = 0 := by simp only [List.length_cons] at h; omega
    simp only [List.cons_append, sx]
    rw [sx_app3 q r h']
/-- the state between two turns of b2a_base64's loop -/
def InvB (pre os : List Int) (lb lc : Int) : Prop :=
  0 ≤ lc ∧ lc < 65536 ∧ ∃ q r, pre = q ++ r ∧ q.length % 3 = 0 ∧
    ((r = [] ∧ lb = 0 ∧ os = (sx q).map sg) ∨ (∃ a, r = [a] ∧ lb = 2 ∧ lc % 256 = a ∧ os = (sx q).map sg ++ [sg (a / 4)]) ∨
      (∃ a b, r = [a, b] ∧ lb = 4 ∧ lc % 256 = b ∧ os = (sx q).map sg ++ [sg (a / 4), sg (a % 4 * 16 + b / 16)]))
theorem InvB.start : InvB [] [] 0 0 := ⟨by omega, by omega, [], [], rfl, rfl, .inl ⟨rfl, rfl, rfl⟩⟩
theorem sx_length : ∀ q : List Int, (sx q).length = (4 * q.length + 2) / 3
  | [] => by simp [sx]
  | [a] => by simp [sx]
  | [a, b] => by simp [sx]
  | a :: b :: c :: q => by simp only [sx, List.length_cons]; rw [sx_length q]; omega
abbrev lcn (lc x : Int) : Int := Builtin.bitAnd (Builtin.bitOr (lc * 2 ^ Int.toNat 8) x) 65535
theorem and_disj {a x : Int} (ha : 0 ≤ a) (h0 : 0 ≤ x) (h1 : x < 256) : Builtin.bitAnd (a * 256) x = 0 := by
  rw [bitAnd_pp (by omega) h0]
  have e : (a * 256).toNat = a.toNat * 256 := by omega
  rw [e]
  have hx : x.toNat < 2 ^ 8 := by omega
  have : (a.toNat * 256) &&& x.toNat = 0 := by
    apply Nat.eq_of_testBit_eq
    intro i
    rw [Nat.testBit_and, Nat.zero_testBit]
    by_cases hi : i < 8
    · have : (a.toNat * 256).testBit i = false := by
        rw [show a.toNat * 256 = 2 ^ 8 * a.toNat by omega, Nat.testBit_two_pow_mul]
        simp; omega
      rw [this]; rfl
    · have : x.toNat.testBit i = false := Nat.testBit_lt_two_pow (Nat.lt_of_lt_of_le hx (Nat.pow_le_pow_right (by decide) (by omega)))
      rw [this, Bool.and_false]
  rw [this]; rfl
theorem lcn_eq {lc x : Int} (hc : 0 ≤ lc) (h0 : 0 ≤ x) (h1 : x < 256) : lcn lc x = (lc * 256 + x) % 65536 := by
  unfold lcn
  rw [bitAnd_m16, show (2 : Int) ^ Int.toNat 8 = 256 from rfl, bitOr_and, and_disj hc h0 h1]
  omega
theorem lcn_rng (lc x : Int) : 0 ≤ lcn lc x ∧ lcn lc x < 65536 := by unfold lcn; rw [bitAnd_m16]; omega
theorem b64_ix (y : Int) : 0 ≤ Builtin.bitAnd y 63 ∧ Builtin.bitAnd y 63 < 64 := by rw [bitAnd_m6]; omega
theorem b64_ix3 (y : Int) : 0 ≤ Builtin.bitAnd y 3 * 2 ^ Int.toNat 4 ∧ Builtin.bitAnd y 3 * 2 ^ Int.toNat 4 < 64 := by rw [bitAnd_m2, show (2 : Int) ^ Int.toNat 4 = 16 from rfl]; omega
theorem b64_ix15 (y : Int) : 0 ≤ Builtin.bitAnd y 15 * 2 ^ Int.toNat 2 ∧ Builtin.bitAnd y 15 * 2 ^ Int.toNat 2 < 64 := by rw [bitAnd_m4, show (2 : Int) ^ Int.toNat 2 = 4 from rfl]; omega
theorem sg_in (i : Int) : 0 ≤ sg i ∧ sg i < 256 := KBw.getD_in (by decide)
theorem sgs_in (l : List Int) : KBa.In (l.map sg) := by
  intro n hn
  obtain ⟨i, _, rfl⟩ := List.mem_map.mp hn
  exact sg_in i
theorem InvB.s0 {pre q : List Int} {lc x : Int} (hq : q.length % 3 = 0) (hpre : pre = q ++ []) (hc : 0 ≤ lc) (h0 : 0 ≤ x) (h1 : x < 256) :
    InvB (pre ++ [x]) ((sx q).map sg ++ [b64s.getD (Builtin.bitAnd ((lcn lc x).fdiv (2 ^ (0 + 8 - 6 : Int).toNat)) 63).toNat 0]) (0 + 8 - 6) (lcn lc x) := by
  have hr := lcn_rng lc x
  refine ⟨hr.1, hr.2, q, [x], by rw [hpre]; simp, hq, .inr (.inl ⟨x, rfl, by omega, ?_, ?_⟩)⟩
  · rw [lcn_eq hc h0 h1]; omega
  · congr 2
    show sg _ = _
    congr 1
    rw [bitAnd_m6, lcn_eq hc h0 h1, show (2 : Int) ^ (0 + 8 - 6 : Int).toNat = 4 from rfl, Int.fdiv_eq_ediv_of_nonneg _ (by decide)]
    omega
theorem InvB.s2 {pre q : List Int} {lc a x : Int} (hq : q.length % 3 = 0) (hpre : pre = q ++ [a]) (hc : 0 ≤ lc) (ha : lc % 256 = a) (h0 : 0 ≤ x) (h1 : x < 256) :
    InvB (pre ++ [x]) (((sx q).map sg ++ [sg (a / 4)]) ++ [b64s.getD (Builtin.bitAnd ((lcn lc x).fdiv (2 ^ (2 + 8 - 6 : Int).toNat)) 63).toNat 0]) (2 + 8 - 6) (lcn lc x) := by
  have hr := lcn_rng lc x
  refine ⟨hr.1, hr.2, q, [a, x], by rw [hpre]; simp, hq, .inr (.inr ⟨a, x, rfl, by omega, ?_, ?_⟩)⟩
  · rw [lcn_eq hc h0 h1]; omega
  · rw [List.append_assoc]
    congr 1
    show [sg (a / 4), sg _] = _
    congr 2
    congr 1
    rw [bitAnd_m6, lcn_eq hc h0 h1, show (2 : Int) ^ (2 + 8 - 6 : Int).toNat = 16 from rfl, Int.fdiv_eq_ediv_of_nonneg _ (by decide)]
    omega
theorem InvB.s4 {pre q : List Int} {lc a b x : Int} (hq : q.length % 3 = 0) (hpre : pre = q ++ [a, b]) (hc : 0 ≤ lc) (ha : lc % 256 = b) (h0 : 0 ≤ x) (h1 : x < 256) :
    InvB (pre ++ [x]) ((((sx q).map sg ++ [sg (a / 4), sg (a % 4 * 16 + b / 16)]) ++ [b64s.getD (Builtin.bitAnd ((lcn lc x).fdiv (2 ^ (4 + 8 - 6 : Int).toNat)) 63).toNat 0]) ++ [b64s.getD (Builtin.bitAnd ((lcn lc x).fdiv (2 ^ (4 + 8 - 6 - 6 : Int).toNat)) 63).toNat 0]) (4 + 8 - 6 - 6) (lcn lc x) := by
  have hr := lcn_rng lc x
  refine ⟨hr.1, hr.2, q ++ [a, b, x], [], by rw [hpre]; simp, by simp only [List.length_append, List.length_cons, List.length_nil]; omega, .inl ⟨rfl, by omega, ?_⟩⟩
  rw [sx_app3 q _ hq]
  simp only [sx, List.map_append, List.map_cons, List.map_nil, List.append_assoc, List.cons_append, List.nil_append]
  have e1 : Builtin.bitAnd ((lcn lc x).fdiv (2 ^ (4 + 8 - 6 : Int).toNat)) 63 = b % 16 * 4 + x / 64 := by
    rw [bitAnd_m6, lcn_eq hc h0 h1, show (2 : Int) ^ (4 + 8 - 6 : Int).toNat = 64 from rfl, Int.fdiv_eq_ediv_of_nonneg _ (by decide)]
    omega
  have e2 : Builtin.bitAnd ((lcn lc x).fdiv (2 ^ (4 + 8 - 6 - 6 : Int).toNat)) 63 = x % 64 := by
    rw [bitAnd_m6, lcn_eq hc h0 h1, show (2 : Int) ^ (4 + 8 - 6 - 6 : Int).toNat = 1 from rfl, Int.fdiv_eq_ediv_of_nonneg _ (by decide)]
    omega
  rw [e1, e2]
  rfl
theorem InvB.len {pre os : List Int} {lb lc : Int} (h : InvB pre os lb lc) : os.length ≤ 2 * pre.length := by
  obtain ⟨_, _, q, r, rfl, hq, h | ⟨a, h⟩ | ⟨a, b, h⟩⟩ := h
  · obtain ⟨rfl, rfl, rfl⟩ := h; simp [sx_length]; omega
  · obtain ⟨rfl, rfl, _, rfl⟩ := h; simp [sx_length]; omega
  · obtain ⟨rfl, rfl, _, rfl⟩ := h; simp [sx_length]; omega
theorem enc_app3 {q r : List Int} (hq : q.length % 3 = 0) : enc (q ++ r) = (sx q).map sg ++ enc r := by
  unfold enc
  rw [sx_app3 q r hq, List.map_append, List.append_assoc]
  have : padN (q ++ r).length = padN r.length := by unfold padN; rw [List.length_append]; omega
  rw [this]
theorem enc_in (l : List Int) : KBa.In (enc l) := by
  intro n hn
  rcases List.mem_append.mp hn with h | h
  · exact sgs_in _ n h
  · rw [List.eq_of_mem_replicate h]; decide
theorem enc_q1 {q : List Int} {lc a : Int} (hq : q.length % 3 = 0) (ha : lc % 256 = a) : (sx q).map sg ++ [sg (a / 4)] ++ [b64s.getD (Builtin.bitAnd lc 3 * 2 ^ Int.toNat 4).toNat 0] ++ [61] ++ [61] = enc (q ++ [a]) := by
  rw [enc_app3 hq]
  have e : Builtin.bitAnd lc 3 * 2 ^ Int.toNat 4 = a % 4 * 16 := by rw [bitAnd_m2, show (2 : Int) ^ Int.toNat 4 = 16 from rfl]; omega
  rw [e]
  simp [enc, sx, padN, sg, List.replicate]
theorem enc_q2 {q : List Int} {lc a b : Int} (hq : q.length % 3 = 0) (hb : lc % 256 = b) : (sx q).map sg ++ [sg (a / 4), sg (a % 4 * 16 + b / 16)] ++ [b64s.getD (Builtin.bitAnd lc 15 * 2 ^ Int.toNat 2).toNat 0] ++ [61] = enc (q ++ [a, b]) := by
  rw [enc_app3 hq]
  have e : Builtin.bitAnd lc 15 * 2 ^ Int.toNat 2 = b % 16 * 4 := by rw [bitAnd_m4, show (2 : Int) ^ Int.toNat 2 = 4 from rfl]; omega
  rw [e]
  simp [enc, sx, padN, sg, List.replicate]
theorem enc_q {q : List Int} (hq : q.length % 3 = 0) : (sx q).map sg = enc (q ++ []) := by
  rw [enc_app3 hq]; simp [enc, sx, padN]
theorem bInts_inj {a b : Array UInt8} (h : KBw.bInts a = KBw.bInts b) : a = b := by
  unfold KBw.bInts at h
  have : a.toList = b.toList := by
    have inj : ∀ (l m : List UInt8), (l.map fun c => (c.toNat : Int)) = (m.map fun c => (c.toNat : Int)) → l = m := by
      intro l
      induction l with
      | nil => intro m h; cases m with | nil => rfl | cons _ _ => cases h
      | cons x l ih =>
        intro m h
        cases m with
        | nil => cases h
        | cons y m =>
          simp only [List.map_cons, List.cons.injEq] at h
          rw [ih m h.2, UInt8.toNat_inj.mp (by omega : x.toNat = y.toNat)]
    exact inj _ _ h
  exact Array.ext' this
theorem enc_length (ks : List Int) : (enc ks).length = (ks.length + 2) / 3 * 4 := by
  unfold enc padN
  rw [List.length_append, List.length_map, List.length_replicate, sx_length]; omega
end Mine
end

section
open PySem PySem.W PyProof.Rows
set_option Elab.async false
set_option maxRecDepth 100000
namespace Mine
theorem all_lt_ne {news : List (Addr × Obj)} {a b : Nat} (h : ∀ p ∈ news, p.1 < a) (hab : a ≤ b) : ∀ p ∈ news, p.1 ≠ b := fun p hp => Nat.ne_of_lt (Nat.lt_of_lt_of_le (h p hp) hab)
theorem all_app {P : Addr × Obj → Prop} {a b : List (Addr × Obj)} (h1 : ∀ p ∈ a, P p) (h2 : ∀ p ∈ b, P p) : ∀ p ∈ a ++ b, P p := fun p hp => (List.mem_append.mp hp).elim (h1 p) (h2 p)
theorem kst_end {σ : Type} {Led : σ → List (Addr × Obj)} {ps : σ → List (Str × Value)} {Facts : σ → Prop} {x : Str} {stored : List Str} {m₀ m' : Str → Option Value} {P : List Int → σ → Prop} {pre' : List Int} {g h' : Heap} {L : Addr} {own : List (Addr × Obj)} {adr : List Addr} {s₁ : Shared} {tk : Nat} (c : σ)
    (F : Fr g L h' m') (N : News g L h' (Led c ++ own)) (hf : Facts c) (hk : ∀ p ∈ ps c, m' p.1 = some p.2) (hr : ∀ z, z ≠ x → (∀ p ∈ ps c, z ≠ p.1) → stored.contains z = false → m' z = m₀ z) (hP : P pre' c) (ha : (Led c).map (·.1) = adr) :
    InvEndN g L (KstS Led ps Facts x stored m₀ P pre') own adr s₁ { s₁ with heap := h', toks := tk } :=
  ⟨h', tk, m', _, Led c, rfl, F, N, fun _ hp => List.mem_append_left _ hp, fun _ hp => List.mem_append_right _ hp, ha, c, rfl, hf, hk, hr, hP⟩
open Builtin
section
variable {prog : Program} {w : World} {A : Around} {E : Value → Shared → Prop} {s : Shared} {b c : Array UInt8} {t u : Tok} {h₀ : Heap} {L : Addr} {m : PySem.Str → Option Value} {news : List (Addr × Obj)}
theorem gives_in_int {i : Int} (h0 : 0 ≤ i) (h1 : i < 256) : Gives («bytes.__contains__» ⟨[.bytes b t, .int i u], []⟩) (.val (.bool (b.contains i.toNat.toUInt8))) := by
  refine .of_wp fun M A E s Q hq => ?_
  show wpAny M A ((do let r ← Bytes.containsIn "bytes.__contains__" (.bytes b t) (.int i u); ret (.bool r)) : Sem Fin) _ E s
  refine wpAny_bind ?_
  unfold Bytes.containsIn
  refine wpAny_bind (wpAny_attempt (wpAny_of_eq (rfl : asIndex (.int i u) = pure i) ?_))
  refine wpAny_bind (wpAny_of_eq KBy.buffer_eq ?_)
  dsimp only
  rw [if_neg (by simp only [Bool.or_eq_true, decide_eq_true_eq]; omega)]
  exact wpAny_pure (wpAny_pure ⟨_, rfl, hq⟩)
theorem notIn_int {i : Int} {Q : Value → Shared → Prop} (h0 : 0 ≤ i) (h1 : i < 256) (h : Q (.bool (!b.contains i.toNat.toUInt8)) s) : wpAny (model prog w) A (compareOp .NotIn (.int i u) (.bytes b t)) Q E s :=
  notIn_gives (typeIs_bytes s b t) FB.slot_bytes_contains FB.entry_bytes_contains (FB.args_bytes_contains_2 _ _) (gives_in_int h0 h1) h
/-- a single octet is found if and only if it is a member -/
theorem find_one {ks : List Int} (hb : KBw.bInts b = ks) (x : UInt8) : (Bytes.find? b #[x] 0 b.size).isSome = ks.contains (x.toNat : Int) := by
  subst hb
  have hl : b.toList.toArray = b := Array.toArray_toList
  rw [Bool.eq_iff_iff]
  unfold Bytes.find?
  rw [List.find?_isSome]
  simp only [List.contains_iff_mem, KBw.bInts, List.mem_map, Nat.add_zero, List.mem_range]
  constructor
  · rintro ⟨i, ⟨j, hj, rfl⟩, he⟩
    have hj' : j < b.size := by simp at hj; omega
    refine ⟨b[j], by simp, ?_⟩
    have he' := eq_of_beq he
    have : b.extract j (j + 1) = #[b[j]] := by
      apply Array.ext
      · simp; omega
      · intro i h1 h2
        simp at h2
        subst h2
        simp
    simp only [List.size_toArray, List.length_cons, List.length_nil] at he'
    rw [this] at he'
    have e : b[j] = x := by simpa using he'
    rw [e]
  · rintro ⟨y, hy, he⟩
    have e : y = x := by
      apply UInt8.toNat_inj.mp
      omega
    subst e
    obtain ⟨j, hj, hjy⟩ := List.getElem_of_mem hy
    have hj' : j < b.size := by simpa using hj
    refine ⟨j, ⟨j, by simp; omega, rfl⟩, ?_⟩
    have hjy' : b[j] = y := by simpa using hjy
    have : b.extract j (j + 1) = #[b[j]] := by
      apply Array.ext
      · simp; omega
      · intro i h1 h2
        simp at h2
        subst h2
        simp
    simp only [List.size_toArray, List.length_cons, List.length_nil]
    rw [this, hjy']
    exact beq_self_eq_true _
theorem mul61 {n : Int} {Q : Value → Shared → Prop} (h0 : 0 ≤ n) (h1 : n ≤ 3) (h : ∀ c t' k, KBw.bInts c = List.replicate n.toNat 61 → Q (.bytes c t') { s with toks := k }) :
    wpAny (model prog w) A (binaryOp .Mult (.bytes #[61] t) (.int n u)) Q E s := by
  refine bytes_mul_any (b := [61]) (by decide) (by omega) (by omega) (by decide) fun t' k => h _ t' k ?_
  have : ∀ j : Nat, (List.replicate j [(61 : UInt8)]).flatten = List.replicate j 61 := by
    intro j
    induction j with
    | zero => rfl
    | succ j ih => rw [List.replicate_succ, List.flatten_cons, ih]; rfl
  rw [this]
  simp [KBw.bInts]
theorem neF {ks ls : List Int} {Q : Value → Shared → Prop} (hb : KBw.bInts b = ks) (hc : KBw.bInts c = ls) (e : ks = ls) (h : Q (.bool false) s) : wpAny (model prog w) A (compareOp .NotEq (.bytes b t) (.bytes c u)) Q E s := by
  have : b = c := bInts_inj (by rw [hb, hc, e])
  subst this
  refine ne_bytes ?_
  have e1 : (b.toList != b.toList) = false := by simp
  rw [e1]; exact h
theorem list_item {value slice : PySem.Expr} {l : Addr} {vs : List Value} {i : Int} {v : Value} {Q : Value → Shared → Prop} (hl : s.heap.IsList l vs.toArray) (h0 : 0 ≤ i) (h1 : i < 2 ^ 63) (hx : vs[i.toNat]? = some v) (h : Q v s)
    (hs : subscripted slice false (.ref l) (.int i u) = operate [.ref l, .int i u] (getItem (.ref l) (.int i u)) := by with_unfolding_all rfl) :
    wpAny (model prog w) A (subscriptTail value slice (.ref l) (.int i u)) Q E s :=
  tail_any hl.typeIs slot_list_getitem.lookup (wpAny_getItem_list hl h0 h1 (by simpa using hx) h) hs
theorem list_int {value slice : PySem.Expr} {l : Addr} {vs : List Value} {ns : List Int} {i : Int} {Q : Value → Shared → Prop} (hl : s.heap.IsList l vs.toArray) (hi : IntsAre vs ns) (h0 : 0 ≤ i) (h1 : i < (ns.length : Int)) (h2 : ns.length < 2 ^ 62) (h : ∀ t', Q (.int (ns.getD i.toNat 0) t') s)
    (hs : subscripted slice false (.ref l) (.int i u) = operate [.ref l, .int i u] (getItem (.ref l) (.int i u)) := by with_unfolding_all rfl) :
    wpAny (model prog w) A (subscriptTail value slice (.ref l) (.int i u)) Q E s := by
  obtain ⟨t', ht⟩ := hi.get i.toNat (ns.getD i.toNat 0) (by rw [List.getD_eq_getElem?_getD, List.getElem?_eq_getElem (by omega)]; rfl)
  exact list_item hl h0 (by omega) ht (h t') hs
/-- values that are bytes, by their octets -/
inductive BysAre : List Value → List (List Int) → Prop
  | nil : BysAre [] []
  | cons {b : Array UInt8} {k : List Int} (t : Tok) {vs : List Value} {ks : List (List Int)} : KBw.bInts b = k → BysAre vs ks → BysAre (.bytes b t :: vs) (k :: ks)
theorem BysAre.length : ∀ {vs : List Value} {ks : List (List Int)}, BysAre vs ks → vs.length = ks.length
  | _, _, .nil => rfl
  | _, _, .cons _ _ h => congrArg (· + 1) h.length
theorem BysAre.get : ∀ {vs : List Value} {ks : List (List Int)}, BysAre vs ks → ∀ (i : Nat), i < ks.length → ∃ b t, vs[i]? = some (.bytes b t) ∧ KBw.bInts b = ks.getD i []
  | _, _, .cons t hb _, 0, _ => ⟨_, t, rfl, hb⟩
  | _, _, .cons _ _ h, i + 1, hi => h.get i (by simpa using hi)
theorem BysAre.append : ∀ {vs ws : List Value} {ks ls : List (List Int)}, BysAre vs ks → BysAre ws ls → BysAre (vs ++ ws) (ks ++ ls)
  | _, _, _, _, .nil, h => h
  | _, _, _, _, .cons t hb r, h => .cons t hb (r.append h)
theorem BysAre.one {b : Array UInt8} {k : List Int} (t : Tok) (h : KBw.bInts b = k) : BysAre [.bytes b t] [k] := .cons t h .nil
theorem eqGives_bytes (x y : Array UInt8) (t u : Tok) : MeetsSeq.EqGives (.bytes x t) (.bytes y u) (x.toList == y.toList) := by
  intro prog w A E s Q h
  unfold eqBool
  refine wpAny_holding ?_
  refine wpAny_ite_split (fun hab => ?_) (fun hab => ?_)
  · have e : x = y := by have := eq_of_beq hab; injection this
    subst e
    exact wpAny_bind (wpAny_rule (wpAny_pure (by simpa using h)))
  · exact wpAny_bind (richCompare_gives (typeIs_bytes s x t) (typeIs_bytes s y u) FB.slot_bytes_eq FB.entry_bytes_eq (FB.args_bytes_eq_2 _ _) (gives_bytes_eq x y t u) (by simp [Made.takes]) (wpAny_truthy_bool h))
/-- two lists of bytes that are alike -/
theorem eq_byts {a b : Addr} {xs ys : List Value} {ks ls : List (List Int)} {Q : Value → Shared → Prop} (ha : s.heap.IsList a xs.toArray) (hb : s.heap.IsList b ys.toArray) (hx : BysAre xs ks) (hy : BysAre ys ls) (e : ks = ls) (hu : A.units < cLine) (h : Q (.bool true) s) :
    wpAny (model prog w) A (compareOp .Eq (.ref a) (.ref b)) Q E s := by
  subst e
  refine cmp_ofEq ?_
  have hx' := hx.length
  have hy' := hy.length
  have := SeqAt.RcAt.lists (A := A) (s := s) (e := fun _ => true) ha hb (by simp; omega) hu (fun j h1 h2 => by
    have h1' : j < ks.length := by simp at h1; omega
    obtain ⟨b1, t1, e1, k1⟩ := hx.get j h1'
    obtain ⟨b2, t2, e2, k2⟩ := hy.get j h1'
    have g1 : xs.toArray[j] = .bytes b1 t1 := by
      have hj : j < xs.length := by omega
      simp only [List.getElem_toArray]
      exact Option.some.inj ((List.getElem?_eq_getElem hj).symm.trans e1)
    have g2 : ys.toArray[j] = .bytes b2 t2 := by
      have hj : j < ys.length := by omega
      simp only [List.getElem_toArray]
      exact Option.some.inj ((List.getElem?_eq_getElem hj).symm.trans e2)
    rw [g1, g2]
    have eb : b1 = b2 := bInts_inj (k1.trans k2.symm)
    subst eb
    have := (eqGives_bytes b1 b1 t1 t2).at A.in1 s
    rwa [beq_self_eq_true] at this)
  refine this prog w E Q ?_
  have : (List.range xs.toArray.size).all (fun _ => true) = true := by simp
  rw [this]; exact h
end
open PyProof.Rows.LCg in
/-- a comprehension's turns by an invariant -/
theorem compRest_ind {prog : Program} {w : World} {A : Around} {h₀ : Heap} {L : Addr} {m : PySem.Str → Option Value} {env : Env} {elt : PySem.Expr} {x : PySem.Str} {scope : Scope} {cl : List (PySem.Str × Addr)} {s : Shared} {S : List (Addr × Obj) → Prop} {P : Nat → Value → Prop} {Fin : List Value → List (Addr × Obj) → Prop}
    (J : Nat → List Value → List (Addr × Obj) → Prop) (n : Nat)
    (step : ∀ i ys news, i < n → J i ys news → ∀ v I oI C oC D m₂ h tk (E' : Value → Shared → Prop), P i v → NsObj oC m₂ → m₂ x = some v → Fr h₀ L h m → News h₀ L h ((I, oI) :: (C, oC) :: (D, lst ys) :: news) → Off3 I C D news → ((@Ne Nat I C) ∧ (@Ne Nat I D) ∧ (@Ne Nat C D)) →
      wpAny (model prog w) A (eval elt (compEnvC scope cl C env)) (CompEnd h₀ L m { s with heap := h, toks := tk } I oI C oC D (lst ys) S (fun y news' => J (i + 1) (ys ++ [y]) news')) E' { s with heap := h, toks := tk })
    (fin : ∀ ys news, J n ys news → Fin ys news) : ∀ (k i : Nat), i + k = n → ∀ ys news, J i ys news → CompRest prog w A h₀ L m env elt x scope cl s S P Fin k i ys news
  | 0, i, hk, ys, news, hJ => CompRest.zero (fin ys news ((show i = n by omega) ▸ hJ))
  | k + 1, i, hk, ys, news, hJ => CompRest.succ fun v I oI C oC D m₂ h tk E' hP hN hx F N off ne =>
    wpAny_mono (step i ys news (by omega) hJ v I oI C oC D m₂ h tk E' hP hN hx F N off ne) (fun y s₂ ⟨h', tk', news', e, F', N', off', hS, hJ'⟩ => ⟨h', tk', news', e, F', N', off', hS, compRest_ind J n step fin k (i + 1) (by omega) _ _ hJ'⟩) fun _ _ e => e
end Mine
end

section
open PySem PySem.W PyProof.Rows
set_option Elab.async false
namespace Mine
theorem sx_in : ∀ {ks : List Int}, KBa.In ks → ∀ i ∈ sx ks, 0 ≤ i ∧ i < 64
  | [], _, i, hi => by simp [sx] at hi
  | [a], h, i, hi => by
    have ha := h a (by simp)
    simp only [sx, List.mem_cons, List.not_mem_nil, or_false] at hi
    omega
  | [a, b], h, i, hi => by
    have ha := h a (by simp)
    have hb := h b (by simp)
    simp only [sx, List.mem_cons, List.not_mem_nil, or_false] at hi
    omega
  | a :: b :: c :: r, h, i, hi => by
    have ha := h a (by simp)
    have hb := h b (by simp)
    have hc := h c (by simp)
    simp only [sx, List.mem_cons] at hi
    rcases hi with rfl | rfl | rfl | rfl | hi
    · omega
    · omega
    · omega
    · omega
    · exact sx_in (fun x hx => h x (by simp [hx])) i hi
theorem sg_low : ∀ i : Nat, i < 62 → b64s.getD i 0 ≠ 43 ∧ b64s.getD i 0 ≠ 47 := by decide
theorem cnt_z (n : Nat) : (4 * (n : Int) + 2).fdiv 3 = (((4 * n + 2) / 3 : Nat) : Int) := by
  rw [Int.fdiv_eq_ediv_of_nonneg _ (by decide)]; omega
theorem clip_take (l : List Int) {x : Int} (h : 0 ≤ x) : l.take (clipAt l.length x) = l.take x.toNat := by
  have e : clipAt l.length x = min x.toNat l.length := by
    obtain ⟨j, rfl⟩ : ∃ j : Nat, x = (j : Int) := ⟨x.toNat, by omega⟩
    rw [clipAt_nat]; rfl
  rw [e]
  rcases Nat.le_total x.toNat l.length with h1 | h1
  · rw [Nat.min_eq_left h1]
  · rw [Nat.min_eq_right h1, List.take_length, List.take_of_length_le h1]
end Mine
end

section
open PySem PySem.W PyProof.Rows
set_option Elab.async false
set_option maxRecDepth 100000
namespace Mine
open Builtin
namespace BT
theorem slot_translate : Slot "bytes" "translate" "bytes.translate" :=
  .of (owner := "bytes") (n := "translate") (by rw [typeLookup_type, builtinLookup_eq_fast]; kernel_rfl) (by decide +kernel) (by decide +kernel) (by decide +kernel)
    (by first | exact .inl (by decide +kernel) | exact .inr (by decide +kernel)) (by rw [isSubtype_type]; kernel_rfl)
theorem type_translate : typeOf (.builtin "bytes.translate") = pure (.type "method_descriptor") := by show builtinType _ = _; rw [builtinType_eq_fast]; kernel_rfl
theorem entry_translate : entryFor table "bytes.translate" = some Builtin.«bytes.translate» := entryFor_of_tree (by kernel_rfl)
theorem args_translate (a b : Value) : argsOk "bytes.translate" ⟨[a, b], []⟩ := by
  unfold argsOk; rw [signature?_of (id := "bytes.translate") (n := ['e', 't', 'a', 'l', 's', 'n', 'a', 'r', 't']) (o := ['s', 'e', 't', 'y', 'b']) (by kernel_rfl) FB.owner_bytes]; kernel_rfl
end BT
section
variable {prog : Program} {w : World} {A : Around} {E : Value → Shared → Prop} {s : Shared} {b c : Array UInt8} {t u : Tok}
theorem method_translate {M : Model} {pl : Sem Bool} {Q : Value × List Value → Shared → Prop} (h : Q (.builtin "bytes.translate", [.bytes b t]) s) : wpAny M A (getMethod (.bytes b t) "translate" pl) Q E s := by
  with_reducible exact KBd.method_of (.bytes b t) (typeIs_bytes _ _ _) BT.slot_translate BT.type_translate KBd.noRef h
theorem gives_translate (hc : c.size = 256) (hb : b.size ≤ 16777216) : Gives («bytes.translate» ⟨[.bytes b t, .bytes c u], []⟩) (if (b.map fun x => c.getD x.toNat x) == b then .val (.bytes b t) else .bytes (b.map fun x => c.getD x.toNat x)) := by
  refine .of_wp fun M A E s Q hq => ?_
  show wpAny M A (Bytes.translateM .bytes ⟨[.bytes b t, .bytes c u], []⟩) _ E s
  unfold Bytes.translateM
  have e1 : ∀ id, Bytes.bytesLike id (.bytes c u) = pure c := fun id => KBd.like_eq
  have e2 : Bytes.payload (.bytes b t) = pure b := rfl
  simp only [e1, e2, pure_bind, List.length_cons, List.length_nil, List.any_nil]
  rw [if_neg (by decide), if_neg (by decide), if_neg (by simp), if_neg (by simp [hc])]
  have e3 : b.filter (fun x => !(#[] : Array UInt8).contains x) = b := by
    apply Array.ext'
    simp
  simp only [List.head?_nil, Option.map_none, Option.orElse_none, Option.or_none, HOrElse.hOrElse, OrElse.orElse, Option.orElse]
  rw [e3]
  by_cases h : ((b.map fun x => c.getD x.toNat x) == b) = true
  · rw [if_pos h] at hq ⊢
    refine wpAny_bind (wpAny_rule ?_)
    refine wpAny_bind (wpAny_pure (wpAny_pure ⟨_, rfl, hq⟩))
  · rw [if_neg h] at hq ⊢
    exact wpAny_bind (wpAny_mkBytes (wpAny_pure ⟨_, rfl, hq.2⟩) hq.1)
/-- translate: the table's octet for each -/
theorem translate {ks : List Int} {f : Int → Int} {Q : Value → Shared → Prop} (hb : KBw.bInts b = ks) (hl : ks.length ≤ 16777216) (hc : c.size = 256) (hf : ∀ x : UInt8, ((c.getD x.toNat x).toNat : Int) = f (x.toNat : Int))
    (h : ∀ d t' k, KBw.bInts d = ks.map f → Q (.bytes d t') { s with toks := k }) : wpAny (model prog w) A (call (.builtin "bytes.translate") [.bytes b t, .bytes c u]) Q E s := by
  subst hb
  rw [KBw.ints_length] at hl
  have e : KBw.bInts (b.map fun x => c.getD x.toNat x) = (KBw.bInts b).map f := by
    unfold KBw.bInts
    rw [Array.toList_map, List.map_map, List.map_map]
    exact List.map_congr_left fun x _ => hf x
  refine call_gives BT.slot_translate (typeIs_bytes _ _ _) BT.entry_translate (BT.args_translate _ _) (gives_translate hc hl) ?_
  by_cases hh : ((b.map fun x => c.getD x.toNat x) == b) = true
  · rw [if_pos hh]
    exact h b t s.toks (by rw [← e, eq_of_beq hh])
  · rw [if_neg hh]
    exact ⟨by rw [sizeLine_eq, Array.size_map]; exact hl, h _ _ _ e⟩
end
namespace BT
theorem check_mk (a b : Value) : checkBuiltinCall "bytes.maketrans" ⟨[a, b], []⟩ = pure () := by kernel_rfl
theorem plain_mk : plainId "bytes.maketrans" = true := by decide +kernel
theorem entry_mk : entryFor table "bytes.maketrans" = some Builtin.«bytes.maketrans» := entryFor_of_tree (by kernel_rfl)
theorem type_type : typeOf (.type "bytes") = pure (.type "type") := by first | rfl | kernel_rfl
end BT
def trans256 (k0 k1 : UInt8) : Array UInt8 := (((Array.range 256).map (·.toUInt8)).setIfInBounds 43 k0).setIfInBounds 47 k1
theorem trans_size (k0 k1 : UInt8) : (trans256 k0 k1).size = 256 := by simp [trans256]
theorem trans_get (k0 k1 x : UInt8) : (trans256 k0 k1).getD x.toNat x = if x = 47 then k1 else if x = 43 then k0 else x := by
  have hx : x.toNat < 256 := x.toNat_lt
  have hs : x.toNat < (trans256 k0 k1).size := by rw [trans_size]; exact hx
  rw [Array.getD_eq_getD_getElem?]
  unfold trans256
  rw [Array.getElem?_setIfInBounds, Array.getElem?_setIfInBounds, Array.getElem?_map, Array.getElem?_range]
  simp only [Array.size_setIfInBounds, Array.size_map, Array.size_range, hx, if_true, (by decide : 47 < 256), (by decide : 43 < 256), Option.map_some]
  have e1 : (47 = x.toNat) ↔ x = 47 := by rw [← UInt8.toNat_inj]; exact ⟨fun h => h.symm, fun h => h.symm⟩
  have e2 : (43 = x.toNat) ↔ x = 43 := by rw [← UInt8.toNat_inj]; exact ⟨fun h => h.symm, fun h => h.symm⟩
  by_cases h1 : x = 47
  · rw [if_pos (e1.mpr h1), if_pos h1]; rfl
  · rw [if_neg (fun h => h1 (e1.mp h)), if_neg h1]
    by_cases h2 : x = 43
    · rw [if_pos (e2.mpr h2), if_pos h2]; rfl
    · rw [if_neg (fun h => h2 (e2.mp h)), if_neg h2]
      exact UInt8.toNat_inj.mp (by simp [Nat.toUInt8])
section
variable {prog : Program} {w : World} {A : Around} {E : Value → Shared → Prop} {s : Shared} {b c : Array UInt8} {t u : Tok}
theorem gives_maketrans (k0 k1 : UInt8) : Gives («bytes.maketrans» ⟨[.bytes #[43, 47] t, .bytes #[k0, k1] u], []⟩) (.bytes (trans256 k0 k1)) := by
  refine .of_wp fun M A E s Q hq => ?_
  show wpAny M A (Bytes.maketransM .bytes ⟨[.bytes #[43, 47] t, .bytes #[k0, k1] u], []⟩) _ E s
  unfold Bytes.maketransM
  have e1 : ∀ id (c : Array UInt8) (u : Tok), Bytes.bytesLike id (.bytes c u) = pure c := fun id c u => KBd.like_eq
  refine wpAny_bind (wpAny_of_eq (a := ()) (by kernel_rfl) ?_)
  refine wpAny_bind (wpAny_of_eq (a := ()) (by kernel_rfl) ?_)
  refine wpAny_bind (wpAny_of_eq (e1 _ _ _) ?_)
  refine wpAny_bind (wpAny_of_eq (e1 _ _ _) ?_)
  refine bm_if_false rfl ?_
  exact wpAny_bind (wpAny_mkBytes (wpAny_pure ⟨_, rfl, hq.2⟩) hq.1)
theorem maketrans {k0 k1 : UInt8} {Q : Value → Shared → Prop} (h : ∀ t' k, Q (.bytes (trans256 k0 k1) t') { s with toks := k }) : wpAny (model prog w) A (call (.builtin "bytes.maketrans") [.bytes #[43, 47] t, .bytes #[k0, k1] u]) Q E s := by
  refine wpAny_call (codeAny_call_builtin BT.plain_mk BT.entry_mk (wpAny_of_eq (BT.check_mk _ _) ?_))
  exact gives_maketrans k0 k1 prog w A (wants Q E) s ⟨by rw [trans_size, sizeLine_eq]; decide, h _ _⟩
end
def alt (m1 m2 x : Int) : Int := if x = 47 then m2 else if x = 43 then m1 else x
theorem two_of {k : Array UInt8} {m1 m2 : Int} (h : KBw.bInts k = [m1, m2]) : ∃ k0 k1 : UInt8, k = #[k0, k1] ∧ m1 = (k0.toNat : Int) ∧ m2 = (k1.toNat : Int) := by
  obtain ⟨l⟩ := k
  unfold KBw.bInts at h
  match l, h with
  | [a, b], h =>
    simp only [List.map_cons, List.map_nil, List.cons.injEq, and_true] at h
    exact ⟨a, b, rfl, h.1.symm, h.2.symm⟩
theorem trans_alt (k0 k1 x : UInt8) : (((trans256 k0 k1).getD x.toNat x).toNat : Int) = alt (k0.toNat : Int) (k1.toNat : Int) (x.toNat : Int) := by
  rw [trans_get]
  unfold alt
  have e1 : ((x.toNat : Int) = 47) ↔ x = 47 := by rw [← UInt8.toNat_inj]; show _ ↔ x.toNat = 47; omega
  have e2 : ((x.toNat : Int) = 43) ↔ x = 43 := by rw [← UInt8.toNat_inj]; show _ ↔ x.toNat = 43; omega
  by_cases h1 : x = 47
  · rw [if_pos (e1.mpr h1), if_pos h1]
  · rw [if_neg (fun h => h1 (e1.mp h)), if_neg h1]
    by_cases h2 : x = 43
    · rw [if_pos (e2.mpr h2), if_pos h2]
    · rw [if_neg (fun h => h2 (e2.mp h)), if_neg h2]
open PyProof.Rows.LCg PyProof.Rows.LCt in
/-- a comprehension with a test, by an invariant -/
theorem compRestT_ind {prog : Program} {w : World} {A : Around} {h₀ : Heap} {L : Addr} {m : PySem.Str → Option Value} {env : Env} {ct elt : PySem.Expr} {x : PySem.Str} {scope : Scope} {cl : List (PySem.Str × Addr)} {s : Shared} {S : List (Addr × Obj) → Prop} {P : Nat → Value → Prop} {Fin : List Value → List (Addr × Obj) → Prop}
    (J : Nat → List Value → List (Addr × Obj) → Prop) (n : Nat)
    (step : ∀ i ys news, i < n → J i ys news → ∀ v I oI C oC D m₂ h tk (E' : Value → Shared → Prop), P i v → NsObj oC m₂ → m₂ x = some v → Fr h₀ L h m → News h₀ L h ((I, oI) :: (C, oC) :: (D, lst ys) :: news) → Off3 I C D news → ((@Ne Nat I C) ∧ (@Ne Nat I D) ∧ (@Ne Nat C D)) →
      wpAny (model prog w) A (isTrue ct (compEnvC scope cl C env) (eval ct (compEnvC scope cl C env))) (fun ok s' => if ok = true then
        wpAny (model prog w) A (eval elt (compEnvC scope cl C env)) (CompEnd h₀ L m { s with heap := h, toks := tk } I oI C oC D (lst ys) S (fun y news' => J (i + 1) (ys ++ [y]) news')) E' s'
        else CompEnd h₀ L m { s with heap := h, toks := tk } I oI C oC D (lst ys) S (fun _ news' => J (i + 1) ys news') Value.none s') E' { s with heap := h, toks := tk })
    (fin : ∀ ys news, J n ys news → Fin ys news) : ∀ (k i : Nat), i + k = n → ∀ ys news, J i ys news → CompRestT prog w A h₀ L m env ct elt x scope cl s S P Fin k i ys news
  | 0, i, hk, ys, news, hJ => CompRestT.zero (fin ys news ((show i = n by omega) ▸ hJ))
  | k + 1, i, hk, ys, news, hJ => CompRestT.succ fun v I oI C oC D m₂ h tk E' hP hN hx F N off ne =>
    wpAny_mono (step i ys news (by omega) hJ v I oI C oC D m₂ h tk E' hP hN hx F N off ne) (fun ok s₁ h₁ => by
      cases ok with
      | true =>
        simp only [if_true] at h₁ ⊢
        exact wpAny_mono h₁ (fun y s₂ ⟨h', tk', news', e, F', N', off', hS, hJ'⟩ => ⟨h', tk', news', e, F', N', off', hS, compRestT_ind J n step fin k (i + 1) (by omega) _ _ hJ'⟩) fun _ _ e => e
      | false =>
        simp only [Bool.false_eq_true, if_false] at h₁ ⊢
        obtain ⟨h', tk', news', e, F', N', off', hS, hJ'⟩ := h₁
        exact ⟨h', tk', news', e, F', N', off', hS, compRestT_ind J n step fin k (i + 1) (by omega) _ _ hJ'⟩) fun _ _ e => e
/-- ints, the ledger as it was -/
def Ji (nw0 : List (Addr × Obj)) (f : Nat → List Int) (i : Nat) (ys : List Value) (nw : List (Addr × Obj)) : Prop := nw = nw0 ∧ IntsAre ys (f i)
end Mine
end

section
open PySem PySem.W PyProof.Rows PyProof.V
set_option Elab.async false
set_option maxRecDepth 100000
namespace Mine
/-- the table of the places, as data -/
def tabFrom : Nat → List Int → List (PyData × PyData)
  | _, [] => []
  | i, a :: r => (.int a, .int (i : Int)) :: tabFrom (i + 1) r
theorem tab_snoc : ∀ (i : Nat) (l : List Int) (a : Int), tabFrom i (l ++ [a]) = tabFrom i l ++ [(.int a, .int ((i + l.length : Nat) : Int))]
  | i, [], a => by simp [tabFrom]
  | i, b :: l, a => by
    simp only [List.cons_append, tabFrom, tab_snoc (i + 1) l a, List.length_cons]
    rw [show i + 1 + l.length = i + (l.length + 1) by omega]
theorem flat_snoc {kvs : List (Int × Value)} {D : List (PyData × PyData)} {k : Int} {v : Value} {d : PyData} (h : FlatPairs PyData.int kvs D) (hv : Flat v d) : FlatPairs PyData.int (kvs ++ [(k, v)]) (D ++ [(.int k, d)]) := by
  induction h with
  | nil => exact .cons hv .nil
  | cons h1 _ ih => exact .cons h1 ih
theorem flat_keys {kvs : List (Int × Value)} {i : Nat} {l : List Int} (h : FlatPairs PyData.int kvs (tabFrom i l)) : kvs.map (·.1) = l := by
  induction l generalizing kvs i with
  | nil => cases h; rfl
  | cons a l ih =>
    unfold tabFrom at h
    cases h with
    | cons _ h => rw [List.map_cons, ih h]
/-- what the comprehension has stored -/
theorem tab_of {as : List Int} (hnd : as.Nodup) {l : List Value} {kvs : List (Int × Value)}
    (h : StoredAll (fun v k => ∃ (i : Nat) (t : Tok), v = Value.int (0 + (i : Int)) t ∧ k = as.getD i 0) (fun v y => ∃ (i : Int) (t t' : Tok), v = Value.int i t ∧ y = Value.int i t') l kvs)
    (hl : l.length ≤ as.length) (hP : ∀ (j : Nat) (v : Value), l[j]? = some v → ∃ t, v = Value.int (0 + (j : Int)) t) : FlatPairs PyData.int kvs (tabFrom 0 (as.take l.length)) := by
  induction h with
  | nil => exact .nil
  | @snoc l kvs v k y hs hk hy ih =>
    rw [List.length_append, List.length_singleton] at hl
    have ih' := ih (by omega) (fun j v hj => hP j v (by rw [List.getElem?_append_left (by exact (List.getElem?_eq_some_iff.mp hj).1)]; exact hj))
    obtain ⟨t, hv⟩ := hP l.length v (by simp)
    obtain ⟨i, t1, e1, hk⟩ := hk
    obtain ⟨i2, t2, t3, e2, hy⟩ := hy
    have hi : i = l.length := by rw [hv] at e1; simp only [Value.int.injEq] at e1; omega
    have hi2 : i2 = ((l.length : Nat) : Int) := by rw [hv] at e2; simp only [Value.int.injEq] at e2; omega
    subst hi
    have hlt : l.length < as.length := by omega
    have hke : k = as[l.length] := by rw [hk, List.getD_eq_getElem?_getD, List.getElem?_eq_getElem hlt]; rfl
    have htk : as.take (l.length + 1) = as.take l.length ++ [k] := by rw [List.take_add_one, List.getElem?_eq_getElem hlt, hke]; rfl
    have hnot : k ∉ kvs.map (·.1) := by
      rw [flat_keys ih']
      intro hm
      have : (as.take l.length ++ [k]).Nodup := by rw [← htk]; exact hnd.sublist (List.take_sublist _ _)
      exact (List.nodup_append.mp this).2.2 k hm k (by simp) rfl
    have hst : stored kvs k y = kvs ++ [(k, y)] := by
      unfold stored
      rw [if_neg]
      intro ha
      rw [List.any_eq_true] at ha
      obtain ⟨kv, hm, he⟩ := ha
      exact hnot (List.mem_map.mpr ⟨kv, hm, of_decide_eq_true he⟩)
    rw [hst, List.length_append, List.length_singleton, htk, tab_snoc]
    refine flat_snoc ih' ?_
    rw [hy, hi2, List.length_take, Nat.min_eq_left (by omega), Nat.zero_add]
    exact Flat.int _ _
theorem tab_look : ∀ (i : Nat) (l : List Int) (j : Nat), l.Nodup → (h : j < l.length) → Spec.lookup (.int l[j]) (tabFrom i l) = some (.int ((i + j : Nat) : Int))
  | i, a :: l, 0, _, _ => by simp [tabFrom, Spec.lookup, Spec.same]
  | i, a :: l, j + 1, hn, h => by
    have hne : a ≠ l[j]'(by simpa using h) := fun e => (List.nodup_cons.mp hn).1 (e ▸ List.getElem_mem _)
    have ih := tab_look (i + 1) l j (List.nodup_cons.mp hn).2 (by simpa using h)
    simp only [tabFrom, Spec.lookup, List.getElem_cons_succ]
    rw [if_neg (by rw [PyProof.V.same_int]; simpa using hne), ih]
    congr 3
    omega
theorem newDict_at {M : Model} {A : Around} {E : Value → Shared → Prop} {s : Shared} {Φ : Value → Shared → Prop} (h : wpAny M A newDict Φ E s) : wpAny M A newDict (fun acc s' => acc = .ref s.heap.objs.size ∧ Φ acc s') E s := by
  intro Γ p hΓ
  have h1 := h Γ p hΓ
  have e : ∀ Ψ : Value → Shared → Prop, Sem.wp M Γ newDict (fun a _ s' => Ψ a s') (fun e _ s' => E e s') p s = Ψ (.ref s.heap.objs.size) { s with heap := s.heap.push { cls := .type "dict", dict := none, data := .dict #[] } } := by
    intro Ψ
    rfl
  rw [e] at h1 ⊢
  exact ⟨rfl, h1⟩
/-- the object of the table -/
def IsTab (prog : Program) (w : World) (od : Obj) (as : List Int) : Prop := ∃ kvs, od.IsDictOf (intKind prog w) kvs ∧ FlatPairs PyData.int kvs (tabFrom 0 as)
section
variable {prog : Program} {w : World} {A : Around} {E : Value → Shared → Prop} {s : Shared} {h₀ : Heap} {L : Addr} {m : PySem.Str → Option Value} {env : Env}
theorem dict64 {iter : PySem.Expr} {x al : PySem.Str} {px p1 p2 p3 p4 : Pos} {scope : Scope} {cl : List (PySem.Str × Addr)} {pos : Pos} {Q : Value → Shared → Prop} {c : Addr} {b : Array UInt8} {tb : Tok} {as : List Int} {oc : Obj}
    (hd : oc.data = .cell (some (.bytes b tb))) (F₀ : Fr h₀ L s.heap m) (hb : KBw.bInts b = as) (hlen : as.length = 64) (hnd : as.Nodup) (hh : A.handled = none) (hlim : h₀.NoLimit)
    (hclos : closureFor scope env = pure cl) (hcell : ∀ y ∈ scope.names, y.2 ≠ .cell) (hkind : scope.kind = .function)
    (hnames : ∀ y ∈ scope.names, y.2 = .local → scope.names.lookup y.1 = some .local) (hx : scope.names.lookup x = some .local)
    (hak : ∀ C, (compEnvC scope cl C env).kindOf al = some .cell) (hxk : ∀ C, (compEnvC scope cl C env).kindOf x = some .local) (hcc : cl.lookup al = some c)
    (hd1 : (x == ("__debug__" : PySem.Str)) = false) (hd2 : (al == ("__debug__" : PySem.Str)) = false)
    (hs1 : ∀ i t u, subscripted (.Name x p2) false (.bytes b t) (.int i u) = operate [.bytes b t, .int i u] (getItem (.bytes b t) (.int i u)))
    (hs2 : ∀ t r, letTemporaryGo (.Name al p1) (.bytes b t) r = pure ())
    (h : wpAny (model prog w) A (eval iter env) (fun xv s₁ => ∃ r t u v news, xv = .ref r ∧ Fr h₀ L s₁.heap m ∧ News h₀ L s₁.heap news ∧ IsRange s₁.heap r 0 64 1 t u v ∧ (c, oc) ∈ news ∧
      ∀ D h' tk od, Fr h₀ L h' m → News h₀ L h' ((D, od) :: news) → (∀ p ∈ news, p.1 ≠ D) → (D == sysModules) = false → IsTab prog w od as → Q (.ref D) { s₁ with heap := h', toks := tk }) E s)
    (hs : ∀ x, foldedSetIterable iter env x = pure x := by intro _; rfl) :
    wpAny (model prog w) A (eval (.DictComp (.Subscript (.Name al p1) (.Name x p2) p3) (.Name x p4) [⟨.Name x px, iter, [], 0⟩] scope pos) env) Q E s := by
  rw [arm_eval_DictComp]
  refine wpAny_comprehension_free (use := none) rfl hs hclos hkind hnames (wpAny_mono h (fun xv s₁ h₁ => ?_) fun _ _ e => e)
  obtain ⟨r, t, u, v, news, rfl, F, N, hr, hm, hQ⟩ := h₁
  refine wpAny_pyIter_range hr (by decide) ?_
  have up : ∀ o b' o', s₁.heap.get? b' = some o' → (s₁.heap.push o).get? b' = some o' := fun o b' o' e => Heap.get?_push_of_some _ e
  have W : Walks prog w A s₁.heap.objs.size [s₁.heap.objs.size] [s₁.heap.objs.size] 64 (fun i v => i < 64 ∧ ∃ t, v = Value.int (0 + (i : Int) * 1) t) (fun i h => IsRangeIter h s₁.heap.objs.size (0 + (i : Nat) * 1) (((64 : Nat) : Int) - (i : Nat)) 1) := (Walks.range hh _ 0 1 64).bound
  have hn64 : Builtin.Range.rangeSize 0 64 1 = ((64 : Nat) : Int) := by decide
  rw [hn64]
  generalize hs₂ : ({ s₁ with heap := s₁.heap.push { cls := .type "range_iterator", data := .fields #[rawInt 0, rawInt ((64 : Nat) : Int), rawInt 1] } } : Shared) = s₂
  have hp₂ : s₂.heap = s₁.heap.push { cls := .type "range_iterator", data := .fields #[rawInt 0, rawInt ((64 : Nat) : Int), rawInt 1] } := by rw [← hs₂]
  have hup : ∀ b' o', s₁.heap.get? b' = some o' → s₂.heap.get? b' = some o' := fun b' o' e => by rw [hp₂]; exact Heap.get?_push_of_some _ e
  have blk := comp_block_walkCD (knd := intKind prog w) (kx := .Subscript (.Name al p1) (.Name x p2) p3) (vx := .Name x p4) (px := px) (iter := iter) (pos := pos) (ifs := []) (cl := cl) (scope := scope) (E := E) (env := env) (s₂ := s₂)
    (RR := fun acc C r s' => acc = .ref s₂.heap.objs.size → compPost (model prog w) A E none Q acc C r s') W (by decide) (fun _ => true) (fun v k => ∃ (i : Nat) (t : Tok), v = Value.int (0 + (i : Int)) t ∧ k = as.getD i 0) (fun v y => ∃ (i : Int) (t t' : Tok), v = Value.int i t ∧ y = Value.int i t') hcell hkind hx
    ?st ?fp ⟨?tests, ?key, ?val⟩ ?rr
  exact wpAny_mono (newDict_at blk) (fun acc s₃ h₃ => wpAny_mono h₃.2 (fun cenv s₄ h₄ => codeAny_mono h₄ (fun r s' g => g h₃.1)) fun _ _ e => e) fun _ _ e => e
  · show IsRangeIter _ _ _ _ _
    rw [hp₂]
    simpa using Heap.get?_push_size _ rfl
  · intro b' hb'
    rw [List.mem_singleton.mp hb', hp₂, Heap.size_push]; exact Nat.lt_succ_self _
  · intro C i v' s₃ m₃ E' hv hn hm₃ hk
    exact wpAny_tests_nil ⟨rfl, _, _, rfl, fun _ _ e => e⟩
  · rintro C i v' s₃ m₃ E' hPv _ hn hm₃ hk
    obtain ⟨hi, tv, rfl⟩ := hPv
    rw [Int.mul_one] at hm₃ ⊢
    have hce : s₃.heap.get? c = some oc := hk c oc (fun q => absurd (Heap.lt_size (N.get hm)) ((List.mem_singleton.mp q) ▸ Nat.lt_irrefl _)) (hup _ _ (N.get hm))
    refine Subscript_ (wpAny_Name (wpAny_loadName_cell hkind (hak C) hcc ⟨oc, hce, hd⟩ ?_) hd2)
    refine wpAny_Name (wpAny_loadName_local hkind (hxk C) hn hm₃ ?_) hd1
    refine KBw.item_K hb (by omega) (by omega) (by omega) (fun t' k' _ _ => ?_) (hs1 _ _ _) (hs2 _)
    refine ⟨⟨_, intKind_is prog w _ t', i, tv, rfl, ?_⟩, _, _, rfl, fun _ _ e => e⟩
    rw [show (0 + (i : Int)).toNat = i by omega]
  · rintro C i v' s₃ m₃ E' ⟨hi, tv, rfl⟩ _ hn hm₃ hk
    refine wpAny_Name (wpAny_loadName_local hkind (hxk C) hn hm₃ ?_) hd1
    exact ⟨⟨_, tv, tv, rfl, rfl⟩, _, _, rfl, fun _ _ e => e⟩
  · intro D C h' tk m' kvs vs hD hC hDC hnC hdo hvl hP hst hk hDe
    have hDe' : D = s₂.heap.objs.size := by simpa using hDe
    refine ⟨m', hnC, fun h'' hs'' => ?_⟩
    obtain ⟨od, hod, hkv⟩ := Heap.dictOf_iff.mp (hdo.extBut hs''.extBut hDC)
    have hC1 : s₁.heap.get? C = none := by
      cases q : s₁.heap.get? C with
      | none => rfl
      | some o' => exact nomatch ((hup _ _ q).symm.trans hC)
    have hold : ∀ b' o', s₁.heap.get? b' = some o' → h''.get? b' = some o' := fun b' o' e => hs''.extBut b' o' (fun q => by rw [q, hC1] at e; cases e) (hk b' o' (fun q => absurd (Heap.lt_size e) ((List.mem_singleton.mp q) ▸ Nat.lt_irrefl _)) (hup _ _ e))
    have hD1 : s₁.heap.get? D = none := by
      cases q : s₁.heap.get? D with
      | none => rfl
      | some o' => exact nomatch ((hup _ _ q).symm.trans hD)
    have hDL : D ≠ L := by
      rintro rfl
      obtain ⟨oL, _, _, hL, _⟩ := F.ns
      rw [hL] at hD1; cases hD1
    have hD0 : h₀.get? D = none := by
      cases q : h₀.get? D with
      | none => rfl
      | some o' => rw [F.keep _ _ q] at hD1; cases hD1
    have hDs : (D == sysModules) = false := by
      have h1 := modules_low hlim
      have h2 := F.above
      have h3 := F.ns.lt
      refine beq_false_of_ne fun e => ?_
      rw [hDe', hp₂, Heap.size_push] at e
      have e' : s₁.heap.objs.size + 1 = 1 := e
      have h1' : 1 < h₀.objs.size := h1
      have h2' : h₀.objs.size ≤ (L : Nat) := h2
      have h4 : 1 < s₁.heap.objs.size := Nat.lt_of_lt_of_le h1' (Nat.le_trans h2' (Nat.le_of_lt h3))
      have h5 : s₁.heap.objs.size + 1 ≠ 1 := by omega
      exact h5 e'
    rw [← hs₂]
    refine hQ D h'' tk od (F.keptAll hold) ?_ (fun p hp e => ?_) hDs ⟨kvs, hkv, ?_⟩
    · intro p hp
      rcases List.mem_cons.mp hp with rfl | hp
      · exact ⟨hod, hDL, hD0⟩
      · exact ⟨hold _ _ (N p hp).1, (N p hp).2⟩
    · rw [← e, (N p hp).1] at hD1; cases hD1
    · have e : vs.filter (fun _ => true) = vs := List.filter_eq_self.mpr fun _ _ => rfl
      rw [e] at hst
      have := tab_of hnd hst (by omega) (fun j v hj => by obtain ⟨_, t', e'⟩ := hP j v hj; exact ⟨t', by rw [e', Int.mul_one]⟩)
      rwa [hvl, ← hlen, List.take_length] at this
theorem tab_at {d : Addr} {od : Obj} {as : List Int} {h : Heap} (ho : h.get? d = some od) (hds : (d == sysModules) = false) (T : IsTab prog w od as) : IntTab prog w h d (tabFrom 0 as) := by
  obtain ⟨kvs, hk, hf⟩ := T
  exact TabAt.ofObj hds ho hk hf
theorem tab_meth {d : Addr} {od : Obj} {as : List Int} {pl : Sem Bool} {Q : Value × List Value → Shared → Prop} (ho : s.heap.get? d = some od) (hds : (d == sysModules) = false) (T : IsTab prog w od as) (h : Q (.builtin "dict.get", [.ref d]) s) :
    wpAny (model prog w) A (getMethod (.ref d) "get" pl) Q E s := getMethod_intTab_get (tab_at ho hds T) h
/-- the place of a sign -/
theorem tab_get {d : Addr} {od : Obj} {as : List Int} {i : Int} {t : Tok} {dflt : Value} {dd : PyData} {Q : Value → Shared → Prop} (ho : s.heap.get? d = some od) (hds : (d == sysModules) = false) (T : IsTab prog w od as) (hx : Flat dflt dd) (hnd : as.Nodup) (j : Nat) (hj : j < as.length) (hi : i = as[j])
    (h : ∀ t', Q (.int (j : Int) t') { s with toks := s.toks + 1 }) : wpAny (model prog w) A (call (.builtin "dict.get") [.ref d, .int i t, dflt]) Q E s := by
  refine call_get2_intTab (tab_at ho hds T) hx fun v hv => ?_
  rw [hi, tab_look 0 as j hnd hj] at hv
  obtain ⟨t', rfl⟩ := Flat.int_inv hv
  rw [Nat.zero_add]
  exact h t'
end
end Mine
end

section
open PySem PySem.W PyProof.Rows PyProof.V
set_option Elab.async false
set_option maxRecDepth 100000
namespace Mine
section
variable {prog : Program} {w : World} {A : Around} {E : Value → Shared → Prop} {s : Shared} {h₀ : Heap} {L : Addr} {m : PySem.Str → Option Value} {env : Env}
open PyProof.Rows.LCg in
/-- «y = [elt for x in iter]», iter a bytes -/
theorem assign_comp_bytes {elt iter : PySem.Expr} {x y : PySem.Str} {px py : Pos} {scope : Scope} {cl : List (PySem.Str × Addr)} {pos spos : Pos} {Q : Flow → Shared → Prop} (_F₀ : Fr h₀ L s.heap m) (hLe : env.locals = L)
    (hsw : swapsWith (.ListComp elt [⟨.Name x px, iter, [], 0⟩] scope pos) (some (.Name y py)) spos.line env = pure true)
    (hclos : closureFor scope env = pure cl) (hcell : ∀ z ∈ scope.names, z.2 ≠ .cell) (hkind : scope.kind = .function)
    (hnames : ∀ z ∈ scope.names, z.2 = .local → scope.names.lookup z.1 = some .local) (hx : scope.names.lookup x = some .local)
    (hy : env.kindOf y = some .local) (hp : (env.scope.kind == .class || (env.scope.kind == .module && env.locals != env.globals)) = false)
    (hh : A.handled = none)
    (h : wpAny (model prog w) A (eval iter env) (fun xv s₁ => ∃ b tb news, xv = .bytes b tb ∧ Fr h₀ L s₁.heap m ∧ News h₀ L s₁.heap news ∧ b.size ≤ sizeLine ∧
      ∀ s₂ : Shared, (∃ g, s₂ = { s₁ with heap := g }) → CompRest prog w A h₀ L m env elt x scope cl s₂ (fun _ => True) (fun i v => ∃ c u, b[i]? = some c ∧ v = .int (c.toNat : Int) u) (FinA h₀ L m s₂ y Q) b.size 0 [] news) E s)
    (hs : ∀ x, foldedSetIterable iter env x = pure x := by intro _; rfl) :
    wpAny (model prog w) A (exec (.Assign [.Name y py] (.ListComp elt [⟨.Name x px, iter, [], 0⟩] scope pos) spos) env) Q E s := by
  subst hLe
  rw [exec_Assign_Name_used _ _ _ _ hsw]
  refine wpAny_bind (wpAny_standAt (wpAny_bind ?_))
  show wpAny _ A (do let _ ← comprehension (.ListComp elt [⟨.Name x px, iter, [], 0⟩] scope pos) scope env _ (newList []) false (eval iter env) (some (assign (.Name y py) env))) _ _ s
  refine wpAny_bind (wpAny_mono (wpAny_comprehension_free (use := some (assign (.Name y py) env)) (Q := fun _ s' => Q .next s') rfl hs hclos hkind hnames
    (wpAny_mono h (fun xv s₁ h₁ => ?_) fun _ _ e => e)) (fun _ s' hq => wpAny_pure (wpAny_pure hq)) fun _ _ e => e)
  obtain ⟨b, tb, news, rfl, F, N, hsz, R⟩ := h₁
  refine KBw.pyIter_bytes ?_
  have up : ∀ b' o', s₁.heap.get? b' = some o' → (s₁.heap.push { cls := .type "bytes_iterator", data := .fields #[.bytes b tb, .int 0 0] }).get? b' = some o' := fun b' o' e => Heap.get?_push_of_some _ e
  refine block_U (KBw.walks hh s₁.heap.objs.size b tb) hsz (fun i h st => by obtain ⟨o, e, _⟩ := st; exact ⟨o, e⟩)
    (fun i h h' o nw st e e' _ _ _ => by obtain ⟨o', q, r⟩ := st; rw [e] at q; cases q; exact ⟨o, e', r⟩) hcell hkind hx ⟨_, Heap.get?_push_size _ rfl, rfl, rfl⟩ (fun b' hb' => ?_)
    (F.keeps up) (N.grown up) (Nat.ne_of_lt F.ns.lt) (next_is_new F) (fun p hp => Nat.ne_of_lt (Heap.lt_size (N p hp).1)) trivial (R _ ⟨_, rfl⟩) ?_
  · rw [List.mem_singleton.mp hb']
    show s₁.heap.objs.size < (s₁.heap.push _).objs.size
    rw [Heap.size_push]; exact Nat.lt_succ_self _
  · intro D C h' tk m' ys news' F' N' o1 hn hC₀ hD₀ hCL hDL hCD offC fin
    show wpAny _ A (assign (.Name y py) env (.ref D)) _ _ _
    refine wpAny_assign_Name (wpAny_storeName_local hy F'.ns (fun h₂ hn₂ hs₂ => ?_) hp)
    have hL₀ : h₀.get? env.locals = none := Heap.get?_none_of_le F'.above
    have F₂ : Fr h₀ env.locals h₂ (fun z => if z = y then some (.ref D) else m z) := ⟨hn₂, fun b o e => hs₂.extBut b o (fun q => by rw [q, hL₀] at e; cases e) (F'.keep b o e), F'.above⟩
    refine ⟨m', hn.sameBut hs₂ hCL, fun h'' hs'' => fin D h'' _ (F₂.change hs'' hCL hC₀) (fun p hp => ?_) o1⟩
    refine ⟨hs''.extBut _ _ ?_ (hs₂.extBut _ _ (N' p hp).2.1 (N' p hp).1), (N' p hp).2⟩
    rcases List.mem_cons.mp hp with rfl | hp
    · exact Ne.symm hCD
    · exact offC p hp
theorem len_ints {l : Addr} {vs : List Value} {ns : List Int} {Q : Value → Shared → Prop} (hl : s.heap.IsList l vs.toArray) (hi : IntsAre vs ns) (hn : ns.length < 2 ^ 62) (h : ∀ t' k, Q (.int (ns.length : Nat) t') { s with toks := k }) :
    wpAny (model prog w) A (call (.builtin "len") [.ref l]) Q E s := by
  have e := hi.length
  refine len_list hl (by rw [List.size_toArray]; omega) ?_
  rw [List.size_toArray, e]
  exact h _ _
end
end Mine
end

section
open PySem PySem.W PyProof.Rows
set_option Elab.async false
namespace Mine
/-- letters, figures, = -/
def knownL : List Int := 61 :: b64s.take 62
structure Marks (m1 m2 : Int) : Prop where
  r1 : 0 ≤ m1 ∧ m1 < 256
  r2 : 0 ≤ m2 ∧ m2 < 256
  ne : m1 ≠ m2
  k1 : m1 ∉ knownL
  k2 : m2 ∉ knownL
def alph (m1 m2 : Int) : List Int := b64s.take 62 ++ [m1, m2]
theorem alph_len (m1 m2 : Int) : (alph m1 m2).length = 64 := by simp [alph, b64s]
theorem alph_nodup {m1 m2 : Int} (h : Marks m1 m2) : (alph m1 m2).Nodup := by
  unfold alph
  rw [List.nodup_append]
  refine ⟨by decide, ?_, ?_⟩
  · simp [h.ne]
  · intro a ha b hb e
    subst e
    simp only [List.mem_cons, List.not_mem_nil, or_false] at hb
    rcases hb with rfl | rfl
    · exact h.k1 (List.mem_cons_of_mem _ ha)
    · exact h.k2 (List.mem_cons_of_mem _ ha)
theorem alt_sg {m1 m2 i : Int} (h0 : 0 ≤ i) (h1 : i < 64) : alt m1 m2 (sg i) = (alph m1 m2).getD i.toNat 0 := by
  obtain ⟨j, rfl⟩ : ∃ j : Nat, i = (j : Int) := ⟨i.toNat, by omega⟩
  unfold sg alph
  rw [Int.toNat_natCast]
  by_cases h62 : j < 62
  · have hb := sg_low j h62
    have : (b64s.take 62 ++ [m1, m2]).getD j 0 = b64s.getD j 0 := by
      rw [List.getD_eq_getElem?_getD, List.getD_eq_getElem?_getD, List.getElem?_append_left (by simpa [b64s] using h62), List.getElem?_take_of_lt h62]
    rw [this]
    unfold alt
    rw [if_neg hb.2, if_neg hb.1]
  · have : j = 62 ∨ j = 63 := by omega
    rcases this with rfl | rfl
    · rfl
    · rfl
theorem alt_61 (m1 m2 : Int) : alt m1 m2 61 = 61 := by unfold alt; rw [if_neg (by decide), if_neg (by decide)]
theorem cut_count (ks : List Int) (m1 m2 : Int) : ((enc ks).map (alt m1 m2)).take (sx ks).length = ((sx ks).map sg).map (alt m1 m2) := by
  unfold enc
  rw [List.map_append, List.take_left' (by simp)]
theorem cut_rest (ks : List Int) (m1 m2 : Int) : ((enc ks).map (alt m1 m2)).drop (sx ks).length = List.replicate (padN ks.length) 61 := by
  unfold enc
  rw [List.map_append, List.drop_left' (by simp), List.map_replicate, alt_61]
theorem pad_z (n : Nat) : (-(((4 * n + 2) / 3 : Nat) : Int)).fmod 4 = ((padN n : Nat) : Int) := by
  rw [Int.fmod_eq_emod_of_nonneg _ (by decide)]
  unfold padN
  obtain ⟨q, r, hr, rfl⟩ : ∃ q r : Nat, r < 3 ∧ n = 3 * q + r := ⟨n / 3, n % 3, by omega, by omega⟩
  have : r = 0 ∨ r = 1 ∨ r = 2 := by omega
  rcases this with rfl | rfl | rfl <;> omega
end Mine
end

section
open PySem PySem.W PyProof.Rows
set_option Elab.async false
namespace Mine
theorem bInts_size {b : Array UInt8} {ks : List Int} (h : KBw.bInts b = ks) : b.size = ks.length := by rw [← h]; simp [KBw.bInts]
theorem bInts_at {b : Array UInt8} {ks : List Int} (h : KBw.bInts b = ks) {i : Nat} {c : UInt8} (hc : b[i]? = some c) : ks.getD i 0 = (c.toNat : Int) := by
  rw [← h, List.getD_eq_getElem?_getD]
  unfold KBw.bInts
  rw [List.getElem?_map, Array.getElem?_toList, hc]; rfl
theorem pick_count {ks : List Int} {m1 m2 : Int} : ((enc ks).map (alt m1 m2)).take (clipAt ((enc ks).map (alt m1 m2)).length ((4 * (ks.length : Int) + 2).fdiv 3)) = ((sx ks).map sg).map (alt m1 m2) := by
  rw [cnt_z, clip_take _ (by omega), Int.toNat_natCast, ← sx_length, cut_count]
/-- the sign at a place, read back -/
theorem sign_at {ks : List Int} {m1 m2 : Int} (hin : KBa.In ks) {i : Nat} (hi : i < (sx ks).length) {c : UInt8} {b : Array UInt8} (hb : KBw.bInts b = ((sx ks).map sg).map (alt m1 m2)) (hc : b[i]? = some c) :
    ((sx ks).getD i 0).toNat < (alph m1 m2).length ∧ ∀ h, (c.toNat : Int) = (alph m1 m2)[((sx ks).getD i 0).toNat]'h := by
  have h1 := sx_in hin ((sx ks)[i]) (List.getElem_mem _)
  have hg : (sx ks).getD i 0 = (sx ks)[i] := by rw [List.getD_eq_getElem?_getD, List.getElem?_eq_getElem hi]; rfl
  refine ⟨by rw [hg, alph_len]; omega, fun h => ?_⟩
  rw [← bInts_at hb hc, List.getD_eq_getElem?_getD, List.getElem?_map, List.getElem?_map, List.getElem?_eq_getElem hi]
  show alt m1 m2 (sg (sx ks)[i]) = _
  rw [alt_sg h1.1 h1.2, ← hg, List.getD_eq_getElem?_getD (l := alph m1 m2), List.getElem?_eq_getElem h]
  rfl
theorem sx_take_succ {ks : List Int} {i : Nat} (hi : i < (sx ks).length) (hin : KBa.In ks) : (sx ks).take (i + 1) = (sx ks).take i ++ [((((sx ks).getD i 0).toNat : Nat) : Int)] := by
  have h1 := sx_in hin ((sx ks)[i]) (List.getElem_mem _)
  have hg : (sx ks).getD i 0 = (sx ks)[i] := by rw [List.getD_eq_getElem?_getD, List.getElem?_eq_getElem hi]; rfl
  rw [List.take_add_one, List.getElem?_eq_getElem hi, hg, Int.toNat_of_nonneg h1.1]; rfl
theorem pad_cnt (n : Nat) : (-(4 * (n : Int) + 2).fdiv 3).fmod 4 = ((padN n : Nat) : Int) := by rw [cnt_z, pad_z]
theorem pad_le (n : Nat) : padN n ≤ 2 := by unfold padN; omega
theorem pick_rest {ks : List Int} {m1 m2 : Int} : (((enc ks).map (alt m1 m2)).drop (clipAt ((enc ks).map (alt m1 m2)).length ((4 * (ks.length : Int) + 2).fdiv 3))).take (((enc ks).map (alt m1 m2)).length - clipAt ((enc ks).map (alt m1 m2)).length ((4 * (ks.length : Int) + 2).fdiv 3)) = List.replicate (padN ks.length) 61 := by
  have hl : (sx ks).length ≤ ((enc ks).map (alt m1 m2)).length := by rw [List.length_map]; unfold enc; rw [List.length_append, List.length_map]; omega
  rw [cnt_z, ← sx_length, clipAt_nat, Nat.min_eq_left hl, cut_rest, ← cut_rest ks m1 m2, ← List.length_drop, List.take_length]
theorem no_neg {ks : List Int} (hin : KBa.In ks) : ((sx ks).any fun x => x == -1) = false := by
  rw [Bool.eq_false_iff]
  intro h
  obtain ⟨x, hx, e⟩ := List.any_eq_true.mp h
  have := sx_in hin x hx
  have := eq_of_beq e
  omega
end Mine
end

section
open PySem PySem.W PyProof.Rows
set_option Elab.async false
set_option maxRecDepth 100000
namespace Mine
theorem small_up {a b : Int} (ha : -(2 ^ 62) ≤ a) (ha' : a < 2 ^ 62) (hb : -(2 ^ 62) ≤ b) (hb' : b < 2 ^ 62) : Builtin.Range.small a b 1 = true := by
  unfold Builtin.Range.small
  rw [rangeSize_one]
  simp only [Builtin.Range.rangeFitsLong, Bool.and_eq_true, Bool.or_eq_true, decide_eq_true_eq, beq_iff_eq, show ((1 : Int) > 0) by decide, if_true]
  split <;> omega
theorem mul_small {prog : Program} {w : World} {A : Around} {E : Value → Shared → Prop} {s : Shared} {a b : Int} {t u : Tok} {Q : Value → Shared → Prop} (h0 : 0 ≤ b) (h1 : b ≤ 1000000) (h : Q (.int (a * b) s.toks) { s with toks := s.toks + 1 }) : wpAny (model prog w) A (binaryOp .Mult (.int a t) (.int b u)) Q E s :=
  mul_int h (IntMulOk.of_right (intBits_le_64 (by omega) (by omega)))
theorem off1_mem {D : Addr} {l : List (Addr × Obj)} (h : PyProof.Rows.LCg.Off1 D l) : ∀ p ∈ l, p.1 ≠ D := by
  induction l with
  | nil => intro p hp; cases hp
  | cons a l ih =>
    intro p hp
    have h' : (@Ne Nat a.1 D) ∧ PyProof.Rows.LCg.Off1 D l := h
    rcases List.mem_cons.mp hp with e | hp
    · rw [e]; exact h'.1
    · exact ih h'.2 p hp
end Mine
end

section
open PySem PySem.W PyProof.Rows
set_option Elab.async false
set_option maxRecDepth 100000
namespace Mine
section
variable {prog : Program} {w : World} {A : Around} {E : Value → Shared → Prop} {s : Shared}
end
end Mine
namespace Mine
section
variable {prog : Program} {w : World} {A : Around} {E : Value → Shared → Prop} {s : Shared} {h₀ : Heap} {L : Addr} {m : PySem.Str → Option Value} {news : List (Addr × Obj)}
end
end Mine
end

section
open PySem PySem.W PyProof.Rows
set_option Elab.async false
namespace Mine
end Mine
end

section
open PySem PySem.W PyProof.Rows
set_option Elab.async false
set_option maxRecDepth 100000
namespace Mine
section
variable {prog : Program} {w : World} {A : Around} {E : Value → Shared → Prop} {s : Shared} {h₀ : Heap} {L : Addr} {m : PySem.Str → Option Value}
theorem fillsI_list : fillsInplaceSlot (.type "list") "add" (Operator.Add == .Add) = pure false := by
  unfold fillsInplaceSlot
  show (typeLookup (.type "list") (dunderI "add") >>= fun fi => pure (fi.isSome && !isSeqSlot fi)) = pure false
  rw [PySem.F.slot_list_iadd.lookup]; kernel_rfl
theorem seqI_list : seqSlot? (.type "list") (dunderI "add") = pure (some (.builtin "list.__iadd__")) := PySem.seqSlot_of PySem.F.slot_list_iadd.lookup (by decide +kernel)
/-- xs += ys -/
theorem iadd_list {l b : Addr} {vs ws : List Value} {n n2 : Nat} {rest : List (Addr × Obj)} {Q : Value → Shared → Prop} (F : Fr h₀ L s.heap m) (N : News h₀ L s.heap ((l, listOf vs.toArray n) :: rest)) (hb : (b, listOf ws.toArray n2) ∈ rest) (hne : ∀ p ∈ rest, p.1 ≠ l)
    (hsz : vs.length + ws.length ≤ 1000000) (h : ∀ h' n', Fr h₀ L h' m → News h₀ L h' ((l, listOf (vs ++ ws).toArray n') :: rest) → Q (.ref l) { s with heap := h' }) :
    wpAny (model prog w) A (inplaceOp .Add (.ref l) (.ref b)) Q E s := by
  have zl := N _ (.head _)
  have zb := N _ (.tail _ hb)
  have ha' : s.TypeIs (.ref l) "list" := ⟨_, zl.1, rfl⟩
  have hb' : s.TypeIs (.ref b) "list" := ⟨_, zb.1, rfl⟩
  unfold inplaceOp
  refine wpAny_holding ?_
  refine wpAny_bind (wpAny_typeOf ha' (wpAny_bind (wpAny_of_eq fillsI_list ?_)))
  show wpAny _ A (if false = true then _ else _) Q E s
  rw [if_neg Bool.false_ne_true]
  refine wpAny_bind (wpAny_binaryOp1_none (nm := "add") ha' hb' noFill_list_add ?_)
  refine wpAny_bind (wpAny_of_eq seqI_list ?_)
  refine wpAny_bind (wpAny_rule ?_)
  refine call_meets PySem.F.slot_list_iadd ha' PySem.F.entry_list_iadd (PySem.F.args_list_iadd_2 _ _) (AutoSeq1.list___iadd___list_list_0 l vs.toArray n b ws.toArray n2 ?_ ?_ ?_) ⟨zl.1, zb.1, ?_⟩
  · simp [Builtin.List.listTooLong, sizeLine_eq]; intro _; omega
  · simp [sizeLine_eq]; omega
  · simp [sizeLine_eq]; omega
  · have hs : Heap.SameBut l s.heap (s.heap.update l (Obj.mapSeq fun x => x ++ ws.toArray)) := Heap.SameBut.update ..
    have ho := Heap.get?_update_self (Obj.mapSeq fun x => x ++ ws.toArray) zl.1 rfl
    refine h _ (if ((vs ++ ws).toArray.size == vs.toArray.size) = true then n else n + 1) (F.change hs zl.2.1 zl.2.2) ?_
    intro p hp
    rcases List.mem_cons.mp hp with rfl | hp
    · refine ⟨ho.trans ?_, zl.2⟩
      simp only [Obj.mapSeq, List.append_toArray]
    · exact ⟨hs.extBut _ _ (hne p hp) (N p (.tail _ hp)).1, (N p (.tail _ hp)).2⟩
end
/-- the order of two rows of ints -/
def ltL : List Int → List Int → Bool
  | [], [] => false
  | [], _ :: _ => true
  | _ :: _, [] => false
  | a :: x, b :: y => if a = b then ltL x y else decide (a < b)
theorem ltL_nil_right : ∀ x : List Int, ltL x [] = false
  | [] => rfl
  | _ :: _ => rfl
theorem ints_at {vs : List Value} {ks : List Int} (h : IntsAre vs ks) {i : Nat} (hi : i < ks.length) : ∃ t, vs.toArray[i]? = some (.int (ks[i]) t) := by
  obtain ⟨t, ht⟩ := h.get i (ks[i]) (List.getElem?_eq_getElem hi)
  exact ⟨t, by rw [List.getElem?_toArray]; exact ht⟩
theorem lt_loop (l b : Addr) (vs us : List Value) (ks ls : List Int) (n n2 : Nat) (dd dd2 : Option Addr) (sl sl2 : Array (Option Value)) (hi : IntsAre vs ks) (hj : IntsAre us ls) (k : Nat) :
    ∀ i : Nat, ks.length - i = k → i ≤ ks.length → i ≤ ls.length → Meets (Builtin.«list.__eq__.loop» ⟨[.ref l, .ref b, rawInt i, rawInt 0], []⟩)
      (fun _ R s => s.heap.get? l = some { cls := .type "list", dict := dd, data := .seq vs.toArray n, slots := sl } ∧ s.heap.get? b = some { cls := .type "list", dict := dd2, data := .seq us.toArray n2, slots := sl2 } ∧
        R (.ok (.ret (.bool (ltL (ks.drop i) (ls.drop i))))) s) := by
  have hvl := hi.length
  have hul := hj.length
  induction k with
  | zero =>
    intro i hk hik hil prog w A R s h
    obtain ⟨hp, g, d, tk, os⟩ := s; obtain ⟨hl, hb, h⟩ := h
    wp_walk using AutoSeq1.wpAny_loadPart' hl, AutoSeq1.wpAny_loadPart' hb
    have hi1 : vs.toArray[((i : Nat) : Int).toNat]? = none := by rw [Int.toNat_natCast, List.getElem?_toArray]; exact List.getElem?_eq_none (by omega)
    have hd : ks.drop i = [] := List.drop_eq_nil_of_le (by omega)
    rw [hd] at h
    rw [hi1]
    wp_walk using AutoSeq1.wpAny_loadPart' hl, AutoSeq1.wpAny_loadPart' hb
    show R (.ok (.ret (.bool (decide (vs.toArray.size < us.toArray.size))))) _
    have e : decide (vs.toArray.size < us.toArray.size) = ltL [] (ls.drop i) := by
      rw [List.size_toArray, List.size_toArray]
      cases hc : ls.drop i with
      | nil =>
        have := List.drop_eq_nil_iff.mp hc
        show _ = false
        simp; omega
      | cons x y =>
        have : i < ls.length := by
          rcases Nat.lt_or_ge i ls.length with h | h
          · exact h
          · rw [List.drop_eq_nil_of_le h] at hc; cases hc
        show _ = true
        simp; omega
    rw [e]; exact h
  | succ k ih =>
    intro i hk hik hil prog w A R s h
    obtain ⟨hp, g, d, tk, os⟩ := s; obtain ⟨hl, hb, h⟩ := h
    wp_walk using AutoSeq1.wpAny_loadPart' hl, AutoSeq1.wpAny_loadPart' hb
    have hlt : i < ks.length := by omega
    obtain ⟨t1, e1⟩ := ints_at hi hlt
    have hd1 : ks.drop i = ks[i] :: ks.drop (i + 1) := List.drop_eq_getElem_cons hlt
    have hc : ((i : Int) + 1) = ((i + 1 : Nat) : Int) := by push_cast; rfl
    rcases Nat.lt_or_ge i ls.length with hlt2 | hge
    · obtain ⟨t2, e2⟩ := ints_at hj hlt2
      have hd2 : ls.drop i = ls[i] :: ls.drop (i + 1) := List.drop_eq_getElem_cons hlt2
      rw [hd1, hd2] at h
      rw [Int.toNat_natCast, e1, e2]
      refine wpAny_bind ((SeqAt.EqAt.int_int (A := A.in1) (ks[i]) t1 (ls[i]) t2) prog w _ _ ?_)
      by_cases heq : ks[i] = ls[i]
      · have hb' : (ks[i] == ls[i]) = true := by simp [heq]
        rw [hb']
        simp only [ltL, heq, if_true] at h
        wp_walk
        rw [hc]
        exact ⟨plainId_quiet MeetsSeq3.plain_eq_loop _, codeAny_builtin MeetsSeq3.entry_eq_loop (by
          rw [Around.under_plainId MeetsSeq3.plain_eq_loop _]
          exact ih (i + 1) (by omega) (by omega) (by omega) prog w A R _ ⟨hl, hb, h⟩)⟩
      · have hb' : (ks[i] == ls[i]) = false := by simp [heq]
        rw [hb']
        simp only [ltL, heq, if_false] at h
        wp_walk using AutoSeq1.wpAny_loadPart' hl, AutoSeq1.wpAny_loadPart' hb
        rw [e1, e2]
        dsimp only
        refine wpAny_bind (richCompare_gives (op := .Lt) (typeIs_int _ _ t1) (typeIs_int _ _ t2) PySem.F.slot_int_lt PySem.F.entry_int_lt (PySem.F.args_int_lt_2 _ _) (gives_int_lt _ _ t1 t2) (fun x => nomatch x) ?_)
        exact wpAny_pure h
    · have hi2 : us.toArray[((i : Nat) : Int).toNat]? = none := by rw [Int.toNat_natCast, List.getElem?_toArray]; exact List.getElem?_eq_none (by omega)
      have hd2 : ls.drop i = [] := List.drop_eq_nil_of_le hge
      rw [hd2, ltL_nil_right] at h
      rw [hi2, Int.toNat_natCast, e1]
      wp_walk using AutoSeq1.wpAny_loadPart' hl, AutoSeq1.wpAny_loadPart' hb
      show R (.ok (.ret (.bool (decide (vs.toArray.size < us.toArray.size))))) _
      have e : decide (vs.toArray.size < us.toArray.size) = false := by simp; omega
      rw [e]; exact h
theorem list_lt (l b : Addr) (vs us : List Value) (ks ls : List Int) (n n2 : Nat) (dd dd2 : Option Addr) (sl sl2 : Array (Option Value)) (hi : IntsAre vs ks) (hj : IntsAre us ls) :
    Meets (Builtin.«list.__lt__» ⟨[.ref l, .ref b], []⟩)
      (fun _ R s => s.heap.get? l = some { cls := .type "list", dict := dd, data := .seq vs.toArray n, slots := sl } ∧ s.heap.get? b = some { cls := .type "list", dict := dd2, data := .seq us.toArray n2, slots := sl2 } ∧
        R (.ok (.ret (.bool (ltL ks ls)))) s) := by
  intro prog w A R s h
  obtain ⟨hp, g, d, tk, os⟩ := s; obtain ⟨hl, hb, h⟩ := h
  have f3 := AutoSeq1.sub_list_list
  wp_walk using AutoSeq1.wpAny_loadPart' hl, AutoSeq1.wpAny_loadPart' hb
  exact ⟨plainId_quiet MeetsSeq3.plain_eq_loop _, codeAny_builtin MeetsSeq3.entry_eq_loop (by
    rw [Around.under_plainId MeetsSeq3.plain_eq_loop _]
    exact lt_loop l b vs us ks ls n n2 dd dd2 sl sl2 hi hj _ 0 rfl (Nat.zero_le _) (Nat.zero_le _) prog w A R _ ⟨hl, hb, h⟩)⟩
section
variable {prog : Program} {w : World} {A : Around} {E : Value → Shared → Prop} {s : Shared} {h₀ : Heap} {L : Addr} {m : PySem.Str → Option Value}
theorem lt_ints {l b : Addr} {vs us : List Value} {ks ls : List Int} {Q : Value → Shared → Prop} (hl : s.heap.IsList l vs.toArray) (hb : s.heap.IsList b us.toArray) (hi : IntsAre vs ks) (hj : IntsAre us ls) (hu : A.units < cLine) (h : Q (.bool (ltL ks ls)) s) :
    wpAny (model prog w) A (compareOp .Lt (.ref l) (.ref b)) Q E s := by
  obtain ⟨⟨cls, dd, data, sl⟩, ho, hc, n, hd⟩ := id hl
  obtain ⟨⟨cls2, dd2, data2, sl2⟩, ho2, hc2, n2, hd2⟩ := id hb
  simp only at hc hd hc2 hd2
  subst hc hd hc2 hd2
  refine cmp_ofLt ?_
  exact richCompare_meets_room (op := .Lt) ⟨_, ho, rfl⟩ ⟨_, ho2, rfl⟩ PySem.F.slot_list_lt PySem.F.entry_list_lt (PySem.F.args_list_lt_2 _ _) (list_lt l b vs us ks ls n n2 dd dd2 sl sl2 hi hj)
    ⟨ho, ho2, show Value.bool (ltL ks ls) ≠ Value.notImplemented ∧ Q (.bool (ltL ks ls)) s from ⟨(fun x => nomatch x), h⟩⟩ hu
end
end Mine
end

section
open PySem PySem.W PyProof.Rows
set_option Elab.async false
set_option maxRecDepth 100000
namespace Mine
section
variable {prog : Program} {w : World} {A : Around} {E : Value → Shared → Prop} {s : Shared} {env : Env} {h₀ : Heap} {target : PySem.Expr} {body : List Stmt} {Q : Flow → Shared → Prop}
/-- a loop over a list by an invariant of what is left; the target may be a cell -/
theorem items_ind {I ax : Addr} {lo : Obj} (J : List Value → (PySem.Str → Option Value) → List (Addr × Obj) → Prop)
    (step : ∀ v r m news, J (v :: r) m news → ∀ h tk oI, oI.cls = .type "list_iterator" → Fr h₀ env.locals h m → News h₀ env.locals h ((I, oI) :: news) →
      wpAny (model prog w) A (assign target env v) (fun _ s₂ => wpAny (model prog w) A (execs body env) (UnrPostW h₀ env.locals { s with heap := h, toks := tk } [(I, oI)] (fun m' n' => SubL [(ax, lo)] n' ∧ J r m' n') Q) E s₂) E { s with heap := h, toks := tk })
    (fin : ∀ m news, J [] m news → ∀ h tk, Fr h₀ env.locals h m → News h₀ env.locals h news → Q .next { s with heap := h, toks := tk }) :
    ∀ (vs : List Value) m news, J vs m news → ItemsRest prog w A E h₀ env target body Q s [(I, "list_iterator")] [(ax, lo)] (vs.map .val) m news
  | [], m, news, hJ => ItemsRest.zero (fin m news hJ)
  | v :: r, m, news, hJ => ItemsRest.val fun h tk F => AllObj.cons fun oI hc => AllObj.nil fun N =>
    wpAny_mono (step v r m news hJ h tk oI hc F N) (fun _ s₂ h₂ => wpAny_mono h₂ (fun f s₃ h₃ => by
      cases f with
      | ret v => exact h₃
      | brk => exact h₃
      | cont =>
        obtain ⟨h', tk', m', news', e, F', N', ho, hs, hJ'⟩ := h₃
        exact ⟨h', tk', m', news', e, F', N', ho, hs, items_ind J step fin r m' news' hJ'⟩
      | next =>
        obtain ⟨h', tk', m', news', e, F', N', ho, hs, hJ'⟩ := h₃
        exact ⟨h', tk', m', news', e, F', N', ho, hs, items_ind J step fin r m' news' hJ'⟩) fun _ _ e => e) fun _ _ e => e
end
open PyProof.Rows.LCg PyProof.Rows.LCp in
/-- a comprehension over pairs, by an invariant -/
theorem compRestP_ind {prog : Program} {w : World} {A : Around} {h₀ : Heap} {L : Addr} {m : PySem.Str → Option Value} {env : Env} {elt : PySem.Expr} {x x₂ : PySem.Str} {scope : Scope} {cl : List (PySem.Str × Addr)} {s : Shared} {S : List (Addr × Obj) → Prop} {P : Nat → Value → Prop} {Fin : List Value → List (Addr × Obj) → Prop}
    (J : Nat → List Value → List (Addr × Obj) → Prop) (n : Nat)
    (step : ∀ i ys news, i < n → J i ys news → ∀ v, P i v → ∃ (t : Addr) (ot : Obj) (v₁ v₂ : Value) (nt : Nat), v = .ref t ∧ (t, ot) ∈ news ∧ ot.cls = .type "tuple" ∧ ot.data = .seq #[v₁, v₂] nt ∧
      ∀ I oI C oC D m₂ h tk (E' : Value → Shared → Prop), NsObj oC m₂ → m₂ x = some v₁ → m₂ x₂ = some v₂ → Fr h₀ L h m → News h₀ L h ((I, oI) :: (C, oC) :: (D, lst ys) :: news) → Off3 I C D news → ((@Ne Nat I C) ∧ (@Ne Nat I D) ∧ (@Ne Nat C D)) →
      wpAny (model prog w) A (eval elt (compEnvC scope cl C env)) (CompEnd h₀ L m { s with heap := h, toks := tk } I oI C oC D (lst ys) S (fun y news' => J (i + 1) (ys ++ [y]) news')) E' { s with heap := h, toks := tk })
    (fin : ∀ ys news, J n ys news → Fin ys news) : ∀ (k i : Nat), i + k = n → ∀ ys news, J i ys news → CompRestP prog w A h₀ L m env elt x x₂ scope cl s S P Fin k i ys news
  | 0, i, hk, ys, news, hJ => CompRestP.zero (fin ys news ((show i = n by omega) ▸ hJ))
  | k + 1, i, hk, ys, news, hJ => CompRestP.succ fun v hP => by
    obtain ⟨t, ot, v₁, v₂, nt, e1, e2, e3, e4, h⟩ := step i ys news (by omega) hJ v hP
    exact ⟨t, ot, v₁, v₂, nt, e1, e2, e3, e4, fun I oI C oC D m₂ h' tk E' hN hx hx2 F N off ne =>
      wpAny_mono (h I oI C oC D m₂ h' tk E' hN hx hx2 F N off ne) (fun y s₂ ⟨h', tk', news', e, F', N', off', hS, hJ'⟩ => ⟨h', tk', news', e, F', N', off', hS, compRestP_ind J n step fin k (i + 1) (by omega) _ _ hJ'⟩) fun _ _ e => e⟩
end Mine
end

section
open PySem PySem.W PyProof.Rows
set_option Elab.async false
set_option maxRecDepth 100000
namespace Mine
theorem wpAny_ifAlive {M : Model} {A : Around} {E : Value → Shared → Prop} {s : Shared} {a : Addr} {Q : Option Obj → Shared → Prop} (h : Q (s.heap.get? a) s) : wpAny M A (loadIfAlive a) Q E s := by
  intro Γ p _
  unfold loadIfAlive
  rw [Sem.wp_loadIfAlive]
  exact (Sem.wp_pure ..).mpr h
/-- a zip whose last tuple is kept -/
abbrev IsZipK (h : Heap) (z TI TO T : Addr) (b : Bool) : Prop :=
  h.get? z = some { cls := .type "zip", dict := none, data := .fields #[rawInt T, .bool b, .bool false, .ref TI, .ref TO], slots := #[] }
section
variable {prog : Program} {w : World} {A : Around} {E : Value → Shared → Prop} {s : Shared}
theorem owned_kept {z TI TO T : Addr} {b : Bool} {oT : Obj} {Q : Bool → Shared → Prop} (hz : IsZipK s.heap z TI TO T b) (hT : s.heap.get? T = some oT)
    (h : ∀ h', IsZipK h' z TI TO T true → Heap.SameBut z s.heap h' → Q false { s with heap := h' }) : wpAny (model prog w) A (Builtin.SmallTypes.ownedTupleIsFree (.ref z)) Q E s := by
  unfold Builtin.SmallTypes.ownedTupleIsFree
  refine wpAny_bind (wpAny_field hz rfl (x := rawInt T) rfl ?_)
  show wpAny _ _ (loadIfAlive (T : Int).toNat >>= _) _ _ _
  refine wpAny_bind (wpAny_ifAlive ?_)
  rw [Int.toNat_natCast, hT]
  show wpAny _ _ (field (.ref z) 1 >>= _) _ _ _
  refine wpAny_bind (wpAny_field hz rfl (x := .bool b) rfl ?_)
  cases b with
  | true =>
    rw [if_neg (by decide)]
    refine wpAny_pure ?_
    have := h s.heap hz (Heap.SameBut.refl ..)
    exact this
  | false =>
    rw [if_pos (by decide)]
    refine wpAny_bind (wpAny_setField_rec hz (by simp) fun h₁ hz₁ hs₁ => ?_)
    exact wpAny_pure (h h₁ hz₁ hs₁)
theorem zip_next_again {z TI TO T i1 i2 l1 l2 : Addr} {b : Bool} {oT : Obj} {k1 k2 : Nat} {xs ys : Array Value} {x y : Value} {Q : Value → Shared → Prop} (D : ZipApart z TI TO i1 i2 l1 l2)
    (hz : IsZipK s.heap z TI TO T b) (hT : s.heap.get? T = some oT) (hTI : IsPair s.heap TI (.ref i1) (.ref i2))
    (h1 : s.heap.IsListIter i1 l1 k1) (h2 : s.heap.IsListIter i2 l2 k2) (hl1 : s.heap.IsList l1 xs) (hl2 : s.heap.IsList l2 ys) (hx : xs[k1]? = some x) (hy : ys[k2]? = some y)
    (hQ : ∀ h', IsZipK h' z TI TO T true → h'.IsListIter i1 l1 (k1 + 1) → h'.IsListIter i2 l2 (k2 + 1) → IsPair h' s.heap.objs.size x y → h'.objs.size = s.heap.objs.size + 1 →
      (∀ c o, c ≠ z → c ≠ i1 → c ≠ i2 → s.heap.get? c = some o → h'.get? c = some o) → Q (.ref s.heap.objs.size) { s with heap := h' }) :
    wpAny (model prog w) A (Builtin.«zip.__next__» ⟨[.ref z], []⟩) (fun fin s' => ∃ v, fin = .done (.ret v) ∧ Q v s') E s := by
  show wpAny _ _ (field (.ref z) 2 >>= _) _ _ _
  refine wpAny_bind (wpAny_field hz rfl (x := .bool false) rfl ?_)
  show wpAny _ _ (field (.ref z) 3 >>= _) _ _ _
  refine wpAny_bind (wpAny_field hz rfl (x := .ref TI) rfl ?_)
  refine wpAny_bind (wpAny_seqItems hTI rfl ?_)
  show wpAny _ _ (Builtin.SmallTypes.ownedTupleIsFree (.ref z) >>= _) _ _ _
  refine wpAny_bind (owned_kept hz hT fun h₁ hz₁ hs₁ => ?_)
  simp only [Bool.false_eq_true, if_false]
  refine wpAny_bind ?_
  rw [← Array.forIn_toList]
  simp only [List.forIn_cons, List.forIn_nil]
  refine wpAny_bind (wpAny_bind (wpAny_holding ?_))
  show wpAny _ _ (Builtin.SmallTypes.nextOf (.ref i1) >>= _) _ _ _
  refine wpAny_bind (wpAny_nextOf_list_item (h1.extBut hs₁.extBut D.i1z) (hl1.extBut hs₁.extBut D.l1z) hx fun h₂ h1₂ hs₂ => wpAny_pure ?_)
  refine wpAny_pure ?_
  refine wpAny_bind (wpAny_bind (wpAny_holding ?_))
  show wpAny _ _ (Builtin.SmallTypes.nextOf (.ref i2) >>= _) _ _ _
  refine wpAny_bind (wpAny_nextOf_list_item ((h2.extBut hs₁.extBut D.i2z).extBut hs₂.extBut D.i12.symm)
    ((hl2.extBut hs₁.extBut D.l2z).extBut hs₂.extBut D.l2i1) hy fun h₄ h2₄ hs₄ => wpAny_pure ?_)
  refine wpAny_pure (wpAny_pure ?_)
  refine wpAny_bind (wpAny_newTuple (hsz := by show 2 ≤ sizeLine; rw [sizeLine_eq]; decide) ?_)
  have hsz : h₄.objs.size = s.heap.objs.size := by rw [hs₄.1, hs₂.1, hs₁.1]
  have hz₄ : IsZipK h₄ z TI TO T true := hs₄.extBut _ _ D.i2z.symm (hs₂.extBut _ _ D.i1z.symm hz₁)
  have hk : ∀ c o, c ≠ z → c ≠ i1 → c ≠ i2 → s.heap.get? c = some o → h₄.get? c = some o := fun c o c1 c3 c4 e => hs₄.extBut _ _ c4 (hs₂.extBut _ _ c3 (hs₁.extBut _ _ c1 e))
  refine wpAny_pure ⟨_, rfl, ?_⟩
  have hQ' := hQ (h₄.push { cls := .type "tuple", data := .seq #[x, y] }) (Heap.get?_push_of_some _ hz₄) ((h1₂.extBut hs₄.extBut D.i12).at fun o e => Heap.get?_push_of_some _ e) (h2₄.at fun o e => Heap.get?_push_of_some _ e)
    (by rw [← hsz]; exact Heap.get?_push_size _ rfl) (by rw [Heap.size_push, hsz]) (fun c o c1 c2 c3 e => Heap.get?_push_of_some _ (hk c o c1 c2 c3 e))
  rw [← hsz] at hQ'
  exact hQ'
theorem zip_again_end {z TI TO T i1 i2 l1 l2 : Addr} {b : Bool} {oT : Obj} {k1 : Nat} {xs : Array Value} {Q : Fin → Shared → Prop} (hh : A.handled = none) (D : ZipApart z TI TO i1 i2 l1 l2)
    (hz : IsZipK s.heap z TI TO T b) (hT : s.heap.get? T = some oT) (hTI : IsPair s.heap TI (.ref i1) (.ref i2))
    (h1 : s.heap.IsListIter i1 l1 k1) (hl1 : s.heap.IsList l1 xs) (hx : xs[k1]? = none)
    (hE : ∀ h' e, (∀ c o, c ≠ z → c ≠ i1 → s.heap.get? c = some o → h'.get? c = some o) → (∃ o, h'.get? e = some o ∧ o.cls = .type "StopIteration") → E (.ref e) { s with heap := h' }) :
    wpAny (model prog w) A (Builtin.«zip.__next__» ⟨[.ref z], []⟩) Q E s := by
  show wpAny _ _ (field (.ref z) 2 >>= _) _ _ _
  refine wpAny_bind (wpAny_field hz rfl (x := .bool false) rfl ?_)
  show wpAny _ _ (field (.ref z) 3 >>= _) _ _ _
  refine wpAny_bind (wpAny_field hz rfl (x := .ref TI) rfl ?_)
  refine wpAny_bind (wpAny_seqItems hTI rfl ?_)
  show wpAny _ _ (Builtin.SmallTypes.ownedTupleIsFree (.ref z) >>= _) _ _ _
  refine wpAny_bind (owned_kept hz hT fun h₁ hz₁ hs₁ => ?_)
  simp only [Bool.false_eq_true, if_false]
  refine wpAny_bind ?_
  rw [← Array.forIn_toList]
  simp only [List.forIn_cons, List.forIn_nil]
  refine wpAny_bind (wpAny_bind (wpAny_holding ?_))
  show wpAny _ _ (Builtin.SmallTypes.nextOf (.ref i1) >>= _) _ _ _
  refine wpAny_bind (wpAny_nextOf_list_end hh (h1.extBut hs₁.extBut D.i1z) (hl1.extBut hs₁.extBut D.l1z) hx fun h₂ e hs₂ he => ?_)
  exact hE h₂ e (fun c o c1 c3 x => hs₂ _ _ c3 (hs₁.extBut _ _ c1 x)) he
theorem pyNext_again {z TI TO T i1 i2 l1 l2 : Addr} {b : Bool} {oT : Obj} {k1 k2 : Nat} {xs ys : Array Value} {x y : Value} {Q : Option Value → Shared → Prop} (D : ZipApart z TI TO i1 i2 l1 l2)
    (hz : IsZipK s.heap z TI TO T b) (hT : s.heap.get? T = some oT) (hTI : IsPair s.heap TI (.ref i1) (.ref i2))
    (h1 : s.heap.IsListIter i1 l1 k1) (h2 : s.heap.IsListIter i2 l2 k2) (hl1 : s.heap.IsList l1 xs) (hl2 : s.heap.IsList l2 ys) (hx : xs[k1]? = some x) (hy : ys[k2]? = some y)
    (hQ : ∀ h', IsZipK h' z TI TO T true → h'.IsListIter i1 l1 (k1 + 1) → h'.IsListIter i2 l2 (k2 + 1) → IsPair h' s.heap.objs.size x y → h'.objs.size = s.heap.objs.size + 1 →
      (∀ c o, c ≠ z → c ≠ i1 → c ≠ i2 → s.heap.get? c = some o → h'.get? c = some o) → Q (some (.ref s.heap.objs.size)) { s with heap := h' }) : wpAny (model prog w) A (pyNext (.ref z)) Q E s := by
  have hTy : s.TypeIs (.ref z) "zip" := ⟨_, hz, rfl⟩
  unfold pyNext
  exact wpAny_bind (wpAny_attempt (wpAny_callSpecial?_slot (name := Str.ofString "__next__") hTy PySem.F.slot_zip_next
    (wpAny_call_entry PySem.F.slot_zip_next hTy PySem.F.entry_zip_next
      (zip_next_again D hz hT hTI h1 h2 hl1 hl2 hx hy fun h' a1 a2 a3 a4 a5 a6 => wpAny_pure (hQ h' a1 a2 a3 a4 a5 a6)) (PySem.F.args_zip_next_1 _))))
theorem pyNext_again_end {z TI TO T i1 i2 l1 l2 : Addr} {b : Bool} {oT : Obj} {k1 : Nat} {xs : Array Value} {Q : Option Value → Shared → Prop} (hh : A.handled = none) (D : ZipApart z TI TO i1 i2 l1 l2)
    (hz : IsZipK s.heap z TI TO T b) (hT : s.heap.get? T = some oT) (hTI : IsPair s.heap TI (.ref i1) (.ref i2))
    (h1 : s.heap.IsListIter i1 l1 k1) (hl1 : s.heap.IsList l1 xs) (hx : xs[k1]? = none)
    (hQ : ∀ h', (∀ c o, c ≠ z → c ≠ i1 → s.heap.get? c = some o → h'.get? c = some o) → Q none { s with heap := h' }) : wpAny (model prog w) A (pyNext (.ref z)) Q E s := by
  have hTy : s.TypeIs (.ref z) "zip" := ⟨_, hz, rfl⟩
  unfold pyNext
  refine wpAny_bind (wpAny_attempt (wpAny_callSpecial?_slot (name := Str.ofString "__next__") hTy PySem.F.slot_zip_next
    (wpAny_call_entry PySem.F.slot_zip_next hTy PySem.F.entry_zip_next (zip_again_end (l2 := l2) hh D hz hT hTI h1 hl1 hx fun h' e hk he => ?_) (PySem.F.args_zip_next_1 _))))
  obtain ⟨o, ho, hc⟩ := he
  refine wpAny_bind (wpAny_isInstance (T := "StopIteration") (b := true) ⟨o, ho, hc⟩ isSubtype_stop ?_)
  exact wpAny_pure (hQ _ hk)
end
theorem zip_no_len : typeLookup (.type "zip") "__len__" = pure none := by rw [typeLookup_type, builtinLookup_eq_fast]; kernel_rfl
theorem zip_no_hint : typeLookup (.type "zip") "__length_hint__" = pure none := by rw [typeLookup_type, builtinLookup_eq_fast]; kernel_rfl
/-- between two turns of list(zip(..)) -/
structure ZInv (s : Shared) (B S z TI TO i1 i2 l1 l2 : Addr) (xs ys : Array Value) (i : Nat) (ts : List Addr) (h : Heap) : Prop where
  old : ∀ b o, b < B → s.heap.get? b = some o → h.get? b = some o
  zip : IsZip h z TI TO .none ∨ ∃ T b oT, S < T ∧ IsZipK h z TI TO T b ∧ h.get? T = some oT
  pTI : IsPair h TI (.ref i1) (.ref i2)
  pTO : ∃ a b, IsPair h TO a b
  it1 : h.IsListIter i1 l1 i
  it2 : h.IsListIter i2 l2 i
  lst : ∃ c, h.get? S = some (listOf (ts.map Value.ref).toArray c)
  len : ts.length = i
  tup : ∀ (j : Nat) (T : Addr), ts[j]? = some T → S < T ∧ ∃ x y, xs[j]? = some x ∧ ys[j]? = some y ∧ IsPair h T x y
structure ZApart (B S z TI TO i1 i2 l1 l2 : Addr) : Prop where
  D : ZipApart z TI TO i1 i2 l1 l2
  zB : B ≤ z
  tB : B ≤ TO
  aB : B ≤ i1
  bB : B ≤ i2
  lB : l1 < B
  mB : l2 < B
  zS : z < S
  iS : TI < S
  tS : TO < S
  aS : i1 < S
  bS : i2 < S
section
variable {prog : Program} {w : World} {A : Around} {E : Value → Shared → Prop} {s : Shared} {B S z TI TO i1 i2 l1 l2 : Addr} {xs ys : Array Value}
/-- one more item: the tuple is made, the list is longer -/
theorem ZInv.next {i : Nat} {ts : List Addr} {h h' : Heap} {x y : Value} {c : Nat} (a : ZApart B S z TI TO i1 i2 l1 l2) (I : ZInv s B S z TI TO i1 i2 l1 l2 xs ys i ts h) (hx : xs[i]? = some x) (hy : ys[i]? = some y)
    (hS : h.get? S = some (listOf (ts.map Value.ref).toArray c))
    (k : ∀ c o, c ≠ z → c ≠ TO → c ≠ i1 → c ≠ i2 → h.get? c = some o → h'.get? c = some o) (hz : ∃ T b oT, S < T ∧ IsZipK h' z TI TO T b ∧ h'.get? T = some oT) (hTO : ∃ a b, IsPair h' TO a b) (g1 : h'.IsListIter i1 l1 (i + 1)) (g2 : h'.IsListIter i2 l2 (i + 1)) (hp : IsPair h' h.objs.size x y) :
    ZInv s B S z TI TO i1 i2 l1 l2 xs ys (i + 1) (ts ++ [h.objs.size]) (h'.update S (Obj.mapSeq (·.push (.ref h.objs.size)))) := by
  have hSlt : S < h.objs.size := Heap.lt_size hS
  have hS' : h'.get? S = some (listOf (ts.map Value.ref).toArray c) := k _ _ (Ne.symm (Nat.ne_of_lt a.zS)) (Ne.symm (Nat.ne_of_lt a.tS)) (Ne.symm (Nat.ne_of_lt a.aS)) (Ne.symm (Nat.ne_of_lt a.bS)) hS
  have up : ∀ b o, b ≠ S → h'.get? b = some o → (h'.update S (Obj.mapSeq (·.push (.ref h.objs.size)))).get? b = some o := fun b o hb e => (Heap.get?_update_other _ _ (Ne.symm hb)).trans e
  have ltS : ∀ {b}, b < S → b ≠ S := fun h => Nat.ne_of_lt h
  have gtS : ∀ {b}, S < b → b ≠ S := fun h => Ne.symm (Nat.ne_of_lt h)
  refine ⟨fun b o hb e => ?_, ?_, ?_, ?_, ?_, ?_, ?_, ?_, ?_⟩
  · refine up b o (Nat.ne_of_lt (Nat.lt_of_lt_of_le hb (Nat.le_of_lt (Nat.lt_of_le_of_lt a.zB a.zS)))) (k b o ?_ ?_ ?_ ?_ (I.old b o hb e))
    · exact Nat.ne_of_lt (Nat.lt_of_lt_of_le hb a.zB)
    · exact Nat.ne_of_lt (Nat.lt_of_lt_of_le hb a.tB)
    · exact Nat.ne_of_lt (Nat.lt_of_lt_of_le hb a.aB)
    · exact Nat.ne_of_lt (Nat.lt_of_lt_of_le hb a.bB)
  · obtain ⟨T, b, oT, h1, h2, h3⟩ := hz
    exact .inr ⟨T, b, oT, h1, up _ _ (ltS a.zS) h2, up _ _ (gtS h1) h3⟩
  · exact up _ _ (ltS a.iS) (k _ _ a.D.TIz a.D.TITO a.D.TIi1 a.D.TIi2 I.pTI)
  · obtain ⟨p, q, e⟩ := hTO
    exact ⟨p, q, up _ _ (ltS a.tS) e⟩
  · exact g1.at fun o e => up _ o (ltS a.aS) e
  · exact g2.at fun o e => up _ o (ltS a.bS) e
  · have := Heap.get?_update_self (Obj.mapSeq (·.push (.ref h.objs.size))) hS' rfl
    refine ⟨c + 1, this.trans ?_⟩
    simp [Obj.mapSeq]
  · rw [List.length_append, List.length_singleton, I.len]
  · intro j T hj
    by_cases hji : j < ts.length
    · rw [List.getElem?_append_left hji] at hj
      obtain ⟨g, u, v, e1, e2, e3⟩ := I.tup j T hj
      exact ⟨g, u, v, e1, e2, up _ _ (gtS g) (k _ _ (Ne.symm (Nat.ne_of_lt (Nat.lt_trans a.zS g))) (Ne.symm (Nat.ne_of_lt (Nat.lt_trans a.tS g))) (Ne.symm (Nat.ne_of_lt (Nat.lt_trans a.aS g))) (Ne.symm (Nat.ne_of_lt (Nat.lt_trans a.bS g))) e3)⟩
    · rw [List.getElem?_append_right (by omega)] at hj
      have h0 : j - ts.length = 0 := by
        cases hc : j - ts.length with
        | zero => rfl
        | succ k => rw [hc] at hj; cases hj
      rw [h0] at hj
      cases hj
      have e : j = i := by have := I.len; omega
      subst e
      exact ⟨hSlt, x, y, hx, hy, up _ _ (gtS hSlt) hp⟩
theorem zip_loop {R : Result → Shared → Prop} {n : Nat} {res : Value} (hh : A.handled = none) (a : ZApart B S z TI TO i1 i2 l1 l2) (hx : xs.size = n) (hy : ys.size = n) (hn : n ≤ 1000000) (hl1 : s.heap.IsList l1 xs) (hl2 : s.heap.IsList l2 ys)
    (hR : ∀ (h' : Heap) (ts : List Addr) (c : Nat), (∀ b o, b < B → s.heap.get? b = some o → h'.get? b = some o) → h'.get? S = some (listOf (ts.map Value.ref).toArray c) → ts.length = n → (∀ (j : Nat) (T : Addr), ts[j]? = some T → S < T ∧ ∃ x y, xs[j]? = some x ∧ ys[j]? = some y ∧ IsPair h' T x y) → R (.ok (.ret res)) { s with heap := h' }) :
    ∀ (k i : Nat) (h : Heap) (ts : List Addr), n - i = k → i ≤ n → ZInv s B S z TI TO i1 i2 l1 l2 xs ys i ts h → codeAny (model prog w) A (.builtin "list.extend.loop" ⟨[.ref S, .ref z, res], []⟩) R { s with heap := h } := by
  intro k
  induction k with
  | zero =>
    intro i h ts hk hi I
    have hin : i = n := by omega
    subst hin
    refine codeAny_builtin PySem.F.entry_extend_loop ?_
    rw [Around.under_plainId PySem.F.plain_extend_loop _]
    show wpAny _ A.in1 (pyNext (.ref z) >>= _) _ _ _
    have hl1' : h.IsList l1 xs := hl1.at fun o e => I.old l1 o a.lB e
    have hl2' : h.IsList l2 ys := hl2.at fun o e => I.old l2 o a.mB e
    have hxn : xs[i]? = none := Array.getElem?_eq_none (by omega)
    obtain ⟨c, hS⟩ := I.lst
    have fin : ∀ h', (∀ c o, c ≠ z → c ≠ TO → c ≠ i1 → c ≠ i2 → h.get? c = some o → h'.get? c = some o) → R (.ok (.ret res)) { s with heap := h' } := by
      intro h' hk'
      refine hR h' ts c (fun b o hb e => hk' b o ?_ ?_ ?_ ?_ (I.old b o hb e)) (hk' _ _ ?_ ?_ ?_ ?_ hS) I.len fun j T hj => ?_
      · exact Nat.ne_of_lt (Nat.lt_of_lt_of_le hb a.zB)
      · exact Nat.ne_of_lt (Nat.lt_of_lt_of_le hb a.tB)
      · exact Nat.ne_of_lt (Nat.lt_of_lt_of_le hb a.aB)
      · exact Nat.ne_of_lt (Nat.lt_of_lt_of_le hb a.bB)
      · exact Ne.symm (Nat.ne_of_lt a.zS)
      · exact Ne.symm (Nat.ne_of_lt a.tS)
      · exact Ne.symm (Nat.ne_of_lt a.aS)
      · exact Ne.symm (Nat.ne_of_lt a.bS)
      · obtain ⟨g, u, v, e1, e2, e3⟩ := I.tup j T hj
        exact ⟨g, u, v, e1, e2, hk' _ _ (Ne.symm (Nat.ne_of_lt (Nat.lt_trans a.zS g))) (Ne.symm (Nat.ne_of_lt (Nat.lt_trans a.tS g))) (Ne.symm (Nat.ne_of_lt (Nat.lt_trans a.aS g))) (Ne.symm (Nat.ne_of_lt (Nat.lt_trans a.bS g))) e3⟩
    refine wpAny_bind ?_
    rcases I.zip with hz | ⟨T, b, oT, hT, hz, hoT⟩
    · obtain ⟨p, q, hTO⟩ := I.pTO
      exact wpAny_pyNext_zip_end hh a.D hz I.pTI hTO I.it1 I.it2 hl1' hl2' (.inl hxn) fun h' hk' => wpAny_pure (fin h' hk')
    · exact pyNext_again_end hh a.D hz hoT I.pTI I.it1 hl1' hxn fun h' hk' => wpAny_pure (fin h' fun c o c1 _ c3 _ e => hk' c o c1 c3 e)
  | succ k ih =>
    intro i h ts hk hi I
    have hlt : i < n := by omega
    refine codeAny_builtin PySem.F.entry_extend_loop ?_
    rw [Around.under_plainId PySem.F.plain_extend_loop _]
    show wpAny _ A.in1 (pyNext (.ref z) >>= _) _ _ _
    have hl1' : h.IsList l1 xs := hl1.at fun o e => I.old l1 o a.lB e
    have hl2' : h.IsList l2 ys := hl2.at fun o e => I.old l2 o a.mB e
    have hxi : xs[i]? = some xs[i] := Array.getElem?_eq_getElem (by omega)
    have hyi : ys[i]? = some ys[i] := Array.getElem?_eq_getElem (by omega)
    obtain ⟨c, hS⟩ := I.lst
    have step : ∀ h', (∀ c o, c ≠ z → c ≠ TO → c ≠ i1 → c ≠ i2 → h.get? c = some o → h'.get? c = some o) → (∃ T b oT, S < T ∧ IsZipK h' z TI TO T b ∧ h'.get? T = some oT) → (∃ a b, IsPair h' TO a b) → h'.IsListIter i1 l1 (i + 1) → h'.IsListIter i2 l2 (i + 1) → IsPair h' h.objs.size xs[i] ys[i] →
        wpAny (model prog w) A.in1 (updateSeq S (·.push (.ref h.objs.size)) >>= fun _ => again (.builtin "list.extend.loop" ⟨[.ref S, .ref z, res], []⟩)) (fun fin s' => match fin with | .done f => R (.ok f) s' | .again c' => c'.quiet = true ∧ codeAny (model prog w) A c' R s') (fun e s' => R (.error e) s') { s with heap := h' } := by
      intro h' hk' hz hTO g1 g2 hp
      have hS' : h'.get? S = some (listOf (ts.map Value.ref).toArray c) := hk' _ _ (Ne.symm (Nat.ne_of_lt a.zS)) (Ne.symm (Nat.ne_of_lt a.tS)) (Ne.symm (Nat.ne_of_lt a.aS)) (Ne.symm (Nat.ne_of_lt a.bS)) hS
      have hsz : (List.map Value.ref ts).toArray.size = i := by rw [List.size_toArray, List.length_map, I.len]
      refine wpAny_bind (wpAny_updateSeq hS' rfl (wpAny_pure ⟨plainId_quiet PySem.F.plain_extend_loop _, ih (i + 1) _ _ (by omega) hlt (I.next a hxi hyi hS hk' hz hTO g1 g2 hp)⟩) (by rw [hsz, sizeLine_eq]; omega) (by show (Array.push _ _).size ≤ _; rw [Array.size_push, hsz, sizeLine_eq]; omega))
    refine wpAny_bind ?_
    rcases I.zip with hz | ⟨T, b, oT, hT, hz, hoT⟩
    · obtain ⟨p, q, hTO⟩ := I.pTO
      exact wpAny_pyNext_zip_item a.D hz I.pTI hTO I.it1 I.it2 hl1' hl2' hxi hyi fun h' a1 a2 a3 a4 a5 a6 hk' => step h' hk' ⟨_, _, _, Heap.lt_size hS, a1, a5⟩ ⟨_, _, a2⟩ a3 a4 a5
    · obtain ⟨p, q, hTO⟩ := I.pTO
      exact pyNext_again a.D hz hoT I.pTI I.it1 I.it2 hl1' hl2' hxi hyi fun h' a1 a3 a4 a5 a6 hk' => step h' (fun c o c1 _ c3 c4 e => hk' c o c1 c3 c4 e) ⟨T, _, oT, hT, a1, hk' _ _ (Ne.symm (Nat.ne_of_lt (Nat.lt_trans a.zS hT))) (Ne.symm (Nat.ne_of_lt (Nat.lt_trans a.aS hT))) (Ne.symm (Nat.ne_of_lt (Nat.lt_trans a.bS hT))) hoT⟩ ⟨p, q, hk' _ _ a.D.TOz a.D.TOi1 a.D.TOi2 hTO⟩ a3 a4 a5
end
/-- a zip over two lists, made new -/
structure ZipAt (h₀ : Heap) (L : Addr) (news : List (Addr × Obj)) (h : Heap) (z l1 l2 : Addr) (xs ys : Array Value) (B TI TO i1 i2 : Addr) : Prop where
  D : ZipApart z TI TO i1 i2 l1 l2
  hz : IsZip h z TI TO .none
  pTI : IsPair h TI (.ref i1) (.ref i2)
  pTO : ∃ a b, IsPair h TO a b
  it1 : h.IsListIter i1 l1 0
  it2 : h.IsListIter i2 l2 0
  hl1 : h.IsList l1 xs
  hl2 : h.IsList l2 ys
  zB : B ≤ z
  tB : B ≤ TO
  aB : B ≤ i1
  bB : B ≤ i2
  lB : l1 < B
  mB : l2 < B
  LB : L < B
  nB : ∀ p ∈ news, p.1 < B
  oB : ∀ b o, h₀.get? b = some o → b < B
section
variable {prog : Program} {w : World} {A : Around} {E : Value → Shared → Prop} {s : Shared} {h₀ : Heap} {L : Addr} {m : PySem.Str → Option Value} {news : List (Addr × Obj)} {l1 l2 : Addr} {xs ys : Array Value} {Q : Value → Shared → Prop}
theorem zip_K (F : Fr h₀ L s.heap m) (N : News h₀ L s.heap news) (hl1 : s.heap.IsList l1 xs) (hl2 : s.heap.IsList l2 ys)
    (k : ∀ z h' B TI TO i1 i2, Fr h₀ L h' m → News h₀ L h' news → ZipAt h₀ L news h' z l1 l2 xs ys B TI TO i1 i2 → Q (.ref z) { s with heap := h' }) : wpAny (model prog w) A (call (.type "zip") [.ref l1, .ref l2]) Q E s := by
  have a1 : l1 < s.heap.objs.size := by obtain ⟨_, e, _⟩ := hl1; exact Heap.lt_size e
  have a2 : l2 < s.heap.objs.size := by obtain ⟨_, e, _⟩ := hl2; exact Heap.lt_size e
  refine zip_rows F hl1 hl2 fun h' z TI TO i1 i2 D ⟨hz, hTI, hTO, h1, h2, g1, g2⟩ F' hk b1 b2 b3 b4 _ => ?_
  exact k z h' s.heap.objs.size TI TO i1 i2 F' (N.grown hk) ⟨D, hz, hTI, hTO, h1, h2, g1, g2, b1, b2, b3, b4, a1, a2, F.ns.lt, fun p hp => Heap.lt_size (N p hp).1, fun b o e => Heap.lt_size (F.keep b o e)⟩
/-- the tuples of list(zip(..)), on the ledger -/
def tupObjs (ts : List Addr) (xs ys : List Value) : List (Addr × Obj) := (ts.zip (xs.zip ys)).map fun p => (p.1, { cls := .type "tuple", data := .seq #[p.2.1, p.2.2] })
theorem list_zip {xs ys : List Value} {z B TI TO i1 i2 : Addr} (hh : A.handled = none) (F : Fr h₀ L s.heap m) (N : News h₀ L s.heap news) (Z : ZipAt h₀ L news s.heap z l1 l2 xs.toArray ys.toArray B TI TO i1 i2) (hl : xs.length = ys.length) (hn : xs.length ≤ 1000000)
    (h : ∀ D h' ts c, Fr h₀ L h' m → News h₀ L h' ((D, listOf (ts.map Value.ref).toArray c) :: (tupObjs ts xs ys ++ news)) → (∀ p ∈ tupObjs ts xs ys ++ news, p.1 ≠ D) → ts.length = xs.length → Q (.ref D) { s with heap := h' }) :
    wpAny (model prog w) A (call (.type "list") [.ref z]) Q E s := by
  have hzlt : z < s.heap.objs.size := Heap.lt_size Z.hz
  have hTIlt : TI < s.heap.objs.size := Heap.lt_size Z.pTI
  have hTOlt : TO < s.heap.objs.size := by obtain ⟨_, _, e⟩ := Z.pTO; exact Heap.lt_size e
  have hi1lt : i1 < s.heap.objs.size := by obtain ⟨_, e, _⟩ := Z.it1; exact Heap.lt_size e
  have hi2lt : i2 < s.heap.objs.size := by obtain ⟨_, e, _⟩ := Z.it2; exact Heap.lt_size e
  have hBS : B < s.heap.objs.size := Nat.lt_of_le_of_lt Z.zB hzlt
  have ap : ZApart B s.heap.objs.size z TI TO i1 i2 l1 l2 := ⟨Z.D, Z.zB, Z.tB, Z.aB, Z.bB, Z.lB, Z.mB, hzlt, hTIlt, hTOlt, hi1lt, hi2lt⟩
  have fin : ∀ (h' : Heap) (ts : List Addr) (c : Nat), (∀ b o, b < B → s.heap.get? b = some o → h'.get? b = some o) → h'.get? s.heap.objs.size = some (listOf (ts.map Value.ref).toArray c) → ts.length = xs.length →
      (∀ (j : Nat) (T : Addr), ts[j]? = some T → s.heap.objs.size < T ∧ ∃ x y, xs.toArray[j]? = some x ∧ ys.toArray[j]? = some y ∧ IsPair h' T x y) → Q (.ref s.heap.objs.size) { s with heap := h' } := by
    intro h' ts c old hS hlen tup
    have h0 : ∀ b, s.heap.objs.size ≤ b → h₀.get? b = none := fun b hb => by
      cases e : h₀.get? b with
      | none => rfl
      | some o => exact absurd (Z.oB b o e) (Nat.not_lt.mpr (Nat.le_trans (Nat.le_of_lt hBS) hb))
    have hLne : ∀ b, s.heap.objs.size ≤ b → b ≠ L := fun b hb e => absurd Z.LB (Nat.not_lt.mpr (Nat.le_trans (Nat.le_of_lt hBS) (e ▸ hb)))
    have hmem : ∀ p ∈ tupObjs ts xs ys, s.heap.objs.size < p.1 ∧ h'.get? p.1 = some p.2 := by
      intro p hp
      obtain ⟨⟨T, x, y⟩, hq, rfl⟩ := List.mem_map.mp hp
      obtain ⟨j, hj⟩ := List.getElem?_of_mem hq
      obtain ⟨hj1, hj2⟩ := List.getElem?_zip_eq_some.mp hj
      obtain ⟨hj3, hj4⟩ := List.getElem?_zip_eq_some.mp hj2
      obtain ⟨g, u, v, e1, e2, e3⟩ := tup j T hj1
      rw [List.getElem?_toArray] at e1 e2
      have eu : x = u := Option.some.inj (hj3.symm.trans e1)
      have ev : y = v := Option.some.inj (hj4.symm.trans e2)
      subst eu ev
      exact ⟨g, e3⟩
    refine h _ h' ts c ⟨F.ns.at' fun o e => old _ o Z.LB e, fun b o e => old b o (Z.oB b o e) (F.keep b o e), F.above⟩ ?_ ?_ hlen
    · intro p hp
      rcases List.mem_cons.mp hp with rfl | hp
      · exact ⟨hS, hLne _ (Nat.le_refl _), h0 _ (Nat.le_refl _)⟩
      · rcases List.mem_append.mp hp with hp | hp
        · have := hmem p hp
          exact ⟨this.2, hLne _ (Nat.le_of_lt this.1), h0 _ (Nat.le_of_lt this.1)⟩
        · exact ⟨old _ _ (Z.nB p hp) (N p hp).1, (N p hp).2⟩
    · intro p hp
      rcases List.mem_append.mp hp with hp | hp
      · exact Ne.symm (Nat.ne_of_lt (hmem p hp).1)
      · exact Nat.ne_of_lt (Nat.lt_trans (Z.nB p hp) hBS)
  refine callType_codes (Q₁ := fun obj s₁ => obj = .ref s.heap.objs.size ∧ s₁ = { s with heap := s.heap.push { cls := .type "list", data := .seq #[] } }) PySem.F.called_list (PySem.F.typeCall_list_1 _) PySem.F.entry_list_init
    (code_list_new _ ⟨rfl, rfl⟩) fun obj s₁ h₁ => ?_
  obtain ⟨rfl, rfl⟩ := h₁
  have hS : (s.heap.push { cls := .type "list", data := .seq #[] }).get? s.heap.objs.size = some { cls := .type "list", data := .seq #[] } := Heap.get?_push_size _ rfl
  have hSz : s.heap.objs.size ≠ z := Ne.symm (Nat.ne_of_lt hzlt)
  refine ⟨⟨_, hS, rfl⟩, PySem.F.args_list_init_2 _ _, ?_⟩
  show wpAny _ _ (do let old ← Builtin.List.listItems (.ref s.heap.objs.size); Builtin.List.listUpdate (.ref s.heap.objs.size) (fun _ => #[]); letGo old.toList.reverse; Builtin.List.listExtendWith (.ref s.heap.objs.size) (.ref z) .none) _ _ _
  refine wpAny_bind ?_
  unfold Builtin.List.listItems
  refine wpAny_bind (wpAny_seqItems hS rfl (wpAny_pure ?_))
  show wpAny _ _ (updateSeq s.heap.objs.size (fun _ => #[]) >>= fun _ => letGo (#[] : Array Value).toList.reverse >>= fun _ => Builtin.List.listExtendWith (.ref s.heap.objs.size) (.ref z) .none) _ _ _
  refine wpAny_bind (wpAny_updateSeq hS rfl ?_)
  have hS₂ := Heap.get?_update_self (Obj.mapSeq (fun _ => (#[] : Array Value))) hS rfl
  refine wpAny_bind (wpAny_letGo ?_)
  generalize hg : ((s.heap.push { cls := .type "list", data := .seq #[] }).update s.heap.objs.size (Obj.mapSeq fun _ => (#[] : Array Value))) = H2 at hS₂
  have up2 : ∀ b o, s.heap.get? b = some o → H2.get? b = some o := fun b o e => by
    rw [← hg]
    exact (Heap.get?_update_other _ _ (Ne.symm (Nat.ne_of_lt (Heap.lt_size e)))).trans (Heap.get?_push_of_some _ e)
  have hT : ({ s with heap := H2 } : Shared).TypeIs (.ref z) "zip" := ⟨_, up2 _ _ Z.hz, rfl⟩
  unfold Builtin.List.listExtendWith
  refine wpAny_bind (wpAny_typeOf hT ?_)
  have h1 : Builtin.List.listSameRef (.ref s.heap.objs.size) (.ref z) = false := by simp [Builtin.List.listSameRef, hSz]
  have h2 : (Value.type "zip" == Value.type "list") = false := by decide
  have h3 : (Value.type "zip" == Value.type "tuple") = false := by decide
  simp only [h1, h2, h3, Bool.or_false, Bool.false_eq_true, if_false]
  refine wpAny_bind (wpAny_pyIter_zip (up2 _ _ Z.hz) ?_)
  refine wpAny_bind (wpAny_holding ?_)
  unfold Builtin.List.listLengthHint
  refine wpAny_bind (wpAny_specialOf hT zip_no_len ?_)
  show wpAny _ _ (specialOf (Value.ref z) (Str.ofString "__length_hint__") >>= _) _ _ _
  refine wpAny_bind (wpAny_specialOf hT zip_no_hint ?_)
  refine wpAny_pure ?_
  show wpAny _ _ (rule "list.extend.makes-room" >>= fun _ => Builtin.List.listTouch (.ref s.heap.objs.size) >>= fun _ =>
    again (.builtin "list.extend.loop" ⟨[.ref s.heap.objs.size, .ref z, .none], []⟩)) _ _ _
  refine wpAny_bind (wpAny_rule ?_)
  refine wpAny_bind ?_
  show wpAny _ _ (updateSeq s.heap.objs.size (·.push .none) >>= fun _ => updateSeq s.heap.objs.size (·.pop)) _ _ _
  refine wpAny_bind (wpAny_updateSeq hS₂ rfl ?_)
  have hS₃ := Heap.get?_update_self (Obj.mapSeq (·.push Value.none)) hS₂ rfl
  refine wpAny_updateSeq (hz := by seq_fits) hS₃ rfl ?_
  have hS₄ := Heap.get?_update_self (Obj.mapSeq (·.pop)) hS₃ rfl
  have oth : ∀ b o, s.heap.get? b = some o → ((H2.update s.heap.objs.size (Obj.mapSeq (·.push Value.none))).update s.heap.objs.size (Obj.mapSeq (·.pop))).get? b = some o :=
    fun b o e => (Heap.get?_update_other _ _ (Ne.symm (Nat.ne_of_lt (Heap.lt_size e)))).trans ((Heap.get?_update_other _ _ (Ne.symm (Nat.ne_of_lt (Heap.lt_size e)))).trans (up2 b o e))
  refine wpAny_pure ⟨plainId_quiet PySem.F.plain_extend_loop _, ?_⟩
  refine zip_loop (s := s) (n := xs.length) (A := A.in1) (R := wants (fun r s₂ => r = Value.none ∧ Q (.ref s.heap.objs.size) s₂) E) hh ap (by simp) (by simp [hl]) hn Z.hl1 Z.hl2 (fun h' ts c a1 a2 a3 a4 => ⟨rfl, fin h' ts c a1 a2 a3 a4⟩) _ 0 _ [] rfl (Nat.zero_le _) ⟨fun b o _ e => oth b o e, .inl (oth _ _ Z.hz), oth _ _ Z.pTI, ?_, Z.it1.at fun o e => oth _ o e, Z.it2.at fun o e => oth _ o e, ⟨_, hS₄⟩, rfl, fun j T hj => by simp at hj⟩
  obtain ⟨p, q, e⟩ := Z.pTO
  exact ⟨p, q, oth _ _ e⟩
end
end Mine
end

section
open PySem PySem.W PyProof.Rows
set_option Elab.async false
set_option maxRecDepth 100000
namespace Mine
/-- rows of ints, each a list of the ledger -/
inductive RowsIn (nw : List (Addr × Obj)) : List Value → List (List Int) → Prop
  | nil : RowsIn nw [] []
  | cons {a : Addr} {vs : List Value} {n : Nat} {k : List Int} {us : List Value} {ks : List (List Int)} : (a, listOf vs.toArray n) ∈ nw → IntsAre vs k → RowsIn nw us ks → RowsIn nw (.ref a :: us) (k :: ks)
namespace RowsIn
variable {nw nw' : List (Addr × Obj)}
theorem length : ∀ {us : List Value} {ks : List (List Int)}, RowsIn nw us ks → us.length = ks.length
  | _, _, .nil => rfl
  | _, _, .cons _ _ h => congrArg (· + 1) h.length
theorem mono (hs : ∀ p ∈ nw, p ∈ nw') : ∀ {us : List Value} {ks : List (List Int)}, RowsIn nw us ks → RowsIn nw' us ks
  | _, _, .nil => .nil
  | _, _, .cons h1 h2 h => .cons (hs _ h1) h2 (h.mono hs)
theorem append : ∀ {us ws : List Value} {ks ls : List (List Int)}, RowsIn nw us ks → RowsIn nw ws ls → RowsIn nw (us ++ ws) (ks ++ ls)
  | _, _, _, _, .nil, h => h
  | _, _, _, _, .cons h1 h2 r, h => .cons h1 h2 (r.append h)
theorem one {a : Addr} {vs : List Value} {n : Nat} {k : List Int} (h1 : (a, listOf vs.toArray n) ∈ nw) (h2 : IntsAre vs k) : RowsIn nw [.ref a] [k] := .cons h1 h2 .nil
theorem get : ∀ {us : List Value} {ks : List (List Int)}, RowsIn nw us ks → ∀ (i : Nat), i < ks.length → ∃ a vs n, us[i]? = some (.ref a) ∧ (a, listOf vs.toArray n) ∈ nw ∧ IntsAre vs (ks.getD i [])
  | _, _, .cons h1 h2 _, 0, _ => ⟨_, _, _, rfl, h1, h2⟩
  | _, _, .cons _ _ h, i + 1, hi => h.get i (by simpa using hi)
theorem at_ {us : List Value} {ks : List (List Int)} (h : RowsIn nw us ks) {i : Nat} {v : Value} (hv : us[i]? = some v) : ∃ a vs n, v = .ref a ∧ (a, listOf vs.toArray n) ∈ nw ∧ IntsAre vs (ks.getD i []) := by
  have hi : i < ks.length := by rw [← h.length]; exact (List.getElem?_eq_some_iff.mp hv).1
  obtain ⟨a, vs, n, e, h1, h2⟩ := h.get i hi
  exact ⟨a, vs, n, Option.some.inj (hv.symm.trans e), h1, h2⟩
theorem drop : ∀ {us : List Value} {ks : List (List Int)}, RowsIn nw us ks → ∀ i, RowsIn nw (us.drop i) (ks.drop i)
  | _, _, h, 0 => h
  | _, _, .nil, _ + 1 => .nil
  | _, _, .cons _ _ h, i + 1 => h.drop i
theorem take : ∀ {us : List Value} {ks : List (List Int)}, RowsIn nw us ks → ∀ i, RowsIn nw (us.take i) (ks.take i)
  | _, _, _, 0 => .nil
  | _, _, .nil, _ + 1 => .nil
  | _, _, .cons h1 h2 h, i + 1 => .cons h1 h2 (h.take i)
theorem ref : ∀ {us : List Value} {ks : List (List Int)}, RowsIn nw us ks → ∀ y ∈ us, ∃ a vs n, y = .ref a ∧ (a, listOf (List.toArray vs) n) ∈ nw
  | _, _, .cons h1 _ h, y, hy => by
    rcases List.mem_cons.mp hy with rfl | hy
    · exact ⟨_, _, _, rfl, h1⟩
    · exact h.ref y hy
end RowsIn
section
variable {prog : Program} {w : World} {A : Around} {E : Value → Shared → Prop} {s : Shared} {h₀ : Heap} {L : Addr} {m : PySem.Str → Option Value} {nw : List (Addr × Obj)}
theorem none_in_rows {l : Addr} {us : List Value} {ks : List (List Int)} {Q : Value → Shared → Prop} (N : News h₀ L s.heap nw) (hl : s.heap.IsList l us.toArray) (R : RowsIn nw us ks) (hu : A.units + 8 < cLine) (h : Q (.bool false) s) :
    wpAny (model prog w) A (compareOp .In .none (.ref l)) Q E s := by
  refine SeqAt.in_listAt (fun _ => false) hl (fun y hy => ?_) ?_
  · obtain ⟨a, vs, n, rfl, hm⟩ := R.ref y (by simpa using hy)
    exact SeqAt.EqAt.list_none (News.isList N hm) (by show A.units + 1 < cLine; omega)
  · have : (us.toArray.any fun _ => false) = false := by simp
    rw [this]; exact h
theorem ints_eqAt {vs us : List Value} {ks ls : List Int} (hi : IntsAre vs ks) (hj : IntsAre us ls) (j : Nat) (h1 : j < vs.toArray.size) (h2 : j < us.toArray.size) : SeqAt.EqAt A s vs.toArray[j] us.toArray[j] (ks.getD j 0 == ls.getD j 0) := by
  have e1 := hi.length
  have e2 := hj.length
  simp only [List.size_toArray] at h1 h2
  obtain ⟨t1, g1⟩ := ints_at hi (i := j) (by omega)
  obtain ⟨t2, g2⟩ := ints_at hj (i := j) (by omega)
  have k1 : vs.toArray[j]'(by simpa using h1) = .int (ks[j]'(by omega)) t1 := by
    have := Array.getElem?_eq_getElem (xs := vs.toArray) (i := j) (by simpa using h1)
    exact Option.some.inj (this.symm.trans g1)
  have k2 : us.toArray[j]'(by simpa using h2) = .int (ls[j]'(by omega)) t2 := by
    have := Array.getElem?_eq_getElem (xs := us.toArray) (i := j) (by simpa using h2)
    exact Option.some.inj (this.symm.trans g2)
  rw [k1, k2, List.getD_eq_getElem?_getD, List.getD_eq_getElem?_getD, List.getElem?_eq_getElem (by omega), List.getElem?_eq_getElem (by omega)]
  exact SeqAt.EqAt.int_int _ _ _ _
theorem all_eq {ks ls : List Int} (h : ks.length = ls.length) : ((List.range ks.length).all fun j => ks.getD j 0 == ls.getD j 0) = decide (ks = ls) := by
  rw [Bool.eq_iff_iff, decide_eq_true_iff, List.all_eq_true]
  constructor
  · intro hh
    apply List.ext_getElem h
    intro i h1 h2
    have := eq_of_beq (hh i (List.mem_range.mpr h1))
    rwa [List.getD_eq_getElem?_getD, List.getD_eq_getElem?_getD, List.getElem?_eq_getElem h1, List.getElem?_eq_getElem h2] at this
  · rintro rfl i _
    exact beq_self_eq_true _
theorem rc_ints {l b : Addr} {vs us : List Value} {ks ls : List Int} (hl : s.heap.IsList l vs.toArray) (hb : s.heap.IsList b us.toArray) (hi : IntsAre vs ks) (hj : IntsAre us ls) (hu : A.units < cLine) : SeqAt.RcAt A s (.ref l) (.ref b) (decide (ks = ls)) := by
  have e1 := hi.length
  have e2 := hj.length
  by_cases he : ks.length = ls.length
  · have := SeqAt.RcAt.lists (A := A) (s := s) hl hb (by simp; omega) hu (fun j h1 h2 => ints_eqAt hi hj j h1 h2)
    rw [List.size_toArray, e1, all_eq he] at this
    exact this
  · have hne : ¬ ks = ls := fun h => he (congrArg List.length h)
    rw [decide_eq_false hne]
    exact SeqAt.RcAt.lists_lengths hl hb (by simp; omega) hu
theorem eq_ints {l b : Addr} {vs us : List Value} {ks ls : List Int} {Q : Value → Shared → Prop} (hl : s.heap.IsList l vs.toArray) (hb : s.heap.IsList b us.toArray) (hi : IntsAre vs ks) (hj : IntsAre us ls) (hu : A.units < cLine) (h : Q (.bool (decide (ks = ls))) s) :
    wpAny (model prog w) A (compareOp .Eq (.ref l) (.ref b)) Q E s := cmp_ofEq (rc_ints hl hb hi hj hu prog w E Q h)
theorem ne_ints {l b : Addr} {vs us : List Value} {ks ls : List Int} {Q : Value → Shared → Prop} (hl : s.heap.IsList l vs.toArray) (hb : s.heap.IsList b us.toArray) (hi : IntsAre vs ks) (hj : IntsAre us ls) (e : ks = ls) (hu : A.units < cLine) (h : Q (.bool false) s) :
    wpAny (model prog w) A (compareOp .NotEq (.ref l) (.ref b)) Q E s := by
  subst e
  have e1 := hi.length
  have e2 := hj.length
  have := SeqAt.RcNeAt.lists (A := A) (s := s) hl hb (by simp; omega) hu (fun j h1 h2 => ints_eqAt hi hj j h1 h2)
  rw [List.size_toArray, e1, all_eq rfl, decide_eq_true rfl] at this
  exact cmp_ofNotEq (this prog w E Q h)
/-- two lists of the same rows -/
theorem ne_rows {l b : Addr} {us ws : List Value} {ks : List (List Int)} {Q : Value → Shared → Prop} (N : News h₀ L s.heap nw) (hl : s.heap.IsList l us.toArray) (hb : s.heap.IsList b ws.toArray) (R : RowsIn nw us ks) (R2 : RowsIn nw ws ks) (hu : A.units + 16 < cLine) (h : Q (.bool false) s) :
    wpAny (model prog w) A (compareOp .NotEq (.ref l) (.ref b)) Q E s := by
  have e1 := R.length
  have e2 := R2.length
  have := SeqAt.RcNeAt.lists (A := A) (s := s) (e := fun _ => true) hl hb (by simp; omega) (by omega) (fun j h1 h2 => by
    simp only [List.size_toArray] at h1 h2
    obtain ⟨a1, v1, n1, g1, m1, i1⟩ := R.get j (by omega)
    obtain ⟨a2, v2, n2, g2, m2, i2⟩ := R2.get j (by omega)
    have k1 : us.toArray[j]'(by simpa using h1) = .ref a1 := by
      have := Array.getElem?_eq_getElem (xs := us.toArray) (i := j) (by simpa using h1)
      rw [List.getElem?_toArray, g1] at this
      exact (Option.some.inj this).symm
    have k2 : ws.toArray[j]'(by simpa using h2) = .ref a2 := by
      have := Array.getElem?_eq_getElem (xs := ws.toArray) (i := j) (by simpa using h2)
      rw [List.getElem?_toArray, g2] at this
      exact (Option.some.inj this).symm
    rw [k1, k2]
    by_cases he : a1 = a2
    · subst he; exact SeqAt.EqAt.same _
    · have := rc_ints (A := A.in1) (News.isList N m1) (News.isList N m2) i1 i2 (by show A.units + 1 < cLine; omega)
      rw [decide_eq_true rfl] at this
      exact SeqAt.EqAt.of_refs he this)
  have e : (List.range us.toArray.size).all (fun _ => true) = true := by simp
  rw [e] at this
  exact cmp_ofNotEq (this prog w E Q h)
end
end Mine
end

section
open PySem PySem.W PyProof.Rows
set_option Elab.async false
set_option maxRecDepth 100000
namespace Mine
theorem tup_at {ts : List Addr} {xs ys : List Value} {as bs : List Int} (hts : ts.length = as.length) (hx : IntsAre xs as) (hy : IntsAre ys bs) (hl : as.length = bs.length) {i : Nat} {v : Value} (hv : (ts.map Value.ref).toArray[i]? = some v) :
    ∃ T ot a b t u, v = .ref T ∧ (T, ot) ∈ tupObjs ts xs ys ∧ ot.cls = .type "tuple" ∧ ot.data = .seq #[.int a t, .int b u] 0 ∧ as[i]? = some a ∧ bs[i]? = some b := by
  rw [List.getElem?_toArray, List.getElem?_map] at hv
  cases hT : ts[i]? with
  | none => rw [hT] at hv; cases hv
  | some T =>
    rw [hT] at hv
    cases hv
    have hi : i < as.length := by rw [← hts]; exact (List.getElem?_eq_some_iff.mp hT).1
    have hi2 : i < bs.length := by omega
    obtain ⟨t, ht⟩ := ints_at hx hi
    obtain ⟨u, hu⟩ := ints_at hy hi2
    rw [List.getElem?_toArray] at ht hu
    refine ⟨T, _, as[i], bs[i], t, u, rfl, List.mem_map.mpr ⟨(T, _, _), List.mem_of_getElem? (i := i) ?_, rfl⟩, rfl, rfl, List.getElem?_eq_getElem hi, List.getElem?_eq_getElem hi2⟩
    rw [List.getElem?_zip_eq_some]
    exact ⟨hT, by rw [List.getElem?_zip_eq_some]; exact ⟨ht, hu⟩⟩
theorem zw_succ {f : Int → Int → Int} {as bs : List Int} {i : Nat} {a b : Int} (ha : as[i]? = some a) (hb : bs[i]? = some b) : (List.zipWith f as bs).take (i + 1) = (List.zipWith f as bs).take i ++ [f a b] := by
  rw [List.take_add_one, List.getElem?_zipWith, ha, hb]; rfl
theorem zw_ints {f : Int → Int → Int} {as bs : List Int} {i : Nat} {a b : Int} {ys : List Value} (h : IntsAre ys ((List.zipWith f as bs).take i)) (ha : as[i]? = some a) (hb : bs[i]? = some b) (t : Tok) : IntsAre (ys ++ [.int (f a b) t]) ((List.zipWith f as bs).take (i + 1)) := by
  rw [zw_succ ha hb]; exact h.append (.cons _ _ .nil)
theorem zw_all {f : Int → Int → Int} {as bs : List Int} {ys : List Value} {n : Nat} (hn : n = as.length) (h : IntsAre ys ((List.zipWith f as bs).take n)) : IntsAre ys (List.zipWith f as bs) := by
  rwa [List.take_of_length_le (by rw [List.length_zipWith]; omega)] at h
/-- a comprehension that makes lists: those made so far -/
def JS (nw0 : List (Addr × Obj)) (g : Nat → List Int) (i : Nat) (ys : List Value) (nw : List (Addr × Obj)) : Prop :=
  ∃ ex, nw = nw0 ++ ex ∧ RowsIn ex ys ((List.range i).map g) ∧ ∀ p ∈ ex, ∀ q ∈ nw0, q.1 ≠ p.1
theorem JS.start {nw0 : List (Addr × Obj)} {g : Nat → List Int} : JS nw0 g 0 [] nw0 := ⟨[], (List.append_nil _).symm, .nil, fun _ h => nomatch h⟩
theorem js_end {h₀ : Heap} {L I C D : Addr} {m : Str → Option Value} {s₁ : Shared} {oI oC : Obj} {h' : Heap} {tk : Nat} {rest nw0 ex : List (Addr × Obj)} {g : Nat → List Int} {i : Nat} {ys : List Value} {l : Addr} {zs : List Value} {n : Nat} {S : List (Addr × Obj) → Prop}
    (R : RowsIn ex ys ((List.range i).map g)) (hex : ∀ p ∈ ex, ∀ q ∈ nw0, q.1 ≠ p.1) (F : Fr h₀ L h' m) (N : News h₀ L h' ((l, listOf zs.toArray n) :: rest))
    (sub : ∀ p ∈ (I, oI) :: (C, oC) :: (D, LCg.lst ys) :: (nw0 ++ ex), p ∈ rest) (off : LCg.Off3 I C D (nw0 ++ ex)) (ho : ∀ p ∈ rest, p.1 ≠ l) (hz : IntsAre zs (g i)) (hS : S (nw0 ++ (ex ++ [(l, listOf zs.toArray n)]))) :
    LCg.CompEnd h₀ L m s₁ I oI C oC D (LCg.lst ys) S (fun y news' => JS nw0 g (i + 1) (ys ++ [y]) news') (.ref l) { s₁ with heap := h', toks := tk } := by
  refine LCg.CompEnd.intro F N (nw0 ++ (ex ++ [(l, listOf zs.toArray n)])) (fun p hp => ?_) (LCg.Off3.of fun p hp => ?_) hS ⟨ex ++ [(l, listOf zs.toArray n)], rfl, ?_, ?_⟩
  · rcases List.mem_cons.mp hp with rfl | hp
    · exact .tail _ (sub _ (.head _))
    · rcases List.mem_cons.mp hp with rfl | hp
      · exact .tail _ (sub _ (.tail _ (.head _)))
      · rcases List.mem_cons.mp hp with rfl | hp
        · exact .tail _ (sub _ (.tail _ (.tail _ (.head _))))
        · rw [← List.append_assoc] at hp
          rcases List.mem_append.mp hp with hp | hp
          · exact .tail _ (sub _ (.tail _ (.tail _ (.tail _ hp))))
          · rw [List.mem_singleton.mp hp]; exact .head _
  · rw [← List.append_assoc] at hp
    rcases List.mem_append.mp hp with hp | hp
    · exact off.mem p hp
    · rw [List.mem_singleton.mp hp]
      exact ⟨fun e => ho _ (sub _ (.head _)) e.symm, fun e => ho _ (sub _ (.tail _ (.head _))) e.symm, fun e => ho _ (sub _ (.tail _ (.tail _ (.head _)))) e.symm⟩
  · rw [List.range_succ, List.map_append]
    refine (R.mono fun p hp => List.mem_append_left _ hp).append (RowsIn.one (List.mem_append_right _ (.head _)) hz)
  · intro p hp q hq
    rcases List.mem_append.mp hp with hp | hp
    · exact hex p hp q hq
    · rw [List.mem_singleton.mp hp]
      exact ho q (sub _ (.tail _ (.tail _ (.tail _ (List.mem_append_left _ hq)))))
section
variable {prog : Program} {w : World} {A : Around} {E : Value → Shared → Prop} {s : Shared} {h₀ : Heap} {L : Addr} {m : PySem.Str → Option Value} {news : List (Addr × Obj)}
theorem add_rows {l b : Addr} {vs ws : List Value} {Q : Value → Shared → Prop} (F : Fr h₀ L s.heap m) (N : News h₀ L s.heap news) (hl : s.heap.IsList l vs.toArray) (hb : s.heap.IsList b ws.toArray)
    (h : ∀ D h', Fr h₀ L h' m → News h₀ L h' ((D, listOf (vs ++ ws).toArray 0) :: news) → (∀ p ∈ news, p.1 < D) → Q (.ref D) { s with heap := h' }) (hsz : vs.length + ws.length ≤ 1000000) : wpAny (model prog w) A (binaryOp .Add (.ref l) (.ref b)) Q E s :=
  add_lists F N hl hb (fun h' F' N' => h _ h' F' N' fun p hp => Heap.lt_size (N p hp).1) (by rw [sizeLine_eq]; omega)
theorem pick6 {h : Heap} {p1 p2 p3 p4 p5 p6 : Addr × Obj} {r : List (Addr × Obj)} (N : News h₀ L h (p1 :: p2 :: p3 :: p4 :: p5 :: p6 :: r)) : News h₀ L h (p6 :: p1 :: p4 :: p5 :: r) := cb_drop N fun p hp => by
  simp only [List.mem_cons] at hp ⊢
  rcases hp with rfl | rfl | rfl | rfl | hp <;> simp [*]
theorem drop2 {h : Heap} {p1 p2 : Addr × Obj} {r : List (Addr × Obj)} (N : News h₀ L h (p1 :: p2 :: r)) : News h₀ L h (p1 :: r) := cb_drop N fun p hp => by
  rcases List.mem_cons.mp hp with rfl | hp
  · exact .head _
  · exact .tail _ (.tail _ hp)
theorem lt_led {h : Heap} {D : Addr} {o : Obj} {r : List (Addr × Obj)} (_ : News h₀ L h ((D, o) :: r)) (l : AllLt D r) : ∀ p ∈ r, p.1 ≠ D := fun p hp => Nat.ne_of_lt (ktn_ltOf l p hp)
theorem names1 {h : Heap} {a1 : Addr} {o1 : Obj} {r : List (Addr × Obj)} (_ : News h₀ L h ((a1, o1) :: r)) : ∃ x1 : Addr, x1 = a1 := ⟨_, rfl⟩
end
end Mine
end

section
open PySem PySem.W PyProof.Rows
set_option Elab.async false
set_option maxRecDepth 100000
namespace Mine
section
variable {prog : Program} {w : World} {A : Around} {E : Value → Shared → Prop} {s : Shared}
/-- what is told of x[i] holds of any value's [i] -/
theorem tail_temp {value slice : PySem.Expr} {x : PySem.Str} {px : Pos} {o i : Value} {Q : Value → Shared → Prop} (h : wpAny (model prog w) A (subscriptTail (.Name x px) slice o i) Q E s) : wpAny (model prog w) A (subscriptTail value slice o i) Q E s := by
  intro Γ p hΓ
  have h1 := h Γ p hΓ
  unfold subscriptTail at h1 ⊢
  rw [Sem.wp_bind'] at h1 ⊢
  refine Sem.wp_mono _ Γ _ (fun b p1 s1 hb => ?_) (fun _ _ _ e => e) p s h1
  rw [Sem.wp_bind'] at hb ⊢
  refine Sem.wp_mono _ Γ _ (fun r p2 s2 hr => ?_) (fun _ _ _ e => e) p1 s1 hb
  have hq : Q r s2 := by
    have e : (letTemporaryGo (.Name x px) o r >>= fun _ => (pure r : Sem Value)) = pure r := rfl
    rw [e] at hr
    exact (Sem.wp_pure' ..).mp hr
  have g : wpAny (model prog w) A (letTemporaryGo value o r >>= fun _ => (pure r : Sem Value)) Q E s2 := wpAny_bind (wpAny_letTemporaryGo (wpAny_pure hq))
  exact g Γ p2 hΓ
theorem len_any {l : Addr} {vs : List Value} {n : Nat} {Q : Value → Shared → Prop} (hl : s.heap.IsList l vs.toArray) (hn : vs.length = n) (hz : n < 2 ^ 62) (h : ∀ t' k, Q (.int (n : Nat) t') { s with toks := k }) :
    wpAny (model prog w) A (call (.builtin "len") [.ref l]) Q E s := by
  refine len_list hl (by rw [List.size_toArray]; omega) ?_
  rw [List.size_toArray, hn]
  exact h _ _
theorem lt_to {l b : Addr} {vs us : List Value} {ks ls : List Int} {c : Bool} {Q : Value → Shared → Prop} (hl : s.heap.IsList l vs.toArray) (hb : s.heap.IsList b us.toArray) (hi : IntsAre vs ks) (hj : IntsAre us ls) (e : ltL ks ls = c) (hu : A.units < cLine) (h : Q (.bool c) s) :
    wpAny (model prog w) A (compareOp .Lt (.ref l) (.ref b)) Q E s := lt_ints hl hb hi hj hu (e ▸ h)
theorem eq_to {l b : Addr} {vs us : List Value} {ks ls : List Int} {c : Bool} {Q : Value → Shared → Prop} (hl : s.heap.IsList l vs.toArray) (hb : s.heap.IsList b us.toArray) (hi : IntsAre vs ks) (hj : IntsAre us ls) (e : decide (ks = ls) = c) (hu : A.units < cLine) (h : Q (.bool c) s) :
    wpAny (model prog w) A (compareOp .Eq (.ref l) (.ref b)) Q E s := eq_ints hl hb hi hj hu (e ▸ h)
end
theorem getD_sx (rw : List (List Int)) (i : Nat) : (rw.map sx).getD i [] = sx (rw.getD i []) := by
  rw [List.getD_eq_getElem?_getD, List.getD_eq_getElem?_getD, List.getElem?_map]
  cases rw[i]? <;> rfl
end Mine
end

section
open PySem PySem.W PyProof.Rows
set_option Elab.async false
namespace Mine
local macro_rules | `(tactic| k_room) => `(tactic| ktr_room)
local macro_rules | `(tactic| walk_at "call type:type") => `(tactic| ((with_reducible show wpAny _ _ (call (Value.type "type") [Value.bytes _ _]) _ _ _); refine call_type_of (typeIs_bytes _ _ _) (by decide) ?_))
local macro_rules | `(tactic| walk_at "call type:type") => `(tactic| ((with_reducible show wpAny _ _ (call (Value.type "type") [Value.bool _]) _ _ _); refine call_type_of (show Shared.TypeIs _ (Value.bool _) "bool" from rfl) (by decide) ?_))
theorem b64_arr : KBw.bInts #[65, 66, 67, 68, 69, 70, 71, 72, 73, 74, 75, 76, 77, 78, 79, 80, 81, 82, 83, 84, 85, 86, 87, 88, 89, 90, 97, 98, 99, 100, 101, 102, 103, 104, 105, 106, 107, 108, 109, 110, 111, 112, 113, 114, 115, 116, 117, 118, 119, 120, 121, 122, 48, 49, 50, 51, 52, 53, 54, 55, 56, 57, 43, 47] = b64s := by decide +kernel
local macro_rules | `(tactic| walk_at "subscriptTail") => `(tactic| ((with_reducible show wpAny _ _ (subscriptTail _ _ (Value.bytes _ _) (Value.int (Builtin.bitAnd _ 63) _)) _ _ _); with_unfolding_all refine' KBw.item_K (ks := b64s) ?k1 ?k2 ?k3 ?k4 ?_ ?k5 ?k6; (case k1 => exact b64_arr); (case k2 => decide); (case k3 => exact (b64_ix _).1); (case k4 => exact (b64_ix _).2); (case k5 => with_unfolding_all rfl); (case k6 => intro _; with_unfolding_all rfl); k_whole; intro t' k' _ _))
theorem all_ne {news own : List (Addr × Obj)} {l : Addr} {r : List Addr} (h1 : ∀ p ∈ news, p.1 < l) (h2 : OwnOff own (l :: r)) : ∀ p ∈ news ++ own, p.1 ≠ l := by
  intro p hp
  rcases List.mem_append.mp hp with h | h
  · exact Nat.ne_of_lt (h1 p h)
  · exact h2 p h l (.head _)
local macro_rules | `(tactic| k_all) => `(tactic| exact all_ne (by assumption) (by assumption))
local macro_rules | `(tactic| size_fits) => `(tactic| ((try simp only [List.size_toArray, Array.size_push, PySem.sizeLine_eq]); omega))
local macro_rules | `(tactic| walk_at "call type:bytes") => `(tactic| refine Stop.go ?_)
local macro_rules | `(tactic| walk_at "subscriptTail") => `(tactic| ((with_reducible show wpAny _ _ (subscriptTail _ _ (Value.bytes _ _) (Value.int (Builtin.bitAnd _ _ * _) _)) _ _ _); with_unfolding_all refine' KBw.item_K (ks := b64s) ?k1 ?k2 ?k3 ?k4 ?_ ?k5 ?k6; (case k1 => exact b64_arr); (case k2 => decide); (case k3 => first | exact (b64_ix3 _).1 | exact (b64_ix15 _).1); (case k4 => first | exact (b64_ix3 _).2 | exact (b64_ix15 _).2); (case k5 => with_unfolding_all rfl); (case k6 => intro _; with_unfolding_all rfl); k_whole; intro t' k' _ _))
local macro_rules | `(tactic| walk_at "binaryOp LShift int int") => `(tactic| ((with_reducible show wpAny _ _ (binaryOp Operator.LShift (Value.int (Builtin.bitAnd _ 3) _) (Value.int 4 _)) _ _ _); refine lshift_int_small (by decide) (by decide) (by simp only [bitAnd_m2]; omega) ?_))
local macro_rules | `(tactic| walk_at "binaryOp LShift int int") => `(tactic| ((with_reducible show wpAny _ _ (binaryOp Operator.LShift (Value.int (Builtin.bitAnd _ 15) _) (Value.int 2 _)) _ _ _); refine lshift_int_small (by decide) (by decide) (by simp only [bitAnd_m4]; omega) ?_))
structure StB where
  vs : List Value
  n : Nat
  os : List Int
  lb : Int
  tb : Tok
  lc : Int
  tc : Tok
abbrev ledB (l : Addr) (news : List (Addr × Obj)) (c : StB) : List (Addr × Obj) := (l, listOf c.vs.toArray c.n) :: news
abbrev psB (l : Addr) (c : StB) : List (Str × Value) := [(Str.ofString "out", Value.ref l), (Str.ofString "leftbits", .int c.lb c.tb), (Str.ofString "leftchar", .int c.lc c.tc)]
theorem b2a_end {g : Heap} {L l : Addr} {m₀ m' : Str → Option Value} {news own : List (Addr × Obj)} {s₁ : Shared} {h' : Heap} {tk : Nat} {ws : List Value} {k : Nat} {os : List Int} {lb lc : Int} {tb tc : Tok} {x : Str} {pre' : List Int} {adr : List Addr}
    (F : Fr g L h' m') (N : News g L h' ((l, listOf ws.toArray k) :: (news ++ own))) (h1 : m' (Str.ofString "out") = some (.ref l)) (h2 : m' (Str.ofString "leftbits") = some (.int lb tb)) (h3 : m' (Str.ofString "leftchar") = some (.int lc tc))
    (hr : ∀ z, z ≠ x → z ≠ Str.ofString "out" → z ≠ Str.ofString "leftbits" → z ≠ Str.ofString "leftchar" → m' z = m₀ z) (hi : IntsAre ws os) (hP : InvB pre' os lb lc) (ha : adr = l :: news.map (·.1)) :
    InvEndN g L (KstS (ledB l news) (psB l) (fun c => IntsAre c.vs c.os) x [] m₀ (fun pre c => InvB pre c.os c.lb c.lc) pre') own adr s₁ { s₁ with heap := h', toks := tk } := by
  refine ⟨h', tk, m', _, (l, listOf ws.toArray k) :: news, rfl, F, N, ?_, ?_, ?_, ⟨ws, k, os, lb, tb, lc, tc⟩, rfl, hi, ?_, ?_, hP⟩
  · intro p hp; rcases List.mem_cons.mp hp with rfl | hp
    · exact .head _
    · exact .tail _ (List.mem_append_left _ hp)
  · intro p hp; exact .tail _ (List.mem_append_right _ hp)
  · rw [ha]; rfl
  · intro p hp
    simp only [psB, List.mem_cons, List.not_mem_nil, or_false] at hp
    rcases hp with rfl | rfl | rfl
    · exact h1
    · exact h2
    · exact h3
  · intro z hz hp _
    exact hr z hz (hp _ (.head _)) (hp _ (.tail _ (.head _))) (hp _ (.tail _ (.tail _ (.head _))))
set_option maxRecDepth 100000 in
set_option maxHeartbeats 8000000 in
theorem b2a_c {w mean mg mb news} (b : Array UInt8) (t : Tok) (hlen : b.size < 1000000) : Ctr w mean mg mb 4 43 news [.bytes b t] [(Str.ofString "newline", .bool false)] (fun v tl => ∃ c u, v = .bytes c u ∧ tl = [] ∧ KBw.bInts c = enc (KBw.bInts b)) := by
  unfold Ctr; k_fill
  w_top off; intro dp un gd cn cs a ccd cl outer A₀ base h₀ L m s Q E B F X N T hk hdp hun hret
  (refine wpAny_call ?_; k_dflt (refine' code_def (binds := [(Str.ofString "data", .bytes b t), (Str.ofString "newline", .bool false)]) ?k1 ?k2 ?k3 ?k4 ?k5 ?kA ?kF ?kK ?k6 ?k7 ?k8 ?k9 ?kB ?_ ?c2 ?c3 ?c4 ?c5; (case kA => exact rfl); (case kF => exact rfl); (case kK => first | exact rfl | assumption); (case k1 => k_asm); (case k2 => k_asm); (case k3 => k_asm); (case k4 => k_asm); (case k5 => k_asm); (case k6 => k_is); (case k7 => k_is); (case k8 => ktr_room); (case k9 => first | exact BindsTo.of_eq rfl | exact binds_K (by k_in) rfl (by k_is) rfl rfl rfl); (case c5 => decide); (case kB => exact locs rfl); (case c2 => exact rfl); (case c3 => exact rfl); (case c4 => exact rfl); k_whole; intro g' L' h' FG' F' N' B' X' T'; (try dsimp only); (try k_lift B'); (try k_fold)))
  k_steps
  all_goals (with_reducible rename Fr _ _ _ _ => F1)
  all_goals (with_reducible rename News _ _ _ _ => N1)
  all_goals (with_unfolding_all refine' KStb.kst_bytes (σ := StB) (ledB ?l news) (psB ?l) (fun c => IntsAre c.vs c.os) [] (fun pre c => InvB pre c.os c.lb c.lc) ⟨[], 0, [], 0, _, 0, _⟩ rfl rfl (by rfl) F1 N1 IntsAre.nil ?kk InvB.start ?_ ?_)
  case kk => kst_all
  · clear F1 N1
    rintro ⟨vs, n, os, lb, tb, lc, tc⟩ pre post x tx u h tk own he hlt hx0 hx1 hoff hf hp F1 N1
    dsimp only at *
    simp only [List.cons_append, List.map_cons] at N1 hoff
    have hvl : vs.length < 2000000 := by
      have h1 := hp.len
      rw [KBw.ints_length] at hlt
      rw [hf.length]; omega
    obtain ⟨hc0, hc1, q, r, hpre, hq, hr⟩ := hp
    rcases hr with ⟨rfl, rfl, rfl⟩ | ⟨a1, rfl, rfl, ha, rfl⟩ | ⟨a1, b1, rfl, rfl, ha, rfl⟩
    all_goals k_steps
    all_goals (with_reducible rename Fr _ _ _ _ => F9)
    all_goals (with_reducible rename News _ _ _ _ => N9)
    all_goals simp only [List.push_toArray] at N9
    · refine b2a_end F9 N9 rfl rfl rfl ?_ (hf.append (.cons _ _ .nil)) (InvB.s0 hq hpre hc0 hx0 hx1) rfl
      intro z h1 h2 h3 h4
      simp [h1, h2, h3, h4, kstB]
    · refine b2a_end F9 N9 rfl rfl rfl ?_ (hf.append (.cons _ _ .nil)) (InvB.s2 hq hpre hc0 ha hx0 hx1) rfl
      intro z h1 h2 h3 h4
      simp [h1, h2, h3, h4, kstB]
    · refine b2a_end F9 N9 rfl rfl rfl ?_ ((hf.append (.cons _ _ .nil)).append (.cons _ _ .nil)) (InvB.s4 hq hpre hc0 ha hx0 hx1) rfl
      intro z h1 h2 h3 h4
      simp [h1, h2, h3, h4, kstB]
  · rintro ⟨vs, n, os, lb, tb, lc, tc⟩ u h tk hlt hf hp F1 N1
    dsimp only [psB, ledB] at *
    have hvl : vs.length < 2000000 := by
      have h1 := hp.len
      rw [KBw.ints_length] at h1
      rw [hf.length]; omega
    obtain ⟨hc0, hc1, q, r, hpre, hq, hr⟩ := hp
    rcases hr with ⟨rfl, rfl, rfl⟩ | ⟨a1, rfl, rfl, ha, rfl⟩ | ⟨a1, b1, rfl, rfl, ha, rfl⟩
    all_goals k_steps
    all_goals (with_reducible rename Fr _ _ _ _ => F9)
    all_goals (with_reducible rename News _ _ _ _ => N9)
    all_goals (try simp only [List.push_toArray] at N9)
    all_goals unfold Stop
    · have hi := hf
      rw [enc_q hq] at hi
      refine KBa.make_K F9 N9 rfl (News.isList N9 (.head _)) hi (enc_in _) ?_ ?_
      · rw [← hi.length]; omega
      · intro h2 t2 k2 F2 N2 hin
        k_steps
        refine hret _ [] _ _ (by assumption) (cb_drop (by assumption) fun p hp => .tail _ hp) ⟨_, _, rfl, rfl, ?_⟩
        rw [KBa.ints_make hin, hpre]
    · have hl : (enc (q ++ [a1])).length ≤ 16777216 := by
        rw [← enc_q1 hq ha]; have := hf.length; simp only [List.length_append, List.length_cons, List.length_nil] at *; omega
      refine KBa.make_K F9 N9 rfl (News.isList N9 (.head _)) (ns := enc (q ++ [a1])) (by rw [← enc_q1 hq ha]; exact ((hf.append (.cons _ _ .nil)).append (.cons _ _ .nil)).append (.cons _ _ .nil)) (enc_in _) hl ?_
      · intro h2 t2 k2 F2 N2 hin
        k_steps
        refine hret _ [] _ _ (by assumption) (cb_drop (by assumption) fun p hp => .tail _ hp) ⟨_, _, rfl, rfl, ?_⟩
        rw [KBa.ints_make hin, hpre]
    · have hl : (enc (q ++ [a1, b1])).length ≤ 16777216 := by
        rw [← enc_q2 hq ha]; have := hf.length; simp only [List.length_append, List.length_cons, List.length_nil] at *; omega
      refine KBa.make_K F9 N9 rfl (News.isList N9 (.head _)) (ns := enc (q ++ [a1, b1])) (by rw [← enc_q2 hq ha]; exact (hf.append (.cons _ _ .nil)).append (.cons _ _ .nil)) (enc_in _) hl ?_
      · intro h2 t2 k2 F2 N2 hin
        k_steps
        refine hret _ [] _ _ (by assumption) (cb_drop (by assumption) fun p hp => .tail _ hp) ⟨_, _, rfl, rfl, ?_⟩
        rw [KBa.ints_make hin, hpre]
end Mine
end

section
open PySem PySem.W PyProof.Rows
set_option Elab.async false
namespace Mine
section
local macro_rules | `(tactic| k_room) => `(tactic| ktr_room)
local macro_rules | `(tactic| walk_at "call ref") => `(tactic| ((with_reducible show wpAny _ _ (call (Value.ref 43) _ _) _ _ _); k_dflt (refine' Ctr.use ?k1 ?k2 ?k3 ?k4 ?k5 ?kK ?kd ?ku (b2a_c _ _ ?kz) ?_; (case k1 => k_asm); (case k2 => k_asm); (case k3 => k_asm); (case k4 => k_asm); (case k5 => k_asm); (case kK => first | exact rfl | assumption); (case kd => ktr_room); (case ku => ktr_units)); (case kz => assumption); intro v9 tl9 h9 tk9 F9 N9 hR9; obtain ⟨c9, u9, e1, e2, hc9⟩ := hR9; subst e1; subst e2; (simp only [List.nil_append] at N9); (try dsimp only); (try k_fold)))
set_option maxRecDepth 100000 in
set_option maxHeartbeats 8000000 in
theorem b64_c {w mean mg mb news} (b : Array UInt8) (t : Tok) (hlen : b.size < 1000000) : Ctr w mean mg mb 6 51 news [.bytes b t] [] (fun v tl => ∃ c u, v = .bytes c u ∧ tl = [] ∧ KBw.bInts c = enc (KBw.bInts b)) := by
  unfold Ctr; k_fill
  w_top off; intro dp un gd cn cs a ccd cl outer A₀ base h₀ L m s Q E B F X N T hk hdp hun hret
  (refine wpAny_call ?_; k_dflt (refine' code_def (binds := [(Str.ofString "s", .bytes b t), (Str.ofString "altchars", .none)]) ?k1 ?k2 ?k3 ?k4 ?k5 ?kA ?kF ?kK ?k6 ?k7 ?k8 ?k9 ?kB ?_ ?c2 ?c3 ?c4 ?c5; (case kA => exact rfl); (case kF => exact rfl); (case kK => first | exact rfl | assumption); (case k1 => k_asm); (case k2 => k_asm); (case k3 => k_asm); (case k4 => k_asm); (case k5 => k_asm); (case k6 => k_is); (case k7 => k_is); (case k8 => ktr_room); (case k9 => first | exact BindsTo.of_eq rfl | exact binds_K (by k_in) rfl (by k_is) rfl rfl rfl); (case c5 => decide); (case kB => exact locs rfl); (case c2 => exact rfl); (case c3 => exact rfl); (case c4 => exact rfl); k_whole; intro g' L' h' FG' F' N' B' X' T'; (try dsimp only); (try k_lift B'); (try k_fold)))
  k_steps
  exact hret _ [] _ _ (by assumption) (by assumption) ⟨_, _, rfl, rfl, by assumption⟩
end
end Mine
end

section
open PySem PySem.W PyProof.Rows
set_option Elab.async false
namespace Mine
section
local macro_rules | `(tactic| k_room) => `(tactic| ktr_room)
local macro_rules | `(tactic| k_all) => `(tactic| exact all_lt_ne (by assumption) (by (try dsimp only); omega))
local macro_rules | `(tactic| k_all) => `(tactic| (refine all_app ?ka ?kb; (case ka => k_all); (case kb => k_all)))
local macro_rules | `(tactic| size_fits) => `(tactic| ((try simp only [List.size_toArray, Array.size_push, PySem.sizeLine_eq]); omega))
local macro_rules | `(tactic| walk_at "call type:type") => `(tactic| ((with_reducible show wpAny _ _ (call (Value.type "type") [Value.bytes _ _]) _ _ _); refine call_type_of (typeIs_bytes _ _ _) (by decide) ?_))
local macro_rules | `(tactic| walk_at "call ref") => `(tactic| ((with_reducible show wpAny _ _ (call (Value.ref 43) _ _) _ _ _); k_dflt (refine' Ctr.use ?k1 ?k2 ?k3 ?k4 ?k5 ?kK ?kd ?ku (b2a_c _ _ ?kz) ?_; (case k1 => k_asm); (case k2 => k_asm); (case k3 => k_asm); (case k4 => k_asm); (case k5 => k_asm); (case kK => first | exact rfl | assumption); (case kd => ktr_room); (case ku => ktr_units)); (case kz => assumption); intro v9 tl9 h9 tk9 F9 N9 hR9; obtain ⟨c9, u9, e1, e2, hc9⟩ := hR9; subst e1; subst e2; (simp only [List.nil_append] at N9); (try dsimp only); (try k_fold)))
local macro_rules | `(tactic| walk_at "getMethod") => `(tactic| ((with_reducible show wpAny _ _ (getMethod (Value.bytes _ _) (PySem.Str.ofString "translate") _) _ _ _); refine method_translate ?_))
local macro_rules | `(tactic| walk_at "getMethod") => `(tactic| ((with_reducible show wpAny _ _ (getMethod (Value.type "bytes") (PySem.Str.ofString "maketrans") _) _ _ _); k_here; refine' method_type ?F ?X ?m (by decide +kernel) ?e ?h ?_; (case F => k_asm); (case X => k_asm); (case m => exact BT.type_type); (case e => k_dflt k_is); (case h => k_handed)))
local macro_rules | `(tactic| walk_at "call builtin:bytes.maketrans") => `(tactic| (refine maketrans ?_; intro t9 k9))
local macro_rules | `(tactic| walk_at "call builtin:bytes.translate") => `(tactic| (refine translate (by assumption) ?kl (trans_size _ _) (trans_alt _ _) ?_; (case kl => assumption); intro d9 t9 k9 hd9))
set_option maxRecDepth 100000 in
set_option maxHeartbeats 1000000 in
theorem b64_ca {w mean mg mb news} (b : Array UInt8) (t : Tok) (k : Array UInt8) (tk : Tok) {m1 m2 : Int} {ks : List Int} (hb : KBw.bInts b = ks) (hlen : ks.length < 100000) (hk2 : KBw.bInts k = [m1, m2]) : Ctr w mean mg mb 6 51 news [.bytes b t, .bytes k tk] [] (fun v tl => ∃ c u, v = .bytes c u ∧ tl = [] ∧ KBw.bInts c = (enc ks).map (alt m1 m2)) := by
  obtain ⟨k0, k1, rfl, rfl, rfl⟩ := two_of hk2
  subst hb
  clear hk2
  have hel : (enc (KBw.bInts b)).length ≤ 16777216 := by rw [enc_length]; omega
  rw [KBw.ints_length] at hlen
  have hlen' : b.size < 1000000 := by omega
  unfold Ctr; k_fill
  w_top off; intro dp un gd cn cs a ccd cl outer A₀ base h₀ L m s Q E B F X N T hk hdp hun hret
  (refine wpAny_call ?_; k_dflt (refine' code_def (binds := [(Str.ofString "s", .bytes b t), (Str.ofString "altchars", .bytes #[k0, k1] tk)]) ?k1 ?k2 ?k3 ?k4 ?k5 ?kA ?kF ?kK ?k6 ?k7 ?k8 ?k9 ?kB ?_ ?c2 ?c3 ?c4 ?c5; (case kA => exact rfl); (case kF => exact rfl); (case kK => first | exact rfl | assumption); (case k1 => k_asm); (case k2 => k_asm); (case k3 => k_asm); (case k4 => k_asm); (case k5 => k_asm); (case k6 => k_is); (case k7 => k_is); (case k8 => ktr_room); (case k9 => first | exact BindsTo.of_eq rfl | exact binds_K (by k_in) rfl (by k_is) rfl rfl rfl); (case c5 => decide); (case kB => exact locs rfl); (case c2 => exact rfl); (case c3 => exact rfl); (case c4 => exact rfl); k_whole; intro g' L' h' FG' F' N' B' X' T'; (try dsimp only); (try k_lift B'); (try k_fold)))
  k_steps
  · exact hret _ [] _ _ (by assumption) (by assumption) ⟨_, _, rfl, rfl, by assumption⟩
  · exact absurd rfl (by assumption)
end
end Mine
end

section
open PySem PySem.W PyProof.Rows
set_option Elab.async false
namespace Mine
/-- letters, figures, = -/
def knownA : Array UInt8 := #[65, 66, 67, 68, 69, 70, 71, 72, 73, 74, 75, 76, 77, 78, 79, 80, 81, 82, 83, 84, 85, 86, 87, 88, 89, 90, 97, 98, 99, 100, 101, 102, 103, 104, 105, 106, 107, 108, 109, 110, 111, 112, 113, 114, 115, 116, 117, 118, 119, 120, 121, 122, 48, 49, 50, 51, 52, 53, 54, 55, 56, 57, 61]
def oth (i : Nat) : List Int := (rangeKs 0 i).filter (fun k => !knownA.contains k.toNat.toUInt8)
theorem range_snoc (i : Nat) : rangeKs 0 (i + 1) = rangeKs 0 i ++ [0 + (i : Int)] := by simp [rangeKs, List.range_succ]
theorem oth_t {i : Nat} (h : knownA.contains (0 + (i : Int)).toNat.toUInt8 = true) : oth (i + 1) = oth i := by
  unfold oth
  rw [range_snoc, List.filter_append, List.filter_cons_of_neg (by rw [h]; decide)]; simp
theorem oth_f {i : Nat} (h : knownA.contains (0 + (i : Int)).toNat.toUInt8 = false) : oth (i + 1) = oth i ++ [0 + (i : Int)] := by
  unfold oth
  rw [range_snoc, List.filter_append, List.filter_cons_of_pos (by rw [h]; rfl)]; simp
theorem oth_len : (oth 256).length = 193 := by decide +kernel
theorem oth_all : ∀ k ∈ oth 256, (0 ≤ k ∧ k < 256) ∧ k ∉ knownL := by decide +kernel
theorem oth_nodup : ∀ i : Nat, i < 193 → ∀ j : Nat, j < 193 → i ≠ j → (oth 256).getD i 0 ≠ (oth 256).getD j 0 := by
  have h : (oth 256).Nodup := by decide +kernel
  intro i hi j hj hij e
  rw [List.getD_eq_getElem?_getD, List.getD_eq_getElem?_getD, List.getElem?_eq_getElem (by rw [oth_len]; exact hi), List.getElem?_eq_getElem (by rw [oth_len]; exact hj)] at e
  exact hij ((List.getElem_inj h).mp e)
theorem oth_get {i : Nat} (h : i < 193) : (0 ≤ (oth 256).getD i 0 ∧ (oth 256).getD i 0 < 256) ∧ (oth 256).getD i 0 ∉ knownL := by
  rw [List.getD_eq_getElem?_getD, List.getElem?_eq_getElem (by rw [oth_len]; exact h)]
  exact oth_all _ (List.getElem_mem _)
theorem ix1 (n : Int) : 0 ≤ n.fmod 193 ∧ n.fmod 193 < 193 := by rw [Int.fmod_eq_emod_of_nonneg _ (by decide)]; omega
theorem marks_ok (n : Int) : Marks ((oth 256).getD (n.fmod 193).toNat 0) ((oth 256).getD ((n.fmod 193 + 1 + (n.fdiv 193).fmod 192).fmod 193).toNat 0) := by
  have h1 := ix1 n
  have h2 := ix1 (n.fmod 193 + 1 + (n.fdiv 193).fmod 192)
  have g1 := oth_get (i := (n.fmod 193).toNat) (by omega)
  have g2 := oth_get (i := ((n.fmod 193 + 1 + (n.fdiv 193).fmod 192).fmod 193).toNat) (by omega)
  refine ⟨g1.1, g2.1, oth_nodup _ (by omega) _ (by omega) ?_, g1.2, g2.2⟩
  have h3 : 0 ≤ (n.fdiv 193).fmod 192 ∧ (n.fdiv 193).fmod 192 < 192 := by rw [Int.fmod_eq_emod_of_nonneg _ (by decide)]; omega
  rw [Int.fmod_eq_emod_of_nonneg (n.fmod 193 + 1 + (n.fdiv 193).fmod 192) (by decide)]
  omega
section
local macro_rules | `(tactic| k_room) => `(tactic| ktr_room)
local macro_rules | `(tactic| k_all) => `(tactic| exact all_lt_ne (by assumption) (by (try dsimp only); omega))
local macro_rules | `(tactic| k_all) => `(tactic| (refine all_app ?ka ?kb; (case ka => k_all); (case kb => k_all)))
local macro_rules | `(tactic| size_fits) => `(tactic| ((try simp only [List.size_toArray, Array.size_push, PySem.sizeLine_eq]); omega))
local macro_rules | `(tactic| walk_at "call type:type") => `(tactic| ((with_reducible show wpAny _ _ (call (Value.type "type") [Value.bytes _ _]) _ _ _); refine call_type_of (typeIs_bytes _ _ _) (by decide) ?_))
local macro_rules | `(tactic| walk_at "compareOp NotIn int bytes") => `(tactic| (refine notIn_int (by omega) (by omega) ?_))
local macro_rules | `(tactic| walk_at "CompSrcT") => `(tactic| refine Stop.go ?_)
local macro_rules | `(tactic| walk_at "call type:bytes") => `(tactic| refine Stop.go ?_)
local macro_rules | `(tactic| walk_at "subscriptTail") => `(tactic| ((with_reducible show wpAny _ _ (subscriptTail _ _ (Value.ref _) (Value.int (Int.fmod _ 193) _)) _ _ _); (with_reducible rename News _ _ _ _ => N9); k_dflt (refine' list_int (ns := oth 256) (News.isList N9 (by k_mem)) ?k0 ?k1 ?k2 ?k3 ?_ ?k5; (case k0 => assumption); (case k1 => exact (ix1 _).1); (case k2 => (rw [oth_len]; exact (ix1 _).2)); (case k3 => (rw [oth_len]; decide)); (case k5 => with_unfolding_all rfl); k_whole; intro t9)))
set_option maxRecDepth 100000 in
set_option maxHeartbeats 1000000 in
theorem marks_c {w mean mg mb news} (n : Int) (t : Tok) : Ctr w mean mg mb 6 56 news [.int n t] [] (fun v tl => ∃ c u m1 m2, v = .bytes c u ∧ tl = [] ∧ KBw.bInts c = [m1, m2] ∧ Marks m1 m2) := by
  unfold Ctr; k_fill
  w_top off; intro dp un gd cn cs a ccd cl outer A₀ base h₀ L m s Q E B F X N T hk hdp hun hret
  (refine wpAny_call ?_; k_dflt (refine' code_defC (binds := [(Str.ofString "n", .int n t)]) ?k1 ?k2 ?k3 ?k4 ?k5 ?kA ?kF ?kK ?k6 ?k7 ?k8 ?k9 ?kB ?kD ?_ ?c2 ?c3 ?c4; (case kA => exact rfl); (case kF => exact rfl); (case kK => first | exact rfl | assumption); (case k1 => k_asm); (case k2 => k_asm); (case k3 => k_asm); (case k4 => k_asm); (case k5 => k_asm); (case k6 => k_is); (case k7 => k_is); (case k8 => ktr_room); (case k9 => first | exact BindsTo.of_eq rfl | exact binds_K (by k_in) rfl (by k_is) rfl rfl rfl); (case kB => exact rfl); (case kD => decide +kernel); (case c2 => exact rfl); (case c3 => exact rfl); (case c4 => exact rfl); k_whole; intro g' L' h' tk' cells' FG' F' N' Y' B' X' T' l1; k_cells Y'; (try simp only [List.cons_append, List.nil_append] at N'); (try dsimp only); (try k_lift B'); (try k_fold)))
  k_steps
  unfold Stop
  (with_reducible rename Fr _ _ _ _ => F2)
  (with_reducible rename News _ _ _ _ => N2)
  refine PyProof.Rows.LCt.CompSrcT.range (n := 256) rfl F2 N2 (by assumption) (by decide) (by decide) (by decide) (fun g => compRestT_ind (Ji _ oth) 256 ?_ ?_ 256 0 rfl [] _ ⟨rfl, IntsAre.nil⟩)
  · clear F2 N2
    intro i ys nw hi hJ v I oI C oC D m₂ h tk E' hP hN hx F2 N2 off ne
    obtain ⟨rfl, hB⟩ := hJ
    obtain ⟨tv, rfl⟩ := hP
    k_steps
    · refine PyProof.Rows.LCg.CompEnd.intro F2 N2 _ (fun p hp => hp) off trivial ⟨rfl, ?_⟩
      rw [oth_t (by assumption)]
      exact hB
    · refine PyProof.Rows.LCg.CompEnd.intro F2 N2 _ (fun p hp => hp) off trivial ⟨rfl, ?_⟩
      rw [oth_f (by assumption)]
      exact hB.append (.cons _ _ .nil)
  · clear F2 N2
    intro ys nw hJ
    obtain ⟨rfl, hB1⟩ := hJ
    unfold PyProof.Rows.LCg.FinA
    intro D1 h1 tk1 F2 N2 o1
    dsimp only [PyProof.Rows.LCg.Off1] at o1
    k_steps
    unfold Stop
    (with_reducible rename Fr _ _ _ _ => F3)
    (with_reducible rename News _ _ _ _ => N3)
    have hm := marks_ok n
    refine KBa.make_K F3 N3 rfl (News.isList N3 (.head _)) (.cons _ _ (.cons _ _ .nil)) ?_ (by simp) ?_
    · intro k hk
      simp only [List.mem_cons, List.not_mem_nil, or_false] at hk
      rcases hk with rfl | rfl
      · exact hm.r1
      · exact hm.r2
    · intro h2 t2 k2 F2 N2 hin
      k_steps
      exact hret _ [] _ _ (by assumption) (cb_drop (by assumption) fun p hp => .tail _ (.tail _ (.tail _ hp))) ⟨_, _, _, _, rfl, rfl, KBa.ints_make hin, hm⟩
end
end Mine
end

section
open PySem PySem.W PyProof.Rows
set_option Elab.async false
namespace Mine
section
local macro_rules | `(tactic| k_room) => `(tactic| ktr_room)
local macro_rules | `(tactic| k_all) => `(tactic| exact all_lt_ne (by assumption) (by (try dsimp only); omega))
local macro_rules | `(tactic| k_all) => `(tactic| (refine all_app ?ka ?kb; (case ka => k_all); (case kb => k_all)))
local macro_rules | `(tactic| size_fits) => `(tactic| ((try simp only [List.size_toArray, Array.size_push, PySem.sizeLine_eq]); omega))
local macro_rules | `(tactic| walk_at "call type:type") => `(tactic| ((with_reducible show wpAny _ _ (call (Value.type "type") [Value.bytes _ _]) _ _ _); refine call_type_of (typeIs_bytes _ _ _) (by decide) ?_))
local macro_rules | `(tactic| walk_at "eval DictComp") => `(tactic| refine Stop.go ?_)
local macro_rules | `(tactic| walk_at "Exists") => `(tactic| refine Stop.go ?_)
set_option maxRecDepth 100000 in
set_option maxHeartbeats 1000000 in
theorem table_c {w mean mg mb news} (k : Array UInt8) (tk : Tok) {m1 m2 : Int} (hk2 : KBw.bInts k = [m1, m2]) (hm : Marks m1 m2) :
    Ctr w mean mg mb 9 61 news [.bytes k tk] [] (fun v tl => ∃ D od, v = .ref D ∧ tl = [(D, od)] ∧ (D == sysModules) = false ∧ IsTab Challenge.rw_ki0008_01.row.prog w od (alph m1 m2) ∧ ∀ p ∈ news, p.1 ≠ D) := by
  unfold Ctr; k_fill
  w_top off; intro dp un gd cn cs a ccd cl outer A₀ base h₀ L m s Q E B F X N T hk hdp hun hret
  (refine wpAny_call ?_; k_dflt (refine' code_defC (binds := [(Str.ofString "marks", .bytes k tk)]) ?k1 ?k2 ?k3 ?k4 ?k5 ?kA ?kF ?kK ?k6 ?k7 ?k8 ?k9 ?kB ?kD ?_ ?c2 ?c3 ?c4; (case kA => exact rfl); (case kF => exact rfl); (case kK => first | exact rfl | assumption); (case k1 => k_asm); (case k2 => k_asm); (case k3 => k_asm); (case k4 => k_asm); (case k5 => k_asm); (case k6 => k_is); (case k7 => k_is); (case k8 => ktr_room); (case k9 => first | exact BindsTo.of_eq rfl | exact binds_K (by k_in) rfl (by k_is) rfl rfl rfl); (case kB => exact rfl); (case kD => decide +kernel); (case c2 => exact rfl); (case c3 => exact rfl); (case c4 => exact rfl); k_whole; intro g' L' h' tk' cells' FG' F' N' Y' B' X' T' l1; k_cells Y'; (try simp only [List.cons_append, List.nil_append] at N'); (try dsimp only); (try k_lift B'); (try k_fold)))
  k_steps
  unfold Stop
  rename KBw.bInts (_ ++ k) = _ => hal
  have hal' := hal.trans (show _ = alph m1 m2 from rfl)
  (with_reducible rename Fr _ _ _ _ => F1)
  k_dflt (refine' dict64 (by assumption) F1 hal' (alph_len _ _) (alph_nodup hm) ?q1 ?q2 ?q3 ?q4 ?q5 ?q6 ?q7 ?q8 ?q9 ?q10 ?q11 ?q12 ?q13 ?q14 ?q15)
  case q1 => rfl
  case q2 => exact Top.nolimit (by assumption)
  case q3 => rfl
  case q4 => decide
  case q5 => rfl
  case q6 => decide
  case q7 => rfl
  case q8 => intro _; rfl
  case q9 => intro _; rfl
  case q10 => rfl
  case q11 => decide
  case q12 => decide
  case q13 => intro _ _ _; with_unfolding_all rfl
  case q14 => intro _ _; with_unfolding_all rfl
  k_steps
  all_goals (try unfold Stop)
  (with_reducible rename Fr _ _ _ _ => F2)
  (with_reducible rename News _ _ _ _ => N2)
  refine ⟨_, _, _, _, _, rfl, F2, N2, by assumption, by k_mem, ?_⟩
  clear F2 N2
  intro D1 h1 tk1 od F2 N2 hne hds hT
  dsimp only
  k_steps
  exact hret _ [_] _ _ (by assumption) (cb_drop (by assumption) fun p hp => by rcases List.mem_cons.mp hp with rfl | hp; exact .head _; exact .tail _ (.tail _ hp)) ⟨_, _, rfl, rfl, hds, hT, fun p hp => hne p (.tail _ hp)⟩
end
end Mine
end

section
open PySem PySem.W PyProof.Rows
set_option Elab.async false
namespace Mine
section
local macro_rules | `(tactic| k_room) => `(tactic| ktr_room)
local macro_rules | `(tactic| k_all) => `(tactic| exact all_lt_ne (by assumption) (by (try dsimp only); omega))
local macro_rules | `(tactic| k_all) => `(tactic| (refine all_app ?ka ?kb; (case ka => k_all); (case kb => k_all)))
local macro_rules | `(tactic| size_fits) => `(tactic| ((try simp only [List.size_toArray, Array.size_push, PySem.sizeLine_eq]); omega))
local macro_rules | `(tactic| walk_at "call type:type") => `(tactic| ((with_reducible show wpAny _ _ (call (Value.type "type") [Value.bytes _ _]) _ _ _); refine call_type_of (typeIs_bytes _ _ _) (by decide) ?_))
local macro_rules | `(tactic| walk_at "call type:bytes") => `(tactic| refine Stop.go ?_)
local macro_rules | `(tactic| walk_at "exec Assign cons ListComp") => `(tactic| refine Stop.go ?_)
local macro_rules | `(tactic| walk_at "Exists") => `(tactic| refine Stop.go ?_)
local macro_rules | `(tactic| walk_at "call ref") => `(tactic| ((with_reducible show wpAny _ _ (call (Value.ref 51) _ _) _ _ _); k_dflt (refine' Ctr.use ?k1 ?k2 ?k3 ?k4 ?k5 ?kK ?kd ?ku (b64_ca _ _ _ _ ?kz ?ky ?kx) ?_; (case k1 => k_asm); (case k2 => k_asm); (case k3 => k_asm); (case k4 => k_asm); (case k5 => k_asm); (case kK => first | exact rfl | assumption); (case kd => ktr_room); (case ku => ktr_units)); (case kz => assumption); (case ky => omega); (case kx => assumption); intro v9 tl9 h9 tk9 F9 N9 hR9; obtain ⟨c9, u9, e1, e2, hc9⟩ := hR9; subst e1; subst e2; (simp only [List.nil_append] at N9); (try dsimp only); (try k_fold)))
local macro_rules | `(tactic| walk_at "call builtin:len") => `(tactic| ((with_reducible show wpAny _ _ (call (Value.builtin "len") [Value.ref _]) _ _ _); refine Stop.go ?_))
local macro_rules | `(tactic| walk_at "getMethod ref") => `(tactic| ((with_reducible rename News _ _ _ _ => N9); (with_reducible rename IsTab _ _ _ _ => T9); (refine tab_meth (N9.get (.tail _ (.tail _ (.tail _ (.tail _ (by assumption)))))) (by assumption) T9 ?_)))
set_option maxRecDepth 100000 in
set_option maxHeartbeats 1000000 in
theorem places_c1 {w mean mg mb news} (r : Addr) (vs : List Value) (n : Nat) (ks : List Int) (k : Array UInt8) (tk : Tok) (D1 : Addr) (od : Obj) {m1 m2 : Int} (hD : (D1, od) ∈ news) (hds : (D1 == sysModules) = false) (hT : IsTab Challenge.rw_ki0008_01.row.prog w od (alph m1 m2)) (hr : (r, listOf vs.toArray n) ∈ news) (hi : IntsAre vs ks) (hin : KBa.In ks) (hl : ks.length < 1000) (hk2 : KBw.bInts k = [m1, m2]) (hm : Marks m1 m2) :
    Ctr w mean mg mb 9 66 news [.ref r, .bytes k tk, .ref D1] [] (fun v tl => ∃ l ys, v = .ref l ∧ tl = [(l, LCg.lst ys)] ∧ IntsAre ys (sx ks) ∧ ∀ p ∈ news, p.1 ≠ l) := by
  unfold Ctr; k_fill
  w_top off; intro dp un gd cn cs a ccd cl outer A₀ base h₀ L m s Q E B F X N T hk hdp hun hret
  (refine wpAny_call ?_; k_dflt (refine' code_defC (binds := [(Str.ofString "row", .ref r), (Str.ofString "marks", .bytes k tk), (Str.ofString "table", .ref D1)]) ?k1 ?k2 ?k3 ?k4 ?k5 ?kA ?kF ?kK ?k6 ?k7 ?k8 ?k9 ?kB ?kD ?_ ?c2 ?c3 ?c4; (case kA => exact rfl); (case kF => exact rfl); (case kK => first | exact rfl | assumption); (case k1 => k_asm); (case k2 => k_asm); (case k3 => k_asm); (case k4 => k_asm); (case k5 => k_asm); (case k6 => k_is); (case k7 => k_is); (case k8 => ktr_room); (case k9 => first | exact BindsTo.of_eq rfl | exact binds_K (by k_in) rfl (by k_is) rfl rfl rfl); (case kB => exact rfl); (case kD => decide +kernel); (case c2 => exact rfl); (case c3 => exact rfl); (case c4 => exact rfl); k_whole; intro g' L' h' tk' cells' FG' F' N' Y' B' X' T' l1; k_cells Y'; (try simp only [List.cons_append, List.nil_append] at N'); (try dsimp only); (try k_lift B'); (try k_fold)))
  k_steps
  unfold Stop
  (with_reducible rename Fr _ _ _ _ => F3)
  (with_reducible rename News _ _ _ _ => N3)
  refine KBa.make_K F3 N3 rfl (News.isList N3 (.tail _ hr)) hi hin (by omega) ?_
  clear F3 N3
  intro h2 t2 k2 F2 N2 hin2
  have hb2 := KBa.ints_make hin
  k_steps
  unfold Stop
  (with_reducible rename News _ _ _ _ => N3)
  refine len_ints (News.isList N3 (.tail _ hr)) hi (by omega) ?_
  intro t3 k3
  have hel : ((enc ks).map (alt m1 m2)).length ≤ 2000 := by rw [List.length_map, enc_length]; omega
  k_steps
  unfold Stop
  (with_reducible rename Fr _ _ _ _ => F3)
  refine assign_comp_bytes F3 rfl rfl rfl (by decide) rfl (by decide) rfl rfl rfl rfl ?_
  k_steps
  unfold Stop
  (with_reducible rename Fr _ _ _ _ => F3)
  (with_reducible rename News _ _ _ _ => N3)
  (with_reducible rename KBw.bInts (KBy.picked _ _ _) = _ => hpk)
  rw [pick_count] at hpk
  have hps := bInts_size hpk
  rw [List.length_map, List.length_map] at hps
  have hsl := sx_length ks
  refine ⟨_, _, _, rfl, F3, N3, by rw [hps, sizeLine_eq]; omega, ?_⟩
  rintro s₂ ⟨g₂, rfl⟩
  refine compRest_ind (Ji _ (fun i => (sx ks).take i)) _ ?_ ?_ _ 0 (Nat.zero_add _) [] _ ⟨rfl, IntsAre.nil⟩
  · clear F3 N3
    intro i ys nw hi hJ v I oI C oC D m₂ h tk E' hP hN hx F2 N2 off ne
    obtain ⟨rfl, hB⟩ := hJ
    obtain ⟨c, u, hcu, rfl⟩ := hP
    rw [hps] at hi
    have hsg := sign_at hin hi hpk hcu
    k_steps
    (with_reducible rename News _ _ _ _ => N9)
    refine tab_get (N9.get (.tail _ (.tail _ (.tail _ (.tail _ hD))))) hds (by assumption) (PyProof.V.Flat.int _ _) (alph_nodup hm) _ hsg.1 (hsg.2 _) ?_
    intro t9
    refine PyProof.Rows.LCg.CompEnd.intro F2 N9 _ (fun p hp => hp) off trivial ⟨rfl, ?_⟩
    show IntsAre _ ((sx ks).take (i + 1))
    rw [sx_take_succ hi hin]
    exact hB.append (.cons _ _ .nil)
  · clear F3 N3
    intro ys nw hJ
    obtain ⟨rfl, hB1⟩ := hJ
    have hB2 : IntsAre ys (sx ks) := by
      have hB1' : IntsAre ys ((sx ks).take _) := hB1
      rw [hps, List.take_length] at hB1'
      exact hB1'
    clear hB1
    unfold PyProof.Rows.LCg.FinA
    intro D2 h3 tk3 F2 N2 o1
    k_steps
    (with_reducible rename KBw.bInts (KBy.picked _ (some _) none) = _ => hpr)
    rw [pick_rest] at hpr
    have hpc := pad_cnt ks.length
    have hpl := pad_le ks.length
    refine mul61 (by omega) (by omega) ?_
    intro c4 t4 k4 hc4
    rw [hpc, Int.toNat_natCast] at hc4
    dsimp only
    refine neF hpr hc4 rfl ?_
    k_steps
    · rename (List.any _ _) = true => hb
      rw [no_neg hin] at hb
      cases hb
    · exact hret _ [_] _ _ (by assumption) (cb_drop (by assumption) fun p hp => by rcases List.mem_cons.mp hp with rfl | hp; exact .head _; exact .tail _ (.tail _ hp)) ⟨_, _, rfl, rfl, hB2, fun p hp => off1_mem o1 p (.tail _ hp)⟩
end
end Mine
end

section
open PySem PySem.W PyProof.Rows
set_option Elab.async false
namespace Mine
def oppL (ks : List Int) (sp : Int) : List Int := (ks.take (ks.length - 1)).map (fun p => 63 - p) ++ (ks.drop (ks.length - 1)).map (fun p => 64 - sp - p)
section
local macro_rules | `(tactic| k_room) => `(tactic| ktr_room)
local macro_rules | `(tactic| k_all) => `(tactic| exact all_lt_ne (by assumption) (by (try dsimp only); omega))
local macro_rules | `(tactic| k_all) => `(tactic| (refine all_app ?ka ?kb; (case ka => k_all); (case kb => k_all)))
local macro_rules | `(tactic| size_fits) => `(tactic| ((try simp only [List.size_toArray, Array.size_push, PySem.sizeLine_eq]); omega))
local macro_rules | `(tactic| walk_at "call type:type") => `(tactic| ((with_reducible show wpAny _ _ (call (Value.type "type") [Value.bytes _ _]) _ _ _); refine call_type_of (typeIs_bytes _ _ _) (by decide) ?_))
local macro_rules | `(tactic| walk_at "call builtin:len") => `(tactic| ((with_reducible show wpAny _ _ (call (Value.builtin "len") [Value.ref _]) _ _ _); (with_reducible rename News _ _ _ _ => N9); k_dflt (refine' len_ints (News.isList N9 (List.Mem.tail _ ?km)) ?k0 ?k1 ?_; (case km => assumption); (case k0 => assumption); (case k1 => omega)); intro t9 k9))
local macro_rules | `(tactic| k_mem) => `(tactic| first | assumption | exact List.Mem.tail _ (by assumption) | exact List.Mem.tail _ (List.Mem.tail _ (by assumption)) | exact List.Mem.tail _ (List.Mem.tail _ (List.Mem.tail _ (by assumption))))
set_option maxRecDepth 100000 in
set_option maxHeartbeats 1000000 in
theorem opposite_c {w mean mg mb news} (r : Addr) (vs : List Value) (n : Nat) (ks : List Int) (oc : Int) (to : Tok) (hr : (r, listOf vs.toArray n) ∈ news) (hi : IntsAre vs ks) (hl : ks.length < 1000) (hl0 : 0 < ks.length) (h0 : 0 ≤ 6 * (ks.length : Int) - 8 * oc) (h1 : 6 * (ks.length : Int) - 8 * oc ≤ 4) :
    Ctr w mean mg mb 6 76 news [.ref r, .int oc to] [] (fun v tl => ∃ l ys k, v = .ref l ∧ tl = [(l, listOf ys k)] ∧ IntsAre ys.toList (oppL ks (2 ^ (6 * (ks.length : Int) - 8 * oc).toNat)) ∧ ∀ p ∈ news, p.1 ≠ l) := by
  unfold Ctr; k_fill
  w_top off; intro dp un gd cn cs a ccd cl outer A₀ base h₀ L m s Q E B F X N T hk hdp hun hret
  (refine wpAny_call ?_; k_dflt (refine' code_defC (binds := [(Str.ofString "places", .ref r), (Str.ofString "octets", .int oc to)]) ?k1 ?k2 ?k3 ?k4 ?k5 ?kA ?kF ?kK ?k6 ?k7 ?k8 ?k9 ?kB ?kD ?_ ?c2 ?c3 ?c4; (case kA => exact rfl); (case kF => exact rfl); (case kK => first | exact rfl | assumption); (case k1 => k_asm); (case k2 => k_asm); (case k3 => k_asm); (case k4 => k_asm); (case k5 => k_asm); (case k6 => k_is); (case k7 => k_is); (case k8 => ktr_room); (case k9 => first | exact BindsTo.of_eq rfl | exact binds_K (by k_in) rfl (by k_is) rfl rfl rfl); (case kB => exact rfl); (case kD => decide +kernel); (case c2 => exact rfl); (case c3 => exact rfl); (case c4 => exact rfl); k_whole; intro g' L' h' tk' cells' FG' F' N' Y' B' X' T' l1; k_cells Y'; (try simp only [List.cons_append, List.nil_append] at N'); (try dsimp only); (try k_lift B'); (try k_fold)))
  k_steps
  (with_reducible rename IntsAre _ (_ ++ _) => hI9)
  (with_reducible rename News _ _ _ _ => N9)
  rename _ ∧ _ => l9
  exact hret _ [_] _ _ (by assumption) (cb_drop N9 fun p hp => by rcases List.mem_cons.mp hp with rfl | hp; exact .head _; exact .tail _ (.tail _ (.tail _ (.tail _ (.tail _ (.tail _ hp)))))) ⟨_, _, _, rfl, rfl, hI9, fun p hp => Nat.ne_of_lt (ktn_ltOf l9.2.2.2.2.2 p hp)⟩
end
end Mine
end

section
open PySem PySem.W PyProof.Rows
set_option Elab.async false
namespace Mine
/-- the bits of x, size of them, turned about -/
def revT (size x : Int) (i : Nat) : List Int := (List.range i).map fun b : Nat => (x.fdiv (2 ^ (0 + (b : Int)).toNat)).fmod 2 * 2 ^ (size - 1 - (0 + (b : Int))).toNat
theorem revT_succ (size x : Int) (i : Nat) : revT size x (i + 1) = revT size x i ++ [(x.fdiv (2 ^ (0 + (i : Int)).toNat)).fmod 2 * 2 ^ (size - 1 - (0 + (i : Int))).toNat] := by
  unfold revT; rw [List.range_succ, List.map_append]; rfl
theorem revT_ints {size x : Int} {i : Nat} {ys : List Value} (h : IntsAre ys (revT size x i)) (t : Tok) : IntsAre (ys ++ [Value.int ((x.fdiv (2 ^ (0 + (i : Int)).toNat)).fmod 2 * 2 ^ (size - 1 - (0 + (i : Int))).toNat) t]) (revT size x (i + 1)) := by
  rw [revT_succ]; exact h.append (.cons _ _ .nil)
def revB (size x : Int) : Int := (revT size x size.toNat).sum
theorem pow_small8 {k : Int} (h : k ≤ 8) : 0 ≤ (2 : Int) ^ k.toNat ∧ (2 : Int) ^ k.toNat ≤ 1000000 := by
  have hk : k.toNat ≤ 8 := by omega
  refine ⟨Int.le_of_lt (Int.pow_pos (by decide)), ?_⟩
  have : k.toNat = 0 ∨ k.toNat = 1 ∨ k.toNat = 2 ∨ k.toNat = 3 ∨ k.toNat = 4 ∨ k.toNat = 5 ∨ k.toNat = 6 ∨ k.toNat = 7 ∨ k.toNat = 8 := by omega
  rcases this with e | e | e | e | e | e | e | e | e <;> rw [e] <;> decide
/-- between two turns: the list so far, what is left -/
def JB (D lt c1 c2 : Addr) (ws : List Value) (o2 : Obj) (ks : List Int) (sz : Int) (m0 : Str → Option Value) (news0 : List (Addr × Obj)) (r : List Value) (m : Str → Option Value) (nw : List (Addr × Obj)) : Prop :=
  m = m0 ∧ ∃ o vs n done rks c, nw = (D, listOf ws.toArray 0) :: (lt, listOf vs.toArray n) :: (c1, o) :: (c2, o2) :: news0 ∧ o.data = .cell c ∧ IntsAre vs (done.map (revB sz)) ∧ IntsAre r rks ∧ done ++ rks = ks
theorem jb_end {h₀ : Heap} {L I D lt c1 c2 : Addr} {s₁ : Shared} {oI o o2 : Obj} {Q : Flow → Shared → Prop} {h' : Heap} {tk : Nat} {m0 : Str → Option Value} {ws us r : List Value} {ks done rks : List Int} {sz kv : Int} {news0 : List (Addr × Obj)} {n' : Nat} {c : Option Value} {t : Tok} {x : Addr × Obj}
    (F : Fr h₀ L h' m0) (N : News h₀ L h' (x :: (I, oI) :: (D, listOf ws.toArray 0) :: (lt, listOf (us.toArray.push (.int (revB sz kv) t)) (n' + 1)) :: (c1, o) :: (c2, o2) :: news0)) (hI0 : D < I ∧ lt < I ∧ c1 < I ∧ c2 < I ∧ AllLt I news0) (hd : o.data = .cell c)
    (hus : IntsAre us (done.map (revB sz))) (hrk : IntsAre r rks) (hdr : done ++ kv :: rks = ks) :
    UnrPostW h₀ L s₁ [(I, oI)] (fun m' n' => SubL [(D, listOf ws.toArray 0)] n' ∧ JB D lt c1 c2 ws o2 ks sz m0 news0 r m' n') Q .next { s₁ with heap := h', toks := tk } := by
  refine ⟨h', tk, m0, (D, listOf ws.toArray 0) :: (lt, listOf (us ++ [Value.int (revB sz kv) t]).toArray (n' + 1)) :: (c1, o) :: (c2, o2) :: news0, rfl, F, cb_drop N ?_, ?_, ⟨.head _, trivial⟩, rfl, o, us ++ [Value.int (revB sz kv) t], n' + 1, done ++ [kv], rks, c, rfl, hd, ?_, hrk, ?_⟩
  · intro p hp
    rw [← List.push_toArray] at hp
    exact .tail _ hp
  · intro p hp q hq
    rw [List.mem_singleton.mp hq]
    refine Nat.ne_of_lt ?_
    rcases List.mem_cons.mp hp with rfl | hp
    · exact hI0.1
    rcases List.mem_cons.mp hp with rfl | hp
    · exact hI0.2.1
    rcases List.mem_cons.mp hp with rfl | hp
    · exact hI0.2.2.1
    rcases List.mem_cons.mp hp with rfl | hp
    · exact hI0.2.2.2.1
    · exact ktn_ltOf hI0.2.2.2.2 p hp
  · rw [List.map_append]
    exact hus.append (.cons _ _ .nil)
  · rw [List.append_assoc]
    exact hdr
section
local macro_rules | `(tactic| k_room) => `(tactic| ktr_room)
local macro_rules | `(tactic| k_all) => `(tactic| exact all_lt_ne (by assumption) (by (try dsimp only); omega))
local macro_rules | `(tactic| k_all) => `(tactic| (refine all_app ?ka ?kb; (case ka => k_all); (case kb => k_all)))
local macro_rules | `(tactic| size_fits) => `(tactic| ((try simp only [List.size_toArray, Array.size_push, PySem.sizeLine_eq]); omega))
local macro_rules | `(tactic| walk_at "call type:type") => `(tactic| ((with_reducible show wpAny _ _ (call (Value.type "type") [Value.bytes _ _]) _ _ _); refine call_type_of (typeIs_bytes _ _ _) (by decide) ?_))
local macro_rules | `(tactic| walk_at "exec For Name Subscript cons nil") => `(tactic| refine Stop.go ?_)
local macro_rules | `(tactic| walk_at "pyIter ref") => `(tactic| ((with_reducible show wpAny _ _ (pyIter (Value.ref _)) (fun it s₂ => TurnsAt _ _ _ _ _ _ _ _ _ it s₂) _ _); refine Stop.go ?_))
local macro_rules | `(tactic| walk_at "UnrPostW") => `(tactic| refine Stop.go ?_)
local macro_rules | `(tactic| walk_at "UnrEndW") => `(tactic| refine Stop.go ?_)
local macro_rules | `(tactic| walk_at "call builtin:sum") => `(tactic| refine Stop.go ?_)
local macro_rules | `(tactic| walk_at "eval ListComp") => `(tactic| refine Stop.go ?_)
local macro_rules | `(tactic| walk_at "CompSrc") => `(tactic| refine Stop.go ?_)
local macro_rules | `(tactic| walk_at "CompEnd") => `(tactic| refine Stop.go ?_)
local macro_rules | `(tactic| walk_at "binaryOp Pow int int") => `(tactic| (refine pow_int_small (by with_reducible assumption) (by with_reducible assumption) (by decide) ?_))
local macro_rules | `(tactic| walk_at "binaryOp FloorDiv int int") => `(tactic| (refine floordiv_int (Int.ne_of_gt (pow_pos_of (by decide) _)) ?_ (Or.inl (PyProof.noPylong_of_log2 (kbt_py (by with_reducible assumption))))))
local macro_rules | `(tactic| walk_at "binaryOp Mod int int") => `(tactic| (refine mod_int' (by decide) ?_))
local macro_rules | `(tactic| walk_at "binaryOp Mult int int") => `(tactic| refine Stop.go ?_)
local macro_rules | `(tactic| k_mem) => `(tactic| first | assumption | exact List.Mem.tail _ (by assumption) | exact List.Mem.tail _ (List.Mem.tail _ (by assumption)) | exact List.Mem.tail _ (List.Mem.tail _ (List.Mem.tail _ (by assumption))))
set_option maxRecDepth 100000 in
set_option maxHeartbeats 200000 in
theorem backwards_c {w mean mg mb news} (r : Addr) (vs : List Value) (n : Nat) (ks : List Int) (sz : Int) (to : Tok) (hr : (r, listOf vs.toArray n) ∈ news) (hi : IntsAre vs ks) (hl : ks.length < 1000) (h0 : 0 < sz) (h1 : sz ≤ 8) :
    Ctr w mean mg mb 6 71 news [.ref r, .int sz to] [] (fun v tl => ∃ l ys k, v = .ref l ∧ tl = [(l, listOf ys k)] ∧ IntsAre ys.toList (ks.reverse.map (revB sz)) ∧ ∀ p ∈ news, p.1 ≠ l) := by
  unfold Ctr; k_fill
  w_top off; intro dp un gd cn cs a ccd cl outer A₀ base h₀ L m s Q E B F X N T hk hdp hun hret
  (refine wpAny_call ?_; k_dflt (refine' code_defC (binds := [(Str.ofString "values", .ref r), (Str.ofString "size", .int sz to)]) ?k1 ?k2 ?k3 ?k4 ?k5 ?kA ?kF ?kK ?k6 ?k7 ?k8 ?k9 ?kB ?kD ?_ ?c2 ?c3 ?c4; (case kA => exact rfl); (case kF => exact rfl); (case kK => first | exact rfl | assumption); (case k1 => k_asm); (case k2 => k_asm); (case k3 => k_asm); (case k4 => k_asm); (case k5 => k_asm); (case k6 => k_is); (case k7 => k_is); (case k8 => ktr_room); (case k9 => first | exact BindsTo.of_eq rfl | exact binds_K (by k_in) rfl (by k_is) rfl rfl rfl); (case kB => exact rfl); (case kD => decide +kernel); (case c2 => exact rfl); (case c3 => exact rfl); (case c4 => exact rfl); k_whole; intro g' L' h' tk' cells' FG' F' N' Y' B' X' T' l1; k_cells Y'; (try simp only [List.cons_append, List.nil_append] at N'); (try dsimp only); (try k_lift B'); (try k_fold)))
  k_steps
  unfold Stop
  (with_reducible rename Fr _ _ _ _ => F1)
  (with_reducible rename News _ _ _ _ => N1)
  rename _ ∧ _ => hl1
  refine For_turns F1 ?_
  k_steps
  unfold Stop
  (with_reducible rename Fr _ _ _ _ => F2)
  (with_reducible rename News _ _ _ _ => N2)
  (with_reducible rename IntsAre _ (List.reverse _) => hI2)
  have hrl : ks.reverse.length = ks.length := List.length_reverse
  generalize hkr : ks.reverse = rs at *
  refine iter_listTurns rfl F2 N2 (.head _) rfl rfl (fun I hI => items_ind (JB _ _ _ _ _ _ rs sz _ news) ?_ ?_ _ _ _ ⟨rfl, _, [], _, [], rs, _, rfl, by assumption, .nil, hI2, rfl⟩)
  · clear F2 N2
    rintro v r' m' nw ⟨rfl, o, us, n', done, rks, c, rfl, hoc, hus, hrk, hdr⟩ h tk oI hcI F2 N2
    cases hrk
    rename_i kv tv rks hrk
    replace hI := allLt_of hI
    simp only [AllLt] at hI
    have hul := hus.length
    rw [List.length_map] at hul
    have hdl : done.length < 1000 := by have := congrArg List.length hdr; rw [List.length_append] at this; omega
    k_steps
    unfold Stop
    (with_reducible rename Fr _ _ _ _ => F3)
    k_dflt (refine LCg.ListComp_U (F₀ := F3) (by with_unfolding_all rfl) (by decide) (by rfl) (by decide) (by rfl) ?_)
    k_steps
    unfold Stop
    (with_reducible rename Fr _ _ _ _ => F4)
    (with_reducible rename News _ _ _ _ => N4)
    refine PyProof.Rows.LCg.CompSrc.range (n := sz.toNat) rfl F4 N4 (by assumption) (small_up (by omega) (by omega) (by omega) (by omega)) (by rw [rangeSize_one]; omega) (by rw [sizeLine_eq]; omega) (fun g => compRest_ind (Ji _ (revT sz kv)) _ ?_ ?_ _ 0 (Nat.zero_add _) [] _ ⟨rfl, IntsAre.nil⟩)
    · clear F4 N4
      intro i ys nw hi hJ v I oI C oC D m₂ h tk E' hP hN hx F2 N2 off ne
      obtain ⟨rfl, hB⟩ := hJ
      obtain ⟨tv, rfl⟩ := hP
      have hb0 : 0 ≤ 0 + (i : Int) := by omega
      have hb1 : 0 + (i : Int) ≤ 1000000 := by omega
      have hb2 : 0 + (i : Int) < 9000 := by omega
      have hc0 : 0 ≤ sz - 1 - (0 + (i : Int)) := by omega
      have hc1 : sz - 1 - (0 + (i : Int)) ≤ 1000000 := by omega
      have hc2 := pow_small8 (k := sz - 1 - (0 + (i : Int))) (by omega)
      have hc3 := hc2.1
      replace hc2 := hc2.2
      k_steps
      unfold Stop
      refine mul_small (by with_reducible assumption) (by with_reducible assumption) ?_
      (with_reducible rename News _ _ _ _ => N9)
      refine PyProof.Rows.LCg.CompEnd.intro F2 N9 _ (fun p hp => hp) off trivial ?_
      refine And.intro rfl ?_
      with_reducible exact revT_ints hB _
    · clear F4 N4
      intro ys nw hJ
      obtain ⟨rfl, hB1⟩ := hJ
      unfold PyProof.Rows.LCg.FinE
      intro D1 h1 tk1 F2 N2 o1
      dsimp only [PyProof.Rows.LCg.Off1] at o1
      dsimp only
      k_steps
      unfold Stop
      (with_reducible rename Fr _ _ _ _ => F5)
      (with_reducible rename News _ _ _ _ => N5)
      refine sumK rfl F5 N5 (News.isList N5 (.head _)) hB1 ?_
      clear F5 N5
      intro h5 tk5 t5 F5 N5
      dsimp only
      rw [show (revT sz kv sz.toNat).sum = revB sz kv from rfl]
      have hI0 := hI
      replace hI := hI.2.1
      k_steps
      unfold Stop
      (with_reducible rename Fr _ _ _ _ => F9)
      (with_reducible rename News _ _ _ _ => N9)
      (with_reducible rename Obj.data _ = Data.cell (some (Value.int kv _)) => hd9)
      exact jb_end F9 N9 hI0 hd9 hus hrk hdr
  · clear F2 N2
    rintro m' nw ⟨rfl, o, us, n', done, rks, c, rfl, hoc, hus, hrk, hdr⟩ h tk F2 N2
    cases hrk
    rw [List.append_nil] at hdr
    subst hdr
    k_steps
    (with_reducible rename News _ _ _ _ => N9)
    refine hret _ [_] _ _ (by assumption) (cb_drop N9 fun p hp => by rcases List.mem_cons.mp hp with rfl | hp; exact .tail _ (.head _); exact .tail _ (.tail _ (.tail _ (.tail _ hp)))) ⟨_, _, _, rfl, rfl, hus, fun p hp => ?_⟩
    exact Nat.ne_of_lt (ktn_ltOf hl1.2.2 p hp)
end
end Mine
end

section
open PySem PySem.W PyProof.Rows
set_option Elab.async false
namespace Mine
/-- an operation bit by bit -/
structure BitOp (F : Int → Int → Int) : Prop where
  split : ∀ (k : Nat) (u v u' v' : Int), 0 ≤ u → 0 ≤ u' → 0 ≤ v → v < 2 ^ k → 0 ≤ v' → v' < 2 ^ k → F (u * 2 ^ k + v) (u' * 2 ^ k + v') = F u u' * 2 ^ k + F v v'
  rng : ∀ (k : Nat) (v v' : Int), 0 ≤ v → v < 2 ^ k → 0 ≤ v' → v' < 2 ^ k → 0 ≤ F v v' ∧ F v v' < 2 ^ k
theorem and_split (k u v u' v' : Nat) (h : v < 2 ^ k) (h' : v' < 2 ^ k) : (2 ^ k * u + v) &&& (2 ^ k * u' + v') = 2 ^ k * (u &&& u') + (v &&& v') := by
  apply Nat.eq_of_testBit_eq
  intro i
  have hv : (v &&& v') < 2 ^ k := Nat.lt_of_le_of_lt Nat.and_le_left h
  rw [Nat.testBit_and, Nat.testBit_two_pow_mul_add _ h, Nat.testBit_two_pow_mul_add _ h', Nat.testBit_two_pow_mul_add _ hv]
  split <;> simp
theorem pow_cast (k : Nat) : ((2 ^ k : Nat) : Int) = (2 : Int) ^ k := by rw [Int.natCast_pow]; rfl
theorem opAnd : BitOp Builtin.bitAnd where
  split := fun k u v u' v' hu hu' hv hk hv' hk' => by
    obtain ⟨u, rfl⟩ : ∃ n : Nat, u = (n : Int) := ⟨u.toNat, by omega⟩
    obtain ⟨u', rfl⟩ : ∃ n : Nat, u' = (n : Int) := ⟨u'.toNat, by omega⟩
    obtain ⟨v, rfl⟩ : ∃ n : Nat, v = (n : Int) := ⟨v.toNat, by omega⟩
    obtain ⟨v', rfl⟩ : ∃ n : Nat, v' = (n : Int) := ⟨v'.toNat, by omega⟩
    rw [← pow_cast] at *
    have e : ∀ x y : Nat, (x : Int) * ((2 ^ k : Nat) : Int) + (y : Int) = ((2 ^ k * x + y : Nat) : Int) := fun x y => by rw [Int.natCast_add, Int.natCast_mul, Int.mul_comm]
    rw [e, e, bitAnd_pp (by omega) (by omega), bitAnd_pp (by omega) (by omega), bitAnd_pp (by omega) (by omega)]
    simp only [Int.toNat_natCast]
    rw [and_split k u v u' v' (by omega) (by omega), e]
  rng := fun k v v' h0 h1 h2 h3 => by
    rw [bitAnd_pp h0 h2]
    have := Nat.and_le_left (n := v.toNat) (m := v'.toNat)
    constructor
    · omega
    · refine Int.lt_of_le_of_lt ?_ h1
      omega
theorem or_pp {x y : Int} (hx : 0 ≤ x) (hy : 0 ≤ y) : Builtin.bitOr x y = ((x.toNat ||| y.toNat : Nat) : Int) := by
  rw [bitOr_and, bitAnd_pp hx hy]
  have := nat_or_add_and x.toNat y.toNat
  omega
theorem opOr : BitOp Builtin.bitOr where
  split := fun k u v u' v' hu hu' hv hk hv' hk' => by
    rw [bitOr_and, bitOr_and, bitOr_and, opAnd.split k u v u' v' hu hu' hv hk hv' hk', Int.sub_mul, Int.add_mul]
    omega
  rng := fun k v v' h0 h1 h2 h3 => by
    rw [or_pp h0 h2]
    refine ⟨by omega, ?_⟩
    rw [← pow_cast] at *
    have := Nat.or_lt_two_pow (x := v.toNat) (y := v'.toNat) (n := k) (by omega) (by omega)
    omega
theorem opXor : BitOp Builtin.bitXor where
  split := fun k u v u' v' hu hu' hv hk hv' hk' => by
    rw [bitXor_and, bitXor_and, bitXor_and, opAnd.split k u v u' v' hu hu' hv hk hv' hk', Int.sub_mul, Int.add_mul, Int.mul_assoc]
    omega
  rng := fun k v v' h0 h1 h2 h3 => by
    have a := opAnd.rng k v v' h0 h1 h2 h3
    have b := opOr.rng k v v' h0 h1 h2 h3
    have e1 := bitOr_and v v'
    have e2 := bitXor_and v v'
    have l1 : Builtin.bitAnd v v' ≤ v := by rw [bitAnd_pp h0 h2]; have := Nat.and_le_left (n := v.toNat) (m := v'.toNat); omega
    have l2 : Builtin.bitAnd v v' ≤ v' := by rw [bitAnd_pp h0 h2]; have := Nat.and_le_right (n := v.toNat) (m := v'.toNat); omega
    omega
namespace BitOp
variable {F : Int → Int → Int} (O : BitOp F)
include O
theorem zero : F 0 0 = 0 := by have := O.rng 0 0 0 (by decide) (by decide) (by decide) (by decide); simp only [Int.pow_zero] at this; omega
/-- the low and the high bits -/
theorem cut (k : Nat) (c : Int) (hc : c = 2 ^ k) (a b : Int) (ha : 0 ≤ a) (hb : 0 ≤ b) : F a b / c = F (a / c) (b / c) ∧ F a b % c = F (a % c) (b % c) := by
  have hp : 0 < c := by rw [hc]; exact Int.pow_pos (by decide)
  have h1 := Int.emod_nonneg a (Int.ne_of_gt hp)
  have h2 := Int.emod_lt_of_pos a hp
  have h3 := Int.emod_nonneg b (Int.ne_of_gt hp)
  have h4 := Int.emod_lt_of_pos b hp
  have s := O.split k (a / c) (a % c) (b / c) (b % c) (Int.ediv_nonneg ha (Int.le_of_lt hp)) (Int.ediv_nonneg hb (Int.le_of_lt hp)) h1 (hc ▸ h2) h3 (hc ▸ h4)
  rw [← hc, Int.mul_comm, Int.mul_ediv_add_emod, Int.mul_comm (b / c), Int.mul_ediv_add_emod] at s
  have r := O.rng k (a % c) (b % c) h1 (hc ▸ h2) h3 (hc ▸ h4)
  rw [← hc] at r
  rw [s]
  constructor
  · rw [Int.add_comm, Int.add_mul_ediv_right _ _ (Int.ne_of_gt hp), Int.ediv_eq_zero_of_lt r.1 r.2, Int.zero_add]
  · rw [Int.add_comm, Int.add_mul_emod_self_right, Int.emod_eq_of_lt r.1 r.2]
theorem glue (k : Nat) (c : Int) (hc : c = 2 ^ k) (u v u' v' : Int) (hu : 0 ≤ u) (hu' : 0 ≤ u') (h0 : 0 ≤ v) (h1 : v < c) (h2 : 0 ≤ v') (h3 : v' < c) : F (u * c + v) (u' * c + v') = F u u' * c + F v v' := by
  subst hc; exact O.split k u v u' v' hu hu' h0 h1 h2 h3
theorem sx_op : ∀ (as bs : List Int), KBa.In as → KBa.In bs → as.length = bs.length → sx (List.zipWith F as bs) = List.zipWith F (sx as) (sx bs)
  | [], [], _, _, _ => rfl
  | [a], [a'], h, h', _ => by
    have x := h a (by simp)
    have y := h' a' (by simp)
    have c1 := O.cut 2 4 rfl a a' x.1 y.1
    have g1 := O.glue 4 16 rfl (a % 4) 0 (a' % 4) 0 (by omega) (by omega) (by omega) (by omega) (by omega) (by omega)
    rw [O.zero] at g1
    simp only [List.zipWith, sx, c1.1, c1.2, Int.add_zero] at g1 ⊢
    rw [g1]
  | [a, b], [a', b'], h, h', _ => by
    have x := h a (by simp)
    have y := h' a' (by simp)
    have x2 := h b (by simp)
    have y2 := h' b' (by simp)
    have c1 := O.cut 2 4 rfl a a' x.1 y.1
    have c2 := O.cut 4 16 rfl b b' x2.1 y2.1
    have g1 := O.glue 4 16 rfl (a % 4) (b / 16) (a' % 4) (b' / 16) (by omega) (by omega) (by omega) (by omega) (by omega) (by omega)
    have g2 := O.glue 2 4 rfl (b % 16) 0 (b' % 16) 0 (by omega) (by omega) (by omega) (by omega) (by omega) (by omega)
    rw [O.zero] at g2
    simp only [List.zipWith, sx, c1.1, c1.2, c2.1, c2.2, Int.add_zero] at g1 g2 ⊢
    rw [g1, g2]
  | a :: b :: c :: r, a' :: b' :: c' :: r', h, h', hl => by
    have x := h a (by simp)
    have y := h' a' (by simp)
    have x2 := h b (by simp)
    have y2 := h' b' (by simp)
    have x3 := h c (by simp)
    have y3 := h' c' (by simp)
    have c1 := O.cut 2 4 rfl a a' x.1 y.1
    have c2 := O.cut 4 16 rfl b b' x2.1 y2.1
    have c3 := O.cut 6 64 rfl c c' x3.1 y3.1
    have g1 := O.glue 4 16 rfl (a % 4) (b / 16) (a' % 4) (b' / 16) (by omega) (by omega) (by omega) (by omega) (by omega) (by omega)
    have g2 := O.glue 2 4 rfl (b % 16) (c / 64) (b' % 16) (c' / 64) (by omega) (by omega) (by omega) (by omega) (by omega) (by omega)
    have ih := sx_op r r' (fun z hz => h z (by simp [hz])) (fun z hz => h' z (by simp [hz])) (by simpa using hl)
    simp only [List.zipWith, sx, c1.1, c1.2, c2.1, c2.2, c3.1, c3.2, ih] at g1 g2 ⊢
    rw [g1, g2]
  | [], _ :: _, _, _, hl => by simp at hl
  | _ :: _, [], _, _, hl => by simp at hl
  | [_], _ :: _ :: _, _, _, hl => by simp at hl
  | _ :: _ :: _, [_], _, _, hl => by simp at hl
  | [_, _], _ :: _ :: _ :: _, _, _, hl => by simp at hl
  | _ :: _ :: _ :: _, [_, _], _, _, hl => by simp at hl
theorem in_op : ∀ {as bs : List Int}, KBa.In as → KBa.In bs → KBa.In (List.zipWith F as bs)
  | [], _, _, _ => by intro y hy; simp at hy
  | _ :: _, [], _, _ => by intro y hy; simp at hy
  | a :: r, a' :: r', h, h' => by
    intro y hy
    rw [List.zipWith_cons_cons] at hy
    rcases List.mem_cons.mp hy with rfl | hy
    · have x := h a (by simp)
      have z := h' a' (by simp)
      exact O.rng 8 a a' x.1 x.2 z.1 z.2
    · exact in_op (fun z hz => h z (by simp [hz])) (fun z hz => h' z (by simp [hz])) y hy
end BitOp
/-- the order is kept -/
theorem ltL_refl : ∀ x : List Int, ltL x x = false
  | [] => rfl
  | a :: x => by simp only [ltL, if_true]; exact ltL_refl x
theorem ltL_tri : ∀ x y : List Int, ltL x y = false → ltL y x = false → x = y
  | [], [], _, _ => rfl
  | [], _ :: _, h, _ => by simp [ltL] at h
  | _ :: _, [], _, h => by simp [ltL] at h
  | a :: x, b :: y, h, h' => by
    simp only [ltL] at h h'
    by_cases e : a = b
    · subst e
      simp only [if_true] at h h'
      rw [ltL_tri x y h h']
    · rw [if_neg e] at h
      rw [if_neg (Ne.symm e)] at h'
      have h1 := of_decide_eq_false h
      have h2 := of_decide_eq_false h'
      omega
theorem dig64 {x s y t : Int} {u v : List Int} (h : 0 ≤ s ∧ s < 64) (h' : 0 ≤ t ∧ t < 64) : ltL (x :: s :: u) (y :: t :: v) = ltL ((x * 64 + s) :: u) ((y * 64 + t) :: v) := by
  simp only [ltL]
  by_cases e : x = y
  · by_cases e2 : s = t
    · rw [if_pos e, if_pos e2, if_pos (by omega)]
    · rw [if_pos e, if_neg e2, if_neg (by omega), decide_eq_decide]; omega
  · rw [if_neg e, if_neg (by omega), decide_eq_decide]; omega
theorem dig256 {x s y t : Int} {u v : List Int} (h : 0 ≤ s ∧ s < 256) (h' : 0 ≤ t ∧ t < 256) : ltL (x :: s :: u) (y :: t :: v) = ltL ((x * 256 + s) :: u) ((y * 256 + t) :: v) := by
  simp only [ltL]
  by_cases e : x = y
  · by_cases e2 : s = t
    · rw [if_pos e, if_pos e2, if_pos (by omega)]
    · rw [if_pos e, if_neg e2, if_neg (by omega), decide_eq_decide]; omega
  · rw [if_neg e, if_neg (by omega), decide_eq_decide]; omega
theorem lt_one {p q : Int} {v : List Int} : ltL (p :: v) [q] = decide (p < q) := by
  simp only [ltL]
  by_cases e : p = q
  · rw [if_pos e, ltL_nil_right]; symm; rw [decide_eq_false_iff_not]; omega
  · rw [if_neg e]
theorem le_one {p q x : Int} {v : List Int} : ltL [p] (q :: x :: v) = decide (p ≤ q) := by
  simp only [ltL]
  by_cases e : p = q
  · rw [if_pos e]; symm; rw [decide_eq_true_iff]; omega
  · rw [if_neg e, decide_eq_decide]; omega
theorem dv4 {a : Int} (h : 0 ≤ a ∧ a < 256) : 0 ≤ a % 4 * 16 ∧ a % 4 * 16 < 64 ∧ a / 4 * 64 + a % 4 * 16 = a * 16 := by omega
theorem dv16 {a b : Int} (h : 0 ≤ a ∧ a < 256) (h' : 0 ≤ b ∧ b < 256) : (0 ≤ a % 4 * 16 + b / 16 ∧ a % 4 * 16 + b / 16 < 64) ∧ a / 4 * 64 + (a % 4 * 16 + b / 16) = a * 16 + b / 16 := by omega
theorem dw16 {a b : Int} (h' : 0 ≤ b ∧ b < 256) : (0 ≤ b % 16 * 4 ∧ b % 16 * 4 < 64) ∧ (a * 16 + b / 16) * 64 + b % 16 * 4 = (a * 256 + b) * 4 := by omega
theorem dv64 {a b c : Int} (h' : 0 ≤ b ∧ b < 256) (h2 : 0 ≤ c ∧ c < 256) : (0 ≤ b % 16 * 4 + c / 64 ∧ b % 16 * 4 + c / 64 < 64) ∧ (a * 16 + b / 16) * 64 + (b % 16 * 4 + c / 64) = (a * 256 + b) * 4 + c / 64 := by omega
theorem dw64 {n c : Int} : (0 ≤ c % 64 ∧ c % 64 < 64) ∧ (n * 4 + c / 64) * 64 + c % 64 = n * 256 + c := by omega
theorem sh16 {a a' e : Int} (h : 0 ≤ e ∧ e < 16) : (decide (a * 16 ≤ a' * 16 + e) = decide (a ≤ a')) ∧ decide (a' * 16 + e < a * 16) = decide (a' < a) := by
  constructor <;> rw [decide_eq_decide] <;> omega
theorem sh4 {a a' e : Int} (h : 0 ≤ e ∧ e < 4) : (decide (a * 4 ≤ a' * 4 + e) = decide (a ≤ a')) ∧ decide (a' * 4 + e < a * 4) = decide (a' < a) := by
  constructor <;> rw [decide_eq_decide] <;> omega
theorem q16 {b : Int} (h : 0 ≤ b ∧ b < 256) : 0 ≤ b / 16 ∧ b / 16 < 16 := by omega
theorem q64 {c : Int} (h : 0 ≤ c ∧ c < 256) : 0 ≤ c / 64 ∧ c / 64 < 4 := by omega
theorem sx_lt : ∀ (as bs : List Int), KBa.In as → KBa.In bs → ltL (sx as) (sx bs) = ltL as bs
  | [], [], _, _ => rfl
  | [], [_], _, _ => rfl
  | [], [_, _], _, _ => rfl
  | [], _ :: _ :: _ :: _, _, _ => rfl
  | [_], [], _, _ => rfl
  | [_, _], [], _, _ => rfl
  | _ :: _ :: _ :: _, [], _, _ => rfl
  | [a], [a'], h, h' => by
    have x := dv4 (h a (.head _))
    have y := dv4 (h' a' (.head _))
    have z := (sh16 (a := a') (a' := a) (e := 0) (by decide)).2
    simp only [sx]
    rw [dig64 ⟨x.1, x.2.1⟩ ⟨y.1, y.2.1⟩, x.2.2, y.2.2, lt_one, lt_one, ← z, Int.add_zero]
  | [a], [a', b'], h, h' => by
    have x := dv4 (h a (.head _))
    have y2 := h' b' (.tail _ (.head _))
    have y := dv16 (h' a' (.head _)) y2
    simp only [sx]
    rw [dig64 ⟨x.1, x.2.1⟩ y.1, x.2.2, y.2, le_one, le_one, (sh16 (q16 y2)).1]
  | [a, b], [a'], h, h' => by
    have x2 := h b (.tail _ (.head _))
    have x := dv16 (h a (.head _)) x2
    have y := dv4 (h' a' (.head _))
    simp only [sx]
    rw [dig64 x.1 ⟨y.1, y.2.1⟩, x.2, y.2.2, lt_one, lt_one, (sh16 (q16 x2)).2]
  | [a, b], [a', b'], h, h' => by
    have x2 := h b (.tail _ (.head _))
    have y2 := h' b' (.tail _ (.head _))
    have x := dv16 (h a (.head _)) x2
    have y := dv16 (h' a' (.head _)) y2
    have u := dw16 (a := a) x2
    have v := dw16 (a := a') y2
    have z := (sh4 (a := a' * 256 + b') (a' := a * 256 + b) (e := 0) (by decide)).2
    simp only [sx]
    rw [dig64 x.1 y.1, x.2, y.2, dig64 u.1 v.1, u.2, v.2, dig256 x2 y2, lt_one, lt_one, ← z, Int.add_zero]
  | [a], a' :: b' :: c' :: r', h, h' => by
    have x := dv4 (h a (.head _))
    have y2 := h' b' (.tail _ (.head _))
    have y := dv16 (h' a' (.head _)) y2
    simp only [sx]
    rw [dig64 ⟨x.1, x.2.1⟩ y.1, x.2.2, y.2, le_one, le_one, (sh16 (q16 y2)).1]
  | a :: b :: c :: r, [a'], h, h' => by
    have x2 := h b (.tail _ (.head _))
    have x := dv16 (h a (.head _)) x2
    have y := dv4 (h' a' (.head _))
    simp only [sx]
    rw [dig64 x.1 ⟨y.1, y.2.1⟩, x.2, y.2.2, lt_one, lt_one, (sh16 (q16 x2)).2]
  | [a, b], a' :: b' :: c' :: r', h, h' => by
    have x2 := h b (.tail _ (.head _))
    have y2 := h' b' (.tail _ (.head _))
    have y3 := h' c' (.tail _ (.tail _ (.head _)))
    have x := dv16 (h a (.head _)) x2
    have y := dv16 (h' a' (.head _)) y2
    have u := dw16 (a := a) x2
    have v := dv64 (a := a') y2 y3
    simp only [sx]
    rw [dig64 x.1 y.1, x.2, y.2, dig64 u.1 v.1, u.2, v.2, dig256 x2 y2, le_one, le_one, (sh4 (q64 y3)).1]
  | a :: b :: c :: r, [a', b'], h, h' => by
    have x2 := h b (.tail _ (.head _))
    have x3 := h c (.tail _ (.tail _ (.head _)))
    have y2 := h' b' (.tail _ (.head _))
    have x := dv16 (h a (.head _)) x2
    have y := dv16 (h' a' (.head _)) y2
    have u := dv64 (a := a) x2 x3
    have v := dw16 (a := a') y2
    simp only [sx]
    rw [dig64 x.1 y.1, x.2, y.2, dig64 u.1 v.1, u.2, v.2, dig256 x2 y2, lt_one, lt_one, (sh4 (q64 x3)).2]
  | a :: b :: c :: r, a' :: b' :: c' :: r', h, h' => by
    have x2 := h b (.tail _ (.head _))
    have x3 := h c (.tail _ (.tail _ (.head _)))
    have y2 := h' b' (.tail _ (.head _))
    have y3 := h' c' (.tail _ (.tail _ (.head _)))
    have x := dv16 (h a (.head _)) x2
    have y := dv16 (h' a' (.head _)) y2
    have u := dv64 (a := a) x2 x3
    have v := dv64 (a := a') y2 y3
    have p := dw64 (n := a * 256 + b) (c := c)
    have q := dw64 (n := a' * 256 + b') (c := c')
    have ih := sx_lt r r' (fun z hz => h z (.tail _ (.tail _ (.tail _ hz)))) (fun z hz => h' z (.tail _ (.tail _ (.tail _ hz))))
    simp only [sx]
    rw [dig64 x.1 y.1, x.2, y.2, dig64 u.1 v.1, u.2, v.2, dig64 p.1 q.1, p.2, q.2, dig256 x2 y2, dig256 x3 y3]
    simp only [ltL, ih]
theorem sx_eq {as bs : List Int} (h : KBa.In as) (h' : KBa.In bs) : (sx as = sx bs) ↔ as = bs := by
  constructor
  · intro e
    refine ltL_tri as bs ?_ ?_
    · rw [← sx_lt as bs h h', e, ltL_refl]
    · rw [← sx_lt bs as h' h, e, ltL_refl]
  · rintro rfl; rfl
end Mine
end

section
open PySem PySem.W PyProof.Rows
set_option Elab.async false
namespace Mine
/-- turned into its opposite -/
def spv (n : Nat) : Int := if n % 3 = 1 then 16 else if n % 3 = 2 then 4 else 1
theorem spv_add (n : Nat) : spv (n + 3) = spv n := by
  have h : (n + 3) % 3 = n % 3 := by omega
  simp only [spv, h]
theorem sx_pos {as : List Int} (h : as ≠ []) : 0 < (sx as).length := by
  rw [sx_length]
  have := List.length_pos_iff.mpr h
  omega
theorem opp_cons (x : Int) {ks : List Int} (sp : Int) (h : 0 < ks.length) : oppL (x :: ks) sp = (63 - x) :: oppL ks sp := by
  unfold oppL
  obtain ⟨n, hn⟩ : ∃ n, ks.length = n + 1 := ⟨ks.length - 1, by omega⟩
  simp only [List.length_cons, hn, Nat.add_sub_cancel, List.take_succ_cons, List.drop_succ_cons, List.map_cons, List.cons_append]
theorem opp_one (x sp : Int) : oppL [x] sp = [64 - sp - x] := by simp [oppL]
theorem opp_law : ∀ (as : List Int), KBa.In as → as ≠ [] → sx (as.map fun a => 255 - a) = oppL (sx as) (spv as.length)
  | [], _, h => absurd rfl h
  | [a], h, _ => by
    have x := h a (by simp)
    simp only [List.map_cons, List.map_nil, sx, List.length_cons, List.length_nil]
    rw [opp_cons _ _ (by simp), opp_one]
    simp only [spv]
    congr 1
    · omega
    · congr 1; simp; omega
  | [a, b], h, _ => by
    have x := h a (by simp)
    have y := h b (by simp)
    simp only [List.map_cons, List.map_nil, sx, List.length_cons, List.length_nil]
    rw [opp_cons _ _ (by simp), opp_cons _ _ (by simp), opp_one]
    simp only [spv]
    congr 1
    · omega
    · congr 1
      · omega
      · congr 1; simp; omega
  | [a, b, c], h, _ => by
    have x := h a (by simp)
    have y := h b (by simp)
    have z := h c (by simp)
    simp only [List.map_cons, List.map_nil, sx, List.length_cons, List.length_nil]
    rw [opp_cons _ _ (by simp), opp_cons _ _ (by simp), opp_cons _ _ (by simp), opp_one]
    simp only [spv]
    congr 1
    · omega
    · congr 1
      · omega
      · congr 1
        · omega
        · congr 1; simp; omega
  | a :: b :: c :: d :: r, h, _ => by
    have x := h a (by simp)
    have y := h b (by simp)
    have z := h c (by simp)
    have ih := opp_law (d :: r) (fun z hz => h z (List.mem_cons_of_mem _ (List.mem_cons_of_mem _ (List.mem_cons_of_mem _ hz)))) (by simp)
    have hp := sx_pos (as := d :: r) (by simp)
    have e : spv (a :: b :: c :: d :: r).length = spv (d :: r).length := spv_add (d :: r).length
    rw [List.map_cons, List.map_cons, List.map_cons]
    show (255 - a) / 4 :: ((255 - a) % 4 * 16 + (255 - b) / 16) :: ((255 - b) % 16 * 4 + (255 - c) / 64) :: (255 - c) % 64 :: sx ((d :: r).map fun a => 255 - a) = oppL (a / 4 :: (a % 4 * 16 + b / 16) :: (b % 16 * 4 + c / 64) :: c % 64 :: sx (d :: r)) _
    rw [opp_cons _ _ (by simp), opp_cons _ _ (by simp), opp_cons _ _ (by simp), opp_cons _ _ hp, ih, e]
    congr 1
    · omega
    · congr 1
      · omega
      · congr 1
        · omega
        · congr 1; omega
theorem spv_pow (as : List Int) : spv as.length = 2 ^ (6 * ((sx as).length : Int) - 8 * (as.length : Int)).toNat := by
  have h := sx_length as
  unfold spv
  have : as.length % 3 = 0 ∨ as.length % 3 = 1 ∨ as.length % 3 = 2 := by omega
  rcases this with e | e | e
  · rw [show (6 * ((sx as).length : Int) - 8 * (as.length : Int)).toNat = 0 by omega, e]; decide
  · rw [show (6 * ((sx as).length : Int) - 8 * (as.length : Int)).toNat = 4 by omega, e]; decide
  · rw [show (6 * ((sx as).length : Int) - 8 * (as.length : Int)).toNat = 2 by omega, e]; decide
theorem opposite_law {as : List Int} (h : KBa.In as) (hn : as ≠ []) : sx (as.map fun a => 255 - a) = oppL (sx as) (2 ^ (6 * ((sx as).length : Int) - 8 * (as.length : Int)).toNat) := by
  rw [opp_law as h hn, spv_pow]
/-- read backwards -/
theorem rev8 (x : Int) : revB 8 x = x % 2 * 128 + x / 2 % 2 * 64 + x / 4 % 2 * 32 + x / 8 % 2 * 16 + x / 16 % 2 * 8 + x / 32 % 2 * 4 + x / 64 % 2 * 2 + x / 128 % 2 := by
  show (x.fdiv 1).fmod 2 * 128 + ((x.fdiv 2).fmod 2 * 64 + ((x.fdiv 4).fmod 2 * 32 + ((x.fdiv 8).fmod 2 * 16 + ((x.fdiv 16).fmod 2 * 8 + ((x.fdiv 32).fmod 2 * 4 + ((x.fdiv 64).fmod 2 * 2 + ((x.fdiv 128).fmod 2 * 1 + 0))))))) = _
  simp only [Int.fmod_eq_emod_of_nonneg _ (show (0 : Int) ≤ 2 by decide), Int.fdiv_eq_ediv_of_nonneg _ (show (0 : Int) ≤ 1 by decide), Int.fdiv_eq_ediv_of_nonneg _ (show (0 : Int) ≤ 2 by decide), Int.fdiv_eq_ediv_of_nonneg _ (show (0 : Int) ≤ 4 by decide), Int.fdiv_eq_ediv_of_nonneg _ (show (0 : Int) ≤ 8 by decide), Int.fdiv_eq_ediv_of_nonneg _ (show (0 : Int) ≤ 16 by decide), Int.fdiv_eq_ediv_of_nonneg _ (show (0 : Int) ≤ 32 by decide), Int.fdiv_eq_ediv_of_nonneg _ (show (0 : Int) ≤ 64 by decide), Int.fdiv_eq_ediv_of_nonneg _ (show (0 : Int) ≤ 128 by decide)]
  omega
theorem rev6 (x : Int) : revB 6 x = x % 2 * 32 + x / 2 % 2 * 16 + x / 4 % 2 * 8 + x / 8 % 2 * 4 + x / 16 % 2 * 2 + x / 32 % 2 := by
  show (x.fdiv 1).fmod 2 * 32 + ((x.fdiv 2).fmod 2 * 16 + ((x.fdiv 4).fmod 2 * 8 + ((x.fdiv 8).fmod 2 * 4 + ((x.fdiv 16).fmod 2 * 2 + ((x.fdiv 32).fmod 2 * 1 + 0))))) = _
  simp only [Int.fmod_eq_emod_of_nonneg _ (show (0 : Int) ≤ 2 by decide), Int.fdiv_eq_ediv_of_nonneg _ (show (0 : Int) ≤ 1 by decide), Int.fdiv_eq_ediv_of_nonneg _ (show (0 : Int) ≤ 2 by decide), Int.fdiv_eq_ediv_of_nonneg _ (show (0 : Int) ≤ 4 by decide), Int.fdiv_eq_ediv_of_nonneg _ (show (0 : Int) ≤ 8 by decide), Int.fdiv_eq_ediv_of_nonneg _ (show (0 : Int) ≤ 16 by decide), Int.fdiv_eq_ediv_of_nonneg _ (show (0 : Int) ≤ 32 by decide)]
  omega
theorem rev8_in (x : Int) : 0 ≤ revB 8 x ∧ revB 8 x < 256 := by rw [rev8]; omega
theorem fin_nat {P : Int → Prop} {k : Nat} (h : ∀ n : Nat, n < k → P (n : Int)) {c : Int} (h0 : 0 ≤ c) (h1 : c < (k : Int)) : P c := by
  have := h c.toNat (by omega)
  rwa [Int.toNat_of_nonneg h0] at this
theorem rv1 {c : Int} (h0 : 0 ≤ c) (h1 : c < 256) : revB 8 c / 4 = revB 6 (c % 64) := by
  rw [rev8, rev6]
  exact fin_nat (k := 256) (P := fun c => (c % 2 * 128 + c / 2 % 2 * 64 + c / 4 % 2 * 32 + c / 8 % 2 * 16 + c / 16 % 2 * 8 + c / 32 % 2 * 4 + c / 64 % 2 * 2 + c / 128 % 2) / 4 = c % 64 % 2 * 32 + c % 64 / 2 % 2 * 16 + c % 64 / 4 % 2 * 8 + c % 64 / 8 % 2 * 4 + c % 64 / 16 % 2 * 2 + c % 64 / 32 % 2) (by decide +kernel) h0 h1
theorem rvU : ∀ u : Nat, u < 16 → ∀ v : Nat, v < 4 → (((v : Int) % 2 * 2 + (v : Int) / 2 % 2) * 16 + ((u : Int) % 2 * 8 + (u : Int) / 2 % 2 * 4 + (u : Int) / 4 % 2 * 2 + (u : Int) / 8 % 2)) = ((u : Int) * 4 + v) % 2 * 32 + ((u : Int) * 4 + v) / 2 % 2 * 16 + ((u : Int) * 4 + v) / 4 % 2 * 8 + ((u : Int) * 4 + v) / 8 % 2 * 4 + ((u : Int) * 4 + v) / 16 % 2 * 2 + ((u : Int) * 4 + v) / 32 % 2 := by decide +kernel
theorem rvV : ∀ u : Nat, u < 4 → ∀ v : Nat, v < 16 → (((v : Int) % 2 * 8 + (v : Int) / 2 % 2 * 4 + (v : Int) / 4 % 2 * 2 + (v : Int) / 8 % 2) * 4 + ((u : Int) % 2 * 2 + (u : Int) / 2 % 2)) = ((u : Int) * 16 + v) % 2 * 32 + ((u : Int) * 16 + v) / 2 % 2 * 16 + ((u : Int) * 16 + v) / 4 % 2 * 8 + ((u : Int) * 16 + v) / 8 % 2 * 4 + ((u : Int) * 16 + v) / 16 % 2 * 2 + ((u : Int) * 16 + v) / 32 % 2 := by decide +kernel
theorem rv2 {b c : Int} (h0 : 0 ≤ b) (h1 : b < 256) (h2 : 0 ≤ c) (h3 : c < 256) : revB 8 c % 4 * 16 + revB 8 b / 16 = revB 6 (b % 16 * 4 + c / 64) := by
  have e1 : revB 8 c % 4 = c / 64 % 2 * 2 + c / 64 / 2 % 2 := by rw [rev8]; exact fin_nat (k := 256) (P := fun c => (c % 2 * 128 + c / 2 % 2 * 64 + c / 4 % 2 * 32 + c / 8 % 2 * 16 + c / 16 % 2 * 8 + c / 32 % 2 * 4 + c / 64 % 2 * 2 + c / 128 % 2) % 4 = c / 64 % 2 * 2 + c / 64 / 2 % 2) (by decide +kernel) h2 h3
  have e2 : revB 8 b / 16 = b % 16 % 2 * 8 + b % 16 / 2 % 2 * 4 + b % 16 / 4 % 2 * 2 + b % 16 / 8 % 2 := by rw [rev8]; exact fin_nat (k := 256) (P := fun c => (c % 2 * 128 + c / 2 % 2 * 64 + c / 4 % 2 * 32 + c / 8 % 2 * 16 + c / 16 % 2 * 8 + c / 32 % 2 * 4 + c / 64 % 2 * 2 + c / 128 % 2) / 16 = c % 16 % 2 * 8 + c % 16 / 2 % 2 * 4 + c % 16 / 4 % 2 * 2 + c % 16 / 8 % 2) (by decide +kernel) h0 h1
  have h := rvU (b % 16).toNat (by omega) (c / 64).toNat (by omega)
  rw [Int.toNat_of_nonneg (by omega), Int.toNat_of_nonneg (by omega)] at h
  rw [e1, e2, rev6, h]
theorem rv3 {a b : Int} (h0 : 0 ≤ a) (h1 : a < 256) (h2 : 0 ≤ b) (h3 : b < 256) : revB 8 b % 16 * 4 + revB 8 a / 64 = revB 6 (a % 4 * 16 + b / 16) := by
  have e1 : revB 8 b % 16 = b / 16 % 2 * 8 + b / 16 / 2 % 2 * 4 + b / 16 / 4 % 2 * 2 + b / 16 / 8 % 2 := by rw [rev8]; exact fin_nat (k := 256) (P := fun c => (c % 2 * 128 + c / 2 % 2 * 64 + c / 4 % 2 * 32 + c / 8 % 2 * 16 + c / 16 % 2 * 8 + c / 32 % 2 * 4 + c / 64 % 2 * 2 + c / 128 % 2) % 16 = c / 16 % 2 * 8 + c / 16 / 2 % 2 * 4 + c / 16 / 4 % 2 * 2 + c / 16 / 8 % 2) (by decide +kernel) h2 h3
  have e2 : revB 8 a / 64 = a % 4 % 2 * 2 + a % 4 / 2 % 2 := by rw [rev8]; exact fin_nat (k := 256) (P := fun c => (c % 2 * 128 + c / 2 % 2 * 64 + c / 4 % 2 * 32 + c / 8 % 2 * 16 + c / 16 % 2 * 8 + c / 32 % 2 * 4 + c / 64 % 2 * 2 + c / 128 % 2) / 64 = c % 4 % 2 * 2 + c % 4 / 2 % 2) (by decide +kernel) h0 h1
  have h := rvV (a % 4).toNat (by omega) (b / 16).toNat (by omega)
  rw [Int.toNat_of_nonneg (by omega), Int.toNat_of_nonneg (by omega)] at h
  rw [e1, e2, rev6, h]
theorem rv4 {a : Int} (h0 : 0 ≤ a) (h1 : a < 256) : revB 8 a % 64 = revB 6 (a / 4) := by
  rw [rev8, rev6]
  exact fin_nat (k := 256) (P := fun c => (c % 2 * 128 + c / 2 % 2 * 64 + c / 4 % 2 * 32 + c / 8 % 2 * 16 + c / 16 % 2 * 8 + c / 32 % 2 * 4 + c / 64 % 2 * 2 + c / 128 % 2) % 64 = c / 4 % 2 * 32 + c / 4 / 2 % 2 * 16 + c / 4 / 4 % 2 * 8 + c / 4 / 8 % 2 * 4 + c / 4 / 16 % 2 * 2 + c / 4 / 32 % 2) (by decide +kernel) h0 h1
theorem back_law : ∀ (t : List Int), KBa.In t → t.length % 3 = 0 → sx (t.reverse.map (revB 8)) = (sx t).reverse.map (revB 6)
  | [], _, _ => rfl
  | [_], _, h => by simp at h
  | [_, _], _, h => by simp at h
  | a :: b :: c :: r, h, hl => by
    have x := h a (by simp)
    have y := h b (by simp)
    have z := h c (by simp)
    have hl' : r.length % 3 = 0 := by simp only [List.length_cons] at hl; omega
    have ih := back_law r (fun w hw => h w (by simp [hw])) hl'
    have e1 : (a :: b :: c :: r).reverse.map (revB 8) = r.reverse.map (revB 8) ++ [revB 8 c, revB 8 b, revB 8 a] := by simp
    have e2 : (sx (a :: b :: c :: r)).reverse.map (revB 6) = (sx r).reverse.map (revB 6) ++ [revB 6 (c % 64), revB 6 (b % 16 * 4 + c / 64), revB 6 (a % 4 * 16 + b / 16), revB 6 (a / 4)] := by simp [sx]
    rw [e1, e2, sx_app3 _ _ (by simpa using hl'), ih]
    congr 1
    show [revB 8 c / 4, revB 8 c % 4 * 16 + revB 8 b / 16, revB 8 b % 16 * 4 + revB 8 a / 64, revB 8 a % 64] = _
    rw [rv1 z.1 z.2, rv2 y.1 y.2 z.1 z.2, rv3 x.1 x.2 y.1 y.2, rv4 x.1 x.2]
/-- the whole threes' places -/
theorem sx_threes (as : List Int) (n : Nat) (h : 3 * n ≤ as.length) : (sx as).take (4 * n) = sx (as.take (3 * n)) := by
  have hl : (as.take (3 * n)).length = 3 * n := by rw [List.length_take]; omega
  conv => lhs; rw [← List.take_append_drop (3 * n) as, sx_app3 _ _ (by rw [hl]; omega)]
  rw [List.take_left' (by rw [sx_length, hl]; omega)]
/-- the rows -/
def thr (as : List Int) : List Int := as.take (((as.length : Nat) : Int).fdiv 3 * 3).toNat
def rowsL (as bs : List Int) : List (List Int) := [as, bs, List.zipWith Builtin.bitAnd as bs, List.zipWith Builtin.bitOr as bs, List.zipWith Builtin.bitXor as bs] ++ ([as.map fun a => 255 - a, (thr as).reverse.map (revB 8)] ++ (List.range bs.length).map fun k => bs.take k)
theorem thr_eq (as : List Int) : thr as = as.take (3 * (as.length / 3)) := by
  unfold thr
  rw [Int.fdiv_eq_ediv_of_nonneg _ (by decide)]
  congr 1
  omega
theorem thr_in {as : List Int} (h : KBa.In as) : KBa.In (thr as) := fun y hy => h y (List.mem_of_mem_take hy)
theorem rowsL_all {as bs : List Int} (ha : KBa.In as) (hb : KBa.In bs) (hl : as.length ≤ 39) (hb2 : bs.length ≤ 39) : ∀ k ∈ rowsL as bs, KBa.In k ∧ k.length ≤ 39 := by
  intro k hk
  simp only [rowsL, List.mem_append, List.mem_cons, List.not_mem_nil, or_false, List.mem_map, List.mem_range] at hk
  rcases hk with (rfl | rfl | rfl | rfl | rfl) | (rfl | rfl) | ⟨n, _, rfl⟩
  · exact ⟨ha, hl⟩
  · exact ⟨hb, hb2⟩
  · exact ⟨opAnd.in_op ha hb, by rw [List.length_zipWith]; omega⟩
  · exact ⟨opOr.in_op ha hb, by rw [List.length_zipWith]; omega⟩
  · exact ⟨opXor.in_op ha hb, by rw [List.length_zipWith]; omega⟩
  · refine ⟨fun y hy => ?_, by rw [List.length_map]; omega⟩
    obtain ⟨a, h, rfl⟩ := List.mem_map.mp hy
    have := ha a h
    omega
  · refine ⟨fun y hy => ?_, by rw [List.length_map, List.length_reverse]; unfold thr; rw [List.length_take]; omega⟩
    obtain ⟨a, h, rfl⟩ := List.mem_map.mp hy
    exact rev8_in a
  · exact ⟨fun y hy => hb y (List.mem_of_mem_take hy), by rw [List.length_take]; omega⟩
theorem rowsL_get {as bs : List Int} (ha : KBa.In as) (hb : KBa.In bs) (hl : as.length ≤ 39) (hb2 : bs.length ≤ 39) (i : Nat) : KBa.In ((rowsL as bs).getD i []) ∧ ((rowsL as bs).getD i []).length ≤ 39 := by
  rw [List.getD_eq_getElem?_getD]
  by_cases hi : i < (rowsL as bs).length
  · rw [List.getElem?_eq_getElem hi]; exact rowsL_all ha hb hl hb2 _ (List.getElem_mem _)
  · rw [List.getElem?_eq_none (by omega)]; exact ⟨fun y hy => by simp at hy, by simp⟩
theorem rowsL_len (as bs : List Int) : (rowsL as bs).length = 7 + bs.length := by simp [rowsL]; omega
/-- faces[6]: the threes backwards -/
theorem back_face {as : List Int} (ha : KBa.In as) : sx ((thr as).reverse.map (revB 8)) = ((sx as).take (4 * (as.length / 3))).reverse.map (revB 6) := by
  rw [back_law _ (thr_in ha) (by rw [thr_eq, List.length_take]; omega), sx_threes as _ (by omega), thr_eq]
end Mine
end

section
open PySem PySem.W PyProof.Rows
set_option Elab.async false
namespace Mine
section
variable {M : Model} {A : Around} {E : Value → Shared → Prop} {s : Shared} {h₀ : Heap} {L : Addr} {m : Str → Option Value} {news : List (Addr × Obj)} {e : PySem.Expr} {env : Env} {Q : Value → Shared → Prop}
theorem off1_of {D : Addr} : ∀ {l : List (Addr × Obj)}, (∀ p ∈ l, p.1 ≠ D) → PyProof.Rows.LCg.Off1 D l
  | [], _ => trivial
  | _ :: _, h => ⟨h _ List.mem_cons_self, off1_of fun p hp => h p (List.mem_cons_of_mem _ hp)⟩
theorem in_mod (f : Int → Int) (l : List Int) : KBa.In (l.map fun k => (f k).fmod 256) := by
  intro y hy
  obtain ⟨k, _, rfl⟩ := List.mem_map.mp hy
  rw [Int.fmod_eq_emod_of_nonneg _ (by decide)]
  omega
theorem news_swap {h : Heap} {x : Addr × Obj} {a b : List (Addr × Obj)} (N : News h₀ L h (x :: (a ++ b))) : News h₀ L h (x :: (b ++ a)) := cb_drop N fun p hp => by
  rcases List.mem_cons.mp hp with rfl | hp
  · exact .head _
  · exact .tail _ (List.mem_append.mpr (Or.symm (List.mem_append.mp hp)))
theorem names12 {h : Heap} {a1 a2 a3 a4 a5 a6 a7 a8 a9 a10 a11 a12 : Addr} {o1 o2 o3 o4 o5 o6 o7 o8 o9 o10 o11 o12 : Obj} {r : List (Addr × Obj)} (_ : News h₀ L h ((a1, o1) :: (a2, o2) :: (a3, o3) :: (a4, o4) :: (a5, o5) :: (a6, o6) :: (a7, o7) :: (a8, o8) :: (a9, o9) :: (a10, o10) :: (a11, o11) :: (a12, o12) :: r)) :
    ∃ x1 x2 x3 x4 x5 x7 x8 x10 x11 x12 : Addr, x1 = a1 ∧ x2 = a2 ∧ x3 = a3 ∧ x4 = a4 ∧ x5 = a5 ∧ x7 = a7 ∧ x8 = a8 ∧ x10 = a10 ∧ x11 = a11 ∧ x12 = a12 := ⟨_, _, _, _, _, _, _, _, _, _, rfl, rfl, rfl, rfl, rfl, rfl, rfl, rfl, rfl, rfl⟩
theorem thin12 {h : Heap} {p1 p2 p3 p4 p5 p6 p7 p8 p9 p10 p11 p12 : Addr × Obj} {r : List (Addr × Obj)} (N : News h₀ L h (p1 :: p2 :: p3 :: p4 :: p5 :: p6 :: p7 :: p8 :: p9 :: p10 :: p11 :: p12 :: r)) : News h₀ L h [p1, p2, p3, p4, p5, p7, p8, p10, p11, p12] := cb_drop N fun p hp => by
  simp only [List.mem_cons, List.not_mem_nil, or_false] at hp ⊢
  rcases hp with rfl | rfl | rfl | rfl | rfl | rfl | rfl | rfl | rfl | rfl <;> simp
theorem rows_led {h : Heap} {a1 a2 a3 a4 a5 a6 a7 : Addr} {p0 p1 p7 p10 p11 p12 : Addr × Obj} {ybw : Array Value} {kbw : Nat} {y1 y2 y3 y4 y5 y6 ys : List Value} {ex : List (Addr × Obj)} {as bs : List Int}
    (_ : News h₀ L h (p0 :: p1 :: (a7, listOf ybw kbw) :: (a6, LCg.lst y6) :: (a5, LCg.lst y5) :: (a4, LCg.lst y4) :: (a3, LCg.lst y3) :: p7 :: (a2, LCg.lst y2) :: (a1, LCg.lst y1) :: p10 :: p11 :: p12 :: ex))
    (h1 : IntsAre y1 as) (h2 : IntsAre y2 bs) (h3 : IntsAre y3 (List.zipWith Builtin.bitAnd as bs)) (h4 : IntsAre y4 (List.zipWith Builtin.bitOr as bs)) (h5 : IntsAre y5 (List.zipWith Builtin.bitXor as bs)) (h6 : IntsAre y6 (as.map fun a => 255 - a)) (h7 : IntsAre ybw.toList ((thr as).reverse.map (revB 8)))
    (h8 : RowsIn ex ys ((List.range bs.length).map fun k => bs.take k)) :
    RowsIn (p0 :: p1 :: (a7, listOf ybw kbw) :: (a6, LCg.lst y6) :: (a5, LCg.lst y5) :: (a4, LCg.lst y4) :: (a3, LCg.lst y3) :: p7 :: (a2, LCg.lst y2) :: (a1, LCg.lst y1) :: p10 :: p11 :: p12 :: ex)
      (.ref a1 :: .ref a2 :: .ref a3 :: .ref a4 :: .ref a5 :: .ref a6 :: .ref a7 :: ys) (rowsL as bs) :=
  .cons (.tail _ (.tail _ (.tail _ (.tail _ (.tail _ (.tail _ (.tail _ (.tail _ (.tail _ (.head _)))))))))) h1 (.cons (.tail _ (.tail _ (.tail _ (.tail _ (.tail _ (.tail _ (.tail _ (.tail _ (.head _))))))))) h2 (.cons (.tail _ (.tail _ (.tail _ (.tail _ (.tail _ (.tail _ (.head _))))))) h3 (.cons (.tail _ (.tail _ (.tail _ (.tail _ (.tail _ (.head _)))))) h4 (.cons (.tail _ (.tail _ (.tail _ (.tail _ (.head _))))) h5 (.cons (.tail _ (.tail _ (.tail _ (.head _)))) h6 (.cons (n := kbw) (vs := ybw.toList) (.tail _ (.tail _ (.head _))) h7 (h8.mono fun p hp => .tail _ (.tail _ (.tail _ (.tail _ (.tail _ (.tail _ (.tail _ (.tail _ (.tail _ (.tail _ (.tail _ (.tail _ (.tail _ (hp))))))))))))))))))))
theorem hideF {h : Heap} {pD pT pR q1 q2 q3 q4 q5 pth q6 pon q7 q8 q9 : Addr × Obj} {ex ex2 : List (Addr × Obj)} (N : News h₀ L h (pD :: pT :: pR :: q1 :: q2 :: q3 :: q4 :: q5 :: pth :: q6 :: pon :: q7 :: q8 :: q9 :: (ex ++ ex2))) :
    ∃ al, News h₀ L h (pD :: pR :: pth :: pon :: al) ∧ (∀ p ∈ pT :: pR :: q1 :: q2 :: q3 :: q4 :: q5 :: pth :: q6 :: pon :: q7 :: q8 :: q9 :: ex, p ∈ al) ∧ ∀ p ∈ ex2, p ∈ al := by
  refine ⟨pT :: pR :: q1 :: q2 :: q3 :: q4 :: q5 :: pth :: q6 :: pon :: q7 :: q8 :: q9 :: (ex ++ ex2), cb_drop N fun p hp => ?_, fun p hp => ?_, fun p hp => ?_⟩
  · rcases List.mem_cons.mp hp with rfl | hp
    · exact .head _
    rcases List.mem_cons.mp hp with rfl | hp
    · exact .tail _ (.tail _ (.head _))
    rcases List.mem_cons.mp hp with rfl | hp
    · exact .tail _ (.tail _ (.tail _ (.tail _ (.tail _ (.tail _ (.tail _ (.tail _ (.head _))))))))
    rcases List.mem_cons.mp hp with rfl | hp
    · exact .tail _ (.tail _ (.tail _ (.tail _ (.tail _ (.tail _ (.tail _ (.tail _ (.tail _ (.tail _ (.head _))))))))))
    · exact .tail _ hp
  · exact List.mem_append_left ex2 hp
  · exact .tail _ (.tail _ (.tail _ (.tail _ (.tail _ (.tail _ (.tail _ (.tail _ (.tail _ (.tail _ (.tail _ (.tail _ (.tail _ (List.mem_append_right ex hp)))))))))))))
theorem map_sx (rw : List (List Int)) (n : Nat) (h : n = rw.length) : (List.range n).map (fun i => sx (rw.getD i [])) = rw.map sx := by
  subst h
  apply List.ext_getElem
  · simp
  · intro i h1 h2
    simp only [List.length_map, List.length_range] at h1
    simp [List.getElem?_eq_getElem h1]
theorem hideT {h : Heap} {pB pD pR pth pon : Addr × Obj} {tu al : List (Addr × Obj)} (N : News h₀ L h (pB :: (tu ++ (pD :: pR :: pth :: pon :: al)))) : ∃ al2, News h₀ L h (pB :: pD :: pR :: pth :: pon :: al2) ∧ (∀ p ∈ tu, p ∈ al2) ∧ ∀ p ∈ al, p ∈ al2 := by
  refine ⟨al ++ tu, cb_drop N fun p hp => ?_, fun p hp => List.mem_append_right _ hp, fun p hp => List.mem_append_left _ hp⟩
  rcases List.mem_cons.mp hp with rfl | hp
  · exact .head _
  refine .tail _ ?_
  have hp' : p ∈ (pD :: pR :: pth :: pon :: al) ++ tu := hp
  exact List.mem_append.mpr (Or.symm (List.mem_append.mp hp'))
theorem pick_slice {us : List Value} (h : 5 ≤ us.length) : kms_pick us (some 2) (some 5) = (us.drop 2).take 3 := by
  have h1 : kms_lo (some 2) us.length = 2 := by simp only [kms_lo]; rw [if_neg (by decide)]; show min 2 us.length = 2; omega
  have h2 : kms_hi (some 5) us.length = 5 := by simp only [kms_hi]; rw [if_neg (by decide)]; show min 5 us.length = 5; omega
  unfold kms_pick
  rw [h1, h2]
theorem rows3 {h : Heap} {p0 : Addr × Obj} {a1 a2 a3 : Addr} {y1 y2 y3 : List Value} {k1 k2 k3 : List Int} {r : List (Addr × Obj)} (_ : News h₀ L h (p0 :: (a3, LCg.lst y3) :: (a2, LCg.lst y2) :: (a1, LCg.lst y1) :: r)) (j1 : IntsAre y1 k1) (j2 : IntsAre y2 k2) (j3 : IntsAre y3 k3) :
    RowsIn (p0 :: (a3, LCg.lst y3) :: (a2, LCg.lst y2) :: (a1, LCg.lst y1) :: r) [.ref a1, .ref a2, .ref a3] [k1, k2, k3] := .cons (.tail _ (.tail _ (.tail _ (.head _)))) j1 (.cons (.tail _ (.tail _ (.head _))) j2 (.one (.tail _ (.head _)) j3))
theorem drop6 {h : Heap} {p0 p1 p2 p3 p4 p5 : Addr × Obj} {r : List (Addr × Obj)} (N : News h₀ L h (p0 :: p1 :: p2 :: p3 :: p4 :: p5 :: r)) : News h₀ L h r := cb_drop N fun p hp => .tail _ (.tail _ (.tail _ (.tail _ (.tail _ (.tail _ hp)))))
theorem drop1 {h : Heap} {p0 : Addr × Obj} {r : List (Addr × Obj)} (N : News h₀ L h (p0 :: r)) : News h₀ L h r := cb_drop N fun p hp => .tail _ hp
theorem faces3 {as bs : List Int} (ha : KBa.In as) (hb : KBa.In bs) (hl : as.length = bs.length) : (((rowsL as bs).map sx).drop 2).take 3 = [List.zipWith Builtin.bitAnd (sx as) (sx bs), List.zipWith Builtin.bitOr (sx as) (sx bs), List.zipWith Builtin.bitXor (sx as) (sx bs)] := by
  show [sx (List.zipWith Builtin.bitAnd as bs), sx (List.zipWith Builtin.bitOr as bs), sx (List.zipWith Builtin.bitXor as bs)] = _
  rw [opAnd.sx_op as bs ha hb hl, opOr.sx_op as bs ha hb hl, opXor.sx_op as bs ha hb hl]
theorem back_x (as : List Int) : ((((as.take (((as.length : Nat) : Int).fdiv 3 * 3).toNat).length : Nat) : Int).fdiv 3 * 4).toNat = 4 * (as.length / 3) := by
  rw [List.length_take, Int.fdiv_eq_ediv_of_nonneg _ (by decide), Int.fdiv_eq_ediv_of_nonneg _ (by decide)]
  omega
def IntRes (s : Shared) (v : Value) (s' : Shared) : Prop := ∃ c t k, v = .int c t ∧ s' = { s with toks := k }
theorem cut_int (h : wpAny M A (eval e env) (IntRes s) E s) (k : ∀ c t k, Q (.int c t) { s with toks := k }) : wpAny M A (eval e env) Q E s :=
  wpAny_mono h (fun v s' ⟨c, t, j, e1, e2⟩ => by subst e1; subst e2; exact k c t j) fun _ _ e => e
def ListRes (h₀ : Heap) (L : Addr) (m : Str → Option Value) (news : List (Addr × Obj)) (P : List Int → Prop) (s : Shared) (v : Value) (s' : Shared) : Prop :=
  ∃ l ys ks n h' tk, v = .ref l ∧ s' = { s with heap := h', toks := tk } ∧ Fr h₀ L h' m ∧ News h₀ L h' ((l, listOf ys.toArray n) :: news) ∧ LCg.Off1 l news ∧ IntsAre ys ks ∧ P ks
theorem cut_list (P : List Int → Prop) (_ : Fr h₀ L s.heap m) (_ : News h₀ L s.heap news) (h : wpAny M A (eval e env) (ListRes h₀ L m news P s) E s)
    (k : ∀ l ys ks n h' tk, Fr h₀ L h' m → News h₀ L h' ((l, listOf ys.toArray n) :: news) → LCg.Off1 l news → IntsAre ys ks → P ks → Q (.ref l) { s with heap := h', toks := tk }) : wpAny M A (eval e env) Q E s :=
  wpAny_mono h (fun v s' ⟨l, ys, ks, n, h', tk, e1, e2, r1, r2, r3, r4, r5⟩ => by subst e1; subst e2; exact k l ys ks n h' tk r1 r2 r3 r4 r5) fun _ _ e => e
end
section
local macro_rules | `(tactic| k_room) => `(tactic| ktr_room)
local macro_rules | `(tactic| k_all) => `(tactic| exact all_lt_ne (by assumption) (by (try dsimp only); omega))
local macro_rules | `(tactic| k_all) => `(tactic| (refine all_app ?ka ?kb; (case ka => k_all); (case kb => k_all)))
local macro_rules | `(tactic| size_fits) => `(tactic| ((try simp only [List.size_toArray, Array.size_push, PySem.sizeLine_eq]); omega))
local macro_rules | `(tactic| walk_at "call type:type") => `(tactic| ((with_reducible show wpAny _ _ (call (Value.type "type") [Value.bytes _ _]) _ _ _); refine call_type_of (typeIs_bytes _ _ _) (by decide) ?_))
local macro_rules | `(tactic| walk_at "call ref") => `(tactic| ((with_reducible show wpAny _ _ (call (Value.ref 56) _ _) _ _ _); k_dflt (refine' Ctr.use ?k1 ?k2 ?k3 ?k4 ?k5 ?kK ?kd ?ku (marks_c _ _) ?_; (case k1 => k_asm); (case k2 => k_asm); (case k3 => k_asm); (case k4 => k_asm); (case k5 => k_asm); (case kK => first | exact rfl | assumption); (case kd => ktr_room); (case ku => ktr_units)); intro v9 tl9 h9 tk9 F9 N9 hR9; obtain ⟨c9, u9, m1, m2, e1, e2, hc9, hm9⟩ := hR9; subst e1; subst e2; (simp only [List.nil_append] at N9); (try dsimp only); (try k_fold)))
local macro_rules | `(tactic| walk_at "eval IfExp") => `(tactic| refine Stop.go ?_)
local macro_rules | `(tactic| walk_at "exec If") => `(tactic| refine Stop.go ?_)
local macro_rules | `(tactic| walk_at "call type:zip") => `(tactic| refine Stop.go ?_)
local macro_rules | `(tactic| walk_at "call type:list") => `(tactic| refine Stop.go ?_)
local macro_rules | `(tactic| walk_at "eval ListComp") => `(tactic| ((with_reducible show wpAny _ _ (eval (Expr.ListComp _ [⟨Expr.Tuple _ _ _, _, _, _⟩] _ _) _) _ _ _); refine Stop.go ?_))
local macro_rules | `(tactic| walk_at "exec AugAssign") => `(tactic| refine Stop.go ?_)
local macro_rules | `(tactic| walk_at "inplaceOp Add ref") => `(tactic| refine Stop.go ?_)
local macro_rules | `(tactic| walk_at "call ref") => `(tactic| ((with_reducible show wpAny _ _ (call (Value.ref 71) _ _) _ _ _); refine Stop.go ?_))
local macro_rules | `(tactic| walk_at "call ref") => `(tactic| ((with_reducible show wpAny _ _ (call (Value.ref 61) _ _) _ _ _); refine Stop.go ?_))
local macro_rules | `(tactic| walk_at "call ref") => `(tactic| ((with_reducible show wpAny _ _ (call (Value.ref 66) _ _) _ _ _); refine Stop.go ?_))
local macro_rules | `(tactic| walk_at "call ref") => `(tactic| ((with_reducible show wpAny _ _ (call (Value.ref 76) _ _) _ _ _); refine Stop.go ?_))
local macro_rules | `(tactic| walk_at "eval ListComp") => `(tactic| ((with_reducible show wpAny _ _ (eval (Expr.ListComp (Expr.Subscript _ _ _) [⟨Expr.Name _ _, _, _, _⟩] _ _) _) _ _ _); refine Stop.go ?_))
local macro_rules | `(tactic| walk_at "CompSrc") => `(tactic| ((with_reducible show LCg.CompSrc _ _ _ _ _ _ _ (Expr.Subscript _ _ _) _ _ _ _ _ _); refine Stop.go ?_))
local macro_rules | `(tactic| walk_at "CompSrc") => `(tactic| ((with_reducible show LCg.CompSrc _ _ _ _ _ _ _ (Expr.Call _ _ _ _) _ _ _ _ _ _); refine Stop.go ?_))
local macro_rules | `(tactic| walk_at "compareOp In none ref") => `(tactic| refine Stop.go ?_)
local macro_rules | `(tactic| k_all) => `(tactic| assumption)
local macro_rules | `(tactic| walk_at "subscriptTail") => `(tactic| ((with_reducible show wpAny _ _ (subscriptTail (Expr.Name (Str.ofString "faces") _) _ (Value.ref _) (Value.int _ _)) _ _ _); refine Stop.go ?_))
local macro_rules | `(tactic| walk_at "subscriptTail") => `(tactic| ((with_reducible show wpAny _ _ (subscriptTail (Expr.Name (Str.ofString "rows") _) _ (Value.ref _) (Value.int _ _)) _ _ _); refine Stop.go ?_))
local macro_rules | `(tactic| walk_at "subscriptTail Name Slice ref ref") => `(tactic| ((with_reducible show wpAny _ _ (subscriptTail (Expr.Name (Str.ofString "faces") _) _ (Value.ref _) (Value.ref _)) _ _ _); refine Stop.go ?_))
local macro_rules | `(tactic| walk_at "compareOp NotEq ref ref") => `(tactic| refine Stop.go ?_)
local macro_rules | `(tactic| walk_at "compareOp Lt ref ref") => `(tactic| refine Stop.go ?_)
local macro_rules | `(tactic| walk_at "compareOp Eq ref ref") => `(tactic| refine Stop.go ?_)
local macro_rules | `(tactic| walk_at "exec For Name BinOp cons nil") => `(tactic| refine Stop.go ?_)
local macro_rules | `(tactic| walk_at "subscriptTail") => `(tactic| ((with_reducible show wpAny _ _ (subscriptTail (Expr.Subscript _ _ _) (Expr.Slice _ _ _ _) (Value.ref _) (Value.ref _)) _ _ _); refine Stop.go ?_))
local macro_rules | `(tactic| walk_at "pyIter ref") => `(tactic| ((with_reducible show wpAny _ _ (pyIter _) (fun it s₂ => LoopAtV _ _ _ _ _ _ _ _ _ it s₂) _ _); refine Stop.go ?_))
local macro_rules | `(tactic| walk_at "binaryOp Add ref ref") => `(tactic| refine Stop.go ?_)
local macro_rules | `(tactic| walk_at "SrcLP") => `(tactic| refine Stop.go ?_)
local macro_rules | `(tactic| walk_at "CompEnd") => `(tactic| ((with_reducible show LCg.CompEnd _ _ _ _ _ _ _ _ _ _ _ (fun y news' => Ji _ _ _ _ _) _ _); refine Stop.go ?_))
local macro_rules | `(tactic| walk_at "CompEnd") => `(tactic| ((with_reducible show LCg.CompEnd _ _ _ _ _ _ _ _ _ _ _ (fun y news' => JS _ _ _ _ _) _ _); refine Stop.go ?_))
set_option maxRecDepth 100000 in
set_option maxHeartbeats 4000000 in
theorem law1 : PySem.Challenge.rw_ki0008_01.Holds := hd (by
  k_go0
  all_goals try k_fold
  k_steps
  unfold Stop
  refine cut_int ?_ ?_
  · refine IfExp_ ?_
    k_steps
    · exact ⟨_, _, _, rfl, rfl⟩
    · exact ⟨_, _, _, rfl, rfl⟩
  · intro choice tc kc
    k_steps
    unfold Stop
    (with_reducible rename Fr _ _ _ _ => F1)
    (with_reducible rename News _ _ _ _ => N1)
    refine cut_list (fun ks => ks ≠ [] ∧ ks.length ≤ 39) F1 N1 ?_ ?_
    · refine IfExp_ ?_
      k_steps
      · (with_reducible rename IntsAre _ (List.take _ _) => hI9)
        refine ⟨_, _, _, _, _, _, rfl, rfl, by assumption, by assumption, (by (dsimp only [PyProof.Rows.LCg.Off1]); (repeat' apply And.intro) <;> first | exact True.intro | omega), hI9, List.ne_nil_of_length_pos ?_, ?_⟩
        · rw [List.length_take, List.length_drop]; omega
        · rw [List.length_take, List.length_drop]; omega
      · exact ⟨_, _, [3917, 61537, 65390], _, _, _, rfl, rfl, by assumption, by assumption, (by (dsimp only [PyProof.Rows.LCg.Off1]); (repeat' apply And.intro) <;> first | exact True.intro | omega), .cons _ _ (.cons _ _ (.cons _ _ .nil)), by decide, by decide⟩
    intro l2 ys2 hs n2 h2 tk2 F2 N2 o2 hI2 hP2
    obtain ⟨hne, hlen⟩ := hP2
    dsimp only [PyProof.Rows.LCg.Off1] at o2
    dsimp only
    k_steps
    unfold Stop
    (with_reducible rename Fr _ _ _ _ => F3)
    (with_reducible rename News _ _ _ _ => N3)
    (with_reducible rename IntsAre _ (List.map (fun k' : Int => (k'.fdiv 256).fmod 256) hs) => hIb)
    (with_reducible rename IntsAre _ (List.map (fun k' : Int => k'.fmod 256) hs) => hIa)
    (with_reducible rename KBw.bInts _ = _ => hc9)
    (with_reducible rename Marks _ _ => hm9)
    have hpos : 0 < hs.length := List.length_pos_iff.mpr hne
    have hab0 : (List.map (fun k' : Int => k'.fmod 256) hs).length = (List.map (fun k' : Int => (k'.fdiv 256).fmod 256) hs).length := by rw [List.length_map, List.length_map]
    have hal0 : (List.map (fun k' : Int => k'.fmod 256) hs).length = hs.length := List.length_map ..
    have hinA0 : KBa.In (List.map (fun k' : Int => k'.fmod 256) hs) := in_mod _ _
    have hinB0 : KBa.In (List.map (fun k' : Int => (k'.fdiv 256).fmod 256) hs) := in_mod _ _
    generalize hga : List.map (fun k' : Int => k'.fmod 256) hs = as at *
    generalize hgb : List.map (fun k' : Int => (k'.fdiv 256).fmod 256) hs = bs at *
    have hal : as.length ≤ 39 := by omega
    have hap : 0 < as.length := by omega
    have hab : as.length = bs.length := hab0
    have hxl := hIa.length
    have hyl := hIb.length
    refine zip_K F3 N3 (News.isList N3 (by k_mem)) (News.isList N3 (by k_mem)) ?_
    clear F3 N3
    intro z4 h4 B4 TI4 TO4 i14 i24 F4 N4 Z4
    dsimp only
    k_steps
    unfold Stop
    (with_reducible rename Fr _ _ _ _ => F4)
    (with_reducible rename News _ _ _ _ => N4)
    refine list_zip rfl F4 N4 Z4 (by omega) (by omega) ?_
    clear F4 N4 Z4
    intro D5 h5 ts c5 F5 N5 off5 hts
    rw [hxl] at hts
    replace off5 := off1_of (fun p hp => off5 p (List.mem_append_right _ hp))
    dsimp only [PyProof.Rows.LCg.Off1] at off5
    dsimp only
    generalize htu : tupObjs ts _ _ = tu at *
    replace N5 := news_swap N5
    simp only [List.cons_append, List.nil_append] at N5
    have h3 : 0 ≤ ((as.length : Nat) : Int).fdiv 3 * 3 := by rw [Int.fdiv_eq_ediv_of_nonneg _ (by decide)]; omega
    k_steps
    unfold Stop
    (with_reducible rename Fr _ _ _ _ => FP)
    k_dflt (refine LCp.ListComp_P (F₀ := FP) (by with_unfolding_all rfl) (by decide) (by rfl) (by decide) (by rfl) (by rfl) (by decide) ?_)
    k_steps
    unfold Stop
    (with_reducible rename Fr _ _ _ _ => FP)
    (with_reducible rename News _ _ _ _ => NP)
    refine LCp.SrcLP.ledger rfl FP NP (by k_mem) (by rw [List.size_toArray, List.length_map, hts, sizeLine_eq]; omega) (fun g => compRestP_ind (Ji _ (fun i => (List.zipWith Builtin.bitAnd as bs).take i)) _ ?_ ?_ _ 0 (Nat.zero_add _) [] _ ⟨rfl, IntsAre.nil⟩)
    · clear FP NP
      intro i ys nw hi hJ v hv
      obtain ⟨rfl, hB⟩ := hJ
      obtain ⟨T, ot, a, b, t, u, rfl, hmT, hcT, hdT, ha, hb⟩ := tup_at hts hIa hIb hab hv
      (try rw [htu] at hmT)
      refine ⟨T, ot, _, _, _, rfl, by repeat (first | exact id hmT | apply List.Mem.tail), hcT, hdT, ?_⟩
      intro I oI C oC D m₂ h tk E' hN hx hx2 F2 N2 off ne
      k_steps
      unfold Stop
      (with_reducible rename News _ _ _ _ => N9)
      refine PyProof.Rows.LCg.CompEnd.intro (by assumption) N9 _ (fun p hp => hp) off (.inr ⟨_, by k_mem, rfl, _, rfl⟩) ?_
      refine And.intro rfl ?_
      with_reducible exact zw_ints hB ha hb _
    clear FP NP
    intro ys nw hJ
    obtain ⟨rfl, hIA⟩ := hJ
    replace hIA := zw_all (by rw [List.size_toArray, List.length_map, hts]) hIA
    unfold PyProof.Rows.LCg.FinE
    intro DP hP tkP FP NP oPA
    dsimp only [PyProof.Rows.LCg.Off1] at oPA
    dsimp only
    k_steps
    unfold Stop
    (with_reducible rename Fr _ _ _ _ => FP)
    k_dflt (refine LCp.ListComp_P (F₀ := FP) (by with_unfolding_all rfl) (by decide) (by rfl) (by decide) (by rfl) (by rfl) (by decide) ?_)
    k_steps
    unfold Stop
    (with_reducible rename Fr _ _ _ _ => FP)
    (with_reducible rename News _ _ _ _ => NP)
    refine LCp.SrcLP.ledger rfl FP NP (by k_mem) (by rw [List.size_toArray, List.length_map, hts, sizeLine_eq]; omega) (fun g => compRestP_ind (Ji _ (fun i => (List.zipWith Builtin.bitOr as bs).take i)) _ ?_ ?_ _ 0 (Nat.zero_add _) [] _ ⟨rfl, IntsAre.nil⟩)
    · clear FP NP
      intro i ys nw hi hJ v hv
      obtain ⟨rfl, hB⟩ := hJ
      obtain ⟨T, ot, a, b, t, u, rfl, hmT, hcT, hdT, ha, hb⟩ := tup_at hts hIa hIb hab hv
      (try rw [htu] at hmT)
      refine ⟨T, ot, _, _, _, rfl, by repeat (first | exact id hmT | apply List.Mem.tail), hcT, hdT, ?_⟩
      intro I oI C oC D m₂ h tk E' hN hx hx2 F2 N2 off ne
      k_steps
      unfold Stop
      (with_reducible rename News _ _ _ _ => N9)
      refine PyProof.Rows.LCg.CompEnd.intro (by assumption) N9 _ (fun p hp => hp) off (.inr ⟨_, by k_mem, rfl, _, rfl⟩) ?_
      refine And.intro rfl ?_
      with_reducible exact zw_ints hB ha hb _
    clear FP NP
    intro ys nw hJ
    obtain ⟨rfl, hIO⟩ := hJ
    replace hIO := zw_all (by rw [List.size_toArray, List.length_map, hts]) hIO
    unfold PyProof.Rows.LCg.FinE
    intro DP hP tkP FP NP oPO
    dsimp only [PyProof.Rows.LCg.Off1] at oPO
    dsimp only
    k_steps
    unfold Stop
    (with_reducible rename Fr _ _ _ _ => FP)
    k_dflt (refine LCp.ListComp_P (F₀ := FP) (by with_unfolding_all rfl) (by decide) (by rfl) (by decide) (by rfl) (by rfl) (by decide) ?_)
    k_steps
    unfold Stop
    (with_reducible rename Fr _ _ _ _ => FP)
    (with_reducible rename News _ _ _ _ => NP)
    refine LCp.SrcLP.ledger rfl FP NP (by k_mem) (by rw [List.size_toArray, List.length_map, hts, sizeLine_eq]; omega) (fun g => compRestP_ind (Ji _ (fun i => (List.zipWith Builtin.bitXor as bs).take i)) _ ?_ ?_ _ 0 (Nat.zero_add _) [] _ ⟨rfl, IntsAre.nil⟩)
    · clear FP NP
      intro i ys nw hi hJ v hv
      obtain ⟨rfl, hB⟩ := hJ
      obtain ⟨T, ot, a, b, t, u, rfl, hmT, hcT, hdT, ha, hb⟩ := tup_at hts hIa hIb hab hv
      (try rw [htu] at hmT)
      refine ⟨T, ot, _, _, _, rfl, by repeat (first | exact id hmT | apply List.Mem.tail), hcT, hdT, ?_⟩
      intro I oI C oC D m₂ h tk E' hN hx hx2 F2 N2 off ne
      k_steps
      unfold Stop
      (with_reducible rename News _ _ _ _ => N9)
      refine PyProof.Rows.LCg.CompEnd.intro (by assumption) N9 _ (fun p hp => hp) off (.inr ⟨_, by k_mem, rfl, _, rfl⟩) ?_
      refine And.intro rfl ?_
      with_reducible exact zw_ints hB ha hb _
    clear FP NP
    intro ys nw hJ
    obtain ⟨rfl, hIX⟩ := hJ
    replace hIX := zw_all (by rw [List.size_toArray, List.length_map, hts]) hIX
    unfold PyProof.Rows.LCg.FinE
    intro DP hP tkP FP NP oPX
    dsimp only [PyProof.Rows.LCg.Off1] at oPX
    dsimp only
    k_steps
    unfold Stop
    (with_reducible rename News _ _ _ _ => N6)
    obtain ⟨R, cX, cO, cA, th, tw, on, c3, c2, c1, q1, q2, q3, q4, q5, q7, q8, q10, q11, q12⟩ := names12 N6
    subst q1 q2 q3 q4 q5 q7 q8
    replace N6 := thin12 N6
    have a1 := oPA.2.2.2.2.2.1
    have a2 := oPO.2.2.2.2.2.2.1
    have a3 := oPX.2.2.2.2.2.2.2.1
    rw [← q10] at a1 a2 a3
    rename _ ∧ _ => lR
    obtain ⟨r1, r2, r3, r4, _, r6, r7, _, r9, r10, r11, _⟩ := lR
    clear oPA oPO oPX off5
    rename _ ∧ _ => lT
    have a4 := lT.2.2.2.2.1
    clear lT
    rename _ ∧ _ => lW
    have a5 := lW.2.2.1
    clear lW
    rename _ ∧ _ => lO
    have a6 := lO.2.1
    clear lO o2
    rw [← q10] at a4 a5 a6
    rw [← q10] at r9
    rw [← q11] at r10
    rw [← q12] at r11
    refine wpAny_AugAssign_Name ?_
    k_steps
    unfold Stop
    (with_reducible rename IntsAre _ (List.take _ as) => hIt)
    (with_reducible rename IntsAre _ (List.map _ as) => hIn)
    (with_reducible rename News _ _ _ _ => N7)
    obtain ⟨ng, q⟩ := names1 N7
    subst q
    rename _ ∧ _ => oN
    have b1 := oN.1
    have b2 := oN.2.2.2.2.2.2.2.1
    rw [← q10] at b2
    clear oN
    k_dflt (refine' Ctr.use ?k1 ?k2 ?k3 ?k4 ?k5 ?kK ?kd ?ku (backwards_c _ _ _ _ _ _ ?p1 hIt ?p3 ?p4 ?p5) ?_; (case k1 => k_asm); (case k2 => k_asm); (case k3 => k_asm); (case k4 => k_asm); (case k5 => k_asm); (case kK => first | exact rfl | assumption); (case kd => ktr_room); (case ku => ktr_units))
    case p1 => k_mem
    case p3 => rw [List.length_take]; omega
    case p4 => decide
    case p5 => decide
    intro v9 tl9 h9 tk9 F9 N9 hR9
    obtain ⟨bw, ybw, kbw, e1, e2, hIw, hofw⟩ := hR9
    subst e1
    subst e2
    replace hofw := off1_of hofw
    dsimp only [PyProof.Rows.LCg.Off1] at hofw
    have b3 := hofw.2.1
    have b4 := hofw.2.2.2.2.2.2.2.2.1
    rw [← q10] at b4
    clear hofw
    simp only [List.nil_append, List.cons_append] at N9
    dsimp only
    k_steps
    unfold Stop
    (with_reducible rename Fr _ _ _ _ => F8)
    k_dflt (refine LCg.ListComp_U (F₀ := F8) (by with_unfolding_all rfl) (by decide) (by rfl) (by decide) (by rfl) ?_)
    k_steps
    unfold Stop
    (with_reducible rename Fr _ _ _ _ => F8)
    (with_reducible rename News _ _ _ _ => N8)
    refine PyProof.Rows.LCg.CompSrc.range (n := bs.length) rfl F8 N8 (by assumption) (small_up (by omega) (by omega) (by omega) (by omega)) (by rw [rangeSize_one]; omega) (by rw [sizeLine_eq]; omega) (fun g => compRest_ind (JS _ (fun k => bs.take k)) _ ?_ ?_ _ 0 (Nat.zero_add _) [] _ JS.start)
    · clear F8 N8
      intro i ys nw hi hJ v I oI C oC D m₂ h tk E' hP hN hx F2 N2 off ne
      obtain ⟨ex, rfl, hR, hex⟩ := hJ
      obtain ⟨tv, rfl⟩ := hP
      simp only [List.cons_append, List.nil_append] at N2
      k_steps
      unfold Stop
      (with_reducible rename Fr _ _ _ _ => F9)
      (with_reducible rename News _ _ _ _ => N9)
      (with_reducible rename IntsAre _ (List.take _ bs) => hI9)
      rename _ ∧ _ => l9
      rw [show (0 + (i : Int)).toNat = i by omega] at hI9
      exact js_end hR hex F9 N9 (fun p hp => hp) off (lt_led N9 l9) hI9 trivial
    clear F8 N8
    intro ys nw hJ
    obtain ⟨ex, rfl, hRp, hexp⟩ := hJ
    unfold PyProof.Rows.LCg.FinE
    intro Dp hp tkp FP NP oP
    simp only [List.cons_append, List.nil_append] at NP oP
    dsimp only [PyProof.Rows.LCg.Off1] at oP
    have b5 := oP.2.2.2.1
    have b6 := oP.2.2.2.2.2.2.2.2.2.2.1
    rw [← q10] at b6
    have hxR : LCg.Off1 R ex := off1_of fun p hp => (hexp p hp (R, _) (.tail _ (.tail _ (.tail _ (.head _))))).symm
    have hx3 : LCg.Off1 c3 ex := off1_of fun p hp => by rw [q10]; exact (hexp p hp (_, _) (.tail _ (.tail _ (.tail _ (.tail _ (.tail _ (.tail _ (.tail _ (.tail _ (.tail _ (.tail _ (.head _)))))))))))).symm
    clear oP
    have hpl := hRp.length
    rw [List.length_map, List.length_range] at hpl
    dsimp only
    k_steps
    unfold Stop
    (with_reducible rename Fr _ _ _ _ => FP)
    (with_reducible rename News _ _ _ _ => NP)
    refine add_rows FP NP (News.isList NP (.tail _ (.head _))) (News.isList NP (.head _)) ?_ (by show 2 + ys.length ≤ _; omega)
    clear FP NP
    intro Dq hq FQ NQ lQ
    have b7 : R ≠ Dq := Nat.ne_of_lt (lQ (R, _) (.tail _ (.tail _ (.tail _ (.tail _ (.head _))))))
    clear lQ
    dsimp only
    k_steps
    unfold Stop
    (with_reducible rename Fr _ _ _ _ => FQ)
    (with_reducible rename News _ _ _ _ => NQ)
    replace NQ := pick6 NQ
    refine iadd_list FQ NQ (.head _) (off1_mem (show LCg.Off1 R _ from ⟨b7.symm, b3.symm, b1.symm, Nat.ne_of_lt r1, Nat.ne_of_lt r2, Nat.ne_of_lt r3, Nat.ne_of_lt r4, Nat.ne_of_lt r6, Nat.ne_of_lt r7, by rw [← q10]; exact Nat.ne_of_lt r9, by rw [← q11]; exact Nat.ne_of_lt r10, by rw [← q12]; exact Nat.ne_of_lt r11, hxR⟩)) (by simp only [List.length_append, List.length_cons, List.length_nil]; omega) ?_
    clear FQ NQ
    intro hq2 nq FQ NQ
    replace NQ := drop2 NQ
    dsimp only
    k_steps
    unfold Stop
    k_dflt (refine' Ctr.use ?k1 ?k2 ?k3 ?k4 ?k5 ?kK ?kd ?ku (table_c _ _ hc9 hm9) ?_; (case k1 => k_asm); (case k2 => k_asm); (case k3 => k_asm); (case k4 => k_asm); (case k5 => k_asm); (case kK => first | exact rfl | assumption); (case kd => ktr_room); (case ku => ktr_units))
    intro v9 tl9 h9 tk9 F9 N9 hR9
    obtain ⟨TB, odT, e1, e2, hds, hTab, hofT⟩ := hR9
    subst e1
    subst e2
    replace hofT := off1_of hofT
    dsimp only [PyProof.Rows.LCg.Off1] at hofT
    have b8 := hofT.2.2.2.2.2.2.2.2.2.1
    rw [← q10] at b8
    clear hofT b1 b3 b5 b6 b7 hxR
    rename _ ∧ _ => l9
    clear l9
    replace hx3 := off1_mem hx3
    rw [q10] at hx3
    clear hexp
    simp only [List.nil_append, List.cons_append] at N9
    dsimp only
    have q10N : @Eq Nat c3 _ := q10
    k_steps
    unfold Stop
    (with_reducible rename Fr _ _ _ _ => FT)
    (with_reducible rename News _ _ _ _ => NT)
    have hRows := rows_led NT hIa hIb hIA hIO hIX hIn hIw hRp
    have hrw := rowsL_get hinA0 hinB0 hal (by omega)
    have hrl := hRows.length
    rw [rowsL_len] at hrl
    clear a1 a2 a3 a4 a5 a6 b2 b4 b8 r1 r2 r3 r4 r6 r7 r9 r10 r11 hx3 q10N q10 q11 q12 hRp
    refine PyProof.Rows.LCg.CompSrc.ledger rfl FT NT (by k_mem) (by rw [List.size_toArray, hrl, sizeLine_eq]; omega) (fun g => compRest_ind (JS _ (fun i => sx ((rowsL as bs).getD i []))) _ ?_ ?_ _ 0 (Nat.zero_add _) [] _ JS.start)
    · clear FT NT
      intro i ys9 nw hi hJ v I oI C oC D m₂ h tk E' hP hN hx F2 N2 off ne
      obtain ⟨ex2, rfl, hR, hex2⟩ := hJ
      obtain ⟨ar, vr, nr, rfl, hmr, hIr⟩ := hRows.at_ (by rw [List.getElem?_toArray] at hP; exact hP)
      have hri := hrw i
      have hmr2 : (ar, listOf vr.toArray nr) ∈ (I, oI) :: (C, oC) :: (D, LCg.lst ys9) :: (_ ++ ex2) := .tail _ (.tail _ (.tail _ (List.mem_append_left _ hmr)))
      simp only [List.cons_append] at N2 hmr2
      k_steps
      unfold Stop
      k_dflt (refine' Ctr.use ?k1 ?k2 ?k3 ?k4 ?k5 ?kK ?kd ?ku (places_c1 _ _ _ _ _ _ TB odT ?p1 hds hTab hmr2 hIr hri.1 ?p3 hc9 hm9) ?_; (case k1 => k_asm); (case k2 => k_asm); (case k3 => k_asm); (case k4 => k_asm); (case k5 => k_asm); (case kK => first | exact rfl | assumption); (case kd => ktr_room); (case ku => ktr_units))
      case p1 => k_mem
      case p3 => have := hri.2; omega
      intro v9 tl9 h9 tk9 F9 N9 hR9
      obtain ⟨l6, ys6, e1, e2, hI7, hof6⟩ := hR9
      subst e1
      subst e2
      dsimp only
      k_steps
      unfold Stop
      exact js_end hR hex2 F9 N9 (fun p hp => hp) off hof6 hI7 (.inr ⟨_, .tail _ (.head _), rfl, _, rfl⟩)
    clear FT NT
    intro ys9 nw hJ
    obtain ⟨ex2, rfl, hRf, hexf⟩ := hJ
    clear hexf
    unfold PyProof.Rows.LCg.FinA
    intro Df hf tkf FF NF oF
    clear oF
    simp only [List.cons_append] at NF
    dsimp only
    k_steps
    unfold Stop
    (with_reducible rename News _ _ _ _ => NF)
    obtain ⟨al, NG, hs1, hs2⟩ := hideF NF
    clear NF
    have hRA := hRows.mono hs1
    have hFA := hRf.mono hs2
    rw [map_sx _ _ (by rw [List.size_toArray, hrl, rowsL_len])] at hFA
    clear hs1 hs2 hRows hRf hTab hds
    have hfl := hFA.length
    rw [List.length_map, rowsL_len] at hfl
    refine wpAny_If ?_
    k_steps
    unfold Stop
    (with_reducible rename News _ _ _ _ => NG)
    refine none_in_rows NG (News.isList NG (.head _)) (hFA.mono fun p hp => .tail _ (.tail _ (.tail _ (.tail _ hp)))) (by ktr_units) ?_
    obtain ⟨f0, v0, n0, g0, m0, i0⟩ := hFA.get 0 (by rw [List.length_map, rowsL_len]; omega)
    obtain ⟨f1, v1, n1, g1, m1, i1⟩ := hFA.get 1 (by rw [List.length_map, rowsL_len]; omega)
    replace i0 : IntsAre v0 (sx as) := i0
    replace i1 : IntsAre v1 (sx bs) := i1
    k_steps
    unfold Stop
    (with_reducible rename News _ _ _ _ => NG)
    refine list_item (News.isList NG (.head _)) (by decide) (by decide) g0 ?_
    k_steps
    unfold Stop
    (with_reducible rename News _ _ _ _ => NG)
    refine list_item (News.isList NG (.head _)) (by decide) (by decide) g1 ?_
    k_steps
    unfold Stop
    (with_reducible rename Fr _ _ _ _ => FG)
    (with_reducible rename News _ _ _ _ => NG)
    refine zip_K FG NG (News.isList NG (.tail _ (.tail _ (.tail _ (.tail _ m0))))) (News.isList NG (.tail _ (.tail _ (.tail _ (.tail _ m1))))) ?_
    clear FG NG
    intro z4 h4 B4 TI4 TO4 i14 i24 F4 N4 Z4
    dsimp only
    have hx0 := i0.length
    have hx1 := i1.length
    have hab2 : (sx as).length = (sx bs).length := by rw [sx_length, sx_length, hab]
    have hsl := sx_length as
    k_steps
    unfold Stop
    (with_reducible rename Fr _ _ _ _ => F4)
    (with_reducible rename News _ _ _ _ => N4)
    refine list_zip rfl F4 N4 Z4 (by omega) (by omega) ?_
    clear F4 N4 Z4
    intro DB h5 ts2 c5 F5 N5 off5 hts2
    clear off5
    rw [hx0] at hts2
    dsimp only
    obtain ⟨al2, N6, ht1, ht2⟩ := hideT N5
    clear N5
    replace hRA := hRA.mono ht2
    replace hFA := hFA.mono ht2
    replace m0 := ht2 _ m0
    replace m1 := ht2 _ m1
    clear ht2
    k_steps
    unfold Stop
    refine wpAny_If ?_
    k_steps
    unfold Stop
    k_dflt (refine' kms_slice_lit ?sl1 ?sl2 ?sl3 ?sl4 ?sl5 ?sl6 ?_ ?sl7 ?sl8 ?sl9; (case sl1 => k_asm); (case sl2 => k_asm); (case sl4 => exact IsPart.int _ _); (case sl5 => exact IsPart.int _ _); (case sl7 => with_unfolding_all rfl); (case sl8 => (intro _; with_unfolding_all rfl)))
    case sl3 => exact News.isList (by k_asm) (.tail _ (.head _))
    case sl6 => exact pick_slice (us := ys9) (by omega)
    case sl9 => rw [List.size_toArray, hfl, sizeLine_eq]; omega
    intro DS hS FS NS lS
    clear lS
    dsimp only
    k_steps
    unfold Stop
    (with_reducible rename Fr _ _ _ _ => FP)
    k_dflt (refine LCp.ListComp_P (F₀ := FP) (by with_unfolding_all rfl) (by decide) (by rfl) (by decide) (by rfl) (by rfl) (by decide) ?_)
    k_steps
    unfold Stop
    (with_reducible rename Fr _ _ _ _ => FP)
    (with_reducible rename News _ _ _ _ => NP)
    refine LCp.SrcLP.ledger rfl FP NP (by k_mem) (by rw [List.size_toArray, List.length_map, hts2, sizeLine_eq]; omega) (fun g => compRestP_ind (Ji _ (fun i => (List.zipWith Builtin.bitAnd (sx as) (sx bs)).take i)) _ ?_ ?_ _ 0 (Nat.zero_add _) [] _ ⟨rfl, IntsAre.nil⟩)
    · clear FP NP
      intro i ys nw hi hJ v hv
      obtain ⟨rfl, hB⟩ := hJ
      obtain ⟨T, ot, a, b, t, u, rfl, hmT, hcT, hdT, ha, hb⟩ := tup_at hts2 i0 i1 hab2 hv
      (try rw [id_eq] at hmT)
      refine ⟨T, ot, _, _, _, rfl, by repeat (first | exact ht1 _ hmT | apply List.Mem.tail), hcT, hdT, ?_⟩
      intro I oI C oC D m₂ h tk E' hN hx hx2 F2 N2 off ne
      k_steps
      unfold Stop
      (with_reducible rename News _ _ _ _ => N9)
      refine PyProof.Rows.LCg.CompEnd.intro (by assumption) N9 _ (fun p hp => hp) off (.inr ⟨_, by k_mem, rfl, _, rfl⟩) ?_
      refine And.intro rfl ?_
      with_reducible exact zw_ints hB ha hb _
    clear FP NP
    intro ys nw hJ
    obtain ⟨rfl, jA⟩ := hJ
    replace jA := zw_all (by rw [List.size_toArray, List.length_map, hts2]) jA
    unfold PyProof.Rows.LCg.FinE
    intro DP hP tkP FP NP oA
    dsimp only [PyProof.Rows.LCg.Off1] at oA
    dsimp only
    clear oA
    k_steps
    unfold Stop
    (with_reducible rename Fr _ _ _ _ => FP)
    k_dflt (refine LCp.ListComp_P (F₀ := FP) (by with_unfolding_all rfl) (by decide) (by rfl) (by decide) (by rfl) (by rfl) (by decide) ?_)
    k_steps
    unfold Stop
    (with_reducible rename Fr _ _ _ _ => FP)
    (with_reducible rename News _ _ _ _ => NP)
    refine LCp.SrcLP.ledger rfl FP NP (by k_mem) (by rw [List.size_toArray, List.length_map, hts2, sizeLine_eq]; omega) (fun g => compRestP_ind (Ji _ (fun i => (List.zipWith Builtin.bitOr (sx as) (sx bs)).take i)) _ ?_ ?_ _ 0 (Nat.zero_add _) [] _ ⟨rfl, IntsAre.nil⟩)
    · clear FP NP
      intro i ys nw hi hJ v hv
      obtain ⟨rfl, hB⟩ := hJ
      obtain ⟨T, ot, a, b, t, u, rfl, hmT, hcT, hdT, ha, hb⟩ := tup_at hts2 i0 i1 hab2 hv
      (try rw [id_eq] at hmT)
      refine ⟨T, ot, _, _, _, rfl, by repeat (first | exact ht1 _ hmT | apply List.Mem.tail), hcT, hdT, ?_⟩
      intro I oI C oC D m₂ h tk E' hN hx hx2 F2 N2 off ne
      k_steps
      unfold Stop
      (with_reducible rename News _ _ _ _ => N9)
      refine PyProof.Rows.LCg.CompEnd.intro (by assumption) N9 _ (fun p hp => hp) off (.inr ⟨_, by k_mem, rfl, _, rfl⟩) ?_
      refine And.intro rfl ?_
      with_reducible exact zw_ints hB ha hb _
    clear FP NP
    intro ys nw hJ
    obtain ⟨rfl, jO⟩ := hJ
    replace jO := zw_all (by rw [List.size_toArray, List.length_map, hts2]) jO
    unfold PyProof.Rows.LCg.FinE
    intro DP hP tkP FP NP oO
    dsimp only [PyProof.Rows.LCg.Off1] at oO
    dsimp only
    clear oO
    k_steps
    unfold Stop
    (with_reducible rename Fr _ _ _ _ => FP)
    k_dflt (refine LCp.ListComp_P (F₀ := FP) (by with_unfolding_all rfl) (by decide) (by rfl) (by decide) (by rfl) (by rfl) (by decide) ?_)
    k_steps
    unfold Stop
    (with_reducible rename Fr _ _ _ _ => FP)
    (with_reducible rename News _ _ _ _ => NP)
    refine LCp.SrcLP.ledger rfl FP NP (by k_mem) (by rw [List.size_toArray, List.length_map, hts2, sizeLine_eq]; omega) (fun g => compRestP_ind (Ji _ (fun i => (List.zipWith Builtin.bitXor (sx as) (sx bs)).take i)) _ ?_ ?_ _ 0 (Nat.zero_add _) [] _ ⟨rfl, IntsAre.nil⟩)
    · clear FP NP
      intro i ys nw hi hJ v hv
      obtain ⟨rfl, hB⟩ := hJ
      obtain ⟨T, ot, a, b, t, u, rfl, hmT, hcT, hdT, ha, hb⟩ := tup_at hts2 i0 i1 hab2 hv
      (try rw [id_eq] at hmT)
      refine ⟨T, ot, _, _, _, rfl, by repeat (first | exact ht1 _ hmT | apply List.Mem.tail), hcT, hdT, ?_⟩
      intro I oI C oC D m₂ h tk E' hN hx hx2 F2 N2 off ne
      k_steps
      unfold Stop
      (with_reducible rename News _ _ _ _ => N9)
      refine PyProof.Rows.LCg.CompEnd.intro (by assumption) N9 _ (fun p hp => hp) off (.inr ⟨_, by k_mem, rfl, _, rfl⟩) ?_
      refine And.intro rfl ?_
      with_reducible exact zw_ints hB ha hb _
    clear FP NP
    intro ys nw hJ
    obtain ⟨rfl, jX⟩ := hJ
    replace jX := zw_all (by rw [List.size_toArray, List.length_map, hts2]) jX
    unfold PyProof.Rows.LCg.FinE
    intro DP hP tkP FP NP oX
    dsimp only [PyProof.Rows.LCg.Off1] at oX
    dsimp only
    clear oX
    k_steps
    unfold Stop
    (with_reducible rename News _ _ _ _ => NS)
    rename _ ∧ _ => l9
    clear l9
    have hR1 := (hFA.drop 2).take 3
    rw [faces3 hinA0 hinB0 hab] at hR1
    refine ne_rows NS (News.isList NS (.tail _ (.tail _ (.tail _ (.tail _ (.head _)))))) (News.isList NS (.head _)) (hR1.mono fun p hp => .tail _ (.tail _ (.tail _ (.tail _ (.tail _ (.tail _ (.tail _ (.tail _ (.tail _ (.tail _ (hp))))))))))) (rows3 NS jA jO jX) (by ktr_units) ?_
    replace NS := drop6 NS
    clear hR1 jA jO jX ht1
    obtain ⟨f5, v5, n5, g5, m5, i5⟩ := hFA.get 5 (by rw [List.length_map, rowsL_len]; omega)
    obtain ⟨f6, v6, n6, g6, m6, i6⟩ := hFA.get 6 (by rw [List.length_map, rowsL_len]; omega)
    replace i5 : IntsAre v5 (sx (as.map fun a => 255 - a)) := i5
    replace i6 : IntsAre v6 (sx ((thr as).reverse.map (revB 8))) := i6
    k_steps
    unfold Stop
    refine wpAny_If ?_
    k_steps
    unfold Stop
    (with_reducible rename News _ _ _ _ => NS)
    refine list_item (News.isList NS (.head _)) (by decide) (by decide) g5 ?_
    k_steps
    unfold Stop
    (with_reducible rename News _ _ _ _ => NS)
    refine list_item (News.isList NS (.head _)) (by decide) (by decide) g0 ?_
    k_steps
    unfold Stop
    k_dflt (refine' Ctr.use ?k1 ?k2 ?k3 ?k4 ?k5 ?kK ?kd ?ku (opposite_c f0 v0 n0 (sx as) _ _ ?op1 i0 ?op2 ?op3 ?op4 ?op5) ?_; (case k1 => k_asm); (case k2 => k_asm); (case k3 => k_asm); (case k4 => k_asm); (case k5 => k_asm); (case kK => first | exact rfl | assumption); (case kd => ktr_room); (case ku => ktr_units))
    case op1 => exact .tail _ (.tail _ (.tail _ (.tail _ m0)))
    case op2 => omega
    case op3 => omega
    case op4 => omega
    case op5 => omega
    intro v9 tl9 h9 tk9 F9 N9 hR9
    obtain ⟨lo, yo, ko, e1, e2, hIo, hofo⟩ := hR9
    subst e1
    subst e2
    clear hofo
    simp only [List.nil_append, List.cons_append] at N9
    dsimp only
    k_steps
    unfold Stop
    (with_reducible rename News _ _ _ _ => NS)
    refine ne_ints (us := yo.toList) (News.isList NS (.tail _ (.tail _ (.tail _ (.tail _ (.tail _ m5)))))) (News.isList NS (.head _)) i5 hIo (opposite_law hinA0 (List.ne_nil_of_length_pos hap)) (by ktr_units) ?_
    replace NS := drop1 NS
    clear hIo i5 g5 m5
    k_steps
    unfold Stop
    refine wpAny_If ?_
    k_steps
    unfold Stop
    (with_reducible rename News _ _ _ _ => NS)
    refine list_item (News.isList NS (.head _)) (by decide) (by decide) g6 ?_
    k_steps
    unfold Stop
    (with_reducible rename News _ _ _ _ => NS)
    refine list_item (News.isList NS (.head _)) (by decide) (by decide) g0 ?_
    k_steps
    unfold Stop
    have hx4 : ∀ n : Nat, 0 ≤ (n : Int).fdiv 3 * 4 := fun n => by rw [Int.fdiv_eq_ediv_of_nonneg _ (by decide)]; omega
    refine tail_temp (x := Str.ofString "faces") (px := default) ?_
    k_dflt (refine' kmk_slice_ints ?tl1 ?tl2 ?tl3 ?tl4 ?tl5 ?tl6 ?tl7 ?tl8 ?_ ?tl9 ?tl10 ?tl11; (case tl1 => k_asm); (case tl2 => k_asm); (case tl4 => exact IsPart.none); (case tl5 => exact IsPart.int _ _); (case tl6 => exact i0); (case tl7 => exact kmk_upto i0 (hx4 _)); (case tl8 => exact rfl); (case tl9 => with_unfolding_all rfl); (case tl10 => (intro _; with_unfolding_all rfl)))
    case tl3 => exact News.isList (by k_asm) (.tail _ (.tail _ (.tail _ (.tail _ m0))))
    case tl11 => rw [List.size_toArray, hx0, sizeLine_eq]; omega
    intro D7 w7 h7 F7 N7 l7 hI7 _ hL7
    clear l7
    dsimp only
    k_steps
    unfold Stop
    k_dflt (refine' Ctr.use ?k1 ?k2 ?k3 ?k4 ?k5 ?kK ?kd ?ku (backwards_c _ _ _ _ _ _ ?bp1 hI7 ?bp3 ?bp4 ?bp5) ?_; (case k1 => k_asm); (case k2 => k_asm); (case k3 => k_asm); (case k4 => k_asm); (case k5 => k_asm); (case kK => first | exact rfl | assumption); (case kd => ktr_room); (case ku => ktr_units))
    case bp1 => exact .head _
    case bp3 => omega
    case bp4 => decide
    case bp5 => decide
    intro v9 tl9 h9 tk9 F9 N9 hR9
    obtain ⟨lb, yb, kb, e1, e2, hIb6, hofb⟩ := hR9
    subst e1
    subst e2
    clear hofb
    simp only [List.nil_append, List.cons_append] at N9
    dsimp only
    k_steps
    unfold Stop
    (with_reducible rename News _ _ _ _ => NS)
    refine ne_ints (us := yb.toList) (News.isList NS (.tail _ (.tail _ (.tail _ (.tail _ (.tail _ (.tail _ (m6)))))))) (News.isList NS (.head _)) i6 hIb6 (by rw [back_x]; exact back_face hinA0) (by ktr_units) ?_
    replace NS := drop1 (drop1 NS)
    clear hIb6 i6 g6 m6 hI7 hL7
    k_steps
    unfold Stop
    (with_reducible rename Fr _ _ _ _ => FL)
    with_unfolding_all refine' For_invVF FL ?fl1 ?fl2 ?_
    case fl1 => exact rfl
    case fl2 => exact rfl
    k_steps
    (with_reducible rename Fr _ _ _ _ => FL)
    (with_reducible rename News _ _ _ _ => NL)
    refine len_any (News.isList NL (.tail _ (.tail _ (.head _)))) hrl (by omega) ?_
    intro t9 k9
    k_steps
    unfold Stop
    (with_reducible rename Fr _ _ _ _ => FL)
    (with_reducible rename News _ _ _ _ => NL)
    refine kll_range (n := bs.length) rfl FL NL (by assumption) (small_up (by omega) (by omega) (by omega) (by omega)) (by rw [rangeSize_one]; omega) (by omega) ?_
    clear FL NL
    intro DR uR cR hR tkR FR NR lR hIR
    clear lR
    dsimp only
    have huR := hIR.length
    rw [rangeKs_length] at huR
    k_steps
    unfold Stop
    (with_reducible rename Fr _ _ _ _ => FR)
    (with_reducible rename News _ _ _ _ => NR)
    refine add_rows FR NR (News.isList NR (.tail _ (.head _))) (News.isList NR (.head _)) ?_ (by show 1 + uR.length ≤ _; omega)
    clear FR NR
    intro DA hA FA NA lA
    clear lA
    dsimp only
    rename _ ∧ _ => l9
    clear l9
    k_steps
    unfold Stop
    (with_reducible rename Fr _ _ _ _ => FA)
    (with_reducible rename News _ _ _ _ => NA)
    with_unfolding_all refine' kst_listL (σ := Unit) (ns := 1 :: rangeKs 7 bs.length) (fun _ => _) (fun _ => []) (fun _ => True) [] (fun _ _ => True) () (by rfl) (fun _ => .head _) (IntsAre.cons _ _ hIR) FA NA trivial ?lk1 ?lk2 ?_ ?_
    case lk1 => kst_all
    case lk2 => trivial
    · clear FA NA
      rintro _ pre post k tx u' h tk own he hm hoff _ _ F1 N1
      dsimp only at *
      have hk : 1 ≤ k ∧ k < 7 + (bs.length : Int) := by
        rcases List.mem_cons.mp hm with rfl | hm
        · omega
        · obtain ⟨j, hj, e⟩ := List.mem_map.mp hm
          have := List.mem_range.mp hj
          omega
      obtain ⟨ak, vk, nk, gk, mk, ik⟩ := hRA.get k.toNat (by rw [rowsL_len]; omega)
      obtain ⟨bk, wk, nk2, gk2, mk2, jk⟩ := hFA.get k.toNat (by rw [List.length_map, rowsL_len]; omega)
      rw [getD_sx] at jk
      have hrk := (hrw k.toNat).1
      have eL := sx_lt as _ hinA0 hrk
      have eE : decide (sx as = sx ((rowsL as bs).getD k.toNat [])) = decide (as = (rowsL as bs).getD k.toNat []) := decide_eq_decide.mpr (sx_eq hinA0 hrk)
      generalize hbL : ltL as ((rowsL as bs).getD k.toNat []) = bL at eL
      generalize hbE : decide (as = (rowsL as bs).getD k.toNat []) = bE at eE
      clear he hm
      k_steps
      unfold Stop
      refine wpAny_If ?_
      have hk0 : 0 ≤ k := by omega
      have hk9 : k < 2 ^ 63 := by omega
      simp only [List.cons_append, List.nil_append] at N1
      k_steps
      unfold Stop
      (with_reducible rename News _ _ _ _ => N9)
      refine list_item (News.isList N9 (.tail _ (.tail _ (.tail _ (.tail _ (.head _)))))) hk0 hk9 gk ?_
      k_steps
      unfold Stop
      (with_reducible rename News _ _ _ _ => N9)
      refine lt_to (News.isList N9 (.tail _ (.tail _ (.tail _ (.tail _ (.tail _ (.tail _ (.head _)))))))) (News.isList N9 (.tail _ (.tail _ (.tail _ (.tail _ (.tail _ (.tail _ (.tail _ (List.mem_append_left _ mk))))))))) hIa ik hbL (by ktr_units) ?_
      k_steps
      unfold Stop
      (with_reducible rename News _ _ _ _ => N9)
      refine list_item (News.isList N9 (.tail _ (.tail _ (.tail _ (.head _))))) (by decide) (by decide) g0 ?_
      k_steps
      unfold Stop
      (with_reducible rename News _ _ _ _ => N9)
      refine list_item (News.isList N9 (.tail _ (.tail _ (.tail _ (.head _))))) hk0 hk9 gk2 ?_
      k_steps
      unfold Stop
      (with_reducible rename News _ _ _ _ => N9)
      refine lt_to (News.isList N9 (.tail _ (.tail _ (.tail _ (.tail _ (.tail _ (.tail _ (.tail _ (List.mem_append_left _ m0))))))))) (News.isList N9 (.tail _ (.tail _ (.tail _ (.tail _ (.tail _ (.tail _ (.tail _ (List.mem_append_left _ mk2))))))))) i0 jk eL (by ktr_units) ?_
      k_steps
      all_goals (try unfold Stop)
      (with_reducible rename News _ _ _ _ => N9)
      refine list_item (News.isList N9 (.tail _ (.tail _ (.tail _ (.tail _ (.head _)))))) hk0 hk9 gk ?_
      k_steps
      unfold Stop
      (with_reducible rename News _ _ _ _ => N9)
      refine eq_to (News.isList N9 (.tail _ (.tail _ (.tail _ (.tail _ (.tail _ (.tail _ (.head _)))))))) (News.isList N9 (.tail _ (.tail _ (.tail _ (.tail _ (.tail _ (.tail _ (.tail _ (List.mem_append_left _ mk))))))))) hIa ik hbE (by ktr_units) ?_
      k_steps
      unfold Stop
      (with_reducible rename News _ _ _ _ => N9)
      refine list_item (News.isList N9 (.tail _ (.tail _ (.tail _ (.head _))))) (by decide) (by decide) g0 ?_
      k_steps
      unfold Stop
      (with_reducible rename News _ _ _ _ => N9)
      refine list_item (News.isList N9 (.tail _ (.tail _ (.tail _ (.head _))))) hk0 hk9 gk2 ?_
      k_steps
      unfold Stop
      (with_reducible rename News _ _ _ _ => N9)
      refine eq_to (News.isList N9 (.tail _ (.tail _ (.tail _ (.tail _ (.tail _ (.tail _ (.tail _ (List.mem_append_left _ m0))))))))) (News.isList N9 (.tail _ (.tail _ (.tail _ (.tail _ (.tail _ (.tail _ (.tail _ (List.mem_append_left _ mk2))))))))) i0 jk eE (by ktr_units) ?_
      repeat' (first | ((with_reducible show InvEndN _ _ _ _ _ _ _); refine Stop.go ?_) | (k_unfold; (try dsimp only)) | (k_end; kc_close) | walk1 | (dsimp only; walk1) | (leave1; (try dsimp only)) | fail "no step")
      all_goals (try unfold Stop)
      (with_reducible rename Fr _ _ _ _ => F9)
      (with_reducible rename News _ _ _ _ => N9)
      exact kst_end () F9 N9 trivial (by kst_all) (fun z h1 h2 _ => by simp [h1, kstB]) trivial rfl
    · clear FA NA
      rintro _ u' h tk _ _ F1 N1
      dsimp only at *
      k_steps)
end
end Mine
end

set_option maxRecDepth 100000 in
theorem PySem.Challenge.cw_ki0008_01_holds : PySem.Challenge.rw_ki0008_01.Holds :=
  Mine.law1
