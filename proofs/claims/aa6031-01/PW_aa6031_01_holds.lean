import PyProof.Rows.All
import Wide.All
import OpenK.AllK
import Wide.FinOn
import Lean
import PySem.Challenge.RW_aa6031_01
open PySem PySem.W PyProof.Rows PySem.Calls
open Sem (wp)
open AutoSeq1 (wpAny_loadPart')
set_option Elab.async false

-- Hd
namespace Mine
set_option maxRecDepth 100000
set_option maxRecDepth 100000 in
set_option maxHeartbeats 8000000 in
open_top hd for PySem.Challenge.rw_aa6031_01
end Mine

-- Ctr
namespace Mine
set_option maxRecDepth 100000

/-- a call of the def at 'f': from any def's frame, over any ledger that holds what 'news' names, it ends with 'R', all as it was -/
noncomputable def Ctr (w : World) (f : Addr) (depth : Nat) (news : List (Addr × Obj)) (vs : List Value) (R : Tok → Value) : Prop :=
  ∀ (loose : List Str) (mean : ExcName → Option Value) (mg mb : Str → Option Value) (dp un : Nat) (gd : Option (List Code)) (cn : Str) (cs : Scope) (a : Addr) (ccd : Value) (cl : List (Str × Addr)) (outer : List Env) (A₀ : Around) (base h₀ : Heap) (L : Addr) (m : Str → Option Value) (s : Shared) (Q E : Value → Shared → Prop),
    Below A₀ base outer h₀ → Fr h₀ L s.heap m → (hd.heap_39 w.params).In h₀ → News h₀ L s.heap news → Top hd.view_39 loose mean mg mb h₀ → cs.kind = .function →
    dp + depth < recursionLimit → un + 8 * depth < cLine →
    (∀ (t : Tok) (h' : Heap) (tk' : Nat), Fr h₀ L h' m → News h₀ L h' news → Q (R t) { s with heap := h', toks := tk' }) →
    wpAny (model PySem.Challenge.rw_aa6031_01.row.prog w) (ktrTop dp un gd cn cs L a ccd cl outer) (call (.ref f) vs) Q E s

theorem Ctr.use {w : World} {f : Addr} {depth : Nat} {news : List (Addr × Obj)} {vs : List Value} {R : Tok → Value}
  {loose : List Str} {mean : ExcName → Option Value} {mg mb : Str → Option Value} {dp un : Nat} {gd : Option (List Code)} {cn : Str} {cs : Scope} {a : Addr} {ccd : Value} {cl : List (Str × Addr)} {outer : List Env} {A₀ : Around} {base h₀ : Heap} {L : Addr} {m : Str → Option Value} {s : Shared} {Q E : Value → Shared → Prop}
  (B : Below A₀ base outer h₀) (F : Fr h₀ L s.heap m) (X : (hd.heap_39 w.params).In h₀) (N : News h₀ L s.heap news) (T : Top hd.view_39 loose mean mg mb h₀) (hk : cs.kind = .function)
  (C : Ctr w f depth news vs R) (hd' : dp + depth < recursionLimit) (hu : un + 8 * depth < cLine)
  (ret : ∀ (t : Tok) (h' : Heap) (tk' : Nat), Fr h₀ L h' m → News h₀ L h' news → Q (R t) { s with heap := h', toks := tk' }) :
    wpAny (model PySem.Challenge.rw_aa6031_01.row.prog w) (ktrTop dp un gd cn cs L a ccd cl outer) (call (.ref f) vs) Q E s :=
  C _ _ _ _ _ _ _ _ _ _ _ _ _ _ _ _ _ _ _ _ _ B F X N T hk hd' hu ret

theorem news_cons {h₀ h : Heap} {L : Addr} {news : List (Addr × Obj)} {p : Addr × Obj} (N : News h₀ L h news) (hm : p ∈ news) : News h₀ L h (p :: news) :=
  fun q hq => N q (by rcases List.mem_cons.mp hq with rfl | hq; exact hm; exact hq)
theorem news_tail {h₀ h : Heap} {L : Addr} {news : List (Addr × Obj)} {p : Addr × Obj} (N : News h₀ L h (p :: news)) : News h₀ L h news :=
  fun q hq => N q (List.mem_cons_of_mem _ hq)

theorem news_tail2 {h₀ h : Heap} {L : Addr} {news own : List (Addr × Obj)} {p : Addr × Obj} (N : News h₀ L h (p :: (news ++ own))) : News h₀ L h news :=
  fun q hq => N q (List.mem_cons_of_mem _ (List.mem_append.mpr (.inl hq)))

end Mine

-- Spec
namespace Mine
set_option maxRecDepth 100000

noncomputable def mark (d : Nat) : Nat := if d < 10 then 48 + d else 55 + d
noncomputable def hexCodes (n : Nat) : List Nat := if _h : n = 0 then [] else hexCodes (n / 16) ++ [mark (n % 16)]
decreasing_by omega
theorem hexCodes_zero : hexCodes 0 = [] := by rw [hexCodes]; simp
theorem hexCodes_pos {n : Nat} (h : n ≠ 0) : hexCodes n = hexCodes (n / 16) ++ [mark (n % 16)] := by rw [hexCodes]; simp [h]
theorem hexCodes_len (k : Nat) : ∀ n, n < 16 ^ k → (hexCodes n).length ≤ k := by
  induction k with
  | zero => intro n h; have : n = 0 := by simpa using h
            subst this; rw [hexCodes_zero]; simp
  | succ k ih =>
    intro n h
    by_cases h0 : n = 0
    · subst h0; rw [hexCodes_zero]; simp
    · rw [hexCodes_pos h0, List.length_append]
      have := ih (n / 16) (by rw [Nat.pow_succ] at h; omega)
      simp; omega
/-- the law's own text of a number that is 0 or more -/
noncomputable def hexS (n : Int) : Str := if n = 0 then Str.ofString "0" else ⟨(hexCodes n.toNat).toArray⟩

theorem item_marks {k : Int} (h0 : 0 ≤ k) : Txt.item (Str.ofString "0123456789ABCDEF") (k.fmod 16) = ⟨#[mark (k.toNat % 16)]⟩ := by
  have e : k.fmod 16 = ((k.toNat % 16 : Nat) : Int) := by
    rw [Int.fmod_eq_emod_of_nonneg _ (by decide)]; omega
  rw [e]
  have hl : k.toNat % 16 < 16 := by omega
  exact (show ∀ d, d < 16 → Txt.item (Str.ofString "0123456789ABCDEF") ((d : Nat) : Int) = ⟨#[mark d]⟩ by decide +kernel) _ hl

structure HexInv (n : Int) (told : Str) (number : Int) : Prop where
  lo : 0 ≤ number
  eq : hexCodes n.toNat = hexCodes number.toNat ++ told.cps.toList
theorem HexInv.start {n : Int} (h : 0 ≤ n) : HexInv n (Str.ofString "") n := ⟨h, by
  have : (Str.ofString "").cps.toList = [] := by decide +kernel
  rw [this, List.append_nil]⟩
theorem HexInv.step {n number : Int} {told : Str} (h : HexInv n told number) (hp : 0 < number) : HexInv n (Txt.item (Str.ofString "0123456789ABCDEF") (number.fmod 16) ++ told) (number.fdiv 16) := by
  have e : number.fdiv 16 = ((number.toNat / 16 : Nat) : Int) := by
    rw [Int.fdiv_eq_ediv_of_nonneg _ (by decide)]; omega
  refine ⟨by omega, ?_⟩
  rw [item_marks h.lo, e, h.eq, hexCodes_pos (n := number.toNat) (by omega), Int.toNat_natCast]
  show _ = _ ++ (#[mark (number.toNat % 16)] ++ told.cps).toList
  simp
theorem HexInv.len {n number : Int} {told : Str} (h : HexInv n told number) (h1 : n < 2 ^ 80) : told.length ≤ 20 := by
  have e := congrArg List.length h.eq
  rw [List.length_append] at e
  have := hexCodes_len 20 n.toNat (by
    have : (2 : Int) ^ 80 = 1208925819614629174706176 := by decide
    have : 16 ^ 20 = 1208925819614629174706176 := by decide
    omega)
  have e2 : told.cps.toList.length = told.length := by simp [Str.length]
  omega
theorem HexInv.less {number : Int} (hp : 0 < number) : (number.fdiv 16).toNat < number.toNat := by
  have e : number.fdiv 16 = ((number.toNat / 16 : Nat) : Int) := by
    rw [Int.fdiv_eq_ediv_of_nonneg _ (by decide)]; omega
  rw [e]; omega
theorem HexInv.some {n number : Int} {told : Str} (h : HexInv n told number) (hp : ¬ 0 < number) (hne : told ≠ Str.ofString "") : told = hexS n := by
  have e := h.eq
  have h0 : number.toNat = 0 := by omega
  rw [h0, hexCodes_zero, List.nil_append] at e
  have hn : n ≠ 0 := by
    intro h9
    rw [h9] at e
    have e : ([] : List Nat) = told.cps.toList := by rw [← e]; exact hexCodes_zero.symm
    apply hne
    have : told.cps = #[] := by
      apply Array.toList_inj.mp; rw [← e]
    cases told; simp only at this; rw [this]; decide +kernel
  rw [hexS, if_neg hn, e]
theorem HexInv.none {n number : Int} {told : Str} (h : HexInv n told number) (hn : 0 ≤ n) (hp : ¬ 0 < number) (hne : told = Str.ofString "") : Str.ofString "0" = hexS n := by
  have e := h.eq
  have h0 : number.toNat = 0 := by omega
  have h2 : (Str.ofString "").cps.toList = [] := by decide +kernel
  rw [h0, hexCodes_zero, List.nil_append, hne, h2] at e
  by_cases h9 : n = 0
  · rw [hexS, if_pos h9]
  · rw [hexCodes_pos (by omega)] at e
    simp at e

noncomputable def bitStep (sign place : Int) (seats : List Int) (bit : Int) : List Int :=
  if Builtin.bitAnd (sign.fdiv (2 ^ bit.toNat)) 1 = 1 then
    if 15 ≤ place + bit then seats.set (place + bit - 15).toNat (1 - seats.getD (place + bit - 15).toNat 0)
    else seats.set (place + bit).toNat (1 - seats.getD (place + bit).toNat 0)
  else seats
noncomputable def outF (ns : List Int) : Nat → List Int
  | 0 => List.replicate 64 0
  | k + 1 => (rangeKs 0 15).foldl (bitStep (ns.getD k 0) (1 + (k : Int))) (outF ns k)
structure OutInv (ns pre seats : List Int) : Prop where
  eq : seats = outF ns pre.length
structure InnInv (ns : List Int) (place : Int) (pre seats : List Int) : Prop where
  eq : seats = pre.foldl (bitStep (ns.getD (place - 1).toNat 0) place) (outF ns (place - 1).toNat)
noncomputable def totStep (seats : List Int) (t k : Int) : Int := if seats.getD k.toNat 0 = 1 then t + 2 ^ k.toNat else t
noncomputable def totF (seats pre : List Int) : Int := pre.foldl (totStep seats) 0
structure TotInv (seats pre : List Int) (total : Int) : Prop where
  eq : total = totF seats pre
noncomputable def bitsI (ns : List Int) : Int := Builtin.bitXor (Builtin.bitXor (totF (outF ns ns.length) (rangeKs 0 64)) ns.length) 52811

theorem out_start {ns seats : List Int} (h : seats = List.replicate 64 0) : OutInv ns [] seats ∧ seats.length = 64 := ⟨⟨h⟩, by rw [h, List.length_replicate]⟩
theorem inn_start {ns pre seats : List Int} {k : Int} (h : OutInv ns pre seats) (hl : seats.length = 64) (hk : k = 1 + (pre.length : Int)) : InnInv ns k [] seats ∧ seats.length = 64 := by
  refine ⟨⟨?_⟩, hl⟩
  have e : (k - 1).toNat = pre.length := by omega
  rw [List.foldl_nil, e]; exact h.eq
theorem inn_set1 {ns pre seats : List Int} {p k : Int} (h : InnInv ns p pre seats) (hl : seats.length = 64) (hb : Builtin.bitAnd ((ns.getD (p - 1).toNat 0).fdiv (2 ^ k.toNat)) 1 = 1) (hc : 15 ≤ p + k) :
    InnInv ns p (pre ++ [k]) (seats.set (p + k - 15).toNat (1 - seats.getD (p + k - 15).toNat 0)) ∧ (seats.set (p + k - 15).toNat (1 - seats.getD (p + k - 15).toNat 0)).length = 64 := by
  refine ⟨⟨?_⟩, by rw [List.length_set]; exact hl⟩
  rw [List.foldl_append, ← h.eq, List.foldl_cons, List.foldl_nil, bitStep, if_pos hb, if_pos hc]
theorem inn_set2 {ns pre seats : List Int} {p k : Int} (h : InnInv ns p pre seats) (hl : seats.length = 64) (hb : Builtin.bitAnd ((ns.getD (p - 1).toNat 0).fdiv (2 ^ k.toNat)) 1 = 1) (hc : ¬ 15 ≤ p + k) :
    InnInv ns p (pre ++ [k]) (seats.set (p + k).toNat (1 - seats.getD (p + k).toNat 0)) ∧ (seats.set (p + k).toNat (1 - seats.getD (p + k).toNat 0)).length = 64 := by
  refine ⟨⟨?_⟩, by rw [List.length_set]; exact hl⟩
  rw [List.foldl_append, ← h.eq, List.foldl_cons, List.foldl_nil, bitStep, if_pos hb, if_neg hc]
theorem inn_skip {ns pre seats : List Int} {p k : Int} (h : InnInv ns p pre seats) (hl : seats.length = 64) (hb : Builtin.bitAnd ((ns.getD (p - 1).toNat 0).fdiv (2 ^ k.toNat)) 1 ≠ 1) :
    InnInv ns p (pre ++ [k]) seats ∧ seats.length = 64 := by
  refine ⟨⟨?_⟩, hl⟩
  rw [List.foldl_append, ← h.eq, List.foldl_cons, List.foldl_nil, bitStep, if_neg hb]
theorem out_step {ns pre seats : List Int} {k : Int} (h : InnInv ns k (rangeKs 0 ((15 : Int) - 0).toNat) seats) (hl : seats.length = 64) (hk : k = 1 + (pre.length : Int)) : OutInv ns (pre ++ [k]) seats ∧ seats.length = 64 := by
  refine ⟨⟨?_⟩, hl⟩
  have e : (k - 1).toNat = pre.length := by omega
  have h := h.eq
  rw [e, hk] at h
  rw [List.length_append, List.length_singleton, outF]
  exact h
theorem tot_start {seats : List Int} : TotInv seats [] 0 ∧ (0 : Int) ≤ 0 := ⟨⟨rfl⟩, Int.le_refl 0⟩
theorem tot_add {seats pre : List Int} {t k : Int} (h : TotInv seats pre t) (h0 : 0 ≤ t) (hb : seats.getD k.toNat 0 = 1) : TotInv seats (pre ++ [k]) (t + 2 ^ k.toNat) ∧ 0 ≤ t + 2 ^ k.toNat := by
  refine ⟨⟨?_⟩, ?_⟩
  · rw [totF, List.foldl_append, List.foldl_cons, List.foldl_nil, totStep, if_pos hb, ← totF, ← h.eq]
  · have := Int.pow_pos (n := 2) (m := k.toNat) (by decide)
    omega
theorem tot_skip {seats pre : List Int} {t k : Int} (h : TotInv seats pre t) (h0 : 0 ≤ t) (hb : seats.getD k.toNat 0 ≠ 1) : TotInv seats (pre ++ [k]) t ∧ 0 ≤ t := by
  refine ⟨⟨?_⟩, h0⟩
  rw [totF, List.foldl_append, List.foldl_cons, List.foldl_nil, totStep, if_neg hb, ← totF, ← h.eq]
theorem bits_done {ns seats : List Int} {t : Int} (h : OutInv ns (rangeKs 1 ((ns.length : Int) + 1 - 1).toNat) seats) (h2 : TotInv seats (rangeKs 0 ((64 : Int) - 0).toNat) t) : Builtin.bitXor (Builtin.bitXor t ns.length) 52811 = bitsI ns := by
  have h := h.eq
  have e : ((ns.length : Int) + 1 - 1).toNat = ns.length := by omega
  rw [e, rangeKs_length] at h
  have h2 := h2.eq
  rw [h2, h]; rfl

noncomputable def textS (ns : List Int) : Str := ⟨(ns.map Int.toNat).toArray⟩
theorem str_empty : Str.ofString "" = ⟨#[]⟩ := by decide +kernel
theorem join_text (ns : List Int) : Txt.join (Str.ofString "") (ns.map fun a => (⟨#[a.toNat]⟩ : Str)) = textS ns := by
  show Builtin.Str.glued _ _ = _
  rw [StrLaws.glued_eq_join, str_empty]
  match ns with
  | [] => rfl
  | n :: ns =>
    induction ns generalizing n with
    | nil => rfl
    | cons m r ih =>
      have ih := ih m
      simp only [List.map_cons] at ih ⊢
      have e : ∀ (x y : Str) (l : List Str), Str.join ⟨#[]⟩ (x :: y :: l) = x ++ ⟨#[]⟩ ++ Str.join ⟨#[]⟩ (y :: l) := fun _ _ _ => rfl
      rw [e, ih]
      show (⟨#[n.toNat] ++ #[] ++ ((m :: r).map Int.toNat).toArray⟩ : Str) = _
      simp [textS]

noncomputable def hashStep (i c : Int) : Int := Builtin.bitOr (Builtin.bitAnd (c * 2 ^ i.toNat) 32767) ((c * 2 ^ i.toNat).fdiv (2 ^ 15))
noncomputable def hashF (pre : List Int) : Int := pre.zipIdx.foldl (fun a p => Builtin.bitXor a (hashStep ((p.2 : Int) + 1) p.1)) 0
structure HashInv (pre : List Int) (pw : Int) : Prop where
  eq : pw = hashF pre
theorem hash_start : HashInv [] 0 := ⟨rfl⟩
theorem hash_step {pre : List Int} {pw c : Int} (h : HashInv pre pw) : HashInv (pre ++ [c]) (Builtin.bitXor pw (Builtin.bitOr (Builtin.bitAnd (c * 2 ^ ((pre.length : Int) + 1).toNat) 32767) ((c * 2 ^ ((pre.length : Int) + 1).toNat).fdiv (2 ^ Int.toNat 15)))) := by
  refine ⟨?_⟩
  rw [hashF, List.zipIdx_append, List.foldl_append, ← hashF, ← h.eq]
  simp only [List.zipIdx_cons, List.zipIdx_nil, List.foldl_cons, List.foldl_nil, Nat.zero_add]
  rfl
theorem enum_bnd {x : Str} {pre post : List Int} {n : Nat} (hb : ∀ c ∈ x.cps.toList, c < 32768) (hl : x.length ≤ 63) (h : KStt.codes x = pre ++ (n : Int) :: post) : n < 32768 ∧ pre.length < 63 := by
  constructor
  · have hm : (n : Int) ∈ KStt.codes x := by rw [h]; simp
    obtain ⟨c, hc, e⟩ := List.mem_map.mp hm
    have := hb c hc
    omega
  · have e := congrArg List.length h
    rw [KStt.codes_length, List.length_append, List.length_cons] at e
    omega

end Mine

-- Pure
namespace Mine
set_option maxRecDepth 100000

theorem nat_xor_add_and (m : Nat) : ∀ n : Nat, (m ^^^ n) + 2 * (m &&& n) = m + n := by
  induction m using Nat.strongRecOn with
  | ind m ih =>
    intro n
    by_cases h0 : m = 0
    · subst h0; simp
    · have ih' := ih (m / 2) (by omega) (n / 2)
      rw [← Nat.xor_div_two, ← Nat.and_div_two] at ih'
      have o1 := @Nat.xor_mod_two_eq_one m n
      have a1 := @Nat.and_mod_two_eq_one m n
      have o2 := Nat.mod_two_eq_zero_or_one (m ^^^ n)
      have a2 := Nat.mod_two_eq_zero_or_one (m &&& n)
      have m2 := Nat.mod_two_eq_zero_or_one m
      have n2 := Nat.mod_two_eq_zero_or_one n
      omega
theorem bAnd (a b : Nat) : Builtin.bitAnd a b = ((a &&& b : Nat) : Int) := by
  rw [bitAnd_pp (by omega) (by omega)]; simp
theorem bOr (a b : Nat) : Builtin.bitOr a b = ((a ||| b : Nat) : Int) := by
  rw [bitOr_and, bAnd]
  have := nat_or_add_and a b
  omega
theorem bXor (a b : Nat) : Builtin.bitXor a b = ((a ^^^ b : Nat) : Int) := by
  rw [bitXor_and, bAnd]
  have := nat_xor_add_and a b
  omega
theorem fdivN (a b : Nat) : (a : Int).fdiv (b : Int) = ((a / b : Nat) : Int) := by
  rw [Int.fdiv_eq_ediv_of_nonneg _ (by omega)]; simp
theorem powN (k : Nat) : ((2 : Int) ^ k) = ((2 ^ k : Nat) : Int) := by simp

noncomputable def stepN (p c : Nat) : Nat := (c * 2 ^ p) % 2 ^ 15 ||| (c * 2 ^ p) / 2 ^ 15
theorem hashStep_cast (p c : Nat) : hashStep (p : Int) (c : Int) = (stepN p c : Int) := by
  rw [hashStep, Int.toNat_natCast, powN, ← Int.natCast_mul, powN 15, fdivN]
  have e : (32767 : Int) = ((2 ^ 15 - 1 : Nat) : Int) := by decide
  rw [e, bAnd, bOr, Nat.and_two_pow_sub_one_eq_mod, stepN]
theorem stepN_bit (p c j : Nat) : (stepN p c).testBit j = ((decide (j < 15) && (decide (p ≤ j) && c.testBit (j - p))) || (decide (p ≤ j + 15) && c.testBit (j + 15 - p))) := by
  rw [stepN, Nat.testBit_or, Nat.testBit_mod_two_pow, Nat.testBit_div_two_pow, Nat.testBit_mul_two_pow, Nat.testBit_mul_two_pow]

noncomputable def HF (p : Nat) : List Nat → Nat
  | [] => 0
  | c :: cs => stepN p c ^^^ HF (p + 1) cs
theorem HF_snoc (c : Nat) : ∀ (cs : List Nat) (p : Nat), HF p (cs ++ [c]) = HF p cs ^^^ stepN (p + cs.length) c
  | [], p => by simp [HF]
  | d :: cs, p => by
    rw [List.cons_append, HF, HF_snoc c cs, HF, Nat.xor_assoc, List.length_cons]
    congr 3; omega
abbrev up (cs : List Nat) : List Int := cs.map fun (c : Nat) => (c : Int)
theorem hashF_go : ∀ (cs : List Nat) (k a : Nat), ((up cs).zipIdx k).foldl (fun a p => Builtin.bitXor a (hashStep ((p.2 : Int) + 1) p.1)) (a : Int) = ((a ^^^ HF (k + 1) cs : Nat) : Int)
  | [], k, a => by simp [HF]
  | c :: cs, k, a => by
    show List.foldl _ _ (((c : Int) :: up cs).zipIdx k) = _
    rw [List.zipIdx_cons, List.foldl_cons]
    have e : ((k : Int) + 1) = ((k + 1 : Nat) : Int) := by simp
    simp only [e, hashStep_cast, bXor]
    rw [hashF_go cs (k + 1), HF, Nat.xor_assoc]
theorem hashF_cast (cs : List Nat) : hashF (up cs) = (HF 1 cs : Int) := by
  have := hashF_go cs 0 0
  rw [Nat.zero_xor] at this
  exact this
theorem stepN_lt {p c : Nat} (hc : c < 2 ^ 15) (hp : p ≤ 63) : stepN p c < 2 ^ 64 := by
  refine Nat.or_lt_two_pow (Nat.lt_of_lt_of_le (Nat.mod_lt _ (by decide)) (by decide)) ?_
  rw [Nat.div_lt_iff_lt_mul (by decide)]
  have h1 : c * 2 ^ p < 2 ^ 15 * 2 ^ 63 := Nat.lt_of_lt_of_le (Nat.mul_lt_mul_of_pos_right hc (Nat.pow_pos (by decide))) (Nat.mul_le_mul_left _ (Nat.pow_le_pow_right (by decide) hp))
  omega
theorem HF_lt : ∀ (cs : List Nat) (p : Nat), (∀ c ∈ cs, c < 2 ^ 15) → p + cs.length ≤ 64 → HF p cs < 2 ^ 64
  | [], _, _, _ => by simp [HF]
  | c :: cs, p, h, hl => by
    rw [List.length_cons] at hl
    exact Nat.xor_lt_two_pow (stepN_lt (h c (by simp)) (by omega)) (HF_lt cs (p + 1) (fun d hd => h d (List.mem_cons_of_mem _ hd)) (by omega))

-- the law's own bits
noncomputable def bl (x : Nat) : List Int := (List.range 64).map fun j => if x.testBit j then 1 else 0
theorem bl_get (x : Nat) {j : Nat} (h : j < 64) : (bl x).getD j 0 = if x.testBit j then 1 else 0 := by
  rw [List.getD_eq_getElem?_getD, bl, List.getElem?_map, List.getElem?_range h]; rfl
noncomputable def seat (p b : Nat) : Nat := if 15 ≤ p + b then p + b - 15 else p + b
theorem bl_set (x j : Nat) (h : j < 64) : (bl x).set j (1 - (bl x).getD j 0) = bl (x ^^^ 2 ^ j) := by
  apply List.ext_getElem?
  intro i
  rw [List.getElem?_set, bl_get x h]
  have hl : (bl x).length = 64 := by simp [bl]
  by_cases hi : j = i
  · subst hi
    rw [if_pos rfl, if_pos (by omega), bl, List.getElem?_map, List.getElem?_range h]
    simp only [Option.map_some, Nat.testBit_xor, Nat.testBit_two_pow_self]
    cases x.testBit j <;> rfl
  · rw [if_neg hi, bl, bl, List.getElem?_map, List.getElem?_map]
    by_cases h6 : i < 64
    · rw [List.getElem?_range h6]
      simp only [Option.map_some, Nat.testBit_xor, Nat.testBit_two_pow_of_ne hi, Bool.xor_false]
    · rw [List.getElem?_eq_none (by simp; omega)]; rfl
theorem bit_of (c b : Nat) : (Builtin.bitAnd ((c : Int).fdiv (2 ^ b)) 1 = 1) ↔ c.testBit b = true := by
  rw [powN, fdivN]
  have e : (1 : Int) = ((1 : Nat) : Int) := rfl
  rw [e, bAnd, Nat.and_one_is_mod]
  rw [Nat.testBit_eq_decide_div_mod_eq, decide_eq_true_eq]
  omega
theorem bitStep_bl (c p b x : Nat) (hp : p ≤ 63) (hb : b < 15) : bitStep (c : Int) (p : Int) (bl x) (b : Int) = bl (x ^^^ (if c.testBit b then 2 ^ seat p b else 0)) := by
  rw [bitStep]
  simp only [Int.toNat_natCast, bit_of]
  by_cases h : c.testBit b = true
  · rw [if_pos h, if_pos h]
    by_cases h15 : 15 ≤ p + b
    · rw [if_pos (by omega)]
      have e : ((p : Int) + (b : Int) - 15).toNat = seat p b := by rw [seat, if_pos h15]; omega
      rw [e]
      exact bl_set x _ (by rw [seat, if_pos h15]; omega)
    · rw [if_neg (by omega)]
      have e : ((p : Int) + (b : Int)).toNat = seat p b := by rw [seat, if_neg h15]; omega
      rw [e]
      exact bl_set x _ (by rw [seat, if_neg h15]; omega)
  · rw [if_neg h, if_neg h, Nat.xor_zero]
noncomputable def TT (p c : Nat) : Nat → Nat
  | 0 => 0
  | b + 1 => TT p c b ^^^ (if c.testBit b then 2 ^ seat p b else 0)
theorem inner_bl (c p x : Nat) (hp : p ≤ 63) : ∀ n, n ≤ 15 → (rangeKs 0 n).foldl (bitStep (c : Int) (p : Int)) (bl x) = bl (x ^^^ TT p c n)
  | 0, _ => by simp [rangeKs, TT]
  | n + 1, h => by
    have e : rangeKs 0 (n + 1) = rangeKs 0 n ++ [(n : Int)] := by simp [rangeKs, List.range_succ]
    rw [e, List.foldl_append, inner_bl c p x hp n (by omega), List.foldl_cons, List.foldl_nil, bitStep_bl c p n _ hp (by omega), TT, Nat.xor_assoc]
theorem seat_inj {p b b' : Nat} (h : b < 15) (h' : b' < 15) (e : seat p b = seat p b') : b = b' := by
  unfold seat at e
  split at e <;> split at e <;> omega
theorem TT_bit (p c j : Nat) : ∀ n, n ≤ 15 → ((TT p c n).testBit j = true ↔ ∃ b, b < n ∧ seat p b = j ∧ c.testBit b = true)
  | 0, _ => by simp [TT]
  | n + 1, hn => by
    have ih := TT_bit p c j n (by omega)
    rw [TT, Nat.testBit_xor]
    by_cases hc : c.testBit n = true
    · rw [if_pos hc, Nat.testBit_two_pow]
      by_cases hs : seat p n = j
      · have hn0 : (TT p c n).testBit j = false := by
          rw [Bool.eq_false_iff]
          intro h
          obtain ⟨b, hb, e, _⟩ := ih.mp h
          have := seat_inj (p := p) (b := b) (b' := n) (by omega) (by omega) (e.trans hs.symm)
          omega
        rw [hn0, decide_eq_true hs]
        simp only [Bool.false_xor, true_iff]
        exact ⟨n, by omega, hs, hc⟩
      · rw [decide_eq_false hs, Bool.xor_false, ih]
        constructor
        · rintro ⟨b, hb, r⟩; exact ⟨b, by omega, r⟩
        · rintro ⟨b, hb, e, r⟩
          refine ⟨b, ?_, e, r⟩
          have : b ≠ n := fun q => hs (q ▸ e)
          omega
    · rw [if_neg hc, Nat.zero_testBit, Bool.xor_false, ih]
      constructor
      · rintro ⟨b, hb, r⟩; exact ⟨b, by omega, r⟩
      · rintro ⟨b, hb, e, r⟩
        refine ⟨b, ?_, e, r⟩
        have : b ≠ n := fun q => hc (q ▸ r)
        omega
theorem bit_lt {c b : Nat} (hc : c < 2 ^ 15) (h : c.testBit b = true) : b < 15 := by
  by_cases hb : b < 15
  · exact hb
  · have := Nat.testBit_lt_two_pow (Nat.lt_of_lt_of_le hc (Nat.pow_le_pow_right (by decide) (Nat.le_of_not_lt hb)))
    rw [this] at h; cases h
theorem TT_step (p c : Nat) (hc : c < 2 ^ 15) : TT p c 15 = stepN p c := by
  apply Nat.eq_of_testBit_eq
  intro j
  rw [Bool.eq_iff_iff, TT_bit p c j 15 (Nat.le_refl _), stepN_bit]
  simp only [Bool.or_eq_true, Bool.and_eq_true, decide_eq_true_eq]
  constructor
  · rintro ⟨b, hb, e, h⟩
    unfold seat at e
    split at e
    · refine .inr ⟨by omega, ?_⟩
      have : j + 15 - p = b := by omega
      rw [this]; exact h
    · refine .inl ⟨by omega, by omega, ?_⟩
      have : j - p = b := by omega
      rw [this]; exact h
  · rintro (⟨h1, h2, h3⟩ | ⟨h1, h2⟩)
    · refine ⟨j - p, bit_lt hc h3, ?_, h3⟩
      unfold seat; split <;> omega
    · refine ⟨j + 15 - p, bit_lt hc h2, ?_, h2⟩
      unfold seat; split <;> omega
theorem bl_zero : List.replicate 64 (0 : Int) = bl 0 := by
  simp only [bl, Nat.zero_testBit]
  decide
theorem outF_bl (cs : List Nat) (hb : ∀ c ∈ cs, c < 2 ^ 15) (hl : cs.length ≤ 63) : ∀ k, k ≤ cs.length → outF (up cs) k = bl (HF 1 (cs.take k))
  | 0, _ => by rw [outF, List.take_zero, HF]; exact bl_zero
  | k + 1, hk => by
    rw [outF, outF_bl cs hb hl k (by omega)]
    have hk' : k < cs.length := by omega
    have e1 : (up cs).getD k 0 = ((cs[k] : Nat) : Int) := by
      rw [List.getD_eq_getElem?_getD, List.getElem?_map, List.getElem?_eq_getElem hk']; rfl
    have e2 : (1 + (k : Int)) = ((1 + k : Nat) : Int) := by simp
    rw [e1, e2, inner_bl _ _ _ (by omega) 15 (Nat.le_refl _), TT_step _ _ (hb _ (List.getElem_mem hk'))]
    have e3 : cs.take (k + 1) = cs.take k ++ [cs[k]] := by rw [List.take_add_one, List.getElem?_eq_getElem hk']; rfl
    rw [e3, HF_snoc, List.length_take, Nat.min_eq_left (by omega)]
theorem mod_succ (x n : Nat) : x % 2 ^ (n + 1) = x % 2 ^ n + (if x.testBit n then 2 ^ n else 0) := by
  have h1 := Nat.mod_mul (x := x) (a := 2 ^ n) (b := 2)
  rw [Nat.pow_succ, h1, Nat.testBit_eq_decide_div_mod_eq]
  have h2 := Nat.mod_two_eq_zero_or_one (x / 2 ^ n)
  rcases h2 with h2 | h2 <;> simp [h2]
theorem totF_bl (x : Nat) : ∀ n, n ≤ 64 → totF (bl x) (rangeKs 0 n) = ((x % 2 ^ n : Nat) : Int)
  | 0, _ => by simp [totF, rangeKs, Nat.mod_one]
  | n + 1, h => by
    have e : rangeKs 0 (n + 1) = rangeKs 0 n ++ [(n : Int)] := by simp [rangeKs, List.range_succ]
    rw [e, totF, List.foldl_append, ← totF, totF_bl x n (by omega), List.foldl_cons, List.foldl_nil, totStep, Int.toNat_natCast, bl_get x (by omega), mod_succ]
    cases x.testBit n
    · simp
    · simp
theorem bits_hash (cs : List Nat) (hb : ∀ c ∈ cs, c < 2 ^ 15) (hl : cs.length ≤ 63) : bitsI (up cs) = ((HF 1 cs ^^^ cs.length ^^^ 52811 : Nat) : Int) := by
  rw [bitsI, List.length_map, outF_bl cs hb hl _ (Nat.le_refl _), List.take_length, totF_bl _ 64 (Nat.le_refl _), Nat.mod_eq_of_lt (HF_lt cs 1 hb (by omega)), bXor]
  exact bXor _ 52811

end Mine

-- Pure2
namespace Mine
set_option maxRecDepth 100000

-- the register
noncomputable def turnedI (x : Int) : Int := Builtin.bitOr (Builtin.bitAnd (x.fdiv (2 ^ 14)) 1) (Builtin.bitAnd (x * 2 ^ 1) 32767)
noncomputable def regF (ns : List Int) : Nat → Int
  | 0 => 0
  | k + 1 => Builtin.bitXor (turnedI (regF ns k)) (ns.getD ((ns.length : Int) - 1 - k).toNat 0)
noncomputable def regI (ns : List Int) : Int := Builtin.bitXor (Builtin.bitXor (turnedI (regF ns ns.length)) ns.length) 52811
noncomputable def nearAt (ns : List Int) (p : Int) : Bool := (ns.getD (p - 1).toNat 0).fdiv (2 ^ (max (30 - p) 0).toNat) == 0
noncomputable def nearB (ns : List Int) : Bool := (rangeKs 1 ns.length).all (nearAt ns)

noncomputable def turnN (x : Nat) : Nat := (x / 2 ^ 14) % 2 ||| (x * 2) % 2 ^ 15
theorem turned_cast (x : Nat) : turnedI (x : Int) = (turnN x : Int) := by
  rw [turnedI, powN 14, fdivN, powN 1, ← Int.natCast_mul]
  have e : (32767 : Int) = ((2 ^ 15 - 1 : Nat) : Int) := by decide
  have e1 : (1 : Int) = ((1 : Nat) : Int) := rfl
  rw [e, e1, bAnd, bAnd, bOr, Nat.and_two_pow_sub_one_eq_mod, Nat.and_one_is_mod, turnN, Nat.pow_one]
theorem turnN_bit (x j : Nat) : (turnN x).testBit j = ((decide (j = 0) && x.testBit 14) || (decide (j < 15) && (decide (1 ≤ j) && x.testBit (j - 1)))) := by
  have h1 : ((x / 2 ^ 14) % 2).testBit j = (decide (j = 0) && x.testBit 14) := by
    have := Nat.testBit_mod_two_pow (x / 2 ^ 14) 1 j
    rw [Nat.pow_one] at this
    rw [this, Nat.testBit_div_two_pow]
    by_cases hj : j = 0
    · subst hj; simp
    · have : ¬ j < 1 := by omega
      simp [hj, this]
  have h2 : (x * 2) = x * 2 ^ 1 := by simp
  rw [turnN, Nat.testBit_or, h1, Nat.testBit_mod_two_pow, h2, Nat.testBit_mul_two_pow]
theorem turnN_lt (x : Nat) : turnN x < 2 ^ 15 :=
  Nat.or_lt_two_pow (Nat.lt_of_lt_of_le (Nat.mod_lt _ (by decide)) (by decide)) (Nat.mod_lt _ (by decide))
theorem turnN_xor (x y : Nat) : turnN (x ^^^ y) = turnN x ^^^ turnN y := by
  apply Nat.eq_of_testBit_eq
  intro j
  simp only [turnN_bit, Nat.testBit_xor]
  by_cases h0 : j = 0
  · subst h0; simp
  · have h1 : 1 ≤ j := by omega
    by_cases h2 : j < 15 <;> simp [h0, h1, h2]

noncomputable def G : List Nat → Nat
  | [] => 0
  | c :: cs => turnN (G cs) ^^^ c
theorem G_lt : ∀ (cs : List Nat), (∀ c ∈ cs, c < 2 ^ 15) → G cs < 2 ^ 15
  | [], _ => by simp [G]
  | c :: cs, h => Nat.xor_lt_two_pow (turnN_lt _) (h c (by simp))
theorem regF_cast (cs : List Nat) : ∀ k, k ≤ cs.length → regF (up cs) k = (G (cs.drop (cs.length - k)) : Int)
  | 0, _ => by rw [regF, Nat.sub_zero, List.drop_length]; rfl
  | k + 1, hk => by
    have hi : cs.length - (k + 1) < cs.length := by omega
    rw [regF, regF_cast cs k (by omega), turned_cast]
    have e1 : (((up cs).length : Int) - 1 - k).toNat = cs.length - (k + 1) := by rw [List.length_map]; omega
    have e2 : (up cs).getD (cs.length - (k + 1)) 0 = ((cs[cs.length - (k + 1)] : Nat) : Int) := by
      rw [List.getD_eq_getElem?_getD, List.getElem?_map, List.getElem?_eq_getElem hi]; rfl
    rw [e1, e2, bXor, List.drop_eq_getElem_cons hi, G]
    have e3 : cs.length - (k + 1) + 1 = cs.length - k := by omega
    rw [e3]
theorem regI_cast (cs : List Nat) : regI (up cs) = ((turnN (G cs) ^^^ cs.length ^^^ 52811 : Nat) : Int) := by
  rw [regI, List.length_map, regF_cast cs _ (Nat.le_refl _), Nat.sub_self, List.drop_zero, turned_cast, bXor]
  exact bXor _ 52811
theorem regF_bound {ns : List Int} (h : ∀ n ∈ ns, 0 ≤ n ∧ n < 32768) : ∀ (k : Nat), 0 ≤ regF ns k ∧ regF ns k < 32768
  | 0 => by rw [regF]; decide
  | k + 1 => by
    obtain ⟨a, ha⟩ := Int.eq_ofNat_of_zero_le (regF_bound h k).1
    have hd : 0 ≤ ns.getD ((ns.length : Int) - 1 - k).toNat 0 ∧ ns.getD ((ns.length : Int) - 1 - k).toNat 0 < 32768 := by
      rw [List.getD_eq_getElem?_getD]
      cases e : ns[((ns.length : Int) - 1 - k).toNat]? with
      | none => simp
      | some v => exact h v (List.mem_of_getElem? e)
    obtain ⟨d, hd'⟩ := Int.eq_ofNat_of_zero_le hd.1
    rw [regF, ha, turned_cast, hd', bXor]
    have hlt : turnN a ^^^ d < 2 ^ 15 := Nat.xor_lt_two_pow (turnN_lt _) (by omega)
    constructor
    · omega
    · exact Int.ofNat_lt.mpr hlt

-- n turns
noncomputable def turnNs : Nat → Nat → Nat
  | 0, x => x
  | n + 1, x => turnNs n (turnN x)
theorem turnNs_xor : ∀ (n x y : Nat), turnNs n (x ^^^ y) = turnNs n x ^^^ turnNs n y
  | 0, _, _ => rfl
  | n + 1, x, y => by rw [turnNs, turnN_xor, turnNs_xor n, turnNs, turnNs]
theorem turnNs_succ : ∀ (n x : Nat), turnNs (n + 1) x = turnN (turnNs n x)
  | 0, _ => rfl
  | n + 1, x => by rw [turnNs, turnNs_succ n, turnNs]
theorem turnN_zero : turnN 0 = 0 := by decide
theorem turnNs_zero : ∀ n, turnNs n 0 = 0
  | 0 => rfl
  | n + 1 => by rw [turnNs, turnN_zero, turnNs_zero n]
theorem stepN_zero (p : Nat) : stepN p 0 = 0 := by simp [stepN]
theorem no_bit {c n i : Nat} (h : c < 2 ^ n) (hi : n ≤ i) : c.testBit i = false :=
  Nat.testBit_lt_two_pow (Nat.lt_of_lt_of_le h (Nat.pow_le_pow_right (by decide) hi))
theorem step_turns (c : Nat) (hc : c < 2 ^ 15) : ∀ p, c < 2 ^ (30 - p) → stepN p c = turnNs p c
  | 0, _ => by
    rw [stepN, Nat.pow_zero, Nat.mul_one, Nat.mod_eq_of_lt hc, Nat.div_eq_of_lt hc, Nat.or_zero, turnNs]
  | p + 1, h => by
    by_cases h30 : 30 ≤ p
    · have e : 30 - (p + 1) = 0 := by omega
      rw [e] at h
      have : c = 0 := by omega
      subst this
      rw [stepN_zero, turnNs_zero]
    · have h' : c < 2 ^ (30 - p) := Nat.lt_of_lt_of_le h (Nat.pow_le_pow_right (by decide) (by omega))
      rw [turnNs_succ, ← step_turns c hc p h']
      apply Nat.eq_of_testBit_eq
      intro j
      rw [turnN_bit, stepN_bit, stepN_bit, stepN_bit]
      by_cases hj0 : j = 0
      · subst hj0
        have z : c.testBit (14 + 15 - p) = false := no_bit h (by omega)
        rw [z]
        by_cases hp : p ≤ 14
        · have e1 : 0 + 15 - (p + 1) = 14 - p := by omega
          rw [e1]
          simp [hp, show p + 1 ≤ 15 by omega]
        · simp [hp, show ¬ p + 1 ≤ 15 by omega]
      · by_cases hj : j < 15
        · have e1 : j - (p + 1) = j - 1 - p := by omega
          have e2 : j + 15 - (p + 1) = j - 1 + 15 - p := by omega
          rw [e1, e2]
          simp only [hj0, decide_false, Bool.false_and, Bool.false_or, hj, decide_true, Bool.true_and, show 1 ≤ j by omega, show j - 1 < 15 by omega]
          by_cases ha : p + 1 ≤ j
          · by_cases hb : p + 1 ≤ j + 15
            · simp [ha, hb, show p ≤ j - 1 by omega, show p ≤ j - 1 + 15 by omega]
            · omega
          · by_cases hb : p + 1 ≤ j + 15
            · simp [ha, hb, show ¬ p ≤ j - 1 by omega, show p ≤ j - 1 + 15 by omega]
            · simp [ha, hb, show ¬ p ≤ j - 1 by omega, show ¬ p ≤ j - 1 + 15 by omega]
        · have z : c.testBit (j + 15 - (p + 1)) = false := no_bit h (by omega)
          rw [z]
          simp [hj0, hj]
theorem HF_turns : ∀ (cs : List Nat) (p : Nat), (∀ c ∈ cs, c < 2 ^ 15) → (∀ i, ∀ h : i < cs.length, cs[i] < 2 ^ (30 - (p + i))) → HF p cs = turnNs p (G cs)
  | [], p, _, _ => by rw [HF, G, turnNs_zero]
  | c :: cs, p, hb, hn => by
    rw [HF, G, turnNs_xor, ← turnNs]
    rw [HF_turns cs (p + 1) (fun d hd => hb d (List.mem_cons_of_mem _ hd)) (fun i h => by
      have := hn (i + 1) (by rw [List.length_cons]; omega)
      rw [List.getElem_cons_succ] at this
      have e : p + 1 + i = p + (i + 1) := by omega
      rw [e]; exact this)]
    rw [step_turns c (hb c (by simp)) p (by have := hn 0 (by simp); simpa using this), Nat.xor_comm]
theorem near_reg (cs : List Nat) (hb : ∀ c ∈ cs, c < 2 ^ 15) (hn : nearB (up cs) = true) : HF 1 cs = turnN (G cs) := by
  refine HF_turns cs 1 hb fun i hi => ?_
  rw [nearB, List.all_eq_true] at hn
  have hm : (1 + (i : Int)) ∈ rangeKs 1 (up cs).length := by
    rw [rangeKs]
    exact List.mem_map.mpr ⟨i, List.mem_range.mpr (by rw [List.length_map]; exact hi), rfl⟩
  have h := hn _ hm
  rw [nearAt, beq_iff_eq] at h
  have e1 : (1 + (i : Int) - 1).toNat = i := by omega
  have e2 : (up cs).getD i 0 = ((cs[i] : Nat) : Int) := by
    rw [List.getD_eq_getElem?_getD, List.getElem?_map, List.getElem?_eq_getElem hi]; rfl
  have e3 : (max (30 - (1 + (i : Int))) 0).toNat = 30 - (1 + i) := by omega
  rw [e1, e2, e3, powN, fdivN] at h
  have h0 : cs[i] / 2 ^ (30 - (1 + i)) = 0 := by omega
  rcases Nat.div_eq_zero_iff.mp h0 with h1 | h1
  · have := Nat.pow_pos (n := 30 - (1 + i)) (show 0 < 2 by decide)
    omega
  · exact h1

-- the text of a number
theorem digit_mark : ∀ d, d < 16 → up1 (Nat.digitChar d).toNat = mark d := by decide +kernel
theorem digit_ascii : ∀ d, d < 16 → (Nat.digitChar d).toNat < 128 := by decide +kernel
theorem digits_codes : ∀ (n : Nat), n ≠ 0 → (Nat.toDigits 16 n).map (fun c => up1 c.toNat) = hexCodes n := by
  intro n
  induction n using Nat.strongRecOn with
  | ind n ih =>
    intro h0
    rw [hexCodes_pos h0, Nat.toDigits_eq_if (by decide)]
    by_cases h : n < 16
    · rw [if_pos h]
      have e : n / 16 = 0 := by omega
      rw [e, hexCodes_zero, Nat.mod_eq_of_lt h]
      simp [digit_mark n h]
    · rw [if_neg h, List.map_append, ih (n / 16) (by omega) (by omega)]
      simp [digit_mark (n % 16) (by omega)]
theorem digits_ascii : ∀ (n : Nat), ∀ c ∈ Nat.toDigits 16 n, c.toNat < 128 := by
  intro n
  induction n using Nat.strongRecOn with
  | ind n ih =>
    rw [Nat.toDigits_eq_if (by decide)]
    intro c hc
    by_cases h : n < 16
    · rw [if_pos h] at hc
      rw [List.mem_singleton.mp hc]
      exact digit_ascii n h
    · rw [if_neg h] at hc
      rcases List.mem_append.mp hc with hc | hc
      · exact ih (n / 16) (by omega) c hc
      · rw [List.mem_singleton.mp hc]
        exact digit_ascii _ (by omega)
theorem hex_text (n : Nat) : baseText "0x" 16 (n : Int) = ⟨(48 :: 120 :: (Nat.toDigits 16 n).map Char.toNat).toArray⟩ := by
  rw [baseText_nonneg (by omega), str_empty, Int.natAbs_natCast]
  have e : Str.ofString "0x" = ⟨#[48, 120]⟩ := by decide +kernel
  rw [e, Str.ofString_eq_toList (String.ofList _), String.toList_ofList]
  show (⟨#[] ++ #[48, 120] ++ ((Nat.toDigits 16 n).map Char.toNat).toArray⟩ : Str) = _
  simp
theorem hex_upper (n : Nat) : Txt.slice (Txt.upper (baseText "0x" 16 (n : Int))) (some 2) none = hexS (n : Int) := by
  rw [hex_text, upper_ascii (by
    intro c hc
    rcases List.mem_cons.mp hc with rfl | hc
    · decide
    · rcases List.mem_cons.mp hc with rfl | hc
      · decide
      · obtain ⟨d, hd, rfl⟩ := List.mem_map.mp hc
        exact digits_ascii n d hd)]
  rw [slice_from_eq (b := ((2 + (Nat.toDigits 16 n).length : Nat) : Int)) (by decide) (by simp [Str.length]; omega) (by simp [Str.length]; omega)]
  have e1 : ((2 + (Nat.toDigits 16 n).length : Nat) - (2 : Int)).toNat = (Nat.toDigits 16 n).length := by omega
  have e2 : Int.toNat 2 = 2 := rfl
  rw [e1, e2]
  have e3 : (((48 :: 120 :: (Nat.toDigits 16 n).map Char.toNat).toArray.map up1).toList.drop 2).take (Nat.toDigits 16 n).length = (Nat.toDigits 16 n).map (fun c => up1 c.toNat) := by
    simp [List.map_map, Function.comp_def]
    rw [List.take_of_length_le (by simp)]
  rw [e3, hexS]
  by_cases h0 : n = 0
  · subst h0
    rw [if_pos (by rfl)]
    decide +kernel
  · rw [if_neg (by omega), digits_codes n h0, Int.toNat_natCast]

end Mine

-- Enum1
namespace Mine
set_option maxRecDepth 100000

set_option maxHeartbeats 2000000 in
theorem meets_enum1 (x : Str) (t u : Tok) :
    Meets (Builtin.«enumerate.__new__» ⟨[.type "enumerate", .str x t, .int 1 u], []⟩) (fun _ R s =>
      R (.ok (.ret (.ref (s.heap.push { cls := .type (strIterType x), data := .fields #[.str x t, .int 0 0] }).objs.size)))
        { s with heap := (s.heap.push { cls := .type (strIterType x), data := .fields #[.str x t, .int 0 0] }).push { cls := .type "enumerate", data := .fields #[.none, .bool false, .ref s.heap.objs.size, rawInt 1, .none, .none] } }) :=
  .of_wp fun prog w A R s h => by
    obtain ⟨hp, g, d, tk, os⟩ := s
    have hsub := sub_enumerate
    wp_walk
    refine wpAny_stack_any fun st => wpAny_pure ?_
    split
    · rename_i c _ _ _ _ _
      cases (c == Value.type "enumerate")
      · wp_walk using wpAny_pyIter_strU
        exact ⟨_, rfl, h⟩
      · wp_walk using wpAny_pyIter_strU
        exact ⟨_, rfl, h⟩
    · wp_walk using wpAny_pyIter_strU
      exact ⟨_, rfl, h⟩

theorem typeCall_enum2 (a b : Value) : checkTypeCall "enumerate" ⟨[a, b], []⟩ = pure () := by kernel_rfl
theorem newCall_enum2 (a b : Value) : checkBuiltinCall "enumerate.__new__" ⟨[.type "enumerate", a, b], []⟩ = pure () := by kernel_rfl

section
variable {prog : Program} {w : World} {A : Around} {E : Value → Shared → Prop} {s : Shared}
theorem call_enumerate_str1 {x : Str} {t u : Tok} {Q : Value → Shared → Prop}
    (h : ∀ h', IsEnum h' (s.heap.objs.size + 1) s.heap.objs.size 1 .none → h'.IsStrIter s.heap.objs.size (strIterType x) x t 0 → h'.objs.size = s.heap.objs.size + 2 →
      (∀ b o, s.heap.get? b = some o → h'.get? b = some o) → Q (.ref (s.heap.objs.size + 1)) { s with heap := h' }) :
    wpAny (model prog w) A (call (.type "enumerate") [.str x t, .int 1 u]) Q E s := by
  refine callType_new F.called_enumerate (by decide) (typeCall_enum2 _ _) (newCall_enum2 _ _) (fun obj => F.args_object_init_3 obj _ _) F.entry_enumerate_new
    (meets_enum1 x t u) ?_
  have hz : (s.heap.push { cls := .type (strIterType x), data := .fields #[.str x t, .int 0 0] }).objs.size = s.heap.objs.size + 1 := Heap.size_push ..
  show _ ∧ _
  rw [hz]
  have he : IsEnum ((s.heap.push { cls := .type (strIterType x), data := .fields #[.str x t, .int 0 0] }).push
      { cls := .type "enumerate", data := .fields #[.none, .bool false, .ref s.heap.objs.size, rawInt 1, .none, .none] }) (s.heap.objs.size + 1) s.heap.objs.size 1 .none := by
    have := Heap.get?_push_size (s.heap.push { cls := .type (strIterType x), data := .fields #[.str x t, .int 0 0] })
      (o := { cls := .type "enumerate", data := .fields #[.none, .bool false, .ref s.heap.objs.size, rawInt 1, .none, .none] }) rfl
    rw [hz] at this; exact this
  refine ⟨⟨_, he, rfl⟩, h _ he ⟨_, Heap.get?_push_of_some _ (Heap.get?_push_size _ rfl), rfl, rfl⟩ (by rw [Heap.size_push, hz]) fun b o y => Heap.get?_push_of_some _ (Heap.get?_push_of_some _ y)⟩
end
end Mine

-- Enum2
namespace Mine
set_option maxRecDepth 100000

theorem draws_up {prog : Program} {w : World} {A : Around} {it : Addr} {fp : List Addr} {n : Nat} {P : Nat → Value → Prop} {St : Nat → Heap → Prop} (D : Draws prog w A it fp n P St) :
    Draws prog w A it fp (n + 1) (fun i v => ∃ j, i = j + 1 ∧ P j v) (fun i h => ∃ j, i = j + 1 ∧ St j h) where
  live := fun i h ⟨j, _, hs⟩ => D.live j h hs
  frame := fun i h h' ⟨j, e, hs⟩ hk => ⟨j, e, D.frame j h h' hs hk⟩
  item := fun i s Q E hi ⟨j, e, hs⟩ hQ => D.item j s Q E (by omega) hs fun x h' tk hp hs' hb => hQ x h' tk ⟨j, e, hp⟩ ⟨j + 1, by omega, hs'⟩ hb
  done := fun s Q E ⟨j, e, hs⟩ hE => D.done s Q E (by
    have : j = n := by omega
    exact this ▸ hs) hE

theorem walks_down {prog : Program} {w : World} {A : Around} {I : Addr} {fp wr : List Addr} {n : Nat} {Pt : Nat → Array Value → Prop} {St : Nat → Heap → Prop} {Mid : Nat → Addr → Heap → Prop} (W : WalksT prog w A I fp wr (n + 1) Pt St Mid) :
    WalksT prog w A I fp wr n (fun i => Pt (i + 1)) (fun i => St (i + 1)) (fun i => Mid (i + 1)) where
  sub := W.sub
  frame := fun i => W.frame (i + 1)
  item := fun i s Q E hi => W.item (i + 1) s Q E (by omega)
  go := fun elts k pos i => W.go elts k pos (i + 1)
  apart := fun i => W.apart (i + 1)
  done := W.done
  self := fun i => W.self (i + 1)

/-- what a loop over enumerate(text, 1) asks -/
noncomputable def EnumSrc1 (prog : Program) (w : World) (A : Around) (E : Value → Shared → Prop) (h₀ : Heap) (L : Addr) (x : Str) (xv : Value) (s : Shared) (m : Str → Option Value) (news : List (Addr × Obj)) : Prop :=
  ∀ env : Env, env.locals = L → ∀ (xi xc : Str) (body : List Stmt) (Q : Flow → Shared → Prop) (J : Nat → (Str → Option Value) → List (Addr × Obj) → Prop), J 0 m news →
    (∀ (i : Nat) c t u m₁ news₁ s₁ own, (∃ h tk, s₁ = { s with heap := h, toks := tk }) → x.cps[i]? = some c → J i m₁ news₁ → news₁.map (·.1) = news.map (·.1) → (∀ p ∈ own, ∀ q ∈ news, p.1 ≠ q.1) →
      Fr h₀ env.locals s₁.heap (fun y => if y = xc then some (.str ⟨#[c]⟩ u) else if y = xi then some (.int ((i : Int) + 1) t) else m₁ y) → News h₀ env.locals s₁.heap (own ++ news₁) →
      wpAny (model prog w) A (execs body env) (LoopStep3 h₀ env.locals own news₁ (J (i + 1)) s₁ (fun v s' => Q (.ret v) s') fun s' => Q .next s') E s₁) →
    (∀ h' tk m' news', Fr h₀ env.locals h' m' → News h₀ env.locals h' news' → news'.map (·.1) = news.map (·.1) → J x.length m' news' → Q .next { s with heap := h', toks := tk }) →
    wpAny (model prog w) A (pyIter xv) (fun it s₂ => PairAt3 prog w A h₀ env xi xc body Q E it s₂) E s

section
variable {prog : Program} {w : World} {A : Around} {E : Value → Shared → Prop} {s : Shared} {h₀ : Heap} {L : Addr} {m : Str → Option Value} {news : List (Addr × Obj)}

theorem enumSrc1_of {x : Str} {e it : Addr} {St : Nat → Heap → Prop} (D : Draws prog w A.in1 it [it] x.length (fun i v => ∃ c u, x.cps[i]? = some c ∧ v = .str ⟨#[c]⟩ u) St)
    (he : IsEnum s.heap e it 1 .none) (hst : St 0 s.heap) (hei : e ≠ it) (hLf : L ∉ [e, it]) (hne : h₀.get? e = none) (hni : h₀.get? it = none)
    (hfn : ∀ b ∈ [e, it], ∀ q ∈ news, b ≠ q.1)
    (F : Fr h₀ L s.heap m) (N : News h₀ L s.heap news) : EnumSrc1 prog w A E h₀ L x (.ref e) s m news := by
  intro env hL xi xc body Q J h0 step done
  subst hL
  refine wpAny_pyIter_enum he ?_
  have W := walks_down (WalksT.enumerateD (draws_up D) e hei (fun h => hei (List.mem_singleton.mp h)) (List.mem_singleton_self _))
  refine ⟨e, [e, it], [e, it], x.length, _, _, _, (fun i v0 v1 => ∃ t c u, v0 = .int ((i : Int) + 1) t ∧ x.cps[i]? = some c ∧ v1 = .str ⟨#[c]⟩ u), m, news, J, rfl, W, ?_, hLf, ?_, ?_, ⟨⟨_, he⟩, ⟨0, rfl, hst⟩⟩, F, N, h0, ?_, ?_⟩
  · rintro i vals ⟨t, y, ⟨j, ej, c, u, hc, rfl⟩, rfl⟩
    have : j = i := by omega
    subst this
    exact ⟨_, _, rfl, t, c, u, by simp, hc, rfl⟩
  · intro b hb
    rcases List.mem_cons.mp hb with rfl | hb
    · exact hne
    · rw [List.mem_singleton.mp hb]; exact hni
  · intro p hp hb
    exact hfn p.1 hb p hp rfl
  · rintro i v0 v1 m₁ news₁ s₁ own hs₁ _ ⟨t, c, u, rfl, hc, rfl⟩ hJ ha hsub F₁ N₁
    exact step i c t u m₁ news₁ s₁ own hs₁ hc hJ ha (fun p hp q hq => hfn _ (hsub p hp) q hq) F₁ N₁
  · exact done

theorem call_enum1 {x : Str} {t u : Tok} {Q : Value → Shared → Prop} (hh : A.handled = none) (F : Fr h₀ L s.heap m) (N : News h₀ L s.heap news)
    (h : ∀ h' e, Fr h₀ L h' m → News h₀ L h' news → EnumSrc1 prog w A E h₀ L x (.ref e) { s with heap := h' } m news → Q (.ref e) { s with heap := h' }) :
    wpAny (model prog w) A (call (.type "enumerate") [.str x t, .int 1 u]) Q E s := by
  have hLs : L < s.heap.objs.size := F.ns.lt
  have hab : h₀.objs.size ≤ L := F.above
  refine call_enumerate_str1 fun h' he hit hsz hk => ?_
  have F' : Fr h₀ L h' m := ⟨F.ns.keeps hk, fun b o e => hk b o (F.keep b o e), F.above⟩
  have N' : News h₀ L h' news := fun p hp => ⟨hk _ _ (N p hp).1, (N p hp).2⟩
  refine h h' _ F' N' ?_
  have side2 : L ∉ [s.heap.objs.size + 1, s.heap.objs.size] := fun hm => by
    rcases List.mem_cons.mp hm with e | hm
    · exact Nat.ne_of_lt (Nat.lt_succ_of_lt hLs) e
    · exact Nat.ne_of_lt hLs (List.mem_singleton.mp hm)
  have side3 : ∀ b ∈ [s.heap.objs.size + 1, s.heap.objs.size], ∀ q ∈ news, b ≠ q.1 := fun b hb q hq e => by
    have hq1 : q.1 < s.heap.objs.size := Heap.lt_size (N q hq).1
    rcases List.mem_cons.mp hb with e1 | hb
    · exact Nat.ne_of_gt (Nat.lt_succ_of_lt hq1) (e1.symm.trans e)
    · exact Nat.ne_of_gt hq1 ((List.mem_singleton.mp hb).symm.trans e)
  cases ha : x.cps.all (· < 128)
  · have hit' : h'.IsStrIter s.heap.objs.size "str_iterator" x t 0 := by simpa [strIterType, ha] using hit
    exact enumSrc1_of (Draws.strWide (A := A.in1) hh s.heap.objs.size x t) he hit' (Nat.succ_ne_self _) side2 (Heap.get?_none_of_le (Nat.le_trans hab (Nat.le_of_lt (Nat.lt_succ_of_lt hLs)))) (Heap.get?_none_of_le (Nat.le_trans hab (Nat.le_of_lt hLs))) side3 F' N'
  · have hit' : h'.IsStrIter s.heap.objs.size "str_ascii_iterator" x t 0 := by simpa [strIterType, ha] using hit
    exact enumSrc1_of (Draws.strAscii (A := A.in1) hh s.heap.objs.size x t) he hit' (Nat.succ_ne_self _) side2 (Heap.get?_none_of_le (Nat.le_trans hab (Nat.le_of_lt (Nat.lt_succ_of_lt hLs)))) (Heap.get?_none_of_le (Nat.le_trans hab (Nat.le_of_lt hLs))) side3 F' N'
end

section
variable {prog : Program} {w : World} {A : Around} {E : Value → Shared → Prop} {s : Shared} {env : Env} {h₀ : Heap} {xc xi : Str} {body : List Stmt} {Q : Flow → Shared → Prop}
theorem kst_enum1 {σ : Type} {x : Str} {xv : Value} {m₀ : Str → Option Value} {news : List (Addr × Obj)} (ps : σ → List (Str × Value)) (stored : List Str) (P : List Int → σ → Prop) (c₀ : σ)
    (S : EnumSrc1 prog w A E h₀ env.locals x xv s m₀ news) (hk : ∀ p ∈ ps c₀, m₀ p.1 = some p.2) (hp : P [] c₀)
    (turn : ∀ (c : σ) (pre post : List Int) (n : Nat) t ti (u : Str → Option Value) h tk own, KStt.codes x = pre ++ (n : Int) :: post → OwnOff own (news.map (·.1)) → P pre c →
      Fr h₀ env.locals h (fun y => if y = xc then some (.str ⟨#[n]⟩ t) else if y = xi then some (.int ((pre.length : Int) + 1) ti) else kstB (fun z => if stored.contains z then u z else m₀ z) (ps c) y) → News h₀ env.locals h (news ++ own) →
      wpAny (model prog w) A (execs body env) (InvPostN h₀ env.locals (KstS (fun _ => news) ps (fun _ => True) xc stored m₀ P (pre ++ [(n : Int)])) own (news.map (·.1)) { s with heap := h, toks := tk } Q) E { s with heap := h, toks := tk })
    (done : ∀ (c : σ) (u : Str → Option Value) h tk, P (KStt.codes x) c → Fr h₀ env.locals h (fun y => if y = xc then u y else kstB (fun z => if stored.contains z then u z else m₀ z) (ps c) y) → News h₀ env.locals h news → Q .next { s with heap := h, toks := tk }) :
    wpAny (model prog w) A (pyIter xv) (fun it s₂ => PairAt3 prog w A h₀ env xi xc body Q E it s₂) E s := by
  refine S env rfl xi xc body Q (fun i m nx => KstS (fun _ => news) ps (fun _ => True) xc stored m₀ P ((KStt.codes x).take i) m nx) ⟨c₀, rfl, trivial, hk, fun _ _ _ _ => rfl, by simpa using hp⟩ ?_ ?_
  · rintro i n t u m₁ nx _ own ⟨h, tk, rfl⟩ hn ⟨c, hnx, _, h1, h2, hp'⟩ _ hoff F₁ N₁
    replace hnx : nx = news := hnx
    rw [hnx] at N₁ ⊢
    have hn' := KStt.code_at hn
    have hs : (KStt.codes x).take (i + 1) = (KStt.codes x).take i ++ [(n : Int)] := by simp [List.take_add_one, hn']
    have e : KStt.codes x = (KStt.codes x).take i ++ (n : Int) :: (KStt.codes x).drop (i + 1) := by
      have ht := List.take_append_drop (i + 1) (KStt.codes x)
      rw [hs, List.append_assoc] at ht
      exact ht.symm
    have hi : i < (KStt.codes x).length := (List.getElem?_eq_some_iff.mp hn').1
    have hl : ((KStt.codes x).take i).length = i := by rw [List.length_take]; omega
    have hoff' : OwnOff own (news.map (·.1)) := fun p hp b hb => by
      obtain ⟨q, hq, rfl⟩ := List.mem_map.mp hb
      exact hoff p hp q hq
    have N₂ : News h₀ env.locals h (news ++ own) := fun p hp => N₁ p ((List.mem_append.mp hp).elim (fun h => List.mem_append.mpr (.inr h)) fun h => List.mem_append.mpr (.inl h))
    have F₂ : Fr h₀ env.locals h (fun y => if y = xc then some (.str ⟨#[n]⟩ u) else if y = xi then some (.int ((((KStt.codes x).take i).length : Int) + 1) t) else kstB (fun z => if stored.contains z then m₁ z else m₀ z) (ps c) y) := by
      rw [hl]
      have em : (fun y => if y = xc then some (Value.str ⟨#[n]⟩ u) else if y = xi then some (.int ((i : Int) + 1) t) else kstB (fun z => if stored.contains z then m₁ z else m₀ z) (ps c) y) = fun y => if y = xc then some (.str ⟨#[n]⟩ u) else if y = xi then some (.int ((i : Int) + 1) t) else m₁ y := by
        funext y
        by_cases hy : y = xc
        · rw [if_pos hy, if_pos hy]
        · rw [if_neg hy, if_neg hy]
          by_cases hy2 : y = xi
          · rw [if_pos hy2, if_pos hy2]
          · rw [if_neg hy2, if_neg hy2]
            exact kst_off h1 h2 hy
      rw [em]; exact F₁
    rw [hs]
    refine wpAny_mono (turn c _ _ n u t m₁ h tk own e hoff' hp' F₂ N₂) (fun f s₂ q => ?_) fun _ _ e => e
    have fin : InvEndN h₀ env.locals (KstS (fun _ => news) ps (fun _ => True) xc stored m₀ P ((KStt.codes x).take i ++ [(n : Int)])) own (news.map (·.1)) { s with heap := h, toks := tk } s₂ →
        LoopStep2 h₀ env.locals own news (KstS (fun _ => news) ps (fun _ => True) xc stored m₀ P ((KStt.codes x).take i ++ [(n : Int)])) { s with heap := h, toks := tk } .next s₂ := by
      rintro ⟨h', tk', m', news', nx, e, F', N', hn, ho, ha, hS⟩
      have hnx : nx = news := by obtain ⟨c', q, _⟩ := hS; exact q
      rw [hnx] at hn hS
      exact ⟨rfl, h', tk', m', news, e, F', fun p hp => N' p ((List.mem_append.mp hp).elim (ho p) (hn p)), rfl, hS⟩
    cases f with
    | ret v => exact q
    | brk => exact q
    | next => exact fin q
    | cont => exact fin q
  · rintro h tk m₁ nx F₁ N₁ _ ⟨c, hnx, _, h1, h2, hp'⟩
    replace hnx : nx = news := hnx
    rw [hnx] at N₁
    have hl : x.length = (KStt.codes x).length := (KStt.codes_length x).symm
    rw [hl, List.take_length] at hp'
    exact done c m₁ h tk hp' (kst_frOut h1 h2 F₁) N₁
end
end Mine

-- T1
namespace Mine
set_option maxRecDepth 100000

set_option maxRecDepth 100000 in
set_option maxHeartbeats 4000000 in
theorem turned_ctr (w : World) (news : List (Addr × Obj)) (x : Int) (t : Tok) (h0 : 0 ≤ x) (h1 : x < 32768) : Ctr w 43 1 news [.int x t] (fun t => .int (turnedI x) t) := by
  unfold Ctr
  k_with_none
  w_top off
  k_fill
  intro loose mean mg mb dp un gd cn cs a ccd cl outer A₀ base h₀ L m s Q E B F X N T hk hdp hun hret
  refine wpAny_call ?_
  k_dflt cell_enter
  k_steps
  exact hret _ _ _ (by assumption) (by assumption)
end Mine

-- T2
namespace Mine
set_option maxRecDepth 100000

noncomputable def RegInv (ns pre : List Int) (st : Int) : Prop := st = regF ns pre.length
theorem RegInv.start {ns : List Int} : RegInv ns [] 0 := rfl
theorem RegInv.step {ns pre : List Int} {st k : Int} (h : RegInv ns pre st) (hk : k = 0 + (pre.length : Int)) : RegInv ns (pre ++ [k]) (Builtin.bitXor (turnedI st) (ns.getD ((ns.length : Int) - 1 - k).toNat 0)) := by
  rw [RegInv, List.length_append, List.length_singleton, regF, ← h, hk, Int.zero_add]
theorem RegInv.done {ns : List Int} {st : Int} (h : RegInv ns (rangeKs 0 ((ns.length : Int) - 0).toNat) st) : st = regF ns ns.length := by
  rw [h, rangeKs_length]; congr 1
theorem RegInv.lo {ns pre : List Int} {st : Int} (h : RegInv ns pre st) (hb : ∀ n ∈ ns, 0 ≤ n ∧ n < 32768) : 0 ≤ st := by rw [h]; exact (regF_bound hb _).1
theorem RegInv.hi {ns pre : List Int} {st : Int} (h : RegInv ns pre st) (hb : ∀ n ∈ ns, 0 ≤ n ∧ n < 32768) : st < 32768 := by rw [h]; exact (regF_bound hb _).2

local macro_rules | `(tactic| walk_at "call ref") => `(tactic| (k_here; (with_reducible show wpAny _ _ (call (Value.ref 43) _) _ _ _); k_dflt (refine' Ctr.use ?k1 ?k2 ?k3 ?k4 ?k5 ?kK (turned_ctr _ _ _ _ ?p1 ?p2) ?kd ?ku ?_; (case k1 => k_asm); (case k2 => k_asm); (case k3 => k_asm); (case k4 => k_asm); (case k5 => k_asm); (case kK => first | exact rfl | assumption); (case p1 => exact RegInv.lo (by assumption) (by assumption)); (case p2 => exact RegInv.hi (by assumption) (by assumption)); (case kd => ktr_room); (case ku => ktr_units); intro t9 h9 tk9 F9 N9; (try dsimp only); (try k_fold))))

set_option maxRecDepth 100000 in
set_option maxHeartbeats 4000000 in
theorem register_ctr (w : World) (news : List (Addr × Obj)) (l : Addr) (vs : List Value) (c : Nat) (ns : List Int) (hm : (l, listOf vs.toArray c) ∈ news) (hi : IntsAre vs ns) (hb : ∀ n ∈ ns, 0 ≤ n ∧ n < 32768) (hlen : ns.length ≤ 63) :
    Ctr w 50 2 news [.ref l] (fun t => .int (regI ns) t) := by
  unfold Ctr
  k_with_none
  w_top off
  k_fill
  intro loose mean mg mb dp un gd cn cs a ccd cl outer A₀ base h₀ L m s Q E B F X N T hk hdp hun hret
  have N2 : News h₀ L s.heap ((l, listOf vs.toArray c) :: news) := fun p hp => N p (by rcases List.mem_cons.mp hp with rfl | hp; exact hm; exact hp)
  clear N
  have kMk := kstMark
  refine wpAny_call ?_
  k_dflt cell_enter
  (k_with "pyIter ref" => (k_state (fun pre st => RegInv ns pre st) "state"))
  (k_with "state" => first | exact RegInv.start | exact RegInv.step (by assumption) (by assumption))
  k_steps
  have e := RegInv.done (by assumption)
  subst e
  exact hret _ _ _ (by assumption) (news_tail (by assumption))
end Mine

-- T3
namespace Mine
set_option maxRecDepth 100000

structure NearInv (ns pre : List Int) : Prop where
  all : pre.all (nearAt ns) = true
theorem NearInv.start {ns : List Int} : NearInv ns [] := ⟨rfl⟩
theorem ite_max (a : Int) : (if 0 > a then 0 else a) = max a 0 := by omega
theorem NearInv.step {ns pre : List Int} {p : Int} (h : NearInv ns pre) (hp : (ns.getD (p - 1).toNat 0).fdiv (2 ^ (if 0 > 30 - p then 0 else 30 - p).toNat) = 0) : NearInv ns (pre ++ [p]) := by
  rw [ite_max] at hp
  refine ⟨?_⟩
  simp only [List.all_append, List.all_cons, List.all_nil, Bool.and_true, Bool.and_eq_true]
  exact ⟨h.all, by rw [nearAt, hp]; rfl⟩
theorem NearInv.done {ns : List Int} (h : NearInv ns (rangeKs 1 ((ns.length : Int) + 1 - 1).toNat)) : true = nearB ns := by
  have e : ((ns.length : Int) + 1 - 1).toNat = ns.length := by omega
  have h := h.all
  rw [e] at h; exact h.symm
theorem NearInv.fail {ns pre : List Int} {p : Int} (hk : p = 1 + (pre.length : Int)) (hl : pre.length < ((ns.length : Int) + 1 - 1).toNat) (hp : ¬ (ns.getD (p - 1).toNat 0).fdiv (2 ^ (if 0 > 30 - p then 0 else 30 - p).toNat) = 0) : false = nearB ns := by
  rw [ite_max] at hp
  symm
  rw [nearB, List.all_eq_false]
  refine ⟨p, ?_, by rw [nearAt, beq_iff_eq]; exact hp⟩
  rw [rangeKs]
  exact List.mem_map.mpr ⟨pre.length, List.mem_range.mpr (by omega), by omega⟩

local macro_rules | `(tactic| walk_at "no such key") => `(tactic| fail "none")
local macro_rules | `(tactic| walk_at "InvEndN") => `(tactic| ((rename News _ _ _ _ => nE'); (try simp only [List.push_toArray] at nE'); (refine kst_end () (by assumption) nE' ?a ?b ?c True.intro (List.forall_mem_nil _) ?d ?e); (case a => kst_in); (case b => kst_inAny); (case c => rfl); (case d => kst_same); (case e => ((try dsimp only); k_extra "state"))))
set_option maxRecDepth 100000 in
set_option maxHeartbeats 400000 in
theorem near_ctr (w : World) (news : List (Addr × Obj)) (l : Addr) (vs : List Value) (c : Nat) (ns : List Int) (hm : (l, listOf vs.toArray c) ∈ news) (hi : IntsAre vs ns) (hlen : ns.length ≤ 63) :
    Ctr w 57 1 news [.ref l] (fun _ => .bool (nearB ns)) := by
  unfold Ctr
  k_with_none
  w_top off
  k_fill
  intro loose mean mg mb dp un gd cn cs a ccd cl outer A₀ base h₀ L m s Q E B F X N T hk hdp hun hret
  replace N := news_cons N hm
  have kMk := kstMark
  refine wpAny_call ?_
  k_dflt cell_enter
  (k_with "pyIter ref" => (k_search (fun pre => NearInv ns pre)))
  (k_with "state" => first | exact NearInv.start | exact NearInv.step (by with_reducible assumption) (by assumption))
  k_steps
  skip
  all_goals
    first
    | (have e := NearInv.done kInv; rw [e]; exact hret 0 _ _ (by with_reducible assumption) (news_tail (by with_reducible assumption)))
    | (have e := NearInv.fail kEq kLt (by assumption); rw [e]; exact hret 0 _ _ (by with_reducible assumption) (news_tail2 (by with_reducible assumption)))
end Mine

-- T4
namespace Mine
set_option maxRecDepth 100000

theorem HexInv.start' {n : Int} (h : 0 ≤ n) : HexInv n (Str.ofString "") n ∧ (Str.ofString "").length ≤ 20 := ⟨HexInv.start h, by decide +kernel⟩
theorem HexInv.step' {n number : Int} {told : Str} (h1 : n < 2 ^ 80) (h : HexInv n told number) (hp : 0 < number) : HexInv n (Txt.item (Str.ofString "0123456789ABCDEF") (number.fmod 16) ++ told) (number.fdiv 16) ∧ (Txt.item (Str.ofString "0123456789ABCDEF") (number.fmod 16) ++ told).length ≤ 20 := ⟨h.step hp, (h.step hp).len h1⟩

set_option maxRecDepth 100000 in
set_option maxHeartbeats 400000 in
theorem hex_ctr (w : World) (news : List (Addr × Obj)) (n : Int) (t : Tok) (h0 : 0 ≤ n) (h1 : n < 2 ^ 80) :
    Ctr w 64 1 news [.int n t] (fun t => .str (hexS n) t) := by
  unfold Ctr
  k_with_none
  w_top off
  k_fill
  intro loose mean mg mb dp un gd cn cs a ccd cl outer A₀ base h₀ L m s Q E B F X N T hk hdp hun hret
  have kMk := kstMark
  refine wpAny_call ?_
  k_dflt cell_enter
  (k_with "exec While Compare cons nil" => (k_while (fun _ told number => HexInv n told number ∧ told.length ≤ 20) (fun _ told number => number.toNat) "told" "number"))
  (k_with "state" => first | exact HexInv.start' (by assumption) | exact HexInv.step' (by assumption) (by assumption) (by assumption))
  (k_with "measure" => exact HexInv.less (by assumption))
  k_steps
  all_goals
    first
    | (have e := HexInv.some (by with_reducible assumption) (by with_reducible assumption) (bne_iff_ne.mp (by with_reducible assumption)); rw [e]; exact hret _ _ _ (by with_reducible assumption) (by with_reducible assumption))
    | (have e := HexInv.none (by with_reducible assumption) h0 (by with_reducible assumption) (bne_eq_false_iff_eq.mp (by with_reducible assumption)); rw [e]; exact hret _ _ _ (by with_reducible assumption) (by with_reducible assumption))
end Mine

-- T5
namespace Mine
set_option maxRecDepth 100000

theorem sub_app {α : Type} {xs ys : List α} : ∀ p ∈ xs, p ∈ xs ++ ys := fun _ h => List.mem_append.mpr (.inl h)
theorem sub_cons {α : Type} {a : α} {xs ys : List α} (h : ∀ p ∈ xs, p ∈ ys) : ∀ p ∈ a :: xs, p ∈ a :: ys := fun p hp => by
  rcases List.mem_cons.mp hp with rfl | hp
  · exact List.mem_cons_self
  · exact List.mem_cons_of_mem _ (h p hp)
theorem own_app {α : Type} {xs ys : List α} : ∀ p ∈ ys, p ∈ xs ++ ys := fun _ h => List.mem_append.mpr (.inr h)
theorem own_cons {α : Type} {a : α} {xs ys : List α} (h : ∀ p ∈ xs, p ∈ ys) : ∀ p ∈ xs, p ∈ a :: ys := fun p hp => List.mem_cons_of_mem _ (h p hp)
section
variable {prog : Program} {w : World} {A : Around} {E : Value → Shared → Prop} {s : Shared} {env : Env} {h₀ : Heap} {x : Str} {body : List Stmt} {Q : Flow → Shared → Prop}
theorem kst_end3 {α β γ : Type} {Led : α × β × γ → List (Addr × Obj)} {ps : α × β × γ → List (Str × Value)} {Facts : α × β × γ → Prop} {stored : List Str} {m₀ : Str → Option Value} {P : List Int → α × β × γ → Prop} {pre : List Int} {x1 : α} {x2 : β} {x3 : γ} {L : Addr} {m' : Str → Option Value} {own news' : List (Addr × Obj)} {adr : List Addr} {s₁ : Shared} {h' : Heap} {tk : Nat}
    (F : Fr h₀ L h' m') (N : News h₀ L h' news') (hn : ∀ p ∈ Led (x1, x2, x3), p ∈ news') (ho : ∀ p ∈ own, p ∈ news') (ha : (Led (x1, x2, x3)).map (·.1) = adr) (hf : Facts (x1, x2, x3)) (hk : ∀ p ∈ ps (x1, x2, x3), m' p.1 = some p.2) (hr : ∀ z, z ≠ x → (∀ p ∈ ps (x1, x2, x3), z ≠ p.1) → stored.contains z = false → m' z = m₀ z) (hp : P pre (x1, x2, x3)) :
    InvEndN h₀ L (KstS Led ps Facts x stored m₀ P pre) own adr s₁ { s₁ with heap := h', toks := tk } :=
  kst_end (x1, x2, x3) F N hn ho ha hf hk hr hp
end
local macro_rules | `(tactic| walk_at "InvEndN") => `(tactic| ((rename News _ _ _ _ => nE'); (try simp only [List.push_toArray] at nE'); k_dflt (refine' kst_end3 ?z nE' ?a ?b ?c ?d ?e ?f ?g; (case z => assumption); (case a => (repeat (first | exact sub_app | refine sub_cons ?_)); done); (case b => (repeat (first | exact own_app | refine own_cons ?_)); done); (case c => rfl); (case d => kst_facts); (case e => kst_all); (case f => kst_same); (case g => kst_p))))
set_option maxRecDepth 100000 in
set_option maxHeartbeats 400000 in
theorem bits_ctr (w : World) (news : List (Addr × Obj)) (l : Addr) (vs : List Value) (c : Nat) (ns : List Int) (hm : (l, listOf vs.toArray c) ∈ news) (hi : IntsAre vs ns) (hlen : ns.length ≤ 63) :
    Ctr w 36 1 news [.ref l] (fun t => .int (bitsI ns) t) := by
  unfold Ctr
  k_with_none
  w_top off
  k_fill
  intro loose mean mg mb dp un gd cn cs a ccd cl outer A₀ base h₀ L m s Q E B F X N T hk hdp hun hret
  replace N := news_cons N hm
  have kMk := kstMark
  refine wpAny_call ?_
  k_dflt cell_enter
  (k_with "pyIter ref" => k_of "place" => (k_state (fun pre seats => OutInv ns pre seats ∧ seats.length = 64) "seats"))
  (k_with "pyIter ref" => k_of "bit" => (k_state_given ["place"] (fun place pre seats => InnInv ns place pre seats ∧ seats.length = 64) "seats"))
  (k_with "pyIter ref" => k_of "seat" => (k_state_given ["seats"] (fun seats pre total => TotInv seats pre total ∧ 0 ≤ total) "total"))
  (k_with "state" => first | exact out_start rfl | exact inn_start (by with_reducible assumption) (by with_reducible assumption) (by with_reducible assumption) | exact inn_set1 (by with_reducible assumption) (by with_reducible assumption) (by assumption) (by assumption) | exact inn_set2 (by with_reducible assumption) (by with_reducible assumption) (by assumption) (by assumption) | exact inn_skip (by with_reducible assumption) (by with_reducible assumption) (by assumption) | exact out_step (by with_reducible assumption) (by with_reducible assumption) (by with_reducible assumption) | exact tot_start | exact tot_add (by with_reducible assumption) (by with_reducible assumption) (by assumption) | exact tot_skip (by with_reducible assumption) (by with_reducible assumption) (by assumption))
  k_steps
  rw [bits_done (by with_reducible assumption) (by with_reducible assumption)]
  exact hret _ _ _ (by with_reducible assumption) (news_tail (news_tail (news_tail (by with_reducible assumption))))
end Mine

-- T6
namespace Mine
set_option maxRecDepth 100000

theorem bnd_lo {ns : List Int} (hb : ∀ n ∈ ns, 0 ≤ n ∧ n < 32768) {n : Int} (h : n ∈ ns) : 0 ≤ n := (hb n h).1
theorem bnd_hi {ns : List Int} (hb : ∀ n ∈ ns, 0 ≤ n ∧ n < 32768) {n : Int} (h : n ∈ ns) : n ≤ 1114111 := by have := (hb n h).2; omega
local macro_rules | `(tactic| walk_at "no such key") => `(tactic| fail "none")
local macro_rules | `(tactic| walk_at "call builtin:chr") => `(tactic| refine chr_of_range (bnd_lo (by assumption) (by assumption)) (bnd_hi (by assumption) (by assumption)) ?_)
set_option maxRecDepth 100000 in
set_option maxHeartbeats 400000 in
theorem text_ctr (w : World) (news : List (Addr × Obj)) (l : Addr) (vs : List Value) (c : Nat) (ns : List Int) (hm : (l, listOf vs.toArray c) ∈ news) (hi : IntsAre vs ns) (hb : ∀ n ∈ ns, 0 ≤ n ∧ n < 32768) (hlen : ns.length ≤ 63) :
    Ctr w 69 1 news [.ref l] (fun t => .str (textS ns) t) := by
  unfold Ctr
  k_with_none
  w_top off
  k_fill
  intro loose mean mg mb dp un gd cn cs a ccd cl outer A₀ base h₀ L m s Q E B F X N T hk hdp hun hret
  replace N := news_cons N hm
  have kMk := kstMark
  refine wpAny_call ?_
  k_dflt cell_enter
  k_steps
  rw [join_text]
  exact hret _ _ _ (by with_reducible assumption) (news_tail (news_tail (by with_reducible assumption)))
end Mine

-- T7x
namespace Mine
set_option maxRecDepth 100000
noncomputable def hashN (cs : List Nat) : Nat := HF 1 cs ^^^ cs.length ^^^ 52811
noncomputable def hashS (x : Str) : Str := hexS (hashN x.cps.toList : Int)
theorem hash_is {pre : List Int} {pw : Int} {x : Str} (h : HashInv pre pw) (hp : pre = KStt.codes x) : Builtin.bitXor (Builtin.bitXor pw x.length) 52811 = (hashN x.cps.toList : Int) := by
  have e1 : KStt.codes x = up x.cps.toList := rfl
  have e2 : x.length = x.cps.toList.length := by simp [Str.length]
  rw [h.eq, hp, e1, hashF_cast, e2, bXor]
  exact bXor _ 52811
theorem hashN_lt {cs : List Nat} (hl : cs.length ≤ 63) (hb : ∀ c ∈ cs, c < 32768) : hashN cs < 2 ^ 64 :=
  Nat.xor_lt_two_pow (Nat.xor_lt_two_pow (HF_lt cs 1 hb (by omega)) (by omega)) (by decide)
theorem hex_len {pre : List Int} {pw : Int} {x : Str} (h : HashInv pre pw) (hp : pre = KStt.codes x) (hl : x.length ≤ 63) (hb : ∀ c ∈ x.cps.toList, c < 32768) : (baseText "0x" 16 (Builtin.bitXor (Builtin.bitXor pw x.length) 52811)).length ≤ 25 := by
  have e2 : x.length = x.cps.toList.length := by simp [Str.length]
  rw [hash_is h hp, hex_text]
  have := toDigits_len_pow (b := 16) (k := 16) (n := hashN x.cps.toList) (by decide) (by decide) (Nat.lt_of_lt_of_le (hashN_lt (by omega) hb) (by decide))
  simp [Str.length]
  omega
local macro_rules | `(tactic| walk_at "call type:enumerate") => `(tactic| (k_here; (with_reducible show wpAny _ _ (call (Value.type _) [Value.str _ _, Value.int _ _]) _ _ _); (with_unfolding_all refine call_enum1 rfl (by assumption) (by assumption) ?_); intro h' e' F' N' S'))
local macro_rules | `(tactic| walk_at "pyIter ref") => `(tactic| (k_here; (with_reducible show wpAny _ _ (pyIter (Value.ref _)) (fun it s₂ => PairAt3 _ _ _ _ _ _ _ _ _ _ it s₂) _ _); (with_unfolding_all refine' kst_enum1 (σ := Int × Nat) (fun c => [(Str.ofString "password", Value.int c.1 c.2)]) [Str.ofString "idx", Str.ofString "value", Str.ofString "rotated_bits"] (fun pre c => HashInv pre c.1) (0, _) (by assumption) ?kk ?kp ?kturn ?kdone); (case kk => kst_all); (case kp => exact hash_start); (case' kturn => (rintro ⟨pw, ptk⟩ pre post n t ti u h tk own hEq hOff hInv F' N'; (have hbn := enum_bnd (by assumption) (by assumption) hEq); (try dsimp only [kstB] at F'); (try dsimp only at hInv N'); (try dsimp only); (try k_fold))); (case' kdone => (rintro ⟨pw, ptk⟩ u h tk hInv F' N'; (try dsimp only [kstB] at F'); (try dsimp only at hInv N'); (try dsimp only); (try k_fold)))))

theorem line_of {n : Nat} (h : n ≤ 25) : n ≤ sizeLine := by rw [PySem.sizeLine_eq]; omega
local macro_rules | `(tactic| walk_at "call builtin:hex") => `(tactic| ((have hbl := hex_len (by assumption) rfl (by assumption) (by assumption)); (with_reducible refine P.hex_of_int (hsz := ?hsz) ?_); (case hsz => exact line_of (by assumption))))
set_option maxRecDepth 100000 in
set_option maxHeartbeats 400000 in
theorem hash_ctr (w : World) (news : List (Addr × Obj)) (x : Str) (t : Tok) (hlen : x.length ≤ 63) (hb : ∀ c ∈ x.cps.toList, c < 32768) :
    Ctr w 22 1 news [.str x t] (fun t => .str (hashS x) t) := by
  unfold Ctr
  k_with_none
  w_top off
  k_fill
  intro loose mean mg mb dp un gd cn cs a ccd cl outer A₀ base h₀ L m s Q E B F X N T hk hdp hun hret
  have kMk := kstMark
  refine wpAny_call ?_
  k_dflt (refine' code_def ?k1 ?k2 ?k3 ?k4 ?k5 ?kA ?kF ?kK ?k6 ?k7 ?k8 ?k9 ?kB ?_ ?c2 ?c3 ?c4 ?c5; (case kA => exact rfl); (case kF => exact rfl); (case kK => assumption); (case k1 => k_asm); (case k2 => k_asm); (case k3 => k_asm); (case k4 => k_asm); (case k5 => k_asm); (case k6 => k_is); (case k7 => k_is); (case k8 => ktr_room); (case k9 => exact binds_K (by k_in) rfl (by k_is) rfl rfl rfl); (case c5 => decide); (case kB => exact locs rfl); (case c2 => exact rfl); (case c3 => exact rfl); (case c4 => exact rfl); k_whole; intro g' L' h' FG' F' N' B' X' T'; (try dsimp only); (try k_lift B'); (try k_fold))
  (k_with "state" => exact hash_step (by assumption))
  k_steps
  rw [hash_is (by assumption) rfl, hex_upper]
  exact hret _ _ _ (by with_reducible assumption) (by with_reducible assumption)
set_option maxRecDepth 100000 in
set_option maxHeartbeats 400000 in
theorem hash_ctr0 (w : World) (news : List (Addr × Obj)) :
    Ctr w 22 1 news [] (fun t => .str (hashS (Str.ofString "")) t) := by
  have hlen : (Str.ofString "").length ≤ 63 := by decide +kernel
  have hb : ∀ c ∈ (Str.ofString "").cps.toList, c < 32768 := by rw [str_empty]; intro c hc; cases hc
  unfold Ctr
  k_with_none
  w_top off
  k_fill
  intro loose mean mg mb dp un gd cn cs a ccd cl outer A₀ base h₀ L m s Q E B F X N T hk hdp hun hret
  have kMk := kstMark
  refine wpAny_call ?_
  k_dflt (refine' code_def ?k1 ?k2 ?k3 ?k4 ?k5 ?kA ?kF ?kK ?k6 ?k7 ?k8 ?k9 ?kB ?_ ?c2 ?c3 ?c4 ?c5; (case kA => exact rfl); (case kF => exact rfl); (case kK => assumption); (case k1 => k_asm); (case k2 => k_asm); (case k3 => k_asm); (case k4 => k_asm); (case k5 => k_asm); (case k6 => k_is); (case k7 => k_is); (case k8 => ktr_room); (case k9 => exact binds_K (by k_in) rfl (by k_is) rfl rfl rfl); (case c5 => decide); (case kB => exact locs rfl); (case c2 => exact rfl); (case c3 => exact rfl); (case c4 => exact rfl); k_whole; intro g' L' h' FG' F' N' B' X' T'; (try dsimp only); (try k_lift B'); (try k_fold))
  (k_with "state" => exact hash_step (by assumption))
  generalize hx : Str.ofString "" = x at *
  k_steps
  rw [hash_is (by assumption) rfl, hex_upper]
  exact hret _ _ _ (by with_reducible assumption) (by with_reducible assumption)
end Mine

-- T8
namespace Mine
set_option maxRecDepth 100000

theorem exists_up {ns : List Int} (hb : ∀ n ∈ ns, 0 ≤ n ∧ n < 32768) : ns = up (ns.map Int.toNat) ∧ ∀ c ∈ ns.map Int.toNat, c < 2 ^ 15 := by
  constructor
  · rw [up, List.map_map]
    conv => lhs; rw [← List.map_id ns]
    exact List.map_congr_left fun n hn => (Int.toNat_of_nonneg (hb n hn).1).symm
  · intro c hc
    obtain ⟨n, hn, rfl⟩ := List.mem_map.mp hc
    have := hb n hn
    omega
theorem hashN_text (cs : List Nat) : (textS (up cs)).cps.toList = cs := by
  show ((up cs).map Int.toNat).toArray.toList = cs
  rw [up, List.map_map, List.toList_toArray]
  exact (List.map_congr_left (g := _root_.id) fun c _ => Int.toNat_natCast c).trans (List.map_id _)
theorem bits_law {ns : List Int} (hb : ∀ n ∈ ns, 0 ≤ n ∧ n < 32768) (hl : ns.length ≤ 63) : bitsI ns = (hashN (ns.map Int.toNat) : Int) ∧ hashS (textS ns) = hexS (bitsI ns) := by
  obtain ⟨e, hc⟩ := exists_up hb
  generalize ns.map Int.toNat = cs at e hc
  subst e
  have e2 : bitsI (up cs) = (hashN cs : Int) := bits_hash cs hc (by rw [List.length_map] at hl; exact hl)
  refine ⟨e2, ?_⟩
  rw [hashS, hashN_text, e2]
theorem bitsI_lo {ns : List Int} (hb : ∀ n ∈ ns, 0 ≤ n ∧ n < 32768) (hl : ns.length ≤ 63) : 0 ≤ bitsI ns := by
  rw [(bits_law hb hl).1]; omega
theorem bitsI_hi {ns : List Int} (hb : ∀ n ∈ ns, 0 ≤ n ∧ n < 32768) (hl : ns.length ≤ 63) : bitsI ns < 2 ^ 80 := by
  rw [(bits_law hb hl).1]
  have := hashN_lt (cs := ns.map Int.toNat) (by rw [List.length_map]; exact hl) (exists_up hb).2
  have e : (2 : Int) ^ 80 = ((2 ^ 80 : Nat) : Int) := by simp
  omega
theorem reg_law {ns : List Int} (hb : ∀ n ∈ ns, 0 ≤ n ∧ n < 32768) (hl : ns.length ≤ 63) (hn : nearB ns = true) : regI ns = bitsI ns := by
  rw [(bits_law hb hl).1]
  obtain ⟨e, hc⟩ := exists_up hb
  generalize ns.map Int.toNat = cs at e hc
  subst e
  rw [regI_cast, hashN, near_reg cs hc hn]
theorem regI_nat {ns : List Int} (hb : ∀ n ∈ ns, 0 ≤ n ∧ n < 32768) (hl : ns.length ≤ 63) : ∃ r : Nat, regI ns = (r : Int) ∧ r < 2 ^ 64 := by
  obtain ⟨e, hc⟩ := exists_up hb
  generalize ns.map Int.toNat = cs at e hc
  subst e
  rw [List.length_map] at hl
  exact ⟨_, regI_cast cs, Nat.xor_lt_two_pow (Nat.xor_lt_two_pow (Nat.lt_of_lt_of_le (turnN_lt _) (by decide)) (by omega)) (by decide)⟩
theorem regI_lo {ns : List Int} (hb : ∀ n ∈ ns, 0 ≤ n ∧ n < 32768) (hl : ns.length ≤ 63) : 0 ≤ regI ns := by
  obtain ⟨r, e, _⟩ := regI_nat hb hl
  rw [e]; omega
theorem regI_hi {ns : List Int} (hb : ∀ n ∈ ns, 0 ≤ n ∧ n < 32768) (hl : ns.length ≤ 63) : regI ns < 2 ^ 80 := by
  obtain ⟨r, e, h⟩ := regI_nat hb hl
  rw [e]
  have e : (2 : Int) ^ 80 = ((2 ^ 80 : Nat) : Int) := by simp
  omega
theorem hash_text (w : World) (news : List (Addr × Obj)) (ns : List Int) (t : Tok) (hb : ∀ n ∈ ns, 0 ≤ n ∧ n < 32768) (hl : ns.length ≤ 63) :
    Ctr w 22 1 news [.str (textS ns) t] (fun t => .str (hexS (bitsI ns)) t) := by
  rw [← (bits_law hb hl).2]
  refine hash_ctr w news _ t ?_ ?_
  · show (ns.map Int.toNat).toArray.size ≤ 63
    simpa using hl
  · intro c hc
    exact (exists_up hb).2 c (by simpa [textS] using hc)

local macro_rules | `(tactic| walk_at "call ref") => `(tactic| (k_here; (with_reducible show wpAny _ _ (call (Value.ref 36) _) _ _ _); k_dflt (refine' Ctr.use ?k1 ?k2 ?k3 ?k4 ?k5 ?kK (bits_ctr _ _ _ _ _ _ ?p1 ?p2 ?p3) ?kd ?ku ?_; (case k1 => k_asm); (case k2 => k_asm); (case k3 => k_asm); (case k4 => k_asm); (case k5 => k_asm); (case kK => first | exact rfl | assumption); (case p1 => k_memK); (case p2 => assumption); (case p3 => assumption); (case kd => ktr_room); (case ku => ktr_units); intro t9 h9 tk9 F9 N9; (try dsimp only); (try k_fold))))
local macro_rules | `(tactic| walk_at "call ref") => `(tactic| (k_here; (with_reducible show wpAny _ _ (call (Value.ref 50) _) _ _ _); k_dflt (refine' Ctr.use ?k1 ?k2 ?k3 ?k4 ?k5 ?kK (register_ctr _ _ _ _ _ _ ?p1 ?p2 ?p3 ?p4) ?kd ?ku ?_; (case k1 => k_asm); (case k2 => k_asm); (case k3 => k_asm); (case k4 => k_asm); (case k5 => k_asm); (case kK => first | exact rfl | assumption); (case p1 => k_memK); (case p2 => assumption); (case p3 => assumption); (case p4 => assumption); (case kd => ktr_room); (case ku => ktr_units); intro t9 h9 tk9 F9 N9; (try dsimp only); (try k_fold))))
local macro_rules | `(tactic| walk_at "call ref") => `(tactic| (k_here; (with_reducible show wpAny _ _ (call (Value.ref 57) _) _ _ _); k_dflt (refine' Ctr.use ?k1 ?k2 ?k3 ?k4 ?k5 ?kK (near_ctr _ _ _ _ _ _ ?p1 ?p2 ?p3) ?kd ?ku ?_; (case k1 => k_asm); (case k2 => k_asm); (case k3 => k_asm); (case k4 => k_asm); (case k5 => k_asm); (case kK => first | exact rfl | assumption); (case p1 => k_memK); (case p2 => assumption); (case p3 => assumption); (case kd => ktr_room); (case ku => ktr_units); intro t9 h9 tk9 F9 N9; (try dsimp only); (try k_fold))))
local macro_rules | `(tactic| walk_at "call ref") => `(tactic| (k_here; (with_reducible show wpAny _ _ (call (Value.ref 69) _) _ _ _); k_dflt (refine' Ctr.use ?k1 ?k2 ?k3 ?k4 ?k5 ?kK (text_ctr _ _ _ _ _ _ ?p1 ?p2 ?p3 ?p4) ?kd ?ku ?_; (case k1 => k_asm); (case k2 => k_asm); (case k3 => k_asm); (case k4 => k_asm); (case k5 => k_asm); (case kK => first | exact rfl | assumption); (case p1 => k_memK); (case p2 => assumption); (case p3 => assumption); (case p4 => assumption); (case kd => ktr_room); (case ku => ktr_units); intro t9 h9 tk9 F9 N9; (try dsimp only); (try k_fold))))
local macro_rules | `(tactic| walk_at "call ref") => `(tactic| (k_here; (with_reducible show wpAny _ _ (call (Value.ref 64) _) _ _ _); k_dflt (refine' Ctr.use ?k1 ?k2 ?k3 ?k4 ?k5 ?kK (hex_ctr _ _ _ _ ?p1 ?p2) ?kd ?ku ?_; (case k1 => k_asm); (case k2 => k_asm); (case k3 => k_asm); (case k4 => k_asm); (case k5 => k_asm); (case kK => first | exact rfl | assumption); (case p1 => first | with_reducible exact bitsI_lo (by assumption) (by assumption) | with_reducible exact regI_lo (by assumption) (by assumption)); (case p2 => first | with_reducible exact bitsI_hi (by assumption) (by assumption) | with_reducible exact regI_hi (by assumption) (by assumption)); (case kd => ktr_room); (case ku => ktr_units); intro t9 h9 tk9 F9 N9; (try dsimp only); (try k_fold))))
local macro_rules | `(tactic| walk_at "call ref") => `(tactic| (k_here; (with_reducible show wpAny _ _ (call (Value.ref 22) _) _ _ _); k_dflt (refine' Ctr.use ?k1 ?k2 ?k3 ?k4 ?k5 ?kK (hash_text _ _ _ _ ?p1 ?p2) ?kd ?ku ?_; (case k1 => k_asm); (case k2 => k_asm); (case k3 => k_asm); (case k4 => k_asm); (case k5 => k_asm); (case kK => first | exact rfl | assumption); (case p1 => assumption); (case p2 => assumption); (case kd => ktr_room); (case ku => ktr_units); intro t9 h9 tk9 F9 N9; (try dsimp only); (try k_fold))))

set_option maxRecDepth 100000 in
set_option maxHeartbeats 2000000 in
theorem holds_ctr (w : World) (news : List (Addr × Obj)) (l : Addr) (vs : List Value) (c : Nat) (ns : List Int) (hm : (l, listOf vs.toArray c) ∈ news) (hi : IntsAre vs ns) (hb : ∀ n ∈ ns, 0 ≤ n ∧ n < 32768) (hlen : ns.length ≤ 63) :
    Ctr w 76 3 news [.ref l] (fun _ => .bool true) := by
  unfold Ctr
  k_with_none
  w_top off
  k_fill
  intro loose mean mg mb dp un gd cn cs a ccd cl outer A₀ base h₀ L m s Q E B F X N T hk hdp hun hret
  replace N := news_cons N hm
  have kMk := kstMark
  refine wpAny_call ?_
  k_dflt cell_enter
  k_steps
  · exact absurd (by assumption : (hexS (bitsI ns) != hexS (bitsI ns)) = true) (by rw [bne_self_eq_false]; exact Bool.false_ne_true)
  · rw [reg_law hb hlen (by assumption), beq_self_eq_true]
    exact hret 0 _ _ (by with_reducible assumption) (news_tail (by with_reducible assumption))
  · rw [(by assumption : nearB ns = false)]
    exact hret 0 _ _ (by with_reducible assumption) (news_tail (by with_reducible assumption))
end Mine

-- T10
namespace Mine
set_option maxRecDepth 100000

/-- a call of the def at 'f' that ends with a new list of the ints 'ns' -/
noncomputable def CtrL (w : World) (f : Addr) (depth : Nat) (news : List (Addr × Obj)) (vs : List Value) (ns : List Int) : Prop :=
  ∀ (loose : List Str) (mean : ExcName → Option Value) (mg mb : Str → Option Value) (dp un : Nat) (gd : Option (List Code)) (cn : Str) (cs : Scope) (a : Addr) (ccd : Value) (cl : List (Str × Addr)) (outer : List Env) (A₀ : Around) (base h₀ : Heap) (L : Addr) (m : Str → Option Value) (s : Shared) (Q E : Value → Shared → Prop),
    Below A₀ base outer h₀ → Fr h₀ L s.heap m → (hd.heap_39 w.params).In h₀ → News h₀ L s.heap news → Top hd.view_39 loose mean mg mb h₀ → cs.kind = .function →
    dp + depth < recursionLimit → un + 8 * depth < cLine →
    (∀ (l : Addr) (us : List Value) (c : Nat) (h' : Heap) (tk' : Nat), IntsAre us ns → Fr h₀ L h' m → News h₀ L h' ((l, listOf us.toArray c) :: news) → Q (.ref l) { s with heap := h', toks := tk' }) →
    wpAny (model PySem.Challenge.rw_aa6031_01.row.prog w) (ktrTop dp un gd cn cs L a ccd cl outer) (call (.ref f) vs) Q E s

noncomputable def landF (ps : List Int) (n : Nat) : List Int := (rangeKs 1 n).map fun k => if (ps.any fun x => x == k) = true then 1 else 0
theorem land_ints {ys : List Value} {ps : List Int} {k : Int} (h : IntsAre ys (List.map (fun k' => if (ps.any fun x => x == k') = true then 1 else if (ps.any fun x => x == k') = false then 0 else k') (rangeKs 1 (k + 1 - 1).toNat))) : IntsAre ys (landF ps k.toNat) := by
  have e : k + 1 - 1 = k := by omega
  rw [e] at h
  have e2 : (List.map (fun k' => if (ps.any fun x => x == k') = true then 1 else if (ps.any fun x => x == k') = false then 0 else k') (rangeKs 1 k.toNat)) = landF ps k.toNat := by
    refine List.map_congr_left fun k' _ => ?_
    cases (ps.any fun x => x == k') <;> simp
  rw [← e2]; exact h
theorem news_pick {h₀ h : Heap} {L : Addr} {news : List (Addr × Obj)} {p q r : Addr × Obj} (N : News h₀ L h (p :: q :: r :: news)) : News h₀ L h (p :: news) :=
  fun x hx => N x (by
    rcases List.mem_cons.mp hx with rfl | hx
    · exact List.mem_cons_self
    · exact List.mem_cons_of_mem _ (List.mem_cons_of_mem _ (List.mem_cons_of_mem _ hx)))

set_option maxRecDepth 100000 in
set_option maxHeartbeats 2000000 in
theorem landed_ctr (w : World) (news : List (Addr × Obj)) (l : Addr) (vs : List Value) (c : Nat) (ps : List Int) (k : Int) (t : Tok) (hm : (l, listOf vs.toArray c) ∈ news) (hi : IntsAre vs ps) (h0 : 0 ≤ k) (h1 : k ≤ 63) :
    CtrL w 81 1 news [.ref l, .int k t] (landF ps k.toNat) := by
  unfold CtrL
  k_with_none
  w_top off
  k_fill
  intro loose mean mg mb dp un gd cn cs a ccd cl outer A₀ base h₀ L m s Q E B F X N T hk hdp hun hret
  replace N := news_cons N hm
  have kMk := kstMark
  refine wpAny_call ?_
  k_dflt (refine' code_defC ?k1 ?k2 ?k3 ?k4 ?k5 ?kA ?kF ?kK ?k6 ?k7 ?k8 ?k9 ?kB ?kD ?_ ?c2 ?c3 ?c4; (case kA => exact rfl); (case kF => exact rfl); (case kK => assumption); (case k1 => k_asm); (case k2 => k_asm); (case k3 => k_asm); (case k4 => k_asm); (case k5 => k_asm); (case k6 => k_is); (case k7 => k_is); (case k8 => ktr_room); (case k9 => exact BindsTo.of_eq rfl); (case kB => exact rfl); (case kD => decide +kernel); (case c2 => exact rfl); (case c3 => exact rfl); (case c4 => exact rfl); k_whole; intro g' L' h' tk' cells' FG' F' N' Y' B' X' T' l1; (try k_lt l1); k_cells Y'; (try simp only [List.cons_append, List.nil_append] at N'); (try dsimp only); (try k_lift B'); (try k_fold))
  k_steps
  exact hret _ _ _ _ _ (land_ints (by assumption)) (by with_reducible assumption) (news_pick (by assumption))
end Mine

-- T11
namespace Mine
set_option maxRecDepth 100000

-- the fixed passwords
theorem hashN_e : hashN [] = 52811 := by decide +kernel
theorem hexS_e : hexS ((52811 : Nat) : Int) = Str.ofString "CE4B" := by
  rw [← hex_upper]; decide +kernel
theorem hexS_f : hexS ((45493 : Nat) : Int) = Str.ofString "B1B5" := by
  rw [← hex_upper]; decide +kernel
theorem hexS_1 : hexS ((1 : Nat) : Int) = Str.ofString "1" := by
  rw [← hex_upper]; decide +kernel
theorem hexS_0 : hexS ((0 : Nat) : Int) = Str.ofString "0" := by
  rw [← hex_upper]; decide +kernel
theorem hexS_g : hexS ((118356 : Nat) : Int) = Str.ofString "1CE54" := by
  rw [← hex_upper]; decide +kernel
theorem hashS_e : hashS (Str.ofString "") = Str.ofString "CE4B" := by
  rw [hashS, str_empty]
  show hexS ((hashN [] : Nat) : Int) = _
  rw [hashN_e, hexS_e]
theorem hashN_f : hashN [32767] = 45493 := by decide +kernel
theorem hashS_f : hashS ⟨#[Int.toNat 32767]⟩ = Str.ofString "B1B5" := by
  rw [hashS]
  show hexS ((hashN [32767] : Nat) : Int) = _
  rw [hashN_f, hexS_f]
theorem land_bnd (ps : List Int) (n : Nat) : ∀ k ∈ landF ps n, 0 ≤ k ∧ k < 32768 := by
  intro k hk
  obtain ⟨j, _, rfl⟩ := List.mem_map.mp hk
  split <;> decide
theorem land_len (ps : List Int) {n : Nat} (h : n ≤ 63) : (landF ps n).length ≤ 63 := by
  rw [landF, List.length_map, rangeKs_length]; exact h
noncomputable def landN (ps : List Nat) (n : Nat) : List Nat := (List.range n).map fun k => if ps.contains (k + 1) then 1 else 0
theorem hashN_1 : hashN (landN [2, 4, 6, 9, 10, 11, 14, 30] 30) = 1 := by decide +kernel
theorem hashN_0 : hashN (landN [2, 4, 6, 9, 10, 11, 14, 15, 30] 30) = 0 := by decide +kernel
theorem hashN_g : hashN (landN [31] 31) = 118356 := by decide +kernel
theorem land_1 : (landF [2, 4, 6, 9, 10, 11, 14, 30] (Int.toNat 30)).map Int.toNat = landN [2, 4, 6, 9, 10, 11, 14, 30] 30 := by decide +kernel
theorem land_0 : (landF [2, 4, 6, 9, 10, 11, 14, 15, 30] (Int.toNat 30)).map Int.toNat = landN [2, 4, 6, 9, 10, 11, 14, 15, 30] 30 := by decide +kernel
theorem land_g : (landF [31] (Int.toNat 31)).map Int.toNat = landN [31] 31 := by decide +kernel
theorem one_is : hexS (bitsI (landF [2, 4, 6, 9, 10, 11, 14, 30] (Int.toNat 30))) = Str.ofString "1" := by
  rw [(bits_law (land_bnd _ _) (land_len _ (by decide))).1, land_1, hashN_1, hexS_1]
theorem none_is : hexS (bitsI (landF [2, 4, 6, 9, 10, 11, 14, 15, 30] (Int.toNat 30))) = Str.ofString "0" := by
  rw [(bits_law (land_bnd _ _) (land_len _ (by decide))).1, land_0, hashN_0, hexS_0]
theorem far_is : hexS (bitsI (landF [31] (Int.toNat 31))) = Str.ofString "1CE54" := by
  rw [(bits_law (land_bnd _ _) (land_len _ (by decide))).1, land_g, hashN_g, hexS_g]

theorem hash_none (w : World) (news : List (Addr × Obj)) : Ctr w 22 1 news [] (fun t => .str (Str.ofString "CE4B") t) := by
  rw [← hashS_e]; exact hash_ctr0 w news
theorem hash_empty (w : World) (news : List (Addr × Obj)) (t : Tok) : Ctr w 22 1 news [.str (Str.ofString "") t] (fun t => .str (Str.ofString "CE4B") t) := by
  rw [← hashS_e]
  exact hash_ctr w news _ t (by decide +kernel) (by rw [str_empty]; intro c hc; cases hc)
theorem hash_full (w : World) (news : List (Addr × Obj)) (t : Tok) : Ctr w 22 1 news [.str ⟨#[Int.toNat 32767]⟩ t] (fun t => .str (Str.ofString "B1B5") t) := by
  rw [← hashS_f]
  refine hash_ctr w news _ t (by decide) ?_
  intro c hc
  rw [List.mem_singleton.mp hc]; decide
theorem hash_one (w : World) (news : List (Addr × Obj)) (t : Tok) : Ctr w 22 1 news [.str (textS (landF [2, 4, 6, 9, 10, 11, 14, 30] (Int.toNat 30))) t] (fun t => .str (Str.ofString "1") t) := by
  rw [← one_is]; exact hash_text w news _ t (land_bnd _ _) (land_len _ (by decide))
theorem hash_nought (w : World) (news : List (Addr × Obj)) (t : Tok) : Ctr w 22 1 news [.str (textS (landF [2, 4, 6, 9, 10, 11, 14, 15, 30] (Int.toNat 30))) t] (fun t => .str (Str.ofString "0") t) := by
  rw [← none_is]; exact hash_text w news _ t (land_bnd _ _) (land_len _ (by decide))
theorem hash_far (w : World) (news : List (Addr × Obj)) (t : Tok) : Ctr w 22 1 news [.str (textS (landF [31] (Int.toNat 31))) t] (fun t => .str (Str.ofString "1CE54") t) := by
  rw [← far_is]; exact hash_text w news _ t (land_bnd _ _) (land_len _ (by decide))

theorem drawn_bnd (xs : List Int) {m : Int} (h0 : 0 < m) (h1 : m ≤ 32768) : ∀ n ∈ xs.map (fun k' => ((k' * 48271 + 11).fmod 2147483647).fmod m), 0 ≤ n ∧ n < 32768 := by
  intro n hn
  obtain ⟨k, _, rfl⟩ := List.mem_map.mp hn
  have e : ((k * 48271 + 11).fmod 2147483647).fmod m = ((k * 48271 + 11).fmod 2147483647) % m := Int.fmod_eq_emod_of_nonneg _ (by omega)
  have h2 := Int.emod_nonneg ((k * 48271 + 11).fmod 2147483647) (show m ≠ 0 by omega)
  have h3 := Int.emod_lt_of_pos ((k * 48271 + 11).fmod 2147483647) h0
  show 0 ≤ ((k * 48271 + 11).fmod 2147483647).fmod m ∧ ((k * 48271 + 11).fmod 2147483647).fmod m < 32768
  rw [e]; omega
theorem drawn_len (xs : List Int) (m : Int) : ((xs.take 63).map (fun k' => ((k' * 48271 + 11).fmod 2147483647).fmod m)).length ≤ 63 := by
  rw [List.length_map, List.length_take]; omega
theorem drawn_rev (xs : List Int) {m : Int} (h0 : 0 < m) (h1 : m ≤ 32768) : ∀ n ∈ (xs.map (fun k' => ((k' * 48271 + 11).fmod 2147483647).fmod m)).reverse, 0 ≤ n ∧ n < 32768 :=
  fun n hn => drawn_bnd xs h0 h1 n (List.mem_reverse.mp hn)
theorem drawn_rlen (xs : List Int) (m : Int) : (((xs.take 63).map (fun k' => ((k' * 48271 + 11).fmod 2147483647).fmod m)).reverse).length ≤ 63 := by
  rw [List.length_reverse]; exact drawn_len xs m
end Mine

-- T12
namespace Mine
set_option maxRecDepth 100000

theorem CtrL.use {w : World} {f : Addr} {depth : Nat} {news : List (Addr × Obj)} {vs : List Value} {ns : List Int}
  {loose : List Str} {mean : ExcName → Option Value} {mg mb : Str → Option Value} {dp un : Nat} {gd : Option (List Code)} {cn : Str} {cs : Scope} {a : Addr} {ccd : Value} {cl : List (Str × Addr)} {outer : List Env} {A₀ : Around} {base h₀ : Heap} {L : Addr} {m : Str → Option Value} {s : Shared} {Q E : Value → Shared → Prop}
  (B : Below A₀ base outer h₀) (F : Fr h₀ L s.heap m) (X : (hd.heap_39 w.params).In h₀) (N : News h₀ L s.heap news) (T : Top hd.view_39 loose mean mg mb h₀) (hk : cs.kind = .function)
  (C : CtrL w f depth news vs ns) (hd' : dp + depth < recursionLimit) (hu : un + 8 * depth < cLine)
  (ret : ∀ (l : Addr) (us : List Value) (c : Nat) (h' : Heap) (tk' : Nat), IntsAre us ns → Fr h₀ L h' m → News h₀ L h' ((l, listOf us.toArray c) :: news) → Q (.ref l) { s with heap := h', toks := tk' }) :
    wpAny (model PySem.Challenge.rw_aa6031_01.row.prog w) (ktrTop dp un gd cn cs L a ccd cl outer) (call (.ref f) vs) Q E s :=
  C _ _ _ _ _ _ _ _ _ _ _ _ _ _ _ _ _ _ _ _ _ B F X N T hk hd' hu ret

theorem landed_one (w : World) (news : List (Addr × Obj)) (l : Addr) (c : Nat) (t0 t1 t2 t3 t4 t5 t6 t7 t : Tok) (hm : (l, listOf #[.int 2 t0, .int 4 t1, .int 6 t2, .int 9 t3, .int 10 t4, .int 11 t5, .int 14 t6, .int 30 t7] c) ∈ news) : CtrL w 81 1 news [.ref l, .int 30 t] (landF [2, 4, 6, 9, 10, 11, 14, 30] (Int.toNat 30)) :=
  landed_ctr w news l [.int 2 t0, .int 4 t1, .int 6 t2, .int 9 t3, .int 10 t4, .int 11 t5, .int 14 t6, .int 30 t7] c [2, 4, 6, 9, 10, 11, 14, 30] 30 t hm (.cons 2 t0 (.cons 4 t1 (.cons 6 t2 (.cons 9 t3 (.cons 10 t4 (.cons 11 t5 (.cons 14 t6 (.cons 30 t7 IntsAre.nil)))))))) (by decide) (by decide)
theorem landed_nought (w : World) (news : List (Addr × Obj)) (l : Addr) (c : Nat) (t0 t1 t2 t3 t4 t5 t6 t7 t8 t : Tok) (hm : (l, listOf #[.int 2 t0, .int 4 t1, .int 6 t2, .int 9 t3, .int 10 t4, .int 11 t5, .int 14 t6, .int 15 t7, .int 30 t8] c) ∈ news) : CtrL w 81 1 news [.ref l, .int 30 t] (landF [2, 4, 6, 9, 10, 11, 14, 15, 30] (Int.toNat 30)) :=
  landed_ctr w news l [.int 2 t0, .int 4 t1, .int 6 t2, .int 9 t3, .int 10 t4, .int 11 t5, .int 14 t6, .int 15 t7, .int 30 t8] c [2, 4, 6, 9, 10, 11, 14, 15, 30] 30 t hm (.cons 2 t0 (.cons 4 t1 (.cons 6 t2 (.cons 9 t3 (.cons 10 t4 (.cons 11 t5 (.cons 14 t6 (.cons 15 t7 (.cons 30 t8 IntsAre.nil))))))))) (by decide) (by decide)
theorem landed_far (w : World) (news : List (Addr × Obj)) (l : Addr) (c : Nat) (t0 t : Tok) (hm : (l, listOf #[.int 31 t0] c) ∈ news) : CtrL w 81 1 news [.ref l, .int 31 t] (landF [31] (Int.toNat 31)) :=
  landed_ctr w news l [.int 31 t0] c [31] 31 t hm (.cons 31 t0 IntsAre.nil) (by decide) (by decide)
theorem no_item {ns : List Int} {i : Decidable (ns = [])} {P : Prop} (h : @decide (ns = []) i = false) (hx : 0 < -(ns.length : Int) ∨ (ns.length : Int) ≤ 0) : P := by
  exfalso
  have h1 : ns ≠ [] := of_decide_eq_false h
  have h2 := List.length_pos_iff.mpr h1
  omega
/-- the span drawn: one of the four, told by its bounds alone -/
structure SpanPost (h₀ : Heap) (L : Addr) (m : Str → Option Value) (news : List (Addr × Obj)) (s : Shared) (v : Value) (s' : Shared) : Prop where
  is : ∃ (k : Int) (t : Tok) (h' : Heap) (tk' : Nat), v = .int k t ∧ 0 < k ∧ k ≤ 32768 ∧ s' = { s with heap := h', toks := tk' } ∧ Fr h₀ L h' m ∧ News h₀ L h' news
theorem SpanPost.intro {h₀ : Heap} {L : Addr} {m : Str → Option Value} {news news' : List (Addr × Obj)} {s : Shared} {k : Int} {t : Tok} {h' : Heap} {tk' : Nat} (h0 : 0 < k) (h1 : k ≤ 32768) (F : Fr h₀ L h' m) (N : News h₀ L h' news') (hs : ∀ p ∈ news, p ∈ news') :
    SpanPost h₀ L m news s (.int k t) { s with heap := h', toks := tk' } := ⟨⟨k, t, h', tk', rfl, h0, h1, rfl, F, fun p hp => N p (hs p hp)⟩⟩
theorem span_cut {M : Model} {A : Around} {E : Value → Shared → Prop} {s : Shared} {h₀ : Heap} {L : Addr} {m : Str → Option Value} {news : List (Addr × Obj)} {t : Sem Value} {Q : Value → Shared → Prop} (_F : Fr h₀ L s.heap m) (_N : News h₀ L s.heap news)
    (cut : wpAny M A t (SpanPost h₀ L m news s) E s)
    (rest : ∀ (k : Int) (t : Tok) (h' : Heap) (tk' : Nat), 0 < k → k ≤ 32768 → Fr h₀ L h' m → News h₀ L h' news → Q (.int k t) { s with heap := h', toks := tk' }) : wpAny M A t Q E s :=
  wpAny_mono cut (fun v s' h => by
    obtain ⟨k, t, h', tk', rfl, h0, h1, rfl, F, N⟩ := h.is
    exact rest k t h' tk' h0 h1 F N) fun _ _ e => e
theorem sub_front {α : Type} {xs : List α} {a : α} {ys : List α} (h : ∀ p ∈ xs, p ∈ ys) : ∀ p ∈ xs, p ∈ a :: ys := fun p hp => List.mem_cons_of_mem _ (h p hp)
local macro_rules | `(tactic| walk_at "eval IfExp") => `(tactic| (k_here; (fail_if_success (with_reducible show wpAny _ _ _ (SpanPost _ _ _ _ _) _ _)); (with_reducible show wpAny _ _ (eval (Expr.IfExp (Expr.Compare _ _ _ _) _ _ _) _) _ _ _); (refine span_cut (by assumption) (by assumption) ?cut ?rest); (case' rest => (intro k9 t9 h9 tk9 b9 b8 F9 N9; (try dsimp only); (try k_fold)))))
local macro_rules | `(tactic| walk_at "SpanPost") => `(tactic| (refine SpanPost.intro (by decide) (by decide) (by assumption) (by assumption) ?_; (repeat (first | exact fun _ h => h | refine sub_front ?_))))
local macro_rules | `(tactic| walk_at "call ref") => `(tactic| (k_here; (with_reducible show wpAny _ _ (call (Value.ref 22) _) _ _ _); k_dflt (refine' Ctr.use ?k1 ?k2 ?k3 ?k4 ?k5 ?kK (hash_none _ _) ?kd ?ku ?_; (case k1 => k_asm); (case k2 => k_asm); (case k3 => k_asm); (case k4 => k_asm); (case k5 => k_asm); (case kK => first | exact rfl | assumption); (case kd => ktr_room); (case ku => ktr_units); intro t9 h9 tk9 F9 N9; (try dsimp only); (try k_fold))))
local macro_rules | `(tactic| walk_at "call ref") => `(tactic| (k_here; (with_reducible show wpAny _ _ (call (Value.ref 22) [Value.str (PySem.Str.ofString "") _]) _ _ _); k_dflt (refine' Ctr.use ?k1 ?k2 ?k3 ?k4 ?k5 ?kK (hash_empty _ _ _) ?kd ?ku ?_; (case k1 => k_asm); (case k2 => k_asm); (case k3 => k_asm); (case k4 => k_asm); (case k5 => k_asm); (case kK => first | exact rfl | assumption); (case kd => ktr_room); (case ku => ktr_units); intro t9 h9 tk9 F9 N9; (try dsimp only); (try k_fold))))
local macro_rules | `(tactic| walk_at "call ref") => `(tactic| (k_here; (with_reducible show wpAny _ _ (call (Value.ref 22) [Value.str (PySem.Str.mk _) _]) _ _ _); k_dflt (refine' Ctr.use ?k1 ?k2 ?k3 ?k4 ?k5 ?kK (hash_full _ _ _) ?kd ?ku ?_; (case k1 => k_asm); (case k2 => k_asm); (case k3 => k_asm); (case k4 => k_asm); (case k5 => k_asm); (case kK => first | exact rfl | assumption); (case kd => ktr_room); (case ku => ktr_units); intro t9 h9 tk9 F9 N9; (try dsimp only); (try k_fold))))
local macro_rules | `(tactic| walk_at "call ref") => `(tactic| (k_here; (with_reducible show wpAny _ _ (call (Value.ref 22) [Value.str (textS (landF [_, _, _, _, _, _, _, _] _)) _]) _ _ _); k_dflt (refine' Ctr.use ?k1 ?k2 ?k3 ?k4 ?k5 ?kK (hash_one _ _ _) ?kd ?ku ?_; (case k1 => k_asm); (case k2 => k_asm); (case k3 => k_asm); (case k4 => k_asm); (case k5 => k_asm); (case kK => first | exact rfl | assumption); (case kd => ktr_room); (case ku => ktr_units); intro t9 h9 tk9 F9 N9; (try dsimp only); (try k_fold))))
local macro_rules | `(tactic| walk_at "call ref") => `(tactic| (k_here; (with_reducible show wpAny _ _ (call (Value.ref 22) [Value.str (textS (landF [_, _, _, _, _, _, _, _, _] _)) _]) _ _ _); k_dflt (refine' Ctr.use ?k1 ?k2 ?k3 ?k4 ?k5 ?kK (hash_nought _ _ _) ?kd ?ku ?_; (case k1 => k_asm); (case k2 => k_asm); (case k3 => k_asm); (case k4 => k_asm); (case k5 => k_asm); (case kK => first | exact rfl | assumption); (case kd => ktr_room); (case ku => ktr_units); intro t9 h9 tk9 F9 N9; (try dsimp only); (try k_fold))))
local macro_rules | `(tactic| walk_at "call ref") => `(tactic| (k_here; (with_reducible show wpAny _ _ (call (Value.ref 22) [Value.str (textS (landF [_] _)) _]) _ _ _); k_dflt (refine' Ctr.use ?k1 ?k2 ?k3 ?k4 ?k5 ?kK (hash_far _ _ _) ?kd ?ku ?_; (case k1 => k_asm); (case k2 => k_asm); (case k3 => k_asm); (case k4 => k_asm); (case k5 => k_asm); (case kK => first | exact rfl | assumption); (case kd => ktr_room); (case ku => ktr_units); intro t9 h9 tk9 F9 N9; (try dsimp only); (try k_fold))))
local macro_rules | `(tactic| walk_at "call ref") => `(tactic| (k_here; (with_reducible show wpAny _ _ (call (Value.ref 69) _) _ _ _); k_dflt (refine' Ctr.use ?k1 ?k2 ?k3 ?k4 ?k5 ?kK (text_ctr _ _ _ _ _ _ ?p1 ?p2 ?p3 ?p4) ?kd ?ku ?_; (case k1 => (k_asm)); (case k2 => (k_asm)); (case k3 => (k_asm)); (case k4 => (k_asm)); (case k5 => (k_asm)); (case kK => (first | exact rfl | assumption)); (case p1 => (k_memK)); (case p2 => assumption); (case p3 => exact land_bnd _ _); (case p4 => exact land_len _ (by decide)); (case kd => (ktr_room)); (case ku => (ktr_units)); intro t9 h9 tk9 F9 N9; (try dsimp only); (try k_fold))))
local macro_rules | `(tactic| walk_at "call ref") => `(tactic| (k_here; (with_reducible show wpAny _ _ (call (Value.ref 76) _) _ _ _); k_dflt (refine' Ctr.use ?k1 ?k2 ?k3 ?k4 ?k5 ?kK (holds_ctr _ _ _ _ _ _ ?p1 ?p2 ?p3 ?p4) ?kd ?ku ?_; (case k1 => k_asm); (case k2 => k_asm); (case k3 => k_asm); (case k4 => k_asm); (case k5 => k_asm); (case kK => first | exact rfl | assumption); (case p1 => k_memK); (case p2 => assumption); (case p3 => first | exact drawn_bnd _ (by omega) (by omega) | exact drawn_rev _ (by omega) (by omega)); (case p4 => first | exact drawn_len _ _ | exact drawn_rlen _ _); (case kd => ktr_room); (case ku => ktr_units); intro t9 h9 tk9 F9 N9; (try dsimp only); (try k_fold))))

local macro_rules | `(tactic| walk_at "call ref") => `(tactic| (k_here; (with_reducible show wpAny _ _ (call (Value.ref 81) _) _ _ _); k_dflt (refine' CtrL.use ?k1 ?k2 ?k3 ?k4 ?k5 ?kK (landed_one _ _ _ _ _ _ _ _ _ _ _ _ _ ?p1) ?kd ?ku ?_; (case k1 => k_asm); (case k2 => k_asm); (case k3 => k_asm); (case k4 => k_asm); (case k5 => k_asm); (case kK => first | exact rfl | assumption); (case p1 => k_memK); (case kd => ktr_room); (case ku => ktr_units); intro l9 u9 c9 h9 tk9 I9 F9 N9; (try dsimp only); (try k_fold))))
local macro_rules | `(tactic| walk_at "call ref") => `(tactic| (k_here; (with_reducible show wpAny _ _ (call (Value.ref 81) _) _ _ _); k_dflt (refine' CtrL.use ?k1 ?k2 ?k3 ?k4 ?k5 ?kK (landed_nought _ _ _ _ _ _ _ _ _ _ _ _ _ _ ?p1) ?kd ?ku ?_; (case k1 => k_asm); (case k2 => k_asm); (case k3 => k_asm); (case k4 => k_asm); (case k5 => k_asm); (case kK => first | exact rfl | assumption); (case p1 => k_memK); (case kd => ktr_room); (case ku => ktr_units); intro l9 u9 c9 h9 tk9 I9 F9 N9; (try dsimp only); (try k_fold))))
local macro_rules | `(tactic| walk_at "call ref") => `(tactic| (k_here; (with_reducible show wpAny _ _ (call (Value.ref 81) _) _ _ _); k_dflt (refine' CtrL.use ?k1 ?k2 ?k3 ?k4 ?k5 ?kK (landed_far _ _ _ _ _ _ ?p1) ?kd ?ku ?_; (case k1 => k_asm); (case k2 => k_asm); (case k3 => k_asm); (case k4 => k_asm); (case k5 => k_asm); (case kK => first | exact rfl | assumption); (case p1 => k_memK); (case kd => ktr_room); (case ku => ktr_units); intro l9 u9 c9 h9 tk9 I9 F9 N9; (try dsimp only); (try k_fold))))

set_option maxRecDepth 100000 in
set_option maxHeartbeats 4000000 in
theorem law_holds : PySem.Challenge.rw_aa6031_01.Holds := hd (by
  k_with_none
  k_go0
  all_goals try k_fold
  have kMk := kstMark
  k_steps
  all_goals exact no_item (by assumption) (by assumption))
end Mine

set_option maxRecDepth 100000 in
theorem PySem.Challenge.cw_aa6031_01_holds : PySem.Challenge.rw_aa6031_01.Holds := by
  exact Mine.law_holds
