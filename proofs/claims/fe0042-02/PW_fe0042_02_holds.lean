import PyProof.Rows.All
import Wide.All
import OpenK.AllK
import Wide.FinOn
import PySem.Challenge.RW_fe0042_02
open PySem PySem.W PyProof.Rows
set_option Elab.async false
set_option maxRecDepth 100000
set_option maxHeartbeats 8000000
set_option linter.unusedVariables false
set_option linter.unusedSimpArgs false
-- Hd2
namespace B58
open PySem PySem.W PyProof.Rows
open_top hd for PySem.Challenge.rw_fe0042_02
end B58
-- QCtr1
namespace B58
open PySem PySem.W PyProof.Rows
noncomputable abbrev pg : Program := PySem.Challenge.rw_fe0042_02.row.prog
noncomputable abbrev KK (w : World) : Frag := B58.hd.heap_39 w.params
noncomputable abbrev loose : List Str := looseW B58.hd.view_39 [Str.ofString "b58encode_int", Str.ofString "b58encode", Str.ofString "b58decode_int", Str.ofString "b58decode"]

/-- the contract of a call that hands back a value and keeps the ledger -/
noncomputable abbrev Ret (h₀ : Heap) (L : Addr) (m : Str → Option Value) (news : List (Addr × Obj)) (s : Shared) (Q : Value → Shared → Prop) (R : Tok → Value) : Prop :=
  ∀ (t : Tok) (h' : Heap) (tk' : Nat), Fr h₀ L h' m → News h₀ L h' news → Q (R t) { s with heap := h', toks := tk' }

noncomputable abbrev Ctr (k : Nat) (w : World) (f : Addr) (Pre : Heap → Prop) (vs : List Value) (kw : List (Str × Value)) (R : Tok → Value) : Prop :=
  ∀ (mean : ExcName → Option Value) (mg mb : Str → Option Value) (dp un : Nat) (gd : Option (List Code)) (cn : Str) (sn : List (Str × NameKind)) (sg sc : Bool) (sm : List (Str × Const)) (a : Addr) (ccd : Value) (cl : List (Str × Addr)) (outer : List Env) (A₀ : Around) (base h₀ : Heap) (L : Addr) (m : Str → Option Value) (s : Shared) (news : List (Addr × Obj)) (Q E : Value → Shared → Prop),
    Pre s.heap → Below A₀ base outer h₀ → Fr h₀ L s.heap m → (B58.hd.heap_39 w.params).In h₀ → News h₀ L s.heap news → Top B58.hd.view_39 loose mean mg mb h₀ → dp + k < recursionLimit → un + 10 * k < cLine → Ret h₀ L m news s Q R →
      wpAny (model PySem.Challenge.rw_fe0042_02.row.prog w) (ktrTop dp un gd cn ⟨.function, sn, sg, sc, sm⟩ L a ccd cl outer) (call (.ref f) vs kw) Q E s

section
variable {k : Nat} {w : World} {f : Addr} {Pre : Heap → Prop} {vs : List Value} {kw : List (Str × Value)} {R : Tok → Value}
theorem Ctr.use {P : Prop} (C : Ctr k w f Pre vs kw R) (hP : P) {mean : ExcName → Option Value} {mg mb : Str → Option Value} {dp un : Nat} {gd : Option (List Code)} {cn : Str} {sn : List (Str × NameKind)} {sg sc : Bool} {sm : List (Str × Const)} {a : Addr} {ccd : Value} {cl : List (Str × Addr)} {outer : List Env} {A₀ : Around} {base h₀ : Heap} {L : Addr} {m : Str → Option Value} {s : Shared} {news : List (Addr × Obj)} {Q E : Value → Shared → Prop}
    (hpre : Pre s.heap) (B : Below A₀ base outer h₀) (F : Fr h₀ L s.heap m) (X : (B58.hd.heap_39 w.params).In h₀) (N : News h₀ L s.heap news) (T : Top B58.hd.view_39 loose mean mg mb h₀) (h1 : dp + k < recursionLimit) (h2 : un + 10 * k < cLine)
    (hret : P → ∀ (t : Tok) (h' : Heap) (tk' : Nat), Fr h₀ L h' m → News h₀ L h' news → Q (R t) { s with heap := h', toks := tk' }) :
    wpAny (model PySem.Challenge.rw_fe0042_02.row.prog w) (ktrTop dp un gd cn ⟨.function, sn, sg, sc, sm⟩ L a ccd cl outer) (call (.ref f) vs kw) Q E s :=
  C mean mg mb dp un gd cn sn sg sc sm a ccd cl outer A₀ base h₀ L m s news Q E hpre B F X N T h1 h2 (hret hP)
theorem ret_b {h₀ : Heap} {L : Addr} {m : Str → Option Value} {news : List (Addr × Obj)} {s : Shared} {Q : Value → Shared → Prop} {b c : Array UInt8} (hret : Ret h₀ L m news s Q (fun t => .bytes b t)) {h' : Heap} {tk' : Nat} {t : Tok} (e : c = b) (F : Fr h₀ L h' m) (N : News h₀ L h' news) :
    Q (.bytes c t) { s with heap := h', toks := tk' } := by subst e; exact hret t h' tk' F N
theorem ret_i {h₀ : Heap} {L : Addr} {m : Str → Option Value} {news : List (Addr × Obj)} {s : Shared} {Q : Value → Shared → Prop} {b c : Int} (hret : Ret h₀ L m news s Q (fun t => .int b t)) {h' : Heap} {tk' : Nat} {t : Tok} (e : c = b) (F : Fr h₀ L h' m) (N : News h₀ L h' news) :
    Q (.int c t) { s with heap := h', toks := tk' } := by subst e; exact hret t h' tk' F N
theorem ret_t {h₀ : Heap} {L : Addr} {m : Str → Option Value} {news : List (Addr × Obj)} {s : Shared} {Q : Value → Shared → Prop} {b c : Bool} (hret : Ret h₀ L m news s Q (fun _ => .bool b)) {h' : Heap} {tk' : Nat} (e : c = b) (F : Fr h₀ L h' m) (N : News h₀ L h' news) :
    Q (.bool c) { s with heap := h', toks := tk' } := by subst e; exact hret 0 h' tk' F N
end

/-- a call that hands back a new list of ints -/
noncomputable abbrev RetL (h₀ : Heap) (L : Addr) (m : Str → Option Value) (news : List (Addr × Obj)) (s : Shared) (Q : Value → Shared → Prop) (ns : List Int) : Prop :=
  ∀ (D : Addr) (vs : List Value) (c : Nat) (h' : Heap) (tk' : Nat), Fr h₀ L h' m → News h₀ L h' ((D, listOf vs.toArray c) :: news) → IntsAre vs ns → (∀ p ∈ news, @Ne Nat p.1 D) → Q (.ref D) { s with heap := h', toks := tk' }
noncomputable abbrev CtrL (k : Nat) (w : World) (f : Addr) (Pre : Heap → Prop) (vs : List Value) (kw : List (Str × Value)) (ns : List Int) : Prop :=
  ∀ (mean : ExcName → Option Value) (mg mb : Str → Option Value) (dp un : Nat) (gd : Option (List Code)) (cn : Str) (sn : List (Str × NameKind)) (sg sc : Bool) (sm : List (Str × Const)) (a : Addr) (ccd : Value) (cl : List (Str × Addr)) (outer : List Env) (A₀ : Around) (base h₀ : Heap) (L : Addr) (m : Str → Option Value) (s : Shared) (news : List (Addr × Obj)) (Q E : Value → Shared → Prop),
    Pre s.heap → Below A₀ base outer h₀ → Fr h₀ L s.heap m → (B58.hd.heap_39 w.params).In h₀ → News h₀ L s.heap news → Top B58.hd.view_39 loose mean mg mb h₀ → dp + k < recursionLimit → un + 10 * k < cLine → RetL h₀ L m news s Q ns →
      wpAny (model PySem.Challenge.rw_fe0042_02.row.prog w) (ktrTop dp un gd cn ⟨.function, sn, sg, sc, sm⟩ L a ccd cl outer) (call (.ref f) vs kw) Q E s
section
variable {k : Nat} {w : World} {f : Addr} {Pre : Heap → Prop} {vs : List Value} {kw : List (Str × Value)} {ns : List Int}
theorem CtrL.use {P : Prop} (C : CtrL k w f Pre vs kw ns) (hP : P) {mean : ExcName → Option Value} {mg mb : Str → Option Value} {dp un : Nat} {gd : Option (List Code)} {cn : Str} {sn : List (Str × NameKind)} {sg sc : Bool} {sm : List (Str × Const)} {a : Addr} {ccd : Value} {cl : List (Str × Addr)} {outer : List Env} {A₀ : Around} {base h₀ : Heap} {L : Addr} {m : Str → Option Value} {s : Shared} {news : List (Addr × Obj)} {Q E : Value → Shared → Prop}
    (hpre : Pre s.heap) (B : Below A₀ base outer h₀) (F : Fr h₀ L s.heap m) (X : (B58.hd.heap_39 w.params).In h₀) (N : News h₀ L s.heap news) (T : Top B58.hd.view_39 loose mean mg mb h₀) (h1 : dp + k < recursionLimit) (h2 : un + 10 * k < cLine)
    (hret : P → ∀ (D : Addr) (vs : List Value) (c : Nat) (h' : Heap) (tk' : Nat), Fr h₀ L h' m → News h₀ L h' ((D, listOf vs.toArray c) :: news) → IntsAre vs ns → (∀ p ∈ news, @Ne Nat p.1 D) → Q (.ref D) { s with heap := h', toks := tk' }) :
    wpAny (model PySem.Challenge.rw_fe0042_02.row.prog w) (ktrTop dp un gd cn ⟨.function, sn, sg, sc, sm⟩ L a ccd cl outer) (call (.ref f) vs kw) Q E s :=
  C mean mg mb dp un gd cn sn sg sc sm a ccd cl outer A₀ base h₀ L m s news Q E hpre B F X N T h1 h2 (hret hP)
theorem fm_ne {h₀ g h h' : Heap} {L L' D : Addr} {o : Obj} {news led : List (Addr × Obj)} (G : ∀ b o, h.get? b = some o → g.get? b = some o) (N : News h₀ L h news) (N' : News g L' h' led) (hm : (D, o) ∈ led) : ∀ p ∈ news, @Ne Nat p.1 D := by
  intro p hp e
  have h1 := G _ _ (N p hp).1
  have h2 := (N' _ hm).2.2
  rw [e] at h1
  rw [h1] at h2
  cases h2
theorem ret_l {h₀ : Heap} {L D : Addr} {m : Str → Option Value} {news led : List (Addr × Obj)} {s : Shared} {Q : Value → Shared → Prop} {ns ns' : List Int} {vs : List Value} {c : Nat} (hret : RetL h₀ L m news s Q ns) {h' : Heap} {tk' : Nat}
    (e : ns' = ns) (hi : IntsAre vs ns') (F : Fr h₀ L h' m) (N : News h₀ L h' led) (hm : (D, listOf vs.toArray c) ∈ led) (N9 : News h₀ L h' news) (hne : ∀ p ∈ news, p.1 ≠ D) : Q (.ref D) { s with heap := h', toks := tk' } := by
  subst e
  exact hret D vs c h' tk' F (fun p hp => by
    rcases List.mem_cons.mp hp with rfl | hp
    · exact N _ hm
    · exact N9 p hp) hi hne
end

/-- any call: Ret says what the caller asks -/
noncomputable abbrev CtrX (k : Nat) (w : World) (f : Addr) (Pre : Heap → Prop) (vs : List Value) (kw : List (Str × Value)) (Ret : Heap → Addr → (Str → Option Value) → List (Addr × Obj) → Shared → (Value → Shared → Prop) → Prop) : Prop :=
  ∀ (mean : ExcName → Option Value) (mg mb : Str → Option Value) (dp un : Nat) (gd : Option (List Code)) (cn : Str) (sn : List (Str × NameKind)) (sg sc : Bool) (sm : List (Str × Const)) (a : Addr) (ccd : Value) (cl : List (Str × Addr)) (outer : List Env) (A₀ : Around) (base h₀ : Heap) (L : Addr) (m : Str → Option Value) (s : Shared) (news : List (Addr × Obj)) (Q E : Value → Shared → Prop),
    Pre s.heap → Below A₀ base outer h₀ → Fr h₀ L s.heap m → (B58.hd.heap_39 w.params).In h₀ → News h₀ L s.heap news → Top B58.hd.view_39 loose mean mg mb h₀ → dp + k < recursionLimit → un + 10 * k < cLine → Ret h₀ L m news s Q →
      wpAny (model PySem.Challenge.rw_fe0042_02.row.prog w) (ktrTop dp un gd cn ⟨.function, sn, sg, sc, sm⟩ L a ccd cl outer) (call (.ref f) vs kw) Q E s
section
variable {k : Nat} {w : World} {f : Addr} {Pre : Heap → Prop} {vs : List Value} {kw : List (Str × Value)} {Ret : Heap → Addr → (Str → Option Value) → List (Addr × Obj) → Shared → (Value → Shared → Prop) → Prop}
theorem CtrX.use (C : CtrX k w f Pre vs kw Ret) {mean : ExcName → Option Value} {mg mb : Str → Option Value} {dp un : Nat} {gd : Option (List Code)} {cn : Str} {sn : List (Str × NameKind)} {sg sc : Bool} {sm : List (Str × Const)} {a : Addr} {ccd : Value} {cl : List (Str × Addr)} {outer : List Env} {A₀ : Around} {base h₀ : Heap} {L : Addr} {m : Str → Option Value} {s : Shared} {news : List (Addr × Obj)} {Q E : Value → Shared → Prop}
    (hpre : Pre s.heap) (B : Below A₀ base outer h₀) (F : Fr h₀ L s.heap m) (X : (B58.hd.heap_39 w.params).In h₀) (N : News h₀ L s.heap news) (T : Top B58.hd.view_39 loose mean mg mb h₀) (h1 : dp + k < recursionLimit) (h2 : un + 10 * k < cLine)
    (hret : Ret h₀ L m news s Q) :
    wpAny (model PySem.Challenge.rw_fe0042_02.row.prog w) (ktrTop dp un gd cn ⟨.function, sn, sg, sc, sm⟩ L a ccd cl outer) (call (.ref f) vs kw) Q E s :=
  C mean mg mb dp un gd cn sn sg sc sm a ccd cl outer A₀ base h₀ L m s news Q E hpre B F X N T h1 h2 hret
end
end B58

local macro_rules | `(tactic| k_room) => `(tactic| ktr_room)
-- Pure1
namespace B58
open PySem PySem.W PyProof.Rows
/-- the digits of n to the base b, the greatest first, none for 0 -/
def digs (b n : Nat) : List Nat :=
  if _h : n = 0 ∨ b < 2 then [] else digs b (n / b) ++ [n % b]
termination_by n
decreasing_by exact Nat.div_lt_self (by omega) (by omega)

theorem digs_zero (b : Nat) : digs b 0 = [] := by rw [digs]; simp
theorem digs_pos {b n : Nat} (hn : n ≠ 0) (hb : 2 ≤ b) : digs b n = digs b (n / b) ++ [n % b] := by
  rw [digs, dif_neg (by omega)]

/-- a byte of an alphabet -/
def sign (al : Array UInt8) (d : Nat) : UInt8 := al.getD d 0
def encN (al : Array UInt8) (n : Nat) : List UInt8 := (digs al.size n).map (sign al)

theorem encN_zero (al : Array UInt8) : encN al 0 = [] := by rw [encN, digs_zero]; rfl
theorem encN_step {al : Array UInt8} {n : Nat} (hn : n ≠ 0) (hb : 2 ≤ al.size) : encN al n = encN al (n / al.size) ++ [sign al (n % al.size)] := by
  rw [encN, digs_pos hn hb, List.map_append]; rfl
end B58
namespace B58
open PySem PySem.W PyProof.Rows
theorem digs_length {b : Nat} (hb : 2 ≤ b) : ∀ (k n : Nat), n < 2 ^ k → (digs b n).length ≤ k
  | 0, n, h => by
    have : n = 0 := by simpa using h
    subst this; rw [digs_zero]; simp
  | k + 1, n, h => by
    by_cases hn : n = 0
    · subst hn; rw [digs_zero]; simp
    · rw [digs_pos hn hb, List.length_append, List.length_singleton]
      have : n / b < 2 ^ k := by
        rw [Nat.div_lt_iff_lt_mul (by omega)]
        calc n < 2 ^ k * 2 := by rw [← Nat.pow_succ]; exact h
          _ ≤ 2 ^ k * b := Nat.mul_le_mul_left _ hb
      have := digs_length hb k _ this
      omega
theorem encN_length {al : Array UInt8} (hb : 2 ≤ al.size) {k n : Nat} (h : n < 2 ^ k) : (encN al n).length ≤ k := by
  rw [encN, List.length_map]; exact digs_length hb k n h

/-- the word of the loop of b58encode_int -/
def EncP (al : Array UInt8) (n : Int) (i : Int) (st : Array UInt8) : Prop := 0 ≤ i ∧ i ≤ n ∧ st.size ≤ 200 ∧ encN al i.toNat ++ st.toList = encN al n.toNat
theorem encP_start {al : Array UInt8} {n : Int} (h : 0 ≤ n) : EncP al n n #[] := ⟨h, Int.le_refl _, by simp, by simp⟩
theorem encP_turn {al : Array UInt8} {n i : Int} {st : Array UInt8} (hb : 2 ≤ al.size) (hn2 : n.toNat < 2 ^ 200) (h : EncP al n i st) (hi : i ≠ 0) :
    EncP al n (i.fdiv (al.size : Int)) (#[sign al (i.fmod (al.size : Int)).toNat] ++ st) := by
  obtain ⟨h0, h1, h2, h3⟩ := h
  obtain ⟨k, rfl⟩ := Int.eq_ofNat_of_zero_le h0
  have e1 : (k : Int).fdiv (al.size : Int) = ((k / al.size : Nat) : Int) := by rw [Int.fdiv_eq_ediv_of_nonneg _ (by omega)]; rfl
  have e2 : (k : Int).fmod (al.size : Int) = ((k % al.size : Nat) : Int) := by rw [Int.fmod_eq_emod_of_nonneg _ (by omega)]; rfl
  rw [e1, e2]
  have hk : k ≠ 0 := by omega
  have hle : k / al.size ≤ k := Nat.div_le_self _ _
  have eq : encN al (k / al.size) ++ (sign al (k % al.size) :: st.toList) = encN al n.toNat := by
    rw [← h3]
    show _ = encN al k ++ _
    rw [encN_step hk hb, List.append_assoc]; rfl
  generalize k / al.size = q at *
  refine ⟨by omega, by omega, ?_, ?_⟩
  · have hl := encN_length hb (k := 200) hn2
    rw [← eq] at hl
    simp at hl ⊢
    omega
  · simp only [Int.toNat_natCast]
    rw [← eq]
    simp
theorem encP_turn_div {al : Array UInt8} {i : Int} (hb : 2 ≤ al.size) (h0 : 0 ≤ i) (hi : i ≠ 0) : (i.fdiv (al.size : Int)).toNat < i.toNat := by
  obtain ⟨k, rfl⟩ := Int.eq_ofNat_of_zero_le h0
  have e1 : (k : Int).fdiv (al.size : Int) = ((k / al.size : Nat) : Int) := by rw [Int.fdiv_eq_ediv_of_nonneg _ (by omega)]; rfl
  rw [e1]
  simp only [Int.toNat_natCast]
  exact Nat.div_lt_self (by omega) (by omega)
theorem encP_end {al : Array UInt8} {n : Int} {st : Array UInt8} (h : EncP al n 0 st) : st = (encN al n.toNat).toArray := by
  obtain ⟨_, _, _, h3⟩ := h
  rw [← h3]
  simp [encN_zero]
theorem encP_start' {al : Array UInt8} {n : Int} (h : 0 ≤ n) : 0 ≤ n ∧ (#[] : Array UInt8).size ≤ 200 ∧ EncP al n n #[] := ⟨h, by simp, encP_start h⟩
theorem encP_turn' {al : Array UInt8} {n i : Int} {st : Array UInt8} (hb : 2 ≤ al.size) (hn2 : n.toNat < 2 ^ 200) (h : EncP al n i st) (hi : i ≠ 0) :
    0 ≤ i.fdiv (al.size : Int) ∧ (#[sign al (i.fmod (al.size : Int)).toNat] ++ st).size ≤ 200 ∧ EncP al n (i.fdiv (al.size : Int)) (#[sign al (i.fmod (al.size : Int)).toNat] ++ st) :=
  have := encP_turn hb hn2 h hi
  ⟨this.1, this.2.2.1, this⟩
end B58
-- R1
namespace B58
open PySem PySem.W PyProof.Rows PySem.Calls
open PyProof.V PySem.Spec

theorem picked_one (b : Array UInt8) {i : Int} (h0 : 0 ≤ i) (h1 : i < b.size) : KBy.picked b (some i) (some (i + 1)) = #[sign b i.toNat] := by
  obtain ⟨n, rfl⟩ := Int.eq_ofNat_of_zero_le h0
  have hn : n < b.size := by omega
  rw [KBc.picked_eq]
  simp only [Option.elim]
  have e1 : clipAt b.size (n : Int) = min n b.size := clipAt_nat _ _
  have e2 : clipAt b.size ((n : Int) + 1) = min (n + 1) b.size := clipAt_nat _ (n + 1)
  rw [e1, e2, Nat.min_eq_left (by omega), Nat.min_eq_left (by omega)]
  have : n + 1 - n = 1 := by omega
  rw [this]
  simp only [sign, Int.toNat_natCast, Int.ofNat_eq_natCast]
  apply congrArg List.toArray
  rw [List.take_one, List.head?_drop]
  simp [Array.getD, hn]

section
variable {prog : Program} {w : World} {A : Around} {E : Value → Shared → Prop} {s : Shared} {value slice : PySem.Expr} {b : Array UInt8} {t : Tok} {h₀ : Heap} {L : Addr} {m : PySem.Str → Option Value} {news : List (Addr × Obj)} {Q : Value → Shared → Prop} {i : Int} {ti tj : Tok}

theorem slice_one (hF : Fr h₀ L s.heap m) (hN : News h₀ L s.heap news) (h0 : 0 ≤ i) (h1 : i < b.size) (hz : b.size ≤ 16777216)
    (h : ∀ h' t' k, Fr h₀ L h' m → News h₀ L h' news → Q (.bytes #[sign b i.toNat] t') { s with heap := h', toks := k })
    (hs : subscripted slice false (.bytes b t) (.ref s.heap.objs.size) = operate [.ref s.heap.objs.size, .bytes b t] (getItem (.bytes b t) (.ref s.heap.objs.size)) := by with_unfolding_all rfl)
    (ht : ∀ r, letTemporaryGo value (.bytes b t) r = pure () := by intro _; with_unfolding_all rfl) :
    wpAny (model prog w) A (subscriptTail value slice (.bytes b t) (.ref s.heap.objs.size)) Q E { s with heap := s.heap.push { cls := .type "slice", data := .fields #[.int i ti, .int (i + 1) tj, .none] } } :=
  KBc.slice_K hF hN rfl (.int i ti) (.int (i + 1) tj) (by rw [KBw.ints_length]; exact hz) (fun h' t' k F' N' _ => by rw [picked_one b h0 h1]; exact h h' t' k F' N') hs ht
end

end B58
-- R2
namespace B58
open PySem PySem.W PyProof.Rows PySem.Calls
open PyProof.V PySem.Spec PySem.Builtin

/-! bytes.lstrip, bytes.rstrip -/
theorem slot_lstrip : Slot "bytes" "lstrip" "bytes.lstrip" :=
  .of (owner := "bytes") (n := "lstrip") (by rw [typeLookup_type, builtinLookup_eq_fast]; kernel_rfl) (by decide +kernel) (by decide +kernel) (by decide +kernel)
    (by first | exact .inl (by decide +kernel) | exact .inr (by decide +kernel)) (by rw [isSubtype_type]; kernel_rfl)
theorem type_lstrip : typeOf (.builtin "bytes.lstrip") = pure (.type "method_descriptor") := by show builtinType _ = _; rw [builtinType_eq_fast]; kernel_rfl
theorem entry_lstrip : entryFor table "bytes.lstrip" = some Builtin.«bytes.lstrip» := entryFor_of_tree (by kernel_rfl)
theorem args_lstrip (a b : Value) : argsOk "bytes.lstrip" ⟨[a, b], []⟩ := by
  unfold argsOk; rw [signature?_of (id := "bytes.lstrip") (n := ['p', 'i', 'r', 't', 's', 'l']) (o := ['s', 'e', 't', 'y', 'b']) (by kernel_rfl) FB.owner_bytes]; kernel_rfl
theorem slot_rstrip : Slot "bytes" "rstrip" "bytes.rstrip" :=
  .of (owner := "bytes") (n := "rstrip") (by rw [typeLookup_type, builtinLookup_eq_fast]; kernel_rfl) (by decide +kernel) (by decide +kernel) (by decide +kernel)
    (by first | exact .inl (by decide +kernel) | exact .inr (by decide +kernel)) (by rw [isSubtype_type]; kernel_rfl)
theorem type_rstrip : typeOf (.builtin "bytes.rstrip") = pure (.type "method_descriptor") := by show builtinType _ = _; rw [builtinType_eq_fast]; kernel_rfl
theorem entry_rstrip : entryFor table "bytes.rstrip" = some Builtin.«bytes.rstrip» := entryFor_of_tree (by kernel_rfl)
theorem args_rstrip (a : Value) : argsOk "bytes.rstrip" ⟨[a], []⟩ := by
  unfold argsOk; rw [signature?_of (id := "bytes.rstrip") (n := ['p', 'i', 'r', 't', 's', 'r']) (o := ['s', 'e', 't', 'y', 'b']) (by kernel_rfl) FB.owner_bytes]; kernel_rfl

def lstrip (b c : Array UInt8) : Array UInt8 := (b.toList.dropWhile c.contains).toArray
def rstrip (b : Array UInt8) : Array UInt8 := (b.toList.reverse.dropWhile Bytes.isSpace).reverse.toArray

theorem drop_size_le {p : UInt8 → Bool} : ∀ l : List UInt8, (l.dropWhile p).length ≤ l.length
  | [] => Nat.le_refl _
  | a :: l => by
    rw [List.dropWhile_cons]
    split
    · exact Nat.le_succ_of_le (drop_size_le l)
    · exact Nat.le_refl _
theorem drop_same {p : UInt8 → Bool} : ∀ {l : List UInt8}, (l.dropWhile p).length = l.length → l.dropWhile p = l
  | [], _ => rfl
  | a :: l, h => by
    rw [List.dropWhile_cons] at h ⊢
    split at h
    · have := drop_size_le (p := p) l
      simp at h; omega
    · rename_i hp; rw [if_neg hp]

theorem lstrip_size (b c : Array UInt8) : (lstrip b c).size ≤ b.size := by
  unfold lstrip; rw [List.size_toArray]; exact Nat.le_trans (drop_size_le _) (by simp)
theorem rstrip_size (b : Array UInt8) : (rstrip b).size ≤ b.size := by
  unfold rstrip; rw [List.size_toArray, List.length_reverse]; exact Nat.le_trans (drop_size_le _) (by simp)
section
variable {b c : Array UInt8} {t u : Tok}
theorem meets_lstrip : Meets («bytes.lstrip» ⟨[.bytes b t, .bytes c u], []⟩) (fun _ R s => b.size ≤ sizeLine ∧ ∀ t' k, R (.ok (.ret (.bytes (lstrip b c) t'))) { s with toks := k }) := by
  refine .of_wp fun prog w A R s hS => ?_
  obtain ⟨hsz, h⟩ := hS
  show wpAny _ _ (Bytes.bytesLike _ (.bytes c u) >>= fun set => pure (set.contains : UInt8 → Bool) >>= fun drop => _) _ _ s
  refine wpAny_bind (wpAny_of_eq KBd.like_eq (wpAny_bind (wpAny_pure ?_)))
  show wpAny _ _ (Bytes.payload (.bytes b t) >>= fun b' => _) _ _ s
  refine wpAny_bind (wpAny_of_eq (a := b) rfl ?_)
  show wpAny _ _ (if ((b.toList.dropWhile c.contains).length == b.size) = true then _ else _) _ _ s
  by_cases e : (b.toList.dropWhile c.contains).length == b.size
  · rw [if_pos e]
    have e' : lstrip b c = b := by
      unfold lstrip
      rw [drop_same (by rw [beq_iff_eq] at e; rw [e]; simp), Array.toArray_toList]
    refine wpAny_bind (wpAny_rule ?_)
    show wpAny _ _ (Bytes.Kind.same .bytes (.bytes b t) >>= fun v => _) _ _ s
    refine wpAny_bind (wpAny_of_eq (a := Value.bytes b t) ?_ (wpAny_pure ⟨_, rfl, ?_⟩))
    · first | rfl | kernel_rfl
    · have := h t s.toks
      rw [e'] at this
      exact this
  · rw [if_neg e]
    show wpAny _ _ (mkBytes (lstrip b c) >>= fun v => _) _ _ s
    exact wpAny_bind (wpAny_mkBytes (wpAny_pure ⟨_, rfl, h _ _⟩) (by
      unfold lstrip
      rw [List.size_toArray]
      exact Nat.le_trans (drop_size_le _) (by simpa using hsz)))
theorem meets_rstrip : Meets («bytes.rstrip» ⟨[.bytes b t], []⟩) (fun _ R s => b.size ≤ sizeLine ∧ ∀ t' k, R (.ok (.ret (.bytes (rstrip b) t'))) { s with toks := k }) := by
  refine .of_wp fun prog w A R s hS => ?_
  obtain ⟨hsz, h⟩ := hS
  show wpAny _ _ (pure Bytes.isSpace >>= fun drop => _) _ _ s
  refine wpAny_bind (wpAny_pure ?_)
  show wpAny _ _ (Bytes.payload (.bytes b t) >>= fun b' => _) _ _ s
  refine wpAny_bind (wpAny_of_eq (a := b) rfl ?_)
  show wpAny _ _ (if ((b.toList.reverse.dropWhile Bytes.isSpace).reverse.length == b.size) = true then _ else _) _ _ s
  by_cases e : (b.toList.reverse.dropWhile Bytes.isSpace).reverse.length == b.size
  · rw [if_pos e]
    have e' : rstrip b = b := by
      unfold rstrip
      rw [drop_same (by rw [beq_iff_eq, List.length_reverse] at e; rw [e]; simp), List.reverse_reverse, Array.toArray_toList]
    refine wpAny_bind (wpAny_rule ?_)
    show wpAny _ _ (Bytes.Kind.same .bytes (.bytes b t) >>= fun v => _) _ _ s
    refine wpAny_bind (wpAny_of_eq (a := Value.bytes b t) ?_ (wpAny_pure ⟨_, rfl, ?_⟩))
    · first | rfl | kernel_rfl
    · have := h t s.toks
      rw [e'] at this
      exact this
  · rw [if_neg e]
    show wpAny _ _ (mkBytes (rstrip b) >>= fun v => _) _ _ s
    exact wpAny_bind (wpAny_mkBytes (wpAny_pure ⟨_, rfl, h _ _⟩) (by
      unfold rstrip
      rw [List.size_toArray, List.length_reverse]
      exact Nat.le_trans (drop_size_le _) (by simpa using hsz)))
end
section
variable {prog : Program} {w : World} {M : Model} {A : Around} {E : Value → Shared → Prop} {s : Shared} {b c : Array UInt8} {t u : Tok}
theorem method_lstrip {pl : Sem Bool} {Q : Value × List Value → Shared → Prop} (h : Q (.builtin "bytes.lstrip", [.bytes b t]) s) : wpAny M A (getMethod (.bytes b t) "lstrip" pl) Q E s := by
  with_reducible exact KBd.method_of (.bytes b t) (typeIs_bytes _ _ _) slot_lstrip type_lstrip KBd.noRef h
theorem method_rstrip {pl : Sem Bool} {Q : Value × List Value → Shared → Prop} (h : Q (.builtin "bytes.rstrip", [.bytes b t]) s) : wpAny M A (getMethod (.bytes b t) "rstrip" pl) Q E s := by
  with_reducible exact KBd.method_of (.bytes b t) (typeIs_bytes _ _ _) slot_rstrip type_rstrip KBd.noRef h
theorem call_lstrip {Q : Value → Shared → Prop} (hsz : b.size ≤ 16777216) (h : ∀ t' k, (lstrip b c).size ≤ b.size → Q (.bytes (lstrip b c) t') { s with toks := k }) :
    wpAny (model prog w) A (call (.builtin "bytes.lstrip") [.bytes b t, .bytes c u]) Q E s :=
  call_meets slot_lstrip (typeIs_bytes _ _ _) entry_lstrip (args_lstrip _ _) meets_lstrip ⟨by rw [sizeLine_eq]; exact hsz, fun t' k => h t' k (lstrip_size b c)⟩
theorem call_rstrip {Q : Value → Shared → Prop} (hsz : b.size ≤ 16777216) (h : ∀ t' k, (rstrip b).size ≤ b.size → Q (.bytes (rstrip b) t') { s with toks := k }) :
    wpAny (model prog w) A (call (.builtin "bytes.rstrip") [.bytes b t]) Q E s :=
  call_meets slot_rstrip (typeIs_bytes _ _ _) entry_rstrip (args_rstrip _) meets_rstrip ⟨by rw [sizeLine_eq]; exact hsz, fun t' k => h t' k (rstrip_size b)⟩
end
end B58
-- R3
namespace B58
open PySem PySem.W PyProof.Rows PySem.Calls
open PyProof.V PySem.Spec PySem.Builtin

/-- the number of some octets -/
def valN (old : Nat) (l : List Nat) : Nat := l.foldl (fun a d => a * old + d) 0
def octs (b : Array UInt8) : List Nat := b.toList.map (·.toNat)

section
variable {prog : Program} {w : World} {M : Model} {A : Around} {E : Value → Shared → Prop} {s : Shared} {h₀ : Heap} {L : Addr} {m : PySem.Str → Option Value} {news : List (Addr × Obj)}

theorem grown_any {n k : Nat} {Q : Value → Shared → Prop} (hn : n < 2 ^ k) (hk : k ≤ bitsLine) (h : Q (.int (n : Int) s.toks) { s with toks := s.toks + 1 }) : wpAny M A (mkIntGrown (n : Int)) Q E s := by
  unfold mkIntGrown
  have hl : ¬ ((n : Int).natAbs.log2 ≥ bitsLine) := by
    rw [Int.natAbs_natCast]
    have hb : bitsLine = 134217728 := by first | rfl | decide
    by_cases hz : n = 0
    · subst hz
      rw [hb]
      decide
    · have h1 := (Nat.log2_lt hz).mpr hn
      omega
  rw [if_neg hl]
  exact wpAny_mkInt h

theorem fold_oct (l : List UInt8) (a : Nat) : l.foldl (fun (acc : Nat) (b : UInt8) => acc * 256 + b.toNat) a = (l.map (·.toNat)).foldl (fun a d => a * 256 + d) a := by
  rw [List.foldl_map]

theorem oct_lt (b : Array UInt8) : valN 256 (octs b) < 2 ^ (8 * b.size) := by
  have h1 := KFB.fold_lt b.toList 0
  rw [Nat.zero_add, Nat.one_mul, Array.length_toList, fold_oct] at h1
  rw [Nat.pow_mul]
  exact h1
theorem oct_lt' {b : Array UInt8} (h : b.size ≤ 25) : valN 256 (octs b) < 2 ^ 200 :=
  Nat.lt_of_lt_of_le (oct_lt b) (Nat.pow_le_pow_right (by decide) (by omega))
theorem tree_kw {b : Array UInt8} {t u : Tok} {P : Fin → Shared → Prop} (hl : b.size ≤ 100) (h : P (.done (.ret (.int (valN 256 (octs b) : Nat) s.toks))) { s with toks := s.toks + 1 }) :
    wpAny M A (Builtin.«int.from_bytes» ⟨[.type "int", .bytes b t], [(PySem.Str.ofString "byteorder", .str (PySem.Str.ofString "big") u)]⟩) P E s := by
  have hn : valN 256 (octs b) < 2 ^ (8 * b.size) := by
    have h1 := KFB.fold_lt b.toList 0
    rw [Nat.zero_add, Nat.one_mul, Array.length_toList, fold_oct] at h1
    rw [Nat.pow_mul]
    exact h1
  unfold Builtin.«int.from_bytes»
  refine wpAny_bind (wpAny_of_eq (a := true) KFB.type_int ?_)
  refine KFB.if_not rfl ?_
  refine wpAny_bind (wpAny_of_eq (a := true) F.conv_sub_int ?_)
  refine KFB.if_not rfl ?_
  refine wpAny_bind (wpAny_of_eq (a := [some (.bytes b t), some (.str (PySem.Str.ofString "big") u), none]) (by kernel_rfl) ?_)
  refine wpAny_bind (wpAny_of_eq (a := PySem.Str.ofString "big") (by kernel_rfl) ?_)
  refine wpAny_bind (wpAny_of_eq (a := false) rfl ?_)
  refine wpAny_bind (wpAny_of_eq (a := false) (by kernel_rfl) ?_)
  refine wpAny_bind (wpAny_of_eq (a := b) rfl ?_)
  show wpAny _ _ (mkIntGrown (b.toList.foldl (fun (acc : Int) (b : UInt8) => acc * 256 + (b.toNat : Int)) ((0 : Nat) : Int)) >>= fun v => _) _ _ _
  rw [KFB.foldI_eq, fold_oct]
  refine wpAny_bind (grown_any hn (by have hb : bitsLine = 134217728 := by (first | rfl | decide)
                                      omega) ?_)
  refine KFB.if_so (by decide +kernel) ?_
  exact wpAny_bind (wpAny_pure (wpAny_pure h))
theorem check_kw {b : Array UInt8} {t u : Tok} {o : PySem.Str} : checkBoundCall "int.from_bytes" ⟨[.type "int", .bytes b t], [(PySem.Str.ofString "byteorder", .str o u)]⟩ = pure () := by first | kernel_rfl | rfl
theorem call_kw {x : Addr} {b : Array UInt8} {t u : Tok} {Q : Value → Shared → Prop} (ho : KFB.StandsAt x s.heap) (hl : b.size ≤ 25)
    (h : ∀ t' k, valN 256 (octs b) < 2 ^ 200 → Q (.int (valN 256 (octs b) : Nat) t') { s with toks := k }) : wpAny (model prog w) A (call (.ref x) [.bytes b t] [(PySem.Str.ofString "byteorder", .str (PySem.Str.ofString "big") u)]) Q E s := by
  refine wpAny_call (codeAny_of_tree ?_)
  show wpAny _ A.in1 (callAny (.ref x) ⟨[.bytes b t], [(PySem.Str.ofString "byteorder", .str (PySem.Str.ofString "big") u)]⟩) _ _ s
  simp only [callAny]
  refine wpAny_bind (wpAny_load ho ?_)
  simp only [KFB.bound, show (Value.type "builtin_function_or_method" == Value.type "method" || Value.type "builtin_function_or_method" == Value.type "builtin_function_or_method" || Value.type "builtin_function_or_method" == Value.type "method-wrapper") = true by decide, if_true]
  refine KFB.if_so (by decide) ?_
  refine wpAny_bind (wpAny_of_eq (a := ()) check_kw ?_)
  refine wpAny_bind (wpAny_pure (wpAny_pure ?_))
  exact ⟨KFB.quiet_fb, codeAny_builtin KFB.entry_fb (tree_kw (by omega) (h _ _ (oct_lt' hl)))⟩
theorem callWith_kw {pos : Pos} {u : Addr} {first : List Value} {env : Env} {e : Expr} {rest : List Expr} {kws : List Keyword} {Q : Value → Shared → Prop} (_N : News h₀ L s.heap news) (_hm : (u, KFB.bound) ∈ news)
    (h : wpAny M A (spliced (backTo pos (starEach (e :: rest) env))) (fun vs s₁ => wpAny M A (evalAll ((backToKw pos (keywordEach kws env)).map (·.2)))
      (fun ks s₂ => KFB.StandsAt u s₂.heap ∧ wpAny M A (call (.ref u) (first ++ vs) (((backToKw pos (keywordEach kws env)).filterMap (·.1)).zip ks)) Q E s₂) E s₁) E s)
    (he : starEach (e :: rest) env = (false, eval e env) :: starEach rest env := by rfl) (hplain : (backTo pos (starEach rest env)).any (·.1) = false := by rfl)
    (hall : (backToKw pos (keywordEach kws env)).all (·.1.isSome) = true := by rfl) (hkw : (backToKw pos (keywordEach kws env)).any (·.1.isNone) = false := by rfl) :
    wpAny M A (callWith pos (.ref u) first (backTo pos (starEach (e :: rest) env)) (backToKw pos (keywordEach kws env))) Q E s := by
  unfold callWith
  refine wpAny_bind (wpAny_holding (evalArgs_kw2 hall (wpAny_mono h (fun vs s₁ h₁ => wpAny_mono h₁ (fun ks s₂ h₂ => ?_) fun _ _ x => x) fun _ _ x => x) he))
  refine wpAny_bind (wpAny_standAt ?_)
  obtain ⟨ho, hcall⟩ := h₂
  have hp : (backTo pos (starEach (e :: rest) env)).any (·.1) = false := by
    rw [he]
    show (false || (backTo pos (starEach rest env)).any (·.1)) = false
    rw [hplain]; rfl
  simp only [hp, hkw, Bool.or_false]
  refine wpAny_bind (m := keeperOf (.ref u)) ?_
  unfold keeperOf
  refine wpAny_bind (wpAny_load ho ?_)
  simp only [KFB.bound, show (Value.type "builtin_function_or_method" != Value.type "method") = true by decide, show (Value.type "builtin_function_or_method" == Value.type "builtin_function_or_method" || Value.type "builtin_function_or_method" == Value.type "method-wrapper") = true by decide, if_true]
  refine wpAny_pure ?_
  exact wpAny_bind (wpAny_mono hcall (fun r s₂ hr => wpAny_bind (wpAny_holding (wpAny_point (wpAny_pure hr)))) fun _ _ x => x)
end

/-- what b58encode gives -/
def encB (al v : Array UInt8) : Array UInt8 := (List.replicate (v.size - (lstrip v #[0]).size) (sign al 0) ++ encN al (valN 256 (octs (lstrip v #[0])))).toArray
theorem encB_eq (v al : Array UInt8) : (List.replicate ((v.size : Int) - ((lstrip v #[0]).size : Int)).toNat [sign al 0]).flatten.toArray ++ (encN al ((valN 256 (octs (lstrip v #[0])) : Nat) : Int).toNat).toArray = encB al v := by
  rw [List.flatten_replicate_singleton, encB]
  simp only [Int.toNat_natCast, List.append_toArray]
  congr 3
  omega
theorem news_of {h₀ h : Heap} {L : Addr} {news led : List (Addr × Obj)} (N : News h₀ L h news) (hs : ∀ p ∈ led, p ∈ news) : News h₀ L h led := fun p hp => N p (hs p hp)

section
variable {prog : Program} {w : World} {A : Around} {E : Value → Shared → Prop} {s : Shared} {value slice : PySem.Expr} {b : Array UInt8} {t ui : Tok} {Q : Value → Shared → Prop} {i : Int}
theorem octs_length (b : Array UInt8) : (octs b).length = b.size := by simp [octs]
theorem octs_lt (b : Array UInt8) : ∀ x ∈ octs b, x < 256 := by
  intro x hx
  obtain ⟨c, _, rfl⟩ := List.mem_map.mp hx
  exact c.toNat_lt
theorem octs_getD (b : Array UInt8) (i : Nat) : (octs b).getD i 0 = (b.toList.getD i 0).toNat := by
  simp only [octs, List.getD_eq_getElem?_getD, List.getElem?_map]
  cases b.toList[i]? <;> rfl
theorem item_any (hfit : b.size ≤ 16777216) (h0 : 0 ≤ i) (h1 : i < b.size) (h : ∀ t' k, (octs b).getD i.toNat 0 < 256 → Q (.int ((octs b).getD i.toNat 0 : Nat) t') { s with toks := k })
    (hs : subscripted slice false (.bytes b t) (.int i ui) = operate [.bytes b t, .int i ui] (getItem (.bytes b t) (.int i ui)) := by with_unfolding_all rfl)
    (ht : ∀ r, letTemporaryGo value (.bytes b t) r = pure () := by intro _; with_unfolding_all rfl) :
    wpAny (model prog w) A (subscriptTail value slice (.bytes b t) (.int i ui)) Q E s := by
  have e : (KBw.bInts b).getD i.toNat 0 = ((octs b).getD i.toNat 0 : Nat) := by
    simp only [KBw.bInts, octs, List.getD_eq_getElem?_getD, List.getElem?_map]
    cases b.toList[i.toNat]? <;> rfl
  refine KBw.item_K (ks := KBw.bInts b) rfl (by rw [KBw.ints_length]; omega) h0 (by rw [KBw.ints_length]; omega) (fun t' k h2 h3 => ?_) hs ht
  rw [e] at h3 ⊢
  exact h t' k (by omega)
end

/-- noughts in front -/
def lead (l : List Nat) : Nat := (l.takeWhile (· == 0)).length
theorem lead_at : ∀ (l : List Nat) (c : Nat), c ≤ l.length → (∀ i : Nat, i < c → l[i]? = some 0) → (c = l.length ∨ l.getD c 0 ≠ 0) → lead l = c
  | [], c, h, _, _ => by
    have : c = 0 := by simpa using h
    subst this; rfl
  | a :: l, 0, _, _, h => by
    have ha : a ≠ 0 := by simpa using h
    simp [lead, ha]
  | a :: l, c + 1, h, h1, h2 => by
    have ha : a = 0 := by simpa using h1 0 (by omega)
    subst ha
    have := lead_at l c (by simpa using h) (fun i hi => by simpa using h1 (i + 1) (by omega)) (by simpa using h2)
    simp only [lead, List.takeWhile_cons, beq_self_eq_true, if_true, List.length_cons] at this ⊢
    omega
theorem lead_le (l : List Nat) : lead l ≤ l.length := by
  unfold lead
  induction l with
  | nil => simp
  | cons a l ih => rw [List.takeWhile_cons]; split <;> simp <;> omega
def LeadP (l : List Nat) (c : Int) : Prop := 0 ≤ c ∧ c ≤ l.length ∧ ∀ i : Nat, i < c.toNat → l[i]? = some 0
theorem leadP_start (l : List Nat) : 0 ≤ (0 : Int) ∧ (0 : Int) ≤ l.length ∧ LeadP l 0 := ⟨by omega, by omega, by omega, by omega, fun i hi => by simp at hi⟩
theorem leadP_turn {l : List Nat} {c : Int} (h : LeadP l c) (h1 : c < l.length) (h2 : ((l.getD c.toNat 0 : Nat) : Int) = 0) : 0 ≤ c + 1 ∧ c + 1 ≤ l.length ∧ LeadP l (c + 1) := by
  obtain ⟨a, b, d⟩ := h
  refine ⟨by omega, by omega, by omega, by omega, fun i hi => ?_⟩
  by_cases e : i < c.toNat
  · exact d i e
  · have e2 : i = c.toNat := by omega
    subst e2
    have hl : c.toNat < l.length := by omega
    rw [List.getElem?_eq_getElem hl]
    rw [List.getD_eq_getElem?_getD, List.getElem?_eq_getElem hl] at h2
    simpa using h2
theorem leadP_end {l : List Nat} {c : Int} (h : LeadP l c) (h1 : ¬ c < l.length ∨ ((l.getD c.toNat 0 : Nat) : Int) ≠ 0) : c = (lead l : Nat) := by
  obtain ⟨a, b, d⟩ := h
  rw [lead_at l c.toNat (by omega) d (by
    rcases h1 with h1 | h1
    · left; omega
    · right; omega)]
  omega
end B58
-- Fm
namespace B58
open PySem PySem.W PyProof.Rows PySem.Calls
open PySem.Spec

section
variable {prog : Program} {w : World} {A A₀ : Around} {s : Shared} {K : Frag} {L : Addr} {h₀ base : Heap} {m mg mb : Str → Option Value} {news : List (Addr × Obj)} {p : Program} {loose : List Str} {mean : ExcName → Option Value} {outer : List Env}
  {R : Result → Shared → Prop} {name qual : Str} {params : Arguments} {body : List Stmt} {scope : Scope} {dV kV doc pm cdv ct oc : Value} {an od : Option Addr} {osl : Array (Option Value)} {f : Addr} {args : Args} {binds : List (Str × Value)} {env : Env}

/-- all that stood stands -/
structure Kept (h h' : Heap) : Prop where
  keep : ∀ b o, h.get? b = some o → h'.get? b = some o
/-- what the caller is told at the end: its ledger stands -/
def FmR (h₀ : Heap) (L : Addr) (news : List (Addr × Obj)) (h : Heap) (R : Result → Shared → Prop) : Result → Shared → Prop :=
  fun r s' => match r with | .ok _ => News h₀ L s'.heap news → Kept h s'.heap → R r s' | .error _ => R r s'

theorem hide_nil {h : Heap} {b : Addr} {o : Obj} (e : h.get? b = some o) : (hideAll h []).get? b = some o := hideAll_get [] e (fun q => nomatch q)

theorem fm_leave (N : News h₀ L s.heap news) {v : Value} {s' : Shared} (h : LeaveK h₀ L m (hideAll s.heap []) (FmR h₀ L news s.heap R) v s') : LeaveK h₀ L m (hideAll s.heap []) R v s' := by
  obtain ⟨L', m', news', F', N', k⟩ := h
  exact ⟨L', m', news', F', N', fun x y => k x y (fun p hp => ⟨F'.keep _ _ (hide_nil (N p hp).1), (N p hp).2⟩) ⟨fun b o q => F'.keep _ _ (hide_nil q)⟩⟩

theorem code_defF (B : Below A₀ base outer h₀) (F : Fr h₀ L s.heap m) (X₀ : K.In h₀) (N : News h₀ L s.heap news) (T : Top p loose mean mg mb h₀) (hA : A.frames = some (env :: outer)) (hf : env.frame = some L) (hke : env.scope.kind = .function)
    (ho : K.lookup f = some ⟨oc, od, .func (fnOf name qual params body scope dV kV doc pm an cdv ct), osl⟩) (hcd : codeIn K cdv qual = true) (hroom : A.depth < recursionLimit)
    (hbind : BindsTo s (fnOf name qual params body scope dV kV doc pm an cdv ct) args binds) (hloc : ∀ y ∈ binds, scope.names.lookup y.1 = some .local)
    (h : ∀ g L' h₁, (∀ b o, s.heap.get? b = some o → g.get? b = some o) → Fr h₀ L g m → Fr g L' h₁ (fun y => binds.reverse.lookup y) → News g L' h₁ [] → Below A base (env :: outer) g → K.In g → Top p loose mean mg mb g →
      wpAny (model prog w) (A.deeper (envOf qual scope L' f cdv)) (execs body (envOf qual scope L' f cdv))
        (fun fl s' => LeaveK h₀ L m g (FmR h₀ L news s.heap R) (match fl with | .ret v => v | _ => .none) s')
        (fun e s' => wpAny (model prog w) (A.deeper (envOf qual scope L' f cdv)) (leaving (envOf qual scope L' f cdv) e) (fun _ s'' => R (.error e) s'') (fun e' s'' => R (.error e') s'') s')
        { s with heap := h₁, toks := s.toks + binds.length })
    (hco : scope.isCoroutine = false) (hgen : scope.isGenerator = false) (hk : scope.kind = .function)
    (hcell : ∀ x ∈ scope.names, x.2 ≠ .cell) : codeAny (model prog w) A (.call (.ref f) args) R s := by
  obtain ⟨FG, BG, st, lv⟩ := groundX (R := R) (news := []) B F News.nil hA hf hke
  refine codeAny_call_def (fd := fnOf name qual params body scope dV kV doc pm an cdv ct) (body := body) (binds := binds) hroom ((X₀.keeps F.keep) _ _ ho) rfl (T.nolimit.keeps F.keep) (codeRec_of (X₀.keeps F.keep) hcd) rfl hbind hcell hloc (fun h₁ hns hk₁ => ?_) hco hgen hk
  exact wpAny_mono (h _ s.heap.objs.size h₁ (fun b o e => hide_nil e) FG ⟨hns, fun b o e => hk₁ b o (of_hideAll _ e), Nat.le_of_eq (hideAll_size _ _)⟩
    News.nil BG (X₀.keeps st) (T.keeps st)) (fun fl s' hl => lv _ _ (fm_leave N hl)) fun _ _ y => y

theorem code_defFC (B : Below A₀ base outer h₀) (F : Fr h₀ L s.heap m) (X₀ : K.In h₀) (N : News h₀ L s.heap news) (T : Top p loose mean mg mb h₀) (hA : A.frames = some (env :: outer)) (hf : env.frame = some L) (hke : env.scope.kind = .function)
    (ho : K.lookup f = some ⟨oc, od, .func (fnOf name qual params body scope dV kV doc pm an cdv ct), osl⟩) (hcd : codeIn K cdv qual = true) (hroom : A.depth < recursionLimit)
    (hbind : BindsTo s (fnOf name qual params body scope dV kV doc pm an cdv ct) args binds) (hkind : (binds.all fun y => scope.names.lookup y.1 == some .local || scope.names.lookup y.1 == some .cell) = true)
    (hnd : ((cellsFrom 0 scope.names []).map (·.1)).Nodup)
    (h : ∀ g L' h₁ tk cells, (∀ b o, s.heap.get? b = some o → g.get? b = some o) → Fr h₀ L g m → Fr g L' h₁ (bindL (envOfC qual scope L' f cdv).kindOf binds fun _ => none) → News g L' h₁ (cells ++ []) →
      CellsAre (bindC (envOfC qual scope L' f cdv).kindOf binds fun _ => none) (cellsFrom (L' + 1) scope.names []) cells → Below A base (env :: outer) g → K.In g → Top p loose mean mg mb g →
      wpAny (model prog w) (A.deeper (envOfC qual scope L' f cdv)) (execs body (envOfC qual scope L' f cdv))
        (fun fl s' => LeaveK h₀ L m g (FmR h₀ L news s.heap R) (match fl with | .ret v => v | _ => .none) s')
        (fun e s' => wpAny (model prog w) (A.deeper (envOfC qual scope L' f cdv)) (leaving (envOfC qual scope L' f cdv) e) (fun _ s'' => R (.error e) s'') (fun e' s'' => R (.error e') s'') s')
        { s with heap := h₁, toks := tk })
    (hco : scope.isCoroutine = false) (hgen : scope.isGenerator = false) (hk : scope.kind = .function) : codeAny (model prog w) A (.call (.ref f) args) R s := by
  obtain ⟨FG, BG, st, lv⟩ := groundX (R := R) (news := []) B F News.nil hA hf hke
  refine codeAny_call_function hroom ((X₀.keeps F.keep) _ _ ho) rfl hco hgen rfl (codeRec_of (X₀.keeps F.keep) hcd) (hbind _ _ _ _ ?_)
  refine wpAny_newFunctionEnv_cells hk (kindsX hkind _) fun env' he s' x => ?_
  subst he
  refine ⟨(T.nolimit.keeps F.keep).keeps x.toInCall.keep, codeAny_func ?_⟩
  obtain ⟨h₁, tk, rfl, _⟩ := x.done
  have hk₁ := x.toInCall.keep
  obtain ⟨cells, NC, Y⟩ := Cl.news (h₀ := s.heap) (Nat.le_refl _) fun n c hm => ⟨x.cell n c (lookup_of_mem_nodup (cellsFrom_names scope.names 0 (s.heap.objs.size + 1) [] [] rfl ▸ hnd) hm), x.above n c hm⟩
  refine wpAny_mono (h _ s.heap.objs.size h₁ tk cells (fun b o e => hide_nil e) FG ⟨x.toInCall.ns, fun b o e => hk₁ b o (of_hideAll _ e), Nat.le_of_eq (hideAll_size _ _)⟩ (fun p hp => ?_) Y BG (X₀.keeps st) (T.keeps st)) (fun fl s' hl => lv _ _ (fm_leave N hl)) fun _ _ y => y
  rw [List.append_nil] at hp
  refine ⟨(NC p hp).1, (NC p hp).2.1, ?_⟩
  cases q : (hideAll s.heap []).get? p.1 with
  | none => rfl
  | some o => have := of_hideAll _ q; rw [(NC p hp).2.2] at this; cases this
end
end B58
-- Dc
namespace B58
open PySem PySem.W PyProof.Rows PySem.Calls
open PySem.Spec PyProof.V PySem.Builtin

/-! enumerate over bytes -/
section
variable {prog : Program} {w : World} {A : Around} {E : Value → Shared → Prop} {s : Shared} {b : Array UInt8} {t : Tok}
theorem next_item' {it : Addr} {i : Nat} {c : UInt8} {Q : Value → Shared → Prop} (hit : KBw.IsBytesIter s.heap it b t i) (hx : b[i]? = some c)
    (hQ : ∀ h', KBw.IsBytesIter h' it b t (i + 1) → Heap.SameBut it s.heap h' → Q (.int (c.toNat : Int) s.toks) { s with heap := h', toks := s.toks + 1 }) : wpAny (model prog w) A (Builtin.SmallTypes.nextOf (.ref it)) Q E s := by
  obtain ⟨o, ho, hc, hd⟩ := id hit
  unfold Builtin.SmallTypes.nextOf
  refine wpAny_bind (wpAny_callSpecial?_slot (name := PySem.Str.ofString "__next__") (KBw.iter_typeIs hit) KBw.slot_next
    (wpAny_call_entry KBw.slot_next (KBw.iter_typeIs hit) KBw.entry_next ?_ (KBw.args_next _)))
  show wpAny _ _ (field (.ref it) 0 >>= _) _ _ s
  refine wpAny_bind (wpAny_field ho hd (x := .bytes b t) rfl ?_)
  show wpAny _ _ (if (Value.bytes b t == Value.none) = true then _ else _) _ _ s
  rw [if_neg (show ¬ ((Value.bytes b t == Value.none) = true) from Bool.false_ne_true)]
  show wpAny _ _ (field (.ref it) 1 >>= _) _ _ s
  refine wpAny_bind (wpAny_field ho hd (x := .int i 0) rfl ?_)
  refine wpAny_bind (wpAny_of_eq (a := b) rfl ?_)
  simp only [Int.toNat_natCast, hx]
  refine wpAny_bind (wpAny_setField ho hd (by simp) (wpAny_bind (wpAny_mkInt (wpAny_pure ⟨_, rfl, wpAny_pure (hQ _ ?_ (Heap.SameBut.update ..))⟩))))
  exact ⟨_, Heap.get?_update_self _ ho (Obj.isFreed_of_fields (Obj.data_mapFields hd _)), (Obj.cls_mapFields ..).trans hc, by
    rw [Obj.data_mapFields hd]; simp [rawInt]⟩
theorem next_end' {it : Addr} {i : Nat} {Q : Value → Shared → Prop} (hh : A.handled = none) (hit : KBw.IsBytesIter s.heap it b t i) (hx : b[i]? = none)
    (hE : ∀ h' e, Heap.ExtBut it s.heap h' → (∃ o, h'.get? e = some o ∧ o.cls = .type "StopIteration") → E (.ref e) { s with heap := h' }) : wpAny (model prog w) A (Builtin.SmallTypes.nextOf (.ref it)) Q E s := by
  obtain ⟨o, ho, hc, hd⟩ := id hit
  unfold Builtin.SmallTypes.nextOf
  refine wpAny_bind (wpAny_callSpecial?_slot (name := PySem.Str.ofString "__next__") (KBw.iter_typeIs hit) KBw.slot_next
    (wpAny_call_entry KBw.slot_next (KBw.iter_typeIs hit) KBw.entry_next ?_ (KBw.args_next _)))
  show wpAny _ _ (field (.ref it) 0 >>= _) _ _ s
  refine wpAny_bind (wpAny_field ho hd (x := .bytes b t) rfl ?_)
  show wpAny _ _ (if (Value.bytes b t == Value.none) = true then _ else _) _ _ s
  rw [if_neg (show ¬ ((Value.bytes b t == Value.none) = true) from Bool.false_ne_true)]
  show wpAny _ _ (field (.ref it) 1 >>= _) _ _ s
  refine wpAny_bind (wpAny_field ho hd (x := .int i 0) rfl ?_)
  refine wpAny_bind (wpAny_of_eq (a := b) rfl ?_)
  simp only [Int.toNat_natCast, hx]
  refine wpAny_bind (wpAny_rule (wpAny_bind (wpAny_setField ho hd (by simp) ?_)))
  show wpAny _ _ (newExc (.type "StopIteration") [] >>= _) _ _ _
  refine wpAny_bind ?_
  simp only [newExc, newTuple]
  refine wpAny_bind (wpAny_newObj_type ?_ (by size_fits))
  refine wpAny_bind (m := firstArgMember _ _) (wpAny_of_eq (a := Value.none) (by first | rfl | (simp only [firstArgMember]; rfl)) ?_)
  refine wpAny_newObj_type ?_ (by size_fits)
  simp only [raiseNew]
  refine wpAny_bind (wpAny_handled ?_)
  first | rw [show A.in1.handled = none from hh] | rw [hh]
  refine wpAny_bind (wpAny_pure (wpAny_throw ?_))
  exact hE _ _ (((Heap.SameBut.update ..).extBut.push _).push _) ⟨_, Heap.get?_push_size _ rfl, rfl⟩
end
theorem draws_bytes {prog : Program} {w : World} {A : Around} (hh : A.handled = none) (it : Addr) (b : Array UInt8) (t : Tok) :
    Draws prog w A it [it] b.size (fun i v => ∃ c u, b[i]? = some c ∧ v = .int (c.toNat : Int) u) (fun i h => KBw.IsBytesIter h it b t i) where
  live := fun _ _ st => let ⟨o, ho, _⟩ := st; ⟨o, ho⟩
  frame := fun _ _ _ st hk => let ⟨o, ho, r⟩ := st; ⟨o, hk it (by simp) o ho, r⟩
  item := fun i s Q E hi st hQ => by
    refine next_item' st (c := b[i]) (by simp [hi]) fun h' hit' hs' => ?_
    exact hQ _ h' (s.toks + 1) ⟨_, _, by simp [hi], rfl⟩ hit' hs'
  done := fun s Q E st hE => next_end' hh st (by simp) hE

set_option maxHeartbeats 1000000 in
theorem meets_enumerate_bytes (x : Array UInt8) (t : Tok) :
    Meets (Builtin.«enumerate.__new__» ⟨[.type "enumerate", .bytes x t], []⟩) (fun _ R s =>
      R (.ok (.ret (.ref (s.heap.push { cls := .type "bytes_iterator", data := .fields #[.bytes x t, .int 0 0] }).objs.size)))
        { s with heap := (s.heap.push { cls := .type "bytes_iterator", data := .fields #[.bytes x t, .int 0 0] }).push { cls := .type "enumerate", data := .fields #[.none, .bool false, .ref s.heap.objs.size, rawInt 0, .none, .none] } }) :=
  .of_wp fun prog w A R s h => by
    obtain ⟨hp, g, d, tk, os⟩ := s
    have hsub := sub_enumerate
    wp_walk
    refine wpAny_stack_any fun st => wpAny_pure ?_
    split
    · rename_i c _ _ _ _ _
      cases (c == Value.type "enumerate")
      · wp_walk using KBw.pyIter_bytes
        exact ⟨_, rfl, h⟩
      · wp_walk using KBw.pyIter_bytes
        exact ⟨_, rfl, h⟩
    · wp_walk using KBw.pyIter_bytes
      exact ⟨_, rfl, h⟩
section
variable {prog : Program} {w : World} {A : Around} {E : Value → Shared → Prop} {s : Shared}
theorem call_enumerate_bytes {x : Array UInt8} {t : Tok} {Q : Value → Shared → Prop}
    (h : ∀ h', IsEnum h' (s.heap.objs.size + 1) s.heap.objs.size 0 .none → KBw.IsBytesIter h' s.heap.objs.size x t 0 → h'.objs.size = s.heap.objs.size + 2 →
      (∀ b o, s.heap.get? b = some o → h'.get? b = some o) → Q (.ref (s.heap.objs.size + 1)) { s with heap := h' }) :
    wpAny (model prog w) A (call (.type "enumerate") [.bytes x t]) Q E s := by
  refine callType_new F.called_enumerate (by decide) (F.typeCall_enumerate_1 _) (F.newCall_enumerate_1 _) (fun obj => F.args_object_init_2 obj _) F.entry_enumerate_new
    (meets_enumerate_bytes x t) ?_
  have hz : (s.heap.push { cls := .type "bytes_iterator", data := .fields #[.bytes x t, .int 0 0] }).objs.size = s.heap.objs.size + 1 := Heap.size_push ..
  show _ ∧ _
  rw [hz]
  have he : IsEnum ((s.heap.push { cls := .type "bytes_iterator", data := .fields #[.bytes x t, .int 0 0] }).push
      { cls := .type "enumerate", data := .fields #[.none, .bool false, .ref s.heap.objs.size, rawInt 0, .none, .none] }) (s.heap.objs.size + 1) s.heap.objs.size 0 .none := by
    have := Heap.get?_push_size (s.heap.push { cls := .type "bytes_iterator", data := .fields #[.bytes x t, .int 0 0] })
      (o := { cls := .type "enumerate", data := .fields #[.none, .bool false, .ref s.heap.objs.size, rawInt 0, .none, .none] }) rfl
    rw [hz] at this; exact this
  refine ⟨⟨_, he, rfl⟩, h _ he ⟨_, Heap.get?_push_of_some _ (Heap.get?_push_size _ rfl), rfl, rfl⟩ (by rw [Heap.size_push, hz]) fun b o y => Heap.get?_push_of_some _ (Heap.get?_push_of_some _ y)⟩
end
end B58
-- Dc2
namespace B58
open PySem PySem.W PyProof.Rows PySem.Calls
open PySem.Spec PyProof.V PySem.Builtin

/-- the sign of each place, its place beside it -/
def IdxTo (al : Array UInt8) (n : Nat) (kvs : List (Int × Value)) : Prop := kvs.length = n ∧ ∀ j : Nat, j < n → ∃ t : Tok, kvs[j]? = some ((((octs al).getD j 0 : Nat) : Int), Value.int (j : Int) t)

theorem idx_start (al : Array UInt8) : IdxTo al 0 [] := ⟨rfl, fun _ h => absurd h (Nat.not_lt_zero _)⟩
theorem idx_turn {al : Array UInt8} {i : Nat} {kvs : List (Int × Value)} (hn : (octs al).Nodup) (h : IdxTo al i kvs) (hi : i < al.size) (t : Tok) :
    IdxTo al (i + 1) (stored kvs (((octs al).getD i 0 : Nat) : Int) (.int (i : Int) t)) := by
  have habs : valueAt kvs (((octs al).getD i 0 : Nat) : Int) = none := by
    unfold valueAt
    rw [Option.map_eq_none_iff, List.find?_eq_none]
    intro kv hkv
    obtain ⟨j, hj⟩ := List.getElem?_of_mem hkv
    have hjl : j < i := by
      have := (List.getElem?_eq_some_iff.mp hj).1
      rw [h.1] at this
      exact this
    obtain ⟨t', ht'⟩ := h.2 j hjl
    rw [hj] at ht'
    have ekv := Option.some.inj ht'
    subst ekv
    simp only [decide_eq_true_eq]
    intro e
    have e' : (octs al).getD j 0 = (octs al).getD i 0 := by exact_mod_cast e
    have l1 : j < (octs al).length := by rw [octs_length]; omega
    have l2 : i < (octs al).length := by rw [octs_length]; omega
    rw [List.getD_eq_getElem?_getD, List.getD_eq_getElem?_getD, List.getElem?_eq_getElem l1, List.getElem?_eq_getElem l2] at e'
    simp only [Option.getD_some] at e'
    have := (List.getElem_inj hn).mp e'
    omega
  rw [stored_absent habs]
  refine ⟨by simp [h.1], fun j hj => ?_⟩
  by_cases e : j < i
  · obtain ⟨t', ht'⟩ := h.2 j e
    exact ⟨t', by rw [List.getElem?_append_left (by rw [h.1]; exact e)]; exact ht'⟩
  · have : j = i := by omega
    subst this
    exact ⟨t, by rw [List.getElem?_append_right (by rw [h.1]; exact Nat.le_refl _)]; simp [h.1]⟩

section
variable {prog : Program} {w : World} {A : Around} {E : Value → Shared → Prop} {s : Shared} {env : Env}

theorem compLoop_pairD {kx vx target iter : Expr} {scope : Scope} {pos : Pos} {it : Value} {D : Addr} {cenv : Env} {R : Result → Shared → Prop} (I : Nat → Shared → Prop)
    (turn : ∀ n s, I n s → wpAny (model prog w) A (pyNext it) (fun r s₁ => match r with
      | none => R (.ok .next) s₁
      | some v => wpAny (model prog w) A (letOwnedTupleGo target it v) (fun _ s₀ => wpAny (model prog w) A (assign target cenv v) (fun _ s₂ =>
          wpAny (model prog w) A (eval kx cenv) (fun kv s₄ => wpAny (model prog w) A (eval vx cenv) (fun vv s₅ =>
            wpAny (model prog w) A (dictSet D kv vv) (fun _ s₆ => ∃ m, m < n ∧ I m s₆) (notedBy (model prog w) A cenv fun e s' => R (.error e) s') s₅) (notedBy (model prog w) A cenv fun e s' => R (.error e) s') s₄) (notedBy (model prog w) A cenv fun e s' => R (.error e) s') s₂)
          (notedBy (model prog w) A cenv fun e s' => R (.error e) s') s₀) (notedBy (model prog w) A cenv fun e s' => R (.error e) s') s₁) (notedBy (model prog w) A cenv fun e s' => R (.error e) s') s)
    (n : Nat) (h : I n s) : codeAny (model prog w) A (.compLoop (.DictComp kx vx [⟨target, iter, [], 0⟩] scope pos) 0 it (.ref D) cenv) R s := by
  refine codeAny_loop rfl I (fun n s hI => ?_) n h
  show wpAny _ A ((compTurn (.DictComp kx vx [⟨target, iter, [], 0⟩] scope pos) 0 it (.ref D) cenv).onRaise (fun x => do noteFrame x cenv; theTreesLotGoes x)) _ _ s
  refine wpAny_noted ?_
  rw [compTurn_dict]
  refine wpAny_bind (wpAny_standAt (wpAny_bind (wpAny_mono (turn n s hI) (fun r s₁ h₁ => ?_) fun _ _ h' => h')))
  cases r with
  | none => exact wpAny_pure h₁
  | some v =>
    refine wpAny_bind (wpAny_mono h₁ (fun _ s₀ h₀' => ?_) fun _ _ h' => h')
    refine wpAny_bind (wpAny_mono h₀' (fun _ s₂ h₂ => ?_) fun _ _ h' => h')
    refine wpAny_bind (wpAny_tests_nil ?_)
    exact wpAny_bind (wpAny_bind (wpAny_mono h₂ (fun kv s₄ h₄ => wpAny_bind (wpAny_holding (wpAny_mono h₄ (fun vv s₅ h₅ => wpAny_bind (wpAny_standAt (wpAny_holding (wpAny_mono h₅ (fun _ s₆ h₆ => wpAny_pure ⟨rfl, h₆⟩) fun _ _ h' => h')))) fun _ _ h' => h'))) fun _ _ h' => h'))
end

section
variable {prog : Program} {w : World} {A : Around} {E : Value → Shared → Prop} {s : Shared} {env : Env} {al : Array UInt8} {ta : Tok}

theorem enum_dict {iter : Expr} {a b : Str} {pa pb pka pkb tp : Pos} {kk : Nat} {scope : Scope} {cl : List (Str × Addr)} {pos : Pos} {e it : Addr} {RR : Value → Addr → Result → Shared → Prop} {s₂ : Shared} {old : Value}
    (hn : (octs al).Nodup) (hz : al.size ≤ 256) (hh : A.handled = none) (hei : e ≠ it)
    (he : IsEnum s₂.heap e it 0 old) (hit : KBw.IsBytesIter s₂.heap it al ta 0)
    (hcell : ∀ y ∈ scope.names, y.2 ≠ .cell) (hkind : scope.kind = .function) (hxa : scope.names.lookup a = some .local) (hxb : scope.names.lookup b = some .local) (hab : ¬ a = b) (hda : (a == ("__debug__" : Str)) = false) (hdb : (b == ("__debug__" : Str)) = false)
    (hRR : ∀ D C h' tk m' kvs, s₂.heap.objs.size ≤ D → s₂.heap.get? D = none → s₂.heap.get? C = none → D ≠ C → h'.Ns C m' → h'.DictOf (intKind prog w) D kvs → IdxTo al al.size kvs →
      (∀ c o, c ∉ [e, it] → s₂.heap.get? c = some o → h'.get? c = some o) → RR (.ref D) C (.ok .next) { s₂ with heap := h', toks := tk }) :
    wpAny (model prog w) A newDict (fun acc s₃ => wpAny (model prog w) A (newFunctionEnv scope env.globals cl [] env.qual none .none (some env)) (fun cenv s₄ =>
      codeAny (model prog w) A (.compStart (.DictComp (.Name b pkb) (.Name a pka) [⟨.Tuple [.Name a pa, .Name b pb] kk tp, iter, [], 0⟩] scope pos) 0 (.ref e) acc { cenv with scope := relabel scope env }) (RR acc cenv.locals) s₄) E s₃) E s₂ := by
  refine wpAny_newObj_type (wpAny_newFunctionEnv hcell (by intro y hy; simp at hy) (fun h₁ hns₁ hsb₁ => ?_) hkind)
  dsimp only at hns₁ hsb₁ ⊢
  have hnew : (s₂.heap.push { cls := .type "dict", dict := none, data := .dict #[] }).DictOf (intKind prog w) s₂.heap.objs.size [] := Heap.DictOf.new s₂.heap
  generalize hH2 : s₂.heap.push { cls := .type "dict", dict := none, data := .dict #[] } = H2 at hns₁ hsb₁ hnew ⊢
  have hC : H2.objs.size = s₂.heap.objs.size + 1 := by rw [← hH2, Heap.size_push]
  have hDC : s₂.heap.objs.size ≠ H2.objs.size := by rw [hC]; exact Nat.ne_of_lt (Nat.lt_succ_self _)
  have below : ∀ c, c < s₂.heap.objs.size → c ≠ H2.objs.size ∧ c ≠ s₂.heap.objs.size := fun c hb => ⟨by rw [hC]; exact Nat.ne_of_lt (Nat.lt_succ_of_lt hb), Nat.ne_of_lt hb⟩
  have heD : e < s₂.heap.objs.size := Heap.lt_size he
  have hiD : it < s₂.heap.objs.size := by obtain ⟨_, x, _⟩ := hit; exact Heap.lt_size x
  have old' : ∀ c o, s₂.heap.get? c = some o → h₁.get? c = some o := fun c o x => hsb₁.extBut c o (below c (Heap.lt_size x)).1 (Heap.get?_push_of_some _ (hH2 ▸ Heap.get?_push_of_some _ x))
  have hacc : h₁.DictOf (intKind prog w) s₂.heap.objs.size [] := hnew.at fun o x => hsb₁.extBut _ _ hDC (Heap.get?_push_of_some _ x)
  have fresh : ∀ a, s₂.heap.objs.size ≤ a → s₂.heap.get? a = none := fun a ha => by
    cases q : s₂.heap.get? a with
    | none => rfl
    | some o' => exact absurd (Heap.lt_size q) (Nat.not_lt.mpr ha)
  have W := WalksT.enumerateD (prog := prog) (w := w) (A := A) (draws_bytes (A := A.in1) hh it al ta) e hei (by simpa using hei) (by simp)
  have hst₁ : (∃ old, IsEnum h₁ e it 0 old) ∧ KBw.IsBytesIter h₁ it al ta 0 := ⟨⟨_, old' _ _ he⟩, let ⟨o, ho, r⟩ := hit; ⟨o, old' _ _ ho, r⟩⟩
  have loop : ∀ s₃ : Shared, s₃ = { s₂ with heap := h₁, toks := s₂.toks + ([] : List (Str × Value)).length } →
      codeAny (model prog w) A (.compLoop (.DictComp (.Name b pkb) (.Name a pka) [⟨.Tuple [.Name a pa, .Name b pb] kk tp, iter, [], 0⟩] scope pos) 0 (.ref e) (.ref s₂.heap.objs.size) (compEnvC scope cl H2.objs.size env))
        (RR (.ref s₂.heap.objs.size) H2.objs.size) s₃ := by
    rintro s₃ rfl
    refine compLoop_pairD
      (fun k s' => ∃ h' tk i kvs m', s' = { s₂ with heap := h', toks := tk } ∧ i ≤ al.size ∧ k = al.size + 1 - i ∧ ((∃ old, IsEnum h' e it i old) ∧ KBw.IsBytesIter h' it al ta i) ∧ h'.DictOf (intKind prog w) s₂.heap.objs.size kvs ∧ IdxTo al i kvs ∧ h'.Ns H2.objs.size m' ∧
        (∀ c o, c ∉ [e, it] → s₂.heap.get? c = some o → h'.get? c = some o)) ?_ (al.size + 1)
      ⟨h₁, _, 0, [], _, rfl, Nat.zero_le _, rfl, hst₁, hacc, idx_start al, hns₁, fun c o _ x => old' c o x⟩
    rintro k s' ⟨h', tk, i, kvs, m', rfl, hi, rfl, hst, hd, hx, hn', hk⟩
    have eC : H2.objs.size ∉ [e, it] := fun hm => by
      rcases List.mem_cons.mp hm with q | hm
      · exact (below e heD).1 q.symm
      · exact (below it hiD).1 (List.mem_singleton.mp hm).symm
    have eD : s₂.heap.objs.size ∉ [e, it] := fun hm => by
      rcases List.mem_cons.mp hm with q | hm
      · exact (below e heD).2 q.symm
      · exact (below it hiD).2 (List.mem_singleton.mp hm).symm
    by_cases hlt : i < al.size
    · refine W.item i _ _ _ hlt hst fun T vals h₂ tk₂ hP hTs hT hMd hk₂ => ?_
      obtain ⟨t, x, ⟨c, u, hc, rfl⟩, rfl⟩ := hP
      refine W.go _ _ _ i T _ _ _ hMd fun h₃ hst₃ hk₃ => ?_
      have hTw := W.apart _ _ _ hMd
      have hT₃ : h₃.IsTuple T #[.int i t, .int (c.toNat : Int) u] := by
        obtain ⟨o, ho, r⟩ := hT
        exact ⟨o, hk₃ _ o hTw ho, r⟩
      have up₃ : ∀ c o, c ∉ [e, it] → h'.get? c = some o → h₃.get? c = some o := fun c o hc' x => hk₃ c o hc' (hk₂ c o hc' x)
      refine kcp_assign (env := compEnvC scope cl H2.objs.size env) hh hT₃ (lookup_relabel_local hxa) (lookup_relabel_local hxb) (by simp [compEnvC, relabel, hkind]) (hn'.at' fun o x => up₃ _ o eC x) fun h₄ tk₄ hn₄ hs₄ => ?_
      refine wpAny_Name (wpAny_loadName_local (env := compEnvC scope cl H2.objs.size env) hkind (lookup_relabel_local hxb) hn₄ (if_pos rfl) ?_) hdb
      refine wpAny_Name (wpAny_loadName_local (env := compEnvC scope cl H2.objs.size env) hkind (lookup_relabel_local hxa) hn₄ (by rw [if_neg hab, if_pos rfl]) ?_) hda
      have hd₄ : h₄.DictOf (intKind prog w) s₂.heap.objs.size kvs := hd.at fun o x => hs₄ _ o hDC (up₃ _ o eD x)
      have ec : ((c.toNat : Nat) : Int) = (((octs al).getD i 0 : Nat) : Int) := by
        rw [octs_getD, List.getD_eq_getElem?_getD, Array.getElem?_toList, hc]; rfl
      refine wpAny_dictSet_pairs (knd := intKind prog w) (k := ((c.toNat : Nat) : Int)) (by simp [intKind, Value.isInt]) hd₄ (fun h₅ hd₅ hs₅ => ?_) (by rw [hx.1, sizeLine_eq]; omega)
      rw [ec] at hd₅
      refine ⟨al.size + 1 - (i + 1), by omega, h₅, _, i + 1, _, _, rfl, hlt, rfl, ?_, hd₅, idx_turn hn hx hlt t, hn₄.sameBut hs₅ (Ne.symm hDC), fun c o hc' x => ?_⟩
      · obtain ⟨⟨old₃, h3⟩, h4⟩ := hst₃
        have up₅ : ∀ c o, c < s₂.heap.objs.size → h₃.get? c = some o → h₅.get? c = some o := fun c o hc' x => hs₅.extBut c o (below c hc').2 (hs₄ c o (below c hc').1 x)
        exact ⟨⟨old₃, up₅ _ _ heD h3⟩, let ⟨o, ho, r⟩ := h4; ⟨o, up₅ _ _ hiD ho, r⟩⟩
      · have hcl := Heap.lt_size x
        exact hs₅.extBut c o (below c hcl).2 (hs₄ c o (below c hcl).1 (up₃ c o hc' (hk c o hc' x)))
    · have hin : i = al.size := Nat.le_antisymm hi (Nat.not_lt.mp hlt)
      subst hin
      refine W.done _ _ _ hst fun h₂ tk₂ hk₂ => ?_
      exact hRR _ _ h₂ tk₂ _ kvs (Nat.le_refl _) (fresh _ (Nat.le_refl _)) (fresh _ (by rw [hC]; exact Nat.le_succ _)) hDC (hn'.at' fun o x => hk₂ _ o eC x) (hd.at fun o x => hk₂ _ o eD x) hx fun c o hc' x => hk₂ c o hc' (hk c o hc' x)
  refine codeAny_compStart_dict (loop _ rfl) ?_
  refine W.self 0 _ _ _ hst₁ (loop _ rfl)
end
end B58
-- Dc3
namespace B58
open PySem PySem.W PyProof.Rows PySem.Calls
open PySem.Spec PyProof.V PySem.Builtin

section
variable {prog : Program} {w : World} {A : Around} {E : Value → Shared → Prop} {s : Shared} {env : Env}

/-- what the source of the dict's comprehension hands on -/
def EnumSrc (prog : Program) (w : World) (A : Around) (Q : Value → Shared → Prop) (xv : Value) (s₁ : Shared) : Prop :=
  ∃ (al : Array UInt8) (ta : Tok) (e it : Addr) (old : Value) (h₀ : Heap) (L : Addr) (m : Str → Option Value) (news : List (Addr × Obj)), xv = .ref e ∧ IsEnum s₁.heap e it 0 old ∧ KBw.IsBytesIter s₁.heap it al ta 0 ∧ e ≠ it ∧
    (octs al).Nodup ∧ al.size ≤ 256 ∧ A.handled = none ∧ Fr h₀ L s₁.heap m ∧ News h₀ L s₁.heap news ∧ h₀.get? e = none ∧ h₀.get? it = none ∧ e ≠ L ∧ it ≠ L ∧ (∀ p ∈ news, p.1 ≠ e ∧ p.1 ≠ it) ∧
    ∀ (D : Addr) (o : Obj) (kvs : List (Int × Value)) (h' : Heap) (tk : Nat), Fr h₀ L h' m → News h₀ L h' ((D, o) :: news) → o.IsDictOf (intKind prog w) kvs → IdxTo al al.size kvs → (∀ p ∈ news, @Ne Nat p.1 D) → @LT.lt Nat _ L D → Q (.ref D) { s₁ with heap := h', toks := tk }

theorem eval_enum_dict {iter : Expr} {a b : Str} {pa pb pka pkb tp : Pos} {kk : Nat} {scope : Scope} {cl : List (Str × Addr)} {pos : Pos} {Q : Value → Shared → Prop}
    (hclos : closureFor scope env = pure cl) (hcell : ∀ y ∈ scope.names, y.2 ≠ .cell) (hkind : scope.kind = .function)
    (hnames : ∀ y ∈ scope.names, y.2 = .local → scope.names.lookup y.1 = some .local) (hxa : scope.names.lookup a = some .local) (hxb : scope.names.lookup b = some .local) (hab : ¬ a = b) (hda : (a == ("__debug__" : Str)) = false) (hdb : (b == ("__debug__" : Str)) = false)
    (h : wpAny (model prog w) A (eval iter env) (EnumSrc prog w A Q) E s)
    (hs : ∀ x, foldedSetIterable iter env x = pure x) :
    wpAny (model prog w) A (eval (.DictComp (.Name b pkb) (.Name a pka) [⟨.Tuple [.Name a pa, .Name b pb] kk tp, iter, [], 0⟩] scope pos) env) Q E s := by
  rw [arm_eval_DictComp]
  refine wpAny_comprehension_free (use := none) rfl hs hclos hkind hnames (wpAny_mono h (fun xv s₁ h₁ => ?_) fun _ _ e => e)
  obtain ⟨al, ta, e, it, old, h₀, L, m, news, rfl, he, hit, hei, hn, hz, hh, F, N, he₀, hi₀, heL, hiL, off, hQ⟩ := h₁
  refine wpAny_pyIter_enum he ?_
  refine enum_dict (prog := prog) (w := w) (RR := fun acc C => compPost (model prog w) A E none Q acc C) (al := al) (ta := ta) (e := e) (it := it) hn hz hh hei he hit hcell hkind hxa hxb hab hda hdb fun D C h' tk m' kvs hDz hD hC hDC hns hd hx hk => ?_
  refine ⟨m', hns, fun h'' hs'' => ?_⟩
  have heC : C ≠ e := fun q => by have z : s₁.heap.get? e = some _ := he; rw [← q, hC] at z; cases z
  have keep : ∀ b o, b ∉ [e, it] → s₁.heap.get? b = some o → h''.get? b = some o := fun b o hb x => hs''.extBut b o (fun q => by rw [q, hC] at x; cases x) (hk b o hb x)
  have hnone : ∀ b, s₁.heap.get? b = none → h₀.get? b = none := fun b x => by
    cases q : h₀.get? b with
    | none => rfl
    | some o => have z := F.keep b o q; rw [x] at z; cases z
  have nin : ∀ b, b ≠ e → b ≠ it → b ∉ [e, it] := fun b h1 h2 hm => by
    rcases List.mem_cons.mp hm with q | hm
    · exact h1 q
    · exact h2 (List.mem_singleton.mp hm)
  obtain ⟨o, hoD, hod⟩ := Heap.dictOf_iff.mp (hd.extBut hs''.extBut hDC)
  have hLsome : ∃ oL, s₁.heap.get? L = some oL := by obtain ⟨oL, _, _, x, _⟩ := F.ns; exact ⟨oL, x⟩
  have hDL : D ≠ L := fun q => by obtain ⟨oL, x⟩ := hLsome; rw [← q, hD] at x; cases x
  have hDlt : ∀ p ∈ news, @Ne Nat p.1 D := fun p hp q => by
    have z := (N p hp).1
    rw [q, hD] at z
    cases z
  exact hQ D o kvs h'' tk ⟨F.ns.at' fun o x => keep L o (nin L (Ne.symm heL) (Ne.symm hiL)) x, fun b o x => keep b o (nin b (fun q => by rw [q, he₀] at x; cases x) (fun q => by rw [q, hi₀] at x; cases x)) (F.keep b o x), F.above⟩
    (fun p hp => by
      rcases List.mem_cons.mp hp with rfl | hp
      · exact ⟨hoD, hDL, hnone _ hD⟩
      · exact ⟨keep _ _ (nin _ (off p hp).1 (off p hp).2) (N p hp).1, (N p hp).2⟩) hod hx hDlt (Nat.lt_of_lt_of_le F.ns.lt hDz)

theorem call_enum_src {al : Array UInt8} {ta : Tok} {Q : Value → Shared → Prop} {h₀ : Heap} {L : Addr} {m : Str → Option Value} {news : List (Addr × Obj)} (F : Fr h₀ L s.heap m) (N : News h₀ L s.heap news)
    (hn : (octs al).Nodup) (hz : al.size ≤ 256) (hh : A.handled = none)
    (h : ∀ (D : Addr) (o : Obj) (kvs : List (Int × Value)) (h' : Heap) (tk : Nat), Fr h₀ L h' m → News h₀ L h' ((D, o) :: news) → o.IsDictOf (intKind prog w) kvs → IdxTo al al.size kvs → (∀ p ∈ news, @Ne Nat p.1 D) → @LT.lt Nat _ L D → Q (.ref D) { s with heap := h', toks := tk }) :
    wpAny (model prog w) A (call (.type "enumerate") [.bytes al ta]) (EnumSrc prog w A Q) E s := by
  refine call_enumerate_bytes fun h' he hit hsz hk => ?_
  have none0 : ∀ b, s.heap.objs.size ≤ b → h₀.get? b = none := fun b hb => by
    cases q : h₀.get? b with
    | none => rfl
    | some o => exact absurd (Heap.lt_size (F.keep b o q)) (Nat.not_lt.mpr hb)
  refine ⟨al, ta, _, _, _, h₀, L, m, news, rfl, he, hit, Nat.succ_ne_self _, hn, hz, hh, F.keeps hk, fun p hp => ⟨hk _ _ (N p hp).1, (N p hp).2⟩, none0 _ (Nat.le_succ _), none0 _ (Nat.le_refl _),
    Nat.ne_of_gt (Nat.lt_succ_of_lt F.ns.lt), Nat.ne_of_gt F.ns.lt, fun p hp => ⟨Nat.ne_of_lt (Nat.lt_succ_of_lt (Heap.lt_size (N p hp).1)), Nat.ne_of_lt (Heap.lt_size (N p hp).1)⟩, ?_⟩
  exact fun D o kvs h'' tk F' N' hd hx hl hL => h D o kvs h'' tk F' N' hd hx hl hL
end

theorem sys_ne {p : Program} {loose : List Str} {mean : ExcName → Option Value} {mg mb : Str → Option Value} {g h : Heap} {L D : Addr} {m : Str → Option Value} (hL : @LT.lt Nat _ L D) (F : Fr g L h m) (T : Top p loose mean mg mb g) : (D == sysModules) = false := by
  have h1 : @LT.lt Nat _ sysModules g.objs.size := modules_low T.nolimit
  have h2 : @LE.le Nat _ g.objs.size L := F.above
  have h3 : @Ne Nat D sysModules := by omega
  simpa using h3

section
variable {prog : Program} {w : World} {A : Around} {E : Value → Shared → Prop} {s : Shared} {h₀ : Heap} {L : Addr} {m : Str → Option Value} {news : List (Addr × Obj)} {value slice : Expr} {D : Addr} {o : Obj} {kvs : List (Int × Value)} {c : Int} {u : Tok} {Q : Value → Shared → Prop}
theorem map_item {v : Value} (N : News h₀ L s.heap news) (hm : (D, o) ∈ news) (hd : o.IsDictOf (intKind prog w) kvs) (hv : valueAt kvs c = some v) (h : ∀ k, Q v { s with toks := k })
    (hs : subscripted slice false (.ref D) (.int c u) = operate [.ref D, .int c u] (getItem (.ref D) (.int c u)) := by with_unfolding_all rfl) :
    wpAny (model prog w) A (subscriptTail value slice (.ref D) (.int c u)) Q E s :=
  have hD := Heap.dictOf_iff.mpr ⟨o, N.get hm, hd⟩
  tail_any hD.typeIs slot_dict_getitem.lookup (wpAny_getItem_of (intKind_is prog w c u) hD.mapOf hv (h _)) hs
theorem map_missing (N : News h₀ L s.heap news) (hm : (D, o) ∈ news) (hh : A.handled = none) (lo : (D == sysModules) = false) (hd : o.IsDictOf (intKind prog w) kvs) (hv : valueAt kvs c = none)
    (h : ∀ h' e k, Heap.NewExc s.heap h' e "KeyError" → E (.ref e) { s with heap := h', toks := k })
    (hs : subscripted slice false (.ref D) (.int c u) = operate [.ref D, .int c u] (getItem (.ref D) (.int c u)) := by with_unfolding_all rfl) :
    wpAny (model prog w) A (subscriptTail value slice (.ref D) (.int c u)) Q E s :=
  have hD := Heap.dictOf_iff.mpr ⟨o, N.get hm, hd⟩
  tail_any hD.typeIs slot_dict_getitem.lookup (wpAny_getItem_missing_of (intKind_is prog w c u) lo hh hD.mapOf hv fun h' e he => h h' e _ he) hs
end
end B58
-- R5
namespace B58
open PySem PySem.W PyProof.Rows PySem.Calls
open PyProof.V PySem.Spec PySem.Builtin

theorem mem_octs {b : Array UInt8} {c : UInt8} : c.toNat ∈ octs b ↔ c ∈ b.toList := by
  unfold octs
  rw [List.mem_map]
  constructor
  · rintro ⟨x, hx, e⟩
    rw [← UInt8.toNat_inj.mp e]; exact hx
  · intro h; exact ⟨c, h, rfl⟩
theorem extract_one {b : Array UInt8} {i : Nat} (hi : i < b.size) : b.extract i (i + 1) = #[b[i]] := by
  apply Array.ext
  · simp; omega
  · intro j h1 h2
    simp at h2
    subst h2
    simp
theorem find_one {b : Array UInt8} {c : UInt8} : (Bytes.find? b #[c] 0 b.size).isSome = decide (c.toNat ∈ octs b) := by
  unfold Bytes.find?
  have e0 : b.size + 1 - (0 + (#[c] : Array UInt8).size) = b.size := by simp
  rw [e0, Bool.eq_iff_iff, List.find?_isSome, decide_eq_true_eq, mem_octs]
  constructor
  · rintro ⟨x, hx, he⟩
    obtain ⟨i, hi, rfl⟩ := List.mem_map.mp hx
    have hi' : i < b.size := List.mem_range.mp hi
    have h1 : b.extract i (i + 1) = #[c] := by simpa using he
    rw [extract_one hi'] at h1
    have h2 : b[i] = c := by simpa using h1
    rw [← h2]
    simp
  · intro h
    obtain ⟨i, hi, e⟩ := List.getElem_of_mem h
    have hi' : i < b.size := by simpa using hi
    refine ⟨i + 0, List.mem_map.mpr ⟨i, List.mem_range.mpr hi', rfl⟩, ?_⟩
    have : b.extract i (i + 1) = #[c] := by
      rw [extract_one hi']
      simpa using e
    simpa using this
theorem bytes_no_index : typeLookup (.type "bytes") "__index__" = pure none := by rw [typeLookup_type, builtinLookup_eq_fast]; kernel_rfl
theorem index_fails (b : Array UInt8) (t : Tok) {M : Model} {A : Around} {s : Shared} {Q : Int → Shared → Prop} {E : Value → Shared → Prop} (hh : A.handled = none)
    (h : ∀ h' tk e, Heap.NewExc s.heap h' e "TypeError" → E (.ref e) { s with heap := h', toks := tk }) : wpAny M A (asIndex (.bytes b t)) Q E s := by
  unfold asIndex
  refine wpAny_bind (wpAny_of_eq (a := none) rfl ?_)
  show wpAny M A (callSpecial? (.bytes b t) "__index__" >>= fun r => _) Q E s
  unfold callSpecial?
  refine wpAny_bind (wpAny_bind (wpAny_of_eq (KBy.special_eq bytes_no_index) ?_))
  refine wpAny_pure ?_
  refine wpAny_bind (wpAny_of_eq (a := "bytes") (by first | rfl | kernel_rfl) ?_)
  first
    | exact wpAny_raiseErrorMade plainExc_TypeError hh h (by decide +kernel)
    | exact wpAny_raiseErrorWords plainExc_TypeError hh h
theorem meets_contains {b : Array UInt8} {c : UInt8} {t u : Tok} : Meets («bytes.__contains__» ⟨[.bytes b t, .bytes #[c] u], []⟩)
    (fun A R s => A.handled = none ∧ ∀ h' k, (∀ a o, s.heap.get? a = some o → h'.get? a = some o) → R (.ok (.ret (.bool (decide (c.toNat ∈ octs b))))) { s with heap := h', toks := k }) := by
  refine .of_wp fun prog w A R s hS => ?_
  obtain ⟨hh, h⟩ := hS
  show wpAny _ _ (Bytes.containsIn _ (.bytes b t) (.bytes #[c] u) >>= fun r => ret (.bool r)) _ _ s
  refine wpAny_bind ?_
  unfold Bytes.containsIn
  refine wpAny_bind (wpAny_attempt (index_fails _ _ (by exact hh) fun h' tk e he => ?_))
  refine wpAny_bind (wpAny_of_eq KBy.buffer_eq ?_)
  show wpAny _ _ (Bytes.buffer? _ (.bytes #[c] u) >>= fun r => _) _ _ _
  refine wpAny_bind (wpAny_of_eq KBy.buffer_eq ?_)
  refine wpAny_bind (wpAny_rule (wpAny_pure ?_))
  rw [find_one]
  exact wpAny_pure ⟨_, rfl, h h' tk he.keeps⟩
section
variable {prog : Program} {w : World} {A : Around} {E : Value → Shared → Prop} {s : Shared} {b : Array UInt8} {c : UInt8} {t u : Tok} {h₀ : Heap} {L : Addr} {m : PySem.Str → Option Value} {news : List (Addr × Obj)} {Q : Value → Shared → Prop}
theorem notIn_byte (F : Fr h₀ L s.heap m) (N : News h₀ L s.heap news) (hh : A.handled = none)
    (h : ∀ h' k, Fr h₀ L h' m → News h₀ L h' news → Q (.bool (!decide (c.toNat ∈ octs b))) { s with heap := h', toks := k }) : wpAny (model prog w) A (compareOp .NotIn (.bytes #[c] u) (.bytes b t)) Q E s := by
  refine NotIn_slot (typeIs_bytes s b t) FB.slot_bytes_contains ?_
  refine call_meets FB.slot_bytes_contains (typeIs_bytes _ _ _) FB.entry_bytes_contains (FB.args_bytes_contains_2 _ _) meets_contains ⟨hh, fun h' k hk => ?_⟩
  refine wpAny_of_eq (a := decide (c.toNat ∈ octs b)) rfl ?_
  exact h h' k (F.keeps hk) (fun p hp => ⟨hk _ _ (N p hp).1, (N p hp).2⟩)
theorem notIn_byte_yes (F : Fr h₀ L s.heap m) (N : News h₀ L s.heap news) (hh : A.handled = none) (hn : c.toNat ∉ octs b)
    (h : ∀ h' k, Fr h₀ L h' m → News h₀ L h' news → Q (.bool true) { s with heap := h', toks := k }) : wpAny (model prog w) A (compareOp .NotIn (.bytes #[c] u) (.bytes b t)) Q E s :=
  notIn_byte F N hh fun h' k F' N' => by rw [decide_eq_false hn]; exact h h' k F' N'
end
end B58
-- L1
local macro_rules | `(tactic| walk_at "b size") => `(tactic| first
  | omega
  | ((simp only [Array.size_append, List.size_toArray, List.length_cons, List.length_nil, List.length_append, Array.size_push, List.flatten_replicate_singleton, List.length_replicate, Int.toNat_natCast] at *); omega)
  | (with_unfolding_all exact Nat.le_of_ble_eq_true rfl)
  | fail "b size: no bound at hand")
local macro_rules | `(tactic| walk_at "subscriptTail") => `(tactic| (k_here; (with_reducible show wpAny _ _ (subscriptTail _ (Expr.Slice _ _ none _) (Value.bytes _ _) (Value.ref _)) _ _ _); (with_reducible rename Fr _ _ _ _ => F'); (with_reducible rename News _ _ _ _ => N'); (refine B58.slice_one (s := ⟨_, _, _, _, _⟩) F' N' (by first | omega | exact fmod_lo _ (by omega)) (by first | omega | exact fmod_hi _ (by omega)) (by walk_at "b size") ?_); intro _ _ _ _ _))
local macro_rules | `(tactic| walk_at "binaryOp Add bytes bytes") => `(tactic| (k_here; (with_reducible show wpAny _ _ (binaryOp Operator.Add (Value.bytes _ _) (Value.bytes _ _)) _ _ _); (refine KBy.add_bytes (by walk_at "b size") ?_); intro _ _))

local macro_rules | `(tactic| walk_at "ctr binds") => `(tactic| first | exact BindsTo.of_eq rfl | exact binds_K (by k_in) rfl (by k_is) rfl rfl rfl | (refine' kp_binds ?kx ?ke; (case kx => k_in); (case ke => exact fun _ => rfl)) | fail "ctr in: no rule for these arguments")
local macro_rules | `(tactic| walk_at "ctr in") => `(tactic| (refine wpAny_call ?_; k_dflt (first
  | (refine' B58.code_defF ?k1 ?k2 ?k3 ?k4 ?k5 ?kA ?kF ?kK ?k6 ?k7 ?k8 ?k9 ?kB ?_ ?c2 ?c3 ?c4 ?c5; (case kA => exact rfl); (case kF => exact rfl); (case kK => exact rfl); (case k1 => k_asm); (case k2 => k_asm); (case k3 => k_asm); (case k4 => k_asm); (case k5 => k_asm); (case k6 => k_is); (case k7 => k_is); (case k8 => ktr_room); (case k9 => walk_at "ctr binds"); (case c5 => decide); (case kB => exact locs rfl); (case c2 => exact rfl); (case c3 => exact rfl); (case c4 => exact rfl); k_whole; intro g' L' h' G' FG' F' N' B' X' T'; (try dsimp only); (try k_lift B'); (try k_fold))
  | (refine' B58.code_defFC ?k1 ?k2 ?k3 ?k4 ?k5 ?kA ?kF ?kK ?k6 ?k7 ?k8 ?k9 ?kB ?kD ?_ ?c2 ?c3 ?c4; (case kA => exact rfl); (case kF => exact rfl); (case kK => exact rfl); (case k1 => k_asm); (case k2 => k_asm); (case k3 => k_asm); (case k4 => k_asm); (case k5 => k_asm); (case k6 => k_is); (case k7 => k_is); (case k8 => ktr_room); (case k9 => walk_at "ctr binds"); (case kB => exact rfl); (case kD => decide +kernel); (case c2 => exact rfl); (case c3 => exact rfl); (case c4 => exact rfl); k_whole; intro g' L' h' tk' cells' G' FG' F' N' Y' B' X' T'; k_cells Y'; (try simp only [List.cons_append, List.nil_append] at N'); (try dsimp only); (try k_lift B'); (try k_fold))); w_on))
local macro_rules | `(tactic| walk_at "FmR") => `(tactic| (dsimp only [B58.FmR]; intro kN9 kK9))

local macro_rules | `(tactic| walk_at "getMethod bytes") => `(tactic| (k_here; (with_reducible refine B58.method_lstrip ?_)))
local macro_rules | `(tactic| walk_at "getMethod bytes") => `(tactic| (k_here; (with_reducible refine B58.method_rstrip ?_)))
local macro_rules | `(tactic| walk_at "call builtin:bytes.lstrip") => `(tactic| (k_here; (try dsimp only [List.cons_append, List.nil_append]); k_dflt (refine B58.call_lstrip (by walk_at "b size") ?_); intro _ _ _))
local macro_rules | `(tactic| walk_at "call builtin:bytes.rstrip") => `(tactic| (k_here; (try dsimp only [List.cons_append, List.nil_append]); k_dflt (refine B58.call_rstrip (by walk_at "b size") ?_); intro _ _ _))
local macro_rules | `(tactic| walk_at "callWith ref") => `(tactic| (k_here; (with_reducible show wpAny _ _ (callWith _ (Value.ref _) _ (backTo _ (starEach (_ :: _) _)) (backToKw _ (keywordEach (_ :: _) _))) _ _ _); kfb_any; k_dflt (refine' B58.callWith_kw ?kfbN ?kfbM ?_; (case kfbN => k_asm); (case kfbM => k_mem); k_whole)))
local macro_rules | `(tactic| walk_at "call ref") => `(tactic| (k_here; (with_reducible show wpAny _ _ (call (Value.ref _) [Value.bytes _ _] _) _ _ _); kfb_any; k_dflt (refine B58.call_kw (KFB.at_of (by k_asm) (by k_mem)) (by walk_at "b size") ?_); intro _ _ _))
local macro_rules | `(tactic| walk_at "ints") => `(tactic| first | assumption | omega)
local macro_rules | `(tactic| walk_at "call builtin:len") => `(tactic| (k_here; (with_reducible show wpAny _ _ (call (Value.builtin "len") [Value.bytes _ _]) _ _ _); (refine len_bytes (by walk_at "b size") ?_)))

local macro_rules | `(tactic| walk_at "b idx") => `(tactic| first | omega | exact fmod_lo _ (by omega) | exact fmod_hi _ (by omega) | fail "b idx: no bound at hand")
local macro_rules | `(tactic| walk_at "subscriptTail") => `(tactic| (k_here; (with_reducible show wpAny _ _ (subscriptTail _ _ (Value.bytes _ _) (Value.int _ _)) _ _ _); (refine B58.item_any (by walk_at "b size") (by walk_at "b idx") (by walk_at "b idx") ?_); intro _ _ _))
local macro_rules | `(tactic| walk_at "call builtin:list.append") => `(tactic| (k_here; (dsimp only [List.cons_append, List.nil_append]); k_dflt (refine' append_K ?k1 ?k2 ?k3 ?_ ?z; (case k1 => k_asm); (case k2 => k_asm); (case k3 => k_upd); (case z => size_fits); k_whole); intro h' F' N'; (try k_sweep)))
local macro_rules | `(tactic| walk_at "eval DictComp") => `(tactic| (k_here; k_dflt (refine' B58.eval_enum_dict ?c1 ?c2 ?c3 ?c4 ?c5 ?c6 ?c7 ?c8 ?c9 ?_ ?c11; (case c1 => first | rfl | kernel_rfl); (case c2 => decide); (case c3 => rfl); (case c4 => decide); (case c5 => rfl); (case c6 => rfl); (case c7 => decide); (case c8 => decide); (case c9 => decide); (case c11 => intro _; rfl); k_whole)))
local macro_rules | `(tactic| walk_at "call type:enumerate") => `(tactic| (k_here; (show wpAny _ _ (call (Value.type "enumerate") [Value.bytes _ _]) (B58.EnumSrc _ _ _ _) _ _); k_dflt (refine' B58.call_enum_src ?k1 ?k2 ?k3 ?k4 ?k5 ?_; (case k1 => k_asm); (case k2 => k_asm); (case k3 => assumption); (case k4 => walk_at "ints"); (case k5 => rfl); k_whole); intro D' o' kvs' h' tk' F' N' kD' kI' kO' kL'; (try simp only [List.forall_mem_cons, List.not_mem_nil, false_implies, implies_true, and_true] at kO')))
local macro_rules | `(tactic| walk_at "compareOp NotIn") => `(tactic| (k_here; (show wpAny _ _ (compareOp CmpOp.NotIn (Value.bytes _ _) (Value.bytes _ _)) _ _ _); k_dflt (refine' B58.notIn_byte ?k1 ?k2 ?k3 ?_; (case k1 => k_asm); (case k2 => k_asm); (case k3 => rfl); k_whole); intro h' k' F' N'; (try k_sweep)))
local macro_rules | `(tactic| walk_at "compareOp NotIn") => `(tactic| (k_here; (show wpAny _ _ (compareOp CmpOp.NotIn (Value.bytes _ _) (Value.bytes _ _)) _ _ _); k_dflt (refine' B58.notIn_byte_yes ?k1 ?k2 ?k3 ?k4 ?_; (case k1 => k_asm); (case k2 => k_asm); (case k3 => rfl); (case k4 => assumption); k_whole); intro h' k' F' N'; (try k_sweep)))
-- QT3
namespace B58
open PySem PySem.W PyProof.Rows


def drawV (ns : List Int) (k : Int) : Int := if ns = [] then 5 * k + 2 else ns.getD (k.fmod ns.length).toNat 0 + 37 * (k.fdiv ns.length)
/-- a call that hands back a value and keeps the whole heap -/
noncomputable abbrev RetK (h₀ : Heap) (L : Addr) (m : Str → Option Value) (news : List (Addr × Obj)) (s : Shared) (Q : Value → Shared → Prop) (R : Tok → Value) : Prop :=
  ∀ (t : Tok) (h' : Heap) (tk' : Nat), Kept s.heap h' → Fr h₀ L h' m → News h₀ L h' news → Q (R t) { s with heap := h', toks := tk' }
theorem retk_i {h₀ : Heap} {L : Addr} {m : Str → Option Value} {news : List (Addr × Obj)} {s : Shared} {Q : Value → Shared → Prop} {b c : Int} (hret : RetK h₀ L m news s Q (fun t => .int b t)) {h' : Heap} {tk' : Nat} {t : Tok} (e : c = b) (K : Kept s.heap h') (F : Fr h₀ L h' m) (N : News h₀ L h' news) :
    Q (.int c t) { s with heap := h', toks := tk' } := by subst e; exact hret t h' tk' K F N
theorem c_draw (w : World) (l : Addr) (vs : List Value) (ns : List Int) (k : Int) (tk : Tok) (hk : 0 ≤ k) (hk2 : k < 1000) (hl : ns.length < 1000) :
    CtrX 3 w 67 (fun h => h.IsList l vs.toArray ∧ IntsAre vs ns) [.ref l, .int k tk] [] (fun h₀ L m news s Q => RetK h₀ L m news s Q (fun t => .int (drawV ns k) t)) := by
  unfold CtrX
  k_fill
  intro mean mg mb dp un gd cn sn sg sc sm a ccd cl outer A₀ base h₀ L m s news Q E hpre B F X N T hd hu hret
  obtain ⟨hbl, hbi⟩ := hpre
  walk_at "ctr in"
  have hbg := stays_list (by assumption) hbl
  k_steps
  all_goals refine retk_i hret ?_ (by assumption) (by assumption) (by assumption)
  · rw [drawV, if_neg (by intro h; subst h; simp at *)]
  · rw [drawV, if_pos (by cases ns with
      | nil => rfl
      | cons a r => simp at *)]

theorem c_noughts (w : World) (v : Array UInt8) (tv : Tok) (hv : v.size ≤ 20) :
    Ctr 3 w 86 (fun _ => True) [.bytes v tv] [] (fun t => .int (lead (octs v) : Nat) t) := by
  unfold Ctr
  k_fill
  intro mean mg mb dp un gd cn sn sg sc sm a ccd cl outer A₀ base h₀ L m s news Q E hpre B F X N T hd hu hret
  walk_at "ctr in"
  have hs := octs_length v
  k_with "exec While BoolOp cons nil" => k_while (fun _ c => 0 ≤ c ∧ c ≤ ((octs v).length : Int) ∧ LeadP (octs v) c) (fun _ c => (octs v).length - c.toNat) "count"
  k_with "state" => first | exact leadP_start _ | exact leadP_turn (by assumption) (by omega) (by assumption)
  k_steps
  all_goals (rename LeadP _ _ => hP; refine ret_i hret (leadP_end hP ?_) (by assumption) (by assumption); first | (left; omega) | (right; assumption))
end B58
-- QT3b
namespace B58
open PySem PySem.W PyProof.Rows
theorem get_cast (ms : List Nat) (i : Nat) : (ms.map fun d => ((d : Nat) : Int)).getD i 0 = ((ms.getD i 0 : Nat) : Int) := by
  simp only [List.getD_eq_getElem?_getD, List.getElem?_map]
  cases ms[i]? <;> rfl
theorem c_noughtsL (w : World) (l : Addr) (vs : List Value) (ms : List Nat) (hl : ms.length ≤ 40) :
    Ctr 3 w 86 (fun h => h.IsList l vs.toArray ∧ IntsAre vs (ms.map fun d => ((d : Nat) : Int))) [.ref l] [] (fun t => .int (lead ms : Nat) t) := by
  unfold Ctr
  k_fill
  intro mean mg mb dp un gd cn sn sg sc sm a ccd cl outer A₀ base h₀ L m s news Q E hpre B F X N T hd hu hret
  obtain ⟨hbl, hbi⟩ := hpre
  walk_at "ctr in"
  have hbg := stays_list (by assumption) hbl
  have hl' : (ms.map fun d => ((d : Nat) : Int)).length = ms.length := by rw [List.length_map]
  have hg := get_cast ms
  have hI := hbi.length
  rw [List.length_map] at hI
  k_with "exec While BoolOp cons nil" => k_while (fun _ c => 0 ≤ c ∧ c ≤ (ms.length : Int) ∧ LeadP ms c) (fun _ c => ms.length - c.toNat) "count"
  k_with "state" => first | exact leadP_start _ | exact leadP_turn (by assumption) (by omega) (by first | assumption | (rw [← hg]; assumption))
  k_steps
  all_goals (rename LeadP _ _ => hP; refine ret_i hret (leadP_end hP ?_) (by assumption) (by assumption); first | (left; omega) | (right; assumption) | (right; rw [← hg]; assumption))
end B58
-- P4
namespace B58
open PySem PySem.W PyProof.Rows
/-! the alphabets of the law -/
def btc : Array UInt8 := #[49, 50, 51, 52, 53, 54, 55, 56, 57, 65, 66, 67, 68, 69, 70, 71, 72, 74, 75, 76, 77, 78, 80, 81, 82, 83, 84, 85, 86, 87, 88, 89, 90, 97, 98, 99, 100, 101, 102, 103, 104, 105, 106, 107, 109, 110, 111, 112, 113, 114, 115, 116, 117, 118, 119, 120, 121, 122]
def rip : Array UInt8 := #[114, 112, 115, 104, 110, 97, 102, 51, 57, 119, 66, 85, 68, 78, 69, 71, 72, 74, 75, 76, 77, 52, 80, 81, 82, 83, 84, 55, 86, 87, 88, 89, 90, 50, 98, 99, 100, 101, 67, 103, 54, 53, 106, 107, 109, 56, 111, 70, 113, 105, 49, 116, 117, 118, 65, 120, 121, 122]
def signs2 (start step size : Int) : List Int := List.map (fun k' => if k' < 94 then 33 + k' else 67 + k') (List.map (fun k' => (start.fmod 181 + (1 + step.fmod 180) * k').fmod 181) (rangeKs 0 (2 + size.fmod 180 - 0).toNat))
def signs3 (start step size : Int) : List Int := List.map (fun k' => 38 + (start.fmod 89 + (1 + step.fmod 88) * k').fmod 89) (rangeKs 0 (2 + size.fmod 88 - 0).toNat)
def signsV (kind start step size : Int) : Array UInt8 :=
  if kind = 0 then btc else if kind = 1 then rip else if kind = 2 then byteArr (signs2 start step size) else byteArr (signs3 start step size)
theorem in2 (l : List Int) (f : Int → Int) : KBa.In (List.map (fun k' => if k' < 94 then 33 + k' else 67 + k') (List.map (fun k' => (f k').fmod 181) l)) := by
  intro n hn
  obtain ⟨x, hx, rfl⟩ := List.mem_map.mp hn
  obtain ⟨y, _, rfl⟩ := List.mem_map.mp hx
  have h1 := Int.fmod_nonneg_of_pos (f y) (b := 181) (by decide)
  have h2 := Int.fmod_lt_of_pos (f y) (b := 181) (by decide)
  split <;> omega
end B58
-- P5
namespace B58
open PySem PySem.W PyProof.Rows
/-! _law_carried: the least digit first, over ints -/
def vLE (b : Int) : List Int → Int
  | [] => 0
  | d :: l => d + b * vLE b l
def Dig (b : Int) (l : List Int) : Prop := ∀ d ∈ l, 0 ≤ d ∧ d < b
def valI (old : Int) (l : List Int) : Int := l.foldl (fun a d => a * old + d) 0
theorem valI_snoc (old : Int) (l : List Int) (d : Int) : valI old (l ++ [d]) = valI old l * old + d := by
  simp [valI, List.foldl_append]
theorem vLE_append (b : Int) : ∀ (l r : List Int), vLE b (l ++ r) = vLE b l + b ^ l.length * vLE b r
  | [], r => by simp [vLE]
  | d :: l, r => by
    simp only [List.cons_append, vLE, vLE_append b l r, List.length_cons, Int.pow_succ]
    rw [Int.mul_add, ← Int.mul_assoc, Int.mul_comm b (b ^ l.length)]
    omega
theorem vLE_nonneg {b : Int} (hb : 0 ≤ b) : ∀ {l : List Int}, Dig b l → 0 ≤ vLE b l
  | [], _ => Int.le_refl _
  | d :: l, h => by
    have h1 := (h d (.head _)).1
    have h2 := vLE_nonneg hb (l := l) fun x hx => h x (.tail _ hx)
    have := Int.mul_nonneg hb h2
    simp only [vLE]; omega
theorem ppow {b : Int} (hb : 2 ≤ b) (k : Nat) : 0 < b ^ k := Int.pow_pos (by omega)

theorem pow_two_le {b : Int} (hb : 2 ≤ b) : ∀ k : Nat, (2 : Int) ^ k ≤ b ^ k
  | 0 => by simp
  | k + 1 => by
    rw [Int.pow_succ, Int.pow_succ]
    exact Int.mul_le_mul (pow_two_le hb k) hb (by decide) (Int.le_of_lt (ppow hb k))

/-- the last digit is none for show -/
def Top1 (b T : Int) (l : List Int) : Prop := l.length = 0 ∨ b ^ (l.length - 1) ≤ T
theorem top_len {b T : Int} {l : List Int} {k : Nat} (hb : 2 ≤ b) (h : Top1 b T l) (hT : T < 2 ^ k) : l.length ≤ k := by
  rcases h with h | h
  · omega
  · have h1 := pow_two_le hb (l.length - 1)
    have h2 : (2 : Int) ^ (l.length - 1) < 2 ^ k := by omega
    by_cases e : l.length ≤ k
    · exact e
    · exfalso
      obtain ⟨j, hj⟩ : ∃ j, l.length - 1 = k + j := ⟨l.length - 1 - k, by omega⟩
      rw [hj, Int.pow_add] at h2
      have h3 : (2 : Int) ^ k * 1 ≤ 2 ^ k * 2 ^ j := Int.mul_le_mul_of_nonneg_left (Int.pow_pos (by decide)) (Int.le_of_lt (Int.pow_pos (by decide)))
      omega

def OutP (old new : Int) (pre : List Int) (out : List Int) : Prop := Dig new out ∧ vLE new out = valI old pre ∧ Top1 new (valI old pre) out
theorem outP_start (old new : Int) : OutP old new [] [] := by
  refine ⟨fun _ h => by simp at h, rfl, Or.inl rfl⟩

def ForP (new old T : Int) (n k : Nat) (carry : Int) (out : List Int) : Prop :=
  0 ≤ carry ∧ out.length = n ∧ Dig new out ∧ vLE new (out.take k) + new ^ k * (carry + old * vLE new (out.drop k)) = T
theorem forP_start {old new : Int} {pre out : List Int} {d : Int} (h : OutP old new pre out) (hd : 0 ≤ d) : ForP new old (valI old (pre ++ [d])) out.length 0 d out := by
  refine ⟨hd, rfl, h.1, ?_⟩
  rw [valI_snoc, ← h.2.1]
  simp [vLE, Int.mul_comm old]
  omega
theorem forP_turn {new old T : Int} {n k : Nat} {carry : Int} {out : List Int} (hnew : 2 ≤ new) (hold : 0 ≤ old) (h : ForP new old T n k carry out) (hk : k < n) :
    ForP new old T n (k + 1) ((carry + out.getD k 0 * old).fdiv new) (out.set k ((carry + out.getD k 0 * old).fmod new)) := by
  obtain ⟨h0, h1, h2, h3⟩ := h
  have hkl : k < out.length := by omega
  have ed : out.drop k = out.getD k 0 :: out.drop (k + 1) := by
    rw [List.drop_eq_getElem_cons hkl]
    simp [List.getD_eq_getElem?_getD, List.getElem?_eq_getElem hkl]
  have hin : 0 ≤ out.getD k 0 := by
    rw [List.getD_eq_getElem?_getD, List.getElem?_eq_getElem hkl]
    exact (h2 _ (List.getElem_mem hkl)).1
  generalize ho : out.getD k 0 = o at *
  have hc : 0 ≤ carry + o * old := by have := Int.mul_nonneg hin hold; omega
  have em := Int.mul_fdiv_add_fmod (carry + o * old) new
  have hm0 := Int.fmod_nonneg_of_pos (carry + o * old) (b := new) (by omega)
  have hm1 := Int.fmod_lt_of_pos (carry + o * old) (b := new) (by omega)
  have hq : 0 ≤ (carry + o * old).fdiv new := Int.fdiv_nonneg hc (by omega)
  generalize (carry + o * old).fdiv new = q at *
  generalize (carry + o * old).fmod new = r at *
  refine ⟨hq, by simpa using h1, ?_, ?_⟩
  · intro x hx
    rcases List.mem_or_eq_of_mem_set hx with hx | hx
    · exact h2 x hx
    · subst hx; exact ⟨hm0, hm1⟩
  · have et : (out.set k r).take (k + 1) = out.take k ++ [r] := by
      rw [List.take_add_one, List.take_set_of_le (by omega)]
      simp [hkl]
    have ed' : (out.set k r).drop (k + 1) = out.drop (k + 1) := by
      rw [List.drop_set_of_lt (by omega)]
    rw [et, ed', vLE_append, List.length_take, Nat.min_eq_left (by omega)]
    rw [ed] at h3
    simp only [vLE, Int.mul_zero, Int.add_zero] at h3 ⊢
    generalize vLE new (out.drop (k + 1)) = V at *
    generalize vLE new (out.take k) = W at *
    rw [← h3, Int.add_assoc]
    congr 1
    rw [Int.pow_succ, Int.mul_assoc, ← Int.mul_add]
    congr 1
    rw [Int.mul_add, Int.mul_add, ← Int.mul_assoc new old V, Int.mul_comm new old, Int.mul_assoc old new V, Int.mul_comm old o]
    omega
def WhP (new T carry : Int) (out : List Int) : Prop := 0 ≤ carry ∧ Dig new out ∧ vLE new out + new ^ out.length * carry = T ∧ Top1 new T out
theorem whP_start {new old T : Int} {n : Nat} {carry : Int} {out : List Int} (h : ForP new old T n n carry out) (ht : n = 0 ∨ new ^ (n - 1) ≤ T) : WhP new T carry out := by
  obtain ⟨h0, h1, h2, h3⟩ := h
  subst h1
  refine ⟨h0, h2, ?_, ht⟩
  rw [List.take_length, List.drop_length] at h3
  simpa [vLE] using h3
theorem whP_turn {new T carry : Int} {out : List Int} (hnew : 2 ≤ new) (h : WhP new T carry out) (hc : 0 < carry) : WhP new T (carry.fdiv new) (out ++ [carry.fmod new]) := by
  obtain ⟨h0, h2, h3, h4⟩ := h
  have em := Int.mul_fdiv_add_fmod carry new
  have hm0 := Int.fmod_nonneg_of_pos carry (b := new) (by omega)
  have hm1 := Int.fmod_lt_of_pos carry (b := new) (by omega)
  have hq : 0 ≤ carry.fdiv new := Int.fdiv_nonneg h0 (by omega)
  have hv := vLE_nonneg (b := new) (by omega) h2
  have hle : new ^ out.length * 1 ≤ new ^ out.length * carry := Int.mul_le_mul_of_nonneg_left (by omega) (Int.le_of_lt (ppow hnew _))
  generalize carry.fdiv new = q at *
  generalize carry.fmod new = r at *
  refine ⟨hq, ?_, ?_, .inr ?_⟩
  · intro x hx
    rcases List.mem_append.mp hx with hx | hx
    · exact h2 x hx
    · simp at hx; subst hx; exact ⟨hm0, hm1⟩
  · rw [vLE_append, List.length_append, List.length_singleton, Int.pow_succ]
    simp only [vLE, Int.mul_zero, Int.add_zero]
    rw [← h3, ← em, Int.add_assoc, Int.mul_assoc, ← Int.mul_add]
    congr 2
    omega
  · rw [List.length_append, List.length_singleton, Nat.add_sub_cancel]
    omega
theorem whP_end {new old carry : Int} {pre out : List Int} (h : WhP new (valI old pre) carry out) (hc : ¬ 0 < carry) : OutP old new pre out := by
  obtain ⟨h0, h2, h3, h4⟩ := h
  have : carry = 0 := by omega
  subst this
  exact ⟨h2, by simpa using h3, h4⟩

theorem digs_of {b : Nat} (hb : 2 ≤ b) : ∀ (out : List Int), Dig b out → Top1 b (vLE b out) out → out.reverse = (digs b (vLE b out).toNat).map (fun d => ((d : Nat) : Int))
  | [], _, _ => by simp [vLE, digs_zero]
  | d :: l, h, ht => by
    have hd := h d (.head _)
    have hl : Dig b l := fun x hx => h x (.tail _ hx)
    have hv := vLE_nonneg (b := (b : Int)) (by omega) hl
    have htl : Top1 b (vLE b l) l := by
      rcases Nat.eq_zero_or_pos l.length with e | e
      · exact .inl e
      · refine .inr ?_
        rcases ht with ht | ht
        · simp at ht
        · simp only [List.length_cons, Nat.add_sub_cancel, vLE] at ht
          obtain ⟨k, hk⟩ : ∃ k, l.length = k + 1 := ⟨l.length - 1, by omega⟩
          rw [hk, Nat.add_sub_cancel]
          rw [hk, Int.pow_succ] at ht
          by_cases hlt : (b : Int) ^ k ≤ vLE b l
          · exact hlt
          · exfalso
            have h1 : (vLE b l + 1) * b ≤ (b : Int) ^ k * b := Int.mul_le_mul_of_nonneg_right (by omega) (by omega)
            rw [Int.add_mul, Int.mul_comm (vLE b l)] at h1
            omega
    have hpos : 0 < vLE b (d :: l) := by
      rcases ht with ht | ht
      · simp at ht
      · have := ppow (b := (b : Int)) (by omega) ((d :: l).length - 1)
        omega
    have ih := digs_of hb l hl htl
    obtain ⟨dn, rfl⟩ := Int.eq_ofNat_of_zero_le hd.1
    obtain ⟨V, hV⟩ := Int.eq_ofNat_of_zero_le hv
    have e : (vLE b ((dn : Int) :: l)).toNat = dn + b * V := by
      simp only [vLE, hV]
      have : (dn : Int) + (b : Int) * (V : Int) = ((dn + b * V : Nat) : Int) := by push_cast; rfl
      rw [this, Int.toNat_natCast]
    have hdb : dn < b := by omega
    rw [e, digs_pos (by rw [← e]; omega) hb, List.reverse_cons, ih, hV, Int.toNat_natCast]
    have e1 : (dn + b * V) / b = V := by rw [Nat.add_mul_div_left _ _ (by omega), Nat.div_eq_of_lt hdb]; simp
    have e2 : (dn + b * V) % b = dn := by rw [Nat.add_mul_mod_self_left, Nat.mod_eq_of_lt hdb]
    rw [e1, e2, List.map_append]
    rfl

theorem snoc_ind {α : Type} {P : List α → Prop} (h0 : P []) (h1 : ∀ l d, P l → P (l ++ [d])) (l : List α) : P l := by
  have h : ∀ r : List α, P r.reverse := by
    intro r
    induction r with
    | nil => exact h0
    | cons d r ih => rw [List.reverse_cons]; exact h1 _ _ ih
  have := h l.reverse
  rwa [List.reverse_reverse] at this
theorem valI_nonneg {old : Int} (ho : 0 ≤ old) : ∀ {l : List Int}, (∀ d ∈ l, 0 ≤ d) → 0 ≤ valI old l := by
  refine fun {l} => snoc_ind (P := fun l => (∀ d ∈ l, 0 ≤ d) → 0 ≤ valI old l) ?_ ?_ l
  · intro _; exact Int.le_refl _
  · intro l d ih h
    rw [valI_snoc]
    have h1 := ih fun x hx => h x (by simp [hx])
    have h2 := h d (by simp)
    have := Int.mul_nonneg h1 ho
    omega
theorem valI_lt {old : Int} (ho : 0 ≤ old) (ho2 : old ≤ 256) : ∀ {l : List Int}, (∀ d ∈ l, 0 ≤ d ∧ d < 256) → valI old l < 256 ^ l.length := by
  refine fun {l} => snoc_ind (P := fun l => (∀ d ∈ l, 0 ≤ d ∧ d < 256) → valI old l < 256 ^ l.length) ?_ ?_ l
  · intro _; simp [valI]
  · intro l d ih h
    rw [valI_snoc, List.length_append, List.length_singleton, Int.pow_succ]
    have h1 := ih fun x hx => h x (by simp [hx])
    have h0 := valI_nonneg ho (l := l) fun x hx => (h x (by simp [hx])).1
    have h2 := h d (by simp)
    have h3 : valI old l * old ≤ valI old l * 256 := Int.mul_le_mul_of_nonneg_left ho2 h0
    have h4 : (valI old l + 1) * 256 ≤ 256 ^ l.length * 256 := Int.mul_le_mul_of_nonneg_right (by omega) (by decide)
    omega
theorem valI_lt2 {old : Int} {l : List Int} {k : Nat} (ho : 0 ≤ old) (ho2 : old ≤ 256) (h : ∀ d ∈ l, 0 ≤ d ∧ d < 256) (hl : l.length ≤ k) : valI old l < 2 ^ (8 * k) := by
  have h1 := valI_lt ho ho2 h
  obtain ⟨j, rfl⟩ : ∃ j, k = l.length + j := ⟨k - l.length, by omega⟩
  have e : (2 : Int) ^ (8 * (l.length + j)) = 256 ^ l.length * 256 ^ j := by rw [Int.pow_mul, Int.pow_add]; rfl
  have h2 : (256 : Int) ^ l.length * 1 ≤ 256 ^ l.length * 256 ^ j := Int.mul_le_mul_of_nonneg_left (Int.pow_pos (by decide)) (Int.le_of_lt (Int.pow_pos (by decide)))
  omega
theorem car_s1 (old new : Int) : ([] : List Int).length ≤ 200 ∧ OutP old new [] [] := ⟨by simp, outP_start old new⟩
theorem car_s2 {old new : Int} {pre out : List Int} {d : Int} (h : OutP old new pre out) (hd : 0 ≤ d) (hl : out.length ≤ 200) :
    0 ≤ d ∧ out.length ≤ 200 ∧ out.length = out.length ∧ ForP new old (valI old (pre ++ [d])) out.length ([] : List Int).length d out := ⟨hd, hl, rfl, forP_start h hd⟩
theorem car_s3 {new old T carry : Int} {n : Nat} {out pre : List Int} {k : Int} (hnew : 2 ≤ new) (hold : 0 ≤ old) (h : ForP new old T n pre.length carry out) (hl : out.length ≤ 200) (hk : pre.length < n) (ek : k = 0 + (pre.length : Int)) :
    0 ≤ (carry + out.getD k.toNat 0 * old).fdiv new ∧ (out.set k.toNat ((carry + out.getD k.toNat 0 * old).fmod new)).length ≤ 200 ∧ (out.set k.toNat ((carry + out.getD k.toNat 0 * old).fmod new)).length = n ∧
      ForP new old T n (pre ++ [k]).length ((carry + out.getD k.toNat 0 * old).fdiv new) (out.set k.toNat ((carry + out.getD k.toNat 0 * old).fmod new)) := by
  have e : k.toNat = pre.length := by omega
  rw [e, List.length_append, List.length_singleton]
  have := forP_turn hnew hold h hk
  exact ⟨this.1, by simpa using hl, this.2.1, this⟩
theorem car_s4 {old new carry : Int} {n : Nat} {pre out₀ out : List Int} {d : Int} (hnew : 2 ≤ new) (ho : 1 ≤ old) (hd : 0 ≤ d) (hp : ∀ x ∈ pre, 0 ≤ x) (h0 : OutP old new pre out₀) (h : ForP new old (valI old (pre ++ [d])) out₀.length n carry out) (e : n = out₀.length) (hl : out.length ≤ 200) :
    0 ≤ carry ∧ out.length ≤ 200 ∧ WhP new (valI old (pre ++ [d])) carry out := by
  subst e
  refine ⟨h.1, hl, whP_start h ?_⟩
  rcases h0.2.2 with ht | ht
  · exact .inl ht
  · refine .inr (Int.le_trans ht ?_)
    rw [valI_snoc]
    have h1 := valI_nonneg (old := old) (by omega) hp
    have := Int.mul_le_mul_of_nonneg_left ho h1
    omega
theorem car_s5 {new T carry : Int} {out : List Int} (hnew : 2 ≤ new) (hT : T < 2 ^ 200) (h : WhP new T carry out) (hc : 0 < carry) :
    0 ≤ carry.fdiv new ∧ (out ++ [carry.fmod new]).length ≤ 200 ∧ WhP new T (carry.fdiv new) (out ++ [carry.fmod new]) := by
  have := whP_turn hnew h hc
  exact ⟨this.1, top_len hnew this.2.2.2 hT, this⟩
theorem car_s6 {new old carry : Int} {pre out : List Int} {d : Int} (h : WhP new (valI old (pre ++ [d])) carry out) (hc : ¬ 0 < carry) (hl : out.length ≤ 200) : out.length ≤ 200 ∧ OutP old new (pre ++ [d]) out := ⟨hl, whP_end h hc⟩
theorem fdiv_less {c b : Int} (h : 0 < c) (hb : 2 ≤ b) : (c.fdiv b).toNat < c.toNat := by
  have em := Int.mul_fdiv_add_fmod c b
  have hm0 := Int.fmod_nonneg_of_pos c (b := b) (by omega)
  have hq : 0 ≤ c.fdiv b := Int.fdiv_nonneg (by omega) (by omega)
  have h2 : 2 * c.fdiv b ≤ b * c.fdiv b := Int.mul_le_mul_of_nonneg_right hb hq
  omega
theorem oct_pre {v : Array UInt8} {pre post : List Int} {n : Int} (e : KBw.bInts v = pre ++ n :: post) : ∀ d ∈ pre ++ [n], 0 ≤ d ∧ d < 256 := by
  intro d hd
  refine KBw.ints_in (b := v) ?_
  rw [e]
  simp at hd ⊢
  rcases hd with hd | hd
  · exact .inl hd
  · exact .inr (.inl hd)
theorem oct_pre_lt {v : Array UInt8} {pre post : List Int} {n : Int} {old : Int} (ho : 1 ≤ old) (ho2 : old ≤ 256) (hv : v.size ≤ 20) (e : KBw.bInts v = pre ++ n :: post) : valI old (pre ++ [n]) < 2 ^ 200 := by
  refine valI_lt2 (k := 25) (by omega) ho2 (oct_pre e) ?_
  have := congrArg List.length e
  rw [KBw.ints_length] at this
  simp at this ⊢
  omega
theorem valI_octs (old : Nat) (v : Array UInt8) : valI (old : Int) (KBw.bInts v) = (valN old (octs v) : Nat) := by
  have key : ∀ (l : List UInt8) (a : Nat), (l.map fun c => ((c.toNat : Nat) : Int)).foldl (fun a d => a * (old : Int) + d) (a : Int) = ((l.map (·.toNat)).foldl (fun a d => a * old + d) a : Nat) := by
    intro l
    induction l with
    | nil => intro a; rfl
    | cons c l ih => intro a; simp only [List.map_cons, List.foldl_cons]; rw [← ih]; congr 1
  exact key v.toList 0
theorem car_end {old : Int} {new : Nat} {v : Array UInt8} {out : List Int} (ho : 1 ≤ old) (hnew : 2 ≤ new) (h : OutP old (new : Int) (KBw.bInts v) out) : out.reverse = (digs new (valN old.toNat (octs v))).map fun d => ((d : Nat) : Int) := by
  obtain ⟨k, rfl⟩ := Int.eq_ofNat_of_zero_le (Int.le_trans (by decide) ho)
  obtain ⟨h1, h2, h3⟩ := h
  rw [← h2] at h3
  rw [digs_of hnew out h1 h3, h2]
  have := valI_octs k v
  simp only [Int.ofNat_eq_natCast, Int.toNat_natCast] at this ⊢
  rw [this, Int.toNat_natCast]
end B58
-- P7
namespace B58
open PySem PySem.W PyProof.Rows PySem.Spec
/-- a sign's place -/
def rk (al : Array UInt8) (c : Nat) : Nat := (octs al).idxOf c
def okIn (al : Array UInt8) (l : List Nat) : Prop := ∀ x ∈ l, x ∈ octs al
def stripd (al v : Array UInt8) : Array UInt8 := if 32 ∈ octs al then v else rstrip v
def DecP (al : Array UInt8) (pre : List Int) (d : Int) : Prop := (∀ x ∈ pre, x.toNat ∈ octs al) ∧ d = valI al.size (pre.map fun x => ((rk al x.toNat : Nat) : Int))
theorem decP_start (al : Array UInt8) : DecP al [] 0 := ⟨fun _ h => by simp at h, rfl⟩
theorem decP_turn {al : Array UInt8} {pre : List Int} {d c : Int} (h : DecP al pre d) (hc : c.toNat ∈ octs al) : DecP al (pre ++ [c]) (d * (al.size : Int) + ((rk al c.toNat : Nat) : Int)) := by
  refine ⟨fun x hx => ?_, ?_⟩
  · rcases List.mem_append.mp hx with hx | hx
    · exact h.1 x hx
    · rw [List.mem_singleton.mp hx]; exact hc
  · rw [List.map_append, List.map_cons, List.map_nil, valI_snoc, h.2]
theorem valueAt_idx {al : Array UInt8} {kvs : List (Int × Value)} (hn : (octs al).Nodup) (h : IdxTo al al.size kvs) {c : Int} (h0 : 0 ≤ c) :
    (c.toNat ∈ octs al → ∃ t : Tok, valueAt kvs c = some (.int ((rk al c.toNat : Nat) : Int) t)) ∧ (c.toNat ∉ octs al → valueAt kvs c = none) := by
  obtain ⟨n, rfl⟩ := Int.eq_ofNat_of_zero_le h0
  simp only [Int.ofNat_eq_natCast, Int.toNat_natCast]
  have hmem : ∀ kv ∈ kvs, ∃ (j : Nat) (t : Tok), j < al.size ∧ kv = ((((octs al).getD j 0 : Nat) : Int), Value.int (j : Int) t) := fun kv hkv => by
    obtain ⟨j, hj⟩ := List.getElem?_of_mem hkv
    have hjl : j < al.size := by
      have := (List.getElem?_eq_some_iff.mp hj).1
      rw [h.1] at this
      exact this
    obtain ⟨t, ht⟩ := h.2 j hjl
    rw [hj] at ht
    exact ⟨j, t, hjl, Option.some.inj ht⟩
  constructor
  · intro hc
    have hlt : rk al n < (octs al).length := List.idxOf_lt_length_of_mem hc
    have hlt' : rk al n < al.size := by rw [octs_length] at hlt; exact hlt
    obtain ⟨t, ht⟩ := h.2 (rk al n) hlt'
    have hget : (octs al).getD (rk al n) 0 = n := by
      rw [List.getD_eq_getElem?_getD, List.getElem?_eq_getElem hlt, Option.getD_some]
      exact List.getElem_idxOf hlt
    rw [hget] at ht
    unfold valueAt
    cases hf : kvs.find? (fun kv => kv.1 = (n : Int)) with
    | none =>
      rw [List.find?_eq_none] at hf
      exact absurd (by simp) (hf _ (List.mem_of_getElem? ht))
    | some kv =>
      obtain ⟨j, t', hj, e⟩ := hmem kv (List.mem_of_find?_eq_some hf)
      have hk := List.find?_some hf
      subst e
      simp only [decide_eq_true_eq] at hk
      have hk' : (octs al).getD j 0 = n := by exact_mod_cast hk
      have hjl : j < (octs al).length := by rw [octs_length]; exact hj
      have ej : j = rk al n := by
        rw [← hget, List.getD_eq_getElem?_getD, List.getD_eq_getElem?_getD, List.getElem?_eq_getElem hjl, List.getElem?_eq_getElem hlt] at hk'
        exact (List.getElem_inj hn).mp (by simpa using hk')
      subst ej
      exact ⟨t', rfl⟩
  · intro hc
    unfold valueAt
    rw [Option.map_eq_none_iff, List.find?_eq_none]
    intro kv hkv
    obtain ⟨j, t, hj, rfl⟩ := hmem kv hkv
    simp only [decide_eq_true_eq]
    intro e
    have e' : (octs al).getD j 0 = n := by exact_mod_cast e
    have l1 : j < (octs al).length := by rw [octs_length]; omega
    rw [List.getD_eq_getElem?_getD, List.getElem?_eq_getElem l1, Option.getD_some] at e'
    exact hc (e' ▸ List.getElem_mem l1)

section
variable {prog : Program} {w : World} {A : Around} {E : Value → Shared → Prop} {s : Shared} {h₀ : Heap} {L : Addr} {m : Str → Option Value} {news : List (Addr × Obj)} {value slice : Expr} {D : Addr} {o : Obj} {kvs : List (Int × Value)} {c : Int} {u : Tok} {Q : Value → Shared → Prop} {al : Array UInt8}
theorem idx_item (N : News h₀ L s.heap news) (hm : (D, o) ∈ news) (hh : A.handled = none) (lo : (D == sysModules) = false) (hd : o.IsDictOf (intKind prog w) kvs) (hx : IdxTo al al.size kvs) (hn : (octs al).Nodup) (h0 : 0 ≤ c)
    (hQ : c.toNat ∈ octs al → ∀ t k, Q (.int ((rk al c.toNat : Nat) : Int) t) { s with toks := k })
    (hE : c.toNat ∉ octs al → ∀ h' e k, Heap.NewExc s.heap h' e "KeyError" → E (.ref e) { s with heap := h', toks := k })
    (hs : subscripted slice false (.ref D) (.int c u) = operate [.ref D, .int c u] (getItem (.ref D) (.int c u)) := by with_unfolding_all rfl) :
    wpAny (model prog w) A (subscriptTail value slice (.ref D) (.int c u)) Q E s := by
  by_cases hc : c.toNat ∈ octs al
  · obtain ⟨t, ht⟩ := (valueAt_idx hn hx h0).1 hc
    exact map_item N hm hd ht (hQ hc t) hs
  · exact map_missing N hm hh lo hd ((valueAt_idx hn hx h0).2 hc) (hE hc) hs
end
end B58
-- X1
namespace B58
open PySem PySem.W PyProof.Rows PySem.Calls
open PySem.Spec

/-- an exception that has been noted: T is its newest entry, c its context, fl where it is told -/
structure Hot (B : Heap) (l : List Env) (e T : Addr) (cls a0 c fl : Value) (h : Heap) : Prop where
  stays : B.StaysIn h
  frames : h.FunFrames B l
  newE : B.get? e = none
  newT : B.get? T = none
  ne : @Ne Nat T e
  exc : ∃ oe vs, h.get? e = some oe ∧ oe.cls = cls ∧ oe.data = .fields vs ∧ vs[0]? = some a0 ∧ vs[1]? = some (.ref T) ∧ vs[2]? = some c
  tb : ∃ oT ts, h.get? T = some oT ∧ oT.data = .fields ts ∧ ts[3]? = some fl

section
variable {M : Model} {A : Around} {E : Value → Shared → Prop} {s : Shared} {B : Heap} {l outer : List Env} {env : Env} {e T L : Addr} {cls a0 c fl : Value}

theorem Hot.traced (x : Hot B l e T cls a0 c fl s.heap) : s.heap.TracedAtW B e cls a0 fl := by
  obtain ⟨oe, vs, h1, h2, h3, h4, h5, h6⟩ := x.exc
  obtain ⟨oT, ts, t1, t2, t3⟩ := x.tb
  exact ⟨oe, vs, T, oT, ts, h1, ⟨h2, h4⟩, h3, h5, x.newT, x.ne, t1, t2, t3⟩

theorem hot_note {oe : Obj} {vs : Array Value} {Q : Unit → Shared → Prop} (hfr : A.frames = some (env :: outer)) (hl : s.heap.FunFrames B (env :: outer)) (hf : env.frame = some L)
    (he : s.heap.get? e = some oe) (hkb : B.StaysIn s.heap) (hen : B.get? e = none) (hd : oe.data = .fields vs) (h0 : vs[0]? = some a0) (h1 : vs[1]? = some .none) (h2 : vs[2]? = some c)
    (h : ∀ h' T, Hot B (env :: outer) e T oe.cls a0 c (rawInt L) h' → s.heap.UpToSlots h' → Q () { s with heap := h' }) : wpAny M A (noteFrame (.ref e) env) Q E s := by
  have hsz := (Array.getElem?_eq_some_iff.mp h1).1
  have apart : e ∉ (env :: outer).filterMap (·.frame) := fun hm => by
    obtain ⟨_, o, ho, hnf⟩ := hl.mem hm
    rw [he] at ho
    exact hnf vs (by rw [← Option.some.inj ho]; exact hd)
  unfold noteFrame
  simp only [hf]
  refine wpAny_bind (wpAny_field he hd h1 ?_)
  rw [if_neg (by decide)]
  refine wpAny_bind (wpAny_frameOf_fun hfr hl hf fun h₁ sl => ?_)
  refine wpAny_bind (wpAny_entryPlaceOf fun pl hpl => ?_)
  unfold EntryCells.newEntry newFields
  refine wpAny_bind (wpAny_newObj_type ?_ (hpl.sizeOk5 _ _ _ _ _))
  have e1 : h₁.get? e = some oe := (sl.2.1 e apart).trans he
  have b1 : B.StaysIn h₁ := fun b o hb => (sl.2.1 b fun hm => by rw [(hl.mem hm).1] at hb; cases hb).trans (hkb b o hb)
  generalize hO : ({ cls := .type "traceback", dict := none, data := .fields ([Value.none, .ref L, .none, rawInt L, .none] ++ (if pl.isEmpty then List.replicate 6 Value.none else pl)).toArray } : Obj) = O
  have e2 := Heap.get?_push_of_some (h := h₁) O e1
  refine wpAny_setField e2 hd hsz (h _ h₁.objs.size ?_ ?_)
  · have neT : @Ne Nat h₁.objs.size e := Nat.ne_of_gt (Heap.lt_size e1)
    have keep : ∀ b o, b ≠ e → h₁.get? b = some o → ((h₁.push O).update e (Obj.mapFields (·.setIfInBounds 1 (Value.ref h₁.objs.size)))).get? b = some o := fun b o hb ho => by
      rw [Heap.get?_update_other _ _ (Ne.symm hb)]
      exact Heap.get?_push_of_some _ ho
    have apt : ∀ b o, s.heap.get? b = some o → (∀ vs, o.data ≠ .fields vs) → b ≠ e := fun b o ho hn q => by
      rw [q, he] at ho
      exact hn vs (by rw [← Option.some.inj ho]; exact hd)
    have hd3 := Obj.data_mapFields hd (·.setIfInBounds 1 (Value.ref h₁.objs.size))
    refine ⟨fun b o hb => keep b o (fun q => by rw [q, hen] at hb; cases hb) (b1 b o hb), hl.of_keeps fun b o ho hn => ?_, hen, b1.fresh, neT, ⟨_, _, Heap.get?_update_self _ e2 (Obj.isFreed_of_fields hd3), Obj.cls_mapFields _ _, hd3, ?_, ?_, ?_⟩, ⟨O, ([Value.none, .ref L, .none, rawInt L, .none] ++ (if pl.isEmpty then List.replicate 6 Value.none else pl)).toArray, ?_, ?_, ?_⟩⟩
    · obtain ⟨sl', hs⟩ := sl.2.2 b o ho
      exact ⟨_, keep b _ (apt b o ho hn) hs, rfl⟩
    · rw [Array.getElem?_setIfInBounds_ne (by decide)]; exact h0
    · simp [hsz]
    · rw [Array.getElem?_setIfInBounds_ne (by decide)]; exact h2
    · rw [Heap.get?_update_other _ _ (Ne.symm neT)]
      exact Heap.get?_push_size h₁ (by rw [← hO]; rfl)
    · rw [← hO]
    · first | (simp; done) | (rcases hpl with rfl | ⟨_, _, _, _, _, _, _, rfl⟩ <;> simp)
  · intro b o ho hn
    obtain ⟨sl', hs⟩ := sl.2.2 b o ho
    refine ⟨sl', ?_⟩
    rw [Heap.get?_update_other _ _ (fun q : e = b => by
      subst q
      rw [he] at ho
      exact hn vs (by rw [← Option.some.inj ho]; exact hd))]
    exact Heap.get?_push_of_some _ hs

theorem hot_flight {f : Option Addr} {Q : Unit → Shared → Prop} (x : Hot B l e T cls a0 c fl s.heap)
    (h : ∀ h', Hot B l e T cls a0 c (f.elim .none fun a => rawInt a) h' → s.heap.UpToSlots h' → Q () { s with heap := h' }) : wpAny M A (setFlight (.ref e) f) Q E s := by
  obtain ⟨oe, vs, h1, h2, h3, h4, h5, h6⟩ := x.exc
  obtain ⟨oT, ts, t1, t2, t3⟩ := x.tb
  have hsz : 3 < ts.size := (Array.getElem?_eq_some_iff.mp t3).1
  have other : ∀ b, b ≠ T → (s.heap.update T (Obj.mapFields (·.setIfInBounds 3 (f.elim Value.none fun a => rawInt a)))).get? b = s.heap.get? b := fun b hb => Heap.get?_update_other _ _ (Ne.symm hb)
  have apt : ∀ b o, s.heap.get? b = some o → (∀ vs, o.data ≠ .fields vs) → b ≠ T := fun b o ho hn q => by
    rw [q, t1] at ho
    exact hn ts (by rw [← Option.some.inj ho]; exact t2)
  unfold setFlight
  refine wpAny_bind (wpAny_field h1 h3 h5 ?_)
  rw [if_pos (show (Value.ref T != Value.none) = true from by simp)]
  refine wpAny_setField t1 t2 hsz (h _ ⟨fun b o hb => (other b fun q => by rw [q, x.newT] at hb; cases hb).trans (x.stays b o hb), x.frames.of_keeps fun b o ho hn => ⟨o, (other b (apt b o ho hn)).trans ho, rfl⟩, x.newE, x.newT, x.ne,
    ⟨oe, vs, (other e (Ne.symm x.ne)).trans h1, h2, h3, h4, h5, h6⟩, ⟨_, _, Heap.get?_update_self _ t1 (Obj.isFreed_of_fields (Obj.data_mapFields t2 _)), Obj.data_mapFields t2 _, by simp [hsz]⟩⟩ fun b o ho hn => ⟨o.slots, (other b (apt b o ho hn)).trans ho⟩)

theorem Hot.held {h : Heap} (x : Hot B l e T cls a0 c (rawInt L) h) : Heap.HeldW B l e cls a0 L h := by
  obtain ⟨oe, vs, h1, h2, h3, h4, h5, h6⟩ := x.exc
  obtain ⟨oT, ts, t1, t2, t3⟩ := x.tb
  exact ⟨x.stays, x.newE, x.frames, oe, vs, T, oT, ts, h1, ⟨h2, h4⟩, h3, h5, x.newT, x.ne, t1, t2, t3⟩
end
end B58
-- X2
namespace B58
open PySem PySem.W PyProof.Rows PySem.Calls
open PySem.Spec
theorem entry_unchain : entryFor table "proto.unchain" = some Builtin.«proto.unchain» := entryFor_of_fast (by kernel_rfl)

section
variable {prog : Program} {w : World} {A : Around} {E : Value → Shared → Prop} {s : Shared} {env : Env}
theorem raise_fromNone {cls : String} (F : ExcRaiseFacts cls) {x : Sem Value} {Q : Flow → Shared → Prop} {e : Addr} {pos : Pos} (hh : A.handled = some (.ref e))
    (h : wpAny (model prog w) A x (fun v s₁ => ∃ e2 t oe vs, v = .ref e2 ∧ s₁.heap.get? e2 = some { cls := .type cls, data := .fields #[.ref t, .none, .none, .none, .bool false, .none] } ∧ @Ne Nat e2 e ∧
      s₁.heap.get? e = some oe ∧ oe.data = .fields vs ∧ vs[2]? = some .none ∧
      ∀ h', h'.get? e2 = some { cls := .type cls, data := .fields #[.ref t, .none, .ref e, .none, .bool true, .none] } → (∀ b, b ≠ e2 → h'.get? b = s₁.heap.get? b) → E (.ref e2) { s₁ with heap := h' }) E s) :
    wpAny (model prog w) A (raiseStmt env (some x) (some (do let v ← (pure Value.none : Sem Value); standAt pos; pure v))) Q E s := by
  unfold raiseStmt
  refine wpAny_bind (wpAny_mono h (fun v s₁ h₁ => ?_) fun _ _ x => x)
  obtain ⟨e2, t, oe, vs, rfl, he2, hne, he, hd, h2, hE⟩ := h₁
  obtain ⟨hp, g, d, tk, os⟩ := s₁
  have hsub := F.isExc
  have hmeta := F.plainMeta
  repeat (first | refine wpAny_loadPart he2 ?_ | wp_step)
  generalize hG1 : (hp.update e2 (Obj.mapFields fun x => x.setIfInBounds 3 Value.none)).update e2 (Obj.mapFields fun x => x.setIfInBounds 4 (Value.bool true)) = G
  have hne' : @Ne Nat e e2 := Ne.symm hne
  have u1 : (hp.update e2 (Obj.mapFields fun x => x.setIfInBounds 3 Value.none)).get? e2 = some { cls := .type cls, data := .fields #[.ref t, .none, .none, .none, .bool false, .none] } :=
    Heap.get?_update_self _ he2 rfl
  have u2 : G.get? e2 = some { cls := .type cls, data := .fields #[.ref t, .none, .none, .none, .bool true, .none] } := by
    rw [← hG1]; exact Heap.get?_update_self _ u1 rfl
  have u3 : ∀ b, b ≠ e2 → G.get? b = hp.get? b := fun b hb => by
    rw [← hG1, Heap.get?_update_other _ _ (Ne.symm hb), Heap.get?_update_other _ _ (Ne.symm hb)]
  have u4 : G.get? e = some oe := (u3 e hne').trans he
  unfold raiseNew
  refine wpAny_bind (wpAny_handled ?_)
  rw [hh]
  dsimp only
  rw [if_pos (show (Value.ref e != Value.ref e2) = true from by simp [hne'])]
  refine wpAny_bind (wpAny_holding (wpAny_runValue (codeAny_builtin entry_unchain ?_)))
  unfold Builtin.«proto.unchain»
  dsimp only
  refine wpAny_bind (wpAny_field u4 hd h2 ?_)
  simp only [beq_self_eq_true, if_true]
  refine wpAny_pure ?_
  show wpAny (model prog w) A (do updateField e2 2 (Value.ref e); throw (Value.ref e2)) Q E _
  refine wpAny_bind ?_
  exact (show wpAny (model prog w) A (setField (.ref e2) 2 (.ref e)) _ E _ from wpAny_setField u2 rfl (by simp) (wpAny_throw (hE _ (Heap.get?_update_self _ u2 rfl) fun b hb => (Heap.get?_update_other _ _ (Ne.symm hb)).trans (u3 b hb))))
end

section
variable {prog : Program} {w : World} {A₀ : Around} {E : Value → Shared → Prop} {s' : Shared} {base g g₀ G h : Heap} {outer : List Env} {L a e e2 : Addr} {m : Str → Option Value} {name : Str} {scope : Scope} {cd : Value}
  {n : Str} {b₀ : Stmt} {suite : List Stmt} {pos np : Pos} {rest : List ExceptHandler} {Q : Flow → Shared → Prop}

/-- what is hidden: the frames -/
noncomputable abbrev hid (h : Heap) (l : List Env) : Heap := hideAll h (l.filterMap (·.frame))

theorem hid_g (F : Fr g L h m) {b : Addr} {o : Obj} (q : g.get? b = some o) (nm : b ∉ outer.filterMap (·.frame)) : (hid h (envOf name scope L a cd :: outer)).get? b = some o :=
  hideAll_get _ (F.keep b o q) fun hm => by
    rcases kts_mem hm with z | z
    · rw [z, kts_self F] at q
      cases q
    · exact nm z
theorem hid_base (K : Below A₀ base outer g) (F : Fr g L h m) : base.StaysIn (hid h (envOf name scope L a cd :: outer)) := fun b o q => hid_g F (K.stays b o q) fun hm => by
  rw [(K.frames.mem hm).1] at q
  cases q

theorem suite_out {cls : Value} {t : Value} {vs : Array Value} {oe : Obj} (K : Below A₀ base outer g) (F : Fr g L h m) (hkeep : ∀ b o, h.get? b = some o → s'.heap.get? b = some o) (hnew : h.get? e2 = none)
    (he : s'.heap.get? e2 = some oe) (hcls : oe.cls = cls) (hd : oe.data = .fields vs) (h0 : vs[0]? = some t) (h1 : vs[1]? = some .none) (h2 : vs[2]? = some (.ref e))
    (hE : ∀ h' T tk, Hot (hid h (envOf name scope L a cd :: outer)) (envOf name scope L a cd :: outer) e2 T cls t (.ref e) (rawInt L) h' → g.UpToSlots h' → E (.ref e2) { s' with heap := h', toks := tk })
    (hk : scope.kind = .function := by rfl) (hlo : (envOf name scope L a cd).kindOf n = some .local := by rfl) :
    AsSuiteRaised (model prog w) ((A₀.deeper (envOf name scope L a cd)).mark (some (.ref e))) (envOf name scope L a cd) n pos (notedBy (model prog w) ((A₀.deeper (envOf name scope L a cd)).mark (some (.ref e))) (envOf name scope L a cd) (cameBackBy (model prog w) (A₀.deeper (envOf name scope L a cd)) (envOf name scope L a cd) E)) (.ref e2) s' := by
  have K' := K.push (name := name) (a := a) (cd := cd) F hk
  have hin : ∀ env ∈ (envOf name scope L a cd :: outer), ∀ b, env.frame = some b → b ∈ (envOf name scope L a cd :: outer).filterMap (·.frame) := fun env he b hb => List.mem_filterMap.mpr ⟨env, he, hb⟩
  have hLB : (hid h (envOf name scope L a cd :: outer)).get? L = none := hideAll_none _ (List.mem_filterMap.mpr ⟨_, .head _, rfl⟩)
  have fr6 : s'.heap.FunFrames (hid h (envOf name scope L a cd :: outer)) (envOf name scope L a cd :: outer) := (funFrames_hide K'.frames hin).of_keeps fun b o hb _ => ⟨o, hkeep b o hb, rfl⟩
  have hen : (hid h (envOf name scope L a cd :: outer)).get? e2 = none := by
    cases q : (hid h (envOf name scope L a cd :: outer)).get? e2 with
    | none => rfl
    | some o => have := of_hideAll _ q; rw [hnew] at this; cases this
  have hfr : ((A₀.deeper (envOf name scope L a cd)).mark (some (.ref e))).frames = some (envOf name scope L a cd :: outer) := Around.frames_deeper K.stack
  have gL : ∀ b o, g.get? b = some o → b ≠ L := fun b o q z => by rw [z, kts_self F] at q; cases q
  unfold AsSuiteRaised
  refine hot_note hfr fr6 rfl he (fun b o q => hkeep b o (of_hideAll _ q)) hen hd h0 h1 h2 fun h7 T X7 U7 => ?_
  have N7 : h7.Ns L m := U7.ns (by
    obtain ⟨o, es, ep, ho, r⟩ := F.ns
    exact ⟨o, es, ep, hkeep _ _ ho, r⟩)
  rw [hcls] at X7
  refine wpAny_nameGoes hlo N7 (by show (scope.kind == .class || (scope.kind == .module && L != mainGlobals)) = false; rw [hk]; rfl) fun h8 m8 N8 S8 => ?_
  have eL : e2 ≠ L := fun q => by
    obtain ⟨o, es, ep, ho, hd', _⟩ := N7
    obtain ⟨oe', vs', x1, _, x3, _⟩ := X7.exc
    rw [q, ho] at x1
    rw [← Option.some.inj x1, hd'] at x3
    cases x3
  have TL : T ≠ L := fun q => by
    obtain ⟨o, es, ep, ho, hd', _⟩ := N7
    obtain ⟨oe', vs', x1, x3, _⟩ := X7.tb
    rw [q, ho] at x1
    rw [← Option.some.inj x1, hd'] at x3
    cases x3
  have fr8 : h8.FunFrames (hid h (envOf name scope L a cd :: outer)) (envOf name scope L a cd :: outer) := by
    obtain ⟨f1, ⟨L', o', f2, f3, f4, f5⟩, f6⟩ := X7.frames
    obtain ⟨o, es, ep, ho, hd', _⟩ := N8
    refine ⟨f1, ⟨L, o, rfl, hLB, ho, fun vs q => by rw [hd'] at q; cases q⟩, ?_⟩
    have : ∀ (l : List Env), (∀ env ∈ l, ∀ b, env.frame = some b → b ≠ L) → h7.FunFrames (hid h (envOf name scope L a cd :: outer)) l → h8.FunFrames (hid h (envOf name scope L a cd :: outer)) l := by
      intro l
      induction l with
      | nil => intro _ _; trivial
      | cons env l ih =>
        rintro hl ⟨r1, ⟨L2, o2, r2, r3, r4, r5⟩, r6⟩
        exact ⟨r1, ⟨L2, o2, r2, r3, (S8.2 L2 (hl env (.head _) L2 r2)).trans r4, r5⟩, ih (fun env he => hl env (.tail _ he)) r6⟩
    refine this outer (fun env he b hb q => ?_) f6
    subst q
    obtain ⟨_, o, ho, _⟩ := K.frames.mem (List.mem_filterMap.mpr ⟨env, he, hb⟩)
    rw [kts_self F] at ho
    cases ho
  have X8 : Hot (hid h (envOf name scope L a cd :: outer)) (envOf name scope L a cd :: outer) e2 T cls t (.ref e) (rawInt L) h8 := by
    obtain ⟨oe', vs', x1, x2⟩ := X7.exc
    obtain ⟨oT, ts, t1, t2⟩ := X7.tb
    exact ⟨fun b o q => (S8.2 b fun z => by rw [show b = L from z, hLB] at q; cases q).trans (X7.stays b o q), fr8, X7.newE, X7.newT, X7.ne, ⟨oe', vs', (S8.2 e2 eL).trans x1, x2⟩, ⟨oT, ts, (S8.2 T TL).trans t1, t2⟩⟩
  have U8 : g.UpToSlots h8 := fun b o q hn => by
    obtain ⟨sl, z⟩ := U7 b o (hkeep b o (F.keep b o q)) hn
    exact ⟨sl, (S8.2 b (gL b o q)).trans z⟩
  have step : ∀ {A : Around} {Q : Unit → Shared → Prop} {E : Value → Shared → Prop} {s : Shared} {t' : Value} {fl : Value}, Hot (hid h (envOf name scope L a cd :: outer)) (envOf name scope L a cd :: outer) e2 T cls t t' fl s.heap → 
      wpAny (model prog w) A (setFlight (.ref e2) (envOf name scope L a cd).frame) Q E s → wpAny (model prog w) A (do
        if (← field (.ref e2) 1) == .none then unsupported "frame.own-activation:exception-without-traceback"
        setFlight (.ref e2) (envOf name scope L a cd).frame) Q E s := by
    intro A Q E s t' fl X hq
    obtain ⟨oe', vs', x1, x2, x3, x4, x5, x6⟩ := X.exc
    refine wpAny_bind (wpAny_field x1 x3 x5 ?_)
    rw [if_neg (show ¬ ((Value.ref T == Value.none) = true) from by simp)]
    exact hq
  unfold PySem.passOn
  obtain ⟨oe', vs', x1, x2, x3, x4, x5, x6⟩ := X8.exc
  refine wpAny_bind (wpAny_field x1 x3 x5 ?_)
  rw [if_neg (show ¬ ((Value.ref T == Value.none) = true) from by simp)]
  refine wpAny_bind (hot_flight X8 fun h9 X9 U9 => wpAny_throw ?_)
  show wpAny _ _ (noteFrame _ _) _ _ _
  refine wpAny_noteFrame_againW rfl X9.traced ?_
  show wpAny _ _ _ _ _ _
  refine step X9 (hot_flight X9 fun h10 X10 U10 => hE h10 T _ X10 ((U8.trans U9).trans U10))
end
end B58
-- X3
namespace B58
open PySem PySem.W PyProof.Rows PySem.Calls
open PySem.Spec

section
variable {prog : Program} {w : World} {A A₀ : Around} {E : Value → Shared → Prop} {s s' : Shared} {base g g₀ G h : Heap} {outer : List Env} {L a e e2 : Addr} {m : Str → Option Value} {name : Str} {scope : Scope} {cd : Value}
  {n : Str} {pos np yp cp rp : Pos} {rest : List ExceptHandler} {Q : Flow → Shared → Prop} {KF : Frag}
  {p : Program} {loose : List Str} {mean : ExcName → Option Value} {mg mb : Str → Option Value} {x y : Str} {X T' Y newId initId : String}

theorem raise_fromNone_call {cls newId initId : String} {env : Env} (FC : ExcCallFacts cls newId initId) (FR : ExcRaiseFacts cls) {y : Str} {c : Expr} (hc : eval c env = pure .none) {oe : Obj} {vs : Array Value}
    (hh : A.handled = some (.ref e)) (he : s.heap.get? e = some oe) (hd : oe.data = .fields vs) (h2 : vs[2]? = some .none)
    (hname : ∀ Q : Value → Shared → Prop, Q (.type cls) s → wpAny (model prog w) A (eval (.Name y yp) env) Q E s)
    (h : ∀ h' e2 t, (∀ b o, s.heap.get? b = some o → h'.get? b = some o) → s.heap.get? e2 = none → h'.get? e2 = some { cls := .type cls, data := .fields #[.ref t, .none, .ref e, .none, .bool true, .none] } → E (.ref e2) { s with heap := h' }) :
    wpAny (model prog w) A (exec (.Raise (some (.Call (.Name y yp) [] [] cp)) (some c) rp) env) Q E s := by
  rw [arm_exec_Raise]
  show wpAny _ _ (do standAt rp; raiseStmt env (some (do let v ← eval (.Call (.Name y yp) [] [] cp) env; standAt rp; pure v)) (some (do let v ← eval c env; standAt rp; pure v))) _ _ _
  rw [hc]
  refine wpAny_bind (wpAny_standAt (raise_fromNone (pos := rp) FR (e := e) hh ?_))
  refine wpAny_bind (wpAny_Call_ofName (hname _ ?_))
  refine callWith_excType rfl ?_
  show wpAny _ _ (evalArgs (.type cls) true [] []) _ _ _
  obtain ⟨hp, gg, d, tk, os⟩ := s
  refine wpAny_of_eq (a := { pos := [], kw := [] }) rfl ?_
  refine wpAny_call_exc FC fun h' e2 hm => ?_
  obtain ⟨t, ht, _, _⟩ := hm.there
  have hne : @Ne Nat e2 e := fun q => by
    have := hm.new
    rw [show e2 = e from q] at this
    rw [this] at he
    cases he
  refine wpAny_bind (wpAny_standAt (wpAny_pure ⟨e2, t, oe, vs, rfl, ht, hne, hm.keeps _ _ he, hd, h2, fun h'' q1 q2 => h h'' e2 t (fun b o hb => ?_) hm.new q1⟩))
  exact (q2 b (fun q => by rw [q, hm.new] at hb; cases hb)).trans (hm.keeps _ _ hb)

theorem reraised (K : Below A₀ base outer g) (F : Fr g L h m) (hx : Heap.NewExc h s'.heap e X) (XB : KF.In base) (TB : Top p loose mean mg mb base)
    (FC : ExcCallFacts Y newId initId) (FR : ExcRaiseFacts Y) {c : Expr} (hc : eval c (envOf name scope L a cd) = pure .none)
    (ex : nsIn KF mainGlobals x = some none) (hv : bootBuiltins x = some (.type T')) (hn' : x ≠ "__name__")
    (ey : nsIn KF mainGlobals y = some none) (hvy : bootBuiltins y = some (.type Y)) (hny : y ≠ "__name__")
    (hexc : isSubtype (.type T') (.type "BaseException") = pure true) (hnt : isSubtype (.type ((Manifest.find? T').elim "type" fun y => y.metatype)) (.type "tuple") = pure false) (hsub : isSubtype (.type X) (.type T') = pure true)
    (hE : ∀ e2 h' tk g5 h5 m5 T t, KtsTurn (outer.filterMap (·.frame)) g g5 → Fr g5 L h5 m5 → Below A₀ base outer g5 → Hot (hid h5 (envOf name scope L a cd :: outer)) (envOf name scope L a cd :: outer) e2 T (.type Y) t (.ref e) (rawInt L) h' → g5.UpToSlots h' → E (.ref e2) { s' with heap := h', toks := tk })
    (hk : scope.kind = .function := by rfl) (hlo : (envOf name scope L a cd).kindOf n = some .local := by rfl) (hkx : (envOf name scope L a cd).kindOf x = some .globalImplicit := by rfl) (hdx : (x == ("__debug__" : Str)) = false := by decide)
    (hky : (envOf name scope L a cd).kindOf y = some .globalImplicit := by rfl) (hdy : (y == ("__debug__" : Str)) = false := by decide) :
    wpAny (model prog w) (A₀.deeper (envOf name scope L a cd)) (noteFrame (.ref e) (envOf name scope L a cd))
      (fun _ s₂ => wpAny (model prog w) (A₀.deeper (envOf name scope L a cd)) (setFlight (.ref e) none) (fun _ s₃ =>
        wpAny (model prog w) (A₀.deeper (envOf name scope L a cd)) (handleBy (.ref e) (envOf name scope L a cd) (.ExceptHandler (some (.Name x np)) (some n) [.Raise (some (.Call (.Name y yp) [] [] cp)) (some c) rp] pos :: rest)) Q E s₃) E s₂) E s' := by
  have K' := K.push (name := name) (a := a) (cd := cd) F hk
  have hin : ∀ env ∈ (envOf name scope L a cd :: outer), ∀ b, env.frame = some b → b ∈ (envOf name scope L a cd :: outer).filterMap (·.frame) := fun env he b hb => List.mem_filterMap.mpr ⟨env, he, hb⟩
  obtain ⟨ob, tp, he, hcls, hd⟩ := hx.there
  have hen : (hid h (envOf name scope L a cd :: outer)).get? e = none := by
    cases q : (hid h (envOf name scope L a cd :: outer)).get? e with
    | none => rfl
    | some o => have := of_hideAll _ q; rw [hx.new] at this; cases this
  have hBG : ∀ b o, h.get? b = some o → b ∉ (envOf name scope L a cd :: outer).filterMap (·.frame) → (hid h (envOf name scope L a cd :: outer)).get? b = some o := fun b o q nm => hideAll_get _ q nm
  refine hot_note (c := .none) (Around.frames_deeper K.stack) ((funFrames_hide K'.frames hin).of_keeps fun b o hb _ => ⟨o, hx.keeps b o hb, rfl⟩) rfl he (fun b o q => hx.keeps b o (of_hideAll _ q)) hen hd (a0 := tp) rfl rfl rfl fun h1 T X1 U1 => ?_
  refine hot_flight X1 fun h2 X2 U2 => ?_
  have V2 : h.UpToSlots h2 := ((Heap.UpToSlots.of_keeps hx.keeps).trans U1).trans U2
  obtain ⟨g2, T2, F2, K2⟩ := kts_ground K F hBG X2.stays V2
  have C2 : KF.In g2 := XB.keeps K2.stays
  have P2 : TopRead p loose mg mb g2 := topRead_of (TB.keeps K2.stays)
  obtain ⟨oe, vs, x1, x2, x3, x4, x5, x6⟩ := X2.exc
  rw [hcls] at x2
  refine wpAny_handleBy_builtin_as (X := X) (T := T') (b := true) hexc hnt hsub (name_B F2 C2 P2 ex hv hn' ⟨rfl, ⟨oe, x1, x2⟩, ?_⟩ hk hkx hdx)
  refine hot_flight X2 fun h3 X3 U3 => ?_
  have V3 := V2.trans U3
  obtain ⟨g3, T3, F3, K3⟩ := kts_ground K F hBG X3.stays V3
  obtain ⟨oe', vs', y1, y2, y3, y4, y5, y6⟩ := X3.exc
  have ne3 : e ≠ L := fun q => by
    obtain ⟨o, es, ep, ho, hd', _⟩ := F3.ns
    rw [q, ho] at y1
    rw [← Option.some.inj y1, hd'] at y3
    cases y3
  have new3 : g3.get? e = none := T3.none_ _ (kts_none F.keep hx.new)
  have N3 : News g3 L h3 [(e, oe')] := fun q hq => by
    obtain rfl := List.mem_singleton.mp hq
    exact ⟨y1, ne3, new3⟩
  refine stN F3 N3 (fun h4 F4 N4 => ?_) hk hlo
  have z1 : h4.get? e = some oe' := (N4 _ (.head _)).1
  have C3 : KF.In g3 := XB.keeps K3.stays
  have P3 : TopRead p loose mg mb g3 := topRead_of (TB.keeps K3.stays)
  refine wpAny_execs_cons ?_
  refine raise_fromNone_call (cls := Y) FC FR hc (oe := oe') (vs := vs') rfl z1 y3 y6 (fun Q hq => name_B F4 C3 P3 ey hvy hny hq hk hky hdy) fun h' e2 t k1 k2 k3 => ?_
  exact suite_out K3 F4 k1 k2 k3 rfl rfl rfl rfl rfl (fun h'' T tk X U => hE e2 h'' tk g3 h4 _ T _ T3 F4 K3 X U) hk hlo

theorem reraised_out {M : Model} {cls : Value} {g5 h5 : Heap} {m5 : Str → Option Value} {T : Addr} {t c : Value} {Q' : Unit → Shared → Prop} {E' : Value → Shared → Prop}
    (T5 : KtsTurn (outer.filterMap (·.frame)) g g5) (F5 : Fr g5 L h5 m5) (K5 : Below A₀ base outer g5) (X5 : Hot (hid h5 (envOf name scope L a cd :: outer)) (envOf name scope L a cd :: outer) e2 T cls t c (rawInt L) s'.heap) (U5 : g5.UpToSlots s'.heap)
    (hQ : ∀ h', RaisedSN base g outer e2 cls [] h' → g.UpToSlots h' → Q' () { s' with heap := h' }) :
    wpAny M A (leaving (envOf name scope L a cd) (.ref e2)) Q' E' s' := by
  unfold leaving
  refine wpAny_bind (wpAny_noteFrame_againW rfl X5.traced ?_)
  refine wpAny_landsW X5.held fun h' hfl hs => hQ h' ?_ ?_
  · obtain ⟨k1, k2, ⟨_, _, k3⟩, k4⟩ := hfl
    refine ⟨hid h5 (envOf name scope L a cd :: outer), t, hid_base K5 F5, fun b o q nm => hid_g F5 (T5.other b o q nm) nm, ?_, k1, k2, k3, k4⟩
    intro q hq
    exact absurd hq List.not_mem_nil
  · exact Heap.UpToSlots.trans (fun b o q _ => T5.up q) (U5.trans hs)
end
end B58
-- P8
namespace B58
open PySem PySem.W PyProof.Rows PySem.Spec
theorem bInts_octs (v : Array UInt8) : KBw.bInts v = (octs v).map fun d => ((d : Nat) : Int) := by
  simp [KBw.bInts, octs]
theorem valI_cast (b : Nat) (l : List Nat) : valI (b : Int) (l.map fun d => ((d : Nat) : Int)) = (valN b l : Nat) := by
  unfold valI valN
  have : ∀ (l : List Nat) (a : Nat), (l.map fun d => ((d : Nat) : Int)).foldl (fun a d => a * (b : Int) + d) (a : Int) = ((l.foldl (fun a d => a * b + d) a : Nat) : Int) := by
    intro l
    induction l with
    | nil => intro a; rfl
    | cons d l ih =>
      intro a
      simp only [List.map_cons, List.foldl_cons]
      rw [← ih (a * b + d)]
      congr 1
  exact this l 0
/-- the number that a text's signs tell -/
def decN (al : Array UInt8) (l : List Nat) : Nat := valN al.size (l.map (rk al))
theorem decP_end {al u : Array UInt8} {d : Int} (h : DecP al (KBw.bInts u) d) : okIn al (octs u) ∧ d = (decN al (octs u) : Nat) := by
  obtain ⟨h1, h2⟩ := h
  refine ⟨fun x hx => ?_, ?_⟩
  · have := h1 (x : Int) (by rw [bInts_octs]; exact List.mem_map.mpr ⟨x, hx, rfl⟩)
    simpa using this
  · rw [h2, bInts_octs, List.map_map, decN, ← valI_cast, List.map_map]
    congr 1
theorem not_ok {al u : Array UInt8} {c : Int} {pre post : List Int} (e : KBw.bInts u = pre ++ c :: post) (hc : c.toNat ∉ octs al) : ¬ okIn al (octs u) := fun h => by
  refine hc (h _ ?_)
  have : c ∈ KBw.bInts u := by rw [e]; simp
  rw [bInts_octs] at this
  obtain ⟨d, hd, rfl⟩ := List.mem_map.mp this
  simpa using hd

/-- what is told of a call that raises -/
noncomputable abbrev Fails (base : Heap) (l : List Env) (s : Shared) (E : Value → Shared → Prop) (cls : Value) : Prop :=
  ∀ (e : Addr) (h' : Heap) (tk' : Nat), RaisedSN base s.heap l e cls [] h' → s.heap.UpToSlots h' → E (.ref e) { s with heap := h', toks := tk' }

theorem raised_under {base g G h : Heap} {l : List Env} {e : Addr} {cls : Value} (k : ∀ b o, G.get? b = some o → g.get? b = some o) (R : RaisedSN base g l e cls [] h) : RaisedSN base G l e cls [] h := by
  obtain ⟨B, a0, hB, hBG, _, hfl⟩ := R
  exact ⟨B, a0, hB, fun b o q nm => hBG b o (k b o q) nm, fun q hq => absurd hq List.not_mem_nil, hfl⟩
theorem up_under {g G h : Heap} (k : ∀ b o, G.get? b = some o → g.get? b = some o) (U : g.UpToSlots h) : G.UpToSlots h := fun b o q hn => U b o (k b o q) hn
end B58
-- P9
namespace B58
open PySem PySem.W PyProof.Rows PySem.Spec
theorem valN_lt {b : Nat} : ∀ {l : List Nat}, (∀ d ∈ l, d < b) → valN b l < b ^ l.length := by
  intro l
  induction l using snoc_ind with
  | h0 => intro _; simp [valN]
  | h1 l d ih =>
    intro h
    have h1 := ih fun x hx => h x (List.mem_append_left _ hx)
    have h2 := h d (by simp)
    have e : valN b (l ++ [d]) = valN b l * b + d := by simp [valN]
    rw [e, List.length_append, List.length_singleton, Nat.pow_succ]
    have : (valN b l + 1) * b ≤ b ^ l.length * b := Nat.mul_le_mul_right _ h1
    rw [Nat.add_mul] at this
    omega
/-- kept shut: no line shall look at the number -/
structure Lt8 (n : Nat) : Prop where
  lt : n < 2 ^ 800
theorem decN_lt {al : Array UInt8} {l : List Nat} (h : okIn al l) (hb : 2 ≤ al.size) (hb2 : al.size ≤ 256) (hl : l.length ≤ 100) : Lt8 (decN al l) := by
  constructor
  have h1 : decN al l < al.size ^ (l.map (rk al)).length := valN_lt fun d hd => by
    obtain ⟨x, hx, rfl⟩ := List.mem_map.mp hd
    have := List.idxOf_lt_length_of_mem (h x hx)
    rw [octs_length] at this
    exact this
  rw [List.length_map] at h1
  refine Nat.lt_of_lt_of_le h1 ?_
  calc al.size ^ l.length ≤ 256 ^ l.length := Nat.pow_le_pow_left hb2 _
    _ ≤ 256 ^ 100 := Nat.pow_le_pow_right (by decide) hl
    _ = 2 ^ 800 := by rw [show (256 : Nat) = 2 ^ 8 from rfl, ← Nat.pow_mul]
/-- the octets of a number, the greatest first -/
def octN (n : Nat) : List UInt8 := (digs 256 n).map Nat.toUInt8
/-- what b58decode gives for the text u without blanks behind -/
def decB (al u : Array UInt8) : Array UInt8 := (List.replicate (u.size - (lstrip u #[sign al 0]).size) 0 ++ octN (decN al (octs (rstrip (lstrip u #[sign al 0]))))).toArray
def DecW (T acc : Int) (out : List Int) : Prop := 0 ≤ acc ∧ out.length ≤ 800 ∧ WhP 256 T acc out
theorem dec_s1 (n : Nat) : 0 ≤ ((n : Nat) : Int) ∧ ([] : List Int).length ≤ 800 ∧ WhP 256 (n : Int) (n : Int) [] :=
  ⟨by omega, by simp, by omega, fun d hd => by simp at hd, by simp [vLE], .inl rfl⟩
theorem dec_s2 {n : Nat} {acc : Int} {out : List Int} (hn' : Lt8 n) (h : WhP 256 (n : Int) acc out) (hc : 0 < acc) : 0 ≤ acc.fdiv 256 ∧ (out ++ [acc.fmod 256]).length ≤ 800 ∧ WhP 256 (n : Int) (acc.fdiv 256) (out ++ [acc.fmod 256]) := by
  have hn := hn'.lt
  have := whP_turn (by decide) h hc
  exact ⟨this.1, top_len (by decide) this.2.2.2 (by exact_mod_cast hn), this⟩
theorem dec_in {n : Nat} {acc : Int} {out : List Int} (h : WhP 256 (n : Int) acc out) : ∀ d ∈ out, 0 ≤ d ∧ d < 256 := h.2.1
theorem dec_end {n : Nat} {acc : Int} {out : List Int} (h : WhP 256 (n : Int) acc out) (hc : ¬ 0 < acc) : byteArr out.reverse = (octN n).toArray := by
  obtain ⟨h0, h2, h3, h4⟩ := h
  have : acc = 0 := by omega
  subst this
  have h3' : vLE 256 out = (n : Int) := by simpa using h3
  rw [← h3'] at h4
  have e := digs_of (b := 256) (by decide) out h2 h4
  rw [show (((256 : Nat) : Int)) = 256 from rfl, h3', Int.toNat_natCast] at e
  rw [e, byteArr, List.map_map, octN]
  congr 1
theorem decB_eq (al u : Array UInt8) (n : Nat) (e : n = decN al (octs (rstrip (lstrip u #[sign al 0])))) : (List.replicate ((u.size : Int) - ((lstrip u #[sign al 0]).size : Int)).toNat [(0 : UInt8)]).flatten.toArray ++ (octN n).toArray = decB al u := by
  rw [List.flatten_replicate_singleton, decB, e]
  simp only [List.append_toArray]
  congr 3
  omega
end B58
-- P10
namespace B58
open PySem PySem.W PyProof.Rows PySem.Spec
theorem octs_byteArr (ns : List Int) (h : ∀ n ∈ ns, 0 ≤ n ∧ n < 256) : octs (byteArr ns) = ns.map Int.toNat := by
  unfold octs byteArr
  rw [List.map_map]
  apply List.map_congr_left
  intro n hn
  obtain ⟨h0, h1⟩ := h n hn
  show (n.toNat.toUInt8).toNat = n.toNat
  rw [show n.toNat.toUInt8 = UInt8.ofNat n.toNat from rfl, UInt8.toNat_ofNat']
  omega
/-- what the law asks of an alphabet -/
structure AlOk (kind : Int) (al : Array UInt8) : Prop where
  lo : 2 ≤ al.size
  hi : al.size ≤ 256
  nd : (octs al).Nodup
  vis : ∀ x ∈ octs al, 33 ≤ x ∧ x ≠ 133 ∧ x ≠ 160
  k0 : kind = 0 → al = btc
  k1 : kind = 1 → al = rip
  asc : kind ≠ 2 → ∀ x ∈ octs al, x < 128
theorem AlOk.no32 {kind : Int} {al : Array UInt8} (h : AlOk kind al) : 32 ∉ octs al := fun m => by
  have := (h.vis _ m).1
  omega
theorem step_ne {p : Nat} {a s : Int} (hc : ∀ s : Nat, 0 < s → s < p → p.Coprime s) (hs : 1 ≤ s) (hs2 : s < p) {i j : Nat} (hij : i < j) (hj : j < p) : (a + s * (i : Int)) % (p : Int) ≠ (a + s * (j : Int)) % (p : Int) := by
  intro e
  have hd : (p : Int) ∣ (a + s * (j : Int)) - (a + s * (i : Int)) := by
    refine Int.dvd_of_emod_eq_zero ?_
    rw [Int.sub_emod, ← e, Int.sub_self, Int.zero_emod]
  have e2 : (a + s * (j : Int)) - (a + s * (i : Int)) = ((s.toNat * (j - i) : Nat) : Int) := by
    have h1 : (s.toNat : Int) = s := Int.toNat_of_nonneg (by omega)
    have h2 : ((j - i : Nat) : Int) = (j : Int) - i := by omega
    rw [Int.natCast_mul, h1, h2, Int.mul_sub]
    omega
  rw [e2] at hd
  have hd' : p ∣ s.toNat * (j - i) := Int.natCast_dvd_natCast.mp hd
  have := (hc s.toNat (by omega) (by omega)).dvd_of_dvd_mul_left hd'
  have := Nat.le_of_dvd (by omega) this
  omega
theorem cop181 : ∀ s : Nat, 0 < s → s < 181 → Nat.Coprime 181 s := by
  have h : ∀ s : Fin 181, 0 < s.val → Nat.gcd 181 s.val = 1 := by decide +kernel
  exact fun s h0 h1 => h ⟨s, h1⟩ h0
theorem cop89 : ∀ s : Nat, 0 < s → s < 89 → Nat.Coprime 89 s := by
  have h : ∀ s : Fin 89, 0 < s.val → Nat.gcd 89 s.val = 1 := by decide +kernel
  exact fun s h0 h1 => h ⟨s, h1⟩ h0
/-- a walk of signs -/
theorem walk_ok {p : Nat} {a s : Int} {n : Nat} {f : Int → Int} (hp : 0 < p) (hc : ∀ s : Nat, 0 < s → s < p → p.Coprime s) (hs : 1 ≤ s) (hs2 : s < p) (hn : n ≤ p)
    (hf : ∀ x : Int, 0 ≤ x → x < p → 0 ≤ f x ∧ f x < 256) (hi : ∀ x y : Int, 0 ≤ x → x < p → 0 ≤ y → y < p → f x = f y → x = y) :
    (octs (byteArr ((rangeKs 0 n).map fun k => f ((a + s * k).fmod p)))).Nodup ∧ ∀ x ∈ octs (byteArr ((rangeKs 0 n).map fun k => f ((a + s * k).fmod p))), ∃ y : Int, 0 ≤ y ∧ y < p ∧ x = (f y).toNat := by
  have hm : ∀ k : Int, 0 ≤ (a + s * k).fmod p ∧ (a + s * k).fmod p < p := fun k => ⟨Int.fmod_nonneg_of_pos _ (by omega), Int.fmod_lt_of_pos _ (by omega)⟩
  have hin : ∀ x ∈ (rangeKs 0 n).map fun k => f ((a + s * k).fmod p), 0 ≤ x ∧ x < 256 := by
    intro x hx
    obtain ⟨k, _, rfl⟩ := List.mem_map.mp hx
    exact hf _ (hm k).1 (hm k).2
  rw [octs_byteArr _ hin]
  constructor
  · unfold rangeKs List.Nodup
    rw [List.map_map, List.map_map, List.pairwise_map]
    refine List.Pairwise.imp_of_mem ?_ (List.pairwise_lt_range (n := n))
    intro i j hi' hj' hij e
    have hj := List.mem_range.mp hj'
    have e' : (f ((a + s * (0 + (i : Int))).fmod p)).toNat = (f ((a + s * (0 + (j : Int))).fmod p)).toNat := e
    have b1 := hf _ (hm (0 + (i : Int))).1 (hm (0 + (i : Int))).2
    have b2 := hf _ (hm (0 + (j : Int))).1 (hm (0 + (j : Int))).2
    have e2 := hi _ _ (hm (0 + (i : Int))).1 (hm (0 + (i : Int))).2 (hm (0 + (j : Int))).1 (hm (0 + (j : Int))).2 (by omega)
    rw [Int.zero_add, Int.zero_add, fmod_eq _ (by omega), fmod_eq _ (by omega)] at e2
    exact step_ne hc hs hs2 hij (by omega) e2
  · intro x hx
    rw [List.map_map] at hx
    obtain ⟨k, _, rfl⟩ := List.mem_map.mp hx
    exact ⟨_, (hm k).1, (hm k).2, rfl⟩
theorem al2_ok (start step size : Int) : AlOk 2 (byteArr (signs2 start step size)) := by
  have h1 := Int.fmod_nonneg_of_pos step (b := 180) (by decide)
  have h2 := Int.fmod_lt_of_pos step (b := 180) (by decide)
  have h3 := Int.fmod_nonneg_of_pos size (b := 180) (by decide)
  have h4 := Int.fmod_lt_of_pos size (b := 180) (by decide)
  have W := walk_ok (p := 181) (a := start.fmod 181) (s := 1 + step.fmod 180) (n := (2 + size.fmod 180 - 0).toNat) (f := fun k' => if k' < 94 then 33 + k' else 67 + k') (by decide) cop181 (by omega) (by omega) (by omega)
    (fun x _ _ => by (try dsimp only); split <;> omega) (fun x y _ _ _ _ e => by (try dsimp only at e); split at e <;> split at e <;> omega)
  have e : signs2 start step size = (rangeKs 0 (2 + size.fmod 180 - 0).toNat).map (fun k => (fun k' : Int => if k' < 94 then 33 + k' else 67 + k') ((start.fmod 181 + (1 + step.fmod 180) * k).fmod (181 : Nat))) := by
    unfold signs2; rw [List.map_map]; rfl
  rw [← e] at W
  have sz : (byteArr (signs2 start step size)).size = (2 + size.fmod 180 - 0).toNat := by
    rw [byteArr_size, e, List.length_map, rangeKs_length]
  refine ⟨by omega, by omega, W.1, fun x hx => ?_, by omega, by omega, by omega⟩
  obtain ⟨y, y0, y1, rfl⟩ := W.2 x hx
  (try dsimp only)
  split <;> omega
theorem al3_ok {kind : Int} (hk0 : kind ≠ 0) (hk1 : kind ≠ 1) (start step size : Int) : AlOk kind (byteArr (signs3 start step size)) := by
  have h1 := Int.fmod_nonneg_of_pos step (b := 88) (by decide)
  have h2 := Int.fmod_lt_of_pos step (b := 88) (by decide)
  have h3 := Int.fmod_nonneg_of_pos size (b := 88) (by decide)
  have h4 := Int.fmod_lt_of_pos size (b := 88) (by decide)
  have W := walk_ok (p := 89) (a := start.fmod 89) (s := 1 + step.fmod 88) (n := (2 + size.fmod 88 - 0).toNat) (f := fun k' => 38 + k') (by decide) cop89 (by omega) (by omega) (by omega)
    (fun x _ _ => by (try dsimp only); omega) (fun x y _ _ _ _ e => by (try dsimp only at e); omega)
  have e : signs3 start step size = (rangeKs 0 (2 + size.fmod 88 - 0).toNat).map (fun k => (fun k' : Int => 38 + k') ((start.fmod 89 + (1 + step.fmod 88) * k).fmod (89 : Nat))) := rfl
  rw [← e] at W
  have sz : (byteArr (signs3 start step size)).size = (2 + size.fmod 88 - 0).toNat := by
    rw [byteArr_size, e, List.length_map, rangeKs_length]
  refine ⟨by omega, by omega, W.1, fun x hx => ?_, fun h => absurd h hk0, fun h => absurd h hk1, fun _ x hx => ?_⟩
  · obtain ⟨y, y0, y1, rfl⟩ := W.2 x hx
    (try dsimp only)
    omega
  · obtain ⟨y, y0, y1, rfl⟩ := W.2 x hx
    (try dsimp only)
    omega
theorem al_ok (kind start step size : Int) : AlOk kind (signsV kind start step size) := by
  unfold signsV
  by_cases k0 : kind = 0
  · subst k0
    rw [if_pos rfl]
    exact ⟨by decide, by decide, by decide +kernel, by decide +kernel, fun _ => rfl, fun h => absurd h (by decide), fun _ => by decide +kernel⟩
  · rw [if_neg k0]
    by_cases k1 : kind = 1
    · subst k1
      rw [if_pos rfl]
      exact ⟨by decide, by decide, by decide +kernel, by decide +kernel, fun h => absurd h (by decide), fun _ => rfl, fun _ => by decide +kernel⟩
    · rw [if_neg k1]
      by_cases k2 : kind = 2
      · subst k2
        rw [if_pos rfl]
        exact al2_ok start step size
      · rw [if_neg k2]
        exact al3_ok k0 k1 start step size
end B58
-- P11
namespace B58
open PySem PySem.W PyProof.Rows PySem.Spec
def signs2b (start step size : Int) : List Int := List.map (fun k' => if k' < 94 then 33 + k' else 67 + k') (List.map (fun k' => (start.fmod 181 + (1 + step.fmod 180) * k').fmod 181) (rangeKs 0 (2 + size.fmod 100 - 0).toNat))
def signsVb (kind start step size : Int) : Array UInt8 :=
  if kind = 0 then btc else if kind = 1 then rip else if kind = 2 then byteArr (signs2b start step size) else byteArr (signs3 start step size)
theorem al2_okb (start step size : Int) : AlOk 2 (byteArr (signs2b start step size)) ∧ (byteArr (signs2b start step size)).size ≤ 101 := by
  have h1 := Int.fmod_nonneg_of_pos step (b := 180) (by decide)
  have h2 := Int.fmod_lt_of_pos step (b := 180) (by decide)
  have h3 := Int.fmod_nonneg_of_pos size (b := 100) (by decide)
  have h4 := Int.fmod_lt_of_pos size (b := 100) (by decide)
  have W := walk_ok (p := 181) (a := start.fmod 181) (s := 1 + step.fmod 180) (n := (2 + size.fmod 100 - 0).toNat) (f := fun k' => if k' < 94 then 33 + k' else 67 + k') (by decide) cop181 (by omega) (by omega) (by omega)
    (fun x _ _ => by (try dsimp only); split <;> omega) (fun x y _ _ _ _ e => by (try dsimp only at e); split at e <;> split at e <;> omega)
  have e : signs2b start step size = (rangeKs 0 (2 + size.fmod 100 - 0).toNat).map (fun k => (fun k' : Int => if k' < 94 then 33 + k' else 67 + k') ((start.fmod 181 + (1 + step.fmod 180) * k).fmod (181 : Nat))) := by
    unfold signs2b; rw [List.map_map]; rfl
  rw [← e] at W
  have sz : (byteArr (signs2b start step size)).size = (2 + size.fmod 100 - 0).toNat := by
    rw [byteArr_size, e, List.length_map, rangeKs_length]
  refine ⟨⟨by omega, by omega, W.1, fun x hx => ?_, by omega, by omega, by omega⟩, by omega⟩
  obtain ⟨y, y0, y1, rfl⟩ := W.2 x hx
  (try dsimp only)
  split <;> omega
/-- what law 02 asks of an alphabet -/
structure AlOkb (kind : Int) (al : Array UInt8) : Prop extends AlOk kind al where
  few : al.size ≤ 101
theorem al_okb (kind start step size : Int) : AlOkb kind (signsVb kind start step size) := by
  unfold signsVb
  have h0 := al_ok kind start step size
  unfold signsV at h0
  by_cases k0 : kind = 0
  · rw [if_pos k0] at h0 ⊢; exact ⟨h0, by decide⟩
  · rw [if_neg k0] at h0 ⊢
    by_cases k1 : kind = 1
    · rw [if_pos k1] at h0 ⊢; exact ⟨h0, by decide⟩
    · rw [if_neg k1] at h0 ⊢
      by_cases k2 : kind = 2
      · subst k2
        rw [if_pos rfl]
        exact ⟨(al2_okb start step size).1, (al2_okb start step size).2⟩
      · rw [if_neg k2] at h0 ⊢
        refine ⟨h0, ?_⟩
        have h3 := Int.fmod_nonneg_of_pos size (b := 88) (by decide)
        have h4 := Int.fmod_lt_of_pos size (b := 88) (by decide)
        rw [byteArr_size]
        unfold signs3
        rw [List.length_map, rangeKs_length]
        omega
end B58
-- QT4
namespace B58
open PySem PySem.W PyProof.Rows



local macro_rules | `(tactic| walk_at "call type:bytes") => `(tactic| (k_here; (with_reducible show wpAny _ _ (call (Value.type "bytes") [Value.ref _]) _ _ _); k_dflt (refine' KBa.make_K ?kbaF ?kbaN ?kbah ?kbal ?kbai ?kbar ?kban ?_; (case kbaF => k_asm); (case kbaN => k_asm); (case kbah => rfl); (case kbal => kba_isList); (case kbai => kba_listInts); (case kbar => exact in2 _ _); (case kban => kba_size)); intro _ _ _ F' N' kbaIn; (have kbaS := KBa.sum_in kbaIn)))
theorem c_signs (w : World) (kind start step size : Int) (t1 t2 t3 t4 : Tok) :
    Ctr 3 w 72 (fun _ => True) [.int kind t1, .int start t2, .int step t3, .int size t4] [] (fun t => .bytes (signsVb kind start step size) t) := by
  unfold Ctr
  k_fill
  intro mean mg mb dp un gd cn sn sg sc sm a ccd cl outer A₀ base h₀ L m s news Q E hpre B F X N T hd hu hret
  walk_at "ctr in"
  k_steps
  all_goals refine ret_b hret ?_ (by assumption) (by assumption)
  · rw [signsVb, if_pos (by assumption)]; rfl
  · rw [signsVb, if_neg (by assumption), if_pos (by assumption)]; rfl
  · rw [signsVb, if_neg (by assumption), if_neg (by assumption), if_pos (by assumption)]; rfl
  · rw [signsVb, if_neg (by assumption), if_neg (by assumption), if_neg (by assumption)]; rfl
end B58
-- P5b
namespace B58
open PySem PySem.W PyProof.Rows PySem.Spec
theorem cbr_s1 (old new : Int) : ([] : List Int).length ≤ 250 ∧ OutP old new [] [] := ⟨by simp, outP_start old new⟩
theorem cbr_s2 {old new : Int} {pre out : List Int} {d : Int} (h : OutP old new pre out) (hd : 0 ≤ d) (hl : out.length ≤ 250) :
    0 ≤ d ∧ out.length ≤ 250 ∧ out.length = out.length ∧ ForP new old (valI old (pre ++ [d])) out.length ([] : List Int).length d out := ⟨hd, hl, rfl, forP_start h hd⟩
theorem cbr_s3 {new old T carry : Int} {n : Nat} {out pre : List Int} {k : Int} (hnew : 2 ≤ new) (hold : 0 ≤ old) (h : ForP new old T n pre.length carry out) (hl : out.length ≤ 250) (hk : pre.length < n) (ek : k = 0 + (pre.length : Int)) :
    0 ≤ (carry + out.getD k.toNat 0 * old).fdiv new ∧ (out.set k.toNat ((carry + out.getD k.toNat 0 * old).fmod new)).length ≤ 250 ∧ (out.set k.toNat ((carry + out.getD k.toNat 0 * old).fmod new)).length = n ∧
      ForP new old T n (pre ++ [k]).length ((carry + out.getD k.toNat 0 * old).fdiv new) (out.set k.toNat ((carry + out.getD k.toNat 0 * old).fmod new)) := by
  have e : k.toNat = pre.length := by omega
  rw [e, List.length_append, List.length_singleton]
  have := forP_turn hnew hold h hk
  exact ⟨this.1, by simpa using hl, this.2.1, this⟩
theorem cbr_s4 {old new carry : Int} {n : Nat} {pre out₀ out : List Int} {d : Int} (hnew : 2 ≤ new) (ho : 1 ≤ old) (hd : 0 ≤ d) (hp : ∀ x ∈ pre, 0 ≤ x) (h0 : OutP old new pre out₀) (h : ForP new old (valI old (pre ++ [d])) out₀.length n carry out) (e : n = out₀.length) (hl : out.length ≤ 250) :
    0 ≤ carry ∧ out.length ≤ 250 ∧ WhP new (valI old (pre ++ [d])) carry out := by
  subst e
  refine ⟨h.1, hl, whP_start h ?_⟩
  rcases h0.2.2 with ht | ht
  · exact .inl ht
  · refine .inr (Int.le_trans ht ?_)
    rw [valI_snoc]
    have h1 := valI_nonneg (old := old) (by omega) hp
    have := Int.mul_le_mul_of_nonneg_left ho h1
    omega
theorem cbr_s5 {new T carry : Int} {out : List Int} (hnew : 2 ≤ new) (hT : T < 2 ^ 250) (h : WhP new T carry out) (hc : 0 < carry) :
    0 ≤ carry.fdiv new ∧ (out ++ [carry.fmod new]).length ≤ 250 ∧ WhP new T (carry.fdiv new) (out ++ [carry.fmod new]) := by
  have := whP_turn hnew h hc
  exact ⟨this.1, top_len hnew this.2.2.2 hT, this⟩
theorem cbr_s6 {new old carry : Int} {pre out : List Int} {d : Int} (h : WhP new (valI old (pre ++ [d])) carry out) (hc : ¬ 0 < carry) (hl : out.length ≤ 250) : out.length ≤ 250 ∧ OutP old new (pre ++ [d]) out := ⟨hl, whP_end h hc⟩
theorem cbr_end {old : Int} {new : Nat} {ms : List Nat} {out : List Int} (ho : 1 ≤ old) (hnew : 2 ≤ new) (h : OutP old (new : Int) (ms.map fun d => ((d : Nat) : Int)) out) : out.reverse = (digs new (valN old.toNat ms)).map fun d => ((d : Nat) : Int) := by
  obtain ⟨k, rfl⟩ := Int.eq_ofNat_of_zero_le (Int.le_trans (by decide) ho)
  obtain ⟨h1, h2, h3⟩ := h
  rw [← h2] at h3
  rw [digs_of hnew out h1 h3, h2]
  have := valI_cast k ms
  simp only [Int.ofNat_eq_natCast, Int.toNat_natCast] at this ⊢
  rw [this, Int.toNat_natCast]
theorem cbr_lt {old : Int} {l : List Int} (ho : 1 ≤ old) (ho2 : old ≤ 128) (h : ∀ d ∈ l, 0 ≤ d ∧ d < old) (hl : l.length ≤ 35) : valI old l < 2 ^ 250 := by
  obtain ⟨k, rfl⟩ := Int.eq_ofNat_of_zero_le (Int.le_trans (by decide) ho)
  have e : l = (l.map Int.toNat).map fun d => ((d : Nat) : Int) := by
    rw [List.map_map]
    conv => lhs; rw [← List.map_id l]
    exact List.map_congr_left fun d hd => by have := (h d hd).1; show d = ((d.toNat : Nat) : Int); omega
  have h1 : valN k (l.map Int.toNat) < k ^ (l.map Int.toNat).length := valN_lt fun d hd => by
    obtain ⟨x, hx, rfl⟩ := List.mem_map.mp hd
    have := h x hx
    (try simp only [Int.ofNat_eq_natCast] at this)
    omega
  rw [List.length_map] at h1
  have hk : k ≤ 128 := by (try simp only [Int.ofNat_eq_natCast] at ho2); omega
  have h2 : k ^ l.length ≤ 2 ^ 250 := by
    have hk1 : 1 ≤ k := by (try simp only [Int.ofNat_eq_natCast] at ho); omega
    calc k ^ l.length ≤ 128 ^ l.length := Nat.pow_le_pow_left hk _
      _ ≤ 128 ^ 35 := Nat.pow_le_pow_right (by decide) hl
      _ ≤ 2 ^ 250 := by decide +kernel
  rw [e]
  have := valI_cast k (l.map Int.toNat)
  (try simp only [Int.ofNat_eq_natCast] at this ⊢)
  rw [this]
  have h3 := Nat.lt_of_lt_of_le h1 h2
  exact_mod_cast h3
end B58
-- QT5
namespace B58
open PySem PySem.W PyProof.Rows
theorem lst_pre {ns pre post : List Int} {n : Int} (e : ns = pre ++ n :: post) {P : Int → Prop} (h : ∀ d ∈ ns, P d) : ∀ d ∈ pre ++ [n], P d := fun d hd => h d (by
  rw [e]
  rcases List.mem_append.mp hd with hd | hd
  · exact List.mem_append_left _ hd
  · rw [List.mem_singleton.mp hd]; simp)
theorem lst_pre_len {ns pre post : List Int} {n : Int} (e : ns = pre ++ n :: post) : (pre ++ [n]).length ≤ ns.length := by
  rw [e]; simp
theorem c_carriedL (w : World) (l : Addr) (vs : List Value) (ms : List Nat) (to tn : Tok) (old : Int) (new : Nat) (hl : ms.length ≤ 35) (ho : 1 ≤ old) (ho2 : old ≤ 128) (hd9 : ∀ d ∈ (ms.map fun d => ((d : Nat) : Int)), 0 ≤ d ∧ d < old) (hn : 2 ≤ new) (hn2 : new ≤ 256) :
    CtrL 3 w 79 (fun h => h.IsList l vs.toArray ∧ IntsAre vs (ms.map fun d => ((d : Nat) : Int))) [.ref l, .int old to, .int (new : Int) tn] [] ((digs new (valN old.toNat ms)).map fun d => ((d : Nat) : Int)) := by
  unfold CtrL
  k_fill
  intro mean mg mb dp un gd cn sn sg sc sm a ccd cl outer A₀ base h₀ L m s news Q E hpre B F X N T hd hu hret
  obtain ⟨hbl, hbi⟩ := hpre
  walk_at "ctr in"
  have hbg := stays_list (by assumption) hbl
  have hl' : (ms.map fun d => ((d : Nat) : Int)).length ≤ 35 := by rw [List.length_map]; exact hl
  generalize hns : (ms.map fun d => ((d : Nat) : Int)) = ns at *
  k_with "pyIter ref" => (k_of "here" => k_state (fun pre out => out.length ≤ 250 ∧ OutP old new pre out) "out")
  k_with "pyIter ref" => (k_of "k" => k_state_given ["out!"] (fun out₀ pre carry out => 0 ≤ carry ∧ out.length ≤ 250 ∧ out.length = out₀.length ∧ ForP new old (valI old (kPre ++ [kN])) out₀.length pre.length carry out) "carry" "out")
  k_with "exec While Compare cons nil" => k_while (fun _ carry out => 0 ≤ carry ∧ out.length ≤ 250 ∧ WhP new (valI old (kPre ++ [kN])) carry out) (fun _ carry _ => carry.toNat) "carry" "out"
  have hn' : (2 : Int) ≤ (new : Int) := by omega
  have hI0 : IntsAre [] [] := .nil
  k_with "state" => first
    | exact cbr_s1 _ _
    | exact cbr_s2 (by assumption) (hd9 _ (by assumption)).1 (by assumption)
    | exact cbr_s3 hn' (by omega) (by assumption) (by omega) (by omega) (by omega)
    | exact cbr_s4 hn' ho (hd9 _ (by assumption)).1 (fun x hx => (lst_pre (by assumption) hd9 x (List.mem_append_left _ hx)).1) (by assumption) (by assumption) (by simp [rangeKs_length]) (by omega)
    | exact cbr_s5 hn' (cbr_lt ho ho2 (lst_pre (by assumption) hd9) (Nat.le_trans (lst_pre_len (by assumption)) hl')) (by assumption) (by assumption)
    | exact cbr_s6 (by assumption) (by assumption) (by assumption)
  k_with "measure" => exact fdiv_less (by assumption) hn'
  k_steps
  all_goals exact ret_l hret (by subst hns; exact cbr_end ho hn (by assumption)) (by assumption) (by assumption) (by assumption) (.head _) (by assumption) (fm_ne (by assumption) N (by assumption) (.head _))
end B58
-- Pure2
namespace B58
open PySem PySem.W PyProof.Rows PySem.Calls PySem.Spec
/-- the word of the loop of b58encode_int, for greater numbers -/
def EncP8 (al : Array UInt8) (n : Int) (i : Int) (st : Array UInt8) : Prop := 0 ≤ i ∧ i ≤ n ∧ encN al i.toNat ++ st.toList = encN al n.toNat
theorem encP8_start {al : Array UInt8} {n : Int} (h : 0 ≤ n) : 0 ≤ n ∧ (#[] : Array UInt8).size ≤ 800 ∧ EncP8 al n n #[] := ⟨h, by simp, h, Int.le_refl _, by simp⟩
theorem encP8_turn {al : Array UInt8} {n i : Int} {st : Array UInt8} (hb : 2 ≤ al.size) (hn2 : Lt8 n.toNat) (h : EncP8 al n i st) (hi : i ≠ 0) :
    0 ≤ i.fdiv (al.size : Int) ∧ (#[sign al (i.fmod (al.size : Int)).toNat] ++ st).size ≤ 800 ∧ EncP8 al n (i.fdiv (al.size : Int)) (#[sign al (i.fmod (al.size : Int)).toNat] ++ st) := by
  obtain ⟨h0, h1, h3⟩ := h
  obtain ⟨k, rfl⟩ := Int.eq_ofNat_of_zero_le h0
  have e1 : (k : Int).fdiv (al.size : Int) = ((k / al.size : Nat) : Int) := by rw [Int.fdiv_eq_ediv_of_nonneg _ (by omega)]; rfl
  have e2 : (k : Int).fmod (al.size : Int) = ((k % al.size : Nat) : Int) := by rw [Int.fmod_eq_emod_of_nonneg _ (by omega)]; rfl
  rw [e1, e2]
  have hk : k ≠ 0 := by omega
  have hle : k / al.size ≤ k := Nat.div_le_self _ _
  have eq : encN al (k / al.size) ++ (sign al (k % al.size) :: st.toList) = encN al n.toNat := by
    rw [← h3]
    show _ = encN al k ++ _
    rw [encN_step hk hb, List.append_assoc]; rfl
  generalize k / al.size = q at *
  refine ⟨by omega, ?_, by omega, by omega, ?_⟩
  · have hl := encN_length hb (k := 800) hn2.lt
    rw [← eq] at hl
    simp at hl ⊢
    omega
  · simp only [Int.toNat_natCast]
    rw [← eq]
    simp
theorem encP8_end {al : Array UInt8} {n : Int} {st : Array UInt8} (h : EncP8 al n 0 st) : st = (encN al n.toNat).toArray := by
  obtain ⟨_, _, h3⟩ := h
  rw [← h3]
  simp [encN_zero]
theorem encN_len8 {al : Array UInt8} (hb : 2 ≤ al.size) {n : Nat} (h : Lt8 n) : (encN al n).length ≤ 800 := encN_length hb h.lt
section
variable {prog : Program} {w : World} {A : Around} {E : Value → Shared → Prop} {s : Shared}
theorem call_kw8 {x : Addr} {b : Array UInt8} {t u : Tok} {Q : Value → Shared → Prop} (ho : KFB.StandsAt x s.heap) (hl : b.size ≤ 100)
    (h : ∀ t' k, Lt8 (valN 256 (octs b)) → Q (.int (valN 256 (octs b) : Nat) t') { s with toks := k }) : wpAny (model prog w) A (call (.ref x) [.bytes b t] [(PySem.Str.ofString "byteorder", .str (PySem.Str.ofString "big") u)]) Q E s := by
  refine wpAny_call (codeAny_of_tree ?_)
  show wpAny _ A.in1 (callAny (.ref x) ⟨[.bytes b t], [(PySem.Str.ofString "byteorder", .str (PySem.Str.ofString "big") u)]⟩) _ _ s
  simp only [callAny]
  refine wpAny_bind (wpAny_load ho ?_)
  simp only [KFB.bound, show (Value.type "builtin_function_or_method" == Value.type "method" || Value.type "builtin_function_or_method" == Value.type "builtin_function_or_method" || Value.type "builtin_function_or_method" == Value.type "method-wrapper") = true by decide, if_true]
  refine KFB.if_so (by decide) ?_
  refine wpAny_bind (wpAny_of_eq (a := ()) check_kw ?_)
  refine wpAny_bind (wpAny_pure (wpAny_pure ?_))
  exact ⟨KFB.quiet_fb, codeAny_builtin KFB.entry_fb (tree_kw hl (h _ _ ⟨Nat.lt_of_lt_of_le (oct_lt b) (Nat.pow_le_pow_right (by decide) (by omega))⟩))⟩
end
end B58
-- QT1
namespace B58
open PySem PySem.W PyProof.Rows
theorem c_encint (w : World) (n : Int) (tn : Tok) (al : Array UInt8) (ta : Tok) (hn : 0 ≤ n) (hb : 2 ≤ al.size) (hb2 : al.size ≤ 256) (hn2 : Lt8 n.toNat) :
    Ctr 1 w 29 (fun _ => True) [.int n tn] [(Str.ofString "default_one", .bool false), (Str.ofString "alphabet", .bytes al ta)] (fun t => .bytes (encN al n.toNat).toArray t) := by
  unfold Ctr
  k_fill
  intro mean mg mb dp un gd cn sn sg sc sm a ccd cl outer A₀ base h₀ L m s news Q E hpre B F X N T hd hu hret
  walk_at "ctr in"
  k_with "exec While" => k_while (fun _ i string => 0 ≤ i ∧ string.size ≤ 800 ∧ EncP8 al n i string) (fun _ i _ => i.toNat) "i" "string"
  k_with "state" => first | exact encP8_start hn | exact encP8_turn hb hn2 (by assumption) (by assumption)
  k_with "measure" => exact encP_turn_div hb (by assumption) (by assumption)
  k_steps
  all_goals (rename EncP8 _ _ _ _ => hP; rename _ = (0 : Int) => hz; rw [hz] at hP; exact ret_b hret (encP8_end hP) (by assumption) (by assumption))
end B58
-- QT2
local macro_rules | `(tactic| walk_at "call ref") => `(tactic| (k_here; (show wpAny _ _ (call (Value.ref 29) _ _) _ _ _); k_dflt (refine' B58.Ctr.use (B58.c_encint _ _ _ _ _ ?h1 ?h2 ?h3 ?h4) (B58.encN_len8 ?h2 ?h4) trivial ?k1 ?k2 ?k3 ?k4 ?k5 ?k6 ?k7 ?_; (case k1 => k_asm); (case k2 => k_asm); (case k3 => k_asm); (case k4 => k_asm); (case k5 => k_asm); (case h1 => walk_at "ints"); (case h2 => walk_at "ints"); (case h3 => walk_at "ints"); (case h4 => walk_at "ints"); (case k6 => ktr_room); (case k7 => ktr_units); intro hE9 t9 h9 tk9 F9 N9; (try dsimp only); (try k_fold))))
local macro_rules | `(tactic| walk_at "call ref") => `(tactic| (k_here; (with_reducible show wpAny _ _ (call (Value.ref _) [Value.bytes _ _] _) _ _ _); kfb_any; k_dflt (refine B58.call_kw8 (KFB.at_of (by k_asm) (by k_mem)) (by walk_at "b size") ?_); intro _ _ hL9; (have hL8 : B58.Lt8 (Int.toNat ((B58.valN 256 (B58.octs _) : Nat) : Int)) := hL9)))
namespace B58
open PySem PySem.W PyProof.Rows

theorem c_enc (w : World) (v : Array UInt8) (tv : Tok) (al : Array UInt8) (ta : Tok) (hv : v.size ≤ 100) (hb : 2 ≤ al.size) (hb2 : al.size ≤ 256) :
    Ctr 3 w 37 (fun _ => True) [.bytes v tv, .bytes al ta] [] (fun t => .bytes (encB al v) t) := by
  unfold Ctr
  k_fill
  intro mean mg mb dp un gd cn sn sg sc sm a ccd cl outer A₀ base h₀ L m s news Q E hpre B F X N T hd hu hret
  walk_at "ctr in"
  k_steps
  all_goals exact ret_b hret (encB_eq v al) (by assumption) (by assumption)
end B58
-- QT6
namespace B58
open PySem PySem.W PyProof.Rows



/-- a call that hands back the new map of an alphabet's places -/
def RetM (prog : Program) (w : World) (al : Array UInt8) (h₀ : Heap) (L : Addr) (m : Str → Option Value) (news : List (Addr × Obj)) (s : Shared) (Q : Value → Shared → Prop) : Prop :=
  ∀ (D : Addr) (o : Obj) (kvs : List (Int × Value)) (h' : Heap) (tk' : Nat), Fr h₀ L h' m → News h₀ L h' ((D, o) :: news) → o.IsDictOf (intKind prog w) kvs → IdxTo al al.size kvs → (∀ p ∈ news, @Ne Nat p.1 D) → (D == sysModules) = false → Q (.ref D) { s with heap := h', toks := tk' }
theorem ret_m {prog : Program} {w : World} {al : Array UInt8} {h₀ : Heap} {L D : Addr} {m : Str → Option Value} {news led : List (Addr × Obj)} {s : Shared} {Q : Value → Shared → Prop} {o : Obj} {kvs : List (Int × Value)} (hret : RetM prog w al h₀ L m news s Q) {h' : Heap} {tk' : Nat}
    (hd : o.IsDictOf (intKind prog w) kvs) (hx : IdxTo al al.size kvs) (F : Fr h₀ L h' m) (N : News h₀ L h' led) (hm : (D, o) ∈ led) (N9 : News h₀ L h' news) (hne : ∀ p ∈ news, @Ne Nat p.1 D) (lo : (D == sysModules) = false) : Q (.ref D) { s with heap := h', toks := tk' } :=
  hret D o kvs h' tk' F (fun p hp => by
    rcases List.mem_cons.mp hp with rfl | hp
    · exact N _ hm
    · exact N9 p hp) hd hx hne lo
theorem c_map (w : World) (al : Array UInt8) (ta : Tok) (hb2 : al.size ≤ 256) (hnd : (octs al).Nodup) :
    CtrX 3 w 42 (fun _ => True) [.bytes al ta] [(Str.ofString "autofix", .bool false)] (RetM PySem.Challenge.rw_fe0042_02.row.prog w al) := by
  unfold CtrX
  k_fill
  intro mean mg mb dp un gd cn sn sg sc sm a ccd cl outer A₀ base h₀ L m s news Q E hpre B F X N T hd hu hret
  walk_at "ctr in"
  k_steps
  all_goals exact ret_m hret (by assumption) (by assumption) (by assumption) (by assumption) (.head _) (by assumption) (fm_ne (by assumption) N (by assumption) (.head _)) (sys_ne (by assumption) (by assumption) (by assumption))
end B58
-- QCtr2
namespace B58
open PySem PySem.W PyProof.Rows
/-- a call that hands back a value where ok holds and raises ValueError elsewhere -/
noncomputable abbrev CtrV (k : Nat) (w : World) (f : Addr) (vs : List Value) (kw : List (Str × Value)) (ok : Prop) (R : Tok → Value) : Prop :=
  ∀ (mean : ExcName → Option Value) (mg mb : Str → Option Value) (dp un : Nat) (gd : Option (List Code)) (cn : Str) (sn : List (Str × NameKind)) (sg sc : Bool) (sm : List (Str × Const)) (a : Addr) (ccd : Value) (cl : List (Str × Addr)) (outer : List Env) (A₀ : Around) (base h₀ : Heap) (L : Addr) (m : Str → Option Value) (s : Shared) (news : List (Addr × Obj)) (Q E : Value → Shared → Prop),
    (B58.hd.heap_39 w.params).In base → Top B58.hd.view_39 loose mean mg mb base → Below A₀ base outer h₀ → Fr h₀ L s.heap m → (B58.hd.heap_39 w.params).In h₀ → News h₀ L s.heap news → Top B58.hd.view_39 loose mean mg mb h₀ → dp + k < recursionLimit → un + 10 * k < cLine →
      (ok → Ret h₀ L m news s Q R) → (¬ ok → Fails base (envX cn ⟨.function, sn, sg, sc, sm⟩ L a ccd cl :: outer) s E (.type "ValueError")) →
      wpAny (model PySem.Challenge.rw_fe0042_02.row.prog w) (ktrTop dp un gd cn ⟨.function, sn, sg, sc, sm⟩ L a ccd cl outer) (call (.ref f) vs kw) Q E s
theorem CtrV.use {k : Nat} {w : World} {f : Addr} {vs : List Value} {kw : List (Str × Value)} {ok : Prop} {R : Tok → Value} (C : CtrV k w f vs kw ok R) {mean : ExcName → Option Value} {mg mb : Str → Option Value} {dp un : Nat} {gd : Option (List Code)} {cn : Str} {sn : List (Str × NameKind)} {sg sc : Bool} {sm : List (Str × Const)} {a : Addr} {ccd : Value} {cl : List (Str × Addr)} {outer : List Env} {A₀ : Around} {base h₀ : Heap} {L : Addr} {m : Str → Option Value} {s : Shared} {news : List (Addr × Obj)} {Q E : Value → Shared → Prop}
    (XB : (B58.hd.heap_39 w.params).In base) (TB : Top B58.hd.view_39 loose mean mg mb base) (B : Below A₀ base outer h₀) (F : Fr h₀ L s.heap m) (X : (B58.hd.heap_39 w.params).In h₀) (N : News h₀ L s.heap news) (T : Top B58.hd.view_39 loose mean mg mb h₀) (h1 : dp + k < recursionLimit) (h2 : un + 10 * k < cLine)
    (hret : ok → ∀ (t : Tok) (h' : Heap) (tk' : Nat), Fr h₀ L h' m → News h₀ L h' news → Q (R t) { s with heap := h', toks := tk' })
    (hexc : ¬ ok → ∀ (e : Addr) (h' : Heap) (tk' : Nat), RaisedSN base s.heap (envX cn ⟨.function, sn, sg, sc, sm⟩ L a ccd cl :: outer) e (.type "ValueError") [] h' → s.heap.UpToSlots h' → E (.ref e) { s with heap := h', toks := tk' }) :
    wpAny (model PySem.Challenge.rw_fe0042_02.row.prog w) (ktrTop dp un gd cn ⟨.function, sn, sg, sc, sm⟩ L a ccd cl outer) (call (.ref f) vs kw) Q E s :=
  C mean mg mb dp un gd cn sn sg sc sm a ccd cl outer A₀ base h₀ L m s news Q E XB TB B F X N T h1 h2 hret hexc
end B58
-- QT7
local macro_rules | `(tactic| walk_at "call ref") => `(tactic| (k_here; k_dflt (refine' B58.CtrX.use (B58.c_map _ _ _ ?h1 ?h2) trivial ?k1 ?k2 ?k3 ?k4 ?k5 ?k6 ?k7 ?_; (case k1 => k_asm); (case k2 => k_asm); (case k3 => k_asm); (case k4 => k_asm); (case k5 => k_asm); (case h1 => walk_at "ints"); (case h2 => walk_at "ints"); (case k6 => ktr_room); (case k7 => ktr_units); intro D9 o9 kvs9 h9 tk9 F9 N9 kD9 kI9 kO9 kS9; (try simp only [List.forall_mem_cons, List.not_mem_nil, false_implies, implies_true, and_true] at kO9); (try dsimp only); (try k_fold))))
local macro_rules | `(tactic| walk_at "subscriptTail") => `(tactic| (k_here; (show wpAny _ _ (subscriptTail _ _ (Value.ref _) (Value.int _ _)) _ _ _); k_dflt (refine' B58.idx_item ?k1 ?k2 ?k3 ?k4 ?k5 ?k6 ?k7 ?k8 ?_ ?_; (case k1 => k_asm); (case k2 => k_mem); (case k3 => rfl); (case k4 => assumption); (case k5 => assumption); (case k6 => assumption); (case k7 => assumption); (case k8 => walk_at "ints"); rotate_left; intro _ _ _ _ _; rotate_left; intro _ _ _)))
namespace B58
open PySem PySem.W PyProof.Rows




theorem c_decint (w : World) (v al : Array UInt8) (tv ta : Tok) (hv : v.size ≤ 100) (hb : 2 ≤ al.size) (hb2 : al.size ≤ 256) (hnd : (octs al).Nodup) (h32 : 32 ∉ octs al) :
    CtrV 8 w 51 [.bytes v tv] [(Str.ofString "alphabet", .bytes al ta), (Str.ofString "autofix", .bool false)] (okIn al (octs (rstrip v))) (fun t => .int (decN al (octs (rstrip v)) : Nat) t) := by
  unfold CtrV
  k_fill
  intro mean mg mb dp un gd cn sn sg sc sm a ccd cl outer A₀ base h₀ L m s news Q E XB TB B F X N T hd hu hret hexc
  walk_at "ctr in"
  have hb9 : KBw.bInts v = KBw.bInts v := rfl
  have hb8 : KBw.bInts (rstrip v) = KBw.bInts (rstrip v) := rfl
  have hI0 : IntsAre [] [] := .nil
  k_with "pyIter bytes" => k_state (fun pre decimal => DecP al pre decimal) "decimal"
  k_with "state" => first | exact decP_start al | exact decP_turn (by assumption) (by assumption)
  k_steps
  rotate_left
  · obtain ⟨o1, e1⟩ := decP_end (by assumption)
    subst e1
    exact hret o1 _ _ _ (by assumption) (by assumption)
  · refine reraised (X := "KeyError") (T' := "KeyError") (by assumption) (by assumption) (by assumption) XB TB PySem.F.excCall_ValueError PySem.F.excRaise_ValueError rfl (by kernel_rfl) PyProof.Rows.Boot.«KeyError» (by decide) (by kernel_rfl) PyProof.Rows.Boot.«ValueError» (by decide) kr_isExc_KeyError kr_notTuple_KeyError (by rw [isSubtype_type]; kernel_rfl) ?_
    intro e2 h' tk g5 h5 m5 T t kt kf kb kh ku
    show wpAny _ _ (leaving _ _) _ _ _
    refine reraised_out kt kf kb kh ku ?_
    intro h'' R U
    show E (.ref e2) _
    exact hexc (not_ok (by assumption) (by assumption)) e2 h'' _ (raised_under (by assumption) R) (up_under (by assumption) U)
end B58
-- Rb
namespace B58
open PySem PySem.W PyProof.Rows PySem.Calls
open PyProof.V PySem.Spec PySem.Builtin

theorem lri_no_bytes : typeLookup (.type "list_reverseiterator") "__bytes__" = pure none := by rw [typeLookup_type, builtinLookup_eq_fast]; kernel_rfl
theorem lri_no_index : typeLookup (.type "list_reverseiterator") "__index__" = pure none := by rw [typeLookup_type, builtinLookup_eq_fast]; kernel_rfl
theorem lri_no_buffer : typeLookup (.type "list_reverseiterator") "__buffer__" = pure none := by rw [typeLookup_type, builtinLookup_eq_fast]; kernel_rfl
theorem lri_no_len : typeLookup (.type "list_reverseiterator") "__len__" = pure none := by rw [typeLookup_type, builtinLookup_eq_fast]; kernel_rfl
theorem lri_hint : typeLookup (.type "list_reverseiterator") "__length_hint__" = pure (some (.builtin "list_reverseiterator.__length_hint__")) := by rw [typeLookup_type, builtinLookup_eq_fast]; kernel_rfl
theorem lri_split : splitId "list_reverseiterator.__length_hint__" = some ("list_reverseiterator", "__length_hint__") := by decide +kernel
theorem lri_self : isSubtype (.type "list_reverseiterator") (.type "list_reverseiterator") = pure true := by rw [isSubtype_type]; kernel_rfl

section
variable {prog : Program} {w : World} {A : Around} {E : Value → Shared → Prop} {s : Shared}
theorem rb_loop {R : Result → Shared → Prop} {l I S : Addr} {vs : List Value} {ns : List Int} (hh : A.handled = none) (hi : IntsAre vs ns) (hr : ∀ n ∈ ns, 0 ≤ n ∧ n < 256) (hz : ns.length ≤ sizeLine) (hIS : I ≠ S) (hlI : l ≠ I) (hlS : l ≠ S) :
    ∀ (k i : Nat) (s : Shared), ns.length - i = k → i ≤ ns.length → s.heap.IsList l vs.toArray → s.heap.IsRevIter I l ((ns.length : Int) - 1 - (i : Int)) → s.heap.get? S = some { cls := .type "bytearray", data := .bytearray (byteArr (ns.reverse.take i)) } →
      (∀ h' t k', (∀ b o, b ≠ I → b ≠ S → s.heap.get? b = some o → h'.get? b = some o) → R (.ok (.ret (.bytes (byteArr ns.reverse) t))) { s with heap := h', toks := k' }) →
      codeAny (model prog w) A (.builtin "bytes.__new__.loop" ⟨[.type "bytes", .ref I, .ref S], []⟩) R s := by
  have hlen : vs.length = ns.length := hi.length
  intro k
  induction k with
  | zero =>
    intro i s hk hle hl hit hS hR
    have hin : i = ns.length := by omega
    subst hin
    have e1 : (ns.length : Int) - 1 - (ns.length : Int) = -1 := by omega
    rw [e1] at hit
    refine codeAny_builtin F.bm_entry_loop ?_
    rw [Around.under_plainId F.bm_plain_loop _]
    show wpAny _ A.in1 (pyNext (.ref I) >>= _) _ _ s
    refine wpAny_bind (wpAny_pyNext_rev_end hh hit fun h' he => ?_)
    have hS' : h'.get? S = some { cls := .type "bytearray", data := .bytearray (byteArr (ns.reverse.take ns.length)) } := he S _ (Ne.symm hIS) hS
    refine wpAny_bind ?_
    unfold Builtin.Bytes.payload Builtin.Bytes.payload?
    refine wpAny_bind (wpAny_bind (wpAny_load hS' ?_))
    refine wpAny_pure (wpAny_pure ?_)
    rw [← List.length_reverse (as := ns), List.take_length]
    refine wpAny_bind (wpAny_mkBytes ?_ (by rw [byteArr_size, List.length_reverse]; exact hz))
    show wpAny _ _ (if (Value.type "bytes" == Value.type "bytes") = true then _ else _) _ _ _
    refine bm_if_true (by decide) ?_
    first
      | exact wpAny_pure (hR h' _ _ fun b o hb _ e => he b o hb e)
      | exact wpAny_bind (wpAny_pure (wpAny_pure (hR h' _ _ fun b o hb _ e => he b o hb e)))
  | succ k ih =>
    intro i s hk hle hl hit hS hR
    have hlt : i < ns.length := by omega
    have e1 : (ns.length : Int) - 1 - (i : Int) = ((ns.length - 1 - i : Nat) : Int) := by omega
    rw [e1] at hit
    obtain ⟨x, hx⟩ : ∃ x, vs[ns.length - 1 - i]? = some x := ⟨vs[ns.length - 1 - i]'(by omega), List.getElem?_eq_getElem (by omega)⟩
    obtain ⟨n, t, rfl, hn⟩ := IntsAre.at hi _ x hx
    obtain ⟨h0, h1⟩ := hr n (List.mem_of_getElem? hn)
    have hn' : ns.reverse[i]? = some n := by rw [List.getElem?_reverse hlt]; exact hn
    refine codeAny_builtin F.bm_entry_loop ?_
    rw [Around.under_plainId F.bm_plain_loop _]
    show wpAny _ A.in1 (pyNext (.ref I) >>= _) _ _ s
    refine wpAny_bind (wpAny_pyNext_rev_item (x := .int n t) hit hl (by simpa using hx) fun h' hit' hs => ?_)
    have e2 : ((ns.length - 1 - i : Nat) : Int) - 1 = (ns.length : Int) - 1 - ((i + 1 : Nat) : Int) := by omega
    rw [e2] at hit'
    have hS' : h'.get? S = some { cls := .type "bytearray", data := .bytearray (byteArr (ns.reverse.take i)) } := (hs.2 S (Ne.symm hIS)).trans hS
    refine wpAny_bind (wpAny_holding (wpAny_of_eq (rfl : asIndex (.int n t) = pure n) ?_))
    refine wpAny_bind (wpAny_letGo ?_)
    refine bm_if_false (by simp only [Bool.or_eq_false_iff, decide_eq_false_iff_not]; omega) ?_
    refine wpAny_bind ?_
    show wpAny _ _ (updateBytearray S (·.push n.toNat.toUInt8)) _ _ _
    unfold updateBytearray
    refine wpAny_bind (wpAny_load hS' ?_)
    show wpAny _ _ (update S (Obj.mapBytearray (·.push n.toNat.toUInt8)) >>= fun _ => lookBehind S) _ _ _
    refine wpAny_bind (wpAny_update hS' ?_)
    have hS₂ : (h'.update S (Obj.mapBytearray (·.push n.toNat.toUInt8))).get? S = some { cls := .type "bytearray", data := .bytearray (byteArr (ns.reverse.take (i + 1))) } := by
      rw [byteArr_take hn']
      exact Heap.get?_update_self (Obj.mapBytearray (·.push n.toNat.toUInt8)) hS' rfl
    refine wpAny_lookBehind hS₂ ?_ ?_
    · show (if (byteArr (ns.reverse.take (i + 1))).size > sizeLine then some "bytearray:memory" else none) = none
      rw [if_neg]
      rw [byteArr_size, List.length_take, List.length_reverse]
      omega
    · refine wpAny_pure ⟨plainId_quiet F.bm_plain_loop _, ih (i + 1) { s with heap := h'.update S (Obj.mapBytearray (·.push n.toNat.toUInt8)) } (by omega) hlt ?_ ?_ hS₂ fun h3 t' k' hk3 => ?_⟩
      · exact (hl.extBut hs.extBut hlI).extBut (Heap.SameBut.update ..).extBut hlS
      · exact hit'.at fun o eo => (Heap.get?_update_other _ _ (Ne.symm hIS)).trans eo
      · exact hR h3 t' k' fun b o hbI hbS e => hk3 b o hbI hbS ((Heap.get?_update_other _ _ (Ne.symm hbS)).trans (hs.extBut b o hbI e))

theorem rb_new {l I : Addr} {vs : List Value} {ns : List Int} {Q : Value → Shared → Prop} (hh : A.handled = none) (hl : s.heap.IsList l vs.toArray) (hit : s.heap.IsRevIter I l ((ns.length : Int) - 1)) (hlI : l ≠ I) (hi : IntsAre vs ns) (hr : ∀ n ∈ ns, 0 ≤ n ∧ n < 256) (hz : ns.length ≤ sizeLine)
    (hQ : ∀ h' t k, (∀ b o, b ≠ I → s.heap.get? b = some o → h'.get? b = some o) → Q (.bytes (byteArr ns.reverse) t) { s with heap := h', toks := k }) :
    codeAny (model prog w) A (.call (.builtin "bytes.__new__") ⟨[.type "bytes", .ref I], []⟩) (wants Q E) s := by
  refine codeAny_of_tree ?_
  show wpAny _ A.in1 (do checkBuiltinCall "bytes.__new__" ⟨[.type "bytes", .ref I], []⟩; again (.builtin "bytes.__new__" ⟨[.type "bytes", .ref I], []⟩)) _ _ s
  refine wpAny_bind (wpAny_of_eq (F.bm_newCall _) (wpAny_pure ⟨plainId_quiet F.bm_plain _, codeAny_builtin F.bm_entry ?_⟩))
  rw [Around.under_plainId F.bm_plain _]
  have hT : s.TypeIs (.ref I) "list_reverseiterator" := hit.typeIs
  obtain ⟨ol, hol, hoc, hod⟩ := id hit
  unfold Builtin.«bytes.__new__»
  refine wpAny_bind (wpAny_of_eq (a := true) rfl ?_)
  refine bm_if_false rfl ?_
  refine wpAny_bind (wpAny_of_eq F.bm_sub ?_)
  refine bm_if_false rfl ?_
  refine wpAny_bind (wpAny_of_eq (F.bm_bind _) ?_)
  refine wpAny_bind (wpAny_of_eq (a := ()) rfl ?_)
  refine wpAny_bind (wpAny_of_eq (a := ()) rfl ?_)
  refine bm_if_false rfl ?_
  refine wpAny_bind (wpAny_specialOf hT lri_no_bytes ?_)
  refine wpAny_bind (wpAny_bind ?_)
  show wpAny _ _ (load I >>= _) _ _ _
  refine wpAny_bind (wpAny_load hol ?_)
  rw [hod]
  refine wpAny_pure (wpAny_pure ?_)
  refine bm_if_false rfl ?_
  refine wpAny_bind (wpAny_specialOf hT lri_no_index ?_)
  refine bm_if_true rfl ?_
  first
    | show wpAny _ _ (Builtin.Bytes.buffer? "bytes.__new__" (.ref I) true >>= _) _ _ _
    | (refine wpAny_bind ?_; show wpAny _ _ (Builtin.Bytes.buffer? "bytes.__new__" (.ref I) true >>= _) _ _ _)
  refine wpAny_bind ?_
  unfold Builtin.Bytes.buffer?
  refine wpAny_bind (wpAny_specialOf hT lri_no_buffer ?_)
  refine wpAny_bind (wpAny_specialOf hT lri_no_buffer ?_)
  refine wpAny_pure ?_
  refine wpAny_bind (wpAny_tryCatch (wpAny_pyIter_revIter hit ?_))
  refine wpAny_bind (wpAny_holding ?_)
  unfold Builtin.Bytes.lengthHint
  refine wpAny_bind (wpAny_specialOf hT lri_no_len ?_)
  dsimp only
  refine bm_if_false (by decide +kernel) ?_
  refine bm_if_false rfl ?_
  refine wpAny_bind (wpAny_specialOf hT lri_hint ?_)
  dsimp only
  rw [lri_split]
  dsimp only
  refine wpAny_bind (wpAny_isInstance hT lri_self ?_)
  refine bm_if_false rfl ?_
  refine bm_if_true (by decide +kernel) ?_
  refine bm_if_false (by decide) ?_
  refine wpAny_pure ?_
  refine wpAny_bind ?_
  unfold Builtin.Bytes.newBytearray
  refine wpAny_newObj_type ?_ (Nat.zero_le _)
  have hI : (s.heap.push { cls := .type "bytearray", data := .bytearray #[] }).IsRevIter I l ((ns.length : Int) - 1 - ((0 : Nat) : Int)) := by
    have e : (ns.length : Int) - 1 - ((0 : Nat) : Int) = (ns.length : Int) - 1 := by omega
    rw [e]
    exact hit.at fun o eo => Heap.get?_push_of_some _ eo
  have hlt : l < s.heap.objs.size := by
    obtain ⟨o, ho, _⟩ := hl
    exact Heap.lt_size ho
  have main := rb_loop (prog := prog) (w := w) (A := A) (R := wants Q E) (l := l) (I := I) (S := s.heap.objs.size) hh hi hr hz (Nat.ne_of_lt (Heap.lt_size hol)) hlI (Nat.ne_of_lt hlt)
    ns.length 0 { s with heap := s.heap.push { cls := .type "bytearray", data := .bytearray #[] } } rfl (Nat.zero_le _) (hl.push _) hI (Heap.get?_push_size _ rfl)
    fun h' t k hk => hQ h' t k fun b o hb e => hk b o hb (Nat.ne_of_lt (Heap.lt_size e)) (Heap.get?_push_of_some _ e)
  first
    | exact wpAny_pure ⟨plainId_quiet F.bm_plain_loop _, main⟩
    | exact wpAny_pure (wpAny_pure ⟨plainId_quiet F.bm_plain_loop _, main⟩)

theorem call_bytes_rev {l I : Addr} {vs : List Value} {ns : List Int} {Q : Value → Shared → Prop} (hl : s.heap.IsList l vs.toArray) (hit : s.heap.IsRevIter I l ((ns.length : Int) - 1)) (hlI : l ≠ I) (hi : IntsAre vs ns) (hr : ∀ n ∈ ns, 0 ≤ n ∧ n < 256) (hz : ns.length ≤ sizeLine) (hh : A.handled = none)
    (hQ : ∀ h' t k, (∀ b o, b ≠ I → s.heap.get? b = some o → h'.get? b = some o) → Q (.bytes (byteArr ns.reverse) t) { s with heap := h', toks := k }) : wpAny (model prog w) A (call (.type "bytes") [.ref I]) Q E s := by
  refine callType_codes (Q₁ := fun obj s₁ => s₁.TypeIs obj "bytes" ∧ Q obj s₁) F.bm_called (F.bm_typeCall _) F.entry_object_init
    (rb_new hh hl hit hlI hi hr hz fun h' t k hk => ⟨PySem.W.typeIs_bytes _ _ _, hQ h' t k hk⟩) fun obj s₁ h₁ => ?_
  exact ⟨h₁.1, F.args_object_init_2 obj _, object_init_meets F.bm_called.init.lookup F.bm_called.made (by decide) prog w A.in1 _ s₁ ⟨h₁.1, rfl, h₁.2⟩⟩

/-- divmod with its tuple apart from the ledger -/
theorem divmod_D {h₀ : Heap} {L : Addr} {m : PySem.Str → Option Value} {news : List (Addr × Obj)} {a b : Int} {t u : Tok} {Q : Value → Shared → Prop} (F : Fr h₀ L s.heap m) (N : News h₀ L s.heap news) (hb : b ≠ 0)
    (h : ∀ D h' t1 t2 k, Fr h₀ L h' m → News h₀ L h' ((D, { cls := .type "tuple", data := .seq #[.int (a.fdiv b) t1, .int (a.fmod b) t2] }) :: news) → (∀ p ∈ news, p.1 < D) → Q (.ref D) { s with heap := h', toks := k })
    (hr : Builtin.divisionGoesByPylong a b = false ∨ PySem.PylongRoom (model prog w) A s) : wpAny (model prog w) A (call (.builtin "divmod") [.int a t, .int b u]) Q E s :=
  divmod_N F N hb (fun h' F' N' => h _ h' _ _ _ F' N' fun p hp => Heap.lt_size (N p hp).1) hr

/-- bytes(reversed(list)): the iterator leaves the ledger -/
theorem bytes_rev {h₀ : Heap} {L l I : Addr} {m : PySem.Str → Option Value} {news : List (Addr × Obj)} {vs : List Value} {ns : List Int} {Q : Value → Shared → Prop} (F : Fr h₀ L s.heap m) (N : News h₀ L s.heap ((I, revObj l ((vs.length : Int) - 1)) :: news))
    (hl : s.heap.IsList l vs.toArray) (hlI : @Ne Nat l I) (hne : ∀ p ∈ news, @Ne Nat p.1 I) (hi : IntsAre vs ns) (hr : ∀ n ∈ ns, 0 ≤ n ∧ n < 256) (hz : ns.length ≤ 16777216) (hh : A.handled = none)
    (hQ : ∀ h' t k, Fr h₀ L h' m → News h₀ L h' news → (byteArr ns.reverse).size = ns.length → Q (.bytes (byteArr ns.reverse) t) { s with heap := h', toks := k }) : wpAny (model prog w) A (call (.type "bytes") [.ref I]) Q E s := by
  obtain ⟨n1, n2, n3⟩ := N _ (List.mem_cons_self ..)
  refine call_bytes_rev hl ⟨_, n1, rfl, by rw [hi.length]; rfl⟩ hlI hi hr (by rw [show sizeLine = 16777216 from sizeLine_eq]; exact hz) hh fun h' t k hk => hQ h' t k ?_ ?_ (by rw [byteArr_size, List.length_reverse])
  · refine ⟨?_, fun b o e => hk b o (fun q => by rw [q, n3] at e; cases e) (F.keep b o e), F.above⟩
    obtain ⟨o, es, ep, ho, r⟩ := F.ns
    exact ⟨o, es, ep, hk _ _ (Ne.symm n2) ho, r⟩
  · exact fun p hp => ⟨hk _ _ (hne p hp) (N p (List.mem_cons_of_mem _ hp)).1, (N p (List.mem_cons_of_mem _ hp)).2⟩
end
end B58
-- QT8
local macro_rules | `(tactic| walk_at "call ref") => `(tactic| (k_here; (show wpAny _ _ (call (Value.ref 51) _ _) _ _ _); k_dflt (refine' B58.CtrV.use (B58.c_decint _ _ _ _ _ ?h1 ?h2 ?h3 ?h4 ?h5) ?k8 ?k9 ?k1 ?k2 ?k3 ?k4 ?k5 ?k6 ?k7 ?_ ?_; (case k1 => k_asm); (case k8 => assumption); (case k9 => assumption); (case k2 => k_asm); (case k3 => k_asm); (case k4 => k_asm); (case k5 => k_asm); (case h1 => walk_at "ints"); (case h2 => walk_at "ints"); (case h3 => walk_at "ints"); (case h4 => walk_at "ints"); (case h5 => walk_at "ints"); (case k6 => ktr_room); (case k7 => ktr_units); rotate_left; intro kNo9 e9 h9 tk9 R9 U9; rotate_left; intro kOk9 t9 h9 tk9 F9 N9; (have kLt9 := B58.decN_lt kOk9 (by assumption) (by assumption) (by rw [B58.octs_length]; exact Nat.le_trans (B58.rstrip_size _) (by omega))); (try dsimp only); (try k_fold))))
local macro_rules | `(tactic| walk_at "call builtin:divmod") => `(tactic| (k_here; (with_reducible show wpAny _ _ (call (Value.builtin _) [Value.int _ _, Value.int _ _]) _ _ _); k_dflt (refine' B58.divmod_D ?F ?N ?h ?_ ?r; (case F => k_asm); (case N => k_asm); (case h => side_arith); (case r => first | exact Or.inl (PyProof.noPylong_of_log2 (by decide +kernel)) | exact Or.inl (PyProof.noPylong_small (by omega))); k_whole); intro D' h' _ _ _ F' N' l1; (try k_lt l1); (try k_sweep)))
local macro_rules | `(tactic| walk_at "call type:bytes") => `(tactic| (k_here; (with_reducible show wpAny _ _ (call (Value.type "bytes") [Value.ref _]) _ _ _); k_dflt (refine' B58.bytes_rev ?F ?N ?l ?n1 ?n2 ?i ?r ?z ?hh ?_; (case F => k_asm); (case N => k_asm); (case l => is_list); (case hh => rfl); (case i => assumption); (case r => exact B58.dec_in (by assumption)); (case z => omega); (case n1 => exact Nat.ne_of_lt (by assumption)); (case n2 => (simp only [List.forall_mem_cons, List.not_mem_nil, false_implies, implies_true, and_true]; exact Nat.ne_of_lt (by assumption))); k_whole); intro h' _ _ F' N' _; (try k_sweep)))
namespace B58
open PySem PySem.W PyProof.Rows

theorem c_dec (w : World) (v al : Array UInt8) (tv ta : Tok) (hv : v.size ≤ 100) (hb : 2 ≤ al.size) (hb2 : al.size ≤ 256) (hnd : (octs al).Nodup) (h32 : 32 ∉ octs al) :
    CtrV 10 w 60 [.bytes v tv, .bytes al ta] [] (okIn al (octs (rstrip (lstrip (rstrip v) #[sign al 0])))) (fun t => .bytes (decB al (rstrip v)) t) := by
  unfold CtrV
  k_fill
  intro mean mg mb dp un gd cn sn sg sc sm a ccd cl outer A₀ base h₀ L m s news Q E XB TB B F X N T hd hu hret hexc
  walk_at "ctr in"
  have hb9 : KBw.bInts v = KBw.bInts v := rfl
  have hI0 : IntsAre [] [] := .nil
  k_with "exec While Compare cons nil" => k_while (fun _ acc result => 0 ≤ acc ∧ result.length ≤ 800 ∧ WhP 256 ((decN al (octs (rstrip (lstrip (rstrip v) #[sign al 0]))) : Nat) : Int) acc result) (fun _ acc _ => acc.toNat) "acc" "result"
  k_with "state" => first | exact dec_s1 _ | exact dec_s2 (by assumption) (by assumption) (by assumption) | k_dflt (exact dec_s1 _) | k_dflt (exact dec_s2 (by assumption) (by assumption) (by assumption))
  k_with "measure" => exact fdiv_less (by assumption) (by decide)
  k_steps
  rotate_left
  · show wpAny _ _ (leaving _ _) _ _ _
    refine leave_onSN (by assumption) (by assumption) (by assumption) (by assumption) ?_
    intro h'' R _ U
    show E (.ref _) _
    exact hexc (by assumption) _ h'' _ (raised_under (by assumption) R) (up_under (by assumption) U)
  · exact ret_b (hret (by assumption)) (by rw [dec_end (by assumption) (by assumption)]; exact decB_eq _ _ _ rfl) (by assumption) (by assumption)
end B58
-- QT10
namespace B58
open PySem PySem.W PyProof.Rows
theorem btc_hb : 2 ≤ btc.size := by decide +kernel
theorem btc_hb2 : btc.size ≤ 256 := by decide +kernel
theorem btc_nd : (octs btc).Nodup := by decide +kernel
theorem btc_32 : 32 ∉ octs btc := by decide +kernel
theorem c_enc1 (w : World) (v : Array UInt8) (tv : Tok) (hv : v.size ≤ 100) :
    Ctr 3 w 37 (fun _ => True) [.bytes v tv] [] (fun t => .bytes (encB btc v) t) := by
  unfold Ctr
  k_fill
  intro mean mg mb dp un gd cn sn sg sc sm a ccd cl outer A₀ base h₀ L m s news Q E hpre B F X N T hd hu hret
  walk_at "ctr in"
  with_reducible rename Fr _ _ _ _ => F9
  have hb := btc_hb
  have hb2 := btc_hb2
  have e9 : ∃ t, Fr _ _ _ (fun y => List.lookup y ([(Str.ofString "v", .bytes v tv), (Str.ofString "alphabet", .bytes btc t)] : List (Str × Value)).reverse) := ⟨_, F9⟩
  obtain ⟨ta, F10⟩ := e9
  clear F9
  generalize btc = al at *
  k_steps
  all_goals exact ret_b hret (encB_eq v al) (by assumption) (by assumption)

theorem c_dec1 (w : World) (v : Array UInt8) (tv : Tok) (hv : v.size ≤ 100) :
    CtrV 10 w 60 [.bytes v tv] [] (okIn btc (octs (rstrip (lstrip (rstrip v) #[sign btc 0])))) (fun t => .bytes (decB btc (rstrip v)) t) := by
  unfold CtrV
  k_fill
  intro mean mg mb dp un gd cn sn sg sc sm a ccd cl outer A₀ base h₀ L m s news Q E XB TB B F X N T hd hu hret hexc
  walk_at "ctr in"
  with_reducible rename Fr _ _ _ _ => F9
  have hb := btc_hb
  have hb2 := btc_hb2
  have hnd := btc_nd
  have h32 := btc_32
  have e9 : ∃ t, Fr _ _ _ (fun y => List.lookup y ([(Str.ofString "v", .bytes v tv), (Str.ofString "alphabet", .bytes btc t), (Str.ofString "autofix", .bool false)] : List (Str × Value)).reverse) := ⟨_, F9⟩
  obtain ⟨ta, F10⟩ := e9
  clear F9
  generalize btc = al at *
  have hb9 : KBw.bInts v = KBw.bInts v := rfl
  have hI0 : IntsAre [] [] := .nil
  k_with "exec While Compare cons nil" => k_while (fun _ acc result => 0 ≤ acc ∧ result.length ≤ 800 ∧ WhP 256 ((decN al (octs (rstrip (lstrip (rstrip v) #[sign al 0]))) : Nat) : Int) acc result) (fun _ acc _ => acc.toNat) "acc" "result"
  k_with "state" => first | exact dec_s1 _ | exact dec_s2 (by assumption) (by assumption) (by assumption) | k_dflt (exact dec_s1 _) | k_dflt (exact dec_s2 (by assumption) (by assumption) (by assumption))
  k_with "measure" => exact fdiv_less (by assumption) (by decide)
  k_steps
  rotate_left
  · show wpAny _ _ (leaving _ _) _ _ _
    refine leave_onSN (by assumption) (by assumption) (by assumption) (by assumption) ?_
    intro h'' R _ U
    show E (.ref _) _
    exact hexc (by assumption) _ h'' _ (raised_under (by assumption) R) (up_under (by assumption) U)
  · exact ret_b (hret (by assumption)) (by rw [dec_end (by assumption) (by assumption)]; exact decB_eq _ _ _ rfl) (by assumption) (by assumption)
end B58
-- L2
namespace B58
open PySem PySem.W PyProof.Rows PySem.Calls PySem.Spec
/-- an expression of an int of which P is known: its ways meet -/
def IntCut (h₀ : Heap) (L : Addr) (m : Str → Option Value) (news : List (Addr × Obj)) (s : Shared) (P : Int → Prop) (v : Value) (s' : Shared) : Prop :=
  ∃ (c : Int) (t : Tok) (h' : Heap) (tk : Nat), v = .int c t ∧ s' = { s with heap := h', toks := tk } ∧ P c ∧ Fr h₀ L h' m ∧ News h₀ L h' news
theorem intCut_ {h₀ : Heap} {L : Addr} {m : Str → Option Value} {news : List (Addr × Obj)} {s : Shared} {P : Int → Prop} {c : Int} {t : Tok} {h' : Heap} {tk : Nat} (p : P c) (F : Fr h₀ L h' m) (N : News h₀ L h' news) :
    IntCut h₀ L m news s P (.int c t) { s with heap := h', toks := tk } := ⟨c, t, h', tk, rfl, rfl, p, F, N⟩
def CntP (al : Array UInt8) (c : Int) : Prop := 0 ≤ c ∧ c ≤ 12 ∧ (8 ≤ al.size ∨ c ≤ 5)
theorem cnt13 {al : Array UInt8} (x : Int) (h : (al.size : Int) > 7) : CntP al (x.fmod 13) := by
  have h1 := Int.fmod_nonneg_of_pos x (b := 13) (by decide)
  have h2 := Int.fmod_lt_of_pos x (b := 13) (by decide)
  exact ⟨h1, by omega, .inl (by omega)⟩
theorem cnt6 (al : Array UInt8) (x : Int) : CntP al (x.fmod 6) := by
  have h1 := Int.fmod_nonneg_of_pos x (b := 6) (by decide)
  have h2 := Int.fmod_lt_of_pos x (b := 6) (by decide)
  exact ⟨h1, by omega, .inr (by omega)⟩
def SpanP (c : Int) : Prop := c = 128 ∨ c = 256
section
variable {M : Model} {A : Around} {E : Value → Shared → Prop} {s : Shared} {h₀ : Heap} {L : Addr} {m : Str → Option Value} {news : List (Addr × Obj)} {Q : Value → Shared → Prop} {e : Expr} {env : Env}
theorem cut_int {P : Int → Prop} (F : Fr h₀ L s.heap m) (N : News h₀ L s.heap news) (h1 : wpAny M A (eval e env) (IntCut h₀ L m news s P) E s)
    (h2 : ∀ c t h' tk, P c → Fr h₀ L h' m → News h₀ L h' news → Q (.int c t) { s with heap := h', toks := tk }) : wpAny M A (eval e env) Q E s :=
  wpAny_mono h1 (fun v s' ⟨c, t, h', tk, e1, e2, p, F', N'⟩ => by subst e1; subst e2; exact h2 c t h' tk p F' N') fun _ _ x => x
theorem cut_cnt {kind : Int} {al : Array UInt8} (hA : AlOk kind al) (F : Fr h₀ L s.heap m) (N : News h₀ L s.heap news) (h1 : wpAny M A (eval e env) (IntCut h₀ L m news s (CntP al)) E s)
    (h2 : ∀ c t h' tk, 0 ≤ c → c ≤ 12 → (8 ≤ al.size ∨ c ≤ 5) → Fr h₀ L h' m → News h₀ L h' news → Q (.int c t) { s with heap := h', toks := tk }) : wpAny M A (eval e env) Q E s :=
  cut_int F N h1 fun c t h' tk p F' N' => h2 c t h' tk p.1 p.2.1 p.2.2 F' N'
theorem cut_span (F : Fr h₀ L s.heap m) (N : News h₀ L s.heap news) (h1 : wpAny M A (eval e env) (IntCut h₀ L m news s SpanP) E s)
    (h2 : ∀ c t h' tk, 0 < c → c ≤ 256 → SpanP c → Fr h₀ L h' m → News h₀ L h' news → Q (.int c t) { s with heap := h', toks := tk }) : wpAny M A (eval e env) Q E s :=
  cut_int F N h1 fun c t h' tk p F' N' => h2 c t h' tk (by rcases p with rfl | rfl <;> decide) (by rcases p with rfl | rfl <;> decide) p F' N'
end
theorem ints_rep (k : Int) (t : Tok) : ∀ n : Nat, IntsAre (List.replicate n [Value.int k t]).flatten (List.replicate n k)
  | 0 => .nil
  | n + 1 => .cons k t (ints_rep k t n)
end B58
local macro_rules | `(tactic| walk_at "IntCut") => `(tactic| (refine' B58.intCut_ ?p ?F ?N; (case F => k_asm); (case N => k_asm); (case p => first | exact Or.inl rfl | exact Or.inr rfl | exact B58.cnt13 _ (by omega) | exact B58.cnt6 _ _)))
local macro_rules | `(tactic| walk_at "eval BinOp") => `(tactic| (k_here; (show wpAny _ _ (eval (Expr.BinOp _ Operator.Mod (Expr.IfExp _ (Expr.Constant (Const.int 13) _ _) _ _) _) _) _ _ _); (fail_if_success (show wpAny _ _ _ (B58.IntCut _ _ _ _ _ _) _ _)); k_dflt (refine' B58.cut_cnt ?A ?F ?N ?_ ?_; (case A => assumption); (case F => k_asm); (case N => k_asm); rotate_left; intro c9 t9 h9 tk9 kC1 kC2 kC3 F9 N9; (try dsimp only); (try k_fold); rotate_left)))
local macro_rules | `(tactic| walk_at "eval IfExp") => `(tactic| (k_here; (show wpAny _ _ (eval (Expr.IfExp _ (Expr.Constant (Const.int 128) _ _) _ _) _) _ _ _); (fail_if_success (show wpAny _ _ _ (B58.IntCut _ _ _ _ _ _) _ _)); k_dflt (refine' B58.cut_span ?F ?N ?_ ?_; (case F => k_asm); (case N => k_asm); rotate_left; intro c9 t9 h9 tk9 kC1 kC2 kC3 F9 N9; (try dsimp only); (try k_fold); rotate_left)))
-- L3
namespace B58
open PySem PySem.W PyProof.Rows PySem.Calls PySem.Spec
theorem flt_true {α : Type} (l : List α) : List.filter (fun _ => true) l = l := by simp
/-- the octets of the law -/
structure OctOk (al : Array UInt8) (span : Int) (v : Array UInt8) : Prop where
  len : v.size ≤ 15
  few : 8 ≤ al.size ∨ v.size ≤ 8
  asc : span = 128 → ∀ x ∈ octs v, x < 128
theorem oct_ok {al : Array UInt8} {span f c : Int} {g : Int → Int} (h0 : 0 ≤ f) (h3 : f ≤ 3) (hc0 : 0 ≤ c) (hc : c ≤ 12) (hf : 8 ≤ al.size ∨ c ≤ 5) (hs : SpanP span) :
    (∀ n ∈ List.replicate f.toNat (0 : Int) ++ List.map (fun a => (g a).fmod span) (List.filter (fun _ => true) (rangeInts 0 1 (c - 0).toNat)), 0 ≤ n ∧ n < 256) ∧
    (List.replicate f.toNat (0 : Int) ++ List.map (fun a => (g a).fmod span) (List.filter (fun _ => true) (rangeInts 0 1 (c - 0).toNat))).length ≤ 15 ∧
    OctOk al span (byteArr (List.replicate f.toNat (0 : Int) ++ List.map (fun a => (g a).fmod span) (List.filter (fun _ => true) (rangeInts 0 1 (c - 0).toNat)))) := by
  have hlen : (List.replicate f.toNat (0 : Int) ++ List.map (fun a => (g a).fmod span) (List.filter (fun _ => true) (rangeInts 0 1 (c - 0).toNat))).length = f.toNat + (c - 0).toNat := by
    rw [List.length_append, List.length_replicate, List.length_map, flt_true, rangeInts_length]
  have hin : ∀ n ∈ List.replicate f.toNat (0 : Int) ++ List.map (fun a => (g a).fmod span) (List.filter (fun _ => true) (rangeInts 0 1 (c - 0).toNat)), 0 ≤ n ∧ n < span := by
    intro n hn
    rcases List.mem_append.mp hn with hn | hn
    · rw [(List.mem_replicate.mp hn).2]
      rcases hs with rfl | rfl <;> decide
    · obtain ⟨a, _, rfl⟩ := List.mem_map.mp hn
      have hp : 0 < span := by rcases hs with rfl | rfl <;> decide
      exact ⟨Int.fmod_nonneg_of_pos _ hp, Int.fmod_lt_of_pos _ hp⟩
  have h256 : ∀ n ∈ List.replicate f.toNat (0 : Int) ++ List.map (fun a => (g a).fmod span) (List.filter (fun _ => true) (rangeInts 0 1 (c - 0).toNat)), 0 ≤ n ∧ n < 256 := by
    intro n hn
    have := hin n hn
    rcases hs with rfl | rfl <;> omega
  refine ⟨h256, by omega, ⟨by rw [byteArr_size, hlen]; omega, by rw [byteArr_size, hlen]; omega, ?_⟩⟩
  rintro rfl x hx
  rw [octs_byteArr _ h256] at hx
  obtain ⟨n, hn, rfl⟩ := List.mem_map.mp hx
  have := hin n hn
  omega
section
variable {prog : Program} {w : World} {A : Around} {E : Value → Shared → Prop} {s : Shared} {h₀ : Heap} {L D : Addr} {m : Str → Option Value} {news : List (Addr × Obj)} {vs : List Value} {Q : Value → Shared → Prop}
theorem bytes_oct {al : Array UInt8} {kind span f c : Int} {g : Int → Int} (hA : AlOk kind al) (F : Fr h₀ L s.heap m) (N : News h₀ L s.heap news) (hh : A.handled = none) (hl : s.heap.IsList D vs.toArray)
    (hi : IntsAre vs (List.replicate f.toNat (0 : Int) ++ List.map (fun a => (g a).fmod span) (List.filter (fun _ => true) (rangeInts 0 1 (c - 0).toNat))))
    (h0 : 0 ≤ f) (h3 : f ≤ 3) (hc0 : 0 ≤ c) (hc : c ≤ 12) (hf : 8 ≤ al.size ∨ c ≤ 5) (hs : SpanP span)
    (h : ∀ v h' t' k, OctOk al span v → Fr h₀ L h' m → News h₀ L h' news → Q (.bytes v t') { s with heap := h', toks := k }) : wpAny (model prog w) A (call (.type "bytes") [.ref D]) Q E s := by
  obtain ⟨o1, o2, o3⟩ := oct_ok (al := al) (g := g) h0 h3 hc0 hc hf hs
  exact KBa.make_K F N hh hl hi o1 (by omega) fun h' t' k F' N' _ => h _ h' t' k o3 F' N'
end
end B58
local macro_rules | `(tactic| walk_at "binaryOp Add ref ref") => `(tactic| (k_here; (with_reducible show wpAny _ _ (binaryOp _ (Value.ref _) (Value.ref _)) _ _ _); k_dflt (refine' kmk_add_ints ?F ?N ?a ?b ?i ?j ?_ ?z; (case F => k_asm); (case N => k_asm); (case a => is_list); (case b => is_list); (case i => exact B58.ints_rep _ _ _); (case j => exact CarriedAll.intsOf (by assumption)); (case z => (simp only [List.length_replicate, List.length_map, B58.flt_true, rangeInts_length, sizeLine_eq]; (try k_fmods); omega))); intro D' ws' h' F' N' l1 hI'; (try k_lt l1); (try k_sweep)))
local macro_rules | `(tactic| walk_at "call type:bytes") => `(tactic| (k_here; (with_reducible show wpAny _ _ (call (Value.type "bytes") [Value.ref _]) _ _ _); k_dflt (refine' B58.bytes_oct ?A ?F ?N ?hh ?l ?i ?a ?b ?c ?d ?e ?f ?_; (case A => assumption); (case F => k_asm); (case N => k_asm); (case hh => rfl); (case i => assumption); (case l => is_list); (case a => exact fmod_lo _ (by decide)); (case b => exact Int.lt_add_one_iff.mp (fmod_hi _ (by decide))); (case c => assumption); (case d => assumption); (case e => assumption); (case f => assumption); k_whole); intro v9 h' _ _ hOk9 F' N'; (have hOk1 := hOk9.len); (try k_sweep)))
-- Lc
namespace B58
open PySem PySem.W PyProof.Rows PySem.Calls PySem.Spec
/-! comprehensions over octets and over a made list of ints -/
def BSrc (prog : Program) (w : World) (A : Around) (h₀ : Heap) (L : Addr) (m : Str → Option Value) (env : Env) (elt : Expr) (x : Str) (scope : Scope) (cl : List (Str × Addr)) (Fin : Shared → List Value → List (Addr × Obj) → Prop) (xv : Value) (s₁ : Shared) : Prop :=
  ∃ b t news, xv = .bytes b t ∧ A.handled = none ∧ Fr h₀ L s₁.heap m ∧ News h₀ L s₁.heap news ∧ b.size ≤ sizeLine ∧
    ∀ s₂ : Shared, (∃ h, s₂ = { s₁ with heap := h }) → LCg.CompRest prog w A h₀ L m env elt x scope cl s₂ (fun _ => True) (fun i v => ∃ c u, b[i]? = some c ∧ v = .int (c.toNat : Int) u) (Fin s₂) b.size 0 [] news

theorem b_st {I : Addr} {h₀ : Heap} {L : Addr} {b : Array UInt8} {t : Tok} : ∀ i (h h' : Heap) (o : Obj) (nw : List (Addr × Obj)), KBw.IsBytesIter h I b t i → h.get? I = some o → h'.get? I = some o → (∀ b o, h₀.get? b = some o → h'.get? b = some o) → News h₀ L h' nw → True → KBw.IsBytesIter h' I b t i :=
  fun i h h' o nw st e e' _ _ _ => by
    obtain ⟨o', q, r⟩ := st
    rw [e] at q; cases q
    exact ⟨o, e', r⟩
section
variable {prog : Program} {w : World} {A : Around} {E : Value → Shared → Prop} {s : Shared} {h₀ : Heap} {L : Addr} {m : Str → Option Value} {env : Env}
theorem ListComp_B {elt iter : Expr} {x : Str} {px : Pos} {scope : Scope} {cl : List (Str × Addr)} {pos : Pos} {Q : Value → Shared → Prop} (F₀ : Fr h₀ L s.heap m)
    (hclos : closureFor scope env = pure cl) (hcell : ∀ y ∈ scope.names, y.2 ≠ .cell) (hkind : scope.kind = .function)
    (hnames : ∀ y ∈ scope.names, y.2 = .local → scope.names.lookup y.1 = some .local) (hx : scope.names.lookup x = some .local)
    (h : wpAny (model prog w) A (eval iter env) (BSrc prog w A h₀ L m env elt x scope cl (fun s₂ => LCg.FinE h₀ L m s₂ Q)) E s)
    (hs : ∀ x, foldedSetIterable iter env x = pure x := by intro _; rfl) :
    wpAny (model prog w) A (eval (.ListComp elt [⟨.Name x px, iter, [], 0⟩] scope pos) env) Q E s := by
  rw [eval_ListComp]
  refine wpAny_comprehension_free (use := none) rfl hs hclos hkind hnames (wpAny_mono h (fun xv s₁ h₁ => ?_) fun _ _ e => e)
  obtain ⟨b, t, news, rfl, hh, F, N, hsz, R⟩ := h₁
  refine KBw.pyIter_bytes ?_
  refine LCg.block_U (KBw.walks hh _ b t) hsz (fun i h st => by obtain ⟨o, e, _⟩ := st; exact ⟨o, e⟩) b_st hcell hkind hx ⟨_, Heap.get?_push_size _ rfl, rfl, rfl⟩ (fun b hb => ?_)
    (F.keeps fun _ _ e => Heap.get?_push_of_some _ e) (N.grown fun _ _ e => Heap.get?_push_of_some _ e) (Nat.ne_of_lt F.ns.lt) (next_is_new F) (fun p hp => Nat.ne_of_lt (Heap.lt_size (N p hp).1)) trivial (R _ ⟨_, rfl⟩) ?_
  · rw [List.mem_singleton.mp hb]
    show s₁.heap.objs.size < (s₁.heap.push _).objs.size
    rw [Heap.size_push]; exact Nat.lt_succ_self _
  · intro D C h' tk m' ys news' F' N' o1 hn hC₀ hD₀ hCL hDL hCD offC fin
    refine ⟨m', hn, fun h'' hs'' => fin D h'' tk (F'.change hs'' hCL hC₀) (fun p hp => ?_) o1⟩
    refine ⟨hs''.extBut _ _ ?_ (N' p hp).1, (N' p hp).2⟩
    rcases List.mem_cons.mp hp with rfl | hp
    · exact Ne.symm hCD
    · exact offC p hp

/-- an element's end: an int -/
def EltI (h₀ : Heap) (L : Addr) (m : Str → Option Value) (s : Shared) (led : List (Addr × Obj)) (r : Int) (y : Value) (s' : Shared) : Prop :=
  ∃ h' tk t, s' = { s with heap := h', toks := tk } ∧ y = .int r t ∧ Fr h₀ L h' m ∧ News h₀ L h' led
/-- an element's end: a text -/
def EltS (h₀ : Heap) (L : Addr) (m : Str → Option Value) (s : Shared) (led : List (Addr × Obj)) (r : Str) (y : Value) (s' : Shared) : Prop :=
  ∃ h' tk t, s' = { s with heap := h', toks := tk } ∧ y = .str r t ∧ Fr h₀ L h' m ∧ News h₀ L h' led
theorem eltI_ {led : List (Addr × Obj)} {r r' : Int} {t : Tok} {h' : Heap} {tk : Nat} (e : r' = r) (F : Fr h₀ L h' m) (N : News h₀ L h' led) : EltI h₀ L m s led r (.int r' t) { s with heap := h', toks := tk } := by
  subst e; exact ⟨h', tk, t, rfl, rfl, F, N⟩
theorem eltS_ {led : List (Addr × Obj)} {r r' : Str} {t : Tok} {h' : Heap} {tk : Nat} (e : r' = r) (F : Fr h₀ L h' m) (N : News h₀ L h' led) : EltS h₀ L m s led r (.str r' t) { s with heap := h', toks := tk } := by
  subst e; exact ⟨h', tk, t, rfl, rfl, F, N⟩

variable {elt : Expr} {x : Str} {scope : Scope} {cl : List (Str × Addr)} {Q : Value → Shared → Prop} {news : List (Addr × Obj)}
/-- texts of octets -/
theorem bsrc_strs {b : Array UInt8} {tb : Tok} {s₁ : Shared} (g : Int → Str) (hh : A.handled = none) (F : Fr h₀ L s₁.heap m) (N : News h₀ L s₁.heap news) (hsz : b.size ≤ sizeLine)
    (turn : ∀ k t I oI C oC D m₂ ys h tk (E' : Value → Shared → Prop), 0 ≤ k → k < 256 → LCg.NsObj oC m₂ → m₂ x = some (.int k t) → Fr h₀ L h m → News h₀ L h ((I, oI) :: (C, oC) :: (D, LCg.lst ys) :: news) →
      wpAny (model prog w) A (eval elt (compEnvC scope cl C env)) (EltS h₀ L m { s₁ with heap := h, toks := tk } ((I, oI) :: (C, oC) :: (D, LCg.lst ys) :: news) (g k)) E' { s₁ with heap := h, toks := tk })
    (fin : ∀ ys D h tk, CarriedAll ys ((KBw.bInts b).map fun k => PyData.str (g k)) → (KBw.bInts b).length = b.size → Fr h₀ L h m → News h₀ L h ((D, LCg.lst ys) :: news) → LCg.Off1 D news → Q (.ref D) { s₁ with heap := h, toks := tk }) :
    BSrc prog w A h₀ L m env elt x scope cl (fun s₂ => LCg.FinE h₀ L m s₂ Q) (.bytes b tb) s₁ := by
  refine ⟨b, tb, news, rfl, hh, F, N, hsz, fun s₂ ⟨g', e⟩ => ?_⟩
  subst e
  refine kct_rest (ks := KBw.bInts b) g (KBw.ints_length b) (fun i v hi hv => ?_) (fun k t I oI C oC D m₂ ys h tk E' hk hC hx F N off ne mk => ?_) ?_
  · obtain ⟨c, u, hc, rfl⟩ := hv
    exact ⟨_, u, KBw.ints_get hc, rfl⟩
  · refine wpAny_mono (turn k t I oI C oC D m₂ ys h tk E' (KBw.ints_in hk).1 (KBw.ints_in hk).2 hC hx F N) (fun y s₂ hq => ?_) fun _ _ e => e
    obtain ⟨h', tk', t', rfl, rfl, F', N'⟩ := hq
    exact ⟨h', tk', news, rfl, F', N', off, trivial, rfl, t', rfl⟩
  · show ∀ ys, _
    intro ys hc _ D h tk F' N' o1
    exact fin ys D h tk hc (KBw.ints_length b) F' N' o1
/-- ints of a made list of ints -/
theorem csrc_ints {ax : Addr} {vs : List Value} {ns : List Int} {k : Nat} {s₁ : Shared} (g : Int → Int) (hh : A.handled = none) (F : Fr h₀ L s₁.heap m) (N : News h₀ L s₁.heap news) (hm : (ax, ({ cls := .type "list", data := .seq vs.toArray k } : Obj)) ∈ news) (hi : IntsAre vs ns) (hsz : ns.length ≤ sizeLine)
    (turn : ∀ k t I oI C oC D m₂ ys h tk (E' : Value → Shared → Prop), k ∈ ns → LCg.NsObj oC m₂ → m₂ x = some (.int k t) → Fr h₀ L h m → News h₀ L h ((I, oI) :: (C, oC) :: (D, LCg.lst ys) :: news) →
      wpAny (model prog w) A (eval elt (compEnvC scope cl C env)) (EltI h₀ L m { s₁ with heap := h, toks := tk } ((I, oI) :: (C, oC) :: (D, LCg.lst ys) :: news) (g k)) E' { s₁ with heap := h, toks := tk })
    (fin : ∀ ys D h tk, IntsAre ys (ns.map g) → Fr h₀ L h m → News h₀ L h ((D, LCg.lst ys) :: news) → LCg.Off1 D news → Q (.ref D) { s₁ with heap := h, toks := tk }) :
    LCg.CompSrc prog w A h₀ L m env elt x scope cl (fun s₂ => LCg.FinE h₀ L m s₂ Q) (.ref ax) s₁ := by
  refine LCg.CompSrc.ledger (its := vs.toArray) (k := k) hh F N hm (by rw [List.size_toArray, hi.length]; exact hsz) fun g' => ?_
  refine kcf_list g hi (fun k t I oI C oC D m₂ ys h tk E' hk hC hx F N off ne mk => ?_) ?_
  · refine wpAny_mono (turn k t I oI C oC D m₂ ys h tk E' hk hC hx F N) (fun y s₂ hq => ?_) fun _ _ e => e
    obtain ⟨h', tk', t', rfl, rfl, F', N'⟩ := hq
    exact ⟨h', tk', news, rfl, F', N', off, .inr ⟨_, hm, rfl, _, rfl⟩, rfl, t', rfl⟩
  · show ∀ ys, _
    intro ys hc D h tk F' N' o1
    exact fin ys D h tk hc F' N' o1
/-- ints of a range -/
theorem rsrc_ints {r : Addr} {a b : Int} {t u v : Tok} {n : Nat} {s₁ : Shared} (g : Int → Int) (hh : A.handled = none) (F : Fr h₀ L s₁.heap m) (N : News h₀ L s₁.heap news) (hr : IsRange s₁.heap r a b 1 t u v) (hsm : Builtin.Range.small a b 1 = true) (hn : Builtin.Range.rangeSize a b 1 = ((n : Nat) : Int)) (hsz : n ≤ sizeLine)
    (turn : ∀ k t I oI C oC D m₂ ys h tk (E' : Value → Shared → Prop), a ≤ k → k < a + (n : Int) → LCg.NsObj oC m₂ → m₂ x = some (.int k t) → Fr h₀ L h m → News h₀ L h ((I, oI) :: (C, oC) :: (D, LCg.lst ys) :: news) →
      wpAny (model prog w) A (eval elt (compEnvC scope cl C env)) (EltI h₀ L m { s₁ with heap := h, toks := tk } ((I, oI) :: (C, oC) :: (D, LCg.lst ys) :: news) (g k)) E' { s₁ with heap := h, toks := tk })
    (fin : ∀ ys D h tk, IntsAre ys ((rangeKs a n).map g) → Fr h₀ L h m → News h₀ L h ((D, LCg.lst ys) :: news) → LCg.Off1 D news → Q (.ref D) { s₁ with heap := h, toks := tk }) :
    LCg.CompSrc prog w A h₀ L m env elt x scope cl (fun s₂ => LCg.FinE h₀ L m s₂ Q) (.ref r) s₁ := by
  refine LCg.CompSrc.range (n := n) hh F N hr hsm hn hsz fun g' => ?_
  refine kcf_range g (fun k t I oI C oC D m₂ ys h tk E' hl hk hC hx F N off ne mk => ?_) ?_
  · refine wpAny_mono (turn k t I oI C oC D m₂ ys h tk E' hl hk hC hx F N) (fun y s₂ hq => ?_) fun _ _ e => e
    obtain ⟨h', tk', t', rfl, rfl, F', N'⟩ := hq
    exact ⟨h', tk', news, rfl, F', N', off, trivial, rfl, t', rfl⟩
  · show ∀ ys, _
    intro ys hc D h tk F' N' o1
    exact fin ys D h tk hc F' N' o1
end
end B58
-- L4
namespace B58
open PySem PySem.W PyProof.Rows PySem.Calls PySem.Spec
theorem digs_lt {b : Nat} (hb : 2 ≤ b) : ∀ n, ∀ d ∈ digs b n, d < b := by
  intro n
  induction n using Nat.strongRecOn with
  | ind n ih =>
    by_cases h : n = 0
    · subst h; rw [digs_zero]; intro d hd; cases hd
    · rw [digs_pos h hb]
      intro d hd
      rcases List.mem_append.mp hd with hd | hd
      · exact ih _ (Nat.div_lt_self (Nat.pos_of_ne_zero h) hb) d hd
      · rw [List.mem_singleton.mp hd]; exact Nat.mod_lt _ (by omega)
theorem digs_length' {b p : Nat} (hb : 2 ≤ b) (hp : 2 ^ p ≤ b) : ∀ (k n : Nat), n < 2 ^ (p * k) → (digs b n).length ≤ k := by
  intro k
  induction k with
  | zero => intro n hn; simp at hn; subst hn; rw [digs_zero]; simp
  | succ k ih =>
    intro n hn
    by_cases h : n = 0
    · subst h; rw [digs_zero]; simp
    · rw [digs_pos h hb, List.length_append, List.length_singleton]
      have : (digs b (n / b)).length ≤ k := by
        refine ih _ ?_
        rw [Nat.div_lt_iff_lt_mul (by omega)]
        refine Nat.lt_of_lt_of_le hn ?_
        rw [Nat.mul_succ, Nat.pow_add]
        exact Nat.mul_le_mul_left _ hp
      omega
theorem take_drop_zero : ∀ l : List UInt8, (l.map (·.toNat)).takeWhile (· == 0) = (l.takeWhile (fun c => c == 0)).map (·.toNat)
  | [] => rfl
  | a :: l => by
    rw [List.map_cons, List.takeWhile_cons, List.takeWhile_cons]
    have : (a.toNat == 0) = (a == 0) := by
      rcases Nat.decEq a.toNat 0 with h | h
      · rw [beq_eq_false_iff_ne.mpr h, eq_comm, beq_eq_false_iff_ne]
        intro q; subst q; exact h rfl
      · have : a = 0 := UInt8.toNat_inj.mp h
        subst this; rfl
    rw [this]
    split
    · rw [List.map_cons, take_drop_zero l]
    · rfl
theorem nul_contains (c : UInt8) : (#[0] : Array UInt8).contains c = (c == 0) := by
  simp only [Array.contains_eq_mem, List.mem_toArray, List.mem_singleton]
  by_cases h : c = 0
  · simp [h]
  · simp [h]
theorem lead_size (v : Array UInt8) : lead (octs v) + (lstrip v #[0]).size = v.size := by
  unfold lead octs lstrip
  rw [take_drop_zero, List.length_map, List.size_toArray]
  have : (v.toList.dropWhile (#[0] : Array UInt8).contains) = v.toList.dropWhile (fun c => c == 0) := by
    congr 1; funext c; exact nul_contains c
  rw [this]
  have := congrArg List.length (List.takeWhile_append_dropWhile (p := fun c : UInt8 => c == 0) (l := v.toList))
  rw [List.length_append] at this
  simpa using this
theorem val_zero (b : Nat) (l : List Nat) : valN b (0 :: l) = valN b l := by simp [valN]
theorem val_lstrip (v : Array UInt8) : valN 256 (octs (lstrip v #[0])) = valN 256 (octs v) := by
  have key : ∀ l : List UInt8, valN 256 ((l.dropWhile (#[0] : Array UInt8).contains).map (·.toNat)) = valN 256 (l.map (·.toNat)) := by
    intro l
    induction l with
    | nil => rfl
    | cons a l ih =>
      rw [List.dropWhile_cons]
      split
      · rename_i h
        have ha : a = 0 := by simpa using h
        subst ha
        rw [ih, List.map_cons]
        exact (val_zero 256 _).symm
      · rfl
  exact key v.toList
theorem getD_sign (al : Array UInt8) (d : Nat) : ((((octs al).getD d 0 : Nat) : Int)).toNat.toUInt8 = sign al d := by
  rw [octs_getD, Int.toNat_natCast]
  show UInt8.ofNat _ = _
  rw [UInt8.ofNat_toNat]
  simp [sign, Array.getD_eq_getD_getElem?, List.getD_eq_getElem?_getD]
theorem want_eq (al v : Array UInt8) : byteArr (List.replicate ((lead (octs v) : Nat) : Int).toNat (((octs al).getD (Int.toNat 0) 0 : Nat) : Int) ++ ((digs al.size (valN (Int.toNat 256) (octs v))).map fun d => ((d : Nat) : Int)).map (fun k => (((octs al).getD k.toNat 0 : Nat) : Int))) = encB al v := by
  have h1 := lead_size v
  unfold byteArr encB encN
  rw [val_lstrip]
  congr 1
  rw [List.map_append, List.map_replicate, List.map_map, List.map_map, Int.toNat_natCast]
  congr 1
  · congr 1
    · omega
    · exact getD_sign al 0
  · apply List.map_congr_left
    intro d _
    show ((((octs al).getD (Int.toNat (d : Int)) 0 : Nat) : Int)).toNat.toUInt8 = _
    rw [Int.toNat_natCast]
    exact getD_sign al d
/-- what the law wants the text to be -/
structure WantOk (al v u : Array UInt8) : Prop where
  eq : u = encB al v
  sz : u.size ≤ 72
theorem octs_val_lt (v : Array UInt8) {k : Nat} (h : v.size ≤ k) : valN 256 (octs v) < 2 ^ (8 * k) := Nat.lt_of_lt_of_le (oct_lt v) (Nat.pow_le_pow_right (by decide) (by omega))
theorem digs_few {kind span : Int} {al v : Array UInt8} (hA : AlOk kind al) (hO : OctOk al span v) : (digs al.size (valN 256 (octs v))).length + v.size ≤ 72 := by
  have h2 := hA.lo
  have h3 := hO.len
  rcases hO.few with h | h
  · have := digs_length' (p := 3) h2 (by omega) 40 (valN 256 (octs v)) (octs_val_lt v h3)
    omega
  · have := digs_length' (p := 1) h2 (by omega) 64 (valN 256 (octs v)) (octs_val_lt v h)
    omega
theorem enc_size {kind span : Int} {al v : Array UInt8} (hA : AlOk kind al) (hO : OctOk al span v) : (encB al v).size ≤ 72 := by
  have h1 := lead_size v
  have := digs_few hA hO
  rw [← want_eq, byteArr_size, List.length_append, List.length_replicate, List.length_map, List.length_map]
  show _ + (digs al.size (valN 256 (octs v))).length ≤ 72
  omega
theorem want_ok {kind span : Int} {al v : Array UInt8} (hA : AlOk kind al) (hO : OctOk al span v) : WantOk al v (encB al v) := ⟨rfl, enc_size hA hO⟩
theorem want_in {al v : Array UInt8} : ∀ n ∈ List.replicate ((lead (octs v) : Nat) : Int).toNat (((octs al).getD (Int.toNat 0) 0 : Nat) : Int) ++ ((digs al.size (valN (Int.toNat 256) (octs v))).map fun d => ((d : Nat) : Int)).map (fun k => (((octs al).getD k.toNat 0 : Nat) : Int)), 0 ≤ n ∧ n < 256 := by
  have key : ∀ i, (octs al).getD i 0 < 256 := fun i => by
    rw [octs_getD]; exact UInt8.toNat_lt _
  intro n hn
  rcases List.mem_append.mp hn with hn | hn
  · rw [(List.mem_replicate.mp hn).2]
    have := key (Int.toNat 0)
    omega
  · obtain ⟨a, _, rfl⟩ := List.mem_map.mp hn
    have := key a.toNat
    omega
section
variable {prog : Program} {w : World} {A : Around} {E : Value → Shared → Prop} {s : Shared} {h₀ : Heap} {L D : Addr} {m : Str → Option Value} {news : List (Addr × Obj)} {vs : List Value} {Q : Value → Shared → Prop} {env : Env} {elt : Expr} {x : Str} {scope : Scope} {cl : List (Str × Addr)}
theorem bytes_want {al v : Array UInt8} {kind span : Int} (hA : AlOk kind al) (hO : OctOk al span v) (F : Fr h₀ L s.heap m) (N : News h₀ L s.heap news) (hh : A.handled = none) (hl : s.heap.IsList D vs.toArray)
    (hi : IntsAre vs (List.replicate ((lead (octs v) : Nat) : Int).toNat (((octs al).getD (Int.toNat 0) 0 : Nat) : Int) ++ ((digs al.size (valN (Int.toNat 256) (octs v))).map fun d => ((d : Nat) : Int)).map (fun k => (((octs al).getD k.toNat 0 : Nat) : Int))))
    (h : ∀ u h' t' k, WantOk al v u → Fr h₀ L h' m → News h₀ L h' news → Q (.bytes u t') { s with heap := h', toks := k }) : wpAny (model prog w) A (call (.type "bytes") [.ref D]) Q E s := by
  refine KBa.make_K F N hh hl hi want_in ?_ fun h' t' k F' N' _ => h _ h' t' k (by rw [want_eq]; exact want_ok hA hO) F' N'
  have h1 := enc_size hA hO
  rw [← want_eq, byteArr_size] at h1
  omega
theorem csrc_signs {kind span : Int} {al v : Array UInt8} (hA : AlOk kind al) (hO : OctOk al span v) {ax : Addr} {k : Nat} {s₁ : Shared} (hh : A.handled = none) (F : Fr h₀ L s₁.heap m) (N : News h₀ L s₁.heap news) (hm : (ax, ({ cls := .type "list", data := .seq vs.toArray k } : Obj)) ∈ news)
    (hi : IntsAre vs ((digs al.size (valN (Int.toNat 256) (octs v))).map fun d => ((d : Nat) : Int)))
    (turn : ∀ (k : Int) t I oI C oC D m₂ ys h tk (E' : Value → Shared → Prop), 0 ≤ k → k < al.size → LCg.NsObj oC m₂ → m₂ x = some (.int k t) → Fr h₀ L h m → News h₀ L h ((I, oI) :: (C, oC) :: (D, LCg.lst ys) :: news) →
      wpAny (model prog w) A (eval elt (compEnvC scope cl C env)) (EltI h₀ L m { s₁ with heap := h, toks := tk } ((I, oI) :: (C, oC) :: (D, LCg.lst ys) :: news) ((fun k => (((octs al).getD k.toNat 0 : Nat) : Int)) k)) E' { s₁ with heap := h, toks := tk })
    (fin : ∀ ys D h tk, IntsAre ys (((digs al.size (valN (Int.toNat 256) (octs v))).map fun d => ((d : Nat) : Int)).map (fun k => (((octs al).getD k.toNat 0 : Nat) : Int))) → Fr h₀ L h m → News h₀ L h ((D, LCg.lst ys) :: news) → LCg.Off1 D news → Q (.ref D) { s₁ with heap := h, toks := tk }) :
    LCg.CompSrc prog w A h₀ L m env elt x scope cl (fun s₂ => LCg.FinE h₀ L m s₂ Q) (.ref ax) s₁ := by
  refine csrc_ints _ hh F N hm hi ?_ (fun k t I oI C oC D m₂ ys h tk E' hk => turn k t I oI C oC D m₂ ys h tk E' ?_ ?_) fin
  · have := digs_few hA hO
    rw [List.length_map, sizeLine_eq]
    show (digs al.size (valN 256 (octs v))).length ≤ _
    omega
  · obtain ⟨d, _, rfl⟩ := List.mem_map.mp hk
    omega
  · obtain ⟨d, hd, rfl⟩ := List.mem_map.mp hk
    have := digs_lt hA.lo _ d hd
    omega
end
end B58
local macro_rules | `(tactic| walk_at "EltI") => `(tactic| (refine' B58.eltI_ ?e ?F ?N; (case F => k_asm); (case N => k_asm); (case e => first | exact rfl | assumption)))
local macro_rules | `(tactic| walk_at "EltS") => `(tactic| (refine' B58.eltS_ ?e ?F ?N; (case F => k_asm); (case N => k_asm); (case e => first | exact rfl | assumption)))
local macro_rules | `(tactic| walk_at "eval ListComp") => `(tactic| (k_here; (show wpAny _ _ (eval (Expr.ListComp (Expr.Subscript (Expr.Name _ _) (Expr.Name _ _) _) [⟨_, Expr.Call (Expr.Name _ _) _ _ _, _, _⟩] _ _) _) _ _ _); k_dflt (refine LCg.ListComp_U (F₀ := by k_asm) (by with_unfolding_all rfl) (by decide) (by rfl) (by decide) (by rfl) ?_)))
local macro_rules | `(tactic| walk_at "CompSrc") => `(tactic| (k_here; (show LCg.CompSrc _ _ _ _ _ _ _ (Expr.Subscript (Expr.Name _ _) (Expr.Name _ _) _) _ _ _ _ _ _); k_dflt (refine' B58.csrc_signs ?A ?O ?hh ?F ?N ?m ?i ?_ ?_; (case A => assumption); (case O => assumption); (case hh => rfl); (case F => k_asm); (case N => k_asm); (case m => k_mem); (case i => assumption)); rotate_left; (intro ys9 D' h' tk' hI9 F' N' o1'; (try simp only [LCg.Off1, and_true] at o1'); (try dsimp only); (try k_fold)); rotate_left; (intro k' t' I' oI' C' oC' D' m' ys' h' tk' E' hlo' hhi' hC' hx' F' N'; (try dsimp only); (try k_fold))))
local macro_rules | `(tactic| walk_at "binaryOp Add ref ref") => `(tactic| (k_here; (with_reducible show wpAny _ _ (binaryOp _ (Value.ref _) (Value.ref _)) _ _ _); k_dflt (refine' kmk_add_ints ?F ?N ?a ?b ?i ?j ?_ ?z; (case F => k_asm); (case N => k_asm); (case a => is_list); (case b => is_list); (case i => exact B58.ints_rep _ _ _); (case j => assumption); (case z => ((simp only [List.length_replicate, List.length_map, sizeLine_eq]); (have hz9 := B58.digs_few (by assumption) (by assumption)); (simp only [Int.toNat_natCast]); (try (change _ + (B58.digs _ (B58.valN 256 _)).length ≤ _)); omega))); intro D' ws' h' F' N' l1 hI'; (try k_lt l1); (try k_sweep)))
local macro_rules | `(tactic| walk_at "call type:bytes") => `(tactic| (k_here; (with_reducible show wpAny _ _ (call (Value.type "bytes") [Value.ref _]) _ _ _); k_dflt (refine' B58.bytes_want ?A ?O ?F ?N ?hh ?l ?i ?_; (case A => assumption); (case O => assumption); (case F => k_asm); (case N => k_asm); (case hh => rfl); (case i => assumption); (case l => is_list); k_whole); intro u9 h' _ _ hW9 F' N'; (have hW1 := hW9.sz); (try k_sweep)))
-- PL
namespace B58
open PySem PySem.W PyProof.Rows PySem.Calls PySem.Spec PySem.Builtin
/-- x is decoded to v -/
structure DecTo (al x v : Array UInt8) : Prop where
  sz : x.size ≤ 100
  ok : okIn al (octs (rstrip (lstrip (rstrip x) #[sign al 0])))
  eq : decB al (rstrip x) = v
/-- x is refused -/
structure RefTo (al x : Array UInt8) : Prop where
  sz : x.size ≤ 100
  no : ¬ okIn al (octs (rstrip (lstrip (rstrip x) #[sign al 0])))
structure BlankOk (bs : Array UInt8) : Prop where
  sz : bs.size ≤ 2
  bl : ∀ x ∈ octs bs, 9 ≤ x ∧ x ≤ 13 ∨ x = 32
structure StrangeOk (al sg : Array UInt8) : Prop where
  sz : sg.size = 1
  no : ∀ x ∈ octs sg, x ∉ octs al ∧ ¬ (9 ≤ x ∧ x ≤ 13 ∨ x = 32)
/-! digits -/
theorem digs_ne {b n : Nat} (hb : 2 ≤ b) (h : n ≠ 0) : digs b n ≠ [] := by
  rw [digs_pos h hb]; simp
theorem valN_snoc (b : Nat) (l : List Nat) (d : Nat) : valN b (l ++ [d]) = valN b l * b + d := by simp [valN]
theorem valN_digs {b : Nat} (hb : 2 ≤ b) : ∀ n, valN b (digs b n) = n := by
  intro n
  induction n using Nat.strongRecOn with
  | ind n ih =>
    by_cases h : n = 0
    · subst h; rw [digs_zero]; rfl
    · rw [digs_pos h hb, valN_snoc, ih _ (Nat.div_lt_self (Nat.pos_of_ne_zero h) hb)]
      exact Nat.div_add_mod' n b
theorem digs_head {b : Nat} (hb : 2 ≤ b) : ∀ n, ∀ d r, digs b n = d :: r → d ≠ 0 := by
  intro n
  induction n using Nat.strongRecOn with
  | ind n ih =>
    intro d r e
    by_cases h : n = 0
    · subst h; rw [digs_zero] at e; cases e
    · rw [digs_pos h hb] at e
      by_cases h2 : n / b = 0
      · rw [h2, digs_zero] at e
        simp at e
        rw [← e.1]
        have := Nat.div_add_mod n b
        rw [h2] at this
        omega
      · cases e2 : digs b (n / b) with
        | nil => exact absurd e2 (digs_ne hb h2)
        | cons d' r' =>
          rw [e2] at e
          simp at e
          rw [← e.1]
          exact ih _ (Nat.div_lt_self (Nat.pos_of_ne_zero h) hb) d' r' e2
theorem digs_valN {b : Nat} (hb : 2 ≤ b) (l : List Nat) : (∀ d ∈ l, d < b) → (∀ d r, l = d :: r → d ≠ 0) → digs b (valN b l) = l := by
  refine snoc_ind (P := fun l => (∀ d ∈ l, d < b) → (∀ d r, l = d :: r → d ≠ 0) → digs b (valN b l) = l) (fun _ _ => digs_zero b) (fun l d ih => ?_) l
  intro hl hh
  have hd : d < b := hl d (by simp)
  have hne : valN b (l ++ [d]) ≠ 0 := by
    cases l with
    | nil => simp [valN]; exact hh d [] rfl
    | cons a r =>
      have i := ih (fun x hx => hl x (List.mem_append_left _ hx)) (fun x y e => hh x (y ++ [d]) (by rw [e]; rfl))
      intro z
      rw [valN_snoc] at z
      have : valN b (a :: r) = 0 := by
        rcases Nat.eq_zero_or_pos (valN b (a :: r)) with q | q
        · exact q
        · have := Nat.mul_pos q (show 0 < b by omega)
          omega
      rw [this, digs_zero] at i
      cases i
  have i := ih (fun x hx => hl x (List.mem_append_left _ hx)) (fun x y e => hh x (y ++ [d]) (by rw [e]; rfl))
  rw [digs_pos hne hb, valN_snoc, show (valN b l * b + d) % b = d by rw [Nat.add_comm, Nat.add_mul_mod_self_right, Nat.mod_eq_of_lt hd]]
  rw [show (valN b l * b + d) / b = valN b l by rw [Nat.mul_comm, Nat.mul_add_div (by omega), Nat.div_eq_of_lt hd, Nat.add_zero], i]
/-! signs -/
theorem sign_toNat (al : Array UInt8) (d : Nat) : (sign al d).toNat = (octs al).getD d 0 := by
  rw [octs_getD]
  simp [sign, Array.getD_eq_getD_getElem?, List.getD_eq_getElem?_getD]
theorem sign_get {al : Array UInt8} {d : Nat} (h : d < al.size) : (sign al d).toNat = (octs al)[d]'(by rw [octs_length]; exact h) := by
  rw [sign_toNat, List.getD_eq_getElem?_getD, List.getElem?_eq_getElem (by rw [octs_length]; exact h)]
  rfl
theorem sign_mem {al : Array UInt8} {d : Nat} (h : d < al.size) : (sign al d).toNat ∈ octs al := by
  rw [sign_get h]; exact List.getElem_mem _
theorem rk_sign {al : Array UInt8} (hn : (octs al).Nodup) {d : Nat} (h : d < al.size) : rk al (sign al d).toNat = d := by
  unfold rk
  rw [sign_get h]
  exact hn.idxOf_getElem d (by rw [octs_length]; exact h)
theorem rk_map {al : Array UInt8} (hn : (octs al).Nodup) {l : List Nat} (h : ∀ d ∈ l, d < al.size) : (((l.map (sign al)).map (·.toNat)).map (rk al)) = l := by
  rw [List.map_map, List.map_map]
  conv => rhs; rw [← List.map_id l]
  exact List.map_congr_left fun d hd => rk_sign hn (h d hd)
/-! stripping -/
theorem drop_keep {α : Type} {p : α → Bool} {c : α} (h : p c = false) : ∀ {l : List α}, c ∈ l → c ∈ l.dropWhile p
  | a :: l, hm => by
    rw [List.dropWhile_cons]
    split
    · rename_i ha
      rcases List.mem_cons.mp hm with rfl | hm
      · rw [h] at ha; cases ha
      · exact drop_keep h hm
    · exact hm
theorem drop_stop {α : Type} {p : α → Bool} {a : α} (h : p a = false) (r : List α) : ∀ l : List α, (l ++ a :: r).dropWhile p = l.dropWhile p ++ a :: r
  | [] => by rw [List.nil_append, List.dropWhile_cons, h]; rfl
  | b :: l => by
    rw [List.cons_append, List.dropWhile_cons, List.dropWhile_cons]
    split
    · exact drop_stop h r l
    · rfl
theorem drop_all {α : Type} {p : α → Bool} : ∀ {l : List α}, (∀ a ∈ l, p a = true) → l.dropWhile p = []
  | [], _ => rfl
  | a :: l, h => by rw [List.dropWhile_cons, h a List.mem_cons_self]; exact drop_all fun b hb => h b (List.mem_cons_of_mem _ hb)
theorem drop_none {α : Type} {p : α → Bool} : ∀ {l : List α}, (∀ a ∈ l, p a = false) → l.dropWhile p = l
  | [], _ => rfl
  | a :: l, h => by rw [List.dropWhile_cons, h a List.mem_cons_self]; rfl
theorem one_contains (s c : UInt8) : (#[s] : Array UInt8).contains c = (c == s) := by
  simp only [Array.contains_eq_mem, List.mem_toArray, List.mem_singleton]
  by_cases h : c = s
  · simp [h]
  · simp [h]
theorem octs_mem9 {c : UInt8} {b : Array UInt8} : c.toNat ∈ octs b ↔ c ∈ b.toList := by
  unfold octs
  constructor
  · intro h
    obtain ⟨a, ha, e⟩ := List.mem_map.mp h
    rw [UInt8.toNat_inj] at e
    exact e ▸ ha
  · intro h; exact List.mem_map.mpr ⟨c, h, rfl⟩
theorem space_iff (c : UInt8) : Bytes.isSpace c = true ↔ (9 ≤ c.toNat ∧ c.toNat ≤ 13 ∨ c.toNat = 32) := by
  have h : ∀ k : Fin 256, Bytes.isSpace (UInt8.ofNat k.val) = true ↔ (9 ≤ k.val ∧ k.val ≤ 13 ∨ k.val = 32) := by decide +kernel
  have := h ⟨c.toNat, c.toNat_lt⟩
  rw [UInt8.ofNat_toNat] at this
  exact this
theorem space_no {c : UInt8} (h : ¬ (9 ≤ c.toNat ∧ c.toNat ≤ 13 ∨ c.toNat = 32)) : Bytes.isSpace c = false := by
  cases q : Bytes.isSpace c
  · rfl
  · exact absurd ((space_iff c).mp q) h
theorem rstrip_keep {c : UInt8} {b : Array UInt8} (h : Bytes.isSpace c = false) (hm : c ∈ b.toList) : c ∈ (rstrip b).toList := by
  unfold rstrip
  exact List.mem_reverse.mpr (drop_keep h (List.mem_reverse.mpr hm))
theorem lstrip_keep {c s : UInt8} {b : Array UInt8} (h : c ≠ s) (hm : c ∈ b.toList) : c ∈ (lstrip b #[s]).toList := by
  unfold lstrip
  exact drop_keep (by rw [one_contains]; exact beq_false_of_ne h) hm
theorem no_space_al {kind : Int} {al : Array UInt8} (hA : AlOk kind al) {c : UInt8} (h : c.toNat ∈ octs al) : Bytes.isSpace c = false := space_no fun q => by
  have := (hA.vis _ h).1
  omega
theorem rstrip_none {kind : Int} {al u : Array UInt8} (hA : AlOk kind al) (h : ∀ c ∈ octs u, c ∈ octs al) : rstrip u = u := by
  unfold rstrip
  rw [drop_none, List.reverse_reverse, Array.toArray_toList]
  intro c hc
  exact no_space_al hA (h _ (octs_mem9.mpr (List.mem_reverse.mp hc)))
theorem rstrip_blank {kind : Int} {al u bs : Array UInt8} (hA : AlOk kind al) (h : ∀ c ∈ octs u, c ∈ octs al) (hB : ∀ x ∈ octs bs, 9 ≤ x ∧ x ≤ 13 ∨ x = 32) : rstrip (u ++ bs) = u := by
  rw [← rstrip_none hA h]
  conv => lhs; rw [rstrip_none hA h]
  unfold rstrip
  rw [Array.toList_append, List.reverse_append, List.dropWhile_append_of_pos]
  intro c hc
  exact (space_iff c).mpr (hB _ (octs_mem9.mpr (List.mem_reverse.mp hc)))
theorem sign0_mem {kind : Int} {al : Array UInt8} (hA : AlOk kind al) : (sign al 0).toNat ∈ octs al := sign_mem (by have := hA.lo; omega)
theorem encN_mem {al : Array UInt8} (hb : 2 ≤ al.size) (n : Nat) : ∀ c ∈ encN al n, c.toNat ∈ octs al := fun c hc => by
  obtain ⟨d, hd, rfl⟩ := List.mem_map.mp hc
  exact sign_mem (digs_lt hb n d hd)
theorem want_sub {kind span : Int} {al v u : Array UInt8} (hA : AlOk kind al) (hO : OctOk al span v) (hW : WantOk al v u) : ∀ c ∈ octs u, c ∈ octs al := by
  intro c hc
  rw [hW.eq] at hc
  unfold octs encB at hc
  obtain ⟨a, ha, rfl⟩ := List.mem_map.mp hc
  rcases List.mem_append.mp ha with ha | ha
  · rw [(List.mem_replicate.mp ha).2]; exact sign0_mem hA
  · exact encN_mem hA.lo _ a ha
/-- the first signs off: the number's signs are left -/
theorem lstrip_enc {kind : Int} {al : Array UInt8} (hA : AlOk kind al) (z n : Nat) : lstrip (List.replicate z (sign al 0) ++ encN al n).toArray #[sign al 0] = (encN al n).toArray := by
  have hb := hA.lo
  unfold lstrip
  show (List.dropWhile _ (List.replicate z (sign al 0) ++ encN al n)).toArray = _
  rw [List.dropWhile_append_of_pos]
  · congr 1
    cases e : digs al.size n with
    | nil => unfold encN; rw [e]; rfl
    | cons d r =>
      have hd := digs_head hb n d r e
      have hlt := digs_lt hb n d (by rw [e]; exact List.mem_cons_self)
      unfold encN
      rw [e, List.map_cons, List.dropWhile_cons, one_contains]
      have : (sign al d == sign al 0) = false := by
        refine beq_false_of_ne fun q => hd ?_
        have h1 := rk_sign hA.nd hlt
        rw [q, rk_sign hA.nd (by omega)] at h1
        exact h1.symm
      rw [this]; rfl
  · intro c hc
    rw [(List.mem_replicate.mp hc).2, one_contains]
    simp
theorem oct_back (v : Array UInt8) : octN (valN 256 (octs (lstrip v #[0]))) = (lstrip v #[0]).toList := by
  unfold octN
  rw [digs_valN (by decide)]
  · unfold octs
    rw [List.map_map]
    have : (Nat.toUInt8 ∘ fun x : UInt8 => x.toNat) = _root_.id := by
      funext c; exact UInt8.ofNat_toNat
    rw [this, List.map_id]
  · exact octs_lt _
  · intro d r e
    unfold octs lstrip at e
    have h := List.head?_dropWhile_not ((#[0] : Array UInt8).contains) v.toList
    cases q : List.dropWhile (#[0] : Array UInt8).contains v.toList with
    | nil => rw [q] at e; simp at e
    | cons a l =>
      rw [q] at e h
      simp only [List.map_cons, List.cons.injEq] at e
      simp only [List.head?_cons] at h
      rw [← e.1]
      intro z
      have : a = 0 := UInt8.toNat_inj.mp z
      rw [this] at h
      simp at h
theorem lead_back (v : Array UInt8) : List.replicate (v.size - (lstrip v #[0]).size) 0 ++ (lstrip v #[0]).toList = v.toList := by
  have key : ∀ l : List UInt8, List.replicate (l.length - (l.dropWhile (#[0] : Array UInt8).contains).length) 0 ++ l.dropWhile (#[0] : Array UInt8).contains = l := by
    intro l
    induction l with
    | nil => rfl
    | cons a l ih =>
      rw [List.dropWhile_cons]
      split
      · rename_i h
        have ha : a = 0 := by simpa using h
        subst ha
        have hle := drop_size_le (p := (#[0] : Array UInt8).contains) l
        rw [List.length_cons, show l.length + 1 - (l.dropWhile (#[0] : Array UInt8).contains).length = (l.length - (l.dropWhile (#[0] : Array UInt8).contains).length) + 1 by omega, List.replicate_succ, List.cons_append, ih]
      · rw [Nat.sub_self]; rfl
  have := key v.toList
  unfold lstrip
  rw [List.size_toArray]
  simpa using this
theorem dec_enc {kind : Int} {al : Array UInt8} (hA : AlOk kind al) (v : Array UInt8) : okIn al (octs (rstrip (lstrip (encB al v) #[sign al 0]))) ∧ decB al (encB al v) = v := by
  have hb := hA.lo
  have h1 : lstrip (encB al v) #[sign al 0] = (encN al (valN 256 (octs (lstrip v #[0])))).toArray := lstrip_enc hA _ _
  have hm : ∀ c ∈ octs (encN al (valN 256 (octs (lstrip v #[0])))).toArray, c ∈ octs al := by
    intro c hc
    obtain ⟨a, ha, rfl⟩ := List.mem_map.mp hc
    exact encN_mem hb _ a ha
  have h2 : rstrip (lstrip (encB al v) #[sign al 0]) = (encN al (valN 256 (octs (lstrip v #[0])))).toArray := by
    rw [h1]; exact rstrip_none hA hm
  refine ⟨by rw [h2]; exact hm, ?_⟩
  unfold decB
  rw [h2, h1]
  have h3 : decN al (octs (encN al (valN 256 (octs (lstrip v #[0])))).toArray) = valN 256 (octs (lstrip v #[0])) := by
    unfold decN octs encN
    rw [rk_map hA.nd (digs_lt hb _), valN_digs hb]
  rw [h3, oct_back]
  have h4 : (encB al v).size - ((encN al (valN 256 (octs (lstrip v #[0])))).toArray).size = v.size - (lstrip v #[0]).size := by
    unfold encB
    show (List.replicate (v.size - (lstrip v #[0]).size) (sign al 0) ++ encN al (valN 256 (octs (lstrip v #[0])))).length - (encN al (valN 256 (octs (lstrip v #[0])))).length = _
    rw [List.length_append, List.length_replicate, Nat.add_sub_cancel]
  rw [h4, lead_back, Array.toArray_toList]
theorem decTo_blank {kind span : Int} {al v u bs : Array UInt8} (hA : AlOk kind al) (hO : OctOk al span v) (hW : WantOk al v u) (hB : BlankOk bs) : DecTo al (u ++ bs) v := by
  have e := rstrip_blank hA (want_sub hA hO hW) hB.bl
  have h := dec_enc hA v
  have h1 := hW.sz
  have h2 := hB.sz
  exact ⟨by rw [Array.size_append]; omega, by rw [e, hW.eq]; exact h.1, by rw [e, hW.eq]; exact h.2⟩
theorem decTo_want {kind span : Int} {al v u : Array UInt8} (hA : AlOk kind al) (hO : OctOk al span v) (hW : WantOk al v u) : DecTo al u v := by
  have := decTo_blank hA hO hW (bs := #[]) ⟨by simp, by simp [octs]⟩
  simpa using this
theorem ref_strange {kind span : Int} {al v u sg : Array UInt8} (hA : AlOk kind al) (hO : OctOk al span v) (hW : WantOk al v u) (hS : StrangeOk al sg) : RefTo al (u ++ sg) := by
  have h1 := hW.sz
  have h2 := hS.sz
  refine ⟨by rw [Array.size_append]; omega, fun ok => ?_⟩
  obtain ⟨c, hc⟩ : ∃ c, sg = #[c] := by
    obtain ⟨l⟩ := sg
    match l, h2 with
    | [c], _ => exact ⟨c, rfl⟩
  subst hc
  have hno := hS.no c.toNat (by simp [octs])
  have hsp := space_no hno.2
  have hne : c ≠ sign al 0 := fun e => hno.1 (e ▸ sign0_mem hA)
  exact hno.1 (ok _ (octs_mem9.mpr (rstrip_keep hsp (lstrip_keep hne (rstrip_keep hsp (by simp))))))
theorem ref_blank {kind span : Int} {al v u : Array UInt8} (hA : AlOk kind al) (hO : OctOk al span v) (hW : WantOk al v u) : RefTo al (#[32] ++ #[sign al 0] ++ u) := by
  have h1 := hW.sz
  have hsp := no_space_al hA (sign0_mem hA)
  have hne : (32 : UInt8) ≠ sign al 0 := fun e => by
    have := sign0_mem hA
    rw [← e] at this
    exact hA.no32 this
  have key : ∀ l : List UInt8, ∃ r, (rstrip (32 :: sign al 0 :: l).toArray) = (32 :: sign al 0 :: r).toArray := by
    intro l
    refine ⟨(l.reverse.dropWhile Bytes.isSpace).reverse, ?_⟩
    unfold rstrip
    show ((List.dropWhile Bytes.isSpace (32 :: sign al 0 :: l).reverse).reverse).toArray = _
    rw [List.reverse_cons, List.reverse_cons, List.append_assoc]
    show ((List.dropWhile Bytes.isSpace (l.reverse ++ sign al 0 :: [32])).reverse).toArray = _
    rw [drop_stop hsp, List.reverse_append]
    rfl
  refine ⟨by simp only [Array.size_append, List.size_toArray, List.length_cons, List.length_nil]; omega, fun ok => ?_⟩
  have e0 : #[32] ++ #[sign al 0] ++ u = (32 :: sign al 0 :: u.toList).toArray := by
    apply Array.toList_inj.mp
    simp
  obtain ⟨r, hr⟩ := key u.toList
  have e1 : lstrip (32 :: sign al 0 :: r).toArray #[sign al 0] = (32 :: sign al 0 :: r).toArray := by
    unfold lstrip
    show (List.dropWhile _ (32 :: sign al 0 :: r)).toArray = _
    rw [List.dropWhile_cons, one_contains, beq_false_of_ne hne]
    rfl
  obtain ⟨r', hr'⟩ := key r
  rw [e0, hr, e1, hr'] at ok
  exact hA.no32 (ok 32 (by simp [octs]))
end B58
-- QL5
namespace B58
open PySem PySem.W PyProof.Rows PySem.Calls PySem.Spec
section
variable {prog : Program} {w : World} {A : Around} {E : Value → Shared → Prop} {s : Shared} {h₀ : Heap} {L D : Addr} {m : Str → Option Value} {news : List (Addr × Obj)} {vs : List Value} {env : Env} {elt : Expr} {x : Str} {scope : Scope} {cl : List (Str × Addr)}
/-- the octets' source: a range -/
theorem csrc_oct {Q : Value → Shared → Prop} {ws : List Value} {sc : List Int} {fp : List Addr} {H : Heap} (hR : ReadsAll H ws (sc.map PyData.int) fp) {span : Int} (hS : SpanP span) {r : Addr} {c : Int} {t u v : Tok} {s₁ : Shared} (hh : A.handled = none) (F : Fr h₀ L s₁.heap m) (N : News h₀ L s₁.heap news) (hr : IsRange s₁.heap r 0 c 1 t u v)
    (hc0 : 0 ≤ c) (hc : c ≤ 12)
    (turn : ∀ (k : Int) t I oI C oC D m₂ ys h tk (E' : Value → Shared → Prop), 0 ≤ k → k < 12 → LCg.NsObj oC m₂ → m₂ x = some (.int k t) → Fr h₀ L h m → News h₀ L h ((I, oI) :: (C, oC) :: (D, LCg.lst ys) :: news) →
      wpAny (model prog w) A (eval elt (compEnvC scope cl C env)) (EltI h₀ L m { s₁ with heap := h, toks := tk } ((I, oI) :: (C, oC) :: (D, LCg.lst ys) :: news) ((fun k => (drawV sc (8 + k)).fmod span) k)) E' { s₁ with heap := h, toks := tk })
    (fin : ∀ ys D h tk, IntsAre ys ((rangeKs 0 (c - 0).toNat).map (fun k => (drawV sc (8 + k)).fmod span)) → Fr h₀ L h m → News h₀ L h ((D, LCg.lst ys) :: news) → LCg.Off1 D news → Q (.ref D) { s₁ with heap := h, toks := tk }) :
    LCg.CompSrc prog w A h₀ L m env elt x scope cl (fun s₂ => LCg.FinE h₀ L m s₂ Q) (.ref r) s₁ := by
  refine rsrc_ints _ hh F N hr (small_one (by omega) (by omega) (by omega) (by omega)) (rangeSize_nat _ _) (by rw [sizeLine_eq]; omega) (fun k t I oI C oC D m₂ ys h tk E' h1 h2 => turn k t I oI C oC D m₂ ys h tk E' h1 (by omega)) fin
theorem oct_ok2 {al : Array UInt8} {span f c : Int} {g : Int → Int} (h0 : 0 ≤ f) (h3 : f ≤ 3) (hc0 : 0 ≤ c) (hc : c ≤ 12) (hf : 8 ≤ al.size ∨ c ≤ 5) (hs : SpanP span) :
    (∀ n ∈ List.replicate f.toNat (0 : Int) ++ List.map (fun a => (g a).fmod span) (rangeKs 0 (c - 0).toNat), 0 ≤ n ∧ n < 256) ∧
    (List.replicate f.toNat (0 : Int) ++ List.map (fun a => (g a).fmod span) (rangeKs 0 (c - 0).toNat)).length ≤ 15 ∧
    OctOk al span (byteArr (List.replicate f.toNat (0 : Int) ++ List.map (fun a => (g a).fmod span) (rangeKs 0 (c - 0).toNat))) := by
  have hlen : (List.replicate f.toNat (0 : Int) ++ List.map (fun a => (g a).fmod span) (rangeKs 0 (c - 0).toNat)).length = f.toNat + (c - 0).toNat := by
    rw [List.length_append, List.length_replicate, List.length_map, rangeKs_length]
  have hin : ∀ n ∈ List.replicate f.toNat (0 : Int) ++ List.map (fun a => (g a).fmod span) (rangeKs 0 (c - 0).toNat), 0 ≤ n ∧ n < span := by
    intro n hn
    rcases List.mem_append.mp hn with hn | hn
    · rw [(List.mem_replicate.mp hn).2]
      rcases hs with rfl | rfl <;> decide
    · obtain ⟨a, _, rfl⟩ := List.mem_map.mp hn
      have hp : 0 < span := by rcases hs with rfl | rfl <;> decide
      exact ⟨Int.fmod_nonneg_of_pos _ hp, Int.fmod_lt_of_pos _ hp⟩
  have h256 : ∀ n ∈ List.replicate f.toNat (0 : Int) ++ List.map (fun a => (g a).fmod span) (rangeKs 0 (c - 0).toNat), 0 ≤ n ∧ n < 256 := by
    intro n hn
    have := hin n hn
    rcases hs with rfl | rfl <;> omega
  refine ⟨h256, by omega, ⟨by rw [byteArr_size, hlen]; omega, by rw [byteArr_size, hlen]; omega, ?_⟩⟩
  rintro rfl x hx
  rw [octs_byteArr _ h256] at hx
  obtain ⟨n, hn, rfl⟩ := List.mem_map.mp hx
  have := hin n hn
  omega
theorem bytes_oct2 {Q : Value → Shared → Prop} {al : Array UInt8} {kind span f c : Int} {g : Int → Int} (hA : AlOk kind al) (F : Fr h₀ L s.heap m) (N : News h₀ L s.heap news) (hh : A.handled = none) (hl : s.heap.IsList D vs.toArray)
    (hi : IntsAre vs (List.replicate f.toNat (0 : Int) ++ List.map (fun a => (g a).fmod span) (rangeKs 0 (c - 0).toNat)))
    (h0 : 0 ≤ f) (h3 : f ≤ 3) (hc0 : 0 ≤ c) (hc : c ≤ 12) (hf : 8 ≤ al.size ∨ c ≤ 5) (hs : SpanP span)
    (h : ∀ v h' t' k, OctOk al span v → Fr h₀ L h' m → News h₀ L h' news → Q (.bytes v t') { s with heap := h', toks := k }) : wpAny (model prog w) A (call (.type "bytes") [.ref D]) Q E s := by
  obtain ⟨o1, o2, o3⟩ := oct_ok2 (al := al) (g := g) h0 h3 hc0 hc hf hs
  exact KBa.make_K F N hh hl hi o1 (by omega) fun h' t' k F' N' _ => h _ h' t' k o3 F' N'

/-- the three kinds meet: text and back are bound -/
def CutTB (h₀ : Heap) (L : Addr) (m : Str → Option Value) (news : List (Addr × Obj)) (s : Shared) (u v : Array UInt8) (fl : Flow) (s' : Shared) : Prop :=
  fl = .next ∧ ∃ (t t' : Tok) (h' : Heap) (tk : Nat), s' = { s with heap := h', toks := tk } ∧ Fr h₀ L h' (fun y => if y = Str.ofString "back" then some (.bytes v t') else if y = Str.ofString "text" then some (.bytes u t) else m y) ∧ News h₀ L h' news
theorem tb_ {u v : Array UInt8} {t t' : Tok} {h' : Heap} {tk : Nat} (F : Fr h₀ L h' (fun y => if y = Str.ofString "back" then some (.bytes v t') else if y = Str.ofString "text" then some (.bytes u t) else m y)) (N : News h₀ L h' news) :
    CutTB h₀ L m news s u v .next { s with heap := h', toks := tk } := ⟨rfl, t, t', h', tk, rfl, F, N⟩
theorem cut_tb {M : Model} {st : Stmt} {Q : Flow → Shared → Prop} {al u v : Array UInt8} (hW : WantOk al v u) (F : Fr h₀ L s.heap m) (N : News h₀ L s.heap news) (h1 : wpAny M A (exec st env) (CutTB h₀ L m news s u v) E s)
    (h2 : ∀ t t' h' tk, Fr h₀ L h' (fun y => if y = Str.ofString "back" then some (.bytes v t') else if y = Str.ofString "text" then some (.bytes u t) else m y) → News h₀ L h' news → Q .next { s with heap := h', toks := tk }) : wpAny M A (exec st env) Q E s :=
  wpAny_mono h1 (fun fl s' ⟨e, t, t', h', tk, e2, F', N'⟩ => by subst e; subst e2; exact h2 t t' h' tk F' N') fun _ _ x => x
/-- said is bound, or not -/
def CutSaid (h₀ : Heap) (L : Addr) (m : Str → Option Value) (news : List (Addr × Obj)) (s : Shared) (fl : Flow) (s' : Shared) : Prop :=
  fl = .next ∧ ∃ (o : Option Value) (h' : Heap) (tk : Nat), s' = { s with heap := h', toks := tk } ∧ Fr h₀ L h' (fun y => if y = Str.ofString "said" then o else m y) ∧ News h₀ L h' news
theorem said1_ {o : Value} {h' : Heap} {tk : Nat} (F : Fr h₀ L h' (fun y => if y = Str.ofString "said" then some o else m y)) (N : News h₀ L h' news) :
    CutSaid h₀ L m news s .next { s with heap := h', toks := tk } := ⟨rfl, some o, h', tk, rfl, F, N⟩
theorem said0_ {h' : Heap} {tk : Nat} (F : Fr h₀ L h' m) (N : News h₀ L h' news) : CutSaid h₀ L m news s .next { s with heap := h', toks := tk } := by
  refine ⟨rfl, m (Str.ofString "said"), h', tk, rfl, ?_, N⟩
  have : (fun y => if y = Str.ofString "said" then m (Str.ofString "said") else m y) = m := by
    funext y
    by_cases h : y = Str.ofString "said"
    · rw [if_pos h, h]
    · rw [if_neg h]
  rw [this]; exact F
theorem cut_said {M : Model} {st : Stmt} {Q : Flow → Shared → Prop} (F : Fr h₀ L s.heap m) (N : News h₀ L s.heap news) (h1 : wpAny M A (exec st env) (CutSaid h₀ L m news s) E s)
    (h2 : ∀ o h' tk, Fr h₀ L h' (fun y => if y = Str.ofString "said" then o else m y) → News h₀ L h' news → Q .next { s with heap := h', toks := tk }) : wpAny M A (exec st env) Q E s :=
  wpAny_mono h1 (fun fl s' ⟨e, o, h', tk, e2, F', N'⟩ => by subst e; subst e2; exact h2 o h' tk F' N') fun _ _ x => x
/-- told is bound -/
def CutTold (h₀ : Heap) (L : Addr) (m : Str → Option Value) (news : List (Addr × Obj)) (s : Shared) (v : Array UInt8) (fl : Flow) (s' : Shared) : Prop :=
  fl = .next ∧ ∃ (t : Tok) (h' : Heap) (tk : Nat), s' = { s with heap := h', toks := tk } ∧ Fr h₀ L h' (fun y => if y = Str.ofString "told" then some (.bytes v t) else m y) ∧ News h₀ L h' news
theorem told_ {v : Array UInt8} {t : Tok} {h' : Heap} {tk : Nat} (F : Fr h₀ L h' (fun y => if y = Str.ofString "told" then some (.bytes v t) else m y)) (N : News h₀ L h' news) :
    CutTold h₀ L m news s v .next { s with heap := h', toks := tk } := ⟨rfl, t, h', tk, rfl, F, N⟩
theorem cut_told {M : Model} {st : Stmt} {Q : Flow → Shared → Prop} {al u v : Array UInt8} (hW : WantOk al v u) (F : Fr h₀ L s.heap m) (N : News h₀ L s.heap news) (h1 : wpAny M A (exec st env) (CutTold h₀ L m news s v) E s)
    (h2 : ∀ t h' tk, Fr h₀ L h' (fun y => if y = Str.ofString "told" then some (.bytes v t) else m y) → News h₀ L h' news → Q .next { s with heap := h', toks := tk }) : wpAny M A (exec st env) Q E s :=
  wpAny_mono h1 (fun fl s' ⟨e, t, h', tk, e2, F', N'⟩ => by subst e; subst e2; exact h2 t h' tk F' N') fun _ _ x => x
/-- the strange sign -/
def StrCut (h₀ : Heap) (L : Addr) (m : Str → Option Value) (news : List (Addr × Obj)) (s : Shared) (al : Array UInt8) (v : Value) (s' : Shared) : Prop :=
  ∃ (sg : Array UInt8) (t : Tok) (h' : Heap) (tk : Nat), v = .bytes sg t ∧ s' = { s with heap := h', toks := tk } ∧ StrangeOk al sg ∧ Fr h₀ L h' m ∧ News h₀ L h' news
theorem strCut_ {al sg : Array UInt8} {t : Tok} {h' : Heap} {tk : Nat} (p : StrangeOk al sg) (F : Fr h₀ L h' m) (N : News h₀ L h' news) :
    StrCut h₀ L m news s al (.bytes sg t) { s with heap := h', toks := tk } := ⟨sg, t, h', tk, rfl, rfl, p, F, N⟩
theorem cut_strange {M : Model} {e : Expr} {Q : Value → Shared → Prop} {kind : Int} {al : Array UInt8} (hA : AlOk kind al) (F : Fr h₀ L s.heap m) (N : News h₀ L s.heap news) (h1 : wpAny M A (eval e env) (StrCut h₀ L m news s al) E s)
    (h2 : ∀ sg t h' tk, StrangeOk al sg → Fr h₀ L h' m → News h₀ L h' news → Q (.bytes sg t) { s with heap := h', toks := tk }) : wpAny M A (eval e env) Q E s :=
  wpAny_mono h1 (fun v s' ⟨sg, t, h', tk, e1, e2, p, F', N'⟩ => by subst e1; subst e2; exact h2 sg t h' tk p F' N') fun _ _ x => x
end
/-! the contracts, told in the law's words -/
theorem c_enc1w {kind span : Int} {al v u : Array UInt8} (hA : AlOk kind al) (hO : OctOk al span v) (hW : WantOk al v u) (hk : kind = 0) (w : World) (tv : Tok) :
    Ctr 8 w 37 (fun _ => True) [.bytes v tv] [] (fun t => .bytes u t) := by
  have h := hO.len
  rw [hW.eq, hA.k0 hk]
  intro mean mg mb dp un gd cn sn sg sc sm a ccd cl outer A₀ base h₀ L m s news Q E hpre B F X N T hd hu hret
  exact c_enc1 w v tv (by omega) mean mg mb dp un gd cn sn sg sc sm a ccd cl outer A₀ base h₀ L m s news Q E trivial B F X N T (by omega) (by omega) hret
theorem c_encw {kind span : Int} {al al' v u : Array UInt8} (hA : AlOk kind al) (hO : OctOk al span v) (hW : WantOk al v u) (he : al' = al) (w : World) (tv ta : Tok) :
    Ctr 8 w 37 (fun _ => True) [.bytes v tv, .bytes al' ta] [] (fun t => .bytes u t) := by
  subst he
  have h := hO.len
  rw [hW.eq]
  intro mean mg mb dp un gd cn sn sg sc sm a ccd cl outer A₀ base h₀ L m s news Q E hpre B F X N T hd hu hret
  exact c_enc w v tv al' ta (by omega) hA.lo hA.hi mean mg mb dp un gd cn sn sg sc sm a ccd cl outer A₀ base h₀ L m s news Q E trivial B F X N T (by omega) (by omega) hret
theorem c_decw {kind : Int} {al al' x v : Array UInt8} (hA : AlOk kind al) (hD : DecTo al x v) (he : al' = al) (w : World) (tv ta : Tok) :
    CtrV 10 w 60 [.bytes x tv, .bytes al' ta] [] True (fun t => .bytes v t) := by
  subst he
  intro mean mg mb dp un gd cn sn sg sc sm a ccd cl outer A₀ base h₀ L m s news Q E XB TB B F X N T hd hu hret hexc
  exact c_dec w x al' tv ta hD.sz hA.lo hA.hi hA.nd hA.no32 mean mg mb dp un gd cn sn sg sc sm a ccd cl outer A₀ base h₀ L m s news Q E XB TB B F X N T hd hu (fun _ => by rw [hD.eq]; exact hret trivial) (fun h => absurd hD.ok h)
theorem c_dec1w {kind : Int} {al x v : Array UInt8} (hA : AlOk kind al) (hD : DecTo al x v) (hk : kind = 0) (w : World) (tv : Tok) :
    CtrV 10 w 60 [.bytes x tv] [] True (fun t => .bytes v t) := by
  have e := hA.k0 hk
  subst e
  intro mean mg mb dp un gd cn sn sg sc sm a ccd cl outer A₀ base h₀ L m s news Q E XB TB B F X N T hd hu hret hexc
  exact c_dec1 w x tv hD.sz mean mg mb dp un gd cn sn sg sc sm a ccd cl outer A₀ base h₀ L m s news Q E XB TB B F X N T hd hu (fun _ => by rw [hD.eq]; exact hret trivial) (fun h => absurd hD.ok h)
end B58
local macro_rules | `(tactic| walk_at "eval ListComp") => `(tactic| (k_here; (show wpAny _ _ (eval (Expr.ListComp (Expr.BinOp (Expr.Call (Expr.Name _ _) [_, _] _ _) Operator.Mod (Expr.Name _ _) _) [⟨_, Expr.Call (Expr.Name _ _) _ _ _, _, _⟩] _ _) _) _ _ _); k_dflt (refine LCg.ListComp_U (F₀ := by k_asm) (by with_unfolding_all rfl) (by decide) (by rfl) (by decide) (by rfl) ?_)))
local macro_rules | `(tactic| walk_at "CompSrc") => `(tactic| (k_here; (show LCg.CompSrc _ _ _ _ _ _ _ (Expr.BinOp (Expr.Call (Expr.Name _ _) [_, _] _ _) Operator.Mod (Expr.Name _ _) _) _ _ _ _ _ _); k_dflt (refine' B58.csrc_oct ?R ?S ?hh ?F ?N ?hr ?c0 ?c1 ?_ ?_; (case R => assumption); (case S => assumption); (case hh => rfl); (case F => k_asm); (case N => k_asm); (case hr => assumption); (case c0 => assumption); (case c1 => assumption)); rotate_left; (intro ys9 D' h' tk' hI9 F' N' o1'; (try simp only [LCg.Off1, and_true] at o1'); (try dsimp only); (try k_fold)); rotate_left; (intro k' t' I' oI' C' oC' D' m' ys' h' tk' E' hlo' hhi' hC' hx' F' N'; (try dsimp only); (try k_fold))))
local macro_rules | `(tactic| walk_at "binaryOp Add ref ref") => `(tactic| (k_here; (with_reducible show wpAny _ _ (binaryOp _ (Value.ref _) (Value.ref _)) _ _ _); k_dflt (refine' kmk_add_ints ?F ?N ?a ?b ?i ?j ?_ ?z; (case F => k_asm); (case N => k_asm); (case a => is_list); (case b => is_list); (case i => exact B58.ints_rep _ _ _); (case j => assumption); (case z => (simp only [List.length_replicate, List.length_map, rangeKs_length, sizeLine_eq]; (try k_fmods); omega))); intro D' ws' h' F' N' l1 hI'; (try k_lt l1); (try k_sweep)))
local macro_rules | `(tactic| walk_at "call type:bytes") => `(tactic| (k_here; (with_reducible show wpAny _ _ (call (Value.type "bytes") [Value.ref _]) _ _ _); k_dflt (refine' B58.bytes_oct2 ?A ?F ?N ?hh ?l ?i ?a ?b ?c ?d ?e ?f ?_; (case A => assumption); (case F => k_asm); (case N => k_asm); (case hh => rfl); (case i => assumption); (case l => is_list); (case a => exact fmod_lo _ (by decide)); (case b => exact Int.lt_add_one_iff.mp (fmod_hi _ (by decide))); (case c => assumption); (case d => assumption); (case e => assumption); (case f => assumption); k_whole); intro v9 h' _ _ hOk9 F' N'; (have hOk1 := hOk9.len); (try k_sweep)))
local macro_rules | `(tactic| walk_at "exec If") => `(tactic| (k_here; (show wpAny _ _ (exec (Stmt.If (Expr.Compare (Expr.Name _ _) _ [Expr.Constant (Const.int 0) _ _] _) _ _ _) _) _ _ _); (fail_if_success (show wpAny _ _ _ (B58.CutTB _ _ _ _ _ _ _) _ _)); k_dflt (refine' B58.cut_tb ?W ?F ?N ?_ ?_; (case W => assumption); (case F => k_asm); (case N => k_asm); rotate_left; intro t9 t9' h9 tk9 F9 N9; (try dsimp only); (try k_fold); rotate_left)))
local macro_rules | `(tactic| walk_at "CutTB") => `(tactic| (refine' B58.tb_ ?F ?N; (case F => k_asm); (case N => k_asm)))
local macro_rules | `(tactic| walk_at "exec If") => `(tactic| (k_here; (show wpAny _ _ (exec (Stmt.If (Expr.Compare (Expr.Name _ _) _ [Expr.Constant (Const.int 128) _ _] _) _ _ _) _) _ _ _); (fail_if_success (show wpAny _ _ _ (B58.CutSaid _ _ _ _ _) _ _)); k_dflt (refine' B58.cut_said ?F ?N ?_ ?_; (case F => k_asm); (case N => k_asm); rotate_left; intro o9 h9 tk9 F9 N9; (try dsimp only); (try k_fold); rotate_left)))
local macro_rules | `(tactic| walk_at "CutSaid") => `(tactic| first | (refine' B58.said1_ ?F ?N; (case F => k_asm); (case N => k_asm)) | (refine' B58.said0_ ?F ?N; (case F => k_asm); (case N => k_asm)))
local macro_rules | `(tactic| walk_at "exec If") => `(tactic| (k_here; (show wpAny _ _ (exec (Stmt.If (Expr.Compare (Expr.Name _ _) _ [Expr.Constant (Const.int 2) _ _] _) _ _ _) _) _ _ _); (fail_if_success (show wpAny _ _ _ (B58.CutTold _ _ _ _ _ _) _ _)); k_dflt (refine' B58.cut_told ?W ?F ?N ?_ ?_; (case W => assumption); (case F => k_asm); (case N => k_asm); rotate_left; intro t9 h9 tk9 F9 N9; (try dsimp only); (try k_fold); rotate_left)))
local macro_rules | `(tactic| walk_at "CutTold") => `(tactic| (refine' B58.told_ ?F ?N; (case F => k_asm); (case N => k_asm)))
local macro_rules | `(tactic| walk_at "eval IfExp") => `(tactic| (k_here; (show wpAny _ _ (eval (Expr.IfExp _ (Expr.Subscript (Expr.Tuple _ _ _) _ _) _ _) _) _ _ _); (fail_if_success (show wpAny _ _ _ (B58.StrCut _ _ _ _ _ _) _ _)); k_dflt (refine' B58.cut_strange ?A ?F ?N ?_ ?_; (case A => assumption); (case F => k_asm); (case N => k_asm); rotate_left; intro sg9 t9 h9 tk9 hS9 F9 N9; (have hS1 := hS9.sz); (try dsimp only); (try k_fold); rotate_left)))
-- QL6
namespace B58
open PySem PySem.W PyProof.Rows PySem.Calls PySem.Spec
section
variable {prog : Program} {w : World} {A : Around} {E : Value → Shared → Prop} {s : Shared} {b : Array UInt8} {t u : Tok}
theorem meta_bytes : typeOf (.type "bytes") = pure (.type "type") := by first | rfl | kernel_rfl | (show builtinType _ = _; rw [builtinType_eq_fast]; kernel_rfl)
theorem sub_bytes : isSubtype (.type "bytes") (.type "bytes") = pure true := by rw [isSubtype_type]; kernel_rfl
theorem isi_bytes {Q : Value → Shared → Prop} (h : Q (.bool true) s) : wpAny (model prog w) A (call (.builtin "isinstance") [.bytes b t, .type "bytes"]) Q E s :=
  call_isinstance_yes (typeIs_bytes s b t) meta_bytes sub_bytes h
theorem ne_same {Q : Value → Shared → Prop} (h : Q (.bool false) s) : wpAny (model prog w) A (compareOp .NotEq (.bytes b t) (.bytes b u)) Q E s :=
  ne_bytes (by rw [bne_self_eq_false]; exact h)
end
end B58
local macro_rules | `(tactic| walk_at "call builtin:isinstance") => `(tactic| (k_here; (show wpAny _ _ (call _ [Value.bytes _ _, Value.type "bytes"]) _ _ _); (refine B58.isi_bytes ?_)))
local macro_rules | `(tactic| walk_at "compareOp NotEq bytes bytes") => `(tactic| refine B58.ne_same ?_)
-- QL7
namespace B58
open PySem PySem.W PyProof.Rows PySem.Calls PySem.Spec
/-- the text of octets -/
def txt (b : Array UInt8) : Str := ⟨(octs b).toArray⟩
theorem txt_join (b : Array UInt8) : PySem.Txt.join (Str.ofString "") ((KBw.bInts b).map fun k => (⟨#[k.toNat]⟩ : Str)) = txt b := by
  show Builtin.Str.glued (Str.ofString "") _ = _
  rw [StrLaws.glued_eq_join]
  have e : ((KBw.bInts b).map fun k => (⟨#[k.toNat]⟩ : Str)) = (octs b).map fun k => (⟨#[k]⟩ : Str) := by
    rw [bInts_octs, List.map_map]; rfl
  rw [e]
  exact join_ones (octs b)
/-- a blank -/
def BlankI (r : Int) : Prop := 9 ≤ r ∧ r ≤ 13 ∨ r = 32
def EltB (h₀ : Heap) (L : Addr) (m : Str → Option Value) (s : Shared) (led : List (Addr × Obj)) (y : Value) (s' : Shared) : Prop :=
  ∃ r h' tk t, s' = { s with heap := h', toks := tk } ∧ y = .int r t ∧ BlankI r ∧ Fr h₀ L h' m ∧ News h₀ L h' led
section
variable {prog : Program} {w : World} {A : Around} {E : Value → Shared → Prop} {s : Shared} {h₀ : Heap} {L D : Addr} {m : Str → Option Value} {env : Env} {elt : Expr} {x : Str} {scope : Scope} {cl : List (Str × Addr)} {news : List (Addr × Obj)}
theorem eltB_ {led : List (Addr × Obj)} {r : Int} {t : Tok} {h' : Heap} {tk : Nat} (e : BlankI r) (F : Fr h₀ L h' m) (N : News h₀ L h' led) : EltB h₀ L m s led (.int r t) { s with heap := h', toks := tk } :=
  ⟨r, h', tk, t, rfl, rfl, e, F, N⟩
theorem blank_rest {S : List (Addr × Obj) → Prop} {Fin : List Value → List (Addr × Obj) → Prop} {n : Nat} {ks : List Int} {P : Nat → Value → Prop} (hks : ks.length = n) (hP : ∀ i v, i < n → P i v → ∃ k t, ks[i]? = some k ∧ v = .int k t) (hS : S news)
    (turn : ∀ k t I oI C oC D m₂ ys h tk (E' : Value → Shared → Prop), k ∈ ks → LCg.NsObj oC m₂ → m₂ x = some (.int k t) → Fr h₀ L h m → News h₀ L h ((I, oI) :: (C, oC) :: (D, LCg.lst ys) :: news) →
      wpAny (model prog w) A (eval elt (compEnvC scope cl C env)) (EltB h₀ L m { s with heap := h, toks := tk } ((I, oI) :: (C, oC) :: (D, LCg.lst ys) :: news)) E' { s with heap := h, toks := tk })
    (fin : ∀ ys ns, IntsAre ys ns → ns.length = n → (∀ r ∈ ns, BlankI r) → Fin ys news) : LCg.CompRest prog w A h₀ L m env elt x scope cl s S P Fin n 0 [] news := by
  have key : ∀ (j i : Nat) (ys : List Value) (ns : List Int), i + j = n → IntsAre ys ns → ns.length = i → (∀ r ∈ ns, BlankI r) → LCg.CompRest prog w A h₀ L m env elt x scope cl s S P Fin j i ys news := by
    intro j
    induction j with
    | zero =>
      intro i ys ns hi hy hl hb
      exact LCg.CompRest.zero (fin ys ns hy (by omega) hb)
    | succ j ih =>
      intro i ys ns hi hy hl hb
      refine LCg.CompRest.succ ?_
      intro v I oI C oC D m₂ h tk E' hv hC hx F N off ne
      obtain ⟨k, t, hk, hv'⟩ := hP i v (by omega) hv
      rw [hv'] at hx
      refine wpAny_mono (turn k t I oI C oC D m₂ ys h tk E' (List.mem_of_getElem? hk) hC hx F N) (fun y s₂ hq => ?_) fun _ _ e => e
      obtain ⟨r, h', tk', t', e, hy', hr, F', N'⟩ := hq
      refine ⟨h', tk', news, e, F', N', off, hS, ?_⟩
      rw [hy']
      refine ih (i + 1) _ (ns ++ [r]) (by omega) (IntsAre.append hy (.cons r t' .nil)) (by rw [List.length_append, List.length_singleton, hl]) ?_
      intro q hq
      rcases List.mem_append.mp hq with hq | hq
      · exact hb q hq
      · rw [List.mem_singleton.mp hq]; exact hr
  exact key n 0 [] [] (by omega) .nil rfl (fun r hr => nomatch hr)
theorem csrc_blank {Q : Flow → Shared → Prop} {y : Str} {r : Addr} {c : Int} {t u v : Tok} {s₁ : Shared} (hh : A.handled = none) (F : Fr h₀ L s₁.heap m) (N : News h₀ L s₁.heap news) (hr : IsRange s₁.heap r 0 c 1 t u v) (hc0 : 0 ≤ c) (hc : c ≤ 2)
    (turn : ∀ (k : Int) t I oI C oC D m₂ ys h tk (E' : Value → Shared → Prop), 0 ≤ k → k < 2 → LCg.NsObj oC m₂ → m₂ x = some (.int k t) → Fr h₀ L h m → News h₀ L h ((I, oI) :: (C, oC) :: (D, LCg.lst ys) :: news) →
      wpAny (model prog w) A (eval elt (compEnvC scope cl C env)) (EltB h₀ L m { s₁ with heap := h, toks := tk } ((I, oI) :: (C, oC) :: (D, LCg.lst ys) :: news)) E' { s₁ with heap := h, toks := tk })
    (fin : ∀ ys ns D h tk, IntsAre ys ns → ns.length ≤ 2 → (∀ r ∈ ns, BlankI r) → Fr h₀ L h (fun z => if z = y then some (.ref D) else m z) → News h₀ L h ((D, LCg.lst ys) :: news) → LCg.Off1 D news → Q .next { s₁ with heap := h, toks := tk }) :
    LCg.CompSrc prog w A h₀ L m env elt x scope cl (fun s₂ => LCg.FinA h₀ L m s₂ y Q) (.ref r) s₁ := by
  refine LCg.CompSrc.range (n := (c - 0).toNat) hh F N hr (small_one (by omega) (by omega) (by omega) (by omega)) (rangeSize_nat _ _) (by rw [sizeLine_eq]; omega) fun g' => ?_
  refine blank_rest (ks := rangeKs 0 (c - 0).toNat) (rangeKs_length _ _) (fun i v hi hv => ?_) trivial (fun k t I oI C oC D m₂ ys h tk E' hk hC hx F N => ?_) ?_
  · obtain ⟨t, e⟩ := hv
    generalize (c - 0).toNat = n at *
    exact ⟨0 + (i : Int), t, by simp [rangeKs, hi], e⟩
  · have := mem_rangeKs hk
    exact turn k t I oI C oC D m₂ ys h tk E' this.1 (by omega) hC hx F N
  · intro ys ns hi hl hb D h tk F' N' o1
    exact fin ys ns D h tk hi (by omega) hb F' N' o1
theorem bytes_blank {Q : Value → Shared → Prop} {vs : List Value} {ns : List Int} (F : Fr h₀ L s.heap m) (N : News h₀ L s.heap news) (hh : A.handled = none) (hl : s.heap.IsList D vs.toArray)
    (hi : IntsAre vs ns) (hn : ns.length ≤ 2) (hb : ∀ r ∈ ns, BlankI r)
    (h : ∀ bs h' t' k, BlankOk bs → Fr h₀ L h' m → News h₀ L h' news → Q (.bytes bs t') { s with heap := h', toks := k }) : wpAny (model prog w) A (call (.type "bytes") [.ref D]) Q E s := by
  have hin : ∀ n ∈ ns, 0 ≤ n ∧ n < 256 := fun n hm => by
    have := hb n hm
    unfold BlankI at this
    omega
  refine KBa.make_K F N hh hl hi hin (by omega) fun h' t' k F' N' _ => h _ h' t' k ⟨by rw [byteArr_size]; exact hn, fun x hx => ?_⟩ F' N'
  rw [octs_byteArr _ hin] at hx
  obtain ⟨n, hm, rfl⟩ := List.mem_map.mp hx
  have := hb n hm
  unfold BlankI at this
  omega
theorem join_txt {Q : Value → Shared → Prop} {b : Array UInt8} {ys : List Value} {t : Tok} (hl : s.heap.IsList D ys.toArray) (hc : CarriedAll ys ((KBw.bInts b).map fun k => PyData.str ⟨#[k.toNat]⟩)) (hn : b.size ≤ 1048576)
    (h : ∀ t' k, Q (.str (txt b) t') { s with toks := k }) : wpAny (model prog w) A (call (.builtin "str.join") [.str (Str.ofString "") t, .ref D]) Q E s :=
  KT.join_1 (g := fun k : Int => (⟨#[k.toNat]⟩ : Str)) hl hc (fun _ _ => rfl) (by rw [KBw.ints_length]; exact hn) fun t' k _ => by rw [txt_join]; exact h t' k
end
end B58
local macro_rules | `(tactic| walk_at "eval ListComp") => `(tactic| (k_here; (show wpAny _ _ (eval (Expr.ListComp (Expr.Call (Expr.Name _ _) [Expr.Name _ _] [] _) [⟨_, _, _, _⟩] _ _) _) _ _ _); k_dflt (refine B58.ListComp_B (F₀ := by k_asm) (by with_unfolding_all rfl) (by decide) (by rfl) (by decide) (by rfl) ?_)))
local macro_rules | `(tactic| walk_at "BSrc") => `(tactic| (k_here; k_dflt (refine' B58.bsrc_strs (fun k => (⟨#[k.toNat]⟩ : PySem.Str)) ?hh ?F ?N ?z ?_ ?_; (case hh => rfl); (case F => k_asm); (case N => k_asm); (case z => (rw [sizeLine_eq]; (try simp only [Array.size_append]); omega))); rotate_left; (intro ys9 D' h' tk' hT9 _ F' N' o1'; (try simp only [LCg.Off1, and_true] at o1'); (try dsimp only); (try k_fold)); rotate_left; (intro k' t' I' oI' C' oC' D' m' ys' h' tk' E' hlo' hhi' hC' hx' F' N'; (try dsimp only); (try k_fold))))
local macro_rules | `(tactic| walk_at "call builtin:str.join") => `(tactic| (k_here; (try dsimp only [List.cons_append, List.nil_append]); (with_reducible show wpAny _ _ (call (Value.builtin "str.join") [Value.str _ _, Value.ref _]) _ _ _); k_dflt (refine' B58.join_txt ?l ?c ?z ?_; (case l => first | assumption | is_list | exact News.isList (by k_asm) (by k_mem)); (case c => assumption); (case z => ((try simp only [Array.size_append]); omega)); intro _ _)))
local macro_rules | `(tactic| walk_at "exec Assign cons ListComp") => `(tactic| (k_here; (show wpAny _ _ (exec (Stmt.Assign _ (Expr.ListComp (Expr.Subscript (Expr.Tuple _ _ _) _ _) [⟨_, _, _, _⟩] _ _) _) _) _ _ _); k_dflt (refine LCg.Assign_ListComp_U (F₀ := by k_asm) (by rfl) (by with_unfolding_all rfl) (by with_unfolding_all rfl) (by decide) (by rfl) (by decide) (by rfl) (by rfl) (by rfl) ?_)))
local macro_rules | `(tactic| walk_at "CompSrc") => `(tactic| (k_here; (show LCg.CompSrc _ _ _ _ _ _ _ (Expr.Subscript (Expr.Tuple _ _ _) _ _) _ _ _ _ _ _); k_dflt (refine' B58.csrc_blank ?hh ?F ?N ?hr ?c0 ?c1 ?_ ?_; (case hh => rfl); (case F => k_asm); (case N => k_asm); (case hr => assumption); (case c0 => exact fmod_lo _ (by decide)); (case c1 => exact Int.lt_add_one_iff.mp (fmod_hi _ (by decide)))); rotate_left; (intro ys9 ns9 D' h' tk' hI9 hI8 hI7 F' N' o1'; (try simp only [LCg.Off1, and_true] at o1'); (try dsimp only); (try k_fold)); rotate_left; (intro k' t' I' oI' C' oC' D' m' ys' h' tk' E' hlo' hhi' hC' hx' F' N'; (try dsimp only); (try k_fold))))
local macro_rules | `(tactic| walk_at "EltB") => `(tactic| (refine' B58.eltB_ ?e ?F (B58.news_of ?N ?S); (case F => k_asm); (case N => k_asm); (case S => kcf_all); (case e => first | exact Or.inr rfl | exact Or.inl ⟨by decide, by decide⟩)))
local macro_rules | `(tactic| walk_at "call type:bytes") => `(tactic| (k_here; (with_reducible show wpAny _ _ (call (Value.type "bytes") [Value.ref _]) _ _ _); k_dflt (refine' B58.bytes_blank ?F ?N ?hh ?l ?i ?z ?b ?_; (case F => k_asm); (case N => k_asm); (case hh => rfl); (case l => is_list); (case i => assumption); (case z => assumption); (case b => assumption); k_whole); intro bs9 h' _ _ hB9 F' N'; (have hB1 := hB9.sz); (try k_sweep)))
-- Lr
namespace B58
open PySem PySem.W PyProof.Rows PySem.Calls PySem.Spec
/-- an element's end: an int of which P is known -/
def EltP (P : Int → Prop) (h₀ : Heap) (L : Addr) (m : Str → Option Value) (s : Shared) (led : List (Addr × Obj)) (y : Value) (s' : Shared) : Prop :=
  ∃ r h' tk t, s' = { s with heap := h', toks := tk } ∧ y = .int r t ∧ P r ∧ Fr h₀ L h' m ∧ News h₀ L h' led
section
variable {prog : Program} {w : World} {A : Around} {E : Value → Shared → Prop} {s : Shared} {h₀ : Heap} {L D : Addr} {m : Str → Option Value} {env : Env} {elt : Expr} {x : Str} {scope : Scope} {cl : List (Str × Addr)} {news : List (Addr × Obj)} {PI : Int → Prop}
theorem eltP_ {led : List (Addr × Obj)} {r : Int} {t : Tok} {h' : Heap} {tk : Nat} (e : PI r) (F : Fr h₀ L h' m) (N : News h₀ L h' led) : EltP PI h₀ L m s led (.int r t) { s with heap := h', toks := tk } :=
  ⟨r, h', tk, t, rfl, rfl, e, F, N⟩
theorem rel_rest (PI : Int → Prop) {S : List (Addr × Obj) → Prop} {Fin : List Value → List (Addr × Obj) → Prop} {n : Nat} {ks : List Int} {P : Nat → Value → Prop} (hks : ks.length = n) (hP : ∀ i v, i < n → P i v → ∃ k t, ks[i]? = some k ∧ v = .int k t) (hS : S news)
    (turn : ∀ k t I oI C oC D m₂ ys h tk (E' : Value → Shared → Prop), k ∈ ks → LCg.NsObj oC m₂ → m₂ x = some (.int k t) → Fr h₀ L h m → News h₀ L h ((I, oI) :: (C, oC) :: (D, LCg.lst ys) :: news) →
      wpAny (model prog w) A (eval elt (compEnvC scope cl C env)) (EltP PI h₀ L m { s with heap := h, toks := tk } ((I, oI) :: (C, oC) :: (D, LCg.lst ys) :: news)) E' { s with heap := h, toks := tk })
    (fin : ∀ ys ns, IntsAre ys ns → ns.length = n → (∀ r ∈ ns, PI r) → Fin ys news) : LCg.CompRest prog w A h₀ L m env elt x scope cl s S P Fin n 0 [] news := by
  have key : ∀ (j i : Nat) (ys : List Value) (ns : List Int), i + j = n → IntsAre ys ns → ns.length = i → (∀ r ∈ ns, PI r) → LCg.CompRest prog w A h₀ L m env elt x scope cl s S P Fin j i ys news := by
    intro j
    induction j with
    | zero =>
      intro i ys ns hi hy hl hb
      exact LCg.CompRest.zero (fin ys ns hy (by omega) hb)
    | succ j ih =>
      intro i ys ns hi hy hl hb
      refine LCg.CompRest.succ ?_
      intro v I oI C oC D m₂ h tk E' hv hC hx F N off ne
      obtain ⟨k, t, hk, hv'⟩ := hP i v (by omega) hv
      rw [hv'] at hx
      refine wpAny_mono (turn k t I oI C oC D m₂ ys h tk E' (List.mem_of_getElem? hk) hC hx F N) (fun y s₂ hq => ?_) fun _ _ e => e
      obtain ⟨r, h', tk', t', e, hy', hr, F', N'⟩ := hq
      refine ⟨h', tk', news, e, F', N', off, hS, ?_⟩
      rw [hy']
      refine ih (i + 1) _ (ns ++ [r]) (by omega) (IntsAre.append hy (.cons r t' .nil)) (by rw [List.length_append, List.length_singleton, hl]) ?_
      intro q hq
      rcases List.mem_append.mp hq with hq | hq
      · exact hb q hq
      · rw [List.mem_singleton.mp hq]; exact hr
  exact key n 0 [] [] (by omega) .nil rfl (fun r hr => nomatch hr)
/-- a range as the source -/
theorem csrc_rel (PI : Int → Prop) (N0 : Int) {Q : Value → Shared → Prop} {r : Addr} {c : Int} {t u v : Tok} {s₁ : Shared} (hh : A.handled = none) (F : Fr h₀ L s₁.heap m) (N : News h₀ L s₁.heap news) (hr : IsRange s₁.heap r 0 c 1 t u v) (hc0 : 0 ≤ c) (hc : c < N0) (hN : N0 ≤ 100)
    (turn : ∀ (k : Int) t I oI C oC D m₂ ys h tk (E' : Value → Shared → Prop), 0 ≤ k → k < 100 → k < c → LCg.NsObj oC m₂ → m₂ x = some (.int k t) → Fr h₀ L h m → News h₀ L h ((I, oI) :: (C, oC) :: (D, LCg.lst ys) :: news) →
      wpAny (model prog w) A (eval elt (compEnvC scope cl C env)) (EltP PI h₀ L m { s₁ with heap := h, toks := tk } ((I, oI) :: (C, oC) :: (D, LCg.lst ys) :: news)) E' { s₁ with heap := h, toks := tk })
    (fin : ∀ ys ns D h tk, IntsAre ys ns → (ns.length : Int) < N0 → (∀ r ∈ ns, PI r) → Fr h₀ L h m → News h₀ L h ((D, LCg.lst ys) :: news) → LCg.Off1 D news → Q (.ref D) { s₁ with heap := h, toks := tk }) :
    LCg.CompSrc prog w A h₀ L m env elt x scope cl (fun s₂ => LCg.FinE h₀ L m s₂ Q) (.ref r) s₁ := by
  refine LCg.CompSrc.range (n := (c - 0).toNat) hh F N hr (small_one (by omega) (by omega) (by omega) (by omega)) (rangeSize_nat _ _) (by rw [sizeLine_eq]; omega) fun g' => ?_
  refine rel_rest PI (ks := rangeKs 0 (c - 0).toNat) (rangeKs_length _ _) (fun i v hi hv => ?_) trivial (fun k t I oI C oC D m₂ ys h tk E' hk hC hx F N => ?_) ?_
  · obtain ⟨t, e⟩ := hv
    generalize (c - 0).toNat = n at *
    exact ⟨0 + (i : Int), t, by simp [rangeKs, hi], e⟩
  · have := mem_rangeKs hk
    exact turn k t I oI C oC D m₂ ys h tk E' this.1 (by omega) (by omega) hC hx F N
  · intro ys ns hi hl hb D h tk F' N' o1
    exact fin ys ns D h tk hi (by omega) hb F' N' o1
end
def AlI (al : Array UInt8) (r : Int) : Prop := 0 ≤ r ∧ r.toNat ∈ octs al
theorem alI_get {al : Array UInt8} {i : Int} (h0 : 0 ≤ i) (h1 : i < al.size) : AlI al (((octs al).getD i.toNat 0 : Nat) : Int) := by
  refine ⟨by omega, ?_⟩
  rw [Int.toNat_natCast, List.getD_eq_getElem?_getD, List.getElem?_eq_getElem (by rw [octs_length]; omega)]
  exact List.getElem_mem _
theorem blankI_get {i : Int} (h0 : 0 ≤ i) (h1 : i < 6) : BlankI (((octs #[32, 9, 10, 13, 11, 12]).getD i.toNat 0 : Nat) : Int) := by
  have h : ∀ k : Fin 6, BlankI (((octs #[32, 9, 10, 13, 11, 12]).getD k.val 0 : Nat) : Int) := by unfold BlankI; decide +kernel
  exact h ⟨i.toNat, by omega⟩
/-- an octet that is no blank of texts alone -/
def GoodI (n : Int) : Prop := 0 ≤ n ∧ n < 256 ∧ ¬ (28 ≤ n ∧ n ≤ 31) ∧ n ≠ 133 ∧ n ≠ 160
theorem strangeI_get {i : Int} (h0 : 0 ≤ i) (h1 : i < 12) : GoodI (((octs #[0, 48, 79, 73, 108, 33, 43, 47, 126, 127, 233, 255]).getD i.toNat 0 : Nat) : Int) := by
  have h : ∀ k : Fin 12, GoodI (((octs #[0, 48, 79, 73, 108, 33, 43, 47, 126, 127, 233, 255]).getD k.val 0 : Nat) : Int) := by unfold GoodI; decide +kernel
  exact h ⟨i.toNat, by omega⟩
theorem BlankI.good {n : Int} (h : BlankI n) : GoodI n := by unfold BlankI at h; unfold GoodI; omega
theorem AlI.good {kind : Int} {al : Array UInt8} (hA : AlOk kind al) {n : Int} (h : AlI al n) : GoodI n := by
  have h1 := hA.vis _ h.2
  have h2 := octs_lt al _ h.2
  have h3 := h.1
  unfold GoodI
  omega
structure RowOk (ns : List Int) : Prop where
  len : ns.length ≤ 35
  good : ∀ n ∈ ns, GoodI n
end B58
-- QT14
section
namespace B58
open PySem PySem.W PyProof.Rows
theorem row_ok1 {rs ns : List Int} (h1 : rs.length ≤ 32) (g1 : ∀ r ∈ rs, GoodI r) (h2 : (ns.length : Int) < 3) (g2 : ∀ r ∈ ns, BlankI r) : RowOk (rs ++ ns) := by
  refine ⟨by rw [List.length_append]; omega, fun r hr => ?_⟩
  rcases List.mem_append.mp hr with h | h
  · exact g1 r h
  · exact (g2 r h).good
theorem row_ok2 {rs ns : List Int} {p : Nat} {x : Int} (h1 : rs.length ≤ 32) (g1 : ∀ r ∈ rs, GoodI r) (hx : GoodI x) (h2 : (ns.length : Int) < 3) (g2 : ∀ r ∈ ns, BlankI r) : RowOk (rs.take p ++ [x] ++ rs.drop p ++ ns) := by
  have e : (rs.take p).length + (rs.drop p).length = rs.length := by rw [← List.length_append, List.take_append_drop]
  refine ⟨by simp only [List.length_append, List.length_cons, List.length_nil]; omega, fun r hr => ?_⟩
  rcases List.mem_append.mp hr with h | h
  · rcases List.mem_append.mp h with h | h
    · rcases List.mem_append.mp h with h | h
      · exact g1 r (List.mem_of_mem_take h)
      · rw [List.mem_singleton.mp h]; exact hx
    · exact g1 r (List.mem_of_mem_drop h)
  · exact (g2 r h).good
theorem strangeI_get2 {i : Int} (h0 : 0 ≤ i) (h1 : i < 12) : GoodI (((([0, 48, 79, 73, 108, 33, 43, 47, 126, 127, 233, 255] : List UInt8).getD i.toNat 0).toNat : Nat) : Int) := by
  have h : ∀ k : Fin 12, GoodI (((([0, 48, 79, 73, 108, 33, 43, 47, 126, 127, 233, 255] : List UInt8).getD k.val 0).toNat : Nat) : Int) := by unfold GoodI; decide +kernel
  exact h ⟨i.toNat, by omega⟩
theorem blankI_get2 {i : Int} (h0 : 0 ≤ i) (h1 : i < 6) : BlankI (((([32, 9, 10, 13, 11, 12] : List UInt8).getD i.toNat 0).toNat : Nat) : Int) := by
  have h : ∀ k : Fin 6, BlankI (((([32, 9, 10, 13, 11, 12] : List UInt8).getD k.val 0).toNat : Nat) : Int) := by unfold BlankI; decide +kernel
  exact h ⟨i.toNat, by omega⟩
section
variable {prog : Program} {w : World} {A : Around} {E : Value → Shared → Prop} {s : Shared} {h₀ : Heap} {L D1 D2 : Addr} {m : Str → Option Value} {news : List (Addr × Obj)} {env : Env} {elt : Expr} {x : Str} {scope : Scope} {cl : List (Str × Addr)} {Q : Value → Shared → Prop} {vs us : List Value}
theorem csrc_al {kind : Int} {al : Array UInt8} (hA : AlOk kind al) {r : Addr} {c : Int} {t u v : Tok} {s₁ : Shared} (hh : A.handled = none) (F : Fr h₀ L s₁.heap m) (N : News h₀ L s₁.heap news) (hr : IsRange s₁.heap r 0 c 1 t u v) (hc0 : 0 ≤ c) (hc : c < 30)
    (turn : ∀ (k : Int) t I oI C oC D m₂ ys h tk (E' : Value → Shared → Prop), 0 ≤ k → k < 100 → k < c → LCg.NsObj oC m₂ → m₂ x = some (.int k t) → Fr h₀ L h m → News h₀ L h ((I, oI) :: (C, oC) :: (D, LCg.lst ys) :: news) →
      wpAny (model prog w) A (eval elt (compEnvC scope cl C env)) (EltP (AlI al) h₀ L m { s₁ with heap := h, toks := tk } ((I, oI) :: (C, oC) :: (D, LCg.lst ys) :: news)) E' { s₁ with heap := h, toks := tk })
    (fin : ∀ ys ns D h tk, IntsAre ys ns → (ns.length : Int) < 30 → (∀ r ∈ ns, AlI al r) → Fr h₀ L h m → News h₀ L h ((D, LCg.lst ys) :: news) → LCg.Off1 D news → Q (.ref D) { s₁ with heap := h, toks := tk }) :
    LCg.CompSrc prog w A h₀ L m env elt x scope cl (fun s₂ => LCg.FinE h₀ L m s₂ Q) (.ref r) s₁ := csrc_rel (AlI al) 30 hh F N hr hc0 hc (by decide) turn fin
theorem add_row1 {kind : Int} {al : Array UInt8} (hA : AlOk kind al) {k : Int} {ns : List Int} (hk0 : 0 ≤ k) (hk : k < 4) (F : Fr h₀ L s.heap m) (N : News h₀ L s.heap news) (ha : s.heap.IsList D1 vs.toArray) (hb : s.heap.IsList D2 us.toArray)
    (hi : IntsAre vs (List.replicate k.toNat (((octs al).getD (Int.toNat 0) 0 : Nat) : Int))) (hj : IntsAre us ns) (h8 : (ns.length : Int) < 30) (h7 : ∀ r ∈ ns, AlI al r)
    (h : ∀ D ws rs h', Fr h₀ L h' m → News h₀ L h' ((D, listOf (List.toArray ws) 0) :: news) → (∀ p ∈ news, p.1 < D) → IntsAre ws rs → rs.length ≤ 32 → (∀ r ∈ rs, GoodI r) → Q (.ref D) { s with heap := h' }) :
    wpAny (model prog w) A (binaryOp .Add (.ref D1) (.ref D2)) Q E s := by
  refine kmk_add_ints F N ha hb hi hj (fun D ws h' F' N' l1 hI => h D ws _ h' F' N' l1 hI ?_ ?_) ?_
  · rw [List.length_append, List.length_replicate]; omega
  · intro r hr
    rcases List.mem_append.mp hr with hr | hr
    · rw [(List.mem_replicate.mp hr).2]
      exact (alI_get (i := 0) (by omega) (by have := hA.lo; omega)).good hA
    · exact (h7 r hr).good hA
  · rw [List.length_replicate, sizeLine_eq]; omega
theorem len_row {ns : List Int} {n : Nat} {D : Addr} (N : News h₀ L s.heap news) (hm : (D, listOf vs.toArray n) ∈ news) (hi : IntsAre vs ns) (hn : ns.length ≤ 100) (h : ∀ t k, Q (.int (ns.length : Int) t) { s with toks := k }) : wpAny (model prog w) A (call (.builtin "len") [.ref D]) Q E s :=
  KM.len_K N hm (by rw [List.size_toArray]; exact hi.length) (by omega) (h _ _)
end
/-- what _law_text hands back -/
noncomputable abbrev RetRow (h₀ : Heap) (L : Addr) (m : Str → Option Value) (news : List (Addr × Obj)) (s : Shared) (Q : Value → Shared → Prop) : Prop :=
  ∀ (D : Addr) (vs : List Value) (ns : List Int) (c : Nat) (h' : Heap) (tk' : Nat), RowOk ns → Fr h₀ L h' m → News h₀ L h' ((D, listOf vs.toArray c) :: news) → IntsAre vs ns → (∀ p ∈ news, @Ne Nat p.1 D) → Q (.ref D) { s with heap := h', toks := tk' }
theorem ret_row {h₀ h' : Heap} {L D : Addr} {m : Str → Option Value} {news led : List (Addr × Obj)} {s : Shared} {Q : Value → Shared → Prop} {ns : List Int} {vs : List Value} {c : Nat} (hret : RetRow h₀ L m news s Q) {tk' : Nat}
    (hr : RowOk ns) (hi : IntsAre vs ns) (F : Fr h₀ L h' m) (N : News h₀ L h' led) (hm : (D, listOf vs.toArray c) ∈ led) (N9 : News h₀ L h' news) (hne : ∀ p ∈ news, p.1 ≠ D) : Q (.ref D) { s with heap := h', toks := tk' } :=
  hret D vs ns c h' tk' hr F (fun p hp => by
    rcases List.mem_cons.mp hp with rfl | hp
    · exact N _ hm
    · exact N9 p hp) hi hne
end B58
local macro_rules | `(tactic| walk_at "call ref") => `(tactic| (k_here; (show wpAny _ _ (call (Value.ref 67) _ _) _ _ _); k_dflt (refine' B58.CtrX.use (B58.c_draw _ _ _ _ _ _ ?h1 ?h2 ?h3) ?k0 ?k1 ?k2 ?k3 ?k4 ?k5 ?k6 ?k7 ?_; (case k0 => exact ⟨by is_list, by assumption⟩); (case k1 => k_asm); (case k2 => k_asm); (case k3 => k_asm); (case k4 => k_asm); (case k5 => k_asm); (case h1 => walk_at "ints"); (case h2 => walk_at "ints"); (case h3 => walk_at "ints"); (case k6 => ktr_room); (case k7 => ktr_units); intro t9 h9 tk9 K9 F9 N9; clear K9; (try dsimp only); (try k_fold))))
local macro_rules | `(tactic| walk_at "EltP") => `(tactic| (refine' B58.eltP_ ?e ?F (B58.news_of ?N ?S); (case F => k_asm); (case N => k_asm); (case S => kcf_all); (case e => first | exact B58.blankI_get2 (fmod_lo _ (by decide)) (fmod_hi _ (by decide)) | exact B58.blankI_get (fmod_lo _ (by decide)) (fmod_hi _ (by decide)) | exact B58.alI_get (fmod_lo _ (by omega)) (fmod_hi _ (by omega)))))
local macro_rules | `(tactic| walk_at "eval ListComp") => `(tactic| (k_here; (show wpAny _ _ (eval (Expr.ListComp (Expr.Subscript (Expr.Name _ _) (Expr.BinOp _ Operator.Mod _ _) _) [⟨_, Expr.Call (Expr.Name _ _) _ _ _, _, _⟩] _ _) _) _ _ _); k_dflt (refine LCg.ListComp_U (F₀ := by k_asm) (by with_unfolding_all rfl) (by decide) (by rfl) (by decide) (by rfl) ?_)))
local macro_rules | `(tactic| walk_at "CompSrc") => `(tactic| (k_here; (show LCg.CompSrc _ _ _ _ _ _ _ (Expr.Subscript (Expr.Name _ _) (Expr.BinOp _ Operator.Mod (Expr.Constant _ _ _) _) _) _ _ _ _ _ _); k_dflt (refine' B58.csrc_rel B58.BlankI 3 ?hh ?F ?N ?hr ?c0 ?c1 ?c2 ?_ ?_; (case hh => rfl); (case F => k_asm); (case N => k_asm); (case hr => assumption); (case c0 => exact fmod_lo _ (by decide)); (case c1 => exact fmod_hi _ (by decide)); (case c2 => decide)); rotate_left; (intro ys9 ns9 D' h' tk' hI9 hI8 hI7 F' N' o1'; (try simp only [LCg.Off1, and_true] at o1'); (try dsimp only); (try k_fold)); rotate_left; (intro k' t' I' oI' C' oC' D' m' ys' h' tk' E' hlo' hhi' hhj' hC' hx' F' N'; (try dsimp only); (try k_fold))))
local macro_rules | `(tactic| walk_at "CompSrc") => `(tactic| (k_here; (show LCg.CompSrc _ _ _ _ _ _ _ (Expr.Subscript (Expr.Name _ _) (Expr.BinOp _ Operator.Mod (Expr.Name _ _) _) _) _ _ _ _ _ _); k_dflt (refine' B58.csrc_al ?A ?hh ?F ?N ?hr ?c0 ?c1 ?_ ?_; (case A => assumption); (case hh => rfl); (case F => k_asm); (case N => k_asm); (case hr => assumption); (case c0 => exact fmod_lo _ (by decide)); (case c1 => exact fmod_hi _ (by decide))); rotate_left; (intro ys9 ns9 D' h' tk' hI9 hI8 hI7 F' N' o1'; (try simp only [LCg.Off1, and_true] at o1'); (try dsimp only); (try k_fold)); rotate_left; (intro k' t' I' oI' C' oC' D' m' ys' h' tk' E' hlo' hhi' hhj' hC' hx' F' N'; (try dsimp only); (try k_fold))))
local macro_rules | `(tactic| walk_at "binaryOp Add ref ref") => `(tactic| (k_here; (with_reducible show wpAny _ _ (binaryOp _ (Value.ref _) (Value.ref _)) _ _ _); k_dflt (refine' kmk_add_ints ?F ?N ?a ?b ?i ?j ?_ ?z; (case F => k_asm); (case N => k_asm); (case a => is_list); (case b => is_list); (case i => first | exact B58.ints_rep _ _ _ | assumption | exact .cons _ _ .nil); (case j => first | assumption | exact .cons _ _ .nil); (case z => ((simp only [List.length_append, List.length_cons, List.length_nil, List.length_take, List.length_drop, List.length_replicate, sizeLine_eq]); (try k_fmods); omega))); intro D' ws' h' F' N' l1 hI'; (try k_lt l1); (try k_sweep)))
local macro_rules | `(tactic| walk_at "binaryOp Add ref ref") => `(tactic| (k_here; (with_reducible show wpAny _ _ (binaryOp _ (Value.ref _) (Value.ref _)) _ _ _); k_dflt (refine' B58.add_row1 ?A ?k0 ?k1 ?F ?N ?a ?b ?i ?j ?h8 ?h7 ?_; (case F => k_asm); (case N => k_asm); (case A => assumption); (case a => is_list); (case b => is_list); (case i => exact B58.ints_rep _ _ _); (case j => assumption); (case h8 => assumption); (case h7 => assumption); (case k0 => exact fmod_lo _ (by decide)); (case k1 => exact fmod_hi _ (by decide))); intro D' ws' rs' h' F' N' l1 hI' hR1' hR2'; (try k_lt l1); (try k_sweep)))
local macro_rules | `(tactic| walk_at "call builtin:len") => `(tactic| (k_here; (with_reducible show wpAny _ _ (call (Value.builtin "len") [Value.ref _]) _ _ _); k_dflt (refine' B58.len_row ?N ?m ?i ?z ?_; (case N => k_asm); (case m => k_mem); (case i => assumption); (case z => omega); intro _ _)))
local macro_rules | `(tactic| walk_at "subscriptTail Name Slice ref ref") => `(tactic| (k_here; (show wpAny _ _ (subscriptTail _ (PySem.Expr.Slice none (some _) none _) (Value.ref _) (Value.ref _)) _ _ _); k_dflt (refine' kmk_slice_ints ?F ?N ?l ?p ?q ?i ?m ?c ?_ ?s ?t ?z; (case F => k_asm); (case N => k_asm); (case l => kmk_list); (case p => kmk_part); (case q => kmk_part); (case i => l_ints); (case m => exact kmk_upto (by l_ints) (fmod_lo _ (by omega))); (case c => kmk_len); (case s => with_unfolding_all rfl); (case t => kmk_pure); (case z => kmk_size)); intro D' ws' h' F' N' l1 hI' hC' hL'; (try k_lt l1); (try k_sweep)))
local macro_rules | `(tactic| walk_at "subscriptTail Name Slice ref ref") => `(tactic| (k_here; (show wpAny _ _ (subscriptTail _ (PySem.Expr.Slice (some _) none none _) (Value.ref _) (Value.ref _)) _ _ _); k_dflt (refine' kmk_slice_ints ?F ?N ?l ?p ?q ?i ?m ?c ?_ ?s ?t ?z; (case F => k_asm); (case N => k_asm); (case l => kmk_list); (case p => kmk_part); (case q => kmk_part); (case i => l_ints); (case m => exact kmk_from (by l_ints) (fmod_lo _ (by omega))); (case c => kmk_len); (case s => with_unfolding_all rfl); (case t => kmk_pure); (case z => kmk_size)); intro D' ws' h' F' N' l1 hI' hC' hL'; (try k_lt l1); (try k_sweep)))
namespace B58
open PySem PySem.W PyProof.Rows
theorem c_text {kind : Int} {al : Array UInt8} (hA : AlOk kind al) (w : World) (l : Addr) (vs : List Value) (ns : List Int) (ta : Tok) (hl : ns.length < 1000) :
    CtrX 6 w 91 (fun h => h.IsList l vs.toArray ∧ IntsAre vs ns) [.ref l, .bytes al ta] [] (fun h₀ L m news s Q => RetRow h₀ L m news s Q) := by
  unfold CtrX
  k_fill
  intro mean mg mb dp un gd cn sn sg sc sm a ccd cl outer A₀ base h₀ L m s news Q E hpre B F X N T hd hu hret
  obtain ⟨hbl, hbi⟩ := hpre
  have hA1 := hA.lo
  have hA2 := hA.hi
  walk_at "ctr in"
  have hbg := stays_list (by assumption) hbl
  k_steps
  all_goals refine ret_row hret ?_ (by assumption) (by assumption) (by assumption) (.head _) (by assumption) (fm_ne (by assumption) N (by assumption) (.head _))
  all_goals first
    | exact row_ok1 (by assumption) (by assumption) (by assumption) (by assumption)
    | exact row_ok2 (by assumption) (by assumption) (strangeI_get2 (fmod_lo _ (by decide)) (fmod_hi _ (by decide))) (by assumption) (by assumption)
    | exact row_ok2 (by assumption) (by assumption) (blankI_get2 (fmod_lo _ (by decide)) (fmod_hi _ (by decide))).good (by assumption) (by assumption)
    | exact row_ok2 (by assumption) (by assumption) (strangeI_get (fmod_lo _ (by decide)) (fmod_hi _ (by decide))) (by assumption) (by assumption)
    | exact row_ok2 (by assumption) (by assumption) (blankI_get (fmod_lo _ (by decide)) (fmod_hi _ (by decide))).good (by assumption) (by assumption)
    | (exfalso; omega)
end B58
end
-- QE1
namespace B58
open PySem PySem.W PyProof.Rows PySem.Calls
open PyProof.V PySem.Spec PySem.Builtin
theorem two_turns {β : Type} (n : Nat) (f : Nat → β → Sem (ForInStep β)) (b0 b1 : β) (h1 : n ≠ 0 → ∀ i, f i b0 = pure (.yield b1)) (h2 : ∀ i, f i b1 = pure (.done b1)) :
    forIn [:n] b0 f = pure (if n = 0 then b0 else b1) := by
  rw [Std.Legacy.Range.forIn_eq_forIn_range']
  cases n with
  | zero => rfl
  | succ n =>
    show (forIn (List.range' 0 ((n + 1 - 0 + 1 - 1) / 1) 1) b0 f : Sem β) = _
    rw [show (n + 1 - 0 + 1 - 1) / 1 = n + 1 by omega, List.range'_succ, List.forIn_cons, h1 (by omega)]
    rw [if_neg (by omega)]
    show (forIn (List.range' 1 n 1) b1 f : Sem β) = _
    cases n with
    | zero => rfl
    | succ n => rw [List.range'_succ, List.forIn_cons, h2]; rfl
theorem fold_map (x : Array Nat) : x.foldl (fun acc y => acc ++ #[y.toUInt8]) #[] = x.map Nat.toUInt8 := by
  have key : ∀ (l : List Nat) (a : Array UInt8), l.foldl (fun acc y => acc ++ #[y.toUInt8]) a = a ++ (l.map Nat.toUInt8).toArray := by
    intro l
    induction l with
    | nil => intro a; simp
    | cons c l ih => intro a; rw [List.foldl_cons, ih]; simp
  obtain ⟨l⟩ := x
  rw [← Array.foldl_toList, key]
  simp
theorem enc_narrow {M : Model} {A : Around} {s : Shared} {E : Value → Shared → Prop} {Q : Array UInt8 → Shared → Prop} (id : String) (er : Option Str) (self : Value) (x : Str) (hx : ∀ c ∈ x.cps, c < 128) (hz : x.cps.size ≤ sizeLine)
    (h : Q (x.cps.map Nat.toUInt8) s) : wpAny M A (_codecs.encodeNarrow id _codecs.asciiCodec er self x) Q E s := by
  rw [← fold_map] at h
  have hb : ∀ c ∈ x.cps, _codecs.asciiCodec.bad c = false := fun c hc => by
    have := hx c hc
    show decide (c ≥ 128) = false
    rw [decide_eq_false_iff_not]; omega
  have hf : x.cps.findIdx? _codecs.asciiCodec.bad = none := by
    rw [Array.findIdx?_eq_none_iff]
    exact hb
  have he : x.cps.extract 0 = x.cps := by simp
  unfold _codecs.encodeNarrow
  dsimp only
  rw [two_turns (b1 := (x.cps.size, x.cps.foldl (fun acc y => acc ++ #[y.toUInt8]) #[], {}))]
  · refine wpAny_bind (wpAny_pure (wpAny_pure ?_))
    by_cases e : x.length = 0
    · rw [if_pos e]
      have : x.cps = #[] := Array.eq_empty_of_size_eq_zero e
      rw [this] at h
      exact h
    · rw [if_neg e]; exact h
  · intro hn i
    have hpos : 0 < x.cps.size := Nat.pos_of_ne_zero hn
    have h0 : x.cps[0]? = some x.cps[0] := by simp [hpos]
    simp only [h0, he, hf, Option.getD_none, Nat.zero_add, hb x.cps[0] (by simp), Array.size_empty, Nat.not_lt_zero, gt_iff_lt, if_false, Bool.not_false, if_true]
    rfl
  · intro i
    have h0 : x.cps[x.cps.size]? = none := by simp
    have h1 : ¬ ((x.cps.foldl (fun acc y => acc ++ #[y.toUInt8]) #[]).size > sizeLine) := by
      rw [fold_map, Array.size_map]; omega
    simp only [h0]
    rw [if_neg h1]
theorem txt_bytes (b : Array UInt8) : (txt b).cps.map Nat.toUInt8 = b := by
  show ((octs b).toArray.map Nat.toUInt8) = b
  rw [List.map_toArray]
  unfold octs
  rw [List.map_map]
  have : (Nat.toUInt8 ∘ fun x : UInt8 => x.toNat) = _root_.id := by
    funext c; exact UInt8.ofNat_toNat
  rw [this, List.map_id, Array.toArray_toList]
theorem txt_size (b : Array UInt8) : (txt b).cps.size = b.size := by
  show ((octs b).toArray).size = b.size
  rw [List.size_toArray, octs_length]
theorem txt_mem {b : Array UInt8} (h : ∀ c ∈ octs b, c < 128) : ∀ c ∈ (txt b).cps, c < 128 := fun c hc => h c (by simpa [txt] using hc)
def Ascii (b : Array UInt8) : Prop := ∀ c ∈ octs b, c < 128
theorem codec_ascii (u : Tok) : Str.codecArg "str.encode" "encode" "'encoding'" (some (.str (Str.ofString "ascii") u)) = pure (some (Str.ofString "ascii")) := by
  show ((if (Str.ofString "ascii").cps.any (· ≥ 128) = true then _ else _) : Sem _) = _
  rw [if_neg (by decide +kernel)]
  show ((if (Str.ofString "ascii").cps.contains 0 = true then _ else _) : Sem _) = _
  rw [if_neg (by decide +kernel)]
theorem meets_encode (b : Array UInt8) (t u : Tok) : Meets («str.encode» ⟨[.str (txt b) t, .str (Str.ofString "ascii") u], []⟩) (fun _ R s => b.size ≤ sizeLine ∧ Ascii b ∧ ∀ t' k, R (.ok (.ret (.bytes b t'))) { s with toks := k }) := by
  refine .of_wp fun prog w A R s hS => ?_
  obtain ⟨hsz, hb, h⟩ := hS
  show wpAny _ _ (Str.strSelf ⟨[.str (txt b) t, .str (Str.ofString "ascii") u], []⟩ >>= fun _ => _) _ _ s
  refine wpAny_bind (wpAny_of_eq (a := (Value.str (txt b) t, txt b, [Value.str (Str.ofString "ascii") u])) rfl ?_)
  show wpAny _ _ (Str.bindOptional "str.encode" "encode" 0 ["encoding", "errors"] [.str (Str.ofString "ascii") u] [] >>= fun _ => _) _ _ s
  refine wpAny_bind (wpAny_of_eq (a := [some (Value.str (Str.ofString "ascii") u), none]) rfl ?_)
  show wpAny _ _ (Str.codecArg "str.encode" "encode" "'encoding'" (some (.str (Str.ofString "ascii") u)) >>= fun _ => _) _ _ s
  refine wpAny_bind (wpAny_of_eq (a := some (Str.ofString "ascii")) (codec_ascii u) ?_)
  show wpAny _ _ (Str.codecArg "str.encode" "encode" "'errors'" none >>= fun _ => _) _ _ s
  refine wpAny_bind (wpAny_of_eq (a := none) rfl ?_)
  show wpAny _ _ (_codecs.encodeRoad "str.encode" (.str (txt b) t) (txt b) (Str.ofString "ascii") none >>= fun v => _) _ _ s
  refine wpAny_bind ?_
  show wpAny _ _ (_codecs.encodeNarrow "str.encode" _codecs.asciiCodec none (.str (txt b) t) (txt b) >>= fun v => _) _ _ s
  refine wpAny_bind (enc_narrow _ _ _ _ (txt_mem hb) (by rw [txt_size]; exact hsz) ?_)
  rw [txt_bytes]
  exact wpAny_mkBytes (wpAny_pure ⟨_, rfl, h _ _⟩) hsz
section
variable {prog : Program} {w : World} {M : Model} {A : Around} {E : Value → Shared → Prop} {s : Shared} {b : Array UInt8} {t u : Tok}
theorem method_encode {pl : Sem Bool} {x : Str} {Q : Value × List Value → Shared → Prop} (h : Q (.builtin "str.encode", [.str x t]) s) : wpAny M A (getMethod (.str x t) "encode" pl) Q E s := by
  with_reducible exact GM.of (.str x t) (typeIs_str _ _ _) F.slot_str_encode F.type_str_encode GM.noRef h
theorem call_encode {Q : Value → Shared → Prop} (hsz : b.size ≤ 16777216) (hb : Ascii b) (h : ∀ t' k, Q (.bytes b t') { s with toks := k }) :
    wpAny (model prog w) A (call (.builtin "str.encode") [.str (txt b) t, .str (Str.ofString "ascii") u]) Q E s :=
  call_meets F.slot_str_encode (typeIs_str _ _ _) F.entry_str_encode (F.args_str_encode_2 _ _) (meets_encode b t u) ⟨by rw [sizeLine_eq]; exact hsz, hb, h⟩
end
end B58
-- QE2
namespace B58
open PySem PySem.W PyProof.Rows PySem.Calls
open PyProof.V PySem.Spec PySem.Builtin
/-- signs whose blanks are the same in texts and in octets -/
def PlainO (b : Array UInt8) : Prop := ∀ c ∈ octs b, ¬ (28 ≤ c ∧ c ≤ 31) ∧ c ≠ 133 ∧ c ≠ 160
theorem sp_all : ∀ c : Fin 256, (¬ (28 ≤ c.val ∧ c.val ≤ 31) ∧ c.val ≠ 133 ∧ c.val ≠ 160) → Unicode.isSpace c.val = Bytes.isSpace c.val.toUInt8 := by decide +kernel
theorem sp_eq {c : UInt8} (h : ¬ (28 ≤ c.toNat ∧ c.toNat ≤ 31) ∧ c.toNat ≠ 133 ∧ c.toNat ≠ 160) : Unicode.isSpace c.toNat = Bytes.isSpace c := by
  have := sp_all ⟨c.toNat, c.toNat_lt⟩ h
  rw [this]
  show Bytes.isSpace (UInt8.ofNat c.toNat) = _
  rw [UInt8.ofNat_toNat]
theorem take_rev {α : Type} (g : α → Bool) (l : List α) : l.take (l.length - (l.reverse.takeWhile g).length) = (l.reverse.dropWhile g).reverse := by
  have h := List.takeWhile_append_dropWhile (p := g) (l := l.reverse)
  have h2 : l = (l.reverse.dropWhile g).reverse ++ (l.reverse.takeWhile g).reverse := by
    rw [← List.reverse_append, h, List.reverse_reverse]
  generalize l.reverse.dropWhile g = d at *
  generalize l.reverse.takeWhile g = t at *
  subst h2
  rw [List.length_append, List.length_reverse, List.length_reverse, Nat.add_sub_cancel]
  exact List.take_left' (by simp)
theorem drop_map (l : List UInt8) (g : Nat → Bool) (f : UInt8 → Bool) (h : ∀ c ∈ l, g c.toNat = f c) : (l.map (·.toNat)).dropWhile g = (l.dropWhile f).map (·.toNat) := by
  induction l with
  | nil => rfl
  | cons a l ih =>
    rw [List.map_cons, List.dropWhile_cons, List.dropWhile_cons, h a List.mem_cons_self]
    split
    · exact ih fun c hc => h c (List.mem_cons_of_mem _ hc)
    · rfl
theorem rstrip_txt {b : Array UInt8} (h : PlainO b) : Txt.rstrip (txt b) = txt (rstrip b) := by
  unfold Txt.rstrip
  rw [W.stripBy_eq]
  apply congrArg Str.mk
  apply Array.toList_inj.mp
  show ((octs b).toArray.extract 0 ((octs b).toArray.size - ((((octs b).toArray.toList.drop 0).reverse.takeWhile Unicode.isSpace)).length)).toList = octs (rstrip b)
  rw [Array.toList_extract]
  show List.take (((octs b).toArray.size - _) - 0) (List.drop 0 (octs b)) = _
  rw [Nat.sub_zero, List.drop_zero, List.size_toArray, take_rev]
  unfold octs rstrip
  rw [← List.map_reverse, drop_map _ _ Bytes.isSpace, ← List.map_reverse]
  intro c hc
  exact sp_eq (h c.toNat (List.mem_map.mpr ⟨c, by simpa using hc, rfl⟩))
section
variable {prog : Program} {w : World} {M : Model} {A : Around} {E : Value → Shared → Prop} {s : Shared} {b : Array UInt8} {t u : Tok}
theorem call_rstripS {Q : Value → Shared → Prop} (hsz : b.size ≤ 16777216) (hb : PlainO b) (h : ∀ t' k, (rstrip b).size ≤ b.size → Q (.str (txt (rstrip b)) t') { s with toks := k }) :
    wpAny (model prog w) A (call (.builtin "str.rstrip") [.str (txt b) t]) Q E s :=
  SC.rstrip (fun t' k => by rw [rstrip_txt hb]; exact h t' k (rstrip_size b)) (by show (txt b).cps.size ≤ _; rw [txt_size, sizeLine_eq]; exact hsz)
theorem rstrip_sub {b : Array UInt8} : ∀ c ∈ octs (rstrip b), c ∈ octs b := fun c hc => by
  unfold octs rstrip at *
  simp only [List.mem_map] at *
  obtain ⟨a, ha, rfl⟩ := hc
  refine ⟨a, ?_, rfl⟩
  have := List.mem_reverse.mp ha
  have := (List.dropWhile_sublist Bytes.isSpace).subset this
  exact List.mem_reverse.mp this
theorem ascii_rstrip {b : Array UInt8} (h : Ascii b) : Ascii (rstrip b) := fun c hc => h c (rstrip_sub c hc)
theorem isi_ss {x : Str} {Q : Value → Shared → Prop} (h : Q (.bool true) s) : wpAny (model prog w) A (call (.builtin "isinstance") [.str x t, .type "str"]) Q E s :=
  call_isinstance_yes (typeIs_str s x t) (by first | rfl | kernel_rfl | (show builtinType _ = _; rw [builtinType_eq_fast]; kernel_rfl)) (by rw [isSubtype_type]; kernel_rfl) h
end
end B58
local macro_rules | `(tactic| walk_at "getMethod str") => `(tactic| (k_here; (with_reducible refine B58.method_encode ?_)))
local macro_rules | `(tactic| walk_at "call builtin:str.encode") => `(tactic| (k_here; (try dsimp only [List.cons_append, List.nil_append]); k_dflt (refine B58.call_encode (by walk_at "b size") (by first | assumption | exact B58.ascii_rstrip (by assumption)) ?_); intro _ _))
local macro_rules | `(tactic| walk_at "call builtin:str.rstrip") => `(tactic| (k_here; (try dsimp only [List.cons_append, List.nil_append]); (show wpAny _ _ (call _ [Value.str (B58.txt _) _]) _ _ _); k_dflt (refine B58.call_rstripS (by walk_at "b size") (by assumption) ?_); intro _ _ _))
local macro_rules | `(tactic| walk_at "call builtin:isinstance") => `(tactic| (k_here; (show wpAny _ _ (call _ [Value.str _ _, Value.type "str"]) _ _ _); (refine B58.isi_ss ?_)))
-- PV
namespace B58
open PySem PySem.W PyProof.Rows PySem.Calls PySem.Spec
/-- the row, its octets and what holds of them -/
structure VOk (ns : List Int) (v : Array UInt8) : Prop where
  eq : v = byteArr ns
  oc : octs v = ns.map Int.toNat
  sz : v.size ≤ 35
  pl : PlainO v
theorem vOk {ns : List Int} (h : RowOk ns) : VOk ns (byteArr ns) := by
  have hb : ∀ n ∈ ns, 0 ≤ n ∧ n < 256 := fun n hn => ⟨(h.good n hn).1, (h.good n hn).2.1⟩
  have ho := octs_byteArr ns hb
  refine ⟨rfl, ho, by rw [byteArr_size]; exact h.len, fun c hc => ?_⟩
  rw [ho] at hc
  obtain ⟨n, hn, rfl⟩ := List.mem_map.mp hc
  have := h.good n hn
  unfold GoodI at this
  omega
/-- the texts' case -/
structure CaseU (al v : Array UInt8) (ok asc : Prop) : Prop where
  a : ok ↔ okIn al (octs (rstrip v))
  b : asc ↔ Ascii v
section
variable {prog : Program} {w : World} {A : Around} {E : Value → Shared → Prop} {s : Shared} {h₀ : Heap} {L D : Addr} {m : Str → Option Value} {env : Env} {elt : Expr} {x : Str} {scope : Scope} {cl : List (Str × Addr)} {news : List (Addr × Obj)} {Q : Value → Shared → Prop} {vs : List Value} {ns : List Int}
/-- bytes(row): the four cases part here -/
theorem bytes_row {kind : Int} {al : Array UInt8} (hA : AlOk kind al) (hR : RowOk ns) (F : Fr h₀ L s.heap m) (N : News h₀ L s.heap news) (hh : A.handled = none) (hl : s.heap.IsList D vs.toArray) (hi : IntsAre vs ns)
    (h1 : ∀ v h' t' k, VOk ns v → okIn al (octs (rstrip v)) → Ascii v → Fr h₀ L h' m → News h₀ L h' news → Q (.bytes v t') { s with heap := h', toks := k })
    (h2 : ∀ v h' t' k, VOk ns v → okIn al (octs (rstrip v)) → ¬ Ascii v → Fr h₀ L h' m → News h₀ L h' news → Q (.bytes v t') { s with heap := h', toks := k })
    (h3 : ∀ v h' t' k, VOk ns v → ¬ okIn al (octs (rstrip v)) → Ascii v → Fr h₀ L h' m → News h₀ L h' news → Q (.bytes v t') { s with heap := h', toks := k })
    (h4 : ∀ v h' t' k, VOk ns v → ¬ okIn al (octs (rstrip v)) → ¬ Ascii v → Fr h₀ L h' m → News h₀ L h' news → Q (.bytes v t') { s with heap := h', toks := k }) :
    wpAny (model prog w) A (call (.type "bytes") [.ref D]) Q E s := by
  have hb : ∀ n ∈ ns, 0 ≤ n ∧ n < 256 := fun n hn => ⟨(hR.good n hn).1, (hR.good n hn).2.1⟩
  have hlen := hR.len
  refine KBa.make_K F N hh hl hi hb (by omega) fun h' t' k F' N' _ => ?_
  have hv := vOk hR
  by_cases ho : okIn al (octs (rstrip (byteArr ns)))
  · by_cases ha : Ascii (byteArr ns)
    · exact h1 _ h' t' k hv ho ha F' N'
    · exact h2 _ h' t' k hv ho ha F' N'
  · by_cases ha : Ascii (byteArr ns)
    · exact h3 _ h' t' k hv ho ha F' N'
    · exact h4 _ h' t' k hv ho ha F' N'
/-- texts of a made list of ints -/
theorem csrc_strs {ax : Addr} {k : Nat} {s₁ : Shared} (g : Int → Str) (hh : A.handled = none) (F : Fr h₀ L s₁.heap m) (N : News h₀ L s₁.heap news) (hm : (ax, ({ cls := .type "list", data := .seq vs.toArray k } : Obj)) ∈ news) (hi : IntsAre vs ns) (hsz : ns.length ≤ sizeLine)
    (turn : ∀ k t I oI C oC D m₂ ys h tk (E' : Value → Shared → Prop), k ∈ ns → LCg.NsObj oC m₂ → m₂ x = some (.int k t) → Fr h₀ L h m → News h₀ L h ((I, oI) :: (C, oC) :: (D, LCg.lst ys) :: news) →
      wpAny (model prog w) A (eval elt (compEnvC scope cl C env)) (EltS h₀ L m { s₁ with heap := h, toks := tk } ((I, oI) :: (C, oC) :: (D, LCg.lst ys) :: news) (g k)) E' { s₁ with heap := h, toks := tk })
    (fin : ∀ ys D h tk, CarriedAll ys (ns.map fun k => PyData.str (g k)) → Fr h₀ L h m → News h₀ L h ((D, LCg.lst ys) :: news) → LCg.Off1 D news → Q (.ref D) { s₁ with heap := h, toks := tk }) :
    LCg.CompSrc prog w A h₀ L m env elt x scope cl (fun s₂ => LCg.FinE h₀ L m s₂ Q) (.ref ax) s₁ := by
  refine LCg.CompSrc.ledger (its := vs.toArray) (k := k) hh F N hm (by rw [List.size_toArray, hi.length]; exact hsz) fun g' => ?_
  refine kct_list g hi (fun k t I oI C oC D m₂ ys h tk E' hk hC hx F N off ne mk => ?_) ?_
  · refine wpAny_mono (turn k t I oI C oC D m₂ ys h tk E' hk hC hx F N) (fun y s₂ hq => ?_) fun _ _ e => e
    obtain ⟨h', tk', t', rfl, rfl, F', N'⟩ := hq
    exact ⟨h', tk', news, rfl, F', N', off, .inr ⟨_, hm, rfl, _, rfl⟩, rfl, t', rfl⟩
  · show ∀ ys, _
    intro ys hc _ D h tk F' N' o1
    exact fin ys D h tk hc F' N' o1
theorem txt_join2 {v : Array UInt8} (hv : VOk ns v) : PySem.Txt.join (Str.ofString "") (ns.map fun k => (⟨#[k.toNat]⟩ : Str)) = txt v := by
  show Builtin.Str.glued (Str.ofString "") _ = _
  rw [StrLaws.glued_eq_join]
  have e : (ns.map fun k => (⟨#[k.toNat]⟩ : Str)) = (octs v).map fun k => (⟨#[k]⟩ : Str) := by
    rw [hv.oc, List.map_map]; rfl
  rw [e]
  exact join_ones (octs v)
theorem join_txt2 {v : Array UInt8} (hv : VOk ns v) {ys : List Value} {t : Tok} (hl : s.heap.IsList D ys.toArray) (hc : CarriedAll ys (ns.map fun k => PyData.str ⟨#[k.toNat]⟩))
    (h : ∀ t' k, Q (.str (txt v) t') { s with toks := k }) : wpAny (model prog w) A (call (.builtin "str.join") [.str (Str.ofString "") t, .ref D]) Q E s :=
  KT.join_1 (g := fun k : Int => (⟨#[k.toNat]⟩ : Str)) hl hc (fun _ _ => rfl) (by
    have h1 := hv.sz
    rw [hv.eq, byteArr_size] at h1
    omega) fun t' k _ => by rw [txt_join2 hv]; exact h t' k
end
end B58
local macro_rules | `(tactic| walk_at "call type:bytes") => `(tactic| (k_here; (with_reducible show wpAny _ _ (call (Value.type "bytes") [Value.ref _]) _ _ _); k_dflt (refine' B58.bytes_row ?A ?R ?F ?N ?hh ?l ?i ?_ ?_ ?_ ?_; (case A => k_asm); (case R => k_asm); (case F => k_asm); (case N => k_asm); (case hh => rfl); (case l => is_list); (case i => k_asm); k_whole) <;> (intro v9 h' _ _ hV9 hOk9 hAs9 F' N'; (have hV1 := hV9.sz); (have hV2 := hV9.pl); (try k_sweep))))
local macro_rules | `(tactic| walk_at "eval ListComp") => `(tactic| (k_here; (show wpAny _ _ (eval (Expr.ListComp (Expr.Call (Expr.Name _ _) [Expr.Name _ _] [] _) [⟨_, Expr.Name _ _, _, _⟩] _ _) _) _ _ _); k_dflt (refine LCg.ListComp_U (F₀ := by k_asm) (by with_unfolding_all rfl) (by decide) (by rfl) (by decide) (by rfl) ?_)))
local macro_rules | `(tactic| walk_at "CompSrc") => `(tactic| (k_here; (show LCg.CompSrc _ _ _ _ _ _ _ (Expr.Call (Expr.Name _ _) [Expr.Name _ _] [] _) _ _ _ _ _ _); k_dflt (refine' B58.csrc_strs (fun k => (⟨#[k.toNat]⟩ : PySem.Str)) ?hh ?F ?N ?m ?i ?z ?_ ?_; (case hh => rfl); (case F => k_asm); (case N => k_asm); (case m => k_mem); (case i => k_asm); (case z => (rw [sizeLine_eq]; (have hz9 := B58.RowOk.len (by assumption)); omega))); rotate_left; (intro ys9 D' h' tk' hT9 F' N' o1'; (try simp only [LCg.Off1, and_true] at o1'); (try dsimp only); (try k_fold)); rotate_left; (intro k' t' I' oI' C' oC' D' m' ys' h' tk' E' hk9 hC' hx' F' N'; (have hk8 := B58.RowOk.good (by assumption) _ hk9); (k_dflt (have hk7 := hk8.1)); (k_dflt (have hk6 := hk8.2.1)); (try dsimp only); (try k_fold))))
local macro_rules | `(tactic| walk_at "call builtin:str.join") => `(tactic| (k_here; (try dsimp only [List.cons_append, List.nil_append]); (with_reducible show wpAny _ _ (call (Value.builtin "str.join") [Value.str _ _, Value.ref _]) _ _ _); k_dflt (refine' B58.join_txt2 ?v ?l ?c ?_; (case v => k_asm); (case l => first | assumption | is_list | exact News.isList (by k_asm) (by k_mem)); (case c => k_asm); intro _ _)))
-- QT12
namespace B58
open PySem PySem.W PyProof.Rows
local macro_rules | `(tactic| walk_at "call ref") => `(tactic| (k_here; (show wpAny _ _ (call (Value.ref 51) _ _) _ _ _); k_dflt (refine' CtrV.use (c_decint _ _ _ _ _ ?h1 ?h2 ?h3 ?h4 ?h5) ?k8 ?k9 ?k1 ?k2 ?k3 ?k4 ?k5 ?k6 ?k7 ?_ ?_; (case k1 => k_asm); (case k8 => assumption); (case k9 => assumption); (case k2 => k_asm); (case k3 => k_asm); (case k4 => k_asm); (case k5 => k_asm); (case h1 => walk_at "ints"); (case h2 => walk_at "ints"); (case h3 => walk_at "ints"); (case h4 => walk_at "ints"); (case h5 => walk_at "ints"); (case k6 => ktr_room); (case k7 => ktr_units); rotate_left; intro kNo9 e9 h9 tk9 R9 U9; rotate_left; intro kOk9 t9 h9 tk9 F9 N9; (have kLt9 := decN_lt kOk9 (by assumption) (by assumption) (by rw [octs_length]; exact Nat.le_trans (rstrip_size _) (by omega))); (try dsimp only); (try k_fold))))
local macro_rules | `(tactic| walk_at "call builtin:divmod") => `(tactic| (k_here; (with_reducible show wpAny _ _ (call (Value.builtin _) [Value.int _ _, Value.int _ _]) _ _ _); k_dflt (refine' B58.divmod_D ?F ?N ?h ?_ ?r; (case F => k_asm); (case N => k_asm); (case h => side_arith); (case r => first | exact Or.inl (PyProof.noPylong_of_log2 (by decide +kernel)) | exact Or.inl (PyProof.noPylong_small (by omega))); k_whole); intro D' h' _ _ _ F' N' l1; (try k_lt l1); (try k_sweep)))
local macro_rules | `(tactic| walk_at "call type:bytes") => `(tactic| (k_here; (with_reducible show wpAny _ _ (call (Value.type "bytes") [Value.ref _]) _ _ _); k_dflt (refine' B58.bytes_rev ?F ?N ?l ?n1 ?n2 ?i ?r ?z ?hh ?_; (case F => k_asm); (case N => k_asm); (case l => is_list); (case hh => rfl); (case i => assumption); (case r => exact dec_in (by assumption)); (case z => omega); (case n1 => exact Nat.ne_of_lt (by assumption)); (case n2 => (simp only [List.forall_mem_cons, List.not_mem_nil, false_implies, implies_true, and_true]; exact Nat.ne_of_lt (by assumption))); k_whole); intro h' _ _ F' N' _; (try k_sweep)))
theorem c_decS (w : World) (v al : Array UInt8) (tv ta : Tok) (hv : v.size ≤ 100) (hA : Ascii v) (hP : PlainO v) (hb : 2 ≤ al.size) (hb2 : al.size ≤ 256) (hnd : (octs al).Nodup) (h32 : 32 ∉ octs al) :
    CtrV 10 w 60 [.str (txt v) tv, .bytes al ta] [] (okIn al (octs (rstrip (lstrip (rstrip v) #[sign al 0])))) (fun t => .bytes (decB al (rstrip v)) t) := by
  unfold CtrV
  k_fill
  intro mean mg mb dp un gd cn sn sg sc sm a ccd cl outer A₀ base h₀ L m s news Q E XB TB B F X N T hd hu hret hexc
  walk_at "ctr in"
  have hb9 : KBw.bInts v = KBw.bInts v := rfl
  have hI0 : IntsAre [] [] := .nil
  k_with "exec While Compare cons nil" => k_while (fun _ acc result => 0 ≤ acc ∧ result.length ≤ 800 ∧ WhP 256 ((decN al (octs (rstrip (lstrip (rstrip v) #[sign al 0]))) : Nat) : Int) acc result) (fun _ acc _ => acc.toNat) "acc" "result"
  k_with "state" => first | exact dec_s1 _ | exact dec_s2 (by assumption) (by assumption) (by assumption) | k_dflt (exact dec_s1 _) | k_dflt (exact dec_s2 (by assumption) (by assumption) (by assumption))
  k_with "measure" => exact fdiv_less (by assumption) (by decide)
  k_steps
  rotate_left
  · show wpAny _ _ (leaving _ _) _ _ _
    refine leave_onSN (by assumption) (by assumption) (by assumption) (by assumption) ?_
    intro h'' R _ U
    show E (.ref _) _
    exact hexc (by assumption) _ h'' _ (raised_under (by assumption) R) (up_under (by assumption) U)
  · exact ret_b (hret (by assumption)) (by rw [dec_end (by assumption) (by assumption)]; exact decB_eq _ _ _ rfl) (by assumption) (by assumption)
end B58
-- QT13
namespace B58
open PySem PySem.W PyProof.Rows
theorem c_decintP (w : World) (v al : Array UInt8) (tv ta : Tok) (hv : v.size ≤ 100) (hb : 2 ≤ al.size) (hb2 : al.size ≤ 256) (hnd : (octs al).Nodup) (h32 : 32 ∉ octs al) :
    CtrV 8 w 51 [.bytes v tv, .bytes al ta] [] (okIn al (octs (rstrip v))) (fun t => .int (decN al (octs (rstrip v)) : Nat) t) := by
  unfold CtrV
  k_fill
  intro mean mg mb dp un gd cn sn sg sc sm a ccd cl outer A₀ base h₀ L m s news Q E XB TB B F X N T hd hu hret hexc
  walk_at "ctr in"
  have hb9 : KBw.bInts v = KBw.bInts v := rfl
  have hb8 : KBw.bInts (rstrip v) = KBw.bInts (rstrip v) := rfl
  have hI0 : IntsAre [] [] := .nil
  k_with "pyIter bytes" => k_state (fun pre decimal => DecP al pre decimal) "decimal"
  k_with "state" => first | exact decP_start al | exact decP_turn (by assumption) (by assumption)
  k_steps
  rotate_left
  · obtain ⟨o1, e1⟩ := decP_end (by assumption)
    subst e1
    exact hret o1 _ _ _ (by assumption) (by assumption)
  · refine reraised (X := "KeyError") (T' := "KeyError") (by assumption) (by assumption) (by assumption) XB TB PySem.F.excCall_ValueError PySem.F.excRaise_ValueError rfl (by kernel_rfl) PyProof.Rows.Boot.«KeyError» (by decide) (by kernel_rfl) PyProof.Rows.Boot.«ValueError» (by decide) kr_isExc_KeyError kr_notTuple_KeyError (by rw [isSubtype_type]; kernel_rfl) ?_
    intro e2 h' tk g5 h5 m5 T t kt kf kb kh ku
    show wpAny _ _ (leaving _ _) _ _ _
    refine reraised_out kt kf kb kh ku ?_
    intro h'' R U
    show E (.ref e2) _
    exact hexc (not_ok (by assumption) (by assumption)) e2 h'' _ (raised_under (by assumption) R) (up_under (by assumption) U)

theorem c_decint1 (w : World) (v : Array UInt8) (tv : Tok) (hv : v.size ≤ 100) :
    CtrV 8 w 51 [.bytes v tv] [] (okIn btc (octs (rstrip v))) (fun t => .int (decN btc (octs (rstrip v)) : Nat) t) := by
  unfold CtrV
  k_fill
  intro mean mg mb dp un gd cn sn sg sc sm a ccd cl outer A₀ base h₀ L m s news Q E XB TB B F X N T hd hu hret hexc
  walk_at "ctr in"
  with_reducible rename Fr _ _ _ _ => F9
  have hb := btc_hb
  have hb2 := btc_hb2
  have hnd := btc_nd
  have h32 := btc_32
  have e9 : ∃ t, Fr _ _ _ (fun y => List.lookup y ([(Str.ofString "v", .bytes v tv), (Str.ofString "alphabet", .bytes btc t), (Str.ofString "autofix", .bool false)] : List (Str × Value)).reverse) := ⟨_, F9⟩
  obtain ⟨ta, F10⟩ := e9
  clear F9
  generalize btc = al at *
  have hb9 : KBw.bInts v = KBw.bInts v := rfl
  have hb8 : KBw.bInts (rstrip v) = KBw.bInts (rstrip v) := rfl
  have hI0 : IntsAre [] [] := .nil
  k_with "pyIter bytes" => k_state (fun pre decimal => DecP al pre decimal) "decimal"
  k_with "state" => first | exact decP_start al | exact decP_turn (by assumption) (by assumption)
  k_steps
  rotate_left
  · obtain ⟨o1, e1⟩ := decP_end (by assumption)
    subst e1
    exact hret o1 _ _ _ (by assumption) (by assumption)
  · refine reraised (X := "KeyError") (T' := "KeyError") (by assumption) (by assumption) (by assumption) XB TB PySem.F.excCall_ValueError PySem.F.excRaise_ValueError rfl (by kernel_rfl) PyProof.Rows.Boot.«KeyError» (by decide) (by kernel_rfl) PyProof.Rows.Boot.«ValueError» (by decide) kr_isExc_KeyError kr_notTuple_KeyError (by rw [isSubtype_type]; kernel_rfl) ?_
    intro e2 h' tk g5 h5 m5 T t kt kf kb kh ku
    show wpAny _ _ (leaving _ _) _ _ _
    refine reraised_out kt kf kb kh ku ?_
    intro h'' R U
    show E (.ref e2) _
    exact hexc (not_ok (by assumption) (by assumption)) e2 h'' _ (raised_under (by assumption) R) (up_under (by assumption) U)
theorem c_decintS (w : World) (v al : Array UInt8) (tv ta : Tok) (hv : v.size ≤ 100) (hA : Ascii v) (hP : PlainO v) (hb : 2 ≤ al.size) (hb2 : al.size ≤ 256) (hnd : (octs al).Nodup) (h32 : 32 ∉ octs al) :
    CtrV 8 w 51 [.str (txt v) tv, .bytes al ta] [] (okIn al (octs (rstrip v))) (fun t => .int (decN al (octs (rstrip v)) : Nat) t) := by
  unfold CtrV
  k_fill
  intro mean mg mb dp un gd cn sn sg sc sm a ccd cl outer A₀ base h₀ L m s news Q E XB TB B F X N T hd hu hret hexc
  walk_at "ctr in"
  have hb9 : KBw.bInts v = KBw.bInts v := rfl
  have hb8 : KBw.bInts (rstrip v) = KBw.bInts (rstrip v) := rfl
  have hI0 : IntsAre [] [] := .nil
  k_with "pyIter bytes" => k_state (fun pre decimal => DecP al pre decimal) "decimal"
  k_with "state" => first | exact decP_start al | exact decP_turn (by assumption) (by assumption)
  k_steps
  rotate_left
  · obtain ⟨o1, e1⟩ := decP_end (by assumption)
    subst e1
    exact hret o1 _ _ _ (by assumption) (by assumption)
  · refine reraised (X := "KeyError") (T' := "KeyError") (by assumption) (by assumption) (by assumption) XB TB PySem.F.excCall_ValueError PySem.F.excRaise_ValueError rfl (by kernel_rfl) PyProof.Rows.Boot.«KeyError» (by decide) (by kernel_rfl) PyProof.Rows.Boot.«ValueError» (by decide) kr_isExc_KeyError kr_notTuple_KeyError (by rw [isSubtype_type]; kernel_rfl) ?_
    intro e2 h' tk g5 h5 m5 T t kt kf kb kh ku
    show wpAny _ _ (leaving _ _) _ _ _
    refine reraised_out kt kf kb kh ku ?_
    intro h'' R U
    show E (.ref e2) _
    exact hexc (not_ok (by assumption) (by assumption)) e2 h'' _ (raised_under (by assumption) R) (up_under (by assumption) U)

end B58
-- QL10
namespace B58
open PySem PySem.W PyProof.Rows PySem.Calls PySem.Spec PySem.Builtin
theorem rstrip_last {v : Array UInt8} : ∀ c, (rstrip v).toList.getLast? = some c → Bytes.isSpace c = false := by
  intro c hc
  unfold rstrip at hc
  rw [List.getLast?_reverse] at hc
  have h := List.head?_dropWhile_not Bytes.isSpace v.toList.reverse
  rw [hc] at h
  exact h
theorem rstrip_id {u : Array UInt8} (h : ∀ c, u.toList.getLast? = some c → Bytes.isSpace c = false) : rstrip u = u := by
  unfold rstrip
  have : u.toList.reverse.dropWhile Bytes.isSpace = u.toList.reverse := by
    cases e : u.toList.reverse with
    | nil => rfl
    | cons a r =>
      have hl : u.toList.getLast? = some a := by rw [← List.head?_reverse, e]; rfl
      rw [List.dropWhile_cons, h a hl]; rfl
  rw [this, List.reverse_reverse, Array.toArray_toList]
theorem lstrip_last {u : Array UInt8} {s c : UInt8} (h : (lstrip u #[s]).toList.getLast? = some c) : u.toList.getLast? = some c := by
  unfold lstrip at h
  have e := List.takeWhile_append_dropWhile (p := (#[s] : Array UInt8).contains) (l := u.toList)
  rw [← e, List.getLast?_append]
  have h' : (List.dropWhile (#[s] : Array UInt8).contains u.toList).getLast? = some c := h
  rw [h']; rfl
theorem strip_id (v : Array UInt8) (s : UInt8) : rstrip (lstrip (rstrip v) #[s]) = lstrip (rstrip v) #[s] :=
  rstrip_id fun c hc => rstrip_last c (lstrip_last hc)
theorem ok_iff {kind : Int} {al : Array UInt8} (hA : AlOk kind al) (v : Array UInt8) : okIn al (octs (rstrip (lstrip (rstrip v) #[sign al 0]))) ↔ okIn al (octs (rstrip v)) := by
  rw [strip_id]
  constructor
  · intro h c hc
    obtain ⟨a, ha, rfl⟩ := List.mem_map.mp hc
    by_cases e : a = sign al 0
    · rw [e]; exact sign0_mem hA
    · exact h _ (octs_mem9.mpr (lstrip_keep e ha))
  · intro h c hc
    obtain ⟨a, ha, rfl⟩ := List.mem_map.mp hc
    refine h _ (octs_mem9.mpr ?_)
    exact (List.dropWhile_sublist _).subset ha
theorem CtrV.re {k : Nat} {w : World} {f : Addr} {vs : List Value} {kw : List (Str × Value)} {ok ok' : Prop} {R : Tok → Value} (C : CtrV k w f vs kw ok R) (e : ok ↔ ok') : CtrV k w f vs kw ok' R := by
  rw [propext e] at C; exact C
section
variable {kind : Int} {al al' v : Array UInt8}
theorem c_decV (hA : AlOk kind al) (hv : v.size ≤ 35) (he : al' = al) (w : World) (tv ta : Tok) : CtrV 10 w 60 [.bytes v tv, .bytes al' ta] [] (okIn al (octs (rstrip v))) (fun t => .bytes (decB al (rstrip v)) t) := by
  subst he
  exact (c_dec w v al' tv ta (by omega) hA.lo hA.hi hA.nd hA.no32).re (ok_iff hA v)
theorem c_decV1 (hA : AlOk kind al) (hv : v.size ≤ 35) (hk : kind = 0) (w : World) (tv : Tok) : CtrV 10 w 60 [.bytes v tv] [] (okIn al (octs (rstrip v))) (fun t => .bytes (decB al (rstrip v)) t) := by
  have e := hA.k0 hk
  subst e
  exact (c_dec1 w v tv (by omega)).re (ok_iff hA v)
theorem c_decVS (hA : AlOk kind al) (hv : v.size ≤ 35) (ha : Ascii v) (hp : PlainO v) (w : World) (tv ta : Tok) : CtrV 10 w 60 [.str (txt v) tv, .bytes al ta] [] (okIn al (octs (rstrip v))) (fun t => .bytes (decB al (rstrip v)) t) :=
  (c_decS w v al tv ta (by omega) ha hp hA.lo hA.hi hA.nd hA.no32).re (ok_iff hA v)
theorem c_dintV (hA : AlOk kind al) (hv : v.size ≤ 35) (he : al' = al) (w : World) (tv ta : Tok) : CtrV 8 w 51 [.bytes v tv, .bytes al' ta] [] (okIn al (octs (rstrip v))) (fun t => .int (decN al (octs (rstrip v)) : Nat) t) := by
  subst he
  exact c_decintP w v al' tv ta (by omega) hA.lo hA.hi hA.nd hA.no32
theorem c_dintV1 (hA : AlOk kind al) (hv : v.size ≤ 35) (hk : kind = 0) (w : World) (tv : Tok) : CtrV 8 w 51 [.bytes v tv] [] (okIn al (octs (rstrip v))) (fun t => .int (decN al (octs (rstrip v)) : Nat) t) := by
  have e := hA.k0 hk
  subst e
  exact c_decint1 w v tv (by omega)
theorem c_dintVS (hA : AlOk kind al) (hv : v.size ≤ 35) (ha : Ascii v) (hp : PlainO v) (w : World) (tv ta : Tok) : CtrV 8 w 51 [.str (txt v) tv, .bytes al ta] [] (okIn al (octs (rstrip v))) (fun t => .int (decN al (octs (rstrip v)) : Nat) t) :=
  c_decintS w v al tv ta (by omega) ha hp hA.lo hA.hi hA.nd hA.no32
end
end B58
-- QL11
namespace B58
open PySem PySem.W PyProof.Rows PySem.Calls PySem.Spec
section
variable {M : Model} {A : Around} {E : Value → Shared → Prop} {s : Shared} {h₀ : Heap} {L D : Addr} {m : Str → Option Value} {news : List (Addr × Obj)} {env : Env} {kind : Int} {al v : Array UInt8} {ns : List Int}
/-- given is the alphabet -/
def GivenCut (h₀ : Heap) (L : Addr) (m : Str → Option Value) (news : List (Addr × Obj)) (s : Shared) (al : Array UInt8) (y : Value) (s' : Shared) : Prop :=
  ∃ t h' tk, y = .bytes al t ∧ s' = { s with heap := h', toks := tk } ∧ Fr h₀ L h' m ∧ News h₀ L h' news
theorem given_ {al' : Array UInt8} {t : Tok} {h' : Heap} {tk : Nat} (e : al' = al) (F : Fr h₀ L h' m) (N : News h₀ L h' news) : GivenCut h₀ L m news s al (.bytes al' t) { s with heap := h', toks := tk } := by
  subst e; exact ⟨t, h', tk, rfl, rfl, F, N⟩
theorem cut_given {e : Expr} {Q : Value → Shared → Prop} (hA : AlOk kind al) (F : Fr h₀ L s.heap m) (N : News h₀ L s.heap news) (h1 : wpAny M A (eval e env) (GivenCut h₀ L m news s al) E s)
    (h2 : ∀ t h' tk, Fr h₀ L h' m → News h₀ L h' news → Q (.bytes al t) { s with heap := h', toks := tk }) : wpAny M A (eval e env) Q E s :=
  wpAny_mono h1 (fun y s' ⟨t, h', tk, e1, e2, F', N'⟩ => by subst e1; subst e2; exact h2 t h' tk F' N') fun _ _ x => x
/-- a name is bound to a value of which all but the token is known -/
def CutVal (x : Str) (R : Tok → Value) (h₀ : Heap) (L : Addr) (m : Str → Option Value) (news : List (Addr × Obj)) (s : Shared) (fl : Flow) (s' : Shared) : Prop :=
  fl = .next ∧ ∃ (t : Tok) (h' : Heap) (tk : Nat), s' = { s with heap := h', toks := tk } ∧ Fr h₀ L h' (fun y => if y = x then some (R t) else m y) ∧ News h₀ L h' news
theorem val_ {x : Str} {R : Tok → Value} {t : Tok} {h' : Heap} {tk : Nat} (F : Fr h₀ L h' (fun y => if y = x then some (R t) else m y)) (N : News h₀ L h' news) :
    CutVal x R h₀ L m news s .next { s with heap := h', toks := tk } := ⟨rfl, t, h', tk, rfl, F, N⟩
theorem cut_val (x : Str) (R : Tok → Value) {st : Stmt} {Q : Flow → Shared → Prop} (F : Fr h₀ L s.heap m) (N : News h₀ L s.heap news) (h1 : wpAny M A (exec st env) (CutVal x R h₀ L m news s) E s)
    (h2 : ∀ t h' tk, Fr h₀ L h' (fun y => if y = x then some (R t) else m y) → News h₀ L h' news → Q .next { s with heap := h', toks := tk }) : wpAny M A (exec st env) Q E s :=
  wpAny_mono h1 (fun fl s' ⟨e, t, h', tk, e2, F', N'⟩ => by subst e; subst e2; exact h2 t h' tk F' N') fun _ _ x => x
theorem cut_bytes (x : Str) (hA : AlOk kind al) (hV : VOk ns v) (ho : okIn al (octs (rstrip v))) {st : Stmt} {Q : Flow → Shared → Prop} (F : Fr h₀ L s.heap m) (N : News h₀ L s.heap news) (h1 : wpAny M A (exec st env) (CutVal x (fun t => .bytes (decB al (rstrip v)) t) h₀ L m news s) E s)
    (h2 : ∀ t h' tk, Fr h₀ L h' (fun y => if y = x then some (.bytes (decB al (rstrip v)) t) else m y) → News h₀ L h' news → Q .next { s with heap := h', toks := tk }) : wpAny M A (exec st env) Q E s := cut_val x _ F N h1 h2
theorem cut_intV (x : Str) (hA : AlOk kind al) (hV : VOk ns v) (ho : okIn al (octs (rstrip v))) {st : Stmt} {Q : Flow → Shared → Prop} (F : Fr h₀ L s.heap m) (N : News h₀ L s.heap news) (h1 : wpAny M A (exec st env) (CutVal x (fun t => .int (decN al (octs (rstrip v)) : Nat) t) h₀ L m news s) E s)
    (h2 : ∀ t h' tk, Fr h₀ L h' (fun y => if y = x then some (.int (decN al (octs (rstrip v)) : Nat) t) else m y) → News h₀ L h' news → Q .next { s with heap := h', toks := tk }) : wpAny M A (exec st env) Q E s := cut_val x _ F N h1 h2
theorem cut_bytesS (x : Str) (hA : AlOk kind al) (hV : VOk ns v) (ho : okIn al (octs (rstrip v))) (ha : Ascii v) {st : Stmt} {Q : Flow → Shared → Prop} (F : Fr h₀ L s.heap m) (N : News h₀ L s.heap news) (h1 : wpAny M A (exec st env) (CutVal x (fun t => .bytes (decB al (rstrip v)) t) h₀ L m news s) E s)
    (h2 : ∀ t h' tk, Fr h₀ L h' (fun y => if y = x then some (.bytes (decB al (rstrip v)) t) else m y) → News h₀ L h' news → Q .next { s with heap := h', toks := tk }) : wpAny M A (exec st env) Q E s := cut_val x _ F N h1 h2
theorem cut_intS (x : Str) (hA : AlOk kind al) (hV : VOk ns v) (ho : okIn al (octs (rstrip v))) (ha : Ascii v) {st : Stmt} {Q : Flow → Shared → Prop} (F : Fr h₀ L s.heap m) (N : News h₀ L s.heap news) (h1 : wpAny M A (exec st env) (CutVal x (fun t => .int (decN al (octs (rstrip v)) : Nat) t) h₀ L m news s) E s)
    (h2 : ∀ t h' tk, Fr h₀ L h' (fun y => if y = x then some (.int (decN al (octs (rstrip v)) : Nat) t) else m y) → News h₀ L h' news → Q .next { s with heap := h', toks := tk }) : wpAny M A (exec st env) Q E s := cut_val x _ F N h1 h2
theorem cut_refused (x : Str) {st : Stmt} {Q : Flow → Shared → Prop} (F : Fr h₀ L s.heap m) (N : News h₀ L s.heap news) (h1 : wpAny M A (exec st env) (CutVal x (fun t => .str (Str.ofString "refused") t) h₀ L m news s) E s)
    (h2 : ∀ t h' tk, Fr h₀ L h' (fun y => if y = x then some (.str (Str.ofString "refused") t) else m y) → News h₀ L h' news → Q .next { s with heap := h', toks := tk }) : wpAny M A (exec st env) Q E s := cut_val x _ F N h1 h2
end
end B58
-- XT
namespace B58
open PySem PySem.W PyProof.Rows PySem.Calls
open PySem.Spec
/-! a try of the law's own frame -/
section
variable {prog : Program} {w : World} {A : Around} {E : Value → Shared → Prop} {s' : Shared} {base h₀ G : Heap} {L e : Addr} {m : Str → Option Value} {env : Env} {news : List (Addr × Obj)}
  {b₀ : Stmt} {suite : List Stmt} {pos np : Pos} {rest : List ExceptHandler} {Q : Flow → Shared → Prop} {x : Str} {X T' : String}
theorem top_keep {B h : Heap} (F : Fr h₀ L G m) (N : News h₀ L G news) (hf : env.frame = some L) (hBG : ∀ b o, G.get? b = some o → b ∉ [env].filterMap (·.frame) → B.get? b = some o) (hBh : B.StaysIn h) (hsm : G.UpToSlots h) : Fr h₀ L h m ∧ News h₀ L h news := by
  have hL₀ : h₀.get? L = none := Heap.get?_none_of_le F.above
  have ni : ∀ b, b ≠ L → b ∉ [env].filterMap (·.frame) := fun b hb hm => by
    obtain ⟨en, he, hq⟩ := List.mem_filterMap.mp hm
    rw [List.mem_singleton.mp he, hf] at hq
    exact hb (Option.some.inj hq).symm
  refine ⟨Fr.of_stays F (fun b o q => hBh b o (hBG b o (F.keep b o q) (ni b fun z => by rw [z, hL₀] at q; cases q))) hsm, fun p hp => ⟨hBh _ _ (hBG _ _ (N p hp).1 (ni _ (N p hp).2.1)), (N p hp).2⟩⟩
theorem caught_top (R : RaisedSN base G [env] e (.type X) [] s'.heap) (F : Fr h₀ L G m) (N : News h₀ L G news) (hsm : G.UpToSlots s'.heap) (hfr : A.frames = some [env]) (hf : env.frame = some L)
    (hexc : isSubtype (.type T') (.type "BaseException") = pure true) (hnt : isSubtype (.type ((Manifest.find? T').elim "type" fun y => y.metatype)) (.type "tuple") = pure false) (hsub : isSubtype (.type X) (.type T') = pure true)
    (hname : ∀ (h : Heap) (A' : Around) (Q' E' : Value → Shared → Prop), Fr h₀ L h m → News h₀ L h news → Q' (.type T') { s' with heap := h } → wpAny (model prog w) A' (eval (.Name x np) env) Q' E' { s' with heap := h })
    (k : ∀ h', Fr h₀ L h' m → News h₀ L h' news → wpAny (model prog w) (A.mark (some (.ref e))) (execs (b₀ :: suite) env) Q (fun _ _ => False) { s' with heap := h' }) :
    wpAny (model prog w) A (noteFrame (.ref e) env)
      (fun _ s₂ => wpAny (model prog w) A (setFlight (.ref e) none) (fun _ s₃ =>
        wpAny (model prog w) A (handleBy (.ref e) env (.ExceptHandler (some (.Name x np)) none (b₀ :: suite) pos :: rest)) Q E s₃) E s₂) E s' := by
  obtain ⟨B, a0, hB, hBG, hl, hfl⟩ := R
  refine wpAny_looks_onW hfr hf hfl fun h₄ hheld₄ hsm₄ => ?_
  refine wpAny_landsW hheld₄ fun h₅ hheld hsm₅' => ?_
  have hsm₅ := hsm₄.trans hsm₅'
  obtain ⟨F₅, N₅⟩ := top_keep F N hf hBG hheld.1 (hsm.trans hsm₅)
  obtain ⟨ob, hob, hobc⟩ := hheld.there
  refine wpAny_handleBy_builtin (X := X) (T := T') (b := true) hexc hnt hsub (hname _ _ _ _ F₅ N₅ ⟨rfl, ⟨ob, hob, hobc⟩, ?_⟩)
  refine lands_againW hheld fun h₆ hfl₆ hsm₆ => ?_
  obtain ⟨F₆, N₆⟩ := top_keep F N hf hBG hfl₆.1 ((hsm.trans hsm₅).trans hsm₆)
  exact wpAny_mono (k h₆ F₆ N₆) (fun _ _ x => x) fun _ _ x => x.elim
end
end B58
-- R6
namespace B58
open PySem PySem.W PyProof.Rows PySem.Calls
open PyProof.V PySem.Spec PySem.Builtin
theorem contains_int {b : Array UInt8} {k : Int} (h0 : 0 ≤ k) (h1 : k < 256) : b.contains k.toNat.toUInt8 = decide (k.toNat ∈ octs b) := by
  have e : (k.toNat.toUInt8).toNat = k.toNat := by
    show (UInt8.ofNat k.toNat).toNat = k.toNat
    rw [UInt8.toNat_ofNat']
    omega
  have := mem_octs (b := b) (c := k.toNat.toUInt8)
  rw [e] at this
  rw [Bool.eq_iff_iff, decide_eq_true_eq, this, Array.contains_iff_mem, Array.mem_def]
theorem meets_containsI {b : Array UInt8} {k : Int} {t u : Tok} : Meets («bytes.__contains__» ⟨[.bytes b t, .int k u], []⟩)
    (fun _ R s => 0 ≤ k ∧ k < 256 ∧ R (.ok (.ret (.bool (decide (k.toNat ∈ octs b))))) s) := by
  refine .of_wp fun prog w A R s hS => ?_
  obtain ⟨h0, h1, h⟩ := hS
  show wpAny _ _ (Bytes.containsIn _ (.bytes b t) (.int k u) >>= fun r => ret (.bool r)) _ _ s
  refine wpAny_bind ?_
  unfold Bytes.containsIn
  refine wpAny_bind (wpAny_attempt (wpAny_of_eq (a := k) rfl ?_))
  refine wpAny_bind (wpAny_of_eq KBy.buffer_eq ?_)
  show wpAny _ _ (if (decide (k < 0) || decide (k ≥ 256)) = true then _ else _) _ _ _
  rw [if_neg (by simp; omega)]
  refine wpAny_pure ?_
  rw [contains_int h0 h1]
  exact wpAny_pure ⟨_, rfl, h⟩
section
variable {prog : Program} {w : World} {A : Around} {E : Value → Shared → Prop} {s : Shared} {b : Array UInt8} {k : Int} {t u : Tok} {Q : Value → Shared → Prop}
theorem in_int (h0 : 0 ≤ k) (h1 : k < 256) (h : Q (.bool (decide (k.toNat ∈ octs b))) s) : wpAny (model prog w) A (compareOp .In (.int k u) (.bytes b t)) Q E s := by
  refine In_slot (typeIs_bytes s b t) FB.slot_bytes_contains ?_
  refine call_meets FB.slot_bytes_contains (typeIs_bytes _ _ _) FB.entry_bytes_contains (FB.args_bytes_contains_2 _ _) meets_containsI ⟨h0, h1, ?_⟩
  exact wpAny_of_eq (a := decide (k.toNat ∈ octs b)) rfl h
end
end B58
-- LT
namespace B58
open PySem PySem.W PyProof.Rows PySem.Calls PySem.Spec
/-! while row and row[-1] in blanks: row = row[:-1] -/
def rowN : Str := Str.ofString "row"
section
variable {prog : Program} {w : World} {A : Around} {E : Value → Shared → Prop} {s : Shared} {h₀ : Heap} {L D : Addr} {m : Str → Option Value} {news : List (Addr × Obj)} {env : Env} {ns ns' : List Int} {test : Expr} {body : List Stmt} {pos : Pos} {vs : List Value} {c : Nat}
theorem fr_twice {h : Heap} {a : Str} {u v : Option Value} (F : Fr h₀ L h (fun y => if y = a then v else if y = a then u else m y)) : Fr h₀ L h (fun y => if y = a then v else m y) := by
  have e : (fun y => if y = a then v else if y = a then u else m y) = fun y => if y = a then v else m y := by
    funext y
    by_cases h : y = a
    · rw [if_pos h, if_pos h]
    · rw [if_neg h, if_neg h, if_neg h]
  rw [← e]; exact F
def TrimStep (h₀ : Heap) (L : Addr) (m : Str → Option Value) (news : List (Addr × Obj)) (s : Shared) (ns' : List Int) (fl : Flow) (s' : Shared) : Prop :=
  fl = .next ∧ ∃ (D : Addr) (vs : List Value) (c : Nat) (h' : Heap) (tk : Nat), s' = { s with heap := h', toks := tk } ∧ Fr h₀ L h' (fun y => if y = Str.ofString "row" then some (.ref D) else m y) ∧ News h₀ L h' ((D, listOf vs.toArray c) :: news) ∧ IntsAre vs (ns'.take (ns'.length - 1))
theorem trimStep_ {led : List (Addr × Obj)} {h' : Heap} {tk : Nat} (F : Fr h₀ L h' (fun y => if y = Str.ofString "row" then some (.ref D) else m y)) (N : News h₀ L h' led) (hm : (D, listOf vs.toArray c) ∈ led) (hs : ∀ p ∈ news, p ∈ led) (hi : IntsAre vs (ns'.take (ns'.length - 1))) :
    TrimStep h₀ L m news s ns' .next { s with heap := h', toks := tk } :=
  ⟨rfl, D, vs, c, h', tk, rfl, F, fun p hp => by
    rcases List.mem_cons.mp hp with rfl | hp
    · exact N _ hm
    · exact N _ (hs p hp), hi⟩
/-- what the loop leaves -/
def TrimEnd (h₀ : Heap) (L : Addr) (m : Str → Option Value) (news : List (Addr × Obj)) (s : Shared) (ns : List Int) (fl : Flow) (s' : Shared) : Prop :=
  fl = .next ∧ ∃ (D : Addr) (vs : List Value) (c : Nat) (h' : Heap) (tk : Nat) (ns' rs : List Int), s' = { s with heap := h', toks := tk } ∧ Fr h₀ L h' (fun y => if y = Str.ofString "row" then some (.ref D) else m y) ∧ News h₀ L h' ((D, listOf vs.toArray c) :: news) ∧ IntsAre vs ns' ∧ ns = ns' ++ rs ∧ (∀ r ∈ rs, BlankI r) ∧ ∀ l, ns'.getLast? = some l → ¬ BlankI l
def TrimTest (prog : Program) (w : World) (A : Around) (env : Env) (body : List Stmt) (E : Value → Shared → Prop) (h₀ : Heap) (L D : Addr) (m : Str → Option Value) (news led : List (Addr × Obj)) (s : Shared) (ns' : List Int) (b : Bool) (s₂ : Shared) : Prop :=
  if b = true then (∃ l, ns'.getLast? = some l ∧ BlankI l) ∧ wpAny (model prog w) A (execs body env) (TrimStep h₀ L m news s ns') E s₂
  else (∀ l, ns'.getLast? = some l → ¬ BlankI l) ∧ ∃ h' tk, s₂ = { s with heap := h', toks := tk } ∧ Fr h₀ L h' (fun y => if y = Str.ofString "row" then some (.ref D) else m y) ∧ News h₀ L h' led
theorem trim_while (hR : RowOk ns) (F : Fr h₀ L s.heap m) (N : News h₀ L s.heap news) (hx : m (Str.ofString "row") = some (.ref D)) (hm : (D, listOf vs.toArray c) ∈ news) (hi : IntsAre vs ns)
    (turn : ∀ D vs c ns' h tk, IntsAre vs ns' → ns'.length ≤ 35 → (∀ n ∈ ns', GoodI n) → Fr h₀ L h (fun y => if y = Str.ofString "row" then some (.ref D) else m y) → News h₀ L h ((D, listOf vs.toArray c) :: news) →
      wpAny (model prog w) A (isTrue test env (eval test env)) (TrimTest prog w A env body E h₀ L D m news ((D, listOf vs.toArray c) :: news) s ns') E { s with heap := h, toks := tk })
    (hE : PassesOwn (model prog w) A env E := by passes_own) :
    wpAny (model prog w) A (exec (.While test body [] pos) env) (TrimEnd h₀ L m news s ns) E s := by
  have em : (fun y => if y = Str.ofString "row" then some (Value.ref D) else m y) = m := by
    funext y
    by_cases h : y = Str.ofString "row"
    · rw [if_pos h, h, hx]
    · rw [if_neg h]
  refine While_inv (fun n m₁ news₁ => ∃ D vs c ns' rs, m₁ = (fun y => if y = Str.ofString "row" then some (.ref D) else m y) ∧ news₁ = (D, listOf vs.toArray c) :: news ∧ IntsAre vs ns' ∧ ns = ns' ++ rs ∧ (∀ r ∈ rs, BlankI r) ∧ n = ns'.length) (n₀ := ns.length) (m := m) (news := (D, listOf vs.toArray c) :: news)
    F (fun p hp => by
      rcases List.mem_cons.mp hp with rfl | hp
      · exact N _ hm
      · exact N p hp) ⟨D, vs, c, ns, [], em.symm, rfl, hi, by simp, by simp, rfl⟩ ?_ hE
  rintro n m₁ news₁ h₁ tk₁ F₁ N₁ ⟨D, vs, c, ns', rs, rfl, rfl, hi', e, hb, rfl⟩
  have hlen : ns'.length ≤ 35 := by have := hR.len; rw [e, List.length_append] at this; omega
  refine wpAny_mono (turn D vs c ns' h₁ tk₁ hi' hlen (fun n hn => hR.good n (by rw [e]; exact List.mem_append_left _ hn)) F₁ N₁) (fun b s₂ h₂ => ?_) fun _ _ x => x
  cases b with
  | false =>
    simp only [TrimTest, Bool.false_eq_true, if_false] at h₂ ⊢
    obtain ⟨hl, h', tk, rfl, F', N'⟩ := h₂
    exact ⟨rfl, D, vs, c, h', tk, ns', rs, rfl, F', N', hi', e, hb, hl⟩
  | true =>
    simp only [TrimTest, if_true] at h₂ ⊢
    obtain ⟨⟨l, hl, hbl⟩, h₂⟩ := h₂
    refine wpAny_mono h₂ (fun f s₃ h₃ => ?_) fun _ _ x => x
    obtain ⟨rfl, D2, vs2, c2, h', tk, rfl, F', N', hi2⟩ := h₃
    have e2 : ns' = ns'.take (ns'.length - 1) ++ [l] := by
      obtain ⟨ys, rfl⟩ := List.getLast?_eq_some_iff.mp hl
      simp
    have hpos : 0 < ns'.length := by rw [e2]; simp
    refine ⟨rfl, h', tk, _, _, (ns'.take (ns'.length - 1)).length, rfl, F', N', by rw [List.length_take]; omega, D2, vs2, c2, ns'.take (ns'.length - 1), l :: rs, rfl, rfl, hi2, ?_, ?_, rfl⟩
    · rw [e]
      conv => lhs; rw [e2]
      simp
    · intro r hr
      rcases List.mem_cons.mp hr with rfl | hr
      · exact hbl
      · exact hb r hr
theorem truthy_row {Q : Bool → Shared → Prop} (N : News h₀ L s.heap news) (hm : (D, listOf vs.toArray c) ∈ news) (hi : IntsAre vs ns') (hl : ns'.length ≤ 35) (h0 : ns' = [] → ∀ tk, Q false { s with toks := tk }) (h1 : ns' ≠ [] → ∀ tk, Q true { s with toks := tk }) : wpAny (model prog w) A (truthy (.ref D)) Q E s := by
  have hlen := hi.length
  refine wpAny_truthy_list (News.isList N hm) (by rw [List.size_toArray]; omega) ?_
  cases vs with
  | nil => exact h0 (List.length_eq_zero_iff.mp (by rw [← hlen]; rfl)) _
  | cons a r => exact h1 (fun q => by rw [q] at hlen; simp at hlen) _
theorem item_last {value slice : Expr} {u : Tok} {Q : Value → Shared → Prop} (N : News h₀ L s.heap news) (hm : (D, listOf vs.toArray c) ∈ news) (hi : IntsAre vs ns') (hne : ns' ≠ []) (hg : ∀ n ∈ ns', GoodI n)
    (h : ∀ l t, ns'.getLast? = some l → GoodI l → Q (.int l t) s)
    (hs : subscripted slice false (.ref D) (.int (-1) u) = operate [.ref D, .int (-1) u] (getItem (.ref D) (.int (-1) u)) := by with_unfolding_all rfl) :
    wpAny (model prog w) A (subscriptTail value slice (.ref D) (.int (-1) u)) Q E s := by
  have hlen := hi.length
  have hpos : 0 < ns'.length := List.length_pos_iff.mpr hne
  have hv : vs[vs.length - 1]? = some (vs[vs.length - 1]'(by omega)) := List.getElem?_eq_getElem _
  obtain ⟨k, t, e, hk⟩ := IntsAre.at hi _ _ hv
  have hlast : ns'.getLast? = some k := by
    rw [List.getLast?_eq_getElem?, ← hlen]; exact hk
  refine kde_neg (j := vs.length - 1) (News.isList N hm) (by decide) (by decide) ?_ hv (by rw [e]; exact h k t hlast (hg k (List.mem_of_getLast? hlast))) hs
  have hp : 0 < vs.length := by omega
  unfold seqIndex?
  simp
  omega
theorem trimTest_t {B : Prop} {led : List (Addr × Obj)} {l : Int} (hl : ns'.getLast? = some l) (hb : BlankI l) {s₂ : Shared} (h : wpAny (model prog w) A (execs body env) (TrimStep h₀ L m news s ns') E s₂) : TrimTest prog w A env body E h₀ L D m news led s ns' true s₂ := by
  unfold TrimTest; rw [if_pos rfl]; exact ⟨⟨l, hl, hb⟩, h⟩
theorem trimTest_f {led : List (Addr × Obj)} (hl : ∀ l, ns'.getLast? = some l → ¬ BlankI l) {h' : Heap} {tk : Nat} (F : Fr h₀ L h' (fun y => if y = Str.ofString "row" then some (.ref D) else m y)) (N : News h₀ L h' led) : TrimTest prog w A env body E h₀ L D m news led s ns' false { s with heap := h', toks := tk } := by
  unfold TrimTest; rw [if_neg (by decide)]; exact ⟨hl, h', tk, rfl, F, N⟩
theorem last_nil {ns' : List Int} (h : ns' = []) : ∀ l, ns'.getLast? = some l → ¬ BlankI l := by subst h; intro l hl; cases hl
theorem blank_mem {l : Int} (h0 : GoodI l) (h : l.toNat ∈ octs #[32, 9, 10, 13, 11, 12]) : BlankI l := by
  have e : octs #[32, 9, 10, 13, 11, 12] = [32, 9, 10, 13, 11, 12] := by decide +kernel
  rw [e] at h
  have := h0.1
  unfold BlankI
  simp only [List.mem_cons, List.not_mem_nil, or_false] at h
  omega
theorem blank_not {ns' : List Int} {l : Int} (h0 : GoodI l) (hl : ns'.getLast? = some l) (h : l.toNat ∉ octs #[32, 9, 10, 13, 11, 12]) : ∀ l, ns'.getLast? = some l → ¬ BlankI l := by
  intro l' hl' hb
  rw [hl] at hl'
  obtain rfl := Option.some.inj hl'
  have e : octs #[32, 9, 10, 13, 11, 12] = [32, 9, 10, 13, 11, 12] := by decide +kernel
  rw [e] at h
  unfold BlankI at hb
  simp only [List.mem_cons, List.not_mem_nil, or_false] at h
  omega
theorem trim_cut {Q : Flow → Shared → Prop} (hR : RowOk ns) (F : Fr h₀ L s.heap m) (N : News h₀ L s.heap news) (hx : m (Str.ofString "row") = some (.ref D)) (hm : (D, listOf vs.toArray c) ∈ news) (hi : IntsAre vs ns)
    (turn : ∀ D vs c ns' h tk, IntsAre vs ns' → ns'.length ≤ 35 → (∀ n ∈ ns', GoodI n) → Fr h₀ L h (fun y => if y = Str.ofString "row" then some (.ref D) else m y) → News h₀ L h ((D, listOf vs.toArray c) :: news) →
      wpAny (model prog w) A (isTrue test env (eval test env)) (TrimTest prog w A env body E h₀ L D m news ((D, listOf vs.toArray c) :: news) s ns') E { s with heap := h, toks := tk })
    (fin : ∀ D vs c ns' rs h' tk, Fr h₀ L h' (fun y => if y = Str.ofString "row" then some (.ref D) else m y) → News h₀ L h' ((D, listOf vs.toArray c) :: news) → IntsAre vs ns' → ns = ns' ++ rs → (∀ r ∈ rs, BlankI r) → (∀ l, ns'.getLast? = some l → ¬ BlankI l) → Q .next { s with heap := h', toks := tk })
    (hE : PassesOwn (model prog w) A env E := by passes_own) :
    wpAny (model prog w) A (exec (.While test body [] pos) env) Q E s :=
  wpAny_mono (trim_while hR F N hx hm hi turn hE) (fun fl s' ⟨e, D, vs, c, h', tk, ns', rs, e2, F', N', i', e3, b', l'⟩ => by subst e; subst e2; exact fin D vs c ns' rs h' tk F' N' i' e3 b' l') fun _ _ x => x
end
end B58
-- LcT
namespace B58
open PySem PySem.W PyProof.Rows PySem.Calls PySem.Spec
/-! comprehensions with a test, over a made list of ints -/
/-- what the test of a turn hands on -/
def TstI (prog : Program) (w : World) (A : Around) (env' : Env) (elt : Expr) (h₀ : Heap) (L : Addr) (m : Str → Option Value) (s : Shared) (led : List (Addr × Obj)) (pb : Bool) (r : Int) (E' : Value → Shared → Prop) (ok : Bool) (s' : Shared) : Prop :=
  ok = pb ∧ ∃ h' tk, s' = { s with heap := h', toks := tk } ∧ Fr h₀ L h' m ∧ News h₀ L h' led ∧ (ok = true → wpAny (model prog w) A (eval elt env') (EltI h₀ L m s led r) E' s')
section
variable {prog : Program} {w : World} {A : Around} {E : Value → Shared → Prop} {s : Shared} {h₀ : Heap} {L D : Addr} {m : Str → Option Value} {env env' : Env} {elt ct : Expr} {x : Str} {scope : Scope} {cl : List (Str × Addr)} {news led : List (Addr × Obj)} {vs : List Value} {ns : List Int}
theorem tstI_ {r : Int} {ok pb : Bool} {E' : Value → Shared → Prop} {h' : Heap} {tk : Nat} (e : ok = pb) (F : Fr h₀ L h' m) (N : News h₀ L h' led) (h : ok = true → wpAny (model prog w) A (eval elt env') (EltI h₀ L m s led r) E' { s with heap := h', toks := tk }) :
    TstI prog w A env' elt h₀ L m s led pb r E' ok { s with heap := h', toks := tk } := ⟨e, h', tk, rfl, F, N, h⟩
theorem tst_rest {S : List (Addr × Obj) → Prop} {Fin : List Value → List (Addr × Obj) → Prop} {n : Nat} {ks : List Int} {P : Nat → Value → Prop} (g : Int → Int) (p : Int → Bool) (hks : ks.length = n) (hP : ∀ i v, i < n → P i v → ∃ k t, ks[i]? = some k ∧ v = .int k t) (hS : S news)
    (turn : ∀ k t I oI C oC D m₂ ys h tk (E' : Value → Shared → Prop), k ∈ ks → LCg.NsObj oC m₂ → m₂ x = some (.int k t) → Fr h₀ L h m → News h₀ L h ((I, oI) :: (C, oC) :: (D, LCg.lst ys) :: news) →
      wpAny (model prog w) A (isTrue ct (compEnvC scope cl C env) (eval ct (compEnvC scope cl C env))) (TstI prog w A (compEnvC scope cl C env) elt h₀ L m { s with heap := h, toks := tk } ((I, oI) :: (C, oC) :: (D, LCg.lst ys) :: news) (p k) (g k) E') E' { s with heap := h, toks := tk })
    (fin : ∀ ys, IntsAre ys ((ks.filter p).map g) → Fin ys news) : LCt.CompRestT prog w A h₀ L m env ct elt x scope cl s S P Fin n 0 [] news := by
  have key : ∀ (j i : Nat) (ys : List Value), i + j = n → IntsAre ys (((ks.take i).filter p).map g) → LCt.CompRestT prog w A h₀ L m env ct elt x scope cl s S P Fin j i ys news := by
    intro j
    induction j with
    | zero =>
      intro i ys hi hy
      have e : i = ks.length := by omega
      subst e
      rw [List.take_length] at hy
      exact LCt.CompRestT.zero (fin ys hy)
    | succ j ih =>
      intro i ys hi hy
      refine LCt.CompRestT.succ ?_
      intro v I oI C oC D m₂ h tk E' hv hC hx F N off ne
      obtain ⟨k, t, hk, hv'⟩ := hP i v (by omega) hv
      rw [hv'] at hx
      refine wpAny_mono (turn k t I oI C oC D m₂ ys h tk E' (List.mem_of_getElem? hk) hC hx F N) (fun ok s₂ hq => ?_) fun _ _ e => e
      obtain ⟨hok, h', tk', rfl, F', N', hel⟩ := hq
      cases ok with
      | false =>
        simp only [Bool.false_eq_true, if_false]
        refine ⟨h', tk', news, rfl, F', N', off, hS, ih (i + 1) _ (by omega) ?_⟩
        rw [List.take_add_one, hk, Option.toList_some, List.filter_append]
        simp only [List.filter_cons, ← hok, Bool.false_eq_true, if_false, List.filter_nil, List.append_nil]
        exact hy
      | true =>
        simp only [if_true]
        refine wpAny_mono (hel rfl) (fun y s₃ hq => ?_) fun _ _ e => e
        obtain ⟨h2, tk2, t2, rfl, rfl, F2, N2⟩ := hq
        refine ⟨h2, tk2, news, rfl, F2, N2, off, hS, ih (i + 1) _ (by omega) ?_⟩
        rw [List.take_add_one, hk, Option.toList_some, List.filter_append]
        simp only [List.filter_cons, ← hok, if_true, List.filter_nil, List.map_append, List.map_cons, List.map_nil]
        exact IntsAre.append hy (.cons (g k) t2 .nil)
  exact key n 0 [] (by omega) (by simp only [List.take_zero, List.filter_nil, List.map_nil]; exact .nil)
theorem csrcT_ints {ax : Addr} {k : Nat} {s₁ : Shared} {Fin : Shared → List Value → List (Addr × Obj) → Prop} (g : Int → Int) (p : Int → Bool) (hh : A.handled = none) (F : Fr h₀ L s₁.heap m) (N : News h₀ L s₁.heap news) (hm : (ax, ({ cls := .type "list", data := .seq vs.toArray k } : Obj)) ∈ news) (hi : IntsAre vs ns) (hsz : ns.length ≤ sizeLine)
    (turn : ∀ k t I oI C oC D m₂ ys h tk (E' : Value → Shared → Prop), k ∈ ns → LCg.NsObj oC m₂ → m₂ x = some (.int k t) → Fr h₀ L h m → News h₀ L h ((I, oI) :: (C, oC) :: (D, LCg.lst ys) :: news) →
      wpAny (model prog w) A (isTrue ct (compEnvC scope cl C env) (eval ct (compEnvC scope cl C env))) (TstI prog w A (compEnvC scope cl C env) elt h₀ L m { s₁ with heap := h, toks := tk } ((I, oI) :: (C, oC) :: (D, LCg.lst ys) :: news) (p k) (g k) E') E' { s₁ with heap := h, toks := tk })
    (fin : ∀ g' ys, IntsAre ys ((ns.filter p).map g) → Fin { s₁ with heap := g' } ys news) :
    LCt.CompSrcT prog w A h₀ L m env ct elt x scope cl Fin (.ref ax) s₁ := by
  refine LCt.CompSrcT.ledger (its := vs.toArray) (k := k) hh F N hm (by rw [List.size_toArray, hi.length]; exact hsz) fun g' => ?_
  refine tst_rest (ks := ns) g p (by rw [List.size_toArray]; exact hi.length.symm) (fun i v _ hv => ?_) (.inr ⟨_, hm, rfl, _, rfl⟩) (fun k t I oI C oC D m₂ ys h tk E' => turn k t I oI C oC D m₂ ys h tk E') (fin g')
  obtain ⟨k, t, e, hk⟩ := IntsAre.at hi i v (by simpa using hv)
  exact ⟨k, t, hk, e⟩
end
end B58
-- LU
namespace B58
open PySem PySem.W PyProof.Rows PySem.Calls PySem.Spec
section
variable {prog : Program} {w : World} {A : Around} {E : Value → Shared → Prop} {s : Shared} {h₀ : Heap} {L D : Addr} {m : Str → Option Value} {env : Env} {elt ct : Expr} {x : Str} {scope : Scope} {cl : List (Str × Addr)} {news : List (Addr × Obj)} {vs : List Value} {ns : List Int} {kvs : List (Int × Value)} {al : Array UInt8} {o : Obj} {kind : Int}
theorem in_places {k : Int} {u : Tok} {Q : Value → Shared → Prop} (hA : AlOk kind al) (N : News h₀ L s.heap news) (hm : (D, o) ∈ news) (hd : o.IsDictOf (intKind prog w) kvs) (hx : IdxTo al al.size kvs) (lo : (D == sysModules) = false) (h0 : 0 ≤ k)
    (h : Q (.bool (decide (k.toNat ∈ octs al))) { s with toks := s.toks + 1 }) : wpAny (model prog w) A (compareOp .In (.int k u) (.ref D)) Q E s := by
  refine kda_in (knd := intKind prog w) (k := k) N hm hd lo (by simp [intKind, Value.isInt]) _ ?_ h
  have hv := valueAt_idx hA.nd hx h0
  by_cases hc : k.toNat ∈ octs al
  · obtain ⟨t, ht⟩ := hv.1 hc
    rw [ht, decide_eq_true hc]; rfl
  · rw [hv.2 hc, decide_eq_false hc]; rfl
theorem idx_yes {value slice : Expr} {c : Int} {u : Tok} {Q : Value → Shared → Prop} (hA : AlOk kind al) (N : News h₀ L s.heap news) (hm : (D, o) ∈ news) (hd : o.IsDictOf (intKind prog w) kvs) (hx : IdxTo al al.size kvs) (h0 : 0 ≤ c) (hc : decide (c.toNat ∈ octs al) = true)
    (hQ : ∀ t k, Q (.int ((rk al c.toNat : Nat) : Int) t) { s with toks := k })
    (hs : subscripted slice false (.ref D) (.int c u) = operate [.ref D, .int c u] (getItem (.ref D) (.int c u)) := by with_unfolding_all rfl) :
    wpAny (model prog w) A (subscriptTail value slice (.ref D) (.int c u)) Q E s := by
  obtain ⟨t, ht⟩ := (valueAt_idx hA.nd hx h0).1 (of_decide_eq_true hc)
  exact map_item N hm hd ht (hQ t) hs
/-- ranks -/
theorem csrcT_ranks {y : Str} {Q : Flow → Shared → Prop} (hA : AlOk kind al) {ax : Addr} {k : Nat} {s₁ : Shared} (hh : A.handled = none) (F : Fr h₀ L s₁.heap m) (N : News h₀ L s₁.heap news) (hm : (ax, ({ cls := .type "list", data := .seq vs.toArray k } : Obj)) ∈ news) (hi : IntsAre vs ns) (hl : ns.length ≤ 35) (hg : ∀ n ∈ ns, GoodI n)
    (turn : ∀ k t I oI C oC D m₂ ys h tk (E' : Value → Shared → Prop), GoodI k → LCg.NsObj oC m₂ → m₂ x = some (.int k t) → Fr h₀ L h m → News h₀ L h ((I, oI) :: (C, oC) :: (D, LCg.lst ys) :: news) →
      wpAny (model prog w) A (isTrue ct (compEnvC scope cl C env) (eval ct (compEnvC scope cl C env))) (TstI prog w A (compEnvC scope cl C env) elt h₀ L m { s₁ with heap := h, toks := tk } ((I, oI) :: (C, oC) :: (D, LCg.lst ys) :: news) (decide (k.toNat ∈ octs al)) ((rk al k.toNat : Nat) : Int) E') E' { s₁ with heap := h, toks := tk })
    (fin : ∀ ys D h tk, IntsAre ys ((ns.filter fun k => decide (k.toNat ∈ octs al)).map fun k => ((rk al k.toNat : Nat) : Int)) → Fr h₀ L h (fun z => if z = y then some (.ref D) else m z) → News h₀ L h ((D, LCg.lst ys) :: news) → LCg.Off1 D news → Q .next { s₁ with heap := h, toks := tk }) :
    LCt.CompSrcT prog w A h₀ L m env ct elt x scope cl (fun s₂ => LCg.FinA h₀ L m s₂ y Q) (.ref ax) s₁ := by
  refine csrcT_ints (fun k => ((rk al k.toNat : Nat) : Int)) (fun k => decide (k.toNat ∈ octs al)) hh F N hm hi (by rw [sizeLine_eq]; omega) (fun k t I oI C oC D m₂ ys h tk E' hk => turn k t I oI C oC D m₂ ys h tk E' (hg k hk)) ?_
  intro g' ys hI D h tk F' N' o1
  exact fin ys D h tk hI F' N' o1
end
/-- the row without its blanks is what rstrip leaves -/
theorem byteArr_app (a b : List Int) : byteArr (a ++ b) = byteArr a ++ byteArr b := by simp [byteArr]
theorem blank_space {n : Int} (h : BlankI n) : PySem.Builtin.Bytes.isSpace n.toNat.toUInt8 = true := by
  rw [space_iff]
  have e : (n.toNat.toUInt8).toNat = n.toNat := by
    show (UInt8.ofNat n.toNat).toNat = n.toNat
    rw [UInt8.toNat_ofNat']
    unfold BlankI at h
    omega
  rw [e]
  unfold BlankI at h
  omega
theorem space_blank {n : Int} (hg : GoodI n) (h : ¬ BlankI n) : PySem.Builtin.Bytes.isSpace n.toNat.toUInt8 = false := by
  apply space_no
  have e : (n.toNat.toUInt8).toNat = n.toNat := by
    show (UInt8.ofNat n.toNat).toNat = n.toNat
    rw [UInt8.toNat_ofNat']
    unfold GoodI at hg
    omega
  rw [e]
  unfold BlankI at h
  unfold GoodI at hg
  omega
theorem trim_eq {ns ns' rs : List Int} {v : Array UInt8} (hV : VOk ns v) (hR : RowOk ns) (e : ns = ns' ++ rs) (hb : ∀ r ∈ rs, BlankI r) (hl : ∀ l, ns'.getLast? = some l → ¬ BlankI l) : octs (rstrip v) = ns'.map Int.toNat := by
  have hg : ∀ n ∈ ns', GoodI n := fun n hn => hR.good n (by rw [e]; exact List.mem_append_left _ hn)
  have h1 : rstrip v = rstrip (byteArr ns') := by
    rw [hV.eq, e, byteArr_app]
    unfold rstrip
    rw [Array.toList_append, List.reverse_append, List.dropWhile_append_of_pos]
    intro c hc
    have hc' := List.mem_reverse.mp hc
    obtain ⟨n, hn, rfl⟩ := List.mem_map.mp (show c ∈ rs.map fun n => n.toNat.toUInt8 from hc')
    exact blank_space (hb n hn)
  have h2 : rstrip (byteArr ns') = byteArr ns' := by
    refine rstrip_id fun c hc => ?_
    have hc' : (ns'.map fun n => n.toNat.toUInt8).getLast? = some c := hc
    rw [List.getLast?_map] at hc'
    obtain ⟨n, hn, rfl⟩ := Option.map_eq_some_iff.mp hc'
    exact space_blank (hg n (List.mem_of_getLast? hn)) (hl n hn)
  rw [h1, h2]
  exact octs_byteArr _ fun n hn => by
    have := hg n hn
    unfold GoodI at this
    omega
theorem row_len {ns ns' rs : List Int} (hR : RowOk ns) (e : ns = ns' ++ rs) : ns'.length ≤ 35 ∧ ∀ n ∈ ns', GoodI n := by
  have := hR.len
  rw [e, List.length_append] at this
  exact ⟨by omega, fun n hn => hR.good n (by rw [e]; exact List.mem_append_left _ hn)⟩
theorem ok_filter {al v : Array UInt8} {ns' : List Int} (hTr : octs (rstrip v) = ns'.map Int.toNat) (ho : okIn al (octs (rstrip v))) :
    (ns'.filter fun k => decide (k.toNat ∈ octs al)).map (fun k => ((rk al k.toNat : Nat) : Int)) = ((octs (rstrip v)).map (rk al)).map (fun d => ((d : Nat) : Int)) := by
  rw [hTr] at ho ⊢
  rw [List.filter_eq_self.mpr (fun k hk => decide_eq_true (ho _ (List.mem_map.mpr ⟨k, hk, rfl⟩))), List.map_map, List.map_map]
  rfl
theorem not_ok_len {al v : Array UInt8} {ns' : List Int} (hTr : octs (rstrip v) = ns'.map Int.toNat) (ho : ¬ okIn al (octs (rstrip v))) :
    ((ns'.filter fun k => decide (k.toNat ∈ octs al)).map (fun k => ((rk al k.toNat : Nat) : Int))).length < ns'.length := by
  rw [List.length_map]
  refine Nat.lt_of_le_of_ne (List.length_filter_le _ _) fun e => ho ?_
  rw [hTr]
  intro x hx
  obtain ⟨k, hk, rfl⟩ := List.mem_map.mp hx
  have h1 := List.length_filter_eq_length_iff.mp e k hk
  exact of_decide_eq_true h1
section
variable {prog : Program} {w : World} {A : Around} {E : Value → Shared → Prop} {s : Shared} {h₀ : Heap} {L D : Addr} {m : Str → Option Value} {env : Env} {elt ct : Expr} {x : Str} {scope : Scope} {cl : List (Str × Addr)} {news : List (Addr × Obj)} {vs : List Value} {ns : List Int} {kvs : List (Int × Value)} {al : Array UInt8} {o : Obj} {kind : Int}
theorem csrcT_ranksY {v : Array UInt8} (hTr : octs (rstrip v) = ns.map Int.toNat) (ho : okIn al (octs (rstrip v))) {y : Str} {Q : Flow → Shared → Prop} (hA : AlOk kind al) {ax : Addr} {k : Nat} {s₁ : Shared} (hh : A.handled = none) (F : Fr h₀ L s₁.heap m) (N : News h₀ L s₁.heap news) (hm : (ax, ({ cls := .type "list", data := .seq vs.toArray k } : Obj)) ∈ news) (hi : IntsAre vs ns) (hl : ns.length ≤ 35) (hg : ∀ n ∈ ns, GoodI n)
    (turn : ∀ k t I oI C oC D m₂ ys h tk (E' : Value → Shared → Prop), GoodI k → LCg.NsObj oC m₂ → m₂ x = some (.int k t) → Fr h₀ L h m → News h₀ L h ((I, oI) :: (C, oC) :: (D, LCg.lst ys) :: news) →
      wpAny (model prog w) A (isTrue ct (compEnvC scope cl C env) (eval ct (compEnvC scope cl C env))) (TstI prog w A (compEnvC scope cl C env) elt h₀ L m { s₁ with heap := h, toks := tk } ((I, oI) :: (C, oC) :: (D, LCg.lst ys) :: news) (decide (k.toNat ∈ octs al)) ((rk al k.toNat : Nat) : Int) E') E' { s₁ with heap := h, toks := tk })
    (fin : ∀ ys D h tk, IntsAre ys (((octs (rstrip v)).map (rk al)).map fun d => ((d : Nat) : Int)) → ns.length = ((octs (rstrip v)).map (rk al)).length → Fr h₀ L h (fun z => if z = y then some (.ref D) else m z) → News h₀ L h ((D, LCg.lst ys) :: news) → LCg.Off1 D news → Q .next { s₁ with heap := h, toks := tk }) :
    LCt.CompSrcT prog w A h₀ L m env ct elt x scope cl (fun s₂ => LCg.FinA h₀ L m s₂ y Q) (.ref ax) s₁ := by
  refine csrcT_ranks hA hh F N hm hi hl hg turn fun ys D h tk hI F' N' o1 => fin ys D h tk ?_ ?_ F' N' o1
  · rw [← ok_filter hTr ho]; exact hI
  · rw [List.length_map, hTr, List.length_map]
theorem csrcT_ranksN {v : Array UInt8} (hTr : octs (rstrip v) = ns.map Int.toNat) (ho : ¬ okIn al (octs (rstrip v))) {y : Str} {Q : Flow → Shared → Prop} (hA : AlOk kind al) {ax : Addr} {k : Nat} {s₁ : Shared} (hh : A.handled = none) (F : Fr h₀ L s₁.heap m) (N : News h₀ L s₁.heap news) (hm : (ax, ({ cls := .type "list", data := .seq vs.toArray k } : Obj)) ∈ news) (hi : IntsAre vs ns) (hl : ns.length ≤ 35) (hg : ∀ n ∈ ns, GoodI n)
    (turn : ∀ k t I oI C oC D m₂ ys h tk (E' : Value → Shared → Prop), GoodI k → LCg.NsObj oC m₂ → m₂ x = some (.int k t) → Fr h₀ L h m → News h₀ L h ((I, oI) :: (C, oC) :: (D, LCg.lst ys) :: news) →
      wpAny (model prog w) A (isTrue ct (compEnvC scope cl C env) (eval ct (compEnvC scope cl C env))) (TstI prog w A (compEnvC scope cl C env) elt h₀ L m { s₁ with heap := h, toks := tk } ((I, oI) :: (C, oC) :: (D, LCg.lst ys) :: news) (decide (k.toNat ∈ octs al)) ((rk al k.toNat : Nat) : Int) E') E' { s₁ with heap := h, toks := tk })
    (fin : ∀ ys rs D h tk, IntsAre ys rs → rs.length < ns.length → Fr h₀ L h (fun z => if z = y then some (.ref D) else m z) → News h₀ L h ((D, LCg.lst ys) :: news) → LCg.Off1 D news → Q .next { s₁ with heap := h, toks := tk }) :
    LCt.CompSrcT prog w A h₀ L m env ct elt x scope cl (fun s₂ => LCg.FinA h₀ L m s₂ y Q) (.ref ax) s₁ := by
  exact csrcT_ranks hA hh F N hm hi hl hg turn fun ys D h tk hI F' N' o1 => fin ys _ D h tk hI (not_ok_len hTr ho) F' N' o1
end
end B58
-- Dc4
namespace B58
open PySem PySem.W PyProof.Rows PySem.Calls
open PySem.Spec PyProof.V PySem.Builtin
/-! {signs[k]: k for k in range(n)} -/
/-- what the key hands back -/
def KeyEnd (al : Array UInt8) (k : Int) (s : Shared) (y : Value) (s' : Shared) : Prop := ∃ t tk, y = .int (((octs al).getD k.toNat 0 : Nat) : Int) t ∧ s' = { s with toks := tk }
theorem keyEnd_ {al : Array UInt8} {k r : Int} {s : Shared} {t : Tok} {tk : Nat} (e : r = (((octs al).getD k.toNat 0 : Nat) : Int)) : KeyEnd al k s (.int r t) { s with toks := tk } := by subst e; exact ⟨t, tk, rfl, rfl⟩
/-- the dict's source: a range -/
def RngSrc (prog : Program) (w : World) (A : Around) (env : Env) (kx : Expr) (x : Str) (scope : Scope) (cl : List (Str × Addr)) (Q : Value → Shared → Prop) (xv : Value) (s₁ : Shared) : Prop :=
  ∃ (al : Array UInt8) (r : Addr) (t u v : Tok) (h₀ : Heap) (L : Addr) (m : Str → Option Value) (news : List (Addr × Obj)), xv = .ref r ∧ IsRange s₁.heap r 0 (al.size : Int) 1 t u v ∧
    (octs al).Nodup ∧ al.size ≤ 256 ∧ A.handled = none ∧ Fr h₀ L s₁.heap m ∧ News h₀ L s₁.heap news ∧
    (∀ (k : Int) t C oC m₂ h tk (E' : Value → Shared → Prop), 0 ≤ k → k < al.size → LCg.NsObj oC m₂ → m₂ x = some (.int k t) → Fr h₀ L h m → News h₀ L h ((C, oC) :: news) →
      wpAny (model prog w) A (eval kx (compEnvC scope cl C env)) (KeyEnd al k { s₁ with heap := h, toks := tk }) E' { s₁ with heap := h, toks := tk }) ∧
    ∀ (D : Addr) (o : Obj) (kvs : List (Int × Value)) (h' : Heap) (tk : Nat), Fr h₀ L h' m → News h₀ L h' ((D, o) :: news) → o.IsDictOf (intKind prog w) kvs → IdxTo al al.size kvs → (∀ p ∈ news, @Ne Nat p.1 D) → @LT.lt Nat _ L D → Q (.ref D) { s₁ with heap := h', toks := tk }
section
variable {prog : Program} {w : World} {A : Around} {E : Value → Shared → Prop} {s : Shared} {env : Env} {al : Array UInt8}
theorem rng_dict {kx iter : Expr} {x : Str} {px pkx : Pos} {scope : Scope} {cl : List (Str × Addr)} {pos : Pos} {it : Addr} {RR : Value → Addr → Result → Shared → Prop} {s₂ : Shared} {h₀ : Heap} {L : Addr} {m : Str → Option Value} {news : List (Addr × Obj)}
    (hn : (octs al).Nodup) (hz : al.size ≤ 256) (hh : A.handled = none) (hst0 : IsRangeIter s₂.heap it (0 + (0 : Nat) * 1) ((al.size : Int) - (0 : Nat)) 1)
    (hcell : ∀ y ∈ scope.names, y.2 ≠ .cell) (hkind : scope.kind = .function) (hx : scope.names.lookup x = some .local) (hdx : (x == ("__debug__" : Str)) = false)
    (F : Fr h₀ L s₂.heap m) (N : News h₀ L s₂.heap news) (hIL : L ≠ it) (hI₀ : h₀.get? it = none) (off : ∀ p ∈ news, p.1 ≠ it)
    (hkey : ∀ (k : Int) t C oC m₂ h tk (E' : Value → Shared → Prop), 0 ≤ k → k < al.size → LCg.NsObj oC m₂ → m₂ x = some (.int k t) → Fr h₀ L h m → News h₀ L h ((C, oC) :: news) →
      wpAny (model prog w) A (eval kx (compEnvC scope cl C env)) (KeyEnd al k { s₂ with heap := h, toks := tk }) E' { s₂ with heap := h, toks := tk })
    (hRR : ∀ D C h' tk m' kvs, s₂.heap.objs.size ≤ D → s₂.heap.get? D = none → s₂.heap.get? C = none → D ≠ C → h'.Ns C m' → h'.DictOf (intKind prog w) D kvs → IdxTo al al.size kvs →
      (∀ c o, c ∉ [it] → s₂.heap.get? c = some o → h'.get? c = some o) → RR (.ref D) C (.ok .next) { s₂ with heap := h', toks := tk }) :
    wpAny (model prog w) A newDict (fun acc s₃ => wpAny (model prog w) A (newFunctionEnv scope env.globals cl [] env.qual none .none (some env)) (fun cenv s₄ =>
      codeAny (model prog w) A (.compStart (.DictComp kx (.Name x pkx) [⟨.Name x px, iter, [], 0⟩] scope pos) 0 (.ref it) acc { cenv with scope := relabel scope env }) (RR acc cenv.locals) s₄) E s₃) E s₂ := by
  refine wpAny_newObj_type (wpAny_newFunctionEnv hcell (by intro y hy; simp at hy) (fun h₁ hns₁ hsb₁ => ?_) hkind)
  dsimp only at hns₁ hsb₁ ⊢
  have hnew : (s₂.heap.push { cls := .type "dict", dict := none, data := .dict #[] }).DictOf (intKind prog w) s₂.heap.objs.size [] := Heap.DictOf.new s₂.heap
  generalize hH2 : s₂.heap.push { cls := .type "dict", dict := none, data := .dict #[] } = H2 at hns₁ hsb₁ hnew ⊢
  have hC : H2.objs.size = s₂.heap.objs.size + 1 := by rw [← hH2, Heap.size_push]
  have hDC : s₂.heap.objs.size ≠ H2.objs.size := by rw [hC]; exact Nat.ne_of_lt (Nat.lt_succ_self _)
  have below : ∀ c, c < s₂.heap.objs.size → c ≠ H2.objs.size ∧ c ≠ s₂.heap.objs.size := fun c hb => ⟨by rw [hC]; exact Nat.ne_of_lt (Nat.lt_succ_of_lt hb), Nat.ne_of_lt hb⟩
  have hiD : it < s₂.heap.objs.size := Heap.lt_size hst0
  have old' : ∀ c o, s₂.heap.get? c = some o → h₁.get? c = some o := fun c o x => hsb₁.extBut c o (below c (Heap.lt_size x)).1 (Heap.get?_push_of_some _ (hH2 ▸ Heap.get?_push_of_some _ x))
  have hacc : h₁.DictOf (intKind prog w) s₂.heap.objs.size [] := hnew.at fun o x => hsb₁.extBut _ _ hDC (Heap.get?_push_of_some _ x)
  have fresh : ∀ a, s₂.heap.objs.size ≤ a → s₂.heap.get? a = none := fun a ha => by
    cases q : s₂.heap.get? a with
    | none => rfl
    | some o' => exact absurd (Heap.lt_size q) (Nat.not_lt.mpr ha)
  have fresh₀ : ∀ a, s₂.heap.objs.size ≤ a → h₀.get? a = none := fun a ha => by
    cases e : h₀.get? a with
    | none => rfl
    | some o' => have := F.keep a o' e; rw [fresh a ha] at this; cases this
  have hCL : H2.objs.size ≠ L := Ne.symm (below L F.ns.lt).1
  have W := LCg.range_walks (prog := prog) (w := w) (A := A) (I := it) hh 0 al.size
  have hst₁ : IsRangeIter h₁ it (0 + (0 : Nat) * 1) ((al.size : Int) - (0 : Nat)) 1 := old' _ _ hst0
  have loop : ∀ s₃ : Shared, s₃ = { s₂ with heap := h₁, toks := s₂.toks + ([] : List (Str × Value)).length } →
      codeAny (model prog w) A (.compLoop (.DictComp kx (.Name x pkx) [⟨.Name x px, iter, [], 0⟩] scope pos) 0 (.ref it) (.ref s₂.heap.objs.size) (compEnvC scope cl H2.objs.size env))
        (RR (.ref s₂.heap.objs.size) H2.objs.size) s₃ := by
    rintro s₃ rfl
    refine compLoop_pairD
      (fun k s' => ∃ h' tk i kvs m', s' = { s₂ with heap := h', toks := tk } ∧ i ≤ al.size ∧ k = al.size + 1 - i ∧ IsRangeIter h' it (0 + (i : Nat) * 1) ((al.size : Int) - (i : Nat)) 1 ∧ h'.DictOf (intKind prog w) s₂.heap.objs.size kvs ∧ IdxTo al i kvs ∧ h'.Ns H2.objs.size m' ∧
        (∀ c o, c ∉ [it] → s₂.heap.get? c = some o → h'.get? c = some o)) ?_ (al.size + 1)
      ⟨h₁, _, 0, [], _, rfl, Nat.zero_le _, rfl, hst₁, hacc, idx_start al, hns₁, fun c o _ x => old' c o x⟩
    rintro k s' ⟨h', tk, i, kvs, m', rfl, hi, rfl, hst, hd, hxx, hn', hk⟩
    have eC : H2.objs.size ∉ [it] := fun hm => (below it hiD).1 (List.mem_singleton.mp hm).symm
    have eD : s₂.heap.objs.size ∉ [it] := fun hm => (below it hiD).2 (List.mem_singleton.mp hm).symm
    by_cases hlt : i < al.size
    · refine W.item i _ _ _ hlt hst fun v h₂ tk₂ hP hst₂ hk₂ => ?_
      obtain ⟨t, rfl⟩ := hP
      refine wpAny_pure (wpAny_assign_Name (wpAny_storeName_local (env := compEnvC scope cl H2.objs.size env) (lookup_relabel_local hx) (hn'.at' fun o x => hk₂ _ o eC x) (fun h₄ hn₄ hs₄ => ?_) (by simp [compEnvC, relabel, hkind])))
      have up₄ : ∀ c o, c ∉ [it] → s₂.heap.get? c = some o → h₄.get? c = some o := fun c o hc' x => hs₄.extBut c o (below c (Heap.lt_size x)).1 (hk₂ c o hc' (hk c o hc' x))
      have F₄ : Fr h₀ L h₄ m := LCg.fr_but F up₄ hIL hI₀
      have N₄ : News h₀ L h₄ news := LCg.news_but N up₄ off
      obtain ⟨oC, goC, nC⟩ := LCg.ns_obj hn₄
      have N₅ : News h₀ L h₄ ((H2.objs.size, oC) :: news) := fun p hp => by
        rcases List.mem_cons.mp hp with rfl | hp
        · exact ⟨goC, hCL, fresh₀ _ (by rw [hC]; exact Nat.le_succ _)⟩
        · exact N₄ p hp
      have hmx : (fun z => if z = x then some (Value.int (0 + (i : Int)) t) else m' z) x = some (.int (0 + (i : Int)) t) := if_pos rfl
      refine wpAny_mono (hkey (0 + (i : Int)) t _ oC _ h₄ _ _ (by omega) (by omega) nC hmx F₄ N₅) (fun kv s₅ hq => ?_) fun _ _ e => e
      obtain ⟨t5, tk5, rfl, rfl⟩ := hq
      refine wpAny_Name (wpAny_loadName_local (env := compEnvC scope cl H2.objs.size env) hkind (lookup_relabel_local hx) hn₄ (if_pos rfl) ?_) hdx
      have hd₄ : h₄.DictOf (intKind prog w) s₂.heap.objs.size kvs := hd.at fun o x => hs₄.extBut _ o hDC (hk₂ _ o eD x)
      have ec : (0 + (i : Int)).toNat = i := by omega
      rw [ec]
      refine wpAny_dictSet_pairs (knd := intKind prog w) (k := (((octs al).getD i 0 : Nat) : Int)) (by simp [intKind, Value.isInt]) hd₄ (fun h₅ hd₅ hs₅ => ?_) (by rw [hxx.1, sizeLine_eq]; omega)
      have hx5 := idx_turn hn hxx hlt t
      rw [show (0 + (i : Int)) = (i : Int) by omega] at hd₅
      refine ⟨al.size + 1 - (i + 1), by omega, h₅, _, i + 1, _, _, rfl, hlt, rfl, ?_, hd₅, hx5, hn₄.sameBut hs₅ (Ne.symm hDC), fun c o hc' x => ?_⟩
      · have a1 := hs₄.extBut _ _ (below it hiD).1 hst₂
        exact hs₅.extBut _ _ (below it hiD).2 a1
      · exact hs₅.extBut c o (below c (Heap.lt_size x)).2 (up₄ c o hc' x)
    · have hin : i = al.size := Nat.le_antisymm hi (Nat.not_lt.mp hlt)
      subst hin
      refine W.done _ _ _ hst fun h₂ tk₂ hk₂ => ?_
      exact hRR _ _ h₂ tk₂ _ kvs (Nat.le_refl _) (fresh _ (Nat.le_refl _)) (fresh _ (by rw [hC]; exact Nat.le_succ _)) hDC (hn'.at' fun o x => hk₂ _ o eC x) (hd.at fun o x => hk₂ _ o eD x) hxx fun c o hc' x => hk₂ c o hc' (hk c o hc' x)
  refine codeAny_compStart_dict (loop _ rfl) ?_
  refine W.self 0 _ _ _ hst₁ (loop _ rfl)

theorem eval_rng_dict {kx iter : Expr} {x : Str} {px pkx : Pos} {scope : Scope} {cl : List (Str × Addr)} {pos : Pos} {Q : Value → Shared → Prop}
    (hclos : closureFor scope env = pure cl) (hcell : ∀ y ∈ scope.names, y.2 ≠ .cell) (hkind : scope.kind = .function)
    (hnames : ∀ y ∈ scope.names, y.2 = .local → scope.names.lookup y.1 = some .local) (hx : scope.names.lookup x = some .local) (hdx : (x == ("__debug__" : Str)) = false)
    (h : wpAny (model prog w) A (eval iter env) (RngSrc prog w A env kx x scope cl Q) E s)
    (hs : ∀ x, foldedSetIterable iter env x = pure x) :
    wpAny (model prog w) A (eval (.DictComp kx (.Name x pkx) [⟨.Name x px, iter, [], 0⟩] scope pos) env) Q E s := by
  rw [arm_eval_DictComp]
  refine wpAny_comprehension_free (use := none) rfl hs hclos hkind hnames (wpAny_mono h (fun xv s₁ h₁ => ?_) fun _ _ e => e)
  obtain ⟨al, r, t, u, v, h₀, L, m, news, rfl, hr, hn, hz, hh, F, N, hkey, hQ⟩ := h₁
  refine wpAny_pyIter_range hr (small_one (by omega) (by omega) (by omega) (by omega)) ?_
  have hsz : Builtin.Range.rangeSize 0 (al.size : Int) 1 = ((al.size : Nat) : Int) := by rw [rangeSize_nat]; omega
  have none0 : ∀ b, s₁.heap.objs.size ≤ b → h₀.get? b = none := fun b hb => by
    cases q : h₀.get? b with
    | none => rfl
    | some o => exact absurd (Heap.lt_size (F.keep b o q)) (Nat.not_lt.mpr hb)
  rw [hsz]
  refine rng_dict (al := al) (prog := prog) (w := w) (RR := fun acc C => compPost (model prog w) A E none Q acc C) (s₂ := { s₁ with heap := s₁.heap.push _ }) (it := s₁.heap.objs.size) (h₀ := h₀) (L := L) (m := m) (news := news) hn hz hh (by show IsRangeIter _ _ _ _ _; simpa using Heap.get?_push_size _ rfl) hcell hkind hx hdx
    (F.keeps fun _ _ e => Heap.get?_push_of_some _ e) (N.grown fun _ _ e => Heap.get?_push_of_some _ e) (Nat.ne_of_lt F.ns.lt) (none0 _ (Nat.le_refl _)) (fun p hp => Nat.ne_of_lt (Heap.lt_size (N p hp).1)) hkey ?_
  intro D C h' tk m' kvs hDz hD hC hDC hns hd hx' hk
  refine ⟨m', hns, fun h'' hs'' => ?_⟩
  have lt1 : ∀ b, b < s₁.heap.objs.size → b ∉ [s₁.heap.objs.size] := fun b hb hm => Nat.ne_of_lt hb (List.mem_singleton.mp hm)
  have keep : ∀ b o, s₁.heap.get? b = some o → h''.get? b = some o := fun b o x =>
    hs''.extBut b o (fun q => by
      have z1 := hC
      rw [← q] at z1
      have z := (Heap.get?_push_of_some _ x).symm.trans z1
      cases z) (hk b o (lt1 b (Heap.lt_size x)) (Heap.get?_push_of_some _ x))
  obtain ⟨o, hoD, hod⟩ := Heap.dictOf_iff.mp (hd.extBut hs''.extBut hDC)
  have hDge : s₁.heap.objs.size ≤ D := Nat.le_trans (by show _ ≤ (s₁.heap.push _).objs.size; rw [Heap.size_push]; exact Nat.le_succ _) hDz
  have hDL : D ≠ L := fun q => by
    have := F.ns.lt
    rw [← q] at this
    exact absurd this (Nat.not_lt.mpr hDge)
  exact hQ D o kvs h'' tk ⟨F.ns.at' fun o x => keep L o x, fun b o x => keep b o (F.keep b o x), F.above⟩
    (fun p hp => by
      rcases List.mem_cons.mp hp with rfl | hp
      · exact ⟨hoD, hDL, none0 _ hDge⟩
      · exact ⟨keep _ _ (N p hp).1, (N p hp).2⟩) hod hx' (fun p hp q => by
        have := Heap.lt_size (N p hp).1
        rw [q] at this
        exact absurd this (Nat.not_lt.mpr hDge)) (Nat.lt_of_lt_of_le F.ns.lt hDge)
end
end B58
-- LVm
open B58
theorem B58.c_signs2 (w : World) (kind start step size : Int) (t1 t2 t3 t4 : Tok) :
    CtrX 3 w 72 (fun _ => True) [.int kind t1, .int start t2, .int step t3, .int size t4] [] (fun h₀ L m news s Q => ∀ al, AlOkb kind al → Ret h₀ L m news s Q (fun t => .bytes al t)) := by
  unfold CtrX
  intro mean mg mb dp un gd cn sn sg sc sm a ccd cl outer A₀ base h₀ L m s news Q E hpre B F X N T hd hu hret
  exact c_signs w kind start step size t1 t2 t3 t4 mean mg mb dp un gd cn sn sg sc sm a ccd cl outer A₀ base h₀ L m s news Q E hpre B F X N T hd hu (hret _ (al_okb kind start step size))
local macro_rules | `(tactic| walk_at "call ref") => `(tactic| (k_here; (show wpAny _ _ (call (Value.ref 67) _ _) _ _ _); k_dflt (refine' CtrX.use (c_draw _ _ _ _ _ _ ?h1 ?h2 ?h3) ?k0 ?k1 ?k2 ?k3 ?k4 ?k5 ?k6 ?k7 ?_; (case k0 => exact ⟨by is_list, by assumption⟩); (case k1 => k_asm); (case k2 => k_asm); (case k3 => k_asm); (case k4 => k_asm); (case k5 => k_asm); (case h1 => walk_at "ints"); (case h2 => walk_at "ints"); (case h3 => walk_at "ints"); (case k6 => ktr_room); (case k7 => ktr_units); intro t9 h9 tk9 K9 F9 N9; clear K9; (try dsimp only); (try k_fold))))
local macro_rules | `(tactic| walk_at "call ref") => `(tactic| (k_here; (show wpAny _ _ (call (Value.ref 72) _ _) _ _ _); k_dflt (refine' CtrX.use (c_signs2 _ _ _ _ _ _ _ _ _) trivial ?k1 ?k2 ?k3 ?k4 ?k5 ?k6 ?k7 ?_; (case k1 => k_asm); (case k2 => k_asm); (case k3 => k_asm); (case k4 => k_asm); (case k5 => k_asm); (case k6 => ktr_room); (case k7 => ktr_units); intro al9 hAl t9 h9 tk9 F9 N9; (have hAl5 := hAl.toAlOk); (have hAl1 := hAl5.lo); (have hAl2 := hAl.few); (try dsimp only); (try k_fold))))
local macro_rules | `(tactic| walk_at "call ref") => `(tactic| (k_here; (show wpAny _ _ (call (Value.ref 91) _ _) _ _ _); k_dflt (refine' CtrX.use (c_text ?hA _ _ _ _ _ ?h3) ?k0 ?k1 ?k2 ?k3 ?k4 ?k5 ?k6 ?k7 ?_; (case hA => k_asm); (case k0 => exact ⟨by is_list, by assumption⟩); (case k1 => k_asm); (case k2 => k_asm); (case k3 => k_asm); (case k4 => k_asm); (case k5 => k_asm); (case h3 => walk_at "ints"); (case k6 => ktr_room); (case k7 => ktr_units); intro D9 vs9 ns9 c9 h9 tk9 hR9 F9 N9 I9 kO9; (try dsimp only); (try simp only [List.forall_mem_cons, List.not_mem_nil, false_implies, implies_true, and_true] at kO9); (try k_fold))))
local macro_rules | `(tactic| walk_at "eval DictComp") => `(tactic| (k_here; k_dflt (refine' B58.eval_rng_dict ?c1 ?c2 ?c3 ?c4 ?c5 ?c6 ?_ ?c7; (case c1 => with_unfolding_all rfl); (case c2 => decide); (case c3 => rfl); (case c4 => decide); (case c5 => rfl); (case c6 => decide); (case c7 => intro _; with_unfolding_all rfl))))
theorem B58.rngSrc {prog : Program} {w : World} {A : Around} {env : Env} {kx : PySem.Expr} {x : Str} {scope : Scope} {cl : List (Str × Addr)} {Q : Value → Shared → Prop} {s₁ : Shared} {kind : Int} {al : Array UInt8} {r : Addr} {t u v : Tok} {h₀ : Heap} {L : Addr} {m : Str → Option Value} {news : List (Addr × Obj)}
    (hA : AlOk kind al) (hr : IsRange s₁.heap r 0 (al.size : Int) 1 t u v) (hh : A.handled = none) (F : Fr h₀ L s₁.heap m) (N : News h₀ L s₁.heap news)
    (turn : ∀ (k : Int) t C oC m₂ h tk (E' : Value → Shared → Prop), 0 ≤ k → k < al.size → LCg.NsObj oC m₂ → m₂ x = some (.int k t) → Fr h₀ L h m → News h₀ L h ((C, oC) :: news) →
      wpAny (model prog w) A (eval kx (PySem.compEnvC scope cl C env)) (KeyEnd al k { s₁ with heap := h, toks := tk }) E' { s₁ with heap := h, toks := tk })
    (fin : ∀ (D : Addr) (o : Obj) (kvs : List (Int × Value)) (h' : Heap) (tk : Nat), Fr h₀ L h' m → News h₀ L h' ((D, o) :: news) → o.IsDictOf (intKind prog w) kvs → IdxTo al al.size kvs → (∀ p ∈ news, @Ne Nat p.1 D) → @LT.lt Nat _ L D → Q (.ref D) { s₁ with heap := h', toks := tk }) :
    RngSrc prog w A env kx x scope cl Q (.ref r) s₁ := ⟨al, r, t, u, v, h₀, L, m, news, rfl, hr, hA.nd, hA.hi, hh, F, N, turn, fin⟩
local macro_rules | `(tactic| walk_at "RngSrc") => `(tactic| (k_here; k_dflt (refine' B58.rngSrc ?A ?r ?hh ?F ?N ?_ ?_; (case A => k_asm); (case r => k_asm); (case hh => rfl); (case F => k_asm); (case N => k_asm)); rotate_left; (intro D9 o9 kvs9 h9 tk9 F9 N9 kD9 kI9 kO9 kS9; (have kLo9 := B58.sys_ne kS9 F9 (by assumption)); (try simp only [List.forall_mem_cons, List.not_mem_nil, false_implies, implies_true, and_true] at kO9); (try dsimp only); (try k_fold)); rotate_left; (intro k' t' C' oC' m' h' tk' E' hlo' hhi' hC' hx' F' N'; (try dsimp only); (try k_fold))))
local macro_rules | `(tactic| walk_at "KeyEnd") => `(tactic| (refine' B58.keyEnd_ ?e; (case e => exact rfl)))
local macro_rules | `(tactic| walk_at "eval Call") => `(tactic| (k_here; (with_reducible show wpAny _ _ (eval (PySem.Expr.Call (PySem.Expr.Name _ _) _ [] _) _) _ _ _); k_dflt (refine Call_ ?_)))
local macro_rules | `(tactic| walk_at "call ref") => `(tactic| (k_here; (show wpAny _ _ (call (Value.ref 60) [Value.bytes _ _] _) _ _ _); k_dflt (refine' CtrV.use (c_decV1 ?A ?z ?e _ _) ?k8 ?k9 ?k1 ?k2 ?k3 ?k4 ?k5 ?k6 ?k7 ?_ ?_; (case k1 => k_asm); (case k8 => k_asm); (case k9 => k_asm); (case k2 => k_asm); (case k3 => k_asm); (case k4 => k_asm); (case k5 => k_asm); (case A => k_asm); (case z => k_asm); (case e => k_asm); (case k6 => ktr_room); (case k7 => ktr_units)); first | (rotate_left; (intro kNo9; exact absurd (by assumption) kNo9); intro kOk9 t9 h9 tk9 F9 N9; (try dsimp only); (try k_fold)) | ((intro kOk9; exact absurd kOk9 (by assumption)); intro kNo9 e9 h9 tk9 R9 U9; (try dsimp only))))
local macro_rules | `(tactic| walk_at "call ref") => `(tactic| (k_here; (show wpAny _ _ (call (Value.ref 60) [Value.bytes _ _, Value.bytes _ _] _) _ _ _); k_dflt (refine' CtrV.use (c_decV ?A ?z ?e _ _ _) ?k8 ?k9 ?k1 ?k2 ?k3 ?k4 ?k5 ?k6 ?k7 ?_ ?_; (case k1 => k_asm); (case k8 => k_asm); (case k9 => k_asm); (case k2 => k_asm); (case k3 => k_asm); (case k4 => k_asm); (case k5 => k_asm); (case A => k_asm); (case z => k_asm); (case e => first | exact rfl | exact (AlOk.k1 (by assumption) (by assumption)).symm); (case k6 => ktr_room); (case k7 => ktr_units)); first | (rotate_left; (intro kNo9; exact absurd (by assumption) kNo9); intro kOk9 t9 h9 tk9 F9 N9; (try dsimp only); (try k_fold)) | ((intro kOk9; exact absurd kOk9 (by assumption)); intro kNo9 e9 h9 tk9 R9 U9; (try dsimp only))))
local macro_rules | `(tactic| walk_at "call ref") => `(tactic| (k_here; (show wpAny _ _ (call (Value.ref 60) [Value.str _ _, Value.bytes _ _] _) _ _ _); k_dflt (refine' CtrV.use (c_decVS ?A ?z ?a ?p _ _ _) ?k8 ?k9 ?k1 ?k2 ?k3 ?k4 ?k5 ?k6 ?k7 ?_ ?_; (case k1 => k_asm); (case k8 => k_asm); (case k9 => k_asm); (case k2 => k_asm); (case k3 => k_asm); (case k4 => k_asm); (case k5 => k_asm); (case A => k_asm); (case z => k_asm); (case a => k_asm); (case p => k_asm); (case k6 => ktr_room); (case k7 => ktr_units)); first | (rotate_left; (intro kNo9; exact absurd (by assumption) kNo9); intro kOk9 t9 h9 tk9 F9 N9; (try dsimp only); (try k_fold)) | ((intro kOk9; exact absurd kOk9 (by assumption)); intro kNo9 e9 h9 tk9 R9 U9; (try dsimp only))))
local macro_rules | `(tactic| walk_at "call ref") => `(tactic| (k_here; (show wpAny _ _ (call (Value.ref 51) [Value.bytes _ _] _) _ _ _); k_dflt (refine' CtrV.use (c_dintV1 ?A ?z ?e _ _) ?k8 ?k9 ?k1 ?k2 ?k3 ?k4 ?k5 ?k6 ?k7 ?_ ?_; (case k1 => k_asm); (case k8 => k_asm); (case k9 => k_asm); (case k2 => k_asm); (case k3 => k_asm); (case k4 => k_asm); (case k5 => k_asm); (case A => k_asm); (case z => k_asm); (case e => k_asm); (case k6 => ktr_room); (case k7 => ktr_units)); first | (rotate_left; (intro kNo9; exact absurd (by assumption) kNo9); intro kOk9 t9 h9 tk9 F9 N9; (try dsimp only); (try k_fold)) | ((intro kOk9; exact absurd kOk9 (by assumption)); intro kNo9 e9 h9 tk9 R9 U9; (try dsimp only))))
local macro_rules | `(tactic| walk_at "call ref") => `(tactic| (k_here; (show wpAny _ _ (call (Value.ref 51) [Value.bytes _ _, Value.bytes _ _] _) _ _ _); k_dflt (refine' CtrV.use (c_dintV ?A ?z ?e _ _ _) ?k8 ?k9 ?k1 ?k2 ?k3 ?k4 ?k5 ?k6 ?k7 ?_ ?_; (case k1 => k_asm); (case k8 => k_asm); (case k9 => k_asm); (case k2 => k_asm); (case k3 => k_asm); (case k4 => k_asm); (case k5 => k_asm); (case A => k_asm); (case z => k_asm); (case e => first | exact rfl | exact (AlOk.k1 (by assumption) (by assumption)).symm); (case k6 => ktr_room); (case k7 => ktr_units)); first | (rotate_left; (intro kNo9; exact absurd (by assumption) kNo9); intro kOk9 t9 h9 tk9 F9 N9; (try dsimp only); (try k_fold)) | ((intro kOk9; exact absurd kOk9 (by assumption)); intro kNo9 e9 h9 tk9 R9 U9; (try dsimp only))))
local macro_rules | `(tactic| walk_at "call ref") => `(tactic| (k_here; (show wpAny _ _ (call (Value.ref 51) [Value.str _ _, Value.bytes _ _] _) _ _ _); k_dflt (refine' CtrV.use (c_dintVS ?A ?z ?a ?p _ _ _) ?k8 ?k9 ?k1 ?k2 ?k3 ?k4 ?k5 ?k6 ?k7 ?_ ?_; (case k1 => k_asm); (case k8 => k_asm); (case k9 => k_asm); (case k2 => k_asm); (case k3 => k_asm); (case k4 => k_asm); (case k5 => k_asm); (case A => k_asm); (case z => k_asm); (case a => k_asm); (case p => k_asm); (case k6 => ktr_room); (case k7 => ktr_units)); first | (rotate_left; (intro kNo9; exact absurd (by assumption) kNo9); intro kOk9 t9 h9 tk9 F9 N9; (try dsimp only); (try k_fold)) | ((intro kOk9; exact absurd kOk9 (by assumption)); intro kNo9 e9 h9 tk9 R9 U9; (try dsimp only))))
local macro_rules | `(tactic| walk_at "eval IfExp") => `(tactic| (k_here; (show wpAny _ _ (eval (PySem.Expr.IfExp (PySem.Expr.Compare _ _ [PySem.Expr.Constant (Const.int 1) _ _] _) (PySem.Expr.Name _ _) (PySem.Expr.Name _ _) _) _) _ _ _); (fail_if_success (show wpAny _ _ _ (B58.GivenCut _ _ _ _ _ _) _ _)); k_dflt (refine' B58.cut_given ?A ?F ?N ?_ ?_; (case A => k_asm); (case F => k_asm); (case N => k_asm); rotate_left; intro t9 h9 tk9 F9 N9; (try dsimp only); (try k_fold); rotate_left)))
local macro_rules | `(tactic| walk_at "GivenCut") => `(tactic| (refine' B58.given_ ?e ?F ?N; (case F => k_asm); (case N => k_asm); (case e => first | exact rfl | exact (AlOk.k1 (by assumption) (by assumption)).symm)))
local macro_rules | `(tactic| walk_at "CutVal") => `(tactic| (refine' B58.val_ ?F (B58.news_of ?N ?S); (case F => k_asm); (case N => k_asm); (case S => kcf_all)))
local macro_rules | `(tactic| walk_at "exec Try") => `(tactic| (k_here; (with_reducible show wpAny _ _ (exec (Stmt.Try _ (_ :: _) _ [] _) _) _ _ _); (show wpAny _ _ _ (B58.CutVal _ _ _ _ _ _ _) _ _); k_dflt (refine wpAny_Try_except ?_)))
local macro_rules | `(tactic| walk_at "noteFrame ref") => `(tactic| (k_here; k_dflt (refine' B58.caught_top (T' := "ValueError") ?R ?F ?N ?U ?fr ?f PySem.F.isExc_ValueError PySem.F.notTuple_ValueError ?s ?nm ?_; (case R => k_asm); (case F => k_asm); (case N => k_asm); (case U => k_asm); (case fr => exact rfl); (case f => exact rfl); (case s => (rw [isSubtype_type]; kernel_rfl)); (case nm => (intro h' A' Q' E' F' N' hq'; walk_at "eval Name"; exact hq'))); intro h' F' N'; (try dsimp only); (try k_fold)))
local macro_rules | `(tactic| walk_at "exec Try") => `(tactic| (k_here; (with_reducible show wpAny _ _ (exec (Stmt.Try [Stmt.Assign [PySem.Expr.Name (PySem.Str.ofString "got") _] _ _] _ _ _ _) _) _ _ _); (fail_if_success (show wpAny _ _ _ (B58.CutVal _ _ _ _ _ _ _) _ _)); k_dflt (refine' B58.cut_refused (PySem.Str.ofString "got") ?F ?N ?_ ?_; (case F => k_asm); (case N => k_asm); rotate_left; intro t9 h9 tk9 F9 N9; (try dsimp only); (try k_fold); rotate_left)))
local macro_rules | `(tactic| walk_at "exec Try") => `(tactic| (k_here; (with_reducible show wpAny _ _ (exec (Stmt.Try [Stmt.Assign [PySem.Expr.Name (PySem.Str.ofString "number") _] _ _] _ _ _ _) _) _ _ _); (fail_if_success (show wpAny _ _ _ (B58.CutVal _ _ _ _ _ _ _) _ _)); k_dflt (refine' B58.cut_refused (PySem.Str.ofString "number") ?F ?N ?_ ?_; (case F => k_asm); (case N => k_asm); rotate_left; intro t9 h9 tk9 F9 N9; (try dsimp only); (try k_fold); rotate_left)))
local macro_rules | `(tactic| walk_at "exec Try") => `(tactic| (k_here; (with_reducible show wpAny _ _ (exec (Stmt.Try [Stmt.Assign [PySem.Expr.Name (PySem.Str.ofString "told") _] _ _] _ _ _ _) _) _ _ _); (fail_if_success (show wpAny _ _ _ (B58.CutVal _ _ _ _ _ _ _) _ _)); k_dflt (refine' B58.cut_refused (PySem.Str.ofString "told") ?F ?N ?_ ?_; (case F => k_asm); (case N => k_asm); rotate_left; intro t9 h9 tk9 F9 N9; (try dsimp only); (try k_fold); rotate_left)))
local macro_rules | `(tactic| walk_at "exec Try") => `(tactic| (k_here; (with_reducible show wpAny _ _ (exec (Stmt.Try [Stmt.Assign [PySem.Expr.Name (PySem.Str.ofString "asked") _] _ _] _ _ _ _) _) _ _ _); (fail_if_success (show wpAny _ _ _ (B58.CutVal _ _ _ _ _ _ _) _ _)); k_dflt (refine' B58.cut_refused (PySem.Str.ofString "asked") ?F ?N ?_ ?_; (case F => k_asm); (case N => k_asm); rotate_left; intro t9 h9 tk9 F9 N9; (try dsimp only); (try k_fold); rotate_left)))
local macro_rules | `(tactic| walk_at "exec Try") => `(tactic| (k_here; (with_reducible show wpAny _ _ (exec (Stmt.Try [Stmt.Assign [PySem.Expr.Name (PySem.Str.ofString "got") _] _ _] _ _ _ _) _) _ _ _); (fail_if_success (show wpAny _ _ _ (B58.CutVal _ _ _ _ _ _ _) _ _)); k_dflt (refine' B58.cut_bytes (PySem.Str.ofString "got") ?A ?V ?o ?F ?N ?_ ?_; (case A => k_asm); (case V => k_asm); (case o => k_asm); (case F => k_asm); (case N => k_asm); rotate_left; intro t9 h9 tk9 F9 N9; (try dsimp only); (try k_fold); rotate_left)))
local macro_rules | `(tactic| walk_at "exec Try") => `(tactic| (k_here; (with_reducible show wpAny _ _ (exec (Stmt.Try [Stmt.Assign [PySem.Expr.Name (PySem.Str.ofString "told") _] _ _] _ _ _ _) _) _ _ _); (fail_if_success (show wpAny _ _ _ (B58.CutVal _ _ _ _ _ _ _) _ _)); k_dflt (refine' B58.cut_bytesS (PySem.Str.ofString "told") ?A ?V ?o ?a ?F ?N ?_ ?_; (case A => k_asm); (case V => k_asm); (case o => k_asm); (case a => k_asm); (case F => k_asm); (case N => k_asm); rotate_left; intro t9 h9 tk9 F9 N9; (try dsimp only); (try k_fold); rotate_left)))
local macro_rules | `(tactic| walk_at "exec Try") => `(tactic| (k_here; (with_reducible show wpAny _ _ (exec (Stmt.Try [Stmt.Assign [PySem.Expr.Name (PySem.Str.ofString "number") _] _ _] _ _ _ _) _) _ _ _); (fail_if_success (show wpAny _ _ _ (B58.CutVal _ _ _ _ _ _ _) _ _)); k_dflt (refine' B58.cut_intV (PySem.Str.ofString "number") ?A ?V ?o ?F ?N ?_ ?_; (case A => k_asm); (case V => k_asm); (case o => k_asm); (case F => k_asm); (case N => k_asm); rotate_left; intro t9 h9 tk9 F9 N9; (try dsimp only); (try k_fold); rotate_left)))
local macro_rules | `(tactic| walk_at "exec Try") => `(tactic| (k_here; (with_reducible show wpAny _ _ (exec (Stmt.Try [Stmt.Assign [PySem.Expr.Name (PySem.Str.ofString "asked") _] _ _] _ _ _ _) _) _ _ _); (fail_if_success (show wpAny _ _ _ (B58.CutVal _ _ _ _ _ _ _) _ _)); k_dflt (refine' B58.cut_intS (PySem.Str.ofString "asked") ?A ?V ?o ?a ?F ?N ?_ ?_; (case A => k_asm); (case V => k_asm); (case o => k_asm); (case a => k_asm); (case F => k_asm); (case N => k_asm); rotate_left; intro t9 h9 tk9 F9 N9; (try dsimp only); (try k_fold); rotate_left)))
local macro_rules | `(tactic| walk_at "exec While BoolOp cons nil") => `(tactic| (k_here; k_dflt (refine' B58.trim_cut ?R ?F ?N ?x ?m ?i ?_ ?_; (case R => k_asm); (case F => k_asm); (case N => k_asm); (case x => exact rfl); (case m => k_mem); (case i => k_asm)); rotate_left; (intro D9 vs9 c9 ns9 rs9 h9 tk9 F9 N9 hI9 hE9 hB9 hL9; (have hTr9 := B58.trim_eq (by assumption) (by assumption) hE9 hB9 hL9); (have hRl9 := B58.row_len (by assumption) hE9); (have hRl8 := hRl9.1); (have hRl7 := hRl9.2); (try dsimp only); (try k_fold)); rotate_left; (intro D9 vs9 c9 ns9 h9 tk9 hI9 hL9 hG9 F9 N9; (try dsimp only); (try k_fold))))
local macro_rules | `(tactic| walk_at "truthy ref") => `(tactic| (k_here; (with_reducible show wpAny _ _ (truthy (Value.ref _)) _ _ _); k_dflt (refine' B58.truthy_row ?N ?m ?i ?l ?_ ?_; (case N => k_asm); (case m => k_mem); (case i => k_asm); (case l => k_asm)) <;> (intro hT9 tk9; (try dsimp only))))
local macro_rules | `(tactic| walk_at "subscriptTail") => `(tactic| (k_here; (with_reducible show wpAny _ _ (subscriptTail _ _ (Value.ref _) (Value.int _ _)) _ _ _); k_dflt (refine' B58.item_last ?N ?m ?i ?e ?g ?_; (case N => k_asm); (case m => k_mem); (case i => k_asm); (case e => k_asm); (case g => k_asm)); intro l9 t9 hl9 hg9; (k_dflt (have hg8 := hg9.1)); (k_dflt (have hg7 := hg9.2.1))))
local macro_rules | `(tactic| walk_at "compareOp In") => `(tactic| (k_here; (with_reducible show wpAny _ _ (compareOp _ (Value.int _ _) (Value.bytes _ _)) _ _ _); k_dflt (refine B58.in_int (by omega) (by omega) ?_)))
local macro_rules | `(tactic| walk_at "TrimTest") => `(tactic| first
  | (refine' B58.trimTest_f ?l ?F ?N; (case F => k_asm); (case N => k_asm); (case l => first | exact B58.last_nil (by assumption) | exact B58.blank_not (by assumption) (by assumption) (by first | assumption | simpa using (by assumption))))
  | (refine' B58.trimTest_t (B := True) ?l ?b ?_; (case l => assumption); (case b => exact B58.blank_mem (by assumption) (by first | assumption | simpa using (by assumption)))))
local macro_rules | `(tactic| walk_at "TrimStep") => `(tactic| (refine' B58.trimStep_ ?F ?N ?m ?s ?i; (case F => first | k_asm | exact B58.fr_twice (by k_asm)); (case N => k_asm); (case m => k_mem); (case s => kcf_all); (case i => k_asm)))
local macro_rules | `(tactic| walk_at "exec Assign cons ListComp") => `(tactic| (k_here; (show wpAny _ _ (exec (Stmt.Assign _ (PySem.Expr.ListComp (PySem.Expr.Subscript (PySem.Expr.Name _ _) (PySem.Expr.Name _ _) _) [⟨_, _, [_], _⟩] _ _) _) _) _ _ _); k_dflt (refine LCt.Assign_ListComp_T (F₀ := by k_asm) (by rfl) (by with_unfolding_all rfl) (by with_unfolding_all rfl) (by decide) (by rfl) (by decide) (by rfl) (by rfl) (by rfl) ?_)))
local macro_rules | `(tactic| walk_at "CompSrcT") => `(tactic| (k_here; k_dflt (refine' B58.csrcT_ranksY ?T ?o ?A ?hh ?F ?N ?m ?i ?l ?g ?_ ?_; (case T => with_reducible assumption); (case o => with_reducible assumption); (case A => k_asm); (case hh => rfl); (case F => k_asm); (case N => k_asm); (case m => k_mem); (case i => k_asm); (case l => k_asm); (case g => k_asm)); rotate_left; (intro ys9 D' h' tk' hI9 hLn9 F' N' o1'; (try simp only [LCg.Off1, and_true] at o1'); (try dsimp only); (try k_fold)); rotate_left; (intro k' t' I' oI' C' oC' D' m' ys' h' tk' E' hg' hC' hx' F' N'; (k_dflt (have hg8 := hg'.1)); (try dsimp only); (try k_fold))))
local macro_rules | `(tactic| walk_at "CompSrcT") => `(tactic| (k_here; k_dflt (refine' B58.csrcT_ranksN ?T ?o ?A ?hh ?F ?N ?m ?i ?l ?g ?_ ?_; (case T => with_reducible assumption); (case o => with_reducible assumption); (case A => k_asm); (case hh => rfl); (case F => k_asm); (case N => k_asm); (case m => k_mem); (case i => k_asm); (case l => k_asm); (case g => k_asm)); rotate_left; (intro ys9 rs9 D' h' tk' hI9 hLn9 F' N' o1'; (try simp only [LCg.Off1, and_true] at o1'); (try dsimp only); (try k_fold)); rotate_left; (intro k' t' I' oI' C' oC' D' m' ys' h' tk' E' hg' hC' hx' F' N'; (k_dflt (have hg8 := hg'.1)); (try dsimp only); (try k_fold))))
local macro_rules | `(tactic| walk_at "compareOp In") => `(tactic| (k_here; (with_reducible show wpAny _ _ (compareOp _ (Value.int _ _) (Value.ref _)) _ _ _); k_dflt (refine' B58.in_places ?A ?N ?m ?d ?x ?l ?z ?_; (case A => k_asm); (case N => k_asm); (case m => k_mem); (case d => with_reducible assumption); (case x => with_reducible assumption); (case l => with_reducible assumption); (case z => with_reducible assumption))))
local macro_rules | `(tactic| walk_at "compareOp In int ref") => `(tactic| (k_here; (with_reducible show wpAny _ _ (compareOp _ (Value.int _ _) (Value.ref _)) _ _ _); k_dflt (refine' B58.in_places ?A ?N ?m ?d ?x ?l ?z ?_; (case A => k_asm); (case N => k_asm); (case m => k_mem); (case d => with_reducible assumption); (case x => with_reducible assumption); (case l => with_reducible assumption); (case z => with_reducible assumption))))
local macro_rules | `(tactic| walk_at "TstI") => `(tactic| (refine' B58.tstI_ ?e ?F ?N ?_; (case F => k_asm); (case N => k_asm); (case e => exact rfl); intro hOk9))
local macro_rules | `(tactic| walk_at "subscriptTail") => `(tactic| (k_here; (with_reducible show wpAny _ _ (subscriptTail _ _ (Value.ref _) (Value.int _ _)) _ _ _); k_dflt (refine' B58.idx_yes ?A ?N ?m ?d ?x ?z ?c ?_; (case A => k_asm); (case N => k_asm); (case m => k_mem); (case d => with_reducible assumption); (case x => with_reducible assumption); (case z => with_reducible assumption); (case c => with_reducible assumption)); intro t9 k9))
local macro_rules | `(tactic| walk_at "call builtin:len") => `(tactic| (k_here; (with_reducible show wpAny _ _ (call (Value.builtin "len") [Value.ref _]) _ _ _); k_dflt (refine' B58.len_row ?N ?m ?i ?z ?_; (case N => k_asm); (case m => k_mem); (case i => with_reducible assumption); (case z => first | omega | ((rw [List.length_map]); omega)); intro _ _)))
theorem B58.len_ranks {prog : Program} {w : World} {A : Around} {E : Value → Shared → Prop} {s : Shared} {h₀ : Heap} {L D : Addr} {news : List (Addr × Obj)} {vs : List Value} {ms : List Nat} {n : Nat} {Q : Value → Shared → Prop} (N : News h₀ L s.heap news) (hm : (D, listOf vs.toArray n) ∈ news) (hi : IntsAre vs (ms.map fun d => ((d : Nat) : Int))) (hn : ms.length ≤ 100) (h : ∀ t k, Q (.int (ms.length : Int) t) { s with toks := k }) : wpAny (model prog w) A (call (.builtin "len") [.ref D]) Q E s :=
  B58.len_row N hm hi (by rw [List.length_map]; exact hn) (by rw [List.length_map]; exact h)
local macro_rules | `(tactic| walk_at "call builtin:len") => `(tactic| (k_here; (with_reducible show wpAny _ _ (call (Value.builtin "len") [Value.ref _]) _ _ _); k_dflt (refine' B58.len_ranks ?N ?m ?i ?z ?_; (case N => k_asm); (case m => k_mem); (case i => with_reducible assumption); (case z => omega); intro _ _)))
-- PM
namespace B58
open PySem PySem.W PyProof.Rows PySem.Calls PySem.Spec PySem.Builtin
/-! plain law 02: what the law wants is what b58decode gives -/
theorem rk_zero {kind : Int} {al : Array UInt8} (hA : AlOk kind al) {c : UInt8} (hc : c.toNat ∈ octs al) : rk al c.toNat = 0 ↔ c = sign al 0 := by
  constructor
  · intro h
    have hlt := List.idxOf_lt_length_of_mem hc
    have hg := List.getElem_idxOf hlt
    have h' : (octs al).idxOf c.toNat = 0 := h
    have h0 : 0 < al.size := by have := hA.lo; omega
    have e := sign_get (al := al) (d := 0) h0
    apply UInt8.toNat_inj.mp
    rw [e, ← hg]
    congr 1
  · intro h
    rw [h]
    exact rk_sign hA.nd (by have := hA.lo; omega)
theorem lead_cons (d : Nat) (l : List Nat) : lead (d :: l) = if d = 0 then lead l + 1 else 0 := by
  unfold lead
  rw [List.takeWhile_cons]
  by_cases h : d = 0
  · subst h; simp
  · have : (d == 0) = false := beq_false_of_ne h
    rw [this, if_neg h]; rfl
theorem lead_rk {kind : Int} {al : Array UInt8} (hA : AlOk kind al) : ∀ l : List UInt8, (∀ c ∈ l, c.toNat ∈ octs al) →
    lead ((l.map (·.toNat)).map (rk al)) + (l.dropWhile (#[sign al 0] : Array UInt8).contains).length = l.length ∧
    valN al.size (((l.dropWhile (#[sign al 0] : Array UInt8).contains).map (·.toNat)).map (rk al)) = valN al.size ((l.map (·.toNat)).map (rk al)) := by
  intro l
  induction l with
  | nil => intro _; exact ⟨rfl, rfl⟩
  | cons a l ih =>
    intro h
    have i := ih fun c hc => h c (List.mem_cons_of_mem _ hc)
    have hz := rk_zero hA (h a List.mem_cons_self)
    rw [List.dropWhile_cons, one_contains, List.map_cons, List.map_cons, lead_cons]
    by_cases e : a = sign al 0
    · rw [if_pos (hz.mpr e), if_pos (by rw [e]; exact beq_self_eq_true _), hz.mpr e, val_zero, List.length_cons]
      exact ⟨by omega, i.2⟩
    · rw [if_neg (fun q => e (hz.mp q)), if_neg (by rw [beq_false_of_ne e]; decide)]
      exact ⟨by rw [Nat.zero_add], rfl⟩
theorem want2 {kind : Int} {al v : Array UInt8} (hA : AlOk kind al) (ho : okIn al (octs (rstrip v))) :
    byteArr (List.replicate (lead ((octs (rstrip v)).map (rk al))) (0 : Int) ++ (digs 256 (valN al.size ((octs (rstrip v)).map (rk al)))).map fun d => ((d : Nat) : Int)) = decB al (rstrip v) := by
  have key := lead_rk hA (rstrip v).toList fun c hc => ho _ (octs_mem9.mpr hc)
  unfold decB decN
  rw [strip_id]
  have e1 : valN al.size (List.map (rk al) (octs (lstrip (rstrip v) #[sign al 0]))) = valN al.size ((octs (rstrip v)).map (rk al)) := key.2
  have e2 : (rstrip v).size - (lstrip (rstrip v) #[sign al 0]).size = lead ((octs (rstrip v)).map (rk al)) := by
    have h1 : lead ((octs (rstrip v)).map (rk al)) + (lstrip (rstrip v) #[sign al 0]).size = (rstrip v).size := by
      unfold lstrip octs
      rw [List.size_toArray]
      have := key.1
      simpa using this
    omega
  rw [e1, e2]
  unfold byteArr octN
  rw [List.map_append, List.map_replicate, List.map_map]
  rfl
theorem sign_rk {al : Array UInt8} {c : UInt8} (hc : c.toNat ∈ octs al) : sign al (rk al c.toNat) = c := by
  have hlt := List.idxOf_lt_length_of_mem hc
  have hlt' : rk al c.toNat < al.size := by have := hlt; rw [octs_length] at this; exact this
  apply UInt8.toNat_inj.mp
  rw [sign_get hlt']
  exact List.getElem_idxOf hlt
theorem drop_head {α : Type} (p : α → Bool) (l : List α) : ∀ d r, l.dropWhile p = d :: r → p d = false := by
  intro d r e
  have h := List.head?_dropWhile_not p l
  rw [e] at h
  exact h
theorem rep_drop (s : UInt8) : ∀ l : List UInt8, List.replicate (l.length - (l.dropWhile (#[s] : Array UInt8).contains).length) s ++ l.dropWhile (#[s] : Array UInt8).contains = l := by
  intro l
  induction l with
  | nil => rfl
  | cons a l ih =>
    rw [List.dropWhile_cons, one_contains]
    by_cases e : a = s
    · subst e
      have hle := drop_size_le (p := (#[a] : Array UInt8).contains) l
      rw [if_pos (beq_self_eq_true _), List.length_cons, show l.length + 1 - (l.dropWhile (#[a] : Array UInt8).contains).length = (l.length - (l.dropWhile (#[a] : Array UInt8).contains).length) + 1 by omega, List.replicate_succ, List.cons_append, ih]
    · rw [if_neg (by rw [beq_false_of_ne e]; decide), Nat.sub_self]; rfl
/-- the number's signs are the text without its first signs -/
theorem encN_back {kind : Int} {al u : Array UInt8} (hA : AlOk kind al) (ho : okIn al (octs u)) : encN al (valN al.size ((octs u).map (rk al))) = (lstrip u #[sign al 0]).toList := by
  have hm : ∀ c ∈ u.toList, c.toNat ∈ octs al := fun c hc => ho _ (octs_mem9.mpr hc)
  have key := lead_rk hA u.toList hm
  have hm2 : ∀ c ∈ u.toList.dropWhile (#[sign al 0] : Array UInt8).contains, c.toNat ∈ octs al := fun c hc => hm c ((List.dropWhile_sublist _).subset hc)
  show (digs al.size (valN al.size ((u.toList.map (·.toNat)).map (rk al)))).map (sign al) = u.toList.dropWhile (#[sign al 0] : Array UInt8).contains
  rw [← key.2, digs_valN hA.lo]
  · rw [List.map_map, List.map_map]
    conv => rhs; rw [← List.map_id (u.toList.dropWhile (#[sign al 0] : Array UInt8).contains)]
    exact List.map_congr_left fun c hc => sign_rk (hm2 c hc)
  · intro d hd
    obtain ⟨x, hx, rfl⟩ := List.mem_map.mp hd
    obtain ⟨c, hc, rfl⟩ := List.mem_map.mp hx
    have := List.idxOf_lt_length_of_mem (hm2 c hc)
    rw [octs_length] at this
    exact this
  · intro d r e
    cases q : u.toList.dropWhile (#[sign al 0] : Array UInt8).contains with
    | nil => rw [q] at e; cases e
    | cons c l =>
      have hc := drop_head _ _ c l q
      rw [one_contains] at hc
      rw [q] at e
      simp only [List.map_cons, List.cons.injEq] at e
      rw [← e.1]
      intro z
      have := (rk_zero hA (hm2 c (by rw [q]; exact List.mem_cons_self))).mp z
      rw [this] at hc
      simp at hc
theorem lstrip_oct (z n : Nat) : lstrip (List.replicate z 0 ++ octN n).toArray #[0] = (octN n).toArray := by
  unfold lstrip
  show (List.dropWhile _ (List.replicate z 0 ++ octN n)).toArray = _
  rw [List.dropWhile_append_of_pos]
  · congr 1
    unfold octN
    cases e : digs 256 n with
    | nil => rfl
    | cons d r =>
      have hd := digs_head (by decide) n d r e
      have hlt := digs_lt (by decide : 2 ≤ 256) n d (by rw [e]; exact List.mem_cons_self)
      rw [List.map_cons, List.dropWhile_cons, nul_contains]
      have : (d.toUInt8 == 0) = false := by
        refine beq_false_of_ne fun q => hd ?_
        have h1 : (d.toUInt8).toNat = d := by
          show (UInt8.ofNat d).toNat = d
          rw [UInt8.toNat_ofNat']; omega
        rw [q] at h1
        exact h1.symm
      rw [this]; rfl
  · intro c hc
    rw [(List.mem_replicate.mp hc).2, nul_contains]; rfl
theorem val_oct (n : Nat) : valN 256 (octs (octN n).toArray) = n := by
  have e : octs (octN n).toArray = digs 256 n := by
    unfold octs octN
    rw [List.map_map]
    conv => rhs; rw [← List.map_id (digs 256 n)]
    refine List.map_congr_left fun d hd => ?_
    have := digs_lt (by decide : 2 ≤ 256) n d hd
    show (UInt8.ofNat d).toNat = d
    rw [UInt8.toNat_ofNat']; omega
  rw [e]
  exact valN_digs (by decide) n
theorem back2 {kind : Int} {al v : Array UInt8} (hA : AlOk kind al) (ho : okIn al (octs (rstrip v))) : encB al (decB al (rstrip v)) = rstrip v := by
  generalize hu : rstrip v = u at *
  have hs : rstrip (lstrip u #[sign al 0]) = lstrip u #[sign al 0] := by rw [← hu]; exact strip_id v _
  have key := lead_rk hA u.toList fun c hc => ho _ (octs_mem9.mpr hc)
  have eN : decN al (octs (rstrip (lstrip u #[sign al 0]))) = valN al.size ((octs u).map (rk al)) := by
    rw [hs]; exact key.2
  have hd : decB al u = (List.replicate (u.size - (lstrip u #[sign al 0]).size) 0 ++ octN (valN al.size ((octs u).map (rk al)))).toArray := by
    unfold decB; rw [eN]
  unfold encB
  rw [hd, lstrip_oct, val_oct, encN_back hA ho]
  have h4 : (List.replicate (u.size - (lstrip u #[sign al 0]).size) (0 : UInt8) ++ octN (valN al.size ((octs u).map (rk al)))).toArray.size - ((octN (valN al.size ((octs u).map (rk al)))).toArray).size = u.size - (lstrip u #[sign al 0]).size := by
    show (List.replicate (u.size - (lstrip u #[sign al 0]).size) (0 : UInt8) ++ octN (valN al.size ((octs u).map (rk al)))).length - (octN (valN al.size ((octs u).map (rk al)))).length = _
    rw [List.length_append, List.length_replicate, Nat.add_sub_cancel]
  rw [h4]
  have := rep_drop (sign al 0) u.toList
  apply Array.toList_inj.mp
  unfold lstrip
  rw [List.size_toArray]
  simpa using this
end B58
-- LS
namespace B58
open PySem PySem.W PyProof.Rows PySem.Calls PySem.Spec
/-! for k in range(len(ranks)): total = total + ranks[-1 - k] * base ** k -/
theorem valN_from (b : Nat) : ∀ (l : List Nat) (a : Nat), l.foldl (fun a d => a * b + d) a = a * b ^ l.length + valN b l := by
  intro l
  induction l with
  | nil => intro a; simp [valN]
  | cons d l ih =>
    intro a
    unfold valN
    rw [List.foldl_cons, ih, List.foldl_cons, ih, List.length_cons, Nat.pow_succ, Nat.add_mul, Nat.zero_mul, Nat.zero_add, Nat.mul_assoc, Nat.mul_comm b, Nat.add_assoc]
theorem valN_cons (b d : Nat) (l : List Nat) : valN b (d :: l) = d * b ^ l.length + valN b l := by
  conv => lhs; unfold valN
  rw [List.foldl_cons, valN_from, Nat.zero_mul, Nat.zero_add]
/-- what one turn adds -/
def totG (b : Nat) (ms : List Nat) (a k : Int) : Int := a + ((ms.getD (ms.length - 1 - k.toNat) 0 : Nat) : Int) * ((b : Nat) : Int) ^ k.toNat
theorem tot_part (b : Nat) (ms : List Nat) : ∀ i, i ≤ ms.length → (rangeKs 0 i).foldl (totG b ms) 0 = (valN b (ms.drop (ms.length - i)) : Nat) := by
  intro i
  induction i with
  | zero => intro _; rw [Nat.sub_zero, List.drop_length]; rfl
  | succ i ih =>
    intro hi
    have e : rangeKs 0 (i + 1) = rangeKs 0 i ++ [(i : Int)] := by
      unfold rangeKs
      rw [List.range_succ, List.map_append]
      simp
    rw [e, List.foldl_append, ih (by omega), List.foldl_cons, List.foldl_nil]
    have hlt : ms.length - (i + 1) < ms.length := by omega
    rw [List.drop_eq_getElem_cons hlt, valN_cons, List.length_drop, show ms.length - (i + 1) + 1 = ms.length - i by omega]
    unfold totG
    rw [Int.toNat_natCast, show ms.length - 1 - i = ms.length - (i + 1) by omega, List.getD_eq_getElem?_getD, List.getElem?_eq_getElem hlt, Option.getD_some, show ms.length - (ms.length - i) = i by omega]
    simp only [Int.natCast_add, Int.natCast_mul, Int.natCast_pow]
    omega
theorem tot_all (b : Nat) (ms : List Nat) : (rangeKs 0 ms.length).foldl (totG b ms) 0 = (valN b ms : Nat) := by
  rw [tot_part b ms _ (Nat.le_refl _), Nat.sub_self, List.drop_zero]
section
variable {prog : Program} {w : World} {A : Around} {E : Value → Shared → Prop} {s : Shared} {h₀ : Heap} {D : Addr} {m : Str → Option Value} {news : List (Addr × Obj)} {env : Env} {body : List Stmt} {vs : List Value} {c : Nat} {ms : List Nat} {b : Nat}
/-- a turn's end -/
def TotEnd (h₀ : Heap) (L : Addr) (m : Str → Option Value) (news : List (Addr × Obj)) (s : Shared) (a : Int) (fl : Flow) (s' : Shared) : Prop :=
  fl = .next ∧ ∃ (h' : Heap) (tk : Nat) (u : Value) (t : Tok), s' = { s with heap := h', toks := tk } ∧ Fr h₀ L h' (fun y => if y = Str.ofString "total" then some (.int a t) else if y = Str.ofString "k" then some u else m y) ∧ News h₀ L h' news
theorem tot_loop {r : Addr} {t₀ u₀ v₀ tc : Tok} {Q : Flow → Shared → Prop} {n : Int} (hh : A.handled = none) (hr : IsRange s.heap r 0 n 1 t₀ u₀ v₀) (hn : n = (ms.length : Int)) (hl : ms.length ≤ 100) (b : Nat)
    (F : Fr h₀ env.locals s.heap m) (N : News h₀ env.locals s.heap news) (hy : m (Str.ofString "total") = some (.int 0 tc))
    (turn : ∀ (j : Nat) t a ta h tk own, j < ms.length → Fr h₀ env.locals h (fun z => if z = Str.ofString "k" then some (.int (j : Int) t) else if z = Str.ofString "total" then some (.int a ta) else m z) → News h₀ env.locals h (news ++ own) →
      wpAny (model prog w) A (execs body env) (TotEnd h₀ env.locals m (news ++ own) { s with heap := h, toks := tk } (a + ((ms.getD (ms.length - 1 - j) 0 : Nat) : Int) * ((b : Nat) : Int) ^ j)) E { s with heap := h, toks := tk })
    (done : ∀ (u : Str → Option Value) t h tk, Fr h₀ env.locals h (fun z => if z = Str.ofString "k" then u z else if z = Str.ofString "total" then some (.int (valN b ms : Nat) t) else m z) → News h₀ env.locals h news → Q .next { s with heap := h, toks := tk }) :
    wpAny (model prog w) A (pyIter (.ref r)) (fun it s₂ => LoopAtV prog w A h₀ env (Str.ofString "k") body Q E it s₂) E s := by
  subst hn
  refine iterRange_acc1 (y := Str.ofString "total") (n := ms.length) (totG b ms) hh hr (small_one (by omega) (by omega) (by omega) (by omega)) (rangeSize_nat _ _) F N hy ?_ ?_
  · intro k t a ta h tk own h0 h1 hoff F' N'
    obtain ⟨j, rfl⟩ := Int.eq_ofNat_of_zero_le h0
    refine wpAny_mono (turn j t a ta h tk own (by omega) F' N') (fun fl s' ⟨e, h', tk', u, t', e2, F2, N2⟩ => ?_) fun _ _ x => x
    subst e; subst e2
    refine InvEndN.intro (nx := news) (news' := news ++ own) F2 N2 ⟨rfl, ⟨t', ?_⟩, fun z hz hz' => ?_⟩ rfl (fun p hp => List.mem_append_left _ hp) fun p hp => List.mem_append_right _ hp
    · show (if Str.ofString "total" = Str.ofString "total" then _ else _) = some (Value.int (totG b ms a (j : Int)) t')
      rw [if_pos rfl]
      unfold totG
      rw [Int.toNat_natCast]
    · show (if z = Str.ofString "total" then _ else if z = Str.ofString "k" then _ else m z) = m z
      rw [if_neg hz', if_neg hz]
  · intro u t h tk F' N'
    rw [tot_all] at F'
    exact done u t h tk F' N'
theorem item_back {value slice : Expr} {u : Tok} {j : Nat} {Q : Value → Shared → Prop} (N : News h₀ env.locals s.heap news) (hm : (D, listOf vs.toArray c) ∈ news) (hi : IntsAre vs (ms.map fun d => ((d : Nat) : Int))) (hj : j < ms.length) (hl : ms.length ≤ 100)
    (h : ∀ t, Q (.int ((ms.getD (ms.length - 1 - j) 0 : Nat) : Int) t) s)
    (hs : subscripted slice false (.ref D) (.int (-1 - (j : Int)) u) = operate [.ref D, .int (-1 - (j : Int)) u] (getItem (.ref D) (.int (-1 - (j : Int)) u)) := by with_unfolding_all rfl) :
    wpAny (model prog w) A (subscriptTail value slice (.ref D) (.int (-1 - (j : Int)) u)) Q E s := by
  have hlen := hi.length
  rw [List.length_map] at hlen
  have hp : ms.length - 1 - j < vs.length := by omega
  have hv : vs[ms.length - 1 - j]? = some (vs[ms.length - 1 - j]'hp) := List.getElem?_eq_getElem _
  obtain ⟨k, t, e, hk⟩ := IntsAre.at hi _ _ hv
  have ek : k = ((ms.getD (ms.length - 1 - j) 0 : Nat) : Int) := by
    rw [List.getElem?_map, List.getElem?_eq_getElem (by omega), Option.map_some] at hk
    rw [← Option.some.inj hk, List.getD_eq_getElem?_getD, List.getElem?_eq_getElem (by omega), Option.getD_some]
  subst ek
  refine kde_neg (j := ms.length - 1 - j) (News.isList N hm) (by omega) (by omega) ?_ hv (by rw [e]; exact h t) hs
  have hneg : -1 - (j : Int) < 0 := by omega
  simp only [seqIndex?, if_pos hneg]
  rw [if_pos (by simp; omega)]
  congr 1
  omega
theorem pow_base {j : Nat} {t u : Tok} {Q : Value → Shared → Prop} (hb : b ≤ 101) (hj : j ≤ 100) (h : ∀ t k, Q (.int (((b : Nat) : Int) ^ j) t) { s with toks := k }) : wpAny (model prog w) A (binaryOp .Pow (.int ((b : Nat) : Int) t) (.int ((j : Nat) : Int) u)) Q E s := by
  refine pow_int (by omega) ?_ (by rw [Int.toNat_natCast]; exact h _ _)
  have h1 : Builtin.Int.intBits ((b : Nat) : Int) ≤ 64 := intBits_le_64 (by omega) (by omega)
  have : (Builtin.Int.intBits ((b : Nat) : Int) : Int) * (j : Int) ≤ 64 * 100 := Int.mul_le_mul (by omega) (by omega) (by omega) (by omega)
  omega
theorem mul_rank {i : Nat} {x : Int} {t u : Tok} {Q : Value → Shared → Prop} (hr : ∀ r ∈ ms, r < 101) (h : ∀ t k, Q (.int (((ms.getD i 0 : Nat) : Int) * x) t) { s with toks := k }) : wpAny (model prog w) A (binaryOp .Mult (.int ((ms.getD i 0 : Nat) : Int) t) (.int x u)) Q E s := by
  refine mul_int (h _ _) (IntMulOk.of_left (intBits_le_64 ?_ ?_))
  · omega
  · have : ms.getD i 0 ≤ 101 := by
      rw [List.getD_eq_getElem?_getD]
      cases e : ms[i]? with
      | none => simp
      | some r => exact Nat.le_of_lt (hr r (List.mem_of_getElem? e))
    omega
theorem ranks_lt {al v : Array UInt8} (ho : okIn al (octs v)) (hz : al.size ≤ 101) : ∀ r ∈ (octs v).map (rk al), r < 101 := by
  intro r hr
  obtain ⟨x, hx, rfl⟩ := List.mem_map.mp hr
  have := List.idxOf_lt_length_of_mem (ho x hx)
  rw [octs_length] at this
  exact Nat.lt_of_lt_of_le this hz
theorem fr_tot {L : Addr} {h : Heap} {x y : Str} {u v v' : Option Value} (F : Fr h₀ L h (fun z => if z = x then v else if z = y then u else if z = x then v' else m z)) : Fr h₀ L h (fun z => if z = x then v else if z = y then u else m z) := by
  have e : (fun z => if z = x then v else if z = y then u else if z = x then v' else m z) = fun z => if z = x then v else if z = y then u else m z := by
    funext z
    by_cases h : z = x
    · rw [if_pos h, if_pos h]
    · rw [if_neg h, if_neg h, if_neg h]
  rw [← e]; exact F
theorem tot_ranks {al v : Array UInt8} {ns : List Int} {r : Addr} {t₀ u₀ v₀ tc : Tok} {Q : Flow → Shared → Prop} {n : Int} (hz : al.size ≤ 101) (hV : VOk ns v) (ho : okIn al (octs (rstrip v))) (hh : A.handled = none) (hr : IsRange s.heap r 0 n 1 t₀ u₀ v₀) (hn : n = (((octs (rstrip v)).map (rk al)).length : Int))
    (F : Fr h₀ env.locals s.heap m) (N : News h₀ env.locals s.heap news) (hy : m (Str.ofString "total") = some (.int 0 tc))
    (turn : ∀ (j : Nat) t a ta h tk own, j ≤ 100 → j < ((octs (rstrip v)).map (rk al)).length → ((octs (rstrip v)).map (rk al)).length ≤ 100 → (∀ r ∈ (octs (rstrip v)).map (rk al), r < 101) → Fr h₀ env.locals h (fun z => if z = Str.ofString "k" then some (.int (j : Int) t) else if z = Str.ofString "total" then some (.int a ta) else m z) → News h₀ env.locals h (news ++ own) →
      wpAny (model prog w) A (execs body env) (TotEnd h₀ env.locals m (news ++ own) { s with heap := h, toks := tk } (a + ((((octs (rstrip v)).map (rk al)).getD (((octs (rstrip v)).map (rk al)).length - 1 - j) 0 : Nat) : Int) * ((al.size : Nat) : Int) ^ j)) E { s with heap := h, toks := tk })
    (done : ∀ (u : Str → Option Value) t h tk, Fr h₀ env.locals h (fun z => if z = Str.ofString "k" then u z else if z = Str.ofString "total" then some (.int (decN al (octs (rstrip v)) : Nat) t) else m z) → News h₀ env.locals h news → Q .next { s with heap := h, toks := tk }) :
    wpAny (model prog w) A (pyIter (.ref r)) (fun it s₂ => LoopAtV prog w A h₀ env (Str.ofString "k") body Q E it s₂) E s := by
  have hl : ((octs (rstrip v)).map (rk al)).length ≤ 100 := by
    rw [List.length_map, octs_length]
    have := hV.sz
    exact Nat.le_trans (rstrip_size v) (by omega)
  exact tot_loop hh hr hn hl al.size F N hy (fun j t a ta h tk own hj F' N' => turn j t a ta h tk own (by omega) hj hl (ranks_lt ho hz) F' N') done
theorem totEnd_ {L : Addr} {a : Int} {h' : Heap} {tk : Nat} {u : Value} {t : Tok} (F : Fr h₀ L h' (fun y => if y = Str.ofString "total" then some (.int a t) else if y = Str.ofString "k" then some u else m y)) (N : News h₀ L h' news) :
    TotEnd h₀ L m news s a .next { s with heap := h', toks := tk } := ⟨rfl, h', tk, u, t, rfl, F, N⟩
end
end B58
local macro_rules | `(tactic| walk_at "pyIter ref") => `(tactic| (k_here; (with_reducible show wpAny _ _ (pyIter (Value.ref _)) (fun it s₂ => LoopAtV _ _ _ _ _ (PySem.Str.ofString "k") _ _ _ it s₂) _ _); k_dflt (refine' B58.tot_ranks ?z ?V ?o ?hh ?hr ?hn ?F ?N ?y ?_ ?_; (case z => with_reducible assumption); (case V => with_reducible assumption); (case o => with_reducible assumption); (case hh => rfl); (case hr => with_reducible assumption); (case hn => rfl); (case F => k_asm); (case N => k_asm); (case y => rfl)); rotate_left; (intro u' t' h' tk' F' N'; (try dsimp only); (try k_fold)); rotate_left; (intro j' t' a' ta' h' tk' own' hj1 hj2 hj3 hRk9 F' N'; (try dsimp only); (try simp only [List.nil_append, List.cons_append, List.append_nil] at N'); (try k_fold))))
local macro_rules | `(tactic| walk_at "TotEnd") => `(tactic| (refine' B58.totEnd_ ?F ?N; (case F => exact B58.fr_tot (by k_asm)); (case N => k_asm)))
local macro_rules | `(tactic| walk_at "binaryOp Pow int int") => `(tactic| (k_here; (with_reducible show wpAny _ _ (binaryOp Operator.Pow (Value.int _ _) (Value.int _ _)) _ _ _); k_dflt (refine' B58.pow_base ?b ?j ?_; (case b => with_reducible assumption); (case j => with_reducible assumption)); intro _ _))
local macro_rules | `(tactic| walk_at "binaryOp Mult int int") => `(tactic| (k_here; (with_reducible show wpAny _ _ (binaryOp Operator.Mult (Value.int _ _) (Value.int _ _)) _ _ _); k_dflt (refine' B58.mul_rank ?r ?_; (case r => with_reducible assumption)); intro _ _))
local macro_rules | `(tactic| walk_at "subscriptTail") => `(tactic| (k_here; (with_reducible show wpAny _ _ (subscriptTail _ _ (Value.ref _) (Value.int (_ - _) _)) _ _ _); k_dflt (refine' B58.item_back ?N ?m ?i ?j ?l ?_; (case N => k_asm); (case m => k_mem); (case i => with_reducible assumption); (case j => with_reducible assumption); (case l => with_reducible assumption)); intro t9))
-- U1
namespace B58
open PySem PySem.W PyProof.Rows PySem.Calls
open PySem.Spec PySem.Builtin PySem.Builtin.UnicodeEncodeError
/-! UnicodeEncodeError made -/
theorem uee_new : ExcNewFacts "UnicodeEncodeError" "UnicodeEncodeError.__new__" where
  ends := by decide +kernel
  owner := by decide +kernel
  entry := entryFor_alias (id' := "BaseException.__new__") (by rw [fastTable_eq_tree]; kernel_rfl) (by first | rfl | decide +kernel) (by decide +kernel) (by rw [fastTable_eq_tree]; kernel_rfl)
  sub := by rw [isSubtype_type]; kernel_rfl
  notAttr := by rw [isSubtype_type]; kernel_rfl
  notName := by rw [isSubtype_type]; kernel_rfl
  made := by kernel_rfl
theorem uee_notType : (Value.type "UnicodeEncodeError" == Value.type "type") = false := by decide +kernel
theorem uee_canMake : ((Manifest.find? "UnicodeEncodeError").bind fun x => List.findSome? (fun t => (Manifest.find? t).bind fun b =>
    if b.noNew = true then some true else if (b.attrs.any fun x => x.fst == "__new__") = true then some false else none) x.mro).getD false = false := by kernel_rfl
theorem uee_noVector (args : Args) : checkTypeCall "UnicodeEncodeError" args = pure () := by kernel_rfl
theorem uee_mro : ∃ m, mroOf (.type "UnicodeEncodeError") = pure m ∧ m.isEmpty = false := ⟨[.type "UnicodeEncodeError", .type "UnicodeError", .type "ValueError", .type "Exception", .type "BaseException", .type "object"], by rw [mroOf_type]; kernel_rfl, rfl⟩
theorem uee_madeBy : Bind.madeBy (.type "UnicodeEncodeError") = pure (some "UnicodeEncodeError.__new__") := by kernel_rfl
theorem uee_newOk (rest : List Value) : checkBuiltinCall "UnicodeEncodeError.__new__" ⟨.type "UnicodeEncodeError" :: rest, []⟩ = pure () := by kernel_rfl
theorem uee_init : Slot "UnicodeEncodeError" "__init__" "UnicodeEncodeError.__init__" := .of (owner := "UnicodeEncodeError") (n := "__init__") (by rw [typeLookup_type, builtinLookup_eq_fast]; kernel_rfl) (by decide +kernel) (by decide +kernel) (by decide +kernel)
    (by first | exact .inl (by decide +kernel) | exact .inr (by decide +kernel)) (by rw [isSubtype_type]; kernel_rfl)
theorem uee_initEntry : entryFor table "UnicodeEncodeError.__init__" = some Builtin.«UnicodeEncodeError.__init__» := entryFor_of_fast (by kernel_rfl)
theorem uee_split : splitId "UnicodeEncodeError.__init__" = some ("UnicodeEncodeError", "__init__") := by kernel_rfl
theorem uee_kind : builtinKind "UnicodeEncodeError.__init__" = some .slot := by kernel_rfl
theorem uee_row : Manifest.signature? "UnicodeEncodeError.__init__" = some ⟨.hand, "wrapper __init__", "", .self, []⟩ := by kernel_rfl
theorem check_hand (f sh full short : String) (r : Manifest.Receiver) (n : Nat) : Bind.check ⟨.hand, f, sh, r, []⟩ full short n [] = pure () := by
  rfl
theorem uee_initOk {M : Model} {A : Around} {self : Value} {rest : List Value} {E : Value → Shared → Prop} {Q : Unit → Shared → Prop}
    {hp : Heap} {g : Array GenState} {d : Drawn} {tk : Nat} {os : OsState} (hT : Shared.TypeIs ⟨hp, g, d, tk, os⟩ self "UnicodeEncodeError") (h : Q () ⟨hp, g, d, tk, os⟩) :
    wpAny M A (checkBuiltinCall "UnicodeEncodeError.__init__" ⟨self :: rest, []⟩) Q E ⟨hp, g, d, tk, os⟩ := by
  have hsub := uee_new.sub
  simp only [checkBuiltinCall, uee_kind, uee_split, uee_row]
  wp_walk
  exact h
section
variable {prog : Program} {w : World} {M : Model} {A : Around} {E : Value → Shared → Prop} {s : Shared} {e : Addr} {cls : Value} {v0 v1 v2 v3 v4 v5 : Value}
/-- the exception's object: six fields and its own -/
def ExcObj (cls : Value) (vs : List Value) : Obj := { cls := cls, data := .fields vs.toArray }
theorem members_0 {Q : Members → Shared → Prop} (he : s.heap.get? e = some (ExcObj cls [v0, v1, v2, v3, v4, v5])) (h : Q {} s) : wpAny M A (members (.ref e)) Q E s := by
  unfold members
  refine wpAny_bind (wpAny_fieldsOf he rfl ?_)
  exact wpAny_pure h
theorem members_5 {Q : Members → Shared → Prop} (m : Members) (he : s.heap.get? e = some (ExcObj cls [v0, v1, v2, v3, v4, v5, m.encoding, m.object, rawInt m.start, rawInt m.stop, m.reason])) (h : Q m s) : wpAny M A (members (.ref e)) Q E s := by
  unfold members
  refine wpAny_bind (wpAny_fieldsOf he rfl ?_)
  exact wpAny_pure h
theorem setMembers_ {Q : Unit → Shared → Prop} {m : Members} {vs : List Value} (he : s.heap.get? e = some (ExcObj cls (v0 :: v1 :: v2 :: v3 :: v4 :: v5 :: vs)))
    (h : ∀ h', h'.get? e = some (ExcObj cls [v0, v1, v2, v3, v4, v5, m.encoding, m.object, rawInt m.start, rawInt m.stop, m.reason]) → (∀ b, b ≠ e → h'.get? b = s.heap.get? b) → Q () { s with heap := h' }) : wpAny M A (setMembers (.ref e) m) Q E s := by
  unfold setMembers
  have hx : (v0 :: v1 :: v2 :: v3 :: v4 :: v5 :: vs).toArray.extract 0 6 ++ #[m.encoding, m.object, rawInt m.start, rawInt m.stop, m.reason] = [v0, v1, v2, v3, v4, v5, m.encoding, m.object, rawInt m.start, rawInt m.stop, m.reason].toArray := by
    simp
  refine wpAny_updateFields (o := ExcObj cls (v0 :: v1 :: v2 :: v3 :: v4 :: v5 :: vs)) he rfl (h _ ?_ fun b hb => Heap.get?_update_other _ _ (Ne.symm hb)) (by rw [hx]; simp [sizeLine_eq])
  rw [Heap.get?_update_self _ he rfl]
  show some { cls := cls, data := Data.fields _ : Obj } = some { cls := cls, data := Data.fields _ : Obj }
  dsimp only
  rw [hx]
theorem strArg_ {id : String} {i : Nat} {x : Str} {t : Tok} {Q : Unit → Shared → Prop} (h : Q () s) : wpAny M A (strArgument id i (.str x t)) Q E s := by
  unfold strArgument
  wp_walk
  exact h
theorem sizeArg_ {id : String} {i : Int} {t : Tok} {Q : Int → Shared → Prop} (h0 : 0 ≤ i) (h1 : i < 1000000) (h : Q i s) : wpAny M A (sizeArgument id (.int i t)) Q E s := by
  unfold sizeArgument
  wp_walk
  rw [if_neg (by
    have : (-(2 ^ 63 : Int)) ≤ i := by omega
    have : i < 2 ^ 63 := by omega
    simp; omega)]
  exact wpAny_pure h
theorem init_uee {c x r : Str} {t1 t2 t3 t4 t5 : Tok} {i j : Int} {Q : Fin → Shared → Prop} (he : s.heap.get? e = some (ExcObj cls [v0, .none, .none, v3, v4, v5]))
    (hi : 0 ≤ i) (hi1 : i < 1000000) (hj : 0 ≤ j) (hj1 : j < 1000000)
    (h : ∀ h' tk t vs, (∀ b o, b ≠ e → s.heap.get? b = some o → h'.get? b = some o) → h'.get? e = some (ExcObj cls (t :: .none :: .none :: vs)) → Q (.done (.ret .none)) { s with heap := h', toks := tk }) :
    wpAny (model prog w) A (Builtin.«UnicodeEncodeError.__init__» ⟨[.ref e, .str c t1, .str x t2, .int i t3, .int j t4, .str r t5], []⟩) Q E s := by
  have hsz : e < s.heap.objs.size := Heap.lt_size he
  unfold Builtin.«UnicodeEncodeError.__init__»
  refine wpAny_bind ?_
  unfold beginInit
  dsimp only
  rw [if_neg (by decide)]
  refine wpAny_bind (wpAny_field he rfl rfl ?_)
  refine wpAny_bind (wpAny_newTuple ?_)
  have he1 := Heap.get?_push_of_some { cls := Value.type "tuple", data := .seq #[Value.str c t1, .str x t2, .int i t3, .int j t4, .str r t5] } he
  refine wpAny_bind (wpAny_setField (vs := #[v0, .none, .none, v3, v4, v5]) he1 rfl (by simp) ?_)
  have he2 : ((s.heap.push { cls := Value.type "tuple", data := .seq #[Value.str c t1, .str x t2, .int i t3, .int j t4, .str r t5] }).update e (Obj.mapFields (·.setIfInBounds 0 (Value.ref s.heap.objs.size)))).get? e = some (ExcObj cls [.ref s.heap.objs.size, .none, .none, v3, v4, v5]) := Heap.get?_update_self _ he1 rfl
  have k2 : ∀ b o, b ≠ e → s.heap.get? b = some o → ((s.heap.push { cls := Value.type "tuple", data := .seq #[Value.str c t1, .str x t2, .int i t3, .int j t4, .str r t5] }).update e (Obj.mapFields (·.setIfInBounds 0 (Value.ref s.heap.objs.size)))).get? b = some o := fun b o hb q => by
    rw [Heap.get?_update_other _ _ (Ne.symm hb)]
    exact Heap.get?_push_of_some _ q
  generalize ((s.heap.push { cls := Value.type "tuple", data := .seq #[Value.str c t1, .str x t2, .int i t3, .int j t4, .str r t5] }).update e (Obj.mapFields (·.setIfInBounds 0 (Value.ref s.heap.objs.size)))) = h2 at he2 k2 ⊢
  refine wpAny_bind (wpAny_letGo ?_)
  rw [if_pos (by decide)]
  refine wpAny_bind (members_0 he2 ?_)
  refine wpAny_bind (setMembers_ (m := {}) (vs := []) he2 fun h3 he3 k3 => ?_)
  refine wpAny_bind (wpAny_letGo ?_)
  refine wpAny_bind (members_5 {} he3 ?_)
  refine wpAny_bind (setMembers_ (m := {}) he3 fun h4 he4 k4 => ?_)
  refine wpAny_bind (wpAny_letGo ?_)
  refine wpAny_bind (members_5 {} he4 ?_)
  refine wpAny_bind (setMembers_ (m := {}) he4 fun h5 he5 k5 => ?_)
  refine wpAny_bind (wpAny_letGo ?_)
  rw [if_neg (by simp)]
  refine wpAny_pure ?_
  dsimp only
  refine wpAny_bind (strArg_ ?_)
  refine wpAny_bind (strArg_ ?_)
  refine wpAny_bind ?_
  unfold initRange
  refine wpAny_bind (sizeArg_ hi hi1 ?_)
  refine wpAny_bind (members_5 {} he5 ?_)
  refine wpAny_bind (setMembers_ (m := { start := i }) he5 fun h6 he6 k6 => ?_)
  refine wpAny_bind (sizeArg_ hj hj1 ?_)
  refine wpAny_bind (members_5 { start := i } he6 ?_)
  refine setMembers_ (m := { start := i, stop := j }) he6 fun h7 he7 k7 => ?_
  refine wpAny_bind (strArg_ ?_)
  refine wpAny_bind (members_5 { start := i, stop := j } he7 ?_)
  refine wpAny_bind (setMembers_ (m := { encoding := .str c t1, object := .str x t2, start := i, stop := j, reason := .str r t5 }) he7 fun h8 he8 k8 => ?_)
  refine wpAny_pure ?_
  exact h h8 _ _ _ (fun b o hb q => by rw [k8 b hb, k7 b hb, k6 b hb, k5 b hb, k4 b hb, k3 b hb]; exact k2 b o hb q) he8
theorem typeCall_uee {c x r : Str} {t1 t2 t3 t4 t5 : Tok} {i j : Int} {Q : Fin → Shared → Prop} {hp : Heap} {g : Array GenState} {d : Drawn} {tk : Nat} {os : OsState}
    (hi : 0 ≤ i) (hi1 : i < 1000000) (hj : 0 ≤ j) (hj1 : j < 1000000)
    (h : ∀ h' tk e t vs, (∀ b o, hp.get? b = some o → h'.get? b = some o) → hp.get? e = none → h'.get? e = some (ExcObj (.type "UnicodeEncodeError") (t :: .none :: .none :: vs)) → Q (.done (.ret (.ref e))) ⟨h', g, d, tk, os⟩) :
    wpAny (model prog w) A (Builtin.«type.__call__» ⟨[.type "UnicodeEncodeError", .str c t1, .str x t2, .int i t3, .int j t4, .str r t5], []⟩) Q E ⟨hp, g, d, tk, os⟩ := by
  have hnt := uee_notType
  have hcan := uee_canMake
  have hchk := uee_noVector ⟨[.str c t1, .str x t2, .int i t3, .int j t4, .str r t5], []⟩
  obtain ⟨m, hmro, hne⟩ := uee_mro
  have hmade := uee_madeBy
  wp_walk
  refine codeAny_call_builtin_code (Code.quiet_builtin _ (by decide +kernel)) (wpAny_of_eq (uee_newOk _) ?_)
  refine codeAny_exc_new uee_new ?_
  show wpAny _ _ _ _ _ _
  have hget : ((hp.push { cls := .type "tuple", data := .seq [Value.str c t1, .str x t2, .int i t3, .int j t4, .str r t5].toArray }).push
      { cls := .type "UnicodeEncodeError", data := .fields #[.ref hp.objs.size, .none, .none, .none, .bool false, .none] }).get? (hp.objs.size + 1) = some
      { cls := .type "UnicodeEncodeError", data := .fields #[.ref hp.objs.size, .none, .none, .none, .bool false, .none] } := by heap_get
  have keep : ∀ b o, hp.get? b = some o → ((hp.push { cls := .type "tuple", data := .seq [Value.str c t1, .str x t2, .int i t3, .int j t4, .str r t5].toArray }).push
      { cls := .type "UnicodeEncodeError", data := .fields #[.ref hp.objs.size, .none, .none, .none, .bool false, .none] }).get? b = some o := fun b o q => Heap.get?_push_of_some _ (Heap.get?_push_of_some _ q)
  refine wpAny_bind (wpAny_isInstance ⟨_, hget, rfl⟩ uee_new.sub ?_)
  wp_step
  refine wpAny_bind (wpAny_holding (wpAny_callSpecial?_slot ⟨_, hget, rfl⟩ uee_init (wpAny_call (codeAny_call_builtin uee_init.plain uee_initEntry (uee_initOk ⟨_, hget, rfl⟩ ?_)))))
  refine init_uee (cls := .type "UnicodeEncodeError") hget hi hi1 hj hj1 fun h' tk t vs k1 k2 => ?_
  wp_walk
  exact h h' _ (hp.objs.size + 1) _ _ (fun b o q => k1 b o (fun z => by
    have := Heap.lt_size q
    rw [z] at this
    exact absurd this (Nat.not_lt.mpr (Nat.le_succ _))) (keep b o q)) (Heap.get?_none_of_le (Nat.le_succ _)) k2
theorem call_uee {c x r : Str} {t1 t2 t3 t4 t5 : Tok} {i j : Int} {Q : Value → Shared → Prop}
    (hi : 0 ≤ i) (hi1 : i < 1000000) (hj : 0 ≤ j) (hj1 : j < 1000000)
    (h : ∀ h' tk e t vs, (∀ b o, s.heap.get? b = some o → h'.get? b = some o) → s.heap.get? e = none → h'.get? e = some (ExcObj (.type "UnicodeEncodeError") (t :: .none :: .none :: vs)) → Q (.ref e) { s with heap := h', toks := tk }) :
    wpAny (model prog w) A (call (.type "UnicodeEncodeError") [.str c t1, .str x t2, .int i t3, .int j t4, .str r t5]) Q E s := by
  obtain ⟨hp, g, d, tk, os⟩ := s
  refine wpAny_call (codeAny_of_tree ?_)
  show wpAny _ _ (again (.builtin "type.__call__" ⟨[.type "UnicodeEncodeError", .str c t1, .str x t2, .int i t3, .int j t4, .str r t5], []⟩)) _ _ _
  exact wpAny_pure ⟨Code.quiet_builtin _ (by decide +kernel), codeAny_builtin entry_typeCall (typeCall_uee hi hi1 hj hj1 h)⟩
end
end B58
-- U2
namespace B58
open PySem PySem.W PyProof.Rows PySem.Calls
open PyProof.V PySem.Spec PySem.Builtin
/-- what is told of an exception that is made anew, of any fields -/
noncomputable abbrev Newly (E : Value → Shared → Prop) (s : Shared) : Prop :=
  ∀ h' tk e t vs, (∀ b o, s.heap.get? b = some o → h'.get? b = some o) → s.heap.get? e = none → h'.get? e = some (ExcObj (.type "UnicodeEncodeError") (t :: .none :: .none :: vs)) → E (.ref e) { s with heap := h', toks := tk }
section
variable {prog : Program} {w : World} {A : Around} {E : Value → Shared → Prop} {s : Shared}
theorem newly_toks {k : Nat} (h : Newly E s) : Newly E { s with toks := k } := h
theorem raise_fault {α : Type} {codec : String} {reason : String} {x : Str} {t : Tok} {i j : Nat} {Q : α → Shared → Prop} (hh : A.handled = none) (hi : i < 1000) (hj : j < 1000) (hc : (Str.ofString codec).length ≤ sizeLine) (hr : (Str.ofString reason).length ≤ sizeLine) (h : Newly E s) :
    wpAny (model prog w) A (_codecs.raiseEncodeFault {} codec (.str x t) i j reason : Sem α) Q E s := by
  unfold _codecs.raiseEncodeFault
  refine wpAny_bind ?_
  show wpAny _ _ (do call (.type "UnicodeEncodeError") [← mkStr codec, ← pure (.str x t), ← mkInt i, ← mkInt j, ← mkStr reason]) _ _ _
  refine wpAny_bind (wpAny_mkStr ?_ hc)
  refine wpAny_bind (wpAny_pure ?_)
  refine wpAny_bind (wpAny_mkInt ?_)
  refine wpAny_bind (wpAny_mkInt ?_)
  refine wpAny_bind (wpAny_mkStr ?_ hr)
  refine call_uee (by omega) (by omega) (by omega) (by omega) fun h' tk e tt vs k1 k2 k3 => ?_
  unfold raiseNew
  refine wpAny_bind (wpAny_handled ?_)
  rw [hh]
  first
    | exact wpAny_throw (h h' _ e tt vs k1 k2 k3)
    | exact wpAny_bind (wpAny_pure (wpAny_throw (h h' _ e tt vs k1 k2 k3)))
theorem forIn_first {β : Type} (n : Nat) (hn : n ≠ 0) (f : Nat → β → Sem (ForInStep β)) (b0 : β) : forIn [:n] b0 f = (do match ← f 0 b0 with | .done b => pure b | .yield b => forIn (List.range' 1 (n - 1) 1) b f) := by
  rw [Std.Legacy.Range.forIn_eq_forIn_range']
  obtain ⟨k, rfl⟩ := Nat.exists_eq_succ_of_ne_zero hn
  show (forIn (List.range' 0 ((k + 1 - 0 + 1 - 1) / 1) 1) b0 f : Sem β) = _
  rw [show (k + 1 - 0 + 1 - 1) / 1 = k + 1 by omega, List.range'_succ, List.forIn_cons]
  rfl
theorem two_falls {M : Model} {α β : Type} {n : Nat} {f : Nat → β → Sem (ForInStep β)} {b0 : β} {K : β → Sem α} {Q : α → Shared → Prop} (hn : n ≠ 0)
    (h : (∀ Q, wpAny M A (f 0 b0) Q E s) ∨ (∃ b1, f 0 b0 = pure (.yield b1) ∧ n ≠ 1 ∧ ∀ Q, wpAny M A (f 1 b1) Q E s)) : wpAny M A (forIn [:n] b0 f >>= K) Q E s := by
  rw [forIn_first _ hn]
  refine wpAny_bind ?_
  rcases h with h | ⟨b1, e, h1, h⟩
  · exact wpAny_bind (h _)
  · rw [e]
    refine wpAny_bind (wpAny_pure ?_)
    dsimp only
    obtain ⟨k, rfl⟩ : ∃ k, n = k + 2 := ⟨n - 2, by omega⟩
    rw [show k + 2 - 1 = k + 1 by omega, List.range'_succ, List.forIn_cons]
    exact wpAny_bind (h _)
theorem strict_name : ((none : Option Str).getD (Str.ofString "strict")).toString = "strict" := by kernel_rfl
theorem idx_le {α : Type} (p : α → Bool) (a : Array α) {d n : Nat} (ha : a.size ≤ n) (hd : d ≤ n) : (a.findIdx? p).getD d ≤ n := by
  cases e : a.findIdx? p with
  | none => exact hd
  | some k =>
    have := (Array.findIdx?_eq_some_iff_getElem.mp e).1
    exact Nat.le_trans (Nat.le_of_lt this) ha
theorem fold_size (l : List Nat) (a : Array UInt8) : (l.foldl (fun acc y => acc ++ (_codecs.asciiCodec.bytesOf y).toArray) a).size = a.size + l.length := by
  induction l generalizing a with
  | nil => rfl
  | cons c l ih =>
    rw [List.foldl_cons, ih, Array.size_append, List.length_cons]
    show a.size + 1 + l.length = _
    omega
theorem enc_falls {M : Model} {α : Type} {x : Str} {n : Nat} {f : Nat → (Nat × Array UInt8 × _codecs.Faults) → Sem (ForInStep (Nat × Array UInt8 × _codecs.Faults))} {K : (Nat × Array UInt8 × _codecs.Faults) → Sem α} {Q : α → Shared → Prop}
    (hn : n = x.cps.size) (hz : x.cps.size < 1000) (hb : ∃ c ∈ x.cps, _codecs.asciiCodec.bad c = true)
    (bad : ∀ j i out c, x.cps[i]? = some c → _codecs.asciiCodec.bad c = true → out.size ≤ 1000 → i < 1000 → ∀ Q, wpAny M A (f j (i, out, {})) Q E s)
    (good : ∀ c, x.cps[0]? = some c → _codecs.asciiCodec.bad c = false → ∃ out, out.size ≤ 1000 ∧ f 0 (0, #[], {}) = pure (.yield ((x.cps.findIdx? _codecs.asciiCodec.bad).getD x.cps.size, out, {}))) :
    wpAny M A (forIn [:n] (0, #[], {}) f >>= K) Q E s := by
  obtain ⟨c, hc, hcb⟩ := hb
  have hpos : 0 < x.cps.size := Nat.pos_of_ne_zero fun e => by
    have : x.cps = #[] := Array.eq_empty_of_size_eq_zero e
    rw [this] at hc
    simp at hc
  have h0 : x.cps[0]? = some x.cps[0] := by simp [hpos]
  refine two_falls (by omega) ?_
  by_cases hb0 : _codecs.asciiCodec.bad x.cps[0] = true
  · exact .inl (bad 0 0 #[] _ h0 hb0 (by simp) (by omega))
  · obtain ⟨out, ho, e⟩ := good _ h0 (by simpa using hb0)
    refine .inr ⟨_, e, ?_, ?_⟩
    · intro h1
      obtain ⟨i, hi, rfl⟩ := Array.mem_iff_getElem.mp hc
      have : i = 0 := by omega
      subst this
      exact hb0 hcb
    · cases q : x.cps.findIdx? _codecs.asciiCodec.bad with
      | none =>
        have := Array.findIdx?_eq_none_iff.mp q c hc
        rw [hcb] at this
        cases this
      | some k =>
        obtain ⟨hk, hkb, _⟩ := Array.findIdx?_eq_some_iff_getElem.mp q
        exact bad 1 k out x.cps[k] (by simp [hk]) hkb ho (by omega)
theorem enc_bad (id : String) {x : Str} {t : Tok} {Q : Array UInt8 → Shared → Prop} (hh : A.handled = none) (hz : x.cps.size < 1000) (hb : ∃ c ∈ x.cps, _codecs.asciiCodec.bad c = true) (h : Newly E s) :
    wpAny (model prog w) A (_codecs.encodeNarrow id _codecs.asciiCodec none (.str x t) x) Q E s := by
  unfold _codecs.encodeNarrow
  rw [strict_name]
  dsimp only
  refine enc_falls (x := x) rfl hz hb ?_ ?_
  · intro j i out c hc hcb ho hi Q
    dsimp only
    rw [if_neg (by rw [sizeLine_eq]; omega), hc]
    dsimp only
    rw [hcb, if_neg (by decide)]
    refine wpAny_bind (wpAny_rule ?_)
    split
    · rename_i hs
      split at hs <;> simp_all
    · rw [if_pos (by decide)]
      refine wpAny_bind (raise_fault hh hi ?_ (by decide) (by decide) h)
      have hi' : i < x.cps.size := (Array.getElem?_eq_some_iff.mp hc).1
      have := idx_le (fun y => !_codecs.asciiCodec.bad y) (x.cps.extract i x.cps.size) (d := x.cps.size - i) (n := x.cps.size - i) (by rw [Array.size_extract]; omega) (Nat.le_refl _)
      omega
  · intro c hc hcb
    have he : x.cps.extract 0 x.cps.size = x.cps := by simp
    dsimp only
    rw [hc]
    simp only [he, Array.size_empty, Nat.not_lt_zero, gt_iff_lt, if_false, hcb, Bool.not_false, if_true, Nat.zero_add]
    refine ⟨_, ?_, rfl⟩
    rw [← Array.foldl_toList, fold_size]
    simp
    omega
end
end B58
-- U3
namespace B58
open PySem PySem.W PyProof.Rows PySem.Calls
open PyProof.V PySem.Spec PySem.Builtin
theorem bad_txt {b : Array UInt8} (h : ¬ Ascii b) : ∃ c ∈ (txt b).cps, _codecs.asciiCodec.bad c = true := by
  unfold Ascii at h
  obtain ⟨c, hc⟩ := Classical.not_forall.mp h
  obtain ⟨hm, hge⟩ := Classical.not_imp.mp hc
  refine ⟨c, by simpa [txt] using hm, ?_⟩
  show decide (c ≥ 128) = true
  rw [decide_eq_true_eq]; omega
theorem meets_encode_bad (b : Array UInt8) (t u : Tok) : Meets («str.encode» ⟨[.str (txt b) t, .str (Str.ofString "ascii") u], []⟩) (fun A R s => A.handled = none ∧ b.size < 1000 ∧ ¬ Ascii b ∧ Newly (fun e s' => R (.error e) s') s) := by
  refine .of_wp fun prog w A R s hS => ?_
  obtain ⟨hh, hsz, hb, h⟩ := hS
  show wpAny _ _ (Str.strSelf ⟨[.str (txt b) t, .str (Str.ofString "ascii") u], []⟩ >>= fun _ => _) _ _ s
  refine wpAny_bind (wpAny_of_eq (a := (Value.str (txt b) t, txt b, [Value.str (Str.ofString "ascii") u])) rfl ?_)
  show wpAny _ _ (Str.bindOptional "str.encode" "encode" 0 ["encoding", "errors"] [.str (Str.ofString "ascii") u] [] >>= fun _ => _) _ _ s
  refine wpAny_bind (wpAny_of_eq (a := [some (Value.str (Str.ofString "ascii") u), none]) rfl ?_)
  show wpAny _ _ (Str.codecArg "str.encode" "encode" "'encoding'" (some (.str (Str.ofString "ascii") u)) >>= fun _ => _) _ _ s
  refine wpAny_bind (wpAny_of_eq (a := some (Str.ofString "ascii")) (codec_ascii u) ?_)
  show wpAny _ _ (Str.codecArg "str.encode" "encode" "'errors'" none >>= fun _ => _) _ _ s
  refine wpAny_bind (wpAny_of_eq (a := none) rfl ?_)
  show wpAny _ _ (_codecs.encodeRoad "str.encode" (.str (txt b) t) (txt b) (Str.ofString "ascii") none >>= fun v => _) _ _ s
  refine wpAny_bind ?_
  show wpAny _ _ (_codecs.encodeNarrow "str.encode" _codecs.asciiCodec none (.str (txt b) t) (txt b) >>= fun v => _) _ _ s
  refine wpAny_bind (enc_bad _ (by exact hh) (by rw [txt_size]; exact hsz) (bad_txt hb) h)
section
variable {prog : Program} {w : World} {M : Model} {A : Around} {E : Value → Shared → Prop} {s : Shared} {b : Array UInt8} {t u : Tok}
theorem encode_bad {Q : Value → Shared → Prop} (hh : A.handled = none) (hsz : b.size < 1000) (hb : ¬ Ascii b) (h : Newly E s) :
    wpAny (model prog w) A (call (.builtin "str.encode") [.str (txt b) t, .str (Str.ofString "ascii") u]) Q E s :=
  call_meets F.slot_str_encode (typeIs_str _ _ _) F.entry_str_encode (F.args_str_encode_2 _ _) (meets_encode_bad b t u) ⟨hh, hsz, hb, h⟩
end
section
variable {M : Model} {A : Around} {E : Value → Shared → Prop} {s' : Shared} {base g h : Heap} {outer : List Env} {L a e : Addr} {m : Str → Option Value} {name : Str} {scope : Scope} {cd cls t : Value} {vs : List Value} {Q : Unit → Shared → Prop}
theorem leave_anew (K : Below A base outer g) (k1 : ∀ b o, h.get? b = some o → s'.heap.get? b = some o) (k2 : h.get? e = none) (k3 : s'.heap.get? e = some (ExcObj cls (t :: .none :: .none :: vs))) (F : Fr g L h m)
    (hQ : ∀ h', RaisedSN base g outer e cls [] h' → g.UpToSlots h' → Q () { s' with heap := h' }) (hk : scope.kind = .function := by rfl) :
    wpAny M (A.deeper (envOf name scope L a cd)) (leaving (envOf name scope L a cd) (.ref e)) Q E s' := by
  have K' := K.push (name := name) (a := a) (cd := cd) F hk
  have hin : ∀ env ∈ (envOf name scope L a cd :: outer), ∀ b, env.frame = some b → b ∈ (envOf name scope L a cd :: outer).filterMap (·.frame) := fun env he b hb => List.mem_filterMap.mpr ⟨env, he, hb⟩
  have hen : (hid h (envOf name scope L a cd :: outer)).get? e = none := by
    cases q : (hid h (envOf name scope L a cd :: outer)).get? e with
    | none => rfl
    | some o => have := of_hideAll _ q; rw [k2] at this; cases this
  refine wpAny_leaving_firstW (a0 := t) K'.stack ((funFrames_hide K'.frames hin).of_keeps fun b o hb _ => ⟨o, k1 b o hb, rfl⟩) rfl k3 (fun b o hb => k1 b o (of_hideAll _ hb)) hen rfl rfl rfl fun h' hL => ?_
  obtain ⟨x1, ⟨_, _, x2⟩, x3, x4⟩ := hL
  exact hQ h' ⟨hid h (envOf name scope L a cd :: outer), t, hid_base K F, fun b o q nm => hid_g F q nm, fun q hq => absurd hq List.not_mem_nil, x1, hen, x2, x3⟩
    (((Heap.UpToSlots.of_keeps F.keep).trans (Heap.UpToSlots.of_keeps k1)).trans x4)
end
theorem mem_drop {α : Type} {p : α → Bool} {x : α} (hp : p x = false) : ∀ {l : List α}, x ∈ l → x ∈ l.dropWhile p := by
  intro l
  induction l with
  | nil => intro h; exact h
  | cons a l ih =>
    intro h
    rw [List.dropWhile_cons]
    rcases List.mem_cons.mp h with rfl | h
    · rw [hp]; exact List.mem_cons_self
    · by_cases q : p a = true
      · rw [if_pos q]; exact ih h
      · rw [if_neg q]; exact List.mem_cons_of_mem _ h
theorem nascii_rstrip {v : Array UInt8} (h : ¬ Ascii v) : ¬ Ascii (rstrip v) := by
  intro ha
  refine h fun c hc => ?_
  obtain ⟨x, hx, rfl⟩ := List.mem_map.mp hc
  by_cases hs : Bytes.isSpace x = true
  · rw [space_iff] at hs
    omega
  · refine ha _ ?_
    unfold rstrip octs
    refine List.mem_map.mpr ⟨x, ?_, rfl⟩
    show x ∈ (List.dropWhile Bytes.isSpace v.toList.reverse).reverse.toArray.toList
    exact List.mem_reverse.mpr (mem_drop (by simpa using hs) (List.mem_reverse.mpr hx))
end B58
-- QT15
namespace B58
open PySem PySem.W PyProof.Rows
/-- a call that raises UnicodeEncodeError -/
noncomputable abbrev CtrU (k : Nat) (w : World) (f : Addr) (vs : List Value) (kw : List (Str × Value)) : Prop :=
  ∀ (mean : ExcName → Option Value) (mg mb : Str → Option Value) (dp un : Nat) (gd : Option (List Code)) (cn : Str) (sn : List (Str × NameKind)) (sg sc : Bool) (sm : List (Str × Const)) (a : Addr) (ccd : Value) (cl : List (Str × Addr)) (outer : List Env) (A₀ : Around) (base h₀ : Heap) (L : Addr) (m : Str → Option Value) (s : Shared) (news : List (Addr × Obj)) (Q E : Value → Shared → Prop),
    (B58.hd.heap_39 w.params).In base → Top B58.hd.view_39 loose mean mg mb base → Below A₀ base outer h₀ → Fr h₀ L s.heap m → (B58.hd.heap_39 w.params).In h₀ → News h₀ L s.heap news → Top B58.hd.view_39 loose mean mg mb h₀ → dp + k < recursionLimit → un + 10 * k < cLine →
      (Fails base (envX cn ⟨.function, sn, sg, sc, sm⟩ L a ccd cl :: outer) s E (.type "UnicodeEncodeError")) →
      wpAny (model PySem.Challenge.rw_fe0042_02.row.prog w) (ktrTop dp un gd cn ⟨.function, sn, sg, sc, sm⟩ L a ccd cl outer) (call (.ref f) vs kw) Q E s
theorem CtrU.use {k : Nat} {w : World} {f : Addr} {vs : List Value} {kw : List (Str × Value)} (C : CtrU k w f vs kw) {mean : ExcName → Option Value} {mg mb : Str → Option Value} {dp un : Nat} {gd : Option (List Code)} {cn : Str} {sn : List (Str × NameKind)} {sg sc : Bool} {sm : List (Str × Const)} {a : Addr} {ccd : Value} {cl : List (Str × Addr)} {outer : List Env} {A₀ : Around} {base h₀ : Heap} {L : Addr} {m : Str → Option Value} {s : Shared} {news : List (Addr × Obj)} {Q E : Value → Shared → Prop}
    (XB : (B58.hd.heap_39 w.params).In base) (TB : Top B58.hd.view_39 loose mean mg mb base) (B : Below A₀ base outer h₀) (F : Fr h₀ L s.heap m) (X : (B58.hd.heap_39 w.params).In h₀) (N : News h₀ L s.heap news) (T : Top B58.hd.view_39 loose mean mg mb h₀) (h1 : dp + k < recursionLimit) (h2 : un + 10 * k < cLine)
    (hexc : ∀ (e : Addr) (h' : Heap) (tk' : Nat), RaisedSN base s.heap (envX cn ⟨.function, sn, sg, sc, sm⟩ L a ccd cl :: outer) e (.type "UnicodeEncodeError") [] h' → s.heap.UpToSlots h' → E (.ref e) { s with heap := h', toks := tk' }) :
    wpAny (model PySem.Challenge.rw_fe0042_02.row.prog w) (ktrTop dp un gd cn ⟨.function, sn, sg, sc, sm⟩ L a ccd cl outer) (call (.ref f) vs kw) Q E s :=
  C mean mg mb dp un gd cn sn sg sc sm a ccd cl outer A₀ base h₀ L m s news Q E XB TB B F X N T h1 h2 hexc
local macro_rules | `(tactic| walk_at "call builtin:str.encode") => `(tactic| (k_here; (try dsimp only [List.cons_append, List.nil_append]); k_dflt (refine B58.encode_bad rfl (by omega) (by assumption) ?_); intro h9 tk9 e9 t9 vs9 ka9 kb9 kc9))
theorem c_scrubU (w : World) (v : Array UInt8) (tv : Tok) (hv : v.size ≤ 100) (hA : ¬ Ascii v) :
    CtrU 2 w 21 [.str (txt v) tv] [] := by
  unfold CtrU
  k_fill
  intro mean mg mb dp un gd cn sn sg sc sm a ccd cl outer A₀ base h₀ L m s news Q E XB TB B F X N T hd hu hexc
  walk_at "ctr in"
  k_steps
  refine leave_anew (by assumption) (by assumption) (by assumption) (by assumption) (by assumption) ?_
  intro h'' R U
  show E (.ref _) _
  exact hexc _ h'' _ (raised_under (by assumption) R) (up_under (by assumption) U)
local macro_rules | `(tactic| walk_at "call ref") => `(tactic| (k_here; (show wpAny _ _ (call (Value.ref 21) _ _) _ _ _); k_dflt (refine' CtrU.use (c_scrubU _ _ _ ?h1 ?h2) ?k8 ?k9 ?k1 ?k2 ?k3 ?k4 ?k5 ?k6 ?k7 ?_; (case k1 => k_asm); (case k8 => assumption); (case k9 => assumption); (case k2 => k_asm); (case k3 => k_asm); (case k4 => k_asm); (case k5 => k_asm); (case h1 => walk_at "b size"); (case h2 => first | assumption | exact B58.nascii_rstrip (by assumption)); (case k6 => ktr_room); (case k7 => ktr_units); intro e9 h9 tk9 R9 U9)))
theorem c_dintU (w : World) (v al : Array UInt8) (tv ta : Tok) (hv : v.size ≤ 100) (hA : ¬ Ascii v) (hP : PlainO v) (hb : 2 ≤ al.size) (hb2 : al.size ≤ 256) (hnd : (octs al).Nodup) (h32 : 32 ∉ octs al) :
    CtrU 8 w 51 [.str (txt v) tv, .bytes al ta] [] := by
  unfold CtrU
  k_fill
  intro mean mg mb dp un gd cn sn sg sc sm a ccd cl outer A₀ base h₀ L m s news Q E XB TB B F X N T hd hu hexc
  walk_at "ctr in"
  k_steps
  show wpAny _ _ (leaving _ _) _ _ _
  refine leave_onSN (by assumption) (by assumption) (by assumption) (by assumption) ?_
  intro h'' R _ U
  show E (.ref _) _
  exact hexc _ h'' _ (raised_under (by assumption) R) (up_under (by assumption) U)
theorem c_decU (w : World) (v al : Array UInt8) (tv ta : Tok) (hv : v.size ≤ 100) (hA : ¬ Ascii v) (hP : PlainO v) (hb : 2 ≤ al.size) (hb2 : al.size ≤ 256) (hnd : (octs al).Nodup) (h32 : 32 ∉ octs al) :
    CtrU 10 w 60 [.str (txt v) tv, .bytes al ta] [] := by
  unfold CtrU
  k_fill
  intro mean mg mb dp un gd cn sn sg sc sm a ccd cl outer A₀ base h₀ L m s news Q E XB TB B F X N T hd hu hexc
  walk_at "ctr in"
  k_steps
  show wpAny _ _ (leaving _ _) _ _ _
  refine leave_onSN (by assumption) (by assumption) (by assumption) (by assumption) ?_
  intro h'' R _ U
  show E (.ref _) _
  exact hexc _ h'' _ (raised_under (by assumption) R) (up_under (by assumption) U)
end B58
-- LX
namespace B58
open PySem PySem.W PyProof.Rows PySem.Calls PySem.Spec
/-- the ranks of the row's signs -/
abbrev rks (al v : Array UInt8) : List Nat := (octs (rstrip v)).map (rk al)
/-- what the law wants, as ints -/
def wantL (al v : Array UInt8) : List Int := List.replicate (lead (rks al v)) (0 : Int) ++ (digs 256 (valN al.size (rks al v))).map fun d => ((d : Nat) : Int)
theorem rks_len {ns : List Int} {al v : Array UInt8} (hV : VOk ns v) : (rks al v).length ≤ 35 := by
  rw [List.length_map, octs_length]
  exact Nat.le_trans (rstrip_size v) hV.sz
theorem rks_lt {al v : Array UInt8} (ho : okIn al (octs (rstrip v))) : ∀ r ∈ rks al v, r < al.size := by
  intro r hr
  obtain ⟨x, hx, rfl⟩ := List.mem_map.mp hr
  have := List.idxOf_lt_length_of_mem (ho x hx)
  rw [octs_length] at this
  exact this
theorem rks_digs {ns : List Int} {al v : Array UInt8} (hV : VOk ns v) (hz : al.size ≤ 101) (ho : okIn al (octs (rstrip v))) : (digs 256 (valN al.size (rks al v))).length ≤ 35 := by
  refine digs_length' (p := 8) (by decide) (by decide) 35 _ ?_
  have h1 := valN_lt (b := al.size) (rks_lt ho)
  have h2 : al.size ^ (rks al v).length ≤ 256 ^ (rks al v).length := Nat.pow_le_pow_left (by omega) _
  have h3 : 256 ^ (rks al v).length ≤ 256 ^ 35 := Nat.pow_le_pow_right (by decide) (rks_len hV)
  have h4 : (256 : Nat) ^ 35 = 2 ^ (8 * 35) := by decide +kernel
  omega
theorem wantL_len {ns : List Int} {al v : Array UInt8} (hV : VOk ns v) (hz : al.size ≤ 101) (ho : okIn al (octs (rstrip v))) : (wantL al v).length ≤ 70 := by
  unfold wantL
  rw [List.length_append, List.length_replicate, List.length_map]
  have h1 := rks_digs hV hz ho
  have h2 := lead_le (rks al v)
  have h3 := rks_len (al := al) hV
  omega
theorem wantL_in {al v : Array UInt8} : ∀ n ∈ wantL al v, 0 ≤ n ∧ n < 256 := by
  intro n hn
  rcases List.mem_append.mp hn with hn | hn
  · rw [(List.mem_replicate.mp hn).2]; omega
  · obtain ⟨d, hd, rfl⟩ := List.mem_map.mp hn
    have := digs_lt (by decide : 2 ≤ 256) _ d hd
    omega
section
variable {w : World}
theorem c_noughtsR {ns : List Int} {al v : Array UInt8} (hV : VOk ns v) (l : Addr) (vs : List Value) :
    Ctr 3 w 86 (fun h => h.IsList l vs.toArray ∧ IntsAre vs ((rks al v).map fun d => ((d : Nat) : Int))) [.ref l] [] (fun t => .int (lead (rks al v) : Nat) t) :=
  c_noughtsL w l vs (rks al v) (by have := rks_len (al := al) hV; omega)
theorem c_noughtsX {ns : List Int} {al v : Array UInt8} (hV : VOk ns v) (l : Addr) (vs : List Value) :
    CtrX 3 w 86 (fun h => h.IsList l vs.toArray ∧ IntsAre vs ((rks al v).map fun d => ((d : Nat) : Int))) [.ref l] [] (fun h₀ L m news s Q => lead (rks al v) ≤ 35 → Ret h₀ L m news s Q (fun t => .int (lead (rks al v) : Nat) t)) := by
  intro mean mg mb dp un gd cn sn sg sc sm a ccd cl outer A₀ base h₀ L m s news Q E hpre B F X N T hd hu hret
  exact c_noughtsR hV l vs mean mg mb dp un gd cn sn sg sc sm a ccd cl outer A₀ base h₀ L m s news Q E hpre B F X N T hd hu (hret (Nat.le_trans (lead_le _) (rks_len hV)))
theorem c_carriedR {ns : List Int} {al v : Array UInt8} (hV : VOk ns v) (hz1 : 2 ≤ al.size) (hz : al.size ≤ 101) (ho : okIn al (octs (rstrip v))) (l : Addr) (vs : List Value) (to tn : Tok) :
    CtrL 3 w 79 (fun h => h.IsList l vs.toArray ∧ IntsAre vs ((rks al v).map fun d => ((d : Nat) : Int))) [.ref l, .int ((al.size : Nat) : Int) to, .int 256 tn] [] ((digs 256 (valN al.size (rks al v))).map fun d => ((d : Nat) : Int)) := by
  have h := c_carriedL w l vs (rks al v) to tn ((al.size : Nat) : Int) 256 (rks_len hV) (by omega) (by omega) (fun d hd => by
    obtain ⟨r, hr, rfl⟩ := List.mem_map.mp hd
    have := rks_lt ho r hr
    omega) (by decide) (by decide)
  rw [Int.toNat_natCast] at h
  exact h
theorem c_encR {kind : Int} {ns : List Int} {al al' v : Array UInt8} (hA : AlOk kind al) (hV : VOk ns v) (hz : al.size ≤ 101) (ho : okIn al (octs (rstrip v))) (he : al' = al) (tv ta : Tok) :
    Ctr 8 w 37 (fun _ => True) [.bytes (decB al (rstrip v)) tv, .bytes al' ta] [] (fun t => .bytes (rstrip v) t) := by
  subst he
  have hs : (decB al' (rstrip v)).size ≤ 100 := by
    rw [← want2 hA ho]
    show (byteArr (wantL al' v)).size ≤ 100
    rw [byteArr_size]
    have := wantL_len hV hz ho
    omega
  have hb := back2 (v := v) hA ho
  intro mean mg mb dp un gd cn sn sg sc sm a ccd cl outer A₀ base h₀ L m s news Q E hpre B F X N T hd hu hret
  refine c_enc w (decB al' (rstrip v)) tv al' ta hs hA.lo hA.hi mean mg mb dp un gd cn sn sg sc sm a ccd cl outer A₀ base h₀ L m s news Q E trivial B F X N T (by omega) (by omega) ?_
  rw [hb]
  exact hret
theorem c_encR1 {kind : Int} {ns : List Int} {al v : Array UInt8} (hA : AlOk kind al) (hV : VOk ns v) (hz : al.size ≤ 101) (ho : okIn al (octs (rstrip v))) (hk : kind = 0) (tv : Tok) :
    Ctr 8 w 37 (fun _ => True) [.bytes (decB al (rstrip v)) tv] [] (fun t => .bytes (rstrip v) t) := by
  have hs : (decB al (rstrip v)).size ≤ 100 := by
    rw [← want2 hA ho]
    show (byteArr (wantL al v)).size ≤ 100
    rw [byteArr_size]
    have := wantL_len hV hz ho
    omega
  have hb := back2 (v := v) hA ho
  have e := hA.k0 hk
  subst e
  intro mean mg mb dp un gd cn sn sg sc sm a ccd cl outer A₀ base h₀ L m s news Q E hpre B F X N T hd hu hret
  refine c_enc1 w (decB btc (rstrip v)) tv hs mean mg mb dp un gd cn sn sg sc sm a ccd cl outer A₀ base h₀ L m s news Q E trivial B F X N T (by omega) (by omega) ?_
  rw [hb]
  exact hret
end
section
variable {prog : Program} {w : World} {A : Around} {E : Value → Shared → Prop} {s : Shared} {h₀ : Heap} {L D D1 D2 : Addr} {m : Str → Option Value} {news : List (Addr × Obj)} {us vs : List Value} {ns : List Int} {al v : Array UInt8} {Q : Value → Shared → Prop}
theorem add_want (hV : VOk ns v) (hz : al.size ≤ 101) (ho : okIn al (octs (rstrip v))) (F : Fr h₀ L s.heap m) (N : News h₀ L s.heap news) (ha : s.heap.IsList D1 us.toArray) (hb : s.heap.IsList D2 vs.toArray)
    (hi : IntsAre us (List.replicate ((lead (rks al v) : Nat) : Int).toNat 0)) (hj : IntsAre vs ((digs 256 (valN al.size (rks al v))).map fun d => ((d : Nat) : Int)))
    (h : ∀ D ws h', Fr h₀ L h' m → News h₀ L h' ((D, listOf (List.toArray ws) 0) :: news) → (∀ p ∈ news, p.1 < D) → IntsAre ws (wantL al v) → Q (.ref D) { s with heap := h' }) :
    wpAny (model prog w) A (binaryOp .Add (.ref D1) (.ref D2)) Q E s := by
  rw [Int.toNat_natCast] at hi
  refine kmk_add_ints F N ha hb hi hj h ?_
  have := wantL_len hV hz ho
  unfold wantL at this
  rw [List.length_append] at this
  rw [sizeLine_eq]; omega
theorem bytes_wantR {kind : Int} (hA : AlOk kind al) (hV : VOk ns v) (hz : al.size ≤ 101) (ho : okIn al (octs (rstrip v))) (F : Fr h₀ L s.heap m) (N : News h₀ L s.heap news) (hh : A.handled = none) (hl : s.heap.IsList D us.toArray) (hi : IntsAre us (wantL al v))
    (h : ∀ h' t' k, Fr h₀ L h' m → News h₀ L h' news → Q (.bytes (decB al (rstrip v)) t') { s with heap := h', toks := k }) : wpAny (model prog w) A (call (.type "bytes") [.ref D]) Q E s := by
  refine KBa.make_K F N hh hl hi wantL_in (by have := wantL_len hV hz ho; omega) fun h' t' k F' N' _ => ?_
  have e : byteArr (wantL al v) = decB al (rstrip v) := want2 hA ho
  rw [e]
  exact h h' t' k F' N'
/-- bytes of the row without its blanks -/
theorem bytes_trim {ns' : List Int} (hTr : octs (rstrip v) = ns'.map Int.toNat) (hl35 : ns'.length ≤ 35) (hg : ∀ n ∈ ns', GoodI n) (F : Fr h₀ L s.heap m) (N : News h₀ L s.heap news) (hh : A.handled = none) (hl : s.heap.IsList D us.toArray) (hi : IntsAre us ns')
    (h : ∀ h' t' k, Fr h₀ L h' m → News h₀ L h' news → Q (.bytes (rstrip v) t') { s with heap := h', toks := k }) : wpAny (model prog w) A (call (.type "bytes") [.ref D]) Q E s := by
  have hb : ∀ n ∈ ns', 0 ≤ n ∧ n < 256 := fun n hn => ⟨(hg n hn).1, (hg n hn).2.1⟩
  refine KBa.make_K F N hh hl hi hb (by omega) fun h' t' k F' N' _ => ?_
  have e : byteArr ns' = rstrip v := by
    have h1 := octs_byteArr ns' hb
    rw [← hTr] at h1
    have h2 : (byteArr ns').toList = (rstrip v).toList := by
      unfold octs at h1
      have := congrArg (List.map Nat.toUInt8) h1
      rw [List.map_map, List.map_map] at this
      have hid : (Nat.toUInt8 ∘ fun x : UInt8 => x.toNat) = id := by funext c; exact UInt8.ofNat_toNat
      rw [hid, List.map_id, List.map_id] at this
      exact this
    exact Array.toList_inj.mp h2
  rw [e]
  exact h h' t' k F' N'
theorem eq_same {b : Array UInt8} {t u : Tok} (h : Q (.bool true) s) : wpAny (model prog w) A (compareOp .Eq (.bytes b t) (.bytes b u)) Q E s :=
  eq_bytes (by rw [beq_self_eq_true]; exact h)
theorem meta_int : typeOf (.type "int") = pure (.type "type") := by first | rfl | kernel_rfl | (show builtinType _ = _; rw [builtinType_eq_fast]; kernel_rfl)
theorem sub_int9 : isSubtype (.type "int") (.type "int") = pure true := by rw [isSubtype_type]; kernel_rfl
theorem isi_int {i : Int} {t : Tok} (h : Q (.bool true) s) : wpAny (model prog w) A (call (.builtin "isinstance") [.int i t, .type "int"]) Q E s :=
  call_isinstance_yes (typeIs_int s i t) meta_int sub_int9 h
theorem ne_int_same {i : Int} {t u : Tok} (h : Q (.bool false) s) : wpAny (model prog w) A (compareOp .NotEq (.int i t) (.int i u)) Q E s :=
  ne_int (by rw [bne_self_eq_false]; exact h)
/-- [x for x in row if x > 127] -/
theorem csrcT_high {ax : Addr} {env : Env} {elt ct : PySem.Expr} {x : Str} {scope : Scope} {cl : List (Str × Addr)} {ns' : List Int} {k : Nat} {s₁ : Shared} (hTr : octs (rstrip v) = ns'.map Int.toNat) (hl35 : ns'.length ≤ 35) (hg : ∀ n ∈ ns', GoodI n) (hh : A.handled = none) (F : Fr h₀ L s₁.heap m) (N : News h₀ L s₁.heap news) (hm : (ax, ({ cls := .type "list", data := .seq us.toArray k } : Obj)) ∈ news) (hi : IntsAre us ns')
    (turn : ∀ k t I oI C oC D m₂ ys h tk (E' : Value → Shared → Prop), GoodI k → LCg.NsObj oC m₂ → m₂ x = some (.int k t) → Fr h₀ L h m → News h₀ L h ((I, oI) :: (C, oC) :: (D, LCg.lst ys) :: news) →
      wpAny (model prog w) A (isTrue ct (compEnvC scope cl C env) (eval ct (compEnvC scope cl C env))) (TstI prog w A (compEnvC scope cl C env) elt h₀ L m { s₁ with heap := h, toks := tk } ((I, oI) :: (C, oC) :: (D, LCg.lst ys) :: news) (decide (127 < k)) k E') E' { s₁ with heap := h, toks := tk })
    (fin : ∀ ys hs D h tk, IntsAre ys hs → (Ascii v → hs.length = 0) → (¬ Ascii v → 0 < hs.length) → hs.length ≤ 35 → Fr h₀ L h m → News h₀ L h ((D, LCg.lst ys) :: news) → LCg.Off1 D news → Q (.ref D) { s₁ with heap := h, toks := tk }) :
    LCt.CompSrcT prog w A h₀ L m env ct elt x scope cl (fun s₂ => LCg.FinE h₀ L m s₂ Q) (.ref ax) s₁ := by
  refine csrcT_ints (fun k => k) (fun k => decide (127 < k)) hh F N hm hi (by rw [sizeLine_eq]; omega) (fun k t I oI C oC D m₂ ys h tk E' hk => turn k t I oI C oC D m₂ ys h tk E' (hg k hk)) ?_
  intro g' ys hI D h tk F' N' o1
  rw [List.map_id'] at hI
  have hmem : ∀ c, c ∈ octs (rstrip v) → c ∈ octs v := fun c hc => by
    obtain ⟨b, hb, rfl⟩ := List.mem_map.mp hc
    refine List.mem_map.mpr ⟨b, ?_, rfl⟩
    unfold rstrip at hb
    have hb' := List.mem_reverse.mp hb
    exact List.mem_reverse.mp ((List.dropWhile_sublist _).subset hb')
  refine fin ys _ D h tk hI (fun ha => ?_) (fun ha => ?_) (Nat.le_trans (List.length_filter_le _ _) hl35) F' N' o1
  · refine List.length_eq_zero_iff.mpr (List.filter_eq_nil_iff.mpr fun n hn => ?_)
    have h1 := ha n.toNat (hmem _ (by rw [hTr]; exact List.mem_map.mpr ⟨n, hn, rfl⟩))
    have h2 := (hg n hn).1
    simp only [decide_eq_true_eq]
    omega
  · have h1 := nascii_rstrip ha
    unfold Ascii at h1
    obtain ⟨c, hc⟩ := Classical.not_forall.mp h1
    obtain ⟨hm1, hge⟩ := Classical.not_imp.mp hc
    rw [hTr] at hm1
    obtain ⟨n, hn, rfl⟩ := List.mem_map.mp hm1
    refine List.length_pos_of_mem (a := n) (List.mem_filter.mpr ⟨hn, ?_⟩)
    simp only [decide_eq_true_eq]
    omega
theorem c_decVU {kind : Int} {ns : List Int} {w : World} (hA : AlOk kind al) (hV : VOk ns v) (ha : ¬ Ascii v) (tv ta : Tok) : CtrU 10 w 60 [.str (txt v) tv, .bytes al ta] [] :=
  c_decU w v al tv ta (by have := hV.sz; omega) ha hV.pl hA.lo hA.hi hA.nd hA.no32
theorem c_dintVU {kind : Int} {ns : List Int} {w : World} (hA : AlOk kind al) (hV : VOk ns v) (ha : ¬ Ascii v) (tv ta : Tok) : CtrU 8 w 51 [.str (txt v) tv, .bytes al ta] [] :=
  c_dintU w v al tv ta (by have := hV.sz; omega) ha hV.pl hA.lo hA.hi hA.nd hA.no32
end
end B58
-- LVn
open B58
local macro_rules | `(tactic| walk_at "call ref") => `(tactic| (k_here; (show wpAny _ _ (call (Value.ref 86) _ _) _ _ _); k_dflt (refine' CtrX.use (c_noughtsX ?V _ _) ?k0 ?k1 ?k2 ?k3 ?k4 ?k5 ?k6 ?k7 ?_; (case V => with_reducible assumption); (case k0 => exact ⟨by first | exact News.isList (by k_asm) (by k_mem) | is_list, by with_reducible assumption⟩); (case k1 => k_asm); (case k2 => k_asm); (case k3 => k_asm); (case k4 => k_asm); (case k5 => k_asm); (case k6 => ktr_room); (case k7 => ktr_units); intro hLe9 t9 h9 tk9 F9 N9; (try dsimp only); (try k_fold))))
local macro_rules | `(tactic| walk_at "call ref") => `(tactic| (k_here; (show wpAny _ _ (call (Value.ref 79) _ _) _ _ _); k_dflt (refine' CtrL.use (c_carriedR ?V ?z1 ?z ?o _ _ _ _) trivial ?k0 ?k1 ?k2 ?k3 ?k4 ?k5 ?k6 ?k7 ?_; (case V => with_reducible assumption); (case z1 => with_reducible assumption); (case z => with_reducible assumption); (case o => with_reducible assumption); (case k0 => exact ⟨by first | exact News.isList (by k_asm) (by k_mem) | is_list, by with_reducible assumption⟩); (case k1 => k_asm); (case k2 => k_asm); (case k3 => k_asm); (case k4 => k_asm); (case k5 => k_asm); (case k6 => ktr_room); (case k7 => ktr_units); intro _ D9 vs9 c9 h9 tk9 F9 N9 I9 kO9; (try dsimp only); (try simp only [List.forall_mem_cons, List.not_mem_nil, false_implies, implies_true, and_true] at kO9); (try k_fold))))
local macro_rules | `(tactic| walk_at "binaryOp Add ref ref") => `(tactic| (k_here; (with_reducible show wpAny _ _ (binaryOp _ (Value.ref _) (Value.ref _)) _ _ _); k_dflt (refine' B58.add_want ?V ?z ?o ?F ?N ?a ?b ?i ?j ?_; (case V => with_reducible assumption); (case z => with_reducible assumption); (case o => with_reducible assumption); (case F => k_asm); (case N => k_asm); (case a => is_list); (case b => is_list); (case i => exact B58.ints_rep _ _ _); (case j => with_reducible assumption)); intro D' ws' h' F' N' l1 hI'; (try k_lt l1); (try k_sweep)))
local macro_rules | `(tactic| walk_at "call type:bytes") => `(tactic| (k_here; (with_reducible show wpAny _ _ (call (Value.type "bytes") [Value.ref _]) _ _ _); k_dflt (refine' B58.bytes_wantR ?A ?V ?z ?o ?F ?N ?hh ?l ?i ?_; (case A => with_reducible assumption); (case V => with_reducible assumption); (case z => with_reducible assumption); (case o => with_reducible assumption); (case F => k_asm); (case N => k_asm); (case hh => rfl); (case l => is_list); (case i => with_reducible assumption); k_whole); intro h' _ _ F' N'; (try k_sweep)))
local macro_rules | `(tactic| walk_at "call type:bytes") => `(tactic| (k_here; (with_reducible show wpAny _ _ (call (Value.type "bytes") [Value.ref _]) _ _ _); k_dflt (refine' B58.bytes_trim ?T ?z ?g ?F ?N ?hh ?l ?i ?_; (case T => with_reducible assumption); (case z => with_reducible assumption); (case g => with_reducible assumption); (case F => k_asm); (case N => k_asm); (case hh => rfl); (case l => is_list); (case i => with_reducible assumption); k_whole); intro h' _ _ F' N'; (try k_sweep)))
local macro_rules | `(tactic| walk_at "compareOp Eq bytes bytes") => `(tactic| (with_reducible refine B58.eq_same ?_))
local macro_rules | `(tactic| walk_at "compareOp NotEq int int") => `(tactic| (with_reducible refine B58.ne_int_same ?_))
local macro_rules | `(tactic| walk_at "call builtin:isinstance") => `(tactic| (k_here; (show wpAny _ _ (call _ [Value.int _ _, Value.type "int"]) _ _ _); (refine B58.isi_int ?_)))
local macro_rules | `(tactic| walk_at "eval ListComp") => `(tactic| (k_here; (show wpAny _ _ (eval (PySem.Expr.ListComp (PySem.Expr.Name _ _) [⟨_, _, [_], _⟩] _ _) _) _ _ _); k_dflt (refine LCt.ListComp_T (F₀ := by k_asm) (by with_unfolding_all rfl) (by decide) (by rfl) (by decide) (by rfl) ?_)))
local macro_rules | `(tactic| walk_at "CompSrcT") => `(tactic| (k_here; k_dflt (refine' B58.csrcT_high ?T ?l ?g ?hh ?F ?N ?m ?i ?_ ?_; (case T => with_reducible assumption); (case l => with_reducible assumption); (case g => with_reducible assumption); (case hh => rfl); (case F => k_asm); (case N => k_asm); (case m => k_mem); (case i => with_reducible assumption)); rotate_left; (intro ys9 hs9 D' h' tk' hI9 hE9 hP9 hZ9 F' N' o1'; first | (have hLn8 := hE9 (by with_reducible assumption); clear hE9 hP9) | (have hLn8 := hP9 (by with_reducible assumption); clear hE9 hP9); (try simp only [LCg.Off1, and_true] at o1'); (try dsimp only); (try k_fold)); rotate_left; (intro k' t' I' oI' C' oC' D' m' ys' h' tk' E' hg' hC' hx' F' N'; (k_dflt (have hg8 := hg'.1)); (try dsimp only); (try k_fold))))
local macro_rules | `(tactic| walk_at "call ref") => `(tactic| (k_here; (show wpAny _ _ (call (Value.ref 37) [Value.bytes _ _] _) _ _ _); k_dflt (refine' Ctr.use (c_encR1 ?A ?V ?z ?o ?e _) trivial trivial ?k1 ?k2 ?k3 ?k4 ?k5 ?k6 ?k7 ?_; (case A => with_reducible assumption); (case V => with_reducible assumption); (case z => with_reducible assumption); (case o => with_reducible assumption); (case e => assumption); (case k1 => k_asm); (case k2 => k_asm); (case k3 => k_asm); (case k4 => k_asm); (case k5 => k_asm); (case k6 => ktr_room); (case k7 => ktr_units); intro _ t9 h9 tk9 F9 N9; (try dsimp only); (try k_fold))))
local macro_rules | `(tactic| walk_at "call ref") => `(tactic| (k_here; (show wpAny _ _ (call (Value.ref 37) [Value.bytes _ _, Value.bytes _ _] _) _ _ _); k_dflt (refine' Ctr.use (c_encR ?A ?V ?z ?o ?e _ _) trivial trivial ?k1 ?k2 ?k3 ?k4 ?k5 ?k6 ?k7 ?_; (case A => with_reducible assumption); (case V => with_reducible assumption); (case z => with_reducible assumption); (case o => with_reducible assumption); (case e => exact rfl); (case k1 => k_asm); (case k2 => k_asm); (case k3 => k_asm); (case k4 => k_asm); (case k5 => k_asm); (case k6 => ktr_room); (case k7 => ktr_units); intro _ t9 h9 tk9 F9 N9; (try dsimp only); (try k_fold))))
local macro_rules | `(tactic| walk_at "call ref") => `(tactic| (k_here; (show wpAny _ _ (call (Value.ref 60) [Value.str _ _, Value.bytes _ _] _) _ _ _); k_dflt (refine' CtrU.use (c_decVU ?A ?V ?a _ _) ?k8 ?k9 ?k1 ?k2 ?k3 ?k4 ?k5 ?k6 ?k7 ?_; (case A => with_reducible assumption); (case V => with_reducible assumption); (case a => with_reducible assumption); (case k8 => assumption); (case k9 => assumption); (case k1 => k_asm); (case k2 => k_asm); (case k3 => k_asm); (case k4 => k_asm); (case k5 => k_asm); (case k6 => ktr_room); (case k7 => ktr_units); intro e9 h9 tk9 R9 U9; (try dsimp only))))
local macro_rules | `(tactic| walk_at "call ref") => `(tactic| (k_here; (show wpAny _ _ (call (Value.ref 51) [Value.str _ _, Value.bytes _ _] _) _ _ _); k_dflt (refine' CtrU.use (c_dintVU ?A ?V ?a _ _) ?k8 ?k9 ?k1 ?k2 ?k3 ?k4 ?k5 ?k6 ?k7 ?_; (case A => with_reducible assumption); (case V => with_reducible assumption); (case a => with_reducible assumption); (case k8 => assumption); (case k9 => assumption); (case k1 => k_asm); (case k2 => k_asm); (case k3 => k_asm); (case k4 => k_asm); (case k5 => k_asm); (case k6 => ktr_room); (case k7 => ktr_units); intro e9 h9 tk9 R9 U9; (try dsimp only))))
-- LZ
open B58
theorem PySem.Challenge.cw_fe0042_02_holds : PySem.Challenge.rw_fe0042_02.Holds :=
  B58.hd (by
  k_go0
  all_goals try k_fold
  have hIA := (readsAll_intsAre (by assumption)).1
  k_steps)
