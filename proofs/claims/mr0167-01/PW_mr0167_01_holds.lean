import PyProof.Rows.All
import Wide.All
import OpenK.AllK
import Wide.FinOn
import PySem.Challenge.RW_mr0167_01
open PySem PySem.W PyProof.Rows
set_option Elab.async false
set_option maxRecDepth 100000
set_option maxHeartbeats 8000000
/-! Base -/
namespace Mine
open_top hd for PySem.Challenge.rw_mr0167_01
end Mine
/-! C0 -/
namespace Mine
def Con (w : World) (mean : ExcName → Option Value) (mg mb : Str → Option Value) (f : Addr) (dN uN : Nat) (news : List (Addr × Obj)) (vs : List Value) (Out : List (Addr × Obj) → Value → Prop) : Prop :=
  ∀ (dp un : Nat) (gd : Option (List Code)) (cn : Str) (cs : Scope) (a : Addr) (ccd : Value) (cl : List (Str × Addr)) (outer : List Env) (A₀ : Around) (base h₀ : Heap) (L : Addr) (m : Str → Option Value) (s : Shared) (Q E : Value → Shared → Prop),
    Below A₀ base outer h₀ → Fr h₀ L s.heap m → (hd.heap_39 w.params).In h₀ → News h₀ L s.heap news → Top hd.view_39 (looseW hd.view_39 [Str.ofString "EXACT_TOKEN_TYPES"]) mean mg mb h₀ → cs.kind = .function →
    dp + dN < recursionLimit → un + uN < cLine →
    (∀ r tl h' tk', Fr h₀ L h' m → News h₀ L h' (tl ++ news) → (∀ q ∈ news, ∀ p ∈ tl, q.1 < p.1) → Out tl r → Q r { s with heap := h', toks := tk' }) →
    wpAny (model PySem.Challenge.rw_mr0167_01.row.prog w) (ktrTop dp un gd cn cs L a ccd cl outer) (call (.ref f) vs) Q E s
end Mine
namespace Mine
structure Stop (P : Prop) : Prop where
  out : P
theorem Stop.mk' {P : Prop} (h : Stop P) : P := h.out
end Mine
/-! Plain -/
namespace Mine
/-- the table of operators: signs' numbers, the operator's number (the dict's own order) -/
def ops : List (List Nat × Int) := [([33], 54), ([33, 61], 28), ([37], 24), ([37, 61], 40), ([38], 19), ([38, 61], 41), ([40], 7), ([41], 8), ([42], 16), ([42, 42], 35), ([42, 42, 61], 46), ([42, 61], 38), ([43], 14), ([43, 61], 36), ([44], 12), ([45], 15), ([45, 61], 37), ([45, 62], 51), ([46], 23), ([46, 46, 46], 52), ([47], 17), ([47, 47], 47), ([47, 47, 61], 48), ([47, 61], 39), ([58], 11), ([58, 61], 53), ([59], 13), ([60], 20), ([60, 60], 33), ([60, 60, 61], 44), ([60, 61], 29), ([61], 22), ([61, 61], 27), ([62], 21), ([62, 61], 30), ([62, 62], 34), ([62, 62, 61], 45), ([64], 49), ([64, 61], 50), ([91], 9), ([93], 10), ([94], 32), ([94, 61], 43), ([123], 25), ([124], 18), ([124, 61], 42), ([125], 26), ([126], 31)]
/-- the operators by their numbers, from 7 on -/
def sgs : List (List Nat) := [[40], [41], [91], [93], [58], [44], [59], [43], [45], [42], [47], [124], [38], [60], [62], [61], [46], [37], [123], [125], [61, 61], [33, 61], [60, 61], [62, 61], [126], [94], [60, 60], [62, 62], [42, 42], [43, 61], [45, 61], [42, 61], [47, 61], [37, 61], [38, 61], [124, 61], [94, 61], [60, 60, 61], [62, 62, 61], [42, 42, 61], [47, 47], [47, 47, 61], [64], [64, 61], [45, 62], [46, 46, 46], [58, 61], [33]]
/-- no operator goes on beyond g with the sign that follows -/
def ext (g : List Nat) : List Nat → Bool
  | [] => true
  | c :: _ => ops.all fun p => !((g ++ [c]).isPrefixOf p.1)
/-- what the reader tells of a text -/
inductive Rd : List Nat → List Int → Prop where
  | nil : Rd [] []
  | blank {cs : List Nat} {ts : List Int} : Rd cs ts → Rd (32 :: cs) (0 :: ts)
  | fig {d : Nat} {cs : List Nat} {ts : List Int} : d < 10 → Rd cs ts → Rd ((48 + d) :: cs) ((256 + (d : Int)) :: ts)
  | op {g : List Nat} {v : Int} {cs : List Nat} {ts : List Int} : (g, v) ∈ ops → ext g cs = true → Rd cs ts → Rd (g ++ cs) (v :: ts)
end Mine
/-! Plain2 -/
namespace Mine
abbrev figs : Str := Str.ofString "0123456789"
abbrev figEmpty (y : Str) : Bool := (Builtin.Str.occurrences (Str.ofString "0123456789") y 0 (Str.ofString "0123456789").length 1).isEmpty
theorem item_at {x : Str} {cs1 cs : List Nat} {c : Nat} (hx : x.cps.toList = cs1 ++ c :: cs) : Txt.item x (cs1.length : Int) = ⟨#[c]⟩ := by
  have hl : x.cps.size = cs1.length + (cs.length + 1) := by
    have h1 := congrArg List.length hx
    simpa using h1
  have hg : x.cps[cs1.length]? = some c := by
    rw [← Array.getElem?_toList, hx]
    simp
  unfold Txt.item Txt.charAt
  have h2 : seqIndex? (cs1.length : Int) x.length = some cs1.length := by
    unfold seqIndex?
    have : x.length = cs1.length + (cs.length + 1) := hl
    rw [this]
    simp
    omega
  rw [h2]
  simp [hg]
theorem figs_find : ∀ d : Fin 10, Txt.find (Str.ofString "0123456789") ⟨#[48 + d.val]⟩ = (d.val : Int) ∧ figEmpty ⟨#[48 + d.val]⟩ = false ∧ ((⟨#[48 + d.val]⟩ : Str) == Str.ofString " ") = false := by decide +kernel
theorem ops_heads : (ops.all fun p => match p.1 with | [] => false | c :: _ => figEmpty ⟨#[c]⟩ && !((⟨#[c]⟩ : Str) == Str.ofString " ")) = true := by decide +kernel
theorem rd_cases {x : Str} {k : Int} {cs1 cs2 : List Nat} {rest : List Int} (hx : x.cps.toList = cs1 ++ cs2) (hk1 : k = cs1.length ∨ (cs2 = [] ∧ (cs1.length : Int) ≤ k ∧ k ≤ cs1.length + 3)) (hlt : k < (x.length : Int)) (hR : Rd cs2 rest) :
    k = cs1.length ∧ (
      (∃ cs ts, cs2 = 32 :: cs ∧ rest = 0 :: ts ∧ Rd cs ts ∧ (Txt.item x k == Str.ofString " ") = true) ∨
      (∃ (d : Nat) (cs : List Nat) (ts : List Int), cs2 = (48 + d) :: cs ∧ rest = (256 + (d : Int)) :: ts ∧ Rd cs ts ∧ (Txt.item x k == Str.ofString " ") = false ∧ figEmpty (Txt.item x k) = false ∧ Txt.find (Str.ofString "0123456789") (Txt.item x k) = (d : Int)) ∨
      (∃ g v cs ts, (g, v) ∈ ops ∧ ext g cs = true ∧ cs2 = g ++ cs ∧ rest = v :: ts ∧ Rd cs ts ∧ (Txt.item x k == Str.ofString " ") = false ∧ figEmpty (Txt.item x k) = true)) := by
  have hl : (x.length : Int) = cs1.length + cs2.length := by
    have h1 := congrArg List.length hx
    have : x.length = cs1.length + cs2.length := by simpa [Str.length] using h1
    omega
  have hk : k = cs1.length := by
    rcases hk1 with h | ⟨h, h', _⟩
    · exact h
    · subst h; simp at hl; omega
  refine ⟨hk, ?_⟩
  subst hk
  cases hR with
  | nil => simp at hl; omega
  | blank h => exact .inl ⟨_, _, rfl, rfl, h, by rw [item_at hx]; decide +kernel⟩
  | @fig d cs ts hd h =>
    have hf := figs_find ⟨d, hd⟩
    exact .inr (.inl ⟨d, cs, ts, rfl, rfl, h, by rw [item_at hx]; exact hf.2.2, by rw [item_at hx]; exact hf.2.1, by rw [item_at hx]; exact hf.1⟩)
  | @op g v cs ts hg he h =>
    have ho := List.all_eq_true.mp ops_heads _ hg
    cases g with
    | nil => simp at ho
    | cons c g =>
      simp only [Bool.and_eq_true, Bool.not_eq_true'] at ho
      have hi := item_at (cs := g ++ cs) hx
      exact .inr (.inr ⟨c :: g, v, cs, ts, hg, he, rfl, rfl, h, by rw [hi]; exact ho.2, by rw [hi]; exact ho.1⟩)
end Mine
/-! Plain3 -/
namespace Mine
def tabD : List (Str × KTD.Dat) := ops.map fun p => (⟨p.1.toArray⟩, KTD.Dat.flat (PyData.int p.2))
def inOps (g : List Nat) : Bool := ops.any fun p => p.1 == g
theorem slice_clip (x : Str) (i j : Int) : Txt.slice x (some i) (some j) = Txt.slice x (some i) (some (if j < 0 then j else min j x.length)) := by
  have e : Builtin.Str.strSliceIndices (some i) (some j) 1 x.length = Builtin.Str.strSliceIndices (some i) (some (if j < 0 then j else min j x.length)) 1 x.length := by
    unfold Builtin.Str.strSliceIndices
    dsimp only
    congr 1
    simp only [show (1 : Int) > 0 by decide, if_true]
    by_cases h : j < 0
    · simp [h]
    · simp only [h, if_false]
      split <;> omega
  unfold Txt.slice
  rw [e]
theorem slice_at {x : Str} {cs1 cs2 : List Nat} {z : Int} (hx : x.cps.toList = cs1 ++ cs2) (hz : 0 ≤ z) :
    Txt.slice x (some (cs1.length : Int)) (some ((cs1.length : Int) + z)) = ⟨(cs2.take z.toNat).toArray⟩ := by
  have hl : x.cps.toList.length = cs1.length + cs2.length := by rw [hx, List.length_append]
  have hl' : x.length = cs1.length + cs2.length := by
    have : x.length = x.cps.toList.length := by simp [Str.length]
    omega
  rw [slice_clip]
  have h0 : ¬ ((cs1.length : Int) + z < 0) := by omega
  rw [if_neg h0]
  have h := slice_closes (x := x) (i := (cs1.length : Int)) (j := min ((cs1.length : Int) + z) x.length) ⟨by omega, by omega, by omega⟩
  rw [beq_iff_eq] at h
  rw [h]
  congr 1
  congr 1
  rw [hx]
  simp only [Int.toNat_natCast, List.drop_left]
  by_cases hc : z.toNat ≤ cs2.length
  · congr 1; omega
  · rw [List.take_of_length_le (by omega), List.take_of_length_le (by omega)]
theorem inKeys_tab (k : Str) : KTD.inKeys k tabD = inOps k.cps.toList := by
  unfold tabD inOps
  induction ops with
  | nil => rfl
  | cons p r ih =>
    simp only [List.map_cons, KTD.inKeys, List.any_cons, ih]
    congr 1
    rw [Bool.eq_iff_iff]
    simp only [decide_eq_true_eq, beq_iff_eq]
    constructor
    · intro h; rw [h]
    · intro h; rw [h]
theorem ops_len : (ops.all fun p => decide (1 ≤ p.1.length) && decide (p.1.length ≤ 3)) = true := by decide +kernel
theorem ops_nodup : (ops.map (·.1)).Nodup := by decide +kernel
theorem inOps_of {g : List Nat} {v : Int} (h : (g, v) ∈ ops) : inOps g = true := List.any_eq_true.mpr ⟨_, h, by simp⟩
theorem ext_out {g cs : List Nat} {c : Nat} (he : ext g (c :: cs) = true) {r : List Nat} : inOps (g ++ c :: r) = false := by
  unfold inOps
  rw [List.any_eq_false]
  intro p hp h
  have h1 := List.all_eq_true.mp he p hp
  rw [beq_iff_eq] at h
  rw [h] at h1
  have h2 : (g ++ [c]).isPrefixOf (g ++ c :: r) = true := List.isPrefixOf_iff_prefix.mpr ⟨r, by simp⟩
  rw [h2] at h1
  cases h1
theorem op_slice {g cs : List Nat} {v : Int} {z : Int} (hg : (g, v) ∈ ops) (he : ext g cs = true) (h1 : 1 ≤ z) (h3 : z ≤ 3) (hno : ∀ j : Int, z < j → j ≤ 3 → inOps ((g ++ cs).take j.toNat) = false)
    (hz : ¬ (1 < z) ∨ inOps ((g ++ cs).take z.toNat) = true) : (g ++ cs).take z.toNat = g ∧ (cs = [] ∨ z = g.length) := by
  have hl := List.all_eq_true.mp ops_len _ hg
  simp only [Bool.and_eq_true, decide_eq_true_eq] at hl
  cases cs with
  | nil =>
    rw [List.append_nil] at hno hz ⊢
    have : z = 3 := by
      by_cases h : z = 3
      · exact h
      · have := hno 3 (by omega) (by omega)
        rw [List.take_of_length_le (by simpa using hl.2), inOps_of hg] at this
        cases this
    subst this
    exact ⟨List.take_of_length_le (by simpa using hl.2), .inl rfl⟩
  | cons c cs =>
    have hz' : z = g.length := by
      by_cases ha : z < g.length
      · have := hno g.length ha (by omega)
        rw [Int.toNat_natCast, List.take_left, inOps_of hg] at this
        cases this
      · by_cases hb : (g.length : Int) < z
        · exfalso
          have hin : inOps ((g ++ c :: cs).take z.toNat) = true := hz.resolve_left (by omega)
          have e : (g ++ c :: cs).take z.toNat = g ++ c :: cs.take (z.toNat - g.length - 1) := by
            rw [List.take_append, List.take_of_length_le (by omega)]
            congr 1
            obtain ⟨q, hq⟩ : ∃ q, z.toNat - g.length = q + 1 := ⟨z.toNat - g.length - 1, by omega⟩
            rw [hq]
            rfl
          rw [e, ext_out he] at hin
          cases hin
        · omega
    refine ⟨?_, .inr hz'⟩
    rw [hz', Int.toNat_natCast, List.take_left]
theorem datum_op {g : List Nat} {v : Int} (h : (g, v) ∈ ops) : KTD.datumAt (⟨g.toArray⟩ : Str) tabD = some (KTD.Dat.flat (PyData.int v)) := by
  have hn := ops_nodup
  unfold tabD
  revert h hn
  induction ops with
  | nil => intro h; cases h
  | cons p r ih =>
    intro h hn
    simp only [List.map_cons, KTD.datumAt]
    rcases List.mem_cons.mp h with rfl | h
    · simp
    · have hne : (⟨g.toArray⟩ : Str) ≠ ⟨p.1.toArray⟩ := by
        intro e
        have e2 : g = p.1 := by
          have := congrArg (fun s : Str => s.cps.toList) e
          simpa using this
        rw [List.map_cons, List.nodup_cons] at hn
        exact hn.1 (e2 ▸ List.mem_map.mpr ⟨_, h, rfl⟩)
      rw [if_neg (by simp [hne])]
      exact ih h (by rw [List.map_cons, List.nodup_cons] at hn; exact hn.2)
theorem eachL_of {κ : Type} [DecidableEq κ] {h₀ : Heap} {k : κ} {P : Value → Prop} {i : Int} : ∀ {D : List (κ × KTD.Dat)}, KTD.datumAt k D = some (KTD.Dat.flat (PyData.int i)) → (∀ t, P (.int i t)) → KTD.EachL h₀ k P D
  | [], h, _ => by simp [KTD.datumAt] at h
  | (x, d) :: D, h, hp => by
    by_cases hx : k = x
    · have hd : d = KTD.Dat.flat (PyData.int i) := by
        simp only [KTD.datumAt] at h
        rw [if_pos (by simp [hx])] at h
        exact Option.some.inj h
      subst hd
      exact KTD.eachL_hit hx hp
    · simp only [KTD.datumAt] at h
      rw [if_neg (by simp [hx])] at h
      exact KTD.eachL_miss hx (eachL_of h hp)
theorem inKeys_of_datum {κ δ : Type} [DecidableEq κ] {k : κ} {D : List (κ × δ)} {d : δ} (h : KTD.datumAt k D = some d) : KTD.inKeys k D = true := by
  rw [← KTD.isSome_datumAt, h]; rfl
end Mine
/-! Rules -/
namespace Mine
theorem fr3 {h₀ h : Heap} {L : Addr} {m : Str → Option Value} {a b c : Str} {va vb vc : Value} (F : Fr h₀ L h m) (ha : m a = some va) (hb : m b = some vb) (hc : m c = some vc) :
    Fr h₀ L h (fun y => if y = a then some va else if y = b then some vb else if y = c then some vc else m y) := by
  have e : (fun y => if y = a then some va else if y = b then some vb else if y = c then some vc else m y) = m := by
    funext y
    by_cases h1 : y = a
    · simp [h1, ha]
    · by_cases h2 : y = b
      · subst h2; simp [h1, hb]
      · by_cases h3 : y = c
        · subst h3; simp [h1, h2, hc]
        · simp [h1, h2, h3]
  rw [e]; exact F
theorem fr4 {h₀ h : Heap} {L : Addr} {m : Str → Option Value} {a b c d : Str} {va vb vc vd : Value} (F : Fr h₀ L h m) (ha : m a = some va) (hb : m b = some vb) (hc : m c = some vc) (hd : m d = some vd) :
    Fr h₀ L h (fun y => if y = a then some va else if y = b then some vb else if y = c then some vc else if y = d then some vd else m y) := by
  have e : (fun y => if y = a then some va else if y = b then some vb else if y = c then some vc else if y = d then some vd else m y) = m := by
    funext y
    by_cases h1 : y = a
    · simp [h1, ha]
    · by_cases h2 : y = b
      · subst h2; simp [h1, hb]
      · by_cases h3 : y = c
        · subst h3; simp [h1, h2, hc]
        · by_cases h4 : y = d
          · subst h4; simp [h1, h2, h3, hd]
          · simp [h1, h2, h3, h4]
  rw [e]; exact F
section
variable {prog : Program} {w : World} {A : Around} {E : Value → Shared → Prop} {s : Shared} {h₀ : Heap} {L : Addr} {m : Str → Option Value} {news : List (Addr × Obj)}
theorem append_top {D : Addr} {its : Array Value} {n : Nat} {x : Value} {Q : Value → Shared → Prop} (F : Fr h₀ L s.heap m) (N : News h₀ L s.heap ((D, listOf its n) :: news)) (hlt : ∀ p ∈ news, p.1 < D) (hsz : its.size ≤ sizeLine)
    (h : ∀ h', Fr h₀ L h' m → News h₀ L h' ((D, listOf (its.push x) (n + 1)) :: news) → Q .none { s with heap := h' }) : wpAny (model prog w) A (call (.builtin "list.append") [.ref D, x]) Q E s :=
  append_K F N (Upd.head fun p hp => Nat.ne_of_lt (hlt p hp)) h hsz
end
theorem tab29 {w : World} {h : Heap} (X : (hd.heap_39 w.params).In h) : KTD.TextTab h 29 tabD := kt_text_in (a := 29) (D := tabD) X (by kernel_rfl)
section
variable {prog : Program} {w : World} {A : Around} {E : Value → Shared → Prop} {s : Shared} {h₀ : Heap} {L : Addr} {m : Str → Option Value} {a : Addr} {k : Str} {tk : Tok}
theorem notin_op {Q : Value → Shared → Prop} (T : KTD.TextTab h₀ a tabD) (F : Fr h₀ L s.heap m) (h : Q (.bool (!inOps k.cps.toList)) { s with toks := s.toks + 1 }) : wpAny (model prog w) A (compareOp .NotIn (.str k tk) (.ref a)) Q E s :=
  KTD.notin_text (D := tabD) ⟨T, F.keep⟩ (by rw [inKeys_tab]; exact h)
theorem item_op {value slice : Expr} {Q : Value → Shared → Prop} {g : List Nat} {v : Int} (T : KTD.TextTab h₀ a tabD) (F : Fr h₀ L s.heap m) (hk : k = ⟨g.toArray⟩) (hg : (g, v) ∈ ops) (h : ∀ t, Q (.int v t) { s with toks := s.toks + 1 })
    (hs : subscripted slice false (.ref a) (.str k tk) = operate [.ref a, .str k tk] (getItem (.ref a) (.str k tk)) := by with_unfolding_all rfl) :
    wpAny (model prog w) A (subscriptTail value slice (.ref a) (.str k tk)) Q E s := by
  subst hk
  exact KTD.item_textA (D := tabD) ⟨T, F.keep⟩ (by decide +kernel) (inKeys_of_datum (datum_op hg)) (eachL_of (datum_op hg) h) hs
end
end Mine
/-! Read -/
namespace Mine
section
def RdJ (x : Str) (t : Tok) (news : List (Addr × Obj)) (toks : List Int) (n : Nat) (m : Str → Option Value) (nx : List (Addr × Obj)) : Prop :=
  ∃ (k : Int) (t1 : Tok) (l' : Addr) (vs : List Value) (n1 : Nat) (dn rest : List Int) (cs1 cs2 : List Nat),
    nx = (l', listOf vs.toArray n1) :: news ∧ (∀ p ∈ news, p.1 < l') ∧ IntsAre vs dn ∧ toks = dn ++ rest ∧ Rd cs2 rest ∧ x.cps.toList = cs1 ++ cs2 ∧
    (k = cs1.length ∨ (cs2 = [] ∧ (cs1.length : Int) ≤ k ∧ k ≤ cs1.length + 3)) ∧ dn.length ≤ cs1.length ∧ n = cs2.length ∧
    m (Str.ofString "at") = some (.int k t1) ∧ m (Str.ofString "told") = some (.ref l') ∧ m (Str.ofString "text") = some (.str x t)
def RdK (x : Str) (t : Tok) (k : Int) (t1 : Tok) (l' : Addr) (news : List (Addr × Obj)) (n : Nat) (m : Str → Option Value) (nx : List (Addr × Obj)) : Prop :=
  ∃ (z : Int) (t2 : Tok), nx = news ∧ n = z.toNat ∧ 1 ≤ z ∧ z ≤ 3 ∧ (∀ j : Int, z < j → j ≤ 3 → inOps (Txt.slice x (some k) (some (k + j))).cps.toList = false) ∧
    m (Str.ofString "size") = some (.int z t2) ∧ m (Str.ofString "at") = some (.int k t1) ∧ m (Str.ofString "told") = some (.ref l') ∧ m (Str.ofString "text") = some (.str x t)
local macro_rules | `(tactic| walk_at "call builtin:list.append") => `(tactic| (k_here; (with_unfolding_all refine' append_top ?k1 ?k2 ?k3 ?z ?_; (case k1 => k_asm); (case k2 => k_asm); (case k3 => assumption); (case z => assumption)); k_whole; intro h' F' N'; (try k_sweep)))
local macro_rules | `(tactic| walk_at "compareOp NotIn str ref") => `(tactic| (k_here; (with_unfolding_all refine' notin_op ?k1 ?k2 ?_; (case k1 => assumption); (case k2 => k_asm)); k_whole))
theorem ints_push {vs : List Value} {ns : List Int} {n : Int} {t : Tok} (h : IntsAre vs ns) : IntsAre (vs ++ [.int n t]) (ns ++ [n]) := by
  induction h with
  | nil => exact .cons _ _ .nil
  | cons a b _ ih => exact .cons _ _ ih
theorem nx_push {l' : Addr} {vs : List Value} {v : Value} {n : Nat} {news : List (Addr × Obj)} : (l', listOf (vs.toArray.push v) n) :: news = (l', listOf (vs ++ [v]).toArray n) :: news := by rw [List.push_toArray]
theorem two_ways {b : Bool} {P : Prop} (h1 : b = true) (h2 : b = false) : P := by rw [h1] at h2; cases h2
theorem op_read {x : Str} {g cs1 cs : List Nat} {v : Int} {z : Int} (hx : x.cps.toList = cs1 ++ (g ++ cs)) (hg : (g, v) ∈ ops) (he : ext g cs = true) (h1 : 1 ≤ z) (h3 : z ≤ 3)
    (hno : ∀ j : Int, z < j → j ≤ 3 → inOps (Txt.slice x (some (cs1.length : Int)) (some ((cs1.length : Int) + j))).cps.toList = false) (hz : ¬ (1 < z) ∨ inOps (Txt.slice x (some (cs1.length : Int)) (some ((cs1.length : Int) + z))).cps.toList = true) :
    Txt.slice x (some (cs1.length : Int)) (some ((cs1.length : Int) + z)) = ⟨g.toArray⟩ ∧ (cs = [] ∨ z = g.length) ∧ (g.length : Int) ≤ z := by
  have h := op_slice hg he h1 h3 (fun j a b => by have := hno j a b; rwa [slice_at hx (by omega), List.toList_toArray] at this) (hz.imp id fun q => by rwa [slice_at hx (by omega), List.toList_toArray] at q)
  rw [slice_at hx (by omega), h.1]
  refine ⟨rfl, h.2, ?_⟩
  have h4 := congrArg List.length h.1
  rw [List.length_take] at h4
  omega
theorem rd_nil {ts : List Int} (h : Rd [] ts) : ts = [] := by
  generalize e : ([] : List Nat) = cs at h
  cases h with
  | nil => rfl
  | blank _ => cases e
  | fig _ _ => cases e
  | @op g v cs ts hg _ _ =>
    have h1 := List.all_eq_true.mp ops_len _ hg
    have h2 : g = [] := (List.append_eq_nil_iff.mp e.symm).1
    subst h2
    simp at h1
theorem rd_end {x : Str} {k : Int} {cs1 cs2 : List Nat} {rest : List Int} (hx : x.cps.toList = cs1 ++ cs2) (hk1 : k = cs1.length ∨ (cs2 = [] ∧ (cs1.length : Int) ≤ k ∧ k ≤ cs1.length + 3)) (hlt : ¬ k < (x.length : Int)) (hR : Rd cs2 rest) : rest = [] := by
  have hl : (x.length : Int) = cs1.length + cs2.length := by
    have h1 := congrArg List.length hx
    have : x.length = cs1.length + cs2.length := by simpa [Str.length] using h1
    omega
  have : cs2 = [] := by
    rcases hk1 with h | h
    · exact List.length_eq_zero_iff.mp (by omega)
    · exact h.1
  subst this
  exact rd_nil hR
theorem op_at {g cs1 cs : List Nat} {z : Int} (h : (cs = [] ∨ z = g.length) ∧ (g.length : Int) ≤ z) (h3 : z ≤ 3) : (cs1.length : Int) + z = (cs1 ++ g).length ∨ (cs = [] ∧ ((cs1 ++ g).length : Int) ≤ (cs1.length : Int) + z ∧ (cs1.length : Int) + z ≤ (cs1 ++ g).length + 3) := by
  rw [List.length_append]
  rcases h.1 with h1 | h1
  · right; exact ⟨h1, by omega, by omega⟩
  · left; omega
theorem read_con {w : World} {mean : ExcName → Option Value} {mg mb : Str → Option Value} {news : List (Addr × Obj)} {x : Str} {t : Tok} {toks : List Int}
  (hlen : x.length ≤ 1000) (hR : Rd x.cps.toList toks) :
  Con w mean mg mb 57 1 8 news [.str x t] (fun tl r => ∃ (l' : Addr) (ws' : List Value) (n' : Nat), tl = [(l', listOf ws'.toArray n')] ∧ r = .ref l' ∧ IntsAre ws' toks) := by
  unfold Con
  w_on
  k_with_none
  k_fill
  intro dp un gd cn cs a ccd cl outer A₀ base h₀ L m s Q E B F X N T hk hd hu hret
  k_with "exec While Compare cons nil" => (refine Stop.mk' ?_)
  k_with "exec While BoolOp cons nil" => (refine Stop.mk' ?_)
  k_with "subscriptTail Name Subscript ref str" => (refine Stop.mk' ?_)
  w_strict (
   refine wpAny_call ?_
   k_dflt ktr_enter
   k_steps
   all_goals (refine Stop.mk ?_))
  rename Fr _ _ _ _ => F1
  rename News _ _ _ _ => N1
  have ttX := tab29 (by assumption)
  refine While_inv2 (RdJ x t news toks) F1 N1 ⟨0, _, _, [], _, [], toks, [], x.cps.toList, rfl, by assumption, .nil, rfl, hR, rfl, .inl rfl, Nat.le_refl _, rfl, rfl, rfl, rfl⟩ ?_ ?_
  · clear F1 N1
    rintro n m₁ nx h₁ tk₁ F₁ N₁ ⟨k, t1, l', vs, n1, dn, rest, cs1, cs2, rfl, hlt, hI, htoks, hRd, hx, hk1, hdn, hn, e1, e2, e3⟩
    have F2 := fr3 F₁ e1 e2 e3
    have hsz : vs.toArray.size ≤ sizeLine := by
      have h1 := hI.length
      have h2 := congrArg List.length hx
      have h3 : x.length = x.cps.toList.length := by simp [Str.length]
      simp only [List.length_append] at h2
      rw [List.size_toArray, sizeLine_eq]
      omega
    clear F₁
    w_strict (k_steps)
    all_goals (first | refine Stop.mk ?_ | skip)
    · obtain ⟨rfl, hc⟩ := rd_cases hx hk1 (by assumption) hRd
      rename Fr _ _ _ _ => F9
      rename News _ _ _ _ => N9
      rcases hc with ⟨cs, ts, rfl, rfl, hR', hb⟩ | ⟨d, cs, ts, rfl, rfl, hR', hb, hf, hv⟩ | ⟨g, v, cs, ts, hg, he, rfl, rfl, hR', hb, hf⟩
      · exact ⟨_, _, _, _, cs.length, rfl, F9, N9, by rw [hn]; exact Nat.lt_succ_self _, _, _, l', vs ++ [.int 0 _], _, dn ++ [0], ts, cs1 ++ [32], cs, nx_push, hlt, ints_push hI, by rw [htoks, List.append_assoc]; rfl, hR', by rw [hx, List.append_assoc]; rfl, .inl (by rw [List.length_append]; rfl), by rw [List.length_append, List.length_append]; exact Nat.add_le_add_right hdn 1, rfl, rfl, rfl, rfl⟩
      · exact two_ways (by assumption) hb
      · exact two_ways (by assumption) hb
    · rename Fr _ _ _ _ => F4
      rename News _ _ _ _ => N4
      obtain ⟨rfl, hc⟩ := rd_cases hx hk1 (by assumption) hRd
      rcases hc with ⟨cs, ts, rfl, rfl, hR', hb⟩ | ⟨d, cs, ts, rfl, rfl, hR', hb, hf, hv⟩ | ⟨g, v, cs, ts, hg, he, rfl, rfl, hR', hb, hf⟩
      · exact two_ways hb (by assumption)
      · exact two_ways (by assumption) hf
      refine While_inv2 (RdK x t cs1.length t1 l' ((l', listOf vs.toArray n1) :: news)) F4 N4 ⟨3, _, rfl, rfl, by decide, by decide, fun j h1 h2 => by omega, rfl, rfl, rfl, rfl⟩ ?_ ?_
      · clear F4 N4
        rintro n5 m5 nx5 h5 tk5 F5 N5 ⟨z, t2, rfl, hn5, hz1, hz3, hno, e5, e6, e7, e8⟩
        have F6 := fr4 F5 e5 e6 e7 e8
        clear F5
        w_strict (k_steps)
        all_goals (first | refine Stop.mk ?_ | skip)
        · have hs := op_read hx hg he hz1 hz3 hno (.inr (by assumption))
          with_unfolding_all refine item_op ttX (by assumption) hs.1 hg ?_
          intro tv
          w_strict (k_steps)
          rename Fr _ _ _ _ => F9
          rename News _ _ _ _ => N9
          exact ⟨_, _, _, _, cs.length, rfl, F9, N9, by rw [hn, List.length_append]; have h1 := List.all_eq_true.mp ops_len _ hg; simp at h1; omega, _, _, l', vs ++ [.int v _], _, dn ++ [v], ts, cs1 ++ g, cs, nx_push, hlt, ints_push hI, by rw [htoks, List.append_assoc]; rfl, hR', by rw [hx, List.append_assoc], op_at hs.2 hz3, by rw [List.length_append, List.length_append]; have h1 := List.all_eq_true.mp ops_len _ hg; simp at h1; simp; omega, rfl, rfl, rfl, rfl⟩
        · rename Fr _ _ _ _ => F9
          rename News _ _ _ _ => N9
          refine ⟨_, _, _, _, (z - 1).toNat, rfl, F9, N9, by omega, z - 1, _, rfl, rfl, by omega, by omega, fun j h1 h2 => ?_, rfl, rfl, rfl, rfl⟩
          by_cases hj : j = z
          · rw [hj]; assumption
          · exact hno j (by omega) h2
        · have hs := op_read hx hg he hz1 hz3 hno (.inl (by assumption))
          with_unfolding_all refine item_op ttX (by assumption) hs.1 hg ?_
          intro tv
          w_strict (k_steps)
          rename Fr _ _ _ _ => F9
          rename News _ _ _ _ => N9
          exact ⟨_, _, _, _, cs.length, rfl, F9, N9, by rw [hn, List.length_append]; have h1 := List.all_eq_true.mp ops_len _ hg; simp at h1; omega, _, _, l', vs ++ [.int v _], _, dn ++ [v], ts, cs1 ++ g, cs, nx_push, hlt, ints_push hI, by rw [htoks, List.append_assoc]; rfl, hR', by rw [hx, List.append_assoc], op_at hs.2 hz3, by rw [List.length_append, List.length_append]; have h1 := List.all_eq_true.mp ops_len _ hg; simp at h1; simp; omega, rfl, rfl, rfl, rfl⟩
      · first | passes_own | with_unfolding_all passes_own
    · exact two_ways (b := figEmpty (Txt.item x k)) (by assumption) (by assumption)
    · obtain ⟨rfl, hc⟩ := rd_cases hx hk1 (by assumption) hRd
      rename Fr _ _ _ _ => F9
      rename News _ _ _ _ => N9
      rcases hc with ⟨cs, ts, rfl, rfl, hR', hb⟩ | ⟨d, cs, ts, rfl, rfl, hR', hb, hf, hv⟩ | ⟨g, v, cs, ts, hg, he, rfl, rfl, hR', hb, hf⟩
      · exact two_ways hb (by assumption)
      · exact ⟨_, _, _, _, cs.length, rfl, F9, N9, by rw [hn]; exact Nat.lt_succ_self _, _, _, l', vs ++ [.int (256 + Txt.find (Str.ofString "0123456789") (Txt.item x cs1.length)) _], _, dn ++ [256 + Txt.find (Str.ofString "0123456789") (Txt.item x cs1.length)], ts, cs1 ++ [48 + d], cs, nx_push, hlt, ints_push hI, by rw [htoks, List.append_assoc, hv]; rfl, hR', by rw [hx, List.append_assoc]; rfl, .inl (by rw [List.length_append]; rfl), by rw [List.length_append, List.length_append]; exact Nat.add_le_add_right hdn 1, rfl, rfl, rfl, rfl⟩
      · exact two_ways hf (by assumption)
    · have hr := rd_end hx hk1 (by assumption) hRd
      subst hr
      rw [List.append_nil] at htoks
      subst htoks
      exact hret _ [(l', listOf vs.toArray n1)] _ _ (by assumption) (by assumption) (fun q hq p hp => by rw [List.mem_singleton.mp hp]; exact hlt q hq) ⟨l', vs, n1, rfl, rfl, hI⟩
  · first | passes_own | with_unfolding_all passes_own
end
end Mine
/-! Figs -/
namespace Mine
def figL (n : Nat) : List Int := if n < 10 then [256 + (n : Int)] else figL (n / 10) ++ [256 + ((n % 10 : Nat) : Int)]
termination_by n
decreasing_by omega
def figPre (n : Nat) : List Int := if n < 10 then [] else figL (n / 10)
theorem figL_pre (n : Nat) : figL n = figPre n ++ [256 + ((n % 10 : Nat) : Int)] := by
  unfold figPre
  rw [figL]
  split
  · rename_i h; rw [Nat.mod_eq_of_lt h]; rfl
  · rfl
theorem fdiv10 (q : Nat) : (q : Int).fdiv 10 = ((q / 10 : Nat) : Int) := by rw [Int.fdiv_eq_ediv_of_nonneg _ (by decide)]; omega
theorem fmod10 (q : Nat) : (q : Int).fmod 10 = ((q % 10 : Nat) : Int) := by rw [Int.fmod_eq_emod_of_nonneg _ (by decide)]; omega
theorem lt_of_allLt {d : Nat} : ∀ {l : List (Addr × Obj)}, AllLt d l → ∀ p ∈ l, p.1 < d
  | [], _, _, h => nomatch h
  | q :: r, h, p, hp => by
    rcases List.mem_cons.mp hp with rfl | hp
    · exact h.1
    · exact lt_of_allLt h.2 p hp
theorem news_head {h₀ h : Heap} {L : Addr} {p : Addr × Obj} {mid news : List (Addr × Obj)} (N : News h₀ L h (p :: (mid ++ news))) : News h₀ L h (p :: news) := fun q hq => N q (by
  rcases List.mem_cons.mp hq with rfl | hq
  · exact .head _
  · exact .tail _ (List.mem_append_right _ hq))
section
def FgJ (n0 : Nat) (news : List (Addr × Obj)) (n : Nat) (m : Str → Option Value) (nx : List (Addr × Obj)) : Prop :=
  ∃ (q : Nat) (k : Int) (t1 : Tok) (l' : Addr) (vs : List Value) (n1 : Nat) (ns : List Int), nx = (l', listOf vs.toArray n1) :: news ∧ (∀ p ∈ news, p.1 < l') ∧ IntsAre vs ns ∧ figL n0 = figPre q ++ ns ∧ q ≤ n0 ∧ ns.length + q ≤ n0 + 1 ∧ n = q ∧ k = q ∧
    m (Str.ofString "number") = some (.int k t1) ∧ m (Str.ofString "told") = some (.ref l')
theorem fr2 {h₀ h : Heap} {L : Addr} {m : Str → Option Value} {a b : Str} {va vb : Value} (F : Fr h₀ L h m) (ha : m a = some va) (hb : m b = some vb) :
    Fr h₀ L h (fun y => if y = a then some va else if y = b then some vb else m y) := by
  have e : (fun y => if y = a then some va else if y = b then some vb else m y) = m := by
    funext y
    by_cases h1 : y = a
    · simp [h1, ha]
    · by_cases h2 : y = b
      · subst h2; simp [h1, hb]
      · simp [h1, h2]
  rw [e]; exact F
theorem figures_con {w : World} {mean : ExcName → Option Value} {mg mb : Str → Option Value} {news : List (Addr × Obj)} {k : Int} {n0 : Nat} {t : Tok}
  (hk0 : k = n0) (hn0 : n0 ≤ 100000) :
  Con w mean mg mb 64 1 8 news [.int k t] (fun tl r => ∃ (l' : Addr) (ws' : List Value) (n' : Nat), tl = [(l', listOf ws'.toArray n')] ∧ r = .ref l' ∧ IntsAre ws' (figL n0)) := by
  unfold Con
  w_on
  k_with_none
  k_fill
  intro dp un gd cn cs a ccd cl outer A₀ base h₀ L m s Q E B F X N T hk hd hu hret
  k_with "exec While Compare cons nil" => (refine Stop.mk' ?_)
  w_strict (
   refine wpAny_call ?_
   k_dflt ktr_enter
   k_steps
   all_goals (refine Stop.mk ?_))
  rename Fr _ _ _ _ => F1
  rename News _ _ _ _ => N1
  refine While_inv2 (FgJ n0 news) F1 N1 ⟨n0, k, t, _, [_], _, [256 + ((n0 % 10 : Nat) : Int)], rfl, by assumption, ?_, figL_pre n0, Nat.le_refl _, by simp; omega, rfl, hk0, rfl, rfl⟩ ?_ ?_
  · subst hk0
    rw [show ((n0 % 10 : Nat) : Int) = (n0 : Int).fmod 10 from (fmod10 n0).symm]
    exact .cons _ _ .nil
  · clear F1 N1
    rintro n m₁ nx h₁ tk₁ F₁ N₁ ⟨q, k2, t1, l', vs, n1, ns, rfl, hlt, hI, hfg, hq, hns, hn, rfl, e1, e2⟩
    have F2 := fr2 F₁ e1 e2
    clear F₁
    w_strict (k_steps)
    · rename Fr _ _ _ _ => F9
      rename News _ _ _ _ => N9
      rename IntsAre _ _ => hI9
      rename (_ < _ ∧ _ < _ ∧ AllLt _ _) => l9
      have hq9 : 9 < q := by have : 9 < (q : Int) := by assumption
                             omega
      refine ⟨_, _, _, _, q / 10, rfl, F9, news_head (mid := [_, _]) N9, by omega, q / 10, _, _, _, _, _, _, rfl, lt_of_allLt l9.2.2, hI9, ?_, by omega, ?_, rfl, fdiv10 q, rfl, rfl⟩
      · rw [hfg, fdiv10, fmod10]
        unfold figPre
        rw [if_neg (by omega : ¬ q < 10), figL_pre (q / 10)]
        simp [figPre]
      · simp; omega
    · have : figPre q = [] := by
        have h9 : ¬ 9 < (q : Int) := by assumption
        unfold figPre
        rw [if_pos (by omega)]
      rw [this, List.nil_append] at hfg
      rw [hfg] at hret
      exact hret _ [(l', listOf vs.toArray n1)] _ _ (by assumption) (by assumption) (fun q hq p hp => by rw [List.mem_singleton.mp hp]; exact hlt q hq) ⟨l', vs, n1, rfl, rfl, hI⟩
  · first | passes_own | with_unfolding_all passes_own
end
end Mine
/-! Iter -/
namespace Mine
section
variable {prog : Program} {w : World} {A : Around} {E : Value → Shared → Prop} {s : Shared} {env : Env} {h₀ : Heap} {x : Str} {body : List Stmt} {Q : Flow → Shared → Prop}
theorem For_free {px pos : Pos} {iter : Expr} {m : Str → Option Value} (_ : Fr h₀ env.locals s.heap m) (hx : env.kindOf x = some .local)
    (hp : (env.scope.kind == .class || (env.scope.kind == .module && env.locals != env.globals)) = false)
    (h : wpAny (model prog w) A (eval iter env) (fun xv s₁ => wpAny (model prog w) A (pyIter xv) (fun it s₂ => LoopAtV prog w A h₀ env x body Q E it s₂) E s₁) E s)
    (hs : ∀ x, foldedSetIterable iter env x = pure x) (hE : PassesOwn (model prog w) A env E) :
    wpAny (model prog w) A (exec (.For (.Name x px) iter body [] pos) env) Q E s := For_invV h₀ hx hp h hs hE
def FreeEnd (h₀ : Heap) (L : Addr) (J : (Str → Option Value) → List (Addr × Obj) → Prop) (own news : List (Addr × Obj)) (s₁ s₂ : Shared) : Prop :=
  ∃ h' tk m' pre', s₂ = { s₁ with heap := h', toks := tk } ∧ Fr h₀ L h' m' ∧ News h₀ L h' (pre' ++ (own ++ news)) ∧ (∀ q ∈ own, ∀ p ∈ pre', q.1 < p.1) ∧ J m' pre'
def FreePost (h₀ : Heap) (L : Addr) (J : (Str → Option Value) → List (Addr × Obj) → Prop) (own news : List (Addr × Obj)) (s₁ : Shared) (Q : Flow → Shared → Prop) (f : Flow) (s₂ : Shared) : Prop :=
  match f with
  | .ret v => Q (.ret v) s₂
  | .brk => Q .next s₂
  | _ => FreeEnd h₀ L J own news s₁ s₂
theorem iter_free {l : Addr} {vs : List Value} {ns : List Int} {nn : Nat} {m₀ : Str → Option Value} {pre₀ news : List (Addr × Obj)} (J : Nat → (Str → Option Value) → List (Addr × Obj) → Prop)
    (hh : A.handled = none) (hl : (l, listOf vs.toArray nn) ∈ news) (hi : IntsAre vs ns) (F : Fr h₀ env.locals s.heap m₀) (N : News h₀ env.locals s.heap (pre₀ ++ news)) (hj : J 0 m₀ pre₀)
    (turn : ∀ i n t m₁ pre h tk own, ns[i]? = some n → J i m₁ pre → Fr h₀ env.locals h (fun y => if y = x then some (.int n t) else m₁ y) → News h₀ env.locals h (pre ++ (own ++ news)) →
      wpAny (model prog w) A (execs body env) (FreePost h₀ env.locals (J (i + 1)) own news { s with heap := h, toks := tk } Q) E { s with heap := h, toks := tk })
    (done : ∀ m₁ pre h tk, J ns.length m₁ pre → Fr h₀ env.locals h m₁ → News h₀ env.locals h (pre ++ news) → Q .next { s with heap := h, toks := tk }) :
    wpAny (model prog w) A (pyIter (.ref l)) (fun it s₂ => LoopAtV prog w A h₀ env x body Q E it s₂) E s := by
  have hl0 : (l, listOf vs.toArray nn) ∈ pre₀ ++ news := List.mem_append_right _ hl
  have hol : s.heap.get? l = some (listOf vs.toArray nn) := (N _ hl0).1
  have hls : s.heap.IsList l vs.toArray := ⟨_, hol, rfl, nn, rfl⟩
  have hne : l ≠ s.heap.objs.size := Nat.ne_of_lt (Heap.lt_size hol)
  refine wpAny_pyIter_list hls ?_
  have W := Walks.list (prog := prog) (w := w) hh s.heap.objs.size l hne vs.toArray
  have hlen : vs.toArray.size = ns.length := by simp [hi.length]
  rw [hlen] at W
  refine ⟨_, _, _, ns.length, _, _, m₀, pre₀ ++ news, (fun i m nx => ∃ pre, nx = pre ++ news ∧ J i m pre), rfl, W, ?_, ?_, ?_, ⟨⟨_, Heap.get?_push_size _ rfl, rfl, rfl⟩, hls.at fun o e => Heap.get?_push_of_some _ e⟩, F.push _, (fun p hp => ⟨Heap.get?_push_of_some _ (N p hp).1, (N p hp).2⟩), ⟨pre₀, rfl, hj⟩, ?_, ?_⟩
  · intro hm
    rcases List.mem_cons.mp hm with e | hm
    · exact absurd F.ns.lt (e ▸ Nat.lt_irrefl _)
    · exact (N _ hl0).2.1 ((List.mem_singleton.mp hm).symm)
  · intro b hb
    rw [List.mem_singleton.mp hb]
    exact next_is_new F
  · intro p hp hI
    exact absurd (Heap.lt_size (N p hp).1) ((List.mem_singleton.mp hI) ▸ Nat.lt_irrefl _)
  · rintro i v m₁ news₁ s₁ own ⟨hh', tk', rfl⟩ hin hP ⟨pre, rfl, hJ⟩ hoff hown hget hfp hst F₁ N₁
    obtain ⟨⟨oI, hoI, _⟩, _⟩ := hst
    have hIm : (s.heap.objs.size, oI) ∈ own := hfp _ (.head _) (next_is_new F) _ hoI
    have hlt' : i < ns.length := hin
    obtain ⟨t, hx⟩ := hi.get i ns[i] (by simp [hlt'])
    have hv : v = .int ns[i] t := by
      have hP' : vs[i]? = some v := by simpa using hP
      rw [hx] at hP'; exact (Option.some.inj hP').symm
    subst hv
    have N₂ : News h₀ env.locals hh' (pre ++ (own ++ news)) := fun p hp => N₁ p (by
      simp only [List.mem_append] at hp ⊢
      rcases hp with h | h | h
      · exact .inr (.inl h)
      · exact .inl h
      · exact .inr (.inr h))
    refine wpAny_mono (turn i ns[i] t m₁ pre hh' tk' own (by simp [hlt']) hJ F₁ N₂) (fun f s₂ p => ?_) fun _ _ e => e
    have fin : FreeEnd h₀ env.locals (J (i + 1)) own news { s with heap := hh', toks := tk' } s₂ →
        LoopStepU h₀ env.locals [s.heap.objs.size] own (fun m nx => ∃ pre, nx = pre ++ news ∧ J (i + 1) m pre) { s with heap := hh', toks := tk' } .next s₂ := by
      rintro ⟨h', tk, m', pre', e, F', N', hlt, hm⟩
      refine ⟨rfl, h', tk, m', pre' ++ news, e, F', fun p hp => N' p ?_, fun p hp hI => ?_, pre', rfl, hm⟩
      · simp only [List.mem_append] at hp ⊢
        rcases hp with h | h | h
        · exact .inr (.inl h)
        · exact .inl h
        · exact .inr (.inr h)
      · have hI' : p.1 = s.heap.objs.size := List.mem_singleton.mp hI
        rcases List.mem_append.mp hp with h | h
        · have := hlt _ hIm p h
          rw [hI'] at this
          exact absurd this (Nat.lt_irrefl _)
        · exact absurd (Heap.lt_size (N p (List.mem_append_right _ h)).1) (by rw [hI']; exact Nat.lt_irrefl _)
    cases f with
    | ret v => exact .ret p
    | brk => exact .brk p
    | next => exact .next (fin p)
    | cont => exact .cont (fin p)
  · rintro h' tk m' news' F' N' _ ⟨pre, rfl, hJ⟩
    exact done m' pre h' tk hJ F' N'
end
end Mine
/-! Parted -/
namespace Mine
def parts (ns : List Int) : List Int := ns.flatMap fun n => [0, n]
def parted (ns : List Int) : List Int := (parts ns).drop 1
section
theorem fr1 {h₀ h : Heap} {L : Addr} {m : Str → Option Value} {a x : Str} {va v : Value} (F : Fr h₀ L h (fun y => if y = x then some v else m y)) (ha : m a = some va) :
    Fr h₀ L h (fun y => if y = x then some v else if y = a then some va else m y) := by
  have e : (fun y => if y = x then some v else if y = a then some va else m y) = (fun y => if y = x then some v else m y) := by
    funext y
    by_cases h1 : y = x
    · simp [h1]
    · by_cases h2 : y = a
      · subst h2; simp [h1, ha]
      · simp [h1, h2]
  rw [e]; exact F
theorem fr0 {h₀ h : Heap} {L : Addr} {m : Str → Option Value} {a : Str} {va : Value} (F : Fr h₀ L h m) (ha : m a = some va) :
    Fr h₀ L h (fun y => if y = a then some va else m y) := by
  have e : (fun y => if y = a then some va else m y) = m := by
    funext y
    by_cases h2 : y = a
    · subst h2; simp [ha]
    · simp [h2]
  rw [e]; exact F
theorem parts_len (ns : List Int) : (parts ns).length = 2 * ns.length := by
  unfold parts
  induction ns with
  | nil => rfl
  | cons n r ih => rw [List.flatMap_cons, List.length_append, ih]; simp; omega
theorem parts_push {ns : List Int} {i : Nat} {n : Int} (h : ns[i]? = some n) : parts (ns.take (i + 1)) = parts (ns.take i) ++ [0, n] := by
  unfold parts
  rw [List.take_add_one, h]
  simp
def PtJ (ns : List Int) (i : Nat) (m : Str → Option Value) (pre : List (Addr × Obj)) : Prop :=
  ∃ (l' : Addr) (ws : List Value) (n1 : Nat), pre = [(l', listOf ws.toArray n1)] ∧ IntsAre ws (parts (ns.take i)) ∧ m (Str.ofString "parted") = some (.ref l')
local macro_rules | `(tactic| walk_at "exec For Name Name cons nil") => `(tactic| (refine Stop.mk' ?_))
theorem parted_con {w : World} {mean : ExcName → Option Value} {mg mb : Str → Option Value} {news : List (Addr × Obj)} {l : Addr} {vs : List Value} {ns : List Int} {nn : Nat}
  (hl : (l, listOf vs.toArray nn) ∈ news) (hI : IntsAre vs ns) (hlen : ns.length ≤ 100) :
  Con w mean mg mb 50 1 8 news [.ref l] (fun tl r => ∃ (l' : Addr) (ws' : List Value) (n' : Nat), tl = [(l', listOf ws'.toArray n')] ∧ r = .ref l' ∧ IntsAre ws' (parted ns)) := by
  unfold Con
  w_on
  k_with_none
  k_fill
  intro dp un gd cn cs a ccd cl outer A₀ base h₀ L m s Q E B F X N T hk hd hu hret
  k_with "pyIter ref" => (refine Stop.mk' ?_)
  w_strict (
   refine wpAny_call ?_
   k_dflt ktr_enter
   k_steps
   all_goals (refine Stop.mk ?_))
  rename Fr _ _ _ _ => F1
  rename News _ _ _ _ => N1
  refine For_free F1 ?hx ?hp ?_ ?hs ?hE
  case hx => rfl
  case hp => rfl
  case hs => intro _; rfl
  case hE => first | passes_own | with_unfolding_all passes_own
  · w_strict (k_steps; all_goals (refine Stop.mk ?_))
    refine iter_free (pre₀ := [_]) (PtJ ns) rfl hl hI F1 N1 ⟨_, [], _, rfl, .nil, rfl⟩ ?_ ?_
    · clear F1 N1
      rintro i n t1 m₁ pre h tk own hn ⟨l', ws, n1, rfl, hI1, e1⟩ F₁ N₁
      have F2 := fr1 F₁ e1
      have hL9 : (parts (ns.take i)).length ≤ 200 := by rw [parts_len, List.length_take]; omega
      clear F₁
      w_strict (k_steps)
      · rename Fr _ _ _ _ => F9
        rename News _ _ _ _ => N9
        rename IntsAre _ _ => hI9
        rename (_ < _ ∧ AllLt _ _) => l9
        refine ⟨_, _, _, [_], rfl, F9, news_head (mid := [_, _]) N9, fun q hq p hp => ?_, _, _, _, rfl, ?_, rfl⟩
        · rw [List.mem_singleton.mp hp]
          exact lt_of_allLt l9.2 q (List.mem_append_right _ (List.mem_append_left _ hq))
        · rw [parts_push hn]; exact hI9
    · clear F1 N1
      rintro m₁ pre h tk ⟨l', ws, n1, rfl, hI1, e1⟩ F₁ N₁
      have F2 := fr0 F₁ e1
      rw [List.take_length] at hI1
      have hL9 : (parts ns).length ≤ 200 := by rw [parts_len]; omega
      clear F₁
      w_strict (k_steps)
      · rename News _ _ _ _ => N9
        rename Fr _ _ _ _ => F9
        rename IntsAre _ _ => hI9
        rename (∀ p : Addr × Obj, p ∈ [(l', listOf ws.toArray n1)] ++ news → p.1 < _) => l9
        exact hret _ [_] _ _ F9 (news_head (mid := [_]) N9) (fun q hq p hp => by rw [List.mem_singleton.mp hp]; exact l9 q (List.mem_append_right _ hq)) ⟨_, _, _, rfl, rfl, hI9⟩
end
end Mine
/-! Spell -/
namespace Mine
section
def spell1 (k : Int) : Str := if k = 0 then Str.ofString " " else ⟨(sgs.getD (k - 7).toNat []).toArray⟩
theorem split_tab : Txt.split (Str.ofString "( ) [ ] : , ; + - * / | & < > = . % { } == != <= >= ~ ^ << >> ** += -= *= /= %= &= |= ^= <<= >>= **= // //= " ++ Str.ofString "@ @= -> ... := !") (Str.ofString " ") = sgs.map fun g => (⟨g.toArray⟩ : Str) := by decide +kernel
theorem sgs_len : sgs.length = 48 := by decide +kernel
theorem sgs_get {k : Int} (h1 : 7 ≤ k) (h2 : k ≤ 54) : (sgs.map fun g => (⟨g.toArray⟩ : Str))[(k - 7).toNat]? = some ⟨(sgs.getD (k - 7).toNat []).toArray⟩ := by
  have hl : (k - 7).toNat < sgs.length := by rw [sgs_len]; omega
  rw [List.getElem?_map, List.getElem?_eq_getElem hl, List.getD_eq_getElem?_getD, List.getElem?_eq_getElem hl]
  rfl
section
variable {prog : Program} {w : World} {A : Around} {E : Value → Shared → Prop} {s : Shared} {h₀ : Heap} {L : Addr} {news : List (Addr × Obj)}
theorem item_news {value slice : PySem.Expr} {l : Addr} {its : Array Value} {n : Nat} {k : Int} {u : Tok} {v : Value} {Q : Value → Shared → Prop} (N : News h₀ L s.heap news) (hm : (l, listOf its n) ∈ news)
    (h0 : 0 ≤ k) (hhi : k < 2 ^ 63) (hx : its[k.toNat]? = some v) (h : Q v s)
    (hs : subscripted slice false (.ref l) (.int k u) = operate [.ref l, .int k u] (getItem (.ref l) (.int k u)) := by with_unfolding_all rfl) :
    wpAny (model prog w) A (subscriptTail value slice (.ref l) (.int k u)) Q E s :=
  have hl : s.heap.IsList l its := ⟨_, (N _ hm).1, rfl, n, rfl⟩
  tail_any hl.typeIs slot_list_getitem.lookup (wpAny_getItem_list hl h0 hhi hx h) hs
end
local macro_rules | `(tactic| walk_at "none of mine 1") => `(tactic| skip)
local macro_rules | `(tactic| walk_at "none of mine 2") => `(tactic| skip)
local macro_rules | `(tactic| walk_at "storeName") => `(tactic| (k_here; k_dflt (refine' storeX_C ?F ?N ?c ?U ?d ?_ ?a ?b; (case a => rfl); (case b => rfl); (case F => k_asm); (case N => k_asm); (case c => rfl); (case U => first | exact UpdF.head (by assumption) | exact UpdF.tail (by k_ne) (UpdF.head (by assumption)) | exact UpdF.tail (by k_ne) (UpdF.tail (by k_ne) (UpdF.head (by assumption)))); (case d => k_asm); k_whole; intro h' o' F' N' d'; (try dsimp only at N'); (try k_sweep))))
def spelled (ns : List Int) : Str := Txt.join (Str.ofString "") (ns.map spell1)
theorem spell1_len (k : Int) : (spell1 k).length ≤ 3 := by
  unfold spell1
  split
  · decide
  · show (sgs.getD (k - 7).toNat []).toArray.size ≤ 3
    rw [List.size_toArray, List.getD_eq_getElem?_getD]
    have hall : (sgs.all fun g => decide (g.length ≤ 3)) = true := by decide +kernel
    cases h : sgs[(k - 7).toNat]? with
    | none => simp
    | some g => simpa using List.all_eq_true.mp hall g (List.mem_of_getElem? h)
theorem spell_sum (ns : List Int) : ((ns.map spell1).map (·.length)).sum ≤ 3 * ns.length := by
  induction ns with
  | nil => simp
  | cons n r ih =>
    have := spell1_len n
    simp only [List.map_cons, List.sum_cons, List.length_cons]
    omega
theorem spelled_con {w : World} {mean : ExcName → Option Value} {mg mb : Str → Option Value} {news : List (Addr × Obj)} {l : Addr} {vs : List Value} {ns : List Int} {nn : Nat}
  (hl : (l, listOf vs.toArray nn) ∈ news) (hI : IntsAre vs ns) (hns : ∀ n ∈ ns, n = 0 ∨ (7 ≤ n ∧ n ≤ 54)) (hlen : ns.length ≤ 100) :
  Con w mean mg mb 43 2 16 news [.ref l] (fun tl r => tl = [] ∧ ∃ t : Tok, r = .str (spelled ns) t) := by
  unfold Con
  w_on
  k_with_none
  k_fill
  intro dp un gd cn cs a ccd cl outer A₀ base h₀ L m s Q E B F X N T hk hd hu hret
  w_strict (
   refine wpAny_call ?_
   k_dflt (refine' code_defC ?k1 ?k2 ?k3 ?k4 ?k5 ?kA ?kF ?kK ?k6 ?k7 ?k8 ?k9 ?kB ?kD ?_ ?c2 ?c3 ?c4; (case kA => exact rfl); (case kF => exact rfl); (case kK => assumption); (case k1 => k_asm); (case k2 => k_asm); (case k3 => k_asm); (case k4 => k_asm); (case k5 => k_asm); (case k6 => k_is); (case k7 => k_is); (case k8 => ktr_room); (case k9 => exact BindsTo.of_eq rfl); (case kB => exact rfl); (case kD => decide +kernel); (case c2 => exact rfl); (case c3 => exact rfl); (case c4 => exact rfl); k_whole; intro g' L' h' tk' cells' FG' F' N' Y' B' X' T' l1; (try k_lt l1); k_cells Y'; (try simp only [List.cons_append, List.nil_append] at N'); (try dsimp only); (try k_lift B'); (try k_fold))
   have hC : ∀ p ∈ news, p.1 ≠ L' + 1 := fun p hp => Nat.ne_of_lt (Nat.lt_succ_of_lt (l1 p hp))
   k_steps)
  rename Fr _ _ _ _ => F1
  rename News _ _ _ _ => N1
  refine LCg.CompSrc.ledger (its := vs.toArray) (k := nn) ?hh F1 N1 (.tail _ (.tail _ hl)) ?hsz (fun g9 => kct_list spell1 hI ?turn ?fin)
  case hh => rfl
  case hsz => rw [List.size_toArray, hI.length, sizeLine_eq]; omega
  case turn =>
    intro k t1 I oI C oC D m₂ ys h9 tk9 E9 hk9 hC9 hx9 F9 N9 off9 ne9 mk9
    have hk7 := hns k hk9
    w_strict (k_steps)
    · rename (k = 0) => hk0
      exact ⟨_, _, _, rfl, F9, N9, off9, .inr ⟨_, .tail _ (.tail _ hl), rfl, _, rfl⟩, rfl, _, by rw [hk0]; rfl⟩
    · rename (¬ k = 0) => hk0
      rename (_ = Txt.split _ _) => he9
      rename StrsAre _ _ => hS9
      rw [he9, split_tab] at hS9
      have hk8 : 7 ≤ k ∧ k ≤ 54 := hk7.resolve_left hk0
      obtain ⟨t9, ht9⟩ := hS9.get (k - 7).toNat _ (sgs_get hk8.1 hk8.2)
      with_unfolding_all refine item_news N9 (.tail _ (.tail _ (.tail _ (.head _)))) (by omega) (by omega) (by rw [List.getElem?_toArray]; exact ht9) ?_
      w_strict (k_steps)
      exact ⟨_, _, _, rfl, F9, N9, off9, .inr ⟨_, .tail _ (.tail _ hl), rfl, _, rfl⟩, rfl, _, by rw [spell1, if_neg hk0]⟩
  case fin =>
    intro ys9 hC9 hn9
    w_strict (k_steps)
    rename News _ _ _ _ => N9
    have hS9 : StrsAre ys9 (ns.map spell1) := StrsAre.ofCarried (by rw [List.map_map]; exact hC9)
    with_unfolding_all refine join_listC (items := ys9.toArray) ⟨_, (N9 _ (.head _)).1, rfl, _, rfl⟩ (by rw [List.toList_toArray]; exact hS9) (by decide) ?_ ?_
    · have := spell_sum ns
      rw [List.length_map]
      omega
    · intro t9 k9
      w_strict (k_steps)
      rename News _ _ _ _ => N8
      rename Fr _ _ _ _ => F8
      exact hret _ [] _ _ F8 (fun p hp => N8 p (.tail _ (.tail _ (.tail _ hp)))) (fun _ _ _ h => nomatch h) ⟨rfl, _, rfl⟩
end
end Mine
/-! TupTo -/
namespace Mine
section
variable {prog : Program} {w : World} {A : Around} {E : Value → Shared → Prop} {s : Shared}
theorem adjust_to (b n : Nat) (hb : b ≤ n) : Builtin.Slice.sliceAdjust none (some (b : Int)) 1 (n : Int) = (0, (b : Int)) := by
  unfold Builtin.Slice.sliceAdjust
  have h1 : ¬ ((1 : Int) < 0) := by omega
  have h2 : ¬ ((b : Int) < 0) := by omega
  simp only [h1, h2, if_false]
  congr 1
  omega
theorem places_to (b : Nat) : Builtin.Slice.slicePlaces 0 (b : Int) 1 = b := by
  unfold Builtin.Slice.slicePlaces
  have h1 : (1 : Int) > 0 := by omega
  simp only [h1, if_true, Int.ediv_one]
  split <;> omega
theorem sliceApplied_to {sl : Addr} {b n : Nat} {u : Tok} {Q : Int × Int × Nat → Shared → Prop} (hs : s.heap.IsSliceOf sl .none (.int b u) .none) (hb : b ≤ n) (h : Q (0, 1, b) s) :
    wpAny (model prog w) A (Builtin.Slice.sliceApplied (.ref sl) (pure (n : Int))) Q E s := by
  obtain ⟨os, hos, _, hds⟩ := id hs
  unfold Builtin.Slice.sliceApplied Builtin.Slice.sliceFields
  refine wpAny_bind (wpAny_bind (wpAny_field hos hds (x := .none) rfl (wpAny_bind (wpAny_field hos hds (x := .int b u) rfl (wpAny_bind (wpAny_field hos hds (x := .none) rfl (wpAny_pure ?_)))))))
  refine wpAny_bind (slicePart_none ?_)
  show wpAny _ _ (if ((1 : Int) == 0) = true then _ else _) _ _ s
  rw [if_neg (by decide)]
  refine wpAny_bind (slicePart_none (wpAny_bind (slicePart_int (wpAny_bind (wpAny_pure ?_)))))
  show wpAny _ _ (match Builtin.Slice.sliceAdjust none (some (b : Int)) 1 (n : Int) with | (lo, hi) => pure (lo, (1 : Int), Builtin.Slice.slicePlaces lo hi 1)) _ _ s
  rw [adjust_to b n hb]
  show wpAny _ _ (pure ((0 : Int), (1 : Int), Builtin.Slice.slicePlaces 0 (b : Int) 1)) _ _ s
  rw [places_to b]
  exact wpAny_pure h
theorem pick_to (xs : Array Value) (b : Nat) : ((List.range b).filterMap fun (k : Nat) => xs[((0 : Int) + (k : Int) * 1).toNat]?).toArray = (xs.toList.take b).toArray := by
  have e : (fun (k : Nat) => xs[((0 : Int) + (k : Int) * 1).toNat]?) = fun k => xs[0 + k]? := by
    funext k
    have : ((0 : Int) + (k : Int) * 1).toNat = 0 + k := by omega
    rw [this]
  rw [e]
  have := pick_run xs 0 b
  rw [List.filterMap_map] at this
  have e2 : ((fun x => xs[x]?) ∘ fun x => 0 + x) = fun k => xs[0 + k]? := rfl
  rw [e2] at this
  rw [this, List.drop_zero]
theorem getItem_tuple_to {t sl : Addr} {items : Array Value} {b : Nat} {u : Tok} {Q : Value → Shared → Prop} (ht : IsTup s.heap t items) (hs : s.heap.IsSliceOf sl .none (.int b u) .none) (hb : b < items.size)
    (h : Q (.ref s.heap.objs.size) { s with heap := s.heap.push { cls := .type "tuple", data := .seq (items.toList.take b).toArray } })
    (hsz : items.size ≤ sizeLine) : wpAny (model prog w) A (getItem (.ref t) (.ref sl)) Q E s := by
  have htake : sizeOk (.seq (items.toList.take b).toArray) := by
    show (items.toList.take b).toArray.size ≤ sizeLine
    rw [List.size_toArray, List.length_take, Array.length_toList]
    omega
  obtain ⟨os, hos, hcs, hds⟩ := id hs
  have hTs : s.TypeIs (.ref sl) "slice" := ⟨os, hos, hcs⟩
  unfold getItem
  try with_reducible refine wpAny_holding ?_
  first | refine wpAny_bind (wpAny_pure ?_) | skip
  refine wpAny_bind (wpAny_sequenceKey ht.typeIs (by decide) ?_)
  refine wpAny_bind (wpAny_callSpecial?_slot (name := Str.ofString "__getitem__") ht.typeIs slot_tuple_getitem
    (wpAny_call_entry slot_tuple_getitem ht.typeIs entry_tuple_getitem ?_ (args_tuple_getitem _ _)))
  show wpAny _ _ (Builtin.Tuple.tupleItemsOf (.ref t) >>= _) _ _ s
  refine wpAny_bind (tupleItemsOf_ ht ?_)
  refine wpAny_bind (wpAny_typeOf hTs ?_)
  rw [if_pos (by decide)]
  refine wpAny_bind (sliceApplied_to hs (Nat.le_of_lt hb) ?_)
  have hno : ¬ (((0 : Int) == 0 && (1 : Int) == 1 && b == items.size) = true) := by
    have : (b == items.size) = false := by rw [beq_eq_false_iff_ne]; omega
    rw [this]; simp
  show wpAny _ _ (if ((0 : Int) == 0 && (1 : Int) == 1 && b == items.size) = true then _ else _) _ _ s
  rw [if_neg hno, pick_to items b]
  first
    | exact wpAny_bind (m := Builtin.Tuple.tupleExact _) (wpAny_newObj_type (wpAny_pure ⟨_, rfl, wpAny_pure h⟩) htake)
    | exact wpAny_bind (m := Builtin.Tuple.tupleExact _) (wpAny_newObj_type (wpAny_bind (wpAny_pure (wpAny_pure ⟨_, rfl, wpAny_pure h⟩))) htake)
    | exact wpAny_bind (wpAny_bind (m := Builtin.Tuple.tupleExact _) (wpAny_newObj_type (wpAny_pure (wpAny_pure ⟨_, rfl, wpAny_pure h⟩)) htake))
    | exact wpAny_bind (wpAny_bind (m := Builtin.Tuple.tupleExact _) (wpAny_newObj_type (wpAny_pure ⟨_, rfl, wpAny_pure h⟩) htake))
end
section
variable {prog : Program} {w : World} {A : Around} {E : Value → Shared → Prop} {s : Shared} {h₀ : Heap} {L : Addr} {m : Str → Option Value} {news : List (Addr × Obj)}
theorem slice_tuple_to {value slice : Expr} {t : Addr} {items : Array Value} {b : Nat} {u : Tok} {Q : Value → Shared → Prop}
    (F : Fr h₀ L s.heap m) (N : News h₀ L s.heap news) (ht : IsTup s.heap t items) (hb : b < items.size) (hsz : items.size ≤ sizeLine)
    (h : ∀ D h', Fr h₀ L h' m → News h₀ L h' ((D, { cls := .type "tuple", data := .seq (items.toList.take b).toArray }) :: news) → (∀ p ∈ news, p.1 < D) → Q (.ref D) { s with heap := h' })
    (hs : subscripted slice false (.ref t) (.ref s.heap.objs.size) = operate [.ref s.heap.objs.size, .ref t] (getItem (.ref t) (.ref s.heap.objs.size)) := by with_unfolding_all rfl)
    (hg : ∀ r, letTemporaryGo value (.ref t) r = pure () := by intro _; with_unfolding_all rfl) :
    wpAny (model prog w) A (subscriptTail value slice (.ref t) (.ref s.heap.objs.size)) Q E { s with heap := s.heap.push { cls := .type "slice", data := .fields #[.none, .int b u, .none] } } := by
  have ht' : IsTup (s.heap.push { cls := .type "slice", data := .fields #[.none, .int b u, .none] }) t items := ht.keeps fun _ _ e => Heap.get?_push_of_some _ e
  refine subscriptTail_ops (s := { s with heap := s.heap.push { cls := .type "slice", data := .fields #[.none, .int b u, .none] } }) ht'.typeIs slot_tuple_getitem.lookup
    (getItem_tuple_to ht' (Heap.IsSliceOf.new ..) hb ?_ hsz) hs hg
  have N1 := News.push (F.push { cls := .type "slice", data := .fields #[.none, .int b u, .none] }) (N.grown fun _ _ e => Heap.get?_push_of_some _ e) { cls := .type "tuple", data := .seq (items.toList.take b).toArray }
  refine h _ _ ((F.push _).push _) N1 fun p hp => ?_
  rw [Heap.size_push]
  exact Nat.lt_succ_of_lt (Heap.lt_size (N p hp).1)
theorem slice_tup_news {value slice : Expr} {t : Addr} {l : List Value} {nn b : Nat} {u : Tok} {Q : Value → Shared → Prop}
    (F : Fr h₀ L s.heap m) (N : News h₀ L s.heap news) (hm : (t, ({ cls := .type "tuple", data := .seq l.toArray nn } : Obj)) ∈ news) (hb : b < l.length) (hsz : l.length ≤ sizeLine)
    (h : ∀ D h', Fr h₀ L h' m → News h₀ L h' ((D, { cls := .type "tuple", data := .seq (l.take b).toArray }) :: news) → (∀ p ∈ news, p.1 < D) → Q (.ref D) { s with heap := h' })
    (hs : subscripted slice false (.ref t) (.ref s.heap.objs.size) = operate [.ref s.heap.objs.size, .ref t] (getItem (.ref t) (.ref s.heap.objs.size)) := by with_unfolding_all rfl)
    (hg : ∀ r, letTemporaryGo value (.ref t) r = pure () := by intro _; with_unfolding_all rfl) :
    wpAny (model prog w) A (subscriptTail value slice (.ref t) (.ref s.heap.objs.size)) Q E { s with heap := s.heap.push { cls := .type "slice", data := .fields #[.none, .int b u, .none] } } :=
  slice_tuple_to F N (items := l.toArray) ⟨_, (N _ hm).1, rfl, _, rfl⟩ (by simpa using hb) (by simpa using hsz) (by simpa using h) hs hg
end
end Mine
/-! Fmt -/
namespace Mine
section
open Builtin Builtin.Str
def lineText (n : Int) : Str := if n < 0 then ⟨(45 :: (Str.ofString (toString ((n.natAbs : Nat) : Int))).cps.toList).toArray⟩ else Str.ofString (toString n)
theorem neg_text (c : Percent) (h1 : c.alt = false) (h2 : c.type = 100 ∨ c.type = 105 ∨ c.type = 117) (h3 : c.prec = none) {n : Int} (hn : n < 0) (d : List Nat) : percentInt c (decide (n < 0)) d = 45 :: d := by
  have hneg : decide (n < 0) = true := decide_eq_true hn
  unfold percentInt
  rcases h2 with h2 | h2 | h2 <;> simp [h1, h2, h3, hneg]
section
variable {M : Model} {A : Around} {E : Value → Shared → Prop} {s : Shared} {l : List Nat} {p : List Value} {r : List Nat}
  {f : Nat → List Value × Writer × List Nat → Sem (ForInStep (List Value × Writer × List Nat))} {Q : List Value × Writer × List Nat → Shared → Prop}
  {w : Writer} {T : PySem.Str} {N : Nat} {o : Option Value}
theorem after_neg {c : Percent} {n : Int} {d : List Nat} (g : KPc.Good w T N) (h1 : c.alt = false) (h2 : c.type = 100 ∨ c.type = 105 ∨ c.type = 117) (h3 : c.prec = none) (hn : n < 0) (hm : -(10 ^ 10) < n)
    (hd : d = (PySem.Str.ofString (toString ((n.natAbs : Nat) : Int))).cps.toList) (ho : o = none) (h : ∀ w', KPc.Good w' (T ++ lineText n) (N + 11) → wpAny M A (forIn l (p, w', r) f) Q E s) :
    wpAny M A (forIn l (p, w.add ⟨(percentInt c (decide (n < 0)) d).toArray⟩ o, r) f) Q E s := by
  rw [neg_text c h1 h2 h3 hn]
  have e : (⟨(45 :: d).toArray⟩ : PySem.Str) = lineText n := by
    unfold lineText
    rw [if_pos hn, hd]
  have hlen : (lineText n).length ≤ 11 := by
    rw [← e, hd]
    show (45 :: (PySem.Str.ofString (toString ((n.natAbs : Nat) : Int))).cps.toList).toArray.size ≤ 11
    have := toString_length_le (v := ((n.natAbs : Nat) : Int)) (k := 10) (by omega) (by decide) (by omega)
    rw [List.size_toArray, List.length_cons]
    have h9 : (PySem.Str.ofString (toString ((n.natAbs : Nat) : Int))).cps.toList.length = (PySem.Str.ofString (toString ((n.natAbs : Nat) : Int))).length := by simp [Str.length]
    omega
  rw [e]
  exact h _ (KPc.good_mono (KPc.good_add g (KPc.obj_none ho)) (Nat.add_le_add_left hlen _))
end
theorem fmt_pos {t t1 t2 t3 : Tok} {p n : Str} {line : Int} {b : Addr} (hp : p.length ≤ 300) (hn : n.length ≤ 300) (h1 : 0 ≤ line) (h2 : line ≤ 100000) :
    Meets («str.__mod__» ⟨[.str ⟨#[37, 115, 58, 37, 100, 40, 37, 115, 41]⟩ t, .ref b], []⟩)
      (fun _ R s => IsTup s.heap b #[.str p t1, .int line t2, .str n t3] ∧ ∀ t' k, R (.ok (.ret (.str (p ++ Str.ofString ":" ++ Str.ofString (toString line) ++ Str.ofString "(" ++ n ++ Str.ofString ")") t'))) { s with toks := k }) := by
  kpt_run
section
local macro_rules | `(tactic| kpt_piece) => `(tactic| (refine after_neg (by kpc_g) rfl (by kpc_kind) rfl (by kpt_fact) (by kpt_fact) rfl (by kpc_none) ?_; intro _ _))
theorem fmt_neg {t t1 t2 t3 : Tok} {p n : Str} {line : Int} {b : Addr} (hp : p.length ≤ 300) (hn : n.length ≤ 300) (h1 : line < 0) (h2 : -100000 ≤ line) :
    Meets («str.__mod__» ⟨[.str ⟨#[37, 115, 58, 37, 100, 40, 37, 115, 41]⟩ t, .ref b], []⟩)
      (fun _ R s => IsTup s.heap b #[.str p t1, .int line t2, .str n t3] ∧ ∀ t' k, R (.ok (.ret (.str (p ++ Str.ofString ":" ++ lineText line ++ Str.ofString "(" ++ n ++ Str.ofString ")") t'))) { s with toks := k }) := by
  kpt_run
end
theorem fmt_all {t t1 t2 t3 : Tok} {p n : Str} {line : Int} {b : Addr} (hp : p.length ≤ 300) (hn : n.length ≤ 300) (h1 : -100000 ≤ line) (h2 : line ≤ 100000) :
    Meets («str.__mod__» ⟨[.str ⟨#[37, 115, 58, 37, 100, 40, 37, 115, 41]⟩ t, .ref b], []⟩)
      (fun _ R s => IsTup s.heap b #[.str p t1, .int line t2, .str n t3] ∧ ∀ t' k, R (.ok (.ret (.str (p ++ Str.ofString ":" ++ lineText line ++ Str.ofString "(" ++ n ++ Str.ofString ")") t'))) { s with toks := k }) := by
  by_cases h : line < 0
  · exact fmt_neg hp hn h h1
  · have e : lineText line = Str.ofString (toString line) := by unfold lineText; rw [if_neg h]
    rw [e]
    exact fmt_pos hp hn (by omega) h2
theorem fmt_brace {t u : Tok} {y : Str} (hy : y.length ≤ 300) :
    Meets («str.__mod__» ⟨[.str ⟨#[123, 37, 115, 125]⟩ t, .str y u], []⟩)
      (fun _ R s => ∀ t' k, R (.ok (.ret (.str (Str.ofString "{" ++ y ++ Str.ofString "}") t'))) { s with toks := k }) := by
  kpc_run_s
end
end Mine
/-! StdS -/
namespace Mine
section
section
variable {prog : Program} {w : World} {A : Around} {E : Value → Shared → Prop} {s : Shared} {h₀ : Heap} {L : Addr} {news : List (Addr × Obj)}
theorem eq_tup2 {a b : Addr} {x y : Str} {i j : Int} {t1 t2 t3 t4 : Tok} {n1 n2 : Nat} {Q : Value → Shared → Prop} (N : News h₀ L s.heap news)
    (ha : (a, ({ cls := .type "tuple", data := .seq #[.str x t1, .int i t2] n1 } : Obj)) ∈ news) (hb : (b, ({ cls := .type "tuple", data := .seq #[.str y t3, .int j t4] n2 } : Obj)) ∈ news)
    (hx : PyData.strOk x = true) (hy : PyData.strOk y = true) (hu : A.units + 64 < cLine) (h : Q (.bool (x == y && i == j)) s) : wpAny (model prog w) A (compareOp .Eq (.ref a) (.ref b)) Q E s :=
  eq_dataH (da := .tuple [.str x, .int i]) (db := .tuple [.str y, .int j]) (reads_tuple_at (N _ ha).1 rfl rfl (ReadsAll.cons (Reads.str _ _) (ReadsAll.cons (Reads.int _ _) ReadsAll.nil)))
    (reads_tuple_at (N _ hb).1 rfl rfl (ReadsAll.cons (Reads.str _ _) (ReadsAll.cons (Reads.int _ _) ReadsAll.nil))) (by simp [SeqAt.shaped, PyData.canLay0, PyData.canLayAll0, PyData.depth, PyData.depthAll, hx]) (by simp [SeqAt.shaped, PyData.canLay0, PyData.canLayAll0, PyData.depth, PyData.depthAll, hy]) hu (by simpa [PyData.eqv, PyData.eqvAll] using h)
theorem item_tup_news {value slice : PySem.Expr} {l : Addr} {its : List Value} {n j : Nat} {k : Int} {u : Tok} {v : Value} {Q : Value → Shared → Prop} (N : News h₀ L s.heap news)
    (hm : (l, ({ cls := .type "tuple", data := .seq its.toArray n } : Obj)) ∈ news) (hlo : -(2 ^ 63) ≤ k) (hhi : k < 2 ^ 63) (hj : seqIndex? k its.length = some j) (hx : its[j]? = some v) (h : Q v s)
    (hs : subscripted slice false (.ref l) (.int k u) = operate [.ref l, .int k u] (getItem (.ref l) (.int k u)) := by with_unfolding_all rfl) (hg : ∀ r, letTemporaryGo value (.ref l) r = pure () := by intro _; with_unfolding_all rfl) :
    wpAny (model prog w) A (subscriptTail value slice (.ref l) (.int k u)) Q E s :=
  item_tupleL (l := its) ⟨_, (N _ hm).1, rfl, _, rfl⟩ hlo hhi hj hx h hs hg
end
local macro_rules | `(tactic| walk_at "subscriptTail Name Constant ref int") => `(tactic| (k_here; (with_unfolding_all refine' item_tup_news ?k1 ?k2 ?k3 ?k4 ?k5 ?k6 ?_ ?k7 ?k8; (case k1 => k_asm); (case k2 => first | assumption | exact List.Mem.tail _ (by assumption) | exact List.Mem.tail _ (List.Mem.tail _ (by assumption))); (case k3 => decide); (case k4 => decide); (case k5 => exact rfl); (case k6 => exact rfl); (case k7 => with_unfolding_all rfl); (case k8 => intro _; with_unfolding_all rfl))))
local macro_rules | `(tactic| walk_at "binaryOp Mod str ref") => `(tactic| (k_here; (with_unfolding_all refine' KPt.mod_tuple ?k1 ?k2 ?k3 (fmt_all ?k4 ?k5 ?k6 ?k7) ?_; (case k1 => k_asm); (case k2 => first | assumption | exact List.Mem.tail _ (by assumption) | exact List.Mem.tail _ (List.Mem.tail _ (by assumption))); (case k3 => decide +kernel); (case k4 => assumption); (case k5 => assumption); (case k6 => assumption); (case k7 => assumption)); intro t' k'))
local macro_rules | `(tactic| walk_at "compareOp Eq ref ref") => `(tactic| (k_here; (with_unfolding_all refine' eq_tup2 ?k1 ?k2 ?k3 ?k5 ?k6 ?k4 ?_; (case k1 => k_asm); (case k2 => exact List.Mem.tail _ (List.Mem.head _)); (case k3 => exact List.Mem.head _); (case k5 => assumption); (case k6 => decide +kernel); (case k4 => ktr_units))))
def stdText (p : Str) (line : Int) (n : Str) : Str :=
  if (p == Str.ofString "~" && line == 0) = true then (if (Txt.startswith n (Str.ofString "<") && Txt.endswith n (Str.ofString ">")) = true then Str.ofString "{" ++ Txt.slice n (some 1) (some (-1)) ++ Str.ofString "}" else n)
  else p ++ Str.ofString ":" ++ lineText line ++ Str.ofString "(" ++ n ++ Str.ofString ")"
local macro_rules | `(tactic| walk_at "subscriptTail Name Slice ref ref") => `(tactic| (k_here; (with_unfolding_all refine' slice_tup_news (b := 2) ?k1 ?k2 ?k3 ?k4 ?k5 ?_ ?k6 ?k7; (case k1 => k_asm); (case k2 => k_asm); (case k3 => assumption); (case k4 => exact Nat.le_refl 3); (case k5 => exact Nat.le_of_ble_eq_true rfl); (case k6 => with_unfolding_all rfl); (case k7 => intro _; with_unfolding_all rfl)); intro D' h' F' N' l1; (try k_lt l1)))
theorem std_con {w : World} {mean : ExcName → Option Value} {mg mb : Str → Option Value} {news : List (Addr × Obj)} {l : Addr} {p n : Str} {line : Int} {t1 t2 t3 : Tok} {nn : Nat}
  (hl : (l, ({ cls := .type "tuple", data := .seq [.str p t1, .int line t2, .str n t3].toArray nn } : Obj)) ∈ news) (hpo : PyData.strOk p = true) (hp : p.length ≤ 300) (hn : n.length ≤ 300) (h1 : -100000 ≤ line) (h2 : line ≤ 100000) :
  Con w mean mg mb 28 2 200 news [.ref l] (fun tl r => tl = [] ∧ ∃ t : Tok, r = .str (stdText p line n) t) := by
  unfold Con
  w_on
  k_with_none
  k_fill
  intro dp un gd cn cs a ccd cl outer A₀ base h₀ L m s Q E B F X N T hk hd hu hret
  w_strict (
   refine wpAny_call ?_
   k_dflt ktr_enter
   k_steps)
  all_goals (
    rename News _ _ _ _ => N8
    rename Fr _ _ _ _ => F8
    rename ((p == Str.ofString "~" && line == 0) = _) => hA
    refine hret _ [] _ _ F8 (fun q hq => N8 q (.tail _ (.tail _ hq))) (fun _ _ _ h => nomatch h) ⟨rfl, ?_⟩)
  · rename (Txt.startswith _ _ = _) => hS
    rename (Txt.endswith _ _ = _) => hE
    rw [stdText, if_pos hA, if_pos (by rw [hS, hE]; rfl)]; exact ⟨_, rfl⟩
  · rename (Txt.startswith _ _ = _) => hS
    rename (Txt.endswith _ _ = _) => hE
    rw [stdText, if_pos hA, if_neg (by rw [hS, hE]; decide)]; exact ⟨_, rfl⟩
  · rename (Txt.startswith _ _ = _) => hS
    rw [stdText, if_pos hA, if_neg (by rw [hS]; simp)]; exact ⟨_, rfl⟩
  · rw [stdText, if_neg (by rw [hA]; decide)]; exact ⟨_, rfl⟩
end
end Mine
/-! Small -/
namespace Mine
theorem con_use {w : World} {mean : ExcName → Option Value} {mg mb : Str → Option Value} {f : Addr} {dN uN : Nat} {news : List (Addr × Obj)} {vs : List Value} {Out : List (Addr × Obj) → Value → Prop}
    {dp un : Nat} {gd : Option (List Code)} {cn : Str} {cs : Scope} {a : Addr} {ccd : Value} {cl : List (Str × Addr)} {outer : List Env} {A₀ : Around} {base h₀ : Heap} {L : Addr} {m : Str → Option Value} {s : Shared} {Q E : Value → Shared → Prop}
    (C : Con w mean mg mb f dN uN news vs Out) (B : Below A₀ base outer h₀) (F : Fr h₀ L s.heap m) (X : (hd.heap_39 w.params).In h₀) (N : News h₀ L s.heap news) (T : Top hd.view_39 (looseW hd.view_39 [Str.ofString "EXACT_TOKEN_TYPES"]) mean mg mb h₀) (hk : cs.kind = .function)
    (hd : dp + dN < recursionLimit) (hu : un + uN < cLine)
    (ret : ∀ r tl h' tk', Fr h₀ L h' m → News h₀ L h' (tl ++ news) → (∀ q ∈ news, ∀ p ∈ tl, q.1 < p.1) → Out tl r → Q r { s with heap := h', toks := tk' }) :
    wpAny (model PySem.Challenge.rw_mr0167_01.row.prog w) (ktrTop dp un gd cn cs L a ccd cl outer) (call (.ref f) vs) Q E s := C _ _ _ _ _ _ _ _ _ _ _ _ _ _ _ _ _ B F X N T hk hd hu ret
theorem figures_abs {w : World} {mean : ExcName → Option Value} {mg mb : Str → Option Value} {news : List (Addr × Obj)} {line : Int} {t : Tok} (h1 : -100000 ≤ line) (h2 : line ≤ 100000) :
    Con w mean mg mb 64 1 8 news [.int (if line < 0 then -line else line) t] (fun tl r => ∃ (l' : Addr) (ws' : List Value) (n' : Nat), tl = [(l', listOf ws'.toArray n')] ∧ r = .ref l' ∧ IntsAre ws' (figL line.natAbs)) :=
  figures_con (n0 := line.natAbs) (by split <;> omega) (by omega)
theorem iseof_con {w : World} {mean : ExcName → Option Value} {mg mb : Str → Option Value} {news : List (Addr × Obj)} {line : Int} {t : Tok} :
    Con w mean mg mb 38 1 8 news [.int line t] (fun tl r => tl = [] ∧ r = .bool (decide (line = 0))) := by
  unfold Con
  w_on
  k_with_none
  k_fill
  intro dp un gd cn cs a ccd cl outer A₀ base h₀ L m s Q E B F X N T hk hd hu hret
  w_strict (
   refine wpAny_call ?_
   k_dflt ktr_enter
   k_steps)
  rename News _ _ _ _ => N8
  rename Fr _ _ _ _ => F8
  exact hret _ [] _ _ F8 N8 (fun _ _ _ h => nomatch h) ⟨rfl, rfl⟩
section
local macro_rules | `(tactic| walk_at "subscriptTail Name Constant ref int") => `(tactic| (k_here; (with_unfolding_all refine' item_tup_news ?k1 ?k2 ?k3 ?k4 ?k5 ?k6 ?_ ?k7 ?k8; (case k1 => k_asm); (case k2 => assumption); (case k3 => decide); (case k4 => decide); (case k5 => exact rfl); (case k6 => exact rfl); (case k7 => with_unfolding_all rfl); (case k8 => intro _; with_unfolding_all rfl))))
theorem name_con {w : World} {mean : ExcName → Option Value} {mg mb : Str → Option Value} {news : List (Addr × Obj)} {l : Addr} {p n : Str} {line : Int} {t1 t2 t3 : Tok} {nn : Nat}
  (hl : (l, ({ cls := .type "tuple", data := .seq [.str p t1, .int line t2, .str n t3].toArray nn } : Obj)) ∈ news) :
    Con w mean mg mb 21 1 8 news [.ref l] (fun tl r => tl = [] ∧ r = .str n t3) := by
  unfold Con
  w_on
  k_with_none
  k_fill
  intro dp un gd cn cs a ccd cl outer A₀ base h₀ L m s Q E B F X N T hk hd hu hret
  w_strict (
   refine wpAny_call ?_
   k_dflt ktr_enter
   k_steps)
  rename News _ _ _ _ => N8
  rename Fr _ _ _ _ => F8
  exact hret _ [] _ _ F8 N8 (fun _ _ _ h => nomatch h) ⟨rfl, rfl⟩
end
end Mine
/-! Due -/
namespace Mine
def headL (x : Int) : Option (List Int) := if x = 20 then some [25] else if x = 29 then some [25, 22] else if x = 33 then some [25, 20] else if x = 44 then some [25, 29] else none
def tailL (x : Int) : Option (List Int) := if x = 21 then some [26] else if x = 34 then some [21, 26] else if x = 51 then some [15, 26] else none
def dueB (name : List Int) : Bool := !decide (name = []) && ((headL (name.getD 0 0)).isSome && (tailL (name.getD (name.length - 1) 0)).isSome)
def dueL (place : List Int) (line : Int) (name : List Int) : List Int :=
  if (decide (place ≠ [31]) || decide (line ≠ 0)) = true then place ++ [11] ++ (if line < 0 then [15] else []) ++ figL line.natAbs ++ [7] ++ name ++ [8]
  else if dueB name = true then (headL (name.getD 0 0)).getD [] ++ (name.drop 1).take (name.length - 1 - 1) ++ (tailL (name.getD (name.length - 1) 0)).getD []
  else name
section
variable {M : Model} {A : Around} {E : Value → Shared → Prop} {s : Shared} {env : Env} {h₀ : Heap} {L : Addr} {m : Str → Option Value} {news : List (Addr × Obj)} {Q : Flow → Shared → Prop}
def Keep (h₀ : Heap) (L : Addr) (m : Str → Option Value) (news : List (Addr × Obj)) (s s' : Shared) : Prop := ∃ h' tk, s' = { s with heap := h', toks := tk } ∧ Fr h₀ L h' m ∧ News h₀ L h' news
structure CutEnd (b' b : Bool) (K : Prop) : Prop where
  e : b' = b
  k : K
theorem If_cut {test : Expr} {body orelse : List Stmt} {pos : Pos} (b : Bool) (_ : Fr h₀ L s.heap m) (_ : News h₀ L s.heap news)
    (c : wpAny M A (isTrue test env (eval test env)) (fun b' s' => CutEnd b' b (Keep h₀ L m news s s')) E s)
    (t : b = true → ∀ h' tk, Fr h₀ L h' m → News h₀ L h' news → wpAny M A (execs body env) Q E { s with heap := h', toks := tk })
    (f : b = false → ∀ h' tk, Fr h₀ L h' m → News h₀ L h' news → wpAny M A (execs orelse env) Q E { s with heap := h', toks := tk }) :
    wpAny M A (exec (.If test body orelse pos) env) Q E s := by
  refine wpAny_If (wpAny_mono c (fun b' s' hq => ?_) fun _ _ e => e)
  obtain ⟨rfl, h', tk, rfl, F', N'⟩ := hq
  cases b' with
  | true => rw [if_pos rfl]; exact t rfl h' tk F' N'
  | false => rw [if_neg (by decide)]; exact f rfl h' tk F' N'
end
section
variable {prog : Program} {w : World} {A : Around} {E : Value → Shared → Prop} {s : Shared} {h₀ : Heap} {L : Addr} {news news' : List (Addr × Obj)} {d : Addr} {f : Int → Option (List Int)} {x : Int} {t : Tok}
def DictAbs (prog : Program) (w : World) (news : List (Addr × Obj)) (d : Addr) (f : Int → Option (List Int)) : Prop :=
  ∃ o kvs, (d, o) ∈ news ∧ o.IsDictOf (PySem.intKind prog w) kvs ∧ (d == sysModules) = false ∧
    ∀ x : Int, (f x = none ∧ valueAt kvs x = none) ∨ ∃ ns l ws n, f x = some ns ∧ valueAt kvs x = some (.ref l) ∧ (l, listOf (List.toArray ws) n) ∈ news ∧ IntsAre ws ns
theorem in_abs {Q : Value → Shared → Prop} (N : News h₀ L s.heap news') (D : DictAbs prog w news d f) (hs : ∀ p ∈ news, p ∈ news') (h : Q (.bool (f x).isSome) { s with toks := s.toks + 1 }) :
    wpAny (model prog w) A (compareOp .In (.int x t) (.ref d)) Q E s := by
  obtain ⟨o, kvs, hm, hd, lo, hv⟩ := D
  refine kda_in N (hs _ hm) hd lo (intKind_is prog w x t) _ rfl ?_
  rcases hv x with ⟨e1, e2⟩ | ⟨ns, l, ws, n, e1, e2, _⟩
  · rw [e2]; rw [e1] at h; exact h
  · rw [e2]; rw [e1] at h; exact h
theorem item_abs {value slice : PySem.Expr} {Q : Value → Shared → Prop} {ns : List Int} (N : News h₀ L s.heap news') (D : DictAbs prog w news d f) (hs : ∀ p ∈ news, p ∈ news') (hx : f x = some ns)
    (h : ∀ l ws n, News h₀ L s.heap ((l, listOf (List.toArray ws) n) :: news') → IntsAre ws ns → Q (.ref l) { s with toks := s.toks + 1 })
    (hs' : subscripted slice false (.ref d) (.int x t) = operate [.ref d, .int x t] (getItem (.ref d) (.int x t)) := by with_unfolding_all rfl) (hg : ∀ r, letTemporaryGo value (.ref d) r = pure () := by intro _; with_unfolding_all rfl) :
    wpAny (model prog w) A (subscriptTail value slice (.ref d) (.int x t)) Q E s := by
  obtain ⟨o, kvs, hm, hd, lo, hv⟩ := D
  rcases hv x with ⟨e1, _⟩ | ⟨ns', l, ws, n, e1, e2, hl, hI⟩
  · rw [hx] at e1; cases e1
  · rw [hx] at e1
    cases e1
    refine kda_item N (hs _ hm) hd (intKind_is prog w x t) e2 (h l ws n (fun p hp => ?_) hI) hs' hg
    rcases List.mem_cons.mp hp with rfl | hp
    · exact N _ (hs _ hl)
    · exact N _ hp
end
section
variable {prog : Program} {w : World} {h₀ h : Heap} {L : Addr} {news : List (Addr × Obj)}
theorem dict_heads {d a1 a2 a3 a4 : Addr} {o : Obj} {u1 u2 u3 u4 : Tok} {v1 v2 v3 v4 v5 v6 v7 : Tok} {n1 n2 n3 n4 : Nat} (hm : (d, o) ∈ news)
    (hd : o.IsDictOf (PySem.intKind prog w) (intKeyPairs [(.int 20 u1, .ref a1), (.int 29 u2, .ref a2), (.int 33 u3, .ref a3), (.int 44 u4, .ref a4)])) (lo : (d == sysModules) = false)
    (h1 : (a1, listOf #[.int 25 v1] n1) ∈ news) (h2 : (a2, listOf #[.int 25 v2, .int 22 v3] n2) ∈ news) (h3 : (a3, listOf #[.int 25 v4, .int 20 v5] n3) ∈ news) (h4 : (a4, listOf #[.int 25 v6, .int 29 v7] n4) ∈ news)
    (_ : News h₀ L h news) : DictAbs prog w news d headL := by
  refine ⟨o, _, hm, hd, lo, fun x => ?_⟩
  unfold headL
  by_cases e1 : x = 20
  · subst e1; exact .inr ⟨_, a1, [_], n1, if_pos rfl, rfl, h1, .cons _ _ .nil⟩
  by_cases e2 : x = 29
  · subst e2; exact .inr ⟨_, a2, [_, _], n2, rfl, rfl, h2, .cons _ _ (.cons _ _ .nil)⟩
  by_cases e3 : x = 33
  · subst e3; exact .inr ⟨_, a3, [_, _], n3, rfl, rfl, h3, .cons _ _ (.cons _ _ .nil)⟩
  by_cases e4 : x = 44
  · subst e4; exact .inr ⟨_, a4, [_, _], n4, rfl, rfl, h4, .cons _ _ (.cons _ _ .nil)⟩
  refine .inl ⟨by rw [if_neg e1, if_neg e2, if_neg e3, if_neg e4], ?_⟩
  simp [intKeyPairs, valueAt, Ne.symm e1, Ne.symm e2, Ne.symm e3, Ne.symm e4, e1, e2, e3, e4]
theorem dict_tails {d a1 a2 a3 : Addr} {o : Obj} {u1 u2 u3 : Tok} {v1 v2 v3 v4 v5 : Tok} {n1 n2 n3 : Nat} (hm : (d, o) ∈ news)
    (hd : o.IsDictOf (PySem.intKind prog w) (intKeyPairs [(.int 21 u1, .ref a1), (.int 34 u2, .ref a2), (.int 51 u3, .ref a3)])) (lo : (d == sysModules) = false)
    (h1 : (a1, listOf #[.int 26 v1] n1) ∈ news) (h2 : (a2, listOf #[.int 21 v2, .int 26 v3] n2) ∈ news) (h3 : (a3, listOf #[.int 15 v4, .int 26 v5] n3) ∈ news)
    (_ : News h₀ L h news) : DictAbs prog w news d tailL := by
  refine ⟨o, _, hm, hd, lo, fun x => ?_⟩
  unfold tailL
  by_cases e1 : x = 21
  · subst e1; exact .inr ⟨_, a1, [_], n1, if_pos rfl, rfl, h1, .cons _ _ .nil⟩
  by_cases e2 : x = 34
  · subst e2; exact .inr ⟨_, a2, [_, _], n2, rfl, rfl, h2, .cons _ _ (.cons _ _ .nil)⟩
  by_cases e3 : x = 51
  · subst e3; exact .inr ⟨_, a3, [_, _], n3, rfl, rfl, h3, .cons _ _ (.cons _ _ .nil)⟩
  refine .inl ⟨by rw [if_neg e1, if_neg e2, if_neg e3], ?_⟩
  simp [intKeyPairs, valueAt, Ne.symm e1, Ne.symm e2, Ne.symm e3, e1, e2, e3]
end
theorem news_two {h₀ h : Heap} {L : Addr} {news : List (Addr × Obj)} {a b : Addr × Obj} (N : News h₀ L h news) (ha : a ∈ news) (hb : b ∈ news) : News h₀ L h (a :: b :: news) := fun p hp => by
  rcases List.mem_cons.mp hp with rfl | hp
  · exact N _ ha
  · rcases List.mem_cons.mp hp with rfl | hp
    · exact N _ hb
    · exact N _ hp
section
variable {prog : Program} {w : World} {A : Around} {E : Value → Shared → Prop} {s : Shared} {h₀ : Heap} {L : Addr} {news : List (Addr × Obj)}
theorem item_first {value slice : PySem.Expr} {l : Addr} {vs : List Value} {ns : List Int} {n : Nat} {u : Tok} {Q : Value → Shared → Prop} (N : News h₀ L s.heap news) (hm : (l, listOf vs.toArray n) ∈ news) (hI : IntsAre vs ns) (hne : ¬ ns = [])
    (h : ∀ t, Q (.int (ns.getD 0 0) t) s)
    (hs : subscripted slice false (.ref l) (.int 0 u) = operate [.ref l, .int 0 u] (getItem (.ref l) (.int 0 u)) := by with_unfolding_all rfl) :
    wpAny (model prog w) A (subscriptTail value slice (.ref l) (.int 0 u)) Q E s := by
  cases hI with
  | nil => exact absurd rfl hne
  | cons a b r => exact item_news (v := .int a b) N hm (by decide) (by decide) rfl (h b) hs
theorem item_last {value slice : PySem.Expr} {l : Addr} {vs : List Value} {ns : List Int} {n : Nat} {u : Tok} {Q : Value → Shared → Prop} (N : News h₀ L s.heap news) (hm : (l, listOf vs.toArray n) ∈ news) (hI : IntsAre vs ns) (hne : ¬ ns = []) (hlen : ns.length ≤ 1000)
    (h : ∀ t, Q (.int (ns.getD (ns.length - 1) 0) t) s)
    (hs : subscripted slice false (.ref l) (.int (-1) u) = operate [.ref l, .int (-1) u] (getItem (.ref l) (.int (-1) u)) := by with_unfolding_all rfl) :
    wpAny (model prog w) A (subscriptTail value slice (.ref l) (.int (-1) u)) Q E s := by
  have hl : s.heap.IsList l vs.toArray := ⟨_, (N _ hm).1, rfl, n, rfl⟩
  have hpos : 0 < ns.length := List.length_pos_iff.mpr hne
  have hlv : vs.length = ns.length := hI.length
  obtain ⟨t, ht⟩ := hI.get (ns.length - 1) (ns.getD (ns.length - 1) 0) (by
    rw [List.getD_eq_getElem?_getD, List.getElem?_eq_getElem (by omega)]
    rfl)
  refine tail_any hl.typeIs slot_list_getitem.lookup (wpAny_getItem_list_neg hl (by decide) (by rw [List.size_toArray]; omega) (by decide) ?_ (h t)) hs
  rw [List.size_toArray, hlv]
  have e : ((-1 : Int) + (ns.length : Int)).toNat = ns.length - 1 := by omega
  rw [e, List.getElem?_toArray]
  exact ht
theorem state_gen {M : Model} {α : Type} {t : Sem α} {Q : α → Shared → Prop} {h : Heap} {tk : Nat} (H : ∀ tk', wpAny M A t Q E { s with heap := h, toks := tk' }) : wpAny M A t Q E { s with heap := h, toks := tk } := H tk
end
theorem headL_len {x : Int} {a : List Int} (h : headL x = some a) : a.length ≤ 2 := by
  unfold headL at h
  split at h <;> (try split at h) <;> (try split at h) <;> (try split at h) <;> cases h <;> decide
theorem tailL_len {x : Int} {a : List Int} (h : tailL x = some a) : a.length ≤ 2 := by
  unfold tailL at h
  split at h <;> (try split at h) <;> (try split at h) <;> cases h <;> decide
section
local macro_rules | `(tactic| walk_at "subscriptTail Name Subscript ref int") => `(tactic| (k_here; (rename News _ _ _ _ => Nold); (with_unfolding_all refine' item_abs Nold ?k2 ?k3 ?k4 ?_ ?k5 ?k6; (case k2 => with_reducible assumption); (case k3 => exact fun p hp => (by repeat (first | exact hp | refine List.mem_cons_of_mem _ ?_))); (case k4 => with_reducible assumption); (case k5 => with_unfolding_all rfl); (case k6 => intro _; with_unfolding_all rfl)); intro l' ws' n' N' hI'; clear Nold))
local macro_rules | `(tactic| walk_at "subscriptTail Name Constant ref int") => `(tactic| (k_here; (with_unfolding_all refine' item_first ?k1 ?k2 ?k3 ?k4 ?_ ?k5; (case k1 => k_asm); (case k2 => k_mem); (case k3 => with_reducible assumption); (case k4 => first | with_reducible assumption | exact of_decide_eq_false (by with_reducible assumption)); (case k5 => with_unfolding_all rfl)); intro _))
local macro_rules | `(tactic| walk_at "subscriptTail Name UnaryOp ref int") => `(tactic| (k_here; (with_unfolding_all refine' item_last ?k1 ?k2 ?k3 ?k4 ?k5 ?_ ?k6; (case k1 => k_asm); (case k2 => k_mem); (case k3 => with_reducible assumption); (case k4 => first | with_reducible assumption | exact of_decide_eq_false (by with_reducible assumption)); (case k5 => omega); (case k6 => with_unfolding_all rfl)); intro _))
local macro_rules | `(tactic| walk_at "compareOp In int ref") => `(tactic| (k_here; (with_unfolding_all refine' in_abs ?k1 ?k2 ?k3 ?_; (case k1 => k_asm); (case k2 => with_reducible assumption); (case k3 => exact fun p hp => (by repeat (first | exact hp | refine List.mem_cons_of_mem _ ?_))))))
local macro_rules | `(tactic| walk_at "call ref") => `(tactic| (k_here; (with_reducible show wpAny _ _ (call (Value.ref 38) _) _ _ _); k_dflt (refine' con_use (f := 38) iseof_con ?k1 ?k2 ?k3 ?k4 ?k5 ?kK ?kd ?ku ?_; (case k1 => k_asm); (case k2 => k_asm); (case k3 => k_asm); (case k4 => k_asm); (case k5 => k_asm); (case kK => exact rfl); (case kd => ktr_room); (case ku => ktr_units)); intro r9 tl9 h9 tk9 F9 N9 hl9 ho9; obtain ⟨e1, e2⟩ := ho9; subst e1; subst e2; clear hl9; (try simp only [List.nil_append] at N9); (try dsimp only)))
local macro_rules | `(tactic| walk_at "call ref") => `(tactic| (k_here; (with_reducible show wpAny _ _ (call (Value.ref 64) _) _ _ _); k_dflt (refine' con_use (f := 64) (figures_abs ?c1 ?c2) ?k1 ?k2 ?k3 ?k4 ?k5 ?kK ?kd ?ku ?_; (case k1 => k_asm); (case k2 => k_asm); (case k3 => k_asm); (case k4 => k_asm); (case k5 => k_asm); (case kK => exact rfl); (case c1 => assumption); (case c2 => assumption); (case kd => ktr_room); (case ku => ktr_units)); intro r9 tl9 h9 tk9 F9 N9 hl9 ho9; obtain ⟨l', ws', n', e1, e2, hI'⟩ := ho9; subst e1; subst e2; clear hl9; (try simp only [List.cons_append, List.nil_append] at N9); (try dsimp only)))
local macro_rules | `(tactic| walk_at "compareOp NotEq ref ref") => `(tactic| (k_here; k_dflt (refine' ke_ne_ints ?k1 ?k2 ?k3 ?k4 ?k5 ?_; (case k1 => is_list); (case k2 => is_list); (case k3 => l_ints); (case k4 => l_ints); (case k5 => ktr_units))))
local macro_rules | `(tactic| walk_at "exec If") => `(tactic| (refine Stop.mk' ?_))
theorem due_con {w : World} {mean : ExcName → Option Value} {mg mb : Str → Option Value} {news : List (Addr × Obj)} {lp ln : Addr} {vp vn : List Value} {place name : List Int} {n1 n2 : Nat} {line : Int} {t : Tok}
  (hp : (lp, listOf vp.toArray n1) ∈ news) (hn : (ln, listOf vn.toArray n2) ∈ news) (hIp : IntsAre vp place) (hIn : IntsAre vn name) (hlp : place.length ≤ 100) (hln : name.length ≤ 100) (h1 : -100000 ≤ line) (h2 : line ≤ 100000) (hfl : (figL line.natAbs).length ≤ 1000) :
  Con w mean mg mb 71 3 300 news [.ref lp, .int line t, .ref ln] (fun tl r => ∃ (l' : Addr) (ws' : List Value) (n' : Nat), (l', listOf ws'.toArray n') ∈ tl ++ news ∧ r = .ref l' ∧ IntsAre ws' (dueL place line name)) := by
  unfold Con
  w_on
  k_with_none
  k_fill
  intro dp un gd cn cs a ccd cl outer A₀ base h₀ L m s Q E B F X N T hk hd hu hret
  w_strict (
   refine wpAny_call ?_
   k_dflt ktr_enter
   rename News _ _ _ _ => N1
   have N2 := news_two N1 hp hn
   clear N1
   k_steps)
  refine Stop.mk ?_
  rename News _ _ _ _ => N1
  rename Fr _ _ _ _ => F1
  rename Obj.IsDictOf _ _ (intKeyPairs [_, _, _]) => hdT
  rename Obj.IsDictOf _ _ (intKeyPairs [_, _, _, _]) => hdH
  have DT := dict_tails (by k_mem) hdT (by assumption) (by k_mem) (by k_mem) (by k_mem) N1
  have DH := dict_heads (by k_mem) hdH (by assumption) (by k_mem) (by k_mem) (by k_mem) (by k_mem) N1
  clear hdT hdH
  obtain ⟨G, N2, DT, DH, hsub⟩ : ∃ G, News _ _ _ G ∧ DictAbs _ _ G _ tailL ∧ DictAbs _ _ G _ headL ∧ ∀ p ∈ news, p ∈ G := ⟨_, N1, DT, DH, fun p hp => by repeat (first | exact hp | refine List.mem_cons_of_mem _ ?_)⟩
  clear N1
  have N1 := news_two N2 (hsub _ hp) (hsub _ hn)
  clear N2
  with_unfolding_all refine state_gen ?_
  intro tk0
  refine If_cut (decide (place ≠ [31]) || decide (line ≠ 0)) F1 N1 ?_ ?_ ?_
  · w_strict (k_steps)
    · rename News _ _ _ _ => N9
      rename Fr _ _ _ _ => F9
      rename (place = [31]) => hP
      rename (line = 0) => hL
      exact ⟨by rw [hL, hP]; rfl, _, _, rfl, F9, fun p hp => N9 p (.tail _ hp)⟩
    · rename News _ _ _ _ => N9
      rename Fr _ _ _ _ => F9
      rename (¬ line = 0) => hL
      exact ⟨by rw [decide_eq_true hL, Bool.or_true], _, _, rfl, F9, fun p hp => N9 p (.tail _ hp)⟩
    · rename News _ _ _ _ => N9
      rename Fr _ _ _ _ => F9
      rename (¬ place = [31]) => hP
      exact ⟨by rw [decide_eq_true hP, Bool.true_or], _, _, rfl, F9, fun p hp => N9 p (.tail _ hp)⟩
  · intro hB h8 tk8 F8 N8
    clear N1 F1 DT DH
    have N7 := news_two (cb_drop (news := news) N8 (fun p hp => .tail _ (.tail _ (hsub p hp)))) hp hn
    clear N8
    w_strict (k_steps)
    all_goals (
      rename News _ _ _ _ => N9
      rename Fr _ _ _ _ => F9
      rename (_ < _ ∧ _) => l9
      rename IntsAre _ _ => hI9
      refine hret _ [_] _ _ F9 (fun p hp => N9 p (by
        rcases List.mem_cons.mp hp with rfl | hp
        · exact List.mem_cons_self
        · repeat (first | exact hp | refine List.mem_cons_of_mem _ ?_))) (fun q hq p hp => ?_) ⟨_, _, _, List.mem_cons_self, rfl, ?_⟩
      · rw [List.mem_singleton.mp hp]
        repeat (first | exact lt_of_allLt l9 q hq | replace l9 := l9.2))
    · rename (line < 0) => hneg
      rw [dueL, if_pos hB, if_pos hneg]
      exact hI9
    · rename (¬ line < 0) => hneg
      rw [dueL, if_pos hB, if_neg hneg]
      exact hI9
  · intro hB h8 tk8 F8 N8
    clear N1 F1
    w_strict (k_steps)
    refine Stop.mk ?_
    rename News _ _ _ _ => N1
    rename Fr _ _ _ _ => F1
    refine If_cut (dueB name) F1 N1 ?_ ?_ ?_
    · w_strict (k_steps)
      · rename News _ _ _ _ => N9
        rename Fr _ _ _ _ => F9
        rename (decide (name = []) = true) => hA
        exact ⟨by rw [dueB, hA]; rfl, _, _, rfl, F9, fun p hp => N9 p (.tail _ hp)⟩
      · rename News _ _ _ _ => N9
        rename Fr _ _ _ _ => F9
        rename (decide (name = []) = false) => hA
        rename ((headL _).isSome = true) => hH
        rename ((tailL _).isSome = true) => hT
        exact ⟨by rw [dueB, hA, hH, hT]; rfl, _, _, rfl, F9, fun p hp => N9 p (.tail _ hp)⟩
      · rename News _ _ _ _ => N9
        rename Fr _ _ _ _ => F9
        rename ((tailL _).isSome = false) => hT
        exact ⟨by rw [dueB, hT, Bool.and_false, Bool.and_false], _, _, rfl, F9, fun p hp => N9 p (.tail _ hp)⟩
      · rename News _ _ _ _ => N9
        rename Fr _ _ _ _ => F9
        rename ((headL _).isSome = false) => hH
        exact ⟨by rw [dueB, hH, Bool.false_and, Bool.and_false], _, _, rfl, F9, fun p hp => N9 p (.tail _ hp)⟩
    · intro hD h6 tk6 F6 N6
      clear N1 F1
      have hD' := hD
      rw [dueB, Bool.and_eq_true, Bool.and_eq_true, Bool.not_eq_true'] at hD'
      have hne : ¬ name = [] := of_decide_eq_false hD'.1
      obtain ⟨aH, hH⟩ := Option.isSome_iff_exists.mp hD'.2.1
      obtain ⟨aT, hT⟩ := Option.isSome_iff_exists.mp hD'.2.2
      have hlH := headL_len hH
      have hlT := tailL_len hT
      w_strict (k_steps)
      rename News _ _ _ _ => N9
      rename Fr _ _ _ _ => F9
      rename (_ < _ ∧ _) => l9
      rename IntsAre _ _ => hI9
      refine hret _ [_] _ _ F9 (fun p hp => N9 p (by
        rcases List.mem_cons.mp hp with rfl | hp
        · exact List.mem_cons_self
        · have hp := hsub p hp
          repeat (first | exact hp | refine List.mem_cons_of_mem _ ?_))) (fun q hq p hp => ?_) ⟨_, _, _, List.mem_cons_self, rfl, ?_⟩
      · rw [List.mem_singleton.mp hp]
        have hq := hsub q hq
        repeat (first | exact lt_of_allLt l9 q hq | replace l9 := l9.2)
      · rw [dueL, if_neg (by rw [hB]; decide), if_pos hD, hH, hT]
        exact hI9
    · intro hD h6 tk6 F6 N6
      clear N1 F1
      w_strict (k_steps)
      rename News _ _ _ _ => N9
      rename Fr _ _ _ _ => F9
      refine hret _ [] _ _ F9 (fun p hp => N9 p (.tail _ (.tail _ (hsub p hp)))) (fun _ _ _ h => nomatch h) ⟨ln, vn, n2, hn, rfl, ?_⟩
      rw [dueL, if_neg (by rw [hB]; decide), if_neg (by rw [hD]; decide)]
      exact hIn
end
end Mine
/-! Pure -/
namespace Mine
/-- the signs of one number -/
def sp1 (n : Int) : List Nat := if n = 0 then [32] else sgs.getD (n - 7).toNat []
def spL (ns : List Int) : List Nat := ns.flatMap sp1
theorem spell1_cps (n : Int) : (spell1 n).cps.toList = sp1 n := by
  unfold spell1 sp1
  split
  · decide +kernel
  · rw [List.toList_toArray]
theorem glued_nil_cps : ∀ (l : List Str), (Str.join (Str.ofString "") l).cps.toList = l.flatMap fun x => x.cps.toList
  | [] => by decide +kernel
  | [x] => by simp [Str.join]
  | x :: y :: r => by
    have e : Str.join (Str.ofString "") (x :: y :: r) = x ++ Str.ofString "" ++ Str.join (Str.ofString "") (y :: r) := rfl
    have e0 : (Str.ofString "").cps = #[] := by decide +kernel
    rw [e, Str.cps_append, Str.cps_append, e0, Array.append_empty, Array.toList_append, glued_nil_cps (y :: r)]
    simp only [List.flatMap_cons]
theorem spelled_cps (ns : List Int) : (spelled ns).cps.toList = spL ns := by
  have h := join_plain_closes (Str.ofString "") (ns.map spell1)
  rw [beq_iff_eq] at h
  unfold spelled spL
  rw [h, glued_nil_cps, List.flatMap_map]
  congr 1
  funext n
  exact spell1_cps n
/-- the number of an operator: its signs are its own row in the table -/
theorem op_of : ∀ j : Fin 48, (sgs.getD j.val [], (j.val : Int) + 7) ∈ ops := by decide +kernel
theorem op_mem {n : Int} (h1 : 7 ≤ n) (h2 : n ≤ 54) : (sp1 n, n) ∈ ops := by
  have h : (sgs.getD (n - 7).toNat [], (((n - 7).toNat : Nat) : Int) + 7) ∈ ops := op_of ⟨(n - 7).toNat, by omega⟩
  have e : (((n - 7).toNat : Nat) : Int) + 7 = n := by omega
  unfold sp1
  rw [if_neg (by omega)]
  rw [e] at h
  exact h
/-- a sign that goes on with no operator -/
def stopper (c : Nat) : Bool := ops.all fun p => ops.all fun q => !((p.1 ++ [c]).isPrefixOf q.1)
def safe : List Nat → Bool
  | [] => true
  | c :: _ => stopper c
theorem ext_safe {g : List Nat} {v : Int} {cs : List Nat} (hg : (g, v) ∈ ops) (h : safe cs = true) : ext g cs = true := by
  cases cs with
  | nil => rfl
  | cons c cs => exact List.all_eq_true.mp h _ hg
theorem stop_signs : (stopper 32 && stopper 58 && stopper 41 && stopper 125) = true := by decide +kernel
theorem stop_figs : ∀ d : Fin 10, stopper (48 + d.val) = true := by decide +kernel
theorem stop32 : stopper 32 = true := by decide +kernel
theorem safe_parts (r : List Int) (cs : List Nat) (h : safe cs = true) : safe (spL (parts r) ++ cs) = true := by
  cases r with
  | nil => exact h
  | cons y r => exact stop32
theorem rd_parts {r : List Int} {cs : List Nat} {ts : List Int} (hr : ∀ n ∈ r, 7 ≤ n ∧ n ≤ 54) (hs : safe cs = true) (h : Rd cs ts) : Rd (spL (parts r) ++ cs) (parts r ++ ts) := by
  induction r with
  | nil => exact h
  | cons y r ih =>
    have hy := hr y (.head _)
    have e1 : spL (parts (y :: r)) ++ cs = 32 :: (sp1 y ++ (spL (parts r) ++ cs)) := by
      simp [parts, spL, sp1, List.flatMap_cons]
    have e2 : parts (y :: r) ++ ts = 0 :: y :: (parts r ++ ts) := by simp [parts, List.flatMap_cons]
    rw [e1, e2]
    exact .blank (.op (op_mem hy.1 hy.2) (ext_safe (op_mem hy.1 hy.2) (safe_parts r cs hs)) (ih fun n hn => hr n (.tail _ hn)))
theorem parted_cons (x : Int) (r : List Int) : parted (x :: r) = x :: parts r := by simp [parted, parts]
theorem rd_parted {r : List Int} {cs : List Nat} {ts : List Int} (hr : ∀ n ∈ r, 7 ≤ n ∧ n ≤ 54) (hs : safe cs = true) (h : Rd cs ts) : Rd (spL (parted r) ++ cs) (parted r ++ ts) := by
  cases r with
  | nil => exact h
  | cons x r =>
    have hx := hr x (.head _)
    rw [parted_cons]
    have e1 : spL (x :: parts r) ++ cs = sp1 x ++ (spL (parts r) ++ cs) := by simp [spL, List.flatMap_cons]
    rw [e1]
    exact .op (op_mem hx.1 hx.2) (ext_safe (op_mem hx.1 hx.2) (safe_parts r cs hs)) (rd_parts (fun n hn => hr n (.tail _ hn)) hs h)
/-- the figures of a number -/
def figN (n : Nat) : List Nat := (Nat.toDigits 10 n).map Char.toNat
theorem digit_char : ∀ d : Fin 10, (Nat.digitChar d.val).toNat = 48 + d.val := by decide
theorem rd_figs (n : Nat) : ∀ {cs : List Nat} {ts : List Int}, Rd cs ts → Rd (figN n ++ cs) (figL n ++ ts) := by
  induction n using Nat.strongRecOn with
  | ind n ih =>
    intro cs ts h
    unfold figN
    rw [figL]
    by_cases hn : n < 10
    · rw [Nat.toDigits_of_lt_base hn, if_pos hn]
      have := digit_char ⟨n, hn⟩
      simp only [List.map_cons, List.map_nil, List.cons_append, List.nil_append] at this ⊢
      rw [this]
      exact .fig hn h
    · rw [Nat.toDigits_of_base_le (by decide) (by omega), if_neg hn]
      have hd : n % 10 < 10 := by omega
      have := digit_char ⟨n % 10, hd⟩
      simp only [List.map_append, List.map_cons, List.map_nil, List.append_assoc, List.cons_append, List.nil_append] at this ⊢
      rw [this]
      exact ih (n / 10) (by omega) (.fig hd h)
theorem figN_head (n : Nat) : ∃ d : Fin 10, ∃ r, figN n = (48 + d.val) :: r := by
  induction n using Nat.strongRecOn with
  | ind n ih =>
    unfold figN
    by_cases hn : n < 10
    · refine ⟨⟨n, hn⟩, [], ?_⟩
      rw [Nat.toDigits_of_lt_base hn]
      have := digit_char ⟨n, hn⟩
      simp only [List.map_cons, List.map_nil] at this ⊢
      rw [this]
    · rw [Nat.toDigits_of_base_le (by decide) (by omega)]
      obtain ⟨d, r, e⟩ := ih (n / 10) (by omega)
      unfold figN at e
      refine ⟨d, r ++ [(Nat.digitChar (n % 10)).toNat], ?_⟩
      rw [List.map_append, e]
      rfl
theorem nat_text (n : Nat) : (Str.ofString (toString (n : Int))).cps.toList = figN n := by
  have e : toString (n : Int) = String.ofList (Nat.toDigits 10 n) := rfl
  rw [e, Str.ofString_eq_toList, List.toList_toArray]
  unfold figN
  rw [String.toList_ofList]
theorem line_cps (line : Int) : (lineText line).cps.toList = (if line < 0 then [45] else []) ++ figN line.natAbs := by
  unfold lineText
  by_cases h : line < 0
  · rw [if_pos h, if_pos h]
    show (45 :: (Str.ofString (toString ((line.natAbs : Nat) : Int))).cps.toList).toArray.toList = _
    rw [List.toList_toArray, nat_text]
    rfl
  · rw [if_neg h, if_neg h]
    obtain ⟨m, rfl⟩ : ∃ m : Nat, line = m := ⟨line.toNat, by omega⟩
    rw [nat_text]
    rfl
theorem figL_len (n : Nat) : (figL n).length ≤ n + 1 := by
  induction n using Nat.strongRecOn with
  | ind n ih =>
    rw [figL]
    split
    · simp
    · have := ih (n / 10) (by omega)
      rw [List.length_append]
      simp only [List.length_cons, List.length_nil]
      omega
end Mine
/-! Pure2 -/
namespace Mine
theorem mem_sg {g : List Nat} {v : Int} (h : (ops.contains (g, v)) = true) : (g, v) ∈ ops := List.contains_iff_mem.mp h
theorem op8 : (([41], 8) : List Nat × Int) ∈ ops := mem_sg (by decide +kernel)
theorem op7 : (([40], 7) : List Nat × Int) ∈ ops := mem_sg (by decide +kernel)
theorem op11 : (([58], 11) : List Nat × Int) ∈ ops := mem_sg (by decide +kernel)
theorem op15 : (([45], 15) : List Nat × Int) ∈ ops := mem_sg (by decide +kernel)
theorem op26 : (([125], 26) : List Nat × Int) ∈ ops := mem_sg (by decide +kernel)
theorem op25 : (([123], 25) : List Nat × Int) ∈ ops := mem_sg (by decide +kernel)
theorem op21 : (([62], 21) : List Nat × Int) ∈ ops := mem_sg (by decide +kernel)
theorem op22 : (([61], 22) : List Nat × Int) ∈ ops := mem_sg (by decide +kernel)
theorem op20 : (([60], 20) : List Nat × Int) ∈ ops := mem_sg (by decide +kernel)
theorem op29 : (([60, 61], 29) : List Nat × Int) ∈ ops := mem_sg (by decide +kernel)
/-- an operator that no other begins with -/
theorem ext_solo {a : Nat} (h : (ops.all fun p => match p.1 with | [] => true | [_] => true | b :: _ :: _ => b != a) = true) (cs : List Nat) : ext [a] cs = true := by
  cases cs with
  | nil => rfl
  | cons c cs =>
    refine List.all_eq_true.mpr fun p hp => ?_
    have h1 := List.all_eq_true.mp h p hp
    match hq : p.1 with
    | [] => rfl
    | [b] => simp [List.isPrefixOf]
    | b :: d :: r =>
      rw [hq] at h1
      have h2 : b ≠ a := by simpa using h1
      have h3 : (a == b) = false := by rw [beq_eq_false_iff_ne]; exact Ne.symm h2
      simp [List.isPrefixOf, h3]
theorem ext40 (cs : List Nat) : ext [40] cs = true := ext_solo (by decide +kernel) cs
theorem ext123 (cs : List Nat) : ext [123] cs = true := ext_solo (by decide +kernel) cs
theorem rd_name {N : List Int} (hN : ∀ n ∈ N, 7 ≤ n ∧ n ≤ 54) : Rd (spL (parted N)) (parted N) := by
  have h := rd_parted hN (cs := []) (ts := []) rfl .nil
  rwa [List.append_nil, List.append_nil] at h
theorem ext58 {cs : List Nat} : ext [58] (45 :: cs) = true := by
  show ext [58] [45] = true
  decide +kernel
theorem rd_line (line : Int) {cs : List Nat} {ts : List Int} (h : Rd cs ts) :
    Rd (58 :: (((if line < 0 then [45] else []) ++ figN line.natAbs) ++ cs)) (11 :: ((if line < 0 then [15] else []) ++ (figL line.natAbs ++ ts))) := by
  have h1 := rd_figs line.natAbs h
  obtain ⟨d, r, hd⟩ := figN_head line.natAbs
  have hsafe : safe (figN line.natAbs ++ cs) = true := by
    rw [hd]
    exact stop_figs d
  by_cases hl : line < 0
  · rw [if_pos hl, if_pos hl]
    exact .op (g := [58]) op11 ext58 (.op (g := [45]) op15 (ext_safe op15 hsafe) h1)
  · rw [if_neg hl, if_neg hl]
    exact .op (g := [58]) op11 (ext_safe op11 hsafe) h1
theorem rd_full {P N : List Int} (line : Int) (hP : ∀ n ∈ P, 7 ≤ n ∧ n ≤ 54) (hN : ∀ n ∈ N, 7 ≤ n ∧ n ≤ 54) :
    Rd (spL (parted P) ++ 58 :: (((if line < 0 then [45] else []) ++ figN line.natAbs) ++ 40 :: (spL (parted N) ++ [41])))
      (parted P ++ 11 :: ((if line < 0 then [15] else []) ++ (figL line.natAbs ++ 7 :: (parted N ++ [8])))) := by
  have h1 : Rd [41] [8] := .op (g := [41]) (cs := []) op8 rfl .nil
  have h2 := rd_parted hN (by decide +kernel : safe [41] = true) h1
  have h3 : Rd (40 :: (spL (parted N) ++ [41])) (7 :: (parted N ++ [8])) := .op (g := [40]) op7 (ext40 _) h2
  exact rd_parted hP (by show stopper 58 = true; decide +kernel) (rd_line line h3)
theorem std_cps (p l n : Str) : (p ++ Str.ofString ":" ++ l ++ Str.ofString "(" ++ n ++ Str.ofString ")").cps.toList = p.cps.toList ++ 58 :: (l.cps.toList ++ 40 :: (n.cps.toList ++ [41])) := by
  have e1 : (Str.ofString ":").cps.toList = [58] := by decide +kernel
  have e2 : (Str.ofString "(").cps.toList = [40] := by decide +kernel
  have e3 : (Str.ofString ")").cps.toList = [41] := by decide +kernel
  simp only [Str.cps_append, Array.toList_append, e1, e2, e3, List.append_assoc, List.cons_append, List.nil_append]
theorem brace_cps (z : Str) : (Str.ofString "{" ++ z ++ Str.ofString "}").cps.toList = 123 :: (z.cps.toList ++ [125]) := by
  have e1 : (Str.ofString "{").cps.toList = [123] := by decide +kernel
  have e2 : (Str.ofString "}").cps.toList = [125] := by decide +kernel
  simp only [Str.cps_append, Array.toList_append, e1, e2, List.cons_append, List.nil_append]
theorem starts1 (x : Str) : Txt.startswith x (Str.ofString "<") = (x.cps.toList.head? == some 60) := by
  have e : Str.ofString "<" = ⟨#[60]⟩ := by decide +kernel
  rw [e]
  unfold Txt.startswith
  rw [StrLaws.subAt_eq]
  have hl : x.length = x.cps.toList.length := by simp [Str.length]
  have h1 : (⟨#[60]⟩ : Str).length = 1 := rfl
  rw [hl, h1]
  cases x.cps.toList with
  | nil => rfl
  | cons a r => simp [List.take]
theorem ends1 (x : Str) : Txt.endswith x (Str.ofString ">") = (x.cps.toList.getLast? == some 62) := by
  have e : Str.ofString ">" = ⟨#[62]⟩ := by decide +kernel
  rw [e]
  unfold Txt.endswith
  rw [StrLaws.subAt_eq]
  have hl : x.length = x.cps.toList.length := by simp [Str.length]
  have h1 : (⟨#[62]⟩ : Str).length = 1 := rfl
  rw [hl, h1]
  rcases List.eq_nil_or_concat x.cps.toList with h | ⟨l, a, h⟩
  · rw [h]; rfl
  · rw [h, List.concat_eq_append]
    have h2 : (l ++ [a]).length - 1 = l.length := by simp
    rw [h2, List.drop_left]
    simp
theorem slice_ends {x : Str} {a b : Nat} {Z : List Nat} (h : x.cps.toList = a :: (Z ++ [b])) : (Txt.slice x (some 1) (some (-1))).cps.toList = Z := by
  have hl : x.length = Z.length + 2 := by
    have : x.length = x.cps.toList.length := by simp [Str.length]
    rw [this, h]; simp
  have e : Txt.slice x (some 1) (some (-1)) = Txt.slice x (some 1) (some ((Z.length : Int) + 1)) := by
    have hi := StrLaws.sliceIdx_neg_hi (some 1) (j := -1) x.length (by decide) (by omega)
    have h2 : (-1 : Int) + (x.length : Int) = (Z.length : Int) + 1 := by omega
    rw [h2] at hi
    unfold Txt.slice
    rw [hi]
  rw [e]
  have hc := slice_closes (x := x) (i := 1) (j := (Z.length : Int) + 1) ⟨by decide, by omega, by rw [h]; simp; omega⟩
  rw [beq_iff_eq] at hc
  rw [hc, List.toList_toArray, h]
  have h3 : ((Z.length : Int) + 1 - 1).toNat = Z.length := by omega
  rw [h3]
  show ((a :: (Z ++ [b])).drop 1).take Z.length = Z
  simp
end Mine
/-! Pure3 -/
namespace Mine
theorem tab_heads : ∀ j : Fin 48, ((sgs.getD j.val []).head? == some 60) = (headL ((j.val : Int) + 7)).isSome := by decide +kernel
theorem tab_tails : ∀ j : Fin 48, ((sgs.getD j.val []).getLast? == some 62) = (tailL ((j.val : Int) + 7)).isSome := by decide +kernel
theorem tab_full : ∀ j : Fin 48, (sgs.getD j.val []) ≠ [] := by decide +kernel
theorem tab_tilde : ∀ j : Fin 48, sgs.getD j.val [] = [126] → (j.val : Int) + 7 = 31 := by decide +kernel
theorem sp1_op {n : Int} (h1 : 7 ≤ n) (h2 : n ≤ 54) : ∃ j : Fin 48, sp1 n = sgs.getD j.val [] ∧ (j.val : Int) + 7 = n := by
  refine ⟨⟨(n - 7).toNat, by omega⟩, ?_, by show (((n - 7).toNat : Nat) : Int) + 7 = n; omega⟩
  unfold sp1
  rw [if_neg (by omega)]
theorem sp1_head {n : Int} (h : 7 ≤ n ∧ n ≤ 54) : ((sp1 n).head? == some 60) = (headL n).isSome := by
  obtain ⟨j, e, hj⟩ := sp1_op h.1 h.2
  rw [e, tab_heads j, hj]
theorem sp1_last {n : Int} (h : 7 ≤ n ∧ n ≤ 54) : ((sp1 n).getLast? == some 62) = (tailL n).isSome := by
  obtain ⟨j, e, hj⟩ := sp1_op h.1 h.2
  rw [e, tab_tails j, hj]
theorem sp1_ne {n : Int} (h : 7 ≤ n ∧ n ≤ 54) : sp1 n ≠ [] := by
  obtain ⟨j, e, _⟩ := sp1_op h.1 h.2
  rw [e]; exact tab_full j
theorem head_tail {x : Int} : ((headL x).isSome && (tailL x).isSome) = false := by
  unfold headL tailL
  by_cases h1 : x = 20
  · subst h1; decide
  by_cases h2 : x = 29
  · subst h2; decide
  by_cases h3 : x = 33
  · subst h3; decide
  by_cases h4 : x = 44
  · subst h4; decide
  simp [h1, h2, h3, h4]
/-- where the place is the sign ~ alone -/
theorem tilde_iff {P : List Int} (hP : ∀ n ∈ P, 7 ≤ n ∧ n ≤ 54) : (spelled (parted P) == Str.ofString "~") = decide (parted P = [31]) := by
  have e : Str.ofString "~" = ⟨#[126]⟩ := by decide +kernel
  rw [Bool.eq_iff_iff, beq_iff_eq, decide_eq_true_eq, e]
  constructor
  · intro h
    have h1 : spL (parted P) = [126] := by rw [← spelled_cps, h]
    match P, hP, h1 with
    | [], _, h1 => cases h1
    | [x], hP, h1 =>
      have hx := hP x (.head _)
      obtain ⟨j, e1, hj⟩ := sp1_op hx.1 hx.2
      have h2 : sp1 x = [126] := by simpa [parted, parts, spL] using h1
      rw [e1] at h2
      have := tab_tilde j h2
      rw [parted_cons]
      show x :: [] = _
      rw [← hj, this]
    | x :: y :: r, hP, h1 =>
      exfalso
      have hx := sp1_ne (hP x (.head _))
      rw [parted_cons] at h1
      have h2 : sp1 x ++ (32 :: (sp1 y ++ spL (parts r))) = [126] := by
        rw [← h1]; simp [parts, spL, sp1, List.flatMap_cons]
      have h3 := congrArg List.length h2
      have h4 : 0 < (sp1 x).length := List.length_pos_iff.mpr hx
      simp at h3
      omega
  · intro h
    rw [h]
    decide +kernel
theorem rd_tail {y : Int} {b : List Int} {ys : List Nat} (hb : tailL y = some b) (hy : sp1 y = ys ++ [62]) : Rd (ys ++ [125]) b := by
  have h0 : Rd [125] [26] := .op (g := [125]) (cs := []) op26 rfl .nil
  have key : ∀ zs : List Nat, zs ++ [62] = ys ++ [62] → zs = ys := fun zs h => List.append_cancel_right h
  unfold tailL at hb
  by_cases h1 : y = 21
  · subst h1
    rw [if_pos rfl] at hb
    cases hb
    have : ([] : List Nat) = ys := key [] (by rw [← hy]; decide +kernel)
    subst this
    exact h0
  by_cases h2 : y = 34
  · subst h2
    have hb' : some [21, 26] = some b := hb
    cases hb'
    have : [62] = ys := key [62] (by rw [← hy]; decide +kernel)
    subst this
    exact .op (g := [62]) op21 (by decide +kernel) h0
  by_cases h3 : y = 51
  · subst h3
    have hb' : some [15, 26] = some b := hb
    cases hb'
    have : [45] = ys := key [45] (by rw [← hy]; decide +kernel)
    subst this
    exact .op (g := [45]) op15 (by decide +kernel) h0
  rw [if_neg h1, if_neg h2, if_neg h3] at hb
  cases hb
theorem rd_head {x : Int} {a : List Int} {xs rest : List Nat} {ts : List Int} (ha : headL x = some a) (hx : sp1 x = 60 :: xs) (hs : safe rest = true) (h : Rd rest ts) : Rd (123 :: (xs ++ rest)) (a ++ ts) := by
  unfold headL at ha
  by_cases h1 : x = 20
  · subst h1
    rw [if_pos rfl] at ha
    cases ha
    have : xs = [] := (List.cons.inj (hx.symm.trans (by decide +kernel : sp1 20 = 60 :: []))).2
    subst this
    exact .op (g := [123]) op25 (ext123 _) h
  by_cases h2 : x = 29
  · subst h2
    have ha' : some [25, 22] = some a := ha
    cases ha'
    have : xs = [61] := (List.cons.inj (hx.symm.trans (by decide +kernel : sp1 29 = 60 :: [61]))).2
    subst this
    exact .op (g := [123]) op25 (ext123 _) (.op (g := [61]) op22 (ext_safe op22 hs) h)
  by_cases h3 : x = 33
  · subst h3
    have ha' : some [25, 20] = some a := ha
    cases ha'
    have : xs = [60] := (List.cons.inj (hx.symm.trans (by decide +kernel : sp1 33 = 60 :: [60]))).2
    subst this
    exact .op (g := [123]) op25 (ext123 _) (.op (g := [60]) op20 (ext_safe op20 hs) h)
  by_cases h4 : x = 44
  · subst h4
    have ha' : some [25, 29] = some a := ha
    cases ha'
    have : xs = [60, 61] := (List.cons.inj (hx.symm.trans (by decide +kernel : sp1 44 = 60 :: [60, 61]))).2
    subst this
    exact .op (g := [123]) op25 (ext123 _) (.op (g := [60, 61]) op29 (ext_safe op29 hs) h)
  rw [if_neg h1, if_neg h2, if_neg h3, if_neg h4] at ha
  cases ha
theorem parts_concat (m : List Int) (y : Int) : parts (m ++ [y]) = parts m ++ [0, y] := by simp [parts]
/-- the name's own text, or the text with its two signs turned -/
theorem rd_builtin {N : List Int} (hN : ∀ n ∈ N, 7 ≤ n ∧ n ≤ 54) :
    Rd (if (Txt.startswith (spelled (parted N)) (Str.ofString "<") && Txt.endswith (spelled (parted N)) (Str.ofString ">")) = true then Str.ofString "{" ++ Txt.slice (spelled (parted N)) (some 1) (some (-1)) ++ Str.ofString "}" else spelled (parted N)).cps.toList
      (if dueB (parted N) = true then (headL ((parted N).getD 0 0)).getD [] ++ ((parted N).drop 1).take ((parted N).length - 1 - 1) ++ (tailL ((parted N).getD ((parted N).length - 1) 0)).getD [] else parted N) := by
  rw [starts1, ends1, spelled_cps]
  match N, hN with
  | [], _ =>
    rw [if_neg (by decide +kernel), if_neg (by decide +kernel), spelled_cps]
    exact .nil
  | x :: r, hN =>
    have hx := hN x (.head _)
    rcases List.eq_nil_or_concat r with rfl | ⟨m, y, rfl⟩
    · have e1 : parted [x] = [x] := rfl
      have e2 : spL [x] = sp1 x := by simp [spL]
      have hd : dueB [x] = false := by
        show (!decide ([x] = []) && ((headL x).isSome && (tailL x).isSome)) = false
        rw [head_tail, Bool.and_false]
      rw [e1, e2, sp1_head hx, sp1_last hx, head_tail, if_neg (by decide), if_neg (by rw [hd]; decide), spelled_cps]
      exact e1 ▸ rd_name hN
    · rw [List.concat_eq_append] at hN ⊢
      have hy := hN y (by simp)
      have hm : ∀ n ∈ m, 7 ≤ n ∧ n ≤ 54 := fun n hn => hN n (by simp [hn])
      have e1 : parted (x :: (m ++ [y])) = x :: (parts m ++ [0, y]) := by rw [parted_cons, parts_concat]
      have e2 : spL (x :: (parts m ++ [0, y])) = sp1 x ++ (spL (parts m) ++ 32 :: sp1 y) := by
        simp [spL, List.flatMap_cons, List.flatMap_append, sp1]
      have hg0 : (x :: (parts m ++ [0, y])).getD 0 0 = x := rfl
      have hlen : (x :: (parts m ++ [0, y])).length = (parts m).length + 3 := by simp
      have hgl : (x :: (parts m ++ [0, y])).getD ((x :: (parts m ++ [0, y])).length - 1) 0 = y := by
        rw [hlen]
        have : (parts m).length + 3 - 1 = (parts m).length + 1 + 1 := by omega
        rw [this, List.getD_cons_succ, List.getD_eq_getElem?_getD, List.getElem?_append_right (by omega)]
        simp
      have hst : ((sp1 x ++ (spL (parts m) ++ 32 :: sp1 y)).head? == some 60) = (headL x).isSome := by
        rw [← sp1_head hx]
        cases h : sp1 x with
        | nil => exact absurd h (sp1_ne hx)
        | cons a xs => rfl
      have hen : ((sp1 x ++ (spL (parts m) ++ 32 :: sp1 y)).getLast? == some 62) = (tailL y).isSome := by
        rw [← sp1_last hy]
        rcases List.eq_nil_or_concat (sp1 y) with h | ⟨ys, b, h⟩
        · exact absurd h (sp1_ne hy)
        · rw [h, List.concat_eq_append]
          have : sp1 x ++ (spL (parts m) ++ 32 :: (ys ++ [b])) = (sp1 x ++ (spL (parts m) ++ 32 :: ys)) ++ [b] := by simp
          rw [this, List.getLast?_concat, List.getLast?_concat]
      have hd : dueB (x :: (parts m ++ [0, y])) = ((headL x).isSome && (tailL y).isSome) := by
        unfold dueB
        rw [hg0, hgl]
        rfl
      rw [e1, e2, hst, hen, hd, hg0, hgl]
      by_cases hb : ((headL x).isSome && (tailL y).isSome) = true
      · rw [if_pos hb, if_pos hb]
        rw [Bool.and_eq_true] at hb
        obtain ⟨a, ha⟩ := Option.isSome_iff_exists.mp hb.1
        obtain ⟨b, hbT⟩ := Option.isSome_iff_exists.mp hb.2
        obtain ⟨xs, hxs⟩ : ∃ xs, sp1 x = 60 :: xs := by
          have h := sp1_head hx
          rw [hb.1] at h
          cases hq : sp1 x with
          | nil => exact absurd hq (sp1_ne hx)
          | cons c xs =>
            rw [hq] at h
            have : c = 60 := by simpa using h
            exact ⟨xs, by rw [this]⟩
        obtain ⟨ys, hys⟩ : ∃ ys, sp1 y = ys ++ [62] := by
          have h := sp1_last hy
          rw [hb.2] at h
          rcases List.eq_nil_or_concat (sp1 y) with hq | ⟨ys, c, hq⟩
          · exact absurd hq (sp1_ne hy)
          · rw [List.concat_eq_append] at hq
            rw [hq] at h
            have : c = 62 := by simpa using h
            exact ⟨ys, by rw [hq, this]⟩
        have ht : (spelled (x :: (parts m ++ [0, y]))).cps.toList = 60 :: ((xs ++ (spL (parts m) ++ 32 :: ys)) ++ [62]) := by
          rw [spelled_cps, e2, hxs, hys]
          simp
        rw [brace_cps, slice_ends ht, ha, hbT, hlen]
        have hmid : ((x :: (parts m ++ [0, y])).drop 1).take ((parts m).length + 3 - 1 - 1) = parts m ++ [0] := by
          show (parts m ++ [0, y]).take _ = _
          rw [List.take_append]
          have h1 : (parts m).length + 3 - 1 - 1 - (parts m).length = 1 := by omega
          rw [h1, List.take_of_length_le (by omega)]
          rfl
        rw [hmid]
        have r1 := rd_tail hbT hys
        have r2 : Rd (32 :: (ys ++ [125])) (0 :: b) := .blank r1
        have r3 := rd_parts hm (show safe (32 :: (ys ++ [125])) = true from stop32) r2
        have r4 := rd_head ha hxs (safe_parts m _ (show safe (32 :: (ys ++ [125])) = true from stop32)) r3
        have e5 : 123 :: ((xs ++ (spL (parts m) ++ 32 :: ys)) ++ [125]) = 123 :: (xs ++ (spL (parts m) ++ 32 :: (ys ++ [125]))) := by simp
        have e6 : (some a).getD [] ++ (parts m ++ [0]) ++ (some b).getD [] = a ++ (parts m ++ 0 :: b) := by simp
        rw [e5, e6]
        exact r4
      · rw [if_neg hb, if_neg hb, ← e1, spelled_cps]
        exact rd_name hN
theorem rd_std {P N : List Int} {line : Int} (hP : ∀ n ∈ P, 7 ≤ n ∧ n ≤ 54) (hN : ∀ n ∈ N, 7 ≤ n ∧ n ≤ 54) :
    Rd (stdText (spelled (parted P)) line (spelled (parted N))).cps.toList (dueL (parted P) line (parted N)) := by
  unfold stdText dueL
  rw [tilde_iff hP]
  by_cases hc : parted P = [31] ∧ line = 0
  · have h1 : (decide (parted P = [31]) && line == 0) = true := by rw [hc.2, decide_eq_true hc.1]; rfl
    have h2 : ¬ ((decide (parted P ≠ [31]) || decide (line ≠ 0)) = true) := by rw [hc.2, hc.1]; decide
    rw [if_pos h1, if_neg h2]
    exact rd_builtin hN
  · have h1 : ¬ ((decide (parted P = [31]) && line == 0) = true) := by
      rw [Bool.and_eq_true, decide_eq_true_eq, beq_iff_eq]
      exact hc
    have h2 : (decide (parted P ≠ [31]) || decide (line ≠ 0)) = true := by
      rw [Bool.or_eq_true, decide_eq_true_eq, decide_eq_true_eq]
      by_cases hq : parted P = [31]
      · exact .inr fun e => hc ⟨hq, e⟩
      · exact .inl hq
    rw [if_neg h1, if_pos h2, std_cps, spelled_cps, spelled_cps, line_cps]
    have h := rd_full line hP hN
    simpa only [List.append_assoc, List.cons_append, List.nil_append] using h
end Mine
/-! Holds -/
namespace Mine
theorem news_cons {h₀ h : Heap} {L : Addr} {tl news : List (Addr × Obj)} {p : Addr × Obj} (N : News h₀ L h (tl ++ news)) (hp : p ∈ tl ++ news) : News h₀ L h (p :: news) := fun q hq => by
  rcases List.mem_cons.mp hq with rfl | hq
  · exact N _ hp
  · exact N _ (List.mem_append_right _ hq)
section
local macro_rules | `(tactic| walk_at "none of mine 1") => `(tactic| skip)
local macro_rules | `(tactic| walk_at "none of mine 2") => `(tactic| skip)
local macro_rules | `(tactic| walk_at "call ref") => `(tactic| (k_here; (with_reducible show wpAny _ _ (call (Value.ref 38) _) _ _ _); k_dflt (refine' con_use (f := 38) iseof_con ?k1 ?k2 ?k3 ?k4 ?k5 ?kK ?kd ?ku ?_; (case k1 => k_asm); (case k2 => k_asm); (case k3 => k_asm); (case k4 => k_asm); (case k5 => k_asm); (case kK => exact rfl); (case kd => ktr_room); (case ku => ktr_units)); intro r9 tl9 h9 tk9 F9 N9 hl9 ho9; clear hl9; obtain ⟨e1, e2⟩ := ho9; subst e1; subst e2; (try simp only [List.nil_append] at N9); (try dsimp only)))
local macro_rules | `(tactic| walk_at "call ref") => `(tactic| (k_here; (with_reducible show wpAny _ _ (call (Value.ref 21) _) _ _ _); k_dflt (refine' con_use (f := 21) (name_con ?c1) ?k1 ?k2 ?k3 ?k4 ?k5 ?kK ?kd ?ku ?_; (case k1 => k_asm); (case k2 => k_asm); (case k3 => k_asm); (case k4 => k_asm); (case k5 => k_asm); (case kK => exact rfl); (case c1 => k_mem); (case kd => ktr_room); (case ku => ktr_units)); intro r9 tl9 h9 tk9 F9 N9 hl9 ho9; clear hl9; obtain ⟨e1, e2⟩ := ho9; subst e1; subst e2; (try simp only [List.nil_append] at N9); (try dsimp only)))
local macro_rules | `(tactic| walk_at "call ref") => `(tactic| (k_here; (with_reducible show wpAny _ _ (call (Value.ref 43) _) _ _ _); k_dflt (refine' con_use (f := 43) (spelled_con ?c1 ?c2 ?c3 ?c4) ?k1 ?k2 ?k3 ?k4 ?k5 ?kK ?kd ?ku ?_; (case k1 => k_asm); (case k2 => k_asm); (case k3 => k_asm); (case k4 => k_asm); (case k5 => k_asm); (case kK => exact rfl); (case c1 => k_mem); (case c2 => with_reducible assumption); (case c3 => with_reducible assumption); (case c4 => with_reducible assumption); (case kd => ktr_room); (case ku => ktr_units)); intro r9 tl9 h9 tk9 F9 N9 hl9 ho9; clear hl9; obtain ⟨e1, t', e2⟩ := ho9; subst e1; subst e2; (try simp only [List.nil_append] at N9); (try dsimp only)))
local macro_rules | `(tactic| walk_at "call ref") => `(tactic| (k_here; (with_reducible show wpAny _ _ (call (Value.ref 28) _) _ _ _); k_dflt (refine' con_use (f := 28) (std_con ?c1 ?c2 ?c3 ?c4 ?c5 ?c6) ?k1 ?k2 ?k3 ?k4 ?k5 ?kK ?kd ?ku ?_; (case k1 => k_asm); (case k2 => k_asm); (case k3 => k_asm); (case k4 => k_asm); (case k5 => k_asm); (case kK => exact rfl); (case c1 => k_mem); (case c2 => with_reducible assumption); (case c3 => with_reducible assumption); (case c4 => with_reducible assumption); (case c5 => with_reducible assumption); (case c6 => with_reducible assumption); (case kd => ktr_room); (case ku => ktr_units)); intro r9 tl9 h9 tk9 F9 N9 hl9 ho9; clear hl9; obtain ⟨e1, t', e2⟩ := ho9; subst e1; subst e2; (try simp only [List.nil_append] at N9); (try dsimp only)))
local macro_rules | `(tactic| walk_at "call ref") => `(tactic| (k_here; (with_reducible show wpAny _ _ (call (Value.ref 57) _) _ _ _); k_dflt (refine' con_use (f := 57) (read_con ?c1 ?c2) ?k1 ?k2 ?k3 ?k4 ?k5 ?kK ?kd ?ku ?_; (case k1 => k_asm); (case k2 => k_asm); (case k3 => k_asm); (case k4 => k_asm); (case k5 => k_asm); (case kK => exact rfl); (case c2 => with_reducible assumption); (case c1 => with_reducible assumption); (case kd => ktr_room); (case ku => ktr_units)); intro r9 tl9 h9 tk9 F9 N9 hl9 ho9; clear hl9; obtain ⟨l', ws', n', e1, e2, hI'⟩ := ho9; subst e1; subst e2; (try simp only [List.cons_append, List.nil_append] at N9); (try dsimp only)))
local macro_rules | `(tactic| walk_at "call ref") => `(tactic| (k_here; (with_reducible show wpAny _ _ (call (Value.ref 71) _) _ _ _); k_dflt (refine' con_use (f := 71) (due_con ?c1 ?c2 ?c3 ?c4 ?c5 ?c6 ?c7 ?c8 ?c9) ?k1 ?k2 ?k3 ?k4 ?k5 ?kK ?kd ?ku ?_; (case k1 => k_asm); (case k2 => k_asm); (case k3 => k_asm); (case k4 => k_asm); (case k5 => k_asm); (case kK => exact rfl); (case c1 => k_mem); (case c2 => k_mem); (case c3 => with_reducible assumption); (case c4 => with_reducible assumption); (case c5 => with_reducible assumption); (case c6 => with_reducible assumption); (case c7 => with_reducible assumption); (case c8 => with_reducible assumption); (case c9 => with_reducible assumption); (case kd => ktr_room); (case ku => ktr_units)); intro r9 tl9 h9 tk9 F9 N9 hl9 ho9; clear hl9; obtain ⟨l', ws', n', e1, e2, hI'⟩ := ho9; subst e2; have N8 := news_cons N9 e1; clear N9; (try dsimp only)))
local macro_rules | `(tactic| walk_at "compareOp NotEq ref ref") => `(tactic| (k_here; k_dflt (refine' ke_ne_ints ?k1 ?k2 ?k3 ?k4 ?k5 ?_; (case k1 => is_list); (case k2 => is_list); (case k3 => with_reducible assumption); (case k4 => with_reducible assumption); (case k5 => ktr_units))))
local macro_rules | `(tactic| walk_at "compareOp Eq ref ref") => `(tactic| (k_here; k_dflt (refine' ke_eq_ints ?k1 ?k2 ?k3 ?k4 ?k5 ?_; (case k1 => is_list); (case k2 => is_list); (case k3 => with_reducible assumption); (case k4 => with_reducible assumption); (case k5 => ktr_units))))
theorem holds_con {w : World} {mean : ExcName → Option Value} {mg mb : Str → Option Value} {news : List (Addr × Obj)} {lp ln : Addr} {vp vn : List Value} {place name : List Int} {n1 n2 : Nat} {line : Int} {t : Tok}
  (hp : (lp, listOf vp.toArray n1) ∈ news) (hn : (ln, listOf vn.toArray n2) ∈ news) (hIp : IntsAre vp place) (hIn : IntsAre vn name) (hlp : place.length ≤ 100) (hln : name.length ≤ 100) (h1 : -100000 ≤ line) (h2 : line ≤ 100000) (hfl : (figL line.natAbs).length ≤ 1000)
  (hcp : ∀ n ∈ place, n = 0 ∨ (7 ≤ n ∧ n ≤ 54)) (hcn : ∀ n ∈ name, n = 0 ∨ (7 ≤ n ∧ n ≤ 54)) (hok : PyData.strOk (spelled place) = true) (hlsp : (spelled place).length ≤ 300) (hlsn : (spelled name).length ≤ 300) (hlsn2 : (spelled name).length ≤ 1000)
  (hstl : (stdText (spelled place) line (spelled name)).length ≤ 1000) (hR1 : Rd (stdText (spelled place) line (spelled name)).cps.toList (dueL place line name)) (hR2 : Rd (spelled name).cps.toList name) :
  Con w mean mg mb 78 5 400 news [.ref lp, .int line t, .ref ln] (fun tl r => tl = [] ∧ r = .bool true) := by
  unfold Con
  w_on
  k_with_none
  k_fill
  intro dp un gd cn cs a ccd cl outer A₀ base h₀ L m s Q E B F X N T hk hd hu hret
  w_strict (
   refine wpAny_call ?_
   k_dflt ktr_enter
   rename News _ _ _ _ => N1
   have N2 := news_two N1 hp hn
   clear N1
   k_steps)
  · rename ((decide (line = 0) != (line == 0)) = true) => hA
    have hx : (decide (line = 0) != (line == 0)) = false := by
      have : (line == 0) = decide (line = 0) := rfl
      rw [this]; simp
    exact two_ways hA hx
  · rename News _ _ _ _ => N9
    rename Fr _ _ _ _ => F9
    exact hret _ [] _ _ F9 (fun p hp => N9 p (by repeat (first | exact hp | refine List.mem_cons_of_mem _ ?_))) (fun _ _ _ h => nomatch h) ⟨rfl, by rw [decide_eq_true rfl]⟩
  · rename (¬ dueL place line name = dueL place line name) => hA
    exact absurd rfl hA
end
end Mine
/-! HoldsOps -/
namespace Mine
theorem figL_pow : ∀ (k n : Nat), n < 10 ^ (k + 1) → (figL n).length ≤ k + 1
  | 0, n, h => by
    rw [figL, if_pos (by simpa using h)]
    simp
  | k + 1, n, h => by
    rw [figL]
    split
    · simp
    · have h1 : n / 10 < 10 ^ (k + 1) := by
        rw [Nat.pow_succ] at h
        omega
      have := figL_pow k (n / 10) h1
      rw [List.length_append]
      simp only [List.length_cons, List.length_nil]
      omega
theorem figN_pow : ∀ (k n : Nat), n < 10 ^ (k + 1) → (figN n).length ≤ k + 1
  | 0, n, h => by
    unfold figN
    rw [Nat.toDigits_of_lt_base (by simpa using h)]
    simp
  | k + 1, n, h => by
    unfold figN
    by_cases hn : n < 10
    · rw [Nat.toDigits_of_lt_base hn]
      simp
    · rw [Nat.toDigits_of_base_le (by decide) (by omega)]
      have h1 : n / 10 < 10 ^ (k + 1) := by
        rw [Nat.pow_succ] at h
        omega
      have := figN_pow k (n / 10) h1
      unfold figN at this
      rw [List.map_append, List.length_append]
      simp only [List.map_cons, List.map_nil, List.length_cons, List.length_nil]
      omega
theorem str_len (x : Str) : x.length = x.cps.toList.length := by simp [Str.length]
theorem sp1_len (n : Int) : (sp1 n).length ≤ 3 := by
  have := spell1_len n
  rw [str_len, spell1_cps] at this
  exact this
theorem spL_len (ns : List Int) : (spL ns).length ≤ 3 * ns.length := by
  unfold spL
  induction ns with
  | nil => simp
  | cons n r ih =>
    have := sp1_len n
    rw [List.flatMap_cons, List.length_append, List.length_cons]
    omega
theorem sp1_small (n : Int) : ∀ c ∈ sp1 n, c < 128 := by
  unfold sp1
  split
  · decide
  · rw [List.getD_eq_getElem?_getD]
    have hall : (sgs.all fun g => g.all fun c => decide (c < 128)) = true := by decide +kernel
    cases h : sgs[(n - 7).toNat]? with
    | none => intro c hc; simp at hc
    | some g =>
      intro c hc
      have := List.all_eq_true.mp (List.all_eq_true.mp hall g (List.mem_of_getElem? h)) c hc
      simpa using this
theorem spelled_ok (ns : List Int) : PyData.strOk (spelled ns) = true := by
  unfold PyData.strOk
  rw [← Array.all_toList, spelled_cps, List.all_eq_true]
  intro c hc
  obtain ⟨n, _, hn⟩ := List.mem_flatMap.mp hc
  have := sp1_small n c hn
  rw [decide_eq_true_eq]
  omega
theorem parted_len (P : List Int) : (parted P).length ≤ 2 * P.length := by
  unfold parted
  rw [List.length_drop, parts_len]
  omega
theorem parted_mem {P : List Int} (hP : ∀ n ∈ P, 7 ≤ n ∧ n ≤ 54) : ∀ n ∈ parted P, n = 0 ∨ (7 ≤ n ∧ n ≤ 54) := by
  intro n hn
  have h1 : n ∈ parts P := List.mem_of_mem_drop hn
  obtain ⟨m, hm, h2⟩ := List.mem_flatMap.mp h1
  rcases List.mem_cons.mp h2 with rfl | h2
  · exact .inl rfl
  · rw [List.mem_singleton.mp h2]
    exact .inr (hP m hm)
theorem line_len {line : Int} (h1 : -100000 ≤ line) (h2 : line ≤ 100000) : (lineText line).length ≤ 7 := by
  rw [str_len, line_cps, List.length_append]
  have := figN_pow 5 line.natAbs (by omega)
  split <;> simp <;> omega
theorem std_len {p n : Str} {line : Int} (hp : p.length ≤ 300) (hn : n.length ≤ 300) (h1 : -100000 ≤ line) (h2 : line ≤ 100000) : (stdText p line n).length ≤ 1000 := by
  have hl := line_len h1 h2
  have a1 : (Str.ofString ":").length = 1 := by decide +kernel
  have a2 : (Str.ofString "(").length = 1 := by decide +kernel
  have a3 : (Str.ofString ")").length = 1 := by decide +kernel
  have a4 : (Str.ofString "{").length = 1 := by decide +kernel
  have a5 : (Str.ofString "}").length = 1 := by decide +kernel
  have a6 := Txt.slice_le n (some 1) (some (-1))
  unfold stdText
  split
  · split
    · rw [Str.length_append, Str.length_append]; omega
    · omega
  · simp only [Str.length_append]; omega
theorem holds_ops {w : World} {mean : ExcName → Option Value} {mg mb : Str → Option Value} {news : List (Addr × Obj)} {lp ln : Addr} {vp vn : List Value} {P N : List Int} {n1 n2 : Nat} {line : Int} {t : Tok}
  (hp : (lp, listOf vp.toArray n1) ∈ news) (hn : (ln, listOf vn.toArray n2) ∈ news) (hIp : IntsAre vp (parted P)) (hIn : IntsAre vn (parted N)) (hlp : P.length ≤ 20) (hln : N.length ≤ 20) (h1 : -100000 ≤ line) (h2 : line ≤ 100000)
  (hcp : ∀ n ∈ P, 7 ≤ n ∧ n ≤ 54) (hcn : ∀ n ∈ N, 7 ≤ n ∧ n ≤ 54) :
  Con w mean mg mb 78 5 400 news [.ref lp, .int line t, .ref ln] (fun tl r => tl = [] ∧ r = .bool true) := by
  have a1 := parted_len P
  have a2 := parted_len N
  have a3 := spL_len (parted P)
  have a4 := spL_len (parted N)
  have b1 : (spelled (parted P)).length ≤ 300 := by rw [str_len, spelled_cps]; omega
  have b2 : (spelled (parted N)).length ≤ 300 := by rw [str_len, spelled_cps]; omega
  have b3 := figL_pow 5 line.natAbs (by omega)
  exact holds_con hp hn hIp hIn (by omega) (by omega) h1 h2 (by omega) (parted_mem hcp) (parted_mem hcn) (spelled_ok _) b1 b2 (by omega) (std_len b1 b2 h1 h2) (rd_std hcp hcn) (by rw [spelled_cps]; exact rd_name hcn)
theorem holds_31 {w : World} {mean : ExcName → Option Value} {mg mb : Str → Option Value} {news : List (Addr × Obj)} {lp ln : Addr} {vn : List Value} {N : List Int} {n1 n2 : Nat} {t u : Tok}
  (hp : (lp, listOf #[.int 31 u] n1) ∈ news) (hn : (ln, listOf vn.toArray n2) ∈ news) (hIn : IntsAre vn (parted N)) (hln : N.length ≤ 20) (hcn : ∀ n ∈ N, 7 ≤ n ∧ n ≤ 54) :
  Con w mean mg mb 78 5 400 news [.ref lp, .int 0 t, .ref ln] (fun tl r => tl = [] ∧ r = .bool true) :=
  holds_ops (vp := [.int 31 u]) (P := [31]) hp hn (.cons _ _ .nil) hIn (by decide) hln (by decide) (by decide) (by decide) hcn
end Mine
/-! Law -/
namespace Mine
section
variable {prog : Program} {w : World} {A : Around} {E : Value → Shared → Prop} {s : Shared} {h₀ : Heap} {L : Addr} {news base : List (Addr × Obj)}
theorem item_menu {value slice : PySem.Expr} {l : Addr} {its : Array Value} {n0 : Nat} {k : Int} {u : Tok} {Q : Value → Shared → Prop} (menu : List (List Int)) (N : News h₀ L s.heap news) (hm : (l, listOf its n0) ∈ news) (h0 : 0 ≤ k) (hk : k < menu.length) (hlen : menu.length ≤ 100)
    (hok : ∀ f ∈ menu, f.length ≤ 6 ∧ ∀ v ∈ f, 7 ≤ v ∧ v ≤ 54)
    (hall : ∀ j : Nat, j < menu.length → ∃ a ws n, its[j]? = some (.ref a) ∧ (a, listOf (List.toArray ws) n) ∈ news ∧ IntsAre ws (menu.getD j [])) (hsub : ∀ p ∈ base, p ∈ news)
    (h : ∀ a ws n fs, News h₀ L s.heap ((a, listOf (List.toArray ws) n) :: base) → IntsAre ws fs → fs.length ≤ 6 → (∀ v ∈ fs, 7 ≤ v ∧ v ≤ 54) → Q (.ref a) s)
    (hs : subscripted slice false (.ref l) (.int k u) = operate [.ref l, .int k u] (getItem (.ref l) (.int k u)) := by with_unfolding_all rfl) :
    wpAny (model prog w) A (subscriptTail value slice (.ref l) (.int k u)) Q E s := by
  obtain ⟨a, ws, n, e1, e2, e3⟩ := hall k.toNat (by omega)
  have hf : menu.getD k.toNat [] ∈ menu := by
    have hlt : k.toNat < menu.length := by omega
    rw [List.getD_eq_getElem?_getD, List.getElem?_eq_getElem hlt]
    exact List.getElem_mem hlt
  refine item_news N hm h0 (by omega) e1 (h a ws n _ (fun p hp => ?_) e3 (hok _ hf).1 (hok _ hf).2) hs
  rcases List.mem_cons.mp hp with rfl | hp
  · exact N _ e2
  · exact N _ (hsub _ hp)
theorem item_line {value slice : PySem.Expr} {l : Addr} {e k : Int} {t0 t1 t2 t3 u : Tok} {n0 : Nat} {Q : Value → Shared → Prop} (N : News h₀ L s.heap news) (hm : (l, listOf #[.int 0 t0, .int (-1) t1, .int 7 t2, .int e t3] n0) ∈ news) (h0 : 0 ≤ k) (hk : k < 4) (he : -100000 ≤ e ∧ e ≤ 100000)
    (h : ∀ v t, -100000 ≤ v → v ≤ 100000 → Q (.int v t) s)
    (hs : subscripted slice false (.ref l) (.int k u) = operate [.ref l, .int k u] (getItem (.ref l) (.int k u)) := by with_unfolding_all rfl) :
    wpAny (model prog w) A (subscriptTail value slice (.ref l) (.int k u)) Q E s := by
  obtain ⟨j, rfl⟩ : ∃ j : Nat, k = j := ⟨k.toNat, by omega⟩
  have hj : j < 4 := by omega
  match j, hj with
  | 0, _ => exact item_news N hm (by decide) (by decide) rfl (h _ _ (by decide) (by decide)) hs
  | 1, _ => exact item_news N hm (by decide) (by decide) rfl (h _ _ (by decide) (by decide)) hs
  | 2, _ => exact item_news N hm (by decide) (by decide) rfl (h _ _ (by decide) (by decide)) hs
  | 3, _ => exact item_news N hm (by decide) (by decide) rfl (h _ _ he.1 he.2) hs
end
section
local macro_rules | `(tactic| walk_at "subscriptTail Name Slice ref ref") => `(tactic| (k_here; (with_reducible show wpAny _ _ (subscriptTail _ (PySem.Expr.Slice (some _) none none _) (Value.ref _) (Value.ref _)) _ _ _); k_dflt (refine' kmk_slice_ints ?F ?N ?l ?p ?q ?i ?m ?c ?_ ?s ?t ?z; (case F => k_asm); (case N => k_asm); (case l => kmk_list); (case p => kmk_part); (case q => kmk_part); (case i => with_reducible assumption); (case m => exact kmk_from (by with_reducible assumption) (fmod_lo _ (by decide))); (case c => exact List.length_drop ..); (case s => with_unfolding_all rfl); (case t => kmk_pure); (case z => kmk_size)); intro D' ws' h' F' N' l1 hI' hC' hL'; (try k_lt l1); (try k_sweep)))
local macro_rules | `(tactic| walk_at "exec For") => `(tactic| (refine Stop.mk' ?_))
local macro_rules | `(tactic| walk_at "call ref") => `(tactic| (k_here; (with_reducible show wpAny _ _ (call (Value.ref 50) _) _ _ _); k_dflt (refine' con_use (f := 50) (parted_con ?c1 ?c2 ?c3) ?k1 ?k2 ?k3 ?k4 ?k5 ?kK ?kd ?ku ?_; (case k1 => k_asm); (case k2 => k_asm); (case k3 => k_asm); (case k4 => k_asm); (case k5 => k_asm); (case kK => exact rfl); (case c1 => k_mem); (case c2 => with_reducible assumption); (case c3 => ((try simp only [List.length_append, List.length_drop]); omega)); (case kd => ktr_room); (case ku => ktr_units)); intro r9 tl9 h9 tk9 F9 N9 hl9 ho9; clear hl9; obtain ⟨l', ws', n', e1, e2, hI'⟩ := ho9; subst e1; subst e2; (try simp only [List.cons_append, List.nil_append] at N9); (try dsimp only)))
local macro_rules | `(tactic| walk_at "call ref") => `(tactic| (k_here; (with_reducible show wpAny _ _ (call (Value.ref 78) _) _ _ _); k_dflt (refine' con_use (f := 78) (holds_ops ?c1 ?c2 ?c3 ?c4 ?c5 ?c6 ?c7 ?c8 ?c9 ?c0) ?k1 ?k2 ?k3 ?k4 ?k5 ?kK ?kd ?ku ?_; (case k1 => k_asm); (case k2 => k_asm); (case k3 => k_asm); (case k4 => k_asm); (case k5 => k_asm); (case kK => exact rfl); (case c1 => k_mem); (case c2 => k_mem); (case c3 => with_reducible assumption); (case c4 => with_reducible assumption); (case c5 => omega); (case c6 => ((try simp only [List.length_append, List.length_drop]); omega)); (case c7 => assumption); (case c8 => assumption); (case c9 => assumption); (case c0 => assumption); (case kd => ktr_room); (case ku => ktr_units)); intro r9 tl9 h9 tk9 F9 N9 hl9 ho9; clear hl9; obtain ⟨e1, e2⟩ := ho9; subst e1; subst e2; (try simp only [List.nil_append] at N9); (try dsimp only)))
local macro_rules | `(tactic| walk_at "call ref") => `(tactic| (k_here; (with_reducible show wpAny _ _ (call (Value.ref 78) _) _ _ _); k_dflt (refine' con_use (f := 78) (holds_31 ?c1 ?c2 ?c4 ?c6 ?c0) ?k1 ?k2 ?k3 ?k4 ?k5 ?kK ?kd ?ku ?_; (case k1 => k_asm); (case k2 => k_asm); (case k3 => k_asm); (case k4 => k_asm); (case k5 => k_asm); (case kK => exact rfl); (case c1 => k_mem); (case c2 => k_mem); (case c4 => with_reducible assumption); (case c6 => ((try simp only [List.length_append, List.length_drop]); omega)); (case c0 => assumption); (case kd => ktr_room); (case ku => ktr_units)); intro r9 tl9 h9 tk9 F9 N9 hl9 ho9; clear hl9; obtain ⟨e1, e2⟩ := ho9; subst e1; subst e2; (try simp only [List.nil_append] at N9); (try dsimp only)))
theorem row_ok {vs : List Value} {sc : List Int} (h : IntsAre vs (List.map (fun k' => 7 + k'.fmod 48) (List.take 6 sc))) : ∃ R, IntsAre vs R ∧ R.length ≤ 6 ∧ ∀ v ∈ R, 7 ≤ v ∧ v ≤ 54 := by
  refine ⟨_, h, ?_, fun v hv => ?_⟩
  · rw [List.length_map, List.length_take]; omega
  · obtain ⟨y, _, rfl⟩ := List.mem_map.mp hv
    have h1 := fmod_lo y (show (0 : Int) < 48 by decide)
    have h2 := fmod_hi y (show (0 : Int) < 48 by decide)
    omega
theorem ops_three {fs R ls : List Int} {k : Nat} (h1 : ∀ v ∈ fs, 7 ≤ v ∧ v ≤ 54) (h2 : ∀ v ∈ R, 7 ≤ v ∧ v ≤ 54) (h3 : ∀ v ∈ ls, 7 ≤ v ∧ v ≤ 54) : ∀ v ∈ fs ++ List.drop k R ++ ls, 7 ≤ v ∧ v ≤ 54 := by
  intro v hv
  rcases List.mem_append.mp hv with hv | hv
  · rcases List.mem_append.mp hv with hv | hv
    · exact h1 v hv
    · exact h2 v (List.mem_of_mem_drop hv)
  · exact h3 v hv
theorem menu_row {R : List Int} (h6 : R.length ≤ 6) (h7 : ∀ v ∈ R, 7 ≤ v ∧ v ≤ 54) : ∀ f ∈ [[31], [], [31, 31], R], f.length ≤ 6 ∧ ∀ v ∈ f, 7 ≤ v ∧ v ≤ 54 := by
  intro f hf
  simp only [List.mem_cons, List.not_mem_nil, or_false] at hf
  rcases hf with rfl | rfl | rfl | rfl
  · decide
  · decide
  · decide
  · exact ⟨h6, h7⟩
theorem line_ok (n : Int) : -100000 ≤ (n.fdiv 16).fmod 100000 - 50000 ∧ (n.fdiv 16).fmod 100000 - 50000 ≤ 100000 := by
  have h1 := fmod_lo (n.fdiv 16) (show (0 : Int) < 100000 by decide)
  have h2 := fmod_hi (n.fdiv 16) (show (0 : Int) < 100000 by decide)
  omega
def LawJ (row : Addr) (_ : Nat) (m : Str → Option Value) (pre : List (Addr × Obj)) : Prop := pre = [] ∧ m (Str.ofString "row") = some (.ref row)
theorem law_holds : PySem.Challenge.rw_mr0167_01.Holds := Mine.hd (by
  w_on
  k_with_none
  k_with "subscriptTail List cons BinOp ref int" => (refine Stop.mk' ?_)
  w_strict (k_go0; (all_goals try k_fold); k_steps)
  refine Stop.mk ?_
  rename News _ _ _ _ => N1
  rename Fr _ _ _ _ => F1
  refine For_free F1 ?hx ?hp ?_ ?hs ?hE
  case hx => rfl
  case hp => rfl
  case hs => intro _; rfl
  case hE => first | passes_own | with_unfolding_all passes_own
  k_with "pyIter ref" => (refine Stop.mk' ?_)
  w_strict (k_steps)
  refine Stop.mk ?_
  rename News _ _ _ _ => N1
  rename Fr _ _ _ _ => F1
  rename IntsAre _ (_ ++ _) => hX
  rename IntsAre _ (List.map _ _) => hRow
  obtain ⟨R, hRow, hR6, hR7⟩ := row_ok hRow
  have N2 := cb_drop (news := [(_, listOf _ _), (_, listOf _ _)]) N1 (List.forall_mem_cons.mpr ⟨List.mem_cons_self, List.forall_mem_cons.mpr ⟨.tail _ (.tail _ (.tail _ (.head _))), fun _ h => nomatch h⟩⟩)
  clear N1
  refine iter_free (pre₀ := []) (LawJ _) ?hh List.mem_cons_self hX F1 N2 ⟨rfl, rfl⟩ ?_ ?_
  case hh => rfl
  · clear N2 F1
    rintro i n t1 m₁ pre h tk own hn ⟨rfl, e1⟩ F₁ N₁
    have F2 := fr1 F₁ e1
    have N3 := cb_drop (news := _ :: _ :: own) N₁ (fun p hp => by
      rw [List.nil_append]
      rcases List.mem_cons.mp hp with rfl | hp
      · exact List.mem_append_right _ List.mem_cons_self
      · rcases List.mem_cons.mp hp with rfl | hp
        · exact List.mem_append_right _ (.tail _ (.head _))
        · exact List.mem_append_left _ hp)
    clear F₁ N₁
    w_strict ((all_goals try k_fold); k_steps)
    refine Stop.mk ?_
    rename News _ _ _ _ => N4
    with_unfolding_all refine item_menu [[20], [29], [33], [44], [25], []] N4 List.mem_cons_self (fmod_lo _ (by decide)) (fmod_hi _ (by decide)) (by decide) (by decide) ?_ (fun p hp => .tail _ (.tail _ (.tail _ (.tail _ (.tail _ (.tail _ (.tail _ hp))))))) ?_
    · intro j hj
      match j, hj with
      | 0, _ => exact ⟨_, [_], _, rfl, by k_mem, .cons _ _ .nil⟩
      | 1, _ => exact ⟨_, [_], _, rfl, by k_mem, .cons _ _ .nil⟩
      | 2, _ => exact ⟨_, [_], _, rfl, by k_mem, .cons _ _ .nil⟩
      | 3, _ => exact ⟨_, [_], _, rfl, by k_mem, .cons _ _ .nil⟩
      | 4, _ => exact ⟨_, [_], _, rfl, by k_mem, .cons _ _ .nil⟩
      | 5, _ => exact ⟨_, [], _, rfl, by k_mem, .nil⟩
    intro aF wF nF fs N5 hIF hF6 hF7
    clear N4
    w_strict ((all_goals try k_fold); k_steps)
    refine Stop.mk ?_
    rename News _ _ _ _ => N4
    with_unfolding_all refine item_menu [[21], [34], [51], [26], [22], []] N4 List.mem_cons_self (fmod_lo _ (by decide)) (fmod_hi _ (by decide)) (by decide) (by decide) ?_ (fun p hp => .tail _ (.tail _ (.tail _ (.tail _ (.tail _ (.tail _ (.tail _ hp))))))) ?_
    · intro j hj
      match j, hj with
      | 0, _ => exact ⟨_, [_], _, rfl, by k_mem, .cons _ _ .nil⟩
      | 1, _ => exact ⟨_, [_], _, rfl, by k_mem, .cons _ _ .nil⟩
      | 2, _ => exact ⟨_, [_], _, rfl, by k_mem, .cons _ _ .nil⟩
      | 3, _ => exact ⟨_, [_], _, rfl, by k_mem, .cons _ _ .nil⟩
      | 4, _ => exact ⟨_, [_], _, rfl, by k_mem, .cons _ _ .nil⟩
      | 5, _ => exact ⟨_, [], _, rfl, by k_mem, .nil⟩
    intro aL wL nL ls N6 hIL hL6 hL7
    clear N4
    w_strict ((all_goals try k_fold); k_steps)
    refine Stop.mk ?_
    rename News _ _ _ _ => N4
    rename IntsAre _ (parted _) => hIN
    have hcn := ops_three (k := ((n.fdiv 576).fmod 7).toNat) hF7 hR7 hL7
    with_unfolding_all refine item_menu [[31], [], [31, 31], R] N4 List.mem_cons_self (fmod_lo _ (by decide)) (fmod_hi _ (by decide)) (Nat.le_of_ble_eq_true rfl) (menu_row hR6 hR7) ?_ (fun p hp => .tail _ (.tail _ (.tail _ (.tail _ hp)))) ?_
    · intro j hj
      match j, hj with
      | 0, _ => exact ⟨_, [_], _, rfl, by k_mem, .cons _ _ .nil⟩
      | 1, _ => exact ⟨_, [], _, rfl, by k_mem, .nil⟩
      | 2, _ => exact ⟨_, [_, _], _, rfl, by k_mem, .cons _ _ (.cons _ _ .nil)⟩
      | 3, _ => exact ⟨_, _, _, rfl, by k_mem, hRow⟩
    intro aP wP nP ps N7 hIP hP6 hP7
    clear N4
    w_strict ((all_goals try k_fold); k_steps)
    refine Stop.mk ?_
    rename News _ _ _ _ => N4
    with_unfolding_all refine item_line N4 List.mem_cons_self (fmod_lo _ (by decide)) (fmod_hi _ (by decide)) (line_ok n) ?_
    intro ln tl hl1 hl2
    w_strict ((all_goals try k_fold); k_steps)
    rename News _ _ _ _ => N9
    rename Fr _ _ _ _ => F9
    refine ⟨_, _, _, [], rfl, F9, fun p hp => N9 p ?_, (fun _ _ _ h => nomatch h), rfl, rfl⟩
    rw [List.nil_append] at hp
    rcases List.mem_append.mp hp with hp | hp
    · repeat (first | exact hp | refine List.mem_cons_of_mem _ ?_)
    · rcases List.mem_cons.mp hp with rfl | hp
      · k_mem
      · rw [List.mem_singleton.mp hp]
        k_mem
  · clear N2 F1
    rintro m₁ pre h tk ⟨rfl, e1⟩ F₁ N₁
    w_strict (k_steps))
end
end Mine
theorem PySem.Challenge.cw_mr0167_01_holds : PySem.Challenge.rw_mr0167_01.Holds :=
  Mine.law_holds
