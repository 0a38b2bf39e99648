import PyProof.Rows.All
import Wide.All
import OpenK.AllK
import Wide.FinOn
import Lean
import PySem.Challenge.RW_bm0033_01
open PySem PySem.W PyProof.Rows PySem.Calls
set_option Elab.async false
namespace Mine
-- BmHead
section
set_option maxRecDepth 100000 in
set_option maxHeartbeats 8000000 in
open_top hd for PySem.Challenge.rw_bm0033_01

end
theorem top_off : True := by
  w_top off
  trivial
-- BmPlain
section

def b2i (b : Bool) : Int := if b then 1 else 0
/-- the law's own number of a row of bits. -/
def bnum (bs : List Bool) : Int := bs.foldl (fun n b => 2 * n + b2i b) 0
/-- what put writes: w bits of x, the highest first. -/
def bitAt (x : Int) (k : Nat) : Bool := decide ((x.fdiv (2 ^ k)).fmod 2 = 1)
def bitsOf (x : Int) (w : Nat) : List Bool := (List.range w).map fun i => bitAt x (w - 1 - i)

theorem bitsOf_length (x : Int) (w : Nat) : (bitsOf x w).length = w := by simp [bitsOf]

/-- the octet of eight bits from place 8 * q on, the missing ones false. -/
def octet (B : List Bool) (q : Nat) : Int :=
  128 * b2i (B.getD (8 * q) false) + 64 * b2i (B.getD (8 * q + 1) false) + 32 * b2i (B.getD (8 * q + 2) false) + 16 * b2i (B.getD (8 * q + 3) false) +
  8 * b2i (B.getD (8 * q + 4) false) + 4 * b2i (B.getD (8 * q + 5) false) + 2 * b2i (B.getD (8 * q + 6) false) + b2i (B.getD (8 * q + 7) false)
def packN (B : List Bool) : Nat := (B.length + 7) / 8
def pack (B : List Bool) : List Int := (List.range (packN B)).map (octet B)

theorem pack_length (B : List Bool) : (pack B).length = (B.length + 7) / 8 := by simp [pack, packN]

theorem getD_snoc (B : List Bool) (b : Bool) (j : Nat) : (B ++ [b]).getD j false = if j = B.length then b else B.getD j false := by
  rw [List.getD_eq_getElem?_getD, List.getD_eq_getElem?_getD]
  by_cases h : j = B.length
  · subst h; simp
  · rw [if_neg h]
    by_cases h1 : j < B.length
    · rw [List.getElem?_append_left h1]
    · rw [List.getElem?_eq_none (by simp; omega), List.getElem?_eq_none (by omega)]

theorem getD_past (B : List Bool) (j : Nat) (h : B.length ≤ j) : B.getD j false = false := by
  rw [List.getD_eq_getElem?_getD, List.getElem?_eq_none h]; rfl

theorem octet_snoc_other (B : List Bool) (b : Bool) (q : Nat) (h : q ≠ B.length / 8) : octet (B ++ [b]) q = octet B q := by
  unfold octet
  simp only [getD_snoc]
  rw [if_neg (by omega), if_neg (by omega), if_neg (by omega), if_neg (by omega), if_neg (by omega), if_neg (by omega), if_neg (by omega), if_neg (by omega)]

theorem octet_snoc_here (B : List Bool) (b : Bool) : octet (B ++ [b]) (B.length / 8) = octet B (B.length / 8) + (if b then 2 ^ (7 - B.length % 8) else 0) := by
  have hr : B.length % 8 < 8 := Nat.mod_lt _ (by decide)
  have hB : B.length = 8 * (B.length / 8) + B.length % 8 := by omega
  generalize hq : B.length / 8 = q at *
  generalize hr' : B.length % 8 = r at *
  have hp : ∀ j, r ≤ j → B.getD (8 * q + j) false = false := fun j hj => getD_past _ _ (by omega)
  unfold octet
  simp only [getD_snoc, hB]
  have e (j : Nat) : (8 * q + j = 8 * q + r) ↔ j = r := by omega
  have e0 : (8 * q = 8 * q + r) ↔ 0 = r := by omega
  simp only [e, e0]
  have h0 : r = 0 → B.getD (8 * q) false = false := fun h => by have := hp 0 (by omega); simpa using this
  match r, hr, hp, h0 with
  | 0, _, hp, h0 => rw [h0 rfl, hp 1 (by omega), hp 2 (by omega), hp 3 (by omega), hp 4 (by omega), hp 5 (by omega), hp 6 (by omega), hp 7 (by omega)]; cases b <;> simp [b2i]
  | 1, _, hp, _ => rw [hp 1 (by omega), hp 2 (by omega), hp 3 (by omega), hp 4 (by omega), hp 5 (by omega), hp 6 (by omega), hp 7 (by omega)]; cases b <;> simp [b2i]
  | 2, _, hp, _ => rw [hp 2 (by omega), hp 3 (by omega), hp 4 (by omega), hp 5 (by omega), hp 6 (by omega), hp 7 (by omega)]; cases b <;> simp [b2i]
  | 3, _, hp, _ => rw [hp 3 (by omega), hp 4 (by omega), hp 5 (by omega), hp 6 (by omega), hp 7 (by omega)]; cases b <;> simp [b2i]
  | 4, _, hp, _ => rw [hp 4 (by omega), hp 5 (by omega), hp 6 (by omega), hp 7 (by omega)]; cases b <;> simp [b2i]
  | 5, _, hp, _ => rw [hp 5 (by omega), hp 6 (by omega), hp 7 (by omega)]; cases b <;> simp [b2i]
  | 6, _, hp, _ => rw [hp 6 (by omega), hp 7 (by omega)]; cases b <;> simp [b2i]
  | 7, _, hp, _ => rw [hp 7 (by omega)]; cases b <;> simp [b2i]

def oct8 (f : Nat → Bool) : Int := 128 * b2i (f 0) + 64 * b2i (f 1) + 32 * b2i (f 2) + 16 * b2i (f 3) + 8 * b2i (f 4) + 4 * b2i (f 5) + 2 * b2i (f 6) + b2i (f 7)
def octB (b0 b1 b2 b3 b4 b5 b6 b7 : Bool) : Int := 128 * b2i b0 + 64 * b2i b1 + 32 * b2i b2 + 16 * b2i b3 + 8 * b2i b4 + 4 * b2i b5 + 2 * b2i b6 + b2i b7
theorem or0 : Builtin.bitOr (octB false false false false false false false false) 128 = 128 := by decide
theorem or1 : ∀ b0, Builtin.bitOr (octB b0 false false false false false false false) 64 = octB b0 false false false false false false false + 64 := by decide +kernel
theorem or2 : ∀ b0 b1, Builtin.bitOr (octB b0 b1 false false false false false false) 32 = octB b0 b1 false false false false false false + 32 := by decide +kernel
theorem or3 : ∀ b0 b1 b2, Builtin.bitOr (octB b0 b1 b2 false false false false false) 16 = octB b0 b1 b2 false false false false false + 16 := by decide +kernel
theorem or4 : ∀ b0 b1 b2 b3, Builtin.bitOr (octB b0 b1 b2 b3 false false false false) 8 = octB b0 b1 b2 b3 false false false false + 8 := by decide +kernel
theorem or5 : ∀ b0 b1 b2 b3 b4, Builtin.bitOr (octB b0 b1 b2 b3 b4 false false false) 4 = octB b0 b1 b2 b3 b4 false false false + 4 := by decide +kernel
theorem or6 : ∀ b0 b1 b2 b3 b4 b5, Builtin.bitOr (octB b0 b1 b2 b3 b4 b5 false false) 2 = octB b0 b1 b2 b3 b4 b5 false false + 2 := by decide +kernel
theorem or7 : ∀ b0 b1 b2 b3 b4 b5 b6, Builtin.bitOr (octB b0 b1 b2 b3 b4 b5 b6 false) 1 = octB b0 b1 b2 b3 b4 b5 b6 false + 1 := by decide +kernel

/-- the row of 8 bits at q has nothing from len on, so or-ing the next bit adds it. -/
theorem octet_or (B : List Bool) (q r : Nat) (hB : B.length = 8 * q + r) (hr : r < 8) : Builtin.bitOr (octet B q) (Int.fdiv 128 (2 ^ r)) = octet B q + 2 ^ (7 - r) := by
  have hp : ∀ j, r ≤ j → B.getD (8 * q + j) false = false := fun j hj => getD_past _ _ (by omega)
  have hu : octet B q = octB (B.getD (8 * q) false) (B.getD (8 * q + 1) false) (B.getD (8 * q + 2) false) (B.getD (8 * q + 3) false) (B.getD (8 * q + 4) false) (B.getD (8 * q + 5) false) (B.getD (8 * q + 6) false) (B.getD (8 * q + 7) false) := rfl
  have h0 : r = 0 → B.getD (8 * q) false = false := fun h => by have := hp 0 (by omega); simpa using this
  rw [hu]
  match r, hr, hp, h0 with
  | 0, _, hp, h0 => rw [h0 rfl, hp 1 (by omega), hp 2 (by omega), hp 3 (by omega), hp 4 (by omega), hp 5 (by omega), hp 6 (by omega), hp 7 (by omega)]; exact or0
  | 1, _, hp, _ => rw [hp 1 (by omega), hp 2 (by omega), hp 3 (by omega), hp 4 (by omega), hp 5 (by omega), hp 6 (by omega), hp 7 (by omega)]; exact or1 _
  | 2, _, hp, _ => rw [hp 2 (by omega), hp 3 (by omega), hp 4 (by omega), hp 5 (by omega), hp 6 (by omega), hp 7 (by omega)]; exact or2 _ _
  | 3, _, hp, _ => rw [hp 3 (by omega), hp 4 (by omega), hp 5 (by omega), hp 6 (by omega), hp 7 (by omega)]; exact or3 _ _ _
  | 4, _, hp, _ => rw [hp 4 (by omega), hp 5 (by omega), hp 6 (by omega), hp 7 (by omega)]; exact or4 _ _ _ _
  | 5, _, hp, _ => rw [hp 5 (by omega), hp 6 (by omega), hp 7 (by omega)]; exact or5 _ _ _ _ _
  | 6, _, hp, _ => rw [hp 6 (by omega), hp 7 (by omega)]; exact or6 _ _ _ _ _ _
  | 7, _, hp, _ => rw [hp 7 (by omega)]; exact or7 _ _ _ _ _ _ _

theorem octet_fresh (B : List Bool) (h : B.length % 8 = 0) : octet B (B.length / 8) = 0 := by
  have hp : ∀ j, B.getD (8 * (B.length / 8) + j) false = false := fun j => getD_past _ _ (by omega)
  have h0 := hp 0
  unfold octet
  simp only [Nat.add_zero] at h0
  rw [h0, hp 1, hp 2, hp 3, hp 4, hp 5, hp 6, hp 7]; rfl

theorem pack_get (B : List Bool) (q : Nat) (h : q < (B.length + 7) / 8) : (pack B).getD q 0 = octet B q := by
  have h' : q < packN B := h
  rw [List.getD_eq_getElem?_getD, pack, List.getElem?_map, List.getElem?_range h']; rfl

theorem pack_snoc_false (B : List Bool) (h : B.length % 8 ≠ 0) : pack (B ++ [false]) = pack B := by
  unfold pack
  have e : packN (B ++ [false]) = packN B := by simp only [packN, List.length_append, List.length_cons, List.length_nil]; omega
  rw [e]
  refine List.map_congr_left fun q _ => ?_
  by_cases hq : q = B.length / 8
  · subst hq; rw [octet_snoc_here]; simp
  · exact octet_snoc_other _ _ _ hq

theorem pack_snoc_true (B : List Bool) (h : B.length % 8 ≠ 0) : pack (B ++ [true]) = (pack B).set (B.length / 8) (Builtin.bitOr ((pack B).getD (B.length / 8) 0) (Int.fdiv 128 (2 ^ (B.length % 8)))) := by
  have e : packN (B ++ [true]) = packN B := by simp only [packN, List.length_append, List.length_cons, List.length_nil]; omega
  have hlt : B.length / 8 < (B.length + 7) / 8 := by omega
  rw [pack_get _ _ hlt, octet_or B (B.length / 8) (B.length % 8) (by omega) (Nat.mod_lt _ (by decide))]
  refine List.ext_getElem? fun i => ?_
  rw [List.getElem?_set]
  simp only [pack, List.getElem?_map, e, List.length_map, List.length_range]
  by_cases hi : B.length / 8 = i
  · subst hi
    rw [if_pos rfl, if_pos (show B.length / 8 < packN B from hlt), List.getElem?_range (show B.length / 8 < packN B from hlt)]
    simp only [Option.map_some, octet_snoc_here]
    rfl
  · rw [if_neg hi]
    by_cases hi2 : i < packN B
    · rw [List.getElem?_range hi2]; simp only [Option.map_some]; rw [octet_snoc_other _ _ _ (fun h => hi h.symm)]
    · rw [List.getElem?_eq_none (by simpa using hi2)]; rfl

theorem pack_snoc_new (B : List Bool) (b : Bool) (h : B.length % 8 = 0) : pack (B ++ [b]) = pack B ++ [if b then 128 else 0] := by
  have e : packN (B ++ [b]) = packN B + 1 := by simp only [packN, List.length_append, List.length_cons, List.length_nil]; omega
  have e2 : packN B = B.length / 8 := by simp only [packN]; omega
  unfold pack
  rw [e, List.range_succ, List.map_append]
  congr 1
  · refine List.map_congr_left fun q hq => octet_snoc_other _ _ _ ?_
    have := List.mem_range.mp hq; omega
  · simp only [List.map_cons, List.map_nil, e2]
    rw [octet_snoc_here, octet_fresh B h, h]; cases b <;> rfl

theorem octet_bit0 : ∀ b0 b1 b2 b3 b4 b5 b6 b7, (octB b0 b1 b2 b3 b4 b5 b6 b7 / 128 % 2 = 1 ↔ b0 = true) ∧ (octB b0 b1 b2 b3 b4 b5 b6 b7 / 64 % 2 = 1 ↔ b1 = true) ∧ (octB b0 b1 b2 b3 b4 b5 b6 b7 / 32 % 2 = 1 ↔ b2 = true) ∧ (octB b0 b1 b2 b3 b4 b5 b6 b7 / 16 % 2 = 1 ↔ b3 = true) ∧
   (octB b0 b1 b2 b3 b4 b5 b6 b7 / 8 % 2 = 1 ↔ b4 = true) ∧ (octB b0 b1 b2 b3 b4 b5 b6 b7 / 4 % 2 = 1 ↔ b5 = true) ∧ (octB b0 b1 b2 b3 b4 b5 b6 b7 / 2 % 2 = 1 ↔ b6 = true) ∧ (octB b0 b1 b2 b3 b4 b5 b6 b7 / 1 % 2 = 1 ↔ b7 = true) := by decide +kernel

theorem octet_get (B : List Bool) (i : Nat) : (octet B (i / 8)) / (2 ^ (7 - i % 8)) % 2 = 1 ↔ B.getD i false = true := by
  have hu (q : Nat) : octet B q = octB (B.getD (8 * q) false) (B.getD (8 * q + 1) false) (B.getD (8 * q + 2) false) (B.getD (8 * q + 3) false) (B.getD (8 * q + 4) false) (B.getD (8 * q + 5) false) (B.getD (8 * q + 6) false) (B.getD (8 * q + 7) false) := rfl
  have hi : i = 8 * (i / 8) + i % 8 := by omega
  have hr : i % 8 < 8 := Nat.mod_lt _ (by decide)
  generalize i / 8 = q at *
  generalize i % 8 = r at *
  subst hi
  obtain ⟨h0, h1, h2, h3, h4, h5, h6, h7⟩ := octet_bit0 (B.getD (8 * q) false) (B.getD (8 * q + 1) false) (B.getD (8 * q + 2) false) (B.getD (8 * q + 3) false) (B.getD (8 * q + 4) false) (B.getD (8 * q + 5) false) (B.getD (8 * q + 6) false) (B.getD (8 * q + 7) false)
  rw [hu]
  match r, hr with
  | 0, _ => exact h0
  | 1, _ => exact h1
  | 2, _ => exact h2
  | 3, _ => exact h3
  | 4, _ => exact h4
  | 5, _ => exact h5
  | 6, _ => exact h6
  | 7, _ => exact h7

end
-- BmBase
section

/-- the frame a call is made from: no exception handled, dp deep, un C units. -/
abbrev At (dp un : Nat) (gd : Option (List Code)) (env : Env) (outer : List Env) : Around :=
  { handled := none, depth := dp, frames := some (env :: outer), guards := gd, units := un }

/-- a program without defs: the top's facts are said of it, for the record of one text is set aside. -/
noncomputable def p0 : Program := { hd.view_39 with main := { hd.view_39.main with body := [Stmt.ImportFrom (some (Str.ofString "sys")) [] none ⟨0, 0, 0, 0⟩] } }
noncomputable def loose0 : List Str := looseW hd.view_39 [Str.ofString "NUMBER_LENGTH"] ++ (recsOf hd.view_39).map (·.name) ++ (litsOf hd.view_39).map (·.1) ++ (clssOf hd.view_39 (looseW hd.view_39 [Str.ofString "NUMBER_LENGTH"])).map (·.name)
/-- what stands at a call. -/
structure Stand (w : World) (h00 : Heap) (mg mb : Str → Option Value) (env : Env) (outer : List Env) (A₀ : Around) (base h₀ : Heap) (L : Addr) (m : Str → Option Value) (h : Heap) : Prop where
  below : Below A₀ base outer h₀
  fr : Fr h₀ L h m
  kin : (hd.heap_39 w.params).In h₀
  top : Top p0 loose0 (ExcName.means h00) mg mb h₀
  frame : env.frame = some L
  kind : env.scope.kind = .function

/-- a call's contract: the ledger `own` goes in, `own'` comes out with Post; all else is kept. -/
def CallOk (w : World) (h00 : Heap) (mg mb : Str → Option Value) (dep uni : Nat) (c : Value) (args : List Value) (own : List (Addr × Obj)) (Post : Value → List (Addr × Obj) → Prop) : Prop :=
  ∀ dp un gd env outer A₀ base h₀ L m s (Q E : Value → Shared → Prop),
    Stand w h00 mg mb env outer A₀ base h₀ L m s.heap → News h₀ L s.heap own →
    dp + dep < recursionLimit → un + uni < cLine →
    (∀ r own' h' tk', Fr h₀ L h' m → News h₀ L h' own' → GSub s.heap h' (own.map (·.1)) → Post r own' → Q r { s with heap := h', toks := tk' }) →
    wpAny (model Challenge.rw_bm0033_01.row.prog w) (At dp un gd env outer) (call c args) Q E s

/-- a place where the walk is to stand still. -/
def Hold (P : Prop) : Prop := P
theorem Hold.out {P : Prop} (h : Hold P) : P := h
theorem Hold.mk {P : Prop} (h : P) : Hold P := h

/-- a BitBuffer in the ledger: the object x, its dict d, its list l. -/
abbrev bufDict (w : World) (t1 t2 : Nat) (l : Addr) (n : Int) (tn : Tok) : Obj :=
  dictOf [⟨PyData.keyHash w.params (Str.ofString "buffer"), .str (Str.ofString "buffer") t1, .ref l⟩, ⟨PyData.keyHash w.params (Str.ofString "length"), .str (Str.ofString "length") t2, .int n tn⟩] 2
abbrev bufLed (w : World) (x d l : Addr) (t1 t2 : Nat) (n : Int) (tn : Tok) (vs : List Value) (k : Nat) : List (Addr × Obj) :=
  [(x, instObj 122 d), (d, bufDict w t1 t2 l n tn), (l, listOf vs.toArray k)]

theorem callD {w : World} {h00 : Heap} {mg mb : Str → Option Value} {dep uni : Nat} {c : Value} {args : List Value} {own news : List (Addr × Obj)} {P : Value → List (Addr × Obj) → Prop}
    {dp un : Nat} {gd : Option (List Code)} {env : Env} {outer : List Env} {A₀ : Around} {base h₀ : Heap} {L : Addr} {m : Str → Option Value} {s : Shared} {Q E : Value → Shared → Prop}
    (C : CallOk w h00 mg mb dep uni c args own P) (B : Below A₀ base outer h₀) (F : Fr h₀ L s.heap m) (X : (hd.heap_39 w.params).In h₀) (T : Top p0 loose0 (ExcName.means h00) mg mb h₀)
    (hf : env.frame = some L) (hk : env.scope.kind = .function) (N : News h₀ L s.heap news) (hs : ∀ p ∈ own, p ∈ news) (hd : dp + dep < recursionLimit) (hu : un + uni < cLine)
    (ret : ∀ r own' h' tk', Fr h₀ L h' m → News h₀ L h' own' → GSub s.heap h' (own.map (·.1)) → P r own' → Q r { s with heap := h', toks := tk' }) :
    wpAny (model Challenge.rw_bm0033_01.row.prog w) (At dp un gd env outer) (call c args) Q E s :=
  C dp un gd env outer A₀ base h₀ L m s Q E ⟨B, F, X, T, hf, hk⟩ (fun p hp => N p (hs p hp)) hd hu ret

/-- what was in the ledger beside the call's own stands behind the call. -/
theorem news_rest {h₀ h h' : Heap} {L : Addr} {news : List (Addr × Obj)} {adr : List Addr} (N : News h₀ L h news) (G : GSub h h' adr) {p : Addr × Obj} (hp : p ∈ news) (ha : p.1 ∉ adr) : h'.get? p.1 = some p.2 ∧ p.1 ≠ L ∧ h₀.get? p.1 = none :=
  ⟨G _ _ (N p hp).1 ha, (N p hp).2⟩
theorem gsub_of {s h' g : Heap} {L' : Addr} {m' : Str → Option Value} {adr : List Addr} (G : GSub s g adr) (F : Fr g L' h' m') : GSub s h' adr := fun b o e n => F.keep b o (G b o e n)
theorem CallOk.mono {w : World} {h00 : Heap} {mg mb : Str → Option Value} {dep uni : Nat} {c : Value} {args : List Value} {own : List (Addr × Obj)} {P P' : Value → List (Addr × Obj) → Prop} (h : CallOk w h00 mg mb dep uni c args own P) (hp : ∀ r o, P r o → P' r o) :
    CallOk w h00 mg mb dep uni c args own P' := fun dp un gd env outer A₀ base h₀ L m s Q E st N h1 h2 ret => h dp un gd env outer A₀ base h₀ L m s Q E st N h1 h2 fun r own' h' tk' F' N' G p => ret r own' h' tk' F' N' G (hp r own' p)

theorem news_app {h₀ h h' : Heap} {L : Addr} {l1 l2 own : List (Addr × Obj)} {adr : List Addr} (N : News h₀ L h (l1 ++ own)) (N' : News h₀ L h' l2) (G : GSub h h' (l1.map (·.1))) (O : OwnOff own adr) (e : adr = l1.map (·.1) := by rfl) : News h₀ L h' (l2 ++ own) := by
  subst e
  intro p hp
  rcases List.mem_append.mp hp with hp | hp
  · exact N' p hp
  · exact news_rest N G (List.mem_append.mpr (.inr hp)) (fun hb => O p hp _ hb rfl)

section
variable {prog : Program} {w : World} {A₀ A : Around} {E : Value → Shared → Prop} {s : Shared} {base h₀ : Heap} {outer : List Env} {L : Addr} {m : Str → Option Value} {env : Env} {news : List (Addr × Obj)}
/-- a def is entered (code_defG, with less said of the top). -/
theorem code_defR {K : Frag} {p : Program} {loose : List Str} {mean : ExcName → Option Value} {mg mb : Str → Option Value} {R : Result → Shared → Prop} {name qual : Str} {params : Arguments} {body : List Stmt} {scope : Scope} {dV kV doc pm cdv ct oc : Value} {an od : Option Addr} {osl : Array (Option Value)} {f : Addr} {args : Args} {binds : List (Str × Value)}
    (B : Below A₀ base outer h₀) (F : Fr h₀ L s.heap m) (X₀ : K.In h₀) (N : News h₀ L s.heap news) (T : Top p loose mean mg mb h₀) (hA : A.frames = some (env :: outer)) (hf : env.frame = some L) (hke : env.scope.kind = .function)
    (ho : K.lookup f = some ⟨oc, od, .func (fnOf name qual params body scope dV kV doc pm an cdv ct), osl⟩) (hcd : codeIn K cdv qual = true) (hroom : A.depth < recursionLimit)
    (hbind : BindsTo s (fnOf name qual params body scope dV kV doc pm an cdv ct) args binds) (hloc : ∀ y ∈ binds, scope.names.lookup y.1 = some .local)
    (h : ∀ g L' h₁, Fr h₀ L g m → Fr g L' h₁ (fun y => binds.reverse.lookup y) → News g L' h₁ news → Below A base (env :: outer) g → K.In g → Top p loose mean mg mb g → GSub s.heap g (news.map (·.1)) → (∀ p ∈ news, @LT.lt Nat _ p.1 L') →
      wpAny (model prog w) (A.deeper (envOf qual scope L' f cdv)) (execs body (envOf qual scope L' f cdv))
        (fun fl s' => LeaveK h₀ L m g R (match fl with | .ret v => v | _ => .none) s')
        (fun e s' => wpAny (model prog w) (A.deeper (envOf qual scope L' f cdv)) (leaving (envOf qual scope L' f cdv) e) (fun _ s'' => R (.error e) s'') (fun e' s'' => R (.error e') s'') s')
        { s with heap := h₁, toks := s.toks + binds.length })
    (hco : scope.isCoroutine = false) (hgen : scope.isGenerator = false) (hk : scope.kind = .function)
    (hcell : ∀ x ∈ scope.names, x.2 ≠ .cell) : codeAny (model prog w) A (.call (.ref f) args) R s := by
  obtain ⟨FG, BG, st, lv⟩ := groundX (R := R) B F N hA hf hke
  refine codeAny_call_def (fd := fnX name qual params body scope [] dV kV doc pm an cdv ct) (body := body) (binds := binds) hroom ((X₀.keeps F.keep) _ _ ho) rfl (T.nolimit.keeps F.keep) (codeRec_of (X₀.keeps F.keep) hcd) rfl hbind hcell hloc (fun h₁ hns hk₁ => ?_) hco hgen hk
  exact wpAny_mono (h _ s.heap.objs.size h₁ FG ⟨hns, fun b o e => hk₁ b o (of_hideAll _ e), Nat.le_of_eq (hideAll_size _ _)⟩
    (fun p hp => ⟨hk₁ _ _ (N p hp).1, Nat.ne_of_lt (Heap.lt_size (N p hp).1), hideAll_none _ (List.mem_map_of_mem hp)⟩) BG (X₀.keeps st) (T.keeps st) (fun b o e n => hideAll_get _ e n) (fun p hp => Heap.lt_size (N p hp).1)) (fun fl s' hl => lv _ _ hl) fun _ _ y => y
end

/-- a contract of a call that may run a generator: the generators' states may grow. -/
def CallOkG (w : World) (h00 : Heap) (mg mb : Str → Option Value) (dep uni : Nat) (c : Value) (args : List Value) (kw : List (Str × Value)) (own : List (Addr × Obj)) (Post : Value → List (Addr × Obj) → Prop) : Prop :=
  ∀ dp un gd env outer A₀ base h₀ L m s (Q E : Value → Shared → Prop),
    Stand w h00 mg mb env outer A₀ base h₀ L m s.heap → News h₀ L s.heap own → AllBare s.gens →
    dp + dep < recursionLimit → un + uni < cLine →
    (∀ r own' h' g' tk', Fr h₀ L h' m → News h₀ L h' own' → GSub s.heap h' (own.map (·.1)) → AllBare g' → Post r own' → Q r { s with heap := h', gens := g', toks := tk' }) →
    wpAny (model Challenge.rw_bm0033_01.row.prog w) (At dp un gd env outer) (call c args kw) Q E s
theorem CallOkG.mono {w : World} {h00 : Heap} {mg mb : Str → Option Value} {dep uni : Nat} {c : Value} {args : List Value} {kw : List (Str × Value)} {own : List (Addr × Obj)} {P P' : Value → List (Addr × Obj) → Prop} (h : CallOkG w h00 mg mb dep uni c args kw own P) (hp : ∀ r o, P r o → P' r o) :
    CallOkG w h00 mg mb dep uni c args kw own P' := fun dp un gd env outer A₀ base h₀ L m s Q E st N hb h1 h2 ret => h dp un gd env outer A₀ base h₀ L m s Q E st N hb h1 h2 fun r own' h' g' tk' F' N' G hg p => ret r own' h' g' tk' F' N' G hg (hp r own' p)
theorem callG {w : World} {h00 : Heap} {mg mb : Str → Option Value} {dep uni : Nat} {c : Value} {args : List Value} {kw : List (Str × Value)} {own news : List (Addr × Obj)} {P : Value → List (Addr × Obj) → Prop}
    {dp un : Nat} {gd : Option (List Code)} {env : Env} {outer : List Env} {A₀ : Around} {base h₀ : Heap} {L : Addr} {m : Str → Option Value} {s : Shared} {Q E : Value → Shared → Prop}
    (C : CallOkG w h00 mg mb dep uni c args kw own P) (B : Below A₀ base outer h₀) (F : Fr h₀ L s.heap m) (X : (hd.heap_39 w.params).In h₀) (T : Top p0 loose0 (ExcName.means h00) mg mb h₀)
    (hf : env.frame = some L) (hk : env.scope.kind = .function) (N : News h₀ L s.heap news) (hg : AllBare s.gens) (hs : ∀ p ∈ own, p ∈ news) (hd : dp + dep < recursionLimit) (hu : un + uni < cLine)
    (ret : ∀ r own' h' g' tk', Fr h₀ L h' m → News h₀ L h' own' → GSub s.heap h' (own.map (·.1)) → AllBare g' → P r own' → Q r { s with heap := h', gens := g', toks := tk' }) :
    wpAny (model Challenge.rw_bm0033_01.row.prog w) (At dp un gd env outer) (call c args kw) Q E s :=
  C dp un gd env outer A₀ base h₀ L m s Q E ⟨B, F, X, T, hf, hk⟩ (fun p hp => N p (hs p hp)) hg hd hu ret
/-- the record of the texts within optimal_mode: it grows by the generator expression's own. -/
def TabOk (ob : Obj) : Prop := ∃ ps, ob = { cls := .none, data := .fields ps } ∧ TriplesOk ps.toList

section
variable {prog : Program} {w : World} {A₀ A : Around} {E : Value → Shared → Prop} {s : Shared} {h₀ : Heap} {L : Addr} {m : Str → Option Value} {news : List (Addr × Obj)} {K : Frag} {C : Addr} {R : Result → Shared → Prop}
/-- an own class is called (make_K, with what is kept said). -/
theorem make_G {rest : List Value} {kw : List (Str × Value)} {fI : Addr} (F : Fr h₀ L s.heap m) (N : News h₀ L s.heap news) (X : K.In s.heap) (hm : makesIn K C = true)
    (hi : findIn K (.ref C) "__init__" = some (some (.ref fI))) (hf : typeIn K (.ref fI) = some (.type "function"))
    (h : ∀ x dx h', Fr h₀ L h' m → News h₀ L h' ((x, instObj C dx) :: (dx, dictOf [] 0) :: news) → (∀ p ∈ news, @LT.lt Nat _ p.1 dx) → @LT.lt Nat _ dx x → (∀ b o, s.heap.get? b = some o → h'.get? b = some o ∧ @LT.lt Nat _ b dx) →
      codeAny (model prog w) (A.under (.builtin "type.__call__" ⟨.ref C :: rest, kw⟩)) (.call (.ref fI) ⟨.ref x :: rest, kw⟩) (InitBack x R) { s with heap := h' }) :
    codeAny (model prog w) A (.call (.ref C) ⟨rest, kw⟩) R s := by
  obtain ⟨hh, g, d, t, os⟩ := s
  refine make_core (makes_of X hm) (looks_findIn X hi) (fun self => bind_fn X self hf) (.inl rfl) (h _ hh.objs.size _ ((F.push _).push _) ?_ (fun p hp => Heap.lt_size (N p hp).1) (Nat.lt_succ_self _) fun b o e => ⟨Heap.get?_push_of_some _ (Heap.get?_push_of_some _ e), Heap.lt_size e⟩)
  have := (N.push F emptyDict).push (F.push _) (instObj C hh.objs.size)
  rwa [Heap.size_push] at this
end
/-- a ledger stands where a call has kept all but own. -/
theorem news_kept {h₀ h h' : Heap} {L : Addr} {news : List (Addr × Obj)} {adr : List Addr} (N : News h₀ L h news) (G : GSub h h' adr) (ha : ∀ p ∈ news, p.1 ∉ adr) : News h₀ L h' news := fun p hp => news_rest N G hp (ha p hp)
theorem news_split {h₀ h h' : Heap} {L : Addr} {l1 l2 own : List (Addr × Obj)} {adr : List Addr} (N : News h₀ L h (l1 ++ own)) (N' : News h₀ L h' l2) (G : GSub h h' adr) (ha : ∀ p ∈ l1, p.1 ∉ adr) : News h₀ L h' (l1 ++ l2) := by
  intro p hp
  rcases List.mem_append.mp hp with hp | hp
  · exact news_rest N G (List.mem_append.mpr (.inl hp)) (ha p hp)
  · exact N' p hp
theorem units_make (A : Around) (C : Addr) (vals : List Value) (kw : List (Str × Value)) : (A.under (.builtin "type.__call__" ⟨.ref C :: vals, kw⟩)).units = A.units + 1 := rfl

/-- kept, but the caller's own frame object. -/
def GSubL (L : Addr) (s h' : Heap) (adr : List Addr) : Prop := ∀ b o, s.get? b = some o → b ∉ adr → b ≠ L → h'.get? b = some o
/-- a contract of a call from the law's own frame, within which an exception may be caught. -/
def CallOkR (w : World) (h00 : Heap) (mg mb : Str → Option Value) (dep uni : Nat) (c : Value) (args : List Value) (own : List (Addr × Obj)) (Post : Value → List (Addr × Obj) → Prop) : Prop :=
  ∀ dp un gd env A₀ h₀ L m s (Q E : Value → Shared → Prop),
    Stand w h00 mg mb env [] A₀ h₀ h₀ L m s.heap → News h₀ L s.heap own → AllBare s.gens →
    dp + dep < recursionLimit → un + uni < cLine →
    (∀ r own' h' g' tk', Fr h₀ L h' m → News h₀ L h' own' → GSubL L s.heap h' (own.map (·.1)) → AllBare g' → Post r own' → Q r { s with heap := h', gens := g', toks := tk' }) →
    wpAny (model Challenge.rw_bm0033_01.row.prog w) (At dp un gd env []) (call c args) Q E s
theorem leave_turn {h₀ g g' h : Heap} {L L' : Addr} {m m' : Str → Option Value} {news : List (Addr × Obj)} (FG : Fr h₀ L g m) (T : KtsTurn [L] g g') (F' : Fr g' L' h m') (N' : News g' L' h news) : Fr h₀ L h m ∧ News h₀ L h news := by
  have nL₀ : h₀.get? L = none := kts_self FG
  obtain ⟨oL, es, ep, hL, hLd, hLk, hLf⟩ := FG.ns
  obtain ⟨sl, hs⟩ := T.up hL
  have keep : ∀ b o, h₀.get? b = some o → g'.get? b = some o := fun b o e => T.other b o (FG.keep b o e) (fun q => by
    rw [List.mem_singleton.mp q, nL₀] at e; cases e)
  refine ⟨⟨⟨_, es, ep, F'.keep _ _ hs, hLd, hLk, hLf⟩, fun b o e => F'.keep b o (keep b o e), FG.above⟩, fun p hp => ⟨(N' p hp).1, fun q => ?_, ?_⟩⟩
  · have := (N' p hp).2.2
    rw [q, hs] at this; cases this
  · cases q : h₀.get? p.1 with
    | none => rfl
    | some o => have := (N' p hp).2.2; rw [keep _ _ q] at this; cases this
section
variable {prog : Program} {w : World} {A₀ A : Around} {E : Value → Shared → Prop} {s : Shared} {base h₀ : Heap} {L : Addr} {m : Str → Option Value} {env : Env} {news : List (Addr × Obj)}
/-- a def is entered from the law's own frame; on its way back that frame's object may have turned. -/
theorem code_defR0 {K : Frag} {p : Program} {loose : List Str} {mean : ExcName → Option Value} {mg mb : Str → Option Value} {R : Result → Shared → Prop} {name qual : Str} {params : Arguments} {body : List Stmt} {scope : Scope} {dV kV doc pm cdv ct oc : Value} {an od : Option Addr} {osl : Array (Option Value)} {f : Addr} {args : Args} {binds : List (Str × Value)}
    (B : Below A₀ base [] h₀) (F : Fr h₀ L s.heap m) (X₀ : K.In h₀) (N : News h₀ L s.heap news) (T : Top p loose mean mg mb h₀) (hA : A.frames = some [env]) (hf : env.frame = some L) (hke : env.scope.kind = .function)
    (ho : K.lookup f = some ⟨oc, od, .func (fnOf name qual params body scope dV kV doc pm an cdv ct), osl⟩) (hcd : codeIn K cdv qual = true) (hroom : A.depth < recursionLimit)
    (hbind : BindsTo s (fnOf name qual params body scope dV kV doc pm an cdv ct) args binds) (hloc : ∀ y ∈ binds, scope.names.lookup y.1 = some .local)
    (h : ∀ g L' h₁, Fr h₀ L g m → Fr g L' h₁ (fun y => binds.reverse.lookup y) → News g L' h₁ news → Below A base [env] g → K.In g → Top p loose mean mg mb g → GSub s.heap g (news.map (·.1)) → (∀ p ∈ news, @LT.lt Nat _ p.1 L') → KtsDicts ([env].filterMap (·.frame)) g →
      wpAny (model prog w) (A.deeper (envOf qual scope L' f cdv)) (execs body (envOf qual scope L' f cdv))
        (fun fl s' => LeaveS0 ([env].filterMap (·.frame)) h₀ L m g R (match fl with | .ret v => v | _ => .none) s')
        (fun e s' => wpAny (model prog w) (A.deeper (envOf qual scope L' f cdv)) (leaving (envOf qual scope L' f cdv) e) (fun _ s'' => R (.error e) s'') (fun e' s'' => R (.error e') s'') s')
        { s with heap := h₁, toks := s.toks + binds.length })
    (hco : scope.isCoroutine = false) (hgen : scope.isGenerator = false) (hk : scope.kind = .function)
    (hcell : ∀ x ∈ scope.names, x.2 ≠ .cell) : codeAny (model prog w) A (.call (.ref f) args) R s := by
  obtain ⟨FG, BG, st, _⟩ := groundX (R := R) B F N hA hf hke
  have hfs : [env].filterMap (·.frame) = [L] := by simp [hf]
  refine codeAny_call_def (fd := fnX name qual params body scope [] dV kV doc pm an cdv ct) (body := body) (binds := binds) hroom ((X₀.keeps F.keep) _ _ ho) rfl (T.nolimit.keeps F.keep) (codeRec_of (X₀.keeps F.keep) hcd) rfl hbind hcell hloc (fun h₁ hns hk₁ => ?_) hco hgen hk
  refine wpAny_mono (h _ s.heap.objs.size h₁ FG ⟨hns, fun b o e => hk₁ b o (of_hideAll _ e), Nat.le_of_eq (hideAll_size _ _)⟩
    (fun p hp => ⟨hk₁ _ _ (N p hp).1, Nat.ne_of_lt (Heap.lt_size (N p hp).1), hideAll_none _ (List.mem_map_of_mem hp)⟩) BG (X₀.keeps st) (T.keeps st) (fun b o e n => hideAll_get _ e n) (fun p hp => Heap.lt_size (N p hp).1) ?_) (fun fl s' hl => ?_) fun _ _ y => y
  · rw [hfs]
    intro b hb
    rw [List.mem_singleton.mp hb]
    obtain ⟨oL, es, ep, hL, hLd, _⟩ := FG.ns
    exact ⟨oL, es, ep, hL, hLd⟩
  · obtain ⟨g', L', m', news', T', F', N', k⟩ := hl
    rw [hfs] at T'
    obtain ⟨f1, n1⟩ := leave_turn FG T' F' N'
    exact k f1 n1
end

end
local macro_rules | `(tactic| k_room) => `(tactic| ktr_room)
local macro_rules | `(tactic| ktr_units) => `(tactic| (have hcL9 := cLine_is; (try simp only [units_make, units_in1, units_deeper, Around.mark_units, units_caller] at *); omega))
local macro_rules | `(tactic| k_units) => `(tactic| ktr_units)
local macro_rules | `(tactic| walk_at "bm fill") => `(tactic| have _hk : Challenge.rw_bm0033_01 = Challenge.rw_bm0033_01 ∧ hd.heap_39 = hd.heap_39 := by (k_fill; exact ⟨rfl, rfl⟩))
set_option hygiene false in
local macro_rules | `(tactic| walk_at "bm enter") => `(tactic| (
  intro dp un gd env outer A₀ base h₀ L m s Q E st N hdp hun ret
  obtain ⟨B, F, X, T, hfr, hkd⟩ := st
  refine wpAny_call ?_
  refine' code_defR ?k1 ?k2 ?k3 ?k4 ?k5 ?kA ?kF ?kK ?k6 ?k7 ?k8 ?k9 ?kB ?_ ?c2 ?c3 ?c4 ?c5
  case kA => exact rfl
  case kF => exact hfr
  case kK => exact hkd
  case k1 => exact B
  case k2 => exact F
  case k3 => exact X
  case k4 => exact N
  case k5 => exact T
  case k6 => k_is
  case k7 => k_is
  case k8 => ktr_room
  case k9 => exact BindsTo.of_eq rfl
  case c5 => decide
  case kB => exact locs rfl
  case c2 => exact rfl
  case c3 => exact rfl
  case c4 => exact rfl
  intro g' L' h' FG' F' N' B' X' T' kG' lG'
  (try dsimp only); (try k_lift B'); (try k_fold)))

set_option hygiene false in
local macro_rules | `(tactic| walk_at "bm end") => `(tactic| (
  refine' ret _ _ _ _ ?e1 ?e2 (gsub_of kG' ?e3) ?_
  case e1 => k_asm
  case e2 => k_asm
  case e3 => k_asm))
set_option hygiene false in
local macro_rules | `(tactic| walk_at "bm enterG") => `(tactic| (
  intro dp un gd env outer A₀ base h₀ L m s Q E st N hgb hdp hun ret
  obtain ⟨B, F, X, T, hfr, hkd⟩ := st
  refine wpAny_call ?_
  refine' code_defR ?k1 ?k2 ?k3 ?k4 ?k5 ?kA ?kF ?kK ?k6 ?k7 ?k8 ?k9 ?kB ?_ ?c2 ?c3 ?c4 ?c5
  case kA => exact rfl
  case kF => exact hfr
  case kK => exact hkd
  case k1 => exact B
  case k2 => exact F
  case k3 => exact X
  case k4 => exact N
  case k5 => exact T
  case k6 => k_is
  case k7 => k_is
  case k8 => ktr_room
  case k9 => exact BindsTo.of_eq rfl
  case c5 => decide
  case kB => exact locs rfl
  case c2 => exact rfl
  case c3 => exact rfl
  case c4 => exact rfl
  intro g' L' h' FG' F' N' B' X' T' kG' lG'
  (try dsimp only); (try k_lift B'); (try k_fold)))
set_option hygiene false in
local macro_rules | `(tactic| walk_at "bm endG") => `(tactic| (
  refine' ret _ _ _ _ _ ?e1 ?e2 (gsub_of kG' ?e3) hgb ?_
  case e1 => k_asm
  case e2 => k_asm
  case e3 => k_asm))
set_option hygiene false in
local macro_rules | `(tactic| walk_at "bm newG") => `(tactic| (
  intro dp un gd env outer A₀ base h₀ L m s Q E st N hgb hdp hun ret
  obtain ⟨B, F, X, T, hfr, hkd⟩ := st
  refine wpAny_call ?_
  refine' make_G F N (X.keeps F.keep) ?m1 ?m2 ?m3 ?_
  case m1 => k_is
  case m2 => k_is
  case m3 => k_is
  intro x dx h1 F1 N1 lN hlt hkeep
  refine' code_defR ?k1 ?k2 ?k3 ?k4 ?k5 ?kA ?kF ?kK ?k6 ?k7 ?k8 ?k9 ?kB ?_ ?c2 ?c3 ?c4 ?c5
  case kA => exact rfl
  case kF => exact hfr
  case kK => exact hkd
  case k1 => exact B
  case k2 => exact F1
  case k3 => exact X
  case k4 => exact N1
  case k5 => exact T
  case k6 => k_is
  case k7 => k_is
  case k8 => ktr_room
  case k9 => first | exact BindsTo.of_eq rfl | exact binds_K (by k_in) rfl (by k_is) rfl rfl rfl
  case c5 => decide
  case kB => exact locs rfl
  case c2 => exact rfl
  case c3 => exact rfl
  case c4 => exact rfl
  intro g' L' h' FG' F' N' B' X' T' kG' lG'
  (try dsimp only); (try k_lift B'); (try k_fold)))
local macro_rules | `(tactic| k_enter) => `(tactic| (refine' code_defR ?k1 ?k2 ?k3 ?k4 ?k5 ?kA ?kF ?kK ?k6 ?k7 ?k8 ?k9 ?kB ?_ ?c2 ?c3 ?c4 ?c5; (case kA => exact rfl); (case kF => exact rfl); (case kK => exact rfl); (case k1 => k_asm); (case k2 => k_asm); (case k3 => k_asm); (case k4 => k_asm); (case k5 => k_asm); (case k6 => k_is); (case k7 => k_is); (case k8 => k_room); (case k9 => first | exact BindsTo.of_eq rfl | exact binds_K (by k_in) rfl (by k_is) rfl rfl rfl | fail "k_enter: no rule for these arguments"); (case c5 => decide); (case kB => exact locs rfl); (case c2 => exact rfl); (case c3 => exact rfl); (case c4 => exact rfl); k_whole; intro g' L' h' FG' F' N' B' X' T' kG' lG'; (try dsimp only); (try k_lift B'); (try k_fold)))
set_option hygiene false in
local macro_rules | `(tactic| walk_at "bm enterR") => `(tactic| (
  intro dp un gd env A₀ h₀ L m s Q E st N hgb hdp hun ret
  obtain ⟨B, F, X, T, hfr, hkd⟩ := st
  refine wpAny_call ?_
  refine' code_defR0 ?k1 ?k2 ?k3 ?k4 ?k5 ?kA ?kF ?kK ?k6 ?k7 ?k8 ?k9 ?kB ?_ ?c2 ?c3 ?c4 ?c5
  case kA => exact rfl
  case kF => exact hfr
  case kK => exact hkd
  case k1 => exact B
  case k2 => exact F
  case k3 => exact X
  case k4 => exact N
  case k5 => exact T
  case k6 => k_is
  case k7 => k_is
  case k8 => ktr_room
  case k9 => exact BindsTo.of_eq rfl
  case c5 => decide
  case kB => exact locs rfl
  case c2 => exact rfl
  case c3 => exact rfl
  case c4 => exact rfl
  intro g' L' h' FG' F' N' B' X' T' kG' lG' D'
  (try dsimp only); (try k_lift B'); (try k_fold)))
local macro_rules | `(tactic| walk_at "bm loop") => `(tactic| (k_here; (rename Fr _ _ _ _ => lF'); (with_unfolding_all refine' For_invVF lF' ?k1 ?k2 ?_; (case k1 => exact rfl); (case k2 => exact rfl); k_whole)))
local macro_rules | `(tactic| walk_at "exec For Name Call cons nil") => `(tactic| walk_at "bm loop")
local macro_rules | `(tactic| walk_at "exec For Name Name cons nil") => `(tactic| walk_at "bm loop")
local macro_rules | `(tactic| walk_at "exec For Name Attribute cons nil") => `(tactic| walk_at "bm loop")
local macro_rules | `(tactic| walk_at "exec For Name Subscript cons nil") => `(tactic| walk_at "bm loop")
local macro_rules | `(tactic| walk_at "call ref") => `(tactic| (k_here; (with_reducible show wpAny _ _ (PySem.call (Value.ref _) _ _) _ _ _); (first | (show wpAny _ _ (PySem.call (Value.ref 119) _ _) _ _ _) | (show wpAny _ _ (PySem.call (Value.ref 105) _ _) _ _ _) | (show wpAny _ _ (PySem.call (Value.ref 98) _ _) _ _ _) | (show wpAny _ _ (PySem.call (Value.ref 22) _ _) _ _ _) | (show wpAny _ _ (PySem.call (Value.ref 29) _ _) _ _ _) | (show wpAny _ _ (PySem.call (Value.ref 58) _ _) _ _ _) | (show wpAny _ _ (PySem.call (Value.ref 138) _ _) _ _ _) | (show wpAny _ _ (PySem.call (Value.ref 145) _ _) _ _ _) | (show wpAny _ _ (PySem.call (Value.ref 152) _ _) _ _ _) | (show wpAny _ _ (PySem.call (Value.ref 159) _ _) _ _ _) | (show wpAny _ _ (PySem.call (Value.ref 166) _ _) _ _ _) | (show wpAny _ _ (PySem.call (Value.ref 173) _ _) _ _ _) | (show wpAny _ _ (PySem.call (Value.ref 133) _ _) _ _ _)); refine Hold.out ?_))
local macro_rules | `(tactic| walk_at "pyIter ref") => `(tactic| (k_here; refine Hold.out ?_))
local macro_rules | `(tactic| walk_at "pyIter bytes") => `(tactic| (k_here; refine Hold.out ?_))
-- BmBuf
section
theorem getItem_arr {prog : Program} {w : World} {A : Around} {E : Value → Shared → Prop} {s : Shared} {h₀ : Heap} {L l : Addr} {news : List (Addr × Obj)} {arr : Array Value} {k : Nat} {i : Int} {t : Tok} {v : Value} {Q : Value → Shared → Prop}
    (N : News h₀ L s.heap news) (hl : (l, listOf arr k) ∈ news) (h0 : 0 ≤ i) (hi : i < 2 ^ 63) (hx : arr[i.toNat]? = some v) (h : Q v s) : wpAny (model prog w) A (getItem (.ref l) (.int i t)) Q E s :=
  wpAny_getItem_list (l := l) (items := arr) ⟨_, N.get hl, rfl, k, rfl⟩ h0 hi hx h

theorem ints_snoc {vs : List Value} {ns : List Int} (h : IntsAre vs ns) (i : Int) (t : Tok) : IntsAre (vs ++ [.int i t]) (ns ++ [i]) := h.append (.cons _ _ .nil)

theorem ints_set {vs : List Value} {ns : List Int} (h : IntsAre vs ns) (i : Int) (t : Tok) : ∀ j, IntsAre (vs.set j (.int i t)) (ns.set j i) := by
  induction h with
  | nil => intro j; exact .nil
  | cons n u h ih =>
    intro j
    cases j with
    | zero => exact .cons _ _ h
    | succ j => exact .cons _ _ (ih j)
theorem news_push3 {h₀ h : Heap} {L l : Addr} {p1 p2 : Addr × Obj} {vs : List Value} {ns : List Int} {i : Int} {t : Tok} {k : Nat} (N : News h₀ L h [p1, p2, (l, listOf (vs.toArray.push (.int i t)) k)]) (hi : IntsAre vs ns) :
    ∃ vs', IntsAre vs' (ns ++ [i]) ∧ News h₀ L h [p1, p2, (l, listOf vs'.toArray k)] := by
  refine ⟨_, ints_snoc hi i t, ?_⟩
  simpa only [List.push_toArray] using N

theorem ints_eq {vs : List Value} {ns ms : List Int} (h : IntsAre vs ns) (e : ns = ms) : IntsAre vs ms := e ▸ h
theorem set_last (ns : List Int) : (ns ++ [0]).set ns.length (Builtin.bitOr ((ns ++ [0]).getD ns.length 0) (Int.fdiv 128 (2 ^ Int.toNat 0))) = ns ++ [128] := by
  have e : (ns ++ [0]).getD ns.length 0 = 0 := by simp [List.getD_eq_getElem?_getD]
  rw [e, show Builtin.bitOr 0 (Int.fdiv 128 (2 ^ Int.toNat 0)) = 128 from by decide]
  simp

set_option maxRecDepth 100000 in
set_option maxHeartbeats 8000000 in
theorem put_bit_new (w : World) (h00 : Heap) (mg mb : Str → Option Value) (x d l : Addr) (t1 t2 : Nat) (n : Int) (q : Nat) (tn : Tok) (vs : List Value) (ns : List Int) (k : Nat) (b : Bool)
   (hxd : @Ne Nat x d) (hxl : @Ne Nat x l) (hdl : @Ne Nat d l) (hq : q < 100000) (hn : n = 8 * (q : Int)) (hi : IntsAre vs ns) (hlen : ns.length = q) (hdv : n.fdiv 8 = (q : Int)) (hmd : n.fmod 8 = 0) :
    CallOk w h00 mg mb 1 8 (.ref 119) [.ref x, .bool b] (bufLed w x d l t1 t2 n tn vs k) fun r own' => r = .none ∧ ∃ tn' vs' k', own' = bufLed w x d l t1 t2 (n + 1) tn' vs' k' ∧ IntsAre vs' (ns ++ [if b then 128 else 0]) := by
  walk_at "bm fill"
  walk_at "bm enter"
  k_steps
  · (with_reducible rename News _ _ _ _ => N9)
    obtain ⟨vs2, hi2, N2⟩ := news_push3 N9 hi
    clear N9
    have hlen2 : (ns ++ [0]).length = q + 1 := by simp [hlen]
    k_steps
    walk_at "bm end"
    have e1 : (n.fdiv 8).toNat = ns.length := by rw [hdv, hlen]; rfl
    subst_vars
    refine ⟨rfl, _, _, _, rfl, ?_⟩
    rw [e1, hmd]
    exact ints_eq (ints_set hi2 _ _ _) (set_last ns)
  · walk_at "bm end"
    subst_vars
    refine ⟨rfl, _, _, _, by rw [List.push_toArray], ?_⟩
    exact ints_snoc hi _ _

set_option maxRecDepth 100000 in
set_option maxHeartbeats 8000000 in
theorem put_bit_old (w : World) (h00 : Heap) (mg mb : Str → Option Value) (x d l : Addr) (t1 t2 : Nat) (n : Int) (q r : Nat) (tn : Tok) (vs : List Value) (ns : List Int) (k : Nat) (b : Bool)
   (hxd : @Ne Nat x d) (hxl : @Ne Nat x l) (hdl : @Ne Nat d l) (hq : q < 100000) (hr : r < 8) (hn : n = 8 * (q : Int) + r) (hi : IntsAre vs ns) (hlen : ns.length = q + 1) (hdv : n.fdiv 8 = (q : Int)) (hmd : n.fmod 8 = r) :
    CallOk w h00 mg mb 1 8 (.ref 119) [.ref x, .bool b] (bufLed w x d l t1 t2 n tn vs k) fun res own' => res = .none ∧ ∃ tn' vs' k', own' = bufLed w x d l t1 t2 (n + 1) tn' vs' k' ∧ IntsAre vs' (if b then ns.set q (Builtin.bitOr (ns.getD q 0) (Int.fdiv 128 (2 ^ r))) else ns) := by
  walk_at "bm fill"
  walk_at "bm enter"
  k_steps
  · walk_at "bm end"
    have e1 : (n.fdiv 8).toNat = q := by rw [hdv]; rfl
    have e2 : (n.fmod 8).toNat = r := by rw [hmd]; rfl
    subst_vars
    refine ⟨rfl, _, _, _, rfl, ?_⟩
    rw [e1, e2]
    exact ints_set hi _ _ _
  · walk_at "bm end"
    subst_vars
    exact ⟨rfl, _, _, _, rfl, hi⟩

/-- put_bit: the row of bits gets one more. -/
theorem put_bit_ok (w : World) (h00 : Heap) (mg mb : Str → Option Value) (x d l : Addr) (t1 t2 : Nat) (tn : Tok) (vs : List Value) (k : Nat) (b : Bool) (B : List Bool)
   (hxd : @Ne Nat x d) (hxl : @Ne Nat x l) (hdl : @Ne Nat d l) (hB : B.length < 100000) (hi : IntsAre vs (pack B)) :
    CallOk w h00 mg mb 1 8 (.ref 119) [.ref x, .bool b] (bufLed w x d l t1 t2 (B.length : Int) tn vs k) fun res own' => res = .none ∧ ∃ tn' vs' k', own' = bufLed w x d l t1 t2 ((B ++ [b]).length : Int) tn' vs' k' ∧ IntsAre vs' (pack (B ++ [b])) := by
  have hl : ((B ++ [b]).length : Int) = (B.length : Int) + 1 := by simp
  have hdv : ((B.length : Int)).fdiv 8 = ((B.length / 8 : Nat) : Int) := by rw [Int.fdiv_eq_ediv_of_nonneg _ (by decide)]; rfl
  have hmd : ((B.length : Int)).fmod 8 = ((B.length % 8 : Nat) : Int) := by rw [Int.fmod_eq_emod_of_nonneg _ (by decide)]; rfl
  by_cases h0 : B.length % 8 = 0
  · refine (put_bit_new w h00 mg mb x d l t1 t2 B.length (B.length / 8) tn vs (pack B) k b hxd hxl hdl (by omega) (by omega) hi (by rw [pack_length]; omega) hdv (by rw [hmd, h0]; rfl)).mono ?_
    rintro r o ⟨e, tn', vs', k', e2, hi'⟩
    exact ⟨e, tn', vs', k', by rw [hl]; exact e2, by rw [pack_snoc_new B b h0]; exact hi'⟩
  · refine (put_bit_old w h00 mg mb x d l t1 t2 B.length (B.length / 8) (B.length % 8) tn vs (pack B) k b hxd hxl hdl (by omega) (by omega) (by omega) hi (by rw [pack_length]; omega) hdv hmd).mono ?_
    rintro r o ⟨e, tn', vs', k', e2, hi'⟩
    refine ⟨e, tn', vs', k', by rw [hl]; exact e2, ?_⟩
    cases b with
    | true => rw [pack_snoc_true B h0]; exact hi'
    | false => rw [pack_snoc_false B h0]; exact hi'

end
-- BmPut
section
structure BufSt where
  B : List Bool
  tn : Tok
  vs : List Value
  k : Nat
theorem put_bit_eq (v : Int) (wd j : Nat) (h : j < wd) : (Builtin.bitAnd (v.fdiv (2 ^ ((wd : Int) - (0 + (j : Int)) - 1).toNat)) 1 == 1) = bitAt v (wd - 1 - j) := by
  have e : ((wd : Int) - (0 + (j : Int)) - 1).toNat = wd - 1 - j := by omega
  rw [e, bitAnd_m1]
  unfold bitAt
  rw [Int.fmod_eq_emod_of_nonneg _ (by decide)]
  by_cases h : v.fdiv (2 ^ (wd - 1 - j)) % 2 = 1
  · rw [h]; rfl
  · rw [decide_eq_false h]; simpa using h
theorem bitsOf_take_succ (v : Int) (wd j : Nat) (h : j < wd) : (bitsOf v wd).take (j + 1) = (bitsOf v wd).take j ++ [bitAt v (wd - 1 - j)] := by
  rw [List.take_add_one, bitsOf, List.getElem?_map, List.getElem?_range h]; rfl
set_option maxRecDepth 100000 in
set_option maxHeartbeats 8000000 in
theorem put_ok (w : World) (h00 : Heap) (mg mb : Str → Option Value) (x d l : Addr) (t1 t2 : Nat) (tn : Tok) (vs : List Value) (k : Nat) (v : Int) (tv : Tok) (wd : Nat) (tw : Tok) (B₀ : List Bool)
   (hxd : @Ne Nat x d) (hxl : @Ne Nat x l) (hdl : @Ne Nat d l) (hB : B₀.length < 50000) (hw : wd < 100) (hi : IntsAre vs (pack B₀)) :
    CallOk w h00 mg mb 2 20 (.ref 105) [.ref x, .int v tv, .int (wd : Int) tw] (bufLed w x d l t1 t2 (B₀.length : Int) tn vs k) fun res own' => res = .none ∧ ∃ tn' vs' k', own' = bufLed w x d l t1 t2 ((B₀ ++ bitsOf v wd).length : Int) tn' vs' k' ∧ IntsAre vs' (pack (B₀ ++ bitsOf v wd)) := by
  walk_at "bm fill"
  walk_at "bm enter"
  k_steps
  refine Hold.mk ?_
  (rename IsRange _ _ _ _ _ _ _ _ => rgX)
  (rename Fr _ _ _ _ => lF')
  (rename News _ _ _ _ => lN')
  with_unfolding_all refine' kst_range (σ := BufSt) (fun c => bufLed w x d l t1 t2 (c.B.length : Int) c.tn c.vs c.k) (fun _ => []) (fun c => IntsAre c.vs (pack c.B)) [] (fun pre c => c.B = B₀ ++ (bitsOf v wd).take pre.length) ⟨B₀, tn, vs, k⟩ (by rfl) rgX ?ks (rangeSize_nat _ _) lF' ?kn ?kf ?kk ?kp ?_ ?_
  case ks => first | exact small_one (by omega) (by omega) (by omega) (by omega) | exact small_one (by l_bnd) (by l_bnd) (by l_bnd) (by l_bnd) | decide
  case kn => exact lN'
  case kf => exact hi
  case kk => exact fun _ hp => nomatch hp
  case kp => simp
  · rintro ⟨B₁, tn₁, vs₁, k₁⟩ pre kk tt u h2 tk2 own rfl hlt hoff hF hP F₂ N₂
    dsimp only at hF hP F₂ N₂
    k_steps
    refine Hold.mk ?_
    have hlB : B₁.length = B₀.length + pre.length := by rw [hP, List.length_append, List.length_take, bitsOf_length]; omega
    with_unfolding_all refine' callD (put_bit_ok w h00 mg mb x d l t1 t2 tn₁ vs₁ k₁ _ B₁ hxd hxl hdl ?kb hF) B' F₂ X' T' rfl rfl N₂ (fun p hp => List.mem_append.mpr (.inl hp)) ?kd ?ku ?_
    case kb => omega
    case kd => ktr_room
    case ku => ktr_units
    rintro r own' h3 tk3 F3 N3 G3 ⟨rfl, tn', vs', k', rfl, hi'⟩
    rw [put_bit_eq v wd pre.length hlt] at N3 hi'
    refine wpAny_execs_nil ?_
    have N4 := news_app N₂ N3 G3 hoff
    with_unfolding_all refine kst_end (⟨B₁ ++ [bitAt v (wd - 1 - pre.length)], tn', vs', k'⟩ : BufSt) F3 N4 (fun p hp => List.mem_append.mpr (.inl hp)) (fun p hp => List.mem_append.mpr (.inr hp)) rfl hi' (fun _ hp => nomatch hp) (fun z h1 _ _ => by with_unfolding_all exact if_neg h1) ?_
    show B₁ ++ [bitAt v (wd - 1 - pre.length)] = B₀ ++ (bitsOf v wd).take (pre ++ [0 + (pre.length : Int)]).length
    rw [hP, List.length_append, List.append_assoc]
    show _ = B₀ ++ (bitsOf v wd).take (pre.length + 1)
    rw [bitsOf_take_succ v wd pre.length hlt]
  · rintro ⟨B₁, tn₁, vs₁, k₁⟩ u h2 tk2 hF hP F₂ N₂
    dsimp only at hF hP F₂ N₂
    k_steps
    have e : B₁ = B₀ ++ bitsOf v wd := by rw [hP, rangeKs_length, List.take_of_length_le (by rw [bitsOf_length]; omega)]
    subst e
    walk_at "bm end"
    exact ⟨rfl, _, _, _, rfl, hF⟩
/-- put, its width as it comes. -/
theorem put_okI (w : World) (h00 : Heap) (mg mb : Str → Option Value) (x d l : Addr) (t1 t2 : Nat) (tn : Tok) (vs : List Value) (k : Nat) (v : Int) (tv : Tok) (wi : Int) (tw : Tok) (B₀ : List Bool)
   (hxd : @Ne Nat x d) (hxl : @Ne Nat x l) (hdl : @Ne Nat d l) (hB : B₀.length < 50000) (h0 : 0 ≤ wi) (hw : wi < 100) (hi : IntsAre vs (pack B₀)) :
    CallOk w h00 mg mb 2 20 (.ref 105) [.ref x, .int v tv, .int wi tw] (bufLed w x d l t1 t2 (B₀.length : Int) tn vs k) fun res own' => res = .none ∧ ∃ tn' vs' k', own' = bufLed w x d l t1 t2 ((B₀ ++ bitsOf v wi.toNat).length : Int) tn' vs' k' ∧ IntsAre vs' (pack (B₀ ++ bitsOf v wi.toNat)) := by
  have e : wi = ((wi.toNat : Nat) : Int) := by omega
  have := put_ok w h00 mg mb x d l t1 t2 tn vs k v tv wi.toNat tw B₀ hxd hxl hdl hB (by omega) hi
  rw [← e] at this
  exact this

end
-- BmGet
section
theorem get_eq (B : List Bool) (i : Nat) (h : i < B.length) : (Builtin.bitAnd (((pack B).getD ((i : Int).fdiv 8).toNat 0).fdiv (2 ^ (7 - (i : Int).fmod 8).toNat)) 1 == 1) = B.getD i false := by
  have hdv : ((i : Int)).fdiv 8 = ((i / 8 : Nat) : Int) := by rw [Int.fdiv_eq_ediv_of_nonneg _ (by decide)]; rfl
  have hmd : ((i : Int)).fmod 8 = ((i % 8 : Nat) : Int) := by rw [Int.fmod_eq_emod_of_nonneg _ (by decide)]; rfl
  have e : (7 - ((i % 8 : Nat) : Int)).toNat = 7 - i % 8 := by omega
  rw [hdv, hmd, e, Int.toNat_natCast, pack_get _ _ (by omega), bitAnd_m1, Int.fdiv_eq_ediv_of_nonneg _ (Int.pow_nonneg (by decide))]
  have hg := octet_get B i
  by_cases hb : B.getD i false = true
  · rw [hb, hg.mpr hb]; rfl
  · have : octet B (i / 8) / 2 ^ (7 - i % 8) % 2 ≠ 1 := fun q => hb (hg.mp q)
    rw [Bool.not_eq_true] at hb
    rw [hb]; simpa using this
set_option maxRecDepth 100000 in
set_option maxHeartbeats 8000000 in
theorem get_ok (w : World) (h00 : Heap) (mg mb : Str → Option Value) (x d l : Addr) (t1 t2 : Nat) (tn : Tok) (vs : List Value) (k : Nat) (i : Nat) (ti : Tok) (B : List Bool)
   (hxd : @Ne Nat x d) (hxl : @Ne Nat x l) (hdl : @Ne Nat d l) (hB : B.length < 100000) (hlt : i < B.length) (hi : IntsAre vs (pack B)) :
    CallOk w h00 mg mb 1 8 (.ref 98) [.ref x, .int (i : Int) ti] (bufLed w x d l t1 t2 (B.length : Int) tn vs k) fun res own' => res = .bool (B.getD i false) ∧ own' = bufLed w x d l t1 t2 (B.length : Int) tn vs k := by
  have hdv : ((i : Int)).fdiv 8 = ((i / 8 : Nat) : Int) := by rw [Int.fdiv_eq_ediv_of_nonneg _ (by decide)]; rfl
  have hmd : ((i : Int)).fmod 8 = ((i % 8 : Nat) : Int) := by rw [Int.fmod_eq_emod_of_nonneg _ (by decide)]; rfl
  have hpl : (pack B).length = (B.length + 7) / 8 := pack_length B
  walk_at "bm fill"
  walk_at "bm enter"
  k_steps
  walk_at "bm end"
  exact ⟨congrArg Value.bool (get_eq _ i hlt), rfl⟩

end
-- BmRules
section
open PySem.Builtin PySem.Builtin._codecs
set_option maxRecDepth 100000
theorem enc_tree (x : Str) (t u : Tok) : «str.encode» ⟨[.str x t, .str (Str.ofString "utf-8") u], []⟩ = (do ret (← encodeRoad "str.encode" (.str x t) x (Str.ofString "utf-8") none)) := by kernel_rfl
theorem enc_tree2 (x : Str) (t u : Tok) : «str.encode» ⟨[.str x t, .str (Str.ofString "ascii") u], []⟩ = (do ret (← encodeRoad "str.encode" (.str x t) x (Str.ofString "ascii") none)) := by kernel_rfl
theorem road1 (self : Value) (x : Str) : encodeRoad "str.encode" self x (Str.ofString "utf-8") none = (do mkBytes (← encodeNarrow "str.encode" utf8Codec none self x)) := by kernel_rfl
theorem road2 (self : Value) (x : Str) : encodeRoad "str.encode" self x (Str.ofString "ascii") none = (do mkBytes (← encodeNarrow "str.encode" asciiCodec none self x)) := by kernel_rfl

theorem forIn_two {β : Type} (l : List Nat) (f : Nat → β → Sem (ForInStep β)) (b0 b1 : β) (hl : l ≠ []) (h0 : ∀ a, f a b0 = pure (.yield b1)) (h1 : ∀ a, f a b1 = pure (.done b1)) : forIn l b0 f = pure b1 := by
  cases l with
  | nil => exact absurd rfl hl
  | cons a l =>
    rw [List.forIn_cons, h0, pure_bind]
    cases l with
    | nil => rfl
    | cons a' l => simp only [List.forIn_cons, h1, pure_bind]


theorem narrow (id : String) (c : TextCodec) (self : Value) (x : Str) (hx : ∀ y ∈ x.cps, c.bad y = false) (hsz : (x.cps.foldl (fun acc y => acc ++ (c.bytesOf y).toArray) #[]).size ≤ sizeLine) :
   encodeNarrow id c none self x = pure (x.cps.foldl (fun acc y => acc ++ (c.bytesOf y).toArray) #[]) := by
  unfold encodeNarrow
  simp only [Std.Legacy.Range.forIn_eq_forIn_range']
  by_cases h0 : x.length = 0
  · have : x.cps = #[] := Array.eq_empty_of_size_eq_zero h0
    simp [Std.Legacy.Range.size, h0, this]
  · have hpos : 0 < x.cps.size := Nat.pos_of_ne_zero h0
    have hfi : Array.findIdx? c.bad (x.cps.extract 0) = none := by
      rw [Array.findIdx?_eq_none_iff]; intro y hy; rw [hx y (by simpa using hy)]
    have hx0 : x.cps[0]? = some x.cps[0] := by simp
    rw [forIn_two (b1 := (x.cps.size, x.cps.foldl (fun acc y => acc ++ (c.bytesOf y).toArray) #[], {}))]
    · rfl
    · simp [Std.Legacy.Range.size, h0]
    · intro a
      rw [if_neg (by decide +kernel)]
      simp only [hx0, hx x.cps[0] (by simp), Bool.not_false, if_true, hfi, Option.getD_none]
      simp
    · intro a
      rw [if_neg (Nat.not_lt.mpr hsz)]
      simp
abbrev ALNUM : Array UInt8 := #[48,49,50,51,52,53,54,55,56,57,65,66,67,68,69,70,71,72,73,74,75,76,77,78,79,80,81,82,83,84,85,86,87,88,89,90,32,36,37,42,43,45,46,47,58]

theorem gives_isdigit (b : Array UInt8) (t : Tok) : Gives («bytes.isdigit» ⟨[.bytes b t], []⟩) (.val (.bool (Bytes.allOf Bytes.isDigit b.toList))) := .of_eq (by kernel_rfl)
theorem slot_isdigit : Slot "bytes" "isdigit" "bytes.isdigit" :=
  .of (owner := "bytes") (n := "isdigit") (by rw [typeLookup_type, builtinLookup_eq_fast]; kernel_rfl) (by decide +kernel) (by decide +kernel) (by decide +kernel)
    (by first | exact .inl (by decide +kernel) | exact .inr (by decide +kernel)) (by rw [isSubtype_type]; kernel_rfl)
theorem type_isdigit : typeOf (.builtin "bytes.isdigit") = pure (.type "method_descriptor") := by show builtinType _ = _; rw [builtinType_eq_fast]; kernel_rfl
theorem entry_isdigit : entryFor table "bytes.isdigit" = some Builtin.«bytes.isdigit» := entryFor_of_tree (by kernel_rfl)
theorem args_isdigit (a : Value) : argsOk "bytes.isdigit" ⟨[a], []⟩ := by
  unfold argsOk; rw [signature?_of (id := "bytes.isdigit") (n := "isdigit".toList.reverse) (o := ['s', 'e', 't', 'y', 'b']) (by kernel_rfl) FB.owner_bytes]; kernel_rfl

theorem slot_find : Slot "bytes" "find" "bytes.find" :=
  .of (owner := "bytes") (n := "find") (by rw [typeLookup_type, builtinLookup_eq_fast]; kernel_rfl) (by decide +kernel) (by decide +kernel) (by decide +kernel)
    (by first | exact .inl (by decide +kernel) | exact .inr (by decide +kernel)) (by rw [isSubtype_type]; kernel_rfl)
theorem type_find : typeOf (.builtin "bytes.find") = pure (.type "method_descriptor") := by show builtinType _ = _; rw [builtinType_eq_fast]; kernel_rfl
theorem entry_find : entryFor table "bytes.find" = some Builtin.«bytes.find» := entryFor_of_tree (by kernel_rfl)
theorem args_find (a b : Value) : argsOk "bytes.find" ⟨[a, b], []⟩ := by
  unfold argsOk; rw [signature?_of (id := "bytes.find") (n := "find".toList.reverse) (o := ['s', 'e', 't', 'y', 'b']) (by kernel_rfl) FB.owner_bytes]; kernel_rfl
theorem find_tree (c : UInt8) (t u : Tok) : «bytes.find» ⟨[.bytes ALNUM t, .bytes #[c] u], []⟩ = (match Bytes.find? ALNUM #[c] 0 45 with | some i => retInt i | none => (do rule "bytes.find.not-found"; retInt (-1))) := by kernel_rfl

theorem gives_contains (b : Array UInt8) (v : Int) (t u : Tok) (h0 : 0 ≤ v) (h1 : v < 256) : Gives («bytes.__contains__» ⟨[.bytes b t, .int v u], []⟩) (.val (.bool (b.contains v.toNat.toUInt8))) := by
  refine .of_wp fun M A E s Q hq => ?_
  show wpAny M A (Bytes.containsIn _ (.bytes b t) (.int v u) >>= fun r => _) _ E s
  refine wpAny_bind ?_
  unfold Bytes.containsIn
  refine wpAny_bind (wpAny_attempt ?_)
  refine wpAny_of_eq (rfl : asIndex (.int v u) = pure v) ?_
  refine wpAny_bind (wpAny_of_eq KBy.buffer_eq ?_)
  dsimp only
  have e : ¬ ((decide (v < 0) || decide (v ≥ 256)) = true) := by simp; omega
  rw [if_neg e]
  exact wpAny_pure (wpAny_pure ⟨_, rfl, hq⟩)

theorem forIn_count {β : Type} (n : Nat) (g : Nat → β) (f : Nat → β → Sem (ForInStep β)) (h : ∀ k, k < n → ∀ a, f a (g k) = pure (.yield (g (k + 1)))) : ∀ (l : List Nat) (k : Nat), k + l.length = n → forIn l (g k) f = pure (g n) := by
  intro l
  induction l with
  | nil => intro k hk; rw [List.length_nil, Nat.add_zero] at hk; subst hk; rfl
  | cons a l ih =>
    intro k hk
    rw [List.length_cons] at hk
    rw [List.forIn_cons, h k (by omega), pure_bind]
    exact ih (k + 1) (by omega)

theorem ascii_run (id : String) (b : Array UInt8) (hb : ∀ i, i < b.size → (b.getD i 0).toNat < 128) (hsz : b.size ≤ sizeLine) :
    runDecoder id asciiDecoder none true b 0 [] = pure (b.map (·.toNat), b.size) := by
  unfold runDecoder
  simp only [Std.Legacy.Range.forIn_eq_forIn_range']
  have hn := forIn_count (β := Nat × Array Nat × Faults) b.size (fun k => (k, (b.extract 0 k).map (·.toNat), { held := [] }))
  have e0 : (b.extract 0 0).map (·.toNat) = #[] := by simp
  have e1 : (b.extract 0 b.size).map (·.toNat) = b.map (·.toNat) := by simp
  rw [show ((0, #[], { held := [] }) : Nat × Array Nat × Faults) = (fun k => (k, (b.extract 0 k).map (·.toNat), { held := [] })) 0 from by dsimp only; rw [e0]]
  rw [hn _ ?_ _ 0 (by simp [Std.Legacy.Range.size])]
  · rw [pure_bind, e1]
  · intro k hk a
    dsimp only
    rw [if_neg (by simp; omega), if_neg (by omega)]
    have hlt := hb k hk
    have ef : asciiDecoder.find true b k = .text [(b.getD k 0).toNat] (k + 1) := by
      show (if (b.getD k 0).toNat < 128 then _ else _) = _
      rw [if_pos hlt]; rfl
    rw [ef]
    dsimp only
    have e2 : (b.extract 0 (k + 1)).map (·.toNat) = (b.extract 0 k).map (·.toNat) ++ [(b.getD k 0).toNat].toArray := by
      have : b.extract 0 (k + 1) = (b.extract 0 k).push b[k] := by
        apply Array.ext' ; simp [List.take_add_one, hk]
      have hgd : b.getD k 0 = b[k] := by simp [Array.getD, hk]
      rw [this, Array.map_push, hgd, Array.push_eq_append]
    rw [e2]

section
variable {prog : Program} {w : World} {A : Around} {E : Value → Shared → Prop} {s : Shared} {b : Array UInt8} {t u : Tok} {Q : Value → Shared → Prop}
theorem call_isdigit (h : Q (.bool (Bytes.allOf Bytes.isDigit b.toList)) s) : wpAny (model prog w) A (call (.builtin "bytes.isdigit") [.bytes b t]) Q E s :=
  call_gives slot_isdigit (typeIs_bytes _ _ _) entry_isdigit (args_isdigit _) (gives_isdigit b t) h
theorem in_bytes {v : Int} (h0 : 0 ≤ v) (h1 : v < 256) (h : Q (.bool (b.contains v.toNat.toUInt8)) s) : wpAny (model prog w) A (compareOp .In (.int v u) (.bytes b t)) Q E s :=
  in_gives (typeIs_bytes _ _ _) FB.slot_bytes_contains FB.entry_bytes_contains (FB.args_bytes_contains_2 _ _) (gives_contains b v t u h0 h1) h

/-- the place of a sign among the 45, or -1. -/
def alnumIdx (c : UInt8) : Int := match Bytes.find? ALNUM #[c] 0 45 with | some i => (i : Int) | none => -1
theorem gives_find (c : UInt8) (t u : Tok) : Gives («bytes.find» ⟨[.bytes ALNUM t, .bytes #[c] u], []⟩) (.int (alnumIdx c)) := by
  rw [find_tree]
  unfold alnumIdx
  cases Bytes.find? ALNUM #[c] 0 45 with
  | some i => exact .of_eq rfl
  | none => exact .rule (.of_eq rfl)
theorem call_find {c : UInt8} (h : ∀ t' k, Q (.int (alnumIdx c) t') { s with toks := k }) : wpAny (model prog w) A (call (.builtin "bytes.find") [.bytes ALNUM t, .bytes #[c] u]) Q E s :=
  call_gives slot_find (typeIs_bytes _ _ _) entry_find (args_find _ _) (gives_find c t u) (h _ _)

theorem utf8_meets {x : Str} (hx : ∀ y ∈ x.cps, utf8Codec.bad y = false) (hsz : (x.cps.foldl (fun acc y => acc ++ (utf8Codec.bytesOf y).toArray) #[]).size ≤ sizeLine) :
    Gives («str.encode» ⟨[.str x t, .str (Str.ofString "utf-8") u], []⟩) (.bytes (x.cps.foldl (fun acc y => acc ++ (utf8Codec.bytesOf y).toArray) #[])) := by
  rw [enc_tree, road1, narrow _ _ _ _ hx hsz, pure_bind]
  refine .of_wp fun M A E s Q hq => ?_
  exact wpAny_bind (wpAny_mkBytes (wpAny_pure ⟨_, rfl, hq.2⟩) hsz)
theorem ascii_meets {x : Str} (hx : ∀ y ∈ x.cps, asciiCodec.bad y = false) (hsz : (x.cps.foldl (fun acc y => acc ++ (asciiCodec.bytesOf y).toArray) #[]).size ≤ sizeLine) :
    Gives («str.encode» ⟨[.str x t, .str (Str.ofString "ascii") u], []⟩) (.bytes (x.cps.foldl (fun acc y => acc ++ (asciiCodec.bytesOf y).toArray) #[])) := by
  rw [enc_tree2, road2, narrow _ _ _ _ hx hsz, pure_bind]
  refine .of_wp fun M A E s Q hq => ?_
  exact wpAny_bind (wpAny_mkBytes (wpAny_pure ⟨_, rfl, hq.2⟩) hsz)
end

theorem dec_entry (c : UInt8) (cs : List UInt8) (t u : Tok) : «bytes.decode» ⟨[.bytes (c :: cs).toArray t, .str (Str.ofString "ascii") u], []⟩ = (mkStr (Str.ofString "utf-8") >>= fun _ => mkStr (Str.ofString "ascii") >>= fun e => mkStr (Str.ofString "bytes.decode") >>= fun d =>
    call (.builtin "_codecs.decode.text") [.bytes (c :: cs).toArray t, e, .none, d] >>= fun v => ret v) := by kernel_rfl
theorem dec_road {id : String} {b : Array UInt8} : decodeRoad id b (Str.ofString "ascii") none [] = (runDecoder id asciiDecoder none true b 0 [] >>= fun r => mkStr ⟨r.1⟩) := by kernel_rfl
theorem dec_text {b : Array UInt8} {t t1 t2 : Tok} {d : Str} (hb : ∀ i, i < b.size → (b.getD i 0).toNat < 128) (hsz : b.size ≤ sizeLine) :
    Meets («_codecs.decode.text» ⟨[.bytes b t, .str (Str.ofString "ascii") t1, .none, .str d t2], []⟩) (fun _ R s => R (.ok (.ret (.str ⟨b.map (·.toNat)⟩ s.toks))) { s with toks := s.toks + 1 }) := by
  refine .of_wp fun prog w A R s h => ?_
  show wpAny _ _ (Bytes.bytesLike _ (.bytes b t) >>= fun r => _) _ _ s
  refine wpAny_bind (wpAny_of_eq KBd.like_eq ?_)
  refine wpAny_bind (wpAny_of_eq KBd.held_eq ?_)
  show wpAny _ _ (decodeRoad _ b (Str.ofString "ascii") none [] >>= fun v => _) _ _ s
  rw [dec_road, ascii_run _ _ hb hsz]
  refine wpAny_bind (wpAny_bind (wpAny_pure ?_))
  exact wpAny_mkStr (wpAny_pure ⟨_, rfl, h⟩) (by show (b.map (·.toNat)).size ≤ _; rw [Array.size_map]; exact hsz)
theorem dec_meets {c : UInt8} {cs : List UInt8} {t u : Tok} (hb : ∀ i, i < (c :: cs).toArray.size → ((c :: cs).toArray.getD i 0).toNat < 128) (hsz : (c :: cs).toArray.size ≤ sizeLine) :
    Meets («bytes.decode» ⟨[.bytes (c :: cs).toArray t, .str (Str.ofString "ascii") u], []⟩) (fun _ R s => ∀ t' k, R (.ok (.ret (.str ⟨(c :: cs).toArray.map (·.toNat)⟩ t'))) { s with toks := k }) := by
  refine .of_wp fun prog w A R s h => ?_
  rw [dec_entry]
  refine wpAny_bind (wpAny_mkStr ?_ (by decide))
  refine wpAny_bind (wpAny_mkStr ?_ (by decide))
  refine wpAny_bind (wpAny_mkStr ?_ (by decide))
  exact wpAny_bind (call_function_meets KBd.kind_text KBd.plain_text KBd.entry_text (KBd.args_text _ _ _ _) (dec_text hb hsz) (wpAny_pure ⟨_, rfl, h _ _⟩))
theorem args_decode2 (a b : Value) : argsOk "bytes.decode" ⟨[a, b], []⟩ := by
  unfold argsOk; rw [signature?_of (id := "bytes.decode") (n := ['e', 'd', 'o', 'c', 'e', 'd']) (o := ['s', 'e', 't', 'y', 'b']) (by kernel_rfl) FB.owner_bytes]; kernel_rfl

/-- the number of one, two or three digits. -/
def digNum (l : List UInt8) : Int := l.foldl (fun n c => 10 * n + ((c.toNat : Int) - 48)) 0
theorem int1 : ∀ a : Nat, a < 10 → PySem.intText? ⟨#[a + 48]⟩ = some (a : Int) := by decide +kernel
theorem int2 : ∀ a : Nat, a < 10 → ∀ b : Nat, b < 10 → PySem.intText? ⟨#[a + 48, b + 48]⟩ = some (10 * (a : Int) + b) := by decide +kernel
theorem int3 : ∀ a : Nat, a < 10 → ∀ b : Nat, b < 10 → ∀ c : Nat, c < 10 → PySem.intText? ⟨#[a + 48, b + 48, c + 48]⟩ = some (100 * (a : Int) + 10 * b + c) := by decide +kernel
def isDig (c : UInt8) : Prop := 48 ≤ c.toNat ∧ c.toNat ≤ 57
theorem digNum_text {l : List UInt8} (h : ∀ c ∈ l, isDig c) (h0 : l ≠ []) (h3 : l.length ≤ 3) : PySem.intText? ⟨l.toArray.map (·.toNat)⟩ = some (digNum l) := by
  match l, h0, h3, h with
  | [a], _, _, h =>
    obtain ⟨a1, a2⟩ := h a (by simp)
    have := int1 (a.toNat - 48) (by omega)
    rw [show a.toNat - 48 + 48 = a.toNat by omega] at this
    simp only [List.map_toArray, List.map_cons, List.map_nil]
    rw [this]; simp only [digNum, List.foldl_cons, List.foldl_nil]; congr 1; omega
  | [a, b], _, _, h =>
    obtain ⟨a1, a2⟩ := h a (by simp)
    obtain ⟨b1, b2⟩ := h b (by simp)
    have := int2 (a.toNat - 48) (by omega) (b.toNat - 48) (by omega)
    rw [show a.toNat - 48 + 48 = a.toNat by omega, show b.toNat - 48 + 48 = b.toNat by omega] at this
    simp only [List.map_toArray, List.map_cons, List.map_nil]
    rw [this]; simp only [digNum, List.foldl_cons, List.foldl_nil]; congr 1; omega
  | [a, b, c], _, _, h =>
    obtain ⟨a1, a2⟩ := h a (by simp)
    obtain ⟨b1, b2⟩ := h b (by simp)
    obtain ⟨c1, c2⟩ := h c (by simp)
    have := int3 (a.toNat - 48) (by omega) (b.toNat - 48) (by omega) (c.toNat - 48) (by omega)
    rw [show a.toNat - 48 + 48 = a.toNat by omega, show b.toNat - 48 + 48 = b.toNat by omega, show c.toNat - 48 + 48 = c.toNat by omega] at this
    simp only [List.map_toArray, List.map_cons, List.map_nil]
    rw [this]; simp only [digNum, List.foldl_cons, List.foldl_nil]; congr 1; omega
  | _ :: _ :: _ :: _ :: _, _, h3, _ => simp at h3
section
variable {prog : Program} {w : World} {A : Around} {E : Value → Shared → Prop} {s : Shared} {t u : Tok} {Q : Value → Shared → Prop}
theorem call_decode {b : Array UInt8} (h0 : 0 < b.size) (hb : ∀ c ∈ b.toList, isDig c) (hsz : b.size ≤ 1000) (h : ∀ t' k, Q (.str ⟨b.map (·.toNat)⟩ t') { s with toks := k }) :
    wpAny (model prog w) A (call (.builtin "bytes.decode") [.bytes b t, .str (Str.ofString "ascii") u]) Q E s := by
  obtain ⟨l⟩ := b
  match l, h0 with
  | c :: cs, _ =>
    refine call_meets FB.slot_bytes_decode (typeIs_bytes _ _ _) FB.entry_bytes_decode (args_decode2 _ _) (dec_meets (fun i hi => ?_) (by rw [sizeLine_eq]; exact Nat.le_trans hsz (by decide))) h
    have hm : (c :: cs).toArray.getD i 0 ∈ c :: cs := by
      rw [Array.getD, dif_pos hi]
      exact List.getElem_mem _
    exact Nat.lt_of_le_of_lt (hb _ hm).2 (by decide)
theorem call_intDig {b : Array UInt8} (h0 : 0 < b.size) (hb : ∀ c ∈ b.toList, isDig c) (hsz : b.size ≤ 3) (h : ∀ t' k, Q (.int (digNum b.toList) t') { s with toks := k }) :
    wpAny (model prog w) A (call (.type "int") [.str ⟨b.map (·.toNat)⟩ t]) Q E s := by
  refine KIN.call_text (n := digNum b.toList) ?_ ?_ (h _ _)
  · have := digNum_text (l := b.toList) hb (fun e => by have : b.size = 0 := by rw [← Array.length_toList, e]; rfl
                                                        omega) (by rw [Array.length_toList]; exact hsz)
    simpa using this
  · show (b.map (·.toNat)).size ≤ 640
    rw [Array.size_map]; omega
theorem method_bytes {M : Model} {b : Array UInt8} {pl : Sem Bool} {Q : Value × List Value → Shared → Prop} {name : Str} {id : String} (slot : Slot "bytes" name id) (ty : typeOf (.builtin id) = pure (.type "method_descriptor")) (h : Q (.builtin id, [.bytes b t]) s) : wpAny M A (getMethod (.bytes b t) name pl) Q E s :=
  KBd.method_of (.bytes b t) (typeIs_bytes _ _ _) slot ty KBd.noRef h
end
section
variable {M : Model} {A : Around} {E : Value → Shared → Prop} {s : Shared}
theorem method_encode {x : Str} {t : Tok} {pl : Sem Bool} {Q : Value × List Value → Shared → Prop} (h : Q (.builtin "str.encode", [.str x t]) s) : wpAny M A (getMethod (.str x t) "encode" pl) Q E s :=
  getMethod_builtin rfl F.plainAttrs_str F.slot_str_encode F.type_str_encode (fun _ e => nomatch e) h
end

/-- what write puts for digits, for signs, for octets. -/
def enc1 : List UInt8 → List Bool
  | a :: b :: c :: r => bitsOf (digNum [a, b, c]) 10 ++ enc1 r
  | [a, b] => bitsOf (digNum [a, b]) 7
  | [a] => bitsOf (digNum [a]) 4
  | [] => []
def enc2 : List UInt8 → List Bool
  | a :: b :: r => bitsOf (alnumIdx a * 45 + alnumIdx b) 11 ++ enc2 r
  | [a] => bitsOf (alnumIdx a) 6
  | [] => []
def enc4 : List UInt8 → List Bool
  | c :: r => bitsOf (c.toNat : Int) 8 ++ enc4 r
  | [] => []
theorem enc1_len : ∀ l : List UInt8, (enc1 l).length = 10 * (l.length / 3) + [0, 4, 7].getD (l.length % 3) 0
  | [] => rfl
  | [a] => by rw [enc1, bitsOf_length]; simp
  | [a, b] => by rw [enc1, bitsOf_length]; simp
  | a :: b :: c :: r => by
    have ih := enc1_len r
    rw [enc1, List.length_append, ih, bitsOf_length]
    simp only [List.length_cons]
    rw [show r.length + 1 + 1 + 1 = r.length + 3 by omega, Nat.add_mod_right, Nat.add_div_right _ (by decide)]
    omega
theorem enc2_len : ∀ l : List UInt8, (enc2 l).length = 11 * (l.length / 2) + 6 * (l.length % 2)
  | [] => rfl
  | [a] => by rw [enc2, bitsOf_length]; simp
  | a :: b :: r => by
    have ih := enc2_len r
    rw [enc2, List.length_append, ih, bitsOf_length]
    simp only [List.length_cons]
    omega
theorem enc4_len : ∀ l : List UInt8, (enc4 l).length = 8 * l.length
  | [] => rfl
  | a :: r => by
    have ih := enc4_len r
    rw [enc4, List.length_append, ih, bitsOf_length]
    simp only [List.length_cons]
    omega
theorem rangeSize3 (n c : Nat) (hc : 0 < c) : PySem.Builtin.Range.rangeSize 0 (n : Int) (c : Int) = (((n + c - 1) / c : Nat) : Int) := by
  unfold PySem.Builtin.Range.rangeSize
  rw [if_pos (by omega)]
  by_cases h : 0 < n
  · rw [if_pos (by omega)]
    have e : n + c - 1 = (n - 1) + c := by omega
    rw [e, Nat.add_div_right _ hc]
    have e2 : (n : Int) - 0 - 1 = ((n - 1 : Nat) : Int) := by omega
    rw [e2]
    push_cast
    rfl
  · have : n = 0 := by omega
    subst this
    rw [if_neg (by omega), Nat.zero_add, Nat.div_eq_of_lt (by omega)]
    rfl
theorem bInts_inj {a b : Array UInt8} (h : KBw.bInts a = KBw.bInts b) : a = b := by
  unfold KBw.bInts at h
  apply Array.ext'
  generalize a.toList = x at h ⊢
  generalize b.toList = y at h ⊢
  induction x generalizing y with
  | nil => cases y with
    | nil => rfl
    | cons d y => simp at h
  | cons c x ih => cases y with
    | nil => simp at h
    | cons d y =>
      simp only [List.map_cons, List.cons.injEq] at h
      have e : c = d := UInt8.toNat_inj.mp (by omega)
      rw [e, ih y h.2]
section
variable {prog : Program} {w : World} {A : Around} {E : Value → Shared → Prop} {s : Shared} {value slice : PySem.Expr} {b : Array UInt8} {t : Tok} {h₀ : Heap} {L : Addr} {m : PySem.Str → Option Value} {news : List (Addr × Obj)} {l u : Value} {lo hi : Option Int} {Q : Value → Shared → Prop} {r : List UInt8}
theorem slice_list (hF : Fr h₀ L s.heap m) (hN : News h₀ L s.heap news) (hl : IsPart l lo) (hu : IsPart u hi) (hz : b.size ≤ 16777216)
    (he : (b.toList.drop (lo.elim 0 (clipAt b.size))).take (hi.elim b.size (clipAt b.size) - lo.elim 0 (clipAt b.size)) = r)
    (h : ∀ h' t' k, Fr h₀ L h' m → News h₀ L h' news → Q (.bytes r.toArray t') { s with heap := h', toks := k })
    (hs : subscripted slice false (.bytes b t) (.ref s.heap.objs.size) = operate [.ref s.heap.objs.size, .bytes b t] (getItem (.bytes b t) (.ref s.heap.objs.size)) := by with_unfolding_all rfl)
    (ht : ∀ r, letTemporaryGo value (.bytes b t) r = pure () := by intro _; with_unfolding_all rfl) :
    wpAny (model prog w) A (subscriptTail value slice (.bytes b t) (.ref s.heap.objs.size)) Q E { s with heap := s.heap.push { cls := .type "slice", data := .fields #[l, u, .none] } } := by
  have hlen : (KBw.bInts b).length = b.size := KBw.ints_length b
  refine KBc.slice_K hF hN rfl hl hu (by rw [hlen]; exact hz) (fun h' t' k F' N' e => ?_) hs ht
  have e2 : KBy.picked b lo hi = r.toArray := bInts_inj (by
    rw [e, hlen, ← he]
    unfold KBw.bInts
    simp only [List.map_take, List.map_drop])
  rw [e2]
  exact h h' t' k F' N'
end
theorem clip_nat (n i : Nat) : clipAt n (i : Int) = min i n := clipAt_nat n i
theorem cut_eq (o : Array UInt8) (a c : Nat) (ha : a ≤ o.size) : (o.toList.drop (min a o.size)).take (min (a + c) o.size - min a o.size) = (o.toList.drop a).take c := by
  rw [Nat.min_eq_left ha, List.take_eq_take_iff, List.length_drop, Array.length_toList]
  omega
theorem alnum_range0 : ∀ n : Fin 256, -1 ≤ alnumIdx (UInt8.ofNat n.val) ∧ alnumIdx (UInt8.ofNat n.val) < 45 := by decide +kernel
theorem alnum_range (c : UInt8) : -1 ≤ alnumIdx c ∧ alnumIdx c < 45 := by
  have := alnum_range0 ⟨c.toNat, c.toNat_lt⟩
  simpa using this

end
local macro_rules | `(tactic| walk_at "getMethod bytes") => `(tactic| (k_here; first | (with_reducible refine method_bytes slot_isdigit type_isdigit ?_) | (with_reducible refine method_bytes slot_find type_find ?_) | (with_reducible refine method_bytes FB.slot_bytes_decode FB.type_bytes_decode ?_)))
local macro_rules | `(tactic| walk_at "call builtin:bytes.isdigit") => `(tactic| (k_here; refine call_isdigit ?_))
local macro_rules | `(tactic| walk_at "call builtin:bytes.find") => `(tactic| (k_here; refine Hold.out ?_))
local macro_rules | `(tactic| walk_at "call builtin:bytes.decode") => `(tactic| (k_here; refine Hold.out ?_))
local macro_rules | `(tactic| walk_at "call builtin:str.encode") => `(tactic| (k_here; refine Hold.out ?_))
local macro_rules | `(tactic| walk_at "getMethod str") => `(tactic| (k_here; (with_reducible refine method_encode ?_)))
local macro_rules | `(tactic| walk_at "subscriptTail") => `(tactic| (k_here; (with_reducible show wpAny _ _ (subscriptTail _ (PySem.Expr.Slice _ _ none _) (Value.bytes _ _) (Value.ref _)) _ _ _); refine Hold.out ?_))
local macro_rules | `(tactic| walk_at "call type:int") => `(tactic| (k_here; (with_reducible show wpAny _ _ (PySem.call (Value.type "int") [Value.str _ _]) _ _ _); refine Hold.out ?_))
local macro_rules | `(tactic| walk_at "exec Assign cons ListComp") => `(tactic| (k_here; refine Hold.out ?_))
local macro_rules | `(tactic| walk_at "subscriptTail Name Slice ref ref") => `(tactic| (k_here; refine Hold.out ?_))
-- BmToBytes
section
/-- the octets of a text (UTF-8). -/
def utf8 (x : Str) : Array UInt8 := x.cps.foldl (fun acc y => acc ++ (PySem.Builtin._codecs.utf8Codec.bytesOf y).toArray) #[]
/-- what a part is made of, and its octets. -/
inductive IsWhat : Value → Array UInt8 → Prop
  | bytes (b : Array UInt8) (t : Tok) : IsWhat (.bytes b t) b
  | int (n : Int) (t : Tok) : n.natAbs < 10 ^ 10 → IsWhat (.int n t) (utf8 (Str.ofString (toString n)))
  | str (x : Str) (t : Tok) : (∀ y ∈ x.cps, Str.isSurrogate y = false) → x.length ≤ 1000 → IsWhat (.str x t) (utf8 x)
theorem wpAny_encode {prog : Program} {w : World} {A : Around} {E : Value → Shared → Prop} {s : Shared} {t u : Tok} {Q : Value → Shared → Prop} {x : Str} (hx : ∀ y ∈ x.cps, Str.isSurrogate y = false) (hsz : (utf8 x).size ≤ 16777216)
    (h : ∀ t' k, Q (.bytes (utf8 x) t') { s with toks := k }) : wpAny (model prog w) A (call (.builtin "str.encode") [.str x t, .str (Str.ofString "utf-8") u]) Q E s :=
  call_gives F.slot_str_encode rfl F.entry_str_encode (F.args_str_encode_2 _ _) (utf8_meets hx (by rw [sizeLine_eq]; exact hsz)) ⟨by rw [sizeLine_eq]; exact hsz, h _ _⟩

theorem utf8_one (c : Nat) : (PySem.Builtin._codecs.utf8Codec.bytesOf c).length ≤ 4 := by
  show (Str.utf8Of c).length ≤ 4
  unfold Str.utf8Of
  split
  · simp
  · split
    · simp
    · split <;> simp
theorem utf8_fold (l : List Nat) (a : Array UInt8) : (l.foldl (fun acc y => acc ++ (PySem.Builtin._codecs.utf8Codec.bytesOf y).toArray) a).size ≤ a.size + 4 * l.length := by
  induction l generalizing a with
  | nil => simp
  | cons c l ih =>
    rw [List.foldl_cons]
    refine Nat.le_trans (ih _) ?_
    have := utf8_one c
    simp only [Array.size_append, List.size_toArray, List.length_cons]
    omega
theorem utf8_size (x : Str) : (utf8 x).size ≤ 4 * x.length := by
  unfold utf8
  rw [← Array.foldl_toList]
  have := utf8_fold x.cps.toList #[]
  simp only [List.size_toArray, List.length_nil, Nat.zero_add, Array.length_toList] at this
  exact this
theorem dig_plain (n : Int) : ∀ y ∈ (Str.ofString (toString n)).cps, y < 128 := by
  intro y hy
  by_cases h : y ≠ 45 ∧ (y < 48 ∨ 57 < y)
  · exact absurd (Array.mem_toList_iff.mpr hy) (int_text_free' y h n)
  · omega
set_option maxRecDepth 100000 in
set_option maxHeartbeats 8000000 in
theorem to_bytes_b (w : World) (h00 : Heap) (mg mb : Str → Option Value) (b : Array UInt8) (t : Tok) :
    CallOk w h00 mg mb 1 8 (.ref 22) [.bytes b t] [] fun r own' => (∃ t', r = .bytes b t') ∧ own' = [] := by
  walk_at "bm fill"
  walk_at "bm enter"
  k_steps
  walk_at "bm end"
  exact ⟨⟨_, rfl⟩, rfl⟩
set_option maxRecDepth 100000 in
set_option maxHeartbeats 8000000 in
theorem to_bytes_s (w : World) (h00 : Heap) (mg mb : Str → Option Value) (x : Str) (t : Tok) (hx : ∀ y ∈ x.cps, Str.isSurrogate y = false) (hl : x.length ≤ 1000) :
    CallOk w h00 mg mb 1 8 (.ref 22) [.str x t] [] fun r own' => (∃ t', r = .bytes (utf8 x) t') ∧ own' = [] := by
  walk_at "bm fill"
  walk_at "bm enter"
  k_steps
  refine Hold.mk ?_
  have hz := utf8_size x
  refine wpAny_encode hx (by omega) ?_
  intro t' k
  k_steps
  walk_at "bm end"
  exact ⟨⟨_, rfl⟩, rfl⟩
set_option maxRecDepth 100000 in
set_option maxHeartbeats 8000000 in
theorem to_bytes_i (w : World) (h00 : Heap) (mg mb : Str → Option Value) (n : Int) (t : Tok) (hx : n.natAbs < 10 ^ 10) :
    CallOk w h00 mg mb 1 8 (.ref 22) [.int n t] [] fun r own' => (∃ t', r = .bytes (utf8 (Str.ofString (toString n))) t') ∧ own' = [] := by
  walk_at "bm fill"
  walk_at "bm enter"
  k_steps
  refine Hold.mk ?_
  have hz := utf8_size (Str.ofString (toString n))
  have hl := int_text_length_le10 (k := 10) (by decide) hx
  refine wpAny_encode (fun y hy => ?_) ?_ ?_
  · have := dig_plain n y hy
    unfold Str.isSurrogate
    simp; omega
  · rw [PySem.ofString_length] at hz; omega
  intro t' k
  k_steps
  walk_at "bm end"
  exact ⟨⟨_, rfl⟩, rfl⟩
/-- to_bytestring. -/
theorem to_bytes_ok (w : World) (h00 : Heap) (mg mb : Str → Option Value) {v : Value} {o : Array UInt8} (h : IsWhat v o) :
    CallOk w h00 mg mb 1 8 (.ref 22) [v] [] fun r own' => (∃ t', r = .bytes o t') ∧ own' = [] := by
  cases h with
  | bytes b t => exact to_bytes_b w h00 mg mb _ _
  | int n t h => exact to_bytes_i w h00 mg mb _ _ h
  | str x t h1 h2 => exact to_bytes_s w h00 mg mb _ _ h1 h2

end
-- BmOptimal
section
def leastMode (o : Array UInt8) : Int := if PySem.Builtin.Bytes.allOf PySem.Builtin.Bytes.isDigit o.toList then 1 else if o.toList.all (fun c => ALNUM.contains c) then 2 else 4
theorem isCode24 {w : World} {h₀ h : Heap} {L : Addr} {m : Str → Option Value} {ob : Obj} (X : (hd.heap_39 w.params).In h₀) (F : Fr h₀ L h m) (N : News h₀ L h [(24, ob)]) (ht : TabOk ob) : ∃ ps, h.IsCode 28 24 ps ∧ h.TableAt 28 24 ps := by
  have _hk : Challenge.rw_bm0033_01 = Challenge.rw_bm0033_01 ∧ hd.heap_39 = hd.heap_39 := by (k_fill; exact ⟨rfl, rfl⟩)
  obtain ⟨ps, h1, h2⟩ := ht
  have h28 := F.keep 28 _ (X 28 _ (by k_is))
  exact ⟨ps, ⟨_, _, _, _, _, _, _, _, _, _, h28, rfl, by rfl, by rfl, by rfl, by rfl, by rfl, (N _ (.head _)).1, by rw [h1], h2, by decide⟩, ⟨⟨_, _, h28, by rfl, rfl, by rfl⟩, by rw [(N _ (.head _)).1, h1]⟩⟩

theorem genexpr_tab {M : Model} {A : Around} {E : Value → Shared → Prop} {s : Shared} {env : Env} {c P : Addr} {ps : Array Value} {pos : Pos} {qualname : Str} {scope : Scope} {Q : Value → Shared → Prop} (hc : env.code = .ref c) (hok : s.heap.IsCode c P ps) (htab : s.heap.TableAt c P ps)
    (hQ : ∀ code h' tk ps', Heap.ExtBut P s.heap h' → h'.IsCode c P ps' → h'.get? P = some { cls := .none, data := .fields ps' } → Q code { s with heap := h', toks := tk }) : wpAny M A (genexprCode env pos qualname scope) Q E s := by
  cases hnf : codeAmong pos ps.toList with
  | some cv => exact wpAny_genexprCode_hit hc hok hnf (hQ cv s.heap s.toks ps (Heap.ExtBut.refl _ _) hok htab.2)
  | none => exact wpAny_genexprCodeX hc hok htab hnf (fun c' h' tk hx _ _ hi _ ht _ => hQ _ h' tk _ hx hi ht.2)
theorem all_gen_eq (o : Array UInt8) (q : UInt8 → Bool) : ((List.range (passing (fun _ => true) o.size 0).length).all fun j => match o[j]? with | some c => q c | none => true) = o.toList.all q := by
  have hpass : passing (fun _ => true) o.size 0 = List.range o.size := by simp [passing]
  rw [hpass, List.length_range]
  have := all_rangeD o.toList q
  rw [Array.length_toList] at this
  rw [← this]
  simp only [Array.getElem?_toList]
  refine congrArg _ (funext fun j => ?_)
  cases o[j]? <;> rfl
set_option maxRecDepth 100000 in
set_option maxHeartbeats 8000000 in
theorem optimal_ok (w : World) (h00 : Heap) (mg mb : Str → Option Value) (o : Array UInt8) (t : Tok) (ob : Obj) (ht : TabOk ob) (ho : o.size ≤ 1000) :
    CallOkG w h00 mg mb 3 20 (.ref 29) [.bytes o t] [] [(24, ob)] fun r own' => (∃ t', r = .int (leastMode o) t') ∧ ∃ ob', own' = [(24, ob')] ∧ TabOk ob' := by
  walk_at "bm fill"
  walk_at "bm enterG"
  k_steps
  · (rename _ = true => hdig)
    walk_at "bm endG"
    exact ⟨⟨_, by unfold leastMode; rw [if_pos hdig]⟩, ob, rfl, ht⟩
  (rename _ = false => hdig)
  (with_reducible rename Fr _ _ _ _ => F1)
  (with_reducible rename News _ _ _ _ => N1)
  obtain ⟨ps, hcode, htabl⟩ := isCode24 X' F1 N1 ht
  with_unfolding_all refine wpAny_GeneratorExp_walksQ (cl := []) (by rfl) (by rfl) (by rfl) (by decide) (by rfl) (by rfl) (by rfl) ?hroom ?hgen (fun _ => by rfl)
  case hroom => ktr_room
  case hgen => 
    k_steps
    refine Hold.mk ?_
    refine KBw.pyIter_bytes ?_
    dsimp only
    have hsz24 : (24 : Addr) < h'.objs.size := Heap.lt_size (N1 _ (.head _)).1
    have hg24 : g'.get? 24 = none := (N1 _ (.head _)).2.2
    have hL24 : (24 : Addr) ≠ L' := (N1 _ (.head _)).2.1
    have hLlt : L' < h'.objs.size := F1.ns.lt
    refine ⟨(T'.nolimit.keeps F1.keep).push _, genexpr_tab (c := 28) (P := 24) (ps := ps) rfl (hcode.push _) (htabl.push _) fun code h3 tk3 ps3 hext hcode3 htab3 => ?_⟩
    have keep3 : ∀ b o', g'.get? b = some o' → h3.get? b = some o' := fun b o' e => hext b o' (fun q => by rw [q, hg24] at e; cases e) (Heap.get?_push_of_some _ (F1.keep b o' e))
    have keepP : ∀ b o', b ≠ 24 → h'.get? b = some o' → h3.get? b = some o' := fun b o' hb e => hext b o' hb (Heap.get?_push_of_some _ e)
    obtain ⟨bm, obm, Mb⟩ := bmod_of_top T'
    have M3 := Mb.keeps keep3
    refine wpAny_builtinsFor M3.ns M3.name M3.ne M3.obj M3.cls M3.dict M3.data ?_
    have hIne : h'.objs.size ≠ (24 : Addr) := fun q => by rw [q] at hsz24; exact Nat.lt_irrefl _ hsz24
    have hI3 : h3.get? h'.objs.size = some { cls := Value.type "bytes_iterator", data := Data.fields #[Value.bytes o t, Value.int 0 0] } := hext _ _ hIne (Heap.get?_push_size _ rfl)
    have hsz3 : h'.objs.size < h3.objs.size := Heap.lt_size hI3
    have hnl3 : h3.NoLimit := T'.nolimit.keeps keep3
    have hcs : cStatics < h'.objs.size := by
      obtain ⟨_, hn, _⟩ := T'.nolimit.keeps F1.keep
      exact hn.lt
    refine ⟨h'.objs.size, [h'.objs.size], [h'.objs.size], o.size, fun i v => ∃ c u, o[i]? = some c ∧ v = .int (c.toNat : Int) u, fun i h => KBw.IsBytesIter h h'.objs.size o t i, fun _ => true, fun i y => ∃ c, o[i]? = some c ∧ y = .bool (ALNUM.contains c), rfl, fun A' hA => KBw.walks hA _ o t, ⟨_, hI3, rfl, rfl⟩, ?fp, hnl3, ?cs, ?q, ?fin⟩
    case fp =>
      intro b hb
      rw [List.mem_singleton.mp hb]; exact hsz3
    case cs =>
      intro hb
      rw [List.mem_singleton.mp hb] at hcs; exact Nat.lt_irrefl _ hcs
    case q =>
      intro href hhref
      refine ⟨fun A' E' i v s2 m2 hA hP hns hm hk => wpAny_pure ⟨rfl, _, _, rfl, fun _ _ e => e⟩, ?_⟩
      rintro A' E' i v s2 m2 hA ⟨c, u, hc, rfl⟩ _ hns hm hk
      have FC : Fr g' h3.objs.size s2.heap m2 := ⟨hns, fun b o' e => hk b (List.mem_range.mpr (Heap.lt_size (keep3 b o' e))) (fun hb => by
        have h1 := Heap.lt_size (F1.keep b o' e)
        rw [List.mem_singleton.mp hb] at h1
        exact Nat.lt_irrefl _ h1) o' (hhref b o' (keep3 b o' e)), Nat.le_trans F1.above (Nat.le_of_lt (Nat.lt_trans hLlt hsz3))⟩
      refine wpAny_Compare1 (ldVarG FC hm ?_)
      refine nameG_K FC X' (topRead_of T') (by k_is) ?_ rfl rfl rfl (by decide)
      have hc2 : (c.toNat : Int).toNat.toUInt8 = c := by simp
      refine in_bytes (by omega) (by have := c.toNat_lt; omega) ⟨⟨c, hc, ?_⟩, _, _, rfl, fun _ _ e => e⟩
      rw [hc2]
    case fin =>
      intro a h5 tk5 gs hgs hlt hsz5 hk5 W hat
      k_steps
      have W1 := W.in4_1
      have hpass : passing (fun _ => true) o.size 0 = List.range o.size := by simp [passing]
      refine call_all_walkS (W1.self 0 _ _ _ hat ⟨a, _, _, _, _, _, _, (fun j => match o[j]? with | some c => ALNUM.contains c | none => true), rfl, W1, hat, ?_, ?_⟩)
      · rintro j v s8 Q8 E8 ⟨i, hi, c, hc, rfl⟩ hQ
        rw [hpass] at hi
        have hij : i = j := by
          have := List.getElem?_eq_some_iff.mp hi
          obtain ⟨hlt8, e8⟩ := this
          simpa using e8.symm
        subst hij
        dsimp only at hQ
        rw [hc] at hQ
        exact wpAny_truthy_bool hQ
      · rintro ⟨h6, g6, d6, t6, os6⟩ hm
        have hd6 := hm.drawn
        have ho6 := hm.os
        dsimp only at hd6 ho6
        subst hd6
        subst ho6
        have hg6 : AllBare g6 := (AllBare.push hgb hgs).moved hm.gens
        have hmv : ∀ b o', b ≠ h3.objs.size → b ≠ h'.objs.size → h5.get? b = some o' → h6.get? b = some o' := fun b o' h1 h2 e => hm.heap b o' (fun hb => by
          rcases List.mem_cons.mp hb with q | hb
          · exact h1 q
          · exact h2 (List.mem_singleton.mp hb)) e
        have hall : ∀ b o', b < h'.objs.size → h3.get? b = some o' → h6.get? b = some o' := fun b o' hb e => hmv b o' (Nat.ne_of_lt (Nat.lt_trans hb hsz3)) (Nat.ne_of_lt hb) (hk5 b o' e)
        have F6 : Fr g' L' h6 _ := ⟨(F1.ns.at' fun o' e => hall L' o' hLlt (keepP L' o' (Ne.symm hL24) e)), fun b o' e => hall b o' (Heap.lt_size (F1.keep b o' e)) (keep3 b o' e), F1.above⟩
        obtain ⟨oc, vsc, fl, tf, flg, tg, inF, tx, tt, op, c1, c2, c3, c4, c5, c6, c7, c8, c9, c10, c11⟩ := hcode3
        have N6 : News g' L' h6 [(24, op)] := fun p hp => by
          rw [List.mem_singleton.mp hp]
          exact ⟨hall 24 op hsz24 c8, hL24, hg24⟩
        have ht6 : TabOk op := ⟨ps3, Option.some.inj (c8.symm.trans htab3), c10⟩
        rw [all_gen_eq o (fun c => ALNUM.contains c)]
        generalize hall2 : o.toList.all (fun c => ALNUM.contains c) = bb
        clear hcode hat W W1 hk5 hmv hall c1 c2 c3 c4 c5 c6 c7 c8 c9 c10 c11 hext keepP hI3 F1 N1
        k_steps
        · (rename bb = true => hbt)
          refine' ret _ _ _ g6 _ ?e1 ?e2 (fun b o' e hn => ?e3) hg6 ?_
          case e1 => k_asm
          case e2 => k_asm
          case e3 => exact F6.keep b o' (kG' b o' e hn)
          exact ⟨⟨_, by unfold leastMode; rw [hdig, hall2, hbt]; rfl⟩, op, rfl, ht6⟩
        · (rename bb = false => hbt)
          refine' ret _ _ _ g6 _ ?e1 ?e2 (fun b o' e hn => ?e3) hg6 ?_
          case e1 => k_asm
          case e2 => k_asm
          case e3 => exact F6.keep b o' (kG' b o' e hn)
          exact ⟨⟨_, by unfold leastMode; rw [hdig, hall2, hbt]; rfl⟩, op, rfl, ht6⟩

end
-- BmNew
section
/-- a part's dict. -/
abbrev partDict (w : World) (t1 t2 : Nat) (m : Int) (tm : Tok) (o : Array UInt8) (tb : Tok) : Obj :=
  dictOf [⟨PyData.keyHash w.params (Str.ofString "mode"), .str (Str.ofString "mode") t1, .int m tm⟩, ⟨PyData.keyHash w.params (Str.ofString "data"), .str (Str.ofString "data") t2, .bytes o tb⟩] 2
theorem off24 {x dx : Addr} {o1 o2 : Obj} (hlt : @LT.lt Nat _ dx x) (h24 : @LT.lt Nat _ 24 dx) : ∀ p ∈ [(x, o1), (dx, o2)], p.1 ∉ [(24 : Addr)] := by
  intro p hp hq
  have e := List.mem_singleton.mp hq
  rcases List.mem_cons.mp hp with rfl | hp
  · exact absurd (Nat.lt_trans h24 hlt) (by rw [show x = 24 from e]; exact Nat.lt_irrefl _)
  · rw [List.mem_singleton.mp hp] at e
    exact absurd h24 (by rw [show dx = 24 from e]; exact Nat.lt_irrefl _)
theorem gsub_new {hs h1 g h' : Heap} {x dx L' : Addr} {m' : Str → Option Value} {a1 a2 : Obj} {news : List (Addr × Obj)} (hk : ∀ b o, hs.get? b = some o → h1.get? b = some o ∧ @LT.lt Nat _ b dx) (hlt : @LT.lt Nat _ dx x) (G : GSub h1 g (List.map (fun x => x.fst) ((x, a1) :: (dx, a2) :: news))) (F : Fr g L' h' m') : GSub hs h' (List.map (fun x => x.fst) news) := fun b o e hn => by
  obtain ⟨e1, hb⟩ := hk b o e
  refine F.keep b o (G b o e1 fun hm => ?_)
  rcases List.mem_cons.mp hm with q | hm
  · exact absurd (Nat.lt_trans hb hlt) (by rw [show b = x from q]; exact Nat.lt_irrefl _)
  · rcases List.mem_cons.mp hm with q | hm
    · exact absurd hb (by rw [show b = dx from q]; exact Nat.lt_irrefl _)
    · exact hn hm
set_option maxRecDepth 100000 in
set_option maxHeartbeats 8000000 in
theorem new_plain (w : World) (h00 : Heap) (mg mb : Str → Option Value) (v : Value) (o : Array UInt8) (ob : Obj) (hv : IsWhat v o) (ht : TabOk ob) (ho : o.size ≤ 1000) :
    CallOkG w h00 mg mb 6 40 (.ref 68) [v] [] [(24, ob)] fun r own' => ∃ x dx t1 t2 tm tb ob', r = .ref x ∧ own' = [(x, instObj 68 dx), (dx, partDict w t1 t2 (leastMode o) tm o tb), (24, ob')] ∧ TabOk ob' ∧ @LT.lt Nat _ dx x ∧ @LT.lt Nat _ 24 dx := by
  walk_at "bm fill"
  walk_at "bm newG"
  k_steps
  refine Hold.mk ?_
  (with_reducible rename Fr _ _ _ _ => Fa)
  (with_reducible rename News _ _ _ _ => Na)
  with_unfolding_all refine' callD (to_bytes_ok w h00 mg mb hv) B' Fa X' T' rfl rfl Na (fun _ h => nomatch h) ?kd ?ku ?_
  case kd => ktr_room
  case ku => ktr_units
  rintro r own' h3 tk3 F3 N3' G3 ⟨⟨t3, rfl⟩, rfl⟩
  have N3 := news_kept Na G3 (fun _ _ h => nomatch h)
  k_steps
  refine Hold.mk ?_
  (with_reducible rename Fr _ _ _ _ => Fb)
  (with_reducible rename News _ _ _ _ => Nb)
  with_unfolding_all refine' callG (optimal_ok w h00 mg mb o t3 ob ht ho) B' Fb X' T' rfl rfl Nb ?hg (by intro p hp; rw [List.mem_singleton.mp hp]; k_mem) ?kd2 ?ku2 ?_
  case hg => exact hgb
  case kd2 => ktr_room
  case ku2 => ktr_units
  rintro r own' h4 g4 tk4 F4 N4' G4 hg4 ⟨⟨t4, rfl⟩, ob4, rfl, ht4⟩
  have h24 : @LT.lt Nat _ 24 dx := lN _ (.head _)
  have N4 : News g' L' h4 [(x, instObj 68 dx), (dx, dictOf [] 0), (24, ob4)] := news_split (l1 := [(x, instObj 68 dx), (dx, dictOf [] 0)]) (own := [(24, ob)]) Nb N4' G4 (off24 hlt h24)
  clear N4' G4 Nb Fb
  k_steps
  refine' ret _ _ _ g4 _ ?e1 ?e2 (gsub_new hkeep hlt kG' ?e3) hg4 ?_
  case e1 => k_asm
  case e2 => k_asm
  case e3 => k_asm
  exact ⟨x, dx, _, _, _, _, ob4, rfl, rfl, ht4, hlt, h24⟩

end
-- BmNew2
section
theorem news_drop4 {h₀ h h' : Heap} {L D x dx : Addr} {o0 o1 o2 ob ob4 : Obj} (N : News h₀ L h [(D, o0), (x, o1), (dx, o2), (24, ob)]) (N4 : News h₀ L h' [(24, ob4)]) (G : GSub h h' (List.map (fun x => x.fst) [((24 : Addr), ob)])) (hlt : @LT.lt Nat _ dx x) (h24 : @LT.lt Nat _ 24 dx) : News h₀ L h' [(x, o1), (dx, o2), (24, ob4)] :=
  news_split (l1 := [(x, o1), (dx, o2)]) (own := [(24, ob)]) (fun p hp => N p (.tail _ hp)) N4 G (off24 hlt h24)
set_option maxRecDepth 100000 in
set_option maxHeartbeats 8000000 in
theorem new_mode1 (w : World) (h00 : Heap) (mg mb : Str → Option Value) (v : Value) (o : Array UInt8) (ob : Obj) (m0 : Int) (tm : Tok) (hv : IsWhat v o) (ht : TabOk ob) (ho : o.size ≤ 1000) (hm0 : m0 = 1 ∨ m0 = 2 ∨ m0 = 4) (hle : leastMode o ≤ m0) :
    CallOkG w h00 mg mb 6 40 (.ref 68) [v] [(Str.ofString "mode", .int m0 tm)] [(24, ob)] fun r own' => ∃ x dx t1 t2 tm tb ob', r = .ref x ∧ own' = [(x, instObj 68 dx), (dx, partDict w t1 t2 m0 tm o tb), (24, ob')] ∧ TabOk ob' ∧ @LT.lt Nat _ dx x ∧ @LT.lt Nat _ 24 dx := by
  walk_at "bm fill"
  walk_at "bm newG"
  have h24 : @LT.lt Nat _ 24 dx := lN _ (.head _)
  k_steps
  refine Hold.mk ?_
  (with_reducible rename Fr _ _ _ _ => Fa)
  (with_reducible rename News _ _ _ _ => Na)
  with_unfolding_all refine' callD (to_bytes_ok w h00 mg mb hv) B' Fa X' T' rfl rfl Na (fun _ h => nomatch h) ?kd ?ku ?_
  case kd => ktr_room
  case ku => ktr_units
  rintro r own' h3 tk3 F3 N3' G3 ⟨⟨t3, rfl⟩, rfl⟩
  have N3 := news_kept Na G3 (fun _ _ h => nomatch h)
  clear N3' Na Fa G3
  k_steps
  all_goals first | (with_reducible refine Hold.mk ?_) | (exfalso; (rename (List.any [1, 2, 4] _) = false => hany); rcases hm0 with rfl | rfl | rfl <;> simp at hany; done)
  (with_reducible rename Fr _ _ _ _ => Fb)
  (with_reducible rename News _ _ _ _ => Nb)
  (rename _ ∧ _ ∧ _ => l1)
  with_unfolding_all refine' callG (optimal_ok w h00 mg mb o t3 ob ht ho) B' Fb X' T' rfl rfl Nb ?hg (by intro p hp; rw [List.mem_singleton.mp hp]; k_mem) ?kd2 ?ku2 ?_
  case hg => exact hgb
  case kd2 => ktr_room
  case ku2 => ktr_units
  rintro r own' h4 g4 tk4 F4 N4' G4 hg4 ⟨⟨t4, rfl⟩, ob4, rfl, ht4⟩
  have N4 := news_drop4 Nb N4' G4 hlt h24
  clear N4' G4 Nb Fb
  k_steps
  refine' ret _ _ _ g4 _ ?e1 ?e2 (gsub_new hkeep hlt kG' ?e3) hg4 ?_
  case e1 => k_asm
  case e2 => k_asm
  case e3 => k_asm
  exact ⟨x, dx, _, _, _, _, ob4, rfl, rfl, ht4, hlt, h24⟩

end
-- BmRefused
section
theorem gsub_turn {s h' g g' : Heap} {L L' : Addr} {m' : Str → Option Value} {adr : List Addr} {env : Env} (G : GSub s g adr) (T : KtsTurn ([env].filterMap (·.frame)) g g') (F : Fr g' L' h' m') (hf : env.frame = some L) : GSubL L s h' adr := fun b o e n hL => F.keep b o (T.other b o (G b o e n) (by
  have : [env].filterMap (·.frame) = [L] := by simp [hf]
  rw [this]
  exact fun q => hL (List.mem_singleton.mp q)))
set_option maxRecDepth 100000 in
set_option maxHeartbeats 8000000 in
theorem refused_type (w : World) (h00 : Heap) (mg mb : Str → Option Value) (v : Value) (o : Array UInt8) (ob : Obj) (m0 : Int) (tm : Tok) (hv : IsWhat v o) (ht : TabOk ob) (ho : o.size ≤ 1000) (hm0 : ([1, 2, 4].any fun x => x == m0) = false) (hbig : m0.natAbs < 1000) :
    CallOkR w h00 mg mb 9 60 (.ref 173) [v, .int m0 tm] [(24, ob)] fun r own' => (∃ t', r = .str (Str.ofString "TypeError") t') ∧ ∃ ob', own' = [(24, ob')] ∧ TabOk ob' := by
  walk_at "bm fill"
  walk_at "bm enterR"
  k_steps
  refine Hold.mk ?_
  (with_reducible rename Fr _ _ _ _ => Fa)
  (with_reducible rename News _ _ _ _ => Na)
  with_unfolding_all refine' callD (to_bytes_ok w h00 mg mb hv) ?kB Fa ?kX ?kT rfl rfl Na (fun _ h => nomatch h) ?kd ?ku ?_
  case kB => k_asm
  case kX => k_asm
  case kT => k_asm
  case kd => ktr_room
  case ku => ktr_units
  rintro r own' h3 tk3 F3 N3' G3 ⟨⟨t3, rfl⟩, rfl⟩
  have N3 := news_kept Na G3 (fun _ _ h => nomatch h)
  clear N3' Na Fa G3
  k_steps
  dsimp only [InitBack]
  k_steps
  (with_reducible rename KtsTurn _ _ _ => kT)
  (with_reducible rename Fr h₀ _ _ _ => kF)
  (with_reducible rename News h₀ _ _ _ => kN)
  refine' ret _ [(24, ob)] _ s.gens _ kF ?e2 (gsub_turn kG' kT ?e3 hfr) hgb ⟨⟨_, rfl⟩, ob, rfl, ht⟩
  case e3 => assumption
  case e2 =>
    intro p hp
    rw [List.mem_singleton.mp hp]
    exact kN _ (by k_mem)

end
-- BmRefused2
section
theorem news_drop4' {h₀ h h' : Heap} {L D x dx : Addr} {o0 o1 o2 ob ob4 : Obj} (N : News h₀ L h [(D, o0), (x, o1), (dx, o2), (24, ob)]) (N4 : News h₀ L h' [(24, ob4)]) (G : GSub h h' (List.map (fun x => x.fst) [((24 : Addr), ob)])) (hD : @LT.lt Nat _ 24 D) (hlt : @LT.lt Nat _ dx x) (h24 : @LT.lt Nat _ 24 dx) : News h₀ L h' [(D, o0), (x, o1), (dx, o2), (24, ob4)] := by
  refine news_split (l1 := [(D, o0), (x, o1), (dx, o2)]) (own := [(24, ob)]) N N4 G ?_
  intro p hp hq
  have e := List.mem_singleton.mp hq
  rcases List.mem_cons.mp hp with rfl | hp
  · exact absurd hD (by rw [show D = 24 from e]; exact Nat.lt_irrefl _)
  · exact off24 hlt h24 p hp hq
set_option maxRecDepth 100000 in
set_option maxHeartbeats 8000000 in
theorem refused_value (w : World) (h00 : Heap) (mg mb : Str → Option Value) (v : Value) (o : Array UInt8) (ob : Obj) (m0 : Int) (tm : Tok) (hv : IsWhat v o) (ht : TabOk ob) (ho : o.size ≤ 1000) (hm0 : m0 = 1 ∨ m0 = 2 ∨ m0 = 4) :
    CallOkR w h00 mg mb 9 60 (.ref 173) [v, .int m0 tm] [(24, ob)] fun r own' => (∃ t', r = .str (Str.ofString (if m0 < leastMode o then "ValueError" else "taken")) t') ∧ ∃ ob', own' = [(24, ob')] ∧ TabOk ob' := by
  have hbig : m0.natAbs < 1000 := by rcases hm0 with rfl | rfl | rfl <;> decide
  walk_at "bm fill"
  walk_at "bm enterR"
  k_steps
  refine Hold.mk ?_
  (with_reducible rename Fr _ _ _ _ => Fa)
  (with_reducible rename News _ _ _ _ => Na)
  with_unfolding_all refine' callD (to_bytes_ok w h00 mg mb hv) ?kB Fa ?kX ?kT rfl rfl Na (fun _ h => nomatch h) ?kd ?ku ?_
  case kB => k_asm
  case kX => k_asm
  case kT => k_asm
  case kd => ktr_room
  case ku => ktr_units
  rintro r own' h3 tk3 F3 N3' G3 ⟨⟨t3, rfl⟩, rfl⟩
  have N3 := news_kept Na G3 (fun _ _ h => nomatch h)
  clear N3' Na Fa G3
  k_steps
  all_goals first | (with_reducible refine Hold.mk ?_) | (exfalso; (rename (List.any [1, 2, 4] _) = false => hany); rcases hm0 with rfl | rfl | rfl <;> simp at hany; done)
  (with_reducible rename Fr _ _ _ _ => Fb)
  (with_reducible rename News _ _ _ _ => Nb)
  with_unfolding_all refine' callG (optimal_ok w h00 mg mb o t3 ob ht ho) ?kB Fb ?kX ?kT rfl rfl Nb ?hg (by intro p hp; rw [List.mem_singleton.mp hp]; k_mem) ?kd2 ?ku2 ?_
  case hg => exact hgb
  case kB => k_asm
  case kX => k_asm
  case kT => k_asm
  case kd2 => ktr_room
  case ku2 => ktr_units
  rintro r own' h4 g4 tk4 F4 N4' G4 hg4 ⟨⟨t4, rfl⟩, ob4, rfl, ht4⟩
  have N4 := news_drop4' Nb N4' G4 (by omega) (by omega) (by omega)
  clear N4' G4 Nb Fb
  k_steps
  · dsimp only [InitBack]
    k_steps
    (with_reducible rename KtsTurn _ _ _ => kT)
    (with_reducible rename Fr h₀ _ _ _ => kF)
    (with_reducible rename News h₀ _ _ _ => kN)
    refine' ret _ [(24, ob4)] _ g4 _ kF ?e2 (gsub_turn kG' kT ?e3 hfr) hg4 ⟨⟨_, ?e4⟩, ob4, rfl, ht4⟩
    case e3 => assumption
    case e2 =>
      intro p hp
      rw [List.mem_singleton.mp hp]
      exact kN _ (by k_mem)
    case e4 => rw [if_pos (by assumption)]
  · (with_reducible rename Fr h₀ _ _ _ => kF)
    (with_reducible rename News h₀ _ _ _ => kN)
    refine' ret _ [(24, ob4)] _ g4 _ kF ?e2 (gsub_turn kG' KtsTurn.refl ?e3 hfr) hg4 ⟨⟨_, ?e4⟩, ob4, rfl, ht4⟩
    case e3 => assumption
    case e2 =>
      intro p hp
      rw [List.mem_singleton.mp hp]
      exact kN _ (by k_mem)
    case e4 => rw [if_neg (by assumption)]

end
-- BmWrite
section
theorem news_mid {h₀ h h' : Heap} {L : Addr} {l1 l2 l2' l3 : List (Addr × Obj)} {adr : List Addr} (N : News h₀ L h (l1 ++ (l2 ++ l3))) (N' : News h₀ L h' l2') (G : GSub h h' adr) (ha : ∀ p ∈ l1, p.1 ∉ adr) (hb : ∀ p ∈ l3, p.1 ∉ adr) : News h₀ L h' (l1 ++ (l2' ++ l3)) := by
  intro p hp
  rcases List.mem_append.mp hp with hp | hp
  · exact news_rest N G (List.mem_append.mpr (.inl hp)) (ha p hp)
  · rcases List.mem_append.mp hp with hp | hp
    · exact N' p hp
    · exact news_rest N G (List.mem_append.mpr (.inr (List.mem_append.mpr (.inr hp)))) (hb p hp)
/-- a loop over a range of any step, by what holds of it. -/
theorem loop_range {prog : Program} {w : World} {A : Around} {E : Value → Shared → Prop} {s : Shared} {env : Env} {h₀ : Heap} {x : Str} {body : List Stmt} {Q : Flow → Shared → Prop} {σ : Type} {r : Addr} {a₀ b₀ c : Int} {t₀ u₀ v₀ : Tok} {n : Nat} {m₀ : Str → Option Value} (Led : σ → List (Addr × Obj)) (ps : σ → List (Str × Value)) (Facts : σ → Prop) (stored : List Str) (P : Nat → σ → Prop) (c₀ : σ)
    (hh : A.handled = none) (hr : IsRange s.heap r a₀ b₀ c t₀ u₀ v₀) (hsmall : PySem.Builtin.Range.small a₀ b₀ c = true) (hn : PySem.Builtin.Range.rangeSize a₀ b₀ c = (n : Int)) (F : Fr h₀ env.locals s.heap m₀) (N : News h₀ env.locals s.heap (Led c₀)) (hf : Facts c₀) (hk : ∀ p ∈ ps c₀, m₀ p.1 = some p.2) (hp : P 0 c₀)
    (turn : ∀ (st : σ) (i : Nat) t (u : Str → Option Value) h tk own, i < n → OwnOff own ((Led c₀).map (·.1)) → Facts st → P i st →
      Fr h₀ env.locals h (fun y => if y = x then some (.int (a₀ + (i : Int) * c) t) else kstB (fun z => if stored.contains z then u z else m₀ z) (ps st) y) → News h₀ env.locals h (Led st ++ own) →
      wpAny (model prog w) A (execs body env) (InvPostN h₀ env.locals (KstS Led ps Facts x stored m₀ (fun pre st => P pre.length st) (List.replicate (i + 1) 0)) own ((Led c₀).map (·.1)) { s with heap := h, toks := tk } Q) E { s with heap := h, toks := tk })
    (done : ∀ (st : σ) (u : Str → Option Value) h tk, Facts st → P n st → Fr h₀ env.locals h (fun y => if y = x then u y else kstB (fun z => if stored.contains z then u z else m₀ z) (ps st) y) → News h₀ env.locals h (Led st) → Q .next { s with heap := h, toks := tk }) :
    wpAny (model prog w) A (pyIter (.ref r)) (fun it s₂ => LoopAtV prog w A h₀ env x body Q E it s₂) E s := by
  refine wpAny_pyIter_range hr hsmall ?_
  have W : Walks prog w A s.heap.objs.size [s.heap.objs.size] [s.heap.objs.size] n (fun i v => i < n ∧ ∃ t, v = .int (a₀ + i * c) t)
      (fun i h => IsRangeIter h s.heap.objs.size (a₀ + (i : Nat) * c) ((n : Int) - (i : Nat)) c) := (Walks.range hh _ a₀ c n).bound
  refine loop_invN (fun i m nx => KstS Led ps Facts x stored m₀ (fun pre st => P pre.length st) (List.replicate i 0) m nx) W ?_ ?_ ?_ ?_ (by show IsRangeIter _ _ _ _ _; rw [hn]; simpa using Heap.get?_push_size _ rfl) (F.push _) (fun p hp => ⟨Heap.get?_push_of_some _ (N p hp).1, (N p hp).2⟩) ⟨c₀, rfl, hf, hk, fun _ _ _ _ => rfl, by simpa using hp⟩ ?_ ?_
  · intro hm
    exact absurd F.ns.lt ((List.mem_singleton.mp hm) ▸ Nat.lt_irrefl _)
  · intro b hb
    rw [List.mem_singleton.mp hb]
    exact next_is_new F
  · intro p hp hI
    exact absurd (Heap.lt_size (N p hp).1) ((List.mem_singleton.mp hI) ▸ Nat.lt_irrefl _)
  · intro p hp hI
    exact absurd (Heap.lt_size (N p hp).1) ((List.mem_singleton.mp hI) ▸ Nat.lt_irrefl _)
  · rintro i v m₁ nx h tk own hi ⟨_, t, rfl⟩ _ hoff ⟨st, rfl, hf', h1, h2, hp'⟩ F₁ N₁
    rw [List.length_replicate] at hp'
    exact turn st i t m₁ h tk own hi hoff hf' hp' (kst_fr h1 h2 F₁) N₁
  · rintro m₁ nx h tk ⟨st, rfl, hf', h1, h2, hp'⟩ F₁ N₁
    rw [List.length_replicate] at hp'
    exact done st m₁ h tk hf' hp' (kst_frOut h1 h2 F₁) N₁

abbrev wrLed (w : World) (p pd : Addr) (m0 : Int) (tp1 tp2 : Nat) (tm : Tok) (o : Array UInt8) (tb : Tok) (x d l : Addr) (t1 t2 : Nat) (st : BufSt) : List (Addr × Obj) :=
  [(p, instObj 68 pd), (pd, partDict w tp1 tp2 m0 tm o tb), (x, instObj 122 d), (d, bufDict w t1 t2 l (st.B.length : Int) st.tn), (l, listOf st.vs.toArray st.k)]
theorem small3 (n c : Nat) (hc : 0 < c) (hc2 : c ≤ 3) (h : n ≤ 1000) : PySem.Builtin.Range.small 0 (n : Int) (c : Int) = true := by
  unfold PySem.Builtin.Range.small
  rw [rangeSize3 n c hc]
  have hq : (n + c - 1) / c ≤ 2000 := by
    refine Nat.le_trans (Nat.div_le_self _ _) (by omega)
  generalize (n + c - 1) / c = q at hq ⊢
  have h1 : (c : Int) > 0 := by omega
  simp only [h1, if_true, PySem.Builtin.Range.rangeFitsLong, Bool.and_eq_true, Bool.or_eq_true, decide_eq_true_eq, beq_iff_eq]
  omega
theorem wr_off {p pd x d l : Addr} {o1 o2 : Obj} (h1 : @Ne Nat p x) (h2 : @Ne Nat p d) (h3 : @Ne Nat p l) (h4 : @Ne Nat pd x) (h5 : @Ne Nat pd d) (h6 : @Ne Nat pd l) : ∀ q ∈ [(p, o1), (pd, o2)], q.1 ∉ [x, d, l] := by
  intro q hq hm
  rcases List.mem_cons.mp hq with rfl | hq
  · rcases List.mem_cons.mp hm with e | hm
    · exact h1 e
    · rcases List.mem_cons.mp hm with e | hm
      · exact h2 e
      · exact h3 (List.mem_singleton.mp hm)
  · rw [List.mem_singleton.mp hq] at hm
    rcases List.mem_cons.mp hm with e | hm
    · exact h4 e
    · rcases List.mem_cons.mp hm with e | hm
      · exact h5 e
      · exact h6 (List.mem_singleton.mp hm)
theorem stored2 {z a b : Str} (h : [a, b].contains z = false) : z ≠ a ∧ z ≠ b := by
  refine ⟨fun e => ?_, fun e => ?_⟩ <;> (subst e; simp at h)
theorem own_off {p pd x d l : Addr} {own : List (Addr × Obj)} (h : OwnOff own [p, pd, x, d, l]) : ∀ q ∈ own, q.1 ∉ [x, d, l] := fun q hq hm => h q hq q.1 (.tail _ (.tail _ hm)) rfl
set_option maxRecDepth 100000 in
set_option maxHeartbeats 8000000 in
theorem write1_ok (w : World) (h00 : Heap) (mg mb : Str → Option Value) (p pd x d l : Addr) (tp1 tp2 t1 t2 : Nat) (tm tb : Tok) (o : Array UInt8) (st₀ : BufSt)
   (hxd : @Ne Nat x d) (hxl : @Ne Nat x l) (hdl : @Ne Nat d l) (hp1 : @Ne Nat p x) (hp2 : @Ne Nat p d) (hp3 : @Ne Nat p l) (hp4 : @Ne Nat pd x) (hp5 : @Ne Nat pd d) (hp6 : @Ne Nat pd l)
   (hB : st₀.B.length < 10000) (ho : o.size ≤ 100) (hdig : ∀ c ∈ o.toList, isDig c) (hi : IntsAre st₀.vs (pack st₀.B)) :
    CallOk w h00 mg mb 4 40 (.ref 58) [.ref p, .ref x] (wrLed w p pd 1 tp1 tp2 tm o tb x d l t1 t2 st₀) fun res own' => res = .none ∧ ∃ st, own' = wrLed w p pd 1 tp1 tp2 tm o tb x d l t1 t2 st ∧ st.B = st₀.B ++ enc1 o.toList ∧ IntsAre st.vs (pack st.B) := by
  walk_at "bm fill"
  walk_at "bm enter"
  k_steps
  refine Hold.mk ?_
  (rename IsRange _ _ _ _ _ _ _ _ => rgX)
  (with_reducible rename Fr _ _ _ _ => lF')
  (with_reducible rename News _ _ _ _ => lN')
  have hl1 := enc1_len o.toList
  have hl2 : [0, 4, 7].getD (o.toList.length % 3) 0 ≤ 7 := by
    have : o.toList.length % 3 < 3 := Nat.mod_lt _ (by decide)
    generalize o.toList.length % 3 = r at this
    match r, this with
    | 0, _ => decide
    | 1, _ => decide
    | 2, _ => decide
  have hls : o.toList.length = o.size := Array.length_toList
  with_unfolding_all refine' loop_range (σ := BufSt) (fun st => wrLed w p pd 1 tp1 tp2 tm o tb x d l t1 t2 st) (fun _ => []) (fun st => IntsAre st.vs (pack st.B)) [Str.ofString "chars", Str.ofString "bit_length"] (fun i st => st.B ++ enc1 (o.toList.drop (3 * i)) = st₀.B ++ enc1 o.toList) st₀ (by rfl) rgX (small3 o.size 3 (by decide) (by decide) (by omega)) (rangeSize3 o.size 3 (by decide)) lF' ?kn hi ?kk ?kp ?_ ?_
  case kn => exact lN'
  case kk => exact fun _ hp => nomatch hp
  case kp => rfl
  · rintro ⟨B₁, tn₁, vs₁, k₁⟩ i tt u h2 tk2 own hlt hoff hF hP F₂ N₂
    dsimp only at hF hP F₂ N₂
    have hi3 : 3 * i < o.size := by omega
    have hlen := congrArg List.length hP
    rw [List.length_append, List.length_append] at hlen
    have hd3 : o.toList.drop (3 * (i + 1)) = (o.toList.drop (3 * i)).drop 3 := by rw [List.drop_drop]; rfl
    have hmem : ∀ c ∈ o.toList.drop (3 * i), isDig c := fun c hc => hdig c (List.mem_of_mem_drop hc)
    have hdln : (o.toList.drop (3 * i)).length = o.size - 3 * i := by rw [List.length_drop, hls]
    k_steps
    refine Hold.mk ?_
    (with_reducible rename Fr _ _ _ _ => Fs)
    (with_reducible rename News _ _ _ _ => Ns)
    have he3 : (o.toList.drop ((some (0 + (i : Int) * 3)).elim 0 (clipAt o.size))).take ((some (0 + (i : Int) * 3 + 3)).elim o.size (clipAt o.size) - (some (0 + (i : Int) * 3)).elim 0 (clipAt o.size)) = (o.toList.drop (3 * i)).take 3 := by
      have e1 : (0 + (i : Int) * 3) = ((3 * i : Nat) : Int) := by omega
      have e2 : ((3 * i : Nat) : Int) + 3 = ((3 * i + 3 : Nat) : Int) := by omega
      simp only [Option.elim]
      rw [e1, e2, clip_nat, clip_nat]
      exact cut_eq o (3 * i) 3 (by omega)
    match hch : o.toList.drop (3 * i) with
    | [] => rw [hch] at hdln; simp at hdln; omega
    | [a] =>
      have hdg : ∀ c ∈ [a], isDig c := fun c hc => hmem c (by rw [hch]; exact hc)
      refine slice_list (s := ⟨_, _, _, _, _⟩) (r := [a]) Fs Ns (by constructor) (by constructor) (by omega) (he3.trans (by rw [hch]; rfl)) ?_
      intro h3 t3 tk3 F3 N3
      clear Fs Ns
      have hsz : ((#[a].size : Nat) : Int) = 1 := rfl
      k_steps
      all_goals first | (with_reducible refine Hold.mk ?_) | exact absurd rfl (by assumption)
      refine call_decode (Nat.le_of_ble_eq_true rfl) (by simpa using hdg) (Nat.le_of_ble_eq_true rfl) ?_
      intro t4 tk4
      k_steps
      refine Hold.mk ?_
      refine call_intDig (Nat.le_of_ble_eq_true rfl) (by simpa using hdg) (Nat.le_of_ble_eq_true rfl) ?_
      intro t5 tk5
      k_steps
      refine Hold.mk ?_
      (with_reducible rename Fr _ _ _ _ => Fp)
      (with_reducible rename News _ _ _ _ => Np)
      with_unfolding_all refine' callD (put_okI w h00 mg mb x d l t1 t2 tn₁ vs₁ k₁ _ _ _ _ B₁ hxd hxl hdl (by omega) (by decide) (by decide) hF) B' Fp X' T' rfl rfl Np (fun q hq => List.mem_append.mpr (.inl (.tail _ (.tail _ hq)))) ?kd ?ku ?_
      case kd => ktr_room
      case ku => ktr_units
      rintro r6 own6 h6 tk6 F6 N6 G6 ⟨rfl, tn', vs', k', rfl, hi'⟩
      refine wpAny_execs_nil ?_
      have N7 : News g' L' h6 (wrLed w p pd 1 tp1 tp2 tm o tb x d l t1 t2 ⟨B₁ ++ bitsOf (digNum [a]) 4, tn', vs', k'⟩ ++ own) :=  news_mid (l1 := [(p, instObj 68 pd), (pd, partDict w tp1 tp2 1 tm o tb)]) (l2 := bufLed w x d l t1 t2 (B₁.length : Int) tn₁ vs₁ k₁) (l3 := own) Np N6 G6 (wr_off hp1 hp2 hp3 hp4 hp5 hp6) (own_off hoff)
      with_unfolding_all refine kst_end (⟨B₁ ++ bitsOf (digNum [a]) 4, tn', vs', k'⟩ : BufSt) F6 N7 (fun q hq => List.mem_append.mpr (.inl hq)) (fun q hq => List.mem_append.mpr (.inr hq)) rfl hi' (fun _ hq => nomatch hq) (fun z h1 _ h3 => ?_) ?_
      · obtain ⟨z1, z2⟩ := stored2 h3
        with_unfolding_all refine (if_neg z2).trans ((if_neg z1).trans ((if_neg h1).trans ?_))
        exact if_neg (by rw [h3]; decide)
      · show (B₁ ++ bitsOf (digNum [a]) 4) ++ enc1 (o.toList.drop (3 * (List.replicate (i + 1) 0).length)) = st₀.B ++ enc1 o.toList
        rw [List.length_replicate, hd3, ← hP, hch, List.append_assoc]
        simp [enc1]
    | [a, b] =>
      have hdg : ∀ c ∈ [a, b], isDig c := fun c hc => hmem c (by rw [hch]; exact hc)
      refine slice_list (s := ⟨_, _, _, _, _⟩) (r := [a, b]) Fs Ns (by constructor) (by constructor) (by omega) (he3.trans (by rw [hch]; rfl)) ?_
      intro h3 t3 tk3 F3 N3
      clear Fs Ns
      have hsz : ((#[a, b].size : Nat) : Int) = 2 := rfl
      k_steps
      all_goals first | (with_reducible refine Hold.mk ?_) | exact absurd rfl (by assumption)
      refine call_decode (Nat.le_of_ble_eq_true rfl) (by simpa using hdg) (Nat.le_of_ble_eq_true rfl) ?_
      intro t4 tk4
      k_steps
      refine Hold.mk ?_
      refine call_intDig (Nat.le_of_ble_eq_true rfl) (by simpa using hdg) (Nat.le_of_ble_eq_true rfl) ?_
      intro t5 tk5
      k_steps
      refine Hold.mk ?_
      (with_reducible rename Fr _ _ _ _ => Fp)
      (with_reducible rename News _ _ _ _ => Np)
      with_unfolding_all refine' callD (put_okI w h00 mg mb x d l t1 t2 tn₁ vs₁ k₁ _ _ _ _ B₁ hxd hxl hdl (by omega) (by decide) (by decide) hF) B' Fp X' T' rfl rfl Np (fun q hq => List.mem_append.mpr (.inl (.tail _ (.tail _ hq)))) ?kd ?ku ?_
      case kd => ktr_room
      case ku => ktr_units
      rintro r6 own6 h6 tk6 F6 N6 G6 ⟨rfl, tn', vs', k', rfl, hi'⟩
      refine wpAny_execs_nil ?_
      have N7 : News g' L' h6 (wrLed w p pd 1 tp1 tp2 tm o tb x d l t1 t2 ⟨B₁ ++ bitsOf (digNum [a, b]) 7, tn', vs', k'⟩ ++ own) :=  news_mid (l1 := [(p, instObj 68 pd), (pd, partDict w tp1 tp2 1 tm o tb)]) (l2 := bufLed w x d l t1 t2 (B₁.length : Int) tn₁ vs₁ k₁) (l3 := own) Np N6 G6 (wr_off hp1 hp2 hp3 hp4 hp5 hp6) (own_off hoff)
      with_unfolding_all refine kst_end (⟨B₁ ++ bitsOf (digNum [a, b]) 7, tn', vs', k'⟩ : BufSt) F6 N7 (fun q hq => List.mem_append.mpr (.inl hq)) (fun q hq => List.mem_append.mpr (.inr hq)) rfl hi' (fun _ hq => nomatch hq) (fun z h1 _ h3 => ?_) ?_
      · obtain ⟨z1, z2⟩ := stored2 h3
        with_unfolding_all refine (if_neg z2).trans ((if_neg z1).trans ((if_neg h1).trans ?_))
        exact if_neg (by rw [h3]; decide)
      · show (B₁ ++ bitsOf (digNum [a, b]) 7) ++ enc1 (o.toList.drop (3 * (List.replicate (i + 1) 0).length)) = st₀.B ++ enc1 o.toList
        rw [List.length_replicate, hd3, ← hP, hch, List.append_assoc]
        simp [enc1]
    | a :: b :: c :: r =>
      have hdg : ∀ c' ∈ [a, b, c], isDig c' := fun c' hc => hmem c' (by rw [hch]; exact List.mem_append_left r hc)
      refine slice_list (s := ⟨_, _, _, _, _⟩) (r := [a, b, c]) Fs Ns (by constructor) (by constructor) (by omega) (he3.trans (by rw [hch]; rfl)) ?_
      intro h3 t3 tk3 F3 N3
      clear Fs Ns
      have hsz : ((#[a, b, c].size : Nat) : Int) = 3 := rfl
      k_steps
      all_goals first | (with_reducible refine Hold.mk ?_) | exact absurd rfl (by assumption)
      refine call_decode (Nat.le_of_ble_eq_true rfl) (by simpa using hdg) (Nat.le_of_ble_eq_true rfl) ?_
      intro t4 tk4
      k_steps
      refine Hold.mk ?_
      refine call_intDig (Nat.le_of_ble_eq_true rfl) (by simpa using hdg) (Nat.le_of_ble_eq_true rfl) ?_
      intro t5 tk5
      k_steps
      refine Hold.mk ?_
      (with_reducible rename Fr _ _ _ _ => Fp)
      (with_reducible rename News _ _ _ _ => Np)
      with_unfolding_all refine' callD (put_okI w h00 mg mb x d l t1 t2 tn₁ vs₁ k₁ _ _ _ _ B₁ hxd hxl hdl (by omega) (by decide) (by decide) hF) B' Fp X' T' rfl rfl Np (fun q hq => List.mem_append.mpr (.inl (.tail _ (.tail _ hq)))) ?kd ?ku ?_
      case kd => ktr_room
      case ku => ktr_units
      rintro r6 own6 h6 tk6 F6 N6 G6 ⟨rfl, tn', vs', k', rfl, hi'⟩
      refine wpAny_execs_nil ?_
      have N7 : News g' L' h6 (wrLed w p pd 1 tp1 tp2 tm o tb x d l t1 t2 ⟨B₁ ++ bitsOf (digNum [a, b, c]) 10, tn', vs', k'⟩ ++ own) :=  news_mid (l1 := [(p, instObj 68 pd), (pd, partDict w tp1 tp2 1 tm o tb)]) (l2 := bufLed w x d l t1 t2 (B₁.length : Int) tn₁ vs₁ k₁) (l3 := own) Np N6 G6 (wr_off hp1 hp2 hp3 hp4 hp5 hp6) (own_off hoff)
      with_unfolding_all refine kst_end (⟨B₁ ++ bitsOf (digNum [a, b, c]) 10, tn', vs', k'⟩ : BufSt) F6 N7 (fun q hq => List.mem_append.mpr (.inl hq)) (fun q hq => List.mem_append.mpr (.inr hq)) rfl hi' (fun _ hq => nomatch hq) (fun z h1 _ h3 => ?_) ?_
      · obtain ⟨z1, z2⟩ := stored2 h3
        with_unfolding_all refine (if_neg z2).trans ((if_neg z1).trans ((if_neg h1).trans ?_))
        exact if_neg (by rw [h3]; decide)
      · show (B₁ ++ bitsOf (digNum [a, b, c]) 10) ++ enc1 (o.toList.drop (3 * (List.replicate (i + 1) 0).length)) = st₀.B ++ enc1 o.toList
        rw [List.length_replicate, hd3, ← hP, hch, List.append_assoc]
        simp [enc1]
  · rintro ⟨B₁, tn₁, vs₁, k₁⟩ u h2 tk2 hF hP F₂ N₂
    dsimp only at hF hP F₂ N₂
    k_steps
    walk_at "bm end"
    refine ⟨rfl, ⟨B₁, tn₁, vs₁, k₁⟩, rfl, ?_, hF⟩
    rw [List.drop_eq_nil_of_le (by rw [hls]; omega)] at hP
    simpa [enc1] using hP

end
-- BmWrite2
section
set_option maxRecDepth 100000 in
set_option maxHeartbeats 8000000 in
theorem write2_ok (w : World) (h00 : Heap) (mg mb : Str → Option Value) (p pd x d l : Addr) (tp1 tp2 t1 t2 : Nat) (tm tb : Tok) (o : Array UInt8) (st₀ : BufSt)
   (hxd : @Ne Nat x d) (hxl : @Ne Nat x l) (hdl : @Ne Nat d l) (hp1 : @Ne Nat p x) (hp2 : @Ne Nat p d) (hp3 : @Ne Nat p l) (hp4 : @Ne Nat pd x) (hp5 : @Ne Nat pd d) (hp6 : @Ne Nat pd l)
   (hB : st₀.B.length < 10000) (ho : o.size ≤ 100) (hi : IntsAre st₀.vs (pack st₀.B)) :
    CallOk w h00 mg mb 4 40 (.ref 58) [.ref p, .ref x] (wrLed w p pd 2 tp1 tp2 tm o tb x d l t1 t2 st₀) fun res own' => res = .none ∧ ∃ st, own' = wrLed w p pd 2 tp1 tp2 tm o tb x d l t1 t2 st ∧ st.B = st₀.B ++ enc2 o.toList ∧ IntsAre st.vs (pack st.B) := by
  walk_at "bm fill"
  walk_at "bm enter"
  k_steps
  refine Hold.mk ?_
  (rename IsRange _ _ _ _ _ _ _ _ => rgX)
  (with_reducible rename Fr _ _ _ _ => lF')
  (with_reducible rename News _ _ _ _ => lN')
  have hl1 := enc2_len o.toList
  have hls : o.toList.length = o.size := Array.length_toList
  with_unfolding_all refine' loop_range (σ := BufSt) (fun st => wrLed w p pd 2 tp1 tp2 tm o tb x d l t1 t2 st) (fun _ => []) (fun st => IntsAre st.vs (pack st.B)) [Str.ofString "chars", Str.ofString "bit_length"] (fun i st => st.B ++ enc2 (o.toList.drop (2 * i)) = st₀.B ++ enc2 o.toList) st₀ (by rfl) rgX (small3 o.size 2 (by decide) (by decide) (by omega)) (rangeSize3 o.size 2 (by decide)) lF' ?kn hi ?kk ?kp ?_ ?_
  case kn => exact lN'
  case kk => exact fun _ hp => nomatch hp
  case kp => rfl
  · rintro ⟨B₁, tn₁, vs₁, k₁⟩ i tt u h2 tk2 own hlt hoff hF hP F₂ N₂
    dsimp only at hF hP F₂ N₂
    have hi3 : 2 * i < o.size := by omega
    have hlen := congrArg List.length hP
    rw [List.length_append, List.length_append] at hlen
    have hd3 : o.toList.drop (2 * (i + 1)) = (o.toList.drop (2 * i)).drop 2 := by rw [List.drop_drop]; rfl
    have hdln : (o.toList.drop (2 * i)).length = o.size - 2 * i := by rw [List.length_drop, hls]
    k_steps
    refine Hold.mk ?_
    (with_reducible rename Fr _ _ _ _ => Fs)
    (with_reducible rename News _ _ _ _ => Ns)
    have he3 : (o.toList.drop ((some (0 + (i : Int) * 2)).elim 0 (clipAt o.size))).take ((some (0 + (i : Int) * 2 + 2)).elim o.size (clipAt o.size) - (some (0 + (i : Int) * 2)).elim 0 (clipAt o.size)) = (o.toList.drop (2 * i)).take 2 := by
      have e1 : (0 + (i : Int) * 2) = ((2 * i : Nat) : Int) := by omega
      have e2 : ((2 * i : Nat) : Int) + 2 = ((2 * i + 2 : Nat) : Int) := by omega
      simp only [Option.elim]
      rw [e1, e2, clip_nat, clip_nat]
      exact cut_eq o (2 * i) 2 (by omega)
    match hch : o.toList.drop (2 * i) with
    | [] => rw [hch] at hdln; simp at hdln; omega
    | [a] =>
      refine slice_list (s := ⟨_, _, _, _, _⟩) (r := [a]) Fs Ns (by constructor) (by constructor) (by omega) (he3.trans (by rw [hch]; rfl)) ?_
      intro h3 t3 tk3 F3 N3
      clear Fs Ns
      have hsz : ((#[a].size : Nat) : Int) = 1 := rfl
      k_steps
      refine Hold.mk ?_
      refine call_find ?_
      intro t4 tk4
      k_steps
      refine Hold.mk ?_
      (with_reducible rename Fr _ _ _ _ => Fp)
      (with_reducible rename News _ _ _ _ => Np)
      with_unfolding_all refine' callD (put_okI w h00 mg mb x d l t1 t2 tn₁ vs₁ k₁ _ _ _ _ B₁ hxd hxl hdl (by omega) (by decide) (by decide) hF) B' Fp X' T' rfl rfl Np (fun q hq => List.mem_append.mpr (.inl (.tail _ (.tail _ hq)))) ?kd ?ku ?_
      case kd => ktr_room
      case ku => ktr_units
      rintro r6 own6 h6 tk6 F6 N6 G6 ⟨rfl, tn', vs', k', rfl, hi'⟩
      refine wpAny_execs_nil (wpAny_execs_nil ?_)
      have N7 : News g' L' h6 (wrLed w p pd 2 tp1 tp2 tm o tb x d l t1 t2 ⟨B₁ ++ bitsOf (alnumIdx a) 6, tn', vs', k'⟩ ++ own) := news_mid (l1 := [(p, instObj 68 pd), (pd, partDict w tp1 tp2 2 tm o tb)]) (l2 := bufLed w x d l t1 t2 (B₁.length : Int) tn₁ vs₁ k₁) (l3 := own) Np N6 G6 (wr_off hp1 hp2 hp3 hp4 hp5 hp6) (own_off hoff)
      with_unfolding_all refine kst_end (⟨B₁ ++ bitsOf (alnumIdx a) 6, tn', vs', k'⟩ : BufSt) F6 N7 (fun q hq => List.mem_append.mpr (.inl hq)) (fun q hq => List.mem_append.mpr (.inr hq)) rfl hi' (fun _ hq => nomatch hq) (fun z h1 _ h3 => ?_) ?_
      · obtain ⟨z1, z2⟩ := stored2 h3
        with_unfolding_all refine (if_neg z1).trans ((if_neg h1).trans ?_)
        exact if_neg (by rw [h3]; decide)
      · show (B₁ ++ bitsOf (alnumIdx a) 6) ++ enc2 (o.toList.drop (2 * (List.replicate (i + 1) 0).length)) = st₀.B ++ enc2 o.toList
        rw [List.length_replicate, hd3, ← hP, hch, List.append_assoc]
        simp [enc2]
    | a :: b :: r =>
      refine slice_list (s := ⟨_, _, _, _, _⟩) (r := [a, b]) Fs Ns (by constructor) (by constructor) (by omega) (he3.trans (by rw [hch]; rfl)) ?_
      intro h3 t3 tk3 F3 N3
      clear Fs Ns
      have hsz : ((#[a, b].size : Nat) : Int) = 2 := rfl
      k_steps
      refine Hold.mk ?_
      (with_reducible rename Fr _ _ _ _ => Fs)
      (with_reducible rename News _ _ _ _ => Ns)
      refine slice_list (s := ⟨_, _, _, _, _⟩) (r := [a]) Fs Ns (by constructor) (by constructor) (Nat.le_of_ble_eq_true rfl) (by rfl) ?_
      intro h4 t4 tk4 F4 N4
      clear Fs Ns
      k_steps
      refine Hold.mk ?_
      refine call_find ?_
      intro t5 tk5
      have ha := alnum_range a
      have hb := alnum_range b
      k_steps
      refine Hold.mk ?_
      (with_reducible rename Fr _ _ _ _ => Fs)
      (with_reducible rename News _ _ _ _ => Ns)
      refine slice_list (s := ⟨_, _, _, _, _⟩) (r := [b]) Fs Ns (by constructor) (by constructor) (Nat.le_of_ble_eq_true rfl) (by rfl) ?_
      intro h5 t6 tk6 F5 N5
      clear Fs Ns
      k_steps
      refine Hold.mk ?_
      refine call_find ?_
      intro t7 tk7
      k_steps
      refine Hold.mk ?_
      (with_reducible rename Fr _ _ _ _ => Fp)
      (with_reducible rename News _ _ _ _ => Np)
      with_unfolding_all refine' callD (put_okI w h00 mg mb x d l t1 t2 tn₁ vs₁ k₁ _ _ _ _ B₁ hxd hxl hdl (by omega) (by decide) (by decide) hF) B' Fp X' T' rfl rfl Np (fun q hq => List.mem_append.mpr (.inl (.tail _ (.tail _ hq)))) ?kd ?ku ?_
      case kd => ktr_room
      case ku => ktr_units
      rintro r6 own6 h6 tk6 F6 N6 G6 ⟨rfl, tn', vs', k', rfl, hi'⟩
      refine wpAny_execs_nil (wpAny_execs_nil ?_)
      have N7 : News g' L' h6 (wrLed w p pd 2 tp1 tp2 tm o tb x d l t1 t2 ⟨B₁ ++ bitsOf (alnumIdx a * 45 + alnumIdx b) 11, tn', vs', k'⟩ ++ own) := news_mid (l1 := [(p, instObj 68 pd), (pd, partDict w tp1 tp2 2 tm o tb)]) (l2 := bufLed w x d l t1 t2 (B₁.length : Int) tn₁ vs₁ k₁) (l3 := own) Np N6 G6 (wr_off hp1 hp2 hp3 hp4 hp5 hp6) (own_off hoff)
      with_unfolding_all refine kst_end (⟨B₁ ++ bitsOf (alnumIdx a * 45 + alnumIdx b) 11, tn', vs', k'⟩ : BufSt) F6 N7 (fun q hq => List.mem_append.mpr (.inl hq)) (fun q hq => List.mem_append.mpr (.inr hq)) rfl hi' (fun _ hq => nomatch hq) (fun z h1 _ h3 => ?_) ?_
      · obtain ⟨z1, z2⟩ := stored2 h3
        with_unfolding_all refine (if_neg z1).trans ((if_neg h1).trans ?_)
        exact if_neg (by rw [h3]; decide)
      · show (B₁ ++ bitsOf (alnumIdx a * 45 + alnumIdx b) 11) ++ enc2 (o.toList.drop (2 * (List.replicate (i + 1) 0).length)) = st₀.B ++ enc2 o.toList
        rw [List.length_replicate, hd3, ← hP, hch, List.append_assoc]
        simp [enc2]
  · rintro ⟨B₁, tn₁, vs₁, k₁⟩ u h2 tk2 hF hP F₂ N₂
    dsimp only at hF hP F₂ N₂
    k_steps
    walk_at "bm end"
    refine ⟨rfl, ⟨B₁, tn₁, vs₁, k₁⟩, rfl, ?_, hF⟩
    rw [List.drop_eq_nil_of_le (by rw [hls]; omega)] at hP
    simpa [enc2] using hP

end
-- BmWrite4
section
/-- a loop over a bytes' octets, by what holds of it. -/
theorem loop_bytes {prog : Program} {w : World} {A : Around} {E : Value → Shared → Prop} {s : Shared} {env : Env} {h₀ : Heap} {x : Str} {body : List Stmt} {Q : Flow → Shared → Prop} {σ : Type} {o : Array UInt8} {tb : Tok} {m₀ : Str → Option Value} (Led : σ → List (Addr × Obj)) (ps : σ → List (Str × Value)) (Facts : σ → Prop) (stored : List Str) (P : Nat → σ → Prop) (c₀ : σ)
    (hh : A.handled = none) (F : Fr h₀ env.locals s.heap m₀) (N : News h₀ env.locals s.heap (Led c₀)) (hadr : ∀ st, (Led st).map (·.1) = (Led c₀).map (·.1)) (hf : Facts c₀) (hk : ∀ p ∈ ps c₀, m₀ p.1 = some p.2) (hp : P 0 c₀)
    (turn : ∀ (st : σ) (i : Nat) (c : UInt8) t (u : Str → Option Value) h tk own, o.toList[i]? = some c → OwnOff own ((Led c₀).map (·.1)) → Facts st → P i st →
      Fr h₀ env.locals h (fun y => if y = x then some (.int (c.toNat : Int) t) else kstB (fun z => if stored.contains z then u z else m₀ z) (ps st) y) → News h₀ env.locals h (Led st ++ own) →
      wpAny (model prog w) A (execs body env) (InvPostN h₀ env.locals (KstS Led ps Facts x stored m₀ (fun pre st => P pre.length st) (List.replicate (i + 1) 0)) own ((Led c₀).map (·.1)) { s with heap := h, toks := tk } Q) E { s with heap := h, toks := tk })
    (done : ∀ (st : σ) (u : Str → Option Value) h tk, Facts st → P o.size st → Fr h₀ env.locals h (fun y => if y = x then u y else kstB (fun z => if stored.contains z then u z else m₀ z) (ps st) y) → News h₀ env.locals h (Led st) → Q .next { s with heap := h, toks := tk }) :
    wpAny (model prog w) A (pyIter (.bytes o tb)) (fun it s₂ => LoopAtV prog w A h₀ env x body Q E it s₂) E s := by
  refine KBmo.iter_bytesN (fun i m nx => KstS Led ps Facts x stored m₀ (fun pre st => P pre.length st) (List.replicate i 0) m nx) rfl hh F N ⟨c₀, rfl, hf, hk, fun _ _ _ _ => rfl, by simpa using hp⟩ ?_ ?_
  · rintro i k t m₁ nx h tk own hk1 _ _ hoff ⟨st, rfl, hf', h1, h2, hp'⟩ F₁ N₁
    rw [List.length_replicate] at hp'
    unfold KBw.bInts at hk1
    rw [List.getElem?_map] at hk1
    cases hc : o.toList[i]? with
    | none => rw [hc] at hk1; cases hk1
    | some c =>
      rw [hc] at hk1
      cases hk1
      exact turn st i c t m₁ h tk own hc hoff hf' hp' (kst_fr h1 h2 F₁) N₁
  · rintro m₁ nx h tk ⟨st, rfl, hf', h1, h2, hp'⟩ F₁ N₁
    rw [List.length_replicate, KBw.ints_length] at hp'
    exact done st m₁ h tk hf' hp' (kst_frOut h1 h2 F₁) N₁

set_option maxRecDepth 100000 in
set_option maxHeartbeats 8000000 in
theorem write4_ok (w : World) (h00 : Heap) (mg mb : Str → Option Value) (p pd x d l : Addr) (tp1 tp2 t1 t2 : Nat) (tm tb : Tok) (o : Array UInt8) (st₀ : BufSt)
   (hxd : @Ne Nat x d) (hxl : @Ne Nat x l) (hdl : @Ne Nat d l) (hp1 : @Ne Nat p x) (hp2 : @Ne Nat p d) (hp3 : @Ne Nat p l) (hp4 : @Ne Nat pd x) (hp5 : @Ne Nat pd d) (hp6 : @Ne Nat pd l)
   (hB : st₀.B.length < 10000) (ho : o.size ≤ 100) (hi : IntsAre st₀.vs (pack st₀.B)) :
    CallOk w h00 mg mb 4 40 (.ref 58) [.ref p, .ref x] (wrLed w p pd 4 tp1 tp2 tm o tb x d l t1 t2 st₀) fun res own' => res = .none ∧ ∃ st, own' = wrLed w p pd 4 tp1 tp2 tm o tb x d l t1 t2 st ∧ st.B = st₀.B ++ enc4 o.toList ∧ IntsAre st.vs (pack st.B) := by
  walk_at "bm fill"
  walk_at "bm enter"
  k_steps
  refine Hold.mk ?_
  (with_reducible rename Fr _ _ _ _ => lF')
  (with_reducible rename News _ _ _ _ => lN')
  have hl1 := enc4_len o.toList
  have hls : o.toList.length = o.size := Array.length_toList
  with_unfolding_all refine' loop_bytes (σ := BufSt) (fun st => wrLed w p pd 4 tp1 tp2 tm o tb x d l t1 t2 st) (fun _ => []) (fun st => IntsAre st.vs (pack st.B)) [] (fun i st => st.B ++ enc4 (o.toList.drop i) = st₀.B ++ enc4 o.toList) st₀ (by rfl) lF' ?kn (fun _ => rfl) hi ?kk ?kp ?_ ?_
  case kn => exact lN'
  case kk => exact fun _ hp => nomatch hp
  case kp => rfl
  · rintro ⟨B₁, tn₁, vs₁, k₁⟩ i c tt u h2 tk2 own hc hoff hF hP F₂ N₂
    dsimp only at hF hP F₂ N₂
    have hlen := congrArg List.length hP
    rw [List.length_append, List.length_append] at hlen
    have hch : o.toList.drop i = c :: o.toList.drop (i + 1) := by
      obtain ⟨hlt, e⟩ := List.getElem?_eq_some_iff.mp hc
      rw [List.drop_eq_getElem_cons hlt, e]
    k_steps
    refine Hold.mk ?_
    (with_reducible rename Fr _ _ _ _ => Fp)
    (with_reducible rename News _ _ _ _ => Np)
    with_unfolding_all refine' callD (put_okI w h00 mg mb x d l t1 t2 tn₁ vs₁ k₁ _ _ _ _ B₁ hxd hxl hdl (by omega) (by decide) (by decide) hF) B' Fp X' T' rfl rfl Np (fun q hq => List.mem_append.mpr (.inl (.tail _ (.tail _ hq)))) ?kd ?ku ?_
    case kd => ktr_room
    case ku => ktr_units
    rintro r6 own6 h6 tk6 F6 N6 G6 ⟨rfl, tn', vs', k', rfl, hi'⟩
    refine wpAny_execs_nil ?_
    have N7 : News g' L' h6 (wrLed w p pd 4 tp1 tp2 tm o tb x d l t1 t2 ⟨B₁ ++ bitsOf (c.toNat : Int) 8, tn', vs', k'⟩ ++ own) := news_mid (l1 := [(p, instObj 68 pd), (pd, partDict w tp1 tp2 4 tm o tb)]) (l2 := bufLed w x d l t1 t2 (B₁.length : Int) tn₁ vs₁ k₁) (l3 := own) Np N6 G6 (wr_off hp1 hp2 hp3 hp4 hp5 hp6) (own_off hoff)
    with_unfolding_all refine kst_end (⟨B₁ ++ bitsOf (c.toNat : Int) 8, tn', vs', k'⟩ : BufSt) F6 N7 (fun q hq => List.mem_append.mpr (.inl hq)) (fun q hq => List.mem_append.mpr (.inr hq)) rfl hi' (fun _ hq => nomatch hq) (fun z h1 _ h3 => ?_) ?_
    · with_unfolding_all exact if_neg h1
    · show (B₁ ++ bitsOf (c.toNat : Int) 8) ++ enc4 (o.toList.drop (List.replicate (i + 1) 0).length) = st₀.B ++ enc4 o.toList
      rw [List.length_replicate, ← hP, hch, List.append_assoc]
      simp [enc4]
  · rintro ⟨B₁, tn₁, vs₁, k₁⟩ u h2 tk2 hF hP F₂ N₂
    dsimp only at hF hP F₂ N₂
    k_steps
    walk_at "bm end"
    refine ⟨rfl, ⟨B₁, tn₁, vs₁, k₁⟩, rfl, ?_, hF⟩
    rw [List.drop_eq_nil_of_le (by rw [hls]; omega)] at hP
    simpa [enc4] using hP

end
-- BmPieces
section
/-- a piece of a text: one to three signs, none a surrogate. -/
def PieceOk (x : Str) : Prop := 0 < x.length ∧ x.length ≤ 3 ∧ ∀ y ∈ x.cps, Str.isSurrogate y = false
def PiecesAre (vs : List Value) : Prop := ∀ v ∈ vs, ∃ x t, v = Value.str x t ∧ PieceOk x
theorem PiecesAre.nil : PiecesAre [] := fun _ h => nomatch h
theorem PiecesAre.cons {x : Str} {t : Tok} {vs : List Value} (h : PieceOk x) (r : PiecesAre vs) : PiecesAre (.str x t :: vs) := fun v hv => by
  rcases List.mem_cons.mp hv with rfl | hv
  · exact ⟨x, t, rfl, h⟩
  · exact r v hv
theorem pieceOk_of (s : String) (l : List Nat) (e : Str.ofString s = Str.mk l.toArray) (h0 : 0 < l.length) (h3 : l.length ≤ 3) (h : l.all (fun y => !Str.isSurrogate y) = true) : PieceOk (Str.ofString s) := by
  rw [e]
  refine ⟨by simpa [Str.length] using h0, by simpa [Str.length] using h3, fun y hy => ?_⟩
  have := List.all_eq_true.mp h y (by simpa using hy)
  simpa using this
set_option maxRecDepth 100000 in
set_option maxHeartbeats 8000000 in
theorem pieces_ok (w : World) (h00 : Heap) (mg mb : Str → Option Value) :
    CallOk w h00 mg mb 1 8 (.ref 133) [] [] fun res own' => ∃ D vs, res = .ref D ∧ own' = [(D, listOf vs.toArray 0)] ∧ vs.length = 9 ∧ PiecesAre vs := by
  walk_at "bm fill"
  walk_at "bm enter"
  k_steps
  walk_at "bm end"
  refine ⟨_, _, rfl, rfl, rfl, ?_⟩
  refine .cons (pieceOk_of _ [55] (by decide +kernel) (by decide) (by decide) (by decide)) ?_
  refine .cons (pieceOk_of _ [48, 52] (by decide +kernel) (by decide) (by decide) (by decide)) ?_
  refine .cons (pieceOk_of _ [53, 49, 57] (by decide +kernel) (by decide) (by decide) (by decide)) ?_
  refine .cons (pieceOk_of _ [81] (by decide +kernel) (by decide) (by decide) (by decide)) ?_
  refine .cons (pieceOk_of _ [36, 90] (by decide +kernel) (by decide) (by decide) (by decide)) ?_
  refine .cons (pieceOk_of _ [120] (by decide +kernel) (by decide) (by decide) (by decide)) ?_
  refine .cons (pieceOk_of _ [233] (by decide +kernel) (by decide) (by decide) (by decide)) ?_
  refine .cons (pieceOk_of _ [58, 48] (by decide +kernel) (by decide) (by decide) (by decide)) ?_
  refine .cons (pieceOk_of _ [8364] (by decide +kernel) (by decide) (by decide) (by decide)) ?_
  exact .nil
theorem sub_item {prog : Program} {w : World} {A : Around} {E : Value → Shared → Prop} {s : Shared} {value slice : PySem.Expr} {h₀ : Heap} {L l : Addr} {news : List (Addr × Obj)} {arr : Array Value} {n : Nat} {k : Int} {u : Tok} {v : Value} {Q : Value → Shared → Prop}
    (N : News h₀ L s.heap news) (hl : (l, listOf arr n) ∈ news) (h0 : 0 ≤ k) (hhi : k < 2 ^ 63) (hx : arr[k.toNat]? = some v) (h : Q v s)
    (hs : subscripted slice false (.ref l) (.int k u) = operate [.ref l, .int k u] (getItem (.ref l) (.int k u)) := by with_unfolding_all rfl) :
    wpAny (model prog w) A (subscriptTail value slice (.ref l) (.int k u)) Q E s :=
  have hL : s.heap.IsList l arr := ⟨_, N.get hl, rfl, n, rfl⟩
  tail_any hL.typeIs slot_list_getitem.lookup (wpAny_getItem_list hL h0 hhi hx h) hs
theorem piece_at {vs : List Value} (h : PiecesAre vs) (hl : vs.length = 9) (i : Nat) (hi : i < 9) : ∃ x t, vs[i]? = some (Value.str x t) ∧ PieceOk x := by
  have hlt : i < vs.length := by omega
  obtain ⟨x, t, e, hp⟩ := h _ (List.getElem_mem hlt)
  exact ⟨x, t, by rw [List.getElem?_eq_getElem hlt, e], hp⟩

end
-- BmMade
section
theorem ofString_nil : Str.ofString "" = Str.mk #[] := by rw [Str.ofString_eq_toList]; rfl
structure TxtSt where
  x : Str
  t : Tok
theorem utf8_one1 (c : Nat) : 1 ≤ (PySem.Builtin._codecs.utf8Codec.bytesOf c).length := by
  show 1 ≤ (Str.utf8Of c).length
  unfold Str.utf8Of
  split
  · simp
  · split
    · simp
    · split <;> simp
theorem utf8_fold1 (l : List Nat) (a : Array UInt8) : a.size + l.length ≤ (l.foldl (fun acc y => acc ++ (PySem.Builtin._codecs.utf8Codec.bytesOf y).toArray) a).size := by
  induction l generalizing a with
  | nil => simp
  | cons c l ih =>
    rw [List.foldl_cons]
    refine Nat.le_trans ?_ (ih _)
    have := utf8_one1 c
    simp only [Array.size_append, List.size_toArray, List.length_cons]
    omega
theorem utf8_size1 (x : Str) : x.length ≤ (utf8 x).size := by
  unfold utf8
  rw [← Array.foldl_toList]
  have := utf8_fold1 x.cps.toList #[]
  simp only [List.size_toArray, List.length_nil, Nat.zero_add, Array.length_toList] at this
  exact this
theorem ascii_fold (l : List Nat) (h : ∀ y ∈ l, y < 128) (a : Array UInt8) : l.foldl (fun acc y => acc ++ (PySem.Builtin._codecs.asciiCodec.bytesOf y).toArray) a = l.foldl (fun acc y => acc ++ (PySem.Builtin._codecs.utf8Codec.bytesOf y).toArray) a := by
  induction l generalizing a with
  | nil => rfl
  | cons c l ih =>
    rw [List.foldl_cons, List.foldl_cons]
    have e : PySem.Builtin._codecs.asciiCodec.bytesOf c = PySem.Builtin._codecs.utf8Codec.bytesOf c := by
      show [c.toUInt8] = Str.utf8Of c
      unfold Str.utf8Of
      rw [if_pos (h c (by simp))]
    rw [e]
    exact ih (fun y hy => h y (by simp [hy])) _
theorem ascii_utf8 (x : Str) (h : ∀ y ∈ x.cps, y < 128) : x.cps.foldl (fun acc y => acc ++ (PySem.Builtin._codecs.asciiCodec.bytesOf y).toArray) #[] = utf8 x := by
  unfold utf8
  rw [← Array.foldl_toList, ← Array.foldl_toList]
  exact ascii_fold _ (fun y hy => h y (Array.mem_toList_iff.mp hy)) _
theorem wpAny_encodeA {prog : Program} {w : World} {A : Around} {E : Value → Shared → Prop} {s : Shared} {t u : Tok} {Q : Value → Shared → Prop} {x : Str} (hx : ∀ y ∈ x.cps, y < 128) (hsz : (utf8 x).size ≤ 16777216)
    (h : ∀ t' k, Q (.bytes (utf8 x) t') { s with toks := k }) : wpAny (model prog w) A (call (.builtin "str.encode") [.str x t, .str (Str.ofString "ascii") u]) Q E s := by
  have e := ascii_utf8 x hx
  refine call_gives F.slot_str_encode rfl F.entry_str_encode (F.args_str_encode_2 _ _) (ascii_meets (fun y hy => ?_) (by rw [e, sizeLine_eq]; exact hsz)) ⟨by rw [e, sizeLine_eq]; exact hsz, ?_⟩
  · show decide (y ≥ 128) = false
    have := hx y hy
    simp; omega
  · rw [e]; exact h _ _
theorem fmod9 (a : Int) : 0 ≤ a.fmod 9 ∧ a.fmod 9 < 2 ^ 63 ∧ (a.fmod 9).toNat < 9 := by
  rw [Int.fmod_eq_emod_of_nonneg _ (by decide)]
  have h1 := Int.emod_nonneg a (show (9 : Int) ≠ 0 by decide)
  have h2 := Int.emod_lt_of_pos a (show (0 : Int) < 9 by decide)
  omega
theorem sur_app {x y : Str} (h1 : ∀ c ∈ x.cps, Str.isSurrogate c = false) (h2 : ∀ c ∈ y.cps, Str.isSurrogate c = false) : ∀ c ∈ (x ++ y).cps, Str.isSurrogate c = false := fun c hc => by
  rw [Str.cps_append] at hc
  rcases Array.mem_append.mp hc with h | h
  · exact h1 c h
  · exact h2 c h
theorem txt_step {x y : Str} {i : Nat} (h : x.length ≤ 3 * i ∧ (0 < i → 0 < x.length)) (h1 : 0 < y.length) (h3 : y.length ≤ 3) : (x ++ y).length ≤ 3 * (List.replicate (i + 1) (0 : Int)).length ∧ (0 < (List.replicate (i + 1) (0 : Int)).length → 0 < (x ++ y).length) := by
  rw [List.length_replicate, Str.length_append]
  omega
theorem news_own1 {h₀ h h' : Heap} {L : Addr} {q : Addr × Obj} {own : List (Addr × Obj)} (N : News h₀ L h own) (N' : News h₀ L h' [q]) (G : GSub h h' []) : News h₀ L h' (q :: own) := fun p hp => by
  rcases List.mem_cons.mp hp with rfl | hp
  · exact N' _ (.head _)
  · exact news_rest N G hp (fun h => nomatch h)
theorem num_pos (n : Int) : 0 < (Str.ofString (toString n)).length := by
  rw [PySem.ofString_length]
  cases n with
  | ofNat m =>
    show 0 < (Nat.repr m).length
    unfold Nat.repr
    have := Nat.length_toDigits_pos (b := 10) (n := m)
    simpa using this
  | negSucc m => 
    show 0 < ("-" ++ Nat.repr (m + 1)).length
    rw [String.length_append]
    have : "-".length = 1 := rfl
    omega
section
local macro_rules | `(tactic| walk_at "subscriptTail") => `(tactic| (k_here; (with_reducible show wpAny _ _ (subscriptTail _ _ (Value.ref _) (Value.int _ _)) _ _ _); refine Hold.out ?_))
set_option maxRecDepth 100000 in
set_option maxHeartbeats 8000000 in
theorem made_ok (w : World) (h00 : Heap) (mg mb : Str → Option Value) (n : Int) (tn : Tok) :
    CallOk w h00 mg mb 3 40 (.ref 145) [.int n tn] [] fun res own' => ∃ D v o tb, res = .ref D ∧ own' = [(D, ({ cls := .type "tuple", data := .seq #[v, .bytes o tb] } : Obj))] ∧ IsWhat v o ∧ 0 < o.size ∧ o.size ≤ 50 := by
  walk_at "bm fill"
  walk_at "bm enter"
  k_steps
  · refine Hold.mk ?_
    have hb : ((n.fdiv 3).fmod 2000003 - 1000000).natAbs < 10 ^ 10 := by
      rw [Int.fmod_eq_emod_of_nonneg _ (by decide)]
      have h1 := Int.emod_nonneg (n.fdiv 3) (show (2000003 : Int) ≠ 0 by decide)
      have h2 := Int.emod_lt_of_pos (n.fdiv 3) (show (0 : Int) < 2000003 by decide)
      omega
    generalize (n.fdiv 3).fmod 2000003 - 1000000 = z at hb ⊢
    have hz := utf8_size (Str.ofString (toString z))
    have hz1 := utf8_size1 (Str.ofString (toString z))
    have hl := int_text_length_le10 (k := 10) (by decide) hb
    have hp := num_pos z
    rw [PySem.ofString_length] at hz hp hz1
    refine wpAny_encodeA (dig_plain z) (by omega) ?_
    intro t' k
    k_steps
    (with_reducible rename Fr h₀ _ _ _ => kF)
    (with_reducible rename News h₀ _ _ _ => kN)
    refine' ret _ [?q] _ _ kF ?e2 (gsub_of kG' ?e3) ⟨_, _, _, _, rfl, rfl, .int z _ hb, by omega, by omega⟩
    case e3 => assumption
    case e2 =>
      intro p hp
      rw [List.mem_singleton.mp hp]
      exact kN _ (by k_mem)
  · refine Hold.mk ?_
    (rename IsRange _ _ _ _ _ _ _ _ => rgX)
    (with_reducible rename Fr _ _ _ _ => lF')
    (with_reducible rename News _ _ _ _ => lN')
    have hm3 : 0 ≤ (n.fdiv 3).fmod 3 ∧ (n.fdiv 3).fmod 3 < 3 := by
      rw [Int.fmod_eq_emod_of_nonneg _ (by decide)]
      exact ⟨Int.emod_nonneg _ (by decide), Int.emod_lt_of_pos _ (by decide)⟩
    obtain ⟨k, hk, hk3⟩ : ∃ k : Nat, 1 + (n.fdiv 3).fmod 3 = ((k + 1 : Nat) : Int) ∧ k < 3 := ⟨((n.fdiv 3).fmod 3).toNat, by omega, by omega⟩
    rw [hk] at rgX
    with_unfolding_all refine' loop_range (σ := TxtSt) (fun _ => []) (fun st => [(Str.ofString "text", Value.str st.x st.t)]) (fun st => ∀ y ∈ st.x.cps, Str.isSurrogate y = false) [] (fun i st => st.x.length ≤ 3 * i ∧ (0 < i → 0 < st.x.length)) ⟨Str.ofString "", _⟩ (by rfl) rgX (small3 (k + 1) 1 (by decide) (by decide) (by omega)) (rangeSize3 (k + 1) 1 (by decide)) lF' News.nil ?kf ?kk ?kp ?_ ?_
    case kf =>
      intro y hy
      dsimp only at hy
      rw [ofString_nil] at hy
      exact absurd hy (by simp)
    case kk =>
      intro p hp
      rw [List.mem_singleton.mp hp]
      exact if_pos rfl
    case kp => exact ⟨by rw [PySem.ofString_length]; exact Nat.le_refl 0, fun h => absurd h (Nat.lt_irrefl 0)⟩
    · rintro ⟨x₁, t₁⟩ i tt u h2 tk2 own hlt hoff hF hP F₂ N₂
      dsimp only at hF hP F₂ N₂
      have hi3 : i < 3 := by
        have : (k + 1 + 1 - 1) / 1 = k + 1 := by simp
        omega
      have hi4 : i = 0 ∨ i = 1 ∨ i = 2 := by omega
      rcases hi4 with rfl | rfl | rfl
      · k_steps
        refine Hold.mk ?_
        (with_reducible rename Fr _ _ _ _ => Fp)
        (with_reducible rename News _ _ _ _ => Np)
        with_unfolding_all refine' callD (pieces_ok w h00 mg mb) B' Fp X' T' rfl rfl Np (fun _ h => nomatch h) ?kd1 ?ku1 ?_
        case kd1 => ktr_room
        case ku1 => ktr_units
        rintro r6 own6 h6 tk6 F6 N6 G6 ⟨D6, vs6, rfl, rfl, hl6, hpc⟩
        have N7 := news_own1 Np N6 G6
        clear N6 Np Fp
        k_steps
        refine Hold.mk ?_
        obtain ⟨xp, tp, hx, hpk1, hpk2, hpk3⟩ := piece_at hpc hl6 (Int.toNat (Int.fmod _ 9)) (fmod9 _).2.2
        refine sub_item N7 (.head _) (fmod9 _).1 (fmod9 _).2.1 ((List.getElem?_toArray ..).trans hx) ?_
        iterate 2 walk1
        refine wpAny_execs_nil ?_
        (with_reducible rename Fr _ _ _ _ => Fe)
        (with_reducible rename News _ _ _ _ => Ne)
        with_unfolding_all refine' kst_end (⟨x₁ ++ xp, ?tk1⟩ : TxtSt) Fe Ne (fun _ h => nomatch h) (fun q hq => .tail _ hq) rfl ?hf1 ?hk1 ?hr1 ?hp1
        case hk1 =>
          intro q hq
          rw [List.mem_singleton.mp hq]
          exact if_pos rfl
        case hf1 => exact sur_app hF hpk3
        case hr1 =>
          intro z z1 z2 z3
          have hz : z ≠ Str.ofString "text" := z2 _ (.head _)
          refine Eq.trans (if_neg hz) (Eq.trans (if_neg z1) (Eq.trans (b := if ([] : List Str).contains z = true then u z else _) (if_neg hz) ?_))
          exact if_neg Bool.false_ne_true
        case hp1 => exact txt_step hP hpk1 hpk2
      · k_steps
        refine Hold.mk ?_
        (with_reducible rename Fr _ _ _ _ => Fp)
        (with_reducible rename News _ _ _ _ => Np)
        with_unfolding_all refine' callD (pieces_ok w h00 mg mb) B' Fp X' T' rfl rfl Np (fun _ h => nomatch h) ?kd2 ?ku2 ?_
        case kd2 => ktr_room
        case ku2 => ktr_units
        rintro r6 own6 h6 tk6 F6 N6 G6 ⟨D6, vs6, rfl, rfl, hl6, hpc⟩
        have N7 := news_own1 Np N6 G6
        clear N6 Np Fp
        k_steps
        refine Hold.mk ?_
        obtain ⟨xp, tp, hx, hpk1, hpk2, hpk3⟩ := piece_at hpc hl6 (Int.toNat (Int.fmod _ 9)) (fmod9 _).2.2
        refine sub_item N7 (.head _) (fmod9 _).1 (fmod9 _).2.1 ((List.getElem?_toArray ..).trans hx) ?_
        iterate 2 walk1
        refine wpAny_execs_nil ?_
        (with_reducible rename Fr _ _ _ _ => Fe)
        (with_reducible rename News _ _ _ _ => Ne)
        with_unfolding_all refine' kst_end (⟨x₁ ++ xp, ?tk2⟩ : TxtSt) Fe Ne (fun _ h => nomatch h) (fun q hq => .tail _ hq) rfl ?hf2 ?hk2 ?hr2 ?hp2
        case hk2 =>
          intro q hq
          rw [List.mem_singleton.mp hq]
          exact if_pos rfl
        case hf2 => exact sur_app hF hpk3
        case hr2 =>
          intro z z1 z2 z3
          have hz : z ≠ Str.ofString "text" := z2 _ (.head _)
          refine Eq.trans (if_neg hz) (Eq.trans (if_neg z1) (Eq.trans (b := if ([] : List Str).contains z = true then u z else _) (if_neg hz) ?_))
          exact if_neg Bool.false_ne_true
        case hp2 => exact txt_step hP hpk1 hpk2
      · k_steps
        refine Hold.mk ?_
        (with_reducible rename Fr _ _ _ _ => Fp)
        (with_reducible rename News _ _ _ _ => Np)
        with_unfolding_all refine' callD (pieces_ok w h00 mg mb) B' Fp X' T' rfl rfl Np (fun _ h => nomatch h) ?kd3 ?ku3 ?_
        case kd3 => ktr_room
        case ku3 => ktr_units
        rintro r6 own6 h6 tk6 F6 N6 G6 ⟨D6, vs6, rfl, rfl, hl6, hpc⟩
        have N7 := news_own1 Np N6 G6
        clear N6 Np Fp
        k_steps
        refine Hold.mk ?_
        obtain ⟨xp, tp, hx, hpk1, hpk2, hpk3⟩ := piece_at hpc hl6 (Int.toNat (Int.fmod _ 9)) (fmod9 _).2.2
        refine sub_item N7 (.head _) (fmod9 _).1 (fmod9 _).2.1 ((List.getElem?_toArray ..).trans hx) ?_
        iterate 2 walk1
        refine wpAny_execs_nil ?_
        (with_reducible rename Fr _ _ _ _ => Fe)
        (with_reducible rename News _ _ _ _ => Ne)
        with_unfolding_all refine' kst_end (⟨x₁ ++ xp, ?tk3⟩ : TxtSt) Fe Ne (fun _ h => nomatch h) (fun q hq => .tail _ hq) rfl ?hf3 ?hk3 ?hr3 ?hp3
        case hk3 =>
          intro q hq
          rw [List.mem_singleton.mp hq]
          exact if_pos rfl
        case hf3 => exact sur_app hF hpk3
        case hr3 =>
          intro z z1 z2 z3
          have hz : z ≠ Str.ofString "text" := z2 _ (.head _)
          refine Eq.trans (if_neg hz) (Eq.trans (if_neg z1) (Eq.trans (b := if ([] : List Str).contains z = true then u z else _) (if_neg hz) ?_))
          exact if_neg Bool.false_ne_true
        case hp3 => exact txt_step hP hpk1 hpk2
    · rintro ⟨x₁, t₁⟩ u h2 tk2 hF hP F₂ N₂
      dsimp only at hF hP F₂ N₂
      rw [Nat.div_one] at hP
      have hp1 := hP.1
      have hp2 := hP.2 (by omega)
      have hz := utf8_size x₁
      have hz1 := utf8_size1 x₁
      k_steps
      refine Hold.mk ?_
      refine wpAny_encode hF (by omega) ?_
      intro t' k'
      k_steps
      · (with_reducible rename Fr h₀ _ _ _ => kF)
        (with_reducible rename News h₀ _ _ _ => kN)
        refine' ret _ [?q1] _ _ kF ?e21 (gsub_of kG' ?e31) ⟨_, _, _, _, rfl, rfl, .str x₁ _ hF (by omega), by omega, by omega⟩
        case e31 => assumption
        case e21 =>
          intro p hp
          rw [List.mem_singleton.mp hp]
          exact kN _ (by k_mem)
      · (with_reducible rename Fr h₀ _ _ _ => kF)
        (with_reducible rename News h₀ _ _ _ => kN)
        refine' ret _ [?q2] _ _ kF ?e22 (gsub_of kG' ?e32) ⟨_, _, _, _, rfl, rfl, .bytes (utf8 x₁) _, by omega, by omega⟩
        case e32 => assumption
        case e22 =>
          intro p hp
          rw [List.mem_singleton.mp hp]
          exact kN _ (by k_mem)
end

end
-- BmComp
section
open LCg
/-- the turns of a comprehension, by what holds of them. -/
theorem comp_rest {prog : Program} {w : World} {A : Around} {h₀ : Heap} {L : Addr} {m : Str → Option Value} {env : Env} {elt : Expr} {x : Str} {scope : Scope} {cl : List (Str × Addr)} {s : Shared} {S : List (Addr × Obj) → Prop} {P : Nat → Value → Prop} {Fin : List Value → List (Addr × Obj) → Prop} {n : Nat}
    (J : Nat → List Value → List (Addr × Obj) → Prop)
    (turn : ∀ i ys nx v I oI C oC D m₂ h tk (E' : Value → Shared → Prop), i < n → J i ys nx → P i v → NsObj oC m₂ → m₂ x = some v → Fr h₀ L h m → News h₀ L h ((I, oI) :: (C, oC) :: (D, lst ys) :: nx) → Off3 I C D nx → ((@Ne Nat I C) ∧ (@Ne Nat I D) ∧ (@Ne Nat C D)) →
      wpAny (model prog w) A (eval elt (compEnvC scope cl C env)) (CompEnd h₀ L m { s with heap := h, toks := tk } I oI C oC D (lst ys) S (fun y nx' => J (i + 1) (ys ++ [y]) nx')) E' { s with heap := h, toks := tk })
    (fin : ∀ ys nx, J n ys nx → Fin ys nx) : ∀ (j i : Nat) (ys : List Value) (nx : List (Addr × Obj)), i + j = n → J i ys nx → CompRest prog w A h₀ L m env elt x scope cl s S P Fin j i ys nx := by
  intro j
  induction j with
  | zero =>
    intro i ys nx hi hj
    have e : i = n := by omega
    subst e
    exact CompRest.zero (fin ys nx hj)
  | succ j ih =>
    intro i ys nx hi hj
    refine CompRest.succ ?_
    intro v I oI C oC D m₂ h tk E' hv hC hx F N off ne
    refine wpAny_mono (turn i ys nx v I oI C oC D m₂ h tk E' (by omega) hj hv hC hx F N off ne) (fun y s₂ hq => ?_) fun _ _ e => e
    obtain ⟨h', tk', nw, e, F', N', off', hS, hn⟩ := hq
    exact ⟨h', tk', nw, e, F', N', off', hS, ih (i + 1) _ _ (by omega) hn⟩

def SrcB (prog : Program) (w : World) (A : Around) (h₀ : Heap) (L : Addr) (m : Str → Option Value) (env : Env) (elt : Expr) (x : Str) (scope : Scope) (cl : List (Str × Addr)) (Fin : Shared → List Value → List (Addr × Obj) → Prop) (xv : Value) (s₁ : Shared) : Prop :=
  ∃ o t news, xv = .bytes o t ∧ A.handled = none ∧ Fr h₀ L s₁.heap m ∧ News h₀ L s₁.heap news ∧ o.size ≤ sizeLine ∧
    ∀ s₂ : Shared, (∃ h, s₂ = { s₁ with heap := h }) → CompRest prog w A h₀ L m env elt x scope cl s₂ (fun _ => True) (fun i v => ∃ c u, o[i]? = some c ∧ v = .int (c.toNat : Int) u) (Fin s₂) o.size 0 [] news

/-- a list comprehension over bytes, stored under a name. -/
theorem Assign_ListComp_B {prog : Program} {w : World} {A : Around} {E : Value → Shared → Prop} {s : Shared} {h₀ : Heap} {L : Addr} {m : Str → Option Value} {env : Env} {elt iter : Expr} {x y : Str} {px py : Pos} {scope : Scope} {cl : List (Str × Addr)} {pos spos : Pos} {Q : Flow → Shared → Prop} (_F₀ : Fr h₀ L s.heap m) (hLe : env.locals = L)
    (hsw : swapsWith (.ListComp elt [⟨.Name x px, iter, [], 0⟩] scope pos) (some (.Name y py)) spos.line env = pure true)
    (hclos : closureFor scope env = pure cl) (hcell : ∀ z ∈ scope.names, z.2 ≠ .cell) (hkind : scope.kind = .function)
    (hnames : ∀ z ∈ scope.names, z.2 = .local → scope.names.lookup z.1 = some .local) (hx : scope.names.lookup x = some .local)
    (hy : env.kindOf y = some .local) (hp : (env.scope.kind == .class || (env.scope.kind == .module && env.locals != env.globals)) = false)
    (h : wpAny (model prog w) A (eval iter env) (SrcB prog w A h₀ L m env elt x scope cl (fun s₂ => FinA h₀ L m s₂ y Q)) E s)
    (hs : ∀ x, foldedSetIterable iter env x = pure x := by intro _; rfl) :
    wpAny (model prog w) A (exec (.Assign [.Name y py] (.ListComp elt [⟨.Name x px, iter, [], 0⟩] scope pos) spos) env) Q E s := by
  subst hLe
  rw [exec_Assign_Name_used _ _ _ _ hsw]
  refine wpAny_bind (wpAny_standAt (wpAny_bind ?_))
  show wpAny _ A (do let _ ← comprehension (.ListComp elt [⟨.Name x px, iter, [], 0⟩] scope pos) scope env _ (newList []) false (eval iter env) (some (assign (.Name y py) env))) _ _ s
  refine wpAny_bind (wpAny_mono (wpAny_comprehension_free (use := some (assign (.Name y py) env)) (Q := fun _ s' => Q .next s') rfl hs hclos hkind hnames
    (wpAny_mono h (fun xv s₁ h₁ => ?_) fun _ _ e => e)) (fun _ s' hq => wpAny_pure (wpAny_pure hq)) fun _ _ e => e)
  obtain ⟨o, t, news, rfl, hh, F, N, hsz, R⟩ := h₁
  have up : ∀ b o', s₁.heap.get? b = some o' → (s₁.heap.push { cls := .type "bytes_iterator", data := .fields #[.bytes o t, .int 0 0] }).get? b = some o' := fun b o e => Heap.get?_push_of_some _ e
  refine KBw.pyIter_bytes ?_
  refine block_U (KBw.walks hh s₁.heap.objs.size o t) hsz (fun i h st => by obtain ⟨o, e, _⟩ := st; exact ⟨o, e⟩)
    (fun i h h' o' nw st e e' _ _ _ => by obtain ⟨o'', q, r⟩ := st; rw [e] at q; cases q; exact ⟨o', e', r⟩) hcell hkind hx ⟨_, Heap.get?_push_size _ rfl, rfl, rfl⟩ (fun b hb => ?_)
    (F.keeps up) (N.grown up) (Nat.ne_of_lt F.ns.lt) (next_is_new F) (fun p hp => Nat.ne_of_lt (Heap.lt_size (N p hp).1)) trivial (R _ ⟨_, rfl⟩) ?_
  · rw [List.mem_singleton.mp hb]
    show s₁.heap.objs.size < (s₁.heap.push _).objs.size
    rw [Heap.size_push]; exact Nat.lt_succ_self _
  · intro D C h' tk m' ys news' F' N' o1 hn hC₀ hD₀ hCL hDL hCD offC fin
    show wpAny _ A (assign (.Name y py) env (.ref D)) _ _ _
    refine wpAny_assign_Name (wpAny_storeName_local hy F'.ns (fun h₂ hn₂ hs₂ => ?_) hp)
    have hL₀ : h₀.get? env.locals = none := Heap.get?_none_of_le F'.above
    have F₂ : Fr h₀ env.locals h₂ (fun z => if z = y then some (.ref D) else m z) := ⟨hn₂, fun b o e => hs₂.extBut b o (fun q => by rw [q, hL₀] at e; cases e) (F'.keep b o e), F'.above⟩
    refine ⟨m', hn.sameBut hs₂ hCL, fun h'' hs'' => fin D h'' _ (F₂.change hs'' hCL hC₀) (fun p hp => ?_) o1⟩
    have z : h₂.get? p.1 = some p.2 := hs₂.extBut _ _ (N' p hp).2.1 (N' p hp).1
    refine ⟨hs''.extBut _ _ ?_ z, (N' p hp).2⟩
    rcases List.mem_cons.mp hp with rfl | hp
    · exact Ne.symm hCD
    · exact offC p hp

end
-- BmLeast
section
/-- the place of an octet in the law's own row of signs, or -1. -/
def signIdx (k : Nat) : Int := Txt.find (Str.ofString "0123456789ABCDEFGHIJKLMNOPQRSTUVWXYZ $%*+-./:") ⟨#[k]⟩
theorem sign_none0 : ∀ n : Fin 256, (signIdx n.val == -1) = !(ALNUM.contains (UInt8.ofNat n.val)) := by decide +kernel
theorem sign_dig0 : ∀ n : Fin 256, (signIdx n.val != -1 && decide (signIdx n.val < 10)) = PySem.Builtin.Bytes.isDigit (UInt8.ofNat n.val) := by decide +kernel
theorem sign_none (c : UInt8) : (signIdx c.toNat == -1) = !(ALNUM.contains c) := by simpa using sign_none0 ⟨c.toNat, c.toNat_lt⟩
theorem sign_dig (c : UInt8) : (signIdx c.toNat != -1 && decide (signIdx c.toNat < 10)) = PySem.Builtin.Bytes.isDigit c := by simpa using sign_dig0 ⟨c.toNat, c.toNat_lt⟩
theorem dig_alnum0 : ∀ n : Fin 256, PySem.Builtin.Bytes.isDigit (UInt8.ofNat n.val) = true → ALNUM.contains (UInt8.ofNat n.val) = true := by decide +kernel
theorem dig_alnum {c : UInt8} (h : PySem.Builtin.Bytes.isDigit c = true) : ALNUM.contains c = true := by have := dig_alnum0 ⟨c.toNat, c.toNat_lt⟩; simpa using this (by simpa using h)
theorem least_four (o : Array UInt8) (h : ((o.toList.map fun c => signIdx c.toNat).any fun x => x == -1) = true) : leastMode o = 4 := by
  rw [List.any_map, List.any_eq_true] at h
  obtain ⟨c, hc, e⟩ := h
  have e' : ALNUM.contains c = false := by have := sign_none c; simp only [Function.comp] at e; rw [e] at this; cases h : ALNUM.contains c with
    | false => rfl
    | true => rw [h] at this; cases this
  unfold leastMode
  rw [if_neg, if_neg]
  · intro hq; rw [List.all_eq_true] at hq; have := hq c hc; rw [e'] at this; cases this
  · intro hq
    unfold PySem.Builtin.Bytes.allOf at hq
    rw [Bool.and_eq_true, List.all_eq_true] at hq
    have := dig_alnum (hq.2 c hc); rw [e'] at this; cases this
theorem least_low (o : Array UInt8) (h0 : 0 < o.size) (h : ((o.toList.map fun c => signIdx c.toNat).any fun x => x == -1) = false) (M : Int) (hm : M ∈ o.toList.map fun c => signIdx c.toNat) (hM : ∀ a, a ∈ (o.toList.map fun c => signIdx c.toNat) → a ≤ M) :
    leastMode o = if M < 10 then 1 else 2 := by
  have hall : ∀ c ∈ o.toList, (signIdx c.toNat == -1) = false := by
    rw [List.any_map, List.any_eq_false] at h
    intro c hc
    have := h c hc
    simpa using this
  have hne : o.toList ≠ [] := fun e => by rw [← Array.length_toList, e] at h0; cases h0
  unfold leastMode
  by_cases hx : M < 10
  · rw [if_pos hx, if_pos]
    unfold PySem.Builtin.Bytes.allOf
    rw [Bool.and_eq_true, List.all_eq_true]
    refine ⟨by cases hl : o.toList with | nil => exact absurd hl hne | cons a b => rfl, fun c hc => ?_⟩
    rw [← sign_dig c, Bool.and_eq_true]
    refine ⟨by have := hall c hc; unfold bne; rw [this]; rfl, decide_eq_true (Int.lt_of_le_of_lt (hM _ (List.mem_map.mpr ⟨c, hc, rfl⟩)) hx)⟩
  · rw [if_neg hx, if_neg, if_pos]
    · rw [List.all_eq_true]
      intro c hc
      have := sign_none c
      rw [hall c hc] at this
      cases e : ALNUM.contains c with
      | true => rfl
      | false => rw [e] at this; cases this
    · intro hq
      unfold PySem.Builtin.Bytes.allOf at hq
      rw [Bool.and_eq_true, List.all_eq_true] at hq
      obtain ⟨c, hc, e⟩ := List.mem_map.mp hm
      have := hq.2 c hc
      rw [← sign_dig c, Bool.and_eq_true, decide_eq_true_eq, e] at this
      exact hx this.2
def LeastJ (o : Array UInt8) (i : Nat) (ys : List Value) (nx : List (Addr × Obj)) : Prop := nx = [] ∧ IntsAre ys ((o.toList.take i).map fun c => signIdx c.toNat)
set_option maxRecDepth 100000 in
set_option maxHeartbeats 8000000 in
theorem least_ok (w : World) (h00 : Heap) (mg mb : Str → Option Value) (o : Array UInt8) (t : Tok) (ho : o.size ≤ 100) (h0 : 0 < o.size) :
    CallOk w h00 mg mb 2 20 (.ref 138) [.bytes o t] [] fun res own' => (∃ t', res = .int (leastMode o) t') ∧ own' = [] := by
  walk_at "bm fill"
  walk_at "bm enter"
  k_steps
  refine Hold.mk ?_
  (with_reducible rename Fr _ _ _ _ => lF')
  (with_reducible rename News _ _ _ _ => lN')
  with_unfolding_all refine' Assign_ListComp_B lF' rfl (by with_unfolding_all rfl) (by rfl) (by decide) (by rfl) (by decide) (by rfl) (by rfl) (by rfl) ?_
  walk1
  refine ⟨_, _, _, rfl, rfl, lF', lN', by rw [sizeLine_eq]; exact Nat.le_trans ho (by decide), ?_⟩
  rintro s₂ ⟨hx, rfl⟩
  refine comp_rest (LeastJ o) ?_ ?_ _ 0 _ _ (Nat.zero_add _) ⟨rfl, ?_⟩
  · rintro i ys nx v I oI C oC D m₂ h tk E' hi ⟨rfl, hj⟩ ⟨c, u, hc, rfl⟩ hC hx F₂ N₂ off ne
    have hc8 := c.toNat_lt
    k_steps
    refine ⟨rfl, ?_⟩
    have hcl : o.toList[i]? = some c := by simpa using hc
    rw [List.take_add_one, hcl]
    rw [Option.toList_some, List.map_append]
    exact IntsAre.append hj (.cons (signIdx c.toNat) _ .nil)
  · rintro ys nx ⟨rfl, hj⟩
    rw [show o.toList.take o.size = o.toList by rw [← Array.length_toList, List.take_length]] at hj
    obtain ⟨ns, hns⟩ : ∃ ns, ns = (o.toList.map fun c => signIdx c.toNat) := ⟨_, rfl⟩
    rw [← hns] at hj
    have hlen : 0 < ns.length := by rw [hns, List.length_map, Array.length_toList]; exact h0
    intro D h tk F₂ N₂ off
    k_steps
    · (rename (ns.any _ = true) => hany)
      (with_reducible rename Fr h₀ _ _ _ => kF)
      refine' ret _ [] _ _ kF (fun p hp => (List.not_mem_nil hp).elim) (gsub_of kG' ?e3) ?_
      case e3 => assumption
      exact ⟨⟨_, by rw [least_four o (by rw [← hns]; exact hany)]⟩, rfl⟩
    · (rename (ns.any _ = false) => hany)
      (rename (_ ∈ ns) => hm)
      (rename (∀ a, a ∈ ns → a ≤ _) => hM)
      (rename (_ < (10 : Int)) => hlt)
      (with_reducible rename Fr h₀ _ _ _ => kF)
      refine' ret _ [] _ _ kF (fun p hp => (List.not_mem_nil hp).elim) (gsub_of kG' ?e3) ?_
      case e3 => assumption
      exact ⟨⟨_, by rw [least_low o h0 (by rw [← hns]; exact hany) _ (by rw [← hns]; exact hm) (by rw [← hns]; exact hM), if_pos hlt]⟩, rfl⟩
    · (rename (ns.any _ = false) => hany)
      (rename (_ ∈ ns) => hm)
      (rename (∀ a, a ∈ ns → a ≤ _) => hM)
      (rename (¬ (_ < (10 : Int))) => hlt)
      (with_reducible rename Fr h₀ _ _ _ => kF)
      refine' ret _ [] _ _ kF (fun p hp => (List.not_mem_nil hp).elim) (gsub_of kG' ?e3) ?_
      case e3 => assumption
      exact ⟨⟨_, by rw [least_low o h0 (by rw [← hns]; exact hany) _ (by rw [← hns]; exact hm) (by rw [← hns]; exact hM), if_neg hlt]⟩, rfl⟩
  · rw [List.take_zero]; exact .nil

end
-- BmSize
section
/-- the width of a part's octets in a mode, as the law counts it. -/
def lawSize (mode : Int) (c : Nat) : Nat := if mode = 1 then 10 * (c / 3) + (if c % 3 = 0 then 0 else if c % 3 = 1 then 4 else 7) else if mode = 2 then 11 * (c / 2) + 6 * (c % 2) else 8 * c
theorem lawSize_1 (c : Nat) (r x : Int) (hr : (c : Int).fmod 3 = r) (hx : (r = 0 ∧ x = 0) ∨ (r = 1 ∧ x = 4) ∨ (r = 2 ∧ x = 7)) : 10 * (c : Int).fdiv 3 + x = (lawSize 1 c : Int) := by
  rw [Int.fmod_eq_emod_of_nonneg _ (by decide)] at hr
  rw [Int.fdiv_eq_ediv_of_nonneg _ (by decide)]
  unfold lawSize
  rw [if_pos rfl]
  split
  · omega
  · split <;> omega
theorem lawSize_2 (c : Nat) : 11 * (c : Int).fdiv 2 + 6 * (c : Int).fmod 2 = (lawSize 2 c : Int) := by
  rw [Int.fmod_eq_emod_of_nonneg _ (by decide), Int.fdiv_eq_ediv_of_nonneg _ (by decide)]
  unfold lawSize
  rw [if_neg (by decide), if_pos rfl]
  omega
theorem lawSize_4 (c : Nat) : 8 * (c : Int) = (lawSize 4 c : Int) := by
  unfold lawSize
  rw [if_neg (by decide), if_neg (by decide)]
  omega
set_option maxRecDepth 100000 in
set_option maxHeartbeats 8000000 in
theorem size_ok (w : World) (h00 : Heap) (mg mb : Str → Option Value) (mode : Int) (c : Nat) (t1 t2 : Tok) (hm : mode = 1 ∨ mode = 2 ∨ mode = 4) (hc : c ≤ 1000) :
    CallOk w h00 mg mb 1 10 (.ref 152) [.int mode t1, .int (c : Int) t2] [] fun res own' => (∃ t', res = .int (lawSize mode c : Int) t') ∧ own' = [] := by
  walk_at "bm fill"
  walk_at "bm enter"
  k_steps
  · (rename mode = 1 => hm1)
    subst hm1
    (rename Int.fmod _ _ = _ => hr)
    (with_reducible rename Fr h₀ _ _ _ => kF)
    refine' ret _ [] _ _ kF (fun p hp => (List.not_mem_nil hp).elim) (gsub_of kG' ?e3) ⟨⟨_, congrArg (fun x => Value.int x _) ?q⟩, rfl⟩
    case e3 => assumption
    case q => exact lawSize_1 c _ _ hr (by decide)
  · (rename mode = 1 => hm1)
    subst hm1
    (rename Int.fmod _ _ = _ => hr)
    (with_reducible rename Fr h₀ _ _ _ => kF)
    refine' ret _ [] _ _ kF (fun p hp => (List.not_mem_nil hp).elim) (gsub_of kG' ?e3) ⟨⟨_, congrArg (fun x => Value.int x _) ?q⟩, rfl⟩
    case e3 => assumption
    case q => exact lawSize_1 c _ _ hr (by decide)
  · (rename mode = 1 => hm1)
    subst hm1
    (rename Int.fmod _ _ = _ => hr)
    (with_reducible rename Fr h₀ _ _ _ => kF)
    refine' ret _ [] _ _ kF (fun p hp => (List.not_mem_nil hp).elim) (gsub_of kG' ?e3) ⟨⟨_, congrArg (fun x => Value.int x _) ?q⟩, rfl⟩
    case e3 => assumption
    case q => exact lawSize_1 c _ _ hr (by decide)
  · (rename mode = 2 => hm1)
    subst hm1
    (with_reducible rename Fr h₀ _ _ _ => kF)
    refine' ret _ [] _ _ kF (fun p hp => (List.not_mem_nil hp).elim) (gsub_of kG' ?e3) ⟨⟨_, congrArg (fun x => Value.int x _) ?q⟩, rfl⟩
    case e3 => assumption
    case q => exact lawSize_2 c
  · (rename ¬ mode = 1 => hm1)
    (rename ¬ mode = 2 => hm2)
    have hm4 : mode = 4 := by omega
    subst hm4
    (with_reducible rename Fr h₀ _ _ _ => kF)
    refine' ret _ [] _ _ kF (fun p hp => (List.not_mem_nil hp).elim) (gsub_of kG' ?e3) ⟨⟨_, congrArg (fun x => Value.int x _) ?q⟩, rfl⟩
    case e3 => assumption
    case q => exact lawSize_4 c

end
-- BmNumber
section
/-- the turns of a loop over a list, by what holds of them. -/
theorem list_rest {prog : Program} {w : World} {A : Around} {E : Value → Shared → Prop} {h₀ : Heap} {env : Env} {x : Str} {body : List Stmt} {Q : Flow → Shared → Prop} {s : Shared} {I : Addr} {lp : Addr × Obj}
    (J : List Value → (Str → Option Value) → List (Addr × Obj) → Prop)
    (turn : ∀ v r m nx (it : Obj) h tk, J (v :: r) m nx → it.cls = .type "list_iterator" → Fr h₀ env.locals h (fun y => if y = x then some v else m y) → News h₀ env.locals h ((I, it) :: nx) →
      wpAny (model prog w) A (execs body env) (UnrPost h₀ env.locals { s with heap := h, toks := tk } I it (fun m' n' => lp ∈ n' ∧ J r m' n') Q) E { s with heap := h, toks := tk })
    (done : ∀ m nx h tk, J [] m nx → Fr h₀ env.locals h m → News h₀ env.locals h nx → Q .next { s with heap := h, toks := tk }) :
    ∀ (vs : List Value) (m : Str → Option Value) (nx : List (Addr × Obj)), J vs m nx → ListRest prog w A E h₀ env x body Q s I lp vs m nx := by
  intro vs
  induction vs with
  | nil => intro m nx hj; exact ListRest.zero fun h tk F N => done m nx h tk hj F N
  | cons v r ih =>
    intro m nx hj
    refine ListRest.succ fun it h tk hc F N => ?_
    refine wpAny_mono (turn v r m nx it h tk hj hc F N) (fun f s₂ hq => ?_) fun _ _ e => e
    have up : UnrEnd h₀ env.locals { s with heap := h, toks := tk } I it (fun m' n' => lp ∈ n' ∧ J r m' n') s₂ → UnrEnd h₀ env.locals { s with heap := h, toks := tk } I it (fun m' n' => lp ∈ n' ∧ ListRest prog w A E h₀ env x body Q s I lp r m' n') s₂ := by
      rintro ⟨h', tk', m', news', e, F', N', hn, hl, hj'⟩
      exact ⟨h', tk', m', news', e, F', N', hn, hl, ih _ _ hj'⟩
    cases f with
    | ret v => exact hq
    | brk => exact hq
    | next => exact up hq
    | cont => exact up hq
def NumJ (x : Addr) (k : Nat) (all : List Bool) (vs : List Value) (m : Str → Option Value) (nx : List (Addr × Obj)) : Prop :=
  ∃ (bs : List Bool) (acc : Int) (t : Tok) (u : Str → Option Value), vs = bs.map Value.bool ∧ m = (fun y => if y = Str.ofString "number" then some (.int acc t) else u y) ∧ nx = [(x, { cls := .type "list", data := .seq (all.map Value.bool).toArray k })] ∧ bs.foldl (fun n b => 2 * n + b2i b) acc = bnum all ∧ 0 ≤ acc
set_option maxRecDepth 100000 in
set_option maxHeartbeats 8000000 in
theorem number_ok (w : World) (h00 : Heap) (mg mb : Str → Option Value) (x : Addr) (k : Nat) (bs : List Bool) (hb : bs.length ≤ 1000) :
    CallOk w h00 mg mb 2 20 (.ref 159) [.ref x] [(x, { cls := .type "list", data := .seq (bs.map Value.bool).toArray k })] fun res own' => (∃ t', res = .int (bnum bs) t') ∧ own' = [(x, { cls := .type "list", data := .seq (bs.map Value.bool).toArray k })] := by
  walk_at "bm fill"
  walk_at "bm enter"
  k_steps
  refine Hold.mk ?_
  (with_reducible rename Fr _ _ _ _ => lF')
  (with_reducible rename News _ _ _ _ => lN')
  refine iter_listUnr rfl lF' lN' (List.mem_cons_self ..) rfl rfl ?_
  intro I hI
  refine list_rest (NumJ x k bs) ?_ ?_ _ _ _ ?_
  · rintro v r m nx it h tk ⟨bs₁, acc, t, u, hv, rfl, rfl, hf, h0⟩ hc F₂ N₂
    rcases bs₁ with _ | ⟨b, bs₂⟩
    · cases hv
    · injection hv with hv1 hv2
      subst hv1; subst hv2
      k_steps
      · (rename b = true => hbt)
        exact ⟨bs₂, _, _, _, rfl, rfl, rfl, by rw [← hf, hbt]; rfl, by omega⟩
      · (rename b = false => hbt)
        exact ⟨bs₂, _, _, _, rfl, rfl, rfl, by rw [← hf, hbt]; rfl, by omega⟩
  · rintro m nx h tk ⟨bs₁, acc, t, u, hv, rfl, rfl, hf, h0⟩ F₂ N₂
    obtain rfl : bs₁ = [] := by cases bs₁ with | nil => rfl | cons a b => cases hv
    k_steps
    (with_reducible rename Fr h₀ _ _ _ => kF)
    (with_reducible rename News h₀ _ _ _ => kN)
    refine' ret _ _ _ _ kF kN (gsub_of kG' ?e3) ⟨⟨_, congrArg (fun x => Value.int x _) hf⟩, rfl⟩
    case e3 => assumption
  · exact ⟨bs, 0, _, _, rfl, rfl, rfl, rfl, Int.le_refl _⟩

end
-- BmLoop
section
theorem bitAt_half (x : Int) (k : Nat) : bitAt x (k + 1) = bitAt (x / 2) k := by
  unfold bitAt
  have h2 : (0 : Int) ≤ 2 ^ k := Int.le_of_lt (Int.pow_pos (by decide))
  have h3 : (0 : Int) ≤ 2 ^ (k + 1) := Int.le_of_lt (Int.pow_pos (by decide))
  rw [Int.fdiv_eq_ediv_of_nonneg _ h2, Int.fdiv_eq_ediv_of_nonneg _ h3, Int.pow_succ, Int.mul_comm, ← Int.ediv_ediv_of_nonneg (by decide)]
theorem bitsOf_succ (x : Int) (w : Nat) : bitsOf x (w + 1) = bitsOf (x / 2) w ++ [bitAt x 0] := by
  unfold bitsOf
  rw [List.range_succ, List.map_append]
  congr 1
  · refine List.map_congr_left fun i hi => ?_
    have := List.mem_range.mp hi
    rw [show w + 1 - 1 - i = (w - 1 - i) + 1 by omega, bitAt_half]
  · simp
theorem bnum_snoc (l : List Bool) (b : Bool) : bnum (l ++ [b]) = 2 * bnum l + b2i b := by unfold bnum; rw [List.foldl_append]; rfl
/-- a number's bits, read again. -/
theorem bnum_bits : ∀ (w : Nat) (v : Int), 0 ≤ v → v < 2 ^ w → bnum (bitsOf v w) = v := by
  intro w
  induction w with
  | zero => intro v h0 h1; have : v = 0 := by rw [Int.pow_zero] at h1; omega
            subst this; rfl
  | succ w ih =>
    intro v h0 h1
    rw [bitsOf_succ, bnum_snoc, ih (v / 2) (by omega) (by rw [Int.pow_succ] at h1; omega)]
    have hb : b2i (bitAt v 0) = v % 2 := by
      unfold bitAt b2i
      rw [Int.pow_zero, Int.fdiv_one, Int.fmod_eq_emod_of_nonneg _ (by decide)]
      have := Int.emod_two_eq v
      rcases this with h | h <;> rw [h] <;> rfl
    rw [hb]
    omega
theorem pick_nat (l : List Value) (a b : Nat) : kms_pick l (some (a : Int)) (some (b : Int)) = (l.drop a).take (b - a) := by
  unfold kms_pick kms_lo kms_hi
  simp only [Int.not_ofNat_neg, if_false, Int.toNat_natCast]
  rw [kmk_drop_min]
  by_cases h : b ≤ l.length
  · rw [Nat.min_eq_left h]
    by_cases h2 : a ≤ l.length
    · rw [Nat.min_eq_left h2]
    · rw [List.drop_eq_nil_of_le (by omega), List.take_nil, List.take_nil]
  · rw [Nat.min_eq_right (by omega)]
    rw [List.take_of_length_le (by rw [List.length_drop]; omega), List.take_of_length_le (by rw [List.length_drop]; omega)]
def itC (x left c : Int) : Obj := { cls := .type "range_iterator", data := .fields #[rawInt x, rawInt left, rawInt c] }
/-- a loop over a range of any step, by what holds; the ledger may grow within a turn. -/
theorem loop_rangeU {prog : Program} {w : World} {A : Around} {E : Value → Shared → Prop} {s : Shared} {env : Env} {h₀ : Heap} {x : Str} {body : List Stmt} {Q : Flow → Shared → Prop} {r : Addr} {a₀ b₀ c : Int} {t₀ u₀ v₀ : Tok} {n : Nat} {m₀ : Str → Option Value} {news : List (Addr × Obj)}
    (J : Nat → (Str → Option Value) → List (Addr × Obj) → Prop)
    (hh : A.handled = none) (hr : IsRange s.heap r a₀ b₀ c t₀ u₀ v₀) (hsmall : PySem.Builtin.Range.small a₀ b₀ c = true) (hn : PySem.Builtin.Range.rangeSize a₀ b₀ c = (n : Int)) (F : Fr h₀ env.locals s.heap m₀) (N : News h₀ env.locals s.heap news) (hj : J 0 m₀ news)
    (turn : ∀ i t m nx I h tk, i < n → J i m nx → Fr h₀ env.locals h (fun y => if y = x then some (.int (a₀ + (i : Int) * c) t) else m y) → News h₀ env.locals h ((I, itC (a₀ + ((i + 1 : Nat) : Int) * c) ((n : Int) - ((i + 1 : Nat) : Int)) c) :: nx) →
      wpAny (model prog w) A (execs body env) (UnrPost h₀ env.locals { s with heap := h, toks := tk } I (itC (a₀ + ((i + 1 : Nat) : Int) * c) ((n : Int) - ((i + 1 : Nat) : Int)) c) (J (i + 1)) Q) E { s with heap := h, toks := tk })
    (done : ∀ m nx h tk, J n m nx → Fr h₀ env.locals h m → News h₀ env.locals h nx → Q .next { s with heap := h, toks := tk }) :
    wpAny (model prog w) A (pyIter (.ref r)) (fun it s₂ => LoopAtV prog w A h₀ env x body Q E it s₂) E s := by
  refine wpAny_pyIter_range hr hsmall ?_
  have W : Walks prog w A s.heap.objs.size [s.heap.objs.size] [s.heap.objs.size] n (fun i v => i < n ∧ ∃ t, v = .int (a₀ + i * c) t)
      (fun i h => IsRangeIter h s.heap.objs.size (a₀ + (i : Nat) * c) ((n : Int) - (i : Nat)) c) := (Walks.range hh _ a₀ c n).bound
  have hnew := next_is_new F
  refine ⟨_, _, _, n, _, _, m₀, news, J, rfl, W, ?_, ?_, ?_, (by show IsRangeIter _ _ _ _ _; rw [hn]; simpa using Heap.get?_push_size _ rfl), F.push _, (fun p hp => ⟨Heap.get?_push_of_some _ (N p hp).1, (N p hp).2⟩), hj, ?_, ?_⟩
  · intro hm
    exact absurd F.ns.lt ((List.mem_singleton.mp hm) ▸ Nat.lt_irrefl _)
  · intro b hb
    rw [List.mem_singleton.mp hb]
    exact hnew
  · intro p hp hI
    exact absurd (Heap.lt_size (N p hp).1) ((List.mem_singleton.mp hI) ▸ Nat.lt_irrefl _)
  · rintro i v m₁ news₁ s₁ own ⟨hh', tk', rfl⟩ hin ⟨_, t, rfl⟩ hJ hoff hown hget hall hst F₁ N₁
    have hst' : hh'.get? s.heap.objs.size = some (itC (a₀ + ((i + 1 : Nat) : Int) * c) ((n : Int) - ((i + 1 : Nat) : Int)) c) := hst
    have hmem := hall s.heap.objs.size (List.mem_singleton.mpr rfl) hnew _ hst'
    have N₂ : News h₀ env.locals hh' ((s.heap.objs.size, itC (a₀ + ((i + 1 : Nat) : Int) * c) ((n : Int) - ((i + 1 : Nat) : Int)) c) :: news₁) := fun p hp => by
      rcases List.mem_cons.mp hp with rfl | hp
      · exact N₁ _ (List.mem_append_left _ hmem)
      · exact N₁ _ (List.mem_append_right _ hp)
    refine wpAny_mono (turn i t m₁ news₁ _ hh' tk' hin hJ F₁ N₂) (fun f s₂ p => ?_) fun _ _ e => e
    have fin : UnrEnd h₀ env.locals { s with heap := hh', toks := tk' } s.heap.objs.size (itC (a₀ + ((i + 1 : Nat) : Int) * c) ((n : Int) - ((i + 1 : Nat) : Int)) c) (J (i + 1)) s₂ →
        LoopStepU h₀ env.locals [s.heap.objs.size] own (J (i + 1)) { s with heap := hh', toks := tk' } .next s₂ := by
      rintro ⟨h', tk, m', news', e, F', N', ho, r⟩
      refine ⟨rfl, h', tk, m', news', e, F', fun p hp => ?_, fun p hp hI => ho p hp (List.mem_singleton.mp hI), r⟩
      rcases List.mem_append.mp hp with hp | hp
      · have h1 : p.1 = s.heap.objs.size := List.mem_singleton.mp (hown p hp)
        have h2 : hh'.get? p.1 = some p.2 := hget p hp
        have h3 : p = (s.heap.objs.size, itC (a₀ + ((i + 1 : Nat) : Int) * c) ((n : Int) - ((i + 1 : Nat) : Int)) c) := by
          rw [h1, hst'] at h2
          exact Prod.ext h1 (Option.some.inj h2).symm
        rw [h3]; exact N' _ (List.mem_cons_self ..)
      · exact N' _ (List.mem_cons_of_mem _ hp)
    cases f with
    | ret v => exact .ret p
    | brk => exact .brk p
    | next => exact .next (fin p)
    | cont => exact .cont (fin p)
  · rintro h' tk m' news' F' N' _ hJ
    exact done m' news' h' tk hJ F' N'

end
-- BmRead4
section
theorem rangeDown (n c : Nat) (hc : 0 < c) : PySem.Builtin.Range.rangeSize (n : Int) 0 (-(c : Int)) = (((n + c - 1) / c : Nat) : Int) := by
  unfold PySem.Builtin.Range.rangeSize
  rw [if_neg (by omega)]
  rw [Int.neg_neg]
  split
  · have e : (((n + c - 1) / c : Nat) : Int) = ((n : Int) - 0 - 1) / (c : Int) + 1 := by
      have : n + c - 1 = (n - 1) + c := by omega
      rw [this, Nat.add_div_right _ hc]
      have h1 : ((n : Int) - 0 - 1) = ((n - 1 : Nat) : Int) := by omega
      rw [h1]
      push_cast
      rfl
    first | exact e.symm | (rw [e]; omega)
  · have : n = 0 := by omega
    subst this
    rw [Nat.div_eq_of_lt (by omega)]
    rfl
theorem smallDown (n c : Nat) (hc : 0 < c) (hn : n ≤ 1000) (hc2 : c = 2 ∨ c = 3) : PySem.Builtin.Range.small (n : Int) 0 (-(c : Int)) = true := by
  unfold PySem.Builtin.Range.small
  rw [rangeDown n c hc]
  rcases hc2 with e | e <;> subst e
  · simp only [PySem.Builtin.Range.rangeFitsLong, Bool.and_eq_true, Bool.or_eq_true, decide_eq_true_eq, beq_iff_eq, show ¬ ((-((2 : Nat) : Int)) > 0) by decide, if_false]
    (try split) <;> omega
  · simp only [PySem.Builtin.Range.rangeFitsLong, Bool.and_eq_true, Bool.or_eq_true, decide_eq_true_eq, beq_iff_eq, show ¬ ((-((3 : Nat) : Int)) > 0) by decide, if_false]
    (try split) <;> omega
def bitLed (x : Addr) (k : Nat) (bits : List Bool) : Addr × Obj := (x, { cls := .type "list", data := .seq (bits.map Value.bool).toArray k })
def readStored : List Str := [Str.ofString "many", Str.ofString "width", Str.ofString "value", Str.ofString "turn", Str.ofString "sign"]
/-- what stands before turn i of the reading: st octets a turn. -/
def ReadJ (x l : Addr) (k : Nat) (bits : List Bool) (o : Array UInt8) (enc : List UInt8 → List Bool) (st : Nat) (m₀ : Str → Option Value) (i : Nat) (m : Str → Option Value) (nx : List (Addr × Obj)) : Prop :=
  ∃ (pre : List Bool) (ta : Tok) (vs : List Value) (n : Nat), (∀ p ∈ [(Str.ofString "at", Value.int (pre.length : Int) ta)], m p.1 = some p.2) ∧
    (∀ z, z ≠ Str.ofString "left" → (∀ p ∈ [(Str.ofString "at", Value.int (pre.length : Int) ta)], z ≠ p.1) → readStored.contains z = false → m z = m₀ z) ∧
    bitLed x k bits ∈ nx ∧ (l, listOf vs.toArray n) ∈ nx ∧ IntsAre vs ((o.toList.take (st * i)).map fun c => (c.toNat : Int)) ∧ bits = pre ++ enc (o.toList.drop (st * i))
theorem news_apart {h₀ h : Heap} {L : Addr} {news : List (Addr × Obj)} {p q : Addr × Obj} (N : News h₀ L h news) (hp : p ∈ news) (hq : q ∈ news) (hc : p.2.cls ≠ q.2.cls) : @Ne Nat p.1 q.1 := fun e => by
  have h1 := (N p hp).1
  have h2 := (N q hq).1
  have e' : p.1 = q.1 := e
  rw [e', h2] at h1
  exact hc (congrArg Obj.cls (Option.some.inj h1)).symm
theorem it_list : (Value.type "range_iterator") ≠ (Value.type "list") := fun e => by injection e with e; exact absurd e (by decide)
theorem read_stored {z : Str} (h : readStored.contains z = false) : z ≠ Str.ofString "many" ∧ z ≠ Str.ofString "width" ∧ z ≠ Str.ofString "value" ∧ z ≠ Str.ofString "turn" ∧ z ≠ Str.ofString "sign" := by
  refine ⟨fun e => ?_, fun e => ?_, fun e => ?_, fun e => ?_, fun e => ?_⟩ <;> (subst e; simp [readStored] at h)
theorem take_chunk {α : Type} {l r rest : List α} {a b : Nat} (hd : l.drop a = r ++ rest) (hb : b = a + r.length) : l.take b = l.take a ++ r := by
  subst hb
  rw [List.take_add, hd, List.take_left]
theorem bytes_back (l : List UInt8) : ((l.map fun c => (c.toNat : Int)).map fun n => n.toNat.toUInt8) = l := by
  rw [List.map_map]
  refine (List.map_congr_left (g := id) fun c _ => ?_).trans (List.map_id _)
  simp
theorem bytes_in {l : List UInt8} : ∀ n ∈ (l.map fun c => (c.toNat : Int)), 0 ≤ n ∧ n < 256 := fun n hn => by
  obtain ⟨c, _, rfl⟩ := List.mem_map.mp hn
  have := c.toNat_lt
  omega
theorem loop_read {prog : Program} {w : World} {A : Around} {E : Value → Shared → Prop} {s : Shared} {env : Env} {h₀ : Heap} {body : List Stmt} {Q : Flow → Shared → Prop} {r : Addr} {a₀ b₀ c : Int} {t₀ u₀ v₀ : Tok} {n : Nat} {m₀ : Str → Option Value} {news : List (Addr × Obj)}
    {x l : Addr} {k : Nat} {bits : List Bool} (o : Array UInt8) (enc : List UInt8 → List Bool) (st : Nat) {ta : Tok}
    (hh : A.handled = none) (hr : IsRange s.heap r a₀ b₀ c t₀ u₀ v₀) (hsmall : PySem.Builtin.Range.small a₀ b₀ c = true) (hn : PySem.Builtin.Range.rangeSize a₀ b₀ c = (n : Int)) (F : Fr h₀ env.locals s.heap m₀) (N : News h₀ env.locals s.heap news)
    (hx0 : bitLed x k bits ∈ news) (hl0 : (l, listOf #[] 0) ∈ news) (hxl : @Ne Nat x l) (hat : m₀ (Str.ofString "at") = some (.int 0 ta)) (henc : bits = enc o.toList)
    (turn : ∀ i t (pre : List Bool) (ta : Tok) (vs : List Value) (nv : Nat) (u : Str → Option Value) I h tk, i < n → @Ne Nat I x → @Ne Nat I l → @Ne Nat x l → IntsAre vs ((o.toList.take (st * i)).map fun c => (c.toNat : Int)) → bits = pre ++ enc (o.toList.drop (st * i)) →
      Fr h₀ env.locals h (fun y => if y = Str.ofString "left" then some (.int (a₀ + (i : Int) * c) t) else kstB (fun z => if readStored.contains z then u z else m₀ z) [(Str.ofString "at", Value.int (pre.length : Int) ta)] y) →
      News h₀ env.locals h [(I, itC (a₀ + ((i + 1 : Nat) : Int) * c) ((n : Int) - ((i + 1 : Nat) : Int)) c), bitLed x k bits, (l, listOf vs.toArray nv)] →
      wpAny (model prog w) A (execs body env) (UnrPost h₀ env.locals { s with heap := h, toks := tk } I (itC (a₀ + ((i + 1 : Nat) : Int) * c) ((n : Int) - ((i + 1 : Nat) : Int)) c) (ReadJ x l k bits o enc st m₀ (i + 1)) Q) E { s with heap := h, toks := tk })
    (done : ∀ (vs : List Value) (nv : Nat) (ta : Tok) (at' : Int) (u : Str → Option Value) h tk, IntsAre vs ((o.toList.take (st * n)).map fun c => (c.toNat : Int)) →
      Fr h₀ env.locals h (fun y => if y = Str.ofString "left" then u y else kstB (fun z => if readStored.contains z then u z else m₀ z) [(Str.ofString "at", Value.int at' ta)] y) →
      News h₀ env.locals h [bitLed x k bits, (l, listOf vs.toArray nv)] → Q .next { s with heap := h, toks := tk }) :
    wpAny (model prog w) A (pyIter (.ref r)) (fun it s₂ => LoopAtV prog w A h₀ env (Str.ofString "left") body Q E it s₂) E s := by
  refine loop_rangeU (ReadJ x l k bits o enc st m₀) hh hr hsmall hn F N ?_ ?_ ?_
  · exact ⟨[], ta, [], 0, fun p hp => by rw [List.mem_singleton.mp hp]; exact hat, fun z _ _ _ => rfl, hx0, hl0, by rw [Nat.mul_zero, List.take_zero]; exact .nil, by rw [Nat.mul_zero, List.drop_zero]; exact henc⟩
  · rintro i t m nx I h tk hi ⟨pre, ta, vs, nv, hm1, hm2, hx1, hl1, hv, hb⟩ F₂ N₂
    refine turn i t pre ta vs nv m I h tk hi (news_apart N₂ (.head _) (.tail _ hx1) it_list) (news_apart N₂ (.head _) (.tail _ hl1) it_list) hxl hv hb (kst_fr hm1 hm2 F₂) (kst_newsOf N₂ fun p hp => ?_)
    rcases List.mem_cons.mp hp with rfl | hp
    · exact .head _
    · rcases List.mem_cons.mp hp with rfl | hp
      · exact .tail _ hx1
      · rw [List.mem_singleton.mp hp]; exact .tail _ hl1
  · rintro m nx h tk ⟨pre, ta, vs, nv, hm1, hm2, hx1, hl1, hv, hb⟩ F₂ N₂
    refine done vs nv ta _ m h tk hv (kst_frOut hm1 hm2 F₂) (kst_newsOf N₂ fun p hp => ?_)
    rcases List.mem_cons.mp hp with rfl | hp
    · exact hx1
    · rw [List.mem_singleton.mp hp]; exact hl1
theorem news_call1 {h₀ h h' : Heap} {L D : Addr} {o : Obj} {rest : List (Addr × Obj)} (N : News h₀ L h ((D, o) :: rest)) (G : GSub h h' (List.map (fun x => x.fst) [((D : Addr), o)])) (hD : ∀ p ∈ rest, p.1 < D) : News h₀ L h' rest :=
  fun p hp => news_rest N G (.tail _ hp) fun hm => Nat.lt_irrefl _ ((List.mem_singleton.mp hm) ▸ hD p hp)
/-- the slice of a list of bits that stands between two others. -/
theorem pick_mid (pre mid post bits : List Bool) (a b : Int) (hb : bits = pre ++ (mid ++ post)) (ha : a = (pre.length : Int)) (hc : b = (pre.length : Int) + (mid.length : Int)) : kms_pick (bits.map Value.bool) (some a) (some b) = mid.map Value.bool := by
  subst hb; subst ha; subst hc
  rw [show ((pre.length : Int) + (mid.length : Int)) = ((pre.length + mid.length : Nat) : Int) by omega, pick_nat, ← List.map_drop, ← List.map_take, List.drop_left, show pre.length + mid.length - pre.length = mid.length by omega, List.take_left]
set_option maxRecDepth 100000 in
set_option maxHeartbeats 8000000 in
theorem read4_ok (w : World) (h00 : Heap) (mg mb : Str → Option Value) (x : Addr) (k : Nat) (o : Array UInt8) (t1 t2 : Tok) (ho : o.size ≤ 100) (h0 : 0 < o.size) :
    CallOk w h00 mg mb 3 40 (.ref 166) [.ref x, .int 4 t1, .int (o.size : Int) t2] [bitLed x k (enc4 o.toList)] fun res own' => (∃ t', res = .bytes o t') ∧ own' = [bitLed x k (enc4 o.toList)] := by
  walk_at "bm fill"
  walk_at "bm enter"
  k_steps
  refine Hold.mk ?_
  (with_reducible rename Fr _ _ _ _ => lF')
  (with_reducible rename News _ _ _ _ => lN')
  (rename IsRange _ _ _ _ _ _ _ _ => hR)
  have hne : 1 ≤ o.size := h0
  have hsz : (enc4 o.toList).length = 8 * o.size := by rw [enc4_len, Array.length_toList]
  with_unfolding_all refine' loop_read (x := x) (k := k) (bits := enc4 o.toList) (n := o.size) o enc4 1 rfl hR ?k1 ?k2 lF' lN' (by k_mem) (by k_mem) (by exact Nat.ne_of_lt (by assumption)) (by rfl) rfl ?k4 ?k5
  case k1 => exact small_down (by omega) (by omega) (by decide) (by decide)
  case k2 => have := rangeDown o.size 1 (by decide); simpa using this
  case k4 =>
    intro i t pre ta vs nv u I h tk hi hIx hIl hxl hv hb F₂ N₂
    obtain ⟨j, hj⟩ : ∃ j : Nat, (o.size : Int) + (i : Int) * (-1) = (j : Int) := ⟨o.size - i, by omega⟩
    rw [hj] at F₂
    have hj1 : 1 ≤ (j : Int) := by omega
    obtain ⟨c, hc⟩ : ∃ c, o.toList.drop (1 * i) = c :: o.toList.drop (1 * (i + 1)) := by
      rw [Nat.one_mul, Nat.one_mul]
      exact ⟨o.toList[i]'(by simpa using hi), List.drop_eq_getElem_cons _⟩
    have hc8 := c.toNat_lt
    have hvl : vs.length ≤ 1000 := by rw [hv.length, List.length_map, List.length_take, Array.length_toList]; omega
    have hvz : vs.toArray.size ≤ sizeLine := by rw [List.size_toArray, sizeLine_eq]; exact Nat.le_trans hvl (by decide)
    rw [hc, enc4] at hb
    have hlen := congrArg List.length hb
    rw [List.length_append, List.length_append, bitsOf_length, hsz] at hlen
    k_steps
    refine Hold.mk ?_
    (with_reducible rename Fr _ _ _ _ => F₃)
    (with_reducible rename News _ _ _ _ => N₃)
    have hmin : (if 1 < (j : Int) then 1 else (j : Int)) = 1 := by split <;> omega
    rw [hmin] at F₃ ⊢
    with_unfolding_all refine' callD (size_ok w h00 mg mb 4 1 _ _ (by decide) (by decide)) B' F₃ X' T' rfl rfl N₃ (fun _ h => nomatch h) ?kd1 ?ku1 ?_
    case kd1 => ktr_room
    case ku1 => ktr_units
    rintro r4 own4 h4 tk4 F4 N4 G4 ⟨⟨t4, rfl⟩, rfl⟩
    have N5 := news_kept N₃ G4 (fun _ _ h => nomatch h)
    clear N4 N₃ F₃
    rw [show (lawSize 4 1 : Int) = 8 from rfl]
    k_steps
    refine Hold.mk ?_
    (with_reducible rename Fr _ _ _ _ => F₃)
    (with_reducible rename News _ _ _ _ => N₃)
    with_unfolding_all refine' kms_slice_lit (s := ⟨_, _, _, _, _⟩) (zs := (bitsOf (c.toNat : Int) 8).map Value.bool) F₃ N₃ ⟨_, (N₃ _ (.tail _ (.head _))).1, rfl, _, rfl⟩ (by constructor) (by constructor) ?e6 ?_ ?hs6 ?ht6 ?hz6
    case e6 => exact pick_mid pre (bitsOf (c.toNat : Int) 8) (enc4 (o.toList.drop (1 * (i + 1)))) _ _ _ hb rfl (by rw [bitsOf_length]; rfl)
    case hs6 => with_unfolding_all rfl
    case ht6 => intro _; with_unfolding_all rfl
    case hz6 => rw [List.size_toArray, List.length_map, sizeLine_eq]; omega
    intro D6 h6 F6 N6 l6
    clear N₃ F₃
    k_steps
    refine Hold.mk ?_
    (with_reducible rename Fr _ _ _ _ => F₃)
    (with_reducible rename News _ _ _ _ => N₃)
    with_unfolding_all refine' callD (number_ok w h00 mg mb D6 0 (bitsOf (c.toNat : Int) 8) (by rw [bitsOf_length]; decide)) B' F₃ X' T' rfl rfl N₃ (fun p hp => by rw [List.mem_singleton.mp hp]; exact .head _) ?kd2 ?ku2 ?_
    case kd2 => ktr_room
    case ku2 => ktr_units
    rintro r7 own7 h7 tk7 F7 N7 G7 ⟨⟨t7, rfl⟩, rfl⟩
    have N8 := news_call1 N₃ G7 l6
    clear N7 N₃ F₃
    rw [bnum_bits 8 (c.toNat : Int) (by omega) (by omega)]
    k_steps
    · rename (256 : Int) ^ _ ≤ _ => hbig
      exfalso
      have : (256 : Int) ^ Int.toNat 1 = 256 := by decide
      omega
    refine Hold.mk ?_
    (with_reducible rename Fr g' L' _ _ => F₃)
    (with_reducible rename News g' L' _ _ => N₃)
    (rename IsRange _ _ 0 1 1 _ _ _ => hR1)
    refine iter_rangeUnr (n := 1) rfl hR1 (by decide) (by decide) F₃ N₃ ?_
    intro I2 hI2
    have hI2l : @Ne Nat I2 _ := Nat.ne_of_gt (hI2 _ (.tail _ (.tail _ (.head _))))
    have hI2x : @Ne Nat I2 _ := Nat.ne_of_gt (hI2 _ (.tail _ (.head _)))
    have hI2I : @Ne Nat I2 _ := Nat.ne_of_gt (hI2 _ (.head _))
    dsimp only [bitLed] at hI2l hI2x hI2I
    clear N₃ F₃
    k_steps
    clear F₂
    (with_reducible rename Fr g' L' _ _ => F9)
    (with_reducible rename News g' L' _ _ => N9)
    with_unfolding_all refine UnrEnd.intro F9 N9 _ (fun p hp => hp) (fun p hp => ?_) ?_
    · rcases List.mem_cons.mp hp with rfl | hp
      · exact Ne.symm hI2I
      · rcases List.mem_cons.mp hp with rfl | hp
        · exact Ne.symm hI2x
        · rw [List.mem_singleton.mp hp]; exact Ne.symm hI2l
    clear F9 N9
    with_unfolding_all refine RangeRest.zero (fun h9 tk9 F9 N9 => ?_)
    refine wpAny_execs_nil ?_
    simp only [List.push_toArray] at N9
    with_unfolding_all refine UnrEnd.intro F9 N9 _ (fun p hp => hp) (fun p hp => ?_) ?_
    · rcases List.mem_cons.mp hp with rfl | hp
      · exact Ne.symm hIx
      · rw [List.mem_singleton.mp hp]; exact Ne.symm hIl
    have hgv : (((c.toNat : Int).fdiv (256 ^ (1 - 1 - (0 + ((0 : Nat) : Int))).toNat)).fmod 256) = (c.toNat : Int) := by
      rw [show (256 : Int) ^ (1 - 1 - (0 + ((0 : Nat) : Int))).toNat = 1 from rfl, Int.fdiv_one, Int.fmod_eq_emod_of_nonneg _ (by decide)]
      omega
    have e8 : (((pre ++ bitsOf (c.toNat : Int) 8).length : Nat) : Int) = (pre.length : Int) + 8 := by rw [List.length_append, bitsOf_length]; rfl
    refine' ⟨pre ++ bitsOf (c.toNat : Int) 8, _, _, _, ?p1, ?p2, .head _, .tail _ (.head _), ?p5, ?p6⟩
    case p1 =>
      intro p hp
      rw [List.mem_singleton.mp hp, e8]
      rfl
    case p2 =>
      intro z q1 q2 q3
      obtain ⟨w1, w2, w3, w4, w5⟩ := read_stored q3
      have w6 : z ≠ Str.ofString "at" := q2 _ (.head _)
      simp only [if_neg w1, if_neg w2, if_neg w3, if_neg w4, if_neg w5, if_neg w6, if_neg q1, kstB, q3, if_neg Bool.false_ne_true]
    case p5 =>
      rw [hgv, take_chunk (r := [c]) hc (by rw [Nat.mul_add]; rfl), List.map_append]
      exact hv.append (.cons _ _ .nil)
    case p6 => rw [hb, List.append_assoc]
  case k5 =>
    intro vs nv ta at' u h tk hv F₂ N₂
    k_steps
    rw [List.take_of_length_le (by rw [Array.length_toList]; omega)] at hv
    with_unfolding_all refine' bytes_K F₂ N₂ ⟨_, (N₂ _ (.tail _ (.head _))).1, rfl, _, rfl⟩ hv bytes_in ?hz rfl ?_
    case hz => rw [hv.length, List.length_map, Array.length_toList, sizeLine_eq]; omega
    intro h8 t8 k8 F8 N8 _
    clear F₂ N₂
    rw [bytes_back, Array.toArray_toList]
    k_steps
    (with_reducible rename Fr h₀ _ _ _ => kF)
    (with_reducible rename News h₀ _ _ _ => kN)
    refine' ret _ [bitLed x k (enc4 o.toList)] _ _ kF ?e2 (gsub_of kG' ?e3) ⟨⟨_, rfl⟩, rfl⟩
    case e3 => assumption
    case e2 =>
      intro p hp
      rw [List.mem_singleton.mp hp]
      exact kN _ (.head _)

end
-- BmRead2
section
/-- the signs' own numbers. -/
def SGN : List Int := [48, 49, 50, 51, 52, 53, 54, 55, 56, 57, 65, 66, 67, 68, 69, 70, 71, 72, 73, 74, 75, 76, 77, 78, 79, 80, 81, 82, 83, 84, 85, 86, 87, 88, 89, 90, 32, 36, 37, 42, 43, 45, 46, 47, 58]
theorem sign_ord0 : ∀ n : Fin 256, ALNUM.contains (UInt8.ofNat n.val) = true → SGN.getD (alnumIdx (UInt8.ofNat n.val)).toNat 0 = (n.val : Int) ∧ 0 ≤ alnumIdx (UInt8.ofNat n.val) := by decide +kernel
theorem sign_ord {c : UInt8} (h : ALNUM.contains c = true) : SGN.getD (alnumIdx c).toNat 0 = (c.toNat : Int) := by have := sign_ord0 ⟨c.toNat, c.toNat_lt⟩; simp only [UInt8.ofNat_toNat] at this; exact (this h).1
theorem idx_alnum {c : UInt8} (h : ALNUM.contains c = true) : ALNUM.contains c = true ∧ 0 ≤ alnumIdx c ∧ alnumIdx c < 45 := by have := sign_ord0 ⟨c.toNat, c.toNat_lt⟩; simp only [UInt8.ofNat_toNat] at this; exact ⟨h, (this h).2, (alnum_range c).2⟩
theorem dig_val0 : ∀ n : Fin 256, 48 ≤ n.val → n.val ≤ 57 → ALNUM.contains (UInt8.ofNat n.val) = true ∧ alnumIdx (UInt8.ofNat n.val) = (n.val : Int) - 48 := by decide +kernel
theorem dig_val {c : UInt8} (h : isDig c) : alnumIdx c = (c.toNat : Int) - 48 := by have := dig_val0 ⟨c.toNat, c.toNat_lt⟩; simp only [UInt8.ofNat_toNat] at this; exact (this h.1 h.2).2
theorem idx_dig {c : UInt8} (h : isDig c) : ALNUM.contains c = true ∧ 0 ≤ alnumIdx c ∧ alnumIdx c < 10 := by have := dig_val0 ⟨c.toNat, c.toNat_lt⟩; simp only [UInt8.ofNat_toNat] at this; have q := this h.1 h.2; have h1 := h.1; have h2 := h.2; refine ⟨q.1, ?_, ?_⟩ <;> rw [q.2] <;> omega
theorem ints_1 {vs : List Value} {ns : List Int} {x1 y1 : Int} {t1 : Tok} (h : IntsAre vs ns) (e1 : x1 = y1) : IntsAre (vs ++ [.int x1 t1]) (ns ++ [y1]) := by subst e1; exact h.append (.cons _ _ .nil)
theorem ints_2 {vs : List Value} {ns : List Int} {x1 y1 x2 y2 : Int} {t1 t2 : Tok} (h : IntsAre vs ns) (e1 : x1 = y1) (e2 : x2 = y2) : IntsAre (vs ++ [.int x1 t1] ++ [.int x2 t2]) (ns ++ [y1, y2]) := by subst e1; subst e2; rw [List.append_assoc]; exact h.append (.cons _ _ (.cons _ _ .nil))
theorem ints_3 {vs : List Value} {ns : List Int} {x1 y1 x2 y2 x3 y3 : Int} {t1 t2 t3 : Tok} (h : IntsAre vs ns) (e1 : x1 = y1) (e2 : x2 = y2) (e3 : x3 = y3) : IntsAre (vs ++ [.int x1 t1] ++ [.int x2 t2] ++ [.int x3 t3]) (ns ++ [y1, y2, y3]) := by subst e1; subst e2; subst e3; rw [List.append_assoc, List.append_assoc]; exact h.append (.cons _ _ (.cons _ _ (.cons _ _ .nil)))
set_option maxRecDepth 100000 in
set_option maxHeartbeats 16000000 in
theorem read2_ok (w : World) (h00 : Heap) (mg mb : Str → Option Value) (x : Addr) (k : Nat) (o : Array UInt8) (t1 t2 : Tok) (ho : o.size ≤ 100) (h0 : 0 < o.size) (hal : ∀ c ∈ o.toList, ALNUM.contains c = true) :
    CallOk w h00 mg mb 3 40 (.ref 166) [.ref x, .int 2 t1, .int (o.size : Int) t2] [bitLed x k (enc2 o.toList)] fun res own' => (∃ t', res = .bytes o t') ∧ own' = [bitLed x k (enc2 o.toList)] := by
  walk_at "bm fill"
  walk_at "bm enter"
  k_steps
  refine Hold.mk ?_
  (with_reducible rename Fr _ _ _ _ => lF')
  (with_reducible rename News _ _ _ _ => lN')
  (rename IsRange _ _ _ _ _ _ _ _ => hR)
  have hne : 1 ≤ o.size := h0
  have hsz : (enc2 o.toList).length ≤ 2000 := by rw [enc2_len, Array.length_toList]; omega
  with_unfolding_all refine' loop_read (x := x) (k := k) (bits := enc2 o.toList) (n := (o.size + 2 - 1) / 2) o enc2 2 rfl hR ?k1 ?k2 lF' lN' (by k_mem) (by k_mem) (by exact Nat.ne_of_lt (by assumption)) (by rfl) rfl ?k4 ?k5
  case k1 => exact smallDown o.size 2 (by decide) (by omega) (by decide)
  case k2 => exact rangeDown o.size 2 (by decide)
  case k4 =>
    intro i t pre ta vs nv u I h tk hi hIx hIl hxl hv hb F₂ N₂
    have hi2 : 2 * i < o.size := by omega
    obtain ⟨j, hj⟩ : ∃ j : Nat, (o.size : Int) + (i : Int) * (-2) = (j : Int) := ⟨o.size - 2 * i, by omega⟩
    rw [hj] at F₂
    have hvl : vs.length ≤ 1000 := by rw [hv.length, List.length_map, List.length_take, Array.length_toList]; omega
    have hvz : vs.toArray.size ≤ sizeLine := by rw [List.size_toArray, sizeLine_eq]; exact Nat.le_trans hvl (by decide)
    have hdl : (o.toList.drop (2 * i)).length = j := by rw [List.length_drop, Array.length_toList]; omega
    have hj1 : 1 ≤ (j : Int) := by omega
    have hdm : ∀ c ∈ o.toList.drop (2 * i), ALNUM.contains c = true := fun c hc => hal c (List.mem_of_mem_drop hc)
    rcases hch : o.toList.drop (2 * i) with _ | ⟨a, _ | ⟨b, r⟩⟩
    · rw [hch] at hdl; simp at hdl; omega
    · rw [hch] at hdl hdm
      have hjn : (j : Int) = 1 := by simp only [List.length_cons, List.length_nil] at hdl; omega
      obtain ⟨hca, hra1, hra2⟩ := idx_alnum (hdm a (.head _))
      rw [hch, enc2] at hb
      have hb : enc2 o.toList = pre ++ (bitsOf (alnumIdx a) 6 ++ []) := by rw [hb, List.append_nil]
      k_steps
      refine Hold.mk ?_
      (with_reducible rename Fr _ _ _ _ => F₃)
      (with_reducible rename News _ _ _ _ => N₃)
      have hmin : (if 2 < (j : Int) then 2 else (j : Int)) = 1 := by split <;> omega
      rw [hmin] at F₃ ⊢
      with_unfolding_all refine' callD (size_ok w h00 mg mb 2 1 _ _ (by decide) (by decide)) B' F₃ X' T' rfl rfl N₃ (fun _ h => nomatch h) ?kd1 ?ku1 ?_
      case kd1 => ktr_room
      case ku1 => ktr_units
      rintro r4 own4 h4 tk4 F4 N4 G4 ⟨⟨t4, rfl⟩, rfl⟩
      have N5 := news_kept N₃ G4 (fun _ _ h => nomatch h)
      clear N4 N₃ F₃
      rw [show (lawSize 2 1 : Int) = 6 from rfl]
      k_steps
      refine Hold.mk ?_
      (with_reducible rename Fr _ _ _ _ => F₃)
      (with_reducible rename News _ _ _ _ => N₃)
      with_unfolding_all refine' kms_slice_lit (s := ⟨_, _, _, _, _⟩) (zs := (bitsOf (alnumIdx a) 6).map Value.bool) F₃ N₃ ⟨_, (N₃ _ (.tail _ (.head _))).1, rfl, _, rfl⟩ (by constructor) (by constructor) ?e6 ?_ ?hs6 ?ht6 ?hz6
      case e6 => exact pick_mid pre (bitsOf (alnumIdx a) 6) ([]) _ _ _ hb rfl (by rw [bitsOf_length]; rfl)
      case hs6 => with_unfolding_all rfl
      case ht6 => intro _; with_unfolding_all rfl
      case hz6 => rw [List.size_toArray, List.length_map, sizeLine_eq]; exact Nat.le_trans hsz (by decide)
      intro D6 h6 F6 N6 l6
      clear N₃ F₃
      k_steps
      refine Hold.mk ?_
      (with_reducible rename Fr _ _ _ _ => F₃)
      (with_reducible rename News _ _ _ _ => N₃)
      with_unfolding_all refine' callD (number_ok w h00 mg mb D6 0 (bitsOf (alnumIdx a) 6) (by rw [bitsOf_length]; decide)) B' F₃ X' T' rfl rfl N₃ (fun p hp => by rw [List.mem_singleton.mp hp]; exact .head _) ?kd2 ?ku2 ?_
      case kd2 => ktr_room
      case ku2 => ktr_units
      rintro r7 own7 h7 tk7 F7 N7 G7 ⟨⟨t7, rfl⟩, rfl⟩
      have N8 := news_call1 N₃ G7 l6
      clear N7 N₃ F₃
      obtain ⟨A, hA⟩ : ∃ A, alnumIdx a = A := ⟨_, rfl⟩
      rw [hA] at hra1 hra2
      have hV : alnumIdx a = A := by rw [hA]
      rw [hV, bnum_bits 6 (A) (by omega) (by omega)]
      k_steps
      · rename (45 : Int) ^ _ ≤ _ => hbig
        exfalso
        have : (45 : Int) ^ Int.toNat 1 = 45 := by decide
        omega
      refine Hold.mk ?_
      (with_reducible rename Fr g' L' _ _ => F₃)
      (with_reducible rename News g' L' _ _ => N₃)
      (rename IsRange _ _ 0 1 1 _ _ _ => hR1)
      refine iter_rangeUnr (n := 1) rfl hR1 (by decide) (by decide) F₃ N₃ ?_
      intro I2 hI2
      have hI2l : @Ne Nat I2 _ := Nat.ne_of_gt (hI2 _ (.tail _ (.tail _ (.head _))))
      have hI2x : @Ne Nat I2 _ := Nat.ne_of_gt (hI2 _ (.tail _ (.head _)))
      have hI2I : @Ne Nat I2 _ := Nat.ne_of_gt (hI2 _ (.head _))
      dsimp only [bitLed] at hI2l hI2x hI2I
      clear N₃ F₃
      clear F₂
      k_steps
      (with_reducible rename Fr g' L' _ _ => F9)
      (with_reducible rename News g' L' _ _ => N9)
      with_unfolding_all refine UnrEnd.intro F9 N9 _ (fun p hp => hp) (fun p hp => ?_) ?_
      · rcases List.mem_cons.mp hp with rfl | hp
        · exact Ne.symm hI2I
        · rcases List.mem_cons.mp hp with rfl | hp
          · exact Ne.symm hI2x
          · rw [List.mem_singleton.mp hp]; exact Ne.symm hI2l
      clear F9 N9
      with_unfolding_all refine RangeRest.zero (fun h9 tk9 F9 N9 => ?_)
      refine wpAny_execs_nil ?_
      simp only [List.push_toArray] at N9
      with_unfolding_all refine UnrEnd.intro F9 N9 _ (fun p hp => hp) (fun p hp => ?_) ?_
      · rcases List.mem_cons.mp hp with rfl | hp
        · exact Ne.symm hIx
        · rw [List.mem_singleton.mp hp]; exact Ne.symm hIl
      have e8 : (((pre ++ bitsOf (alnumIdx a) 6).length : Nat) : Int) = (pre.length : Int) + 6 := by rw [List.length_append, bitsOf_length]; rfl
      refine' ⟨pre ++ bitsOf (alnumIdx a) 6, _, _, _, ?p1, ?p2, .head _, .tail _ (.head _), ?p5, ?p6⟩
      case p1 =>
        intro p hp
        rw [List.mem_singleton.mp hp, e8]
        rfl
      case p2 =>
        intro z q1 q2 q3
        obtain ⟨w1, w2, w3, w4, w5⟩ := read_stored q3
        have w6 : z ≠ Str.ofString "at" := q2 _ (.head _)
        simp only [if_neg w1, if_neg w2, if_neg w3, if_neg w4, if_neg w5, if_neg w6, if_neg q1, kstB, q3, if_neg Bool.false_ne_true]
      case p5 =>
        have hq0 : ((A).fdiv (45 ^ (1 - 1 - (0 + ((0 : Nat) : Int))).toNat)).fmod 45 = A := by
          rw [show (45 : Int) ^ (1 - 1 - (0 + ((0 : Nat) : Int))).toNat = 1 from rfl, Int.fdiv_eq_ediv_of_nonneg _ (by decide), Int.fmod_eq_emod_of_nonneg _ (by decide)]
          omega
        rw [show o.toList.take (2 * (i + 1)) = o.toList.take (2 * i + 1) by rw [List.take_of_length_le (by rw [Array.length_toList]; omega), List.take_of_length_le (by rw [Array.length_toList]; omega)]]
        rw [take_chunk (b := 2 * i + 1) (r := [a]) (rest := []) hch rfl, List.map_append]
        exact ints_1 hv ((congrArg (fun z => SGN.getD (Int.toNat z) 0) hq0).trans (by rw [← hA]; exact sign_ord hca))
      case p6 => rw [hb, List.append_nil, List.drop_eq_nil_of_le (by rw [Array.length_toList]; omega), show enc2 [] = [] by rw [enc2], List.append_nil]
    · rw [hch] at hdl hdm
      have hjn : 2 ≤ (j : Int) := by simp only [List.length_cons] at hdl; omega
      obtain ⟨hca, hra1, hra2⟩ := idx_alnum (hdm a (.head _))
      obtain ⟨hcb, hrb1, hrb2⟩ := idx_alnum (hdm b (.tail _ (.head _)))
      rw [hch, enc2] at hb
      k_steps
      refine Hold.mk ?_
      (with_reducible rename Fr _ _ _ _ => F₃)
      (with_reducible rename News _ _ _ _ => N₃)
      have hmin : (if 2 < (j : Int) then 2 else (j : Int)) = 2 := by split <;> omega
      rw [hmin] at F₃ ⊢
      with_unfolding_all refine' callD (size_ok w h00 mg mb 2 2 _ _ (by decide) (by decide)) B' F₃ X' T' rfl rfl N₃ (fun _ h => nomatch h) ?kd1 ?ku1 ?_
      case kd1 => ktr_room
      case ku1 => ktr_units
      rintro r4 own4 h4 tk4 F4 N4 G4 ⟨⟨t4, rfl⟩, rfl⟩
      have N5 := news_kept N₃ G4 (fun _ _ h => nomatch h)
      clear N4 N₃ F₃
      rw [show (lawSize 2 2 : Int) = 11 from rfl]
      k_steps
      refine Hold.mk ?_
      (with_reducible rename Fr _ _ _ _ => F₃)
      (with_reducible rename News _ _ _ _ => N₃)
      with_unfolding_all refine' kms_slice_lit (s := ⟨_, _, _, _, _⟩) (zs := (bitsOf (alnumIdx a * 45 + alnumIdx b) 11).map Value.bool) F₃ N₃ ⟨_, (N₃ _ (.tail _ (.head _))).1, rfl, _, rfl⟩ (by constructor) (by constructor) ?e6 ?_ ?hs6 ?ht6 ?hz6
      case e6 => exact pick_mid pre (bitsOf (alnumIdx a * 45 + alnumIdx b) 11) (enc2 r) _ _ _ hb rfl (by rw [bitsOf_length]; rfl)
      case hs6 => with_unfolding_all rfl
      case ht6 => intro _; with_unfolding_all rfl
      case hz6 => rw [List.size_toArray, List.length_map, sizeLine_eq]; exact Nat.le_trans hsz (by decide)
      intro D6 h6 F6 N6 l6
      clear N₃ F₃
      k_steps
      refine Hold.mk ?_
      (with_reducible rename Fr _ _ _ _ => F₃)
      (with_reducible rename News _ _ _ _ => N₃)
      with_unfolding_all refine' callD (number_ok w h00 mg mb D6 0 (bitsOf (alnumIdx a * 45 + alnumIdx b) 11) (by rw [bitsOf_length]; decide)) B' F₃ X' T' rfl rfl N₃ (fun p hp => by rw [List.mem_singleton.mp hp]; exact .head _) ?kd2 ?ku2 ?_
      case kd2 => ktr_room
      case ku2 => ktr_units
      rintro r7 own7 h7 tk7 F7 N7 G7 ⟨⟨t7, rfl⟩, rfl⟩
      have N8 := news_call1 N₃ G7 l6
      clear N7 N₃ F₃
      obtain ⟨A, hA⟩ : ∃ A, alnumIdx a = A := ⟨_, rfl⟩
      rw [hA] at hra1 hra2
      obtain ⟨B, hB⟩ : ∃ B, alnumIdx b = B := ⟨_, rfl⟩
      rw [hB] at hrb1 hrb2
      have hV : alnumIdx a * 45 + alnumIdx b = A * 45 + B := by rw [hA, hB]
      rw [hV, bnum_bits 11 (A * 45 + B) (by omega) (by omega)]
      k_steps
      · rename (45 : Int) ^ _ ≤ _ => hbig
        exfalso
        have : (45 : Int) ^ Int.toNat 2 = 2025 := by decide
        omega
      refine Hold.mk ?_
      (with_reducible rename Fr g' L' _ _ => F₃)
      (with_reducible rename News g' L' _ _ => N₃)
      (rename IsRange _ _ 0 2 1 _ _ _ => hR1)
      refine iter_rangeUnr (n := 2) rfl hR1 (by decide) (by decide) F₃ N₃ ?_
      intro I2 hI2
      have hI2l : @Ne Nat I2 _ := Nat.ne_of_gt (hI2 _ (.tail _ (.tail _ (.head _))))
      have hI2x : @Ne Nat I2 _ := Nat.ne_of_gt (hI2 _ (.tail _ (.head _)))
      have hI2I : @Ne Nat I2 _ := Nat.ne_of_gt (hI2 _ (.head _))
      dsimp only [bitLed] at hI2l hI2x hI2I
      clear N₃ F₃
      clear F₂
      k_steps
      (with_reducible rename Fr g' L' _ _ => F9)
      (with_reducible rename News g' L' _ _ => N9)
      with_unfolding_all refine UnrEnd.intro F9 N9 _ (fun p hp => hp) (fun p hp => ?_) ?_
      · rcases List.mem_cons.mp hp with rfl | hp
        · exact Ne.symm hI2I
        · rcases List.mem_cons.mp hp with rfl | hp
          · exact Ne.symm hI2x
          · rw [List.mem_singleton.mp hp]; exact Ne.symm hI2l
      clear F9 N9
      have hvz0 : (vs.toArray).size ≤ sizeLine := by first | exact hvz | (simp only [Array.size_push]; omega)
      k_steps
      (with_reducible rename Fr g' L' _ _ => F9)
      (with_reducible rename News g' L' _ _ => N9)
      with_unfolding_all refine UnrEnd.intro F9 N9 _ (fun p hp => hp) (fun p hp => ?_) ?_
      · rcases List.mem_cons.mp hp with rfl | hp
        · exact Ne.symm hI2I
        · rcases List.mem_cons.mp hp with rfl | hp
          · exact Ne.symm hI2x
          · rw [List.mem_singleton.mp hp]; exact Ne.symm hI2l
      clear F9 N9
      with_unfolding_all refine RangeRest.zero (fun h9 tk9 F9 N9 => ?_)
      refine wpAny_execs_nil ?_
      simp only [List.push_toArray] at N9
      with_unfolding_all refine UnrEnd.intro F9 N9 _ (fun p hp => hp) (fun p hp => ?_) ?_
      · rcases List.mem_cons.mp hp with rfl | hp
        · exact Ne.symm hIx
        · rw [List.mem_singleton.mp hp]; exact Ne.symm hIl
      have e8 : (((pre ++ bitsOf (alnumIdx a * 45 + alnumIdx b) 11).length : Nat) : Int) = (pre.length : Int) + 11 := by rw [List.length_append, bitsOf_length]; rfl
      refine' ⟨pre ++ bitsOf (alnumIdx a * 45 + alnumIdx b) 11, _, _, _, ?p1, ?p2, .head _, .tail _ (.head _), ?p5, ?p6⟩
      case p1 =>
        intro p hp
        rw [List.mem_singleton.mp hp, e8]
        rfl
      case p2 =>
        intro z q1 q2 q3
        obtain ⟨w1, w2, w3, w4, w5⟩ := read_stored q3
        have w6 : z ≠ Str.ofString "at" := q2 _ (.head _)
        simp only [if_neg w1, if_neg w2, if_neg w3, if_neg w4, if_neg w5, if_neg w6, if_neg q1, kstB, q3, if_neg Bool.false_ne_true]
      case p5 =>
        have hq0 : ((A * 45 + B).fdiv (45 ^ (2 - 1 - (0 + ((0 : Nat) : Int))).toNat)).fmod 45 = A := by
          rw [show (45 : Int) ^ (2 - 1 - (0 + ((0 : Nat) : Int))).toNat = 45 from rfl, Int.fdiv_eq_ediv_of_nonneg _ (by decide), Int.fmod_eq_emod_of_nonneg _ (by decide)]
          omega
        have hq1 : ((A * 45 + B).fdiv (45 ^ (2 - 1 - (0 + ((1 : Nat) : Int))).toNat)).fmod 45 = B := by
          rw [show (45 : Int) ^ (2 - 1 - (0 + ((1 : Nat) : Int))).toNat = 1 from rfl, Int.fdiv_eq_ediv_of_nonneg _ (by decide), Int.fmod_eq_emod_of_nonneg _ (by decide)]
          omega
        rw [take_chunk (b := 2 * (i + 1)) (r := [a, b]) (rest := r) hch (by rw [Nat.mul_add]; rfl), List.map_append]
        exact ints_2 hv ((congrArg (fun z => SGN.getD (Int.toNat z) 0) hq0).trans (by rw [← hA]; exact sign_ord hca)) ((congrArg (fun z => SGN.getD (Int.toNat z) 0) hq1).trans (by rw [← hB]; exact sign_ord hcb))
      case p6 => rw [hb, List.append_assoc, show o.toList.drop (2 * (i + 1)) = r by rw [Nat.mul_add, ← List.drop_drop, hch]; rfl]
  case k5 =>
    intro vs nv ta at' u h tk hv F₂ N₂
    k_steps
    rw [List.take_of_length_le (by rw [Array.length_toList]; omega)] at hv
    with_unfolding_all refine' bytes_K F₂ N₂ ⟨_, (N₂ _ (.tail _ (.head _))).1, rfl, _, rfl⟩ hv bytes_in ?hz rfl ?_
    case hz => rw [hv.length, List.length_map, Array.length_toList, sizeLine_eq]; omega
    intro h8 t8 k8 F8 N8 _
    clear F₂ N₂
    rw [bytes_back, Array.toArray_toList]
    k_steps
    (with_reducible rename Fr h₀ _ _ _ => kF)
    (with_reducible rename News h₀ _ _ _ => kN)
    refine' ret _ [bitLed x k (enc2 o.toList)] _ _ kF ?e2 (gsub_of kG' ?e3) ⟨⟨_, rfl⟩, rfl⟩
    case e3 => assumption
    case e2 =>
      intro p hp
      rw [List.mem_singleton.mp hp]
      exact kN _ (.head _)

end
-- BmRead1
section
theorem len1_small (n : Nat) (h : n ≤ 100) : 10 * (n / 3) + [0, 4, 7].getD (n % 3) 0 ≤ 2000 := by
  rcases (show n % 3 = 0 ∨ n % 3 = 1 ∨ n % 3 = 2 by omega) with e | e | e <;> rw [e] <;> simp <;> omega
set_option maxRecDepth 100000 in
set_option maxHeartbeats 16000000 in
theorem read1_ok (w : World) (h00 : Heap) (mg mb : Str → Option Value) (x : Addr) (k : Nat) (o : Array UInt8) (t1 t2 : Tok) (ho : o.size ≤ 100) (h0 : 0 < o.size) (hal : ∀ c ∈ o.toList, isDig c) :
    CallOk w h00 mg mb 3 40 (.ref 166) [.ref x, .int 1 t1, .int (o.size : Int) t2] [bitLed x k (enc1 o.toList)] fun res own' => (∃ t', res = .bytes o t') ∧ own' = [bitLed x k (enc1 o.toList)] := by
  walk_at "bm fill"
  walk_at "bm enter"
  k_steps
  refine Hold.mk ?_
  (with_reducible rename Fr _ _ _ _ => lF')
  (with_reducible rename News _ _ _ _ => lN')
  (rename IsRange _ _ _ _ _ _ _ _ => hR)
  have hne : 1 ≤ o.size := h0
  have hsz : (enc1 o.toList).length ≤ 2000 := by rw [enc1_len, Array.length_toList]; exact len1_small _ ho
  with_unfolding_all refine' loop_read (x := x) (k := k) (bits := enc1 o.toList) (n := (o.size + 3 - 1) / 3) o enc1 3 rfl hR ?k1 ?k2 lF' lN' (by k_mem) (by k_mem) (by exact Nat.ne_of_lt (by assumption)) (by rfl) rfl ?k4 ?k5
  case k1 => exact smallDown o.size 3 (by decide) (by omega) (by decide)
  case k2 => exact rangeDown o.size 3 (by decide)
  case k4 =>
    intro i t pre ta vs nv u I h tk hi hIx hIl hxl hv hb F₂ N₂
    have hi2 : 3 * i < o.size := by omega
    obtain ⟨j, hj⟩ : ∃ j : Nat, (o.size : Int) + (i : Int) * (-3) = (j : Int) := ⟨o.size - 3 * i, by omega⟩
    rw [hj] at F₂
    have hvl : vs.length ≤ 1000 := by rw [hv.length, List.length_map, List.length_take, Array.length_toList]; omega
    have hvz : vs.toArray.size ≤ sizeLine := by rw [List.size_toArray, sizeLine_eq]; exact Nat.le_trans hvl (by decide)
    have hdl : (o.toList.drop (3 * i)).length = j := by rw [List.length_drop, Array.length_toList]; omega
    have hj1 : 1 ≤ (j : Int) := by omega
    have hdm : ∀ c ∈ o.toList.drop (3 * i), isDig c := fun c hc => hal c (List.mem_of_mem_drop hc)
    rcases hch : o.toList.drop (3 * i) with _ | ⟨a, _ | ⟨b, _ | ⟨c, r⟩⟩⟩
    · rw [hch] at hdl; simp at hdl; omega
    · rw [hch] at hdl hdm
      have hjn : (j : Int) = 1 := by simp only [List.length_cons, List.length_nil] at hdl; omega
      obtain ⟨hca, hra1, hra2⟩ := idx_dig (hdm a (.head _))
      rw [hch, enc1] at hb
      have hb : enc1 o.toList = pre ++ (bitsOf (digNum [a]) 4 ++ []) := by rw [hb, List.append_nil]
      k_steps
      refine Hold.mk ?_
      (with_reducible rename Fr _ _ _ _ => F₃)
      (with_reducible rename News _ _ _ _ => N₃)
      have hmin : (if 3 < (j : Int) then 3 else (j : Int)) = 1 := by split <;> omega
      rw [hmin] at F₃ ⊢
      with_unfolding_all refine' callD (size_ok w h00 mg mb 1 1 _ _ (by decide) (by decide)) B' F₃ X' T' rfl rfl N₃ (fun _ h => nomatch h) ?kd1 ?ku1 ?_
      case kd1 => ktr_room
      case ku1 => ktr_units
      rintro r4 own4 h4 tk4 F4 N4 G4 ⟨⟨t4, rfl⟩, rfl⟩
      have N5 := news_kept N₃ G4 (fun _ _ h => nomatch h)
      clear N4 N₃ F₃
      rw [show (lawSize 1 1 : Int) = 4 from rfl]
      k_steps
      refine Hold.mk ?_
      (with_reducible rename Fr _ _ _ _ => F₃)
      (with_reducible rename News _ _ _ _ => N₃)
      with_unfolding_all refine' kms_slice_lit (s := ⟨_, _, _, _, _⟩) (zs := (bitsOf (digNum [a]) 4).map Value.bool) F₃ N₃ ⟨_, (N₃ _ (.tail _ (.head _))).1, rfl, _, rfl⟩ (by constructor) (by constructor) ?e6 ?_ ?hs6 ?ht6 ?hz6
      case e6 => exact pick_mid pre (bitsOf (digNum [a]) 4) ([]) _ _ _ hb rfl (by rw [bitsOf_length]; rfl)
      case hs6 => with_unfolding_all rfl
      case ht6 => intro _; with_unfolding_all rfl
      case hz6 => rw [List.size_toArray, List.length_map, sizeLine_eq]; exact Nat.le_trans hsz (by decide)
      intro D6 h6 F6 N6 l6
      clear N₃ F₃
      k_steps
      refine Hold.mk ?_
      (with_reducible rename Fr _ _ _ _ => F₃)
      (with_reducible rename News _ _ _ _ => N₃)
      with_unfolding_all refine' callD (number_ok w h00 mg mb D6 0 (bitsOf (digNum [a]) 4) (by rw [bitsOf_length]; decide)) B' F₃ X' T' rfl rfl N₃ (fun p hp => by rw [List.mem_singleton.mp hp]; exact .head _) ?kd2 ?ku2 ?_
      case kd2 => ktr_room
      case ku2 => ktr_units
      rintro r7 own7 h7 tk7 F7 N7 G7 ⟨⟨t7, rfl⟩, rfl⟩
      have N8 := news_call1 N₃ G7 l6
      clear N7 N₃ F₃
      obtain ⟨A, hA⟩ : ∃ A, alnumIdx a = A := ⟨_, rfl⟩
      rw [hA] at hra1 hra2
      have hV : digNum [a] = A := by rw [← hA]; unfold digNum; simp only [List.foldl_cons, List.foldl_nil]; rw [dig_val (hdm a (.head _))]; omega
      rw [hV, bnum_bits 4 (A) (by omega) (by omega)]
      k_steps
      · rename (10 : Int) ^ _ ≤ _ => hbig
        exfalso
        have : (10 : Int) ^ Int.toNat 1 = 10 := by decide
        omega
      refine Hold.mk ?_
      (with_reducible rename Fr g' L' _ _ => F₃)
      (with_reducible rename News g' L' _ _ => N₃)
      (rename IsRange _ _ 0 1 1 _ _ _ => hR1)
      refine iter_rangeUnr (n := 1) rfl hR1 (by decide) (by decide) F₃ N₃ ?_
      intro I2 hI2
      have hI2l : @Ne Nat I2 _ := Nat.ne_of_gt (hI2 _ (.tail _ (.tail _ (.head _))))
      have hI2x : @Ne Nat I2 _ := Nat.ne_of_gt (hI2 _ (.tail _ (.head _)))
      have hI2I : @Ne Nat I2 _ := Nat.ne_of_gt (hI2 _ (.head _))
      dsimp only [bitLed] at hI2l hI2x hI2I
      clear N₃ F₃
      clear F₂
      k_steps
      (with_reducible rename Fr g' L' _ _ => F9)
      (with_reducible rename News g' L' _ _ => N9)
      with_unfolding_all refine UnrEnd.intro F9 N9 _ (fun p hp => hp) (fun p hp => ?_) ?_
      · rcases List.mem_cons.mp hp with rfl | hp
        · exact Ne.symm hI2I
        · rcases List.mem_cons.mp hp with rfl | hp
          · exact Ne.symm hI2x
          · rw [List.mem_singleton.mp hp]; exact Ne.symm hI2l
      clear F9 N9
      with_unfolding_all refine RangeRest.zero (fun h9 tk9 F9 N9 => ?_)
      refine wpAny_execs_nil ?_
      simp only [List.push_toArray] at N9
      with_unfolding_all refine UnrEnd.intro F9 N9 _ (fun p hp => hp) (fun p hp => ?_) ?_
      · rcases List.mem_cons.mp hp with rfl | hp
        · exact Ne.symm hIx
        · rw [List.mem_singleton.mp hp]; exact Ne.symm hIl
      have e8 : (((pre ++ bitsOf (digNum [a]) 4).length : Nat) : Int) = (pre.length : Int) + 4 := by rw [List.length_append, bitsOf_length]; rfl
      refine' ⟨pre ++ bitsOf (digNum [a]) 4, _, _, _, ?p1, ?p2, .head _, .tail _ (.head _), ?p5, ?p6⟩
      case p1 =>
        intro p hp
        rw [List.mem_singleton.mp hp, e8]
        rfl
      case p2 =>
        intro z q1 q2 q3
        obtain ⟨w1, w2, w3, w4, w5⟩ := read_stored q3
        have w6 : z ≠ Str.ofString "at" := q2 _ (.head _)
        simp only [if_neg w1, if_neg w2, if_neg w3, if_neg w4, if_neg w5, if_neg w6, if_neg q1, kstB, q3, if_neg Bool.false_ne_true]
      case p5 =>
        have hq0 : ((A).fdiv (10 ^ (1 - 1 - (0 + ((0 : Nat) : Int))).toNat)).fmod 10 = A := by
          rw [show (10 : Int) ^ (1 - 1 - (0 + ((0 : Nat) : Int))).toNat = 1 from rfl, Int.fdiv_eq_ediv_of_nonneg _ (by decide), Int.fmod_eq_emod_of_nonneg _ (by decide)]
          omega
        rw [show o.toList.take (3 * (i + 1)) = o.toList.take (3 * i + 1) by rw [List.take_of_length_le (by rw [Array.length_toList]; omega), List.take_of_length_le (by rw [Array.length_toList]; omega)]]
        rw [take_chunk (b := 3 * i + 1) (r := [a]) (rest := []) hch rfl, List.map_append]
        exact ints_1 hv ((congrArg (fun z => SGN.getD (Int.toNat z) 0) hq0).trans (by rw [← hA]; exact sign_ord hca))
      case p6 => rw [hb, List.append_nil, List.drop_eq_nil_of_le (by rw [Array.length_toList]; omega), show enc1 [] = [] by rw [enc1], List.append_nil]
    · rw [hch] at hdl hdm
      have hjn : (j : Int) = 2 := by simp only [List.length_cons, List.length_nil] at hdl; omega
      obtain ⟨hca, hra1, hra2⟩ := idx_dig (hdm a (.head _))
      obtain ⟨hcb, hrb1, hrb2⟩ := idx_dig (hdm b (.tail _ (.head _)))
      rw [hch, enc1] at hb
      have hb : enc1 o.toList = pre ++ (bitsOf (digNum [a, b]) 7 ++ []) := by rw [hb, List.append_nil]
      k_steps
      refine Hold.mk ?_
      (with_reducible rename Fr _ _ _ _ => F₃)
      (with_reducible rename News _ _ _ _ => N₃)
      have hmin : (if 3 < (j : Int) then 3 else (j : Int)) = 2 := by split <;> omega
      rw [hmin] at F₃ ⊢
      with_unfolding_all refine' callD (size_ok w h00 mg mb 1 2 _ _ (by decide) (by decide)) B' F₃ X' T' rfl rfl N₃ (fun _ h => nomatch h) ?kd1 ?ku1 ?_
      case kd1 => ktr_room
      case ku1 => ktr_units
      rintro r4 own4 h4 tk4 F4 N4 G4 ⟨⟨t4, rfl⟩, rfl⟩
      have N5 := news_kept N₃ G4 (fun _ _ h => nomatch h)
      clear N4 N₃ F₃
      rw [show (lawSize 1 2 : Int) = 7 from rfl]
      k_steps
      refine Hold.mk ?_
      (with_reducible rename Fr _ _ _ _ => F₃)
      (with_reducible rename News _ _ _ _ => N₃)
      with_unfolding_all refine' kms_slice_lit (s := ⟨_, _, _, _, _⟩) (zs := (bitsOf (digNum [a, b]) 7).map Value.bool) F₃ N₃ ⟨_, (N₃ _ (.tail _ (.head _))).1, rfl, _, rfl⟩ (by constructor) (by constructor) ?e6 ?_ ?hs6 ?ht6 ?hz6
      case e6 => exact pick_mid pre (bitsOf (digNum [a, b]) 7) ([]) _ _ _ hb rfl (by rw [bitsOf_length]; rfl)
      case hs6 => with_unfolding_all rfl
      case ht6 => intro _; with_unfolding_all rfl
      case hz6 => rw [List.size_toArray, List.length_map, sizeLine_eq]; exact Nat.le_trans hsz (by decide)
      intro D6 h6 F6 N6 l6
      clear N₃ F₃
      k_steps
      refine Hold.mk ?_
      (with_reducible rename Fr _ _ _ _ => F₃)
      (with_reducible rename News _ _ _ _ => N₃)
      with_unfolding_all refine' callD (number_ok w h00 mg mb D6 0 (bitsOf (digNum [a, b]) 7) (by rw [bitsOf_length]; decide)) B' F₃ X' T' rfl rfl N₃ (fun p hp => by rw [List.mem_singleton.mp hp]; exact .head _) ?kd2 ?ku2 ?_
      case kd2 => ktr_room
      case ku2 => ktr_units
      rintro r7 own7 h7 tk7 F7 N7 G7 ⟨⟨t7, rfl⟩, rfl⟩
      have N8 := news_call1 N₃ G7 l6
      clear N7 N₃ F₃
      obtain ⟨A, hA⟩ : ∃ A, alnumIdx a = A := ⟨_, rfl⟩
      rw [hA] at hra1 hra2
      obtain ⟨B, hB⟩ : ∃ B, alnumIdx b = B := ⟨_, rfl⟩
      rw [hB] at hrb1 hrb2
      have hV : digNum [a, b] = A * 10 + B := by rw [← hA, ← hB]; unfold digNum; simp only [List.foldl_cons, List.foldl_nil]; rw [dig_val (hdm a (.head _))]; rw [dig_val (hdm b (.tail _ (.head _)))]; omega
      rw [hV, bnum_bits 7 (A * 10 + B) (by omega) (by omega)]
      k_steps
      · rename (10 : Int) ^ _ ≤ _ => hbig
        exfalso
        have : (10 : Int) ^ Int.toNat 2 = 100 := by decide
        omega
      refine Hold.mk ?_
      (with_reducible rename Fr g' L' _ _ => F₃)
      (with_reducible rename News g' L' _ _ => N₃)
      (rename IsRange _ _ 0 2 1 _ _ _ => hR1)
      refine iter_rangeUnr (n := 2) rfl hR1 (by decide) (by decide) F₃ N₃ ?_
      intro I2 hI2
      have hI2l : @Ne Nat I2 _ := Nat.ne_of_gt (hI2 _ (.tail _ (.tail _ (.head _))))
      have hI2x : @Ne Nat I2 _ := Nat.ne_of_gt (hI2 _ (.tail _ (.head _)))
      have hI2I : @Ne Nat I2 _ := Nat.ne_of_gt (hI2 _ (.head _))
      dsimp only [bitLed] at hI2l hI2x hI2I
      clear N₃ F₃
      clear F₂
      k_steps
      (with_reducible rename Fr g' L' _ _ => F9)
      (with_reducible rename News g' L' _ _ => N9)
      with_unfolding_all refine UnrEnd.intro F9 N9 _ (fun p hp => hp) (fun p hp => ?_) ?_
      · rcases List.mem_cons.mp hp with rfl | hp
        · exact Ne.symm hI2I
        · rcases List.mem_cons.mp hp with rfl | hp
          · exact Ne.symm hI2x
          · rw [List.mem_singleton.mp hp]; exact Ne.symm hI2l
      clear F9 N9
      have hvz0 : (vs.toArray).size ≤ sizeLine := by first | exact hvz | (simp only [Array.size_push]; omega)
      k_steps
      (with_reducible rename Fr g' L' _ _ => F9)
      (with_reducible rename News g' L' _ _ => N9)
      with_unfolding_all refine UnrEnd.intro F9 N9 _ (fun p hp => hp) (fun p hp => ?_) ?_
      · rcases List.mem_cons.mp hp with rfl | hp
        · exact Ne.symm hI2I
        · rcases List.mem_cons.mp hp with rfl | hp
          · exact Ne.symm hI2x
          · rw [List.mem_singleton.mp hp]; exact Ne.symm hI2l
      clear F9 N9
      with_unfolding_all refine RangeRest.zero (fun h9 tk9 F9 N9 => ?_)
      refine wpAny_execs_nil ?_
      simp only [List.push_toArray] at N9
      with_unfolding_all refine UnrEnd.intro F9 N9 _ (fun p hp => hp) (fun p hp => ?_) ?_
      · rcases List.mem_cons.mp hp with rfl | hp
        · exact Ne.symm hIx
        · rw [List.mem_singleton.mp hp]; exact Ne.symm hIl
      have e8 : (((pre ++ bitsOf (digNum [a, b]) 7).length : Nat) : Int) = (pre.length : Int) + 7 := by rw [List.length_append, bitsOf_length]; rfl
      refine' ⟨pre ++ bitsOf (digNum [a, b]) 7, _, _, _, ?p1, ?p2, .head _, .tail _ (.head _), ?p5, ?p6⟩
      case p1 =>
        intro p hp
        rw [List.mem_singleton.mp hp, e8]
        rfl
      case p2 =>
        intro z q1 q2 q3
        obtain ⟨w1, w2, w3, w4, w5⟩ := read_stored q3
        have w6 : z ≠ Str.ofString "at" := q2 _ (.head _)
        simp only [if_neg w1, if_neg w2, if_neg w3, if_neg w4, if_neg w5, if_neg w6, if_neg q1, kstB, q3, if_neg Bool.false_ne_true]
      case p5 =>
        have hq0 : ((A * 10 + B).fdiv (10 ^ (2 - 1 - (0 + ((0 : Nat) : Int))).toNat)).fmod 10 = A := by
          rw [show (10 : Int) ^ (2 - 1 - (0 + ((0 : Nat) : Int))).toNat = 10 from rfl, Int.fdiv_eq_ediv_of_nonneg _ (by decide), Int.fmod_eq_emod_of_nonneg _ (by decide)]
          omega
        have hq1 : ((A * 10 + B).fdiv (10 ^ (2 - 1 - (0 + ((1 : Nat) : Int))).toNat)).fmod 10 = B := by
          rw [show (10 : Int) ^ (2 - 1 - (0 + ((1 : Nat) : Int))).toNat = 1 from rfl, Int.fdiv_eq_ediv_of_nonneg _ (by decide), Int.fmod_eq_emod_of_nonneg _ (by decide)]
          omega
        rw [show o.toList.take (3 * (i + 1)) = o.toList.take (3 * i + 2) by rw [List.take_of_length_le (by rw [Array.length_toList]; omega), List.take_of_length_le (by rw [Array.length_toList]; omega)]]
        rw [take_chunk (b := 3 * i + 2) (r := [a, b]) (rest := []) hch rfl, List.map_append]
        exact ints_2 hv ((congrArg (fun z => SGN.getD (Int.toNat z) 0) hq0).trans (by rw [← hA]; exact sign_ord hca)) ((congrArg (fun z => SGN.getD (Int.toNat z) 0) hq1).trans (by rw [← hB]; exact sign_ord hcb))
      case p6 => rw [hb, List.append_nil, List.drop_eq_nil_of_le (by rw [Array.length_toList]; omega), show enc1 [] = [] by rw [enc1], List.append_nil]
    · rw [hch] at hdl hdm
      have hjn : 3 ≤ (j : Int) := by simp only [List.length_cons] at hdl; omega
      obtain ⟨hca, hra1, hra2⟩ := idx_dig (hdm a (.head _))
      obtain ⟨hcb, hrb1, hrb2⟩ := idx_dig (hdm b (.tail _ (.head _)))
      obtain ⟨hcc, hrc1, hrc2⟩ := idx_dig (hdm c (.tail _ (.tail _ (.head _))))
      rw [hch, enc1] at hb
      k_steps
      refine Hold.mk ?_
      (with_reducible rename Fr _ _ _ _ => F₃)
      (with_reducible rename News _ _ _ _ => N₃)
      have hmin : (if 3 < (j : Int) then 3 else (j : Int)) = 3 := by split <;> omega
      rw [hmin] at F₃ ⊢
      with_unfolding_all refine' callD (size_ok w h00 mg mb 1 3 _ _ (by decide) (by decide)) B' F₃ X' T' rfl rfl N₃ (fun _ h => nomatch h) ?kd1 ?ku1 ?_
      case kd1 => ktr_room
      case ku1 => ktr_units
      rintro r4 own4 h4 tk4 F4 N4 G4 ⟨⟨t4, rfl⟩, rfl⟩
      have N5 := news_kept N₃ G4 (fun _ _ h => nomatch h)
      clear N4 N₃ F₃
      rw [show (lawSize 1 3 : Int) = 10 from rfl]
      k_steps
      refine Hold.mk ?_
      (with_reducible rename Fr _ _ _ _ => F₃)
      (with_reducible rename News _ _ _ _ => N₃)
      with_unfolding_all refine' kms_slice_lit (s := ⟨_, _, _, _, _⟩) (zs := (bitsOf (digNum [a, b, c]) 10).map Value.bool) F₃ N₃ ⟨_, (N₃ _ (.tail _ (.head _))).1, rfl, _, rfl⟩ (by constructor) (by constructor) ?e6 ?_ ?hs6 ?ht6 ?hz6
      case e6 => exact pick_mid pre (bitsOf (digNum [a, b, c]) 10) (enc1 r) _ _ _ hb rfl (by rw [bitsOf_length]; rfl)
      case hs6 => with_unfolding_all rfl
      case ht6 => intro _; with_unfolding_all rfl
      case hz6 => rw [List.size_toArray, List.length_map, sizeLine_eq]; exact Nat.le_trans hsz (by decide)
      intro D6 h6 F6 N6 l6
      clear N₃ F₃
      k_steps
      refine Hold.mk ?_
      (with_reducible rename Fr _ _ _ _ => F₃)
      (with_reducible rename News _ _ _ _ => N₃)
      with_unfolding_all refine' callD (number_ok w h00 mg mb D6 0 (bitsOf (digNum [a, b, c]) 10) (by rw [bitsOf_length]; decide)) B' F₃ X' T' rfl rfl N₃ (fun p hp => by rw [List.mem_singleton.mp hp]; exact .head _) ?kd2 ?ku2 ?_
      case kd2 => ktr_room
      case ku2 => ktr_units
      rintro r7 own7 h7 tk7 F7 N7 G7 ⟨⟨t7, rfl⟩, rfl⟩
      have N8 := news_call1 N₃ G7 l6
      clear N7 N₃ F₃
      obtain ⟨A, hA⟩ : ∃ A, alnumIdx a = A := ⟨_, rfl⟩
      rw [hA] at hra1 hra2
      obtain ⟨B, hB⟩ : ∃ B, alnumIdx b = B := ⟨_, rfl⟩
      rw [hB] at hrb1 hrb2
      obtain ⟨C, hC⟩ : ∃ C, alnumIdx c = C := ⟨_, rfl⟩
      rw [hC] at hrc1 hrc2
      have hV : digNum [a, b, c] = A * 100 + B * 10 + C := by rw [← hA, ← hB, ← hC]; unfold digNum; simp only [List.foldl_cons, List.foldl_nil]; rw [dig_val (hdm a (.head _))]; rw [dig_val (hdm b (.tail _ (.head _)))]; rw [dig_val (hdm c (.tail _ (.tail _ (.head _))))]; omega
      rw [hV, bnum_bits 10 (A * 100 + B * 10 + C) (by omega) (by omega)]
      k_steps
      · rename (10 : Int) ^ _ ≤ _ => hbig
        exfalso
        have : (10 : Int) ^ Int.toNat 3 = 1000 := by decide
        omega
      refine Hold.mk ?_
      (with_reducible rename Fr g' L' _ _ => F₃)
      (with_reducible rename News g' L' _ _ => N₃)
      (rename IsRange _ _ 0 3 1 _ _ _ => hR1)
      refine iter_rangeUnr (n := 3) rfl hR1 (by decide) (by decide) F₃ N₃ ?_
      intro I2 hI2
      have hI2l : @Ne Nat I2 _ := Nat.ne_of_gt (hI2 _ (.tail _ (.tail _ (.head _))))
      have hI2x : @Ne Nat I2 _ := Nat.ne_of_gt (hI2 _ (.tail _ (.head _)))
      have hI2I : @Ne Nat I2 _ := Nat.ne_of_gt (hI2 _ (.head _))
      dsimp only [bitLed] at hI2l hI2x hI2I
      clear N₃ F₃
      clear F₂
      k_steps
      (with_reducible rename Fr g' L' _ _ => F9)
      (with_reducible rename News g' L' _ _ => N9)
      with_unfolding_all refine UnrEnd.intro F9 N9 _ (fun p hp => hp) (fun p hp => ?_) ?_
      · rcases List.mem_cons.mp hp with rfl | hp
        · exact Ne.symm hI2I
        · rcases List.mem_cons.mp hp with rfl | hp
          · exact Ne.symm hI2x
          · rw [List.mem_singleton.mp hp]; exact Ne.symm hI2l
      clear F9 N9
      have hvz0 : (vs.toArray).size ≤ sizeLine := by first | exact hvz | (simp only [Array.size_push]; omega)
      k_steps
      (with_reducible rename Fr g' L' _ _ => F9)
      (with_reducible rename News g' L' _ _ => N9)
      with_unfolding_all refine UnrEnd.intro F9 N9 _ (fun p hp => hp) (fun p hp => ?_) ?_
      · rcases List.mem_cons.mp hp with rfl | hp
        · exact Ne.symm hI2I
        · rcases List.mem_cons.mp hp with rfl | hp
          · exact Ne.symm hI2x
          · rw [List.mem_singleton.mp hp]; exact Ne.symm hI2l
      clear F9 N9
      have hvz1 : (vs.toArray).size ≤ sizeLine := by first | exact hvz | (simp only [Array.size_push]; omega)
      k_steps
      (with_reducible rename Fr g' L' _ _ => F9)
      (with_reducible rename News g' L' _ _ => N9)
      with_unfolding_all refine UnrEnd.intro F9 N9 _ (fun p hp => hp) (fun p hp => ?_) ?_
      · rcases List.mem_cons.mp hp with rfl | hp
        · exact Ne.symm hI2I
        · rcases List.mem_cons.mp hp with rfl | hp
          · exact Ne.symm hI2x
          · rw [List.mem_singleton.mp hp]; exact Ne.symm hI2l
      clear F9 N9
      with_unfolding_all refine RangeRest.zero (fun h9 tk9 F9 N9 => ?_)
      refine wpAny_execs_nil ?_
      simp only [List.push_toArray] at N9
      with_unfolding_all refine UnrEnd.intro F9 N9 _ (fun p hp => hp) (fun p hp => ?_) ?_
      · rcases List.mem_cons.mp hp with rfl | hp
        · exact Ne.symm hIx
        · rw [List.mem_singleton.mp hp]; exact Ne.symm hIl
      have e8 : (((pre ++ bitsOf (digNum [a, b, c]) 10).length : Nat) : Int) = (pre.length : Int) + 10 := by rw [List.length_append, bitsOf_length]; rfl
      refine' ⟨pre ++ bitsOf (digNum [a, b, c]) 10, _, _, _, ?p1, ?p2, .head _, .tail _ (.head _), ?p5, ?p6⟩
      case p1 =>
        intro p hp
        rw [List.mem_singleton.mp hp, e8]
        rfl
      case p2 =>
        intro z q1 q2 q3
        obtain ⟨w1, w2, w3, w4, w5⟩ := read_stored q3
        have w6 : z ≠ Str.ofString "at" := q2 _ (.head _)
        simp only [if_neg w1, if_neg w2, if_neg w3, if_neg w4, if_neg w5, if_neg w6, if_neg q1, kstB, q3, if_neg Bool.false_ne_true]
      case p5 =>
        have hq0 : ((A * 100 + B * 10 + C).fdiv (10 ^ (3 - 1 - (0 + ((0 : Nat) : Int))).toNat)).fmod 10 = A := by
          rw [show (10 : Int) ^ (3 - 1 - (0 + ((0 : Nat) : Int))).toNat = 100 from rfl, Int.fdiv_eq_ediv_of_nonneg _ (by decide), Int.fmod_eq_emod_of_nonneg _ (by decide)]
          omega
        have hq1 : ((A * 100 + B * 10 + C).fdiv (10 ^ (3 - 1 - (0 + ((1 : Nat) : Int))).toNat)).fmod 10 = B := by
          rw [show (10 : Int) ^ (3 - 1 - (0 + ((1 : Nat) : Int))).toNat = 10 from rfl, Int.fdiv_eq_ediv_of_nonneg _ (by decide), Int.fmod_eq_emod_of_nonneg _ (by decide)]
          omega
        have hq2 : ((A * 100 + B * 10 + C).fdiv (10 ^ (3 - 1 - (0 + ((2 : Nat) : Int))).toNat)).fmod 10 = C := by
          rw [show (10 : Int) ^ (3 - 1 - (0 + ((2 : Nat) : Int))).toNat = 1 from rfl, Int.fdiv_eq_ediv_of_nonneg _ (by decide), Int.fmod_eq_emod_of_nonneg _ (by decide)]
          omega
        rw [take_chunk (b := 3 * (i + 1)) (r := [a, b, c]) (rest := r) hch (by rw [Nat.mul_add]; rfl), List.map_append]
        exact ints_3 hv ((congrArg (fun z => SGN.getD (Int.toNat z) 0) hq0).trans (by rw [← hA]; exact sign_ord hca)) ((congrArg (fun z => SGN.getD (Int.toNat z) 0) hq1).trans (by rw [← hB]; exact sign_ord hcb)) ((congrArg (fun z => SGN.getD (Int.toNat z) 0) hq2).trans (by rw [← hC]; exact sign_ord hcc))
      case p6 => rw [hb, List.append_assoc, show o.toList.drop (3 * (i + 1)) = r by rw [Nat.mul_add, ← List.drop_drop, hch]; rfl]
  case k5 =>
    intro vs nv ta at' u h tk hv F₂ N₂
    k_steps
    rw [List.take_of_length_le (by rw [Array.length_toList]; omega)] at hv
    with_unfolding_all refine' bytes_K F₂ N₂ ⟨_, (N₂ _ (.tail _ (.head _))).1, rfl, _, rfl⟩ hv bytes_in ?hz rfl ?_
    case hz => rw [hv.length, List.length_map, Array.length_toList, sizeLine_eq]; omega
    intro h8 t8 k8 F8 N8 _
    clear F₂ N₂
    rw [bytes_back, Array.toArray_toList]
    k_steps
    (with_reducible rename Fr h₀ _ _ _ => kF)
    (with_reducible rename News h₀ _ _ _ => kN)
    refine' ret _ [bitLed x k (enc1 o.toList)] _ _ kF ?e2 (gsub_of kG' ?e3) ⟨⟨_, rfl⟩, rfl⟩
    case e3 => assumption
    case e2 =>
      intro p hp
      rw [List.mem_singleton.mp hp]
      exact kN _ (.head _)

end
-- BmHide
section
/-- a heap without the object at one address. -/
def hide (h : Heap) (a : Addr) : Heap := { h with objs := h.objs.modify a fun o => { o with data := .freed } }
theorem hide_at (h : Heap) (a : Addr) : (hide h a).get? a = none := by
  unfold hide Heap.get?
  simp only [Array.getElem?_modify, if_true]
  cases h.objs[a]? <;> rfl
theorem hide_ne (h : Heap) {a b : Addr} (e : @Ne Nat b a) : (hide h a).get? b = h.get? b := by
  unfold hide Heap.get?
  simp only [Array.getElem?_modify, if_neg (Ne.symm e)]
theorem hide_size (h : Heap) (a : Addr) : (hide h a).objs.size = h.objs.size := by unfold hide; simp
theorem hide_le {h : Heap} {a b : Addr} {o : Obj} (e : (hide h a).get? b = some o) : h.get? b = some o := by
  by_cases q : b = a
  · subst q; rw [hide_at] at e; cases e
  · rw [hide_ne h q] at e; exact e
theorem hide_none {h : Heap} {a b : Addr} (e : h.get? b = none) : (hide h a).get? b = none := by
  by_cases q : b = a
  · subst q; exact hide_at h _
  · rw [hide_ne h q]; exact e
theorem fr_hide {h₀ h : Heap} {L a : Addr} {m : Str → Option Value} (F : Fr h₀ L h m) : Fr (hide h₀ a) L h m := ⟨F.ns, fun b o e => F.keep b o (hide_le e), by rw [hide_size]; exact F.above⟩
theorem news_hide {h₀ h : Heap} {L a : Addr} {l : List (Addr × Obj)} (N : News h₀ L h l) : News (hide h₀ a) L h l := fun p hp => ⟨(N p hp).1, (N p hp).2.1, hide_none (N p hp).2.2⟩
theorem kin_hide {w : World} {h : Heap} (X : (hd.heap_39 w.params).In h) : (hd.heap_39 w.params).In (hide h 24) := fun a o e => by
  have hne : @Ne Nat a 24 := fun q => by
    have q' : a = 24 := q
    subst q'
    have : (hd.heap_39 w.params).lookup 24 = none := by kernel_rfl
    rw [this] at e; cases e
  rw [hide_ne h hne]; exact X a o e
theorem top_hide {h00 h : Heap} {mg mb : Str → Option Value} {ob : Obj} {ps : Array Value} (h24 : h.get? 24 = some ob) (hd24 : ob.data = .fields ps)
    (T : Top hd.view_39 (looseW hd.view_39 [Str.ofString "NUMBER_LENGTH"]) (ExcName.means h00) mg mb h) : Top p0 loose0 (ExcName.means h00) mg mb (hide h 24) where
  g := T.g.at' fun o e => (hide_ne h (by decide)).trans e
  b := T.b.at' fun o e => (hide_ne h (by decide)).trans e
  nolimit := let ⟨mc, h1, h2⟩ := T.nolimit; ⟨mc, h1.at' fun o e => (hide_ne h (by decide)).trans e, h2⟩
  nodigits := let ⟨mc, h1, h2⟩ := T.nodigits; ⟨mc, h1.at' fun o e => (hide_ne h (by decide)).trans e, h2⟩
  fn := fun d hd => nomatch (show d ∈ ([] : List _) from hd)
  own := fun d hd => nomatch (show d ∈ ([] : List _) from hd)
  const := fun x d e => nomatch (show (none : Option PyData) = some d from e)
  free := fun x h1 h2 _ _ _ => by
    have h3 : x ∉ looseW hd.view_39 [Str.ofString "NUMBER_LENGTH"] ∧ x ∉ (recsOf hd.view_39).map (·.name) ∧ x ∉ (litsOf hd.view_39).map (·.1) ∧ x ∉ (clssOf hd.view_39 (looseW hd.view_39 [Str.ofString "NUMBER_LENGTH"])).map (·.name) := by
      unfold loose0 at h2
      simp only [List.mem_append, not_or] at h2
      exact ⟨h2.1.1.1, h2.1.1.2, h2.1.2, h2.2⟩
    exact T.free x h1 h3.1 h3.2.1 h3.2.2.1 h3.2.2.2
  builtins := T.builtins
  tab := fun d hd => nomatch (show d ∈ ([] : List _) from hd)
  bmain := by
    obtain ⟨bm, o, h1, h2, h3, h4, h5, h6⟩ := T.bmain
    have hne : @Ne Nat bm 24 := fun q => by
      have q' : bm = 24 := q
      subst q'
      rw [h24] at h3; cases h3
      rw [hd24] at h6; cases h6
    exact ⟨bm, o, h1, h2, (hide_ne h hne).trans h3, h4, h5, h6⟩
  seer := fun e => nomatch (show false = true from e)
/-- optimal_mode's record of texts stands empty at 24 when the law is entered. -/
theorem tab24 {w : World} {mean : ExcName → Option Value} {loose : List Str} {h : Heap} {mg mb : Str → Option Value} (X : (hd.heap_39 w.params).In h) (T : Top hd.view_39 loose mean mg mb h) : h.get? 24 = some { cls := .none, data := .fields #[] } := by
  obtain ⟨d, hd1, hd2⟩ := List.any_eq_true.mp (show ((recsOf hd.view_39).any fun d => d.name == Str.ofString "optimal_mode") = true by kernel_rfl)
  obtain ⟨a, o, fd, c, P, h1, h2, h3, h4, _, ⟨⟨oc, vs, h5, _, h6, h7⟩, h8⟩⟩ := T.tab d hd1
  have hn : d.name = Str.ofString "optimal_mode" := by simpa using hd2
  have hm : mg (Str.ofString "optimal_mode") = some (.ref 29) := mg_of X T.g (by with_unfolding_all rfl)
  rw [hn, hm] at h1
  cases h1
  have ho := X 29 _ (by with_unfolding_all rfl)
  rw [h2] at ho
  cases ho
  cases h3
  cases h4
  have hc := X 28 _ (by with_unfolding_all rfl)
  rw [h5] at hc
  cases hc
  cases h6
  cases h7
  exact h8
theorem below_hide {h h₁ : Heap} {L : Addr} {m : Str → Option Value} (_F : Fr (hide h 24) L h₁ m) : Below callerA (hide h 24) [] (hide h 24) := below_caller _
theorem list_hide {h : Heap} {a : Addr} {vs : Array Value} {ob : Obj} {ps : Array Value} (h24 : h.get? 24 = some ob) (hd24 : ob.data = .fields ps) (hl : h.IsList a vs) : (hide h 24).IsList a vs := by
  obtain ⟨o, h1, h2, n, h3⟩ := hl
  have hne : @Ne Nat a 24 := fun q => by
    have q' : a = 24 := q
    subst q'
    rw [h24] at h1; cases h1
    rw [hd24] at h3; cases h3
  exact ⟨o, (hide_ne h hne).trans h1, h2, n, h3⟩

end
-- BmForG
section
/-- what a turn of the law's main loop leaves: the generators may have grown. -/
def GEnd (h₀ : Heap) (L : Addr) (s₁ : Shared) (I : Addr) (it : Obj) (J : (Str → Option Value) → List (Addr × Obj) → Array GenState → Prop) (s₂ : Shared) : Prop :=
  ∃ h' tk gs m' nx', s₂ = { s₁ with heap := h', toks := tk, gens := gs } ∧ Fr h₀ L h' m' ∧ News h₀ L h' ((I, it) :: nx') ∧ (∀ p ∈ nx', p.1 ≠ I) ∧ J m' nx' gs
def GPost (h₀ : Heap) (L : Addr) (s₁ : Shared) (I : Addr) (it : Obj) (J : (Str → Option Value) → List (Addr × Obj) → Array GenState → Prop) (Q : Flow → Shared → Prop) (f : Flow) (s₂ : Shared) : Prop :=
  match f with
  | .ret v => Q (.ret v) s₂
  | .brk => Q .next s₂
  | _ => GEnd h₀ L s₁ I it J s₂
def ListG (prog : Program) (w : World) (A : Around) (E : Value → Shared → Prop) (h₀ : Heap) (env : Env) (x : Str) (body : List Stmt) (Q : Flow → Shared → Prop) (xv : Value) (s₁ : Shared) : Prop :=
  ∃ (ax : Addr) (vs : List Value) (n : Nat) (m : Str → Option Value) (news : List (Addr × Obj)) (J : Nat → (Str → Option Value) → List (Addr × Obj) → Array GenState → Prop),
    xv = .ref ax ∧ A.handled = none ∧ Fr h₀ env.locals s₁.heap m ∧ News h₀ env.locals s₁.heap news ∧ J 0 m news s₁.gens ∧ (∀ i m nx gs, J i m nx gs → (ax, listOf vs.toArray n) ∈ nx) ∧
    (∀ i v m₁ nx I (it : Obj) h tk gs, vs[i]? = some v → J i m₁ nx gs → it.cls = .type "list_iterator" → (∀ p ∈ nx, p.1 ≠ I) → Fr h₀ env.locals h (fun y => if y = x then some v else m₁ y) → News h₀ env.locals h ((I, it) :: nx) →
      wpAny (model prog w) A (execs body env) (GPost h₀ env.locals { s₁ with heap := h, toks := tk, gens := gs } I it (J (i + 1)) Q) E { s₁ with heap := h, toks := tk, gens := gs }) ∧
    ∀ m₁ nx h tk gs, J vs.length m₁ nx gs → Fr h₀ env.locals h m₁ → News h₀ env.locals h nx → Q .next { s₁ with heap := h, toks := tk, gens := gs }
theorem For_listG {prog : Program} {w : World} {A : Around} {E : Value → Shared → Prop} {s : Shared} {h₀ : Heap} {env : Env} {x : Str} {px pos : Pos} {iter : Expr} {body : List Stmt} {Q : Flow → Shared → Prop} {m : Str → Option Value} (_F : Fr h₀ env.locals s.heap m)
    (hy : env.kindOf x = some .local) (hp : (env.scope.kind == .class || (env.scope.kind == .module && env.locals != env.globals)) = false)
    (h : wpAny (model prog w) A (eval iter env) (fun xv s₁ => ListG prog w A E h₀ env x body Q xv s₁) E s)
    (hs : ∀ x, foldedSetIterable iter env x = pure x := by intro _; rfl) (hE : PassesOwn (model prog w) A env E := by passes_own) :
    wpAny (model prog w) A (exec (.For (.Name x px) iter body [] pos) env) Q E s := by
  refine wpAny_For (wpAny_mono h (fun xv s₁ h₁ => ?_) fun _ _ e => e) hs
  obtain ⟨ax, vs, n, m, news, J, rfl, hh, F, N, h0, hmem, turn, done⟩ := h₁
  have hax := N _ (hmem _ _ _ _ h0)
  have hl : s₁.heap.IsList ax vs.toArray := ⟨_, hax.1, rfl, n, rfl⟩
  have hlt : ax < s₁.heap.objs.size := Heap.lt_size hax.1
  refine wpAny_pyIter_list hl ?_
  generalize hI : s₁.heap.objs.size = I at *
  have hI₀ : h₀.get? I = none := hI ▸ next_is_new F
  have hIL : I ≠ env.locals := fun e => by have := F.ns.lt; rw [← e, ← hI] at this; exact Nat.lt_irrefl _ this
  refine codeAny_forLoop_any (fun k s' => ∃ i h' tk gs m' nx, s' = { s₁ with heap := h', toks := tk, gens := gs } ∧ h'.IsListIter I ax i ∧ Fr h₀ env.locals h' m' ∧ News h₀ env.locals h' nx ∧ (∀ p ∈ nx, p.1 ≠ I) ∧ J i m' nx gs ∧ i ≤ vs.length ∧ k = vs.length + 1 - i) ?_ (vs.length + 1)
    ⟨0, _, s₁.toks, s₁.gens, m, news, rfl, ⟨_, hI ▸ Heap.get?_push_size _ rfl, rfl, rfl⟩, F.push _, (fun p hp => ⟨Heap.get?_push_of_some _ (N p hp).1, (N p hp).2⟩), (fun p hp => Nat.ne_of_lt (hI ▸ Heap.lt_size (N p hp).1)), h0, Nat.zero_le _, rfl⟩
  rintro k s' ⟨i, h', tk, gs, m', nx, rfl, hit, F', N', hne, hJ, hi, rfl⟩
  have hax' := N' _ (hmem _ _ _ _ hJ)
  have hl' : h'.IsList ax vs.toArray := ⟨_, hax'.1, rfl, n, rfl⟩
  have keep : ∀ h₂ : Heap, Heap.ExtBut I h' h₂ → Fr h₀ env.locals h₂ m' ∧ News h₀ env.locals h₂ nx := fun h₂ e =>
    ⟨⟨F'.ns.at' fun o q => e _ _ (Ne.symm hIL) q, fun b o q => e _ _ (fun z => by rw [z, hI₀] at q; cases q) (F'.keep b o q), F'.above⟩, fun p hp => ⟨e _ _ (hne p hp) (N' p hp).1, (N' p hp).2⟩⟩
  by_cases hlt : i < vs.length
  · refine wpAny_pyNext_list_item hit hl' (x := vs[i]) (by simp [hlt]) fun h₂ hit₂ hs₂ => ?_
    obtain ⟨F₂, N₂⟩ := keep h₂ hs₂.extBut
    refine letGo_listiter hit₂ ?_
    refine wpAny_assign_Name (wpAny_storeName_local hy F₂.ns (fun h₃ hn₃ hs₃ => ?_) hp)
    have hL₀ : h₀.get? env.locals = none := Heap.get?_none_of_le F₂.above
    have F₃ : Fr h₀ env.locals h₃ (fun y => if y = x then some vs[i] else m' y) := ⟨hn₃, fun b o e => hs₃.extBut b o (fun q => by rw [q, hL₀] at e; cases e) (F₂.keep b o e), F₂.above⟩
    obtain ⟨it, hito, hitc, hitd⟩ := hit₂
    have hito₃ : h₃.get? I = some it := hs₃.extBut _ _ hIL hito
    have N₃ : News h₀ env.locals h₃ ((I, it) :: nx) := fun p hp => by
      rcases List.mem_cons.mp hp with rfl | hp
      · exact ⟨hito₃, hIL, hI₀⟩
      · exact ⟨hs₃.extBut _ _ (N₂ p hp).2.1 (N₂ p hp).1, (N₂ p hp).2⟩
    refine wpAny_passesOwn hE (wpAny_mono (turn i vs[i] m' nx I it h₃ _ gs (List.getElem?_eq_getElem hlt) hJ hitc hne F₃ N₃) (fun f s₂ p => ?_) fun _ _ e => e)
    have fin : ∀ tk₃, GEnd h₀ env.locals { s₁ with heap := h₃, toks := tk₃, gens := gs } I it (J (i + 1)) s₂ → ∃ mm, mm < vs.length + 1 - i ∧ ∃ i h' tk gs m' nx, s₂ = { s₁ with heap := h', toks := tk, gens := gs } ∧ h'.IsListIter I ax i ∧ Fr h₀ env.locals h' m' ∧ News h₀ env.locals h' nx ∧ (∀ p ∈ nx, p.1 ≠ I) ∧ J i m' nx gs ∧ i ≤ vs.length ∧ mm = vs.length + 1 - i := by
      rintro tk₃ ⟨h₄, tk₄, gs₄, m₄, nx₄, rfl, F₄, N₄, hne₄, hJ₄⟩
      exact ⟨vs.length + 1 - (i + 1), by omega, i + 1, h₄, tk₄, gs₄, m₄, nx₄, rfl, ⟨it, (N₄ _ (.head _)).1, hitc, hitd⟩, F₄, fun p hp => N₄ p (.tail _ hp), hne₄, hJ₄, hlt, rfl⟩
    cases f with
    | ret v => exact p
    | brk => exact p
    | next => exact fin _ p
    | cont => exact fin _ p
  · have hin : i = vs.length := by omega
    subst hin
    refine wpAny_pyNext_list_end hh hit hl' (by simp) fun h₂ he₂ => wpAny_execs_nil ?_
    obtain ⟨F₂, N₂⟩ := keep h₂ he₂
    exact done m' nx h₂ tk gs hJ F₂ N₂

end
-- BmState
section
/-- one thing laid into the buffer: bits as they are, or a part's octets in a mode. -/
inductive Item
  | bits (bs : List Bool) (l : Addr) (n : Nat)
  | part (mode : Int) (o : Array UInt8) (t : Tok)
def Item.row : Item → List Bool
  | .bits bs _ _ => bs
  | .part m o _ => if m = 1 then enc1 o.toList else if m = 2 then enc2 o.toList else enc4 o.toList
def Item.mode : Item → Int
  | .bits _ _ _ => 0
  | .part m _ _ => m
def Item.due : Item → Value
  | .bits _ l _ => .ref l
  | .part _ o t => .bytes o t
def Item.led : Item → List (Addr × Obj)
  | .bits bs l n => [(l, { cls := .type "list", data := .seq (bs.map Value.bool).toArray n })]
  | .part _ _ _ => []
def Item.Ok : Item → Prop
  | .bits bs _ _ => bs.length ≤ 20
  | .part m o _ => 0 < o.size ∧ o.size ≤ 50 ∧ ((m = 1 ∧ ∀ c ∈ o.toList, isDig c) ∨ (m = 2 ∧ ∀ c ∈ o.toList, ALNUM.contains c = true) ∨ m = 4)
structure Laid where
  tup : Addr
  tm : Tok
  tw : Tok
  it : Item
def Laid.obj (a : Laid) : Obj := { cls := .type "tuple", data := .seq #[.int a.it.mode a.tm, a.it.due, .int (a.it.row.length : Int) a.tw] }
def Laid.led (a : Laid) : List (Addr × Obj) := (a.tup, a.obj) :: a.it.led
def laidRow (ls : List Laid) : List Bool := ls.flatMap fun a => a.it.row
def laidLed (ls : List Laid) : List (Addr × Obj) := ls.flatMap Laid.led
theorem laidRow_snoc (ls : List Laid) (a : Laid) : laidRow (ls ++ [a]) = laidRow ls ++ a.it.row := by simp [laidRow]
theorem laidLed_snoc (ls : List Laid) (a : Laid) : laidLed (ls ++ [a]) = laidLed ls ++ a.led := by simp [laidLed]
theorem row_le {a : Item} (h : a.Ok) : a.row.length ≤ 400 := by
  cases a with
  | bits bs l n => exact Nat.le_trans h (by decide)
  | part m o t =>
    obtain ⟨h0, h1, h2⟩ := h
    show (if m = 1 then enc1 o.toList else if m = 2 then enc2 o.toList else enc4 o.toList).length ≤ 400
    split
    · rw [enc1_len, Array.length_toList]
      rcases (show o.size % 3 = 0 ∨ o.size % 3 = 1 ∨ o.size % 3 = 2 by omega) with e | e | e <;> rw [e] <;> simp <;> omega
    · split
      · rw [enc2_len, Array.length_toList]; omega
      · rw [enc4_len, Array.length_toList]; omega
/-- the written part of the law's ledger. -/
abbrev lawHead (w : World) (x d l la D L : Addr) (t1 t2 : Nat) (sl : List Value) (n : Int) (tn : Tok) (vs : List Value) (k : Nat) (its : List Laid) (nl : Nat) (ob o1 o2 o3 o4 : Obj) : List (Addr × Obj) :=
  [(24, ob), (L + 1 + 1 + 1 + 1, o4), (L + 1 + 1 + 1, o3), (L + 1 + 1, o2), (L + 1, o1), (x, instObj 122 d), (d, bufDict w t1 t2 l n tn), (l, listOf vs.toArray k), (la, listOf (its.map fun a => Value.ref a.tup).toArray nl), (D, listOf sl.toArray 0)]
abbrev headAdr (x d l la D L : Addr) : List Addr := [24, L + 1 + 1 + 1 + 1, L + 1 + 1 + 1, L + 1 + 1, L + 1, x, d, l, la, D]
abbrev lawPs (la : Addr) (n : Int) (tl : Tok) : List (Str × Value) := [(Str.ofString "laid", .ref la), (Str.ofString "length", .int n tl)]
/-- what stands before turn i of the law's main loop. -/
def LawJ (w : World) (x d l la D L : Addr) (t1 t2 : Nat) (sl : List Value) (i : Nat) (m : Str → Option Value) (nx : List (Addr × Obj)) (gs : Array GenState) : Prop :=
  ∃ (its : List Laid) (tl tn : Tok) (vs : List Value) (k nl : Nat) (ob o1 o2 o3 o4 : Obj) (c2 c3 : Option Value),
    (∀ p ∈ lawPs la ((laidRow its).length : Int) tl, m p.1 = some p.2) ∧
    AllBare gs ∧ TabOk ob ∧ IntsAre vs (pack (laidRow its)) ∧ its.length = i ∧ (∀ a ∈ its, a.it.Ok) ∧
    o1.data = .cell (some (.ref x)) ∧ o2.data = .cell c2 ∧ o3.data = .cell c3 ∧ o4.data = .cell none ∧
    nx = lawHead w x d l la D L t1 t2 sl ((laidRow its).length : Int) tn vs k its nl ob o1 o2 o3 o4 ++ laidLed its ∧ OwnOff (laidLed its) (headAdr x d l la D L)
theorem laid_small {its : List Laid} (h : ∀ a ∈ its, a.it.Ok) : (laidRow its).length ≤ 400 * its.length := by
  induction its with
  | nil => exact Nat.le_refl _
  | cons a r ih =>
    have h1 := row_le (h a (.head _))
    have h2 := ih fun b hb => h b (.tail _ hb)
    show (a.it.row ++ laidRow r).length ≤ 400 * (r.length + 1)
    rw [List.length_append]
    omega
theorem laidRow_le {its : List Laid} (h : ∀ a ∈ its, a.it.Ok) {i : Nat} (hl : its.length = i) (hi : i ≤ 7) : (laidRow its).length ≤ 2800 := by
  have := laid_small h
  omega
/-- a turn of the main loop ends. -/
theorem law_end {w : World} {h₀ : Heap} {L : Addr} {s₁ : Shared} {I x d l la D : Addr} {it : Obj} {t1 t2 : Nat} {sl : List Value} {m' : Str → Option Value} {i : Nat} {h' : Heap} {tk : Nat} {gs : Array GenState} {nw : List (Addr × Obj)} {its : List Laid} (a : Laid) {n : Int} {tl tn : Tok} {vs : List Value} {k nl : Nat} {ob o1 o2 o3 o4 : Obj} {c2 c3 : Option Value} {ts : List Value}
    {own : List (Addr × Obj)} (F : Fr h₀ L h' m') (N : News h₀ L h' nw) (hown : (I, it) :: laidLed its = own)
    (hts : (its.map fun a => Value.ref a.tup) = ts) (hn : n = (laidRow its).length + a.it.row.length)
    (hh : ∀ p ∈ [(24, ob), (L + 1 + 1 + 1 + 1, o4), (L + 1 + 1 + 1, o3), (L + 1 + 1, o2), (L + 1, o1), (x, instObj 122 d), (d, bufDict w t1 t2 l n tn), (l, listOf vs.toArray k), (la, listOf (ts ++ [Value.ref a.tup]).toArray nl), (D, listOf sl.toArray 0)], p ∈ nw)
    (ho : ∀ p ∈ own, p ∈ nw) (ha : ∀ p ∈ a.led, p ∈ nw)
    (hoI : ∀ p ∈ laidLed its, p.1 ≠ I) (haI : ∀ p ∈ a.led, p.1 ≠ I)
    (hoff : OwnOff own (headAdr x d l la D L)) (haoff : OwnOff a.led (headAdr x d l la D L))
    (hlaid : m' (Str.ofString "laid") = some (.ref la)) (hlen : m' (Str.ofString "length") = some (.int n tl))
    (hb : AllBare gs) (ht : TabOk ob) (hi : IntsAre vs (pack (laidRow its ++ a.it.row))) (hl : its.length = i) (hok : ∀ b ∈ its, b.it.Ok) (hak : a.it.Ok)
    (h1 : o1.data = .cell (some (.ref x))) (h2 : o2.data = .cell c2) (h3 : o3.data = .cell c3) (h4 : o4.data = .cell none) :
    GEnd h₀ L s₁ I it (LawJ w x d l la D L t1 t2 sl (i + 1)) { s₁ with heap := h', toks := tk, gens := gs } := by
  subst hts
  subst hown
  have hI : (I, it) ∈ nw := ho _ (.head _)
  have hHI : ∀ b ∈ headAdr x d l la D L, b ≠ I := fun b hb => Ne.symm (hoff _ (.head _) b hb)
  have hrow : (laidRow (its ++ [a])).length = (laidRow its).length + a.it.row.length := by rw [laidRow_snoc, List.length_append]
  have hn' : n = ((laidRow (its ++ [a])).length : Int) := by rw [hn, hrow]; push_cast; rfl
  have hmap : ((its ++ [a]).map fun a : Laid => Value.ref a.tup) = (its.map fun a : Laid => Value.ref a.tup) ++ [Value.ref a.tup] := by simp
  have hled : lawHead w x d l la D L t1 t2 sl ((laidRow (its ++ [a])).length : Int) tn vs k (its ++ [a]) nl ob o1 o2 o3 o4 = [(24, ob), (L + 1 + 1 + 1 + 1, o4), (L + 1 + 1 + 1, o3), (L + 1 + 1, o2), (L + 1, o1), (x, instObj 122 d), (d, bufDict w t1 t2 l n tn), (l, listOf vs.toArray k), (la, listOf ((its.map fun a : Laid => Value.ref a.tup) ++ [Value.ref a.tup]).toArray nl), (D, listOf sl.toArray 0)] := by
    unfold lawHead
    rw [hmap, hn']
  refine ⟨h', tk, gs, m', lawHead w x d l la D L t1 t2 sl ((laidRow (its ++ [a])).length : Int) tn vs k (its ++ [a]) nl ob o1 o2 o3 o4 ++ laidLed (its ++ [a]), rfl, F, fun p hp => N p ?_, fun p hp => ?_, its ++ [a], tl, tn, vs, k, nl, ob, o1, o2, o3, o4, c2, c3, ?_, hb, ht, ?_, ?_, ?_, h1, h2, h3, h4, rfl, ?_⟩
  · rcases List.mem_cons.mp hp with rfl | hp
    · exact hI
    · rcases List.mem_append.mp hp with hp | hp
      · rw [hled] at hp; exact hh p hp
      · rw [laidLed_snoc] at hp
        rcases List.mem_append.mp hp with hp | hp
        · exact ho p (.tail _ hp)
        · exact ha p hp
  · rcases List.mem_append.mp hp with hp | hp
    · refine hHI _ ?_
      have : (lawHead w x d l la D L t1 t2 sl ((laidRow (its ++ [a])).length : Int) tn vs k (its ++ [a]) nl ob o1 o2 o3 o4).map (·.1) = headAdr x d l la D L := rfl
      rw [← this]
      exact List.mem_map_of_mem hp
    · rw [laidLed_snoc] at hp
      rcases List.mem_append.mp hp with hp | hp
      · exact hoI p hp
      · exact haI p hp
  · intro p hp
    rcases List.mem_cons.mp hp with rfl | hp
    · exact hlaid
    · rw [List.mem_singleton.mp hp, hlen, hn']
  · rw [laidRow_snoc]; exact hi
  · rw [List.length_append, hl]; rfl
  · intro b hb
    rcases List.mem_append.mp hb with hb | hb
    · exact hok b hb
    · rw [List.mem_singleton.mp hb]; exact hak
  · intro p hp b hb
    rw [laidLed_snoc] at hp
    rcases List.mem_append.mp hp with hp | hp
    · exact hoff p (.tail _ hp) b hb
    · exact haoff p hp b hb
/-- the state at the loop's entry. -/
theorem law_zero {w : World} {x d l la D L : Addr} {t1 t2 : Nat} {sl : List Value} {m₀ : Str → Option Value} {gs : Array GenState} {tl tn : Tok} {k nl : Nat} {ob o1 o2 o3 o4 : Obj}
    (hlaid : m₀ (Str.ofString "laid") = some (.ref la)) (hlen : m₀ (Str.ofString "length") = some (.int 0 tl)) (hb : AllBare gs) (ht : TabOk ob)
    (h1 : o1.data = .cell (some (.ref x))) (h2 : ∃ c, o2.data = .cell c) (h3 : ∃ c, o3.data = .cell c) (h4 : ∃ c, o4.data = .cell c ∧ c = none) :
    LawJ w x d l la D L t1 t2 sl 0 m₀ [(24, ob), (L + 1 + 1 + 1 + 1, o4), (L + 1 + 1 + 1, o3), (L + 1 + 1, o2), (L + 1, o1), (x, instObj 122 d), (d, bufDict w t1 t2 l 0 tn), (l, listOf #[] k), (la, listOf #[] nl), (D, listOf sl.toArray 0)] gs := by
  obtain ⟨c2, h2⟩ := h2
  obtain ⟨c3, h3⟩ := h3
  obtain ⟨_, h4, rfl⟩ := h4
  refine ⟨[], tl, tn, [], k, nl, ob, o1, o2, o3, o4, c2, c3, ?_, hb, ht, .nil, rfl, (fun _ h => nomatch h), h1, h2, h3, h4, rfl, (fun _ h => nomatch h)⟩
  intro p hp
  rcases List.mem_cons.mp hp with rfl | hp
  · exact hlaid
  · rw [List.mem_singleton.mp hp]; exact hlen
/-- what the walk knows of the frame within a turn. -/
theorem fr_ps {h₀ h : Heap} {L : Addr} {x : Str} {v : Value} {m : Str → Option Value} {ps : List (Str × Value)} (hk : ∀ p ∈ ps, m p.1 = some p.2) (F : Fr h₀ L h (fun y => if y = x then some v else m y)) : Fr h₀ L h (fun y => if y = x then some v else kstB m ps y) := by
  have e : kstB m ps = m := funext fun z => kstB_eq hk fun _ => rfl
  rw [e]; exact F
theorem fr_ps0 {h₀ h : Heap} {L : Addr} {m : Str → Option Value} {ps : List (Str × Value)} (hk : ∀ p ∈ ps, m p.1 = some p.2) (F : Fr h₀ L h m) : Fr h₀ L h (kstB m ps) := by
  have e : kstB m ps = m := funext fun z => kstB_eq hk fun _ => rfl
  rw [e]; exact F
theorem law_mem {w : World} {x d l la D L : Addr} {t1 t2 : Nat} {sl : List Value} {m : Str → Option Value} {gs : Array GenState} {i : Nat} {nx : List (Addr × Obj)} (h : LawJ w x d l la D L t1 t2 sl i m nx gs) : (D, listOf sl.toArray 0) ∈ nx := by
  obtain ⟨its, tl, tn, vs, k, nl, ob, o1, o2, o3, o4, c2, c3, _, _, _, _, _, _, _, _, _, _, rfl, _⟩ := h
  refine List.mem_append.mpr (.inl ?_)
  iterate 9 refine .tail _ ?_
  exact .head _
/-- a turn's number. -/
theorem take_int {vs : List Value} {ns : List Int} (h : IntsAre vs ns) {i : Nat} {v : Value} (hv : (vs.take 7)[i]? = some v) : (∃ n t, v = .int n t) ∧ i < 7 := by
  have hi : i < 7 := by
    have := (List.getElem?_eq_some_iff.mp hv).1
    rw [List.length_take] at this
    omega
  refine ⟨?_, hi⟩
  rw [List.getElem?_take_of_lt hi] at hv
  clear hi
  induction h generalizing i with
  | nil => cases hv
  | cons a t r ih =>
    cases i with
    | zero => cases hv; exact ⟨_, _, rfl⟩
    | succ i => exact ih hv
theorem news_24 {h₀ h : Heap} {L : Addr} {m : Str → Option Value} {o : Obj} {l : List (Addr × Obj)} (h24 : h₀.get? 24 = some o) (F : Fr h₀ L h m) (N : News (hide h₀ 24) L h l) : News (hide h₀ 24) L h (l ++ [(24, o)]) := fun p hp => by
  rcases List.mem_append.mp hp with hp | hp
  rotate_left
  · rw [List.mem_singleton.mp hp]
    refine ⟨F.keep _ _ h24, fun e => ?_, hide_at _ _⟩
    have := kts_self F
    have e' : 24 = L := e
    rw [← e', h24] at this
    cases this
  · exact N p hp
theorem law_sort {h₀ h : Heap} {L a b d e f g c c1 c2 c3 c4 : Addr} {oa ob oc od oe of og o1 o2 o3 o4 : Obj} (N : News h₀ L h [(a, oa), (b, ob), (d, od), (e, oe), (f, of), (g, og), (c4, o4), (c3, o3), (c2, o2), (c1, o1), (c, oc)]) :
    News h₀ L h [(c, oc), (c4, o4), (c3, o3), (c2, o2), (c1, o1), (f, of), (g, og), (e, oe), (d, od), (a, oa)] := fun p hp => N p (by simp only [List.mem_cons, List.not_mem_nil, or_false] at hp; rcases hp with rfl | rfl | rfl | rfl | rfl | rfl | rfl | rfl | rfl | rfl <;> simp)
theorem pick_seven (l : List Value) : kms_pick l none (some 7) = l.take 7 := by
  unfold kms_pick kms_lo kms_hi
  simp only [List.drop_zero]
  by_cases h : 7 ≤ l.length
  · rw [show min (Int.toNat 7) l.length = 7 by show min 7 l.length = 7; omega]
    rfl
  · rw [List.take_of_length_le (i := 7) (l := l) (by omega)]
    exact List.take_of_length_le (by show l.length ≤ min 7 l.length - 0; omega)
/-- a turn's ledger: the head, and all that is kept. -/
theorem law_own {h₀ h : Heap} {L : Addr} {hd led : List (Addr × Obj)} {I : Addr} {it : Obj} (N : News h₀ L h ((I, it) :: (hd ++ led))) : News h₀ L h (hd ++ (I, it) :: led) := fun p hp => N p (by
  rcases List.mem_append.mp hp with hp | hp
  · exact .tail _ (List.mem_append.mpr (.inl hp))
  · rcases List.mem_cons.mp hp with rfl | hp
    · exact .head _
    · exact .tail _ (List.mem_append.mpr (.inr hp)))
theorem law_offI {hd led : List (Addr × Obj)} {I : Addr} {it : Obj} {adr : List Addr} (h : ∀ p ∈ hd ++ led, p.1 ≠ I) (e : hd.map (·.1) = adr) (ho : OwnOff led adr) : OwnOff ((I, it) :: led) adr := by
  subst e
  intro p hp b hb
  rcases List.mem_cons.mp hp with rfl | hp
  · obtain ⟨q, hq, rfl⟩ := List.mem_map.mp hb
    exact Ne.symm (h q (List.mem_append.mpr (.inl hq)))
  · exact ho p hp b hb
/-- the names of what stands at the loop's entry. -/
theorem law_names {G : Prop} {w : World} {h₀ h : Heap} {L x d l la D : Addr} {t1 t2 : Nat} {sl : List Value} {m : Str → Option Value} {gs : Array GenState} {tl tn : Tok} {ob o1 o2 o3 o4 : Obj}
    (F : Fr h₀ L h m) (N : News h₀ L h [(24, ob), (L + 1 + 1 + 1 + 1, o4), (L + 1 + 1 + 1, o3), (L + 1 + 1, o2), (L + 1, o1), (x, instObj 122 d), (d, bufDict w t1 t2 l 0 tn), (l, listOf #[] 0), (la, listOf #[] 0), (D, listOf sl.toArray 0)])
    (hlaid : m (Str.ofString "laid") = some (.ref la)) (hlen : m (Str.ofString "length") = some (.int 0 tl)) (hb : AllBare gs) (ht : TabOk ob)
    (h1 : o1.data = .cell (some (.ref x))) (h2 : ∃ c, o2.data = .cell c) (h3 : ∃ c, o3.data = .cell c) (h4 : ∃ c, o4.data = .cell c ∧ c = none)
    (ne : @LT.lt Nat _ 24 L ∧ @LT.lt Nat _ (L + 1 + 1 + 1 + 1) d ∧ @LT.lt Nat _ d x ∧ @LT.lt Nat _ x l ∧ @LT.lt Nat _ l la ∧ @LT.lt Nat _ la D)
    (k : ∀ (x d l la : Addr) (t1 t2 : Nat) (m : Str → Option Value) (nx : List (Addr × Obj)), @LT.lt Nat _ 24 L → @LT.lt Nat _ (L + 1 + 1 + 1 + 1) d → @LT.lt Nat _ d x → @LT.lt Nat _ x l → @LT.lt Nat _ l la → @LT.lt Nat _ la D →
      Fr h₀ L h m → News h₀ L h nx → LawJ w x d l la D L t1 t2 sl 0 m nx gs → G) : G :=
  k x d l la t1 t2 m _ ne.1 ne.2.1 ne.2.2.1 ne.2.2.2.1 ne.2.2.2.2.1 ne.2.2.2.2.2 F N (law_zero hlaid hlen hb ht h1 h2 h3 h4)
/-- the law's ledger, in its order. -/
abbrev lawAll (L x d l la D : Addr) (ob o4 o3 o2 o1 ox od ol oa oD : Obj) (own : List (Addr × Obj)) : List (Addr × Obj) :=
  (24, ob) :: (L + 1 + 1 + 1 + 1, o4) :: (L + 1 + 1 + 1, o3) :: (L + 1 + 1, o2) :: (L + 1, o1) :: (x, ox) :: (d, od) :: (l, ol) :: (la, oa) :: (D, oD) :: own
theorem law_buf {h₀ h h' : Heap} {L x d l la D : Addr} {ob o4 o3 o2 o1 ox od ol ox' od' ol' oa oD : Obj} {own : List (Addr × Obj)}
    (n1 : @LT.lt Nat _ 24 L) (n2 : @LT.lt Nat _ (L + 1 + 1 + 1 + 1) d) (n3 : @LT.lt Nat _ d x) (n4 : @LT.lt Nat _ x l) (n5 : @LT.lt Nat _ l la) (n6 : @LT.lt Nat _ la D) (hoff : OwnOff own (headAdr x d l la D L))
    (N : News h₀ L h (lawAll L x d l la D ob o4 o3 o2 o1 ox od ol oa oD own)) (N' : News h₀ L h' [(x, ox'), (d, od'), (l, ol')]) (G : GSub h h' [x, d, l]) :
    News h₀ L h' (lawAll L x d l la D ob o4 o3 o2 o1 ox' od' ol' oa oD own) := by
  have keep : ∀ p, p ∈ lawAll L x d l la D ob o4 o3 o2 o1 ox od ol oa oD own → @Ne Nat p.1 x → @Ne Nat p.1 d → @Ne Nat p.1 l → h'.get? p.1 = some p.2 ∧ p.1 ≠ L ∧ h₀.get? p.1 = none := fun p hp e1 e2 e3 => news_rest N G hp (fun q => by
    rcases List.mem_cons.mp q with e | q
    · exact e1 e
    · rcases List.mem_cons.mp q with e | q
      · exact e2 e
      · exact e3 (List.mem_singleton.mp q))
  intro p hp
  rcases List.mem_cons.mp hp with rfl | hp
  · exact keep _ (by simp) (by show @Ne Nat 24 x; omega) (by show @Ne Nat 24 d; omega) (by show @Ne Nat 24 l; omega)
  rcases List.mem_cons.mp hp with rfl | hp
  · exact keep _ (by simp) (by show @Ne Nat (L + 1 + 1 + 1 + 1) x; omega) (by show @Ne Nat (L + 1 + 1 + 1 + 1) d; omega) (by show @Ne Nat (L + 1 + 1 + 1 + 1) l; omega)
  rcases List.mem_cons.mp hp with rfl | hp
  · exact keep _ (by simp) (by show @Ne Nat (L + 1 + 1 + 1) x; omega) (by show @Ne Nat (L + 1 + 1 + 1) d; omega) (by show @Ne Nat (L + 1 + 1 + 1) l; omega)
  rcases List.mem_cons.mp hp with rfl | hp
  · exact keep _ (by simp) (by show @Ne Nat (L + 1 + 1) x; omega) (by show @Ne Nat (L + 1 + 1) d; omega) (by show @Ne Nat (L + 1 + 1) l; omega)
  rcases List.mem_cons.mp hp with rfl | hp
  · exact keep _ (by simp) (by show @Ne Nat (L + 1) x; omega) (by show @Ne Nat (L + 1) d; omega) (by show @Ne Nat (L + 1) l; omega)
  rcases List.mem_cons.mp hp with rfl | hp
  · exact N' _ (by simp)
  rcases List.mem_cons.mp hp with rfl | hp
  · exact N' _ (by simp)
  rcases List.mem_cons.mp hp with rfl | hp
  · exact N' _ (by simp)
  rcases List.mem_cons.mp hp with rfl | hp
  · exact keep _ (by simp) (by show @Ne Nat la x; omega) (by show @Ne Nat la d; omega) (by show @Ne Nat la l; omega)
  rcases List.mem_cons.mp hp with rfl | hp
  · exact keep _ (by simp) (by show @Ne Nat D x; omega) (by show @Ne Nat D d; omega) (by show @Ne Nat D l; omega)
  · have hm : p ∈ lawAll L x d l la D ob o4 o3 o2 o1 ox od ol oa oD own := by
      iterate 10 refine .tail _ ?_
      exact hp
    exact keep p hm (hoff p hp x (by simp)) (hoff p hp d (by simp)) (hoff p hp l (by simp))
theorem buf_sub {w : World} {L x d l la D : Addr} {t1 t2 : Nat} {n : Int} {tn : Tok} {vs : List Value} {k : Nat} {ob o4 o3 o2 o1 oa oD : Obj} {own : List (Addr × Obj)} : ∀ p ∈ bufLed w x d l t1 t2 n tn vs k, p ∈ lawAll L x d l la D ob o4 o3 o2 o1 (instObj 122 d) (bufDict w t1 t2 l n tn) (listOf vs.toArray k) oa oD own := fun p hp => by
  rcases List.mem_cons.mp hp with rfl | hp
  · simp
  · rcases List.mem_cons.mp hp with rfl | hp
    · simp
    · rw [List.mem_singleton.mp hp]; simp
/-- a turn, whatever comes behind the loop. -/
theorem turn_gen {M : Model} {A : Around} {x : Sem Flow} {s : Shared} {h₀ : Heap} {L : Addr} {s₁ : Shared} {I : Addr} {it : Obj} {J : (Str → Option Value) → List (Addr × Obj) → Array GenState → Prop} {Q : Flow → Shared → Prop} {E : Value → Shared → Prop}
    (h : ∀ (Q : Flow → Shared → Prop) (E : Value → Shared → Prop), wpAny M A x (GPost h₀ L s₁ I it J Q) E s) : wpAny M A x (GPost h₀ L s₁ I it J Q) E s := h Q E
theorem sub_last {prog : Program} {w : World} {A : Around} {E : Value → Shared → Prop} {s : Shared} {value slice : PySem.Expr} {h₀ : Heap} {L l : Addr} {news : List (Addr × Obj)} {vs : List Value} {n : Nat} {u : Tok} {v : Value} {Q : Value → Shared → Prop}
    (N : News h₀ L s.heap news) (hl : (l, listOf (vs ++ [v]).toArray n) ∈ news) (hz : vs.length < 1000) (h : Q v s)
    (hs : subscripted slice false (.ref l) (.int (-1) u) = operate [.ref l, .int (-1) u] (getItem (.ref l) (.int (-1) u)) := by with_unfolding_all rfl) :
    wpAny (model prog w) A (subscriptTail value slice (.ref l) (.int (-1) u)) Q E s :=
  have hL : s.heap.IsList l (vs ++ [v]).toArray := ⟨_, N.get hl, rfl, n, rfl⟩
  have hlen : (vs ++ [v]).length = vs.length + 1 := by simp
  kde_neg hL (by decide) (by decide) (j := vs.length) (by rw [hlen, seqIndex_neg (by decide) (by omega)]; congr 1; omega) (by simp) h hs
theorem allLt_mem {d : Addr} : ∀ {l : List (Addr × Obj)}, AllLt d l → ∀ p ∈ l, @LT.lt Nat _ p.1 d
  | [], _, _, hp => (nomatch hp)
  | q :: r, h, p, hp => by
    rcases List.mem_cons.mp hp with rfl | hp
    · exact h.1
    · exact allLt_mem h.2 p hp
/-- a new address lies off the law's ledger. -/
theorem new_off {x d l la D L c : Addr} (n1 : @LT.lt Nat _ 24 L) (n2 : @LT.lt Nat _ (L + 1 + 1 + 1 + 1) d) (n3 : @LT.lt Nat _ d x) (n4 : @LT.lt Nat _ x l) (n5 : @LT.lt Nat _ l la) (n6 : @LT.lt Nat _ la D) (hc : @LT.lt Nat _ D c) : ∀ b ∈ headAdr x d l la D L, c ≠ b := fun b hb => by
  simp only [headAdr, List.mem_cons, List.not_mem_nil, or_false] at hb
  have : @LT.lt Nat _ b c := by rcases hb with rfl | rfl | rfl | rfl | rfl | rfl | rfl | rfl | rfl | rfl <;> omega
  exact fun e => Nat.lt_irrefl _ (e ▸ this)
/-- a turn that laid a row of bits ends. -/
theorem law_end_bits {w : World} {h₀ : Heap} {L : Addr} {s₁ : Shared} {I x d l la D T l' : Addr} {it : Obj} {t1 t2 : Nat} {sl : List Value} {m' : Str → Option Value} {i : Nat} {h' : Heap} {tk : Nat} {gs : Array GenState} {its : List Laid} (bs : List Bool) {n n2 : Int} {tl tn tm tw : Tok} {vs : List Value} {k nl nn : Nat} {ob o1 o2 o3 o4 : Obj} {c2 c3 : Option Value} {ts : List Value}
    {own : List (Addr × Obj)}
    (n1 : @LT.lt Nat _ 24 L) (n2' : @LT.lt Nat _ (L + 1 + 1 + 1 + 1) d) (n3 : @LT.lt Nat _ d x) (n4 : @LT.lt Nat _ x l) (n5 : @LT.lt Nat _ l la) (n6 : @LT.lt Nat _ la D)
    (F : Fr h₀ L h' m') (N : News h₀ L h' ((T, { cls := .type "tuple", data := .seq #[.int 0 tm, .ref l', .int n2 tw] }) :: (l', { cls := .type "list", data := .seq (bs.map Value.bool).toArray nn }) :: lawAll L x d l la D ob o4 o3 o2 o1 (instObj 122 d) (bufDict w t1 t2 l n tn) (listOf vs.toArray k) (listOf (ts ++ [Value.ref T]).toArray nl) (listOf sl.toArray 0) own))
    (hown : (I, it) :: laidLed its = own)
    (hts : (its.map fun a => Value.ref a.tup) = ts) (hn2 : n2 = (bs.length : Int)) (hb20 : bs.length ≤ 20) (hn : n = ((laidRow its ++ bs).length : Int))
    (e1 : ∀ b ∈ headAdr x d l la D L, l' ≠ b) (e2 : ∀ p ∈ own, p.1 ≠ l') (e3 : @LT.lt Nat _ D T) (e4 : AllLt T own)
    (hoI : ∀ p ∈ laidLed its, p.1 ≠ I) (hoff : OwnOff own (headAdr x d l la D L))
    (hlaid : m' (Str.ofString "laid") = some (.ref la)) (hlen : m' (Str.ofString "length") = some (.int ((laidRow its).length + n2) tl))
    (hb : AllBare gs) (ht : TabOk ob) (hi : IntsAre vs (pack (laidRow its ++ bs))) (hl : its.length = i) (hok : ∀ b ∈ its, b.it.Ok)
    (h1 : o1.data = .cell (some (.ref x))) (h2 : o2.data = .cell c2) (h3 : o3.data = .cell c3) (h4 : o4.data = .cell none) :
    GEnd h₀ L s₁ I it (LawJ w x d l la D L t1 t2 sl (i + 1)) { s₁ with heap := h', toks := tk, gens := gs } := by
  have hI : I ≠ l' := e2 (I, it) (hown ▸ .head _)
  have hIT : @LT.lt Nat _ I T := allLt_mem e4 (I, it) (hown ▸ .head _)
  have e0 : n = ((laidRow its).length : Int) + n2 := by rw [hn, List.length_append, hn2]; push_cast; rfl
  have nD := fun c => new_off (c := c) n1 n2' n3 n4 n5 n6
  subst hn2
  refine law_end (⟨T, tm, tw, .bits bs l' nn⟩ : Laid) (tn := tn) (k := k) (nl := nl) F N hown hts e0 (fun p hp => ?_) (fun p hp => ?_) (fun p hp => ?_) hoI (fun p hp => ?_) hoff (fun p hp b hb' => ?_) hlaid (tl := tl) (by rw [e0]; exact hlen) hb ht hi hl hok hb20 h1 h2 h3 h4
  · refine .tail _ (.tail _ ?_)
    have : p ∈ [(24, ob), (L + 1 + 1 + 1 + 1, o4), (L + 1 + 1 + 1, o3), (L + 1 + 1, o2), (L + 1, o1), (x, instObj 122 d), (d, bufDict w t1 t2 l n tn), (l, listOf vs.toArray k), (la, listOf (ts ++ [Value.ref T]).toArray nl), (D, listOf sl.toArray 0)] ++ own := List.mem_append.mpr (.inl hp)
    exact this
  · refine .tail _ (.tail _ ?_)
    have : p ∈ [(24, ob), (L + 1 + 1 + 1 + 1, o4), (L + 1 + 1 + 1, o3), (L + 1 + 1, o2), (L + 1, o1), (x, instObj 122 d), (d, bufDict w t1 t2 l n tn), (l, listOf vs.toArray k), (la, listOf (ts ++ [Value.ref T]).toArray nl), (D, listOf sl.toArray 0)] ++ own := List.mem_append.mpr (.inr hp)
    exact this
  · rcases List.mem_cons.mp hp with rfl | hp
    · exact .head _
    · rw [List.mem_singleton.mp hp]
      exact .tail _ (.head _)
  · rcases List.mem_cons.mp hp with rfl | hp
    · exact Ne.symm (Nat.ne_of_lt hIT)
    · rw [List.mem_singleton.mp hp]
      exact Ne.symm hI
  · rcases List.mem_cons.mp hp with rfl | hp
    · exact nD T e3 b hb'
    · rw [List.mem_singleton.mp hp]
      exact e1 b hb'
def BitJ (led : List (Addr × Obj)) (v : Int) (wd : Nat) (i : Nat) (ys : List Value) (nx : List (Addr × Obj)) : Prop := nx = led ∧ ys = ((bitsOf v wd).take i).map Value.bool
theorem bit_next {v wi : Int} (h0 : 0 ≤ wi) {i : Nat} (hi : i < wi.toNat) : ((bitsOf v wi.toNat).take i).map Value.bool ++ [Value.bool ((v.fdiv (2 ^ (wi - 1 - (0 + (i : Int))).toNat)).fmod 2 == 1)] = ((bitsOf v wi.toNat).take (i + 1)).map Value.bool := by
  rw [bitsOf_take_succ v wi.toNat i hi, List.map_append]
  congr 1
  show [_] = [Value.bool (bitAt v (wi.toNat - 1 - i))]
  unfold bitAt
  rw [show (wi - 1 - (0 + (i : Int))).toNat = wi.toNat - 1 - i by omega]
  rfl
theorem small_w {wi : Int} (h0 : 0 ≤ wi) (h1 : wi < 21) : PySem.Builtin.Range.small 0 wi 1 = true := by
  have h := small3 wi.toNat 1 (by decide) (by decide) (by omega)
  rw [Int.toNat_of_nonneg h0] at h
  exact h
theorem size_w {wi : Int} (h0 : 0 ≤ wi) : PySem.Builtin.Range.rangeSize 0 wi 1 = ((wi.toNat : Nat) : Int) := by
  have h := rangeSize3 wi.toNat 1 (by decide)
  rw [Int.toNat_of_nonneg h0] at h
  exact h.trans (by simp)
theorem off1_mem {D : Addr} : ∀ {l : List (Addr × Obj)}, LCg.Off1 D l → ∀ p ∈ l, p.1 ≠ D
  | [], _, _, h => nomatch h
  | q :: r, h, p, hp => by
    rcases List.mem_cons.mp hp with rfl | hp
    · exact h.1
    · exact off1_mem h.2 p hp
theorem law_off1 {L x d l la D c : Addr} {ob o4 o3 o2 o1 ox od ol oa oD : Obj} {own : List (Addr × Obj)} (h : LCg.Off1 c (lawAll L x d l la D ob o4 o3 o2 o1 ox od ol oa oD own)) : ∀ b ∈ headAdr x d l la D L, c ≠ b := fun b hb => by
  have hm := off1_mem h
  have : b ∈ (lawAll L x d l la D ob o4 o3 o2 o1 ox od ol oa oD own).map (·.1) := by
    simp only [headAdr, List.mem_cons, List.not_mem_nil, or_false] at hb
    simp only [lawAll, List.map_cons, List.mem_cons]
    rcases hb with rfl | rfl | rfl | rfl | rfl | rfl | rfl | rfl | rfl | rfl <;> simp
  obtain ⟨p, hp, rfl⟩ := List.mem_map.mp this
  exact Ne.symm (hm p hp)
theorem law_off2 {L x d l la D c : Addr} {ob o4 o3 o2 o1 ox od ol oa oD : Obj} {own : List (Addr × Obj)} (h : LCg.Off1 c (lawAll L x d l la D ob o4 o3 o2 o1 ox od ol oa oD own)) : ∀ p ∈ own, p.1 ≠ c := fun p hp => off1_mem h p (by
  iterate 10 refine .tail _ ?_
  exact hp)
/-- the mode that the law asks for. -/
def modeOf (r q : Int) : Int := [1, 2, 4, [8, 0, 3, 5, 6, 7, 9, -1].getD q.toNat 0].getD r.toNat 0
def dueOf (r md le : Int) : String := if r = 3 then "TypeError" else if md < le then "ValueError" else "taken"
theorem modeOf_low {r q : Int} (h0 : 0 ≤ r) (h4 : r < 4) (h : r ≠ 3) : modeOf r q = 1 ∨ modeOf r q = 2 ∨ modeOf r q = 4 := by
  have : r = 0 ∨ r = 1 ∨ r = 2 := by omega
  rcases this with rfl | rfl | rfl
  · exact .inl rfl
  · exact .inr (.inl rfl)
  · exact .inr (.inr rfl)
theorem modeOf_high {q : Int} (h0 : 0 ≤ q) (h8 : q < 8) : ([1, 2, 4].any fun x => x == modeOf 3 q) = false ∧ (modeOf 3 q).natAbs < 1000 := by
  have : q = 0 ∨ q = 1 ∨ q = 2 ∨ q = 3 ∨ q = 4 ∨ q = 5 ∨ q = 6 ∨ q = 7 := by omega
  rcases this with rfl | rfl | rfl | rfl | rfl | rfl | rfl | rfl <;> exact ⟨rfl, by decide⟩
theorem least_is (o : Array UInt8) : leastMode o = 1 ∨ leastMode o = 2 ∨ leastMode o = 4 := by
  unfold leastMode
  split
  · exact .inl rfl
  · split
    · exact .inr (.inl rfl)
    · exact .inr (.inr rfl)
def MidDue (s : Shared) (h₀ : Heap) (L : Addr) (m : Str → Option Value) (news : List (Addr × Obj)) (D : String) (f : Flow) (s' : Shared) : Prop :=
  f = .next ∧ ∃ h' tk t, s' = { s with heap := h', toks := tk } ∧ Fr h₀ L h' (fun y => if y = Str.ofString "due" then some (.str (Str.ofString D) t) else m y) ∧ News h₀ L h' news
theorem cut_due {M : Model} {A : Around} {x : Sem Flow} {Q : Flow → Shared → Prop} {E : Value → Shared → Prop} {s : Shared} {h₀ : Heap} {L : Addr} {m : Str → Option Value} {news : List (Addr × Obj)} (D : String) (_F : Fr h₀ L s.heap m) (_N : News h₀ L s.heap news)
    (h : wpAny M A x (MidDue s h₀ L m news D) E s)
    (k : ∀ h' tk t, Fr h₀ L h' (fun y => if y = Str.ofString "due" then some (.str (Str.ofString D) t) else m y) → News h₀ L h' news → Q .next { s with heap := h', toks := tk }) : wpAny M A x Q E s :=
  wpAny_mono h (fun f s' hp => by
    obtain ⟨rfl, h', tk, t, rfl, F, N⟩ := hp
    exact k h' tk t F N) fun _ _ e => e
/-- what stands behind the law's choice of a part. -/
def MidPart (w : World) (s : Shared) (h₀ : Heap) (L : Addr) (o : Array UInt8) (tb : Tok) (la : Addr) (n : Int) (tl : Tok) (rest : Obj → List (Addr × Obj)) (f : Flow) (s' : Shared) : Prop :=
  f = .next ∧ ∃ h' tk gs m' p pd tp1 tp2 md tm tm' tb' ob, s' = { s with heap := h', toks := tk, gens := gs } ∧ Fr h₀ L h' m' ∧ News h₀ L h' ((p, instObj 68 pd) :: (pd, partDict w tp1 tp2 md tm o tb') :: rest ob) ∧
    (∀ q ∈ [(Str.ofString "part", Value.ref p), (Str.ofString "mode", Value.int md tm'), (Str.ofString "octets", Value.bytes o tb), (Str.ofString "laid", Value.ref la), (Str.ofString "length", Value.int n tl)], m' q.1 = some q.2) ∧
    AllBare gs ∧ TabOk ob ∧ (md = 1 ∨ md = 2 ∨ md = 4) ∧ leastMode o ≤ md
theorem cut_part {M : Model} {A : Around} {x : Sem Flow} {Q : Flow → Shared → Prop} {E : Value → Shared → Prop} {s : Shared} {w : World} {h₀ : Heap} {L : Addr} {m : Str → Option Value} {ob₀ : Obj} (o : Array UInt8) (tb : Tok) (la : Addr) (n : Int) (tl : Tok) (rest : World → Obj → List (Addr × Obj)) (_F : Fr h₀ L s.heap m) (_N : News h₀ L s.heap (rest w ob₀))
    (h : wpAny M A x (MidPart w s h₀ L o tb la n tl (rest w)) E s)
    (k : ∀ h' tk gs m' p pd tp1 tp2 md tm tm' tb' ob, Fr h₀ L h' m' → News h₀ L h' ((p, instObj 68 pd) :: (pd, partDict w tp1 tp2 md tm o tb') :: rest w ob) →
      (∀ q ∈ [(Str.ofString "part", Value.ref p), (Str.ofString "mode", Value.int md tm'), (Str.ofString "octets", Value.bytes o tb), (Str.ofString "laid", Value.ref la), (Str.ofString "length", Value.int n tl)], m' q.1 = some q.2) →
      AllBare gs → TabOk ob → (md = 1 ∨ md = 2 ∨ md = 4) → leastMode o ≤ md → Q .next { s with heap := h', toks := tk, gens := gs }) : wpAny M A x Q E s :=
  wpAny_mono h (fun f s' hp => by
    obtain ⟨rfl, h', tk, gs, m', p, pd, tp1, tp2, md, tm, tm', tb', ob, rfl, F, N, hk, hg, ht, hm, hl⟩ := hp
    exact k h' tk gs m' p pd tp1 tp2 md tm tm' tb' ob F N hk hg ht hm hl) fun _ _ e => e

end
-- BmPart
section
theorem CallOkR.mono {w : World} {h00 : Heap} {mg mb : Str → Option Value} {dep uni : Nat} {c : Value} {args : List Value} {own : List (Addr × Obj)} {P P' : Value → List (Addr × Obj) → Prop} (h : CallOkR w h00 mg mb dep uni c args own P) (hp : ∀ r o, P r o → P' r o) :
    CallOkR w h00 mg mb dep uni c args own P' := fun dp un gd env A₀ h₀ L m s Q E st N hb h1 h2 ret => h dp un gd env A₀ h₀ L m s Q E st N hb h1 h2 fun r own' h' g' tk' F' N' G hg p => ret r own' h' g' tk' F' N' G hg (hp r own' p)
/-- what the law's own asking answers, for any mode it asks. -/
theorem refused_any (w : World) (h00 : Heap) (mg mb : Str → Option Value) (v : Value) (o : Array UInt8) (ob : Obj) (r q : Int) (tm : Tok) (hv : IsWhat v o) (ht : TabOk ob) (ho : o.size ≤ 1000) (r0 : 0 ≤ r) (r4 : r < 4) (q0 : 0 ≤ q) (q8 : q < 8) :
    CallOkR w h00 mg mb 9 60 (.ref 173) [v, .int (modeOf r q) tm] [(24, ob)] fun res own' => (∃ t', res = .str (Str.ofString (dueOf r (modeOf r q) (leastMode o))) t') ∧ ∃ ob', own' = [(24, ob')] ∧ TabOk ob' := by
  by_cases h3 : r = 3
  · subst h3
    obtain ⟨h1, h2⟩ := modeOf_high q0 q8
    exact refused_type w h00 mg mb v o ob _ tm hv ht ho h1 h2
  · have e : dueOf r (modeOf r q) (leastMode o) = if modeOf r q < leastMode o then "ValueError" else "taken" := by unfold dueOf; rw [if_neg h3]
    rw [e]
    exact refused_value w h00 mg mb v o ob _ tm hv ht ho (modeOf_low r0 r4 h3)
theorem dig_is {c : UInt8} (h : PySem.Builtin.Bytes.isDigit c = true) : isDig c := by
  unfold PySem.Builtin.Bytes.isDigit at h
  rw [Bool.and_eq_true, decide_eq_true_eq, decide_eq_true_eq] at h
  exact ⟨UInt8.le_iff_toNat_le.mp h.1, UInt8.le_iff_toNat_le.mp h.2⟩
theorem least_dig {o : Array UInt8} (h : leastMode o ≤ 1) : ∀ c ∈ o.toList, PySem.Builtin.Bytes.isDigit c = true := by
  unfold leastMode at h
  split at h
  · rename_i h1
    unfold PySem.Builtin.Bytes.allOf at h1
    rw [Bool.and_eq_true, List.all_eq_true] at h1
    exact h1.2
  · split at h <;> omega
theorem least_al {o : Array UInt8} (h : leastMode o ≤ 2) : ∀ c ∈ o.toList, ALNUM.contains c = true := by
  by_cases h1 : leastMode o ≤ 1
  · exact fun c hc => dig_alnum (least_dig h1 c hc)
  · unfold leastMode at h h1
    split at h
    · rename_i h2
      rw [if_pos h2] at h1
      exact absurd (Int.le_refl _) h1
    · split at h
      · rename_i h2
        exact List.all_eq_true.mp h2
      · omega
theorem part_ok {o : Array UInt8} {t : Tok} {md : Int} (h0 : 0 < o.size) (h50 : o.size ≤ 50) (hm : md = 1 ∨ md = 2 ∨ md = 4) (hl : leastMode o ≤ md) : (Item.part md o t).Ok := by
  refine ⟨h0, h50, ?_⟩
  rcases hm with rfl | rfl | rfl
  · exact .inl ⟨rfl, fun c hc => dig_is (least_dig hl c hc)⟩
  · exact .inr (.inl ⟨rfl, least_al hl⟩)
  · exact .inr (.inr rfl)
theorem part_size {o : Array UInt8} {t : Tok} {md : Int} (hm : md = 1 ∨ md = 2 ∨ md = 4) : lawSize md o.size = (Item.part md o t).row.length := by
  unfold lawSize
  show _ = (if md = 1 then enc1 o.toList else if md = 2 then enc2 o.toList else enc4 o.toList).length
  rcases hm with rfl | rfl | rfl
  · rw [if_pos rfl, if_pos rfl, enc1_len, Array.length_toList]
    rcases (show o.size % 3 = 0 ∨ o.size % 3 = 1 ∨ o.size % 3 = 2 by omega) with e | e | e <;> rw [e] <;> rfl
  · rw [if_neg (by decide), if_pos rfl, if_neg (by decide), if_pos rfl, enc2_len, Array.length_toList]
  · rw [if_neg (by decide), if_neg (by decide), if_neg (by decide), if_neg (by decide), enc4_len, Array.length_toList]
/-- a part is written, whatever its mode. -/
theorem write_any (w : World) (h00 : Heap) (mg mb : Str → Option Value) (p pd x d l : Addr) (md : Int) (tp1 tp2 t1 t2 : Nat) (tm tb : Tok) (o : Array UInt8) (t : Tok) (B : List Bool) (tn : Tok) (vs : List Value) (k : Nat)
   (hxd : @Ne Nat x d) (hxl : @Ne Nat x l) (hdl : @Ne Nat d l) (hp1 : @Ne Nat p x) (hp2 : @Ne Nat p d) (hp3 : @Ne Nat p l) (hp4 : @Ne Nat pd x) (hp5 : @Ne Nat pd d) (hp6 : @Ne Nat pd l)
   (hB : B.length < 10000) (ho : o.size ≤ 100) (hm : md = 1 ∨ md = 2 ∨ md = 4) (hl : leastMode o ≤ md) (hi : IntsAre vs (pack B)) :
    CallOk w h00 mg mb 4 40 (.ref 58) [.ref p, .ref x] (wrLed w p pd md tp1 tp2 tm o tb x d l t1 t2 ⟨B, tn, vs, k⟩) fun res own' => res = .none ∧ ∃ tn' vs' k', own' = wrLed w p pd md tp1 tp2 tm o tb x d l t1 t2 ⟨B ++ (Item.part md o t).row, tn', vs', k'⟩ ∧ IntsAre vs' (pack (B ++ (Item.part md o t).row)) := by
  rcases hm with rfl | rfl | rfl
  · refine CallOk.mono (write1_ok w h00 mg mb p pd x d l tp1 tp2 t1 t2 tm tb o ⟨B, tn, vs, k⟩ hxd hxl hdl hp1 hp2 hp3 hp4 hp5 hp6 hB ho (fun c hc => dig_is (least_dig hl c hc)) hi) ?_
    rintro r own' ⟨rfl, ⟨B', tn', vs', k'⟩, rfl, e, hi'⟩
    have e' : B' = B ++ (Item.part 1 o t).row := e
    subst e'
    exact ⟨rfl, tn', vs', k', rfl, hi'⟩
  · refine CallOk.mono (write2_ok w h00 mg mb p pd x d l tp1 tp2 t1 t2 tm tb o ⟨B, tn, vs, k⟩ hxd hxl hdl hp1 hp2 hp3 hp4 hp5 hp6 hB ho hi) ?_
    rintro r own' ⟨rfl, ⟨B', tn', vs', k'⟩, rfl, e, hi'⟩
    have e' : B' = B ++ (Item.part 2 o t).row := e
    subst e'
    exact ⟨rfl, tn', vs', k', rfl, hi'⟩
  · refine CallOk.mono (write4_ok w h00 mg mb p pd x d l tp1 tp2 t1 t2 tm tb o ⟨B, tn, vs, k⟩ hxd hxl hdl hp1 hp2 hp3 hp4 hp5 hp6 hB ho hi) ?_
    rintro r own' ⟨rfl, ⟨B', tn', vs', k'⟩, rfl, e, hi'⟩
    have e' : B' = B ++ (Item.part 4 o t).row := e
    subst e'
    exact ⟨rfl, tn', vs', k', rfl, hi'⟩
section
variable {h₀ h h' : Heap} {L x d l la D p pd : Addr} {ob ob' o4 o3 o2 o1 ox od ol ox' od' ol' oa oD po pdo : Obj} {own : List (Addr × Obj)}
theorem law_keep {adr : List Addr} (N : News h₀ L h (lawAll L x d l la D ob o4 o3 o2 o1 ox od ol oa oD own)) (G : GSubL L h h' adr) (ha : adr = [24])
    (n1 : @LT.lt Nat _ 24 L) (n2 : @LT.lt Nat _ (L + 1 + 1 + 1 + 1) d) (n3 : @LT.lt Nat _ d x) (n4 : @LT.lt Nat _ x l) (n5 : @LT.lt Nat _ l la) (n6 : @LT.lt Nat _ la D) (hoff : OwnOff own (headAdr x d l la D L))
    (h24 : News h₀ L h' [(24, ob')]) : News h₀ L h' (lawAll L x d l la D ob' o4 o3 o2 o1 ox od ol oa oD own) := by
  subst ha
  have keep : ∀ q, q ∈ lawAll L x d l la D ob o4 o3 o2 o1 ox od ol oa oD own → @Ne Nat q.1 24 → h'.get? q.1 = some q.2 ∧ q.1 ≠ L ∧ h₀.get? q.1 = none := fun q hq e => ⟨G _ _ (N q hq).1 (fun z => e (List.mem_singleton.mp z)) (N q hq).2.1, (N q hq).2⟩
  intro q hq
  rcases List.mem_cons.mp hq with rfl | hq
  · exact h24 _ (.head _)
  rcases List.mem_cons.mp hq with rfl | hq
  · exact keep _ (by simp) (by show @Ne Nat (L + 1 + 1 + 1 + 1) 24; omega)
  rcases List.mem_cons.mp hq with rfl | hq
  · exact keep _ (by simp) (by show @Ne Nat (L + 1 + 1 + 1) 24; omega)
  rcases List.mem_cons.mp hq with rfl | hq
  · exact keep _ (by simp) (by show @Ne Nat (L + 1 + 1) 24; omega)
  rcases List.mem_cons.mp hq with rfl | hq
  · exact keep _ (by simp) (by show @Ne Nat (L + 1) 24; omega)
  rcases List.mem_cons.mp hq with rfl | hq
  · exact keep _ (by simp) (by show @Ne Nat x 24; omega)
  rcases List.mem_cons.mp hq with rfl | hq
  · exact keep _ (by simp) (by show @Ne Nat d 24; omega)
  rcases List.mem_cons.mp hq with rfl | hq
  · exact keep _ (by simp) (by show @Ne Nat l 24; omega)
  rcases List.mem_cons.mp hq with rfl | hq
  · exact keep _ (by simp) (by show @Ne Nat la 24; omega)
  rcases List.mem_cons.mp hq with rfl | hq
  · exact keep _ (by simp) (by show @Ne Nat D 24; omega)
  · have hm : q ∈ lawAll L x d l la D ob o4 o3 o2 o1 ox od ol oa oD own := by
      iterate 10 refine .tail _ ?_
      exact hq
    exact keep q hm (hoff q hq 24 (by simp))
theorem law_new (N : News h₀ L h (lawAll L x d l la D ob o4 o3 o2 o1 ox od ol oa oD own)) (N' : News h₀ L h' [(p, po), (pd, pdo), (24, ob')]) (G : GSub h h' [24])
    (n1 : @LT.lt Nat _ 24 L) (n2 : @LT.lt Nat _ (L + 1 + 1 + 1 + 1) d) (n3 : @LT.lt Nat _ d x) (n4 : @LT.lt Nat _ x l) (n5 : @LT.lt Nat _ l la) (n6 : @LT.lt Nat _ la D) (hoff : OwnOff own (headAdr x d l la D L)) :
    News h₀ L h' ((p, po) :: (pd, pdo) :: lawAll L x d l la D ob' o4 o3 o2 o1 ox od ol oa oD own) := by
  have N2 := law_keep (adr := [24]) N (fun b o e n _ => G b o e n) rfl n1 n2 n3 n4 n5 n6 hoff (ob' := ob') (fun q hq => N' q (by rw [List.mem_singleton.mp hq]; simp))
  intro q hq
  rcases List.mem_cons.mp hq with rfl | hq
  · exact N' _ (by simp)
  rcases List.mem_cons.mp hq with rfl | hq
  · exact N' _ (by simp)
  · exact N2 q hq
/-- two entries at one address are one. -/
theorem news_same {news : List (Addr × Obj)} {a b : Addr} {o o' : Obj} (N : News h₀ L h news) (h1 : (a, o) ∈ news) (h2 : (b, o') ∈ news) (hne : o ≠ o') : @Ne Nat a b := fun e => by
  have e' : a = b := e
  have h3 := (N _ h1).1
  have h4 := (N _ h2).1
  dsimp only at h3 h4
  rw [e', h4] at h3
  exact hne (Option.some.inj h3).symm
theorem law_write (N : News h₀ L h ((p, po) :: (pd, pdo) :: lawAll L x d l la D ob o4 o3 o2 o1 ox od ol oa oD own)) (N' : News h₀ L h' [(p, po), (pd, pdo), (x, ox'), (d, od'), (l, ol')]) (G : GSub h h' [p, pd, x, d, l])
    (n1 : @LT.lt Nat _ 24 L) (n2 : @LT.lt Nat _ (L + 1 + 1 + 1 + 1) d) (n3 : @LT.lt Nat _ d x) (n4 : @LT.lt Nat _ x l) (n5 : @LT.lt Nat _ l la) (n6 : @LT.lt Nat _ la D) (hoff : OwnOff own (headAdr x d l la D L)) :
    News h₀ L h' ((p, po) :: (pd, pdo) :: lawAll L x d l la D ob o4 o3 o2 o1 ox' od' ol' oa oD own) := by
  have keep : ∀ q, q ∈ (p, po) :: (pd, pdo) :: lawAll L x d l la D ob o4 o3 o2 o1 ox od ol oa oD own → @Ne Nat q.1 x → @Ne Nat q.1 d → @Ne Nat q.1 l → h'.get? q.1 = some q.2 ∧ q.1 ≠ L ∧ h₀.get? q.1 = none := fun q hq e1 e2 e3 => by
    refine ⟨?_, (N q hq).2⟩
    by_cases c1 : q.1 = p
    · have h1 := (N q hq).1
      have h2 := (N (p, po) (by simp)).1
      rw [c1] at h1
      rw [c1, (N' (p, po) (by simp)).1, ← h1, ← h2]
    by_cases c2 : q.1 = pd
    · have h1 := (N q hq).1
      have h2 := (N (pd, pdo) (by simp)).1
      rw [c2] at h1
      rw [c2, (N' (pd, pdo) (by simp)).1, ← h1, ← h2]
    refine G _ _ (N q hq).1 fun z => ?_
    simp only [List.mem_cons, List.not_mem_nil, or_false] at z
    rcases z with z | z | z | z | z
    · exact c1 z
    · exact c2 z
    · exact e1 z
    · exact e2 z
    · exact e3 z
  intro q hq
  rcases List.mem_cons.mp hq with rfl | hq
  · exact N' _ (by simp)
  rcases List.mem_cons.mp hq with rfl | hq
  · exact N' _ (by simp)
  rcases List.mem_cons.mp hq with rfl | hq
  · exact keep _ (by simp) (by show @Ne Nat 24 x; omega) (by show @Ne Nat 24 d; omega) (by show @Ne Nat 24 l; omega)
  rcases List.mem_cons.mp hq with rfl | hq
  · exact keep _ (by simp) (by show @Ne Nat (L + 1 + 1 + 1 + 1) x; omega) (by show @Ne Nat (L + 1 + 1 + 1 + 1) d; omega) (by show @Ne Nat (L + 1 + 1 + 1 + 1) l; omega)
  rcases List.mem_cons.mp hq with rfl | hq
  · exact keep _ (by simp) (by show @Ne Nat (L + 1 + 1 + 1) x; omega) (by show @Ne Nat (L + 1 + 1 + 1) d; omega) (by show @Ne Nat (L + 1 + 1 + 1) l; omega)
  rcases List.mem_cons.mp hq with rfl | hq
  · exact keep _ (by simp) (by show @Ne Nat (L + 1 + 1) x; omega) (by show @Ne Nat (L + 1 + 1) d; omega) (by show @Ne Nat (L + 1 + 1) l; omega)
  rcases List.mem_cons.mp hq with rfl | hq
  · exact keep _ (by simp) (by show @Ne Nat (L + 1) x; omega) (by show @Ne Nat (L + 1) d; omega) (by show @Ne Nat (L + 1) l; omega)
  rcases List.mem_cons.mp hq with rfl | hq
  · exact N' _ (by simp)
  rcases List.mem_cons.mp hq with rfl | hq
  · exact N' _ (by simp)
  rcases List.mem_cons.mp hq with rfl | hq
  · exact N' _ (by simp)
  rcases List.mem_cons.mp hq with rfl | hq
  · exact keep _ (by simp) (by show @Ne Nat la x; omega) (by show @Ne Nat la d; omega) (by show @Ne Nat la l; omega)
  rcases List.mem_cons.mp hq with rfl | hq
  · exact keep _ (by simp) (by show @Ne Nat D x; omega) (by show @Ne Nat D d; omega) (by show @Ne Nat D l; omega)
  · have hm : q ∈ (p, po) :: (pd, pdo) :: lawAll L x d l la D ob o4 o3 o2 o1 ox od ol oa oD own := by
      iterate 12 refine .tail _ ?_
      exact hq
    exact keep q hm (hoff q hq x (by simp)) (hoff q hq d (by simp)) (hoff q hq l (by simp))
theorem inst_ne {d pd : Addr} : instObj 68 pd ≠ instObj 122 d := fun e => by
  have h := congrArg Obj.cls e
  injection h with h
  exact absurd (show (68 : Nat) = 122 from h) (by decide)
theorem inst_ne_dict {pd : Addr} {es : List DictEntry} {n : Nat} : instObj 68 pd ≠ dictOf es n := fun e => nomatch congrArg Obj.cls e
theorem inst_ne_list {pd : Addr} {vs : Array Value} {n : Nat} : instObj 68 pd ≠ listOf vs n := fun e => nomatch congrArg Obj.cls e
theorem dict_ne_inst {d : Addr} {es : List DictEntry} {n : Nat} : dictOf es n ≠ instObj 122 d := fun e => nomatch congrArg Obj.cls e
theorem dict_ne_list {vs : Array Value} {es : List DictEntry} {k n : Nat} : dictOf es n ≠ listOf vs k := fun e => nomatch congrArg Obj.data e
theorem dict_ne_dict {w : World} {tp1 tp2 t1 t2 : Nat} {md n : Int} {tm tb tn : Tok} {o : Array UInt8} {l : Addr} : partDict w tp1 tp2 md tm o tb ≠ bufDict w t1 t2 l n tn := fun e => by
  have h := congrArg Obj.data e
  injection h with h1 h2
  have h3 := congrArg (fun a : Array DictEntry => a.toList) h1
  injection h3 with h4 h5
  have h6 := congrArg DictEntry.key h4
  injection h6 with h7 h8
  exact absurd h7 (by decide)
end
structure HoldA : Prop where
structure HoldB : Prop where
theorem fr_mode {h₀ h : Heap} {L : Addr} {x z : Str} {a b : Int} {v : Value} {t : Tok} {m : Str → Option Value} (F : Fr h₀ L h (fun y => if y = z then some v else if y = x then some (.int a t) else m y)) (e : a = b) : Fr h₀ L h (fun y => if y = z then some v else if y = x then some (.int b t) else m y) := e ▸ F
theorem law_o2 {h₀ h : Heap} {L x d l la D : Addr} {ob o4 o3 o2 o1 ox od ol oa oD : Obj} {own : List (Addr × Obj)} {c : Option Value} (N : News h₀ L h (lawAll L x d l la D ob o4 o3 o2 o1 ox od ol oa oD own)) (h2 : o2.data = .cell c) :
    ∃ o2, o2.data = .cell c ∧ News h₀ L h (lawAll L x d l la D ob o4 o3 o2 o1 ox od ol oa oD own) := ⟨o2, h2, N⟩
theorem mid_due {s : Shared} {h₀ h' : Heap} {L : Addr} {m : Str → Option Value} {news : List (Addr × Obj)} {D D' : String} {tk : Nat} {t : Tok} (F : Fr h₀ L h' (fun y => if y = Str.ofString "due" then some (.str (Str.ofString D') t) else m y)) (N : News h₀ L h' news) (e : D' = D) :
    MidDue s h₀ L m news D .next { s with heap := h', toks := tk } := by
  subst e
  exact ⟨rfl, h', tk, t, rfl, F, N⟩
theorem due1 {r md le : Int} (h : r = 3) : "TypeError" = dueOf r md le := (if_pos h).symm
theorem due2 {r md le : Int} (h : r ≠ 3) (h2 : md < le) : "ValueError" = dueOf r md le := ((if_neg h).trans (if_pos h2)).symm
theorem due3 {r md le : Int} (h : r ≠ 3) (h2 : ¬ md < le) : "taken" = dueOf r md le := ((if_neg h).trans (if_neg h2)).symm
theorem str_bne {a : Str} (h : (a != a) = true) : False := by
  have e : (a == a) = true := by first | exact beq_self_eq_true a | simp
  unfold bne at h
  rw [e] at h
  cases h
theorem mid_part {w : World} {s : Shared} {h₀ h' : Heap} {L : Addr} {o : Array UInt8} {tb tl : Tok} {la : Addr} {n : Int} {rest : Obj → List (Addr × Obj)} {tk : Nat} {gs : Array GenState} {m' : Str → Option Value} {p pd : Addr} {tp1 tp2 : Nat} {md : Int} {tm tm' tb' : Tok} {ob : Obj}
    (F : Fr h₀ L h' m') (N : News h₀ L h' ((p, instObj 68 pd) :: (pd, partDict w tp1 tp2 md tm o tb') :: rest ob))
    (h1 : m' (Str.ofString "part") = some (.ref p)) (h2 : m' (Str.ofString "mode") = some (.int md tm')) (h3 : m' (Str.ofString "octets") = some (.bytes o tb)) (h4 : m' (Str.ofString "laid") = some (.ref la)) (h5 : m' (Str.ofString "length") = some (.int n tl))
    (hg : AllBare gs) (ht : TabOk ob) (hm : md = 1 ∨ md = 2 ∨ md = 4) (hl : leastMode o ≤ md) : MidPart w s h₀ L o tb la n tl rest .next { s with heap := h', toks := tk, gens := gs } := by
  refine ⟨rfl, h', tk, gs, m', p, pd, tp1, tp2, md, tm, tm', tb', ob, rfl, F, N, ?_, hg, ht, hm, hl⟩
  intro q hq
  simp only [List.mem_cons, List.not_mem_nil, or_false] at hq
  rcases hq with rfl | rfl | rfl | rfl | rfl <;> assumption
theorem due_taken {r md le : Int} (h : (Str.ofString (dueOf r md le) != Str.ofString "taken") = false) : r ≠ 3 ∧ le ≤ md := by
  unfold dueOf at h
  by_cases h3 : r = 3
  · rw [if_pos h3] at h
    exact absurd h (by decide)
  · rw [if_neg h3] at h
    by_cases h4 : md < le
    · rw [if_pos h4] at h
      exact absurd h (by decide)
    · exact ⟨h3, Int.not_lt.mp h4⟩
theorem wr_sub {w : World} {L x d l la D p pd : Addr} {t1 t2 tp1 tp2 : Nat} {md : Int} {tn tm tb : Tok} {o : Array UInt8} {B : List Bool} {vs : List Value} {k : Nat} {ob o4 o3 o2 o1 oa oD : Obj} {own : List (Addr × Obj)} : ∀ q ∈ wrLed w p pd md tp1 tp2 tm o tb x d l t1 t2 ⟨B, tn, vs, k⟩, q ∈ (p, instObj 68 pd) :: (pd, partDict w tp1 tp2 md tm o tb) :: lawAll L x d l la D ob o4 o3 o2 o1 (instObj 122 d) (bufDict w t1 t2 l (B.length : Int) tn) (listOf vs.toArray k) oa oD own := fun q hq => by
  simp only [wrLed, List.mem_cons, List.not_mem_nil, or_false] at hq
  rcases hq with rfl | rfl | rfl | rfl | rfl <;> simp
theorem law_pne {w : World} {h₀ h : Heap} {L0 L x d l la D p pd : Addr} {t1 t2 tp1 tp2 : Nat} {md n : Int} {tn tm tb : Tok} {o : Array UInt8} {vs : List Value} {k : Nat} {ob o4 o3 o2 o1 oa oD : Obj} {own : List (Addr × Obj)}
    (N : News h₀ L0 h ((p, instObj 68 pd) :: (pd, partDict w tp1 tp2 md tm o tb) :: lawAll L x d l la D ob o4 o3 o2 o1 (instObj 122 d) (bufDict w t1 t2 l n tn) (listOf vs.toArray k) oa oD own)) :
    (@Ne Nat p x ∧ @Ne Nat p d ∧ @Ne Nat p l) ∧ (@Ne Nat pd x ∧ @Ne Nat pd d ∧ @Ne Nat pd l) := by
  have hp : (p, instObj 68 pd) ∈ (p, instObj 68 pd) :: (pd, partDict w tp1 tp2 md tm o tb) :: lawAll L x d l la D ob o4 o3 o2 o1 (instObj 122 d) (bufDict w t1 t2 l n tn) (listOf vs.toArray k) oa oD own := by simp
  have hpd : (pd, partDict w tp1 tp2 md tm o tb) ∈ (p, instObj 68 pd) :: (pd, partDict w tp1 tp2 md tm o tb) :: lawAll L x d l la D ob o4 o3 o2 o1 (instObj 122 d) (bufDict w t1 t2 l n tn) (listOf vs.toArray k) oa oD own := by simp
  have hx : (x, instObj 122 d) ∈ (p, instObj 68 pd) :: (pd, partDict w tp1 tp2 md tm o tb) :: lawAll L x d l la D ob o4 o3 o2 o1 (instObj 122 d) (bufDict w t1 t2 l n tn) (listOf vs.toArray k) oa oD own := by simp
  have hd : (d, bufDict w t1 t2 l n tn) ∈ (p, instObj 68 pd) :: (pd, partDict w tp1 tp2 md tm o tb) :: lawAll L x d l la D ob o4 o3 o2 o1 (instObj 122 d) (bufDict w t1 t2 l n tn) (listOf vs.toArray k) oa oD own := by simp
  have hl : (l, listOf vs.toArray k) ∈ (p, instObj 68 pd) :: (pd, partDict w tp1 tp2 md tm o tb) :: lawAll L x d l la D ob o4 o3 o2 o1 (instObj 122 d) (bufDict w t1 t2 l n tn) (listOf vs.toArray k) oa oD own := by simp
  exact ⟨⟨news_same N hp hx inst_ne, news_same N hp hd inst_ne_dict, news_same N hp hl inst_ne_list⟩, news_same N hpd hx dict_ne_inst, news_same N hpd hd dict_ne_dict, news_same N hpd hl dict_ne_list⟩
section
variable {A : Around} {s : Shared}
theorem eqAt_bytes (b : Array UInt8) (t u : Tok) : SeqAt.EqAt A s (.bytes b t) (.bytes b u) true := fun prog w E Q h => by
  unfold eqBool
  refine wpAny_holding ?_
  refine wpAny_ite_split (fun hab => ?_) (fun _ => ?_)
  · exact wpAny_bind (wpAny_rule (wpAny_pure h))
  · refine wpAny_bind (richCompare_gives (typeIs_bytes s b t) (typeIs_bytes s b u) FB.slot_bytes_eq FB.entry_bytes_eq (FB.args_bytes_eq_2 _ _) (gives_bytes_eq b b t u) (fun x => nomatch x) ?_)
    rw [show (b.toList == b.toList) = true from beq_self_eq_true _]
    exact wpAny_truthy_bool h
theorem eqAt_same (i : Int) (t u : Tok) : SeqAt.EqAt A s (.int i t) (.int i u) true := by
  have := SeqAt.EqAt.int_int (A := A) (s := s) i t i u
  rw [show (i == i) = true from beq_self_eq_true _] at this
  exact this
theorem ne_part {prog : Program} {w : World} {E : Value → Shared → Prop} {T1 T2 : Addr} {i n : Int} {o : Array UInt8} {a1 a2 a3 b1 b2 b3 : Tok} {Q : Value → Shared → Prop}
    (hl : s.heap.IsTuple T1 #[.int i a1, .bytes o a2, .int n a3]) (hb : s.heap.IsTuple T2 #[.int i b1, .bytes o b2, .int n b3]) (hu : A.units < cLine) (h : Q (.bool false) s) :
    wpAny (model prog w) A (compareOp .NotEq (.ref T1) (.ref T2)) Q E s := by
  refine EqBoolInt.of_rcne (SeqAt.RcNeAt.tuples (e := fun _ => true) hl hb hu ?_) h
  intro j h1 h2
  have hj : j = 0 ∨ j = 1 ∨ j = 2 := by
    have : j < 3 := h1
    omega
  rcases hj with rfl | rfl | rfl
  · exact eqAt_same _ _ _
  · exact eqAt_bytes _ _ _
  · exact eqAt_same _ _ _
end
structure HoldC : Prop where
theorem ne_partN {prog : Program} {w : World} {A : Around} {s : Shared} {E : Value → Shared → Prop} {h₀ : Heap} {L : Addr} {news : List (Addr × Obj)} {T1 T2 : Addr} {i n : Int} {o : Array UInt8} {a1 a2 a3 b1 b2 b3 : Tok} {Q : Value → Shared → Prop} (N : News h₀ L s.heap news)
    (m1 : (T1, ({ cls := .type "tuple", data := .seq #[.int i a1, .bytes o a2, .int n a3] } : Obj)) ∈ news) (m2 : (T2, ({ cls := .type "tuple", data := .seq #[.int i b1, .bytes o b2, .int n b3] } : Obj)) ∈ news) (hu : A.units < cLine) (h : Q (.bool false) s) :
    wpAny (model prog w) A (compareOp .NotEq (.ref T1) (.ref T2)) Q E s :=
  ne_part ⟨_, (N _ m1).1, rfl, 0, rfl⟩ ⟨_, (N _ m2).1, rfl, 0, rfl⟩ hu h
/-- a turn that laid a part ends. -/
theorem law_end_part {w : World} {h₀ : Heap} {L : Addr} {s₁ : Shared} {I x d l la D T : Addr} {it : Obj} {t1 t2 : Nat} {sl : List Value} {m' : Str → Option Value} {i : Nat} {h' : Heap} {tk : Nat} {gs : Array GenState} {its : List Laid} {md : Int} {o : Array UInt8} {tb : Tok} {n n2 : Int} {tl tn tm tw : Tok} {vs : List Value} {k nl : Nat} {ob o1 o2 o3 o4 : Obj} {c2 c3 : Option Value} {ts : List Value}
    {own : List (Addr × Obj)}
    (n1 : @LT.lt Nat _ 24 L) (n2' : @LT.lt Nat _ (L + 1 + 1 + 1 + 1) d) (n3 : @LT.lt Nat _ d x) (n4 : @LT.lt Nat _ x l) (n5 : @LT.lt Nat _ l la) (n6 : @LT.lt Nat _ la D)
    (F : Fr h₀ L h' m') (N : News h₀ L h' ((T, { cls := .type "tuple", data := .seq #[.int md tm, .bytes o tb, .int n2 tw] }) :: lawAll L x d l la D ob o4 o3 o2 o1 (instObj 122 d) (bufDict w t1 t2 l n tn) (listOf vs.toArray k) (listOf (ts ++ [Value.ref T]).toArray nl) (listOf sl.toArray 0) own))
    (hown : (I, it) :: laidLed its = own)
    (hts : (its.map fun a => Value.ref a.tup) = ts) (hn2 : n2 = ((Item.part md o tb).row.length : Int)) (hn : n = ((laidRow its ++ (Item.part md o tb).row).length : Int))
    (e3 : @LT.lt Nat _ D T) (e4 : AllLt T own)
    (hoI : ∀ p ∈ laidLed its, p.1 ≠ I) (hoff : OwnOff own (headAdr x d l la D L))
    (hlaid : m' (Str.ofString "laid") = some (.ref la)) (hlen : m' (Str.ofString "length") = some (.int ((laidRow its).length + n2) tl))
    (hb : AllBare gs) (ht : TabOk ob) (hi : IntsAre vs (pack (laidRow its ++ (Item.part md o tb).row))) (hl : its.length = i) (hok : ∀ b ∈ its, b.it.Ok) (hak : (Item.part md o tb).Ok)
    (h1 : o1.data = .cell (some (.ref x))) (h2 : o2.data = .cell c2) (h3 : o3.data = .cell c3) (h4 : o4.data = .cell none) :
    GEnd h₀ L s₁ I it (LawJ w x d l la D L t1 t2 sl (i + 1)) { s₁ with heap := h', toks := tk, gens := gs } := by
  have hIT : @LT.lt Nat _ I T := allLt_mem e4 (I, it) (hown ▸ .head _)
  have e0 : n = ((laidRow its).length : Int) + n2 := by rw [hn, List.length_append, hn2]; push_cast; rfl
  have nD := fun c => new_off (c := c) n1 n2' n3 n4 n5 n6
  subst hn2
  refine law_end (⟨T, tm, tw, .part md o tb⟩ : Laid) (tn := tn) (k := k) (nl := nl) F N hown hts e0 (fun p hp => ?_) (fun p hp => ?_) (fun p hp => ?_) hoI (fun p hp => ?_) hoff (fun p hp b hb' => ?_) hlaid (tl := tl) (by rw [e0]; exact hlen) hb ht hi hl hok hak h1 h2 h3 h4
  · refine .tail _ ?_
    have : p ∈ [(24, ob), (L + 1 + 1 + 1 + 1, o4), (L + 1 + 1 + 1, o3), (L + 1 + 1, o2), (L + 1, o1), (x, instObj 122 d), (d, bufDict w t1 t2 l n tn), (l, listOf vs.toArray k), (la, listOf (ts ++ [Value.ref T]).toArray nl), (D, listOf sl.toArray 0)] ++ own := List.mem_append.mpr (.inl hp)
    exact this
  · refine .tail _ ?_
    have : p ∈ [(24, ob), (L + 1 + 1 + 1 + 1, o4), (L + 1 + 1 + 1, o3), (L + 1 + 1, o2), (L + 1, o1), (x, instObj 122 d), (d, bufDict w t1 t2 l n tn), (l, listOf vs.toArray k), (la, listOf (ts ++ [Value.ref T]).toArray nl), (D, listOf sl.toArray 0)] ++ own := List.mem_append.mpr (.inr hp)
    exact this
  · rw [List.mem_singleton.mp hp]
    exact .head _
  · rw [List.mem_singleton.mp hp]
    exact Ne.symm (Nat.ne_of_lt hIT)
  · rw [List.mem_singleton.mp hp]
    exact nD T e3 b hb'

end
-- BmForT
section
structure HoldD : Prop where
/-- a loop over a list, its target any. -/
def ListT (prog : Program) (w : World) (A : Around) (E : Value → Shared → Prop) (h₀ : Heap) (env : Env) (target : Expr) (body : List Stmt) (Q : Flow → Shared → Prop) (xv : Value) (s₁ : Shared) : Prop :=
  ∃ (ax : Addr) (vs : List Value) (n : Nat) (m : Str → Option Value) (news : List (Addr × Obj)) (J : Nat → (Str → Option Value) → List (Addr × Obj) → Array GenState → Prop),
    xv = .ref ax ∧ A.handled = none ∧ Fr h₀ env.locals s₁.heap m ∧ News h₀ env.locals s₁.heap news ∧ J 0 m news s₁.gens ∧ (∀ i m nx gs, J i m nx gs → (ax, listOf vs.toArray n) ∈ nx) ∧
    (∀ i v m₁ nx I (it : Obj) h tk gs, vs[i]? = some v → J i m₁ nx gs → it.cls = .type "list_iterator" → (∀ p ∈ nx, p.1 ≠ I) → Fr h₀ env.locals h m₁ → News h₀ env.locals h ((I, it) :: nx) →
      wpAny (model prog w) A (assign target env v) (fun _ s₂ => wpAny (model prog w) A (execs body env) (GPost h₀ env.locals { s₁ with heap := h, toks := tk, gens := gs } I it (J (i + 1)) Q) E s₂) E { s₁ with heap := h, toks := tk, gens := gs }) ∧
    ∀ m₁ nx h tk gs, J vs.length m₁ nx gs → Fr h₀ env.locals h m₁ → News h₀ env.locals h nx → Q .next { s₁ with heap := h, toks := tk, gens := gs }
theorem For_listT {prog : Program} {w : World} {A : Around} {E : Value → Shared → Prop} {s : Shared} {h₀ : Heap} {env : Env} {target : Expr} {pos : Pos} {iter : Expr} {body : List Stmt} {Q : Flow → Shared → Prop} {m : Str → Option Value} (_F : Fr h₀ env.locals s.heap m)
    (h : wpAny (model prog w) A (eval iter env) (fun xv s₁ => ListT prog w A E h₀ env target body Q xv s₁) E s)
    (hs : ∀ x, foldedSetIterable iter env x = pure x := by intro _; rfl) (hE : PassesOwn (model prog w) A env E := by passes_own) :
    wpAny (model prog w) A (exec (.For target iter body [] pos) env) Q E s := by
  refine wpAny_For (wpAny_mono h (fun xv s₁ h₁ => ?_) fun _ _ e => e) hs
  obtain ⟨ax, vs, n, m, news, J, rfl, hh, F, N, h0, hmem, turn, done⟩ := h₁
  have hax := N _ (hmem _ _ _ _ h0)
  have hl : s₁.heap.IsList ax vs.toArray := ⟨_, hax.1, rfl, n, rfl⟩
  have hlt : ax < s₁.heap.objs.size := Heap.lt_size hax.1
  refine wpAny_pyIter_list hl ?_
  generalize hI : s₁.heap.objs.size = I at *
  have hI₀ : h₀.get? I = none := hI ▸ next_is_new F
  have hIL : I ≠ env.locals := fun e => by have := F.ns.lt; rw [← e, ← hI] at this; exact Nat.lt_irrefl _ this
  refine codeAny_forLoop_any (fun k s' => ∃ i h' tk gs m' nx, s' = { s₁ with heap := h', toks := tk, gens := gs } ∧ h'.IsListIter I ax i ∧ Fr h₀ env.locals h' m' ∧ News h₀ env.locals h' nx ∧ (∀ p ∈ nx, p.1 ≠ I) ∧ J i m' nx gs ∧ i ≤ vs.length ∧ k = vs.length + 1 - i) ?_ (vs.length + 1)
    ⟨0, _, s₁.toks, s₁.gens, m, news, rfl, ⟨_, hI ▸ Heap.get?_push_size _ rfl, rfl, rfl⟩, F.push _, (fun p hp => ⟨Heap.get?_push_of_some _ (N p hp).1, (N p hp).2⟩), (fun p hp => Nat.ne_of_lt (hI ▸ Heap.lt_size (N p hp).1)), h0, Nat.zero_le _, rfl⟩
  rintro k s' ⟨i, h', tk, gs, m', nx, rfl, hit, F', N', hne, hJ, hi, rfl⟩
  have hax' := N' _ (hmem _ _ _ _ hJ)
  have hl' : h'.IsList ax vs.toArray := ⟨_, hax'.1, rfl, n, rfl⟩
  have keep : ∀ h₂ : Heap, Heap.ExtBut I h' h₂ → Fr h₀ env.locals h₂ m' ∧ News h₀ env.locals h₂ nx := fun h₂ e =>
    ⟨⟨F'.ns.at' fun o q => e _ _ (Ne.symm hIL) q, fun b o q => e _ _ (fun z => by rw [z, hI₀] at q; cases q) (F'.keep b o q), F'.above⟩, fun p hp => ⟨e _ _ (hne p hp) (N' p hp).1, (N' p hp).2⟩⟩
  by_cases hlt : i < vs.length
  · refine wpAny_pyNext_list_item hit hl' (x := vs[i]) (by simp [hlt]) fun h₂ hit₂ hs₂ => ?_
    obtain ⟨F₂, N₂⟩ := keep h₂ hs₂.extBut
    refine letGo_listiter hit₂ ?_
    obtain ⟨it, hito, hitc, hitd⟩ := hit₂
    have N₃ : News h₀ env.locals h₂ ((I, it) :: nx) := fun p hp => by
      rcases List.mem_cons.mp hp with rfl | hp
      · exact ⟨hito, hIL, hI₀⟩
      · exact N₂ p hp
    refine wpAny_passesOwn hE (wpAny_mono (turn i vs[i] m' nx I it h₂ _ gs (List.getElem?_eq_getElem hlt) hJ hitc hne F₂ N₃) (fun _ s₃ p => ?_) fun _ _ e => e)
    refine wpAny_passesOwn hE (wpAny_mono p (fun f s₂ p => ?_) fun _ _ e => e)
    have fin : ∀ tk₃, GEnd h₀ env.locals { s₁ with heap := h₂, toks := tk₃, gens := gs } I it (J (i + 1)) s₂ → ∃ mm, mm < vs.length + 1 - i ∧ ∃ i h' tk gs m' nx, s₂ = { s₁ with heap := h', toks := tk, gens := gs } ∧ h'.IsListIter I ax i ∧ Fr h₀ env.locals h' m' ∧ News h₀ env.locals h' nx ∧ (∀ p ∈ nx, p.1 ≠ I) ∧ J i m' nx gs ∧ i ≤ vs.length ∧ mm = vs.length + 1 - i := by
      rintro tk₃ ⟨h₄, tk₄, gs₄, m₄, nx₄, rfl, F₄, N₄, hne₄, hJ₄⟩
      exact ⟨vs.length + 1 - (i + 1), by omega, i + 1, h₄, tk₄, gs₄, m₄, nx₄, rfl, ⟨it, (N₄ _ (.head _)).1, hitc, hitd⟩, F₄, fun p hp => N₄ p (.tail _ hp), hne₄, hJ₄, hlt, rfl⟩
    cases f with
    | ret v => exact p
    | brk => exact p
    | next => exact fin _ p
    | cont => exact fin _ p
  · have hin : i = vs.length := by omega
    subst hin
    refine wpAny_pyNext_list_end hh hit hl' (by simp) fun h₂ he₂ => wpAny_execs_nil ?_
    obtain ⟨F₂, N₂⟩ := keep h₂ he₂
    exact done m' nx h₂ tk gs hJ F₂ N₂
open LCg
/-- a comprehension's source: a range of any step. -/
def SrcC (prog : Program) (w : World) (A : Around) (h₀ : Heap) (L : Addr) (m : Str → Option Value) (env : Env) (elt : Expr) (x : Str) (scope : Scope) (cl : List (Str × Addr)) (Fin : Shared → List Value → List (Addr × Obj) → Prop) (xv : Value) (s₁ : Shared) : Prop :=
  ∃ r a b c t u v n news, xv = .ref r ∧ A.handled = none ∧ Fr h₀ L s₁.heap m ∧ News h₀ L s₁.heap news ∧ IsRange s₁.heap r a b c t u v ∧ PySem.Builtin.Range.small a b c = true ∧ PySem.Builtin.Range.rangeSize a b c = ((n : Nat) : Int) ∧ n ≤ sizeLine ∧
    ∀ s₂ : Shared, (∃ h, s₂ = { s₁ with heap := h }) → CompRest prog w A h₀ L m env elt x scope cl s₂ (fun _ => True) (fun i v => ∃ t, v = .int (a + (i : Int) * c) t) (Fin s₂) n 0 [] news
theorem walks_c {prog : Program} {w : World} {A : Around} (hh : A.handled = none) (I : Addr) (a c : Int) (n : Nat) : Walks prog w A I [I] [I] n (fun i v => ∃ t, v = .int (a + (i : Int) * c) t) (fun i h => IsRangeIter h I (a + (i : Nat) * c) ((n : Int) - (i : Nat)) c) := Walks.range hh I a c n
theorem st_c {h₀ : Heap} {L I : Addr} {a c : Int} {n : Nat} : ∀ i (h h' : Heap) (o : Obj) (nw : List (Addr × Obj)), IsRangeIter h I (a + (i : Nat) * c) ((n : Int) - (i : Nat)) c → h.get? I = some o → h'.get? I = some o → (∀ b o, h₀.get? b = some o → h'.get? b = some o) → News h₀ L h' nw → True → IsRangeIter h' I (a + (i : Nat) * c) ((n : Int) - (i : Nat)) c :=
  fun i h h' o nw st e e' _ _ _ => by
    have st' : h.get? I = some _ := st
    show h'.get? I = some _
    rw [e', ← e]; exact st'
theorem ListComp_C {prog : Program} {w : World} {A : Around} {E : Value → Shared → Prop} {s : Shared} {h₀ : Heap} {L : Addr} {m : Str → Option Value} {env : Env} {elt iter : Expr} {x : Str} {px : Pos} {scope : Scope} {cl : List (Str × Addr)} {pos : Pos} {Q : Value → Shared → Prop} (_F₀ : Fr h₀ L s.heap m)
    (hclos : closureFor scope env = pure cl) (hcell : ∀ y ∈ scope.names, y.2 ≠ .cell) (hkind : scope.kind = .function)
    (hnames : ∀ y ∈ scope.names, y.2 = .local → scope.names.lookup y.1 = some .local) (hx : scope.names.lookup x = some .local)
    (h : wpAny (model prog w) A (eval iter env) (SrcC prog w A h₀ L m env elt x scope cl (fun s₂ => FinE h₀ L m s₂ Q)) E s)
    (hs : ∀ x, foldedSetIterable iter env x = pure x := by intro _; rfl) :
    wpAny (model prog w) A (eval (.ListComp elt [⟨.Name x px, iter, [], 0⟩] scope pos) env) Q E s := by
  rw [eval_ListComp]
  refine wpAny_comprehension_free (use := none) rfl hs hclos hkind hnames (wpAny_mono h (fun xv s₁ h₁ => ?_) fun _ _ e => e)
  obtain ⟨r, a, b, c, t, u, v, n, news, rfl, hh, F, N, hr, hsm, hn, hsz, R⟩ := h₁
  refine wpAny_pyIter_range hr hsm ?_
  refine block_U (walks_c hh s₁.heap.objs.size a c n) hsz (fun i h st => ⟨_, st⟩) st_c hcell hkind hx (by show IsRangeIter _ _ _ _ _; rw [hn]; simpa using Heap.get?_push_size _ rfl) (fun b hb => ?_)
    (F.keeps fun _ _ e => Heap.get?_push_of_some _ e) (N.grown fun _ _ e => Heap.get?_push_of_some _ e) (Nat.ne_of_lt F.ns.lt) (next_is_new F) (fun p hp => Nat.ne_of_lt (Heap.lt_size (N p hp).1)) trivial (R _ ⟨_, rfl⟩) ?_
  · rw [List.mem_singleton.mp hb]
    show s₁.heap.objs.size < (s₁.heap.push _).objs.size
    rw [Heap.size_push]; exact Nat.lt_succ_self _
  · intro D C h tk m' ys news' F' N' o1 hn hC₀ hD₀ hCL hDL hCD offC fin
    refine ⟨m', hn, fun h'' hs'' => fin D h'' tk (F'.change hs'' hCL hC₀) (fun p hp => ?_) o1⟩
    refine ⟨hs''.extBut _ _ ?_ (N' p hp).1, (N' p hp).2⟩
    rcases List.mem_cons.mp hp with rfl | hp
    · exact Ne.symm hCD
    · exact offC p hp
/-- a call that gives its own back leaves the whole ledger. -/
theorem news_back {h₀ h h' : Heap} {L : Addr} {news own : List (Addr × Obj)} {adr : List Addr} (N : News h₀ L h news) (N' : News h₀ L h' own) (G : GSub h h' adr) (e : adr = own.map (·.1)) (hs : ∀ q ∈ own, q ∈ news) : News h₀ L h' news := fun p hp => by
  subst e
  refine ⟨?_, (N p hp).2⟩
  by_cases hm : p.1 ∈ own.map (·.1)
  · obtain ⟨q, hq, hqp⟩ := List.mem_map.mp hm
    have h1 := (N p hp).1
    have h2 := (N q (hs q hq)).1
    have h3 := (N' q hq).1
    rw [← hqp] at h1 ⊢
    rw [h3, ← h1, ← h2]
  · exact G _ _ (N p hp).1 hm
theorem get_okI (w : World) (h00 : Heap) (mg mb : Str → Option Value) (x d l : Addr) (t1 t2 : Nat) (tn : Tok) (vs : List Value) (k : Nat) (i : Nat) (j : Int) (ti : Tok) (B : List Bool) (hj : j = (i : Int))
   (hxd : @Ne Nat x d) (hxl : @Ne Nat x l) (hdl : @Ne Nat d l) (hB : B.length < 100000) (hlt : i < B.length) (hi : IntsAre vs (pack B)) :
    CallOk w h00 mg mb 1 8 (.ref 98) [.ref x, .int j ti] (bufLed w x d l t1 t2 (B.length : Int) tn vs k) fun res own' => res = .bool (B.getD i false) ∧ own' = bufLed w x d l t1 t2 (B.length : Int) tn vs k := by
  subst hj
  exact get_ok w h00 mg mb x d l t1 t2 tn vs k i ti B hxd hxl hdl hB hlt hi
def RowJ (led : List (Addr × Obj)) (B : List Bool) (i : Nat) (ys : List Value) (nx : List (Addr × Obj)) : Prop := nx = led ∧ ys = (B.take i).map Value.bool
theorem row_next {B : List Bool} {i : Nat} (hi : i < B.length) : (B.take i).map Value.bool ++ [Value.bool (B.getD i false)] = (B.take (i + 1)).map Value.bool := by
  rw [List.take_add_one, List.map_append, List.getElem?_eq_getElem hi, List.getD_eq_getElem?_getD, List.getElem?_eq_getElem hi]
  rfl
theorem buf_sub3 {w : World} {a b c : Addr × Obj} {L x d l la D : Addr} {t1 t2 : Nat} {n : Int} {tn : Tok} {vs : List Value} {k : Nat} {ob o4 o3 o2 o1 oa oD : Obj} {own : List (Addr × Obj)} : ∀ p ∈ bufLed w x d l t1 t2 n tn vs k, p ∈ a :: b :: c :: lawAll L x d l la D ob o4 o3 o2 o1 (instObj 122 d) (bufDict w t1 t2 l n tn) (listOf vs.toArray k) oa oD own := fun p hp =>
  .tail _ (.tail _ (.tail _ (buf_sub p hp)))
def NoneEnd (h₀ : Heap) (L : Addr) (m : Str → Option Value) (s : Shared) (led : List (Addr × Obj)) (ok : Bool) (s' : Shared) : Prop := ok = false ∧ ∃ h' tk', s' = { s with heap := h', toks := tk' } ∧ Fr h₀ L h' m ∧ News h₀ L h' led
/-- a comprehension whose test holds of nothing. -/
theorem comp_none {prog : Program} {w : World} {A : Around} {h₀ : Heap} {L : Addr} {m : Str → Option Value} {env : Env} {ct elt : Expr} {x : Str} {scope : Scope} {cl : List (Str × Addr)} {s : Shared} {S : List (Addr × Obj) → Prop} {P : Nat → Value → Prop} {Fin : List Value → List (Addr × Obj) → Prop} {news : List (Addr × Obj)} {n : Nat}
    (hS : S news)
    (turn : ∀ i v I oI C oC D m₂ h tk (E' : Value → Shared → Prop), i < n → P i v → NsObj oC m₂ → m₂ x = some v → Fr h₀ L h m → News h₀ L h ((I, oI) :: (C, oC) :: (D, lst []) :: news) → Off3 I C D news → ((@Ne Nat I C) ∧ (@Ne Nat I D) ∧ (@Ne Nat C D)) →
      wpAny (model prog w) A (isTrue ct (compEnvC scope cl C env) (eval ct (compEnvC scope cl C env))) (NoneEnd h₀ L m { s with heap := h, toks := tk } ((I, oI) :: (C, oC) :: (D, lst []) :: news)) E' { s with heap := h, toks := tk })
    (fin : Fin [] news) : ∀ j i, i + j = n → LCt.CompRestT prog w A h₀ L m env ct elt x scope cl s S P Fin j i [] news := by
  intro j
  induction j with
  | zero => intro i hi; exact LCt.CompRestT.zero fin
  | succ j ih =>
    intro i hi
    refine LCt.CompRestT.succ ?_
    intro v I oI C oC D m₂ h tk E' hv hC hx F N off ne
    refine wpAny_mono (turn i v I oI C oC D m₂ h tk E' (by omega) hv hC hx F N off ne) (fun b s₂ hq => ?_) fun _ _ e => e
    obtain ⟨rfl, h', tk', e, F', N'⟩ := hq
    simp only [Bool.false_eq_true, if_false]
    exact ⟨h', tk', news, e, F', N', off, hS, ih (i + 1) (by omega)⟩
theorem bool_at {B : List Bool} {i : Nat} {v : Value} (h : ((B.map Value.bool).toArray)[i]? = some v) : ∃ b, v = .bool b := by
  rw [List.getElem?_toArray, List.getElem?_map] at h
  cases e : B[i]? with
  | none => rw [e] at h; cases h
  | some b => rw [e] at h; cases h; exact ⟨b, rfl⟩

end
-- BmAt
section
theorem read_any (w : World) (h00 : Heap) (mg mb : Str → Option Value) (x : Addr) (k : Nat) (md : Int) (o : Array UInt8) (t t1 t2 : Tok) (ho : (Item.part md o t).Ok) :
    CallOk w h00 mg mb 3 40 (.ref 166) [.ref x, .int md t1, .int (o.size : Int) t2] [bitLed x k (Item.part md o t).row] fun res own' => (∃ t', res = .bytes o t') ∧ own' = [bitLed x k (Item.part md o t).row] := by
  obtain ⟨h0, h50, h⟩ := ho
  have h100 : o.size ≤ 100 := Nat.le_trans h50 (by decide)
  rcases h with ⟨rfl, hd⟩ | ⟨rfl, ha⟩ | rfl
  · exact read1_ok w h00 mg mb x k o t1 t2 h100 h0 hd
  · exact read2_ok w h00 mg mb x k o t1 t2 h100 h0 ha
  · exact read4_ok w h00 mg mb x k o t1 t2 h100 h0
theorem row_split {its : List Laid} {i : Nat} {a : Laid} (h : its[i]? = some a) : laidRow its = laidRow (its.take i) ++ (a.it.row ++ laidRow (its.drop (i + 1))) := by
  have hi : i < its.length := (List.getElem?_eq_some_iff.mp h).1
  have e : its = its.take i ++ (a :: its.drop (i + 1)) := by
    have := List.drop_eq_getElem_cons hi
    rw [List.getElem?_eq_getElem hi] at h
    rw [← Option.some.inj h, ← this, List.take_append_drop]
  have e2 : ∀ (p q : List Laid) (b : Laid), laidRow (p ++ (b :: q)) = laidRow p ++ (b.it.row ++ laidRow q) := fun p q b => by simp [laidRow]
  exact (congrArg laidRow e).trans (e2 _ _ _)
theorem row_step {its : List Laid} {i : Nat} {a : Laid} (h : its[i]? = some a) : (laidRow (its.take (i + 1))).length = (laidRow (its.take i)).length + a.it.row.length := by
  rw [List.take_add_one, h, Option.toList_some, laidRow_snoc, List.length_append]
theorem pick_row {its : List Laid} {i : Nat} {a : Laid} (h : its[i]? = some a) : kms_pick ((laidRow its).map Value.bool) (some (((laidRow (its.take i)).length : Nat) : Int)) (some ((((laidRow (its.take i)).length : Nat) : Int) + ((a.it.row.length : Nat) : Int))) = a.it.row.map Value.bool := by
  have e : (((laidRow (its.take i)).length : Nat) : Int) + ((a.it.row.length : Nat) : Int) = (((laidRow (its.take i)).length + a.it.row.length : Nat) : Int) := by push_cast; rfl
  rw [e, pick_nat, row_split h, List.map_append]
  rw [List.drop_left' (by simp), List.map_append, Nat.add_sub_cancel_left, List.take_left' (by simp)]
/-- what stands before turn i of the law's reading loop. -/
def AtJ (la D : Addr) (n : Int) (tl : Tok) (its : List Laid) (led : Obj → List (Addr × Obj)) (i : Nat) (m : Str → Option Value) (nx : List (Addr × Obj)) (gs : Array GenState) : Prop :=
  ∃ o3 c ta, (∀ p ∈ [(Str.ofString "row", Value.ref D), (Str.ofString "at", Value.int ((laidRow (its.take i)).length : Int) ta), (Str.ofString "laid", Value.ref la), (Str.ofString "length", Value.int n tl)], m p.1 = some p.2) ∧ AllBare gs ∧ o3.data = .cell c ∧ nx = led o3
theorem at_ps {m : Str → Option Value} {D la : Addr} {a n : Int} {ta tl : Tok} (h1 : m (Str.ofString "row") = some (.ref D)) (h2 : m (Str.ofString "at") = some (.int a ta)) (h3 : m (Str.ofString "laid") = some (.ref la)) (h4 : m (Str.ofString "length") = some (.int n tl)) :
    ∀ p ∈ [(Str.ofString "row", Value.ref D), (Str.ofString "at", Value.int a ta), (Str.ofString "laid", Value.ref la), (Str.ofString "length", Value.int n tl)], m p.1 = some p.2 := by
  intro q hq
  simp only [List.mem_cons, List.not_mem_nil, or_false] at hq
  rcases hq with rfl | rfl | rfl | rfl <;> assumption
theorem at_end {h₀ h' : Heap} {L la D I : Addr} {it : Obj} {n : Int} {tl : Tok} {its : List Laid} {led : Obj → List (Addr × Obj)} {i : Nat} {s₁ : Shared} {m' : Str → Option Value} {gs : Array GenState} {tk : Nat} {nw : List (Addr × Obj)} {o3 : Obj} {c : Option Value} {ta : Tok} {a : Laid}
    (F : Fr h₀ L h' m') (N : News h₀ L h' nw) (hs : ∀ p ∈ (I, it) :: led o3, p ∈ nw) (hI : ∀ p ∈ led o3, p.1 ≠ I) (ha : its[i]? = some a)
    (h1 : m' (Str.ofString "row") = some (.ref D)) (h2 : m' (Str.ofString "at") = some (.int (((laidRow (its.take i)).length : Int) + (a.it.row.length : Int)) ta)) (h3 : m' (Str.ofString "laid") = some (.ref la)) (h4 : m' (Str.ofString "length") = some (.int n tl))
    (hg : AllBare gs) (hc : o3.data = .cell c) : GEnd h₀ L s₁ I it (AtJ la D n tl its led (i + 1)) { s₁ with heap := h', toks := tk, gens := gs } := by
  refine ⟨h', tk, gs, m', led o3, rfl, F, fun p hp => N p (hs p hp), hI, o3, c, ta, at_ps h1 ?_ h3 h4, hg, hc, rfl⟩
  rw [row_step ha]
  exact h2
section
variable {A : Around} {s : Shared}
theorem ne_bools {prog : Program} {w : World} {E : Value → Shared → Prop} {h₀ : Heap} {L : Addr} {news : List (Addr × Obj)} {T1 T2 : Addr} {bs : List Bool} {k1 k2 : Nat} {Q : Value → Shared → Prop} (N : News h₀ L s.heap news)
    (m1 : (T1, ({ cls := .type "list", data := .seq (bs.map Value.bool).toArray k1 } : Obj)) ∈ news) (m2 : (T2, ({ cls := .type "list", data := .seq (bs.map Value.bool).toArray k2 } : Obj)) ∈ news) (hu : A.units < cLine) (h : Q (.bool false) s) :
    wpAny (model prog w) A (compareOp .NotEq (.ref T1) (.ref T2)) Q E s := by
  have hl : s.heap.IsList T1 (bs.map Value.bool).toArray := ⟨_, (N _ m1).1, rfl, k1, rfl⟩
  have hb : s.heap.IsList T2 (bs.map Value.bool).toArray := ⟨_, (N _ m2).1, rfl, k2, rfl⟩
  refine EqBoolInt.of_rcne (SeqAt.RcNeAt.lists (e := fun _ => true) hl hb rfl hu ?_) ?_
  · intro j h1 h2
    have : ((bs.map Value.bool).toArray)[j] = Value.bool (bs[j]'(by simpa using h1)) := by simp
    rw [this]
    have e := SeqAt.EqAt.bool_bool (A := A.in1) (s := s) (bs[j]'(by simpa using h1)) (bs[j]'(by simpa using h1))
    rw [show ((bs[j]'(by simpa using h1)) == (bs[j]'(by simpa using h1))) = true from beq_self_eq_true _] at e
    exact e
  · rw [show (!(List.range ((bs.map Value.bool).toArray).size).all fun _ => true) = false by simp]
    exact h
end
theorem ref_at {its : List Laid} {ts : List Value} (hts : (its.map fun a => Value.ref a.tup) = ts) {i : Nat} {v : Value} (h : ts[i]? = some v) : ∃ a, its[i]? = some a ∧ a ∈ its ∧ v = .ref a.tup := by
  subst hts
  rw [List.getElem?_map] at h
  cases e : its[i]? with
  | none => rw [e] at h; cases h
  | some a => rw [e] at h; cases h; exact ⟨a, rfl, List.mem_of_getElem? e, rfl⟩
theorem led_mem {its : List Laid} {a : Laid} (h : a ∈ its) : ∀ p ∈ a.led, p ∈ laidLed its := fun p hp => List.mem_flatMap.mpr ⟨a, h, hp⟩
theorem own_in {L x d l la D : Addr} {ob o4 o3 o2 o1 ox od ol oa oD : Obj} {own : List (Addr × Obj)} {a b p : Addr × Obj} (h : p ∈ own) : p ∈ a :: b :: lawAll L x d l la D ob o4 o3 o2 o1 ox od ol oa oD own := by
  iterate 12 refine .tail _ ?_
  exact h
theorem news_two {h₀ h : Heap} {L : Addr} {l : List (Addr × Obj)} {p q : Addr × Obj} (N : News h₀ L h l) (hp : p ∈ l) (hq : q ∈ l) : News h₀ L h (p :: q :: l) := fun r hr => by
  rcases List.mem_cons.mp hr with rfl | hr
  · exact N _ hp
  · rcases List.mem_cons.mp hr with rfl | hr
    · exact N _ hq
    · exact N _ hr
theorem news_one {h₀ h : Heap} {L : Addr} {l : List (Addr × Obj)} {p : Addr × Obj} (N : News h₀ L h l) (hp : p ∈ l) : News h₀ L h (p :: l) := fun r hr => by
  rcases List.mem_cons.mp hr with rfl | hr
  · exact N _ hp
  · exact N _ hr
theorem at_zero {la D : Addr} {n : Int} {ta tl : Tok} {its : List Laid} {led : Obj → List (Addr × Obj)} {m : Str → Option Value} {gs : Array GenState} {o3 : Obj} {c : Option Value}
    (h1 : m (Str.ofString "row") = some (.ref D)) (h2 : m (Str.ofString "at") = some (.int 0 ta)) (h3 : m (Str.ofString "laid") = some (.ref la)) (h4 : m (Str.ofString "length") = some (.int n tl)) (hg : AllBare gs) (hc : o3.data = .cell c) : AtJ la D n tl its led 0 m (led o3) gs :=
  ⟨o3, c, ta, at_ps h1 h2 h3 h4, hg, hc, rfl⟩
theorem off_map {l l' : List (Addr × Obj)} {I : Addr} (h : ∀ p ∈ l, p.1 ≠ I) (e : l'.map (·.1) = l.map (·.1)) : ∀ p ∈ l', p.1 ≠ I := fun p hp => by
  have : p.1 ∈ l.map (·.1) := e ▸ List.mem_map_of_mem hp
  obtain ⟨q, hq, hqp⟩ := List.mem_map.mp this
  rw [← hqp]
  exact h q hq
theorem off_o3 {L x d l la D : Addr} {ob o4 o3 o3' o2 o1 ox od ol oa oD : Obj} {own : List (Addr × Obj)} {p : Addr × Obj} {I : Addr} (h : ∀ q ∈ p :: lawAll L x d l la D ob o4 o3 o2 o1 ox od ol oa oD own, q.1 ≠ I) : ∀ q ∈ p :: lawAll L x d l la D ob o4 o3' o2 o1 ox od ol oa oD own, q.1 ≠ I := off_map h rfl
theorem part_mode {md : Int} {o : Array UInt8} {t : Tok} (h : (Item.part md o t).Ok) : md ≠ 0 := by
  obtain ⟨_, _, h⟩ := h
  rcases h with ⟨rfl, _⟩ | ⟨rfl, _⟩ | rfl <;> decide
theorem bytes_bne {a : List UInt8} (h : (a != a) = true) : False := by
  have e : (a == a) = true := beq_self_eq_true a
  unfold bne at h
  rw [e] at h
  cases h
theorem small_c (n c : Nat) (hc : 0 < c) (hc2 : c ≤ 10) (h : n ≤ 3000) : PySem.Builtin.Range.small 0 (n : Int) (c : Int) = true := by
  unfold PySem.Builtin.Range.small
  rw [rangeSize3 n c hc]
  have hq : (n + c - 1) / c ≤ 4000 := by
    refine Nat.le_trans (Nat.div_le_self _ _) (by omega)
  generalize (n + c - 1) / c = q at hq ⊢
  have h1 : (c : Int) > 0 := by omega
  simp only [h1, if_true, PySem.Builtin.Range.rangeFitsLong, Bool.and_eq_true, Bool.or_eq_true, decide_eq_true_eq, beq_iff_eq]
  omega
theorem small8 (n : Nat) (h : n ≤ 3000) : PySem.Builtin.Range.small 0 (n : Int) 8 = true := small_c n 8 (by decide) (by decide) h
theorem getD_fill (B : List Bool) (j : Nat) : (B ++ List.replicate 7 false).getD j false = B.getD j false := by
  rw [List.getD_eq_getElem?_getD]
  by_cases h : j < B.length
  · rw [List.getElem?_append_left h, List.getD_eq_getElem?_getD]
  · rw [getD_past B j (by omega), List.getElem?_append_right (by omega), List.getElem?_replicate]
    split <;> rfl
theorem take_eight (F : List Bool) (a : Nat) (h : a + 8 ≤ F.length) : (F.drop a).take 8 = [F.getD a false, F.getD (a + 1) false, F.getD (a + 2) false, F.getD (a + 3) false, F.getD (a + 4) false, F.getD (a + 5) false, F.getD (a + 6) false, F.getD (a + 7) false] := by
  have e : ∀ b, b < F.length → F.drop b = F.getD b false :: F.drop (b + 1) := fun b hb => by
    rw [List.drop_eq_getElem_cons hb, List.getD_eq_getElem?_getD, List.getElem?_eq_getElem hb]; rfl
  rw [e a (by omega), e (a + 1) (by omega), e (a + 1 + 1) (by omega), e (a + 1 + 1 + 1) (by omega), e (a + 1 + 1 + 1 + 1) (by omega), e (a + 1 + 1 + 1 + 1 + 1) (by omega), e (a + 1 + 1 + 1 + 1 + 1 + 1) (by omega), e (a + 1 + 1 + 1 + 1 + 1 + 1 + 1) (by omega)]
  rfl
theorem oct_bits (B : List Bool) (i : Nat) (h : i < (B.length + 8 - 1) / 8) : bnum (((B ++ List.replicate 7 false).drop (8 * i)).take 8) = octet B i := by
  rw [take_eight _ _ (by rw [List.length_append, List.length_replicate]; omega)]
  simp only [getD_fill]
  simp only [bnum, List.foldl_cons, List.foldl_nil]
  unfold octet
  omega
theorem pick_oct (B : List Bool) (i : Nat) : kms_pick ((B ++ List.replicate 7 false).map Value.bool) (some (0 + (i : Int) * 8)) (some (0 + (i : Int) * 8 + 8)) = (((B ++ List.replicate 7 false).drop (8 * i)).take 8).map Value.bool := by
  have e1 : 0 + (i : Int) * 8 = ((8 * i : Nat) : Int) := by omega
  have e2 : ((8 * i : Nat) : Int) + 8 = ((8 * i + 8 : Nat) : Int) := by omega
  rw [e1, e2, pick_nat, Nat.add_sub_cancel_left, List.map_take, List.map_drop]
def OctJ (led : List (Addr × Obj)) (B : List Bool) (i : Nat) (ys : List Value) (nx : List (Addr × Obj)) : Prop := nx = led ∧ IntsAre ys ((pack B).take i)
theorem oct_next {B : List Bool} {i : Nat} {ys : List Value} {t : Tok} (h : IntsAre ys ((pack B).take i)) (hi : i < (B.length + 8 - 1) / 8) : IntsAre (ys ++ [.int (bnum (((B ++ List.replicate 7 false).drop (8 * i)).take 8)) t]) ((pack B).take (i + 1)) := by
  have e : (pack B)[i]? = some (octet B i) := by
    unfold pack packN
    rw [List.getElem?_map, List.getElem?_range (by omega)]
    rfl
  rw [show (pack B).take (i + 1) = (pack B).take i ++ [octet B i] by rw [List.take_add_one, e]; rfl, oct_bits B i hi]
  exact h.append (.cons _ t .nil)
theorem codeTab24 {w : World} {h : Heap} (X : (hd.heap_39 w.params).In h) : isCodeTable h 24 := by
  have hc := X 28 _ (by with_unfolding_all rfl)
  exact ⟨28, _, _, hc, rfl, by with_unfolding_all rfl, by with_unfolding_all rfl⟩
theorem law_oldk {h₁ h' : Heap} {L : Addr} {m : Str → Option Value} {ob : Obj} (h24 : h₁.get? 24 = some { cls := .none, data := .fields #[] }) (ct : isCodeTable h₁ 24) (F : Fr (hide h₁ 24) L h' m) (hg : h'.get? 24 = some ob) (ht : TabOk ob) : OldK h₁ h' := by
  obtain ⟨ps, rfl, _⟩ := ht
  refine ⟨fun b o e => ?_, fun b o e => ?_⟩
  · by_cases hb : b = 24
    · subst hb
      rw [h24] at e
      cases e
      exact .inr (.inl ⟨ct, rfl, #[], ps, rfl, by simpa using hg⟩)
    · exact .inl (F.keep b o ((hide_ne h₁ hb).trans e))
  · by_cases hb : b = 24
    · subst hb
      exact ⟨_, hg⟩
    · exact ⟨o, F.keep b o ((hide_ne h₁ hb).trans e)⟩
theorem law_good {c : ClaimW} {cl : Str → Option Addr} {mean : ExcName → Option Value} {args : List WData} {s₁ : Shared} {h' : Heap} {gs : Array GenState} {dr : Drawn} {t : Nat} {L : Addr} {m : Str → Option Value} {ob : Obj} {b : Bool}
    (h24 : s₁.heap.get? 24 = some { cls := .none, data := .fields #[] }) (ct : isCodeTable s₁.heap 24) (F : Fr (hide s₁.heap 24) L h' m) (hg : h'.get? 24 = some ob) (ht : TabOk ob) (hgb : AllBare gs) (hb : b = true)
    (hr : ∀ cls, c.raises args cls = false) (hp : c.post args (.bool true) args = true) : GoodWG c cl mean args s₁ (.ok (.ret (.bool b))) { heap := h', gens := gs, drawn := dr, toks := t, os := s₁.os } := by
  subst hb
  exact ⟨.inl ⟨_, _, [], rfl, hr, ReadsW.bool true, hp, fun _ => ⟨List.nodup_nil, fun _ hm => (nomatch hm)⟩⟩, law_oldk h24 ct F hg ht, rfl, hgb⟩

end
-- BmLaw
section
local macro_rules | `(tactic| walk_at "exec For Name Subscript cons nil") => `(tactic| (k_here; refine Hold.out ?_))
local macro_rules | `(tactic| walk_at "exec For Tuple Name cons nil") => `(tactic| (k_here; refine Hold.out ?_))
local macro_rules | `(tactic| walk_at "callWith builtin:list.append") => `(tactic| refine callWith_method1 ?_)
local macro_rules | `(tactic| walk_at "subscriptTail Name UnaryOp ref int") => `(tactic| (k_here; refine Hold.out ?_))
local macro_rules | `(tactic| walk_at "eval ListComp") => `(tactic| (k_here; (rename HoldD => hMark9); refine Hold.out ?_))
local macro_rules | `(tactic| walk_at "CompSrc") => `(tactic| ((rename HoldD => hMark9); refine Hold.out ?_))
local macro_rules | `(tactic| walk_at "SrcC") => `(tactic| (refine Hold.out ?_))
local macro_rules | `(tactic| walk_at "CompSrcT") => `(tactic| (refine Hold.out ?_))
local macro_rules | `(tactic| walk_at "binaryOp Mult ref int") => `(tactic| (k_here; refine Hold.out ?_))
local macro_rules | `(tactic| walk_at "binaryOp Add ref ref") => `(tactic| (k_here; refine Hold.out ?_))
local macro_rules | `(tactic| walk_at "ListT") => `(tactic| (refine Hold.out ?_))
local macro_rules | `(tactic| walk_at "exec Assign cons IfExp") => `(tactic| (k_here; (rename HoldA => hMark9); refine Hold.out ?_))
local macro_rules | `(tactic| walk_at "exec If BoolOp") => `(tactic| (k_here; (rename HoldB => hMark9); refine Hold.out ?_))
local macro_rules | `(tactic| walk_at "compareOp NotEq ref ref") => `(tactic| (k_here; (rename HoldC => hMark9); refine Hold.out ?_))
local macro_rules | `(tactic| walk_at "call ref") => `(tactic| (k_here; (with_reducible show wpAny _ _ (PySem.call (Value.ref _) _ _) _ _ _); (show wpAny _ _ (PySem.call (Value.ref 68) _ _) _ _ _); refine Hold.out ?_))
local macro_rules | `(tactic| walk_at "callWith builtin:len") => `(tactic| refine callWith_builtin1 ?_)
set_option maxRecDepth 100000 in
set_option maxHeartbeats 16000000 in
theorem law_all : PySem.Challenge.rw_bm0033_01.Holds := by
  refine Mine.hd (by
    w_strict (
      lge_go0
      (with_reducible rename LGe.Mark => lgeM0)
      clear lgeM0
      k_drop
      (with_reducible rename Top _ _ _ _ _ _ => T0)
      (with_reducible rename Fr _ _ _ _ => F0)
      (with_reducible rename News _ _ _ _ => N0)
      (with_reducible rename Frag.In _ _ => KX0)
      (with_reducible rename Below _ _ _ _ => K0)
      have h24 := tab24 KX0 T0
      have F1 := fr_hide (a := 24) F0
      have T1 := top_hide h24 rfl T0
      have X1 := kin_hide KX0
      have ct := codeTab24 KX0
      have B1 := below_hide F1

      have h24L : @LT.lt Nat _ 24 _ := Heap.lt_size h24
      have N1 := news_24 h24 F0 (news_hide (a := 24) N0)
      dsimp only [List.cons_append, List.nil_append] at N1
      (with_reducible rename Heap.IsList _ _ _ => hL0)
      have hL1 := list_hide h24 rfl hL0
      clear N0 F0 K0 KX0 T0
      k_steps
      refine Hold.mk ?_
      (with_reducible rename Fr _ _ _ _ => F2)
      (with_reducible rename News _ _ _ _ => N2)
      with_unfolding_all refine For_listG F2 (by rfl) (by rfl) ?_
      k_steps
      refine Hold.mk ?_
      (with_reducible rename Fr _ _ _ _ => F3)
      (with_reducible rename News _ _ _ _ => N3)
      (with_reducible rename IntsAre _ _ => hI)
      with_unfolding_all refine' kms_slice_lit (s := ⟨_, _, _, _, _⟩) F3 N3 (F3.lst hL1) (by constructor) (by constructor) rfl ?_ ?hs6 ?ht6 ?hz6
      case hs6 => with_unfolding_all rfl
      case ht6 => intro _; with_unfolding_all rfl
      case hz6 => rw [List.size_toArray, hI.length, sizeLine_eq]; omega
      intro D6 h6 F6 N6 l6
      have N7 := law_sort N6
      have lD := allLt_of l6
      dsimp only [AllLt] at lD
      (with_reducible rename Shared.gens _ = #[] => hgn)
      with_unfolding_all refine' law_names F6 N7 rfl rfl (AllBare.of_eq hgn) ⟨_, rfl, trivial⟩ ?c1 ⟨_, ?c2⟩ ⟨_, ?c3⟩ ⟨_, ?c4, rfl⟩ ?ne ?_
      case c1 => assumption
      case c2 => assumption
      case c3 => assumption
      case c4 => assumption
      case ne => exact ⟨by omega, by omega, by omega, by omega, by omega, by omega⟩
      intro x d l la t1 t2 m0 nx0 n1 n2 n3 n4 n5 n6 Fl Nl Jl
      refine ⟨_, _, _, _, _, LawJ _ x d l la D6 _ t1 t2 _, rfl, rfl, Fl, Nl, Jl, fun _ _ _ _ h => law_mem h, ?turn, ?done⟩
      case done =>
        rintro m₁ nx h tk1 gs ⟨its, tl, tn, vs, k, nl, ob, o1, o2, o3, o4, c2, c3, hk, hgb, hTab, hIA, hil, hok, hd1, hd2, hd3, hd4, rfl, hoff⟩ Ft Nt
        have hi7 : its.length ≤ 7 := by rw [hil, List.toList_toArray, pick_seven, List.length_take]; omega
        have hll := laidRow_le hok rfl hi7
        have Ft2 := fr_ps0 hk Ft
        dsimp only [lawPs, kstB] at Ft2
        dsimp only [lawHead, List.cons_append, List.nil_append] at Nt
        dsimp only [headAdr] at hoff
        generalize hts : (its.map fun a => Value.ref a.tup) = ts at Nt
        have htl : ts.length ≤ 7 := by rw [← hts, List.length_map]; omega
        generalize hown : laidLed its = own at Nt hoff
        have hMk := kstMark
        (with_unfolding_all change News _ (Array.size (Heap.objs _)) _ _ at Nt)
        (with_unfolding_all change Fr _ (Array.size (Heap.objs _)) _ _ at Ft2)
        clear Ft
        dsimp only
        k_steps
        refine Hold.mk ?_
        (with_reducible rename Fr _ _ _ _ => Fa)
        with_unfolding_all refine' LCg.Assign_ListComp_U Fa rfl (by with_unfolding_all rfl) (by rfl) (by decide) (by rfl) (by decide) (by rfl) (by rfl) (by rfl) ?_
        have hMD : HoldD := ⟨⟩
        k_steps
        refine Hold.mk ?_
        (rename HoldD => hMD)
        clear hMD
        (rename IsRange _ _ _ _ _ _ _ _ => rgX)
        (with_reducible rename Fr _ _ _ _ => Fd)
        (with_reducible rename News _ _ _ _ => Nd)
        with_unfolding_all refine' LCg.CompSrc.range (n := (laidRow its).length) rfl Fd Nd rgX (small_one (by omega) (by omega) (by omega) (by omega)) (rangeSize_nat _ _) (by rw [sizeLine_eq]; omega) ?_
        intro g
        refine comp_rest (RowJ _ (laidRow its)) ?_ ?_ _ 0 _ _ (Nat.zero_add _) ⟨rfl, rfl⟩
        · rintro i ys nx v' I oI C oC D m₂ h tk E' hi ⟨rfl, rfl⟩ ⟨t, rfl⟩ hC hx F₂ N₂ off ne
          k_steps
          refine Hold.mk ?_
          (with_reducible rename Fr _ _ _ _ => Fb)
          (with_reducible rename News _ _ _ _ => Nb)
          with_unfolding_all refine' callD (get_okI _ _ _ _ x d l t1 t2 tn vs k i _ _ (laidRow its) (Int.zero_add _) (by omega) (by omega) (by omega) (by omega) hi hIA) B1 Fb X1 T1 rfl rfl Nb ?hsub ?kd ?ku ?_
          case hsub => exact buf_sub3
          case kd => ktr_room
          case ku => ktr_units
          rintro r own6 h6 tk6 F6 N6' G6 ⟨rfl, rfl⟩
          have N6 := news_back Nb N6' G6 rfl buf_sub3
          k_steps
          exact ⟨_, _, _, rfl, F6, N6, off, trivial, rfl, row_next hi⟩
        · rintro ys nx ⟨rfl, rfl⟩
          rw [List.take_length]
          intro D h tk F₂ N₂ off
          have ho1 := law_off1 off
          have ho2 := law_off2 off
          have hMD : HoldD := ⟨⟩
          k_steps
          refine Hold.mk ?_
          (with_reducible rename Fr _ _ _ _ => Fc)
          with_unfolding_all refine' LCt.ListComp_T Fc (by rfl) (by decide) (by rfl) (by decide) (by rfl) ?_
          k_steps
          refine Hold.mk ?_
          (rename HoldD => hMD)
          clear hMD
          (with_reducible rename Fr _ _ _ _ => Fd)
          (with_reducible rename News _ _ _ _ => Nd)
          with_unfolding_all refine' LCt.CompSrcT.ledger rfl Fd Nd (List.mem_cons_self ..) ?sz ?_
          case sz => rw [List.size_toArray, List.length_map, sizeLine_eq]; omega
          intro g
          refine comp_none (.inr ⟨_, List.mem_cons_self .., rfl, _, rfl⟩) ?_ ?_ _ 0 (Nat.zero_add _)
          · rintro i v' I oI C oC D m₂ h tk E' hi hv hC hx F₂ N₂ off ne
            obtain ⟨b, rfl⟩ := bool_at hv
            k_steps
            exact ⟨rfl, _, _, rfl, F₂, N₂⟩
          · intro D8 h8 tk8 F8 N8 off8
            k_steps
            refine Hold.mk ?_
            (with_reducible rename Fr _ _ _ _ => Ff)
            with_unfolding_all refine' For_listT Ff ?_
            k_steps
            refine Hold.mk ?_
            (with_reducible rename Fr _ _ _ _ => Fg)
            (with_reducible rename News _ _ _ _ => Ng)
            replace Ng := kst_newsOf Ng (fun p hp => .tail _ (.tail _ hp))
            with_unfolding_all refine' ⟨la, ts, nl, _, _, AtJ la D ((laidRow its).length : Int) tl its (fun o3 => (D, LCg.lst ((laidRow its).map Value.bool)) :: lawAll _ x d l la D6 ob o4 o3 o2 o1 (instObj 122 d) (bufDict _ t1 t2 l ((laidRow its).length : Int) tn) (listOf vs.toArray k) (listOf ts.toArray nl) (listOf _ 0) own), rfl, rfl, Fg, Ng, ?j0, ?mem2, ?turn2, ?done2⟩
            case j0 =>
              with_unfolding_all refine' at_zero (o3 := o3) ?a1 ?a2 ?a3 ?a4 hgb hd3
              case a1 => rfl
              case a2 => rfl
              case a3 => rfl
              case a4 => rfl
            case mem2 => rintro i m nx gs ⟨o3, c, ta, _, _, _, rfl⟩; simp
            case done2 =>
              rintro m₁ nx h tk gs ⟨o3, c3, tat, hk, hgb, hd3, rfl⟩ Ft Nt
              have Ft2 := fr_ps0 hk Ft
              dsimp only [kstB] at Ft2
              dsimp only [lawAll] at Nt
              (with_unfolding_all change News _ (Array.size (Heap.objs _)) _ _ at Nt)
              (with_unfolding_all change Fr _ (Array.size (Heap.objs _)) _ _ at Ft2)
              clear Ft hk
              have b4 : @Ne Nat D _ := ho1 _ (.tail _ (.head _))
              have hMD : HoldD := ⟨⟩
              dsimp only
              k_steps
              refine Hold.mk ?_
              (with_reducible rename Fr _ _ _ _ => Fm)
              (with_reducible rename News _ _ _ _ => Nm)
              with_unfolding_all refine' KMa.mul (vs := [Value.bool false]) (ws := List.replicate 7 (Value.bool false)) Fm Nm ⟨_, (Nm _ (List.mem_cons_self ..)).1, rfl, _, rfl⟩ (by decide) (by decide) (by decide) rfl ?_
              intro D9 h9 F9 N9 l9
              clear Fm Nm
              k_steps
              refine Hold.mk ?_
              (with_reducible rename Fr _ _ _ _ => Fm)
              (with_reducible rename News _ _ _ _ => Nm)
              with_unfolding_all refine' kmk_add_lit (its := ((laidRow its).map Value.bool).toArray) (its2 := (List.replicate 7 (Value.bool false)).toArray) (zs := (laidRow its ++ List.replicate 7 false).map Value.bool) Fm Nm ⟨_, (Nm (D, LCg.lst ((laidRow its).map Value.bool)) (by k_mem)).1, rfl, _, rfl⟩ ⟨_, (Nm _ (List.mem_cons_self ..)).1, rfl, _, rfl⟩ ?e10 ?_ ?z10
              case e10 => simp
              case z10 => rw [List.length_map, List.length_replicate, sizeLine_eq]; omega
              intro D10 h10 F10 N10 l10
              replace l10 := allLt_of l10
              dsimp only [AllLt] at l10
              replace N10 := kst_newsOf N10 (fun p hp => by
                rcases List.mem_cons.mp hp with rfl | hp
                · exact .head _
                · exact .tail _ (.tail _ (.tail _ hp)))
              clear Fm Nm
              k_steps
              refine Hold.mk ?_
              (with_reducible rename Fr _ _ _ _ => Fc)
              with_unfolding_all refine' ListComp_C Fc (by rfl) (by decide) (by rfl) (by decide) (by rfl) ?_
              k_steps
              refine Hold.mk ?_
              (rename HoldD => hMD)
              clear hMD
              (rename IsRange _ _ _ _ _ _ _ _ => rgX)
              (with_reducible rename Fr _ _ _ _ => Fd)
              (with_reducible rename News _ _ _ _ => Nd)
              with_unfolding_all refine' ⟨_, _, _, _, _, _, _, ((laidRow its).length + 8 - 1) / 8, _, rfl, rfl, Fd, Nd, rgX, small8 _ (by omega), rangeSize3 _ 8 (by decide), ?sz8, ?_⟩
              case sz8 => rw [sizeLine_eq]; omega
              rintro s₂ ⟨g, rfl⟩
              refine comp_rest (OctJ _ (laidRow its)) ?_ ?_ _ 0 _ _ (Nat.zero_add _) ⟨rfl, .nil⟩
              · rintro i ys nx v' I oI C oC D m₂ h tk E' hi ⟨rfl, hys⟩ ⟨t, rfl⟩ hC hx F₂ N₂ off ne
                k_steps
                refine Hold.mk ?_
                (with_reducible rename Fr _ _ _ _ => F3)
                (with_reducible rename News _ _ _ _ => N3)
                with_unfolding_all refine' kms_slice_lit (s := ⟨_, _, _, _, _⟩) (its := ((laidRow its ++ List.replicate 7 false).map Value.bool).toArray) (zs := (((laidRow its ++ List.replicate 7 false).drop (8 * i)).take 8).map Value.bool) F3 N3 ⟨_, (N3 (D10, listOf ((laidRow its ++ List.replicate 7 false).map Value.bool).toArray 0) (by k_mem)).1, rfl, _, rfl⟩ (by constructor) (by constructor) (pick_oct _ i) ?_ ?hs6 ?ht6 ?hz6
                case hs6 => with_unfolding_all rfl
                case ht6 => intro _; with_unfolding_all rfl
                case hz6 => rw [List.size_toArray, List.length_map, List.length_append, List.length_replicate, sizeLine_eq]; omega
                intro D11 h11 F11 N11 l11
                clear N3 F3
                k_steps
                refine Hold.mk ?_
                (with_reducible rename Fr _ _ _ _ => Fb)
                (with_reducible rename News _ _ _ _ => Nb)
                with_unfolding_all refine' callD (number_ok _ _ _ _ D11 0 (((laidRow its ++ List.replicate 7 false).drop (8 * i)).take 8) ?h8) B1 Fb X1 T1 rfl rfl Nb ?hsub ?kd ?ku ?_
                case h8 => rw [List.length_take]; omega
                case hsub => exact fun p hp => by rw [List.mem_singleton.mp hp]; exact .head _
                case kd => ktr_room
                case ku => ktr_units
                rintro r own6 h6 tk6 F6 N6' G6 ⟨⟨t6, rfl⟩, rfl⟩
                have N6 := news_back Nb N6' G6 rfl (fun p hp => by rw [List.mem_singleton.mp hp]; exact .head _)
                replace N6 := kst_newsOf N6 (fun p hp => .tail _ hp)
                clear N6' G6 Nb Fb
                k_steps
                exact ⟨_, _, _, rfl, F6, N6, off, trivial, rfl, oct_next hys hi⟩
              · rintro ys nx ⟨rfl, hys⟩
                rw [List.take_of_length_le (by rw [pack_length]; omega)] at hys
                intro D12 h12 tk12 F12 N12 off12
                k_steps
                (with_reducible rename Fr _ _ _ _ => Fz)
                (with_reducible rename News _ _ _ _ => Nz)
                refine' law_good h24 ct Fz (Nz (24, ob) (by k_mem)).1 hTab hgb (beq_self_eq_true _) ?hr9 ?hp9
                case hr9 => exact raisesW_false (by wrow_none_raised)
                case hp9 => exact postW_of (by wrow_shape) (by wtm_val) (by str_meet; first | done | w_fin)
            case turn2 =>
              rintro i v m₁ nx I it h tk gs hv ⟨o3, c3, tat, hk, hgb, hd3, rfl⟩ hitc hneI Ft Nt
              obtain ⟨a, hia, hai, rfl⟩ := ref_at hts hv
              have Ft2 := fr_ps0 hk Ft
              dsimp only [kstB] at Ft2
              clear Ft hk
              have hoka := hok a hai
              have hled := led_mem hai
              rw [hown] at hled
              obtain ⟨T, tmm, tww, itm⟩ := a
              have d1 := ho1
              cases itm with
              | bits bs lb nb =>
                have hT := hled _ (.head _)
                have hL := hled _ (.tail _ (.head _))
                have Nt2 := news_two Nt (own_in hT) (own_in hL)
                have a1 : @Ne Nat D _ := ho1 _ (.tail _ (.tail _ (.head _)))
                have a2 : @Ne Nat T _ := hoff _ hT _ (.tail _ (.tail _ (.head _)))
                have a3 : @Ne Nat lb _ := hoff _ hL _ (.tail _ (.tail _ (.head _)))
                have a4 : @Ne Nat _ I := hneI _ (.tail _ (.tail _ (.tail _ (.head _))))
                dsimp only [lawAll, Laid.obj, Item.mode, Item.due, Item.row] at Nt2
                clear Nt
                k_steps
                refine Hold.mk ?_
                (with_reducible rename Fr _ _ _ _ => F3)
                (with_reducible rename News _ _ _ _ => N3)
                with_unfolding_all refine' kms_slice_lit (s := ⟨_, _, _, _, _⟩) (its := ((laidRow its).map Value.bool).toArray) (zs := bs.map Value.bool) F3 N3 ⟨_, (N3 (D, LCg.lst ((laidRow its).map Value.bool)) (by k_mem)).1, rfl, _, rfl⟩ (by constructor) (by constructor) (pick_row hia) ?_ ?hs6 ?ht6 ?hz6
                case hs6 => with_unfolding_all rfl
                case ht6 => intro _; with_unfolding_all rfl
                case hz6 => rw [List.size_toArray, List.length_map, sizeLine_eq]; omega
                intro D7 h7 F7 N7 l7
                clear N3 F3
                have hMC : HoldC := ⟨⟩
                k_steps
                refine Hold.mk ?_
                (rename HoldC => hMC)
                clear hMC
                (with_reducible rename News _ _ _ _ => Nc)
                with_unfolding_all refine' ne_bools (bs := bs) Nc ?m1 ?m2 ?ku ?_
                case m1 => k_mem
                case m2 => k_mem
                case ku => ktr_units
                k_steps
                (with_reducible rename Fr _ _ _ _ => Fe)
                (with_reducible rename News _ _ _ _ => Ne)
                with_unfolding_all refine' at_end Fe Ne (fun p hp => .tail _ (.tail _ (.tail _ hp))) (off_o3 hneI) hia rfl rfl rfl rfl hgb ?c3
                case c3 => assumption
              | part md o t =>
                have hT := hled _ (.head _)
                have Nt2 := news_one Nt (own_in hT)
                have hmd : md ≠ 0 := part_mode hoka
                have hp50 : o.size ≤ 50 := hoka.2.1
                have a1 : @Ne Nat D _ := ho1 _ (.tail _ (.tail _ (.head _)))
                have a2 : @Ne Nat T _ := hoff _ hT _ (.tail _ (.tail _ (.head _)))
                have a4 : @Ne Nat _ I := hneI _ (.tail _ (.tail _ (.tail _ (.head _))))
                dsimp only [lawAll, Laid.obj, Item.mode, Item.due] at Nt2
                clear Nt
                k_steps
                refine Hold.mk ?_
                (with_reducible rename Fr _ _ _ _ => F3)
                (with_reducible rename News _ _ _ _ => N3)
                with_unfolding_all refine' kms_slice_lit (s := ⟨_, _, _, _, _⟩) (its := ((laidRow its).map Value.bool).toArray) (zs := (Item.part md o t).row.map Value.bool) F3 N3 ⟨_, (N3 (D, LCg.lst ((laidRow its).map Value.bool)) (by k_mem)).1, rfl, _, rfl⟩ (by constructor) (by constructor) (pick_row hia) ?_ ?hs6 ?ht6 ?hz6
                case hs6 => with_unfolding_all rfl
                case ht6 => intro _; with_unfolding_all rfl
                case hz6 => rw [List.size_toArray, List.length_map, sizeLine_eq]; omega
                intro D7 h7 F7 N7 l7
                clear N3 F3
                iterate 10 walk1
                refine PySem.W.ite_neg (by simpa using hmd) ?_
                k_steps
                refine Hold.mk ?_
                (with_reducible rename Fr _ _ _ _ => Fb)
                (with_reducible rename News _ _ _ _ => Nb)
                with_unfolding_all refine' callD (read_any _ _ _ _ D7 0 md o t _ _ hoka) B1 Fb X1 T1 rfl rfl Nb ?hsub ?kd ?ku ?_
                case hsub => exact fun p hp => by rw [List.mem_singleton.mp hp]; exact .head _
                case kd => ktr_room
                case ku => ktr_units
                rintro r own6 h6 tk6 F6 N6' G6 ⟨⟨t6, rfl⟩, rfl⟩
                have N6 := news_back Nb N6' G6 rfl (fun p hp => by rw [List.mem_singleton.mp hp]; exact .head _)
                clear N6' G6 Nb Fb
                k_steps
                · (rename ((_ != _) = true) => hb9)
                  exact (bytes_bne hb9).elim
                · (with_reducible rename Fr _ _ _ _ => Fe)
                  (with_reducible rename News _ _ _ _ => Ne)
                  with_unfolding_all refine' at_end Fe Ne (fun p hp => .tail _ (.tail _ hp)) (off_o3 hneI) hia rfl rfl rfl rfl hgb ?c3
                  case c3 => assumption
      case turn =>
        rintro i v m₁ nx I it h tk1 gs hv ⟨its, tl, tn, vs, k, nl, ob, o1, o2, o3, o4, c2, c3, hk, hgb, hTab, hIA, hil, hok, hd1, hd2, hd3, hd4, rfl, hoff⟩ hitc hneI Ft Nt
        rw [List.toList_toArray, pick_seven] at hv
        obtain ⟨⟨nb, tnb, rfl⟩, hi7⟩ := take_int hI hv
        have hll := laidRow_le hok hil (Nat.le_of_lt hi7)
        have Ft2 := fr_ps hk Ft
        dsimp only [lawPs, kstB] at Ft2
        have Nt2 := law_own Nt
        have hoff2 : OwnOff _ (headAdr _ _ _ _ _ _) := law_offI (it := it) hneI rfl hoff
        have hoI : ∀ p ∈ laidLed its, p.1 ≠ I := fun p hp => hneI p (List.mem_append.mpr (.inr hp))
        dsimp only [lawHead, List.cons_append, List.nil_append] at Nt2
        dsimp only [headAdr] at hoff2
        generalize hts : (its.map fun a => Value.ref a.tup) = ts at Nt2
        have htl : ts.length ≤ 7 := by rw [← hts, List.length_map]; omega
        generalize hown : (I, it) :: laidLed its = own at Nt2 hoff2
        have hMk := kstMark
        (with_unfolding_all change News _ (Array.size (Heap.objs _)) _ _ at Nt2)
        (with_unfolding_all change Fr _ (Array.size (Heap.objs _)) _ _ at Ft2)
        clear Ft Nt hneI hoff
        refine turn_gen ?_
        intro Qk Ek
        k_steps
        · refine Hold.mk ?_
          (with_reducible rename Fr _ _ _ _ => Fb)
          (with_reducible rename News _ _ _ _ => Nb)
          replace Nb := kst_newsOf Nb (fun p hp => .tail _ (.tail _ hp))
          have hw0 : 0 ≤ (nb.fdiv 4).fmod 21 := fmod_lo _ (by decide)
          have hw1 : (nb.fdiv 4).fmod 21 < 21 := fmod_hi _ (by decide)
          with_unfolding_all refine' callD (put_okI _ _ _ _ x d l t1 t2 tn vs k _ _ _ _ (laidRow its) (by omega) (by omega) (by omega) (by omega) hw0 (by omega) hIA) B1 Fb X1 T1 rfl rfl Nb ?hsub ?kd ?ku ?_
          case hsub => exact buf_sub
          case kd => ktr_room
          case ku => ktr_units
          rintro r own6 h6 tk6 F6 N6' G6 ⟨rfl, tn', vs', k', rfl, hi'⟩
          have N6 := law_buf n1 n2 n3 n4 n5 n6 hoff2 Nb N6' G6
          clear N6' G6 Nb Fb
          dsimp only [lawAll] at N6
          have hMD : HoldD := ⟨⟩
          k_steps
          refine Hold.mk ?_
          (with_reducible rename Fr _ _ _ _ => Fc)
          with_unfolding_all refine' LCg.ListComp_U Fc (by rfl) (by decide) (by rfl) (by decide) (by rfl) ?_
          k_steps
          refine Hold.mk ?_
          (rename HoldD => hMD)
          clear hMD
          (rename IsRange _ _ _ _ _ _ _ _ => rgX)
          (with_reducible rename Fr _ _ _ _ => Fd)
          (with_reducible rename News _ _ _ _ => Nd)
          with_unfolding_all refine' LCg.CompSrc.range (n := ((nb.fdiv 4).fmod 21).toNat) rfl Fd Nd rgX (small_w hw0 hw1) (size_w hw0) (by rw [sizeLine_eq]; omega) ?_
          intro g
          refine comp_rest (BitJ _ ((nb.fdiv 4).fdiv 21) ((nb.fdiv 4).fmod 21).toNat) ?_ ?_ _ 0 _ _ (Nat.zero_add _) ⟨rfl, rfl⟩
          · rintro i ys nx v' I oI C oC D m₂ h tk E' hi ⟨rfl, rfl⟩ ⟨t, rfl⟩ hC hx F₂ N₂ off ne
            k_steps
            exact ⟨_, _, _, rfl, F₂, N₂, off, trivial, rfl, bit_next hw0 hi⟩
          · rintro ys nx ⟨rfl, rfl⟩
            rw [List.take_of_length_le (by rw [bitsOf_length]; omega)]
            intro D h tk F₂ N₂ off
            have ho1 := law_off1 off
            have ho2 := law_off2 off
            have hl1 : @Ne Nat D la := ho1 la (by simp)
            k_steps
            refine Hold.mk ?_
            (with_reducible rename News _ _ _ _ => Nc)
            simp only [List.push_toArray] at Nc
            refine' sub_last Nc ?lm ?lz ?_
            case lm => k_mem
            case lz => omega
            k_steps
            · rw [List.length_append, bitsOf_length]; omega
            · (rename (@Ne Int _ _) => hne)
              exact absurd (by rw [List.length_append, bitsOf_length]; push_cast; rw [Int.toNat_of_nonneg hw0]) hne
            · (with_reducible rename Fr _ _ _ _ => Fe)
              (with_reducible rename News _ _ _ _ => Ne)
              with_unfolding_all refine' law_end_bits (own := own) (bitsOf ((nb.fdiv 4).fdiv 21) ((nb.fdiv 4).fmod 21).toNat) n1 n2 n3 n4 n5 n6 Fe Ne hown hts (by rw [bitsOf_length, Int.toNat_of_nonneg hw0]) (by rw [bitsOf_length]; omega) rfl ho1 ho2 ?e3 ?e4 hoI hoff2 rfl rfl hgb hTab hi' hil hok hd1 ?c2 ?c3 hd4
              case e3 => omega
              case e4 => simp only [*]
              case c2 => assumption
              case c3 => assumption
        · refine Hold.mk ?_
          (with_reducible rename Fr _ _ _ _ => Fb)
          (with_reducible rename News _ _ _ _ => Nb)
          replace Nb := kst_newsOf Nb (fun p hp => .tail _ hp)
          with_unfolding_all refine' callD (put_bit_ok _ _ _ _ x d l t1 t2 tn vs k _ (laidRow its) (by omega) (by omega) (by omega) (by omega) hIA) B1 Fb X1 T1 rfl rfl Nb ?hsub ?kd ?ku ?_
          case hsub => exact buf_sub
          case kd => ktr_room
          case ku => ktr_units
          rintro r own6 h6 tk6 F6 N6' G6 ⟨rfl, tn', vs', k', rfl, hi'⟩
          have N6 := law_buf n1 n2 n3 n4 n5 n6 hoff2 Nb N6' G6
          clear N6' G6 Nb Fb
          dsimp only [lawAll] at N6
          k_steps
          refine Hold.mk ?_
          (with_reducible rename News _ _ _ _ => Nc)
          simp only [List.push_toArray] at Nc
          refine' sub_last Nc ?lm ?lz ?_
          case lm => k_mem
          case lz => omega
          k_steps
          · (rename (@Ne Int _ _) => hne)
            exact absurd (by rw [List.length_append]; rfl) hne
          · (with_reducible rename Fr _ _ _ _ => Fe)
            (with_reducible rename News _ _ _ _ => Ne)
            with_unfolding_all refine' law_end_bits (own := own) [_] n1 n2 n3 n4 n5 n6 Fe Ne hown hts rfl (by show 1 ≤ 20; omega) rfl (new_off n1 n2 n3 n4 n5 n6 ?e1) (fun p hp => Nat.ne_of_lt (allLt_mem ?e2 p hp)) ?e3 ?e4 hoI hoff2 rfl rfl hgb hTab hi' hil hok hd1 ?c2 hd3 hd4
            case e1 => omega
            case e2 => simp only [*]
            case e3 => omega
            case e4 => simp only [*]
            case c2 => assumption
        · refine Hold.mk ?_
          (with_reducible rename Fr _ _ _ _ => Fb)
          (with_reducible rename News _ _ _ _ => Nb)
          replace Nb := kst_newsOf Nb (fun p hp => .tail _ hp)
          with_unfolding_all refine' callD (made_ok _ _ _ _ _ _) B1 Fb X1 T1 rfl rfl Nb (fun _ h => nomatch h) ?kd ?ku ?_
          case kd => ktr_room
          case ku => ktr_units
          rintro r own6 h6 tk6 F6 N6' G6 ⟨D2, vw, o, tb, rfl, rfl, hw, ho0, ho50⟩
          have N6 := news_own1 Nb N6' G6
          clear N6' G6 Nb Fb
          k_steps
          refine Hold.mk ?_
          (with_reducible rename Fr _ _ _ _ => Fb)
          (with_reducible rename News _ _ _ _ => Nb)
          replace Nb := kst_newsOf Nb (fun p hp => .tail _ hp)
          with_unfolding_all refine' callD (least_ok _ _ _ _ o _ (by omega) ho0) B1 Fb X1 T1 rfl rfl Nb (fun _ h => nomatch h) ?kd ?ku ?_
          case kd => ktr_room
          case ku => ktr_units
          rintro r own6 h6 tk6 F6 N6' G6 ⟨⟨t6, rfl⟩, rfl⟩
          have N6 := news_kept Nb G6 (fun _ _ h => nomatch h)
          clear N6' G6 Nb Fb
          have hMA : HoldA := ⟨⟩
          k_steps
          refine Hold.mk ?_
          (rename HoldA => hMA)
          clear hMA
          (with_reducible rename Fr _ _ _ _ => Fb)
          (with_reducible rename News _ _ _ _ => Nb)
          replace Nb := kst_newsOf Nb (fun p hp => .tail _ (.tail _ (.tail _ hp)))
          replace Fb := fr_mode (b := modeOf ((nb.fdiv 4).fmod 4) (((nb.fdiv 4).fdiv 4).fmod 8)) Fb rfl
          obtain ⟨o2n, hd2n, Nb2⟩ := law_o2 Nb (by assumption)
          clear Nb
          dsimp only [lawAll] at Nb2
          have r0 : 0 ≤ (nb.fdiv 4).fmod 4 := fmod_lo _ (by decide)
          have r4 : (nb.fdiv 4).fmod 4 < 4 := fmod_hi _ (by decide)
          have q0 : 0 ≤ ((nb.fdiv 4).fdiv 4).fmod 8 := fmod_lo _ (by decide)
          have q8 : ((nb.fdiv 4).fdiv 4).fmod 8 < 8 := fmod_hi _ (by decide)
          with_unfolding_all refine' cut_due (dueOf ((nb.fdiv 4).fmod 4) (modeOf ((nb.fdiv 4).fmod 4) (((nb.fdiv 4).fdiv 4).fmod 8)) (leastMode o)) Fb Nb2 ?_ ?_
          · k_steps
            all_goals (with_reducible rename Fr _ _ _ _ => Fe)
            all_goals (with_reducible rename News _ _ _ _ => Ne)
            · exact mid_due Fe Ne (due1 (by assumption))
            · exact mid_due Fe Ne (due2 (by assumption) (by assumption))
            · exact mid_due Fe Ne (due3 (by assumption) (by assumption))
          · intro h8 tk8 t8 F8 N8
            clear Fb Nb2
            have hMB : HoldB := ⟨⟩
            dsimp only
            k_steps
            refine Hold.mk ?_
            (rename HoldB => hMB)
            clear hMB
            (with_reducible rename Fr _ _ _ _ => F9)
            (with_reducible rename News _ _ _ _ => N9)
            with_unfolding_all refine' cut_part o tb la ((laidRow its).length : Int) tl (fun w ob => lawAll _ x d l la D6 ob o4 o3 o2n o1 (instObj 122 d) (bufDict w t1 t2 l ((laidRow its).length : Int) tn) (listOf vs.toArray k) (listOf ts.toArray nl) (listOf _ 0) own) F9 N9 ?_ ?_
            · k_steps
              · refine Hold.mk ?_
                (with_reducible rename Fr _ _ _ _ => Fa)
                (with_reducible rename News _ _ _ _ => Na)
                with_unfolding_all refine' (refused_any _ _ _ _ vw o ob ((nb.fdiv 4).fmod 4) (((nb.fdiv 4).fdiv 4).fmod 8) _ hw hTab (by omega) r0 r4 q0 q8) _ _ _ _ _ _ _ _ _ _ _ ⟨B1, Fa, X1, T1, rfl, rfl⟩ ?N24 hgb ?kd ?ku ?_
                case N24 => exact kst_newsOf Na (fun p hp => by rw [List.mem_singleton.mp hp]; exact .head _)
                case kd => ktr_room
                case ku => ktr_units
                rintro r own' h3 g3 tk3 F3 N3' G3 hg3 ⟨⟨t3, rfl⟩, ob3, rfl, ht3⟩
                have N3 := law_keep Na G3 rfl n1 n2 n3 n4 n5 n6 hoff2 N3'
                clear N3' Na Fa G3
                dsimp only [lawAll] at N3
                k_steps
                · (rename ((_ != _) = true) => hb9)
                  exact (str_bne hb9).elim
                · refine Hold.mk ?_
                  (with_reducible rename Fr _ _ _ _ => Fb)
                  (with_reducible rename News _ _ _ _ => Nb)
                  with_unfolding_all refine' callG (new_plain _ _ _ _ vw o ob3 hw ht3 (by omega)) B1 Fb X1 T1 rfl rfl Nb hg3 ?hs ?kd ?ku ?_
                  case hs => intro p hp; rw [List.mem_singleton.mp hp]; exact .head _
                  case kd => ktr_room
                  case ku => ktr_units
                  rintro r own' h4 g4 tk4 F4 N4' G4 hg4 ⟨p, pd, tp1, tp2, tmm, tbb, ob4, rfl, rfl, ht4, hlt, h24⟩
                  have N4 := law_new Nb N4' G4 n1 n2 n3 n4 n5 n6 hoff2
                  clear N4' Nb Fb G4
                  dsimp only [lawAll] at N4
                  k_steps
                  (with_reducible rename Fr _ _ _ _ => Fe)
                  (with_reducible rename News _ _ _ _ => Ne)
                  with_unfolding_all exact mid_part Fe (kst_newsOf Ne (fun p hp => .tail _ hp)) rfl rfl rfl rfl rfl hg4 ht4 (least_is o) (Int.le_refl _)
              · refine Hold.mk ?_
                (with_reducible rename Fr _ _ _ _ => Fa)
                (with_reducible rename News _ _ _ _ => Na)
                with_unfolding_all refine' (refused_any _ _ _ _ vw o ob ((nb.fdiv 4).fmod 4) (((nb.fdiv 4).fdiv 4).fmod 8) _ hw hTab (by omega) r0 r4 q0 q8) _ _ _ _ _ _ _ _ _ _ _ ⟨B1, Fa, X1, T1, rfl, rfl⟩ ?N24 hgb ?kd ?ku ?_
                case N24 => exact kst_newsOf Na (fun p hp => by rw [List.mem_singleton.mp hp]; exact .head _)
                case kd => ktr_room
                case ku => ktr_units
                rintro r own' h3 g3 tk3 F3 N3' G3 hg3 ⟨⟨t3, rfl⟩, ob3, rfl, ht3⟩
                have N3 := law_keep Na G3 rfl n1 n2 n3 n4 n5 n6 hoff2 N3'
                clear N3' Na Fa G3
                dsimp only [lawAll] at N3
                k_steps
                · (rename ((_ != _) = true) => hb9)
                  exact (str_bne hb9).elim
                · refine Hold.mk ?_
                  (with_reducible rename Fr _ _ _ _ => Fb)
                  (with_reducible rename News _ _ _ _ => Nb)
                  with_unfolding_all refine' callG (new_plain _ _ _ _ vw o ob3 hw ht3 (by omega)) B1 Fb X1 T1 rfl rfl Nb hg3 ?hs ?kd ?ku ?_
                  case hs => intro p hp; rw [List.mem_singleton.mp hp]; exact .head _
                  case kd => ktr_room
                  case ku => ktr_units
                  rintro r own' h4 g4 tk4 F4 N4' G4 hg4 ⟨p, pd, tp1, tp2, tmm, tbb, ob4, rfl, rfl, ht4, hlt, h24⟩
                  have N4 := law_new Nb N4' G4 n1 n2 n3 n4 n5 n6 hoff2
                  clear N4' Nb Fb G4
                  dsimp only [lawAll] at N4
                  k_steps
                  (with_reducible rename Fr _ _ _ _ => Fe)
                  (with_reducible rename News _ _ _ _ => Ne)
                  with_unfolding_all exact mid_part Fe (kst_newsOf Ne (fun p hp => .tail _ hp)) rfl rfl rfl rfl rfl hg4 ht4 (least_is o) (Int.le_refl _)
              · refine Hold.mk ?_
                (rename ((_ != _) = false) => hb9)
                obtain ⟨hr3, hle⟩ := due_taken hb9
                (with_reducible rename Fr _ _ _ _ => Fb)
                (with_reducible rename News _ _ _ _ => Nb)
                with_unfolding_all refine' callG (new_mode1 _ _ _ _ vw o ob _ _ hw hTab (by omega) (modeOf_low r0 r4 hr3) hle) B1 Fb X1 T1 rfl rfl Nb hgb ?hs ?kd ?ku ?_
                case hs => intro p hp; rw [List.mem_singleton.mp hp]; exact .head _
                case kd => ktr_room
                case ku => ktr_units
                rintro r own' h4 g4 tk4 F4 N4' G4 hg4 ⟨p, pd, tp1, tp2, tmm, tbb, ob4, rfl, rfl, ht4, hlt, h24⟩
                have N4 := law_new Nb N4' G4 n1 n2 n3 n4 n5 n6 hoff2
                clear N4' Nb Fb G4
                dsimp only [lawAll] at N4
                k_steps
                (with_reducible rename Fr _ _ _ _ => Fe)
                (with_reducible rename News _ _ _ _ => Ne)
                with_unfolding_all exact mid_part Fe Ne rfl rfl rfl rfl rfl hg4 ht4 (modeOf_low r0 r4 hr3) hle
            · intro h10 tk10 gs10 m10 p pd tp1 tp2 md tm tm' tb' ob10 F10 N10 hk10 hgb10 ht10 hm10 hl10
              clear F9 N9
              have F11 := fr_ps0 hk10 F10
              dsimp only [kstB] at F11
              clear F10 hk10
              dsimp only [lawAll] at N10
              dsimp only
              k_steps
              refine Hold.mk ?_
              (with_reducible rename Fr _ _ _ _ => Fb)
              (with_reducible rename News _ _ _ _ => Nb)
              obtain ⟨⟨a1, a2, a3⟩, a4, a5, a6⟩ := law_pne Nb
              with_unfolding_all refine' callD (write_any _ _ _ _ p pd x d l md tp1 tp2 t1 t2 tm tb' o tb (laidRow its) tn vs k (by omega) (by omega) (by omega) a1 a2 a3 a4 a5 a6 (by omega) (by omega) hm10 hl10 hIA) B1 Fb X1 T1 rfl rfl Nb ?hs ?kd ?ku ?_
              case hs => exact wr_sub
              case kd => ktr_room
              case ku => ktr_units
              rintro r own6 h12 tk12 F12 N12' G12 ⟨rfl, tn', vs', k', rfl, hi'⟩
              have N12 := law_write Nb N12' G12 n1 n2 n3 n4 n5 n6 hoff2
              clear N12' G12 Nb Fb
              dsimp only [lawAll] at N12
              have hMC : HoldC := ⟨⟩
              k_steps
              refine Hold.mk ?_
              (rename HoldC => hMC)
              clear hMC
              (with_reducible rename News _ _ _ _ => Nc)
              with_unfolding_all refine' ne_partN Nc ?m1 ?m2 ?ku ?_
              case m1 => k_mem
              case m2 => k_mem
              case ku => ktr_units
              k_steps
              refine Hold.mk ?_
              (with_reducible rename Fr _ _ _ _ => Fb)
              (with_reducible rename News _ _ _ _ => Nb)
              replace Nb := kst_newsOf Nb (fun p hp => .tail _ (.tail _ (.tail _ (.tail _ hp))))
              with_unfolding_all refine' callD (size_ok _ _ _ _ md o.size _ _ hm10 (by omega)) B1 Fb X1 T1 rfl rfl Nb (fun _ h => nomatch h) ?kd ?ku ?_
              case kd => ktr_room
              case ku => ktr_units
              rintro r own6 h13 tk13 F13 N13' G13 ⟨⟨t13, rfl⟩, rfl⟩
              have N13 := news_kept Nb G13 (fun _ _ h => nomatch h)
              clear N13' G13 Nb Fb
              rw [part_size (t := tb) hm10]
              have hrl := row_le (part_ok (t := tb) ho0 ho50 hm10 hl10)
              k_steps
              refine Hold.mk ?_
              (with_reducible rename News _ _ _ _ => Nc)
              simp only [List.push_toArray] at Nc
              refine' sub_last Nc ?lm ?lz ?_
              case lm => k_mem
              case lz => omega
              k_steps
              · (rename (@Ne Int _ _) => hne)
                exact absurd (by rw [List.length_append]; push_cast; rfl) hne
              · (with_reducible rename Fr _ _ _ _ => Fe)
                (with_reducible rename News _ _ _ _ => Ne)
                with_unfolding_all refine' law_end_part (own := own) (md := md) (o := o) (tb := tb) n1 n2 n3 n4 n5 n6 Fe Ne hown hts rfl rfl ?e3 ?e4 hoI hoff2 rfl rfl hgb10 ht10 hi' hil hok (part_ok ho0 ho50 hm10 hl10) hd1 hd2n hd3 hd4
                case e3 => omega
                case e4 => simp only [*]))

end
end Mine
set_option maxRecDepth 100000 in
set_option maxHeartbeats 8000000 in
theorem PySem.Challenge.cw_bm0033_01_holds : PySem.Challenge.rw_bm0033_01.Holds := by
  exact Mine.law_all
