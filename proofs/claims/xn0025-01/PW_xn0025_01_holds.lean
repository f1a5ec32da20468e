import PyProof.Rows.All
import Wide.All
import OpenK.AllK
import Wide.FinOn
import KE.KTops
import PySem.Challenge.RW_xn0025_01
open PySem PySem.W PyProof.Rows
set_option Elab.async false
set_option maxRecDepth 100000
set_option maxHeartbeats 8000000
noncomputable def Mine.hd.tw1454741379415896090 : Unit := ()
noncomputable def Mine.hd.tw14338351519572215450 : Unit := ()
set_option Elab.async true in
theorem Mine.hd (p : Prop) (hp : p) (q : PySem.Challenge.rw_xn0025_01.Holds → (p ↔ True)) : True ∧ p := by
  simp (disch := (w_on; o_law; k_head; (case hw => w_witness2))) only [q, true_and]
  exact hp
namespace Mine
section
local macro_rules | `(tactic| walk_at $s:str) => `(tactic| k_extra $s)
local macro_rules | `(tactic| k_mem) => `(tactic| k_extra "mine mem")
local macro_rules | `(tactic| k_lt $h:ident) => `(tactic| skip)
local macro_rules | `(tactic| k_fmods) => `(tactic| skip)
local macro_rules | `(tactic| k_ne) => `(tactic| k_extra "mine ne")
local macro_rules | `(tactic| size_fits) => `(tactic| k_extra "mine size")
local macro_rules | `(tactic| k_all) => `(tactic| k_extra "mine all")
local macro_rules | `(tactic| ktr_room) => `(tactic| k_extra "mine room")
local macro_rules | `(tactic| ktr_units) => `(tactic| k_extra "mine room")
/-! plain data -/
inductive Op where
  | amp | bar | hat | eqq | lt | gt | le | ge
  deriving DecidableEq
noncomputable def Op.sym : Op → PySem.Str
  | .amp => PySem.Str.ofString "&" | .bar => PySem.Str.ofString "|" | .hat => PySem.Str.ofString "^" | .eqq => PySem.Str.ofString "=="
  | .lt => PySem.Str.ofString "<" | .gt => PySem.Str.ofString ">" | .le => PySem.Str.ofString "<=" | .ge => PySem.Str.ofString ">="
noncomputable def Op.num : Op → Int
  | .amp => 19 | .bar => 18 | .hat => 32 | .eqq => 27 | .lt => 20 | .gt => 21 | .le => 29 | .ge => 30
noncomputable def Op.bv {n : Nat} (o : Op) (a b : BitVec n) : BitVec n := match o with
  | .amp => a &&& b | .bar => a ||| b | .hat => a ^^^ b | .eqq => ~~~(a ^^^ b)
  | .lt => b &&& ~~~a | .gt => a &&& ~~~b | .le => ~~~a ||| b | .ge => ~~~b ||| a
inductive Fm where
  | lf (nm : Nat) (neg : Bool)
  | bn (op : Op) (l r : Fm)
noncomputable def pick {α : Type} (l : List α) (d : α) (i : Nat) : α := l.getD i d
noncomputable def leafTxt : Nat → PySem.Str := pick [PySem.Str.ofString "{a}x", PySem.Str.ofString "{c}x", PySem.Str.ofString "{c}y", PySem.Str.ofString "{b}x"] PySem.Str.empty
noncomputable def leafCol : Nat → BitVec 16 := pick [43690#16, 52428#16, 61680#16, 65280#16] 0#16
noncomputable def iv {n : Nat} (b : BitVec n) : Int := (b.toNat : Int)
noncomputable def Fm.txt : Fm → PySem.Str
  | .lf nm neg => if neg then PySem.Str.ofString "~" ++ leafTxt nm else leafTxt nm
  | .bn op l r => PySem.Str.ofString "(" ++ l.txt ++ op.sym ++ r.txt ++ PySem.Str.ofString ")"
noncomputable def Fm.row : Fm → List Int
  | .lf nm neg => if neg then [31, 256 + (nm : Int)] else [256 + (nm : Int)]
  | .bn op l r => [7] ++ l.row ++ [op.num] ++ r.row ++ [8]
noncomputable def Fm.bits : Fm → BitVec 16
  | .lf nm neg => if neg then ~~~ leafCol nm else leafCol nm
  | .bn op l r => op.bv l.bits r.bits
noncomputable def Op.pol (o : Op) (la ld ra rd : BitVec 4) : BitVec 4 × BitVec 4 := match o with
  | .amp | .bar => (la ||| ra, ld ||| rd)
  | .lt | .le => (ld ||| ra, la ||| rd)
  | .gt | .ge => (la ||| rd, ld ||| ra)
  | .hat | .eqq => ((la ||| ra) ||| (ld ||| rd), (la ||| ra) ||| (ld ||| rd))
/-- affirmed, denied -/
noncomputable def Fm.pol : Fm → BitVec 4 × BitVec 4
  | .lf nm neg => if neg then (0#4, 1#4 <<< nm) else (1#4 <<< nm, 0#4)
  | .bn op l r => op.pol l.pol.1 l.pol.2 r.pol.1 r.pol.2
noncomputable def Fm.leaves : Fm → Nat
  | .lf _ _ => 1
  | .bn _ l r => l.leaves + r.leaves
noncomputable def Fm.names (P : Nat → Prop) : Fm → Prop
  | .lf nm _ => P nm
  | .bn _ l r => l.names P ∧ r.names P

/-! contracts -/
noncomputable def Ctr (w : World) (f : Addr) (news : List (Addr × Obj)) (vs : List Value) (dd uu : Nat) (Post : Value → List (Addr × Obj) → Prop) : Prop :=
  ∀ (mean : ExcName → Option Value) (mg mb : Str → Option Value) (dp un : Nat) (gd : Option (List Code)) (cn : Str) (cs : Scope) (a : Addr) (ccd : Value) (cl : List (Str × Addr)) (outer : List Env) (A₀ : Around) (base h₀ : Heap) (L : Addr) (m : Str → Option Value) (s : Shared) (Q E : Value → Shared → Prop),
    Below A₀ base outer h₀ → Fr h₀ L s.heap m → (Mine.hd.heap_1_39 w.params).In h₀ → News h₀ L s.heap news → Top Mine.hd.view_1_40 (looseW Mine.hd.view_1_40 [Str.ofString "EXACT_TOKEN_TYPES"]) mean mg mb h₀ → cs.kind = .function →
    dp + dd < recursionLimit → un + uu < cLine →
    (∀ r tl h' tk', Fr h₀ L h' m → News h₀ L h' (tl ++ news) → (∀ p ∈ tl, ∀ q ∈ news, q.1 < p.1) → Post r tl → Q r { s with heap := h', toks := tk' }) →
    wpAny (model PySem.Challenge.rw_xn0025_01.row.prog w) (ktrTop dp un gd cn cs L a ccd cl outer) (call (.ref f) vs) Q E s
theorem Ctr.mono {w : World} {f : Addr} {news : List (Addr × Obj)} {vs : List Value} {dd uu dd' uu' : Nat} {P P' : Value → List (Addr × Obj) → Prop} (c : Ctr w f news vs dd uu P) (hd : dd ≤ dd') (hu : uu ≤ uu') (h : ∀ r tl, P r tl → P' r tl) : Ctr w f news vs dd' uu' P' := by
  intro mean mg mb dp un gd cn cs a ccd cl outer A₀ base h₀ L m s Q E B F X N T hk hd' hu' hret
  exact c mean mg mb dp un gd cn cs a ccd cl outer A₀ base h₀ L m s Q E B F X N T hk (by omega) (by omega) fun r tl h' tk' F' N' o p => hret r tl h' tk' F' N' o (h r tl p)
theorem Ctr.use {w : World} {f : Addr} {news : List (Addr × Obj)} {vs : List Value} {dd uu : Nat} {Post : Value → List (Addr × Obj) → Prop} (c : Ctr w f news vs dd uu Post)
    {mean : ExcName → Option Value} {mg mb : Str → Option Value} {dp un : Nat} {gd : Option (List Code)} {cn : Str} {cs : Scope} {a : Addr} {ccd : Value} {cl : List (Str × Addr)} {outer : List Env} {A₀ : Around} {base h₀ : Heap} {L : Addr} {m : Str → Option Value} {s : Shared} {Q E : Value → Shared → Prop}
    (B : Below A₀ base outer h₀) (F : Fr h₀ L s.heap m) (X : (Mine.hd.heap_1_39 w.params).In h₀) (N : News h₀ L s.heap news) (T : Top Mine.hd.view_1_40 (looseW Mine.hd.view_1_40 [Str.ofString "EXACT_TOKEN_TYPES"]) mean mg mb h₀) (hk : cs.kind = .function)
    (hd : dp + dd < recursionLimit) (hu : un + uu < cLine)
    (ret : ∀ r tl h' tk', Fr h₀ L h' m → News h₀ L h' (tl ++ news) → (∀ p ∈ tl, ∀ q ∈ news, q.1 < p.1) → Post r tl → Q r { s with heap := h', toks := tk' }) :
    wpAny (model PySem.Challenge.rw_xn0025_01.row.prog w) (ktrTop dp un gd cn cs L a ccd cl outer) (call (.ref f) vs) Q E s :=
  c mean mg mb dp un gd cn cs a ccd cl outer A₀ base h₀ L m s Q E B F X N T hk hd hu ret
theorem Ctr.use_t {w : World} {f : Addr} {news : List (Addr × Obj)} {vs : List Value} {dd uu : Nat} {v : Tok → Value} (c : Ctr w f news vs dd uu (fun r tl => (∃ t, r = v t) ∧ tl = []))
    {mean : ExcName → Option Value} {mg mb : Str → Option Value} {dp un : Nat} {gd : Option (List Code)} {cn : Str} {cs : Scope} {a : Addr} {ccd : Value} {cl : List (Str × Addr)} {outer : List Env} {A₀ : Around} {base h₀ : Heap} {L : Addr} {m : Str → Option Value} {s : Shared} {Q E : Value → Shared → Prop}
    (B : Below A₀ base outer h₀) (F : Fr h₀ L s.heap m) (X : (Mine.hd.heap_1_39 w.params).In h₀) (N : News h₀ L s.heap news) (T : Top Mine.hd.view_1_40 (looseW Mine.hd.view_1_40 [Str.ofString "EXACT_TOKEN_TYPES"]) mean mg mb h₀) (hk : cs.kind = .function)
    (hd : dp + dd < recursionLimit) (hu : un + uu < cLine)
    (ret : ∀ t h' tk', Fr h₀ L h' m → News h₀ L h' news → Q (v t) { s with heap := h', toks := tk' }) :
    wpAny (model PySem.Challenge.rw_xn0025_01.row.prog w) (ktrTop dp un gd cn cs L a ccd cl outer) (call (.ref f) vs) Q E s :=
  Ctr.use c B F X N T hk hd hu fun r tl h' tk' F' N' _ ⟨⟨t, e⟩, e'⟩ => by subst e e'; exact ret t h' tk' F' N'
theorem Ctr.use_v {w : World} {f : Addr} {news : List (Addr × Obj)} {vs : List Value} {dd uu : Nat} {v : Value} (c : Ctr w f news vs dd uu (fun r tl => r = v ∧ tl = []))
    {mean : ExcName → Option Value} {mg mb : Str → Option Value} {dp un : Nat} {gd : Option (List Code)} {cn : Str} {cs : Scope} {a : Addr} {ccd : Value} {cl : List (Str × Addr)} {outer : List Env} {A₀ : Around} {base h₀ : Heap} {L : Addr} {m : Str → Option Value} {s : Shared} {Q E : Value → Shared → Prop}
    (B : Below A₀ base outer h₀) (F : Fr h₀ L s.heap m) (X : (Mine.hd.heap_1_39 w.params).In h₀) (N : News h₀ L s.heap news) (T : Top Mine.hd.view_1_40 (looseW Mine.hd.view_1_40 [Str.ofString "EXACT_TOKEN_TYPES"]) mean mg mb h₀) (hk : cs.kind = .function)
    (hd : dp + dd < recursionLimit) (hu : un + uu < cLine)
    (ret : ∀ h' tk', Fr h₀ L h' m → News h₀ L h' news → Q v { s with heap := h', toks := tk' }) :
    wpAny (model PySem.Challenge.rw_xn0025_01.row.prog w) (ktrTop dp un gd cn cs L a ccd cl outer) (call (.ref f) vs) Q E s :=
  Ctr.use c B F X N T hk hd hu fun r tl h' tk' F' N' _ ⟨e, e'⟩ => by subst e e'; exact ret h' tk' F' N'
theorem Ctr.use_x {w : World} {f : Addr} {news : List (Addr × Obj)} {vs : List Value} {dd uu : Nat} {v : Tok → Value} (c : Ctr w f news vs dd uu (fun r tl => ∃ t, r = v t ∧ tl = []))
    {mean : ExcName → Option Value} {mg mb : Str → Option Value} {dp un : Nat} {gd : Option (List Code)} {cn : Str} {cs : Scope} {a : Addr} {ccd : Value} {cl : List (Str × Addr)} {outer : List Env} {A₀ : Around} {base h₀ : Heap} {L : Addr} {m : Str → Option Value} {s : Shared} {Q E : Value → Shared → Prop}
    (B : Below A₀ base outer h₀) (F : Fr h₀ L s.heap m) (X : (Mine.hd.heap_1_39 w.params).In h₀) (N : News h₀ L s.heap news) (T : Top Mine.hd.view_1_40 (looseW Mine.hd.view_1_40 [Str.ofString "EXACT_TOKEN_TYPES"]) mean mg mb h₀) (hk : cs.kind = .function)
    (hd : dp + dd < recursionLimit) (hu : un + uu < cLine)
    (ret : ∀ t h' tk', Fr h₀ L h' m → News h₀ L h' news → Q (v t) { s with heap := h', toks := tk' }) :
    wpAny (model PySem.Challenge.rw_xn0025_01.row.prog w) (ktrTop dp un gd cn cs L a ccd cl outer) (call (.ref f) vs) Q E s :=
  Ctr.use c B F X N T hk hd hu fun r tl h' tk' F' N' _ ⟨t, e, e'⟩ => by subst e e'; exact ret t h' tk' F' N'
noncomputable abbrev tup (vs : List Value) (n : Nat) : Obj := { cls := .type "tuple", data := .seq vs.toArray n }
/-- what stands for a formula: its tuple and its row -/
inductive FmAt (f : Fm) (v : Value) (news : List (Addr × Obj)) : Prop where
  | mk  (t r : Addr) (k0 k1 k2 k3 : Tok) (vs : List Value) (n e : Nat) (hF0 : v = .ref t) (hF1 : IntsAre vs f.row) (hF2 : (t, tup [.str f.txt k0, .ref r, .int (iv f.bits) k1, .int (iv f.pol.1) k2, .int (iv f.pol.2) k3] n) ∈ news) (hF3 : (r, W.listOf vs.toArray e) ∈ news) : FmAt f v news
inductive FmP (f : Fm) (v : Value) (tl : List (Addr × Obj)) : Prop where
  | mk  (t r : Addr) (k0 k1 k2 k3 : Tok) (vs : List Value) (n e : Nat) (hF0 : v = .ref t) (hF1 : IntsAre vs f.row) (hF2 : tl = [(t, tup [.str f.txt k0, .ref r, .int (iv f.bits) k1, .int (iv f.pol.1) k2, .int (iv f.pol.2) k3] n), (r, W.listOf vs.toArray e)]) : FmP f v tl
theorem rm0 {n b R : Nat} (h : n + b < R) : n < R := Nat.lt_of_le_of_lt (Nat.le_add_right n b) h
theorem rm1 {n i b R : Nat} (h : n + b < R) (k : Nat.ble i b = true) : n + i < R := Nat.lt_of_le_of_lt (Nat.add_le_add_left (Nat.le_of_ble_eq_true k) n) h
theorem rm2 {n i j b R : Nat} (h : n + b < R) (k : Nat.ble (i + j) b = true) : n + i + j < R := Nat.add_assoc n i j ▸ rm1 h k
theorem lt_up0 {a : Nat} : a < a + 1 := Nat.lt_succ_self a
theorem lt_up {a b : Nat} (h : a < b) : a < b + 1 := Nat.lt_succ_of_lt h
theorem ne_gt {a x : Nat} (h : a < x) : x ≠ a := Nat.ne_of_gt h
theorem ne_lt {a x : Nat} (h : a < x) : a ≠ x := Nat.ne_of_lt h
theorem ne_far {a b x : Nat} (h : b < x) (k : a < b) : x ≠ a := Nat.ne_of_gt (Nat.lt_trans k h)
theorem ne_far' {a b x : Nat} (h : b < x) (k : a < b) : a ≠ x := Nat.ne_of_lt (Nat.lt_trans k h)
theorem le_one {n : Nat} : 1 ≤ n + 1 := Nat.le_add_left 1 n
theorem le_chain {a b k : Nat} (h : a ≤ b) (g : k ≤ a) : k ≤ b := Nat.le_trans g h
theorem le_up {a b k : Nat} (g : k ≤ a) : k ≤ a + b := Nat.le_trans g (Nat.le_add_right a b)
theorem pos_of {n : Nat} (h : 1 ≤ n) : 0 < n := h
theorem add_cast {p a : Int} {k : Nat} (h : a = (k : Int)) : p + a = p + (k : Int) := by rw [h]
theorem le_lit {n a b : Nat} (h : n ≤ a) (k : Nat.ble a b = true) : n ≤ b := Nat.le_trans h (Nat.le_of_ble_eq_true k)
theorem lt_lit {n a b : Nat} (h : n ≤ a) (k : Nat.blt a b = true) : n < b := Nat.lt_of_le_of_lt h (Nat.le_of_ble_eq_true k)
theorem lit_lt {n a b : Nat} (h : b ≤ n) (k : Nat.blt a b = true) : a < n := Nat.lt_of_lt_of_le (Nat.le_of_ble_eq_true k) h
theorem sz_arr {vs : List Value} {n : Nat} (h : vs.length ≤ n) (k : Nat.ble n 16777216 = true) : vs.toArray.size ≤ sizeLine := by rw [List.size_toArray, sizeLine_eq]; exact le_lit h k
theorem sz_line {a n : Nat} (h : a ≤ n) (k : Nat.ble n 16777216 = true) : a ≤ sizeLine := by rw [sizeLine_eq]; exact le_lit h k
theorem lt_all {nw : List (Addr × Obj)} {a d : Addr} {o : Obj} (h : ∀ p ∈ nw, p.1 < d) (m : List.Mem (a, o) nw) : @LT.lt Nat _ a d := h _ m
theorem ne_all {nw : List (Addr × Obj)} {a d : Addr} {o : Obj} (h : ∀ p ∈ nw, p.1 < d) (m : List.Mem (a, o) nw) : @Ne Nat a d := Nat.ne_of_lt (h _ m)
theorem ne_all' {nw : List (Addr × Obj)} {a d : Addr} {o : Obj} (h : ∀ p ∈ nw, p.1 < d) (m : List.Mem (a, o) nw) : @Ne Nat d a := Nat.ne_of_gt (h _ m)
theorem all_ne {nw L : List (Addr × Obj)} {d : Addr} (h : ∀ p ∈ nw, p.1 < d) (s : ∀ x ∈ L, x ∈ nw) : ∀ p ∈ L, p.1 ≠ d := fun p hp => Nat.ne_of_lt (h p (s p hp))
theorem ord_cons {a : Addr} {o : Obj} {tl news : List (Addr × Obj)} (h : AllLt a news) (k : ∀ p ∈ tl, ∀ q ∈ news, q.1 < p.1) : ∀ p ∈ (a, o) :: tl, ∀ q ∈ news, q.1 < p.1 := by
  intro p hp q hq
  rcases List.mem_cons.mp hp with rfl | hp
  · exact ktn_ltOf h q hq
  · exact k p hp q hq
theorem ord_nil {news : List (Addr × Obj)} : ∀ p ∈ ([] : List (Addr × Obj)), ∀ q ∈ news, q.1 < p.1 := fun _ h => nomatch h
theorem lt_last {d : Addr} : ∀ {tl news : List (Addr × Obj)}, AllLt d (tl ++ news) → AllLt d news
  | [], _, h => h
  | _ :: _, _, h => lt_last h.2

section
variable {h₀ : Heap} {L : Addr} {m : Str → Option Value} {news : List (Addr × Obj)} {s : Shared} {Q : Value → Shared → Prop} {Post : Value → List (Addr × Obj) → Prop} {h' : Heap} {tk' : Nat} {r : Value} {p q : Addr × Obj} {rest : List (Addr × Obj)}
theorem ret0 (hret : ∀ r tl h' tk', Fr h₀ L h' m → News h₀ L h' (tl ++ news) → (∀ p ∈ tl, ∀ q ∈ news, q.1 < p.1) → Post r tl → Q r { s with heap := h', toks := tk' })
    (F : Fr h₀ L h' m) (N : News h₀ L h' rest) (hs : ∀ x ∈ news, x ∈ rest) (post : Post r []) : Q r { s with heap := h', toks := tk' } :=
  hret r [] h' tk' F (fun x hx => N x (hs x hx)) ord_nil post
theorem ret1 (hret : ∀ r tl h' tk', Fr h₀ L h' m → News h₀ L h' (tl ++ news) → (∀ p ∈ tl, ∀ q ∈ news, q.1 < p.1) → Post r tl → Q r { s with heap := h', toks := tk' })
    (F : Fr h₀ L h' m) (N : News h₀ L h' (p :: rest)) (hs : ∀ x ∈ news, x ∈ rest) (hp : AllLt p.1 news) (post : Post r [p]) : Q r { s with heap := h', toks := tk' } :=
  hret r [p] h' tk' F (fun x hx => by
    rcases List.mem_cons.mp hx with rfl | hx
    · exact N _ (.head _)
    · exact N _ (.tail _ (hs _ hx))) (ord_cons hp ord_nil) post
theorem ret2 (hret : ∀ r tl h' tk', Fr h₀ L h' m → News h₀ L h' (tl ++ news) → (∀ p ∈ tl, ∀ q ∈ news, q.1 < p.1) → Post r tl → Q r { s with heap := h', toks := tk' })
    (F : Fr h₀ L h' m) (N : News h₀ L h' (p :: q :: rest)) (hs : ∀ x ∈ news, x ∈ rest) (hp : AllLt p.1 news) (hq : AllLt q.1 news) (post : Post r [p, q]) : Q r { s with heap := h', toks := tk' } :=
  hret r [p, q] h' tk' F (fun x hx => by
    rcases List.mem_cons.mp hx with rfl | hx
    · exact N _ (.head _)
    · rcases List.mem_cons.mp hx with rfl | hx
      · exact N _ (.tail _ (.head _))
      · exact N _ (.tail _ (.tail _ (hs _ hx)))) (ord_cons hp (ord_cons hq ord_nil)) post
end
theorem FmP.of {f : Fm} {t r : Addr} {x : PySem.Str} {b c d : Int} {k0 k1 k2 k3 : Tok} {vs : List Value} {n e : Nat} (hv : IntsAre vs f.row) (hx : x = f.txt) (hb : b = iv f.bits) (hc : c = iv f.pol.1) (hd : d = iv f.pol.2) :
    FmP f (.ref t) [(t, tup [.str x k0, .ref r, .int b k1, .int c k2, .int d k3] n), (r, W.listOf vs.toArray e)] := by
  subst hx hb hc hd
  exact ⟨_, _, _, _, _, _, _, _, _, rfl, hv, rfl⟩

theorem toks_gen {α : Type} {M : Model} {A : Around} {t : Sem α} {Q : α → Shared → Prop} {E : Value → Shared → Prop} {h : Heap} {g : Array GenState} {d : Drawn} {T : Nat} {o : OsState} (H : ∀ tk, wpAny M A t Q E ⟨h, g, d, tk, o⟩) : wpAny M A t Q E ⟨h, g, d, T, o⟩ := H T
theorem sub_nil {news : List (Addr × Obj)} : ∀ x ∈ news, x ∈ news := fun _ h => h
theorem sub_cons {p : Addr × Obj} {l news : List (Addr × Obj)} (h : ∀ x ∈ news, x ∈ l) : ∀ x ∈ news, x ∈ p :: l := fun x hx => .tail _ (h x hx)
theorem sub_app {a b : List (Addr × Obj)} : ∀ x ∈ a, x ∈ a ++ b := fun _ h => List.mem_append.mpr (.inl h)
theorem sub_app' {a b c : List (Addr × Obj)} (h : ∀ x ∈ c, x ∈ b) : ∀ x ∈ c, x ∈ a ++ b := fun x hx => List.mem_append.mpr (.inr (h x hx))
theorem lt_sub {d : Addr} {nw news : List (Addr × Obj)} (l : ∀ p ∈ nw, p.1 < d) (hs : ∀ x ∈ news, x ∈ nw) : AllLt d news := allLt_of fun p hp => l p (hs p hp)
theorem mem_appR {x : Addr × Obj} {a b : List (Addr × Obj)} (h : List.Mem x b) : List.Mem x (a ++ b) := List.mem_append.mpr (.inr h)
theorem mem_appL {x : Addr × Obj} {a b : List (Addr × Obj)} (h : List.Mem x a) : List.Mem x (a ++ b) := List.mem_append.mpr (.inl h)
theorem mem_here {a : Addr × Obj} {l : List (Addr × Obj)} (h : a ∈ l) : List.Mem a l := h
/-! rules -/
section
variable {prog : Program} {w : World} {A : Around} {E : Value → Shared → Prop} {s : Shared} {value slice : PySem.Expr} {l : Addr} {vs : List Value} {k : Int} {u : Tok} {Q : Value → Shared → Prop}
theorem tup_at (ht : IsTup s.heap l vs.toArray) (h0 : 0 ≤ k) (h1 : k < vs.length) (hfit : k < 2 ^ 63) (h : ∀ v, vs[k.toNat]? = some v → Q v s)
    (hs : subscripted slice false (.ref l) (.int k u) = operate [.ref l, .int k u] (getItem (.ref l) (.int k u)) := by with_unfolding_all rfl) :
    wpAny (model prog w) A (subscriptTail value slice (.ref l) (.int k u)) Q E s := by
  have hl : k.toNat < vs.length := by omega
  exact item_tupleT ht (by omega) hfit (StrLaws.seqIndex_nonneg h0 h1) (List.getElem?_eq_getElem hl) (h _ (List.getElem?_eq_getElem hl)) hs
theorem tup_str (f : Nat → PySem.Str) (ht : IsTup s.heap l vs.toArray) (hf : ∀ i, i < vs.length → ∃ t, vs[i]? = some (.str (f i) t)) (h0 : 0 ≤ k) (h1 : k < vs.length) (hfit : k < 2 ^ 63) (h : ∀ t, Q (.str (f k.toNat) t) s)
    (hs : subscripted slice false (.ref l) (.int k u) = operate [.ref l, .int k u] (getItem (.ref l) (.int k u)) := by with_unfolding_all rfl) :
    wpAny (model prog w) A (subscriptTail value slice (.ref l) (.int k u)) Q E s :=
  tup_at ht h0 h1 hfit (fun v hv => by
    obtain ⟨t, e⟩ := hf k.toNat (by omega)
    rw [e] at hv; cases hv; exact h t) hs
theorem tup_int (f : Nat → Int) (ht : IsTup s.heap l vs.toArray) (hf : ∀ i, i < vs.length → ∃ t, vs[i]? = some (.int (f i) t)) (h0 : 0 ≤ k) (h1 : k < vs.length) (hfit : k < 2 ^ 63) (h : ∀ t, Q (.int (f k.toNat) t) s)
    (hs : subscripted slice false (.ref l) (.int k u) = operate [.ref l, .int k u] (getItem (.ref l) (.int k u)) := by with_unfolding_all rfl) :
    wpAny (model prog w) A (subscriptTail value slice (.ref l) (.int k u)) Q E s :=
  tup_at ht h0 h1 hfit (fun v hv => by
    obtain ⟨t, e⟩ := hf k.toNat (by omega)
    rw [e] at hv; cases hv; exact h t) hs
theorem tup_lit {h₀ : Heap} {L : Addr} {nw : List (Addr × Obj)} {n : Nat} {v : Value} (N : News h₀ L s.heap nw) (hm : (l, tup vs n) ∈ nw) (h0 : decide (0 ≤ k ∧ k < 2 ^ 63) = true) (hx : vs[k.toNat]? = some v) (h : Q v s)
    (hs : subscripted slice false (.ref l) (.int k u) = operate [.ref l, .int k u] (getItem (.ref l) (.int k u)) := by with_unfolding_all rfl) :
    wpAny (model prog w) A (subscriptTail value slice (.ref l) (.int k u)) Q E s := by
  have h0' := of_decide_eq_true h0
  obtain ⟨hl, he⟩ := List.getElem?_eq_some_iff.mp hx
  exact tup_at (News.isTup N hm) h0'.1 (by omega) h0'.2 (fun v' hv' => by rw [hx] at hv'; cases hv'; exact h) hs
theorem tup_nat (f : Nat → Nat) (ht : IsTup s.heap l vs.toArray) (hf : ∀ i, i < vs.length → ∃ t, vs[i]? = some (.int (f i : Nat) t)) (h0 : 0 ≤ k) (h1 : k < vs.length) (hfit : k < 2 ^ 63) (h : ∀ r t, r = f k.toNat → Q (.int (r : Nat) t) s)
    (hs : subscripted slice false (.ref l) (.int k u) = operate [.ref l, .int k u] (getItem (.ref l) (.int k u)) := by with_unfolding_all rfl) :
    wpAny (model prog w) A (subscriptTail value slice (.ref l) (.int k u)) Q E s :=
  tup_at ht h0 h1 hfit (fun v hv => by
    obtain ⟨t, e⟩ := hf k.toNat (by omega)
    rw [e] at hv; cases hv; exact h _ t rfl) hs
theorem tup_strN {r : Nat} (f : Nat → PySem.Str) (ht : IsTup s.heap l vs.toArray) (hf : ∀ i, i < vs.length → ∃ t, vs[i]? = some (.str (f i) t)) (h1 : r < vs.length) (hfit : r < 2 ^ 63) (h : ∀ t, Q (.str (f r) t) s)
    (hs : subscripted slice false (.ref l) (.int (r : Int) u) = operate [.ref l, .int (r : Int) u] (getItem (.ref l) (.int (r : Int) u)) := by with_unfolding_all rfl) :
    wpAny (model prog w) A (subscriptTail value slice (.ref l) (.int (r : Int) u)) Q E s :=
  tup_str f ht hf (Int.natCast_nonneg _) (by omega) (by omega) (fun t => by rw [Int.toNat_natCast]; exact h t) hs
theorem tup_intN {r : Nat} (f : Nat → Int) (ht : IsTup s.heap l vs.toArray) (hf : ∀ i, i < vs.length → ∃ t, vs[i]? = some (.int (f i) t)) (h1 : r < vs.length) (hfit : r < 2 ^ 63) (h : ∀ t, Q (.int (f r) t) s)
    (hs : subscripted slice false (.ref l) (.int (r : Int) u) = operate [.ref l, .int (r : Int) u] (getItem (.ref l) (.int (r : Int) u)) := by with_unfolding_all rfl) :
    wpAny (model prog w) A (subscriptTail value slice (.ref l) (.int (r : Int) u)) Q E s :=
  tup_int f ht hf (Int.natCast_nonneg _) (by omega) (by omega) (fun t => by rw [Int.toNat_natCast]; exact h t) hs
end
section
variable {prog : Program} {w : World} {A : Around} {E : Value → Shared → Prop} {s : Shared} {h₀ : Heap} {L : Addr} {m : Str → Option Value} {news : List (Addr × Obj)}
theorem new_lst {vs : List Value} {Q : Value → Shared → Prop} (F : Fr h₀ L s.heap m) (N : News h₀ L s.heap news) (hz : Nat.ble vs.length 1000 = true)
    (h : ∀ d h', Fr h₀ L h' m → News h₀ L h' ((d, W.listOf vs.toArray 0) :: news) → (∀ p ∈ news, p.1 < d) → Q (.ref d) { s with heap := h' }) : wpAny (model prog w) A (newList vs) Q E s :=
  newList_N F N (fun h' F' N' => h _ h' F' N' fun p hp => Heap.lt_size (N p hp).1) (Nat.le_trans (Nat.le_of_ble_eq_true hz) (by decide))
theorem new_tup {vs : List Value} {Q : Value → Shared → Prop} (F : Fr h₀ L s.heap m) (N : News h₀ L s.heap news) (hz : Nat.ble vs.length 1000 = true)
    (h : ∀ d h', Fr h₀ L h' m → News h₀ L h' ((d, tup vs 0) :: news) → (∀ p ∈ news, p.1 < d) → Q (.ref d) { s with heap := h' }) : wpAny (model prog w) A (newTuple vs) Q E s :=
  newTuple_N F N (fun h' F' N' => h _ h' F' N' fun p hp => Heap.lt_size (N p hp).1) (Nat.le_trans (Nat.le_of_ble_eq_true hz) (by decide))
theorem add_lst {a b : Addr} {vs ws : List Value} {na nb : Nat} {Q : Value → Shared → Prop} (F : Fr h₀ L s.heap m) (N : News h₀ L s.heap news) (ha : (a, W.listOf vs.toArray na) ∈ news) (hb : (b, W.listOf ws.toArray nb) ∈ news) (hz : vs.length + ws.length ≤ sizeLine)
    (h : ∀ d h', Fr h₀ L h' m → News h₀ L h' ((d, W.listOf (vs ++ ws).toArray 0) :: news) → (∀ p ∈ news, p.1 < d) → Q (.ref d) { s with heap := h' }) : wpAny (model prog w) A (binaryOp .Add (.ref a) (.ref b)) Q E s :=
  add_lists F N (News.isList N ha) (News.isList N hb) (fun h' F' N' => h _ h' F' N' fun p hp => Heap.lt_size (N p hp).1) hz
end
section
variable {prog : Program} {w : World} {A : Around} {E : Value → Shared → Prop} {s : Shared} {value slice : PySem.Expr} {d : Addr} {D : List (PyData × PyData)} {i : Int} {t : Tok} {Q : Value → Shared → Prop}
theorem tab_str_int {x : PySem.Str} (T : StrTab prog w s.heap d D) (hl : Spec.lookup (.str x) D = some (.int i)) (h : ∀ t, Q (.int i t) { s with toks := s.toks + 1 })
    (hs : subscripted slice false (.ref d) (.str x t) = operate [.ref d, .str x t] (getItem (.ref d) (.str x t)) := by with_unfolding_all rfl) :
    wpAny (model prog w) A (subscriptTail value slice (.ref d) (.str x t)) Q E s :=
  item_tab_any PyProof.V.same_str (strKind_is prog w x t) T hl (fun v hv => by
    obtain ⟨t, rfl⟩ := PyProof.V.Flat.int_inv hv
    exact h t) hs
theorem tab_int_int {k : Int} (T : IntTab prog w s.heap d D) (hl : Spec.lookup (.int k) D = some (.int i)) (h : ∀ t, Q (.int i t) { s with toks := s.toks + 1 })
    (hs : subscripted slice false (.ref d) (.int k t) = operate [.ref d, .int k t] (getItem (.ref d) (.int k t)) := by with_unfolding_all rfl) :
    wpAny (model prog w) A (subscriptTail value slice (.ref d) (.int k t)) Q E s :=
  item_tab_any PyProof.V.same_int (intKind_is prog w k t) T hl (fun v hv => by
    obtain ⟨t, rfl⟩ := PyProof.V.Flat.int_inv hv
    exact h t) hs
end
theorem lt3 {P : Nat → Prop} (a : P 0) (b : P 1) (c : P 2) : ∀ i, i < 3 → P i := fun i h => by match i, h with | 0, _ => exact a | 1, _ => exact b | 2, _ => exact c
theorem lt4 {P : Nat → Prop} (a : P 0) (b : P 1) (c : P 2) (d : P 3) : ∀ i, i < 4 → P i := fun i h => by match i, h with | 0, _ => exact a | 1, _ => exact b | 2, _ => exact c | 3, _ => exact d
theorem lt8 {P : Nat → Prop} (a : P 0) (b : P 1) (c : P 2) (d : P 3) (a' : P 4) (b' : P 5) (c' : P 6) (d' : P 7) : ∀ i, i < 8 → P i := fun i h => by
  match i, h with | 0, _ => exact a | 1, _ => exact b | 2, _ => exact c | 3, _ => exact d | 4, _ => exact a' | 5, _ => exact b' | 6, _ => exact c' | 7, _ => exact d'
theorem iv_lt {n : Nat} (b : BitVec n) : 0 ≤ iv b ∧ iv b < 2 ^ n := ⟨Int.natCast_nonneg _, by have := b.isLt; unfold iv; exact_mod_cast this⟩
theorem iv_not (b : BitVec 16) : 65535 - iv b = iv (~~~b) := by
  unfold iv
  rw [BitVec.toNat_not]
  have := b.isLt
  omega
theorem iv_shl {n : Nat} (h : n < 4) : (1 : Int) * 2 ^ (n : Int).toNat = iv (1#4 <<< n) := by
  match n, h with
  | 0, _ => rfl
  | 1, _ => rfl
  | 2, _ => rfl
  | 3, _ => rfl
theorem leafTxt_len (n : Nat) : (leafTxt n).length ≤ 4 := by
  match n with
  | 0 => decide +kernel
  | 1 => decide +kernel
  | 2 => decide +kernel
  | 3 => decide +kernel
  | n + 4 => exact Nat.zero_le _
section
variable {prog : Program} {w : World} {A : Around} {E : Value → Shared → Prop} {s : Shared} {h₀ : Heap} {L : Addr} {m : Str → Option Value} {env : Env}

/-- a comprehension whose element hands on new objects -/
theorem comp_acc {elt : PySem.Expr} {x : Str} {scope : Scope} {cl : List (Str × Addr)} {S : List (Addr × Obj) → Prop} {P : Nat → Value → Prop} {Fin : List Value → List (Addr × Obj) → Prop} {n : Nat} {news : List (Addr × Obj)}
    (Rel : Nat → List Value → List (Addr × Obj) → Prop) (h0 : Rel 0 [] [])
    (turn : ∀ i v ys acc I oI C oC D m₂ h tk (E' : Value → Shared → Prop), i < n → P i v → Rel i ys acc → LCg.NsObj oC m₂ → m₂ x = some v → Fr h₀ L h m → News h₀ L h ((I, oI) :: (C, oC) :: (D, LCg.lst ys) :: (acc ++ news)) → LCg.Off3 I C D (acc ++ news) →
      ((@Ne Nat I C) ∧ (@Ne Nat I D) ∧ (@Ne Nat C D)) →
      wpAny (model prog w) A (eval elt (compEnvC scope cl C env)) (fun y s₂ => ∃ h' tk' tl, s₂ = { s with heap := h', toks := tk' } ∧ Fr h₀ L h' m ∧ News h₀ L h' (tl ++ ((I, oI) :: (C, oC) :: (D, LCg.lst ys) :: (acc ++ news))) ∧
        (∀ p ∈ tl, ∀ q ∈ (I, oI) :: (C, oC) :: (D, LCg.lst ys) :: (acc ++ news), q.1 < p.1) ∧ Rel (i + 1) (ys ++ [y]) (tl ++ acc)) E' { s with heap := h, toks := tk })
    (hS : ∀ acc, S (acc ++ news)) (fin : ∀ ys acc, Rel n ys acc → Fin ys (acc ++ news)) :
    LCg.CompRest prog w A h₀ L m env elt x scope cl s S P Fin n 0 [] news := by
  have key : ∀ (k i : Nat) (ys : List Value) (acc : List (Addr × Obj)), i + k = n → Rel i ys acc → LCg.CompRest prog w A h₀ L m env elt x scope cl s S P Fin k i ys (acc ++ news) := by
    intro k
    induction k with
    | zero =>
      intro i ys acc hi hr
      have e : i = n := by omega
      subst e
      exact LCg.CompRest.zero (fin ys acc hr)
    | succ k ih =>
      intro i ys acc hi hr
      refine LCg.CompRest.succ ?_
      intro v I oI C oC D m₂ h tk E' hv hC hx F N off ne
      refine wpAny_mono (turn i v ys acc I oI C oC D m₂ h tk E' (by omega) hv hr hC hx F N off ne) (fun y s₂ hq => ?_) fun _ _ e => e
      obtain ⟨h', tk', tl, rfl, F', N', ord, hr'⟩ := hq
      refine LCg.CompEnd.intro F' N' ((tl ++ acc) ++ news) ?_ ?_ (hS _) (ih (i + 1) _ _ (by omega) hr')
      · intro p hp
        rcases List.mem_cons.mp hp with rfl | hp
        · exact List.mem_append.mpr (.inr (.head _))
        rcases List.mem_cons.mp hp with rfl | hp
        · exact List.mem_append.mpr (.inr (.tail _ (.head _)))
        rcases List.mem_cons.mp hp with rfl | hp
        · exact List.mem_append.mpr (.inr (.tail _ (.tail _ (.head _))))
        rw [List.append_assoc] at hp
        rcases List.mem_append.mp hp with hp | hp
        · exact List.mem_append.mpr (.inl hp)
        · exact List.mem_append.mpr (.inr (.tail _ (.tail _ (.tail _ hp))))
      · refine LCg.Off3.of fun p hp => ?_
        rw [List.append_assoc] at hp
        rcases List.mem_append.mp hp with hp | hp
        · exact ⟨Nat.ne_of_gt (ord p hp (I, oI) (.head _)), Nat.ne_of_gt (ord p hp (C, oC) (.tail _ (.head _))), Nat.ne_of_gt (ord p hp (D, _) (.tail _ (.tail _ (.head _))))⟩
        · exact LCg.Off3.mem off p hp
  exact key n 0 [] [] (by omega) h0

/-- what a turn of a for over a list of the ledger hands on -/
inductive LedEnd (h₀ : Heap) (L : Addr) (J : (Str → Option Value) → List (Addr × Obj) → Prop) (I : Addr) (oI : Obj) (news : List (Addr × Obj)) (s₁ s₂ : Shared) : Prop where
  | mk  h' tk m' acc' (hF0 : s₂ = { s₁ with heap := h', toks := tk }) (hF1 : Fr h₀ L h' m') (hF2 : News h₀ L h' ((I, oI) :: (acc' ++ news))) (hF3 : ∀ p ∈ acc', p.1 ≠ I) (hF4 : J m' acc') : LedEnd h₀ L J I oI news s₁ s₂
noncomputable def LedPost (h₀ : Heap) (L : Addr) (J : (Str → Option Value) → List (Addr × Obj) → Prop) (I : Addr) (oI : Obj) (news : List (Addr × Obj)) (s₁ : Shared) (Q : Flow → Shared → Prop) (f : Flow) (s₂ : Shared) : Prop :=
  match f with
  | .ret v => Q (.ret v) s₂
  | .brk => Q .next s₂
  | _ => LedEnd h₀ L J I oI news s₁ s₂
theorem iter_led {x : Str} {body : List Stmt} {Q : Flow → Shared → Prop} {l : Addr} {vs : List Value} {e : Nat} {m₀ : Str → Option Value} {acc₀ news : List (Addr × Obj)} (J : Nat → (Str → Option Value) → List (Addr × Obj) → Prop)
    (hh : A.handled = none) (hl : (l, W.listOf vs.toArray e) ∈ news) (F : Fr h₀ env.locals s.heap m₀) (N : News h₀ env.locals s.heap (acc₀ ++ news)) (hj : J 0 m₀ acc₀)
    (turn : ∀ i v m₁ acc h tk I oI, vs[i]? = some v → J i m₁ acc → (∀ p ∈ acc ++ news, p.1 ≠ I) → Fr h₀ env.locals h (fun y => if y = x then some v else m₁ y) → News h₀ env.locals h ((I, oI) :: (acc ++ news)) →
      wpAny (model prog w) A (execs body env) (LedPost h₀ env.locals (J (i + 1)) I oI news { s with heap := h, toks := tk } Q) E { s with heap := h, toks := tk })
    (done : ∀ m₁ acc h tk, J vs.length m₁ acc → Fr h₀ env.locals h m₁ → News h₀ env.locals h (acc ++ news) → Q .next { s with heap := h, toks := tk }) :
    wpAny (model prog w) A (pyIter (.ref l)) (fun it s₂ => LoopAtV prog w A h₀ env x body Q E it s₂) E s := by
  have hm : (l, W.listOf vs.toArray e) ∈ acc₀ ++ news := List.mem_append.mpr (.inr hl)
  have hls : s.heap.IsList l vs.toArray := News.isList N hm
  have hlt : l < s.heap.objs.size := Heap.lt_size (N _ hm).1
  have hne : l ≠ s.heap.objs.size := Nat.ne_of_lt hlt
  refine wpAny_pyIter_list hls ?_
  have W := Walks.list (prog := prog) (w := w) hh s.heap.objs.size l hne vs.toArray
  let J' : Nat → (Str → Option Value) → List (Addr × Obj) → Prop := fun i m₁ news₁ => ∃ acc, news₁ = acc ++ news ∧ (∀ p ∈ acc, p.1 ≠ s.heap.objs.size) ∧ J i m₁ acc
  refine ⟨_, _, _, vs.toArray.size, _, _, m₀, acc₀ ++ news, J', rfl, W, ?_, ?_, ?_, ⟨⟨_, Heap.get?_push_size _ rfl, rfl, rfl⟩, hls.at fun o e => Heap.get?_push_of_some _ e⟩, F.push _, (fun p hp => ⟨Heap.get?_push_of_some _ (N p hp).1, (N p hp).2⟩), ⟨acc₀, rfl, fun p hp => Nat.ne_of_lt (Heap.lt_size (N p (List.mem_append.mpr (.inl hp))).1), hj⟩, ?_, ?_⟩
  · intro hx
    rcases List.mem_cons.mp hx with e | hx
    · exact absurd F.ns.lt (e ▸ Nat.lt_irrefl _)
    · exact (N _ hm).2.1 (List.mem_singleton.mp hx).symm
  · intro b hb
    rw [List.mem_singleton.mp hb]
    exact next_is_new F
  · intro p hp hI
    exact absurd (Heap.lt_size (N p hp).1) ((List.mem_singleton.mp hI) ▸ Nat.lt_irrefl _)
  · rintro i v m₁ news₁ s₁ own ⟨hh', tk', rfl⟩ hin hP ⟨acc, rfl, hacc, hJ⟩ hoff hown hget hall hst F₁ N₁
    have hP' : vs[i]? = some v := by simpa using hP
    have hoff' : ∀ p ∈ acc ++ news, p.1 ≠ s.heap.objs.size := fun p hp e => hoff p hp (List.mem_singleton.mpr e)
    obtain ⟨⟨oI, hoI, -⟩, -⟩ := hst
    have hIn : (s.heap.objs.size, oI) ∈ own := hall _ (.head _) (next_is_new F) _ hoI
    have N₂ : News h₀ env.locals hh' ((s.heap.objs.size, oI) :: (acc ++ news)) := fun p hp => by
      rcases List.mem_cons.mp hp with rfl | hp
      · exact N₁ _ (List.mem_append.mpr (.inl hIn))
      · exact N₁ _ (List.mem_append.mpr (.inr hp))
    refine wpAny_mono (turn i v m₁ acc hh' tk' s.heap.objs.size oI hP' hJ hoff' F₁ N₂) (fun f s₂ p => ?_) fun _ _ e => e
    have fin : LedEnd h₀ env.locals (J (i + 1)) s.heap.objs.size oI news { s with heap := hh', toks := tk' } s₂ → LoopStepU h₀ env.locals [s.heap.objs.size] own (J' (i + 1)) { s with heap := hh', toks := tk' } .next s₂ := by
      rintro ⟨h', tk, m', acc', es, F', N', ho, hj'⟩
      refine ⟨rfl, h', tk, m', acc' ++ news, es, F', ?_, ?_, acc', rfl, ho, hj'⟩
      · intro p hp
        rcases List.mem_append.mp hp with hp | hp
        · have g1 := hget p hp
          rcases List.mem_cons.mp (hown p hp) with h1 | h1
          · have h2 : p = (s.heap.objs.size, oI) := Prod.ext h1 (by rw [h1, hoI] at g1; exact (Option.some.inj g1).symm)
            rw [h2]; exact N' _ (.head _)
          · have h1 := List.mem_singleton.mp h1
            have h3 := (N₁ _ (List.mem_append.mpr (.inr (List.mem_append.mpr (.inr hl))))).1
            have h2 : p = (l, PySem.W.listOf vs.toArray e) := Prod.ext h1 (by rw [h1, h3] at g1; exact (Option.some.inj g1).symm)
            rw [h2]; exact N' _ (.tail _ (List.mem_append.mpr (.inr hl)))
        · exact N' _ (.tail _ hp)
      · intro p hp hI
        have hI := List.mem_singleton.mp hI
        rcases List.mem_append.mp hp with hp | hp
        · exact ho p hp hI
        · exact hoff' p (List.mem_append.mpr (.inr hp)) hI
    cases f with
    | ret v => exact .ret p
    | brk => exact .brk p
    | next => exact .next (fin p)
    | cont => exact .cont (fin p)
  · rintro h' tk m' news' F' N' _ ⟨acc, rfl, -, hJ⟩
    exact done m' acc h' tk (by simpa using hJ) F' N'
end
theorem fr_eq {h₀ h : Heap} {L : Addr} {m m' : Str → Option Value} (e : m = m') (F : Fr h₀ L h m) : Fr h₀ L h m' := e ▸ F
/-- the names that a loop stores, forgotten -/
noncomputable def forget (free : List Str) (u m₀ : Str → Option Value) : Str → Option Value := fun y => if free.contains y = true then u y else m₀ y
theorem ne_free {free : List Str} {y n : Str} (h : free.contains y = false) (k : free.contains n = true) : ¬ y = n := fun e => by rw [e, k] at h; cases h
theorem forget_off {free : List Str} {u m₀ : Str → Option Value} {y : Str} (h : free.contains y = false) : forget free u m₀ y = m₀ y := if_neg (by rw [h]; exact Bool.false_ne_true)
theorem forget_eq {free : List Str} {m m₀ : Str → Option Value} (h : ∀ y, free.contains y = false → m y = m₀ y) : m = forget free m m₀ := by
  funext y
  unfold forget
  cases e : free.contains y with
  | true => rfl
  | false => simpa using h y e
theorem iv_and {n : Nat} (a b : BitVec n) : Builtin.bitAnd (iv a) (iv b) = iv (a &&& b) := by
  unfold iv
  rw [bitAnd_pp (Int.natCast_nonneg _) (Int.natCast_nonneg _), BitVec.toNat_and]
  rfl
theorem half3 {x y p q a b c d : Nat} (hx : x / 2 = a) (hy : y / 2 = b) (hp : p / 2 = c) (hq : q / 2 = d) (h : a + b = c + d) (hm : x % 2 + y % 2 = p % 2 + q % 2) : x + y = p + q := by omega
theorem mod2_or (x y : Nat) : x % 2 + y % 2 = (x ||| y) % 2 + (x &&& y) % 2 := by
  rw [Nat.or_mod_two_pow (n := 1) |>.trans rfl, Nat.and_mod_two_pow (n := 1) |>.trans rfl]
  rcases Nat.mod_two_eq_zero_or_one x with h | h <;> rcases Nat.mod_two_eq_zero_or_one y with h' | h' <;> simp [h, h']
theorem mod2_xor (x y : Nat) : (x ^^^ y) % 2 + (x &&& y) % 2 = (x ||| y) % 2 + 0 % 2 := by
  rw [Nat.or_mod_two_pow (n := 1) |>.trans rfl, Nat.and_mod_two_pow (n := 1) |>.trans rfl, Nat.xor_mod_two_pow (n := 1) |>.trans rfl]
  rcases Nat.mod_two_eq_zero_or_one x with h | h <;> rcases Nat.mod_two_eq_zero_or_one y with h' | h' <;> simp [h, h']
theorem nat_or_add (x y : Nat) : x + y = (x ||| y) + (x &&& y) := by
  induction x using Nat.strongRecOn generalizing y with
  | ind x ih =>
    by_cases hx : x = 0
    · subst hx; rw [Nat.zero_or, Nat.zero_and, Nat.zero_add, Nat.add_zero]
    · exact half3 rfl rfl Nat.or_div_two Nat.and_div_two (ih (x / 2) (Nat.div_lt_self (Nat.pos_of_ne_zero hx) (by decide)) (y / 2)) (mod2_or x y)
theorem nat_xor_add (x y : Nat) : (x ^^^ y) + (x &&& y) = x ||| y := by
  induction x using Nat.strongRecOn generalizing y with
  | ind x ih =>
    by_cases hx : x = 0
    · subst hx; rw [Nat.zero_xor, Nat.zero_or, Nat.zero_and, Nat.add_zero]
    · exact half3 (q := 0) Nat.xor_div_two Nat.and_div_two Nat.or_div_two rfl ((ih (x / 2) (Nat.div_lt_self (Nat.pos_of_ne_zero hx) (by decide)) (y / 2)).trans (Nat.add_zero _).symm) (mod2_xor x y)
theorem iv_or {n : Nat} (a b : BitVec n) : Builtin.bitOr (iv a) (iv b) = iv (a ||| b) := by
  rw [bitOr_and, iv_and]
  unfold iv
  have h := nat_or_add a.toNat b.toNat
  rw [BitVec.toNat_and, BitVec.toNat_or]
  omega
theorem iv_xor {n : Nat} (a b : BitVec n) : Builtin.bitXor (iv a) (iv b) = iv (a ^^^ b) := by
  show Builtin.bitOr _ _ - Builtin.bitAnd _ _ = _
  rw [iv_or, iv_and]
  unfold iv
  have h := nat_xor_add a.toNat b.toNat
  rw [BitVec.toNat_and, BitVec.toNat_or, BitVec.toNat_xor]
  omega
theorem iv_diff {n : Nat} (a b : BitVec n) : iv b - iv (a &&& b) = iv (b &&& ~~~a) := by
  have h := nat_or_add (b &&& ~~~a).toNat (a &&& b).toNat
  rw [← BitVec.toNat_or, ← BitVec.toNat_and] at h
  have e1 : (b &&& ~~~a) ||| (a &&& b) = b := by
    apply BitVec.eq_of_getLsbD_eq
    intro i hi
    simp only [BitVec.getLsbD_or, BitVec.getLsbD_and, BitVec.getLsbD_not, hi, decide_true, Bool.true_and]
    cases a.getLsbD i <;> cases b.getLsbD i <;> rfl
  have e2 : (b &&& ~~~a) &&& (a &&& b) = 0#n := by
    apply BitVec.eq_of_getLsbD_eq
    intro i hi
    simp only [BitVec.getLsbD_and, BitVec.getLsbD_not, hi, decide_true, Bool.true_and, BitVec.getLsbD_zero]
    cases a.getLsbD i <;> cases b.getLsbD i <;> rfl
  rw [e1, e2, BitVec.toNat_zero] at h
  unfold iv
  omega
theorem iv_diff' {n : Nat} (a b : BitVec n) : iv a - iv (a &&& b) = iv (a &&& ~~~b) := by
  rw [BitVec.and_comm a b, iv_diff]
theorem iv_imp (a b : BitVec 16) : 65535 - iv a + iv (a &&& b) = iv (~~~a ||| b) := by
  have h : iv (a &&& ~~~b) = 65535 - iv (~~~a ||| b) := by
    have e : a &&& ~~~b = ~~~(~~~a ||| b) := by
      apply BitVec.eq_of_getLsbD_eq
      intro i hi
      simp only [BitVec.getLsbD_or, BitVec.getLsbD_and, BitVec.getLsbD_not, hi, decide_true, Bool.true_and]
      cases a.getLsbD i <;> cases b.getLsbD i <;> rfl
    rw [e, ← iv_not]
  have h2 := iv_diff' a b
  omega
theorem iv_imp' (a b : BitVec 16) : 65535 - iv b + iv (a &&& b) = iv (~~~b ||| a) := by
  rw [BitVec.and_comm a b, iv_imp]
theorem runs_toks {M : Model} {Γ : Ctx} {p : Pos} {t : Sem Fin} {fs : List Frame} {s s' : Shared} {e : End} (h : Runs M Γ p t fs s e s') : s.toks ≤ s'.toks := by
  induction h with
  | fresh _ ih => exact Nat.le_trans (Nat.le_succ _) ih
  | done | raise | yield => exact Nat.le_refl _
  | call _ _ i1 i2 => exact Nat.le_trans i1 i2
  | segRet _ _ i1 i2 => exact Nat.le_trans i1 i2
  | resumeFresh _ _ _ _ i1 i2 => exact Nat.le_trans i1 i2
  | resumeSuspended _ _ _ _ i1 i2 => exact Nat.le_trans i1 i2
  | segGen _ _ i1 i2 => exact Nat.le_trans i1 i2
  | segSuspGen _ _ _ _ i1 i2 => exact Nat.le_trans i1 i2
  | _ => assumption
theorem wakes_toks {M : Model} {Γ : Ctx} {p : Pos} {g : Nat} {r : Resume} {s s' : Shared} {res : GenResult} (h : Wakes M Γ p g r s res s') : s.toks ≤ s'.toks := by
  unfold Wakes at h
  split at h
  · exact h.elim
  · split at h
    · obtain ⟨e₁, s₁, hr, _, _, rfl⟩ := h
      exact (show (s.setGen g .running).toks ≤ s₁.toks from runs_toks hr)
    · rw [h.2]; exact Nat.le_refl _
    · rw [h.2]; exact Nat.le_refl _
  · obtain ⟨e₁, s₁, hr, _, _, rfl⟩ := h
    exact (show (s.setGen g .running).toks ≤ s₁.toks from runs_toks hr)
  all_goals first | (rw [h.2]; exact Nat.le_refl _) | exact h.elim
theorem wp_toks {α : Type} {M : Model} {Γ : Ctx} (T : Nat) (t : Sem α) {Q Q' : α → Pos → Shared → Prop} {E E' : Value → Pos → Shared → Prop} (hQ : ∀ a p s, T ≤ s.toks → Q a p s → Q' a p s) (hE : ∀ a p s, T ≤ s.toks → E a p s → E' a p s) :
    ∀ (p : Pos) (s : Shared), T ≤ s.toks → Sem.wp M Γ t Q E p s → Sem.wp M Γ t Q' E' p s := by
  induction t with
  | pure a => exact fun p s hs h => hQ _ _ _ hs h
  | raise a => exact fun p s hs h => hE _ _ _ hs h
  | unsupported | finish | yield | fork | await | register => exact fun p s hs h => h.elim
  | rule tag k ih => exact fun p s hs h => ih _ _ _ hs h
  | «at» p' k ih => exact fun p s hs h => ih _ _ _ hs h
  | load a part k ih => exact fun p s hs h => h.imp fun o ho => ⟨ho.1, ih _ _ _ hs ho.2⟩
  | loadIfAlive a k ih => exact fun p s hs h => ih _ _ _ hs h
  | point l k ih => exact fun p s hs h => ih _ _ _ hs h
  | update a part f k ih => exact fun p s hs h => ⟨h.1, ih () p { s with heap := s.heap.update a f } hs h.2⟩
  | alloc o k ih => exact fun p s hs h => ih _ p { s with heap := s.heap.push o } hs h
  | fresh k ih => exact fun p s hs h => ih _ p { s with toks := s.toks + 1 } (Nat.le_succ_of_le hs) h
  | ask k ih => exact fun p s hs h => ih _ _ _ hs h
  | choose src n k ih => exact fun p s hs h => ⟨h.1, ih _ p { s with drawn := s.drawn.bump src } hs h.2⟩
  | os q l k ih => exact fun p s hs h => ih _ p { s with os := (Os.step s.os q).1 } hs h
  | call c h g l k ih => exact fun p s hs ⟨r, s', hr, hk⟩ => ⟨r, s', hr, ih _ _ _ (Nat.le_trans hs (runs_toks hr)) hk⟩
  | handled own k ih => exact fun p s hs h => ih _ _ _ hs h
  | genState g k ih => exact fun p s hs h => h.imp fun o ho => ⟨ho.1, ih _ _ _ hs ho.2⟩
  | newGen c k ih => exact fun p s hs h => ih _ p { s with gens := s.gens.push (.fresh c) } hs h
  | resume g r l k ih => exact fun p s hs ⟨res, s', hr, hk⟩ => ⟨res, s', hr, ih _ _ _ (Nat.le_trans hs (wakes_toks hr)) hk⟩
  | stack k ih => exact fun p s hs h => ih _ _ _ hs h
  | thread k ih => exact fun p s hs h => ih _ _ _ hs h
/-- told when the tokens' count is at least T -/
noncomputable def TkLe (T : Nat) (s : Shared) (P : Prop) : Prop := T ≤ s.toks → P
theorem toks_mono {α : Type} {M : Model} {A : Around} {t : Sem α} {Q : α → Shared → Prop} {E : Value → Shared → Prop} {s : Shared} (h : wpAny M A t (fun a s' => s.toks ≤ s'.toks → Q a s') (fun e s' => s.toks ≤ s'.toks → E e s') s) : wpAny M A t Q E s :=
  fun Γ p hΓ => wp_toks s.toks t (fun _ _ _ hs k => k hs) (fun _ _ _ hs k => k hs) p s (Nat.le_refl _) (h Γ p hΓ)

section
variable {prog : Program} {w : World} {A : Around} {E : Value → Shared → Prop} {Q : Flow → Shared → Prop} {s : Shared} {env : Env} {h₀ : Heap} {L : Addr}
theorem tkle_intro {T : Nat} {s : Shared} {P : Prop} (h : T ≤ s.toks → P) : TkLe T s P := h
theorem toks_mono' {α : Type} {M : Model} {A : Around} {t : Sem α} {Q : α → Shared → Prop} {E : Value → Shared → Prop} {s : Shared} (h : wpAny M A t (fun a s' => TkLe s.toks s' (Q a s')) E s) : wpAny M A t Q E s :=
  toks_mono (wpAny_mono h (fun _ _ x => x) fun _ _ e _ => e)
theorem toks_gen_le {α : Type} {M : Model} {A : Around} {t : Sem α} {Q : α → Shared → Prop} {E : Value → Shared → Prop} {h : Heap} {g : Array GenState} {d : Drawn} {T : Nat} {o : OsState} (H : ∀ tk, T ≤ tk → wpAny M A t Q E ⟨h, g, d, tk, o⟩) : wpAny M A t Q E ⟨h, g, d, T, o⟩ := H T (Nat.le_refl _)
/-- what stands behind a statement: the rest of the body, the tokens' count known to have not fallen -/
noncomputable def Nx (M : Model) (A : Around) (env : Env) (Q : Flow → Shared → Prop) (E : Value → Shared → Prop) (rest : List Stmt) (T : Nat) (f : Flow) (s : Shared) : Prop := T ≤ s.toks → (match f with | .next => wpAny M A (execs rest env) Q E s | f => Q f s)
theorem nx_start {M : Model} {A : Around} {env : Env} {Q : Flow → Shared → Prop} {E : Value → Shared → Prop} {st : Stmt} {rest : List Stmt} {h : Heap} {g : Array GenState} {d : Drawn} {T : Nat} {o : OsState} (H : ∀ tk, T ≤ tk → wpAny M A (exec st env) (Nx M A env Q E rest tk) E ⟨h, g, d, tk, o⟩) : wpAny M A (execs (st :: rest) env) Q E ⟨h, g, d, T, o⟩ :=
  toks_gen_le fun tk hle => wpAny_execs_cons (toks_mono' (wpAny_mono (H tk hle) (fun f s' x q => x q) fun _ _ e => e))
theorem nx_cons {M : Model} {A : Around} {env : Env} {Q : Flow → Shared → Prop} {E : Value → Shared → Prop} {st : Stmt} {rest : List Stmt} {T₀ : Nat} {h : Heap} {g : Array GenState} {d : Drawn} {T : Nat} {o : OsState} (H : ∀ tk, T₀ ≤ T → T ≤ tk → wpAny M A (exec st env) (Nx M A env Q E rest tk) E ⟨h, g, d, tk, o⟩) : Nx M A env Q E (st :: rest) T₀ .next ⟨h, g, d, T, o⟩ :=
  fun q => nx_start fun tk hle => H tk q hle
theorem nx_nil {M : Model} {A : Around} {env : Env} {Q : Flow → Shared → Prop} {E : Value → Shared → Prop} {T₀ : Nat} {s : Shared} (H : T₀ ≤ s.toks → Q .next s) : Nx M A env Q E [] T₀ .next s := fun q => wpAny_execs_nil (H q)
theorem nx_open {M : Model} {A : Around} {env : Env} {Q : Flow → Shared → Prop} {E : Value → Shared → Prop} {rest : List Stmt} {T₀ : Nat} {s : Shared} (H : T₀ ≤ s.toks → wpAny M A (execs rest env) Q E s) : Nx M A env Q E rest T₀ .next s := H
theorem nx_ret {M : Model} {A : Around} {env : Env} {Q : Flow → Shared → Prop} {E : Value → Shared → Prop} {rest : List Stmt} {T₀ : Nat} {v : Value} {s : Shared} (H : T₀ ≤ s.toks → Q (.ret v) s) : Nx M A env Q E rest T₀ (.ret v) s := H
theorem nx_brk {M : Model} {A : Around} {env : Env} {Q : Flow → Shared → Prop} {E : Value → Shared → Prop} {rest : List Stmt} {T₀ : Nat} {s : Shared} (H : T₀ ≤ s.toks → Q .brk s) : Nx M A env Q E rest T₀ .brk s := H
theorem nx_cont {M : Model} {A : Around} {env : Env} {Q : Flow → Shared → Prop} {E : Value → Shared → Prop} {rest : List Stmt} {T₀ : Nat} {s : Shared} (H : T₀ ≤ s.toks → Q .cont s) : Nx M A env Q E rest T₀ .cont s := H
theorem nx_cons0 {M : Model} {A : Around} {env : Env} {Q : Flow → Shared → Prop} {E : Value → Shared → Prop} {st : Stmt} {rest : List Stmt} {h : Heap} {g : Array GenState} {d : Drawn} {T : Nat} {o : OsState} (H : ∀ tk, T ≤ tk → wpAny M A (exec st env) (Nx M A env Q E rest tk) E ⟨h, g, d, tk, o⟩) : Nx M A env Q E (st :: rest) T .next ⟨h, g, d, T, o⟩ := fun _ => nx_start H
theorem nx_nil0 {M : Model} {A : Around} {env : Env} {Q : Flow → Shared → Prop} {E : Value → Shared → Prop} {h : Heap} {g : Array GenState} {d : Drawn} {T : Nat} {o : OsState} (H : Q .next ⟨h, g, d, T, o⟩) : Nx M A env Q E [] T .next ⟨h, g, d, T, o⟩ := fun _ => wpAny_execs_nil H
theorem nx_open0 {M : Model} {A : Around} {env : Env} {Q : Flow → Shared → Prop} {E : Value → Shared → Prop} {rest : List Stmt} {h : Heap} {g : Array GenState} {d : Drawn} {T : Nat} {o : OsState} (H : wpAny M A (execs rest env) Q E ⟨h, g, d, T, o⟩) : Nx M A env Q E rest T .next ⟨h, g, d, T, o⟩ := fun _ => H
theorem nx_ret0 {M : Model} {A : Around} {env : Env} {Q : Flow → Shared → Prop} {E : Value → Shared → Prop} {rest : List Stmt} {v : Value} {h : Heap} {g : Array GenState} {d : Drawn} {T : Nat} {o : OsState} (H : Q (.ret v) ⟨h, g, d, T, o⟩) : Nx M A env Q E rest T (.ret v) ⟨h, g, d, T, o⟩ := fun _ => H
inductive WhileTk (h₀ : Heap) (L : Addr) (s : Shared) (J : Nat → Nat → (Str → Option Value) → List (Addr × Obj) → Prop) (n : Nat) (f : Flow) (s₃ : Shared) : Prop where
  | mk (hE0 : f = .next) h' tk m₂ news₂ n' (hF0 : s₃ = { s with heap := h', toks := tk }) (hF1 : Fr h₀ L h' m₂) (hF2 : News h₀ L h' news₂) (hF3 : n' < n) (hF4 : J n' tk m₂ news₂) : WhileTk h₀ L s J n f s₃
inductive WhI (h₀ : Heap) (L : Addr) (s : Shared) (J : Nat → Nat → (Str → Option Value) → List (Addr × Obj) → Prop) (n : Nat) (s' : Shared) : Prop where
  | mk (h₁ : Heap) (tk₁ : Nat) (m₁ : Str → Option Value) (news₁ : List (Addr × Obj)) (e : s' = { s with heap := h₁, toks := tk₁ }) (F : Fr h₀ L h₁ m₁) (N : News h₀ L h₁ news₁) (le : s.toks ≤ tk₁) (j : J n tk₁ m₁ news₁) : WhI h₀ L s J n s'
theorem While_tk {test : PySem.Expr} {body : List Stmt} {pos : Pos} {m : Str → Option Value} {news : List (Addr × Obj)} (J : Nat → Nat → (Str → Option Value) → List (Addr × Obj) → Prop) {n₀ : Nat}
    (F : Fr h₀ L s.heap m) (N : News h₀ L s.heap news) (hJ : J n₀ s.toks m news)
    (turn : ∀ n m₁ news₁ h₁ tk₁, Fr h₀ L h₁ m₁ → News h₀ L h₁ news₁ → s.toks ≤ tk₁ → J n tk₁ m₁ news₁ →
      wpAny (model prog w) A (isTrue test env (eval test env)) (fun b s₂ =>
        TkLe tk₁ s₂ (if b = true then wpAny (model prog w) A (execs body env) (WhileTk h₀ L s J n) E s₂ else Q .next s₂)) E { s with heap := h₁, toks := tk₁ })
    (hE : PassesOwn (model prog w) A env E := by passes_own) :
    wpAny (model prog w) A (exec (.While test body [] pos) env) Q E s := by
  refine wpAny_While (codeAny_whileLoop (WhI h₀ L s J) ?_ n₀ ⟨s.heap, s.toks, m, news, rfl, F, N, Nat.le_refl _, hJ⟩)
  rintro n s' ⟨h₁, tk₁, m₁, news₁, rfl, F₁, N₁, le₁, J₁⟩
  refine wpAny_mono (toks_mono' (wpAny_mono (turn n m₁ news₁ h₁ tk₁ F₁ N₁ le₁ J₁) (fun b s₂ h₂ => tkle_intro fun hle => And.intro hle (h₂ hle)) fun _ _ e => e)) (fun b s₂ h₂ => ?_) hE
  obtain ⟨hle, h₂⟩ := h₂
  cases b with
  | false =>
    simp only [Bool.false_eq_true, if_false] at h₂ ⊢
    exact wpAny_execs_nil h₂
  | true =>
    simp only [if_true] at h₂ ⊢
    refine wpAny_mono (toks_mono' (wpAny_mono h₂ (fun b s₂ h₃ => tkle_intro fun hle => And.intro hle h₃) fun _ _ e => e)) (fun f s₃ h₃ => ?_) hE
    obtain ⟨hle₃, rfl, h', tk, m₂, news₂, n', rfl, F₂, N₂, hn, J₂⟩ := h₃
    exact ⟨n', hn, h', tk, m₂, news₂, rfl, F₂, N₂, Nat.le_trans le₁ (Nat.le_trans hle hle₃), J₂⟩
end
noncomputable def Op.code (op : Op) (a b : Int) : Int := match op with
  | .amp => Builtin.bitAnd a b | .bar => Builtin.bitOr a b | .hat => Builtin.bitXor a b | .eqq => 65535 - Builtin.bitXor a b
  | .lt => b - Builtin.bitAnd a b | .gt => a - Builtin.bitAnd a b | .le => 65535 - a + Builtin.bitAnd a b | .ge => 65535 - b + Builtin.bitAnd a b
theorem Op.code_eq (op : Op) (a b : BitVec 16) : op.code (iv a) (iv b) = iv (op.bv a b) := by
  cases op
  · exact iv_and _ _
  · exact iv_or _ _
  · exact iv_xor _ _
  · show 65535 - Builtin.bitXor _ _ = _
    rw [iv_xor]; exact iv_not _
  · show iv b - Builtin.bitAnd _ _ = _
    rw [iv_and]; exact iv_diff _ _
  · show iv a - Builtin.bitAnd _ _ = _
    rw [iv_and]; exact iv_diff' _ _
  · show 65535 - iv a + Builtin.bitAnd _ _ = _
    rw [iv_and]; exact iv_imp _ _
  · show 65535 - iv b + Builtin.bitAnd _ _ = _
    rw [iv_and]; exact iv_imp' _ _
noncomputable def af1 (op : Op) (fa fd ga gd : Int) : Int := match op with | .lt | .le => Builtin.bitOr fd ga | _ => Builtin.bitOr fa ga
noncomputable def de1 (op : Op) (fa fd ga gd : Int) : Int := match op with | .lt | .le => Builtin.bitOr fa gd | _ => Builtin.bitOr fd gd
noncomputable def af2 (op : Op) (fa fd ga gd : Int) : Int := match op with | .gt | .ge => Builtin.bitOr fa gd | _ => af1 op fa fd ga gd
noncomputable def de2 (op : Op) (fa fd ga gd : Int) : Int := match op with | .gt | .ge => Builtin.bitOr fd ga | _ => de1 op fa fd ga gd
noncomputable def af3 (op : Op) (fa fd ga gd : Int) : Int := match op with | .hat | .eqq => Builtin.bitOr (af2 op fa fd ga gd) (de2 op fa fd ga gd) | _ => af2 op fa fd ga gd
noncomputable def de3 (op : Op) (fa fd ga gd : Int) : Int := match op with | .hat | .eqq => Builtin.bitOr (af2 op fa fd ga gd) (de2 op fa fd ga gd) | _ => de2 op fa fd ga gd
theorem af1_t {op : Op} {fa fd ga gd : Int} (h : ([Str.ofString "<", Str.ofString "<="].any fun x => x == op.sym) = true) : Builtin.bitOr fd ga = af1 op fa fd ga gd ∧ Builtin.bitOr fa gd = de1 op fa fd ga gd := by
  cases op <;> first | exact ⟨rfl, rfl⟩ | exact absurd h (by decide)
theorem af1_f {op : Op} {fa fd ga gd : Int} (h : ([Str.ofString "<", Str.ofString "<="].any fun x => x == op.sym) = false) : Builtin.bitOr fa ga = af1 op fa fd ga gd ∧ Builtin.bitOr fd gd = de1 op fa fd ga gd := by
  cases op <;> first | exact ⟨rfl, rfl⟩ | exact absurd h (by decide)
theorem af2_t {op : Op} {fa fd ga gd : Int} (h : ([Str.ofString ">", Str.ofString ">="].any fun x => x == op.sym) = true) : Builtin.bitOr fa gd = af2 op fa fd ga gd ∧ Builtin.bitOr fd ga = de2 op fa fd ga gd := by
  cases op <;> first | exact ⟨rfl, rfl⟩ | exact absurd h (by decide)
theorem af2_f {op : Op} {fa fd ga gd : Int} (h : ([Str.ofString ">", Str.ofString ">="].any fun x => x == op.sym) = false) : af1 op fa fd ga gd = af2 op fa fd ga gd ∧ de1 op fa fd ga gd = de2 op fa fd ga gd := by
  cases op <;> first | exact ⟨rfl, rfl⟩ | exact absurd h (by decide)
theorem af3_t {op : Op} {fa fd ga gd : Int} (h : ([Str.ofString "^", Str.ofString "=="].any fun x => x == op.sym) = true) : Builtin.bitOr (af2 op fa fd ga gd) (de2 op fa fd ga gd) = af3 op fa fd ga gd ∧ Builtin.bitOr (af2 op fa fd ga gd) (de2 op fa fd ga gd) = de3 op fa fd ga gd := by
  cases op <;> first | exact ⟨rfl, rfl⟩ | exact absurd h (by decide)
theorem af3_f {op : Op} {fa fd ga gd : Int} (h : ([Str.ofString "^", Str.ofString "=="].any fun x => x == op.sym) = false) : af2 op fa fd ga gd = af3 op fa fd ga gd ∧ de2 op fa fd ga gd = de3 op fa fd ga gd := by
  cases op <;> first | exact ⟨rfl, rfl⟩ | exact absurd h (by decide)
theorem af_pol (op : Op) (a b c d : BitVec 4) : af3 op (iv a) (iv b) (iv c) (iv d) = iv (op.pol a b c d).1 ∧ de3 op (iv a) (iv b) (iv c) (iv d) = iv (op.pol a b c d).2 := by
  cases op <;> (simp only [af3, de3, af2, de2, af1, de1, iv_or, Op.pol]; exact ⟨trivial, trivial⟩)
section
variable {prog : Program} {w : World} {A : Around} {E : Value → Shared → Prop} {s : Shared} {env : Env} {h₀ : Heap} {L : Addr} {m m' : Str → Option Value} {news nw : List (Addr × Obj)}
noncomputable abbrev afM (x y : Int) (t u : Tok) (m : Str → Option Value) : Str → Option Value := fun z => if z = Str.ofString "affirmed" then some (.int x t) else if z = Str.ofString "denied" then some (.int y u) else m z
inductive AfJ (h₀ : Heap) (L : Addr) (m : Str → Option Value) (x y : Int) (news : List (Addr × Obj)) (s : Shared) (f : Flow) (s' : Shared) : Prop where
  | mk (hE0 : f = .next) h tk t u (hF0 : s' = { s with heap := h, toks := tk }) (hF1 : Fr h₀ L h (afM x y t u m)) (hF2 : News h₀ L h news) : AfJ h₀ L m x y news s f s'
theorem af_if {Q : Flow → Shared → Prop} {test : PySem.Expr} {pos : Pos} {body : List Stmt} (x y : Int) (_F : Fr h₀ L s.heap m) (_N : News h₀ L s.heap news)
    (h1 : wpAny (model prog w) A (isTrue test env (eval test env)) (fun b s₂ => if b then wpAny (model prog w) A (execs body env) (AfJ h₀ L m x y news s) E s₂ else wpAny (model prog w) A (execs [] env) (AfJ h₀ L m x y news s) E s₂) E s)
    (h2 : ∀ h tk t u, Fr h₀ L h (afM x y t u m) → News h₀ L h news → Q .next { s with heap := h, toks := tk }) : wpAny (model prog w) A (exec (.If test body [] pos) env) Q E s :=
  wpAny_mono (wpAny_If h1) (fun f s' ⟨hf, h, tk, t, u, hs, F, N⟩ => by subst hf hs; exact h2 h tk t u F N) fun _ _ e => e
theorem af_end {x y x' y' : Int} {t u : Tok} {h' : Heap} {tk' : Nat} (F : Fr h₀ L h' m') (N : News h₀ L h' nw) (hs : ∀ x ∈ news, x ∈ nw) (hm : m' (Str.ofString "affirmed") = some (.int x' t)) (hx : x' = x) (hm2 : m' (Str.ofString "denied") = some (.int y' u)) (hy : y' = y) (hm' : ∀ z, z ≠ Str.ofString "affirmed" → z ≠ Str.ofString "denied" → m' z = m z) :
    AfJ h₀ L m x y news s .next { s with heap := h', toks := tk' } := by
  have e : m' = afM x y t u m := by
    funext z
    unfold afM
    split
    · rename_i q; rw [q, hm, hx]
    · split
      · rename_i q; rw [q, hm2, hy]
      · rename_i q q'; exact hm' z q q'
  exact ⟨rfl, h', tk', t, u, rfl, e ▸ F, fun q hq => N q (hs q hq)⟩
end
theorem join_c (w : World) (news : List (Addr × Obj)) (op : Op) (f g : Fm) (fv gv : Value) (t : Tok) (hf : FmAt f fv news) (hg : FmAt g gv news)
  (hF : f.txt.length ≤ 100) (hG : g.txt.length ≤ 100) (hf' : f.row.length ≤ 100) (hg' : g.row.length ≤ 100) :
  Ctr w 263 news [.str op.sym t, fv, gv] 1 8 (FmP (.bn op f g)) := by
  k_with_none
  w_top off
  k_with "mine mem" => (first | (refine' mem_here ?_; ktr_member) | (refine' mem_appR ?_; k_mem) | (refine' mem_appL ?_; k_mem) | fail)
  k_with "mine ltL" => ((repeat (first | with_reducible exact lt_up0 | with_reducible refine lt_up ?_)); done)
  k_with "mine tk2" => (first | with_reducible assumption | with_reducible exact le_one | with_reducible exact Nat.le_refl _ | with_reducible exact Nat.succ_le_of_lt (by with_reducible assumption) | (with_reducible refine le_up ?_; k_extra "mine tk2") | (with_reducible refine le_chain (by with_reducible assumption) ?_; k_extra "mine tk2"))
  k_with "mine tk1" => ((try dsimp only); k_extra "mine tk2")
  k_with "mine size" => (first | (refine' sz_arr ?szA ?szB; (case szA => with_reducible assumption); (case szB => rfl)) | (refine' sz_line ?szA ?szB; (case szA => with_reducible assumption); (case szB => rfl)) | exact Nat.le_of_ble_eq_true rfl | fail)
  k_with "mine room" => ((first | k_dflt refine' rm2 ?rmA ?rmB | k_dflt refine' rm1 ?rmA ?rmB | k_dflt refine' rm0 ?rmA); (case rmA => k_dflt assumption); (try (case rmB => rfl)))
  k_with "mine ne" => (refine neN ?_; (try dsimp only); first | exact ne_all (by with_reducible assumption) (by k_mem) | exact ne_all' (by with_reducible assumption) (by k_mem) | with_reducible assumption | exact Ne.symm (by with_reducible assumption) | exact ne_gt (by k_extra "mine ltL") | exact ne_lt (by k_extra "mine ltL") | exact ne_gt (by with_reducible assumption) | exact ne_lt (by with_reducible assumption) | exact ne_far (by with_reducible assumption) (by k_extra "mine ltL") | exact ne_far' (by with_reducible assumption) (by k_extra "mine ltL") | omega | fail)
  k_with "mine all" => (first | with_reducible assumption | exact all_ne (by with_reducible assumption) (by k_extra "mine sub") | fail)
  k_with "mine free" => (intro yy; intros; repeat (first | with_reducible exact rfl | with_reducible exact forget_off (by with_reducible assumption) | (refine' Eq.trans (if_neg ?fnC) ?_; (case fnC => first | with_reducible assumption | exact ne_free (by with_reducible assumption) (by kernel_rfl))) | exact rfl))
  k_with "evalPairs" => (k_here; dsimp only)
  k_with "Exists" => (k_here; dsimp only)
  k_with "execs cons" => (k_here; refine' nx_start ?_; intro tkz htkz; (try dsimp only at htkz))
  k_with "Nx" => ((try dsimp only); (first | (with_reducible refine' nx_cons0 ?_; intro tkz htkz) | (with_reducible refine' nx_cons ?_; intro tkz htl htkz) | ((first | with_reducible refine' nx_nil0 ?_ | with_reducible refine' nx_ret0 ?_ | with_reducible refine' nx_open0 ?_); (try dsimp only)) | ((first | with_reducible refine' nx_nil ?_ | with_reducible refine' nx_ret ?_ | with_reducible refine' nx_open ?_ | with_reducible refine' nx_brk ?_ | with_reducible refine' nx_cont ?_); intro htl; (try dsimp only at htl); (try dsimp only))))
  k_with "execs nil" => (k_here; (refine wpAny_execs_nil ?_); (try dsimp only))
  k_with "newList" => (k_here; k_dflt (refine' new_lst ?nlF ?nlN ?nlz ?_; (case nlF => k_asm); (case nlN => k_asm); (case nlz => rfl); k_whole); intro d' h' F' N' l1; (try k_sweep))
  k_with "newTuple" => (k_here; k_dflt (refine' new_tup ?nlF ?nlN ?nlz ?_; (case nlF => k_asm); (case nlN => k_asm); (case nlz => rfl); k_whole); intro d' h' F' N' l1; (try k_sweep))
  k_with "mine sub" => ((repeat (first | with_reducible exact sub_nil | with_reducible exact sub_app | with_reducible refine sub_cons ?_ | with_reducible refine sub_app' ?_)); done)
  k_with "mine end2" => ((case F => k_asm); (case N => k_asm); (case S => k_extra "mine sub"); (case P => (refine' lt_sub ?a ?b; (case a => with_reducible assumption); (case b => k_extra "mine sub"))); (case R => (refine' lt_sub ?a ?b; (case a => with_reducible assumption); (case b => k_extra "mine sub"))))
  obtain ⟨t1, r1, a0, a1, a2, a3, vs1, n1, e1, rfl, hv1, hm1, hm1'⟩ := hf
  obtain ⟨t2, r2, b0, b1, b2, b3, vs2, n2, e2, rfl, hv2, hm2, hm2'⟩ := hg
  unfold Ctr
  k_fill
  have hp1 : (PySem.Str.ofString "(").length = 1 := by decide +kernel
  have hp2 : (PySem.Str.ofString ")").length = 1 := by decide +kernel
  have hp3 : op.sym.length ≤ 2 := by cases op <;> decide +kernel
  have hL1 := hv1.length
  have hL2 := hv2.length
  have hnum : Spec.lookup (.str op.sym) [(.str (PySem.Str.ofString "&"), .int 19), (.str (PySem.Str.ofString "|"), .int 18), (.str (PySem.Str.ofString "^"), .int 32), (.str (PySem.Str.ofString "=="), .int 27), (.str (PySem.Str.ofString "<"), .int 20), (.str (PySem.Str.ofString ">"), .int 21), (.str (PySem.Str.ofString "<="), .int 29), (.str (PySem.Str.ofString ">="), .int 30)] = some (.int op.num) := by cases op <;> kernel_rfl
  have hcas : ∀ a b : Int, Spec.lookup (.int op.num) [(.int 19, .int (Builtin.bitAnd a b)), (.int 18, .int (Builtin.bitOr a b)), (.int 32, .int (Builtin.bitXor a b)), (.int 27, .int (65535 - Builtin.bitXor a b)), (.int 20, .int (b - Builtin.bitAnd a b)), (.int 21, .int (a - Builtin.bitAnd a b)), (.int 29, .int (65535 - a + Builtin.bitAnd a b)), (.int 30, .int (65535 - b + Builtin.bitAnd a b))] = some (.int (op.code a b)) := by intro a b; cases op <;> rfl
  have hbits := Op.code_eq op f.bits g.bits
  intro mean mg mb dp un gd cn cs a ccd cl outer A₀ base h₀ L m s Q E B F X N T hk hd hu hret
  refine wpAny_call ?_
  k_dflt ktr_enter
  k_with "subscriptTail Name Constant ref int" => (refine' tup_lit ?k1 ?k2 ?k3 ?k4 ?_ ?k6; k_dflt ((case k1 => k_asm); (case k2 => k_mem); (case k3 => rfl); (case k4 => exact rfl); (case k6 => with_unfolding_all rfl)))
  k_with "binaryOp Add str str" => (refine' add_str ?_ ?hsz; (case hsz => (simp only [sizeLine_eq, Str.length_append] at *; omega)); intro tcat tk)
  k_with "binaryOp Add ref ref" => (refine' add_lst ?F ?N ?a ?b ?z ?_; (k_dflt ((case F => k_asm); (case N => k_asm); (case a => k_mem); (case b => k_mem); (case z => (simp only [sizeLine_eq, List.length_append, List.length_cons, List.length_nil]; omega)))); (intro d' h' F' N' l1; (try k_sweep)))
  k_with "ite" => (first | (with_reducible refine' ite_neg ?c ?_; (case c => k_dflt (decide +kernel))) | (with_reducible refine' ite_pos ?c ?_; (case c => k_dflt (decide +kernel))))
  k_with "exec If" => (first | (have := FA2; k_dflt (refine' af_if (af3 op (iv f.pol.1) (iv f.pol.2) (iv g.pol.1) (iv g.pol.2)) (de3 op (iv f.pol.1) (iv f.pol.2) (iv g.pol.1) (iv g.pol.2)) ?iF ?iN ?wk3 ?go3; (case iF => k_asm); (case iN => k_asm)); (case' go3 => (intro hA3 tkA3 tA3 uA3 FA3 NA3; (try dsimp only)))) | (have := FA1; k_dflt (refine' af_if (af2 op (iv f.pol.1) (iv f.pol.2) (iv g.pol.1) (iv g.pol.2)) (de2 op (iv f.pol.1) (iv f.pol.2) (iv g.pol.1) (iv g.pol.2)) ?iF ?iN ?wk2 ?go2; (case iF => k_asm); (case iN => k_asm)); (case' go2 => (intro hA2 tkA2 tA2 uA2 FA2 NA2; (try dsimp only)))) | (k_dflt (refine' af_if (af1 op (iv f.pol.1) (iv f.pol.2) (iv g.pol.1) (iv g.pol.2)) (de1 op (iv f.pol.1) (iv f.pol.2) (iv g.pol.1) (iv g.pol.2)) ?iF ?iN ?wk1 ?go1; (case iF => k_asm); (case iN => k_asm)); (case' go1 => (intro hA1 tkA1 tA1 uA1 FA1 NA1; (try dsimp only)))))
  k_with "AfJ" => (k_dflt (refine' af_end ?eF ?eN ?eS ?em ?ex ?em2 ?ey ?em'; (case eF => k_asm); (case eN => k_asm); (case eS => k_extra "mine sub"); (case em => rfl); (case em2 => rfl); (case ex => (with_reducible first | exact (af1_t (by assumption)).1 | exact (af1_f (by assumption)).1 | exact (af2_t (by assumption)).1 | exact (af2_f (by assumption)).1 | exact (af3_t (by assumption)).1 | exact (af3_f (by assumption)).1)); (case ey => (with_reducible first | exact (af1_t (by assumption)).2 | exact (af1_f (by assumption)).2 | exact (af2_t (by assumption)).2 | exact (af2_f (by assumption)).2 | exact (af3_t (by assumption)).2 | exact (af3_f (by assumption)).2)); (case em' => (intro zz z1 z2; (repeat (first | exact rfl | (refine' Eq.trans (if_neg z1) ?_) | (refine' Eq.trans (if_neg z2) ?_)))))))
  k_with "subscriptTail Dict cons cons Name ref str" => (refine' tab_str_int (i := op.num) ?T ?l ?_ ?s; (k_dflt ((case T => exact TabAt.ofNews (by k_asm) (by k_mem) (by k_asm) (by k_asm) (by k_asm)); (case l => exact hnum); (case s => with_unfolding_all rfl))); intro tnum)
  k_with "subscriptTail Dict cons cons Name ref int" => (refine' tab_int_int (i := op.code (iv f.bits) (iv g.bits)) ?T ?l ?_ ?s; (k_dflt ((case T => exact TabAt.ofNews (by k_asm) (by k_mem) (by k_asm) (by k_asm) (by k_asm)); (case l => exact hcas _ _); (case s => with_unfolding_all rfl))); intro tcas)
  k_steps
  all_goals (
    refine' ret2 hret ?F ?N ?S ?P ?R ?O
    k_extra "mine end2"
    (case O => (refine' FmP.of ?hv ?hx ?hb ?hc ?hd
                (case hv => exact ((((IntsAre.cons _ _ .nil).append hv1).append (.cons _ _ .nil)).append hv2).append (.cons _ _ .nil))
                (case hx => rfl)
                (case hb => exact hbits)
                (case hc => exact (af_pol op f.pol.1 f.pol.2 g.pol.1 g.pol.2).1)
                (case hd => exact (af_pol op f.pol.1 f.pol.2 g.pol.1 g.pol.2).2))))
theorem half_ok {c : Int} (h0 : 0 ≤ c) (h6 : c < 6) : 0 ≤ c.fdiv 2 ∧ c.fdiv 2 < 3 ∧ c.fdiv 2 < 2 ^ 63 ∧ (c.fdiv 2).toNat < 3 := by
  rw [Int.fdiv_eq_ediv_of_nonneg _ (by decide)]
  have h1 : c / 2 < 3 := Int.ediv_lt_of_lt_mul (by decide) h6
  have h2 : 0 ≤ c / 2 := Int.ediv_nonneg h0 (by decide)
  exact ⟨h2, h1, Int.lt_trans h1 (by decide), (Int.toNat_lt h2).mpr h1⟩
theorem one_of3 {nm x y z : Nat} (h : nm = x ∨ nm = y ∨ nm = z) (hx : x < 4) (hy : y < 4) (hz : z < 4) : nm < 4 := by rcases h with rfl | rfl | rfl <;> assumption
theorem tilde_len : (Str.ofString "~").length = 1 := by decide +kernel
theorem leaf_c (w : World) (news : List (Addr × Obj)) (o : Addr) (tx ty tz t : Tok) (n : Nat) (c : Int) (x y z : Nat) (h0 : 0 ≤ c) (h6 : c < 6)
  (hx : x < 4) (hy : y < 4) (hz : z < 4)
  (hm : (o, tup [.int x tx, .int y ty, .int z tz] n) ∈ news) :
  Ctr w 256 news [.int c t, .ref o] 1 8 (fun r tl => ∃ nm neg, (nm = x ∨ nm = y ∨ nm = z) ∧ FmP (.lf nm neg) r tl) := by
  k_with_none
  w_top off
  k_with "mine mem" => (first | (refine' mem_here ?_; ktr_member) | (refine' mem_appR ?_; k_mem) | (refine' mem_appL ?_; k_mem) | fail)
  k_with "mine ltL" => ((repeat (first | with_reducible exact lt_up0 | with_reducible refine lt_up ?_)); done)
  k_with "mine tk2" => (first | with_reducible assumption | with_reducible exact le_one | with_reducible exact Nat.le_refl _ | with_reducible exact Nat.succ_le_of_lt (by with_reducible assumption) | (with_reducible refine le_up ?_; k_extra "mine tk2") | (with_reducible refine le_chain (by with_reducible assumption) ?_; k_extra "mine tk2"))
  k_with "mine tk1" => ((try dsimp only); k_extra "mine tk2")
  k_with "mine size" => (first | (refine' sz_arr ?szA ?szB; (case szA => with_reducible assumption); (case szB => rfl)) | (refine' sz_line ?szA ?szB; (case szA => with_reducible assumption); (case szB => rfl)) | exact Nat.le_of_ble_eq_true rfl | fail)
  k_with "mine room" => ((first | k_dflt refine' rm2 ?rmA ?rmB | k_dflt refine' rm1 ?rmA ?rmB | k_dflt refine' rm0 ?rmA); (case rmA => k_dflt assumption); (try (case rmB => rfl)))
  k_with "mine ne" => (refine neN ?_; (try dsimp only); first | exact ne_all (by with_reducible assumption) (by k_mem) | exact ne_all' (by with_reducible assumption) (by k_mem) | with_reducible assumption | exact Ne.symm (by with_reducible assumption) | exact ne_gt (by k_extra "mine ltL") | exact ne_lt (by k_extra "mine ltL") | exact ne_gt (by with_reducible assumption) | exact ne_lt (by with_reducible assumption) | exact ne_far (by with_reducible assumption) (by k_extra "mine ltL") | exact ne_far' (by with_reducible assumption) (by k_extra "mine ltL") | omega | fail)
  k_with "mine all" => (first | with_reducible assumption | exact all_ne (by with_reducible assumption) (by k_extra "mine sub") | fail)
  k_with "mine free" => (intro yy; intros; repeat (first | with_reducible exact rfl | with_reducible exact forget_off (by with_reducible assumption) | (refine' Eq.trans (if_neg ?fnC) ?_; (case fnC => first | with_reducible assumption | exact ne_free (by with_reducible assumption) (by kernel_rfl))) | exact rfl))
  k_with "evalPairs" => (k_here; dsimp only)
  k_with "Exists" => (k_here; dsimp only)
  k_with "execs cons" => (k_here; refine' nx_start ?_; intro tkz htkz; (try dsimp only at htkz))
  k_with "Nx" => ((try dsimp only); (first | (with_reducible refine' nx_cons0 ?_; intro tkz htkz) | (with_reducible refine' nx_cons ?_; intro tkz htl htkz) | ((first | with_reducible refine' nx_nil0 ?_ | with_reducible refine' nx_ret0 ?_ | with_reducible refine' nx_open0 ?_); (try dsimp only)) | ((first | with_reducible refine' nx_nil ?_ | with_reducible refine' nx_ret ?_ | with_reducible refine' nx_open ?_ | with_reducible refine' nx_brk ?_ | with_reducible refine' nx_cont ?_); intro htl; (try dsimp only at htl); (try dsimp only))))
  k_with "execs nil" => (k_here; (refine wpAny_execs_nil ?_); (try dsimp only))
  k_with "newList" => (k_here; k_dflt (refine' new_lst ?nlF ?nlN ?nlz ?_; (case nlF => k_asm); (case nlN => k_asm); (case nlz => rfl); k_whole); intro d' h' F' N' l1; (try k_sweep))
  k_with "newTuple" => (k_here; k_dflt (refine' new_tup ?nlF ?nlN ?nlz ?_; (case nlF => k_asm); (case nlN => k_asm); (case nlz => rfl); k_whole); intro d' h' F' N' l1; (try k_sweep))
  k_with "mine sub" => ((repeat (first | with_reducible exact sub_nil | with_reducible exact sub_app | with_reducible refine sub_cons ?_ | with_reducible refine sub_app' ?_)); done)
  k_with "mine end2" => ((case F => k_asm); (case N => k_asm); (case S => k_extra "mine sub"); (case P => (refine' lt_sub ?a ?b; (case a => with_reducible assumption); (case b => k_extra "mine sub"))); (case R => (refine' lt_sub ?a ?b; (case a => with_reducible assumption); (case b => k_extra "mine sub"))))
  unfold Ctr
  k_fill
  intro mean mg mb dp un gd cn cs a ccd cl outer A₀ base h₀ L m s Q E B F X N T hk hd hu hret
  obtain ⟨hc2, hc3, hc4, hc5⟩ := half_ok h0 h6
  have hpk : pick [x, y, z] 0 (c.fdiv 2).toNat = x ∨ pick [x, y, z] 0 (c.fdiv 2).toNat = y ∨ pick [x, y, z] 0 (c.fdiv 2).toNat = z :=
    lt3 (P := fun i => pick [x, y, z] 0 i = x ∨ pick [x, y, z] 0 i = y ∨ pick [x, y, z] 0 i = z) (.inl rfl) (.inr (.inl rfl)) (.inr (.inr rfl)) _ hc5
  refine wpAny_call ?_
  k_dflt ktr_enter
  k_with "subscriptTail Name BinOp ref int" => ((k_dflt (refine' tup_nat (vs := [.int x tx, .int y ty, .int z tz]) (pick [x, y, z] 0) ?k1 ?k5 ?k2 ?k3 ?k4 ?_ ?k6; (case k1 => exact News.isTup (by k_asm) (by k_mem)); (case k2 => assumption); (case k3 => assumption); (case k4 => assumption); (case k6 => with_unfolding_all rfl); (case k5 => exact lt3 ⟨_, rfl⟩ ⟨_, rfl⟩ ⟨_, rfl⟩))); intro nm tnm hnm; rw [← hnm] at hpk; clear hnm; (have hnm4 : nm < 4 := one_of3 hpk hx hy hz); (have hnm63 : nm < 2 ^ 63 := lt_lit (Nat.le_of_lt hnm4) rfl); (have hnmL := leafTxt_len nm); (have hnmC := iv_lt (leafCol nm)))
  k_with "subscriptTail Tuple cons Name ref int" => (k_dflt (refine' tup_strN (vs := [_, _, _, _]) leafTxt ?k1 ?k5 ?k2 ?k3 ?_ ?k6; (case k1 => exact News.isTup (by k_asm) (by k_mem)); (case k2 => assumption); (case k3 => assumption); (case k6 => with_unfolding_all rfl); (case k5 => exact lt4 ⟨_, rfl⟩ ⟨_, rfl⟩ ⟨_, rfl⟩ ⟨_, rfl⟩)); intro txt)
  k_with "subscriptTail Tuple cons Name ref int" => (k_dflt (refine' tup_intN (vs := [_, _, _, _]) (fun i => iv (leafCol i)) ?k1 ?k5 ?k2 ?k3 ?_ ?k6; (case k1 => exact News.isTup (by k_asm) (by k_mem)); (case k2 => assumption); (case k3 => assumption); (case k6 => with_unfolding_all rfl); (case k5 => exact lt4 ⟨_, rfl⟩ ⟨_, rfl⟩ ⟨_, rfl⟩ ⟨_, rfl⟩)); intro txc)
  k_with "binaryOp Add str str" => (refine' add_str ?_ ?hsz; (case hsz => exact sz_line (Nat.add_le_add (Nat.le_of_eq tilde_len) hnmL) rfl); intro tcat tk)
  k_steps
  · refine' ret2 hret ?F ?N ?S ?P ?R ?O
    k_extra "mine end2"
    (case O => exact ⟨nm, true, hpk, FmP.of (vs := [_, _]) (.cons _ _ (.cons _ _ .nil)) rfl (iv_not _) rfl (iv_shl hnm4)⟩)
  · refine' ret2 hret ?F ?N ?S ?P ?R ?O
    k_extra "mine end2"
    (case O => exact ⟨nm, false, hpk, FmP.of (vs := [_]) (.cons _ _ .nil) rfl rfl (iv_shl hnm4) rfl⟩)
theorem lo_some {x : Int} {n : Nat} (h : 0 ≤ x) : kms_lo (some x) n = min x.toNat n := if_neg (Int.not_lt.mpr h)
theorem hi_some {x : Int} {n : Nat} (h : 0 ≤ x) : kms_hi (some x) n = min x.toNat n := if_neg (Int.not_lt.mpr h)
theorem take_min {α : Type} (l : List α) (a b : Nat) : (l.drop a).take (min b l.length - min a l.length) = (l.drop a).take (b - a) := by
  rcases Nat.le_total l.length a with h | h
  · rw [List.drop_of_length_le h, List.take_nil, List.take_nil]
  · rw [Nat.min_eq_left h]
    rcases Nat.le_total b l.length with g | g
    · rw [Nat.min_eq_left g]
    · rw [Nat.min_eq_right g, List.take_of_length_le (Nat.le_of_eq List.length_drop), List.take_of_length_le (Nat.le_trans (Nat.le_of_eq List.length_drop) (Nat.sub_le_sub_right g a))]
section
variable {prog : Program} {w : World} {A : Around} {E : Value → Shared → Prop} {s : Shared} {value slice : PySem.Expr} {h₀ : Heap} {L l : Addr} {m : Str → Option Value} {news : List (Addr × Obj)} {vs zs : List Value} {e : Nat} {k : Int} {u : Tok} {Q : Value → Shared → Prop}
theorem lst_at (N : News h₀ L s.heap news) (hm : (l, W.listOf vs.toArray e) ∈ news) (h0 : 0 ≤ k) (h1 : k < vs.length) (hfit : k < 2 ^ 63) (h : ∀ v, vs[k.toNat]? = some v → Q v s)
    (hs : subscripted slice false (.ref l) (.int k u) = operate [.ref l, .int k u] (getItem (.ref l) (.int k u)) := by with_unfolding_all rfl) :
    wpAny (model prog w) A (subscriptTail value slice (.ref l) (.int k u)) Q E s := by
  have hl : k.toNat < vs.length := by omega
  have hL := News.isList N hm
  exact tail_any hL.typeIs slot_list_getitem.lookup (wpAny_getItem_list hL h0 hfit (x := vs[k.toNat]) (by simp [hl]) (h _ (List.getElem?_eq_getElem hl))) hs
theorem lst_map {α : Type} {ps : List α} {f : α → Value} (N : News h₀ L s.heap news) (hm : (l, W.listOf (ps.map f).toArray e) ∈ news) (h0 : 0 ≤ k) (h1 : k < ps.length) (hfit : k < 2 ^ 63) (h : ∀ p, ps[k.toNat]? = some p → Q (f p) s)
    (hs : subscripted slice false (.ref l) (.int k u) = operate [.ref l, .int k u] (getItem (.ref l) (.int k u)) := by with_unfolding_all rfl) :
    wpAny (model prog w) A (subscriptTail value slice (.ref l) (.int k u)) Q E s :=
  lst_at N hm h0 (by rw [List.length_map]; exact h1) hfit (fun v hv => by
    rw [List.getElem?_map] at hv
    cases hp : ps[k.toNat]? with
    | none => rw [hp] at hv; cases hv
    | some p => rw [hp] at hv; cases hv; exact h p hp) hs
theorem pick_upto {y : Int} (h : 0 ≤ y) : kms_pick vs none (some y) = vs.take y.toNat := by
  unfold kms_pick kms_lo kms_hi
  simp only [if_neg (show ¬ y < 0 by omega), List.drop_zero, Nat.sub_zero]
  exact kmk_take_min ..
theorem pick_from {y : Int} (h : 0 ≤ y) : kms_pick vs (some y) none = vs.drop y.toNat := by
  unfold kms_pick kms_lo kms_hi
  simp only [if_neg (show ¬ y < 0 by omega)]
  rw [kmk_drop_min]
  by_cases hl : y.toNat ≤ vs.length
  · rw [Nat.min_eq_left hl]; exact List.take_of_length_le (by rw [List.length_drop]; exact Nat.le_refl _)
  · rw [List.drop_of_length_le (by omega), List.take_nil]
theorem pick_run {x y : Int} (h : 0 ≤ x) (h2 : 0 ≤ y) : kms_pick vs (some x) (some y) = (vs.drop x.toNat).take (y.toNat - x.toNat) := by
  unfold kms_pick
  rw [lo_some h, hi_some h2, kmk_drop_min, take_min]
theorem cut_map_upto {α : Type} {ps : List α} {f : α → Value} {r : Int} (h : 0 ≤ r) : kms_pick (ps.map f) none (some r) = (ps.take r.toNat).map f := by
  rw [pick_upto h, List.map_take]
theorem to_nat2 {r : Int} (h : 0 ≤ r) : (r + 2).toNat = r.toNat + 2 := Int.toNat_add h (by decide)
theorem cut_map_from2 {α : Type} {ps : List α} {f : α → Value} {r : Int} (h : 0 ≤ r) : kms_pick (ps.map f) (some (r + 2)) none = (ps.drop (r.toNat + 2)).map f := by
  rw [pick_from (Int.le_trans h (Int.le_add_of_nonneg_right (by decide))), to_nat2 h, List.map_drop]
theorem cut_lst {vl vu : Value} {lo hi : Option Int} (F : Fr h₀ L s.heap m) (N : News h₀ L s.heap news) (hm : (l, W.listOf vs.toArray e) ∈ news) (pl : IsPart vl lo) (pu : IsPart vu hi) (he : kms_pick vs lo hi = zs)
    (h : ∀ D h', Fr h₀ L h' m → News h₀ L h' ((D, W.listOf zs.toArray 0) :: news) → (∀ p ∈ news, p.1 < D) → Q (.ref D) { s with heap := h' })
    (hs : subscripted slice false (.ref l) (.ref s.heap.objs.size) = operate [.ref s.heap.objs.size, .ref l] (getItem (.ref l) (.ref s.heap.objs.size))) (ht : ∀ r, letTemporaryGo value (.ref l) r = pure ()) (hz : vs.length ≤ sizeLine) :
    wpAny (model prog w) A (subscriptTail value slice (.ref l) (.ref s.heap.objs.size)) Q E { s with heap := s.heap.push { cls := .type "slice", data := .fields #[vl, vu, .none] } } :=
  kms_slice_lit F N (News.isList N hm) pl pu (by simpa using he) h hs ht (by simpa using hz)
theorem len_lst {Q : Value → Shared → Prop} (N : News h₀ L s.heap news) (hm : (l, W.listOf vs.toArray e) ∈ news) (hfit : vs.length < 2 ^ 62) (h : ∀ t tk, Q (.int (vs.length : Int) t) { s with toks := tk }) : wpAny (model prog w) A (call (.builtin "len") [.ref l]) Q E s :=
  len_list (News.isList N hm) (by rw [List.size_toArray]; omega) (by rw [List.size_toArray]; exact h _ _)
theorem mod_any {a b : Int} {t u : Tok} {Q : Value → Shared → Prop} (hb : 0 < b) (h : ∀ r t tk, 0 ≤ r → r < b → Q (.int r t) { s with toks := tk }) : wpAny (model prog w) A (binaryOp .Mod (.int a t) (.int b u)) Q E s :=
  mod_int' (by omega) (h _ _ _ (fmod_lo a hb) (fmod_hi a hb))
end
theorem FmAt.mono {f : Fm} {v : Value} {a b : List (Addr × Obj)} (h : FmAt f v a) (hs : ∀ x ∈ a, x ∈ b) : FmAt f v b := by
  obtain ⟨t, r, k0, k1, k2, k3, vs, n, e, h1, h2, h3, h4⟩ := h
  exact ⟨t, r, k0, k1, k2, k3, vs, n, e, h1, h2, hs _ h3, hs _ h4⟩
theorem FmP.at {f : Fm} {v : Value} {tl : List (Addr × Obj)} (h : FmP f v tl) : FmAt f v tl := by
  obtain ⟨t, r, k0, k1, k2, k3, vs, n, e, h1, h2, rfl⟩ := h
  exact ⟨t, r, k0, k1, k2, k3, vs, n, e, h1, h2, .head _, .tail _ (.head _)⟩
theorem Fm.leaves_pos : ∀ f : Fm, 1 ≤ f.leaves
  | .lf _ _ => Nat.le_refl _
  | .bn _ l r => Nat.le_trans l.leaves_pos (Nat.le_add_right _ _)
theorem str_len_app (a b : PySem.Str) : (a ++ b).length = a.length + b.length := Str.length_append a b
theorem Op.sym_len (op : Op) : op.sym.length ≤ 2 := by cases op <;> decide +kernel
theorem Fm.txt_len : ∀ f : Fm, f.txt.length + 4 ≤ 9 * f.leaves
  | .lf nm neg => by
    have h := leafTxt_len nm
    have h1 : (PySem.Str.ofString "~").length = 1 := by decide +kernel
    unfold Fm.txt Fm.leaves
    cases neg
    · simp only [Bool.false_eq_true, if_false]; omega
    · simp only [if_true, str_len_app]; omega
  | .bn op l r => by
    have h1 : (PySem.Str.ofString "(").length = 1 := by decide +kernel
    have h2 : (PySem.Str.ofString ")").length = 1 := by decide +kernel
    have h3 := op.sym_len
    have h4 := l.txt_len
    have h5 := r.txt_len
    have h6 := l.leaves_pos
    have h7 := r.leaves_pos
    show (PySem.Str.ofString "(" ++ l.txt ++ op.sym ++ r.txt ++ PySem.Str.ofString ")").length + 4 ≤ 9 * (l.leaves + r.leaves)
    simp only [str_len_app]
    omega
theorem Fm.row_len : ∀ f : Fm, f.row.length + 3 ≤ 5 * f.leaves
  | .lf nm neg => by
    unfold Fm.row Fm.leaves
    cases neg <;> simp
  | .bn op l r => by
    have h4 := l.row_len
    have h5 := r.row_len
    have h6 := l.leaves_pos
    have h7 := r.leaves_pos
    show ([7] ++ l.row ++ [op.num] ++ r.row ++ [8]).length + 3 ≤ 5 * (l.leaves + r.leaves)
    simp only [List.length_append, List.length_singleton]
    omega

/-! the things of _law_formula -/
noncomputable abbrev Ps := List (Value × Fm)
noncomputable def Things (P : Nat → Prop) (ps : Ps) (acc : List (Addr × Obj)) : Prop := ∀ p ∈ ps, FmAt p.2 p.1 acc ∧ p.2.names P
noncomputable def leavesOf (ps : Ps) : Nat := (ps.map fun p => p.2.leaves).sum
theorem leaves_le {ps : Ps} {p : Value × Fm} (h : p ∈ ps) : p.2.leaves ≤ leavesOf ps := by
  induction ps with
  | nil => cases h
  | cons q r ih =>
    unfold leavesOf
    rw [List.map_cons, List.sum_cons]
    rcases List.mem_cons.mp h with rfl | h
    · exact Nat.le_add_right _ _
    · exact Nat.le_trans (ih h) (Nat.le_add_left _ _)
noncomputable def merged (ps : Ps) (k : Nat) (p : Value × Fm) : Ps := ps.take k ++ [p] ++ ps.drop (k + 2)
theorem take_two {ps : Ps} {k : Nat} {p q : Value × Fm} (hp : ps[k]? = some p) (hq : ps[k + 1]? = some q) : ps = ps.take k ++ p :: q :: ps.drop (k + 2) := by
  obtain ⟨h1, e1⟩ := List.getElem?_eq_some_iff.mp hp
  obtain ⟨h2, e2⟩ := List.getElem?_eq_some_iff.mp hq
  have a := List.drop_eq_getElem_cons h1
  have b := List.drop_eq_getElem_cons h2
  conv => lhs; rw [← List.take_append_drop k ps, a, e1, b, e2]
theorem leaves_append (a b : Ps) : leavesOf (a ++ b) = leavesOf a + leavesOf b := by
  unfold leavesOf
  rw [List.map_append, List.sum_append]
theorem merged_leaves {ps : Ps} {k : Nat} {p q r : Value × Fm} (hp : ps[k]? = some p) (hq : ps[k + 1]? = some q) (hr : r.2.leaves = p.2.leaves + q.2.leaves) : leavesOf (merged ps k r) = leavesOf ps := by
  have e := take_two hp hq
  conv => rhs; rw [e]
  unfold merged
  rw [leaves_append, leaves_append, leaves_append]
  show leavesOf (ps.take k) + leavesOf [r] + leavesOf (ps.drop (k + 2)) = leavesOf (ps.take k) + (leavesOf (p :: q :: ps.drop (k + 2)))
  unfold leavesOf
  simp only [List.map_cons, List.map_nil, List.sum_cons, List.sum_nil]
  omega
theorem merged_length {ps : Ps} {k : Nat} {r : Value × Fm} (hk : k + 2 ≤ ps.length) : (merged ps k r).length = ps.length - 1 := by
  unfold merged
  rw [List.length_append, List.length_append, List.length_take, List.length_drop, List.length_singleton, Nat.min_eq_left (Nat.le_trans (Nat.le_add_right k 2) hk)]
  obtain ⟨m, hm⟩ := Nat.exists_eq_add_of_le hk
  rw [hm, Nat.add_sub_cancel_left]
  show k + 1 + m = k + 2 + m - 1
  rw [Nat.add_right_comm k 2 m]
  exact Nat.add_right_comm k 1 m
theorem merged_things {P : Nat → Prop} {ps : Ps} {k : Nat} {r : Value × Fm} {acc acc' : List (Addr × Obj)} (h : Things P ps acc) (hr : FmAt r.2 r.1 acc' ∧ r.2.names P) (hs : ∀ x ∈ acc, x ∈ acc') : Things P (merged ps k r) acc' := by
  intro p hp
  unfold merged at hp
  rcases List.mem_append.mp hp with hp | hp
  · rcases List.mem_append.mp hp with hp | hp
    · have := h p (List.mem_of_mem_take hp)
      exact ⟨this.1.mono hs, this.2⟩
    · rw [List.mem_singleton.mp hp]; exact hr
  · have := h p (List.mem_of_mem_drop hp)
    exact ⟨this.1.mono hs, this.2⟩

noncomputable def formFree : List Str := [Str.ofString "n", Str.ofString "spot", Str.ofString "joined", Str.ofString "things"]
noncomputable abbrev formM (m0 u : Str → Option Value) (D : Addr) : Str → Option Value := fun y => if y = Str.ofString "things" then some (.ref D) else forget formFree u m0 y
/-- between the turns -/
inductive FormJ (P : Nat → Prop) (m0 : Str → Option Value) (news : List (Addr × Obj)) (i : Nat) (m : Str → Option Value) (acc : List (Addr × Obj)) : Prop where
  | mk  (u : Str → Option Value) (D : Addr) (e : Nat) (ps : Ps) (fo : List (Addr × Obj)) (hF0 : m = formM m0 u D) (hF1 : acc = (D, W.listOf (ps.map (·.1)).toArray e) :: fo) (hF2 : ps.length + i = 4) (hF3 : leavesOf ps = 4) (hF4 : Things P ps fo) (hF5 : ∀ p ∈ fo, ∀ q ∈ news, q.1 < p.1) : FormJ P m0 news i m acc
section
variable {prog : Program} {w : World} {A : Around} {E : Value → Shared → Prop} {s : Shared} {h₀ : Heap} {env : Env}
theorem form_iter {body : List Stmt} {Q : Flow → Shared → Prop} {l D : Addr} {vs : List Value} {e ed : Nat} {m0 : Str → Option Value} {fo₀ nw news : List (Addr × Obj)} {ps : Ps} (P : Nat → Prop)
    (hh : A.handled = none) (F : Fr h₀ env.locals s.heap (fun z => if z = Str.ofString "things" then some (.ref D) else m0 z)) (N : News h₀ env.locals s.heap ((l, W.listOf vs.toArray e) :: (D, W.listOf (ps.map (·.1)).toArray ed) :: (fo₀ ++ nw)))
    (hsub : ∀ x ∈ news, x ∈ nw) (hv : vs.length = 3) (hps : ps.length = 4) (hlv : leavesOf ps = 4) (hT : Things P ps fo₀) (hord : ∀ p ∈ fo₀, ∀ q ∈ news, q.1 < p.1)
    (turn : ∀ i v u D eD ps fo h tk I oI, vs[i]? = some v → i < 3 → ps.length + i = 4 → leavesOf ps = 4 → Things P ps fo → (∀ p ∈ fo, ∀ q ∈ news, q.1 < p.1) → (∀ p ∈ fo, p.1 ≠ I) →
      Fr h₀ env.locals h (fun y => if y = Str.ofString "n" then some v else if y = Str.ofString "things" then some (.ref D) else forget formFree u m0 y) → News h₀ env.locals h ((I, oI) :: (D, W.listOf (ps.map (·.1)).toArray eD) :: (fo ++ ((l, W.listOf vs.toArray e) :: news))) →
      wpAny (model prog w) A (execs body env) (LedPost h₀ env.locals (FormJ P m0 news (i + 1)) I oI ((l, W.listOf vs.toArray e) :: news) { s with heap := h, toks := tk } Q) E { s with heap := h, toks := tk })
    (done : ∀ (u : Str → Option Value) (D : Addr) (eD : Nat) (p : Value × Fm) (fo : List (Addr × Obj)) (h : Heap) (tk : Nat), p.2.leaves = 4 → FmAt p.2 p.1 fo → p.2.names P → (∀ p ∈ fo, ∀ q ∈ news, q.1 < p.1) →
      Fr h₀ env.locals h (fun y => if y = Str.ofString "things" then some (.ref D) else forget formFree u m0 y) → News h₀ env.locals h ((D, W.listOf [p.1].toArray eD) :: (fo ++ ((l, W.listOf vs.toArray e) :: news))) → Q .next { s with heap := h, toks := tk }) :
    wpAny (model prog w) A (pyIter (.ref l)) (fun it s₂ => LoopAtV prog w A h₀ env (Str.ofString "n") body Q E it s₂) E s := by
  refine iter_led (acc₀ := (D, W.listOf (ps.map (·.1)).toArray ed) :: fo₀) (news := (l, W.listOf vs.toArray e) :: news) (e := e) (vs := vs) (fun i m acc => FormJ P m0 news i m acc) hh (.head _) F ?_ ?_ ?_ ?_
  · intro p hp
    rcases List.mem_append.mp hp with hp | hp
    · rcases List.mem_cons.mp hp with rfl | hp
      · exact N _ (.tail _ (.head _))
      · exact N _ (.tail _ (.tail _ (List.mem_append.mpr (.inl hp))))
    · rcases List.mem_cons.mp hp with rfl | hp
      · exact N _ (.head _)
      · exact N _ (.tail _ (.tail _ (List.mem_append.mpr (.inr (hsub _ hp)))))
  · refine ⟨m0, D, ed, ps, fo₀, ?_, rfl, by omega, hlv, hT, hord⟩
    funext y
    show _ = if y = _ then _ else forget formFree m0 m0 y
    unfold forget
    split
    · rfl
    · split <;> rfl
  · rintro i v m₁ acc h tk I oI hvi ⟨u, D', e', ps', fo, rfl, rfl, h2, h3, h4, h5⟩ hoff F₁ N₁
    have hi : i < 3 := by
      obtain ⟨hl, -⟩ := List.getElem?_eq_some_iff.mp hvi
      omega
    exact turn i v u D' e' ps' fo h tk I oI hvi hi h2 h3 h4 h5 (fun p hp => hoff p (List.mem_append.mpr (.inl (.tail _ hp)))) F₁ N₁
  · rintro m₁ acc h tk ⟨u, D', e', ps', fo, rfl, rfl, h2, h3, h4, h5⟩ F₁ N₁
    have hl : ps'.length = 1 := by omega
    obtain ⟨p, rfl⟩ := List.length_eq_one_iff.mp hl
    · refine done u D' e' p fo h tk ?_ (h4 p (.head _)).1 (h4 p (.head _)).2 h5 F₁ N₁
      simpa [leavesOf] using h3
theorem form_end {P : Nat → Prop} {L I D : Addr} {oI : Obj} {e i k : Nat} {m0 m' : Str → Option Value} {fo tl nw news news₁ : List (Addr × Obj)} {ps : Ps} {p q : Value × Fm} {r : Value} {op : Op} {s₁ : Shared} {h' : Heap} {tk' : Nat}
    (F : Fr h₀ L h' m') (N : News h₀ L h' ((D, W.listOf ((ps.take k).map (·.1) ++ [r] ++ (ps.drop (k + 2)).map (·.1)).toArray e) :: nw)) (hm : m' (Str.ofString "things") = some (.ref D)) (hm' : ∀ y, formFree.contains y = false → m' y = m0 y)
    (hD : ∀ x ∈ nw, x.1 < D) (hI : (I, oI) ∈ nw) (hfo : ∀ x ∈ fo, x ∈ nw) (htl : ∀ x ∈ tl, x ∈ nw) (hn : ∀ x ∈ news₁, x ∈ nw)
    (hlen : ps.length + i = 4) (hk : k + 2 ≤ ps.length) (hlv : leavesOf ps = 4) (hT : Things P ps fo) (hord : ∀ p ∈ fo, ∀ q ∈ news, q.1 < p.1) (hoff : ∀ p ∈ fo, p.1 ≠ I) (htlo : ∀ p ∈ tl, (I < p.1) ∧ ∀ q ∈ news, q.1 < p.1)
    (hp : ps[k]? = some p) (hq : ps[k + 1]? = some q) (hr : FmP (.bn op p.2 q.2) r tl) :
    LedEnd h₀ L (FormJ P m0 news (i + 1)) I oI news₁ s₁ { s₁ with heap := h', toks := tk' } := by
  have hmp : p ∈ ps := List.mem_of_getElem? hp
  have hmq : q ∈ ps := List.mem_of_getElem? hq
  refine ⟨h', tk', m', (D, W.listOf ((merged ps k (r, .bn op p.2 q.2)).map (·.1)).toArray e) :: (tl ++ fo), rfl, F, ?_, ?_, m', D, e, merged ps k (r, .bn op p.2 q.2), tl ++ fo, ?_, rfl, ?_, ?_, ?_, ?_⟩
  · intro x hx
    rcases List.mem_cons.mp hx with rfl | hx
    · exact N _ (.tail _ hI)
    · rcases List.mem_append.mp hx with hx | hx
      · rcases List.mem_cons.mp hx with rfl | hx
        · have e' : (merged ps k (r, .bn op p.2 q.2)).map (·.1) = (ps.take k).map (·.1) ++ [r] ++ (ps.drop (k + 2)).map (·.1) := by
            unfold merged
            rw [List.map_append, List.map_append]; rfl
          rw [e']
          exact N _ (.head _)
        · rcases List.mem_append.mp hx with hx | hx
          · exact N _ (.tail _ (htl _ hx))
          · exact N _ (.tail _ (hfo _ hx))
      · exact N _ (.tail _ (hn _ hx))
  · intro x hx
    rcases List.mem_cons.mp hx with rfl | hx
    · exact Nat.ne_of_gt (hD _ hI)
    · rcases List.mem_append.mp hx with hx | hx
      · exact Nat.ne_of_gt (htlo x hx).1
      · exact hoff x hx
  · funext y
    show _ = if y = _ then _ else forget formFree m' m0 y
    unfold forget
    split
    · rename_i h; rw [h]; exact hm
    · cases hc : formFree.contains y with
      | true => simp
      | false => simp only [Bool.false_eq_true, if_false]; exact hm' y hc
  · rw [merged_length hk]; omega
  · rw [merged_leaves hp hq rfl]; exact hlv
  · exact merged_things hT ⟨hr.at.mono fun x hx => List.mem_append.mpr (.inl hx), (hT p hmp).2, (hT q hmq).2⟩ fun x hx => List.mem_append.mpr (.inr hx)
  · intro x hx y hy
    rcases List.mem_append.mp hx with hx | hx
    · exact (htlo x hx).2 y hy
    · exact hord x hx y hy
end
theorem things_at {P : Nat → Prop} {ps : Ps} {fo nw : List (Addr × Obj)} {k : Nat} {p : Value × Fm} (hT : Things P ps fo) (hlv : leavesOf ps = 4) (hp : ps[k]? = some p) (hs : ∀ x ∈ fo, x ∈ nw) : FmAt p.2 p.1 nw ∧ p.2.txt.length ≤ 100 ∧ p.2.row.length ≤ 100 := by
  have hm := List.mem_of_getElem? hp
  have h1 := leaves_le hm
  have h2 := p.2.txt_len
  have h3 := p.2.row_len
  exact ⟨(hT p hm).1.mono hs, by omega, by omega⟩
theorem ret_fm {h₀ : Heap} {L : Addr} {m : Str → Option Value} {news nw acc : List (Addr × Obj)} {s : Shared} {Q : Value → Shared → Prop} {Post : Value → List (Addr × Obj) → Prop} {h' : Heap} {tk' : Nat} {v : Value} {f : Fm}
    (hret : ∀ r tl h' tk', Fr h₀ L h' m → News h₀ L h' (tl ++ news) → (∀ p ∈ tl, ∀ q ∈ news, q.1 < p.1) → Post r tl → Q r { s with heap := h', toks := tk' })
    (F : Fr h₀ L h' m) (N : News h₀ L h' nw) (hs : ∀ x ∈ news, x ∈ nw) (ha : ∀ x ∈ acc, x ∈ nw) (hf : FmAt f v acc) (ho : ∀ p ∈ acc, ∀ q ∈ news, q.1 < p.1) (post : ∀ tl, FmP f v tl → Post v tl) : Q v { s with heap := h', toks := tk' } := by
  obtain ⟨t, r, k0, k1, k2, k3, vs, n, e, h1, h2, h3, h4⟩ := hf
  refine hret v [(t, tup [.str f.txt k0, .ref r, .int (iv f.bits) k1, .int (iv f.pol.1) k2, .int (iv f.pol.2) k3] n), (r, W.listOf vs.toArray e)] h' tk' F ?_ ?_ (post _ ⟨t, r, k0, k1, k2, k3, vs, n, e, h1, h2, rfl⟩)
  · intro p hp
    rcases List.mem_append.mp hp with hp | hp
    · rcases List.mem_cons.mp hp with rfl | hp
      · exact N _ (ha _ h3)
      · rw [List.mem_singleton.mp hp]; exact N _ (ha _ h4)
    · exact N _ (hs _ hp)
  · intro p hp q hq
    rcases List.mem_cons.mp hp with rfl | hp
    · exact ho _ h3 q hq
    · rw [List.mem_singleton.mp hp]; exact ho _ h4 q hq
/-- the leaves made so far -/
noncomputable def RelLeaf (news : List (Addr × Obj)) (x y z : Nat) (i : Nat) (ys : List Value) (acc : List (Addr × Obj)) : Prop :=
  ∃ ps : Ps, ys = ps.map (·.1) ∧ ps.length = i ∧ leavesOf ps = i ∧ Things (fun i => i = x ∨ i = y ∨ i = z) ps acc ∧ ∀ p ∈ acc, ∀ q ∈ news, q.1 < p.1
theorem RelLeaf.nil {news : List (Addr × Obj)} {x y z : Nat} : RelLeaf news x y z 0 [] [] := ⟨[], rfl, rfl, rfl, (fun _ h => nomatch h), fun _ h => nomatch h⟩
theorem RelLeaf.snoc {news : List (Addr × Obj)} {x y z i : Nat} {ys : List Value} {acc tl : List (Addr × Obj)} {v : Value} (h : RelLeaf news x y z i ys acc) (hp : ∃ nm neg, (nm = x ∨ nm = y ∨ nm = z) ∧ FmP (.lf nm neg) v tl) (ho : ∀ p ∈ tl, ∀ q ∈ news, q.1 < p.1) : RelLeaf news x y z (i + 1) (ys ++ [v]) (tl ++ acc) := by
  obtain ⟨ps, rfl, h2, h3, h4, h5⟩ := h
  obtain ⟨nm, neg, hn, hf⟩ := hp
  refine ⟨ps ++ [(v, .lf nm neg)], by simp, by simp [h2], ?_, fun p hp => ?_, fun p hp q hq => ?_⟩
  · rw [leaves_append, h3]; rfl
  · rcases List.mem_append.mp hp with hp | hp
    · exact ⟨(h4 p hp).1.mono fun x hx => List.mem_append.mpr (.inr hx), (h4 p hp).2⟩
    · rw [List.mem_singleton.mp hp]; exact ⟨hf.at.mono fun x hx => List.mem_append.mpr (.inl hx), hn⟩
  · rcases List.mem_append.mp hp with hp | hp
    · exact ho p hp q hq
    · exact h5 p hp q hq
theorem four_ints {a b c d : Int} {ta tb tc td : Tok} {i : Nat} {v : Value} (h : ([Value.int a ta, .int b tb, .int c tc, .int d td].toArray)[i]? = some v) : ∃ n t, v = .int n t := by
  match i, h with
  | 0, h => exact ⟨_, _, (Option.some.inj h).symm⟩
  | 1, h => exact ⟨_, _, (Option.some.inj h).symm⟩
  | 2, h => exact ⟨_, _, (Option.some.inj h).symm⟩
  | 3, h => exact ⟨_, _, (Option.some.inj h).symm⟩
  | i + 4, h => simp at h
theorem three_ints {a b c d : Int} {ta tb tc td : Tok} {i : Nat} {v : Value} {B : Int} (ha : 0 ≤ a ∧ a < B) (hb : 0 ≤ b ∧ b < B) (hc : 0 ≤ c ∧ c < B) (h : (List.take (Int.toNat 3) [Value.int a ta, .int b tb, .int c tc, .int d td])[i]? = some v) : ∃ n t, v = .int n t ∧ 0 ≤ n ∧ n < B := by
  match i, h with
  | 0, h => exact ⟨_, _, (Option.some.inj h).symm, ha⟩
  | 1, h => exact ⟨_, _, (Option.some.inj h).symm, hb⟩
  | 2, h => exact ⟨_, _, (Option.some.inj h).symm, hc⟩
  | i + 3, h => cases h
theorem at_succ {α : Type} {l : List α} {k : Int} {q : α} (h0 : 0 ≤ k) (h : l[(k + 1).toNat]? = some q) : l[k.toNat + 1]? = some q := by
  have e : (k + 1).toNat = k.toNat + 1 := by omega
  rw [← e]; exact h
theorem fmod6 (n : Int) : 0 ≤ n.fmod 6 ∧ n.fmod 6 < 6 := by
  rw [Int.fmod_eq_emod_of_nonneg _ (by decide)]
  exact ⟨Int.emod_nonneg _ (by decide), Int.emod_lt_of_pos _ (by decide)⟩
theorem form_c (w : World) (news : List (Addr × Obj)) (ca o sg : Addr) (n0 n1 n2 n3 : Int) (k0 k1 k2 k3 tx ty tz : Tok) (ne no ns : Nat) (x y z : Nat) (hx : x < 4) (hy : y < 4) (hz : z < 4)
  (s0 s1 s2 s3 s4 s5 s6 s7 : Op) (j0 j1 j2 j3 j4 j5 j6 j7 : Tok)
  (hc : (ca, W.listOf [Value.int n0 k0, .int n1 k1, .int n2 k2, .int n3 k3].toArray ne) ∈ news)
  (ho : (o, tup [.int x tx, .int y ty, .int z tz] no) ∈ news)
  (hb0 : 0 ≤ n0 ∧ n0 < 10 ^ 9) (hb1 : 0 ≤ n1 ∧ n1 < 10 ^ 9) (hb2 : 0 ≤ n2 ∧ n2 < 10 ^ 9)
  (hs : (sg, tup [.str s0.sym j0, .str s1.sym j1, .str s2.sym j2, .str s3.sym j3, .str s4.sym j4, .str s5.sym j5, .str s6.sym j6, .str s7.sym j7] ns) ∈ news) :
  Ctr w 268 news [.ref ca, .ref o, .ref sg] 2 30 (fun r tl => ∃ f : Fm, f.leaves = 4 ∧ f.names (fun i => i = x ∨ i = y ∨ i = z) ∧ FmP f r tl) := by
  k_with_none
  w_top off
  k_with "mine mem" => (first | (refine' mem_here ?_; ktr_member) | (refine' mem_appR ?_; k_mem) | (refine' mem_appL ?_; k_mem) | fail)
  k_with "mine ltL" => ((repeat (first | with_reducible exact lt_up0 | with_reducible refine lt_up ?_)); done)
  k_with "mine tk2" => (first | with_reducible assumption | with_reducible exact le_one | with_reducible exact Nat.le_refl _ | with_reducible exact Nat.succ_le_of_lt (by with_reducible assumption) | (with_reducible refine le_up ?_; k_extra "mine tk2") | (with_reducible refine le_chain (by with_reducible assumption) ?_; k_extra "mine tk2"))
  k_with "mine tk1" => ((try dsimp only); k_extra "mine tk2")
  k_with "mine size" => (first | (refine' sz_arr ?szA ?szB; (case szA => with_reducible assumption); (case szB => rfl)) | (refine' sz_line ?szA ?szB; (case szA => with_reducible assumption); (case szB => rfl)) | exact Nat.le_of_ble_eq_true rfl | fail)
  k_with "mine room" => ((first | k_dflt refine' rm2 ?rmA ?rmB | k_dflt refine' rm1 ?rmA ?rmB | k_dflt refine' rm0 ?rmA); (case rmA => k_dflt assumption); (try (case rmB => rfl)))
  k_with "mine ne" => (refine neN ?_; (try dsimp only); first | exact ne_all (by with_reducible assumption) (by k_mem) | exact ne_all' (by with_reducible assumption) (by k_mem) | with_reducible assumption | exact Ne.symm (by with_reducible assumption) | exact ne_gt (by k_extra "mine ltL") | exact ne_lt (by k_extra "mine ltL") | exact ne_gt (by with_reducible assumption) | exact ne_lt (by with_reducible assumption) | exact ne_far (by with_reducible assumption) (by k_extra "mine ltL") | exact ne_far' (by with_reducible assumption) (by k_extra "mine ltL") | omega | fail)
  k_with "mine all" => (first | with_reducible assumption | exact all_ne (by with_reducible assumption) (by k_extra "mine sub") | fail)
  k_with "mine free" => (intro yy; intros; repeat (first | with_reducible exact rfl | with_reducible exact forget_off (by with_reducible assumption) | (refine' Eq.trans (if_neg ?fnC) ?_; (case fnC => first | with_reducible assumption | exact ne_free (by with_reducible assumption) (by kernel_rfl))) | exact rfl))
  k_with "evalPairs" => (k_here; dsimp only)
  k_with "Exists" => (k_here; dsimp only)
  k_with "execs cons" => (k_here; refine' nx_start ?_; intro tkz htkz; (try dsimp only at htkz))
  k_with "Nx" => ((try dsimp only); (first | (with_reducible refine' nx_cons0 ?_; intro tkz htkz) | (with_reducible refine' nx_cons ?_; intro tkz htl htkz) | ((first | with_reducible refine' nx_nil0 ?_ | with_reducible refine' nx_ret0 ?_ | with_reducible refine' nx_open0 ?_); (try dsimp only)) | ((first | with_reducible refine' nx_nil ?_ | with_reducible refine' nx_ret ?_ | with_reducible refine' nx_open ?_ | with_reducible refine' nx_brk ?_ | with_reducible refine' nx_cont ?_); intro htl; (try dsimp only at htl); (try dsimp only))))
  k_with "execs nil" => (k_here; (refine wpAny_execs_nil ?_); (try dsimp only))
  k_with "newList" => (k_here; k_dflt (refine' new_lst ?nlF ?nlN ?nlz ?_; (case nlF => k_asm); (case nlN => k_asm); (case nlz => rfl); k_whole); intro d' h' F' N' l1; (try k_sweep))
  k_with "newTuple" => (k_here; k_dflt (refine' new_tup ?nlF ?nlN ?nlz ?_; (case nlF => k_asm); (case nlN => k_asm); (case nlz => rfl); k_whole); intro d' h' F' N' l1; (try k_sweep))
  k_with "mine sub" => ((repeat (first | with_reducible exact sub_nil | with_reducible exact sub_app | with_reducible refine sub_cons ?_ | with_reducible refine sub_app' ?_)); done)
  k_with "mine end2" => ((case F => k_asm); (case N => k_asm); (case S => k_extra "mine sub"); (case P => (refine' lt_sub ?a ?b; (case a => with_reducible assumption); (case b => k_extra "mine sub"))); (case R => (refine' lt_sub ?a ?b; (case a => with_reducible assumption); (case b => k_extra "mine sub"))))
  k_with "mine enterC" => (refine' code_defC ?k1 ?k2 ?k3 ?k4 ?k5 ?kA ?kF ?kK ?k6 ?k7 ?k8 ?k9 ?kB ?kD ?_ ?c2 ?c3 ?c4; (case kA => exact rfl); (case kF => exact rfl); (case kK => assumption); (case k1 => k_asm); (case k2 => k_asm); (case k3 => k_asm); (case k4 => k_asm); (case k5 => k_asm); (case k6 => k_is); (case k7 => k_is); (case k8 => ktr_room); (case k9 => exact BindsTo.of_eq rfl); (case kB => exact rfl); (case kD => decide +kernel); (case c2 => exact rfl); (case c3 => exact rfl); (case c4 => exact rfl); k_whole; intro g' L' h' tk' cells' FG' F' N' Y' B' X' T' l1; k_cells Y'; (try simp only [List.cons_append, List.nil_append] at N'); (try dsimp only); (try k_fold))
  unfold Ctr
  k_fill
  intro mean mg mb dp un gd cn cs a ccd cl outer A₀ base h₀ L m s Q E B F X N T hk hd hu hret
  refine wpAny_call ?_
  k_dflt (k_extra "mine enterC")
  k_with "CompSrc" => (k_dflt (refine' LCg.CompSrc.ledger (k := ne) ?h ?F ?N ?m ?z ?_; (case h => rfl); (case F => k_asm); (case N => k_asm); (case m => k_mem); (case z => exact Nat.le_of_ble_eq_true rfl)); intro gg; k_dflt ((refine' comp_acc (RelLeaf news x y z) ?h0 ?turn ?hS ?fin); (case h0 => exact RelLeaf.nil); (case hS => exact fun acc => Or.inr ⟨_, List.mem_append.mpr (.inr (.tail _ hc)), rfl, _, rfl⟩)); (case' turn => (intro i v ys acc I oI C oC D m₂ hh tkh E' hi hv hrel hCC hxx F N off ne; k_dflt (obtain ⟨nv, tv, rfl⟩ := four_ints hv); (try dsimp only); (try k_fold))); (case' fin => (intro ys acc hrel; k_dflt (obtain ⟨ps, rfl, hp1, hp2, hTh, hor⟩ := hrel))))
  k_with "FinA" => ((unfold LCg.FinA); intro Dth hth tkth Fth Nth oth; (try dsimp only))
  k_with "binaryOp Mod int int" => (refine' mod_any ?xb ?_; (case xb => k_dflt omega); intro rm tm tkm hr0 hr1)
  k_with "call ref" => (k_dflt (refine' Ctr.use (leaf_c w _ o tx ty tz _ no _ x y z ?h0 ?h6 hx hy hz ?hm) ?B ?F ?X ?N ?T ?hk ?hd ?hu ?ret; (case B => k_asm); (case F => k_asm); (case X => k_asm); (case N => k_asm); (case T => k_asm); (case hk => rfl); (case hd => ktr_room); (case hu => ktr_units); (case h0 => assumption); (case h6 => assumption); (case hm => (refine' List.mem_cons_of_mem _ (List.mem_cons_of_mem _ (List.mem_cons_of_mem _ (List.mem_append.mpr (.inr (List.mem_cons_of_mem _ ho)))))))); (intro r tl h' tk' F' N' ord post; k_dflt (exact ⟨h', tk', tl, rfl, F', N', ord, hrel.snoc post fun p hp q hq => ord p hp q (List.mem_cons_of_mem _ (List.mem_cons_of_mem _ (List.mem_cons_of_mem _ (List.mem_append.mpr (.inr (List.mem_cons_of_mem _ hq))))))⟩)))
  k_with "subscriptTail Name Slice ref ref" => (k_dflt (refine' cut_lst ?xF ?xN ?xm ?xp ?xq ?xe ?_ ?xs ?xt ?xz; (case xF => k_asm); (case xN => k_asm); (case xm => exact List.mem_cons_of_mem _ (List.mem_append.mpr (.inr (List.mem_cons_of_mem _ hc)))); (case xp => kmk_part); (case xq => kmk_part); (case xe => exact pick_upto (by decide)); (case xs => with_unfolding_all rfl); (case xt => kmk_pure); (case xz => exact Nat.le_of_ble_eq_true rfl)); intro Dsl hsl Fsl Nsl lsl)
  k_with "pyIter ref" => (k_dflt (refine' form_iter (news := news) (fun i => i = x ∨ i = y ∨ i = z) ?xh ?xF ?xN ?xs ?xv ?xp ?xl ?xT ?xo ?turnF ?doneF; (case xh => rfl); (case xF => k_asm); (case xN => k_asm); (case xs => k_extra "mine sub"); (case xv => rfl); (case xp => exact hp1); (case xl => exact hp2); (case xT => exact hTh); (case xo => exact hor)); (case' turnF => (intro i v u D eD ps fo hh tkh I oI hv hi hlen hlv hTh hord hoff F1 N1; k_dflt (obtain ⟨nv, tv, rfl, hnv0, hnv9⟩ := three_ints hb0 hb1 hb2 hv); (try dsimp only); (try k_fold))); (case' doneF => (intro u D eD p fo hh tkh hlv hfm hnm hord F1 N1; (try dsimp only); (try k_fold))))
  k_with "subscriptTail Name Name ref int" => (k_dflt (refine' lst_map ?xN ?xm ?x0 ?x1 ?xf ?_ ?xs; (case xN => k_asm); (case xm => k_mem); (case x0 => omega); (case x1 => omega); (case xf => omega); (case xs => with_unfolding_all rfl)); intro p hp)
  k_with "subscriptTail Name BinOp ref int" => (k_dflt (refine' lst_map ?xN ?xm ?x0 ?x1 ?xf ?_ ?xs; (case xN => k_asm); (case xm => k_mem); (case x0 => omega); (case x1 => omega); (case xf => omega); (case xs => with_unfolding_all rfl)); intro q hq; k_dflt (have hq' := at_succ (by assumption) hq))
  k_with "subscriptTail Name BinOp ref int" => (k_dflt (refine' tup_str (fun i => (pick [s0, s1, s2, s3, s4, s5, s6, s7] Op.amp i).sym) ?xt ?xf ?x0 ?x1 ?x2 ?_ ?xs; (case xt => exact News.isTup (by k_asm) (by k_mem)); (case x0 => omega); (case x1 => assumption); (case x2 => omega); (case xs => with_unfolding_all rfl); (case xf => exact lt8 ⟨_, rfl⟩ ⟨_, rfl⟩ ⟨_, rfl⟩ ⟨_, rfl⟩ ⟨_, rfl⟩ ⟨_, rfl⟩ ⟨_, rfl⟩ ⟨_, rfl⟩)); intro tsg)
  k_with "call builtin:len" => (k_dflt (refine' len_lst ?xN ?xm ?xf ?_; (case xN => k_asm); (case xm => k_mem); (case xf => (rw [List.length_map]; omega))); rw [List.length_map]; intro tln tkl)
  k_with "binaryOp Mod int int" => (refine' mod_any ?xb ?_; (case xb => k_dflt omega); intro rm tm tkm hr0 hr1)
  k_with "call ref" => (k_dflt (refine' Ctr.use (join_c w _ _ p.2 q.2 p.1 q.1 tsg ?yf ?yg ?yF ?yG ?yf' ?yg') ?yB ?yFr ?yX ?yN ?yT ?yk ?yd ?yu ?yret; (case yB => k_asm); (case yFr => k_asm); (case yX => k_asm); (case yN => k_asm); (case yT => k_asm); (case yk => rfl); (case yd => ktr_room); (case yu => ktr_units); (case yf => exact (things_at hTh hlv hp (by k_extra "mine sub")).1); (case yg => exact (things_at hTh hlv hq' (by k_extra "mine sub")).1); (case yF => exact (things_at hTh hlv hp sub_nil).2.1); (case yG => exact (things_at hTh hlv hq' sub_nil).2.1); (case yf' => exact (things_at hTh hlv hp sub_nil).2.2); (case yg' => exact (things_at hTh hlv hq' sub_nil).2.2)); (intro r tl h' tk' F' N' ord post; (try dsimp only)))
  k_with "subscriptTail Name Slice ref ref" => (k_dflt (refine' cut_lst ?zF ?zN ?zm ?zp ?zq ?ze ?_ ?zs ?zt ?zz; (case zF => k_asm); (case zN => k_asm); (case zm => k_mem); (case zp => kmk_part); (case zq => kmk_part); (case ze => first | exact cut_map_upto (by assumption) | exact cut_map_from2 (by assumption)); (case zs => with_unfolding_all rfl); (case zt => kmk_pure); (case zz => (rw [List.length_map, sizeLine_eq]; omega))); intro Dz hz Fz Nz lz)
  k_with "binaryOp Add ref ref" => (k_dflt (refine' add_lst ?aF ?aN ?aa ?ab ?az ?_; (case aF => k_asm); (case aN => k_asm); (case aa => k_mem); (case ab => k_mem); (case az => (simp only [sizeLine_eq, List.length_append, List.length_map, List.length_take, List.length_drop, List.length_cons, List.length_nil]; omega))); intro d' h' F' N' l0)
  k_with "LedPost" => (dsimp only [LedPost])
  k_with "LedEnd" => (k_dflt (refine' form_end ?eF ?eN ?em ?em' ?eD ?eI ?efo ?etl ?en hlen ?ek hlv hTh hord hoff ?eo hp hq' post; (case eF => k_asm); (case eN => k_asm); (case em => rfl); (case em' => k_extra "mine free"); (case eD => assumption); (case eI => k_mem); (case efo => k_extra "mine sub"); (case etl => k_extra "mine sub"); (case en => k_extra "mine sub"); (case ek => omega); (case eo => exact fun pp hpp => ⟨ord pp hpp (I, oI) (by k_mem), fun qq hqq => ord pp hpp qq (by revert qq; k_extra "mine sub")⟩)))
  k_with "LeaveK" => (k_dflt (refine' leaveK_ ?k1 ?k2 ?_; (case k1 => k_asm); (case k2 => k_asm); k_whole); intro kF kN; k_dflt (refine' ret_fm hret kF kN ?g1 ?g2 hfm hord ?g3; (case g1 => k_extra "mine sub"); (case g2 => k_extra "mine sub"); (case g3 => exact fun tl htl => ⟨_, hlv, hnm, htl⟩)))
  k_steps
noncomputable def ettL : List (PySem.Str × Int) := [(PySem.Str.ofString "!", 54), (PySem.Str.ofString "!=", 28), (PySem.Str.ofString "%", 24), (PySem.Str.ofString "%=", 40), (PySem.Str.ofString "&", 19), (PySem.Str.ofString "&=", 41), (PySem.Str.ofString "(", 7), (PySem.Str.ofString ")", 8), (PySem.Str.ofString "*", 16), (PySem.Str.ofString "**", 35), (PySem.Str.ofString "**=", 46), (PySem.Str.ofString "*=", 38), (PySem.Str.ofString "+", 14), (PySem.Str.ofString "+=", 36), (PySem.Str.ofString ",", 12), (PySem.Str.ofString "-", 15), (PySem.Str.ofString "-=", 37), (PySem.Str.ofString "->", 51), (PySem.Str.ofString ".", 23), (PySem.Str.ofString "...", 52), (PySem.Str.ofString "/", 17), (PySem.Str.ofString "//", 47), (PySem.Str.ofString "//=", 48), (PySem.Str.ofString "/=", 39), (PySem.Str.ofString ":", 11), (PySem.Str.ofString ":=", 53), (PySem.Str.ofString ";", 13), (PySem.Str.ofString "<", 20), (PySem.Str.ofString "<<", 33), (PySem.Str.ofString "<<=", 44), (PySem.Str.ofString "<=", 29), (PySem.Str.ofString "=", 22), (PySem.Str.ofString "==", 27), (PySem.Str.ofString ">", 21), (PySem.Str.ofString ">=", 30), (PySem.Str.ofString ">>", 34), (PySem.Str.ofString ">>=", 45), (PySem.Str.ofString "@", 49), (PySem.Str.ofString "@=", 50), (PySem.Str.ofString "[", 9), (PySem.Str.ofString "]", 10), (PySem.Str.ofString "^", 32), (PySem.Str.ofString "^=", 43), (PySem.Str.ofString "{", 25), (PySem.Str.ofString "|", 18), (PySem.Str.ofString "|=", 42), (PySem.Str.ofString "}", 26), (PySem.Str.ofString "~", 31)]
noncomputable def ettD : List (PySem.Str × PyData) := ettL.map fun p => (p.1, .int p.2)
noncomputable def ettT : List (PyData × PyData) := ettL.map fun p => (.str p.1, .int p.2)
theorem ett_tab (w : World) {h : Heap} (X : (Mine.hd.heap_1_39 w.params).In h) : StrTab PySem.Challenge.rw_xn0025_01.row.prog w h 113 ettT := by
  have e := kt_tab_in (a := 113) (D := ettD) PySem.Challenge.rw_xn0025_01.row.prog w X (by kernel_rfl) (by decide +kernel) (by kernel_rfl)
  have e2 : ettD.map (fun p => (PyData.str p.1, p.2)) = ettT := by unfold ettD ettT; rw [List.map_map]; rfl
  rw [e2] at e; exact e
noncomputable def tokOf (x : PySem.Str) : Option Int := ettL.lookup x
theorem look_map (x : PySem.Str) : ∀ l : List (PySem.Str × Int), Spec.lookup (.str x) (l.map fun p => (PyData.str p.1, PyData.int p.2)) = (l.lookup x).map PyData.int
  | [] => rfl
  | p :: r => by
    have ih := look_map x r
    rw [List.map_cons, List.lookup_cons]
    show (if Spec.same (PyData.str p.1) (PyData.str x) = true then some (PyData.int p.2) else _) = _
    rw [PyProof.V.same_str]
    by_cases h : p.1 = x
    · have h' : (x == p.1) = true := by rw [h]; exact beq_self_eq_true x
      simp [h, h']
    · have h' : (x == p.1) = false := by rw [beq_eq_false_iff_ne]; exact fun e => h e.symm
      simp [h, h', ih]
theorem ett_look (x : PySem.Str) : Spec.lookup (.str x) ettT = (tokOf x).map PyData.int := look_map x ettL
noncomputable def chr (l : List Nat) : PySem.Str := ⟨l.toArray⟩
noncomputable def isTok (l : List Nat) : Bool := (tokOf (chr l)).isSome
/-- how many signs the next piece has -/
noncomputable def sz (l : List Nat) : Nat := if isTok (l.take 1) then (if isTok (l.take 3) then 3 else if isTok (l.take 2) then 2 else 1) else 1
inductive Cut : List Nat → List (List Nat) → Prop where
  | nil : Cut [] []
  | step {l : List Nat} {r : List (List Nat)} : l ≠ [] → Cut (l.drop (sz l)) r → Cut l (l.take (sz l) :: r)
theorem sz_pos (l : List Nat) : 1 ≤ sz l ∧ sz l ≤ 3 := by
  unfold sz
  repeat' split
  all_goals decide
noncomputable def mkStrs (ts : List (List Nat)) : List PySem.Str := ts.map chr

section
variable {prog : Program} {w : World} {A : Around} {E : Value → Shared → Prop} {Q : Flow → Shared → Prop} {s : Shared} {env : Env} {h₀ : Heap} {L : Addr}
noncomputable def cutFree : List Str := [Str.ofString "place", Str.ofString "size"]
noncomputable abbrev cutM (m0 u : Str → Option Value) (p : Nat) (tp : Tok) : Str → Option Value := fun y => if y = Str.ofString "place" then some (.int (p : Int) tp) else forget cutFree u m0 y
/-- the tokens of a list of texts -/
noncomputable def Toks (B : Nat) (vs : List Value) : Prop := ∀ v ∈ vs, ∃ y t, v = .str y t ∧ B > t ∧ t ≠ 0
theorem Toks.mono {B C : Nat} {vs : List Value} (h : Toks B vs) (hBC : B ≤ C) : Toks C vs := fun v hv => by
  obtain ⟨y, t, e, h1, h2⟩ := h v hv
  exact ⟨y, t, e, Nat.lt_of_lt_of_le h1 hBC, h2⟩
inductive CutJ (m0 : Str → Option Value) (D : Addr) (cs : List Nat) (news : List (Addr × Obj)) (n tk : Nat) (m : Str → Option Value) (nw : List (Addr × Obj)) : Prop where
  | mk  (u : Str → Option Value) (p : Nat) (tp : Tok) (vs : List Value) (e : Nat) (ts : List (List Nat)) (hF0 : m = cutM m0 u p tp) (hF1 : nw = (D, W.listOf vs.toArray e) :: news) (hF2 : n + p = cs.length + 3) (hF3 : p ≤ cs.length + 2) (hF4 : vs.length ≤ p) (hF5 : StrsAre vs (mkStrs ts)) (hF6 : (∀ r, Cut (cs.drop p) r → Cut cs (ts ++ r))) (hF7 : 1 ≤ tk) (hF8 : Toks tk vs) : CutJ m0 D cs news n tk m nw
theorem cut_while {test : PySem.Expr} {body : List Stmt} {pos : Pos} {m0 : Str → Option Value} {news : List (Addr × Obj)} {D : Addr} {tp : Tok} {e : Nat} (cs : List Nat)
    (F : Fr h₀ L s.heap (fun y => if y = Str.ofString "place" then some (.int 0 tp) else m0 y)) (N : News h₀ L s.heap ((D, W.listOf #[] e) :: news)) (htk : 1 ≤ s.toks)
    (turn : ∀ u p tp vs e ts h tk n, n + p = cs.length + 3 → p ≤ cs.length + 2 → vs.length ≤ p → StrsAre vs (mkStrs ts) → (∀ r, Cut (cs.drop p) r → Cut cs (ts ++ r)) → 1 ≤ tk → Toks tk vs →
      Fr h₀ L h (fun y => if y = Str.ofString "place" then some (.int (p : Nat) tp) else forget cutFree u m0 y) → News h₀ L h ((D, W.listOf vs.toArray e) :: news) →
      wpAny (model prog w) A (isTrue test env (eval test env)) (fun b s₂ =>
        TkLe tk s₂ (if b = true then wpAny (model prog w) A (execs body env) (WhileTk h₀ L s (CutJ m0 D cs news) n) E s₂ else Q .next s₂)) E { s with heap := h, toks := tk })
    (hE : PassesOwn (model prog w) A env E := by passes_own) :
    wpAny (model prog w) A (exec (.While test body [] pos) env) Q E s := by
  refine While_tk (CutJ m0 D cs news) (n₀ := cs.length + 3) F N ⟨m0, 0, tp, [], e, [], ?_, rfl, rfl, Nat.zero_le _, Nat.le_refl _, .nil, fun r h => h, htk, fun _ h => nomatch h⟩ ?_ hE
  · funext y
    show _ = if y = _ then _ else forget cutFree m0 m0 y
    unfold forget
    split
    · rfl
    · split <;> rfl
  · rintro n m₁ nw h tk F₁ N₁ _ ⟨u, p, tp, vs, e, ts, rfl, rfl, h1, h2, h3, h4, h5, h6, h7⟩
    exact turn u p tp vs e ts h tk n h1 h2 h3 h4 h5 h6 h7 F₁ N₁
theorem cut_end {m0 m' : Str → Option Value} {D : Addr} {cs : List Nat} {news nw : List (Addr × Obj)} {n p k : Nat} {v : Int} {tp tv : Tok} {vs : List Value} {e : Nat} {ts : List (List Nat)} {s₁ : Shared} {h' : Heap} {tk tk' : Nat} {y : PySem.Str}
    (F : Fr h₀ L h' m') (N : News h₀ L h' nw) (hs : ∀ x ∈ (D, W.listOf (vs.toArray.push (Value.str y tv)) e) :: news, x ∈ nw)
    (hm : m' (Str.ofString "place") = some (.int v tp)) (hvk : v = (p : Int) + (k : Int)) (hm' : ∀ y, cutFree.contains y = false → m' y = m0 y)
    (hn : n + p = cs.length + 3) (hl : vs.length ≤ p) (hv : StrsAre vs (mkStrs ts)) (hc : ∀ r, Cut (cs.drop p) r → Cut cs (ts ++ r)) (h1 : 1 ≤ tk) (hT : Toks tk vs) (htv : tk ≤ tv ∧ tk' > tv) (hp : p < cs.length) (hk : k = sz (cs.drop p)) (hy : y = chr ((cs.drop p).take k)) :
    WhileTk h₀ L s₁ (CutJ m0 D cs news) n .next { s₁ with heap := h', toks := tk' } := by
  have hsz := sz_pos (cs.drop p)
  have ep : vs.toArray.push (Value.str y tv) = (vs ++ [Value.str y tv]).toArray := by simp
  rw [ep] at hs
  refine ⟨rfl, h', tk', m', _, n - k, rfl, F, fun x hx => N x (hs x hx), by omega, m', p + k, tp, vs ++ [.str y tv], e, ts ++ [(cs.drop p).take k], ?_, rfl, by omega, by omega, ?_, ?_, ?_, Nat.le_trans h1 (Nat.le_trans htv.1 (Nat.le_of_lt htv.2)), ?_⟩
  · funext z
    show _ = if z = _ then _ else forget cutFree m' m0 z
    unfold forget
    split
    · rename_i h; rw [h, hm, hvk]; rfl
    · cases hcz : cutFree.contains z with
      | true => simp
      | false => simp only [Bool.false_eq_true, if_false]; exact hm' z hcz
  · rw [List.length_append, List.length_singleton]; omega
  · unfold mkStrs at hv ⊢
    rw [List.map_append, hy]
    exact kct_snoc hv
  · intro r hr
    rw [List.append_assoc]
    refine hc _ ?_
    rw [hk]
    refine .step (fun h0 => ?_) ?_
    · have := congrArg List.length h0
      rw [List.length_drop, List.length_nil] at this
      omega
    · rw [List.drop_drop, ← hk]; exact hr
  · intro v' hv'
    rcases List.mem_append.mp hv' with hv' | hv'
    · exact (hT.mono (Nat.le_trans htv.1 (Nat.le_of_lt htv.2))) v' hv'
    · exact ⟨y, tv, List.mem_singleton.mp hv', htv.2, fun h0 => absurd (Nat.le_trans h1 htv.1) (by rw [h0]; decide)⟩
end
/-- as Ctr, with the tokens' count told -/
noncomputable def CtrT (w : World) (f : Addr) (news : List (Addr × Obj)) (vs : List Value) (dd uu : Nat) (Post : Value → List (Addr × Obj) → Nat → Prop) : Prop :=
  ∀ (mean : ExcName → Option Value) (mg mb : Str → Option Value) (dp un : Nat) (gd : Option (List Code)) (cn : Str) (cs : Scope) (a : Addr) (ccd : Value) (cl : List (Str × Addr)) (outer : List Env) (A₀ : Around) (base h₀ : Heap) (L : Addr) (m : Str → Option Value) (s : Shared) (Q E : Value → Shared → Prop),
    Below A₀ base outer h₀ → Fr h₀ L s.heap m → (Mine.hd.heap_1_39 w.params).In h₀ → News h₀ L s.heap news → Top Mine.hd.view_1_40 (looseW Mine.hd.view_1_40 [Str.ofString "EXACT_TOKEN_TYPES"]) mean mg mb h₀ → cs.kind = .function →
    dp + dd < recursionLimit → un + uu < cLine → 1 ≤ s.toks →
    (∀ r tl h' tk', Fr h₀ L h' m → News h₀ L h' (tl ++ news) → (∀ p ∈ tl, ∀ q ∈ news, q.1 < p.1) → Post r tl tk' → Q r { s with heap := h', toks := tk' }) →
    wpAny (model PySem.Challenge.rw_xn0025_01.row.prog w) (ktrTop dp un gd cn cs L a ccd cl outer) (call (.ref f) vs) Q E s
theorem CtrT.use {w : World} {f : Addr} {news : List (Addr × Obj)} {vs : List Value} {dd uu : Nat} {Post : Value → List (Addr × Obj) → Nat → Prop} (c : CtrT w f news vs dd uu Post)
    {mean : ExcName → Option Value} {mg mb : Str → Option Value} {dp un : Nat} {gd : Option (List Code)} {cn : Str} {cs : Scope} {a : Addr} {ccd : Value} {cl : List (Str × Addr)} {outer : List Env} {A₀ : Around} {base h₀ : Heap} {L : Addr} {m : Str → Option Value} {s : Shared} {Q E : Value → Shared → Prop}
    (B : Below A₀ base outer h₀) (F : Fr h₀ L s.heap m) (X : (Mine.hd.heap_1_39 w.params).In h₀) (N : News h₀ L s.heap news) (T : Top Mine.hd.view_1_40 (looseW Mine.hd.view_1_40 [Str.ofString "EXACT_TOKEN_TYPES"]) mean mg mb h₀) (hk : cs.kind = .function)
    (hd : dp + dd < recursionLimit) (hu : un + uu < cLine) (ht : 1 ≤ s.toks)
    (ret : ∀ r tl h' tk', Fr h₀ L h' m → News h₀ L h' (tl ++ news) → (∀ p ∈ tl, ∀ q ∈ news, q.1 < p.1) → Post r tl tk' → Q r { s with heap := h', toks := tk' }) :
    wpAny (model PySem.Challenge.rw_xn0025_01.row.prog w) (ktrTop dp un gd cn cs L a ccd cl outer) (call (.ref f) vs) Q E s :=
  c mean mg mb dp un gd cn cs a ccd cl outer A₀ base h₀ L m s Q E B F X N T hk hd hu ht ret
section
variable {h₀ : Heap} {L : Addr} {m : Str → Option Value} {news : List (Addr × Obj)} {s : Shared} {Q : Value → Shared → Prop} {Post : Value → List (Addr × Obj) → Nat → Prop} {h' : Heap} {tk' : Nat} {r : Value} {p : Addr × Obj} {rest : List (Addr × Obj)}
theorem ret0T (hret : ∀ r tl h' tk', Fr h₀ L h' m → News h₀ L h' (tl ++ news) → (∀ p ∈ tl, ∀ q ∈ news, q.1 < p.1) → Post r tl tk' → Q r { s with heap := h', toks := tk' })
    (F : Fr h₀ L h' m) (N : News h₀ L h' rest) (hs : ∀ x ∈ news, x ∈ rest) (post : Post r [] tk') : Q r { s with heap := h', toks := tk' } :=
  hret r [] h' tk' F (fun x hx => N x (hs x hx)) ord_nil post
theorem ret1T (hret : ∀ r tl h' tk', Fr h₀ L h' m → News h₀ L h' (tl ++ news) → (∀ p ∈ tl, ∀ q ∈ news, q.1 < p.1) → Post r tl tk' → Q r { s with heap := h', toks := tk' })
    (F : Fr h₀ L h' m) (N : News h₀ L h' (p :: rest)) (hs : ∀ x ∈ news, x ∈ rest) (hp : AllLt p.1 news) (post : Post r [p] tk') : Q r { s with heap := h', toks := tk' } :=
  hret r [p] h' tk' F (fun x hx => by
    rcases List.mem_cons.mp hx with rfl | hx
    · exact N _ (.head _)
    · exact N _ (.tail _ (hs _ hx))) (ord_cons hp ord_nil) post
end
theorem idx_eq (lo hi : Option Int) (n : Nat) : Builtin.Str.strSliceIndices lo hi 1 n = (List.range (kms_hi hi n - kms_lo lo n)).map (fun x => kms_lo lo n + x) := by
  have h := kms_bounds lo hi n
  rw [← sliceRange_one]
  have e : Builtin.Str.strSliceIndices lo hi 1 n = sliceRange (sliceBounds lo hi none n).1 (sliceBounds lo hi none n).2.1 1 := rfl
  rw [e, h]
theorem slice_chr (x : PySem.Str) (lo hi : Option Int) : Txt.slice x lo hi = chr ((x.cps.toList.drop (kms_lo lo x.length)).take (kms_hi hi x.length - kms_lo lo x.length)) := by
  have e : List.filterMap (fun i => x.cps[i]?) (Builtin.Str.strSliceIndices lo hi 1 x.length) = (x.cps.toList.drop (kms_lo lo x.length)).take (kms_hi hi x.length - kms_lo lo x.length) := by
    rw [idx_eq, PySem.pick_run]
  unfold Txt.slice
  split
  · rename_i h
    have hl : (Builtin.Str.strSliceIndices lo hi 1 x.length).length = x.length := by simpa using h
    rw [idx_eq, List.length_map, List.length_range] at hl
    have hb : kms_hi hi x.length ≤ x.length := by
      unfold kms_hi
      split
      · exact Nat.le_refl _
      · split <;> omega
    have ha : kms_lo lo x.length = 0 ∨ x.length = 0 := by omega
    have hs : x.cps.toList.length = x.length := by simp [Str.length]
    apply Str.ext'
    apply Array.toList_inj.mp
    show x.cps.toList = (x.cps.toList.drop _).take _
    rcases ha with ha | ha
    · rw [ha, List.drop_zero, List.take_of_length_le (by omega)]
    · have h0 : x.cps.toList = [] := List.length_eq_zero_iff.mp (by omega)
      rw [h0, List.drop_nil, List.take_nil]
  · rw [e]; rfl
theorem slice_run (x : PySem.Str) {i j : Int} {a b : Nat} (hi : i = a) (hj : j = b) : Txt.slice x (some i) (some j) = chr ((x.cps.toList.drop a).take (b - a)) := by
  subst hi hj
  rw [slice_chr]
  rw [lo_some (Int.natCast_nonneg a), hi_some (Int.natCast_nonneg b), Int.toNat_natCast, Int.toNat_natCast, show x.length = x.cps.toList.length from (Array.length_toList (xs := x.cps)).symm, kmk_drop_min, take_min]
theorem item_chr (x : PySem.Str) {p : Nat} (hp : p < x.length) : Txt.item x (p : Int) = chr ((x.cps.toList.drop p).take 1) := by
  rw [W.item_meets ⟨Int.natCast_nonneg _, by omega⟩]
  have hs : x.cps.toList.length = x.length := by simp [Str.length]
  have hl : p < x.cps.toList.length := by omega
  rw [List.drop_eq_getElem_cons hl]
  show _ = chr [x.cps.toList[p]]
  unfold chr
  have h2 : p < x.cps.size := by simpa [Str.length] using hp
  simp [Array.getD, h2]
section
variable {prog : Program} {w : World} {A : Around} {E : Value → Shared → Prop} {s : Shared} {value slice : PySem.Expr} {h₀ : Heap} {L : Addr} {m : Str → Option Value} {news : List (Addr × Obj)} {x : PySem.Str} {t u : Tok} {Q : Value → Shared → Prop}
theorem text_item {p : Nat} (hp : p < x.length) (hz : x.length ≤ 100000) (h : ∀ t tk, Q (.str (chr ((x.cps.toList.drop p).take 1)) t) { s with toks := tk })
    (hs : subscripted slice false (.str x t) (.int (p : Int) u) = operate [.str x t, .int (p : Int) u] (getItem (.str x t) (.int (p : Int) u)) := by with_unfolding_all rfl)
    (ht : ∀ r, letTemporaryGo value (.str x t) r = pure () := by intro _; with_unfolding_all rfl) :
    wpAny (model prog w) A (subscriptTail value slice (.str x t) (.int (p : Int) u)) Q E s :=
  item_str (fitsSsize_of (N := 9223372036854775808) (by omega) (by omega) (Int.le_refl _)) (by omega) (by omega) (fun _ => by rw [item_chr x hp]; exact h _ _) hs ht
theorem text_cut {i j : Int} {a : Nat} (c : Nat) {ui uj : Tok} (hF : Fr h₀ L s.heap m) (hN : News h₀ L s.heap news) (hz : x.length ≤ 100000) (hi : i = a) (hj : j = (a : Int) + (c : Int))
    (h : ∀ h' t' k, Fr h₀ L h' m → News h₀ L h' news → Q (.str (chr ((x.cps.toList.drop a).take c)) t') { s with heap := h', toks := k })
    (hs : subscripted slice false (.str x t) (.ref s.heap.objs.size) = operate [.ref s.heap.objs.size, .str x t] (getItem (.str x t) (.ref s.heap.objs.size)) := by with_unfolding_all rfl)
    (ht : ∀ r, letTemporaryGo value (.str x t) r = pure () := by intro _; with_unfolding_all rfl) :
    wpAny (model prog w) A (subscriptTail value slice (.str x t) (.ref s.heap.objs.size)) Q E { s with heap := s.heap.push { cls := .type "slice", data := .fields #[.int i ui, .int j uj, .none] } } :=
  slice_strN_ss hF hN (fun h' t' k F' N' => by
    rw [slice_run x hi (b := a + c) (by omega), Nat.add_sub_cancel_left]; exact h h' t' k F' N') hs ht (by rw [sizeLine_eq]; omega)
theorem min_sub (a c n : Nat) : (if ((a : Int) + (c : Int)) < 0 then n - (-((a : Int) + (c : Int))).toNat else min ((a : Int) + (c : Int)).toNat n) - (if (a : Int) < 0 then n - (-(a : Int)).toNat else min (a : Int).toNat n) ≤ c := by
  rw [if_neg (Int.not_lt.mpr (Int.natCast_nonneg a)), if_neg (show ¬ ((a : Int) + (c : Int)) < 0 from Int.not_lt.mpr (Int.natCast_nonneg (a + c)))]
  show min (a + c) n - min a n ≤ c
  rcases Nat.le_total a n with h | h
  · rw [Nat.min_eq_left h]
    exact Nat.sub_le_of_le_add (Nat.le_trans (Nat.min_le_left _ _) (Nat.le_of_eq (Nat.add_comm a c)))
  · rw [Nat.min_eq_right h]
    exact Nat.le_trans (Nat.le_of_eq (Nat.sub_eq_zero_of_le (Nat.min_le_right _ _))) (Nat.zero_le c)
theorem text_cutT {i j : Int} {a : Nat} (c : Nat) {ui uj : Tok} (hF : Fr h₀ L s.heap m) (hN : News h₀ L s.heap news) (hz : x.length ≤ 100000) (hc : c < x.length) (hi : i = a) (hj : j = (a : Int) + (c : Int))
    (h : ∀ h' t' k, Fr h₀ L h' m → News h₀ L h' news → s.toks ≤ t' → k > t' → Q (.str (chr ((x.cps.toList.drop a).take c)) t') { s with heap := h', toks := k })
    (hs : subscripted slice false (.str x t) (.ref s.heap.objs.size) = operate [.ref s.heap.objs.size, .str x t] (getItem (.str x t) (.ref s.heap.objs.size)) := by with_unfolding_all rfl)
    (ht : ∀ r, letTemporaryGo value (.str x t) r = pure () := by intro _; with_unfolding_all rfl) :
    wpAny (model prog w) A (subscriptTail value slice (.str x t) (.ref s.heap.objs.size)) Q E { s with heap := s.heap.push { cls := .type "slice", data := .fields #[.int i ui, .int j uj, .none] } } := by
  refine tail_of_ItemOn ⟨"str", _, F.slot_str_getitem.lookup, typeIs_str _ _ _, wpAny_getItem_str_slice (l := some (i, ui)) (u := some (j, uj)) (st := none) ⟨_, Heap.get?_push_size _ rfl, rfl, rfl⟩ rfl ?_⟩ hs ht
  have e := slice_run x hi (b := a + c) (j := j) (by omega)
  rw [Nat.add_sub_cancel_left] at e
  have hlen : ((x.cps.toList.drop a).take c).length ≤ c := by rw [List.length_take]; exact Nat.min_le_left _ _
  have hf : ((slicePicked x (some (i, ui)) (some (j, uj)) none).length == x.length) = false := by
    rw [beq_eq_false_iff_ne]
    show (Builtin.Str.strSliceIndices (some i) (some j) 1 x.length).length ≠ x.length
    rw [idx_eq, List.length_map, List.length_range]
    unfold kms_hi kms_lo
    subst hi hj
    exact Nat.ne_of_lt (Nat.lt_of_le_of_lt (min_sub a c x.length) hc)
  have hx : PySem.Txt.slice x (some i) (some j) = ⟨((slicePicked x (some (i, ui)) (some (j, uj)) none).filterMap (x.cps[·]?)).toArray⟩ := by
    unfold Txt.slice
    rw [if_neg]
    · rfl
    · show ¬ ((slicePicked x (some (i, ui)) (some (j, uj)) none).length == x.length) = true
      rw [hf]; decide
  unfold sliceMade
  rw [if_neg (by show ¬ ((1 : Int) == 1 && _) = true; rw [hf]; decide), ← hx, e]
  refine ⟨?_, h _ _ _ (Fr.pushS hF _) (News.pushKeep hN _) (Nat.le_refl _) (Nat.lt_succ_self _)⟩
  show ((x.cps.toList.drop a).take c).toArray.size ≤ _
  rw [List.size_toArray, sizeLine_eq]; omega
theorem tok_in {y : PySem.Str} (T : StrTab prog w s.heap 113 ettT) (h : ∀ tk, Q (.bool (tokOf y).isSome) { s with toks := tk }) : wpAny (model prog w) A (compareOp .In (.str y t) (.ref 113)) Q E s :=
  in_strTab T (by rw [ett_look, Option.isSome_map]; exact h _)
theorem tok_notin {y : PySem.Str} (T : StrTab prog w s.heap 113 ettT) (h : ∀ tk, Q (.bool (!(tokOf y).isSome)) { s with toks := tk }) : wpAny (model prog w) A (compareOp .NotIn (.str y t) (.ref 113)) Q E s :=
  notin_strTab T (by rw [ett_look, Option.isSome_map]; exact h _)
end
theorem cut_lt {x : PySem.Str} {p : Nat} (h : (p : Int) < (x.length : Int)) : p < x.cps.toList.length := Int.ofNat_lt.mp h
theorem cut_ge {x : PySem.Str} {p : Nat} (h : ¬ (p : Int) < (x.length : Int)) : x.cps.toList.length ≤ p := Nat.le_of_not_lt fun q => h (Int.ofNat_lt.mpr q)
theorem cut_done {cs : List Nat} {ts : List (List Nat)} {p : Nat} (hC : ∀ r, Cut (cs.drop p) r → Cut cs (ts ++ r)) (h : cs.length ≤ p) : Cut cs ts := by
  have e := hC [] (by rw [List.drop_of_length_le h]; exact .nil)
  rwa [List.append_nil] at e
theorem sz_3 {l : List Nat} (h1 : (tokOf (chr (l.take 1))).isSome = true) (h3 : (tokOf (chr (l.take 3))).isSome = true) : 3 = sz l := by
  unfold sz isTok; rw [h1, h3]; rfl
theorem sz_2 {l : List Nat} (h1 : (tokOf (chr (l.take 1))).isSome = true) (h3 : (tokOf (chr (l.take 3))).isSome = false) (h2 : (tokOf (chr (l.take 2))).isSome = true) : 2 = sz l := by
  unfold sz isTok; rw [h1, h3, h2]; rfl
theorem sz_1' {l : List Nat} (h1 : (tokOf (chr (l.take 1))).isSome = true) (h3 : (tokOf (chr (l.take 3))).isSome = false) (h2 : (tokOf (chr (l.take 2))).isSome = false) : 1 = sz l := by
  unfold sz isTok; rw [h1, h3, h2]; rfl
theorem sz_1 {l : List Nat} (h1 : (tokOf (chr (l.take 1))).isSome = false) : 1 = sz l := by
  unfold sz isTok; rw [h1]; rfl
theorem whl_split {b : Bool} {T F : Prop} (t : b = true → T) (f : b = false → F) : WhlIf b T F := by
  unfold WhlIf
  split
  · rename_i h; exact t h
  · rename_i h; exact f (Bool.not_eq_true _ ▸ h)
theorem cut_c (w : World) (news : List (Addr × Obj)) (x : PySem.Str) (t : Tok) (hx : x.length ≤ 1000) (h4 : 4 ≤ x.length) :
  CtrT w 275 news [.str x t] 1 8 (fun r tl tk' => ∃ (d : Addr) (vs : List Value) (e : Nat) (ts : List (List Nat)), r = .ref d ∧ tl = [(d, W.listOf vs.toArray e)] ∧ StrsAre vs (mkStrs ts) ∧ Cut x.cps.toList ts ∧ Toks tk' vs ∧ 1 ≤ tk') := by
  k_with_none
  w_top off
  k_with "mine mem" => (first | (refine' mem_here ?_; ktr_member) | (refine' mem_appR ?_; k_mem) | (refine' mem_appL ?_; k_mem) | fail)
  k_with "mine ltL" => ((repeat (first | with_reducible exact lt_up0 | with_reducible refine lt_up ?_)); done)
  k_with "mine tk2" => (first | with_reducible assumption | with_reducible exact le_one | with_reducible exact Nat.le_refl _ | with_reducible exact Nat.succ_le_of_lt (by with_reducible assumption) | (with_reducible refine le_up ?_; k_extra "mine tk2") | (with_reducible refine le_chain (by with_reducible assumption) ?_; k_extra "mine tk2"))
  k_with "mine tk1" => ((try dsimp only); k_extra "mine tk2")
  k_with "mine size" => (first | (refine' sz_arr ?szA ?szB; (case szA => with_reducible assumption); (case szB => rfl)) | (refine' sz_line ?szA ?szB; (case szA => with_reducible assumption); (case szB => rfl)) | exact Nat.le_of_ble_eq_true rfl | fail)
  k_with "mine room" => ((first | k_dflt refine' rm2 ?rmA ?rmB | k_dflt refine' rm1 ?rmA ?rmB | k_dflt refine' rm0 ?rmA); (case rmA => k_dflt assumption); (try (case rmB => rfl)))
  k_with "mine ne" => (refine neN ?_; (try dsimp only); first | exact ne_all (by with_reducible assumption) (by k_mem) | exact ne_all' (by with_reducible assumption) (by k_mem) | with_reducible assumption | exact Ne.symm (by with_reducible assumption) | exact ne_gt (by k_extra "mine ltL") | exact ne_lt (by k_extra "mine ltL") | exact ne_gt (by with_reducible assumption) | exact ne_lt (by with_reducible assumption) | exact ne_far (by with_reducible assumption) (by k_extra "mine ltL") | exact ne_far' (by with_reducible assumption) (by k_extra "mine ltL") | omega | fail)
  k_with "mine all" => (first | with_reducible assumption | exact all_ne (by with_reducible assumption) (by k_extra "mine sub") | fail)
  k_with "mine free" => (intro yy; intros; repeat (first | with_reducible exact rfl | with_reducible exact forget_off (by with_reducible assumption) | (refine' Eq.trans (if_neg ?fnC) ?_; (case fnC => first | with_reducible assumption | exact ne_free (by with_reducible assumption) (by kernel_rfl))) | exact rfl))
  k_with "evalPairs" => (k_here; dsimp only)
  k_with "Exists" => (k_here; dsimp only)
  k_with "execs cons" => (k_here; refine' nx_start ?_; intro tkz htkz; (try dsimp only at htkz))
  k_with "Nx" => ((try dsimp only); (first | (with_reducible refine' nx_cons0 ?_; intro tkz htkz) | (with_reducible refine' nx_cons ?_; intro tkz htl htkz) | ((first | with_reducible refine' nx_nil0 ?_ | with_reducible refine' nx_ret0 ?_ | with_reducible refine' nx_open0 ?_); (try dsimp only)) | ((first | with_reducible refine' nx_nil ?_ | with_reducible refine' nx_ret ?_ | with_reducible refine' nx_open ?_ | with_reducible refine' nx_brk ?_ | with_reducible refine' nx_cont ?_); intro htl; (try dsimp only at htl); (try dsimp only))))
  k_with "execs nil" => (k_here; (refine wpAny_execs_nil ?_); (try dsimp only))
  k_with "newList" => (k_here; k_dflt (refine' new_lst ?nlF ?nlN ?nlz ?_; (case nlF => k_asm); (case nlN => k_asm); (case nlz => rfl); k_whole); intro d' h' F' N' l1; (try k_sweep))
  k_with "newTuple" => (k_here; k_dflt (refine' new_tup ?nlF ?nlN ?nlz ?_; (case nlF => k_asm); (case nlN => k_asm); (case nlz => rfl); k_whole); intro d' h' F' N' l1; (try k_sweep))
  k_with "mine sub" => ((repeat (first | with_reducible exact sub_nil | with_reducible exact sub_app | with_reducible refine sub_cons ?_ | with_reducible refine sub_app' ?_)); done)
  k_with "mine end2" => ((case F => k_asm); (case N => k_asm); (case S => k_extra "mine sub"); (case P => (refine' lt_sub ?a ?b; (case a => with_reducible assumption); (case b => k_extra "mine sub"))); (case R => (refine' lt_sub ?a ?b; (case a => with_reducible assumption); (case b => k_extra "mine sub"))))
  unfold CtrT
  k_fill
  intro mean mg mb dp un gd cn cs a ccd cl outer A₀ base h₀ L m s Q E B F X N T hk hd hu ht1 hret
  refine wpAny_call ?_
  k_dflt ktr_enter
  k_with "exec While Compare cons nil" => (k_dflt (refine' cut_while x.cps.toList ?wF ?wN ?wk ?wt ?wE; (case wk => k_extra "mine tk1"); (case wF => k_asm); (case wN => k_asm); (case wE => passes_own)); intro u p tp vs e ts hh tkh n hn hp hl hv hC h1t hTk F1 N1; (have hvl : vs.length ≤ 1002 := Nat.le_trans hl (Nat.le_trans hp (Nat.add_le_add_right hx 2))); (try dsimp only); (try k_fold))
  k_with "subscriptTail Name Name str int" => (k_dflt (refine' text_item ?ip ?iz ?_ ?is ?it; (case ip => exact Int.ofNat_lt.mp (by with_reducible assumption)); (case iz => exact le_lit hx rfl); (case is => with_unfolding_all rfl); (case it => kmk_pure)); intro tit tki)
  k_with "compareOp In str ref" => (k_dflt (refine' tok_in ?cT ?_; (case cT => exact ett_tab w (Frag.In.keeps (by k_asm) (Fr.keep (by k_asm))))); intro tkc)
  k_with "compareOp NotIn str ref" => (k_dflt (refine' tok_notin ?cT ?_; (case cT => exact ett_tab w (Frag.In.keeps (by k_asm) (Fr.keep (by k_asm))))); intro tkc)
  k_with "subscriptTail Name Slice str ref" => ((first | k_dflt (refine' text_cutT 3 ?sF ?sN ?sz ?sc ?si ?sj ?_ ?ss ?st; (case sz => exact le_lit hx rfl); (case sc => exact lit_lt h4 rfl); (case si => rfl); (case sj => exact add_cast (by decide)); (case sF => k_asm); (case sN => k_asm); (case ss => with_unfolding_all rfl); (case st => kmk_pure)) | k_dflt (refine' text_cutT 2 ?sF ?sN ?sz ?sc ?si ?sj ?_ ?ss ?st; (case sz => exact le_lit hx rfl); (case sc => exact lit_lt h4 rfl); (case si => rfl); (case sj => exact add_cast (by decide)); (case sF => k_asm); (case sN => k_asm); (case ss => with_unfolding_all rfl); (case st => kmk_pure)) | k_dflt (refine' text_cutT 1 ?sF ?sN ?sz ?sc ?si ?sj ?_ ?ss ?st; (case sz => exact le_lit hx rfl); (case sc => exact lit_lt h4 rfl); (case si => rfl); (case sj => exact add_cast (by decide)); (case sF => k_asm); (case sN => k_asm); (case ss => with_unfolding_all rfl); (case st => kmk_pure))); intro hsl tsl tks Fsl Nsl hslA hslB; (try dsimp only at hslA))
  k_with "exec While BoolOp cons nil" => (k_dflt (refine' whl_start 100 ?_))
  k_with "WhlIf" => (first | (with_reducible refine' WhlIf.yes ?wy ?_; (case wy => first | assumption | (with_unfolding_all rfl) | decide)) | (with_reducible refine' WhlIf.no ?wn ?_; (case wn => first | assumption | (with_unfolding_all rfl) | decide)) | (with_reducible refine' whl_split ?_ ?_; (case' _ => intro hWy); (case' _ => intro hWn)))
  k_with "TkLe" => (refine' tkle_intro ?_; intro htl; (try dsimp only at htl); (try dsimp only))
  k_with "WhileTk" => (first | k_dflt (refine' cut_end (k := 3) ?eF ?eN ?es ?em ?ev ?em' hn hl hv hC h1t hTk ?et ?ep ?ek ?ey; (case eF => k_asm); (case em => rfl); (case ek => exact sz_3 (by assumption) (by assumption)); (case ev => exact add_cast (by decide)); (case eN => k_asm); (case es => (intro q hq; rcases List.mem_cons.mp hq with rfl | hq; exact List.Mem.head _; exact List.Mem.tail _ hq));  (case ey => rfl); (case et => exact ⟨by k_extra "mine tk1", Nat.lt_of_succ_le (by k_extra "mine tk1")⟩); (case ep => exact cut_lt (by with_reducible assumption)); (case em' => k_extra "mine free")) | k_dflt (refine' cut_end (k := 2) ?eF ?eN ?es ?em ?ev ?em' hn hl hv hC h1t hTk ?et ?ep ?ek ?ey; (case eF => k_asm); (case em => rfl); (case ek => exact sz_2 (by assumption) (by assumption) (by assumption)); (case ev => exact add_cast (by decide)); (case eN => k_asm); (case es => (intro q hq; rcases List.mem_cons.mp hq with rfl | hq; exact List.Mem.head _; exact List.Mem.tail _ hq));  (case ey => rfl); (case et => exact ⟨by k_extra "mine tk1", Nat.lt_of_succ_le (by k_extra "mine tk1")⟩); (case ep => exact cut_lt (by with_reducible assumption)); (case em' => k_extra "mine free")) | k_dflt (refine' cut_end (k := 1) ?eF ?eN ?es ?em ?ev ?em' hn hl hv hC h1t hTk ?et ?ep ?ek ?ey; (case eF => k_asm); (case em => rfl); (case ev => exact add_cast (by decide)); (case eN => k_asm); (case es => (intro q hq; rcases List.mem_cons.mp hq with rfl | hq; exact List.Mem.head _; exact List.Mem.tail _ hq)); (case ek => first | exact sz_1 (by assumption) | exact sz_1' (by assumption) (by assumption) (by assumption)); (case ey => rfl); (case et => exact ⟨by k_extra "mine tk1", Nat.lt_of_succ_le (by k_extra "mine tk1")⟩); (case ep => exact cut_lt (by with_reducible assumption)); (case em' => k_extra "mine free")))
  k_with "LeaveK" => (k_dflt (refine' leaveK_ ?k1 ?k2 ?_; (case k1 => k_asm); (case k2 => k_asm); k_whole); intro kF kN; k_dflt (refine' ret1T hret kF kN ?g1 ?g2 ⟨_, vs, e, ts, rfl, rfl, hv, cut_done hC ?g3, hTk.mono ?g4, ?g5⟩; (case g4 => k_extra "mine tk1"); (case g5 => k_extra "mine tk1"); (case g1 => k_extra "mine sub"); (case g2 => (exact allLt_of (by assumption))); (case g3 => exact cut_ge (by with_reducible assumption))))
  k_steps
theorem none_booked (w : World) {h : Heap} (X : (Mine.hd.heap_1_39 w.params).In h) : NoneBooked h :=
  ⟨_, .of_isNs (isNs_of_in (N := cStatics) X (by kernel_rfl)), nsMap_none_of_in X (by kernel_rfl) (by kernel_rfl)⟩
section
variable {M : Model} {A : Around} {E : Value → Shared → Prop} {s : Shared} {x y : PySem.Str} {t u : Tok} {Q : Value → Shared → Prop}
theorem is_str_ne (hne : x ≠ y) (ht : t ≠ 0) (hu : u ≠ 0) (htu : t ≠ u) (h : Q (.bool false) s) : wpAny M A (compareOp .Is (.str x t) (.str y u)) Q E s := by
  show wpAny M A (do return .bool (← isSame (.str x t) (.str y u))) Q E s
  rw [isSame_str_other x y t u (by simp [ht, hu]) (by simpa using htu) (by simpa using hne)]
  exact wpAny_bind (wpAny_pure (wpAny_pure h))
theorem is_str_any (ht : t ≠ 0) (hu : u ≠ 0) (hb : NoneBooked s.heap) (h : ∀ b, Q (.bool b) s) : wpAny M A (compareOp .Is (.str x t) (.str y u)) Q E s := by
  show wpAny M A (do return .bool (← isSame (.str x t) (.str y u))) Q E s
  exact wpAny_bind (wpAny_isSame_str (by simp [ht, hu]) hb fun b => wpAny_pure (h b))
theorem eq_str_ne {prog : Program} {w : World} {Q : Value → Shared → Prop} (hne : x ≠ y) (h : Q (.bool false) s) : wpAny (model prog w) A (compareOp .Eq (.str x t) (.str y u)) Q E s :=
  PyProof.Rows.eq_str (by rw [beq_eq_false_iff_ne.mpr hne]; exact h)
theorem eq_str_self {prog : Program} {w : World} {Q : Value → Shared → Prop} (h : Q (.bool true) s) : wpAny (model prog w) A (compareOp .Eq (.str x t) (.str x u)) Q E s :=
  PyProof.Rows.eq_str (by rw [beq_self_eq_true]; exact h)
end
section
variable {prog : Program} {w : World} {A : Around} {s : Shared} {env : Env} {h₀ : Heap} {target : PySem.Expr} {body orelse : List Stmt}
inductive TtJ (h₀ : Heap) (L : Addr) (g : Array GenState) (d : Drawn) (o : OsState) (wr : List Addr) (own : List (Addr × Obj)) (J : Nat → (Str → Option Value) → List (Addr × Obj) → Prop) (s₃ : Shared) : Prop where
  | mk (h' : Heap) (tk : Nat) (m' : Str → Option Value) (nw' : List (Addr × Obj)) (e : s₃ = ⟨h', g, d, tk, o⟩) (F : Fr h₀ L h' m') (N : News h₀ L h' (own ++ nw')) (a : ∀ p ∈ nw', p.1 ∉ wr) (j : J tk m' nw') : TtJ h₀ L g d o wr own J s₃
inductive LtJ (h₀ : Heap) (L : Addr) (s : Shared) (wr : List Addr) (St : Nat → Heap → Prop) (J : Nat → Nat → (Str → Option Value) → List (Addr × Obj) → Prop) (n k : Nat) (s' : Shared) : Prop where
  | mk (h' : Heap) (tk : Nat) (m' : Str → Option Value) (nw' : List (Addr × Obj)) (i : Nat) (e : s' = { s with heap := h', toks := tk }) (st : St i h') (F : Fr h₀ L h' m') (N : News h₀ L h' nw') (a : ∀ p ∈ nw', p.1 ∉ wr) (le : s.toks ≤ tk) (j : J i tk m' nw') (hi : i ≤ n) (hk : k + i = n + 1) : LtJ h₀ L s wr St J n k s'
theorem lt_next {k i n : Nat} (h : k + i = n + 1) (q : i < n) : k - 1 < k ∧ k - 1 + (i + 1) = n + 1 := by omega
/-- how a turn of a for loop ends, the tokens' count in the invariant -/
noncomputable def TurnT (h₀ : Heap) (L : Addr) (s : Shared) (wr : List Addr) (own : List (Addr × Obj)) (J : Nat → (Str → Option Value) → List (Addr × Obj) → Prop) (Q : Flow → Shared → Prop) (f : Flow) (s₃ : Shared) : Prop :=
  match f with
  | .ret v => Q (.ret v) s₃
  | .brk => Q .next s₃
  | _ => TtJ h₀ L s.gens s.drawn s.os wr own J s₃
theorem loopT {R : Result → Shared → Prop} {I : Addr} {fp wr : List Addr} {n : Nat} {P Md : Nat → Value → Heap → Prop} {St : Nat → Heap → Prop} {m : Str → Option Value} {news : List (Addr × Obj)}
    (J : Nat → Nat → (Str → Option Value) → List (Addr × Obj) → Prop) (W : KTurns prog w A target I fp wr n P Md St)
    (hLf : env.locals ∉ fp) (hwr : ∀ b ∈ wr, h₀.get? b = none) (hnw : ∀ p ∈ news, p.1 ∉ wr) (hst : St 0 s.heap) (F : Fr h₀ env.locals s.heap m) (N : News h₀ env.locals s.heap news) (h0 : J 0 s.toks m news)
    (step : ∀ i v m₁ nw₁ h₁ tk₀ tk₁ own, i < n → P i v h₁ → s.toks ≤ tk₀ → tk₀ ≤ tk₁ → J i tk₀ m₁ nw₁ → (∀ p ∈ nw₁, p.1 ∉ wr) → (∀ b ∈ fp, h₀.get? b = none → ∀ o, h₁.get? b = some o → (b, o) ∈ own) → St (i + 1) h₁ → Fr h₀ env.locals h₁ m₁ → News h₀ env.locals h₁ (own ++ nw₁) →
      wpAny (model prog w) A (assign target env v) (fun _ s₂ => TkLe tk₁ s₂ (wpAny (model prog w) A (execs body env) (TurnT h₀ env.locals s wr own (J (i + 1)) (fun f s' => R (.ok f) s')) (notedBy (model prog w) A env fun e s' => R (.error e) s') s₂)) (notedBy (model prog w) A env fun e s' => R (.error e) s') { s with heap := h₁, toks := tk₁ })
    (done : ∀ h' tk₀ tk m' nw', Fr h₀ env.locals h' m' → News h₀ env.locals h' nw' → s.toks ≤ tk₀ → tk₀ ≤ tk → J n tk₀ m' nw' → wpAny (model prog w) A (execs orelse env) (fun f s₃ => R (.ok f) s₃) (notedBy (model prog w) A env fun e s' => R (.error e) s') { s with heap := h', toks := tk }) :
    codeAny (model prog w) A (.forLoop target (.ref I) body orelse env) R s := by
  have hLw : env.locals ∉ wr := fun h => hLf (W.sub _ h)
  have old : ∀ b o, h₀.get? b = some o → b ∉ wr := fun b o e hb => by rw [hwr b hb] at e; cases e
  refine codeAny_forLoop_any
    (LtJ h₀ env.locals s wr St J n) ?_ (n + 1)
    ⟨s.heap, s.toks, m, news, 0, rfl, hst, F, N, hnw, Nat.le_refl _, h0, Nat.zero_le _, rfl⟩
  rintro k s' ⟨h', tk, m', nw', i, rfl, hst', F', N', hnw', htk, hJ, hi, hki⟩
  have onward : ∀ h₁ : Heap, (∀ b o, b ∉ wr → h'.get? b = some o → h₁.get? b = some o) → Fr h₀ env.locals h₁ m' ∧ News h₀ env.locals h₁ nw' := fun h₁ hk₁ =>
    ⟨⟨F'.ns.at' fun o e => hk₁ _ o hLw e, fun b o e => hk₁ b o (old b o e) (F'.keep b o e), F'.above⟩, fun p hp => ⟨hk₁ _ _ (hnw' p hp) (N' p hp).1, (N' p hp).2⟩⟩
  refine toks_mono ?_
  rcases Nat.lt_or_ge i n with hlt | hge
  · refine W.item i _ _ _ hlt hst' fun v h₁ tk₁ hMd hk₁ hle₁ => ?_
    refine W.go i v _ _ _ hMd fun h₂ hP hst₂ hk₂ => ?_
    obtain ⟨F₂, N₂⟩ := onward h₂ fun b o hb x => hk₂ b o hb (hk₁ b o hb x)
    have Nown : News h₀ env.locals h₂ (PyProof.Rows.ownOf h₀ fp h₂) := news_ownOf hLf
    have hle : s.toks ≤ tk₁ := Nat.le_trans htk hle₁
    have hlive : ∀ b ∈ fp, h₀.get? b = none → ∀ o, h₂.get? b = some o → (b, o) ∈ PyProof.Rows.ownOf h₀ fp h₂ := fun b hb hn o e => mem_ownOf hb hn e
    refine wpAny_mono (toks_mono' (wpAny_mono (step i v m' nw' h₂ tk tk₁ _ hlt hP htk hle₁ hJ hnw' hlive hst₂ F₂ (Nown.append N₂)) (fun _ s₂ h₃ => tkle_intro fun q => And.intro q (h₃ q)) fun _ _ e => e)) (fun _ s₂ h₃ => ?_) fun _ _ e => e
    obtain ⟨q₂, h₃⟩ := h₃
    refine wpAny_mono (toks_mono' (wpAny_mono h₃ (fun f s₃ h₄ => tkle_intro fun q => And.intro q h₄) fun _ _ e => e)) (fun f s₃ h₄ => ?_) fun _ _ e => e
    obtain ⟨q₃, h₄⟩ := h₄
    have more : TtJ h₀ env.locals s.gens s.drawn s.os wr (PyProof.Rows.ownOf h₀ fp h₂) (J (i + 1)) s₃ → ∃ k', k' < k ∧ LtJ h₀ env.locals s wr St J n k' s₃ := by
      rintro ⟨h₅, tk₅, m₅, nw₅, rfl, F₅, N₅, ha₅, hJ₅⟩
      refine ⟨k - 1, (lt_next hki hlt).1, h₅, tk₅, m₅, nw₅, i + 1, rfl, ?_, F₅, N₅.right, ha₅, Nat.le_trans hle (Nat.le_trans q₂ q₃), hJ₅, hlt, (lt_next hki hlt).2⟩
      refine W.frame _ _ _ hst₂ fun b hb o e => ?_
      cases hn : h₀.get? b with
      | some o₀ =>
        have q := F₂.keep b o₀ hn
        rw [e] at q
        cases q
        exact F₅.keep b o hn
      | none => exact (N₅ _ (List.mem_append_left _ (hlive b hb hn o e))).1
    cases f with
    | ret v => exact h₄
    | brk => exact h₄
    | cont => exact more h₄
    | next => exact more h₄
  · have hin : i = n := Nat.le_antisymm hi hge
    subst hin
    refine W.done _ _ _ hst' fun h₁ tk₁ hk₁ hle₁ => ?_
    obtain ⟨F₁, N₁⟩ := onward h₁ hk₁
    exact done h₁ tk tk₁ m' nw' F₁ N₁ htk hle₁ hJ
theorem for_enum {E : Value → Shared → Prop} {Q : Flow → Shared → Prop} {elts : List PySem.Expr} {k : Nat} {tpos : Pos} {l : Addr} {vs : List Value} {e : Nat} {m₀ : Str → Option Value} {news : List (Addr × Obj)} (J : Nat → Nat → (Str → Option Value) → List (Addr × Obj) → Prop)
    (hh : A.handled = none) (hl : (l, PySem.W.listOf vs.toArray e) ∈ news) (F : Fr h₀ env.locals s.heap m₀) (N : News h₀ env.locals s.heap news) (h0 : J 0 s.toks m₀ news)
    (turn : ∀ i v T t m₁ nw₁ h tk₀ tk own wr, vs[i]? = some v → s.toks ≤ tk₀ → tk₀ ≤ tk → J i tk₀ m₁ nw₁ → IsTup h T #[.int (i : Nat) t, v] → (∀ p ∈ nw₁, p.1 ∉ wr) → Fr h₀ env.locals h m₁ → News h₀ env.locals h (own ++ nw₁) →
      wpAny (model prog w) A (assign (.Tuple elts k tpos) env (.ref T)) (fun _ s₂ => TkLe tk s₂ (wpAny (model prog w) A (execs body env) (TurnT h₀ env.locals s wr own (J (i + 1)) Q) E s₂)) E { s with heap := h, toks := tk })
    (done : ∀ h tk₀ tk m₁ nw₁, Fr h₀ env.locals h m₁ → News h₀ env.locals h nw₁ → s.toks ≤ tk₀ → tk₀ ≤ tk → J vs.length tk₀ m₁ nw₁ → wpAny (model prog w) A (execs orelse env) Q E { s with heap := h, toks := tk })
    (hE : PassesOwn (model prog w) A env E := by passes_own) :
    wpAny (model prog w) A (call (.type "enumerate") [.ref l]) (fun xv s₁ => wpAny (model prog w) A (pyIter xv) (fun it s₂ => codeAny (model prog w) A (.forLoop (.Tuple elts k tpos) it body orelse env) (fun r s' => match r with | .ok f => Q f s' | .error e => cameBackBy (model prog w) A env E e s') s₂) E s₁) E s := by
  have hax := N _ hl
  have hlist : s.heap.IsList l vs.toArray := News.isList N hl
  have hlt : l < s.heap.objs.size := Heap.lt_size hax.1
  have hLs : env.locals < s.heap.objs.size := F.ns.lt
  refine call_enumerate_list hlist fun h' hE' hI hsz hk => ?_
  refine wpAny_pyIter_enum hE' ?_
  have W := KTurns.ofWalksU (elts := elts) (k := k) (pos := tpos) (WalksT.enumerate (prog := prog) (w := w) hh (s.heap.objs.size + 1) s.heap.objs.size l (Nat.succ_ne_self _) (ktu_ne 1 hlt) (Nat.ne_of_lt hlt) vs.toArray).toU
  have hnew : ∀ p ∈ news, p.1 ∉ [s.heap.objs.size + 1, s.heap.objs.size] := fun p hp hw => by
    have hlt' := Heap.lt_size (N p hp).1
    rcases List.mem_cons.mp hw with e | hw
    · exact ktu_ne 1 hlt' e
    · exact Nat.ne_of_lt hlt' (List.mem_singleton.mp hw)
  refine loopT (s := { s with heap := h' }) (R := fun r s' => match r with | .ok f => Q f s' | .error e => cameBackBy (model prog w) A env E e s') J W ?_ ?_ hnew ⟨⟨_, hE'⟩, hI, hlist.at fun o e => hk _ o e⟩ (F.keeps hk) (N.grown hk) h0 ?_ ?_
  · intro hw
    rcases List.mem_cons.mp hw with e | hw
    · exact ktu_ne 1 hLs e
    · rcases List.mem_cons.mp hw with e | hw
      · exact Nat.ne_of_lt hLs e
      · exact hax.2.1 (List.mem_singleton.mp hw).symm
  · intro b hb
    rcases List.mem_cons.mp hb with rfl | hb
    · exact ktu_new F (Nat.le_succ _)
    · rw [List.mem_singleton.mp hb]; exact ktu_new F (Nat.le_refl _)
  · rintro i v m₁ nw₁ h₁ tk₀ tk₁ own hi ⟨T, vals, rfl, ⟨t, x, hx, rfl⟩, hT⟩ le0 le1 hJ hnw - - F₁ N₁
    refine wpAny_mono (turn i x T t m₁ nw₁ h₁ tk₀ tk₁ own _ (by simpa using hx) le0 le1 hJ hT hnw F₁ N₁) (fun _ s₂ h₃ => ?_) hE
    exact tkle_intro fun q => wpAny_mono (h₃ q) (fun f s₃ h₄ => by cases f <;> exact h₄) hE
  · intro h tk₀ tk m₁ nw₁ F₁ N₁ le0 le1 hJ
    exact wpAny_passesOwn hE (done h tk₀ tk m₁ nw₁ F₁ N₁ le0 le1 (by simpa using hJ))
end
noncomputable def idxFree : List Str := [Str.ofString "i", Str.ofString "j"]
noncomputable def IdxJ (m0 : Str → Option Value) (news : List (Addr × Obj)) (vs : List Value) (y : PySem.Str) (i _tk : Nat) (m : Str → Option Value) (nw : List (Addr × Obj)) : Prop :=
  (∃ g, m = forget idxFree g m0) ∧ nw = news ∧ ∀ q x t, q < i → vs[q]? = some (.str x t) → x ≠ y
theorem forget_self {free : List Str} {m : Str → Option Value} : m = forget free m m := by
  funext z
  unfold forget
  split <;> rfl
theorem eq_str_of {prog : Program} {w : World} {A : Around} {E : Value → Shared → Prop} {s : Shared} {x y : PySem.Str} {t u : Tok} {Q : Value → Shared → Prop} (e : x = y) (h : Q (.bool true) s) : wpAny (model prog w) A (compareOp .Eq (.str x t) (.str y u)) Q E s := by
  subst e
  exact eq_str_self h
theorem idx_eq' {vs : List Value} {n i : Nat} {x y : PySem.Str} {tn tx : Tok} (_hn : vs[n]? = some (.str y tn)) (hxy : x = y) (hv : vs[i]? = some (.str x tx)) (hi : i ≤ n) (hlt : ∀ q x t, q < n → vs[q]? = some (.str x t) → x ≠ y) : i = n := by
  rcases Nat.lt_or_ge i n with h | h
  · exact absurd hxy (hlt i x tx h hv)
  · omega
theorem idx_ret {i n : Nat} {t : Tok} (h : i = n) : Value.int (i : Nat) t = .int (n : Nat) t := by rw [h]
theorem idx_end {h₀ h' : Heap} {L : Addr} {s : Shared} {wr : List Addr} {own news nw : List (Addr × Obj)} {m0 m' : Str → Option Value} {vs : List Value} {x y : PySem.Str} {tx : Tok} {i tk' : Nat} {Q : Flow → Shared → Prop}
    (F : Fr h₀ L h' m') (N : News h₀ L h' nw) (hs : ∀ p ∈ own ++ news, p ∈ nw) (hoff : ∀ p ∈ news, p.1 ∉ wr) (hm' : ∀ y, idxFree.contains y = false → m' y = m0 y)
    (hv : vs[i]? = some (.str x tx)) (hxy : x ≠ y) (hno : ∀ q x t, q < i → vs[q]? = some (.str x t) → x ≠ y) :
    TurnT h₀ L s wr own (IdxJ m0 news vs y (i + 1)) Q .next { s with heap := h', toks := tk' } := by
  refine ⟨h', tk', m', news, rfl, F, fun p hp => N p (hs p hp), hoff, ⟨m', ?_⟩, rfl, fun q x' t hq hv' => ?_⟩
  · funext z
    unfold forget
    cases hcz : idxFree.contains z with
    | true => simp
    | false => simp only [Bool.false_eq_true, if_false]; exact hm' z hcz
  · rcases Nat.lt_or_ge q i with h | h
    · exact hno q x' t h hv'
    · have e : q = i := by omega
      subst e
      rw [hv] at hv'
      cases hv'
      exact hxy
noncomputable def Apart (u : Tok) (vs : List Value) : Prop := ∀ v ∈ vs, ∃ x t, v = Value.str x t ∧ t ≠ 0 ∧ t ≠ u
theorem idx_for {prog : Program} {w : World} {A : Around} {s : Shared} {env : Env} {h₀ : Heap} {body orelse : List Stmt} {E : Value → Shared → Prop} {Q : Flow → Shared → Prop} {elts : List PySem.Expr} {k : Nat} {tpos : Pos} {l : Addr} {vs : List Value} {e : Nat} {m0 : Str → Option Value} {news : List (Addr × Obj)} {u : Tok} {y : PySem.Str} {n : Nat} {tn : Tok}
    (hh : A.handled = none) (hl : (l, PySem.W.listOf vs.toArray e) ∈ news) (F : Fr h₀ env.locals s.heap m0) (N : News h₀ env.locals s.heap news) (hA : Apart u vs) (hn : vs[n]? = some (.str y tn))
    (turn : ∀ i x tx T t g h tk own wr, vs[i]? = some (.str x tx) → tx ≠ 0 → tx ≠ u → i ≤ n → (∀ q x t, q < i → vs[q]? = some (.str x t) → x ≠ y) → IsTup h T #[.int (i : Nat) t, .str x tx] → (∀ p ∈ news, p.1 ∉ wr) → Fr h₀ env.locals h (forget idxFree g m0) → News h₀ env.locals h (own ++ news) →
      wpAny (model prog w) A (assign (.Tuple elts k tpos) env (.ref T)) (fun _ s₂ => TkLe tk s₂ (wpAny (model prog w) A (execs body env) (TurnT h₀ env.locals s wr own (IdxJ m0 news vs y (i + 1)) Q) E s₂)) E { s with heap := h, toks := tk })
    (hE : PassesOwn (model prog w) A env E := by passes_own) :
    wpAny (model prog w) A (call (.type "enumerate") [.ref l]) (fun xv s₁ => wpAny (model prog w) A (pyIter xv) (fun it s₂ => codeAny (model prog w) A (.forLoop (.Tuple elts k tpos) it body orelse env) (fun r s' => match r with | .ok f => Q f s' | .error e => cameBackBy (model prog w) A env E e s') s₂) E s₁) E s := by
  have hnl : n < vs.length := (List.getElem?_eq_some_iff.mp hn).1
  refine for_enum (IdxJ m0 news vs y) hh hl F N ⟨⟨_, forget_self⟩, rfl, fun _ _ _ h => absurd h (Nat.not_lt_zero _)⟩ ?_ ?_ hE
  · rintro i v T t m₁ nw₁ h tk₀ tk own wr hv - - ⟨⟨g, rfl⟩, rfl, hno⟩ hT hoff F₁ N₁
    obtain ⟨x, tx, rfl, h1, h2⟩ := hA v (List.mem_of_getElem? hv)
    have hi : i ≤ n := by
      rcases Nat.lt_or_ge n i with h | h
      · exact absurd rfl (hno n y tn h hn)
      · exact h
    exact turn i x tx T t g h tk own wr hv h1 h2 hi hno hT hoff F₁ N₁
  · rintro h tk₀ tk m₁ nw₁ - - - - ⟨-, -, hno⟩
    exact absurd rfl (hno n y tn hnl hn)
theorem idx_c (w : World) (news : List (Addr × Obj)) (D : Addr) (e : Nat) (vs : List Value) (y : PySem.Str) (u : Tok) (n : Nat) (tn : Tok) (hm : (D, W.listOf vs.toArray e) ∈ news) (hA : Apart u vs) (hu0 : u ≠ 0)
  (hn : vs[n]? = some (.str y tn)) (hlt : ∀ q x t, q < n → vs[q]? = some (.str x t) → x ≠ y) :
  Ctr w 112 news [.ref D, .str y u] 1 8 (fun r tl => ∃ t, r = .int (n : Nat) t ∧ tl = []) := by
  k_with_none
  w_top off
  k_with "mine mem" => (first | (refine' mem_here ?_; ktr_member) | (refine' mem_appR ?_; k_mem) | (refine' mem_appL ?_; k_mem) | fail)
  k_with "mine ltL" => ((repeat (first | with_reducible exact lt_up0 | with_reducible refine lt_up ?_)); done)
  k_with "mine tk2" => (first | with_reducible assumption | with_reducible exact le_one | with_reducible exact Nat.le_refl _ | with_reducible exact Nat.succ_le_of_lt (by with_reducible assumption) | (with_reducible refine le_up ?_; k_extra "mine tk2") | (with_reducible refine le_chain (by with_reducible assumption) ?_; k_extra "mine tk2"))
  k_with "mine tk1" => ((try dsimp only); k_extra "mine tk2")
  k_with "mine size" => (first | (refine' sz_arr ?szA ?szB; (case szA => with_reducible assumption); (case szB => rfl)) | (refine' sz_line ?szA ?szB; (case szA => with_reducible assumption); (case szB => rfl)) | exact Nat.le_of_ble_eq_true rfl | fail)
  k_with "mine room" => ((first | k_dflt refine' rm2 ?rmA ?rmB | k_dflt refine' rm1 ?rmA ?rmB | k_dflt refine' rm0 ?rmA); (case rmA => k_dflt assumption); (try (case rmB => rfl)))
  k_with "mine ne" => (refine neN ?_; (try dsimp only); first | exact ne_all (by with_reducible assumption) (by k_mem) | exact ne_all' (by with_reducible assumption) (by k_mem) | with_reducible assumption | exact Ne.symm (by with_reducible assumption) | exact ne_gt (by k_extra "mine ltL") | exact ne_lt (by k_extra "mine ltL") | exact ne_gt (by with_reducible assumption) | exact ne_lt (by with_reducible assumption) | exact ne_far (by with_reducible assumption) (by k_extra "mine ltL") | exact ne_far' (by with_reducible assumption) (by k_extra "mine ltL") | omega | fail)
  k_with "mine all" => (first | with_reducible assumption | exact all_ne (by with_reducible assumption) (by k_extra "mine sub") | fail)
  k_with "mine free" => (intro yy; intros; repeat (first | with_reducible exact rfl | with_reducible exact forget_off (by with_reducible assumption) | (refine' Eq.trans (if_neg ?fnC) ?_; (case fnC => first | with_reducible assumption | exact ne_free (by with_reducible assumption) (by kernel_rfl))) | exact rfl))
  k_with "evalPairs" => (k_here; dsimp only)
  k_with "Exists" => (k_here; dsimp only)
  k_with "execs cons" => (k_here; refine' nx_start ?_; intro tkz htkz; (try dsimp only at htkz))
  k_with "Nx" => ((try dsimp only); (first | (with_reducible refine' nx_cons0 ?_; intro tkz htkz) | (with_reducible refine' nx_cons ?_; intro tkz htl htkz) | ((first | with_reducible refine' nx_nil0 ?_ | with_reducible refine' nx_ret0 ?_ | with_reducible refine' nx_open0 ?_); (try dsimp only)) | ((first | with_reducible refine' nx_nil ?_ | with_reducible refine' nx_ret ?_ | with_reducible refine' nx_open ?_ | with_reducible refine' nx_brk ?_ | with_reducible refine' nx_cont ?_); intro htl; (try dsimp only at htl); (try dsimp only))))
  k_with "execs nil" => (k_here; (refine wpAny_execs_nil ?_); (try dsimp only))
  k_with "newList" => (k_here; k_dflt (refine' new_lst ?nlF ?nlN ?nlz ?_; (case nlF => k_asm); (case nlN => k_asm); (case nlz => rfl); k_whole); intro d' h' F' N' l1; (try k_sweep))
  k_with "newTuple" => (k_here; k_dflt (refine' new_tup ?nlF ?nlN ?nlz ?_; (case nlF => k_asm); (case nlN => k_asm); (case nlz => rfl); k_whole); intro d' h' F' N' l1; (try k_sweep))
  k_with "mine sub" => ((repeat (first | with_reducible exact sub_nil | with_reducible exact sub_app | with_reducible refine sub_cons ?_ | with_reducible refine sub_app' ?_)); done)
  k_with "mine end2" => ((case F => k_asm); (case N => k_asm); (case S => k_extra "mine sub"); (case P => (refine' lt_sub ?a ?b; (case a => with_reducible assumption); (case b => k_extra "mine sub"))); (case R => (refine' lt_sub ?a ?b; (case a => with_reducible assumption); (case b => k_extra "mine sub"))))
  unfold Ctr
  k_fill
  intro mean mg mb dp un gd cn cs A ccd cl outer A₀ base h₀ L m s Q E B F X N T hk hd hu hret
  refine wpAny_call ?_
  k_dflt ktr_enter
  k_with "TkLe" => (refine' tkle_intro ?_; intro htl; (try dsimp only at htl); (try dsimp only))
  k_with "exec For Tuple Call cons cons" => (k_dflt (refine' wpAny_For ?_ ?hs; (case hs => intro _; rfl)))
  k_with "call type:enumerate cons nil" => (k_dflt (refine' idx_for ?xh hm ?xF ?xN hA hn ?turnF ?xE; (case xh => rfl); (case xF => k_asm); (case xN => k_asm); (case xE => passes_own)); case' turnF => (intro i x tx T' t' g hh tkh own wr hv hz hne hi hno hT hoff F1 N1; rcases Classical.em (x = y) with hxy | hxy))
  k_with "compareOp Is str str" => (k_dflt (first | refine' is_str_ne (by assumption) (by assumption) (by assumption) (by assumption) ?_ | (refine' is_str_any (by assumption) (by assumption) ?wb ?_; (case wb => exact none_booked w (Frag.In.keeps (by k_asm) (Fr.keep (by k_asm)))); intro bI)))
  k_with "compareOp Eq str str" => (k_dflt (first | refine' eq_str_ne (by assumption) ?_ | refine' eq_str_of (by assumption) ?_))
  k_with "TurnT next" => (k_dflt (refine' idx_end ?eF ?eN ?eS hoff ?eM hv hxy hno; (case eF => k_asm); (case eN => k_asm); (case eS => k_extra "mine sub"); (case eM => (intro yy hyy; (simp only [idxFree, List.contains_cons, List.contains_nil, Bool.or_false, Bool.or_eq_false_iff, beq_eq_false_iff_ne, ne_eq] at hyy); (simp only [hyy, if_false, forget, idxFree, List.contains_cons, List.contains_nil]; simp [hyy])))))
  k_with "TurnT" => (dsimp only [TurnT])
  k_with "LeaveK" => (k_dflt (refine' leaveK_ ?k1 ?k2 ?_; (case k1 => k_asm); (case k2 => k_asm); k_whole); intro kF kN; k_dflt (refine' ret0 hret kF kN ?g1 ⟨_, idx_ret (idx_eq' hn hxy hv hi hlt), rfl⟩; (case g1 => k_extra "mine sub")))
  k_steps
/-- the pieces of a page, and the text that they stand for -/
inductive Bare : List (List Nat) → List Nat → Prop where
  | nil : Bare [] []
  | plain {t : List Nat} {ts : List (List Nat)} {o : List Nat} : tokOf (chr t) ≠ some 19 → Bare ts o → Bare (t :: ts) (t ++ o)
  | amp {ts : List (List Nat)} {o : List Nat} : Bare ts o → Bare ([38] :: [97] :: [109] :: [112] :: [59] :: ts) ([38] ++ o)
  | lt {ts : List (List Nat)} {o : List Nat} : Bare ts o → Bare ([38] :: [108] :: [116] :: [59] :: ts) ([60] ++ o)
  | gt {ts : List (List Nat)} {o : List Nat} : Bare ts o → Bare ([38] :: [103] :: [116] :: [59] :: ts) ([62] ++ o)
theorem chr_app (a b : List Nat) : chr a ++ chr b = chr (a ++ b) := by
  apply Str.ext'
  show a.toArray ++ b.toArray = (a ++ b).toArray
  simp
noncomputable def bareFree : List Str := [Str.ofString "place", Str.ofString "text", Str.ofString "size"]
noncomputable abbrev bareM (m0 g : Str → Option Value) (p : Nat) (tp : Tok) (dn : List Nat) (tt : Tok) : Str → Option Value := fun y => if y = Str.ofString "place" then some (.int (p : Int) tp) else if y = Str.ofString "text" then some (.str (chr dn) tt) else forget bareFree g m0 y
inductive BareJ (m0 : Str → Option Value) (news : List (Addr × Obj)) (vs : List Value) (o : List Nat) (n _tk : Nat) (m : Str → Option Value) (nw : List (Addr × Obj)) : Prop where
  | mk  g p tp dn tt pre post ts r (hF0 : m = bareM m0 g p tp dn tt) (hF1 : nw = news) (hF2 : vs = pre ++ post) (hF3 : pre.length = p) (hF4 : StrsAre post (mkStrs ts)) (hF5 : Bare ts r) (hF6 : o = dn ++ r) (hF7 : n = post.length) : BareJ m0 news vs o n _tk m nw
theorem strs_cons {post : List Value} {x : PySem.Str} {xs : List PySem.Str} (h : StrsAre post (x :: xs)) : ∃ t post', post = .str x t :: post' ∧ StrsAre post' xs := by
  cases h with
  | cons a u h => exact ⟨_, _, rfl, h⟩
theorem end_turn {P R : Prop} {T : Nat} {b : Bool} {s : Shared} (h : TkLe T s (if b = true then False else P)) : TkLe T s (if b = true then R else P) := fun q => by
  cases b with
  | true => exact (h q).elim
  | false => exact h q
theorem strs_nil {post : List Value} (h : StrsAre post []) : post = [] := by cases h; rfl
section
variable {prog : Program} {w : World} {A : Around} {E : Value → Shared → Prop} {Q : Flow → Shared → Prop} {s : Shared} {env : Env} {h₀ : Heap} {L : Addr}
theorem bare_while {test : PySem.Expr} {body : List Stmt} {pos : Pos} {m0 : Str → Option Value} {news : List (Addr × Obj)} {vs : List Value} {ts : List (List Nat)} {o : List Nat} {tp tt : Tok}
    (F : Fr h₀ L s.heap (fun y => if y = Str.ofString "place" then some (.int 0 tp) else if y = Str.ofString "text" then some (.str (Str.ofString "") tt) else m0 y)) (N : News h₀ L s.heap news) (hv : StrsAre vs (mkStrs ts)) (hB : Bare ts o)
    (tEnd : ∀ g tp tt h tk, s.toks ≤ tk → Fr h₀ L h (bareM m0 g vs.length tp o tt) → News h₀ L h news →
      wpAny (model prog w) A (isTrue test env (eval test env)) (fun b s₂ => TkLe tk s₂ (if b = true then False else Q .next s₂)) E { s with heap := h, toks := tk })
    (tPlain : ∀ g tp tt h tk dn pre post ts r t ty, vs = pre ++ .str (chr t) ty :: post → StrsAre post (mkStrs ts) → Bare ts r → o = dn ++ (t ++ r) → tokOf (chr t) ≠ some 19 → s.toks ≤ tk → Fr h₀ L h (bareM m0 g pre.length tp dn tt) → News h₀ L h news →
      wpAny (model prog w) A (isTrue test env (eval test env)) (fun b s₂ => TkLe tk s₂ (if b = true then wpAny (model prog w) A (execs body env) (WhileTk h₀ L s (BareJ m0 news vs o) (post.length + 1)) E s₂ else Q .next s₂)) E { s with heap := h, toks := tk })
    (tAmp : ∀ g tp tt h tk dn pre post ts r t0 t1 t2 t3 t4, vs = pre ++ .str (chr [38]) t0 :: .str (chr [97]) t1 :: .str (chr [109]) t2 :: .str (chr [112]) t3 :: .str (chr [59]) t4 :: post → StrsAre post (mkStrs ts) → Bare ts r → o = dn ++ ([38] ++ r) → s.toks ≤ tk → Fr h₀ L h (bareM m0 g pre.length tp dn tt) → News h₀ L h news →
      wpAny (model prog w) A (isTrue test env (eval test env)) (fun b s₂ => TkLe tk s₂ (if b = true then wpAny (model prog w) A (execs body env) (WhileTk h₀ L s (BareJ m0 news vs o) (post.length + 5)) E s₂ else Q .next s₂)) E { s with heap := h, toks := tk })
    (tTwo : ∀ g tp tt h tk dn pre post ts r t0 t1 t2 t3 a c, (a = 108 ∧ c = 60) ∨ (a = 103 ∧ c = 62) → vs = pre ++ .str (chr [38]) t0 :: .str (chr [a]) t1 :: .str (chr [116]) t2 :: .str (chr [59]) t3 :: post → StrsAre post (mkStrs ts) → Bare ts r → o = dn ++ ([c] ++ r) → s.toks ≤ tk → Fr h₀ L h (bareM m0 g pre.length tp dn tt) → News h₀ L h news →
      wpAny (model prog w) A (isTrue test env (eval test env)) (fun b s₂ => TkLe tk s₂ (if b = true then wpAny (model prog w) A (execs body env) (WhileTk h₀ L s (BareJ m0 news vs o) (post.length + 4)) E s₂ else Q .next s₂)) E { s with heap := h, toks := tk })
    (hE : PassesOwn (model prog w) A env E := by passes_own) :
    wpAny (model prog w) A (exec (.While test body [] pos) env) Q E s := by
  refine While_tk (BareJ m0 news vs o) (n₀ := vs.length) F N ⟨m0, 0, tp, [], tt, [], vs, ts, o, ?_, rfl, rfl, rfl, hv, hB, rfl, rfl⟩ ?_ hE
  · funext y
    show _ = if y = _ then _ else if y = _ then _ else forget bareFree m0 m0 y
    unfold forget
    split
    · rfl
    · split
      · rfl
      · split <;> rfl
  · rintro n m₁ nw h tk F₁ N₁ le ⟨g, p, tp, dn, tt, pre, post, ts, r, rfl, rfl, hvs, rfl, hs, hb, ho, rfl⟩
    cases hb with
    | nil =>
      obtain rfl := strs_nil hs
      rw [List.append_nil] at hvs ho
      subst hvs ho
      exact wpAny_mono (tEnd g tp tt h tk le F₁ N₁) (fun b s₂ h₂ => end_turn h₂) fun _ _ e => e
    | plain h1 h2 =>
      obtain ⟨ty, post', rfl, hs'⟩ := strs_cons hs
      exact tPlain g tp tt h tk dn pre post' _ _ _ ty hvs hs' h2 ho h1 le F₁ N₁
    | amp h2 =>
      obtain ⟨t0, p0, rfl, hs0⟩ := strs_cons hs
      obtain ⟨t1, p1, rfl, hs1⟩ := strs_cons hs0
      obtain ⟨t2, p2, rfl, hs2⟩ := strs_cons hs1
      obtain ⟨t3, p3, rfl, hs3⟩ := strs_cons hs2
      obtain ⟨t4, p4, rfl, hs4⟩ := strs_cons hs3
      exact tAmp g tp tt h tk dn pre p4 _ _ t0 t1 t2 t3 t4 hvs hs4 h2 ho le F₁ N₁
    | lt h2 =>
      obtain ⟨t0, p0, rfl, hs0⟩ := strs_cons hs
      obtain ⟨t1, p1, rfl, hs1⟩ := strs_cons hs0
      obtain ⟨t2, p2, rfl, hs2⟩ := strs_cons hs1
      obtain ⟨t3, p3, rfl, hs3⟩ := strs_cons hs2
      exact tTwo g tp tt h tk dn pre p3 _ _ t0 t1 t2 t3 108 60 (.inl ⟨rfl, rfl⟩) hvs hs3 h2 ho le F₁ N₁
    | gt h2 =>
      obtain ⟨t0, p0, rfl, hs0⟩ := strs_cons hs
      obtain ⟨t1, p1, rfl, hs1⟩ := strs_cons hs0
      obtain ⟨t2, p2, rfl, hs2⟩ := strs_cons hs1
      obtain ⟨t3, p3, rfl, hs3⟩ := strs_cons hs2
      exact tTwo g tp tt h tk dn pre p3 _ _ t0 t1 t2 t3 103 62 (.inr ⟨rfl, rfl⟩) hvs hs3 h2 ho le F₁ N₁
theorem bare_end {m0 m' : Str → Option Value} {news nw : List (Addr × Obj)} {vs pre mid post : List Value} {ts : List (List Nat)} {o dn t r : List Nat} {n : Nat} {v : Int} {x : PySem.Str} {tp tt : Tok} {s₁ : Shared} {h' : Heap} {tk' : Nat}
    (F : Fr h₀ L h' m') (N : News h₀ L h' nw) (hs : ∀ x ∈ news, x ∈ nw)
    (hm : m' (Str.ofString "place") = some (.int v tp)) (hx : m' (Str.ofString "text") = some (.str x tt)) (hm' : ∀ y, bareFree.contains y = false → m' y = m0 y)
    (hvs : vs = pre ++ (mid ++ post)) (hv : v = (pre.length : Int) + (mid.length : Int)) (hxt : x = chr dn ++ chr t) (hp : StrsAre post (mkStrs ts)) (hb : Bare ts r) (ho : o = dn ++ (t ++ r)) (hn : post.length < n) :
    WhileTk h₀ L s₁ (BareJ m0 news vs o) n .next { s₁ with heap := h', toks := tk' } := by
  refine ⟨rfl, h', tk', m', news, post.length, rfl, F, fun q hq => N q (hs q hq), hn, m', pre.length + mid.length, tp, dn ++ t, tt, pre ++ mid, post, ts, r, ?_, rfl, by rw [hvs, List.append_assoc], by rw [List.length_append], hp, hb, by rw [ho, List.append_assoc], rfl⟩
  funext z
  show _ = if z = _ then _ else if z = _ then _ else forget bareFree m' m0 z
  unfold forget
  split
  · rename_i h; rw [h, hm, hv]; rfl
  · split
    · rename_i h; rw [h, hx, hxt, chr_app]
    · cases hcz : bareFree.contains z with
      | true => simp
      | false => simp only [Bool.false_eq_true, if_false]; exact hm' z hcz
end
section
variable {prog : Program} {w : World} {A : Around} {E : Value → Shared → Prop} {s : Shared} {value slice : PySem.Expr} {h₀ : Heap} {L l : Addr} {news : List (Addr × Obj)} {vs : List Value} {e : Nat} {u t : Tok} {Q : Value → Shared → Prop}
theorem lst_got {p : Nat} {k : Int} {v : Value} (N : News h₀ L s.heap news) (hm : (l, W.listOf vs.toArray e) ∈ news) (hk : k = (p : Int)) (hv : vs[p]? = some v) (hfit : vs.length ≤ 1000) (h : Q v s)
    (hs : subscripted slice false (.ref l) (.int k u) = operate [.ref l, .int k u] (getItem (.ref l) (.int k u)) := by with_unfolding_all rfl) :
    wpAny (model prog w) A (subscriptTail value slice (.ref l) (.int k u)) Q E s := by
  subst hk
  have hl := (List.getElem?_eq_some_iff.mp hv).1
  exact lst_at N hm (by omega) (by omega) (by omega) (fun v' hv' => by
    have e : ((p : Nat) : Int).toNat = p := by omega
    rw [e, hv] at hv'; cases hv'; exact h) hs
theorem lt_yes {a b : Int} (hab : a < b) (h : Q (.bool true) s) : wpAny (model prog w) A (compareOp .Lt (.int a t) (.int b u)) Q E s := lt_int (by rw [decide_eq_true hab]; exact h)
theorem lt_no {a b : Int} (hab : ¬ a < b) (h : Q (.bool false) s) : wpAny (model prog w) A (compareOp .Lt (.int a t) (.int b u)) Q E s := lt_int (by rw [decide_eq_false hab]; exact h)
theorem tok_got {y : PySem.Str} {n : Int} (T : StrTab prog w s.heap 113 ettT) (hy : tokOf y = some n) (h : ∀ t tk, s.toks ≤ tk → Q (.int n t) { s with toks := tk }) : wpAny (model prog w) A (call (.builtin "dict.get") [.ref 113, .str y t]) Q E s :=
  kt_get1_thereS (dv := .int n) T (by rw [ett_look, hy]; rfl) fun v hv => by
    obtain ⟨t', rfl⟩ : ∃ t', v = .int n t' := PyProof.V.Flat.int_inv hv
    exact h _ _ (Nat.le_succ _)
theorem tok_not {y : PySem.Str} (T : StrTab prog w s.heap 113 ettT) (hy : tokOf y = none) (h : ∀ tk, s.toks ≤ tk → Q .none { s with toks := tk }) : wpAny (model prog w) A (call (.builtin "dict.get") [.ref 113, .str y t]) Q E s :=
  kt_get1_noneS T (by rw [ett_look, hy]; rfl) (h _ (Nat.le_succ _))
theorem tok_get {y : PySem.Str} (T : StrTab prog w s.heap 113 ettT) (h1 : ∀ n t tk, tokOf y = some n → s.toks ≤ tk → Q (.int n t) { s with toks := tk }) (h2 : ∀ tk, tokOf y = none → s.toks ≤ tk → Q .none { s with toks := tk }) : wpAny (model prog w) A (call (.builtin "dict.get") [.ref 113, .str y t]) Q E s := by
  cases hy : tokOf y with
  | none => exact tok_not T hy fun tk le => h2 tk hy le
  | some n => exact tok_got T hy fun t tk le => h1 n t tk hy le
theorem eqi_no {a b : Int} (hab : a ≠ b) (h : Q (.bool false) s) : wpAny (model prog w) A (compareOp .Eq (.int a t) (.int b u)) Q E s := eq_int (by rw [beq_eq_false_iff_ne.mpr hab]; exact h)
theorem eqi_yes {a : Int} (h : Q (.bool true) s) : wpAny (model prog w) A (compareOp .Eq (.int a t) (.int a u)) Q E s := eq_int (by rw [beq_self_eq_true]; exact h)
end
section
variable {prog : Program} {w : World} {A : Around} {E : Value → Shared → Prop} {s : Shared} {h₀ : Heap} {L D : Addr} {news : List (Addr × Obj)} {e : Nat} {t : Tok} {Q : Value → Shared → Prop}
theorem join_exp {zs : List Value} {ys : List PySem.Str} {y : PySem.Str} (N : News h₀ L s.heap news) (hm : (D, W.listOf zs.toArray e) ∈ news) (hi : StrsAre zs ys) (hy : Txt.join (Str.ofString "") ys = y) (hw : (ys.map (·.length)).sum + ys.length ≤ 1048576)
    (h : ∀ t' k, Q (.str y t') { s with toks := k }) : wpAny (model prog w) A (call (.builtin "str.join") [.str (Str.ofString "") t, .ref D]) Q E s :=
  join_listW (News.isList N hm) hi (by decide +kernel) hw fun t' k => by rw [hy]; exact h t' k
theorem join_two {aa cc : Nat} {t1 t2 : Tok} (hac : (aa = 108 ∧ cc = 60) ∨ (aa = 103 ∧ cc = 62)) (N : News h₀ L s.heap news) (hm : (D, W.listOf [Value.str (chr [aa]) t1, .str (chr [116]) t2].toArray e) ∈ news)
    (h1 : aa = 108 → cc = 60 → ∀ t' k, Q (.str (Str.ofString "lt") t') { s with toks := k }) (h2 : aa = 103 → cc = 62 → ∀ t' k, Q (.str (Str.ofString "gt") t') { s with toks := k }) : wpAny (model prog w) A (call (.builtin "str.join") [.str (Str.ofString "") t, .ref D]) Q E s := by
  rcases hac with ⟨rfl, rfl⟩ | ⟨rfl, rfl⟩
  · exact join_exp N hm (.cons _ _ (.cons _ _ .nil)) (by decide +kernel) (by decide +kernel) (h1 rfl rfl)
  · exact join_exp N hm (.cons _ _ (.cons _ _ .nil)) (by decide +kernel) (by decide +kernel) (h2 rfl rfl)
theorem join_amp {t1 t2 t3 : Tok} (N : News h₀ L s.heap news) (hm : (D, W.listOf [Value.str (chr [97]) t1, .str (chr [109]) t2, .str (chr [112]) t3].toArray e) ∈ news)
    (h : ∀ t' k, Q (.str (Str.ofString "amp") t') { s with toks := k }) : wpAny (model prog w) A (call (.builtin "str.join") [.str (Str.ofString "") t, .ref D]) Q E s :=
  join_exp N hm (.cons _ _ (.cons _ _ (.cons _ _ .nil))) (by decide +kernel) (by decide +kernel) h
end
theorem chr_len (l : List Nat) : (chr l).length = l.length := by simp [chr, Str.length]
theorem iadd_c {prog : Program} {w : World} {A : Around} {E : Value → Shared → Prop} {s : Shared} {Q : Value → Shared → Prop} {dn : List Nat} {y : PySem.Str} {t u : Tok} (hd : dn.length ≤ 1000) (hy : y.length ≤ 1000) (h : ∀ t' k, Q (.str (chr dn ++ y) t') { s with toks := k }) : wpAny (model prog w) A (inplaceOp .Add (.str (chr dn) t) (.str y u)) Q E s :=
  iadd_str h (by rw [sizeLine_eq, chr_len]; omega)
theorem dn_len {o dn t r : List Nat} (h : o = dn ++ (t ++ r)) (ho : o.length ≤ 1000) : dn.length ≤ 1000 ∧ t.length ≤ 1000 := by
  have e := congrArg List.length h
  simp only [List.length_append] at e
  omega
theorem two_txt {dn : List Nat} {y : PySem.Str} {c k : Nat} (hc : c = k) (hy : y = chr [k]) : chr dn ++ y = chr dn ++ chr [c] := by rw [hc, hy]
theorem pick_win {pre post : List Value} {i j : Int} {a c : Nat} (hi : i = (pre.length : Int) + (a : Int)) (hj : j = i + (c : Int)) : kms_pick (pre ++ post) (some i) (some j) = (post.drop a).take c := by
  obtain rfl : i = ((pre.length + a : Nat) : Int) := hi
  obtain rfl : j = ((pre.length + a + c : Nat) : Int) := hj
  rw [pick_run (Int.natCast_nonneg _) (Int.natCast_nonneg _), Int.toNat_natCast, Int.toNat_natCast, Nat.add_sub_cancel_left, ← List.drop_drop, List.drop_left]
theorem semi : chr [59] = Str.ofString ";" := by decide +kernel
theorem chr_ne {a : Nat} (h : a ≠ 59) : chr [a] ≠ Str.ofString ";" := by
  rw [← semi]
  intro e
  have e2 := congrArg (fun x : PySem.Str => x.cps.toList) e
  simp [chr] at e2
  exact h e2
theorem Apart.of {B u : Nat} {vs zs : List Value} (hT : Toks B vs) (hB : B ≤ u) (hsub : ∀ v ∈ zs, v ∈ vs) : Apart u zs := fun v hv => by
  obtain ⟨y, t, rfl, h1, h2⟩ := hT v (hsub v hv)
  exact ⟨y, t, rfl, h2, Nat.ne_of_lt (Nat.lt_of_lt_of_le h1 hB)⟩
theorem cut_len {cs : List Nat} {ts : List (List Nat)} (h : Cut cs ts) : ts.length ≤ cs.length := by
  induction h with
  | nil => exact Nat.le_refl _
  | step h0 _ ih =>
    rename_i l r _
    have h1 := sz_pos l
    rw [List.length_drop] at ih
    rw [List.length_cons]
    have : l.length ≠ 0 := fun e => h0 (List.length_eq_zero_iff.mp e)
    omega
theorem strs_len {vs : List Value} {xs : List PySem.Str} (h : StrsAre vs xs) : vs.length = xs.length := by
  induction h with
  | nil => rfl
  | cons a u _ ih => rw [List.length_cons, List.length_cons, ih]
theorem cut_vlen {x : PySem.Str} {vs : List Value} {ts : List (List Nat)} (hv : StrsAre vs (mkStrs ts)) (h : Cut x.cps.toList ts) (hx : x.length ≤ 1000) : vs.length ≤ 1000 := by
  have h1 := strs_len hv
  have h2 := cut_len h
  unfold mkStrs at h1
  rw [List.length_map] at h1
  have h3 : x.cps.toList.length = x.length := by simp [Str.length]
  omega
theorem lt_mid {pre post : List Value} {v : Value} : ((pre.length : Nat) : Int) < ((pre ++ v :: post).length : Int) := by rw [List.length_append]; exact Int.ofNat_lt.mpr (Nat.lt_add_of_pos_right (Nat.succ_pos _))
theorem at_zero {p : Nat} : (p : Int) = (p : Int) + ((0 : Nat) : Int) := (Int.add_zero _).symm
theorem add_two {p a b : Int} {c : Nat} (h : a = b + (c : Int)) : p + a = p + b + (c : Int) := by rw [h, Int.add_assoc]
theorem get_mid (pre : List Value) (v : Value) (post : List Value) : (pre ++ v :: post)[pre.length]? = some v := by simp
theorem amp19 : tokOf (chr [38]) = some 19 := by decide +kernel
theorem ne19 {y : PySem.Str} {n : Int} (hne : tokOf y ≠ some 19) (hn : tokOf y = some n) : n ≠ 19 := fun e => hne (by rw [hn, e])
theorem tok_pos {u : Nat} (h : 0 < u) : @Ne Tok u 0 := Nat.pos_iff_ne_zero.mp h
theorem lt_four {a b c d : PySem.Str} {y : PySem.Str} {ta tb tc td : Tok} {r : List Value} (ha : a ≠ y) (hb : b ≠ y) (hc : c ≠ y) (hd : d ≠ y) : ∀ q x t, q < 4 → (Value.str a ta :: .str b tb :: .str c tc :: .str d td :: r)[q]? = some (.str x t) → x ≠ y := by
  intro q x t hq h
  match q, hq, h with
  | 0, _, h => cases h; exact ha
  | 1, _, h => cases h; exact hb
  | 2, _, h => cases h; exact hc
  | 3, _, h => cases h; exact hd
theorem lt_three {a b c : PySem.Str} {y : PySem.Str} {ta tb tc : Tok} {r : List Value} (ha : a ≠ y) (hb : b ≠ y) (hc : c ≠ y) : ∀ q x t, q < 3 → (Value.str a ta :: .str b tb :: .str c tc :: r)[q]? = some (.str x t) → x ≠ y := by
  intro q x t hq h
  match q, hq, h with
  | 0, _, h => cases h; exact ha
  | 1, _, h => cases h; exact hb
  | 2, _, h => cases h; exact hc
theorem bare_c (w : World) (news : List (Addr × Obj)) (x : PySem.Str) (t : Tok) (o : List Nat) (hx : x.length ≤ 1000) (h4 : 4 ≤ x.length) (ho : o.length ≤ 1000) (hB : ∀ ts, Cut x.cps.toList ts → Bare ts o) :
  CtrT w 282 news [.str x t] 2 16 (fun r tl tk' => ∃ t', r = .str (chr o) t' ∧ tl = []) := by
  k_with_none
  w_top off
  k_with "mine mem" => (first | (refine' mem_here ?_; ktr_member) | (refine' mem_appR ?_; k_mem) | (refine' mem_appL ?_; k_mem) | fail)
  k_with "mine ltL" => ((repeat (first | with_reducible exact lt_up0 | with_reducible refine lt_up ?_)); done)
  k_with "mine tk2" => (first | with_reducible assumption | with_reducible exact le_one | with_reducible exact Nat.le_refl _ | with_reducible exact Nat.succ_le_of_lt (by with_reducible assumption) | (with_reducible refine le_up ?_; k_extra "mine tk2") | (with_reducible refine le_chain (by with_reducible assumption) ?_; k_extra "mine tk2"))
  k_with "mine tk1" => ((try dsimp only); k_extra "mine tk2")
  k_with "mine size" => (first | (refine' sz_arr ?szA ?szB; (case szA => with_reducible assumption); (case szB => rfl)) | (refine' sz_line ?szA ?szB; (case szA => with_reducible assumption); (case szB => rfl)) | exact Nat.le_of_ble_eq_true rfl | fail)
  k_with "mine room" => ((first | k_dflt refine' rm2 ?rmA ?rmB | k_dflt refine' rm1 ?rmA ?rmB | k_dflt refine' rm0 ?rmA); (case rmA => k_dflt assumption); (try (case rmB => rfl)))
  k_with "mine ne" => (refine neN ?_; (try dsimp only); first | exact ne_all (by with_reducible assumption) (by k_mem) | exact ne_all' (by with_reducible assumption) (by k_mem) | with_reducible assumption | exact Ne.symm (by with_reducible assumption) | exact ne_gt (by k_extra "mine ltL") | exact ne_lt (by k_extra "mine ltL") | exact ne_gt (by with_reducible assumption) | exact ne_lt (by with_reducible assumption) | exact ne_far (by with_reducible assumption) (by k_extra "mine ltL") | exact ne_far' (by with_reducible assumption) (by k_extra "mine ltL") | omega | fail)
  k_with "mine all" => (first | with_reducible assumption | exact all_ne (by with_reducible assumption) (by k_extra "mine sub") | fail)
  k_with "mine free" => (intro yy; intros; repeat (first | with_reducible exact rfl | with_reducible exact forget_off (by with_reducible assumption) | (refine' Eq.trans (if_neg ?fnC) ?_; (case fnC => first | with_reducible assumption | exact ne_free (by with_reducible assumption) (by kernel_rfl))) | exact rfl))
  k_with "evalPairs" => (k_here; dsimp only)
  k_with "Exists" => (k_here; dsimp only)
  k_with "execs cons" => (k_here; refine' nx_start ?_; intro tkz htkz; (try dsimp only at htkz))
  k_with "Nx" => ((try dsimp only); (first | (with_reducible refine' nx_cons0 ?_; intro tkz htkz) | (with_reducible refine' nx_cons ?_; intro tkz htl htkz) | ((first | with_reducible refine' nx_nil0 ?_ | with_reducible refine' nx_ret0 ?_ | with_reducible refine' nx_open0 ?_); (try dsimp only)) | ((first | with_reducible refine' nx_nil ?_ | with_reducible refine' nx_ret ?_ | with_reducible refine' nx_open ?_ | with_reducible refine' nx_brk ?_ | with_reducible refine' nx_cont ?_); intro htl; (try dsimp only at htl); (try dsimp only))))
  k_with "execs nil" => (k_here; (refine wpAny_execs_nil ?_); (try dsimp only))
  k_with "newList" => (k_here; k_dflt (refine' new_lst ?nlF ?nlN ?nlz ?_; (case nlF => k_asm); (case nlN => k_asm); (case nlz => rfl); k_whole); intro d' h' F' N' l1; (try k_sweep))
  k_with "newTuple" => (k_here; k_dflt (refine' new_tup ?nlF ?nlN ?nlz ?_; (case nlF => k_asm); (case nlN => k_asm); (case nlz => rfl); k_whole); intro d' h' F' N' l1; (try k_sweep))
  k_with "mine sub" => ((repeat (first | with_reducible exact sub_nil | with_reducible exact sub_app | with_reducible refine sub_cons ?_ | with_reducible refine sub_app' ?_)); done)
  k_with "mine end2" => ((case F => k_asm); (case N => k_asm); (case S => k_extra "mine sub"); (case P => (refine' lt_sub ?a ?b; (case a => with_reducible assumption); (case b => k_extra "mine sub"))); (case R => (refine' lt_sub ?a ?b; (case a => with_reducible assumption); (case b => k_extra "mine sub"))))
  unfold CtrT
  k_fill
  intro mean mg mb dp un gd cn cs a ccd cl outer A₀ base h₀ L m s Q E B F X N T hk hd hu ht1 hret
  refine wpAny_call ?_
  k_dflt ktr_enter
  k_with "TkLe" => (refine' tkle_intro ?_; intro htl; (try dsimp only at htl); (try dsimp only))
  k_with "call ref" => (first | (k_dflt (refine' CtrT.use (cut_c w _ x t hx h4) ?yB ?yFr ?yX ?yN ?yT ?yk ?yd ?yu ?y1 ?yret; (case yB => k_asm); (case yFr => k_asm); (case yX => k_asm); (case yN => k_asm); (case yT => k_asm); (case yk => rfl); (case yd => ktr_room); (case yu => ktr_units); (case y1 => k_extra "mine tk1")); (intro r tl h' tk' F' N' ord post; obtain ⟨dp', vs, e', ts, rfl, rfl, hvs, hcut, hToks, hone⟩ := post; (try dsimp only); (try simp only [List.cons_append, List.nil_append] at N'); (have hlen := cut_vlen hvs hcut hx))) | (k_dflt (refine' Ctr.use_x (idx_c w _ _ _ _ (Str.ofString ";") _ 3 t3 ?im ?iA ?iu ?inn ?il) ?yB ?yFr ?yX ?yN ?yT ?yk ?yd ?yu ?zret; (case yB => k_asm); (case yFr => k_asm); (case yX => k_asm); (case yN => k_asm); (case yT => k_asm); (case yk => rfl); (case yd => ktr_room); (case yu => ktr_units); (case im => k_mem); (case inn => exact congrArg (fun z => some (Value.str z t3)) semi); (case il => exact lt_three (chr_ne (by decide)) (chr_ne (by rcases hac with ⟨e, _⟩ | ⟨e, _⟩ <;> (rw [e]; decide))) (chr_ne (by decide))); (case iu => exact tok_pos (pos_of (by k_extra "mine tk1"))); (case iA => (refine' Apart.of hToks ?_ ?_; (k_extra "mine tk1"); (intro v hv; refine List.mem_append_right pre (List.mem_of_mem_take (i := 5) ?_); exact hv)))); (intro tr h' tkr F' N'; (try dsimp only))) | (k_dflt (refine' Ctr.use_x (idx_c w _ _ _ _ (Str.ofString ";") _ 4 t4 ?im ?iA ?iu ?inn ?il) ?yB ?yFr ?yX ?yN ?yT ?yk ?yd ?yu ?wret; (case yB => k_asm); (case yFr => k_asm); (case yX => k_asm); (case yN => k_asm); (case yT => k_asm); (case yk => rfl); (case yd => ktr_room); (case yu => ktr_units); (case im => k_mem); (case inn => exact congrArg (fun z => some (Value.str z t4)) semi); (case il => exact lt_four (chr_ne (by decide)) (chr_ne (by decide)) (chr_ne (by decide)) (chr_ne (by decide))); (case iu => exact tok_pos (pos_of (by k_extra "mine tk1"))); (case iA => (refine' Apart.of hToks ?_ ?_; (k_extra "mine tk1"); (intro v hv; refine List.mem_append_right pre (List.mem_of_mem_take (i := 5) ?_); exact hv)))); (intro tr h' tkr F' N'; (try dsimp only))))
  k_with "exec While Compare cons nil" => (k_dflt (refine' bare_while (vs := vs) (ts := ts) (o := o) ?wF ?wN hvs (hB ts hcut) ?tEnd ?tPlain ?tAmp ?tTwo ?wE; (case wF => k_asm); (case wN => k_asm); (case wE => passes_own)); (case' tEnd => (intro g tp tt hh tkh hle F1 N1; (try dsimp only at hle); (try dsimp only); (try k_fold))); (case' tPlain => (intro g tp tt hh tkh dn pre post ts' r tx ty hvv hpost hb ho' hne hle F1 N1; subst hvv; (have hgot := get_mid pre (Value.str (chr tx) ty) post); (try dsimp only at hle); (try dsimp only); (try k_fold))); (case' tAmp => (intro g tp tt hh tkh dn pre post ts' r t0 t1 t2 t3 t4 hvv hpost hb ho' hle F1 N1; subst hvv; (have hgot := get_mid pre (Value.str (chr [38]) t0) (.str (chr [97]) t1 :: .str (chr [109]) t2 :: .str (chr [112]) t3 :: .str (chr [59]) t4 :: post)); (try dsimp only at hle); (try dsimp only); (try k_fold))); (case' tTwo => (intro g tp tt hh tkh dn pre post ts' r t0 t1 t2 t3 aa cc hac hvv hpost hb ho' hle F1 N1; subst hvv; (have hgot := get_mid pre (Value.str (chr [38]) t0) (.str (chr [aa]) t1 :: .str (chr [116]) t2 :: .str (chr [59]) t3 :: post)); (try dsimp only at hle); (try dsimp only); (try k_fold))))
  k_with "call builtin:len" => (k_dflt (refine' len_lst ?xN ?xm ?xf ?_; (case xN => k_asm); (case xm => k_mem); (case xf => exact lt_lit hlen rfl)); intro tln tkl)
  k_with "compareOp Lt int int" => (first | (k_dflt (refine' lt_yes ?q ?_; (case q => exact lt_mid))) | (k_dflt (refine' lt_no ?q ?_; (case q => exact Int.lt_irrefl _))))
  k_with "subscriptTail Name Name ref int" => (k_dflt (refine' lst_got ?xN ?xm ?xk hgot ?xf ?_ ?xs; (case xN => k_asm); (case xm => k_mem); (case xk => rfl); (case xf => exact hlen); (case xs => with_unfolding_all rfl)))
  k_with "subscriptTail Name Slice ref ref" => ((first | (k_dflt (refine' cut_lst (zs := .str (chr [38]) t0 :: .str (chr [aa]) t1 :: .str (chr [116]) t2 :: .str (chr [59]) t3 :: post.take 1) ?xF ?xN ?xm ?xp ?xq ?xe ?_ ?xs ?xt ?xz; (case xF => k_asm); (case xN => k_asm); (case xm => k_mem); (case xp => kmk_part); (case xq => kmk_part); (case xe => exact (pick_win (a := 0) (c := 5) (by first | exact at_zero | exact add_cast rfl) (by first | exact add_cast rfl | exact add_two rfl)).trans rfl); (case xs => with_unfolding_all rfl); (case xt => kmk_pure); (case xz => exact sz_line hlen rfl))) | (k_dflt (refine' cut_lst (zs := [.str (chr [38]) t0, .str (chr [97]) t1, .str (chr [109]) t2, .str (chr [112]) t3, .str (chr [59]) t4]) ?xF ?xN ?xm ?xp ?xq ?xe ?_ ?xs ?xt ?xz; (case xF => k_asm); (case xN => k_asm); (case xm => k_mem); (case xp => kmk_part); (case xq => kmk_part); (case xe => exact (pick_win (a := 0) (c := 5) (by first | exact at_zero | exact add_cast rfl) (by first | exact add_cast rfl | exact add_two rfl)).trans rfl); (case xs => with_unfolding_all rfl); (case xt => kmk_pure); (case xz => exact sz_line hlen rfl))) | (k_dflt (refine' cut_lst (zs := [.str (chr [aa]) t1, .str (chr [116]) t2]) ?xF ?xN ?xm ?xp ?xq ?xe ?_ ?xs ?xt ?xz; (case xF => k_asm); (case xN => k_asm); (case xm => k_mem); (case xp => kmk_part); (case xq => kmk_part); (case xe => exact (pick_win (a := 1) (c := 2) (by first | exact at_zero | exact add_cast rfl) (by first | exact add_cast rfl | exact add_two rfl)).trans rfl); (case xs => with_unfolding_all rfl); (case xt => kmk_pure); (case xz => exact sz_line hlen rfl))) | (k_dflt (refine' cut_lst (zs := [.str (chr [97]) t1, .str (chr [109]) t2, .str (chr [112]) t3]) ?xF ?xN ?xm ?xp ?xq ?xe ?_ ?xs ?xt ?xz; (case xF => k_asm); (case xN => k_asm); (case xm => k_mem); (case xp => kmk_part); (case xq => kmk_part); (case xe => exact (pick_win (a := 1) (c := 3) (by first | exact at_zero | exact add_cast rfl) (by first | exact add_cast rfl | exact add_two rfl)).trans rfl); (case xs => with_unfolding_all rfl); (case xt => kmk_pure); (case xz => exact sz_line hlen rfl)))); intro Dsl hsl Fsl Nsl lsl)
  k_with "call builtin:dict.get" => (first | (k_dflt (refine' tok_got ?cT amp19 ?_; (case cT => exact ett_tab w (Frag.In.keeps (by k_asm) (Fr.keep (by k_asm))))); intro tnn tkk hlee; (try dsimp only at hlee)) | (k_dflt (refine' tok_get ?cT ?cA ?cB; (case cT => exact ett_tab w (Frag.In.keeps (by k_asm) (Fr.keep (by k_asm))))); (case' cA => (intro nn tnn tkk hnn hlee; (try dsimp only at hlee))); (case' cB => (intro tkk hnn hlee; (try dsimp only at hlee)))))
  k_with "compareOp Eq int int" => (first | (with_reducible refine' eqi_no (ne19 hne hnn) ?_) | (with_reducible refine' eqi_yes ?_))
  k_with "call builtin:str.join" => (first | (k_dflt (refine' join_two hac ?xN ?xm ?h1 ?h2; (case xN => k_asm); (case xm => k_mem)); (case' h1 => intro eaa ecc tj tkj); (case' h2 => intro eaa ecc tj tkj)) | (k_dflt (refine' join_amp ?xN ?xm ?_; (case xN => k_asm); (case xm => k_mem)); intro tj tkj))
  k_with "WhileTk" => (first | (k_dflt (refine' bare_end (pre := pre) (mid := [Value.str (chr tx) ty]) (t := tx) ?eF ?eN ?eS ?em ?ex ?em' rfl ?ev ?et hpost hb ho' ?en; (case eF => k_asm); (case em => rfl); (case ex => rfl); (case et => rfl); (case ev => exact add_cast rfl); (case eN => k_asm); (case eS => k_extra "mine sub"); (case en => exact Nat.lt_add_of_pos_right (by decide)); (case em' => k_extra "mine free"))) | (k_dflt (refine' bare_end (pre := pre) (mid := [.str (chr [38]) t0, .str (chr [aa]) t1, .str (chr [116]) t2, .str (chr [59]) t3]) (t := [cc]) ?eF ?eN ?eS ?em ?ex ?em' rfl ?ev ?et hpost hb ho' ?en; (case eF => k_asm); (case em => rfl); (case ex => rfl); (case et => (exact two_txt ecc (by decide +kernel))); (case ev => exact add_cast rfl); (case eN => k_asm); (case eS => k_extra "mine sub"); (case en => exact Nat.lt_add_of_pos_right (by decide)); (case em' => k_extra "mine free"))) | (k_dflt (refine' bare_end (pre := pre) (mid := [.str (chr [38]) t0, .str (chr [97]) t1, .str (chr [109]) t2, .str (chr [112]) t3, .str (chr [59]) t4]) (t := [38]) ?eF ?eN ?eS ?em ?ex ?em' rfl ?ev ?et hpost hb ho' ?en; (case eF => k_asm); (case em => rfl); (case ex => rfl); (case et => (exact two_txt rfl (by decide +kernel))); (case ev => exact add_cast rfl); (case eN => k_asm); (case eS => k_extra "mine sub"); (case en => exact Nat.lt_add_of_pos_right (by decide)); (case em' => k_extra "mine free"))))
  k_with "inplaceOp Add str str" => (k_dflt (refine' iadd_c (dn_len ho' ho).1 ?iy ?_; (case iy => first | decide +kernel | (rw [chr_len]; exact (dn_len ho' ho).2))); intro tia tka)
  k_with "LeaveK" => (k_dflt (refine' leaveK_ ?k1 ?k2 ?_; (case k1 => k_asm); (case k2 => k_asm); k_whole); intro kF kN; k_dflt (refine' ret0T hret kF kN ?g1 ⟨_, rfl, rfl⟩; (case g1 => k_extra "mine sub")))
  k_steps
/-- the pieces of a text, and the row of symbols that they stand for -/
inductive Rw : List (List Nat) → List Int → Prop where
  | nil : Rw [] []
  | num {t : List Nat} {n : Int} {ts : List (List Nat)} {r : List Int} : tokOf (chr t) = some n → n ≠ 25 → Rw ts r → Rw (t :: ts) (n :: r)
  | name {c d : List Nat} {i : Nat} {ts : List (List Nat)} {r : List Int} : i < 4 → chr ([123] ++ c ++ [125] ++ d) = leafTxt i → Rw ts r → Rw ([123] :: c :: [125] :: d :: ts) ((256 + (i : Int)) :: r)
noncomputable def rowFree : List Str := [Str.ofString "place", Str.ofString "number"]
theorem is_ref_str {M : Model} {A : Around} {E : Value → Shared → Prop} {s : Shared} {q : Addr} {y : PySem.Str} {u : Tok} {Q : Value → Shared → Prop} (h : Q (.bool false) s) : wpAny M A (compareOp .Is (.ref q) (.str y u)) Q E s := by
  show wpAny M A (do return .bool (← isSame (.ref q) (.str y u))) Q E s
  exact wpAny_bind (wpAny_pure (wpAny_pure h))
noncomputable abbrev qEs (x : PySem.Str) (h : Int) (k1 k2 : Tok) : List DictEntry := [⟨h, .str "text" k1, .str x k2⟩]
noncomputable def QAt (x : PySem.Str) (v : Value) (news : List (Addr × Obj)) : Prop := ∃ (q d : Addr) (h : Int) (k1 k2 : Tok), v = .ref q ∧ (q, instObj 203 d) ∈ news ∧ (d, PySem.W.dictOf (qEs x h k1 k2) 1) ∈ news
noncomputable def NamesAt (D : Addr) (news : List (Addr × Obj)) : Prop := ∃ (e : Nat) (vs : List Value), (D, PySem.W.listOf vs.toArray e) ∈ news ∧ vs.length = 4 ∧ ∀ i v, vs[i]? = some v → QAt (leafTxt i) v news
noncomputable def NamJ (m0 : Str → Option Value) (news : List (Addr × Obj)) (y : PySem.Str) (i _tk : Nat) (m : Str → Option Value) (nw : List (Addr × Obj)) : Prop :=
  (∃ g, m = forget idxFree g m0) ∧ nw = news ∧ ∀ q, q < i → leafTxt q ≠ y
theorem leaf_ne : ∀ i, i < 4 → ∀ j, j < 4 → leafTxt i = leafTxt j → i = j := by decide +kernel
theorem nam_end {h₀ h' : Heap} {L : Addr} {s : Shared} {wr : List Addr} {own news nw : List (Addr × Obj)} {m0 m' : Str → Option Value} {y : PySem.Str} {i tk' : Nat} {Q : Flow → Shared → Prop}
    (F : Fr h₀ L h' m') (N : News h₀ L h' nw) (hs : ∀ p ∈ own ++ news, p ∈ nw) (hoff : ∀ p ∈ news, p.1 ∉ wr) (hm' : ∀ y, idxFree.contains y = false → m' y = m0 y)
    (hxy : leafTxt i ≠ y) (hno : ∀ q, q < i → leafTxt q ≠ y) :
    TurnT h₀ L s wr own (NamJ m0 news y (i + 1)) Q .next { s with heap := h', toks := tk' } := by
  refine ⟨h', tk', m', news, rfl, F, fun p hp => N p (hs p hp), hoff, ⟨m', ?_⟩, rfl, fun q hq => ?_⟩
  · funext z
    unfold forget
    cases hcz : idxFree.contains z with
    | true => simp
    | false => simp only [Bool.false_eq_true, if_false]; exact hm' z hcz
  · rcases Nat.lt_or_ge q i with h | h
    · exact hno q h
    · have e : q = i := by omega
      subst e
      exact hxy
theorem nam_for {prog : Program} {w : World} {A : Around} {s : Shared} {env : Env} {h₀ : Heap} {body orelse : List Stmt} {E : Value → Shared → Prop} {Q : Flow → Shared → Prop} {elts : List PySem.Expr} {k : Nat} {tpos : Pos} {l : Addr} {vs : List Value} {e : Nat} {m0 : Str → Option Value} {news : List (Addr × Obj)} {y : PySem.Str} {n : Nat}
    (hh : A.handled = none) (hl : (l, PySem.W.listOf vs.toArray e) ∈ news) (h4 : vs.length = 4) (hQ : ∀ i v, vs[i]? = some v → QAt (leafTxt i) v news) (hn : n < 4) (hy : y = leafTxt n) (F : Fr h₀ env.locals s.heap m0) (N : News h₀ env.locals s.heap news)
    (turn : ∀ i T t g h tk own wr (q d : Addr) (hsh : Int) (k1 k2 : Tok), (q, instObj 203 d) ∈ news → (d, PySem.W.dictOf (qEs (leafTxt i) hsh k1 k2) 1) ∈ news → i ≤ n → (∀ q, q < i → leafTxt q ≠ y) → (leafTxt i = y → i = n) → IsTup h T #[.int (i : Nat) t, .ref q] → (∀ p ∈ news, p.1 ∉ wr) → Fr h₀ env.locals h (forget idxFree g m0) → News h₀ env.locals h (own ++ news) →
      wpAny (model prog w) A (assign (.Tuple elts k tpos) env (.ref T)) (fun _ s₂ => TkLe tk s₂ (wpAny (model prog w) A (execs body env) (TurnT h₀ env.locals s wr own (NamJ m0 news y (i + 1)) Q) E s₂)) E { s with heap := h, toks := tk })
    (hE : PassesOwn (model prog w) A env E := by passes_own) :
    wpAny (model prog w) A (call (.type "enumerate") [.ref l]) (fun xv s₁ => wpAny (model prog w) A (pyIter xv) (fun it s₂ => codeAny (model prog w) A (.forLoop (.Tuple elts k tpos) it body orelse env) (fun r s' => match r with | .ok f => Q f s' | .error e => cameBackBy (model prog w) A env E e s') s₂) E s₁) E s := by
  refine for_enum (NamJ m0 news y) hh hl F N ⟨⟨_, forget_self⟩, rfl, fun _ h => absurd h (Nat.not_lt_zero _)⟩ ?_ ?_ hE
  · rintro i v T t m₁ nw₁ h tk₀ tk own wr hv - - ⟨⟨g, rfl⟩, rfl, hno⟩ hT hoff F₁ N₁
    obtain ⟨q, d, hsh, k1, k2, rfl, h1, h2⟩ := hQ i v hv
    have hi4 : i < 4 := by rw [← h4]; exact (List.getElem?_eq_some_iff.mp hv).1
    have hi : i ≤ n := by
      rcases Nat.lt_or_ge n i with h | h
      · exact absurd hy.symm (hno n h)
      · exact h
    exact turn i T t g h tk own wr q d hsh k1 k2 h1 h2 hi hno (fun he => leaf_ne i hi4 n hn (he.trans hy)) hT hoff F₁ N₁
  · rintro h tk₀ tk m₁ nw₁ - - - - ⟨-, -, hno⟩
    exact absurd hy.symm (hno n (by omega))
theorem cmpBack_bool {Q : Value → Shared → Prop} {b : Bool} {s : Shared} (h : Q (.bool b) s) : PySem.W.CmpBack Q (.bool b) s := h
theorem qeq_c (w : World) (news : List (Addr × Obj)) (q d : Addr) (x y : PySem.Str) (h : Int) (k1 k2 u : Tok) (hq : (q, instObj 203 d) ∈ news) (hd' : (d, PySem.W.dictOf (qEs x h k1 k2) 1) ∈ news) :
  Ctr w 200 news [.ref q, .str y u] 1 8 (fun r tl => r = .bool (x == y) ∧ tl = []) := by
  k_with_none
  w_top off
  k_with "mine mem" => (first | (refine' mem_here ?_; ktr_member) | (refine' mem_appR ?_; k_mem) | (refine' mem_appL ?_; k_mem) | fail)
  k_with "mine ltL" => ((repeat (first | with_reducible exact lt_up0 | with_reducible refine lt_up ?_)); done)
  k_with "mine tk2" => (first | with_reducible assumption | with_reducible exact le_one | with_reducible exact Nat.le_refl _ | with_reducible exact Nat.succ_le_of_lt (by with_reducible assumption) | (with_reducible refine le_up ?_; k_extra "mine tk2") | (with_reducible refine le_chain (by with_reducible assumption) ?_; k_extra "mine tk2"))
  k_with "mine tk1" => ((try dsimp only); k_extra "mine tk2")
  k_with "mine size" => (first | (refine' sz_arr ?szA ?szB; (case szA => with_reducible assumption); (case szB => rfl)) | (refine' sz_line ?szA ?szB; (case szA => with_reducible assumption); (case szB => rfl)) | exact Nat.le_of_ble_eq_true rfl | fail)
  k_with "mine room" => ((first | k_dflt refine' rm2 ?rmA ?rmB | k_dflt refine' rm1 ?rmA ?rmB | k_dflt refine' rm0 ?rmA); (case rmA => k_dflt assumption); (try (case rmB => rfl)))
  k_with "mine ne" => (refine neN ?_; (try dsimp only); first | exact ne_all (by with_reducible assumption) (by k_mem) | exact ne_all' (by with_reducible assumption) (by k_mem) | with_reducible assumption | exact Ne.symm (by with_reducible assumption) | exact ne_gt (by k_extra "mine ltL") | exact ne_lt (by k_extra "mine ltL") | exact ne_gt (by with_reducible assumption) | exact ne_lt (by with_reducible assumption) | exact ne_far (by with_reducible assumption) (by k_extra "mine ltL") | exact ne_far' (by with_reducible assumption) (by k_extra "mine ltL") | omega | fail)
  k_with "mine all" => (first | with_reducible assumption | exact all_ne (by with_reducible assumption) (by k_extra "mine sub") | fail)
  k_with "mine free" => (intro yy; intros; repeat (first | with_reducible exact rfl | with_reducible exact forget_off (by with_reducible assumption) | (refine' Eq.trans (if_neg ?fnC) ?_; (case fnC => first | with_reducible assumption | exact ne_free (by with_reducible assumption) (by kernel_rfl))) | exact rfl))
  k_with "evalPairs" => (k_here; dsimp only)
  k_with "Exists" => (k_here; dsimp only)
  k_with "execs cons" => (k_here; refine' nx_start ?_; intro tkz htkz; (try dsimp only at htkz))
  k_with "Nx" => ((try dsimp only); (first | (with_reducible refine' nx_cons0 ?_; intro tkz htkz) | (with_reducible refine' nx_cons ?_; intro tkz htl htkz) | ((first | with_reducible refine' nx_nil0 ?_ | with_reducible refine' nx_ret0 ?_ | with_reducible refine' nx_open0 ?_); (try dsimp only)) | ((first | with_reducible refine' nx_nil ?_ | with_reducible refine' nx_ret ?_ | with_reducible refine' nx_open ?_ | with_reducible refine' nx_brk ?_ | with_reducible refine' nx_cont ?_); intro htl; (try dsimp only at htl); (try dsimp only))))
  k_with "execs nil" => (k_here; (refine wpAny_execs_nil ?_); (try dsimp only))
  k_with "newList" => (k_here; k_dflt (refine' new_lst ?nlF ?nlN ?nlz ?_; (case nlF => k_asm); (case nlN => k_asm); (case nlz => rfl); k_whole); intro d' h' F' N' l1; (try k_sweep))
  k_with "newTuple" => (k_here; k_dflt (refine' new_tup ?nlF ?nlN ?nlz ?_; (case nlF => k_asm); (case nlN => k_asm); (case nlz => rfl); k_whole); intro d' h' F' N' l1; (try k_sweep))
  k_with "mine sub" => ((repeat (first | with_reducible exact sub_nil | with_reducible exact sub_app | with_reducible refine sub_cons ?_ | with_reducible refine sub_app' ?_)); done)
  k_with "mine end2" => ((case F => k_asm); (case N => k_asm); (case S => k_extra "mine sub"); (case P => (refine' lt_sub ?a ?b; (case a => with_reducible assumption); (case b => k_extra "mine sub"))); (case R => (refine' lt_sub ?a ?b; (case a => with_reducible assumption); (case b => k_extra "mine sub"))))
  unfold Ctr
  k_fill
  intro mean mg mb dp un gd cn cs A ccd cl outer A₀ base h₀ L m s Q E B F X N T hk hd hu hret
  refine wpAny_call ?_
  k_dflt ktr_enter
  k_with "TkLe" => (refine' tkle_intro ?_; intro htl; (try dsimp only at htl); (try dsimp only))
  k_with "LeaveK" => (k_dflt (refine' leaveK_ ?k1 ?k2 ?_; (case k1 => k_asm); (case k2 => k_asm); k_whole); intro kF kN; k_dflt (refine' ret0 hret kF kN ?g1 ⟨rfl, rfl⟩; (case g1 => k_extra "mine sub")))
  k_steps
theorem nam_c (w : World) (news : List (Addr × Obj)) (D : Addr) (y : PySem.Str) (u : Tok) (n : Nat) (hm : NamesAt D news) (hn : n < 4) (hy : y = leafTxt n) :
  Ctr w 112 news [.ref D, .str y u] 2 16 (fun r tl => ∃ t, r = .int (n : Nat) t ∧ tl = []) := by
  k_with_none
  w_top off
  k_with "mine mem" => (first | (refine' mem_here ?_; ktr_member) | (refine' mem_appR ?_; k_mem) | (refine' mem_appL ?_; k_mem) | fail)
  k_with "mine ltL" => ((repeat (first | with_reducible exact lt_up0 | with_reducible refine lt_up ?_)); done)
  k_with "mine tk2" => (first | with_reducible assumption | with_reducible exact le_one | with_reducible exact Nat.le_refl _ | with_reducible exact Nat.succ_le_of_lt (by with_reducible assumption) | (with_reducible refine le_up ?_; k_extra "mine tk2") | (with_reducible refine le_chain (by with_reducible assumption) ?_; k_extra "mine tk2"))
  k_with "mine tk1" => ((try dsimp only); k_extra "mine tk2")
  k_with "mine size" => (first | (refine' sz_arr ?szA ?szB; (case szA => with_reducible assumption); (case szB => rfl)) | (refine' sz_line ?szA ?szB; (case szA => with_reducible assumption); (case szB => rfl)) | exact Nat.le_of_ble_eq_true rfl | fail)
  k_with "mine room" => ((first | k_dflt refine' rm2 ?rmA ?rmB | k_dflt refine' rm1 ?rmA ?rmB | k_dflt refine' rm0 ?rmA); (case rmA => k_dflt assumption); (try (case rmB => rfl)))
  k_with "mine ne" => (refine neN ?_; (try dsimp only); first | exact ne_all (by with_reducible assumption) (by k_mem) | exact ne_all' (by with_reducible assumption) (by k_mem) | with_reducible assumption | exact Ne.symm (by with_reducible assumption) | exact ne_gt (by k_extra "mine ltL") | exact ne_lt (by k_extra "mine ltL") | exact ne_gt (by with_reducible assumption) | exact ne_lt (by with_reducible assumption) | exact ne_far (by with_reducible assumption) (by k_extra "mine ltL") | exact ne_far' (by with_reducible assumption) (by k_extra "mine ltL") | omega | fail)
  k_with "mine all" => (first | with_reducible assumption | exact all_ne (by with_reducible assumption) (by k_extra "mine sub") | fail)
  k_with "mine free" => (intro yy; intros; repeat (first | with_reducible exact rfl | with_reducible exact forget_off (by with_reducible assumption) | (refine' Eq.trans (if_neg ?fnC) ?_; (case fnC => first | with_reducible assumption | exact ne_free (by with_reducible assumption) (by kernel_rfl))) | exact rfl))
  k_with "evalPairs" => (k_here; dsimp only)
  k_with "Exists" => (k_here; dsimp only)
  k_with "execs cons" => (k_here; refine' nx_start ?_; intro tkz htkz; (try dsimp only at htkz))
  k_with "Nx" => ((try dsimp only); (first | (with_reducible refine' nx_cons0 ?_; intro tkz htkz) | (with_reducible refine' nx_cons ?_; intro tkz htl htkz) | ((first | with_reducible refine' nx_nil0 ?_ | with_reducible refine' nx_ret0 ?_ | with_reducible refine' nx_open0 ?_); (try dsimp only)) | ((first | with_reducible refine' nx_nil ?_ | with_reducible refine' nx_ret ?_ | with_reducible refine' nx_open ?_ | with_reducible refine' nx_brk ?_ | with_reducible refine' nx_cont ?_); intro htl; (try dsimp only at htl); (try dsimp only))))
  k_with "execs nil" => (k_here; (refine wpAny_execs_nil ?_); (try dsimp only))
  k_with "newList" => (k_here; k_dflt (refine' new_lst ?nlF ?nlN ?nlz ?_; (case nlF => k_asm); (case nlN => k_asm); (case nlz => rfl); k_whole); intro d' h' F' N' l1; (try k_sweep))
  k_with "newTuple" => (k_here; k_dflt (refine' new_tup ?nlF ?nlN ?nlz ?_; (case nlF => k_asm); (case nlN => k_asm); (case nlz => rfl); k_whole); intro d' h' F' N' l1; (try k_sweep))
  k_with "mine sub" => ((repeat (first | with_reducible exact sub_nil | with_reducible exact sub_app | with_reducible refine sub_cons ?_ | with_reducible refine sub_app' ?_)); done)
  k_with "mine end2" => ((case F => k_asm); (case N => k_asm); (case S => k_extra "mine sub"); (case P => (refine' lt_sub ?a ?b; (case a => with_reducible assumption); (case b => k_extra "mine sub"))); (case R => (refine' lt_sub ?a ?b; (case a => with_reducible assumption); (case b => k_extra "mine sub"))))
  obtain ⟨e, vs, hl, h4, hQ⟩ := hm
  unfold Ctr
  k_fill
  intro mean mg mb dp un gd cn cs A ccd cl outer A₀ base h₀ L m s Q E B F X N T hk hd hu hret
  refine wpAny_call ?_
  k_dflt ktr_enter
  k_with "TkLe" => (refine' tkle_intro ?_; intro htl; (try dsimp only at htl); (try dsimp only))
  k_with "exec For Tuple Call cons cons" => (k_dflt (refine' wpAny_For ?_ ?hs; (case hs => intro _; rfl)))
  k_with "call type:enumerate cons nil" => (k_dflt (refine' nam_for ?xh hl h4 hQ hn hy ?xF ?xN ?turnF ?xE; (case xh => rfl); (case xF => k_asm); (case xN => k_asm); (case xE => passes_own)); case' turnF => (intro i T' t' g hh tkh own wr q d hsh k1 k2 hq1 hq2 hi hno heq hT hoff F1 N1; rcases Classical.em (leafTxt i = y) with hxy | hxy))
  k_with "compareOp Is ref str" => (k_dflt (refine' is_ref_str ?_))
  k_with "compareOp Eq ref str" => ((refine cmp_ofEq ?_); k_dflt (refine' cmp_K ?k1 ?k2 ?k3 ?k4 ?k5 ?k6 ?k7 ?k8 ?_; (case k1 => ktr_units); (case k2 => k_asm); (case k3 => k_asm); (case k4 => k_inst); (case k5 => k_typeOf); (case k6 => k_is); (case k7 => k_is); (case k8 => k_is); k_whole))
  k_with "call ref" => (k_dflt (refine' Ctr.use_v (qeq_c w _ q d (leafTxt i) y hsh k1 k2 u ?vqa ?vqb) ?yB ?yFr ?yX ?yN ?yT ?yk ?yd ?yu ?_; (case yB => k_asm); (case yFr => k_asm); (case yX => k_asm); (case yN => k_asm); (case yT => k_asm); (case yk => rfl); (case yd => ktr_room); (case yu => ktr_units); (case vqa => k_mem); (case vqb => k_mem)); (intro h' tk' F' N'; (first | rw [beq_iff_eq.mpr hxy] | rw [beq_eq_false_iff_ne.mpr hxy]); (try dsimp only)))
  k_with "CmpBack bool" => (refine' cmpBack_bool ?_)
  k_with "compareOp Eq str str" => (k_dflt (first | refine' eq_str_ne (by assumption) ?_ | refine' eq_str_of (by assumption) ?_))
  k_with "TurnT next" => (k_dflt (refine' nam_end ?eF ?eN ?eS hoff ?eM hxy hno; (case eF => k_asm); (case eN => k_asm); (case eS => k_extra "mine sub"); (case eM => (intro yy hyy; (simp only [idxFree, List.contains_cons, List.contains_nil, Bool.or_false, Bool.or_eq_false_iff, beq_eq_false_iff_ne, ne_eq] at hyy); (simp only [hyy, if_false, forget, idxFree, List.contains_cons, List.contains_nil]; simp [hyy])))))
  k_with "TurnT" => (dsimp only [TurnT])
  k_with "LeaveK" => (k_dflt (refine' leaveK_ ?k1 ?k2 ?_; (case k1 => k_asm); (case k2 => k_asm); k_whole); intro kF kN; k_dflt (refine' ret0 hret kF kN ?g1 ⟨_, idx_ret (heq hxy), rfl⟩; (case g1 => k_extra "mine sub")))
  k_steps
noncomputable abbrev rowM (m0 g : Str → Option Value) (p : Nat) (tp : Tok) : Str → Option Value := fun y => if y = Str.ofString "place" then some (.int (p : Int) tp) else forget rowFree g m0 y
inductive RowJ (m0 : Str → Option Value) (news : List (Addr × Obj)) (D : Addr) (vs : List Value) (row : List Int) (n _tk : Nat) (m : Str → Option Value) (nw : List (Addr × Obj)) : Prop where
  | mk  g p tp acc e dn pre post ts r (hF0 : m = rowM m0 g p tp) (hF1 : nw = (D, PySem.W.listOf acc.toArray e) :: news) (hF2 : vs = pre ++ post) (hF3 : pre.length = p) (hF4 : StrsAre post (mkStrs ts)) (hF5 : Rw ts r) (hF6 : row = dn ++ r) (hF7 : IntsAre acc dn) (hF8 : n = post.length) : RowJ m0 news D vs row n _tk m nw
section
variable {prog : Program} {w : World} {A : Around} {E : Value → Shared → Prop} {Q : Flow → Shared → Prop} {s : Shared} {env : Env} {h₀ : Heap} {L : Addr}
theorem row_while {test : PySem.Expr} {body : List Stmt} {pos : Pos} {m0 : Str → Option Value} {news : List (Addr × Obj)} {D : Addr} {vs : List Value} {ts : List (List Nat)} {row : List Int} {tp : Tok}
    (F : Fr h₀ L s.heap (fun y => if y = Str.ofString "place" then some (.int 0 tp) else m0 y)) (N : News h₀ L s.heap ((D, PySem.W.listOf #[] 0) :: news)) (hv : StrsAre vs (mkStrs ts)) (hB : Rw ts row)
    (tEnd : ∀ g tp h tk acc e, IntsAre acc row → s.toks ≤ tk → Fr h₀ L h (rowM m0 g vs.length tp) → News h₀ L h ((D, PySem.W.listOf acc.toArray e) :: news) →
      wpAny (model prog w) A (isTrue test env (eval test env)) (fun b s₂ => TkLe tk s₂ (if b = true then False else Q .next s₂)) E { s with heap := h, toks := tk })
    (tNum : ∀ g tp h tk acc e dn pre post ts r t ty n, vs = pre ++ .str (chr t) ty :: post → StrsAre post (mkStrs ts) → Rw ts r → row = dn ++ (n :: r) → IntsAre acc dn → tokOf (chr t) = some n → n ≠ 25 → s.toks ≤ tk → Fr h₀ L h (rowM m0 g pre.length tp) → News h₀ L h ((D, PySem.W.listOf acc.toArray e) :: news) →
      wpAny (model prog w) A (isTrue test env (eval test env)) (fun b s₂ => TkLe tk s₂ (if b = true then wpAny (model prog w) A (execs body env) (WhileTk h₀ L s (RowJ m0 news D vs row) (post.length + 1)) E s₂ else Q .next s₂)) E { s with heap := h, toks := tk })
    (tName : ∀ g tp h tk acc e dn pre post ts r t0 t1 t2 t3 c d i, i < 4 → chr ([123] ++ c ++ [125] ++ d) = leafTxt i → vs = pre ++ .str (chr [123]) t0 :: .str (chr c) t1 :: .str (chr [125]) t2 :: .str (chr d) t3 :: post → StrsAre post (mkStrs ts) → Rw ts r → row = dn ++ ((256 + (i : Int)) :: r) → IntsAre acc dn → s.toks ≤ tk → Fr h₀ L h (rowM m0 g pre.length tp) → News h₀ L h ((D, PySem.W.listOf acc.toArray e) :: news) →
      wpAny (model prog w) A (isTrue test env (eval test env)) (fun b s₂ => TkLe tk s₂ (if b = true then wpAny (model prog w) A (execs body env) (WhileTk h₀ L s (RowJ m0 news D vs row) (post.length + 4)) E s₂ else Q .next s₂)) E { s with heap := h, toks := tk })
    (hE : PassesOwn (model prog w) A env E := by passes_own) :
    wpAny (model prog w) A (exec (.While test body [] pos) env) Q E s := by
  refine While_tk (RowJ m0 news D vs row) (n₀ := vs.length) F N ⟨m0, 0, tp, [], 0, [], [], vs, ts, row, ?_, rfl, rfl, rfl, hv, hB, rfl, .nil, rfl⟩ ?_ hE
  · funext y
    show _ = if y = _ then _ else forget rowFree m0 m0 y
    unfold forget
    split
    · rfl
    · split <;> rfl
  · rintro n m₁ nw h tk F₁ N₁ le ⟨g, p, tp, acc, e, dn, pre, post, ts, r, rfl, rfl, hvs, rfl, hs, hb, hrow, hi, rfl⟩
    cases hb with
    | nil =>
      obtain rfl := strs_nil hs
      rw [List.append_nil] at hvs hrow
      subst hvs hrow
      exact wpAny_mono (tEnd g tp h tk acc e hi le F₁ N₁) (fun b s₂ h₂ => end_turn h₂) fun _ _ e => e
    | num h1 h0 h2 =>
      obtain ⟨ty, post', rfl, hs'⟩ := strs_cons hs
      exact tNum g tp h tk acc e dn pre post' _ _ _ ty _ hvs hs' h2 hrow hi h1 h0 le F₁ N₁
    | name h1 h0 h2 =>
      obtain ⟨t0, p0, rfl, hs0⟩ := strs_cons hs
      obtain ⟨t1, p1, rfl, hs1⟩ := strs_cons hs0
      obtain ⟨t2, p2, rfl, hs2⟩ := strs_cons hs1
      obtain ⟨t3, p3, rfl, hs3⟩ := strs_cons hs2
      exact tName g tp h tk acc e dn pre p3 _ _ t0 t1 t2 t3 _ _ _ h1 h0 hvs hs3 h2 hrow hi le F₁ N₁
theorem row_end {m0 m' : Str → Option Value} {news nw : List (Addr × Obj)} {D : Addr} {vs pre mid post acc : List Value} {ts : List (List Nat)} {row dn r : List Int} {i : Int} {n e : Nat} {v : Int} {tp ti : Tok} {s₁ : Shared} {h' : Heap} {tk' : Nat}
    (F : Fr h₀ L h' m') (N : News h₀ L h' nw) (hs : ∀ x ∈ (D, PySem.W.listOf (acc.toArray.push (Value.int i ti)) e) :: news, x ∈ nw)
    (hm : m' (Str.ofString "place") = some (.int v tp)) (hm' : ∀ y, rowFree.contains y = false → m' y = m0 y)
    (hvs : vs = pre ++ (mid ++ post)) (hv : v = (pre.length : Int) + (mid.length : Int)) (hp : StrsAre post (mkStrs ts)) (hb : Rw ts r) (ho : row = dn ++ (i :: r)) (hi : IntsAre acc dn) (hn : post.length < n) :
    WhileTk h₀ L s₁ (RowJ m0 news D vs row) n .next { s₁ with heap := h', toks := tk' } := by
  have ep : acc.toArray.push (Value.int i ti) = (acc ++ [Value.int i ti]).toArray := by simp
  rw [ep] at hs
  refine ⟨rfl, h', tk', m', _, post.length, rfl, F, fun q hq => N q (hs q hq), hn, m', pre.length + mid.length, tp, acc ++ [.int i ti], e, dn ++ [i], pre ++ mid, post, ts, r, ?_, rfl, by rw [hvs, List.append_assoc], by rw [List.length_append], hp, hb, by rw [ho]; simp, hi.append (.cons _ _ .nil), rfl⟩
  funext z
  show _ = if z = _ then _ else forget rowFree m' m0 z
  unfold forget
  split
  · rename_i h; rw [h, hm, hv]; rfl
  · cases hcz : rowFree.contains z with
    | true => simp
    | false => simp only [Bool.false_eq_true, if_false]; exact hm' z hcz
end
section
variable {prog : Program} {w : World} {A : Around} {E : Value → Shared → Prop} {s : Shared} {value slice : PySem.Expr} {h₀ : Heap} {L D : Addr} {news : List (Addr × Obj)} {e : Nat} {t : Tok} {Q : Value → Shared → Prop}
theorem tok_item {y : PySem.Str} {n : Int} (T : StrTab prog w s.heap 113 ettT) (hy : tokOf y = some n) (h : ∀ t, Q (.int n t) { s with toks := s.toks + 1 })
    (hs : subscripted slice false (.ref 113) (.str y t) = operate [.ref 113, .str y t] (getItem (.ref 113) (.str y t)) := by with_unfolding_all rfl) :
    wpAny (model prog w) A (subscriptTail value slice (.ref 113) (.str y t)) Q E s :=
  tab_str_int T (by rw [ett_look, hy]; rfl) h hs
theorem join4 (a b c d : List Nat) : Txt.join (Str.ofString "") [chr a, chr b, chr c, chr d] = chr (a ++ b ++ c ++ d) := by
  have e : Txt.join (Str.ofString "") [chr a, chr b, chr c, chr d] = chr a ++ Str.ofString "" ++ (chr b ++ Str.ofString "" ++ (chr c ++ Str.ofString "" ++ chr d)) := StrLaws.glued_eq_join _ _
  have e0 : Str.ofString "" = chr [] := by decide +kernel
  rw [e, e0]
  simp only [chr_app, List.append_nil, List.append_assoc]
theorem join_name {c d : List Nat} {i : Nat} {t1 t2 t3 t4 : Tok} (hc : chr ([123] ++ c ++ [125] ++ d) = leafTxt i) (N : News h₀ L s.heap news) (hm : (D, PySem.W.listOf [Value.str (chr [123]) t1, .str (chr c) t2, .str (chr [125]) t3, .str (chr d) t4].toArray e) ∈ news)
    (h : ∀ t' k, Q (.str (leafTxt i) t') { s with toks := k }) : wpAny (model prog w) A (call (.builtin "str.join") [.str (Str.ofString "") t, .ref D]) Q E s := by
  have hl := leafTxt_len i
  rw [← hc, chr_len] at hl
  simp only [List.length_append, List.length_cons, List.length_nil] at hl
  refine join_exp N hm (.cons _ _ (.cons _ _ (.cons _ _ (.cons _ _ .nil)))) ((join4 _ _ _ _).trans hc) ?_ h
  simp only [List.map_cons, List.map_nil, List.sum_cons, List.sum_nil, chr_len, List.length_cons, List.length_nil]
  omega
theorem br25 : tokOf (chr [123]) = some 25 := by decide +kernel
theorem acc_len {acc : List Value} {row dn r : List Int} (h : IntsAre acc dn) (e : row = dn ++ r) (ho : row.length ≤ 1000) : acc.length ≤ 1000 := by
  have h1 := h.length
  rw [e, List.length_append] at ho
  omega
theorem sub_head {p : Addr × Obj} {news nw : List (Addr × Obj)} (h1 : p ∈ nw) (h2 : ∀ x ∈ news, x ∈ nw) : ∀ x ∈ p :: news, x ∈ nw := fun x hx => by
  rcases List.mem_cons.mp hx with rfl | hx
  · exact h1
  · exact h2 x hx
theorem row_post {d : Addr} {n : Nat} {i : Int} {t : Tok} {acc : List Value} {row : List Int} (h : IntsAre acc row) : ∃ (d' : Addr) (vs : List Value) (e' : Nat), Value.ref d = .ref d' ∧ [(d, PySem.W.listOf (acc.toArray.push (.int i t)) n)] = [(d', PySem.W.listOf vs.toArray e')] ∧ IntsAre vs (row ++ [i]) :=
  ⟨d, acc ++ [.int i t], n, rfl, by simp, h.append (.cons _ _ .nil)⟩
theorem NamesAt.mono {D : Addr} {a b : List (Addr × Obj)} (h : NamesAt D a) (hs : ∀ x ∈ a, x ∈ b) : NamesAt D b := by
  obtain ⟨e, vs, h1, h2, h3⟩ := h
  refine ⟨e, vs, hs _ h1, h2, fun i v hv => ?_⟩
  obtain ⟨q, d, h, k1, k2, rfl, h4, h5⟩ := h3 i v hv
  exact ⟨q, d, h, k1, k2, rfl, hs _ h4, hs _ h5⟩
end
theorem row_c (w : World) (news : List (Addr × Obj)) (x : PySem.Str) (t : Tok) (Dn : Addr) (row : List Int) (hx : x.length ≤ 1000) (h4 : 4 ≤ x.length) (ho : row.length ≤ 1000) (hN : NamesAt Dn news) (hB : ∀ ts, Cut x.cps.toList ts → Rw ts row) :
  CtrT w 289 news [.str x t, .ref Dn] 4 24 (fun r tl tk' => ∃ (d : Addr) (vs : List Value) (e : Nat), r = .ref d ∧ tl = [(d, W.listOf vs.toArray e)] ∧ IntsAre vs (row ++ [0])) := by
  k_with_none
  w_top off
  k_with "mine mem" => (first | (refine' mem_here ?_; ktr_member) | (refine' mem_appR ?_; k_mem) | (refine' mem_appL ?_; k_mem) | fail)
  k_with "mine ltL" => ((repeat (first | with_reducible exact lt_up0 | with_reducible refine lt_up ?_)); done)
  k_with "mine tk2" => (first | with_reducible assumption | with_reducible exact le_one | with_reducible exact Nat.le_refl _ | with_reducible exact Nat.succ_le_of_lt (by with_reducible assumption) | (with_reducible refine le_up ?_; k_extra "mine tk2") | (with_reducible refine le_chain (by with_reducible assumption) ?_; k_extra "mine tk2"))
  k_with "mine tk1" => ((try dsimp only); k_extra "mine tk2")
  k_with "mine size" => (first | (refine' sz_arr ?szA ?szB; (case szA => with_reducible assumption); (case szB => rfl)) | (refine' sz_line ?szA ?szB; (case szA => with_reducible assumption); (case szB => rfl)) | exact Nat.le_of_ble_eq_true rfl | fail)
  k_with "mine room" => ((first | k_dflt refine' rm2 ?rmA ?rmB | k_dflt refine' rm1 ?rmA ?rmB | k_dflt refine' rm0 ?rmA); (case rmA => k_dflt assumption); (try (case rmB => rfl)))
  k_with "mine ne" => (refine neN ?_; (try dsimp only); first | exact ne_all (by with_reducible assumption) (by k_mem) | exact ne_all' (by with_reducible assumption) (by k_mem) | with_reducible assumption | exact Ne.symm (by with_reducible assumption) | exact ne_gt (by k_extra "mine ltL") | exact ne_lt (by k_extra "mine ltL") | exact ne_gt (by with_reducible assumption) | exact ne_lt (by with_reducible assumption) | exact ne_far (by with_reducible assumption) (by k_extra "mine ltL") | exact ne_far' (by with_reducible assumption) (by k_extra "mine ltL") | omega | fail)
  k_with "mine all" => (first | with_reducible assumption | exact all_ne (by with_reducible assumption) (by k_extra "mine sub") | fail)
  k_with "mine free" => (intro yy; intros; repeat (first | with_reducible exact rfl | with_reducible exact forget_off (by with_reducible assumption) | (refine' Eq.trans (if_neg ?fnC) ?_; (case fnC => first | with_reducible assumption | exact ne_free (by with_reducible assumption) (by kernel_rfl))) | exact rfl))
  k_with "evalPairs" => (k_here; dsimp only)
  k_with "Exists" => (k_here; dsimp only)
  k_with "execs cons" => (k_here; refine' nx_start ?_; intro tkz htkz; (try dsimp only at htkz))
  k_with "Nx" => ((try dsimp only); (first | (with_reducible refine' nx_cons0 ?_; intro tkz htkz) | (with_reducible refine' nx_cons ?_; intro tkz htl htkz) | ((first | with_reducible refine' nx_nil0 ?_ | with_reducible refine' nx_ret0 ?_ | with_reducible refine' nx_open0 ?_); (try dsimp only)) | ((first | with_reducible refine' nx_nil ?_ | with_reducible refine' nx_ret ?_ | with_reducible refine' nx_open ?_ | with_reducible refine' nx_brk ?_ | with_reducible refine' nx_cont ?_); intro htl; (try dsimp only at htl); (try dsimp only))))
  k_with "execs nil" => (k_here; (refine wpAny_execs_nil ?_); (try dsimp only))
  k_with "newList" => (k_here; k_dflt (refine' new_lst ?nlF ?nlN ?nlz ?_; (case nlF => k_asm); (case nlN => k_asm); (case nlz => rfl); k_whole); intro d' h' F' N' l1; (try k_sweep))
  k_with "newTuple" => (k_here; k_dflt (refine' new_tup ?nlF ?nlN ?nlz ?_; (case nlF => k_asm); (case nlN => k_asm); (case nlz => rfl); k_whole); intro d' h' F' N' l1; (try k_sweep))
  k_with "mine sub" => ((repeat (first | with_reducible exact sub_nil | with_reducible exact sub_app | with_reducible refine sub_cons ?_ | with_reducible refine sub_app' ?_)); done)
  k_with "mine end2" => ((case F => k_asm); (case N => k_asm); (case S => k_extra "mine sub"); (case P => (refine' lt_sub ?a ?b; (case a => with_reducible assumption); (case b => k_extra "mine sub"))); (case R => (refine' lt_sub ?a ?b; (case a => with_reducible assumption); (case b => k_extra "mine sub"))))
  unfold CtrT
  k_fill
  intro mean mg mb dp un gd cn cs a ccd cl outer A₀ base h₀ L m s Q E B F X N T hk hd hu ht1 hret
  refine wpAny_call ?_
  k_dflt ktr_enter
  k_with "TkLe" => (refine' tkle_intro ?_; intro htl; (try dsimp only at htl); (try dsimp only))
  k_with "call ref" => (first | (k_dflt (refine' CtrT.use (cut_c w _ x t hx h4) ?yB ?yFr ?yX ?yN ?yT ?yk ?yd ?yu ?y1 ?_; (case yB => k_asm); (case yFr => k_asm); (case yX => k_asm); (case yN => k_asm); (case yT => k_asm); (case yk => rfl); (case yd => ktr_room); (case yu => ktr_units); (case y1 => k_extra "mine tk1")); (intro r tl h' tk' F' N' ord post; obtain ⟨dp', vs, e', ts, rfl, rfl, hvs, hcut, hToks, hone⟩ := post; (try dsimp only); (try simp only [List.cons_append, List.nil_append] at N'); (have hlen := cut_vlen hvs hcut hx))) | (k_dflt (refine' Ctr.use_x (nam_c w _ Dn (leafTxt i) _ i ?vqa hi4 rfl) ?yB ?yFr ?yX ?yN ?yT ?yk ?yd ?yu ?_; (case yB => k_asm); (case yFr => k_asm); (case yX => k_asm); (case yN => k_asm); (case yT => k_asm); (case yk => rfl); (case yd => ktr_room); (case yu => ktr_units); (case vqa => exact hN.mono (by k_extra "mine sub"))); (intro tr h' tkr F' N'; (try dsimp only))))
  k_with "exec While Compare cons nil" => (k_dflt (refine' row_while (vs := vs) (ts := ts) (row := row) ?wF ?wN hvs (hB ts hcut) ?tEnd ?tNum ?tName ?wE; (case wF => k_asm); (case wN => k_asm); (case wE => passes_own)); (case' tEnd => (intro g tp hh tkh acc e hacc hle F1 N1; (have hal : acc.length ≤ 1000 := acc_len hacc (List.append_nil _).symm ho); (try dsimp only at hle); (try dsimp only); (try k_fold))); (case' tNum => (intro g tp hh tkh acc e dn pre post ts' r tx ty n hvv hpost hb ho' hacc hnum hne hle F1 N1; subst hvv; (have hal : acc.length ≤ 1000 := acc_len hacc ho' ho); (have hgot := get_mid pre (Value.str (chr tx) ty) post); (try dsimp only at hle); (try dsimp only); (try k_fold))); (case' tName => (intro g tp hh tkh acc e dn pre post ts' r t0 t1 t2 t3 cc dd i hi4 hcd hvv hpost hb ho' hacc hle F1 N1; subst hvv; (have hal : acc.length ≤ 1000 := acc_len hacc ho' ho); (have hgot := get_mid pre (Value.str (chr [123]) t0) (.str (chr cc) t1 :: .str (chr [125]) t2 :: .str (chr dd) t3 :: post)); (try dsimp only at hle); (try dsimp only); (try k_fold))))
  k_with "call builtin:len" => (k_dflt (refine' len_lst ?xN ?xm ?xf ?_; (case xN => k_asm); (case xm => k_mem); (case xf => exact lt_lit hlen rfl)); intro tln tkl)
  k_with "compareOp Lt int int" => (first | (k_dflt (refine' lt_yes ?q ?_; (case q => exact lt_mid))) | (k_dflt (refine' lt_no ?q ?_; (case q => exact Int.lt_irrefl _))))
  k_with "subscriptTail Name Name ref int" => (k_dflt (refine' lst_got ?xN ?xm ?xk hgot ?xf ?_ ?xs; (case xN => k_asm); (case xm => k_mem); (case xk => rfl); (case xf => exact hlen); (case xs => with_unfolding_all rfl)))
  k_with "subscriptTail Name Subscript ref str" => (k_dflt (first | refine' tok_item ?cT br25 ?_ ?cs | refine' tok_item ?cT hnum ?_ ?cs); k_dflt ((case cT => exact ett_tab w (Frag.In.keeps (by k_asm) (Fr.keep (by k_asm)))); (case cs => with_unfolding_all rfl)); intro tnn)
  k_with "compareOp Eq int int" => (first | (with_reducible refine' eqi_no hne ?_) | (with_reducible refine' eqi_yes ?_))
  k_with "call builtin:str.join" => (k_dflt (refine' join_name hcd ?xN ?xm ?_; (case xN => k_asm); (case xm => k_mem)); intro tj tkj)
  k_with "subscriptTail Name Slice ref ref" => (k_dflt (refine' cut_lst (zs := [.str (chr [123]) t0, .str (chr cc) t1, .str (chr [125]) t2, .str (chr dd) t3]) ?xF ?xN ?xm ?xp ?xq ?xe ?_ ?xs ?xt ?xz; (case xF => k_asm); (case xN => k_asm); (case xm => k_mem); (case xp => kmk_part); (case xq => kmk_part); (case xe => exact (pick_win (a := 0) (c := 4) (by first | exact at_zero | exact add_cast rfl) (by first | exact add_cast rfl | exact add_two rfl)).trans rfl); (case xs => with_unfolding_all rfl); (case xt => kmk_pure); (case xz => exact sz_line hlen rfl)); intro Dsl hsl Fsl Nsl lsl; (try k_lt lsl))
  k_with "WhileTk" => (first | (k_dflt (refine' row_end (pre := pre) (mid := [Value.str (chr tx) ty]) (post := post) ?eF ?eN ?eS ?em ?em' rfl ?ev hpost hb ho' hacc ?en; (case eF => k_asm); (case em => rfl); (case ev => exact add_cast rfl); (case eN => k_asm); (case eS => (refine' sub_head ?qa ?qb; (case qa => k_mem); (case qb => k_extra "mine sub"))); (case en => exact Nat.lt_add_of_pos_right (by decide)); (case em' => k_extra "mine free"))) | (k_dflt (refine' row_end (pre := pre) (mid := [.str (chr [123]) t0, .str (chr cc) t1, .str (chr [125]) t2, .str (chr dd) t3]) (post := post) ?eF ?eN ?eS ?em ?em' rfl ?ev hpost hb ho' hacc ?en; (case eF => k_asm); (case em => rfl); (case ev => exact add_cast rfl); (case eN => k_asm); (case eS => (refine' sub_head ?qa ?qb; (case qa => k_mem); (case qb => k_extra "mine sub"))); (case en => exact Nat.lt_add_of_pos_right (by decide)); (case em' => k_extra "mine free"))))
  k_with "LeaveK" => (k_dflt (refine' leaveK_ ?k1 ?k2 ?_; (case k1 => k_asm); (case k2 => k_asm); k_whole); intro kF kN; k_dflt (refine' ret1T hret kF kN ?g1 ?g2 (row_post hacc); (case g1 => k_extra "mine sub"); (case g2 => (refine' lt_sub ?la ?lb; (case la => with_reducible assumption); (case lb => k_extra "mine sub")))))
  k_steps
noncomputable def zl (c : Nat) : List Nat := if c = 38 then [38, 97, 109, 112, 59] else if c = 60 then [38, 108, 116, 59] else [38, 103, 116, 59]
noncomputable def rp (c : Nat) (l : List Nat) : List Nat := l.flatMap fun k => if k = c then zl c else [k]
theorem rp_app (c : Nat) (a b : List Nat) : rp c (a ++ b) = rp c a ++ rp c b := List.flatMap_append
theorem rp_no {c : Nat} : ∀ {l : List Nat}, c ∉ l → rp c l = l
  | [], _ => rfl
  | k :: r, h => by
    have h1 : ¬ k = c := fun e => h (e ▸ List.mem_cons_self ..)
    have h2 : c ∉ r := fun m => h (List.mem_cons_of_mem _ m)
    show (if k = c then zl c else [k]) ++ rp c r = _
    rw [if_neg h1, rp_no h2]; rfl
theorem rp_one (c : Nat) : rp c [c] = zl c := by simp [rp]
theorem zl_len (c : Nat) : (zl c).length ≤ 5 := by
  unfold zl
  split
  · decide
  · split <;> decide
theorem rp_len (c : Nat) : ∀ l : List Nat, (rp c l).length ≤ 5 * l.length
  | [] => Nat.le_refl _
  | k :: r => by
    have ih := rp_len c r
    have hz := zl_len c
    show ((if k = c then zl c else [k]) ++ rp c r).length ≤ _
    rw [List.length_append, List.length_cons]
    split
    · omega
    · simp only [List.length_cons, List.length_nil]; omega
theorem rp_join (c : Nat) : ∀ parts : List PySem.Str, (∀ p ∈ parts, c ∉ p.cps.toList) → rp c (Str.join ⟨#[c]⟩ parts).cps.toList = (Str.join (chr (zl c)) parts).cps.toList
  | [], _ => rfl
  | [p], h => rp_no (h p (List.mem_singleton.mpr rfl))
  | p :: q :: r, h => by
    have ih := rp_join c (q :: r) fun a ha => h a (List.mem_cons_of_mem _ ha)
    show rp c (p ++ ⟨#[c]⟩ ++ Str.join ⟨#[c]⟩ (q :: r)).cps.toList = (p ++ chr (zl c) ++ Str.join (chr (zl c)) (q :: r)).cps.toList
    simp only [Str.cps_append, Array.toList_append]
    rw [rp_app, rp_app, ih, rp_no (h p (List.mem_cons_self ..))]
    show p.cps.toList ++ rp c [c] ++ _ = _
    rw [rp_one]
    simp [chr]
theorem replace_rp (c : Nat) (l : List Nat) : Txt.replace (chr l) (chr [c]) (chr (zl c)) = chr (rp c l) := by
  have h1 : Txt.replace (chr l) ⟨#[c]⟩ (chr (zl c)) = Str.join (chr (zl c)) (Txt.split (chr l) ⟨#[c]⟩) := StrLaws.replace_one _ _ c
  have h2 := rp_join c (Txt.split (chr l) ⟨#[c]⟩) (StrLaws.split_free (chr l) c)
  rw [StrLaws.join_split] at h2
  show Txt.replace (chr l) ⟨#[c]⟩ _ = _
  rw [h1]
  apply Str.ext'
  apply Array.toList_inj.mp
  rw [← h2]
  simp [chr]
/-- an escape's If joined: the text stored anew, or as it was -/
inductive RepJ (h₀ : Heap) (L : Addr) (m : Str → Option Value) (l : List Nat) (news : List (Addr × Obj)) (s : Shared) (f : Flow) (s' : Shared) : Prop where
  | mk (hE0 : f = .next) h tk t (hF0 : s' = { s with heap := h, toks := tk }) (hF1 : Fr h₀ L h (fun y => if y = Str.ofString "text" then some (.str (chr l) t) else m y)) (hF2 : News h₀ L h news) : RepJ h₀ L m l news s f s'
section
variable {prog : Program} {w : World} {A : Around} {E : Value → Shared → Prop} {s : Shared} {env : Env} {h₀ : Heap} {L : Addr} {m : Str → Option Value} {news : List (Addr × Obj)}
theorem rep_if {Q : Flow → Shared → Prop} {y : PySem.Str} {k : Nat} {p1 p2 pos : Pos} {nm : PySem.Expr} {body : List Stmt} (c : Nat) {l : List Nat} {t : Tok}
    (_hy : y = chr [c]) (_F : Fr h₀ L s.heap m) (_N : News h₀ L s.heap news) (_hx : m (Str.ofString "text") = some (.str (chr l) t))
    (h1 : wpAny (model prog w) A (isTrue (.Compare (.Constant (.str y) k p1) [.In] [nm] p2) env (eval (.Compare (.Constant (.str y) k p1) [.In] [nm] p2) env)) (fun b s₂ => if b then wpAny (model prog w) A (execs body env) (RepJ h₀ L m (rp c l) news s) E s₂ else wpAny (model prog w) A (execs [] env) (RepJ h₀ L m (rp c l) news s) E s₂) E s)
    (h2 : ∀ h tk t, Fr h₀ L h (fun y => if y = Str.ofString "text" then some (.str (chr (rp c l)) t) else m y) → News h₀ L h news → s.toks ≤ tk → Q .next { s with heap := h, toks := tk }) :
    wpAny (model prog w) A (exec (.If (.Compare (.Constant (.str y) k p1) [.In] [nm] p2) body [] pos) env) Q E s :=
  wpAny_mono (toks_mono' (wpAny_mono (wpAny_If h1) (fun f s' H => tkle_intro fun q => And.intro q H) fun _ _ e => e)) (fun f s' ⟨q, hf, h, tk, t, hs, F, N⟩ => by subst hf hs; exact h2 h tk t F N q) fun _ _ e => e
theorem rep_end {m' : Str → Option Value} {c : Nat} {l : List Nat} {nw : List (Addr × Obj)} {x : PySem.Str} {t : Tok} {h' : Heap} {tk' : Nat}
    (F : Fr h₀ L h' m') (N : News h₀ L h' nw) (hs : ∀ x ∈ news, x ∈ nw) (hm : m' (Str.ofString "text") = some (.str x t)) (hx : x = chr (rp c l)) (hm' : ∀ y, y ≠ Str.ofString "text" → m' y = m y) :
    RepJ h₀ L m (rp c l) news s .next { s with heap := h', toks := tk' } := by
  refine ⟨rfl, h', tk', t, rfl, fr_eq ?_ F, fun q hq => N q (hs q hq)⟩
  funext y
  split
  · rename_i e; rw [e, hm, hx]
  · rename_i e; exact hm' y e
theorem in_no {Q : Value → Shared → Prop} {c : Nat} {y : PySem.Str} {l : List Nat} {t u : Tok} (hy : y = chr [c]) (hc : c ∉ l) (h : Q (.bool false) s) : wpAny (model prog w) A (compareOp .In (.str y u) (.str (chr l) t)) Q E s := by
  subst hy
  refine PyProof.Rows.in_str ?_
  have e := StrLaws.found_one (chr l) c
  have e2 : (chr l).cps.toList = l := by simp [chr]
  rw [e2, decide_eq_false hc] at e
  show Q (.bool (!(Builtin.Str.occurrences (chr l) ⟨#[c]⟩ 0 (chr l).length 1).isEmpty)) s
  rw [e]; exact h
theorem in_yes {Q : Value → Shared → Prop} {c : Nat} {y : PySem.Str} {l : List Nat} {t u : Tok} (hy : y = chr [c]) (hc : c ∈ l) (h : Q (.bool true) s) : wpAny (model prog w) A (compareOp .In (.str y u) (.str (chr l) t)) Q E s := by
  subst hy
  refine PyProof.Rows.in_str ?_
  have e := StrLaws.found_one (chr l) c
  have e2 : (chr l).cps.toList = l := by simp [chr]
  rw [e2, decide_eq_true hc] at e
  show Q (.bool (!(Builtin.Str.occurrences (chr l) ⟨#[c]⟩ 0 (chr l).length 1).isEmpty)) s
  rw [e]; exact h
theorem in_split {Q : Value → Shared → Prop} {c : Nat} {y : PySem.Str} {l : List Nat} {t u : Tok} (hy : y = chr [c]) (h1 : c ∈ l → Q (.bool true) s) (h2 : c ∉ l → Q (.bool false) s) : wpAny (model prog w) A (compareOp .In (.str y u) (.str (chr l) t)) Q E s := by
  by_cases hc : c ∈ l
  · exact in_yes hy hc (h1 hc)
  · exact in_no hy hc (h2 hc)
theorem rep_call {Q : Value → Shared → Prop} {c : Nat} {y z : PySem.Str} {l : List Nat} {t u v : Tok} (hy : y = chr [c]) (hz : z = chr (zl c)) (hu : u ≠ 0) (hv : v ≠ 0) (huv : u ≠ v) (hl : l.length ≤ 100000) (hnb : NoneBooked s.heap)
    (h : ∀ t' k, Q (.str (chr (rp c l)) t') { s with toks := k }) : wpAny (model prog w) A (call (.builtin "str.replace") [.str (chr l) t, .str y u, .str z v]) Q E s := by
  subst hy hz
  refine SC.replaceA hu hv huv ?_ (fun t' k => by rw [replace_rp]; exact h t' k) hnb
  have hz := zl_len c
  rw [chr_len, chr_len]
  have : (l.length + 1) * (zl c).length ≤ (l.length + 1) * 5 := Nat.mul_le_mul_left _ hz
  omega
theorem tok_one {u : Nat} (h : 0 < u) : @Ne Tok (u + 1) 0 := Nat.succ_ne_zero _
theorem tok_two {u : Nat} : @Ne Tok u (u + 1) := (Nat.succ_ne_self u).symm
end
theorem escA_c (w : World) (news : List (Addr × Obj)) (l : List Nat) (t : Tok) (hl : l.length ≤ 200) :
  CtrT w 221 news [.str (chr l) t] 1 8 (fun r tl _ => ∃ t', r = .str (chr (rp 62 (rp 60 (rp 38 l)))) t' ∧ tl = []) := by
  k_with_none
  w_top off
  k_with "mine mem" => (first | (refine' mem_here ?_; ktr_member) | (refine' mem_appR ?_; k_mem) | (refine' mem_appL ?_; k_mem) | fail)
  k_with "mine ltL" => ((repeat (first | with_reducible exact lt_up0 | with_reducible refine lt_up ?_)); done)
  k_with "mine tk2" => (first | with_reducible assumption | with_reducible exact le_one | with_reducible exact Nat.le_refl _ | with_reducible exact Nat.succ_le_of_lt (by with_reducible assumption) | (with_reducible refine le_up ?_; k_extra "mine tk2") | (with_reducible refine le_chain (by with_reducible assumption) ?_; k_extra "mine tk2"))
  k_with "mine tk1" => ((try dsimp only); k_extra "mine tk2")
  k_with "mine size" => (first | (refine' sz_arr ?szA ?szB; (case szA => with_reducible assumption); (case szB => rfl)) | (refine' sz_line ?szA ?szB; (case szA => with_reducible assumption); (case szB => rfl)) | exact Nat.le_of_ble_eq_true rfl | fail)
  k_with "mine room" => ((first | k_dflt refine' rm2 ?rmA ?rmB | k_dflt refine' rm1 ?rmA ?rmB | k_dflt refine' rm0 ?rmA); (case rmA => k_dflt assumption); (try (case rmB => rfl)))
  k_with "mine ne" => (refine neN ?_; (try dsimp only); first | exact ne_all (by with_reducible assumption) (by k_mem) | exact ne_all' (by with_reducible assumption) (by k_mem) | with_reducible assumption | exact Ne.symm (by with_reducible assumption) | exact ne_gt (by k_extra "mine ltL") | exact ne_lt (by k_extra "mine ltL") | exact ne_gt (by with_reducible assumption) | exact ne_lt (by with_reducible assumption) | exact ne_far (by with_reducible assumption) (by k_extra "mine ltL") | exact ne_far' (by with_reducible assumption) (by k_extra "mine ltL") | omega | fail)
  k_with "mine all" => (first | with_reducible assumption | exact all_ne (by with_reducible assumption) (by k_extra "mine sub") | fail)
  k_with "mine free" => (intro yy; intros; repeat (first | with_reducible exact rfl | with_reducible exact forget_off (by with_reducible assumption) | (refine' Eq.trans (if_neg ?fnC) ?_; (case fnC => first | with_reducible assumption | exact ne_free (by with_reducible assumption) (by kernel_rfl))) | exact rfl))
  k_with "evalPairs" => (k_here; dsimp only)
  k_with "Exists" => (k_here; dsimp only)
  k_with "execs cons" => (k_here; refine' nx_start ?_; intro tkz htkz; (try dsimp only at htkz))
  k_with "Nx" => ((try dsimp only); (first | (with_reducible refine' nx_cons0 ?_; intro tkz htkz) | (with_reducible refine' nx_cons ?_; intro tkz htl htkz) | ((first | with_reducible refine' nx_nil0 ?_ | with_reducible refine' nx_ret0 ?_ | with_reducible refine' nx_open0 ?_); (try dsimp only)) | ((first | with_reducible refine' nx_nil ?_ | with_reducible refine' nx_ret ?_ | with_reducible refine' nx_open ?_ | with_reducible refine' nx_brk ?_ | with_reducible refine' nx_cont ?_); intro htl; (try dsimp only at htl); (try dsimp only))))
  k_with "execs nil" => (k_here; (refine wpAny_execs_nil ?_); (try dsimp only))
  k_with "newList" => (k_here; k_dflt (refine' new_lst ?nlF ?nlN ?nlz ?_; (case nlF => k_asm); (case nlN => k_asm); (case nlz => rfl); k_whole); intro d' h' F' N' l1; (try k_sweep))
  k_with "newTuple" => (k_here; k_dflt (refine' new_tup ?nlF ?nlN ?nlz ?_; (case nlF => k_asm); (case nlN => k_asm); (case nlz => rfl); k_whole); intro d' h' F' N' l1; (try k_sweep))
  k_with "mine sub" => ((repeat (first | with_reducible exact sub_nil | with_reducible exact sub_app | with_reducible refine sub_cons ?_ | with_reducible refine sub_app' ?_)); done)
  k_with "mine end2" => ((case F => k_asm); (case N => k_asm); (case S => k_extra "mine sub"); (case P => (refine' lt_sub ?a ?b; (case a => with_reducible assumption); (case b => k_extra "mine sub"))); (case R => (refine' lt_sub ?a ?b; (case a => with_reducible assumption); (case b => k_extra "mine sub"))))
  unfold CtrT
  k_fill
  have r38 := Nat.le_trans (rp_len 38 (l)) (Nat.mul_le_mul_left 5 hl)
  have r60 := Nat.le_trans (rp_len 60 (rp 38 l)) (Nat.mul_le_mul_left 5 r38)
  have r62 := Nat.le_trans (rp_len 62 (rp 60 (rp 38 l))) (Nat.mul_le_mul_left 5 r60)
  intro mean mg mb dp un gd cn cs a ccd cl outer A₀ base h₀ L m s Q E B F X N T hk hd hu ht1 hret
  refine wpAny_call ?_
  k_dflt ktr_enter
  k_with "TkLe" => (refine' tkle_intro ?_; intro htl; (try dsimp only at htl); (try dsimp only))
  k_with "exec If Compare cons nil" => (first | (k_dflt (refine' rep_if 38 ?ry ?rF ?rN ?rx ?_ ?_; (case ry => decide +kernel); (case rF => k_asm); (case rN => k_asm); (case rx => rfl))) | (k_dflt (refine' rep_if 60 ?ry ?rF ?rN ?rx ?_ ?_; (case ry => decide +kernel); (case rF => k_asm); (case rN => k_asm); (case rx => rfl))) | (k_dflt (refine' rep_if 62 ?ry ?rF ?rN ?rx ?_ ?_; (case ry => decide +kernel); (case rF => k_asm); (case rN => k_asm); (case rx => rfl))))
  k_with "∀" => (intro hR tkR tR FR NR leR; (try dsimp only at leR); (try dsimp only))
  k_with "compareOp In str str" => (first | (k_dflt (refine' in_split (c := 38) (by decide +kernel) ?_ ?_ <;> intro hc0)) | (k_dflt (refine' in_split (c := 60) (by decide +kernel) ?_ ?_ <;> intro hc0)) | (k_dflt (refine' in_split (c := 62) (by decide +kernel) ?_ ?_ <;> intro hc0)))
  k_with "call builtin:str.replace" => (first | ((k_dflt (refine' rep_call (c := 38) ?ry ?rz ?ru ?rv ?rw ?rl ?rb ?_; (case ry => decide +kernel); (case rz => decide +kernel); (case ru => exact tok_pos (pos_of (by k_extra "mine tk1"))); (case rv => exact Nat.succ_ne_zero _); (case rw => exact tok_two); (case rl => first | exact le_lit hl rfl | exact le_lit r38 rfl | exact le_lit r60 rfl | exact le_lit r62 rfl); (case rb => exact none_booked w (Frag.In.keeps (by k_asm) (Fr.keep (by k_asm)))))); intro tr tkr) | ((k_dflt (refine' rep_call (c := 60) ?ry ?rz ?ru ?rv ?rw ?rl ?rb ?_; (case ry => decide +kernel); (case rz => decide +kernel); (case ru => exact tok_pos (pos_of (by k_extra "mine tk1"))); (case rv => exact Nat.succ_ne_zero _); (case rw => exact tok_two); (case rl => first | exact le_lit hl rfl | exact le_lit r38 rfl | exact le_lit r60 rfl | exact le_lit r62 rfl); (case rb => exact none_booked w (Frag.In.keeps (by k_asm) (Fr.keep (by k_asm)))))); intro tr tkr) | ((k_dflt (refine' rep_call (c := 62) ?ry ?rz ?ru ?rv ?rw ?rl ?rb ?_; (case ry => decide +kernel); (case rz => decide +kernel); (case ru => exact tok_pos (pos_of (by k_extra "mine tk1"))); (case rv => exact Nat.succ_ne_zero _); (case rw => exact tok_two); (case rl => first | exact le_lit hl rfl | exact le_lit r38 rfl | exact le_lit r60 rfl | exact le_lit r62 rfl); (case rb => exact none_booked w (Frag.In.keeps (by k_asm) (Fr.keep (by k_asm)))))); intro tr tkr))
  k_with "RepJ next" => (k_dflt (refine' rep_end ?eF ?eN ?eS ?em ?ex ?em'; (case eF => k_asm); (case em => rfl); (case eN => k_asm); (case eS => k_extra "mine sub"); (case ex => first | rfl | exact congrArg chr (rp_no hc0).symm); (case em' => k_extra "mine free")))
  k_with "LeaveK" => (k_dflt (refine' leaveK_ ?k1 ?k2 ?_; (case k1 => k_asm); (case k2 => k_asm); k_whole); intro kF kN; k_dflt (refine' ret0T hret kF kN ?g1 ⟨_, rfl, rfl⟩; (case g1 => k_extra "mine sub")))
  k_steps
theorem escB_c (w : World) (news : List (Addr × Obj)) (l : List Nat) (t : Tok) (hl : l.length ≤ 200) (h34 : 34 ∉ rp 62 (rp 60 (rp 38 l))) (h13 : 13 ∉ rp 62 (rp 60 (rp 38 l))) (h10 : 10 ∉ rp 62 (rp 60 (rp 38 l))) (h9 : 9 ∉ rp 62 (rp 60 (rp 38 l))) :
  CtrT w 228 news [.str (chr l) t] 1 8 (fun r tl _ => ∃ t', r = .str (chr (rp 62 (rp 60 (rp 38 l)))) t' ∧ tl = []) := by
  k_with_none
  w_top off
  k_with "mine mem" => (first | (refine' mem_here ?_; ktr_member) | (refine' mem_appR ?_; k_mem) | (refine' mem_appL ?_; k_mem) | fail)
  k_with "mine ltL" => ((repeat (first | with_reducible exact lt_up0 | with_reducible refine lt_up ?_)); done)
  k_with "mine tk2" => (first | with_reducible assumption | with_reducible exact le_one | with_reducible exact Nat.le_refl _ | with_reducible exact Nat.succ_le_of_lt (by with_reducible assumption) | (with_reducible refine le_up ?_; k_extra "mine tk2") | (with_reducible refine le_chain (by with_reducible assumption) ?_; k_extra "mine tk2"))
  k_with "mine tk1" => ((try dsimp only); k_extra "mine tk2")
  k_with "mine size" => (first | (refine' sz_arr ?szA ?szB; (case szA => with_reducible assumption); (case szB => rfl)) | (refine' sz_line ?szA ?szB; (case szA => with_reducible assumption); (case szB => rfl)) | exact Nat.le_of_ble_eq_true rfl | fail)
  k_with "mine room" => ((first | k_dflt refine' rm2 ?rmA ?rmB | k_dflt refine' rm1 ?rmA ?rmB | k_dflt refine' rm0 ?rmA); (case rmA => k_dflt assumption); (try (case rmB => rfl)))
  k_with "mine ne" => (refine neN ?_; (try dsimp only); first | exact ne_all (by with_reducible assumption) (by k_mem) | exact ne_all' (by with_reducible assumption) (by k_mem) | with_reducible assumption | exact Ne.symm (by with_reducible assumption) | exact ne_gt (by k_extra "mine ltL") | exact ne_lt (by k_extra "mine ltL") | exact ne_gt (by with_reducible assumption) | exact ne_lt (by with_reducible assumption) | exact ne_far (by with_reducible assumption) (by k_extra "mine ltL") | exact ne_far' (by with_reducible assumption) (by k_extra "mine ltL") | omega | fail)
  k_with "mine all" => (first | with_reducible assumption | exact all_ne (by with_reducible assumption) (by k_extra "mine sub") | fail)
  k_with "mine free" => (intro yy; intros; repeat (first | with_reducible exact rfl | with_reducible exact forget_off (by with_reducible assumption) | (refine' Eq.trans (if_neg ?fnC) ?_; (case fnC => first | with_reducible assumption | exact ne_free (by with_reducible assumption) (by kernel_rfl))) | exact rfl))
  k_with "evalPairs" => (k_here; dsimp only)
  k_with "Exists" => (k_here; dsimp only)
  k_with "execs cons" => (k_here; refine' nx_start ?_; intro tkz htkz; (try dsimp only at htkz))
  k_with "Nx" => ((try dsimp only); (first | (with_reducible refine' nx_cons0 ?_; intro tkz htkz) | (with_reducible refine' nx_cons ?_; intro tkz htl htkz) | ((first | with_reducible refine' nx_nil0 ?_ | with_reducible refine' nx_ret0 ?_ | with_reducible refine' nx_open0 ?_); (try dsimp only)) | ((first | with_reducible refine' nx_nil ?_ | with_reducible refine' nx_ret ?_ | with_reducible refine' nx_open ?_ | with_reducible refine' nx_brk ?_ | with_reducible refine' nx_cont ?_); intro htl; (try dsimp only at htl); (try dsimp only))))
  k_with "execs nil" => (k_here; (refine wpAny_execs_nil ?_); (try dsimp only))
  k_with "newList" => (k_here; k_dflt (refine' new_lst ?nlF ?nlN ?nlz ?_; (case nlF => k_asm); (case nlN => k_asm); (case nlz => rfl); k_whole); intro d' h' F' N' l1; (try k_sweep))
  k_with "newTuple" => (k_here; k_dflt (refine' new_tup ?nlF ?nlN ?nlz ?_; (case nlF => k_asm); (case nlN => k_asm); (case nlz => rfl); k_whole); intro d' h' F' N' l1; (try k_sweep))
  k_with "mine sub" => ((repeat (first | with_reducible exact sub_nil | with_reducible exact sub_app | with_reducible refine sub_cons ?_ | with_reducible refine sub_app' ?_)); done)
  k_with "mine end2" => ((case F => k_asm); (case N => k_asm); (case S => k_extra "mine sub"); (case P => (refine' lt_sub ?a ?b; (case a => with_reducible assumption); (case b => k_extra "mine sub"))); (case R => (refine' lt_sub ?a ?b; (case a => with_reducible assumption); (case b => k_extra "mine sub"))))
  unfold CtrT
  k_fill
  have r38 := Nat.le_trans (rp_len 38 (l)) (Nat.mul_le_mul_left 5 hl)
  have r60 := Nat.le_trans (rp_len 60 (rp 38 l)) (Nat.mul_le_mul_left 5 r38)
  have r62 := Nat.le_trans (rp_len 62 (rp 60 (rp 38 l))) (Nat.mul_le_mul_left 5 r60)
  intro mean mg mb dp un gd cn cs a ccd cl outer A₀ base h₀ L m s Q E B F X N T hk hd hu ht1 hret
  refine wpAny_call ?_
  k_dflt ktr_enter
  k_with "TkLe" => (refine' tkle_intro ?_; intro htl; (try dsimp only at htl); (try dsimp only))
  k_with "exec If Compare cons nil" => (first | (k_dflt (refine' rep_if 38 ?ry ?rF ?rN ?rx ?_ ?_; (case ry => decide +kernel); (case rF => k_asm); (case rN => k_asm); (case rx => rfl))) | (k_dflt (refine' rep_if 60 ?ry ?rF ?rN ?rx ?_ ?_; (case ry => decide +kernel); (case rF => k_asm); (case rN => k_asm); (case rx => rfl))) | (k_dflt (refine' rep_if 62 ?ry ?rF ?rN ?rx ?_ ?_; (case ry => decide +kernel); (case rF => k_asm); (case rN => k_asm); (case rx => rfl))))
  k_with "∀" => (intro hR tkR tR FR NR leR; (try dsimp only at leR); (try dsimp only))
  k_with "compareOp In str str" => (first | (k_dflt (refine' in_no (c := 34) ?ry h34 ?_; (case ry => decide +kernel))) | (k_dflt (refine' in_no (c := 13) ?ry h13 ?_; (case ry => decide +kernel))) | (k_dflt (refine' in_no (c := 10) ?ry h10 ?_; (case ry => decide +kernel))) | (k_dflt (refine' in_no (c := 9) ?ry h9 ?_; (case ry => decide +kernel))) | (k_dflt (refine' in_split (c := 38) (by decide +kernel) ?_ ?_ <;> intro hc0)) | (k_dflt (refine' in_split (c := 60) (by decide +kernel) ?_ ?_ <;> intro hc0)) | (k_dflt (refine' in_split (c := 62) (by decide +kernel) ?_ ?_ <;> intro hc0)))
  k_with "call builtin:str.replace" => (first | ((k_dflt (refine' rep_call (c := 38) ?ry ?rz ?ru ?rv ?rw ?rl ?rb ?_; (case ry => decide +kernel); (case rz => decide +kernel); (case ru => exact tok_pos (pos_of (by k_extra "mine tk1"))); (case rv => exact Nat.succ_ne_zero _); (case rw => exact tok_two); (case rl => first | exact le_lit hl rfl | exact le_lit r38 rfl | exact le_lit r60 rfl | exact le_lit r62 rfl); (case rb => exact none_booked w (Frag.In.keeps (by k_asm) (Fr.keep (by k_asm)))))); intro tr tkr) | ((k_dflt (refine' rep_call (c := 60) ?ry ?rz ?ru ?rv ?rw ?rl ?rb ?_; (case ry => decide +kernel); (case rz => decide +kernel); (case ru => exact tok_pos (pos_of (by k_extra "mine tk1"))); (case rv => exact Nat.succ_ne_zero _); (case rw => exact tok_two); (case rl => first | exact le_lit hl rfl | exact le_lit r38 rfl | exact le_lit r60 rfl | exact le_lit r62 rfl); (case rb => exact none_booked w (Frag.In.keeps (by k_asm) (Fr.keep (by k_asm)))))); intro tr tkr) | ((k_dflt (refine' rep_call (c := 62) ?ry ?rz ?ru ?rv ?rw ?rl ?rb ?_; (case ry => decide +kernel); (case rz => decide +kernel); (case ru => exact tok_pos (pos_of (by k_extra "mine tk1"))); (case rv => exact Nat.succ_ne_zero _); (case rw => exact tok_two); (case rl => first | exact le_lit hl rfl | exact le_lit r38 rfl | exact le_lit r60 rfl | exact le_lit r62 rfl); (case rb => exact none_booked w (Frag.In.keeps (by k_asm) (Fr.keep (by k_asm)))))); intro tr tkr))
  k_with "RepJ next" => (k_dflt (refine' rep_end ?eF ?eN ?eS ?em ?ex ?em'; (case eF => k_asm); (case em => rfl); (case eN => k_asm); (case eS => k_extra "mine sub"); (case ex => first | rfl | exact congrArg chr (rp_no hc0).symm); (case em' => k_extra "mine free")))
  k_with "LeaveK" => (k_dflt (refine' leaveK_ ?k1 ?k2 ?_; (case k1 => k_asm); (case k2 => k_asm); k_whole); intro kF kN; k_dflt (refine' ret0T hret kF kN ?g1 ⟨_, rfl, rfl⟩; (case g1 => k_extra "mine sub")))
  k_steps
theorem escC_c (w : World) (news : List (Addr × Obj)) (l : List Nat) (t : Tok) (hl : l.length ≤ 200) (h34 : 34 ∉ rp 62 (rp 38 l)) :
  CtrT w 235 news [.str (chr l) t] 1 8 (fun r tl _ => ∃ t', r = .str (chr (rp 62 (rp 38 l))) t' ∧ tl = []) := by
  k_with_none
  w_top off
  k_with "mine mem" => (first | (refine' mem_here ?_; ktr_member) | (refine' mem_appR ?_; k_mem) | (refine' mem_appL ?_; k_mem) | fail)
  k_with "mine ltL" => ((repeat (first | with_reducible exact lt_up0 | with_reducible refine lt_up ?_)); done)
  k_with "mine tk2" => (first | with_reducible assumption | with_reducible exact le_one | with_reducible exact Nat.le_refl _ | with_reducible exact Nat.succ_le_of_lt (by with_reducible assumption) | (with_reducible refine le_up ?_; k_extra "mine tk2") | (with_reducible refine le_chain (by with_reducible assumption) ?_; k_extra "mine tk2"))
  k_with "mine tk1" => ((try dsimp only); k_extra "mine tk2")
  k_with "mine size" => (first | (refine' sz_arr ?szA ?szB; (case szA => with_reducible assumption); (case szB => rfl)) | (refine' sz_line ?szA ?szB; (case szA => with_reducible assumption); (case szB => rfl)) | exact Nat.le_of_ble_eq_true rfl | fail)
  k_with "mine room" => ((first | k_dflt refine' rm2 ?rmA ?rmB | k_dflt refine' rm1 ?rmA ?rmB | k_dflt refine' rm0 ?rmA); (case rmA => k_dflt assumption); (try (case rmB => rfl)))
  k_with "mine ne" => (refine neN ?_; (try dsimp only); first | exact ne_all (by with_reducible assumption) (by k_mem) | exact ne_all' (by with_reducible assumption) (by k_mem) | with_reducible assumption | exact Ne.symm (by with_reducible assumption) | exact ne_gt (by k_extra "mine ltL") | exact ne_lt (by k_extra "mine ltL") | exact ne_gt (by with_reducible assumption) | exact ne_lt (by with_reducible assumption) | exact ne_far (by with_reducible assumption) (by k_extra "mine ltL") | exact ne_far' (by with_reducible assumption) (by k_extra "mine ltL") | omega | fail)
  k_with "mine all" => (first | with_reducible assumption | exact all_ne (by with_reducible assumption) (by k_extra "mine sub") | fail)
  k_with "mine free" => (intro yy; intros; repeat (first | with_reducible exact rfl | with_reducible exact forget_off (by with_reducible assumption) | (refine' Eq.trans (if_neg ?fnC) ?_; (case fnC => first | with_reducible assumption | exact ne_free (by with_reducible assumption) (by kernel_rfl))) | exact rfl))
  k_with "evalPairs" => (k_here; dsimp only)
  k_with "Exists" => (k_here; dsimp only)
  k_with "execs cons" => (k_here; refine' nx_start ?_; intro tkz htkz; (try dsimp only at htkz))
  k_with "Nx" => ((try dsimp only); (first | (with_reducible refine' nx_cons0 ?_; intro tkz htkz) | (with_reducible refine' nx_cons ?_; intro tkz htl htkz) | ((first | with_reducible refine' nx_nil0 ?_ | with_reducible refine' nx_ret0 ?_ | with_reducible refine' nx_open0 ?_); (try dsimp only)) | ((first | with_reducible refine' nx_nil ?_ | with_reducible refine' nx_ret ?_ | with_reducible refine' nx_open ?_ | with_reducible refine' nx_brk ?_ | with_reducible refine' nx_cont ?_); intro htl; (try dsimp only at htl); (try dsimp only))))
  k_with "execs nil" => (k_here; (refine wpAny_execs_nil ?_); (try dsimp only))
  k_with "newList" => (k_here; k_dflt (refine' new_lst ?nlF ?nlN ?nlz ?_; (case nlF => k_asm); (case nlN => k_asm); (case nlz => rfl); k_whole); intro d' h' F' N' l1; (try k_sweep))
  k_with "newTuple" => (k_here; k_dflt (refine' new_tup ?nlF ?nlN ?nlz ?_; (case nlF => k_asm); (case nlN => k_asm); (case nlz => rfl); k_whole); intro d' h' F' N' l1; (try k_sweep))
  k_with "mine sub" => ((repeat (first | with_reducible exact sub_nil | with_reducible exact sub_app | with_reducible refine sub_cons ?_ | with_reducible refine sub_app' ?_)); done)
  k_with "mine end2" => ((case F => k_asm); (case N => k_asm); (case S => k_extra "mine sub"); (case P => (refine' lt_sub ?a ?b; (case a => with_reducible assumption); (case b => k_extra "mine sub"))); (case R => (refine' lt_sub ?a ?b; (case a => with_reducible assumption); (case b => k_extra "mine sub"))))
  unfold CtrT
  k_fill
  have r38 := Nat.le_trans (rp_len 38 (l)) (Nat.mul_le_mul_left 5 hl)
  have r62 := Nat.le_trans (rp_len 62 (rp 38 l)) (Nat.mul_le_mul_left 5 r38)
  intro mean mg mb dp un gd cn cs a ccd cl outer A₀ base h₀ L m s Q E B F X N T hk hd hu ht1 hret
  refine wpAny_call ?_
  k_dflt ktr_enter
  k_with "TkLe" => (refine' tkle_intro ?_; intro htl; (try dsimp only at htl); (try dsimp only))
  k_with "exec If Compare cons nil" => (first | (k_dflt (refine' rep_if 38 ?ry ?rF ?rN ?rx ?_ ?_; (case ry => decide +kernel); (case rF => k_asm); (case rN => k_asm); (case rx => rfl))) | (k_dflt (refine' rep_if 62 ?ry ?rF ?rN ?rx ?_ ?_; (case ry => decide +kernel); (case rF => k_asm); (case rN => k_asm); (case rx => rfl))))
  k_with "∀" => (intro hR tkR tR FR NR leR; (try dsimp only at leR); (try dsimp only))
  k_with "compareOp In str str" => (first | (k_dflt (refine' in_no (c := 34) ?ry h34 ?_; (case ry => decide +kernel))) | (k_dflt (refine' in_split (c := 38) (by decide +kernel) ?_ ?_ <;> intro hc0)) | (k_dflt (refine' in_split (c := 62) (by decide +kernel) ?_ ?_ <;> intro hc0)))
  k_with "call builtin:str.replace" => (first | ((k_dflt (refine' rep_call (c := 38) ?ry ?rz ?ru ?rv ?rw ?rl ?rb ?_; (case ry => decide +kernel); (case rz => decide +kernel); (case ru => exact tok_pos (pos_of (by k_extra "mine tk1"))); (case rv => exact Nat.succ_ne_zero _); (case rw => exact tok_two); (case rl => first | exact le_lit hl rfl | exact le_lit r38 rfl | exact le_lit r62 rfl); (case rb => exact none_booked w (Frag.In.keeps (by k_asm) (Fr.keep (by k_asm)))))); intro tr tkr) | ((k_dflt (refine' rep_call (c := 62) ?ry ?rz ?ru ?rv ?rw ?rl ?rb ?_; (case ry => decide +kernel); (case rz => decide +kernel); (case ru => exact tok_pos (pos_of (by k_extra "mine tk1"))); (case rv => exact Nat.succ_ne_zero _); (case rw => exact tok_two); (case rl => first | exact le_lit hl rfl | exact le_lit r38 rfl | exact le_lit r62 rfl); (case rb => exact none_booked w (Frag.In.keeps (by k_asm) (Fr.keep (by k_asm)))))); intro tr tkr))
  k_with "RepJ next" => (k_dflt (refine' rep_end ?eF ?eN ?eS ?em ?ex ?em'; (case eF => k_asm); (case em => rfl); (case eN => k_asm); (case eS => k_extra "mine sub"); (case ex => first | rfl | exact congrArg chr (rp_no hc0).symm); (case em' => k_extra "mine free")))
  k_with "LeaveK" => (k_dflt (refine' leaveK_ ?k1 ?k2 ?_; (case k1 => k_asm); (case k2 => k_asm); k_whole); intro kF kN; k_dflt (refine' ret0T hret kF kN ?g1 ⟨_, rfl, rfl⟩; (case g1 => k_extra "mine sub")))
  k_steps
theorem escD_c (w : World) (news : List (Addr × Obj)) (l : List Nat) (t : Tok) (hl : l.length ≤ 200) (h13 : 13 ∉ rp 62 (rp 60 (rp 38 l))) :
  CtrT w 242 news [.str (chr l) t] 1 8 (fun r tl _ => ∃ t', r = .str (chr (rp 62 (rp 60 (rp 38 l)))) t' ∧ tl = []) := by
  k_with_none
  w_top off
  k_with "mine mem" => (first | (refine' mem_here ?_; ktr_member) | (refine' mem_appR ?_; k_mem) | (refine' mem_appL ?_; k_mem) | fail)
  k_with "mine ltL" => ((repeat (first | with_reducible exact lt_up0 | with_reducible refine lt_up ?_)); done)
  k_with "mine tk2" => (first | with_reducible assumption | with_reducible exact le_one | with_reducible exact Nat.le_refl _ | with_reducible exact Nat.succ_le_of_lt (by with_reducible assumption) | (with_reducible refine le_up ?_; k_extra "mine tk2") | (with_reducible refine le_chain (by with_reducible assumption) ?_; k_extra "mine tk2"))
  k_with "mine tk1" => ((try dsimp only); k_extra "mine tk2")
  k_with "mine size" => (first | (refine' sz_arr ?szA ?szB; (case szA => with_reducible assumption); (case szB => rfl)) | (refine' sz_line ?szA ?szB; (case szA => with_reducible assumption); (case szB => rfl)) | exact Nat.le_of_ble_eq_true rfl | fail)
  k_with "mine room" => ((first | k_dflt refine' rm2 ?rmA ?rmB | k_dflt refine' rm1 ?rmA ?rmB | k_dflt refine' rm0 ?rmA); (case rmA => k_dflt assumption); (try (case rmB => rfl)))
  k_with "mine ne" => (refine neN ?_; (try dsimp only); first | exact ne_all (by with_reducible assumption) (by k_mem) | exact ne_all' (by with_reducible assumption) (by k_mem) | with_reducible assumption | exact Ne.symm (by with_reducible assumption) | exact ne_gt (by k_extra "mine ltL") | exact ne_lt (by k_extra "mine ltL") | exact ne_gt (by with_reducible assumption) | exact ne_lt (by with_reducible assumption) | exact ne_far (by with_reducible assumption) (by k_extra "mine ltL") | exact ne_far' (by with_reducible assumption) (by k_extra "mine ltL") | omega | fail)
  k_with "mine all" => (first | with_reducible assumption | exact all_ne (by with_reducible assumption) (by k_extra "mine sub") | fail)
  k_with "mine free" => (intro yy; intros; repeat (first | with_reducible exact rfl | with_reducible exact forget_off (by with_reducible assumption) | (refine' Eq.trans (if_neg ?fnC) ?_; (case fnC => first | with_reducible assumption | exact ne_free (by with_reducible assumption) (by kernel_rfl))) | exact rfl))
  k_with "evalPairs" => (k_here; dsimp only)
  k_with "Exists" => (k_here; dsimp only)
  k_with "execs cons" => (k_here; refine' nx_start ?_; intro tkz htkz; (try dsimp only at htkz))
  k_with "Nx" => ((try dsimp only); (first | (with_reducible refine' nx_cons0 ?_; intro tkz htkz) | (with_reducible refine' nx_cons ?_; intro tkz htl htkz) | ((first | with_reducible refine' nx_nil0 ?_ | with_reducible refine' nx_ret0 ?_ | with_reducible refine' nx_open0 ?_); (try dsimp only)) | ((first | with_reducible refine' nx_nil ?_ | with_reducible refine' nx_ret ?_ | with_reducible refine' nx_open ?_ | with_reducible refine' nx_brk ?_ | with_reducible refine' nx_cont ?_); intro htl; (try dsimp only at htl); (try dsimp only))))
  k_with "execs nil" => (k_here; (refine wpAny_execs_nil ?_); (try dsimp only))
  k_with "newList" => (k_here; k_dflt (refine' new_lst ?nlF ?nlN ?nlz ?_; (case nlF => k_asm); (case nlN => k_asm); (case nlz => rfl); k_whole); intro d' h' F' N' l1; (try k_sweep))
  k_with "newTuple" => (k_here; k_dflt (refine' new_tup ?nlF ?nlN ?nlz ?_; (case nlF => k_asm); (case nlN => k_asm); (case nlz => rfl); k_whole); intro d' h' F' N' l1; (try k_sweep))
  k_with "mine sub" => ((repeat (first | with_reducible exact sub_nil | with_reducible exact sub_app | with_reducible refine sub_cons ?_ | with_reducible refine sub_app' ?_)); done)
  k_with "mine end2" => ((case F => k_asm); (case N => k_asm); (case S => k_extra "mine sub"); (case P => (refine' lt_sub ?a ?b; (case a => with_reducible assumption); (case b => k_extra "mine sub"))); (case R => (refine' lt_sub ?a ?b; (case a => with_reducible assumption); (case b => k_extra "mine sub"))))
  unfold CtrT
  k_fill
  have r38 := Nat.le_trans (rp_len 38 (l)) (Nat.mul_le_mul_left 5 hl)
  have r60 := Nat.le_trans (rp_len 60 (rp 38 l)) (Nat.mul_le_mul_left 5 r38)
  have r62 := Nat.le_trans (rp_len 62 (rp 60 (rp 38 l))) (Nat.mul_le_mul_left 5 r60)
  intro mean mg mb dp un gd cn cs a ccd cl outer A₀ base h₀ L m s Q E B F X N T hk hd hu ht1 hret
  refine wpAny_call ?_
  k_dflt ktr_enter
  k_with "TkLe" => (refine' tkle_intro ?_; intro htl; (try dsimp only at htl); (try dsimp only))
  k_with "exec If Compare cons nil" => (first | (k_dflt (refine' rep_if 38 ?ry ?rF ?rN ?rx ?_ ?_; (case ry => decide +kernel); (case rF => k_asm); (case rN => k_asm); (case rx => rfl))) | (k_dflt (refine' rep_if 60 ?ry ?rF ?rN ?rx ?_ ?_; (case ry => decide +kernel); (case rF => k_asm); (case rN => k_asm); (case rx => rfl))) | (k_dflt (refine' rep_if 62 ?ry ?rF ?rN ?rx ?_ ?_; (case ry => decide +kernel); (case rF => k_asm); (case rN => k_asm); (case rx => rfl))))
  k_with "∀" => (intro hR tkR tR FR NR leR; (try dsimp only at leR); (try dsimp only))
  k_with "compareOp In str str" => (first | (k_dflt (refine' in_no (c := 13) ?ry h13 ?_; (case ry => decide +kernel))) | (k_dflt (refine' in_split (c := 38) (by decide +kernel) ?_ ?_ <;> intro hc0)) | (k_dflt (refine' in_split (c := 60) (by decide +kernel) ?_ ?_ <;> intro hc0)) | (k_dflt (refine' in_split (c := 62) (by decide +kernel) ?_ ?_ <;> intro hc0)))
  k_with "call builtin:str.replace" => (first | ((k_dflt (refine' rep_call (c := 38) ?ry ?rz ?ru ?rv ?rw ?rl ?rb ?_; (case ry => decide +kernel); (case rz => decide +kernel); (case ru => exact tok_pos (pos_of (by k_extra "mine tk1"))); (case rv => exact Nat.succ_ne_zero _); (case rw => exact tok_two); (case rl => first | exact le_lit hl rfl | exact le_lit r38 rfl | exact le_lit r60 rfl | exact le_lit r62 rfl); (case rb => exact none_booked w (Frag.In.keeps (by k_asm) (Fr.keep (by k_asm)))))); intro tr tkr) | ((k_dflt (refine' rep_call (c := 60) ?ry ?rz ?ru ?rv ?rw ?rl ?rb ?_; (case ry => decide +kernel); (case rz => decide +kernel); (case ru => exact tok_pos (pos_of (by k_extra "mine tk1"))); (case rv => exact Nat.succ_ne_zero _); (case rw => exact tok_two); (case rl => first | exact le_lit hl rfl | exact le_lit r38 rfl | exact le_lit r60 rfl | exact le_lit r62 rfl); (case rb => exact none_booked w (Frag.In.keeps (by k_asm) (Fr.keep (by k_asm)))))); intro tr tkr) | ((k_dflt (refine' rep_call (c := 62) ?ry ?rz ?ru ?rv ?rw ?rl ?rb ?_; (case ry => decide +kernel); (case rz => decide +kernel); (case ru => exact tok_pos (pos_of (by k_extra "mine tk1"))); (case rv => exact Nat.succ_ne_zero _); (case rw => exact tok_two); (case rl => first | exact le_lit hl rfl | exact le_lit r38 rfl | exact le_lit r60 rfl | exact le_lit r62 rfl); (case rb => exact none_booked w (Frag.In.keeps (by k_asm) (Fr.keep (by k_asm)))))); intro tr tkr))
  k_with "RepJ next" => (k_dflt (refine' rep_end ?eF ?eN ?eS ?em ?ex ?em'; (case eF => k_asm); (case em => rfl); (case eN => k_asm); (case eS => k_extra "mine sub"); (case ex => first | rfl | exact congrArg chr (rp_no hc0).symm); (case em' => k_extra "mine free")))
  k_with "LeaveK" => (k_dflt (refine' leaveK_ ?k1 ?k2 ?_; (case k1 => k_asm); (case k2 => k_asm); k_whole); intro kF kN; k_dflt (refine' ret0T hret kF kN ?g1 ⟨_, rfl, rfl⟩; (case g1 => k_extra "mine sub")))
  k_steps
theorem escE_c (w : World) (news : List (Addr × Obj)) (l : List Nat) (t : Tok) (hl : l.length ≤ 200) (h34 : 34 ∉ rp 60 (rp 38 l)) (h9 : 9 ∉ rp 60 (rp 38 l)) (h10 : 10 ∉ rp 60 (rp 38 l)) (h13 : 13 ∉ rp 60 (rp 38 l)) :
  CtrT w 249 news [.str (chr l) t] 1 8 (fun r tl _ => ∃ t', r = .str (chr (rp 60 (rp 38 l))) t' ∧ tl = []) := by
  k_with_none
  w_top off
  k_with "mine mem" => (first | (refine' mem_here ?_; ktr_member) | (refine' mem_appR ?_; k_mem) | (refine' mem_appL ?_; k_mem) | fail)
  k_with "mine ltL" => ((repeat (first | with_reducible exact lt_up0 | with_reducible refine lt_up ?_)); done)
  k_with "mine tk2" => (first | with_reducible assumption | with_reducible exact le_one | with_reducible exact Nat.le_refl _ | with_reducible exact Nat.succ_le_of_lt (by with_reducible assumption) | (with_reducible refine le_up ?_; k_extra "mine tk2") | (with_reducible refine le_chain (by with_reducible assumption) ?_; k_extra "mine tk2"))
  k_with "mine tk1" => ((try dsimp only); k_extra "mine tk2")
  k_with "mine size" => (first | (refine' sz_arr ?szA ?szB; (case szA => with_reducible assumption); (case szB => rfl)) | (refine' sz_line ?szA ?szB; (case szA => with_reducible assumption); (case szB => rfl)) | exact Nat.le_of_ble_eq_true rfl | fail)
  k_with "mine room" => ((first | k_dflt refine' rm2 ?rmA ?rmB | k_dflt refine' rm1 ?rmA ?rmB | k_dflt refine' rm0 ?rmA); (case rmA => k_dflt assumption); (try (case rmB => rfl)))
  k_with "mine ne" => (refine neN ?_; (try dsimp only); first | exact ne_all (by with_reducible assumption) (by k_mem) | exact ne_all' (by with_reducible assumption) (by k_mem) | with_reducible assumption | exact Ne.symm (by with_reducible assumption) | exact ne_gt (by k_extra "mine ltL") | exact ne_lt (by k_extra "mine ltL") | exact ne_gt (by with_reducible assumption) | exact ne_lt (by with_reducible assumption) | exact ne_far (by with_reducible assumption) (by k_extra "mine ltL") | exact ne_far' (by with_reducible assumption) (by k_extra "mine ltL") | omega | fail)
  k_with "mine all" => (first | with_reducible assumption | exact all_ne (by with_reducible assumption) (by k_extra "mine sub") | fail)
  k_with "mine free" => (intro yy; intros; repeat (first | with_reducible exact rfl | with_reducible exact forget_off (by with_reducible assumption) | (refine' Eq.trans (if_neg ?fnC) ?_; (case fnC => first | with_reducible assumption | exact ne_free (by with_reducible assumption) (by kernel_rfl))) | exact rfl))
  k_with "evalPairs" => (k_here; dsimp only)
  k_with "Exists" => (k_here; dsimp only)
  k_with "execs cons" => (k_here; refine' nx_start ?_; intro tkz htkz; (try dsimp only at htkz))
  k_with "Nx" => ((try dsimp only); (first | (with_reducible refine' nx_cons0 ?_; intro tkz htkz) | (with_reducible refine' nx_cons ?_; intro tkz htl htkz) | ((first | with_reducible refine' nx_nil0 ?_ | with_reducible refine' nx_ret0 ?_ | with_reducible refine' nx_open0 ?_); (try dsimp only)) | ((first | with_reducible refine' nx_nil ?_ | with_reducible refine' nx_ret ?_ | with_reducible refine' nx_open ?_ | with_reducible refine' nx_brk ?_ | with_reducible refine' nx_cont ?_); intro htl; (try dsimp only at htl); (try dsimp only))))
  k_with "execs nil" => (k_here; (refine wpAny_execs_nil ?_); (try dsimp only))
  k_with "newList" => (k_here; k_dflt (refine' new_lst ?nlF ?nlN ?nlz ?_; (case nlF => k_asm); (case nlN => k_asm); (case nlz => rfl); k_whole); intro d' h' F' N' l1; (try k_sweep))
  k_with "newTuple" => (k_here; k_dflt (refine' new_tup ?nlF ?nlN ?nlz ?_; (case nlF => k_asm); (case nlN => k_asm); (case nlz => rfl); k_whole); intro d' h' F' N' l1; (try k_sweep))
  k_with "mine sub" => ((repeat (first | with_reducible exact sub_nil | with_reducible exact sub_app | with_reducible refine sub_cons ?_ | with_reducible refine sub_app' ?_)); done)
  k_with "mine end2" => ((case F => k_asm); (case N => k_asm); (case S => k_extra "mine sub"); (case P => (refine' lt_sub ?a ?b; (case a => with_reducible assumption); (case b => k_extra "mine sub"))); (case R => (refine' lt_sub ?a ?b; (case a => with_reducible assumption); (case b => k_extra "mine sub"))))
  unfold CtrT
  k_fill
  have r38 := Nat.le_trans (rp_len 38 (l)) (Nat.mul_le_mul_left 5 hl)
  have r60 := Nat.le_trans (rp_len 60 (rp 38 l)) (Nat.mul_le_mul_left 5 r38)
  intro mean mg mb dp un gd cn cs a ccd cl outer A₀ base h₀ L m s Q E B F X N T hk hd hu ht1 hret
  refine wpAny_call ?_
  k_dflt ktr_enter
  k_with "TkLe" => (refine' tkle_intro ?_; intro htl; (try dsimp only at htl); (try dsimp only))
  k_with "exec If Compare cons nil" => (first | (k_dflt (refine' rep_if 38 ?ry ?rF ?rN ?rx ?_ ?_; (case ry => decide +kernel); (case rF => k_asm); (case rN => k_asm); (case rx => rfl))) | (k_dflt (refine' rep_if 60 ?ry ?rF ?rN ?rx ?_ ?_; (case ry => decide +kernel); (case rF => k_asm); (case rN => k_asm); (case rx => rfl))))
  k_with "∀" => (intro hR tkR tR FR NR leR; (try dsimp only at leR); (try dsimp only))
  k_with "compareOp In str str" => (first | (k_dflt (refine' in_no (c := 34) ?ry h34 ?_; (case ry => decide +kernel))) | (k_dflt (refine' in_no (c := 9) ?ry h9 ?_; (case ry => decide +kernel))) | (k_dflt (refine' in_no (c := 10) ?ry h10 ?_; (case ry => decide +kernel))) | (k_dflt (refine' in_no (c := 13) ?ry h13 ?_; (case ry => decide +kernel))) | (k_dflt (refine' in_split (c := 38) (by decide +kernel) ?_ ?_ <;> intro hc0)) | (k_dflt (refine' in_split (c := 60) (by decide +kernel) ?_ ?_ <;> intro hc0)))
  k_with "call builtin:str.replace" => (first | ((k_dflt (refine' rep_call (c := 38) ?ry ?rz ?ru ?rv ?rw ?rl ?rb ?_; (case ry => decide +kernel); (case rz => decide +kernel); (case ru => exact tok_pos (pos_of (by k_extra "mine tk1"))); (case rv => exact Nat.succ_ne_zero _); (case rw => exact tok_two); (case rl => first | exact le_lit hl rfl | exact le_lit r38 rfl | exact le_lit r60 rfl); (case rb => exact none_booked w (Frag.In.keeps (by k_asm) (Fr.keep (by k_asm)))))); intro tr tkr) | ((k_dflt (refine' rep_call (c := 60) ?ry ?rz ?ru ?rv ?rw ?rl ?rb ?_; (case ry => decide +kernel); (case rz => decide +kernel); (case ru => exact tok_pos (pos_of (by k_extra "mine tk1"))); (case rv => exact Nat.succ_ne_zero _); (case rw => exact tok_two); (case rl => first | exact le_lit hl rfl | exact le_lit r38 rfl | exact le_lit r60 rfl); (case rb => exact none_booked w (Frag.In.keeps (by k_asm) (Fr.keep (by k_asm)))))); intro tr tkr))
  k_with "RepJ next" => (k_dflt (refine' rep_end ?eF ?eN ?eS ?em ?ex ?em'; (case eF => k_asm); (case em => rfl); (case eN => k_asm); (case eS => k_extra "mine sub"); (case ex => first | rfl | exact congrArg chr (rp_no hc0).symm); (case em' => k_extra "mine free")))
  k_with "LeaveK" => (k_dflt (refine' leaveK_ ?k1 ?k2 ?_; (case k1 => k_asm); (case k2 => k_asm); k_whole); intro kF kN; k_dflt (refine' ret0T hret kF kN ?g1 ⟨_, rfl, rfl⟩; (case g1 => k_extra "mine sub")))
  k_steps
theorem andI_c (w : World) (news : List (Addr × Obj)) (a b : Int) (ta tb : Tok) :
  Ctr w 63 news [.int a ta, .int b tb] 1 8 (fun r tl => (∃ t, r = .int (Builtin.bitAnd a b) t) ∧ tl = []) := by
  k_with_none
  w_top off
  k_with "mine mem" => (first | (refine' mem_here ?_; ktr_member) | (refine' mem_appR ?_; k_mem) | (refine' mem_appL ?_; k_mem) | fail)
  k_with "mine ltL" => ((repeat (first | with_reducible exact lt_up0 | with_reducible refine lt_up ?_)); done)
  k_with "mine tk2" => (first | with_reducible assumption | with_reducible exact le_one | with_reducible exact Nat.le_refl _ | with_reducible exact Nat.succ_le_of_lt (by with_reducible assumption) | (with_reducible refine le_up ?_; k_extra "mine tk2") | (with_reducible refine le_chain (by with_reducible assumption) ?_; k_extra "mine tk2"))
  k_with "mine tk1" => ((try dsimp only); k_extra "mine tk2")
  k_with "mine size" => (first | (refine' sz_arr ?szA ?szB; (case szA => with_reducible assumption); (case szB => rfl)) | (refine' sz_line ?szA ?szB; (case szA => with_reducible assumption); (case szB => rfl)) | exact Nat.le_of_ble_eq_true rfl | fail)
  k_with "mine room" => ((first | k_dflt refine' rm2 ?rmA ?rmB | k_dflt refine' rm1 ?rmA ?rmB | k_dflt refine' rm0 ?rmA); (case rmA => k_dflt assumption); (try (case rmB => rfl)))
  k_with "mine ne" => (refine neN ?_; (try dsimp only); first | exact ne_all (by with_reducible assumption) (by k_mem) | exact ne_all' (by with_reducible assumption) (by k_mem) | with_reducible assumption | exact Ne.symm (by with_reducible assumption) | exact ne_gt (by k_extra "mine ltL") | exact ne_lt (by k_extra "mine ltL") | exact ne_gt (by with_reducible assumption) | exact ne_lt (by with_reducible assumption) | exact ne_far (by with_reducible assumption) (by k_extra "mine ltL") | exact ne_far' (by with_reducible assumption) (by k_extra "mine ltL") | omega | fail)
  k_with "mine all" => (first | with_reducible assumption | exact all_ne (by with_reducible assumption) (by k_extra "mine sub") | fail)
  k_with "mine free" => (intro yy; intros; repeat (first | with_reducible exact rfl | with_reducible exact forget_off (by with_reducible assumption) | (refine' Eq.trans (if_neg ?fnC) ?_; (case fnC => first | with_reducible assumption | exact ne_free (by with_reducible assumption) (by kernel_rfl))) | exact rfl))
  k_with "evalPairs" => (k_here; dsimp only)
  k_with "Exists" => (k_here; dsimp only)
  k_with "execs cons" => (k_here; refine' nx_start ?_; intro tkz htkz; (try dsimp only at htkz))
  k_with "Nx" => ((try dsimp only); (first | (with_reducible refine' nx_cons0 ?_; intro tkz htkz) | (with_reducible refine' nx_cons ?_; intro tkz htl htkz) | ((first | with_reducible refine' nx_nil0 ?_ | with_reducible refine' nx_ret0 ?_ | with_reducible refine' nx_open0 ?_); (try dsimp only)) | ((first | with_reducible refine' nx_nil ?_ | with_reducible refine' nx_ret ?_ | with_reducible refine' nx_open ?_ | with_reducible refine' nx_brk ?_ | with_reducible refine' nx_cont ?_); intro htl; (try dsimp only at htl); (try dsimp only))))
  k_with "execs nil" => (k_here; (refine wpAny_execs_nil ?_); (try dsimp only))
  k_with "newList" => (k_here; k_dflt (refine' new_lst ?nlF ?nlN ?nlz ?_; (case nlF => k_asm); (case nlN => k_asm); (case nlz => rfl); k_whole); intro d' h' F' N' l1; (try k_sweep))
  k_with "newTuple" => (k_here; k_dflt (refine' new_tup ?nlF ?nlN ?nlz ?_; (case nlF => k_asm); (case nlN => k_asm); (case nlz => rfl); k_whole); intro d' h' F' N' l1; (try k_sweep))
  k_with "mine sub" => ((repeat (first | with_reducible exact sub_nil | with_reducible exact sub_app | with_reducible refine sub_cons ?_ | with_reducible refine sub_app' ?_)); done)
  k_with "mine end2" => ((case F => k_asm); (case N => k_asm); (case S => k_extra "mine sub"); (case P => (refine' lt_sub ?a ?b; (case a => with_reducible assumption); (case b => k_extra "mine sub"))); (case R => (refine' lt_sub ?a ?b; (case a => with_reducible assumption); (case b => k_extra "mine sub"))))
  unfold Ctr
  k_fill
  intro mean mg mb dp un gd cn cs a_ ccd cl outer A₀ base h₀ L m s Q E B F X N T hk hd hu hret
  refine wpAny_call ?_
  k_dflt ktr_enter
  k_with "TkLe" => (refine' tkle_intro ?_; intro htl; (try dsimp only at htl); (try dsimp only))
  k_with "LeaveK" => (k_dflt (refine' leaveK_ ?k1 ?k2 ?_; (case k1 => k_asm); (case k2 => k_asm); k_whole); intro kF kN; k_dflt (refine' ret0 hret kF kN ?g1 ⟨⟨_, rfl⟩, rfl⟩; (case g1 => k_extra "mine sub")))
  k_steps
theorem orI_c (w : World) (news : List (Addr × Obj)) (a b : Int) (ta tb : Tok) :
  Ctr w 84 news [.int a ta, .int b tb] 1 8 (fun r tl => (∃ t, r = .int (Builtin.bitOr a b) t) ∧ tl = []) := by
  k_with_none
  w_top off
  k_with "mine mem" => (first | (refine' mem_here ?_; ktr_member) | (refine' mem_appR ?_; k_mem) | (refine' mem_appL ?_; k_mem) | fail)
  k_with "mine ltL" => ((repeat (first | with_reducible exact lt_up0 | with_reducible refine lt_up ?_)); done)
  k_with "mine tk2" => (first | with_reducible assumption | with_reducible exact le_one | with_reducible exact Nat.le_refl _ | with_reducible exact Nat.succ_le_of_lt (by with_reducible assumption) | (with_reducible refine le_up ?_; k_extra "mine tk2") | (with_reducible refine le_chain (by with_reducible assumption) ?_; k_extra "mine tk2"))
  k_with "mine tk1" => ((try dsimp only); k_extra "mine tk2")
  k_with "mine size" => (first | (refine' sz_arr ?szA ?szB; (case szA => with_reducible assumption); (case szB => rfl)) | (refine' sz_line ?szA ?szB; (case szA => with_reducible assumption); (case szB => rfl)) | exact Nat.le_of_ble_eq_true rfl | fail)
  k_with "mine room" => ((first | k_dflt refine' rm2 ?rmA ?rmB | k_dflt refine' rm1 ?rmA ?rmB | k_dflt refine' rm0 ?rmA); (case rmA => k_dflt assumption); (try (case rmB => rfl)))
  k_with "mine ne" => (refine neN ?_; (try dsimp only); first | exact ne_all (by with_reducible assumption) (by k_mem) | exact ne_all' (by with_reducible assumption) (by k_mem) | with_reducible assumption | exact Ne.symm (by with_reducible assumption) | exact ne_gt (by k_extra "mine ltL") | exact ne_lt (by k_extra "mine ltL") | exact ne_gt (by with_reducible assumption) | exact ne_lt (by with_reducible assumption) | exact ne_far (by with_reducible assumption) (by k_extra "mine ltL") | exact ne_far' (by with_reducible assumption) (by k_extra "mine ltL") | omega | fail)
  k_with "mine all" => (first | with_reducible assumption | exact all_ne (by with_reducible assumption) (by k_extra "mine sub") | fail)
  k_with "mine free" => (intro yy; intros; repeat (first | with_reducible exact rfl | with_reducible exact forget_off (by with_reducible assumption) | (refine' Eq.trans (if_neg ?fnC) ?_; (case fnC => first | with_reducible assumption | exact ne_free (by with_reducible assumption) (by kernel_rfl))) | exact rfl))
  k_with "evalPairs" => (k_here; dsimp only)
  k_with "Exists" => (k_here; dsimp only)
  k_with "execs cons" => (k_here; refine' nx_start ?_; intro tkz htkz; (try dsimp only at htkz))
  k_with "Nx" => ((try dsimp only); (first | (with_reducible refine' nx_cons0 ?_; intro tkz htkz) | (with_reducible refine' nx_cons ?_; intro tkz htl htkz) | ((first | with_reducible refine' nx_nil0 ?_ | with_reducible refine' nx_ret0 ?_ | with_reducible refine' nx_open0 ?_); (try dsimp only)) | ((first | with_reducible refine' nx_nil ?_ | with_reducible refine' nx_ret ?_ | with_reducible refine' nx_open ?_ | with_reducible refine' nx_brk ?_ | with_reducible refine' nx_cont ?_); intro htl; (try dsimp only at htl); (try dsimp only))))
  k_with "execs nil" => (k_here; (refine wpAny_execs_nil ?_); (try dsimp only))
  k_with "newList" => (k_here; k_dflt (refine' new_lst ?nlF ?nlN ?nlz ?_; (case nlF => k_asm); (case nlN => k_asm); (case nlz => rfl); k_whole); intro d' h' F' N' l1; (try k_sweep))
  k_with "newTuple" => (k_here; k_dflt (refine' new_tup ?nlF ?nlN ?nlz ?_; (case nlF => k_asm); (case nlN => k_asm); (case nlz => rfl); k_whole); intro d' h' F' N' l1; (try k_sweep))
  k_with "mine sub" => ((repeat (first | with_reducible exact sub_nil | with_reducible exact sub_app | with_reducible refine sub_cons ?_ | with_reducible refine sub_app' ?_)); done)
  k_with "mine end2" => ((case F => k_asm); (case N => k_asm); (case S => k_extra "mine sub"); (case P => (refine' lt_sub ?a ?b; (case a => with_reducible assumption); (case b => k_extra "mine sub"))); (case R => (refine' lt_sub ?a ?b; (case a => with_reducible assumption); (case b => k_extra "mine sub"))))
  unfold Ctr
  k_fill
  intro mean mg mb dp un gd cn cs a_ ccd cl outer A₀ base h₀ L m s Q E B F X N T hk hd hu hret
  refine wpAny_call ?_
  k_dflt ktr_enter
  k_with "TkLe" => (refine' tkle_intro ?_; intro htl; (try dsimp only at htl); (try dsimp only))
  k_with "LeaveK" => (k_dflt (refine' leaveK_ ?k1 ?k2 ?_; (case k1 => k_asm); (case k2 => k_asm); k_whole); intro kF kN; k_dflt (refine' ret0 hret kF kN ?g1 ⟨⟨_, rfl⟩, rfl⟩; (case g1 => k_extra "mine sub")))
  k_steps
theorem xorI_c (w : World) (news : List (Addr × Obj)) (a b : Int) (ta tb : Tok) :
  Ctr w 98 news [.int a ta, .int b tb] 1 8 (fun r tl => (∃ t, r = .int (Builtin.bitXor a b) t) ∧ tl = []) := by
  k_with_none
  w_top off
  k_with "mine mem" => (first | (refine' mem_here ?_; ktr_member) | (refine' mem_appR ?_; k_mem) | (refine' mem_appL ?_; k_mem) | fail)
  k_with "mine ltL" => ((repeat (first | with_reducible exact lt_up0 | with_reducible refine lt_up ?_)); done)
  k_with "mine tk2" => (first | with_reducible assumption | with_reducible exact le_one | with_reducible exact Nat.le_refl _ | with_reducible exact Nat.succ_le_of_lt (by with_reducible assumption) | (with_reducible refine le_up ?_; k_extra "mine tk2") | (with_reducible refine le_chain (by with_reducible assumption) ?_; k_extra "mine tk2"))
  k_with "mine tk1" => ((try dsimp only); k_extra "mine tk2")
  k_with "mine size" => (first | (refine' sz_arr ?szA ?szB; (case szA => with_reducible assumption); (case szB => rfl)) | (refine' sz_line ?szA ?szB; (case szA => with_reducible assumption); (case szB => rfl)) | exact Nat.le_of_ble_eq_true rfl | fail)
  k_with "mine room" => ((first | k_dflt refine' rm2 ?rmA ?rmB | k_dflt refine' rm1 ?rmA ?rmB | k_dflt refine' rm0 ?rmA); (case rmA => k_dflt assumption); (try (case rmB => rfl)))
  k_with "mine ne" => (refine neN ?_; (try dsimp only); first | exact ne_all (by with_reducible assumption) (by k_mem) | exact ne_all' (by with_reducible assumption) (by k_mem) | with_reducible assumption | exact Ne.symm (by with_reducible assumption) | exact ne_gt (by k_extra "mine ltL") | exact ne_lt (by k_extra "mine ltL") | exact ne_gt (by with_reducible assumption) | exact ne_lt (by with_reducible assumption) | exact ne_far (by with_reducible assumption) (by k_extra "mine ltL") | exact ne_far' (by with_reducible assumption) (by k_extra "mine ltL") | omega | fail)
  k_with "mine all" => (first | with_reducible assumption | exact all_ne (by with_reducible assumption) (by k_extra "mine sub") | fail)
  k_with "mine free" => (intro yy; intros; repeat (first | with_reducible exact rfl | with_reducible exact forget_off (by with_reducible assumption) | (refine' Eq.trans (if_neg ?fnC) ?_; (case fnC => first | with_reducible assumption | exact ne_free (by with_reducible assumption) (by kernel_rfl))) | exact rfl))
  k_with "evalPairs" => (k_here; dsimp only)
  k_with "Exists" => (k_here; dsimp only)
  k_with "execs cons" => (k_here; refine' nx_start ?_; intro tkz htkz; (try dsimp only at htkz))
  k_with "Nx" => ((try dsimp only); (first | (with_reducible refine' nx_cons0 ?_; intro tkz htkz) | (with_reducible refine' nx_cons ?_; intro tkz htl htkz) | ((first | with_reducible refine' nx_nil0 ?_ | with_reducible refine' nx_ret0 ?_ | with_reducible refine' nx_open0 ?_); (try dsimp only)) | ((first | with_reducible refine' nx_nil ?_ | with_reducible refine' nx_ret ?_ | with_reducible refine' nx_open ?_ | with_reducible refine' nx_brk ?_ | with_reducible refine' nx_cont ?_); intro htl; (try dsimp only at htl); (try dsimp only))))
  k_with "execs nil" => (k_here; (refine wpAny_execs_nil ?_); (try dsimp only))
  k_with "newList" => (k_here; k_dflt (refine' new_lst ?nlF ?nlN ?nlz ?_; (case nlF => k_asm); (case nlN => k_asm); (case nlz => rfl); k_whole); intro d' h' F' N' l1; (try k_sweep))
  k_with "newTuple" => (k_here; k_dflt (refine' new_tup ?nlF ?nlN ?nlz ?_; (case nlF => k_asm); (case nlN => k_asm); (case nlz => rfl); k_whole); intro d' h' F' N' l1; (try k_sweep))
  k_with "mine sub" => ((repeat (first | with_reducible exact sub_nil | with_reducible exact sub_app | with_reducible refine sub_cons ?_ | with_reducible refine sub_app' ?_)); done)
  k_with "mine end2" => ((case F => k_asm); (case N => k_asm); (case S => k_extra "mine sub"); (case P => (refine' lt_sub ?a ?b; (case a => with_reducible assumption); (case b => k_extra "mine sub"))); (case R => (refine' lt_sub ?a ?b; (case a => with_reducible assumption); (case b => k_extra "mine sub"))))
  unfold Ctr
  k_fill
  intro mean mg mb dp un gd cn cs a_ ccd cl outer A₀ base h₀ L m s Q E B F X N T hk hd hu hret
  refine wpAny_call ?_
  k_dflt ktr_enter
  k_with "TkLe" => (refine' tkle_intro ?_; intro htl; (try dsimp only at htl); (try dsimp only))
  k_with "LeaveK" => (k_dflt (refine' leaveK_ ?k1 ?k2 ?_; (case k1 => k_asm); (case k2 => k_asm); k_whole); intro kF kN; k_dflt (refine' ret0 hret kF kN ?g1 ⟨⟨_, rfl⟩, rfl⟩; (case g1 => k_extra "mine sub")))
  k_steps
theorem invI_c (w : World) (news : List (Addr × Obj)) (a : Int) (ta : Tok) :
  Ctr w 70 news [.int a ta] 1 8 (fun r tl => (∃ t, r = .int (Builtin.bitNot a) t) ∧ tl = []) := by
  k_with_none
  w_top off
  k_with "mine mem" => (first | (refine' mem_here ?_; ktr_member) | (refine' mem_appR ?_; k_mem) | (refine' mem_appL ?_; k_mem) | fail)
  k_with "mine ltL" => ((repeat (first | with_reducible exact lt_up0 | with_reducible refine lt_up ?_)); done)
  k_with "mine tk2" => (first | with_reducible assumption | with_reducible exact le_one | with_reducible exact Nat.le_refl _ | with_reducible exact Nat.succ_le_of_lt (by with_reducible assumption) | (with_reducible refine le_up ?_; k_extra "mine tk2") | (with_reducible refine le_chain (by with_reducible assumption) ?_; k_extra "mine tk2"))
  k_with "mine tk1" => ((try dsimp only); k_extra "mine tk2")
  k_with "mine size" => (first | (refine' sz_arr ?szA ?szB; (case szA => with_reducible assumption); (case szB => rfl)) | (refine' sz_line ?szA ?szB; (case szA => with_reducible assumption); (case szB => rfl)) | exact Nat.le_of_ble_eq_true rfl | fail)
  k_with "mine room" => ((first | k_dflt refine' rm2 ?rmA ?rmB | k_dflt refine' rm1 ?rmA ?rmB | k_dflt refine' rm0 ?rmA); (case rmA => k_dflt assumption); (try (case rmB => rfl)))
  k_with "mine ne" => (refine neN ?_; (try dsimp only); first | exact ne_all (by with_reducible assumption) (by k_mem) | exact ne_all' (by with_reducible assumption) (by k_mem) | with_reducible assumption | exact Ne.symm (by with_reducible assumption) | exact ne_gt (by k_extra "mine ltL") | exact ne_lt (by k_extra "mine ltL") | exact ne_gt (by with_reducible assumption) | exact ne_lt (by with_reducible assumption) | exact ne_far (by with_reducible assumption) (by k_extra "mine ltL") | exact ne_far' (by with_reducible assumption) (by k_extra "mine ltL") | omega | fail)
  k_with "mine all" => (first | with_reducible assumption | exact all_ne (by with_reducible assumption) (by k_extra "mine sub") | fail)
  k_with "mine free" => (intro yy; intros; repeat (first | with_reducible exact rfl | with_reducible exact forget_off (by with_reducible assumption) | (refine' Eq.trans (if_neg ?fnC) ?_; (case fnC => first | with_reducible assumption | exact ne_free (by with_reducible assumption) (by kernel_rfl))) | exact rfl))
  k_with "evalPairs" => (k_here; dsimp only)
  k_with "Exists" => (k_here; dsimp only)
  k_with "execs cons" => (k_here; refine' nx_start ?_; intro tkz htkz; (try dsimp only at htkz))
  k_with "Nx" => ((try dsimp only); (first | (with_reducible refine' nx_cons0 ?_; intro tkz htkz) | (with_reducible refine' nx_cons ?_; intro tkz htl htkz) | ((first | with_reducible refine' nx_nil0 ?_ | with_reducible refine' nx_ret0 ?_ | with_reducible refine' nx_open0 ?_); (try dsimp only)) | ((first | with_reducible refine' nx_nil ?_ | with_reducible refine' nx_ret ?_ | with_reducible refine' nx_open ?_ | with_reducible refine' nx_brk ?_ | with_reducible refine' nx_cont ?_); intro htl; (try dsimp only at htl); (try dsimp only))))
  k_with "execs nil" => (k_here; (refine wpAny_execs_nil ?_); (try dsimp only))
  k_with "newList" => (k_here; k_dflt (refine' new_lst ?nlF ?nlN ?nlz ?_; (case nlF => k_asm); (case nlN => k_asm); (case nlz => rfl); k_whole); intro d' h' F' N' l1; (try k_sweep))
  k_with "newTuple" => (k_here; k_dflt (refine' new_tup ?nlF ?nlN ?nlz ?_; (case nlF => k_asm); (case nlN => k_asm); (case nlz => rfl); k_whole); intro d' h' F' N' l1; (try k_sweep))
  k_with "mine sub" => ((repeat (first | with_reducible exact sub_nil | with_reducible exact sub_app | with_reducible refine sub_cons ?_ | with_reducible refine sub_app' ?_)); done)
  k_with "mine end2" => ((case F => k_asm); (case N => k_asm); (case S => k_extra "mine sub"); (case P => (refine' lt_sub ?a ?b; (case a => with_reducible assumption); (case b => k_extra "mine sub"))); (case R => (refine' lt_sub ?a ?b; (case a => with_reducible assumption); (case b => k_extra "mine sub"))))
  unfold Ctr
  k_fill
  intro mean mg mb dp un gd cn cs a_ ccd cl outer A₀ base h₀ L m s Q E B F X N T hk hd hu hret
  refine wpAny_call ?_
  k_dflt ktr_enter
  k_with "TkLe" => (refine' tkle_intro ?_; intro htl; (try dsimp only at htl); (try dsimp only))
  k_with "LeaveK" => (k_dflt (refine' leaveK_ ?k1 ?k2 ?_; (case k1 => k_asm); (case k2 => k_asm); k_whole); intro kF kN; k_dflt (refine' ret0 hret kF kN ?g1 ⟨⟨_, rfl⟩, rfl⟩; (case g1 => k_extra "mine sub")))
  k_steps
theorem notI_c (w : World) (news : List (Addr × Obj)) (a : Int) (ta : Tok) :
  Ctr w 56 news [.int a ta] 1 8 (fun r tl => (r = .bool (!(a != 0))) ∧ tl = []) := by
  k_with_none
  w_top off
  k_with "mine mem" => (first | (refine' mem_here ?_; ktr_member) | (refine' mem_appR ?_; k_mem) | (refine' mem_appL ?_; k_mem) | fail)
  k_with "mine ltL" => ((repeat (first | with_reducible exact lt_up0 | with_reducible refine lt_up ?_)); done)
  k_with "mine tk2" => (first | with_reducible assumption | with_reducible exact le_one | with_reducible exact Nat.le_refl _ | with_reducible exact Nat.succ_le_of_lt (by with_reducible assumption) | (with_reducible refine le_up ?_; k_extra "mine tk2") | (with_reducible refine le_chain (by with_reducible assumption) ?_; k_extra "mine tk2"))
  k_with "mine tk1" => ((try dsimp only); k_extra "mine tk2")
  k_with "mine size" => (first | (refine' sz_arr ?szA ?szB; (case szA => with_reducible assumption); (case szB => rfl)) | (refine' sz_line ?szA ?szB; (case szA => with_reducible assumption); (case szB => rfl)) | exact Nat.le_of_ble_eq_true rfl | fail)
  k_with "mine room" => ((first | k_dflt refine' rm2 ?rmA ?rmB | k_dflt refine' rm1 ?rmA ?rmB | k_dflt refine' rm0 ?rmA); (case rmA => k_dflt assumption); (try (case rmB => rfl)))
  k_with "mine ne" => (refine neN ?_; (try dsimp only); first | exact ne_all (by with_reducible assumption) (by k_mem) | exact ne_all' (by with_reducible assumption) (by k_mem) | with_reducible assumption | exact Ne.symm (by with_reducible assumption) | exact ne_gt (by k_extra "mine ltL") | exact ne_lt (by k_extra "mine ltL") | exact ne_gt (by with_reducible assumption) | exact ne_lt (by with_reducible assumption) | exact ne_far (by with_reducible assumption) (by k_extra "mine ltL") | exact ne_far' (by with_reducible assumption) (by k_extra "mine ltL") | omega | fail)
  k_with "mine all" => (first | with_reducible assumption | exact all_ne (by with_reducible assumption) (by k_extra "mine sub") | fail)
  k_with "mine free" => (intro yy; intros; repeat (first | with_reducible exact rfl | with_reducible exact forget_off (by with_reducible assumption) | (refine' Eq.trans (if_neg ?fnC) ?_; (case fnC => first | with_reducible assumption | exact ne_free (by with_reducible assumption) (by kernel_rfl))) | exact rfl))
  k_with "evalPairs" => (k_here; dsimp only)
  k_with "Exists" => (k_here; dsimp only)
  k_with "execs cons" => (k_here; refine' nx_start ?_; intro tkz htkz; (try dsimp only at htkz))
  k_with "Nx" => ((try dsimp only); (first | (with_reducible refine' nx_cons0 ?_; intro tkz htkz) | (with_reducible refine' nx_cons ?_; intro tkz htl htkz) | ((first | with_reducible refine' nx_nil0 ?_ | with_reducible refine' nx_ret0 ?_ | with_reducible refine' nx_open0 ?_); (try dsimp only)) | ((first | with_reducible refine' nx_nil ?_ | with_reducible refine' nx_ret ?_ | with_reducible refine' nx_open ?_ | with_reducible refine' nx_brk ?_ | with_reducible refine' nx_cont ?_); intro htl; (try dsimp only at htl); (try dsimp only))))
  k_with "execs nil" => (k_here; (refine wpAny_execs_nil ?_); (try dsimp only))
  k_with "newList" => (k_here; k_dflt (refine' new_lst ?nlF ?nlN ?nlz ?_; (case nlF => k_asm); (case nlN => k_asm); (case nlz => rfl); k_whole); intro d' h' F' N' l1; (try k_sweep))
  k_with "newTuple" => (k_here; k_dflt (refine' new_tup ?nlF ?nlN ?nlz ?_; (case nlF => k_asm); (case nlN => k_asm); (case nlz => rfl); k_whole); intro d' h' F' N' l1; (try k_sweep))
  k_with "mine sub" => ((repeat (first | with_reducible exact sub_nil | with_reducible exact sub_app | with_reducible refine sub_cons ?_ | with_reducible refine sub_app' ?_)); done)
  k_with "mine end2" => ((case F => k_asm); (case N => k_asm); (case S => k_extra "mine sub"); (case P => (refine' lt_sub ?a ?b; (case a => with_reducible assumption); (case b => k_extra "mine sub"))); (case R => (refine' lt_sub ?a ?b; (case a => with_reducible assumption); (case b => k_extra "mine sub"))))
  unfold Ctr
  k_fill
  intro mean mg mb dp un gd cn cs a_ ccd cl outer A₀ base h₀ L m s Q E B F X N T hk hd hu hret
  refine wpAny_call ?_
  k_dflt ktr_enter
  k_with "TkLe" => (refine' tkle_intro ?_; intro htl; (try dsimp only at htl); (try dsimp only))
  k_with "LeaveK" => (k_dflt (refine' leaveK_ ?k1 ?k2 ?_; (case k1 => k_asm); (case k2 => k_asm); k_whole); intro kF kN; k_dflt (refine' ret0 hret kF kN ?g1 ⟨rfl, rfl⟩; (case g1 => k_extra "mine sub")))
  k_steps
theorem isnt_c (w : World) (news : List (Addr × Obj)) (a : Int) (ta : Tok) :
  Ctr w 122 news [.int a ta] 1 8 (fun r tl => (r = .bool (decide (a ≥ 256))) ∧ tl = []) := by
  k_with_none
  w_top off
  k_with "mine mem" => (first | (refine' mem_here ?_; ktr_member) | (refine' mem_appR ?_; k_mem) | (refine' mem_appL ?_; k_mem) | fail)
  k_with "mine ltL" => ((repeat (first | with_reducible exact lt_up0 | with_reducible refine lt_up ?_)); done)
  k_with "mine tk2" => (first | with_reducible assumption | with_reducible exact le_one | with_reducible exact Nat.le_refl _ | with_reducible exact Nat.succ_le_of_lt (by with_reducible assumption) | (with_reducible refine le_up ?_; k_extra "mine tk2") | (with_reducible refine le_chain (by with_reducible assumption) ?_; k_extra "mine tk2"))
  k_with "mine tk1" => ((try dsimp only); k_extra "mine tk2")
  k_with "mine size" => (first | (refine' sz_arr ?szA ?szB; (case szA => with_reducible assumption); (case szB => rfl)) | (refine' sz_line ?szA ?szB; (case szA => with_reducible assumption); (case szB => rfl)) | exact Nat.le_of_ble_eq_true rfl | fail)
  k_with "mine room" => ((first | k_dflt refine' rm2 ?rmA ?rmB | k_dflt refine' rm1 ?rmA ?rmB | k_dflt refine' rm0 ?rmA); (case rmA => k_dflt assumption); (try (case rmB => rfl)))
  k_with "mine ne" => (refine neN ?_; (try dsimp only); first | exact ne_all (by with_reducible assumption) (by k_mem) | exact ne_all' (by with_reducible assumption) (by k_mem) | with_reducible assumption | exact Ne.symm (by with_reducible assumption) | exact ne_gt (by k_extra "mine ltL") | exact ne_lt (by k_extra "mine ltL") | exact ne_gt (by with_reducible assumption) | exact ne_lt (by with_reducible assumption) | exact ne_far (by with_reducible assumption) (by k_extra "mine ltL") | exact ne_far' (by with_reducible assumption) (by k_extra "mine ltL") | omega | fail)
  k_with "mine all" => (first | with_reducible assumption | exact all_ne (by with_reducible assumption) (by k_extra "mine sub") | fail)
  k_with "mine free" => (intro yy; intros; repeat (first | with_reducible exact rfl | with_reducible exact forget_off (by with_reducible assumption) | (refine' Eq.trans (if_neg ?fnC) ?_; (case fnC => first | with_reducible assumption | exact ne_free (by with_reducible assumption) (by kernel_rfl))) | exact rfl))
  k_with "evalPairs" => (k_here; dsimp only)
  k_with "Exists" => (k_here; dsimp only)
  k_with "execs cons" => (k_here; refine' nx_start ?_; intro tkz htkz; (try dsimp only at htkz))
  k_with "Nx" => ((try dsimp only); (first | (with_reducible refine' nx_cons0 ?_; intro tkz htkz) | (with_reducible refine' nx_cons ?_; intro tkz htl htkz) | ((first | with_reducible refine' nx_nil0 ?_ | with_reducible refine' nx_ret0 ?_ | with_reducible refine' nx_open0 ?_); (try dsimp only)) | ((first | with_reducible refine' nx_nil ?_ | with_reducible refine' nx_ret ?_ | with_reducible refine' nx_open ?_ | with_reducible refine' nx_brk ?_ | with_reducible refine' nx_cont ?_); intro htl; (try dsimp only at htl); (try dsimp only))))
  k_with "execs nil" => (k_here; (refine wpAny_execs_nil ?_); (try dsimp only))
  k_with "newList" => (k_here; k_dflt (refine' new_lst ?nlF ?nlN ?nlz ?_; (case nlF => k_asm); (case nlN => k_asm); (case nlz => rfl); k_whole); intro d' h' F' N' l1; (try k_sweep))
  k_with "newTuple" => (k_here; k_dflt (refine' new_tup ?nlF ?nlN ?nlz ?_; (case nlF => k_asm); (case nlN => k_asm); (case nlz => rfl); k_whole); intro d' h' F' N' l1; (try k_sweep))
  k_with "mine sub" => ((repeat (first | with_reducible exact sub_nil | with_reducible exact sub_app | with_reducible refine sub_cons ?_ | with_reducible refine sub_app' ?_)); done)
  k_with "mine end2" => ((case F => k_asm); (case N => k_asm); (case S => k_extra "mine sub"); (case P => (refine' lt_sub ?a ?b; (case a => with_reducible assumption); (case b => k_extra "mine sub"))); (case R => (refine' lt_sub ?a ?b; (case a => with_reducible assumption); (case b => k_extra "mine sub"))))
  unfold Ctr
  k_fill
  intro mean mg mb dp un gd cn cs a_ ccd cl outer A₀ base h₀ L m s Q E B F X N T hk hd hu hret
  refine wpAny_call ?_
  k_dflt ktr_enter
  k_with "TkLe" => (refine' tkle_intro ?_; intro htl; (try dsimp only at htl); (try dsimp only))
  k_with "LeaveK" => (k_dflt (refine' leaveK_ ?k1 ?k2 ?_; (case k1 => k_asm); (case k2 => k_asm); k_whole); intro kF kN; k_dflt (refine' ret0 hret kF kN ?g1 ⟨rfl, rfl⟩; (case g1 => k_extra "mine sub")))
  k_steps
theorem iseof_c (w : World) (news : List (Addr × Obj)) (a : Int) (ta : Tok) :
  Ctr w 129 news [.int a ta] 1 8 (fun r tl => (r = .bool (a == 0)) ∧ tl = []) := by
  k_with_none
  w_top off
  k_with "mine mem" => (first | (refine' mem_here ?_; ktr_member) | (refine' mem_appR ?_; k_mem) | (refine' mem_appL ?_; k_mem) | fail)
  k_with "mine ltL" => ((repeat (first | with_reducible exact lt_up0 | with_reducible refine lt_up ?_)); done)
  k_with "mine tk2" => (first | with_reducible assumption | with_reducible exact le_one | with_reducible exact Nat.le_refl _ | with_reducible exact Nat.succ_le_of_lt (by with_reducible assumption) | (with_reducible refine le_up ?_; k_extra "mine tk2") | (with_reducible refine le_chain (by with_reducible assumption) ?_; k_extra "mine tk2"))
  k_with "mine tk1" => ((try dsimp only); k_extra "mine tk2")
  k_with "mine size" => (first | (refine' sz_arr ?szA ?szB; (case szA => with_reducible assumption); (case szB => rfl)) | (refine' sz_line ?szA ?szB; (case szA => with_reducible assumption); (case szB => rfl)) | exact Nat.le_of_ble_eq_true rfl | fail)
  k_with "mine room" => ((first | k_dflt refine' rm2 ?rmA ?rmB | k_dflt refine' rm1 ?rmA ?rmB | k_dflt refine' rm0 ?rmA); (case rmA => k_dflt assumption); (try (case rmB => rfl)))
  k_with "mine ne" => (refine neN ?_; (try dsimp only); first | exact ne_all (by with_reducible assumption) (by k_mem) | exact ne_all' (by with_reducible assumption) (by k_mem) | with_reducible assumption | exact Ne.symm (by with_reducible assumption) | exact ne_gt (by k_extra "mine ltL") | exact ne_lt (by k_extra "mine ltL") | exact ne_gt (by with_reducible assumption) | exact ne_lt (by with_reducible assumption) | exact ne_far (by with_reducible assumption) (by k_extra "mine ltL") | exact ne_far' (by with_reducible assumption) (by k_extra "mine ltL") | omega | fail)
  k_with "mine all" => (first | with_reducible assumption | exact all_ne (by with_reducible assumption) (by k_extra "mine sub") | fail)
  k_with "mine free" => (intro yy; intros; repeat (first | with_reducible exact rfl | with_reducible exact forget_off (by with_reducible assumption) | (refine' Eq.trans (if_neg ?fnC) ?_; (case fnC => first | with_reducible assumption | exact ne_free (by with_reducible assumption) (by kernel_rfl))) | exact rfl))
  k_with "evalPairs" => (k_here; dsimp only)
  k_with "Exists" => (k_here; dsimp only)
  k_with "execs cons" => (k_here; refine' nx_start ?_; intro tkz htkz; (try dsimp only at htkz))
  k_with "Nx" => ((try dsimp only); (first | (with_reducible refine' nx_cons0 ?_; intro tkz htkz) | (with_reducible refine' nx_cons ?_; intro tkz htl htkz) | ((first | with_reducible refine' nx_nil0 ?_ | with_reducible refine' nx_ret0 ?_ | with_reducible refine' nx_open0 ?_); (try dsimp only)) | ((first | with_reducible refine' nx_nil ?_ | with_reducible refine' nx_ret ?_ | with_reducible refine' nx_open ?_ | with_reducible refine' nx_brk ?_ | with_reducible refine' nx_cont ?_); intro htl; (try dsimp only at htl); (try dsimp only))))
  k_with "execs nil" => (k_here; (refine wpAny_execs_nil ?_); (try dsimp only))
  k_with "newList" => (k_here; k_dflt (refine' new_lst ?nlF ?nlN ?nlz ?_; (case nlF => k_asm); (case nlN => k_asm); (case nlz => rfl); k_whole); intro d' h' F' N' l1; (try k_sweep))
  k_with "newTuple" => (k_here; k_dflt (refine' new_tup ?nlF ?nlN ?nlz ?_; (case nlF => k_asm); (case nlN => k_asm); (case nlz => rfl); k_whole); intro d' h' F' N' l1; (try k_sweep))
  k_with "mine sub" => ((repeat (first | with_reducible exact sub_nil | with_reducible exact sub_app | with_reducible refine sub_cons ?_ | with_reducible refine sub_app' ?_)); done)
  k_with "mine end2" => ((case F => k_asm); (case N => k_asm); (case S => k_extra "mine sub"); (case P => (refine' lt_sub ?a ?b; (case a => with_reducible assumption); (case b => k_extra "mine sub"))); (case R => (refine' lt_sub ?a ?b; (case a => with_reducible assumption); (case b => k_extra "mine sub"))))
  unfold Ctr
  k_fill
  intro mean mg mb dp un gd cn cs a_ ccd cl outer A₀ base h₀ L m s Q E B F X N T hk hd hu hret
  refine wpAny_call ?_
  k_dflt ktr_enter
  k_with "TkLe" => (refine' tkle_intro ?_; intro htl; (try dsimp only at htl); (try dsimp only))
  k_with "LeaveK" => (k_dflt (refine' leaveK_ ?k1 ?k2 ?_; (case k1 => k_asm); (case k2 => k_asm); k_whole); intro kF kN; k_dflt (refine' ret0 hret kF kN ?g1 ⟨rfl, rfl⟩; (case g1 => k_extra "mine sub")))
  k_steps
theorem shl_c (w : World) (news : List (Addr × Obj)) (a b : Int) (ta tb : Tok) (h0 : 0 ≤ b) (h1 : b < 5) (ha : 0 ≤ a ∧ a < 65536) :
  Ctr w 77 news [.int a ta, .int b tb] 1 8 (fun r tl => (∃ t, r = .int (a * 2 ^ b.toNat) t) ∧ tl = []) := by
  k_with_none
  w_top off
  k_with "mine mem" => (first | (refine' mem_here ?_; ktr_member) | (refine' mem_appR ?_; k_mem) | (refine' mem_appL ?_; k_mem) | fail)
  k_with "mine ltL" => ((repeat (first | with_reducible exact lt_up0 | with_reducible refine lt_up ?_)); done)
  k_with "mine tk2" => (first | with_reducible assumption | with_reducible exact le_one | with_reducible exact Nat.le_refl _ | with_reducible exact Nat.succ_le_of_lt (by with_reducible assumption) | (with_reducible refine le_up ?_; k_extra "mine tk2") | (with_reducible refine le_chain (by with_reducible assumption) ?_; k_extra "mine tk2"))
  k_with "mine tk1" => ((try dsimp only); k_extra "mine tk2")
  k_with "mine size" => (first | (refine' sz_arr ?szA ?szB; (case szA => with_reducible assumption); (case szB => rfl)) | (refine' sz_line ?szA ?szB; (case szA => with_reducible assumption); (case szB => rfl)) | exact Nat.le_of_ble_eq_true rfl | fail)
  k_with "mine room" => ((first | k_dflt refine' rm2 ?rmA ?rmB | k_dflt refine' rm1 ?rmA ?rmB | k_dflt refine' rm0 ?rmA); (case rmA => k_dflt assumption); (try (case rmB => rfl)))
  k_with "mine ne" => (refine neN ?_; (try dsimp only); first | exact ne_all (by with_reducible assumption) (by k_mem) | exact ne_all' (by with_reducible assumption) (by k_mem) | with_reducible assumption | exact Ne.symm (by with_reducible assumption) | exact ne_gt (by k_extra "mine ltL") | exact ne_lt (by k_extra "mine ltL") | exact ne_gt (by with_reducible assumption) | exact ne_lt (by with_reducible assumption) | exact ne_far (by with_reducible assumption) (by k_extra "mine ltL") | exact ne_far' (by with_reducible assumption) (by k_extra "mine ltL") | omega | fail)
  k_with "mine all" => (first | with_reducible assumption | exact all_ne (by with_reducible assumption) (by k_extra "mine sub") | fail)
  k_with "mine free" => (intro yy; intros; repeat (first | with_reducible exact rfl | with_reducible exact forget_off (by with_reducible assumption) | (refine' Eq.trans (if_neg ?fnC) ?_; (case fnC => first | with_reducible assumption | exact ne_free (by with_reducible assumption) (by kernel_rfl))) | exact rfl))
  k_with "evalPairs" => (k_here; dsimp only)
  k_with "Exists" => (k_here; dsimp only)
  k_with "execs cons" => (k_here; refine' nx_start ?_; intro tkz htkz; (try dsimp only at htkz))
  k_with "Nx" => ((try dsimp only); (first | (with_reducible refine' nx_cons0 ?_; intro tkz htkz) | (with_reducible refine' nx_cons ?_; intro tkz htl htkz) | ((first | with_reducible refine' nx_nil0 ?_ | with_reducible refine' nx_ret0 ?_ | with_reducible refine' nx_open0 ?_); (try dsimp only)) | ((first | with_reducible refine' nx_nil ?_ | with_reducible refine' nx_ret ?_ | with_reducible refine' nx_open ?_ | with_reducible refine' nx_brk ?_ | with_reducible refine' nx_cont ?_); intro htl; (try dsimp only at htl); (try dsimp only))))
  k_with "execs nil" => (k_here; (refine wpAny_execs_nil ?_); (try dsimp only))
  k_with "newList" => (k_here; k_dflt (refine' new_lst ?nlF ?nlN ?nlz ?_; (case nlF => k_asm); (case nlN => k_asm); (case nlz => rfl); k_whole); intro d' h' F' N' l1; (try k_sweep))
  k_with "newTuple" => (k_here; k_dflt (refine' new_tup ?nlF ?nlN ?nlz ?_; (case nlF => k_asm); (case nlN => k_asm); (case nlz => rfl); k_whole); intro d' h' F' N' l1; (try k_sweep))
  k_with "mine sub" => ((repeat (first | with_reducible exact sub_nil | with_reducible exact sub_app | with_reducible refine sub_cons ?_ | with_reducible refine sub_app' ?_)); done)
  k_with "mine end2" => ((case F => k_asm); (case N => k_asm); (case S => k_extra "mine sub"); (case P => (refine' lt_sub ?a ?b; (case a => with_reducible assumption); (case b => k_extra "mine sub"))); (case R => (refine' lt_sub ?a ?b; (case a => with_reducible assumption); (case b => k_extra "mine sub"))))
  unfold Ctr
  k_fill
  intro mean mg mb dp un gd cn cs a_ ccd cl outer A₀ base h₀ L m s Q E B F X N T hk hd hu hret
  refine wpAny_call ?_
  k_dflt ktr_enter
  k_with "TkLe" => (refine' tkle_intro ?_; intro htl; (try dsimp only at htl); (try dsimp only))
  k_with "LeaveK" => (k_dflt (refine' leaveK_ ?k1 ?k2 ?_; (case k1 => k_asm); (case k2 => k_asm); k_whole); intro kF kN; k_dflt (refine' ret0 hret kF kN ?g1 ⟨⟨_, rfl⟩, rfl⟩; (case g1 => k_extra "mine sub")))
  k_steps
theorem shr_c (w : World) (news : List (Addr × Obj)) (a b : Int) (ta tb : Tok) (h0 : 0 ≤ b) (h1 : b < 5) :
  Ctr w 91 news [.int a ta, .int b tb] 1 8 (fun r tl => (∃ t, r = .int (a.fdiv (2 ^ b.toNat)) t) ∧ tl = []) := by
  k_with_none
  w_top off
  k_with "mine mem" => (first | (refine' mem_here ?_; ktr_member) | (refine' mem_appR ?_; k_mem) | (refine' mem_appL ?_; k_mem) | fail)
  k_with "mine ltL" => ((repeat (first | with_reducible exact lt_up0 | with_reducible refine lt_up ?_)); done)
  k_with "mine tk2" => (first | with_reducible assumption | with_reducible exact le_one | with_reducible exact Nat.le_refl _ | with_reducible exact Nat.succ_le_of_lt (by with_reducible assumption) | (with_reducible refine le_up ?_; k_extra "mine tk2") | (with_reducible refine le_chain (by with_reducible assumption) ?_; k_extra "mine tk2"))
  k_with "mine tk1" => ((try dsimp only); k_extra "mine tk2")
  k_with "mine size" => (first | (refine' sz_arr ?szA ?szB; (case szA => with_reducible assumption); (case szB => rfl)) | (refine' sz_line ?szA ?szB; (case szA => with_reducible assumption); (case szB => rfl)) | exact Nat.le_of_ble_eq_true rfl | fail)
  k_with "mine room" => ((first | k_dflt refine' rm2 ?rmA ?rmB | k_dflt refine' rm1 ?rmA ?rmB | k_dflt refine' rm0 ?rmA); (case rmA => k_dflt assumption); (try (case rmB => rfl)))
  k_with "mine ne" => (refine neN ?_; (try dsimp only); first | exact ne_all (by with_reducible assumption) (by k_mem) | exact ne_all' (by with_reducible assumption) (by k_mem) | with_reducible assumption | exact Ne.symm (by with_reducible assumption) | exact ne_gt (by k_extra "mine ltL") | exact ne_lt (by k_extra "mine ltL") | exact ne_gt (by with_reducible assumption) | exact ne_lt (by with_reducible assumption) | exact ne_far (by with_reducible assumption) (by k_extra "mine ltL") | exact ne_far' (by with_reducible assumption) (by k_extra "mine ltL") | omega | fail)
  k_with "mine all" => (first | with_reducible assumption | exact all_ne (by with_reducible assumption) (by k_extra "mine sub") | fail)
  k_with "mine free" => (intro yy; intros; repeat (first | with_reducible exact rfl | with_reducible exact forget_off (by with_reducible assumption) | (refine' Eq.trans (if_neg ?fnC) ?_; (case fnC => first | with_reducible assumption | exact ne_free (by with_reducible assumption) (by kernel_rfl))) | exact rfl))
  k_with "evalPairs" => (k_here; dsimp only)
  k_with "Exists" => (k_here; dsimp only)
  k_with "execs cons" => (k_here; refine' nx_start ?_; intro tkz htkz; (try dsimp only at htkz))
  k_with "Nx" => ((try dsimp only); (first | (with_reducible refine' nx_cons0 ?_; intro tkz htkz) | (with_reducible refine' nx_cons ?_; intro tkz htl htkz) | ((first | with_reducible refine' nx_nil0 ?_ | with_reducible refine' nx_ret0 ?_ | with_reducible refine' nx_open0 ?_); (try dsimp only)) | ((first | with_reducible refine' nx_nil ?_ | with_reducible refine' nx_ret ?_ | with_reducible refine' nx_open ?_ | with_reducible refine' nx_brk ?_ | with_reducible refine' nx_cont ?_); intro htl; (try dsimp only at htl); (try dsimp only))))
  k_with "execs nil" => (k_here; (refine wpAny_execs_nil ?_); (try dsimp only))
  k_with "newList" => (k_here; k_dflt (refine' new_lst ?nlF ?nlN ?nlz ?_; (case nlF => k_asm); (case nlN => k_asm); (case nlz => rfl); k_whole); intro d' h' F' N' l1; (try k_sweep))
  k_with "newTuple" => (k_here; k_dflt (refine' new_tup ?nlF ?nlN ?nlz ?_; (case nlF => k_asm); (case nlN => k_asm); (case nlz => rfl); k_whole); intro d' h' F' N' l1; (try k_sweep))
  k_with "mine sub" => ((repeat (first | with_reducible exact sub_nil | with_reducible exact sub_app | with_reducible refine sub_cons ?_ | with_reducible refine sub_app' ?_)); done)
  k_with "mine end2" => ((case F => k_asm); (case N => k_asm); (case S => k_extra "mine sub"); (case P => (refine' lt_sub ?a ?b; (case a => with_reducible assumption); (case b => k_extra "mine sub"))); (case R => (refine' lt_sub ?a ?b; (case a => with_reducible assumption); (case b => k_extra "mine sub"))))
  unfold Ctr
  k_fill
  intro mean mg mb dp un gd cn cs a_ ccd cl outer A₀ base h₀ L m s Q E B F X N T hk hd hu hret
  refine wpAny_call ?_
  k_dflt ktr_enter
  k_with "TkLe" => (refine' tkle_intro ?_; intro htl; (try dsimp only at htl); (try dsimp only))
  k_with "LeaveK" => (k_dflt (refine' leaveK_ ?k1 ?k2 ?_; (case k1 => k_asm); (case k2 => k_asm); k_whole); intro kF kN; k_dflt (refine' ret0 hret kF kN ?g1 ⟨⟨_, rfl⟩, rfl⟩; (case g1 => k_extra "mine sub")))
  k_steps
theorem andB_c (w : World) (news : List (Addr × Obj)) (a b : Bool) :
  Ctr w 63 news [.bool a, .bool b] 1 8 (fun r tl => (r = .bool (a && b)) ∧ tl = []) := by
  k_with_none
  w_top off
  k_with "mine mem" => (first | (refine' mem_here ?_; ktr_member) | (refine' mem_appR ?_; k_mem) | (refine' mem_appL ?_; k_mem) | fail)
  k_with "mine ltL" => ((repeat (first | with_reducible exact lt_up0 | with_reducible refine lt_up ?_)); done)
  k_with "mine tk2" => (first | with_reducible assumption | with_reducible exact le_one | with_reducible exact Nat.le_refl _ | with_reducible exact Nat.succ_le_of_lt (by with_reducible assumption) | (with_reducible refine le_up ?_; k_extra "mine tk2") | (with_reducible refine le_chain (by with_reducible assumption) ?_; k_extra "mine tk2"))
  k_with "mine tk1" => ((try dsimp only); k_extra "mine tk2")
  k_with "mine size" => (first | (refine' sz_arr ?szA ?szB; (case szA => with_reducible assumption); (case szB => rfl)) | (refine' sz_line ?szA ?szB; (case szA => with_reducible assumption); (case szB => rfl)) | exact Nat.le_of_ble_eq_true rfl | fail)
  k_with "mine room" => ((first | k_dflt refine' rm2 ?rmA ?rmB | k_dflt refine' rm1 ?rmA ?rmB | k_dflt refine' rm0 ?rmA); (case rmA => k_dflt assumption); (try (case rmB => rfl)))
  k_with "mine ne" => (refine neN ?_; (try dsimp only); first | exact ne_all (by with_reducible assumption) (by k_mem) | exact ne_all' (by with_reducible assumption) (by k_mem) | with_reducible assumption | exact Ne.symm (by with_reducible assumption) | exact ne_gt (by k_extra "mine ltL") | exact ne_lt (by k_extra "mine ltL") | exact ne_gt (by with_reducible assumption) | exact ne_lt (by with_reducible assumption) | exact ne_far (by with_reducible assumption) (by k_extra "mine ltL") | exact ne_far' (by with_reducible assumption) (by k_extra "mine ltL") | omega | fail)
  k_with "mine all" => (first | with_reducible assumption | exact all_ne (by with_reducible assumption) (by k_extra "mine sub") | fail)
  k_with "mine free" => (intro yy; intros; repeat (first | with_reducible exact rfl | with_reducible exact forget_off (by with_reducible assumption) | (refine' Eq.trans (if_neg ?fnC) ?_; (case fnC => first | with_reducible assumption | exact ne_free (by with_reducible assumption) (by kernel_rfl))) | exact rfl))
  k_with "evalPairs" => (k_here; dsimp only)
  k_with "Exists" => (k_here; dsimp only)
  k_with "execs cons" => (k_here; refine' nx_start ?_; intro tkz htkz; (try dsimp only at htkz))
  k_with "Nx" => ((try dsimp only); (first | (with_reducible refine' nx_cons0 ?_; intro tkz htkz) | (with_reducible refine' nx_cons ?_; intro tkz htl htkz) | ((first | with_reducible refine' nx_nil0 ?_ | with_reducible refine' nx_ret0 ?_ | with_reducible refine' nx_open0 ?_); (try dsimp only)) | ((first | with_reducible refine' nx_nil ?_ | with_reducible refine' nx_ret ?_ | with_reducible refine' nx_open ?_ | with_reducible refine' nx_brk ?_ | with_reducible refine' nx_cont ?_); intro htl; (try dsimp only at htl); (try dsimp only))))
  k_with "execs nil" => (k_here; (refine wpAny_execs_nil ?_); (try dsimp only))
  k_with "newList" => (k_here; k_dflt (refine' new_lst ?nlF ?nlN ?nlz ?_; (case nlF => k_asm); (case nlN => k_asm); (case nlz => rfl); k_whole); intro d' h' F' N' l1; (try k_sweep))
  k_with "newTuple" => (k_here; k_dflt (refine' new_tup ?nlF ?nlN ?nlz ?_; (case nlF => k_asm); (case nlN => k_asm); (case nlz => rfl); k_whole); intro d' h' F' N' l1; (try k_sweep))
  k_with "mine sub" => ((repeat (first | with_reducible exact sub_nil | with_reducible exact sub_app | with_reducible refine sub_cons ?_ | with_reducible refine sub_app' ?_)); done)
  k_with "mine end2" => ((case F => k_asm); (case N => k_asm); (case S => k_extra "mine sub"); (case P => (refine' lt_sub ?a ?b; (case a => with_reducible assumption); (case b => k_extra "mine sub"))); (case R => (refine' lt_sub ?a ?b; (case a => with_reducible assumption); (case b => k_extra "mine sub"))))
  unfold Ctr
  k_fill
  intro mean mg mb dp un gd cn cs a_ ccd cl outer A₀ base h₀ L m s Q E B F X N T hk hd hu hret
  refine wpAny_call ?_
  k_dflt ktr_enter
  k_with "TkLe" => (refine' tkle_intro ?_; intro htl; (try dsimp only at htl); (try dsimp only))
  k_with "LeaveK" => (k_dflt (refine' leaveK_ ?k1 ?k2 ?_; (case k1 => k_asm); (case k2 => k_asm); k_whole); intro kF kN; k_dflt (refine' ret0 hret kF kN ?g1 ⟨rfl, rfl⟩; (case g1 => k_extra "mine sub")))
  k_steps
theorem orB_c (w : World) (news : List (Addr × Obj)) (a b : Bool) :
  Ctr w 84 news [.bool a, .bool b] 1 8 (fun r tl => (r = .bool (a || b)) ∧ tl = []) := by
  k_with_none
  w_top off
  k_with "mine mem" => (first | (refine' mem_here ?_; ktr_member) | (refine' mem_appR ?_; k_mem) | (refine' mem_appL ?_; k_mem) | fail)
  k_with "mine ltL" => ((repeat (first | with_reducible exact lt_up0 | with_reducible refine lt_up ?_)); done)
  k_with "mine tk2" => (first | with_reducible assumption | with_reducible exact le_one | with_reducible exact Nat.le_refl _ | with_reducible exact Nat.succ_le_of_lt (by with_reducible assumption) | (with_reducible refine le_up ?_; k_extra "mine tk2") | (with_reducible refine le_chain (by with_reducible assumption) ?_; k_extra "mine tk2"))
  k_with "mine tk1" => ((try dsimp only); k_extra "mine tk2")
  k_with "mine size" => (first | (refine' sz_arr ?szA ?szB; (case szA => with_reducible assumption); (case szB => rfl)) | (refine' sz_line ?szA ?szB; (case szA => with_reducible assumption); (case szB => rfl)) | exact Nat.le_of_ble_eq_true rfl | fail)
  k_with "mine room" => ((first | k_dflt refine' rm2 ?rmA ?rmB | k_dflt refine' rm1 ?rmA ?rmB | k_dflt refine' rm0 ?rmA); (case rmA => k_dflt assumption); (try (case rmB => rfl)))
  k_with "mine ne" => (refine neN ?_; (try dsimp only); first | exact ne_all (by with_reducible assumption) (by k_mem) | exact ne_all' (by with_reducible assumption) (by k_mem) | with_reducible assumption | exact Ne.symm (by with_reducible assumption) | exact ne_gt (by k_extra "mine ltL") | exact ne_lt (by k_extra "mine ltL") | exact ne_gt (by with_reducible assumption) | exact ne_lt (by with_reducible assumption) | exact ne_far (by with_reducible assumption) (by k_extra "mine ltL") | exact ne_far' (by with_reducible assumption) (by k_extra "mine ltL") | omega | fail)
  k_with "mine all" => (first | with_reducible assumption | exact all_ne (by with_reducible assumption) (by k_extra "mine sub") | fail)
  k_with "mine free" => (intro yy; intros; repeat (first | with_reducible exact rfl | with_reducible exact forget_off (by with_reducible assumption) | (refine' Eq.trans (if_neg ?fnC) ?_; (case fnC => first | with_reducible assumption | exact ne_free (by with_reducible assumption) (by kernel_rfl))) | exact rfl))
  k_with "evalPairs" => (k_here; dsimp only)
  k_with "Exists" => (k_here; dsimp only)
  k_with "execs cons" => (k_here; refine' nx_start ?_; intro tkz htkz; (try dsimp only at htkz))
  k_with "Nx" => ((try dsimp only); (first | (with_reducible refine' nx_cons0 ?_; intro tkz htkz) | (with_reducible refine' nx_cons ?_; intro tkz htl htkz) | ((first | with_reducible refine' nx_nil0 ?_ | with_reducible refine' nx_ret0 ?_ | with_reducible refine' nx_open0 ?_); (try dsimp only)) | ((first | with_reducible refine' nx_nil ?_ | with_reducible refine' nx_ret ?_ | with_reducible refine' nx_open ?_ | with_reducible refine' nx_brk ?_ | with_reducible refine' nx_cont ?_); intro htl; (try dsimp only at htl); (try dsimp only))))
  k_with "execs nil" => (k_here; (refine wpAny_execs_nil ?_); (try dsimp only))
  k_with "newList" => (k_here; k_dflt (refine' new_lst ?nlF ?nlN ?nlz ?_; (case nlF => k_asm); (case nlN => k_asm); (case nlz => rfl); k_whole); intro d' h' F' N' l1; (try k_sweep))
  k_with "newTuple" => (k_here; k_dflt (refine' new_tup ?nlF ?nlN ?nlz ?_; (case nlF => k_asm); (case nlN => k_asm); (case nlz => rfl); k_whole); intro d' h' F' N' l1; (try k_sweep))
  k_with "mine sub" => ((repeat (first | with_reducible exact sub_nil | with_reducible exact sub_app | with_reducible refine sub_cons ?_ | with_reducible refine sub_app' ?_)); done)
  k_with "mine end2" => ((case F => k_asm); (case N => k_asm); (case S => k_extra "mine sub"); (case P => (refine' lt_sub ?a ?b; (case a => with_reducible assumption); (case b => k_extra "mine sub"))); (case R => (refine' lt_sub ?a ?b; (case a => with_reducible assumption); (case b => k_extra "mine sub"))))
  unfold Ctr
  k_fill
  intro mean mg mb dp un gd cn cs a_ ccd cl outer A₀ base h₀ L m s Q E B F X N T hk hd hu hret
  refine wpAny_call ?_
  k_dflt ktr_enter
  k_with "TkLe" => (refine' tkle_intro ?_; intro htl; (try dsimp only at htl); (try dsimp only))
  k_with "LeaveK" => (k_dflt (refine' leaveK_ ?k1 ?k2 ?_; (case k1 => k_asm); (case k2 => k_asm); k_whole); intro kF kN; k_dflt (refine' ret0 hret kF kN ?g1 ⟨rfl, rfl⟩; (case g1 => k_extra "mine sub")))
  k_steps
theorem xorB_c (w : World) (news : List (Addr × Obj)) (a b : Bool) :
  Ctr w 98 news [.bool a, .bool b] 1 8 (fun r tl => (r = .bool (a != b)) ∧ tl = []) := by
  k_with_none
  w_top off
  k_with "mine mem" => (first | (refine' mem_here ?_; ktr_member) | (refine' mem_appR ?_; k_mem) | (refine' mem_appL ?_; k_mem) | fail)
  k_with "mine ltL" => ((repeat (first | with_reducible exact lt_up0 | with_reducible refine lt_up ?_)); done)
  k_with "mine tk2" => (first | with_reducible assumption | with_reducible exact le_one | with_reducible exact Nat.le_refl _ | with_reducible exact Nat.succ_le_of_lt (by with_reducible assumption) | (with_reducible refine le_up ?_; k_extra "mine tk2") | (with_reducible refine le_chain (by with_reducible assumption) ?_; k_extra "mine tk2"))
  k_with "mine tk1" => ((try dsimp only); k_extra "mine tk2")
  k_with "mine size" => (first | (refine' sz_arr ?szA ?szB; (case szA => with_reducible assumption); (case szB => rfl)) | (refine' sz_line ?szA ?szB; (case szA => with_reducible assumption); (case szB => rfl)) | exact Nat.le_of_ble_eq_true rfl | fail)
  k_with "mine room" => ((first | k_dflt refine' rm2 ?rmA ?rmB | k_dflt refine' rm1 ?rmA ?rmB | k_dflt refine' rm0 ?rmA); (case rmA => k_dflt assumption); (try (case rmB => rfl)))
  k_with "mine ne" => (refine neN ?_; (try dsimp only); first | exact ne_all (by with_reducible assumption) (by k_mem) | exact ne_all' (by with_reducible assumption) (by k_mem) | with_reducible assumption | exact Ne.symm (by with_reducible assumption) | exact ne_gt (by k_extra "mine ltL") | exact ne_lt (by k_extra "mine ltL") | exact ne_gt (by with_reducible assumption) | exact ne_lt (by with_reducible assumption) | exact ne_far (by with_reducible assumption) (by k_extra "mine ltL") | exact ne_far' (by with_reducible assumption) (by k_extra "mine ltL") | omega | fail)
  k_with "mine all" => (first | with_reducible assumption | exact all_ne (by with_reducible assumption) (by k_extra "mine sub") | fail)
  k_with "mine free" => (intro yy; intros; repeat (first | with_reducible exact rfl | with_reducible exact forget_off (by with_reducible assumption) | (refine' Eq.trans (if_neg ?fnC) ?_; (case fnC => first | with_reducible assumption | exact ne_free (by with_reducible assumption) (by kernel_rfl))) | exact rfl))
  k_with "evalPairs" => (k_here; dsimp only)
  k_with "Exists" => (k_here; dsimp only)
  k_with "execs cons" => (k_here; refine' nx_start ?_; intro tkz htkz; (try dsimp only at htkz))
  k_with "Nx" => ((try dsimp only); (first | (with_reducible refine' nx_cons0 ?_; intro tkz htkz) | (with_reducible refine' nx_cons ?_; intro tkz htl htkz) | ((first | with_reducible refine' nx_nil0 ?_ | with_reducible refine' nx_ret0 ?_ | with_reducible refine' nx_open0 ?_); (try dsimp only)) | ((first | with_reducible refine' nx_nil ?_ | with_reducible refine' nx_ret ?_ | with_reducible refine' nx_open ?_ | with_reducible refine' nx_brk ?_ | with_reducible refine' nx_cont ?_); intro htl; (try dsimp only at htl); (try dsimp only))))
  k_with "execs nil" => (k_here; (refine wpAny_execs_nil ?_); (try dsimp only))
  k_with "newList" => (k_here; k_dflt (refine' new_lst ?nlF ?nlN ?nlz ?_; (case nlF => k_asm); (case nlN => k_asm); (case nlz => rfl); k_whole); intro d' h' F' N' l1; (try k_sweep))
  k_with "newTuple" => (k_here; k_dflt (refine' new_tup ?nlF ?nlN ?nlz ?_; (case nlF => k_asm); (case nlN => k_asm); (case nlz => rfl); k_whole); intro d' h' F' N' l1; (try k_sweep))
  k_with "mine sub" => ((repeat (first | with_reducible exact sub_nil | with_reducible exact sub_app | with_reducible refine sub_cons ?_ | with_reducible refine sub_app' ?_)); done)
  k_with "mine end2" => ((case F => k_asm); (case N => k_asm); (case S => k_extra "mine sub"); (case P => (refine' lt_sub ?a ?b; (case a => with_reducible assumption); (case b => k_extra "mine sub"))); (case R => (refine' lt_sub ?a ?b; (case a => with_reducible assumption); (case b => k_extra "mine sub"))))
  unfold Ctr
  k_fill
  intro mean mg mb dp un gd cn cs a_ ccd cl outer A₀ base h₀ L m s Q E B F X N T hk hd hu hret
  refine wpAny_call ?_
  k_dflt ktr_enter
  k_with "TkLe" => (refine' tkle_intro ?_; intro htl; (try dsimp only at htl); (try dsimp only))
  k_with "LeaveK" => (k_dflt (refine' leaveK_ ?k1 ?k2 ?_; (case k1 => k_asm); (case k2 => k_asm); k_whole); intro kF kN; k_dflt (refine' ret0 hret kF kN ?g1 ⟨rfl, rfl⟩; (case g1 => k_extra "mine sub")))
  k_steps
theorem eqB_c (w : World) (news : List (Addr × Obj)) (a b : Bool) :
  Ctr w 35 news [.bool a, .bool b] 1 8 (fun r tl => (r = .bool (a == b)) ∧ tl = []) := by
  k_with_none
  w_top off
  k_with "mine mem" => (first | (refine' mem_here ?_; ktr_member) | (refine' mem_appR ?_; k_mem) | (refine' mem_appL ?_; k_mem) | fail)
  k_with "mine ltL" => ((repeat (first | with_reducible exact lt_up0 | with_reducible refine lt_up ?_)); done)
  k_with "mine tk2" => (first | with_reducible assumption | with_reducible exact le_one | with_reducible exact Nat.le_refl _ | with_reducible exact Nat.succ_le_of_lt (by with_reducible assumption) | (with_reducible refine le_up ?_; k_extra "mine tk2") | (with_reducible refine le_chain (by with_reducible assumption) ?_; k_extra "mine tk2"))
  k_with "mine tk1" => ((try dsimp only); k_extra "mine tk2")
  k_with "mine size" => (first | (refine' sz_arr ?szA ?szB; (case szA => with_reducible assumption); (case szB => rfl)) | (refine' sz_line ?szA ?szB; (case szA => with_reducible assumption); (case szB => rfl)) | exact Nat.le_of_ble_eq_true rfl | fail)
  k_with "mine room" => ((first | k_dflt refine' rm2 ?rmA ?rmB | k_dflt refine' rm1 ?rmA ?rmB | k_dflt refine' rm0 ?rmA); (case rmA => k_dflt assumption); (try (case rmB => rfl)))
  k_with "mine ne" => (refine neN ?_; (try dsimp only); first | exact ne_all (by with_reducible assumption) (by k_mem) | exact ne_all' (by with_reducible assumption) (by k_mem) | with_reducible assumption | exact Ne.symm (by with_reducible assumption) | exact ne_gt (by k_extra "mine ltL") | exact ne_lt (by k_extra "mine ltL") | exact ne_gt (by with_reducible assumption) | exact ne_lt (by with_reducible assumption) | exact ne_far (by with_reducible assumption) (by k_extra "mine ltL") | exact ne_far' (by with_reducible assumption) (by k_extra "mine ltL") | omega | fail)
  k_with "mine all" => (first | with_reducible assumption | exact all_ne (by with_reducible assumption) (by k_extra "mine sub") | fail)
  k_with "mine free" => (intro yy; intros; repeat (first | with_reducible exact rfl | with_reducible exact forget_off (by with_reducible assumption) | (refine' Eq.trans (if_neg ?fnC) ?_; (case fnC => first | with_reducible assumption | exact ne_free (by with_reducible assumption) (by kernel_rfl))) | exact rfl))
  k_with "evalPairs" => (k_here; dsimp only)
  k_with "Exists" => (k_here; dsimp only)
  k_with "execs cons" => (k_here; refine' nx_start ?_; intro tkz htkz; (try dsimp only at htkz))
  k_with "Nx" => ((try dsimp only); (first | (with_reducible refine' nx_cons0 ?_; intro tkz htkz) | (with_reducible refine' nx_cons ?_; intro tkz htl htkz) | ((first | with_reducible refine' nx_nil0 ?_ | with_reducible refine' nx_ret0 ?_ | with_reducible refine' nx_open0 ?_); (try dsimp only)) | ((first | with_reducible refine' nx_nil ?_ | with_reducible refine' nx_ret ?_ | with_reducible refine' nx_open ?_ | with_reducible refine' nx_brk ?_ | with_reducible refine' nx_cont ?_); intro htl; (try dsimp only at htl); (try dsimp only))))
  k_with "execs nil" => (k_here; (refine wpAny_execs_nil ?_); (try dsimp only))
  k_with "newList" => (k_here; k_dflt (refine' new_lst ?nlF ?nlN ?nlz ?_; (case nlF => k_asm); (case nlN => k_asm); (case nlz => rfl); k_whole); intro d' h' F' N' l1; (try k_sweep))
  k_with "newTuple" => (k_here; k_dflt (refine' new_tup ?nlF ?nlN ?nlz ?_; (case nlF => k_asm); (case nlN => k_asm); (case nlz => rfl); k_whole); intro d' h' F' N' l1; (try k_sweep))
  k_with "mine sub" => ((repeat (first | with_reducible exact sub_nil | with_reducible exact sub_app | with_reducible refine sub_cons ?_ | with_reducible refine sub_app' ?_)); done)
  k_with "mine end2" => ((case F => k_asm); (case N => k_asm); (case S => k_extra "mine sub"); (case P => (refine' lt_sub ?a ?b; (case a => with_reducible assumption); (case b => k_extra "mine sub"))); (case R => (refine' lt_sub ?a ?b; (case a => with_reducible assumption); (case b => k_extra "mine sub"))))
  unfold Ctr
  k_fill
  intro mean mg mb dp un gd cn cs a_ ccd cl outer A₀ base h₀ L m s Q E B F X N T hk hd hu hret
  refine wpAny_call ?_
  k_dflt ktr_enter
  k_with "TkLe" => (refine' tkle_intro ?_; intro htl; (try dsimp only at htl); (try dsimp only))
  k_with "LeaveK" => (k_dflt (refine' leaveK_ ?k1 ?k2 ?_; (case k1 => k_asm); (case k2 => k_asm); k_whole); intro kF kN; k_dflt (refine' ret0 hret kF kN ?g1 ⟨rfl, rfl⟩; (case g1 => k_extra "mine sub")))
  k_steps
theorem ltB_c (w : World) (news : List (Addr × Obj)) (a b : Bool) :
  Ctr w 21 news [.bool a, .bool b] 1 8 (fun r tl => (r = .bool (!a && b)) ∧ tl = []) := by
  k_with_none
  w_top off
  k_with "mine mem" => (first | (refine' mem_here ?_; ktr_member) | (refine' mem_appR ?_; k_mem) | (refine' mem_appL ?_; k_mem) | fail)
  k_with "mine ltL" => ((repeat (first | with_reducible exact lt_up0 | with_reducible refine lt_up ?_)); done)
  k_with "mine tk2" => (first | with_reducible assumption | with_reducible exact le_one | with_reducible exact Nat.le_refl _ | with_reducible exact Nat.succ_le_of_lt (by with_reducible assumption) | (with_reducible refine le_up ?_; k_extra "mine tk2") | (with_reducible refine le_chain (by with_reducible assumption) ?_; k_extra "mine tk2"))
  k_with "mine tk1" => ((try dsimp only); k_extra "mine tk2")
  k_with "mine size" => (first | (refine' sz_arr ?szA ?szB; (case szA => with_reducible assumption); (case szB => rfl)) | (refine' sz_line ?szA ?szB; (case szA => with_reducible assumption); (case szB => rfl)) | exact Nat.le_of_ble_eq_true rfl | fail)
  k_with "mine room" => ((first | k_dflt refine' rm2 ?rmA ?rmB | k_dflt refine' rm1 ?rmA ?rmB | k_dflt refine' rm0 ?rmA); (case rmA => k_dflt assumption); (try (case rmB => rfl)))
  k_with "mine ne" => (refine neN ?_; (try dsimp only); first | exact ne_all (by with_reducible assumption) (by k_mem) | exact ne_all' (by with_reducible assumption) (by k_mem) | with_reducible assumption | exact Ne.symm (by with_reducible assumption) | exact ne_gt (by k_extra "mine ltL") | exact ne_lt (by k_extra "mine ltL") | exact ne_gt (by with_reducible assumption) | exact ne_lt (by with_reducible assumption) | exact ne_far (by with_reducible assumption) (by k_extra "mine ltL") | exact ne_far' (by with_reducible assumption) (by k_extra "mine ltL") | omega | fail)
  k_with "mine all" => (first | with_reducible assumption | exact all_ne (by with_reducible assumption) (by k_extra "mine sub") | fail)
  k_with "mine free" => (intro yy; intros; repeat (first | with_reducible exact rfl | with_reducible exact forget_off (by with_reducible assumption) | (refine' Eq.trans (if_neg ?fnC) ?_; (case fnC => first | with_reducible assumption | exact ne_free (by with_reducible assumption) (by kernel_rfl))) | exact rfl))
  k_with "evalPairs" => (k_here; dsimp only)
  k_with "Exists" => (k_here; dsimp only)
  k_with "execs cons" => (k_here; refine' nx_start ?_; intro tkz htkz; (try dsimp only at htkz))
  k_with "Nx" => ((try dsimp only); (first | (with_reducible refine' nx_cons0 ?_; intro tkz htkz) | (with_reducible refine' nx_cons ?_; intro tkz htl htkz) | ((first | with_reducible refine' nx_nil0 ?_ | with_reducible refine' nx_ret0 ?_ | with_reducible refine' nx_open0 ?_); (try dsimp only)) | ((first | with_reducible refine' nx_nil ?_ | with_reducible refine' nx_ret ?_ | with_reducible refine' nx_open ?_ | with_reducible refine' nx_brk ?_ | with_reducible refine' nx_cont ?_); intro htl; (try dsimp only at htl); (try dsimp only))))
  k_with "execs nil" => (k_here; (refine wpAny_execs_nil ?_); (try dsimp only))
  k_with "newList" => (k_here; k_dflt (refine' new_lst ?nlF ?nlN ?nlz ?_; (case nlF => k_asm); (case nlN => k_asm); (case nlz => rfl); k_whole); intro d' h' F' N' l1; (try k_sweep))
  k_with "newTuple" => (k_here; k_dflt (refine' new_tup ?nlF ?nlN ?nlz ?_; (case nlF => k_asm); (case nlN => k_asm); (case nlz => rfl); k_whole); intro d' h' F' N' l1; (try k_sweep))
  k_with "mine sub" => ((repeat (first | with_reducible exact sub_nil | with_reducible exact sub_app | with_reducible refine sub_cons ?_ | with_reducible refine sub_app' ?_)); done)
  k_with "mine end2" => ((case F => k_asm); (case N => k_asm); (case S => k_extra "mine sub"); (case P => (refine' lt_sub ?a ?b; (case a => with_reducible assumption); (case b => k_extra "mine sub"))); (case R => (refine' lt_sub ?a ?b; (case a => with_reducible assumption); (case b => k_extra "mine sub"))))
  unfold Ctr
  k_fill
  intro mean mg mb dp un gd cn cs a_ ccd cl outer A₀ base h₀ L m s Q E B F X N T hk hd hu hret
  refine wpAny_call ?_
  k_dflt ktr_enter
  k_with "TkLe" => (refine' tkle_intro ?_; intro htl; (try dsimp only at htl); (try dsimp only))
  k_with "LeaveK" => (k_dflt (refine' leaveK_ ?k1 ?k2 ?_; (case k1 => k_asm); (case k2 => k_asm); k_whole); intro kF kN; k_dflt (refine' ret0 hret kF kN ?g1 ⟨by cases a <;> cases b <;> rfl, rfl⟩; (case g1 => k_extra "mine sub")))
  k_steps
theorem gtB_c (w : World) (news : List (Addr × Obj)) (a b : Bool) :
  Ctr w 49 news [.bool a, .bool b] 1 8 (fun r tl => (r = .bool (a && !b)) ∧ tl = []) := by
  k_with_none
  w_top off
  k_with "mine mem" => (first | (refine' mem_here ?_; ktr_member) | (refine' mem_appR ?_; k_mem) | (refine' mem_appL ?_; k_mem) | fail)
  k_with "mine ltL" => ((repeat (first | with_reducible exact lt_up0 | with_reducible refine lt_up ?_)); done)
  k_with "mine tk2" => (first | with_reducible assumption | with_reducible exact le_one | with_reducible exact Nat.le_refl _ | with_reducible exact Nat.succ_le_of_lt (by with_reducible assumption) | (with_reducible refine le_up ?_; k_extra "mine tk2") | (with_reducible refine le_chain (by with_reducible assumption) ?_; k_extra "mine tk2"))
  k_with "mine tk1" => ((try dsimp only); k_extra "mine tk2")
  k_with "mine size" => (first | (refine' sz_arr ?szA ?szB; (case szA => with_reducible assumption); (case szB => rfl)) | (refine' sz_line ?szA ?szB; (case szA => with_reducible assumption); (case szB => rfl)) | exact Nat.le_of_ble_eq_true rfl | fail)
  k_with "mine room" => ((first | k_dflt refine' rm2 ?rmA ?rmB | k_dflt refine' rm1 ?rmA ?rmB | k_dflt refine' rm0 ?rmA); (case rmA => k_dflt assumption); (try (case rmB => rfl)))
  k_with "mine ne" => (refine neN ?_; (try dsimp only); first | exact ne_all (by with_reducible assumption) (by k_mem) | exact ne_all' (by with_reducible assumption) (by k_mem) | with_reducible assumption | exact Ne.symm (by with_reducible assumption) | exact ne_gt (by k_extra "mine ltL") | exact ne_lt (by k_extra "mine ltL") | exact ne_gt (by with_reducible assumption) | exact ne_lt (by with_reducible assumption) | exact ne_far (by with_reducible assumption) (by k_extra "mine ltL") | exact ne_far' (by with_reducible assumption) (by k_extra "mine ltL") | omega | fail)
  k_with "mine all" => (first | with_reducible assumption | exact all_ne (by with_reducible assumption) (by k_extra "mine sub") | fail)
  k_with "mine free" => (intro yy; intros; repeat (first | with_reducible exact rfl | with_reducible exact forget_off (by with_reducible assumption) | (refine' Eq.trans (if_neg ?fnC) ?_; (case fnC => first | with_reducible assumption | exact ne_free (by with_reducible assumption) (by kernel_rfl))) | exact rfl))
  k_with "evalPairs" => (k_here; dsimp only)
  k_with "Exists" => (k_here; dsimp only)
  k_with "execs cons" => (k_here; refine' nx_start ?_; intro tkz htkz; (try dsimp only at htkz))
  k_with "Nx" => ((try dsimp only); (first | (with_reducible refine' nx_cons0 ?_; intro tkz htkz) | (with_reducible refine' nx_cons ?_; intro tkz htl htkz) | ((first | with_reducible refine' nx_nil0 ?_ | with_reducible refine' nx_ret0 ?_ | with_reducible refine' nx_open0 ?_); (try dsimp only)) | ((first | with_reducible refine' nx_nil ?_ | with_reducible refine' nx_ret ?_ | with_reducible refine' nx_open ?_ | with_reducible refine' nx_brk ?_ | with_reducible refine' nx_cont ?_); intro htl; (try dsimp only at htl); (try dsimp only))))
  k_with "execs nil" => (k_here; (refine wpAny_execs_nil ?_); (try dsimp only))
  k_with "newList" => (k_here; k_dflt (refine' new_lst ?nlF ?nlN ?nlz ?_; (case nlF => k_asm); (case nlN => k_asm); (case nlz => rfl); k_whole); intro d' h' F' N' l1; (try k_sweep))
  k_with "newTuple" => (k_here; k_dflt (refine' new_tup ?nlF ?nlN ?nlz ?_; (case nlF => k_asm); (case nlN => k_asm); (case nlz => rfl); k_whole); intro d' h' F' N' l1; (try k_sweep))
  k_with "mine sub" => ((repeat (first | with_reducible exact sub_nil | with_reducible exact sub_app | with_reducible refine sub_cons ?_ | with_reducible refine sub_app' ?_)); done)
  k_with "mine end2" => ((case F => k_asm); (case N => k_asm); (case S => k_extra "mine sub"); (case P => (refine' lt_sub ?a ?b; (case a => with_reducible assumption); (case b => k_extra "mine sub"))); (case R => (refine' lt_sub ?a ?b; (case a => with_reducible assumption); (case b => k_extra "mine sub"))))
  unfold Ctr
  k_fill
  intro mean mg mb dp un gd cn cs a_ ccd cl outer A₀ base h₀ L m s Q E B F X N T hk hd hu hret
  refine wpAny_call ?_
  k_dflt ktr_enter
  k_with "TkLe" => (refine' tkle_intro ?_; intro htl; (try dsimp only at htl); (try dsimp only))
  k_with "LeaveK" => (k_dflt (refine' leaveK_ ?k1 ?k2 ?_; (case k1 => k_asm); (case k2 => k_asm); k_whole); intro kF kN; k_dflt (refine' ret0 hret kF kN ?g1 ⟨by cases a <;> cases b <;> rfl, rfl⟩; (case g1 => k_extra "mine sub")))
  k_steps
theorem leB_c (w : World) (news : List (Addr × Obj)) (a b : Bool) :
  Ctr w 28 news [.bool a, .bool b] 1 8 (fun r tl => (r = .bool (!a || b)) ∧ tl = []) := by
  k_with_none
  w_top off
  k_with "mine mem" => (first | (refine' mem_here ?_; ktr_member) | (refine' mem_appR ?_; k_mem) | (refine' mem_appL ?_; k_mem) | fail)
  k_with "mine ltL" => ((repeat (first | with_reducible exact lt_up0 | with_reducible refine lt_up ?_)); done)
  k_with "mine tk2" => (first | with_reducible assumption | with_reducible exact le_one | with_reducible exact Nat.le_refl _ | with_reducible exact Nat.succ_le_of_lt (by with_reducible assumption) | (with_reducible refine le_up ?_; k_extra "mine tk2") | (with_reducible refine le_chain (by with_reducible assumption) ?_; k_extra "mine tk2"))
  k_with "mine tk1" => ((try dsimp only); k_extra "mine tk2")
  k_with "mine size" => (first | (refine' sz_arr ?szA ?szB; (case szA => with_reducible assumption); (case szB => rfl)) | (refine' sz_line ?szA ?szB; (case szA => with_reducible assumption); (case szB => rfl)) | exact Nat.le_of_ble_eq_true rfl | fail)
  k_with "mine room" => ((first | k_dflt refine' rm2 ?rmA ?rmB | k_dflt refine' rm1 ?rmA ?rmB | k_dflt refine' rm0 ?rmA); (case rmA => k_dflt assumption); (try (case rmB => rfl)))
  k_with "mine ne" => (refine neN ?_; (try dsimp only); first | exact ne_all (by with_reducible assumption) (by k_mem) | exact ne_all' (by with_reducible assumption) (by k_mem) | with_reducible assumption | exact Ne.symm (by with_reducible assumption) | exact ne_gt (by k_extra "mine ltL") | exact ne_lt (by k_extra "mine ltL") | exact ne_gt (by with_reducible assumption) | exact ne_lt (by with_reducible assumption) | exact ne_far (by with_reducible assumption) (by k_extra "mine ltL") | exact ne_far' (by with_reducible assumption) (by k_extra "mine ltL") | omega | fail)
  k_with "mine all" => (first | with_reducible assumption | exact all_ne (by with_reducible assumption) (by k_extra "mine sub") | fail)
  k_with "mine free" => (intro yy; intros; repeat (first | with_reducible exact rfl | with_reducible exact forget_off (by with_reducible assumption) | (refine' Eq.trans (if_neg ?fnC) ?_; (case fnC => first | with_reducible assumption | exact ne_free (by with_reducible assumption) (by kernel_rfl))) | exact rfl))
  k_with "evalPairs" => (k_here; dsimp only)
  k_with "Exists" => (k_here; dsimp only)
  k_with "execs cons" => (k_here; refine' nx_start ?_; intro tkz htkz; (try dsimp only at htkz))
  k_with "Nx" => ((try dsimp only); (first | (with_reducible refine' nx_cons0 ?_; intro tkz htkz) | (with_reducible refine' nx_cons ?_; intro tkz htl htkz) | ((first | with_reducible refine' nx_nil0 ?_ | with_reducible refine' nx_ret0 ?_ | with_reducible refine' nx_open0 ?_); (try dsimp only)) | ((first | with_reducible refine' nx_nil ?_ | with_reducible refine' nx_ret ?_ | with_reducible refine' nx_open ?_ | with_reducible refine' nx_brk ?_ | with_reducible refine' nx_cont ?_); intro htl; (try dsimp only at htl); (try dsimp only))))
  k_with "execs nil" => (k_here; (refine wpAny_execs_nil ?_); (try dsimp only))
  k_with "newList" => (k_here; k_dflt (refine' new_lst ?nlF ?nlN ?nlz ?_; (case nlF => k_asm); (case nlN => k_asm); (case nlz => rfl); k_whole); intro d' h' F' N' l1; (try k_sweep))
  k_with "newTuple" => (k_here; k_dflt (refine' new_tup ?nlF ?nlN ?nlz ?_; (case nlF => k_asm); (case nlN => k_asm); (case nlz => rfl); k_whole); intro d' h' F' N' l1; (try k_sweep))
  k_with "mine sub" => ((repeat (first | with_reducible exact sub_nil | with_reducible exact sub_app | with_reducible refine sub_cons ?_ | with_reducible refine sub_app' ?_)); done)
  k_with "mine end2" => ((case F => k_asm); (case N => k_asm); (case S => k_extra "mine sub"); (case P => (refine' lt_sub ?a ?b; (case a => with_reducible assumption); (case b => k_extra "mine sub"))); (case R => (refine' lt_sub ?a ?b; (case a => with_reducible assumption); (case b => k_extra "mine sub"))))
  unfold Ctr
  k_fill
  intro mean mg mb dp un gd cn cs a_ ccd cl outer A₀ base h₀ L m s Q E B F X N T hk hd hu hret
  refine wpAny_call ?_
  k_dflt ktr_enter
  k_with "TkLe" => (refine' tkle_intro ?_; intro htl; (try dsimp only at htl); (try dsimp only))
  k_with "LeaveK" => (k_dflt (refine' leaveK_ ?k1 ?k2 ?_; (case k1 => k_asm); (case k2 => k_asm); k_whole); intro kF kN; k_dflt (refine' ret0 hret kF kN ?g1 ⟨by cases a <;> cases b <;> rfl, rfl⟩; (case g1 => k_extra "mine sub")))
  k_steps
theorem geB_c (w : World) (news : List (Addr × Obj)) (a b : Bool) :
  Ctr w 42 news [.bool a, .bool b] 1 8 (fun r tl => (r = .bool (a || !b)) ∧ tl = []) := by
  k_with_none
  w_top off
  k_with "mine mem" => (first | (refine' mem_here ?_; ktr_member) | (refine' mem_appR ?_; k_mem) | (refine' mem_appL ?_; k_mem) | fail)
  k_with "mine ltL" => ((repeat (first | with_reducible exact lt_up0 | with_reducible refine lt_up ?_)); done)
  k_with "mine tk2" => (first | with_reducible assumption | with_reducible exact le_one | with_reducible exact Nat.le_refl _ | with_reducible exact Nat.succ_le_of_lt (by with_reducible assumption) | (with_reducible refine le_up ?_; k_extra "mine tk2") | (with_reducible refine le_chain (by with_reducible assumption) ?_; k_extra "mine tk2"))
  k_with "mine tk1" => ((try dsimp only); k_extra "mine tk2")
  k_with "mine size" => (first | (refine' sz_arr ?szA ?szB; (case szA => with_reducible assumption); (case szB => rfl)) | (refine' sz_line ?szA ?szB; (case szA => with_reducible assumption); (case szB => rfl)) | exact Nat.le_of_ble_eq_true rfl | fail)
  k_with "mine room" => ((first | k_dflt refine' rm2 ?rmA ?rmB | k_dflt refine' rm1 ?rmA ?rmB | k_dflt refine' rm0 ?rmA); (case rmA => k_dflt assumption); (try (case rmB => rfl)))
  k_with "mine ne" => (refine neN ?_; (try dsimp only); first | exact ne_all (by with_reducible assumption) (by k_mem) | exact ne_all' (by with_reducible assumption) (by k_mem) | with_reducible assumption | exact Ne.symm (by with_reducible assumption) | exact ne_gt (by k_extra "mine ltL") | exact ne_lt (by k_extra "mine ltL") | exact ne_gt (by with_reducible assumption) | exact ne_lt (by with_reducible assumption) | exact ne_far (by with_reducible assumption) (by k_extra "mine ltL") | exact ne_far' (by with_reducible assumption) (by k_extra "mine ltL") | omega | fail)
  k_with "mine all" => (first | with_reducible assumption | exact all_ne (by with_reducible assumption) (by k_extra "mine sub") | fail)
  k_with "mine free" => (intro yy; intros; repeat (first | with_reducible exact rfl | with_reducible exact forget_off (by with_reducible assumption) | (refine' Eq.trans (if_neg ?fnC) ?_; (case fnC => first | with_reducible assumption | exact ne_free (by with_reducible assumption) (by kernel_rfl))) | exact rfl))
  k_with "evalPairs" => (k_here; dsimp only)
  k_with "Exists" => (k_here; dsimp only)
  k_with "execs cons" => (k_here; refine' nx_start ?_; intro tkz htkz; (try dsimp only at htkz))
  k_with "Nx" => ((try dsimp only); (first | (with_reducible refine' nx_cons0 ?_; intro tkz htkz) | (with_reducible refine' nx_cons ?_; intro tkz htl htkz) | ((first | with_reducible refine' nx_nil0 ?_ | with_reducible refine' nx_ret0 ?_ | with_reducible refine' nx_open0 ?_); (try dsimp only)) | ((first | with_reducible refine' nx_nil ?_ | with_reducible refine' nx_ret ?_ | with_reducible refine' nx_open ?_ | with_reducible refine' nx_brk ?_ | with_reducible refine' nx_cont ?_); intro htl; (try dsimp only at htl); (try dsimp only))))
  k_with "execs nil" => (k_here; (refine wpAny_execs_nil ?_); (try dsimp only))
  k_with "newList" => (k_here; k_dflt (refine' new_lst ?nlF ?nlN ?nlz ?_; (case nlF => k_asm); (case nlN => k_asm); (case nlz => rfl); k_whole); intro d' h' F' N' l1; (try k_sweep))
  k_with "newTuple" => (k_here; k_dflt (refine' new_tup ?nlF ?nlN ?nlz ?_; (case nlF => k_asm); (case nlN => k_asm); (case nlz => rfl); k_whole); intro d' h' F' N' l1; (try k_sweep))
  k_with "mine sub" => ((repeat (first | with_reducible exact sub_nil | with_reducible exact sub_app | with_reducible refine sub_cons ?_ | with_reducible refine sub_app' ?_)); done)
  k_with "mine end2" => ((case F => k_asm); (case N => k_asm); (case S => k_extra "mine sub"); (case P => (refine' lt_sub ?a ?b; (case a => with_reducible assumption); (case b => k_extra "mine sub"))); (case R => (refine' lt_sub ?a ?b; (case a => with_reducible assumption); (case b => k_extra "mine sub"))))
  unfold Ctr
  k_fill
  intro mean mg mb dp un gd cn cs a_ ccd cl outer A₀ base h₀ L m s Q E B F X N T hk hd hu hret
  refine wpAny_call ?_
  k_dflt ktr_enter
  k_with "TkLe" => (refine' tkle_intro ?_; intro htl; (try dsimp only at htl); (try dsimp only))
  k_with "LeaveK" => (k_dflt (refine' leaveK_ ?k1 ?k2 ?_; (case k1 => k_asm); (case k2 => k_asm); k_whole); intro kF kN; k_dflt (refine' ret0 hret kF kN ?g1 ⟨by cases a <;> cases b <;> rfl, rfl⟩; (case g1 => k_extra "mine sub")))
  k_steps
section
variable {prog : Program} {w : World} {A : Around} {s : Shared} {env : Env} {h₀ : Heap} {body orelse : List Stmt}
theorem for_lst {E : Value → Shared → Prop} {Q : Flow → Shared → Prop} {target : PySem.Expr} {l : Addr} {vs : List Value} {e : Nat} {m₀ : Str → Option Value} {news : List (Addr × Obj)} (J : Nat → Nat → (Str → Option Value) → List (Addr × Obj) → Prop)
    (hh : A.handled = none) (hl : (l, PySem.W.listOf vs.toArray e) ∈ news) (F : Fr h₀ env.locals s.heap m₀) (N : News h₀ env.locals s.heap news) (h0 : J 0 s.toks m₀ news)
    (turn : ∀ i v m₁ nw₁ h tk₀ tk own wr, vs[i]? = some v → s.toks ≤ tk₀ → tk₀ ≤ tk → J i tk₀ m₁ nw₁ → (∀ p ∈ nw₁, p.1 ∉ wr) → Fr h₀ env.locals h m₁ → News h₀ env.locals h (own ++ nw₁) →
      wpAny (model prog w) A (assign target env v) (fun _ s₂ => TkLe tk s₂ (wpAny (model prog w) A (execs body env) (TurnT h₀ env.locals s wr own (J (i + 1)) Q) E s₂)) E { s with heap := h, toks := tk })
    (done : ∀ h tk₀ tk m₁ nw₁, Fr h₀ env.locals h m₁ → News h₀ env.locals h nw₁ → s.toks ≤ tk₀ → tk₀ ≤ tk → J vs.length tk₀ m₁ nw₁ → wpAny (model prog w) A (execs orelse env) Q E { s with heap := h, toks := tk })
    (hE : PassesOwn (model prog w) A env E := by passes_own) :
    wpAny (model prog w) A (pyIter (.ref l)) (fun it s₂ => codeAny (model prog w) A (.forLoop target it body orelse env) (fun r s' => match r with | .ok f => Q f s' | .error e => cameBackBy (model prog w) A env E e s') s₂) E s := by
  have hax := N _ hl
  have hlist : s.heap.IsList l vs.toArray := News.isList N hl
  have hlt : l < s.heap.objs.size := Heap.lt_size hax.1
  have hne : l ≠ s.heap.objs.size := Nat.ne_of_lt hlt
  have hLs : env.locals < s.heap.objs.size := F.ns.lt
  refine wpAny_pyIter_list hlist ?_
  have W := KTurns.ofWalks (target := target) (Walks.list (prog := prog) (w := w) hh s.heap.objs.size l hne vs.toArray) fun i v s Q E st q => letGo_listiter st.1 q
  have hnew : ∀ p ∈ news, p.1 ∉ [s.heap.objs.size] := fun p hp hw => absurd (Heap.lt_size (N p hp).1) (by rw [List.mem_singleton.mp hw]; exact Nat.lt_irrefl _)
  refine loopT (s := { s with heap := _ }) (R := fun r s' => match r with | .ok f => Q f s' | .error e => cameBackBy (model prog w) A env E e s') J W ?_ ?_ hnew ⟨⟨_, Heap.get?_push_size _ rfl, rfl, rfl⟩, hlist.at fun o e => Heap.get?_push_of_some _ e⟩ (F.push _) (fun p hp => ⟨Heap.get?_push_of_some _ (N p hp).1, (N p hp).2⟩) h0 ?_ ?_
  · intro hw
    rcases List.mem_cons.mp hw with e | hw
    · exact Nat.ne_of_lt hLs e
    · exact hax.2.1 (List.mem_singleton.mp hw).symm
  · intro b hb
    rw [List.mem_singleton.mp hb]
    exact next_is_new F
  · rintro i v m₁ nw₁ h₁ tk₀ tk₁ own hi hx le0 le1 hJ hnw - - F₁ N₁
    refine wpAny_mono (turn i v m₁ nw₁ h₁ tk₀ tk₁ own _ (by simpa using hx) le0 le1 hJ hnw F₁ N₁) (fun _ s₂ h₃ => ?_) hE
    exact tkle_intro fun q => wpAny_mono (h₃ q) (fun f s₃ h₄ => by cases f <;> exact h₄) hE
  · intro h tk₀ tk m₁ nw₁ F₁ N₁ le0 le1 hJ
    exact wpAny_passesOwn hE (done h tk₀ tk m₁ nw₁ F₁ N₁ le0 le1 (by simpa using hJ))
theorem for_tup {E : Value → Shared → Prop} {Q : Flow → Shared → Prop} {target : PySem.Expr} {l : Addr} {vs : List Value} {e : Nat} {m₀ : Str → Option Value} {news : List (Addr × Obj)} (J : Nat → Nat → (Str → Option Value) → List (Addr × Obj) → Prop)
    (hh : A.handled = none) (hl : (l, tup vs e) ∈ news) (F : Fr h₀ env.locals s.heap m₀) (N : News h₀ env.locals s.heap news) (h0 : J 0 s.toks m₀ news)
    (turn : ∀ i v m₁ nw₁ h tk₀ tk own wr, vs[i]? = some v → s.toks ≤ tk₀ → tk₀ ≤ tk → J i tk₀ m₁ nw₁ → (∀ p ∈ nw₁, p.1 ∉ wr) → Fr h₀ env.locals h m₁ → News h₀ env.locals h (own ++ nw₁) →
      wpAny (model prog w) A (assign target env v) (fun _ s₂ => TkLe tk s₂ (wpAny (model prog w) A (execs body env) (TurnT h₀ env.locals s wr own (J (i + 1)) Q) E s₂)) E { s with heap := h, toks := tk })
    (done : ∀ h tk₀ tk m₁ nw₁, Fr h₀ env.locals h m₁ → News h₀ env.locals h nw₁ → s.toks ≤ tk₀ → tk₀ ≤ tk → J vs.length tk₀ m₁ nw₁ → wpAny (model prog w) A (execs orelse env) Q E { s with heap := h, toks := tk })
    (hE : PassesOwn (model prog w) A env E := by passes_own) :
    wpAny (model prog w) A (pyIter (.ref l)) (fun it s₂ => codeAny (model prog w) A (.forLoop target it body orelse env) (fun r s' => match r with | .ok f => Q f s' | .error e => cameBackBy (model prog w) A env E e s') s₂) E s := by
  have hax := N _ hl
  have hlist : s.heap.IsTuple l vs.toArray := News.isTup N hl
  have hlt : l < s.heap.objs.size := Heap.lt_size hax.1
  have hne : l ≠ s.heap.objs.size := Nat.ne_of_lt hlt
  have hLs : env.locals < s.heap.objs.size := F.ns.lt
  refine wpAny_pyIter_tuple hlist ?_
  have W := KTurns.ofWalks (target := target) (Walks.tuple (prog := prog) (w := w) hh s.heap.objs.size l hne vs.toArray) fun i v s Q E st q => letGo_tupleiter st.1 q
  have hnew : ∀ p ∈ news, p.1 ∉ [s.heap.objs.size] := fun p hp hw => absurd (Heap.lt_size (N p hp).1) (by rw [List.mem_singleton.mp hw]; exact Nat.lt_irrefl _)
  refine loopT (s := { s with heap := _ }) (R := fun r s' => match r with | .ok f => Q f s' | .error e => cameBackBy (model prog w) A env E e s') J W ?_ ?_ hnew ⟨⟨_, Heap.get?_push_size _ rfl, rfl, rfl⟩, hlist.at fun o e => Heap.get?_push_of_some _ e⟩ (F.push _) (fun p hp => ⟨Heap.get?_push_of_some _ (N p hp).1, (N p hp).2⟩) h0 ?_ ?_
  · intro hw
    rcases List.mem_cons.mp hw with e | hw
    · exact Nat.ne_of_lt hLs e
    · exact hax.2.1 (List.mem_singleton.mp hw).symm
  · intro b hb
    rw [List.mem_singleton.mp hb]
    exact next_is_new F
  · rintro i v m₁ nw₁ h₁ tk₀ tk₁ own hi hx le0 le1 hJ hnw - - F₁ N₁
    refine wpAny_mono (turn i v m₁ nw₁ h₁ tk₀ tk₁ own _ (by simpa using hx) le0 le1 hJ hnw F₁ N₁) (fun _ s₂ h₃ => ?_) hE
    exact tkle_intro fun q => wpAny_mono (h₃ q) (fun f s₃ h₄ => by cases f <;> exact h₄) hE
  · intro h tk₀ tk m₁ nw₁ F₁ N₁ le0 le1 hJ
    exact wpAny_passesOwn hE (done h tk₀ tk m₁ nw₁ F₁ N₁ le0 le1 (by simpa using hJ))
end
noncomputable def Op.fn : Op → Addr
  | .amp => 63 | .bar => 84 | .hat => 98 | .eqq => 35 | .lt => 21 | .gt => 49 | .le => 28 | .ge => 42
noncomputable def Op.tt (o : Op) (a b : Bool) : Bool := match o with
  | .amp => a && b | .bar => a || b | .hat => a != b | .eqq => a == b
  | .lt => !a && b | .gt => a && !b | .le => !a || b | .ge => a || !b
theorem opB_c (w : World) (news : List (Addr × Obj)) (op : Op) (a b : Bool) : Ctr w op.fn news [.bool a, .bool b] 1 8 (fun r tl => r = .bool (op.tt a b) ∧ tl = []) := by
  cases op
  · exact andB_c w news a b
  · exact orB_c w news a b
  · exact xorB_c w news a b
  · exact eqB_c w news a b
  · exact ltB_c w news a b
  · exact gtB_c w news a b
  · exact leB_c w news a b
  · exact geB_c w news a b
theorem keep_fn (w : World) (op : Op) : keepIn (Mine.hd.heap_1_39 w.params) (.ref op.fn) = true := by cases op <;> kernel_rfl
noncomputable def csStep (op : Op) (a b c : BitVec 16) (u v : Bool) : BitVec 16 := if op.tt u v = true then c ||| ((if u = true then a else ~~~a) &&& (if v = true then b else ~~~b)) else c
theorem op_bit {op : Op} {a b : BitVec 16} {i : Nat} (hi : i < 16) : (op.bv a b).getLsbD i = op.tt (a.getLsbD i) (b.getLsbD i) := by
  have h := decide_eq_true hi
  cases op
  · exact BitVec.getLsbD_and
  · exact BitVec.getLsbD_or
  · exact BitVec.getLsbD_xor
  · show (~~~(a ^^^ b)).getLsbD i = (a.getLsbD i == b.getLsbD i)
    rw [BitVec.getLsbD_not, BitVec.getLsbD_xor, h]
    cases a.getLsbD i <;> cases b.getLsbD i <;> rfl
  · show (b &&& ~~~a).getLsbD i = _
    rw [BitVec.getLsbD_and, BitVec.getLsbD_not, h]; exact Bool.and_comm _ _
  · show (a &&& ~~~b).getLsbD i = _
    rw [BitVec.getLsbD_and, BitVec.getLsbD_not, h]; rfl
  · show (~~~a ||| b).getLsbD i = _
    rw [BitVec.getLsbD_or, BitVec.getLsbD_not, h]; rfl
  · show (~~~b ||| a).getLsbD i = _
    rw [BitVec.getLsbD_or, BitVec.getLsbD_not, h]; exact Bool.or_comm _ _
noncomputable def csB (t u v x y : Bool) (c : Bool) : Bool := cond t (c || (cond u x (!x) && cond v y (!y))) c
theorem cs_bit {op : Op} {a b c : BitVec 16} {u v : Bool} {i : Nat} (hi : i < 16) : (csStep op a b c u v).getLsbD i = csB (op.tt u v) u v (a.getLsbD i) (b.getLsbD i) (c.getLsbD i) := by
  have h := decide_eq_true hi
  have q : ∀ (u : Bool) (z : BitVec 16), (if u = true then z else ~~~z).getLsbD i = cond u (z.getLsbD i) (!z.getLsbD i) := fun u z => by
    cases u
    · exact (BitVec.getLsbD_not).trans (by rw [h]; rfl)
    · rfl
  unfold csStep
  cases op.tt u v
  · rfl
  · show (c ||| ((if u = true then a else ~~~a) &&& (if v = true then b else ~~~b))).getLsbD i = _
    rw [BitVec.getLsbD_or, BitVec.getLsbD_and, q, q]; rfl
theorem csB_all (op : Op) (x y : Bool) : csB (op.tt true true) true true x y (csB (op.tt true false) true false x y (csB (op.tt false true) false true x y (csB (op.tt false false) false false x y false))) = op.tt x y := by
  cases x <;> cases y <;> cases op <;> rfl
theorem cs_all (op : Op) (a b : BitVec 16) : csStep op a b (csStep op a b (csStep op a b (csStep op a b 0#16 false false) false true) true false) true true = op.bv a b := by
  apply BitVec.eq_of_getLsbD_eq
  intro i hi
  rw [op_bit hi, cs_bit hi, cs_bit hi, cs_bit hi, cs_bit hi, BitVec.getLsbD_zero]
  exact csB_all op _ _
theorem csY {op : Op} {a b c : BitVec 16} {u v : Bool} {l r : Int} (htt : op.tt u v = true) (hl : l = iv (if u = true then a else ~~~a)) (hr : r = iv (if v = true then b else ~~~b)) : Builtin.bitOr (iv c) (Builtin.bitAnd l r) = iv (csStep op a b c u v) := by
  unfold csStep; rw [if_pos htt, hl, hr, iv_and, iv_or]
theorem csN {op : Op} {a b c : BitVec 16} {u v : Bool} (htt : op.tt u v = false) : iv c = iv (csStep op a b c u v) := by
  unfold csStep; rw [if_neg (by rw [htt]; decide)]
theorem cslT {i : Nat} {a : BitVec 16} (h : i = 1) : iv a = iv (if decide (i = 1) = true then a else ~~~a) := by rw [if_pos (decide_eq_true h)]
theorem cslF {i : Nat} {a : BitVec 16} (h : ¬ i = 1) : 65535 - iv a = iv (if decide (i = 1) = true then a else ~~~a) := by rw [if_neg (by rw [decide_eq_false h]; decide), iv_not]
noncomputable def casFree : List Str := [Str.ofString "u", Str.ofString "v"]
noncomputable abbrev casM (m0 g : Str → Option Value) (c : BitVec 16) (t : Tok) : Str → Option Value := fun y => if y = Str.ofString "told" then some (.int (iv c) t) else forget casFree g m0 y
noncomputable abbrev casI (m0 g : Str → Option Value) (u : Bool) (c : BitVec 16) (t : Tok) : Str → Option Value := fun y => if y = Str.ofString "told" then some (.int (iv c) t) else if y = Str.ofString "u" then some (.bool u) else forget casFree g m0 y
noncomputable def cI (op : Op) (a b : BitVec 16) (u : Bool) (c : BitVec 16) : Nat → BitVec 16
  | 0 => c
  | 1 => csStep op a b c u false
  | _ => csStep op a b (csStep op a b c u false) u true
noncomputable def cO (op : Op) (a b : BitVec 16) : Nat → BitVec 16
  | 0 => 0#16
  | 1 => cI op a b false 0#16 2
  | _ => cI op a b true (cI op a b false 0#16 2) 2
theorem cO_succ (op : Op) (a b : BitVec 16) : ∀ {i : Nat}, i < 2 → cO op a b (i + 1) = cI op a b (decide (i = 1)) (cO op a b i) 2
  | 0, _ => by rw [show decide ((0 : Nat) = 1) = false from rfl, show cO op a b 0 = 0#16 from rfl, show cO op a b (0 + 1) = cI op a b false 0#16 2 from rfl]
  | 1, _ => by rw [show decide ((1 : Nat) = 1) = true from rfl, show cO op a b 1 = cI op a b false 0#16 2 from rfl, show cO op a b (1 + 1) = cI op a b true (cI op a b false 0#16 2) 2 from rfl]
theorem cI_succ (op : Op) (a b c : BitVec 16) (u : Bool) : ∀ {j : Nat}, j < 2 → cI op a b u c (j + 1) = csStep op a b (cI op a b u c j) u (decide (j = 1))
  | 0, _ => by rw [show decide ((0 : Nat) = 1) = false from rfl]; rfl
  | 1, _ => by rw [show decide ((1 : Nat) = 1) = true from rfl]; rfl
noncomputable def CasJ (m0 : Str → Option Value) (news : List (Addr × Obj)) (c : Nat → BitVec 16) (i _tk : Nat) (m : Str → Option Value) (nw : List (Addr × Obj)) : Prop := (∃ g t, m = casM m0 g (c i) t) ∧ nw = news
noncomputable def CasJI (m0 : Str → Option Value) (news : List (Addr × Obj)) (u : Bool) (c : Nat → BitVec 16) (i _tk : Nat) (m : Str → Option Value) (nw : List (Addr × Obj)) : Prop := (∃ g t, m = casI m0 g u (c i) t) ∧ nw = news
theorem bool_at {i : Nat} {v : Value} (h : [Value.bool false, .bool true][i]? = some v) : i < 2 ∧ v = .bool (decide (i = 1)) := by
  match i, h with
  | 0, h => cases h; exact ⟨by decide, rfl⟩
  | 1, h => cases h; exact ⟨by decide, rfl⟩
section
variable {prog : Program} {w : World} {A : Around} {E : Value → Shared → Prop} {s : Shared} {env : Env} {h₀ : Heap} {L : Addr} {m0 : Str → Option Value} {news : List (Addr × Obj)}
theorem cas_outer {Q : Flow → Shared → Prop} {target : PySem.Expr} {body : List Stmt} {l : Addr} {e : Nat} {t0 : Tok} (op : Op) (a b : BitVec 16) (hh : A.handled = none) (hl : (l, tup [.bool false, .bool true] e) ∈ news)
    (F : Fr h₀ env.locals s.heap (fun y => if y = Str.ofString "told" then some (.int 0 t0) else m0 y)) (N : News h₀ env.locals s.heap news)
    (turn : ∀ i g t h tk own wr, i < 2 → (∀ p ∈ news, p.1 ∉ wr) → Fr h₀ env.locals h (casM m0 g (cO op a b i) t) → News h₀ env.locals h (own ++ news) →
      wpAny (model prog w) A (assign target env (.bool (decide (i = 1)))) (fun _ s₂ => TkLe tk s₂ (wpAny (model prog w) A (execs body env) (TurnT h₀ env.locals s wr own (CasJ m0 news (cO op a b) (i + 1)) Q) E s₂)) E { s with heap := h, toks := tk })
    (done : ∀ g t h tk, Fr h₀ env.locals h (casM m0 g (op.bv a b) t) → News h₀ env.locals h news → Q .next { s with heap := h, toks := tk })
    (hE : PassesOwn (model prog w) A env E := by passes_own) :
    wpAny (model prog w) A (pyIter (.ref l)) (fun it s₂ => codeAny (model prog w) A (.forLoop target it body [] env) (fun r s' => match r with | .ok f => Q f s' | .error e => cameBackBy (model prog w) A env E e s') s₂) E s := by
  refine for_tup (CasJ m0 news (cO op a b)) hh hl F N ⟨⟨m0, t0, ?_⟩, rfl⟩ ?_ ?_ hE
  · funext y
    show _ = if y = _ then _ else forget casFree m0 m0 y
    unfold forget
    split
    · rfl
    · split <;> rfl
  · rintro i v m₁ nw₁ h tk₀ tk own wr hv - - ⟨⟨g, t, rfl⟩, rfl⟩ hoff F₁ N₁
    obtain ⟨hi, rfl⟩ := bool_at hv
    exact turn i g t h tk own wr hi hoff F₁ N₁
  · rintro h tk₀ tk m₁ nw₁ F₁ N₁ - - ⟨⟨g, t, rfl⟩, rfl⟩
    have e2 : cO op a b [Value.bool false, .bool true].length = op.bv a b := cs_all op a b
    rw [e2] at F₁
    exact wpAny_execs_nil (done g t h tk F₁ N₁)
theorem cas_inner {Q : Flow → Shared → Prop} {target : PySem.Expr} {body : List Stmt} {l : Addr} {e : Nat} {g : Str → Option Value} {c : BitVec 16} {t : Tok} {u : Bool} (op : Op) (a b : BitVec 16) (hh : A.handled = none) (hl : (l, tup [.bool false, .bool true] e) ∈ news)
    (F : Fr h₀ env.locals s.heap (fun y => if y = Str.ofString "u" then some (.bool u) else casM m0 g c t y)) (N : News h₀ env.locals s.heap news)
    (turn : ∀ j g t h tk own wr, j < 2 → (∀ p ∈ news, p.1 ∉ wr) → Fr h₀ env.locals h (casI m0 g u (cI op a b u c j) t) → News h₀ env.locals h (own ++ news) →
      wpAny (model prog w) A (assign target env (.bool (decide (j = 1)))) (fun _ s₂ => TkLe tk s₂ (wpAny (model prog w) A (execs body env) (TurnT h₀ env.locals s wr own (CasJI m0 news u (cI op a b u c) (j + 1)) Q) E s₂)) E { s with heap := h, toks := tk })
    (done : ∀ g t h tk, Fr h₀ env.locals h (casI m0 g u (cI op a b u c 2) t) → News h₀ env.locals h news → Q .next { s with heap := h, toks := tk })
    (hE : PassesOwn (model prog w) A env E := by passes_own) :
    wpAny (model prog w) A (pyIter (.ref l)) (fun it s₂ => codeAny (model prog w) A (.forLoop target it body [] env) (fun r s' => match r with | .ok f => Q f s' | .error e => cameBackBy (model prog w) A env E e s') s₂) E s := by
  refine for_tup (CasJI m0 news u (cI op a b u c)) hh hl F N ⟨⟨g, t, ?_⟩, rfl⟩ ?_ ?_ hE
  · funext y
    show (if y = _ then _ else if y = _ then _ else _) = if y = _ then _ else if y = _ then _ else _
    by_cases h1 : y = Str.ofString "u"
    · rw [if_pos h1, if_neg (by rw [h1]; decide +kernel), if_pos h1]
    · rw [if_neg h1, if_neg h1]; rfl
  · rintro i v m₁ nw₁ h tk₀ tk own wr hv - - ⟨⟨g, t, rfl⟩, rfl⟩ hoff F₁ N₁
    obtain ⟨hi, rfl⟩ := bool_at hv
    exact turn i g t h tk own wr hi hoff F₁ N₁
  · rintro h tk₀ tk m₁ nw₁ F₁ N₁ - - ⟨⟨g, t, rfl⟩, rfl⟩
    exact wpAny_execs_nil (done g t h tk F₁ N₁)
theorem cas_endI {Q : Flow → Shared → Prop} {wr : List Addr} {own nw : List (Addr × Obj)} {m' : Str → Option Value} {u : Bool} {c : BitVec 16} {x : Int} {t : Tok} {op : Op} {a b : BitVec 16} {j : Nat} {h' : Heap} {tk' : Nat} (hj : j < 2)
    (F : Fr h₀ L h' m') (N : News h₀ L h' nw) (hs : ∀ p ∈ own ++ news, p ∈ nw) (hoff : ∀ p ∈ news, p.1 ∉ wr)
    (hm : m' (Str.ofString "told") = some (.int x t)) (hx : x = iv (csStep op a b (cI op a b u c j) u (decide (j = 1)))) (hu : m' (Str.ofString "u") = some (.bool u)) (hm' : ∀ y, y ≠ Str.ofString "told" → casFree.contains y = false → m' y = m0 y) :
    TurnT h₀ L s wr own (CasJI m0 news u (cI op a b u c) (j + 1)) Q .next { s with heap := h', toks := tk' } := by
  refine ⟨h', tk', m', news, rfl, F, fun p hp => N p (hs p hp), hoff, ⟨m', t, ?_⟩, rfl⟩
  have e := cI_succ op a b c u hj
  funext y
  show _ = if y = _ then _ else if y = _ then _ else forget casFree m' m0 y
  unfold forget
  split
  · rename_i h; rw [h, hm, hx, e]
  · split
    · rename_i h; rw [h, hu]
    · rename_i h _
      cases hcz : casFree.contains y with
      | true => simp
      | false => simp only [Bool.false_eq_true, if_false]; exact hm' y h hcz
theorem cas_endO {Q : Flow → Shared → Prop} {wr : List Addr} {own nw : List (Addr × Obj)} {g : Str → Option Value} {t : Tok} {op : Op} {a b : BitVec 16} {i : Nat} {h' : Heap} {tk' : Nat} (hi : i < 2)
    (F : Fr h₀ L h' (casI m0 g (decide (i = 1)) (cI op a b (decide (i = 1)) (cO op a b i) 2) t)) (N : News h₀ L h' nw) (hs : ∀ p ∈ own ++ news, p ∈ nw) (hoff : ∀ p ∈ news, p.1 ∉ wr) :
    TurnT h₀ L s wr own (CasJ m0 news (cO op a b) (i + 1)) Q .next { s with heap := h', toks := tk' } := by
  refine ⟨h', tk', _, news, rfl, F, fun p hp => N p (hs p hp), hoff, ⟨casI m0 g (decide (i = 1)) (cI op a b (decide (i = 1)) (cO op a b i) 2) t, t, ?_⟩, rfl⟩
  have e := cO_succ op a b hi
  rw [e]
  funext y
  show _ = if y = _ then _ else forget casFree _ m0 y
  unfold forget
  split
  · rfl
  · rename_i h
    cases hcz : casFree.contains y with
    | true => simp
    | false =>
      have h2 : ¬ y = Str.ofString "u" := fun e => by rw [e] at hcz; revert hcz; decide +kernel
      simp only [Bool.false_eq_true, if_false]
      rw [if_neg h2]
      unfold forget
      rw [hcz]; rfl
/-- an If joined: told is stored anew, or stays -/
noncomputable def ToldJ (h₀ : Heap) (L : Addr) (m : Str → Option Value) (x : Int) (news : List (Addr × Obj)) (s : Shared) (f : Flow) (s' : Shared) : Prop :=
  f = .next ∧ ∃ h tk t, s' = { s with heap := h, toks := tk } ∧ Fr h₀ L h (fun y => if y = Str.ofString "told" then some (.int x t) else m y) ∧ News h₀ L h news
theorem told_if {Q : Flow → Shared → Prop} {m : Str → Option Value} {test : PySem.Expr} {pos : Pos} {body : List Stmt} (x : Int)
    (_F : Fr h₀ L s.heap m) (_N : News h₀ L s.heap news)
    (h1 : wpAny (model prog w) A (isTrue test env (eval test env)) (fun b s₂ => if b then wpAny (model prog w) A (execs body env) (ToldJ h₀ L m x news s) E s₂ else wpAny (model prog w) A (execs [] env) (ToldJ h₀ L m x news s) E s₂) E s)
    (h2 : ∀ h tk t, Fr h₀ L h (fun y => if y = Str.ofString "told" then some (.int x t) else m y) → News h₀ L h news → s.toks ≤ tk → Q .next { s with heap := h, toks := tk }) :
    wpAny (model prog w) A (exec (.If test body [] pos) env) Q E s :=
  wpAny_mono (toks_mono' (wpAny_mono (wpAny_If h1) (fun f s' H => tkle_intro fun q => And.intro q H) fun _ _ e => e)) (fun f s' ⟨q, hf, h, tk, t, hs, F, N⟩ => by subst hf hs; exact h2 h tk t F N q) fun _ _ e => e
theorem told_end {m m' : Str → Option Value} {x y' : Int} {nw : List (Addr × Obj)} {t : Tok} {h' : Heap} {tk' : Nat}
    (F : Fr h₀ L h' m') (N : News h₀ L h' nw) (hs : ∀ x ∈ news, x ∈ nw) (hm : m' (Str.ofString "told") = some (.int y' t)) (hx : y' = x) (hm' : ∀ y, y ≠ Str.ofString "told" → m' y = m y) :
    ToldJ h₀ L m x news s .next { s with heap := h', toks := tk' } := by
  refine ⟨rfl, h', tk', t, rfl, fr_eq ?_ F, fun q hq => N q (hs q hq)⟩
  funext y
  split
  · rename_i e; rw [e, hm, hx]
  · rename_i e; exact hm' y e
end
theorem cases_c (w : World) (news : List (Addr × Obj)) (op : Op) (a b : BitVec 16) (ta tb : Tok) :
  Ctr w 296 news [.ref op.fn, .int (iv a) ta, .int (iv b) tb] 2 16 (fun r tl => (∃ t, r = .int (iv (op.bv a b)) t) ∧ tl = []) := by
  k_with_none
  w_top off
  k_with "mine mem" => (first | (refine' mem_here ?_; ktr_member) | (refine' mem_appR ?_; k_mem) | (refine' mem_appL ?_; k_mem) | fail)
  k_with "mine ltL" => ((repeat (first | with_reducible exact lt_up0 | with_reducible refine lt_up ?_)); done)
  k_with "mine tk2" => (first | with_reducible assumption | with_reducible exact le_one | with_reducible exact Nat.le_refl _ | with_reducible exact Nat.succ_le_of_lt (by with_reducible assumption) | (with_reducible refine le_up ?_; k_extra "mine tk2") | (with_reducible refine le_chain (by with_reducible assumption) ?_; k_extra "mine tk2"))
  k_with "mine tk1" => ((try dsimp only); k_extra "mine tk2")
  k_with "mine size" => (first | (refine' sz_arr ?szA ?szB; (case szA => with_reducible assumption); (case szB => rfl)) | (refine' sz_line ?szA ?szB; (case szA => with_reducible assumption); (case szB => rfl)) | exact Nat.le_of_ble_eq_true rfl | fail)
  k_with "mine room" => ((first | k_dflt refine' rm2 ?rmA ?rmB | k_dflt refine' rm1 ?rmA ?rmB | k_dflt refine' rm0 ?rmA); (case rmA => k_dflt assumption); (try (case rmB => rfl)))
  k_with "mine ne" => (refine neN ?_; (try dsimp only); first | exact ne_all (by with_reducible assumption) (by k_mem) | exact ne_all' (by with_reducible assumption) (by k_mem) | with_reducible assumption | exact Ne.symm (by with_reducible assumption) | exact ne_gt (by k_extra "mine ltL") | exact ne_lt (by k_extra "mine ltL") | exact ne_gt (by with_reducible assumption) | exact ne_lt (by with_reducible assumption) | exact ne_far (by with_reducible assumption) (by k_extra "mine ltL") | exact ne_far' (by with_reducible assumption) (by k_extra "mine ltL") | omega | fail)
  k_with "mine all" => (first | with_reducible assumption | exact all_ne (by with_reducible assumption) (by k_extra "mine sub") | fail)
  k_with "mine free" => (intro yy; intros; repeat (first | with_reducible exact rfl | with_reducible exact forget_off (by with_reducible assumption) | (refine' Eq.trans (if_neg ?fnC) ?_; (case fnC => first | with_reducible assumption | exact ne_free (by with_reducible assumption) (by kernel_rfl))) | exact rfl))
  k_with "evalPairs" => (k_here; dsimp only)
  k_with "Exists" => (k_here; dsimp only)
  k_with "execs cons" => (k_here; refine' nx_start ?_; intro tkz htkz; (try dsimp only at htkz))
  k_with "Nx" => ((try dsimp only); (first | (with_reducible refine' nx_cons0 ?_; intro tkz htkz) | (with_reducible refine' nx_cons ?_; intro tkz htl htkz) | ((first | with_reducible refine' nx_nil0 ?_ | with_reducible refine' nx_ret0 ?_ | with_reducible refine' nx_open0 ?_); (try dsimp only)) | ((first | with_reducible refine' nx_nil ?_ | with_reducible refine' nx_ret ?_ | with_reducible refine' nx_open ?_ | with_reducible refine' nx_brk ?_ | with_reducible refine' nx_cont ?_); intro htl; (try dsimp only at htl); (try dsimp only))))
  k_with "execs nil" => (k_here; (refine wpAny_execs_nil ?_); (try dsimp only))
  k_with "newList" => (k_here; k_dflt (refine' new_lst ?nlF ?nlN ?nlz ?_; (case nlF => k_asm); (case nlN => k_asm); (case nlz => rfl); k_whole); intro d' h' F' N' l1; (try k_sweep))
  k_with "newTuple" => (k_here; k_dflt (refine' new_tup ?nlF ?nlN ?nlz ?_; (case nlF => k_asm); (case nlN => k_asm); (case nlz => rfl); k_whole); intro d' h' F' N' l1; (try k_sweep))
  k_with "mine sub" => ((repeat (first | with_reducible exact sub_nil | with_reducible exact sub_app | with_reducible refine sub_cons ?_ | with_reducible refine sub_app' ?_)); done)
  k_with "mine end2" => ((case F => k_asm); (case N => k_asm); (case S => k_extra "mine sub"); (case P => (refine' lt_sub ?a ?b; (case a => with_reducible assumption); (case b => k_extra "mine sub"))); (case R => (refine' lt_sub ?a ?b; (case a => with_reducible assumption); (case b => k_extra "mine sub"))))
  unfold Ctr
  k_fill
  intro mean mg mb dp un gd cn cs a_ ccd cl outer A₀ base h₀ L m s Q E B F X N T hk hd hu hret
  refine wpAny_call ?_
  k_dflt ktr_enter
  k_with "TkLe" => (refine' tkle_intro ?_; intro htl; (try dsimp only at htl); (try dsimp only))
  k_with "exec For Name Tuple cons nil" => (k_dflt (refine' wpAny_For ?_ ?hs; (case hs => intro _; rfl)))
  k_with "pyIter ref" => (first | (k_dflt (refine' cas_outer op a b ?xh ?xl ?xF ?xN ?turnO ?doneO ?xE; (case xh => rfl); (case xF => k_asm); (case xN => k_asm); (case xl => k_mem); (case xE => passes_own)); (case' doneO => (intro g tt hh tkh F1 N1; (try dsimp only))); (case' turnO => (intro i g tt hh tkh own wr hi hoff F1 N1; (try dsimp only)))) | (k_dflt (refine' cas_inner op a b ?xh ?xl ?xF ?xN ?turnI ?doneI ?xE; (case xh => rfl); (case xF => k_asm); (case xN => k_asm); (case xl => k_mem); (case xE => passes_own)); (case' doneI => (intro gI ttI hhI tkI FI NI; (try dsimp only))); (case' turnI => (intro j gj tj hj tkj ownj wrj hj2 hoffj Fj Nj; (try dsimp only)))))
  k_with "callWith ref nil nil" => (k_dflt (refine' callWith_K ?k1 (keep_fn w op) ?_; (case k1 => k_asm); k_whole))
  k_with "call ref" => (first | (k_dflt (refine' Ctr.use_v (opB_c w _ op _ _) ?yB ?yFr ?yX ?yN ?yT ?yk ?yd ?yu ?_; (case yB => k_asm); (case yFr => k_asm); (case yX => k_asm); (case yN => k_asm); (case yT => k_asm); (case yk => rfl); (case yd => ktr_room); (case yu => ktr_units)); (intro h' tkr F' N'; (try dsimp only); rcases htt : op.tt (decide (i = 1)) (decide (j = 1)) with _ | _)) | (k_dflt (refine' Ctr.use_t (orI_c w _ _ _ _ _) ?yB ?yFr ?yX ?yN ?yT ?yk ?yd ?yu ?_; (case yB => k_asm); (case yFr => k_asm); (case yX => k_asm); (case yN => k_asm); (case yT => k_asm); (case yk => rfl); (case yd => ktr_room); (case yu => ktr_units)); (intro tr h' tkr F' N'; (try dsimp only))) | (k_dflt (refine' Ctr.use_t (andI_c w _ _ _ _ _) ?yB ?yFr ?yX ?yN ?yT ?yk ?yd ?yu ?_; (case yB => k_asm); (case yFr => k_asm); (case yX => k_asm); (case yN => k_asm); (case yT => k_asm); (case yk => rfl); (case yd => ktr_room); (case yu => ktr_units)); (intro tr h' tkr F' N'; (try dsimp only))))
  k_with "TurnT next" => (first | (k_dflt (refine' cas_endO hi ?eF ?eN ?eS hoff; (case eF => k_asm); (case eN => k_asm); (case eS => k_extra "mine sub"))) | (k_dflt (refine' cas_endI hj2 ?eF ?eN ?eS hoffj ?em ?ex ?eu ?em'; (case eF => k_asm); (case eN => k_asm); (case eS => k_extra "mine sub"); (case em => rfl); (case ex => rfl); (case eu => rfl); (case em' => k_extra "mine free"))))
  k_with "exec If Compare cons nil" => (k_dflt (refine' told_if (iv (csStep op a b (cI op a b (decide (i = 1)) (cO op a b i) j) (decide (i = 1)) (decide (j = 1)))) ?tF ?tN ?_ ?_; (case tF => k_asm); (case tN => k_asm)))
  k_with "ToldJ next" => (k_dflt (refine' told_end ?eF ?eN ?eS ?em ?ex ?em'; (case eF => k_asm); (case em => rfl); (case eN => k_asm); (case eS => k_extra "mine sub"); (case ex => first | exact csN htt | exact csY htt (cslT (by assumption)) (cslT (by assumption)) | exact csY htt (cslT (by assumption)) (cslF (by assumption)) | exact csY htt (cslF (by assumption)) (cslT (by assumption)) | exact csY htt (cslF (by assumption)) (cslF (by assumption))); (case em' => k_extra "mine free")))
  k_with "LeaveK" => (k_dflt (refine' leaveK_ ?k1 ?k2 ?_; (case k1 => k_asm); (case k2 => k_asm); k_whole); intro kF kN; k_dflt (refine' ret0 hret kF kN ?g1 ⟨⟨_, rfl⟩, rfl⟩; (case g1 => k_extra "mine sub")))
  k_with "∀" => (intro hT tkT tT FT NT leT; (try dsimp only at leT); (try dsimp only))
  k_with "TurnT" => (dsimp only [TurnT])
  k_steps
/-- one turn of the work with two piles; P is what stands behind it -/
inductive EvS (cv : Nat → BitVec 16) (x : BitVec 16) (P : List Int → List (BitVec 16) → Prop) : Int → List Int → List (BitVec 16) → Prop where
  | leaf0 {i : Nat} {vs : List (BitVec 16)} : i < 4 → P [] (vs ++ [cv i]) → EvS cv x P (256 + (i : Int)) [] vs
  | leaf {i : Nat} {ms : List Int} {k : Int} {vs : List (BitVec 16)} : i < 4 → k ≠ 31 → P (ms ++ [k]) (vs ++ [cv i]) → EvS cv x P (256 + (i : Int)) (ms ++ [k]) vs
  | neg {i : Nat} {ms : List Int} {vs : List (BitVec 16)} : i < 4 → P ms (vs ++ [~~~ cv i]) → EvS cv x P (256 + (i : Int)) (ms ++ [31]) vs
  | close {op : Op} {m : Int} {ms : List Int} {a b : BitVec 16} {vs : List (BitVec 16)} : P ms (vs ++ [op.bv a b]) → EvS cv x P 8 (ms ++ [m] ++ [op.num]) (vs ++ [a] ++ [b])
  | eof {ms : List Int} {vs : List (BitVec 16)} : EvS cv x P 0 ms (vs ++ [x])
  | mark {n : Int} {ms : List Int} {vs : List (BitVec 16)} : n < 256 → n ≠ 8 → n ≠ 0 → P (ms ++ [n]) vs → EvS cv x P n ms vs
/-- the work with two piles: rows left, marks, values, the answer -/
noncomputable def Ev (cv : Nat → BitVec 16) : List Int → List Int → List (BitVec 16) → BitVec 16 → Prop
  | [], _, _, _ => False
  | n :: r, ms, vs, x => EvS cv x (fun ms vs => Ev cv r ms vs x) n ms vs
noncomputable def ivs (vs : List (BitVec 16)) : List Int := vs.map iv
theorem ivs_app (a b : List (BitVec 16)) : ivs (a ++ b) = ivs a ++ ivs b := List.map_append
theorem ints_snoc {us : List Value} {l : List Int} {k : Int} (h : IntsAre us (l ++ [k])) : ∃ ps t, us = ps ++ [Value.int k t] ∧ IntsAre ps l := by
  have hl : 0 < us.length := by have e := h.length; rw [e, List.length_append]; exact Nat.succ_pos _
  obtain ⟨y, t, h1, h2, h3⟩ := kpa_ints h hl
  rw [List.dropLast_concat] at h3
  rw [List.getLastD_concat] at h2
  exact ⟨us.dropLast, t, by rw [← h2]; exact h1, h3⟩
theorem ints_is {us : List Value} {ns : List Int} (h : IntsAre us ns) : ∀ (i : Nat) (v : Value) (hn : i < ns.length), us[i]? = some v → ∃ t, v = .int ns[i] t := by
  induction h with
  | nil => intro i v hn; exact absurd hn (Nat.not_lt_zero _)
  | cons k u _ ih =>
    intro i v hn hx
    cases i with
    | zero => cases hx; exact ⟨u, rfl⟩
    | succ i => exact ih i v (Nat.lt_of_succ_lt_succ hn) hx
theorem ge_256 {j : Nat} : 256 + (j : Int) ≥ 256 := Int.le_add_of_nonneg_right (Int.natCast_nonneg j)
theorem sub_256 {j : Nat} : 256 + (j : Int) - 256 = (j : Int) := by rw [Int.add_comm, Int.add_sub_cancel]
theorem snoc_le {α : Type} {l : List α} {x : α} {n : Nat} (h : l.length ≤ n) : (l ++ [x]).length ≤ n + 1 := by rw [List.length_append]; exact Nat.add_le_add_right h 1
theorem len_snoc1 {α : Type} {l : List α} {x : α} {i : Nat} (h : (l ++ [x]).length ≤ i) : l.length ≤ i := by
  rw [List.length_append] at h
  exact Nat.le_trans (Nat.le_add_right _ _) h
noncomputable def worFree : List Str := [Str.ofString "symbol", Str.ofString "value", Str.ofString "deed", Str.ofString "right"]
inductive WorJ (m0 : Str → Option Value) (M V : Addr) (cv : Nat → BitVec 16) (x : BitVec 16) (row : List Int) (i : Nat) : (Str → Option Value) → List (Addr × Obj) → Prop where
  | mk (g : Str → Option Value) (msV : List Value) (ms : List Int) (valV : List Value) (vals : List (BitVec 16)) (eM eV : Nat) (h1 : IntsAre msV ms) (h2 : IntsAre valV (ivs vals)) (h3 : Ev cv (row.drop i) ms vals x) (h4 : msV.length ≤ i) (h5 : valV.length ≤ i) : WorJ m0 M V cv x row i (forget worFree g m0) [(V, PySem.W.listOf (List.toArray valV) eV), (M, PySem.W.listOf (List.toArray msV) eM)]
section
variable {prog : Program} {w : World} {A : Around} {E : Value → Shared → Prop} {s : Shared} {h₀ : Heap} {L : Addr} {env : Env} {m0 : Str → Option Value} {news : List (Addr × Obj)} {M V : Addr} {cv : Nat → BitVec 16} {x : BitVec 16} {row : List Int}
noncomputable abbrev worLed (I : Addr) (oI : Obj) (V M : Addr) (valV msV : List Value) (eV eM : Nat) (news : List (Addr × Obj)) : List (Addr × Obj) := (I, oI) :: (V, PySem.W.listOf valV.toArray eV) :: (M, PySem.W.listOf msV.toArray eM) :: news
theorem worJ_start {m m' : Str → Option Value} {i : Nat} {acc : List (Addr × Obj)} (e : m' = m) (h : WorJ m0 M V cv x row i m acc) : WorJ m0 M V cv x row i m' acc := e ▸ h
theorem wor_for {body : List Stmt} {Q : Flow → Shared → Prop} {l : Addr} {vs : List Value} {e eM eV : Nat}
    (hh : A.handled = none) (hl : (l, PySem.W.listOf vs.toArray e) ∈ news) (hv : IntsAre vs row) (F : Fr h₀ env.locals s.heap m0) (N : News h₀ env.locals s.heap ((V, PySem.W.listOf #[] eV) :: (M, PySem.W.listOf #[] eM) :: news)) (hev : Ev cv row [] [] x)
    (tLeaf0 : ∀ i g t valV vals eM eV h tk I oI r j, j < 4 → i < vs.length → I ≠ V → I ≠ M → IntsAre valV (ivs vals) → valV.length ≤ i → row.drop (i + 1) = r → Ev cv r [] (vals ++ [cv j]) x →
      Fr h₀ env.locals h (fun y => if y = Str.ofString "symbol" then some (.int (256 + (j : Int)) t) else forget worFree g m0 y) → News h₀ env.locals h (worLed I oI V M valV [] eV eM news) →
      wpAny (model prog w) A (execs body env) (LedPost h₀ env.locals (WorJ m0 M V cv x row (i + 1)) I oI news { s with heap := h, toks := tk } Q) E { s with heap := h, toks := tk })
    (tLeaf : ∀ i g t msV ms k tk' valV vals eM eV h tk I oI r j, j < 4 → k ≠ 31 → i < vs.length → I ≠ V → I ≠ M → IntsAre msV ms → msV.length ≤ i → IntsAre valV (ivs vals) → valV.length ≤ i → row.drop (i + 1) = r → Ev cv r (ms ++ [k]) (vals ++ [cv j]) x →
      Fr h₀ env.locals h (fun y => if y = Str.ofString "symbol" then some (.int (256 + (j : Int)) t) else forget worFree g m0 y) → News h₀ env.locals h (worLed I oI V M valV (msV ++ [.int k tk']) eV eM news) →
      wpAny (model prog w) A (execs body env) (LedPost h₀ env.locals (WorJ m0 M V cv x row (i + 1)) I oI news { s with heap := h, toks := tk } Q) E { s with heap := h, toks := tk })
    (tNeg : ∀ i g t msV ms tk' valV vals eM eV h tk I oI r j, j < 4 → i < vs.length → I ≠ V → I ≠ M → IntsAre msV ms → msV.length ≤ i → IntsAre valV (ivs vals) → valV.length ≤ i → row.drop (i + 1) = r → Ev cv r ms (vals ++ [~~~ cv j]) x →
      Fr h₀ env.locals h (fun y => if y = Str.ofString "symbol" then some (.int (256 + (j : Int)) t) else forget worFree g m0 y) → News h₀ env.locals h (worLed I oI V M valV (msV ++ [.int 31 tk']) eV eM news) →
      wpAny (model prog w) A (execs body env) (LedPost h₀ env.locals (WorJ m0 M V cv x row (i + 1)) I oI news { s with heap := h, toks := tk } Q) E { s with heap := h, toks := tk })
    (tClose : ∀ i g t msV ms m tm op to valV vals a b ta tb eM eV h tk I oI r, i < vs.length → I ≠ V → I ≠ M → IntsAre msV ms → msV.length ≤ i → IntsAre valV (ivs vals) → valV.length ≤ i → row.drop (i + 1) = r → Ev cv r ms (vals ++ [Op.bv op a b]) x →
      Fr h₀ env.locals h (fun y => if y = Str.ofString "symbol" then some (.int 8 t) else forget worFree g m0 y) → News h₀ env.locals h (worLed I oI V M ((valV ++ [.int (iv a) ta]) ++ [.int (iv b) tb]) ((msV ++ [.int m tm]) ++ [.int op.num to]) eV eM news) →
      wpAny (model prog w) A (execs body env) (LedPost h₀ env.locals (WorJ m0 M V cv x row (i + 1)) I oI news { s with heap := h, toks := tk } Q) E { s with heap := h, toks := tk })
    (tEof : ∀ i g t msV valV tx eM eV h tk I oI, i < vs.length → I ≠ V → I ≠ M → valV.length ≤ i →
      Fr h₀ env.locals h (fun y => if y = Str.ofString "symbol" then some (.int 0 t) else forget worFree g m0 y) → News h₀ env.locals h (worLed I oI V M (valV ++ [.int (iv x) tx]) msV eV eM news) →
      wpAny (model prog w) A (execs body env) (LedPost h₀ env.locals (WorJ m0 M V cv x row (i + 1)) I oI news { s with heap := h, toks := tk } Q) E { s with heap := h, toks := tk })
    (tMark : ∀ i g t n msV ms valV vals eM eV h tk I oI r, n < 256 → n ≠ 8 → n ≠ 0 → i < vs.length → I ≠ V → I ≠ M → IntsAre msV ms → msV.length ≤ i → IntsAre valV (ivs vals) → valV.length ≤ i → row.drop (i + 1) = r → Ev cv r (ms ++ [n]) vals x →
      Fr h₀ env.locals h (fun y => if y = Str.ofString "symbol" then some (.int n t) else forget worFree g m0 y) → News h₀ env.locals h (worLed I oI V M valV msV eV eM news) →
      wpAny (model prog w) A (execs body env) (LedPost h₀ env.locals (WorJ m0 M V cv x row (i + 1)) I oI news { s with heap := h, toks := tk } Q) E { s with heap := h, toks := tk }) :
    wpAny (model prog w) A (pyIter (.ref l)) (fun it s₂ => LoopAtV prog w A h₀ env (Str.ofString "symbol") body Q E it s₂) E s := by
  refine iter_led (acc₀ := [(V, PySem.W.listOf (List.toArray []) eV), (M, PySem.W.listOf (List.toArray []) eM)]) (WorJ m0 M V cv x row) hh hl F N (worJ_start forget_self (.mk m0 [] [] [] [] eM eV .nil .nil hev (Nat.le_refl _) (Nat.le_refl _))) ?_ ?_
  · rintro i v m₁ acc h tk I oI hx ⟨g, msV, ms, valV, vals, eM, eV, hms, hvals, hEv, hl1, hl2⟩ hoff F₁ N₁
    have hil : i < vs.length := (List.getElem?_eq_some_iff.mp hx).1
    have hIV : I ≠ V := fun e => hoff (V, _) (.head _) e.symm
    have hIM : I ≠ M := fun e => hoff (M, _) (.tail _ (.head _)) e.symm
    have hir : i < row.length := by rw [← hv.length]; exact hil
    have hd : row.drop i = row[i] :: row.drop (i + 1) := List.drop_eq_getElem_cons hir
    obtain ⟨t, rfl⟩ := ints_is hv i v hir hx
    rw [hd] at hEv
    replace hEv : EvS cv x (fun ms vs => Ev cv (row.drop (i + 1)) ms vs x) row[i] ms vals := hEv
    generalize row[i] = n at hEv F₁
    cases hEv with
    | leaf0 hj hE =>
      cases hms
      exact tLeaf0 i g t valV vals eM eV h tk I oI _ _ hj hil hIV hIM hvals hl2 rfl hE F₁ N₁
    | leaf hj hk hE =>
      obtain ⟨ps, tk', rfl, hps⟩ := ints_snoc hms
      exact tLeaf i g t ps _ _ tk' valV vals eM eV h tk I oI _ _ hj hk hil hIV hIM hps (len_snoc1 hl1) hvals hl2 rfl hE F₁ N₁
    | neg hj hE =>
      obtain ⟨ps, tk', rfl, hps⟩ := ints_snoc hms
      exact tNeg i g t ps _ tk' valV vals eM eV h tk I oI _ _ hj hil hIV hIM hps (len_snoc1 hl1) hvals hl2 rfl hE F₁ N₁
    | close hE =>
      obtain ⟨ps, to, rfl, hps⟩ := ints_snoc hms
      obtain ⟨ps, tm, rfl, hps2⟩ := ints_snoc hps
      rw [ivs_app, ivs_app] at hvals
      obtain ⟨qs, tb, rfl, hqs⟩ := ints_snoc hvals
      obtain ⟨qs, ta, rfl, hqs2⟩ := ints_snoc hqs
      exact tClose i g t ps _ _ tm _ to qs _ _ _ ta tb eM eV h tk I oI _ hil hIV hIM hps2 (len_snoc1 (len_snoc1 hl1)) hqs2 (len_snoc1 (len_snoc1 hl2)) rfl hE F₁ N₁
    | eof =>
      rw [ivs_app] at hvals
      obtain ⟨qs, tb, rfl, hqs⟩ := ints_snoc hvals
      exact tEof i g t msV qs tb eM eV h tk I oI hil hIV hIM (len_snoc1 hl2) F₁ N₁
    | mark h1 h2 h3 hE =>
      exact tMark i g t _ msV ms valV vals eM eV h tk I oI _ h1 h2 h3 hil hIV hIM hms hl1 hvals hl2 rfl hE F₁ N₁
  · rintro m₁ acc h tk ⟨g, msV, ms, valV, vals, eM, eV, -, -, hEv, -, -⟩
    rw [List.drop_of_length_le (by rw [hv.length]; exact Nat.le_refl _)] at hEv
    exact hEv.elim
theorem wor_end {m' : Str → Option Value} {nw : List (Addr × Obj)} {I : Addr} {oI : Obj} {msV valV : List Value} {ms : List Int} {vals : List (BitVec 16)} {aV aM : Array Value} {eV eM i : Nat} {r : List Int} {s₁ : Shared} {h' : Heap} {tk' : Nat}
    (F : Fr h₀ L h' m') (N : News h₀ L h' nw) (hI : (I, oI) ∈ nw) (hV : (V, PySem.W.listOf aV eV) ∈ nw) (hM : (M, PySem.W.listOf aM eM) ∈ nw) (hs : ∀ p ∈ news, p ∈ nw)
    (hm' : ∀ y, worFree.contains y = false → m' y = m0 y) (haV : aV = valV.toArray) (haM : aM = msV.toArray) (hIV : I ≠ V) (hIM : I ≠ M) (hms : IntsAre msV ms) (hvals : IntsAre valV (ivs vals)) (hr : row.drop (i + 1) = r) (hE : Ev cv r ms vals x) (h1 : msV.length ≤ i + 1) (h2 : valV.length ≤ i + 1) :
    LedEnd h₀ L (WorJ m0 M V cv x row (i + 1)) I oI news s₁ { s₁ with heap := h', toks := tk' } := by
  subst haV haM
  refine ⟨h', tk', m', [(V, _), (M, _)], rfl, F, ?_, ?_, worJ_start (forget_eq hm') (.mk m' msV ms valV vals eM eV hms hvals (hr ▸ hE) h1 h2)⟩
  · intro p hp
    rcases List.mem_cons.mp hp with rfl | hp
    · exact N _ hI
    rcases List.mem_append.mp hp with hp | hp
    · rcases List.mem_cons.mp hp with rfl | hp
      · exact N _ hV
      · rw [List.mem_singleton.mp hp]; exact N _ hM
    · exact N _ (hs p hp)
  · intro p hp
    rcases List.mem_cons.mp hp with rfl | hp
    · exact hIV.symm
    · rw [List.mem_singleton.mp hp]; exact hIM.symm
end
section
variable {prog : Program} {w : World} {A : Around} {E : Value → Shared → Prop} {s : Shared} {value slice : PySem.Expr} {h₀ : Heap} {L D a b : Addr} {m : Str → Option Value} {news news' : List (Addr × Obj)} {e e' n : Nat} {t : Tok} {Q : Value → Shared → Prop}
theorem pop_lst {p : List Value} {y : Value} (F : Fr h₀ L s.heap m) (N : News h₀ L s.heap news) (U : Upd D (PySem.W.listOf (p ++ [y]).toArray n) (PySem.W.listOf p.toArray (n + 1)) news news') (hz : p.length ≤ 1000)
    (h : ∀ h', Fr h₀ L h' m → News h₀ L h' news' → Q y { s with heap := h' }) : wpAny (model prog w) A (call (.builtin "list.pop") [.ref D]) Q E s :=
  kl_pop F N (kpa_last y p) U (by rw [sizeLine_eq]; simp; omega) h
theorem last_lst {p : List Value} {y : Value} (N : News h₀ L s.heap news) (hm : (D, PySem.W.listOf (p ++ [y]).toArray e) ∈ news) (h : Q y s)
    (hs : subscripted slice false (.ref D) (.int (-1) t) = operate [.ref D, .int (-1) t] (getItem (.ref D) (.int (-1) t)) := by with_unfolding_all rfl) :
    wpAny (model prog w) A (subscriptTail value slice (.ref D) (.int (-1) t)) Q E s := by
  have hL := News.isList N hm
  refine tail_any hL.typeIs slot_list_getitem.lookup (wpAny_getItem_list_neg hL (by decide) ?_ (by decide) (x := y) ?_ h) hs
  · rw [List.size_toArray, List.length_append, List.length_singleton]; omega
  · have e : ((-1 : Int) + ((p ++ [y]).toArray.size : Int)).toNat = p.length := by rw [List.size_toArray, List.length_append, List.length_singleton]; omega
    rw [e]; simp
theorem ne_lst_yes {xs : List Value} {ns : List Int} {y : Value} (N : News h₀ L s.heap news) (ha : (a, PySem.W.listOf (xs ++ [y]).toArray e) ∈ news) (hb : (b, PySem.W.listOf (List.toArray []) e') ∈ news) (hi : IntsAre (xs ++ [y]) ns) (hu : A.units + 64 < cLine) (h : Q (.bool true) s) :
    wpAny (model prog w) A (compareOp .NotEq (.ref a) (.ref b)) Q E s := by
  refine ke_ne_ints (News.isList N ha) (News.isList N hb) hi .nil hu ?_
  have : ns ≠ [] := fun e => by
    have hl := hi.length
    rw [e, List.length_append] at hl
    exact absurd hl (Nat.succ_ne_zero _)
  rw [decide_eq_false this]; exact h
theorem ne_lst_no (N : News h₀ L s.heap news) (ha : (a, PySem.W.listOf (List.toArray []) e) ∈ news) (hb : (b, PySem.W.listOf (List.toArray []) e') ∈ news) (hu : A.units + 64 < cLine) (h : Q (.bool false) s) :
    wpAny (model prog w) A (compareOp .NotEq (.ref a) (.ref b)) Q E s :=
  ke_ne_ints (News.isList N ha) (News.isList N hb) .nil .nil hu (by rw [decide_eq_true rfl]; exact h)
theorem deed_at {kvs : List (Int × Value)} {o : Obj} (op : Op) (N : News h₀ L s.heap news) (hm : (D, o) ∈ news) (hd : o.IsDictOf (PySem.intKind prog w) kvs) (hk : kvs = [(19, .ref 63), (18, .ref 84), (32, .ref 98), (27, .ref 35), (20, .ref 21), (21, .ref 49), (29, .ref 28), (30, .ref 42)]) (h : Q (.ref op.fn) { s with toks := s.toks + 1 })
    (hs : subscripted slice false (.ref D) (.int op.num t) = operate [.ref D, .int op.num t] (getItem (.ref D) (.int op.num t)) := by with_unfolding_all rfl) (hg : ∀ r, letTemporaryGo value (.ref D) r = pure () := by intro _; with_unfolding_all rfl) :
    wpAny (model prog w) A (subscriptTail value slice (.ref D) (.int op.num t)) Q E s := by
  subst hk
  refine kda_item (k := op.num) N hm hd ?_ ?_ h hs hg
  · exact intKind_is prog w op.num t
  · cases op <;> rfl
end
theorem and_inv (c : BitVec 16) : Builtin.bitAnd (Builtin.bitNot (iv c)) 65535 = iv (~~~c) := by
  have h := iv_lt c
  rw [bitAnd_m16, ← iv_not]
  unfold Builtin.bitNot
  omega
theorem push_eq (p : List Value) (y : Value) : p.toArray.push y = (p ++ [y]).toArray := by simp
theorem ivs_snoc {valV : List Value} {vals : List (BitVec 16)} {y : Int} {b : BitVec 16} {t : Tok} (h : IntsAre valV (ivs vals)) (e : y = iv b) : IntsAre (valV ++ [.int y t]) (ivs (vals ++ [b])) := by
  subst e
  rw [ivs_app]
  exact h.append (.cons _ _ .nil)
theorem len_snoc {p : List Value} {y : Value} {i : Nat} (h : p.length ≤ i) : (p ++ [y]).length ≤ i + 1 := by
  rw [List.length_append, List.length_singleton]; omega
theorem worth_c (w : World) (news : List (Addr × Obj)) (R C : Addr) (vs cs' : List Value) (er ec : Nat) (row : List Int) (cv : Nat → BitVec 16) (x : BitVec 16) (hR : (R, W.listOf vs.toArray er) ∈ news) (hC : (C, W.listOf cs'.toArray ec) ∈ news) (hv : IntsAre vs row) (hlen : row.length ≤ 500) (hc4 : cs'.length = 4) (hcs : ∀ i, i < 4 → ∃ t, cs'[i]? = some (.int (iv (cv i)) t)) (hev : Ev cv row [] [] x) :
  Ctr w 303 news [.ref R, .ref C] 4 120 (fun r tl => (∃ t, r = .int (iv x) t) ∧ tl = []) := by
  k_with_none
  w_top off
  k_with "mine mem" => (first | (refine' mem_here ?_; ktr_member) | (refine' mem_appR ?_; k_mem) | (refine' mem_appL ?_; k_mem) | fail)
  k_with "mine ltL" => ((repeat (first | with_reducible exact lt_up0 | with_reducible refine lt_up ?_)); done)
  k_with "mine tk2" => (first | with_reducible assumption | with_reducible exact le_one | with_reducible exact Nat.le_refl _ | with_reducible exact Nat.succ_le_of_lt (by with_reducible assumption) | (with_reducible refine le_up ?_; k_extra "mine tk2") | (with_reducible refine le_chain (by with_reducible assumption) ?_; k_extra "mine tk2"))
  k_with "mine tk1" => ((try dsimp only); k_extra "mine tk2")
  k_with "mine size" => (first | (refine' sz_arr ?szA ?szB; (case szA => with_reducible assumption); (case szB => rfl)) | (refine' sz_line ?szA ?szB; (case szA => with_reducible assumption); (case szB => rfl)) | exact Nat.le_of_ble_eq_true rfl | fail)
  k_with "mine room" => ((first | k_dflt refine' rm2 ?rmA ?rmB | k_dflt refine' rm1 ?rmA ?rmB | k_dflt refine' rm0 ?rmA); (case rmA => k_dflt assumption); (try (case rmB => rfl)))
  k_with "mine ne" => (refine neN ?_; (try dsimp only); first | exact ne_all (by with_reducible assumption) (by k_mem) | exact ne_all' (by with_reducible assumption) (by k_mem) | with_reducible assumption | exact Ne.symm (by with_reducible assumption) | exact ne_gt (by k_extra "mine ltL") | exact ne_lt (by k_extra "mine ltL") | exact ne_gt (by with_reducible assumption) | exact ne_lt (by with_reducible assumption) | exact ne_far (by with_reducible assumption) (by k_extra "mine ltL") | exact ne_far' (by with_reducible assumption) (by k_extra "mine ltL") | omega | fail)
  k_with "mine all" => (first | with_reducible assumption | exact all_ne (by with_reducible assumption) (by k_extra "mine sub") | fail)
  k_with "mine free" => (intro yy; intros; repeat (first | with_reducible exact rfl | with_reducible exact forget_off (by with_reducible assumption) | (refine' Eq.trans (if_neg ?fnC) ?_; (case fnC => first | with_reducible assumption | exact ne_free (by with_reducible assumption) (by kernel_rfl))) | exact rfl))
  k_with "evalPairs" => (k_here; dsimp only)
  k_with "Exists" => (k_here; dsimp only)
  k_with "execs cons" => (k_here; refine' nx_start ?_; intro tkz htkz; (try dsimp only at htkz))
  k_with "Nx" => ((try dsimp only); (first | (with_reducible refine' nx_cons0 ?_; intro tkz htkz) | (with_reducible refine' nx_cons ?_; intro tkz htl htkz) | ((first | with_reducible refine' nx_nil0 ?_ | with_reducible refine' nx_ret0 ?_ | with_reducible refine' nx_open0 ?_); (try dsimp only)) | ((first | with_reducible refine' nx_nil ?_ | with_reducible refine' nx_ret ?_ | with_reducible refine' nx_open ?_ | with_reducible refine' nx_brk ?_ | with_reducible refine' nx_cont ?_); intro htl; (try dsimp only at htl); (try dsimp only))))
  k_with "execs nil" => (k_here; (refine wpAny_execs_nil ?_); (try dsimp only))
  k_with "newList" => (k_here; k_dflt (refine' new_lst ?nlF ?nlN ?nlz ?_; (case nlF => k_asm); (case nlN => k_asm); (case nlz => rfl); k_whole); intro d' h' F' N' l1; (try k_sweep))
  k_with "newTuple" => (k_here; k_dflt (refine' new_tup ?nlF ?nlN ?nlz ?_; (case nlF => k_asm); (case nlN => k_asm); (case nlz => rfl); k_whole); intro d' h' F' N' l1; (try k_sweep))
  k_with "mine sub" => ((repeat (first | with_reducible exact sub_nil | with_reducible exact sub_app | with_reducible refine sub_cons ?_ | with_reducible refine sub_app' ?_)); done)
  k_with "mine end2" => ((case F => k_asm); (case N => k_asm); (case S => k_extra "mine sub"); (case P => (refine' lt_sub ?a ?b; (case a => with_reducible assumption); (case b => k_extra "mine sub"))); (case R => (refine' lt_sub ?a ?b; (case a => with_reducible assumption); (case b => k_extra "mine sub"))))
  unfold Ctr
  k_fill
  have hvlen : vs.length ≤ 500 := by rw [hv.length]; exact hlen
  intro mean mg mb dp un gd cn cs a_ ccd cl outer A₀ base h₀ L m s Q E B F X N T hk hd hu hret
  refine wpAny_call ?_
  k_dflt ktr_enter
  k_with "TkLe" => (refine' tkle_intro ?_; intro htl; (try dsimp only at htl); (try dsimp only))
  k_with "eval Dict cons cons" => (k_dflt (refine' kdn_eval (knd := PySem.intKind PySem.Challenge.rw_xn0025_01.row.prog w) ?kdF ?kdN ?kdb ?kda ?kdl ?kde ?kdn ?_; (case kdF => k_asm); (case kdN => k_asm); (case kdb => exact Top.nolimit (by k_asm)); (case kda => rfl); (case kdl => rfl); (case kde => exact List.cons_ne_nil _ _); (case kdn => exact Nat.le_of_ble_eq_true rfl)); intro Dd hDd oDd FDd NDd lDd loDd hdd)
  k_with "KdnMade" => (k_dflt (refine' kdn_made_int ?kmF ?kmN ?kmU ?kmd ?kmk ?kmn ?_; (case kmF => k_asm); (case kmN => k_asm); (case kmU => k_updF); (case kmd => k_asm); (case kmk => rfl); (case kmn => exact of_decide_eq_true (by first | rfl | kernel_rfl!)); intro hMd oMd FMd NMd hmd); (try dsimp only at NMd))
  k_with "exec For Name Name cons nil" => ((rename Fr _ _ _ _ => lF'); (with_unfolding_all refine' For_invVF lF' ?k1 ?k2 ?_; (case k1 => exact rfl); (case k2 => exact rfl); k_whole))
  k_with "pyIter ref" => (k_dflt (refine' wor_for (cv := cv) (x := x) (row := row) (news := (Dd, oMd) :: news) ?xh ?xl hv ?xF ?xN hev ?tLeaf0 ?tLeaf ?tNeg ?tClose ?tEof ?tMark; (case xh => rfl); (case xF => k_asm); (case xN => k_asm); (case xl => k_mem)); (case' tLeaf0 => (intro i g t valV vals eM eV hh tkh I oI r j hj hil hIV hIM hvalA hvl hdrop hEvA F1 N1; (have hvl5 : valV.length ≤ 500 := Nat.le_trans hvl (Nat.le_trans (Nat.le_of_lt hil) hvlen)); obtain ⟨tc, hgot⟩ := hcs j hj; (try dsimp only))); (case' tLeaf => (intro i g t msV ms k tk1 valV vals eM eV hh tkh I oI r j hj hne hil hIV hIM hmsA hml hvalA hvl hdrop hEvA F1 N1; (have hvl5 : valV.length ≤ 500 := Nat.le_trans hvl (Nat.le_trans (Nat.le_of_lt hil) hvlen)); (have hml5 : msV.length ≤ 500 := Nat.le_trans hml (Nat.le_trans (Nat.le_of_lt hil) hvlen)); obtain ⟨tc, hgot⟩ := hcs j hj; (try dsimp only))); (case' tNeg => (intro i g t msV ms tk1 valV vals eM eV hh tkh I oI r j hj hil hIV hIM hmsA hml hvalA hvl hdrop hEvA F1 N1; (have hvl5 : valV.length ≤ 500 := Nat.le_trans hvl (Nat.le_trans (Nat.le_of_lt hil) hvlen)); (have hml5 : msV.length ≤ 500 := Nat.le_trans hml (Nat.le_trans (Nat.le_of_lt hil) hvlen)); obtain ⟨tc, hgot⟩ := hcs j hj; (try dsimp only))); (case' tClose => (intro i g t msV ms m1 tm op to valV vals aa bb ta tb eM eV hh tkh I oI r hil hIV hIM hmsA hml hvalA hvl hdrop hEvA F1 N1; (have hvl5 : valV.length ≤ 500 := Nat.le_trans hvl (Nat.le_trans (Nat.le_of_lt hil) hvlen)); (have hml5 : msV.length ≤ 500 := Nat.le_trans hml (Nat.le_trans (Nat.le_of_lt hil) hvlen)); (try dsimp only))); (case' tEof => (intro i g t msV valV tx eM eV hh tkh I oI hil hIV hIM hvl F1 N1; (have hvl5 : valV.length ≤ 500 := Nat.le_trans hvl (Nat.le_trans (Nat.le_of_lt hil) hvlen)); (try dsimp only))); (case' tMark => (intro i g t n msV ms valV vals eM eV hh tkh I oI r hn1 hn8 hn0 hil hIV hIM hmsA hml hvalA hvl hdrop hEvA F1 N1; (have hvl5 : valV.length ≤ 500 := Nat.le_trans hvl (Nat.le_trans (Nat.le_of_lt hil) hvlen)); (have hml5 : msV.length ≤ 500 := Nat.le_trans hml (Nat.le_trans (Nat.le_of_lt hil) hvlen)); (try dsimp only))))
  k_with "call ref" => (first | (k_dflt (refine' Ctr.use_v (isnt_c w _ _ _) ?yB ?yFr ?yX ?yN ?yT ?yk ?yd ?yu ?_; (case yB => k_asm); (case yFr => k_asm); (case yX => k_asm); (case yN => k_asm); (case yT => k_asm); (case yk => rfl); (case yd => ktr_room); (case yu => ktr_units)); (intro h' tkr F' N'; (try dsimp only); (first | rw [decide_eq_true ge_256] | rw [decide_eq_false (Int.not_le.mpr hn1)] | rw [decide_eq_false (by decide)]))) | (k_dflt (refine' Ctr.use_v (iseof_c w _ _ _) ?yB ?yFr ?yX ?yN ?yT ?yk ?yd ?yu ?_; (case yB => k_asm); (case yFr => k_asm); (case yX => k_asm); (case yN => k_asm); (case yT => k_asm); (case yk => rfl); (case yd => ktr_room); (case yu => ktr_units)); (intro h' tkr F' N'; (try dsimp only); (first | rw [beq_eq_false_iff_ne.mpr hn0] | rw [beq_self_eq_true]))) | (k_dflt (refine' Ctr.use_t (invI_c w _ _ _) ?yB ?yFr ?yX ?yN ?yT ?yk ?yd ?yu ?_; (case yB => k_asm); (case yFr => k_asm); (case yX => k_asm); (case yN => k_asm); (case yT => k_asm); (case yk => rfl); (case yd => ktr_room); (case yu => ktr_units)); (intro tr h' tkr F' N'; (try dsimp only))) | (k_dflt (refine' Ctr.use_t (andI_c w _ _ _ _ _) ?yB ?yFr ?yX ?yN ?yT ?yk ?yd ?yu ?_; (case yB => k_asm); (case yFr => k_asm); (case yX => k_asm); (case yN => k_asm); (case yT => k_asm); (case yk => rfl); (case yd => ktr_room); (case yu => ktr_units)); (intro tr h' tkr F' N'; (try dsimp only))) | (k_dflt (refine' Ctr.use_t (cases_c w _ op aa bb _ _) ?yB ?yFr ?yX ?yN ?yT ?yk ?yd ?yu ?_; (case yB => k_asm); (case yFr => k_asm); (case yX => k_asm); (case yN => k_asm); (case yT => k_asm); (case yk => rfl); (case yd => ktr_room); (case yu => ktr_units)); (intro tr h' tkr F' N'; (try dsimp only))))
  k_with "compareOp Eq int int" => (first | (with_reducible refine' eqi_no (by assumption) ?_) | (with_reducible refine' eqi_no (by decide) ?_) | (with_reducible refine' eqi_yes ?_))
  k_with "compareOp NotEq ref ref" => (k_dflt (first | (refine' ne_lst_yes (e' := 0) ?xN ?xa ?xb (hmsA.append (.cons _ _ .nil)) ?xu ?_; (case xN => k_asm); (case xa => k_mem); (case xb => k_mem); (case xu => ktr_units)) | (refine' ne_lst_no (e' := 0) ?xN ?xa ?xb ?xu ?_; (case xN => k_asm); (case xa => k_mem); (case xb => k_mem); (case xu => ktr_units))))
  k_with "subscriptTail Name UnaryOp ref int" => (k_dflt (refine' last_lst ?xN ?xm ?_ ?xs; (case xN => k_asm); (case xm => k_mem); (case xs => with_unfolding_all rfl)))
  k_with "subscriptTail Name BinOp ref int" => (k_dflt (refine' lst_got ?xN ?xm ?xk hgot ?xf ?_ ?xs; (case xN => k_asm); (case xm => k_mem); (case xk => exact sub_256); (case xf => exact Nat.le_trans (Nat.le_of_eq hc4) (by decide)); (case xs => with_unfolding_all rfl)))
  k_with "subscriptTail Name Call ref int" => (k_dflt (refine' deed_at op ?xN ?xm hmd ?xk ?_ ?xs ?xg; (case xN => k_asm); (case xm => k_mem); (case xk => rfl); (case xs => with_unfolding_all rfl); (case xg => kmk_pure)))
  k_with "call builtin:list.pop" => (k_dflt (refine' pop_lst ?xF ?xN ?xU ?xz ?_; (case xF => k_asm); (case xN => k_asm); (case xU => k_upd); (case xz => first | exact le_lit hml5 rfl | exact le_lit hvl5 rfl | exact le_lit (snoc_le hml5) rfl | exact le_lit (snoc_le hvl5) rfl); k_whole); intro hp' Fp' Np')
  k_with "LedPost" => (dsimp only [LedPost])
  k_with "LedEnd" => (first | (k_dflt (refine' wor_end (valV := valV ++ [_]) (msV := msV ++ [.int k tk1]) ?eF ?eN ?eI ?eV ?eM ?eS ?em' ?eaV ?eaM hIV hIM ?ems ?evals hdrop hEvA ?el1 ?el2; (case eF => k_asm); (case eN => k_asm); (case eI => k_mem); (case eV => k_mem); (case eM => k_mem); (case eS => k_extra "mine sub"); (case eaV => exact push_eq _ _); (case eaM => rfl); (case ems => exact hmsA.append (.cons _ _ .nil)); (case evals => exact ivs_snoc hvalA rfl); (case el1 => exact len_snoc hml); (case el2 => exact len_snoc hvl); (case em' => k_extra "mine free"))) | (k_dflt (refine' wor_end (valV := valV ++ [_]) (msV := []) ?eF ?eN ?eI ?eV ?eM ?eS ?em' ?eaV ?eaM hIV hIM ?ems ?evals hdrop hEvA ?el1 ?el2; (case eF => k_asm); (case eN => k_asm); (case eI => k_mem); (case eV => k_mem); (case eM => k_mem); (case eS => k_extra "mine sub"); (case eaV => exact push_eq _ _); (case eaM => rfl); (case ems => exact .nil); (case evals => exact ivs_snoc hvalA rfl); (case el1 => exact Nat.zero_le _); (case el2 => exact len_snoc hvl); (case em' => k_extra "mine free"))) | (k_dflt (refine' wor_end (valV := valV ++ [_]) (msV := msV) ?eF ?eN ?eI ?eV ?eM ?eS ?em' ?eaV ?eaM hIV hIM ?ems ?evals hdrop hEvA ?el1 ?el2; (case eF => k_asm); (case eN => k_asm); (case eI => k_mem); (case eV => k_mem); (case eM => k_mem); (case eS => k_extra "mine sub"); (case eaV => exact push_eq _ _); (case eaM => rfl); (case ems => exact hmsA); (case evals => exact ivs_snoc hvalA (and_inv _)); (case el1 => exact Nat.le_succ_of_le hml); (case el2 => exact len_snoc hvl); (case em' => k_extra "mine free"))) | (k_dflt (refine' wor_end (valV := valV ++ [_]) (msV := msV) ?eF ?eN ?eI ?eV ?eM ?eS ?em' ?eaV ?eaM hIV hIM ?ems ?evals hdrop hEvA ?el1 ?el2; (case eF => k_asm); (case eN => k_asm); (case eI => k_mem); (case eV => k_mem); (case eM => k_mem); (case eS => k_extra "mine sub"); (case eaV => exact push_eq _ _); (case eaM => rfl); (case ems => exact hmsA); (case evals => exact ivs_snoc hvalA rfl); (case el1 => exact Nat.le_succ_of_le hml); (case el2 => exact len_snoc hvl); (case em' => k_extra "mine free"))) | (k_dflt (refine' wor_end (valV := valV) (msV := msV ++ [_]) ?eF ?eN ?eI ?eV ?eM ?eS ?em' ?eaV ?eaM hIV hIM ?ems ?evals hdrop hEvA ?el1 ?el2; (case eF => k_asm); (case eN => k_asm); (case eI => k_mem); (case eV => k_mem); (case eM => k_mem); (case eS => k_extra "mine sub"); (case eaV => rfl); (case eaM => exact push_eq _ _); (case ems => exact hmsA.append (.cons _ _ .nil)); (case evals => exact hvalA); (case el1 => exact len_snoc hml); (case el2 => exact Nat.le_succ_of_le hvl); (case em' => k_extra "mine free"))))
  k_with "LeaveK" => (k_dflt (refine' leaveK_ ?k1 ?k2 ?_; (case k1 => k_asm); (case k2 => k_asm); k_whole); intro kF kN; k_dflt (refine' ret0 hret kF kN ?g1 ⟨⟨_, rfl⟩, rfl⟩; (case g1 => k_extra "mine sub")))
  k_steps
/-- a formula's tuple, its polarity's ints named -/
noncomputable def PolAt (v : Value) (news : List (Addr × Obj)) (a d : BitVec 4) : Prop :=
  ∃ (t : Addr) (k2 k3 : Tok) (v0 v1 v2 : Value) (n : Nat), v = .ref t ∧ (t, tup [v0, v1, v2, .int (iv a) k2, .int (iv d) k3] n) ∈ news
theorem FmAt.pol {f : Fm} {v : Value} {news : List (Addr × Obj)} (h : FmAt f v news) : PolAt v news f.pol.1 f.pol.2 := by
  obtain ⟨t, r, k0, k1, k2, k3, vs, n, e, h1, -, h3, -⟩ := h
  exact ⟨t, k2, k3, _, _, _, n, h1, h3⟩
theorem PolAt.mono {v : Value} {a b : List (Addr × Obj)} {x y : BitVec 4} (h : PolAt v a x y) (hs : ∀ p ∈ a, p ∈ b) : PolAt v b x y := by
  obtain ⟨t, k2, k3, v0, v1, v2, n, h1, h2⟩ := h
  exact ⟨t, k2, k3, v0, v1, v2, n, h1, hs _ h2⟩
noncomputable def lostBV (claim column : BitVec 16) (size : Nat) (fa fd sa sd : BitVec 4) : BitVec 16 :=
  let l1 : BitVec 16 := if fd &&& sd &&& BitVec.ofNat 4 size = 0#4 then ((claim &&& ~~~column) <<< size) &&& ~~~claim else 0#16
  if fa &&& sa &&& BitVec.ofNat 4 size = 0#4 then l1 ||| (((claim &&& column) >>> size) &&& ~~~claim) else l1
theorem iv_andnot {n : Nat} (x y : BitVec n) : Builtin.bitAnd (iv x) (Builtin.bitNot (iv y)) = iv (x &&& ~~~y) := by
  rw [PyProof.Rows.bitAnd_not, iv_and, iv_diff']
theorem and_le_not (c : BitVec 16) (k : Nat) (m : BitVec 16) (h : (~~~m).toNat ≤ k) : (c &&& ~~~m).toNat ≤ k := by
  rw [BitVec.toNat_and]
  exact Nat.le_trans Nat.and_le_right h
theorem shl_k (x : BitVec 16) (k : Nat) (h : x.toNat * 2 ^ k < 65536) : iv x * (2 : Int) ^ ((k : Nat) : Int).toNat = iv (x <<< k) := by
  unfold iv
  rw [BitVec.toNat_shiftLeft, Nat.shiftLeft_eq, Nat.mod_eq_of_lt h, Int.toNat_natCast]
  push_cast
  rfl
theorem shl_2 (c : BitVec 16) : iv (c &&& ~~~52428#16) * (2 : Int) ^ (2 : Int).toNat = iv ((c &&& ~~~52428#16) <<< 2) := by
  have h := and_le_not c 13107 52428#16 (by decide)
  exact shl_k _ 2 (by omega)
theorem shl_4 (c : BitVec 16) : iv (c &&& ~~~61680#16) * (2 : Int) ^ (4 : Int).toNat = iv ((c &&& ~~~61680#16) <<< 4) := by
  have h := and_le_not c 3855 61680#16 (by decide)
  exact shl_k _ 4 (by omega)
theorem shr_k (x : BitVec 16) (k : Nat) : (iv x).fdiv ((2 : Int) ^ ((k : Nat) : Int).toNat) = iv (x >>> k) := by
  unfold iv
  rw [BitVec.toNat_ushiftRight, Nat.shiftRight_eq_div_pow, Int.toNat_natCast, Int.fdiv_eq_ediv_of_nonneg _ (by exact_mod_cast Nat.zero_le _)]
  push_cast
  rfl
theorem shr_2 (x : BitVec 16) : (iv x).fdiv ((2 : Int) ^ (2 : Int).toNat) = iv (x >>> 2) := shr_k x 2
theorem shr_4 (x : BitVec 16) : (iv x).fdiv ((2 : Int) ^ (4 : Int).toNat) = iv (x >>> 4) := shr_k x 4
theorem m4 (x y : BitVec 4) (k : Int) (s : Nat) (hk : k = iv (BitVec.ofNat 4 s)) : Builtin.bitAnd (Builtin.bitAnd (iv x) (iv y)) k = iv (x &&& y &&& BitVec.ofNat 4 s) := by rw [hk, iv_and, iv_and]
theorem iv_zero {n : Nat} (x : BitVec n) : iv x = 0 ↔ x = 0#n := by
  unfold iv
  constructor
  · intro h
    apply BitVec.eq_of_toNat_eq
    rw [BitVec.toNat_zero]
    omega
  · rintro rfl
    rw [BitVec.toNat_zero]; rfl
theorem iv_lt16 (b : BitVec 16) : 0 ≤ iv b ∧ iv b < 65536 := by
  have h := iv_lt b
  exact ⟨h.1, by have := h.2; omega⟩
theorem int_ret {X Y : Int} {t : Tok} (h : X = Y) : ∃ t', Value.int X t = .int Y t' := ⟨t, by rw [h]⟩
section
variable {fa fd sa sd : BitVec 4} {k : Int} {s : Nat} {claim col : BitVec 16}
theorem los_y {x y : BitVec 4} (hk : k = iv (BitVec.ofNat 4 s)) (h : Builtin.bitAnd (Builtin.bitAnd (iv x) (iv y)) k = 0) : x &&& y &&& BitVec.ofNat 4 s = 0#4 := by
  rw [m4 x y k s hk] at h
  exact (iv_zero _).mp h
theorem los_n {x y : BitVec 4} (hk : k = iv (BitVec.ofNat 4 s)) (h : Builtin.bitAnd (Builtin.bitAnd (iv x) (iv y)) k ≠ 0) : ¬ (x &&& y &&& BitVec.ofNat 4 s = 0#4) := fun e => by
  rw [m4 x y k s hk] at h
  exact h ((iv_zero _).mpr e)
theorem los_nn (hk : k = iv (BitVec.ofNat 4 s)) (h1 : Builtin.bitAnd (Builtin.bitAnd (iv fd) (iv sd)) k ≠ 0) (h2 : Builtin.bitAnd (Builtin.bitAnd (iv fa) (iv sa)) k ≠ 0) : 0 = iv (lostBV claim col s fa fd sa sd) := by
  unfold lostBV
  dsimp only
  rw [if_neg (los_n hk h2), if_neg (los_n hk h1)]; rfl
theorem los_yn (hk : k = iv (BitVec.ofNat 4 s)) (h1 : Builtin.bitAnd (Builtin.bitAnd (iv fd) (iv sd)) k = 0) (h2 : Builtin.bitAnd (Builtin.bitAnd (iv fa) (iv sa)) k ≠ 0) : iv (((claim &&& ~~~col) <<< s) &&& ~~~claim) = iv (lostBV claim col s fa fd sa sd) := by
  unfold lostBV
  dsimp only
  rw [if_neg (los_n hk h2), if_pos (los_y hk h1)]
theorem los_ny (hk : k = iv (BitVec.ofNat 4 s)) (h1 : Builtin.bitAnd (Builtin.bitAnd (iv fd) (iv sd)) k ≠ 0) (h2 : Builtin.bitAnd (Builtin.bitAnd (iv fa) (iv sa)) k = 0) : Builtin.bitOr 0 (iv (((claim &&& col) >>> s) &&& ~~~claim)) = iv (lostBV claim col s fa fd sa sd) := by
  unfold lostBV
  dsimp only
  rw [if_pos (los_y hk h2), if_neg (los_n hk h1), show (0 : Int) = iv 0#16 from rfl, iv_or]
theorem los_yy (hk : k = iv (BitVec.ofNat 4 s)) (h1 : Builtin.bitAnd (Builtin.bitAnd (iv fd) (iv sd)) k = 0) (h2 : Builtin.bitAnd (Builtin.bitAnd (iv fa) (iv sa)) k = 0) : Builtin.bitOr (iv (((claim &&& ~~~col) <<< s) &&& ~~~claim)) (iv (((claim &&& col) >>> s) &&& ~~~claim)) = iv (lostBV claim col s fa fd sa sd) := by
  unfold lostBV
  dsimp only
  rw [if_pos (los_y hk h2), if_pos (los_y hk h1), iv_or]
end
theorem lost1_c (w : World) (news : List (Addr × Obj)) (claim : BitVec 16) (tc tn tk : Tok) (fv sv : Value) (fa fd sa sd : BitVec 4) (hf : PolAt fv news fa fd) (hs : PolAt sv news sa sd) :
  Ctr w 310 news [.int (iv claim) tc, .int 1 tn, .int (iv 52428#16) tk, fv, sv] 3 100 (fun r tl => (∃ t, r = .int (iv (lostBV claim 52428#16 2 fa fd sa sd)) t) ∧ tl = []) := by
  k_with_none
  w_top off
  k_with "mine mem" => (first | (refine' mem_here ?_; ktr_member) | (refine' mem_appR ?_; k_mem) | (refine' mem_appL ?_; k_mem) | fail)
  k_with "mine ltL" => ((repeat (first | with_reducible exact lt_up0 | with_reducible refine lt_up ?_)); done)
  k_with "mine tk2" => (first | with_reducible assumption | with_reducible exact le_one | with_reducible exact Nat.le_refl _ | with_reducible exact Nat.succ_le_of_lt (by with_reducible assumption) | (with_reducible refine le_up ?_; k_extra "mine tk2") | (with_reducible refine le_chain (by with_reducible assumption) ?_; k_extra "mine tk2"))
  k_with "mine tk1" => ((try dsimp only); k_extra "mine tk2")
  k_with "mine size" => (first | (refine' sz_arr ?szA ?szB; (case szA => with_reducible assumption); (case szB => rfl)) | (refine' sz_line ?szA ?szB; (case szA => with_reducible assumption); (case szB => rfl)) | exact Nat.le_of_ble_eq_true rfl | fail)
  k_with "mine room" => ((first | k_dflt refine' rm2 ?rmA ?rmB | k_dflt refine' rm1 ?rmA ?rmB | k_dflt refine' rm0 ?rmA); (case rmA => k_dflt assumption); (try (case rmB => rfl)))
  k_with "mine ne" => (refine neN ?_; (try dsimp only); first | exact ne_all (by with_reducible assumption) (by k_mem) | exact ne_all' (by with_reducible assumption) (by k_mem) | with_reducible assumption | exact Ne.symm (by with_reducible assumption) | exact ne_gt (by k_extra "mine ltL") | exact ne_lt (by k_extra "mine ltL") | exact ne_gt (by with_reducible assumption) | exact ne_lt (by with_reducible assumption) | exact ne_far (by with_reducible assumption) (by k_extra "mine ltL") | exact ne_far' (by with_reducible assumption) (by k_extra "mine ltL") | omega | fail)
  k_with "mine all" => (first | with_reducible assumption | exact all_ne (by with_reducible assumption) (by k_extra "mine sub") | fail)
  k_with "mine free" => (intro yy; intros; repeat (first | with_reducible exact rfl | with_reducible exact forget_off (by with_reducible assumption) | (refine' Eq.trans (if_neg ?fnC) ?_; (case fnC => first | with_reducible assumption | exact ne_free (by with_reducible assumption) (by kernel_rfl))) | exact rfl))
  k_with "evalPairs" => (k_here; dsimp only)
  k_with "Exists" => (k_here; dsimp only)
  k_with "execs cons" => (k_here; refine' nx_start ?_; intro tkz htkz; (try dsimp only at htkz))
  k_with "Nx" => ((try dsimp only); (first | (with_reducible refine' nx_cons0 ?_; intro tkz htkz) | (with_reducible refine' nx_cons ?_; intro tkz htl htkz) | ((first | with_reducible refine' nx_nil0 ?_ | with_reducible refine' nx_ret0 ?_ | with_reducible refine' nx_open0 ?_); (try dsimp only)) | ((first | with_reducible refine' nx_nil ?_ | with_reducible refine' nx_ret ?_ | with_reducible refine' nx_open ?_ | with_reducible refine' nx_brk ?_ | with_reducible refine' nx_cont ?_); intro htl; (try dsimp only at htl); (try dsimp only))))
  k_with "execs nil" => (k_here; (refine wpAny_execs_nil ?_); (try dsimp only))
  k_with "newList" => (k_here; k_dflt (refine' new_lst ?nlF ?nlN ?nlz ?_; (case nlF => k_asm); (case nlN => k_asm); (case nlz => rfl); k_whole); intro d' h' F' N' l1; (try k_sweep))
  k_with "newTuple" => (k_here; k_dflt (refine' new_tup ?nlF ?nlN ?nlz ?_; (case nlF => k_asm); (case nlN => k_asm); (case nlz => rfl); k_whole); intro d' h' F' N' l1; (try k_sweep))
  k_with "mine sub" => ((repeat (first | with_reducible exact sub_nil | with_reducible exact sub_app | with_reducible refine sub_cons ?_ | with_reducible refine sub_app' ?_)); done)
  k_with "mine end2" => ((case F => k_asm); (case N => k_asm); (case S => k_extra "mine sub"); (case P => (refine' lt_sub ?a ?b; (case a => with_reducible assumption); (case b => k_extra "mine sub"))); (case R => (refine' lt_sub ?a ?b; (case a => with_reducible assumption); (case b => k_extra "mine sub"))))
  obtain ⟨t1, a0, a1, x0, x1, x2, n1, rfl, hm1⟩ := hf
  obtain ⟨t2, b0, b1, y0, y1, y2, n2, rfl, hm2⟩ := hs
  unfold Ctr
  k_fill
  intro mean mg mb dp un gd cn cs a_ ccd cl outer A₀ base h₀ L m s Q E B F X N T hk hd hu hret
  refine wpAny_call ?_
  k_dflt ktr_enter
  k_with "TkLe" => (refine' tkle_intro ?_; intro htl; (try dsimp only at htl); (try dsimp only))
  k_with "subscriptTail Name Constant ref int" => (refine' tup_lit ?k1 ?k2 ?k3 ?k4 ?_ ?k6; k_dflt ((case k1 => k_asm); (case k2 => k_mem); (case k3 => rfl); (case k4 => exact rfl); (case k6 => with_unfolding_all rfl)))
  k_with "call ref" => (first | (k_dflt (refine' Ctr.use_t (shl_c w _ 1 1 _ _ (by decide) (by decide) (by decide)) ?yB ?yFr ?yX ?yN ?yT ?yk ?yd ?yu ?_; (case yB => k_asm); (case yFr => k_asm); (case yX => k_asm); (case yN => k_asm); (case yT => k_asm); (case yk => rfl); (case yd => ktr_room); (case yu => ktr_units)); (intro tr h' tkr F' N'; (try dsimp only); rw [show (1 : Int) * 2 ^ (1 : Int).toNat = 2 from rfl])) | (k_dflt (refine' Ctr.use_t (invI_c w _ _ _) ?yB ?yFr ?yX ?yN ?yT ?yk ?yd ?yu ?_; (case yB => k_asm); (case yFr => k_asm); (case yX => k_asm); (case yN => k_asm); (case yT => k_asm); (case yk => rfl); (case yd => ktr_room); (case yu => ktr_units)); (intro tr h' tkr F' N'; (try dsimp only))) | (k_dflt (refine' Ctr.use_t (andI_c w _ _ _ _ _) ?yB ?yFr ?yX ?yN ?yT ?yk ?yd ?yu ?_; (case yB => k_asm); (case yFr => k_asm); (case yX => k_asm); (case yN => k_asm); (case yT => k_asm); (case yk => rfl); (case yd => ktr_room); (case yu => ktr_units)); (intro tr h' tkr F' N'; (try dsimp only); (first | rw [iv_andnot] | rw [iv_and]))) | (k_dflt (refine' Ctr.use_t (shl_c w _ (iv (claim &&& ~~~52428#16)) 2 _ _ (by decide) (by decide) (iv_lt16 _)) ?yB ?yFr ?yX ?yN ?yT ?yk ?yd ?yu ?_; (case yB => k_asm); (case yFr => k_asm); (case yX => k_asm); (case yN => k_asm); (case yT => k_asm); (case yk => rfl); (case yd => ktr_room); (case yu => ktr_units)); (intro tr h' tkr F' N'; (try dsimp only); rw [shl_2])) | (k_dflt (refine' Ctr.use_t (shr_c w _ _ 2 _ _ (by decide) (by decide)) ?yB ?yFr ?yX ?yN ?yT ?yk ?yd ?yu ?_; (case yB => k_asm); (case yFr => k_asm); (case yX => k_asm); (case yN => k_asm); (case yT => k_asm); (case yk => rfl); (case yd => ktr_room); (case yu => ktr_units)); (intro tr h' tkr F' N'; (try dsimp only); rw [shr_2])) | (k_dflt (refine' Ctr.use_t (orI_c w _ _ _ _ _) ?yB ?yFr ?yX ?yN ?yT ?yk ?yd ?yu ?_; (case yB => k_asm); (case yFr => k_asm); (case yX => k_asm); (case yN => k_asm); (case yT => k_asm); (case yk => rfl); (case yd => ktr_room); (case yu => ktr_units)); (intro tr h' tkr F' N'; (try dsimp only))))
  k_with "LeaveK" => (k_dflt (refine' leaveK_ ?k1 ?k2 ?_; (case k1 => k_asm); (case k2 => k_asm); k_whole); intro kF kN; k_dflt (refine' ret0 hret kF kN ?g1 ⟨int_ret ?g2, rfl⟩; (case g1 => k_extra "mine sub"); (case g2 => first | exact los_nn rfl (by assumption) (by assumption) | exact los_yn rfl (by assumption) (by assumption) | exact los_ny rfl (by assumption) (by assumption) | exact los_yy rfl (by assumption) (by assumption))))
  k_steps
theorem lost2_c (w : World) (news : List (Addr × Obj)) (claim : BitVec 16) (tc tn tk : Tok) (fv sv : Value) (fa fd sa sd : BitVec 4) (hf : PolAt fv news fa fd) (hs : PolAt sv news sa sd) :
  Ctr w 310 news [.int (iv claim) tc, .int 2 tn, .int (iv 61680#16) tk, fv, sv] 3 100 (fun r tl => (∃ t, r = .int (iv (lostBV claim 61680#16 4 fa fd sa sd)) t) ∧ tl = []) := by
  k_with_none
  w_top off
  k_with "mine mem" => (first | (refine' mem_here ?_; ktr_member) | (refine' mem_appR ?_; k_mem) | (refine' mem_appL ?_; k_mem) | fail)
  k_with "mine ltL" => ((repeat (first | with_reducible exact lt_up0 | with_reducible refine lt_up ?_)); done)
  k_with "mine tk2" => (first | with_reducible assumption | with_reducible exact le_one | with_reducible exact Nat.le_refl _ | with_reducible exact Nat.succ_le_of_lt (by with_reducible assumption) | (with_reducible refine le_up ?_; k_extra "mine tk2") | (with_reducible refine le_chain (by with_reducible assumption) ?_; k_extra "mine tk2"))
  k_with "mine tk1" => ((try dsimp only); k_extra "mine tk2")
  k_with "mine size" => (first | (refine' sz_arr ?szA ?szB; (case szA => with_reducible assumption); (case szB => rfl)) | (refine' sz_line ?szA ?szB; (case szA => with_reducible assumption); (case szB => rfl)) | exact Nat.le_of_ble_eq_true rfl | fail)
  k_with "mine room" => ((first | k_dflt refine' rm2 ?rmA ?rmB | k_dflt refine' rm1 ?rmA ?rmB | k_dflt refine' rm0 ?rmA); (case rmA => k_dflt assumption); (try (case rmB => rfl)))
  k_with "mine ne" => (refine neN ?_; (try dsimp only); first | exact ne_all (by with_reducible assumption) (by k_mem) | exact ne_all' (by with_reducible assumption) (by k_mem) | with_reducible assumption | exact Ne.symm (by with_reducible assumption) | exact ne_gt (by k_extra "mine ltL") | exact ne_lt (by k_extra "mine ltL") | exact ne_gt (by with_reducible assumption) | exact ne_lt (by with_reducible assumption) | exact ne_far (by with_reducible assumption) (by k_extra "mine ltL") | exact ne_far' (by with_reducible assumption) (by k_extra "mine ltL") | omega | fail)
  k_with "mine all" => (first | with_reducible assumption | exact all_ne (by with_reducible assumption) (by k_extra "mine sub") | fail)
  k_with "mine free" => (intro yy; intros; repeat (first | with_reducible exact rfl | with_reducible exact forget_off (by with_reducible assumption) | (refine' Eq.trans (if_neg ?fnC) ?_; (case fnC => first | with_reducible assumption | exact ne_free (by with_reducible assumption) (by kernel_rfl))) | exact rfl))
  k_with "evalPairs" => (k_here; dsimp only)
  k_with "Exists" => (k_here; dsimp only)
  k_with "execs cons" => (k_here; refine' nx_start ?_; intro tkz htkz; (try dsimp only at htkz))
  k_with "Nx" => ((try dsimp only); (first | (with_reducible refine' nx_cons0 ?_; intro tkz htkz) | (with_reducible refine' nx_cons ?_; intro tkz htl htkz) | ((first | with_reducible refine' nx_nil0 ?_ | with_reducible refine' nx_ret0 ?_ | with_reducible refine' nx_open0 ?_); (try dsimp only)) | ((first | with_reducible refine' nx_nil ?_ | with_reducible refine' nx_ret ?_ | with_reducible refine' nx_open ?_ | with_reducible refine' nx_brk ?_ | with_reducible refine' nx_cont ?_); intro htl; (try dsimp only at htl); (try dsimp only))))
  k_with "execs nil" => (k_here; (refine wpAny_execs_nil ?_); (try dsimp only))
  k_with "newList" => (k_here; k_dflt (refine' new_lst ?nlF ?nlN ?nlz ?_; (case nlF => k_asm); (case nlN => k_asm); (case nlz => rfl); k_whole); intro d' h' F' N' l1; (try k_sweep))
  k_with "newTuple" => (k_here; k_dflt (refine' new_tup ?nlF ?nlN ?nlz ?_; (case nlF => k_asm); (case nlN => k_asm); (case nlz => rfl); k_whole); intro d' h' F' N' l1; (try k_sweep))
  k_with "mine sub" => ((repeat (first | with_reducible exact sub_nil | with_reducible exact sub_app | with_reducible refine sub_cons ?_ | with_reducible refine sub_app' ?_)); done)
  k_with "mine end2" => ((case F => k_asm); (case N => k_asm); (case S => k_extra "mine sub"); (case P => (refine' lt_sub ?a ?b; (case a => with_reducible assumption); (case b => k_extra "mine sub"))); (case R => (refine' lt_sub ?a ?b; (case a => with_reducible assumption); (case b => k_extra "mine sub"))))
  obtain ⟨t1, a0, a1, x0, x1, x2, n1, rfl, hm1⟩ := hf
  obtain ⟨t2, b0, b1, y0, y1, y2, n2, rfl, hm2⟩ := hs
  unfold Ctr
  k_fill
  intro mean mg mb dp un gd cn cs a_ ccd cl outer A₀ base h₀ L m s Q E B F X N T hk hd hu hret
  refine wpAny_call ?_
  k_dflt ktr_enter
  k_with "TkLe" => (refine' tkle_intro ?_; intro htl; (try dsimp only at htl); (try dsimp only))
  k_with "subscriptTail Name Constant ref int" => (refine' tup_lit ?k1 ?k2 ?k3 ?k4 ?_ ?k6; k_dflt ((case k1 => k_asm); (case k2 => k_mem); (case k3 => rfl); (case k4 => exact rfl); (case k6 => with_unfolding_all rfl)))
  k_with "call ref" => (first | (k_dflt (refine' Ctr.use_t (shl_c w _ 1 2 _ _ (by decide) (by decide) (by decide)) ?yB ?yFr ?yX ?yN ?yT ?yk ?yd ?yu ?_; (case yB => k_asm); (case yFr => k_asm); (case yX => k_asm); (case yN => k_asm); (case yT => k_asm); (case yk => rfl); (case yd => ktr_room); (case yu => ktr_units)); (intro tr h' tkr F' N'; (try dsimp only); rw [show (1 : Int) * 2 ^ (2 : Int).toNat = 4 from rfl])) | (k_dflt (refine' Ctr.use_t (invI_c w _ _ _) ?yB ?yFr ?yX ?yN ?yT ?yk ?yd ?yu ?_; (case yB => k_asm); (case yFr => k_asm); (case yX => k_asm); (case yN => k_asm); (case yT => k_asm); (case yk => rfl); (case yd => ktr_room); (case yu => ktr_units)); (intro tr h' tkr F' N'; (try dsimp only))) | (k_dflt (refine' Ctr.use_t (andI_c w _ _ _ _ _) ?yB ?yFr ?yX ?yN ?yT ?yk ?yd ?yu ?_; (case yB => k_asm); (case yFr => k_asm); (case yX => k_asm); (case yN => k_asm); (case yT => k_asm); (case yk => rfl); (case yd => ktr_room); (case yu => ktr_units)); (intro tr h' tkr F' N'; (try dsimp only); (first | rw [iv_andnot] | rw [iv_and]))) | (k_dflt (refine' Ctr.use_t (shl_c w _ (iv (claim &&& ~~~61680#16)) 4 _ _ (by decide) (by decide) (iv_lt16 _)) ?yB ?yFr ?yX ?yN ?yT ?yk ?yd ?yu ?_; (case yB => k_asm); (case yFr => k_asm); (case yX => k_asm); (case yN => k_asm); (case yT => k_asm); (case yk => rfl); (case yd => ktr_room); (case yu => ktr_units)); (intro tr h' tkr F' N'; (try dsimp only); rw [shl_4])) | (k_dflt (refine' Ctr.use_t (shr_c w _ _ 4 _ _ (by decide) (by decide)) ?yB ?yFr ?yX ?yN ?yT ?yk ?yd ?yu ?_; (case yB => k_asm); (case yFr => k_asm); (case yX => k_asm); (case yN => k_asm); (case yT => k_asm); (case yk => rfl); (case yd => ktr_room); (case yu => ktr_units)); (intro tr h' tkr F' N'; (try dsimp only); rw [shr_4])) | (k_dflt (refine' Ctr.use_t (orI_c w _ _ _ _ _) ?yB ?yFr ?yX ?yN ?yT ?yk ?yd ?yu ?_; (case yB => k_asm); (case yFr => k_asm); (case yX => k_asm); (case yN => k_asm); (case yT => k_asm); (case yk => rfl); (case yd => ktr_room); (case yu => ktr_units)); (intro tr h' tkr F' N'; (try dsimp only))))
  k_with "LeaveK" => (k_dflt (refine' leaveK_ ?k1 ?k2 ?_; (case k1 => k_asm); (case k2 => k_asm); k_whole); intro kF kN; k_dflt (refine' ret0 hret kF kN ?g1 ⟨int_ret ?g2, rfl⟩; (case g1 => k_extra "mine sub"); (case g2 => first | exact los_nn rfl (by assumption) (by assumption) | exact los_yn rfl (by assumption) (by assumption) | exact los_ny rfl (by assumption) (by assumption) | exact los_yy rfl (by assumption) (by assumption))))
  k_steps
section
variable {prog : Program} {w : World} {A : Around} {s : Shared} {env : Env} {h₀ : Heap} {body orelse : List Stmt}
theorem for_rng {E : Value → Shared → Prop} {Q : Flow → Shared → Prop} {x : Str} {xp : Pos} {r : Addr} {b : Int} {n : Nat} {t u v : Tok} {m₀ : Str → Option Value} {news : List (Addr × Obj)} (J : Nat → Nat → (Str → Option Value) → List (Addr × Obj) → Prop)
    (hh : A.handled = none) (hr : IsRange s.heap r 0 b 1 t u v) (hsmall : Builtin.Range.small 0 b 1 = true) (hn : Builtin.Range.rangeSize 0 b 1 = (n : Int)) (F : Fr h₀ env.locals s.heap m₀) (N : News h₀ env.locals s.heap news) (h0 : J 0 s.toks m₀ news)
    (turn : ∀ i t m₁ nw₁ h tk₀ tk own wr, i < n → s.toks ≤ tk₀ → tk₀ ≤ tk → J i tk₀ m₁ nw₁ → (∀ p ∈ nw₁, p.1 ∉ wr) → Fr h₀ env.locals h m₁ → News h₀ env.locals h (own ++ nw₁) →
      wpAny (model prog w) A (assign (.Name x xp) env (.int (i : Nat) t)) (fun _ s₂ => TkLe tk s₂ (wpAny (model prog w) A (execs body env) (TurnT h₀ env.locals s wr own (J (i + 1)) Q) E s₂)) E { s with heap := h, toks := tk })
    (done : ∀ h tk₀ tk m₁ nw₁, Fr h₀ env.locals h m₁ → News h₀ env.locals h nw₁ → s.toks ≤ tk₀ → tk₀ ≤ tk → J n tk₀ m₁ nw₁ → wpAny (model prog w) A (execs orelse env) Q E { s with heap := h, toks := tk })
    (hE : PassesOwn (model prog w) A env E := by passes_own) :
    wpAny (model prog w) A (pyIter (.ref r)) (fun it s₂ => codeAny (model prog w) A (.forLoop (.Name x xp) it body orelse env) (fun r s' => match r with | .ok f => Q f s' | .error e => cameBackBy (model prog w) A env E e s') s₂) E s := by
  have hLs : env.locals < s.heap.objs.size := F.ns.lt
  refine wpAny_pyIter_range hr hsmall ?_
  have W := KTurns.ofWalks (target := .Name x xp) ((Walks.range (prog := prog) (w := w) hh s.heap.objs.size 0 1 n).bound) fun i v s Q E st q => by unfold letOwnedTupleGo; exact wpAny_pure q
  have hnew : ∀ p ∈ news, p.1 ∉ [s.heap.objs.size] := fun p hp hw => absurd (Heap.lt_size (N p hp).1) (by rw [List.mem_singleton.mp hw]; exact Nat.lt_irrefl _)
  refine loopT (s := { s with heap := _ }) (R := fun r s' => match r with | .ok f => Q f s' | .error e => cameBackBy (model prog w) A env E e s') J W ?_ ?_ hnew (by show IsRangeIter _ _ _ _ _; rw [hn]; simpa using Heap.get?_push_size _ rfl) (F.push _) (fun p hp => ⟨Heap.get?_push_of_some _ (N p hp).1, (N p hp).2⟩) h0 ?_ ?_
  · intro hw
    exact Nat.ne_of_lt hLs (List.mem_singleton.mp hw)
  · intro b hb
    rw [List.mem_singleton.mp hb]
    exact next_is_new F
  · rintro i v m₁ nw₁ h₁ tk₀ tk₁ own hi ⟨hi2, t, rfl⟩ le0 le1 hJ hnw - - F₁ N₁
    have e : (0 : Int) + (i : Int) * 1 = (i : Int) := by omega
    rw [e]
    refine wpAny_mono (turn i t m₁ nw₁ h₁ tk₀ tk₁ own _ hi le0 le1 hJ hnw F₁ N₁) (fun _ s₂ h₃ => ?_) hE
    exact tkle_intro fun q => wpAny_mono (h₃ q) (fun f s₃ h₄ => by cases f <;> exact h₄) hE
  · intro h tk₀ tk m₁ nw₁ F₁ N₁ le0 le1 hJ
    exact wpAny_passesOwn hE (done h tk₀ tk m₁ nw₁ F₁ N₁ le0 le1 hJ)
end
noncomputable def missStep (c z fa fd sa sd : Int) (j : Nat) : Int :=
  if Builtin.bitAnd (c.fdiv ((2 : Int) ^ (j : Int).toNat)) 1 ≠ 0 ∧ Builtin.bitAnd (c.fdiv ((2 : Int) ^ (Builtin.bitXor (j : Int) z).toNat)) 1 = 0 ∧ Builtin.bitAnd (if Builtin.bitAnd (j : Int) z ≠ 0 then Builtin.bitAnd fa sa else Builtin.bitAnd fd sd) z = 0 then 1 * (2 : Int) ^ (Builtin.bitXor (j : Int) z).toNat else 0
noncomputable def missTo (c z fa fd sa sd : Int) : Nat → Int
  | 0 => 0
  | j + 1 => missTo c z fa fd sa sd j + missStep c z fa fd sa sd j
noncomputable def misFree : List Str := [Str.ofString "spot", Str.ofString "other", Str.ofString "both"]
noncomputable abbrev misM (m0 g : Str → Option Value) (x : Int) (t : Tok) : Str → Option Value := fun y => if y = Str.ofString "told" then some (.int x t) else forget misFree g m0 y
noncomputable def MisJ (m0 : Str → Option Value) (news : List (Addr × Obj)) (f : Nat → Int) (i _tk : Nat) (m : Str → Option Value) (nw : List (Addr × Obj)) : Prop := (∃ g t, m = misM m0 g (f i) t) ∧ nw = news
section
variable {prog : Program} {w : World} {A : Around} {E : Value → Shared → Prop} {s : Shared} {env : Env} {h₀ : Heap} {L : Addr} {m0 : Str → Option Value} {news : List (Addr × Obj)}
theorem mis_for {Q : Flow → Shared → Prop} {x : Str} {xp : Pos} {body : List Stmt} {r : Addr} {t u v t0 : Tok} (c z fa fd sa sd : Int) (hz : ∀ j : Nat, j < 16 → 0 ≤ Builtin.bitXor (j : Int) z ∧ Builtin.bitXor (j : Int) z < 16) (hh : A.handled = none) (hr : IsRange s.heap r 0 16 1 t u v)
    (F : Fr h₀ env.locals s.heap (fun y => if y = Str.ofString "told" then some (.int 0 t0) else m0 y)) (N : News h₀ env.locals s.heap news)
    (turn : ∀ (j : Nat) g t u h tk own wr, j < 16 → 0 ≤ Builtin.bitXor (j : Int) z → Builtin.bitXor (j : Int) z < 16 → (∀ p ∈ news, p.1 ∉ wr) → Fr h₀ env.locals h (misM m0 g (missTo c z fa fd sa sd j) t) → News h₀ env.locals h (own ++ news) →
      wpAny (model prog w) A (assign (.Name x xp) env (.int (j : Int) u)) (fun _ s₂ => TkLe tk s₂ (wpAny (model prog w) A (execs body env) (TurnT h₀ env.locals s wr own (MisJ m0 news (missTo c z fa fd sa sd) (j + 1)) Q) E s₂)) E { s with heap := h, toks := tk })
    (done : ∀ g t h tk, Fr h₀ env.locals h (misM m0 g (missTo c z fa fd sa sd 16) t) → News h₀ env.locals h news → Q .next { s with heap := h, toks := tk })
    (hE : PassesOwn (model prog w) A env E := by passes_own) :
    wpAny (model prog w) A (pyIter (.ref r)) (fun it s₂ => codeAny (model prog w) A (.forLoop (.Name x xp) it body [] env) (fun r s' => match r with | .ok f => Q f s' | .error e => cameBackBy (model prog w) A env E e s') s₂) E s := by
  refine for_rng (n := 16) (MisJ m0 news (missTo c z fa fd sa sd)) hh hr (by rfl) (by rfl) F N ⟨⟨m0, t0, ?_⟩, rfl⟩ ?_ ?_ hE
  · funext y
    show _ = if y = _ then _ else forget misFree m0 m0 y
    unfold forget
    split
    · rfl
    · split <;> rfl
  · rintro i t' m₁ nw₁ h tk₀ tk own wr hi - - ⟨⟨g, t, rfl⟩, rfl⟩ hoff F₁ N₁
    exact turn i g t t' h tk own wr hi (hz i hi).1 (hz i hi).2 hoff F₁ N₁
  · rintro h tk₀ tk m₁ nw₁ F₁ N₁ - - ⟨⟨g, t, rfl⟩, rfl⟩
    exact wpAny_execs_nil (done g t h tk F₁ N₁)
theorem mis_end {Q : Flow → Shared → Prop} {wr : List Addr} {own nw : List (Addr × Obj)} {m' : Str → Option Value} {x : Int} {t : Tok} {f : Nat → Int} {j : Nat} {h' : Heap} {tk' : Nat}
    (F : Fr h₀ L h' m') (N : News h₀ L h' nw) (hs : ∀ p ∈ own ++ news, p ∈ nw) (hoff : ∀ p ∈ news, p.1 ∉ wr)
    (hm : m' (Str.ofString "told") = some (.int x t)) (hx : x = f (j + 1)) (hm' : ∀ y, y ≠ Str.ofString "told" → misFree.contains y = false → m' y = m0 y) :
    TurnT h₀ L s wr own (MisJ m0 news f (j + 1)) Q .next { s with heap := h', toks := tk' } := by
  refine ⟨h', tk', m', news, rfl, F, fun p hp => N p (hs p hp), hoff, ⟨m', t, ?_⟩, rfl⟩
  funext y
  show _ = if y = _ then _ else forget misFree m' m0 y
  unfold forget
  split
  · rename_i h; rw [h, hm, hx]
  · rename_i h
    cases hcz : misFree.contains y with
    | true => simp
    | false => simp only [Bool.false_eq_true, if_false]; exact hm' y h hcz
section
variable {c z fa fd sa sd b : Int} {j : Nat}
theorem ms_y (hb : b = if Builtin.bitAnd (j : Int) z ≠ 0 then Builtin.bitAnd fa sa else Builtin.bitAnd fd sd) (h1 : Builtin.bitAnd (c.fdiv ((2 : Int) ^ (j : Int).toNat)) 1 ≠ 0) (h2 : Builtin.bitAnd (c.fdiv ((2 : Int) ^ (Builtin.bitXor (j : Int) z).toNat)) 1 = 0) (h3 : Builtin.bitAnd b z = 0) :
    missTo c z fa fd sa sd j + 1 * (2 : Int) ^ (Builtin.bitXor (j : Int) z).toNat = missTo c z fa fd sa sd j + missStep c z fa fd sa sd j := by
  unfold missStep
  rw [if_pos ⟨h1, h2, hb ▸ h3⟩]
theorem ms_1 (h1 : Builtin.bitAnd (c.fdiv ((2 : Int) ^ (j : Int).toNat)) 1 = 0) : missTo c z fa fd sa sd j = missTo c z fa fd sa sd j + missStep c z fa fd sa sd j := by
  unfold missStep
  rw [if_neg (fun h => h.1 h1), Int.add_zero]
theorem ms_2 (h2 : Builtin.bitAnd (c.fdiv ((2 : Int) ^ (Builtin.bitXor (j : Int) z).toNat)) 1 ≠ 0) : missTo c z fa fd sa sd j = missTo c z fa fd sa sd j + missStep c z fa fd sa sd j := by
  unfold missStep
  rw [if_neg (fun h => h2 h.2.1), Int.add_zero]
theorem ms_3 (hb : b = if Builtin.bitAnd (j : Int) z ≠ 0 then Builtin.bitAnd fa sa else Builtin.bitAnd fd sd) (h3 : Builtin.bitAnd b z ≠ 0) : missTo c z fa fd sa sd j = missTo c z fa fd sa sd j + missStep c z fa fd sa sd j := by
  unfold missStep
  rw [if_neg (fun h => h3 (hb ▸ h.2.2)), Int.add_zero]
theorem ms_bt (h : Builtin.bitAnd (j : Int) z ≠ 0) : Builtin.bitAnd fa sa = if Builtin.bitAnd (j : Int) z ≠ 0 then Builtin.bitAnd fa sa else Builtin.bitAnd fd sd := by rw [if_pos h]
theorem ms_bf (h : Builtin.bitAnd (j : Int) z = 0) : Builtin.bitAnd fd sd = if Builtin.bitAnd (j : Int) z ≠ 0 then Builtin.bitAnd fa sa else Builtin.bitAnd fd sd := by rw [if_neg (fun e => e h)]
end
end
theorem missing_c (w : World) (news : List (Addr × Obj)) (claim : BitVec 16) (nm : Int) (tc tn : Tok) (fv sv : Value) (fa fd sa sd : BitVec 4) (h0 : 0 ≤ nm) (h5 : nm < 5) (hz : ∀ j : Nat, j < 16 → 0 ≤ Builtin.bitXor (j : Int) (1 * (2 : Int) ^ nm.toNat) ∧ Builtin.bitXor (j : Int) (1 * (2 : Int) ^ nm.toNat) < 16) (hf : PolAt fv news fa fd) (hs : PolAt sv news sa sd) :
  Ctr w 317 news [.int (iv claim) tc, .int nm tn, fv, sv] 3 100 (fun r tl => (∃ t, r = .int (missTo (iv claim) (1 * (2 : Int) ^ nm.toNat) (iv fa) (iv fd) (iv sa) (iv sd) 16) t) ∧ tl = []) := by
  k_with_none
  w_top off
  k_with "mine mem" => (first | (refine' mem_here ?_; ktr_member) | (refine' mem_appR ?_; k_mem) | (refine' mem_appL ?_; k_mem) | fail)
  k_with "mine ltL" => ((repeat (first | with_reducible exact lt_up0 | with_reducible refine lt_up ?_)); done)
  k_with "mine tk2" => (first | with_reducible assumption | with_reducible exact le_one | with_reducible exact Nat.le_refl _ | with_reducible exact Nat.succ_le_of_lt (by with_reducible assumption) | (with_reducible refine le_up ?_; k_extra "mine tk2") | (with_reducible refine le_chain (by with_reducible assumption) ?_; k_extra "mine tk2"))
  k_with "mine tk1" => ((try dsimp only); k_extra "mine tk2")
  k_with "mine size" => (first | (refine' sz_arr ?szA ?szB; (case szA => with_reducible assumption); (case szB => rfl)) | (refine' sz_line ?szA ?szB; (case szA => with_reducible assumption); (case szB => rfl)) | exact Nat.le_of_ble_eq_true rfl | fail)
  k_with "mine room" => ((first | k_dflt refine' rm2 ?rmA ?rmB | k_dflt refine' rm1 ?rmA ?rmB | k_dflt refine' rm0 ?rmA); (case rmA => k_dflt assumption); (try (case rmB => rfl)))
  k_with "mine ne" => (refine neN ?_; (try dsimp only); first | exact ne_all (by with_reducible assumption) (by k_mem) | exact ne_all' (by with_reducible assumption) (by k_mem) | with_reducible assumption | exact Ne.symm (by with_reducible assumption) | exact ne_gt (by k_extra "mine ltL") | exact ne_lt (by k_extra "mine ltL") | exact ne_gt (by with_reducible assumption) | exact ne_lt (by with_reducible assumption) | exact ne_far (by with_reducible assumption) (by k_extra "mine ltL") | exact ne_far' (by with_reducible assumption) (by k_extra "mine ltL") | omega | fail)
  k_with "mine all" => (first | with_reducible assumption | exact all_ne (by with_reducible assumption) (by k_extra "mine sub") | fail)
  k_with "mine free" => (intro yy; intros; repeat (first | with_reducible exact rfl | with_reducible exact forget_off (by with_reducible assumption) | (refine' Eq.trans (if_neg ?fnC) ?_; (case fnC => first | with_reducible assumption | exact ne_free (by with_reducible assumption) (by kernel_rfl))) | exact rfl))
  k_with "evalPairs" => (k_here; dsimp only)
  k_with "Exists" => (k_here; dsimp only)
  k_with "execs cons" => (k_here; refine' nx_start ?_; intro tkz htkz; (try dsimp only at htkz))
  k_with "Nx" => ((try dsimp only); (first | (with_reducible refine' nx_cons0 ?_; intro tkz htkz) | (with_reducible refine' nx_cons ?_; intro tkz htl htkz) | ((first | with_reducible refine' nx_nil0 ?_ | with_reducible refine' nx_ret0 ?_ | with_reducible refine' nx_open0 ?_); (try dsimp only)) | ((first | with_reducible refine' nx_nil ?_ | with_reducible refine' nx_ret ?_ | with_reducible refine' nx_open ?_ | with_reducible refine' nx_brk ?_ | with_reducible refine' nx_cont ?_); intro htl; (try dsimp only at htl); (try dsimp only))))
  k_with "execs nil" => (k_here; (refine wpAny_execs_nil ?_); (try dsimp only))
  k_with "newList" => (k_here; k_dflt (refine' new_lst ?nlF ?nlN ?nlz ?_; (case nlF => k_asm); (case nlN => k_asm); (case nlz => rfl); k_whole); intro d' h' F' N' l1; (try k_sweep))
  k_with "newTuple" => (k_here; k_dflt (refine' new_tup ?nlF ?nlN ?nlz ?_; (case nlF => k_asm); (case nlN => k_asm); (case nlz => rfl); k_whole); intro d' h' F' N' l1; (try k_sweep))
  k_with "mine sub" => ((repeat (first | with_reducible exact sub_nil | with_reducible exact sub_app | with_reducible refine sub_cons ?_ | with_reducible refine sub_app' ?_)); done)
  k_with "mine end2" => ((case F => k_asm); (case N => k_asm); (case S => k_extra "mine sub"); (case P => (refine' lt_sub ?a ?b; (case a => with_reducible assumption); (case b => k_extra "mine sub"))); (case R => (refine' lt_sub ?a ?b; (case a => with_reducible assumption); (case b => k_extra "mine sub"))))
  obtain ⟨t1, a0, a1, x0, x1, x2, n1, rfl, hm1⟩ := hf
  obtain ⟨t2, b0, b1, y0, y1, y2, n2, rfl, hm2⟩ := hs
  unfold Ctr
  k_fill
  intro mean mg mb dp un gd cn cs a_ ccd cl outer A₀ base h₀ L m s Q E B F X N T hk hd hu hret
  refine wpAny_call ?_
  k_dflt ktr_enter
  k_with "TkLe" => (refine' tkle_intro ?_; intro htl; (try dsimp only at htl); (try dsimp only))
  k_with "subscriptTail Name Constant ref int" => (refine' tup_lit ?k1 ?k2 ?k3 ?k4 ?_ ?k6; k_dflt ((case k1 => k_asm); (case k2 => k_mem); (case k3 => rfl); (case k4 => exact rfl); (case k6 => with_unfolding_all rfl)))
  k_with "exec For Name Call cons nil" => (k_dflt (refine' wpAny_For ?_ ?hs; (case hs => intro _; rfl)))
  k_with "pyIter ref" => (k_dflt (refine' mis_for (iv claim) (1 * (2 : Int) ^ nm.toNat) (iv fa) (iv fd) (iv sa) (iv sd) hz ?xh ?xr ?xF ?xN ?turnM ?doneM ?xE; (case xh => rfl); (case xr => assumption); (case xF => k_asm); (case xN => k_asm); (case xE => passes_own)); (case' doneM => (intro g tt hh tkh F1 N1; (try dsimp only))); (case' turnM => (intro j g tt uu hh tkh own wr hj hx0 hx1 hoff F1 N1; (try dsimp only))))
  k_with "exec If BoolOp cons nil" => (k_dflt (refine' told_if (missTo (iv claim) (1 * (2 : Int) ^ nm.toNat) (iv fa) (iv fd) (iv sa) (iv sd) j + missStep (iv claim) (1 * (2 : Int) ^ nm.toNat) (iv fa) (iv fd) (iv sa) (iv sd) j) ?tF ?tN ?_ ?_; (case tF => k_asm); (case tN => k_asm)))
  k_with "∀" => (intro hT tkT tT FT NT leT; (try dsimp only at leT); (try dsimp only))
  k_with "ToldJ next" => (k_dflt (refine' told_end ?eF ?eN ?eS ?em ?ex ?em'; (case eF => k_asm); (case em => rfl); (case eN => k_asm); (case eS => k_extra "mine sub"); (case ex => first | exact ms_1 (by assumption) | exact ms_y (ms_bt (by assumption)) (by assumption) (by assumption) (by assumption) | exact ms_y (ms_bf (by assumption)) (by assumption) (by assumption) (by assumption) | exact ms_2 (by assumption) | exact ms_3 (ms_bt (by assumption)) (by assumption) | exact ms_3 (ms_bf (by assumption)) (by assumption)); (case em' => k_extra "mine free")))
  k_with "TurnT next" => (k_dflt (refine' mis_end ?eF ?eN ?eS hoff ?em ?ex ?em'; (case eF => k_asm); (case eN => k_asm); (case eS => k_extra "mine sub"); (case em => rfl); (case ex => rfl); (case em' => k_extra "mine free")))
  k_with "TurnT" => (dsimp only [TurnT])
  k_with "LeaveK" => (k_dflt (refine' leaveK_ ?k1 ?k2 ?_; (case k1 => k_asm); (case k2 => k_asm); k_whole); intro kF kN; k_dflt (refine' ret0 hret kF kN ?g1 ⟨⟨_, rfl⟩, rfl⟩; (case g1 => k_extra "mine sub")))
  k_steps
theorem cells_one {cm : Str → Option Value} {n : Str} {c : Addr} {l : List (Str × Addr)} {cells : List (Addr × Obj)} {C : Prop} (x : CellsAre cm ((n, c) :: l) cells) (k : ∀ o r, cells = (c, o) :: r → o.data = .cell (cm n) → CellsAre cm l r → C) : C := by
  cases x with | cons h r => exact k _ _ rfl h r
inductive Nine (cm : Str → Option Value) (n₁ n₂ n₃ n₄ n₅ n₆ n₇ n₈ n₉ : Str) (c₁ c₂ c₃ c₄ c₅ c₆ c₇ c₈ c₉ : Addr) : List (Addr × Obj) → Prop where
  | mk (o₁ o₂ o₃ o₄ o₅ o₆ o₇ o₈ o₉ : Obj) (h₁ : o₁.data = .cell (cm n₁)) (h₂ : o₂.data = .cell (cm n₂)) (h₃ : o₃.data = .cell (cm n₃)) (h₄ : o₄.data = .cell (cm n₄)) (h₅ : o₅.data = .cell (cm n₅)) (h₆ : o₆.data = .cell (cm n₆)) (h₇ : o₇.data = .cell (cm n₇)) (h₈ : o₈.data = .cell (cm n₈)) (h₉ : o₉.data = .cell (cm n₉)) : Nine cm n₁ n₂ n₃ n₄ n₅ n₆ n₇ n₈ n₉ c₁ c₂ c₃ c₄ c₅ c₆ c₇ c₈ c₉ [(c₁, o₁), (c₂, o₂), (c₃, o₃), (c₄, o₄), (c₅, o₅), (c₆, o₆), (c₇, o₇), (c₈, o₈), (c₉, o₉)]
theorem kc_nine {cm : Str → Option Value} {n₁ n₂ n₃ n₄ n₅ n₆ n₇ n₈ n₉ : Str} {c₁ c₂ c₃ c₄ c₅ c₆ c₇ c₈ c₉ : Addr} {cells : List (Addr × Obj)} (x0 : CellsAre cm [(n₁, c₁), (n₂, c₂), (n₃, c₃), (n₄, c₄), (n₅, c₅), (n₆, c₆), (n₇, c₇), (n₈, c₈), (n₉, c₉)] cells) : Nine cm n₁ n₂ n₃ n₄ n₅ n₆ n₇ n₈ n₉ c₁ c₂ c₃ c₄ c₅ c₆ c₇ c₈ c₉ cells := by
  refine cells_one x0 fun o₁ r0 e0 h₁ x1 => ?_
  refine cells_one x1 fun o₂ r1 e1 h₂ x2 => ?_
  refine cells_one x2 fun o₃ r2 e2 h₃ x3 => ?_
  refine cells_one x3 fun o₄ r3 e3 h₄ x4 => ?_
  refine cells_one x4 fun o₅ r4 e4 h₅ x5 => ?_
  obtain ⟨o₆, o₇, o₈, o₉, e5, h₆, h₇, h₈, h₉⟩ := x5.four
  subst e5; subst e4; subst e3; subst e2; subst e1; subst e0
  exact .mk o₁ o₂ o₃ o₄ o₅ o₆ o₇ o₈ o₉ h₁ h₂ h₃ h₄ h₅ h₆ h₇ h₈ h₉
section
variable {prog : Program} {w : World} {A : Around} {s : Shared} {env : Env} {h₀ : Heap} {target : PySem.Expr} {body orelse : List Stmt}
theorem loopT2 {R : Result → Shared → Prop} {I : Addr} {fp wr : List Addr} {n : Nat} {P Md : Nat → Value → Heap → Prop} {St : Nat → Heap → Prop} {m : Str → Option Value} {news : List (Addr × Obj)}
    (J : Nat → Nat → (Str → Option Value) → List (Addr × Obj) → Prop) (W : KTurns prog w A target I fp wr n P Md St)
    (hLf : env.locals ∉ fp) (hwr : ∀ b ∈ wr, h₀.get? b = none) (hnw : ∀ p ∈ news, p.1 ∉ wr) (hst : St 0 s.heap) (F : Fr h₀ env.locals s.heap m) (N : News h₀ env.locals s.heap news) (h0 : J 0 s.toks m news)
    (step : ∀ i v m₁ nw₁ h₁ tk₀ tk₁ own, i < n → P i v h₁ → s.toks ≤ tk₀ → tk₀ ≤ tk₁ → J i tk₀ m₁ nw₁ → (∀ p ∈ nw₁, p.1 ∉ wr) → (∀ p ∈ own, p.1 ∈ fp) → (∀ b ∈ fp, h₀.get? b = none → ∀ o, h₁.get? b = some o → (b, o) ∈ own) → St (i + 1) h₁ → Fr h₀ env.locals h₁ m₁ → News h₀ env.locals h₁ (own ++ nw₁) →
      wpAny (model prog w) A (assign target env v) (fun _ s₂ => TkLe tk₁ s₂ (wpAny (model prog w) A (execs body env) (TurnT h₀ env.locals s wr own (J (i + 1)) (fun f s' => R (.ok f) s')) (notedBy (model prog w) A env fun e s' => R (.error e) s') s₂)) (notedBy (model prog w) A env fun e s' => R (.error e) s') { s with heap := h₁, toks := tk₁ })
    (done : ∀ h' tk₀ tk m' nw', Fr h₀ env.locals h' m' → News h₀ env.locals h' nw' → s.toks ≤ tk₀ → tk₀ ≤ tk → J n tk₀ m' nw' → wpAny (model prog w) A (execs orelse env) (fun f s₃ => R (.ok f) s₃) (notedBy (model prog w) A env fun e s' => R (.error e) s') { s with heap := h', toks := tk }) :
    codeAny (model prog w) A (.forLoop target (.ref I) body orelse env) R s := by
  have hLw : env.locals ∉ wr := fun h => hLf (W.sub _ h)
  have old : ∀ b o, h₀.get? b = some o → b ∉ wr := fun b o e hb => by rw [hwr b hb] at e; cases e
  refine codeAny_forLoop_any
    (LtJ h₀ env.locals s wr St J n) ?_ (n + 1)
    ⟨s.heap, s.toks, m, news, 0, rfl, hst, F, N, hnw, Nat.le_refl _, h0, Nat.zero_le _, rfl⟩
  rintro k s' ⟨h', tk, m', nw', i, rfl, hst', F', N', hnw', htk, hJ, hi, hki⟩
  have onward : ∀ h₁ : Heap, (∀ b o, b ∉ wr → h'.get? b = some o → h₁.get? b = some o) → Fr h₀ env.locals h₁ m' ∧ News h₀ env.locals h₁ nw' := fun h₁ hk₁ =>
    ⟨⟨F'.ns.at' fun o e => hk₁ _ o hLw e, fun b o e => hk₁ b o (old b o e) (F'.keep b o e), F'.above⟩, fun p hp => ⟨hk₁ _ _ (hnw' p hp) (N' p hp).1, (N' p hp).2⟩⟩
  refine toks_mono ?_
  rcases Nat.lt_or_ge i n with hlt | hge
  · refine W.item i _ _ _ hlt hst' fun v h₁ tk₁ hMd hk₁ hle₁ => ?_
    refine W.go i v _ _ _ hMd fun h₂ hP hst₂ hk₂ => ?_
    obtain ⟨F₂, N₂⟩ := onward h₂ fun b o hb x => hk₂ b o hb (hk₁ b o hb x)
    have Nown : News h₀ env.locals h₂ (PyProof.Rows.ownOf h₀ fp h₂) := news_ownOf hLf
    have hle : s.toks ≤ tk₁ := Nat.le_trans htk hle₁
    have hlive : ∀ b ∈ fp, h₀.get? b = none → ∀ o, h₂.get? b = some o → (b, o) ∈ PyProof.Rows.ownOf h₀ fp h₂ := fun b hb hn o e => mem_ownOf hb hn e
    refine wpAny_mono (toks_mono' (wpAny_mono (step i v m' nw' h₂ tk tk₁ _ hlt hP htk hle₁ hJ hnw' ownOf_sub hlive hst₂ F₂ (Nown.append N₂)) (fun _ s₂ h₃ => tkle_intro fun q => And.intro q (h₃ q)) fun _ _ e => e)) (fun _ s₂ h₃ => ?_) fun _ _ e => e
    obtain ⟨q₂, h₃⟩ := h₃
    refine wpAny_mono (toks_mono' (wpAny_mono h₃ (fun f s₃ h₄ => tkle_intro fun q => And.intro q h₄) fun _ _ e => e)) (fun f s₃ h₄ => ?_) fun _ _ e => e
    obtain ⟨q₃, h₄⟩ := h₄
    have more : TtJ h₀ env.locals s.gens s.drawn s.os wr (PyProof.Rows.ownOf h₀ fp h₂) (J (i + 1)) s₃ → ∃ k', k' < k ∧ LtJ h₀ env.locals s wr St J n k' s₃ := by
      rintro ⟨h₅, tk₅, m₅, nw₅, rfl, F₅, N₅, ha₅, hJ₅⟩
      refine ⟨k - 1, (lt_next hki hlt).1, h₅, tk₅, m₅, nw₅, i + 1, rfl, ?_, F₅, N₅.right, ha₅, Nat.le_trans hle (Nat.le_trans q₂ q₃), hJ₅, hlt, (lt_next hki hlt).2⟩
      refine W.frame _ _ _ hst₂ fun b hb o e => ?_
      cases hn : h₀.get? b with
      | some o₀ =>
        have q := F₂.keep b o₀ hn
        rw [e] at q
        cases q
        exact F₅.keep b o hn
      | none => exact (N₅ _ (List.mem_append_left _ (hlive b hb hn o e))).1
    cases f with
    | ret v => exact h₄
    | brk => exact h₄
    | cont => exact more h₄
    | next => exact more h₄
  · have hin : i = n := Nat.le_antisymm hi hge
    subst hin
    refine W.done _ _ _ hst' fun h₁ tk₁ hk₁ hle₁ => ?_
    obtain ⟨F₁, N₁⟩ := onward h₁ hk₁
    exact done h₁ tk tk₁ m' nw' F₁ N₁ htk hle₁ hJ
theorem for_enum2 {E : Value → Shared → Prop} {Q : Flow → Shared → Prop} {elts : List PySem.Expr} {k : Nat} {tpos : Pos} {l : Addr} {vs : List Value} {e : Nat} {m₀ : Str → Option Value} {news : List (Addr × Obj)} (J : Nat → Nat → (Str → Option Value) → List (Addr × Obj) → Prop)
    (hh : A.handled = none) (hl : (l, PySem.W.listOf vs.toArray e) ∈ news) (F : Fr h₀ env.locals s.heap m₀) (N : News h₀ env.locals s.heap news) (h0 : J 0 s.toks m₀ news)
    (turn : ∀ i v T t m₁ nw₁ h tk₀ tk own wr, vs[i]? = some v → s.toks ≤ tk₀ → tk₀ ≤ tk → J i tk₀ m₁ nw₁ → IsTup h T #[.int (i : Nat) t, v] → (∀ p ∈ own, ∀ q ∈ news, q.1 ≠ l → p.1 ≠ q.1) → (∀ p ∈ nw₁, p.1 ∉ wr) → Fr h₀ env.locals h m₁ → News h₀ env.locals h (own ++ nw₁) →
      wpAny (model prog w) A (assign (.Tuple elts k tpos) env (.ref T)) (fun _ s₂ => TkLe tk s₂ (wpAny (model prog w) A (execs body env) (TurnT h₀ env.locals s wr own (J (i + 1)) Q) E s₂)) E { s with heap := h, toks := tk })
    (done : ∀ h tk₀ tk m₁ nw₁, Fr h₀ env.locals h m₁ → News h₀ env.locals h nw₁ → s.toks ≤ tk₀ → tk₀ ≤ tk → J vs.length tk₀ m₁ nw₁ → wpAny (model prog w) A (execs orelse env) Q E { s with heap := h, toks := tk })
    (hE : PassesOwn (model prog w) A env E := by passes_own) :
    wpAny (model prog w) A (call (.type "enumerate") [.ref l]) (fun xv s₁ => wpAny (model prog w) A (pyIter xv) (fun it s₂ => codeAny (model prog w) A (.forLoop (.Tuple elts k tpos) it body orelse env) (fun r s' => match r with | .ok f => Q f s' | .error e => cameBackBy (model prog w) A env E e s') s₂) E s₁) E s := by
  have hax := N _ hl
  have hlist : s.heap.IsList l vs.toArray := News.isList N hl
  have hlt : l < s.heap.objs.size := Heap.lt_size hax.1
  have hLs : env.locals < s.heap.objs.size := F.ns.lt
  refine call_enumerate_list hlist fun h' hE' hI hsz hk => ?_
  refine wpAny_pyIter_enum hE' ?_
  have W := KTurns.ofWalksU (elts := elts) (k := k) (pos := tpos) (WalksT.enumerate (prog := prog) (w := w) hh (s.heap.objs.size + 1) s.heap.objs.size l (Nat.succ_ne_self _) (ktu_ne 1 hlt) (Nat.ne_of_lt hlt) vs.toArray).toU
  have hnew : ∀ p ∈ news, p.1 ∉ [s.heap.objs.size + 1, s.heap.objs.size] := fun p hp hw => by
    have hlt' := Heap.lt_size (N p hp).1
    rcases List.mem_cons.mp hw with e | hw
    · exact ktu_ne 1 hlt' e
    · exact Nat.ne_of_lt hlt' (List.mem_singleton.mp hw)
  refine loopT2 (s := { s with heap := h' }) (R := fun r s' => match r with | .ok f => Q f s' | .error e => cameBackBy (model prog w) A env E e s') J W ?_ ?_ hnew ⟨⟨_, hE'⟩, hI, hlist.at fun o e => hk _ o e⟩ (F.keeps hk) (N.grown hk) h0 ?_ ?_
  · intro hw
    rcases List.mem_cons.mp hw with e | hw
    · exact ktu_ne 1 hLs e
    · rcases List.mem_cons.mp hw with e | hw
      · exact Nat.ne_of_lt hLs e
      · exact hax.2.1 (List.mem_singleton.mp hw).symm
  · intro b hb
    rcases List.mem_cons.mp hb with rfl | hb
    · exact ktu_new F (Nat.le_succ _)
    · rw [List.mem_singleton.mp hb]; exact ktu_new F (Nat.le_refl _)
  · rintro i v m₁ nw₁ h₁ tk₀ tk₁ own hi ⟨T, vals, rfl, ⟨t, x, hx, rfl⟩, hT⟩ le0 le1 hJ hnw hown - - F₁ N₁
    have hsep : ∀ p ∈ own, ∀ q ∈ news, q.1 ≠ l → p.1 ≠ q.1 := fun p hp q hq hql e => by
      have hlt' := Heap.lt_size (N q hq).1
      rcases List.mem_cons.mp (hown p hp) with h | h
      · exact ktu_ne 1 hlt' (e.symm.trans h)
      · rcases List.mem_cons.mp h with h | h
        · exact Nat.ne_of_lt hlt' (e.symm.trans h)
        · exact hql (e.symm.trans (List.mem_singleton.mp h))
    refine wpAny_mono (turn i x T t m₁ nw₁ h₁ tk₀ tk₁ own _ (by simpa using hx) le0 le1 hJ hT hsep hnw F₁ N₁) (fun _ s₂ h₃ => ?_) hE
    exact tkle_intro fun q => wpAny_mono (h₃ q) (fun f s₃ h₄ => by cases f <;> exact h₄) hE
  · intro h tk₀ tk m₁ nw₁ F₁ N₁ le0 le1 hJ
    exact wpAny_passesOwn hE (done h tk₀ tk m₁ nw₁ F₁ N₁ le0 le1 (by simpa using hJ))
end
theorem Upd.app {d : Addr} {o o' : Obj} : ∀ {own r r' : List (Addr × Obj)}, (∀ p ∈ own, p.1 ≠ d) → PySem.W.Upd d o o' r r' → PySem.W.Upd d o o' (own ++ r) (own ++ r')
  | [], _, _, _, h => h
  | p :: own, _, _, hs, h => .tail (hs p (.head _)) (Upd.app (fun q hq => hs q (.tail _ hq)) h)
section
variable {prog : Program} {w : World} {A : Around} {E : Value → Shared → Prop} {s : Shared} {h₀ : Heap} {L D : Addr} {m : Str → Option Value} {news news' : List (Addr × Obj)} {n : Nat}
theorem set_lst {vs : List Value} {k : Int} {t : Tok} {v : Value} {Q : Unit → Shared → Prop} (F : Fr h₀ L s.heap m) (N : News h₀ L s.heap news) (U : PySem.W.Upd D (PySem.W.listOf vs.toArray n) (PySem.W.listOf (vs.set k.toNat v).toArray n) news news') (h0 : 0 ≤ k) (h1 : k < vs.length) (hz : vs.length ≤ 1000)
    (h : ∀ h', Fr h₀ L h' m → News h₀ L h' news' → Q () { s with heap := h' }) : wpAny (model prog w) A (setItem (.ref D) (.int k t) v) Q E s := by
  obtain ⟨pre, post, rfl, rfl, a, b⟩ := U.split
  have z := N (D, PySem.W.listOf vs.toArray n) (List.mem_append.mpr (.inr (.head _)))
  refine ki_setAt z.1 h0 (by omega) (by rw [List.size_toArray]; exact h1) (h _ (F.change (Heap.SameBut.update ..) z.2.1 z.2.2) (ki_turn _ N a b ?_ ?_))
  · apply Array.toList_inj.mp
    rw [Array.toList_setIfInBounds]
  · rw [if_pos (by simp)]
end
noncomputable def Bd (i : Nat) (cs : List Value) : Prop := cs.length = 8 ∧ ∀ v ∈ cs, ∃ (n : Int) (t : Tok), v = .int n t ∧ 0 ≤ n ∧ n ≤ 86 + (i : Int) * 1000000
noncomputable def lawFree : List Str := [Str.ofString "place", Str.ofString "number"]
noncomputable def LawJ (m0 : Str → Option Value) (C : Addr) (news : List (Addr × Obj)) (i _tk : Nat) (m : Str → Option Value) (nw : List (Addr × Obj)) : Prop :=
  (∃ g, m = forget lawFree g m0) ∧ ∃ cs e, nw = (C, PySem.W.listOf (List.toArray cs) e) :: news ∧ Bd i cs
noncomputable def Bd9 (cs : List Value) : Prop := ∀ v ∈ cs, ∃ (n : Int) (t : Tok), v = .int n t ∧ 0 ≤ n ∧ n < 10 ^ 9
theorem bd9_cons {k : Nat} {cs : List Value} (hl : cs.length = k + 1) (h : Bd9 cs) : ∃ a t r, cs = .int a t :: r ∧ (0 ≤ a ∧ a < 10 ^ 9) ∧ r.length = k ∧ Bd9 r := by
  cases cs with
  | nil => cases hl
  | cons v r =>
    obtain ⟨n, t, rfl, b⟩ := h v (.head _)
    exact ⟨n, t, r, rfl, b, Nat.succ.inj hl, fun u hu => h u (.tail _ hu)⟩
theorem Bd.at {i : Nat} {cs : List Value} {k : Nat} {v : Value} (h : Bd i cs) (hv : cs[k]? = some v) : ∃ (n : Int) (t : Tok), v = .int n t ∧ 0 ≤ n ∧ n ≤ 86 + (i : Int) * 1000000 := h.2 v (List.mem_of_getElem? hv)
theorem Bd.set {i : Nat} {cs : List Value} {k : Nat} {n : Int} {t : Tok} (h : Bd i cs) (h0 : 0 ≤ n) (h1 : n ≤ 86 + (i : Int) * 1000000 + 1000000) : Bd (i + 1) (cs.set k (.int n t)) := by
  refine ⟨by rw [List.length_set]; exact h.1, fun v hv => ?_⟩
  rcases List.mem_or_eq_of_mem_set hv with hv | rfl
  · obtain ⟨m, u, rfl, a, b⟩ := h.2 v hv
    exact ⟨m, u, rfl, a, by push_cast; omega⟩
  · exact ⟨n, t, rfl, h0, by push_cast; omega⟩
section
variable {prog : Program} {w : World} {A : Around} {s : Shared} {env : Env} {h₀ : Heap} {E : Value → Shared → Prop} {Q : Flow → Shared → Prop} {m0 : Str → Option Value} {C l : Addr} {news : List (Addr × Obj)}
theorem law_for {body : List Stmt} {elts : List PySem.Expr} {k : Nat} {tpos : Pos} {vs c0 : List Value} {ns : List Int} {e e0 : Nat}
    (hh : A.handled = none) (hl : (l, PySem.W.listOf vs.toArray e) ∈ news) (hC : C ≠ l) (hv : IntsAre vs ns) (hlen : ns.length ≤ 64) (F : Fr h₀ env.locals s.heap m0) (N : News h₀ env.locals s.heap ((C, PySem.W.listOf c0.toArray e0) :: news)) (hc0 : Bd 0 c0)
    (turn : ∀ i n T t tn g cs e h tk own wr, i < 64 → Bd i cs → IsTup h T #[.int (i : Nat) t, .int n tn] → (∀ p ∈ own, p.1 ≠ C) → (∀ p ∈ news, p.1 ∉ wr) → C ∉ wr → Fr h₀ env.locals h (forget lawFree g m0) → News h₀ env.locals h (own ++ (C, PySem.W.listOf (List.toArray cs) e) :: news) →
      wpAny (model prog w) A (assign (.Tuple elts k tpos) env (.ref T)) (fun _ s₂ => TkLe tk s₂ (wpAny (model prog w) A (execs body env) (TurnT h₀ env.locals s wr own (LawJ m0 C news (i + 1)) Q) E s₂)) E { s with heap := h, toks := tk })
    (done : ∀ g a0 a1 a2 a3 a4 a5 a6 a7 t0 t1 t2 t3 t4 t5 t6 t7 e h tk, (0 ≤ a0 ∧ a0 < 10 ^ 9) → (0 ≤ a1 ∧ a1 < 10 ^ 9) → (0 ≤ a2 ∧ a2 < 10 ^ 9) → (0 ≤ a3 ∧ a3 < 10 ^ 9) → (0 ≤ a4 ∧ a4 < 10 ^ 9) → (0 ≤ a5 ∧ a5 < 10 ^ 9) → (0 ≤ a6 ∧ a6 < 10 ^ 9) → (0 ≤ a7 ∧ a7 < 10 ^ 9) → s.toks ≤ tk →
      Fr h₀ env.locals h (forget lawFree g m0) → News h₀ env.locals h ((C, PySem.W.listOf [Value.int a0 t0, .int a1 t1, .int a2 t2, .int a3 t3, .int a4 t4, .int a5 t5, .int a6 t6, .int a7 t7].toArray e) :: news) → Q .next { s with heap := h, toks := tk })
    (hE : PassesOwn (model prog w) A env E := by passes_own) :
    wpAny (model prog w) A (call (.type "enumerate") [.ref l]) (fun xv s₁ => wpAny (model prog w) A (pyIter xv) (fun it s₂ => codeAny (model prog w) A (.forLoop (.Tuple elts k tpos) it body [] env) (fun r s' => match r with | .ok f => Q f s' | .error e => cameBackBy (model prog w) A env E e s') s₂) E s₁) E s := by
  refine for_enum2 (LawJ m0 C news) hh (List.mem_cons_of_mem _ hl) F N ⟨⟨_, forget_self⟩, c0, e0, rfl, hc0⟩ ?_ ?_ hE
  · rintro i v T t m₁ nw₁ h tk₀ tk own wr hx - - ⟨⟨g, rfl⟩, cs, e, rfl, hbd⟩ hT hsep hoff F₁ N₁
    have hi : i < ns.length := by rw [← hv.length]; exact (List.getElem?_eq_some_iff.mp hx).1
    obtain ⟨tn, rfl⟩ : ∃ t, v = .int ns[i] t := by
      have : ∀ {us : List Value} {ns : List Int} (_ : IntsAre us ns) (i : Nat) (v : Value) (hn : i < ns.length), us[i]? = some v → ∃ t, v = .int ns[i] t := by
        intro us ns h
        induction h with
        | nil => intro i v hn; exact absurd hn (Nat.not_lt_zero _)
        | cons k u _ ih =>
          intro i v hn hx
          cases i with
          | zero => cases hx; exact ⟨u, rfl⟩
          | succ i => exact ih i v (Nat.lt_of_succ_lt_succ hn) hx
      exact this hv i v hi hx
    exact turn i _ T t tn g cs e h tk own wr (by omega) hbd hT (fun p hp => hsep p hp (C, _) (.head _) hC) (fun p hp => hoff p (.tail _ hp)) (hoff (C, _) (.head _)) F₁ N₁
  · rintro h tk₀ tk m₁ nw₁ F₁ N₁ le0 le1 ⟨⟨g, rfl⟩, cs, e, rfl, hlen8, hbd⟩
    have hvl : vs.length ≤ 64 := by rw [hv.length]; exact hlen
    have hb9 : Bd9 cs := fun v hv => by
      obtain ⟨n, t, q, a, b⟩ := hbd v hv
      exact ⟨n, t, q, a, by omega⟩
    obtain ⟨a0, t0, c1, rfl, b0, l1, h1⟩ := bd9_cons hlen8 hb9
    obtain ⟨a1, t1, c2, rfl, b1, l2, h2⟩ := bd9_cons l1 h1
    obtain ⟨a2, t2, c3, rfl, b2, l3, h3⟩ := bd9_cons l2 h2
    obtain ⟨a3, t3, c4, rfl, b3, l4, h4⟩ := bd9_cons l3 h3
    obtain ⟨a4, t4, c5, rfl, b4, l5, h5⟩ := bd9_cons l4 h4
    obtain ⟨a5, t5, c6, rfl, b5, l6, h6⟩ := bd9_cons l5 h5
    obtain ⟨a6, t6, c7, rfl, b6, l7, h7⟩ := bd9_cons l6 h6
    obtain ⟨a7, t7, c8, rfl, b7, l8, h8⟩ := bd9_cons l7 h7
    cases List.eq_nil_of_length_eq_zero l8
    exact wpAny_execs_nil (done g a0 a1 a2 a3 a4 a5 a6 a7 t0 t1 t2 t3 t4 t5 t6 t7 e h tk b0 b1 b2 b3 b4 b5 b6 b7 (Nat.le_trans le0 le1) F₁ N₁)
theorem law_end {h' : Heap} {L : Addr} {wr : List Addr} {own nw : List (Addr × Obj)} {m' : Str → Option Value} {cs : List Value} {e i k tk' : Nat} {n : Int} {t : Tok}
    (F : Fr h₀ L h' m') (N : News h₀ L h' nw) (hs : ∀ p ∈ own ++ (C, PySem.W.listOf (cs.set k (.int n t)).toArray e) :: news, p ∈ nw) (hoff : ∀ p ∈ news, p.1 ∉ wr) (hC : C ∉ wr) (hm' : ∀ y, lawFree.contains y = false → m' y = m0 y) (hb : Bd i cs) (h0 : 0 ≤ n) (h1 : n ≤ 86 + (i : Int) * 1000000 + 1000000) :
    TurnT h₀ L s wr own (LawJ m0 C news (i + 1)) Q .next { s with heap := h', toks := tk' } := by
  refine ⟨h', tk', m', _, rfl, F, fun p hp => N p (hs p hp), ?_, ⟨m', forget_eq hm'⟩, _, e, rfl, hb.set h0 h1⟩
  intro p hp
  rcases List.mem_cons.mp hp with rfl | hp
  · exact hC
  · exact hoff p hp
end
theorem get_bd {prog : Program} {w : World} {A : Around} {E : Value → Shared → Prop} {s : Shared} {h₀ : Heap} {L D : Addr} {news : List (Addr × Obj)} {cs : List Value} {e i : Nat} {r : Int} {t : Tok} {Q : Value → Shared → Prop} (N : News h₀ L s.heap news) (hm : (D, PySem.W.listOf cs.toArray e) ∈ news) (hb : Bd i cs) (h0 : 0 ≤ r) (h8 : r < 8)
    (h : ∀ n t, 0 ≤ n → n ≤ 86 + (i : Int) * 1000000 → Q (.int n t) s) : wpAny (model prog w) A (getItem (.ref D) (.int r t)) Q E s := by
  have hl : r.toNat < cs.length := by rw [hb.1]; omega
  refine wpAny_getItem_list (News.isList N hm) h0 (by omega) (x := cs[r.toNat]) (by simp [hl]) ?_
  obtain ⟨n, t', e', a, b⟩ := hb.2 cs[r.toNat] (List.getElem_mem hl)
  rw [e']
  exact h n t' a b
theorem set_bd {prog : Program} {w : World} {A : Around} {E : Value → Shared → Prop} {s : Shared} {h₀ : Heap} {L D : Addr} {m : Str → Option Value} {own news : List (Addr × Obj)} {cs : List Value} {e i : Nat} {r n : Int} {t u : Tok} {Q : Unit → Shared → Prop} (F : Fr h₀ L s.heap m) (N : News h₀ L s.heap (own ++ (D, PySem.W.listOf cs.toArray e) :: news)) (ho : ∀ p ∈ own, p.1 ≠ D) (hn : ∀ p ∈ news, p.1 ≠ D) (hb : Bd i cs) (h0 : 0 ≤ r) (h8 : r < 8)
    (h : ∀ h', Fr h₀ L h' m → News h₀ L h' (own ++ (D, PySem.W.listOf (cs.set r.toNat (.int n u)).toArray e) :: news) → Q () { s with heap := h' }) : wpAny (model prog w) A (setItem (.ref D) (.int r t) (.int n u)) Q E s :=
  set_lst F N (Upd.app ho (.head hn)) h0 (by rw [hb.1]; omega) (by rw [hb.1]; omega) h
theorem news_swap {h₀ h : Heap} {L : Addr} {a b : Addr × Obj} {r : List (Addr × Obj)} (N : News h₀ L h (a :: b :: r)) : News h₀ L h (b :: a :: r) := fun p hp => by
  rcases List.mem_cons.mp hp with rfl | hp
  · exact N _ (.tail _ (.head _))
  · rcases List.mem_cons.mp hp with rfl | hp
    · exact N _ (.head _)
    · exact N _ (.tail _ (.tail _ hp))
theorem bd0 {t0 t1 t2 t3 t4 t5 t6 t7 : Tok} : Bd 0 [Value.int 0 t0, .int 86 t1, .int 22 t2, .int 6 t3, .int 18 t4, .int 56 t5, .int 34 t6, .int 30 t7] := by
  refine ⟨rfl, fun v hv => ?_⟩
  simp only [List.mem_cons, List.not_mem_nil, or_false] at hv
  rcases hv with rfl | rfl | rfl | rfl | rfl | rfl | rfl | rfl <;> exact ⟨_, _, rfl, by decide, by decide⟩
theorem ord_hd {p : Addr × Obj} {rest news : List (Addr × Obj)} (ord : ∀ x ∈ p :: rest, ∀ q ∈ news, q.1 < x.1) : ∀ q ∈ news, q.1 < p.1 := ord _ (.head _)
theorem ord_tl {p : Addr × Obj} {rest news : List (Addr × Obj)} (ord : ∀ x ∈ p :: rest, ∀ q ∈ news, q.1 < x.1) : ∀ x ∈ rest, ∀ q ∈ news, q.1 < x.1 := fun x hx => ord x (.tail _ hx)
section
variable (w : World) (news : List (Addr × Obj)) (ca o sg : Addr) (n0 n1 n2 n3 : Int) (k0 k1 k2 k3 tx ty tz : Tok) (ne no ns : Nat) (j0 j1 j2 j3 j4 j5 j6 j7 : Tok)
theorem form1_c (hc : (ca, W.listOf [Value.int n0 k0, .int n1 k1, .int n2 k2, .int n3 k3].toArray ne) ∈ news) (ho : (o, tup [.int 0 tx, .int 1 ty, .int 2 tz] no) ∈ news)
  (hb0 : 0 ≤ n0 ∧ n0 < 10 ^ 9) (hb1 : 0 ≤ n1 ∧ n1 < 10 ^ 9) (hb2 : 0 ≤ n2 ∧ n2 < 10 ^ 9)
  (hs : (sg, tup [.str (Str.ofString "&") j0, .str (Str.ofString ">") j1, .str (Str.ofString "<") j2, .str (Str.ofString "&") j3, .str (Str.ofString "^") j4, .str (Str.ofString "|") j5, .str (Str.ofString ">=") j6, .str (Str.ofString "==") j7] ns) ∈ news) :
  Ctr w 268 news [.ref ca, .ref o, .ref sg] 2 30 (fun r tl => ∃ f : Fm, f.leaves = 4 ∧ f.names (fun i => i = 0 ∨ i = 1 ∨ i = 2) ∧ FmP f r tl) :=
  form_c w news ca o sg n0 n1 n2 n3 k0 k1 k2 k3 tx ty tz ne no ns 0 1 2 (by decide) (by decide) (by decide) .amp .gt .lt .amp .hat .bar .ge .eqq j0 j1 j2 j3 j4 j5 j6 j7 hc ho hb0 hb1 hb2 hs
theorem form2_c (hc : (ca, W.listOf [Value.int n0 k0, .int n1 k1, .int n2 k2, .int n3 k3].toArray ne) ∈ news) (ho : (o, tup [.int 3 tx, .int 1 ty, .int 2 tz] no) ∈ news)
  (hb0 : 0 ≤ n0 ∧ n0 < 10 ^ 9) (hb1 : 0 ≤ n1 ∧ n1 < 10 ^ 9) (hb2 : 0 ≤ n2 ∧ n2 < 10 ^ 9)
  (hs : (sg, tup [.str (Str.ofString "|") j0, .str (Str.ofString ">=") j1, .str (Str.ofString "<=") j2, .str (Str.ofString "|") j3, .str (Str.ofString "==") j4, .str (Str.ofString "&") j5, .str (Str.ofString ">") j6, .str (Str.ofString "^") j7] ns) ∈ news) :
  Ctr w 268 news [.ref ca, .ref o, .ref sg] 2 30 (fun r tl => ∃ f : Fm, f.leaves = 4 ∧ f.names (fun i => i = 3 ∨ i = 1 ∨ i = 2) ∧ FmP f r tl) :=
  form_c w news ca o sg n0 n1 n2 n3 k0 k1 k2 k3 tx ty tz ne no ns 3 1 2 (by decide) (by decide) (by decide) .bar .ge .le .bar .eqq .amp .gt .hat j0 j1 j2 j3 j4 j5 j6 j7 hc ho hb0 hb1 hb2 hs
end
theorem cells_nil {cm : Str → Option Value} {cells : List (Addr × Obj)} (x : CellsAre cm [] cells) : cells = [] := by cases x; rfl
theorem qret {h₀ : Heap} {L : Addr} {m : Str → Option Value} {news : List (Addr × Obj)} {s : Shared} {Q : Value → Shared → Prop} {h' : Heap} {tk' : Nat} {x d : Addr} {a b : PySem.Str} {h : Int} {k1 k2 : Tok}
    (hret : ∀ r tl h' tk', Fr h₀ L h' m → News h₀ L h' (tl ++ news) → (∀ p ∈ tl, ∀ q ∈ news, q.1 < p.1) → (∃ (x d : Addr) (h : Int) (k1 k2 : Tok), r = .ref x ∧ d < x ∧ tl = [(x, instObj 203 d), (d, PySem.W.dictOf (qEs (Str.ofString "{" ++ a ++ Str.ofString "}" ++ b) h k1 k2) 1)]) → Q r { s with heap := h', toks := tk' })
    (F : Fr h₀ L h' m) (N : News h₀ L h' ((x, instObj 203 d) :: (d, PySem.W.dictOf (qEs (Str.ofString "{" ++ a ++ Str.ofString "}" ++ b) h k1 k2) 1) :: news)) (l1 : ∀ p ∈ news, p.1 < d) (l2 : d < x) :
    Q (.ref x) { s with heap := h', toks := tk' } := by
  refine hret (.ref x) [(x, _), (d, _)] h' tk' F N ?_ ⟨x, d, h, k1, k2, rfl, l2, rfl⟩
  intro p hp q hq
  rcases List.mem_cons.mp hp with rfl | hp
  · exact Nat.lt_trans (l1 q hq) l2
  · rw [List.mem_singleton.mp hp]; exact l1 q hq
theorem qmk_c (w : World) (news : List (Addr × Obj)) (a b : PySem.Str) (ta tb : Tok) (ha : a.length = 1) (hb : b.length = 1) :
  Ctr w 203 news [.str a ta, .str b tb] 2 8 (fun r tl => ∃ (x d : Addr) (h : Int) (k1 k2 : Tok), r = .ref x ∧ d < x ∧ tl = [(x, instObj 203 d), (d, PySem.W.dictOf (qEs (Str.ofString "{" ++ a ++ Str.ofString "}" ++ b) h k1 k2) 1)]) := by
  k_with_none
  w_top off
  k_with "mine mem" => (first | (refine' mem_here ?_; ktr_member) | (refine' mem_appR ?_; k_mem) | (refine' mem_appL ?_; k_mem) | fail)
  k_with "mine ltL" => ((repeat (first | with_reducible exact lt_up0 | with_reducible refine lt_up ?_)); done)
  k_with "mine tk2" => (first | with_reducible assumption | with_reducible exact le_one | with_reducible exact Nat.le_refl _ | with_reducible exact Nat.succ_le_of_lt (by with_reducible assumption) | (with_reducible refine le_up ?_; k_extra "mine tk2") | (with_reducible refine le_chain (by with_reducible assumption) ?_; k_extra "mine tk2"))
  k_with "mine tk1" => ((try dsimp only); k_extra "mine tk2")
  k_with "mine size" => (first | (refine' sz_arr ?szA ?szB; (case szA => with_reducible assumption); (case szB => rfl)) | (refine' sz_line ?szA ?szB; (case szA => with_reducible assumption); (case szB => rfl)) | exact Nat.le_of_ble_eq_true rfl | fail)
  k_with "mine room" => ((first | k_dflt refine' rm2 ?rmA ?rmB | k_dflt refine' rm1 ?rmA ?rmB | k_dflt refine' rm0 ?rmA); (case rmA => k_dflt assumption); (try (case rmB => rfl)))
  k_with "mine ne" => (refine neN ?_; (try dsimp only); first | exact ne_all (by with_reducible assumption) (by k_mem) | exact ne_all' (by with_reducible assumption) (by k_mem) | with_reducible assumption | exact Ne.symm (by with_reducible assumption) | exact ne_gt (by k_extra "mine ltL") | exact ne_lt (by k_extra "mine ltL") | exact ne_gt (by with_reducible assumption) | exact ne_lt (by with_reducible assumption) | exact ne_far (by with_reducible assumption) (by k_extra "mine ltL") | exact ne_far' (by with_reducible assumption) (by k_extra "mine ltL") | omega | fail)
  k_with "mine all" => (first | with_reducible assumption | exact all_ne (by with_reducible assumption) (by k_extra "mine sub") | fail)
  k_with "mine free" => (intro yy; intros; repeat (first | with_reducible exact rfl | with_reducible exact forget_off (by with_reducible assumption) | (refine' Eq.trans (if_neg ?fnC) ?_; (case fnC => first | with_reducible assumption | exact ne_free (by with_reducible assumption) (by kernel_rfl))) | exact rfl))
  k_with "evalPairs" => (k_here; dsimp only)
  k_with "Exists" => (k_here; dsimp only)
  k_with "execs cons" => (k_here; refine' nx_start ?_; intro tkz htkz; (try dsimp only at htkz))
  k_with "Nx" => ((try dsimp only); (first | (with_reducible refine' nx_cons0 ?_; intro tkz htkz) | (with_reducible refine' nx_cons ?_; intro tkz htl htkz) | ((first | with_reducible refine' nx_nil0 ?_ | with_reducible refine' nx_ret0 ?_ | with_reducible refine' nx_open0 ?_); (try dsimp only)) | ((first | with_reducible refine' nx_nil ?_ | with_reducible refine' nx_ret ?_ | with_reducible refine' nx_open ?_ | with_reducible refine' nx_brk ?_ | with_reducible refine' nx_cont ?_); intro htl; (try dsimp only at htl); (try dsimp only))))
  k_with "execs nil" => (k_here; (refine wpAny_execs_nil ?_); (try dsimp only))
  k_with "newList" => (k_here; k_dflt (refine' new_lst ?nlF ?nlN ?nlz ?_; (case nlF => k_asm); (case nlN => k_asm); (case nlz => rfl); k_whole); intro d' h' F' N' l1; (try k_sweep))
  k_with "newTuple" => (k_here; k_dflt (refine' new_tup ?nlF ?nlN ?nlz ?_; (case nlF => k_asm); (case nlN => k_asm); (case nlz => rfl); k_whole); intro d' h' F' N' l1; (try k_sweep))
  k_with "mine sub" => ((repeat (first | with_reducible exact sub_nil | with_reducible exact sub_app | with_reducible refine sub_cons ?_ | with_reducible refine sub_app' ?_)); done)
  k_with "mine end2" => ((case F => k_asm); (case N => k_asm); (case S => k_extra "mine sub"); (case P => (refine' lt_sub ?a ?b; (case a => with_reducible assumption); (case b => k_extra "mine sub"))); (case R => (refine' lt_sub ?a ?b; (case a => with_reducible assumption); (case b => k_extra "mine sub"))))
  unfold Ctr
  k_fill
  intro mean mg mb dp un gd cn cs a_ ccd cl outer A₀ base h₀ L m s Q E B F X N T hk hd hu hret
  k_dflt (refine' call_cls ?cF ?cX ?cN ?cm ?ci ?cf ?_; (case cF => k_asm); (case cX => k_asm); (case cN => k_asm); (case cm => k_is); (case ci => k_is); (case cf => k_is); k_whole)
  intro x dx h' F' N' ld1 ld2
  k_dflt (refine' code_defC ?k1 ?k2 ?k3 ?k4 ?k5 ?kA ?kF ?kK ?k6 ?k7 ?k8 ?k9 ?kB ?kD ?_ ?c2 ?c3 ?c4; (case kA => exact rfl); (case kF => exact rfl); (case kK => assumption); (case k1 => k_asm); (case k2 => k_asm); (case k3 => k_asm); (case k4 => k_asm); (case k5 => k_asm); (case k6 => k_is); (case k7 => k_is); (case k8 => ktr_room); (case k9 => exact binds_K (by k_in) rfl (by k_is) rfl rfl rfl); (case kB => exact rfl); (case kD => decide +kernel); (case c2 => exact rfl); (case c3 => exact rfl); (case c4 => exact rfl); k_whole; intro g' L' h' tk' cells' FG' F' N' Y' B' X' T' l1; (try k_lt l1); (have hc0 := cells_nil Y'); subst hc0; (try simp only [List.cons_append, List.nil_append] at N'); (try dsimp only); (try k_fold))
  k_with "TkLe" => (refine' tkle_intro ?_; intro htl; (try dsimp only at htl); (try dsimp only))
  k_with "setAttr ref str" => (k_dflt (refine' set_dict ?k1 ?k2 ?k3 ?k4 ?k5 ?k6 ?k7 ?k8 ?k9 ?k10 ?k11 ?k12 ?k13 ?_; (case k1 => k_asm); (case k2 => k_asm); (case k3 => k_asm); (case k4 => k_inst); (case k5 => exact rfl); (case k6 => k_is); (case k7 => k_is); (case k8 => k_is); (case k9 => k_is); (case k10 => k_get); (case k11 => k_put); (case k12 => exact PySem.W.Upd.tail (Nat.ne_of_gt ld2) (PySem.W.Upd.head (fun p hp => Nat.ne_of_lt (ld1 p hp)))); (case k13 => exact Nat.le_of_ble_eq_true rfl); k_whole); intro hsA FsA NsA)
  k_steps
  all_goals (rename Fr _ _ _ _ => kF9; rename News _ _ _ _ => kN9; first | exact qret hret kF9 kN9 ld1 ld2 | (exfalso; first | omega | (clear kF9 kN9; simp_all)))
noncomputable def handAddr : Nat → Addr
  | 0 => 221 | 1 => 228 | 2 => 235 | 3 => 242 | _ => 249
/-- what the escape of that number makes of a text without quotes and white space -/
noncomputable def escL : Nat → List Nat → List Nat
  | 0, l => rp 62 (rp 60 (rp 38 l)) | 1, l => rp 62 (rp 60 (rp 38 l)) | 2, l => rp 62 (rp 38 l) | 3, l => rp 62 (rp 60 (rp 38 l)) | _, l => rp 60 (rp 38 l)
noncomputable def Quiet (l : List Nat) : Prop := ∀ c ∈ [34, 13, 10, 9], c ∉ l
theorem rp_mem {c k : Nat} {l : List Nat} (h : k ∈ rp c l) : k ∈ l ∨ k ∈ zl c := by
  unfold rp at h
  obtain ⟨a, ha, hk⟩ := List.mem_flatMap.mp h
  split at hk
  · exact .inr hk
  · rw [List.mem_singleton.mp hk]; exact .inl ha
theorem zl_quiet (c : Nat) : Quiet (zl c) := by
  unfold Quiet zl
  split
  · decide
  · split <;> decide
theorem Quiet.rp {l : List Nat} (h : Quiet l) (c : Nat) : Quiet (Mine.rp c l) := fun k hk hm => by
  rcases rp_mem hm with h1 | h1
  · exact h k hk h1
  · exact zl_quiet c k hk h1
theorem esc_c (w : World) (news : List (Addr × Obj)) (i : Nat) (l : List Nat) (t : Tok) (hl : l.length ≤ 200) (hq : Quiet l) :
    CtrT w (handAddr i) news [.str (chr l) t] 1 8 (fun r tl _ => ∃ t', r = .str (chr (escL i l)) t' ∧ tl = []) := by
  match i with
  | 0 => exact escA_c w news l t hl
  | 1 =>
    have q := ((hq.rp 38).rp 60).rp 62
    exact escB_c w news l t hl (q 34 (by simp)) (q 13 (by simp)) (q 10 (by simp)) (q 9 (by simp))
  | 2 => exact escC_c w news l t hl (((hq.rp 38).rp 62) 34 (by simp))
  | 3 => exact escD_c w news l t hl ((((hq.rp 38).rp 60).rp 62) 13 (by simp))
  | n + 4 =>
    have q := (hq.rp 38).rp 60
    exact escE_c w news l t hl (q 34 (by simp)) (q 9 (by simp)) (q 10 (by simp)) (q 13 (by simp))
theorem keep_hand (w : World) (i : Nat) : keepIn (Mine.hd.heap_1_39 w.params) (.ref (handAddr i)) = true := by
  match i with
  | 0 => kernel_rfl
  | 1 => kernel_rfl
  | 2 => kernel_rfl
  | 3 => kernel_rfl
  | n + 4 => show keepIn (Mine.hd.heap_1_39 w.params) (.ref 249) = true; kernel_rfl
theorem hand_at {prog : Program} {w : World} {A : Around} {E : Value → Shared → Prop} {s : Shared} {value slice : PySem.Expr} {h₀ : Heap} {L l : Addr} {nw : List (Addr × Obj)} {n : Nat} {k : Int} {u : Tok} {Q : Value → Shared → Prop}
    (N : News h₀ L s.heap nw) (hm : (l, tup [.ref 221, .ref 228, .ref 235, .ref 242, .ref 249] n) ∈ nw) (h0 : 0 ≤ k) (h5 : k < 5) (h : Q (.ref (handAddr k.toNat)) s)
    (hs : subscripted slice false (.ref l) (.int k u) = operate [.ref l, .int k u] (getItem (.ref l) (.int k u)) := by with_unfolding_all rfl) :
    wpAny (model prog w) A (subscriptTail value slice (.ref l) (.int k u)) Q E s := by
  refine tup_at (News.isTup N hm) h0 (by show k < 5; exact h5) (by omega) (fun v hv => ?_) hs
  have e : v = .ref (handAddr k.toNat) := by
    have hk : k.toNat < 5 := by omega
    match h' : k.toNat, hk with
    | 0, _ => rw [h'] at hv; cases hv; rfl
    | 1, _ => rw [h'] at hv; cases hv; rfl
    | 2, _ => rw [h'] at hv; cases hv; rfl
    | 3, _ => rw [h'] at hv; cases hv; rfl
    | 4, _ => rw [h'] at hv; cases hv; rfl
  rw [e]; exact h
theorem CtrT.useT {w : World} {f : Addr} {news : List (Addr × Obj)} {vs : List Value} {dd uu : Nat} {Post : Value → List (Addr × Obj) → Nat → Prop} (c : CtrT w f news vs dd uu Post)
    {mean : ExcName → Option Value} {mg mb : Str → Option Value} {dp un : Nat} {gd : Option (List Code)} {cn : Str} {cs : Scope} {a : Addr} {ccd : Value} {cl : List (Str × Addr)} {outer : List Env} {A₀ : Around} {base h₀ : Heap} {L : Addr} {m : Str → Option Value} {s : Shared} {Q E : Value → Shared → Prop}
    (B : Below A₀ base outer h₀) (F : Fr h₀ L s.heap m) (X : (Mine.hd.heap_1_39 w.params).In h₀) (N : News h₀ L s.heap news) (T : Top Mine.hd.view_1_40 (looseW Mine.hd.view_1_40 [Str.ofString "EXACT_TOKEN_TYPES"]) mean mg mb h₀) (hk : cs.kind = .function)
    (hd : dp + dd < recursionLimit) (hu : un + uu < cLine) (ht : 1 ≤ s.toks)
    (ret : ∀ r tl h' tk', Fr h₀ L h' m → News h₀ L h' (tl ++ news) → (∀ p ∈ tl, ∀ q ∈ news, q.1 < p.1) → Post r tl tk' → 1 ≤ tk' → Q r { s with heap := h', toks := tk' }) :
    wpAny (model PySem.Challenge.rw_xn0025_01.row.prog w) (ktrTop dp un gd cn cs L a ccd cl outer) (call (.ref f) vs) Q E s :=
  toks_mono' (c mean mg mb dp un gd cn cs a ccd cl outer A₀ base h₀ L m s _ E B F X N T hk hd hu ht fun r tl h' tk' F' N' o p => tkle_intro fun hle => ret r tl h' tk' F' N' o p (Nat.le_trans ht hle))
theorem CtrT.useT_x {w : World} {f : Addr} {news : List (Addr × Obj)} {vs : List Value} {dd uu : Nat} {v : Tok → Value} (c : CtrT w f news vs dd uu (fun r tl _ => ∃ t, r = v t ∧ tl = []))
    {mean : ExcName → Option Value} {mg mb : Str → Option Value} {dp un : Nat} {gd : Option (List Code)} {cn : Str} {cs : Scope} {a : Addr} {ccd : Value} {cl : List (Str × Addr)} {outer : List Env} {A₀ : Around} {base h₀ : Heap} {L : Addr} {m : Str → Option Value} {s : Shared} {Q E : Value → Shared → Prop}
    (B : Below A₀ base outer h₀) (F : Fr h₀ L s.heap m) (X : (Mine.hd.heap_1_39 w.params).In h₀) (N : News h₀ L s.heap news) (T : Top Mine.hd.view_1_40 (looseW Mine.hd.view_1_40 [Str.ofString "EXACT_TOKEN_TYPES"]) mean mg mb h₀) (hk : cs.kind = .function)
    (hd : dp + dd < recursionLimit) (hu : un + uu < cLine) (ht : 1 ≤ s.toks)
    (ret : ∀ t h' tk', Fr h₀ L h' m → News h₀ L h' news → 1 ≤ tk' → Q (v t) { s with heap := h', toks := tk' }) :
    wpAny (model PySem.Challenge.rw_xn0025_01.row.prog w) (ktrTop dp un gd cn cs L a ccd cl outer) (call (.ref f) vs) Q E s :=
  CtrT.useT c B F X N T hk hd hu ht fun r tl h' tk' F' N' _ ⟨t, e, e'⟩ hone => by subst e e'; exact ret t h' tk' F' N' hone
theorem chr_of (x : PySem.Str) : chr x.cps.toList = x := by
  apply Str.ext'
  apply Array.toList_inj.mp
  simp [chr]
theorem esc_x (w : World) (news : List (Addr × Obj)) (i : Nat) (x : PySem.Str) (t : Tok) (hl : x.length ≤ 200) (hq : Quiet x.cps.toList) :
    CtrT w (handAddr i) news [.str x t] 1 8 (fun r tl _ => ∃ t', r = .str (chr (escL i x.cps.toList)) t' ∧ tl = []) := by
  have h := esc_c w news i x.cps.toList t (by simpa [Str.length] using hl) hq
  rw [chr_of] at h
  exact h
/-- the signs of a formula's text -/
noncomputable abbrev Fm.chs (f : Fm) : List Nat := f.txt.cps.toList
theorem chs_app (a b : PySem.Str) : (a ++ b).cps.toList = a.cps.toList ++ b.cps.toList := by simp [Str.cps_append]
theorem Quiet.app {a b : List Nat} (ha : Quiet a) (hb : Quiet b) : Quiet (a ++ b) := fun c hc hm => by
  rcases List.mem_append.mp hm with h | h
  · exact ha c hc h
  · exact hb c hc h
theorem leaf_quiet (n : Nat) : Quiet (leafTxt n).cps.toList := by
  match n with
  | 0 => unfold Quiet; decide +kernel
  | 1 => unfold Quiet; decide +kernel
  | 2 => unfold Quiet; decide +kernel
  | 3 => unfold Quiet; decide +kernel
  | n + 4 => intro c hc hm; cases hm
theorem sym_quiet (op : Op) : Quiet op.sym.cps.toList := by cases op <;> (unfold Quiet; decide +kernel)
theorem fm_quiet : ∀ f : Fm, Quiet f.chs
  | .lf nm neg => by
    unfold Fm.chs Fm.txt
    split
    · rw [chs_app]
      exact Quiet.app (by unfold Quiet; decide +kernel) (leaf_quiet nm)
    · exact leaf_quiet nm
  | .bn op l r => by
    unfold Fm.chs Fm.txt
    simp only [chs_app]
    exact ((((Quiet.app (by unfold Quiet; decide +kernel) (fm_quiet l)).app (sym_quiet op)).app (fm_quiet r)).app (by unfold Quiet; decide +kernel))
theorem fm_len {f : Fm} (h : f.leaves = 4) : f.txt.length ≤ 200 := by
  have := f.txt_len
  omega
noncomputable def StrJ (X : PySem.Str) (s : Shared) (v : Value) (s' : Shared) : Prop := ∃ t tk, v = .str X t ∧ s' = { s with toks := tk }
section
variable {prog : Program} {w : World} {A : Around} {E : Value → Shared → Prop} {s : Shared} {env : Env} {h₀ : Heap} {L : Addr} {m : Str → Option Value}
theorem ifx_str {Q : Value → Shared → Prop} {r c : Int} {t : Tok} {a b : PySem.Str} {nm : Str} {p0 p1 p2 p3 p4 pos : Pos} {k0 k1 k2 : Nat} (_F : Fr h₀ L s.heap m) (_hx : m nm = some (.int r t))
    (h1 : wpAny (model prog w) A (isTrue (.Compare (.Name nm p0) [.Eq] [.Constant (.int c) k0 p1] p2) env (eval (.Compare (.Name nm p0) [.Eq] [.Constant (.int c) k0 p1] p2) env)) (fun bb s₁ => if bb then wpAny (model prog w) A (eval (.Constant (.str a) k1 p3) env) (StrJ (if r = c then a else b) s) E s₁ else wpAny (model prog w) A (eval (.Constant (.str b) k2 p4) env) (StrJ (if r = c then a else b) s) E s₁) E s)
    (h2 : ∀ t tk, s.toks ≤ tk → Q (.str (if r = c then a else b) t) { s with toks := tk }) :
    wpAny (model prog w) A (eval (.IfExp (.Compare (.Name nm p0) [.Eq] [.Constant (.int c) k0 p1] p2) (.Constant (.str a) k1 p3) (.Constant (.str b) k2 p4) pos) env) Q E s :=
  wpAny_mono (toks_mono' (wpAny_mono (wpAny_IfExp h1) (fun f s' H => tkle_intro fun q => And.intro q H) fun _ _ e => e)) (fun f s' ⟨q, t, tk, hf, hs⟩ => by subst hf hs; exact h2 t tk q) fun _ _ e => e
theorem strJ_t {r c : Int} {a b : PySem.Str} {t : Tok} {tk : Nat} (h : r = c) : StrJ (if r = c then a else b) s (.str a t) { s with toks := tk } := ⟨t, tk, by rw [if_pos h], rfl⟩
theorem strJ_f {r c : Int} {a b : PySem.Str} {t : Tok} {tk : Nat} (h : ¬ r = c) : StrJ (if r = c then a else b) s (.str b t) { s with toks := tk } := ⟨t, tk, by rw [if_neg h], rfl⟩
end
section
variable {prog : Program} {w : World} {A : Around} {E : Value → Shared → Prop} {s : Shared} {h₀ : Heap} {L : Addr} {m : Str → Option Value} {env : Env}
/-- the source of a comprehension: a text -/
noncomputable def SrcStr (prog : Program) (w : World) (A : Around) (h₀ : Heap) (L : Addr) (m : Str → Option Value) (env : Env) (elt : PySem.Expr) (x : Str) (scope : Scope) (cl : List (Str × Addr)) (Fin : Shared → List Value → List (Addr × Obj) → Prop) (xv : Value) (s₁ : Shared) : Prop :=
  ∃ y t news, xv = .str y t ∧ A.handled = none ∧ Fr h₀ L s₁.heap m ∧ News h₀ L s₁.heap news ∧ y.cps.size ≤ sizeLine ∧
    ∀ s₂ : Shared, (∃ h, s₂ = { s₁ with heap := h }) → LCg.CompRest prog w A h₀ L m env elt x scope cl s₂ (fun _ => True) (SignAt y) (Fin s₂) y.cps.size 0 [] news
theorem str_st {I : Addr} {nm : String} {y : PySem.Str} {t : Tok} : ∀ i (h h' : Heap) (o : Obj) (nw : List (Addr × Obj)), h.IsStrIter I nm y t i → h.get? I = some o → h'.get? I = some o → (∀ b o, h₀.get? b = some o → h'.get? b = some o) → News h₀ L h' nw → True → h'.IsStrIter I nm y t i :=
  fun i h h' o nw st e e' _ _ _ => by obtain ⟨o', q, r⟩ := st; rw [e] at q; cases q; exact ⟨o, e', r⟩
theorem ListComp_S {elt iter : PySem.Expr} {x : Str} {px : Pos} {scope : Scope} {cl : List (Str × Addr)} {pos : Pos} {Q : Value → Shared → Prop} (_F₀ : Fr h₀ L s.heap m)
    (hclos : closureFor scope env = pure cl) (hcell : ∀ y ∈ scope.names, y.2 ≠ .cell) (hkind : scope.kind = .function)
    (hnames : ∀ y ∈ scope.names, y.2 = .local → scope.names.lookup y.1 = some .local) (hx : scope.names.lookup x = some .local)
    (h : wpAny (model prog w) A (eval iter env) (SrcStr prog w A h₀ L m env elt x scope cl (fun s₂ => LCg.FinE h₀ L m s₂ Q)) E s)
    (hs : ∀ x, foldedSetIterable iter env x = pure x := by intro _; rfl) :
    wpAny (model prog w) A (eval (.ListComp elt [⟨.Name x px, iter, [], 0⟩] scope pos) env) Q E s := by
  rw [eval_ListComp]
  refine wpAny_comprehension_free (use := none) rfl hs hclos hkind hnames (wpAny_mono h (fun xv s₁ h₁ => ?_) fun _ _ e => e)
  obtain ⟨y, t, news, rfl, hh, F, N, hsz, R⟩ := h₁
  cases ha : y.cps.all (· < 128) with
  | false =>
    refine wpAny_pyIter_wide ha ?_
    refine LCg.block_U (Walks.strWide hh _ y t) hsz (fun i h st => by obtain ⟨o, e, _⟩ := st; exact ⟨o, e⟩) str_st hcell hkind hx ⟨_, Heap.get?_push_size _ rfl, rfl, rfl⟩ (fun b hb => ?_)
      (F.keeps fun _ _ e => Heap.get?_push_of_some _ e) (N.grown fun _ _ e => Heap.get?_push_of_some _ e) (Nat.ne_of_lt F.ns.lt) (next_is_new F) (fun p hp => Nat.ne_of_lt (Heap.lt_size (N p hp).1)) trivial (R _ ⟨_, rfl⟩) ?_
    · rw [List.mem_singleton.mp hb]
      show s₁.heap.objs.size < (s₁.heap.push _).objs.size
      rw [Heap.size_push]; exact Nat.lt_succ_self _
    · intro D C h tk m' ys news' F' N' o1 hn hC₀ hD₀ hCL hDL hCD offC fin
      refine ⟨m', hn, fun h'' hs'' => fin D h'' tk (F'.change hs'' hCL hC₀) (fun p hp => ?_) o1⟩
      refine ⟨hs''.extBut _ _ ?_ (N' p hp).1, (N' p hp).2⟩
      rcases List.mem_cons.mp hp with rfl | hp
      · exact Ne.symm hCD
      · exact offC p hp
  | true =>
    refine wpAny_pyIter_ascii ha ?_
    refine LCg.block_U (Walks.strAscii hh _ y t) hsz (fun i h st => by obtain ⟨o, e, _⟩ := st; exact ⟨o, e⟩) str_st hcell hkind hx ⟨_, Heap.get?_push_size _ rfl, rfl, rfl⟩ (fun b hb => ?_)
      (F.keeps fun _ _ e => Heap.get?_push_of_some _ e) (N.grown fun _ _ e => Heap.get?_push_of_some _ e) (Nat.ne_of_lt F.ns.lt) (next_is_new F) (fun p hp => Nat.ne_of_lt (Heap.lt_size (N p hp).1)) trivial (R _ ⟨_, rfl⟩) ?_
    · rw [List.mem_singleton.mp hb]
      show s₁.heap.objs.size < (s₁.heap.push _).objs.size
      rw [Heap.size_push]; exact Nat.lt_succ_self _
    · intro D C h tk m' ys news' F' N' o1 hn hC₀ hD₀ hCL hDL hCD offC fin
      refine ⟨m', hn, fun h'' hs'' => fin D h'' tk (F'.change hs'' hCL hC₀) (fun p hp => ?_) o1⟩
      refine ⟨hs''.extBut _ _ ?_ (N' p hp).1, (N' p hp).2⟩
      rcases List.mem_cons.mp hp with rfl | hp
      · exact Ne.symm hCD
      · exact offC p hp
/-- a comprehension over a text whose element is a text -/
theorem SrcStr.of {elt : PySem.Expr} {x : Str} {scope : Scope} {cl : List (Str × Addr)} {Q : Value → Shared → Prop} {y : PySem.Str} {t : Tok} {news : List (Addr × Obj)} (g : Nat → PySem.Str)
    (hh : A.handled = none) (F : Fr h₀ L s.heap m) (N : News h₀ L s.heap news) (hsz : y.length ≤ 1000)
    (turn : ∀ c u I oI C oC D m₂ ys h tk (E' : Value → Shared → Prop), c ∈ y.cps.toList → LCg.NsObj oC m₂ → m₂ x = some (.str (chr [c]) u) → Fr h₀ L h m → News h₀ L h ((I, oI) :: (C, oC) :: (D, LCg.lst ys) :: news) →
      wpAny (model prog w) A (eval elt (compEnvC scope cl C env)) (fun v s₂ => ∃ h' tk' u', s₂ = { s with heap := h', toks := tk' } ∧ v = .str (g c) u' ∧ Fr h₀ L h' m ∧ News h₀ L h' ((I, oI) :: (C, oC) :: (D, LCg.lst ys) :: news)) E' { s with heap := h, toks := tk })
    (fin : ∀ D h tk vs, StrsAre vs (y.cps.toList.map g) → Fr h₀ L h m → News h₀ L h ((D, LCg.lst vs) :: news) → LCg.Off1 D news → Q (.ref D) { s with heap := h, toks := tk }) :
    SrcStr prog w A h₀ L m env elt x scope cl (fun s₂ => LCg.FinE h₀ L m s₂ Q) (.str y t) s := by
  refine ⟨y, t, news, rfl, hh, F, N, by rw [sizeLine_eq]; have : y.length = y.cps.size := rfl; omega, ?_⟩
  rintro s₂ ⟨hp, rfl⟩
  refine comp_acc (fun i ys acc => acc = [] ∧ StrsAre ys ((y.cps.toList.take i).map g)) ⟨rfl, .nil⟩ ?_ (fun _ => trivial) ?_
  · rintro i v ys acc I oI C oC D m₂ h tk E' hi ⟨c, u, hc, rfl⟩ ⟨rfl, hys⟩ hC hx F₁ N₁ off ne
    have hc' : y.cps.toList[i]? = some c := by simpa using hc
    refine wpAny_mono (turn c u I oI C oC D m₂ ys h tk E' (List.mem_of_getElem? hc') hC hx F₁ N₁) (fun v s₃ hq => ?_) fun _ _ e => e
    obtain ⟨h', tk', u', rfl, rfl, F₂, N₂⟩ := hq
    refine ⟨h', tk', [], rfl, F₂, N₂, (fun _ hp => nomatch hp), rfl, ?_⟩
    rw [List.take_add_one, hc']
    simpa using kct_snoc hys
  · rintro ys acc ⟨rfl, hys⟩ D h tk F₁ N₁ o1
    rw [List.take_of_length_le (by simp)] at hys
    exact fin D h tk ys hys F₁ N₁ o1
end
noncomputable def tabD (X Y : PySem.Str) : List (PyData × PyData) := [(.str (Str.ofString "&"), .str (Str.ofString "&amp;")), (.str (Str.ofString "<"), .str X), (.str (Str.ofString ">"), .str Y)]
noncomputable def tabOf (X Y : PySem.Str) (c : Nat) : PySem.Str := if c = 38 then Str.ofString "&amp;" else if c = 60 then X else if c = 62 then Y else chr [c]
theorem chr_inj {a b : Nat} (h : chr [a] = chr [b]) : a = b := by
  have e := congrArg (fun x : PySem.Str => x.cps.toList) h
  simpa [chr] using e
theorem lit38 : Str.ofString "&" = chr [38] := by decide +kernel
theorem lit60 : Str.ofString "<" = chr [60] := by decide +kernel
theorem lit62 : Str.ofString ">" = chr [62] := by decide +kernel
theorem tab_look (X Y : PySem.Str) (c : Nat) : Spec.lookup (.str (chr [c])) (tabD X Y) = if c = 38 then some (.str (Str.ofString "&amp;")) else if c = 60 then some (.str X) else if c = 62 then some (.str Y) else none := by
  unfold tabD
  rw [lit38, lit60, lit62]
  have hs : ∀ k : Nat, PySem.Spec.same (.str (chr [k])) (.str (chr [c])) = decide (c = k) := by
    intro k
    rw [PyProof.V.same_str]
    by_cases h : c = k
    · subst h; simp
    · rw [decide_eq_false h]
      exact decide_eq_false fun e => h (chr_inj e).symm
  simp only [Spec.lookup, hs]
  by_cases h1 : c = 38
  · simp [h1]
  · by_cases h2 : c = 60
    · simp [h2]
    · by_cases h3 : c = 62
      · simp [h3]
      · simp [h1, h2, h3]
theorem get_tab {prog : Program} {w : World} {A : Around} {E : Value → Shared → Prop} {s : Shared} {Q : Value → Shared → Prop} {d : Addr} {X Y : PySem.Str} {c : Nat} {t u : Tok} (T : StrTab prog w s.heap d (tabD X Y)) (h : ∀ t, Q (.str (tabOf X Y c) t) { s with toks := s.toks + 1 }) :
    wpAny (model prog w) A (call (.builtin "dict.get") [.ref d, .str (chr [c]) t, .str (chr [c]) u]) Q E s := by
  have hl := tab_look X Y c
  cases hx : Spec.lookup (.str (chr [c])) (tabD X Y) with
  | none =>
    refine kt_get2_noneS T hx (PyProof.V.Flat.str _ _) fun v hv => ?_
    obtain ⟨t', rfl⟩ := PyProof.V.Flat.str_inv hv
    have e : tabOf X Y c = chr [c] := by
      rw [hx] at hl
      unfold tabOf
      split at hl; · cases hl
      split at hl; · cases hl
      split at hl; · cases hl
      simp_all
    rw [← e]; exact h t'
  | some dv =>
    have e : dv = .str (tabOf X Y c) := by
      rw [hx] at hl
      unfold tabOf
      split at hl
      · cases hl; simp_all
      · split at hl
        · cases hl; simp_all
        · split at hl
          · cases hl; simp_all
          · cases hl
    refine kt_get2_thereS T hx (PyProof.V.Flat.str _ _) fun v hv => ?_
    rw [e] at hv
    obtain ⟨t', rfl⟩ := PyProof.V.Flat.str_inv hv
    exact h t'
theorem joinS (ls : List (List Nat)) : Txt.join (Str.ofString "") (ls.map chr) = chr ls.flatten := by
  have e0 : Str.ofString "" = chr [] := by decide +kernel
  show Builtin.Str.glued _ _ = _
  rw [StrLaws.glued_eq_join, e0]
  have key : ∀ ls : List (List Nat), Str.join (chr []) (ls.map chr) = chr ls.flatten := by
    intro ls
    induction ls with
    | nil => rfl
    | cons a r ih =>
      cases r with
      | nil => show chr a = chr ([a].flatten); simp
      | cons b r =>
        show chr a ++ chr [] ++ Str.join (chr []) ((b :: r).map chr) = _
        rw [ih]
        simp only [chr_app, List.flatten_cons, List.append_nil]
  exact key ls
/-- one sign by the law's own table -/
noncomputable def tabL (i c : Nat) : List Nat := if c = 38 then [38, 97, 109, 112, 59] else if c = 60 then (if i = 2 then [60] else [38, 108, 116, 59]) else if c = 62 then (if i = 4 then [62] else [38, 103, 116, 59]) else [c]
theorem rp_bind (c : Nat) (l : List Nat) (f : Nat → List Nat) : rp c (l.flatMap f) = l.flatMap fun k => rp c (f k) := by
  unfold rp
  rw [List.flatMap_assoc]
theorem rp_single (c k : Nat) : rp c [k] = if k = c then zl c else [k] := by simp [rp]
theorem flat_congr {l : List Nat} {f g : Nat → List Nat} (h : ∀ c, f c = g c) : l.flatMap f = l.flatMap g := by
  have : f = g := funext h
  rw [this]
theorem esc_flat {i : Nat} (hi : i < 5) (l : List Nat) : escL i l = l.flatMap (tabL i) := by
  have h38 : rp 38 l = l.flatMap fun k => if k = 38 then zl 38 else [k] := rfl
  have a1 : ∀ c : Nat, rp 60 (if c = 38 then zl 38 else [c]) = if c = 38 then zl 38 else if c = 60 then zl 60 else [c] := by
    intro c
    split
    · decide
    · exact rp_single _ _
  have a2 : ∀ c : Nat, rp 62 (if c = 38 then zl 38 else if c = 60 then zl 60 else [c]) = if c = 38 then zl 38 else if c = 60 then zl 60 else if c = 62 then zl 62 else [c] := by
    intro c
    split
    · decide
    · split
      · decide
      · exact rp_single _ _
  have a3 : ∀ c : Nat, rp 62 (if c = 38 then zl 38 else [c]) = if c = 38 then zl 38 else if c = 62 then zl 62 else [c] := by
    intro c
    split
    · decide
    · exact rp_single _ _
  have z38 : zl 38 = [38, 97, 109, 112, 59] := by decide
  have z60 : zl 60 = [38, 108, 116, 59] := by decide
  have z62 : zl 62 = [38, 103, 116, 59] := by decide
  have full : rp 62 (rp 60 (rp 38 l)) = l.flatMap fun c => if c = 38 then zl 38 else if c = 60 then zl 60 else if c = 62 then zl 62 else [c] := by
    rw [h38, rp_bind, flat_congr a1, rp_bind, flat_congr a2]
  match i, hi with
  | 0, _ => exact full.trans (flat_congr fun c => by unfold tabL; simp only [z38, z60, z62]; rfl)
  | 1, _ => exact full.trans (flat_congr fun c => by unfold tabL; simp only [z38, z60, z62]; rfl)
  | 2, _ =>
    show rp 62 (rp 38 l) = _
    rw [h38, rp_bind, flat_congr a3]
    refine flat_congr fun c => ?_
    unfold tabL
    simp only [z38, z62]
    by_cases h1 : c = 38
    · simp [h1]
    · by_cases h2 : c = 60
      · simp [h2]
      · simp [h1, h2]
  | 3, _ => exact full.trans (flat_congr fun c => by unfold tabL; simp only [z38, z60, z62]; rfl)
  | 4, _ =>
    show rp 60 (rp 38 l) = _
    rw [h38, rp_bind, flat_congr a1]
    refine flat_congr fun c => ?_
    unfold tabL
    simp only [z38, z60]
    by_cases h1 : c = 38
    · simp [h1]
    · by_cases h2 : c = 60
      · simp [h2]
      · by_cases h3 : c = 62
        · simp [h3]
        · simp [h1, h2, h3]
theorem tab_chr {r : Int} (h0 : 0 ≤ r) (c : Nat) : tabOf (if r = 2 then Str.ofString "<" else Str.ofString "&lt;") (if r = 4 then Str.ofString ">" else Str.ofString "&gt;") c = chr (tabL r.toNat c) := by
  have e2 : r = 2 ↔ r.toNat = 2 := by omega
  have e4 : r = 4 ↔ r.toNat = 4 := by omega
  unfold tabOf tabL
  split
  · decide +kernel
  · split
    · by_cases h : r.toNat = 2
      · rw [if_pos (e2.mpr h), if_pos h]; decide +kernel
      · rw [if_neg (fun e => h (e2.mp e)), if_neg h]; decide +kernel
    · split
      · by_cases h : r.toNat = 4
        · rw [if_pos (e4.mpr h), if_pos h]; decide +kernel
        · rw [if_neg (fun e => h (e4.mp e)), if_neg h]; decide +kernel
      · rfl
theorem page_eq {r : Int} (h0 : 0 ≤ r) (h5 : r < 5) (l : List Nat) : Txt.join (Str.ofString "") (l.map (tabOf (if r = 2 then Str.ofString "<" else Str.ofString "&lt;") (if r = 4 then Str.ofString ">" else Str.ofString "&gt;"))) = chr (escL r.toNat l) := by
  have e : l.map (tabOf (if r = 2 then Str.ofString "<" else Str.ofString "&lt;") (if r = 4 then Str.ofString ">" else Str.ofString "&gt;")) = (l.map (tabL r.toNat)).map chr := by
    rw [List.map_map]
    exact List.map_congr_left fun c _ => tab_chr h0 c
  rw [e, joinS, esc_flat (by omega)]
  rfl
theorem tabL_len (i c : Nat) : (tabL i c).length ≤ 5 := by
  unfold tabL
  split
  · decide
  · split
    · split <;> decide
    · split
      · split <;> decide
      · simp
section
variable {prog : Program} {w : World} {A : Around} {E : Value → Shared → Prop} {s : Shared} {h₀ : Heap} {L : Addr} {m : Str → Option Value} {env : Env}
theorem ListComp_SA {o iter : PySem.Expr} {nm : Str} {ap ap2 : Pos} {args : List PySem.Expr} {kws : List Keyword} {x : Str} {px : Pos} {scope : Scope} {cl : List (Str × Addr)} {pos : Pos} {Q : Value → Shared → Prop} (F₀ : Fr h₀ L s.heap m)
    (hclos : closureFor scope env = pure cl) (hcell : ∀ y ∈ scope.names, y.2 ≠ .cell) (hkind : scope.kind = .function)
    (hnames : ∀ y ∈ scope.names, y.2 = .local → scope.names.lookup y.1 = some .local) (hx : scope.names.lookup x = some .local)
    (h : wpAny (model prog w) A (eval iter env) (SrcStr prog w A h₀ L m env (.Call (.Attribute o nm ap) args kws ap2) x scope cl (fun s₂ => LCg.FinE h₀ L m s₂ Q)) E s)
    (hs : ∀ x, foldedSetIterable iter env x = pure x := by intro _; rfl) :
    wpAny (model prog w) A (eval (.ListComp (.Call (.Attribute o nm ap) args kws ap2) [⟨.Name x px, iter, [], 0⟩] scope pos) env) Q E s :=
  ListComp_S F₀ hclos hcell hkind hnames hx h hs
noncomputable def TurnS (h₀ : Heap) (L : Addr) (m : Str → Option Value) (s : Shared) (led : List (Addr × Obj)) (X : PySem.Str) (v : Value) (s₂ : Shared) : Prop :=
  ∃ h' tk' u', s₂ = { s with heap := h', toks := tk' } ∧ v = .str X u' ∧ Fr h₀ L h' m ∧ News h₀ L h' led
theorem TurnS.of {led nw : List (Addr × Obj)} {X : PySem.Str} {u : Tok} {h' : Heap} {tk' : Nat} (F : Fr h₀ L h' m) (N : News h₀ L h' nw) (hs : ∀ p ∈ led, p ∈ nw) : TurnS h₀ L m s led X (.str X u) { s with heap := h', toks := tk' } :=
  ⟨h', tk', u, rfl, rfl, F, fun p hp => N p (hs p hp)⟩
noncomputable def FinW (P : Prop) : Prop := P
theorem FinW.of {P : Prop} (h : P) : FinW P := h
/-- the law's table over a text's signs -/
theorem src_tab {elt : PySem.Expr} {x : Str} {scope : Scope} {cl : List (Str × Addr)} {Q : Value → Shared → Prop} {y : PySem.Str} {t : Tok} {news : List (Addr × Obj)} {d : Addr} {X Y : PySem.Str} {hp : Heap}
    (_T : StrTab prog w hp d (tabD X Y)) (hh : A.handled = none) (F : Fr h₀ L s.heap m) (N : News h₀ L s.heap news) (hsz : y.length ≤ 1000)
    (turn : ∀ c u I oI C oC D m₂ ys h tk (E' : Value → Shared → Prop), c ∈ y.cps.toList → LCg.NsObj oC m₂ → m₂ x = some (.str (chr [c]) u) → Fr h₀ L h m → News h₀ L h ((I, oI) :: (C, oC) :: (D, LCg.lst ys) :: news) →
      wpAny (model prog w) A (eval elt (compEnvC scope cl C env)) (TurnS h₀ L m { s with heap := h, toks := tk } ((I, oI) :: (C, oC) :: (D, LCg.lst ys) :: news) (tabOf X Y c)) E' { s with heap := h, toks := tk })
    (fin : FinW (∀ D h tk vs e, StrsAre vs (y.cps.toList.map (tabOf X Y)) → Fr h₀ L h m → News h₀ L h ((D, PySem.W.listOf vs.toArray e) :: news) → LCg.Off1 D news → Q (.ref D) { s with heap := h, toks := tk })) :
    SrcStr prog w A h₀ L m env elt x scope cl (fun s₂ => LCg.FinE h₀ L m s₂ Q) (.str y t) s := by
  refine SrcStr.of (tabOf X Y) hh F N hsz ?_ fun D h tk vs hv F N o => fin D h tk vs vs.length hv F N o
  intro c u I oI C oC D m₂ ys h tk E' hc hC hx F₁ N₁
  refine wpAny_mono (turn c u I oI C oC D m₂ ys h tk E' hc hC hx F₁ N₁) (fun v s₂ hq => ?_) fun _ _ e => e
  obtain ⟨h', tk', u', rfl, rfl, F₂, N₂⟩ := hq
  exact ⟨h', tk', u', rfl, rfl, F₂, N₂⟩
theorem strs_map_len {l : List Nat} {g : Nat → PySem.Str} (h : ∀ c, (g c).length ≤ 5) : (((l.map g).map (·.length)).sum + (l.map g).length) ≤ 6 * l.length := by
  induction l with
  | nil => simp
  | cons a r ih =>
    have := h a
    simp only [List.map_cons, List.sum_cons, List.length_cons] at ih ⊢
    omega
theorem join_page {D : Addr} {news : List (Addr × Obj)} {vs : List Value} {e : Nat} {r : Int} {y : PySem.Str} {t : Tok} {Q : Value → Shared → Prop} (h0 : 0 ≤ r) (h5 : r < 5) (hl : y.length ≤ 200)
    (N : News h₀ L s.heap news) (hm : (D, PySem.W.listOf vs.toArray e) ∈ news) (hv : StrsAre vs (y.cps.toList.map (tabOf (if r = 2 then Str.ofString "<" else Str.ofString "&lt;") (if r = 4 then Str.ofString ">" else Str.ofString "&gt;"))))
    (h : ∀ t' k, Q (.str (chr (escL r.toNat y.cps.toList)) t') { s with toks := k }) : wpAny (model prog w) A (call (.builtin "str.join") [.str (Str.ofString "") t, .ref D]) Q E s := by
  refine join_exp N hm hv (page_eq h0 h5 _) ?_ h
  have hg : ∀ c, (tabOf (if r = 2 then Str.ofString "<" else Str.ofString "&lt;") (if r = 4 then Str.ofString ">" else Str.ofString "&gt;") c).length ≤ 5 := fun c => by rw [tab_chr h0, chr_len]; exact tabL_len _ _
  have h1 := strs_map_len (l := y.cps.toList) hg
  have h2 : y.cps.toList.length = y.length := by simp [Str.length]
  omega
theorem ne_self {x : PySem.Str} {t u : Tok} {Q : Value → Shared → Prop} (h : Q (.bool false) s) : wpAny (model prog w) A (compareOp .NotEq (.str x t) (.str x u)) Q E s :=
  PyProof.Rows.ne_str (by rw [bne_self_eq_false]; exact h)
end
noncomputable def keysL : List (List Nat) := [[33], [33, 61], [37], [37, 61], [38], [38, 61], [40], [41], [42], [42, 42], [42, 42, 61], [42, 61], [43], [43, 61], [44], [45], [45, 61], [45, 62], [46], [46, 46, 46], [47], [47, 47], [47, 47, 61], [47, 61], [58], [58, 61], [59], [60], [60, 60], [60, 60, 61], [60, 61], [61], [61, 61], [62], [62, 61], [62, 62], [62, 62, 61], [64], [64, 61], [91], [93], [94], [94, 61], [123], [124], [124, 61], [125], [126]]
theorem keys_eq : ettL.map (fun p => p.1.cps.toList) = keysL := by decide +kernel
theorem look_mem {x : PySem.Str} : ∀ {l : List (PySem.Str × Int)}, (l.lookup x).isSome = true → x.cps.toList ∈ l.map (fun p => p.1.cps.toList)
  | [], h => by cases h
  | p :: r, h => by
    rw [List.lookup_cons] at h
    by_cases e : x = p.1
    · rw [e]; exact List.mem_cons_self ..
    · have e' : (x == p.1) = false := beq_eq_false_iff_ne.mpr e
      rw [e'] at h
      exact List.mem_cons_of_mem _ (look_mem h)
theorem tok_mem {l : List Nat} (h : isTok l = true) : l ∈ keysL := by
  have h1 := look_mem h
  rw [keys_eq] at h1
  simpa [chr] using h1
theorem tok_no {l : List Nat} (h : l ∉ keysL) : isTok l = false := by
  cases e : isTok l with
  | false => rfl
  | true => exact absurd (tok_mem e) h
theorem cut_peel {l t rest : List Nat} {ts : List (List Nat)} (h0 : l ≠ []) (ht : l.take (sz l) = t) (hr : l.drop (sz l) = rest) (h : Cut l ts) : ∃ ts', ts = t :: ts' ∧ Cut rest ts' := by
  cases h with
  | nil => exact absurd rfl h0
  | step _ hc => exact ⟨_, by rw [ht], by rw [← hr]; exact hc⟩
theorem cut_nil {ts : List (List Nat)} (h : Cut [] ts) : ts = [] := by
  cases h with
  | nil => rfl
  | step h0 _ => exact absurd rfl h0
theorem sz_two {c d : Nat} {r : List Nat} (h2 : [c, d] ∉ keysL) (h3 : ∀ e, [c, d, e] ∉ keysL) : sz (c :: d :: r) = 1 := by
  have e2 : isTok [c, d] = false := tok_no h2
  unfold sz
  cases r with
  | nil =>
    show (if isTok [c] = true then (if isTok [c, d] = true then 3 else if isTok [c, d] = true then 2 else 1) else 1) = 1
    rw [e2]; simp
  | cons e r =>
    have e3 : isTok [c, d, e] = false := tok_no (h3 e)
    show (if isTok [c] = true then (if isTok [c, d, e] = true then 3 else if isTok [c, d] = true then 2 else 1) else 1) = 1
    rw [e2, e3]; simp
theorem peel_next {c d : Nat} {r : List Nat} {ts : List (List Nat)} (h2 : [c, d] ∉ keysL) (h3 : ∀ e, [c, d, e] ∉ keysL) (h : Cut (c :: d :: r) ts) : ∃ ts', ts = [c] :: ts' ∧ Cut (d :: r) ts' :=
  cut_peel (List.cons_ne_nil _ _) (by rw [sz_two h2 h3]; rfl) (by rw [sz_two h2 h3]; rfl) h
theorem peel_one {c : Nat} {r : List Nat} {ts : List (List Nat)} (h2 : ∀ d, [c, d] ∉ keysL) (h3 : ∀ d e, [c, d, e] ∉ keysL) (h : Cut (c :: r) ts) : ∃ ts', ts = [c] :: ts' ∧ Cut r ts' := by
  cases r with
  | cons d r => exact peel_next (h2 d) (h3 d) h
  | nil =>
    have hs := sz_pos [c]
    have e : ∀ n, 1 ≤ n → [c].take n = [c] ∧ [c].drop n = [] := fun n hn => by
      match n, hn with
      | n + 1, _ => exact ⟨by simp, by simp⟩
    exact cut_peel (List.cons_ne_nil _ _) (e _ hs.1).1 (e _ hs.1).2 h
theorem peel_two {c d : Nat} {r : List Nat} {ts : List (List Nat)} (h1 : isTok [c] = true) (h2 : isTok [c, d] = true) (h3 : ∀ e, [c, d, e] ∉ keysL) (h : Cut (c :: d :: r) ts) : ∃ ts', ts = [c, d] :: ts' ∧ Cut r ts' := by
  cases r with
  | nil =>
    have e : sz [c, d] = 3 := by
      unfold sz
      show (if isTok [c] = true then (if isTok [c, d] = true then 3 else if isTok [c, d] = true then 2 else 1) else 1) = 3
      rw [h1, h2]; simp
    exact cut_peel (List.cons_ne_nil _ _) (by rw [e]; rfl) (by rw [e]; rfl) h
  | cons e r =>
    have e3 : isTok [c, d, e] = false := tok_no (h3 e)
    have es : sz (c :: d :: e :: r) = 2 := by
      unfold sz
      show (if isTok [c] = true then (if isTok [c, d, e] = true then 3 else if isTok [c, d] = true then 2 else 1) else 1) = 2
      rw [h1, h2, e3]; simp
    exact cut_peel (List.cons_ne_nil _ _) (by rw [es]; rfl) (by rw [es]; rfl) h
/-- signs that no longer operator begins with -/
noncomputable def loneL : List Nat := [40, 41, 59, 91, 93, 123, 125, 126, 97, 98, 99, 103, 108, 109, 112, 116, 120, 121]
noncomputable def loneOk (k : List Nat) : Bool := match k with | [c, _] => !loneL.contains c | [c, _, _] => !loneL.contains c | _ => true
theorem lone_all : keysL.all loneOk = true := by decide +kernel
theorem lone (c : Nat) (hc : c ∈ [40, 41, 59, 91, 93, 123, 125, 126, 97, 98, 99, 103, 108, 109, 112, 116, 120, 121]) : (∀ d, [c, d] ∉ keysL) ∧ (∀ d e, [c, d, e] ∉ keysL) := by
  have hl : loneL.contains c = true := List.contains_iff_mem.mpr hc
  constructor
  · intro d hm
    have h : (!loneL.contains c) = true := List.all_eq_true.mp lone_all _ hm
    rw [hl] at h; cases h
  · intro d e hm
    have h : (!loneL.contains c) = true := List.all_eq_true.mp lone_all _ hm
    rw [hl] at h; cases h
theorem peel_lone {c : Nat} {r : List Nat} {ts : List (List Nat)} (hc : c ∈ [40, 41, 59, 91, 93, 123, 125, 126, 97, 98, 99, 103, 108, 109, 112, 116, 120, 121]) (h : Cut (c :: r) ts) : ∃ ts', ts = [c] :: ts' ∧ Cut r ts' :=
  peel_one (lone c hc).1 (lone c hc).2 h
noncomputable def leafL : Nat → List Nat
  | 0 => [97, 120] | 1 => [99, 120] | 2 => [99, 121] | _ => [98, 120]
theorem leaf_chs {n : Nat} (h : n < 4) : ∃ a x, (leafTxt n).cps.toList = [123, a, 125, x] ∧ a ∈ [97, 98, 99] ∧ x ∈ [120, 121] ∧ chr ([123] ++ [a] ++ [125] ++ [x]) = leafTxt n := by
  match n, h with
  | 0, _ => exact ⟨97, 120, by decide +kernel, by decide, by decide, by decide +kernel⟩
  | 1, _ => exact ⟨99, 120, by decide +kernel, by decide, by decide, by decide +kernel⟩
  | 2, _ => exact ⟨99, 121, by decide +kernel, by decide, by decide, by decide +kernel⟩
  | 3, _ => exact ⟨98, 120, by decide +kernel, by decide, by decide, by decide +kernel⟩
noncomputable def Op.symL : Op → List Nat
  | .amp => [38] | .bar => [124] | .hat => [94] | .eqq => [61, 61] | .lt => [60] | .gt => [62] | .le => [60, 61] | .ge => [62, 61]
theorem sym_chs (op : Op) : op.sym.cps.toList = op.symL := by cases op <;> decide +kernel
theorem par1 : (Str.ofString "(").cps.toList = [40] := by decide +kernel
theorem par2 : (Str.ofString ")").cps.toList = [41] := by decide +kernel
theorem til : (Str.ofString "~").cps.toList = [126] := by decide +kernel
theorem chs_bn (op : Op) (l r : Fm) : (Fm.bn op l r).chs = [40] ++ l.chs ++ op.symL ++ r.chs ++ [41] := by
  unfold Fm.chs
  show ((Str.ofString "(" ++ l.txt ++ op.sym ++ r.txt ++ Str.ofString ")" : PySem.Str)).cps.toList = _
  simp only [chs_app, par1, par2, sym_chs]
theorem chs_lf (nm : Nat) (neg : Bool) : (Fm.lf nm neg).chs = if neg = true then 126 :: (leafTxt nm).cps.toList else (leafTxt nm).cps.toList := by
  unfold Fm.chs
  show ((if neg = true then Str.ofString "~" ++ leafTxt nm else leafTxt nm : PySem.Str)).cps.toList = _
  split
  · rw [chs_app, til]; rfl
  · rfl
theorem chs_start : ∀ f : Fm, f.names (· < 4) → ∃ c r, f.chs = c :: r ∧ c ∈ [40, 123, 126]
  | .lf nm neg, h => by
    obtain ⟨a, x, e, -⟩ := leaf_chs (show nm < 4 from h)
    rw [chs_lf, e]
    split
    · exact ⟨_, _, rfl, by decide⟩
    · exact ⟨_, _, rfl, by decide⟩
  | .bn op l r, _ => by
    rw [chs_bn]
    exact ⟨40, l.chs ++ op.symL ++ r.chs ++ [41], by simp, by decide⟩
noncomputable def opL : List Nat := [38, 124, 94, 60, 62]
noncomputable def nextL : List Nat := [40, 123, 126]
noncomputable def opOk (k : List Nat) : Bool := match k with | [c, d] => !(opL.contains c && nextL.contains d) | [c, d, _] => !(opL.contains c && nextL.contains d) | _ => true
theorem op_all : keysL.all opOk = true := by decide +kernel
theorem op_next {c d : Nat} (hc : c ∈ [38, 124, 94, 60, 62]) (hd : d ∈ [40, 123, 126]) : [c, d] ∉ keysL ∧ ∀ e, [c, d, e] ∉ keysL := by
  have h1 : opL.contains c = true := List.contains_iff_mem.mpr hc
  have h2 : nextL.contains d = true := List.contains_iff_mem.mpr hd
  constructor
  · intro hm
    have h : (!(opL.contains c && nextL.contains d)) = true := List.all_eq_true.mp op_all _ hm
    rw [h1, h2] at h; cases h
  · intro e hm
    have h : (!(opL.contains c && nextL.contains d)) = true := List.all_eq_true.mp op_all _ hm
    rw [h1, h2] at h; cases h
theorem op_two {c : Nat} (hc : c ∈ [61, 60, 62]) : ∀ e, [c, 61, e] ∉ keysL := by
  simp only [List.mem_cons, List.not_mem_nil, or_false] at hc
  intro e hm
  simp only [keysL, List.mem_cons, List.not_mem_nil, or_false, List.cons.injEq, and_false, and_true, false_or, or_self, reduceCtorEq] at hm
  omega
theorem op_peel (op : Op) {d : Nat} {r : List Nat} {ts : List (List Nat)} (hd : d ∈ [40, 123, 126]) (h : Cut (op.symL ++ d :: r) ts) : ∃ ts', ts = op.symL :: ts' ∧ Cut (d :: r) ts' := by
  cases op with
  | amp => exact peel_next (op_next (by decide) hd).1 (op_next (by decide) hd).2 h
  | bar => exact peel_next (op_next (by decide) hd).1 (op_next (by decide) hd).2 h
  | hat => exact peel_next (op_next (by decide) hd).1 (op_next (by decide) hd).2 h
  | lt => exact peel_next (op_next (by decide) hd).1 (op_next (by decide) hd).2 h
  | gt => exact peel_next (op_next (by decide) hd).1 (op_next (by decide) hd).2 h
  | eqq => exact peel_two (by decide +kernel) (by decide +kernel) (op_two (by decide)) h
  | le => exact peel_two (by decide +kernel) (by decide +kernel) (op_two (by decide)) h
  | ge => exact peel_two (by decide +kernel) (by decide +kernel) (op_two (by decide)) h
theorem op_tok (op : Op) : tokOf (chr op.symL) = some op.num ∧ op.num ≠ 25 := by cases op <;> exact ⟨by decide +kernel, by decide⟩
theorem row_gen : ∀ f : Fm, f.names (· < 4) → ∀ (rest : List Nat) (rr : List Int), (∀ ts, Cut rest ts → Rw ts rr) → ∀ ts, Cut (f.chs ++ rest) ts → Rw ts (f.row ++ rr)
  | .lf nm neg, hn, rest, rr, hr, ts, h => by
    have hn' : nm < 4 := hn
    obtain ⟨a, x, e, ha, hx, hc⟩ := leaf_chs hn'
    have leaf : ∀ ts, Cut (123 :: a :: 125 :: x :: rest) ts → Rw ts ((256 + (nm : Int)) :: rr) := by
      intro ts h
      have ha' : a ∈ [40, 41, 59, 91, 93, 123, 125, 126, 97, 98, 99, 103, 108, 109, 112, 116, 120, 121] := (by decide : ∀ k ∈ [97, 98, 99], k ∈ [40, 41, 59, 91, 93, 123, 125, 126, 97, 98, 99, 103, 108, 109, 112, 116, 120, 121]) a ha
      have hx' : x ∈ [40, 41, 59, 91, 93, 123, 125, 126, 97, 98, 99, 103, 108, 109, 112, 116, 120, 121] := (by decide : ∀ k ∈ [120, 121], k ∈ [40, 41, 59, 91, 93, 123, 125, 126, 97, 98, 99, 103, 108, 109, 112, 116, 120, 121]) x hx
      obtain ⟨t1, q1, h1⟩ := peel_lone (by decide) h
      obtain ⟨t2, q2, h2⟩ := peel_lone ha' h1
      obtain ⟨t3, q3, h3⟩ := peel_lone (by decide) h2
      obtain ⟨t4, q4, h4⟩ := peel_lone hx' h3
      rw [q1, q2, q3, q4]
      exact .name hn' hc (hr _ h4)
    rw [chs_lf, e] at h
    unfold Fm.row
    cases neg with
    | false => exact leaf ts h
    | true =>
      obtain ⟨t1, q1, h1⟩ := peel_lone (c := 126) (by decide) h
      rw [q1]
      exact .num (by decide +kernel) (by decide) (leaf _ h1)
  | .bn op l r, hn, rest, rr, hr, ts, h => by
    obtain ⟨d, r', ed, hd⟩ := chs_start r hn.2
    have e1 : (Fm.bn op l r).chs ++ rest = 40 :: (l.chs ++ (op.symL ++ (r.chs ++ (41 :: rest)))) := by rw [chs_bn]; simp
    have e2 : (Fm.bn op l r).row ++ rr = 7 :: (l.row ++ (op.num :: (r.row ++ (8 :: rr)))) := by
      show ([7] ++ l.row ++ [op.num] ++ r.row ++ [8]) ++ rr = _
      simp
    rw [e1] at h
    rw [e2]
    obtain ⟨t1, q1, h1⟩ := peel_lone (c := 40) (by decide) h
    rw [q1]
    refine .num (by decide +kernel) (by decide) (row_gen l hn.1 _ _ ?_ _ h1)
    intro ts2 g
    rw [ed] at g
    obtain ⟨t2, q2, h2⟩ := op_peel op hd g
    rw [q2]
    refine .num (op_tok op).1 (op_tok op).2 (row_gen r hn.2 (41 :: rest) (8 :: rr) ?_ _ (by rw [ed]; exact h2))
    intro ts3 g3
    obtain ⟨t3, q3, h3⟩ := peel_lone (c := 41) (by decide) g3
    rw [q3]
    exact .num (by decide +kernel) (by decide) (hr _ h3)
theorem row_law' (f : Fm) (hn : f.names (· < 4)) : ∀ ts, Cut f.chs ts → Rw ts f.row := by
  intro ts h
  have h1 := row_gen f hn [] [] (fun ts h => by rw [cut_nil h]; exact .nil) ts (by rw [List.append_nil]; exact h)
  rwa [List.append_nil] at h1
theorem tab_same {i c : Nat} (h1 : c ≠ 38) (h2 : c ≠ 60) (h3 : c ≠ 62) : tabL i c = [c] := by
  unfold tabL; rw [if_neg h1, if_neg h2, if_neg h3]
theorem nx_keys {c : Nat} {l : List Nat} (hl : ∀ d ∈ l, [c, d] ∉ keysL.map (List.take 2)) {d : Nat} (hd : d ∈ l) : [c, d] ∉ keysL ∧ ∀ e, [c, d, e] ∉ keysL :=
  ⟨fun h => hl d hd (List.mem_map.mpr ⟨_, h, rfl⟩), fun _ h => hl d hd (List.mem_map.mpr ⟨_, h, rfl⟩)⟩
theorem eq_next {d : Nat} (hd : d ∈ [40, 123, 126]) : [61, d] ∉ keysL ∧ ∀ e, [61, d, e] ∉ keysL :=
  nx_keys (l := [40, 123, 126]) (by decide +kernel) hd
theorem amp_next {d : Nat} (hd : d ∈ [97, 108, 103]) : [38, d] ∉ keysL ∧ ∀ e, [38, d, e] ∉ keysL :=
  nx_keys (l := [97, 108, 103]) (by decide +kernel) hd
theorem ent_amp {r oo : List Nat} {ts : List (List Nat)} (h : Cut (38 :: 97 :: 109 :: 112 :: 59 :: r) ts) (k : ∀ ts, Cut r ts → Bare ts oo) : Bare ts (38 :: oo) := by
  obtain ⟨t1, q1, h1⟩ := peel_next (amp_next (by decide)).1 (amp_next (by decide)).2 h
  obtain ⟨t2, q2, h2⟩ := peel_lone (by decide) h1
  obtain ⟨t3, q3, h3⟩ := peel_lone (by decide) h2
  obtain ⟨t4, q4, h4⟩ := peel_lone (by decide) h3
  obtain ⟨t5, q5, h5⟩ := peel_lone (by decide) h4
  rw [q1, q2, q3, q4, q5]
  exact .amp (k _ h5)
theorem ent_lt {r oo : List Nat} {ts : List (List Nat)} (h : Cut (38 :: 108 :: 116 :: 59 :: r) ts) (k : ∀ ts, Cut r ts → Bare ts oo) : Bare ts (60 :: oo) := by
  obtain ⟨t1, q1, h1⟩ := peel_next (amp_next (by decide)).1 (amp_next (by decide)).2 h
  obtain ⟨t2, q2, h2⟩ := peel_lone (by decide) h1
  obtain ⟨t3, q3, h3⟩ := peel_lone (by decide) h2
  obtain ⟨t4, q4, h4⟩ := peel_lone (by decide) h3
  rw [q1, q2, q3, q4]
  exact .lt (k _ h4)
theorem ent_gt {r oo : List Nat} {ts : List (List Nat)} (h : Cut (38 :: 103 :: 116 :: 59 :: r) ts) (k : ∀ ts, Cut r ts → Bare ts oo) : Bare ts (62 :: oo) := by
  obtain ⟨t1, q1, h1⟩ := peel_next (amp_next (by decide)).1 (amp_next (by decide)).2 h
  obtain ⟨t2, q2, h2⟩ := peel_lone (by decide) h1
  obtain ⟨t3, q3, h3⟩ := peel_lone (by decide) h2
  obtain ⟨t4, q4, h4⟩ := peel_lone (by decide) h3
  rw [q1, q2, q3, q4]
  exact .gt (k _ h4)
theorem op_bare (i : Nat) (op : Op) {d : Nat} {r oo : List Nat} {ts : List (List Nat)} (hd : d ∈ [40, 123, 126]) (h : Cut (op.symL.flatMap (tabL i) ++ d :: r) ts) (k : ∀ ts, Cut (d :: r) ts → Bare ts oo) : Bare ts (op.symL ++ oo) := by
  have one : ∀ c, c ∈ [38, 124, 94, 60, 62] → tokOf (chr [c]) ≠ some 19 → Cut (c :: d :: r) ts → Bare ts (c :: oo) := by
    intro c hc ht h
    obtain ⟨t1, q1, h1⟩ := peel_next (op_next hc hd).1 (op_next hc hd).2 h
    rw [q1]
    exact Bare.plain ht (k _ h1)
  have two : ∀ c, c ∈ [61, 60, 62] → isTok [c] = true → isTok [c, 61] = true → tokOf (chr [c, 61]) ≠ some 19 → Cut (c :: 61 :: d :: r) ts → Bare ts (c :: 61 :: oo) := by
    intro c hc a b ht h
    obtain ⟨t1, q1, h1⟩ := peel_two a b (op_two hc) h
    rw [q1]
    exact Bare.plain ht (k _ h1)
  have eqs : ∀ ts, Cut (61 :: d :: r) ts → Bare ts (61 :: oo) := by
    intro ts h
    obtain ⟨t1, q1, h1⟩ := peel_next (eq_next hd).1 (eq_next hd).2 h
    rw [q1]
    exact Bare.plain (by decide +kernel) (k _ h1)
  cases op with
  | amp => exact ent_amp h k
  | bar => exact one 124 (by decide) (by decide +kernel) h
  | hat => exact one 94 (by decide) (by decide +kernel) h
  | eqq => exact two 61 (by decide) (by decide +kernel) (by decide +kernel) (by decide +kernel) h
  | lt =>
    by_cases hi : i = 2
    · subst hi; exact one 60 (by decide) (by decide +kernel) h
    · have e : tabL i 60 = [38, 108, 116, 59] := by unfold tabL; simp [hi]
      have e' : Op.lt.symL.flatMap (tabL i) = [38, 108, 116, 59] := by show tabL i 60 ++ [] = _; rw [e]; rfl
      rw [e'] at h
      exact ent_lt h k
  | gt =>
    by_cases hi : i = 4
    · subst hi; exact one 62 (by decide) (by decide +kernel) h
    · have e : tabL i 62 = [38, 103, 116, 59] := by unfold tabL; simp [hi]
      have e' : Op.gt.symL.flatMap (tabL i) = [38, 103, 116, 59] := by show tabL i 62 ++ [] = _; rw [e]; rfl
      rw [e'] at h
      exact ent_gt h k
  | le =>
    by_cases hi : i = 2
    · subst hi; exact two 60 (by decide) (by decide +kernel) (by decide +kernel) (by decide +kernel) h
    · have e : tabL i 60 = [38, 108, 116, 59] := by unfold tabL; simp [hi]
      have e' : Op.le.symL.flatMap (tabL i) = [38, 108, 116, 59, 61] := by show tabL i 60 ++ (tabL i 61 ++ []) = _; rw [e, tab_same (by decide) (by decide) (by decide)]; rfl
      rw [e'] at h
      exact ent_lt h eqs
  | ge =>
    by_cases hi : i = 4
    · subst hi; exact two 62 (by decide) (by decide +kernel) (by decide +kernel) (by decide +kernel) h
    · have e : tabL i 62 = [38, 103, 116, 59] := by unfold tabL; simp [hi]
      have e' : Op.ge.symL.flatMap (tabL i) = [38, 103, 116, 59, 61] := by show tabL i 62 ++ (tabL i 61 ++ []) = _; rw [e, tab_same (by decide) (by decide) (by decide)]; rfl
      rw [e'] at h
      exact ent_gt h eqs
theorem lone_tok : ∀ c ∈ [40, 41, 59, 91, 93, 123, 125, 126, 97, 98, 99, 103, 108, 109, 112, 116, 120, 121], tokOf (chr [c]) ≠ some 19 := by decide +kernel
theorem bare_lone {c : Nat} {r oo : List Nat} {ts : List (List Nat)} (hc : c ∈ [40, 41, 59, 91, 93, 123, 125, 126, 97, 98, 99, 103, 108, 109, 112, 116, 120, 121]) (h : Cut (c :: r) ts) (k : ∀ ts, Cut r ts → Bare ts oo) : Bare ts (c :: oo) := by
  obtain ⟨t1, q1, h1⟩ := peel_lone hc h
  rw [q1]
  exact Bare.plain (lone_tok c hc) (k _ h1)
theorem tab_lone {i c : Nat} (hc : c ∈ [40, 41, 59, 91, 93, 123, 125, 126, 97, 98, 99, 103, 108, 109, 112, 116, 120, 121]) : tabL i c = [c] := by
  exact tab_same (fun e => absurd (e ▸ hc) (by decide)) (fun e => absurd (e ▸ hc) (by decide)) (fun e => absurd (e ▸ hc) (by decide))
theorem bare_gen (i : Nat) : ∀ f : Fm, f.names (· < 4) → ∀ (rest oo : List Nat), (∀ ts, Cut rest ts → Bare ts oo) → ∀ ts, Cut (f.chs.flatMap (tabL i) ++ rest) ts → Bare ts (f.chs ++ oo)
  | .lf nm neg, hn, rest, oo, hr, ts, h => by
    have hn' : nm < 4 := hn
    obtain ⟨a, x, e, ha, hx, -⟩ := leaf_chs hn'
    have ha' : a ∈ [40, 41, 59, 91, 93, 123, 125, 126, 97, 98, 99, 103, 108, 109, 112, 116, 120, 121] := (by decide : ∀ k ∈ [97, 98, 99], k ∈ [40, 41, 59, 91, 93, 123, 125, 126, 97, 98, 99, 103, 108, 109, 112, 116, 120, 121]) a ha
    have hx' : x ∈ [40, 41, 59, 91, 93, 123, 125, 126, 97, 98, 99, 103, 108, 109, 112, 116, 120, 121] := (by decide : ∀ k ∈ [120, 121], k ∈ [40, 41, 59, 91, 93, 123, 125, 126, 97, 98, 99, 103, 108, 109, 112, 116, 120, 121]) x hx
    have fl : [123, a, 125, x].flatMap (tabL i) = [123, a, 125, x] := by
      show tabL i 123 ++ (tabL i a ++ (tabL i 125 ++ (tabL i x ++ []))) = _
      rw [tab_lone (c := 123) (by decide), tab_lone ha', tab_lone (c := 125) (by decide), tab_lone hx']; rfl
    have leaf : ∀ ts, Cut (123 :: a :: 125 :: x :: rest) ts → Bare ts (123 :: a :: 125 :: x :: oo) := fun ts h =>
      bare_lone (by decide) h fun ts h => bare_lone ha' h fun ts h => bare_lone (by decide) h fun ts h => bare_lone hx' h hr
    rw [chs_lf, e] at h ⊢
    cases neg with
    | false =>
      rw [if_neg Bool.false_ne_true] at h ⊢
      rw [fl] at h
      exact leaf ts h
    | true =>
      rw [if_pos rfl] at h ⊢
      have e2 : (126 :: [123, a, 125, x]).flatMap (tabL i) = 126 :: [123, a, 125, x] := by
        rw [List.flatMap_cons, fl, tab_lone (c := 126) (by decide)]; rfl
      rw [e2] at h
      exact bare_lone (by decide) h leaf
  | .bn op l r, hn, rest, oo, hr, ts, h => by
    obtain ⟨d, r', ed, hd⟩ := chs_start r hn.2
    have hd' : d ∈ [40, 41, 59, 91, 93, 123, 125, 126, 97, 98, 99, 103, 108, 109, 112, 116, 120, 121] := (by decide : ∀ k ∈ [40, 123, 126], k ∈ [40, 41, 59, 91, 93, 123, 125, 126, 97, 98, 99, 103, 108, 109, 112, 116, 120, 121]) d hd
    have er : r.chs.flatMap (tabL i) = d :: r'.flatMap (tabL i) := by rw [ed, List.flatMap_cons, tab_lone hd']; rfl
    have e1 : (Fm.bn op l r).chs.flatMap (tabL i) ++ rest = 40 :: (l.chs.flatMap (tabL i) ++ (op.symL.flatMap (tabL i) ++ (r.chs.flatMap (tabL i) ++ (41 :: rest)))) := by
      rw [chs_bn]
      simp only [List.flatMap_append, List.flatMap_cons, List.flatMap_nil, tab_lone (i := i) (c := 40) (by decide), tab_lone (i := i) (c := 41) (by decide)]
      simp
    have e2 : (Fm.bn op l r).chs ++ oo = 40 :: (l.chs ++ (op.symL ++ (r.chs ++ (41 :: oo)))) := by rw [chs_bn]; simp
    rw [e1] at h
    rw [e2]
    refine bare_lone (by decide) h fun ts2 g => bare_gen i l hn.1 _ _ (fun ts3 g3 => ?_) ts2 g
    have g3' : Cut (op.symL.flatMap (tabL i) ++ d :: (r'.flatMap (tabL i) ++ (41 :: rest))) ts3 := by
      rw [er] at g3
      exact g3
    refine op_bare i op hd g3' fun ts4 g4 => ?_
    refine bare_gen i r hn.2 (41 :: rest) (41 :: oo) (fun ts5 g5 => bare_lone (by decide) g5 hr) ts4 ?_
    rw [er]
    exact g4
theorem bare_law' (i : Nat) (f : Fm) (hn : f.names (· < 4)) : ∀ ts, Cut (escL i f.chs) ts → Bare ts f.chs := by
  intro ts h
  have key : ∀ j, j < 5 → escL i f.chs = escL j f.chs → Bare ts f.chs := by
    intro j hj e
    rw [e, esc_flat hj] at h
    have h1 := bare_gen j f hn [] [] (fun ts h => by rw [cut_nil h]; exact .nil) ts (by rw [List.append_nil]; exact h)
    rwa [List.append_nil] at h1
  match i with
  | 0 => exact key 0 (by decide) rfl
  | 1 => exact key 1 (by decide) rfl
  | 2 => exact key 2 (by decide) rfl
  | 3 => exact key 3 (by decide) rfl
  | n + 4 => exact key 4 (by decide) rfl
theorem bare_law (i : Nat) (f : Fm) (hl : f.leaves = 4) (hn : f.names (· < 4)) : ∀ ts, Cut (escL i f.chs) ts → Bare ts f.chs := bare_law' i f hn
theorem row_law (f : Fm) (hl : f.leaves = 4) (hn : f.names (· < 4)) : ∀ ts, Cut f.chs ts → Rw ts f.row := row_law' f hn
theorem txt_low : ∀ f : Fm, 3 * f.leaves ≤ f.txt.length + 3
  | .lf nm neg => by unfold Fm.leaves; omega
  | .bn op l r => by
    have h1 := txt_low l
    have h2 := txt_low r
    have h3 : 1 ≤ op.sym.length := by cases op <;> decide +kernel
    have p1 : (PySem.Str.ofString "(").length = 1 := by decide +kernel
    have p2 : (PySem.Str.ofString ")").length = 1 := by decide +kernel
    unfold Fm.leaves Fm.txt
    simp only [str_len_app, p1, p2]
    omega
theorem chs_eq (f : Fm) : f.chs.length = f.txt.length := by simp [Fm.chs, Str.length]
theorem chs_len (f : Fm) (hl : f.leaves = 4) : f.chs.length ≤ 1000 ∧ 4 ≤ f.chs.length := by
  have h1 := f.txt_len
  have h2 := txt_low f
  rw [chs_eq]
  omega
theorem rp_low (c : Nat) : ∀ l : List Nat, l.length ≤ (rp c l).length
  | [] => Nat.le_refl _
  | k :: r => by
    have ih := rp_low c r
    have hz : 1 ≤ (zl c).length := by
      unfold zl
      split
      · decide
      · split <;> decide
    show (k :: r).length ≤ ((if k = c then zl c else [k]) ++ rp c r).length
    rw [List.length_append, List.length_cons]
    split
    · omega
    · simp only [List.length_cons, List.length_nil]; omega
theorem flat_len {g : Nat → List Nat} (h : ∀ c, (g c).length ≤ 5) : ∀ l : List Nat, (l.flatMap g).length ≤ 5 * l.length
  | [] => Nat.le_refl _
  | k :: r => by
    have ih := flat_len h r
    have := h k
    rw [List.flatMap_cons, List.length_append, List.length_cons]
    omega
theorem escL_min (i : Nat) (l : List Nat) : ∃ j, j < 5 ∧ escL i l = escL j l := by
  match i with
  | 0 => exact ⟨0, by decide, rfl⟩
  | 1 => exact ⟨1, by decide, rfl⟩
  | 2 => exact ⟨2, by decide, rfl⟩
  | 3 => exact ⟨3, by decide, rfl⟩
  | n + 4 => exact ⟨4, by decide, rfl⟩
theorem esc_top (i : Nat) (f : Fm) (hl : f.leaves = 4) : (chr (escL i f.chs)).length ≤ 1000 := by
  obtain ⟨j, hj, e⟩ := escL_min i f.chs
  have h1 := f.txt_len
  have h3 := chs_eq f
  have h2 := flat_len (tabL_len j) f.chs
  rw [chr_len, e, esc_flat hj]
  omega
theorem esc_len (i : Nat) (f : Fm) (hl : f.leaves = 4) : (chr (escL i f.chs)).length ≤ 10000 ∧ 4 ≤ (chr (escL i f.chs)).length := by
  have h1 := f.txt_len
  have h2 := txt_low f
  have h3 := chs_eq f
  rw [chr_len]
  have a38 := rp_len 38 f.chs
  have b38 := rp_low 38 f.chs
  have a62 := rp_len 62 (rp 38 f.chs)
  have b62 := rp_low 62 (rp 38 f.chs)
  have a60 := rp_len 60 (rp 38 f.chs)
  have b60 := rp_low 60 (rp 38 f.chs)
  have a6 := rp_len 62 (rp 60 (rp 38 f.chs))
  have b6 := rp_low 62 (rp 60 (rp 38 f.chs))
  match i with
  | 0 => show (rp 62 (rp 60 (rp 38 f.chs))).length ≤ _ ∧ _ ≤ (rp 62 (rp 60 (rp 38 f.chs))).length; omega
  | 1 => show (rp 62 (rp 60 (rp 38 f.chs))).length ≤ _ ∧ _ ≤ (rp 62 (rp 60 (rp 38 f.chs))).length; omega
  | 2 => show (rp 62 (rp 38 f.chs)).length ≤ _ ∧ _ ≤ (rp 62 (rp 38 f.chs)).length; omega
  | 3 => show (rp 62 (rp 60 (rp 38 f.chs))).length ≤ _ ∧ _ ≤ (rp 62 (rp 60 (rp 38 f.chs))).length; omega
  | n + 4 => show (rp 60 (rp 38 f.chs)).length ≤ _ ∧ _ ≤ (rp 60 (rp 38 f.chs)).length; omega
theorem row_len4 (f : Fm) (hl : f.leaves = 4) : f.row.length ≤ 400 := by
  have key : ∀ f : Fm, f.row.length + 3 ≤ 5 * f.leaves := by
    intro f
    induction f with
    | lf nm neg => unfold Fm.row Fm.leaves; split <;> simp
    | bn op l r hl hr =>
      unfold Fm.row Fm.leaves
      simp only [List.length_append, List.length_cons, List.length_nil]
      omega
  have := key f
  omega
theorem Fm.names_mono {P Q : Nat → Prop} (h : ∀ i, P i → Q i) : ∀ f : Fm, f.names P → f.names Q
  | .lf _ _, hp => h _ hp
  | .bn _ l r, hp => ⟨l.names_mono h hp.1, r.names_mono h hp.2⟩
theorem names1 {f : Fm} (h : f.names (fun i => i = 0 ∨ i = 1 ∨ i = 2)) : f.names (· < 4) := f.names_mono (fun i hi => by omega) h
theorem names2 {f : Fm} (h : f.names (fun i => i = 3 ∨ i = 1 ∨ i = 2)) : f.names (· < 4) := f.names_mono (fun i hi => by omega) h
theorem bare_f (w : World) (news : List (Addr × Obj)) (i : Nat) (f : Fm) (t : Tok) (hl : f.leaves = 4) (hn : f.names (· < 4)) :
    CtrT w 282 news [.str (chr (escL i f.chs)) t] 2 16 (fun r tl tk' => ∃ t', r = .str (chr f.chs) t' ∧ tl = []) :=
  bare_c w news _ t f.chs (esc_top i f hl) (esc_len i f hl).2 (chs_len f hl).1 (fun ts h => bare_law i f hl hn ts (by simpa [chr] using h))
theorem row_f (w : World) (news : List (Addr × Obj)) (f : Fm) (t : Tok) (Dn : Addr) (hl : f.leaves = 4) (hn : f.names (· < 4)) (hN : NamesAt Dn news) :
    CtrT w 289 news [.str (chr f.chs) t, .ref Dn] 4 24 (fun r tl tk' => ∃ (d : Addr) (vs : List Value) (e : Nat), r = .ref d ∧ tl = [(d, W.listOf vs.toArray e)] ∧ IntsAre vs (f.row ++ [0])) :=
  row_c w news _ t Dn f.row (by rw [chr_len]; exact (chs_len f hl).1) (by rw [chr_len]; exact (chs_len f hl).2) (Nat.le_trans (row_len4 f hl) (by decide)) hN (fun ts h => row_law f hl hn ts (by simpa [chr] using h))
theorem names_at {q0 q1 q2 q3 d0 d1 d2 d3 D : Addr} {h0 h1 h2 h3 : Int} {a0 a1 a2 a3 b0 b1 b2 b3 : Tok} {e : Nat} {news : List (Addr × Obj)} (hD : (D, PySem.W.listOf [Value.ref q0, .ref q1, .ref q2, .ref q3].toArray e) ∈ news)
    (i0 : (q0, instObj 203 d0) ∈ news) (i1 : (q1, instObj 203 d1) ∈ news) (i2 : (q2, instObj 203 d2) ∈ news) (i3 : (q3, instObj 203 d3) ∈ news)
    (j0 : (d0, PySem.W.dictOf (qEs (Str.ofString "{" ++ Str.ofString "a" ++ Str.ofString "}" ++ Str.ofString "x") h0 a0 b0) 1) ∈ news) (j1 : (d1, PySem.W.dictOf (qEs (Str.ofString "{" ++ Str.ofString "c" ++ Str.ofString "}" ++ Str.ofString "x") h1 a1 b1) 1) ∈ news)
    (j2 : (d2, PySem.W.dictOf (qEs (Str.ofString "{" ++ Str.ofString "c" ++ Str.ofString "}" ++ Str.ofString "y") h2 a2 b2) 1) ∈ news) (j3 : (d3, PySem.W.dictOf (qEs (Str.ofString "{" ++ Str.ofString "b" ++ Str.ofString "}" ++ Str.ofString "x") h3 a3 b3) 1) ∈ news) : NamesAt D news := by
  have e0 : Str.ofString "{" ++ Str.ofString "a" ++ Str.ofString "}" ++ Str.ofString "x" = leafTxt 0 := by decide +kernel
  have e1 : Str.ofString "{" ++ Str.ofString "c" ++ Str.ofString "}" ++ Str.ofString "x" = leafTxt 1 := by decide +kernel
  have e2 : Str.ofString "{" ++ Str.ofString "c" ++ Str.ofString "}" ++ Str.ofString "y" = leafTxt 2 := by decide +kernel
  have e3 : Str.ofString "{" ++ Str.ofString "b" ++ Str.ofString "}" ++ Str.ofString "x" = leafTxt 3 := by decide +kernel
  rw [e0] at j0; rw [e1] at j1; rw [e2] at j2; rw [e3] at j3
  refine ⟨e, _, hD, rfl, fun i v hv => ?_⟩
  match i, hv with
  | 0, hv => cases hv; exact ⟨q0, d0, h0, a0, b0, rfl, i0, j0⟩
  | 1, hv => cases hv; exact ⟨q1, d1, h1, a1, b1, rfl, i1, j1⟩
  | 2, hv => cases hv; exact ⟨q2, d2, h2, a2, b2, rfl, i2, j2⟩
  | 3, hv => cases hv; exact ⟨q3, d3, h3, a3, b3, rfl, i3, j3⟩
/-- a formula's cases with other columns -/
noncomputable def Fm.ev (cv : Nat → BitVec 16) : Fm → BitVec 16
  | .lf nm neg => if neg = true then ~~~ cv nm else cv nm
  | .bn op l r => op.bv (l.ev cv) (r.ev cv)
theorem ev_bits : ∀ f : Fm, f.ev leafCol = f.bits
  | .lf nm neg => by unfold Fm.ev Fm.bits; rfl
  | .bn op l r => by unfold Fm.ev Fm.bits; rw [ev_bits l, ev_bits r]
theorem num_mark (op : Op) : op.num < 256 ∧ op.num ≠ 8 ∧ op.num ≠ 0 ∧ op.num ≠ 31 := by cases op <;> decide
theorem ev_row (cv : Nat → BitVec 16) : ∀ f : Fm, f.names (· < 4) → ∀ (r ms : List Int) (vs : List (BitVec 16)) (x : BitVec 16), (∀ ms' k, ms = ms' ++ [k] → k ≠ 31) → Ev cv r ms (vs ++ [f.ev cv]) x → Ev cv (f.row ++ r) ms vs x
  | .lf nm neg, hn, r, ms, vs, x, hm, h => by
    have hn' : nm < 4 := hn
    unfold Fm.row
    unfold Fm.ev at h
    cases neg with
    | false =>
      rcases List.eq_nil_or_concat ms with rfl | ⟨ms', k, rfl⟩
      · exact EvS.leaf0 hn' h
      · rw [List.concat_eq_append] at h ⊢
        exact EvS.leaf hn' (hm ms' k (List.concat_eq_append ..)) h
    | true => exact EvS.mark (by decide) (by decide) (by decide) (EvS.neg hn' h)
  | .bn op l r', hn, r, ms, vs, x, hm, h => by
    have e : (Fm.bn op l r').row ++ r = 7 :: (l.row ++ (op.num :: (r'.row ++ (8 :: r)))) := by
      show ([7] ++ l.row ++ [op.num] ++ r'.row ++ [8]) ++ r = _
      simp
    rw [e]
    have hl : ∀ (a : List Int) (b : Int), b ≠ 31 → ∀ ms' k, a ++ [b] = ms' ++ [k] → k ≠ 31 := by
      intro a b hb ms' k he
      have := (List.append_inj' he rfl).2
      rw [← List.head_eq_of_cons_eq this]
      exact hb
    refine EvS.mark (by decide) (by decide) (by decide) (ev_row cv l hn.1 _ _ _ _ (hl _ _ (by decide)) ?_)
    have hp := num_mark op
    refine EvS.mark hp.1 hp.2.1 hp.2.2.1 (ev_row cv r' hn.2 _ _ _ _ (hl _ _ hp.2.2.2) ?_)
    exact EvS.close h
theorem ev_all (cv : Nat → BitVec 16) (f : Fm) (hn : f.names (· < 4)) : Ev cv (f.row ++ [0]) [] [] (f.ev cv) :=
  ev_row cv f hn [0] [] [] _ (fun ms' k h => by cases ms' <;> cases h) (EvS.eof (vs := []))
/-! the sixteen claims -/
noncomputable def cellBV (u v : BitVec 16) : BitVec 16 := (52428#16 ^^^ u) &&& (61680#16 ^^^ v)
noncomputable def growBV (l : List (BitVec 16)) (c : BitVec 16) : List (BitVec 16) := l ++ l.map (· ||| c)
noncomputable def claimsBV : List (BitVec 16) := growBV (growBV (growBV (growBV [0#16] (cellBV 0#16 0#16)) (cellBV 0#16 65535#16)) (cellBV 65535#16 0#16)) (cellBV 65535#16 65535#16)
theorem all1 {p : BitVec 16 → Prop} [DecidablePred p] (h : claimsBV.all (fun a => decide (p a)) = true) : ∀ a ∈ claimsBV, p a := fun a ha => of_decide_eq_true (List.all_eq_true.mp h a ha)
theorem all2 {p : BitVec 16 → BitVec 16 → Prop} [∀ a b, Decidable (p a b)] (h : claimsBV.all (fun a => claimsBV.all fun b => decide (p a b)) = true) : ∀ a ∈ claimsBV, ∀ b ∈ claimsBV, p a b := fun a ha b hb => of_decide_eq_true (List.all_eq_true.mp (List.all_eq_true.mp h a ha) b hb)
theorem cl_not : ∀ a ∈ claimsBV, ~~~a ∈ claimsBV := all1 (by decide +kernel)
theorem cl_and : ∀ a ∈ claimsBV, ∀ b ∈ claimsBV, a &&& b ∈ claimsBV := all2 (by decide +kernel)
theorem cl_or : ∀ a ∈ claimsBV, ∀ b ∈ claimsBV, a ||| b ∈ claimsBV := all2 (by decide +kernel)
theorem cl_xor : ∀ a ∈ claimsBV, ∀ b ∈ claimsBV, a ^^^ b ∈ claimsBV := all2 (by decide +kernel)
theorem cl_op (op : Op) {a b : BitVec 16} (ha : a ∈ claimsBV) (hb : b ∈ claimsBV) : op.bv a b ∈ claimsBV := by
  cases op <;> unfold Op.bv <;> dsimp only
  · exact cl_and _ ha _ hb
  · exact cl_or _ ha _ hb
  · exact cl_xor _ ha _ hb
  · exact cl_not _ (cl_xor _ ha _ hb)
  · exact cl_and _ hb _ (cl_not _ ha)
  · exact cl_and _ ha _ (cl_not _ hb)
  · exact cl_or _ (cl_not _ ha) _ hb
  · exact cl_or _ (cl_not _ hb) _ ha
theorem ev_claim {cv : Nat → BitVec 16} {P : Nat → Prop} (hc : ∀ i, P i → cv i ∈ claimsBV) : ∀ f : Fm, f.names P → f.ev cv ∈ claimsBV
  | .lf nm neg, hn => by
    unfold Fm.ev
    split
    · exact cl_not _ (hc nm hn)
    · exact hc nm hn
  | .bn op l r, hn => by
    unfold Fm.ev
    exact cl_op op (ev_claim hc l hn.1) (ev_claim hc r hn.2)
/-- a mix of two by a mask -/
noncomputable def mix (k a b : BitVec 16) : BitVec 16 := (~~~k &&& a) ||| (k &&& b)
theorem mix_bit {k a b : BitVec 16} {i : Nat} (hi : i < 16) : (mix k a b).getLsbD i = cond (k.getLsbD i) (b.getLsbD i) (a.getLsbD i) := by
  unfold mix
  rw [BitVec.getLsbD_or, BitVec.getLsbD_and, BitVec.getLsbD_and, BitVec.getLsbD_not, decide_eq_true hi]
  cases k.getLsbD i
  · exact Bool.or_false _
  · rfl
theorem mix_op (op : Op) (k a b c d : BitVec 16) : op.bv (mix k a b) (mix k c d) = mix k (op.bv a c) (op.bv b d) := by
  apply BitVec.eq_of_getLsbD_eq
  intro i hi
  rw [op_bit hi, mix_bit hi, mix_bit hi, mix_bit hi, op_bit hi, op_bit hi]
  cases k.getLsbD i <;> rfl
theorem mix_not (k a b : BitVec 16) : ~~~(mix k a b) = mix k (~~~a) (~~~b) := by
  apply BitVec.eq_of_getLsbD_eq
  intro i hi
  rw [mix_bit hi, BitVec.getLsbD_not, BitVec.getLsbD_not, BitVec.getLsbD_not, mix_bit hi, decide_eq_true hi]
  cases k.getLsbD i <;> rfl
theorem ev_mix {k : BitVec 16} {c0 c1 c2 : Nat → BitVec 16} {P : Nat → Prop} (hc : ∀ i, P i → c0 i = mix k (c1 i) (c2 i)) : ∀ f : Fm, f.names P → f.ev c0 = mix k (f.ev c1) (f.ev c2)
  | .lf nm neg, hn => by
    unfold Fm.ev
    rw [hc nm hn]
    split
    · exact mix_not _ _ _
    · rfl
  | .bn op l r, hn => by
    unfold Fm.ev
    rw [ev_mix hc l hn.1, ev_mix hc r hn.2, mix_op]
/-- inclusion -/
theorem sub_mix_l {k a b c : BitVec 16} : mix k a b &&& ~~~c = 0#16 ↔ (~~~k &&& a) &&& ~~~c = 0#16 ∧ (k &&& b) &&& ~~~c = 0#16 := by
  have e : mix k a b &&& ~~~c = ((~~~k &&& a) &&& ~~~c) ||| ((k &&& b) &&& ~~~c) := by
    apply BitVec.eq_of_getLsbD_eq
    intro i hi
    unfold mix
    simp only [BitVec.getLsbD_and, BitVec.getLsbD_or, BitVec.getLsbD_not, hi, decide_true, Bool.true_and]
    cases k.getLsbD i <;> cases a.getLsbD i <;> cases b.getLsbD i <;> cases c.getLsbD i <;> rfl
  rw [e, BitVec.or_eq_zero_iff]
theorem sub_mix_r {k a b c : BitVec 16} : c &&& ~~~(mix k a b) = 0#16 ↔ (~~~k &&& c) &&& ~~~a = 0#16 ∧ (k &&& c) &&& ~~~b = 0#16 := by
  have e : c &&& ~~~(mix k a b) = ((~~~k &&& c) &&& ~~~a) ||| ((k &&& c) &&& ~~~b) := by
    apply BitVec.eq_of_getLsbD_eq
    intro i hi
    unfold mix
    simp only [BitVec.getLsbD_and, BitVec.getLsbD_or, BitVec.getLsbD_not, hi, decide_true, Bool.true_and]
    cases k.getLsbD i <;> cases a.getLsbD i <;> cases b.getLsbD i <;> cases c.getLsbD i <;> rfl
  rw [e, BitVec.or_eq_zero_iff]
theorem c0a : ∀ a ∈ claimsBV, ∀ c ∈ claimsBV, ((~~~43690#16 &&& a) &&& ~~~c = 0#16 ↔ a &&& ~~~c = 0#16) ∧ ((43690#16 &&& a) &&& ~~~c = 0#16 ↔ a &&& ~~~c = 0#16) := all2 (by decide +kernel)
theorem c3a : ∀ a ∈ claimsBV, ∀ c ∈ claimsBV, ((~~~65280#16 &&& a) &&& ~~~c = 0#16 ↔ a &&& ~~~c = 0#16) ∧ ((65280#16 &&& a) &&& ~~~c = 0#16 ↔ a &&& ~~~c = 0#16) := all2 (by decide +kernel)
theorem c03 : ∀ a ∈ claimsBV, ∀ c ∈ claimsBV, ((~~~43690#16 &&& (~~~65280#16 &&& a)) &&& ~~~c = 0#16 → a &&& ~~~c = 0#16) ∧ ((43690#16 &&& (~~~65280#16 &&& a)) &&& ~~~c = 0#16 → a &&& ~~~c = 0#16) ∧ ((~~~43690#16 &&& (65280#16 &&& a)) &&& ~~~c = 0#16 → a &&& ~~~c = 0#16) ∧ ((43690#16 &&& (65280#16 &&& a)) &&& ~~~c = 0#16 → a &&& ~~~c = 0#16) := all2 (by decide +kernel)
theorem or_sub {a b c : BitVec 16} : (a ||| b) &&& ~~~c = 0#16 ↔ a &&& ~~~c = 0#16 ∧ b &&& ~~~c = 0#16 := by
  have e : (a ||| b) &&& ~~~c = (a &&& ~~~c) ||| (b &&& ~~~c) := by
    apply BitVec.eq_of_getLsbD_eq
    intro i hi
    simp only [BitVec.getLsbD_and, BitVec.getLsbD_or, BitVec.getLsbD_not, hi, decide_true, Bool.true_and]
    cases a.getLsbD i <;> cases b.getLsbD i <;> cases c.getLsbD i <;> rfl
  rw [e, BitVec.or_eq_zero_iff]
theorem sub_and {a b c : BitVec 16} : c &&& ~~~(a &&& b) = 0#16 ↔ c &&& ~~~a = 0#16 ∧ c &&& ~~~b = 0#16 := by
  have e : c &&& ~~~(a &&& b) = (c &&& ~~~a) ||| (c &&& ~~~b) := by
    apply BitVec.eq_of_getLsbD_eq
    intro i hi
    simp only [BitVec.getLsbD_and, BitVec.getLsbD_or, BitVec.getLsbD_not, hi, decide_true, Bool.true_and]
    cases a.getLsbD i <;> cases b.getLsbD i <;> cases c.getLsbD i <;> rfl
  rw [e, BitVec.or_eq_zero_iff]
theorem bits_of_sub {a c : BitVec 16} : a &&& ~~~c = 0#16 ↔ ∀ i, a.getLsbD i = true → c.getLsbD i = true := by
  constructor
  · intro h i hi
    have e := congrArg (fun x : BitVec 16 => x.getLsbD i) h
    have hl : i < 16 := BitVec.lt_of_getLsbD hi
    simp only [BitVec.getLsbD_and, BitVec.getLsbD_not, hl, hi, decide_true, Bool.true_and, BitVec.getLsbD_zero] at e
    cases hc : c.getLsbD i
    · rw [hc] at e; cases e
    · rfl
  · intro h
    apply BitVec.eq_of_getLsbD_eq
    intro i hi
    simp only [BitVec.getLsbD_and, BitVec.getLsbD_not, hi, decide_true, Bool.true_and, BitVec.getLsbD_zero]
    cases ha : a.getLsbD i
    · rfl
    · rw [h i ha]; rfl
theorem sub_or_eq {a c : BitVec 16} : a &&& ~~~c = 0#16 ↔ a ||| c = c := by
  rw [bits_of_sub]
  constructor
  · intro h
    apply BitVec.eq_of_getLsbD_eq
    intro i hi
    rw [BitVec.getLsbD_or]
    cases ha : a.getLsbD i
    · rfl
    · rw [h i ha]; rfl
  · intro h i ha
    rw [← h, BitVec.getLsbD_or, ha]; rfl
theorem sub_trans {a b c : BitVec 16} (h : a &&& ~~~b = 0#16) (h' : b &&& ~~~c = 0#16) : a &&& ~~~c = 0#16 :=
  bits_of_sub.mpr fun i hi => bits_of_sub.mp h' i (bits_of_sub.mp h i hi)
/-! Boole: with never and with always -/
noncomputable def cvA (x : BitVec 16) (i : Nat) : BitVec 16 := if i = 0 then x else leafCol i
noncomputable def cvB (x : BitVec 16) (i : Nat) : BitVec 16 := if i = 3 then x else leafCol i
noncomputable def leastBV (f : Fm) : BitVec 16 := f.ev (cvA 0#16) ||| f.ev (cvA 65535#16)
noncomputable def mostBV (g : Fm) : BitVec 16 := g.ev (cvB 0#16) &&& g.ev (cvB 65535#16)
noncomputable abbrev NA (i : Nat) : Prop := i = 0 ∨ i = 1 ∨ i = 2
noncomputable abbrev NB (i : Nat) : Prop := i = 3 ∨ i = 1 ∨ i = 2
theorem clA {f : Fm} (hn : f.names NA) {x : BitVec 16} (hx : x ∈ claimsBV) : f.ev (cvA x) ∈ claimsBV :=
  ev_claim (fun i hi => by
    rcases hi with rfl | rfl | rfl
    · exact hx
    · show leafCol 1 ∈ claimsBV; decide +kernel
    · show leafCol 2 ∈ claimsBV; decide +kernel) f hn
theorem clB {f : Fm} (hn : f.names NB) {x : BitVec 16} (hx : x ∈ claimsBV) : f.ev (cvB x) ∈ claimsBV :=
  ev_claim (fun i hi => by
    rcases hi with rfl | rfl | rfl
    · exact hx
    · show leafCol 1 ∈ claimsBV; decide +kernel
    · show leafCol 2 ∈ claimsBV; decide +kernel) f hn
theorem cl0 : 0#16 ∈ claimsBV := by decide +kernel
theorem cl1 : 65535#16 ∈ claimsBV := by decide +kernel
theorem mixA {f : Fm} (hn : f.names NA) : f.bits = mix 43690#16 (f.ev (cvA 0#16)) (f.ev (cvA 65535#16)) := by
  rw [← ev_bits]
  refine ev_mix (fun i hi => ?_) f hn
  rcases hi with rfl | rfl | rfl <;> decide +kernel
theorem mixB {f : Fm} (hn : f.names NB) : f.bits = mix 65280#16 (f.ev (cvB 0#16)) (f.ev (cvB 65535#16)) := by
  rw [← ev_bits]
  refine ev_mix (fun i hi => ?_) f hn
  rcases hi with rfl | rfl | rfl <;> decide +kernel
theorem least_claim {f : Fm} (hn : f.names NA) : leastBV f ∈ claimsBV := cl_or _ (clA hn cl0) _ (clA hn cl1)
theorem most_claim {g : Fm} (hn : g.names NB) : mostBV g ∈ claimsBV := cl_and _ (clB hn cl0) _ (clB hn cl1)
theorem least_iff {f : Fm} (hn : f.names NA) {c : BitVec 16} (hc : c ∈ claimsBV) : f.bits &&& ~~~c = 0#16 ↔ leastBV f &&& ~~~c = 0#16 := by
  rw [mixA hn, sub_mix_l, (c0a _ (clA hn cl0) c hc).1, (c0a _ (clA hn cl1) c hc).2]
  exact or_sub.symm
theorem most_iff {g : Fm} (hn : g.names NB) {c : BitVec 16} (hc : c ∈ claimsBV) : c &&& ~~~g.bits = 0#16 ↔ c &&& ~~~mostBV g = 0#16 := by
  rw [mixB hn, sub_mix_r, (c3a c hc _ (clB hn cl0)).1, (c3a c hc _ (clB hn cl1)).2]
  exact sub_and.symm
theorem craig {f g : Fm} (hf : f.names NA) (hg : g.names NB) : f.bits &&& ~~~g.bits = 0#16 ↔ leastBV f &&& ~~~mostBV g = 0#16 := by
  constructor
  · intro h
    rw [← least_iff hf (most_claim hg)]
    unfold mostBV
    rw [sub_and]
    rw [mixB hg, sub_mix_r, mixA hf] at h
    have a0 := clA hf cl0
    have a1 := clA hf cl1
    have b0 := clB hg cl0
    have b1 := clB hg cl1
    obtain ⟨h1, h2⟩ := h
    have dist : ∀ k k' a b : BitVec 16, k' &&& mix k a b = mix k (k' &&& a) (k' &&& b) := by
      intro k k' a b
      apply BitVec.eq_of_getLsbD_eq
      intro i hi
      unfold mix
      simp only [BitVec.getLsbD_and, BitVec.getLsbD_or, BitVec.getLsbD_not, hi, decide_true, Bool.true_and]
      cases k.getLsbD i <;> cases k'.getLsbD i <;> cases a.getLsbD i <;> cases b.getLsbD i <;> rfl
    rw [dist, sub_mix_l] at h1 h2
    have q00 := (c03 _ a0 _ b0).1 h1.1
    have q10 := (c03 _ a1 _ b0).2.1 h1.2
    have q01 := (c03 _ a0 _ b1).2.2.1 h2.1
    have q11 := (c03 _ a1 _ b1).2.2.2 h2.2
    refine ⟨?_, ?_⟩
    · rw [mixA hf, sub_mix_l, (c0a _ a0 _ b0).1, (c0a _ a1 _ b0).2]; exact ⟨q00, q10⟩
    · rw [mixA hf, sub_mix_l, (c0a _ a0 _ b1).1, (c0a _ a1 _ b1).2]; exact ⟨q01, q11⟩
  · intro h
    exact sub_trans ((least_iff hf (least_claim hf)).mpr (by simp)) ((most_iff hg (least_claim hf)).mpr h)
/-! Lyndon: what is kept -/
/-- kept where the name comes to hold (bit b of the case) -/
noncomputable def UpC (b : Nat) (x : BitVec 16) : Prop := ∀ i, i < 16 → i.testBit b = false → x.getLsbD i = true → x.getLsbD (i + 2 ^ b) = true
noncomputable def DnC (b : Nat) (x : BitVec 16) : Prop := ∀ i, i < 16 → i.testBit b = false → x.getLsbD (i + 2 ^ b) = true → x.getLsbD i = true
noncomputable def colOf (b : Nat) : BitVec 16 := if b = 1 then 52428#16 else 61680#16
noncomputable def lossUp (b : Nat) (x : BitVec 16) : BitVec 16 := ((x &&& ~~~colOf b) <<< (2 ^ b)) &&& ~~~x
noncomputable def lossDn (b : Nat) (x : BitVec 16) : BitVec 16 := ((x &&& colOf b) >>> (2 ^ b)) &&& ~~~x
theorem UpC.not {b : Nat} {x : BitVec 16} (hb : b = 1 ∨ b = 2) (h : UpC b x) : DnC b (~~~x) := fun i hi ht hx => by
  have hl : i + 2 ^ b < 16 := BitVec.lt_of_getLsbD hx
  rw [BitVec.getLsbD_not, decide_eq_true hl, Bool.true_and] at hx
  rw [BitVec.getLsbD_not, decide_eq_true hi, Bool.true_and]
  cases hx' : x.getLsbD i
  · rfl
  · rw [h i hi ht hx'] at hx; cases hx
theorem add_lt16 : ∀ b, b = 1 ∨ b = 2 → ∀ i, i < 16 → i.testBit b = false → i + 2 ^ b < 16 := by
  rintro b (rfl | rfl) <;> decide
theorem DnC.not {b : Nat} {x : BitVec 16} (hb : b = 1 ∨ b = 2) (h : DnC b x) : UpC b (~~~x) := fun i hi ht hx => by
  have hl : i + 2 ^ b < 16 := add_lt16 b hb i hi ht
  rw [BitVec.getLsbD_not, decide_eq_true hi, Bool.true_and] at hx
  rw [BitVec.getLsbD_not, decide_eq_true hl, Bool.true_and]
  cases hx' : x.getLsbD (i + 2 ^ b)
  · rfl
  · rw [h i hi ht hx'] at hx; cases hx
theorem UpC.and {b : Nat} {x y : BitVec 16} (h : UpC b x) (k : UpC b y) : UpC b (x &&& y) := fun i hi ht hx => by
  rw [BitVec.getLsbD_and, Bool.and_eq_true] at hx ⊢
  exact ⟨h i hi ht hx.1, k i hi ht hx.2⟩
theorem UpC.or {b : Nat} {x y : BitVec 16} (h : UpC b x) (k : UpC b y) : UpC b (x ||| y) := fun i hi ht hx => by
  rw [BitVec.getLsbD_or, Bool.or_eq_true] at hx ⊢
  exact hx.imp (h i hi ht) (k i hi ht)
theorem DnC.and {b : Nat} {x y : BitVec 16} (h : DnC b x) (k : DnC b y) : DnC b (x &&& y) := fun i hi ht hx => by
  rw [BitVec.getLsbD_and, Bool.and_eq_true] at hx ⊢
  exact ⟨h i hi ht hx.1, k i hi ht hx.2⟩
theorem DnC.or {b : Nat} {x y : BitVec 16} (h : DnC b x) (k : DnC b y) : DnC b (x ||| y) := fun i hi ht hx => by
  rw [BitVec.getLsbD_or, Bool.or_eq_true] at hx ⊢
  exact hx.imp (h i hi ht) (k i hi ht)
theorem both_eq {b : Nat} {x : BitVec 16} (h : UpC b x) (k : DnC b x) {i : Nat} (hi : i < 16) (ht : i.testBit b = false) : x.getLsbD (i + 2 ^ b) = x.getLsbD i := by
  cases e : x.getLsbD i
  · cases e' : x.getLsbD (i + 2 ^ b)
    · rfl
    · rw [k i hi ht e'] at e; cases e
  · exact h i hi ht e
theorem xor_c {b : Nat} {x y : BitVec 16} (h : UpC b x) (k : DnC b x) (h' : UpC b y) (k' : DnC b y) : UpC b (x ^^^ y) ∧ DnC b (x ^^^ y) := by
  constructor
  · intro i hi ht hx
    rw [BitVec.getLsbD_xor] at hx ⊢
    rw [both_eq h k hi ht, both_eq h' k' hi ht]; exact hx
  · intro i hi ht hx
    rw [BitVec.getLsbD_xor] at hx ⊢
    rw [both_eq h k hi ht, both_eq h' k' hi ht] at hx; exact hx
theorem or4 {x y : BitVec 4} {b : Nat} (h : (x ||| y).getLsbD b = false) : x.getLsbD b = false ∧ y.getLsbD b = false := by
  rw [BitVec.getLsbD_or, Bool.or_eq_false_iff] at h; exact h
theorem pol_c {b : Nat} (hb : b = 1 ∨ b = 2) {cv : Nat → BitVec 16} {P : Nat → Prop} (hU : ∀ i, P i → UpC b (cv i)) (hD : ∀ i, P i → i ≠ b → DnC b (cv i)) : ∀ f : Fm, f.names P → (f.pol.2.getLsbD b = false → UpC b (f.ev cv)) ∧ (f.pol.1.getLsbD b = false → DnC b (f.ev cv))
  | .lf nm neg, hn => by
    have h1 : (1#4 <<< nm).getLsbD b = false → nm ≠ b := by
      rintro h rfl
      rcases hb with rfl | rfl <;> exact absurd h (by decide)
    cases neg with
    | false => exact ⟨fun _ => hU nm hn, fun h => hD nm hn (h1 h)⟩
    | true => exact ⟨fun h => (hD nm hn (h1 h)).not hb, fun _ => (hU nm hn).not hb⟩
  | .bn op l r, hn => by
    obtain ⟨lu, ld⟩ := pol_c hb hU hD l hn.1
    obtain ⟨ru, rd⟩ := pol_c hb hU hD r hn.2
    unfold Fm.pol Fm.ev
    cases op <;> unfold Op.pol Op.bv <;> dsimp only
    · exact ⟨fun h => (lu (or4 h).1).and (ru (or4 h).2), fun h => (ld (or4 h).1).and (rd (or4 h).2)⟩
    · exact ⟨fun h => (lu (or4 h).1).or (ru (or4 h).2), fun h => (ld (or4 h).1).or (rd (or4 h).2)⟩
    · have q : ∀ {b}, _ := @or4 (l.pol.1 ||| r.pol.1) (l.pol.2 ||| r.pol.2)
      have k : ∀ h, UpC b (l.ev cv ^^^ r.ev cv) ∧ DnC b (l.ev cv ^^^ r.ev cv) := fun h => xor_c (lu (or4 (q h).2).1) (ld (or4 (q h).1).1) (ru (or4 (q h).2).2) (rd (or4 (q h).1).2)
      exact ⟨fun h => (k h).1, fun h => (k h).2⟩
    · have q : ∀ {b}, _ := @or4 (l.pol.1 ||| r.pol.1) (l.pol.2 ||| r.pol.2)
      have k : ∀ h, UpC b (l.ev cv ^^^ r.ev cv) ∧ DnC b (l.ev cv ^^^ r.ev cv) := fun h => xor_c (lu (or4 (q h).2).1) (ld (or4 (q h).1).1) (ru (or4 (q h).2).2) (rd (or4 (q h).1).2)
      exact ⟨fun h => (k h).2.not hb, fun h => (k h).1.not hb⟩
    · exact ⟨fun h => (ru (or4 h).2).and ((ld (or4 h).1).not hb), fun h => (rd (or4 h).2).and ((lu (or4 h).1).not hb)⟩
    · exact ⟨fun h => (lu (or4 h).1).and ((rd (or4 h).2).not hb), fun h => (ld (or4 h).1).and ((ru (or4 h).2).not hb)⟩
    · exact ⟨fun h => ((ld (or4 h).1).not hb).or (ru (or4 h).2), fun h => ((lu (or4 h).1).not hb).or (rd (or4 h).2)⟩
    · exact ⟨fun h => ((rd (or4 h).2).not hb).or (lu (or4 h).1), fun h => ((ru (or4 h).2).not hb).or (ld (or4 h).1)⟩
theorem cv_up {b : Nat} (hb : b = 1 ∨ b = 2) : ∀ i, i < 4 → UpC b (leafCol i) ∧ (i ≠ b → DnC b (leafCol i)) := by
  unfold UpC DnC
  rcases hb with rfl | rfl <;> decide +kernel
theorem cst_c {b : Nat} (hb : b = 1 ∨ b = 2) : (UpC b 0#16 ∧ DnC b 0#16) ∧ (UpC b 65535#16 ∧ DnC b 65535#16) := by
  unfold UpC DnC
  rcases hb with rfl | rfl <;> decide +kernel
theorem polA {b : Nat} (hb : b = 1 ∨ b = 2) {f : Fm} (hn : f.names NA) {x : BitVec 16} (hx : UpC b x ∧ DnC b x) : (f.pol.2.getLsbD b = false → UpC b (f.ev (cvA x))) ∧ (f.pol.1.getLsbD b = false → DnC b (f.ev (cvA x))) := by
  refine pol_c hb (fun i hi => ?_) (fun i hi hne => ?_) f hn
  · unfold cvA; split
    · exact hx.1
    · exact (cv_up hb i (by unfold NA at hi; omega)).1
  · unfold cvA; split
    · exact hx.2
    · exact (cv_up hb i (by unfold NA at hi; omega)).2 hne
theorem polB {b : Nat} (hb : b = 1 ∨ b = 2) {f : Fm} (hn : f.names NB) {x : BitVec 16} (hx : UpC b x ∧ DnC b x) : (f.pol.2.getLsbD b = false → UpC b (f.ev (cvB x))) ∧ (f.pol.1.getLsbD b = false → DnC b (f.ev (cvB x))) := by
  refine pol_c hb (fun i hi => ?_) (fun i hi hne => ?_) f hn
  · unfold cvB; split
    · exact hx.1
    · exact (cv_up hb i (by unfold NB at hi; omega)).1
  · unfold cvB; split
    · exact hx.2
    · exact (cv_up hb i (by unfold NB at hi; omega)).2 hne
theorem least_pol {b : Nat} (hb : b = 1 ∨ b = 2) {f : Fm} (hn : f.names NA) : (f.pol.2.getLsbD b = false → UpC b (leastBV f)) ∧ (f.pol.1.getLsbD b = false → DnC b (leastBV f)) :=
  ⟨fun h => ((polA hb hn (cst_c hb).1).1 h).or ((polA hb hn (cst_c hb).2).1 h), fun h => ((polA hb hn (cst_c hb).1).2 h).or ((polA hb hn (cst_c hb).2).2 h)⟩
theorem most_pol {b : Nat} (hb : b = 1 ∨ b = 2) {f : Fm} (hn : f.names NB) : (f.pol.2.getLsbD b = false → UpC b (mostBV f)) ∧ (f.pol.1.getLsbD b = false → DnC b (mostBV f)) :=
  ⟨fun h => ((polB hb hn (cst_c hb).1).1 h).and ((polB hb hn (cst_c hb).2).1 h), fun h => ((polB hb hn (cst_c hb).1).2 h).and ((polB hb hn (cst_c hb).2).2 h)⟩
theorem up_loss {b : Nat} (hb : b = 1 ∨ b = 2) : ∀ x ∈ claimsBV, (UpC b x → lossUp b x = 0#16) ∧ (DnC b x → lossDn b x = 0#16) := by
  unfold UpC DnC
  rcases hb with rfl | rfl <;> exact all1 (by decide +kernel)
noncomputable def lynOk (l m c : BitVec 16) : Bool := l &&& ~~~c == 0#16 && c &&& ~~~m == 0#16 && (!(lossUp 1 l == 0#16 || lossUp 1 m == 0#16) || lossUp 1 c == 0#16) && (!(lossDn 1 l == 0#16 || lossDn 1 m == 0#16) || lossDn 1 c == 0#16) && (!(lossUp 2 l == 0#16 || lossUp 2 m == 0#16) || lossUp 2 c == 0#16) && (!(lossDn 2 l == 0#16 || lossDn 2 m == 0#16) || lossDn 2 c == 0#16)
theorem lyn_ok : ∀ l ∈ claimsBV, ∀ m ∈ claimsBV, l &&& ~~~m = 0#16 → claimsBV.any (lynOk l m) = true := all2 (by decide +kernel)
theorem lyn_step (l : BitVec 16) (hl : l ∈ claimsBV) (m : BitVec 16) (hm : m ∈ claimsBV) (h : l &&& ~~~m = 0#16) : ∃ c ∈ claimsBV, l &&& ~~~c = 0#16 ∧ c &&& ~~~m = 0#16 ∧ (lossUp 1 l = 0#16 ∨ lossUp 1 m = 0#16 → lossUp 1 c = 0#16) ∧ (lossDn 1 l = 0#16 ∨ lossDn 1 m = 0#16 → lossDn 1 c = 0#16) ∧ (lossUp 2 l = 0#16 ∨ lossUp 2 m = 0#16 → lossUp 2 c = 0#16) ∧ (lossDn 2 l = 0#16 ∨ lossDn 2 m = 0#16 → lossDn 2 c = 0#16) := by
  obtain ⟨c, hc, ok⟩ := List.any_eq_true.mp (lyn_ok l hl m hm h)
  unfold lynOk at ok
  simp only [Bool.and_eq_true, Bool.or_eq_true, Bool.not_eq_true', beq_iff_eq] at ok
  obtain ⟨⟨⟨⟨⟨h1, h2⟩, u1⟩, d1⟩, u2⟩, d2⟩ := ok
  have imp : ∀ {x y z : BitVec 16}, (x == 0#16 || y == 0#16) = false ∨ z = 0#16 → (x = 0#16 ∨ y = 0#16 → z = 0#16) := by
    intro x y z h k
    rcases h with h | h
    · rw [Bool.or_eq_false_iff, beq_eq_false_iff_ne, beq_eq_false_iff_ne] at h
      rcases k with k | k
      · exact absurd k h.1
      · exact absurd k h.2
    · exact h
  exact ⟨c, hc, h1, h2, imp u1, imp d1, imp u2, imp d2⟩
theorem no_both {x y : BitVec 4} {b : Nat} (hb : b = 1 ∨ b = 2) (h : x &&& y &&& BitVec.ofNat 4 (2 ^ b) = 0#4) : x.getLsbD b = false ∨ y.getLsbD b = false := by
  have e := congrArg (fun z : BitVec 4 => z.getLsbD b) h
  rcases hb with rfl | rfl <;> simp [BitVec.getLsbD_and] at e <;> cases hx : x.getLsbD _ <;> simp_all
theorem lost_zero {b : Nat} (hb : b = 1 ∨ b = 2) {c : BitVec 16} {fa fd sa sd : BitVec 4} (hu : fd.getLsbD b = false ∨ sd.getLsbD b = false → lossUp b c = 0#16) (hd : fa.getLsbD b = false ∨ sa.getLsbD b = false → lossDn b c = 0#16) : lostBV c (colOf b) (2 ^ b) fa fd sa sd = 0#16 := by
  unfold lostBV
  dsimp only
  have h1 : (if fd &&& sd &&& BitVec.ofNat 4 (2 ^ b) = 0#4 then ((c &&& ~~~colOf b) <<< (2 ^ b)) &&& ~~~c else 0#16) = 0#16 := by
    split
    · rename_i h; exact hu (no_both hb h)
    · rfl
  rw [h1]
  split
  · rename_i h
    have e : ((c &&& colOf b) >>> (2 ^ b)) &&& ~~~c = 0#16 := hd (no_both hb h)
    rw [e]; rfl
  · rfl
noncomputable def lostOf (f g : Fm) (b : Nat) (c : BitVec 16) : BitVec 16 := lostBV c (colOf b) (2 ^ b) f.pol.1 f.pol.2 g.pol.1 g.pol.2
noncomputable def betw (f g : Fm) : List (BitVec 16) := claimsBV.filter fun c => decide (f.bits &&& ~~~c = 0#16) && decide (c &&& ~~~g.bits = 0#16)
theorem betw_eq {f g : Fm} (hf : f.names NA) (hg : g.names NB) : betw f g = claimsBV.filter fun c => decide (leastBV f ||| c = c) && decide (c ||| mostBV g = mostBV g) := by
  refine List.filter_congr fun c hc => ?_
  rw [decide_eq_decide.mpr ((least_iff hf hc).trans sub_or_eq), decide_eq_decide.mpr ((most_iff hg hc).trans sub_or_eq)]
theorem mem_betw {f g : Fm} {c : BitVec 16} : c ∈ betw f g ↔ c ∈ claimsBV ∧ f.bits &&& ~~~c = 0#16 ∧ c &&& ~~~g.bits = 0#16 := by
  unfold betw
  rw [List.mem_filter, Bool.and_eq_true, decide_eq_true_iff, decide_eq_true_iff]
noncomputable def follows (f g : Fm) : Bool := decide (f.bits &&& ~~~g.bits = 0#16)
theorem lyndon {f g : Fm} (hf : f.names NA) (hg : g.names NB) (h : f.bits &&& ~~~g.bits = 0#16) : ∃ c ∈ betw f g, lostOf f g 1 c = 0#16 ∧ lostOf f g 2 c = 0#16 := by
  have hl := least_claim hf
  have hm := most_claim hg
  obtain ⟨c, hc, h1, h2, u1, d1, u2, d2⟩ := lyn_step _ hl _ hm ((craig hf hg).mp h)
  have one : (1 : Nat) = 1 ∨ (1 : Nat) = 2 := .inl rfl
  have two : (2 : Nat) = 1 ∨ (2 : Nat) = 2 := .inr rfl
  refine ⟨c, mem_betw.mpr ⟨hc, (least_iff hf hc).mpr h1, (most_iff hg hc).mpr h2⟩, lost_zero one (fun q => u1 ?_) (fun q => d1 ?_), lost_zero two (fun q => u2 ?_) (fun q => d2 ?_)⟩
  · exact q.imp (fun q => (up_loss one _ hl).1 ((least_pol one hf).1 q)) (fun q => (up_loss one _ hm).1 ((most_pol one hg).1 q))
  · exact q.imp (fun q => (up_loss one _ hl).2 ((least_pol one hf).2 q)) (fun q => (up_loss one _ hm).2 ((most_pol one hg).2 q))
  · exact q.imp (fun q => (up_loss two _ hl).1 ((least_pol two hf).1 q)) (fun q => (up_loss two _ hm).1 ((most_pol two hg).1 q))
  · exact q.imp (fun q => (up_loss two _ hl).2 ((least_pol two hf).2 q)) (fun q => (up_loss two _ hm).2 ((most_pol two hg).2 q))
theorem follows_of {f g : Fm} {c : BitVec 16} (h : c ∈ betw f g) : follows f g = true := by
  obtain ⟨_, h1, h2⟩ := mem_betw.mp h
  exact decide_eq_true (sub_trans h1 h2)
theorem follows_betw {f g : Fm} (hf : f.names NA) (hg : g.names NB) : follows f g = decide (betw f g ≠ []) := by
  cases hb : betw f g with
  | nil =>
    cases hq : follows f g
    · rfl
    · obtain ⟨c, hc, -⟩ := lyndon hf hg (of_decide_eq_true hq)
      rw [hb] at hc; cases hc
  | cons c r => rw [follows_of (c := c) (by rw [hb]; exact .head _)]; rfl
theorem follows_lost {f g : Fm} (hf : f.names NA) (hg : g.names NB) : follows f g = true ↔ ∃ c ∈ betw f g, lostOf f g 1 c = 0#16 ∧ lostOf f g 2 c = 0#16 :=
  ⟨fun h => lyndon hf hg (of_decide_eq_true h), fun ⟨_, hc, _⟩ => follows_of hc⟩
/-! the loss told case by case -/
noncomputable def missG (pa pd : Bool) (c z : Int) : Nat → Int
  | 0 => 0
  | j + 1 => missG pa pd c z j + if Builtin.bitAnd (c.fdiv ((2 : Int) ^ (j : Int).toNat)) 1 ≠ 0 ∧ Builtin.bitAnd (c.fdiv ((2 : Int) ^ (Builtin.bitXor (j : Int) z).toNat)) 1 = 0 ∧ (if Builtin.bitAnd (j : Int) z ≠ 0 then pa else pd) = true then 1 * (2 : Int) ^ (Builtin.bitXor (j : Int) z).toNat else 0
theorem missTo_G {c z : Int} {fa fd sa sd : Int} {pa pd : Bool} (ha : Builtin.bitAnd (Builtin.bitAnd fa sa) z = 0 ↔ pa = true) (hd : Builtin.bitAnd (Builtin.bitAnd fd sd) z = 0 ↔ pd = true) : ∀ n, missTo c z fa fd sa sd n = missG pa pd c z n
  | 0 => rfl
  | n + 1 => by
    unfold missTo missG
    rw [missTo_G ha hd n]
    unfold missStep
    congr 1
    by_cases q : Builtin.bitAnd (n : Int) z ≠ 0
    · simp only [if_pos q, ha]
    · simp only [if_neg q, hd]
noncomputable def lostG (pa pd : Bool) (b : Nat) (c : BitVec 16) : BitVec 16 :=
  if pa = true then (if pd = true then lossUp b c else 0#16) ||| lossDn b c else if pd = true then lossUp b c else 0#16
theorem lost_G {b : Nat} {c : BitVec 16} {fa fd sa sd : BitVec 4} : lostBV c (colOf b) (2 ^ b) fa fd sa sd = lostG (decide (fa &&& sa &&& BitVec.ofNat 4 (2 ^ b) = 0#4)) (decide (fd &&& sd &&& BitVec.ofNat 4 (2 ^ b) = 0#4)) b c := by
  unfold lostBV lostG lossUp lossDn
  simp only [decide_eq_true_iff]
theorem miss_all : ∀ b, b = 1 ∨ b = 2 → ∀ pa pd : Bool, ∀ c ∈ claimsBV, missG pa pd (iv c) (2 ^ b) 16 = iv (lostG pa pd b c) := by
  rintro b (rfl | rfl) (_ | _) (_ | _) <;> exact all1 (by decide +kernel)
theorem miss_lost {b : Nat} (hb : b = 1 ∨ b = 2) {c : BitVec 16} (hc : c ∈ claimsBV) (f g : Fm) : missTo (iv c) (2 ^ b) (iv f.pol.1) (iv f.pol.2) (iv g.pol.1) (iv g.pol.2) 16 = iv (lostOf f g b c) := by
  have hk : (2 : Int) ^ b = iv (BitVec.ofNat 4 (2 ^ b)) := by rcases hb with rfl | rfl <;> rfl
  unfold lostOf
  rw [lost_G, ← miss_all b hb _ _ c hc]
  refine missTo_G ?_ ?_ 16
  · rw [m4 _ _ _ _ hk, iv_zero, decide_eq_true_iff]
  · rw [m4 _ _ _ _ hk, iv_zero, decide_eq_true_iff]
noncomputable abbrev lawA (dp un : Nat) (gd : Option (List Code)) (cn : Str) (sc : Scope) (L a : Addr) (ccd : Value) (outer : List Env) : Around := { handled := none, depth := dp, frames := some (envOfC cn sc L a ccd :: outer), guards := gd, units := un }
/-- what stands between two statements of the law: base heap, frame, heap, names -/
noncomputable abbrev At := Heap → Addr → Heap → (Str → Option Value) → Prop
noncomputable def Piece (w : World) (sc : Scope) (xs : List Stmt) (P P' : At) : Prop :=
  ∀ (rest : List Stmt) (mean : ExcName → Option Value) (mg mb : Str → Option Value) (dp un : Nat) (gd : Option (List Code)) (cn : Str) (L a : Addr) (ccd : Value) (outer : List Env) (A₀ : Around) (base h₀ : Heap) (m : Str → Option Value) (s : Shared) (Q : Flow → Shared → Prop) (E : Value → Shared → Prop),
    Below A₀ base outer h₀ → Fr h₀ L s.heap m → (Mine.hd.heap_1_39 w.params).In h₀ → Top Mine.hd.view_1_40 (looseW Mine.hd.view_1_40 [Str.ofString "EXACT_TOKEN_TYPES"]) mean mg mb h₀ → dp + 40 < recursionLimit → un + 600 < cLine → 1 ≤ s.toks →
    PassesOwn (model PySem.Challenge.rw_xn0025_01.row.prog w) (lawA dp un gd cn sc L a ccd outer) (envOfC cn sc L a ccd) E → P h₀ L s.heap m →
    (∀ h' tk' m', Fr h₀ L h' m' → 1 ≤ tk' → P' h₀ L h' m' → wpAny (model PySem.Challenge.rw_xn0025_01.row.prog w) (lawA dp un gd cn sc L a ccd outer) (execs rest (envOfC cn sc L a ccd)) Q E { s with heap := h', toks := tk' }) →
    wpAny (model PySem.Challenge.rw_xn0025_01.row.prog w) (lawA dp un gd cn sc L a ccd outer) (execs (xs ++ rest) (envOfC cn sc L a ccd)) Q E s
/-- the last statement: it hands back True -/
noncomputable def Last (w : World) (sc : Scope) (xs : List Stmt) (P : At) : Prop :=
  ∀ (mean : ExcName → Option Value) (mg mb : Str → Option Value) (dp un : Nat) (gd : Option (List Code)) (cn : Str) (L a : Addr) (ccd : Value) (outer : List Env) (A₀ : Around) (base h₀ : Heap) (m : Str → Option Value) (s : Shared) (Q : Flow → Shared → Prop) (E : Value → Shared → Prop),
    Below A₀ base outer h₀ → Fr h₀ L s.heap m → (Mine.hd.heap_1_39 w.params).In h₀ → Top Mine.hd.view_1_40 (looseW Mine.hd.view_1_40 [Str.ofString "EXACT_TOKEN_TYPES"]) mean mg mb h₀ → dp + 40 < recursionLimit → un + 600 < cLine → 1 ≤ s.toks →
    PassesOwn (model PySem.Challenge.rw_xn0025_01.row.prog w) (lawA dp un gd cn sc L a ccd outer) (envOfC cn sc L a ccd) E → P h₀ L s.heap m →
    (∀ h' tk' m', Fr h₀ L h' m' → Q (.ret (.bool true)) { s with heap := h', toks := tk' }) →
    wpAny (model PySem.Challenge.rw_xn0025_01.row.prog w) (lawA dp un gd cn sc L a ccd outer) (execs xs (envOfC cn sc L a ccd)) Q E s
theorem Piece.seq {w : World} {sc : Scope} {xs ys : List Stmt} {P P' P'' : At} (h : Piece w sc xs P P') (k : Piece w sc ys P' P'') : Piece w sc (xs ++ ys) P P'' := by
  intro rest mean mg mb dp un gd cn L a ccd outer A₀ base h₀ m s Q E B F X T hd hu ht hE hP hk
  rw [List.append_assoc]
  refine h (ys ++ rest) mean mg mb dp un gd cn L a ccd outer A₀ base h₀ m s Q E B F X T hd hu ht hE hP fun h' tk' m' F' ht' hP' => ?_
  exact k rest mean mg mb dp un gd cn L a ccd outer A₀ base h₀ m' _ Q E B F' X T hd hu ht' hE hP' fun h'' tk'' m'' F'' ht'' hP'' => hk h'' tk'' m'' F'' ht'' hP''
theorem Piece.last {w : World} {sc : Scope} {xs ys : List Stmt} {P P' : At} (h : Piece w sc xs P P') (k : Last w sc ys P') : Last w sc (xs ++ ys) P := by
  intro mean mg mb dp un gd cn L a ccd outer A₀ base h₀ m s Q E B F X T hd hu ht hE hP hk
  refine h ys mean mg mb dp un gd cn L a ccd outer A₀ base h₀ m s Q E B F X T hd hu ht hE hP fun h' tk' m' F' ht' hP' => ?_
  exact k mean mg mb dp un gd cn L a ccd outer A₀ base h₀ m' _ Q E B F' X T hd hu ht' hE hP' fun h'' tk'' m'' F'' => hk h'' tk'' m'' F''
/-- the names that are asked for, written out -/
noncomputable def put (x : Str) (v : Value) (m : Str → Option Value) : Str → Option Value := fun y => if y = x then some v else m y
theorem put_eq {x : Str} {v : Value} {m : Str → Option Value} (h : m x = some v) : m = fun y => if y = x then some v else m y := by
  funext y
  split
  · rename_i e; rw [e, h]
  · rfl
theorem Fr.named {h₀ h : Heap} {L : Addr} {m : Str → Option Value} {x : Str} {v : Value} (F : Fr h₀ L h m) (e : m x = some v) : Fr h₀ L h (fun y => if y = x then some v else m y) := put_eq e ▸ F
theorem sub_all_nil {nw : List (Addr × Obj)} : ∀ p ∈ ([] : List (Addr × Obj)), p ∈ nw := fun _ h => nomatch h
theorem sub_all_cons {p : Addr × Obj} {r nw : List (Addr × Obj)} (h : List.Mem p nw) (k : ∀ p ∈ r, p ∈ nw) : ∀ q ∈ p :: r, q ∈ nw := fun q hq => by
  rcases List.mem_cons.mp hq with rfl | hq
  · exact h
  · exact k q hq
theorem News.sub {h₀ h : Heap} {L : Addr} {a b : List (Addr × Obj)} (N : News h₀ L h b) (hs : ∀ p ∈ a, p ∈ b) : News h₀ L h a := fun p hp => N p (hs p hp)
/-- the law's own def -/
noncomputable def IsLaw (r : DefRec) : Prop := (recsOf Mine.hd.view_1_40).getLast? = some r
/-! comparisons -/
theorem ints_dat {news : List (Addr × Obj)} : ∀ {vs : List Value} {ns : List Int}, IntsAre vs ns → DatAll news vs (ns.map Dat.int)
  | _, _, .nil => .nil
  | _, _, .cons n t h => .cons (.int n t) (ints_dat h)
theorem ok_ints : ∀ {n : Nat} (ns : List Int), ∀ d ∈ ns.map Dat.int, kqdOk n d = true := by
  intro n ns d hd
  obtain ⟨i, -, rfl⟩ := List.mem_map.mp hd
  cases n <;> rfl
theorem ok_list {n : Nat} (ns : List Int) : kqdOk (n + 1) (.list (ns.map Dat.int)) = true := by
  unfold kqdOk
  exact List.all_eq_true.mpr fun d hd => ok_ints ns d hd
section
variable {prog : Program} {w : World} {A : Around} {E : Value → Shared → Prop} {s : Shared} {h₀ : Heap} {L R S r1 r2 s1 s2 : Addr} {news : List (Addr × Obj)} {v1 v2 u1 u2 : List Value} {a b : List Int} {e e' e1 e2 e3 e4 : Nat} {Q : Value → Shared → Prop}
theorem ne_rows (N : News h₀ L s.heap news) (hR : (R, PySem.W.listOf [Value.ref r1, .ref r2].toArray e) ∈ news) (h1 : (r1, PySem.W.listOf v1.toArray e1) ∈ news) (h2 : (r2, PySem.W.listOf v2.toArray e2) ∈ news)
    (hS : (S, PySem.W.listOf [Value.ref s1, .ref s2].toArray e') ∈ news) (k1 : (s1, PySem.W.listOf u1.toArray e3) ∈ news) (k2 : (s2, PySem.W.listOf u2.toArray e4) ∈ news)
    (i1 : IntsAre v1 a) (i2 : IntsAre v2 b) (j1 : IntsAre u1 a) (j2 : IntsAre u2 b) (hu : A.units + 64 < cLine) (h : Q (.bool false) s) : wpAny (model prog w) A (compareOp .NotEq (.ref R) (.ref S)) Q E s := by
  have D1 : DatAll news [Value.ref r1, .ref r2] [.list (a.map Dat.int), .list (b.map Dat.int)] := .cons (.list h1 (ints_dat i1)) (.cons (.list h2 (ints_dat i2)) .nil)
  have D2 : DatAll news [Value.ref s1, .ref s2] [.list (a.map Dat.int), .list (b.map Dat.int)] := .cons (.list k1 (ints_dat j1)) (.cons (.list k2 (ints_dat j2)) .nil)
  have ok : ∀ d ∈ [Dat.list (a.map Dat.int), .list (b.map Dat.int)], kqdOk 8 d = true := by
    intro d hd
    rcases List.mem_cons.mp hd with rfl | hd
    · exact ok_list _
    · rw [List.mem_singleton.mp hd]; exact ok_list _
  exact kqd_ne N hR rfl rfl D1 (fun _ h => h) hS rfl rfl D2 (fun _ h => h) ok ok hu (by simpa using h)
end
section
variable {prog : Program} {w : World} {A : Around} {E : Value → Shared → Prop} {s : Shared} {h₀ : Heap} {L a b : Addr} {news : List (Addr × Obj)} {Q : Value → Shared → Prop}
theorem ne_tup2 {x y : Int} {t1 t2 u1 u2 : Tok} {n k : Nat} (N : News h₀ L s.heap news) (ha : (a, tup [.int x t1, .int y t2] n) ∈ news) (hb : (b, tup [.int x u1, .int y u2] k) ∈ news) (hu : A.units + 64 < cLine) (h : Q (.bool false) s) :
    wpAny (model prog w) A (compareOp .NotEq (.ref a) (.ref b)) Q E s := by
  have r1 : Reads s.heap (.ref a) (.tuple [.int x, .int y]) _ := reads_tuple_at (N.get ha) rfl rfl (.cons (Reads.int x t1) (.cons (Reads.int y t2) .nil))
  have r2 : Reads s.heap (.ref b) (.tuple [.int x, .int y]) _ := reads_tuple_at (N.get hb) rfl rfl (.cons (Reads.int x u1) (.cons (Reads.int y u2) .nil))
  refine ne_dataH r1 r2 rfl rfl hu ?_
  have e : PyData.eqv (.tuple [.int x, .int y]) (.tuple [.int x, .int y]) = true := by simp [PyData.eqv, PyData.eqvAll]
  rw [e]; exact h
end
noncomputable abbrev cvOf (x0 x1 x2 x3 : BitVec 16) : Nat → BitVec 16 := pick [x0, x1, x2, x3] 0#16
theorem cv_leaf : cvOf 43690#16 52428#16 61680#16 65280#16 = leafCol := rfl
theorem cv_A (x : BitVec 16) : cvOf x 52428#16 61680#16 65280#16 = cvA x := by
  funext i
  match i with
  | 0 => rfl
  | 1 => rfl
  | 2 => rfl
  | 3 => rfl
  | i + 4 => rfl
theorem cv_B (x : BitVec 16) : cvOf 43690#16 52428#16 61680#16 x = cvB x := by
  funext i
  match i with
  | 0 => rfl
  | 1 => rfl
  | 2 => rfl
  | 3 => rfl
  | i + 4 => rfl
theorem row_len5 (f : Fm) (hl : f.leaves = 4) : (f.row ++ [0]).length ≤ 500 := by
  have := row_len4 f hl
  rw [List.length_append, List.length_singleton]; omega
theorem worth_v (w : World) (news : List (Addr × Obj)) (R C : Addr) (vs : List Value) (er ec : Nat) (f : Fm) (cv : Nat → BitVec 16) (a0 a1 a2 a3 : Int) (t0 t1 t2 t3 : Tok) (hl : f.leaves = 4) (hn : f.names (· < 4))
    (h0 : a0 = iv (cv 0)) (h1 : a1 = iv (cv 1)) (h2 : a2 = iv (cv 2)) (h3 : a3 = iv (cv 3)) (hv : IntsAre vs (f.row ++ [0])) (hR : (R, PySem.W.listOf vs.toArray er) ∈ news) (hC : (C, PySem.W.listOf [Value.int a0 t0, .int a1 t1, .int a2 t2, .int a3 t3].toArray ec) ∈ news) :
    Ctr w 303 news [.ref R, .ref C] 4 120 (fun r tl => (∃ t, r = .int (iv (f.ev cv)) t) ∧ tl = []) := by
  subst h0 h1 h2 h3
  exact worth_c w news R C vs _ er ec (f.row ++ [0]) cv (f.ev cv) hR hC hv (row_len5 f hl) rfl (fun i hi => by
    match i, hi with
    | 0, _ => exact ⟨_, rfl⟩
    | 1, _ => exact ⟨_, rfl⟩
    | 2, _ => exact ⟨_, rfl⟩
    | 3, _ => exact ⟨_, rfl⟩) (ev_all cv f hn)
theorem ints_get : ∀ {vs : List Value} {ns : List Int}, IntsAre vs ns → ∀ {i : Nat} {v : Value}, vs[i]? = some v → ∃ n t, ns[i]? = some n ∧ v = .int n t
  | _, _, .nil, i, v, h => by simp at h
  | _, _, .cons n t r, 0, v, h => ⟨n, t, rfl, (Option.some.inj h).symm⟩
  | _, _, .cons n t r, i + 1, v, h => by
    obtain ⟨k, u, a, b⟩ := ints_get r (i := i) (v := v) (by simpa using h)
    exact ⟨k, u, by simpa using a, b⟩
section
variable {prog : Program} {w : World} {A : Around} {E : Value → Shared → Prop} {s : Shared} {h₀ : Heap} {L : Addr} {m : Str → Option Value} {env : Env}
noncomputable def TurnI (h₀ : Heap) (L : Addr) (m : Str → Option Value) (s : Shared) (led : List (Addr × Obj)) (k : Int) (v : Value) (s₂ : Shared) : Prop :=
  ∃ h' tk' u', s₂ = { s with heap := h', toks := tk' } ∧ v = .int k u' ∧ Fr h₀ L h' m ∧ News h₀ L h' led
theorem TurnI.of {led nw : List (Addr × Obj)} {k k' : Int} {u : Tok} {h' : Heap} {tk' : Nat} (F : Fr h₀ L h' m) (N : News h₀ L h' nw) (hs : ∀ p ∈ led, p ∈ nw) (e : k' = k) : TurnI h₀ L m s led k (.int k' u) { s with heap := h', toks := tk' } :=
  ⟨h', tk', u, rfl, by rw [e], F, fun p hp => N p (hs p hp)⟩
noncomputable def TurnB (h₀ : Heap) (L : Addr) (m : Str → Option Value) (s : Shared) (led : List (Addr × Obj)) (k : Bool) (v : Bool) (s₂ : Shared) : Prop :=
  ∃ h' tk', s₂ = { s with heap := h', toks := tk' } ∧ v = k ∧ Fr h₀ L h' m ∧ News h₀ L h' led
theorem TurnB.of {led nw : List (Addr × Obj)} {k k' : Bool} {h' : Heap} {tk' : Nat} (F : Fr h₀ L h' m) (N : News h₀ L h' nw) (hs : ∀ p ∈ led, p ∈ nw) (e : k' = k) : TurnB h₀ L m s led k k' { s with heap := h', toks := tk' } :=
  ⟨h', tk', rfl, e, F, fun p hp => N p (hs p hp)⟩
theorem src_ints {elt : PySem.Expr} {x : Str} {scope : Scope} {cl : List (Str × Addr)} {Q : Value → Shared → Prop} {news : List (Addr × Obj)} {ax : Addr} {vs : List Value} {ns : List Int} {e : Nat} (f : Int → Int)
    (hh : A.handled = none) (F : Fr h₀ L s.heap m) (N : News h₀ L s.heap news) (hm : (ax, PySem.W.listOf vs.toArray e) ∈ news) (hv : IntsAre vs ns) (hz : ns.length ≤ 1000)
    (turn : ∀ n t ys I oI C oC D m₂ h tk (E' : Value → Shared → Prop), n ∈ ns → LCg.NsObj oC m₂ → m₂ x = some (.int n t) → Fr h₀ L h m → News h₀ L h ((I, oI) :: (C, oC) :: (D, LCg.lst ys) :: news) →
      wpAny (model prog w) A (eval elt (compEnvC scope cl C env)) (TurnI h₀ L m { s with heap := h, toks := tk } ((I, oI) :: (C, oC) :: (D, LCg.lst ys) :: news) (f n)) E' { s with heap := h, toks := tk })
    (fin : FinW (∀ D h tk ws e, IntsAre ws (ns.map f) → Fr h₀ L h m → News h₀ L h ((D, PySem.W.listOf ws.toArray e) :: news) → LCg.Off1 D news → Q (.ref D) { s with heap := h, toks := tk })) :
    LCg.CompSrc prog w A h₀ L m env elt x scope cl (fun s₂ => LCg.FinE h₀ L m s₂ Q) (.ref ax) s := by
  refine LCg.CompSrc.ledger (k := e) hh F N hm (by rw [List.size_toArray, hv.length, sizeLine_eq]; omega) fun g => ?_
  refine comp_acc (fun i ys acc => acc = [] ∧ IntsAre ys ((ns.take i).map f)) ⟨rfl, .nil⟩ ?_ (fun acc => .inr ⟨_, List.mem_append_right _ hm, rfl, _, rfl⟩) ?_
  · rintro i v ys acc I oI C oC D m₂ h tk E' hi hv' ⟨rfl, hys⟩ hC hx F₁ N₁ off ne
    obtain ⟨n, t, hn, rfl⟩ := ints_get hv (i := i) (v := v) (by simpa using hv')
    refine wpAny_mono (turn n t ys I oI C oC D m₂ h tk E' (List.mem_of_getElem? hn) hC hx F₁ N₁) (fun v s₃ hq => ?_) fun _ _ e => e
    obtain ⟨h', tk', u', rfl, rfl, F₂, N₂⟩ := hq
    refine ⟨h', tk', [], rfl, F₂, N₂, (fun _ hp => nomatch hp), rfl, ?_⟩
    rw [List.take_add_one, hn]
    simpa using hys.append (.cons _ u' .nil)
  · rintro ys acc ⟨rfl, hys⟩ D h tk F₁ N₁ o1
    rw [List.take_of_length_le (by rw [List.size_toArray, hv.length]; exact Nat.le_refl _)] at hys
    exact fin D h tk ys _ hys F₁ N₁ o1
theorem src_intsT {ct elt : PySem.Expr} {x : Str} {scope : Scope} {cl : List (Str × Addr)} {Q : Value → Shared → Prop} {news : List (Addr × Obj)} {ax : Addr} {vs : List Value} {ns : List Int} {e : Nat} (p : Int → Bool)
    (hh : A.handled = none) (F : Fr h₀ L s.heap m) (N : News h₀ L s.heap news) (hm : (ax, PySem.W.listOf vs.toArray e) ∈ news) (hv : IntsAre vs ns) (hz : ns.length ≤ 1000)
    (turn : ∀ n t ys I oI C oC D m₂ h tk (E' : Value → Shared → Prop), n ∈ ns → LCg.NsObj oC m₂ → m₂ x = some (.int n t) → Fr h₀ L h m → News h₀ L h ((I, oI) :: (C, oC) :: (D, LCg.lst ys) :: news) →
      wpAny (model prog w) A (isTrue ct (compEnvC scope cl C env) (eval ct (compEnvC scope cl C env))) (TurnB h₀ L m { s with heap := h, toks := tk } ((I, oI) :: (C, oC) :: (D, LCg.lst ys) :: news) (p n)) E' { s with heap := h, toks := tk })
    (turnE : ∀ n t ys I oI C oC D m₂ h tk (E' : Value → Shared → Prop), n ∈ ns → LCg.NsObj oC m₂ → m₂ x = some (.int n t) → Fr h₀ L h m → News h₀ L h ((I, oI) :: (C, oC) :: (D, LCg.lst ys) :: news) →
      wpAny (model prog w) A (eval elt (compEnvC scope cl C env)) (TurnI h₀ L m { s with heap := h, toks := tk } ((I, oI) :: (C, oC) :: (D, LCg.lst ys) :: news) n) E' { s with heap := h, toks := tk })
    (fin : FinW (∀ D h tk ws e, IntsAre ws (ns.filter p) → Fr h₀ L h m → News h₀ L h ((D, PySem.W.listOf ws.toArray e) :: news) → LCg.Off1 D news → Q (.ref D) { s with heap := h, toks := tk })) :
    LCt.CompSrcT prog w A h₀ L m env ct elt x scope cl (fun s₂ => LCg.FinE h₀ L m s₂ Q) (.ref ax) s := by
  refine LCt.CompSrcT.ledger (k := e) hh F N hm (by rw [List.size_toArray, hv.length, sizeLine_eq]; omega) fun g => ?_
  have key : ∀ (k i : Nat) (ys : List Value), i + k = ns.length → IntsAre ys ((ns.take i).filter p) → LCt.CompRestT prog w A h₀ L m env ct elt x scope cl { s with heap := g } (LCg.SrcAt h₀ ax vs.toArray) (fun i v => vs.toArray[i]? = some v) (LCg.FinE h₀ L m { s with heap := g } Q) k i ys news := by
    intro k
    induction k with
    | zero =>
      intro i ys hi hr
      refine LCt.CompRestT.zero fun D h tk F₁ N₁ o1 => ?_
      rw [List.take_of_length_le (by omega)] at hr
      exact fin D h tk ys _ hr F₁ N₁ o1
    | succ k ih =>
      intro i ys hi hr
      refine LCt.CompRestT.succ ?_
      intro v I oI C oC D m₂ h tk E' hv' hC hx F₁ N₁ off ne
      obtain ⟨n, t, hn, rfl⟩ := ints_get hv (i := i) (v := v) (by simpa using hv')
      have ht : ns.take (i + 1) = ns.take i ++ [n] := by rw [List.take_add_one, hn]; rfl
      refine wpAny_mono (turn n t ys I oI C oC D m₂ h tk E' (List.mem_of_getElem? hn) hC hx F₁ N₁) (fun b s₃ hq => ?_) fun _ _ e => e
      obtain ⟨h', tk', rfl, rfl, F₂, N₂⟩ := hq
      cases hp : p n with
      | true =>
        simp only [if_true]
        refine wpAny_mono (turnE n t ys I oI C oC D m₂ h' tk' E' (List.mem_of_getElem? hn) hC hx F₂ N₂) (fun y s₄ hq => ?_) fun _ _ e => e
        obtain ⟨h₄, tk₄, u', rfl, rfl, F₄, N₄⟩ := hq
        refine LCg.CompEnd.intro F₄ N₄ news (fun _ h => h) off (.inr ⟨_, hm, rfl, _, rfl⟩) (ih (i + 1) _ (by omega) ?_)
        rw [ht, List.filter_append, List.filter_cons_of_pos hp, List.filter_nil]
        exact hr.append (.cons _ u' .nil)
      | false =>
        simp only [Bool.false_eq_true, if_false]
        refine LCg.CompEnd.intro F₂ N₂ news (fun _ h => h) off (.inr ⟨_, hm, rfl, _, rfl⟩) (ih (i + 1) _ (by omega) ?_)
        rw [ht, List.filter_append, List.filter_cons_of_neg (by rw [hp]; exact Bool.false_ne_true), List.filter_nil, List.append_nil]
        exact hr
  rw [List.size_toArray, hv.length]
  exact key ns.length 0 [] (Nat.zero_add _) .nil
theorem src_intsTA {ct elt : PySem.Expr} {x : Str} {scope : Scope} {cl : List (Str × Addr)} {yn : Str} {Q : Flow → Shared → Prop} {news : List (Addr × Obj)} {ax : Addr} {vs : List Value} {ns : List Int} {e : Nat} (p : Int → Bool)
    (hh : A.handled = none) (F : Fr h₀ L s.heap m) (N : News h₀ L s.heap news) (hm : (ax, PySem.W.listOf vs.toArray e) ∈ news) (hv : IntsAre vs ns) (hz : ns.length ≤ 1000)
    (turn : ∀ n t ys I oI C oC D m₂ h tk (E' : Value → Shared → Prop), n ∈ ns → LCg.NsObj oC m₂ → m₂ x = some (.int n t) → Fr h₀ L h m → News h₀ L h ((I, oI) :: (C, oC) :: (D, LCg.lst ys) :: news) →
      wpAny (model prog w) A (isTrue ct (compEnvC scope cl C env) (eval ct (compEnvC scope cl C env))) (TurnB h₀ L m { s with heap := h, toks := tk } ((I, oI) :: (C, oC) :: (D, LCg.lst ys) :: news) (p n)) E' { s with heap := h, toks := tk })
    (turnE : ∀ n t ys I oI C oC D m₂ h tk (E' : Value → Shared → Prop), n ∈ ns → LCg.NsObj oC m₂ → m₂ x = some (.int n t) → Fr h₀ L h m → News h₀ L h ((I, oI) :: (C, oC) :: (D, LCg.lst ys) :: news) →
      wpAny (model prog w) A (eval elt (compEnvC scope cl C env)) (TurnI h₀ L m { s with heap := h, toks := tk } ((I, oI) :: (C, oC) :: (D, LCg.lst ys) :: news) n) E' { s with heap := h, toks := tk })
    (fin : FinW (∀ D h tk ws e, IntsAre ws (ns.filter p) → Fr h₀ L h (fun z => if z = yn then some (.ref D) else m z) → News h₀ L h ((D, PySem.W.listOf ws.toArray e) :: news) → LCg.Off1 D news → Q .next { s with heap := h, toks := tk })) :
    LCt.CompSrcT prog w A h₀ L m env ct elt x scope cl (fun s₂ => LCg.FinA h₀ L m s₂ yn Q) (.ref ax) s := by
  refine LCt.CompSrcT.ledger (k := e) hh F N hm (by rw [List.size_toArray, hv.length, sizeLine_eq]; omega) fun g => ?_
  have key : ∀ (k i : Nat) (ys : List Value), i + k = ns.length → IntsAre ys ((ns.take i).filter p) → LCt.CompRestT prog w A h₀ L m env ct elt x scope cl { s with heap := g } (LCg.SrcAt h₀ ax vs.toArray) (fun i v => vs.toArray[i]? = some v) (LCg.FinA h₀ L m { s with heap := g } yn Q) k i ys news := by
    intro k
    induction k with
    | zero =>
      intro i ys hi hr
      refine LCt.CompRestT.zero fun D h tk F₁ N₁ o1 => ?_
      rw [List.take_of_length_le (by omega)] at hr
      exact fin D h tk ys _ hr F₁ N₁ o1
    | succ k ih =>
      intro i ys hi hr
      refine LCt.CompRestT.succ ?_
      intro v I oI C oC D m₂ h tk E' hv' hC hx F₁ N₁ off ne
      obtain ⟨n, t, hn, rfl⟩ := ints_get hv (i := i) (v := v) (by simpa using hv')
      have ht : ns.take (i + 1) = ns.take i ++ [n] := by rw [List.take_add_one, hn]; rfl
      refine wpAny_mono (turn n t ys I oI C oC D m₂ h tk E' (List.mem_of_getElem? hn) hC hx F₁ N₁) (fun b s₃ hq => ?_) fun _ _ e => e
      obtain ⟨h', tk', rfl, rfl, F₂, N₂⟩ := hq
      cases hp : p n with
      | true =>
        simp only [if_true]
        refine wpAny_mono (turnE n t ys I oI C oC D m₂ h' tk' E' (List.mem_of_getElem? hn) hC hx F₂ N₂) (fun y s₄ hq => ?_) fun _ _ e => e
        obtain ⟨h₄, tk₄, u', rfl, rfl, F₄, N₄⟩ := hq
        refine LCg.CompEnd.intro F₄ N₄ news (fun _ h => h) off (.inr ⟨_, hm, rfl, _, rfl⟩) (ih (i + 1) _ (by omega) ?_)
        rw [ht, List.filter_append, List.filter_cons_of_pos hp, List.filter_nil]
        exact hr.append (.cons _ u' .nil)
      | false =>
        simp only [Bool.false_eq_true, if_false]
        refine LCg.CompEnd.intro F₂ N₂ news (fun _ h => h) off (.inr ⟨_, hm, rfl, _, rfl⟩) (ih (i + 1) _ (by omega) ?_)
        rw [ht, List.filter_append, List.filter_cons_of_neg (by rw [hp]; exact Bool.false_ne_true), List.filter_nil, List.append_nil]
        exact hr
  rw [List.size_toArray, hv.length]
  exact key ns.length 0 [] (Nat.zero_add _) .nil
end
/-- behind the loop: the rows, the two formulas, the nine cells -/
inductive P3 (f g : Fm) (h₀ : Heap) (L : Addr) (h : Heap) (m : Str → Option Value) : Prop where
  | mk (R r1 r2 tf rf tg rg : Addr) (o1 o2 o3 o4 o5 o6 o7 o8 o9 : Obj) (v1 v2 vf vg : List Value) (k0 k1 k2 k3 j0 j1 j2 j3 : Tok) (c3 c4 c5 c6 c7 c8 c9 : Option Value) (nf ng e e1 e2 ef eg : Nat) (cn0 : IntsAre v1 (f.row ++ [0])) (cn1 : IntsAre v2 (g.row ++ [0])) (cn2 : IntsAre vf f.row) (cn3 : IntsAre vg g.row) (cn4 : o1.data = .cell (some (.ref tf))) (cn5 : o2.data = .cell (some (.ref tg))) (cn6 : o3.data = .cell c3) (cn7 : o4.data = .cell c4) (cn8 : o5.data = .cell c5) (cn9 : o6.data = .cell c6) (cn10 : o7.data = .cell c7) (cn11 : o8.data = .cell c8) (cn12 : o9.data = .cell c9) (cn13 : (L + 1 + 1 + 1 + 1 + 1 + 1 + 1 + 1 + 1 < R ∧ L + 1 + 1 + 1 + 1 + 1 + 1 + 1 + 1 + 1 < r1 ∧ L + 1 + 1 + 1 + 1 + 1 + 1 + 1 + 1 + 1 < r2 ∧ L + 1 + 1 + 1 + 1 + 1 + 1 + 1 + 1 + 1 < tf ∧ L + 1 + 1 + 1 + 1 + 1 + 1 + 1 + 1 + 1 < rf ∧ L + 1 + 1 + 1 + 1 + 1 + 1 + 1 + 1 + 1 < tg ∧ L + 1 + 1 + 1 + 1 + 1 + 1 + 1 + 1 + 1 < rg)) (cn14 : m (Str.ofString "rows") = some (.ref R)) (cn15 : News h₀ L h [(R, PySem.W.listOf [Value.ref r1, .ref r2].toArray e), (r1, PySem.W.listOf v1.toArray e1), (r2, PySem.W.listOf v2.toArray e2), (tf, tup [.str f.txt k0, .ref rf, .int (iv f.bits) k1, .int (iv f.pol.1) k2, .int (iv f.pol.2) k3] nf), (rf, PySem.W.listOf vf.toArray ef),
    (tg, tup [.str g.txt j0, .ref rg, .int (iv g.bits) j1, .int (iv g.pol.1) j2, .int (iv g.pol.2) j3] ng), (rg, PySem.W.listOf vg.toArray eg), (L + 1 + 1 + 1 + 1 + 1 + 1 + 1 + 1 + 1, o9), (L + 1 + 1 + 1 + 1 + 1 + 1 + 1 + 1, o8), (L + 1 + 1 + 1 + 1 + 1 + 1 + 1, o7), (L + 1 + 1 + 1 + 1 + 1 + 1, o6), (L + 1 + 1 + 1 + 1 + 1, o5), (L + 1 + 1 + 1 + 1, o4), (L + 1 + 1 + 1, o3), (L + 1 + 1, o2), (L + 1, o1)]) : P3 f g h₀ L h m
/-- the columns, the formulas' cases, the least and the most claim are told -/
inductive P4 (f g : Fm) (h₀ : Heap) (L : Addr) (h : Heap) (m : Str → Option Value) : Prop where
  | mk (tf tg D : Addr) (o1 o2 o4 o5 o6 o7 o8 o9 : Obj) (a0 a1 a2 b0 b1 b2 : Value) (k2 k3 j2 j3 t0 t1 t2 t3 t5 t6 t7 t8 : Tok) (c9 : Option Value) (nf ng e : Nat) (cn0 : o1.data = .cell (some (.ref tf))) (cn1 : o2.data = .cell (some (.ref tg))) (cn2 : o4.data = .cell (some (.ref D))) (cn3 : o5.data = .cell (some (.int (iv f.bits) t5))) (cn4 : o6.data = .cell (some (.int (iv g.bits) t6))) (cn5 : o7.data = .cell (some (.int (iv (leastBV f)) t7))) (cn6 : o8.data = .cell (some (.int (iv (mostBV g)) t8))) (cn7 : o9.data = .cell c9) (cn8 : (L + 1 + 1 + 1 + 1 + 1 + 1 + 1 + 1 + 1 < tf ∧ L + 1 + 1 + 1 + 1 + 1 + 1 + 1 + 1 + 1 < tg ∧ L + 1 + 1 + 1 + 1 + 1 + 1 + 1 + 1 + 1 < D)) (cn9 : News h₀ L h [(D, PySem.W.listOf [Value.int 43690 t0, .int 52428 t1, .int 61680 t2, .int 65280 t3].toArray e), (tf, tup [a0, a1, a2, .int (iv f.pol.1) k2, .int (iv f.pol.2) k3] nf), (tg, tup [b0, b1, b2, .int (iv g.pol.1) j2, .int (iv g.pol.2) j3] ng), (L + 1 + 1 + 1 + 1 + 1 + 1 + 1 + 1 + 1, o9), (L + 1 + 1 + 1 + 1 + 1 + 1 + 1 + 1, o8), (L + 1 + 1 + 1 + 1 + 1 + 1 + 1, o7), (L + 1 + 1 + 1 + 1 + 1 + 1, o6), (L + 1 + 1 + 1 + 1 + 1, o5), (L + 1 + 1 + 1 + 1, o4), (L + 1 + 1, o2), (L + 1, o1)]) : P4 f g h₀ L h m
section
variable {f g : Fm} {h₀ h : Heap} {L tf tg D : Addr} {m : Str → Option Value} {nw : List (Addr × Obj)} {o1 o2 o4 o5 o6 o7 o8 o9 : Obj} {a0 a1 a2 b0 b1 b2 : Value} {k2 k3 j2 j3 t0 t1 t2 t3 t5 t6 t7 t8 : Tok} {c9 : Option Value} {nf ng e : Nat}
theorem P4.of (N : News h₀ L h nw) (hD : (D, PySem.W.listOf [Value.int 43690 t0, .int 52428 t1, .int 61680 t2, .int 65280 t3].toArray e) ∈ nw) (hf : (tf, tup [a0, a1, a2, .int (iv f.pol.1) k2, .int (iv f.pol.2) k3] nf) ∈ nw) (hg : (tg, tup [b0, b1, b2, .int (iv g.pol.1) j2, .int (iv g.pol.2) j3] ng) ∈ nw)
    (h1 : (L + 1, o1) ∈ nw) (h2 : (L + 1 + 1, o2) ∈ nw) (h4 : (L + 1 + 1 + 1 + 1, o4) ∈ nw) (h5 : (L + 1 + 1 + 1 + 1 + 1, o5) ∈ nw) (h6 : (L + 1 + 1 + 1 + 1 + 1 + 1, o6) ∈ nw) (h7 : (L + 1 + 1 + 1 + 1 + 1 + 1 + 1, o7) ∈ nw) (h8 : (L + 1 + 1 + 1 + 1 + 1 + 1 + 1 + 1, o8) ∈ nw) (h9 : (L + 1 + 1 + 1 + 1 + 1 + 1 + 1 + 1 + 1, o9) ∈ nw)
    (d1 : o1.data = .cell (some (.ref tf))) (d2 : o2.data = .cell (some (.ref tg))) (d4 : o4.data = .cell (some (.ref D))) (d5 : o5.data = .cell (some (.int (iv f.bits) t5))) (d6 : o6.data = .cell (some (.int (iv g.bits) t6))) (d7 : o7.data = .cell (some (.int (iv (leastBV f)) t7))) (d8 : o8.data = .cell (some (.int (iv (mostBV g)) t8))) (d9 : o9.data = .cell c9)
    (q1 : @LT.lt Nat _ (L + 1 + 1 + 1 + 1 + 1 + 1 + 1 + 1 + 1) tf) (q2 : @LT.lt Nat _ (L + 1 + 1 + 1 + 1 + 1 + 1 + 1 + 1 + 1) tg) (q3 : @LT.lt Nat _ (L + 1 + 1 + 1 + 1 + 1 + 1 + 1 + 1 + 1) D) : P4 f g h₀ L h m :=
  ⟨tf, tg, D, o1, o2, o4, o5, o6, o7, o8, o9, a0, a1, a2, b0, b1, b2, k2, k3, j2, j3, t0, t1, t2, t3, t5, t6, t7, t8, c9, nf, ng, e, d1, d2, d4, d5, d6, d7, d8, d9, ⟨q1, q2, q3⟩, News.sub N (sub_all_cons hD (sub_all_cons hf (sub_all_cons hg (sub_all_cons h9 (sub_all_cons h8 (sub_all_cons h7 (sub_all_cons h6 (sub_all_cons h5 (sub_all_cons h4 (sub_all_cons h2 (sub_all_cons h1 sub_all_nil)))))))))))⟩
end
noncomputable def AllGt (d : Nat) : List (Addr × Obj) → Prop
  | [] => True
  | p :: r => @LT.lt Nat _ d p.1 ∧ AllGt d r
/-- ahead of the loop over the two pages -/
inductive P2 (f g : Fm) (h₀ : Heap) (L : Addr) (h : Heap) (m : Str → Option Value) : Prop where
  | mk (R Nn q0 q1 q2 q3 x0 x1 x2 x3 H tf rf tg rg Cc : Addr) (o1 o2 o3 o4 o5 o6 o7 o8 o9 : Obj) (vf vg : List Value) (h0 h1 h2 h3 : Int) (k0a k0b k1a k1b k2a k2b k3a k3b i0 i1 i2 i3 j0 j1 j2 j3 : Tok) (a0 a1 a2 a3 a4 a5 a6 a7 : Int) (t0 t1 t2 t3 t4 t5 t6 t7 : Tok) (c3 c4 c5 c6 c7 c8 c9 : Option Value) (eN nH ng eg nf ef eC eR : Nat) (cn0 : IntsAre vf f.row) (cn1 : IntsAre vg g.row) (cn2 : (0 ≤ a0 ∧ a0 < 10 ^ 9)) (cn3 : (0 ≤ a1 ∧ a1 < 10 ^ 9)) (cn4 : (0 ≤ a2 ∧ a2 < 10 ^ 9)) (cn5 : (0 ≤ a3 ∧ a3 < 10 ^ 9)) (cn6 : (0 ≤ a4 ∧ a4 < 10 ^ 9)) (cn7 : (0 ≤ a5 ∧ a5 < 10 ^ 9)) (cn8 : (0 ≤ a6 ∧ a6 < 10 ^ 9)) (cn9 : (0 ≤ a7 ∧ a7 < 10 ^ 9)) (cn10 : o1.data = .cell (some (.ref tf))) (cn11 : o2.data = .cell (some (.ref tg))) (cn12 : o3.data = .cell c3) (cn13 : o4.data = .cell c4) (cn14 : o5.data = .cell c5) (cn15 : o6.data = .cell c6) (cn16 : o7.data = .cell c7) (cn17 : o8.data = .cell c8) (cn18 : o9.data = .cell c9) (cn19 : AllGt (L + 1 + 1 + 1 + 1 + 1 + 1 + 1 + 1 + 1) [(Nn, PySem.W.listOf [Value.ref q0, .ref q1, .ref q2, .ref q3].toArray eN), (q3, instObj 203 x3), (x3, PySem.W.dictOf (qEs (Str.ofString "{" ++ Str.ofString "b" ++ Str.ofString "}" ++ Str.ofString "x") h3 k3a k3b) 1), (q2, instObj 203 x2), (x2, PySem.W.dictOf (qEs (Str.ofString "{" ++ Str.ofString "c" ++ Str.ofString "}" ++ Str.ofString "y") h2 k2a k2b) 1), (q1, instObj 203 x1), (x1, PySem.W.dictOf (qEs (Str.ofString "{" ++ Str.ofString "c" ++ Str.ofString "}" ++ Str.ofString "x") h1 k1a k1b) 1), (q0, instObj 203 x0), (x0, PySem.W.dictOf (qEs (Str.ofString "{" ++ Str.ofString "a" ++ Str.ofString "}" ++ Str.ofString "x") h0 k0a k0b) 1), (H, tup [.ref 221, .ref 228, .ref 235, .ref 242, .ref 249] nH), (tg, tup [.str g.txt j0, .ref rg, .int (iv g.bits) j1, .int (iv g.pol.1) j2, .int (iv g.pol.2) j3] ng), (rg, PySem.W.listOf (List.toArray vg) eg), (tf, tup [.str f.txt i0, .ref rf, .int (iv f.bits) i1, .int (iv f.pol.1) i2, .int (iv f.pol.2) i3] nf), (rf, PySem.W.listOf (List.toArray vf) ef), (Cc, PySem.W.listOf [Value.int a0 t0, .int a1 t1, .int a2 t2, .int a3 t3, .int a4 t4, .int a5 t5, .int a6 t6, .int a7 t7].toArray eC)]) (cn20 : (∀ p ∈ [(Nn, PySem.W.listOf [Value.ref q0, .ref q1, .ref q2, .ref q3].toArray eN), (q3, instObj 203 x3), (x3, PySem.W.dictOf (qEs (Str.ofString "{" ++ Str.ofString "b" ++ Str.ofString "}" ++ Str.ofString "x") h3 k3a k3b) 1), (q2, instObj 203 x2), (x2, PySem.W.dictOf (qEs (Str.ofString "{" ++ Str.ofString "c" ++ Str.ofString "}" ++ Str.ofString "y") h2 k2a k2b) 1), (q1, instObj 203 x1), (x1, PySem.W.dictOf (qEs (Str.ofString "{" ++ Str.ofString "c" ++ Str.ofString "}" ++ Str.ofString "x") h1 k1a k1b) 1), (q0, instObj 203 x0), (x0, PySem.W.dictOf (qEs (Str.ofString "{" ++ Str.ofString "a" ++ Str.ofString "}" ++ Str.ofString "x") h0 k0a k0b) 1), (H, tup [.ref 221, .ref 228, .ref 235, .ref 242, .ref 249] nH), (tg, tup [.str g.txt j0, .ref rg, .int (iv g.bits) j1, .int (iv g.pol.1) j2, .int (iv g.pol.2) j3] ng), (rg, PySem.W.listOf (List.toArray vg) eg), (tf, tup [.str f.txt i0, .ref rf, .int (iv f.bits) i1, .int (iv f.pol.1) i2, .int (iv f.pol.2) i3] nf), (rf, PySem.W.listOf (List.toArray vf) ef), (Cc, PySem.W.listOf [Value.int a0 t0, .int a1 t1, .int a2 t2, .int a3 t3, .int a4 t4, .int a5 t5, .int a6 t6, .int a7 t7].toArray eC), (L + 1 + 1 + 1 + 1 + 1 + 1 + 1 + 1 + 1, o9), (L + 1 + 1 + 1 + 1 + 1 + 1 + 1 + 1, o8), (L + 1 + 1 + 1 + 1 + 1 + 1 + 1, o7), (L + 1 + 1 + 1 + 1 + 1 + 1, o6), (L + 1 + 1 + 1 + 1 + 1, o5), (L + 1 + 1 + 1 + 1, o4), (L + 1 + 1 + 1, o3), (L + 1 + 1, o2), (L + 1, o1)], p.1 < R)) (cn21 : m (Str.ofString "cells") = some (.ref Cc)) (cn22 : m (Str.ofString "hands") = some (.ref H)) (cn23 : m (Str.ofString "names") = some (.ref Nn)) (cn24 : m (Str.ofString "rows") = some (.ref R)) (cn25 : News h₀ L h ((R, PySem.W.listOf (List.toArray []) eR) :: [(Nn, PySem.W.listOf [Value.ref q0, .ref q1, .ref q2, .ref q3].toArray eN), (q3, instObj 203 x3), (x3, PySem.W.dictOf (qEs (Str.ofString "{" ++ Str.ofString "b" ++ Str.ofString "}" ++ Str.ofString "x") h3 k3a k3b) 1), (q2, instObj 203 x2), (x2, PySem.W.dictOf (qEs (Str.ofString "{" ++ Str.ofString "c" ++ Str.ofString "}" ++ Str.ofString "y") h2 k2a k2b) 1), (q1, instObj 203 x1), (x1, PySem.W.dictOf (qEs (Str.ofString "{" ++ Str.ofString "c" ++ Str.ofString "}" ++ Str.ofString "x") h1 k1a k1b) 1), (q0, instObj 203 x0), (x0, PySem.W.dictOf (qEs (Str.ofString "{" ++ Str.ofString "a" ++ Str.ofString "}" ++ Str.ofString "x") h0 k0a k0b) 1), (H, tup [.ref 221, .ref 228, .ref 235, .ref 242, .ref 249] nH), (tg, tup [.str g.txt j0, .ref rg, .int (iv g.bits) j1, .int (iv g.pol.1) j2, .int (iv g.pol.2) j3] ng), (rg, PySem.W.listOf (List.toArray vg) eg), (tf, tup [.str f.txt i0, .ref rf, .int (iv f.bits) i1, .int (iv f.pol.1) i2, .int (iv f.pol.2) i3] nf), (rf, PySem.W.listOf (List.toArray vf) ef), (Cc, PySem.W.listOf [Value.int a0 t0, .int a1 t1, .int a2 t2, .int a3 t3, .int a4 t4, .int a5 t5, .int a6 t6, .int a7 t7].toArray eC), (L + 1 + 1 + 1 + 1 + 1 + 1 + 1 + 1 + 1, o9), (L + 1 + 1 + 1 + 1 + 1 + 1 + 1 + 1, o8), (L + 1 + 1 + 1 + 1 + 1 + 1 + 1, o7), (L + 1 + 1 + 1 + 1 + 1 + 1, o6), (L + 1 + 1 + 1 + 1 + 1, o5), (L + 1 + 1 + 1 + 1, o4), (L + 1 + 1 + 1, o3), (L + 1 + 1, o2), (L + 1, o1)])) : P2 f g h₀ L h m
section
variable {f g : Fm} {h₀ h : Heap} {L : Addr} {m : Str → Option Value} {nw : List (Addr × Obj)} {R Nn q0 q1 q2 q3 x0 x1 x2 x3 H tf rf tg rg Cc : Addr} {o1 o2 o3 o4 o5 o6 o7 o8 o9 : Obj} {vf vg : List Value} {h0 h1 h2 h3 : Int} {k0a k0b k1a k1b k2a k2b k3a k3b i0 i1 i2 i3 j0 j1 j2 j3 : Tok} {a0 a1 a2 a3 a4 a5 a6 a7 : Int} {t0 t1 t2 t3 t4 t5 t6 t7 : Tok} {c3 c4 c5 c6 c7 c8 c9 : Option Value} {eN nH ng eg nf ef eC eR : Nat}
theorem P2.of (hlt : AllLt R [(Nn, PySem.W.listOf [Value.ref q0, .ref q1, .ref q2, .ref q3].toArray eN), (q3, instObj 203 x3), (x3, PySem.W.dictOf (qEs (Str.ofString "{" ++ Str.ofString "b" ++ Str.ofString "}" ++ Str.ofString "x") h3 k3a k3b) 1), (q2, instObj 203 x2), (x2, PySem.W.dictOf (qEs (Str.ofString "{" ++ Str.ofString "c" ++ Str.ofString "}" ++ Str.ofString "y") h2 k2a k2b) 1), (q1, instObj 203 x1), (x1, PySem.W.dictOf (qEs (Str.ofString "{" ++ Str.ofString "c" ++ Str.ofString "}" ++ Str.ofString "x") h1 k1a k1b) 1), (q0, instObj 203 x0), (x0, PySem.W.dictOf (qEs (Str.ofString "{" ++ Str.ofString "a" ++ Str.ofString "}" ++ Str.ofString "x") h0 k0a k0b) 1), (H, tup [.ref 221, .ref 228, .ref 235, .ref 242, .ref 249] nH), (tg, tup [.str g.txt j0, .ref rg, .int (iv g.bits) j1, .int (iv g.pol.1) j2, .int (iv g.pol.2) j3] ng), (rg, PySem.W.listOf (List.toArray vg) eg), (tf, tup [.str f.txt i0, .ref rf, .int (iv f.bits) i1, .int (iv f.pol.1) i2, .int (iv f.pol.2) i3] nf), (rf, PySem.W.listOf (List.toArray vf) ef), (Cc, PySem.W.listOf [Value.int a0 t0, .int a1 t1, .int a2 t2, .int a3 t3, .int a4 t4, .int a5 t5, .int a6 t6, .int a7 t7].toArray eC), (L + 1 + 1 + 1 + 1 + 1 + 1 + 1 + 1 + 1, o9), (L + 1 + 1 + 1 + 1 + 1 + 1 + 1 + 1, o8), (L + 1 + 1 + 1 + 1 + 1 + 1 + 1, o7), (L + 1 + 1 + 1 + 1 + 1 + 1, o6), (L + 1 + 1 + 1 + 1 + 1, o5), (L + 1 + 1 + 1 + 1, o4), (L + 1 + 1 + 1, o3), (L + 1 + 1, o2), (L + 1, o1)]) (N : News h₀ L h ((R, PySem.W.listOf (List.toArray []) eR) :: nw)) (z0 : (Nn, PySem.W.listOf [Value.ref q0, .ref q1, .ref q2, .ref q3].toArray eN) ∈ nw) (z1 : (q3, instObj 203 x3) ∈ nw) (z2 : (x3, PySem.W.dictOf (qEs (Str.ofString "{" ++ Str.ofString "b" ++ Str.ofString "}" ++ Str.ofString "x") h3 k3a k3b) 1) ∈ nw) (z3 : (q2, instObj 203 x2) ∈ nw) (z4 : (x2, PySem.W.dictOf (qEs (Str.ofString "{" ++ Str.ofString "c" ++ Str.ofString "}" ++ Str.ofString "y") h2 k2a k2b) 1) ∈ nw) (z5 : (q1, instObj 203 x1) ∈ nw) (z6 : (x1, PySem.W.dictOf (qEs (Str.ofString "{" ++ Str.ofString "c" ++ Str.ofString "}" ++ Str.ofString "x") h1 k1a k1b) 1) ∈ nw) (z7 : (q0, instObj 203 x0) ∈ nw) (z8 : (x0, PySem.W.dictOf (qEs (Str.ofString "{" ++ Str.ofString "a" ++ Str.ofString "}" ++ Str.ofString "x") h0 k0a k0b) 1) ∈ nw) (z9 : (H, tup [.ref 221, .ref 228, .ref 235, .ref 242, .ref 249] nH) ∈ nw) (z10 : (tg, tup [.str g.txt j0, .ref rg, .int (iv g.bits) j1, .int (iv g.pol.1) j2, .int (iv g.pol.2) j3] ng) ∈ nw) (z11 : (rg, PySem.W.listOf (List.toArray vg) eg) ∈ nw) (z12 : (tf, tup [.str f.txt i0, .ref rf, .int (iv f.bits) i1, .int (iv f.pol.1) i2, .int (iv f.pol.2) i3] nf) ∈ nw) (z13 : (rf, PySem.W.listOf (List.toArray vf) ef) ∈ nw) (z14 : (Cc, PySem.W.listOf [Value.int a0 t0, .int a1 t1, .int a2 t2, .int a3 t3, .int a4 t4, .int a5 t5, .int a6 t6, .int a7 t7].toArray eC) ∈ nw) (z15 : (L + 1 + 1 + 1 + 1 + 1 + 1 + 1 + 1 + 1, o9) ∈ nw) (z16 : (L + 1 + 1 + 1 + 1 + 1 + 1 + 1 + 1, o8) ∈ nw) (z17 : (L + 1 + 1 + 1 + 1 + 1 + 1 + 1, o7) ∈ nw) (z18 : (L + 1 + 1 + 1 + 1 + 1 + 1, o6) ∈ nw) (z19 : (L + 1 + 1 + 1 + 1 + 1, o5) ∈ nw) (z20 : (L + 1 + 1 + 1 + 1, o4) ∈ nw) (z21 : (L + 1 + 1 + 1, o3) ∈ nw) (z22 : (L + 1 + 1, o2) ∈ nw) (z23 : (L + 1, o1) ∈ nw) (p0 : IntsAre vf f.row) (p1 : IntsAre vg g.row) (p2 : (0 ≤ a0 ∧ a0 < 10 ^ 9)) (p3 : (0 ≤ a1 ∧ a1 < 10 ^ 9)) (p4 : (0 ≤ a2 ∧ a2 < 10 ^ 9)) (p5 : (0 ≤ a3 ∧ a3 < 10 ^ 9)) (p6 : (0 ≤ a4 ∧ a4 < 10 ^ 9)) (p7 : (0 ≤ a5 ∧ a5 < 10 ^ 9)) (p8 : (0 ≤ a6 ∧ a6 < 10 ^ 9)) (p9 : (0 ≤ a7 ∧ a7 < 10 ^ 9)) (p10 : o1.data = .cell (some (.ref tf))) (p11 : o2.data = .cell (some (.ref tg))) (p12 : o3.data = .cell c3) (p13 : o4.data = .cell c4) (p14 : o5.data = .cell c5) (p15 : o6.data = .cell c6) (p16 : o7.data = .cell c7) (p17 : o8.data = .cell c8) (p18 : o9.data = .cell c9) (hgt : AllGt (L + 1 + 1 + 1 + 1 + 1 + 1 + 1 + 1 + 1) [(Nn, PySem.W.listOf [Value.ref q0, .ref q1, .ref q2, .ref q3].toArray eN), (q3, instObj 203 x3), (x3, PySem.W.dictOf (qEs (Str.ofString "{" ++ Str.ofString "b" ++ Str.ofString "}" ++ Str.ofString "x") h3 k3a k3b) 1), (q2, instObj 203 x2), (x2, PySem.W.dictOf (qEs (Str.ofString "{" ++ Str.ofString "c" ++ Str.ofString "}" ++ Str.ofString "y") h2 k2a k2b) 1), (q1, instObj 203 x1), (x1, PySem.W.dictOf (qEs (Str.ofString "{" ++ Str.ofString "c" ++ Str.ofString "}" ++ Str.ofString "x") h1 k1a k1b) 1), (q0, instObj 203 x0), (x0, PySem.W.dictOf (qEs (Str.ofString "{" ++ Str.ofString "a" ++ Str.ofString "}" ++ Str.ofString "x") h0 k0a k0b) 1), (H, tup [.ref 221, .ref 228, .ref 235, .ref 242, .ref 249] nH), (tg, tup [.str g.txt j0, .ref rg, .int (iv g.bits) j1, .int (iv g.pol.1) j2, .int (iv g.pol.2) j3] ng), (rg, PySem.W.listOf (List.toArray vg) eg), (tf, tup [.str f.txt i0, .ref rf, .int (iv f.bits) i1, .int (iv f.pol.1) i2, .int (iv f.pol.2) i3] nf), (rf, PySem.W.listOf (List.toArray vf) ef), (Cc, PySem.W.listOf [Value.int a0 t0, .int a1 t1, .int a2 t2, .int a3 t3, .int a4 t4, .int a5 t5, .int a6 t6, .int a7 t7].toArray eC)]) (m0 : m (Str.ofString "cells") = some (.ref Cc)) (m1 : m (Str.ofString "hands") = some (.ref H)) (m2 : m (Str.ofString "names") = some (.ref Nn)) (m3 : m (Str.ofString "rows") = some (.ref R)) : P2 f g h₀ L h m :=
  have sb := (sub_all_cons z0 (sub_all_cons z1 (sub_all_cons z2 (sub_all_cons z3 (sub_all_cons z4 (sub_all_cons z5 (sub_all_cons z6 (sub_all_cons z7 (sub_all_cons z8 (sub_all_cons z9 (sub_all_cons z10 (sub_all_cons z11 (sub_all_cons z12 (sub_all_cons z13 (sub_all_cons z14 (sub_all_cons z15 (sub_all_cons z16 (sub_all_cons z17 (sub_all_cons z18 (sub_all_cons z19 (sub_all_cons z20 (sub_all_cons z21 (sub_all_cons z22 (sub_all_cons z23 sub_all_nil))))))))))))))))))))))))
  ⟨R, Nn, q0, q1, q2, q3, x0, x1, x2, x3, H, tf, rf, tg, rg, Cc, o1, o2, o3, o4, o5, o6, o7, o8, o9, vf, vg, h0, h1, h2, h3, k0a, k0b, k1a, k1b, k2a, k2b, k3a, k3b, i0, i1, i2, i3, j0, j1, j2, j3, a0, a1, a2, a3, a4, a5, a6, a7, t0, t1, t2, t3, t4, t5, t6, t7, c3, c4, c5, c6, c7, c8, c9, eN, nH, ng, eg, nf, ef, eC, eR, p0, p1, p2, p3, p4, p5, p6, p7, p8, p9, p10, p11, p12, p13, p14, p15, p16, p17, p18, hgt, (fun p hp => ktn_ltOf hlt p hp), m0, m1, m2, m3, News.sub N (sub_all_cons (.head _) fun p hp => .tail _ (sb p hp))⟩
end
section
variable {f g : Fm} {h₀ h : Heap} {L : Addr} {m : Str → Option Value} {nw : List (Addr × Obj)} {R r1 r2 tf rf tg rg : Addr} {o1 o2 o3 o4 o5 o6 o7 o8 o9 : Obj} {v1 v2 vf vg : List Value} {k0 k1 k2 k3 j0 j1 j2 j3 : Tok} {c3 c4 c5 c6 c7 c8 c9 : Option Value} {nf ng e e1 e2 ef eg : Nat}
theorem P3.of (N : News h₀ L h nw) (z0 : (R, PySem.W.listOf [Value.ref r1, .ref r2].toArray e) ∈ nw) (z1 : (r1, PySem.W.listOf (List.toArray v1) e1) ∈ nw) (z2 : (r2, PySem.W.listOf (List.toArray v2) e2) ∈ nw) (z3 : (tf, tup [.str f.txt k0, .ref rf, .int (iv f.bits) k1, .int (iv f.pol.1) k2, .int (iv f.pol.2) k3] nf) ∈ nw) (z4 : (rf, PySem.W.listOf (List.toArray vf) ef) ∈ nw) (z5 : (tg, tup [.str g.txt j0, .ref rg, .int (iv g.bits) j1, .int (iv g.pol.1) j2, .int (iv g.pol.2) j3] ng) ∈ nw) (z6 : (rg, PySem.W.listOf (List.toArray vg) eg) ∈ nw) (z7 : (L + 1 + 1 + 1 + 1 + 1 + 1 + 1 + 1 + 1, o9) ∈ nw) (z8 : (L + 1 + 1 + 1 + 1 + 1 + 1 + 1 + 1, o8) ∈ nw) (z9 : (L + 1 + 1 + 1 + 1 + 1 + 1 + 1, o7) ∈ nw) (z10 : (L + 1 + 1 + 1 + 1 + 1 + 1, o6) ∈ nw) (z11 : (L + 1 + 1 + 1 + 1 + 1, o5) ∈ nw) (z12 : (L + 1 + 1 + 1 + 1, o4) ∈ nw) (z13 : (L + 1 + 1 + 1, o3) ∈ nw) (z14 : (L + 1 + 1, o2) ∈ nw) (z15 : (L + 1, o1) ∈ nw) (p0 : IntsAre v1 (f.row ++ [0])) (p1 : IntsAre v2 (g.row ++ [0])) (p2 : IntsAre vf f.row) (p3 : IntsAre vg g.row) (p4 : o1.data = .cell (some (.ref tf))) (p5 : o2.data = .cell (some (.ref tg))) (p6 : o3.data = .cell c3) (p7 : o4.data = .cell c4) (p8 : o5.data = .cell c5) (p9 : o6.data = .cell c6) (p10 : o7.data = .cell c7) (p11 : o8.data = .cell c8) (p12 : o9.data = .cell c9) (l0 : @LT.lt Nat _ (L + 1 + 1 + 1 + 1 + 1 + 1 + 1 + 1 + 1) R) (l1 : @LT.lt Nat _ (L + 1 + 1 + 1 + 1 + 1 + 1 + 1 + 1 + 1) r1) (l2 : @LT.lt Nat _ (L + 1 + 1 + 1 + 1 + 1 + 1 + 1 + 1 + 1) r2) (l3 : @LT.lt Nat _ (L + 1 + 1 + 1 + 1 + 1 + 1 + 1 + 1 + 1) tf) (l4 : @LT.lt Nat _ (L + 1 + 1 + 1 + 1 + 1 + 1 + 1 + 1 + 1) rf) (l5 : @LT.lt Nat _ (L + 1 + 1 + 1 + 1 + 1 + 1 + 1 + 1 + 1) tg) (l6 : @LT.lt Nat _ (L + 1 + 1 + 1 + 1 + 1 + 1 + 1 + 1 + 1) rg) (hm : m (Str.ofString "rows") = some (.ref R)) : P3 f g h₀ L h m :=
  ⟨R, r1, r2, tf, rf, tg, rg, o1, o2, o3, o4, o5, o6, o7, o8, o9, v1, v2, vf, vg, k0, k1, k2, k3, j0, j1, j2, j3, c3, c4, c5, c6, c7, c8, c9, nf, ng, e, e1, e2, ef, eg, p0, p1, p2, p3, p4, p5, p6, p7, p8, p9, p10, p11, p12, ⟨l0, l1, l2, l3, l4, l5, l6⟩, hm, News.sub N (sub_all_cons z0 (sub_all_cons z1 (sub_all_cons z2 (sub_all_cons z3 (sub_all_cons z4 (sub_all_cons z5 (sub_all_cons z6 (sub_all_cons z7 (sub_all_cons z8 (sub_all_cons z9 (sub_all_cons z10 (sub_all_cons z11 (sub_all_cons z12 (sub_all_cons z13 (sub_all_cons z14 (sub_all_cons z15 sub_all_nil))))))))))))))))⟩
end
theorem all_sub {d : Addr} {a nw : List (Addr × Obj)} (h : ∀ p ∈ nw, p.1 < d) (hs : ∀ p ∈ a, p ∈ nw) : ∀ p ∈ a, p.1 < d := fun p hp => h p (hs p hp)
theorem news_tl {h₀ h : Heap} {L : Addr} {a : Addr × Obj} {r : List (Addr × Obj)} (N : News h₀ L h (a :: r)) : News h₀ L h r := fun p hp => N p (.tail _ hp)
theorem Fr.named4 {h₀ h : Heap} {L : Addr} {m : Str → Option Value} {x1 x2 x3 x4 : Str} {v1 v2 v3 v4 : Value} (F : Fr h₀ L h m) (e1 : m x1 = some v1) (e2 : m x2 = some v2) (e3 : m x3 = some v3) (e4 : m x4 = some v4) : Fr h₀ L h (fun y => if y = x4 then some v4 else if y = x3 then some v3 else if y = x2 then some v2 else if y = x1 then some v1 else m y) := by
  have e : m = fun y => if y = x4 then some v4 else if y = x3 then some v3 else if y = x2 then some v2 else if y = x1 then some v1 else m y := by
    funext y
    by_cases h4 : y = x4
    · rw [if_pos h4, h4, e4]
    · rw [if_neg h4]
      by_cases h3 : y = x3
      · rw [if_pos h3, h3, e3]
      · rw [if_neg h3]
        by_cases h2 : y = x2
        · rw [if_pos h2, h2, e2]
        · rw [if_neg h2]
          by_cases h1 : y = x1
          · rw [if_pos h1, h1, e1]
          · rw [if_neg h1]
  exact e ▸ F
/-- the first statements: nothing is known of the tokens -/
noncomputable def Piece0 (w : World) (sc : Scope) (xs : List Stmt) (P P' : At) : Prop :=
  ∀ (rest : List Stmt) (mean : ExcName → Option Value) (mg mb : Str → Option Value) (dp un : Nat) (gd : Option (List Code)) (cn : Str) (L a : Addr) (ccd : Value) (outer : List Env) (A₀ : Around) (base h₀ : Heap) (m : Str → Option Value) (s : Shared) (Q : Flow → Shared → Prop) (E : Value → Shared → Prop),
    Below A₀ base outer h₀ → Fr h₀ L s.heap m → (Mine.hd.heap_1_39 w.params).In h₀ → Top Mine.hd.view_1_40 (looseW Mine.hd.view_1_40 [Str.ofString "EXACT_TOKEN_TYPES"]) mean mg mb h₀ → dp + 40 < recursionLimit → un + 600 < cLine →
    PassesOwn (model PySem.Challenge.rw_xn0025_01.row.prog w) (lawA dp un gd cn sc L a ccd outer) (envOfC cn sc L a ccd) E → P h₀ L s.heap m →
    (∀ h' tk' m', Fr h₀ L h' m' → 1 ≤ tk' → P' h₀ L h' m' → wpAny (model PySem.Challenge.rw_xn0025_01.row.prog w) (lawA dp un gd cn sc L a ccd outer) (execs rest (envOfC cn sc L a ccd)) Q E { s with heap := h', toks := tk' }) →
    wpAny (model PySem.Challenge.rw_xn0025_01.row.prog w) (lawA dp un gd cn sc L a ccd outer) (execs (xs ++ rest) (envOfC cn sc L a ccd)) Q E s
noncomputable def Last0 (w : World) (sc : Scope) (xs : List Stmt) (P : At) : Prop :=
  ∀ (mean : ExcName → Option Value) (mg mb : Str → Option Value) (dp un : Nat) (gd : Option (List Code)) (cn : Str) (L a : Addr) (ccd : Value) (outer : List Env) (A₀ : Around) (base h₀ : Heap) (m : Str → Option Value) (s : Shared) (Q : Flow → Shared → Prop) (E : Value → Shared → Prop),
    Below A₀ base outer h₀ → Fr h₀ L s.heap m → (Mine.hd.heap_1_39 w.params).In h₀ → Top Mine.hd.view_1_40 (looseW Mine.hd.view_1_40 [Str.ofString "EXACT_TOKEN_TYPES"]) mean mg mb h₀ → dp + 40 < recursionLimit → un + 600 < cLine →
    PassesOwn (model PySem.Challenge.rw_xn0025_01.row.prog w) (lawA dp un gd cn sc L a ccd outer) (envOfC cn sc L a ccd) E → P h₀ L s.heap m →
    (∀ h' tk' m', Fr h₀ L h' m' → Q (.ret (.bool true)) { s with heap := h', toks := tk' }) →
    wpAny (model PySem.Challenge.rw_xn0025_01.row.prog w) (lawA dp un gd cn sc L a ccd outer) (execs xs (envOfC cn sc L a ccd)) Q E s
theorem Piece0.last {w : World} {sc : Scope} {xs ys : List Stmt} {P P' : At} (h : Piece0 w sc xs P P') (k : Last w sc ys P') : Last0 w sc (xs ++ ys) P := by
  intro mean mg mb dp un gd cn L a ccd outer A₀ base h₀ m s Q E B F X T hd hu hE hP hk
  refine h ys mean mg mb dp un gd cn L a ccd outer A₀ base h₀ m s Q E B F X T hd hu hE hP fun h' tk' m' F' ht' hP' => ?_
  exact k mean mg mb dp un gd cn L a ccd outer A₀ base h₀ m' _ Q E B F' X T hd hu ht' hE hP' fun h'' tk'' m'' F'' => hk h'' tk'' m'' F''
theorem Piece.ex {w : World} {sc : Scope} {xs : List Stmt} {c : Fm → Fm → Prop} {P : Fm → Fm → At} {P' : Fm → Fm → At} (h : ∀ f g, c f g → Piece w sc xs (P f g) (P' f g)) : Piece w sc xs (fun h₀ L h m => ∃ f g, c f g ∧ P f g h₀ L h m) (fun h₀ L h m => ∃ f g, c f g ∧ P' f g h₀ L h m) := by
  intro rest mean mg mb dp un gd cn L a ccd outer A₀ base h₀ m s Q E B F X T hd hu ht hE hP hk
  obtain ⟨f, g, hc, hP⟩ := hP
  exact h f g hc rest mean mg mb dp un gd cn L a ccd outer A₀ base h₀ m s Q E B F X T hd hu ht hE hP fun h' tk' m' F' ht' hP' => hk h' tk' m' F' ht' ⟨f, g, hc, hP'⟩
theorem Last.ex {w : World} {sc : Scope} {xs : List Stmt} {c : Fm → Fm → Prop} {P : Fm → Fm → At} (h : ∀ f g, c f g → Last w sc xs (P f g)) : Last w sc xs (fun h₀ L h m => ∃ f g, c f g ∧ P f g h₀ L h m) := by
  intro mean mg mb dp un gd cn L a ccd outer A₀ base h₀ m s Q E B F X T hd hu ht hE hP hk
  obtain ⟨f, g, hc, hP⟩ := hP
  exact h f g hc mean mg mb dp un gd cn L a ccd outer A₀ base h₀ m s Q E B F X T hd hu ht hE hP hk
inductive P0 (h₀ : Heap) (L : Addr) (h : Heap) (m : Str → Option Value) : Prop where
  | mk (l : Addr) (vs : List Value) (ns : List Int) (o1 o2 o3 o4 o5 o6 o7 o8 o9 : Obj) (x1 x2 x3 x4 x5 x6 x7 x8 x9 : Option Value) (hl : h₀.IsList l vs.toArray) (hi : IntsAre vs ns) (hn : ns.length ≤ 63) (d1 : o1.data = .cell x1) (d2 : o2.data = .cell x2) (d3 : o3.data = .cell x3) (d4 : o4.data = .cell x4) (d5 : o5.data = .cell x5) (d6 : o6.data = .cell x6) (d7 : o7.data = .cell x7) (d8 : o8.data = .cell x8) (d9 : o9.data = .cell x9) (hm : m (Str.ofString "script") = some (.ref l)) (N : News h₀ L h [(L + 1 + 1 + 1 + 1 + 1 + 1 + 1 + 1 + 1, o9), (L + 1 + 1 + 1 + 1 + 1 + 1 + 1 + 1, o8), (L + 1 + 1 + 1 + 1 + 1 + 1 + 1, o7), (L + 1 + 1 + 1 + 1 + 1 + 1, o6), (L + 1 + 1 + 1 + 1 + 1, o5), (L + 1 + 1 + 1 + 1, o4), (L + 1 + 1 + 1, o3), (L + 1 + 1, o2), (L + 1, o1)]) : P0 h₀ L h m
noncomputable def FG (f g : Fm) : Prop := f.leaves = 4 ∧ g.leaves = 4 ∧ f.names NA ∧ g.names NB
theorem piece1 (w : World) (r : DefRec) (hr : IsLaw r) : Piece0 w r.scope ((r.body.drop 0).take 7) P0 (fun h₀ L h m => ∃ f g, FG f g ∧ P2 f g h₀ L h m) := by
  k_with_none
  w_top off
  k_with "mine mem" => (first | (refine' mem_here ?_; ktr_member) | (refine' mem_appR ?_; k_mem) | (refine' mem_appL ?_; k_mem) | fail)
  k_with "mine ltL" => ((repeat (first | with_reducible exact lt_up0 | with_reducible refine lt_up ?_)); done)
  k_with "mine tk2" => (first | with_reducible assumption | with_reducible exact le_one | with_reducible exact Nat.le_refl _ | with_reducible exact Nat.succ_le_of_lt (by with_reducible assumption) | (with_reducible refine le_up ?_; k_extra "mine tk2") | (with_reducible refine le_chain (by with_reducible assumption) ?_; k_extra "mine tk2"))
  k_with "mine tk1" => ((try dsimp only); k_extra "mine tk2")
  k_with "mine size" => (first | (refine' sz_arr ?szA ?szB; (case szA => with_reducible assumption); (case szB => rfl)) | (refine' sz_line ?szA ?szB; (case szA => with_reducible assumption); (case szB => rfl)) | exact Nat.le_of_ble_eq_true rfl | fail)
  k_with "mine room" => ((first | k_dflt refine' rm2 ?rmA ?rmB | k_dflt refine' rm1 ?rmA ?rmB | k_dflt refine' rm0 ?rmA); (case rmA => k_dflt assumption); (try (case rmB => rfl)))
  k_with "mine ne" => (refine neN ?_; (try dsimp only); first | exact ne_all (by with_reducible assumption) (by k_mem) | exact ne_all' (by with_reducible assumption) (by k_mem) | with_reducible assumption | exact Ne.symm (by with_reducible assumption) | exact ne_gt (by k_extra "mine ltL") | exact ne_lt (by k_extra "mine ltL") | exact ne_gt (by with_reducible assumption) | exact ne_lt (by with_reducible assumption) | exact ne_far (by with_reducible assumption) (by k_extra "mine ltL") | exact ne_far' (by with_reducible assumption) (by k_extra "mine ltL") | omega | fail)
  k_with "mine all" => (first | with_reducible assumption | exact all_ne (by with_reducible assumption) (by k_extra "mine sub") | fail)
  k_with "mine free" => (intro yy; intros; repeat (first | with_reducible exact rfl | with_reducible exact forget_off (by with_reducible assumption) | (refine' Eq.trans (if_neg ?fnC) ?_; (case fnC => first | with_reducible assumption | exact ne_free (by with_reducible assumption) (by kernel_rfl))) | exact rfl))
  k_with "evalPairs" => (k_here; dsimp only)
  k_with "Exists" => (k_here; dsimp only)
  k_with "execs cons" => (k_here; refine' nx_start ?_; intro tkz htkz; (try dsimp only at htkz))
  k_with "Nx" => ((try dsimp only); (first | (with_reducible refine' nx_cons0 ?_; intro tkz htkz) | (with_reducible refine' nx_cons ?_; intro tkz htl htkz) | ((first | with_reducible refine' nx_nil0 ?_ | with_reducible refine' nx_ret0 ?_ | with_reducible refine' nx_open0 ?_); (try dsimp only)) | ((first | with_reducible refine' nx_nil ?_ | with_reducible refine' nx_ret ?_ | with_reducible refine' nx_open ?_ | with_reducible refine' nx_brk ?_ | with_reducible refine' nx_cont ?_); intro htl; (try dsimp only at htl); (try dsimp only))))
  k_with "execs nil" => (k_here; (refine wpAny_execs_nil ?_); (try dsimp only))
  k_with "newList" => (k_here; k_dflt (refine' new_lst ?nlF ?nlN ?nlz ?_; (case nlF => k_asm); (case nlN => k_asm); (case nlz => rfl); k_whole); intro d' h' F' N' l1; (try k_sweep))
  k_with "newTuple" => (k_here; k_dflt (refine' new_tup ?nlF ?nlN ?nlz ?_; (case nlF => k_asm); (case nlN => k_asm); (case nlz => rfl); k_whole); intro d' h' F' N' l1; (try k_sweep))
  k_with "mine sub" => ((repeat (first | with_reducible exact sub_nil | with_reducible exact sub_app | with_reducible refine sub_cons ?_ | with_reducible refine sub_app' ?_)); done)
  k_with "mine end2" => ((case F => k_asm); (case N => k_asm); (case S => k_extra "mine sub"); (case P => (refine' lt_sub ?a ?b; (case a => with_reducible assumption); (case b => k_extra "mine sub"))); (case R => (refine' lt_sub ?a ?b; (case a => with_reducible assumption); (case b => k_extra "mine sub"))))
  obtain ⟨nm_, ps_, bd_, sc_, pp_⟩ := r
  have e : (recsOf hd.view_1_40).getLast? = some ⟨?n,?p,?b,?s,?q⟩ := by with_unfolding_all rfl
  unfold IsLaw at hr
  rw [e] at hr
  obtain ⟨rfl, rfl, rfl, rfl, rfl⟩ := DefRec.mk.inj (Option.some.inj hr)
  clear e hr
  simp only [List.drop_zero, List.take_succ_cons, List.take_zero]
  unfold Piece0
  k_fill
  intro rest mean mg mb dp un gd cn L a ccd outer A₀ base h₀ m s Q E B F X T hd hu hE hP hk
  obtain ⟨l, vs, ns, o1, o2, o3, o4, o5, o6, o7, o8, o9, x1, x2, x3, x4, x5, x6, x7, x8, x9, hl, hi63, hn63, d1, d2, d3, d4, d5, d6, d7, d8, d9, hm, N⟩ := hP
  replace F := Fr.named F hm
  simp only [List.cons_append, List.nil_append]
  k_with "TkLe" => (refine' tkle_intro ?_; intro htl; (try dsimp only at htl); (try dsimp only))
  k_with "exec For Tuple Call cons nil" => (k_dflt (refine' wpAny_For ?_ ?hs; (case hs => intro _; rfl)))
  k_with "call type:enumerate cons nil" => (k_dflt (refine' law_for (C := _) ?xh ?xl ?xc ?xv ?xlen ?xF ?xN bd0 ?turnE ?doneE ?xE; (case xh => rfl); (case xF => k_asm); (case xN => exact news_swap (by k_asm)); (case xl => k_mem); (case xc => k_ne); (case xv => assumption); (case xlen => (rw [List.length_take]; omega)); (case xE => passes_own)); (case' doneE => (intro g a0 a1 a2 a3 a4 a5 a6 a7 t0 t1 t2 t3 t4 t5 t6 t7 eC hh tkh b0 b1 b2 b3 b4 b5 b6 b7 hle F1 N1; (try dsimp only at hle); (try dsimp only))); (case' turnE => (intro i n T' t' tn g cs eC hh tkh own wr hi hbd hT hsepC hoff hoffC F1 N1; (try dsimp only))))
  k_with "binaryOp Mod int int" => (refine' mod_any ?xb ?_; (case xb => k_dflt (first | decide | exact (by decide : (0 : Int) < 10 ^ Int.toNat 6))); intro rm tm tkm hr0 hr1; (try rw [show (10 : Int) ^ Int.toNat 6 = 1000000 from rfl] at hr1))
  k_with "getItem ref int" => (k_dflt (refine' get_bd ?xN ?xm hbd hr0 hr1 ?_; (case xN => k_asm); (case xm => k_mem)); intro cn ctn hcn0 hcn1)
  k_with "setItem ref int int" => (k_dflt (refine' set_bd ?xF ?xN hsepC ?xn hbd ?x0 ?x8 ?_; (case xF => k_asm); (case xN => k_asm); (case xn => k_all); (case x0 => assumption); (case x8 => assumption)); intro hsI FsI NsI)
  k_with "TurnT next" => (k_dflt (refine' law_end ?eF ?eN ?eS hoff hoffC ?em' hbd ?e0 ?e1; (case eF => k_asm); (case eN => k_asm); (case eS => k_extra "mine sub"); (case e0 => omega); (case e1 => omega); (case em' => k_extra "mine free")))
  k_with "TurnT" => (dsimp only [TurnT])
  k_with "call ref" => (first | (k_dflt (refine' Ctr.use (qmk_c _ _ _ _ _ _ ?va ?vb) ?yB ?yFr ?yX ?yN ?yT ?yk ?yd ?yu ?_; (case va => decide +kernel); (case vb => decide +kernel); (case yB => k_asm); (case yFr => k_asm); (case yX => k_asm); (case yN => k_asm); (case yT => k_asm); (case yk => rfl); (case yd => ktr_room); (case yu => ktr_units)); (intro r tl h' tkr F' N' ord post; k_dflt (obtain ⟨xq, dq, hq, kq1, kq2, rfl, hlq, rfl⟩ := post); (try dsimp only); (try simp only [List.cons_append, List.nil_append] at N'); (have lo1 := ord_hd ord); (have lo2 := ord_hd (ord_tl ord)); (try k_lt lo1); (try k_lt lo2))) | (k_dflt (refine' Ctr.use (form1_c _ _ _ _ _ _ _ _ _ _ _ _ _ _ _ _ _ _ _ _ _ _ _ _ _ _ _ ?vc ?vo b0 b1 b2 ?vs) ?yB ?yFr ?yX ?yN ?yT ?yk ?yd ?yu ?_; (case yB => k_asm); (case yFr => k_asm); (case yX => k_asm); (case yN => k_asm); (case yT => k_asm); (case yk => rfl); (case yd => ktr_room); (case yu => ktr_units); (case vc => k_mem); (case vo => k_mem); (case vs => k_mem)); (intro r tl h' tkr F' N' ord post; k_dflt (obtain ⟨f, hfl1, hfn1, tf1, rf1, kf0, kf1, kf2, kf3, vf1, nf, ef, rfl, hfv1, rfl⟩ := post); (try dsimp only); (try simp only [List.cons_append, List.nil_append] at N'); (have lo1 := ord_hd ord); (have lo2 := ord_hd (ord_tl ord)); (try k_lt lo1); (try k_lt lo2))) | (k_dflt (refine' Ctr.use (form2_c _ _ _ _ _ _ _ _ _ _ _ _ _ _ _ _ _ _ _ _ _ _ _ _ _ _ _ ?vc ?vo b4 b5 b6 ?vs) ?yB ?yFr ?yX ?yN ?yT ?yk ?yd ?yu ?_; (case yB => k_asm); (case yFr => k_asm); (case yX => k_asm); (case yN => k_asm); (case yT => k_asm); (case yk => rfl); (case yd => ktr_room); (case yu => ktr_units); (case vc => k_mem); (case vo => k_mem); (case vs => k_mem)); (intro r tl h' tkr F' N' ord post; k_dflt (obtain ⟨gg, hfl2, hfn2, tf2, rf2, kf0, kf1, kf2, kf3, vf2, nf, ef, rfl, hfv2, rfl⟩ := post); (try dsimp only); (try simp only [List.cons_append, List.nil_append] at N'); (have lo1 := ord_hd ord); (have lo2 := ord_hd (ord_tl ord)); (try k_lt lo1); (try k_lt lo2))))
  k_steps
  all_goals (rename Fr _ _ _ _ => kF9; rename News _ _ _ _ => kN9; k_dflt (refine' hk _ _ _ kF9 ?zt ⟨f, gg, ⟨hfl1, hfl2, hfn1, hfn2⟩, P2.of ?zl kN9 ?w0 ?w1 ?w2 ?w3 ?w4 ?w5 ?w6 ?w7 ?w8 ?w9 ?w10 ?w11 ?w12 ?w13 ?w14 ?w15 ?w16 ?w17 ?w18 ?w19 ?w20 ?w21 ?w22 ?w23 hfv1 hfv2 b0 b1 b2 b3 b4 b5 b6 b7 ?d1 ?d2 ?d3 ?d4 ?d5 ?d6 ?d7 ?d8 ?d9 ?zg ?n0 ?n1 ?n2 ?n3⟩; (case n0 => rfl); (case n1 => rfl); (case n2 => rfl); (case n3 => rfl); (case w0 => k_mem); (case w1 => k_mem); (case w2 => k_mem); (case w3 => k_mem); (case w4 => k_mem); (case w5 => k_mem); (case w6 => k_mem); (case w7 => k_mem); (case w8 => k_mem); (case w9 => k_mem); (case w10 => k_mem); (case w11 => k_mem); (case w12 => k_mem); (case w13 => k_mem); (case w14 => k_mem); (case w15 => k_mem); (case w16 => k_mem); (case w17 => k_mem); (case w18 => k_mem); (case w19 => k_mem); (case w20 => k_mem); (case w21 => k_mem); (case w22 => k_mem); (case w23 => k_mem); (case d1 => with_reducible assumption); (case d2 => with_reducible assumption); (case d3 => with_reducible assumption); (case d4 => with_reducible assumption); (case d5 => with_reducible assumption); (case d6 => with_reducible assumption); (case d7 => with_reducible assumption); (case d8 => with_reducible assumption); (case d9 => with_reducible assumption); (case zl => (refine allLt_of (all_sub (by with_reducible assumption) ?_); repeat' (first | exact sub_all_nil | refine sub_all_cons (by k_mem) ?_))); (case zg => (repeat' (first | exact trivial | refine And.intro (lt_all (by with_reducible assumption) (by k_mem)) ?_))); (case zt => k_extra "mine tk1")))
theorem piece2 (w : World) (r : DefRec) (hr : IsLaw r) (f g : Fm) (hf : f.leaves = 4) (hg : g.leaves = 4) (hnf : f.names NA) (hng : g.names NB) : Piece w r.scope ((r.body.drop 7).take 1) (P2 f g) (P3 f g) := by
  k_with_none
  w_top off
  k_with "mine mem" => (first | (refine' mem_here ?_; ktr_member) | (refine' mem_appR ?_; k_mem) | (refine' mem_appL ?_; k_mem) | fail)
  k_with "mine ltL" => ((repeat (first | with_reducible exact lt_up0 | with_reducible refine lt_up ?_)); done)
  k_with "mine tk2" => (first | with_reducible assumption | with_reducible exact le_one | with_reducible exact Nat.le_refl _ | with_reducible exact Nat.succ_le_of_lt (by with_reducible assumption) | (with_reducible refine le_up ?_; k_extra "mine tk2") | (with_reducible refine le_chain (by with_reducible assumption) ?_; k_extra "mine tk2"))
  k_with "mine tk1" => ((try dsimp only); k_extra "mine tk2")
  k_with "mine size" => (first | (refine' sz_arr ?szA ?szB; (case szA => with_reducible assumption); (case szB => rfl)) | (refine' sz_line ?szA ?szB; (case szA => with_reducible assumption); (case szB => rfl)) | exact Nat.le_of_ble_eq_true rfl | fail)
  k_with "mine room" => ((first | k_dflt refine' rm2 ?rmA ?rmB | k_dflt refine' rm1 ?rmA ?rmB | k_dflt refine' rm0 ?rmA); (case rmA => k_dflt assumption); (try (case rmB => rfl)))
  k_with "mine ne" => (refine neN ?_; (try dsimp only); first | exact ne_all (by with_reducible assumption) (by k_mem) | exact ne_all' (by with_reducible assumption) (by k_mem) | with_reducible assumption | exact Ne.symm (by with_reducible assumption) | exact ne_gt (by k_extra "mine ltL") | exact ne_lt (by k_extra "mine ltL") | exact ne_gt (by with_reducible assumption) | exact ne_lt (by with_reducible assumption) | exact ne_far (by with_reducible assumption) (by k_extra "mine ltL") | exact ne_far' (by with_reducible assumption) (by k_extra "mine ltL") | omega | fail)
  k_with "mine all" => (first | with_reducible assumption | exact all_ne (by with_reducible assumption) (by k_extra "mine sub") | fail)
  k_with "mine free" => (intro yy; intros; repeat (first | with_reducible exact rfl | with_reducible exact forget_off (by with_reducible assumption) | (refine' Eq.trans (if_neg ?fnC) ?_; (case fnC => first | with_reducible assumption | exact ne_free (by with_reducible assumption) (by kernel_rfl))) | exact rfl))
  k_with "evalPairs" => (k_here; dsimp only)
  k_with "Exists" => (k_here; dsimp only)
  k_with "execs cons" => (k_here; refine' nx_start ?_; intro tkz htkz; (try dsimp only at htkz))
  k_with "Nx" => ((try dsimp only); (first | (with_reducible refine' nx_cons0 ?_; intro tkz htkz) | (with_reducible refine' nx_cons ?_; intro tkz htl htkz) | ((first | with_reducible refine' nx_nil0 ?_ | with_reducible refine' nx_ret0 ?_ | with_reducible refine' nx_open0 ?_); (try dsimp only)) | ((first | with_reducible refine' nx_nil ?_ | with_reducible refine' nx_ret ?_ | with_reducible refine' nx_open ?_ | with_reducible refine' nx_brk ?_ | with_reducible refine' nx_cont ?_); intro htl; (try dsimp only at htl); (try dsimp only))))
  k_with "execs nil" => (k_here; (refine wpAny_execs_nil ?_); (try dsimp only))
  k_with "newList" => (k_here; k_dflt (refine' new_lst ?nlF ?nlN ?nlz ?_; (case nlF => k_asm); (case nlN => k_asm); (case nlz => rfl); k_whole); intro d' h' F' N' l1; (try k_sweep))
  k_with "newTuple" => (k_here; k_dflt (refine' new_tup ?nlF ?nlN ?nlz ?_; (case nlF => k_asm); (case nlN => k_asm); (case nlz => rfl); k_whole); intro d' h' F' N' l1; (try k_sweep))
  k_with "mine sub" => ((repeat (first | with_reducible exact sub_nil | with_reducible exact sub_app | with_reducible refine sub_cons ?_ | with_reducible refine sub_app' ?_)); done)
  k_with "mine end2" => ((case F => k_asm); (case N => k_asm); (case S => k_extra "mine sub"); (case P => (refine' lt_sub ?a ?b; (case a => with_reducible assumption); (case b => k_extra "mine sub"))); (case R => (refine' lt_sub ?a ?b; (case a => with_reducible assumption); (case b => k_extra "mine sub"))))
  obtain ⟨nm_, ps_, bd_, sc_, pp_⟩ := r
  have e : (recsOf hd.view_1_40).getLast? = some ⟨?n,?p,?b,?s,?q⟩ := by with_unfolding_all rfl
  unfold IsLaw at hr
  rw [e] at hr
  obtain ⟨rfl, rfl, rfl, rfl, rfl⟩ := DefRec.mk.inj (Option.some.inj hr)
  clear e hr
  simp only [List.drop_succ_cons, List.drop_zero, List.take_succ_cons, List.take_zero]
  unfold Piece
  k_fill
  intro rest mean mg mb dp un gd cn L a ccd outer A₀ base h₀ m s Q E B F X T hd hu ht hE hP hk
  obtain ⟨R, Nn, q0, q1, q2, q3, x0, x1, x2, x3, H, tf, rf, tg, rg, Cc, o1, o2, o3, o4, o5, o6, o7, o8, o9, vf, vg, h0, h1, h2, h3, k0a, k0b, k1a, k1b, k2a, k2b, k3a, k3b, i0, i1, i2, i3, j0, j1, j2, j3, a0, a1, a2, a3, a4, a5, a6, a7, t0, t1, t2, t3, t4, t5, t6, t7, c3, c4, c5, c6, c7, c8, c9, eN, nH, ng, eg, nf, ef, eC, eR, p0, p1, p2, p3, p4, p5, p6, p7, p8, p9, p10, p11, p12, p13, p14, p15, p16, p17, p18, hgt, hlt, m0, m1, m2, m3, N⟩ := hP
  simp only [AllGt, and_true] at hgt
  obtain ⟨_, _, _, _, _, _, _, _, _, _, _, _, _, _, _⟩ := hgt
  replace F := Fr.named4 F m0 m1 m2 m3
  clear m0 m1 m2 m3
  simp only [List.cons_append, List.nil_append]
  k_with "TkLe" => (refine' tkle_intro ?_; intro htl; (try dsimp only at htl); (try dsimp only))
  k_with "binaryOp Mod int int" => (refine' mod_any ?xb ?_; (case xb => k_dflt (first | decide | exact (by decide : (0 : Int) < 10 ^ Int.toNat 6))); intro rm tm tkm hr0 hr1; (try rw [show (10 : Int) ^ Int.toNat 6 = 1000000 from rfl] at hr1))
  k_with "subscriptTail Name Name ref int" => (k_dflt (refine' hand_at ?xN ?xm ?x0 ?x5 ?_ ?xs; (case xN => k_asm); (case xm => k_mem); (case x0 => assumption); (case x5 => assumption); (case xs => with_unfolding_all rfl)))
  k_with "eval IfExp Compare Constant Constant" => (k_dflt (refine' ifx_str ?iF ?ix ?_ ?_; (case iF => k_asm); (case ix => rfl)))
  k_with "StrJ str" => (k_dflt (first | exact strJ_t (by assumption) | exact strJ_f (by assumption)))
  k_with "∀" => (intro tX tkX leX; (try dsimp only at leX); (try dsimp only))
  k_with "KdnMade" => (k_dflt (refine' kdn_made_strF ?kmF ?kmN ?kmU ?kmd ?kmk ?kmn ?kmv ?_; (case kmF => k_asm); (case kmN => k_asm); (case kmU => k_updF); (case kmd => k_asm); (case kmk => rfl); (case kmn => exact of_decide_eq_true (by first | rfl | kernel_rfl!)); (case kmv => rfl); intro hMd oMd FMd NMd hmd hmf); (try dsimp only at NMd))
  k_with "eval ListComp" => (k_dflt (refine' ListComp_SA (F₀ := by k_asm) (by with_unfolding_all rfl) (by decide) (by rfl) (by decide) (by rfl) ?_ ?ls; (case ls => intro _; rfl)))
  k_with "SrcStr" => (k_dflt (refine' src_tab ?sT ?sh ?sF ?sN ?ss ?_ ?_; (case sT => exact TabAt.ofNews (o := oMd) (by with_reducible assumption) (by k_mem) (by with_reducible assumption) hmd hmf); (case sh => rfl); (case sF => k_asm); (case sN => k_asm); (case ss => first | exact Nat.le_trans (fm_len hf) (by decide) | exact Nat.le_trans (fm_len hg) (by decide))))
  k_with "TurnS" => (k_dflt (refine' TurnS.of ?tF ?tN ?tS; (case tF => k_asm); (case tN => k_asm); (case tS => k_extra "mine sub")))
  k_with "call builtin:dict.get" => (k_dflt (refine' get_tab ?sT ?_; (case sT => exact TabAt.ofNews (o := oMd) (by with_reducible assumption) (by k_mem) (by with_reducible assumption) hmd hmf)); intro tgt)
  k_with "call builtin:str.join" => (k_dflt (refine' join_page ?j0 ?j5 ?jl ?jN ?jm ?jv ?_; (case jN => with_reducible assumption); (case jm => k_mem); (case jv => with_reducible assumption); (case j0 => with_reducible assumption); (case j5 => with_reducible assumption); (case jl => first | exact fm_len hf | exact fm_len hg)); intro tjn tkjn; have NJx := news_tl Nj; clear Nj oj)
  k_with "compareOp NotEq str str" => (k_dflt (refine' ne_self ?_))
  k_with "FinW" => (refine' FinW.of ?_; intro Dj hj tkj vj ej hvj Fj Nj oj; (simp only [LCg.Off1] at oj); (try dsimp only))
  k_with "callWith ref nil nil" => (k_dflt (refine' callWith_K ?k1 (keep_hand _ _) ?_; (case k1 => k_asm); k_whole))
  k_with "TurnT" => (dsimp only [TurnT])
  k_with "call ref" => (first | (have := hvr1; first | (k_dflt (refine' CtrT.useT_x (bare_f _ _ _ g _ hg (names2 hng)) ?yB ?yFr ?yX ?yN ?yT ?yk ?yd ?yu ?yt ?_; (case yB => k_asm); (case yFr => k_asm); (case yX => k_asm); (case yN => k_asm); (case yT => k_asm); (case yk => rfl); (case yd => ktr_room); (case yu => ktr_units); (case yt => k_extra "mine tk1")); (intro tpb h' tkr F' N' hone; (try dsimp only))) | (k_dflt (refine' CtrT.useT (row_f _ _ g _ _ hg (names2 hng) ?vN) ?yB ?yFr ?yX ?yN ?yT ?yk ?yd ?yu ?yt ?_; (case yB => k_asm); (case yFr => k_asm); (case yX => k_asm); (case yN => k_asm); (case yT => k_asm); (case yk => rfl); (case yd => ktr_room); (case yu => ktr_units); (case yt => k_extra "mine tk1"); (case vN => exact names_at (by k_mem) (by k_mem) (by k_mem) (by k_mem) (by k_mem) (by k_mem) (by k_mem) (by k_mem) (by k_mem))); (intro r tl h' tkr F' N' ord post hone; k_dflt (obtain ⟨dr2, vr2, er2, rfl, rfl, hvr2⟩ := post); (try dsimp only); (try simp only [List.cons_append, List.nil_append] at N'); (have lo1 := ord_hd ord); (try k_lt lo1))) | (k_dflt (refine' CtrT.useT_x (esc_x _ _ _ (Fm.txt g) _ (fm_len hg) (fm_quiet g)) ?yB ?yFr ?yX ?yN ?yT ?yk ?yd ?yu ?yt ?_; (case yB => k_asm); (case yFr => k_asm); (case yX => k_asm); (case yN => k_asm); (case yT => k_asm); (case yk => rfl); (case yd => ktr_room); (case yu => ktr_units); (case yt => k_extra "mine tk1")); (intro tpg h' tkr F' N' hone; (try dsimp only)))) | (k_dflt (refine' CtrT.useT_x (bare_f _ _ _ f _ hf (names1 hnf)) ?yB ?yFr ?yX ?yN ?yT ?yk ?yd ?yu ?yt ?_; (case yB => k_asm); (case yFr => k_asm); (case yX => k_asm); (case yN => k_asm); (case yT => k_asm); (case yk => rfl); (case yd => ktr_room); (case yu => ktr_units); (case yt => k_extra "mine tk1")); (intro tpb h' tkr F' N' hone; (try dsimp only))) | (k_dflt (refine' CtrT.useT (row_f _ _ f _ _ hf (names1 hnf) ?vN) ?yB ?yFr ?yX ?yN ?yT ?yk ?yd ?yu ?yt ?_; (case yB => k_asm); (case yFr => k_asm); (case yX => k_asm); (case yN => k_asm); (case yT => k_asm); (case yk => rfl); (case yd => ktr_room); (case yu => ktr_units); (case yt => k_extra "mine tk1"); (case vN => exact names_at (by k_mem) (by k_mem) (by k_mem) (by k_mem) (by k_mem) (by k_mem) (by k_mem) (by k_mem) (by k_mem))); (intro r tl h' tkr F' N' ord post hone; k_dflt (obtain ⟨dr1, vr1, er1, rfl, rfl, hvr1⟩ := post); (try dsimp only); (try simp only [List.cons_append, List.nil_append] at N'); (have lo1 := ord_hd ord); (try k_lt lo1))) | (k_dflt (refine' CtrT.useT_x (esc_x _ _ _ (Fm.txt f) _ (fm_len hf) (fm_quiet f)) ?yB ?yFr ?yX ?yN ?yT ?yk ?yd ?yu ?yt ?_; (case yB => k_asm); (case yFr => k_asm); (case yX => k_asm); (case yN => k_asm); (case yT => k_asm); (case yk => rfl); (case yd => ktr_room); (case yu => ktr_units); (case yt => k_extra "mine tk1")); (intro tpg h' tkr F' N' hone; (try dsimp only))))
  k_steps
  all_goals (rename Fr _ _ _ _ => kF9; rename News _ _ _ _ => kN9; k_dflt (refine' hk _ _ _ kF9 ?zt (P3.of kN9 ?w0 ?w1 ?w2 ?w3 ?w4 ?w5 ?w6 ?w7 ?w8 ?w9 ?w10 ?w11 ?w12 ?w13 ?w14 ?w15 hvr1 hvr2 p0 p1 ?d1 ?d2 ?d3 ?d4 ?d5 ?d6 ?d7 ?d8 ?d9 ?l0 ?l1 ?l2 ?l3 ?l4 ?l5 ?l6 ?zm); (case zm => rfl); (case w0 => k_mem); (case w1 => k_mem); (case w2 => k_mem); (case w3 => k_mem); (case w4 => k_mem); (case w5 => k_mem); (case w6 => k_mem); (case w7 => k_mem); (case w8 => k_mem); (case w9 => k_mem); (case w10 => k_mem); (case w11 => k_mem); (case w12 => k_mem); (case w13 => k_mem); (case w14 => k_mem); (case w15 => k_mem); (case d1 => with_reducible assumption); (case d2 => with_reducible assumption); (case d3 => with_reducible assumption); (case d4 => with_reducible assumption); (case d5 => with_reducible assumption); (case d6 => with_reducible assumption); (case d7 => with_reducible assumption); (case d8 => with_reducible assumption); (case d9 => with_reducible assumption); (case l0 => first | with_reducible assumption | exact lt_all (by with_reducible assumption) (by k_mem) | omega); (case l1 => first | with_reducible assumption | exact lt_all (by with_reducible assumption) (by k_mem) | omega); (case l2 => first | with_reducible assumption | exact lt_all (by with_reducible assumption) (by k_mem) | omega); (case l3 => first | with_reducible assumption | exact lt_all (by with_reducible assumption) (by k_mem) | omega); (case l4 => first | with_reducible assumption | exact lt_all (by with_reducible assumption) (by k_mem) | omega); (case l5 => first | with_reducible assumption | exact lt_all (by with_reducible assumption) (by k_mem) | omega); (case l6 => first | with_reducible assumption | exact lt_all (by with_reducible assumption) (by k_mem) | omega); (case zt => k_extra "mine tk1")))
section
variable {prog : Program} {w : World} {A : Around} {s : Shared} {env : Env} {h₀ : Heap} {body orelse : List Stmt}
theorem for_tup2 {E : Value → Shared → Prop} {Q : Flow → Shared → Prop} {target : PySem.Expr} {l : Addr} {vs : List Value} {e : Nat} {m₀ : Str → Option Value} {news : List (Addr × Obj)} (J : Nat → Nat → (Str → Option Value) → List (Addr × Obj) → Prop)
    (hh : A.handled = none) (hl : (l, tup vs e) ∈ news) (F : Fr h₀ env.locals s.heap m₀) (N : News h₀ env.locals s.heap news) (h0 : J 0 s.toks m₀ news)
    (turn : ∀ i v m₁ nw₁ h tk₀ tk own wr, vs[i]? = some v → s.toks ≤ tk₀ → tk₀ ≤ tk → J i tk₀ m₁ nw₁ → (∀ p ∈ own, ∀ q ∈ news, q.1 ≠ l → p.1 ≠ q.1) → (∀ p ∈ nw₁, p.1 ∉ wr) → Fr h₀ env.locals h m₁ → News h₀ env.locals h (own ++ nw₁) →
      wpAny (model prog w) A (assign target env v) (fun _ s₂ => TkLe tk s₂ (wpAny (model prog w) A (execs body env) (TurnT h₀ env.locals s wr own (J (i + 1)) Q) E s₂)) E { s with heap := h, toks := tk })
    (done : ∀ h tk₀ tk m₁ nw₁, Fr h₀ env.locals h m₁ → News h₀ env.locals h nw₁ → s.toks ≤ tk₀ → tk₀ ≤ tk → J vs.length tk₀ m₁ nw₁ → wpAny (model prog w) A (execs orelse env) Q E { s with heap := h, toks := tk })
    (hE : PassesOwn (model prog w) A env E := by passes_own) :
    wpAny (model prog w) A (pyIter (.ref l)) (fun it s₂ => codeAny (model prog w) A (.forLoop target it body orelse env) (fun r s' => match r with | .ok f => Q f s' | .error e => cameBackBy (model prog w) A env E e s') s₂) E s := by
  have hax := N _ hl
  have hlist : s.heap.IsTuple l vs.toArray := News.isTup N hl
  have hlt : l < s.heap.objs.size := Heap.lt_size hax.1
  have hne : l ≠ s.heap.objs.size := Nat.ne_of_lt hlt
  have hLs : env.locals < s.heap.objs.size := F.ns.lt
  refine wpAny_pyIter_tuple hlist ?_
  have W := KTurns.ofWalks (target := target) (Walks.tuple (prog := prog) (w := w) hh s.heap.objs.size l hne vs.toArray) fun i v s Q E st q => letGo_tupleiter st.1 q
  have hnew : ∀ p ∈ news, p.1 ∉ [s.heap.objs.size] := fun p hp hw => absurd (Heap.lt_size (N p hp).1) (by rw [List.mem_singleton.mp hw]; exact Nat.lt_irrefl _)
  refine loopT2 (s := { s with heap := _ }) (R := fun r s' => match r with | .ok f => Q f s' | .error e => cameBackBy (model prog w) A env E e s') J W ?_ ?_ hnew ⟨⟨_, Heap.get?_push_size _ rfl, rfl, rfl⟩, hlist.at fun o e => Heap.get?_push_of_some _ e⟩ (F.push _) (fun p hp => ⟨Heap.get?_push_of_some _ (N p hp).1, (N p hp).2⟩) h0 ?_ ?_
  · intro hw
    rcases List.mem_cons.mp hw with e | hw
    · exact Nat.ne_of_lt hLs e
    · exact hax.2.1 (List.mem_singleton.mp hw).symm
  · intro b hb
    rw [List.mem_singleton.mp hb]
    exact next_is_new F
  · rintro i v m₁ nw₁ h₁ tk₀ tk₁ own hi hx le0 le1 hJ hnw hown - - F₁ N₁
    have hsep : ∀ p ∈ own, ∀ q ∈ news, q.1 ≠ l → p.1 ≠ q.1 := fun p hp q hq hne' he => by
      rcases List.mem_cons.mp (hown p hp) with e | e
      · have := Heap.lt_size (N q hq).1
        rw [← he, e] at this
        exact Nat.lt_irrefl _ this
      · exact hne' (by rw [← he]; exact List.mem_singleton.mp e)
    refine wpAny_mono (turn i v m₁ nw₁ h₁ tk₀ tk₁ own _ (by simpa using hx) le0 le1 hJ hsep hnw F₁ N₁) (fun _ s₂ h₃ => ?_) hE
    exact tkle_intro fun q => wpAny_mono (h₃ q) (fun f s₃ h₄ => by cases f <;> exact h₄) hE
  · intro h tk₀ tk m₁ nw₁ F₁ N₁ le0 le1 hJ
    exact wpAny_passesOwn hE (done h tk₀ tk m₁ nw₁ F₁ N₁ le0 le1 (by simpa using hJ))
end
noncomputable def uOf (i : Nat) : BitVec 16 := if i = 1 then 65535#16 else 0#16
noncomputable def lI (u : BitVec 16) (c : List (BitVec 16)) : Nat → List (BitVec 16)
  | 0 => c
  | 1 => growBV c (cellBV u 0#16)
  | _ => growBV (growBV c (cellBV u 0#16)) (cellBV u 65535#16)
noncomputable def lO : Nat → List (BitVec 16)
  | 0 => [0#16]
  | 1 => lI 0#16 [0#16] 2
  | _ => lI 65535#16 (lI 0#16 [0#16] 2) 2
theorem lO_two : lO 2 = claimsBV := rfl
theorem lO_succ : ∀ {i : Nat}, i < 2 → lO (i + 1) = lI (uOf i) (lO i) 2
  | 0, _ => rfl
  | 1, _ => rfl
theorem lI_succ (u : BitVec 16) (c : List (BitVec 16)) : ∀ {j : Nat}, j < 2 → lI u c (j + 1) = growBV (lI u c j) (cellBV u (uOf j))
  | 0, _ => rfl
  | 1, _ => rfl
theorem grow_len (l : List (BitVec 16)) (c : BitVec 16) : (growBV l c).length = 2 * l.length := by unfold growBV; rw [List.length_append, List.length_map]; omega
theorem lO_len : ∀ {i : Nat}, (lO i).length ≤ 16
  | 0 => by decide
  | 1 => by decide +kernel
  | n + 2 => by show (lI 65535#16 (lI 0#16 [0#16] 2) 2).length ≤ 16; decide +kernel
theorem lI_len {u : BitVec 16} {c : List (BitVec 16)} (h : c.length ≤ 16) : ∀ {i : Nat}, (lI u c i).length ≤ 64
  | 0 => by show c.length ≤ 64; omega
  | 1 => by show (growBV _ _).length ≤ 64; rw [grow_len]; omega
  | n + 2 => by show (growBV (growBV _ _) _).length ≤ 64; rw [grow_len, grow_len]; omega
theorem grow_pos {l : List (BitVec 16)} {c : BitVec 16} (h : 0 < l.length) : 0 < (growBV l c).length := by rw [grow_len]; omega
theorem lI_pos' {u : BitVec 16} {c : List (BitVec 16)} (h : 0 < c.length) : ∀ {j : Nat}, 0 < (lI u c j).length
  | 0 => h
  | 1 => grow_pos h
  | _ + 2 => grow_pos (grow_pos h)
theorem lO_pos : ∀ {i : Nat}, 0 < (lO i).length
  | 0 => by decide
  | 1 => lI_pos' (u := 0#16) (c := [0#16]) (j := 2) (by decide)
  | _ + 2 => lI_pos' (u := 65535#16) (c := lI 0#16 [0#16] 2) (j := 2) (lI_pos' (u := 0#16) (c := [0#16]) (j := 2) (by decide))
theorem lI_pos {u : BitVec 16} {i j : Nat} : 0 < (lI u (lO i) j).length := lI_pos' lO_pos
theorem ivs_grow (l : List (BitVec 16)) (c : BitVec 16) : ivs (growBV l c) = ivs l ++ (ivs l).map fun n => Builtin.bitOr n (iv c) := by
  unfold growBV ivs
  rw [List.map_append, List.map_map, List.map_map]
  congr 1
  exact List.map_congr_left fun x _ => (iv_or x c).symm
theorem ivs_len (l : List (BitVec 16)) : (ivs l).length = l.length := List.length_map ..
theorem two_ints {t0 t1 : Tok} {i : Nat} {v : Value} (h : [Value.int 0 t0, .int 65535 t1][i]? = some v) : i < 2 ∧ ∃ t, v = .int (iv (uOf i)) t := by
  match i, h with
  | 0, h => cases h; exact ⟨by decide, _, rfl⟩
  | 1, h => cases h; exact ⟨by decide, _, rfl⟩
noncomputable def ClmJ (free : List Str) (m0 : Str → Option Value) (C c9 : Addr) (news : List (Addr × Obj)) (l : Nat → List (BitVec 16)) (i _tk : Nat) (m : Str → Option Value) (nw : List (Addr × Obj)) : Prop :=
  (∃ g, m = forget free g m0) ∧ ∃ vs e o x, nw = (C, PySem.W.listOf (List.toArray vs) e) :: (c9, o) :: news ∧ IntsAre vs (ivs (l i)) ∧ o.data = .cell x
section
variable {prog : Program} {w : World} {A : Around} {s : Shared} {env : Env} {h₀ : Heap} {E : Value → Shared → Prop} {Q : Flow → Shared → Prop} {m0 : Str → Option Value} {C c9 t : Addr} {news : List (Addr × Obj)}
theorem clm_for (free : List Str) (l : Nat → List (BitVec 16)) {target : PySem.Expr} {body : List Stmt} {vs : List Value} {t0 t1 : Tok} {e et : Nat} {o9 : Obj} {x9 : Option Value}
    (hh : A.handled = none) (hl : (t, tup [.int 0 t0, .int 65535 t1] et) ∈ news) (hC : ∀ p ∈ news, p.1 ≠ C) (h9 : ∀ p ∈ news, p.1 ≠ c9) (F : Fr h₀ env.locals s.heap m0) (N : News h₀ env.locals s.heap ((C, PySem.W.listOf (List.toArray vs) e) :: (c9, o9) :: news)) (hv : IntsAre vs (ivs (l 0))) (d9 : o9.data = .cell x9)
    (turn : ∀ i t g vs e o x h tk own wr, i < 2 → IntsAre vs (ivs (l i)) → o.data = .cell x → (∀ p ∈ own ++ news, p.1 ≠ C) → (∀ p ∈ own ++ news, p.1 ≠ c9) → (∀ p ∈ news, p.1 ∉ wr) → C ∉ wr → c9 ∉ wr → Fr h₀ env.locals h (forget free g m0) → News h₀ env.locals h ((C, PySem.W.listOf (List.toArray vs) e) :: (c9, o) :: (own ++ news)) →
      wpAny (model prog w) A (assign target env (.int (iv (uOf i)) t)) (fun _ s₂ => TkLe tk s₂ (wpAny (model prog w) A (execs body env) (TurnT h₀ env.locals s wr own (ClmJ free m0 C c9 news l (i + 1)) Q) E s₂)) E { s with heap := h, toks := tk })
    (done : ∀ g vs e o x h tk, IntsAre vs (ivs (l 2)) → o.data = .cell x → s.toks ≤ tk → Fr h₀ env.locals h (forget free g m0) → News h₀ env.locals h ((C, PySem.W.listOf (List.toArray vs) e) :: (c9, o) :: news) → Q .next { s with heap := h, toks := tk })
    (hE : PassesOwn (model prog w) A env E := by passes_own) :
    wpAny (model prog w) A (pyIter (.ref t)) (fun it s₂ => codeAny (model prog w) A (.forLoop target it body [] env) (fun r s' => match r with | .ok f => Q f s' | .error e => cameBackBy (model prog w) A env E e s') s₂) E s := by
  refine for_tup2 (ClmJ free m0 C c9 news l) hh (List.mem_cons_of_mem _ (List.mem_cons_of_mem _ hl)) F N ⟨⟨_, forget_self⟩, vs, e, o9, x9, rfl, hv, d9⟩ ?_ ?_ hE
  · rintro i v m₁ nw₁ h tk₀ tk own wr hx - - ⟨⟨g, rfl⟩, vs', e', o', x', rfl, hv', d'⟩ hsep hoff F₁ N₁
    obtain ⟨hi, t', rfl⟩ := two_ints hx
    have tC : C ≠ t := fun q => hC _ hl q.symm
    have t9 : c9 ≠ t := fun q => h9 _ hl q.symm
    refine turn i t' g vs' e' o' x' h tk own wr hi hv' d' (fun p hp => ?_) (fun p hp => ?_) (fun p hp => hoff p (.tail _ (.tail _ hp))) (hoff (C, _) (.head _)) (hoff (c9, _) (.tail _ (.head _))) F₁ (News.sub N₁ fun p hp => ?_)
    · rcases List.mem_append.mp hp with hp | hp
      · exact hsep p hp (C, _) (.head _) tC
      · exact hC p hp
    · rcases List.mem_append.mp hp with hp | hp
      · exact hsep p hp (c9, _) (.tail _ (.head _)) t9
      · exact h9 p hp
    · rcases List.mem_cons.mp hp with rfl | hp
      · exact List.mem_append.mpr (.inr (.head _))
      · rcases List.mem_cons.mp hp with rfl | hp
        · exact List.mem_append.mpr (.inr (.tail _ (.head _)))
        · rcases List.mem_append.mp hp with hp | hp
          · exact List.mem_append.mpr (.inl hp)
          · exact List.mem_append.mpr (.inr (.tail _ (.tail _ hp)))
  · rintro h tk₀ tk m₁ nw₁ F₁ N₁ le0 le1 ⟨⟨g, rfl⟩, vs', e', o', x', rfl, hv', d'⟩
    exact wpAny_execs_nil (done g vs' e' o' x' h tk hv' d' (Nat.le_trans le0 le1) F₁ N₁)
theorem clm_end {free : List Str} {l : Nat → List (BitVec 16)} {L : Addr} {h' : Heap} {wr : List Addr} {own nw : List (Addr × Obj)} {m' : Str → Option Value} {vs : List Value} {e i tk' : Nat} {o : Obj} {x : Option Value}
    (F : Fr h₀ L h' m') (N : News h₀ L h' nw) (hs : ∀ p ∈ own ++ (C, PySem.W.listOf (List.toArray vs) e) :: (c9, o) :: news, p ∈ nw) (hoff : ∀ p ∈ news, p.1 ∉ wr) (hC : C ∉ wr) (h9 : c9 ∉ wr) (hm' : ∀ y, free.contains y = false → m' y = m0 y) (hv : IntsAre vs (ivs (l (i + 1)))) (d : o.data = .cell x) :
    TurnT h₀ L s wr own (ClmJ free m0 C c9 news l (i + 1)) Q .next { s with heap := h', toks := tk' } := by
  refine ⟨h', tk', m', _, rfl, F, fun p hp => N p (hs p hp), ?_, ⟨m', forget_eq hm'⟩, vs, e, o, x, rfl, hv, d⟩
  intro p hp
  rcases List.mem_cons.mp hp with rfl | hp
  · exact hC
  · rcases List.mem_cons.mp hp with rfl | hp
    · exact h9
    · exact hoff p hp
end
theorem perm3 {h₀ h : Heap} {L : Addr} {a b c : Addr × Obj} {r : List (Addr × Obj)} (N : News h₀ L h (a :: b :: c :: r)) : News h₀ L h (b :: c :: a :: r) := fun p hp => N p (by
  simp only [List.mem_cons] at hp ⊢
  rcases hp with h | h | h | h <;> simp [h])
theorem perm6 {h₀ h : Heap} {L : Addr} {a b c d e f : Addr × Obj} {r : List (Addr × Obj)} (N : News h₀ L h (a :: b :: c :: d :: e :: f :: r)) : News h₀ L h (b :: f :: a :: c :: d :: e :: r) := fun p hp => N p (by
  simp only [List.mem_cons] at hp ⊢
  rcases hp with h | h | h | h | h | h | h <;> simp [h])
/-- the sixteen claims are told -/
inductive P5 (f g : Fm) (h₀ : Heap) (L : Addr) (h : Heap) (m : Str → Option Value) : Prop where
  | mk (tf tg D C : Addr) (o1 o2 o4 o5 o6 o7 o8 : Obj) (a0 a1 a2 b0 b1 b2 : Value) (k2 k3 j2 j3 t0 t1 t2 t3 t5 t6 t7 t8 : Tok) (nf ng e eC : Nat) (vs : List Value) (cn0 : o1.data = .cell (some (.ref tf))) (cn1 : o2.data = .cell (some (.ref tg))) (cn2 : o4.data = .cell (some (.ref D))) (cn3 : o5.data = .cell (some (.int (iv f.bits) t5))) (cn4 : o6.data = .cell (some (.int (iv g.bits) t6))) (cn5 : o7.data = .cell (some (.int (iv (leastBV f)) t7))) (cn6 : o8.data = .cell (some (.int (iv (mostBV g)) t8))) (cn7 : IntsAre vs (ivs claimsBV)) (cn8 : m (Str.ofString "claims") = some (.ref C)) (cn9 : News h₀ L h [(C, PySem.W.listOf (List.toArray vs) eC), (D, PySem.W.listOf [Value.int 43690 t0, .int 52428 t1, .int 61680 t2, .int 65280 t3].toArray e), (tf, tup [a0, a1, a2, .int (iv f.pol.1) k2, .int (iv f.pol.2) k3] nf), (tg, tup [b0, b1, b2, .int (iv g.pol.1) j2, .int (iv g.pol.2) j3] ng), (L + 1 + 1 + 1 + 1 + 1 + 1 + 1 + 1, o8), (L + 1 + 1 + 1 + 1 + 1 + 1 + 1, o7), (L + 1 + 1 + 1 + 1 + 1 + 1, o6), (L + 1 + 1 + 1 + 1 + 1, o5), (L + 1 + 1 + 1 + 1, o4), (L + 1 + 1, o2), (L + 1, o1)]) : P5 f g h₀ L h m
section
variable {f g : Fm} {h₀ h : Heap} {L tf tg D C : Addr} {m : Str → Option Value} {nw : List (Addr × Obj)} {o1 o2 o4 o5 o6 o7 o8 : Obj} {a0 a1 a2 b0 b1 b2 : Value} {k2 k3 j2 j3 t0 t1 t2 t3 t5 t6 t7 t8 : Tok} {nf ng e eC : Nat} {vs : List Value}
theorem P5.of (N : News h₀ L h nw) (hC : (C, PySem.W.listOf (List.toArray vs) eC) ∈ nw) (hD : (D, PySem.W.listOf [Value.int 43690 t0, .int 52428 t1, .int 61680 t2, .int 65280 t3].toArray e) ∈ nw) (hf : (tf, tup [a0, a1, a2, .int (iv f.pol.1) k2, .int (iv f.pol.2) k3] nf) ∈ nw) (hg : (tg, tup [b0, b1, b2, .int (iv g.pol.1) j2, .int (iv g.pol.2) j3] ng) ∈ nw)
    (h1 : (L + 1, o1) ∈ nw) (h2 : (L + 1 + 1, o2) ∈ nw) (h4 : (L + 1 + 1 + 1 + 1, o4) ∈ nw) (h5 : (L + 1 + 1 + 1 + 1 + 1, o5) ∈ nw) (h6 : (L + 1 + 1 + 1 + 1 + 1 + 1, o6) ∈ nw) (h7 : (L + 1 + 1 + 1 + 1 + 1 + 1 + 1, o7) ∈ nw) (h8 : (L + 1 + 1 + 1 + 1 + 1 + 1 + 1 + 1, o8) ∈ nw)
    (d1 : o1.data = .cell (some (.ref tf))) (d2 : o2.data = .cell (some (.ref tg))) (d4 : o4.data = .cell (some (.ref D))) (d5 : o5.data = .cell (some (.int (iv f.bits) t5))) (d6 : o6.data = .cell (some (.int (iv g.bits) t6))) (d7 : o7.data = .cell (some (.int (iv (leastBV f)) t7))) (d8 : o8.data = .cell (some (.int (iv (mostBV g)) t8)))
    (hv : IntsAre vs (ivs claimsBV)) (hm : m (Str.ofString "claims") = some (.ref C)) : P5 f g h₀ L h m :=
  ⟨tf, tg, D, C, o1, o2, o4, o5, o6, o7, o8, a0, a1, a2, b0, b1, b2, k2, k3, j2, j3, t0, t1, t2, t3, t5, t6, t7, t8, nf, ng, e, eC, vs, d1, d2, d4, d5, d6, d7, d8, hv, hm, News.sub N (sub_all_cons hC (sub_all_cons hD (sub_all_cons hf (sub_all_cons hg (sub_all_cons h8 (sub_all_cons h7 (sub_all_cons h6 (sub_all_cons h5 (sub_all_cons h4 (sub_all_cons h2 (sub_all_cons h1 sub_all_nil)))))))))))⟩
end
theorem lst_lit {prog : Program} {w : World} {A : Around} {E : Value → Shared → Prop} {s : Shared} {value slice : PySem.Expr} {h₀ : Heap} {L D : Addr} {nw : List (Addr × Obj)} {vs : List Value} {k : Int} {u : Tok} {n : Nat} {v : Value} {Q : Value → Shared → Prop} (N : News h₀ L s.heap nw) (hm : (D, PySem.W.listOf (List.toArray vs) n) ∈ nw) (h0 : decide (0 ≤ k ∧ k < 2 ^ 63) = true) (hx : vs[k.toNat]? = some v) (h : Q v s)
    (hs : subscripted slice false (.ref D) (.int k u) = operate [.ref D, .int k u] (getItem (.ref D) (.int k u)) := by with_unfolding_all rfl) :
    wpAny (model prog w) A (subscriptTail value slice (.ref D) (.int k u)) Q E s := by
  have h0' := of_decide_eq_true h0
  have hl := News.isList N hm
  exact tail_any hl.typeIs slot_list_getitem.lookup (wpAny_getItem_list hl h0'.1 h0'.2 (by simpa using hx) h) hs
theorem xor_v (w : World) (news : List (Addr × Obj)) (a b : BitVec 16) (x y : Int) (ta tb : Tok) (hx : x = iv a) (hy : y = iv b) : Ctr w 98 news [.int x ta, .int y tb] 1 8 (fun r tl => (∃ t, r = .int (iv (a ^^^ b)) t) ∧ tl = []) := by
  subst hx hy
  refine (xorI_c w news _ _ ta tb).mono (Nat.le_refl _) (Nat.le_refl _) fun r tl h => ?_
  obtain ⟨⟨t, rfl⟩, rfl⟩ := h
  exact ⟨⟨t, by rw [iv_xor]⟩, rfl⟩
theorem piece3 (w : World) (r : DefRec) (hr : IsLaw r) (f g : Fm) (hf : f.leaves = 4) (hg : g.leaves = 4) (hnf : f.names NA) (hng : g.names NB) : Piece w r.scope ((r.body.drop 8).take 7) (P3 f g) (P4 f g) := by
  k_with_none
  w_top off
  k_with "mine mem" => (first | (refine' mem_here ?_; ktr_member) | (refine' mem_appR ?_; k_mem) | (refine' mem_appL ?_; k_mem) | fail)
  k_with "mine ltL" => ((repeat (first | with_reducible exact lt_up0 | with_reducible refine lt_up ?_)); done)
  k_with "mine tk2" => (first | with_reducible assumption | with_reducible exact le_one | with_reducible exact Nat.le_refl _ | with_reducible exact Nat.succ_le_of_lt (by with_reducible assumption) | (with_reducible refine le_up ?_; k_extra "mine tk2") | (with_reducible refine le_chain (by with_reducible assumption) ?_; k_extra "mine tk2"))
  k_with "mine tk1" => ((try dsimp only); k_extra "mine tk2")
  k_with "mine size" => (first | (refine' sz_arr ?szA ?szB; (case szA => with_reducible assumption); (case szB => rfl)) | (refine' sz_line ?szA ?szB; (case szA => with_reducible assumption); (case szB => rfl)) | exact Nat.le_of_ble_eq_true rfl | fail)
  k_with "mine room" => ((first | k_dflt refine' rm2 ?rmA ?rmB | k_dflt refine' rm1 ?rmA ?rmB | k_dflt refine' rm0 ?rmA); (case rmA => k_dflt assumption); (try (case rmB => rfl)))
  k_with "mine ne" => (refine neN ?_; (try dsimp only); first | exact ne_all (by with_reducible assumption) (by k_mem) | exact ne_all' (by with_reducible assumption) (by k_mem) | with_reducible assumption | exact Ne.symm (by with_reducible assumption) | exact ne_gt (by k_extra "mine ltL") | exact ne_lt (by k_extra "mine ltL") | exact ne_gt (by with_reducible assumption) | exact ne_lt (by with_reducible assumption) | exact ne_far (by with_reducible assumption) (by k_extra "mine ltL") | exact ne_far' (by with_reducible assumption) (by k_extra "mine ltL") | omega | fail)
  k_with "mine all" => (first | with_reducible assumption | exact all_ne (by with_reducible assumption) (by k_extra "mine sub") | fail)
  k_with "mine free" => (intro yy; intros; repeat (first | with_reducible exact rfl | with_reducible exact forget_off (by with_reducible assumption) | (refine' Eq.trans (if_neg ?fnC) ?_; (case fnC => first | with_reducible assumption | exact ne_free (by with_reducible assumption) (by kernel_rfl))) | exact rfl))
  k_with "evalPairs" => (k_here; dsimp only)
  k_with "Exists" => (k_here; dsimp only)
  k_with "execs cons" => (k_here; refine' nx_start ?_; intro tkz htkz; (try dsimp only at htkz))
  k_with "Nx" => ((try dsimp only); (first | (with_reducible refine' nx_cons0 ?_; intro tkz htkz) | (with_reducible refine' nx_cons ?_; intro tkz htl htkz) | ((first | with_reducible refine' nx_nil0 ?_ | with_reducible refine' nx_ret0 ?_ | with_reducible refine' nx_open0 ?_); (try dsimp only)) | ((first | with_reducible refine' nx_nil ?_ | with_reducible refine' nx_ret ?_ | with_reducible refine' nx_open ?_ | with_reducible refine' nx_brk ?_ | with_reducible refine' nx_cont ?_); intro htl; (try dsimp only at htl); (try dsimp only))))
  k_with "execs nil" => (k_here; (refine wpAny_execs_nil ?_); (try dsimp only))
  k_with "newList" => (k_here; k_dflt (refine' new_lst ?nlF ?nlN ?nlz ?_; (case nlF => k_asm); (case nlN => k_asm); (case nlz => rfl); k_whole); intro d' h' F' N' l1; (try k_sweep))
  k_with "newTuple" => (k_here; k_dflt (refine' new_tup ?nlF ?nlN ?nlz ?_; (case nlF => k_asm); (case nlN => k_asm); (case nlz => rfl); k_whole); intro d' h' F' N' l1; (try k_sweep))
  k_with "mine sub" => ((repeat (first | with_reducible exact sub_nil | with_reducible exact sub_app | with_reducible refine sub_cons ?_ | with_reducible refine sub_app' ?_)); done)
  k_with "mine end2" => ((case F => k_asm); (case N => k_asm); (case S => k_extra "mine sub"); (case P => (refine' lt_sub ?a ?b; (case a => with_reducible assumption); (case b => k_extra "mine sub"))); (case R => (refine' lt_sub ?a ?b; (case a => with_reducible assumption); (case b => k_extra "mine sub"))))
  k_with "mine mem" => (first | (refine' mem_here ?_; ktr_member) | (refine' mem_here ?_; with_reducible assumption) | (refine' mem_appR ?_; k_mem) | (refine' mem_appL ?_; k_mem) | fail)
  obtain ⟨nm_, ps_, bd_, sc_, pp_⟩ := r
  have e : (recsOf hd.view_1_40).getLast? = some ⟨?n,?p,?b,?s,?q⟩ := by with_unfolding_all rfl
  unfold IsLaw at hr
  rw [e] at hr
  obtain ⟨rfl, rfl, rfl, rfl, rfl⟩ := DefRec.mk.inj (Option.some.inj hr)
  clear e hr
  simp only [List.drop_succ_cons, List.drop_zero, List.take_succ_cons, List.take_zero]
  unfold Piece
  k_fill
  intro rest mean mg mb dp un gd cn L a ccd outer A₀ base h₀ m s Q E B F X T hd hu ht hE hP hk
  obtain ⟨R, r1, r2, tf, rf, tg, rg, o1, o2, o3, o4, o5, o6, o7, o8, o9, v1, v2, vf, vg, k0, k1, k2, k3, j0, j1, j2, j3, c3, c4, c5, c6, c7, c8, c9, nf, ng, e, e1, e2, ef, eg, iv1, iv2, ivf, ivg, d1, d2, d3, d4, d5, d6, d7, d8, d9, ⟨q1, q2, q3, q4, q5, q6, q7⟩, hm1, N⟩ := hP
  replace F := Fr.named F hm1
  k_lt2 q1; k_lt2 q2; k_lt2 q3; k_lt2 q4; k_lt2 q5; k_lt2 q6; k_lt2 q7
  obtain ⟨V, hV⟩ : ∃ V : List (Addr × Obj), V = [(R, PySem.W.listOf [Value.ref r1, .ref r2].toArray e), (r1, PySem.W.listOf v1.toArray e1), (r2, PySem.W.listOf v2.toArray e2), (tf, tup [.str f.txt k0, .ref rf, .int (iv f.bits) k1, .int (iv f.pol.1) k2, .int (iv f.pol.2) k3] nf), (rf, PySem.W.listOf vf.toArray ef), (tg, tup [.str g.txt j0, .ref rg, .int (iv g.bits) j1, .int (iv g.pol.1) j2, .int (iv g.pol.2) j3] ng), (rg, PySem.W.listOf vg.toArray eg), (L + 1 + 1 + 1 + 1 + 1 + 1 + 1 + 1 + 1, o9), (L + 1 + 1 + 1, o3), (L + 1 + 1, o2), (L + 1, o1)] := ⟨_, rfl⟩
  have NV : News h₀ L s.heap ((L + 1 + 1 + 1 + 1 + 1 + 1 + 1 + 1, o8) :: (L + 1 + 1 + 1 + 1 + 1 + 1 + 1, o7) :: (L + 1 + 1 + 1 + 1 + 1 + 1, o6) :: (L + 1 + 1 + 1 + 1 + 1, o5) :: (L + 1 + 1 + 1 + 1, o4) :: V) := News.sub N (by subst hV; repeat' (first | exact sub_all_nil | refine sub_all_cons (by k_mem) ?_))
  have vm0 : (R, PySem.W.listOf [Value.ref r1, .ref r2].toArray e) ∈ V := by subst hV; show @List.Mem (Addr × Obj) _ _; k_mem
  have vm1 : (r1, PySem.W.listOf v1.toArray e1) ∈ V := by subst hV; show @List.Mem (Addr × Obj) _ _; k_mem
  have vm2 : (r2, PySem.W.listOf v2.toArray e2) ∈ V := by subst hV; show @List.Mem (Addr × Obj) _ _; k_mem
  have vm3 : (tf, tup [.str f.txt k0, .ref rf, .int (iv f.bits) k1, .int (iv f.pol.1) k2, .int (iv f.pol.2) k3] nf) ∈ V := by subst hV; show @List.Mem (Addr × Obj) _ _; k_mem
  have vm4 : (rf, PySem.W.listOf vf.toArray ef) ∈ V := by subst hV; show @List.Mem (Addr × Obj) _ _; k_mem
  have vm5 : (tg, tup [.str g.txt j0, .ref rg, .int (iv g.bits) j1, .int (iv g.pol.1) j2, .int (iv g.pol.2) j3] ng) ∈ V := by subst hV; show @List.Mem (Addr × Obj) _ _; k_mem
  have vm6 : (rg, PySem.W.listOf vg.toArray eg) ∈ V := by subst hV; show @List.Mem (Addr × Obj) _ _; k_mem
  have vm7 : (L + 1 + 1 + 1 + 1 + 1 + 1 + 1 + 1 + 1, o9) ∈ V := by subst hV; show @List.Mem (Addr × Obj) _ _; k_mem
  have vm8 : (L + 1 + 1 + 1, o3) ∈ V := by subst hV; show @List.Mem (Addr × Obj) _ _; k_mem
  have vm9 : (L + 1 + 1, o2) ∈ V := by subst hV; show @List.Mem (Addr × Obj) _ _; k_mem
  have vm10 : (L + 1, o1) ∈ V := by subst hV; show @List.Mem (Addr × Obj) _ _; k_mem
  have vn0 : ∀ p ∈ V, p.1 ≠ L + 1 + 1 + 1 + 1 := by subst hV; k_all
  have vn1 : ∀ p ∈ V, p.1 ≠ L + 1 + 1 + 1 + 1 + 1 := by subst hV; k_all
  have vn2 : ∀ p ∈ V, p.1 ≠ L + 1 + 1 + 1 + 1 + 1 + 1 := by subst hV; k_all
  have vn3 : ∀ p ∈ V, p.1 ≠ L + 1 + 1 + 1 + 1 + 1 + 1 + 1 := by subst hV; k_all
  have vn4 : ∀ p ∈ V, p.1 ≠ L + 1 + 1 + 1 + 1 + 1 + 1 + 1 + 1 := by subst hV; k_all
  clear hV N
  have lf4 := row_len4 f hf
  have lg4 := row_len4 g hg
  simp only [List.cons_append, List.nil_append]
  k_with "TkLe" => (refine' tkle_intro ?_; intro htl; (try dsimp only at htl); (try dsimp only))
  k_with "subscriptTail Name Constant ref int" => (first | (k_dflt (refine' lst_lit ?lN ?lm ?l0 ?lx ?_ ?ls; (case lN => k_asm); (case lm => k_mem); (case l0 => rfl); (case lx => rfl); (case ls => with_unfolding_all rfl))) | (k_dflt (refine' tup_lit ?lN ?lm ?l0 ?lx ?_ ?ls; (case lN => k_asm); (case lm => k_mem); (case l0 => rfl); (case lx => rfl); (case ls => with_unfolding_all rfl))))
  k_with "binaryOp Add ref ref" => (k_dflt (refine' add_lst ?aF ?aN ?aa ?ab ?az ?_; (case aF => k_asm); (case aN => k_asm); (case aa => k_mem); (case ab => k_mem); (case az => (rw [sizeLine_eq]; simp only [ivf.length, ivg.length, List.length_cons, List.length_nil]; omega))); intro Da hDa FDa NDa lDa; (have lDa0 := lDa); (try k_lt lDa))
  k_with "compareOp NotEq ref ref" => (k_dflt (refine' ne_rows ?nN ?na ?nb ?nc ?nd ?ne ?nf ?ng ?nh ?ni ?nj ?nk ?_; (case nN => k_asm); (case na => k_mem); (case nb => k_mem); (case nc => k_mem); (case nd => k_mem); (case ne => k_mem); (case nf => k_mem); (case ng => exact iv1); (case nh => exact iv2); (case ni => exact ivf.append (.cons _ _ .nil)); (case nj => exact ivg.append (.cons _ _ .nil)); (case nk => ktr_units)))
  k_with "call ref" => (first | (k_dflt (refine' Ctr.use_t (worth_v w _ _ _ _ _ _ f leafCol _ _ _ _ _ _ _ _ hf (names1 hnf) ?wa ?wb ?wc ?wd iv1 ?wR ?wC) ?yB ?yFr ?yX ?yN ?yT ?yk ?yd ?yu ?_; (case yB => k_asm); (case yFr => k_asm); (case yX => k_asm); (case yN => k_asm); (case yT => k_asm); (case yk => rfl); (case yd => ktr_room); (case yu => ktr_units); (case wR => k_mem); (case wC => k_mem); (case wa => rfl); (case wb => rfl); (case wc => rfl); (case wd => rfl)); (intro tr h' tkr F' N'; (try dsimp only); rw [ev_bits])) | (k_dflt (refine' Ctr.use_t (worth_v w _ _ _ _ _ _ f (cvA 0#16) _ _ _ _ _ _ _ _ hf (names1 hnf) ?wa ?wb ?wc ?wd iv1 ?wR ?wC) ?yB ?yFr ?yX ?yN ?yT ?yk ?yd ?yu ?_; (case yB => k_asm); (case yFr => k_asm); (case yX => k_asm); (case yN => k_asm); (case yT => k_asm); (case yk => rfl); (case yd => ktr_room); (case yu => ktr_units); (case wR => k_mem); (case wC => k_mem); (case wa => rfl); (case wb => rfl); (case wc => rfl); (case wd => rfl)); (intro tr h' tkr F' N'; (try dsimp only))) | (k_dflt (refine' Ctr.use_t (worth_v w _ _ _ _ _ _ f (cvA 65535#16) _ _ _ _ _ _ _ _ hf (names1 hnf) ?wa ?wb ?wc ?wd iv1 ?wR ?wC) ?yB ?yFr ?yX ?yN ?yT ?yk ?yd ?yu ?_; (case yB => k_asm); (case yFr => k_asm); (case yX => k_asm); (case yN => k_asm); (case yT => k_asm); (case yk => rfl); (case yd => ktr_room); (case yu => ktr_units); (case wR => k_mem); (case wC => k_mem); (case wa => rfl); (case wb => rfl); (case wc => rfl); (case wd => rfl)); (intro tr h' tkr F' N'; (try dsimp only))) | (k_dflt (refine' Ctr.use_t (worth_v w _ _ _ _ _ _ g leafCol _ _ _ _ _ _ _ _ hg (names2 hng) ?wa ?wb ?wc ?wd iv2 ?wR ?wC) ?yB ?yFr ?yX ?yN ?yT ?yk ?yd ?yu ?_; (case yB => k_asm); (case yFr => k_asm); (case yX => k_asm); (case yN => k_asm); (case yT => k_asm); (case yk => rfl); (case yd => ktr_room); (case yu => ktr_units); (case wR => k_mem); (case wC => k_mem); (case wa => rfl); (case wb => rfl); (case wc => rfl); (case wd => rfl)); (intro tr h' tkr F' N'; (try dsimp only); rw [ev_bits])) | (k_dflt (refine' Ctr.use_t (worth_v w _ _ _ _ _ _ g (cvB 0#16) _ _ _ _ _ _ _ _ hg (names2 hng) ?wa ?wb ?wc ?wd iv2 ?wR ?wC) ?yB ?yFr ?yX ?yN ?yT ?yk ?yd ?yu ?_; (case yB => k_asm); (case yFr => k_asm); (case yX => k_asm); (case yN => k_asm); (case yT => k_asm); (case yk => rfl); (case yd => ktr_room); (case yu => ktr_units); (case wR => k_mem); (case wC => k_mem); (case wa => rfl); (case wb => rfl); (case wc => rfl); (case wd => rfl)); (intro tr h' tkr F' N'; (try dsimp only))) | (k_dflt (refine' Ctr.use_t (worth_v w _ _ _ _ _ _ g (cvB 65535#16) _ _ _ _ _ _ _ _ hg (names2 hng) ?wa ?wb ?wc ?wd iv2 ?wR ?wC) ?yB ?yFr ?yX ?yN ?yT ?yk ?yd ?yu ?_; (case yB => k_asm); (case yFr => k_asm); (case yX => k_asm); (case yN => k_asm); (case yT => k_asm); (case yk => rfl); (case yd => ktr_room); (case yu => ktr_units); (case wR => k_mem); (case wC => k_mem); (case wa => rfl); (case wb => rfl); (case wc => rfl); (case wd => rfl)); (intro tr h' tkr F' N'; (try dsimp only))) | (k_dflt (refine' Ctr.use_t (orI_c w _ _ _ _ _) ?yB ?yFr ?yX ?yN ?yT ?yk ?yd ?yu ?_; (case yB => k_asm); (case yFr => k_asm); (case yX => k_asm); (case yN => k_asm); (case yT => k_asm); (case yk => rfl); (case yd => ktr_room); (case yu => ktr_units)); (intro tr h' tkr F' N'; (try dsimp only); rw [iv_or])) | (k_dflt (refine' Ctr.use_t (andI_c w _ _ _ _ _) ?yB ?yFr ?yX ?yN ?yT ?yk ?yd ?yu ?_; (case yB => k_asm); (case yFr => k_asm); (case yX => k_asm); (case yN => k_asm); (case yT => k_asm); (case yk => rfl); (case yd => ktr_room); (case yu => ktr_units)); (intro tr h' tkr F' N'; (try dsimp only); rw [iv_and])))
  k_with "compareOp NotEq ref ref" => (k_dflt (refine' ne_tup2 ?mN ?ma ?mb ?mc ?_; (case mN => k_asm); (case ma => k_mem); (case mb => k_mem); (case mc => ktr_units)))
  k_steps
  all_goals (rename Fr _ _ _ _ => kF9; rename News _ _ _ _ => kN9; k_dflt (refine' hk _ _ _ kF9 ?zt (P4.of kN9 ?zD ?zf ?zg ?z1 ?z2 ?z4 ?z5 ?z6 ?z7 ?z8 ?z9 ?zd1 ?zd2 ?zd4 ?zd5 ?zd6 ?zd7 ?zd8 ?zd9 ?zq1 ?zq2 ?zq3); (case z1 => k_mem); (case z2 => k_mem); (case zd1 => with_reducible assumption); (case zd2 => with_reducible assumption); (case z4 => k_mem); (case z5 => k_mem); (case z6 => k_mem); (case z7 => k_mem); (case z8 => k_mem); (case z9 => k_mem); (case zd4 => with_reducible assumption); (case zd5 => with_reducible assumption); (case zd6 => with_reducible assumption); (case zd7 => assumption); (case zd8 => assumption); (case zd9 => with_reducible assumption); (case zD => k_mem); (case zf => k_mem); (case zg => k_mem); (case zq1 => with_reducible assumption); (case zq2 => with_reducible assumption); (case zq3 => first | exact lt_all (by with_reducible assumption) (by k_mem) | omega); (case zt => k_extra "mine tk1")))
theorem seq_iadd : isSeqSlotId "list.__iadd__" = true := by decide +kernel
section
variable {prog : Program} {w : World} {A : Around} {E : Value → Shared → Prop} {s : Shared} {h₀ : Heap} {L D b : Addr} {m : Str → Option Value} {news news' : List (Addr × Obj)} {its its2 : List Value} {n n2 : Nat} {Q : Value → Shared → Prop}
theorem inplace_seq {M : Model} {a c : Value} (ha : s.TypeIs a "list") (hb : s.TypeIs c "list") (hc : wpAny M A (call (.builtin "list.__iadd__") [a, c]) Q E s) : wpAny M A (inplaceOp .Add a c) Q E s := by
  unfold inplaceOp
  refine wpAny_holding ?_
  have hl := PySem.F.slot_list_iadd.lookup
  have hfi : fillsInplaceSlot (.type "list") "add" (Operator.Add == .Add) = pure false := by
    unfold fillsInplaceSlot
    show (typeLookup (.type "list") (dunderI "add") >>= fun fi => pure (fi.isSome && !isSeqSlot fi)) = pure false
    rw [hl]
    show (pure (true && !(isSeqSlotId "list.__iadd__")) : Sem Bool) = pure false
    rw [seq_iadd]; rfl
  have hsi : seqSlot? (.type "list") (dunderI "add") = pure (some (.builtin "list.__iadd__")) := PyProof.Rows.seqSlot_of hl seq_iadd
  refine wpAny_bind (wpAny_typeOf ha (wpAny_bind (wpAny_of_eq hfi ?_)))
  show wpAny M A (if false = true then _ else _) Q E s
  rw [if_neg Bool.false_ne_true]
  refine wpAny_bind (wpAny_binaryOp1_none (nm := "add") ha hb noFill_list_add ?_)
  refine wpAny_bind (wpAny_of_eq hsi ?_)
  exact wpAny_bind (wpAny_rule hc)
theorem iadd_lst (F : Fr h₀ L s.heap m) (N : News h₀ L s.heap news) (hb : (b, PySem.W.listOf (List.toArray its2) n2) ∈ news) (hne : its2.length ≠ 0)
    (U : Upd D (PySem.W.listOf (List.toArray its) n) (PySem.W.listOf (List.toArray (its ++ its2)) (n + 1)) news news') (hz : its.length + its2.length ≤ 1000)
    (h : ∀ h', Fr h₀ L h' m → News h₀ L h' news' → Q (.ref D) { s with heap := h' }) : wpAny (model prog w) A (inplaceOp .Add (.ref D) (.ref b)) Q E s := by
  obtain ⟨pre, post, rfl, rfl, a, c⟩ := U.split
  have z := N (D, PySem.W.listOf (List.toArray its) n) (List.mem_append.mpr (.inr (.head _)))
  have zb := N _ hb
  have hs : sizeLine = sizeLine := rfl
  refine inplace_seq ⟨_, z.1, rfl⟩ ⟨_, zb.1, rfl⟩ (call_meets PySem.F.slot_list_iadd ⟨_, z.1, rfl⟩ PySem.F.entry_list_iadd (PySem.F.args_list_iadd_2 _ _) (PySem.AutoSeq1.list___iadd___list_list_0 D its.toArray n b its2.toArray n2 ?_ ?_ ?_) ⟨z.1, zb.1, h _ (F.change (Heap.SameBut.update ..) z.2.1 z.2.2) (kl_turn _ N a c ?_ ?_)⟩)
  · have ht : Builtin.List.listTooLong (its.toArray.size + its2.toArray.size) = false := by
      unfold Builtin.List.listTooLong
      rw [List.size_toArray, List.size_toArray]
      rw [sizeLine_eq]
      exact decide_eq_false (by omega)
    rw [ht, Bool.and_false]; exact Bool.false_ne_true
  · rw [List.size_toArray, sizeLine_eq]; omega
  · rw [List.size_toArray, List.size_toArray, sizeLine_eq]; omega
  · apply Array.toList_inj.mp
    simp
  · simp
    exact fun e => hne (by rw [e]; rfl)
end
theorem clm_sub {own rest nw : List (Addr × Obj)} {a b : Addr × Obj} (ha : List.Mem a nw) (hb : List.Mem b nw) (hr : ∀ p ∈ own ++ rest, p ∈ nw) : ∀ p ∈ own ++ a :: b :: rest, p ∈ nw := fun p hp => by
  rcases List.mem_append.mp hp with h | h
  · exact hr p (List.mem_append.mpr (.inl h))
  · rcases List.mem_cons.mp h with rfl | h
    · exact ha
    · rcases List.mem_cons.mp h with rfl | h
      · exact hb
      · exact hr p (List.mem_append.mpr (.inr h))
theorem piece4 (w : World) (r : DefRec) (hr : IsLaw r) (f g : Fm) : Piece w r.scope ((r.body.drop 15).take 2) (P4 f g) (P5 f g) := by
  k_with_none
  w_top off
  k_with "mine mem" => (first | (refine' mem_here ?_; ktr_member) | (refine' mem_appR ?_; k_mem) | (refine' mem_appL ?_; k_mem) | fail)
  k_with "mine ltL" => ((repeat (first | with_reducible exact lt_up0 | with_reducible refine lt_up ?_)); done)
  k_with "mine tk2" => (first | with_reducible assumption | with_reducible exact le_one | with_reducible exact Nat.le_refl _ | with_reducible exact Nat.succ_le_of_lt (by with_reducible assumption) | (with_reducible refine le_up ?_; k_extra "mine tk2") | (with_reducible refine le_chain (by with_reducible assumption) ?_; k_extra "mine tk2"))
  k_with "mine tk1" => ((try dsimp only); k_extra "mine tk2")
  k_with "mine size" => (first | (refine' sz_arr ?szA ?szB; (case szA => with_reducible assumption); (case szB => rfl)) | (refine' sz_line ?szA ?szB; (case szA => with_reducible assumption); (case szB => rfl)) | exact Nat.le_of_ble_eq_true rfl | fail)
  k_with "mine room" => ((first | k_dflt refine' rm2 ?rmA ?rmB | k_dflt refine' rm1 ?rmA ?rmB | k_dflt refine' rm0 ?rmA); (case rmA => k_dflt assumption); (try (case rmB => rfl)))
  k_with "mine ne" => (refine neN ?_; (try dsimp only); first | exact ne_all (by with_reducible assumption) (by k_mem) | exact ne_all' (by with_reducible assumption) (by k_mem) | with_reducible assumption | exact Ne.symm (by with_reducible assumption) | exact ne_gt (by k_extra "mine ltL") | exact ne_lt (by k_extra "mine ltL") | exact ne_gt (by with_reducible assumption) | exact ne_lt (by with_reducible assumption) | exact ne_far (by with_reducible assumption) (by k_extra "mine ltL") | exact ne_far' (by with_reducible assumption) (by k_extra "mine ltL") | omega | fail)
  k_with "mine all" => (first | with_reducible assumption | exact all_ne (by with_reducible assumption) (by k_extra "mine sub") | fail)
  k_with "mine free" => (intro yy; intros; repeat (first | with_reducible exact rfl | with_reducible exact forget_off (by with_reducible assumption) | (refine' Eq.trans (if_neg ?fnC) ?_; (case fnC => first | with_reducible assumption | exact ne_free (by with_reducible assumption) (by kernel_rfl))) | exact rfl))
  k_with "evalPairs" => (k_here; dsimp only)
  k_with "Exists" => (k_here; dsimp only)
  k_with "execs cons" => (k_here; refine' nx_start ?_; intro tkz htkz; (try dsimp only at htkz))
  k_with "Nx" => ((try dsimp only); (first | (with_reducible refine' nx_cons0 ?_; intro tkz htkz) | (with_reducible refine' nx_cons ?_; intro tkz htl htkz) | ((first | with_reducible refine' nx_nil0 ?_ | with_reducible refine' nx_ret0 ?_ | with_reducible refine' nx_open0 ?_); (try dsimp only)) | ((first | with_reducible refine' nx_nil ?_ | with_reducible refine' nx_ret ?_ | with_reducible refine' nx_open ?_ | with_reducible refine' nx_brk ?_ | with_reducible refine' nx_cont ?_); intro htl; (try dsimp only at htl); (try dsimp only))))
  k_with "execs nil" => (k_here; (refine wpAny_execs_nil ?_); (try dsimp only))
  k_with "newList" => (k_here; k_dflt (refine' new_lst ?nlF ?nlN ?nlz ?_; (case nlF => k_asm); (case nlN => k_asm); (case nlz => rfl); k_whole); intro d' h' F' N' l1; (try k_sweep))
  k_with "newTuple" => (k_here; k_dflt (refine' new_tup ?nlF ?nlN ?nlz ?_; (case nlF => k_asm); (case nlN => k_asm); (case nlz => rfl); k_whole); intro d' h' F' N' l1; (try k_sweep))
  k_with "mine sub" => ((repeat (first | with_reducible exact sub_nil | with_reducible exact sub_app | with_reducible refine sub_cons ?_ | with_reducible refine sub_app' ?_)); done)
  k_with "mine end2" => ((case F => k_asm); (case N => k_asm); (case S => k_extra "mine sub"); (case P => (refine' lt_sub ?a ?b; (case a => with_reducible assumption); (case b => k_extra "mine sub"))); (case R => (refine' lt_sub ?a ?b; (case a => with_reducible assumption); (case b => k_extra "mine sub"))))
  obtain ⟨nm_, ps_, bd_, sc_, pp_⟩ := r
  have e : (recsOf hd.view_1_40).getLast? = some ⟨?n,?p,?b,?s,?q⟩ := by with_unfolding_all rfl
  unfold IsLaw at hr
  rw [e] at hr
  obtain ⟨rfl, rfl, rfl, rfl, rfl⟩ := DefRec.mk.inj (Option.some.inj hr)
  clear e hr
  simp only [List.drop_succ_cons, List.drop_zero, List.take_succ_cons, List.take_zero]
  unfold Piece
  k_fill
  intro rest mean mg mb dp un gd cn L a ccd outer A₀ base h₀ m s Q E B F X T hd hu ht hE hP hk
  obtain ⟨tf, tg, D, o1, o2, o4, o5, o6, o7, o8, o9, a0, a1, a2, b0, b1, b2, k2, k3, j2, j3, t0, t1, t2, t3, t5, t6, t7, t8, c9, nf, ng, e, d1, d2, d4, d5, d6, d7, d8, d9, ⟨q1, q2, q3⟩, N⟩ := hP
  k_lt2 q1; k_lt2 q2; k_lt2 q3
  simp only [List.cons_append, List.nil_append]
  k_with "TkLe" => (refine' tkle_intro ?_; intro htl; (try dsimp only at htl); (try dsimp only))
  k_with "exec For Name Tuple cons nil" => (k_dflt (refine' wpAny_For ?_ ?hs; (case hs => intro _; rfl)))
  k_with "pyIter ref" => (first | (k_dflt (refine' clm_for [Str.ofString "u", Str.ofString "v"] lO ?xh ?xl ?xC ?x9 ?xF (perm6 ?xN) ?xv ?xd ?turnO ?doneO ?xE; (case xh => rfl); (case xF => k_asm); (case xN => k_asm); (case xl => k_mem); (case xC => k_all); (case x9 => k_all); (case xv => exact .cons _ _ .nil); (case xd => with_reducible assumption); (case xE => passes_own)); (case' doneO => (intro g0 vO eO oO xO hO tkO hvO dO hleO FO NO; (try dsimp only at hleO); (try dsimp only))); (case' turnO => (intro i tu g0 vO eO oO xO hO tkO own wr hi hvO dO hoC ho9 hof hoffC hoff9 FO NO; (try dsimp only)))) | (k_dflt (refine' clm_for [Str.ofString "v"] (lI (uOf i) (lO i)) ?xh ?xl ?xC ?x9 ?xF (perm3 ?xN) ?xv ?xd ?turnI ?doneI ?xE; (case xh => rfl); (case xF => k_asm); (case xN => k_asm); (case xl => k_mem); (case xC => k_all); (case x9 => k_all); (case xv => exact hvO); (case xd => with_reducible assumption); (case xE => passes_own)); (case' doneI => (intro g1 vI eI oI xI hI tkI hvI dI hleI FI NI; (try dsimp only at hleI); (try dsimp only))); (case' turnI => (intro j tv g1 vI eI oI xI hI tkI ownj wrj hj hvI dI hjC hj9 hjf hoffjC hoffj9 FI NI; (try dsimp only)))))
  k_with "call ref" => (first | (k_dflt (refine' Ctr.use_t (xor_v w _ 52428#16 (uOf i) _ _ _ _ rfl rfl) ?yB ?yFr ?yX ?yN ?yT ?yk ?yd ?yu ?_; (case yB => k_asm); (case yFr => k_asm); (case yX => k_asm); (case yN => k_asm); (case yT => k_asm); (case yk => rfl); (case yd => ktr_room); (case yu => ktr_units)); (intro tr h' tkr F' N'; (try dsimp only))) | (k_dflt (refine' Ctr.use_t (xor_v w _ 61680#16 (uOf j) _ _ _ _ rfl rfl) ?yB ?yFr ?yX ?yN ?yT ?yk ?yd ?yu ?_; (case yB => k_asm); (case yFr => k_asm); (case yX => k_asm); (case yN => k_asm); (case yT => k_asm); (case yk => rfl); (case yd => ktr_room); (case yu => ktr_units)); (intro tr h' tkr F' N'; (try dsimp only))) | (k_dflt (refine' Ctr.use_t (andI_c w _ _ _ _ _) ?yB ?yFr ?yX ?yN ?yT ?yk ?yd ?yu ?_; (case yB => k_asm); (case yFr => k_asm); (case yX => k_asm); (case yN => k_asm); (case yT => k_asm); (case yk => rfl); (case yd => ktr_room); (case yu => ktr_units)); (intro tr h' tkr F' N'; (try dsimp only); rw [iv_and])) | (k_dflt (refine' Ctr.use_t (orI_c w _ _ _ _ _) ?yB ?yFr ?yX ?yN ?yT ?yk ?yd ?yu ?_; (case yB => k_asm); (case yFr => k_asm); (case yX => k_asm); (case yN => k_asm); (case yT => k_asm); (case yk => rfl); (case yd => ktr_room); (case yu => ktr_units)); (intro tr h' tkr F' N'; (try dsimp only))))
  k_with "subscriptTail Name Constant ref int" => (k_dflt (refine' lst_lit ?lN ?lm ?l0 ?lx ?_ ?ls; (case lN => k_asm); (case lm => k_mem); (case l0 => rfl); (case lx => rfl); (case ls => with_unfolding_all rfl)))
  k_with "eval ListComp" => (k_dflt (refine' LCg.ListComp_U (F₀ := by k_asm) (by with_unfolding_all rfl) (by decide) (by rfl) (by decide) (by rfl) ?_ ?ls; (case ls => intro _; rfl)))
  k_with "CompSrc" => (k_dflt (refine' src_ints (fun n => Builtin.bitOr n (iv (cellBV (uOf i) (uOf j)))) ?sh ?sF ?sN ?sm hvI ?sz ?_ ?_; (case sh => rfl); (case sF => k_asm); (case sN => k_asm); (case sm => k_mem); (case sz => (rw [ivs_len]; exact Nat.le_trans (lI_len lO_len) (by decide)))))
  k_with "TurnI" => (k_dflt (refine' TurnI.of ?tF ?tN ?tS rfl; (case tF => k_asm); (case tN => k_asm); (case tS => k_extra "mine sub")))
  k_with "FinW" => (refine' FinW.of ?_; intro Dj hj_ tkj wj ej hwj Fj Nj oj; (simp only [LCg.Off1] at oj); (try dsimp only))
  k_with "inplaceOp Add ref ref" => (have hlw := hwj.length; have hlv := hvI.length; rw [List.length_map, ivs_len] at hlw; rw [ivs_len] at hlv; have hll : (lI (uOf i) (lO i) j).length ≤ 64 := lI_len lO_len; have hlp : 0 < (lI (uOf i) (lO i) j).length := lI_pos; k_dflt (refine' iadd_lst ?pF ?pN ?pb ?pn ?pU ?pz ?_; (case pF => k_asm); (case pN => k_asm); (case pb => k_mem); (case pn => omega); (case pU => k_upd); (case pz => omega)); intro hP FP NP)
  k_with "TurnT next" => (first | (k_dflt (refine' clm_end ?eF ?eN (clm_sub ?ea ?eb ?er) hjf hoffjC hoffj9 ?em ?ev ?ed; (case eF => k_asm); (case eN => k_asm); (case ea => k_mem); (case eb => k_mem); (case er => k_extra "mine sub"); (case ev => (rw [lI_succ _ _ hj, ivs_grow]; exact hvI.append hwj)); (case ed => with_reducible assumption); (case em => (intro yy hyy; by_cases hcl : yy = Str.ofString "claims"; (subst hcl; rfl); ((simp only [List.contains_cons, List.contains_nil, Bool.or_false, Bool.or_eq_false_iff, beq_eq_false_iff_ne, ne_eq] at hyy); (simp only [hcl, hyy, if_false, forget, List.contains_cons, List.contains_nil]; simp [hyy])))))) | (k_dflt (refine' clm_end ?eF ?eN (clm_sub ?ea ?eb ?er) hof hoffC hoff9 ?em ?ev ?ed; (case eF => k_asm); (case eN => k_asm); (case ea => k_mem); (case eb => k_mem); (case er => k_extra "mine sub"); (case ev => (rw [lO_succ hi]; exact hvI)); (case ed => with_reducible assumption); (case em => (intro yy hyy; by_cases hcl : yy = Str.ofString "claims"; (subst hcl; rfl); ((simp only [List.contains_cons, List.contains_nil, Bool.or_false, Bool.or_eq_false_iff, beq_eq_false_iff_ne, ne_eq] at hyy); (simp only [hcl, hyy, if_false, forget, List.contains_cons, List.contains_nil]; simp [hyy])))))))
  k_with "TurnT" => (dsimp only [TurnT])
  k_steps
  all_goals (rename Fr _ _ _ _ => kF9; rename News _ _ _ _ => kN9; k_dflt (refine' hk _ _ _ kF9 ?zt (P5.of kN9 ?zC ?zD ?zf ?zg ?z1 ?z2 ?z4 ?z5 ?z6 ?z7 ?z8 ?zd1 ?zd2 ?zd4 ?zd5 ?zd6 ?zd7 ?zd8 hvO ?zm); (case zm => rfl); (case zC => k_mem); (case z1 => k_mem); (case z2 => k_mem); (case z4 => k_mem); (case z5 => k_mem); (case z6 => k_mem); (case z7 => k_mem); (case z8 => k_mem); (case zd1 => with_reducible assumption); (case zd2 => with_reducible assumption); (case zd4 => with_reducible assumption); (case zd5 => with_reducible assumption); (case zd6 => with_reducible assumption); (case zd7 => with_reducible assumption); (case zd8 => with_reducible assumption); (case zD => k_mem); (case zf => k_mem); (case zg => k_mem); (case zt => k_extra "mine tk1")))
section
variable {prog : Program} {w : World} {A : Around} {E : Value → Shared → Prop} {s : Shared} {h₀ : Heap} {L a : Addr} {news : List (Addr × Obj)} {xs : List Value} {ka : Nat} {ds : List Dat} {x : Value} {d : Dat} {Q : Value → Shared → Prop}
theorem is_in (N : News h₀ L s.heap news) (ma : (a, PySem.W.listOf (List.toArray xs) ka) ∈ news) (Da : DatAll news xs ds) (Dx : DatIn news x d) (ha : ∀ d ∈ ds, kqdOk 8 d = true) (hd : kqdOk 8 d = true) (hu : A.units + 64 < cLine) (h : ∀ b : Bool, (b = true ↔ d ∈ ds) → Q (.bool b) s) : wpAny (model prog w) A (compareOp .In x (.ref a)) Q E s := by
  classical
  exact kqd_isIn N ma rfl rfl Da (fun _ h => h) Dx (fun _ h => h) ha hd hu (h _ decide_eq_true_iff)
end
theorem conI_c (w : World) (news : List (Addr × Obj)) (D : Addr) (xs : List Value) (ka : Nat) (ds : List Dat) (z : Int) (tz : Tok) (d : Dat) (ma : (D, PySem.W.listOf (List.toArray xs) ka) ∈ news) (Da : DatAll news xs ds) (Dx : DatIn news (.int z tz) d) (ha : ∀ d ∈ ds, kqdOk 8 d = true) (hkd : kqdOk 8 d = true) :
  Ctr w 105 news [.ref D, .int z tz] 1 120 (fun r tl => (∃ b : Bool, (b = true ↔ d ∈ ds) ∧ r = .bool b) ∧ tl = []) := by
  k_with_none
  w_top off
  k_with "mine mem" => (first | (refine' mem_here ?_; ktr_member) | (refine' mem_appR ?_; k_mem) | (refine' mem_appL ?_; k_mem) | fail)
  k_with "mine ltL" => ((repeat (first | with_reducible exact lt_up0 | with_reducible refine lt_up ?_)); done)
  k_with "mine tk2" => (first | with_reducible assumption | with_reducible exact le_one | with_reducible exact Nat.le_refl _ | with_reducible exact Nat.succ_le_of_lt (by with_reducible assumption) | (with_reducible refine le_up ?_; k_extra "mine tk2") | (with_reducible refine le_chain (by with_reducible assumption) ?_; k_extra "mine tk2"))
  k_with "mine tk1" => ((try dsimp only); k_extra "mine tk2")
  k_with "mine size" => (first | (refine' sz_arr ?szA ?szB; (case szA => with_reducible assumption); (case szB => rfl)) | (refine' sz_line ?szA ?szB; (case szA => with_reducible assumption); (case szB => rfl)) | exact Nat.le_of_ble_eq_true rfl | fail)
  k_with "mine room" => ((first | k_dflt refine' rm2 ?rmA ?rmB | k_dflt refine' rm1 ?rmA ?rmB | k_dflt refine' rm0 ?rmA); (case rmA => k_dflt assumption); (try (case rmB => rfl)))
  k_with "mine ne" => (refine neN ?_; (try dsimp only); first | exact ne_all (by with_reducible assumption) (by k_mem) | exact ne_all' (by with_reducible assumption) (by k_mem) | with_reducible assumption | exact Ne.symm (by with_reducible assumption) | exact ne_gt (by k_extra "mine ltL") | exact ne_lt (by k_extra "mine ltL") | exact ne_gt (by with_reducible assumption) | exact ne_lt (by with_reducible assumption) | exact ne_far (by with_reducible assumption) (by k_extra "mine ltL") | exact ne_far' (by with_reducible assumption) (by k_extra "mine ltL") | omega | fail)
  k_with "mine all" => (first | with_reducible assumption | exact all_ne (by with_reducible assumption) (by k_extra "mine sub") | fail)
  k_with "mine free" => (intro yy; intros; repeat (first | with_reducible exact rfl | with_reducible exact forget_off (by with_reducible assumption) | (refine' Eq.trans (if_neg ?fnC) ?_; (case fnC => first | with_reducible assumption | exact ne_free (by with_reducible assumption) (by kernel_rfl))) | exact rfl))
  k_with "evalPairs" => (k_here; dsimp only)
  k_with "Exists" => (k_here; dsimp only)
  k_with "execs cons" => (k_here; refine' nx_start ?_; intro tkz htkz; (try dsimp only at htkz))
  k_with "Nx" => ((try dsimp only); (first | (with_reducible refine' nx_cons0 ?_; intro tkz htkz) | (with_reducible refine' nx_cons ?_; intro tkz htl htkz) | ((first | with_reducible refine' nx_nil0 ?_ | with_reducible refine' nx_ret0 ?_ | with_reducible refine' nx_open0 ?_); (try dsimp only)) | ((first | with_reducible refine' nx_nil ?_ | with_reducible refine' nx_ret ?_ | with_reducible refine' nx_open ?_ | with_reducible refine' nx_brk ?_ | with_reducible refine' nx_cont ?_); intro htl; (try dsimp only at htl); (try dsimp only))))
  k_with "execs nil" => (k_here; (refine wpAny_execs_nil ?_); (try dsimp only))
  k_with "newList" => (k_here; k_dflt (refine' new_lst ?nlF ?nlN ?nlz ?_; (case nlF => k_asm); (case nlN => k_asm); (case nlz => rfl); k_whole); intro d' h' F' N' l1; (try k_sweep))
  k_with "newTuple" => (k_here; k_dflt (refine' new_tup ?nlF ?nlN ?nlz ?_; (case nlF => k_asm); (case nlN => k_asm); (case nlz => rfl); k_whole); intro d' h' F' N' l1; (try k_sweep))
  k_with "mine sub" => ((repeat (first | with_reducible exact sub_nil | with_reducible exact sub_app | with_reducible refine sub_cons ?_ | with_reducible refine sub_app' ?_)); done)
  k_with "mine end2" => ((case F => k_asm); (case N => k_asm); (case S => k_extra "mine sub"); (case P => (refine' lt_sub ?a ?b; (case a => with_reducible assumption); (case b => k_extra "mine sub"))); (case R => (refine' lt_sub ?a ?b; (case a => with_reducible assumption); (case b => k_extra "mine sub"))))
  unfold Ctr
  k_fill
  intro mean mg mb dp un gd cn cs a_ ccd cl outer A₀ base h₀ L m s Q E B F X N T hk hd hu hret
  refine wpAny_call ?_
  k_dflt ktr_enter
  k_with "TkLe" => (refine' tkle_intro ?_; intro htl; (try dsimp only at htl); (try dsimp only))
  k_with "compareOp In" => (k_dflt (refine' is_in ?iN ?im Da Dx ha hkd ?iu ?_; (case iN => k_asm); (case im => with_reducible assumption); (case iu => ktr_units)); intro bb hbb)
  k_with "LeaveK" => (k_dflt (refine' leaveK_ ?k1 ?k2 ?_; (case k1 => k_asm); (case k2 => k_asm); k_whole); intro kF kN; k_dflt (refine' ret0 hret kF kN ?g1 ⟨⟨bb, hbb, rfl⟩, rfl⟩; (case g1 => k_extra "mine sub")))
  k_steps
theorem conL_c (w : World) (news : List (Addr × Obj)) (D : Addr) (xs : List Value) (ka : Nat) (ds : List Dat) (z : Addr) (d : Dat) (ma : (D, PySem.W.listOf (List.toArray xs) ka) ∈ news) (Da : DatAll news xs ds) (Dx : DatIn news (.ref z) d) (ha : ∀ d ∈ ds, kqdOk 8 d = true) (hkd : kqdOk 8 d = true) :
  Ctr w 105 news [.ref D, .ref z] 1 120 (fun r tl => (∃ b : Bool, (b = true ↔ d ∈ ds) ∧ r = .bool b) ∧ tl = []) := by
  k_with_none
  w_top off
  k_with "mine mem" => (first | (refine' mem_here ?_; ktr_member) | (refine' mem_appR ?_; k_mem) | (refine' mem_appL ?_; k_mem) | fail)
  k_with "mine ltL" => ((repeat (first | with_reducible exact lt_up0 | with_reducible refine lt_up ?_)); done)
  k_with "mine tk2" => (first | with_reducible assumption | with_reducible exact le_one | with_reducible exact Nat.le_refl _ | with_reducible exact Nat.succ_le_of_lt (by with_reducible assumption) | (with_reducible refine le_up ?_; k_extra "mine tk2") | (with_reducible refine le_chain (by with_reducible assumption) ?_; k_extra "mine tk2"))
  k_with "mine tk1" => ((try dsimp only); k_extra "mine tk2")
  k_with "mine size" => (first | (refine' sz_arr ?szA ?szB; (case szA => with_reducible assumption); (case szB => rfl)) | (refine' sz_line ?szA ?szB; (case szA => with_reducible assumption); (case szB => rfl)) | exact Nat.le_of_ble_eq_true rfl | fail)
  k_with "mine room" => ((first | k_dflt refine' rm2 ?rmA ?rmB | k_dflt refine' rm1 ?rmA ?rmB | k_dflt refine' rm0 ?rmA); (case rmA => k_dflt assumption); (try (case rmB => rfl)))
  k_with "mine ne" => (refine neN ?_; (try dsimp only); first | exact ne_all (by with_reducible assumption) (by k_mem) | exact ne_all' (by with_reducible assumption) (by k_mem) | with_reducible assumption | exact Ne.symm (by with_reducible assumption) | exact ne_gt (by k_extra "mine ltL") | exact ne_lt (by k_extra "mine ltL") | exact ne_gt (by with_reducible assumption) | exact ne_lt (by with_reducible assumption) | exact ne_far (by with_reducible assumption) (by k_extra "mine ltL") | exact ne_far' (by with_reducible assumption) (by k_extra "mine ltL") | omega | fail)
  k_with "mine all" => (first | with_reducible assumption | exact all_ne (by with_reducible assumption) (by k_extra "mine sub") | fail)
  k_with "mine free" => (intro yy; intros; repeat (first | with_reducible exact rfl | with_reducible exact forget_off (by with_reducible assumption) | (refine' Eq.trans (if_neg ?fnC) ?_; (case fnC => first | with_reducible assumption | exact ne_free (by with_reducible assumption) (by kernel_rfl))) | exact rfl))
  k_with "evalPairs" => (k_here; dsimp only)
  k_with "Exists" => (k_here; dsimp only)
  k_with "execs cons" => (k_here; refine' nx_start ?_; intro tkz htkz; (try dsimp only at htkz))
  k_with "Nx" => ((try dsimp only); (first | (with_reducible refine' nx_cons0 ?_; intro tkz htkz) | (with_reducible refine' nx_cons ?_; intro tkz htl htkz) | ((first | with_reducible refine' nx_nil0 ?_ | with_reducible refine' nx_ret0 ?_ | with_reducible refine' nx_open0 ?_); (try dsimp only)) | ((first | with_reducible refine' nx_nil ?_ | with_reducible refine' nx_ret ?_ | with_reducible refine' nx_open ?_ | with_reducible refine' nx_brk ?_ | with_reducible refine' nx_cont ?_); intro htl; (try dsimp only at htl); (try dsimp only))))
  k_with "execs nil" => (k_here; (refine wpAny_execs_nil ?_); (try dsimp only))
  k_with "newList" => (k_here; k_dflt (refine' new_lst ?nlF ?nlN ?nlz ?_; (case nlF => k_asm); (case nlN => k_asm); (case nlz => rfl); k_whole); intro d' h' F' N' l1; (try k_sweep))
  k_with "newTuple" => (k_here; k_dflt (refine' new_tup ?nlF ?nlN ?nlz ?_; (case nlF => k_asm); (case nlN => k_asm); (case nlz => rfl); k_whole); intro d' h' F' N' l1; (try k_sweep))
  k_with "mine sub" => ((repeat (first | with_reducible exact sub_nil | with_reducible exact sub_app | with_reducible refine sub_cons ?_ | with_reducible refine sub_app' ?_)); done)
  k_with "mine end2" => ((case F => k_asm); (case N => k_asm); (case S => k_extra "mine sub"); (case P => (refine' lt_sub ?a ?b; (case a => with_reducible assumption); (case b => k_extra "mine sub"))); (case R => (refine' lt_sub ?a ?b; (case a => with_reducible assumption); (case b => k_extra "mine sub"))))
  unfold Ctr
  k_fill
  intro mean mg mb dp un gd cn cs a_ ccd cl outer A₀ base h₀ L m s Q E B F X N T hk hd hu hret
  refine wpAny_call ?_
  k_dflt ktr_enter
  k_with "TkLe" => (refine' tkle_intro ?_; intro htl; (try dsimp only at htl); (try dsimp only))
  k_with "compareOp In" => (k_dflt (refine' is_in ?iN ?im Da Dx ha hkd ?iu ?_; (case iN => k_asm); (case im => with_reducible assumption); (case iu => ktr_units)); intro bb hbb)
  k_with "LeaveK" => (k_dflt (refine' leaveK_ ?k1 ?k2 ?_; (case k1 => k_asm); (case k2 => k_asm); k_whole); intro kF kN; k_dflt (refine' ret0 hret kF kN ?g1 ⟨⟨bb, hbb, rfl⟩, rfl⟩; (case g1 => k_extra "mine sub")))
  k_steps
/-! the two tests of a claim -/
noncomputable def pB (f g : Fm) (n : Int) : Bool := (!(Builtin.bitAnd (iv f.bits) (Builtin.bitNot n) != 0)) && (!(Builtin.bitAnd n (Builtin.bitNot (iv g.bits)) != 0))
noncomputable def pL (f g : Fm) (n : Int) : Bool := decide (Builtin.bitOr (iv (leastBV f)) n = n) && decide (Builtin.bitOr n (iv (mostBV g)) = iv (mostBV g))
theorem pB_1 {f g : Fm} {n : Int} (h : Builtin.bitAnd (iv f.bits) (Builtin.bitNot n) ≠ 0) : false = pB f g n := by unfold pB; simp [h]
theorem pB_2 {f g : Fm} {n : Int} (h : Builtin.bitAnd (iv f.bits) (Builtin.bitNot n) = 0) : (!(Builtin.bitAnd n (Builtin.bitNot (iv g.bits)) != 0)) = pB f g n := by unfold pB; simp [h]
theorem pB_3 {f g : Fm} {n : Int} (h : Builtin.bitAnd (iv f.bits) (Builtin.bitNot n) = 0) (k : Builtin.bitAnd n (Builtin.bitNot (iv g.bits)) ≠ 0) : false = pB f g n := by unfold pB; simp [h, k]
theorem pB_4 {f g : Fm} {n : Int} (h : Builtin.bitAnd (iv f.bits) (Builtin.bitNot n) = 0) (k : Builtin.bitAnd n (Builtin.bitNot (iv g.bits)) = 0) : true = pB f g n := by unfold pB; simp [h, k]
theorem pL_1 {f g : Fm} {n : Int} (h : ¬ Builtin.bitOr (iv (leastBV f)) n = n) : false = pL f g n := by unfold pL; simp [h]
theorem pL_2 {f g : Fm} {n : Int} (h : Builtin.bitOr (iv (leastBV f)) n = n) : decide (Builtin.bitOr n (iv (mostBV g)) = iv (mostBV g)) = pL f g n := by unfold pL; simp [h]
theorem pL_3 {f g : Fm} {n : Int} (h : Builtin.bitOr (iv (leastBV f)) n = n) (k : ¬ Builtin.bitOr n (iv (mostBV g)) = iv (mostBV g)) : false = pL f g n := by unfold pL; simp [h, k]
theorem pL_4 {f g : Fm} {n : Int} (h : Builtin.bitOr (iv (leastBV f)) n = n) (k : Builtin.bitOr n (iv (mostBV g)) = iv (mostBV g)) : true = pL f g n := by unfold pL; simp [h, k]
theorem if_bne {b : Bool} {P R : Prop} (h : R) : if (b != b) = true then P else R := by
  rw [if_neg (by rw [bne_self_eq_false]; exact Bool.false_ne_true)]; exact h
theorem iv_inj {n : Nat} {a b : BitVec n} : iv a = iv b ↔ a = b := by
  unfold iv
  constructor
  · intro h; exact BitVec.eq_of_toNat_eq (by exact_mod_cast h)
  · rintro rfl; rfl
theorem filter_ivs {p : Int → Bool} {q : BitVec 16 → Bool} (h : ∀ c, p (iv c) = q c) : ∀ l : List (BitVec 16), (ivs l).filter p = ivs (l.filter q) := by
  intro l
  unfold ivs
  rw [List.filter_map]
  congr 1
  exact List.filter_congr fun c _ => h c
theorem not_ne (x : Int) : (!(x != 0)) = decide (x = 0) := by
  by_cases h : x = 0 <;> simp [h]
theorem pB_iv (f g : Fm) (c : BitVec 16) : pB f g (iv c) = (decide (f.bits &&& ~~~c = 0#16) && decide (c &&& ~~~g.bits = 0#16)) := by
  unfold pB
  rw [iv_andnot, iv_andnot, not_ne, not_ne, decide_eq_decide.mpr (iv_zero _), decide_eq_decide.mpr (iv_zero _)]
theorem pL_iv (f g : Fm) (c : BitVec 16) : pL f g (iv c) = (decide (leastBV f ||| c = c) && decide (c ||| mostBV g = mostBV g)) := by
  unfold pL
  rw [iv_or, iv_or, decide_eq_decide.mpr iv_inj, decide_eq_decide.mpr iv_inj]
theorem filter_B (f g : Fm) : (ivs claimsBV).filter (pB f g) = ivs (betw f g) := filter_ivs (pB_iv f g) claimsBV
theorem filter_L {f g : Fm} (hf : f.names NA) (hg : g.names NB) : (ivs claimsBV).filter (pL f g) = ivs (betw f g) := by
  rw [betw_eq hf hg]
  exact filter_ivs (pL_iv f g) claimsBV
theorem mem_dat {l : List (BitVec 16)} {c : BitVec 16} : Dat.int (iv c) ∈ (ivs l).map Dat.int ↔ c ∈ l := by
  unfold ivs
  simp only [List.map_map, List.mem_map, Function.comp]
  constructor
  · rintro ⟨a, ha, e⟩
    rw [Dat.int.injEq, iv_inj] at e
    rw [← e]; exact ha
  · intro h; exact ⟨c, h, rfl⟩
theorem follows_iv (f g : Fm) : (!(Builtin.bitAnd (iv f.bits) (Builtin.bitNot (iv g.bits)) != 0)) = follows f g := by
  rw [iv_andnot, not_ne, decide_eq_decide.mpr (iv_zero _)]; rfl
theorem ivs_nil {l : List (BitVec 16)} : ivs l = [] ↔ l = [] := by unfold ivs; exact List.map_eq_nil_iff
theorem betw_follows {f g : Fm} (hf : f.names NA) (hg : g.names NB) : (!decide (ivs (betw f g) = [])) = follows f g := by
  rw [follows_betw hf hg]
  by_cases h : betw f g = []
  · rw [decide_eq_true (ivs_nil.mpr h), decide_eq_false (fun q => q h)]; rfl
  · rw [decide_eq_false (fun q => h (ivs_nil.mp q)), decide_eq_true h]; rfl
section
variable {prog : Program} {w : World} {A : Around} {E : Value → Shared → Prop} {s : Shared} {h₀ : Heap} {L a b : Addr} {news : List (Addr × Obj)} {xs ys : List Value} {ns ms : List Int} {ka kb : Nat} {Q : Value → Shared → Prop}
theorem ne_ints_same (N : News h₀ L s.heap news) (ma : (a, PySem.W.listOf (List.toArray xs) ka) ∈ news) (mb : (b, PySem.W.listOf (List.toArray ys) kb) ∈ news) (hi : IntsAre xs ns) (hj : IntsAre ys ms) (e : ns = ms) (hu : A.units + 64 < cLine) (h : Q (.bool false) s) : wpAny (model prog w) A (compareOp .NotEq (.ref a) (.ref b)) Q E s :=
  ke_ne_ints (News.isList N ma) (News.isList N mb) hi hj hu (by rw [decide_eq_true e]; exact h)
theorem ne_ints_nil (N : News h₀ L s.heap news) (ma : (a, PySem.W.listOf (List.toArray xs) ka) ∈ news) (mb : (b, PySem.W.listOf (List.toArray []) kb) ∈ news) (hi : IntsAre xs ns) (hu : A.units + 64 < cLine) (h : Q (.bool (!decide (ns = []))) s) : wpAny (model prog w) A (compareOp .NotEq (.ref a) (.ref b)) Q E s :=
  ke_ne_ints (News.isList N ma) (News.isList N mb) hi .nil hu h
end
/-- the claims between are told, and whether the second formula follows -/
inductive P6 (f g : Fm) (h₀ : Heap) (L : Addr) (h : Heap) (m : Str → Option Value) : Prop where
  | mk (tf tg D B : Addr) (o1 o2 o4 : Obj) (a0 a1 a2 b0 b1 b2 : Value) (k2 k3 j2 j3 t0 t1 t2 t3 : Tok) (nf ng e eB : Nat) (vs : List Value) (cn0 : o1.data = .cell (some (.ref tf))) (cn1 : o2.data = .cell (some (.ref tg))) (cn2 : o4.data = .cell (some (.ref D))) (cn3 : IntsAre vs (ivs (betw f g))) (cn4 : m (Str.ofString "between") = some (.ref B)) (cn5 : m (Str.ofString "follows") = some (.bool (follows f g))) (cn6 : News h₀ L h [(B, PySem.W.listOf (List.toArray vs) eB), (D, PySem.W.listOf [Value.int 43690 t0, .int 52428 t1, .int 61680 t2, .int 65280 t3].toArray e), (tf, tup [a0, a1, a2, .int (iv f.pol.1) k2, .int (iv f.pol.2) k3] nf), (tg, tup [b0, b1, b2, .int (iv g.pol.1) j2, .int (iv g.pol.2) j3] ng), (L + 1 + 1 + 1 + 1, o4), (L + 1 + 1, o2), (L + 1, o1)]) : P6 f g h₀ L h m
section
variable {f g : Fm} {h₀ h : Heap} {L tf tg D B : Addr} {m : Str → Option Value} {nw : List (Addr × Obj)} {o1 o2 o4 : Obj} {a0 a1 a2 b0 b1 b2 : Value} {k2 k3 j2 j3 t0 t1 t2 t3 : Tok} {nf ng e eB : Nat} {vs : List Value}
theorem P6.of (N : News h₀ L h nw) (hB : (B, PySem.W.listOf (List.toArray vs) eB) ∈ nw) (hD : (D, PySem.W.listOf [Value.int 43690 t0, .int 52428 t1, .int 61680 t2, .int 65280 t3].toArray e) ∈ nw) (hf : (tf, tup [a0, a1, a2, .int (iv f.pol.1) k2, .int (iv f.pol.2) k3] nf) ∈ nw) (hg : (tg, tup [b0, b1, b2, .int (iv g.pol.1) j2, .int (iv g.pol.2) j3] ng) ∈ nw)
    (h1 : (L + 1, o1) ∈ nw) (h2 : (L + 1 + 1, o2) ∈ nw) (h4 : (L + 1 + 1 + 1 + 1, o4) ∈ nw)
    (d1 : o1.data = .cell (some (.ref tf))) (d2 : o2.data = .cell (some (.ref tg))) (d4 : o4.data = .cell (some (.ref D)))
    (hv : IntsAre vs (ivs (betw f g))) (hm : m (Str.ofString "between") = some (.ref B)) (hm2 : m (Str.ofString "follows") = some (.bool (follows f g))) : P6 f g h₀ L h m :=
  ⟨tf, tg, D, B, o1, o2, o4, a0, a1, a2, b0, b1, b2, k2, k3, j2, j3, t0, t1, t2, t3, nf, ng, e, eB, vs, d1, d2, d4, hv, hm, hm2, News.sub N (sub_all_cons hB (sub_all_cons hD (sub_all_cons hf (sub_all_cons hg (sub_all_cons h4 (sub_all_cons h2 (sub_all_cons h1 sub_all_nil)))))))⟩
end
theorem piece5 (w : World) (r : DefRec) (hr : IsLaw r) (f g : Fm) (hnf : f.names NA) (hng : g.names NB) : Piece w r.scope ((r.body.drop 17).take 5) (P5 f g) (P6 f g) := by
  k_with_none
  w_top off
  k_with "mine mem" => (first | (refine' mem_here ?_; ktr_member) | (refine' mem_appR ?_; k_mem) | (refine' mem_appL ?_; k_mem) | fail)
  k_with "mine ltL" => ((repeat (first | with_reducible exact lt_up0 | with_reducible refine lt_up ?_)); done)
  k_with "mine tk2" => (first | with_reducible assumption | with_reducible exact le_one | with_reducible exact Nat.le_refl _ | with_reducible exact Nat.succ_le_of_lt (by with_reducible assumption) | (with_reducible refine le_up ?_; k_extra "mine tk2") | (with_reducible refine le_chain (by with_reducible assumption) ?_; k_extra "mine tk2"))
  k_with "mine tk1" => ((try dsimp only); k_extra "mine tk2")
  k_with "mine size" => (first | (refine' sz_arr ?szA ?szB; (case szA => with_reducible assumption); (case szB => rfl)) | (refine' sz_line ?szA ?szB; (case szA => with_reducible assumption); (case szB => rfl)) | exact Nat.le_of_ble_eq_true rfl | fail)
  k_with "mine room" => ((first | k_dflt refine' rm2 ?rmA ?rmB | k_dflt refine' rm1 ?rmA ?rmB | k_dflt refine' rm0 ?rmA); (case rmA => k_dflt assumption); (try (case rmB => rfl)))
  k_with "mine ne" => (refine neN ?_; (try dsimp only); first | exact ne_all (by with_reducible assumption) (by k_mem) | exact ne_all' (by with_reducible assumption) (by k_mem) | with_reducible assumption | exact Ne.symm (by with_reducible assumption) | exact ne_gt (by k_extra "mine ltL") | exact ne_lt (by k_extra "mine ltL") | exact ne_gt (by with_reducible assumption) | exact ne_lt (by with_reducible assumption) | exact ne_far (by with_reducible assumption) (by k_extra "mine ltL") | exact ne_far' (by with_reducible assumption) (by k_extra "mine ltL") | omega | fail)
  k_with "mine all" => (first | with_reducible assumption | exact all_ne (by with_reducible assumption) (by k_extra "mine sub") | fail)
  k_with "mine free" => (intro yy; intros; repeat (first | with_reducible exact rfl | with_reducible exact forget_off (by with_reducible assumption) | (refine' Eq.trans (if_neg ?fnC) ?_; (case fnC => first | with_reducible assumption | exact ne_free (by with_reducible assumption) (by kernel_rfl))) | exact rfl))
  k_with "evalPairs" => (k_here; dsimp only)
  k_with "Exists" => (k_here; dsimp only)
  k_with "execs cons" => (k_here; refine' nx_start ?_; intro tkz htkz; (try dsimp only at htkz))
  k_with "Nx" => ((try dsimp only); (first | (with_reducible refine' nx_cons0 ?_; intro tkz htkz) | (with_reducible refine' nx_cons ?_; intro tkz htl htkz) | ((first | with_reducible refine' nx_nil0 ?_ | with_reducible refine' nx_ret0 ?_ | with_reducible refine' nx_open0 ?_); (try dsimp only)) | ((first | with_reducible refine' nx_nil ?_ | with_reducible refine' nx_ret ?_ | with_reducible refine' nx_open ?_ | with_reducible refine' nx_brk ?_ | with_reducible refine' nx_cont ?_); intro htl; (try dsimp only at htl); (try dsimp only))))
  k_with "execs nil" => (k_here; (refine wpAny_execs_nil ?_); (try dsimp only))
  k_with "newList" => (k_here; k_dflt (refine' new_lst ?nlF ?nlN ?nlz ?_; (case nlF => k_asm); (case nlN => k_asm); (case nlz => rfl); k_whole); intro d' h' F' N' l1; (try k_sweep))
  k_with "newTuple" => (k_here; k_dflt (refine' new_tup ?nlF ?nlN ?nlz ?_; (case nlF => k_asm); (case nlN => k_asm); (case nlz => rfl); k_whole); intro d' h' F' N' l1; (try k_sweep))
  k_with "mine sub" => ((repeat (first | with_reducible exact sub_nil | with_reducible exact sub_app | with_reducible refine sub_cons ?_ | with_reducible refine sub_app' ?_)); done)
  k_with "mine end2" => ((case F => k_asm); (case N => k_asm); (case S => k_extra "mine sub"); (case P => (refine' lt_sub ?a ?b; (case a => with_reducible assumption); (case b => k_extra "mine sub"))); (case R => (refine' lt_sub ?a ?b; (case a => with_reducible assumption); (case b => k_extra "mine sub"))))
  k_with "mine mem" => (first | (refine' mem_here ?_; ktr_member) | (refine' mem_here ?_; with_reducible assumption) | (refine' mem_appR ?_; k_mem) | (refine' mem_appL ?_; k_mem) | fail)
  obtain ⟨nm_, ps_, bd_, sc_, pp_⟩ := r
  have e : (recsOf hd.view_1_40).getLast? = some ⟨?n,?p,?b,?s,?q⟩ := by with_unfolding_all rfl
  unfold IsLaw at hr
  rw [e] at hr
  obtain ⟨rfl, rfl, rfl, rfl, rfl⟩ := DefRec.mk.inj (Option.some.inj hr)
  clear e hr
  simp only [List.drop_succ_cons, List.drop_zero, List.take_succ_cons, List.take_zero]
  unfold Piece
  k_fill
  intro rest mean mg mb dp un gd cn L a ccd outer A₀ base h₀ m s Q E B F X T hd hu ht hE hP hk
  obtain ⟨tf, tg, D, C, o1, o2, o4, o5, o6, o7, o8, a0, a1, a2, b0, b1, b2, k2, k3, j2, j3, t0, t1, t2, t3, t5, t6, t7, t8, nf, ng, e, eC, vs, d1, d2, d4, d5, d6, d7, d8, iv5, hm5, N⟩ := hP
  obtain ⟨V, hV⟩ : ∃ V : List (Addr × Obj), V = [(C, PySem.W.listOf (List.toArray vs) eC), (D, PySem.W.listOf [Value.int 43690 t0, .int 52428 t1, .int 61680 t2, .int 65280 t3].toArray e), (tf, tup [a0, a1, a2, .int (iv f.pol.1) k2, .int (iv f.pol.2) k3] nf), (tg, tup [b0, b1, b2, .int (iv g.pol.1) j2, .int (iv g.pol.2) j3] ng), (L + 1 + 1 + 1 + 1 + 1 + 1 + 1 + 1, o8), (L + 1 + 1 + 1 + 1 + 1 + 1 + 1, o7), (L + 1 + 1 + 1 + 1 + 1 + 1, o6), (L + 1 + 1 + 1 + 1 + 1, o5), (L + 1 + 1 + 1 + 1, o4), (L + 1 + 1, o2), (L + 1, o1)] := ⟨_, rfl⟩
  have NV : News h₀ L s.heap (V) := News.sub N (by subst hV; repeat' (first | exact sub_all_nil | refine sub_all_cons (by k_mem) ?_))
  have vm0 : (C, PySem.W.listOf (List.toArray vs) eC) ∈ V := by subst hV; show @List.Mem (Addr × Obj) _ _; k_mem
  have vm1 : (D, PySem.W.listOf [Value.int 43690 t0, .int 52428 t1, .int 61680 t2, .int 65280 t3].toArray e) ∈ V := by subst hV; show @List.Mem (Addr × Obj) _ _; k_mem
  have vm2 : (tf, tup [a0, a1, a2, .int (iv f.pol.1) k2, .int (iv f.pol.2) k3] nf) ∈ V := by subst hV; show @List.Mem (Addr × Obj) _ _; k_mem
  have vm3 : (tg, tup [b0, b1, b2, .int (iv g.pol.1) j2, .int (iv g.pol.2) j3] ng) ∈ V := by subst hV; show @List.Mem (Addr × Obj) _ _; k_mem
  have vm4 : (L + 1 + 1 + 1 + 1 + 1 + 1 + 1 + 1, o8) ∈ V := by subst hV; show @List.Mem (Addr × Obj) _ _; k_mem
  have vm5 : (L + 1 + 1 + 1 + 1 + 1 + 1 + 1, o7) ∈ V := by subst hV; show @List.Mem (Addr × Obj) _ _; k_mem
  have vm6 : (L + 1 + 1 + 1 + 1 + 1 + 1, o6) ∈ V := by subst hV; show @List.Mem (Addr × Obj) _ _; k_mem
  have vm7 : (L + 1 + 1 + 1 + 1 + 1, o5) ∈ V := by subst hV; show @List.Mem (Addr × Obj) _ _; k_mem
  have vm8 : (L + 1 + 1 + 1 + 1, o4) ∈ V := by subst hV; show @List.Mem (Addr × Obj) _ _; k_mem
  have vm9 : (L + 1 + 1, o2) ∈ V := by subst hV; show @List.Mem (Addr × Obj) _ _; k_mem
  have vm10 : (L + 1, o1) ∈ V := by subst hV; show @List.Mem (Addr × Obj) _ _; k_mem
  clear hV N
  replace F := Fr.named F hm5
  simp only [List.cons_append, List.nil_append]
  k_with "TkLe" => (refine' tkle_intro ?_; intro htl; (try dsimp only at htl); (try dsimp only))
  k_with "call ref" => (first | (k_dflt (refine' Ctr.use_v (notI_c w _ _ _) ?yB ?yFr ?yX ?yN ?yT ?yk ?yd ?yu ?_; (case yB => k_asm); (case yFr => k_asm); (case yX => k_asm); (case yN => k_asm); (case yT => k_asm); (case yk => rfl); (case yd => ktr_room); (case yu => ktr_units)); (intro h' tkr F' N'; (try dsimp only); (try rw [follows_iv]))) | (k_dflt (refine' Ctr.use_t (andI_c w _ _ _ _ _) ?yB ?yFr ?yX ?yN ?yT ?yk ?yd ?yu ?_; (case yB => k_asm); (case yFr => k_asm); (case yX => k_asm); (case yN => k_asm); (case yT => k_asm); (case yk => rfl); (case yd => ktr_room); (case yu => ktr_units)); (intro tr h' tkr F' N'; (try dsimp only))) | (k_dflt (refine' Ctr.use_t (invI_c w _ _ _) ?yB ?yFr ?yX ?yN ?yT ?yk ?yd ?yu ?_; (case yB => k_asm); (case yFr => k_asm); (case yX => k_asm); (case yN => k_asm); (case yT => k_asm); (case yk => rfl); (case yd => ktr_room); (case yu => ktr_units)); (intro tr h' tkr F' N'; (try dsimp only))) | (k_dflt (refine' Ctr.use (conI_c w _ _ _ _ _ _ _ _ ?cm (ints_dat iv5) (.int _ _) (ok_ints _) rfl) ?yB ?yFr ?yX ?yN ?yT ?yk ?yd ?yu ?_; (case yB => k_asm); (case yFr => k_asm); (case yX => k_asm); (case yN => k_asm); (case yT => k_asm); (case yk => rfl); (case yd => ktr_room); (case yu => ktr_units); (case cm => k_mem)); (intro r tl h' tkr F' N' ord post; k_dflt (obtain ⟨⟨bb, hbb, rfl⟩, rfl⟩ := post); (try dsimp only); (try simp only [List.nil_append] at N'); (have hq := hbb.mpr (mem_dat.mpr (by first | exact least_claim hnf | exact most_claim hng))); subst hq)))
  k_with "eval ListComp" => (k_dflt (refine' LCt.ListComp_T (F₀ := by k_asm) (by with_unfolding_all rfl) (by decide) (by rfl) (by decide) (by rfl) ?_ ?ls; (case ls => intro _; rfl)))
  k_with "CompSrcT" => (first | (have := hwB; (k_dflt (refine' src_intsT (pL f g) ?sh ?sF ?sN ?sm iv5 ?sz ?_ ?_ ?_; (case sh => rfl); (case sF => k_asm); (case sN => k_asm); (case sm => k_mem); (case sz => (rw [ivs_len]; decide))))) | (k_dflt (refine' src_intsTA (pB f g) ?sh ?sF ?sN ?sm iv5 ?sz ?_ ?_ ?_; (case sh => rfl); (case sF => k_asm); (case sN => k_asm); (case sm => k_mem); (case sz => (rw [ivs_len]; decide)))))
  k_with "TurnI" => (k_dflt (refine' TurnI.of ?tF ?tN ?tS rfl; (case tF => k_asm); (case tN => k_asm); (case tS => k_extra "mine sub")))
  k_with "compareOp NotEq ref ref" => (first | (k_dflt (refine' ne_ints_nil ?qN ?qa ?qb hwB ?qu ?_; (case qN => k_asm); (case qa => k_mem); (case qb => k_mem); (case qu => ktr_units)); rw [betw_follows hnf hng]) | (k_dflt (refine' ne_ints_same ?qN ?qa ?qb hwB hwj rfl ?qu ?_; (case qN => k_asm); (case qa => k_mem); (case qb => k_mem); (case qu => ktr_units))))
  k_with "ite" => (k_dflt (refine' if_bne ?_))
  k_with "TurnB" => (k_dflt (refine' TurnB.of ?tF ?tN ?tS ?te; (case tF => k_asm); (case tN => k_asm); (case tS => k_extra "mine sub"); (case te => first | exact pB_1 (by assumption) | exact pB_2 (by assumption) | exact pB_3 (by assumption) (by assumption) | exact pB_4 (by assumption) (by assumption) | exact pL_1 (by assumption) | exact pL_2 (by assumption) | exact pL_3 (by assumption) (by assumption) | exact pL_4 (by assumption) (by assumption))))
  k_with "FinW" => (refine' FinW.of ?_; intro Dj hj_ tkj wj ej hwj Fj Nj oj; (clear oj); (try dsimp only); (first | (have := hwB; rw [filter_L hnf hng] at hwj) | (rw [filter_B] at hwj; rename IntsAre wj _ => hwB)))
  k_steps
  all_goals (rename Fr _ _ _ _ => kF9; rename News _ _ _ _ => kN9; k_dflt (refine' hk _ _ _ kF9 ?zt (P6.of kN9 ?zB ?zD ?zf ?zg ?z1 ?z2 ?z4 ?zd1 ?zd2 ?zd4 hwB ?zm ?zm2); (case zm => rfl); (case zm2 => rfl); (case zB => k_mem); (case z1 => k_mem); (case z2 => k_mem); (case z4 => k_mem); (case zd1 => with_reducible assumption); (case zd2 => with_reducible assumption); (case zd4 => with_reducible assumption); (case zD => k_mem); (case zf => k_mem); (case zg => k_mem); (case zt => k_extra "mine tk1")))
theorem cells_none : ∀ (r : List (Str × NameKind)) (n : Nat) (acc : List (Str × Addr)), (∀ y ∈ r, y.2 ≠ .cell) → cellsFrom n r acc = acc
  | [], _, _, _ => rfl
  | (a, k) :: r, n, acc, h => by
    unfold cellsFrom
    have hk : (k == NameKind.cell) = false := by simpa using h (a, k) (.head _)
    rw [hk, if_neg Bool.false_ne_true]
    exact cells_none r n acc fun y hy => h y (.tail _ hy)
theorem push_none : ∀ (r : List (Str × NameKind)) (h : Heap), (∀ y ∈ r, y.2 ≠ .cell) → pushCells h r = h
  | [], _, _ => rfl
  | (a, k) :: r, h, hr => by
    unfold pushCells
    have hk : (k == NameKind.cell) = false := by simpa using hr (a, k) (.head _)
    rw [hk, if_neg Bool.false_ne_true]
    exact push_none r h fun y hy => hr y (.tail _ hy)
noncomputable abbrev cellO : Obj := { cls := .type "cell", data := .cell none }
section
variable {prog : Program} {w : World} {A : Around} {E : Value → Shared → Prop} {s : Shared} {h₀ : Heap} {L : Addr} {m : Str → Option Value} {env : Env}
theorem newEnv_K {scope : Scope} {globals : Addr} {cl : List (Str × Addr)} {qual : Str} {nm0 x : Str} {rest : List (Str × NameKind)} {Q : Env → Shared → Prop}
    (hsc : scope.names = (nm0, .local) :: (x, .cell) :: rest) (hrest : ∀ y ∈ rest, y.2 ≠ .cell)
    (h : Q { scope, locals := s.heap.objs.size, globals, cells := (x, s.heap.objs.size + 1) :: cl, qual, func := none, code := env.code, frame := env.frame, builtins := env.builtins } { s with heap := (s.heap.push { cls := .type "dict", data := .dict #[] }).push cellO }) :
    wpAny (model prog w) A (newFunctionEnv scope globals cl [] qual none .none (some env)) Q E s := by
  simp only [newFunctionEnv, Option.isSome_some, if_true]
  refine wpAny_bind (wpAny_alloc ?_)
  refine wpAny_bind (wpAny_layCells _ (fun name kind cells => by cases hkc : kind == NameKind.cell <;> simp [hkc]) _ _ _ _ ?_)
  have e1 : cellsFrom ({ s with heap := s.heap.push { cls := .type "dict", data := .dict #[] } } : Shared).heap.objs.size scope.names cl = (x, s.heap.objs.size + 1) :: cl := by
    rw [show ({ s with heap := s.heap.push { cls := .type "dict", data := .dict #[] } } : Shared).heap.objs.size = s.heap.objs.size + 1 from Heap.size_push .., hsc]
    show cellsFrom (s.heap.objs.size + 1 + 1) rest ((x, s.heap.objs.size + 1) :: cl) = _
    exact cells_none _ _ _ hrest
  have e2 : pushCells (s.heap.push { cls := .type "dict", data := .dict #[] }) scope.names = (s.heap.push { cls := .type "dict", data := .dict #[] }).push cellO := by
    rw [hsc]
    show pushCells ((s.heap.push { cls := .type "dict", data := .dict #[] }).push cellO) rest = _
    exact push_none _ _ hrest
  rw [e1, e2]
  refine wpAny_bind ?_
  rw [List.forIn_nil]
  exact wpAny_pure (wpAny_pure h)
/-- one turn of a comprehension whose name is a cell -/
noncomputable def TurnK (prog : Program) (w : World) (A : Around) (h₀ : Heap) (L : Addr) (m : Str → Option Value) (env : Env) (elt : PySem.Expr) (x : Str) (scope : Scope) (cl : List (Str × Addr)) (s : Shared) (its : Array Value) (news : List (Addr × Obj)) (Rel : Nat → List Value → List (Addr × Obj) → Prop) : Prop :=
  ∀ i v ys acc I oI C oC K oK D h tk (E' : Value → Shared → Prop), its[i]? = some v → Rel i ys acc → oK.data = .cell (some v) → Fr h₀ L h m → News h₀ L h ((I, oI) :: (C, oC) :: (K, oK) :: (D, LCg.lst ys) :: (acc ++ news)) →
    wpAny (model prog w) A (eval elt (compEnvC scope ((x, K) :: cl) C env)) (fun y s₂ => ∃ h' tk' tl, s₂ = { s with heap := h', toks := tk' } ∧ Fr h₀ L h' m ∧ News h₀ L h' (tl ++ ((I, oI) :: (C, oC) :: (K, oK) :: (D, LCg.lst ys) :: (acc ++ news))) ∧
      (∀ p ∈ tl, ∀ q ∈ (I, oI) :: (C, oC) :: (K, oK) :: (D, LCg.lst ys) :: (acc ++ news), q.1 ≠ p.1) ∧ Rel (i + 1) (ys ++ [y]) (tl ++ acc)) E' { s with heap := h, toks := tk }
inductive BkJ (h₀ : Heap) (L : Addr) (m : Str → Option Value) (I ax Cc K D : Addr) (its : Array Value) (news : List (Addr × Obj)) (Rel : Nat → List Value → List (Addr × Obj) → Prop) (s₂ : Shared) (k : Nat) (s' : Shared) : Prop where
  | mk (h' : Heap) (tk i : Nat) (ys : List Value) (acc : List (Addr × Obj)) (m' : Str → Option Value) (oK : Obj) (xK : Option Value) (e0 : s' = { s₂ with heap := h', toks := tk }) (e1 : i ≤ its.size) (e2 : k = its.size + 1 - i) (e3 : ys.length = i) (e4 : h'.IsListIter I ax i ∧ h'.IsList ax its) (e5 : Fr h₀ L h' m) (e6 : h'.Ns Cc m') (e7 : oK.data = .cell xK)
      (e8 : News h₀ L h' ((K, oK) :: (D, LCg.lst ys) :: (acc ++ news))) (e9 : ∀ p ∈ acc ++ news, p.1 ≠ I ∧ p.1 ≠ Cc ∧ p.1 ≠ K ∧ p.1 ≠ D) (e10 : Rel i ys acc) : BkJ h₀ L m I ax Cc K D its news Rel s₂ k s'
theorem block_K {elt iter : PySem.Expr} {x nm0 : Str} {px : Pos} {scope : Scope} {rest : List (Str × NameKind)} {cl : List (Str × Addr)} {pos : Pos} {s₂ : Shared} {I ax : Addr} {its : Array Value} {e : Nat} {news : List (Addr × Obj)} {RR : Value → Addr → Result → Shared → Prop} (Rel : Nat → List Value → List (Addr × Obj) → Prop)
    (hh : A.handled = none) (hsc : scope.names = (nm0, .local) :: (x, .cell) :: rest) (hrest : ∀ y ∈ rest, y.2 ≠ .cell) (hne : (x == nm0) = false) (hkind : scope.kind = .function) (hsz : its.size ≤ sizeLine)
    (hst : s₂.heap.IsListIter I ax 0 ∧ s₂.heap.IsList ax its) (hIax : ax ≠ I) (F : Fr h₀ L s₂.heap m) (N : News h₀ L s₂.heap news) (hm : (ax, PySem.W.listOf its e) ∈ news) (hIL : L ≠ I) (hI₀ : h₀.get? I = none) (off : ∀ p ∈ news, p.1 ≠ I)
    (h0 : Rel 0 [] []) (turn : TurnK prog w A h₀ L m env elt x scope cl s₂ its news Rel)
    (hRR : ∀ D C h tk m' ys acc, Fr h₀ L h m → News h₀ L h ((D, LCg.lst ys) :: (acc ++ news)) → h.Ns C m' → h₀.get? C = none → h₀.get? D = none → C ≠ L → D ≠ L → C ≠ D → (∀ p ∈ acc ++ news, p.1 ≠ C) → Rel its.size ys acc → RR (.ref D) C (.ok .next) { s₂ with heap := h, toks := tk }) :
    wpAny (model prog w) A (newList []) (fun acc s₃ => wpAny (model prog w) A (newFunctionEnv scope env.globals cl [] env.qual none .none (some env)) (fun cenv s₄ =>
      codeAny (model prog w) A (.compStart (.ListComp elt [⟨.Name x px, iter, [], 0⟩] scope pos) 0 (.ref I) acc { cenv with scope := relabel scope env }) (RR acc cenv.locals) s₄) E s₃) E s₂ := by
  refine wpAny_newObj_type (newEnv_K hsc hrest ?_)
  dsimp only
  have W := Walks.list (prog := prog) (w := w) (A := A) hh I ax hIax its
  generalize hH2 : s₂.heap.push { cls := .type "list", dict := none, data := .seq ([] : List Value).toArray } = H2
  have hC : H2.objs.size = s₂.heap.objs.size + 1 := by rw [← hH2, Heap.size_push]
  generalize hH3 : (H2.push { cls := .type "dict", data := .dict #[] }).push cellO = h₁
  have hns₁ : h₁.Ns H2.objs.size (fun _ => none) := by
    rw [← hH3]
    exact (Heap.Ns.new H2 (.type "dict")).keeps fun b o e => Heap.get?_push_of_some _ e
  have hK₁ : h₁.get? (H2.objs.size + 1) = some cellO := by
    rw [← hH3, show H2.objs.size + 1 = (H2.push { cls := .type "dict", data := .dict #[] }).objs.size from (Heap.size_push ..).symm]
    exact Heap.get?_push_size _ rfl
  have below : ∀ b, b < s₂.heap.objs.size → b ≠ H2.objs.size ∧ b ≠ s₂.heap.objs.size ∧ b ≠ H2.objs.size + 1 := fun b hb => ⟨by rw [hC]; exact Nat.ne_of_lt (Nat.lt_succ_of_lt hb), Nat.ne_of_lt hb, by rw [hC]; exact Nat.ne_of_lt (Nat.lt_succ_of_lt (Nat.lt_succ_of_lt hb))⟩
  have up2 : ∀ b o, H2.get? b = some o → h₁.get? b = some o := fun b o e => by rw [← hH3]; exact Heap.get?_push_of_some _ (Heap.get?_push_of_some _ e)
  have old : ∀ b o, s₂.heap.get? b = some o → h₁.get? b = some o := fun b o e => up2 b o (by rw [← hH2]; exact Heap.get?_push_of_some _ e)
  have hacc : h₁.get? s₂.heap.objs.size = some (LCg.lst []) := up2 _ _ (by rw [← hH2]; exact Heap.get?_push_size _ rfl)
  have hIlt : I < s₂.heap.objs.size := by obtain ⟨⟨_, e, _⟩, _⟩ := hst; exact Heap.lt_size e
  have hst₁ : h₁.IsListIter I ax 0 ∧ h₁.IsList ax its := ⟨hst.1.at fun o e => old _ o e, hst.2.at fun o e => old _ o e⟩
  have fresh₀ : ∀ a, s₂.heap.objs.size ≤ a → h₀.get? a = none := fun a ha => by
    cases e : h₀.get? a with
    | none => rfl
    | some o' => exact absurd (Heap.lt_size (F.keep a o' e)) (Nat.not_lt.mpr ha)
  have hD₀ : h₀.get? s₂.heap.objs.size = none := fresh₀ _ (Nat.le_refl _)
  have hC₀ : h₀.get? H2.objs.size = none := fresh₀ _ (by rw [hC]; exact Nat.le_succ _)
  have hK₀ : h₀.get? (H2.objs.size + 1) = none := fresh₀ _ (by rw [hC]; omega)
  have hLlt : L < s₂.heap.objs.size := F.ns.lt
  have hDL : s₂.heap.objs.size ≠ L := Ne.symm (below L hLlt).2.1
  have hCL : H2.objs.size ≠ L := Ne.symm (below L hLlt).1
  have hKL : H2.objs.size + 1 ≠ L := Ne.symm (below L hLlt).2.2
  have hCI : I ≠ H2.objs.size := (below I hIlt).1
  have hDI : I ≠ s₂.heap.objs.size := (below I hIlt).2.1
  have hKI : I ≠ H2.objs.size + 1 := (below I hIlt).2.2
  have hDC : s₂.heap.objs.size ≠ H2.objs.size := by rw [hC]; exact Nat.ne_of_lt (Nat.lt_succ_self _)
  have hKC : H2.objs.size + 1 ≠ H2.objs.size := Nat.succ_ne_self _
  have hDK : s₂.heap.objs.size ≠ H2.objs.size + 1 := by rw [hC]; omega
  have off₀ : ∀ p ∈ news, p.1 ≠ I ∧ p.1 ≠ H2.objs.size ∧ p.1 ≠ H2.objs.size + 1 ∧ p.1 ≠ s₂.heap.objs.size := fun p hp => by
    have b := below _ (Heap.lt_size (N p hp).1)
    exact ⟨off p hp, b.1, b.2.2, b.2.1⟩
  have hkx : (compEnvC scope ((x, H2.objs.size + 1) :: cl) H2.objs.size env).kindOf x = some .cell := by
    show (relabel scope env).names.lookup x = some .cell
    unfold relabel
    rw [hsc]
    simp [List.lookup, hne]
  have loop : ∀ s₃ : Shared, (∃ tk, s₃ = { s₂ with heap := h₁, toks := tk }) →
      codeAny (model prog w) A (.compLoop (.ListComp elt [⟨.Name x px, iter, [], 0⟩] scope pos) 0 (.ref I) (.ref s₂.heap.objs.size) (compEnvC scope ((x, H2.objs.size + 1) :: cl) H2.objs.size env))
        (RR (.ref s₂.heap.objs.size) H2.objs.size) s₃ := by
    rintro s₃ ⟨tk₃, rfl⟩
    refine codeAny_compLoop_tests
      (BkJ h₀ L m I ax H2.objs.size (H2.objs.size + 1) s₂.heap.objs.size its news Rel s₂) ?_ (its.size + 1)
      ⟨h₁, tk₃, 0, [], [], _, cellO, none, rfl, Nat.zero_le _, rfl, rfl, hst₁, F.keeps old, hns₁, rfl, ?_, off₀, h0⟩
    · rintro k s' ⟨h', tk, i, ys, acc, m', oK, xK, rfl, hi, rfl, hyl, hst', F', hn', hdK, N', off', hR⟩
      by_cases hlt : i < its.size
      · refine W.item i _ _ _ hlt hst' fun v h₂ tk₂ hPv hst₂ hk₂ => ?_
        have gK : h'.get? (H2.objs.size + 1) = some oK := (N' _ (.head _)).1
        have gK₂ : h₂.get? (H2.objs.size + 1) = some oK := hk₂ _ _ (by simpa using Ne.symm hKI) gK
        refine wpAny_assign_Name (wpAny_storeName_cell (c := H2.objs.size + 1) (v₀ := xK) (by show (relabel scope env).kind = _; exact hkind) hkx (by show List.lookup x ((x, H2.objs.size + 1) :: cl) = _; simp [List.lookup]) ⟨oK, gK₂, hdK⟩ (fun h₃ hc₃ hs₃ => ?_))
        refine wpAny_tests_nil ?_
        simp only [if_true]
        obtain ⟨oK₃, eK₃, dK₃⟩ := hc₃
        have hst₃ : h₃.IsListIter I ax (i + 1) ∧ h₃.IsList ax its := ⟨hst₂.1.at fun o e => hs₃.extBut _ _ hKI e, hst₂.2.at fun o e => hs₃.extBut _ _ (off' (ax, _) (List.mem_append_right _ hm)).2.2.1 e⟩
        obtain ⟨oI, heI⟩ : ∃ o, h₃.get? I = some o := by obtain ⟨⟨o, e, _⟩, _⟩ := hst₃; exact ⟨o, e⟩
        have hn₂ : h₂.Ns H2.objs.size m' := hn'.at' fun o e => hk₂ _ o (by simpa using Ne.symm hCI) e
        have hn₃ : h₃.Ns H2.objs.size m' := hn₂.at' fun o e => hs₃.extBut _ o (Ne.symm hKC) e
        obtain ⟨oC, heC, hoC⟩ := LCg.ns_obj hn₃
        have F₂ : Fr h₀ L h₂ m := LCg.fr_but F' hk₂ hIL hI₀
        have F₃ : Fr h₀ L h₃ m := ⟨F₂.ns.at' fun o e => hs₃.extBut _ o (Ne.symm hKL) e, fun b o e => hs₃.extBut b o (fun q => by have q' : b = H2.objs.size + 1 := q; rw [q', hK₀] at e; cases e) (F₂.keep b o e), F₂.above⟩
        have N₂ : News h₀ L h₂ ((s₂.heap.objs.size, LCg.lst ys) :: (acc ++ news)) := LCg.news_but (fun p hp => N' p (.tail _ hp)) hk₂ fun p hp => by
          rcases List.mem_cons.mp hp with rfl | hp
          · exact Ne.symm hDI
          · exact (off' p hp).1
        have N₃ : News h₀ L h₃ ((I, oI) :: (H2.objs.size, oC) :: (H2.objs.size + 1, oK₃) :: (s₂.heap.objs.size, LCg.lst ys) :: (acc ++ news)) := fun p hp => by
          rcases List.mem_cons.mp hp with rfl | hp
          · exact ⟨heI, Ne.symm hIL, hI₀⟩
          · rcases List.mem_cons.mp hp with rfl | hp
            · exact ⟨heC, hCL, hC₀⟩
            · rcases List.mem_cons.mp hp with rfl | hp
              · exact ⟨eK₃, hKL, hK₀⟩
              · have z := N₂ p hp
                refine ⟨hs₃.extBut _ _ ?_ z.1, z.2⟩
                rcases List.mem_cons.mp hp with rfl | hp
                · exact hDK
                · exact (off' p hp).2.2.1
        refine wpAny_mono (turn i v ys acc I oI H2.objs.size oC (H2.objs.size + 1) oK₃ s₂.heap.objs.size h₃ _ _ hPv hR dK₃ F₃ N₃) (fun y s₄ h₄ => ?_) fun _ _ e => e
        obtain ⟨h₄, tk₄, tl, rfl, F₄, N₄, ord, hR₄⟩ := h₄
        have inR : ∀ {p}, p ∈ (I, oI) :: (H2.objs.size, oC) :: (H2.objs.size + 1, oK₃) :: (s₂.heap.objs.size, LCg.lst ys) :: (acc ++ news) → p ∈ tl ++ ((I, oI) :: (H2.objs.size, oC) :: (H2.objs.size + 1, oK₃) :: (s₂.heap.objs.size, LCg.lst ys) :: (acc ++ news)) := fun h => List.mem_append_right _ h
        have zI := (N₄ (I, oI) (inR (.head _))).1
        have zC := (N₄ (H2.objs.size, oC) (inR (.tail _ (.head _)))).1
        have zK := (N₄ (H2.objs.size + 1, oK₃) (inR (.tail _ (.tail _ (.head _))))).1
        have zD := (N₄ (s₂.heap.objs.size, LCg.lst ys) (inR (.tail _ (.tail _ (.tail _ (.head _)))))).1
        have zA := (N₄ (ax, PySem.W.listOf its e) (inR (.tail _ (.tail _ (.tail _ (.tail _ (List.mem_append_right _ hm))))))).1
        have hDax : ax ≠ s₂.heap.objs.size := (off' (ax, _) (List.mem_append_right _ hm)).2.2.2
        refine append_at (hsz := by show ys.toArray.size ≤ sizeLine; rw [List.size_toArray, hyl]; exact Nat.le_trans hi hsz) zD fun h₅ hs₅ hD₅ => ?_
        have offN : ∀ p ∈ (tl ++ acc) ++ news, p.1 ≠ I ∧ p.1 ≠ H2.objs.size ∧ p.1 ≠ H2.objs.size + 1 ∧ p.1 ≠ s₂.heap.objs.size := fun p hp => by
          rw [List.append_assoc] at hp
          rcases List.mem_append.mp hp with hp | hp
          · exact ⟨fun q => ord p hp (I, oI) (.head _) q.symm, fun q => ord p hp (_, oC) (.tail _ (.head _)) q.symm, fun q => ord p hp (_, oK₃) (.tail _ (.tail _ (.head _))) q.symm, fun q => ord p hp (_, LCg.lst ys) (.tail _ (.tail _ (.tail _ (.head _)))) q.symm⟩
          · exact off' p hp
        refine ⟨its.size + 1 - (i + 1), by omega, h₅, tk₄, i + 1, ys ++ [y], tl ++ acc, m', oK₃, some v, rfl, hlt, rfl, by rw [List.length_append, List.length_singleton, hyl], ⟨?_, ⟨_, hs₅.extBut _ _ hDax zA, rfl, _, rfl⟩⟩, F₄.change hs₅ hDL hD₀, (hoC.ns zC).sameBut hs₅ (Ne.symm hDC), dK₃, fun p hp => ?_, offN, hR₄⟩
        · obtain ⟨o', q, r⟩ := hst₃.1
          rw [heI] at q; cases q
          exact ⟨_, hs₅.extBut _ _ hDI zI, r⟩
        · rcases List.mem_cons.mp hp with rfl | hp
          · exact ⟨hs₅.extBut _ _ (Ne.symm hDK) zK, hKL, hK₀⟩
          · rcases List.mem_cons.mp hp with rfl | hp
            · exact ⟨hD₅.trans (congrArg some (LCg.lst_snoc ys y)), hDL, hD₀⟩
            · have z : p ∈ tl ++ ((I, oI) :: (H2.objs.size, oC) :: (H2.objs.size + 1, oK₃) :: (s₂.heap.objs.size, LCg.lst ys) :: (acc ++ news)) := by
                rw [List.append_assoc] at hp
                rcases List.mem_append.mp hp with h | h
                · exact List.mem_append_left _ h
                · exact inR (.tail _ (.tail _ (.tail _ (.tail _ h))))
              exact ⟨hs₅.extBut _ _ (offN p hp).2.2.2 (N₄ p z).1, (N₄ p z).2⟩
      · obtain rfl : i = its.size := Nat.le_antisymm hi (Nat.not_lt.mp hlt)
        refine W.done _ _ _ hst' fun h₂ tk₂ hk₂ => ?_
        exact hRR _ _ h₂ tk₂ _ ys acc (LCg.fr_but F' hk₂ hIL hI₀) (LCg.news_but (fun p hp => N' p (.tail _ hp)) hk₂ fun p hp => by
          rcases List.mem_cons.mp hp with rfl | hp
          · exact Ne.symm hDI
          · exact (off' p hp).1) (hn'.at' fun o e => hk₂ _ o (by simpa using Ne.symm hCI) e) hC₀ hD₀ hCL hDL (Ne.symm hDC) (fun p hp => (off' p hp).2.1) hR
    · intro p hp
      rcases List.mem_cons.mp hp with rfl | hp
      · exact ⟨hK₁, hKL, hK₀⟩
      · rcases List.mem_cons.mp hp with rfl | hp
        · exact ⟨hacc, hDL, hD₀⟩
        · exact ⟨old _ _ (N p hp).1, (N p hp).2⟩
  exact codeAny_compStart_list (loop _ ⟨_, rfl⟩) (W.self 0 _ _ _ hst₁ (loop _ ⟨_, rfl⟩))
end
section
variable {prog : Program} {w : World} {A : Around} {E : Value → Shared → Prop} {s : Shared} {h₀ : Heap} {L : Addr} {m : Str → Option Value} {env : Env}
noncomputable def FinKE (h₀ : Heap) (L : Addr) (m : Str → Option Value) (Q : Value → Shared → Prop) (s : Shared) (ys : List Value) (news : List (Addr × Obj)) : Prop :=
  ∀ D h tk, Fr h₀ L h m → News h₀ L h ((D, LCg.lst ys) :: news) → Q (.ref D) { s with heap := h, toks := tk }
noncomputable def FinKA (h₀ : Heap) (L : Addr) (m : Str → Option Value) (y : Str) (Q : Flow → Shared → Prop) (s : Shared) (ys : List Value) (news : List (Addr × Obj)) : Prop :=
  ∀ D h tk, Fr h₀ L h (fun z => if z = y then some (.ref D) else m z) → News h₀ L h ((D, LCg.lst ys) :: news) → Q .next { s with heap := h, toks := tk }
/-- the source of a comprehension whose name is a cell: a list of the ledger -/
noncomputable def SrcK (prog : Program) (w : World) (A : Around) (h₀ : Heap) (L : Addr) (m : Str → Option Value) (env : Env) (elt : PySem.Expr) (x : Str) (scope : Scope) (cl : List (Str × Addr)) (Fin : Shared → List Value → List (Addr × Obj) → Prop) (xv : Value) (s₁ : Shared) : Prop :=
  ∃ (ax : Addr) (its : Array Value) (e : Nat) (news : List (Addr × Obj)) (Rel : Nat → List Value → List (Addr × Obj) → Prop), xv = .ref ax ∧ A.handled = none ∧ Fr h₀ L s₁.heap m ∧ News h₀ L s₁.heap news ∧ (ax, PySem.W.listOf its e) ∈ news ∧ its.size ≤ sizeLine ∧ Rel 0 [] [] ∧
    TurnK prog w A h₀ L m env elt x scope cl s₁ its news Rel ∧ ∀ ys acc, Rel its.size ys acc → Fin s₁ ys (acc ++ news)
theorem ListComp_K {elt iter : PySem.Expr} {x nm0 : Str} {px : Pos} {scope : Scope} {rest : List (Str × NameKind)} {cl : List (Str × Addr)} {pos : Pos} {Q : Value → Shared → Prop} (_F₀ : Fr h₀ L s.heap m)
    (hclos : closureFor scope env = pure cl) (hsc : scope.names = (nm0, .local) :: (x, .cell) :: rest) (hrest : ∀ y ∈ rest, y.2 ≠ .cell) (hne : (x == nm0) = false) (hkind : scope.kind = .function)
    (hnames : ∀ y ∈ scope.names, y.2 = .local → scope.names.lookup y.1 = some .local)
    (h : wpAny (model prog w) A (eval iter env) (SrcK prog w A h₀ L m env elt x scope cl (FinKE h₀ L m Q)) E s)
    (hs : ∀ x, foldedSetIterable iter env x = pure x := by intro _; rfl) :
    wpAny (model prog w) A (eval (.ListComp elt [⟨.Name x px, iter, [], 0⟩] scope pos) env) Q E s := by
  rw [eval_ListComp]
  refine wpAny_comprehension_free (use := none) rfl hs hclos hkind hnames (wpAny_mono h (fun xv s₁ h₁ => ?_) fun _ _ e => e)
  obtain ⟨ax, its, e, news, Rel, rfl, hh, F, N, hm, hsz, h0, hT, R⟩ := h₁
  have hl : s₁.heap.IsList ax its := ⟨_, (N _ hm).1, rfl, _, rfl⟩
  have hlt : ax < s₁.heap.objs.size := Heap.lt_size (N _ hm).1
  refine wpAny_pyIter_list hl ?_
  have up : ∀ b o, s₁.heap.get? b = some o → (s₁.heap.push { cls := .type "list_iterator", data := .fields #[.ref ax, .int 0 0] }).get? b = some o := fun b o e => Heap.get?_push_of_some _ e
  refine block_K Rel hh hsc hrest hne hkind hsz ⟨⟨_, Heap.get?_push_size _ rfl, rfl, rfl⟩, hl.push _⟩ (Nat.ne_of_lt hlt) (F.keeps up) (N.grown up) hm (Nat.ne_of_lt F.ns.lt) (next_is_new F) (fun p hp => Nat.ne_of_lt (Heap.lt_size (N p hp).1)) h0 hT ?_
  intro D C h tk m' ys acc F' N' hn hC₀ hD₀ hCL hDL hCD offC hR
  refine ⟨m', hn, fun h'' hs'' => R ys acc hR D h'' tk (F'.change hs'' hCL hC₀) (fun p hp => ?_)⟩
  refine ⟨hs''.extBut _ _ ?_ (N' p hp).1, (N' p hp).2⟩
  rcases List.mem_cons.mp hp with rfl | hp
  · exact Ne.symm hCD
  · exact offC p hp
theorem Assign_ListComp_K {elt iter : PySem.Expr} {x y nm0 : Str} {px py : Pos} {scope : Scope} {rest : List (Str × NameKind)} {cl : List (Str × Addr)} {pos spos : Pos} {Q : Flow → Shared → Prop} (_F₀ : Fr h₀ L s.heap m) (hLe : env.locals = L)
    (hsw : swapsWith (.ListComp elt [⟨.Name x px, iter, [], 0⟩] scope pos) (some (.Name y py)) spos.line env = pure true)
    (hclos : closureFor scope env = pure cl) (hsc : scope.names = (nm0, .local) :: (x, .cell) :: rest) (hrest : ∀ y ∈ rest, y.2 ≠ .cell) (hne : (x == nm0) = false) (hkind : scope.kind = .function)
    (hnames : ∀ y ∈ scope.names, y.2 = .local → scope.names.lookup y.1 = some .local)
    (hy : env.kindOf y = some .local) (hp : (env.scope.kind == .class || (env.scope.kind == .module && env.locals != env.globals)) = false)
    (h : wpAny (model prog w) A (eval iter env) (SrcK prog w A h₀ L m env elt x scope cl (FinKA h₀ L m y Q)) E s)
    (hs : ∀ x, foldedSetIterable iter env x = pure x := by intro _; rfl) :
    wpAny (model prog w) A (exec (.Assign [.Name y py] (.ListComp elt [⟨.Name x px, iter, [], 0⟩] scope pos) spos) env) Q E s := by
  subst hLe
  rw [exec_Assign_Name_used _ _ _ _ hsw]
  refine wpAny_bind (wpAny_standAt (wpAny_bind ?_))
  show wpAny _ A (do let _ ← comprehension (.ListComp elt [⟨.Name x px, iter, [], 0⟩] scope pos) scope env _ (newList []) false (eval iter env) (some (assign (.Name y py) env))) _ _ s
  refine wpAny_bind (wpAny_mono (wpAny_comprehension_free (use := some (assign (.Name y py) env)) (Q := fun _ s' => Q .next s') rfl hs hclos hkind hnames
    (wpAny_mono h (fun xv s₁ h₁ => ?_) fun _ _ e => e)) (fun _ s' hq => wpAny_pure (wpAny_pure hq)) fun _ _ e => e)
  obtain ⟨ax, its, e, news, Rel, rfl, hh, F, N, hm, hsz, h0, hT, R⟩ := h₁
  have hl : s₁.heap.IsList ax its := ⟨_, (N _ hm).1, rfl, _, rfl⟩
  have hlt : ax < s₁.heap.objs.size := Heap.lt_size (N _ hm).1
  refine wpAny_pyIter_list hl ?_
  have up : ∀ b o, s₁.heap.get? b = some o → (s₁.heap.push { cls := .type "list_iterator", data := .fields #[.ref ax, .int 0 0] }).get? b = some o := fun b o e => Heap.get?_push_of_some _ e
  refine block_K Rel hh hsc hrest hne hkind hsz ⟨⟨_, Heap.get?_push_size _ rfl, rfl, rfl⟩, hl.push _⟩ (Nat.ne_of_lt hlt) (F.keeps up) (N.grown up) hm (Nat.ne_of_lt F.ns.lt) (next_is_new F) (fun p hp => Nat.ne_of_lt (Heap.lt_size (N p hp).1)) h0 hT ?_
  intro D C h' tk m' ys acc F' N' hn hC₀ hD₀ hCL hDL hCD offC hR
  show wpAny _ A (assign (.Name y py) env (.ref D)) _ _ _
  refine wpAny_assign_Name (wpAny_storeName_local hy F'.ns (fun h₂ hn₂ hs₂ => ?_) hp)
  have hL₀ : h₀.get? env.locals = none := Heap.get?_none_of_le F'.above
  have F₂ : Fr h₀ env.locals h₂ (fun z => if z = y then some (.ref D) else m z) := ⟨hn₂, fun b o e => hs₂.extBut b o (fun q => by rw [q, hL₀] at e; cases e) (F'.keep b o e), F'.above⟩
  refine ⟨m', hn.sameBut hs₂ hCL, fun h'' hs'' => R ys acc hR D h'' _ (F₂.change hs'' hCL hC₀) (fun p hp => ?_)⟩
  have z : h₂.get? p.1 = some p.2 := hs₂.extBut _ _ (N' p hp).2.1 (N' p hp).1
  refine ⟨hs''.extBut _ _ ?_ z, (N' p hp).2⟩
  rcases List.mem_cons.mp hp with rfl | hp
  · exact Ne.symm hCD
  · exact offC p hp
/-- the source of a comprehension: a tuple of the ledger -/
noncomputable def SrcTup (prog : Program) (w : World) (A : Around) (h₀ : Heap) (L : Addr) (m : Str → Option Value) (env : Env) (elt : PySem.Expr) (x : Str) (scope : Scope) (cl : List (Str × Addr)) (Fin : Shared → List Value → List (Addr × Obj) → Prop) (xv : Value) (s₁ : Shared) : Prop :=
  ∃ (t : Addr) (vs : List Value) (e : Nat) (news : List (Addr × Obj)), xv = .ref t ∧ A.handled = none ∧ Fr h₀ L s₁.heap m ∧ News h₀ L s₁.heap news ∧ (t, tup vs e) ∈ news ∧ vs.length ≤ sizeLine ∧
    ∀ s₂ : Shared, (∃ h, s₂ = { s₁ with heap := h }) → LCg.CompRest prog w A h₀ L m env elt x scope cl s₂ (fun nw => (t, tup vs e) ∈ nw) (fun i v => vs.toArray[i]? = some v) (Fin s₂) vs.toArray.size 0 [] news
theorem tuple_st {t I : Addr} {vs : List Value} {e : Nat} : ∀ i (h h' : Heap) (o : Obj) (nw : List (Addr × Obj)), (h.IsTupleIter I t i ∧ h.IsTuple t vs.toArray) → h.get? I = some o → h'.get? I = some o → (∀ b o, h₀.get? b = some o → h'.get? b = some o) → News h₀ L h' nw → (t, tup vs e) ∈ nw → (h'.IsTupleIter I t i ∧ h'.IsTuple t vs.toArray) :=
  fun i h h' o nw st e e' k N S => ⟨by obtain ⟨o', q, r⟩ := st.1; rw [e] at q; cases q; exact ⟨o, e', r⟩, News.isTup N S⟩
theorem ListComp_Tup {elt iter : PySem.Expr} {x : Str} {px : Pos} {scope : Scope} {cl : List (Str × Addr)} {pos : Pos} {Q : Value → Shared → Prop} (_F₀ : Fr h₀ L s.heap m)
    (hclos : closureFor scope env = pure cl) (hcell : ∀ y ∈ scope.names, y.2 ≠ .cell) (hkind : scope.kind = .function)
    (hnames : ∀ y ∈ scope.names, y.2 = .local → scope.names.lookup y.1 = some .local) (hx : scope.names.lookup x = some .local)
    (h : wpAny (model prog w) A (eval iter env) (SrcTup prog w A h₀ L m env elt x scope cl (fun s₂ => LCg.FinE h₀ L m s₂ Q)) E s)
    (hs : ∀ x, foldedSetIterable iter env x = pure x := by intro _; rfl) :
    wpAny (model prog w) A (eval (.ListComp elt [⟨.Name x px, iter, [], 0⟩] scope pos) env) Q E s := by
  rw [eval_ListComp]
  refine wpAny_comprehension_free (use := none) rfl hs hclos hkind hnames (wpAny_mono h (fun xv s₁ h₁ => ?_) fun _ _ e => e)
  obtain ⟨t, vs, e, news, rfl, hh, F, N, hm, hsz, R⟩ := h₁
  have hl : s₁.heap.IsTuple t vs.toArray := News.isTup N hm
  have hlt : t < s₁.heap.objs.size := Heap.lt_size (N _ hm).1
  refine wpAny_pyIter_tuple hl ?_
  have up : ∀ b o, s₁.heap.get? b = some o → (s₁.heap.push { cls := .type "tuple_iterator", data := .fields #[.ref t, .int 0 0] }).get? b = some o := fun b o e => Heap.get?_push_of_some _ e
  refine LCg.block_U (Walks.tuple hh s₁.heap.objs.size t (Nat.ne_of_lt hlt) vs.toArray) (by rw [List.size_toArray]; exact hsz) (fun i h st => by obtain ⟨o, e, _⟩ := st.1; exact ⟨o, e⟩) tuple_st hcell hkind hx ⟨⟨_, Heap.get?_push_size _ rfl, rfl, rfl⟩, hl.at fun o e => up _ o e⟩ (fun b hb => ?_)
    (F.keeps up) (N.grown up) (Nat.ne_of_lt F.ns.lt) (next_is_new F) (fun p hp => Nat.ne_of_lt (Heap.lt_size (N p hp).1)) hm (R _ ⟨_, rfl⟩) ?_
  · show b < (s₁.heap.push _).objs.size
    rw [Heap.size_push]
    rcases List.mem_cons.mp hb with rfl | hb
    · exact Nat.lt_succ_self _
    · rw [List.mem_singleton.mp hb]; exact Nat.lt_succ_of_lt hlt
  · intro D C h tk m' ys news' F' N' o1 hn hC₀ hD₀ hCL hDL hCD offC fin
    refine ⟨m', hn, fun h'' hs'' => fin D h'' tk (F'.change hs'' hCL hC₀) (fun p hp => ?_) o1⟩
    refine ⟨hs''.extBut _ _ ?_ (N' p hp).1, (N' p hp).2⟩
    rcases List.mem_cons.mp hp with rfl | hp
    · exact Ne.symm hCD
    · exact offC p hp
/-- two elements, two ints -/
theorem src_tup2 {elt : PySem.Expr} {x : Str} {scope : Scope} {cl : List (Str × Addr)} {Q : Value → Shared → Prop} {news : List (Addr × Obj)} {t : Addr} {v0 v1 : Value} {e : Nat} (G0 G1 : Int)
    (hh : A.handled = none) (F : Fr h₀ L s.heap m) (N : News h₀ L s.heap news) (hm : (t, tup [v0, v1] e) ∈ news)
    (turn0 : ∀ ys I oI C oC D m₂ h tk (E' : Value → Shared → Prop), LCg.NsObj oC m₂ → m₂ x = some v0 → Fr h₀ L h m → News h₀ L h ((I, oI) :: (C, oC) :: (D, LCg.lst ys) :: news) →
      wpAny (model prog w) A (eval elt (compEnvC scope cl C env)) (TurnI h₀ L m { s with heap := h, toks := tk } ((I, oI) :: (C, oC) :: (D, LCg.lst ys) :: news) G0) E' { s with heap := h, toks := tk })
    (turn1 : ∀ ys I oI C oC D m₂ h tk (E' : Value → Shared → Prop), LCg.NsObj oC m₂ → m₂ x = some v1 → Fr h₀ L h m → News h₀ L h ((I, oI) :: (C, oC) :: (D, LCg.lst ys) :: news) →
      wpAny (model prog w) A (eval elt (compEnvC scope cl C env)) (TurnI h₀ L m { s with heap := h, toks := tk } ((I, oI) :: (C, oC) :: (D, LCg.lst ys) :: news) G1) E' { s with heap := h, toks := tk })
    (fin : FinW (∀ D h tk u0 u1 e, Fr h₀ L h m → News h₀ L h ((D, PySem.W.listOf [Value.int G0 u0, .int G1 u1].toArray e) :: news) → LCg.Off1 D news → Q (.ref D) { s with heap := h, toks := tk })) :
    SrcTup prog w A h₀ L m env elt x scope cl (fun s₂ => LCg.FinE h₀ L m s₂ Q) (.ref t) s := by
  refine ⟨t, [v0, v1], e, news, rfl, hh, F, N, hm, by rw [sizeLine_eq]; exact (by decide : 2 ≤ 16777216), ?_⟩
  rintro s₂ ⟨hp, rfl⟩
  refine LCg.CompRest.succ ?_
  intro v I oI C oC D m₂ h tk E' hv hC hx F₁ N₁ off ne
  obtain rfl : v0 = v := Option.some.inj hv
  refine wpAny_mono (turn0 [] I oI C oC D m₂ h tk E' hC hx F₁ N₁) (fun y s₃ hq => ?_) fun _ _ e => e
  obtain ⟨h', tk', u0, rfl, rfl, F₂, N₂⟩ := hq
  refine LCg.CompEnd.intro F₂ N₂ news (fun _ h => h) off hm ?_
  refine LCg.CompRest.succ ?_
  intro v I oI C oC D m₂ h tk E' hv hC hx F₁ N₁ off ne
  obtain rfl : v1 = v := Option.some.inj hv
  refine wpAny_mono (turn1 _ I oI C oC D m₂ h tk E' hC hx F₁ N₁) (fun y s₃ hq => ?_) fun _ _ e => e
  obtain ⟨h'', tk'', u1, rfl, rfl, F₃, N₃⟩ := hq
  refine LCg.CompEnd.intro F₃ N₃ news (fun _ h => h) off hm ?_
  exact LCg.CompRest.zero fun D h tk F₄ N₄ o1 => fin D h tk u0 u1 _ F₄ N₄ o1
noncomputable def FinV (P : Prop) : Prop := P
theorem FinV.of {P : Prop} (h : P) : FinV P := h
/-- a list of two ints, made anew -/
noncomputable def TurnL (h₀ : Heap) (L : Addr) (m : Str → Option Value) (s : Shared) (led : List (Addr × Obj)) (G0 G1 : Int) (v : Value) (s₂ : Shared) : Prop :=
  ∃ h' tk' D u0 u1 e, s₂ = { s with heap := h', toks := tk' } ∧ v = .ref D ∧ Fr h₀ L h' m ∧ News h₀ L h' ((D, PySem.W.listOf [Value.int G0 u0, .int G1 u1].toArray e) :: led) ∧ LCg.Off1 D led
theorem off1_mem {D : Addr} : ∀ {l : List (Addr × Obj)}, LCg.Off1 D l → ∀ p ∈ l, p.1 ≠ D
  | [], _, _, h => nomatch h
  | _ :: _, x, p, h => by
    rcases List.mem_cons.mp h with rfl | h
    · exact x.1
    · exact off1_mem x.2 p h
theorem off1_of {D : Addr} : ∀ {l : List (Addr × Obj)}, (∀ p ∈ l, p.1 ≠ D) → LCg.Off1 D l
  | [], _ => trivial
  | _ :: _, h => ⟨h _ (.head _), off1_of fun p hp => h p (.tail _ hp)⟩
theorem TurnL.of {led nw : List (Addr × Obj)} {G0 G1 : Int} {u0 u1 : Tok} {D : Addr} {e : Nat} {h' : Heap} {tk' : Nat} (F : Fr h₀ L h' m) (N : News h₀ L h' ((D, PySem.W.listOf [Value.int G0 u0, .int G1 u1].toArray e) :: nw)) (o : LCg.Off1 D nw) (hs : ∀ p ∈ led, p ∈ nw) : TurnL h₀ L m s led G0 G1 (.ref D) { s with heap := h', toks := tk' } :=
  ⟨h', tk', D, u0, u1, e, rfl, rfl, F, fun p hp => by
    rcases List.mem_cons.mp hp with rfl | hp
    · exact N _ (.head _)
    · exact N p (.tail _ (hs p hp)), off1_of fun p hp => off1_mem o p (hs p hp)⟩
noncomputable def rowsOf (G0 G1 : BitVec 16 → Int) (l : List (BitVec 16)) : List Dat := l.map fun c => Dat.list [Dat.int (G0 c), Dat.int (G1 c)]
theorem src_K {elt : PySem.Expr} {x : Str} {scope : Scope} {cl : List (Str × Addr)} {Fin : Shared → List Value → List (Addr × Obj) → Prop} {news : List (Addr × Obj)} {ax : Addr} {vs : List Value} {e : Nat} {l : List (BitVec 16)} (G0 G1 : BitVec 16 → Int)
    (hh : A.handled = none) (F : Fr h₀ L s.heap m) (N : News h₀ L s.heap news) (hm : (ax, PySem.W.listOf (List.toArray vs) e) ∈ news) (hv : IntsAre vs (ivs l)) (hz : l.length ≤ 1000)
    (turn : ∀ c t ys acc I oI C oC K oK D h tk (E' : Value → Shared → Prop), c ∈ l → oK.data = .cell (some (.int (iv c) t)) → Fr h₀ L h m → News h₀ L h ((I, oI) :: (C, oC) :: (K, oK) :: (D, LCg.lst ys) :: (acc ++ news)) →
      wpAny (model prog w) A (eval elt (compEnvC scope ((x, K) :: cl) C env)) (TurnL h₀ L m { s with heap := h, toks := tk } ((I, oI) :: (C, oC) :: (K, oK) :: (D, LCg.lst ys) :: (acc ++ news)) (G0 c) (G1 c)) E' { s with heap := h, toks := tk })
    (fin : FinV (∀ ys acc, DatAll acc ys (rowsOf G0 G1 l) → Fin s ys (acc ++ news))) :
    SrcK prog w A h₀ L m env elt x scope cl Fin (.ref ax) s := by
  have hl : (ivs l).length = vs.length := hv.length.symm
  refine ⟨ax, vs.toArray, e, news, fun i ys acc => DatAll acc ys (rowsOf G0 G1 (l.take i)), rfl, hh, F, N, hm, by rw [List.size_toArray, hv.length, ivs_len, sizeLine_eq]; omega, .nil, ?_, ?_⟩
  · intro i v ys acc I oI C oC K oK D h tk E' hi hR hK F₁ N₁
    obtain ⟨n, t, hn, rfl⟩ := ints_get hv (i := i) (v := v) (by simpa using hi)
    obtain ⟨c, hc, rfl⟩ : ∃ c, l[i]? = some c ∧ iv c = n := by
      unfold ivs at hn
      rw [List.getElem?_map] at hn
      cases hq : l[i]? with
      | none => rw [hq] at hn; cases hn
      | some c => rw [hq] at hn; exact ⟨c, rfl, Option.some.inj hn⟩
    refine wpAny_mono (turn c t ys acc I oI C oC K oK D h tk E' (List.mem_of_getElem? hc) hK F₁ N₁) (fun y s₂ hq => ?_) fun _ _ e => e
    obtain ⟨h', tk', D', u0, u1, e', rfl, rfl, F₂, N₂, o⟩ := hq
    refine ⟨h', tk', [(D', _)], rfl, F₂, N₂, ?_, ?_⟩
    · intro p hp q hq
      rw [List.mem_singleton.mp hp]
      exact off1_mem o q hq
    · dsimp only at hR ⊢
      unfold rowsOf at hR ⊢
      rw [List.take_add_one, hc]
      simp only [Option.toList_some, List.map_append, List.map_cons, List.map_nil]
      refine (hR.mono fun p hp => List.mem_append_right _ hp).append (DatAll.one (.list (List.mem_append_left _ (.head _)) (.cons (.int _ _) (.cons (.int _ _) .nil))))
  · intro ys acc hR
    (try dsimp only at hR)
    rw [List.take_of_length_le (by rw [List.size_toArray, hv.length, ivs_len]; exact Nat.le_refl _)] at hR
    exact fin ys acc hR
end
section
variable (w : World) (news : List (Addr × Obj)) (f g : Fm) (c : BitVec 16) (tc tn tk : Tok) (tf tg : Addr) (a0 a1 a2 b0 b1 b2 : Value) (k2 k3 j2 j3 : Tok) (nf ng : Nat)
theorem lost1_v (hf : (tf, tup [a0, a1, a2, .int (iv f.pol.1) k2, .int (iv f.pol.2) k3] nf) ∈ news) (hg : (tg, tup [b0, b1, b2, .int (iv g.pol.1) j2, .int (iv g.pol.2) j3] ng) ∈ news) :
    Ctr w 310 news [.int (iv c) tc, .int 1 tn, .int 52428 tk, .ref tf, .ref tg] 3 100 (fun r tl => (∃ t, r = .int (iv (lostOf f g 1 c)) t) ∧ tl = []) :=
  lost1_c w news c tc tn tk (.ref tf) (.ref tg) f.pol.1 f.pol.2 g.pol.1 g.pol.2 ⟨tf, k2, k3, a0, a1, a2, nf, rfl, hf⟩ ⟨tg, j2, j3, b0, b1, b2, ng, rfl, hg⟩
theorem lost2_v (hf : (tf, tup [a0, a1, a2, .int (iv f.pol.1) k2, .int (iv f.pol.2) k3] nf) ∈ news) (hg : (tg, tup [b0, b1, b2, .int (iv g.pol.1) j2, .int (iv g.pol.2) j3] ng) ∈ news) :
    Ctr w 310 news [.int (iv c) tc, .int 2 tn, .int 61680 tk, .ref tf, .ref tg] 3 100 (fun r tl => (∃ t, r = .int (iv (lostOf f g 2 c)) t) ∧ tl = []) :=
  lost2_c w news c tc tn tk (.ref tf) (.ref tg) f.pol.1 f.pol.2 g.pol.1 g.pol.2 ⟨tf, k2, k3, a0, a1, a2, nf, rfl, hf⟩ ⟨tg, j2, j3, b0, b1, b2, ng, rfl, hg⟩
theorem zz1 : ∀ j : Nat, j < 16 → 0 ≤ Builtin.bitXor (j : Int) (1 * (2 : Int) ^ (1 : Int).toNat) ∧ Builtin.bitXor (j : Int) (1 * (2 : Int) ^ (1 : Int).toNat) < 16 := by decide +kernel
theorem zz2 : ∀ j : Nat, j < 16 → 0 ≤ Builtin.bitXor (j : Int) (1 * (2 : Int) ^ (2 : Int).toNat) ∧ Builtin.bitXor (j : Int) (1 * (2 : Int) ^ (2 : Int).toNat) < 16 := by decide +kernel
theorem miss1_v (hc : c ∈ claimsBV) (hf : (tf, tup [a0, a1, a2, .int (iv f.pol.1) k2, .int (iv f.pol.2) k3] nf) ∈ news) (hg : (tg, tup [b0, b1, b2, .int (iv g.pol.1) j2, .int (iv g.pol.2) j3] ng) ∈ news) :
    Ctr w 317 news [.int (iv c) tc, .int 1 tn, .ref tf, .ref tg] 3 100 (fun r tl => (∃ t, r = .int (iv (lostOf f g 1 c)) t) ∧ tl = []) := by
  refine (missing_c w news c 1 tc tn (.ref tf) (.ref tg) f.pol.1 f.pol.2 g.pol.1 g.pol.2 (by decide) (by decide) zz1 ⟨tf, k2, k3, a0, a1, a2, nf, rfl, hf⟩ ⟨tg, j2, j3, b0, b1, b2, ng, rfl, hg⟩).mono (Nat.le_refl _) (Nat.le_refl _) fun r tl h => ?_
  obtain ⟨⟨t, rfl⟩, rfl⟩ := h
  refine ⟨⟨t, ?_⟩, rfl⟩
  rw [show (1 : Int) * (2 : Int) ^ (1 : Int).toNat = (2 : Int) ^ 1 from rfl, miss_lost (.inl rfl) hc]
theorem miss2_v (hc : c ∈ claimsBV) (hf : (tf, tup [a0, a1, a2, .int (iv f.pol.1) k2, .int (iv f.pol.2) k3] nf) ∈ news) (hg : (tg, tup [b0, b1, b2, .int (iv g.pol.1) j2, .int (iv g.pol.2) j3] ng) ∈ news) :
    Ctr w 317 news [.int (iv c) tc, .int 2 tn, .ref tf, .ref tg] 3 100 (fun r tl => (∃ t, r = .int (iv (lostOf f g 2 c)) t) ∧ tl = []) := by
  refine (missing_c w news c 2 tc tn (.ref tf) (.ref tg) f.pol.1 f.pol.2 g.pol.1 g.pol.2 (by decide) (by decide) zz2 ⟨tf, k2, k3, a0, a1, a2, nf, rfl, hf⟩ ⟨tg, j2, j3, b0, b1, b2, ng, rfl, hg⟩).mono (Nat.le_refl _) (Nat.le_refl _) fun r tl h => ?_
  obtain ⟨⟨t, rfl⟩, rfl⟩ := h
  refine ⟨⟨t, ?_⟩, rfl⟩
  rw [show (1 : Int) * (2 : Int) ^ (2 : Int).toNat = (2 : Int) ^ 2 from rfl, miss_lost (.inr rfl) hc]
end
noncomputable def lossRows (f g : Fm) : List Dat := rowsOf (fun c => iv (lostOf f g 1 c)) (fun c => iv (lostOf f g 2 c)) (betw f g)
theorem rows_ok (G0 G1 : BitVec 16 → Int) (l : List (BitVec 16)) : ∀ d ∈ rowsOf G0 G1 l, kqdOk 8 d = true := by
  intro d hd
  unfold rowsOf at hd
  obtain ⟨c, -, rfl⟩ := List.mem_map.mp hd
  rfl
theorem zero_in {f g : Fm} (hf : f.names NA) (hg : g.names NB) : Dat.list [Dat.int 0, Dat.int 0] ∈ lossRows f g ↔ follows f g = true := by
  rw [follows_lost hf hg]
  unfold lossRows rowsOf
  rw [List.mem_map]
  constructor
  · rintro ⟨c, hc, e⟩
    simp only [Dat.list.injEq, List.cons.injEq, Dat.int.injEq, and_true] at e
    exact ⟨c, hc, (iv_zero _).mp e.1, (iv_zero _).mp e.2⟩
  · rintro ⟨c, hc, h1, h2⟩
    exact ⟨c, hc, by dsimp only; rw [(iv_zero _).mpr h1, (iv_zero _).mpr h2]⟩
section
variable {prog : Program} {w : World} {A : Around} {E : Value → Shared → Prop} {s : Shared} {h₀ : Heap} {L a b : Addr} {news n1 n2 : List (Addr × Obj)} {xs ys : List Value} {ds : List Dat} {ka kb : Nat} {Q : Value → Shared → Prop}
theorem ne_dat_same (N : News h₀ L s.heap news) (ma : (a, PySem.W.listOf (List.toArray xs) ka) ∈ news) (mb : (b, PySem.W.listOf (List.toArray ys) kb) ∈ news) (Da : DatAll n1 xs ds) (sa : ∀ p ∈ n1, p ∈ news) (Db : DatAll n2 ys ds) (sb : ∀ p ∈ n2, p ∈ news) (ok : ∀ d ∈ ds, kqdOk 8 d = true) (hu : A.units + 64 < cLine) (h : Q (.bool false) s) : wpAny (model prog w) A (compareOp .NotEq (.ref a) (.ref b)) Q E s :=
  kqd_ne N ma rfl rfl Da sa mb rfl rfl Db sb ok ok hu (by simpa using h)
end
theorem sub_left {a b c : List (Addr × Obj)} (h : ∀ p ∈ a, p ∈ c) : ∀ p ∈ a, p ∈ b ++ c := fun p hp => List.mem_append_right _ (h p hp)
theorem piece6 (w : World) (r : DefRec) (hr : IsLaw r) (f g : Fm) (hnf : f.names NA) (hng : g.names NB) : Last w r.scope (r.body.drop 22) (P6 f g) := by
  k_with_none
  w_top off
  k_with "mine mem" => (first | (refine' mem_here ?_; ktr_member) | (refine' mem_appR ?_; k_mem) | (refine' mem_appL ?_; k_mem) | fail)
  k_with "mine ltL" => ((repeat (first | with_reducible exact lt_up0 | with_reducible refine lt_up ?_)); done)
  k_with "mine tk2" => (first | with_reducible assumption | with_reducible exact le_one | with_reducible exact Nat.le_refl _ | with_reducible exact Nat.succ_le_of_lt (by with_reducible assumption) | (with_reducible refine le_up ?_; k_extra "mine tk2") | (with_reducible refine le_chain (by with_reducible assumption) ?_; k_extra "mine tk2"))
  k_with "mine tk1" => ((try dsimp only); k_extra "mine tk2")
  k_with "mine size" => (first | (refine' sz_arr ?szA ?szB; (case szA => with_reducible assumption); (case szB => rfl)) | (refine' sz_line ?szA ?szB; (case szA => with_reducible assumption); (case szB => rfl)) | exact Nat.le_of_ble_eq_true rfl | fail)
  k_with "mine room" => ((first | k_dflt refine' rm2 ?rmA ?rmB | k_dflt refine' rm1 ?rmA ?rmB | k_dflt refine' rm0 ?rmA); (case rmA => k_dflt assumption); (try (case rmB => rfl)))
  k_with "mine ne" => (refine neN ?_; (try dsimp only); first | exact ne_all (by with_reducible assumption) (by k_mem) | exact ne_all' (by with_reducible assumption) (by k_mem) | with_reducible assumption | exact Ne.symm (by with_reducible assumption) | exact ne_gt (by k_extra "mine ltL") | exact ne_lt (by k_extra "mine ltL") | exact ne_gt (by with_reducible assumption) | exact ne_lt (by with_reducible assumption) | exact ne_far (by with_reducible assumption) (by k_extra "mine ltL") | exact ne_far' (by with_reducible assumption) (by k_extra "mine ltL") | omega | fail)
  k_with "mine all" => (first | with_reducible assumption | exact all_ne (by with_reducible assumption) (by k_extra "mine sub") | fail)
  k_with "mine free" => (intro yy; intros; repeat (first | with_reducible exact rfl | with_reducible exact forget_off (by with_reducible assumption) | (refine' Eq.trans (if_neg ?fnC) ?_; (case fnC => first | with_reducible assumption | exact ne_free (by with_reducible assumption) (by kernel_rfl))) | exact rfl))
  k_with "evalPairs" => (k_here; dsimp only)
  k_with "Exists" => (k_here; dsimp only)
  k_with "execs cons" => (k_here; refine' nx_start ?_; intro tkz htkz; (try dsimp only at htkz))
  k_with "Nx" => ((try dsimp only); (first | (with_reducible refine' nx_cons0 ?_; intro tkz htkz) | (with_reducible refine' nx_cons ?_; intro tkz htl htkz) | ((first | with_reducible refine' nx_nil0 ?_ | with_reducible refine' nx_ret0 ?_ | with_reducible refine' nx_open0 ?_); (try dsimp only)) | ((first | with_reducible refine' nx_nil ?_ | with_reducible refine' nx_ret ?_ | with_reducible refine' nx_open ?_ | with_reducible refine' nx_brk ?_ | with_reducible refine' nx_cont ?_); intro htl; (try dsimp only at htl); (try dsimp only))))
  k_with "execs nil" => (k_here; (refine wpAny_execs_nil ?_); (try dsimp only))
  k_with "newList" => (k_here; k_dflt (refine' new_lst ?nlF ?nlN ?nlz ?_; (case nlF => k_asm); (case nlN => k_asm); (case nlz => rfl); k_whole); intro d' h' F' N' l1; (try k_sweep))
  k_with "newTuple" => (k_here; k_dflt (refine' new_tup ?nlF ?nlN ?nlz ?_; (case nlF => k_asm); (case nlN => k_asm); (case nlz => rfl); k_whole); intro d' h' F' N' l1; (try k_sweep))
  k_with "mine sub" => ((repeat (first | with_reducible exact sub_nil | with_reducible exact sub_app | with_reducible refine sub_cons ?_ | with_reducible refine sub_app' ?_)); done)
  k_with "mine end2" => ((case F => k_asm); (case N => k_asm); (case S => k_extra "mine sub"); (case P => (refine' lt_sub ?a ?b; (case a => with_reducible assumption); (case b => k_extra "mine sub"))); (case R => (refine' lt_sub ?a ?b; (case a => with_reducible assumption); (case b => k_extra "mine sub"))))
  k_with "mine mem" => (first | (refine' mem_here ?_; ktr_member) | (refine' mem_here ?_; with_reducible assumption) | (refine' mem_appR ?_; k_mem) | (refine' mem_appL ?_; k_mem) | fail)
  obtain ⟨nm_, ps_, bd_, sc_, pp_⟩ := r
  have e : (recsOf hd.view_1_40).getLast? = some ⟨?n,?p,?b,?s,?q⟩ := by with_unfolding_all rfl
  unfold IsLaw at hr
  rw [e] at hr
  obtain ⟨rfl, rfl, rfl, rfl, rfl⟩ := DefRec.mk.inj (Option.some.inj hr)
  clear e hr
  simp only [List.drop_succ_cons, List.drop_zero]
  unfold Last
  k_fill
  intro mean mg mb dp un gd cn L a ccd outer A₀ base h₀ m s Q E B F X T hd hu ht hE hP hk
  obtain ⟨tf, tg, D, Bt, o1, o2, o4, a0, a1, a2, b0, b1, b2, k2, k3, j2, j3, t0, t1, t2, t3, nf, ng, e, eB, vs, d1, d2, d4, iv6, hm6, hm7, N⟩ := hP
  replace F := Fr.named (Fr.named F hm6) (show (fun y => if y = Str.ofString "between" then some (Value.ref Bt) else m y) (Str.ofString "follows") = some (.bool (follows f g)) from hm7)
  obtain ⟨V, hV⟩ : ∃ V : List (Addr × Obj), V = [(Bt, PySem.W.listOf (List.toArray vs) eB), (D, PySem.W.listOf [Value.int 43690 t0, .int 52428 t1, .int 61680 t2, .int 65280 t3].toArray e), (tf, tup [a0, a1, a2, .int (iv f.pol.1) k2, .int (iv f.pol.2) k3] nf), (tg, tup [b0, b1, b2, .int (iv g.pol.1) j2, .int (iv g.pol.2) j3] ng), (L + 1 + 1 + 1 + 1, o4), (L + 1 + 1, o2), (L + 1, o1)] := ⟨_, rfl⟩
  have NV : News h₀ L s.heap (V) := News.sub N (by subst hV; repeat' (first | exact sub_all_nil | refine sub_all_cons (by k_mem) ?_))
  have vm0 : (Bt, PySem.W.listOf (List.toArray vs) eB) ∈ V := by subst hV; show @List.Mem (Addr × Obj) _ _; k_mem
  have vm1 : (D, PySem.W.listOf [Value.int 43690 t0, .int 52428 t1, .int 61680 t2, .int 65280 t3].toArray e) ∈ V := by subst hV; show @List.Mem (Addr × Obj) _ _; k_mem
  have vm2 : (tf, tup [a0, a1, a2, .int (iv f.pol.1) k2, .int (iv f.pol.2) k3] nf) ∈ V := by subst hV; show @List.Mem (Addr × Obj) _ _; k_mem
  have vm3 : (tg, tup [b0, b1, b2, .int (iv g.pol.1) j2, .int (iv g.pol.2) j3] ng) ∈ V := by subst hV; show @List.Mem (Addr × Obj) _ _; k_mem
  have vm4 : (L + 1 + 1 + 1 + 1, o4) ∈ V := by subst hV; show @List.Mem (Addr × Obj) _ _; k_mem
  have vm5 : (L + 1 + 1, o2) ∈ V := by subst hV; show @List.Mem (Addr × Obj) _ _; k_mem
  have vm6 : (L + 1, o1) ∈ V := by subst hV; show @List.Mem (Addr × Obj) _ _; k_mem
  clear hV N
  have hbl : (betw f g).length ≤ 1000 := Nat.le_trans (List.length_filter_le _ _) (by decide)
  k_with "TkLe" => (refine' tkle_intro ?_; intro htl; (try dsimp only at htl); (try dsimp only))
  k_with "call ref" => (first | (k_dflt (refine' Ctr.use_t (lost1_v w _ f g _ _ _ _ _ _ _ _ _ _ _ _ _ _ _ _ _ _ ?vf ?vg) ?yB ?yFr ?yX ?yN ?yT ?yk ?yd ?yu ?_; (case yB => k_asm); (case yFr => k_asm); (case yX => k_asm); (case yN => k_asm); (case yT => k_asm); (case yk => rfl); (case yd => ktr_room); (case yu => ktr_units); (case vf => k_mem); (case vg => k_mem)); (intro tr h' tkr F' N'; (try dsimp only))) | (k_dflt (refine' Ctr.use_t (lost2_v w _ f g _ _ _ _ _ _ _ _ _ _ _ _ _ _ _ _ _ _ ?vf ?vg) ?yB ?yFr ?yX ?yN ?yT ?yk ?yd ?yu ?_; (case yB => k_asm); (case yFr => k_asm); (case yX => k_asm); (case yN => k_asm); (case yT => k_asm); (case yk => rfl); (case yd => ktr_room); (case yu => ktr_units); (case vf => k_mem); (case vg => k_mem)); (intro tr h' tkr F' N'; (try dsimp only))) | (k_dflt (refine' Ctr.use_t (miss1_v w _ f g _ _ _ _ _ _ _ _ _ _ _ _ _ _ _ _ _ (mem_betw.mp (by assumption)).1 ?vf ?vg) ?yB ?yFr ?yX ?yN ?yT ?yk ?yd ?yu ?_; (case yB => k_asm); (case yFr => k_asm); (case yX => k_asm); (case yN => k_asm); (case yT => k_asm); (case yk => rfl); (case yd => ktr_room); (case yu => ktr_units); (case vf => k_mem); (case vg => k_mem)); (intro tr h' tkr F' N'; (try dsimp only))) | (k_dflt (refine' Ctr.use_t (miss2_v w _ f g _ _ _ _ _ _ _ _ _ _ _ _ _ _ _ _ _ (mem_betw.mp (by assumption)).1 ?vf ?vg) ?yB ?yFr ?yX ?yN ?yT ?yk ?yd ?yu ?_; (case yB => k_asm); (case yFr => k_asm); (case yX => k_asm); (case yN => k_asm); (case yT => k_asm); (case yk => rfl); (case yd => ktr_room); (case yu => ktr_units); (case vf => k_mem); (case vg => k_mem)); (intro tr h' tkr F' N'; (try dsimp only))) | (k_dflt (refine' Ctr.use (conL_c w _ _ _ _ _ _ _ ?cm (DatAll.mono ?cs hDl) (.list ?cz (.cons (.int _ _) (.cons (.int _ _) .nil))) (rows_ok _ _ _) rfl) ?yB ?yFr ?yX ?yN ?yT ?yk ?yd ?yu ?_; (case yB => k_asm); (case yFr => k_asm); (case yX => k_asm); (case yN => k_asm); (case yT => k_asm); (case yk => rfl); (case yd => ktr_room); (case yu => ktr_units); (case cm => k_mem); (case cs => k_extra "mine sub"); (case cz => k_mem)); (intro r tl h' tkr F' N' ord post; k_dflt (obtain ⟨⟨bb, hbb, rfl⟩, rfl⟩ := post); (try dsimp only); (try simp only [List.nil_append] at N'); (have hq := Bool.eq_iff_iff.mpr (hbb.trans (zero_in hnf hng))); subst hq)))
  k_with "exec Assign cons ListComp" => (k_dflt (refine' Assign_ListComp_K (_F₀ := by k_asm) (by rfl) (by with_unfolding_all rfl) (by with_unfolding_all rfl) (by rfl) (by decide) (by decide) (by rfl) (by decide) (by rfl) (by rfl) ?_ ?ls; (case ls => intro _; rfl)))
  k_with "eval ListComp" => (first | (k_dflt (refine' ListComp_K (_F₀ := by k_asm) (by with_unfolding_all rfl) (by rfl) (by decide) (by decide) (by rfl) (by decide) ?_ ?ls; (case ls => intro _; rfl))) | (k_dflt (refine' ListComp_Tup (_F₀ := by k_asm) (by with_unfolding_all rfl) (by decide) (by rfl) (by decide) (by rfl) ?_ ?ls; (case ls => intro _; rfl))))
  k_with "SrcK" => (k_dflt (refine' src_K (fun c => iv (lostOf f g 1 c)) (fun c => iv (lostOf f g 2 c)) ?sh ?sF ?sN ?sm iv6 hbl ?_ ?_; (case sh => rfl); (case sF => k_asm); (case sN => k_asm); (case sm => k_mem)))
  k_with "SrcTup" => (rename BitVec 16 => cc; k_dflt (refine' src_tup2 (iv (lostOf f g 1 cc)) (iv (lostOf f g 2 cc)) ?sh ?sF ?sN ?sm ?_ ?_ ?_; (case sh => rfl); (case sF => k_asm); (case sN => k_asm); (case sm => k_mem)))
  k_with "TurnI" => (k_dflt (refine' TurnI.of ?tF ?tN ?tS rfl; (case tF => k_asm); (case tN => k_asm); (case tS => k_extra "mine sub")))
  k_with "TurnL" => (k_dflt (refine' TurnL.of Fj Nj oj ?tS; (case tS => k_extra "mine sub")))
  k_with "FinW" => (refine' FinW.of ?_; intro Dj hj_ tkj u0_ u1_ ej Fj Nj oj; (try dsimp only))
  k_with "FinV" => (refine' FinV.of ?_; first | (have := hDl; intro y2 acc2 hD2; dsimp only [FinKE]; intro D2 h2_ tk2 F2 N2) | (intro yl accl hDl; dsimp only [FinKA]; intro Dl hl_ tkl Fl Nl))
  k_with "subscriptTail Name Name ref int" => (k_dflt (refine' lst_lit ?lN ?lm ?l0 ?lx ?_ ?ls; (case lN => k_asm); (case lm => k_mem); (case l0 => rfl); (case lx => rfl); (case ls => with_unfolding_all rfl)))
  k_with "compareOp NotEq ref ref" => (k_dflt (refine' ne_dat_same ?qN ?qa ?qb hDl ?qs hD2 ?qt (rows_ok _ _ _) ?qu ?_; (case qN => k_asm); (case qa => k_mem); (case qb => k_mem); (case qs => k_extra "mine sub"); (case qt => k_extra "mine sub"); (case qu => ktr_units)))
  k_steps
  all_goals (rename Fr _ _ _ _ => kF9; rw [beq_self_eq_true]; exact hk _ _ _ kF9)
theorem split_body {l : List Stmt} {n k j : Nat} (h : n + k = j) : (l.drop n).take k ++ l.drop j = l.drop n := by
  subst h
  rw [← List.drop_drop]
  exact List.take_append_drop _ _
theorem whole (w : World) (r : DefRec) (hr : IsLaw r) : Last0 w r.scope r.body P0 := by
  have h2 := Piece.ex (c := FG) fun f g c => piece2 w r hr f g c.1 c.2.1 c.2.2.1 c.2.2.2
  have h3 := Piece.ex (c := FG) fun f g c => piece3 w r hr f g c.1 c.2.1 c.2.2.1 c.2.2.2
  have h4 := Piece.ex (c := FG) fun f g _ => piece4 w r hr f g
  have h5 := Piece.ex (c := FG) fun f g c => piece5 w r hr f g c.2.2.1 c.2.2.2
  have h6 := Last.ex (c := FG) fun f g c => piece6 w r hr f g c.2.2.1 c.2.2.2
  have h := (piece1 w r hr).last (h2.last (h3.last (h4.last (h5.last h6))))
  rw [split_body (show 17 + 5 = 22 from rfl), split_body (show 15 + 2 = 17 from rfl), split_body (show 8 + 7 = 15 from rfl), split_body (show 7 + 1 = 8 from rfl), split_body (show 0 + 7 = 7 from rfl), List.drop_zero] at h
  exact h
end
end Mine
noncomputable def Mine.law_all.tw12181705864761739098 : Unit := ()
noncomputable def Mine.law_all.tw17240311926567722313 : Unit := ()
noncomputable def Mine.law_all.tw6355135678535457092 : Unit := ()
noncomputable def Mine.law_all.tw13833317127055801060 : Unit := ()
noncomputable def Mine.law_all.tw16759270414882091856 : Unit := ()
noncomputable def Mine.law_all.tw12729013581757030507 : Unit := ()
noncomputable def Mine.law_all.tw3983192056104361193 : Unit := ()
noncomputable def Mine.law_all.tw9642360315720231220 : Unit := ()
noncomputable def Mine.law_all.tw13274840464982359763 : Unit := ()
noncomputable def Mine.law_all.tw15327138436386969399 : Unit := ()
noncomputable def Mine.law_all.tw17074971947010181610 : Unit := ()
noncomputable def Mine.law_all.tw2161507521139017325 : Unit := ()
noncomputable def Mine.law_all.tw10253732280001569212 : Unit := ()
noncomputable def Mine.law_all.tw14640322939972922974 : Unit := ()
noncomputable def Mine.law_all.tw15638214500589831823 : Unit := ()
noncomputable def Mine.law_all.tw2126261026752179203 : Unit := ()
noncomputable def Mine.law_all.tw15640896081885072018 : Unit := ()
noncomputable def Mine.law_all.tw10340441938079615943 : Unit := ()
noncomputable def Mine.law_all.tw8652508824891024273 : Unit := ()
noncomputable def Mine.law_all.tw11020806828292283134 : Unit := ()
noncomputable def Mine.law_all.tw4261436866732715612 : Unit := ()
noncomputable def Mine.law_all.tw11185291794543270386 : Unit := ()
noncomputable def Mine.law_all.tw9621619661464635597 : Unit := ()
noncomputable def Mine.law_all.tw12168520589393599259 : Unit := ()
noncomputable def Mine.law_all.tw2252203913613538044 : Unit := ()
noncomputable def Mine.law_all.tw12308355309068749982 : Unit := ()
noncomputable def Mine.law_all.tw2534205154373081525 : Unit := ()
noncomputable def Mine.law_all.tw12539917319762660869 : Unit := ()
noncomputable def Mine.law_all.tw13985060576507940359 : Unit := ()
noncomputable def Mine.law_all.tw11208032702916000851 : Unit := ()
noncomputable def Mine.law_all.tw13809103348235374114 : Unit := ()
noncomputable def Mine.law_all.tw1071026390990159442 : Unit := ()
noncomputable def Mine.law_all.tw12338384112835736923 : Unit := ()
noncomputable def Mine.law_all.tw16317050728709778059 : Unit := ()
noncomputable def Mine.law_all.tw14225962978905420208 : Unit := ()
noncomputable def Mine.law_all.tw1454741379415896090 : Unit := ()
noncomputable def Mine.law_all.tw11239549508614699967 : Unit := ()
noncomputable def Mine.law_all.tw15111771918000721386 : Unit := ()
noncomputable def Mine.law_all.tw5099097261256123588 : Unit := ()
noncomputable def Mine.law_all.tw1819660966834464121 : Unit := ()
noncomputable def Mine.law_all.tw5810238935025566227 : Unit := ()
noncomputable def Mine.law_all.tw6550320685308687620 : Unit := ()
noncomputable def Mine.law_all.tw9310598725500422130 : Unit := ()
noncomputable def Mine.law_all.tw3826946535189723318 : Unit := ()
noncomputable def Mine.law_all.tw15994752243992478524 : Unit := ()
noncomputable def Mine.law_all.tw7570389025846386837 : Unit := ()
noncomputable def Mine.law_all.tw11509529326707108785 : Unit := ()
noncomputable def Mine.law_all.tw11978475443051844996 : Unit := ()
noncomputable def Mine.law_all.tw2406078263742745528 : Unit := ()
noncomputable def Mine.law_all.tw17749092094045793073 : Unit := ()
noncomputable def Mine.law_all.tw3012268511640468390 : Unit := ()
noncomputable def Mine.law_all.tw4073406199993252850 : Unit := ()
noncomputable def Mine.law_all.tw1244168298268136379 : Unit := ()
noncomputable def Mine.law_all.tw9278401209076089947 : Unit := ()
noncomputable def Mine.law_all.tw1988555749612562791 : Unit := ()
noncomputable def Mine.law_all.tw8192627400900402444 : Unit := ()
noncomputable def Mine.law_all.tw13008198028515782221 : Unit := ()
noncomputable def Mine.law_all.tw2466386354987971064 : Unit := ()
noncomputable def Mine.law_all.tw185478952616494882 : Unit := ()
noncomputable def Mine.law_all.tw1908834790331025158 : Unit := ()
noncomputable def Mine.law_all.tw14690459059760270787 : Unit := ()
noncomputable def Mine.law_all.tw13846950719819077829 : Unit := ()
noncomputable def Mine.law_all.tw17699220586243776058 : Unit := ()
noncomputable def Mine.law_all.tw5429858767254799258 : Unit := ()
noncomputable def Mine.law_all.tw17535888986555872392 : Unit := ()
noncomputable def Mine.law_all.tw18425384942027050804 : Unit := ()
noncomputable def Mine.law_all.tw13838683757722122955 : Unit := ()
noncomputable def Mine.law_all.tw10382579582808609351 : Unit := ()
noncomputable def Mine.law_all.tw10808177503072308079 : Unit := ()
noncomputable def Mine.law_all.tw9015332790510971594 : Unit := ()
noncomputable def Mine.law_all.tw14559448365930655842 : Unit := ()
noncomputable def Mine.law_all.tw1458131495679319933 : Unit := ()
noncomputable def Mine.law_all.tw5483578599265696199 : Unit := ()
noncomputable def Mine.law_all.tw2127671843654578818 : Unit := ()
noncomputable def Mine.law_all.tw7219402698325937587 : Unit := ()
noncomputable def Mine.law_all.tw12509682125398910234 : Unit := ()
noncomputable def Mine.law_all.tw7042643379613257464 : Unit := ()
noncomputable def Mine.law_all.tw5925129876391146066 : Unit := ()
noncomputable def Mine.law_all.tw3416886346130291467 : Unit := ()
noncomputable def Mine.law_all.tw9496831969247301946 : Unit := ()
noncomputable def Mine.law_all.tw8406315387685492880 : Unit := ()
noncomputable def Mine.law_all.tw5923626274025043023 : Unit := ()
noncomputable def Mine.law_all.tw5332743953270975010 : Unit := ()
noncomputable def Mine.law_all.tw1526100267518658005 : Unit := ()
noncomputable def Mine.law_all.tw2425498562415444253 : Unit := ()
noncomputable def Mine.law_all.tw7647884552941119451 : Unit := ()
noncomputable def Mine.law_all.tw3560663033078476128 : Unit := ()
noncomputable def Mine.law_all.tw4629605032302363013 : Unit := ()
noncomputable def Mine.law_all.tw2897607846274201091 : Unit := ()
noncomputable def Mine.law_all.tw11378994670534948722 : Unit := ()
noncomputable def Mine.law_all.tw15693939393655280204 : Unit := ()
noncomputable def Mine.law_all.tw11195006048519719982 : Unit := ()
noncomputable def Mine.law_all.tw7897600568026276390 : Unit := ()
noncomputable def Mine.law_all.tw4875587917594351017 : Unit := ()
noncomputable def Mine.law_all.tw11655911931479345256 : Unit := ()
noncomputable def Mine.law_all.tw3658401073832251761 : Unit := ()
noncomputable def Mine.law_all.tw1702886262042523489 : Unit := ()
noncomputable def Mine.law_all.tw9235956437754368097 : Unit := ()
noncomputable def Mine.law_all.tw10425333190776739551 : Unit := ()
noncomputable def Mine.law_all.tw12578298129586543361 : Unit := ()
noncomputable def Mine.law_all.tw5285307726481897559 : Unit := ()
noncomputable def Mine.law_all.tw12020096104662128255 : Unit := ()
noncomputable def Mine.law_all.tw13323004776771469176 : Unit := ()
noncomputable def Mine.law_all.tw9729604732972894722 : Unit := ()
noncomputable def Mine.law_all.tw17769878892396552597 : Unit := ()
noncomputable def Mine.law_all.tw6775264209203825292 : Unit := ()
noncomputable def Mine.law_all.tw9400421687833027045 : Unit := ()
noncomputable def Mine.law_all.tw14384918623772240547 : Unit := ()
noncomputable def Mine.law_all.tw857312800663944748 : Unit := ()
noncomputable def Mine.law_all.tw16961951183554043399 : Unit := ()
noncomputable def Mine.law_all.tw14135679151287715560 : Unit := ()
noncomputable def Mine.law_all.tw6022211634629375331 : Unit := ()
noncomputable def Mine.law_all.tw12733668576097638289 : Unit := ()
noncomputable def Mine.law_all.tw18398808446589523112 : Unit := ()
noncomputable def Mine.law_all.tw6723525195617269812 : Unit := ()
noncomputable def Mine.law_all.tw18223944042725728250 : Unit := ()
noncomputable def Mine.law_all.tw10780945830723714241 : Unit := ()
noncomputable def Mine.law_all.tw9337859482809679654 : Unit := ()
noncomputable def Mine.law_all.tw17671693468899418834 : Unit := ()
noncomputable def Mine.law_all.tw16831322107450627596 : Unit := ()
noncomputable def Mine.law_all.tw11968179528029030403 : Unit := ()
noncomputable def Mine.law_all.tw5386138778478946084 : Unit := ()
noncomputable def Mine.law_all.tw1006284481315042348 : Unit := ()
noncomputable def Mine.law_all.tw7385059913978287034 : Unit := ()
noncomputable def Mine.law_all.tw1166129813771130549 : Unit := ()
noncomputable def Mine.law_all.tw3806819470392062991 : Unit := ()
noncomputable def Mine.law_all.tw11566998951525393313 : Unit := ()
noncomputable def Mine.law_all.tw801417409540640141 : Unit := ()
noncomputable def Mine.law_all.tw17818739092667572935 : Unit := ()
noncomputable def Mine.law_all.tw740504054621376137 : Unit := ()
noncomputable def Mine.law_all.tw14112813277465929817 : Unit := ()
noncomputable def Mine.law_all.tw11283148420750326516 : Unit := ()
noncomputable def Mine.law_all.tw7049779834799297369 : Unit := ()
noncomputable def Mine.law_all.tw10495323473316150548 : Unit := ()
noncomputable def Mine.law_all.tw1509647017366188065 : Unit := ()
noncomputable def Mine.law_all.tw8587321083128229445 : Unit := ()
noncomputable def Mine.law_all.tw5058365699104195747 : Unit := ()
noncomputable def Mine.law_all.tw14058198244844264512 : Unit := ()
noncomputable def Mine.law_all.tw18438550808169337630 : Unit := ()
noncomputable def Mine.law_all.tw4663659113027530946 : Unit := ()
noncomputable def Mine.law_all.tw17073913150402608559 : Unit := ()
noncomputable def Mine.law_all.tw6064550380648306667 : Unit := ()
noncomputable def Mine.law_all.tw7379131392961922385 : Unit := ()
noncomputable def Mine.law_all.tw14578468027487938174 : Unit := ()
noncomputable def Mine.law_all.tw6945231640579222094 : Unit := ()
noncomputable def Mine.law_all.tw16736700015079776020 : Unit := ()
noncomputable def Mine.law_all.tw18031673381082608066 : Unit := ()
noncomputable def Mine.law_all.tw14161950200463332022 : Unit := ()
noncomputable def Mine.law_all.tw2791512771193701167 : Unit := ()
noncomputable def Mine.law_all.tw3647167244474244301 : Unit := ()
noncomputable def Mine.law_all.tw3728958221131766131 : Unit := ()
noncomputable def Mine.law_all.tw7382394883274062982 : Unit := ()
noncomputable def Mine.law_all.tw4665142225715192508 : Unit := ()
noncomputable def Mine.law_all.tw8595197912787149095 : Unit := ()
noncomputable def Mine.law_all.tw10969439180591476309 : Unit := ()
noncomputable def Mine.law_all.tw16436836394604217106 : Unit := ()
noncomputable def Mine.law_all.tw16377440506400284361 : Unit := ()
noncomputable def Mine.law_all.tw13211181752546427078 : Unit := ()
noncomputable def Mine.law_all.tw14236084546645660719 : Unit := ()
noncomputable def Mine.law_all.tw12703074045546933829 : Unit := ()
noncomputable def Mine.law_all.tw16264959407386338570 : Unit := ()
noncomputable def Mine.law_all.tw1068153473233568800 : Unit := ()
noncomputable def Mine.law_all.tw13531483092564520072 : Unit := ()
noncomputable def Mine.law_all.tw8305597428437692698 : Unit := ()
noncomputable def Mine.law_all.tw2224743311408289904 : Unit := ()
noncomputable def Mine.law_all.tw6564360385875737041 : Unit := ()
noncomputable def Mine.law_all.tw6821728593225765917 : Unit := ()
noncomputable def Mine.law_all.tw10024686837709580625 : Unit := ()
noncomputable def Mine.law_all.tw2225694422541459837 : Unit := ()
noncomputable def Mine.law_all.tw16745809935298821572 : Unit := ()
noncomputable def Mine.law_all.tw1487786111206980130 : Unit := ()
noncomputable def Mine.law_all.tw18180275025638004960 : Unit := ()
noncomputable def Mine.law_all.tw6317846471518068684 : Unit := ()
noncomputable def Mine.law_all.tw11085147635474315433 : Unit := ()
noncomputable def Mine.law_all.tw14966067393961270158 : Unit := ()
noncomputable def Mine.law_all.tw7290121776363987770 : Unit := ()
noncomputable def Mine.law_all.tw12610587468927266379 : Unit := ()
noncomputable def Mine.law_all.tw7271498159299846290 : Unit := ()
noncomputable def Mine.law_all.tw782427809645370415 : Unit := ()
noncomputable def Mine.law_all.tw16741880675132489432 : Unit := ()
noncomputable def Mine.law_all.tw7416931893851735294 : Unit := ()
noncomputable def Mine.law_all.tw12507762813244862470 : Unit := ()
noncomputable def Mine.law_all.tw2872085493576920064 : Unit := ()
noncomputable def Mine.law_all.tw14643942157258506644 : Unit := ()
noncomputable def Mine.law_all.tw6652356289361680949 : Unit := ()
noncomputable def Mine.law_all.tw16074868582555063224 : Unit := ()
noncomputable def Mine.law_all.tw10145363553656391591 : Unit := ()
noncomputable def Mine.law_all.tw18069371669798473238 : Unit := ()
noncomputable def Mine.law_all.tw7241301525396740710 : Unit := ()
noncomputable def Mine.law_all.tw6456847839567275990 : Unit := ()
noncomputable def Mine.law_all.tw289511000256421866 : Unit := ()
noncomputable def Mine.law_all.tw12051850038722144316 : Unit := ()
noncomputable def Mine.law_all.tw8259473591719373357 : Unit := ()
noncomputable def Mine.law_all.tw796818876455020728 : Unit := ()
noncomputable def Mine.law_all.tw13515836412680247291 : Unit := ()
noncomputable def Mine.law_all.tw2465578340897827915 : Unit := ()
noncomputable def Mine.law_all.tw12961678295145188246 : Unit := ()
noncomputable def Mine.law_all.tw4338267340049963969 : Unit := ()
noncomputable def Mine.law_all.tw937055499877386264 : Unit := ()
noncomputable def Mine.law_all.tw17198419215744740974 : Unit := ()
noncomputable def Mine.law_all.tw3507420168729233941 : Unit := ()
noncomputable def Mine.law_all.tw15982079766070313398 : Unit := ()
noncomputable def Mine.law_all.tw2355731226331693373 : Unit := ()
noncomputable def Mine.law_all.tw8937883705780218553 : Unit := ()
noncomputable def Mine.law_all.tw2763200530551224835 : Unit := ()
noncomputable def Mine.law_all.tw3986953027485292477 : Unit := ()
noncomputable def Mine.law_all.tw1408806660432250928 : Unit := ()
noncomputable def Mine.law_all.tw14338351519572215450 : Unit := ()
noncomputable def Mine.law_all.tw9847930118418132646 : Unit := ()
noncomputable def Mine.law_all.tw11407212017213923087 : Unit := ()
noncomputable def Mine.law_all.tw18313445508184284481 : Unit := ()
noncomputable def Mine.law_all.tw11779399842900871346 : Unit := ()
noncomputable def Mine.law_all.tw11575233253633470811 : Unit := ()
noncomputable def Mine.law_all.tw4449761216389261190 : Unit := ()
noncomputable def Mine.law_all.tw1684386024576819110 : Unit := ()
noncomputable def Mine.law_all.tw14100515932553792916 : Unit := ()
noncomputable def Mine.law_all.tw12415261661798453589 : Unit := ()
noncomputable def Mine.law_all.tw6352045179492744985 : Unit := ()
noncomputable def Mine.law_all.tw13154037430669106214 : Unit := ()
noncomputable def Mine.law_all.tw13760747126890918739 : Unit := ()
noncomputable def Mine.law_all.tw14007897523862953668 : Unit := ()
noncomputable def Mine.law_all.tw16850067431916028951 : Unit := ()
noncomputable def Mine.law_all.tw5913668739366458923 : Unit := ()
noncomputable def Mine.law_all.tw9930186087560989292 : Unit := ()
noncomputable def Mine.law_all.tw6281336798887741830 : Unit := ()
noncomputable def Mine.law_all.tw15256493282736253867 : Unit := ()
noncomputable def Mine.law_all.tw16339051480390876176 : Unit := ()
noncomputable def Mine.law_all.tw11819635365892184359 : Unit := ()
noncomputable def Mine.law_all.tw1115311737908471259 : Unit := ()
noncomputable def Mine.law_all.tw13367176642022358155 : Unit := ()
noncomputable def Mine.law_all.tw3328231346644923771 : Unit := ()
noncomputable def Mine.law_all.tw15696156366995490489 : Unit := ()
noncomputable def Mine.law_all.tw13794602993731048600 : Unit := ()
noncomputable def Mine.law_all.tw10300875812035996732 : Unit := ()
noncomputable def Mine.law_all.tw3672090284324724409 : Unit := ()
noncomputable def Mine.law_all.tw3325111520719290175 : Unit := ()
noncomputable def Mine.law_all.tw18383949787495555429 : Unit := ()
noncomputable def Mine.law_all.tw154029563992915288 : Unit := ()
noncomputable def Mine.law_all.tw5403677533733193846 : Unit := ()
noncomputable def Mine.law_all.tw8755279341700096616 : Unit := ()
noncomputable def Mine.law_all.tw1288270072008814257 : Unit := ()
noncomputable def Mine.law_all.tw17311543511305506410 : Unit := ()
noncomputable def Mine.law_all.tw9429942708143374130 : Unit := ()
noncomputable def Mine.law_all.tw8295653638501232855 : Unit := ()
noncomputable def Mine.law_all.tw14115007137499183204 : Unit := ()
noncomputable def Mine.law_all.tw2238069962009214901 : Unit := ()
noncomputable def Mine.law_all.tw15175368528575537740 : Unit := ()
noncomputable def Mine.law_all.tw11596821628577882342 : Unit := ()
noncomputable def Mine.law_all.tw168551618296024960 : Unit := ()
noncomputable def Mine.law_all.tw7518268271031788722 : Unit := ()
noncomputable def Mine.law_all.tw8645198988984335144 : Unit := ()
noncomputable def Mine.law_all.tw16371026202757247076 : Unit := ()
noncomputable def Mine.law_all.tw374766727668220859 : Unit := ()
noncomputable def Mine.law_all.tw10427768884268684552 : Unit := ()
noncomputable def Mine.law_all.tw645013614473375241 : Unit := ()
noncomputable def Mine.law_all.tw8836462397961589918 : Unit := ()
noncomputable def Mine.law_all.tw11587524997120335971 : Unit := ()
noncomputable def Mine.law_all.tw10294897870698960256 : Unit := ()
noncomputable def Mine.law_all.tw18437768301239656569 : Unit := ()
noncomputable def Mine.law_all.tw7297819598837024618 : Unit := ()
noncomputable def Mine.law_all.tw15877617104253876215 : Unit := ()
noncomputable def Mine.law_all.tw711021382710547372 : Unit := ()
noncomputable def Mine.law_all.tw15775596325662777338 : Unit := ()
noncomputable def Mine.law_all.tw3049941219963327188 : Unit := ()
noncomputable def Mine.law_all.tw4408054295985219607 : Unit := ()
noncomputable def Mine.law_all.tw7840267317723722215 : Unit := ()
noncomputable def Mine.law_all.tw3226911033302893226 : Unit := ()
noncomputable def Mine.law_all.tw17461023701970706658 : Unit := ()
noncomputable def Mine.law_all.tw196974008228917347 : Unit := ()
noncomputable def Mine.law_all.tw4607750278909125284 : Unit := ()
noncomputable def Mine.law_all.tw13242965595582236870 : Unit := ()
noncomputable def Mine.law_all.tw1216541509919387563 : Unit := ()
noncomputable def Mine.law_all.tw15189314362614519228 : Unit := ()
noncomputable def Mine.law_all.tw17138794587834298416 : Unit := ()
noncomputable def Mine.law_all.tw31263012393092130 : Unit := ()
noncomputable def Mine.law_all.tw743412211500013303 : Unit := ()
noncomputable def Mine.law_all.tw6932797485625274279 : Unit := ()
noncomputable def Mine.law_all.tw7292434958787203408 : Unit := ()
noncomputable def Mine.law_all.tw17413550076941298003 : Unit := ()
noncomputable def Mine.law_all.tw17120200779325065073 : Unit := ()
noncomputable def Mine.law_all.tw3207115444309807146 : Unit := ()
noncomputable def Mine.law_all.tw34981568851968291 : Unit := ()
noncomputable def Mine.law_all.tw3907663706730131783 : Unit := ()
noncomputable def Mine.law_all.tw892440070764786429 : Unit := ()
noncomputable def Mine.law_all.tw498969334165971575 : Unit := ()
noncomputable def Mine.law_all.tw7244142420057014546 : Unit := ()
noncomputable def Mine.law_all.tw1809502294756820286 : Unit := ()
noncomputable def Mine.law_all.tw11836482064631991793 : Unit := ()
noncomputable def Mine.law_all.tw3707600311073335261 : Unit := ()
noncomputable def Mine.law_all.tw15627020587669677704 : Unit := ()
noncomputable def Mine.law_all.tw2721814648045382242 : Unit := ()
noncomputable def Mine.law_all.tw16610364562264112213 : Unit := ()
noncomputable def Mine.law_all.tw17610193108198147946 : Unit := ()
noncomputable def Mine.law_all.tw18424452837839797475 : Unit := ()
noncomputable def Mine.law_all.tw12901251542787980400 : Unit := ()
noncomputable def Mine.law_all.tw17633126580248655646 : Unit := ()
noncomputable def Mine.law_all.tw3105058145372789786 : Unit := ()
noncomputable def Mine.law_all.tw4179209112946984403 : Unit := ()
noncomputable def Mine.law_all.tw12481217338035120217 : Unit := ()
noncomputable def Mine.law_all.tw16577843217576899742 : Unit := ()
noncomputable def Mine.law_all.tw26425463804135960 : Unit := ()
namespace Mine
section
local macro_rules | `(tactic| walk_at $s:str) => `(tactic| k_extra $s)
local macro_rules | `(tactic| k_mem) => `(tactic| k_extra "mine mem")
local macro_rules | `(tactic| k_lt $h:ident) => `(tactic| skip)
local macro_rules | `(tactic| k_ne) => `(tactic| k_extra "mine ne")
local macro_rules | `(tactic| size_fits) => `(tactic| k_extra "mine size")
local macro_rules | `(tactic| k_all) => `(tactic| k_extra "mine all")
local macro_rules | `(tactic| ktr_room) => `(tactic| k_extra "mine room")
local macro_rules | `(tactic| ktr_units) => `(tactic| k_extra "mine room")
local macro_rules | `(tactic| cells_open $x:ident) => `(tactic| (obtain ⟨_, _, _, _, _, _, _, _, _, _, _, _, _, _, _, _, _, _⟩ := kc_nine $x))
set_option Elab.async true in
theorem law_all : PySem.Challenge.rw_xn0025_01.Holds := by
  k_with_none
  w_on; o_law; k_head
  (case hw => w_witness2)
  show WalkO Mine.hd.view_1_40 _ _ (kHook Mine.hd.heap_1_39 _ _).says _ _ _ _
  k_with_none
  k_with "mine mem" => (first | (refine' mem_here ?_; ktr_member) | (refine' mem_appR ?_; k_mem) | (refine' mem_appL ?_; k_mem))
  k_with "mine ltL" => ((repeat (first | with_reducible exact lt_up0 | with_reducible refine lt_up ?_)); done)
  k_with "mine tk2" => (first | with_reducible assumption | with_reducible exact le_one | with_reducible exact Nat.le_refl _ | with_reducible exact Nat.succ_le_of_lt (by with_reducible assumption) | (with_reducible refine le_up ?_; k_extra "mine tk2") | (with_reducible refine le_chain (by with_reducible assumption) ?_; k_extra "mine tk2"))
  k_with "mine tk1" => ((try dsimp only); k_extra "mine tk2")
  k_with "mine size" => (first | (refine' sz_arr ?szA ?szB; (case szA => with_reducible assumption); (case szB => rfl)) | (refine' sz_line ?szA ?szB; (case szA => with_reducible assumption); (case szB => rfl)) | exact Nat.le_of_ble_eq_true rfl)
  k_with "mine room" => ((first | k_dflt refine' rm2 ?rmA ?rmB | k_dflt refine' rm1 ?rmA ?rmB | k_dflt refine' rm0 ?rmA); (case rmA => k_dflt assumption); (try (case rmB => rfl)))
  k_with "mine ne" => (refine neN ?_; (try dsimp only); first | exact ne_all (by with_reducible assumption) (by k_mem) | exact ne_all' (by with_reducible assumption) (by k_mem) | with_reducible assumption | exact Ne.symm (by with_reducible assumption) | exact ne_gt (by k_extra "mine ltL") | exact ne_lt (by k_extra "mine ltL") | exact ne_gt (by with_reducible assumption) | exact ne_lt (by with_reducible assumption) | exact ne_far (by with_reducible assumption) (by k_extra "mine ltL") | exact ne_far' (by with_reducible assumption) (by k_extra "mine ltL") | omega)
  k_with "mine all" => exact all_ne (by with_reducible assumption) (by k_extra "mine sub")
  k_with "mine free" => (intro yy; intros; repeat (first | with_reducible exact rfl | with_reducible exact forget_off (by with_reducible assumption) | (refine' Eq.trans (if_neg ?fnC) ?_; (case fnC => first | with_reducible assumption | exact ne_free (by with_reducible assumption) (by kernel_rfl))) | exact rfl))
  k_with "evalPairs" => (k_here; dsimp only)
  k_with "Exists" => (k_here; dsimp only)
  k_with "execs cons" => (k_here; refine' nx_start ?_; intro tkz htkz; (try dsimp only at htkz))
  k_with "Nx" => ((try dsimp only); (first | (with_reducible refine' nx_cons0 ?_; intro tkz htkz) | (with_reducible refine' nx_cons ?_; intro tkz htl htkz) | ((first | with_reducible refine' nx_nil0 ?_ | with_reducible refine' nx_ret0 ?_ | with_reducible refine' nx_open0 ?_); (try dsimp only)) | ((first | with_reducible refine' nx_nil ?_ | with_reducible refine' nx_ret ?_ | with_reducible refine' nx_open ?_ | with_reducible refine' nx_brk ?_ | with_reducible refine' nx_cont ?_); intro htl; (try dsimp only at htl); (try dsimp only))))
  k_with "execs nil" => (k_here; (refine wpAny_execs_nil ?_); (try dsimp only))
  k_with "newList" => (k_here; k_dflt (refine' new_lst ?nlF ?nlN ?nlz ?_; (case nlF => k_asm); (case nlN => k_asm); (case nlz => rfl); k_whole); intro d' h' F' N' l1; (try k_sweep))
  k_with "newTuple" => (k_here; k_dflt (refine' new_tup ?nlF ?nlN ?nlz ?_; (case nlF => k_asm); (case nlN => k_asm); (case nlz => rfl); k_whole); intro d' h' F' N' l1; (try k_sweep))
  k_with "mine sub" => ((repeat (first | with_reducible exact sub_nil | with_reducible exact sub_app | with_reducible refine sub_cons ?_ | with_reducible refine sub_app' ?_)); done)
  k_with "mine end2" => ((case F => k_asm); (case N => k_asm); (case S => k_extra "mine sub"); (case P => (refine' lt_sub ?a ?b; (case a => with_reducible assumption); (case b => k_extra "mine sub"))); (case R => (refine' lt_sub ?a ?b; (case a => with_reducible assumption); (case b => k_extra "mine sub"))))
  k_go0
  (all_goals try k_fold)
  k_dflt (refine' whole _ _ ?hr _ _ _ _ _ _ _ _ _ _ _ _ _ _ _ _ _ _ ?B ?F ?X ?T ?hd ?hu ?hE ?P ?hk)
  case' F => k_asm
  case' T => k_asm
  case' X => k_asm
  case' B => k_asm
  case' hr => (unfold IsLaw; with_unfolding_all rfl)
  case' hd => decide
  case' hu => decide
  case' hE => passes_own
  case' P => (k_dflt (refine' P0.mk _ _ _ _ _ _ _ _ _ _ _ _ _ _ _ _ _ _ _ _ _ ?pl ?pi ?pn ?d1 ?d2 ?d3 ?d4 ?d5 ?d6 ?d7 ?d8 ?d9 ?pm ?pN); (case pN => k_asm); (case pi => assumption); (case pl => assumption); (case pn => omega); (case pm => rfl); (case d1 => assumption); (case d2 => assumption); (case d3 => assumption); (case d4 => assumption); (case d5 => assumption); (case d6 => assumption); (case d7 => assumption); (case d8 => assumption); (case d9 => assumption))
  case' hk => (intro hq tkq mq Fq; k_steps)
end
end Mine
set_option maxRecDepth 100000 in
set_option maxHeartbeats 8000000 in
theorem PySem.Challenge.cw_xn0025_01_holds : PySem.Challenge.rw_xn0025_01.Holds := by
  exact Mine.law_all
