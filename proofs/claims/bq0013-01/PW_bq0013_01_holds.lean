import PyProof.Rows.All
import Wide.All
import OpenK.AllK
import Wide.FinOn
import PySem.Challenge.RW_bq0013_01
open PySem PySem.W PyProof.Rows PySem.Spec PySem.Calls
set_option Elab.async false
namespace Mine
set_option maxRecDepth 100000 in
set_option maxHeartbeats 8000000 in
open_top hd for PySem.Challenge.rw_bq0013_01
end Mine
namespace Mine
/-- the walks that follow stand in defs, not at the top: the line that opened the head had turned the top's lines on -/
theorem below_top : True := by
  w_top off
  trivial
end Mine
namespace Mine
abbrev Led := List (Addr × Obj)
abbrev tup2 (x y : Int) (t1 t2 : Tok) (n : Nat) : Obj := { cls := .type "tuple", data := .seq #[.int x t1, .int y t2] n }
abbrev tup3 (x y z : Int) (t1 t2 t3 : Tok) (n : Nat) : Obj := { cls := .type "tuple", data := .seq #[.int x t1, .int y t2, .int z t3] n }
abbrev tup6 (x y z a b c : Int) (t1 t2 t3 t4 t5 t6 : Tok) (n : Nat) : Obj := { cls := .type "tuple", data := .seq #[.int x t1, .int y t2, .int z t3, .int a t4, .int b t5, .int c t6] n }

/-- a call from a def's frame -/
abbrev Call (w : World) (loo : List Str) (mean : ExcName → Option Value) (mg mb : Str → Option Value) (f : Addr) (dd uu : Nat) (news : Led) (vs : List Value)
   (Ret : Heap → Addr → (Str → Option Value) → Shared → (Value → Shared → Prop) → Prop) : Prop :=
  ∀ (dp un : Nat) (gd : Option (List Code)) (cn : Str) (cs : Scope) (a : Addr) (ccd : Value) (cl : List (Str × Addr)) (outer : List Env) (A₀ : Around) (base h₀ : Heap) (L : Addr) (m : Str → Option Value) (s : Shared) (Q E : Value → Shared → Prop),
    Below A₀ base outer h₀ → Fr h₀ L s.heap m → (Mine.hd.heap_39 w.params).In h₀ → News h₀ L s.heap news → Top Mine.hd.view_39 loo mean mg mb h₀ → cs.kind = .function →
    dp + dd < recursionLimit → un + uu < cLine → Ret h₀ L m s Q →
      wpAny (model PySem.Challenge.rw_bq0013_01.row.prog w) (ktrTop dp un gd cn cs L a ccd cl outer) (call (.ref f) vs) Q E s

theorem call_use {w : World} {loo : List Str} {mean : ExcName → Option Value} {mg mb : Str → Option Value} {f : Addr} {dd uu : Nat} {news : Led} {vs : List Value} {Ret : Heap → Addr → (Str → Option Value) → Shared → (Value → Shared → Prop) → Prop}
    {dp un : Nat} {gd : Option (List Code)} {cn : Str} {cs : Scope} {a : Addr} {ccd : Value} {cl : List (Str × Addr)} {outer : List Env} {A₀ : Around} {base h₀ : Heap} {L : Addr} {m : Str → Option Value} {s : Shared} {Q E : Value → Shared → Prop}
    (B : Below A₀ base outer h₀) (F : Fr h₀ L s.heap m) (X : (Mine.hd.heap_39 w.params).In h₀) (N : News h₀ L s.heap news) (T : Top Mine.hd.view_39 loo mean mg mb h₀) (hk : cs.kind = .function) (C : Call w loo mean mg mb f dd uu news vs Ret)
    (hd : dp + dd < recursionLimit) (hu : un + uu < cLine) (hR : Ret h₀ L m s Q) :
    wpAny (model PySem.Challenge.rw_bq0013_01.row.prog w) (ktrTop dp un gd cn cs L a ccd cl outer) (call (.ref f) vs) Q E s :=
  C _ _ _ _ _ _ _ _ _ _ _ _ _ _ _ _ _ B F X N T hk hd hu hR
theorem allLt_ne {d : Addr} {l : Led} (h : AllLt d l) : ∀ p ∈ l, p.1 ≠ d := fun p hp => Nat.ne_of_lt (ktn_ltOf h p hp)
theorem allLt_ne' {d : Addr} {l : Led} (h : ∀ p ∈ l, p.1 < d) : ∀ p ∈ l, p.1 ≠ d := fun p hp => Nat.ne_of_lt (h p hp)
theorem room2 {d k b r : Nat} (h : d + k < r) (h2 : b ≤ k) : d + b < r := by omega
theorem room3 {d k a b r : Nat} (h : d + k < r) (h2 : a + b ≤ k) : d + a + b < r := by omega
theorem newsCons {h₀ h : Heap} {L : Addr} {news : Led} {p : Addr × Obj} (N : News h₀ L h news) (hp : p ∈ news) : News h₀ L h (p :: news) :=
  fun q hq => (List.mem_cons.mp hq).elim (fun e => e ▸ N p hp) (N q)
theorem newsSub {h₀ h : Heap} {L : Addr} {news news' : Led} (N : News h₀ L h news') (hs : ∀ p ∈ news, p ∈ news') : News h₀ L h news := fun p hp => N p (hs p hp)

abbrev Op (w : World) (loo : List Str) (mean : ExcName → Option Value) (mg mb : Str → Option Value) (tr : Sem Value) (dd uu : Nat) (news : Led)
   (Ret : Heap → Addr → (Str → Option Value) → Shared → (Value → Shared → Prop) → Prop) : Prop :=
  ∀ (dp un : Nat) (gd : Option (List Code)) (cn : Str) (cs : Scope) (a : Addr) (ccd : Value) (cl : List (Str × Addr)) (outer : List Env) (A₀ : Around) (base h₀ : Heap) (L : Addr) (m : Str → Option Value) (s : Shared) (Q E : Value → Shared → Prop),
    Below A₀ base outer h₀ → Fr h₀ L s.heap m → (Mine.hd.heap_39 w.params).In h₀ → News h₀ L s.heap news → Top Mine.hd.view_39 loo mean mg mb h₀ → cs.kind = .function →
    dp + dd < recursionLimit → un + uu < cLine → Ret h₀ L m s Q →
      wpAny (model PySem.Challenge.rw_bq0013_01.row.prog w) (ktrTop dp un gd cn cs L a ccd cl outer) tr Q E s
theorem op_use {w : World} {loo : List Str} {mean : ExcName → Option Value} {mg mb : Str → Option Value} {tr : Sem Value} {dd uu : Nat} {news : Led} {Ret : Heap → Addr → (Str → Option Value) → Shared → (Value → Shared → Prop) → Prop}
    {dp un : Nat} {gd : Option (List Code)} {cn : Str} {cs : Scope} {a : Addr} {ccd : Value} {cl : List (Str × Addr)} {outer : List Env} {A₀ : Around} {base h₀ : Heap} {L : Addr} {m : Str → Option Value} {s : Shared} {Q E : Value → Shared → Prop}
    (B : Below A₀ base outer h₀) (F : Fr h₀ L s.heap m) (X : (Mine.hd.heap_39 w.params).In h₀) (N : News h₀ L s.heap news) (T : Top Mine.hd.view_39 loo mean mg mb h₀) (hk : cs.kind = .function) (C : Op w loo mean mg mb tr dd uu news Ret)
    (hd : dp + dd < recursionLimit) (hu : un + uu < cLine) (hR : Ret h₀ L m s Q) :
    wpAny (model PySem.Challenge.rw_bq0013_01.row.prog w) (ktrTop dp un gd cn cs L a ccd cl outer) tr Q E s :=
  C _ _ _ _ _ _ _ _ _ _ _ _ _ _ _ _ _ B F X N T hk hd hu hR
/-- a field element's dict -/
abbrev fqD (w : World) (P n : Int) (k1 k2 t1 t2 : Tok) : Obj := dictOf [⟨PyData.keyHash w.params (Str.ofString "field_modulus"), .str (Str.ofString "field_modulus") k1, .int P t1⟩, ⟨PyData.keyHash w.params (Str.ofString "n"), .str (Str.ofString "n") k2, .int n t2⟩] 2
abbrev RetFq (w : World) (cl : Addr) (news : Led) (P n : Int) (h₀ : Heap) (L : Addr) (m : Str → Option Value) (s : Shared) (Q : Value → Shared → Prop) : Prop :=
  ∀ (x d : Addr) (k1 k2 t1 t2 : Tok) (h' : Heap) (tk' : Nat), Fr h₀ L h' m → News h₀ L h' ((x, instObj cl d) :: (d, fqD w P n k1 k2 t1 t2) :: news) → Q (.ref x) { s with heap := h', toks := tk' }
abbrev RetBool (news : Led) (b : Bool) (h₀ : Heap) (L : Addr) (m : Str → Option Value) (s : Shared) (Q : Value → Shared → Prop) : Prop :=
  ∀ (h' : Heap) (tk' : Nat), Fr h₀ L h' m → News h₀ L h' news → Q (.bool b) { s with heap := h', toks := tk' }
theorem ops_same {prog : Program} {w : World} {A : Around} {E : Value → Shared → Prop} {s : Shared} {t : Sem Value} {Q : Value → Shared → Prop} (h : wpAny (model prog w) A t Q E s) : wpAny (model prog w) A t Q E s := h
abbrev RetInt (news : Led) (x : Int) (h₀ : Heap) (L : Addr) (m : Str → Option Value) (s : Shared) (Q : Value → Shared → Prop) : Prop :=
  ∀ (t : Tok) (h' : Heap) (tk' : Nat), Fr h₀ L h' m → News h₀ L h' news → Q (.int x t) { s with heap := h', toks := tk' }
abbrev RetTup2 (news : Led) (x y : Int) (h₀ : Heap) (L : Addr) (m : Str → Option Value) (s : Shared) (Q : Value → Shared → Prop) : Prop :=
  ∀ (r : Addr) (t1 t2 : Tok) (c : Nat) (h' : Heap) (tk' : Nat), Fr h₀ L h' m → News h₀ L h' ((r, tup2 x y t1 t2 c) :: news) → Q (.ref r) { s with heap := h', toks := tk' }
abbrev RetTup3 (news : Led) (x y z : Int) (h₀ : Heap) (L : Addr) (m : Str → Option Value) (s : Shared) (Q : Value → Shared → Prop) : Prop :=
  ∀ (r : Addr) (t1 t2 t3 : Tok) (c : Nat) (h' : Heap) (tk' : Nat), Fr h₀ L h' m → News h₀ L h' ((r, tup3 x y z t1 t2 t3 c) :: news) → Q (.ref r) { s with heap := h', toks := tk' }

section
variable {prog : Program} {w : World} {A : Around} {E : Value → Shared → Prop} {s : Shared} {a b : Int} {t u : Tok} {Q : Value → Shared → Prop}
theorem modG (hb : 0 < b) (h : ∀ r : Int, r = a % b → 0 ≤ r → r < b → Q (.int r s.toks) { s with toks := s.toks + 1 }) : wpAny (model prog w) A (binaryOp .Mod (.int a t) (.int b u)) Q E s :=
  mod_int' (by omega) (h _ (Int.fmod_eq_emod_of_nonneg _ (by omega)) (by rw [Int.fmod_eq_emod_of_nonneg _ (by omega)]; exact Int.emod_nonneg _ (by omega)) (by rw [Int.fmod_eq_emod_of_nonneg _ (by omega)]; exact Int.emod_lt_of_pos _ hb))
theorem imodG (hb : 0 < b) (h : ∀ r : Int, r = a % b → 0 ≤ r → r < b → Q (.int r s.toks) { s with toks := s.toks + 1 }) : wpAny (model prog w) A (inplaceOp .Mod (.int a t) (.int b u)) Q E s :=
  imod_int (by omega) (h _ (Int.fmod_eq_emod_of_nonneg _ (by omega)) (by rw [Int.fmod_eq_emod_of_nonneg _ (by omega)]; exact Int.emod_nonneg _ (by omega)) (by rw [Int.fmod_eq_emod_of_nonneg _ (by omega)]; exact Int.emod_lt_of_pos _ hb))
theorem fdivG (hb : 0 < b) (hb2 : b < 1000000) (h : ∀ r : Int, r = a / b → Q (.int r s.toks) { s with toks := s.toks + 1 }) : wpAny (model prog w) A (binaryOp .FloorDiv (.int a t) (.int b u)) Q E s :=
  floordiv_int (by omega) (h _ (Int.fdiv_eq_ediv_of_nonneg _ (by omega))) (Or.inl (PyProof.noPylong_small (by omega)))
theorem pow2G (h1 : -1000000 ≤ a) (h2 : a ≤ 1000000) (h : Q (.int (a ^ 2) s.toks) { s with toks := s.toks + 1 }) : wpAny (model prog w) A (binaryOp .Pow (.int a t) (.int 2 u)) Q E s :=
  pow_int_small (by decide) (by decide) (by omega) h
theorem pow3G (h1 : -1000000 ≤ a) (h2 : a ≤ 1000000) (h : Q (.int (a ^ 3) s.toks) { s with toks := s.toks + 1 }) : wpAny (model prog w) A (binaryOp .Pow (.int a t) (.int 3 u)) Q E s :=
  pow_int_small (by decide) (by decide) (by omega) h
theorem pow4G (h1 : -1000000 ≤ a) (h2 : a ≤ 1000000) (h : Q (.int (a ^ 4) s.toks) { s with toks := s.toks + 1 }) : wpAny (model prog w) A (binaryOp .Pow (.int a t) (.int 4 u)) Q E s :=
  pow_int_small (by decide) (by decide) (by omega) h
theorem mulL (h1 : -1000000 ≤ a) (h2 : a ≤ 1000000) (h : Q (.int (a * b) s.toks) { s with toks := s.toks + 1 }) : wpAny (model prog w) A (binaryOp .Mult (.int a t) (.int b u)) Q E s :=
  mul_int h (PySem.IntMulOk.of_left (PySem.intBits_le_64 (by omega) (by omega)))
theorem mulR (h1 : -1000000 ≤ b) (h2 : b ≤ 1000000) (h : Q (.int (a * b) s.toks) { s with toks := s.toks + 1 }) : wpAny (model prog w) A (binaryOp .Mult (.int a t) (.int b u)) Q E s :=
  mul_int h (PySem.IntMulOk.of_right (PySem.intBits_le_64 (by omega) (by omega)))
theorem eqY (e : a = b) (h : Q (.bool true) s) : wpAny (model prog w) A (compareOp .Eq (.int a t) (.int b u)) Q E s := eq_int (by rw [beq_iff_eq.mpr e]; exact h)
theorem eqN (e : a ≠ b) (h : Q (.bool false) s) : wpAny (model prog w) A (compareOp .Eq (.int a t) (.int b u)) Q E s := eq_int (by rw [beq_eq_false_iff_ne.mpr e]; exact h)
theorem neY (e : a ≠ b) (h : Q (.bool true) s) : wpAny (model prog w) A (compareOp .NotEq (.int a t) (.int b u)) Q E s := ne_int (by rw [bne_iff_ne.mpr e]; exact h)
theorem neN (e : a = b) (h : Q (.bool false) s) : wpAny (model prog w) A (compareOp .NotEq (.int a t) (.int b u)) Q E s := ne_int (by rw [e, bne_self_eq_false]; exact h)
theorem ltY (e : a < b) (h : Q (.bool true) s) : wpAny (model prog w) A (compareOp .Lt (.int a t) (.int b u)) Q E s := lt_int (by rw [decide_eq_true e]; exact h)
theorem ltN (e : ¬ a < b) (h : Q (.bool false) s) : wpAny (model prog w) A (compareOp .Lt (.int a t) (.int b u)) Q E s := lt_int (by rw [decide_eq_false e]; exact h)
end
section
variable {prog : Program} {w : World} {A : Around} {E : Value → Shared → Prop} {s : Shared} {x : Int} {t : Tok} {Q : Bool → Shared → Prop}
theorem truthyY (e : x ≠ 0) (h : Q true s) : wpAny (model prog w) A (truthy (.int x t)) Q E s := truthy_int (by rw [bne_iff_ne.mpr e]; exact h)
theorem truthyN (e : x = 0) (h : Q false s) : wpAny (model prog w) A (truthy (.int x t)) Q E s := truthy_int (by rw [e, bne_self_eq_false]; exact h)
end
section
variable {prog : Program} {w : World} {A : Around} {E : Value → Shared → Prop} {s : Shared} {a b : Int} {t u : Tok} {Q : Value → Shared → Prop}
theorem geY (e : b ≤ a) (h : Q (.bool true) s) : wpAny (model prog w) A (compareOp .GtE (.int a t) (.int b u)) Q E s := ge_int (by rw [decide_eq_true e]; exact h)
theorem geN (e : ¬ b ≤ a) (h : Q (.bool false) s) : wpAny (model prog w) A (compareOp .GtE (.int a t) (.int b u)) Q E s := ge_int (by rw [decide_eq_false e]; exact h)
end
/-- an item of a tuple of the ledger at a written place -/
theorem itemG {prog : Program} {w : World} {A : Around} {E : Value → Shared → Prop} {s : Shared} {h₀ : Heap} {L l : Addr} {news : Led} {value slice : PySem.Expr} {vs : Array Value} {n : Nat} {k : Int} {u : Tok} {j : Nat} {x : Value} {Q : Value → Shared → Prop}
    (N : News h₀ L s.heap news) (hm : (l, ({ cls := .type "tuple", data := .seq vs n } : Obj)) ∈ news) (hlo : -(2 ^ 63) ≤ k) (hhi : k < 2 ^ 63) (hj : seqIndex? k vs.toList.length = some j) (hx : vs.toList[j]? = some x) (h : Q x s)
    (hs : subscripted slice false (.ref l) (.int k u) = operate [.ref l, .int k u] (getItem (.ref l) (.int k u)) := by with_unfolding_all rfl) :
    wpAny (model prog w) A (subscriptTail value slice (.ref l) (.int k u)) Q E s :=
  item_tupleT (l := vs.toList) (News.isTup N hm) hlo hhi hj hx h hs
end Mine
namespace Mine
abbrev tupR2 (a b : Addr) (n : Nat) : Obj := { cls := .type "tuple", data := .seq #[.ref a, .ref b] n }
abbrev tupR3 (a b c : Addr) (n : Nat) : Obj := { cls := .type "tuple", data := .seq #[.ref a, .ref b, .ref c] n }
abbrev RetA2 (w : World) (news : Led) (P x y : Int) (h₀ : Heap) (L : Addr) (m : Str → Option Value) (s : Shared) (Q : Value → Shared → Prop) : Prop :=
  ∀ (r ax dx ay dy : Addr) (c : Nat) (k1 k2 t1 t2 l1 l2 s1 s2 : Tok) (h' : Heap) (tk' : Nat), Fr h₀ L h' m →
    News h₀ L h' ((r, tupR2 ax ay c) :: (ax, instObj 255 dx) :: (dx, fqD w P x k1 k2 t1 t2) :: (ay, instObj 255 dy) :: (dy, fqD w P y l1 l2 s1 s2) :: news) → Q (.ref r) { s with heap := h', toks := tk' }
abbrev RetA3 (w : World) (news : Led) (P x y z : Int) (h₀ : Heap) (L : Addr) (m : Str → Option Value) (s : Shared) (Q : Value → Shared → Prop) : Prop :=
  ∀ (r ax dx ay dy az dz : Addr) (c : Nat) (k1 k2 t1 t2 l1 l2 s1 s2 o1 o2 q1 q2 : Tok) (h' : Heap) (tk' : Nat), Fr h₀ L h' m →
    News h₀ L h' ((r, tupR3 ax ay az c) :: (ax, instObj 417 dx) :: (dx, fqD w P x k1 k2 t1 t2) :: (ay, instObj 417 dy) :: (dy, fqD w P y l1 l2 s1 s2) :: (az, instObj 417 dz) :: (dz, fqD w P z o1 o2 q1 q2) :: news) → Q (.ref r) { s with heap := h', toks := tk' }
abbrev RetNone (news : Led) (h₀ : Heap) (L : Addr) (m : Str → Option Value) (s : Shared) (Q : Value → Shared → Prop) : Prop :=
  ∀ (h' : Heap) (tk' : Nat), Fr h₀ L h' m → News h₀ L h' news → Q .none { s with heap := h', toks := tk' }
theorem led5 {h₀ h : Heap} {L : Addr} {news news' : Led} {a b c d e : Addr × Obj} (N : News h₀ L h news') (ha : a ∈ news') (hb : b ∈ news') (hc : c ∈ news') (hd : d ∈ news') (he : e ∈ news') (hn : ∀ p ∈ news, p ∈ news') : News h₀ L h (a :: b :: c :: d :: e :: news) :=
  newsSub N fun p hp => by
    rcases List.mem_cons.mp hp with rfl | hp; exact ha
    rcases List.mem_cons.mp hp with rfl | hp; exact hb
    rcases List.mem_cons.mp hp with rfl | hp; exact hc
    rcases List.mem_cons.mp hp with rfl | hp; exact hd
    rcases List.mem_cons.mp hp with rfl | hp; exact he
    exact hn p hp
theorem led7 {h₀ h : Heap} {L : Addr} {news news' : Led} {a b c d e f g : Addr × Obj} (N : News h₀ L h news') (ha : a ∈ news') (hb : b ∈ news') (hc : c ∈ news') (hd : d ∈ news') (he : e ∈ news') (hf : f ∈ news') (hg : g ∈ news') (hn : ∀ p ∈ news, p ∈ news') : News h₀ L h (a :: b :: c :: d :: e :: f :: g :: news) :=
  newsSub N fun p hp => by
    rcases List.mem_cons.mp hp with rfl | hp; exact ha
    rcases List.mem_cons.mp hp with rfl | hp; exact hb
    rcases List.mem_cons.mp hp with rfl | hp; exact hc
    rcases List.mem_cons.mp hp with rfl | hp; exact hd
    rcases List.mem_cons.mp hp with rfl | hp; exact he
    rcases List.mem_cons.mp hp with rfl | hp; exact hf
    rcases List.mem_cons.mp hp with rfl | hp; exact hg
    exact hn p hp
end Mine
namespace Mine
/-- Euclid's loop, between the turns -/
def Inv (a n lm low hm high : Int) : Prop :=
  ∃ sg : Int, (sg = 1 ∨ sg = -1) ∧ 0 ≤ sg * lm ∧ sg * hm ≤ 0 ∧ sg * lm * high - sg * hm * low = n ∧ 1 ≤ low ∧ low < high ∧ high ≤ n ∧ n ∣ lm * a - low ∧ n ∣ hm * a - high ∧ Int.gcd low high = 1
theorem inv_start {a n : Int} (h1 : 1 ≤ a) (h2 : a < n) (hg : Int.gcd a n = 1) : Inv a n 1 a 0 n :=
  ⟨1, .inl rfl, by omega, by omega, by omega, h1, h2, by omega, ⟨0, by omega⟩, ⟨-1, by omega⟩, hg⟩
theorem inv_start' {a n r : Int} (h1 : 1 ≤ a) (h2 : a < n) (hg : Int.gcd a n = 1) (e : r = a % n) : Inv a n 1 r 0 n := by
  rw [Int.emod_eq_of_lt (by omega) h2] at e
  subst e
  exact inv_start h1 h2 hg
theorem inv_start2 {a n q r : Int} (h1 : 1 ≤ a) (h2 : a < n) (hg : Int.gcd a n = 1) (e : q = a % n) (f : r = q % n) : Inv a n 1 r 0 n :=
  inv_start' h1 h2 hg (by rw [f, e, Int.emod_emod])
theorem inv_bd {a n lm low hm high : Int} (h : Inv a n lm low hm high) : -n ≤ lm ∧ lm ≤ n ∧ 1 ≤ low ∧ low < n ∧ low < high ∧ high ≤ n := by
  obtain ⟨sg, hs, p1, p2, p3, p4, p5, p6, -, -, -⟩ := h
  have k : sg * lm ≤ n := by
    have h1 : sg * lm * 1 ≤ sg * lm * high := Int.mul_le_mul_of_nonneg_left (by omega) p1
    have h2 : 0 ≤ (-(sg * hm)) * low := Int.mul_nonneg (by omega) (by omega)
    have h3 : -(sg * hm) * low = -(sg * hm * low) := Int.neg_mul _ _
    omega
  rcases hs with rfl | rfl
  · refine ⟨by omega, by omega, p4, by omega, p5, p6⟩
  · refine ⟨by omega, by omega, p4, by omega, p5, p6⟩
theorem inv_step {a n lm low hm high r : Int} (h : Inv a n lm low hm high) (hl : 1 < low) (hr : r = high / low) : Inv a n (hm - lm * r) (high - low * r) lm low := by
  obtain ⟨sg, hs, p1, p2, p3, p4, p5, p6, p7, p8, p9⟩ := h
  have hmod : high - low * r = high % low := by rw [hr, Int.emod_def]
  have hr0 : 0 ≤ r := by rw [hr]; exact Int.ediv_nonneg (by omega) (by omega)
  have hg : Int.gcd (high - low * r) low = 1 := by rw [Int.gcd_sub_mul_left_left, Int.gcd_comm]; exact p9
  have hlt : high - low * r < low := by rw [hmod]; exact Int.emod_lt_of_pos _ (by omega)
  have hge : 0 ≤ high - low * r := by rw [hmod]; exact Int.emod_nonneg _ (by omega)
  have hne : high - low * r ≠ 0 := fun e => by rw [e, Int.gcd_zero_left] at hg; omega
  refine ⟨-sg, by omega, ?_, ?_, ?_, by omega, hlt, by omega, ?_, p7, hg⟩
  · have : 0 ≤ (sg * lm) * r := Int.mul_nonneg p1 hr0
    grind
  · grind
  · rw [← p3]; grind
  · have := Int.dvd_sub p8 (Int.dvd_trans p7 (Int.dvd_mul_right _ r))
    have e : hm * a - high - (lm * a - low) * r = (hm - lm * r) * a - (high - low * r) := by grind
    rwa [e] at this
theorem inv_less {a n lm low hm high r : Int} (h : Inv a n lm low hm high) (hl : 1 < low) (hr : r = high / low) : (high - low * r).toNat < low.toNat := by
  have hmod : high - low * r = high % low := by rw [hr, Int.emod_def]
  have hlt : high - low * r < low := by rw [hmod]; exact Int.emod_lt_of_pos _ (by omega)
  have hge : 0 ≤ high - low * r := by rw [hmod]; exact Int.emod_nonneg _ (by omega)
  omega
theorem inv_end {a n lm low hm high r : Int} (h : Inv a n lm low hm high) (hl : ¬ 1 < low) (hr : r = lm % n) : r * a % n = 1 := by
  obtain ⟨sg, hs, p1, p2, p3, p4, p5, p6, p7, p8, p9⟩ := h
  have e1 : low = 1 := by omega
  subst e1
  have : lm * a % n = 1 % n := Int.emod_eq_emod_iff_emod_sub_eq_zero.mpr (Int.emod_eq_zero_of_dvd p7)
  rw [hr, Int.mul_emod, Int.emod_emod, ← Int.mul_emod, this]
  exact Int.emod_eq_of_lt (by omega) (by omega)
end Mine
section
local macro_rules | `(tactic| ktr_room) => `(tactic| ((try simp only [depth_under_make, depth_under_kw, depth_in1, depth_deeper, depth_caller]); (try dsimp only [ktrTop, Around.deeper]); omega))
local macro_rules | `(tactic| ktr_units) => `(tactic| ((try simp only [units_in1, units_deeper, Around.mark_units, units_caller]); (try dsimp only [ktrTop, Around.deeper]); omega))
local macro_rules | `(tactic| k_room) => `(tactic| ktr_room)
local macro_rules | `(tactic| kcf_all) => `(tactic| (intro p9 hp9; (simp only [List.mem_cons] at hp9 ⊢); simp only [hp9, true_or, or_true]; done))
local macro_rules | `(tactic| kcf_all) => `(tactic| (intro p9 hp9; (simp only [List.mem_cons] at hp9 ⊢); (rcases hp9 with hp9 | hp9 | hp9 | hp9 | hp9) <;> simp only [hp9, true_or, or_true] <;> done))
local macro_rules | `(tactic| walk_at "CompSrcT") => `(tactic| (k_here; k_extra "CompSrcT"))
local macro_rules | `(tactic| walk_at "CompEnd") => `(tactic| (k_extra "CompEnd"))
namespace Mine
def rootG (n : Int) (l : List Int) (k : Int) : List Int := if k * k * k % n = 1 then l ++ [k] else l
/-- the cube roots of one by n -/
def rootsL (n : Int) : List Int := (rangeKs 2 (n - 2).toNat).foldl (rootG n) []
theorem rootG_yes {n k : Int} {l : List Int} (hn : 5 ≤ n) (h : (k * k * k).fmod n = 1) : rootG n l k = l ++ [k] := by
  rw [Int.fmod_eq_emod_of_nonneg _ (by omega)] at h
  unfold rootG; rw [if_pos h]
theorem rootG_no {n k : Int} {l : List Int} (hn : 5 ≤ n) (h : ¬ (k * k * k).fmod n = 1) : rootG n l k = l := by
  rw [Int.fmod_eq_emod_of_nonneg _ (by omega)] at h
  unfold rootG; rw [if_neg h]
abbrev RetRoots (news : Led) (ns : List Int) (h₀ : Heap) (L : Addr) (m : Str → Option Value) (s : Shared) (Q : Value → Shared → Prop) : Prop :=
  ∀ (D : Addr) (ys : List Value) (h' : Heap) (tk' : Nat), IntsAre ys ns → LCg.Off1 D news → Fr h₀ L h' m → News h₀ L h' ((D, LCg.lst ys) :: news) → Q (.ref D) { s with heap := h', toks := tk' }
theorem off1_mem {D : Addr} : ∀ {l : Led}, LCg.Off1 D l → ∀ p ∈ l, p.1 ≠ D
  | [], _, _, h => nomatch h
  | _ :: _, h, p, hp => (List.mem_cons.mp hp).elim (fun e => e ▸ h.1) (off1_mem h.2 p)
theorem rootG_grows (n : Int) : KPfGrows (rootG n) := by
  intro l k
  unfold rootG
  split
  · simp
  · omega
theorem off1_tail {D a : Addr} {o : Obj} {news : Led} (h : LCg.Off1 D ((a, o) :: news)) : ∀ p ∈ news, p.1 ≠ D := fun p hp => off1_mem h p (.tail _ hp)
section
variable (w : World) (loo : List Str) (mean : ExcName → Option Value) (mg mb : Str → Option Value) (news : Led)
set_option maxRecDepth 100000 in
set_option maxHeartbeats 2000000 in
theorem c_roots (n : Int) (tn : Tok) (h1 : 5 ≤ n) (h2 : n ≤ 127) :
    Call w loo mean mg mb 475 2 60 news [.int n tn] (RetRoots news (rootsL n)) := by
  unfold Call
  k_fill
  k_with_none
  intro dp un gd cn cs a ccd cl outer A₀ base h₀ L m s Q E B' F X' N' T hk hd hu hret
  refine wpAny_call ?_
  k_dflt (refine' code_defC ?k1 ?k2 ?k3 ?k4 ?k5 ?kA ?kF ?kK ?k6 ?k7 ?k8 ?k9 ?kB ?kD ?_ ?c2 ?c3 ?c4; (case kA => exact rfl); (case kF => exact rfl); (case kK => assumption); (case k1 => k_asm); (case k2 => k_asm); (case k3 => k_asm); (case k4 => k_asm); (case k5 => k_asm); (case k6 => k_is); (case k7 => k_is); (case k8 => ktr_room); (case k9 => exact BindsTo.of_eq rfl); (case kB => exact rfl); (case kD => decide +kernel); (case c2 => exact rfl); (case c3 => exact rfl); (case c4 => exact rfl); k_whole; intro g' L' h' tk' cells' FG' F' N' Y' B' X' T' l1; (try k_lt l1); k_cells Y'; (try simp only [List.cons_append, List.nil_append] at N'); (try dsimp only); (try k_fold))
  k_with "CompSrcT" => ((try k_fmods); k_dflt (refine LCt.CompSrcT.range (by rfl) (by k_asm) (by k_asm) (by assumption) (by first | decide | exact small_one (by l_bnd) (by l_bnd) (by l_bnd) (by l_bnd)) (by first | exact rangeSize_nat _ _ | rfl) (by first | exact Nat.le_of_ble_eq_true rfl | (rw [PySem.sizeLine_eq]; first | omega | ((have hb9 := len_ints_list (by lay_of)); omega)) | size_fits) ?_; intro g'; refine kci_range (rootG n) (fun k' t' I' oI' C' oC' D' m' ys' l' h' tk' E' hlo' hhi' hI' hC' hx' F' N' off' ne' hM' => ?_) ?_ ?_))
  k_with "CompEnd" => first
    | (refine LCg.CompEnd.intro (by assumption) (by assumption) _ (by kcf_all) (by assumption) (by first | exact True.intro | lcg_src | assumption) (kci_el ?_ rfl rfl); exact rootG_yes h1 (by assumption))
    | (refine LCg.CompEnd.intro (by assumption) (by assumption) _ (by kcf_all) (by assumption) (by first | exact True.intro | lcg_src | assumption) (kci_no ?_ rfl); exact rootG_no h1 (by assumption))
  w_strict (k_steps; all_goals first | exact rootG_grows n | exact hret _ _ _ _ (by assumption) (by first | assumption | exact And.right (by assumption)) (by assumption) (newsSub (by assumption) (fun _ hp => by rcases List.mem_cons.mp hp with rfl | hp; exact .head _; simp only [List.mem_cons, hp, or_true])))
end
end Mine
end
namespace Mine
section
open Lean.Grind
variable {R : Type} [CommRing R]
theorem alg_dbl {a b c d x y z ysq S M nx ny nz : R} (hx : x = a * z^2) (hy : y = b * z^3) (t1 : (2*a + c) * (2*b)^2 = (3*a^2)^2) (t2 : (b + d) * (2*b) = 3*a^2*(a - c))
  (h1 : ysq = y^2) (h2 : S = 4*x*ysq) (h3 : M = 3*x^2 + 0*z^4) (h4 : nx = M^2 - 2*S) (h5 : ny = M*(S-nx) - 8*ysq^2) (h6 : nz = 2*y*z) : nx = c * nz^2 ∧ ny = d * nz^3 := by
  subst hx hy h1 h2 h3 h4 h5 h6
  constructor
  · grind
  · grind
theorem id_add1 (a b a' b' z z2 : R) : ((b' * z2^3) * z^3 - (b * z^3) * z2^3)^2 - ((a' * z2^2) * z^2 - (a * z^2) * z2^2) * (((a' * z2^2) * z^2 - (a * z^2) * z2^2) * ((a' * z2^2) * z^2 - (a * z^2) * z2^2)) - 2 * ((a * z^2) * z2^2 * (((a' * z2^2) * z^2 - (a * z^2) * z2^2) * ((a' * z2^2) * z^2 - (a * z^2) * z2^2)))
   = (z*z2)^6 * ((b'-b)^2 - (a'-a)^2*(a + a')) := by grind
theorem id_add2 (a b a' b' z z2 nx : R) : ((b' * z2^3) * z^3 - (b * z^3) * z2^3) * ((a * z^2) * z2^2 * (((a' * z2^2) * z^2 - (a * z^2) * z2^2) * ((a' * z2^2) * z^2 - (a * z^2) * z2^2)) - nx) - (b * z^3) * z2^3 * (((a' * z2^2) * z^2 - (a * z^2) * z2^2) * (((a' * z2^2) * z^2 - (a * z^2) * z2^2) * ((a' * z2^2) * z^2 - (a * z^2) * z2^2)))
   = (z*z2)^9 * ((b'-b)*(a'-a)^2*a - b*(a'-a)^3) - (z*z2)^3 * (b'-b) * nx := by grind
theorem id_add3 (a a' z z2 : R) : ((a' * z2^2) * z^2 - (a * z^2) * z2^2) * z * z2 = (a' - a) * (z*z2)^3 := by grind
theorem alg_add {a b a' b' c d x y z x2 y2 z2 U1 U2 S1 S2 H2 H3 UH nx ny nz : R} (hx : x = a * z^2) (hy : y = b * z^3) (hx2 : x2 = a' * z2^2) (hy2 : y2 = b' * z2^3)
  (t1 : (a + a' + c) * (a' - a)^2 = (b' - b)^2) (t2 : (b + d) * (a' - a) = (b' - b) * (a - c))
  (e1 : U1 = x * z2^2) (e2 : U2 = x2 * z^2) (e3 : S1 = y * z2^3) (e4 : S2 = y2 * z^3) (e5 : H2 = (U2 - U1)*(U2 - U1)) (e6 : H3 = (U2-U1)*H2) (e7 : UH = U1*H2)
  (h4 : nx = (S2-S1)^2 - H3 - 2*UH) (h5 : ny = (S2-S1)*(UH-nx) - S1*H3) (h6 : nz = (U2-U1)*z*z2) : nx = c * nz^2 ∧ ny = d * nz^3 := by
  subst hx hy hx2 hy2 e1 e2 e3 e4 e5 e6 e7
  rw [id_add1] at h4
  rw [id_add2] at h5
  rw [id_add3] at h6
  have h7 : nx = (z*z2)^6 * ((a'-a)^2 * c) := by rw [h4, ← t1]; clear h4 h5 h6 t1 t2; grind
  have h8 : ny = (z*z2)^9 * ((a'-a)^3 * d) := by
    have k : (b'-b)*(a'-a)^2*a - b*(a'-a)^3 - (b' - b) * ((a'-a)^2 * c) = (a'-a)^2 * ((b'-b)*(a-c)) - b * (a'-a)^3 := by clear h4 h5 h6 h7 t1 t2; grind
    have k2 : ny = (z*z2)^9 * ((b'-b)*(a'-a)^2*a - b*(a'-a)^3 - (b' - b) * ((a'-a)^2 * c)) := by rw [h5, h7]; clear h4 h5 h6 h7 t1 t2 k; grind
    rw [k2, k, ← t2]
    clear h4 h5 h6 h7 t1 t2 k k2; grind
  constructor
  · rw [h7, h6]; clear h4 h5 h6 h7 h8 t1 t2; grind
  · rw [h8, h6]; clear h4 h5 h6 h7 h8 t1 t2; grind
/-- from the jacobian form back -/
theorem alg_from {a b x y z v X Y : R} (hx : x = a * z^2) (hy : y = b * z^3) (hv : v * z = 1) (e1 : X = x * v^2) (e2 : Y = y * v^3) : X = a ∧ Y = b := by
  have k1 : a * z^2 * v^2 = a * (v*z)^2 := by clear hx hy hv e1 e2; grind
  have k2 : b * z^3 * v^3 = b * (v*z)^3 := by clear hx hy hv e1 e2 k1; grind
  constructor
  · rw [e1, hx, k1, hv]; clear hx hy hv e1 e2 k1 k2; grind
  · rw [e2, hy, k2, hv]; clear hx hy hv e1 e2 k1 k2; grind
end
end Mine
namespace Mine
section
open Lean.Grind
variable {R : Type} [CommRing R]
theorem alg_pdbl {a b c d x y z W S B H SS nx ny nz : R} (hx : x = a * z) (hy : y = b * z) (t1 : (2*a + c) * (2*b)^2 = (3*a^2)^2) (t2 : (b + d) * (2*b) = 3*a^2*(a - c))
  (h1 : W = 3*x*x) (h2 : S = y*z) (h3 : B = x*y*S) (h4 : H = W*W - 8*B) (h5 : SS = S*S) (h6 : nx = 2*H*S) (h7 : ny = W*(4*B-H) - 8*y*y*SS) (h8 : nz = 8*S*SS) : nx = c * nz ∧ ny = d * nz := by
  subst hx hy h1 h2 h3 h4 h5 h6 h7 h8
  constructor
  · grind
  · grind
theorem id_padd1 (a b a' b' z z2 : R) : ((b' * z2) * z - (b * z) * z2) * ((b' * z2) * z - (b * z) * z2) * (z * z2) - ((a' * z2) * z - (a * z) * z2) * (((a' * z2) * z - (a * z) * z2) * ((a' * z2) * z - (a * z) * z2)) - 2 * ((((a' * z2) * z - (a * z) * z2) * ((a' * z2) * z - (a * z) * z2)) * ((a * z) * z2))
   = (z*z2)^3 * ((b'-b)^2 - (a'-a)^2*(a + a')) := by grind
theorem alg_padd {a b a' b' c d x y z x2 y2 z2 U1 U2 V1 V2 VS VSV VC W A nx ny nz : R} (hx : x = a * z) (hy : y = b * z) (hx2 : x2 = a' * z2) (hy2 : y2 = b' * z2)
  (t1 : (a + a' + c) * (a' - a)^2 = (b' - b)^2) (t2 : (b + d) * (a' - a) = (b' - b) * (a - c))
  (e1 : U1 = y2 * z) (e2 : U2 = y * z2) (e3 : V1 = x2 * z) (e4 : V2 = x * z2) (e5 : VS = (V1-V2)*(V1-V2)) (e6 : VSV = VS * V2) (e7 : VC = (V1-V2) * VS) (e8 : W = z * z2)
  (e9 : A = (U1-U2)*(U1-U2)*W - VC - 2*VSV) (h4 : nx = (V1-V2)*A) (h5 : ny = (U1-U2)*(VSV-A) - VC*U2) (h6 : nz = VC*W) : nx = c * nz ∧ ny = d * nz := by
  subst hx hy hx2 hy2 e1 e2 e3 e4 e5 e6 e7 e8
  rw [id_padd1] at e9
  have e10 : A = (z*z2)^3 * ((a'-a)^2 * c) := by rw [e9, ← t1]; clear h4 h5 h6 t1 t2 e9; grind
  have e11 : nz = (a'-a)^3 * (z*z2)^4 := by rw [h6]; clear h4 h5 h6 t1 t2 e9 e10; grind
  constructor
  · rw [h4, e10, e11]; clear h4 h5 h6 t1 t2 e9 e10 e11; grind
  · have k : (b'-b)*((a'-a)^2*a) - b*(a'-a)^3 - (b' - b) * ((a'-a)^2 * c) = (a'-a)^2 * ((b'-b)*(a-c)) - b * (a'-a)^3 := by clear h4 h5 h6 t1 t2 e9 e10 e11; grind
    have k2 : ny = (z*z2)^4 * ((b'-b)*((a'-a)^2*a) - b*(a'-a)^3 - (b' - b) * ((a'-a)^2 * c)) := by rw [h5, e10]; clear h4 h5 h6 t1 t2 e9 e10 e11 k; grind
    rw [k2, k, ← t2, e11]
    clear h4 h5 h6 t1 t2 e9 e10 e11 k k2; grind
theorem alg_aadd {a b a' b' c d v m nx ny ty : R} (t1 : (a + a' + c) * (a' - a)^2 = (b' - b)^2) (t2 : (b + d) * (a' - a) = (b' - b) * (a - c)) (hv : v * (a' - a) = 1)
  (h1 : m = (b' - b) * v) (h2 : nx = m*m - a - a') (h3 : ny = -m*nx + m*a - b) (h4 : ty = -m*nx + m*a' - b') : nx = c ∧ ny = d ∧ ty = d := by
  have k1 : m * m = (b'-b)^2 * v^2 := by rw [h1]; clear h1 h2 h3 h4 t1 t2 hv; grind
  have k2 : (a + a' + c) * (a' - a)^2 * v^2 = (a + a' + c) * (v*(a'-a))^2 := by clear h1 h2 h3 h4 t1 t2 hv k1; grind
  have k3 : nx = c := by rw [h2, k1, ← t1, k2, hv]; clear h1 h2 h3 h4 t1 t2 hv k1 k2; grind
  have k4 : m * (a - c) = b + d := by
    have : m * (a - c) = ((b'-b)*(a-c)) * v := by rw [h1]; clear h1 h2 h3 h4 t1 t2 hv k1 k2 k3; grind
    rw [this, ← t2]
    have : (b + d) * (a' - a) * v = (b + d) * (v * (a' - a)) := by clear h1 h2 h3 h4 t1 t2 hv k1 k2 k3 this; grind
    rw [this, hv]; clear h1 h2 h3 h4 t1 t2 hv k1 k2 k3 this; grind
  have k5 : m * (a' - a) = b' - b := by
    have : m * (a' - a) = (b'-b) * (v * (a'-a)) := by rw [h1]; clear h1 h2 h3 h4 t1 t2 hv k1 k2 k3 k4; grind
    rw [this, hv]; clear h1 h2 h3 h4 t1 t2 hv k1 k2 k3 k4; grind
  refine ⟨k3, ?_, ?_⟩
  · rw [h3, k3]; clear h1 h2 h3 h4 t1 t2 hv k1 k2 k3 k5; grind
  · rw [h4, k3]; clear h1 h2 h3 h4 t1 t2 hv k1 k2 k3; grind
theorem alg_adbl {a b c d v m nx ny : R} (t1 : (2*a + c) * (2*b)^2 = (3*a^2)^2) (t2 : (b + d) * (2*b) = 3*a^2*(a - c)) (hv : v * (2*b) = 1)
  (h1 : m = 3 * (a*a) * v) (h2 : nx = m*m - 2*a) (h3 : ny = -m*nx + m*a - b) : nx = c ∧ ny = d := by
  have k1 : m * m = (3*a^2)^2 * v^2 := by rw [h1]; clear h1 h2 h3 t1 t2 hv; grind
  have k2 : (2*a + c) * (2*b)^2 * v^2 = (2*a + c) * (v*(2*b))^2 := by clear h1 h2 h3 t1 t2 hv k1; grind
  have k3 : nx = c := by rw [h2, k1, ← t1, k2, hv]; clear h1 h2 h3 t1 t2 hv k1 k2; grind
  have k4 : m * (a - c) = b + d := by
    have : m * (a - c) = (3*a^2*(a-c)) * v := by rw [h1]; clear h1 h2 h3 t1 t2 hv k1 k2 k3; grind
    rw [this, ← t2]
    have : (b + d) * (2*b) * v = (b + d) * (v * (2*b)) := by clear h1 h2 h3 t1 t2 hv k1 k2 k3 this; grind
    rw [this, hv]; clear h1 h2 h3 t1 t2 hv k1 k2 k3 this; grind
  refine ⟨k3, ?_⟩
  rw [h3, k3]; clear h1 h2 h3 t1 t2 hv k1 k2 k3; grind
end
end Mine
set_option linter.unusedSimpArgs false
set_option linter.unusedVariables false
namespace Mine
structure Cv where
  P : Int
  N : Int
  B : Int
  Gx : Int
  Gy : Int
  X : Int → Int
  Y : Int → Int
/-- the tables of a curve: X, Y of the multiples, by the order -/
structure Good (C : Cv) : Prop where
  p5 : 5 ≤ C.P
  p127 : C.P ≤ 127
  n5 : 5 ≤ C.N
  n127 : C.N ≤ 127
  x0 : ∀ i, 0 ≤ C.X i
  x1 : ∀ i, C.X i < C.P
  y0 : ∀ i, 0 ≤ C.Y i
  y1 : ∀ i, C.Y i < C.P
  perX : ∀ i j, i % C.N = j % C.N → C.X i = C.X j
  perY : ∀ i j, i % C.N = j % C.N → C.Y i = C.Y j
  zX : ∀ i, i % C.N = 0 → C.X i = 0
  zY : ∀ i, i % C.N = 0 → C.Y i = 0
  nz : ∀ i, i % C.N ≠ 0 → C.Y i ≠ 0
  neX : ∀ i j, i % C.N ≠ 0 → j % C.N ≠ 0 → i % C.N ≠ j % C.N → (i + j) % C.N ≠ 0 → C.X i ≠ C.X j
  ch1 : ∀ i j, i % C.N ≠ 0 → j % C.N ≠ 0 → i % C.N ≠ j % C.N → (i + j) % C.N ≠ 0 → ((C.X i + C.X j + C.X (i + j)) * (C.X j - C.X i) ^ 2) % C.P = ((C.Y j - C.Y i) ^ 2) % C.P
  ch2 : ∀ i j, i % C.N ≠ 0 → j % C.N ≠ 0 → i % C.N ≠ j % C.N → (i + j) % C.N ≠ 0 → ((C.Y i + C.Y (i + j)) * (C.X j - C.X i)) % C.P = ((C.Y j - C.Y i) * (C.X i - C.X (i + j))) % C.P
  tg1 : ∀ i, i % C.N ≠ 0 → ((2 * C.X i + C.X (2 * i)) * (2 * C.Y i) ^ 2) % C.P = ((3 * C.X i ^ 2) ^ 2) % C.P
  tg2 : ∀ i, i % C.N ≠ 0 → ((C.Y i + C.Y (2 * i)) * (2 * C.Y i)) % C.P = (3 * C.X i ^ 2 * (C.X i - C.X (2 * i))) % C.P
  ng : ∀ i j, i % C.N ≠ 0 → (i + j) % C.N = 0 → C.X i = C.X j ∧ C.Y i ≠ C.Y j
  inv : ∀ a : Int, a % C.P ≠ 0 → ∃ v, v * a % C.P = 1
  nmul : ∀ a b : Int, a % C.N ≠ 0 → b % C.N ≠ 0 → (a * b) % C.N ≠ 0
  gx : C.X 1 = C.Gx
  gy : C.Y 1 = C.Gy

section
open Lean.Grind
def phi (R : Type) [CommRing R] (a : Int) : R := @IntCast.intCast R Ring.intCast a
theorem ring_of (P : Int) (h : 5 ≤ P) : ∃ (R : Type) (_ : CommRing R), ∀ a b : Int, phi R a = phi R b ↔ a % P = b % P := by
  obtain ⟨k, hk⟩ : ∃ k : Nat, P = ((k + 1 : Nat) : Int) := ⟨(P - 1).toNat, by omega⟩
  refine ⟨Fin (k + 1), inferInstance, fun a b => ?_⟩
  rw [hk]
  exact IsCharP.intCast_ext_iff (α := Fin (k + 1)) (k + 1)
variable {R : Type} [CommRing R]
theorem phi_add (a b : Int) : phi R (a + b) = phi R a + phi R b := Ring.intCast_add a b
theorem phi_sub (a b : Int) : phi R (a - b) = phi R a - phi R b := Ring.intCast_sub a b
theorem phi_mul (a b : Int) : phi R (a * b) = phi R a * phi R b := Ring.intCast_mul a b
theorem phi_neg (a : Int) : phi R (-a) = - phi R a := Ring.intCast_neg a
theorem phi_pow (a : Int) (k : Nat) : phi R (a ^ k) = phi R a ^ k := Ring.intCast_pow a k
theorem phi_0 : phi R 0 = 0 := Ring.intCast_ofNat 0
theorem phi_1 : phi R 1 = 1 := Ring.intCast_ofNat 1
theorem phi_2 : phi R 2 = 2 := Ring.intCast_ofNat 2
theorem phi_3 : phi R 3 = 3 := Ring.intCast_ofNat 3
theorem phi_4 : phi R 4 = 4 := Ring.intCast_ofNat 4
theorem phi_8 : phi R 8 = 8 := Ring.intCast_ofNat 8
theorem rg1 {a b z z2 : R} (e : a * z^2 * z2^2 = b * z2^2 * z^2) : (a - b) * (z*z2)^2 = 0 := by grind
theorem rg2 {a b z z2 : R} (e : a * z^3 * z2^3 = b * z2^3 * z^3) : (a - b) * (z*z2)^3 = 0 := by grind
theorem rg5 {a b z z2 : R} (e : b * z2 * z = a * z * z2) : (b - a) * (z*z2) = 0 := by grind
theorem rg6 (a z z2 : R) : a * z2 * z = a * z * z2 := by grind
theorem rg3 (a z z2 : R) : a * z^2 * z2^2 = a * z2^2 * z^2 := by grind
theorem rg4 (a z z2 : R) : a * z^3 * z2^3 = a * z2^3 * z^3 := by grind
theorem phi_mod {P : Int} (hR : ∀ a b : Int, phi R a = phi R b ↔ a % P = b % P) (a : Int) : phi R (a % P) = phi R a := (hR _ _).mpr (Int.emod_emod _ _)
end

def Jac (C : Cv) (i x y z : Int) : Prop := 0 ≤ x ∧ x < C.P ∧ 0 ≤ y ∧ y < C.P ∧ 1 ≤ z ∧ z < C.P ∧ x % C.P = (C.X i * z ^ 2) % C.P ∧ y % C.P = (C.Y i * z ^ 3) % C.P

section
variable {C : Cv}
theorem Good.gcd (G : Good C) {a : Int} (h1 : 1 ≤ a) (h2 : a < C.P) : Int.gcd a C.P = 1 := by
  obtain ⟨v, hv⟩ := G.inv a (by rw [Int.emod_eq_of_lt (by omega) h2]; omega)
  have k1 : ((Int.gcd a C.P : Nat) : Int) ∣ a := Int.gcd_dvd_left ..
  have k2 : ((Int.gcd a C.P : Nat) : Int) ∣ C.P := Int.gcd_dvd_right ..
  have k3 : ((Int.gcd a C.P : Nat) : Int) ∣ 1 := by
    have e : v * a - C.P * (v * a / C.P) = 1 := by rw [← Int.emod_def]; exact hv
    rw [← e]
    exact Int.dvd_sub (Int.dvd_trans k1 (Int.dvd_mul_left _ _)) (Int.dvd_trans k2 (Int.dvd_mul_right _ _))
  have := Int.natAbs_dvd_natAbs.mpr k3
  simpa using this
theorem Good.mul (G : Good C) {a b : Int} (ha : a % C.P ≠ 0) (hb : b % C.P ≠ 0) : (a * b) % C.P ≠ 0 := by
  intro h
  obtain ⟨v, hv⟩ := G.inv a ha
  apply hb
  have e1 : v * (a * b) % C.P = 0 := by rw [Int.mul_emod, h]; simp
  have e2 : v * (a * b) = (v * a) * b := by rw [Int.mul_assoc]
  rw [e2, Int.mul_emod, hv, Int.one_mul, Int.emod_emod] at e1
  exact e1
theorem Good.pow (G : Good C) {a : Int} (ha : a % C.P ≠ 0) : ∀ k : Nat, (a ^ k) % C.P ≠ 0
  | 0 => by rw [Int.pow_zero, Int.emod_eq_of_lt (by omega) (by have := G.p5; omega)]; omega
  | k + 1 => by rw [Int.pow_succ]; exact G.mul (G.pow ha k) ha
theorem Good.sml (G : Good C) {a : Int} (h0 : 0 < a) (h1 : a < C.P) : a % C.P ≠ 0 := by rw [Int.emod_eq_of_lt (by omega) h1]; omega
theorem Good.Yn (G : Good C) {i : Int} (h : i % C.N ≠ 0) : C.Y i % C.P ≠ 0 := G.sml (by have := G.y0 i; have := G.nz i h; omega) (G.y1 i)
theorem mod_small {a P : Int} (h0 : 0 ≤ a) (h1 : a < P) : a % P = a := Int.emod_eq_of_lt h0 h1
theorem mod_ne {a b P : Int} (ha : 0 ≤ a) (ha' : a < P) (hb : 0 ≤ b) (hb' : b < P) (h : a ≠ b) : (a - b) % P ≠ 0 := by
  intro e
  have := Int.emod_eq_emod_iff_emod_sub_eq_zero.mpr e
  rw [mod_small ha ha', mod_small hb hb'] at this
  exact h this

theorem Jac.zn (G : Good C) {i x y z : Int} (J : Jac C i x y z) : z % C.P ≠ 0 := G.sml (by have := J.2.2.2.2.1; omega) J.2.2.2.2.2.1
theorem Jac.yn (G : Good C) {i x y z : Int} (hi : i % C.N ≠ 0) (J : Jac C i x y z) : y ≠ 0 := by
  intro e
  have h := J.2.2.2.2.2.2.2
  rw [e] at h
  exact G.mul (G.Yn hi) (G.pow (J.zn G) 3) (by rw [← h]; simp)
theorem Jac.yz (G : Good C) {i x y z : Int} (hi : i % C.N = 0) (J : Jac C i x y z) : y = 0 := by
  have h := J.2.2.2.2.2.2.2
  rw [G.zY i hi, Int.zero_mul, mod_small J.2.2.1 J.2.2.2.1] at h
  simpa using h
theorem Jac.start (G : Good C) (i : Int) : Jac C i (C.X i) (C.Y i) 1 := ⟨G.x0 i, G.x1 i, G.y0 i, G.y1 i, by omega, by have := G.p5; omega, by simp, by simp⟩
theorem Jac.inf (G : Good C) {i : Int} (hi : i % C.N = 0) : Jac C i 0 0 1 := by
  have := Jac.start G i
  rwa [G.zX i hi, G.zY i hi] at this
theorem Jac.per (G : Good C) {i j x y z : Int} (h : i % C.N = j % C.N) (J : Jac C i x y z) : Jac C j x y z := by
  unfold Jac at J ⊢
  rwa [G.perX i j h, G.perY i j h] at J

theorem jac_dbl (G : Good C) {i x y z ysq S M X Y Z : Int} (hi : i % C.N ≠ 0) (J : Jac C i x y z) (h1 : ysq = y ^ 2 % C.P) (h2 : S = 4 * x * ysq % C.P) (h3 : M = (3 * x ^ 2 + 0 * z ^ 4) % C.P)
    (h4 : X = (M ^ 2 - 2 * S) % C.P) (h5 : Y = (M * (S - X) - 8 * ysq ^ 2) % C.P) (h6 : Z = 2 * y * z % C.P) (bX : 0 ≤ X) (bX' : X < C.P) (bY : 0 ≤ Y) (bY' : Y < C.P) (bZ : 0 ≤ Z) (bZ' : Z < C.P) : Jac C (2 * i) X Y Z := by
  obtain ⟨R, _, hR⟩ := ring_of C.P G.p5
  have hp := phi_mod hR
  have yn := J.yn G hi
  have hZ : Z ≠ 0 := by
    intro e
    rw [h6] at e
    exact G.mul (G.mul (G.sml (by decide) (by have := G.p5; omega)) (G.sml (by have := J.2.2.1; omega) J.2.2.2.1)) (J.zn G) e
  have hx := (hR _ _).mpr J.2.2.2.2.2.2.1
  have hy := (hR _ _).mpr J.2.2.2.2.2.2.2
  have t1 := (hR _ _).mpr (G.tg1 i hi)
  have t2 := (hR _ _).mpr (G.tg2 i hi)
  simp only [phi_add, phi_sub, phi_mul, phi_pow, phi_0, phi_1, phi_2, phi_3, phi_4, phi_8] at hx hy t1 t2
  have e1 := congrArg (phi R) h1
  have e2 := congrArg (phi R) h2
  have e3 := congrArg (phi R) h3
  have e4 := congrArg (phi R) h4
  have e5 := congrArg (phi R) h5
  have e6 := congrArg (phi R) h6
  simp only [hp, phi_add, phi_sub, phi_mul, phi_pow, phi_0, phi_1, phi_2, phi_3, phi_4, phi_8] at e1 e2 e3 e4 e5 e6
  obtain ⟨r1, r2⟩ := alg_dbl hx hy t1 t2 e1 e2 e3 e4 e5 e6
  refine ⟨bX, bX', bY, bY', by omega, bZ', (hR _ _).mp ?_, (hR _ _).mp ?_⟩
  · simp only [phi_mul, phi_pow]; exact r1
  · simp only [phi_mul, phi_pow]; exact r2

theorem jac_U (G : Good C) {i j x y z x2 y2 z2 : Int} (J : Jac C i x y z) (K : Jac C j x2 y2 z2) (h : (C.X i - C.X j) % C.P ≠ 0) : x * z2 ^ 2 % C.P ≠ x2 * z ^ 2 % C.P := by
  intro e
  obtain ⟨R, _, hR⟩ := ring_of C.P G.p5
  have e' := (hR _ _).mpr e
  have hx := (hR _ _).mpr J.2.2.2.2.2.2.1
  have kx := (hR _ _).mpr K.2.2.2.2.2.2.1
  have hn : ((C.X i - C.X j) * (z * z2) ^ 2) % C.P ≠ 0 := G.mul h (G.pow (G.mul (J.zn G) (K.zn G)) 2)
  apply hn
  have h0 : (0 : Int) % C.P = 0 := by simp
  rw [← h0]
  refine (hR _ _).mp ?_
  simp only [phi_sub, phi_mul, phi_pow, phi_0, phi_1, phi_2, phi_3, phi_4, phi_8] at *
  rw [hx, kx] at e'
  exact rg1 e'
theorem jac_U' (G : Good C) {i j x y z x2 y2 z2 : Int} (J : Jac C i x y z) (K : Jac C j x2 y2 z2) (h : C.X i = C.X j) : x * z2 ^ 2 % C.P = x2 * z ^ 2 % C.P := by
  obtain ⟨R, _, hR⟩ := ring_of C.P G.p5
  have hx := (hR _ _).mpr J.2.2.2.2.2.2.1
  have kx := (hR _ _).mpr K.2.2.2.2.2.2.1
  refine (hR _ _).mp ?_
  simp only [phi_sub, phi_mul, phi_pow, phi_0, phi_1, phi_2, phi_3, phi_4, phi_8] at *
  rw [hx, kx, h]
  exact rg3 _ _ _
theorem jac_S (G : Good C) {i j x y z x2 y2 z2 : Int} (J : Jac C i x y z) (K : Jac C j x2 y2 z2) (h : (C.Y i - C.Y j) % C.P ≠ 0) : y * z2 ^ 3 % C.P ≠ y2 * z ^ 3 % C.P := by
  intro e
  obtain ⟨R, _, hR⟩ := ring_of C.P G.p5
  have e' := (hR _ _).mpr e
  have hx := (hR _ _).mpr J.2.2.2.2.2.2.2
  have kx := (hR _ _).mpr K.2.2.2.2.2.2.2
  have hn : ((C.Y i - C.Y j) * (z * z2) ^ 3) % C.P ≠ 0 := G.mul h (G.pow (G.mul (J.zn G) (K.zn G)) 3)
  apply hn
  have h0 : (0 : Int) % C.P = 0 := by simp
  rw [← h0]
  refine (hR _ _).mp ?_
  simp only [phi_sub, phi_mul, phi_pow, phi_0, phi_1, phi_2, phi_3, phi_4, phi_8] at *
  rw [hx, kx] at e'
  exact rg2 e'
theorem jac_S' (G : Good C) {i j x y z x2 y2 z2 : Int} (J : Jac C i x y z) (K : Jac C j x2 y2 z2) (h : C.Y i = C.Y j) : y * z2 ^ 3 % C.P = y2 * z ^ 3 % C.P := by
  obtain ⟨R, _, hR⟩ := ring_of C.P G.p5
  have hx := (hR _ _).mpr J.2.2.2.2.2.2.2
  have kx := (hR _ _).mpr K.2.2.2.2.2.2.2
  refine (hR _ _).mp ?_
  simp only [phi_sub, phi_mul, phi_pow, phi_0, phi_1, phi_2, phi_3, phi_4, phi_8] at *
  rw [hx, kx, h]
  exact rg4 _ _ _

theorem jac_add (G : Good C) {i j x y z x2 y2 z2 U1 U2 S1 S2 H2 H3 UH X Y Z : Int} (hi : i % C.N ≠ 0) (hj : j % C.N ≠ 0) (hij : i % C.N ≠ j % C.N) (hs : (i + j) % C.N ≠ 0) (J : Jac C i x y z) (K : Jac C j x2 y2 z2)
    (e1 : U1 = x * z2 ^ 2 % C.P) (e2 : U2 = x2 * z ^ 2 % C.P) (e3 : S1 = y * z2 ^ 3 % C.P) (e4 : S2 = y2 * z ^ 3 % C.P)
    (e5 : H2 = (U2 - U1) * (U2 - U1) % C.P) (e6 : H3 = (U2 - U1) * H2 % C.P) (e7 : UH = U1 * H2 % C.P) (h4 : X = ((S2 - S1) ^ 2 - H3 - 2 * UH) % C.P) (h5 : Y = ((S2 - S1) * (UH - X) - S1 * H3) % C.P) (h6 : Z = (U2 - U1) * z * z2 % C.P)
    (bX : 0 ≤ X) (bX' : X < C.P) (bY : 0 ≤ Y) (bY' : Y < C.P) (bZ : 0 ≤ Z) (bZ' : Z < C.P) : Jac C (i + j) X Y Z := by
  have hne := G.neX i j hi hj hij hs
  have hU := jac_U G J K (mod_ne (G.x0 i) (G.x1 i) (G.x0 j) (G.x1 j) hne)
  have hZ : Z ≠ 0 := by
    intro e
    rw [h6] at e
    have := G.p5
    refine G.mul (G.mul ?_ (J.zn G)) (K.zn G) e
    refine mod_ne ?_ ?_ ?_ ?_ (by rw [e1, e2]; exact fun q => hU q.symm)
    · rw [e2]; exact Int.emod_nonneg _ (by omega)
    · rw [e2]; exact Int.emod_lt_of_pos _ (by omega)
    · rw [e1]; exact Int.emod_nonneg _ (by omega)
    · rw [e1]; exact Int.emod_lt_of_pos _ (by omega)
  obtain ⟨R, _, hR⟩ := ring_of C.P G.p5
  have hp := phi_mod hR
  have hx := (hR _ _).mpr J.2.2.2.2.2.2.1
  have hy := (hR _ _).mpr J.2.2.2.2.2.2.2
  have kx := (hR _ _).mpr K.2.2.2.2.2.2.1
  have ky := (hR _ _).mpr K.2.2.2.2.2.2.2
  have t1 := (hR _ _).mpr (G.ch1 i j hi hj hij hs)
  have t2 := (hR _ _).mpr (G.ch2 i j hi hj hij hs)
  simp only [phi_add, phi_sub, phi_mul, phi_pow, phi_0, phi_1, phi_2, phi_3, phi_4, phi_8] at hx hy kx ky t1 t2
  replace e1 := congrArg (phi R) e1
  replace e2 := congrArg (phi R) e2
  replace e3 := congrArg (phi R) e3
  replace e4 := congrArg (phi R) e4
  replace e5 := congrArg (phi R) e5
  replace e6 := congrArg (phi R) e6
  replace e7 := congrArg (phi R) e7
  replace h4 := congrArg (phi R) h4
  replace h5 := congrArg (phi R) h5
  replace h6 := congrArg (phi R) h6
  simp only [hp, phi_add, phi_sub, phi_mul, phi_pow, phi_0, phi_1, phi_2, phi_3, phi_4, phi_8] at e1 e2 e3 e4 e5 e6 e7 h4 h5 h6
  obtain ⟨r1, r2⟩ := alg_add hx hy kx ky t1 t2 e1 e2 e3 e4 e5 e6 e7 h4 h5 h6
  refine ⟨bX, bX', bY, bY', by omega, bZ', (hR _ _).mp ?_, (hR _ _).mp ?_⟩
  · simp only [phi_mul, phi_pow]; exact r1
  · simp only [phi_mul, phi_pow]; exact r2

theorem jac_from (G : Good C) {i x y z v X Y : Int} (J : Jac C i x y z) (hv : v * z % C.P = 1) (e1 : X = x * v ^ 2 % C.P) (e2 : Y = y * v ^ 3 % C.P) (bX : 0 ≤ X) (bX' : X < C.P) (bY : 0 ≤ Y) (bY' : Y < C.P) : X = C.X i ∧ Y = C.Y i := by
  obtain ⟨R, _, hR⟩ := ring_of C.P G.p5
  have hp := phi_mod hR
  have hx := (hR _ _).mpr J.2.2.2.2.2.2.1
  have hy := (hR _ _).mpr J.2.2.2.2.2.2.2
  have hv' : phi R (v * z) = phi R 1 := (hR _ _).mpr (by rw [hv]; exact (mod_small (by decide) (by have := G.p5; omega)).symm)
  replace e1 := congrArg (phi R) e1
  replace e2 := congrArg (phi R) e2
  simp only [hp, phi_add, phi_sub, phi_mul, phi_pow, phi_0, phi_1, phi_2, phi_3, phi_4, phi_8] at hx hy hv' e1 e2
  obtain ⟨r1, r2⟩ := alg_from hx hy hv' e1 e2
  have q1 := (hR _ _).mp r1
  have q2 := (hR _ _).mp r2
  rw [mod_small bX bX', mod_small (G.x0 i) (G.x1 i)] at q1
  rw [mod_small bY bY', mod_small (G.y0 i) (G.y1 i)] at q2
  exact ⟨q1, q2⟩
end
end Mine
set_option linter.unusedSimpArgs false
set_option linter.unusedVariables false
namespace Mine
section
variable {C : Cv}
theorem adbl_sem (G : Good C) {i q1 q2 q3 v m mm t nx mn a1 a2 a3 ny : Int} (hi : i % C.N ≠ 0) (h1 : q1 = C.X i * C.X i % C.P) (h2 : q2 = q1 * 3 % C.P) (h3 : q3 = C.Y i * 2 % C.P) (hv : v * q3 % C.P = 1) (h4 : m = q2 * v % C.P)
    (h5 : mm = m * m % C.P) (h6 : t = C.X i * 2 % C.P) (h7 : nx = (mm - t) % C.P) (h8 : mn = (-m) % C.P) (h9 : a1 = mn * nx % C.P) (h10 : a2 = m * C.X i % C.P) (h11 : a3 = (a1 + a2) % C.P) (h12 : ny = (a3 - C.Y i) % C.P)
    (b1 : 0 ≤ nx) (b2 : nx < C.P) (b3 : 0 ≤ ny) (b4 : ny < C.P) : nx = C.X (2 * i) ∧ ny = C.Y (2 * i) := by
  obtain ⟨R, _, hR⟩ := ring_of C.P G.p5
  have hp := phi_mod hR
  have t1 := (hR _ _).mpr (G.tg1 i hi)
  have t2 := (hR _ _).mpr (G.tg2 i hi)
  have hv' : phi R (v * q3) = phi R 1 := (hR _ _).mpr (by rw [hv]; exact (mod_small (by decide) (by have := G.p5; omega)).symm)
  replace h1 := congrArg (phi R) h1
  replace h2 := congrArg (phi R) h2
  replace h3 := congrArg (phi R) h3
  replace h4 := congrArg (phi R) h4
  replace h5 := congrArg (phi R) h5
  replace h6 := congrArg (phi R) h6
  replace h7 := congrArg (phi R) h7
  replace h8 := congrArg (phi R) h8
  replace h9 := congrArg (phi R) h9
  replace h10 := congrArg (phi R) h10
  replace h11 := congrArg (phi R) h11
  replace h12 := congrArg (phi R) h12
  simp only [hp, phi_add, phi_sub, phi_mul, phi_neg, phi_pow, phi_0, phi_1, phi_2, phi_3, phi_4, phi_8] at t1 t2 hv' h1 h2 h3 h4 h5 h6 h7 h8 h9 h10 h11 h12
  have k := alg_adbl (v := phi R v) (m := phi R m) (nx := phi R nx) (ny := phi R ny) t1 t2 (by rw [← hv', h3]; exact congrArg (phi R v * ·) (Lean.Grind.CommSemiring.mul_comm _ _)) (by rw [h4, h2, h1]; exact congrArg (· * phi R v) (Lean.Grind.CommSemiring.mul_comm _ _))
    (by rw [h7, h5, h6]; exact congrArg (phi R m * phi R m - ·) (Lean.Grind.CommSemiring.mul_comm _ _)) (by rw [h12, h11, h9, h10, h8])
  obtain ⟨r1, r2⟩ := k
  have q1 := (hR _ _).mp r1
  have q2 := (hR _ _).mp r2
  rw [mod_small b1 b2, mod_small (G.x0 _) (G.x1 _)] at q1
  rw [mod_small b3 b4, mod_small (G.y0 _) (G.y1 _)] at q2
  exact ⟨q1, q2⟩
theorem aadd_sem (G : Good C) {i j d1 d2 v m mm s1 nx mn a1 a2 a3 ny mn2 a12 c2 c3 ty : Int} (hi : i % C.N ≠ 0) (hj : j % C.N ≠ 0) (hij : i % C.N ≠ j % C.N) (hs : (i + j) % C.N ≠ 0)
    (h1 : d1 = (C.Y j - C.Y i) % C.P) (h2 : d2 = (C.X j - C.X i) % C.P) (hv : v * d2 % C.P = 1) (h4 : m = d1 * v % C.P)
    (h5 : mm = m * m % C.P) (h6 : s1 = (mm - C.X i) % C.P) (h7 : nx = (s1 - C.X j) % C.P) (h10 : a2 = m * C.X i % C.P) (h11 : a3 = (a1 + a2) % C.P) (h9 : a1 = mn * nx % C.P) (h8 : mn = (-m) % C.P) (h12 : ny = (a3 - C.Y i) % C.P)
    (h14 : c2 = m * C.X j % C.P) (h15 : c3 = (a12 + c2) % C.P) (h17 : a12 = mn2 * nx % C.P) (h18 : mn2 = (-m) % C.P) (h16 : ty = (c3 - C.Y j) % C.P)
    (b1 : 0 ≤ nx) (b2 : nx < C.P) (b3 : 0 ≤ ny) (b4 : ny < C.P) (b5 : 0 ≤ ty) (b6 : ty < C.P) : nx = C.X (i + j) ∧ ny = C.Y (i + j) ∧ ty = C.Y (i + j) := by
  obtain ⟨R, _, hR⟩ := ring_of C.P G.p5
  have hp := phi_mod hR
  have t1 := (hR _ _).mpr (G.ch1 i j hi hj hij hs)
  have t2 := (hR _ _).mpr (G.ch2 i j hi hj hij hs)
  have hv' : phi R (v * d2) = phi R 1 := (hR _ _).mpr (by rw [hv]; exact (mod_small (by decide) (by have := G.p5; omega)).symm)
  replace h1 := congrArg (phi R) h1
  replace h2 := congrArg (phi R) h2
  replace h4 := congrArg (phi R) h4
  replace h5 := congrArg (phi R) h5
  replace h6 := congrArg (phi R) h6
  replace h7 := congrArg (phi R) h7
  replace h8 := congrArg (phi R) h8
  replace h9 := congrArg (phi R) h9
  replace h10 := congrArg (phi R) h10
  replace h11 := congrArg (phi R) h11
  replace h12 := congrArg (phi R) h12
  replace h14 := congrArg (phi R) h14
  replace h15 := congrArg (phi R) h15
  replace h16 := congrArg (phi R) h16
  replace h17 := congrArg (phi R) h17
  replace h18 := congrArg (phi R) h18
  simp only [hp, phi_add, phi_sub, phi_mul, phi_neg, phi_pow, phi_0, phi_1, phi_2, phi_3, phi_4, phi_8] at t1 t2 hv' h1 h2 h4 h5 h6 h7 h8 h9 h10 h11 h12 h14 h15 h16 h17 h18
  have k := alg_aadd (v := phi R v) (m := phi R m) (nx := phi R nx) (ny := phi R ny) (ty := phi R ty) t1 t2 (by rw [← hv', h2]) (by rw [h4, h1]) (by rw [h7, h6, h5]) (by rw [h12, h11, h9, h10, h8]) (by rw [h16, h15, h14, h17, h18])
  obtain ⟨r1, r2, r3⟩ := k
  have q1 := (hR _ _).mp r1
  have q2 := (hR _ _).mp r2
  have q3 := (hR _ _).mp r3
  rw [mod_small b1 b2, mod_small (G.x0 _) (G.x1 _)] at q1
  rw [mod_small b3 b4, mod_small (G.y0 _) (G.y1 _)] at q2
  rw [mod_small b5 b6, mod_small (G.y0 _) (G.y1 _)] at q3
  exact ⟨q1, q2, q3⟩
def Prj (C : Cv) (i x y z : Int) : Prop := 0 ≤ x ∧ x < C.P ∧ 0 ≤ y ∧ y < C.P ∧ 1 ≤ z ∧ z < C.P ∧ x % C.P = (C.X i * z) % C.P ∧ y % C.P = (C.Y i * z) % C.P
theorem Prj.zn (G : Good C) {i x y z : Int} (J : Prj C i x y z) : z % C.P ≠ 0 := G.sml (by have := J.2.2.2.2.1; omega) J.2.2.2.2.2.1
theorem prj_dbl (G : Good C) {i x y z xx w1 s xy b hw h8 h s2 t1 b4 bh wbh y8 y82 y8s q nx ny nz : Int} (hi : i % C.N ≠ 0) (J : Prj C i x y z)
    (e1 : xx = x * 3 % C.P) (e2 : w1 = xx * x % C.P) (e3 : s = y * z % C.P) (e4 : xy = x * y % C.P) (e5 : b = xy * s % C.P) (e6 : hw = w1 * w1 % C.P) (e7 : h8 = b * 8 % C.P) (e8 : h = (hw - h8) % C.P) (e9 : s2 = s * s % C.P)
    (e10 : t1 = h * 2 % C.P) (e11 : nx = t1 * s % C.P) (e12 : b4 = b * 4 % C.P) (e13 : bh = (b4 - h) % C.P) (e14 : wbh = w1 * bh % C.P) (e15 : y8 = y * 8 % C.P) (e16 : y82 = y8 * y % C.P) (e17 : y8s = y82 * s2 % C.P) (e18 : ny = (wbh - y8s) % C.P)
    (e19 : q = s * 8 % C.P) (e20 : nz = q * s2 % C.P) (b1 : 0 ≤ nx) (b2 : nx < C.P) (b3 : 0 ≤ ny) (b4' : ny < C.P) (b5 : 0 ≤ nz) (b6 : nz < C.P) : Prj C (2 * i) nx ny nz := by
  have yn : y % C.P ≠ 0 := by rw [J.2.2.2.2.2.2.2]; exact G.mul (G.Yn hi) (J.zn G)
  have hs : s % C.P ≠ 0 := by rw [e3, Int.emod_emod]; exact G.mul yn (J.zn G)
  have p5 := G.p5
  have h8n : (8 : Int) % C.P ≠ 0 := by
    intro e
    have := G.pow (a := 2) (G.sml (by decide) (by omega)) 3
    exact this e
  have hnz : nz ≠ 0 := by
    intro e
    have : nz % C.P ≠ 0 := by
      rw [e20, Int.emod_emod]
      refine G.mul ?_ ?_
      · rw [e19, Int.emod_emod]; exact G.mul hs h8n
      · rw [e9, Int.emod_emod]; exact G.mul hs hs
    rw [e] at this
    simp at this
  obtain ⟨R, _, hR⟩ := ring_of C.P G.p5
  have hp := phi_mod hR
  have hx := (hR _ _).mpr J.2.2.2.2.2.2.1
  have hy := (hR _ _).mpr J.2.2.2.2.2.2.2
  have t1' := (hR _ _).mpr (G.tg1 i hi)
  have t2' := (hR _ _).mpr (G.tg2 i hi)
  replace e1 := congrArg (phi R) e1
  replace e2 := congrArg (phi R) e2
  replace e3 := congrArg (phi R) e3
  replace e4 := congrArg (phi R) e4
  replace e5 := congrArg (phi R) e5
  replace e6 := congrArg (phi R) e6
  replace e7 := congrArg (phi R) e7
  replace e8 := congrArg (phi R) e8
  replace e9 := congrArg (phi R) e9
  replace e10 := congrArg (phi R) e10
  replace e11 := congrArg (phi R) e11
  replace e12 := congrArg (phi R) e12
  replace e13 := congrArg (phi R) e13
  replace e14 := congrArg (phi R) e14
  replace e15 := congrArg (phi R) e15
  replace e16 := congrArg (phi R) e16
  replace e17 := congrArg (phi R) e17
  replace e18 := congrArg (phi R) e18
  replace e19 := congrArg (phi R) e19
  replace e20 := congrArg (phi R) e20
  simp only [hp, phi_add, phi_sub, phi_mul, phi_neg, phi_pow, phi_0, phi_1, phi_2, phi_3, phi_4, phi_8] at hx hy t1' t2' e1 e2 e3 e4 e5 e6 e7 e8 e9 e10 e11 e12 e13 e14 e15 e16 e17 e18 e19 e20
  have k := alg_pdbl (W := phi R w1) (S := phi R s) (B := phi R b) (H := phi R h) (SS := phi R s2) (nx := phi R nx) (ny := phi R ny) (nz := phi R nz) hx hy t1' t2'
    (by rw [e2, e1]; exact congrArg (· * phi R x) (Lean.Grind.CommSemiring.mul_comm _ _)) e3 (by rw [e5, e4]) (by rw [e8, e6, e7]; exact congrArg (phi R w1 * phi R w1 - ·) (Lean.Grind.CommSemiring.mul_comm _ _)) e9
    (by rw [e11, e10]; exact congrArg (· * phi R s) (Lean.Grind.CommSemiring.mul_comm _ _))
    (by rw [e18, e14, e13, e12, e17, e16, e15, Lean.Grind.CommSemiring.mul_comm (phi R b) 4, Lean.Grind.CommSemiring.mul_comm (phi R y) 8])
    (by rw [e20, e19, Lean.Grind.CommSemiring.mul_comm (phi R s) 8])
  refine ⟨b1, b2, b3, b4', by omega, b6, (hR _ _).mp ?_, (hR _ _).mp ?_⟩
  · rw [phi_mul]; exact k.1
  · rw [phi_mul]; exact k.2
theorem prj_V (G : Good C) {i j x y z x2 y2 z2 : Int} (J : Prj C i x y z) (K : Prj C j x2 y2 z2) (h : (C.X j - C.X i) % C.P ≠ 0) : (x2 * z % C.P) ≠ (x * z2 % C.P) := by
  intro e
  obtain ⟨R, _, hR⟩ := ring_of C.P G.p5
  have e' := (hR _ _).mpr e
  have hx := (hR _ _).mpr J.2.2.2.2.2.2.1
  have kx := (hR _ _).mpr K.2.2.2.2.2.2.1
  have hn : ((C.X j - C.X i) * (z * z2)) % C.P ≠ 0 := G.mul h (G.mul (J.zn G) (K.zn G))
  apply hn
  have h0 : (0 : Int) % C.P = 0 := by simp
  rw [← h0]
  refine (hR _ _).mp ?_
  simp only [phi_sub, phi_mul, phi_0] at *
  rw [hx, kx] at e'
  exact rg5 e'
theorem prj_V' (G : Good C) {i j x y z x2 y2 z2 : Int} (J : Prj C i x y z) (K : Prj C j x2 y2 z2) (h : C.X i = C.X j) : (x2 * z % C.P) = (x * z2 % C.P) := by
  obtain ⟨R, _, hR⟩ := ring_of C.P G.p5
  have hx := (hR _ _).mpr J.2.2.2.2.2.2.1
  have kx := (hR _ _).mpr K.2.2.2.2.2.2.1
  refine (hR _ _).mp ?_
  simp only [phi_sub, phi_mul, phi_0] at *
  rw [hx, kx, h]
  exact rg6 _ _ _
theorem prj_U (G : Good C) {i j x y z x2 y2 z2 : Int} (J : Prj C i x y z) (K : Prj C j x2 y2 z2) (h : (C.Y j - C.Y i) % C.P ≠ 0) : (y2 * z % C.P) ≠ (y * z2 % C.P) := by
  intro e
  obtain ⟨R, _, hR⟩ := ring_of C.P G.p5
  have e' := (hR _ _).mpr e
  have hx := (hR _ _).mpr J.2.2.2.2.2.2.2
  have kx := (hR _ _).mpr K.2.2.2.2.2.2.2
  have hn : ((C.Y j - C.Y i) * (z * z2)) % C.P ≠ 0 := G.mul h (G.mul (J.zn G) (K.zn G))
  apply hn
  have h0 : (0 : Int) % C.P = 0 := by simp
  rw [← h0]
  refine (hR _ _).mp ?_
  simp only [phi_sub, phi_mul, phi_0] at *
  rw [hx, kx] at e'
  exact rg5 e'
theorem prj_Y' (G : Good C) {i j x y z x2 y2 z2 : Int} (J : Prj C i x y z) (K : Prj C j x2 y2 z2) (h : C.Y i = C.Y j) : (y2 * z % C.P) = (y * z2 % C.P) := by
  obtain ⟨R, _, hR⟩ := ring_of C.P G.p5
  have hx := (hR _ _).mpr J.2.2.2.2.2.2.2
  have kx := (hR _ _).mpr K.2.2.2.2.2.2.2
  refine (hR _ _).mp ?_
  simp only [phi_sub, phi_mul, phi_0] at *
  rw [hx, kx, h]
  exact rg6 _ _ _
theorem prj_add (G : Good C) {i j x y z x2 y2 z2 U1 U2 V1 V2 U V VS VSV VC W uu uw k1 k2 A nx av uv vu ny nz : Int} (hi : i % C.N ≠ 0) (hj : j % C.N ≠ 0) (hij : i % C.N ≠ j % C.N) (hs : (i + j) % C.N ≠ 0) (J : Prj C i x y z) (K : Prj C j x2 y2 z2)
    (e1 : U1 = y2 * z % C.P) (e2 : U2 = y * z2 % C.P) (e3 : V1 = x2 * z % C.P) (e4 : V2 = x * z2 % C.P) (e5 : U = (U1 - U2) % C.P) (e6 : V = (V1 - V2) % C.P) (e7 : VS = V * V % C.P) (e8 : VSV = VS * V2 % C.P) (e9 : VC = V * VS % C.P) (e10 : W = z * z2 % C.P)
    (e11 : uu = U * U % C.P) (e12 : uw = uu * W % C.P) (e13 : k1 = (uw - VC) % C.P) (e14 : k2 = VSV * 2 % C.P) (e15 : A = (k1 - k2) % C.P) (e16 : nx = V * A % C.P) (e17 : av = (VSV - A) % C.P) (e18 : uv = U * av % C.P) (e19 : vu = VC * U2 % C.P) (e20 : ny = (uv - vu) % C.P) (e21 : nz = VC * W % C.P)
    (b1 : 0 ≤ nx) (b2 : nx < C.P) (b3 : 0 ≤ ny) (b4' : ny < C.P) (b5 : 0 ≤ nz) (b6 : nz < C.P) : Prj C (i + j) nx ny nz := by
  have hne := G.neX i j hi hj hij hs
  have hV := prj_V G J K (mod_ne (G.x0 j) (G.x1 j) (G.x0 i) (G.x1 i) (Ne.symm hne))
  have p5 := G.p5
  have hVn : V % C.P ≠ 0 := by
    rw [e6, Int.emod_emod]
    refine mod_ne ?_ ?_ ?_ ?_ (by rw [e3, e4]; exact hV)
    · rw [e3]; exact Int.emod_nonneg _ (by omega)
    · rw [e3]; exact Int.emod_lt_of_pos _ (by omega)
    · rw [e4]; exact Int.emod_nonneg _ (by omega)
    · rw [e4]; exact Int.emod_lt_of_pos _ (by omega)
  have hnz : nz ≠ 0 := by
    intro e
    have : nz % C.P ≠ 0 := by
      rw [e21, Int.emod_emod]
      refine G.mul ?_ ?_
      · rw [e9, Int.emod_emod]
        refine G.mul hVn ?_
        rw [e7, Int.emod_emod]; exact G.mul hVn hVn
      · rw [e10, Int.emod_emod]; exact G.mul (J.zn G) (K.zn G)
    rw [e] at this
    simp at this
  obtain ⟨R, _, hR⟩ := ring_of C.P G.p5
  have hp := phi_mod hR
  have hx := (hR _ _).mpr J.2.2.2.2.2.2.1
  have hy := (hR _ _).mpr J.2.2.2.2.2.2.2
  have kx := (hR _ _).mpr K.2.2.2.2.2.2.1
  have ky := (hR _ _).mpr K.2.2.2.2.2.2.2
  have t1' := (hR _ _).mpr (G.ch1 i j hi hj hij hs)
  have t2' := (hR _ _).mpr (G.ch2 i j hi hj hij hs)
  replace e1 := congrArg (phi R) e1
  replace e2 := congrArg (phi R) e2
  replace e3 := congrArg (phi R) e3
  replace e4 := congrArg (phi R) e4
  replace e5 := congrArg (phi R) e5
  replace e6 := congrArg (phi R) e6
  replace e7 := congrArg (phi R) e7
  replace e8 := congrArg (phi R) e8
  replace e9 := congrArg (phi R) e9
  replace e10 := congrArg (phi R) e10
  replace e11 := congrArg (phi R) e11
  replace e12 := congrArg (phi R) e12
  replace e13 := congrArg (phi R) e13
  replace e14 := congrArg (phi R) e14
  replace e15 := congrArg (phi R) e15
  replace e16 := congrArg (phi R) e16
  replace e17 := congrArg (phi R) e17
  replace e18 := congrArg (phi R) e18
  replace e19 := congrArg (phi R) e19
  replace e20 := congrArg (phi R) e20
  replace e21 := congrArg (phi R) e21
  simp only [hp, phi_add, phi_sub, phi_mul, phi_neg, phi_pow, phi_0, phi_1, phi_2, phi_3, phi_4, phi_8] at hx hy kx ky t1' t2' e1 e2 e3 e4 e5 e6 e7 e8 e9 e10 e11 e12 e13 e14 e15 e16 e17 e18 e19 e20 e21
  have k := alg_padd (VS := phi R VS) (VSV := phi R VSV) (VC := phi R VC) (W := phi R W) (A := phi R A) (nx := phi R nx) (ny := phi R ny) (nz := phi R nz) hx hy kx ky t1' t2' e1 e2 e3 e4 (by rw [e7, e6]) e8 (by rw [e9, e6]) e10
    (by rw [e15, e13, e12, e11, e14, e5, Lean.Grind.CommSemiring.mul_comm (phi R VSV) 2]) (by rw [e16, e6]) (by rw [e20, e18, e17, e19, e5]) e21
  refine ⟨b1, b2, b3, b4', by omega, b6, (hR _ _).mp ?_, (hR _ _).mp ?_⟩
  · rw [phi_mul]; exact k.1
  · rw [phi_mul]; exact k.2
end
end Mine
namespace Mine
section
variable {C : Cv}
theorem hev {n r i : Int} (e : r = n / 2) (hm : n % 2 = 0) : n * i = r * (2 * i) := by
  have : n = r * 2 := by omega
  rw [this, Int.mul_assoc]
theorem hod {n r i : Int} (e : r = n / 2) (hm : n % 2 = 1) : n * i = r * (2 * i) + i := by
  have : n = r * 2 + 1 := by omega
  rw [this, Int.add_mul, Int.mul_assoc, Int.one_mul]
theorem nz2 (G : Good C) {i : Int} (hi : i % C.N ≠ 0) : (2 * i) % C.N ≠ 0 := G.nmul 2 i (by rw [Int.emod_eq_of_lt (by decide) (by have := G.n5; omega)]; decide) hi
theorem nzr (G : Good C) {i n r : Int} (hi : i % C.N ≠ 0) (h2 : 2 ≤ n) (hN : n < C.N) (e : r = n / 2) : (r * (2 * i)) % C.N ≠ 0 :=
  G.nmul r _ (by rw [Int.emod_eq_of_lt (by omega) (by omega)]; omega) (nz2 G hi)
theorem nzd (G : Good C) {i n r : Int} (hi : i % C.N ≠ 0) (h2 : 2 ≤ n) (hN : n < C.N) (hm : n % 2 = 1) (e : r = n / 2) : (r * (2 * i)) % C.N ≠ i % C.N := by
  intro h
  have h0 := Int.emod_eq_emod_iff_emod_sub_eq_zero.mp h
  have e2 : r * (2 * i) - i = (n - 2) * i := by
    have : n = r * 2 + 1 := by omega
    rw [this, ← Int.mul_assoc]
    have : (r * 2 + 1 - 2) = r * 2 - 1 := by omega
    rw [this, Int.sub_mul, Int.one_mul]
  rw [e2] at h0
  exact G.nmul (n - 2) i (by rw [Int.emod_eq_of_lt (by omega) (by omega)]; omega) hi h0
theorem nzs (G : Good C) {i n r : Int} (hi : i % C.N ≠ 0) (h2 : 2 ≤ n) (hN : n < C.N) (hm : n % 2 = 1) (e : r = n / 2) : (r * (2 * i) + i) % C.N ≠ 0 := by
  rw [← hod e hm]
  exact G.nmul n i (by rw [Int.emod_eq_of_lt (by omega) (by omega)]; omega) hi
end
end Mine
namespace Mine
section
variable {C : Cv}
theorem plx (G : Good C) {i n : Int} (e : n = C.X i % C.P) : n = C.X i := by rw [e, mod_small (G.x0 i) (G.x1 i)]
theorem ply (G : Good C) {i n : Int} (e : n = C.Y i % C.P) : n = C.Y i := by rw [e, mod_small (G.y0 i) (G.y1 i)]
theorem prj_of (G : Good C) {i v a b c : Int} (h1 : 1 ≤ v) (h2 : v < C.P) (e1 : a = C.X i * v % C.P) (e2 : b = C.Y i * v % C.P) (e3 : c = v % C.P) : Prj C i a b c := by
  have p5 := G.p5
  have hc : c = v := by rw [e3, mod_small (by omega) h2]
  subst hc
  refine ⟨?_, ?_, ?_, ?_, h1, h2, ?_, ?_⟩
  · rw [e1]; exact Int.emod_nonneg _ (by omega)
  · rw [e1]; exact Int.emod_lt_of_pos _ (by omega)
  · rw [e2]; exact Int.emod_nonneg _ (by omega)
  · rw [e2]; exact Int.emod_lt_of_pos _ (by omega)
  · rw [e1, Int.emod_emod]
  · rw [e2, Int.emod_emod]
end
end Mine
namespace Mine
abbrev Pt := Nat × Nat
/-- the chord's two equations, and the two abscissae apart -/
def chordB (p x1 y1 x2 y2 x3 y3 : Nat) : Bool :=
  (Nat.beq ((x1 + x2 + x3) * ((x2 + (p - x1)) * (x2 + (p - x1))) % p) ((y2 + (p - y1)) * (y2 + (p - y1)) % p)).and
    ((Nat.beq ((y1 + y3) * (x2 + (p - x1)) % p) ((y2 + (p - y1)) * (x1 + (p - x3)) % p)).and (Nat.beq x1 x2).not)
noncomputable def rowB (p n x1 y1 : Nat) : Nat → List Pt → List Pt → Bool
  | m, a :: as, b :: bs => (match Nat.beq m n with
      | true => (Nat.beq x1 a.1).and (Nat.beq y1 a.2).not
      | false => chordB p x1 y1 a.1 a.2 b.1 b.2).and (rowB p n x1 y1 (m + 1) as bs)
  | _, [], _ => true
  | _, _, [] => false
noncomputable def rowsB (p n : Nat) : Nat → List Pt → List Pt → Bool
  | i, a :: as, b => (rowB p n a.1 a.2 (i + (i + 1)) as (b.drop (i + 1))).and (rowsB p n (i + 1) as (b.drop 1))
  | _, [], _ => true
def tangB (p x1 y1 x3 y3 : Nat) : Bool :=
  (Nat.beq ((2 * x1 + x3) * (2 * y1 * (2 * y1)) % p) (3 * (x1 * x1) * (3 * (x1 * x1)) % p)).and
    (Nat.beq ((y1 + y3) * (2 * y1) % p) (3 * (x1 * x1) * (x1 + (p - x3)) % p))
noncomputable def tangsB (p : Nat) : List Pt → List Pt → Bool
  | a :: as, b :: _ :: bs => (tangB p a.1 a.2 b.1 b.2).and (tangsB p as bs)
  | [], _ => true
  | _, _ => false
noncomputable def invB (p : Nat) : Nat → List Nat → Bool
  | a, v :: vs => (Nat.beq (v * a % p) 1).and (invB p (a + 1) vs)
  | _, [] => true
def pt (t : List Pt) (k : Nat) : Pt := t.getD k (0, 0)

theorem and_split {a b : Bool} (h : a.and b = true) : a = true ∧ b = true := by cases a <;> simp_all
theorem rowB_ok {p n x1 y1 : Nat} : ∀ {as bs : List Pt} {m : Nat}, rowB p n x1 y1 m as bs = true → ∀ k, k < as.length →
    (m + k = n → x1 = (pt as k).1 ∧ y1 ≠ (pt as k).2) ∧ (m + k ≠ n → chordB p x1 y1 (pt as k).1 (pt as k).2 (pt bs k).1 (pt bs k).2 = true)
  | [], _, _, _, k, hk => absurd hk (Nat.not_lt_zero k)
  | a :: as, [], _, h, _, _ => by simp [rowB] at h
  | a :: as, b :: bs, m, h, k, hk => by
    unfold rowB at h
    obtain ⟨h1, h2⟩ := and_split h
    cases k with
    | zero =>
      simp only [pt, List.getD_cons_zero, Nat.add_zero]
      cases hb : Nat.beq m n with
      | true =>
        rw [hb] at h1
        obtain ⟨q1, q2⟩ := and_split h1
        refine ⟨fun _ => ⟨Nat.eq_of_beq_eq_true q1, fun e => ?_⟩, fun hne => absurd (Nat.eq_of_beq_eq_true hb) hne⟩
        rw [e, Nat.beq_refl] at q2
        cases q2
      | false =>
        rw [hb] at h1
        refine ⟨fun e => ?_, fun _ => h1⟩
        rw [e, Nat.beq_refl] at hb
        cases hb
    | succ k =>
      have := rowB_ok h2 k (by simpa using hk)
      simpa only [pt, List.getD_cons_succ, Nat.add_assoc, Nat.add_comm 1 k] using this
theorem pt_drop (t : List Pt) (a k : Nat) : pt (t.drop a) k = pt t (a + k) := by
  unfold pt
  simp only [List.getD_eq_getElem?_getD, List.getElem?_drop]
theorem rowsB_ok {p n : Nat} : ∀ {as b : List Pt} {i : Nat}, rowsB p n i as b = true → ∀ u v, u < v → v < as.length →
    (i + u + (i + v) = n → (pt as u).1 = (pt as v).1 ∧ (pt as u).2 ≠ (pt as v).2) ∧
    (i + u + (i + v) ≠ n → chordB p (pt as u).1 (pt as u).2 (pt as v).1 (pt as v).2 (pt b (i + u + v)).1 (pt b (i + u + v)).2 = true)
  | [], _, _, _, _, v, _, hv => absurd hv (Nat.not_lt_zero v)
  | a :: as, b, i, h, u, v, huv, hv => by
    unfold rowsB at h
    obtain ⟨h1, h2⟩ := and_split h
    cases v with
    | zero => omega
    | succ v =>
      cases u with
      | zero =>
        have := rowB_ok h1 v (by simpa using hv)
        rw [pt_drop] at this
        have e1 : i + (i + 1) + v = i + 0 + (i + (v + 1)) := by omega
        have e2 : i + 1 + v = i + 0 + (v + 1) := by omega
        rw [e1, e2] at this
        simpa only [pt, List.getD_cons_zero, List.getD_cons_succ] using this
      | succ u =>
        have := rowsB_ok h2 u v (by omega) (by simpa using hv)
        rw [pt_drop] at this
        have e1 : i + 1 + u + (i + 1 + v) = i + (u + 1) + (i + (v + 1)) := by omega
        have e2 : 1 + (i + 1 + u + v) = i + (u + 1) + (v + 1) := by omega
        rw [e1, e2] at this
        simpa only [pt, List.getD_cons_succ] using this
theorem tangsB_ok {p : Nat} : ∀ {as b : List Pt}, tangsB p as b = true → ∀ k, k < as.length → tangB p (pt as k).1 (pt as k).2 (pt b (2 * k)).1 (pt b (2 * k)).2 = true
  | [], _, _, k, hk => absurd hk (Nat.not_lt_zero k)
  | a :: as, [], h, _, _ => by simp [tangsB] at h
  | a :: as, [_], h, _, _ => by simp [tangsB] at h
  | a :: as, b :: c :: bs, h, k, hk => by
    unfold tangsB at h
    obtain ⟨h1, h2⟩ := and_split h
    cases k with
    | zero => simpa only [pt, List.getD_cons_zero, Nat.mul_zero] using h1
    | succ k =>
      have := tangsB_ok h2 k (by simpa using hk)
      simpa only [pt, List.getD_cons_succ, show 2 * (k + 1) = 2 * k + 1 + 1 by omega] using this
theorem invB_ok {p : Nat} : ∀ {vs : List Nat} {a : Nat}, invB p a vs = true → ∀ k, k < vs.length → (vs.getD k 0) * (a + k) % p = 1
  | [], _, _, k, hk => absurd hk (Nat.not_lt_zero k)
  | v :: vs, a, h, k, hk => by
    unfold invB at h
    obtain ⟨h1, h2⟩ := and_split h
    cases k with
    | zero => simpa only [List.getD_cons_zero, Nat.add_zero] using Nat.eq_of_beq_eq_true h1
    | succ k =>
      have := invB_ok h2 k (by simpa using hk)
      rw [List.getD_cons_succ]
      rwa [show a + 1 + k = a + (k + 1) by omega] at this

/-- a curve by its table -/
def mkCv (p n b gx gy : Nat) (t : List Pt) : Cv := { P := p, N := n, B := b, Gx := gx, Gy := gy, X := fun i => ((pt t (i % n).toNat).1 : Nat), Y := fun i => ((pt t (i % n).toNat).2 : Nat) }
structure Chk (p n gx gy : Nat) (t : List Pt) (ip iN : List Nat) : Prop where
  p5 : 5 ≤ p
  p127 : p ≤ 127
  n5 : 5 ≤ n
  n127 : n ≤ 127
  odd : n % 2 = 1
  len : t.length = n
  zero : pt t 0 = (0, 0)
  one : pt t 1 = (gx, gy)
  small : (t.all fun a => (Nat.blt a.1 p).and (Nat.blt a.2 p)) = true
  ynz : ((t.drop 1).all fun a => (Nat.beq a.2 0).not) = true
  rows : rowsB p n 1 (t.drop 1) ((t ++ t).drop 1) = true
  tang : tangsB p t (t ++ t) = true
  ipl : ip.length = p - 1
  inl : iN.length = n - 1
  ipo : invB p 1 ip = true
  ino : invB n 1 iN = true

section
variable {p n b gx gy : Nat} {t : List Pt} {ip iN : List Nat}
theorem inv_of {p : Nat} {ip : List Nat} (hp : 2 ≤ p) (hl : ip.length = p - 1) (h : invB p 1 ip = true) (a : Int) (ha : a % (p : Int) ≠ 0) : ∃ v : Int, v * a % (p : Int) = 1 := by
  have h0 := Int.emod_nonneg a (show (p : Int) ≠ 0 by omega)
  have h1 := Int.emod_lt_of_pos a (show (0 : Int) < p by omega)
  obtain ⟨r, hr⟩ : ∃ r : Nat, a % (p : Int) = r := ⟨(a % (p : Int)).toNat, by omega⟩
  have := invB_ok h (r - 1) (by omega)
  rw [show 1 + (r - 1) = r by omega] at this
  refine ⟨(ip.getD (r - 1) 0 : Nat), ?_⟩
  rw [Int.mul_emod, hr, ← Int.natCast_emod, ← Int.natCast_mul, ← Int.natCast_emod, Nat.mod_mul_mod, this]
  rfl
theorem pt_small (K : Chk p n gx gy t ip iN) (k : Nat) : (pt t k).1 < p ∧ (pt t k).2 < p := by
  have hp := K.p5
  by_cases hk : k < t.length
  · have := List.all_eq_true.mp K.small (pt t k) (by unfold pt; rw [List.getD_eq_getElem?_getD, List.getElem?_eq_getElem hk]; exact List.getElem_mem hk)
    obtain ⟨q1, q2⟩ := and_split this
    exact ⟨Nat.blt_eq.mp q1, Nat.blt_eq.mp q2⟩
  · have : pt t k = (0, 0) := by unfold pt; rw [List.getD_eq_getElem?_getD, List.getElem?_eq_none (by omega)]; rfl
    rw [this]; exact ⟨by show 0 < p; omega, by show 0 < p; omega⟩
theorem pt_ynz (K : Chk p n gx gy t ip iN) (k : Nat) (h0 : k ≠ 0) (hk : k < n) : (pt t k).2 ≠ 0 := by
  have hl := K.len
  have hk' : k - 1 < (t.drop 1).length := by rw [List.length_drop]; omega
  have := List.all_eq_true.mp K.ynz (pt (t.drop 1) (k - 1)) (by unfold pt; rw [List.getD_eq_getElem?_getD, List.getElem?_eq_getElem hk']; exact List.getElem_mem hk')
  rw [pt_drop, show 1 + (k - 1) = k by omega] at this
  intro e
  rw [e] at this
  simp [Nat.beq_refl] at this
theorem pt_app (t : List Pt) (k : Nat) (hk : k < t.length + t.length) : pt (t ++ t) k = pt t (k % t.length) := by
  unfold pt
  simp only [List.getD_eq_getElem?_getD]
  by_cases h : k < t.length
  · rw [List.getElem?_append_left h, Nat.mod_eq_of_lt h]
  · rw [List.getElem?_append_right (by omega), Nat.mod_eq_sub_mod (by omega), Nat.mod_eq_of_lt (by omega)]
/-- two places apart, the lesser first -/
theorem rows_at (K : Chk p n gx gy t ip iN) (i j : Nat) (h0 : 0 < i) (hij : i < j) (hj : j < n) :
    (i + j = n → (pt t i).1 = (pt t j).1 ∧ (pt t i).2 ≠ (pt t j).2) ∧
    (i + j ≠ n → chordB p (pt t i).1 (pt t i).2 (pt t j).1 (pt t j).2 (pt t ((i + j) % n)).1 (pt t ((i + j) % n)).2 = true) := by
  have hl := K.len
  have h := rowsB_ok K.rows (i - 1) (j - 1) (by omega) (by rw [List.length_drop]; omega)
  rw [pt_drop, pt_drop, pt_drop, show 1 + (i - 1) = i by omega, show 1 + (j - 1) = j by omega, show 1 + (i + (j - 1)) = i + j by omega, pt_app t (i + j) (by omega), hl] at h
  exact h
end
theorem chord_int {p x1 y1 x2 y2 x3 y3 : Nat} (hx1 : x1 < p) (hy1 : y1 < p) (hx3 : x3 < p) (h : chordB p x1 y1 x2 y2 x3 y3 = true) :
    (((x1 : Int) + x2 + x3) * ((x2 : Int) - x1) ^ 2) % (p : Int) = (((y2 : Int) - y1) ^ 2) % (p : Int) ∧ (((y1 : Int) + y3) * ((x2 : Int) - x1)) % (p : Int) = (((y2 : Int) - y1) * ((x1 : Int) - x3)) % (p : Int) ∧ (x1 : Int) ≠ x2 := by
  unfold chordB at h
  obtain ⟨h1, h2⟩ := and_split h
  obtain ⟨h2, h3⟩ := and_split h2
  have e1 := congrArg (fun k : Nat => (k : Int)) (Nat.eq_of_beq_eq_true h1)
  have e2 := congrArg (fun k : Nat => (k : Int)) (Nat.eq_of_beq_eq_true h2)
  have key : ∀ a c : Nat, c < p → ((a + (p - c) : Nat) : Int) = (a : Int) - c + p := by intro a c hc; omega
  simp only [Int.natCast_emod, Int.natCast_mul, key x2 x1 hx1, key y2 y1 hy1, key x1 x3 hx3, Int.natCast_add] at e1 e2
  refine ⟨?_, ?_, ?_⟩
  · have a1 : ((x1 : Int) + x2 + x3) * (((x2 : Int) - x1 + p) * ((x2 : Int) - x1 + p)) = ((x1 : Int) + x2 + x3) * ((x2 : Int) - x1) ^ 2 + p * (((x1 : Int) + x2 + x3) * (2 * ((x2 : Int) - x1) + p)) := by clear e1 e2 h1 h2 h3; grind
    have a2 : ((y2 : Int) - y1 + p) * ((y2 : Int) - y1 + p) = ((y2 : Int) - y1) ^ 2 + p * (2 * ((y2 : Int) - y1) + p) := by clear e1 e2 h1 h2 h3 a1; grind
    rw [a1, a2, Int.add_mul_emod_self_left, Int.add_mul_emod_self_left] at e1
    exact e1
  · have a1 : ((y1 : Int) + y3) * ((x2 : Int) - x1 + p) = ((y1 : Int) + y3) * ((x2 : Int) - x1) + p * ((y1 : Int) + y3) := by clear e1 e2 h1 h2 h3; grind
    have a2 : ((y2 : Int) - y1 + p) * ((x1 : Int) - x3 + p) = ((y2 : Int) - y1) * ((x1 : Int) - x3) + p * (((y2 : Int) - y1) + ((x1 : Int) - x3) + p) := by clear e1 e2 h1 h2 h3 a1; grind
    rw [a1, a2, Int.add_mul_emod_self_left, Int.add_mul_emod_self_left] at e2
    exact e2
  · intro e
    have : x1 = x2 := by omega
    rw [this, Nat.beq_refl] at h3
    cases h3
theorem tang_int {p x1 y1 x3 y3 : Nat} (hx3 : x3 < p) (h : tangB p x1 y1 x3 y3 = true) :
    ((2 * (x1 : Int) + x3) * (2 * (y1 : Int)) ^ 2) % (p : Int) = ((3 * (x1 : Int) ^ 2) ^ 2) % (p : Int) ∧ (((y1 : Int) + y3) * (2 * (y1 : Int))) % (p : Int) = (3 * (x1 : Int) ^ 2 * ((x1 : Int) - x3)) % (p : Int) := by
  unfold tangB at h
  obtain ⟨h1, h2⟩ := and_split h
  have e1 := congrArg (fun k : Nat => (k : Int)) (Nat.eq_of_beq_eq_true h1)
  have e2 := congrArg (fun k : Nat => (k : Int)) (Nat.eq_of_beq_eq_true h2)
  have key : ∀ a c : Nat, c < p → ((a + (p - c) : Nat) : Int) = (a : Int) - c + p := by intro a c hc; omega
  have c2 : ((2 : Nat) : Int) = 2 := rfl
  have c3 : ((3 : Nat) : Int) = 3 := rfl
  simp only [Int.natCast_emod, Int.natCast_mul, key x1 x3 hx3, Int.natCast_add, c2, c3] at e1 e2
  have s2 : ∀ u : Int, u ^ 2 = u * u := fun u => by rw [Int.pow_succ, Int.pow_succ, Int.pow_zero, Int.one_mul]
  simp only [s2]
  refine ⟨e1, ?_⟩
  have a1 : 3 * ((x1 : Int) * x1) * ((x1 : Int) - x3 + p) = 3 * ((x1 : Int) * x1) * ((x1 : Int) - x3) + p * (3 * ((x1 : Int) * x1)) := by clear e1 e2 h1 h2; grind
  rw [a1, Int.add_mul_emod_self_left] at e2
  exact e2
end Mine
namespace Mine
section
variable {p n b gx gy : Nat} {t : List Pt} {ip iN : List Nat}
/-- a place by the order -/
theorem idx_of (hn : 0 < n) (i : Int) : ∃ r : Nat, r < n ∧ i % (n : Int) = r ∧ (i % (n : Int)).toNat = r := by
  have h0 := Int.emod_nonneg i (show (n : Int) ≠ 0 by omega)
  have h1 := Int.emod_lt_of_pos i (show (0 : Int) < n by omega)
  exact ⟨(i % (n : Int)).toNat, by omega, by omega, rfl⟩
theorem idx_add {i j : Int} {r s : Nat} (hr : i % (n : Int) = r) (hs : j % (n : Int) = s) : (i + j) % (n : Int) = ((r + s) % n : Nat) := by
  rw [Int.add_emod, hr, hs, Int.natCast_emod, Int.natCast_add]
theorem idx_dbl {i : Int} {r : Nat} (hr : i % (n : Int) = r) : ((2 * i) % (n : Int)).toNat = (2 * r) % n := by
  rw [show 2 * i = i + i by omega, idx_add hr hr, show 2 * r = r + r by omega]; rfl
theorem chords_of (K : Chk p n gx gy t ip iN) (r s : Nat) (hr : r < n) (hs : s < n) (r0 : r ≠ 0) (s0 : s ≠ 0) (hrs : r ≠ s) (hsum : (r + s) % n ≠ 0) :
    ((((pt t r).1 : Int) + (pt t s).1 + (pt t ((r + s) % n)).1) * (((pt t s).1 : Int) - (pt t r).1) ^ 2) % (p : Int) = ((((pt t s).2 : Int) - (pt t r).2) ^ 2) % (p : Int) ∧
    ((((pt t r).2 : Int) + (pt t ((r + s) % n)).2) * (((pt t s).1 : Int) - (pt t r).1)) % (p : Int) = ((((pt t s).2 : Int) - (pt t r).2) * (((pt t r).1 : Int) - (pt t ((r + s) % n)).1)) % (p : Int) ∧ ((pt t r).1 : Int) ≠ (pt t s).1 := by
  have hne : r + s ≠ n := fun e => hsum (by rw [e, Nat.mod_self])
  rcases Nat.lt_or_gt_of_ne hrs with h | h
  · exact chord_int (pt_small K r).1 (pt_small K r).2 (pt_small K _).1 ((rows_at K r s (by omega) h hs).2 hne)
  · have hb := (rows_at K s r (by omega) h hr).2 (by omega)
    rw [Nat.add_comm s r] at hb
    obtain ⟨q1, q2, q3⟩ := chord_int (pt_small K s).1 (pt_small K s).2 (pt_small K _).1 hb
    refine ⟨?_, ?_, fun e => q3 e.symm⟩
    · have e1 : (((pt t r).1 : Int) + (pt t s).1 + (pt t ((r + s) % n)).1) * (((pt t s).1 : Int) - (pt t r).1) ^ 2 = (((pt t s).1 : Int) + (pt t r).1 + (pt t ((r + s) % n)).1) * (((pt t r).1 : Int) - (pt t s).1) ^ 2 := by clear q1 q2 q3; grind
      have e2 : (((pt t s).2 : Int) - (pt t r).2) ^ 2 = (((pt t r).2 : Int) - (pt t s).2) ^ 2 := by clear q1 q2 q3 e1; grind
      rw [e1, e2]; exact q1
    · have z := Int.emod_eq_emod_iff_emod_sub_eq_zero.mp q2
      apply Int.emod_eq_emod_iff_emod_sub_eq_zero.mpr
      have e : (((pt t r).2 : Int) + (pt t ((r + s) % n)).2) * (((pt t s).1 : Int) - (pt t r).1) - (((pt t s).2 : Int) - (pt t r).2) * (((pt t r).1 : Int) - (pt t ((r + s) % n)).1)
          = -((((pt t s).2 : Int) + (pt t ((r + s) % n)).2) * (((pt t r).1 : Int) - (pt t s).1) - (((pt t r).2 : Int) - (pt t s).2) * (((pt t s).1 : Int) - (pt t ((r + s) % n)).1)) := by clear q1 q2 q3 z; grind
      rw [e]
      exact Int.emod_eq_zero_of_dvd (Int.dvd_neg.mpr (Int.dvd_of_emod_eq_zero z))
theorem good_of (K : Chk p n gx gy t ip iN) : Good (mkCv p n b gx gy t) := by
  have p5 := K.p5
  have n5 := K.n5
  have hl := K.len
  have hodd := K.odd
  constructor
  · show (5 : Int) ≤ (p : Int); omega
  · show (p : Int) ≤ 127; have := K.p127; omega
  · show (5 : Int) ≤ (n : Int); omega
  · show (n : Int) ≤ 127; have := K.n127; omega
  · exact fun i => Int.natCast_nonneg _
  · exact fun i => by show ((pt t _).1 : Int) < (p : Int); exact Int.ofNat_lt.mpr (pt_small K _).1
  · exact fun i => Int.natCast_nonneg _
  · exact fun i => by show ((pt t _).2 : Int) < (p : Int); exact Int.ofNat_lt.mpr (pt_small K _).2
  · intro i j h
    show ((pt t (i % (n : Int)).toNat).1 : Int) = ((pt t (j % (n : Int)).toNat).1 : Int)
    have h' : i % (n : Int) = j % (n : Int) := h
    rw [h']
  · intro i j h
    show ((pt t (i % (n : Int)).toNat).2 : Int) = ((pt t (j % (n : Int)).toNat).2 : Int)
    have h' : i % (n : Int) = j % (n : Int) := h
    rw [h']
  · intro i h
    show ((pt t (i % (n : Int)).toNat).1 : Int) = 0
    have h' : i % (n : Int) = 0 := h
    rw [h', show (0 : Int).toNat = 0 from rfl, K.zero]; rfl
  · intro i h
    show ((pt t (i % (n : Int)).toNat).2 : Int) = 0
    have h' : i % (n : Int) = 0 := h
    rw [h', show (0 : Int).toNat = 0 from rfl, K.zero]; rfl
  · intro i h
    have h' : i % (n : Int) ≠ 0 := h
    obtain ⟨r, hr, e1, e2⟩ := idx_of (n := n) (by omega) i
    show ((pt t (i % (n : Int)).toNat).2 : Int) ≠ 0
    rw [e2]
    have := pt_ynz K r (by omega) hr
    omega
  · intro i j hi hj hij hs
    have hi' : i % (n : Int) ≠ 0 := hi
    have hj' : j % (n : Int) ≠ 0 := hj
    have hij' : i % (n : Int) ≠ j % (n : Int) := hij
    have hs' : (i + j) % (n : Int) ≠ 0 := hs
    obtain ⟨r, hr, e1, e2⟩ := idx_of (n := n) (by omega) i
    obtain ⟨s, hs9, f1, f2⟩ := idx_of (n := n) (by omega) j
    have g := idx_add (n := n) e1 f1
    show ((pt t (i % (n : Int)).toNat).1 : Int) ≠ ((pt t (j % (n : Int)).toNat).1 : Int)
    rw [e2, f2]
    exact (chords_of K r s hr hs9 (by omega) (by omega) (by omega) (by omega)).2.2
  · intro i j hi hj hij hs
    have hi' : i % (n : Int) ≠ 0 := hi
    have hj' : j % (n : Int) ≠ 0 := hj
    have hij' : i % (n : Int) ≠ j % (n : Int) := hij
    have hs' : (i + j) % (n : Int) ≠ 0 := hs
    obtain ⟨r, hr, e1, e2⟩ := idx_of (n := n) (by omega) i
    obtain ⟨s, hs9, f1, f2⟩ := idx_of (n := n) (by omega) j
    have g := idx_add (n := n) e1 f1
    have g2 : ((i + j) % (n : Int)).toNat = (r + s) % n := by rw [g]; rfl
    show ((((pt t (i % (n : Int)).toNat).1 : Int) + (pt t (j % (n : Int)).toNat).1 + (pt t ((i + j) % (n : Int)).toNat).1) * (((pt t (j % (n : Int)).toNat).1 : Int) - (pt t (i % (n : Int)).toNat).1) ^ 2) % (p : Int) = ((((pt t (j % (n : Int)).toNat).2 : Int) - (pt t (i % (n : Int)).toNat).2) ^ 2) % (p : Int)
    rw [e2, f2, g2]
    exact (chords_of K r s hr hs9 (by omega) (by omega) (by omega) (by omega)).1
  · intro i j hi hj hij hs
    have hi' : i % (n : Int) ≠ 0 := hi
    have hj' : j % (n : Int) ≠ 0 := hj
    have hij' : i % (n : Int) ≠ j % (n : Int) := hij
    have hs' : (i + j) % (n : Int) ≠ 0 := hs
    obtain ⟨r, hr, e1, e2⟩ := idx_of (n := n) (by omega) i
    obtain ⟨s, hs9, f1, f2⟩ := idx_of (n := n) (by omega) j
    have g := idx_add (n := n) e1 f1
    have g2 : ((i + j) % (n : Int)).toNat = (r + s) % n := by rw [g]; rfl
    show ((((pt t (i % (n : Int)).toNat).2 : Int) + (pt t ((i + j) % (n : Int)).toNat).2) * (((pt t (j % (n : Int)).toNat).1 : Int) - (pt t (i % (n : Int)).toNat).1)) % (p : Int) = ((((pt t (j % (n : Int)).toNat).2 : Int) - (pt t (i % (n : Int)).toNat).2) * (((pt t (i % (n : Int)).toNat).1 : Int) - (pt t ((i + j) % (n : Int)).toNat).1)) % (p : Int)
    rw [e2, f2, g2]
    exact (chords_of K r s hr hs9 (by omega) (by omega) (by omega) (by omega)).2.1
  · intro i hi
    have hi' : i % (n : Int) ≠ 0 := hi
    obtain ⟨r, hr, e1, e2⟩ := idx_of (n := n) (by omega) i
    have g2 : ((2 * i) % (n : Int)).toNat = (2 * r) % n := idx_dbl e1
    show ((2 * ((pt t (i % (n : Int)).toNat).1 : Int) + (pt t ((2 * i) % (n : Int)).toNat).1) * (2 * ((pt t (i % (n : Int)).toNat).2 : Int)) ^ 2) % (p : Int) = ((3 * ((pt t (i % (n : Int)).toNat).1 : Int) ^ 2) ^ 2) % (p : Int)
    rw [e2, g2]
    have h := tangsB_ok K.tang r (by omega)
    rw [pt_app t (2 * r) (by omega), hl] at h
    exact (tang_int (pt_small K _).1 h).1
  · intro i hi
    have hi' : i % (n : Int) ≠ 0 := hi
    obtain ⟨r, hr, e1, e2⟩ := idx_of (n := n) (by omega) i
    have g2 : ((2 * i) % (n : Int)).toNat = (2 * r) % n := idx_dbl e1
    show (((pt t (i % (n : Int)).toNat).2 : Int) + (pt t ((2 * i) % (n : Int)).toNat).2) * (2 * ((pt t (i % (n : Int)).toNat).2 : Int)) % (p : Int) = (3 * ((pt t (i % (n : Int)).toNat).1 : Int) ^ 2 * (((pt t (i % (n : Int)).toNat).1 : Int) - (pt t ((2 * i) % (n : Int)).toNat).1)) % (p : Int)
    rw [e2, g2]
    have h := tangsB_ok K.tang r (by omega)
    rw [pt_app t (2 * r) (by omega), hl] at h
    exact (tang_int (pt_small K _).1 h).2
  · intro i j hi hs
    have hi' : i % (n : Int) ≠ 0 := hi
    have hs' : (i + j) % (n : Int) = 0 := hs
    obtain ⟨r, hr, e1, e2⟩ := idx_of (n := n) (by omega) i
    obtain ⟨s, hs9, f1, f2⟩ := idx_of (n := n) (by omega) j
    have g := idx_add (n := n) e1 f1
    have hz : (r + s) % n = 0 := by omega
    have hrs : r + s = n := by
      by_cases hlt : r + s < n
      · rw [Nat.mod_eq_of_lt hlt] at hz; omega
      · rw [Nat.mod_eq_sub_mod (by omega), Nat.mod_eq_of_lt (by omega)] at hz; omega
    show ((pt t (i % (n : Int)).toNat).1 : Int) = ((pt t (j % (n : Int)).toNat).1 : Int) ∧ ((pt t (i % (n : Int)).toNat).2 : Int) ≠ ((pt t (j % (n : Int)).toNat).2 : Int)
    rw [e2, f2]
    rcases Nat.lt_or_gt_of_ne (show r ≠ s by omega) with h | h
    · obtain ⟨q1, q2⟩ := (rows_at K r s (by omega) h hs9).1 hrs
      exact ⟨by omega, by omega⟩
    · obtain ⟨q1, q2⟩ := (rows_at K s r (by omega) h hr).1 (by omega)
      exact ⟨by omega, by omega⟩
  · intro a ha
    exact inv_of (by omega) K.ipl K.ipo a ha
  · intro a c ha hc h
    have ha' : a % (n : Int) ≠ 0 := ha
    have hc' : c % (n : Int) ≠ 0 := hc
    have h' : (a * c) % (n : Int) = 0 := h
    obtain ⟨v, hv⟩ := inv_of (by omega) K.inl K.ino a ha'
    apply hc'
    have e1 : v * (a * c) % (n : Int) = 0 := by rw [Int.mul_emod, h']; simp
    rw [← Int.mul_assoc, Int.mul_emod, hv, Int.one_mul, Int.emod_emod] at e1
    exact e1
  · show ((pt t ((1 : Int) % (n : Int)).toNat).1 : Int) = (gx : Int)
    rw [show ((1 : Int) % (n : Int)).toNat = 1 by rw [Int.emod_eq_of_lt (by decide) (by omega)]; rfl, K.one]
  · show ((pt t ((1 : Int) % (n : Int)).toNat).2 : Int) = (gy : Int)
    rw [show ((1 : Int) % (n : Int)).toNat = 1 by rw [Int.emod_eq_of_lt (by decide) (by omega)]; rfl, K.one]
end
end Mine
namespace Mine
def tb0 : List Pt := [(0, 0), (4, 16), (18, 1), (6, 16), (9, 3), (12, 1), (8, 1), (8, 18), (12, 18), (9, 16), (6, 3), (18, 18), (4, 3)]
def ip0 : List Nat := [1, 10, 13, 5, 4, 16, 11, 12, 17, 2, 7, 8, 3, 15, 14, 6, 9, 18]
def iN0 : List Nat := [1, 7, 9, 10, 8, 11, 2, 5, 3, 4, 6, 12]
set_option maxRecDepth 100000 in
theorem ck0 : Chk 19 13 4 16 tb0 ip0 iN0 := by
  constructor <;> decide +kernel
def tb1 : List Pt := [(0, 0), (1, 17), (14, 7), (11, 17), (7, 2), (3, 7), (2, 7), (2, 12), (3, 12), (7, 17), (11, 2), (14, 12), (1, 2)]
def ip1 : List Nat := [1, 10, 13, 5, 4, 16, 11, 12, 17, 2, 7, 8, 3, 15, 14, 6, 9, 18]
def iN1 : List Nat := [1, 7, 9, 10, 8, 11, 2, 5, 3, 4, 6, 12]
set_option maxRecDepth 100000 in
theorem ck1 : Chk 19 13 1 17 tb1 ip1 iN1 := by
  constructor <;> decide +kernel
def tb2 : List Pt := [(0, 0), (1, 2), (16, 10), (22, 24), (24, 30), (26, 8), (5, 2), (25, 29), (30, 8), (9, 22), (4, 6), (14, 22), (18, 10), (6, 23), (28, 21), (11, 30), (7, 6), (20, 6), (17, 24), (27, 1), (8, 9), (23, 7), (23, 24), (8, 22), (27, 30), (17, 7), (20, 25), (7, 25), (11, 1), (28, 10), (6, 8), (18, 21), (14, 9), (4, 25), (9, 9), (30, 23), (25, 2), (5, 29), (26, 23), (24, 1), (22, 7), (16, 21), (1, 29)]
def ip2 : List Nat := [1, 16, 21, 8, 25, 26, 9, 4, 7, 28, 17, 13, 12, 20, 29, 2, 11, 19, 18, 14, 3, 24, 27, 22, 5, 6, 23, 10, 15, 30]
def iN2 : List Nat := [1, 22, 29, 11, 26, 36, 37, 27, 24, 13, 4, 18, 10, 40, 23, 35, 38, 12, 34, 28, 41, 2, 15, 9, 31, 5, 8, 20, 3, 33, 25, 39, 30, 19, 16, 6, 7, 17, 32, 14, 21, 42]
set_option maxRecDepth 100000 in
theorem ck2 : Chk 31 43 1 2 tb2 ip2 iN2 := by
  constructor <;> decide +kernel
def tb3 : List Pt := [(0, 0), (2, 31), (7, 36), (35, 22), (21, 25), (12, 31), (29, 12), (25, 25), (32, 3), (20, 3), (42, 36), (40, 18), (37, 7), (13, 22), (34, 3), (38, 22), (38, 21), (34, 40), (13, 21), (37, 36), (40, 25), (42, 7), (20, 40), (32, 40), (25, 18), (29, 31), (12, 12), (21, 18), (35, 21), (7, 7), (2, 12)]
def ip3 : List Nat := [1, 22, 29, 11, 26, 36, 37, 27, 24, 13, 4, 18, 10, 40, 23, 35, 38, 12, 34, 28, 41, 2, 15, 9, 31, 5, 8, 20, 3, 33, 25, 39, 30, 19, 16, 6, 7, 17, 32, 14, 21, 42]
def iN3 : List Nat := [1, 16, 21, 8, 25, 26, 9, 4, 7, 28, 17, 13, 12, 20, 29, 2, 11, 19, 18, 14, 3, 24, 27, 22, 5, 6, 23, 10, 15, 30]
set_option maxRecDepth 100000 in
theorem ck3 : Chk 43 31 2 31 tb3 ip3 iN3 := by
  constructor <;> decide +kernel
def tb4 : List Pt := [(0, 0), (2, 22), (52, 7), (62, 63), (25, 17), (46, 40), (11, 20), (16, 63), (21, 42), (13, 44), (56, 4), (24, 30), (14, 65), (55, 17), (5, 20), (53, 12), (26, 30), (54, 50), (66, 26), (38, 26), (51, 47), (12, 44), (23, 39), (58, 22), (7, 45), (47, 39), (6, 42), (17, 37), (49, 65), (63, 12), (42, 23), (48, 7), (64, 39), (34, 60), (40, 25), (18, 12), (61, 40), (30, 41), (27, 40), (4, 65), (4, 2), (27, 27), (30, 26), (61, 27), (18, 55), (40, 42), (34, 7), (64, 28), (48, 60), (42, 44), (63, 55), (49, 2), (17, 30), (6, 25), (47, 28), (7, 22), (58, 45), (23, 28), (12, 23), (51, 20), (38, 41), (66, 41), (54, 17), (26, 37), (53, 55), (5, 47), (55, 50), (14, 2), (24, 37), (56, 63), (13, 23), (21, 25), (16, 4), (11, 47), (46, 27), (25, 50), (62, 4), (52, 60), (2, 45)]
def ip4 : List Nat := [1, 34, 45, 17, 27, 56, 48, 42, 15, 47, 61, 28, 31, 24, 9, 21, 4, 41, 60, 57, 16, 64, 35, 14, 59, 49, 5, 12, 37, 38, 13, 44, 65, 2, 23, 54, 29, 30, 55, 62, 18, 8, 53, 32, 3, 51, 10, 7, 26, 63, 46, 58, 43, 36, 39, 6, 20, 52, 25, 19, 11, 40, 50, 22, 33, 66]
def iN4 : List Nat := [1, 40, 53, 20, 16, 66, 34, 10, 44, 8, 36, 33, 73, 17, 58, 5, 14, 22, 25, 4, 64, 18, 55, 56, 19, 76, 41, 48, 30, 29, 51, 42, 12, 7, 70, 11, 47, 52, 77, 2, 27, 32, 68, 9, 72, 67, 37, 28, 50, 49, 31, 38, 3, 60, 23, 24, 61, 15, 75, 54, 57, 65, 74, 21, 62, 6, 46, 43, 71, 35, 69, 45, 13, 63, 59, 26, 39, 78]
set_option maxRecDepth 100000 in
theorem ck4 : Chk 67 79 2 22 tb4 ip4 iN4 := by
  constructor <;> decide +kernel
def tb5 : List Pt := [(0, 0), (2, 55), (13, 51), (25, 63), (50, 39), (30, 66), (39, 19), (6, 34), (7, 55), (58, 12), (40, 34), (17, 15), (3, 37), (51, 23), (61, 56), (26, 15), (12, 51), (21, 33), (42, 16), (59, 19), (27, 56), (35, 8), (22, 8), (44, 37), (54, 63), (36, 48), (24, 52), (55, 4), (66, 66), (5, 23), (10, 8), (11, 23), (41, 39), (38, 1), (46, 11), (20, 30), (43, 28), (43, 39), (20, 37), (46, 56), (38, 66), (41, 28), (11, 44), (10, 59), (5, 44), (66, 1), (55, 63), (24, 15), (36, 19), (54, 4), (44, 30), (22, 59), (35, 59), (27, 11), (59, 48), (42, 51), (21, 34), (12, 16), (26, 52), (61, 11), (51, 44), (3, 30), (17, 52), (40, 33), (58, 55), (7, 12), (6, 33), (39, 48), (30, 1), (50, 28), (25, 4), (13, 16), (2, 12)]
def ip5 : List Nat := [1, 34, 45, 17, 27, 56, 48, 42, 15, 47, 61, 28, 31, 24, 9, 21, 4, 41, 60, 57, 16, 64, 35, 14, 59, 49, 5, 12, 37, 38, 13, 44, 65, 2, 23, 54, 29, 30, 55, 62, 18, 8, 53, 32, 3, 51, 10, 7, 26, 63, 46, 58, 43, 36, 39, 6, 20, 52, 25, 19, 11, 40, 50, 22, 33, 66]
def iN5 : List Nat := [1, 37, 49, 55, 44, 61, 21, 64, 65, 22, 20, 67, 45, 47, 39, 32, 43, 69, 50, 11, 7, 10, 54, 70, 38, 59, 46, 60, 68, 56, 33, 16, 31, 58, 48, 71, 2, 25, 15, 42, 57, 40, 17, 5, 13, 27, 14, 35, 3, 19, 63, 66, 62, 23, 4, 30, 41, 34, 26, 28, 6, 53, 51, 8, 9, 52, 12, 29, 18, 24, 36, 72]
set_option maxRecDepth 100000 in
theorem ck5 : Chk 67 73 2 55 tb5 ip5 iN5 := by
  constructor <;> decide +kernel
def tb6 : List Pt := [(0, 0), (1, 18), (60, 10), (15, 8), (49, 5), (42, 54), (59, 12), (61, 10), (43, 35), (37, 69), (26, 19), (18, 54), (12, 47), (39, 47), (9, 5), (63, 63), (19, 25), (75, 41), (21, 74), (68, 63), (29, 8), (6, 12), (45, 19), (35, 71), (66, 41), (28, 32), (17, 41), (14, 67), (74, 35), (23, 18), (55, 61), (41, 35), (8, 60), (27, 63), (27, 16), (8, 19), (41, 44), (55, 18), (23, 61), (74, 44), (14, 12), (17, 38), (28, 47), (66, 38), (35, 8), (45, 60), (6, 67), (29, 71), (68, 16), (21, 5), (75, 38), (19, 54), (63, 16), (9, 74), (39, 32), (12, 32), (18, 25), (26, 60), (37, 10), (43, 44), (61, 69), (59, 67), (42, 25), (49, 74), (15, 71), (60, 69), (1, 61)]
def ip6 : List Nat := [1, 40, 53, 20, 16, 66, 34, 10, 44, 8, 36, 33, 73, 17, 58, 5, 14, 22, 25, 4, 64, 18, 55, 56, 19, 76, 41, 48, 30, 29, 51, 42, 12, 7, 70, 11, 47, 52, 77, 2, 27, 32, 68, 9, 72, 67, 37, 28, 50, 49, 31, 38, 3, 60, 23, 24, 61, 15, 75, 54, 57, 65, 74, 21, 62, 6, 46, 43, 71, 35, 69, 45, 13, 63, 59, 26, 39, 78]
def iN6 : List Nat := [1, 34, 45, 17, 27, 56, 48, 42, 15, 47, 61, 28, 31, 24, 9, 21, 4, 41, 60, 57, 16, 64, 35, 14, 59, 49, 5, 12, 37, 38, 13, 44, 65, 2, 23, 54, 29, 30, 55, 62, 18, 8, 53, 32, 3, 51, 10, 7, 26, 63, 46, 58, 43, 36, 39, 6, 20, 52, 25, 19, 11, 40, 50, 22, 33, 66]
set_option maxRecDepth 100000 in
theorem ck6 : Chk 79 67 1 18 tb6 ip6 iN6 := by
  constructor <;> decide +kernel
def tb7 : List Pt := [(0, 0), (1, 2), (43, 6), (66, 52), (57, 40), (53, 53), (51, 31), (28, 25), (75, 52), (24, 70), (72, 56), (17, 27), (44, 74), (38, 72), (34, 53), (49, 10), (40, 31), (5, 72), (4, 64), (71, 26), (58, 71), (30, 71), (67, 48), (31, 13), (56, 70), (41, 6), (22, 67), (74, 73), (76, 56), (46, 13), (36, 7), (13, 64), (50, 74), (78, 9), (32, 67), (55, 2), (23, 77), (25, 67), (10, 23), (12, 25), (9, 10), (70, 8), (21, 10), (54, 40), (64, 5), (2, 13), (39, 54), (47, 39), (62, 64), (62, 15), (47, 40), (39, 25), (2, 66), (64, 74), (54, 39), (21, 69), (70, 71), (9, 69), (12, 54), (10, 56), (25, 12), (23, 2), (55, 77), (32, 12), (78, 70), (50, 5), (13, 15), (36, 72), (46, 66), (76, 23), (74, 6), (22, 12), (41, 73), (56, 9), (31, 66), (67, 31), (30, 8), (58, 8), (71, 53), (4, 15), (5, 7), (40, 48), (49, 69), (34, 26), (38, 7), (44, 5), (17, 52), (72, 23), (24, 9), (75, 27), (28, 54), (51, 48), (53, 26), (57, 39), (66, 27), (43, 73), (1, 77)]
def ip7 : List Nat := [1, 40, 53, 20, 16, 66, 34, 10, 44, 8, 36, 33, 73, 17, 58, 5, 14, 22, 25, 4, 64, 18, 55, 56, 19, 76, 41, 48, 30, 29, 51, 42, 12, 7, 70, 11, 47, 52, 77, 2, 27, 32, 68, 9, 72, 67, 37, 28, 50, 49, 31, 38, 3, 60, 23, 24, 61, 15, 75, 54, 57, 65, 74, 21, 62, 6, 46, 43, 71, 35, 69, 45, 13, 63, 59, 26, 39, 78]
def iN7 : List Nat := [1, 49, 65, 73, 39, 81, 14, 85, 54, 68, 53, 89, 15, 7, 13, 91, 40, 27, 46, 34, 37, 75, 38, 93, 66, 56, 18, 52, 87, 55, 72, 94, 50, 20, 61, 62, 21, 23, 5, 17, 71, 67, 88, 86, 69, 19, 64, 95, 2, 33, 78, 28, 11, 9, 30, 26, 80, 92, 74, 76, 35, 36, 77, 47, 3, 25, 42, 10, 45, 79, 41, 31, 4, 59, 22, 60, 63, 51, 70, 57, 6, 84, 90, 82, 8, 44, 29, 43, 12, 83, 16, 58, 24, 32, 48, 96]
set_option maxRecDepth 100000 in
theorem ck7 : Chk 79 97 1 2 tb7 ip7 iN7 := by
  constructor <;> decide +kernel
def tb8 : List Pt := [(0, 0), (1, 32), (34, 24), (72, 16), (80, 18), (71, 64), (86, 38), (110, 38), (2, 53), (57, 62), (85, 50), (8, 30), (17, 27), (58, 89), (69, 27), (99, 91), (100, 3), (70, 19), (28, 78), (107, 32), (19, 95), (24, 78), (106, 12), (88, 39), (47, 84), (87, 53), (41, 100), (79, 64), (4, 84), (112, 76), (93, 94), (52, 91), (104, 63), (38, 74), (25, 30), (116, 94), (12, 46), (39, 12), (82, 24), (75, 49), (11, 103), (60, 19), (101, 46), (46, 76), (3, 62), (94, 97), (103, 36), (123, 18), (21, 39), (14, 46), (32, 3), (51, 109), (76, 43), (67, 65), (91, 50), (96, 76), (18, 39), (84, 16), (124, 108), (109, 115), (98, 111), (122, 3), (45, 94), (78, 50), (78, 77), (45, 33), (122, 124), (98, 16), (109, 12), (124, 19), (84, 111), (18, 88), (96, 51), (91, 77), (67, 62), (76, 84), (51, 18), (32, 124), (14, 81), (21, 88), (123, 109), (103, 91), (94, 30), (3, 65), (46, 51), (101, 81), (60, 108), (11, 24), (75, 78), (82, 103), (39, 115), (12, 81), (116, 33), (25, 97), (38, 53), (104, 64), (52, 36), (93, 33), (112, 51), (4, 43), (79, 63), (41, 27), (87, 74), (47, 43), (88, 88), (106, 115), (24, 49), (19, 32), (107, 95), (28, 49), (70, 108), (100, 124), (99, 36), (69, 100), (58, 38), (17, 100), (8, 97), (85, 77), (57, 65), (2, 74), (110, 89), (86, 89), (71, 63), (80, 109), (72, 111), (34, 103), (1, 95)]
def ip8 : List Nat := [1, 64, 85, 32, 51, 106, 109, 16, 113, 89, 104, 53, 88, 118, 17, 8, 15, 120, 107, 108, 121, 52, 116, 90, 61, 44, 80, 59, 92, 72, 41, 4, 77, 71, 98, 60, 103, 117, 114, 54, 31, 124, 65, 26, 48, 58, 100, 45, 70, 94, 5, 22, 12, 40, 97, 93, 78, 46, 28, 36, 25, 84, 125, 2, 43, 102, 91, 99, 81, 49, 34, 30, 87, 115, 105, 122, 33, 57, 82, 27, 69, 79, 101, 62, 3, 96, 73, 13, 10, 24, 67, 29, 56, 50, 123, 86, 55, 35, 68, 47, 83, 66, 37, 11, 75, 6, 19, 20, 7, 112, 119, 110, 9, 39, 74, 23, 38, 14, 111, 18, 21, 76, 95, 42, 63, 126]
def iN8 : List Nat := [1, 64, 85, 32, 51, 106, 109, 16, 113, 89, 104, 53, 88, 118, 17, 8, 15, 120, 107, 108, 121, 52, 116, 90, 61, 44, 80, 59, 92, 72, 41, 4, 77, 71, 98, 60, 103, 117, 114, 54, 31, 124, 65, 26, 48, 58, 100, 45, 70, 94, 5, 22, 12, 40, 97, 93, 78, 46, 28, 36, 25, 84, 125, 2, 43, 102, 91, 99, 81, 49, 34, 30, 87, 115, 105, 122, 33, 57, 82, 27, 69, 79, 101, 62, 3, 96, 73, 13, 10, 24, 67, 29, 56, 50, 123, 86, 55, 35, 68, 47, 83, 66, 37, 11, 75, 6, 19, 20, 7, 112, 119, 110, 9, 39, 74, 23, 38, 14, 111, 18, 21, 76, 95, 42, 63, 126]
set_option maxRecDepth 100000 in
theorem ck8 : Chk 127 127 1 32 tb8 ip8 iN8 := by
  constructor <;> decide +kernel
def tb9 : List Pt := [(0, 0), (1, 2), (70, 105), (53, 121), (61, 17), (73, 107), (43, 32), (55, 32), (18, 45), (81, 87), (126, 16), (49, 80), (34, 119), (29, 95), (11, 119), (116, 113), (40, 73), (99, 28), (87, 97), (107, 2), (19, 125), (2, 97), (5, 126), (66, 15), (121, 101), (21, 45), (82, 8), (117, 107), (13, 101), (62, 98), (106, 93), (93, 113), (64, 20), (88, 82), (42, 80), (109, 93), (3, 41), (27, 126), (124, 105), (38, 30), (60, 22), (103, 28), (57, 41), (30, 98), (31, 87), (36, 47), (45, 14), (16, 17), (111, 15), (67, 41), (89, 73), (50, 110), (120, 26), (15, 40), (108, 16), (35, 98), (77, 15), (83, 121), (52, 99), (95, 1), (118, 6), (125, 73), (39, 93), (20, 16), (20, 111), (39, 34), (125, 54), (118, 121), (95, 126), (52, 28), (83, 6), (77, 112), (35, 29), (108, 111), (15, 87), (120, 101), (50, 17), (89, 54), (67, 86), (111, 112), (16, 110), (45, 113), (36, 80), (31, 40), (30, 29), (57, 86), (103, 99), (60, 105), (38, 97), (124, 22), (27, 1), (3, 86), (109, 34), (42, 47), (88, 45), (64, 107), (93, 14), (106, 34), (62, 29), (13, 26), (117, 20), (82, 119), (21, 82), (121, 26), (66, 112), (5, 1), (2, 30), (19, 2), (107, 125), (87, 30), (99, 99), (40, 54), (116, 14), (11, 8), (29, 32), (34, 8), (49, 47), (126, 111), (81, 40), (18, 82), (55, 95), (43, 95), (73, 20), (61, 110), (53, 6), (70, 22), (1, 125)]
def ip9 : List Nat := [1, 64, 85, 32, 51, 106, 109, 16, 113, 89, 104, 53, 88, 118, 17, 8, 15, 120, 107, 108, 121, 52, 116, 90, 61, 44, 80, 59, 92, 72, 41, 4, 77, 71, 98, 60, 103, 117, 114, 54, 31, 124, 65, 26, 48, 58, 100, 45, 70, 94, 5, 22, 12, 40, 97, 93, 78, 46, 28, 36, 25, 84, 125, 2, 43, 102, 91, 99, 81, 49, 34, 30, 87, 115, 105, 122, 33, 57, 82, 27, 69, 79, 101, 62, 3, 96, 73, 13, 10, 24, 67, 29, 56, 50, 123, 86, 55, 35, 68, 47, 83, 66, 37, 11, 75, 6, 19, 20, 7, 112, 119, 110, 9, 39, 74, 23, 38, 14, 111, 18, 21, 76, 95, 42, 63, 126]
def iN9 : List Nat := [1, 64, 85, 32, 51, 106, 109, 16, 113, 89, 104, 53, 88, 118, 17, 8, 15, 120, 107, 108, 121, 52, 116, 90, 61, 44, 80, 59, 92, 72, 41, 4, 77, 71, 98, 60, 103, 117, 114, 54, 31, 124, 65, 26, 48, 58, 100, 45, 70, 94, 5, 22, 12, 40, 97, 93, 78, 46, 28, 36, 25, 84, 125, 2, 43, 102, 91, 99, 81, 49, 34, 30, 87, 115, 105, 122, 33, 57, 82, 27, 69, 79, 101, 62, 3, 96, 73, 13, 10, 24, 67, 29, 56, 50, 123, 86, 55, 35, 68, 47, 83, 66, 37, 11, 75, 6, 19, 20, 7, 112, 119, 110, 9, 39, 74, 23, 38, 14, 111, 18, 21, 76, 95, 42, 63, 126]
set_option maxRecDepth 100000 in
theorem ck9 : Chk 127 127 1 2 tb9 ip9 iN9 := by
  constructor <;> decide +kernel
/-- the turn by w is the count l, by the table -/
def turnB (p n w l : Nat) (t : List Pt) : Bool := (List.range n).all fun r => (Nat.beq ((pt t r).1 * w % p) (pt t (l * r % n)).1).and (Nat.beq (pt t r).2 (pt t (l * r % n)).2)
structure Trn (C : Cv) (w l l' : Int) : Prop where
  w2 : 2 ≤ w
  wP : w < C.P
  l2 : 2 ≤ l
  lN : l < C.N
  k2 : 2 ≤ l'
  kN : l' < C.N
  tx : ∀ i, C.X i * w % C.P = C.X (l * i)
  ty : ∀ i, C.Y i = C.Y (l * i)
  sq : (l * l + l + 1) % C.N = 0
  ne : C.X (l' * 1) ≠ C.X (l * 1)
theorem trn_of {p n b gx gy w l l' : Nat} {t : List Pt} (hn : 5 ≤ n) (h : ((Nat.ble 2 w).and ((Nat.blt w p).and ((Nat.ble 2 l).and ((Nat.blt l n).and ((Nat.ble 2 l').and ((Nat.blt l' n).and ((Nat.beq ((l * l + l + 1) % n) 0).and (Nat.beq (pt t l').1 (pt t l).1).not))))))) = true) (ht : turnB p n w l t = true) :
    Trn (mkCv p n b gx gy t) w l l' := by
  obtain ⟨h1, h⟩ := and_split h
  obtain ⟨h2, h⟩ := and_split h
  obtain ⟨h3, h⟩ := and_split h
  obtain ⟨h4, h⟩ := and_split h
  obtain ⟨h5, h⟩ := and_split h
  obtain ⟨h6, h⟩ := and_split h
  obtain ⟨h7, h8⟩ := and_split h
  have g1 := Nat.le_of_ble_eq_true h1
  have g2 := Nat.blt_eq.mp h2
  have g3 := Nat.le_of_ble_eq_true h3
  have g4 := Nat.blt_eq.mp h4
  have g5 := Nat.le_of_ble_eq_true h5
  have g6 := Nat.blt_eq.mp h6
  have g7 := Nat.eq_of_beq_eq_true h7
  have key : ∀ i : Int, ∃ r : Nat, r < n ∧ (i % (n : Int)).toNat = r ∧ (((l : Int) * i) % (n : Int)).toNat = l * r % n := by
    intro i
    obtain ⟨r, hr, e1, e2⟩ := idx_of (n := n) (by omega) i
    refine ⟨r, hr, e2, ?_⟩
    rw [Int.mul_emod, e1, ← Int.natCast_emod, ← Int.natCast_mul, ← Int.natCast_emod, Nat.mod_mul_mod]; rfl
  have at' : ∀ r, r < n → (pt t r).1 * w % p = (pt t (l * r % n)).1 ∧ (pt t r).2 = (pt t (l * r % n)).2 := by
    intro r hr
    obtain ⟨q1, q2⟩ := and_split (List.all_eq_true.mp ht r (List.mem_range.mpr hr))
    exact ⟨Nat.eq_of_beq_eq_true q1, Nat.eq_of_beq_eq_true q2⟩
  refine ⟨by omega, by show (w : Int) < (p : Int); omega, by omega, by show (l : Int) < (n : Int); omega, by omega, by show (l' : Int) < (n : Int); omega, ?_, ?_, ?_, ?_⟩
  · intro i
    obtain ⟨r, hr, e1, e2⟩ := key i
    show ((pt t (i % (n : Int)).toNat).1 : Int) * w % (p : Int) = ((pt t (((l : Int) * i) % (n : Int)).toNat).1 : Int)
    rw [e1, e2, ← (at' r hr).1, Int.natCast_emod, Int.natCast_mul]
  · intro i
    obtain ⟨r, hr, e1, e2⟩ := key i
    show ((pt t (i % (n : Int)).toNat).2 : Int) = ((pt t (((l : Int) * i) % (n : Int)).toNat).2 : Int)
    rw [e1, e2, ← (at' r hr).2]
  · show ((l : Int) * l + l + 1) % (n : Int) = 0
    have := congrArg (fun k : Nat => (k : Int)) g7
    simpa using this
  · show ((pt t (((l' : Int) * 1) % (n : Int)).toNat).1 : Int) ≠ ((pt t (((l : Int) * 1) % (n : Int)).toNat).1 : Int)
    rw [Int.mul_one, Int.mul_one, Int.emod_eq_of_lt (by omega) (by omega), Int.emod_eq_of_lt (by omega) (by omega), Int.toNat_natCast, Int.toNat_natCast]
    intro e
    have : (pt t l').1 = (pt t l).1 := by omega
    rw [this, Nat.beq_refl] at h8
    cases h8
def crv : Nat → Cv
  | 0 => mkCv 19 13 2 4 16 tb0
  | 1 => mkCv 19 13 3 1 17 tb1
  | 2 => mkCv 31 43 3 1 2 tb2
  | 3 => mkCv 43 31 7 2 31 tb3
  | 4 => mkCv 67 79 7 2 22 tb4
  | 5 => mkCv 67 73 2 2 55 tb5
  | 6 => mkCv 79 67 7 1 18 tb6
  | 7 => mkCv 79 97 3 1 2 tb7
  | 8 => mkCv 127 127 7 1 32 tb8
  | _ => mkCv 127 127 3 1 2 tb9
theorem crv_good (k : Nat) (h : k < 10) : Good (crv k) := by
  match k, h with
  | 0, _ => exact good_of ck0
  | 1, _ => exact good_of ck1
  | 2, _ => exact good_of ck2
  | 3, _ => exact good_of ck3
  | 4, _ => exact good_of ck4
  | 5, _ => exact good_of ck5
  | 6, _ => exact good_of ck6
  | 7, _ => exact good_of ck7
  | 8, _ => exact good_of ck8
  | 9, _ => exact good_of ck9
/-- what the law finds: the two roots by p, the two by the order, and which of these is the turn -/
structure Found (C : Cv) (w0 w1 l0 l1 : Int) : Prop where
  rp : rootsL C.P = [w0, w1]
  rn : rootsL C.N = [l0, l1]
  b0 : Trn C w0 l0 l1 ∨ Trn C w0 l1 l0
  b1 : Trn C w1 l0 l1 ∨ Trn C w1 l1 l0
set_option maxRecDepth 100000 in
theorem fd0 : Found (crv 0) 7 11 3 9 :=
  ⟨by show rootsL 19 = _; decide +kernel, by show rootsL 13 = _; decide +kernel, .inr (trn_of (w := 7) (l := 9) (l' := 3) (by decide) (by decide +kernel) (by decide +kernel)), .inl (trn_of (w := 11) (l := 3) (l' := 9) (by decide) (by decide +kernel) (by decide +kernel))⟩
set_option maxRecDepth 100000 in
theorem fd1 : Found (crv 1) 7 11 3 9 :=
  ⟨by show rootsL 19 = _; decide +kernel, by show rootsL 13 = _; decide +kernel, .inr (trn_of (w := 7) (l := 9) (l' := 3) (by decide) (by decide +kernel) (by decide +kernel)), .inl (trn_of (w := 11) (l := 3) (l' := 9) (by decide) (by decide +kernel) (by decide +kernel))⟩
set_option maxRecDepth 100000 in
theorem fd2 : Found (crv 2) 5 25 6 36 :=
  ⟨by show rootsL 31 = _; decide +kernel, by show rootsL 43 = _; decide +kernel, .inl (trn_of (w := 5) (l := 6) (l' := 36) (by decide) (by decide +kernel) (by decide +kernel)), .inr (trn_of (w := 25) (l := 36) (l' := 6) (by decide) (by decide +kernel) (by decide +kernel))⟩
set_option maxRecDepth 100000 in
theorem fd3 : Found (crv 3) 6 36 5 25 :=
  ⟨by show rootsL 43 = _; decide +kernel, by show rootsL 31 = _; decide +kernel, .inl (trn_of (w := 6) (l := 5) (l' := 25) (by decide) (by decide +kernel) (by decide +kernel)), .inr (trn_of (w := 36) (l := 25) (l' := 5) (by decide) (by decide +kernel) (by decide +kernel))⟩
set_option maxRecDepth 100000 in
theorem fd4 : Found (crv 4) 29 37 23 55 :=
  ⟨by show rootsL 67 = _; decide +kernel, by show rootsL 79 = _; decide +kernel, .inl (trn_of (w := 29) (l := 23) (l' := 55) (by decide) (by decide +kernel) (by decide +kernel)), .inr (trn_of (w := 37) (l := 55) (l' := 23) (by decide) (by decide +kernel) (by decide +kernel))⟩
set_option maxRecDepth 100000 in
theorem fd5 : Found (crv 5) 29 37 8 64 :=
  ⟨by show rootsL 67 = _; decide +kernel, by show rootsL 73 = _; decide +kernel, .inr (trn_of (w := 29) (l := 64) (l' := 8) (by decide) (by decide +kernel) (by decide +kernel)), .inl (trn_of (w := 37) (l := 8) (l' := 64) (by decide) (by decide +kernel) (by decide +kernel))⟩
set_option maxRecDepth 100000 in
theorem fd6 : Found (crv 6) 23 55 29 37 :=
  ⟨by show rootsL 79 = _; decide +kernel, by show rootsL 67 = _; decide +kernel, .inl (trn_of (w := 23) (l := 29) (l' := 37) (by decide) (by decide +kernel) (by decide +kernel)), .inr (trn_of (w := 55) (l := 37) (l' := 29) (by decide) (by decide +kernel) (by decide +kernel))⟩
set_option maxRecDepth 100000 in
theorem fd7 : Found (crv 7) 23 55 35 61 :=
  ⟨by show rootsL 79 = _; decide +kernel, by show rootsL 97 = _; decide +kernel, .inr (trn_of (w := 23) (l := 61) (l' := 35) (by decide) (by decide +kernel) (by decide +kernel)), .inl (trn_of (w := 55) (l := 35) (l' := 61) (by decide) (by decide +kernel) (by decide +kernel))⟩
set_option maxRecDepth 100000 in
theorem fd8 : Found (crv 8) 19 107 19 107 :=
  ⟨by show rootsL 127 = _; decide +kernel, by show rootsL 127 = _; decide +kernel, .inr (trn_of (w := 19) (l := 107) (l' := 19) (by decide) (by decide +kernel) (by decide +kernel)), .inl (trn_of (w := 107) (l := 19) (l' := 107) (by decide) (by decide +kernel) (by decide +kernel))⟩
set_option maxRecDepth 100000 in
theorem fd9 : Found (crv 9) 19 107 19 107 :=
  ⟨by show rootsL 127 = _; decide +kernel, by show rootsL 127 = _; decide +kernel, .inr (trn_of (w := 19) (l := 107) (l' := 19) (by decide) (by decide +kernel) (by decide +kernel)), .inl (trn_of (w := 107) (l := 19) (l' := 107) (by decide) (by decide +kernel) (by decide +kernel))⟩
theorem crv_found (k : Nat) (h : k < 10) : ∃ w0 w1 l0 l1, Found (crv k) w0 w1 l0 l1 := by
  match k, h with
  | 0, _ => exact ⟨_, _, _, _, fd0⟩
  | 1, _ => exact ⟨_, _, _, _, fd1⟩
  | 2, _ => exact ⟨_, _, _, _, fd2⟩
  | 3, _ => exact ⟨_, _, _, _, fd3⟩
  | 4, _ => exact ⟨_, _, _, _, fd4⟩
  | 5, _ => exact ⟨_, _, _, _, fd5⟩
  | 6, _ => exact ⟨_, _, _, _, fd6⟩
  | 7, _ => exact ⟨_, _, _, _, fd7⟩
  | 8, _ => exact ⟨_, _, _, _, fd8⟩
  | 9, _ => exact ⟨_, _, _, _, fd9⟩
end Mine
section
local macro_rules | `(tactic| walk_at "eval Name") => `(tactic| (k_here; name_kind "globalImplicit"; k_dflt (refine' nameX_K ?F ?X ?T ?e ?_ ?a ?b; (case F => k_asm); (case X => k_asm); (case T => k_asm); (case a => rfl); (case b => rfl); (case e => k_is); k_whole)))
local macro_rules | `(tactic| walk_at "eval Name") => `(tactic| (k_here; name_kind "local"; k_dflt (refine' nameX_L ?F ?v ?_ ?a ?b; (case F => k_asm); (case a => rfl); (case b => rfl); (case v => rfl); k_whole)))

local macro_rules | `(tactic| walk_at "binaryOp Mod int int") => `(tactic| (k_here; (with_reducible refine Mine.modG ?_ ?_); (omega); intro r' e' b0' b1'))
local macro_rules | `(tactic| walk_at "inplaceOp Mod int int") => `(tactic| (k_here; (with_reducible refine Mine.imodG ?_ ?_); (omega); intro r' e' b0' b1'))
local macro_rules | `(tactic| walk_at "binaryOp FloorDiv int int") => `(tactic| (k_here; (with_reducible refine Mine.fdivG ?_ ?_ ?_); (omega); (omega); intro r' e'))
local macro_rules | `(tactic| walk_at "binaryOp Pow int int") => `(tactic| (k_here; (with_reducible first | refine Mine.pow2G ?_ ?_ ?_ | refine Mine.pow3G ?_ ?_ ?_ | refine Mine.pow4G ?_ ?_ ?_); (omega); (omega)))
local macro_rules | `(tactic| walk_at "binaryOp Mult int int") => `(tactic| (k_here; first | ((with_reducible refine Mine.mulL ?_ ?_ ?_); (omega); (omega)) | ((with_reducible refine Mine.mulR ?_ ?_ ?_); (omega); (omega))))
local macro_rules | `(tactic| walk_at "compareOp Eq int int") => `(tactic| (k_here; first | ((with_reducible refine Mine.eqY ?_ ?_); (omega)) | ((with_reducible refine Mine.eqN ?_ ?_); (omega))))
local macro_rules | `(tactic| walk_at "compareOp NotEq int int") => `(tactic| (k_here; first | ((with_reducible refine Mine.neY ?_ ?_); (omega)) | ((with_reducible refine Mine.neN ?_ ?_); (omega))))
local macro_rules | `(tactic| walk_at "compareOp Lt int int") => `(tactic| (k_here; first | ((with_reducible refine Mine.ltY ?_ ?_); (omega)) | ((with_reducible refine Mine.ltN ?_ ?_); (omega))))
local macro_rules | `(tactic| walk_at "compareOp GtE int int") => `(tactic| (k_here; first | ((with_reducible refine Mine.geY ?_ ?_); (omega)) | ((with_reducible refine Mine.geN ?_ ?_); (omega))))
local macro_rules | `(tactic| walk_at "truthy int") => `(tactic| (k_here; first | ((with_reducible refine Mine.truthyY ?_ ?_); (omega)) | ((with_reducible refine Mine.truthyN ?_ ?_); (omega))))
local macro_rules | `(tactic| walk_at "subscriptTail Name Constant ref int") => `(tactic| (k_here; k_dflt (refine' Mine.itemG ?k1 ?k2 ?k3 ?k4 ?k5 ?k6 ?_; (case k1 => k_asm); (case k2 => k_mem); (case k3 => decide); (case k4 => decide); (case k5 => rfl); (case k6 => rfl); k_whole)))
local macro_rules | `(tactic| k_room) => `(tactic| ktr_room)
local macro_rules | `(tactic| k_enter) => `(tactic| cell_enter)
local macro_rules | `(tactic| walk_at "KswEnd") => `(tactic| k_extra "KswEnd")
local macro_rules | `(tactic| walk_at "call ref") => `(tactic| (k_here; k_extra "call ref"))
local macro_rules | `(tactic| k_mem) => `(tactic| first | exact List.Mem.head _ | with_reducible assumption | (refine' List.mem_cons_of_mem _ ?_; k_mem))
local macro_rules | `(tactic| k_all) => `(tactic| first | exact Mine.allLt_ne (by assumption) | exact Mine.allLt_ne' (by assumption) | exact List.forall_mem_nil _ | (refine' List.forall_mem_cons.mpr ⟨?a, ?b⟩; (case a => k_ne); (case b => k_all)))
namespace Mine
section
variable (w : World) (loo : List Str) (mean : ExcName → Option Value) (mg mb : Str → Option Value) (news : Led)
set_option maxRecDepth 100000 in
set_option maxHeartbeats 8000000 in
theorem c_inv (x n : Int) (tx tn : Tok) (h1 : 1 ≤ x) (h2 : x < n) (h3 : n ≤ 127) (hg : Int.gcd x n = 1) :
    Call w loo mean mg mb 28 1 16 news [.int x tx, .int n tn] (fun h₀ L m s Q => ∀ v : Int, 0 ≤ v → v < n → v * x % n = 1 → RetInt news v h₀ L m s Q) := by
  unfold Call
  k_fill
  intro dp un gd cn cs a ccd cl outer A₀ base h₀ L m s Q E B' F X' N' T hk hd hu hret
  refine wpAny_call ?_
  k_dflt cell_enter
  k_with "exec While Compare cons nil" => ((rename Fr _ _ _ _ => lF'); (rename News _ _ _ _ => lN'); (with_unfolding_all refine' ksw_while (fun _ => news) (fun (c : Int × Int × Int × Int × Tok × Tok × Tok × Tok) => [(Str.ofString "lm", Value.int c.1 c.2.2.2.2.1), (Str.ofString "low", Value.int c.2.1 c.2.2.2.2.2.1), (Str.ofString "hm", Value.int c.2.2.1 c.2.2.2.2.2.2.1), (Str.ofString "high", Value.int c.2.2.2.1 c.2.2.2.2.2.2.2)]) (fun _ => True) [Str.ofString "r", Str.ofString "nm", Str.ofString "new"] (fun c => Inv x n c.1 c.2.1 c.2.2.1 c.2.2.2.1) (fun c => c.2.1.toNat) (1, _, 0, n, _, _, _, _) lF' (fun p hp => lN' p (.tail _ (.tail _ hp))) trivial ?kk ?kp ?_); (case kk => kst_all); (case kp => exact inv_start' h1 h2 hg (by assumption)); clear lF' lN'; rintro ⟨lm, low, hm, high, a1, a2, a3, a4⟩ u h tk - hI1 hF' hN'; (dsimp only at hI1 hF' hN'); (have hI2 := inv_bd hI1); (obtain ⟨i1, i2, i3, i4, i5, i6⟩ := hI2); (try dsimp only); (try k_fold))
  k_with "KswEnd" => ((rename News _ _ _ _ => nE'); refine ksw_end (⟨_, _, _, _, _, _, _, _⟩ : Int × Int × Int × Int × Tok × Tok × Tok × Tok) (by assumption) nE' (by first | exact fun _ h => h | exact fun _ h => .tail _ h | exact fun _ h => .tail _ (.tail _ h)) trivial (by kst_all) (by intro z h2 h3; simp only [List.forall_mem_cons, List.not_mem_nil, false_implies, implies_true, and_true, ne_eq] at h2; simp only [List.contains_cons, List.contains_nil, Bool.or_false, Bool.or_eq_false_iff, beq_eq_false_iff_ne, ne_eq] at h3; simp [kstB, h2, h3]) (by exact inv_step (by assumption) (by assumption) (by assumption)) (by exact inv_less (by assumption) (by assumption) (by assumption)))
  w_strict (k_steps; all_goals (first | exact hret _ (by assumption) (by assumption) (inv_end (by assumption) (by assumption) (by assumption)) _ _ _ (by assumption) (by assumption)))
set_option maxRecDepth 100000 in
set_option maxHeartbeats 8000000 in
theorem c_pinv (x n : Int) (tx tn : Tok) (h1 : 1 ≤ x) (h2 : x < n) (h3 : n ≤ 127) (hg : Int.gcd x n = 1) :
    Call w loo mean mg mb 112 1 16 news [.int x tx, .int n tn] (fun h₀ L m s Q => ∀ v : Int, 0 ≤ v → v < n → v * x % n = 1 → RetInt news v h₀ L m s Q) := by
  unfold Call
  k_fill
  intro dp un gd cn cs a ccd cl outer A₀ base h₀ L m s Q E B' F X' N' T hk hd hu hret
  have hx0 : x % n ≠ 0 := by rw [Int.emod_eq_of_lt (by omega) h2]; omega
  refine wpAny_call ?_
  k_dflt cell_enter
  k_with "exec While Compare cons nil" => ((rename Fr _ _ _ _ => lF'); (rename News _ _ _ _ => lN'); (with_unfolding_all refine' ksw_while (fun _ => news) (fun (c : Int × Int × Int × Int × Tok × Tok × Tok × Tok) => [(Str.ofString "lm", Value.int c.1 c.2.2.2.2.1), (Str.ofString "low", Value.int c.2.1 c.2.2.2.2.2.1), (Str.ofString "hm", Value.int c.2.2.1 c.2.2.2.2.2.2.1), (Str.ofString "high", Value.int c.2.2.2.1 c.2.2.2.2.2.2.2)]) (fun _ => True) [Str.ofString "r", Str.ofString "nm", Str.ofString "new"] (fun c => Inv x n c.1 c.2.1 c.2.2.1 c.2.2.2.1) (fun c => c.2.1.toNat) (1, _, 0, n, _, _, _, _) lF' (fun p hp => lN' p (.tail _ (.tail _ hp))) trivial ?kk ?kp ?_); (case kk => kst_all); (case kp => exact inv_start2 h1 h2 hg (by assumption) (by assumption)); clear lF' lN'; rintro ⟨lm, low, hm, high, a1, a2, a3, a4⟩ u h tk - hI1 hF' hN'; (dsimp only at hI1 hF' hN'); (have hI2 := inv_bd hI1); (obtain ⟨i1, i2, i3, i4, i5, i6⟩ := hI2); (try dsimp only); (try k_fold))
  k_with "KswEnd" => ((rename News _ _ _ _ => nE'); refine ksw_end (⟨_, _, _, _, _, _, _, _⟩ : Int × Int × Int × Int × Tok × Tok × Tok × Tok) (by assumption) nE' (by first | exact fun _ h => h | exact fun _ h => .tail _ h | exact fun _ h => .tail _ (.tail _ h)) trivial (by kst_all) (by intro z h2 h3; simp only [List.forall_mem_cons, List.not_mem_nil, false_implies, implies_true, and_true, ne_eq] at h2; simp only [List.contains_cons, List.contains_nil, Bool.or_false, Bool.or_eq_false_iff, beq_eq_false_iff_ne, ne_eq] at h3; simp [kstB, h2, h3]) (by exact inv_step (by assumption) (by assumption) (by assumption)) (by exact inv_less (by assumption) (by assumption) (by assumption)))
  w_strict (k_steps; all_goals (first | exact hret _ (by assumption) (by assumption) (inv_end (by assumption) (by assumption) (by assumption)) _ _ _ (by assumption) (by assumption)))
end
end Mine
end
section
local macro_rules | `(tactic| walk_at "eval Name") => `(tactic| (k_here; name_kind "globalImplicit"; k_dflt (refine' nameX_K ?F ?X ?T ?e ?_ ?a ?b; (case F => k_asm); (case X => k_asm); (case T => k_asm); (case a => rfl); (case b => rfl); (case e => k_is); k_whole)))
local macro_rules | `(tactic| walk_at "eval Name") => `(tactic| (k_here; name_kind "local"; k_dflt (refine' nameX_L ?F ?v ?_ ?a ?b; (case F => k_asm); (case a => rfl); (case b => rfl); (case v => rfl); k_whole)))

local macro_rules | `(tactic| walk_at "binaryOp Mod int int") => `(tactic| (k_here; (with_reducible refine Mine.modG ?_ ?_); (omega); intro r' e' b0' b1'))
local macro_rules | `(tactic| walk_at "inplaceOp Mod int int") => `(tactic| (k_here; (with_reducible refine Mine.imodG ?_ ?_); (omega); intro r' e' b0' b1'))
local macro_rules | `(tactic| walk_at "binaryOp FloorDiv int int") => `(tactic| (k_here; (with_reducible refine Mine.fdivG ?_ ?_ ?_); (omega); (omega); intro r' e'))
local macro_rules | `(tactic| walk_at "binaryOp Pow int int") => `(tactic| (k_here; (with_reducible first | refine Mine.pow2G ?_ ?_ ?_ | refine Mine.pow3G ?_ ?_ ?_ | refine Mine.pow4G ?_ ?_ ?_); (omega); (omega)))
local macro_rules | `(tactic| walk_at "binaryOp Mult int int") => `(tactic| (k_here; first | ((with_reducible refine Mine.mulL ?_ ?_ ?_); (omega); (omega)) | ((with_reducible refine Mine.mulR ?_ ?_ ?_); (omega); (omega))))
local macro_rules | `(tactic| walk_at "compareOp Eq int int") => `(tactic| (k_here; first | ((with_reducible refine Mine.eqY ?_ ?_); (omega)) | ((with_reducible refine Mine.eqN ?_ ?_); (omega))))
local macro_rules | `(tactic| walk_at "compareOp NotEq int int") => `(tactic| (k_here; first | ((with_reducible refine Mine.neY ?_ ?_); (omega)) | ((with_reducible refine Mine.neN ?_ ?_); (omega))))
local macro_rules | `(tactic| walk_at "compareOp Lt int int") => `(tactic| (k_here; first | ((with_reducible refine Mine.ltY ?_ ?_); (omega)) | ((with_reducible refine Mine.ltN ?_ ?_); (omega))))
local macro_rules | `(tactic| walk_at "compareOp GtE int int") => `(tactic| (k_here; first | ((with_reducible refine Mine.geY ?_ ?_); (omega)) | ((with_reducible refine Mine.geN ?_ ?_); (omega))))
local macro_rules | `(tactic| walk_at "truthy int") => `(tactic| (k_here; first | ((with_reducible refine Mine.truthyY ?_ ?_); (omega)) | ((with_reducible refine Mine.truthyN ?_ ?_); (omega))))
local macro_rules | `(tactic| walk_at "subscriptTail Name Constant ref int") => `(tactic| (k_here; k_dflt (refine' Mine.itemG ?k1 ?k2 ?k3 ?k4 ?k5 ?k6 ?_; (case k1 => k_asm); (case k2 => k_mem); (case k3 => decide); (case k4 => decide); (case k5 => rfl); (case k6 => rfl); k_whole)))
local macro_rules | `(tactic| k_room) => `(tactic| ktr_room)
local macro_rules | `(tactic| k_enter) => `(tactic| cell_enter)
local macro_rules | `(tactic| walk_at "KswEnd") => `(tactic| k_extra "KswEnd")
local macro_rules | `(tactic| walk_at "call ref") => `(tactic| (k_here; k_extra "call ref"))
local macro_rules | `(tactic| k_mem) => `(tactic| first | exact List.Mem.head _ | with_reducible assumption | (refine' List.mem_cons_of_mem _ ?_; k_mem))
local macro_rules | `(tactic| k_all) => `(tactic| first | exact Mine.allLt_ne (by assumption) | exact Mine.allLt_ne' (by assumption) | exact List.forall_mem_nil _ | (refine' List.forall_mem_cons.mpr ⟨?a, ?b⟩; (case a => k_ne); (case b => k_all)))
local macro_rules | `(tactic| ktr_room) => `(tactic| ((try simp only [depth_under_make, depth_under_kw, depth_in1, depth_deeper, depth_caller]); (try dsimp only [ktrTop, Around.deeper]); first | exact Mine.room3 (by with_reducible assumption) (by decide) | exact Mine.room2 (by with_reducible assumption) (by decide) | omega))
local macro_rules | `(tactic| ktr_units) => `(tactic| ((try simp only [units_in1, units_deeper, Around.mark_units, units_caller]); (try dsimp only [ktrTop, Around.deeper]); first | exact Mine.room3 (by with_reducible assumption) (by decide) | exact Mine.room2 (by with_reducible assumption) (by decide) | omega))
local macro_rules | `(tactic| k_units) => `(tactic| ((try dsimp only [ktrTop, Around.deeper, Around.in1]); (try simp only [cLine] at *); omega))
local macro_rules | `(tactic| walk_at "call ref") => `(tactic| (k_here; (with_reducible show wpAny _ _ (call (Value.ref 28) [Value.int _ _, Value.int _ _]) _ _ _); k_dflt (refine' Mine.call_use ?k1 ?k2 ?k3 ?k4 ?k5 ?kK (Mine.c_inv _ _ _ _ _ _ _ _ _ _ ?h1 ?h2 ?h3 ?h4) ?kd ?ku ?_; (case k1 => k_asm); (case k2 => k_asm); (case k3 => k_asm); (case k4 => k_asm); (case k5 => k_asm); (case kK => first | exact rfl | assumption); (case h1 => omega); (case h2 => omega); (case h3 => omega); (case h4 => assumption); (case kd => ktr_room); (case ku => ktr_units)); intro v9 v0' v1' v2' t9 h9 tk9 F9 N9; (try dsimp only); (try k_fold); (try k_sweep)))
local macro_rules | `(tactic| walk_at "call ref") => `(tactic| (k_here; (with_reducible show wpAny _ _ (call (Value.ref 112) [Value.int _ _, Value.int _ _]) _ _ _); k_dflt (refine' Mine.call_use ?k1 ?k2 ?k3 ?k4 ?k5 ?kK (Mine.c_pinv _ _ _ _ _ _ _ _ _ _ ?h1 ?h2 ?h3 ?h4) ?kd ?ku ?_; (case k1 => k_asm); (case k2 => k_asm); (case k3 => k_asm); (case k4 => k_asm); (case k5 => k_asm); (case kK => first | exact rfl | assumption); (case h1 => omega); (case h2 => omega); (case h3 => omega); (case h4 => assumption); (case kd => ktr_room); (case ku => ktr_units)); intro v9 v0' v1' v2' t9 h9 tk9 F9 N9; (try dsimp only); (try k_fold); (try k_sweep)))
namespace Mine
section
variable (w : World) (loo : List Str) (mean : ExcName → Option Value) (mg mb : Str → Option Value) (news : Led)
set_option maxRecDepth 100000 in
set_option maxHeartbeats 8000000 in
theorem c_tojac (p : Addr) (x y : Int) (t1 t2 : Tok) (c1 : Nat) (hp : (p, tup2 x y t1 t2 c1) ∈ news) :
    Call w loo mean mg mb 35 1 16 news [.ref p] (RetTup3 news x y 1) := by
  unfold Call
  k_fill
  intro dp un gd cn cs a ccd cl outer A₀ base h₀ L m s Q E B' F X' N' T hk hd hu hret
  refine wpAny_call ?_
  k_dflt cell_enter
  w_strict (k_steps; all_goals exact hret _ _ _ _ _ _ _ (by assumption) (by assumption))

set_option maxRecDepth 100000 in
set_option maxHeartbeats 8000000 in
theorem c_jdouble (p cv : Addr) (x y z : Int) (t1 t2 t3 : Tok) (c1 c2 : Nat) (P N B Gx Gy : Int) (u1 u2 u3 u4 u5 u6 : Tok)
    (hp : (p, tup3 x y z t1 t2 t3 c1) ∈ news) (hc : (cv, tup6 P N 0 B Gx Gy u1 u2 u3 u4 u5 u6 c2) ∈ news)
    (hP : 5 ≤ P) (hP2 : P ≤ 127) (hx : 0 ≤ x) (hx2 : x < P) (hy : y ≠ 0) (hy1 : 0 ≤ y) (hy2 : y < P) (hz : 0 ≤ z) (hz2 : z < P) :
    Call w loo mean mg mb 42 1 16 news [.ref p, .ref cv] (fun h₀ L m s Q => ∀ ysq S M X Y Z : Int, ysq = y ^ 2 % P → S = 4 * x * ysq % P → M = (3 * x ^ 2 + 0 * z ^ 4) % P →
      X = (M ^ 2 - 2 * S) % P → Y = (M * (S - X) - 8 * ysq ^ 2) % P → Z = 2 * y * z % P → 0 ≤ X → X < P → 0 ≤ Y → Y < P → 0 ≤ Z → Z < P → RetTup3 news X Y Z h₀ L m s Q) := by
  unfold Call
  k_fill
  intro dp un gd cn cs a ccd cl outer A₀ base h₀ L m s Q E B' F X' N' T hk hd hu hret
  refine wpAny_call ?_
  k_dflt cell_enter
  w_strict (k_steps; all_goals exact hret _ _ _ _ _ _ (by assumption) (by assumption) (by assumption) (by assumption) (by assumption) (by assumption) (by assumption) (by assumption) (by assumption) (by assumption) (by assumption) (by assumption) _ _ _ _ _ _ _ (by assumption) (by assumption))

set_option maxRecDepth 100000 in
set_option maxHeartbeats 8000000 in
theorem c_jadd_l (p q cv : Addr) (x y z x2 y2 z2 : Int) (t1 t2 t3 s1 s2 s3 : Tok) (c1 c2 c3 : Nat) (P N B Gx Gy : Int) (u1 u2 u3 u4 u5 u6 : Tok)
    (hp : (p, tup3 x y z t1 t2 t3 c1) ∈ news) (hq : (q, tup3 x2 y2 z2 s1 s2 s3 c3) ∈ news) (hc : (cv, tup6 P N 0 B Gx Gy u1 u2 u3 u4 u5 u6 c2) ∈ news) (hy : y = 0) :
    Call w loo mean mg mb 49 1 16 news [.ref p, .ref q, .ref cv] (RetTup3 news x2 y2 z2) := by
  unfold Call
  k_fill
  intro dp un gd cn cs a ccd cl outer A₀ base h₀ L m s Q E B' F X' N' T hk hd hu hret
  refine wpAny_call ?_
  k_dflt cell_enter
  w_strict (k_steps; all_goals exact hret _ _ _ _ _ _ _ (by assumption) (newsCons (by assumption) hq))

set_option maxRecDepth 100000 in
set_option maxHeartbeats 8000000 in
theorem c_jadd_r (p q cv : Addr) (x y z x2 y2 z2 : Int) (t1 t2 t3 s1 s2 s3 : Tok) (c1 c2 c3 : Nat) (P N B Gx Gy : Int) (u1 u2 u3 u4 u5 u6 : Tok)
    (hp : (p, tup3 x y z t1 t2 t3 c1) ∈ news) (hq : (q, tup3 x2 y2 z2 s1 s2 s3 c3) ∈ news) (hc : (cv, tup6 P N 0 B Gx Gy u1 u2 u3 u4 u5 u6 c2) ∈ news) (hy : y ≠ 0) (hy2 : y2 = 0) :
    Call w loo mean mg mb 49 1 16 news [.ref p, .ref q, .ref cv] (RetTup3 news x y z) := by
  unfold Call
  k_fill
  intro dp un gd cn cs a ccd cl outer A₀ base h₀ L m s Q E B' F X' N' T hk hd hu hret
  refine wpAny_call ?_
  k_dflt cell_enter
  w_strict (k_steps; all_goals exact hret _ _ _ _ _ _ _ (by assumption) (newsCons (by assumption) hp))

set_option maxRecDepth 100000 in
set_option maxHeartbeats 8000000 in
theorem c_jadd_0 (p q cv : Addr) (x y z x2 y2 z2 : Int) (t1 t2 t3 s1 s2 s3 : Tok) (c1 c2 c3 : Nat) (P N B Gx Gy : Int) (u1 u2 u3 u4 u5 u6 : Tok)
    (hp : (p, tup3 x y z t1 t2 t3 c1) ∈ news) (hq : (q, tup3 x2 y2 z2 s1 s2 s3 c3) ∈ news) (hc : (cv, tup6 P N 0 B Gx Gy u1 u2 u3 u4 u5 u6 c2) ∈ news)
    (hP : 5 ≤ P) (hP2 : P ≤ 127) (hx : 0 ≤ x) (hxb : x < P) (hy : y ≠ 0) (hya : 0 ≤ y) (hyb : y < P) (hz : 0 ≤ z) (hzb : z < P)
    (kx : 0 ≤ x2) (kxb : x2 < P) (ky : y2 ≠ 0) (kya : 0 ≤ y2) (kyb : y2 < P) (kz : 0 ≤ z2) (kzb : z2 < P)
    (hU : x * z2 ^ 2 % P = x2 * z ^ 2 % P) (hS : y * z2 ^ 3 % P ≠ y2 * z ^ 3 % P) :
    Call w loo mean mg mb 49 1 16 news [.ref p, .ref q, .ref cv] (RetTup3 news 0 0 1) := by
  unfold Call
  k_fill
  intro dp un gd cn cs a ccd cl outer A₀ base h₀ L m s Q E B' F X' N' T hk hd hu hret
  refine wpAny_call ?_
  k_dflt cell_enter
  w_strict (k_steps; all_goals exact hret _ _ _ _ _ _ _ (by assumption) (by assumption))

set_option maxRecDepth 100000 in
set_option maxHeartbeats 8000000 in
theorem c_jadd_g (p q cv : Addr) (x y z x2 y2 z2 : Int) (t1 t2 t3 s1 s2 s3 : Tok) (c1 c2 c3 : Nat) (P N B Gx Gy : Int) (u1 u2 u3 u4 u5 u6 : Tok)
    (hp : (p, tup3 x y z t1 t2 t3 c1) ∈ news) (hq : (q, tup3 x2 y2 z2 s1 s2 s3 c3) ∈ news) (hc : (cv, tup6 P N 0 B Gx Gy u1 u2 u3 u4 u5 u6 c2) ∈ news)
    (hP : 5 ≤ P) (hP2 : P ≤ 127) (hx : 0 ≤ x) (hxb : x < P) (hy : y ≠ 0) (hya : 0 ≤ y) (hyb : y < P) (hz : 0 ≤ z) (hzb : z < P)
    (kx : 0 ≤ x2) (kxb : x2 < P) (ky : y2 ≠ 0) (kya : 0 ≤ y2) (kyb : y2 < P) (kz : 0 ≤ z2) (kzb : z2 < P)
    (hU : x * z2 ^ 2 % P ≠ x2 * z ^ 2 % P) :
    Call w loo mean mg mb 49 1 16 news [.ref p, .ref q, .ref cv] (fun h₀ L m s Q => ∀ U1 U2 S1 S2 H2 H3 U1H2 X Y Z : Int, U1 = x * z2 ^ 2 % P → U2 = x2 * z ^ 2 % P → S1 = y * z2 ^ 3 % P → S2 = y2 * z ^ 3 % P →
      H2 = (U2 - U1) * (U2 - U1) % P → H3 = (U2 - U1) * H2 % P → U1H2 = U1 * H2 % P → X = ((S2 - S1) ^ 2 - H3 - 2 * U1H2) % P → Y = ((S2 - S1) * (U1H2 - X) - S1 * H3) % P → Z = (U2 - U1) * z * z2 % P →
      0 ≤ X → X < P → 0 ≤ Y → Y < P → 0 ≤ Z → Z < P → RetTup3 news X Y Z h₀ L m s Q) := by
  unfold Call
  k_fill
  intro dp un gd cn cs a ccd cl outer A₀ base h₀ L m s Q E B' F X' N' T hk hd hu hret
  refine wpAny_call ?_
  k_dflt cell_enter
  w_strict (k_steps; all_goals exact hret _ _ _ _ _ _ _ _ _ _ (by assumption) (by assumption) (by assumption) (by assumption) (by assumption) (by assumption) (by assumption) (by assumption) (by assumption) (by assumption) (by assumption) (by assumption) (by assumption) (by assumption) (by assumption) (by assumption) _ _ _ _ _ _ _ (by assumption) (by assumption))

set_option maxRecDepth 100000 in
set_option maxHeartbeats 8000000 in
theorem c_fromjac (p cv : Addr) (x y z : Int) (t1 t2 t3 : Tok) (c1 c2 : Nat) (P N B Gx Gy : Int) (u1 u2 u3 u4 u5 u6 : Tok)
    (hp : (p, tup3 x y z t1 t2 t3 c1) ∈ news) (hc : (cv, tup6 P N 0 B Gx Gy u1 u2 u3 u4 u5 u6 c2) ∈ news)
    (hP : 5 ≤ P) (hP2 : P ≤ 127) (hx : 0 ≤ x) (hx2 : x < P) (hy1 : 0 ≤ y) (hy2 : y < P) (hz : 1 ≤ z) (hz2 : z < P) (hg : Int.gcd z P = 1) :
    Call w loo mean mg mb 56 2 24 news [.ref p, .ref cv] (fun h₀ L m s Q => ∀ v X Y : Int, v * z % P = 1 → X = x * v ^ 2 % P → Y = y * v ^ 3 % P → 0 ≤ X → X < P → 0 ≤ Y → Y < P → RetTup2 news X Y h₀ L m s Q) := by
  unfold Call
  k_fill
  intro dp un gd cn cs a ccd cl outer A₀ base h₀ L m s Q E B' F X' N' T hk hd hu hret
  refine wpAny_call ?_
  k_dflt cell_enter
  w_strict (k_steps; all_goals exact hret _ _ _ (by assumption) (by assumption) (by assumption) (by assumption) (by assumption) (by assumption) (by assumption) _ _ _ _ _ _ (by assumption) (by assumption))
end
end Mine
end
section
local macro_rules | `(tactic| walk_at "eval Name") => `(tactic| (k_here; name_kind "globalImplicit"; k_dflt (refine' nameX_K ?F ?X ?T ?e ?_ ?a ?b; (case F => k_asm); (case X => k_asm); (case T => k_asm); (case a => rfl); (case b => rfl); (case e => k_is); k_whole)))
local macro_rules | `(tactic| walk_at "eval Name") => `(tactic| (k_here; name_kind "local"; k_dflt (refine' nameX_L ?F ?v ?_ ?a ?b; (case F => k_asm); (case a => rfl); (case b => rfl); (case v => rfl); k_whole)))

local macro_rules | `(tactic| walk_at "binaryOp Mod int int") => `(tactic| (k_here; (with_reducible refine Mine.modG ?_ ?_); (omega); intro r' e' b0' b1'))
local macro_rules | `(tactic| walk_at "inplaceOp Mod int int") => `(tactic| (k_here; (with_reducible refine Mine.imodG ?_ ?_); (omega); intro r' e' b0' b1'))
local macro_rules | `(tactic| walk_at "binaryOp FloorDiv int int") => `(tactic| (k_here; (with_reducible refine Mine.fdivG ?_ ?_ ?_); (omega); (omega); intro r' e'))
local macro_rules | `(tactic| walk_at "binaryOp Pow int int") => `(tactic| (k_here; (with_reducible first | refine Mine.pow2G ?_ ?_ ?_ | refine Mine.pow3G ?_ ?_ ?_ | refine Mine.pow4G ?_ ?_ ?_); (omega); (omega)))
local macro_rules | `(tactic| walk_at "binaryOp Mult int int") => `(tactic| (k_here; first | ((with_reducible refine Mine.mulL ?_ ?_ ?_); (omega); (omega)) | ((with_reducible refine Mine.mulR ?_ ?_ ?_); (omega); (omega))))
local macro_rules | `(tactic| walk_at "compareOp Eq int int") => `(tactic| (k_here; first | ((with_reducible refine Mine.eqY ?_ ?_); (omega)) | ((with_reducible refine Mine.eqN ?_ ?_); (omega))))
local macro_rules | `(tactic| walk_at "compareOp NotEq int int") => `(tactic| (k_here; first | ((with_reducible refine Mine.neY ?_ ?_); (omega)) | ((with_reducible refine Mine.neN ?_ ?_); (omega))))
local macro_rules | `(tactic| walk_at "compareOp Lt int int") => `(tactic| (k_here; first | ((with_reducible refine Mine.ltY ?_ ?_); (omega)) | ((with_reducible refine Mine.ltN ?_ ?_); (omega))))
local macro_rules | `(tactic| walk_at "compareOp GtE int int") => `(tactic| (k_here; first | ((with_reducible refine Mine.geY ?_ ?_); (omega)) | ((with_reducible refine Mine.geN ?_ ?_); (omega))))
local macro_rules | `(tactic| walk_at "truthy int") => `(tactic| (k_here; first | ((with_reducible refine Mine.truthyY ?_ ?_); (omega)) | ((with_reducible refine Mine.truthyN ?_ ?_); (omega))))
local macro_rules | `(tactic| walk_at "subscriptTail Name Constant ref int") => `(tactic| (k_here; k_dflt (refine' Mine.itemG ?k1 ?k2 ?k3 ?k4 ?k5 ?k6 ?_; (case k1 => k_asm); (case k2 => k_mem); (case k3 => decide); (case k4 => decide); (case k5 => rfl); (case k6 => rfl); k_whole)))
local macro_rules | `(tactic| k_room) => `(tactic| ktr_room)
local macro_rules | `(tactic| k_enter) => `(tactic| cell_enter)
local macro_rules | `(tactic| walk_at "KswEnd") => `(tactic| k_extra "KswEnd")
local macro_rules | `(tactic| walk_at "call ref") => `(tactic| (k_here; k_extra "call ref"))
local macro_rules | `(tactic| k_mem) => `(tactic| first | exact List.Mem.head _ | with_reducible assumption | (refine' List.mem_cons_of_mem _ ?_; k_mem))
local macro_rules | `(tactic| k_all) => `(tactic| first | exact Mine.allLt_ne (by assumption) | exact Mine.allLt_ne' (by assumption) | exact List.forall_mem_nil _ | (refine' List.forall_mem_cons.mpr ⟨?a, ?b⟩; (case a => k_ne); (case b => k_all)))
local macro_rules | `(tactic| ktr_room) => `(tactic| ((try simp only [depth_under_make, depth_under_kw, depth_in1, depth_deeper, depth_caller]); (try dsimp only [ktrTop, Around.deeper]); first | exact Mine.room3 (by with_reducible assumption) (by decide) | exact Mine.room2 (by with_reducible assumption) (by decide) | omega))
local macro_rules | `(tactic| ktr_units) => `(tactic| ((try simp only [units_in1, units_deeper, Around.mark_units, units_caller]); (try dsimp only [ktrTop, Around.deeper]); first | exact Mine.room3 (by with_reducible assumption) (by decide) | exact Mine.room2 (by with_reducible assumption) (by decide) | omega))
local macro_rules | `(tactic| k_units) => `(tactic| ((try dsimp only [ktrTop, Around.deeper, Around.in1]); (try simp only [cLine] at *); omega))
local macro_rules | `(tactic| walk_at "call ref") => `(tactic| (k_here; (with_reducible show wpAny _ _ (call (Value.ref 28) [Value.int _ _, Value.int _ _]) _ _ _); k_dflt (refine' Mine.call_use ?k1 ?k2 ?k3 ?k4 ?k5 ?kK (Mine.c_inv _ _ _ _ _ _ _ _ _ _ ?h1 ?h2 ?h3 ?h4) ?kd ?ku ?_; (case k1 => k_asm); (case k2 => k_asm); (case k3 => k_asm); (case k4 => k_asm); (case k5 => k_asm); (case kK => first | exact rfl | assumption); (case h1 => omega); (case h2 => omega); (case h3 => omega); (case h4 => assumption); (case kd => ktr_room); (case ku => ktr_units)); intro v9 v0' v1' v2' t9 h9 tk9 F9 N9; (try dsimp only); (try k_fold); (try k_sweep)))
local macro_rules | `(tactic| walk_at "call ref") => `(tactic| (k_here; (with_reducible show wpAny _ _ (call (Value.ref 112) [Value.int _ _, Value.int _ _]) _ _ _); k_dflt (refine' Mine.call_use ?k1 ?k2 ?k3 ?k4 ?k5 ?kK (Mine.c_pinv _ _ _ _ _ _ _ _ _ _ ?h1 ?h2 ?h3 ?h4) ?kd ?ku ?_; (case k1 => k_asm); (case k2 => k_asm); (case k3 => k_asm); (case k4 => k_asm); (case k5 => k_asm); (case kK => first | exact rfl | assumption); (case h1 => omega); (case h2 => omega); (case h3 => omega); (case h4 => assumption); (case kd => ktr_room); (case ku => ktr_units)); intro v9 v0' v1' v2' t9 h9 tk9 F9 N9; (try dsimp only); (try k_fold); (try k_sweep)))
namespace Mine
section
variable (w : World) (loo : List Str) (mean : ExcName → Option Value) (mg mb : Str → Option Value) (news : Led) {C : Cv} (G : Good C) (p cv : Addr) {i x y z : Int} {t1 t2 t3 : Tok} {c1 c2 : Nat} {u1 u2 u3 u4 u5 u6 : Tok}
include G
theorem s_jdouble (hp : (p, tup3 x y z t1 t2 t3 c1) ∈ news) (hc : (cv, tup6 C.P C.N 0 C.B (C.X 1) (C.Y 1) u1 u2 u3 u4 u5 u6 c2) ∈ news) (hi : i % C.N ≠ 0) (J : Jac C i x y z) :
    Call w loo mean mg mb 42 1 16 news [.ref p, .ref cv] (fun h₀ L m s Q => ∀ X Y Z : Int, Jac C (2 * i) X Y Z → RetTup3 news X Y Z h₀ L m s Q) := by
  intro dp un gd cn cs a ccd cl outer A₀ base h₀ L m s Q E B' F X' N' T hk hd hu hret
  refine c_jdouble w loo mean mg mb news p cv x y z t1 t2 t3 c1 c2 C.P C.N C.B (C.X 1) (C.Y 1) u1 u2 u3 u4 u5 u6 hp hc G.p5 G.p127 J.1 J.2.1 (J.yn G hi) J.2.2.1 J.2.2.2.1 (by have := J.2.2.2.2.1; omega) J.2.2.2.2.2.1 _ _ _ _ _ _ _ _ _ _ _ _ _ _ _ _ _ B' F X' N' T hk hd hu ?_
  intro ysq S M X Y Z e1 e2 e3 e4 e5 e6 b1 b2 b3 b4 b5 b6
  exact hret X Y Z (jac_dbl G hi J e1 e2 e3 e4 e5 e6 b1 b2 b3 b4 b5 b6)
theorem s_fromjac (hp : (p, tup3 x y z t1 t2 t3 c1) ∈ news) (hc : (cv, tup6 C.P C.N 0 C.B (C.X 1) (C.Y 1) u1 u2 u3 u4 u5 u6 c2) ∈ news) (J : Jac C i x y z) :
    Call w loo mean mg mb 56 2 24 news [.ref p, .ref cv] (RetTup2 news (C.X i) (C.Y i)) := by
  intro dp un gd cn cs a ccd cl outer A₀ base h₀ L m s Q E B' F X' N' T hk hd hu hret
  refine c_fromjac w loo mean mg mb news p cv x y z t1 t2 t3 c1 c2 C.P C.N C.B (C.X 1) (C.Y 1) u1 u2 u3 u4 u5 u6 hp hc G.p5 G.p127 J.1 J.2.1 J.2.2.1 J.2.2.2.1 J.2.2.2.2.1 J.2.2.2.2.2.1 (G.gcd J.2.2.2.2.1 J.2.2.2.2.2.1) _ _ _ _ _ _ _ _ _ _ _ _ _ _ _ _ _ B' F X' N' T hk hd hu ?_
  intro v X Y e1 e2 e3 b1 b2 b3 b4
  obtain ⟨q1, q2⟩ := jac_from G J e1 e2 e3 b1 b2 b3 b4
  rw [q1, q2]
  exact hret
end
end Mine
end
section
local macro_rules | `(tactic| walk_at "eval Name") => `(tactic| (k_here; name_kind "globalImplicit"; k_dflt (refine' nameX_K ?F ?X ?T ?e ?_ ?a ?b; (case F => k_asm); (case X => k_asm); (case T => k_asm); (case a => rfl); (case b => rfl); (case e => k_is); k_whole)))
local macro_rules | `(tactic| walk_at "eval Name") => `(tactic| (k_here; name_kind "local"; k_dflt (refine' nameX_L ?F ?v ?_ ?a ?b; (case F => k_asm); (case a => rfl); (case b => rfl); (case v => rfl); k_whole)))

local macro_rules | `(tactic| walk_at "binaryOp Mod int int") => `(tactic| (k_here; (with_reducible refine Mine.modG ?_ ?_); (omega); intro r' e' b0' b1'))
local macro_rules | `(tactic| walk_at "inplaceOp Mod int int") => `(tactic| (k_here; (with_reducible refine Mine.imodG ?_ ?_); (omega); intro r' e' b0' b1'))
local macro_rules | `(tactic| walk_at "binaryOp FloorDiv int int") => `(tactic| (k_here; (with_reducible refine Mine.fdivG ?_ ?_ ?_); (omega); (omega); intro r' e'))
local macro_rules | `(tactic| walk_at "binaryOp Pow int int") => `(tactic| (k_here; (with_reducible first | refine Mine.pow2G ?_ ?_ ?_ | refine Mine.pow3G ?_ ?_ ?_ | refine Mine.pow4G ?_ ?_ ?_); (omega); (omega)))
local macro_rules | `(tactic| walk_at "binaryOp Mult int int") => `(tactic| (k_here; first | ((with_reducible refine Mine.mulL ?_ ?_ ?_); (omega); (omega)) | ((with_reducible refine Mine.mulR ?_ ?_ ?_); (omega); (omega))))
local macro_rules | `(tactic| walk_at "compareOp Eq int int") => `(tactic| (k_here; first | ((with_reducible refine Mine.eqY ?_ ?_); (omega)) | ((with_reducible refine Mine.eqN ?_ ?_); (omega))))
local macro_rules | `(tactic| walk_at "compareOp NotEq int int") => `(tactic| (k_here; first | ((with_reducible refine Mine.neY ?_ ?_); (omega)) | ((with_reducible refine Mine.neN ?_ ?_); (omega))))
local macro_rules | `(tactic| walk_at "compareOp Lt int int") => `(tactic| (k_here; first | ((with_reducible refine Mine.ltY ?_ ?_); (omega)) | ((with_reducible refine Mine.ltN ?_ ?_); (omega))))
local macro_rules | `(tactic| walk_at "compareOp GtE int int") => `(tactic| (k_here; first | ((with_reducible refine Mine.geY ?_ ?_); (omega)) | ((with_reducible refine Mine.geN ?_ ?_); (omega))))
local macro_rules | `(tactic| walk_at "truthy int") => `(tactic| (k_here; first | ((with_reducible refine Mine.truthyY ?_ ?_); (omega)) | ((with_reducible refine Mine.truthyN ?_ ?_); (omega))))
local macro_rules | `(tactic| walk_at "subscriptTail Name Constant ref int") => `(tactic| (k_here; k_dflt (refine' Mine.itemG ?k1 ?k2 ?k3 ?k4 ?k5 ?k6 ?_; (case k1 => k_asm); (case k2 => k_mem); (case k3 => decide); (case k4 => decide); (case k5 => rfl); (case k6 => rfl); k_whole)))
local macro_rules | `(tactic| k_room) => `(tactic| ktr_room)
local macro_rules | `(tactic| k_enter) => `(tactic| cell_enter)
local macro_rules | `(tactic| walk_at "KswEnd") => `(tactic| k_extra "KswEnd")
local macro_rules | `(tactic| walk_at "call ref") => `(tactic| (k_here; k_extra "call ref"))
local macro_rules | `(tactic| k_mem) => `(tactic| first | exact List.Mem.head _ | with_reducible assumption | (refine' List.mem_cons_of_mem _ ?_; k_mem))
local macro_rules | `(tactic| k_all) => `(tactic| first | exact Mine.allLt_ne (by assumption) | exact Mine.allLt_ne' (by assumption) | exact List.forall_mem_nil _ | (refine' List.forall_mem_cons.mpr ⟨?a, ?b⟩; (case a => k_ne); (case b => k_all)))
local macro_rules | `(tactic| ktr_room) => `(tactic| ((try simp only [depth_under_make, depth_under_kw, depth_in1, depth_deeper, depth_caller]); (try dsimp only [ktrTop, Around.deeper]); first | exact Mine.room3 (by with_reducible assumption) (by decide) | exact Mine.room2 (by with_reducible assumption) (by decide) | omega))
local macro_rules | `(tactic| ktr_units) => `(tactic| ((try simp only [units_in1, units_deeper, Around.mark_units, units_caller]); (try dsimp only [ktrTop, Around.deeper]); first | exact Mine.room3 (by with_reducible assumption) (by decide) | exact Mine.room2 (by with_reducible assumption) (by decide) | omega))
local macro_rules | `(tactic| k_units) => `(tactic| ((try dsimp only [ktrTop, Around.deeper, Around.in1]); (try simp only [cLine] at *); omega))
local macro_rules | `(tactic| walk_at "call ref") => `(tactic| (k_here; (with_reducible show wpAny _ _ (call (Value.ref 28) [Value.int _ _, Value.int _ _]) _ _ _); k_dflt (refine' Mine.call_use ?k1 ?k2 ?k3 ?k4 ?k5 ?kK (Mine.c_inv _ _ _ _ _ _ _ _ _ _ ?h1 ?h2 ?h3 ?h4) ?kd ?ku ?_; (case k1 => k_asm); (case k2 => k_asm); (case k3 => k_asm); (case k4 => k_asm); (case k5 => k_asm); (case kK => first | exact rfl | assumption); (case h1 => omega); (case h2 => omega); (case h3 => omega); (case h4 => assumption); (case kd => ktr_room); (case ku => ktr_units)); intro v9 v0' v1' v2' t9 h9 tk9 F9 N9; (try dsimp only); (try k_fold); (try k_sweep)))
local macro_rules | `(tactic| walk_at "call ref") => `(tactic| (k_here; (with_reducible show wpAny _ _ (call (Value.ref 112) [Value.int _ _, Value.int _ _]) _ _ _); k_dflt (refine' Mine.call_use ?k1 ?k2 ?k3 ?k4 ?k5 ?kK (Mine.c_pinv _ _ _ _ _ _ _ _ _ _ ?h1 ?h2 ?h3 ?h4) ?kd ?ku ?_; (case k1 => k_asm); (case k2 => k_asm); (case k3 => k_asm); (case k4 => k_asm); (case k5 => k_asm); (case kK => first | exact rfl | assumption); (case h1 => omega); (case h2 => omega); (case h3 => omega); (case h4 => assumption); (case kd => ktr_room); (case ku => ktr_units)); intro v9 v0' v1' v2' t9 h9 tk9 F9 N9; (try dsimp only); (try k_fold); (try k_sweep)))
local macro_rules | `(tactic| walk_at "call ref") => `(tactic| (k_here; (with_reducible show wpAny _ _ (call (Value.ref 42) [Value.ref _, Value.ref _]) _ _ _); k_dflt (refine' Mine.call_use ?k1 ?k2 ?k3 ?k4 ?k5 ?kK (Mine.s_jdouble _ _ _ _ _ _ ?hG _ _ ?hp ?hc ?hi ?hJ) ?kd ?ku ?_; (case k1 => k_asm); (case k2 => k_asm); (case k3 => k_asm); (case k4 => k_asm); (case k5 => k_asm); (case kK => first | exact rfl | assumption); (case hG => with_reducible assumption); (case hp => k_mem); (case hc => k_mem); (case hJ => assumption); (case hi => first | with_reducible assumption | k_extra "nz"); (case kd => ktr_room); (case ku => ktr_units)); intro X9 Y9 Z9 J9 r9 t91 t92 t93 c9 h9 tk9 F9 N9; (try dsimp only); (try k_fold); (try k_sweep)))
namespace Mine
section
variable (w : World) (loo : List Str) (mean : ExcName → Option Value) (mg mb : Str → Option Value) (news : Led) {C : Cv} (G : Good C) (p q cv : Addr) {i j x y z x2 y2 z2 : Int} {t1 t2 t3 s1 s2 s3 : Tok} {c1 c2 c3 : Nat} {u1 u2 u3 u4 u5 u6 : Tok}
include G
set_option maxRecDepth 100000 in
set_option maxHeartbeats 8000000 in
theorem c_jadd_d (hp : (p, tup3 x y z t1 t2 t3 c1) ∈ news) (hq : (q, tup3 x2 y2 z2 s1 s2 s3 c3) ∈ news) (hc : (cv, tup6 C.P C.N 0 C.B (C.X 1) (C.Y 1) u1 u2 u3 u4 u5 u6 c2) ∈ news)
    (hP : 5 ≤ C.P) (hP2 : C.P ≤ 127) (hx : 0 ≤ x) (hxb : x < C.P) (hy : y ≠ 0) (hya : 0 ≤ y) (hyb : y < C.P) (hz : 0 ≤ z) (hzb : z < C.P)
    (kx : 0 ≤ x2) (kxb : x2 < C.P) (ky : y2 ≠ 0) (kya : 0 ≤ y2) (kyb : y2 < C.P) (kz : 0 ≤ z2) (kzb : z2 < C.P)
    (hU : x * z2 ^ 2 % C.P = x2 * z ^ 2 % C.P) (hS : y * z2 ^ 3 % C.P = y2 * z ^ 3 % C.P) (hi : i % C.N ≠ 0) (J : Jac C i x y z) :
    Call w loo mean mg mb 49 2 24 news [.ref p, .ref q, .ref cv] (fun h₀ L m s Q => ∀ X Y Z : Int, Jac C (2 * i) X Y Z → RetTup3 news X Y Z h₀ L m s Q) := by
  unfold Call
  k_fill
  k_with_none
  intro dp un gd cn cs a ccd cl outer A₀ base h₀ L m s Q E B' F X' N' T hk hd hu hret
  refine wpAny_call ?_
  k_dflt cell_enter
  w_strict (k_steps; all_goals exact hret _ _ _ (by assumption) _ _ _ _ _ _ _ (by assumption) (by assumption))

theorem s_jadd (hp : (p, tup3 x y z t1 t2 t3 c1) ∈ news) (hq : (q, tup3 x2 y2 z2 s1 s2 s3 c3) ∈ news) (hc : (cv, tup6 C.P C.N 0 C.B (C.X 1) (C.Y 1) u1 u2 u3 u4 u5 u6 c2) ∈ news) (J : Jac C i x y z) (K : Jac C j x2 y2 z2) :
    Call w loo mean mg mb 49 2 24 news [.ref p, .ref q, .ref cv] (fun h₀ L m s Q => ∀ X Y Z : Int, Jac C (i + j) X Y Z → RetTup3 news X Y Z h₀ L m s Q) := by
  intro dp un gd cn cs a ccd cl outer A₀ base h₀ L m s Q E B' F X' N' T hk hd hu hret
  by_cases hi : i % C.N = 0
  · refine c_jadd_l w loo mean mg mb news p q cv x y z x2 y2 z2 t1 t2 t3 s1 s2 s3 c1 c2 c3 C.P C.N C.B (C.X 1) (C.Y 1) u1 u2 u3 u4 u5 u6 hp hq hc (J.yz G hi) _ _ _ _ _ _ _ _ _ _ _ _ _ _ _ _ _ B' F X' N' T hk (by omega) (by omega) ?_
    exact hret _ _ _ (K.per G (by rw [Int.add_emod, hi, Int.zero_add, Int.emod_emod]))
  by_cases hj : j % C.N = 0
  · refine c_jadd_r w loo mean mg mb news p q cv x y z x2 y2 z2 t1 t2 t3 s1 s2 s3 c1 c2 c3 C.P C.N C.B (C.X 1) (C.Y 1) u1 u2 u3 u4 u5 u6 hp hq hc (J.yn G hi) (K.yz G hj) _ _ _ _ _ _ _ _ _ _ _ _ _ _ _ _ _ B' F X' N' T hk (by omega) (by omega) ?_
    exact hret _ _ _ (J.per G (by rw [Int.add_emod, hj, Int.add_zero, Int.emod_emod]))
  have hy := J.yn G hi
  have ky := K.yn G hj
  by_cases hs : (i + j) % C.N = 0
  · obtain ⟨n1, n2⟩ := G.ng i j hi hs
    refine c_jadd_0 w loo mean mg mb news p q cv x y z x2 y2 z2 t1 t2 t3 s1 s2 s3 c1 c2 c3 C.P C.N C.B (C.X 1) (C.Y 1) u1 u2 u3 u4 u5 u6 hp hq hc G.p5 G.p127 J.1 J.2.1 hy J.2.2.1 J.2.2.2.1 (by have := J.2.2.2.2.1; omega) J.2.2.2.2.2.1
      K.1 K.2.1 ky K.2.2.1 K.2.2.2.1 (by have := K.2.2.2.2.1; omega) K.2.2.2.2.2.1 (jac_U' G J K n1) (jac_S G J K (mod_ne (G.y0 i) (G.y1 i) (G.y0 j) (G.y1 j) n2)) _ _ _ _ _ _ _ _ _ _ _ _ _ _ _ _ _ B' F X' N' T hk (by omega) (by omega) ?_
    exact hret _ _ _ (Jac.inf G hs)
  by_cases hij : i % C.N = j % C.N
  · refine c_jadd_d w loo mean mg mb news G p q cv hp hq hc G.p5 G.p127 J.1 J.2.1 hy J.2.2.1 J.2.2.2.1 (by have := J.2.2.2.2.1; omega) J.2.2.2.2.2.1
      K.1 K.2.1 ky K.2.2.1 K.2.2.2.1 (by have := K.2.2.2.2.1; omega) K.2.2.2.2.2.1 (jac_U' G J K (G.perX i j hij)) (jac_S' G J K (G.perY i j hij)) hi J _ _ _ _ _ _ _ _ _ _ _ _ _ _ _ _ _ B' F X' N' T hk hd hu ?_
    intro X Y Z JJ
    exact hret X Y Z (JJ.per G (by rw [show 2 * i = i + i by omega, Int.add_emod, Int.add_emod i j, hij]))
  · refine c_jadd_g w loo mean mg mb news p q cv x y z x2 y2 z2 t1 t2 t3 s1 s2 s3 c1 c2 c3 C.P C.N C.B (C.X 1) (C.Y 1) u1 u2 u3 u4 u5 u6 hp hq hc G.p5 G.p127 J.1 J.2.1 hy J.2.2.1 J.2.2.2.1 (by have := J.2.2.2.2.1; omega) J.2.2.2.2.2.1
      K.1 K.2.1 ky K.2.2.1 K.2.2.2.1 (by have := K.2.2.2.2.1; omega) K.2.2.2.2.2.1 (jac_U G J K (mod_ne (G.x0 i) (G.x1 i) (G.x0 j) (G.x1 j) (G.neX i j hi hj hij hs))) _ _ _ _ _ _ _ _ _ _ _ _ _ _ _ _ _ B' F X' N' T hk (by omega) (by omega) ?_
    intro U1 U2 S1 S2 H2 H3 UH X Y Z e1 e2 e3 e4 e5 e6 e7 e8 e9 e10 b1 b2 b3 b4 b5 b6
    exact hret X Y Z (jac_add G hi hj hij hs J K e1 e2 e3 e4 e5 e6 e7 e8 e9 e10 b1 b2 b3 b4 b5 b6)
end
end Mine
end
section
local macro_rules | `(tactic| walk_at "eval Name") => `(tactic| (k_here; name_kind "globalImplicit"; k_dflt (refine' nameX_K ?F ?X ?T ?e ?_ ?a ?b; (case F => k_asm); (case X => k_asm); (case T => k_asm); (case a => rfl); (case b => rfl); (case e => k_is); k_whole)))
local macro_rules | `(tactic| walk_at "eval Name") => `(tactic| (k_here; name_kind "local"; k_dflt (refine' nameX_L ?F ?v ?_ ?a ?b; (case F => k_asm); (case a => rfl); (case b => rfl); (case v => rfl); k_whole)))

local macro_rules | `(tactic| walk_at "binaryOp Mod int int") => `(tactic| (k_here; (with_reducible refine Mine.modG ?_ ?_); (omega); intro r' e' b0' b1'))
local macro_rules | `(tactic| walk_at "inplaceOp Mod int int") => `(tactic| (k_here; (with_reducible refine Mine.imodG ?_ ?_); (omega); intro r' e' b0' b1'))
local macro_rules | `(tactic| walk_at "binaryOp FloorDiv int int") => `(tactic| (k_here; (with_reducible refine Mine.fdivG ?_ ?_ ?_); (omega); (omega); intro r' e'))
local macro_rules | `(tactic| walk_at "binaryOp Pow int int") => `(tactic| (k_here; (with_reducible first | refine Mine.pow2G ?_ ?_ ?_ | refine Mine.pow3G ?_ ?_ ?_ | refine Mine.pow4G ?_ ?_ ?_); (omega); (omega)))
local macro_rules | `(tactic| walk_at "binaryOp Mult int int") => `(tactic| (k_here; first | ((with_reducible refine Mine.mulL ?_ ?_ ?_); (omega); (omega)) | ((with_reducible refine Mine.mulR ?_ ?_ ?_); (omega); (omega))))
local macro_rules | `(tactic| walk_at "compareOp Eq int int") => `(tactic| (k_here; first | ((with_reducible refine Mine.eqY ?_ ?_); (omega)) | ((with_reducible refine Mine.eqN ?_ ?_); (omega))))
local macro_rules | `(tactic| walk_at "compareOp NotEq int int") => `(tactic| (k_here; first | ((with_reducible refine Mine.neY ?_ ?_); (omega)) | ((with_reducible refine Mine.neN ?_ ?_); (omega))))
local macro_rules | `(tactic| walk_at "compareOp Lt int int") => `(tactic| (k_here; first | ((with_reducible refine Mine.ltY ?_ ?_); (omega)) | ((with_reducible refine Mine.ltN ?_ ?_); (omega))))
local macro_rules | `(tactic| walk_at "compareOp GtE int int") => `(tactic| (k_here; first | ((with_reducible refine Mine.geY ?_ ?_); (omega)) | ((with_reducible refine Mine.geN ?_ ?_); (omega))))
local macro_rules | `(tactic| walk_at "truthy int") => `(tactic| (k_here; first | ((with_reducible refine Mine.truthyY ?_ ?_); (omega)) | ((with_reducible refine Mine.truthyN ?_ ?_); (omega))))
local macro_rules | `(tactic| walk_at "subscriptTail Name Constant ref int") => `(tactic| (k_here; k_dflt (refine' Mine.itemG ?k1 ?k2 ?k3 ?k4 ?k5 ?k6 ?_; (case k1 => k_asm); (case k2 => k_mem); (case k3 => decide); (case k4 => decide); (case k5 => rfl); (case k6 => rfl); k_whole)))
local macro_rules | `(tactic| k_room) => `(tactic| ktr_room)
local macro_rules | `(tactic| k_enter) => `(tactic| cell_enter)
local macro_rules | `(tactic| walk_at "KswEnd") => `(tactic| k_extra "KswEnd")
local macro_rules | `(tactic| walk_at "call ref") => `(tactic| (k_here; k_extra "call ref"))
local macro_rules | `(tactic| k_mem) => `(tactic| first | exact List.Mem.head _ | with_reducible assumption | (refine' List.mem_cons_of_mem _ ?_; k_mem))
local macro_rules | `(tactic| k_all) => `(tactic| first | exact Mine.allLt_ne (by assumption) | exact Mine.allLt_ne' (by assumption) | exact List.forall_mem_nil _ | (refine' List.forall_mem_cons.mpr ⟨?a, ?b⟩; (case a => k_ne); (case b => k_all)))
local macro_rules | `(tactic| ktr_room) => `(tactic| ((try simp only [depth_under_make, depth_under_kw, depth_in1, depth_deeper, depth_caller]); (try dsimp only [ktrTop, Around.deeper]); first | exact Mine.room3 (by with_reducible assumption) (by decide) | exact Mine.room2 (by with_reducible assumption) (by decide) | omega))
local macro_rules | `(tactic| ktr_units) => `(tactic| ((try simp only [units_in1, units_deeper, Around.mark_units, units_caller]); (try dsimp only [ktrTop, Around.deeper]); first | exact Mine.room3 (by with_reducible assumption) (by decide) | exact Mine.room2 (by with_reducible assumption) (by decide) | omega))
local macro_rules | `(tactic| k_units) => `(tactic| ((try dsimp only [ktrTop, Around.deeper, Around.in1]); (try simp only [cLine] at *); omega))
local macro_rules | `(tactic| walk_at "call ref") => `(tactic| (k_here; (with_reducible show wpAny _ _ (call (Value.ref 28) [Value.int _ _, Value.int _ _]) _ _ _); k_dflt (refine' Mine.call_use ?k1 ?k2 ?k3 ?k4 ?k5 ?kK (Mine.c_inv _ _ _ _ _ _ _ _ _ _ ?h1 ?h2 ?h3 ?h4) ?kd ?ku ?_; (case k1 => k_asm); (case k2 => k_asm); (case k3 => k_asm); (case k4 => k_asm); (case k5 => k_asm); (case kK => first | exact rfl | assumption); (case h1 => omega); (case h2 => omega); (case h3 => omega); (case h4 => assumption); (case kd => ktr_room); (case ku => ktr_units)); intro v9 v0' v1' v2' t9 h9 tk9 F9 N9; (try dsimp only); (try k_fold); (try k_sweep)))
local macro_rules | `(tactic| walk_at "call ref") => `(tactic| (k_here; (with_reducible show wpAny _ _ (call (Value.ref 112) [Value.int _ _, Value.int _ _]) _ _ _); k_dflt (refine' Mine.call_use ?k1 ?k2 ?k3 ?k4 ?k5 ?kK (Mine.c_pinv _ _ _ _ _ _ _ _ _ _ ?h1 ?h2 ?h3 ?h4) ?kd ?ku ?_; (case k1 => k_asm); (case k2 => k_asm); (case k3 => k_asm); (case k4 => k_asm); (case k5 => k_asm); (case kK => first | exact rfl | assumption); (case h1 => omega); (case h2 => omega); (case h3 => omega); (case h4 => assumption); (case kd => ktr_room); (case ku => ktr_units)); intro v9 v0' v1' v2' t9 h9 tk9 F9 N9; (try dsimp only); (try k_fold); (try k_sweep)))
local macro_rules | `(tactic| walk_at "call ref") => `(tactic| (k_here; (with_reducible show wpAny _ _ (call (Value.ref 42) [Value.ref _, Value.ref _]) _ _ _); k_dflt (refine' Mine.call_use ?k1 ?k2 ?k3 ?k4 ?k5 ?kK (Mine.s_jdouble _ _ _ _ _ _ ?hG _ _ ?hp ?hc ?hi ?hJ) ?kd ?ku ?_; (case k1 => k_asm); (case k2 => k_asm); (case k3 => k_asm); (case k4 => k_asm); (case k5 => k_asm); (case kK => first | exact rfl | assumption); (case hG => with_reducible assumption); (case hp => k_mem); (case hc => k_mem); (case hJ => assumption); (case hi => first | with_reducible assumption | k_extra "nz"); (case kd => ktr_room); (case ku => ktr_units)); intro X9 Y9 Z9 J9 r9 t91 t92 t93 c9 h9 tk9 F9 N9; (try dsimp only); (try k_fold); (try k_sweep)))
local macro_rules | `(tactic| walk_at "call ref") => `(tactic| (k_here; (with_reducible show wpAny _ _ (call (Value.ref 49) [Value.ref _, Value.ref _, Value.ref _]) _ _ _); k_dflt (refine' Mine.call_use ?k1 ?k2 ?k3 ?k4 ?k5 ?kK (Mine.s_jadd _ _ _ _ _ _ ?hG _ _ _ ?hp ?hq ?hc ?hJ ?hK) ?kd ?ku ?_; (case k1 => k_asm); (case k2 => k_asm); (case k3 => k_asm); (case k4 => k_asm); (case k5 => k_asm); (case kK => first | exact rfl | assumption); (case hG => with_reducible assumption); (case hp => k_mem); (case hq => k_mem); (case hc => k_mem); (case hJ => assumption); (case hK => assumption); (case kd => ktr_room); (case ku => ktr_units)); intro X9 Y9 Z9 J9 r9 t91 t92 t93 c9 h9 tk9 F9 N9; (try dsimp only); (try k_fold); (try k_sweep)))
local macro_rules | `(tactic| walk_at "call ref") => `(tactic| (k_here; (with_reducible show wpAny _ _ (call (Value.ref 35) [Value.ref _]) _ _ _); k_dflt (refine' Mine.call_use ?k1 ?k2 ?k3 ?k4 ?k5 ?kK (Mine.c_tojac _ _ _ _ _ _ _ _ _ _ _ _ ?hp) ?kd ?ku ?_; (case k1 => k_asm); (case k2 => k_asm); (case k3 => k_asm); (case k4 => k_asm); (case k5 => k_asm); (case kK => first | exact rfl | assumption); (case hp => k_mem); (case kd => ktr_room); (case ku => ktr_units)); intro r9 t91 t92 t93 c9 h9 tk9 F9 N9; (try dsimp only); (try k_fold); (try k_sweep)))
local macro_rules | `(tactic| walk_at "call ref") => `(tactic| (k_here; (with_reducible show wpAny _ _ (call (Value.ref 56) [Value.ref _, Value.ref _]) _ _ _); k_dflt (refine' Mine.call_use ?k1 ?k2 ?k3 ?k4 ?k5 ?kK (Mine.s_fromjac _ _ _ _ _ _ ?hG _ _ ?hp ?hc ?hJ) ?kd ?ku ?_; (case k1 => k_asm); (case k2 => k_asm); (case k3 => k_asm); (case k4 => k_asm); (case k5 => k_asm); (case kK => first | exact rfl | assumption); (case hG => with_reducible assumption); (case hp => k_mem); (case hc => k_mem); (case hJ => assumption); (case kd => ktr_room); (case ku => ktr_units)); intro r9 t91 t92 c9 h9 tk9 F9 N9; (try dsimp only); (try k_fold); (try k_sweep)))
namespace Mine
section
variable (w : World) (loo : List Str) (mean : ExcName → Option Value) (mg mb : Str → Option Value) {C : Cv} (G : Good C) {i x y z : Int}
theorem half_nz (G : Good C) (hi : i % C.N ≠ 0) {n r : Int} (h2 : 2 ≤ n) (hN : n < C.N) (e : r = n / 2) : (r * i) % C.N ≠ 0 :=
  G.nmul r i (by rw [Int.emod_eq_of_lt (by omega) (by omega)]; omega) hi
theorem jac_ev {n r X Y Z : Int} (e : r = n / 2) (hm : n % 2 = 0) (J : Jac C (2 * (r * i)) X Y Z) : Jac C (n * i) X Y Z := by
  have : n = 2 * r := by omega
  rwa [this, Int.mul_assoc]
theorem jac_od {n r X Y Z : Int} (e : r = n / 2) (hm : n % 2 = 1) (J : Jac C (2 * (r * i) + i) X Y Z) : Jac C (n * i) X Y Z := by
  have : n = 2 * r + 1 := by omega
  rwa [this, Int.add_mul, Int.one_mul, Int.mul_assoc]
include G
set_option maxRecDepth 100000 in
set_option maxHeartbeats 1000000 in
theorem s_jmul (hi : i % C.N ≠ 0) (J : Jac C i x y z) : ∀ (k : Nat) (n : Int), 0 ≤ n → n < C.N → n.toNat = k → ∀ {news : Led} {p cv : Addr} {t1 t2 t3 tn : Tok} {c1 c2 : Nat} {u1 u2 u3 u4 u5 u6 : Tok}
    (_ : (p, tup3 x y z t1 t2 t3 c1) ∈ news) (_ : (cv, tup6 C.P C.N 0 C.B (C.X 1) (C.Y 1) u1 u2 u3 u4 u5 u6 c2) ∈ news),
    Call w loo mean mg mb 63 (k + 4) (16 * (k + 4)) news [.ref p, .int n tn, .ref cv] (fun h₀ L m s Q => ∀ X Y Z : Int, Jac C (n * i) X Y Z → RetTup3 news X Y Z h₀ L m s Q) := by
  intro k
  induction k using Nat.strongRecOn with
  | _ k IH =>
  intro n hn hN ek news p cv t1 t2 t3 tn c1 c2 u1 u2 u3 u4 u5 u6 hp hc
  unfold Call
  k_fill
  k_with_none
  intro dp un gd cn cs a ccd cl outer A₀ base h₀ L m s Q E B' F X' N' T hk hd hu hret
  have hy := J.yn G hi
  by_cases h0 : n = 0
  · refine wpAny_call ?_
    k_dflt cell_enter
    w_strict (k_steps; all_goals exact hret _ _ _ (Jac.inf G (by rw [h0, Int.zero_mul]; simp)) _ _ _ _ _ _ _ (by assumption) (by assumption))
  by_cases h1 : n = 1
  · refine wpAny_call ?_
    k_dflt cell_enter
    w_strict (k_steps; all_goals exact hret _ _ _ (by rw [h1, Int.one_mul]; exact J) _ _ _ _ _ _ _ (by assumption) (newsCons (by assumption) hp))
  have h2 : 2 ≤ n := by omega
  k_with "call ref" => ((with_reducible show wpAny _ _ (call (Value.ref 63) [Value.ref _, Value.int _ _, Value.ref _]) _ _ _); k_dflt (refine Mine.call_use (by k_asm) (by k_asm) (by k_asm) (by k_asm) (by k_asm) (by first | exact rfl | assumption) (IH (Int.toNat _) (by omega) _ (by omega) (by omega) rfl (by k_mem) (by k_mem)) (by ktr_room) (by ktr_units) ?_); intro X9 Y9 Z9 J9 r9 t91 t92 t93 c9 h9 tk9 F9 N9; (try dsimp only); (try k_fold); (try k_sweep))
  k_with "nz" => exact half_nz G hi h2 hN (by assumption)
  rcases Int.emod_two_eq n with hm | hm
  · refine wpAny_call ?_
    k_dflt cell_enter
    w_strict (k_steps; all_goals exact hret _ _ _ (jac_ev (by assumption) hm (by assumption)) _ _ _ _ _ _ _ (by assumption) (newsSub (by assumption) (fun _ hp => by rcases List.mem_cons.mp hp with rfl | hp; exact .head _; simp only [List.mem_cons, hp, or_true])))
  · refine wpAny_call ?_
    k_dflt cell_enter
    w_strict (k_steps; all_goals exact hret _ _ _ (jac_od (by assumption) hm (by assumption)) _ _ _ _ _ _ _ (by assumption) (newsSub (by assumption) (fun _ hp => by rcases List.mem_cons.mp hp with rfl | hp; exact .head _; simp only [List.mem_cons, hp, or_true])))
end
section
variable (w : World) (loo : List Str) (mean : ExcName → Option Value) (mg mb : Str → Option Value) (news : Led) {C : Cv} (G : Good C) (p q cv : Addr) {i j : Int} {t1 t2 s1 s2 : Tok} {c1 c2 c3 : Nat} {u1 u2 u3 u4 u5 u6 : Tok}
include G
set_option maxRecDepth 100000 in
set_option maxHeartbeats 1000000 in
/-- secp256k1's multiply -/
theorem s_mul (hi : i % C.N ≠ 0) (n : Int) (tn : Tok) (hn : 0 ≤ n) (hN : n < C.N) (hp : (p, tup2 (C.X i) (C.Y i) t1 t2 c1) ∈ news) (hc : (cv, tup6 C.P C.N 0 C.B (C.X 1) (C.Y 1) u1 u2 u3 u4 u5 u6 c2) ∈ news) :
    Call w loo mean mg mb 70 140 2300 news [.ref p, .int n tn, .ref cv] (RetTup2 news (C.X (n * i)) (C.Y (n * i))) := by
  unfold Call
  k_fill
  k_with_none
  intro dp un gd cn cs a ccd cl outer A₀ base h₀ L m s Q E B' F X' N' T hk hd hu hret
  have J0 := Jac.start G i
  have n127 := G.n127
  k_with "call ref" => ((with_reducible show wpAny _ _ (call (Value.ref 63) [Value.ref _, Value.int _ _, Value.ref _]) _ _ _); k_dflt (refine Mine.call_use (by k_asm) (by k_asm) (by k_asm) (by k_asm) (by k_asm) (by first | exact rfl | assumption) (s_jmul _ _ _ _ _ G hi J0 (Int.toNat n) n hn hN rfl (by k_mem) (by k_mem)) (by ktr_room) (by ktr_units) ?_); intro X9 Y9 Z9 J9 r9 t91 t92 t93 c9 h9 tk9 F9 N9; (try dsimp only); (try k_fold); (try k_sweep))
  refine wpAny_call ?_
  k_dflt cell_enter
  w_strict (k_steps; all_goals exact hret _ _ _ _ _ _ (by assumption) (newsSub (by assumption) (fun _ hp => by rcases List.mem_cons.mp hp with rfl | hp; exact .head _; simp only [List.mem_cons, hp, or_true])))
set_option maxRecDepth 100000 in
set_option maxHeartbeats 1000000 in
/-- secp256k1's add -/
theorem s_add (hp : (p, tup2 (C.X i) (C.Y i) t1 t2 c1) ∈ news) (hq : (q, tup2 (C.X j) (C.Y j) s1 s2 c3) ∈ news) (hc : (cv, tup6 C.P C.N 0 C.B (C.X 1) (C.Y 1) u1 u2 u3 u4 u5 u6 c2) ∈ news) :
    Call w loo mean mg mb 77 3 40 news [.ref p, .ref q, .ref cv] (RetTup2 news (C.X (i + j)) (C.Y (i + j))) := by
  unfold Call
  k_fill
  k_with_none
  intro dp un gd cn cs a ccd cl outer A₀ base h₀ L m s Q E B' F X' N' T hk hd hu hret
  have J0 := Jac.start G i
  have K0 := Jac.start G j
  refine wpAny_call ?_
  k_dflt cell_enter
  w_strict (k_steps; all_goals exact hret _ _ _ _ _ _ (by assumption) (newsSub (by assumption) (fun _ hp => by rcases List.mem_cons.mp hp with rfl | hp; exact .head _; simp only [List.mem_cons, hp, or_true])))
end
end Mine
end
namespace Mine

section
variable {prog : Program} {w : World} {A : Around} {E : Value → Shared → Prop} {s : Shared}
theorem call_int_mul_ref {a : Int} {t : Tok} {x : Addr} {oc : Value} {od : Option Addr} {sl : Array (Option Value)} {Q : Value → Shared → Prop} (ho : s.heap.get? x = some ⟨oc, od, .plain, sl⟩) (h : Q .notImplemented s) :
    wpAny (model prog w) A (call (.builtin "int.__mul__") [.int a t, .ref x]) Q E s := by
  with_reducible refine wpAny_call_entry PySem.F.slot_int_mul ?_ PySem.F.entry_int_mul ?_ (PySem.F.args_int_mul_2 _ _)
  · exact PySem.typeIs_int s a t
  obtain ⟨hp, g, d, tk, os⟩ := s
  wp_walk
  exact ⟨_, rfl, h⟩
theorem try_int_mul {a : Int} {t : Tok} {x : Addr} {oc : Value} {od : Option Addr} {sl : Array (Option Value)} {Q : Option Value → Shared → Prop} (ho : s.heap.get? x = some ⟨oc, od, .plain, sl⟩) (h : Q none s) :
    wpAny (model prog w) A (tryMethod (.int a t) (PySem.dunder "mul") (.ref x)) Q E s := by
  with_reducible refine wpAny_tryMethod_declines ?_ PySem.F.slot_int_mul (call_int_mul_ref ho ⟨rfl, h⟩)
  exact PySem.typeIs_int s a t
/-- an int times an object of a class: the object's __rmul__ -/
theorem rmul_K {K : Frag} {x C L f g : Addr} {h₀ : Heap} {m : Str → Option Value} {ox : Obj} {od : Option Obj} {a : Int} {t : Tok} {Q : Value → Shared → Prop} (F : Fr h₀ L s.heap m) (X₀ : K.In h₀) (I : InstAt s.heap x ox C od) (hpl : ox.data = .plain) (hc : selfFirst K C = true)
    (hs : findIn K (.ref C) (PySem.dunder "mul") = some (some (.ref g))) (hr : findIn K (.ref C) (dunderR "mul") = some (some (.ref f))) (hf : isFn K (.ref f) = true) (hsub : subIn K (.ref C) (.type "int") = some false)
    (h : wpAny (model prog w) A (call (.ref f) [.ref x, .int a t]) (PySem.W.CmpBack Q) E s) : wpAny (model prog w) A (binaryOp .Mult (.int a t) (.ref x)) Q E s := by
  have X := X₀.keeps F.keep
  obtain ⟨cd, rest, hcd, hm⟩ := ksp_first hc
  have one := ksp_try X I hr hf h
  obtain ⟨oc, od', dt, sl⟩ := ox
  dsimp only at hpl
  subst hpl
  have hox := I.1
  obtain ⟨hh, gg, d, tt, os⟩ := s
  have L1 : Looks (model prog w) hh (typeOf (.ref x)) (.ref C) := I.type
  have L2 : Looks (model prog w) hh (typeOf (.int a t)) (.type "int") := Looks.of_pure rfl
  have L3 : Looks (model prog w) hh (fillsNumberSlot (.ref C) "mul") true := fills_K X hcd hm hs
  have L4 : Looks (model prog w) hh (fillsNumberSlot (.type "int") "mul") true := Looks.of_pure PySem.F.fills_int_mul
  have L5 : Looks (model prog w) hh (isSubtype (.ref C) (.type "int")) false := looks_subIn X hsub
  have L7 : Looks (model prog w) hh (numberSlotInPython (.type "int") "mul") false := Looks.of_pure rfl
  have hne : (Value.type "int" == Value.ref C) = false := Bool.eq_false_iff.mpr fun q => by cases beq_iff_eq.mp q
  have hi : Operator.info .Mult = ("*", "mul") := rfl
  simp only [binaryOp, hi]
  refine wpAny_holding (wpAny_bind ?_)
  unfold binaryOp1
  refine wpAny_bind (L2.at (wpAny_bind (L1.at (wpAny_bind (L4.at ?_)))))
  simp only [hne, Bool.false_eq_true, if_false]
  ksp_lk
  refine try_int_mul hox ?_
  ksp_lk
  refine wpAny_mono one (fun r s' hr' => ?_) fun _ _ e => e
  obtain ⟨v, rfl, hq⟩ := hr'
  ksp_lk
  exact hq
end
end Mine
section
local macro_rules | `(tactic| walk_at "eval Name") => `(tactic| (k_here; name_kind "globalImplicit"; k_dflt (refine' nameX_K ?F ?X ?T ?e ?_ ?a ?b; (case F => k_asm); (case X => k_asm); (case T => k_asm); (case a => rfl); (case b => rfl); (case e => k_is); k_whole)))
local macro_rules | `(tactic| walk_at "eval Name") => `(tactic| (k_here; name_kind "local"; k_dflt (refine' nameX_L ?F ?v ?_ ?a ?b; (case F => k_asm); (case a => rfl); (case b => rfl); (case v => rfl); k_whole)))

local macro_rules | `(tactic| walk_at "binaryOp Mod int int") => `(tactic| (k_here; (with_reducible refine Mine.modG ?_ ?_); (omega); intro r' e' b0' b1'))
local macro_rules | `(tactic| walk_at "inplaceOp Mod int int") => `(tactic| (k_here; (with_reducible refine Mine.imodG ?_ ?_); (omega); intro r' e' b0' b1'))
local macro_rules | `(tactic| walk_at "binaryOp FloorDiv int int") => `(tactic| (k_here; (with_reducible refine Mine.fdivG ?_ ?_ ?_); (omega); (omega); intro r' e'))
local macro_rules | `(tactic| walk_at "binaryOp Pow int int") => `(tactic| (k_here; (with_reducible first | refine Mine.pow2G ?_ ?_ ?_ | refine Mine.pow3G ?_ ?_ ?_ | refine Mine.pow4G ?_ ?_ ?_); (omega); (omega)))
local macro_rules | `(tactic| walk_at "binaryOp Mult int int") => `(tactic| (k_here; first | ((with_reducible refine Mine.mulL ?_ ?_ ?_); (omega); (omega)) | ((with_reducible refine Mine.mulR ?_ ?_ ?_); (omega); (omega))))
local macro_rules | `(tactic| walk_at "compareOp Eq int int") => `(tactic| (k_here; first | ((with_reducible refine Mine.eqY ?_ ?_); (omega)) | ((with_reducible refine Mine.eqN ?_ ?_); (omega))))
local macro_rules | `(tactic| walk_at "compareOp NotEq int int") => `(tactic| (k_here; first | ((with_reducible refine Mine.neY ?_ ?_); (omega)) | ((with_reducible refine Mine.neN ?_ ?_); (omega))))
local macro_rules | `(tactic| walk_at "compareOp Lt int int") => `(tactic| (k_here; first | ((with_reducible refine Mine.ltY ?_ ?_); (omega)) | ((with_reducible refine Mine.ltN ?_ ?_); (omega))))
local macro_rules | `(tactic| walk_at "compareOp GtE int int") => `(tactic| (k_here; first | ((with_reducible refine Mine.geY ?_ ?_); (omega)) | ((with_reducible refine Mine.geN ?_ ?_); (omega))))
local macro_rules | `(tactic| walk_at "truthy int") => `(tactic| (k_here; first | ((with_reducible refine Mine.truthyY ?_ ?_); (omega)) | ((with_reducible refine Mine.truthyN ?_ ?_); (omega))))
local macro_rules | `(tactic| walk_at "subscriptTail Name Constant ref int") => `(tactic| (k_here; k_dflt (refine' Mine.itemG ?k1 ?k2 ?k3 ?k4 ?k5 ?k6 ?_; (case k1 => k_asm); (case k2 => k_mem); (case k3 => decide); (case k4 => decide); (case k5 => rfl); (case k6 => rfl); k_whole)))
local macro_rules | `(tactic| k_room) => `(tactic| ktr_room)
local macro_rules | `(tactic| k_enter) => `(tactic| cell_enter)
local macro_rules | `(tactic| walk_at "KswEnd") => `(tactic| k_extra "KswEnd")
local macro_rules | `(tactic| walk_at "call ref") => `(tactic| (k_here; k_extra "call ref"))
local macro_rules | `(tactic| k_mem) => `(tactic| first | exact List.Mem.head _ | with_reducible assumption | (refine' List.mem_cons_of_mem _ ?_; k_mem))
local macro_rules | `(tactic| k_all) => `(tactic| first | exact Mine.allLt_ne (by assumption) | exact Mine.allLt_ne' (by assumption) | exact List.forall_mem_nil _ | (refine' List.forall_mem_cons.mpr ⟨?a, ?b⟩; (case a => k_ne); (case b => k_all)))
local macro_rules | `(tactic| ktr_room) => `(tactic| ((try simp only [depth_under_make, depth_under_kw, depth_in1, depth_deeper, depth_caller]); (try dsimp only [ktrTop, Around.deeper]); first | exact Mine.room3 (by with_reducible assumption) (by decide) | exact Mine.room2 (by with_reducible assumption) (by decide) | omega))
local macro_rules | `(tactic| ktr_units) => `(tactic| ((try simp only [units_in1, units_deeper, Around.mark_units, units_caller]); (try dsimp only [ktrTop, Around.deeper]); first | exact Mine.room3 (by with_reducible assumption) (by decide) | exact Mine.room2 (by with_reducible assumption) (by decide) | omega))
local macro_rules | `(tactic| k_units) => `(tactic| ((try dsimp only [ktrTop, Around.deeper, Around.in1]); (try simp only [cLine] at *); omega))
local macro_rules | `(tactic| walk_at "call ref") => `(tactic| (k_here; (with_reducible show wpAny _ _ (call (Value.ref 28) [Value.int _ _, Value.int _ _]) _ _ _); k_dflt (refine' Mine.call_use ?k1 ?k2 ?k3 ?k4 ?k5 ?kK (Mine.c_inv _ _ _ _ _ _ _ _ _ _ ?h1 ?h2 ?h3 ?h4) ?kd ?ku ?_; (case k1 => k_asm); (case k2 => k_asm); (case k3 => k_asm); (case k4 => k_asm); (case k5 => k_asm); (case kK => first | exact rfl | assumption); (case h1 => omega); (case h2 => omega); (case h3 => omega); (case h4 => assumption); (case kd => ktr_room); (case ku => ktr_units)); intro v9 v0' v1' v2' t9 h9 tk9 F9 N9; (try dsimp only); (try k_fold); (try k_sweep)))
local macro_rules | `(tactic| walk_at "call ref") => `(tactic| (k_here; (with_reducible show wpAny _ _ (call (Value.ref 112) [Value.int _ _, Value.int _ _]) _ _ _); k_dflt (refine' Mine.call_use ?k1 ?k2 ?k3 ?k4 ?k5 ?kK (Mine.c_pinv _ _ _ _ _ _ _ _ _ _ ?h1 ?h2 ?h3 ?h4) ?kd ?ku ?_; (case k1 => k_asm); (case k2 => k_asm); (case k3 => k_asm); (case k4 => k_asm); (case k5 => k_asm); (case kK => first | exact rfl | assumption); (case h1 => omega); (case h2 => omega); (case h3 => omega); (case h4 => assumption); (case kd => ktr_room); (case ku => ktr_units)); intro v9 v0' v1' v2' t9 h9 tk9 F9 N9; (try dsimp only); (try k_fold); (try k_sweep)))
namespace Mine
section
variable (w : World) (loo : List Str) (mean : ExcName → Option Value) (mg mb : Str → Option Value) (news : Led)
theorem mod2 {n q v P : Int} (e : q = v % P) (f : n = q % P) : n = v % P := by rw [f, e, Int.emod_emod]
set_option maxRecDepth 100000 in
set_option maxHeartbeats 8000000 in
theorem c_fq1 (v P : Int) (tv tP : Tok) (hP : 5 ≤ P) (hP2 : P ≤ 127) :
    Call w loo mean mg mb 255 2 24 news [.int v tv, .int P tP] (fun h₀ L m s Q => ∀ n : Int, n = v % P → 0 ≤ n → n < P → RetFq w 255 news P n h₀ L m s Q) := by
  unfold Call
  k_fill
  k_with_none
  intro dp un gd cn cs a ccd cl outer A₀ base h₀ L m s Q E B' F X' N' T hk hd hu hret
  w_strict (k_steps; all_goals exact hret _ (by assumption) (by assumption) (by assumption) _ _ _ _ _ _ _ _ (by assumption) (by assumption))
set_option maxRecDepth 100000 in
set_option maxHeartbeats 8000000 in
theorem c_fq2 (v P : Int) (tv tP : Tok) (hP : 5 ≤ P) (hP2 : P ≤ 127) :
    Call w loo mean mg mb 417 2 24 news [.int v tv, .int P tP] (fun h₀ L m s Q => ∀ n : Int, n = v % P → 0 ≤ n → n < P → RetFq w 417 news P n h₀ L m s Q) := by
  unfold Call
  k_fill
  k_with_none
  intro dp un gd cn cs a ccd cl outer A₀ base h₀ L m s Q E B' F X' N' T hk hd hu hret
  w_strict (k_steps; all_goals exact hret _ (by assumption) (by assumption) (by assumption) _ _ _ _ _ _ _ _ (by assumption) (by assumption))
end
end Mine
end
section
local macro_rules | `(tactic| walk_at "eval Name") => `(tactic| (k_here; name_kind "globalImplicit"; k_dflt (refine' nameX_K ?F ?X ?T ?e ?_ ?a ?b; (case F => k_asm); (case X => k_asm); (case T => k_asm); (case a => rfl); (case b => rfl); (case e => k_is); k_whole)))
local macro_rules | `(tactic| walk_at "eval Name") => `(tactic| (k_here; name_kind "local"; k_dflt (refine' nameX_L ?F ?v ?_ ?a ?b; (case F => k_asm); (case a => rfl); (case b => rfl); (case v => rfl); k_whole)))

local macro_rules | `(tactic| walk_at "binaryOp Mod int int") => `(tactic| (k_here; (with_reducible refine Mine.modG ?_ ?_); (omega); intro r' e' b0' b1'))
local macro_rules | `(tactic| walk_at "inplaceOp Mod int int") => `(tactic| (k_here; (with_reducible refine Mine.imodG ?_ ?_); (omega); intro r' e' b0' b1'))
local macro_rules | `(tactic| walk_at "binaryOp FloorDiv int int") => `(tactic| (k_here; (with_reducible refine Mine.fdivG ?_ ?_ ?_); (omega); (omega); intro r' e'))
local macro_rules | `(tactic| walk_at "binaryOp Pow int int") => `(tactic| (k_here; (with_reducible first | refine Mine.pow2G ?_ ?_ ?_ | refine Mine.pow3G ?_ ?_ ?_ | refine Mine.pow4G ?_ ?_ ?_); (omega); (omega)))
local macro_rules | `(tactic| walk_at "binaryOp Mult int int") => `(tactic| (k_here; first | ((with_reducible refine Mine.mulL ?_ ?_ ?_); (omega); (omega)) | ((with_reducible refine Mine.mulR ?_ ?_ ?_); (omega); (omega))))
local macro_rules | `(tactic| walk_at "compareOp Eq int int") => `(tactic| (k_here; first | ((with_reducible refine Mine.eqY ?_ ?_); (omega)) | ((with_reducible refine Mine.eqN ?_ ?_); (omega))))
local macro_rules | `(tactic| walk_at "compareOp NotEq int int") => `(tactic| (k_here; first | ((with_reducible refine Mine.neY ?_ ?_); (omega)) | ((with_reducible refine Mine.neN ?_ ?_); (omega))))
local macro_rules | `(tactic| walk_at "compareOp Lt int int") => `(tactic| (k_here; first | ((with_reducible refine Mine.ltY ?_ ?_); (omega)) | ((with_reducible refine Mine.ltN ?_ ?_); (omega))))
local macro_rules | `(tactic| walk_at "compareOp GtE int int") => `(tactic| (k_here; first | ((with_reducible refine Mine.geY ?_ ?_); (omega)) | ((with_reducible refine Mine.geN ?_ ?_); (omega))))
local macro_rules | `(tactic| walk_at "truthy int") => `(tactic| (k_here; first | ((with_reducible refine Mine.truthyY ?_ ?_); (omega)) | ((with_reducible refine Mine.truthyN ?_ ?_); (omega))))
local macro_rules | `(tactic| walk_at "subscriptTail Name Constant ref int") => `(tactic| (k_here; k_dflt (refine' Mine.itemG ?k1 ?k2 ?k3 ?k4 ?k5 ?k6 ?_; (case k1 => k_asm); (case k2 => k_mem); (case k3 => decide); (case k4 => decide); (case k5 => rfl); (case k6 => rfl); k_whole)))
local macro_rules | `(tactic| k_room) => `(tactic| ktr_room)
local macro_rules | `(tactic| k_enter) => `(tactic| cell_enter)
local macro_rules | `(tactic| walk_at "KswEnd") => `(tactic| k_extra "KswEnd")
local macro_rules | `(tactic| walk_at "call ref") => `(tactic| (k_here; k_extra "call ref"))
local macro_rules | `(tactic| k_mem) => `(tactic| first | exact List.Mem.head _ | with_reducible assumption | (refine' List.mem_cons_of_mem _ ?_; k_mem))
local macro_rules | `(tactic| k_all) => `(tactic| first | exact Mine.allLt_ne (by assumption) | exact Mine.allLt_ne' (by assumption) | exact List.forall_mem_nil _ | (refine' List.forall_mem_cons.mpr ⟨?a, ?b⟩; (case a => k_ne); (case b => k_all)))
local macro_rules | `(tactic| ktr_room) => `(tactic| ((try simp only [depth_under_make, depth_under_kw, depth_in1, depth_deeper, depth_caller]); (try dsimp only [ktrTop, Around.deeper]); first | exact Mine.room3 (by with_reducible assumption) (by decide) | exact Mine.room2 (by with_reducible assumption) (by decide) | omega))
local macro_rules | `(tactic| ktr_units) => `(tactic| ((try simp only [units_in1, units_deeper, Around.mark_units, units_caller]); (try dsimp only [ktrTop, Around.deeper]); first | exact Mine.room3 (by with_reducible assumption) (by decide) | exact Mine.room2 (by with_reducible assumption) (by decide) | omega))
local macro_rules | `(tactic| k_units) => `(tactic| ((try dsimp only [ktrTop, Around.deeper, Around.in1]); (try simp only [cLine] at *); omega))
local macro_rules | `(tactic| walk_at "call ref") => `(tactic| (k_here; (with_reducible show wpAny _ _ (call (Value.ref 28) [Value.int _ _, Value.int _ _]) _ _ _); k_dflt (refine' Mine.call_use ?k1 ?k2 ?k3 ?k4 ?k5 ?kK (Mine.c_inv _ _ _ _ _ _ _ _ _ _ ?h1 ?h2 ?h3 ?h4) ?kd ?ku ?_; (case k1 => k_asm); (case k2 => k_asm); (case k3 => k_asm); (case k4 => k_asm); (case k5 => k_asm); (case kK => first | exact rfl | assumption); (case h1 => omega); (case h2 => omega); (case h3 => omega); (case h4 => assumption); (case kd => ktr_room); (case ku => ktr_units)); intro v9 v0' v1' v2' t9 h9 tk9 F9 N9; (try dsimp only); (try k_fold); (try k_sweep)))
local macro_rules | `(tactic| walk_at "call ref") => `(tactic| (k_here; (with_reducible show wpAny _ _ (call (Value.ref 112) [Value.int _ _, Value.int _ _]) _ _ _); k_dflt (refine' Mine.call_use ?k1 ?k2 ?k3 ?k4 ?k5 ?kK (Mine.c_pinv _ _ _ _ _ _ _ _ _ _ ?h1 ?h2 ?h3 ?h4) ?kd ?ku ?_; (case k1 => k_asm); (case k2 => k_asm); (case k3 => k_asm); (case k4 => k_asm); (case k5 => k_asm); (case kK => first | exact rfl | assumption); (case h1 => omega); (case h2 => omega); (case h3 => omega); (case h4 => assumption); (case kd => ktr_room); (case ku => ktr_units)); intro v9 v0' v1' v2' t9 h9 tk9 F9 N9; (try dsimp only); (try k_fold); (try k_sweep)))
local macro_rules | `(tactic| walk_at "binaryOp Div ref ref") => `(tactic| (k_here; (with_reducible show wpAny _ _ (binaryOp _ (Value.ref _) (Value.ref _)) _ _ _); k_dflt (refine' binop_K ?k1 ?k2 ?k3 ?k4 ?k5 ?k6 ?k7 ?_; (case k1 => k_asm); (case k2 => k_asm); (case k3 => k_inst); (case k4 => k_typeOf); (case k5 => k_is); (case k6 => k_is); (case k7 => k_is); k_whole)))
local macro_rules | `(tactic| walk_at "binaryOp Mult int ref") => `(tactic| (k_here; (with_reducible show wpAny _ _ (binaryOp _ (Value.int _ _) (Value.ref _)) _ _ _); k_dflt (refine' Mine.rmul_K ?k1 ?k2 ?k3 ?kp ?k4 ?k5 ?k6 ?k7 ?k8 ?_; (case k1 => k_asm); (case k2 => k_asm); (case k3 => k_inst); (case kp => rfl); (case k4 => k_is); (case k5 => k_is); (case k6 => k_is); (case k7 => k_is); (case k8 => k_is); k_whole)))
local macro_rules | `(tactic| walk_at "call ref") => `(tactic| (k_here; (with_reducible show wpAny _ _ (call (Value.ref 255) [Value.int _ _, Value.int _ _]) _ _ _); k_dflt (refine' Mine.call_use ?k1 ?k2 ?k3 ?k4 ?k5 ?kK (Mine.c_fq1 _ _ _ _ _ _ _ _ _ _ ?h1 ?h2) ?kd ?ku ?_; (case k1 => k_asm); (case k2 => k_asm); (case k3 => k_asm); (case k4 => k_asm); (case k5 => k_asm); (case kK => first | exact rfl | assumption); (case h1 => first | with_reducible assumption | omega); (case h2 => first | with_reducible assumption | omega); (case kd => ktr_room); (case ku => ktr_units)); intro n9 e9 b9 b9' x9 d9 k91 k92 t91 t92 h9 tk9 F9 N9; (try dsimp only); (try k_fold); (try k_sweep)))
local macro_rules | `(tactic| walk_at "call ref") => `(tactic| (k_here; (with_reducible show wpAny _ _ (call (Value.ref 417) [Value.int _ _, Value.int _ _]) _ _ _); k_dflt (refine' Mine.call_use ?k1 ?k2 ?k3 ?k4 ?k5 ?kK (Mine.c_fq2 _ _ _ _ _ _ _ _ _ _ ?h1 ?h2) ?kd ?ku ?_; (case k1 => k_asm); (case k2 => k_asm); (case k3 => k_asm); (case k4 => k_asm); (case k5 => k_asm); (case kK => first | exact rfl | assumption); (case h1 => first | with_reducible assumption | omega); (case h2 => first | with_reducible assumption | omega); (case kd => ktr_room); (case ku => ktr_units)); intro n9 e9 b9 b9' x9 d9 k91 k92 t91 t92 h9 tk9 F9 N9; (try dsimp only); (try k_fold); (try k_sweep)))
namespace Mine
section
theorem mod01 {n v P : Int} (h0 : 0 ≤ v) (h1 : v < P) (f : n = v % P) : n = v := by rw [f, Int.emod_eq_of_lt h0 h1]
variable (w : World) (loo : List Str) (mean : ExcName → Option Value) (mg mb : Str → Option Value) (news : Led)
set_option maxRecDepth 100000 in
set_option maxHeartbeats 8000000 in
theorem c_mul1 {x dx : Addr} {a0 P : Int} {k1 k2 t1 t2 : Tok} {y dy : Addr} {b0 : Int} {l1 l2 s1 s2 : Tok} (hx : (x, instObj 255 dx) ∈ news) (hx2 : (dx, fqD w P a0 k1 k2 t1 t2) ∈ news) (hy : (y, instObj 255 dy) ∈ news) (hy2 : (dy, fqD w P b0 l1 l2 s1 s2) ∈ news) (hP : 5 ≤ P) (hP2 : P ≤ 127) (ha : 0 ≤ a0) (ha2 : a0 < P) (hb : 0 ≤ b0) (hb2 : b0 < P) :
    Op w loo mean mg mb (binaryOp .Mult (.ref x) (.ref y)) 5 60 news (fun h₀ L m s Q => ∀ n : Int, n = a0 * b0 % P → 0 ≤ n → n < P → RetFq w 255 news P n h₀ L m s Q) := by
  unfold Op
  k_fill
  k_with_none
  intro dp un gd cn cs a ccd cl outer A₀ base h₀ L m s Q E B' F X' N' T hk hd hu hret
  w_strict (k_steps; all_goals exact hret _ (Mine.mod2 (by assumption) (by assumption)) (by assumption) (by assumption) _ _ _ _ _ _ _ _ (by assumption) (newsSub (by assumption) (fun _ hp => by rcases List.mem_cons.mp hp with rfl | hp; exact .head _; rcases List.mem_cons.mp hp with rfl | hp; exact .tail _ (.head _); simp only [List.mem_cons, hp, or_true])))
set_option maxRecDepth 100000 in
set_option maxHeartbeats 8000000 in
theorem c_mulI1 {x dx : Addr} {a0 P : Int} {k1 k2 t1 t2 : Tok} (hx : (x, instObj 255 dx) ∈ news) (hx2 : (dx, fqD w P a0 k1 k2 t1 t2) ∈ news) (j : Int) (tj : Tok) (hP : 5 ≤ P) (hP2 : P ≤ 127) (ha : 0 ≤ a0) (ha2 : a0 < P) :
    Op w loo mean mg mb (binaryOp .Mult (.ref x) (.int j tj)) 5 60 news (fun h₀ L m s Q => ∀ n : Int, n = a0 * j % P → 0 ≤ n → n < P → RetFq w 255 news P n h₀ L m s Q) := by
  unfold Op
  k_fill
  k_with_none
  intro dp un gd cn cs a ccd cl outer A₀ base h₀ L m s Q E B' F X' N' T hk hd hu hret
  w_strict (k_steps; all_goals exact hret _ (Mine.mod2 (by assumption) (by assumption)) (by assumption) (by assumption) _ _ _ _ _ _ _ _ (by assumption) (newsSub (by assumption) (fun _ hp => by rcases List.mem_cons.mp hp with rfl | hp; exact .head _; rcases List.mem_cons.mp hp with rfl | hp; exact .tail _ (.head _); simp only [List.mem_cons, hp, or_true])))
set_option maxRecDepth 100000 in
set_option maxHeartbeats 8000000 in
theorem c_sub1 {x dx : Addr} {a0 P : Int} {k1 k2 t1 t2 : Tok} {y dy : Addr} {b0 : Int} {l1 l2 s1 s2 : Tok} (hx : (x, instObj 255 dx) ∈ news) (hx2 : (dx, fqD w P a0 k1 k2 t1 t2) ∈ news) (hy : (y, instObj 255 dy) ∈ news) (hy2 : (dy, fqD w P b0 l1 l2 s1 s2) ∈ news) (hP : 5 ≤ P) (hP2 : P ≤ 127) (ha : 0 ≤ a0) (ha2 : a0 < P) (hb : 0 ≤ b0) (hb2 : b0 < P) :
    Op w loo mean mg mb (binaryOp .Sub (.ref x) (.ref y)) 5 60 news (fun h₀ L m s Q => ∀ n : Int, n = (a0 - b0) % P → 0 ≤ n → n < P → RetFq w 255 news P n h₀ L m s Q) := by
  unfold Op
  k_fill
  k_with_none
  intro dp un gd cn cs a ccd cl outer A₀ base h₀ L m s Q E B' F X' N' T hk hd hu hret
  w_strict (k_steps; all_goals exact hret _ (Mine.mod2 (by assumption) (by assumption)) (by assumption) (by assumption) _ _ _ _ _ _ _ _ (by assumption) (newsSub (by assumption) (fun _ hp => by rcases List.mem_cons.mp hp with rfl | hp; exact .head _; rcases List.mem_cons.mp hp with rfl | hp; exact .tail _ (.head _); simp only [List.mem_cons, hp, or_true])))
set_option maxRecDepth 100000 in
set_option maxHeartbeats 8000000 in
theorem c_add1 {x dx : Addr} {a0 P : Int} {k1 k2 t1 t2 : Tok} {y dy : Addr} {b0 : Int} {l1 l2 s1 s2 : Tok} (hx : (x, instObj 255 dx) ∈ news) (hx2 : (dx, fqD w P a0 k1 k2 t1 t2) ∈ news) (hy : (y, instObj 255 dy) ∈ news) (hy2 : (dy, fqD w P b0 l1 l2 s1 s2) ∈ news) (hP : 5 ≤ P) (hP2 : P ≤ 127) (ha : 0 ≤ a0) (ha2 : a0 < P) (hb : 0 ≤ b0) (hb2 : b0 < P) :
    Op w loo mean mg mb (binaryOp .Add (.ref x) (.ref y)) 5 60 news (fun h₀ L m s Q => ∀ n : Int, n = (a0 + b0) % P → 0 ≤ n → n < P → RetFq w 255 news P n h₀ L m s Q) := by
  unfold Op
  k_fill
  k_with_none
  intro dp un gd cn cs a ccd cl outer A₀ base h₀ L m s Q E B' F X' N' T hk hd hu hret
  w_strict (k_steps; all_goals exact hret _ (Mine.mod2 (by assumption) (by assumption)) (by assumption) (by assumption) _ _ _ _ _ _ _ _ (by assumption) (newsSub (by assumption) (fun _ hp => by rcases List.mem_cons.mp hp with rfl | hp; exact .head _; rcases List.mem_cons.mp hp with rfl | hp; exact .tail _ (.head _); simp only [List.mem_cons, hp, or_true])))
set_option maxRecDepth 100000 in
set_option maxHeartbeats 8000000 in
theorem c_neg1 {x dx : Addr} {a0 P : Int} {k1 k2 t1 t2 : Tok} (hx : (x, instObj 255 dx) ∈ news) (hx2 : (dx, fqD w P a0 k1 k2 t1 t2) ∈ news) (hP : 5 ≤ P) (hP2 : P ≤ 127) (ha : 0 ≤ a0) (ha2 : a0 < P) :
    Op w loo mean mg mb (unaryOp .USub (.ref x)) 5 60 news (fun h₀ L m s Q => ∀ n : Int, n = (-a0) % P → 0 ≤ n → n < P → RetFq w 255 news P n h₀ L m s Q) := by
  unfold Op
  k_fill
  k_with_none
  intro dp un gd cn cs a ccd cl outer A₀ base h₀ L m s Q E B' F X' N' T hk hd hu hret
  w_strict (k_steps; all_goals exact hret _ (by assumption) (by assumption) (by assumption) _ _ _ _ _ _ _ _ (by assumption) (newsSub (by assumption) (fun _ hp => by rcases List.mem_cons.mp hp with rfl | hp; exact .head _; rcases List.mem_cons.mp hp with rfl | hp; exact .tail _ (.head _); simp only [List.mem_cons, hp, or_true])))
set_option maxRecDepth 100000 in
set_option maxHeartbeats 8000000 in
theorem c_div1 {x dx : Addr} {a0 P : Int} {k1 k2 t1 t2 : Tok} {y dy : Addr} {b0 : Int} {l1 l2 s1 s2 : Tok} (hx : (x, instObj 255 dx) ∈ news) (hx2 : (dx, fqD w P a0 k1 k2 t1 t2) ∈ news) (hy : (y, instObj 255 dy) ∈ news) (hy2 : (dy, fqD w P b0 l1 l2 s1 s2) ∈ news) (hP : 5 ≤ P) (hP2 : P ≤ 127) (ha : 0 ≤ a0) (ha2 : a0 < P) (hb : 1 ≤ b0) (hb2 : b0 < P) (hg : Int.gcd b0 P = 1) :
    Op w loo mean mg mb (binaryOp .Div (.ref x) (.ref y)) 5 80 news (fun h₀ L m s Q => ∀ v n : Int, v * b0 % P = 1 → n = a0 * v % P → 0 ≤ n → n < P → RetFq w 255 news P n h₀ L m s Q) := by
  unfold Op
  k_fill
  k_with_none
  intro dp un gd cn cs a ccd cl outer A₀ base h₀ L m s Q E B' F X' N' T hk hd hu hret
  w_strict (k_steps; all_goals exact hret _ _ (by assumption) (Mine.mod2 (by assumption) (by assumption)) (by assumption) (by assumption) _ _ _ _ _ _ _ _ (by assumption) (newsSub (by assumption) (fun _ hp => by rcases List.mem_cons.mp hp with rfl | hp; exact .head _; rcases List.mem_cons.mp hp with rfl | hp; exact .tail _ (.head _); simp only [List.mem_cons, hp, or_true])))
set_option maxRecDepth 100000 in
set_option maxHeartbeats 8000000 in
theorem c_pw11 {x dx : Addr} {a0 P : Int} {k1 k2 t1 t2 : Tok} (hx : (x, instObj 255 dx) ∈ news) (hx2 : (dx, fqD w P a0 k1 k2 t1 t2) ∈ news) (tj : Tok) (hP : 5 ≤ P) (hP2 : P ≤ 127) (ha : 0 ≤ a0) (ha2 : a0 < P) :
    Op w loo mean mg mb (binaryOp .Pow (.ref x) (.int 1 tj)) 5 60 news (fun h₀ L m s Q => ∀ n : Int, n = a0 → 0 ≤ n → n < P → RetFq w 255 news P n h₀ L m s Q) := by
  unfold Op
  k_fill
  k_with_none
  intro dp un gd cn cs a ccd cl outer A₀ base h₀ L m s Q E B' F X' N' T hk hd hu hret
  w_strict (k_steps; all_goals exact hret _ (Mine.mod01 ha ha2 (by assumption)) (by assumption) (by assumption) _ _ _ _ _ _ _ _ (by assumption) (newsSub (by assumption) (fun _ hp => by rcases List.mem_cons.mp hp with rfl | hp; exact .head _; rcases List.mem_cons.mp hp with rfl | hp; exact .tail _ (.head _); simp only [List.mem_cons, hp, or_true])))
set_option maxRecDepth 100000 in
set_option maxHeartbeats 8000000 in
theorem c_eqY1 {x dx : Addr} {a0 P : Int} {k1 k2 t1 t2 : Tok} {y dy : Addr} {b0 : Int} {l1 l2 s1 s2 : Tok} (hx : (x, instObj 255 dx) ∈ news) (hx2 : (dx, fqD w P a0 k1 k2 t1 t2) ∈ news) (hy : (y, instObj 255 dy) ∈ news) (hy2 : (dy, fqD w P b0 l1 l2 s1 s2) ∈ news) (he : a0 = b0) :
    Op w loo mean mg mb (compareOp .Eq (.ref x) (.ref y)) 5 60 news (RetBool news true) := by
  unfold Op
  k_fill
  k_with_none
  intro dp un gd cn cs a ccd cl outer A₀ base h₀ L m s Q E B' F X' N' T hk hd hu hret
  w_strict (k_steps; all_goals exact hret _ _ (by assumption) (by assumption))
set_option maxRecDepth 100000 in
set_option maxHeartbeats 8000000 in
theorem c_eqN1 {x dx : Addr} {a0 P : Int} {k1 k2 t1 t2 : Tok} {y dy : Addr} {b0 : Int} {l1 l2 s1 s2 : Tok} (hx : (x, instObj 255 dx) ∈ news) (hx2 : (dx, fqD w P a0 k1 k2 t1 t2) ∈ news) (hy : (y, instObj 255 dy) ∈ news) (hy2 : (dy, fqD w P b0 l1 l2 s1 s2) ∈ news) (he : a0 ≠ b0) :
    Op w loo mean mg mb (compareOp .Eq (.ref x) (.ref y)) 5 60 news (RetBool news false) := by
  unfold Op
  k_fill
  k_with_none
  intro dp un gd cn cs a ccd cl outer A₀ base h₀ L m s Q E B' F X' N' T hk hd hu hret
  w_strict (k_steps; all_goals exact hret _ _ (by assumption) (by assumption))
end
end Mine
end
section
local macro_rules | `(tactic| walk_at "eval Name") => `(tactic| (k_here; name_kind "globalImplicit"; k_dflt (refine' nameX_K ?F ?X ?T ?e ?_ ?a ?b; (case F => k_asm); (case X => k_asm); (case T => k_asm); (case a => rfl); (case b => rfl); (case e => k_is); k_whole)))
local macro_rules | `(tactic| walk_at "eval Name") => `(tactic| (k_here; name_kind "local"; k_dflt (refine' nameX_L ?F ?v ?_ ?a ?b; (case F => k_asm); (case a => rfl); (case b => rfl); (case v => rfl); k_whole)))

local macro_rules | `(tactic| walk_at "binaryOp Mod int int") => `(tactic| (k_here; (with_reducible refine Mine.modG ?_ ?_); (omega); intro r' e' b0' b1'))
local macro_rules | `(tactic| walk_at "inplaceOp Mod int int") => `(tactic| (k_here; (with_reducible refine Mine.imodG ?_ ?_); (omega); intro r' e' b0' b1'))
local macro_rules | `(tactic| walk_at "binaryOp FloorDiv int int") => `(tactic| (k_here; (with_reducible refine Mine.fdivG ?_ ?_ ?_); (omega); (omega); intro r' e'))
local macro_rules | `(tactic| walk_at "binaryOp Pow int int") => `(tactic| (k_here; (with_reducible first | refine Mine.pow2G ?_ ?_ ?_ | refine Mine.pow3G ?_ ?_ ?_ | refine Mine.pow4G ?_ ?_ ?_); (omega); (omega)))
local macro_rules | `(tactic| walk_at "binaryOp Mult int int") => `(tactic| (k_here; first | ((with_reducible refine Mine.mulL ?_ ?_ ?_); (omega); (omega)) | ((with_reducible refine Mine.mulR ?_ ?_ ?_); (omega); (omega))))
local macro_rules | `(tactic| walk_at "compareOp Eq int int") => `(tactic| (k_here; first | ((with_reducible refine Mine.eqY ?_ ?_); (omega)) | ((with_reducible refine Mine.eqN ?_ ?_); (omega))))
local macro_rules | `(tactic| walk_at "compareOp NotEq int int") => `(tactic| (k_here; first | ((with_reducible refine Mine.neY ?_ ?_); (omega)) | ((with_reducible refine Mine.neN ?_ ?_); (omega))))
local macro_rules | `(tactic| walk_at "compareOp Lt int int") => `(tactic| (k_here; first | ((with_reducible refine Mine.ltY ?_ ?_); (omega)) | ((with_reducible refine Mine.ltN ?_ ?_); (omega))))
local macro_rules | `(tactic| walk_at "compareOp GtE int int") => `(tactic| (k_here; first | ((with_reducible refine Mine.geY ?_ ?_); (omega)) | ((with_reducible refine Mine.geN ?_ ?_); (omega))))
local macro_rules | `(tactic| walk_at "truthy int") => `(tactic| (k_here; first | ((with_reducible refine Mine.truthyY ?_ ?_); (omega)) | ((with_reducible refine Mine.truthyN ?_ ?_); (omega))))
local macro_rules | `(tactic| walk_at "subscriptTail Name Constant ref int") => `(tactic| (k_here; k_dflt (refine' Mine.itemG ?k1 ?k2 ?k3 ?k4 ?k5 ?k6 ?_; (case k1 => k_asm); (case k2 => k_mem); (case k3 => decide); (case k4 => decide); (case k5 => rfl); (case k6 => rfl); k_whole)))
local macro_rules | `(tactic| k_room) => `(tactic| ktr_room)
local macro_rules | `(tactic| k_enter) => `(tactic| cell_enter)
local macro_rules | `(tactic| walk_at "KswEnd") => `(tactic| k_extra "KswEnd")
local macro_rules | `(tactic| walk_at "call ref") => `(tactic| (k_here; k_extra "call ref"))
local macro_rules | `(tactic| k_mem) => `(tactic| first | exact List.Mem.head _ | with_reducible assumption | (refine' List.mem_cons_of_mem _ ?_; k_mem))
local macro_rules | `(tactic| k_all) => `(tactic| first | exact Mine.allLt_ne (by assumption) | exact Mine.allLt_ne' (by assumption) | exact List.forall_mem_nil _ | (refine' List.forall_mem_cons.mpr ⟨?a, ?b⟩; (case a => k_ne); (case b => k_all)))
local macro_rules | `(tactic| ktr_room) => `(tactic| ((try simp only [depth_under_make, depth_under_kw, depth_in1, depth_deeper, depth_caller]); (try dsimp only [ktrTop, Around.deeper]); first | exact Mine.room3 (by with_reducible assumption) (by decide) | exact Mine.room2 (by with_reducible assumption) (by decide) | omega))
local macro_rules | `(tactic| ktr_units) => `(tactic| ((try simp only [units_in1, units_deeper, Around.mark_units, units_caller]); (try dsimp only [ktrTop, Around.deeper]); first | exact Mine.room3 (by with_reducible assumption) (by decide) | exact Mine.room2 (by with_reducible assumption) (by decide) | omega))
local macro_rules | `(tactic| k_units) => `(tactic| ((try dsimp only [ktrTop, Around.deeper, Around.in1]); (try simp only [cLine] at *); omega))
local macro_rules | `(tactic| walk_at "call ref") => `(tactic| (k_here; (with_reducible show wpAny _ _ (call (Value.ref 28) [Value.int _ _, Value.int _ _]) _ _ _); k_dflt (refine' Mine.call_use ?k1 ?k2 ?k3 ?k4 ?k5 ?kK (Mine.c_inv _ _ _ _ _ _ _ _ _ _ ?h1 ?h2 ?h3 ?h4) ?kd ?ku ?_; (case k1 => k_asm); (case k2 => k_asm); (case k3 => k_asm); (case k4 => k_asm); (case k5 => k_asm); (case kK => first | exact rfl | assumption); (case h1 => omega); (case h2 => omega); (case h3 => omega); (case h4 => assumption); (case kd => ktr_room); (case ku => ktr_units)); intro v9 v0' v1' v2' t9 h9 tk9 F9 N9; (try dsimp only); (try k_fold); (try k_sweep)))
local macro_rules | `(tactic| walk_at "call ref") => `(tactic| (k_here; (with_reducible show wpAny _ _ (call (Value.ref 112) [Value.int _ _, Value.int _ _]) _ _ _); k_dflt (refine' Mine.call_use ?k1 ?k2 ?k3 ?k4 ?k5 ?kK (Mine.c_pinv _ _ _ _ _ _ _ _ _ _ ?h1 ?h2 ?h3 ?h4) ?kd ?ku ?_; (case k1 => k_asm); (case k2 => k_asm); (case k3 => k_asm); (case k4 => k_asm); (case k5 => k_asm); (case kK => first | exact rfl | assumption); (case h1 => omega); (case h2 => omega); (case h3 => omega); (case h4 => assumption); (case kd => ktr_room); (case ku => ktr_units)); intro v9 v0' v1' v2' t9 h9 tk9 F9 N9; (try dsimp only); (try k_fold); (try k_sweep)))
local macro_rules | `(tactic| walk_at "call ref") => `(tactic| (k_here; (with_reducible show wpAny _ _ (call (Value.ref 255) [Value.int _ _, Value.int _ _]) _ _ _); k_dflt (refine' Mine.call_use ?k1 ?k2 ?k3 ?k4 ?k5 ?kK (Mine.c_fq1 _ _ _ _ _ _ _ _ _ _ ?h1 ?h2) ?kd ?ku ?_; (case k1 => k_asm); (case k2 => k_asm); (case k3 => k_asm); (case k4 => k_asm); (case k5 => k_asm); (case kK => first | exact rfl | assumption); (case h1 => first | with_reducible assumption | omega); (case h2 => first | with_reducible assumption | omega); (case kd => ktr_room); (case ku => ktr_units)); intro n9 e9 b9 b9' x9 d9 k91 k92 t91 t92 h9 tk9 F9 N9; (try dsimp only); (try k_fold); (try k_sweep)))
local macro_rules | `(tactic| walk_at "call ref") => `(tactic| (k_here; (with_reducible show wpAny _ _ (call (Value.ref 417) [Value.int _ _, Value.int _ _]) _ _ _); k_dflt (refine' Mine.call_use ?k1 ?k2 ?k3 ?k4 ?k5 ?kK (Mine.c_fq2 _ _ _ _ _ _ _ _ _ _ ?h1 ?h2) ?kd ?ku ?_; (case k1 => k_asm); (case k2 => k_asm); (case k3 => k_asm); (case k4 => k_asm); (case k5 => k_asm); (case kK => first | exact rfl | assumption); (case h1 => first | with_reducible assumption | omega); (case h2 => first | with_reducible assumption | omega); (case kd => ktr_room); (case ku => ktr_units)); intro n9 e9 b9 b9' x9 d9 k91 k92 t91 t92 h9 tk9 F9 N9; (try dsimp only); (try k_fold); (try k_sweep)))
namespace Mine
section
theorem mod02 {n v P : Int} (h0 : 0 ≤ v) (h1 : v < P) (f : n = v % P) : n = v := by rw [f, Int.emod_eq_of_lt h0 h1]
variable (w : World) (loo : List Str) (mean : ExcName → Option Value) (mg mb : Str → Option Value) (news : Led)
set_option maxRecDepth 100000 in
set_option maxHeartbeats 8000000 in
theorem c_mul2 {x dx : Addr} {a0 P : Int} {k1 k2 t1 t2 : Tok} {y dy : Addr} {b0 : Int} {l1 l2 s1 s2 : Tok} (hx : (x, instObj 417 dx) ∈ news) (hx2 : (dx, fqD w P a0 k1 k2 t1 t2) ∈ news) (hy : (y, instObj 417 dy) ∈ news) (hy2 : (dy, fqD w P b0 l1 l2 s1 s2) ∈ news) (hP : 5 ≤ P) (hP2 : P ≤ 127) (ha : 0 ≤ a0) (ha2 : a0 < P) (hb : 0 ≤ b0) (hb2 : b0 < P) :
    Op w loo mean mg mb (binaryOp .Mult (.ref x) (.ref y)) 5 60 news (fun h₀ L m s Q => ∀ n : Int, n = a0 * b0 % P → 0 ≤ n → n < P → RetFq w 417 news P n h₀ L m s Q) := by
  unfold Op
  k_fill
  k_with_none
  intro dp un gd cn cs a ccd cl outer A₀ base h₀ L m s Q E B' F X' N' T hk hd hu hret
  w_strict (k_steps; all_goals exact hret _ (Mine.mod2 (by assumption) (by assumption)) (by assumption) (by assumption) _ _ _ _ _ _ _ _ (by assumption) (newsSub (by assumption) (fun _ hp => by rcases List.mem_cons.mp hp with rfl | hp; exact .head _; rcases List.mem_cons.mp hp with rfl | hp; exact .tail _ (.head _); simp only [List.mem_cons, hp, or_true])))
set_option maxRecDepth 100000 in
set_option maxHeartbeats 8000000 in
theorem c_mulI2 {x dx : Addr} {a0 P : Int} {k1 k2 t1 t2 : Tok} (hx : (x, instObj 417 dx) ∈ news) (hx2 : (dx, fqD w P a0 k1 k2 t1 t2) ∈ news) (j : Int) (tj : Tok) (hP : 5 ≤ P) (hP2 : P ≤ 127) (ha : 0 ≤ a0) (ha2 : a0 < P) :
    Op w loo mean mg mb (binaryOp .Mult (.ref x) (.int j tj)) 5 60 news (fun h₀ L m s Q => ∀ n : Int, n = a0 * j % P → 0 ≤ n → n < P → RetFq w 417 news P n h₀ L m s Q) := by
  unfold Op
  k_fill
  k_with_none
  intro dp un gd cn cs a ccd cl outer A₀ base h₀ L m s Q E B' F X' N' T hk hd hu hret
  w_strict (k_steps; all_goals exact hret _ (Mine.mod2 (by assumption) (by assumption)) (by assumption) (by assumption) _ _ _ _ _ _ _ _ (by assumption) (newsSub (by assumption) (fun _ hp => by rcases List.mem_cons.mp hp with rfl | hp; exact .head _; rcases List.mem_cons.mp hp with rfl | hp; exact .tail _ (.head _); simp only [List.mem_cons, hp, or_true])))
set_option maxRecDepth 100000 in
set_option maxHeartbeats 8000000 in
theorem c_sub2 {x dx : Addr} {a0 P : Int} {k1 k2 t1 t2 : Tok} {y dy : Addr} {b0 : Int} {l1 l2 s1 s2 : Tok} (hx : (x, instObj 417 dx) ∈ news) (hx2 : (dx, fqD w P a0 k1 k2 t1 t2) ∈ news) (hy : (y, instObj 417 dy) ∈ news) (hy2 : (dy, fqD w P b0 l1 l2 s1 s2) ∈ news) (hP : 5 ≤ P) (hP2 : P ≤ 127) (ha : 0 ≤ a0) (ha2 : a0 < P) (hb : 0 ≤ b0) (hb2 : b0 < P) :
    Op w loo mean mg mb (binaryOp .Sub (.ref x) (.ref y)) 5 60 news (fun h₀ L m s Q => ∀ n : Int, n = (a0 - b0) % P → 0 ≤ n → n < P → RetFq w 417 news P n h₀ L m s Q) := by
  unfold Op
  k_fill
  k_with_none
  intro dp un gd cn cs a ccd cl outer A₀ base h₀ L m s Q E B' F X' N' T hk hd hu hret
  w_strict (k_steps; all_goals exact hret _ (Mine.mod2 (by assumption) (by assumption)) (by assumption) (by assumption) _ _ _ _ _ _ _ _ (by assumption) (newsSub (by assumption) (fun _ hp => by rcases List.mem_cons.mp hp with rfl | hp; exact .head _; rcases List.mem_cons.mp hp with rfl | hp; exact .tail _ (.head _); simp only [List.mem_cons, hp, or_true])))
set_option maxRecDepth 100000 in
set_option maxHeartbeats 8000000 in
theorem c_eqY2 {x dx : Addr} {a0 P : Int} {k1 k2 t1 t2 : Tok} {y dy : Addr} {b0 : Int} {l1 l2 s1 s2 : Tok} (hx : (x, instObj 417 dx) ∈ news) (hx2 : (dx, fqD w P a0 k1 k2 t1 t2) ∈ news) (hy : (y, instObj 417 dy) ∈ news) (hy2 : (dy, fqD w P b0 l1 l2 s1 s2) ∈ news) (he : a0 = b0) :
    Op w loo mean mg mb (compareOp .Eq (.ref x) (.ref y)) 5 60 news (RetBool news true) := by
  unfold Op
  k_fill
  k_with_none
  intro dp un gd cn cs a ccd cl outer A₀ base h₀ L m s Q E B' F X' N' T hk hd hu hret
  w_strict (k_steps; all_goals exact hret _ _ (by assumption) (by assumption))
set_option maxRecDepth 100000 in
set_option maxHeartbeats 8000000 in
theorem c_eqN2 {x dx : Addr} {a0 P : Int} {k1 k2 t1 t2 : Tok} {y dy : Addr} {b0 : Int} {l1 l2 s1 s2 : Tok} (hx : (x, instObj 417 dx) ∈ news) (hx2 : (dx, fqD w P a0 k1 k2 t1 t2) ∈ news) (hy : (y, instObj 417 dy) ∈ news) (hy2 : (dy, fqD w P b0 l1 l2 s1 s2) ∈ news) (he : a0 ≠ b0) :
    Op w loo mean mg mb (compareOp .Eq (.ref x) (.ref y)) 5 60 news (RetBool news false) := by
  unfold Op
  k_fill
  k_with_none
  intro dp un gd cn cs a ccd cl outer A₀ base h₀ L m s Q E B' F X' N' T hk hd hu hret
  w_strict (k_steps; all_goals exact hret _ _ (by assumption) (by assumption))
end
end Mine
end
section
local macro_rules | `(tactic| walk_at "eval Name") => `(tactic| (k_here; name_kind "globalImplicit"; k_dflt (refine' nameX_K ?F ?X ?T ?e ?_ ?a ?b; (case F => k_asm); (case X => k_asm); (case T => k_asm); (case a => rfl); (case b => rfl); (case e => k_is); k_whole)))
local macro_rules | `(tactic| walk_at "eval Name") => `(tactic| (k_here; name_kind "local"; k_dflt (refine' nameX_L ?F ?v ?_ ?a ?b; (case F => k_asm); (case a => rfl); (case b => rfl); (case v => rfl); k_whole)))

local macro_rules | `(tactic| walk_at "binaryOp Mod int int") => `(tactic| (k_here; (with_reducible refine Mine.modG ?_ ?_); (omega); intro r' e' b0' b1'))
local macro_rules | `(tactic| walk_at "inplaceOp Mod int int") => `(tactic| (k_here; (with_reducible refine Mine.imodG ?_ ?_); (omega); intro r' e' b0' b1'))
local macro_rules | `(tactic| walk_at "binaryOp FloorDiv int int") => `(tactic| (k_here; (with_reducible refine Mine.fdivG ?_ ?_ ?_); (omega); (omega); intro r' e'))
local macro_rules | `(tactic| walk_at "binaryOp Pow int int") => `(tactic| (k_here; (with_reducible first | refine Mine.pow2G ?_ ?_ ?_ | refine Mine.pow3G ?_ ?_ ?_ | refine Mine.pow4G ?_ ?_ ?_); (omega); (omega)))
local macro_rules | `(tactic| walk_at "binaryOp Mult int int") => `(tactic| (k_here; first | ((with_reducible refine Mine.mulL ?_ ?_ ?_); (omega); (omega)) | ((with_reducible refine Mine.mulR ?_ ?_ ?_); (omega); (omega))))
local macro_rules | `(tactic| walk_at "compareOp Eq int int") => `(tactic| (k_here; first | ((with_reducible refine Mine.eqY ?_ ?_); (omega)) | ((with_reducible refine Mine.eqN ?_ ?_); (omega))))
local macro_rules | `(tactic| walk_at "compareOp NotEq int int") => `(tactic| (k_here; first | ((with_reducible refine Mine.neY ?_ ?_); (omega)) | ((with_reducible refine Mine.neN ?_ ?_); (omega))))
local macro_rules | `(tactic| walk_at "compareOp Lt int int") => `(tactic| (k_here; first | ((with_reducible refine Mine.ltY ?_ ?_); (omega)) | ((with_reducible refine Mine.ltN ?_ ?_); (omega))))
local macro_rules | `(tactic| walk_at "compareOp GtE int int") => `(tactic| (k_here; first | ((with_reducible refine Mine.geY ?_ ?_); (omega)) | ((with_reducible refine Mine.geN ?_ ?_); (omega))))
local macro_rules | `(tactic| walk_at "truthy int") => `(tactic| (k_here; first | ((with_reducible refine Mine.truthyY ?_ ?_); (omega)) | ((with_reducible refine Mine.truthyN ?_ ?_); (omega))))
local macro_rules | `(tactic| walk_at "subscriptTail Name Constant ref int") => `(tactic| (k_here; k_dflt (refine' Mine.itemG ?k1 ?k2 ?k3 ?k4 ?k5 ?k6 ?_; (case k1 => k_asm); (case k2 => k_mem); (case k3 => decide); (case k4 => decide); (case k5 => rfl); (case k6 => rfl); k_whole)))
local macro_rules | `(tactic| k_room) => `(tactic| ktr_room)
local macro_rules | `(tactic| k_enter) => `(tactic| cell_enter)
local macro_rules | `(tactic| walk_at "KswEnd") => `(tactic| k_extra "KswEnd")
local macro_rules | `(tactic| walk_at "call ref") => `(tactic| (k_here; k_extra "call ref"))
local macro_rules | `(tactic| k_mem) => `(tactic| first | exact List.Mem.head _ | with_reducible assumption | (refine' List.mem_cons_of_mem _ ?_; k_mem))
local macro_rules | `(tactic| k_all) => `(tactic| first | exact Mine.allLt_ne (by assumption) | exact Mine.allLt_ne' (by assumption) | exact List.forall_mem_nil _ | (refine' List.forall_mem_cons.mpr ⟨?a, ?b⟩; (case a => k_ne); (case b => k_all)))
local macro_rules | `(tactic| ktr_room) => `(tactic| ((try simp only [depth_under_make, depth_under_kw, depth_in1, depth_deeper, depth_caller]); (try dsimp only [ktrTop, Around.deeper]); first | exact Mine.room3 (by with_reducible assumption) (by decide) | exact Mine.room2 (by with_reducible assumption) (by decide) | omega))
local macro_rules | `(tactic| ktr_units) => `(tactic| ((try simp only [units_in1, units_deeper, Around.mark_units, units_caller]); (try dsimp only [ktrTop, Around.deeper]); first | exact Mine.room3 (by with_reducible assumption) (by decide) | exact Mine.room2 (by with_reducible assumption) (by decide) | omega))
local macro_rules | `(tactic| k_units) => `(tactic| ((try dsimp only [ktrTop, Around.deeper, Around.in1]); (try simp only [cLine] at *); omega))
local macro_rules | `(tactic| walk_at "call ref") => `(tactic| (k_here; (with_reducible show wpAny _ _ (call (Value.ref 28) [Value.int _ _, Value.int _ _]) _ _ _); k_dflt (refine' Mine.call_use ?k1 ?k2 ?k3 ?k4 ?k5 ?kK (Mine.c_inv _ _ _ _ _ _ _ _ _ _ ?h1 ?h2 ?h3 ?h4) ?kd ?ku ?_; (case k1 => k_asm); (case k2 => k_asm); (case k3 => k_asm); (case k4 => k_asm); (case k5 => k_asm); (case kK => first | exact rfl | assumption); (case h1 => omega); (case h2 => omega); (case h3 => omega); (case h4 => assumption); (case kd => ktr_room); (case ku => ktr_units)); intro v9 v0' v1' v2' t9 h9 tk9 F9 N9; (try dsimp only); (try k_fold); (try k_sweep)))
local macro_rules | `(tactic| walk_at "call ref") => `(tactic| (k_here; (with_reducible show wpAny _ _ (call (Value.ref 112) [Value.int _ _, Value.int _ _]) _ _ _); k_dflt (refine' Mine.call_use ?k1 ?k2 ?k3 ?k4 ?k5 ?kK (Mine.c_pinv _ _ _ _ _ _ _ _ _ _ ?h1 ?h2 ?h3 ?h4) ?kd ?ku ?_; (case k1 => k_asm); (case k2 => k_asm); (case k3 => k_asm); (case k4 => k_asm); (case k5 => k_asm); (case kK => first | exact rfl | assumption); (case h1 => omega); (case h2 => omega); (case h3 => omega); (case h4 => assumption); (case kd => ktr_room); (case ku => ktr_units)); intro v9 v0' v1' v2' t9 h9 tk9 F9 N9; (try dsimp only); (try k_fold); (try k_sweep)))
local macro_rules | `(tactic| walk_at "binaryOp Div ref ref") => `(tactic| (k_here; (with_reducible show wpAny _ _ (binaryOp _ (Value.ref _) (Value.ref _)) _ _ _); k_dflt (refine' binop_K ?k1 ?k2 ?k3 ?k4 ?k5 ?k6 ?k7 ?_; (case k1 => k_asm); (case k2 => k_asm); (case k3 => k_inst); (case k4 => k_typeOf); (case k5 => k_is); (case k6 => k_is); (case k7 => k_is); k_whole)))
local macro_rules | `(tactic| walk_at "binaryOp Mult int ref") => `(tactic| (k_here; (with_reducible show wpAny _ _ (binaryOp _ (Value.int _ _) (Value.ref _)) _ _ _); k_dflt (refine' Mine.rmul_K ?k1 ?k2 ?k3 ?kp ?k4 ?k5 ?k6 ?k7 ?k8 ?_; (case k1 => k_asm); (case k2 => k_asm); (case k3 => k_inst); (case kp => rfl); (case k4 => k_is); (case k5 => k_is); (case k6 => k_is); (case k7 => k_is); (case k8 => k_is); k_whole)))
local macro_rules | `(tactic| walk_at "call ref") => `(tactic| (k_here; (with_reducible show wpAny _ _ (call (Value.ref 255) [Value.int _ _, Value.int _ _]) _ _ _); k_dflt (refine' Mine.call_use ?k1 ?k2 ?k3 ?k4 ?k5 ?kK (Mine.c_fq1 _ _ _ _ _ _ _ _ _ _ ?h1 ?h2) ?kd ?ku ?_; (case k1 => k_asm); (case k2 => k_asm); (case k3 => k_asm); (case k4 => k_asm); (case k5 => k_asm); (case kK => first | exact rfl | assumption); (case h1 => first | with_reducible assumption | omega); (case h2 => first | with_reducible assumption | omega); (case kd => ktr_room); (case ku => ktr_units)); intro n9 e9 b9 b9' x9 d9 k91 k92 t91 t92 h9 tk9 F9 N9; (try dsimp only); (try k_fold); (try k_sweep)))
local macro_rules | `(tactic| walk_at "call ref") => `(tactic| (k_here; (with_reducible show wpAny _ _ (call (Value.ref 417) [Value.int _ _, Value.int _ _]) _ _ _); k_dflt (refine' Mine.call_use ?k1 ?k2 ?k3 ?k4 ?k5 ?kK (Mine.c_fq2 _ _ _ _ _ _ _ _ _ _ ?h1 ?h2) ?kd ?ku ?_; (case k1 => k_asm); (case k2 => k_asm); (case k3 => k_asm); (case k4 => k_asm); (case k5 => k_asm); (case kK => first | exact rfl | assumption); (case h1 => first | with_reducible assumption | omega); (case h2 => first | with_reducible assumption | omega); (case kd => ktr_room); (case ku => ktr_units)); intro n9 e9 b9 b9' x9 d9 k91 k92 t91 t92 h9 tk9 F9 N9; (try dsimp only); (try k_fold); (try k_sweep)))
local macro_rules | `(tactic| walk_at "binaryOp Mult ref ref") => `(tactic| (k_here; (with_reducible show wpAny _ _ (binaryOp _ (Value.ref _) (Value.ref _)) _ _ _); k_dflt (refine' Mine.op_use ?k1 ?k2 ?k3 ?k4 ?k5 ?kK (Mine.c_mul1 _ _ _ _ _ _ ?hx ?hx2 ?hy ?hy2 ?hP ?hP2 ?ha ?ha2 ?hb ?hb2) ?kd ?ku ?_; (case k1 => k_asm); (case k2 => k_asm); (case k3 => k_asm); (case k4 => k_asm); (case k5 => k_asm); (case kK => first | exact rfl | assumption); (case hx => k_mem); (case hx2 => k_mem); (case hy => k_mem); (case hy2 => k_mem); (case hP => first | with_reducible assumption | omega); (case hP2 => first | with_reducible assumption | omega); (case ha => first | with_reducible assumption | omega); (case ha2 => first | with_reducible assumption | omega); (case hb => first | with_reducible assumption | omega); (case hb2 => first | with_reducible assumption | omega); (case kd => ktr_room); (case ku => ktr_units)); intro n9 e9 b9 b9' x9 d9 k91 k92 t91 t92 h9 tk9 F9 N9; (try dsimp only); (try k_fold); (try k_sweep)))
local macro_rules | `(tactic| walk_at "binaryOp Mult ref int") => `(tactic| (k_here; (with_reducible show wpAny _ _ (binaryOp _ (Value.ref _) (Value.int _ _)) _ _ _); k_dflt (refine' Mine.op_use ?k1 ?k2 ?k3 ?k4 ?k5 ?kK (Mine.c_mulI1 _ _ _ _ _ _ ?hx ?hx2 _ _ ?hP ?hP2 ?ha ?ha2) ?kd ?ku ?_; (case k1 => k_asm); (case k2 => k_asm); (case k3 => k_asm); (case k4 => k_asm); (case k5 => k_asm); (case kK => first | exact rfl | assumption); (case hx => k_mem); (case hx2 => k_mem); (case hP => first | with_reducible assumption | omega); (case hP2 => first | with_reducible assumption | omega); (case ha => first | with_reducible assumption | omega); (case ha2 => first | with_reducible assumption | omega); (case kd => ktr_room); (case ku => ktr_units)); intro n9 e9 b9 b9' x9 d9 k91 k92 t91 t92 h9 tk9 F9 N9; (try dsimp only); (try k_fold); (try k_sweep)))
local macro_rules | `(tactic| walk_at "binaryOp Sub ref ref") => `(tactic| (k_here; (with_reducible show wpAny _ _ (binaryOp _ (Value.ref _) (Value.ref _)) _ _ _); k_dflt (refine' Mine.op_use ?k1 ?k2 ?k3 ?k4 ?k5 ?kK (Mine.c_sub1 _ _ _ _ _ _ ?hx ?hx2 ?hy ?hy2 ?hP ?hP2 ?ha ?ha2 ?hb ?hb2) ?kd ?ku ?_; (case k1 => k_asm); (case k2 => k_asm); (case k3 => k_asm); (case k4 => k_asm); (case k5 => k_asm); (case kK => first | exact rfl | assumption); (case hx => k_mem); (case hx2 => k_mem); (case hy => k_mem); (case hy2 => k_mem); (case hP => first | with_reducible assumption | omega); (case hP2 => first | with_reducible assumption | omega); (case ha => first | with_reducible assumption | omega); (case ha2 => first | with_reducible assumption | omega); (case hb => first | with_reducible assumption | omega); (case hb2 => first | with_reducible assumption | omega); (case kd => ktr_room); (case ku => ktr_units)); intro n9 e9 b9 b9' x9 d9 k91 k92 t91 t92 h9 tk9 F9 N9; (try dsimp only); (try k_fold); (try k_sweep)))
local macro_rules | `(tactic| walk_at "binaryOp Add ref ref") => `(tactic| (k_here; (with_reducible show wpAny _ _ (binaryOp _ (Value.ref _) (Value.ref _)) _ _ _); k_dflt (refine' Mine.op_use ?k1 ?k2 ?k3 ?k4 ?k5 ?kK (Mine.c_add1 _ _ _ _ _ _ ?hx ?hx2 ?hy ?hy2 ?hP ?hP2 ?ha ?ha2 ?hb ?hb2) ?kd ?ku ?_; (case k1 => k_asm); (case k2 => k_asm); (case k3 => k_asm); (case k4 => k_asm); (case k5 => k_asm); (case kK => first | exact rfl | assumption); (case hx => k_mem); (case hx2 => k_mem); (case hy => k_mem); (case hy2 => k_mem); (case hP => first | with_reducible assumption | omega); (case hP2 => first | with_reducible assumption | omega); (case ha => first | with_reducible assumption | omega); (case ha2 => first | with_reducible assumption | omega); (case hb => first | with_reducible assumption | omega); (case hb2 => first | with_reducible assumption | omega); (case kd => ktr_room); (case ku => ktr_units)); intro n9 e9 b9 b9' x9 d9 k91 k92 t91 t92 h9 tk9 F9 N9; (try dsimp only); (try k_fold); (try k_sweep)))
local macro_rules | `(tactic| walk_at "unaryOp USub ref") => `(tactic| (k_here; (with_reducible show wpAny _ _ (unaryOp _ (Value.ref _)) _ _ _); k_dflt (refine' Mine.op_use ?k1 ?k2 ?k3 ?k4 ?k5 ?kK (Mine.c_neg1 _ _ _ _ _ _ ?hx ?hx2 ?hP ?hP2 ?ha ?ha2) ?kd ?ku ?_; (case k1 => k_asm); (case k2 => k_asm); (case k3 => k_asm); (case k4 => k_asm); (case k5 => k_asm); (case kK => first | exact rfl | assumption); (case hx => k_mem); (case hx2 => k_mem); (case hP => first | with_reducible assumption | omega); (case hP2 => first | with_reducible assumption | omega); (case ha => first | with_reducible assumption | omega); (case ha2 => first | with_reducible assumption | omega); (case kd => ktr_room); (case ku => ktr_units)); intro n9 e9 b9 b9' x9 d9 k91 k92 t91 t92 h9 tk9 F9 N9; (try dsimp only); (try k_fold); (try k_sweep)))
local macro_rules | `(tactic| walk_at "binaryOp Div ref ref") => `(tactic| (k_here; (with_reducible show wpAny _ _ (binaryOp _ (Value.ref _) (Value.ref _)) _ _ _); k_dflt (refine' Mine.op_use ?k1 ?k2 ?k3 ?k4 ?k5 ?kK (Mine.c_div1 _ _ _ _ _ _ ?hx ?hx2 ?hy ?hy2 ?hP ?hP2 ?ha ?ha2 ?hb ?hb2 ?hg) ?kd ?ku ?_; (case k1 => k_asm); (case k2 => k_asm); (case k3 => k_asm); (case k4 => k_asm); (case k5 => k_asm); (case kK => first | exact rfl | assumption); (case hx => k_mem); (case hx2 => k_mem); (case hy => k_mem); (case hy2 => k_mem); (case hP => first | with_reducible assumption | omega); (case hP2 => first | with_reducible assumption | omega); (case ha => first | with_reducible assumption | omega); (case ha2 => first | with_reducible assumption | omega); (case hb => first | with_reducible assumption | omega); (case hb2 => first | with_reducible assumption | omega); (case hg => first | assumption | k_extra "gcd"); (case kd => ktr_room); (case ku => ktr_units)); intro v9 n9 w9 e9 b9 b9' x9 d9 k91 k92 t91 t92 h9 tk9 F9 N9; (try dsimp only); (try k_fold); (try k_sweep)))
local macro_rules | `(tactic| walk_at "binaryOp Pow ref int") => `(tactic| (k_here; (with_reducible show wpAny _ _ (binaryOp _ (Value.ref _) (Value.int 1 _)) _ _ _); k_dflt (refine' Mine.op_use ?k1 ?k2 ?k3 ?k4 ?k5 ?kK (Mine.c_pw11 _ _ _ _ _ _ ?hx ?hx2 _ ?hP ?hP2 ?ha ?ha2) ?kd ?ku ?_; (case k1 => k_asm); (case k2 => k_asm); (case k3 => k_asm); (case k4 => k_asm); (case k5 => k_asm); (case kK => first | exact rfl | assumption); (case hx => k_mem); (case hx2 => k_mem); (case hP => first | with_reducible assumption | omega); (case hP2 => first | with_reducible assumption | omega); (case ha => first | with_reducible assumption | omega); (case ha2 => first | with_reducible assumption | omega); (case kd => ktr_room); (case ku => ktr_units)); intro n9 e9 b9 b9' x9 d9 k91 k92 t91 t92 h9 tk9 F9 N9; (try dsimp only); (try k_fold); (try k_sweep)))
local macro_rules | `(tactic| walk_at "compareOp Eq ref ref") => `(tactic| (k_here; (with_reducible show wpAny _ _ (compareOp _ (Value.ref _) (Value.ref _)) _ _ _); k_dflt (refine' Mine.op_use ?k1 ?k2 ?k3 ?k4 ?k5 ?kK (Mine.c_eqY1 _ _ _ _ _ _ ?hx ?hx2 ?hy ?hy2 ?he) ?kd ?ku ?_; (case k1 => k_asm); (case k2 => k_asm); (case k3 => k_asm); (case k4 => k_asm); (case k5 => k_asm); (case kK => first | exact rfl | assumption); (case hx => k_mem); (case hx2 => k_mem); (case hy => k_mem); (case hy2 => k_mem); (case he => first | omega | k_extra "eq"); (case kd => ktr_room); (case ku => ktr_units)); intro h9 tk9 F9 N9; (try dsimp only); (try k_fold); (try k_sweep)))
local macro_rules | `(tactic| walk_at "compareOp Eq ref ref") => `(tactic| (k_here; (with_reducible show wpAny _ _ (compareOp _ (Value.ref _) (Value.ref _)) _ _ _); k_dflt (refine' Mine.op_use ?k1 ?k2 ?k3 ?k4 ?k5 ?kK (Mine.c_eqN1 _ _ _ _ _ _ ?hx ?hx2 ?hy ?hy2 ?he) ?kd ?ku ?_; (case k1 => k_asm); (case k2 => k_asm); (case k3 => k_asm); (case k4 => k_asm); (case k5 => k_asm); (case kK => first | exact rfl | assumption); (case hx => k_mem); (case hx2 => k_mem); (case hy => k_mem); (case hy2 => k_mem); (case he => first | omega | k_extra "ne"); (case kd => ktr_room); (case ku => ktr_units)); intro h9 tk9 F9 N9; (try dsimp only); (try k_fold); (try k_sweep)))
namespace Mine
section
theorem eq2 {n q v : Int} (e : q = v) (f : n = q) : n = v := f.trans e
variable (w : World) (loo : List Str) (mean : ExcName → Option Value) (mg mb : Str → Option Value) (news : Led)
set_option maxRecDepth 100000 in
set_option maxHeartbeats 8000000 in
theorem c_rmul1 {x dx : Addr} {a0 P : Int} {k1 k2 t1 t2 : Tok} (hx : (x, instObj 255 dx) ∈ news) (hx2 : (dx, fqD w P a0 k1 k2 t1 t2) ∈ news) (j : Int) (tj : Tok) (hP : 5 ≤ P) (hP2 : P ≤ 127) (ha : 0 ≤ a0) (ha2 : a0 < P) :
    Op w loo mean mg mb (binaryOp .Mult (.int j tj) (.ref x)) 7 80 news (fun h₀ L m s Q => ∀ n : Int, n = a0 * j % P → 0 ≤ n → n < P → RetFq w 255 news P n h₀ L m s Q) := by
  unfold Op
  k_fill
  k_with_none
  intro dp un gd cn cs a ccd cl outer A₀ base h₀ L m s Q E B' F X' N' T hk hd hu hret
  w_strict (k_steps; all_goals exact hret _ (by assumption) (by assumption) (by assumption) _ _ _ _ _ _ _ _ (by assumption) (newsSub (by assumption) (fun _ hp => by rcases List.mem_cons.mp hp with rfl | hp; exact .head _; rcases List.mem_cons.mp hp with rfl | hp; exact .tail _ (.head _); simp only [List.mem_cons, hp, or_true])))
set_option maxRecDepth 100000 in
set_option maxHeartbeats 8000000 in
theorem c_pw21 {x dx : Addr} {a0 P : Int} {k1 k2 t1 t2 : Tok} (hx : (x, instObj 255 dx) ∈ news) (hx2 : (dx, fqD w P a0 k1 k2 t1 t2) ∈ news) (tj : Tok) (hP : 5 ≤ P) (hP2 : P ≤ 127) (ha : 0 ≤ a0) (ha2 : a0 < P) :
    Op w loo mean mg mb (binaryOp .Pow (.ref x) (.int 2 tj)) 9 100 news (fun h₀ L m s Q => ∀ n : Int, n = a0 * a0 % P → 0 ≤ n → n < P → RetFq w 255 news P n h₀ L m s Q) := by
  unfold Op
  k_fill
  k_with_none
  intro dp un gd cn cs a ccd cl outer A₀ base h₀ L m s Q E B' F X' N' T hk hd hu hret
  w_strict (k_steps; all_goals exact hret _ (by first | exact Mine.eq2 (by assumption) (by assumption) | exact Mine.mod2 (by assumption) (by assumption)) (by assumption) (by assumption) _ _ _ _ _ _ _ _ (by assumption) (newsSub (by assumption) (fun _ hp => by rcases List.mem_cons.mp hp with rfl | hp; exact .head _; rcases List.mem_cons.mp hp with rfl | hp; exact .tail _ (.head _); simp only [List.mem_cons, hp, or_true])))
end
end Mine
end
section
local macro_rules | `(tactic| walk_at "eval Name") => `(tactic| (k_here; name_kind "globalImplicit"; k_dflt (refine' nameX_K ?F ?X ?T ?e ?_ ?a ?b; (case F => k_asm); (case X => k_asm); (case T => k_asm); (case a => rfl); (case b => rfl); (case e => k_is); k_whole)))
local macro_rules | `(tactic| walk_at "eval Name") => `(tactic| (k_here; name_kind "local"; k_dflt (refine' nameX_L ?F ?v ?_ ?a ?b; (case F => k_asm); (case a => rfl); (case b => rfl); (case v => rfl); k_whole)))

local macro_rules | `(tactic| walk_at "binaryOp Mod int int") => `(tactic| (k_here; (with_reducible refine Mine.modG ?_ ?_); (omega); intro r' e' b0' b1'))
local macro_rules | `(tactic| walk_at "inplaceOp Mod int int") => `(tactic| (k_here; (with_reducible refine Mine.imodG ?_ ?_); (omega); intro r' e' b0' b1'))
local macro_rules | `(tactic| walk_at "binaryOp FloorDiv int int") => `(tactic| (k_here; (with_reducible refine Mine.fdivG ?_ ?_ ?_); (omega); (omega); intro r' e'))
local macro_rules | `(tactic| walk_at "binaryOp Pow int int") => `(tactic| (k_here; (with_reducible first | refine Mine.pow2G ?_ ?_ ?_ | refine Mine.pow3G ?_ ?_ ?_ | refine Mine.pow4G ?_ ?_ ?_); (omega); (omega)))
local macro_rules | `(tactic| walk_at "binaryOp Mult int int") => `(tactic| (k_here; first | ((with_reducible refine Mine.mulL ?_ ?_ ?_); (omega); (omega)) | ((with_reducible refine Mine.mulR ?_ ?_ ?_); (omega); (omega))))
local macro_rules | `(tactic| walk_at "compareOp Eq int int") => `(tactic| (k_here; first | ((with_reducible refine Mine.eqY ?_ ?_); (omega)) | ((with_reducible refine Mine.eqN ?_ ?_); (omega))))
local macro_rules | `(tactic| walk_at "compareOp NotEq int int") => `(tactic| (k_here; first | ((with_reducible refine Mine.neY ?_ ?_); (omega)) | ((with_reducible refine Mine.neN ?_ ?_); (omega))))
local macro_rules | `(tactic| walk_at "compareOp Lt int int") => `(tactic| (k_here; first | ((with_reducible refine Mine.ltY ?_ ?_); (omega)) | ((with_reducible refine Mine.ltN ?_ ?_); (omega))))
local macro_rules | `(tactic| walk_at "compareOp GtE int int") => `(tactic| (k_here; first | ((with_reducible refine Mine.geY ?_ ?_); (omega)) | ((with_reducible refine Mine.geN ?_ ?_); (omega))))
local macro_rules | `(tactic| walk_at "truthy int") => `(tactic| (k_here; first | ((with_reducible refine Mine.truthyY ?_ ?_); (omega)) | ((with_reducible refine Mine.truthyN ?_ ?_); (omega))))
local macro_rules | `(tactic| walk_at "subscriptTail Name Constant ref int") => `(tactic| (k_here; k_dflt (refine' Mine.itemG ?k1 ?k2 ?k3 ?k4 ?k5 ?k6 ?_; (case k1 => k_asm); (case k2 => k_mem); (case k3 => decide); (case k4 => decide); (case k5 => rfl); (case k6 => rfl); k_whole)))
local macro_rules | `(tactic| k_room) => `(tactic| ktr_room)
local macro_rules | `(tactic| k_enter) => `(tactic| cell_enter)
local macro_rules | `(tactic| walk_at "KswEnd") => `(tactic| k_extra "KswEnd")
local macro_rules | `(tactic| walk_at "call ref") => `(tactic| (k_here; k_extra "call ref"))
local macro_rules | `(tactic| k_mem) => `(tactic| first | exact List.Mem.head _ | with_reducible assumption | (refine' List.mem_cons_of_mem _ ?_; k_mem))
local macro_rules | `(tactic| k_all) => `(tactic| first | exact Mine.allLt_ne (by assumption) | exact Mine.allLt_ne' (by assumption) | exact List.forall_mem_nil _ | (refine' List.forall_mem_cons.mpr ⟨?a, ?b⟩; (case a => k_ne); (case b => k_all)))
local macro_rules | `(tactic| ktr_room) => `(tactic| ((try simp only [depth_under_make, depth_under_kw, depth_in1, depth_deeper, depth_caller]); (try dsimp only [ktrTop, Around.deeper]); first | exact Mine.room3 (by with_reducible assumption) (by decide) | exact Mine.room2 (by with_reducible assumption) (by decide) | omega))
local macro_rules | `(tactic| ktr_units) => `(tactic| ((try simp only [units_in1, units_deeper, Around.mark_units, units_caller]); (try dsimp only [ktrTop, Around.deeper]); first | exact Mine.room3 (by with_reducible assumption) (by decide) | exact Mine.room2 (by with_reducible assumption) (by decide) | omega))
local macro_rules | `(tactic| k_units) => `(tactic| ((try dsimp only [ktrTop, Around.deeper, Around.in1]); (try simp only [cLine] at *); omega))
local macro_rules | `(tactic| walk_at "call ref") => `(tactic| (k_here; (with_reducible show wpAny _ _ (call (Value.ref 28) [Value.int _ _, Value.int _ _]) _ _ _); k_dflt (refine' Mine.call_use ?k1 ?k2 ?k3 ?k4 ?k5 ?kK (Mine.c_inv _ _ _ _ _ _ _ _ _ _ ?h1 ?h2 ?h3 ?h4) ?kd ?ku ?_; (case k1 => k_asm); (case k2 => k_asm); (case k3 => k_asm); (case k4 => k_asm); (case k5 => k_asm); (case kK => first | exact rfl | assumption); (case h1 => omega); (case h2 => omega); (case h3 => omega); (case h4 => assumption); (case kd => ktr_room); (case ku => ktr_units)); intro v9 v0' v1' v2' t9 h9 tk9 F9 N9; (try dsimp only); (try k_fold); (try k_sweep)))
local macro_rules | `(tactic| walk_at "call ref") => `(tactic| (k_here; (with_reducible show wpAny _ _ (call (Value.ref 112) [Value.int _ _, Value.int _ _]) _ _ _); k_dflt (refine' Mine.call_use ?k1 ?k2 ?k3 ?k4 ?k5 ?kK (Mine.c_pinv _ _ _ _ _ _ _ _ _ _ ?h1 ?h2 ?h3 ?h4) ?kd ?ku ?_; (case k1 => k_asm); (case k2 => k_asm); (case k3 => k_asm); (case k4 => k_asm); (case k5 => k_asm); (case kK => first | exact rfl | assumption); (case h1 => omega); (case h2 => omega); (case h3 => omega); (case h4 => assumption); (case kd => ktr_room); (case ku => ktr_units)); intro v9 v0' v1' v2' t9 h9 tk9 F9 N9; (try dsimp only); (try k_fold); (try k_sweep)))
local macro_rules | `(tactic| walk_at "binaryOp Div ref ref") => `(tactic| (k_here; (with_reducible show wpAny _ _ (binaryOp _ (Value.ref _) (Value.ref _)) _ _ _); k_dflt (refine' binop_K ?k1 ?k2 ?k3 ?k4 ?k5 ?k6 ?k7 ?_; (case k1 => k_asm); (case k2 => k_asm); (case k3 => k_inst); (case k4 => k_typeOf); (case k5 => k_is); (case k6 => k_is); (case k7 => k_is); k_whole)))
local macro_rules | `(tactic| walk_at "binaryOp Mult int ref") => `(tactic| (k_here; (with_reducible show wpAny _ _ (binaryOp _ (Value.int _ _) (Value.ref _)) _ _ _); k_dflt (refine' Mine.rmul_K ?k1 ?k2 ?k3 ?kp ?k4 ?k5 ?k6 ?k7 ?k8 ?_; (case k1 => k_asm); (case k2 => k_asm); (case k3 => k_inst); (case kp => rfl); (case k4 => k_is); (case k5 => k_is); (case k6 => k_is); (case k7 => k_is); (case k8 => k_is); k_whole)))
local macro_rules | `(tactic| walk_at "call ref") => `(tactic| (k_here; (with_reducible show wpAny _ _ (call (Value.ref 255) [Value.int _ _, Value.int _ _]) _ _ _); k_dflt (refine' Mine.call_use ?k1 ?k2 ?k3 ?k4 ?k5 ?kK (Mine.c_fq1 _ _ _ _ _ _ _ _ _ _ ?h1 ?h2) ?kd ?ku ?_; (case k1 => k_asm); (case k2 => k_asm); (case k3 => k_asm); (case k4 => k_asm); (case k5 => k_asm); (case kK => first | exact rfl | assumption); (case h1 => first | with_reducible assumption | omega); (case h2 => first | with_reducible assumption | omega); (case kd => ktr_room); (case ku => ktr_units)); intro n9 e9 b9 b9' x9 d9 k91 k92 t91 t92 h9 tk9 F9 N9; (try dsimp only); (try k_fold); (try k_sweep)))
local macro_rules | `(tactic| walk_at "call ref") => `(tactic| (k_here; (with_reducible show wpAny _ _ (call (Value.ref 417) [Value.int _ _, Value.int _ _]) _ _ _); k_dflt (refine' Mine.call_use ?k1 ?k2 ?k3 ?k4 ?k5 ?kK (Mine.c_fq2 _ _ _ _ _ _ _ _ _ _ ?h1 ?h2) ?kd ?ku ?_; (case k1 => k_asm); (case k2 => k_asm); (case k3 => k_asm); (case k4 => k_asm); (case k5 => k_asm); (case kK => first | exact rfl | assumption); (case h1 => first | with_reducible assumption | omega); (case h2 => first | with_reducible assumption | omega); (case kd => ktr_room); (case ku => ktr_units)); intro n9 e9 b9 b9' x9 d9 k91 k92 t91 t92 h9 tk9 F9 N9; (try dsimp only); (try k_fold); (try k_sweep)))
local macro_rules | `(tactic| walk_at "binaryOp Mult ref ref") => `(tactic| (k_here; (with_reducible show wpAny _ _ (binaryOp _ (Value.ref _) (Value.ref _)) _ _ _); k_dflt (refine' Mine.op_use ?k1 ?k2 ?k3 ?k4 ?k5 ?kK (Mine.c_mul2 _ _ _ _ _ _ ?hx ?hx2 ?hy ?hy2 ?hP ?hP2 ?ha ?ha2 ?hb ?hb2) ?kd ?ku ?_; (case k1 => k_asm); (case k2 => k_asm); (case k3 => k_asm); (case k4 => k_asm); (case k5 => k_asm); (case kK => first | exact rfl | assumption); (case hx => k_mem); (case hx2 => k_mem); (case hy => k_mem); (case hy2 => k_mem); (case hP => first | with_reducible assumption | omega); (case hP2 => first | with_reducible assumption | omega); (case ha => first | with_reducible assumption | omega); (case ha2 => first | with_reducible assumption | omega); (case hb => first | with_reducible assumption | omega); (case hb2 => first | with_reducible assumption | omega); (case kd => ktr_room); (case ku => ktr_units)); intro n9 e9 b9 b9' x9 d9 k91 k92 t91 t92 h9 tk9 F9 N9; (try dsimp only); (try k_fold); (try k_sweep)))
local macro_rules | `(tactic| walk_at "binaryOp Mult ref int") => `(tactic| (k_here; (with_reducible show wpAny _ _ (binaryOp _ (Value.ref _) (Value.int _ _)) _ _ _); k_dflt (refine' Mine.op_use ?k1 ?k2 ?k3 ?k4 ?k5 ?kK (Mine.c_mulI2 _ _ _ _ _ _ ?hx ?hx2 _ _ ?hP ?hP2 ?ha ?ha2) ?kd ?ku ?_; (case k1 => k_asm); (case k2 => k_asm); (case k3 => k_asm); (case k4 => k_asm); (case k5 => k_asm); (case kK => first | exact rfl | assumption); (case hx => k_mem); (case hx2 => k_mem); (case hP => first | with_reducible assumption | omega); (case hP2 => first | with_reducible assumption | omega); (case ha => first | with_reducible assumption | omega); (case ha2 => first | with_reducible assumption | omega); (case kd => ktr_room); (case ku => ktr_units)); intro n9 e9 b9 b9' x9 d9 k91 k92 t91 t92 h9 tk9 F9 N9; (try dsimp only); (try k_fold); (try k_sweep)))
local macro_rules | `(tactic| walk_at "binaryOp Sub ref ref") => `(tactic| (k_here; (with_reducible show wpAny _ _ (binaryOp _ (Value.ref _) (Value.ref _)) _ _ _); k_dflt (refine' Mine.op_use ?k1 ?k2 ?k3 ?k4 ?k5 ?kK (Mine.c_sub2 _ _ _ _ _ _ ?hx ?hx2 ?hy ?hy2 ?hP ?hP2 ?ha ?ha2 ?hb ?hb2) ?kd ?ku ?_; (case k1 => k_asm); (case k2 => k_asm); (case k3 => k_asm); (case k4 => k_asm); (case k5 => k_asm); (case kK => first | exact rfl | assumption); (case hx => k_mem); (case hx2 => k_mem); (case hy => k_mem); (case hy2 => k_mem); (case hP => first | with_reducible assumption | omega); (case hP2 => first | with_reducible assumption | omega); (case ha => first | with_reducible assumption | omega); (case ha2 => first | with_reducible assumption | omega); (case hb => first | with_reducible assumption | omega); (case hb2 => first | with_reducible assumption | omega); (case kd => ktr_room); (case ku => ktr_units)); intro n9 e9 b9 b9' x9 d9 k91 k92 t91 t92 h9 tk9 F9 N9; (try dsimp only); (try k_fold); (try k_sweep)))
local macro_rules | `(tactic| walk_at "compareOp Eq ref ref") => `(tactic| (k_here; (with_reducible show wpAny _ _ (compareOp _ (Value.ref _) (Value.ref _)) _ _ _); k_dflt (refine' Mine.op_use ?k1 ?k2 ?k3 ?k4 ?k5 ?kK (Mine.c_eqY2 _ _ _ _ _ _ ?hx ?hx2 ?hy ?hy2 ?he) ?kd ?ku ?_; (case k1 => k_asm); (case k2 => k_asm); (case k3 => k_asm); (case k4 => k_asm); (case k5 => k_asm); (case kK => first | exact rfl | assumption); (case hx => k_mem); (case hx2 => k_mem); (case hy => k_mem); (case hy2 => k_mem); (case he => first | omega | k_extra "eq"); (case kd => ktr_room); (case ku => ktr_units)); intro h9 tk9 F9 N9; (try dsimp only); (try k_fold); (try k_sweep)))
local macro_rules | `(tactic| walk_at "compareOp Eq ref ref") => `(tactic| (k_here; (with_reducible show wpAny _ _ (compareOp _ (Value.ref _) (Value.ref _)) _ _ _); k_dflt (refine' Mine.op_use ?k1 ?k2 ?k3 ?k4 ?k5 ?kK (Mine.c_eqN2 _ _ _ _ _ _ ?hx ?hx2 ?hy ?hy2 ?he) ?kd ?ku ?_; (case k1 => k_asm); (case k2 => k_asm); (case k3 => k_asm); (case k4 => k_asm); (case k5 => k_asm); (case kK => first | exact rfl | assumption); (case hx => k_mem); (case hx2 => k_mem); (case hy => k_mem); (case hy2 => k_mem); (case he => first | omega | k_extra "ne"); (case kd => ktr_room); (case ku => ktr_units)); intro h9 tk9 F9 N9; (try dsimp only); (try k_fold); (try k_sweep)))
namespace Mine
section
variable (w : World) (loo : List Str) (mean : ExcName → Option Value) (mg mb : Str → Option Value) (news : Led)
set_option maxRecDepth 100000 in
set_option maxHeartbeats 8000000 in
theorem c_rmul2 {x dx : Addr} {a0 P : Int} {k1 k2 t1 t2 : Tok} (hx : (x, instObj 417 dx) ∈ news) (hx2 : (dx, fqD w P a0 k1 k2 t1 t2) ∈ news) (j : Int) (tj : Tok) (hP : 5 ≤ P) (hP2 : P ≤ 127) (ha : 0 ≤ a0) (ha2 : a0 < P) :
    Op w loo mean mg mb (binaryOp .Mult (.int j tj) (.ref x)) 7 80 news (fun h₀ L m s Q => ∀ n : Int, n = a0 * j % P → 0 ≤ n → n < P → RetFq w 417 news P n h₀ L m s Q) := by
  unfold Op
  k_fill
  k_with_none
  intro dp un gd cn cs a ccd cl outer A₀ base h₀ L m s Q E B' F X' N' T hk hd hu hret
  w_strict (k_steps; all_goals exact hret _ (by assumption) (by assumption) (by assumption) _ _ _ _ _ _ _ _ (by assumption) (newsSub (by assumption) (fun _ hp => by rcases List.mem_cons.mp hp with rfl | hp; exact .head _; rcases List.mem_cons.mp hp with rfl | hp; exact .tail _ (.head _); simp only [List.mem_cons, hp, or_true])))
end
end Mine
end
section
local macro_rules | `(tactic| walk_at "eval Name") => `(tactic| (k_here; name_kind "globalImplicit"; k_dflt (refine' nameX_K ?F ?X ?T ?e ?_ ?a ?b; (case F => k_asm); (case X => k_asm); (case T => k_asm); (case a => rfl); (case b => rfl); (case e => k_is); k_whole)))
local macro_rules | `(tactic| walk_at "eval Name") => `(tactic| (k_here; name_kind "local"; k_dflt (refine' nameX_L ?F ?v ?_ ?a ?b; (case F => k_asm); (case a => rfl); (case b => rfl); (case v => rfl); k_whole)))

local macro_rules | `(tactic| walk_at "binaryOp Mod int int") => `(tactic| (k_here; (with_reducible refine Mine.modG ?_ ?_); (omega); intro r' e' b0' b1'))
local macro_rules | `(tactic| walk_at "inplaceOp Mod int int") => `(tactic| (k_here; (with_reducible refine Mine.imodG ?_ ?_); (omega); intro r' e' b0' b1'))
local macro_rules | `(tactic| walk_at "binaryOp FloorDiv int int") => `(tactic| (k_here; (with_reducible refine Mine.fdivG ?_ ?_ ?_); (omega); (omega); intro r' e'))
local macro_rules | `(tactic| walk_at "binaryOp Pow int int") => `(tactic| (k_here; (with_reducible first | refine Mine.pow2G ?_ ?_ ?_ | refine Mine.pow3G ?_ ?_ ?_ | refine Mine.pow4G ?_ ?_ ?_); (omega); (omega)))
local macro_rules | `(tactic| walk_at "binaryOp Mult int int") => `(tactic| (k_here; first | ((with_reducible refine Mine.mulL ?_ ?_ ?_); (omega); (omega)) | ((with_reducible refine Mine.mulR ?_ ?_ ?_); (omega); (omega))))
local macro_rules | `(tactic| walk_at "compareOp Eq int int") => `(tactic| (k_here; first | ((with_reducible refine Mine.eqY ?_ ?_); (omega)) | ((with_reducible refine Mine.eqN ?_ ?_); (omega))))
local macro_rules | `(tactic| walk_at "compareOp NotEq int int") => `(tactic| (k_here; first | ((with_reducible refine Mine.neY ?_ ?_); (omega)) | ((with_reducible refine Mine.neN ?_ ?_); (omega))))
local macro_rules | `(tactic| walk_at "compareOp Lt int int") => `(tactic| (k_here; first | ((with_reducible refine Mine.ltY ?_ ?_); (omega)) | ((with_reducible refine Mine.ltN ?_ ?_); (omega))))
local macro_rules | `(tactic| walk_at "compareOp GtE int int") => `(tactic| (k_here; first | ((with_reducible refine Mine.geY ?_ ?_); (omega)) | ((with_reducible refine Mine.geN ?_ ?_); (omega))))
local macro_rules | `(tactic| walk_at "truthy int") => `(tactic| (k_here; first | ((with_reducible refine Mine.truthyY ?_ ?_); (omega)) | ((with_reducible refine Mine.truthyN ?_ ?_); (omega))))
local macro_rules | `(tactic| walk_at "subscriptTail Name Constant ref int") => `(tactic| (k_here; k_dflt (refine' Mine.itemG ?k1 ?k2 ?k3 ?k4 ?k5 ?k6 ?_; (case k1 => k_asm); (case k2 => k_mem); (case k3 => decide); (case k4 => decide); (case k5 => rfl); (case k6 => rfl); k_whole)))
local macro_rules | `(tactic| k_room) => `(tactic| ktr_room)
local macro_rules | `(tactic| k_enter) => `(tactic| cell_enter)
local macro_rules | `(tactic| walk_at "KswEnd") => `(tactic| k_extra "KswEnd")
local macro_rules | `(tactic| walk_at "call ref") => `(tactic| (k_here; k_extra "call ref"))
local macro_rules | `(tactic| k_mem) => `(tactic| first | exact List.Mem.head _ | with_reducible assumption | (refine' List.mem_cons_of_mem _ ?_; k_mem))
local macro_rules | `(tactic| k_all) => `(tactic| first | exact Mine.allLt_ne (by assumption) | exact Mine.allLt_ne' (by assumption) | exact List.forall_mem_nil _ | (refine' List.forall_mem_cons.mpr ⟨?a, ?b⟩; (case a => k_ne); (case b => k_all)))
local macro_rules | `(tactic| ktr_room) => `(tactic| ((try simp only [depth_under_make, depth_under_kw, depth_in1, depth_deeper, depth_caller]); (try dsimp only [ktrTop, Around.deeper]); first | exact Mine.room3 (by with_reducible assumption) (by decide) | exact Mine.room2 (by with_reducible assumption) (by decide) | omega))
local macro_rules | `(tactic| ktr_units) => `(tactic| ((try simp only [units_in1, units_deeper, Around.mark_units, units_caller]); (try dsimp only [ktrTop, Around.deeper]); first | exact Mine.room3 (by with_reducible assumption) (by decide) | exact Mine.room2 (by with_reducible assumption) (by decide) | omega))
local macro_rules | `(tactic| k_units) => `(tactic| ((try dsimp only [ktrTop, Around.deeper, Around.in1]); (try simp only [cLine] at *); omega))
local macro_rules | `(tactic| walk_at "call ref") => `(tactic| (k_here; (with_reducible show wpAny _ _ (call (Value.ref 28) [Value.int _ _, Value.int _ _]) _ _ _); k_dflt (refine' Mine.call_use ?k1 ?k2 ?k3 ?k4 ?k5 ?kK (Mine.c_inv _ _ _ _ _ _ _ _ _ _ ?h1 ?h2 ?h3 ?h4) ?kd ?ku ?_; (case k1 => k_asm); (case k2 => k_asm); (case k3 => k_asm); (case k4 => k_asm); (case k5 => k_asm); (case kK => first | exact rfl | assumption); (case h1 => omega); (case h2 => omega); (case h3 => omega); (case h4 => assumption); (case kd => ktr_room); (case ku => ktr_units)); intro v9 v0' v1' v2' t9 h9 tk9 F9 N9; (try dsimp only); (try k_fold); (try k_sweep)))
local macro_rules | `(tactic| walk_at "call ref") => `(tactic| (k_here; (with_reducible show wpAny _ _ (call (Value.ref 112) [Value.int _ _, Value.int _ _]) _ _ _); k_dflt (refine' Mine.call_use ?k1 ?k2 ?k3 ?k4 ?k5 ?kK (Mine.c_pinv _ _ _ _ _ _ _ _ _ _ ?h1 ?h2 ?h3 ?h4) ?kd ?ku ?_; (case k1 => k_asm); (case k2 => k_asm); (case k3 => k_asm); (case k4 => k_asm); (case k5 => k_asm); (case kK => first | exact rfl | assumption); (case h1 => omega); (case h2 => omega); (case h3 => omega); (case h4 => assumption); (case kd => ktr_room); (case ku => ktr_units)); intro v9 v0' v1' v2' t9 h9 tk9 F9 N9; (try dsimp only); (try k_fold); (try k_sweep)))
local macro_rules | `(tactic| walk_at "binaryOp Div ref ref") => `(tactic| (k_here; (with_reducible show wpAny _ _ (binaryOp _ (Value.ref _) (Value.ref _)) _ _ _); k_dflt (refine' binop_K ?k1 ?k2 ?k3 ?k4 ?k5 ?k6 ?k7 ?_; (case k1 => k_asm); (case k2 => k_asm); (case k3 => k_inst); (case k4 => k_typeOf); (case k5 => k_is); (case k6 => k_is); (case k7 => k_is); k_whole)))
local macro_rules | `(tactic| walk_at "binaryOp Mult int ref") => `(tactic| (k_here; (with_reducible show wpAny _ _ (binaryOp _ (Value.int _ _) (Value.ref _)) _ _ _); k_dflt (refine' Mine.rmul_K ?k1 ?k2 ?k3 ?kp ?k4 ?k5 ?k6 ?k7 ?k8 ?_; (case k1 => k_asm); (case k2 => k_asm); (case k3 => k_inst); (case kp => rfl); (case k4 => k_is); (case k5 => k_is); (case k6 => k_is); (case k7 => k_is); (case k8 => k_is); k_whole)))
local macro_rules | `(tactic| walk_at "call ref") => `(tactic| (k_here; (with_reducible show wpAny _ _ (call (Value.ref 255) [Value.int _ _, Value.int _ _]) _ _ _); k_dflt (refine' Mine.call_use ?k1 ?k2 ?k3 ?k4 ?k5 ?kK (Mine.c_fq1 _ _ _ _ _ _ _ _ _ _ ?h1 ?h2) ?kd ?ku ?_; (case k1 => k_asm); (case k2 => k_asm); (case k3 => k_asm); (case k4 => k_asm); (case k5 => k_asm); (case kK => first | exact rfl | assumption); (case h1 => first | with_reducible assumption | omega); (case h2 => first | with_reducible assumption | omega); (case kd => ktr_room); (case ku => ktr_units)); intro n9 e9 b9 b9' x9 d9 k91 k92 t91 t92 h9 tk9 F9 N9; (try dsimp only); (try k_fold); (try k_sweep)))
local macro_rules | `(tactic| walk_at "call ref") => `(tactic| (k_here; (with_reducible show wpAny _ _ (call (Value.ref 417) [Value.int _ _, Value.int _ _]) _ _ _); k_dflt (refine' Mine.call_use ?k1 ?k2 ?k3 ?k4 ?k5 ?kK (Mine.c_fq2 _ _ _ _ _ _ _ _ _ _ ?h1 ?h2) ?kd ?ku ?_; (case k1 => k_asm); (case k2 => k_asm); (case k3 => k_asm); (case k4 => k_asm); (case k5 => k_asm); (case kK => first | exact rfl | assumption); (case h1 => first | with_reducible assumption | omega); (case h2 => first | with_reducible assumption | omega); (case kd => ktr_room); (case ku => ktr_units)); intro n9 e9 b9 b9' x9 d9 k91 k92 t91 t92 h9 tk9 F9 N9; (try dsimp only); (try k_fold); (try k_sweep)))
local macro_rules | `(tactic| walk_at "binaryOp Mult ref ref") => `(tactic| (k_here; (with_reducible show wpAny _ _ (binaryOp _ (Value.ref _) (Value.ref _)) _ _ _); k_dflt (refine' Mine.op_use ?k1 ?k2 ?k3 ?k4 ?k5 ?kK (Mine.c_mul1 _ _ _ _ _ _ ?hx ?hx2 ?hy ?hy2 ?hP ?hP2 ?ha ?ha2 ?hb ?hb2) ?kd ?ku ?_; (case k1 => k_asm); (case k2 => k_asm); (case k3 => k_asm); (case k4 => k_asm); (case k5 => k_asm); (case kK => first | exact rfl | assumption); (case hx => k_mem); (case hx2 => k_mem); (case hy => k_mem); (case hy2 => k_mem); (case hP => first | with_reducible assumption | omega); (case hP2 => first | with_reducible assumption | omega); (case ha => first | with_reducible assumption | omega); (case ha2 => first | with_reducible assumption | omega); (case hb => first | with_reducible assumption | omega); (case hb2 => first | with_reducible assumption | omega); (case kd => ktr_room); (case ku => ktr_units)); intro n9 e9 b9 b9' x9 d9 k91 k92 t91 t92 h9 tk9 F9 N9; (try dsimp only); (try k_fold); (try k_sweep)))
local macro_rules | `(tactic| walk_at "binaryOp Mult ref int") => `(tactic| (k_here; (with_reducible show wpAny _ _ (binaryOp _ (Value.ref _) (Value.int _ _)) _ _ _); k_dflt (refine' Mine.op_use ?k1 ?k2 ?k3 ?k4 ?k5 ?kK (Mine.c_mulI1 _ _ _ _ _ _ ?hx ?hx2 _ _ ?hP ?hP2 ?ha ?ha2) ?kd ?ku ?_; (case k1 => k_asm); (case k2 => k_asm); (case k3 => k_asm); (case k4 => k_asm); (case k5 => k_asm); (case kK => first | exact rfl | assumption); (case hx => k_mem); (case hx2 => k_mem); (case hP => first | with_reducible assumption | omega); (case hP2 => first | with_reducible assumption | omega); (case ha => first | with_reducible assumption | omega); (case ha2 => first | with_reducible assumption | omega); (case kd => ktr_room); (case ku => ktr_units)); intro n9 e9 b9 b9' x9 d9 k91 k92 t91 t92 h9 tk9 F9 N9; (try dsimp only); (try k_fold); (try k_sweep)))
local macro_rules | `(tactic| walk_at "binaryOp Sub ref ref") => `(tactic| (k_here; (with_reducible show wpAny _ _ (binaryOp _ (Value.ref _) (Value.ref _)) _ _ _); k_dflt (refine' Mine.op_use ?k1 ?k2 ?k3 ?k4 ?k5 ?kK (Mine.c_sub1 _ _ _ _ _ _ ?hx ?hx2 ?hy ?hy2 ?hP ?hP2 ?ha ?ha2 ?hb ?hb2) ?kd ?ku ?_; (case k1 => k_asm); (case k2 => k_asm); (case k3 => k_asm); (case k4 => k_asm); (case k5 => k_asm); (case kK => first | exact rfl | assumption); (case hx => k_mem); (case hx2 => k_mem); (case hy => k_mem); (case hy2 => k_mem); (case hP => first | with_reducible assumption | omega); (case hP2 => first | with_reducible assumption | omega); (case ha => first | with_reducible assumption | omega); (case ha2 => first | with_reducible assumption | omega); (case hb => first | with_reducible assumption | omega); (case hb2 => first | with_reducible assumption | omega); (case kd => ktr_room); (case ku => ktr_units)); intro n9 e9 b9 b9' x9 d9 k91 k92 t91 t92 h9 tk9 F9 N9; (try dsimp only); (try k_fold); (try k_sweep)))
local macro_rules | `(tactic| walk_at "binaryOp Add ref ref") => `(tactic| (k_here; (with_reducible show wpAny _ _ (binaryOp _ (Value.ref _) (Value.ref _)) _ _ _); k_dflt (refine' Mine.op_use ?k1 ?k2 ?k3 ?k4 ?k5 ?kK (Mine.c_add1 _ _ _ _ _ _ ?hx ?hx2 ?hy ?hy2 ?hP ?hP2 ?ha ?ha2 ?hb ?hb2) ?kd ?ku ?_; (case k1 => k_asm); (case k2 => k_asm); (case k3 => k_asm); (case k4 => k_asm); (case k5 => k_asm); (case kK => first | exact rfl | assumption); (case hx => k_mem); (case hx2 => k_mem); (case hy => k_mem); (case hy2 => k_mem); (case hP => first | with_reducible assumption | omega); (case hP2 => first | with_reducible assumption | omega); (case ha => first | with_reducible assumption | omega); (case ha2 => first | with_reducible assumption | omega); (case hb => first | with_reducible assumption | omega); (case hb2 => first | with_reducible assumption | omega); (case kd => ktr_room); (case ku => ktr_units)); intro n9 e9 b9 b9' x9 d9 k91 k92 t91 t92 h9 tk9 F9 N9; (try dsimp only); (try k_fold); (try k_sweep)))
local macro_rules | `(tactic| walk_at "unaryOp USub ref") => `(tactic| (k_here; (with_reducible show wpAny _ _ (unaryOp _ (Value.ref _)) _ _ _); k_dflt (refine' Mine.op_use ?k1 ?k2 ?k3 ?k4 ?k5 ?kK (Mine.c_neg1 _ _ _ _ _ _ ?hx ?hx2 ?hP ?hP2 ?ha ?ha2) ?kd ?ku ?_; (case k1 => k_asm); (case k2 => k_asm); (case k3 => k_asm); (case k4 => k_asm); (case k5 => k_asm); (case kK => first | exact rfl | assumption); (case hx => k_mem); (case hx2 => k_mem); (case hP => first | with_reducible assumption | omega); (case hP2 => first | with_reducible assumption | omega); (case ha => first | with_reducible assumption | omega); (case ha2 => first | with_reducible assumption | omega); (case kd => ktr_room); (case ku => ktr_units)); intro n9 e9 b9 b9' x9 d9 k91 k92 t91 t92 h9 tk9 F9 N9; (try dsimp only); (try k_fold); (try k_sweep)))
local macro_rules | `(tactic| walk_at "binaryOp Div ref ref") => `(tactic| (k_here; (with_reducible show wpAny _ _ (binaryOp _ (Value.ref _) (Value.ref _)) _ _ _); k_dflt (refine' Mine.op_use ?k1 ?k2 ?k3 ?k4 ?k5 ?kK (Mine.c_div1 _ _ _ _ _ _ ?hx ?hx2 ?hy ?hy2 ?hP ?hP2 ?ha ?ha2 ?hb ?hb2 ?hg) ?kd ?ku ?_; (case k1 => k_asm); (case k2 => k_asm); (case k3 => k_asm); (case k4 => k_asm); (case k5 => k_asm); (case kK => first | exact rfl | assumption); (case hx => k_mem); (case hx2 => k_mem); (case hy => k_mem); (case hy2 => k_mem); (case hP => first | with_reducible assumption | omega); (case hP2 => first | with_reducible assumption | omega); (case ha => first | with_reducible assumption | omega); (case ha2 => first | with_reducible assumption | omega); (case hb => first | with_reducible assumption | omega); (case hb2 => first | with_reducible assumption | omega); (case hg => first | assumption | k_extra "gcd"); (case kd => ktr_room); (case ku => ktr_units)); intro v9 n9 w9 e9 b9 b9' x9 d9 k91 k92 t91 t92 h9 tk9 F9 N9; (try dsimp only); (try k_fold); (try k_sweep)))
local macro_rules | `(tactic| walk_at "binaryOp Pow ref int") => `(tactic| (k_here; (with_reducible show wpAny _ _ (binaryOp _ (Value.ref _) (Value.int 1 _)) _ _ _); k_dflt (refine' Mine.op_use ?k1 ?k2 ?k3 ?k4 ?k5 ?kK (Mine.c_pw11 _ _ _ _ _ _ ?hx ?hx2 _ ?hP ?hP2 ?ha ?ha2) ?kd ?ku ?_; (case k1 => k_asm); (case k2 => k_asm); (case k3 => k_asm); (case k4 => k_asm); (case k5 => k_asm); (case kK => first | exact rfl | assumption); (case hx => k_mem); (case hx2 => k_mem); (case hP => first | with_reducible assumption | omega); (case hP2 => first | with_reducible assumption | omega); (case ha => first | with_reducible assumption | omega); (case ha2 => first | with_reducible assumption | omega); (case kd => ktr_room); (case ku => ktr_units)); intro n9 e9 b9 b9' x9 d9 k91 k92 t91 t92 h9 tk9 F9 N9; (try dsimp only); (try k_fold); (try k_sweep)))
local macro_rules | `(tactic| walk_at "compareOp Eq ref ref") => `(tactic| (k_here; (with_reducible show wpAny _ _ (compareOp _ (Value.ref _) (Value.ref _)) _ _ _); k_dflt (refine' Mine.op_use ?k1 ?k2 ?k3 ?k4 ?k5 ?kK (Mine.c_eqY1 _ _ _ _ _ _ ?hx ?hx2 ?hy ?hy2 ?he) ?kd ?ku ?_; (case k1 => k_asm); (case k2 => k_asm); (case k3 => k_asm); (case k4 => k_asm); (case k5 => k_asm); (case kK => first | exact rfl | assumption); (case hx => k_mem); (case hx2 => k_mem); (case hy => k_mem); (case hy2 => k_mem); (case he => first | omega | k_extra "eq"); (case kd => ktr_room); (case ku => ktr_units)); intro h9 tk9 F9 N9; (try dsimp only); (try k_fold); (try k_sweep)))
local macro_rules | `(tactic| walk_at "compareOp Eq ref ref") => `(tactic| (k_here; (with_reducible show wpAny _ _ (compareOp _ (Value.ref _) (Value.ref _)) _ _ _); k_dflt (refine' Mine.op_use ?k1 ?k2 ?k3 ?k4 ?k5 ?kK (Mine.c_eqN1 _ _ _ _ _ _ ?hx ?hx2 ?hy ?hy2 ?he) ?kd ?ku ?_; (case k1 => k_asm); (case k2 => k_asm); (case k3 => k_asm); (case k4 => k_asm); (case k5 => k_asm); (case kK => first | exact rfl | assumption); (case hx => k_mem); (case hx2 => k_mem); (case hy => k_mem); (case hy2 => k_mem); (case he => first | omega | k_extra "ne"); (case kd => ktr_room); (case ku => ktr_units)); intro h9 tk9 F9 N9; (try dsimp only); (try k_fold); (try k_sweep)))
local macro_rules | `(tactic| walk_at "binaryOp Mult int ref") => `(tactic| (k_here; (with_reducible show wpAny _ _ (binaryOp _ (Value.int _ _) (Value.ref _)) _ _ _); k_dflt (refine' Mine.op_use ?k1 ?k2 ?k3 ?k4 ?k5 ?kK (Mine.c_rmul1 _ _ _ _ _ _ ?hx ?hx2 _ _ ?hP ?hP2 ?ha ?ha2) ?kd ?ku ?_; (case k1 => k_asm); (case k2 => k_asm); (case k3 => k_asm); (case k4 => k_asm); (case k5 => k_asm); (case kK => first | exact rfl | assumption); (case hx => k_mem); (case hx2 => k_mem); (case hP => first | with_reducible assumption | omega); (case hP2 => first | with_reducible assumption | omega); (case ha => first | with_reducible assumption | omega); (case ha2 => first | with_reducible assumption | omega); (case kd => ktr_room); (case ku => ktr_units)); intro n9 e9 b9 b9' x9 d9 k91 k92 t91 t92 h9 tk9 F9 N9; (try dsimp only); (try k_fold); (try k_sweep)))
local macro_rules | `(tactic| walk_at "binaryOp Pow ref int") => `(tactic| (k_here; (with_reducible show wpAny _ _ (binaryOp _ (Value.ref _) (Value.int 2 _)) _ _ _); k_dflt (refine' Mine.op_use ?k1 ?k2 ?k3 ?k4 ?k5 ?kK (Mine.c_pw21 _ _ _ _ _ _ ?hx ?hx2 _ ?hP ?hP2 ?ha ?ha2) ?kd ?ku ?_; (case k1 => k_asm); (case k2 => k_asm); (case k3 => k_asm); (case k4 => k_asm); (case k5 => k_asm); (case kK => first | exact rfl | assumption); (case hx => k_mem); (case hx2 => k_mem); (case hP => first | with_reducible assumption | omega); (case hP2 => first | with_reducible assumption | omega); (case ha => first | with_reducible assumption | omega); (case ha2 => first | with_reducible assumption | omega); (case kd => ktr_room); (case ku => ktr_units)); intro n9 e9 b9 b9' x9 d9 k91 k92 t91 t92 h9 tk9 F9 N9; (try dsimp only); (try k_fold); (try k_sweep)))
namespace Mine
section
variable (w : World) (loo : List Str) (mean : ExcName → Option Value) (mg mb : Str → Option Value) (news : Led) {C : Cv} (G : Good C)
include G
set_option maxRecDepth 100000 in
set_option maxHeartbeats 8000000 in
/-- bn128's double -/
theorem c_bdbl {i1 : Int} {p1 ax1 dx1 ay1 dy1 : Addr} {c1 : Nat} {k11 k21 t11 t21 l11 l21 s11 s21 : Tok} (hp1 : (p1, tupR2 ax1 ay1 c1) ∈ news) (hx1 : (ax1, instObj 255 dx1) ∈ news) (hX1 : (dx1, fqD w C.P (C.X i1) k11 k21 t11 t21) ∈ news) (hy1 : (ay1, instObj 255 dy1) ∈ news) (hY1 : (dy1, fqD w C.P (C.Y i1) l11 l21 s11 s21) ∈ news) (hi1 : i1 % C.N ≠ 0) :
    Call w loo mean mg mb 91 12 160 news [.ref p1] (RetA2 w news C.P (C.X (2 * i1)) (C.Y (2 * i1))) := by
  unfold Call
  k_fill
  k_with_none
  intro dp un gd cn cs a ccd cl outer A₀ base h₀ L m s Q E B' F X' N' T hk hd hu hret
  have p5 := G.p5
  have p127 := G.p127
  have vx01 := G.x0 i1
  have vx11 := G.x1 i1
  have vy01 := G.y0 i1
  have vy11 := G.y1 i1
  k_with "gcd" => exact G.gcd (by omega) (by omega)
  have q2 : C.Y i1 * 2 % C.P ≠ 0 := G.mul (G.Yn hi1) (G.sml (by decide) (by omega))
  refine wpAny_call ?_
  k_dflt cell_enter
  w_strict (k_steps; all_goals ((have hh := adbl_sem G hi1 (by with_reducible assumption) (by with_reducible assumption) (by with_reducible assumption) (by with_reducible assumption) (by with_reducible assumption) (by with_reducible assumption) (by with_reducible assumption) (by with_reducible assumption) (by with_reducible assumption) (by with_reducible assumption) (by with_reducible assumption) (by with_reducible assumption) (by with_reducible assumption) (by with_reducible assumption) (by with_reducible assumption) (by with_reducible assumption) (by with_reducible assumption)); (obtain ⟨z1, z2⟩ := hh); (subst z1 z2); exact hret _ _ _ _ _ _ _ _ _ _ _ _ _ _ _ _ (by assumption) (Mine.led5 (by assumption) (by k_mem) (by k_mem) (by k_mem) (by k_mem) (by k_mem) (fun _ hp => by simp only [List.mem_cons, hp, or_true]))))
set_option maxRecDepth 100000 in
set_option maxHeartbeats 8000000 in
/-- bn128's add of two points apart -/
theorem c_badd {i1 i2 : Int} {p1 ax1 dx1 ay1 dy1 : Addr} {c1 : Nat} {k11 k21 t11 t21 l11 l21 s11 s21 : Tok} {p2 ax2 dx2 ay2 dy2 : Addr} {c2 : Nat} {k12 k22 t12 t22 l12 l22 s12 s22 : Tok} (hp1 : (p1, tupR2 ax1 ay1 c1) ∈ news) (hx1 : (ax1, instObj 255 dx1) ∈ news) (hX1 : (dx1, fqD w C.P (C.X i1) k11 k21 t11 t21) ∈ news) (hy1 : (ay1, instObj 255 dy1) ∈ news) (hY1 : (dy1, fqD w C.P (C.Y i1) l11 l21 s11 s21) ∈ news) (hp2 : (p2, tupR2 ax2 ay2 c2) ∈ news) (hx2 : (ax2, instObj 255 dx2) ∈ news) (hX2 : (dx2, fqD w C.P (C.X i2) k12 k22 t12 t22) ∈ news) (hy2 : (ay2, instObj 255 dy2) ∈ news) (hY2 : (dy2, fqD w C.P (C.Y i2) l12 l22 s12 s22) ∈ news) (hi1 : i1 % C.N ≠ 0) (hi2 : i2 % C.N ≠ 0) (hij : i1 % C.N ≠ i2 % C.N) (hs : (i1 + i2) % C.N ≠ 0) :
    Call w loo mean mg mb 98 12 160 news [.ref p1, .ref p2] (RetA2 w news C.P (C.X (i1 + i2)) (C.Y (i1 + i2))) := by
  unfold Call
  k_fill
  k_with_none
  intro dp un gd cn cs a ccd cl outer A₀ base h₀ L m s Q E B' F X' N' T hk hd hu hret
  have p5 := G.p5
  have p127 := G.p127
  have vx01 := G.x0 i1
  have vx11 := G.x1 i1
  have vy01 := G.y0 i1
  have vy11 := G.y1 i1
  have vx02 := G.x0 i2
  have vx12 := G.x1 i2
  have vy02 := G.y0 i2
  have vy12 := G.y1 i2
  k_with "gcd" => exact G.gcd (by omega) (by omega)
  have nX := G.neX i1 i2 hi1 hi2 hij hs
  have q2 : (C.X i2 - C.X i1) % C.P ≠ 0 := mod_ne vx02 vx12 vx01 vx11 (Ne.symm nX)
  k_with "eq" => ((have hh := aadd_sem G hi1 hi2 hij hs (by with_reducible assumption) (by with_reducible assumption) (by with_reducible assumption) (by with_reducible assumption) (by with_reducible assumption) (by with_reducible assumption) (by with_reducible assumption) (by with_reducible assumption) (by with_reducible assumption) (by with_reducible assumption) (by with_reducible assumption) (by with_reducible assumption) (by with_reducible assumption) (by with_reducible assumption) (by with_reducible assumption) (by with_reducible assumption) (by with_reducible assumption) (by with_reducible assumption) (by with_reducible assumption) (by with_reducible assumption) (by with_reducible assumption) (by with_reducible assumption) (by with_reducible assumption)); exact hh.2.1.trans hh.2.2.symm)
  refine wpAny_call ?_
  k_dflt cell_enter
  w_strict (k_steps; all_goals ((have hh := aadd_sem G hi1 hi2 hij hs (by with_reducible assumption) (by with_reducible assumption) (by with_reducible assumption) (by with_reducible assumption) (by with_reducible assumption) (by with_reducible assumption) (by with_reducible assumption) (by with_reducible assumption) (by with_reducible assumption) (by with_reducible assumption) (by with_reducible assumption) (by with_reducible assumption) (by with_reducible assumption) (by with_reducible assumption) (by with_reducible assumption) (by with_reducible assumption) (by with_reducible assumption) (by with_reducible assumption) (by with_reducible assumption) (by with_reducible assumption) (by with_reducible assumption) (by with_reducible assumption) (by with_reducible assumption)); (obtain ⟨z1, z2, z3⟩ := hh); (subst z1 z2); exact hret _ _ _ _ _ _ _ _ _ _ _ _ _ _ _ _ (by assumption) (Mine.led5 (by assumption) (by k_mem) (by k_mem) (by k_mem) (by k_mem) (by k_mem) (fun _ hp => by simp only [List.mem_cons, hp, or_true]))))
set_option maxRecDepth 100000 in
set_option maxHeartbeats 8000000 in
/-- bn128's add of a point and its negative -/
theorem c_badd0 {i1 i2 : Int} {p1 ax1 dx1 ay1 dy1 : Addr} {c1 : Nat} {k11 k21 t11 t21 l11 l21 s11 s21 : Tok} {p2 ax2 dx2 ay2 dy2 : Addr} {c2 : Nat} {k12 k22 t12 t22 l12 l22 s12 s22 : Tok} (hp1 : (p1, tupR2 ax1 ay1 c1) ∈ news) (hx1 : (ax1, instObj 255 dx1) ∈ news) (hX1 : (dx1, fqD w C.P (C.X i1) k11 k21 t11 t21) ∈ news) (hy1 : (ay1, instObj 255 dy1) ∈ news) (hY1 : (dy1, fqD w C.P (C.Y i1) l11 l21 s11 s21) ∈ news) (hp2 : (p2, tupR2 ax2 ay2 c2) ∈ news) (hx2 : (ax2, instObj 255 dx2) ∈ news) (hX2 : (dx2, fqD w C.P (C.X i2) k12 k22 t12 t22) ∈ news) (hy2 : (ay2, instObj 255 dy2) ∈ news) (hY2 : (dy2, fqD w C.P (C.Y i2) l12 l22 s12 s22) ∈ news) (hi1 : i1 % C.N ≠ 0) (hs : (i1 + i2) % C.N = 0) :
    Call w loo mean mg mb 98 12 160 news [.ref p1, .ref p2] (RetNone news) := by
  unfold Call
  k_fill
  k_with_none
  intro dp un gd cn cs a ccd cl outer A₀ base h₀ L m s Q E B' F X' N' T hk hd hu hret
  have p5 := G.p5
  have p127 := G.p127
  have vx01 := G.x0 i1
  have vx11 := G.x1 i1
  have vy01 := G.y0 i1
  have vy11 := G.y1 i1
  have vx02 := G.x0 i2
  have vx12 := G.x1 i2
  have vy02 := G.y0 i2
  have vy12 := G.y1 i2
  obtain ⟨nX, nY⟩ := G.ng i1 i2 hi1 hs
  refine wpAny_call ?_
  k_dflt cell_enter
  w_strict (k_steps; all_goals exact hret _ _ (by assumption) (by assumption))
end
end Mine
end
section
local macro_rules | `(tactic| walk_at "eval Name") => `(tactic| (k_here; name_kind "globalImplicit"; k_dflt (refine' nameX_K ?F ?X ?T ?e ?_ ?a ?b; (case F => k_asm); (case X => k_asm); (case T => k_asm); (case a => rfl); (case b => rfl); (case e => k_is); k_whole)))
local macro_rules | `(tactic| walk_at "eval Name") => `(tactic| (k_here; name_kind "local"; k_dflt (refine' nameX_L ?F ?v ?_ ?a ?b; (case F => k_asm); (case a => rfl); (case b => rfl); (case v => rfl); k_whole)))

local macro_rules | `(tactic| walk_at "binaryOp Mod int int") => `(tactic| (k_here; (with_reducible refine Mine.modG ?_ ?_); (omega); intro r' e' b0' b1'))
local macro_rules | `(tactic| walk_at "inplaceOp Mod int int") => `(tactic| (k_here; (with_reducible refine Mine.imodG ?_ ?_); (omega); intro r' e' b0' b1'))
local macro_rules | `(tactic| walk_at "binaryOp FloorDiv int int") => `(tactic| (k_here; (with_reducible refine Mine.fdivG ?_ ?_ ?_); (omega); (omega); intro r' e'))
local macro_rules | `(tactic| walk_at "binaryOp Pow int int") => `(tactic| (k_here; (with_reducible first | refine Mine.pow2G ?_ ?_ ?_ | refine Mine.pow3G ?_ ?_ ?_ | refine Mine.pow4G ?_ ?_ ?_); (omega); (omega)))
local macro_rules | `(tactic| walk_at "binaryOp Mult int int") => `(tactic| (k_here; first | ((with_reducible refine Mine.mulL ?_ ?_ ?_); (omega); (omega)) | ((with_reducible refine Mine.mulR ?_ ?_ ?_); (omega); (omega))))
local macro_rules | `(tactic| walk_at "compareOp Eq int int") => `(tactic| (k_here; first | ((with_reducible refine Mine.eqY ?_ ?_); (omega)) | ((with_reducible refine Mine.eqN ?_ ?_); (omega))))
local macro_rules | `(tactic| walk_at "compareOp NotEq int int") => `(tactic| (k_here; first | ((with_reducible refine Mine.neY ?_ ?_); (omega)) | ((with_reducible refine Mine.neN ?_ ?_); (omega))))
local macro_rules | `(tactic| walk_at "compareOp Lt int int") => `(tactic| (k_here; first | ((with_reducible refine Mine.ltY ?_ ?_); (omega)) | ((with_reducible refine Mine.ltN ?_ ?_); (omega))))
local macro_rules | `(tactic| walk_at "compareOp GtE int int") => `(tactic| (k_here; first | ((with_reducible refine Mine.geY ?_ ?_); (omega)) | ((with_reducible refine Mine.geN ?_ ?_); (omega))))
local macro_rules | `(tactic| walk_at "truthy int") => `(tactic| (k_here; first | ((with_reducible refine Mine.truthyY ?_ ?_); (omega)) | ((with_reducible refine Mine.truthyN ?_ ?_); (omega))))
local macro_rules | `(tactic| walk_at "subscriptTail Name Constant ref int") => `(tactic| (k_here; k_dflt (refine' Mine.itemG ?k1 ?k2 ?k3 ?k4 ?k5 ?k6 ?_; (case k1 => k_asm); (case k2 => k_mem); (case k3 => decide); (case k4 => decide); (case k5 => rfl); (case k6 => rfl); k_whole)))
local macro_rules | `(tactic| k_room) => `(tactic| ktr_room)
local macro_rules | `(tactic| k_enter) => `(tactic| cell_enter)
local macro_rules | `(tactic| walk_at "KswEnd") => `(tactic| k_extra "KswEnd")
local macro_rules | `(tactic| walk_at "call ref") => `(tactic| (k_here; k_extra "call ref"))
local macro_rules | `(tactic| k_mem) => `(tactic| first | exact List.Mem.head _ | with_reducible assumption | (refine' List.mem_cons_of_mem _ ?_; k_mem))
local macro_rules | `(tactic| k_all) => `(tactic| first | exact Mine.allLt_ne (by assumption) | exact Mine.allLt_ne' (by assumption) | exact List.forall_mem_nil _ | (refine' List.forall_mem_cons.mpr ⟨?a, ?b⟩; (case a => k_ne); (case b => k_all)))
local macro_rules | `(tactic| ktr_room) => `(tactic| ((try simp only [depth_under_make, depth_under_kw, depth_in1, depth_deeper, depth_caller]); (try dsimp only [ktrTop, Around.deeper]); first | exact Mine.room3 (by with_reducible assumption) (by decide) | exact Mine.room2 (by with_reducible assumption) (by decide) | omega))
local macro_rules | `(tactic| ktr_units) => `(tactic| ((try simp only [units_in1, units_deeper, Around.mark_units, units_caller]); (try dsimp only [ktrTop, Around.deeper]); first | exact Mine.room3 (by with_reducible assumption) (by decide) | exact Mine.room2 (by with_reducible assumption) (by decide) | omega))
local macro_rules | `(tactic| k_units) => `(tactic| ((try dsimp only [ktrTop, Around.deeper, Around.in1]); (try simp only [cLine] at *); omega))
local macro_rules | `(tactic| walk_at "call ref") => `(tactic| (k_here; (with_reducible show wpAny _ _ (call (Value.ref 28) [Value.int _ _, Value.int _ _]) _ _ _); k_dflt (refine' Mine.call_use ?k1 ?k2 ?k3 ?k4 ?k5 ?kK (Mine.c_inv _ _ _ _ _ _ _ _ _ _ ?h1 ?h2 ?h3 ?h4) ?kd ?ku ?_; (case k1 => k_asm); (case k2 => k_asm); (case k3 => k_asm); (case k4 => k_asm); (case k5 => k_asm); (case kK => first | exact rfl | assumption); (case h1 => omega); (case h2 => omega); (case h3 => omega); (case h4 => assumption); (case kd => ktr_room); (case ku => ktr_units)); intro v9 v0' v1' v2' t9 h9 tk9 F9 N9; (try dsimp only); (try k_fold); (try k_sweep)))
local macro_rules | `(tactic| walk_at "call ref") => `(tactic| (k_here; (with_reducible show wpAny _ _ (call (Value.ref 112) [Value.int _ _, Value.int _ _]) _ _ _); k_dflt (refine' Mine.call_use ?k1 ?k2 ?k3 ?k4 ?k5 ?kK (Mine.c_pinv _ _ _ _ _ _ _ _ _ _ ?h1 ?h2 ?h3 ?h4) ?kd ?ku ?_; (case k1 => k_asm); (case k2 => k_asm); (case k3 => k_asm); (case k4 => k_asm); (case k5 => k_asm); (case kK => first | exact rfl | assumption); (case h1 => omega); (case h2 => omega); (case h3 => omega); (case h4 => assumption); (case kd => ktr_room); (case ku => ktr_units)); intro v9 v0' v1' v2' t9 h9 tk9 F9 N9; (try dsimp only); (try k_fold); (try k_sweep)))
local macro_rules | `(tactic| walk_at "binaryOp Div ref ref") => `(tactic| (k_here; (with_reducible show wpAny _ _ (binaryOp _ (Value.ref _) (Value.ref _)) _ _ _); k_dflt (refine' binop_K ?k1 ?k2 ?k3 ?k4 ?k5 ?k6 ?k7 ?_; (case k1 => k_asm); (case k2 => k_asm); (case k3 => k_inst); (case k4 => k_typeOf); (case k5 => k_is); (case k6 => k_is); (case k7 => k_is); k_whole)))
local macro_rules | `(tactic| walk_at "binaryOp Mult int ref") => `(tactic| (k_here; (with_reducible show wpAny _ _ (binaryOp _ (Value.int _ _) (Value.ref _)) _ _ _); k_dflt (refine' Mine.rmul_K ?k1 ?k2 ?k3 ?kp ?k4 ?k5 ?k6 ?k7 ?k8 ?_; (case k1 => k_asm); (case k2 => k_asm); (case k3 => k_inst); (case kp => rfl); (case k4 => k_is); (case k5 => k_is); (case k6 => k_is); (case k7 => k_is); (case k8 => k_is); k_whole)))
local macro_rules | `(tactic| walk_at "call ref") => `(tactic| (k_here; (with_reducible show wpAny _ _ (call (Value.ref 255) [Value.int _ _, Value.int _ _]) _ _ _); k_dflt (refine' Mine.call_use ?k1 ?k2 ?k3 ?k4 ?k5 ?kK (Mine.c_fq1 _ _ _ _ _ _ _ _ _ _ ?h1 ?h2) ?kd ?ku ?_; (case k1 => k_asm); (case k2 => k_asm); (case k3 => k_asm); (case k4 => k_asm); (case k5 => k_asm); (case kK => first | exact rfl | assumption); (case h1 => first | with_reducible assumption | omega); (case h2 => first | with_reducible assumption | omega); (case kd => ktr_room); (case ku => ktr_units)); intro n9 e9 b9 b9' x9 d9 k91 k92 t91 t92 h9 tk9 F9 N9; (try dsimp only); (try k_fold); (try k_sweep)))
local macro_rules | `(tactic| walk_at "call ref") => `(tactic| (k_here; (with_reducible show wpAny _ _ (call (Value.ref 417) [Value.int _ _, Value.int _ _]) _ _ _); k_dflt (refine' Mine.call_use ?k1 ?k2 ?k3 ?k4 ?k5 ?kK (Mine.c_fq2 _ _ _ _ _ _ _ _ _ _ ?h1 ?h2) ?kd ?ku ?_; (case k1 => k_asm); (case k2 => k_asm); (case k3 => k_asm); (case k4 => k_asm); (case k5 => k_asm); (case kK => first | exact rfl | assumption); (case h1 => first | with_reducible assumption | omega); (case h2 => first | with_reducible assumption | omega); (case kd => ktr_room); (case ku => ktr_units)); intro n9 e9 b9 b9' x9 d9 k91 k92 t91 t92 h9 tk9 F9 N9; (try dsimp only); (try k_fold); (try k_sweep)))
local macro_rules | `(tactic| walk_at "binaryOp Mult ref ref") => `(tactic| (k_here; (with_reducible show wpAny _ _ (binaryOp _ (Value.ref _) (Value.ref _)) _ _ _); k_dflt (refine' Mine.op_use ?k1 ?k2 ?k3 ?k4 ?k5 ?kK (Mine.c_mul1 _ _ _ _ _ _ ?hx ?hx2 ?hy ?hy2 ?hP ?hP2 ?ha ?ha2 ?hb ?hb2) ?kd ?ku ?_; (case k1 => k_asm); (case k2 => k_asm); (case k3 => k_asm); (case k4 => k_asm); (case k5 => k_asm); (case kK => first | exact rfl | assumption); (case hx => k_mem); (case hx2 => k_mem); (case hy => k_mem); (case hy2 => k_mem); (case hP => first | with_reducible assumption | omega); (case hP2 => first | with_reducible assumption | omega); (case ha => first | with_reducible assumption | omega); (case ha2 => first | with_reducible assumption | omega); (case hb => first | with_reducible assumption | omega); (case hb2 => first | with_reducible assumption | omega); (case kd => ktr_room); (case ku => ktr_units)); intro n9 e9 b9 b9' x9 d9 k91 k92 t91 t92 h9 tk9 F9 N9; (try dsimp only); (try k_fold); (try k_sweep)))
local macro_rules | `(tactic| walk_at "binaryOp Mult ref int") => `(tactic| (k_here; (with_reducible show wpAny _ _ (binaryOp _ (Value.ref _) (Value.int _ _)) _ _ _); k_dflt (refine' Mine.op_use ?k1 ?k2 ?k3 ?k4 ?k5 ?kK (Mine.c_mulI1 _ _ _ _ _ _ ?hx ?hx2 _ _ ?hP ?hP2 ?ha ?ha2) ?kd ?ku ?_; (case k1 => k_asm); (case k2 => k_asm); (case k3 => k_asm); (case k4 => k_asm); (case k5 => k_asm); (case kK => first | exact rfl | assumption); (case hx => k_mem); (case hx2 => k_mem); (case hP => first | with_reducible assumption | omega); (case hP2 => first | with_reducible assumption | omega); (case ha => first | with_reducible assumption | omega); (case ha2 => first | with_reducible assumption | omega); (case kd => ktr_room); (case ku => ktr_units)); intro n9 e9 b9 b9' x9 d9 k91 k92 t91 t92 h9 tk9 F9 N9; (try dsimp only); (try k_fold); (try k_sweep)))
local macro_rules | `(tactic| walk_at "binaryOp Sub ref ref") => `(tactic| (k_here; (with_reducible show wpAny _ _ (binaryOp _ (Value.ref _) (Value.ref _)) _ _ _); k_dflt (refine' Mine.op_use ?k1 ?k2 ?k3 ?k4 ?k5 ?kK (Mine.c_sub1 _ _ _ _ _ _ ?hx ?hx2 ?hy ?hy2 ?hP ?hP2 ?ha ?ha2 ?hb ?hb2) ?kd ?ku ?_; (case k1 => k_asm); (case k2 => k_asm); (case k3 => k_asm); (case k4 => k_asm); (case k5 => k_asm); (case kK => first | exact rfl | assumption); (case hx => k_mem); (case hx2 => k_mem); (case hy => k_mem); (case hy2 => k_mem); (case hP => first | with_reducible assumption | omega); (case hP2 => first | with_reducible assumption | omega); (case ha => first | with_reducible assumption | omega); (case ha2 => first | with_reducible assumption | omega); (case hb => first | with_reducible assumption | omega); (case hb2 => first | with_reducible assumption | omega); (case kd => ktr_room); (case ku => ktr_units)); intro n9 e9 b9 b9' x9 d9 k91 k92 t91 t92 h9 tk9 F9 N9; (try dsimp only); (try k_fold); (try k_sweep)))
local macro_rules | `(tactic| walk_at "binaryOp Add ref ref") => `(tactic| (k_here; (with_reducible show wpAny _ _ (binaryOp _ (Value.ref _) (Value.ref _)) _ _ _); k_dflt (refine' Mine.op_use ?k1 ?k2 ?k3 ?k4 ?k5 ?kK (Mine.c_add1 _ _ _ _ _ _ ?hx ?hx2 ?hy ?hy2 ?hP ?hP2 ?ha ?ha2 ?hb ?hb2) ?kd ?ku ?_; (case k1 => k_asm); (case k2 => k_asm); (case k3 => k_asm); (case k4 => k_asm); (case k5 => k_asm); (case kK => first | exact rfl | assumption); (case hx => k_mem); (case hx2 => k_mem); (case hy => k_mem); (case hy2 => k_mem); (case hP => first | with_reducible assumption | omega); (case hP2 => first | with_reducible assumption | omega); (case ha => first | with_reducible assumption | omega); (case ha2 => first | with_reducible assumption | omega); (case hb => first | with_reducible assumption | omega); (case hb2 => first | with_reducible assumption | omega); (case kd => ktr_room); (case ku => ktr_units)); intro n9 e9 b9 b9' x9 d9 k91 k92 t91 t92 h9 tk9 F9 N9; (try dsimp only); (try k_fold); (try k_sweep)))
local macro_rules | `(tactic| walk_at "unaryOp USub ref") => `(tactic| (k_here; (with_reducible show wpAny _ _ (unaryOp _ (Value.ref _)) _ _ _); k_dflt (refine' Mine.op_use ?k1 ?k2 ?k3 ?k4 ?k5 ?kK (Mine.c_neg1 _ _ _ _ _ _ ?hx ?hx2 ?hP ?hP2 ?ha ?ha2) ?kd ?ku ?_; (case k1 => k_asm); (case k2 => k_asm); (case k3 => k_asm); (case k4 => k_asm); (case k5 => k_asm); (case kK => first | exact rfl | assumption); (case hx => k_mem); (case hx2 => k_mem); (case hP => first | with_reducible assumption | omega); (case hP2 => first | with_reducible assumption | omega); (case ha => first | with_reducible assumption | omega); (case ha2 => first | with_reducible assumption | omega); (case kd => ktr_room); (case ku => ktr_units)); intro n9 e9 b9 b9' x9 d9 k91 k92 t91 t92 h9 tk9 F9 N9; (try dsimp only); (try k_fold); (try k_sweep)))
local macro_rules | `(tactic| walk_at "binaryOp Div ref ref") => `(tactic| (k_here; (with_reducible show wpAny _ _ (binaryOp _ (Value.ref _) (Value.ref _)) _ _ _); k_dflt (refine' Mine.op_use ?k1 ?k2 ?k3 ?k4 ?k5 ?kK (Mine.c_div1 _ _ _ _ _ _ ?hx ?hx2 ?hy ?hy2 ?hP ?hP2 ?ha ?ha2 ?hb ?hb2 ?hg) ?kd ?ku ?_; (case k1 => k_asm); (case k2 => k_asm); (case k3 => k_asm); (case k4 => k_asm); (case k5 => k_asm); (case kK => first | exact rfl | assumption); (case hx => k_mem); (case hx2 => k_mem); (case hy => k_mem); (case hy2 => k_mem); (case hP => first | with_reducible assumption | omega); (case hP2 => first | with_reducible assumption | omega); (case ha => first | with_reducible assumption | omega); (case ha2 => first | with_reducible assumption | omega); (case hb => first | with_reducible assumption | omega); (case hb2 => first | with_reducible assumption | omega); (case hg => first | assumption | k_extra "gcd"); (case kd => ktr_room); (case ku => ktr_units)); intro v9 n9 w9 e9 b9 b9' x9 d9 k91 k92 t91 t92 h9 tk9 F9 N9; (try dsimp only); (try k_fold); (try k_sweep)))
local macro_rules | `(tactic| walk_at "binaryOp Pow ref int") => `(tactic| (k_here; (with_reducible show wpAny _ _ (binaryOp _ (Value.ref _) (Value.int 1 _)) _ _ _); k_dflt (refine' Mine.op_use ?k1 ?k2 ?k3 ?k4 ?k5 ?kK (Mine.c_pw11 _ _ _ _ _ _ ?hx ?hx2 _ ?hP ?hP2 ?ha ?ha2) ?kd ?ku ?_; (case k1 => k_asm); (case k2 => k_asm); (case k3 => k_asm); (case k4 => k_asm); (case k5 => k_asm); (case kK => first | exact rfl | assumption); (case hx => k_mem); (case hx2 => k_mem); (case hP => first | with_reducible assumption | omega); (case hP2 => first | with_reducible assumption | omega); (case ha => first | with_reducible assumption | omega); (case ha2 => first | with_reducible assumption | omega); (case kd => ktr_room); (case ku => ktr_units)); intro n9 e9 b9 b9' x9 d9 k91 k92 t91 t92 h9 tk9 F9 N9; (try dsimp only); (try k_fold); (try k_sweep)))
local macro_rules | `(tactic| walk_at "compareOp Eq ref ref") => `(tactic| (k_here; (with_reducible show wpAny _ _ (compareOp _ (Value.ref _) (Value.ref _)) _ _ _); k_dflt (refine' Mine.op_use ?k1 ?k2 ?k3 ?k4 ?k5 ?kK (Mine.c_eqY1 _ _ _ _ _ _ ?hx ?hx2 ?hy ?hy2 ?he) ?kd ?ku ?_; (case k1 => k_asm); (case k2 => k_asm); (case k3 => k_asm); (case k4 => k_asm); (case k5 => k_asm); (case kK => first | exact rfl | assumption); (case hx => k_mem); (case hx2 => k_mem); (case hy => k_mem); (case hy2 => k_mem); (case he => first | omega | k_extra "eq"); (case kd => ktr_room); (case ku => ktr_units)); intro h9 tk9 F9 N9; (try dsimp only); (try k_fold); (try k_sweep)))
local macro_rules | `(tactic| walk_at "compareOp Eq ref ref") => `(tactic| (k_here; (with_reducible show wpAny _ _ (compareOp _ (Value.ref _) (Value.ref _)) _ _ _); k_dflt (refine' Mine.op_use ?k1 ?k2 ?k3 ?k4 ?k5 ?kK (Mine.c_eqN1 _ _ _ _ _ _ ?hx ?hx2 ?hy ?hy2 ?he) ?kd ?ku ?_; (case k1 => k_asm); (case k2 => k_asm); (case k3 => k_asm); (case k4 => k_asm); (case k5 => k_asm); (case kK => first | exact rfl | assumption); (case hx => k_mem); (case hx2 => k_mem); (case hy => k_mem); (case hy2 => k_mem); (case he => first | omega | k_extra "ne"); (case kd => ktr_room); (case ku => ktr_units)); intro h9 tk9 F9 N9; (try dsimp only); (try k_fold); (try k_sweep)))
local macro_rules | `(tactic| walk_at "binaryOp Mult int ref") => `(tactic| (k_here; (with_reducible show wpAny _ _ (binaryOp _ (Value.int _ _) (Value.ref _)) _ _ _); k_dflt (refine' Mine.op_use ?k1 ?k2 ?k3 ?k4 ?k5 ?kK (Mine.c_rmul1 _ _ _ _ _ _ ?hx ?hx2 _ _ ?hP ?hP2 ?ha ?ha2) ?kd ?ku ?_; (case k1 => k_asm); (case k2 => k_asm); (case k3 => k_asm); (case k4 => k_asm); (case k5 => k_asm); (case kK => first | exact rfl | assumption); (case hx => k_mem); (case hx2 => k_mem); (case hP => first | with_reducible assumption | omega); (case hP2 => first | with_reducible assumption | omega); (case ha => first | with_reducible assumption | omega); (case ha2 => first | with_reducible assumption | omega); (case kd => ktr_room); (case ku => ktr_units)); intro n9 e9 b9 b9' x9 d9 k91 k92 t91 t92 h9 tk9 F9 N9; (try dsimp only); (try k_fold); (try k_sweep)))
local macro_rules | `(tactic| walk_at "binaryOp Pow ref int") => `(tactic| (k_here; (with_reducible show wpAny _ _ (binaryOp _ (Value.ref _) (Value.int 2 _)) _ _ _); k_dflt (refine' Mine.op_use ?k1 ?k2 ?k3 ?k4 ?k5 ?kK (Mine.c_pw21 _ _ _ _ _ _ ?hx ?hx2 _ ?hP ?hP2 ?ha ?ha2) ?kd ?ku ?_; (case k1 => k_asm); (case k2 => k_asm); (case k3 => k_asm); (case k4 => k_asm); (case k5 => k_asm); (case kK => first | exact rfl | assumption); (case hx => k_mem); (case hx2 => k_mem); (case hP => first | with_reducible assumption | omega); (case hP2 => first | with_reducible assumption | omega); (case ha => first | with_reducible assumption | omega); (case ha2 => first | with_reducible assumption | omega); (case kd => ktr_room); (case ku => ktr_units)); intro n9 e9 b9 b9' x9 d9 k91 k92 t91 t92 h9 tk9 F9 N9; (try dsimp only); (try k_fold); (try k_sweep)))
local macro_rules | `(tactic| walk_at "call ref") => `(tactic| (k_here; (with_reducible show wpAny _ _ (call (Value.ref 91) [Value.ref _]) _ _ _); k_dflt (refine' Mine.call_use ?k1 ?k2 ?k3 ?k4 ?k5 ?kK (Mine.c_bdbl _ _ _ _ _ _ ?hG ?hp1 ?hx1 ?hX1 ?hy1 ?hY1 ?hi1) ?kd ?ku ?_; (case k1 => k_asm); (case k2 => k_asm); (case k3 => k_asm); (case k4 => k_asm); (case k5 => k_asm); (case kK => first | exact rfl | assumption); (case hp1 => k_mem); (case hx1 => k_mem); (case hX1 => k_mem); (case hy1 => k_mem); (case hY1 => k_mem); (case hG => with_reducible assumption); (case hi1 => first | with_reducible assumption | k_extra "nz"); (case kd => ktr_room); (case ku => ktr_units)); intro r9 ax9 dx9 ay9 dy9 c9 k19 k29 t19 t29 l19 l29 s19 s29 h9 tk9 F9 N9; (try dsimp only); (try k_fold); (try k_sweep)))
local macro_rules | `(tactic| walk_at "call ref") => `(tactic| (k_here; (with_reducible show wpAny _ _ (call (Value.ref 98) [Value.ref _, Value.ref _]) _ _ _); k_dflt (refine' Mine.call_use ?k1 ?k2 ?k3 ?k4 ?k5 ?kK (Mine.c_badd _ _ _ _ _ _ ?hG ?hp1 ?hx1 ?hX1 ?hy1 ?hY1 ?hp2 ?hx2 ?hX2 ?hy2 ?hY2 ?hi1 ?hi2 ?hij ?hs) ?kd ?ku ?_; (case k1 => k_asm); (case k2 => k_asm); (case k3 => k_asm); (case k4 => k_asm); (case k5 => k_asm); (case kK => first | exact rfl | assumption); (case hp1 => k_mem); (case hx1 => k_mem); (case hX1 => k_mem); (case hy1 => k_mem); (case hY1 => k_mem); (case hp2 => k_mem); (case hx2 => k_mem); (case hX2 => k_mem); (case hy2 => k_mem); (case hY2 => k_mem); (case hG => with_reducible assumption); (case hi1 => first | with_reducible assumption | k_extra "nz"); (case hi2 => first | with_reducible assumption | k_extra "nz"); (case hij => first | with_reducible assumption | k_extra "nz"); (case hs => first | with_reducible assumption | k_extra "nz"); (case kd => ktr_room); (case ku => ktr_units)); intro r9 ax9 dx9 ay9 dy9 c9 k19 k29 t19 t29 l19 l29 s19 s29 h9 tk9 F9 N9; (try dsimp only); (try k_fold); (try k_sweep)))
local macro_rules | `(tactic| walk_at "call ref") => `(tactic| (k_here; (with_reducible show wpAny _ _ (call (Value.ref 98) [Value.ref _, Value.ref _]) _ _ _); k_dflt (refine' Mine.call_use ?k1 ?k2 ?k3 ?k4 ?k5 ?kK (Mine.c_badd0 _ _ _ _ _ _ ?hG ?hp1 ?hx1 ?hX1 ?hy1 ?hY1 ?hp2 ?hx2 ?hX2 ?hy2 ?hY2 ?hi1 ?hs) ?kd ?ku ?_; (case k1 => k_asm); (case k2 => k_asm); (case k3 => k_asm); (case k4 => k_asm); (case k5 => k_asm); (case kK => first | exact rfl | assumption); (case hp1 => k_mem); (case hx1 => k_mem); (case hX1 => k_mem); (case hy1 => k_mem); (case hY1 => k_mem); (case hp2 => k_mem); (case hx2 => k_mem); (case hX2 => k_mem); (case hy2 => k_mem); (case hY2 => k_mem); (case hG => with_reducible assumption); (case hi1 => first | with_reducible assumption | k_extra "nz"); (case hs => first | with_reducible assumption | k_extra "nz"); (case kd => ktr_room); (case ku => ktr_units)); intro h9 tk9 F9 N9; (try dsimp only); (try k_fold); (try k_sweep)))
namespace Mine
section
variable (w : World) (loo : List Str) (mean : ExcName → Option Value) (mg mb : Str → Option Value) {C : Cv} (G : Good C)
include G
set_option maxRecDepth 100000 in
set_option maxHeartbeats 8000000 in
theorem s_bmul : ∀ (k : Nat) (n i1 : Int), i1 % C.N ≠ 0 → 1 ≤ n → n < C.N → n.toNat = k → ∀ {news : Led} {p1 ax1 dx1 ay1 dy1 : Addr} {c1 : Nat} {k11 k21 t11 t21 l11 l21 s11 s21 : Tok} {tn : Tok} (_ : (p1, tupR2 ax1 ay1 c1) ∈ news) (_ : (ax1, instObj 255 dx1) ∈ news) (_ : (dx1, fqD w C.P (C.X i1) k11 k21 t11 t21) ∈ news) (_ : (ay1, instObj 255 dy1) ∈ news) (_ : (dy1, fqD w C.P (C.Y i1) l11 l21 s11 s21) ∈ news),
    Call w loo mean mg mb 105 (k + 20) (16 * k + 300) news [.ref p1, .int n tn] (RetA2 w news C.P (C.X (n * i1)) (C.Y (n * i1))) := by
  intro k
  induction k using Nat.strongRecOn with
  | _ k IH =>
  intro n i1 hi1 hn hN ek news p1 ax1 dx1 ay1 dy1 c1 k11 k21 t11 t21 l11 l21 s11 s21 tn hp1 hx1 hX1 hy1 hY1
  unfold Call
  k_fill
  k_with_none
  intro dp un gd cn cs a ccd cl outer A₀ base h₀ L m s Q E B' F X' N' T hk hd hu hret
  have p5 := G.p5
  have p127 := G.p127
  by_cases h1 : n = 1
  · rw [h1, Int.one_mul] at hret
    refine wpAny_call ?_
    k_dflt cell_enter
    w_strict (k_steps; all_goals exact hret _ _ _ _ _ _ _ _ _ _ _ _ _ _ _ _ (by assumption) (Mine.led5 (by assumption) (by k_mem) (by k_mem) (by k_mem) (by k_mem) (by k_mem) (fun _ hp => by simp only [List.mem_cons, hp, or_true])))
  have h2 : 2 ≤ n := by omega
  k_with "call ref" => ((with_reducible show wpAny _ _ (call (Value.ref 105) [Value.ref _, Value.int _ _]) _ _ _); k_dflt (refine Mine.call_use (by k_asm) (by k_asm) (by k_asm) (by k_asm) (by k_asm) (by first | exact rfl | assumption) (IH (Int.toNat _) (by omega) _ _ (by exact nz2 G hi1) (by omega) (by omega) rfl (by k_mem) (by k_mem) (by k_mem) (by k_mem) (by k_mem)) (by ktr_room) (by ktr_units) ?_); intro r9 ax9 dx9 ay9 dy9 c9 k19 k29 t19 t29 l19 l29 s19 s29 h9 tk9 F9 N9; (try dsimp only); (try k_fold); (try k_sweep))
  k_with "nz" => first | exact nzr G hi1 h2 hN (by with_reducible assumption)
  rcases Int.emod_two_eq n with hm | hm
  · refine wpAny_call ?_
    k_dflt cell_enter
    w_strict (k_steps; all_goals ((rw [Mine.hev (by assumption) hm] at hret); exact hret _ _ _ _ _ _ _ _ _ _ _ _ _ _ _ _ (by assumption) (Mine.led5 (by assumption) (by k_mem) (by k_mem) (by k_mem) (by k_mem) (by k_mem) (fun _ hp => by simp only [List.mem_cons, hp, or_true]))))
  · k_with "nz" => first | exact nzd G hi1 h2 hN hm (by with_reducible assumption) | exact nzs G hi1 h2 hN hm (by with_reducible assumption)
    refine wpAny_call ?_
    k_dflt cell_enter
    w_strict (k_steps; all_goals ((rw [Mine.hod (by assumption) hm] at hret); exact hret _ _ _ _ _ _ _ _ _ _ _ _ _ _ _ _ (by assumption) (Mine.led5 (by assumption) (by k_mem) (by k_mem) (by k_mem) (by k_mem) (by k_mem) (fun _ hp => by simp only [List.mem_cons, hp, or_true]))))
end
end Mine
end
section
local macro_rules | `(tactic| walk_at "eval Name") => `(tactic| (k_here; name_kind "globalImplicit"; k_dflt (refine' nameX_K ?F ?X ?T ?e ?_ ?a ?b; (case F => k_asm); (case X => k_asm); (case T => k_asm); (case a => rfl); (case b => rfl); (case e => k_is); k_whole)))
local macro_rules | `(tactic| walk_at "eval Name") => `(tactic| (k_here; name_kind "local"; k_dflt (refine' nameX_L ?F ?v ?_ ?a ?b; (case F => k_asm); (case a => rfl); (case b => rfl); (case v => rfl); k_whole)))

local macro_rules | `(tactic| walk_at "binaryOp Mod int int") => `(tactic| (k_here; (with_reducible refine Mine.modG ?_ ?_); (omega); intro r' e' b0' b1'))
local macro_rules | `(tactic| walk_at "inplaceOp Mod int int") => `(tactic| (k_here; (with_reducible refine Mine.imodG ?_ ?_); (omega); intro r' e' b0' b1'))
local macro_rules | `(tactic| walk_at "binaryOp FloorDiv int int") => `(tactic| (k_here; (with_reducible refine Mine.fdivG ?_ ?_ ?_); (omega); (omega); intro r' e'))
local macro_rules | `(tactic| walk_at "binaryOp Pow int int") => `(tactic| (k_here; (with_reducible first | refine Mine.pow2G ?_ ?_ ?_ | refine Mine.pow3G ?_ ?_ ?_ | refine Mine.pow4G ?_ ?_ ?_); (omega); (omega)))
local macro_rules | `(tactic| walk_at "binaryOp Mult int int") => `(tactic| (k_here; first | ((with_reducible refine Mine.mulL ?_ ?_ ?_); (omega); (omega)) | ((with_reducible refine Mine.mulR ?_ ?_ ?_); (omega); (omega))))
local macro_rules | `(tactic| walk_at "compareOp Eq int int") => `(tactic| (k_here; first | ((with_reducible refine Mine.eqY ?_ ?_); (omega)) | ((with_reducible refine Mine.eqN ?_ ?_); (omega))))
local macro_rules | `(tactic| walk_at "compareOp NotEq int int") => `(tactic| (k_here; first | ((with_reducible refine Mine.neY ?_ ?_); (omega)) | ((with_reducible refine Mine.neN ?_ ?_); (omega))))
local macro_rules | `(tactic| walk_at "compareOp Lt int int") => `(tactic| (k_here; first | ((with_reducible refine Mine.ltY ?_ ?_); (omega)) | ((with_reducible refine Mine.ltN ?_ ?_); (omega))))
local macro_rules | `(tactic| walk_at "compareOp GtE int int") => `(tactic| (k_here; first | ((with_reducible refine Mine.geY ?_ ?_); (omega)) | ((with_reducible refine Mine.geN ?_ ?_); (omega))))
local macro_rules | `(tactic| walk_at "truthy int") => `(tactic| (k_here; first | ((with_reducible refine Mine.truthyY ?_ ?_); (omega)) | ((with_reducible refine Mine.truthyN ?_ ?_); (omega))))
local macro_rules | `(tactic| walk_at "subscriptTail Name Constant ref int") => `(tactic| (k_here; k_dflt (refine' Mine.itemG ?k1 ?k2 ?k3 ?k4 ?k5 ?k6 ?_; (case k1 => k_asm); (case k2 => k_mem); (case k3 => decide); (case k4 => decide); (case k5 => rfl); (case k6 => rfl); k_whole)))
local macro_rules | `(tactic| k_room) => `(tactic| ktr_room)
local macro_rules | `(tactic| k_enter) => `(tactic| cell_enter)
local macro_rules | `(tactic| walk_at "KswEnd") => `(tactic| k_extra "KswEnd")
local macro_rules | `(tactic| walk_at "call ref") => `(tactic| (k_here; k_extra "call ref"))
local macro_rules | `(tactic| k_mem) => `(tactic| first | exact List.Mem.head _ | with_reducible assumption | (refine' List.mem_cons_of_mem _ ?_; k_mem))
local macro_rules | `(tactic| k_all) => `(tactic| first | exact Mine.allLt_ne (by assumption) | exact Mine.allLt_ne' (by assumption) | exact List.forall_mem_nil _ | (refine' List.forall_mem_cons.mpr ⟨?a, ?b⟩; (case a => k_ne); (case b => k_all)))
local macro_rules | `(tactic| ktr_room) => `(tactic| ((try simp only [depth_under_make, depth_under_kw, depth_in1, depth_deeper, depth_caller]); (try dsimp only [ktrTop, Around.deeper]); first | exact Mine.room3 (by with_reducible assumption) (by decide) | exact Mine.room2 (by with_reducible assumption) (by decide) | omega))
local macro_rules | `(tactic| ktr_units) => `(tactic| ((try simp only [units_in1, units_deeper, Around.mark_units, units_caller]); (try dsimp only [ktrTop, Around.deeper]); first | exact Mine.room3 (by with_reducible assumption) (by decide) | exact Mine.room2 (by with_reducible assumption) (by decide) | omega))
local macro_rules | `(tactic| k_units) => `(tactic| ((try dsimp only [ktrTop, Around.deeper, Around.in1]); (try simp only [cLine] at *); omega))
local macro_rules | `(tactic| walk_at "call ref") => `(tactic| (k_here; (with_reducible show wpAny _ _ (call (Value.ref 28) [Value.int _ _, Value.int _ _]) _ _ _); k_dflt (refine' Mine.call_use ?k1 ?k2 ?k3 ?k4 ?k5 ?kK (Mine.c_inv _ _ _ _ _ _ _ _ _ _ ?h1 ?h2 ?h3 ?h4) ?kd ?ku ?_; (case k1 => k_asm); (case k2 => k_asm); (case k3 => k_asm); (case k4 => k_asm); (case k5 => k_asm); (case kK => first | exact rfl | assumption); (case h1 => omega); (case h2 => omega); (case h3 => omega); (case h4 => assumption); (case kd => ktr_room); (case ku => ktr_units)); intro v9 v0' v1' v2' t9 h9 tk9 F9 N9; (try dsimp only); (try k_fold); (try k_sweep)))
local macro_rules | `(tactic| walk_at "call ref") => `(tactic| (k_here; (with_reducible show wpAny _ _ (call (Value.ref 112) [Value.int _ _, Value.int _ _]) _ _ _); k_dflt (refine' Mine.call_use ?k1 ?k2 ?k3 ?k4 ?k5 ?kK (Mine.c_pinv _ _ _ _ _ _ _ _ _ _ ?h1 ?h2 ?h3 ?h4) ?kd ?ku ?_; (case k1 => k_asm); (case k2 => k_asm); (case k3 => k_asm); (case k4 => k_asm); (case k5 => k_asm); (case kK => first | exact rfl | assumption); (case h1 => omega); (case h2 => omega); (case h3 => omega); (case h4 => assumption); (case kd => ktr_room); (case ku => ktr_units)); intro v9 v0' v1' v2' t9 h9 tk9 F9 N9; (try dsimp only); (try k_fold); (try k_sweep)))
local macro_rules | `(tactic| walk_at "binaryOp Div ref ref") => `(tactic| (k_here; (with_reducible show wpAny _ _ (binaryOp _ (Value.ref _) (Value.ref _)) _ _ _); k_dflt (refine' binop_K ?k1 ?k2 ?k3 ?k4 ?k5 ?k6 ?k7 ?_; (case k1 => k_asm); (case k2 => k_asm); (case k3 => k_inst); (case k4 => k_typeOf); (case k5 => k_is); (case k6 => k_is); (case k7 => k_is); k_whole)))
local macro_rules | `(tactic| walk_at "binaryOp Mult int ref") => `(tactic| (k_here; (with_reducible show wpAny _ _ (binaryOp _ (Value.int _ _) (Value.ref _)) _ _ _); k_dflt (refine' Mine.rmul_K ?k1 ?k2 ?k3 ?kp ?k4 ?k5 ?k6 ?k7 ?k8 ?_; (case k1 => k_asm); (case k2 => k_asm); (case k3 => k_inst); (case kp => rfl); (case k4 => k_is); (case k5 => k_is); (case k6 => k_is); (case k7 => k_is); (case k8 => k_is); k_whole)))
local macro_rules | `(tactic| walk_at "call ref") => `(tactic| (k_here; (with_reducible show wpAny _ _ (call (Value.ref 255) [Value.int _ _, Value.int _ _]) _ _ _); k_dflt (refine' Mine.call_use ?k1 ?k2 ?k3 ?k4 ?k5 ?kK (Mine.c_fq1 _ _ _ _ _ _ _ _ _ _ ?h1 ?h2) ?kd ?ku ?_; (case k1 => k_asm); (case k2 => k_asm); (case k3 => k_asm); (case k4 => k_asm); (case k5 => k_asm); (case kK => first | exact rfl | assumption); (case h1 => first | with_reducible assumption | omega); (case h2 => first | with_reducible assumption | omega); (case kd => ktr_room); (case ku => ktr_units)); intro n9 e9 b9 b9' x9 d9 k91 k92 t91 t92 h9 tk9 F9 N9; (try dsimp only); (try k_fold); (try k_sweep)))
local macro_rules | `(tactic| walk_at "call ref") => `(tactic| (k_here; (with_reducible show wpAny _ _ (call (Value.ref 417) [Value.int _ _, Value.int _ _]) _ _ _); k_dflt (refine' Mine.call_use ?k1 ?k2 ?k3 ?k4 ?k5 ?kK (Mine.c_fq2 _ _ _ _ _ _ _ _ _ _ ?h1 ?h2) ?kd ?ku ?_; (case k1 => k_asm); (case k2 => k_asm); (case k3 => k_asm); (case k4 => k_asm); (case k5 => k_asm); (case kK => first | exact rfl | assumption); (case h1 => first | with_reducible assumption | omega); (case h2 => first | with_reducible assumption | omega); (case kd => ktr_room); (case ku => ktr_units)); intro n9 e9 b9 b9' x9 d9 k91 k92 t91 t92 h9 tk9 F9 N9; (try dsimp only); (try k_fold); (try k_sweep)))
local macro_rules | `(tactic| walk_at "binaryOp Mult ref ref") => `(tactic| (k_here; (with_reducible show wpAny _ _ (binaryOp _ (Value.ref _) (Value.ref _)) _ _ _); k_dflt (refine' Mine.op_use ?k1 ?k2 ?k3 ?k4 ?k5 ?kK (Mine.c_mul2 _ _ _ _ _ _ ?hx ?hx2 ?hy ?hy2 ?hP ?hP2 ?ha ?ha2 ?hb ?hb2) ?kd ?ku ?_; (case k1 => k_asm); (case k2 => k_asm); (case k3 => k_asm); (case k4 => k_asm); (case k5 => k_asm); (case kK => first | exact rfl | assumption); (case hx => k_mem); (case hx2 => k_mem); (case hy => k_mem); (case hy2 => k_mem); (case hP => first | with_reducible assumption | omega); (case hP2 => first | with_reducible assumption | omega); (case ha => first | with_reducible assumption | omega); (case ha2 => first | with_reducible assumption | omega); (case hb => first | with_reducible assumption | omega); (case hb2 => first | with_reducible assumption | omega); (case kd => ktr_room); (case ku => ktr_units)); intro n9 e9 b9 b9' x9 d9 k91 k92 t91 t92 h9 tk9 F9 N9; (try dsimp only); (try k_fold); (try k_sweep)))
local macro_rules | `(tactic| walk_at "binaryOp Mult ref int") => `(tactic| (k_here; (with_reducible show wpAny _ _ (binaryOp _ (Value.ref _) (Value.int _ _)) _ _ _); k_dflt (refine' Mine.op_use ?k1 ?k2 ?k3 ?k4 ?k5 ?kK (Mine.c_mulI2 _ _ _ _ _ _ ?hx ?hx2 _ _ ?hP ?hP2 ?ha ?ha2) ?kd ?ku ?_; (case k1 => k_asm); (case k2 => k_asm); (case k3 => k_asm); (case k4 => k_asm); (case k5 => k_asm); (case kK => first | exact rfl | assumption); (case hx => k_mem); (case hx2 => k_mem); (case hP => first | with_reducible assumption | omega); (case hP2 => first | with_reducible assumption | omega); (case ha => first | with_reducible assumption | omega); (case ha2 => first | with_reducible assumption | omega); (case kd => ktr_room); (case ku => ktr_units)); intro n9 e9 b9 b9' x9 d9 k91 k92 t91 t92 h9 tk9 F9 N9; (try dsimp only); (try k_fold); (try k_sweep)))
local macro_rules | `(tactic| walk_at "binaryOp Sub ref ref") => `(tactic| (k_here; (with_reducible show wpAny _ _ (binaryOp _ (Value.ref _) (Value.ref _)) _ _ _); k_dflt (refine' Mine.op_use ?k1 ?k2 ?k3 ?k4 ?k5 ?kK (Mine.c_sub2 _ _ _ _ _ _ ?hx ?hx2 ?hy ?hy2 ?hP ?hP2 ?ha ?ha2 ?hb ?hb2) ?kd ?ku ?_; (case k1 => k_asm); (case k2 => k_asm); (case k3 => k_asm); (case k4 => k_asm); (case k5 => k_asm); (case kK => first | exact rfl | assumption); (case hx => k_mem); (case hx2 => k_mem); (case hy => k_mem); (case hy2 => k_mem); (case hP => first | with_reducible assumption | omega); (case hP2 => first | with_reducible assumption | omega); (case ha => first | with_reducible assumption | omega); (case ha2 => first | with_reducible assumption | omega); (case hb => first | with_reducible assumption | omega); (case hb2 => first | with_reducible assumption | omega); (case kd => ktr_room); (case ku => ktr_units)); intro n9 e9 b9 b9' x9 d9 k91 k92 t91 t92 h9 tk9 F9 N9; (try dsimp only); (try k_fold); (try k_sweep)))
local macro_rules | `(tactic| walk_at "compareOp Eq ref ref") => `(tactic| (k_here; (with_reducible show wpAny _ _ (compareOp _ (Value.ref _) (Value.ref _)) _ _ _); k_dflt (refine' Mine.op_use ?k1 ?k2 ?k3 ?k4 ?k5 ?kK (Mine.c_eqY2 _ _ _ _ _ _ ?hx ?hx2 ?hy ?hy2 ?he) ?kd ?ku ?_; (case k1 => k_asm); (case k2 => k_asm); (case k3 => k_asm); (case k4 => k_asm); (case k5 => k_asm); (case kK => first | exact rfl | assumption); (case hx => k_mem); (case hx2 => k_mem); (case hy => k_mem); (case hy2 => k_mem); (case he => first | omega | k_extra "eq"); (case kd => ktr_room); (case ku => ktr_units)); intro h9 tk9 F9 N9; (try dsimp only); (try k_fold); (try k_sweep)))
local macro_rules | `(tactic| walk_at "compareOp Eq ref ref") => `(tactic| (k_here; (with_reducible show wpAny _ _ (compareOp _ (Value.ref _) (Value.ref _)) _ _ _); k_dflt (refine' Mine.op_use ?k1 ?k2 ?k3 ?k4 ?k5 ?kK (Mine.c_eqN2 _ _ _ _ _ _ ?hx ?hx2 ?hy ?hy2 ?he) ?kd ?ku ?_; (case k1 => k_asm); (case k2 => k_asm); (case k3 => k_asm); (case k4 => k_asm); (case k5 => k_asm); (case kK => first | exact rfl | assumption); (case hx => k_mem); (case hx2 => k_mem); (case hy => k_mem); (case hy2 => k_mem); (case he => first | omega | k_extra "ne"); (case kd => ktr_room); (case ku => ktr_units)); intro h9 tk9 F9 N9; (try dsimp only); (try k_fold); (try k_sweep)))
local macro_rules | `(tactic| walk_at "binaryOp Mult int ref") => `(tactic| (k_here; (with_reducible show wpAny _ _ (binaryOp _ (Value.int _ _) (Value.ref _)) _ _ _); k_dflt (refine' Mine.op_use ?k1 ?k2 ?k3 ?k4 ?k5 ?kK (Mine.c_rmul2 _ _ _ _ _ _ ?hx ?hx2 _ _ ?hP ?hP2 ?ha ?ha2) ?kd ?ku ?_; (case k1 => k_asm); (case k2 => k_asm); (case k3 => k_asm); (case k4 => k_asm); (case k5 => k_asm); (case kK => first | exact rfl | assumption); (case hx => k_mem); (case hx2 => k_mem); (case hP => first | with_reducible assumption | omega); (case hP2 => first | with_reducible assumption | omega); (case ha => first | with_reducible assumption | omega); (case ha2 => first | with_reducible assumption | omega); (case kd => ktr_room); (case ku => ktr_units)); intro n9 e9 b9 b9' x9 d9 k91 k92 t91 t92 h9 tk9 F9 N9; (try dsimp only); (try k_fold); (try k_sweep)))
namespace Mine
section
variable (w : World) (loo : List Str) (mean : ExcName → Option Value) (mg mb : Str → Option Value) (news : Led) {C : Cv} (G : Good C)
include G
set_option maxRecDepth 100000 in
set_option maxHeartbeats 8000000 in
theorem c_oinfN {x1 y1 z1 : Int} {p1 ax1 dx1 ay1 dy1 az1 dz1 : Addr} {c1 : Nat} {k11 k21 t11 t21 l11 l21 s11 s21 o11 o21 q11 q21 : Tok} (hp1 : (p1, tupR3 ax1 ay1 az1 c1) ∈ news) (hx1 : (ax1, instObj 417 dx1) ∈ news) (hX1 : (dx1, fqD w C.P x1 k11 k21 t11 t21) ∈ news) (hy1 : (ay1, instObj 417 dy1) ∈ news) (hY1 : (dy1, fqD w C.P y1 l11 l21 s11 s21) ∈ news) (hz1 : (az1, instObj 417 dz1) ∈ news) (hZ1 : (dz1, fqD w C.P z1 o11 o21 q11 q21) ∈ news) (hn : 1 ≤ z1) (hn2 : z1 < C.P) :
    Call w loo mean mg mb 428 10 120 news [.ref p1] (RetBool news false) := by
  unfold Call
  k_fill
  k_with_none
  intro dp un gd cn cs a ccd cl outer A₀ base h₀ L m s Q E B' F X' N' T hk hd hu hret
  have p5 := G.p5
  have p127 := G.p127
  have hz0 : (0 : Int) % C.P = 0 := by simp
  have hz1 : (1 : Int) % C.P = 1 := Int.emod_eq_of_lt (by decide) (by omega)
  refine wpAny_call ?_
  k_dflt cell_enter
  w_strict (k_steps; all_goals exact hret _ _ (by assumption) (newsSub (by assumption) (fun _ hp => by simp only [List.mem_cons, hp, or_true])))
set_option maxRecDepth 100000 in
set_option maxHeartbeats 8000000 in
theorem c_oinfY {x1 y1 z1 : Int} {p1 ax1 dx1 ay1 dy1 az1 dz1 : Addr} {c1 : Nat} {k11 k21 t11 t21 l11 l21 s11 s21 o11 o21 q11 q21 : Tok} (hp1 : (p1, tupR3 ax1 ay1 az1 c1) ∈ news) (hx1 : (ax1, instObj 417 dx1) ∈ news) (hX1 : (dx1, fqD w C.P x1 k11 k21 t11 t21) ∈ news) (hy1 : (ay1, instObj 417 dy1) ∈ news) (hY1 : (dy1, fqD w C.P y1 l11 l21 s11 s21) ∈ news) (hz1 : (az1, instObj 417 dz1) ∈ news) (hZ1 : (dz1, fqD w C.P z1 o11 o21 q11 q21) ∈ news) (hn : z1 = 0) :
    Call w loo mean mg mb 428 10 120 news [.ref p1] (RetBool news true) := by
  unfold Call
  k_fill
  k_with_none
  intro dp un gd cn cs a ccd cl outer A₀ base h₀ L m s Q E B' F X' N' T hk hd hu hret
  have p5 := G.p5
  have p127 := G.p127
  have hz0 : (0 : Int) % C.P = 0 := by simp
  have hz1 : (1 : Int) % C.P = 1 := Int.emod_eq_of_lt (by decide) (by omega)
  refine wpAny_call ?_
  k_dflt cell_enter
  w_strict (k_steps; all_goals exact hret _ _ (by assumption) (newsSub (by assumption) (fun _ hp => by simp only [List.mem_cons, hp, or_true])))
set_option maxRecDepth 100000 in
set_option maxHeartbeats 8000000 in
theorem c_odbl {i1 x1 y1 z1 : Int} {p1 ax1 dx1 ay1 dy1 az1 dz1 : Addr} {c1 : Nat} {k11 k21 t11 t21 l11 l21 s11 s21 o11 o21 q11 q21 : Tok} (hp1 : (p1, tupR3 ax1 ay1 az1 c1) ∈ news) (hx1 : (ax1, instObj 417 dx1) ∈ news) (hX1 : (dx1, fqD w C.P x1 k11 k21 t11 t21) ∈ news) (hy1 : (ay1, instObj 417 dy1) ∈ news) (hY1 : (dy1, fqD w C.P y1 l11 l21 s11 s21) ∈ news) (hz1 : (az1, instObj 417 dz1) ∈ news) (hZ1 : (dz1, fqD w C.P z1 o11 o21 q11 q21) ∈ news) (hi1 : i1 % C.N ≠ 0) (J1 : Prj C i1 x1 y1 z1) :
    Call w loo mean mg mb 435 10 140 news [.ref p1] (fun h₀ L m s Q => ∀ x y z : Int, Prj C (2 * i1) x y z → RetA3 w news C.P x y z h₀ L m s Q) := by
  unfold Call
  k_fill
  k_with_none
  intro dp un gd cn cs a ccd cl outer A₀ base h₀ L m s Q E B' F X' N' T hk hd hu hret
  have p5 := G.p5
  have p127 := G.p127
  have vx01 := J1.1
  have vx11 := J1.2.1
  have vy01 := J1.2.2.1
  have vy11 := J1.2.2.2.1
  have vz01 := J1.2.2.2.2.1
  have vz11 := J1.2.2.2.2.2.1
  refine wpAny_call ?_
  k_dflt cell_enter
  w_strict (k_steps; all_goals exact hret _ _ _ (prj_dbl G hi1 J1 (by with_reducible assumption) (by with_reducible assumption) (by with_reducible assumption) (by with_reducible assumption) (by with_reducible assumption) (by with_reducible assumption) (by with_reducible assumption) (by with_reducible assumption) (by with_reducible assumption) (by with_reducible assumption) (by with_reducible assumption) (by with_reducible assumption) (by with_reducible assumption) (by with_reducible assumption) (by with_reducible assumption) (by with_reducible assumption) (by with_reducible assumption) (by with_reducible assumption) (by with_reducible assumption) (by with_reducible assumption) (by with_reducible assumption) (by with_reducible assumption) (by with_reducible assumption) (by with_reducible assumption) (by with_reducible assumption) (by with_reducible assumption)) _ _ _ _ _ _ _ _ _ _ _ _ _ _ _ _ _ _ _ _ _ _ (by assumption) (Mine.led7 (by assumption) (by k_mem) (by k_mem) (by k_mem) (by k_mem) (by k_mem) (by k_mem) (by k_mem) (fun _ hp => by simp only [List.mem_cons, hp, or_true])))
set_option maxRecDepth 100000 in
set_option maxHeartbeats 8000000 in
theorem c_oadd {i1 x1 y1 z1 : Int} {i2 x2 y2 z2 : Int} {p1 ax1 dx1 ay1 dy1 az1 dz1 : Addr} {c1 : Nat} {k11 k21 t11 t21 l11 l21 s11 s21 o11 o21 q11 q21 : Tok} {p2 ax2 dx2 ay2 dy2 az2 dz2 : Addr} {c2 : Nat} {k12 k22 t12 t22 l12 l22 s12 s22 o12 o22 q12 q22 : Tok} (hp1 : (p1, tupR3 ax1 ay1 az1 c1) ∈ news) (hx1 : (ax1, instObj 417 dx1) ∈ news) (hX1 : (dx1, fqD w C.P x1 k11 k21 t11 t21) ∈ news) (hy1 : (ay1, instObj 417 dy1) ∈ news) (hY1 : (dy1, fqD w C.P y1 l11 l21 s11 s21) ∈ news) (hz1 : (az1, instObj 417 dz1) ∈ news) (hZ1 : (dz1, fqD w C.P z1 o11 o21 q11 q21) ∈ news) (hp2 : (p2, tupR3 ax2 ay2 az2 c2) ∈ news) (hx2 : (ax2, instObj 417 dx2) ∈ news) (hX2 : (dx2, fqD w C.P x2 k12 k22 t12 t22) ∈ news) (hy2 : (ay2, instObj 417 dy2) ∈ news) (hY2 : (dy2, fqD w C.P y2 l12 l22 s12 s22) ∈ news) (hz2 : (az2, instObj 417 dz2) ∈ news) (hZ2 : (dz2, fqD w C.P z2 o12 o22 q12 q22) ∈ news) (hi1 : i1 % C.N ≠ 0) (hi2 : i2 % C.N ≠ 0) (hij : i1 % C.N ≠ i2 % C.N) (hs : (i1 + i2) % C.N ≠ 0) (J1 : Prj C i1 x1 y1 z1) (J2 : Prj C i2 x2 y2 z2) :
    Call w loo mean mg mb 442 10 140 news [.ref p1, .ref p2] (fun h₀ L m s Q => ∀ x y z : Int, Prj C (i1 + i2) x y z → RetA3 w news C.P x y z h₀ L m s Q) := by
  unfold Call
  k_fill
  k_with_none
  intro dp un gd cn cs a ccd cl outer A₀ base h₀ L m s Q E B' F X' N' T hk hd hu hret
  have p5 := G.p5
  have p127 := G.p127
  have vx01 := J1.1
  have vx11 := J1.2.1
  have vy01 := J1.2.2.1
  have vy11 := J1.2.2.2.1
  have vz01 := J1.2.2.2.2.1
  have vz11 := J1.2.2.2.2.2.1
  have vx02 := J2.1
  have vx12 := J2.2.1
  have vy02 := J2.2.2.1
  have vy12 := J2.2.2.2.1
  have vz02 := J2.2.2.2.2.1
  have vz12 := J2.2.2.2.2.2.1
  have hz0 : (0 : Int) % C.P = 0 := by simp
  have hz1 : (1 : Int) % C.P = 1 := Int.emod_eq_of_lt (by decide) (by omega)
  have hV := prj_V G J1 J2 (mod_ne (G.x0 i2) (G.x1 i2) (G.x0 i1) (G.x1 i1) (Ne.symm (G.neX i1 i2 hi1 hi2 hij hs)))
  refine wpAny_call ?_
  k_dflt cell_enter
  w_strict (k_steps; all_goals exact hret _ _ _ (prj_add G hi1 hi2 hij hs J1 J2 (by with_reducible assumption) (by with_reducible assumption) (by with_reducible assumption) (by with_reducible assumption) (by with_reducible assumption) (by with_reducible assumption) (by with_reducible assumption) (by with_reducible assumption) (by with_reducible assumption) (by with_reducible assumption) (by with_reducible assumption) (by with_reducible assumption) (by with_reducible assumption) (by with_reducible assumption) (by with_reducible assumption) (by with_reducible assumption) (by with_reducible assumption) (by with_reducible assumption) (by with_reducible assumption) (by with_reducible assumption) (by with_reducible assumption) (by with_reducible assumption) (by with_reducible assumption) (by with_reducible assumption) (by with_reducible assumption) (by with_reducible assumption) (by with_reducible assumption)) _ _ _ _ _ _ _ _ _ _ _ _ _ _ _ _ _ _ _ _ _ _ (by assumption) (Mine.led7 (by assumption) (by k_mem) (by k_mem) (by k_mem) (by k_mem) (by k_mem) (by k_mem) (by k_mem) (fun _ hp => by simp only [List.mem_cons, hp, or_true])))
set_option maxRecDepth 100000 in
set_option maxHeartbeats 8000000 in
theorem c_oadd0 {i1 x1 y1 z1 : Int} {i2 x2 y2 z2 : Int} {p1 ax1 dx1 ay1 dy1 az1 dz1 : Addr} {c1 : Nat} {k11 k21 t11 t21 l11 l21 s11 s21 o11 o21 q11 q21 : Tok} {p2 ax2 dx2 ay2 dy2 az2 dz2 : Addr} {c2 : Nat} {k12 k22 t12 t22 l12 l22 s12 s22 o12 o22 q12 q22 : Tok} (hp1 : (p1, tupR3 ax1 ay1 az1 c1) ∈ news) (hx1 : (ax1, instObj 417 dx1) ∈ news) (hX1 : (dx1, fqD w C.P x1 k11 k21 t11 t21) ∈ news) (hy1 : (ay1, instObj 417 dy1) ∈ news) (hY1 : (dy1, fqD w C.P y1 l11 l21 s11 s21) ∈ news) (hz1 : (az1, instObj 417 dz1) ∈ news) (hZ1 : (dz1, fqD w C.P z1 o11 o21 q11 q21) ∈ news) (hp2 : (p2, tupR3 ax2 ay2 az2 c2) ∈ news) (hx2 : (ax2, instObj 417 dx2) ∈ news) (hX2 : (dx2, fqD w C.P x2 k12 k22 t12 t22) ∈ news) (hy2 : (ay2, instObj 417 dy2) ∈ news) (hY2 : (dy2, fqD w C.P y2 l12 l22 s12 s22) ∈ news) (hz2 : (az2, instObj 417 dz2) ∈ news) (hZ2 : (dz2, fqD w C.P z2 o12 o22 q12 q22) ∈ news) (hi1 : i1 % C.N ≠ 0) (hs : (i1 + i2) % C.N = 0) (J1 : Prj C i1 x1 y1 z1) (J2 : Prj C i2 x2 y2 z2) :
    Call w loo mean mg mb 442 10 140 news [.ref p1, .ref p2] (fun h₀ L m s Q => ∀ x y z : Int, z = 0 → RetA3 w news C.P x y z h₀ L m s Q) := by
  unfold Call
  k_fill
  k_with_none
  intro dp un gd cn cs a ccd cl outer A₀ base h₀ L m s Q E B' F X' N' T hk hd hu hret
  have p5 := G.p5
  have p127 := G.p127
  have vx01 := J1.1
  have vx11 := J1.2.1
  have vy01 := J1.2.2.1
  have vy11 := J1.2.2.2.1
  have vz01 := J1.2.2.2.2.1
  have vz11 := J1.2.2.2.2.2.1
  have vx02 := J2.1
  have vx12 := J2.2.1
  have vy02 := J2.2.2.1
  have vy12 := J2.2.2.2.1
  have vz02 := J2.2.2.2.2.1
  have vz12 := J2.2.2.2.2.2.1
  have hz0 : (0 : Int) % C.P = 0 := by simp
  have hz1 : (1 : Int) % C.P = 1 := Int.emod_eq_of_lt (by decide) (by omega)
  obtain ⟨nX, nY⟩ := G.ng i1 i2 hi1 hs
  have hV := prj_V' G J1 J2 nX
  have hU := prj_U G J1 J2 (mod_ne (G.y0 i2) (G.y1 i2) (G.y0 i1) (G.y1 i1) (Ne.symm nY))
  refine wpAny_call ?_
  k_dflt cell_enter
  w_strict (k_steps; all_goals ((refine hret _ _ _ ?_ _ _ _ _ _ _ _ _ _ _ _ _ _ _ _ _ _ _ _ _ _ _ (by assumption) (Mine.led7 (by assumption) (by k_mem) (by k_mem) (by k_mem) (by k_mem) (by k_mem) (by k_mem) (by k_mem) (fun _ hp => by simp only [List.mem_cons, hp, or_true]))); omega))
set_option maxRecDepth 100000 in
set_option maxHeartbeats 8000000 in
theorem c_oeq {i1 x1 y1 z1 : Int} {i2 x2 y2 z2 : Int} {p1 ax1 dx1 ay1 dy1 az1 dz1 : Addr} {c1 : Nat} {k11 k21 t11 t21 l11 l21 s11 s21 o11 o21 q11 q21 : Tok} {p2 ax2 dx2 ay2 dy2 az2 dz2 : Addr} {c2 : Nat} {k12 k22 t12 t22 l12 l22 s12 s22 o12 o22 q12 q22 : Tok} (hp1 : (p1, tupR3 ax1 ay1 az1 c1) ∈ news) (hx1 : (ax1, instObj 417 dx1) ∈ news) (hX1 : (dx1, fqD w C.P x1 k11 k21 t11 t21) ∈ news) (hy1 : (ay1, instObj 417 dy1) ∈ news) (hY1 : (dy1, fqD w C.P y1 l11 l21 s11 s21) ∈ news) (hz1 : (az1, instObj 417 dz1) ∈ news) (hZ1 : (dz1, fqD w C.P z1 o11 o21 q11 q21) ∈ news) (hp2 : (p2, tupR3 ax2 ay2 az2 c2) ∈ news) (hx2 : (ax2, instObj 417 dx2) ∈ news) (hX2 : (dx2, fqD w C.P x2 k12 k22 t12 t22) ∈ news) (hy2 : (ay2, instObj 417 dy2) ∈ news) (hY2 : (dy2, fqD w C.P y2 l12 l22 s12 s22) ∈ news) (hz2 : (az2, instObj 417 dz2) ∈ news) (hZ2 : (dz2, fqD w C.P z2 o12 o22 q12 q22) ∈ news) (hX : C.X i1 = C.X i2) (hY : C.Y i1 = C.Y i2) (J1 : Prj C i1 x1 y1 z1) (J2 : Prj C i2 x2 y2 z2) :
    Call w loo mean mg mb 456 10 140 news [.ref p1, .ref p2] (RetBool news true) := by
  unfold Call
  k_fill
  k_with_none
  intro dp un gd cn cs a ccd cl outer A₀ base h₀ L m s Q E B' F X' N' T hk hd hu hret
  have p5 := G.p5
  have p127 := G.p127
  have vx01 := J1.1
  have vx11 := J1.2.1
  have vy01 := J1.2.2.1
  have vy11 := J1.2.2.2.1
  have vz01 := J1.2.2.2.2.1
  have vz11 := J1.2.2.2.2.2.1
  have vx02 := J2.1
  have vx12 := J2.2.1
  have vy02 := J2.2.2.1
  have vy12 := J2.2.2.2.1
  have vz02 := J2.2.2.2.2.1
  have vz12 := J2.2.2.2.2.2.1
  have hV := prj_V' G J1 J2 hX
  have hU := prj_Y' G J1 J2 hY
  refine wpAny_call ?_
  k_dflt cell_enter
  w_strict (k_steps; all_goals exact hret _ _ (by assumption) (newsSub (by assumption) (fun _ hp => by simp only [List.mem_cons, hp, or_true])))
end
end Mine
end
section
local macro_rules | `(tactic| walk_at "eval Name") => `(tactic| (k_here; name_kind "globalImplicit"; k_dflt (refine' nameX_K ?F ?X ?T ?e ?_ ?a ?b; (case F => k_asm); (case X => k_asm); (case T => k_asm); (case a => rfl); (case b => rfl); (case e => k_is); k_whole)))
local macro_rules | `(tactic| walk_at "eval Name") => `(tactic| (k_here; name_kind "local"; k_dflt (refine' nameX_L ?F ?v ?_ ?a ?b; (case F => k_asm); (case a => rfl); (case b => rfl); (case v => rfl); k_whole)))

local macro_rules | `(tactic| walk_at "binaryOp Mod int int") => `(tactic| (k_here; (with_reducible refine Mine.modG ?_ ?_); (omega); intro r' e' b0' b1'))
local macro_rules | `(tactic| walk_at "inplaceOp Mod int int") => `(tactic| (k_here; (with_reducible refine Mine.imodG ?_ ?_); (omega); intro r' e' b0' b1'))
local macro_rules | `(tactic| walk_at "binaryOp FloorDiv int int") => `(tactic| (k_here; (with_reducible refine Mine.fdivG ?_ ?_ ?_); (omega); (omega); intro r' e'))
local macro_rules | `(tactic| walk_at "binaryOp Pow int int") => `(tactic| (k_here; (with_reducible first | refine Mine.pow2G ?_ ?_ ?_ | refine Mine.pow3G ?_ ?_ ?_ | refine Mine.pow4G ?_ ?_ ?_); (omega); (omega)))
local macro_rules | `(tactic| walk_at "binaryOp Mult int int") => `(tactic| (k_here; first | ((with_reducible refine Mine.mulL ?_ ?_ ?_); (omega); (omega)) | ((with_reducible refine Mine.mulR ?_ ?_ ?_); (omega); (omega))))
local macro_rules | `(tactic| walk_at "compareOp Eq int int") => `(tactic| (k_here; first | ((with_reducible refine Mine.eqY ?_ ?_); (omega)) | ((with_reducible refine Mine.eqN ?_ ?_); (omega))))
local macro_rules | `(tactic| walk_at "compareOp NotEq int int") => `(tactic| (k_here; first | ((with_reducible refine Mine.neY ?_ ?_); (omega)) | ((with_reducible refine Mine.neN ?_ ?_); (omega))))
local macro_rules | `(tactic| walk_at "compareOp Lt int int") => `(tactic| (k_here; first | ((with_reducible refine Mine.ltY ?_ ?_); (omega)) | ((with_reducible refine Mine.ltN ?_ ?_); (omega))))
local macro_rules | `(tactic| walk_at "compareOp GtE int int") => `(tactic| (k_here; first | ((with_reducible refine Mine.geY ?_ ?_); (omega)) | ((with_reducible refine Mine.geN ?_ ?_); (omega))))
local macro_rules | `(tactic| walk_at "truthy int") => `(tactic| (k_here; first | ((with_reducible refine Mine.truthyY ?_ ?_); (omega)) | ((with_reducible refine Mine.truthyN ?_ ?_); (omega))))
local macro_rules | `(tactic| walk_at "subscriptTail Name Constant ref int") => `(tactic| (k_here; k_dflt (refine' Mine.itemG ?k1 ?k2 ?k3 ?k4 ?k5 ?k6 ?_; (case k1 => k_asm); (case k2 => k_mem); (case k3 => decide); (case k4 => decide); (case k5 => rfl); (case k6 => rfl); k_whole)))
local macro_rules | `(tactic| k_room) => `(tactic| ktr_room)
local macro_rules | `(tactic| k_enter) => `(tactic| cell_enter)
local macro_rules | `(tactic| walk_at "KswEnd") => `(tactic| k_extra "KswEnd")
local macro_rules | `(tactic| walk_at "call ref") => `(tactic| (k_here; k_extra "call ref"))
local macro_rules | `(tactic| k_mem) => `(tactic| first | exact List.Mem.head _ | with_reducible assumption | (refine' List.mem_cons_of_mem _ ?_; k_mem))
local macro_rules | `(tactic| k_all) => `(tactic| first | exact Mine.allLt_ne (by assumption) | exact Mine.allLt_ne' (by assumption) | exact List.forall_mem_nil _ | (refine' List.forall_mem_cons.mpr ⟨?a, ?b⟩; (case a => k_ne); (case b => k_all)))
local macro_rules | `(tactic| ktr_room) => `(tactic| ((try simp only [depth_under_make, depth_under_kw, depth_in1, depth_deeper, depth_caller]); (try dsimp only [ktrTop, Around.deeper]); first | exact Mine.room3 (by with_reducible assumption) (by decide) | exact Mine.room2 (by with_reducible assumption) (by decide) | omega))
local macro_rules | `(tactic| ktr_units) => `(tactic| ((try simp only [units_in1, units_deeper, Around.mark_units, units_caller]); (try dsimp only [ktrTop, Around.deeper]); first | exact Mine.room3 (by with_reducible assumption) (by decide) | exact Mine.room2 (by with_reducible assumption) (by decide) | omega))
local macro_rules | `(tactic| k_units) => `(tactic| ((try dsimp only [ktrTop, Around.deeper, Around.in1]); (try simp only [cLine] at *); omega))
local macro_rules | `(tactic| walk_at "call ref") => `(tactic| (k_here; (with_reducible show wpAny _ _ (call (Value.ref 28) [Value.int _ _, Value.int _ _]) _ _ _); k_dflt (refine' Mine.call_use ?k1 ?k2 ?k3 ?k4 ?k5 ?kK (Mine.c_inv _ _ _ _ _ _ _ _ _ _ ?h1 ?h2 ?h3 ?h4) ?kd ?ku ?_; (case k1 => k_asm); (case k2 => k_asm); (case k3 => k_asm); (case k4 => k_asm); (case k5 => k_asm); (case kK => first | exact rfl | assumption); (case h1 => omega); (case h2 => omega); (case h3 => omega); (case h4 => assumption); (case kd => ktr_room); (case ku => ktr_units)); intro v9 v0' v1' v2' t9 h9 tk9 F9 N9; (try dsimp only); (try k_fold); (try k_sweep)))
local macro_rules | `(tactic| walk_at "call ref") => `(tactic| (k_here; (with_reducible show wpAny _ _ (call (Value.ref 112) [Value.int _ _, Value.int _ _]) _ _ _); k_dflt (refine' Mine.call_use ?k1 ?k2 ?k3 ?k4 ?k5 ?kK (Mine.c_pinv _ _ _ _ _ _ _ _ _ _ ?h1 ?h2 ?h3 ?h4) ?kd ?ku ?_; (case k1 => k_asm); (case k2 => k_asm); (case k3 => k_asm); (case k4 => k_asm); (case k5 => k_asm); (case kK => first | exact rfl | assumption); (case h1 => omega); (case h2 => omega); (case h3 => omega); (case h4 => assumption); (case kd => ktr_room); (case ku => ktr_units)); intro v9 v0' v1' v2' t9 h9 tk9 F9 N9; (try dsimp only); (try k_fold); (try k_sweep)))
local macro_rules | `(tactic| walk_at "binaryOp Div ref ref") => `(tactic| (k_here; (with_reducible show wpAny _ _ (binaryOp _ (Value.ref _) (Value.ref _)) _ _ _); k_dflt (refine' binop_K ?k1 ?k2 ?k3 ?k4 ?k5 ?k6 ?k7 ?_; (case k1 => k_asm); (case k2 => k_asm); (case k3 => k_inst); (case k4 => k_typeOf); (case k5 => k_is); (case k6 => k_is); (case k7 => k_is); k_whole)))
local macro_rules | `(tactic| walk_at "binaryOp Mult int ref") => `(tactic| (k_here; (with_reducible show wpAny _ _ (binaryOp _ (Value.int _ _) (Value.ref _)) _ _ _); k_dflt (refine' Mine.rmul_K ?k1 ?k2 ?k3 ?kp ?k4 ?k5 ?k6 ?k7 ?k8 ?_; (case k1 => k_asm); (case k2 => k_asm); (case k3 => k_inst); (case kp => rfl); (case k4 => k_is); (case k5 => k_is); (case k6 => k_is); (case k7 => k_is); (case k8 => k_is); k_whole)))
local macro_rules | `(tactic| walk_at "call ref") => `(tactic| (k_here; (with_reducible show wpAny _ _ (call (Value.ref 255) [Value.int _ _, Value.int _ _]) _ _ _); k_dflt (refine' Mine.call_use ?k1 ?k2 ?k3 ?k4 ?k5 ?kK (Mine.c_fq1 _ _ _ _ _ _ _ _ _ _ ?h1 ?h2) ?kd ?ku ?_; (case k1 => k_asm); (case k2 => k_asm); (case k3 => k_asm); (case k4 => k_asm); (case k5 => k_asm); (case kK => first | exact rfl | assumption); (case h1 => first | with_reducible assumption | omega); (case h2 => first | with_reducible assumption | omega); (case kd => ktr_room); (case ku => ktr_units)); intro n9 e9 b9 b9' x9 d9 k91 k92 t91 t92 h9 tk9 F9 N9; (try dsimp only); (try k_fold); (try k_sweep)))
local macro_rules | `(tactic| walk_at "call ref") => `(tactic| (k_here; (with_reducible show wpAny _ _ (call (Value.ref 417) [Value.int _ _, Value.int _ _]) _ _ _); k_dflt (refine' Mine.call_use ?k1 ?k2 ?k3 ?k4 ?k5 ?kK (Mine.c_fq2 _ _ _ _ _ _ _ _ _ _ ?h1 ?h2) ?kd ?ku ?_; (case k1 => k_asm); (case k2 => k_asm); (case k3 => k_asm); (case k4 => k_asm); (case k5 => k_asm); (case kK => first | exact rfl | assumption); (case h1 => first | with_reducible assumption | omega); (case h2 => first | with_reducible assumption | omega); (case kd => ktr_room); (case ku => ktr_units)); intro n9 e9 b9 b9' x9 d9 k91 k92 t91 t92 h9 tk9 F9 N9; (try dsimp only); (try k_fold); (try k_sweep)))
local macro_rules | `(tactic| walk_at "binaryOp Mult ref ref") => `(tactic| (k_here; (with_reducible show wpAny _ _ (binaryOp _ (Value.ref _) (Value.ref _)) _ _ _); k_dflt (refine' Mine.op_use ?k1 ?k2 ?k3 ?k4 ?k5 ?kK (Mine.c_mul2 _ _ _ _ _ _ ?hx ?hx2 ?hy ?hy2 ?hP ?hP2 ?ha ?ha2 ?hb ?hb2) ?kd ?ku ?_; (case k1 => k_asm); (case k2 => k_asm); (case k3 => k_asm); (case k4 => k_asm); (case k5 => k_asm); (case kK => first | exact rfl | assumption); (case hx => k_mem); (case hx2 => k_mem); (case hy => k_mem); (case hy2 => k_mem); (case hP => first | with_reducible assumption | omega); (case hP2 => first | with_reducible assumption | omega); (case ha => first | with_reducible assumption | omega); (case ha2 => first | with_reducible assumption | omega); (case hb => first | with_reducible assumption | omega); (case hb2 => first | with_reducible assumption | omega); (case kd => ktr_room); (case ku => ktr_units)); intro n9 e9 b9 b9' x9 d9 k91 k92 t91 t92 h9 tk9 F9 N9; (try dsimp only); (try k_fold); (try k_sweep)))
local macro_rules | `(tactic| walk_at "binaryOp Mult ref int") => `(tactic| (k_here; (with_reducible show wpAny _ _ (binaryOp _ (Value.ref _) (Value.int _ _)) _ _ _); k_dflt (refine' Mine.op_use ?k1 ?k2 ?k3 ?k4 ?k5 ?kK (Mine.c_mulI2 _ _ _ _ _ _ ?hx ?hx2 _ _ ?hP ?hP2 ?ha ?ha2) ?kd ?ku ?_; (case k1 => k_asm); (case k2 => k_asm); (case k3 => k_asm); (case k4 => k_asm); (case k5 => k_asm); (case kK => first | exact rfl | assumption); (case hx => k_mem); (case hx2 => k_mem); (case hP => first | with_reducible assumption | omega); (case hP2 => first | with_reducible assumption | omega); (case ha => first | with_reducible assumption | omega); (case ha2 => first | with_reducible assumption | omega); (case kd => ktr_room); (case ku => ktr_units)); intro n9 e9 b9 b9' x9 d9 k91 k92 t91 t92 h9 tk9 F9 N9; (try dsimp only); (try k_fold); (try k_sweep)))
local macro_rules | `(tactic| walk_at "binaryOp Sub ref ref") => `(tactic| (k_here; (with_reducible show wpAny _ _ (binaryOp _ (Value.ref _) (Value.ref _)) _ _ _); k_dflt (refine' Mine.op_use ?k1 ?k2 ?k3 ?k4 ?k5 ?kK (Mine.c_sub2 _ _ _ _ _ _ ?hx ?hx2 ?hy ?hy2 ?hP ?hP2 ?ha ?ha2 ?hb ?hb2) ?kd ?ku ?_; (case k1 => k_asm); (case k2 => k_asm); (case k3 => k_asm); (case k4 => k_asm); (case k5 => k_asm); (case kK => first | exact rfl | assumption); (case hx => k_mem); (case hx2 => k_mem); (case hy => k_mem); (case hy2 => k_mem); (case hP => first | with_reducible assumption | omega); (case hP2 => first | with_reducible assumption | omega); (case ha => first | with_reducible assumption | omega); (case ha2 => first | with_reducible assumption | omega); (case hb => first | with_reducible assumption | omega); (case hb2 => first | with_reducible assumption | omega); (case kd => ktr_room); (case ku => ktr_units)); intro n9 e9 b9 b9' x9 d9 k91 k92 t91 t92 h9 tk9 F9 N9; (try dsimp only); (try k_fold); (try k_sweep)))
local macro_rules | `(tactic| walk_at "compareOp Eq ref ref") => `(tactic| (k_here; (with_reducible show wpAny _ _ (compareOp _ (Value.ref _) (Value.ref _)) _ _ _); k_dflt (refine' Mine.op_use ?k1 ?k2 ?k3 ?k4 ?k5 ?kK (Mine.c_eqY2 _ _ _ _ _ _ ?hx ?hx2 ?hy ?hy2 ?he) ?kd ?ku ?_; (case k1 => k_asm); (case k2 => k_asm); (case k3 => k_asm); (case k4 => k_asm); (case k5 => k_asm); (case kK => first | exact rfl | assumption); (case hx => k_mem); (case hx2 => k_mem); (case hy => k_mem); (case hy2 => k_mem); (case he => first | omega | k_extra "eq"); (case kd => ktr_room); (case ku => ktr_units)); intro h9 tk9 F9 N9; (try dsimp only); (try k_fold); (try k_sweep)))
local macro_rules | `(tactic| walk_at "compareOp Eq ref ref") => `(tactic| (k_here; (with_reducible show wpAny _ _ (compareOp _ (Value.ref _) (Value.ref _)) _ _ _); k_dflt (refine' Mine.op_use ?k1 ?k2 ?k3 ?k4 ?k5 ?kK (Mine.c_eqN2 _ _ _ _ _ _ ?hx ?hx2 ?hy ?hy2 ?he) ?kd ?ku ?_; (case k1 => k_asm); (case k2 => k_asm); (case k3 => k_asm); (case k4 => k_asm); (case k5 => k_asm); (case kK => first | exact rfl | assumption); (case hx => k_mem); (case hx2 => k_mem); (case hy => k_mem); (case hy2 => k_mem); (case he => first | omega | k_extra "ne"); (case kd => ktr_room); (case ku => ktr_units)); intro h9 tk9 F9 N9; (try dsimp only); (try k_fold); (try k_sweep)))
local macro_rules | `(tactic| walk_at "binaryOp Mult int ref") => `(tactic| (k_here; (with_reducible show wpAny _ _ (binaryOp _ (Value.int _ _) (Value.ref _)) _ _ _); k_dflt (refine' Mine.op_use ?k1 ?k2 ?k3 ?k4 ?k5 ?kK (Mine.c_rmul2 _ _ _ _ _ _ ?hx ?hx2 _ _ ?hP ?hP2 ?ha ?ha2) ?kd ?ku ?_; (case k1 => k_asm); (case k2 => k_asm); (case k3 => k_asm); (case k4 => k_asm); (case k5 => k_asm); (case kK => first | exact rfl | assumption); (case hx => k_mem); (case hx2 => k_mem); (case hP => first | with_reducible assumption | omega); (case hP2 => first | with_reducible assumption | omega); (case ha => first | with_reducible assumption | omega); (case ha2 => first | with_reducible assumption | omega); (case kd => ktr_room); (case ku => ktr_units)); intro n9 e9 b9 b9' x9 d9 k91 k92 t91 t92 h9 tk9 F9 N9; (try dsimp only); (try k_fold); (try k_sweep)))
local macro_rules | `(tactic| walk_at "call ref") => `(tactic| (k_here; (with_reducible show wpAny _ _ (call (Value.ref 435) [Value.ref _]) _ _ _); k_dflt (refine' Mine.call_use ?k1 ?k2 ?k3 ?k4 ?k5 ?kK (Mine.c_odbl _ _ _ _ _ _ ?hG ?hp1 ?hx1 ?hX1 ?hy1 ?hY1 ?hz1 ?hZ1 ?hi1 ?J1) ?kd ?ku ?_; (case k1 => k_asm); (case k2 => k_asm); (case k3 => k_asm); (case k4 => k_asm); (case k5 => k_asm); (case kK => first | exact rfl | assumption); (case hp1 => k_mem); (case hx1 => k_mem); (case hX1 => k_mem); (case hy1 => k_mem); (case hY1 => k_mem); (case hz1 => k_mem); (case hZ1 => k_mem); (case hG => with_reducible assumption); (case J1 => with_reducible assumption); (case hi1 => first | with_reducible assumption | k_extra "nz"); (case kd => ktr_room); (case ku => ktr_units)); intro x9 y9 z9 J9 r9 ax9 dx9 ay9 dy9 az9 dz9 c9 k19 k29 t19 t29 l19 l29 s19 s29 o19 o29 q19 q29 h9 tk9 F9 N9; (try dsimp only); (try k_fold); (try k_sweep)))
local macro_rules | `(tactic| walk_at "call ref") => `(tactic| (k_here; (with_reducible show wpAny _ _ (call (Value.ref 442) [Value.ref _, Value.ref _]) _ _ _); k_dflt (refine' Mine.call_use ?k1 ?k2 ?k3 ?k4 ?k5 ?kK (Mine.c_oadd0 _ _ _ _ _ _ ?hG ?hp1 ?hx1 ?hX1 ?hy1 ?hY1 ?hz1 ?hZ1 ?hp2 ?hx2 ?hX2 ?hy2 ?hY2 ?hz2 ?hZ2 ?hi1 ?hs ?J1 ?J2) ?kd ?ku ?_; (case k1 => k_asm); (case k2 => k_asm); (case k3 => k_asm); (case k4 => k_asm); (case k5 => k_asm); (case kK => first | exact rfl | assumption); (case hp1 => k_mem); (case hx1 => k_mem); (case hX1 => k_mem); (case hy1 => k_mem); (case hY1 => k_mem); (case hz1 => k_mem); (case hZ1 => k_mem); (case hp2 => k_mem); (case hx2 => k_mem); (case hX2 => k_mem); (case hy2 => k_mem); (case hY2 => k_mem); (case hz2 => k_mem); (case hZ2 => k_mem); (case hG => with_reducible assumption); (case J1 => with_reducible assumption); (case J2 => with_reducible assumption); (case hi1 => first | with_reducible assumption | k_extra "nz"); (case hs => first | with_reducible assumption | k_extra "nz"); (case kd => ktr_room); (case ku => ktr_units)); intro x9 y9 z9 e9 r9 ax9 dx9 ay9 dy9 az9 dz9 c9 k19 k29 t19 t29 l19 l29 s19 s29 o19 o29 q19 q29 h9 tk9 F9 N9; (try dsimp only); (try k_fold); (try k_sweep)))
local macro_rules | `(tactic| walk_at "call ref") => `(tactic| (k_here; (with_reducible show wpAny _ _ (call (Value.ref 442) [Value.ref _, Value.ref _]) _ _ _); k_dflt (refine' Mine.call_use ?k1 ?k2 ?k3 ?k4 ?k5 ?kK (Mine.c_oadd _ _ _ _ _ _ ?hG ?hp1 ?hx1 ?hX1 ?hy1 ?hY1 ?hz1 ?hZ1 ?hp2 ?hx2 ?hX2 ?hy2 ?hY2 ?hz2 ?hZ2 ?hi1 ?hi2 ?hij ?hs ?J1 ?J2) ?kd ?ku ?_; (case k1 => k_asm); (case k2 => k_asm); (case k3 => k_asm); (case k4 => k_asm); (case k5 => k_asm); (case kK => first | exact rfl | assumption); (case hp1 => k_mem); (case hx1 => k_mem); (case hX1 => k_mem); (case hy1 => k_mem); (case hY1 => k_mem); (case hz1 => k_mem); (case hZ1 => k_mem); (case hp2 => k_mem); (case hx2 => k_mem); (case hX2 => k_mem); (case hy2 => k_mem); (case hY2 => k_mem); (case hz2 => k_mem); (case hZ2 => k_mem); (case hG => with_reducible assumption); (case J1 => with_reducible assumption); (case J2 => with_reducible assumption); (case hi1 => first | with_reducible assumption | k_extra "nz"); (case hi2 => first | with_reducible assumption | k_extra "nz"); (case hij => first | with_reducible assumption | k_extra "nz"); (case hs => first | with_reducible assumption | k_extra "nz"); (case kd => ktr_room); (case ku => ktr_units)); intro x9 y9 z9 J9 r9 ax9 dx9 ay9 dy9 az9 dz9 c9 k19 k29 t19 t29 l19 l29 s19 s29 o19 o29 q19 q29 h9 tk9 F9 N9; (try dsimp only); (try k_fold); (try k_sweep)))
local macro_rules | `(tactic| walk_at "call ref") => `(tactic| (k_here; (with_reducible show wpAny _ _ (call (Value.ref 428) [Value.ref _]) _ _ _); k_dflt (refine' Mine.call_use ?k1 ?k2 ?k3 ?k4 ?k5 ?kK (Mine.c_oinfN _ _ _ _ _ _ ?hG ?hp1 ?hx1 ?hX1 ?hy1 ?hY1 ?hz1 ?hZ1 ?hn ?hn2) ?kd ?ku ?_; (case k1 => k_asm); (case k2 => k_asm); (case k3 => k_asm); (case k4 => k_asm); (case k5 => k_asm); (case kK => first | exact rfl | assumption); (case hp1 => k_mem); (case hx1 => k_mem); (case hX1 => k_mem); (case hy1 => k_mem); (case hY1 => k_mem); (case hz1 => k_mem); (case hZ1 => k_mem); (case hG => with_reducible assumption); (case hn => omega); (case hn2 => omega); (case kd => ktr_room); (case ku => ktr_units)); intro h9 tk9 F9 N9; (try dsimp only); (try k_fold); (try k_sweep)))
local macro_rules | `(tactic| walk_at "call ref") => `(tactic| (k_here; (with_reducible show wpAny _ _ (call (Value.ref 428) [Value.ref _]) _ _ _); k_dflt (refine' Mine.call_use ?k1 ?k2 ?k3 ?k4 ?k5 ?kK (Mine.c_oinfY _ _ _ _ _ _ ?hG ?hp1 ?hx1 ?hX1 ?hy1 ?hY1 ?hz1 ?hZ1 ?hn) ?kd ?ku ?_; (case k1 => k_asm); (case k2 => k_asm); (case k3 => k_asm); (case k4 => k_asm); (case k5 => k_asm); (case kK => first | exact rfl | assumption); (case hp1 => k_mem); (case hx1 => k_mem); (case hX1 => k_mem); (case hy1 => k_mem); (case hY1 => k_mem); (case hz1 => k_mem); (case hZ1 => k_mem); (case hG => with_reducible assumption); (case hn => omega); (case kd => ktr_room); (case ku => ktr_units)); intro h9 tk9 F9 N9; (try dsimp only); (try k_fold); (try k_sweep)))
local macro_rules | `(tactic| walk_at "call ref") => `(tactic| (k_here; (with_reducible show wpAny _ _ (call (Value.ref 456) [Value.ref _, Value.ref _]) _ _ _); k_dflt (refine' Mine.call_use ?k1 ?k2 ?k3 ?k4 ?k5 ?kK (Mine.c_oeq _ _ _ _ _ _ ?hG ?hp1 ?hx1 ?hX1 ?hy1 ?hY1 ?hz1 ?hZ1 ?hp2 ?hx2 ?hX2 ?hy2 ?hY2 ?hz2 ?hZ2 ?hX ?hY ?J1 ?J2) ?kd ?ku ?_; (case k1 => k_asm); (case k2 => k_asm); (case k3 => k_asm); (case k4 => k_asm); (case k5 => k_asm); (case kK => first | exact rfl | assumption); (case hp1 => k_mem); (case hx1 => k_mem); (case hX1 => k_mem); (case hy1 => k_mem); (case hY1 => k_mem); (case hz1 => k_mem); (case hZ1 => k_mem); (case hp2 => k_mem); (case hx2 => k_mem); (case hX2 => k_mem); (case hy2 => k_mem); (case hY2 => k_mem); (case hz2 => k_mem); (case hZ2 => k_mem); (case hG => with_reducible assumption); (case J1 => with_reducible assumption); (case J2 => with_reducible assumption); (case hX => first | with_reducible assumption | k_extra "eqX"); (case hY => first | with_reducible assumption | k_extra "eqY"); (case kd => ktr_room); (case ku => ktr_units)); intro h9 tk9 F9 N9; (try dsimp only); (try k_fold); (try k_sweep)))
namespace Mine
section
variable (w : World) (loo : List Str) (mean : ExcName → Option Value) (mg mb : Str → Option Value) {C : Cv} (G : Good C)
include G
set_option maxRecDepth 100000 in
set_option maxHeartbeats 8000000 in
theorem s_omul : ∀ (k : Nat) (n i1 x1 y1 z1 : Int), i1 % C.N ≠ 0 → Prj C i1 x1 y1 z1 → 1 ≤ n → n < C.N → n.toNat = k → ∀ {news : Led} {p1 ax1 dx1 ay1 dy1 az1 dz1 : Addr} {c1 : Nat} {k11 k21 t11 t21 l11 l21 s11 s21 o11 o21 q11 q21 : Tok} {tn : Tok} (_ : (p1, tupR3 ax1 ay1 az1 c1) ∈ news) (_ : (ax1, instObj 417 dx1) ∈ news) (_ : (dx1, fqD w C.P x1 k11 k21 t11 t21) ∈ news) (_ : (ay1, instObj 417 dy1) ∈ news) (_ : (dy1, fqD w C.P y1 l11 l21 s11 s21) ∈ news) (_ : (az1, instObj 417 dz1) ∈ news) (_ : (dz1, fqD w C.P z1 o11 o21 q11 q21) ∈ news),
    Call w loo mean mg mb 449 (k + 20) (16 * k + 300) news [.ref p1, .int n tn] (fun h₀ L m s Q => ∀ x y z : Int, Prj C (n * i1) x y z → RetA3 w news C.P x y z h₀ L m s Q) := by
  intro k
  induction k using Nat.strongRecOn with
  | _ k IH =>
  intro n i1 x1 y1 z1 hi1 J1 hn hN ek news p1 ax1 dx1 ay1 dy1 az1 dz1 c1 k11 k21 t11 t21 l11 l21 s11 s21 o11 o21 q11 q21 tn hp1 hx1 hX1 hy1 hY1 hz1 hZ1
  unfold Call
  k_fill
  k_with_none
  intro dp un gd cn cs a ccd cl outer A₀ base h₀ L m s Q E B' F X' N' T hk hd hu hret
  have p5 := G.p5
  have p127 := G.p127
  by_cases h1 : n = 1
  · rw [h1, Int.one_mul] at hret
    refine wpAny_call ?_
    k_dflt cell_enter
    w_strict (k_steps; all_goals exact hret _ _ _ J1 _ _ _ _ _ _ _ _ _ _ _ _ _ _ _ _ _ _ _ _ _ _ (by assumption) (Mine.led7 (by assumption) (by k_mem) (by k_mem) (by k_mem) (by k_mem) (by k_mem) (by k_mem) (by k_mem) (fun _ hp => by simp only [List.mem_cons, hp, or_true])))
  have h2 : 2 ≤ n := by omega
  k_with "call ref" => ((with_reducible show wpAny _ _ (call (Value.ref 449) [Value.ref _, Value.int _ _]) _ _ _); k_dflt (refine Mine.call_use (by k_asm) (by k_asm) (by k_asm) (by k_asm) (by k_asm) (by first | exact rfl | assumption) (IH (Int.toNat _) (by omega) _ _ _ _ _ (by exact nz2 G hi1) (by with_reducible assumption) (by omega) (by omega) rfl (by k_mem) (by k_mem) (by k_mem) (by k_mem) (by k_mem) (by k_mem) (by k_mem)) (by ktr_room) (by ktr_units) ?_); intro x9 y9 z9 J9 r9 ax9 dx9 ay9 dy9 az9 dz9 c9 k19 k29 t19 t29 l19 l29 s19 s29 o19 o29 q19 q29 h9 tk9 F9 N9; (try dsimp only); (try k_fold); (try k_sweep))
  k_with "nz" => first | exact nzr G hi1 h2 hN (by with_reducible assumption)
  rcases Int.emod_two_eq n with hm | hm
  · refine wpAny_call ?_
    k_dflt cell_enter
    w_strict (k_steps; all_goals ((rw [Mine.hev (by assumption) hm] at hret); exact hret _ _ _ (by with_reducible assumption) _ _ _ _ _ _ _ _ _ _ _ _ _ _ _ _ _ _ _ _ _ _ (by assumption) (Mine.led7 (by assumption) (by k_mem) (by k_mem) (by k_mem) (by k_mem) (by k_mem) (by k_mem) (by k_mem) (fun _ hp => by simp only [List.mem_cons, hp, or_true]))))
  · k_with "nz" => first | exact nzd G hi1 h2 hN hm (by with_reducible assumption) | exact nzs G hi1 h2 hN hm (by with_reducible assumption)
    refine wpAny_call ?_
    k_dflt cell_enter
    w_strict (k_steps; all_goals ((rw [Mine.hod (by assumption) hm] at hret); exact hret _ _ _ (by with_reducible assumption) _ _ _ _ _ _ _ _ _ _ _ _ _ _ _ _ _ _ _ _ _ _ (by assumption) (Mine.led7 (by assumption) (by k_mem) (by k_mem) (by k_mem) (by k_mem) (by k_mem) (by k_mem) (by k_mem) (fun _ hp => by simp only [List.mem_cons, hp, or_true]))))
end
end Mine
end
section
local macro_rules | `(tactic| walk_at "eval Name") => `(tactic| (k_here; name_kind "globalImplicit"; k_dflt (refine' nameX_K ?F ?X ?T ?e ?_ ?a ?b; (case F => k_asm); (case X => k_asm); (case T => k_asm); (case a => rfl); (case b => rfl); (case e => k_is); k_whole)))
local macro_rules | `(tactic| walk_at "eval Name") => `(tactic| (k_here; name_kind "local"; k_dflt (refine' nameX_L ?F ?v ?_ ?a ?b; (case F => k_asm); (case a => rfl); (case b => rfl); (case v => rfl); k_whole)))

local macro_rules | `(tactic| walk_at "binaryOp Mod int int") => `(tactic| (k_here; (with_reducible refine Mine.modG ?_ ?_); (omega); intro r' e' b0' b1'))
local macro_rules | `(tactic| walk_at "inplaceOp Mod int int") => `(tactic| (k_here; (with_reducible refine Mine.imodG ?_ ?_); (omega); intro r' e' b0' b1'))
local macro_rules | `(tactic| walk_at "binaryOp FloorDiv int int") => `(tactic| (k_here; (with_reducible refine Mine.fdivG ?_ ?_ ?_); (omega); (omega); intro r' e'))
local macro_rules | `(tactic| walk_at "binaryOp Pow int int") => `(tactic| (k_here; (with_reducible first | refine Mine.pow2G ?_ ?_ ?_ | refine Mine.pow3G ?_ ?_ ?_ | refine Mine.pow4G ?_ ?_ ?_); (omega); (omega)))
local macro_rules | `(tactic| walk_at "binaryOp Mult int int") => `(tactic| (k_here; first | ((with_reducible refine Mine.mulL ?_ ?_ ?_); (omega); (omega)) | ((with_reducible refine Mine.mulR ?_ ?_ ?_); (omega); (omega))))
local macro_rules | `(tactic| walk_at "compareOp Eq int int") => `(tactic| (k_here; first | ((with_reducible refine Mine.eqY ?_ ?_); (omega)) | ((with_reducible refine Mine.eqN ?_ ?_); (omega))))
local macro_rules | `(tactic| walk_at "compareOp NotEq int int") => `(tactic| (k_here; first | ((with_reducible refine Mine.neY ?_ ?_); (omega)) | ((with_reducible refine Mine.neN ?_ ?_); (omega))))
local macro_rules | `(tactic| walk_at "compareOp Lt int int") => `(tactic| (k_here; first | ((with_reducible refine Mine.ltY ?_ ?_); (omega)) | ((with_reducible refine Mine.ltN ?_ ?_); (omega))))
local macro_rules | `(tactic| walk_at "compareOp GtE int int") => `(tactic| (k_here; first | ((with_reducible refine Mine.geY ?_ ?_); (omega)) | ((with_reducible refine Mine.geN ?_ ?_); (omega))))
local macro_rules | `(tactic| walk_at "truthy int") => `(tactic| (k_here; first | ((with_reducible refine Mine.truthyY ?_ ?_); (omega)) | ((with_reducible refine Mine.truthyN ?_ ?_); (omega))))
local macro_rules | `(tactic| walk_at "subscriptTail Name Constant ref int") => `(tactic| (k_here; k_dflt (refine' Mine.itemG ?k1 ?k2 ?k3 ?k4 ?k5 ?k6 ?_; (case k1 => k_asm); (case k2 => k_mem); (case k3 => decide); (case k4 => decide); (case k5 => rfl); (case k6 => rfl); k_whole)))
local macro_rules | `(tactic| k_room) => `(tactic| ktr_room)
local macro_rules | `(tactic| k_enter) => `(tactic| cell_enter)
local macro_rules | `(tactic| walk_at "KswEnd") => `(tactic| k_extra "KswEnd")
local macro_rules | `(tactic| walk_at "call ref") => `(tactic| (k_here; k_extra "call ref"))
local macro_rules | `(tactic| k_mem) => `(tactic| first | exact List.Mem.head _ | with_reducible assumption | (refine' List.mem_cons_of_mem _ ?_; k_mem))
local macro_rules | `(tactic| k_all) => `(tactic| first | exact Mine.allLt_ne (by assumption) | exact Mine.allLt_ne' (by assumption) | exact List.forall_mem_nil _ | (refine' List.forall_mem_cons.mpr ⟨?a, ?b⟩; (case a => k_ne); (case b => k_all)))
local macro_rules | `(tactic| ktr_room) => `(tactic| ((try simp only [depth_under_make, depth_under_kw, depth_in1, depth_deeper, depth_caller]); (try dsimp only [ktrTop, Around.deeper]); first | exact Mine.room3 (by with_reducible assumption) (by decide) | exact Mine.room2 (by with_reducible assumption) (by decide) | omega))
local macro_rules | `(tactic| ktr_units) => `(tactic| ((try simp only [units_in1, units_deeper, Around.mark_units, units_caller]); (try dsimp only [ktrTop, Around.deeper]); first | exact Mine.room3 (by with_reducible assumption) (by decide) | exact Mine.room2 (by with_reducible assumption) (by decide) | omega))
local macro_rules | `(tactic| k_units) => `(tactic| ((try dsimp only [ktrTop, Around.deeper, Around.in1]); (try simp only [cLine] at *); omega))
local macro_rules | `(tactic| walk_at "call ref") => `(tactic| (k_here; (with_reducible show wpAny _ _ (call (Value.ref 28) [Value.int _ _, Value.int _ _]) _ _ _); k_dflt (refine' Mine.call_use ?k1 ?k2 ?k3 ?k4 ?k5 ?kK (Mine.c_inv _ _ _ _ _ _ _ _ _ _ ?h1 ?h2 ?h3 ?h4) ?kd ?ku ?_; (case k1 => k_asm); (case k2 => k_asm); (case k3 => k_asm); (case k4 => k_asm); (case k5 => k_asm); (case kK => first | exact rfl | assumption); (case h1 => omega); (case h2 => omega); (case h3 => omega); (case h4 => assumption); (case kd => ktr_room); (case ku => ktr_units)); intro v9 v0' v1' v2' t9 h9 tk9 F9 N9; (try dsimp only); (try k_fold); (try k_sweep)))
local macro_rules | `(tactic| walk_at "call ref") => `(tactic| (k_here; (with_reducible show wpAny _ _ (call (Value.ref 112) [Value.int _ _, Value.int _ _]) _ _ _); k_dflt (refine' Mine.call_use ?k1 ?k2 ?k3 ?k4 ?k5 ?kK (Mine.c_pinv _ _ _ _ _ _ _ _ _ _ ?h1 ?h2 ?h3 ?h4) ?kd ?ku ?_; (case k1 => k_asm); (case k2 => k_asm); (case k3 => k_asm); (case k4 => k_asm); (case k5 => k_asm); (case kK => first | exact rfl | assumption); (case h1 => omega); (case h2 => omega); (case h3 => omega); (case h4 => assumption); (case kd => ktr_room); (case ku => ktr_units)); intro v9 v0' v1' v2' t9 h9 tk9 F9 N9; (try dsimp only); (try k_fold); (try k_sweep)))
local macro_rules | `(tactic| walk_at "call ref") => `(tactic| (k_here; (with_reducible show wpAny _ _ (call (Value.ref 255) [Value.int _ _, Value.int _ _]) _ _ _); k_dflt (refine' Mine.call_use ?k1 ?k2 ?k3 ?k4 ?k5 ?kK (Mine.c_fq1 _ _ _ _ _ _ _ _ _ _ ?h1 ?h2) ?kd ?ku ?_; (case k1 => k_asm); (case k2 => k_asm); (case k3 => k_asm); (case k4 => k_asm); (case k5 => k_asm); (case kK => first | exact rfl | assumption); (case h1 => first | with_reducible assumption | omega); (case h2 => first | with_reducible assumption | omega); (case kd => ktr_room); (case ku => ktr_units)); intro n9 e9 b9 b9' x9 d9 k91 k92 t91 t92 h9 tk9 F9 N9; (try dsimp only); (try k_fold); (try k_sweep)))
local macro_rules | `(tactic| walk_at "call ref") => `(tactic| (k_here; (with_reducible show wpAny _ _ (call (Value.ref 417) [Value.int _ _, Value.int _ _]) _ _ _); k_dflt (refine' Mine.call_use ?k1 ?k2 ?k3 ?k4 ?k5 ?kK (Mine.c_fq2 _ _ _ _ _ _ _ _ _ _ ?h1 ?h2) ?kd ?ku ?_; (case k1 => k_asm); (case k2 => k_asm); (case k3 => k_asm); (case k4 => k_asm); (case k5 => k_asm); (case kK => first | exact rfl | assumption); (case h1 => first | with_reducible assumption | omega); (case h2 => first | with_reducible assumption | omega); (case kd => ktr_room); (case ku => ktr_units)); intro n9 e9 b9 b9' x9 d9 k91 k92 t91 t92 h9 tk9 F9 N9; (try dsimp only); (try k_fold); (try k_sweep)))
namespace Mine
section
variable (w : World) (loo : List Str) (mean : ExcName → Option Value) (mg mb : Str → Option Value) (news : Led)
set_option maxRecDepth 100000 in
set_option maxHeartbeats 2000000 in
/-- a draw out of the script: some int -/
theorem c_at (k : Int) (tk : Tok) (hk0 : 0 ≤ k) (hk9 : k < 100) {l : Addr} {vs : List Value} {ns : List Int}
    (dp un : Nat) (gd : Option (List Code)) (cn : Str) (cs : Scope) (a : Addr) (ccd : Value) (cl : List (Str × Addr)) (outer : List Env) (A₀ : Around) (base h₀ : Heap) (L : Addr) (m : Str → Option Value) (s : Shared) (Q E : Value → Shared → Prop)
    (B' : Below A₀ base outer h₀) (F : Fr h₀ L s.heap m) (X' : (Mine.hd.heap_39 w.params).In h₀) (N' : News h₀ L s.heap news) (T : Top Mine.hd.view_39 loo mean mg mb h₀) (hk : cs.kind = .function)
    (hl : base.IsList l vs.toArray) (hi : IntsAre vs ns) (hfit : ns.length < 2 ^ 62) (hd : dp + 1 < recursionLimit) (hu : un + 16 < cLine) (hret : ∀ v : Int, RetInt news v h₀ L m s Q) :
    wpAny (model PySem.Challenge.rw_bq0013_01.row.prog w) (ktrTop dp un gd cn cs L a ccd cl outer) (call (.ref 470) [.ref l, .int k tk]) Q E s := by
  have KK := X'
  revert KK
  k_fill
  intro KK
  clear KK
  k_with_none
  refine wpAny_call ?_
  k_dflt cell_enter
  w_strict (k_steps; all_goals exact hret _ _ _ _ (by assumption) (by assumption))
end
section
variable (w : World) (loo : List Str) (mean : ExcName → Option Value) (mg mb : Str → Option Value) (news : Led) {C : Cv} (G : Good C) (p : Addr) {i j : Int} {t1 t2 : Tok} {c1 : Nat}
include G
set_option maxRecDepth 100000 in
set_option maxHeartbeats 2000000 in
/-- the turn of a point -/
theorem s_turn (v : Int) (tv tp : Tok) (hp : (p, tup2 (C.X i) (C.Y i) t1 t2 c1) ∈ news) (hv : C.X i * v % C.P = C.X j) (hy : C.Y i = C.Y j) :
    Call w loo mean mg mb 482 1 16 news [.ref p, .int v tv, .int C.P tp] (RetTup2 news (C.X j) (C.Y j)) := by
  unfold Call
  k_fill
  k_with_none
  intro dp un gd cn cs a ccd cl outer A₀ base h₀ L m s Q E B' F X' N' T hk hd hu hret
  have p5 := G.p5
  have p127 := G.p127
  have vx0 := G.x0 i
  have vx1 := G.x1 i
  rw [← hv, ← hy] at hret
  refine wpAny_call ?_
  k_dflt cell_enter
  w_strict (k_steps; all_goals (rename _ = _ => hh; rw [← hh] at hret; exact hret _ _ _ _ _ _ (by assumption) (by assumption)))
set_option maxRecDepth 100000 in
set_option maxHeartbeats 2000000 in
theorem s_plain (tp : Tok) (hp : (p, tup2 (C.X i) (C.Y i) t1 t2 c1) ∈ news) :
    Call w loo mean mg mb 496 4 60 news [.ref p, .int C.P tp] (RetA2 w news C.P (C.X i) (C.Y i)) := by
  unfold Call
  k_fill
  k_with_none
  intro dp un gd cn cs a ccd cl outer A₀ base h₀ L m s Q E B' F X' N' T hk hd hu hret
  have p5 := G.p5
  have p127 := G.p127
  refine wpAny_call ?_
  k_dflt cell_enter
  w_strict (k_steps; all_goals ((have z1 := plx G (i := i) (by with_reducible assumption)); (have z2 := ply G (i := i) (by with_reducible assumption)); (subst z1 z2); exact hret _ _ _ _ _ _ _ _ _ _ _ _ _ _ _ _ (by assumption) (Mine.led5 (by assumption) (by k_mem) (by k_mem) (by k_mem) (by k_mem) (by k_mem) (fun _ hp => by simp only [List.mem_cons, hp, or_true]))))
set_option maxRecDepth 100000 in
set_option maxHeartbeats 2000000 in
theorem s_quick (v : Int) (tv tp : Tok) (hv1 : 1 ≤ v) (hv2 : v < C.P) (hp : (p, tup2 (C.X i) (C.Y i) t1 t2 c1) ∈ news) :
    Call w loo mean mg mb 489 4 60 news [.ref p, .int v tv, .int C.P tp] (fun h₀ L m s Q => ∀ x y z : Int, Prj C i x y z → RetA3 w news C.P x y z h₀ L m s Q) := by
  unfold Call
  k_fill
  k_with_none
  intro dp un gd cn cs a ccd cl outer A₀ base h₀ L m s Q E B' F X' N' T hk hd hu hret
  have p5 := G.p5
  have p127 := G.p127
  have vx0 := G.x0 i
  have vx1 := G.x1 i
  have vy0 := G.y0 i
  have vy1 := G.y1 i
  refine wpAny_call ?_
  k_dflt cell_enter
  w_strict (k_steps; all_goals exact hret _ _ _ (prj_of G hv1 hv2 (by with_reducible assumption) (by with_reducible assumption) (by with_reducible assumption)) _ _ _ _ _ _ _ _ _ _ _ _ _ _ _ _ _ _ _ _ _ _ (by assumption) (Mine.led7 (by assumption) (by k_mem) (by k_mem) (by k_mem) (by k_mem) (by k_mem) (by k_mem) (by k_mem) (fun _ hp => by simp only [List.mem_cons, hp, or_true])))
end
end Mine
end
namespace Mine
section
variable {prog : Program} {w : World} {A : Around} {E : Value → Shared → Prop} {s : Shared} {h₀ : Heap} {L : Addr} {news : Led}
/-- two pairs of ints compared -/
theorem eqT2 {a b : Addr} {x1 y1 x2 y2 : Int} {t1 t2 u1 u2 : Tok} {n m : Nat} {Q : Value → Shared → Prop} (N : News h₀ L s.heap news) (ha : (a, tup2 x1 y1 t1 t2 n) ∈ news) (hb : (b, tup2 x2 y2 u1 u2 m) ∈ news) (hu : A.units + 64 < cLine)
    (h : Q (.bool (x1 == x2 && y1 == y2)) s) : wpAny (model prog w) A (compareOp .Eq (.ref a) (.ref b)) Q E s :=
  eq_dataH (reads_tuple_at (News.get N ha) rfl rfl (ReadsAll.cons (Reads.int _ _) (ReadsAll.cons (Reads.int _ _) ReadsAll.nil))) (reads_tuple_at (News.get N hb) rfl rfl (ReadsAll.cons (Reads.int _ _) (ReadsAll.cons (Reads.int _ _) ReadsAll.nil)))
    rfl rfl hu (by simpa only [PyData.eqv, PyData.eqvAll, Bool.and_true] using h)
theorem neT2 {a b : Addr} {x1 y1 x2 y2 : Int} {t1 t2 u1 u2 : Tok} {n m : Nat} {Q : Value → Shared → Prop} (N : News h₀ L s.heap news) (ha : (a, tup2 x1 y1 t1 t2 n) ∈ news) (hb : (b, tup2 x2 y2 u1 u2 m) ∈ news) (hu : A.units + 64 < cLine)
    (h : Q (.bool (!(x1 == x2 && y1 == y2))) s) : wpAny (model prog w) A (compareOp .NotEq (.ref a) (.ref b)) Q E s :=
  ne_dataH (reads_tuple_at (News.get N ha) rfl rfl (ReadsAll.cons (Reads.int _ _) (ReadsAll.cons (Reads.int _ _) ReadsAll.nil))) (reads_tuple_at (News.get N hb) rfl rfl (ReadsAll.cons (Reads.int _ _) (ReadsAll.cons (Reads.int _ _) ReadsAll.nil)))
    rfl rfl hu (by simpa only [PyData.eqv, PyData.eqvAll, Bool.and_true] using h)
/-- two pairs of instances compared, item by item -/
theorem eqR2 {a b u1 u2 v1 v2 : Addr} {n m : Nat} {Q : Value → Shared → Prop} (N : News h₀ L s.heap news) (ha : (a, tupR2 u1 u2 n) ∈ news) (hb : (b, tupR2 v1 v2 m) ∈ news) (hu : A.units < cLine)
    (h : wpAny (model prog w) A.in1 (eqBool (.ref u1) (.ref v1)) (fun r s1 => r = true ∧ wpAny (model prog w) A.in1 (eqBool (.ref u2) (.ref v2)) (fun r2 s2 => r2 = true ∧ Q (.bool true) s2) E s1) E s) :
    wpAny (model prog w) A (compareOp .Eq (.ref a) (.ref b)) Q E s := by
  have hTa : s.TypeIs (.ref a) "tuple" := (News.isTup N ha).typeIs
  have hTb : s.TypeIs (.ref b) "tuple" := (News.isTup N hb).typeIs
  refine cmp_ofEq ?_
  with_reducible refine wpAny_richCompare_same_room hTa hTb PyProof.Rows.slot_tuple_eq ?_ hu
  with_reducible refine wpAny_call_entry PyProof.Rows.slot_tuple_eq hTa PyProof.Rows.entry_tuple_eq ?_ (PyProof.Rows.args_tuple_eq _ _)
  show wpAny _ _ (isInstance (.ref b) (.type "tuple") >>= _) _ _ s
  refine wpAny_bind (wpAny_isInstance hTb isSubtype_tuple_tuple ?_)
  simp only [Bool.not_true, Bool.false_eq_true, if_false]
  refine wpAny_bind (wpAny_tupleItemsOf (News.get N ha) rfl ?_)
  refine wpAny_bind (wpAny_tupleItemsOf (News.get N hb) rfl ?_)
  refine wpAny_bind ?_
  simp only [List.zip_cons_cons, List.zip_nil_left, List.forIn_cons, List.forIn_nil]
  refine wpAny_bind (wpAny_bind (wpAny_mono h (fun r s1 hr => ?_) fun _ _ e => e))
  obtain ⟨rfl, h2⟩ := hr
  simp only [Bool.not_true, Bool.false_eq_true, if_false]
  refine wpAny_pure ?_
  refine wpAny_bind (wpAny_bind (wpAny_mono h2 (fun r s2 hr => ?_) fun _ _ e => e))
  obtain ⟨rfl, h3⟩ := hr
  simp only [Bool.not_true, Bool.false_eq_true, if_false]
  refine wpAny_pure (wpAny_pure ?_)
  exact wpAny_pure ⟨_, rfl, (fun e => nomatch e), h3⟩
theorem eqBool_own {x y : Addr} {Q : Bool → Shared → Prop} (h0 : Q true s) (h : wpAny (model prog w) A (compareOp .Eq (.ref x) (.ref y)) (fun v s' => v = .bool true ∧ Q true s') E s) : wpAny (model prog w) A (eqBool (.ref x) (.ref y)) Q E s := by
  unfold eqBool
  try with_reducible refine wpAny_holding ?_
  show wpAny _ _ (if (Value.ref x == Value.ref y) = true then _ else _) Q E s
  by_cases hab : (Value.ref x == Value.ref y) = true
  · rw [if_pos hab]
    exact wpAny_bind (wpAny_rule (wpAny_pure h0))
  · rw [if_neg hab]
    refine wpAny_bind (wpAny_mono (show wpAny (model prog w) A (richCompare .Eq (.ref x) (.ref y)) _ E s from h) (fun v s' hv => ?_) fun _ _ e => e)
    obtain ⟨rfl, hq⟩ := hv
    exact wpAny_truthy_bool hq
end
section
variable (w : World) (loo : List Str) (mean : ExcName → Option Value) (mg mb : Str → Option Value) (news : Led)
/-- two plain points of the same values -/
theorem s_eqPts {x y P : Int} {p1 ax1 dx1 ay1 dy1 : Addr} {c1 : Nat} {k11 k21 t11 t21 l11 l21 s11 s21 : Tok} {p2 ax2 dx2 ay2 dy2 : Addr} {c2 : Nat} {k12 k22 t12 t22 l12 l22 s12 s22 : Tok}
    (hp1 : (p1, tupR2 ax1 ay1 c1) ∈ news) (hx1 : (ax1, instObj 255 dx1) ∈ news) (hX1 : (dx1, fqD w P x k11 k21 t11 t21) ∈ news) (hy1 : (ay1, instObj 255 dy1) ∈ news) (hY1 : (dy1, fqD w P y l11 l21 s11 s21) ∈ news)
    (hp2 : (p2, tupR2 ax2 ay2 c2) ∈ news) (hx2 : (ax2, instObj 255 dx2) ∈ news) (hX2 : (dx2, fqD w P x k12 k22 t12 t22) ∈ news) (hy2 : (ay2, instObj 255 dy2) ∈ news) (hY2 : (dy2, fqD w P y l12 l22 s12 s22) ∈ news) :
    Op w loo mean mg mb (compareOp .Eq (.ref p1) (.ref p2)) 6 80 news (RetBool news true) := by
  intro dp un gd cn cs a ccd cl outer A₀ base h₀ L m s Q E B' F X' N' T hk hd hu hret
  refine eqR2 N' hp1 hp2 (Nat.lt_of_le_of_lt (Nat.le_add_right _ _) hu) ?_
  have second : ∀ h' tk', Fr h₀ L h' m → News h₀ L h' news → wpAny (model PySem.Challenge.rw_bq0013_01.row.prog w) (ktrTop dp (un + 1) gd cn cs L a ccd cl outer) (eqBool (.ref ay1) (.ref ay2)) (fun r2 s2 => r2 = true ∧ Q (.bool true) s2) E { s with heap := h', toks := tk' } := by
    intro h' tk' F1 N1
    refine eqBool_own ⟨rfl, hret _ _ F1 N1⟩ ?_
    refine c_eqY1 w loo mean mg mb news hy1 hY1 hy2 hY2 rfl _ _ _ _ _ _ _ _ _ _ _ _ _ _ _ _ _ B' F1 X' N1 T hk (by omega) (by omega) ?_
    intro h2 tk2 F2 N2
    exact ⟨rfl, rfl, hret _ _ F2 N2⟩
  refine eqBool_own (A := ktrTop dp (un + 1) gd cn cs L a ccd cl outer) ⟨rfl, second _ _ F N'⟩ ?_
  refine c_eqY1 w loo mean mg mb news hx1 hX1 hx2 hX2 rfl _ _ _ _ _ _ _ _ _ _ _ _ _ _ _ _ _ B' F X' N' T hk (by omega) (by omega) ?_
  intro h2 tk2 F2 N2
  exact ⟨rfl, rfl, second _ _ F2 N2⟩
end
end Mine
section
local macro_rules | `(tactic| walk_at "eval Name") => `(tactic| (k_here; name_kind "globalImplicit"; k_dflt (refine' nameX_K ?F ?X ?T ?e ?_ ?a ?b; (case F => k_asm); (case X => k_asm); (case T => k_asm); (case a => rfl); (case b => rfl); (case e => k_is); k_whole)))
local macro_rules | `(tactic| walk_at "eval Name") => `(tactic| (k_here; name_kind "local"; k_dflt (refine' nameX_L ?F ?v ?_ ?a ?b; (case F => k_asm); (case a => rfl); (case b => rfl); (case v => rfl); k_whole)))

local macro_rules | `(tactic| walk_at "binaryOp Mod int int") => `(tactic| (k_here; (with_reducible refine Mine.modG ?_ ?_); (omega); intro r' e' b0' b1'))
local macro_rules | `(tactic| walk_at "inplaceOp Mod int int") => `(tactic| (k_here; (with_reducible refine Mine.imodG ?_ ?_); (omega); intro r' e' b0' b1'))
local macro_rules | `(tactic| walk_at "binaryOp FloorDiv int int") => `(tactic| (k_here; (with_reducible refine Mine.fdivG ?_ ?_ ?_); (omega); (omega); intro r' e'))
local macro_rules | `(tactic| walk_at "binaryOp Pow int int") => `(tactic| (k_here; (with_reducible first | refine Mine.pow2G ?_ ?_ ?_ | refine Mine.pow3G ?_ ?_ ?_ | refine Mine.pow4G ?_ ?_ ?_); (omega); (omega)))
local macro_rules | `(tactic| walk_at "binaryOp Mult int int") => `(tactic| (k_here; first | ((with_reducible refine Mine.mulL ?_ ?_ ?_); (omega); (omega)) | ((with_reducible refine Mine.mulR ?_ ?_ ?_); (omega); (omega))))
local macro_rules | `(tactic| walk_at "compareOp Eq int int") => `(tactic| (k_here; first | ((with_reducible refine Mine.eqY ?_ ?_); (omega)) | ((with_reducible refine Mine.eqN ?_ ?_); (omega))))
local macro_rules | `(tactic| walk_at "compareOp NotEq int int") => `(tactic| (k_here; first | ((with_reducible refine Mine.neY ?_ ?_); (omega)) | ((with_reducible refine Mine.neN ?_ ?_); (omega))))
local macro_rules | `(tactic| walk_at "compareOp Lt int int") => `(tactic| (k_here; first | ((with_reducible refine Mine.ltY ?_ ?_); (omega)) | ((with_reducible refine Mine.ltN ?_ ?_); (omega))))
local macro_rules | `(tactic| walk_at "compareOp GtE int int") => `(tactic| (k_here; first | ((with_reducible refine Mine.geY ?_ ?_); (omega)) | ((with_reducible refine Mine.geN ?_ ?_); (omega))))
local macro_rules | `(tactic| walk_at "truthy int") => `(tactic| (k_here; first | ((with_reducible refine Mine.truthyY ?_ ?_); (omega)) | ((with_reducible refine Mine.truthyN ?_ ?_); (omega))))
local macro_rules | `(tactic| walk_at "subscriptTail Name Constant ref int") => `(tactic| (k_here; k_dflt (refine' Mine.itemG ?k1 ?k2 ?k3 ?k4 ?k5 ?k6 ?_; (case k1 => k_asm); (case k2 => k_mem); (case k3 => decide); (case k4 => decide); (case k5 => rfl); (case k6 => rfl); k_whole)))
local macro_rules | `(tactic| k_room) => `(tactic| ktr_room)
local macro_rules | `(tactic| k_enter) => `(tactic| cell_enter)
local macro_rules | `(tactic| walk_at "KswEnd") => `(tactic| k_extra "KswEnd")
local macro_rules | `(tactic| walk_at "call ref") => `(tactic| (k_here; k_extra "call ref"))
local macro_rules | `(tactic| k_mem) => `(tactic| first | exact List.Mem.head _ | with_reducible assumption | (refine' List.mem_cons_of_mem _ ?_; k_mem))
local macro_rules | `(tactic| k_all) => `(tactic| first | exact Mine.allLt_ne (by assumption) | exact Mine.allLt_ne' (by assumption) | exact List.forall_mem_nil _ | (refine' List.forall_mem_cons.mpr ⟨?a, ?b⟩; (case a => k_ne); (case b => k_all)))
local macro_rules | `(tactic| ktr_room) => `(tactic| ((try simp only [depth_under_make, depth_under_kw, depth_in1, depth_deeper, depth_caller]); (try dsimp only [ktrTop, Around.deeper]); first | exact Mine.room3 (by with_reducible assumption) (by decide) | exact Mine.room2 (by with_reducible assumption) (by decide) | omega))
local macro_rules | `(tactic| ktr_units) => `(tactic| ((try simp only [units_in1, units_deeper, Around.mark_units, units_caller]); (try dsimp only [ktrTop, Around.deeper]); first | exact Mine.room3 (by with_reducible assumption) (by decide) | exact Mine.room2 (by with_reducible assumption) (by decide) | omega))
local macro_rules | `(tactic| k_units) => `(tactic| ((try dsimp only [ktrTop, Around.deeper, Around.in1]); (try simp only [cLine] at *); omega))
local macro_rules | `(tactic| walk_at "call ref") => `(tactic| (k_here; (with_reducible show wpAny _ _ (call (Value.ref 28) [Value.int _ _, Value.int _ _]) _ _ _); k_dflt (refine' Mine.call_use ?k1 ?k2 ?k3 ?k4 ?k5 ?kK (Mine.c_inv _ _ _ _ _ _ _ _ _ _ ?h1 ?h2 ?h3 ?h4) ?kd ?ku ?_; (case k1 => k_asm); (case k2 => k_asm); (case k3 => k_asm); (case k4 => k_asm); (case k5 => k_asm); (case kK => first | exact rfl | assumption); (case h1 => omega); (case h2 => omega); (case h3 => omega); (case h4 => assumption); (case kd => ktr_room); (case ku => ktr_units)); intro v9 v0' v1' v2' t9 h9 tk9 F9 N9; (try dsimp only); (try k_fold); (try k_sweep)))
local macro_rules | `(tactic| walk_at "call ref") => `(tactic| (k_here; (with_reducible show wpAny _ _ (call (Value.ref 112) [Value.int _ _, Value.int _ _]) _ _ _); k_dflt (refine' Mine.call_use ?k1 ?k2 ?k3 ?k4 ?k5 ?kK (Mine.c_pinv _ _ _ _ _ _ _ _ _ _ ?h1 ?h2 ?h3 ?h4) ?kd ?ku ?_; (case k1 => k_asm); (case k2 => k_asm); (case k3 => k_asm); (case k4 => k_asm); (case k5 => k_asm); (case kK => first | exact rfl | assumption); (case h1 => omega); (case h2 => omega); (case h3 => omega); (case h4 => assumption); (case kd => ktr_room); (case ku => ktr_units)); intro v9 v0' v1' v2' t9 h9 tk9 F9 N9; (try dsimp only); (try k_fold); (try k_sweep)))
namespace Mine
abbrev RetMenu (news : Led) (h₀ : Heap) (L : Addr) (m : Str → Option Value) (s : Shared) (Q : Value → Shared → Prop) : Prop :=
  ∀ (D : Addr) (vs : List Value) (tl : Led) (n : Nat) (h' : Heap) (tk' : Nat),
    (∀ k : Nat, k < 10 → ∃ (r : Addr) (u1 u2 u3 u4 u5 u6 : Tok) (c : Nat), vs[k]? = some (.ref r) ∧ (r, tup6 (crv k).P (crv k).N 0 (crv k).B (crv k).Gx (crv k).Gy u1 u2 u3 u4 u5 u6 c) ∈ tl) →
    (∀ p ∈ tl, ∀ q ∈ news, q.1 < p.1) → Fr h₀ L h' m → News h₀ L h' ((D, ({ cls := .type "list", data := .seq vs.toArray n } : Obj)) :: (tl ++ news)) → Q (.ref D) { s with heap := h', toks := tk' }
def Menu (news : Led) (D : Addr) (vs : List Value) (tl : Led) : Prop :=
  (∀ k : Nat, k < 10 → ∃ (r : Addr) (u1 u2 u3 u4 u5 u6 : Tok) (c : Nat), vs[k]? = some (.ref r) ∧ (r, tup6 (crv k).P (crv k).N 0 (crv k).B (crv k).Gx (crv k).Gy u1 u2 u3 u4 u5 u6 c) ∈ tl) ∧ (∀ p ∈ tl, ∀ q ∈ news, q.1 < p.1)
theorem lt_all {d : Addr} {l : Led} (h : AllLt d l) : ∀ q ∈ l, q.1 < d := ktn_ltOf h
section
variable {prog : Program} {w : World} {A : Around} {E : Value → Shared → Prop} {s : Shared} {h₀ : Heap} {L : Addr} {news : Led} {value slice : PySem.Expr}
/-- a curve out of the ten -/
theorem pickG {D : Addr} {vs : List Value} {tl : Led} {n : Nat} {k : Int} {u : Tok} {Q : Value → Shared → Prop} (N : News h₀ L s.heap ((D, ({ cls := .type "list", data := .seq vs.toArray n } : Obj)) :: (tl ++ news))) (hM : Menu news D vs tl) (h0 : 0 ≤ k) (h1 : k < 10)
    (h : ∀ (C : Cv) (w0 w1 l0 l1 : Int) (r : Addr) (u1 u2 u3 u4 u5 u6 : Tok) (c : Nat), Good C → Found C w0 w1 l0 l1 → (∀ q ∈ news, q.1 < r) → News h₀ L s.heap ((r, tup6 C.P C.N 0 C.B (C.X 1) (C.Y 1) u1 u2 u3 u4 u5 u6 c) :: news) → Q (.ref r) s)
    (hs : subscripted slice false (.ref D) (.int k u) = operate [.ref D, .int k u] (getItem (.ref D) (.int k u)) := by with_unfolding_all rfl) :
    wpAny (model prog w) A (subscriptTail value slice (.ref D) (.int k u)) Q E s := by
  obtain ⟨r, u1, u2, u3, u4, u5, u6, c, hr, hm⟩ := hM.1 k.toNat (by omega)
  obtain ⟨w0, w1, l0, l1, Fd⟩ := crv_found k.toNat (by omega)
  have G := crv_good k.toNat (by omega)
  rw [← G.gx, ← G.gy] at hm
  refine item_litK (News.isList N (.head _)) h0 (by omega) hr (h (crv k.toNat) w0 w1 l0 l1 r u1 u2 u3 u4 u5 u6 c G Fd (fun q hq => hM.2 _ hm q hq) ?_) hs
  intro p hp
  rcases List.mem_cons.mp hp with rfl | hp
  · exact N _ (.tail _ (List.mem_append_left _ hm))
  · exact N p (.tail _ (List.mem_append_right _ hp))
/-- a root by the curve's prime -/
theorem pickW {C : Cv} {w0 w1 l0 l1 : Int} {D : Addr} {ys : List Value} {k : Int} {u : Tok} {Q : Value → Shared → Prop} (N : News h₀ L s.heap news) (hm : (D, LCg.lst ys) ∈ news) (hi : IntsAre ys (rootsL C.P)) (Fd : Found C w0 w1 l0 l1) (h0 : 0 ≤ k) (h1 : k < 2)
    (h : ∀ (w l l' : Int) (t : Tok), Trn C w l l' → (rootsL C.N = [l, l'] ∨ rootsL C.N = [l', l]) → Q (.int w t) s)
    (hs : subscripted slice false (.ref D) (.int k u) = operate [.ref D, .int k u] (getItem (.ref D) (.int k u)) := by with_unfolding_all rfl) :
    wpAny (model prog w) A (subscriptTail value slice (.ref D) (.int k u)) Q E s := by
  rw [Fd.rp] at hi
  cases hi with
  | cons _ t0 hi =>
  cases hi with
  | cons _ t1 hi =>
  cases hi
  have hl := News.isList N hm
  by_cases hk : k = 0
  · subst hk
    refine item_litK hl (by decide) (by decide) rfl ?_ hs
    rcases Fd.b0 with T | T
    · exact h _ _ _ _ T (.inl Fd.rn)
    · exact h _ _ _ _ T (.inr Fd.rn)
  · have : k = 1 := by omega
    subst this
    refine item_litK hl (by decide) (by decide) rfl ?_ hs
    rcases Fd.b1 with T | T
    · exact h _ _ _ _ T (.inl Fd.rn)
    · exact h _ _ _ _ T (.inr Fd.rn)
end
section
variable (w : World) (loo : List Str) (mean : ExcName → Option Value) (mg mb : Str → Option Value) (news : Led)
set_option maxRecDepth 100000 in
set_option maxHeartbeats 2000000 in
theorem c_curves : Call w loo mean mg mb 463 2 60 news [] (RetMenu news) := by
  unfold Call
  k_fill
  k_with_none
  intro dp un gd cn cs a ccd cl outer A₀ base h₀ L m s Q E B' F X' N' T hk hd hu hret
  refine wpAny_call ?_
  k_dflt cell_enter
  w_strict (k_steps; all_goals (refine hret _ _ [_, _, _, _, _, _, _, _, _, _] _ _ _ ?_ ?_ (by assumption) (by assumption)))
  · intro k hk
    match k, hk with
    | 0, _ => exact ⟨_, _, _, _, _, _, _, _, rfl, by k_mem⟩
    | 1, _ => exact ⟨_, _, _, _, _, _, _, _, rfl, by k_mem⟩
    | 2, _ => exact ⟨_, _, _, _, _, _, _, _, rfl, by k_mem⟩
    | 3, _ => exact ⟨_, _, _, _, _, _, _, _, rfl, by k_mem⟩
    | 4, _ => exact ⟨_, _, _, _, _, _, _, _, rfl, by k_mem⟩
    | 5, _ => exact ⟨_, _, _, _, _, _, _, _, rfl, by k_mem⟩
    | 6, _ => exact ⟨_, _, _, _, _, _, _, _, rfl, by k_mem⟩
    | 7, _ => exact ⟨_, _, _, _, _, _, _, _, rfl, by k_mem⟩
    | 8, _ => exact ⟨_, _, _, _, _, _, _, _, rfl, by k_mem⟩
    | 9, _ => exact ⟨_, _, _, _, _, _, _, _, rfl, by k_mem⟩
  · repeat ((with_reducible rename _ ∧ _ => hh); obtain ⟨_, _⟩ := hh)
    intro p hp q hq
    (repeat' (rcases List.mem_cons.mp hp with rfl | hp)) <;> first | exact absurd hp List.not_mem_nil | ((with_reducible rename (∀ p ∈ news, p.1 < _) => hz); exact hz q hq) | (refine ktn_ltOf ?_ q hq; with_reducible assumption)
end
end Mine
end
namespace Mine
section
variable {C : Cv} {w l l' : Int}
theorem Trn.tx2 (T : Trn C w l l') (G : Good C) (i : Int) : C.X i * (w * w) % C.P = C.X (l * (l * i)) := by
  rw [← T.tx (l * i), ← T.tx i, ← Int.mul_assoc]
  conv => rhs; rw [Int.mul_emod, Int.emod_emod, ← Int.mul_emod]
theorem Trn.ty2 (T : Trn C w l l') (i : Int) : C.Y i = C.Y (l * (l * i)) := (T.ty i).trans (T.ty (l * i))
theorem Trn.sum (T : Trn C w l l') (i : Int) : (i + l * i + l * (l * i)) % C.N = 0 := by
  have e : i + l * i + l * (l * i) = (l * l + l + 1) * i := by grind
  rw [e, Int.mul_emod, T.sq]; simp
theorem nz_mul (G : Good C) {k : Int} (h1 : 1 ≤ k) (h2 : k < C.N) {i : Int} (hi : i % C.N ≠ 0) : (k * i) % C.N ≠ 0 := G.nmul k i (by rw [Int.emod_eq_of_lt (by omega) h2]; omega) hi
theorem one_nz (G : Good C) : (1 : Int) % C.N ≠ 0 := by rw [Int.emod_eq_of_lt (by decide) (by have := G.n5; omega)]; decide
/-- a point and its turn are apart, and not each other's negatives -/
theorem Trn.apart (T : Trn C w l l') (G : Good C) {i : Int} (hi : i % C.N ≠ 0) : i % C.N ≠ (l * i) % C.N := by
  intro h
  have h0 := Int.emod_eq_emod_iff_emod_sub_eq_zero.mp h.symm
  have e : l * i - i = (l - 1) * i := by grind
  rw [e] at h0
  have := T.l2; have := T.lN
  exact nz_mul G (k := l - 1) (by omega) (by omega) hi h0
theorem Trn.sumnz (T : Trn C w l l') (G : Good C) {i : Int} (hi : i % C.N ≠ 0) : (i + l * i) % C.N ≠ 0 := by
  intro h
  have h2 := T.sum i
  have h3 : (l * (l * i)) % C.N = 0 := by
    rw [Int.add_emod, h, Int.zero_add, Int.emod_emod] at h2
    exact h2
  have := T.l2; have := T.lN
  exact nz_mul G (by omega) T.lN (nz_mul G (by omega) T.lN hi) h3
theorem Trn.nzl (T : Trn C w l l') (G : Good C) {i : Int} (hi : i % C.N ≠ 0) : (l * i) % C.N ≠ 0 := by
  have := T.l2
  exact nz_mul G (by omega) T.lN hi
theorem Trn.sum0 (T : Trn C w l l') (G : Good C) (i : Int) : C.X (i + l * i + l * (l * i)) = 0 ∧ C.Y (i + l * i + l * (l * i)) = 0 := ⟨G.zX _ (T.sum i), G.zY _ (T.sum i)⟩
theorem turn_add (C : Cv) (l i j : Int) : C.X (l * i + l * j) = C.X (l * (i + j)) ∧ C.Y (l * i + l * j) = C.Y (l * (i + j)) := by rw [Int.mul_add]; exact ⟨rfl, rfl⟩
theorem prjz1 {i x y z : Int} (J : Prj C i x y z) : 1 ≤ z := J.2.2.2.2.1
theorem prjz2 {i x y z : Int} (J : Prj C i x y z) : z < C.P := J.2.2.2.2.2.1
def cntG (l : Int) (acc : List Int) (k : Int) : List Int := if k = l then acc ++ [k] else acc
theorem cntG_grows (l : Int) : KPfGrows (cntG l) := by
  intro a k
  unfold cntG
  split
  · simp
  · omega
theorem cnt_one (T : Trn C w l l') (G : Good C) (h : rootsL C.N = [l, l'] ∨ rootsL C.N = [l', l]) : (rootsL C.N).foldl (cntG l) [] = [l] := by
  have hne : l' ≠ l := fun e => T.ne (by rw [e])
  rcases h with h | h <;> rw [h] <;> simp [cntG, hne]
theorem mem_roots (h : rootsL C.N = [l, l'] ∨ rootsL C.N = [l', l]) {k : Int} (hk : k ∈ rootsL C.N) : k = l ∨ k = l' := by
  rcases h with h | h <;> rw [h] at hk <;> simp at hk <;> omega
theorem cntG_yes {l k : Int} {acc : List Int} (h : k = l) : cntG l acc k = acc ++ [k] := by unfold cntG; rw [if_pos h]
theorem cntG_no {l k : Int} {acc : List Int} (h : ¬ k = l) : cntG l acc k = acc := by unfold cntG; rw [if_neg h]
theorem way3 (G : Good C) {a b c m q : Int} (e : q = (a + b * c) % C.N) : C.X (a * m + b * (c * m)) = C.X (q * m) ∧ C.Y (a * m + b * (c * m)) = C.Y (q * m) := by
  have h : (a * m + b * (c * m)) % C.N = (q * m) % C.N := by
    have e2 : a * m + b * (c * m) = (a + b * c) * m := by grind
    rw [e2, e]
    conv => rhs; rw [Int.mul_emod, Int.emod_emod, ← Int.mul_emod]
  exact ⟨G.perX _ _ h, G.perY _ _ h⟩
end
section
variable {prog : Program} {w : World} {A : Around} {E : Value → Shared → Prop} {s : Shared} {h₀ : Heap} {L : Addr} {news : Led}
theorem eqT2Y {a b : Addr} {x1 y1 x2 y2 : Int} {t1 t2 u1 u2 : Tok} {n m : Nat} {Q : Value → Shared → Prop} (N : News h₀ L s.heap news) (ha : (a, tup2 x1 y1 t1 t2 n) ∈ news) (hb : (b, tup2 x2 y2 u1 u2 m) ∈ news) (hu : A.units + 64 < cLine)
    (he : x1 = x2 ∧ y1 = y2) (h : Q (.bool true) s) : wpAny (model prog w) A (compareOp .Eq (.ref a) (.ref b)) Q E s := by
  obtain ⟨rfl, rfl⟩ := he
  exact eqT2 N ha hb hu (by simpa using h)
theorem neT2Y {a b : Addr} {x1 y1 x2 y2 : Int} {t1 t2 u1 u2 : Tok} {n m : Nat} {Q : Value → Shared → Prop} (N : News h₀ L s.heap news) (ha : (a, tup2 x1 y1 t1 t2 n) ∈ news) (hb : (b, tup2 x2 y2 u1 u2 m) ∈ news) (hu : A.units + 64 < cLine)
    (he : x1 = x2 ∧ y1 = y2) (h : Q (.bool false) s) : wpAny (model prog w) A (compareOp .NotEq (.ref a) (.ref b)) Q E s := by
  obtain ⟨rfl, rfl⟩ := he
  exact neT2 N ha hb hu (by simpa using h)
theorem itemLG {l : Addr} {x : Value} {u : Tok} {value slice : PySem.Expr} {Q : Value → Shared → Prop} (N : News h₀ L s.heap news) (hm : (l, LCg.lst [x]) ∈ news) (h : Q x s)
    (hs : subscripted slice false (.ref l) (.int 0 u) = operate [.ref l, .int 0 u] (getItem (.ref l) (.int 0 u))) (hg : ∀ r, letTemporaryGo value (.ref l) r = pure ()) :
    wpAny (model prog w) A (subscriptTail value slice (.ref l) (.int 0 u)) Q E s :=
  item_listL (l := [x]) (News.isList N hm) (by decide) (by decide) rfl h hs hg
theorem len1 {l : Addr} {x : Value} {Q : Value → Shared → Prop} (N : News h₀ L s.heap news) (hm : (l, LCg.lst [x]) ∈ news) (h : Q (.int 1 (s.toks + 1)) { s with toks := s.toks + 1 + 1 }) :
    wpAny (model prog w) A (call (.builtin "len") [.ref l]) Q E s := kun_lenL (k := 1) (News.isList N hm) rfl (by decide) h
/-- the pair of a candidate and the turn's pair -/
theorem eqT2C {C : Cv} {wv l l' k : Int} (T : Trn C wv l l') (hk : k = l ∨ k = l') {a b : Addr} {t1 t2 u1 u2 : Tok} {n m : Nat} {Q : Value → Shared → Prop} (N : News h₀ L s.heap news) (ha : (a, tup2 (C.X (k * 1)) (C.Y (k * 1)) t1 t2 n) ∈ news) (hb : (b, tup2 (C.X (l * 1)) (C.Y (l * 1)) u1 u2 m) ∈ news) (hu : A.units + 64 < cLine)
    (h : Q (.bool (decide (k = l))) s) : wpAny (model prog w) A (compareOp .Eq (.ref a) (.ref b)) Q E s := by
  refine eqT2 N ha hb hu ?_
  by_cases hkl : k = l
  · subst hkl
    simpa using h
  · have : k = l' := hk.resolve_left hkl
    subst this
    rw [show (C.X (k * 1) == C.X (l * 1)) = false from beq_eq_false_iff_ne.mpr T.ne, Bool.false_and]
    rwa [decide_eq_false hkl] at h
end
section
variable {prog : Program} {w : World} {A : Around} {h₀ : Heap} {L : Addr} {m : Str → Option Value} {env : Env} {ct elt : PySem.Expr} {x : Str} {scope : Scope} {cl : List (Str × Addr)} {s : Shared} {S : List (Addr × Obj) → Prop} {Fin : List Value → List (Addr × Obj) → Prop} {news : Led}
theorem roots_size {C : Cv} {l l' : Int} {ys : List Value} (h : rootsL C.N = [l, l'] ∨ rootsL C.N = [l', l]) (hi : IntsAre ys (rootsL C.N)) : ys.toArray.size ≤ sizeLine := by
  have hl := hi.length
  rw [List.size_toArray, PySem.sizeLine_eq]
  rcases h with h | h <;> rw [h] at hl <;> simp at hl <;> omega
/-- the counts that the law finds: one -/
theorem kci_cnt {C : Cv} {wv l l' : Int} (T : Trn C wv l l') (G : Good C) (Tr : rootsL C.N = [l, l'] ∨ rootsL C.N = [l', l]) {vs : List Value} (hi : IntsAre vs (rootsL C.N))
    (turn : ∀ k t I oI C' oC D m₂ ys acc h tk (E' : Value → Shared → Prop), (k = l ∨ k = l') → 2 ≤ k → k < C.N → IntsAre ys acc → LCg.NsObj oC m₂ → m₂ x = some (.int k t) → Fr h₀ L h m → News h₀ L h ((I, oI) :: (C', oC) :: (D, LCg.lst ys) :: news) → LCg.Off3 I C' D news → ((@Ne Nat I C') ∧ (@Ne Nat I D) ∧ (@Ne Nat C' D)) →
      wpAny (model prog w) A (isTrue ct (compEnvC scope cl C' env) (eval ct (compEnvC scope cl C' env))) (fun b s' => if b = true then wpAny (model prog w) A (eval elt (compEnvC scope cl C' env)) (LCg.CompEnd h₀ L m { s with heap := h, toks := tk } I oI C' oC D (LCg.lst ys) S (fun y news' => KCiEl news acc (cntG l acc k) y news')) E' s'
        else LCg.CompEnd h₀ L m { s with heap := h, toks := tk } I oI C' oC D (LCg.lst ys) S (fun _ news' => KCiNo news acc (cntG l acc k) news') Value.none s') E' { s with heap := h, toks := tk })
    (fin : ∀ t, Fin [.int l t] news) : LCt.CompRestT prog w A h₀ L m env ct elt x scope cl s S (fun i v => vs.toArray[i]? = some v) Fin vs.toArray.size 0 [] news :=
  kci_list (cntG l) hi (fun k t I oI C' oC D m₂ ys acc h tk E' hk hI hC hx F N off ne _ => by
      have hk' := mem_roots Tr hk
      have := T.l2; have := T.lN; have := T.k2; have := T.kN
      exact turn k t I oI C' oC D m₂ ys acc h tk E' hk' (by omega) (by omega) hI hC hx F N off ne)
    (fun ys hI _ => by
      rw [cnt_one T G Tr] at hI
      cases hI with
      | cons _ t hI =>
        cases hI
        exact fin t) (cntG_grows l)
end
end Mine
local macro_rules | `(tactic| ktr_room) => `(tactic| ((try simp only [depth_under_make, depth_under_kw, depth_in1, depth_deeper, depth_caller]); (try dsimp only [ktrTop, Around.deeper]); omega))
local macro_rules | `(tactic| ktr_units) => `(tactic| ((try simp only [units_in1, units_deeper, Around.mark_units, units_caller]); (try dsimp only [ktrTop, Around.deeper]); omega))
local macro_rules | `(tactic| k_room) => `(tactic| ktr_room)
local macro_rules | `(tactic| kcf_all) => `(tactic| (intro p9 hp9; (simp only [List.mem_cons] at hp9 ⊢); simp only [hp9, true_or, or_true]; done))
local macro_rules | `(tactic| kcf_all) => `(tactic| (intro p9 hp9; (simp only [List.mem_cons] at hp9 ⊢); (rcases hp9 with hp9 | hp9 | hp9 | hp9 | hp9) <;> simp only [hp9, true_or, or_true] <;> done))
local macro_rules | `(tactic| walk_at "CompSrcT") => `(tactic| (k_here; k_extra "CompSrcT"))
local macro_rules | `(tactic| walk_at "CompEnd") => `(tactic| (k_extra "CompEnd"))
local macro_rules | `(tactic| walk_at "eval Name") => `(tactic| (k_here; name_kind "globalImplicit"; k_dflt (refine' nameX_K ?F ?X ?T ?e ?_ ?a ?b; (case F => k_asm); (case X => k_asm); (case T => k_asm); (case a => rfl); (case b => rfl); (case e => k_is); k_whole)))
local macro_rules | `(tactic| walk_at "eval Name") => `(tactic| (k_here; name_kind "local"; k_dflt (refine' nameX_L ?F ?v ?_ ?a ?b; (case F => k_asm); (case a => rfl); (case b => rfl); (case v => rfl); k_whole)))

local macro_rules | `(tactic| walk_at "binaryOp Mod int int") => `(tactic| (k_here; (with_reducible refine Mine.modG ?_ ?_); (omega); intro r' e' b0' b1'))
local macro_rules | `(tactic| walk_at "inplaceOp Mod int int") => `(tactic| (k_here; (with_reducible refine Mine.imodG ?_ ?_); (omega); intro r' e' b0' b1'))
local macro_rules | `(tactic| walk_at "binaryOp FloorDiv int int") => `(tactic| (k_here; (with_reducible refine Mine.fdivG ?_ ?_ ?_); (omega); (omega); intro r' e'))
local macro_rules | `(tactic| walk_at "binaryOp Pow int int") => `(tactic| (k_here; (with_reducible first | refine Mine.pow2G ?_ ?_ ?_ | refine Mine.pow3G ?_ ?_ ?_ | refine Mine.pow4G ?_ ?_ ?_); (omega); (omega)))
local macro_rules | `(tactic| walk_at "binaryOp Mult int int") => `(tactic| (k_here; first | ((with_reducible refine Mine.mulL ?_ ?_ ?_); (omega); (omega)) | ((with_reducible refine Mine.mulR ?_ ?_ ?_); (omega); (omega))))
local macro_rules | `(tactic| walk_at "compareOp Eq int int") => `(tactic| (k_here; first | ((with_reducible refine Mine.eqY ?_ ?_); (omega)) | ((with_reducible refine Mine.eqN ?_ ?_); (omega))))
local macro_rules | `(tactic| walk_at "compareOp NotEq int int") => `(tactic| (k_here; first | ((with_reducible refine Mine.neY ?_ ?_); (omega)) | ((with_reducible refine Mine.neN ?_ ?_); (omega))))
local macro_rules | `(tactic| walk_at "compareOp Lt int int") => `(tactic| (k_here; first | ((with_reducible refine Mine.ltY ?_ ?_); (omega)) | ((with_reducible refine Mine.ltN ?_ ?_); (omega))))
local macro_rules | `(tactic| walk_at "compareOp GtE int int") => `(tactic| (k_here; first | ((with_reducible refine Mine.geY ?_ ?_); (omega)) | ((with_reducible refine Mine.geN ?_ ?_); (omega))))
local macro_rules | `(tactic| walk_at "truthy int") => `(tactic| (k_here; first | ((with_reducible refine Mine.truthyY ?_ ?_); (omega)) | ((with_reducible refine Mine.truthyN ?_ ?_); (omega))))
local macro_rules | `(tactic| walk_at "subscriptTail Name Constant ref int") => `(tactic| (k_here; k_dflt (refine' Mine.itemG ?k1 ?k2 ?k3 ?k4 ?k5 ?k6 ?_; (case k1 => k_asm); (case k2 => k_mem); (case k3 => decide); (case k4 => decide); (case k5 => rfl); (case k6 => rfl); k_whole)))
local macro_rules | `(tactic| k_room) => `(tactic| ktr_room)
local macro_rules | `(tactic| k_enter) => `(tactic| cell_enter)
local macro_rules | `(tactic| walk_at "KswEnd") => `(tactic| k_extra "KswEnd")
local macro_rules | `(tactic| walk_at "call ref") => `(tactic| (k_here; k_extra "call ref"))
local macro_rules | `(tactic| k_mem) => `(tactic| first | exact List.Mem.head _ | with_reducible assumption | (refine' List.mem_cons_of_mem _ ?_; k_mem))
local macro_rules | `(tactic| k_all) => `(tactic| first | exact Mine.allLt_ne (by assumption) | exact Mine.allLt_ne' (by assumption) | exact List.forall_mem_nil _ | (refine' List.forall_mem_cons.mpr ⟨?a, ?b⟩; (case a => k_ne); (case b => k_all)))
local macro_rules | `(tactic| ktr_room) => `(tactic| ((try simp only [depth_under_make, depth_under_kw, depth_in1, depth_deeper, depth_caller]); (try dsimp only [ktrTop, Around.deeper]); first | exact Mine.room3 (by with_reducible assumption) (by decide) | exact Mine.room2 (by with_reducible assumption) (by decide) | omega))
local macro_rules | `(tactic| ktr_units) => `(tactic| ((try simp only [units_in1, units_deeper, Around.mark_units, units_caller]); (try dsimp only [ktrTop, Around.deeper]); first | exact Mine.room3 (by with_reducible assumption) (by decide) | exact Mine.room2 (by with_reducible assumption) (by decide) | omega))
local macro_rules | `(tactic| k_units) => `(tactic| ((try dsimp only [ktrTop, Around.deeper, Around.in1]); (try simp only [cLine] at *); omega))
local macro_rules | `(tactic| walk_at "call ref") => `(tactic| (k_here; (with_reducible show wpAny _ _ (call (Value.ref 28) [Value.int _ _, Value.int _ _]) _ _ _); k_dflt (refine' Mine.call_use ?k1 ?k2 ?k3 ?k4 ?k5 ?kK (Mine.c_inv _ _ _ _ _ _ _ _ _ _ ?h1 ?h2 ?h3 ?h4) ?kd ?ku ?_; (case k1 => k_asm); (case k2 => k_asm); (case k3 => k_asm); (case k4 => k_asm); (case k5 => k_asm); (case kK => first | exact rfl | assumption); (case h1 => omega); (case h2 => omega); (case h3 => omega); (case h4 => assumption); (case kd => ktr_room); (case ku => ktr_units)); intro v9 v0' v1' v2' t9 h9 tk9 F9 N9; (try dsimp only); (try k_fold); (try k_sweep)))
local macro_rules | `(tactic| walk_at "call ref") => `(tactic| (k_here; (with_reducible show wpAny _ _ (call (Value.ref 112) [Value.int _ _, Value.int _ _]) _ _ _); k_dflt (refine' Mine.call_use ?k1 ?k2 ?k3 ?k4 ?k5 ?kK (Mine.c_pinv _ _ _ _ _ _ _ _ _ _ ?h1 ?h2 ?h3 ?h4) ?kd ?ku ?_; (case k1 => k_asm); (case k2 => k_asm); (case k3 => k_asm); (case k4 => k_asm); (case k5 => k_asm); (case kK => first | exact rfl | assumption); (case h1 => omega); (case h2 => omega); (case h3 => omega); (case h4 => assumption); (case kd => ktr_room); (case ku => ktr_units)); intro v9 v0' v1' v2' t9 h9 tk9 F9 N9; (try dsimp only); (try k_fold); (try k_sweep)))
local macro_rules | `(tactic| walk_at "call ref") => `(tactic| (k_here; (with_reducible show wpAny _ _ (call (Value.ref 91) [Value.ref _]) _ _ _); k_dflt (refine' Mine.call_use ?k1 ?k2 ?k3 ?k4 ?k5 ?kK (Mine.c_bdbl _ _ _ _ _ _ ?hG ?hp1 ?hx1 ?hX1 ?hy1 ?hY1 ?hi1) ?kd ?ku ?_; (case k1 => k_asm); (case k2 => k_asm); (case k3 => k_asm); (case k4 => k_asm); (case k5 => k_asm); (case kK => first | exact rfl | assumption); (case hp1 => k_mem); (case hx1 => k_mem); (case hX1 => k_mem); (case hy1 => k_mem); (case hY1 => k_mem); (case hG => with_reducible assumption); (case hi1 => first | with_reducible assumption | k_extra "nz"); (case kd => ktr_room); (case ku => ktr_units)); intro r9 ax9 dx9 ay9 dy9 c9 k19 k29 t19 t29 l19 l29 s19 s29 h9 tk9 F9 N9; (try dsimp only); (try k_fold); (try k_sweep)))
local macro_rules | `(tactic| walk_at "call ref") => `(tactic| (k_here; (with_reducible show wpAny _ _ (call (Value.ref 98) [Value.ref _, Value.ref _]) _ _ _); k_dflt (refine' Mine.call_use ?k1 ?k2 ?k3 ?k4 ?k5 ?kK (Mine.c_badd _ _ _ _ _ _ ?hG ?hp1 ?hx1 ?hX1 ?hy1 ?hY1 ?hp2 ?hx2 ?hX2 ?hy2 ?hY2 ?hi1 ?hi2 ?hij ?hs) ?kd ?ku ?_; (case k1 => k_asm); (case k2 => k_asm); (case k3 => k_asm); (case k4 => k_asm); (case k5 => k_asm); (case kK => first | exact rfl | assumption); (case hp1 => k_mem); (case hx1 => k_mem); (case hX1 => k_mem); (case hy1 => k_mem); (case hY1 => k_mem); (case hp2 => k_mem); (case hx2 => k_mem); (case hX2 => k_mem); (case hy2 => k_mem); (case hY2 => k_mem); (case hG => with_reducible assumption); (case hi1 => first | with_reducible assumption | k_extra "nz"); (case hi2 => first | with_reducible assumption | k_extra "nz"); (case hij => first | with_reducible assumption | k_extra "nz"); (case hs => first | with_reducible assumption | k_extra "nz"); (case kd => ktr_room); (case ku => ktr_units)); intro r9 ax9 dx9 ay9 dy9 c9 k19 k29 t19 t29 l19 l29 s19 s29 h9 tk9 F9 N9; (try dsimp only); (try k_fold); (try k_sweep)))
local macro_rules | `(tactic| walk_at "call ref") => `(tactic| (k_here; (with_reducible show wpAny _ _ (call (Value.ref 98) [Value.ref _, Value.ref _]) _ _ _); k_dflt (refine' Mine.call_use ?k1 ?k2 ?k3 ?k4 ?k5 ?kK (Mine.c_badd0 _ _ _ _ _ _ ?hG ?hp1 ?hx1 ?hX1 ?hy1 ?hY1 ?hp2 ?hx2 ?hX2 ?hy2 ?hY2 ?hi1 ?hs) ?kd ?ku ?_; (case k1 => k_asm); (case k2 => k_asm); (case k3 => k_asm); (case k4 => k_asm); (case k5 => k_asm); (case kK => first | exact rfl | assumption); (case hp1 => k_mem); (case hx1 => k_mem); (case hX1 => k_mem); (case hy1 => k_mem); (case hY1 => k_mem); (case hp2 => k_mem); (case hx2 => k_mem); (case hX2 => k_mem); (case hy2 => k_mem); (case hY2 => k_mem); (case hG => with_reducible assumption); (case hi1 => first | with_reducible assumption | k_extra "nz"); (case hs => first | with_reducible assumption | k_extra "nz"); (case kd => ktr_room); (case ku => ktr_units)); intro h9 tk9 F9 N9; (try dsimp only); (try k_fold); (try k_sweep)))
local macro_rules | `(tactic| walk_at "call ref") => `(tactic| (k_here; (with_reducible show wpAny _ _ (call (Value.ref 435) [Value.ref _]) _ _ _); k_dflt (refine' Mine.call_use ?k1 ?k2 ?k3 ?k4 ?k5 ?kK (Mine.c_odbl _ _ _ _ _ _ ?hG ?hp1 ?hx1 ?hX1 ?hy1 ?hY1 ?hz1 ?hZ1 ?hi1 ?J1) ?kd ?ku ?_; (case k1 => k_asm); (case k2 => k_asm); (case k3 => k_asm); (case k4 => k_asm); (case k5 => k_asm); (case kK => first | exact rfl | assumption); (case hp1 => k_mem); (case hx1 => k_mem); (case hX1 => k_mem); (case hy1 => k_mem); (case hY1 => k_mem); (case hz1 => k_mem); (case hZ1 => k_mem); (case hG => with_reducible assumption); (case J1 => with_reducible assumption); (case hi1 => first | with_reducible assumption | k_extra "nz"); (case kd => ktr_room); (case ku => ktr_units)); intro x9 y9 z9 J9 r9 ax9 dx9 ay9 dy9 az9 dz9 c9 k19 k29 t19 t29 l19 l29 s19 s29 o19 o29 q19 q29 h9 tk9 F9 N9; (try dsimp only); (try k_fold); (try k_sweep)))
local macro_rules | `(tactic| walk_at "call ref") => `(tactic| (k_here; (with_reducible show wpAny _ _ (call (Value.ref 442) [Value.ref _, Value.ref _]) _ _ _); k_dflt (refine' Mine.call_use ?k1 ?k2 ?k3 ?k4 ?k5 ?kK (Mine.c_oadd0 _ _ _ _ _ _ ?hG ?hp1 ?hx1 ?hX1 ?hy1 ?hY1 ?hz1 ?hZ1 ?hp2 ?hx2 ?hX2 ?hy2 ?hY2 ?hz2 ?hZ2 ?hi1 ?hs ?J1 ?J2) ?kd ?ku ?_; (case k1 => k_asm); (case k2 => k_asm); (case k3 => k_asm); (case k4 => k_asm); (case k5 => k_asm); (case kK => first | exact rfl | assumption); (case hp1 => k_mem); (case hx1 => k_mem); (case hX1 => k_mem); (case hy1 => k_mem); (case hY1 => k_mem); (case hz1 => k_mem); (case hZ1 => k_mem); (case hp2 => k_mem); (case hx2 => k_mem); (case hX2 => k_mem); (case hy2 => k_mem); (case hY2 => k_mem); (case hz2 => k_mem); (case hZ2 => k_mem); (case hG => with_reducible assumption); (case J1 => with_reducible assumption); (case J2 => with_reducible assumption); (case hi1 => first | with_reducible assumption | k_extra "nz"); (case hs => first | with_reducible assumption | k_extra "nz"); (case kd => ktr_room); (case ku => ktr_units)); intro x9 y9 z9 e9 r9 ax9 dx9 ay9 dy9 az9 dz9 c9 k19 k29 t19 t29 l19 l29 s19 s29 o19 o29 q19 q29 h9 tk9 F9 N9; (try dsimp only); (try k_fold); (try k_sweep)))
local macro_rules | `(tactic| walk_at "call ref") => `(tactic| (k_here; (with_reducible show wpAny _ _ (call (Value.ref 442) [Value.ref _, Value.ref _]) _ _ _); k_dflt (refine' Mine.call_use ?k1 ?k2 ?k3 ?k4 ?k5 ?kK (Mine.c_oadd _ _ _ _ _ _ ?hG ?hp1 ?hx1 ?hX1 ?hy1 ?hY1 ?hz1 ?hZ1 ?hp2 ?hx2 ?hX2 ?hy2 ?hY2 ?hz2 ?hZ2 ?hi1 ?hi2 ?hij ?hs ?J1 ?J2) ?kd ?ku ?_; (case k1 => k_asm); (case k2 => k_asm); (case k3 => k_asm); (case k4 => k_asm); (case k5 => k_asm); (case kK => first | exact rfl | assumption); (case hp1 => k_mem); (case hx1 => k_mem); (case hX1 => k_mem); (case hy1 => k_mem); (case hY1 => k_mem); (case hz1 => k_mem); (case hZ1 => k_mem); (case hp2 => k_mem); (case hx2 => k_mem); (case hX2 => k_mem); (case hy2 => k_mem); (case hY2 => k_mem); (case hz2 => k_mem); (case hZ2 => k_mem); (case hG => with_reducible assumption); (case J1 => with_reducible assumption); (case J2 => with_reducible assumption); (case hi1 => first | with_reducible assumption | k_extra "nz"); (case hi2 => first | with_reducible assumption | k_extra "nz"); (case hij => first | with_reducible assumption | k_extra "nz"); (case hs => first | with_reducible assumption | k_extra "nz"); (case kd => ktr_room); (case ku => ktr_units)); intro x9 y9 z9 J9 r9 ax9 dx9 ay9 dy9 az9 dz9 c9 k19 k29 t19 t29 l19 l29 s19 s29 o19 o29 q19 q29 h9 tk9 F9 N9; (try dsimp only); (try k_fold); (try k_sweep)))
local macro_rules | `(tactic| walk_at "call ref") => `(tactic| (k_here; (with_reducible show wpAny _ _ (call (Value.ref 428) [Value.ref _]) _ _ _); k_dflt (refine' Mine.call_use ?k1 ?k2 ?k3 ?k4 ?k5 ?kK (Mine.c_oinfN _ _ _ _ _ _ ?hG ?hp1 ?hx1 ?hX1 ?hy1 ?hY1 ?hz1 ?hZ1 ?hn ?hn2) ?kd ?ku ?_; (case k1 => k_asm); (case k2 => k_asm); (case k3 => k_asm); (case k4 => k_asm); (case k5 => k_asm); (case kK => first | exact rfl | assumption); (case hp1 => k_mem); (case hx1 => k_mem); (case hX1 => k_mem); (case hy1 => k_mem); (case hY1 => k_mem); (case hz1 => k_mem); (case hZ1 => k_mem); (case hG => with_reducible assumption); (case hn => omega); (case hn2 => omega); (case kd => ktr_room); (case ku => ktr_units)); intro h9 tk9 F9 N9; (try dsimp only); (try k_fold); (try k_sweep)))
local macro_rules | `(tactic| walk_at "call ref") => `(tactic| (k_here; (with_reducible show wpAny _ _ (call (Value.ref 428) [Value.ref _]) _ _ _); k_dflt (refine' Mine.call_use ?k1 ?k2 ?k3 ?k4 ?k5 ?kK (Mine.c_oinfY _ _ _ _ _ _ ?hG ?hp1 ?hx1 ?hX1 ?hy1 ?hY1 ?hz1 ?hZ1 ?hn) ?kd ?ku ?_; (case k1 => k_asm); (case k2 => k_asm); (case k3 => k_asm); (case k4 => k_asm); (case k5 => k_asm); (case kK => first | exact rfl | assumption); (case hp1 => k_mem); (case hx1 => k_mem); (case hX1 => k_mem); (case hy1 => k_mem); (case hY1 => k_mem); (case hz1 => k_mem); (case hZ1 => k_mem); (case hG => with_reducible assumption); (case hn => omega); (case kd => ktr_room); (case ku => ktr_units)); intro h9 tk9 F9 N9; (try dsimp only); (try k_fold); (try k_sweep)))
local macro_rules | `(tactic| walk_at "call ref") => `(tactic| (k_here; (with_reducible show wpAny _ _ (call (Value.ref 456) [Value.ref _, Value.ref _]) _ _ _); k_dflt (refine' Mine.call_use ?k1 ?k2 ?k3 ?k4 ?k5 ?kK (Mine.c_oeq _ _ _ _ _ _ ?hG ?hp1 ?hx1 ?hX1 ?hy1 ?hY1 ?hz1 ?hZ1 ?hp2 ?hx2 ?hX2 ?hy2 ?hY2 ?hz2 ?hZ2 ?hX ?hY ?J1 ?J2) ?kd ?ku ?_; (case k1 => k_asm); (case k2 => k_asm); (case k3 => k_asm); (case k4 => k_asm); (case k5 => k_asm); (case kK => first | exact rfl | assumption); (case hp1 => k_mem); (case hx1 => k_mem); (case hX1 => k_mem); (case hy1 => k_mem); (case hY1 => k_mem); (case hz1 => k_mem); (case hZ1 => k_mem); (case hp2 => k_mem); (case hx2 => k_mem); (case hX2 => k_mem); (case hy2 => k_mem); (case hY2 => k_mem); (case hz2 => k_mem); (case hZ2 => k_mem); (case hG => with_reducible assumption); (case J1 => with_reducible assumption); (case J2 => with_reducible assumption); (case hX => first | with_reducible assumption | k_extra "eqX"); (case hY => first | with_reducible assumption | k_extra "eqY"); (case kd => ktr_room); (case ku => ktr_units)); intro h9 tk9 F9 N9; (try dsimp only); (try k_fold); (try k_sweep)))
local macro_rules | `(tactic| walk_at "call builtin:len") => `(tactic| (k_here; (with_reducible show wpAny _ _ (call (Value.builtin "len") [Value.ref _]) _ _ _); k_dflt (refine' Mine.len1 ?k1 ?k2 ?_; (case k1 => k_asm); (case k2 => k_mem))))
local macro_rules | `(tactic| ktr_room) => `(tactic| ((try simp only [depth_under_make, depth_under_kw, depth_in1, depth_deeper, depth_caller]); decide))
local macro_rules | `(tactic| ktr_units) => `(tactic| ((try simp only [units_in1, units_deeper, Around.mark_units, units_caller]); decide))
local macro_rules | `(tactic| walk_at "eval Call Name cons nil") => `(tactic| (k_here; refine Call_ ?_))
local macro_rules | `(tactic| walk_at "call type:tuple cons nil") => `(tactic| (k_here; (with_reducible show wpAny _ _ (call (Value.type _) [Value.ref _]) _ _ _); k_dflt (refine' PyProof.Rows.call_tuple_tup ?t ?_; (case t => exact News.isTup (by k_asm) (by k_mem)))))
local macro_rules | `(tactic| walk_at "subscriptTail Name Constant ref int") => `(tactic| (k_here; (with_reducible show wpAny _ _ (subscriptTail _ _ (Value.ref _) (Value.int 0 _)) _ _ _); k_dflt (refine' Mine.itemLG ?k1 ?k2 ?_ ?hs ?hg; (case k1 => k_asm); (case k2 => k_mem); (case hs => with_unfolding_all rfl); (case hg => (intro _; with_unfolding_all rfl)))))
local macro_rules | `(tactic| walk_at "call ref") => `(tactic| (k_here; (with_reducible show wpAny _ _ (call (Value.ref 470) [Value.ref _, Value.int _ _]) _ _ _); k_dflt (refine' Mine.c_at _ _ _ _ _ _ _ _ ?a ?b _ _ _ _ _ _ _ _ _ _ _ _ _ _ _ _ _ ?k1 ?k2 ?k3 ?k4 ?k5 ?kK ?kl ?ki ?kt ?kd ?ku ?_; (case a => decide); (case b => decide); (case k1 => k_asm); (case k2 => k_asm); (case k3 => k_asm); (case k4 => k_asm); (case k5 => k_asm); (case kK => first | exact rfl | assumption); (case kl => k_asm); (case ki => l_ints); (case kt => l_fit); (case kd => first | decide | ktr_room); (case ku => first | decide | ktr_units)); intro v9 t9 h9 tk9 F9 N9; (try dsimp only); (try k_fold); (try k_sweep)))
local macro_rules | `(tactic| walk_at "subscriptTail") => `(tactic| (k_here; (with_reducible show wpAny _ _ (subscriptTail _ _ (Value.ref _) (Value.int _ _)) _ _ _); (rename News _ _ _ _ => pN'); k_dflt (refine' Mine.pickG pN' ⟨?M1, ?M2⟩ ?h0 ?h1 ?_ ?hs; (case M1 => with_reducible assumption); (case M2 => with_reducible assumption); (case h0 => omega); (case h1 => omega); (case hs => with_unfolding_all rfl)); intro C9 w09 w19 l09 l19 r9 u91 u92 u93 u94 u95 u96 c9 G9 Fd9 lt9 N9; clear pN'; (try dsimp only at N9); (try k_lt lt9); (have gp5 := G9.p5); (have gp127 := G9.p127); (have gn5 := G9.n5); (have gn127 := G9.n127); (have g1 := Mine.one_nz G9); (try dsimp only); (try k_fold)))
local macro_rules | `(tactic| walk_at "subscriptTail") => `(tactic| (k_here; (with_reducible show wpAny _ _ (subscriptTail _ _ (Value.ref _) (Value.int _ _)) _ _ _); k_dflt (refine' Mine.pickW ?N ?hm ?hi ?Fd ?h0 ?h1 ?_ ?hs; (case Fd => with_reducible assumption); (case N => k_asm); (case hm => k_mem); (case hi => with_reducible assumption); (case h0 => omega); (case h1 => omega); (case hs => with_unfolding_all rfl)); intro w9 l9 l9' t9 T9 Tr9; (have tw2 := T9.w2); (have twP := T9.wP); (have tl2 := T9.l2); (have tlN := T9.lN); (have tk2 := T9.k2); (have tkN := T9.kN); (try dsimp only); (try k_fold)))
local macro_rules | `(tactic| walk_at "compareOp Eq ref ref") => `(tactic| (k_here; (with_reducible show wpAny _ _ (compareOp CmpOp.Eq (Value.ref _) (Value.ref _)) _ _ _); (with_reducible rename (_ = (2 : Int)) => zw9); k_dflt (refine' Mine.op_use ?k1 ?k2 ?k3 ?k4 ?k5 ?kK (Mine.s_eqPts _ _ _ _ _ _ ?hp1 ?hx1 ?hX1 ?hy1 ?hY1 ?hp2 ?hx2 ?hX2 ?hy2 ?hY2) ?kd ?ku ?_; (case k1 => k_asm); (case k2 => k_asm); (case k3 => k_asm); (case k4 => k_asm); (case k5 => k_asm); (case kK => first | exact rfl | assumption); (case hp1 => k_mem); (case hx1 => k_mem); (case hX1 => k_mem); (case hy1 => k_mem); (case hY1 => k_mem); (case hp2 => k_mem); (case hx2 => k_mem); (case hX2 => k_mem); (case hy2 => k_mem); (case hY2 => k_mem); (case kd => ktr_room); (case ku => ktr_units)); intro h9 tk9 F9 N9; (try dsimp only); (try k_fold); (try k_sweep)))
local macro_rules | `(tactic| walk_at "compareOp Eq ref ref") => `(tactic| (k_here; (with_reducible show wpAny _ _ (compareOp CmpOp.Eq (Value.ref _) (Value.ref _)) _ _ _); (fail_if_success (with_reducible rename (_ = (2 : Int)) => zw9)); k_dflt (refine' Mine.eqT2Y ?N ?ha ?hb ?hu ?he ?_; (case N => k_asm); (case ha => k_mem); (case hb => k_mem); (case hu => exact Nat.le_of_ble_eq_true rfl); (case he => k_extra "eqT"))))
local macro_rules | `(tactic| walk_at "compareOp NotEq ref ref") => `(tactic| (k_here; (with_reducible show wpAny _ _ (compareOp CmpOp.NotEq (Value.ref _) (Value.ref _)) _ _ _); k_dflt (refine' Mine.neT2Y ?N ?ha ?hb ?hu ?he ?_; (case N => k_asm); (case ha => k_mem); (case hb => k_mem); (case hu => exact Nat.le_of_ble_eq_true rfl); (case he => k_extra "eqT"))))
local macro_rules | `(tactic| walk_at "compareOp Eq ref ref") => `(tactic| (k_here; (with_reducible show wpAny _ _ (compareOp CmpOp.Eq (Value.ref _) (Value.ref _)) _ _ _); (fail_if_success (with_reducible rename (_ = (2 : Int)) => zw9)); k_dflt (refine' Mine.eqT2C ?T ?hk ?N ?ha ?hb ?hu ?_; (case T => with_reducible assumption); (case hk => with_reducible assumption); (case N => k_asm); (case ha => k_mem); (case hb => k_mem); (case hu => exact Nat.le_of_ble_eq_true rfl))))
local macro_rules | `(tactic| walk_at "call ref nil") => `(tactic| (k_here; (with_reducible show wpAny _ _ (call (Value.ref 463) _ _) _ _ _); k_dflt (refine' Mine.call_use ?k1 ?k2 ?k3 ?k4 ?k5 ?kK (Mine.c_curves _ _ _ _ _ _ ) ?kd ?ku ?_; (case k1 => k_asm); (case k2 => k_asm); (case k3 => k_asm); (case k4 => k_asm); (case k5 => k_asm); (case kK => first | exact rfl | assumption); (case kd => ktr_room); (case ku => ktr_units)); intro D9 vs9 tl9 n9 h9 tk9 M91 M92 F9 N9; (try dsimp only); (try k_fold); (try k_sweep)))
local macro_rules | `(tactic| walk_at "call ref") => `(tactic| (k_here; (with_reducible show wpAny _ _ (call (Value.ref 475) [Value.int _ _]) _ _ _); k_dflt (refine' Mine.call_use ?k1 ?k2 ?k3 ?k4 ?k5 ?kK (Mine.c_roots _ _ _ _ _ _  _ _ ?h1 ?h2) ?kd ?ku ?_; (case k1 => k_asm); (case k2 => k_asm); (case k3 => k_asm); (case k4 => k_asm); (case k5 => k_asm); (case kK => first | exact rfl | assumption); (case h1 => first | with_reducible assumption | omega); (case h2 => first | with_reducible assumption | omega); (case kd => ktr_room); (case ku => ktr_units)); intro D9 ys9 h9 tk9 I9 ne9 F9 N9; (try (simp only [LCg.Off1, and_true] at ne9)); (try dsimp only); (try k_fold); (try k_sweep)))
local macro_rules | `(tactic| walk_at "call ref") => `(tactic| (k_here; (with_reducible show wpAny _ _ (call (Value.ref 70) [Value.ref _, Value.int _ _, Value.ref _]) _ _ _); k_dflt (refine' Mine.call_use ?k1 ?k2 ?k3 ?k4 ?k5 ?kK (Mine.s_mul _ _ _ _ _ _  ?hG _ _ ?hi _ _ ?hn ?hN ?hp ?hc) ?kd ?ku ?_; (case k1 => k_asm); (case k2 => k_asm); (case k3 => k_asm); (case k4 => k_asm); (case k5 => k_asm); (case kK => first | exact rfl | assumption); (case hp => k_mem); (case hc => k_mem); (case hG => with_reducible assumption); (case hi => first | with_reducible assumption | k_extra "nz"); (case hn => first | with_reducible assumption | omega); (case hN => first | with_reducible assumption | omega); (case kd => ktr_room); (case ku => ktr_units)); intro r9 t91 t92 c9 h9 tk9 F9 N9; (try dsimp only); (try k_fold); (try k_sweep)))
local macro_rules | `(tactic| walk_at "call ref") => `(tactic| (k_here; (with_reducible show wpAny _ _ (call (Value.ref 77) [Value.ref _, Value.ref _, Value.ref _]) _ _ _); k_dflt (refine' Mine.call_use ?k1 ?k2 ?k3 ?k4 ?k5 ?kK (Mine.s_add _ _ _ _ _ _  ?hG _ _ _ ?hp ?hq ?hc) ?kd ?ku ?_; (case k1 => k_asm); (case k2 => k_asm); (case k3 => k_asm); (case k4 => k_asm); (case k5 => k_asm); (case kK => first | exact rfl | assumption); (case hp => k_mem); (case hq => k_mem); (case hc => k_mem); (case hG => with_reducible assumption); (case kd => ktr_room); (case ku => ktr_units)); intro r9 t91 t92 c9 h9 tk9 F9 N9; (try dsimp only); (try k_fold); (try k_sweep)))
local macro_rules | `(tactic| walk_at "call ref") => `(tactic| (k_here; (with_reducible show wpAny _ _ (call (Value.ref 482) [Value.ref _, Value.int _ _, Value.int _ _]) _ _ _); k_dflt (refine' Mine.call_use ?k1 ?k2 ?k3 ?k4 ?k5 ?kK (Mine.s_turn _ _ _ _ _ _  ?hG _ _ _ _ ?hp ?hv ?hy) ?kd ?ku ?_; (case k1 => k_asm); (case k2 => k_asm); (case k3 => k_asm); (case k4 => k_asm); (case k5 => k_asm); (case kK => first | exact rfl | assumption); (case hp => k_mem); (case hG => with_reducible assumption); (case hv => first | exact Mine.Trn.tx2 (by with_reducible assumption) (by with_reducible assumption) _ | exact Mine.Trn.tx (by with_reducible assumption) _); (case hy => first | exact Mine.Trn.ty2 (by with_reducible assumption) _ | exact Mine.Trn.ty (by with_reducible assumption) _); (case kd => ktr_room); (case ku => ktr_units)); intro r9 t91 t92 c9 h9 tk9 F9 N9; (try dsimp only); (try k_fold); (try k_sweep)))
local macro_rules | `(tactic| walk_at "call ref") => `(tactic| (k_here; (with_reducible show wpAny _ _ (call (Value.ref 489) [Value.ref _, Value.int _ _, Value.int _ _]) _ _ _); k_dflt (refine' Mine.call_use ?k1 ?k2 ?k3 ?k4 ?k5 ?kK (Mine.s_quick _ _ _ _ _ _  ?hG _ _ _ _ ?h1 ?h2 ?hp) ?kd ?ku ?_; (case k1 => k_asm); (case k2 => k_asm); (case k3 => k_asm); (case k4 => k_asm); (case k5 => k_asm); (case kK => first | exact rfl | assumption); (case hp => k_mem); (case hG => with_reducible assumption); (case h1 => first | with_reducible assumption | omega); (case h2 => first | with_reducible assumption | omega); (case kd => ktr_room); (case ku => ktr_units)); intro x9 y9 z9 J9 r9 ax9 dx9 ay9 dy9 az9 dz9 c9 k19 k29 t19 t29 l19 l29 s19 s29 o19 o29 q19 q29 h9 tk9 F9 N9; (try dsimp only); (try k_fold); (try k_sweep)))
local macro_rules | `(tactic| walk_at "call ref") => `(tactic| (k_here; (with_reducible show wpAny _ _ (call (Value.ref 496) [Value.ref _, Value.int _ _]) _ _ _); k_dflt (refine' Mine.call_use ?k1 ?k2 ?k3 ?k4 ?k5 ?kK (Mine.s_plain _ _ _ _ _ _  ?hG _ _ ?hp) ?kd ?ku ?_; (case k1 => k_asm); (case k2 => k_asm); (case k3 => k_asm); (case k4 => k_asm); (case k5 => k_asm); (case kK => first | exact rfl | assumption); (case hp => k_mem); (case hG => with_reducible assumption); (case kd => ktr_room); (case ku => ktr_units)); intro r9 ax9 dx9 ay9 dy9 c9 k19 k29 t19 t29 l19 l29 s19 s29 h9 tk9 F9 N9; (try dsimp only); (try k_fold); (try k_sweep)))
local macro_rules | `(tactic| walk_at "call ref") => `(tactic| (k_here; (with_reducible show wpAny _ _ (call (Value.ref 105) [Value.ref _, Value.int _ _]) _ _ _); k_dflt (refine' Mine.call_use ?k1 ?k2 ?k3 ?k4 ?k5 ?kK (Mine.s_bmul _ _ _ _ _ ?hG _ _ _ ?hi ?hn ?hN rfl ?hp1 ?hx1 ?hX1 ?hy1 ?hY1) ?kd ?ku ?_; (case k1 => k_asm); (case k2 => k_asm); (case k3 => k_asm); (case k4 => k_asm); (case k5 => k_asm); (case kK => first | exact rfl | assumption); (case hp1 => k_mem); (case hx1 => k_mem); (case hX1 => k_mem); (case hy1 => k_mem); (case hY1 => k_mem); (case hG => with_reducible assumption); (case hi => first | with_reducible assumption | k_extra "nz"); (case hn => first | with_reducible assumption | omega); (case hN => first | with_reducible assumption | omega); (case kd => ktr_room); (case ku => ktr_units)); intro r9 ax9 dx9 ay9 dy9 c9 k19 k29 t19 t29 l19 l29 s19 s29 h9 tk9 F9 N9; (try dsimp only); (try k_fold); (try k_sweep)))
local macro_rules | `(tactic| walk_at "call ref") => `(tactic| (k_here; (with_reducible show wpAny _ _ (call (Value.ref 449) [Value.ref _, Value.int _ _]) _ _ _); k_dflt (refine' Mine.call_use ?k1 ?k2 ?k3 ?k4 ?k5 ?kK (Mine.s_omul _ _ _ _ _ ?hG _ _ _ _ _ _ ?hi ?J1 ?hn ?hN rfl ?hp1 ?hx1 ?hX1 ?hy1 ?hY1 ?hz1 ?hZ1) ?kd ?ku ?_; (case k1 => k_asm); (case k2 => k_asm); (case k3 => k_asm); (case k4 => k_asm); (case k5 => k_asm); (case kK => first | exact rfl | assumption); (case hp1 => k_mem); (case hx1 => k_mem); (case hX1 => k_mem); (case hy1 => k_mem); (case hY1 => k_mem); (case hz1 => k_mem); (case hZ1 => k_mem); (case hG => with_reducible assumption); (case J1 => with_reducible assumption); (case hi => first | with_reducible assumption | k_extra "nz"); (case hn => first | with_reducible assumption | omega); (case hN => first | with_reducible assumption | omega); (case kd => ktr_room); (case ku => ktr_units)); intro x9 y9 z9 J9 r9 ax9 dx9 ay9 dy9 az9 dz9 c9 k19 k29 t19 t29 l19 l29 s19 s29 o19 o29 q19 q29 h9 tk9 F9 N9; (try dsimp only); (try k_fold); (try k_sweep)))
local macro_rules | `(tactic| walk_at "call ref") => `(tactic| (k_here; (with_reducible show wpAny _ _ (call (Value.ref 428) [Value.ref _]) _ _ _); k_dflt (refine' Mine.call_use ?k1 ?k2 ?k3 ?k4 ?k5 ?kK (Mine.c_oinfN _ _ _ _ _ _ ?hG ?hp1 ?hx1 ?hX1 ?hy1 ?hY1 ?hz1 ?hZ1 ?hn ?hn2) ?kd ?ku ?_; (case k1 => k_asm); (case k2 => k_asm); (case k3 => k_asm); (case k4 => k_asm); (case k5 => k_asm); (case kK => first | exact rfl | assumption); (case hp1 => k_mem); (case hx1 => k_mem); (case hX1 => k_mem); (case hy1 => k_mem); (case hY1 => k_mem); (case hz1 => k_mem); (case hZ1 => k_mem); (case hG => with_reducible assumption); (case hn => exact Mine.prjz1 (by with_reducible assumption)); (case hn2 => exact Mine.prjz2 (by with_reducible assumption)); (case kd => ktr_room); (case ku => ktr_units)); intro h9 tk9 F9 N9; (try dsimp only); (try k_fold); (try k_sweep)))
set_option maxRecDepth 100000 in
set_option maxHeartbeats 40000000 in
theorem PySem.Challenge.cw_bq0013_01_holds : PySem.Challenge.rw_bq0013_01.Holds := by
  refine Mine.hd ?_
  k_go0
  all_goals try k_fold
  k_with_none
  k_with "CompSrcT" => (k_dflt (refine LCt.CompSrcT.ledger (by rfl) (by k_asm) (by k_asm) (by k_mem) (Mine.roots_size (by with_reducible assumption) (by with_reducible assumption)) ?_); intro g8; refine Mine.kci_cnt (by with_reducible assumption) (by with_reducible assumption) (by with_reducible assumption) (by with_reducible assumption) (fun k' t' I' oI' C' oC' D' m' ys' l' h' tk' E' hk' hk2 hkN hI' hC' hx' F' N' off' ne' => ?_) (fun t8 => ?_))
  k_with "CompEnd" => first
    | (refine LCg.CompEnd.intro (by assumption) (by assumption) _ (by kcf_all) (by assumption) (by first | exact True.intro | lcg_src | assumption) (kci_el ?_ rfl rfl); exact Mine.cntG_yes (by assumption))
    | (refine LCg.CompEnd.intro (by assumption) (by assumption) _ (by kcf_all) (by assumption) (by first | exact True.intro | lcg_src | assumption) (kci_no ?_ rfl); exact Mine.cntG_no (by assumption))
  k_with "nz" => first
    | with_reducible assumption
    | (with_reducible refine' Mine.nz_mul ?mzG ?mzh1 ?mzh2 ?mzh3; (case mzG => with_reducible assumption); (case mzh1 => omega); (case mzh2 => omega); (case mzh3 => with_reducible assumption))
    | (with_reducible refine' Mine.Trn.nzl ?mzT ?mzG ?mzh3; (case mzT => with_reducible assumption); (case mzG => with_reducible assumption); (case mzh3 => first | with_reducible assumption | (with_reducible refine' Mine.nz_mul ?myG ?myh1 ?myh2 ?myh3; (case myG => with_reducible assumption); (case myh1 => omega); (case myh2 => omega); (case myh3 => with_reducible assumption))))
    | (with_reducible refine' Mine.Trn.apart ?mzT ?mzG ?mzh3; (case mzT => with_reducible assumption); (case mzG => with_reducible assumption); (case mzh3 => first | with_reducible assumption | (with_reducible refine' Mine.nz_mul ?myG ?myh1 ?myh2 ?myh3; (case myG => with_reducible assumption); (case myh1 => omega); (case myh2 => omega); (case myh3 => with_reducible assumption))))
    | (with_reducible refine' Mine.Trn.sumnz ?mzT ?mzG ?mzh3; (case mzT => with_reducible assumption); (case mzG => with_reducible assumption); (case mzh3 => first | with_reducible assumption | (with_reducible refine' Mine.nz_mul ?myG ?myh1 ?myh2 ?myh3; (case myG => with_reducible assumption); (case myh1 => omega); (case myh2 => omega); (case myh3 => with_reducible assumption))))
    | (with_reducible refine' Mine.Trn.sum ?mzT _; (case mzT => with_reducible assumption))
  k_with "eqT" => first
    | with_reducible exact ⟨rfl, rfl⟩
    | (with_reducible refine' Mine.Trn.sum0 ?mzT ?mzG _; (case mzT => with_reducible assumption); (case mzG => with_reducible assumption))
    | with_reducible exact Mine.turn_add _ _ _ _
    | (with_reducible refine' Mine.way3 ?mzG ?mze; (case mzG => with_reducible assumption); (case mze => with_reducible assumption))
  k_with "eqX" => first
    | with_reducible rfl
  k_with "eqY" => first
    | with_reducible rfl
  w_strict (k_steps)
