import PyProof.Rows.All
import PySem.Builtin.Re_Pattern.W2All
import Wide.All
import OpenK.AllK
import Wide.FinOn
import PySem.Challenge.RW_sc0080_02
set_option Elab.async false
set_option linter.all false
set_option maxRecDepth 100000
set_option maxHeartbeats 0
set_option compiler.extract_closed false
set_option hygiene false
namespace Mine
local macro_rules | `(tactic| omega) => `(tactic| first | with_reducible assumption | lia)
section
open PySem PySem.W PyProof.Rows PySem.Spec PySem.Calls
theorem allLt_get {d : Addr} {l : List (Addr × Obj)} (h : AllLt d l) {p : Addr × Obj} (hp : p ∈ l) : @LT.lt Nat _ p.1 d := by
  induction l with
  | nil => exact absurd hp List.not_mem_nil
  | cons q r ih =>
    rcases List.mem_cons.mp hp with e | hp
    · rw [e]; exact h.1
    · exact ih h.2 hp
structure NeN (a b : Addr) : Prop where
  h : a ≠ b
theorem NeN.of {a b : Addr} (h : ¬ @Eq Nat a b) : NeN a b := ⟨h⟩
theorem NeN.symm {a b : Addr} (h : NeN a b) : NeN b a := ⟨fun e => h.h e.symm⟩
theorem NeN.h' {a b : Addr} (h : NeN b a) : a ≠ b := fun e => h.h e.symm
theorem NeN.n {a b : Addr} (h : NeN a b) : ¬ @Eq Nat a b := h.h
def Sep (P : Addr) (l : List (Addr × Obj)) : Prop := ∀ p ∈ l, NeN p.1 P
theorem Sep.get {P : Addr} {l : List (Addr × Obj)} (h : Sep P l) {p : Addr × Obj} (hp : p ∈ l) : NeN p.1 P := h p hp
theorem ne_nat {a b : Addr} (h : ¬ @Eq Nat a b) : a ≠ b := h
/-- a fact that omega shall not see -/
structure Hid (P : Prop) : Prop where
  h : P
theorem ne_lo {a d : Addr} {o : Obj} {l : List (Addr × Obj)} (h : ∀ p ∈ l, p.1 < d) (m : (a, o) ∈ l) : a ≠ d := Nat.ne_of_lt (h _ m)
theorem ne_hi {a d : Addr} {o : Obj} {l : List (Addr × Obj)} (h : ∀ p ∈ l, p.1 < d) (m : (a, o) ∈ l) : d ≠ a := Nat.ne_of_gt (h _ m)
theorem ne_lo1 {a d : Addr} {o : Obj} {l : List (Addr × Obj)} (h : ∀ p ∈ l, p.1 < d) (m : (a, o) ∈ l) : a ≠ (@HAdd.hAdd Nat Nat Nat instHAdd d 1) := Nat.ne_of_lt (Nat.lt_succ_of_lt (h _ m))
theorem ne_lo2 {a d : Addr} {o : Obj} {l : List (Addr × Obj)} (h : ∀ p ∈ l, p.1 < d) (m : (a, o) ∈ l) : a ≠ (@HAdd.hAdd Nat Nat Nat instHAdd (@HAdd.hAdd Nat Nat Nat instHAdd d 1) 1) := Nat.ne_of_lt (Nat.lt_succ_of_lt (Nat.lt_succ_of_lt (h _ m)))
theorem ne_lo3 {a d : Addr} {o : Obj} {l : List (Addr × Obj)} (h : ∀ p ∈ l, p.1 < d) (m : (a, o) ∈ l) : a ≠ (@HAdd.hAdd Nat Nat Nat instHAdd (@HAdd.hAdd Nat Nat Nat instHAdd (@HAdd.hAdd Nat Nat Nat instHAdd d 1) 1) 1) := Nat.ne_of_lt (Nat.lt_succ_of_lt (Nat.lt_succ_of_lt (Nat.lt_succ_of_lt (h _ m))))
theorem ne_lo4 {a d : Addr} {o : Obj} {l : List (Addr × Obj)} (h : ∀ p ∈ l, p.1 < d) (m : (a, o) ∈ l) : a ≠ (@HAdd.hAdd Nat Nat Nat instHAdd (@HAdd.hAdd Nat Nat Nat instHAdd (@HAdd.hAdd Nat Nat Nat instHAdd (@HAdd.hAdd Nat Nat Nat instHAdd d 1) 1) 1) 1) := Nat.ne_of_lt (Nat.lt_succ_of_lt (Nat.lt_succ_of_lt (Nat.lt_succ_of_lt (Nat.lt_succ_of_lt (h _ m)))))
theorem ne_sep {P a : Addr} {o : Obj} {r : List (Addr × Obj)} (h : Sep P r) (m : (a, o) ∈ r) : a ≠ P := (h _ m).h
theorem nl0 {n K L c : Nat} (h : n + K < c) (hk : L ≤ K) : n + L < c := Nat.lt_of_le_of_lt (Nat.add_le_add_left hk n) h
theorem lt_head {d a : Addr} {o : Obj} {r : List (Addr × Obj)} (h : ∀ p ∈ (a, o) :: r, p.1 < d) : NeN a d := ⟨Nat.ne_of_lt (h _ (.head _))⟩
theorem lt_tail {d : Addr} {x : Addr × Obj} {r : List (Addr × Obj)} (h : ∀ p ∈ x :: r, p.1 < d) : ∀ p ∈ r, p.1 < d := fun p hp => h p (.tail _ hp)
theorem lt_all {i d : Addr} {r : List (Addr × Obj)} (h : ∀ p ∈ r, p.1 < i) (h2 : i < d) : ∀ p ∈ r, p.1 < d := fun p hp => Nat.lt_trans (h p hp) h2
theorem ne_lt2 {a d : Addr} (h : a < d) : NeN a d := ⟨Nat.ne_of_lt h⟩
theorem ltc1 {d a : Addr} {o : Obj} {r : List (Addr × Obj)} (h : ∀ p ∈ (a, o) :: r, p.1 < d) : NeN a (@HAdd.hAdd Nat Nat Nat instHAdd d 1) := ⟨Nat.ne_of_lt (Nat.lt_succ_of_lt (h _ (.head _)))⟩
theorem ltc2 {d a : Addr} {o : Obj} {r : List (Addr × Obj)} (h : ∀ p ∈ (a, o) :: r, p.1 < d) : NeN a (@HAdd.hAdd Nat Nat Nat instHAdd (@HAdd.hAdd Nat Nat Nat instHAdd d 1) 1) := ⟨Nat.ne_of_lt (Nat.lt_succ_of_lt (Nat.lt_succ_of_lt (h _ (.head _))))⟩
theorem ltc3 {d a : Addr} {o : Obj} {r : List (Addr × Obj)} (h : ∀ p ∈ (a, o) :: r, p.1 < d) : NeN a (@HAdd.hAdd Nat Nat Nat instHAdd (@HAdd.hAdd Nat Nat Nat instHAdd (@HAdd.hAdd Nat Nat Nat instHAdd d 1) 1) 1) := ⟨Nat.ne_of_lt (Nat.lt_succ_of_lt (Nat.lt_succ_of_lt (Nat.lt_succ_of_lt (h _ (.head _)))))⟩
theorem sep_head {P a : Addr} {o : Obj} {r : List (Addr × Obj)} (h : Sep P ((a, o) :: r)) : NeN a P := h _ (.head _)
theorem sep_tail {P : Addr} {x : Addr × Obj} {r : List (Addr × Obj)} (h : Sep P (x :: r)) : Sep P r := fun p hp => h p (.tail _ hp)
structure FdK (x y r : Int) : Prop where
  h : x.fdiv y = r
section
variable {prog : Program} {w : World} {A : Around} {E : Value → Shared → Prop} {s : Shared} {a b r : Int} {t u : Tok}
theorem floordiv_known {Q : Value → Shared → Prop} (hk : FdK a b r) (hb : b ≠ 0) (hs : b.natAbs < 1073741824) (h : Q (.int r s.toks) { s with toks := s.toks + 1 }) :
    wpAny (model prog w) A (binaryOp .FloorDiv (.int a t) (.int b u)) Q E s := floordiv_int hb (by rw [hk.h]; exact h) (.inl (PyProof.noPylong_small hs))
theorem rep1 {v : Value} : List.foldl (fun x1 x2 => x1 ++ x2) #[] (List.replicate (if (#[v] : Array Value).isEmpty = true then 0 else (1 : Int).toNat) #[v]) = #[v] := by simp [List.replicate]
theorem rep2 {v : Value} : List.foldl (fun x1 x2 => x1 ++ x2) #[] (List.replicate (if (#[v] : Array Value).isEmpty = true then 0 else (2 : Int).toNat) #[v]) = #[v, v] := by simp [List.replicate]
theorem rep0 {v : Value} : List.foldl (fun x1 x2 => x1 ++ x2) #[] (List.replicate (if (#[v] : Array Value).isEmpty = true then 0 else (0 : Int).toNat) #[v]) = #[] := by simp [List.replicate]
theorem mul_list_res {h₀ : Heap} {L l : Addr} {m : Str → Option Value} {news : List (Addr × Obj)} {items items' : Array Value} {k : Nat} {x : Int} {Q : Value → Shared → Prop}
    (Fm : Fr h₀ L s.heap m) (N : News h₀ L s.heap news) (hm : (l, listOf items k) ∈ news)
    (e : List.foldl (fun x1 x2 => x1 ++ x2) #[] (List.replicate (if items.isEmpty = true then 0 else x.toNat) items) = items')
    (hlo : -(2 ^ 63 : Int) ≤ x) (hhi : x < 2 ^ 63) (hsz : items.size * x.toNat ≤ 2 ^ 24)
    (h : ∀ d h', Fr h₀ L h' m → News h₀ L h' ((d, listOf items' 0) :: news) → (∀ p ∈ news, p.1 < d) → Q (.ref d) { s with heap := h' }) :
    wpAny (model prog w) A (binaryOp .Mult (.ref l) (.int x u)) Q E s :=
  mul_list Fm N (N _ hm).1 hlo hhi hsz fun h' F' N' => h _ h' F' (by rw [← e]; exact N') fun p hp => Heap.lt_size (N p hp).1
end
structure ShrK (x n r : Int) : Prop where
  h0 : 0 ≤ n
  h : x.fdiv (2 ^ n.toNat) = r
structure ShlK (x n r : Int) : Prop where
  h0 : 0 ≤ n
  hs : (Builtin.Int.intBits x : Int) + n ≤ 2 ^ 27
  h : x * 2 ^ n.toNat = r
structure XorK (x y r : Int) : Prop where
  h : Builtin.bitXor x y = r
structure MulK (x y r : Int) : Prop where
  ok : IntMulOk x y
  h : x * y = r
section
variable {prog : Program} {w : World} {A : Around} {E : Value → Shared → Prop} {s : Shared} {a b r : Int} {t u : Tok} {Q : Value → Shared → Prop}
theorem rshift_known (hk : ShrK a b r) (h : Q (.int r s.toks) { s with toks := s.toks + 1 }) : wpAny (model prog w) A (binaryOp .RShift (.int a t) (.int b u)) Q E s := rshift_int hk.h0 (by rw [hk.h]; exact h)
theorem lshift_known (hk : ShlK a b r) (h : Q (.int r s.toks) { s with toks := s.toks + 1 }) : wpAny (model prog w) A (binaryOp .LShift (.int a t) (.int b u)) Q E s := lshift_int hk.h0 hk.hs (by rw [hk.h]; exact h)
theorem xor_known (hk : XorK a b r) (h : Q (.int r s.toks) { s with toks := s.toks + 1 }) : wpAny (model prog w) A (binaryOp .BitXor (.int a t) (.int b u)) Q E s := xor_int (by rw [hk.h]; exact h)
theorem mul_known (hk : MulK a b r) (h : Q (.int r s.toks) { s with toks := s.toks + 1 }) : wpAny (model prog w) A (binaryOp .Mult (.int a t) (.int b u)) Q E s := mul_int (by rw [hk.h]; exact h) hk.ok
end
/-- raw copies of the freshness facts: simp does not open them -/
def RawLt (d : Addr) (l : List (Addr × Obj)) : Prop := ∀ p ∈ l, @LT.lt Nat _ p.1 d
theorem RawLt.mk {d : Addr} {l : List (Addr × Obj)} (h : ∀ p ∈ l, p.1 < d) : RawLt d l := h
theorem RawLt.use {d : Addr} {l : List (Addr × Obj)} {p : Addr × Obj} (h : RawLt d l) (hp : p ∈ l) : @LT.lt Nat _ p.1 d := h p hp
theorem RawLt.all {d : Addr} {l l' : List (Addr × Obj)} (h : RawLt d l) (hp : ∀ p ∈ l', p ∈ l) : AllLt d l' := allLt_of fun p q => h p (hp p q)
inductive Del (P : Addr) (o : Obj) : List (Addr × Obj) → List (Addr × Obj) → Prop
  | head {r} : (∀ p ∈ r, p.1 ≠ P) → Del P o ((P, o) :: r) r
  | tail {p r t} : p.1 ≠ P → Del P o r t → Del P o (p :: r) (p :: t)
section
variable {P : Addr} {o : Obj} {l t : List (Addr × Obj)}
theorem Del.mem (D : Del P o l t) : (P, o) ∈ l := by
  induction D with
  | head _ => exact .head _
  | tail _ _ ih => exact .tail _ ih
theorem Del.sub (D : Del P o l t) : ∀ p ∈ t, p ∈ l := by
  induction D with
  | head _ => exact fun p hp => .tail _ hp
  | tail _ _ ih =>
    intro p hp
    rcases List.mem_cons.mp hp with rfl | hp
    · exact .head _
    · exact .tail _ (ih p hp)
theorem Del.sep (D : Del P o l t) : Sep P t := by
  induction D with
  | head h => exact fun p hp => ⟨h p hp⟩
  | tail h _ ih =>
    intro p hp
    rcases List.mem_cons.mp hp with rfl | hp
    · exact ⟨h⟩
    · exact ih p hp
end
theorem RawLt.of {d : Addr} {l : List (Addr × Obj)} (h : AllLt d l) : RawLt d l := fun _ hp => allLt_get h hp
/-- the table of inner code objects of one def that holds one nested def: not yet made, or made -/
def TabOk (l c : Nat) (q : Str) (ps : Array Value) (c₁ : Addr) (o₁ : Obj) : Prop :=
  ps = #[] ∨ (ps = #[rawInt l, rawInt c, .ref c₁] ∧ ∃ vs t, o₁.data = .fields vs ∧ vs[1]? = some (.str q t))
section
variable {M : Model} {A : Around} {E : Value → Shared → Prop} {s : Shared} {h₀ : Heap} {L a c P c₁ : Addr} {o₁ : Obj} {m mg mb : Str → Option Value} {cn : Str} {cs : Scope} {ccd : Value} {cl : List (Str × Addr)} {news z tl : List (Addr × Obj)}
  {p : Program} {loose : List Str} {mean : ExcName → Option Value} {name qual : Str} {params : Arguments} {body : List Stmt} {ex : Expr} {scope : Scope} {ps : Array Value} {pos : Pos} {firstLine : Nat} {clos : List (Str × Addr)}
theorem nest_any {l k : Nat} {q : Str} {Q : Value → Shared → Prop} (F : Fr h₀ L s.heap m) (N : News h₀ L s.heap news) (T : Top p loose mean mg mb h₀) (C : CodeHd h₀ c P) (hcd : ccd = .ref c) (U : Del P (tabObj ps) news z) (U2 : Del c₁ o₁ z tl) (ht : TabOk l k q ps c₁ o₁)
    (hl : pos.line = l) (hc : pos.col = k) (hq : qual = q) (hcl : closureFor scope (envX cn cs L a ccd cl) = pure clos)
    (h : ∀ f c' oc vs t ctv doc h' tk, Fr h₀ L h' m →
      News h₀ L h' ((f, fnMade name qual params body scope clos doc ((mg "__name__").getD .none) c' ctv) :: (c', oc) :: (P, tabObj #[rawInt l, rawInt k, .ref c']) :: tl) →
      oc.data = .fields vs → vs[1]? = some (.str qual t) → TabOk l k q #[rawInt l, rawInt k, .ref c'] c' oc → (ps = #[] ∨ (c' = c₁ ∧ oc = o₁)) → Sep c' tl → NeN c' P → (∀ q ∈ (P, tabObj ps) :: tl, q.1 < f) → c' < f → Q (.ref f) { s with heap := h', toks := tk }) :
    wpAny M A (makeFunction name qual params (.stmts body) scope (envX cn cs L a ccd cl) [] [] [] pos firstLine) Q E s := by
  subst hl hc hq
  have N2 : News h₀ L s.heap ((P, tabObj ps) :: (c₁, o₁) :: tl) := fun x hx => by
    rcases List.mem_cons.mp hx with rfl | hx
    · exact N _ U.mem
    · rcases List.mem_cons.mp hx with rfl | hx
      · exact N _ (U.sub _ U2.mem)
      · exact N _ (U.sub _ (U2.sub _ hx))
  have hP1 : c₁ ≠ P := (U.sep _ U2.mem).h
  have hPt : ∀ x ∈ (c₁, o₁) :: tl, x.1 ≠ P := fun x hx => by
    rcases List.mem_cons.mp hx with rfl | hx
    · exact hP1
    · exact (U.sep _ (U2.sub _ hx)).h
  rcases ht with rfl | ⟨rfl, vs, t, hd, hv⟩
  · refine nest_K F N2 T C hcd (.head hPt) (by trivial) rfl hcl fun f c' oc vs t ctv doc h' tk F' N' hd hv l1 l2 => ?_
    refine h f c' oc vs t ctv doc h' tk F' (fun x hx => ?_) hd hv (.inr ⟨rfl, vs, t, hd, hv⟩) (.inl rfl) (fun x hx => ⟨fun e => Nat.ne_of_lt (l1 x (.tail _ (.tail _ hx))) e⟩) ⟨fun e => Nat.ne_of_lt (l1 _ (.head _)) e.symm⟩ (fun x hx => ?_) l2
    · have e : (#[] : Array Value) ++ #[rawInt pos.line, rawInt pos.col, .ref c'] = #[rawInt pos.line, rawInt pos.col, .ref c'] := by simp
      rw [e] at N'
      rcases List.mem_cons.mp hx with rfl | hx
      · exact N' _ (.head _)
      · rcases List.mem_cons.mp hx with rfl | hx
        · exact N' _ (.tail _ (.head _))
        · rcases List.mem_cons.mp hx with rfl | hx
          · exact N' _ (.tail _ (.tail _ (.head _)))
          · exact N' _ (.tail _ (.tail _ (.tail _ (.tail _ hx))))
    · rcases List.mem_cons.mp hx with rfl | hx
      · exact Nat.lt_trans (l1 _ (.head _)) l2
      · exact Nat.lt_trans (l1 x (.tail _ (.tail _ hx))) l2
  · refine nestHit_K (c' := c₁) F N2 T C hcd (.head _) (by simp [TriplesOk, rawInt]) (by simp [codeAmong, rawInt]) hcl fun f ctv doc h' tk F' N' l1 => ?_
    refine h f c₁ o₁ vs t ctv doc h' tk F' (fun x hx => ?_) hd hv (.inr ⟨rfl, vs, t, hd, hv⟩) (.inr ⟨rfl, rfl⟩) U2.sep ⟨hP1⟩ (fun x hx => ?_) (l1 _ (.tail _ (.head _)))
    · rcases List.mem_cons.mp hx with rfl | hx
      · exact N' _ (.head _)
      · rcases List.mem_cons.mp hx with rfl | hx
        · exact N' _ (.tail _ (.tail _ (.head _)))
        · rcases List.mem_cons.mp hx with rfl | hx
          · exact N' _ (.tail _ (.head _))
          · exact N' _ (.tail _ (.tail _ (.tail _ hx)))
    · rcases List.mem_cons.mp hx with rfl | hx
      · exact l1 _ (.head _)
      · exact l1 x (.tail _ (.tail _ hx))
theorem lam_any {l k : Nat} {q : Str} {Q : Value → Shared → Prop} (F : Fr h₀ L s.heap m) (N : News h₀ L s.heap news) (T : Top p loose mean mg mb h₀) (C : CodeHd h₀ c P) (hcd : ccd = .ref c) (U : Del P (tabObj ps) news z) (U2 : Del c₁ o₁ z tl) (ht : TabOk l k q ps c₁ o₁)
    (hl : pos.line = l) (hc : pos.col = k) (hq : qual = q) (hcl : closureFor scope (envX cn cs L a ccd cl) = pure clos)
    (h : ∀ f c' oc vs t ctv h' tk, Fr h₀ L h' m →
      News h₀ L h' ((f, kla_obj name qual params ex scope clos ((mg "__name__").getD .none) c' ctv) :: (c', oc) :: (P, tabObj #[rawInt l, rawInt k, .ref c']) :: tl) →
      oc.data = .fields vs → vs[1]? = some (.str qual t) → TabOk l k q #[rawInt l, rawInt k, .ref c'] c' oc → (ps = #[] ∨ (c' = c₁ ∧ oc = o₁)) → Sep c' tl → NeN c' P → (∀ q ∈ (P, tabObj ps) :: tl, q.1 < f) → c' < f → Q (.ref f) { s with heap := h', toks := tk }) :
    wpAny M A (makeFunction name qual params (.expr ex) scope (envX cn cs L a ccd cl) [] [] [] pos firstLine) Q E s := by
  subst hl hc hq
  have N2 : News h₀ L s.heap ((P, tabObj ps) :: (c₁, o₁) :: tl) := fun x hx => by
    rcases List.mem_cons.mp hx with rfl | hx
    · exact N _ U.mem
    · rcases List.mem_cons.mp hx with rfl | hx
      · exact N _ (U.sub _ U2.mem)
      · exact N _ (U.sub _ (U2.sub _ hx))
  have hP1 : c₁ ≠ P := (U.sep _ U2.mem).h
  have hPt : ∀ x ∈ (c₁, o₁) :: tl, x.1 ≠ P := fun x hx => by
    rcases List.mem_cons.mp hx with rfl | hx
    · exact hP1
    · exact (U.sep _ (U2.sub _ hx)).h
  rcases ht with rfl | ⟨rfl, vs, t, hd, hv⟩
  · refine kla_nest F N2 T C hcd (.head hPt) (by trivial) rfl hcl fun f c' oc vs t ctv h' tk F' N' hd hv l1 l2 => ?_
    refine h f c' oc vs t ctv h' tk F' (fun x hx => ?_) hd hv (.inr ⟨rfl, vs, t, hd, hv⟩) (.inl rfl) (fun x hx => ⟨fun e => Nat.ne_of_lt (l1 x (.tail _ (.tail _ hx))) e⟩) ⟨fun e => Nat.ne_of_lt (l1 _ (.head _)) e.symm⟩ (fun x hx => ?_) l2
    · have e : (#[] : Array Value) ++ #[rawInt pos.line, rawInt pos.col, .ref c'] = #[rawInt pos.line, rawInt pos.col, .ref c'] := by simp
      rw [e] at N'
      rcases List.mem_cons.mp hx with rfl | hx
      · exact N' _ (.head _)
      · rcases List.mem_cons.mp hx with rfl | hx
        · exact N' _ (.tail _ (.head _))
        · rcases List.mem_cons.mp hx with rfl | hx
          · exact N' _ (.tail _ (.tail _ (.head _)))
          · exact N' _ (.tail _ (.tail _ (.tail _ (.tail _ hx))))
    · rcases List.mem_cons.mp hx with rfl | hx
      · exact Nat.lt_trans (l1 _ (.head _)) l2
      · exact Nat.lt_trans (l1 x (.tail _ (.tail _ hx))) l2
  · refine kla_hit (c' := c₁) F N2 T C hcd (.head _) (by simp [TriplesOk, rawInt]) (by simp [codeAmong, rawInt]) hcl fun f ctv h' tk F' N' l1 => ?_
    refine h f c₁ o₁ vs t ctv h' tk F' (fun x hx => ?_) hd hv (.inr ⟨rfl, vs, t, hd, hv⟩) (.inr ⟨rfl, rfl⟩) U2.sep ⟨hP1⟩ (fun x hx => ?_) (l1 _ (.tail _ (.head _)))
    · rcases List.mem_cons.mp hx with rfl | hx
      · exact N' _ (.head _)
      · rcases List.mem_cons.mp hx with rfl | hx
        · exact N' _ (.tail _ (.tail _ (.head _)))
        · rcases List.mem_cons.mp hx with rfl | hx
          · exact N' _ (.tail _ (.head _))
          · exact N' _ (.tail _ (.tail _ (.tail _ hx)))
    · rcases List.mem_cons.mp hx with rfl | hx
      · exact l1 _ (.head _)
      · exact l1 x (.tail _ (.tail _ hx))
end
theorem nat_and_low (x k : Nat) : x &&& (x / 2 ^ k * 2 ^ k) = x / 2 ^ k * 2 ^ k := by
  rw [← Nat.shiftRight_eq_div_pow, ← Nat.shiftLeft_eq]
  apply Nat.eq_of_testBit_eq
  intro i
  rw [Nat.testBit_and, Nat.testBit_shiftLeft, Nat.testBit_shiftRight]
  by_cases h : k ≤ i
  · have : k + (i - k) = i := by omega
    rw [this]
    cases x.testBit i <;> simp
  · have : decide (i ≥ k) = false := by simp; omega
    rw [this]; simp
theorem xor_low {x : Int} (hx : 0 ≤ x) (k : Nat) : Builtin.bitXor x (x.fdiv (2 ^ k) * 2 ^ k) = x.fmod (2 ^ k) := by
  obtain ⟨n, rfl⟩ := Int.eq_ofNat_of_zero_le hx
  have hp : (0 : Int) ≤ 2 ^ k := Int.le_of_lt (Int.pow_pos (by decide))
  have h2 : ((2 : Int) ^ k) = ((2 ^ k : Nat) : Int) := by simp
  rw [bitXor_and, Int.fdiv_eq_ediv_of_nonneg _ hp, Int.fmod_eq_emod_of_nonneg _ hp, h2]
  have e1 : ((n : Int) / ((2 ^ k : Nat) : Int)) * ((2 ^ k : Nat) : Int) = ((n / 2 ^ k * 2 ^ k : Nat) : Int) := by simp
  rw [e1]
  have e2 : Builtin.bitAnd (n : Int) ((n / 2 ^ k * 2 ^ k : Nat) : Int) = ((n / 2 ^ k * 2 ^ k : Nat) : Int) := by
    unfold Builtin.bitAnd
    have a1 : decide ((0 : Int) ≤ (n : Int)) = true := by simp
    have a2 : decide ((0 : Int) ≤ ((n / 2 ^ k * 2 ^ k : Nat) : Int)) = true := by simp; exact Int.mul_nonneg (Int.ediv_nonneg (by omega) (by omega)) (by omega)
    rw [a1, a2]
    show (((n : Int).toNat &&& ((n / 2 ^ k * 2 ^ k : Nat) : Int).toNat : Nat) : Int) = _
    rw [Int.toNat_natCast, Int.toNat_natCast, nat_and_low]
  rw [e2]
  have e3 : (n : Int) % ((2 ^ k : Nat) : Int) = ((n % 2 ^ k : Nat) : Int) := by simp
  rw [e3]
  have := Nat.div_add_mod n (2 ^ k)
  have c := Nat.mul_comm (2 ^ k) (n / 2 ^ k)
  omega
def I2Q : Str := Str.ofString "_int2digits.<locals>.inner"
def D2Q : Str := Str.ofString "_digits2int.<locals>.inner"
def LXQ : Str := Str.ofString "_law_lexer.<locals>.<lambda>"
abbrev tupObj (vs : Array Value) : Obj := { cls := .type "tuple", data := .seq vs }
structure DivK (x y q r : Int) : Prop where
  h0 : y ≠ 0
  hp : Builtin.divisionGoesByPylong x y = false
  hq : x.fdiv y = q
  hr : x.fmod y = r
structure BitK (x n : Int) : Prop where
  h : (Builtin.Int.intBits x : Int) = n
section
variable {prog : Program} {w : World} {A : Around} {E : Value → Shared → Prop} {s : Shared} {a b q r n : Int} {t u : Tok} {Q : Value → Shared → Prop} {h₀ : Heap} {L : Addr} {m : Str → Option Value} {news : List (Addr × Obj)}
theorem divmod_known (F : Fr h₀ L s.heap m) (N : News h₀ L s.heap news) (hk : DivK a b q r)
    (h : ∀ d t1 t2 h', Fr h₀ L h' m → News h₀ L h' ((d, tupObj #[.int q t1, .int r t2]) :: news) → (∀ p ∈ news, p.1 < d) → Q (.ref d) { s with toks := s.toks + 1 + 1, heap := h' }) :
    wpAny (model prog w) A (call (.builtin "divmod") [.int a t, .int b u]) Q E s :=
  divmod_N F N hk.h0 (fun h' F' N' => h _ _ _ h' F' (by rw [← hk.hq, ← hk.hr]; exact N') fun p hp => Heap.lt_size (N p hp).1) (.inl hk.hp)
theorem bits_known (hk : BitK a n) (h : Q (.int n s.toks) { s with toks := s.toks + 1 }) : wpAny (model prog w) A (call (.builtin "int.bit_length") [.int a t]) Q E s := call_int_bit_length (by rw [hk.h]; exact h)
end
theorem RawLt.out {d : Addr} {l : List (Addr × Obj)} (h : RawLt d l) : ∀ p ∈ l, p.1 < d := h
def cutH (h : Heap) (n : Nat) (l : List Addr) : Heap := ⟨(hideAll h l).objs.extract 0 n, h.life⟩
theorem cutH_size (h : Heap) (n : Nat) (l : List Addr) (hn : n ≤ h.objs.size) : (cutH h n l).objs.size = n := by
  show ((hideAll h l).objs.extract 0 n).size = n
  rw [Array.size_extract, hideAll_size]; omega
theorem cutH_at (h : Heap) (n : Nat) (l : List Addr) (b : Nat) (hb : b < n) : (cutH h n l).get? b = (hideAll h l).get? b := by
  unfold Heap.get?
  have e : (cutH h n l).objs[b]? = (hideAll h l).objs[b]? := by
    show ((hideAll h l).objs.extract 0 n)[b]? = _
    rw [Array.getElem?_extract]
    by_cases hs : b < (hideAll h l).objs.size
    · rw [if_pos (by omega)]; simp
    · rw [if_neg (by omega), Array.getElem?_eq_none (by omega)]
  rw [e]
theorem cutH_ge (h : Heap) (n : Nat) (l : List Addr) (b : Nat) (hb : n ≤ b) : (cutH h n l).get? b = none := by
  unfold Heap.get?
  have e : (cutH h n l).objs[b]? = none := by
    show ((hideAll h l).objs.extract 0 n)[b]? = _
    rw [Array.getElem?_extract, if_neg (by omega)]
  rw [e]
theorem of_cutH {h : Heap} {n : Nat} {l : List Addr} {b : Addr} {o : Obj} (e : (cutH h n l).get? b = some o) : h.get? b = some o := by
  by_cases hb : @LT.lt Nat _ b n
  · rw [cutH_at h n l b hb] at e; exact of_hideAll l e
  · rw [cutH_ge h n l b (by omega)] at e; cases e
theorem cutH_none {h : Heap} {n : Nat} {l : List Addr} {b : Addr} (hb : b ∈ l) : (cutH h n l).get? b = none := by
  by_cases hn : @LT.lt Nat _ b n
  · rw [cutH_at h n l b hn]; exact hideAll_none l hb
  · exact cutH_ge h n l b (by omega)
theorem cutH_get {h : Heap} {n : Nat} {l : List Addr} {b : Addr} {o : Obj} (e : h.get? b = some o) (hb : b ∉ l) (hn : @LT.lt Nat _ b n) : (cutH h n l).get? b = some o := by
  rw [cutH_at h n l b hn]; exact hideAll_get l e hb
/-- the tail's objects are put into the base: the ledger within is written out whole -/
def InBase (g : Heap) (tl : List (Addr × Obj)) : Prop := ∀ p ∈ tl, g.get? p.1 = some p.2
theorem InBase.sep {g h : Heap} {L : Addr} {tl l : List (Addr × Obj)} {x : Addr × Obj} (I : InBase g tl) (N : News g L h l) (hm : x ∈ l) : Sep x.1 tl := fun p hp => ⟨fun e => by
  have e1 := I p hp
  have e2 := (N x hm).2.2
  have e3 : p.1 = x.1 := e
  rw [e3, e2] at e1; cases e1⟩
theorem news_cons {h₀ h : Heap} {L : Addr} {l r : List (Addr × Obj)} {x : Addr × Obj} (N : News h₀ L h l) (hm : x ∈ l) (R : News h₀ L h r) : News h₀ L h (x :: r) := fun p hp => by
  rcases List.mem_cons.mp hp with rfl | hp
  · exact N _ hm
  · exact R p hp
theorem news_in {h₀ h : Heap} {L : Addr} {l r : List (Addr × Obj)} (N : News h₀ L h l) (hs : ∀ p ∈ r, p ∈ l) : News h₀ L h r := fun p hp => N p (hs p hp)
abbrev RetOf (fl : Flow) : Value := match fl with | .ret v => v | _ => .none
theorem rebaseK {M : Model} {A A' : Around} {env : Env} {body : List Stmt} {E : Value → Shared → Prop} {s : Shared} {h₀ h₁ g base : Heap} {L L' : Addr} {m m' : Str → Option Value} {ex tl : List (Addr × Obj)} {R : Result → Shared → Prop} {outer : List Env} {K : Frag}
    {p : Program} {loose : List Str} {mean : ExcName → Option Value} {mg mb : Str → Option Value}
    (F : Fr g L' s.heap m') (N : News g L' s.heap (ex ++ tl)) (B : Below A' base outer g) (X : K.In g) (T : Top p loose mean mg mb g)
    (N₀ : News h₀ L h₁ tl) (hlt : ∀ p ∈ tl, @LT.lt Nat _ p.1 L') (hsep : ∀ q ∈ ex, Sep q.1 tl)
    (h : ∀ gp, Fr gp L' s.heap m' → News gp L' s.heap ex → Below A' base outer gp → K.In gp → Top p loose mean mg mb gp → InBase gp tl →
      wpAny M A (execs body env) (fun fl s' => LeaveK h₀ L m gp (fun r s'' => News h₀ L s''.heap tl → R r s'') (match fl with | .ret v => v | _ => .none) s') E s) :
    wpAny M A (execs body env) (fun fl s' => LeaveK h₀ L m g R (match fl with | .ret v => v | _ => .none) s') E s := by
  have hL : L' < s.heap.objs.size := F.ns.lt
  have sub : g.StaysIn (cutH s.heap L' (ex.map Prod.fst)) := fun b o e => by
    refine cutH_get (F.keep b o e) (fun hm => ?_) (Nat.lt_of_lt_of_le (Heap.lt_size e) F.above)
    obtain ⟨q, hq, rfl⟩ := List.mem_map.mp hm
    have := (N q (List.mem_append_left _ hq)).2.2
    rw [e] at this; cases this
  have hsz := cutH_size s.heap L' (ex.map Prod.fst) (Nat.le_of_lt hL)
  have inb : InBase (cutH s.heap L' (ex.map Prod.fst)) tl := fun q hq => by
    refine cutH_get (N q (List.mem_append_right _ hq)).1 (fun hm => ?_) (hlt q hq)
    obtain ⟨q', hq', e⟩ := List.mem_map.mp hm
    exact (hsep q' hq' q hq).h (show q.1 = q'.1 from e.symm)
  refine wpAny_mono (h (cutH s.heap L' (ex.map Prod.fst)) ⟨F.ns, fun b o e => of_cutH e, Nat.le_of_eq hsz⟩ (fun q hq => ⟨(N q (List.mem_append_left _ hq)).1, (N q (List.mem_append_left _ hq)).2.1, cutH_none (List.mem_map_of_mem hq)⟩)
    ⟨B.stack, fun b o e => sub b o (B.stays b o e), B.frames.of_keeps fun b o e _ => ⟨o, sub b o e, rfl⟩⟩ (X.keeps sub) (T.keeps sub) inb) (fun fl s' hl => ?_) fun _ _ x => x
  obtain ⟨L₂, m₂, news', F₂, N₂, k⟩ := hl
  refine ⟨L₂, m₂, news', ⟨F₂.ns, fun b o e => F₂.keep b o (sub b o e), Nat.le_trans F.above (hsz ▸ F₂.above)⟩, fun q hq => ⟨(N₂ q hq).1, (N₂ q hq).2.1, ?_⟩, fun Fh Nh => k Fh Nh fun q hq => ⟨F₂.keep _ _ (inb q hq), (N₀ q hq).2⟩⟩
  cases e : g.get? q.1 with
  | none => rfl
  | some o => have := (N₂ q hq).2.2; rw [sub _ _ e] at this; cases this
section
variable {prog : Program} {w : World} {A A₀ : Around} {s : Shared} {K : Frag} {L : Addr} {h₀ base : Heap} {m mg mb : Str → Option Value} {news : List (Addr × Obj)} {p : Program} {loose : List Str} {mean : ExcName → Option Value}
theorem code_defL {env : Env} {outer : List Env} {R : Result → Shared → Prop} {name qual : Str} {params : Arguments} {body : List Stmt} {scope : Scope} {dV kV doc pm cdv ct oc : Value} {an od : Option Addr} {osl : Array (Option Value)} {f : Addr} {args : Args} {binds : List (Str × Value)}
    (B : Below A₀ base outer h₀) (F : Fr h₀ L s.heap m) (X₀ : K.In h₀) (N : News h₀ L s.heap news) (T : Top p loose mean mg mb h₀) (hA : A.frames = some (env :: outer)) (hf : env.frame = some L) (hke : env.scope.kind = .function)
    (ho : K.lookup f = some ⟨oc, od, .func (fnOf name qual params body scope dV kV doc pm an cdv ct), osl⟩) (hcd : codeIn K cdv qual = true) (hroom : A.depth < recursionLimit)
    (hbind : BindsTo s (fnOf name qual params body scope dV kV doc pm an cdv ct) args binds) (hloc : ∀ y ∈ binds, scope.names.lookup y.1 = some .local)
    (h : ∀ g L' h₁, Fr h₀ L g m → Fr g L' h₁ (fun y => binds.reverse.lookup y) → News g L' h₁ news → Below A base (env :: outer) g → K.In g → Top p loose mean mg mb g → (∀ p ∈ news, p.1 < L') →
      wpAny (model prog w) (A.deeper (envOf qual scope L' f cdv)) (execs body (envOf qual scope L' f cdv))
        (fun fl s' => LeaveK h₀ L m g R (match fl with | .ret v => v | _ => .none) s')
        (fun e s' => wpAny (model prog w) (A.deeper (envOf qual scope L' f cdv)) (leaving (envOf qual scope L' f cdv) e) (fun _ s'' => R (.error e) s'') (fun e' s'' => R (.error e') s'') s')
        { s with heap := h₁, toks := s.toks + binds.length })
    (hco : scope.isCoroutine = false) (hgen : scope.isGenerator = false) (hk : scope.kind = .function)
    (hcell : ∀ x ∈ scope.names, x.2 ≠ .cell) : codeAny (model prog w) A (.call (.ref f) args) R s :=
  callX_plain (cl := []) B F N T.nolimit hA hf hke ((X₀.keeps F.keep) _ _ ho) rfl (codeRec_of (X₀.keeps F.keep) hcd) hroom hbind hloc (fun g L' h₁ FG F' N' B' st l => h g L' h₁ FG F' N' B' (X₀.keeps st) (T.keeps st) l) hcell hco hgen hk
end
theorem sep_cell {L : Addr} {l tl : List (Addr × Obj)} {n : Nat} (h : ∀ p ∈ l, p.1 < L) (hs : ∀ p ∈ tl, p ∈ l) (hn : @LE.le Nat _ L n) : Sep n tl := fun p hp => NeN.of (by
  have h1 : @LT.lt Nat _ p.1 L := h p (hs p hp)
  omega)
theorem sep_sub {P : Addr} {l t : List (Addr × Obj)} (h : Sep P l) (hs : ∀ p ∈ t, p ∈ l) : Sep P t := fun p hp => h p (hs p hp)
theorem del2_news {h₀ h : Heap} {L P c : Addr} {o o₁ : Obj} {l t tl : List (Addr × Obj)} (N : News h₀ L h l) (U : Del P o l t) (U2 : Del c o₁ t tl) : News h₀ L h ((P, o) :: (c, o₁) :: tl) :=
  news_cons N U.mem (news_cons N (U.sub _ U2.mem) (news_in N fun p hp => U.sub p (U2.sub p hp)))

end
section
open PySem PySem.W PyProof.Rows PySem.Spec PySem.Calls
/-- the way onward as a letter: a walk's terms grow with what stands behind it -/
theorem with_Q {α : Type} {M : Model} {A : Around} {E : Value → Shared → Prop} {s : Shared} {t : Sem α} {Q : α → Shared → Prop}
    (h : ∀ R : α → Shared → Prop, (∀ f s', Q f s' → R f s') → wpAny M A t R E s) : wpAny M A t Q E s := h Q fun _ _ q => q
theorem with_Q2 {α β : Type} {M : Model} {A : Around} {E : Value → Shared → Prop} {s : Shared} {t : Sem α} {u : Sem β} {Q : β → Shared → Prop}
    (h : ∀ R : β → Shared → Prop, (∀ f s', Q f s' → R f s') → wpAny M A t (fun _ s₂ => wpAny M A u R E s₂) E s) : wpAny M A t (fun _ s₂ => wpAny M A u Q E s₂) E s := h Q fun _ _ q => q
theorem with_QI {β : Type} {M : Model} {A : Around} {E : Value → Shared → Prop} {s : Shared} {t : Sem Bool} {u : Sem β} {Q : β → Shared → Prop} {Z : Shared → Prop}
    (h : ∀ RT RZ : Shared → Prop, (∀ s', (∀ R : β → Shared → Prop, (∀ f s', Q f s' → R f s') → wpAny M A u R E s') → RT s') → (∀ s', Z s' → RZ s') → wpAny M A t (fun b s₂ => if b = true then RT s₂ else RZ s₂) E s) :
    wpAny M A t (fun b s₂ => if b = true then wpAny M A u Q E s₂ else Z s₂) E s := h (fun s₂ => wpAny M A u Q E s₂) Z (fun _ g => g Q fun _ _ q => q) fun _ q => q
theorem n_lo {n : Nat} (h : n = 4 ∨ n = 5) : 4 ≤ n := h.elim (fun e => Nat.le_of_eq e.symm) fun e => by subst e; decide
theorem n_hi {n : Nat} (h : n = 4 ∨ n = 5) : n ≤ 5 := h.elim (fun e => by subst e; decide) Nat.le_of_eq
theorem cast_sub {n k : Nat} (h : k ≤ n) : (n : Int) - (k : Int) = ((n - k : Nat) : Int) := (Int.ofNat_sub h).symm
theorem cast_pred {n : Nat} (h : 4 ≤ n) : (n : Int) - 1 = ((n - 1 : Nat) : Int) := cast_sub (k := 1) (Nat.le_trans (by decide) h)
theorem cars_of (S : Int) : ∃ n : Nat, S.fmod 2 = (n : Int) - 4 ∧ (n = 4 ∨ n = 5) := by
  obtain ⟨k, hk⟩ := Int.eq_ofNat_of_zero_le (Int.fmod_nonneg_of_pos S (b := 2) (by decide))
  have h2 := Int.fmod_lt_of_pos S (b := 2) (by decide)
  rw [hk] at h2 ⊢
  refine ⟨k + 4, (Int.add_sub_cancel (k : Int) 4).symm, ?_⟩
  match k, Int.ofNat_lt.mp h2 with
  | 0, _ => exact .inl rfl
  | 1, _ => exact .inr rfl
theorem width_of (S : Int) : ∃ wd : Nat, 3 + S.fmod 97 = (wd : Int) ∧ 3 ≤ wd ∧ wd ≤ 99 := by
  obtain ⟨k, hk⟩ := Int.eq_ofNat_of_zero_le (Int.fmod_nonneg_of_pos S (b := 97) (by decide))
  have h2 := Int.fmod_lt_of_pos S (b := 97) (by decide)
  rw [hk] at h2 ⊢
  exact ⟨3 + k, rfl, Nat.le_add_right 3 k, Nat.add_le_add_left (Nat.le_of_lt_succ (Int.ofNat_lt.mp h2)) 3⟩

end
section
open PySem PySem.Sre
def C1 : Array Nat := #[14, 4, 0, 1, 1, 6, 1, 16, 46, 1]
def C2 : Array Nat := #[14, 9, 4, 1, 2, 16, 10, 16, 13, 0, 7, 7, 16, 13, 16, 10, 15, 18, 5, 16, 10, 15, 13, 11, 16, 13, 5, 5, 0, 16, 10, 1, 15, 2, 0, 1]
theorem op6 : ops[6]? = some .AT := rfl
theorem op16 : ops[16]? = some .LITERAL := rfl
theorem op1 : ops[1]? = some .SUCCESS := rfl
theorem op7 : ops[7]? = some .BRANCH := rfl
theorem op15 : ops[15]? = some .JUMP := rfl
theorem op5 : ops[5]? = some .ASSERT_NOT := rfl
theorem op14 : ops[14]? = some .INFO := rfl
theorem step_exec {m : M} (ha : m.answer = none) (ho : m.outcome = none) (hp : m.pc < m.code.size) : m.step = m.exec := by
  unfold M.step
  rw [ho, ha]
  simp [hp]
theorem ex_at {m : M} (hw : m.word 0 = 6) (hw1 : m.word 1 = 1) : ∃ sn, m.exec = if (m.pos == 0 || m.text.getD (m.pos - 1) 0 == 10) = true then { m with seen := sn, pc := m.pc + 2 } else { m with seen := sn, answer := some false } := by
  unfold M.exec
  rw [hw]
  simp only [op6]
  have e : ({ m with seen := m.seen.add 6 } : M).word 1 = 1 := hw1
  rw [e]
  refine ⟨(m.seen.add 6).add 44, ?_⟩
  unfold M.isAt
  dsimp only
  cases h : (m.pos == 0 || m.text.getD (m.pos - 1) 0 == 10) <;> rfl
theorem ex_lit {m : M} (hw : m.word 0 = 16) : ∃ sn, m.exec = if m.pos < m.lim ∧ m.text.getD m.pos 0 = m.word 1 then { m with seen := sn, pc := m.pc + 2, pos := m.pos + 1 } else { m with seen := sn, answer := some false } := by
  unfold M.exec
  rw [hw]
  simp only [op16]
  refine ⟨m.seen.add 16, ?_⟩
  by_cases hl : m.pos < m.lim
  · rw [if_neg (by simpa using hl)]
    unfold accepts
    have hc : m.code.getD m.pc 0 = 16 := by simpa [M.word] using hw
    rw [hc, op16]
    dsimp only
    have hw1 : m.code.getD (m.pc + 1) 0 = m.word 1 := rfl
    rw [hw1]
    by_cases h : m.text.getD m.pos 0 = m.word 1
    · rw [if_pos ⟨hl, h⟩, beq_iff_eq.mpr h]
      dsimp only
      unfold itemWidth
      rw [hc, op16]
    · rw [if_neg (fun x => h x.2), beq_eq_false_iff_ne.mpr h]
      rfl
  · rw [if_pos (by simpa using hl), if_neg (fun x => hl x.1)]
    rfl
theorem ex_succ {m : M} (hw : m.word 0 = 1) (hwt : m.wholeText = false) (hm : m.mustAdvance = true → m.pos ≠ m.start) : ∃ sn, m.exec = { m with seen := sn, handed := m.pos, answer := some true } := by
  unfold M.exec
  rw [hw]
  simp only [op1]
  refine ⟨m.seen.add 1, ?_⟩
  rw [if_neg (by
    simp only [hwt, Bool.false_and, Bool.false_or, Bool.and_eq_true, beq_iff_eq, not_and]
    intro _ h1 h2
    exact hm h1 h2)]
  rfl
def FinIs (m : M) : Option (Nat × Nat) → Prop
  | none => m.outcome = some .failed
  | some (b, e) => m.outcome = some .matched ∧ m.start = b ∧ m.handed = e
def EndsIn (k : Nat) (m : M) (r : Option (Nat × Nat)) : Prop := ∃ N, N ≤ k ∧ FinIs (m.runFor N) r
theorem ends_step {k : Nat} {m : M} {r} (ho : m.outcome = none) (h : EndsIn k m.step r) : EndsIn (k + 1) m r := by
  obtain ⟨N, hN, hf⟩ := h
  refine ⟨N + 1, by omega, ?_⟩
  show FinIs (if m.outcome.isSome then m else m.step.runFor N) r
  rw [ho]
  exact hf
theorem ends_exec {k : Nat} {m : M} {r} (ho : m.outcome = none) (ha : m.answer = none) (hp : m.pc < m.code.size) (h : EndsIn k m.exec r) : EndsIn (k + 1) m r := ends_step ho (by rw [step_exec ha ho hp]; exact h)
theorem EndsIn.mono {k k' : Nat} {m : M} {r} (h : EndsIn k m r) (hk : k ≤ k') : EndsIn k' m r := let ⟨N, a, b⟩ := h; ⟨N, Nat.le_trans a hk, b⟩
theorem ends_say {m : M} {y : Bool} (ho : m.outcome = none) (ha : m.answer = some y) (hf : m.frames = []) : EndsIn 1 m (if y = true then some (m.start, m.handed) else none) := by
  refine ends_step ho ⟨0, Nat.le_refl _, ?_⟩
  show FinIs m.step _
  have e : m.step = { m with outcome := some (if y then .matched else .failed) } := by
    unfold M.step
    rw [ho, ha, hf]
    rfl
  rw [e]
  cases y
  · rfl
  · exact ⟨rfl, rfl, rfl⟩

theorem step_resume {m : M} {y : Bool} {f : Sre.Frame} {rest : List Sre.Frame} (ho : m.outcome = none) (ha : m.answer = some y) (hf : m.frames = f :: rest) :
    m.step = M.resume { m with answer := none, frames := rest, weight := m.weight - (1 + f.kept.marks.size), pc := f.pc, pos := f.pos, outermost := f.outermost } f y := by
  unfold M.step
  rw [ho, ha, hf]
  rfl
def next1 (t : Array Nat) : Nat → Nat → Option (Nat × Nat)
  | 0, _ => none
  | k + 1, s => if (s == 0 || t.getD (s - 1) 0 == 10) = true ∧ s < t.size ∧ t.getD s 0 = 46 then some (s, s + 1) else if s < t.size then next1 t k (s + 1) else none
structure B1 (m : M) (code t : Array Nat) (p : Nat) : Prop where
  code : m.code = code
  text : m.text = t
  lim : m.lim = t.size
  pc : m.pc = p
  frames : m.frames = []
  answer : m.answer = none
  outcome : m.outcome = none
  whole : m.wholeText = false
  weight : m.weight = 0
  last : m.lastStart = t.size
  inner : m.inner = none
  marks : m.marks = #[]
abbrev fr (p s : Nat) (first : Bool) : Sre.Frame := { wait := .nextStart, pc := p, pos := s, outermost := first }
abbrev att (m : M) (p s : Nat) (first : Bool) : M := { m with start := s, lastmark := -1, lastindex := -1, frames := [fr p s first], weight := 1, pc := p, pos := s, handed := s, outermost := first }
theorem att_eq {m : M} {code t : Array Nat} {p : Nat} (B : B1 m code t p) (s : Nat) (first : Bool) : m.attemptAt s first = att m p s first := by
  unfold M.attemptAt M.attempt
  dsimp only
  rw [if_neg (by rw [B.weight]; decide), B.frames, B.weight, B.pc]
  rfl
/-- a start at which the match fails: the next start, or the end -/
abbrev back (m₂ : M) (p s : Nat) (first : Bool) : M := { m₂ with answer := none, frames := [], weight := m₂.weight - 1, pc := p, pos := s, outermost := first }
theorem fail_next {m₂ : M} {n s k p : Nat} {first : Bool} {r} (hm : m₂.outcome = none) (ha : m₂.answer = some false) (hf : m₂.frames = [fr p s first]) (hl : m₂.lastStart = n)
    (hn : s < n → EndsIn k (M.attemptFrom { back m₂ p s first with mustAdvance := false } (s + 1) false) r) (hz : ¬ s < n → r = none) : EndsIn (k + 3) m₂ r := by
  refine (ends_step hm ?_ : EndsIn (k + 2 + 1) m₂ r)
  rw [step_resume hm ha hf]
  unfold M.resume
  dsimp only
  rw [if_neg Bool.false_ne_true]
  by_cases h : s < n
  · rw [if_pos (by rw [hl]; exact h)]
    exact EndsIn.mono (hn h) (Nat.le_add_right k 2)
  · rw [if_neg (by rw [hl]; exact h), hz h]
    exact EndsIn.mono (ends_say (y := false) hm rfl rfl) (by omega)
theorem win {m₂ : M} {s k p : Nat} {first : Bool} (hm : m₂.outcome = none) (ha : m₂.answer = some true) (hf : m₂.frames = [fr p s first]) : EndsIn (k + 3) m₂ (some (m₂.start, m₂.handed)) := by
  refine (ends_step hm ?_ : EndsIn (k + 2 + 1) m₂ _)
  rw [step_resume hm ha hf]
  unfold M.resume
  dsimp only
  rw [if_pos rfl]
  exact EndsIn.mono (ends_say (y := true) (m := M.say _ true) hm rfl rfl) (by omega)
theorem from_no {m : M} (h : m.hasFirstSet = false) (s : Nat) (first : Bool) : m.attemptFrom s first = m.attemptAt s first := by
  unfold M.attemptFrom
  rw [h]
  rfl
theorem no_first1 {m : M} (h : m.code = C1) : m.hasFirstSet = false := by
  unfold M.hasFirstSet
  rw [h]
  rfl
theorem search1 (t : Array Nat) : ∀ (d : Nat) (m : M) (s : Nat) (first : Bool), B1 m C1 t 5 → t.size - s = d → s ≤ t.size → EndsIn (6 * d + 6) (m.attemptAt s first) (next1 t (d + 1) s) := by
  intro d
  induction d with
  | zero =>
    intro m s first B hd hs
    have hs' : ¬ s < t.size := by omega
    have hr : next1 t (0 + 1) s = none := by
      unfold next1
      rw [if_neg (fun x => hs' x.2.1), if_neg hs']
    rw [att_eq B, hr]
    refine ends_exec (k := 5) (by exact B.outcome) (by exact B.answer) (by show 5 < m.code.size; rw [B.code]; decide) ?_
    obtain ⟨sn, e⟩ := ex_at (m := att m 5 s first) (by show m.code.getD 5 0 = 6; rw [B.code]; rfl) (by show m.code.getD 6 0 = 1; rw [B.code]; rfl)
    rw [e]
    split
    · refine ends_exec (k := 4) (by exact B.outcome) (by exact B.answer) (by show 7 < m.code.size; rw [B.code]; decide) ?_
      obtain ⟨sn2, e2⟩ := ex_lit (m := { att m 5 s first with seen := sn, pc := 7 }) (by show m.code.getD 7 0 = 16; rw [B.code]; rfl)
      rw [show ({ att m 5 s first with seen := sn, pc := (att m 5 s first).pc + 2 } : M) = { att m 5 s first with seen := sn, pc := 7 } from rfl, e2, if_neg (fun x => hs' (by have := x.1; rw [show M.lim { att m 5 s first with seen := sn, pc := 7 } = t.size from B.lim] at this; exact this))]
      exact EndsIn.mono (fail_next (k := 0) (n := t.size) B.outcome rfl rfl B.last (fun h => absurd h hs') (fun _ => rfl)) (by omega)
    · exact EndsIn.mono (fail_next (k := 0) (n := t.size) B.outcome rfl rfl B.last (fun h => absurd h hs') (fun _ => rfl)) (by omega)
  | succ d ih =>
    intro m s first B hd hs
    have hs' : s < t.size := by omega
    have next : ∀ m₂ : M, B1 m₂ C1 t 5 → EndsIn (6 * d + 6) (M.attemptFrom m₂ (s + 1) false) (next1 t (d + 1) (s + 1)) := fun m₂ B₂ => by
      rw [from_no (no_first1 B₂.code)]
      exact ih m₂ (s + 1) false B₂ (by omega) (by omega)
    rw [att_eq B]
    refine ends_exec (k := 6 * (d + 1) + 5) (by exact B.outcome) (by exact B.answer) (by show 5 < m.code.size; rw [B.code]; decide) ?_
    obtain ⟨sn, e⟩ := ex_at (m := att m 5 s first) (by show m.code.getD 5 0 = 6; rw [B.code]; rfl) (by show m.code.getD 6 0 = 1; rw [B.code]; rfl)
    rw [e]
    by_cases h1 : (s == 0 || t.getD (s - 1) 0 == 10) = true
    · rw [if_pos (by show (s == 0 || m.text.getD (s - 1) 0 == 10) = true; rw [B.text]; exact h1)]
      refine ends_exec (k := 6 * (d + 1) + 4) (by exact B.outcome) (by exact B.answer) (by show 7 < m.code.size; rw [B.code]; decide) ?_
      obtain ⟨sn2, e2⟩ := ex_lit (m := { att m 5 s first with seen := sn, pc := 7 }) (by show m.code.getD 7 0 = 16; rw [B.code]; rfl)
      rw [show ({ att m 5 s first with seen := sn, pc := (att m 5 s first).pc + 2 } : M) = { att m 5 s first with seen := sn, pc := 7 } from rfl, e2]
      have hw : M.word { att m 5 s first with seen := sn, pc := 7 } 1 = 46 := by show m.code.getD 8 0 = 46; rw [B.code]; rfl
      by_cases h2 : t.getD s 0 = 46
      · rw [if_pos ⟨by show s < m.lim; rw [B.lim]; exact hs', by rw [hw]; show m.text.getD s 0 = 46; rw [B.text]; exact h2⟩]
        have hr : next1 t (d + 1 + 1) s = some (s, s + 1) := by
          unfold next1
          rw [if_pos ⟨h1, hs', h2⟩]
        rw [hr]
        refine ends_exec (k := 6 * (d + 1) + 3) (by exact B.outcome) (by exact B.answer) (by show 9 < m.code.size; rw [B.code]; decide) ?_
        obtain ⟨sn3, e3⟩ := ex_succ (m := { att m 5 s first with seen := sn2, pc := 7 + 2, pos := s + 1 }) (by show m.code.getD 9 0 = 1; rw [B.code]; rfl) B.whole (fun _ => by show s + 1 ≠ s; omega)
        rw [show ({ ({ att m 5 s first with seen := sn, pc := 7 } : M) with seen := sn2, pc := M.pc { att m 5 s first with seen := sn, pc := 7 } + 2, pos := M.pos { att m 5 s first with seen := sn, pc := 7 } + 1 } : M) = { att m 5 s first with seen := sn2, pc := 7 + 2, pos := s + 1 } from rfl, e3]
        exact EndsIn.mono (win (k := 0) B.outcome rfl rfl) (by omega)
      · rw [if_neg (fun x => h2 (by have := x.2; rw [hw] at this; rw [← B.text]; exact this))]
        have hr : next1 t (d + 1 + 1) s = next1 t (d + 1) (s + 1) := by
          conv => lhs; unfold next1
          rw [if_neg (fun x => h2 x.2.2), if_pos hs']
        rw [hr]
        refine EndsIn.mono (fail_next (k := 6 * d + 6) (n := t.size) B.outcome rfl rfl B.last (fun _ => next _ ?_) (fun h => absurd hs' h)) (by omega)
        exact ⟨B.code, B.text, B.lim, rfl, rfl, rfl, B.outcome, B.whole, rfl, B.last, B.inner, B.marks⟩
    · rw [if_neg (by show ¬ (s == 0 || m.text.getD (s - 1) 0 == 10) = true; rw [B.text]; exact h1)]
      have hr : next1 t (d + 1 + 1) s = next1 t (d + 1) (s + 1) := by
        conv => lhs; unfold next1
        rw [if_neg (fun x => h1 x.1), if_pos hs']
      rw [hr]
      refine EndsIn.mono (fail_next (k := 6 * d + 6) (n := t.size) B.outcome rfl rfl B.last (fun _ => next _ ?_) (fun h => absurd hs' h)) (by omega)
      exact ⟨B.code, B.text, B.lim, rfl, rfl, rfl, B.outcome, B.whole, rfl, B.last, B.inner, B.marks⟩

end
section
open PySem PySem.Sre
theorem for1 (t : Array Nat) (s : Nat) (must : Bool) (hs : s ≤ t.size) : EndsIn (6 * t.size + 8) (forSearch C1 t 0 s t.size must) (next1 t (t.size - s + 1) s) := by
  have e : forSearch C1 t 0 s t.size must = (if (s > t.size || decide (t.size - s < 1)) = true then M.say { code := C1, text := t, lim := t.size, start := s, pc := 5, pos := s, handed := s, marks := Array.replicate 0 none, mustAdvance := must, seen := ({} : Seen).add 14 } false
      else M.attemptFrom { code := C1, text := t, lim := t.size, start := s, pc := 5, pos := s, handed := s, marks := Array.replicate 0 none, mustAdvance := must, seen := ({} : Seen).add 14, lastStart := t.size } s true) := rfl
  rw [e]
  split
  · rename_i h
    have hn : ¬ s < t.size := by simp at h; omega
    have hr : next1 t (t.size - s + 1) s = none := by
      unfold next1
      rw [if_neg (fun x => hn x.2.1), if_neg hn]
    rw [hr]
    exact EndsIn.mono (ends_say (y := false) rfl rfl rfl) (by omega)
  · rw [from_no (no_first1 rfl)]
    exact EndsIn.mono (search1 t (t.size - s) _ s true ⟨rfl, rfl, rfl, rfl, rfl, rfl, rfl, rfl, rfl, rfl, rfl, rfl⟩ rfl hs) (by omega)

structure St (m : M) (t : Array Nat) (pc pos st : Nat) (fs : List Sre.Frame) (w : Nat) (om : Bool) (ans : Option Bool) : Prop where
  code : m.code = C2
  text : m.text = t
  lim : m.lim = t.size
  pc : m.pc = pc
  pos : m.pos = pos
  start : m.start = st
  frames : m.frames = fs
  weight : m.weight = w
  om : m.outermost = om
  answer : m.answer = ans
  outcome : m.outcome = none
  whole : m.wholeText = false
  must : m.mustAdvance = false
  lm : m.lastmark = -1
  li : m.lastindex = -1
  inner : m.inner = none
section
variable {m : M} {t : Array Nat} {pc pos st w k : Nat} {fs : List Sre.Frame} {om : Bool} {r : Option (Nat × Nat)}
theorem St.word (h : St m t pc pos st fs w om none) (i : Nat) : m.word i = C2.getD (pc + i) 0 := by
  unfold M.word
  rw [h.code, h.pc]
theorem E_lit_ok (h : St m t pc pos st fs w om none) (hc : C2.getD pc 0 = 16) (hp : pos < t.size) (hx : t.getD pos 0 = C2.getD (pc + 1) 0) (hz : pc < C2.size)
    (n : ∀ m', St m' t (pc + 2) (pos + 1) st fs w om none → EndsIn k m' r) : EndsIn (k + 1) m r := by
  refine ends_exec h.outcome h.answer (by rw [h.pc, h.code]; exact hz) ?_
  obtain ⟨sn, e⟩ := ex_lit (m := m) (by rw [h.word]; exact hc)
  rw [e, if_pos ⟨by rw [h.pos, h.lim]; exact hp, by rw [h.word, h.text, h.pos]; exact hx⟩]
  exact n _ ⟨h.code, h.text, h.lim, congrArg (· + 2) h.pc, congrArg (· + 1) h.pos, h.start, h.frames, h.weight, h.om, h.answer, h.outcome, h.whole, h.must, h.lm, h.li, h.inner⟩
theorem E_lit_no (h : St m t pc pos st fs w om none) (hc : C2.getD pc 0 = 16) (hx : ¬ (pos < t.size ∧ t.getD pos 0 = C2.getD (pc + 1) 0)) (hz : pc < C2.size)
    (n : ∀ m', St m' t pc pos st fs w om (some false) → EndsIn k m' r) : EndsIn (k + 1) m r := by
  refine ends_exec h.outcome h.answer (by rw [h.pc, h.code]; exact hz) ?_
  obtain ⟨sn, e⟩ := ex_lit (m := m) (by rw [h.word]; exact hc)
  rw [e, if_neg (fun x => hx ⟨by rw [← h.pos, ← h.lim]; exact x.1, by have := x.2; rw [h.word, h.text, h.pos] at this; exact this⟩)]
  exact n _ ⟨h.code, h.text, h.lim, h.pc, h.pos, h.start, h.frames, h.weight, h.om, rfl, h.outcome, h.whole, h.must, h.lm, h.li, h.inner⟩
theorem E_jump (h : St m t pc pos st fs w om none) (hc : C2.getD pc 0 = 15) (hz : pc < C2.size)
    (n : ∀ m', St m' t (pc + 1 + C2.getD (pc + 1) 0) pos st fs w om none → EndsIn k m' r) : EndsIn (k + 1) m r := by
  refine ends_exec h.outcome h.answer (by rw [h.pc, h.code]; exact hz) ?_
  have e : m.exec = { m with seen := m.seen.add 15, pc := m.pc + 1 + m.word 1 } := by
    unfold M.exec
    rw [show m.word 0 = 15 by rw [h.word]; exact hc]
    simp only [op15]
    rfl
  rw [e]
  exact n _ ⟨h.code, h.text, h.lim, by show m.pc + 1 + m.word 1 = _; rw [h.word, h.pc], h.pos, h.start, h.frames, h.weight, h.om, h.answer, h.outcome, h.whole, h.must, h.lm, h.li, h.inner⟩
theorem E_succ (h : St m t pc pos st fs w om none) (hc : C2.getD pc 0 = 1) (hz : pc < C2.size)
    (n : ∀ m', St m' t pc pos st fs w om (some true) → m'.handed = pos → EndsIn k m' r) : EndsIn (k + 1) m r := by
  refine ends_exec h.outcome h.answer (by rw [h.pc, h.code]; exact hz) ?_
  obtain ⟨sn, e⟩ := ex_succ (m := m) (by rw [h.word]; exact hc) h.whole (fun x => by rw [h.must] at x; cases x)
  rw [e]
  exact n _ ⟨h.code, h.text, h.lim, h.pc, h.pos, h.start, h.frames, h.weight, h.om, rfl, h.outcome, h.whole, h.must, h.lm, h.li, h.inner⟩ h.pos
abbrev kp0 : Sre.Kept := { lastmark := -1, lastindex := -1, whole := false, marks := #[] }
abbrev nbf (a p : Nat) (o : Bool) : Sre.Frame := { wait := .nextBranch, pc := a, pos := p, outermost := o, kept := kp0 }
abbrev lnf (a p : Nat) (o : Bool) : Sre.Frame := { wait := .lookNot, pc := a, pos := p, outermost := o, kept := kp0 }
theorem E_branch (h : St m t pc pos st fs w om none) (hc : C2.getD pc 0 = 7) (hz : pc < C2.size) (ha : C2.getD (pc + 1) 0 ≠ 0) (hw : w < 100)
    (n : ∀ m', St m' t (pc + 2) pos st (nbf (pc + 1) pos om :: fs) (w + 1) om none → EndsIn k m' r) : EndsIn (k + 1) m r := by
  refine ends_exec h.outcome h.answer (by rw [h.pc, h.code]; exact hz) ?_
  have hk : M.keep { m with seen := m.seen.add 7 } (Option.isSome m.inner) = kp0 := by
    unfold M.keep
    rw [h.inner, h.lm, h.li]
    rfl
  have e : m.exec = { m with seen := m.seen.add 7, frames := nbf (pc + 1) pos om :: fs, weight := w + 1, pc := pc + 2, pos := pos, handed := pos, outermost := om } := by
    unfold M.exec
    rw [show m.word 0 = 7 by rw [h.word]; exact hc]
    simp only [op7]
    rw [hk]
    unfold M.alternative
    dsimp only
    rw [h.code, h.pc, if_neg (by simpa using ha)]
    unfold M.attempt
    dsimp only
    rw [if_neg (by rw [h.weight]; show ¬ (w + 1 + 0 > 16777216); omega), h.weight, h.frames, h.pos, h.om]
    rfl
  rw [e]
  exact n _ ⟨h.code, h.text, h.lim, rfl, rfl, h.start, rfl, rfl, rfl, h.answer, h.outcome, h.whole, h.must, h.lm, h.li, h.inner⟩
theorem E_no_branch {a p : Nat} {o : Bool} (h : St m t pc pos st (nbf a p o :: fs) w om (some false)) (ha : C2.getD (a + C2.getD a 0) 0 ≠ 0) (hw : w < 100) (hw1 : 0 < w)
    (n : ∀ m', St m' t (a + C2.getD a 0 + 1) p st (nbf (a + C2.getD a 0) p o :: fs) w o none → EndsIn k m' r) : EndsIn (k + 1) m r := by
  refine ends_step h.outcome ?_
  rw [step_resume h.outcome h.answer h.frames]
  unfold M.resume M.putBack M.alternative M.attempt M.frame
  dsimp only
  rw [if_neg Bool.false_ne_true, if_neg Bool.false_ne_true, h.code, if_neg (by simpa using ha), if_neg (by rw [h.weight]; show ¬ (w - (1 + 0) + 1 + 0 > 16777216); omega)]
  exact n _ ⟨rfl, h.text, h.lim, rfl, rfl, h.start, rfl, by show m.weight - (1 + 0) + 1 + 0 = w; rw [h.weight]; omega, rfl, rfl, h.outcome, h.whole, h.must, rfl, rfl, h.inner⟩
theorem E_yes_branch {a p hd : Nat} {o : Bool} (h : St m t pc pos st (nbf a p o :: fs) w om (some true)) (hh : m.handed = hd)
    (n : ∀ m', St m' t a p st fs (w - 1) o (some true) → m'.handed = hd → EndsIn k m' r) : EndsIn (k + 1) m r := by
  refine ends_step h.outcome ?_
  rw [step_resume h.outcome h.answer h.frames]
  unfold M.resume M.putBack
  dsimp only
  rw [if_pos rfl]
  exact n _ ⟨h.code, h.text, h.lim, rfl, rfl, h.start, rfl, by show m.weight - (1 + 0) = w - 1; rw [h.weight], rfl, rfl, h.outcome, h.whole, h.must, h.lm, h.li, h.inner⟩ hh
theorem E_assert (h : St m t pc pos st fs w om none) (hc : C2.getD pc 0 = 5) (hz : pc < C2.size) (h2 : C2.getD (pc + 2) 0 = 0) (hw : w < 100)
    (n : ∀ m', St m' t (pc + 3) pos st (lnf pc pos om :: fs) (w + 1) false none → EndsIn k m' r) : EndsIn (k + 1) m r := by
  refine ends_exec h.outcome h.answer (by rw [h.pc, h.code]; exact hz) ?_
  have hk : M.keep { m with seen := m.seen.add 5 } (true && Option.isSome m.inner) = kp0 := by
    unfold M.keep
    rw [h.inner, h.lm, h.li]
    rfl
  have e : m.exec = { m with seen := m.seen.add 5, frames := lnf pc pos om :: fs, weight := w + 1, pc := pc + 3, pos := pos - 0, handed := pos - 0, outermost := false } := by
    unfold M.exec
    rw [show m.word 0 = 5 by rw [h.word]; exact hc]
    simp only [op5]
    have w2 : M.word { m with seen := m.seen.add 5 } 2 = 0 := by
      show m.word 2 = 0
      rw [h.word]; exact h2
    rw [w2, hk, if_neg (Nat.not_lt_zero _)]
    unfold M.attempt M.frame
    dsimp only
    rw [if_neg (by rw [h.weight]; show ¬ (w + 1 + 0 > 16777216); omega), h.weight, h.frames, h.pos, h.om, h.pc]
    simp
  rw [e]
  exact n _ ⟨h.code, h.text, h.lim, rfl, rfl, h.start, rfl, rfl, rfl, h.answer, h.outcome, h.whole, h.must, h.lm, h.li, h.inner⟩
theorem E_no_look {a p : Nat} {o : Bool} (h : St m t pc pos st (lnf a p o :: fs) w om (some false))
    (n : ∀ m', St m' t (a + 1 + C2.getD (a + 1) 0) p st fs (w - 1) o none → EndsIn k m' r) : EndsIn (k + 1) m r := by
  refine ends_step h.outcome ?_
  rw [step_resume h.outcome h.answer h.frames]
  unfold M.resume M.putBack M.word
  dsimp only
  rw [if_neg Bool.false_ne_true, if_neg Bool.false_ne_true, h.code]
  exact n _ ⟨rfl, h.text, h.lim, rfl, rfl, h.start, rfl, by show m.weight - (1 + 0) = w - 1; rw [h.weight], rfl, rfl, h.outcome, h.whole, h.must, rfl, rfl, h.inner⟩
theorem E_win {p s hd : Nat} {first : Bool} (h : St m t pc pos st [fr p s first] w om (some true)) (hh : m.handed = hd) : EndsIn (k + 3) m (some (st, hd)) := by
  have := win (k := k) (m₂ := m) h.outcome h.answer h.frames
  rw [h.start, hh] at this
  exact this
end

/-- the end of the match that begins at s, a feed or a return -/
def end2 (t : Array Nat) (s : Nat) : Nat := if t.getD s 0 = 13 ∧ s + 1 < t.size ∧ t.getD (s + 1) 0 = 10 then s + 2 else s + 1
theorem match2 {m : M} {t : Array Nat} {s : Nat} {first : Bool} (h : St m t 10 s s [fr 10 s first] 1 first none) (hs : s < t.size) (hx : t.getD s 0 = 10 ∨ t.getD s 0 = 13) : EndsIn 30 m (some (s, end2 t s)) := by
  refine E_branch (k := 29) h rfl (by decide) (by decide) (by omega) fun m1 h1 => ?_
  have no10 : ∀ {m : M} {pc pos st w : Nat} {fs : List Sre.Frame} {om : Bool}, St m t pc pos st fs w om none → True := fun _ => trivial
  by_cases h13 : t.getD s 0 = 13
  · refine E_lit_ok (k := 28) h1 rfl hs h13 (by decide) fun m2 h2 => ?_
    by_cases h10 : s + 1 < t.size ∧ t.getD (s + 1) 0 = 10
    · have he : end2 t s = s + 2 := by unfold end2; rw [if_pos ⟨h13, h10⟩]
      rw [he]
      refine E_lit_ok (k := 27) h2 rfl h10.1 h10.2 (by decide) fun m3 h3 => ?_
      refine E_jump (k := 26) h3 rfl (by decide) fun m4 h4 => ?_
      refine E_succ (k := 25) h4 rfl (by decide) fun m5 h5 e5 => ?_
      refine E_yes_branch (k := 24) h5 e5 fun m6 h6 e6 => ?_
      exact E_win (k := 21) h6 e6
    · have he : end2 t s = s + 1 := by unfold end2; rw [if_neg fun x => h10 x.2]
      rw [he]
      refine E_lit_no (k := 27) h2 rfl h10 (by decide) fun m3 h3 => ?_
      refine E_no_branch (k := 26) h3 (by decide) (by omega) (by omega) fun m4 h4 => ?_
      refine E_lit_no (k := 25) h4 rfl (fun x => by have := x.2; rw [h13] at this; exact absurd this (by decide)) (by decide) fun m5 h5 => ?_
      refine E_no_branch (k := 24) h5 (by decide) (by omega) (by omega) fun m6 h6 => ?_
      refine E_lit_ok (k := 23) h6 rfl hs h13 (by decide) fun m7 h7 => ?_
      refine E_assert (k := 22) h7 rfl (by decide) rfl (by omega) fun m8 h8 => ?_
      refine E_lit_no (k := 21) h8 rfl h10 (by decide) fun m9 h9 => ?_
      refine E_no_look (k := 20) h9 fun m10 h10' => ?_
      refine E_jump (k := 19) h10' rfl (by decide) fun m11 h11 => ?_
      refine E_succ (k := 18) h11 rfl (by decide) fun m12 h12 e12 => ?_
      refine E_yes_branch (k := 17) h12 e12 fun m13 h13' e13 => ?_
      exact E_win (k := 14) h13' e13
  · have h10 : t.getD s 0 = 10 := hx.resolve_right h13
    have he : end2 t s = s + 1 := by unfold end2; rw [if_neg fun x => h13 x.1]
    rw [he]
    refine E_lit_no (k := 28) h1 rfl (fun x => h13 x.2) (by decide) fun m2 h2 => ?_
    refine E_no_branch (k := 27) h2 (by decide) (by omega) (by omega) fun m3 h3 => ?_
    refine E_lit_ok (k := 26) h3 rfl hs h10 (by decide) fun m4 h4 => ?_
    refine E_jump (k := 25) h4 rfl (by decide) fun m5 h5 => ?_
    refine E_succ (k := 24) h5 rfl (by decide) fun m6 h6 e6 => ?_
    refine E_yes_branch (k := 23) h6 e6 fun m7 h7 e7 => ?_
    exact E_win (k := 20) h7 e7
def next2 (t : Array Nat) : Nat → Nat → Option (Nat × Nat)
  | 0, _ => none
  | k + 1, s => if s < t.size then (if t.getD s 0 = 10 ∨ t.getD s 0 = 13 then some (s, end2 t s) else next2 t k (s + 1)) else none
def isNl (c : Nat) : Bool := c == 10 || c == 13
theorem set2 (c : Nat) (sn : Seen) : ∃ sn', inSet C2 c C2.size 5 true sn = .ok (isNl c, sn') := by
  have e : C2.size = 33 + 3 := rfl
  rw [e]
  unfold inSet
  dsimp only
  rw [show C2.getD (5 + 0) 0 = 16 from rfl, op16]
  dsimp only
  by_cases h10 : c = 10
  · subst h10; exact ⟨_, rfl⟩
  · rw [if_neg (by show ¬ (c == 10) = true; simpa using h10)]
    unfold inSet
    dsimp only
    rw [show C2.getD (5 + 2 + 0) 0 = 16 from rfl, op16]
    dsimp only
    by_cases h13 : c = 13
    · subst h13; exact ⟨_, rfl⟩
    · rw [if_neg (by show ¬ (c == 13) = true; simpa using h13)]
      unfold inSet
      dsimp only
      rw [show C2.getD (5 + 2 + 2 + 0) 0 = 0 from rfl, show ops[0]? = some .FAILURE from rfl]
      have hn : isNl c = false := by unfold isNl; rw [beq_eq_false_iff_ne.mpr h10, beq_eq_false_iff_ne.mpr h13]; rfl
      rw [hn]
      exact ⟨_, rfl⟩
theorem adm2 (m : M) (t : Array Nat) (hc : m.code = C2) (ht : m.text = t) (hl : m.lim = t.size) : ∀ (k s : Nat) (sn : Seen), t.size - s < k → ∃ sn', M.admitted m k s sn = .ok ((next2 t k s).map (·.1), sn') := by
  intro k
  induction k with
  | zero => intro s sn h; omega
  | succ k ih =>
    intro s sn h
    unfold M.admitted next2
    by_cases hs : s < t.size
    · rw [if_neg (by rw [hl]; omega), if_pos hs, hc, ht]
      obtain ⟨sn', e⟩ := set2 (t.getD s 0) sn
      rw [e]
      by_cases hx : t.getD s 0 = 10 ∨ t.getD s 0 = 13
      · have : isNl (t.getD s 0) = true := by unfold isNl; rcases hx with x | x <;> rw [x] <;> rfl
        rw [this, if_pos hx]
        exact ⟨_, rfl⟩
      · have : isNl (t.getD s 0) = false := by
          unfold isNl
          rw [beq_eq_false_iff_ne.mpr (fun x => hx (.inl x)), beq_eq_false_iff_ne.mpr (fun x => hx (.inr x))]; rfl
        rw [this, if_neg hx]
        exact ih (s + 1) sn' (by omega)
    · rw [if_pos (by rw [hl]; omega), if_neg hs]
      exact ⟨_, rfl⟩
theorem next2_at {t : Array Nat} : ∀ {k s b e : Nat}, next2 t k s = some (b, e) → b < t.size ∧ (t.getD b 0 = 10 ∨ t.getD b 0 = 13) ∧ e = end2 t b ∧ s ≤ b := by
  intro k
  induction k with
  | zero => intro s b e h; cases h
  | succ k ih =>
    intro s b e h
    unfold next2 at h
    by_cases hs : s < t.size
    · rw [if_pos hs] at h
      by_cases hx : t.getD s 0 = 10 ∨ t.getD s 0 = 13
      · rw [if_pos hx] at h
        cases h
        exact ⟨hs, hx, rfl, Nat.le_refl _⟩
      · rw [if_neg hx] at h
        obtain ⟨a, b', c, d⟩ := ih h
        exact ⟨a, b', c, by omega⟩
    · rw [if_neg hs] at h
      cases h
theorem for2 (t : Array Nat) (s : Nat) (must : Bool) (hs : s ≤ t.size) : EndsIn 40 (forSearch C2 t 0 s t.size must) (next2 t (t.size + 1 - s) s) := by
  have e : forSearch C2 t 0 s t.size must = (if (s > t.size || decide (t.size - s < 1)) = true then M.say { code := C2, text := t, lim := t.size, start := s, pc := 10, pos := s, handed := s, marks := Array.replicate 0 none, mustAdvance := must, seen := ({} : Seen).add 14 } false
      else M.attemptFrom { code := C2, text := t, lim := t.size, start := s, pc := 10, pos := s, handed := s, marks := Array.replicate 0 none, mustAdvance := must, seen := ({} : Seen).add 14, lastStart := t.size } s true) := rfl
  rw [e]
  split
  · rename_i h
    have hn : ¬ s < t.size := by simp at h; omega
    have hr : next2 t (t.size + 1 - s) s = none := by
      cases t.size + 1 - s with
      | zero => rfl
      | succ k => unfold next2; rw [if_neg hn]
    rw [hr]
    exact EndsIn.mono (ends_say (y := false) rfl rfl rfl) (by omega)
  · unfold M.attemptFrom
    rw [show (!M.hasFirstSet { code := C2, text := t, lim := t.size, start := s, pc := 10, pos := s, handed := s, marks := Array.replicate 0 none, mustAdvance := must, seen := ({} : Seen).add 14, lastStart := t.size }) = false from rfl, if_neg Bool.false_ne_true]
    dsimp only
    obtain ⟨sn', e2⟩ := adm2 { code := C2, text := t, lim := t.size, start := s, pc := 10, pos := s, handed := s, marks := Array.replicate 0 none, mustAdvance := must, seen := ({} : Seen).add 14, lastStart := t.size } t rfl rfl rfl (t.size + 1 - s) s (({} : Seen).add 14) (by omega)
    rw [e2]
    cases hn : next2 t (t.size + 1 - s) s with
    | none => exact EndsIn.mono (ends_say (y := false) rfl rfl rfl) (by omega)
    | some be =>
      obtain ⟨b, e'⟩ := be
      obtain ⟨h1, h2, h3, _⟩ := next2_at hn
      rw [h3]
      refine EndsIn.mono (match2 (first := true) ?_ h1 h2) (by omega)
      exact ⟨rfl, rfl, rfl, rfl, rfl, rfl, rfl, rfl, rfl, rfl, rfl, rfl, rfl, rfl, rfl, rfl⟩

end
section
open PySem PySem.W PyProof.Rows PySem.Spec PySem.Calls
theorem runFor_done {m : Sre.M} (h : m.outcome.isSome = true) : ∀ n, m.runFor n = m
  | 0 => rfl
  | n + 1 => by
    show (if m.outcome.isSome = true then m else _) = m
    rw [if_pos h]
theorem runFor_add : ∀ (a b : Nat) (m : Sre.M), m.runFor (a + b) = (m.runFor a).runFor b := by
  intro a
  induction a with
  | zero => intro b m; rw [Nat.zero_add]; rfl
  | succ a ih =>
    intro b m
    have e : a + 1 + b = (a + b) + 1 := by omega
    rw [e]
    show (if m.outcome.isSome = true then m else m.step.runFor (a + b)) = (if m.outcome.isSome = true then m else m.step.runFor a).runFor b
    split
    · rename_i h; rw [runFor_done h]
    · exact ih b m.step
theorem runFor_same {m : Sre.M} {a b : Nat} (ha : (m.runFor a).outcome.isSome = true) (hb : (m.runFor b).outcome.isSome = true) : m.runFor a = m.runFor b := by
  rcases Nat.le_total a b with h | h
  · obtain ⟨c, rfl⟩ := Nat.exists_eq_add_of_le h
    rw [runFor_add, runFor_done ha]
  · obtain ⟨c, rfl⟩ := Nat.exists_eq_add_of_le h
    rw [runFor_add, runFor_done hb]
section
variable {M : Model} {A : Around} {E : Value → Shared → Prop} {s : Shared}
theorem wp_drive : ∀ (turns N : Nat) (m : Sre.M) (Q : Sre.M → Shared → Prop), (m.runFor N).outcome.isSome = true → N ≤ 4 * turns → 0 < turns → Q (m.runFor N) s → wpAny M A (Builtin.Re.reDrive turns m) Q E s := by
  intro turns
  induction turns with
  | zero => intro N m Q _ _ h; omega
  | succ turns ih =>
    intro N m Q h hN _ hq
    unfold Builtin.Re.reDrive
    dsimp only
    by_cases h4 : (m.runFor Builtin.Re.reTurnSteps).outcome.isSome = true
    · rw [if_pos h4]
      rw [runFor_same h4 h]
      exact wpAny_pure hq
    · rw [if_neg h4]
      refine wpAny_bind (wpAny_rule ?_)
      have h5 : 4 < N := by
        apply Nat.lt_of_not_le
        intro hle
        obtain ⟨c, hc⟩ := Nat.exists_eq_add_of_le hle
        refine h4 ?_
        show (m.runFor 4).outcome.isSome = true
        rw [hc, runFor_add, runFor_done h]
        exact h
      obtain ⟨c, rfl⟩ := Nat.exists_eq_add_of_le (Nat.le_of_lt h5)
      rw [runFor_add] at h hq
      exact ih c _ Q h (by omega) (by omega) hq
theorem wp_rules {f : Nat → PUnit → Sem (ForInStep PUnit)} (hf : ∀ i u (Q : ForInStep PUnit → Shared → Prop), Q (.yield PUnit.unit) s → wpAny M A (f i u) Q E s) {Q : PUnit → Shared → Prop} (h : Q PUnit.unit s) :
    ∀ l : List Nat, wpAny M A (forIn l PUnit.unit f) Q E s := by
  intro l
  induction l with
  | nil => exact wpAny_pure h
  | cons i l ih =>
    rw [List.forIn_cons]
    refine wpAny_bind (hf i _ _ ?_)
    exact ih
theorem wp_runToEnd {m : Sre.M} {k : Nat} {r : Option (Nat × Nat)} {Q : Option Sre.M → Shared → Prop} (h : EndsIn k m r) (hk : k ≤ 2 ^ 60) (hn : r = none → Q none s) (hs : ∀ b e, r = some (b, e) → ∀ m', m'.start = b → m'.handed = e → Q (some m') s) :
    wpAny M A (Builtin.Re.reRunToEnd m) Q E s := by
  obtain ⟨N, hN, hf⟩ := h
  have ho : (m.runFor N).outcome.isSome = true := by
    cases r with
    | none => rw [show (m.runFor N).outcome = some .failed from hf]; rfl
    | some be => rw [show (m.runFor N).outcome = some .matched from hf.1]; rfl
  unfold Builtin.Re.reRunToEnd
  refine wpAny_bind (wp_drive (2 ^ 64) N m _ ho (by omega) (by decide) ?_)
  refine wpAny_bind (wp_rules (fun i u Q hq => ?_) ?_ _)
  · split
    · exact wpAny_bind (wpAny_rule (wpAny_pure hq))
    · exact wpAny_bind (wpAny_pure (wpAny_pure hq))
  · cases r with
    | none =>
      rw [show (m.runFor N).outcome = some .failed from hf]
      exact wpAny_pure (hn rfl)
    | some be =>
      rw [show (m.runFor N).outcome = some .matched from hf.1]
      exact wpAny_pure (hs _ _ rfl _ hf.2.1 hf.2.2)
end

theorem slot_pat_sub : Slot "re.Pattern" "sub" "re.Pattern.sub" :=
  .of (owner := "re.Pattern") (n := "sub") (by rw [typeLookup_type, builtinLookup_eq_fast]; kernel_rfl) (by decide +kernel) (by decide +kernel) (by decide +kernel)
    (by first | exact .inl (by decide +kernel) | exact .inr (by decide +kernel)) (by rw [isSubtype_type]; kernel_rfl)
theorem type_pat_sub : typeOf (.builtin "re.Pattern.sub") = pure (.type "method_descriptor") := by show builtinType _ = _; rw [builtinType_eq_fast]; kernel_rfl
theorem entry_pat_sub : entryFor table "re.Pattern.sub" = some Builtin.«re.Pattern.sub» := entryFor_of_tree (by kernel_rfl)
theorem entry_pat_loop : entryFor table "re.Pattern.sub.loop" = some Builtin.«re.Pattern.sub.loop» := entryFor_of_tree (by kernel_rfl)
theorem plainAttrs_pat : PlainAttrs "re.Pattern" :=
  ⟨by first
    | exact ⟨"object.__getattribute__", by rw [typeLookup_type, builtinLookup_eq_fast]; kernel_rfl, by decide +kernel⟩
    | exact ⟨"re.Pattern.__getattribute__", by rw [typeLookup_type, builtinLookup_eq_fast]; kernel_rfl, by decide +kernel⟩, by rw [typeLookup_type, builtinLookup_eq_fast]; kernel_rfl⟩
theorem owner_pat : Manifest.owners.lookup (String.ofList ['n', 'r', 'e', 't', 't', 'a', 'P', '.', 'e', 'r'].reverse) = some Manifest.sig_re_Pattern := by kernel_rfl
theorem args_pat_sub (a b c : Value) : argsOk "re.Pattern.sub" ⟨[a, b, c], []⟩ := by
  unfold argsOk; rw [signature?_of (id := "re.Pattern.sub") (n := ['b', 'u', 's']) (o := ['n', 'r', 'e', 't', 't', 'a', 'P', '.', 'e', 'r']) (by kernel_rfl) owner_pat]; kernel_rfl
theorem str_no_call : typeLookup (.type "str") "__call__" = pure none := by rw [typeLookup_type, builtinLookup_eq_fast]; kernel_rfl
/-- the parts of a compiled pattern that a substitution reads -/
structure PatAt (h : Heap) (pa : Addr) (code : Array Nat) : Prop where
  obj : ∃ po vs ca co items n, h.get? pa = some po ∧ po.cls = .type "re.Pattern" ∧ po.dict = none ∧ po.data = .fields vs ∧ vs.getD 5 .none = .ref ca ∧ Builtin.Re.reRawNat (vs.getD 2 .none) = 0 ∧ Builtin.Re.reRawNat (vs.getD 6 .none) = 0 ∧
    h.get? ca = some co ∧ co.cls = .type "tuple" ∧ co.data = .seq items n ∧ (items.map Builtin.Re.reRawOf).map (·.toNat) = code
theorem PatAt.keeps {h h' : Heap} {pa : Addr} {code : Array Nat} (P : PatAt h pa code) (k : ∀ b o, h.get? b = some o → h'.get? b = some o) : PatAt h' pa code :=
  let ⟨po, vs, ca, co, items, n, e, a, b, c, d, f, g, i, i2, j, l⟩ := P.obj
  ⟨po, vs, ca, co, items, n, k _ _ e, a, b, c, d, f, g, k _ _ i, i2, j, l⟩
theorem PatAt.upd {h h' : Heap} {pa l : Addr} {code : Array Nat} {o : Obj} (P : PatAt h pa code) (hl : h.get? l = some o) (hc : o.cls = .type "list") (k : ∀ b o, b ≠ l → h.get? b = some o → h'.get? b = some o) : PatAt h' pa code := by
  obtain ⟨po, vs, ca, co, items, n, e, a, b, c, d, f, g, i, i2, j, z⟩ := P.obj
  have h1 : pa ≠ l := fun q => by rw [q, hl] at e; cases e; rw [hc] at a; exact absurd a (by decide)
  have h2 : ca ≠ l := fun q => by rw [q, hl] at i; cases i; rw [hc] at i2; exact absurd i2 (by decide)
  exact ⟨po, vs, ca, co, items, n, k _ _ h1 e, a, b, c, d, f, g, k _ _ h2 i, i2, j, z⟩
section
variable {M : Model} {A : Around} {E : Value → Shared → Prop} {s : Shared} {pa : Addr} {code : Array Nat} {x : Str} {t : Tok}
theorem wp_target {Q : Builtin.Re.ReTarget → Shared → Prop} (P : PatAt s.heap pa code) (h : Q { pattern := .ref pa, string := .str x t, code := code, text := x.cps, kind := 0, groups := 0, pos := 0, lim := x.cps.size } s) :
    wpAny M A (Builtin.Re.reWholeTarget (.ref pa) (.str x t)) Q E s := by
  obtain ⟨po, vs, ca, co, items, n, e, _, _, c, d, f, g, i, _, j, l⟩ := P.obj
  unfold Builtin.Re.reWholeTarget
  refine wpAny_bind (wpAny_fieldsOf e c ?_)
  unfold Builtin.Re.reTextOf asStr?
  refine wpAny_bind (wpAny_bind (wpAny_pure (wpAny_pure ?_)))
  dsimp only
  rw [g, if_neg (by decide)]
  refine wpAny_bind (wpAny_pure ?_)
  unfold Builtin.Re.reRawItems
  rw [d]
  refine wpAny_bind (wpAny_bind (wpAny_seqItems i j (wpAny_pure ?_)))
  refine wpAny_pure ?_
  rw [f]
  show Q { pattern := .ref pa, string := .str x t, code := (items.map Builtin.Re.reRawOf).map (·.toNat), text := x.cps, kind := 0, groups := 0, pos := 0, lim := x.cps.size } s
  rw [l]
  exact h
end

end
section
open PySem PySem.W PyProof.Rows PySem.Spec PySem.Calls
/-- what a substitution makes of a text from place p on -/
inductive Subs (nx : Nat → Option (Nat × Nat)) (x y : Array Nat) : Nat → List Nat → Prop
  | stop {p : Nat} : nx p = none → p ≤ x.size → Subs nx x y p (x.toList.drop p)
  | go {p b e : Nat} {r : List Nat} : nx p = some (b, e) → p ≤ b → b < e → e ≤ x.size → Subs nx x y e r → Subs nx x y p ((x.toList.drop p).take (b - p) ++ y.toList ++ r)
def catOf (ps : List (Str × Tok)) : List Nat := ps.flatMap fun p => p.1.cps.toList
section
variable {prog : Program} {w : World} {A : Around} {E : Value → Shared → Prop} {s : Shared} {l : Addr}
theorem wp_piece {ps : List (Str × Tok)} {ne : Nat} {z : Str} {tz : Tok} {Q : Unit → Shared → Prop} (hl : s.heap.get? l = some (listOf (strValues ps).toArray ne)) (hn : ps.length ≤ 4000000)
    (h : ∀ h' ne', h'.get? l = some (listOf (strValues (ps ++ [(z, tz)])).toArray ne') → (∀ b o, b ≠ l → s.heap.get? b = some o → h'.get? b = some o) → Q () { s with heap := h' }) :
    wpAny (model prog w) A (updateSeq l fun xs => xs.push (.str z tz)) Q E s := by
  have hsz : (strValues ps).toArray.size = ps.length := by simp [strValues]
  refine wpAny_updateSeq hl rfl ?_ (by rw [hsz, sizeLine_eq]; omega) (by rw [Array.size_push, hsz, sizeLine_eq]; omega)
  have hs : Heap.SameBut l s.heap (s.heap.update l (Obj.mapSeq fun xs => xs.push (.str z tz))) := Heap.SameBut.update ..
  have hf := Heap.get?_update_self (Obj.mapSeq fun xs => xs.push (.str z tz)) hl rfl
  refine h _ (if ((strValues ps).toArray.push (.str z tz)).size = (strValues ps).toArray.size then ne else ne + 1) ?_ fun b o hb e => (hs.2 b hb).trans e
  rw [hf]
  simp [Obj.mapSeq, strValues]
theorem wp_slice {x : Array Nat} {b e : Nat} {Q : Value → Shared → Prop} (hx : x.size ≤ 1000000) (h : ∀ t, Q (.str ⟨x.extract b e⟩ t) { s with toks := s.toks + 1 }) :
    wpAny (model prog w) A (Builtin.Re.reSlice x 0 b e) Q E s := by
  unfold Builtin.Re.reSlice
  rw [if_pos (by decide)]
  refine wpAny_mkStr (h _) ?_
  show (x.extract b e).size ≤ sizeLine
  rw [Array.size_extract, sizeLine_eq]; omega
end
section
variable {prog : Program} {w : World} {A : Around} {R : Result → Shared → Prop} {pa l : Addr} {code : Array Nat} {x y : Str} {tx ty : Tok} {nx : Nat → Option (Nat × Nat)}
theorem wp_lit {s : Shared} {E : Value → Shared → Prop} {Q : Unit → Shared → Prop} (h : Q () s) : wpAny (model prog w) A (Builtin.Re.reLiteralCannotBeTurned (.str y ty)) Q E s := by
  unfold Builtin.Re.reLiteralCannotBeTurned asStr?
  refine wpAny_bind (wpAny_pure ?_)
  rw [if_neg (by simp)]
  exact wpAny_pure h
theorem cat_snoc (ps : List (Str × Tok)) (z : Str) (tz : Tok) : catOf (ps ++ [(z, tz)]) = catOf ps ++ z.cps.toList := by simp [catOf]
theorem glued_cat (l : List Str) : (Builtin.Str.glued ⟨#[]⟩ l).cps.toList = l.flatMap fun p => p.cps.toList := by
  unfold Builtin.Str.glued
  cases l with
  | nil => rfl
  | cons a r =>
    have key : ∀ (r : List Str) (acc : Array Nat), (r.foldl (fun acc p => acc ++ #[] ++ p.cps) acc).toList = acc.toList ++ r.flatMap fun p => p.cps.toList := by
      intro r
      induction r with
      | nil => intro acc; simp
      | cons b r ih => intro acc; rw [List.foldl_cons, ih]; simp
    show (r.foldl (fun acc p => acc ++ #[] ++ p.cps) a.cps).toList = _
    rw [key]
    simp
theorem sum_len (l : List Str) : ∀ n : Nat, l.toArray.foldl (fun a z => a + z.length + (Str.mk #[]).length) n = n + (l.flatMap fun p => p.cps.toList).length := by
  induction l with
  | nil => intro n; simp
  | cons a r ih =>
    intro n
    have := ih (n + a.length + (Str.mk #[]).length)
    simp only [List.foldl_toArray, List.foldl_cons] at this ⊢
    rw [this]
    simp only [List.flatMap_cons, List.length_append, Array.length_toList]
    show n + a.cps.size + 0 + _ = _
    omega
theorem wp_join {s : Shared} {E : Value → Shared → Prop} {ps : List (Str × Tok)} {ne : Nat} {t : Tok} {Q : Value → Shared → Prop} (hl : s.heap.get? l = some (listOf (strValues ps).toArray ne)) (hn : (catOf ps).length ≤ 1000000)
    (h : ∀ z tz tk, z.cps.toList = catOf ps → Q (.str z tz) { s with toks := tk }) : wpAny (model prog w) A (call (.builtin "str.join") [.str ⟨#[]⟩ t, .ref l]) Q E s := by
  have hz : Builtin.Str.tooLong ((ps.map (·.1)).toArray.foldl (fun a z => a + z.length + (Str.mk #[]).length) 0) = false := by
    rw [sum_len]
    unfold Builtin.Str.tooLong
    rw [sizeLine_eq]
    have : ((ps.map (·.1)).flatMap fun p => p.cps.toList) = catOf ps := by simp [catOf, List.flatMap_map]
    rw [this]
    exact decide_eq_false (by omega)
  refine call_meets PySem.F.slot_str_join (typeIs_str s _ t) PySem.F.entry_str_join (PySem.F.args_str_join_2 _ _) (meets_str_join_list ⟨#[]⟩ t l ps hz) ⟨⟨_, hl, rfl, ne, rfl⟩, ?_⟩
  have fin : ∀ l' : List Str, (l'.flatMap fun p => p.cps.toList) = catOf ps → (Builtin.Str.glued ⟨#[]⟩ l').length ≤ sizeLine := fun l' e => by
    have e1 := glued_cat l'
    show (Builtin.Str.glued ⟨#[]⟩ l').cps.size ≤ sizeLine
    rw [← Array.length_toList, e1, e, sizeLine_eq]; omega
  match ps, h, fin with
  | [], h, fin => exact ⟨fin [] rfl, h _ _ _ (glued_cat [])⟩
  | [p], h, _ => exact h p.1 p.2 s.toks (by simp [catOf])
  | p :: q :: r, h, fin =>
    have e : (((p :: q :: r).map (·.1)).flatMap fun p => p.cps.toList) = catOf (p :: q :: r) := by simp [catOf, List.flatMap_map]
    exact ⟨fin _ e, h _ _ _ ((glued_cat _).trans e)⟩
theorem subloop (hx : x.cps.size ≤ 1000000) (hs : ∀ p must, p ≤ x.cps.size → ∃ k, k ≤ 2 ^ 60 ∧ EndsIn k (Sre.forSearch code x.cps 0 p x.cps.size must) (nx p)) :
    ∀ {p : Nat} {r : List Nat}, Subs nx x.cps y.cps p r → ∀ (s : Shared) (ps : List (Str × Tok)) (n : Int) (must : Bool) (ne : Nat),
      PatAt s.heap pa code → s.heap.get? l = some (listOf (strValues ps).toArray ne) → ps.length ≤ 2 * p → p ≤ x.cps.size → (catOf ps ++ r).length ≤ 1000000 →
      (∀ z tz h' tk', z.cps.toList = catOf ps ++ r → (∀ b o, b ≠ l → s.heap.get? b = some o → h'.get? b = some o) → R (.ok (.ret (.str z tz))) { s with heap := h', toks := tk' }) →
      codeAny (model prog w) A (.builtin "re.Pattern.sub.loop" ⟨[.ref pa, .str x tx, .str y ty, rawInt 0, rawInt 0, rawInt n, rawInt p, rawInt p, .bool must, .ref l, .bool false], []⟩) R s := by
  intro p r hS
  induction hS with
  | @stop p h1 h2 =>
    intro s ps n must ne P hl hlen hp htot ret
    refine codeAny_builtin entry_pat_loop ?_
    unfold Builtin.«re.Pattern.sub.loop»
    dsimp only [rawInt]
    refine wpAny_bind (wp_target P ?_)
    rw [if_pos (by decide)]
    refine wpAny_bind (wp_lit ?_)
    refine wpAny_bind ?_
    rw [if_neg (by simp)]
    unfold Builtin.Re.reNextFound
    dsimp only
    rw [Int.toNat_natCast]
    obtain ⟨k, hk, he⟩ := hs p must h2
    refine wp_runToEnd he hk (fun _ => ?_) (fun b e h => by rw [h1] at h; cases h)
    dsimp only
    have last : ∀ (s' : Shared) (ps' : List (Str × Tok)) (ne' : Nat), s'.heap.get? l = some (listOf (strValues ps').toArray ne') → catOf ps' = catOf ps ++ x.cps.toList.drop p → (∃ h tk, s' = { s with heap := h, toks := tk } ∧ ∀ b o, b ≠ l → s.heap.get? b = some o → h.get? b = some o) →
        wpAny (model prog w) (A.under (.builtin "re.Pattern.sub.loop" ⟨[.ref pa, .str x tx, .str y ty, .int 0 0, .int 0 0, .int n 0, .int p 0, .int p 0, .bool must, .ref l, .bool false], []⟩))
          (Builtin.Re.reSlice x.cps 0 0 0 >>= fun joiner => (do
            let text ← if ((← seqItems? (.ref l)).getD #[]).isEmpty then pure joiner else call (.builtin "str.join") [joiner, .ref l]
            PySem.ret text))
          (fun fin s' => match fin with | .done f => R (.ok f) s' | .again c' => c'.quiet = true ∧ codeAny (model prog w) A c' R s') (fun e s' => R (.error e) s') s' := by
      rintro s' ps' ne' hl' hc ⟨h, tk, rfl, hk⟩
      refine wpAny_bind (wp_slice hx fun t => ?_)
      refine wpAny_bind (wpAny_seqItems hl' rfl ?_)
      dsimp only
      have e0 : (⟨x.cps.extract 0 0⟩ : Str) = ⟨#[]⟩ := by simp
      rw [e0]
      split
      · rename_i hem
        have hps : ps' = [] := by
          have : (strValues ps').toArray.isEmpty = true := hem
          simpa [strValues] using this
        subst hps
        refine wpAny_bind (wpAny_pure (wpAny_pure ?_))
        exact ret _ _ _ _ (by rw [← hc]; rfl) hk
      · refine wpAny_bind (wp_join hl' (by rw [hc]; exact htot) fun z tz tk' hz => ?_)
        exact wpAny_pure (ret z tz h tk' (hz.trans hc) hk)
    split
    · rename_i hlt
      refine wpAny_bind (wp_slice hx fun t => ?_)
      refine wpAny_bind (wp_piece hl (by omega) fun h' ne' hl' hk' => ?_)
      refine last _ (ps ++ [(⟨x.cps.extract p x.cps.size⟩, t)]) ne' hl' ?_ ⟨h', _, rfl, hk'⟩
      rw [cat_snoc]
      congr 1
      simp
      exact List.take_of_length_le (by simp)
    · rename_i hlt
      refine last s ps ne hl ?_ ⟨s.heap, s.toks, rfl, fun b o _ e => e⟩
      have : x.cps.toList.drop p = [] := List.drop_of_length_le (by rw [Array.length_toList]; omega)
      rw [this, List.append_nil]
  | @go p b e r h1 h2 h3 h4 hS ih =>
    intro s ps n must ne P hl hlen hp htot ret
    refine codeAny_builtin entry_pat_loop ?_
    unfold Builtin.«re.Pattern.sub.loop»
    dsimp only [rawInt]
    refine wpAny_bind (wp_target P ?_)
    rw [if_pos (by decide)]
    refine wpAny_bind (wp_lit ?_)
    refine wpAny_bind ?_
    rw [if_neg (by simp)]
    unfold Builtin.Re.reNextFound
    dsimp only
    rw [Int.toNat_natCast]
    obtain ⟨k, hk, he⟩ := hs p must hp
    refine wp_runToEnd he hk (fun h => by rw [h1] at h; cases h) (fun b' e' h m' hm1 hm2 => ?_)
    rw [h1] at h; cases h
    dsimp only
    rw [hm1, hm2]
    have next : ∀ (s' : Shared) (ps' : List (Str × Tok)) (ne' : Nat), s'.heap.get? l = some (listOf (strValues ps').toArray ne') → catOf ps' = catOf ps ++ (x.cps.toList.drop p).take (b - p) → ps'.length ≤ 2 * p + 1 → (∃ h tk, s' = { s with heap := h, toks := tk } ∧ ∀ b o, b ≠ l → s.heap.get? b = some o → h.get? b = some o) →
        wpAny (model prog w) (A.under (.builtin "re.Pattern.sub.loop" ⟨[.ref pa, .str x tx, .str y ty, .int 0 0, .int 0 0, .int n 0, .int p 0, .int p 0, .bool must, .ref l, .bool false], []⟩))
          (updateSeq l (fun xs => xs.push (.str y ty)) >>= fun _ => again (.builtin "re.Pattern.sub.loop" ⟨[.ref pa, .str x tx, .str y ty, .int 0 0, .int 0 0, .int (n + 1) 0, .int e 0, .int e 0, .bool (e == b), .ref l, .bool false], []⟩))
          (fun fin s' => match fin with | .done f => R (.ok f) s' | .again c' => c'.quiet = true ∧ codeAny (model prog w) A c' R s') (fun e s' => R (.error e) s') s' := by
      rintro s' ps' ne' hl' hc hn ⟨h, tk, rfl, hk⟩
      refine wpAny_bind (wp_piece hl' (by omega) fun h2 ne2 hl2 hk2 => ?_)
      refine wpAny_pure ⟨plainId_quiet (by decide +kernel) _, ?_⟩
      refine ih _ (ps' ++ [(y, ty)]) (n + 1) _ ne2 (P.upd hl rfl fun b o hb e => hk2 b o hb (hk b o hb e)) hl2 (by rw [List.length_append]; simp; omega) h4 (by rw [cat_snoc, hc]; simpa using htot) fun z tz h3 tk3 hz hk3 => ?_
      exact ret z tz h3 tk3 (by rw [hz, cat_snoc, hc]; simp) fun b o hb e => hk3 b o hb (hk2 b o hb (hk b o hb e))
    split
    · rename_i hlt
      refine wpAny_bind (wp_slice hx fun t => ?_)
      refine wpAny_bind (wp_piece hl (by omega) fun h' ne' hl' hk' => ?_)
      rw [if_pos (by decide)]
      refine wpAny_bind (wpAny_pure ?_)
      rw [if_pos (by simp)]
      refine next _ (ps ++ [(⟨x.cps.extract p b⟩, t)]) ne' hl' ?_ (by rw [List.length_append]; simp; omega) ⟨h', _, rfl, hk'⟩
      rw [cat_snoc]
      congr 1
      simp [List.take_drop]
    · rename_i hlt
      rw [if_pos (by decide)]
      refine wpAny_bind (wpAny_pure ?_)
      rw [if_pos (by simp)]
      refine next s ps ne hl ?_ (by omega) ⟨s.heap, s.toks, rfl, fun b o _ e => e⟩
      have : b - p = 0 := by omega
      rw [this, List.take_zero, List.append_nil]
end

end
section
open PySem PySem.W PyProof.Rows PySem.Spec PySem.Calls
section
variable {prog : Program} {w : World} {A : Around} {E : Value → Shared → Prop} {s : Shared} {pa : Addr} {code : Array Nat} {x y : Str} {tx ty : Tok} {nx : Nat → Option (Nat × Nat)}
theorem named_sub {M : Model} {A : Around} (a b : Value) {Q : List (Option Value) → Shared → Prop} (h : Q [some a, some b, none] s) :
    wpAny M A (Builtin.Re.reNamed "re.Pattern.sub" "sub" ["repl", "string", "count"] 2 [a, b] []) Q E s := by
  have e : Builtin.Re.reNamed "re.Pattern.sub" "sub" ["repl", "string", "count"] 2 [a, b] [] = pure [some a, some b, none] := by kernel_rfl
  rw [e]
  exact wpAny_pure h
theorem wp_sub {r : List Nat} {Q : Value → Shared → Prop} (hx : x.cps.size ≤ 1000000) (hy : y.cps.contains 92 = false) (hs : ∀ p must, p ≤ x.cps.size → ∃ k, k ≤ 2 ^ 60 ∧ EndsIn k (Sre.forSearch code x.cps 0 p x.cps.size must) (nx p))
    (P : PatAt s.heap pa code) (S : Subs nx x.cps y.cps 0 r) (hr : r.length ≤ 1000000)
    (h : ∀ z tz h' tk', z.cps.toList = r → (∀ b o, s.heap.get? b = some o → h'.get? b = some o) → Q (.str z tz) { s with heap := h', toks := tk' }) :
    wpAny (model prog w) A (call (.builtin "re.Pattern.sub") [.ref pa, .str y ty, .str x tx]) Q E s := by
  have hT : s.TypeIs (.ref pa) "re.Pattern" := by
    obtain ⟨po, vs, ca, co, items, n, e, a, _⟩ := P.obj
    exact ⟨_, e, a⟩
  refine wpAny_call (codeAny_call_builtin slot_pat_sub.plain entry_pat_sub (slot_pat_sub.check _ _ _ _ _ _ _ _ hT (args_pat_sub _ _ _) ?_))
  unfold Builtin.«re.Pattern.sub» Builtin.Re.reSubstitute
  dsimp only
  refine wpAny_bind (named_sub _ _ ?_)
  dsimp only
  refine wpAny_bind (wpAny_pure ?_)
  refine wpAny_bind (wpAny_specialOf_val (typeIs_str s y ty) str_no_call ?_)
  dsimp only [Option.isSome]
  unfold asStr?
  refine wpAny_bind (wpAny_pure ?_)
  dsimp only
  refine wpAny_bind (wpAny_pure ?_)
  rw [if_neg (by decide), hy, if_pos (by decide)]
  refine wpAny_bind (wpAny_pure ?_)
  dsimp only
  refine wpAny_bind (wpAny_holding ?_)
  refine wp_target P ?_
  rw [if_neg (by decide)]
  refine wpAny_bind (wpAny_newList ?_)
  have hgr : ∀ b o, s.heap.get? b = some o → (s.heap.push { cls := .type "list", data := .seq #[] }).get? b = some o := fun b o e => (Heap.get?_push_ne _ _ _ (Nat.ne_of_lt (Heap.lt_size e))).trans e
  refine wpAny_pure ⟨plainId_quiet (by decide +kernel) _, ?_⟩
  refine subloop hx hs S _ [] 0 false 0 (P.keeps hgr) (by simp [Heap.get?, Heap.push]; rfl) (Nat.zero_le _) (Nat.zero_le _) hr fun z tz h' tk' hz hk => ?_
  refine h z tz h' tk' (hz.trans (by rfl)) fun b o e => hk b o (Nat.ne_of_lt (Heap.lt_size e)) (hgr b o e)
end

end
section
open PySem PySem.W PyProof.Rows PySem.Spec PySem.Calls
def sub2 : List Nat → List Nat
  | [] => []
  | [c] => if c = 10 ∨ c = 13 then [13, 10] else [c]
  | c :: d :: r => if c = 13 ∧ d = 10 then 13 :: 10 :: sub2 r else if c = 10 ∨ c = 13 then 13 :: 10 :: sub2 (d :: r) else c :: sub2 (d :: r)
def sub1 : Bool → List Nat → List Nat
  | _, [] => []
  | st, c :: r => if st = true ∧ c = 46 then 46 :: 46 :: sub1 false r else c :: sub1 (c == 10) r
theorem sub1_hit {b : Bool} {c : Nat} {r : List Nat} (h : b = true ∧ c = 46) : sub1 b (c :: r) = 46 :: 46 :: sub1 false r := by
  rw [sub1, if_pos h]
theorem sub1_miss {b : Bool} {c : Nat} {r : List Nat} (h : ¬ (b = true ∧ c = 46)) : sub1 b (c :: r) = c :: sub1 (c == 10) r := by
  rw [sub1, if_neg h]
theorem sub2_both {c d : Nat} {r : List Nat} (h : c = 13 ∧ d = 10) : sub2 (c :: d :: r) = 13 :: 10 :: sub2 r := by
  rw [sub2, if_pos h]
theorem sub2_hit {c d : Nat} {r : List Nat} (h : ¬ (c = 13 ∧ d = 10)) (h2 : c = 10 ∨ c = 13) : sub2 (c :: d :: r) = 13 :: 10 :: sub2 (d :: r) := by
  rw [sub2, if_neg h, if_pos h2]
theorem sub2_miss {c : Nat} {r : List Nat} (h2 : ¬ (c = 10 ∨ c = 13)) : sub2 (c :: r) = c :: sub2 r := by
  cases r with
  | nil =>
    have e : sub2 [c] = if c = 10 ∨ c = 13 then [13, 10] else [c] := by simp only [sub2]
    rw [e, if_neg h2]; rfl
  | cons d r => rw [sub2, if_neg (fun q => h2 (.inr q.1)), if_neg h2]
theorem sub2_hit1 {c : Nat} (h2 : c = 10 ∨ c = 13) : sub2 [c] = 13 :: 10 :: sub2 [] := by
  have e : sub2 [c] = if c = 10 ∨ c = 13 then [13, 10] else [c] := by simp only [sub2]
  rw [e, if_pos h2]; rfl
theorem drop_at {t : Array Nat} {p : Nat} (h : p < t.size) : t.toList.drop p = t.getD p 0 :: t.toList.drop (p + 1) := by
  rw [List.drop_eq_getElem_cons (by simpa using h)]
  congr 1
  simp [Array.getD, h]
theorem Subs.skip {nx : Nat → Option (Nat × Nat)} {x y : Array Nat} {p : Nat} {r : List Nat} (hp : p < x.size) (h : nx p = nx (p + 1)) (S : Subs nx x y (p + 1) r) : Subs nx x y p (x.getD p 0 :: r) := by
  cases S with
  | stop h1 h2 => rw [← drop_at hp]; exact .stop (h.trans h1) (Nat.le_of_lt hp)
  | @go _ b e r h1 h2 h3 h4 S =>
    have := Subs.go (h.trans h1) (by omega) h3 h4 S
    have e1 : b - p = (b - (p + 1)) + 1 := by omega
    rw [drop_at hp, e1, List.take_succ_cons] at this
    exact this
def nx1 (t : Array Nat) (p : Nat) : Option (Nat × Nat) := next1 t (t.size - p + 1) p
def nx2 (t : Array Nat) (p : Nat) : Option (Nat × Nat) := next2 t (t.size + 1 - p) p
theorem nx1_end (t : Array Nat) {p : Nat} (h : t.size ≤ p) : nx1 t p = none := by
  unfold nx1 next1
  rw [if_neg (by omega), if_neg (by omega)]
theorem nx1_hit {t : Array Nat} {p : Nat} (h : p < t.size) (hs : (p == 0 || t.getD (p - 1) 0 == 10) = true) (h46 : t.getD p 0 = 46) : nx1 t p = some (p, p + 1) := by
  unfold nx1 next1
  rw [if_pos ⟨hs, h, h46⟩]
theorem nx1_miss {t : Array Nat} {p : Nat} (h : p < t.size) (hn : ¬ ((p == 0 || t.getD (p - 1) 0 == 10) = true ∧ t.getD p 0 = 46)) : nx1 t p = nx1 t (p + 1) := by
  have e : t.size - p + 1 = (t.size - (p + 1) + 1) + 1 := by omega
  unfold nx1
  rw [e]
  conv => lhs; unfold next1
  rw [if_neg (fun q => hn ⟨q.1, q.2.2⟩), if_pos h]
theorem nx2_end (t : Array Nat) {p : Nat} (h : t.size ≤ p) : nx2 t p = none := by
  unfold nx2
  rcases Nat.eq_or_lt_of_le h with h | h
  · rw [show t.size + 1 - p = 0 + 1 by omega]
    unfold next2
    rw [if_neg (by omega)]
  · rw [show t.size + 1 - p = 0 by omega]; rfl
theorem nx2_hit {t : Array Nat} {p : Nat} (h : p < t.size) (hc : t.getD p 0 = 10 ∨ t.getD p 0 = 13) : nx2 t p = some (p, end2 t p) := by
  unfold nx2
  rw [show t.size + 1 - p = (t.size - p) + 1 by omega]
  unfold next2
  rw [if_pos h, if_pos hc]
theorem nx2_miss {t : Array Nat} {p : Nat} (h : p < t.size) (hn : ¬ (t.getD p 0 = 10 ∨ t.getD p 0 = 13)) : nx2 t p = nx2 t (p + 1) := by
  unfold nx2
  rw [show t.size + 1 - p = (t.size + 1 - (p + 1)) + 1 by omega]
  conv => lhs; unfold next2
  rw [if_pos h, if_neg hn]
theorem subs1 (t : Array Nat) : ∀ (d p : Nat), t.size - p = d → p ≤ t.size → Subs (nx1 t) t #[46, 46] p (sub1 (p == 0 || t.getD (p - 1) 0 == 10) (t.toList.drop p)) := by
  intro d
  induction d with
  | zero =>
    intro p hd hp
    have e : t.toList.drop p = [] := List.drop_of_length_le (by rw [Array.length_toList]; omega)
    have := Subs.stop (x := t) (y := #[46, 46]) (nx1_end t (p := p) (by omega)) hp
    rw [e] at this ⊢
    exact this
  | succ d ih =>
    intro p hd hp
    have hlt : p < t.size := by omega
    have hi := ih (p + 1) (by omega) hlt
    rw [show (p + 1 == 0 || t.getD (p + 1 - 1) 0 == 10) = (t.getD p 0 == 10) by simp] at hi
    rw [drop_at hlt]
    by_cases h : (p == 0 || t.getD (p - 1) 0 == 10) = true ∧ t.getD p 0 = 46
    · rw [sub1_hit h]
      rw [show (t.getD p 0 == 10) = false by rw [h.2]; rfl] at hi
      have := Subs.go (y := #[46, 46]) (nx1_hit hlt h.1 h.2) (Nat.le_refl p) (Nat.lt_succ_self p) hlt hi
      rw [Nat.sub_self, List.take_zero] at this
      exact this
    · rw [sub1_miss h]
      exact Subs.skip hlt (nx1_miss hlt h) hi
theorem subs2 (t : Array Nat) : ∀ (d p : Nat), t.size - p ≤ d → p ≤ t.size → Subs (nx2 t) t #[13, 10] p (sub2 (t.toList.drop p)) := by
  have stop : ∀ p, p ≤ t.size → t.size - p ≤ 0 → Subs (nx2 t) t #[13, 10] p (sub2 (t.toList.drop p)) := by
    intro p hp hd
    have e : t.toList.drop p = [] := List.drop_of_length_le (by rw [Array.length_toList]; omega)
    have := Subs.stop (x := t) (y := #[13, 10]) (nx2_end t (p := p) (by omega)) hp
    rw [e] at this ⊢
    exact this
  intro d
  induction d with
  | zero => intro p hd hp; exact stop p hp hd
  | succ d ih =>
    intro p hd hp
    by_cases hlt : p < t.size
    · have hi := ih (p + 1) (by omega) hlt
      have one : t.getD p 0 = 10 ∨ t.getD p 0 = 13 → end2 t p = p + 1 → Subs (nx2 t) t #[13, 10] p (13 :: 10 :: sub2 (t.toList.drop (p + 1))) := by
        intro hc he
        have hx := nx2_hit hlt hc
        rw [he] at hx
        have := Subs.go (y := #[13, 10]) hx (Nat.le_refl p) (Nat.lt_succ_self p) hlt hi
        rw [Nat.sub_self, List.take_zero] at this
        exact this
      rw [drop_at hlt]
      by_cases hlt2 : p + 1 < t.size
      · rw [drop_at hlt2] at hi one ⊢
        by_cases h : t.getD p 0 = 13 ∧ t.getD (p + 1) 0 = 10
        · rw [sub2_both h]
          have hx := nx2_hit hlt (.inr h.1)
          have he : end2 t p = p + 2 := by unfold end2; rw [if_pos ⟨h.1, hlt2, h.2⟩]
          rw [he] at hx
          have := Subs.go (y := #[13, 10]) hx (Nat.le_refl p) (by omega) hlt2 (ih (p + 2) (by omega) hlt2)
          rw [Nat.sub_self, List.take_zero] at this
          exact this
        · have he : end2 t p = p + 1 := by unfold end2; rw [if_neg (fun q => h ⟨q.1, q.2.2⟩)]
          by_cases hc : t.getD p 0 = 10 ∨ t.getD p 0 = 13
          · rw [sub2_hit h hc]; exact one hc he
          · rw [sub2_miss hc]; exact Subs.skip hlt (nx2_miss hlt hc) hi
      · have e : t.toList.drop (p + 1) = [] := List.drop_of_length_le (by rw [Array.length_toList]; omega)
        have he : end2 t p = p + 1 := by unfold end2; rw [if_neg (fun q => hlt2 q.2.1)]
        rw [e] at hi one ⊢
        by_cases hc : t.getD p 0 = 10 ∨ t.getD p 0 = 13
        · rw [sub2_hit1 hc]; exact one hc he
        · rw [sub2_miss hc]; exact Subs.skip hlt (nx2_miss hlt hc) hi
    · exact stop p hp (by omega)
theorem sub1_len : ∀ (l : List Nat) (b : Bool), (sub1 b l).length ≤ 2 * l.length := by
  intro l
  induction l with
  | nil => intro b; exact Nat.le_refl _
  | cons c r ih =>
    intro b
    unfold sub1
    split
    · have := ih false; simp only [List.length_cons]; omega
    · have := ih (c == 10); simp only [List.length_cons]; omega
theorem sub2_len : ∀ (n : Nat) (l : List Nat), l.length ≤ n → (sub2 l).length ≤ 2 * l.length := by
  intro n
  induction n with
  | zero => intro l h; cases l with
    | nil => exact Nat.le_refl _
    | cons a r => simp at h
  | succ n ih =>
    intro l h
    match l, h with
    | [], _ => exact Nat.le_refl _
    | [c], _ => unfold sub2; split <;> simp
    | c :: d :: r, h =>
      have h1 := ih r (by simp at h; omega)
      have h2 := ih (d :: r) (by simp at h ⊢; omega)
      unfold sub2
      split
      · simp only [List.length_cons] at *; omega
      · split
        · simp only [List.length_cons] at *; omega
        · simp only [List.length_cons] at *; omega
section
variable {prog : Program} {w : World} {A : Around} {E : Value → Shared → Prop} {s : Shared} {pa : Addr} {x : Str} {tx ty : Tok}
theorem wp_sub2 {Q : Value → Shared → Prop} (hx : x.cps.size ≤ 1000) (P : PatAt s.heap pa C2)
    (h : ∀ z tz h' tk', z.cps.toList = sub2 x.cps.toList → (∀ b o, s.heap.get? b = some o → h'.get? b = some o) → Q (.str z tz) { s with heap := h', toks := tk' }) :
    wpAny (model prog w) A (call (.builtin "re.Pattern.sub") [.ref pa, .str ⟨#[13, 10]⟩ ty, .str x tx]) Q E s :=
  wp_sub (nx := nx2 x.cps) (by omega) (by decide +kernel) (fun p must hp => ⟨40, by decide, for2 x.cps p must hp⟩) P (subs2 x.cps _ 0 (Nat.le_refl _) (Nat.zero_le _)) (Nat.le_trans (sub2_len _ _ (Nat.le_refl _)) (by rw [List.length_drop, Array.length_toList]; omega)) h
theorem wp_sub1 {Q : Value → Shared → Prop} (hx : x.cps.size ≤ 2000) (P : PatAt s.heap pa C1)
    (h : ∀ z tz h' tk', z.cps.toList = sub1 true x.cps.toList → (∀ b o, s.heap.get? b = some o → h'.get? b = some o) → Q (.str z tz) { s with heap := h', toks := tk' }) :
    wpAny (model prog w) A (call (.builtin "re.Pattern.sub") [.ref pa, .str ⟨#[46, 46]⟩ ty, .str x tx]) Q E s :=
  wp_sub (nx := nx1 x.cps) (by omega) (by decide +kernel) (fun p must hp => ⟨6 * x.cps.size + 8, by omega, for1 x.cps p must hp⟩) P (subs1 x.cps _ 0 rfl (Nat.zero_le _)) (Nat.le_trans (sub1_len _ _) (by rw [List.length_drop, Array.length_toList]; omega)) h
end

end
section
open PySem PySem.W PyProof.Rows PySem.Spec PySem.Calls
/-- a list of single signs -/
def chars (cts : List (Nat × Tok)) : Array Value := (cts.map fun p => Value.str ⟨#[p.1]⟩ p.2).toArray
theorem chars_of : ∀ {xs : List Nat} {ys : List Value}, CarriedAll ys (List.map PyData.str (xs.map fun n => ⟨#[n]⟩)) → ∃ cts : List (Nat × Tok), cts.map (·.1) = xs ∧ ys.toArray = chars cts
  | [], _, .nil => ⟨[], rfl, rfl⟩
  | x :: xs, _, .cons (.str _ t) r => by
    obtain ⟨cts, e, rfl'⟩ := chars_of r
    refine ⟨(x, t) :: cts, by rw [List.map_cons, e], ?_⟩
    unfold chars at *
    rw [List.map_cons, ← Array.toList_inj, List.toList_toArray, List.toList_toArray]
    rw [← Array.toList_inj, List.toList_toArray, List.toList_toArray] at rfl'
    rw [rfl']
section
variable {prog : Program} {w : World} {A : Around} {E : Value → Shared → Prop} {s : Shared} {h₀ : Heap} {L : Addr} {m : Str → Option Value} {news : List (Addr × Obj)} {x : Str} {t : Tok}
theorem list_chars {Q : Value → Shared → Prop} (hh : A.handled = none) (F : Fr h₀ L s.heap m) (N : News h₀ L s.heap news) (hx : x.cps.size ≤ 3000)
    (h : ∀ D n cts h' tk', cts.map (·.1) = x.cps.toList → Fr h₀ L h' m → News h₀ L h' ((D, listOf (chars cts) n) :: news) → (∀ q ∈ news, q.1 < D) → Q (.ref D) { s with heap := h', toks := tk' }) :
    wpAny (model prog w) A (call (.type "list") [.str x t]) Q E s := by
  refine list_strD hh F N (fun h' tk ys F' N' hk hn hl np hc => ?_) (by show x.cps.size ≤ sizeLine; rw [sizeLine_eq]; omega)
  obtain ⟨cts, e1, e2⟩ := chars_of (xs := x.cps.toList) hc
  rw [e2] at np
  obtain ⟨n, N2⟩ := made_enters np F' N' hn
  exact h _ n cts h' tk e1 F' N2 fun q hq => Heap.lt_size (N q hq).1
theorem pop_chars {D : Addr} {n : Nat} {c : Nat} {tc u : Tok} {r : List (Nat × Tok)} {news' : List (Addr × Obj)} {Q : Value → Shared → Prop} (F : Fr h₀ L s.heap m) (N : News h₀ L s.heap news) (hr : r.length ≤ 3000)
    (U : Upd D (listOf (chars ((c, tc) :: r)) n) (listOf (chars r) (n + 1)) news news') (h : ∀ h', Fr h₀ L h' m → News h₀ L h' news' → Q (.str ⟨#[c]⟩ tc) { s with heap := h' }) :
    wpAny (model prog w) A (call (.builtin "list.pop") [.ref D, .int 0 u]) Q E s := by
  refine kl_popAt (k := 0) (p := []) (q := r.map fun p => Value.str ⟨#[p.1]⟩ p.2) F N rfl ?_ rfl U ?_ h
  · unfold seqIndex? chars
    simp
  · unfold chars
    rw [sizeLine_eq]
    simp; omega
theorem truthy_chars {D : Addr} {n : Nat} {cts : List (Nat × Tok)} {Q : Bool → Shared → Prop} (N : News h₀ L s.heap news) (hm : (D, listOf (chars cts) n) ∈ news) (hr : cts.length ≤ 3001) (h : Q (!cts.isEmpty) { s with toks := s.toks + 1 + 1 }) :
    wpAny (model prog w) A (truthy (.ref D)) Q E s := by
  refine wpAny_truthy_list ⟨_, (N _ hm).1, rfl, n, rfl⟩ ?_ ?_
  · unfold chars; simp; omega
  · have e : (chars cts).isEmpty = cts.isEmpty := by unfold chars; cases cts <;> simp
    rw [e]; exact h
end
theorem nl_eq {c : Nat} (h : (({ cps := #[c] } : Str) == Str.ofString "\n") = true) : c = 10 := by
  have := eq_of_beq h
  have e : Str.ofString "\n" = ⟨#[10]⟩ := by decide +kernel
  rw [e] at this
  cases this
  rfl

end
section
open PySem PySem.W PyProof.Rows PySem.Spec PySem.Calls
theorem wpAny_callBorrowed {M : Model} {A : Around} {E : Value → Shared → Prop} {s : Shared} {f : Value} {pos : List Value} {Q : Value → Shared → Prop} (h : wpAny M A (call f pos) Q E s) : wpAny M A (callBorrowed f pos) Q E s := fun Γ p hΓ => by
  have := h Γ p hΓ
  unfold call at this
  rw [Sem.wp_runValue] at this
  unfold callBorrowed
  rw [Sem.wp_call]
  refine Eq.mp ?_ this
  congr 1
  funext r s'
  match r with
  | .ok (.ret v) => simp [Sem.wp]
  | .ok .next => simp [Sem.wp]
  | .ok .brk => simp [Sem.wp]
  | .ok .cont => simp [Sem.wp]
  | .error e => simp [Sem.wp]
theorem ci_owner : Manifest.owners.lookup (String.ofList "callable_iterator".toList.reverse.reverse) = some Manifest.sig_callable_iterator := by kernel_rfl
theorem slot_ci_next : Slot "callable_iterator" "__next__" "callable_iterator.__next__" :=
  .of (owner := "callable_iterator") (n := "__next__") (by rw [typeLookup_type, builtinLookup_eq_fast]; kernel_rfl) (by decide +kernel) (by decide +kernel) (by decide +kernel)
    (by first | exact .inl (by decide +kernel) | exact .inr (by decide +kernel)) (by rw [isSubtype_type]; kernel_rfl)
theorem slot_ci_iter : Slot "callable_iterator" "__iter__" "callable_iterator.__iter__" :=
  .of (owner := "callable_iterator") (n := "__iter__") (by rw [typeLookup_type, builtinLookup_eq_fast]; kernel_rfl) (by decide +kernel) (by decide +kernel) (by decide +kernel)
    (by first | exact .inl (by decide +kernel) | exact .inr (by decide +kernel)) (by rw [isSubtype_type]; kernel_rfl)
theorem entry_ci_next : entryFor table "callable_iterator.__next__" = some Builtin.«callable_iterator.__next__» := entryFor_of_fast (by kernel_rfl)
theorem args_ci_next (a : Value) : argsOk "callable_iterator.__next__" ⟨[a], []⟩ := by unfold argsOk; kernel_rfl
theorem args_ci_iter (a : Value) : argsOk "callable_iterator.__iter__" ⟨[a], []⟩ := by unfold argsOk; kernel_rfl
theorem entry_ci_iter : entryFor table "callable_iterator.__iter__" = some Builtin.«dict_keyiterator.__iter__» :=
  entryFor_alias (id' := "dict_keyiterator.__iter__") (by kernel_rfl) rfl (by decide +kernel) (by kernel_rfl)
theorem ci_iter_entry : entryFor table "iter" = some Builtin.«iter» := entryFor_of_fast (by kernel_rfl)
theorem ci_iter_args (a b : Value) : argsOk "iter" ⟨[a, b], []⟩ := by unfold argsOk; kernel_rfl
theorem meth_call : ∃ r, typeLookup (.type "method") "__call__" = pure (some r) := ⟨.builtin "method.__call__", by rw [typeLookup_type, builtinLookup_eq_fast]; kernel_rfl⟩
/-- an iterator of calls, up to an empty text -/
abbrev ciObj (q : Addr) (t : Tok) : Obj := { cls := .type "callable_iterator", data := .fields #[.ref q, .str ⟨#[]⟩ t, .bool false] }
section
variable {prog : Program} {w : World} {A : Around} {E : Value → Shared → Prop} {s : Shared} {I q f x : Addr} {t : Tok} {h₀ : Heap} {L : Addr} {m : Str → Option Value} {news : List (Addr × Obj)}
theorem ci_make {Q : Value → Shared → Prop} (F : Fr h₀ L s.heap m) (N : News h₀ L s.heap news) (hq : (q, methodObj (.ref f) (.ref x)) ∈ news)
    (h : ∀ (I : Addr) h', Fr h₀ L h' m → News h₀ L h' ((I, ciObj q t) :: news) → (∀ p ∈ news, p.1 < I) → Q (.ref I) { s with heap := h' }) :
    wpAny (model prog w) A (call (.builtin "iter") [.ref q, .str ⟨#[]⟩ t]) Q E s := by
  refine call_function_entry (by decide +kernel) (by decide +kernel) ci_iter_entry (ci_iter_args _ _) ?_
  unfold Builtin.«iter»
  refine wpAny_bind (m := someArgs "iter" 1 2 _) (wpAny_of_eq (a := [Value.ref q, .str ⟨#[]⟩ t]) (by first | rfl | kernel_rfl!) ?_)
  obtain ⟨r, hr⟩ := meth_call
  show wpAny _ _ (specialOf (.ref q) "__call__" >>= _) _ _ _
  refine wpAny_bind (wpAny_specialOf (T := "method") ⟨_, (N _ hq).1, rfl⟩ hr ?_)
  rw [if_neg (by simp)]
  refine wpAny_bind (wpAny_rule ?_)
  refine wpAny_bind (wpAny_newObj_type ?_)
  exact wpAny_pure ⟨_, rfl, h _ _ (F.push _) (News.push F N _ rfl) (fun q hq => Heap.lt_size (N q hq).1)⟩
theorem ci_self {Q : Value → Shared → Prop} (hI : s.heap.get? I = some (ciObj q t)) (h : Q (.ref I) s) : wpAny (model prog w) A (pyIter (.ref I)) Q E s := by
  have hT : s.TypeIs (.ref I) "callable_iterator" := ⟨_, hI, rfl⟩
  refine wpAny_pyIter_slot hT slot_ci_iter (wpAny_call_entry slot_ci_iter hT entry_ci_iter ?_ (args_ci_iter _))
  unfold Builtin.«dict_keyiterator.__iter__»
  exact wpAny_pure ⟨_, rfl, _, _, hT, slot_ci_next.lookup, h⟩
theorem ci_borrows {fo : Obj} {fc : FuncData} {Q : Bool → Shared → Prop} (hq : s.heap.get? q = some (methodObj (.ref f) (.ref x))) (hf : s.heap.get? f = some fo) (hd : fo.data = .func fc) (h : Q true s) :
    wpAny (model prog w) A (borrowsExactly (.ref q)) Q E s := by
  unfold borrowsExactly
  dsimp only
  refine wpAny_bind (wpAny_load hq ?_)
  dsimp only
  rw [if_pos (by decide)]
  refine wpAny_bind (wpAny_load hf ?_)
  rw [hd]
  exact wpAny_pure h
theorem ci_item {fo : Obj} {fc : FuncData} {Q : Option Value → Shared → Prop} (hI : s.heap.get? I = some (ciObj q t)) (hq : s.heap.get? q = some (methodObj (.ref f) (.ref x))) (hf : s.heap.get? f = some fo) (hd : fo.data = .func fc)
    (h : codeAny (model prog w) A.in1 (.call (.ref f) ⟨[.ref x], []⟩) (fun r s' => match r with | .ok (.ret v) => ∃ z tz, v = .str z tz ∧ z ≠ ⟨#[]⟩ ∧ s'.heap.get? I = some (ciObj q t) ∧ Q (some (.str z tz)) s' | .ok _ => False | .error _ => False) s) :
    wpAny (model prog w) A (pyNext (.ref I)) Q E s := by
  have hT : s.TypeIs (.ref I) "callable_iterator" := ⟨_, hI, rfl⟩
  unfold pyNext
  refine wpAny_bind (wpAny_attempt (wpAny_callSpecial?_slot (name := Str.ofString "__next__") hT slot_ci_next
    (wpAny_call_entry slot_ci_next hT entry_ci_next ?_ (args_ci_next _))))
  show wpAny _ _ (field (.ref I) 2 >>= _) _ _ s
  refine wpAny_bind (wpAny_field hI rfl (x := .bool false) rfl ?_)
  rw [if_neg (by decide)]
  refine wpAny_bind (wpAny_field hI rfl (x := .ref q) rfl ?_)
  unfold callOutOfASlot
  refine wpAny_bind (wpAny_attempt (wpAny_bind (ci_borrows hq hf hd ?_)))
  rw [if_pos rfl]
  refine wpAny_callBorrowed (wpAny_call (method_call hq ?_))
  refine codeAny_mono h fun r s' hr => ?_
  match r, hr with
  | .ok (.ret v), hr =>
    obtain ⟨z, tz, rfl, hz, hI', hQ⟩ := hr
    show wpAny _ _ (field (.ref I) 2 >>= _) _ _ s'
    refine wpAny_bind (wpAny_field hI' rfl (x := .bool false) rfl ?_)
    rw [if_neg (by decide)]
    refine wpAny_bind (wpAny_field hI' rfl (x := .str ⟨#[]⟩ t) rfl ?_)
    refine wpAny_bind (wpAny_holding (wpAny_eqBool_str ?_))
    have : decide ((⟨#[]⟩ : Str) = z) = false := decide_eq_false fun e => hz e.symm
    rw [this]
    exact wpAny_pure ⟨_, rfl, wpAny_pure hQ⟩
  | .ok .next, hr => exact hr.elim
  | .ok .brk, hr => exact hr.elim
  | .ok .cont, hr => exact hr.elim
  | .error _, hr => exact hr.elim
theorem ci_end {fo : Obj} {fc : FuncData} {Q : Option Value → Shared → Prop} (hh : A.handled = none) (hI : s.heap.get? I = some (ciObj q t)) (hq : s.heap.get? q = some (methodObj (.ref f) (.ref x))) (hf : s.heap.get? f = some fo) (hd : fo.data = .func fc)
    (h : codeAny (model prog w) A.in1 (.call (.ref f) ⟨[.ref x], []⟩) (fun r s' => match r with | .ok (.ret v) => (∃ tz, v = Value.str ⟨#[]⟩ tz ∧ s'.heap.get? I = some (ciObj q t) ∧ s'.heap.get? q = some (methodObj (.ref f) (.ref x)) ∧ s'.heap.get? f = some fo ∧
      (∀ h' : Heap, Heap.ExtBut I s'.heap h' → Q none (Shared.mk h' s'.gens s'.drawn s'.toks s'.os))) | .ok _ => False | .error _ => False) s) :
    wpAny (model prog w) A (pyNext (.ref I)) Q E s := by
  have hT : s.TypeIs (.ref I) "callable_iterator" := ⟨_, hI, rfl⟩
  unfold pyNext
  refine wpAny_bind (wpAny_attempt (wpAny_callSpecial?_slot (name := Str.ofString "__next__") hT slot_ci_next
    (wpAny_call_entry slot_ci_next hT entry_ci_next ?_ (args_ci_next _))))
  show wpAny _ _ (field (.ref I) 2 >>= _) _ _ s
  refine wpAny_bind (wpAny_field hI rfl (x := .bool false) rfl ?_)
  rw [if_neg (by decide)]
  refine wpAny_bind (wpAny_field hI rfl (x := .ref q) rfl ?_)
  unfold callOutOfASlot
  refine wpAny_bind (wpAny_attempt (wpAny_bind (ci_borrows hq hf hd ?_)))
  rw [if_pos rfl]
  refine wpAny_callBorrowed (wpAny_call (method_call hq ?_))
  refine codeAny_mono h fun r s' hr => ?_
  match r, hr with
  | .ok (.ret v), hr =>
    obtain ⟨tz, rfl, hI', hq', hf', hQ⟩ := hr
    show wpAny _ _ (field (.ref I) 2 >>= _) _ _ s'
    refine wpAny_bind (wpAny_field hI' rfl (x := .bool false) rfl ?_)
    rw [if_neg (by decide)]
    refine wpAny_bind (wpAny_field hI' rfl (x := .str ⟨#[]⟩ t) rfl ?_)
    refine wpAny_bind (wpAny_holding (wpAny_eqBool_str ?_))
    have : decide ((⟨#[]⟩ : Str) = ⟨#[]⟩) = true := decide_eq_true rfl
    rw [this]
    show wpAny _ _ (rule "callable_iterator.__next__.sentinel" >>= _) _ _ _
    refine wpAny_bind (wpAny_rule ?_)
    refine wpAny_bind ?_
    show wpAny _ _ (field (.ref I) 0 >>= _) _ _ s'
    refine wpAny_bind (wpAny_field hI' rfl (x := .ref q) rfl ?_)
    refine wpAny_bind ?_
    unfold slotLetsGo
    refine wpAny_bind (ci_borrows hq' hf' hd ?_)
    rw [if_pos rfl]
    refine wpAny_pure ?_
    refine wpAny_bind (wpAny_setField_rec hI' (by simp) fun h₁ e₁ s₁ => ?_)
    refine wpAny_bind (wpAny_setField_rec e₁ (by simp) fun h₂ e₂ s₂ => ?_)
    refine wpAny_setField_rec e₂ (by simp) fun h₃ e₃ s₃ => ?_
    unfold Builtin.SmallTypes.stopIteration
    refine wpAny_bind ?_
    simp only [newExc, newTuple]
    refine wpAny_bind (wpAny_newObj_type ?_ (by size_fits))
    refine wpAny_bind (m := firstArgMember _ _) (wpAny_of_eq (a := Value.none) (by first | rfl | (simp only [firstArgMember]; rfl)) ?_)
    refine wpAny_newObj_type ?_ (by size_fits)
    simp only [raiseNew]
    refine wpAny_bind (wpAny_handled ?_)
    rw [show A.in1.handled = none from hh]
    refine wpAny_bind (wpAny_pure (wpAny_throw ?_))
    refine wpAny_bind (wpAny_isInstance (T := "StopIteration") (b := true) ⟨_, Heap.get?_push_size _ rfl, rfl⟩ isSubtype_stop ?_)
    exact wpAny_pure (hQ _ ((s₁.extBut.trans (s₂.extBut.trans s₃.extBut)).push _ |>.push _))
  | .ok .next, hr => exact hr.elim
  | .ok .brk, hr => exact hr.elim
  | .ok .cont, hr => exact hr.elim
  | .error _, hr => exact hr.elim
end

end
section
open PySem PySem.W PyProof.Rows PySem.Spec PySem.Calls
def CiStop (P : Prop) : Prop := P
theorem CiStop.out {P : Prop} (h : CiStop P) : P := h
theorem CiStop.go {P : Prop} (h : P) : CiStop P := h
section
variable {prog : Program} {w : World} {A : Around} {E : Value → Shared → Prop} {s : Shared} {env : Env} {I q : Addr} {t : Tok}
theorem ci_for {v : Str} {px pos : Pos} {iter : Expr} {body : List Stmt} {Q : Flow → Shared → Prop} (I : Addr) (J : Nat → Shared → Prop) {n0 : Nat} {q : Addr} {t : Tok}
    (h : wpAny (model prog w) A (eval iter env) (fun xv s₁ => xv = .ref I ∧ s₁.heap.get? I = some (ciObj q t) ∧ J n0 s₁) E s)
    (turn : ∀ n s', J n s' → wpAny (model prog w) A (pyNext (.ref I)) (OwitTurn prog w A E env v body Q (fun s₃ => CiStop (∃ k, k < n ∧ J k s₃))) E s')
    (hs : ∀ x, foldedSetIterable iter env x = pure x := by intro _; rfl) (hE : PassesOwn (model prog w) A env E := by passes_own) :
    wpAny (model prog w) A (exec (.For (.Name v px) iter body [] pos) env) Q E s := by
  refine wpAny_For (wpAny_mono h (fun xv s₁ h₁ => ?_) fun _ _ z => z) hs
  obtain ⟨rfl, hI, hJ⟩ := h₁
  refine ci_self hI ?_
  refine codeAny_forLoop (R := fun r s' => match r with | .ok f => Q f s' | .error e => cameBackBy (model prog w) A env E e s') J ?_ n0 hJ
  intro k s' hk
  refine wpAny_passesOwn hE (wpAny_mono (turn k s' hk) (fun r s₁ hr => ?_) fun _ _ z => z)
  cases r with
  | none => exact wpAny_execs_nil hr
  | some y =>
    refine wpAny_passesOwn hE (wpAny_assign_Name (wpAny_mono hr (fun _ s₂ h₂ => ?_) fun _ _ z => z))
    refine wpAny_passesOwn hE (wpAny_mono h₂ (fun f s₃ h₃ => ?_) fun _ _ z => z)
    cases f with
    | next => exact h₃
    | cont => exact h₃
    | brk => exact h₃
    | ret _ => exact h₃
end
theorem fr_but {h₀ h h' : Heap} {L I : Addr} {m : Str → Option Value} (F : Fr h₀ L h m) (hx : Heap.ExtBut I h h') (hI : h₀.get? I = none) (hL : L ≠ I) : Fr h₀ L h' m :=
  ⟨let ⟨o, es, ep, ho, r⟩ := F.ns; ⟨o, es, ep, hx _ _ hL ho, r⟩, fun b o e => hx b o (fun q => by rw [q, hI] at e; cases e) (F.keep b o e), F.above⟩
theorem news_but {h₀ h h' : Heap} {L I : Addr} {news : List (Addr × Obj)} (N : News h₀ L h news) (hx : Heap.ExtBut I h h') (l : List (Addr × Obj)) (hl : ∀ p ∈ l, p ∈ news) (hs : ∀ p ∈ l, p.1 ≠ I) : News h₀ L h' l :=
  fun p hp => ⟨hx _ _ (hs p hp) (N p (hl p hp)).1, (N p (hl p hp)).2⟩

end
section
open PySem PySem.W PyProof.Rows PySem.Spec PySem.Calls
/-- what reading one word does, with more signs (law 02) -/
inductive Inner2 : List (Nat × Tok) → List Nat → List (Nat × Tok) → Int → Prop
  | done {t r} : Inner2 ((13, t) :: r) [] r 0
  | plain {c t r w z d} : (c = 46 ∨ c = 97 ∨ c = 65) → Inner2 r w z d → Inner2 ((c, t) :: r) (c :: w) z d
  | esc {c t u r w z d} : c ≠ 10 → Inner2 r w z d → Inner2 ((92, t) :: (c, u) :: r) (c :: w) z d
inductive Outer2 : List (Nat × Tok) → List Nat → List (Nat × Tok) → Int → Prop
  | eof : Outer2 [] [] [] 0
  | skip {t r w z d} : Outer2 r w z d → Outer2 ((10, t) :: r) w z (d + 1)
  | dot {t r w z d} : Inner2 r w z d → Outer2 ((46, t) :: r) (46 :: w) z d

end
section
open PySem PySem.W PyProof.Rows PySem.Spec PySem.Calls
section
variable {prog : Program} {w : World} {A : Around} {E : Value → Shared → Prop} {s : Shared} {env : Env}
theorem wh_loop {test : Expr} {body : List Stmt} {pos : Pos} {Q : Flow → Shared → Prop} (J : Nat → Shared → Prop) {n0 : Nat} (h0 : J n0 s)
    (turn : ∀ n s', J n s' → wpAny (model prog w) A (isTrue test env (eval test env)) (fun b s₂ =>
      if b = true then wpAny (model prog w) A (execs body env) (OwitFlow Q (fun s₃ => CiStop (∃ k, k < n ∧ J k s₃))) E s₂ else Q .next s₂) E s')
    (hE : PassesOwn (model prog w) A env E := by passes_own) :
    wpAny (model prog w) A (exec (.While test body [] pos) env) Q E s := by
  refine wpAny_While (codeAny_whileLoop J ?_ n0 h0)
  intro n s' hJ
  refine wpAny_mono (turn n s' hJ) (fun b s₂ h₂ => ?_) hE
  cases b with
  | false =>
    simp only [Bool.false_eq_true, if_false] at h₂ ⊢
    exact wpAny_execs_nil h₂
  | true =>
    simp only [if_true] at h₂ ⊢
    refine wpAny_mono h₂ (fun f s₃ h₃ => ?_) hE
    cases f with
    | next => exact h₃
    | cont => exact h₃
    | brk => exact h₃
    | ret v => exact h₃
/-- a for over range(b): the iterator stands in the ledger, ahead -/
abbrev rgObj (i b : Int) : Obj := { cls := .type "range_iterator", dict := none, data := .fields #[rawInt i, rawInt (b - i), rawInt 1], slots := #[] }
end
def txts (ws : List (Str × Tok)) : Array Value := (ws.map fun p => Value.str p.1 p.2).toArray
theorem txts_size (ws : List (Str × Tok)) : (txts ws).size = ws.length := by simp [txts]
theorem txts_push (ws : List (Str × Tok)) (x : Str) (t : Tok) : (txts ws).push (.str x t) = txts (ws ++ [(x, t)]) := by simp [txts]
theorem txts_one (x : Str) (t : Tok) : #[Value.str x t] = txts [(x, t)] := by simp [txts]
theorem txts_get (ws : List (Str × Tok)) (k : Nat) : (txts ws)[k]? = (ws[k]?).map fun p => Value.str p.1 p.2 := by simp [txts]
section
variable {prog : Program} {w : World} {A : Around} {E : Value → Shared → Prop} {s : Shared} {h₀ : Heap} {L : Addr} {m : Str → Option Value} {news news' : List (Addr × Obj)}
theorem append_txts {D : Addr} {n : Nat} {ws : List (Str × Tok)} {x : Str} {t : Tok} {Q : Value → Shared → Prop} (F : Fr h₀ L s.heap m) (N : News h₀ L s.heap news) (hz : ws.length ≤ 100000) (U : Upd D (listOf (txts ws) n) (listOf (txts (ws ++ [(x, t)])) (n + 1)) news news')
    (h : ∀ h', Fr h₀ L h' m → News h₀ L h' news' → Q .none { s with heap := h' }) : wpAny (model prog w) A (call (.builtin "list.append") [.ref D, .str x t]) Q E s :=
  append_K F N (by rw [txts_push]; exact U) h (by rw [txts_size, sizeLine_eq]; omega)
end

end
section
open PySem PySem.W PyProof.Rows PySem.Spec PySem.Calls
/-- the price of one sign for another -/
def cost (c1 c2 : Nat) : Int := if c1 = c2 then 0 else if Txt.lower ⟨#[c1]⟩ = Txt.lower ⟨#[c2]⟩ then 1 else 2
theorem one_eq {c1 c2 : Nat} : (({ cps := #[c1] } : Str) == { cps := #[c2] }) = decide (c1 = c2) := by
  by_cases h : c1 = c2
  · subst h; simp
  · have : ¬ ({ cps := #[c1] } : Str) = { cps := #[c2] } := fun e => h (by simpa using e)
    simp [h]
theorem cost_0 {c1 c2 : Nat} (h : (({ cps := #[c1] } : Str) == { cps := #[c2] }) = true) : cost c1 c2 = 0 := by
  rw [one_eq] at h
  unfold cost
  rw [if_pos (of_decide_eq_true h)]
theorem cost_1 {c1 c2 : Nat} (h : (({ cps := #[c1] } : Str) == { cps := #[c2] }) = false) (h2 : (Txt.lower ⟨#[c1]⟩ == Txt.lower ⟨#[c2]⟩) = true) : cost c1 c2 = 1 := by
  rw [one_eq] at h
  unfold cost
  rw [if_neg (of_decide_eq_false h), if_pos (eq_of_beq h2)]
theorem cost_2 {c1 c2 : Nat} (h : (({ cps := #[c1] } : Str) == { cps := #[c2] }) = false) (h2 : (Txt.lower ⟨#[c1]⟩ == Txt.lower ⟨#[c2]⟩) = false) : cost c1 c2 = 2 := by
  rw [one_eq] at h
  unfold cost
  rw [if_neg (of_decide_eq_false h), if_neg (by simpa using h2)]
/-- how many signs two texts have in common at their heads -/
def lcp : List Nat → List Nat → Nat
  | x :: xs, y :: ys => if x = y then lcp xs ys + 1 else 0
  | _, _ => 0
theorem wh_loopE {prog : Program} {w : World} {A : Around} {E : Value → Shared → Prop} {s : Shared} {env : Env} {test : Expr} {body : List Stmt} {pos : Pos} {Q : Flow → Shared → Prop} (J : Nat → Shared → Prop) (Z : Shared → Prop) {n0 : Nat} (h0 : J n0 s)
    (turn : ∀ n s', J n s' → wpAny (model prog w) A (isTrue test env (eval test env)) (fun b s₂ =>
      if b = true then wpAny (model prog w) A (execs body env) (OwitFlow Q (fun s₃ => CiStop (∃ k, k < n ∧ J k s₃))) E s₂ else CiStop (Z s₂)) E s')
    (fin : ∀ s', Z s' → Q .next s')
    (hE : PassesOwn (model prog w) A env E := by passes_own) :
    wpAny (model prog w) A (exec (.While test body [] pos) env) Q E s := by
  refine wh_loop J h0 (fun n s' hJ => wpAny_mono (turn n s' hJ) (fun b s₂ h₂ => ?_) fun _ _ e => e) hE
  cases b with
  | true => exact h₂
  | false => exact fin s₂ h₂
def CutFlow (Z : Shared → Prop) (Q : Flow → Shared → Prop) (f : Flow) (s : Shared) : Prop := match f with
  | .next => CiStop (Z s)
  | f => Q f s
theorem exec_cut {prog : Program} {w : World} {A : Around} {E : Value → Shared → Prop} {s : Shared} {env : Env} {st : Stmt} {Q : Flow → Shared → Prop} (Z : Shared → Prop)
    (h : wpAny (model prog w) A (exec st env) (CutFlow Z Q) E s) (fin : ∀ s', Z s' → Q .next s') : wpAny (model prog w) A (exec st env) Q E s :=
  wpAny_mono h (fun f s' h' => match f, h' with
    | .next, h' => fin s' h'
    | .cont, h' => h'
    | .brk, h' => h'
    | .ret _, h' => h') fun _ _ e => e
/-- min(x, y) -/
abbrev mn2 (x y : Int) : Int := if y < x then y else x
/-- one row of the table of distances -/
def stepI (bc : Nat) : List Nat → List Int → Int → Int → Int → List Int × Int × Int
  | c :: a, r :: row, dist, res, mn =>
    let sub := dist + cost bc c
    let res' := mn2 (mn2 res r + 2) sub
    let mn' := if res' < mn then res' else mn
    let t := stepI bc a row r res' mn'
    (res' :: t.1, t.2)
  | _, _, _, res, mn => ([], res, mn)
def stepO (a : List Nat) (mx : Int) : List Nat → Int → List Int → Int → Int
  | [], _, _, res => res
  | c :: b, i, row, _ => let t := stepI c a row (i * 2) (i * 2) 9223372036854775807; if t.2.2 > mx then mx + 1 else stepO a mx b (i + 1) t.1 t.2.1
theorem stepO_ret {a b : List Nat} {mx res : Int} {row : List Int} {i : Nat} (hi : i < b.length) (h : mx < (stepI (b.getD i 0) a row ((i : Int) * 2) ((i : Int) * 2) 9223372036854775807).2.2) : stepO a mx (b.drop i) i row res = mx + 1 := by
  have e : b.drop i = b.getD i 0 :: b.drop (i + 1) := by rw [List.drop_eq_getElem_cons hi, List.getD_eq_getElem?_getD, List.getElem?_eq_getElem hi]; rfl
  rw [e]
  exact if_pos h
theorem stepO_next {a b : List Nat} {mx res : Int} {row : List Int} {i : Nat} (hi : i < b.length) (h : ¬ mx < (stepI (b.getD i 0) a row ((i : Int) * 2) ((i : Int) * 2) 9223372036854775807).2.2) :
    stepO a mx (b.drop i) i row res = stepO a mx (b.drop (i + 1)) ((i + 1 : Nat) : Int) (stepI (b.getD i 0) a row ((i : Int) * 2) ((i : Int) * 2) 9223372036854775807).1 (stepI (b.getD i 0) a row ((i : Int) * 2) ((i : Int) * 2) 9223372036854775807).2.1 := by
  have e : b.drop i = b.getD i 0 :: b.drop (i + 1) := by rw [List.drop_eq_getElem_cons hi, List.getD_eq_getElem?_getD, List.getElem?_eq_getElem hi]; rfl
  rw [e]
  exact if_neg h
/-- the state within a row: what is done, what is left -/
def InRow (bc : Nat) (a : List Nat) (T : List Int × Int × Int) (k : Nat) (all : List Int) (dist res mn : Int) : Prop :=
  ∃ done rest, all = done ++ rest ∧ done.length = k ∧ all.length = a.length ∧ done ++ (stepI bc (a.drop k) rest dist res mn).1 = T.1 ∧ (stepI bc (a.drop k) rest dist res mn).2 = T.2
theorem InRow.first {bc : Nat} {a : List Nat} {row : List Int} {dist res mn : Int} (h : row.length = a.length) : InRow bc a (stepI bc a row dist res mn) 0 row dist res mn := ⟨[], row, rfl, rfl, h, rfl, rfl⟩
theorem InRow.last {bc : Nat} {a : List Nat} {T : List Int × Int × Int} {all : List Int} {dist res mn : Int} (h : InRow bc a T a.length all dist res mn) : all = T.1 ∧ res = T.2.1 ∧ mn = T.2.2 := by
  obtain ⟨done, rest, e1, e2, e3, e4, e5⟩ := h
  have hr : rest = [] := List.eq_nil_of_length_eq_zero (by rw [e1, List.length_append] at e3; omega)
  subst hr
  rw [List.drop_length] at e4 e5
  rw [List.append_nil] at e1
  have : stepI bc [] [] dist res mn = ([], res, mn) := rfl
  rw [this] at e4 e5
  rw [List.append_nil] at e4
  exact ⟨e1.trans e4, by rw [← e5], by rw [← e5]⟩
theorem InRow.next {bc : Nat} {a : List Nat} {T : List Int × Int × Int} {k : Nat} {all : List Int} {dist res mn : Int} (hk : k < a.length) (h : InRow bc a T k all dist res mn) :
    InRow bc a T (k + 1) (all.set k (mn2 (mn2 res (all.getD k 0) + 2) (dist + cost bc (a.getD k 0)))) (all.getD k 0) (mn2 (mn2 res (all.getD k 0) + 2) (dist + cost bc (a.getD k 0)))
      (if mn2 (mn2 res (all.getD k 0) + 2) (dist + cost bc (a.getD k 0)) < mn then mn2 (mn2 res (all.getD k 0) + 2) (dist + cost bc (a.getD k 0)) else mn) := by
  obtain ⟨done, rest, e1, e2, e3, e4, e5⟩ := h
  have e : a.drop k = a.getD k 0 :: a.drop (k + 1) := by rw [List.drop_eq_getElem_cons hk, List.getD_eq_getElem?_getD, List.getElem?_eq_getElem hk]; rfl
  match rest, e1, e4, e5 with
  | [], e1, _, _ => rw [e1, List.append_nil] at e3; omega
  | r :: rest, e1, e4, e5 =>
    have hg : all.getD k 0 = r := by rw [e1, List.getD_eq_getElem?_getD, List.getElem?_append_right (by omega), e2, Nat.sub_self]; rfl
    rw [hg]
    rw [e] at e4 e5
    refine ⟨done ++ [mn2 (mn2 res r + 2) (dist + cost bc (a.getD k 0))], rest, ?_, by simp [e2], by rw [List.length_set]; exact e3, ?_, e5⟩
    · rw [e1, List.set_append_right _ _ (by omega), e2, Nat.sub_self]
      simp
    · rw [List.append_assoc]
      exact e4
theorem InRow.next1 {bc : Nat} {a : List Nat} {T : List Int × Int × Int} {k : Nat} {all : List Int} {dist res mn : Int} (hk : k < a.length) (h : InRow bc a T k all dist res mn) (hm : mn2 (mn2 res (all.getD k 0) + 2) (dist + cost bc (a.getD k 0)) < mn) :
    InRow bc a T (k + 1) (all.set k (mn2 (mn2 res (all.getD k 0) + 2) (dist + cost bc (a.getD k 0)))) (all.getD k 0) (mn2 (mn2 res (all.getD k 0) + 2) (dist + cost bc (a.getD k 0))) (mn2 (mn2 res (all.getD k 0) + 2) (dist + cost bc (a.getD k 0))) := by
  have := h.next hk
  generalize mn2 (mn2 res (all.getD k 0) + 2) (dist + cost bc (a.getD k 0)) = z at *
  rw [if_pos hm] at this
  exact this
theorem InRow.next2 {bc : Nat} {a : List Nat} {T : List Int × Int × Int} {k : Nat} {all : List Int} {dist res mn : Int} (hk : k < a.length) (h : InRow bc a T k all dist res mn) (hm : ¬ mn2 (mn2 res (all.getD k 0) + 2) (dist + cost bc (a.getD k 0)) < mn) :
    InRow bc a T (k + 1) (all.set k (mn2 (mn2 res (all.getD k 0) + 2) (dist + cost bc (a.getD k 0)))) (all.getD k 0) (mn2 (mn2 res (all.getD k 0) + 2) (dist + cost bc (a.getD k 0))) mn := by
  have := h.next hk
  generalize mn2 (mn2 res (all.getD k 0) + 2) (dist + cost bc (a.getD k 0)) = z at *
  rw [if_neg hm] at this
  exact this
def rowOf (n : Nat) : List Int := (List.range n).map fun k : Nat => 2 * ((k : Int) + 1)
def levD (a b : List Nat) (mx : Int) : Int := if ((b.length : Int) - a.length) * 2 > mx then mx + 1 else stepO a mx b 0 (rowOf a.length) 0
def levS (a b : List Nat) (mx : Int) : Int := if a = [] ∨ b = [] then 2 * ((a.length : Int) + b.length) else if b.length < a.length then levD b a mx else levD a b mx
def levT (a b : List Nat) (mx : Int) : Int := levS (a.take (a.length - lcp a.reverse b.reverse)) (b.take (b.length - lcp a.reverse b.reverse)) mx
/-- what _levenshtein_distance answers, for short texts -/
def levP (a b : List Nat) (mx : Int) : Int := if a = b then 0 else levT (a.drop (lcp a b)) (b.drop (lcp a b)) mx
theorem levS_swap {a b : List Nat} {mx : Int} (ha : 0 < a.length) (hb : 0 < b.length) (h : b.length < a.length) : levS a b mx = levD b a mx := by
  unfold levS
  rw [if_neg (by rintro (rfl | rfl) <;> simp at *), if_pos h]
theorem levS_stay {a b : List Nat} {mx : Int} (ha : 0 < a.length) (hb : 0 < b.length) (h : ¬ b.length < a.length) : levS a b mx = levD a b mx := by
  unfold levS
  rw [if_neg (by rintro (rfl | rfl) <;> simp at *), if_neg h]
theorem fr_known {h₀ h : Heap} {L : Addr} {m : Str → Option Value} (ps : List (Str × Value)) (F : Fr h₀ L h m) (h1 : ∀ p ∈ ps, m p.1 = some p.2) : Fr h₀ L h (kstB m ps) := by
  have : kstB m ps = m := by
    funext z
    exact kstB_eq h1 fun _ => rfl
  rw [this]
  exact F
/-- what «e or None» gives -/
def orN (z : Int) (t : Tok) : Value := if z = 0 then .none else .int z t
def OrNPost (Q : Value → Shared → Prop) (v : Value) (s : Shared) : Prop := match v with
  | .int z t => Q (orN z t) s
  | _ => False
theorem or_none {prog : Program} {w : World} {A : Around} {E : Value → Shared → Prop} {s : Shared} {env : Env} {n : Str} {pn p2 pos : Pos} {k : Nat} {Q : Value → Shared → Prop}
    (h : wpAny (model prog w) A (eval (.Name n pn) env) (OrNPost Q) E s) : wpAny (model prog w) A (eval (.BoolOp .Or [.Name n pn, .Constant .none k p2] pos) env) Q E s := by
  refine BoolOp_or (wpAny_mono h (fun v s₁ h₁ => ?_) fun _ _ e => e)
  match v, h₁ with
  | .int z t, h₁ =>
    refine PyProof.Rows.truthy_int ?_
    have h2 : Q (orN z t) s₁ := h₁
    unfold orN at h2
    by_cases hz : z = 0
    · subst hz
      rw [if_pos rfl] at h2
      simp only [bne_self_eq_false, Bool.false_eq_true, if_false]
      exact BoolOp_one (wpAny_pure h2)
    · rw [if_neg hz] at h2
      have : (z != 0) = true := by simpa using hz
      simp only [this, if_true]
      exact h2
/-- a text of these signs -/
def mk (l : List Nat) : Str := ⟨l.toArray⟩
theorem mk_of (x : Str) : mk x.cps.toList = x := by cases x; rfl
theorem mk_length (l : List Nat) : (mk l).length = l.length := by simp [mk, Str.length]
theorem mk_list (l : List Nat) : (mk l).cps.toList = l := by simp [mk]
theorem mk_eq {a b : List Nat} : (mk a == mk b) = decide (a = b) := by
  by_cases h : a = b
  · subst h; simp
  · have : ¬ mk a = mk b := fun e => h (by have := congrArg (fun x : Str => x.cps.toList) e; simpa [mk] using this)
    simp [h, this]
theorem slice_sn (l : List Nat) (p : Nat) (hp : p ≤ l.length) : Txt.slice (mk l) (some (p : Int)) none = mk (l.drop p) := by
  have := StrLaws.sliceText_from (x := mk l) (i := (p : Int)) ⟨by omega, by rw [mk_list]; omega⟩
  rw [mk_list] at this
  refine Eq.trans this ?_
  unfold mk
  congr 1
  rw [Int.toNat_natCast, List.take_of_length_le (by rw [List.length_drop]; omega)]
theorem slice_nn (x : Str) : Txt.slice x none none = x := by
  have e : (Builtin.Str.strSliceIndices none none 1 x.length).length = x.length := by
    rw [StrLaws.sliceIdx_none_lo, StrLaws.sliceIdx_none_hi, show (some (0 : Int)) = some ((0 : Nat) : Int) from rfl, StrLaws.strSliceIndices_plain (a := 0) (b := x.length) (Nat.zero_le _) (Nat.le_refl _)]
    simp
  unfold Txt.slice
  rw [e]
  simp
theorem slice_ns (l : List Nat) (q : Nat) (hq : q ≤ l.length) (h0 : 0 < q) : Txt.slice (mk l) none (some (-(q : Int))) = mk (l.take (l.length - q)) := by
  have e : Txt.slice (mk l) none (some (-(q : Int))) = StrLaws.sliceText (mk l) none (some ((l.length - q : Nat) : Int)) := by
    show StrLaws.sliceText (mk l) none (some (-(q : Int))) = _
    unfold StrLaws.sliceText
    have : Builtin.Str.strSliceIndices none (some (-(q : Int))) 1 (mk l).length = Builtin.Str.strSliceIndices none (some ((l.length - q : Nat) : Int)) 1 (mk l).length := by
      rw [mk_length]
      unfold Builtin.Str.strSliceIndices
      have a1 : -(q : Int) < 0 := by omega
      have a2 : ¬ ((l.length - q : Nat) : Int) < 0 := by omega
      simp only [a1, a2, if_true, if_false]
      congr 1
      have : (-(q : Int) + (l.length : Int)) = ((l.length - q : Nat) : Int) := by omega
      rw [this]
    rw [this]
  rw [e, StrLaws.sliceText_to ⟨by omega, by rw [mk_list]; omega⟩, mk_list]
  unfold mk
  congr 2
theorem lcp_le : ∀ a b : List Nat, lcp a b ≤ a.length ∧ lcp a b ≤ b.length
  | [], b => by cases b <;> simp [lcp]
  | x :: a, [] => by simp [lcp]
  | x :: a, y :: b => by
    unfold lcp
    split
    · have := lcp_le a b; simp only [List.length_cons]; omega
    · simp
theorem lcp_step : ∀ (a b : List Nat) (p : Nat), p ≤ lcp a b → p < a.length → p < b.length → a.getD p 0 = b.getD p 0 → p + 1 ≤ lcp a b
  | [], _, _, _, h, _, _ => absurd h (Nat.not_lt_zero _)
  | _ :: _, [], _, _, _, h, _ => absurd h (Nat.not_lt_zero _)
  | x :: a, y :: b, 0, _, _, _, e => by
    have e' : x = y := e
    unfold lcp
    rw [if_pos e']
    omega
  | x :: a, y :: b, p + 1, h, h1, h2, e => by
    unfold lcp at h ⊢
    split
    · rename_i hx
      rw [if_pos hx] at h
      have := lcp_step a b p (by omega) (by simpa using h1) (by simpa using h2) (by simpa using e)
      omega
    · rename_i hx
      rw [if_neg hx] at h
      omega
theorem lcp_stop : ∀ (a b : List Nat) (p : Nat), p ≤ lcp a b → p < a.length → p < b.length → ¬ a.getD p 0 = b.getD p 0 → lcp a b = p
  | [], _, _, _, h, _, _ => absurd h (Nat.not_lt_zero _)
  | _ :: _, [], _, _, _, h, _ => absurd h (Nat.not_lt_zero _)
  | x :: a, y :: b, 0, _, _, _, e => by
    have e' : ¬ x = y := e
    unfold lcp
    rw [if_neg e']
  | x :: a, y :: b, p + 1, h, h1, h2, e => by
    unfold lcp at h ⊢
    split
    · rename_i hx
      rw [if_pos hx] at h
      have := lcp_stop a b p (by omega) (by simpa using h1) (by simpa using h2) (by simpa using e)
      omega
    · rename_i hx
      rw [if_neg hx] at h
      omega
section
variable {prog : Program} {w : World} {A : Around} {E : Value → Shared → Prop} {s : Shared} {h₀ : Heap} {L : Addr} {m : Str → Option Value} {news : List (Addr × Obj)} {l : List Nat} {t : Tok} {value slice : PySem.Expr}
theorem mk_truthy {Q : Bool → Shared → Prop} (hl : l.length ≤ 3000) (h : Q (decide (0 < l.length)) { s with toks := s.toks + 1 + 1 }) : wpAny (model prog w) A (truthy (.str (mk l) t)) Q E s := by
  refine P.truthy_str (by rw [mk_length]; omega) ?_
  rw [mk_length]
  have : ((l.length : Int) != 0) = decide (0 < l.length) := by
    cases l with
    | nil => rfl
    | cons a r => simp; omega
  rw [this]; exact h
theorem mk_sn {p : Nat} {up : Tok} {Q : Value → Shared → Prop} (hF : Fr h₀ L s.heap m) (hN : News h₀ L s.heap news) (hl : l.length ≤ 3000) (hp : p ≤ l.length) (h : ∀ h' t' k, Fr h₀ L h' m → News h₀ L h' news → Q (.str (mk (l.drop p)) t') { s with heap := h', toks := k })
    (hs : subscripted slice false (.str (mk l) t) (.ref s.heap.objs.size) = operate [.ref s.heap.objs.size, .str (mk l) t] (getItem (.str (mk l) t) (.ref s.heap.objs.size)) := by with_unfolding_all rfl)
    (ht : ∀ r, letTemporaryGo value (.str (mk l) t) r = pure () := by intro _; with_unfolding_all rfl) :
    wpAny (model prog w) A (subscriptTail value slice (.str (mk l) t) (.ref s.heap.objs.size)) Q E { s with heap := s.heap.push { cls := .type "slice", data := .fields #[.int (p : Int) up, .none, .none] } } :=
  slice_strN_sn hF hN (fun h' t' k F N => by rw [slice_sn l p hp]; exact h h' t' k F N) hs ht (by rw [mk_length, sizeLine_eq]; omega)
theorem mk_ns {q : Nat} {z : Int} {up : Tok} {Q : Value → Shared → Prop} (hz : z = -(q : Int)) (hF : Fr h₀ L s.heap m) (hN : News h₀ L s.heap news) (hl : l.length ≤ 3000) (hq : q ≤ l.length) (h : ∀ h' t' k, Fr h₀ L h' m → News h₀ L h' news → Q (.str (mk (l.take (l.length - q))) t') { s with heap := h', toks := k })
    (hs : subscripted slice false (.str (mk l) t) (.ref s.heap.objs.size) = operate [.ref s.heap.objs.size, .str (mk l) t] (getItem (.str (mk l) t) (.ref s.heap.objs.size)) := by with_unfolding_all rfl)
    (ht : ∀ r, letTemporaryGo value (.str (mk l) t) r = pure () := by intro _; with_unfolding_all rfl) :
    wpAny (model prog w) A (subscriptTail value slice (.str (mk l) t) (.ref s.heap.objs.size)) Q E { s with heap := s.heap.push { cls := .type "slice", data := .fields #[.none, orN z up, .none] } } := by
  by_cases h0 : q = 0
  · subst h0
    have e : orN z up = .none := by unfold orN; rw [if_pos (by omega)]
    rw [e]
    refine slice_strN_nn hF hN (fun h' t' k F N => ?_) hs ht (by rw [mk_length, sizeLine_eq]; omega)
    rw [slice_nn (mk l)]
    have := h h' t' k F N
    rw [Nat.sub_zero, List.take_length] at this
    exact this
  · have e : orN z up = .int (-(q : Int)) up := by unfold orN; rw [if_neg (by omega), hz]
    rw [e]
    exact slice_strN_ns hF hN (fun h' t' k F N => by rw [slice_ns l q hq (by omega)]; exact h h' t' k F N) hs ht (by rw [mk_length, sizeLine_eq]; omega)
theorem mk_item {i : Int} {j : Nat} {u : Tok} {Q : Value → Shared → Prop} (hj : j < l.length) (hij : i = (j : Int) ∨ i = (j : Int) - l.length) (hl : l.length ≤ 3000) (h : ∀ t' k, Q (.str ⟨#[l.getD j 0]⟩ t') { s with toks := k })
    (hs : subscripted slice false (.str (mk l) t) (.int i u) = operate [.str (mk l) t, .int i u] (getItem (.str (mk l) t) (.int i u)) := by with_unfolding_all rfl)
    (ht : ∀ r, letTemporaryGo value (.str (mk l) t) r = pure () := by intro _; with_unfolding_all rfl) :
    wpAny (model prog w) A (subscriptTail value slice (.str (mk l) t) (.int i u)) Q E s := by
  have e : Txt.item (mk l) i = ⟨#[l.getD j 0]⟩ := by
    unfold Txt.item Txt.charAt
    have hx : (seqIndex? i (mk l).length) = some j := by
      rw [mk_length]
      unfold seqIndex?
      rcases hij with e | e
      · have a : ¬ i < 0 := by omega
        simp [a]; omega
      · have a : i < 0 := by omega
        simp [a]; omega
    rw [hx]
    simp [mk, hj]
  refine item_str (by rcases hij with e | e <;> (unfold fitsSsize; simp; omega)) (by rw [mk_length]; omega) (by rw [mk_length]; omega) (fun _ => ?_) hs ht
  rw [e]
  exact h _ _
theorem mk_truthy_drop {p : Nat} {Q : Bool → Shared → Prop} (hl : l.length ≤ 3000) (h : Q (decide (p < l.length)) { s with toks := s.toks + 1 + 1 }) : wpAny (model prog w) A (truthy (.str (mk (l.drop p)) t)) Q E s := by
  refine mk_truthy (by rw [List.length_drop]; omega) ?_
  have e : decide (0 < (l.drop p).length) = decide (p < l.length) := by rw [List.length_drop]; congr 1; exact propext ⟨fun h => by omega, fun h => by omega⟩
  rw [e]; exact h
theorem mk_truthy_take {q : Nat} {Q : Bool → Shared → Prop} (hl : l.length ≤ 3000) (h : Q (decide (q < l.length)) { s with toks := s.toks + 1 + 1 }) : wpAny (model prog w) A (truthy (.str (mk (l.take (l.length - q))) t)) Q E s := by
  refine mk_truthy (by rw [List.length_take]; omega) ?_
  have e : decide (0 < (l.take (l.length - q)).length) = decide (q < l.length) := by rw [List.length_take]; congr 1; exact propext ⟨fun h => by omega, fun h => by omega⟩
  rw [e]; exact h
theorem mk_itemP {j : Nat} {u : Tok} {Q : Value → Shared → Prop} (hj : j < l.length) (hl : l.length ≤ 3000) (h : ∀ t' k, Q (.str ⟨#[l.getD j 0]⟩ t') { s with toks := k })
    (hs : subscripted slice false (.str (mk l) t) (.int (j : Int) u) = operate [.str (mk l) t, .int (j : Int) u] (getItem (.str (mk l) t) (.int (j : Int) u)) := by with_unfolding_all rfl)
    (ht : ∀ r, letTemporaryGo value (.str (mk l) t) r = pure () := by intro _; with_unfolding_all rfl) :
    wpAny (model prog w) A (subscriptTail value slice (.str (mk l) t) (.int (j : Int) u)) Q E s := mk_item hj (.inl rfl) hl h hs ht
theorem mk_itemR {z : Int} {q : Nat} {u : Tok} {Q : Value → Shared → Prop} (hz : z = -(q : Int)) (hq : q < l.length) (hl : l.length ≤ 3000) (h : ∀ t' k, Q (.str ⟨#[l.reverse.getD q 0]⟩ t') { s with toks := k })
    (hs : subscripted slice false (.str (mk l) t) (.int (z - 1) u) = operate [.str (mk l) t, .int (z - 1) u] (getItem (.str (mk l) t) (.int (z - 1) u)) := by with_unfolding_all rfl)
    (ht : ∀ r, letTemporaryGo value (.str (mk l) t) r = pure () := by intro _; with_unfolding_all rfl) :
    wpAny (model prog w) A (subscriptTail value slice (.str (mk l) t) (.int (z - 1) u)) Q E s := by
  refine mk_item (j := l.length - 1 - q) (by omega) (.inr (by omega)) hl (fun t' k => ?_) hs ht
  have e : l.getD (l.length - 1 - q) 0 = l.reverse.getD q 0 := by
    rw [List.getD_eq_getElem?_getD, List.getD_eq_getElem?_getD, List.getElem?_reverse hq]
  rw [e]
  exact h t' k
theorem mk_len {Q : Value → Shared → Prop} (hl : l.length ≤ 3000) (h : Q (.int (l.length : Int) (s.toks + 1)) { s with toks := s.toks + 1 + 1 }) : wpAny (model prog w) A (call (.builtin "len") [.str (mk l) t]) Q E s :=
  P.len_str (by rw [mk_length]; omega) (by rw [mk_length]; exact h)
end

end
section
open PySem PySem.W PyProof.Rows PySem.Spec PySem.Calls
theorem ints_step2 : ∀ (vs : List Value) (a : Int) (n : Nat), vs.length = n → (∀ (j : Nat) (v : Value), vs[j]? = some v → ∃ t, v = .int (a + j * 2) t) → IntsAre vs ((List.range n).map fun k : Nat => a + 2 * (k : Int))
  | [], a, n, e, _ => by
    subst e
    exact IntsAre.nil
  | v :: r, a, n, e, h => by
    subst e
    have e2 : ((List.range (v :: r).length).map fun k : Nat => a + 2 * (k : Int)) = a :: ((List.range r.length).map fun k : Nat => (a + 2) + 2 * (k : Int)) := by
      rw [List.length_cons, List.range_succ_eq_map, List.map_cons, List.map_map]
      congr 1
      · simp
      · apply List.map_congr_left
        intro k _
        simp only [Function.comp, Nat.succ_eq_add_one, Int.natCast_add, Int.natCast_one]
        omega
    rw [e2]
    obtain ⟨t, ht⟩ := h 0 v rfl
    have hv : v = .int a t := by rw [ht]; simp
    subst hv
    refine IntsAre.cons _ _ (ints_step2 r (a + 2) r.length rfl fun j v hj => ?_)
    obtain ⟨t', ht'⟩ := h (j + 1) v hj
    refine ⟨t', ht'.trans ?_⟩
    congr 1
    omega
theorem rowOf_eq (n : Nat) : rowOf n = (List.range n).map fun k : Nat => (2 : Int) + 2 * (k : Int) := by
  unfold rowOf
  apply List.map_congr_left
  intro k _
  omega
section
variable {prog : Program} {w : World} {A : Around} {E : Value → Shared → Prop} {s : Shared} {h₀ : Heap} {L : Addr} {m : Str → Option Value} {news : List (Addr × Obj)}
theorem list_range2 {r : Addr} {n : Nat} {t₀ u₀ v₀ : Tok} {Q : Value → Shared → Prop} (hh : A.handled = none) (F : Fr h₀ L s.heap m) (N : News h₀ L s.heap news) (hr : IsRange s.heap r 2 (2 * ((n : Int) + 1)) 2 t₀ u₀ v₀) (hz : n ≤ 3000)
    (h : ∀ D us c h' tk, Fr h₀ L h' m → News h₀ L h' ((D, listOf (List.toArray us) c) :: news) → (∀ p ∈ news, p.1 < D) → IntsAre us (rowOf n) → Q (.ref D) { s with heap := h', toks := tk }) :
    wpAny (model prog w) A (call (.type "list") [.ref r]) Q E s := by
  have hn : Builtin.Range.rangeSize 2 (2 * ((n : Int) + 1)) 2 = (n : Int) := by
    unfold Builtin.Range.rangeSize
    rw [if_pos (by decide)]
    split <;> omega
  have hsmall : Builtin.Range.small 2 (2 * ((n : Int) + 1)) 2 = true := by
    have f : ∀ i : Int, -(2 ^ 63) ≤ i → i < 2 ^ 63 → Builtin.Range.rangeFitsLong i = true := fun i a b => by unfold Builtin.Range.rangeFitsLong; rw [Bool.and_eq_true, decide_eq_true_eq, decide_eq_true_eq]; exact ⟨a, b⟩
    unfold Builtin.Range.small
    rw [hn, f 2 (by decide) (by decide), f _ (by omega) (by omega), f (n : Int) (by omega) (by omega), if_pos (by decide), f _ (by omega) (by omega)]
    simp
  refine call_list_range hh hr hsmall hn (by omega) fun h' tk acc c hk hD hI => ?_
  have hD' : h'.get? s.heap.objs.size = some (listOf (List.toArray acc.toList) c) := by
    rw [Array.toArray_toList]
    exact hD
  refine h _ acc.toList c h' tk (F.keeps hk) (news_pushed F N hk hD' rfl) (fun p hp => Heap.lt_size (N p hp).1) ?_
  rw [rowOf_eq]
  exact ints_step2 _ _ _ (by rw [Array.length_toList]; exact hI.1) fun j v hj => hI.2 j v (by rw [← hj, Array.getElem?_toList])
end
/-- the iterator of range(a, a + n) behind i steps -/
def rgA (a i n : Int) : Obj := { cls := .type "range_iterator", data := .fields #[rawInt (a + i), rawInt (n - i), rawInt 1] }
theorem rga_size (a : Int) (n : Nat) : Builtin.Range.rangeSize a (a + (n : Int)) 1 = (n : Int) := by
  unfold Builtin.Range.rangeSize
  simp
  split <;> omega
section
variable {prog : Program} {w : World} {A : Around} {E : Value → Shared → Prop} {s : Shared} {env : Env} {h₀ : Heap} {L : Addr}
theorem rga_for {a b : Int} (ha : -1000000 < a) (ha2 : a < 1000000)  {v : Str} {px pos : Pos} {iter : Expr} {body : List Stmt} {Q : Flow → Shared → Prop} (J : Nat → (Str → Option Value) → List (Addr × Obj) → Prop) {n : Nat} (hh : A.handled = none)
    (h : wpAny (model prog w) A (eval iter env) (fun xv s₁ => CiStop (∃ h₁ tk r t u w' m news, s₁ = { s with heap := h₁, toks := tk } ∧ xv = .ref r ∧ IsRange h₁ r a b 1 t u w' ∧ b = a + (n : Int) ∧ n ≤ 3000 ∧ Fr h₀ L h₁ m ∧ News h₀ L h₁ news ∧ J 0 m news)) E s)
    (turn : ∀ i I h' tk ti m news, i < n → J i m news → Sep I news → Fr h₀ L h' m → News h₀ L h' ((I, rgA a ((i + 1 : Nat) : Int) (n : Int)) :: news) →
      wpAny (model prog w) A (storeName env v (.int (a + (i : Int)) ti)) (fun _ s₂ => wpAny (model prog w) A (execs body env) (OwitFlow Q (fun s₃ => CiStop (∃ h' tk m' news', s₃ = { s with heap := h', toks := tk } ∧ Fr h₀ L h' m' ∧ News h₀ L h' ((I, rgA a ((i + 1 : Nat) : Int) (n : Int)) :: news') ∧ Sep I news' ∧ J (i + 1) m' news'))) E s₂) E { s with heap := h', toks := tk })
    (done : ∀ h' tk m news, J n m news → Fr h₀ L h' m → News h₀ L h' news → Q .next { s with heap := h', toks := tk })
    (hs : ∀ x, foldedSetIterable iter env x = pure x := by intro _; rfl) (hE : PassesOwn (model prog w) A env E := by passes_own) :
    wpAny (model prog w) A (exec (.For (.Name v px) iter body [] pos) env) Q E s := by
  refine wpAny_For (wpAny_mono h (fun xv s₁ h₁ => ?_) fun _ _ z => z) hs
  obtain ⟨h₁, tk, r, t, u, w', m, news, rfl, rfl, hr, rfl, hn, F, N, hJ⟩ := h₁
  refine wpAny_pyIter_range hr (small_one (by omega) (by omega) (by omega) (by omega)) ?_
  refine codeAny_forLoop (R := fun r s' => match r with | .ok f => Q f s' | .error e => cameBackBy (model prog w) A env E e s')
    (fun k s' => ∃ i h' tk' m' news', s' = { s with heap := h', toks := tk' } ∧ k = n - i ∧ i ≤ n ∧ Fr h₀ L h' m' ∧ News h₀ L h' ((h₁.objs.size, rgA a ((i : Nat) : Int) (n : Int)) :: news') ∧ Sep h₁.objs.size news' ∧ J i m' news') ?_ n ⟨0, _, tk, m, news, rfl, by omega, Nat.zero_le _, F.push _, ?_, ?_, hJ⟩
  · rintro k s' ⟨i, h', tk', m', news', rfl, rfl, hi, F', N', S', hJ'⟩
    have z := N' _ (.head _)
    refine wpAny_passesOwn hE ?_
    by_cases hlt : i < n
    · refine wpAny_pyNext_range_item z.1 (by omega) fun h₂ hit₂ hs₂ => ?_
      have ei : ((i + 1 : Nat) : Int) = (i : Int) + 1 := by omega
      have ea : a + ((i : Int) + 1) = a + (i : Int) + 1 := by omega
      have hit' : h₂.get? h₁.objs.size = some (rgA a ((i + 1 : Nat) : Int) (n : Int)) := by
        rw [hit₂]
        unfold rgA
        rw [ei, ea]
        have : (n : Int) - (i : Int) - 1 = (n : Int) - ((i : Int) + 1) := by omega
        rw [this]
      refine wpAny_passesOwn hE (wpAny_assign_Name (wpAny_mono (turn i h₁.objs.size h₂ _ _ m' news' hlt hJ' S' (F'.change hs₂ z.2.1 z.2.2) (news_set (pre := []) N' (fun _ h => nomatch h) (fun p hp => (S' p hp).h) hs₂ hit')) (fun _ s₂ h₂ => ?_) fun _ _ z => z))
      refine wpAny_passesOwn hE (wpAny_mono h₂ (fun f s₃ h₃ => ?_) fun _ _ z => z)
      cases f with
      | next =>
        obtain ⟨h', tk, m2, news2, rfl, F2, N2, S2, hJ2⟩ := h₃
        exact ⟨n - (i + 1), by omega, i + 1, h', tk, m2, news2, rfl, rfl, by omega, F2, N2, S2, hJ2⟩
      | cont =>
        obtain ⟨h', tk, m2, news2, rfl, F2, N2, S2, hJ2⟩ := h₃
        exact ⟨n - (i + 1), by omega, i + 1, h', tk, m2, news2, rfl, rfl, by omega, F2, N2, S2, hJ2⟩
      | brk => exact h₃
      | ret _ => exact h₃
    · have hin : i = n := by omega
      subst hin
      refine wpAny_pyNext_range_end hh z.1 (by omega) fun h₂ he₂ => wpAny_execs_nil ?_
      exact done h₂ _ m' news' hJ' (fr_but F' he₂ z.2.2 z.2.1.symm) (news_but N' he₂ news' (fun p hp => .tail _ hp) fun p hp => (S' p hp).h)
  · have e2 : Builtin.Range.rangeSize a (a + (n : Int)) 1 = (n : Int) := rga_size a n
    have := News.push F N { cls := .type "range_iterator", data := .fields #[rawInt a, rawInt (Builtin.Range.rangeSize a (a + (n : Int)) 1), rawInt 1] } rfl
    rw [e2] at this
    rw [e2]
    unfold rgA
    have e3 : a + ((0 : Nat) : Int) = a := by omega
    have e4 : (n : Int) - ((0 : Nat) : Int) = (n : Int) := by omega
    rw [e3, e4]
    exact this
  · exact fun p hp => ⟨Nat.ne_of_lt (Heap.lt_size (N p hp).1)⟩
end
section
variable {prog : Program} {w : World} {A : Around} {E : Value → Shared → Prop} {s : Shared} {env : Env} {h₀ : Heap} {L : Addr}
theorem rg_for {v : Str} {px pos : Pos} {iter : Expr} {body : List Stmt} {Q : Flow → Shared → Prop} (J : Nat → (Str → Option Value) → List (Addr × Obj) → Prop) {n : Nat} (hh : A.handled = none)
    (h : wpAny (model prog w) A (eval iter env) (fun xv s₁ => CiStop (∃ h₁ tk r t u w' m news, s₁ = { s with heap := h₁, toks := tk } ∧ xv = .ref r ∧ IsRange h₁ r 0 (n : Int) 1 t u w' ∧ n ≤ 3000 ∧ Fr h₀ L h₁ m ∧ News h₀ L h₁ news ∧ J 0 m news)) E s)
    (turn : ∀ i I h' tk ti m news, i < n → J i m news → Sep I news → Fr h₀ L h' m → News h₀ L h' ((I, rgObj ((i + 1 : Nat) : Int) (n : Int)) :: news) →
      wpAny (model prog w) A (storeName env v (.int (i : Int) ti)) (fun _ s₂ => wpAny (model prog w) A (execs body env) (OwitFlow Q (fun s₃ => CiStop (∃ h' tk m' news', s₃ = { s with heap := h', toks := tk } ∧ Fr h₀ L h' m' ∧ News h₀ L h' ((I, rgObj ((i + 1 : Nat) : Int) (n : Int)) :: news') ∧ Sep I news' ∧ J (i + 1) m' news'))) E s₂) E { s with heap := h', toks := tk })
    (done : ∀ h' tk m news, J n m news → Fr h₀ L h' m → News h₀ L h' news → Q .next { s with heap := h', toks := tk })
    (hs : ∀ x, foldedSetIterable iter env x = pure x := by intro _; rfl) (hE : PassesOwn (model prog w) A env E := by passes_own) :
    wpAny (model prog w) A (exec (.For (.Name v px) iter body [] pos) env) Q E s := by
  have e : ∀ k : Int, rgA 0 k (n : Int) = rgObj k (n : Int) := fun k => by unfold rgA; rw [Int.zero_add]
  refine rga_for (a := 0) (b := (n : Int)) (by decide) (by decide) J hh (wpAny_mono h (fun xv s₁ z => ?_) fun _ _ z => z) (fun i I h' tk ti m news hi hJ hS F N => ?_) done hs hE
  · obtain ⟨h₁, tk, r, t, u, w', m, news, e1, e2, hr, hn, F, N, hJ⟩ := z
    exact ⟨h₁, tk, r, t, u, w', m, news, e1, e2, hr, (Int.zero_add _).symm, hn, F, N, hJ⟩
  · rw [e] at N
    have := turn i I h' tk ti m news hi hJ hS F N
    rw [Int.zero_add, e]
    exact this
end

end
section

end
section
open PySem PySem.W PyProof.Rows PySem.Spec PySem.Calls
theorem ints_at : ∀ {vs : List Value} {ns : List Int}, IntsAre vs ns → ∀ {j : Nat} {v : Value}, vs[j]? = some v → ∃ n t, v = .int n t
  | _, _, .nil, _, _, h => by simp at h
  | _, _, .cons n t _, 0, v, h => ⟨n, t, by simpa using h.symm⟩
  | _, _, .cons _ _ r, j + 1, v, h => ints_at r (by simpa using h)
theorem ints_picked {vs : List Value} {ns : List Int} (h : IntsAre vs ns) (a b c : Option Int) : ∃ ns', IntsAre (slicePick vs.toArray a b c).toList ns' := by
  unfold slicePick
  rw [List.toList_toArray]
  generalize sliceRange _ _ _ = l
  induction l with
  | nil => exact ⟨[], .nil⟩
  | cons j r ih =>
    obtain ⟨ns', ih⟩ := ih
    cases e : vs.toArray[j]? with
    | none => exact ⟨ns', by rw [List.filterMap_cons, e]; exact ih⟩
    | some v =>
      obtain ⟨n, t, rfl⟩ := ints_at h (j := j) (v := v) (by simpa using e)
      exact ⟨n :: ns', by rw [List.filterMap_cons, e]; exact .cons n t ih⟩
section
variable {prog : Program} {w : World} {A : Around} {E : Value → Shared → Prop} {s : Shared} {h₀ : Heap} {L : Addr} {m : Str → Option Value} {news : List (Addr × Obj)}
theorem sum_picked {D : Addr} {vs : List Value} {ns : List Int} {a b c : Option Int} {Q : Value → Shared → Prop} (hh : A.handled = none) (F : Fr h₀ L s.heap m) (N : News h₀ L s.heap ((D, ({ cls := .type "list", data := .seq (slicePick vs.toArray a b c) } : Obj)) :: news)) (hi : IntsAre vs ns)
    (h : ∀ (S : Int) h' tk t', Fr h₀ L h' m → News h₀ L h' news → Q (.int S t') { s with heap := h', toks := tk }) : wpAny (model prog w) A (call (.builtin "sum") [.ref D]) Q E s := by
  obtain ⟨ns', hi'⟩ := ints_picked hi a b c
  exact LSm.sum_ints F N hh (vs := (slicePick vs.toArray a b c).toList) (PySem.IsL.isList (n := 0) (by rw [Array.toArray_toList]; exact (N _ (.head _)).1)) hi' fun h' tk t' F' N' => h _ h' tk t' F' (fun p hp => N' p (.tail _ hp))
end
section
variable {prog : Program} {w : World} {A : Around} {h₀ : Heap} {L : Addr} {m : Str → Option Value} {env : Env} {elt : Expr} {x : Str} {scope : Scope} {cl : List (Str × Addr)} {s : Shared} {S : List (Addr × Obj) → Prop} {Fin : List Value → List (Addr × Obj) → Prop} {news : List (Addr × Obj)}
/-- a comprehension over range(n): what is known of each item -/
theorem cx_range {n : Nat} (El : Nat → Value → Prop)
    (turn : ∀ (k : Nat) t I oI C oC D m₂ ys h tk (E' : Value → Shared → Prop), k < n → LCg.NsObj oC m₂ → m₂ x = some (.int (0 + (k : Int)) t) → Fr h₀ L h m → News h₀ L h ((I, oI) :: (C, oC) :: (D, LCg.lst ys) :: news) → LCg.Off3 I C D news → ((@Ne Nat I C) ∧ (@Ne Nat I D) ∧ (@Ne Nat C D)) →
      wpAny (model prog w) A (eval elt (compEnvC scope cl C env)) (fun y s₂ => CiStop (LCg.CompEnd h₀ L m { s with heap := h, toks := tk } I oI C oC D (LCg.lst ys) S (fun y news' => news' = news ∧ El k y) y s₂)) E' { s with heap := h, toks := tk })
    (fin : ∀ ys, ys.length = n → (∀ k v, ys[k]? = some v → El k v) → Fin ys news) : LCg.CompRest prog w A h₀ L m env elt x scope cl s S (fun i v => ∃ t, v = .int (0 + (i : Int)) t) Fin n 0 [] news := by
  have key : ∀ (j i : Nat) (ys : List Value), i + j = n → ys.length = i → (∀ k v, ys[k]? = some v → El k v) → LCg.CompRest prog w A h₀ L m env elt x scope cl s S (fun i v => ∃ t, v = .int (0 + (i : Int)) t) Fin j i ys news := by
    intro j
    induction j with
    | zero =>
      intro i ys hi hl hy
      exact LCg.CompRest.zero (fin ys (by omega) hy)
    | succ j ih =>
      intro i ys hi hl hy
      refine LCg.CompRest.succ ?_
      intro v I oI C oC D m₂ h tk E' hv hC hx F N off ne
      obtain ⟨t, hv'⟩ := hv
      rw [hv'] at hx
      refine wpAny_mono (turn i t I oI C oC D m₂ ys h tk E' (by omega) hC hx F N off ne) (fun y s₂ hq => ?_) fun _ _ e => e
      obtain ⟨h', tk', nw, e, F', N', off', hS, hn, hE⟩ := hq.out
      rw [hn] at N' off' hS
      refine ⟨h', tk', news, e, F', N', off', hS, ih (i + 1) _ (by omega) (by simp [hl]) fun k v hk => ?_⟩
      by_cases hkl : k < ys.length
      · rw [List.getElem?_append_left hkl] at hk
        exact hy k v hk
      · rw [List.getElem?_append_right (by omega)] at hk
        have : k = ys.length := by
          cases hd : k - ys.length with
          | zero => omega
          | succ d => rw [hd] at hk; simp at hk
        subst this
        rw [Nat.sub_self] at hk
        simp at hk
        subst hk
        rw [hl]
        exact hE
  exact key n 0 [] (by omega) rfl (by simp)
end
section
variable {h₀ : Heap} {L : Addr} {m : Str → Option Value} {s : Shared} {ys : List Value} {news : List (Addr × Obj)}
theorem off1_sep {D : Addr} : ∀ {l : List (Addr × Obj)}, LCg.Off1 D l → Sep D l
  | [], _ => fun _ h => nomatch h
  | p :: r, h => fun q hq => by
    rcases List.mem_cons.mp hq with rfl | hq
    · exact ⟨h.1⟩
    · exact off1_sep h.2 q hq
theorem finE_sep {Q : Value → Shared → Prop} (h : ∀ D h tk, Fr h₀ L h m → News h₀ L h ((D, LCg.lst ys) :: news) → Sep D news → Q (.ref D) { s with heap := h, toks := tk }) : LCg.FinE h₀ L m s Q ys news := fun D g tk F N o => h D g tk F N (off1_sep o)
theorem finA_sep {y : Str} {Q : Flow → Shared → Prop} (h : ∀ D h tk, Fr h₀ L h (fun z => if z = y then some (.ref D) else m z) → News h₀ L h ((D, LCg.lst ys) :: news) → Sep D news → Q .next { s with heap := h, toks := tk }) : LCg.FinA h₀ L m s y Q ys news := fun D g tk F N o => h D g tk F N (off1_sep o)
end
theorem mulok_small {a b : Int} (ha : a.natAbs < 2 ^ 200) (hb : b.natAbs < 2 ^ 200) : IntMulOk a b := .of_le (m := 200) (n := 200) (PySem.intBits_le_iff.mpr ha) (PySem.intBits_le_iff.mpr hb) (by decide)
section
variable {prog : Program} {w : World} {A : Around} {E : Value → Shared → Prop} {s : Shared} {h₀ : Heap} {L D : Addr} {m : Str → Option Value} {news : List (Addr × Obj)}
end

end
section
open PySem PySem.W PyProof.Rows PySem.Spec PySem.Calls
/-! a list comprehension over a range whose own variable is kept in a cell (an inner comprehension reads it) -/
def cellO (v : Option Value) : Obj := { cls := .type "cell", data := .cell v }
def nsO : Obj := { cls := .type "dict", data := .dict #[] }
section
variable {M : Model} {A : Around} {E : Value → Shared → Prop} {s : Shared}
theorem newEnv_cell {scope : Scope} {globals builtins : Addr} {cl : List (Str × Addr)} {qual : Str} {func : Option Addr} {code : Value} {x : Str} {outer : Env} {Q : Env → Shared → Prop}
    (hce : ∀ k : Nat, cellsFrom k scope.names cl = (x, k) :: cl) (hpc : ∀ h : Heap, pushCells h scope.names = h.push (cellO none))
    (hQ : Q (newEnv scope s.heap.objs.size globals ((x, s.heap.objs.size + 1) :: cl) qual func code (some outer) builtins) { s with heap := (s.heap.push nsO).push (cellO none) }) :
    wpAny M A (newFunctionEnv scope globals cl [] qual func code (some outer) builtins) Q E s := by
  simp only [newFunctionEnv, Option.isSome_some, if_true]
  refine wpAny_bind (wpAny_alloc ?_)
  refine wpAny_bind (wpAny_layCells _ (fun name kind cells => by cases hkc : kind == NameKind.cell <;> simp [hkc]) _ _ _ _ ?_)
  rw [show ({ s with heap := s.heap.push { cls := .type "dict", data := .dict #[] } } : Shared).heap.objs.size = s.heap.objs.size + 1 from Heap.size_push ..]
  rw [hce, hpc]
  refine wpAny_bind ?_
  rw [List.forIn_nil]
  exact wpAny_pure (wpAny_pure hQ)
end
section
variable {prog : Program} {w : World} {A : Around} {E : Value → Shared → Prop} {s : Shared} {h₀ : Heap} {L : Addr} {m : Str → Option Value} {env : Env} {news : List (Addr × Obj)}
theorem blockC {elt iter : Expr} {x : Str} {px : Pos} {scope : Scope} {cl : List (Str × Addr)} {pos : Pos} {s₂ : Shared} {I : Addr} {n : Nat} {a : Int} (El : Nat → Value → Prop) {RR : Value → Addr → Result → Shared → Prop}
    (hh : A.handled = none) (hsz : n ≤ sizeLine) (hce : ∀ k : Nat, cellsFrom k scope.names cl = (x, k) :: cl) (hpc : ∀ h : Heap, pushCells h scope.names = h.push (cellO none))
    (hkind : scope.kind = .function) (hx : (relabel scope env).names.lookup x = some .cell)
    (hst : IsRangeIter s₂.heap I (a + (0 : Nat) * 1) ((n : Int) - (0 : Nat)) 1) (F : Fr h₀ L s₂.heap m) (N : News h₀ L s₂.heap news) (hIL : L ≠ I) (hI₀ : h₀.get? I = none) (off : ∀ p ∈ news, p.1 ≠ I)
    (turn : ∀ (k : Nat) t I oI C Z oZ D ys h tk (E' : Value → Shared → Prop), k < n → ys.length = k → oZ.data = .cell (some (.int (a + (k : Int)) t)) → Fr h₀ L h m → News h₀ L h ((I, oI) :: (C, nsO) :: (Z, oZ) :: (D, LCg.lst ys) :: news) →
      wpAny (model prog w) A (eval elt (compEnvC scope ((x, Z) :: cl) C env)) (fun y s' => CiStop (∃ h' tk', s' = { s₂ with heap := h', toks := tk' } ∧ Fr h₀ L h' m ∧ News h₀ L h' ((I, oI) :: (C, nsO) :: (Z, oZ) :: (D, LCg.lst ys) :: news) ∧ El k y)) E' { s₂ with heap := h, toks := tk })
    (hRR : ∀ D C h tk ys, ys.length = n → (∀ k v, ys[k]? = some v → El k v) → Fr h₀ L h m → News h₀ L h ((D, LCg.lst ys) :: news) → (∀ p ∈ news, @LT.lt Nat _ p.1 D) → h.get? C = some nsO → h₀.get? C = none → C ≠ L → C ≠ D → (∀ p ∈ news, p.1 ≠ C) → RR (.ref D) C (.ok .next) { s₂ with heap := h, toks := tk }) :
    wpAny (model prog w) A (newList []) (fun acc s₃ => wpAny (model prog w) A (newFunctionEnv scope env.globals cl [] env.qual none .none (some env)) (fun cenv s₄ =>
      codeAny (model prog w) A (.compStart (.ListComp elt [⟨.Name x px, iter, [], 0⟩] scope pos) 0 (.ref I) acc { cenv with scope := relabel scope env }) (RR acc cenv.locals) s₄) E s₃) E s₂ := by
  have W := LCg.range_walks (prog := prog) (w := w) (I := I) hh a n
  refine wpAny_newObj_type (newEnv_cell hce hpc ?_)
  dsimp only
  generalize hD : s₂.heap.objs.size = D
  have szP : ∀ (g : Heap) (o : Obj), (g.push o).objs.size = g.objs.size + 1 := fun g o => Heap.size_push ..
  generalize hH1 : s₂.heap.push ({ cls := .type "list", dict := none, data := .seq ([] : List Value).toArray } : Obj) = H1
  have s1 : H1.objs.size = D + 1 := by rw [← hH1, szP, hD]
  rw [s1]
  generalize hH3 : (H1.push nsO).push (cellO none) = H3
  have old : ∀ b o, s₂.heap.get? b = some o → H3.get? b = some o := fun b o e => by
    rw [← hH3]; exact Heap.get?_push_of_some _ (Heap.get?_push_of_some _ (hH1 ▸ Heap.get?_push_of_some _ e))
  have gD : H3.get? D = some (LCg.lst []) := by
    rw [← hH3]
    refine Heap.get?_push_of_some _ (Heap.get?_push_of_some _ ?_)
    rw [← hH1, ← hD]; exact Heap.get?_push_size _ rfl
  have gC : H3.get? (D + 1) = some nsO := by
    rw [← hH3, ← s1]
    exact Heap.get?_push_of_some _ (Heap.get?_push_size _ rfl)
  have gZ : H3.get? (D + 1 + 1) = some (cellO none) := by
    rw [← hH3]
    have : (H1.push nsO).objs.size = D + 1 + 1 := by rw [szP, s1]
    rw [← this]; exact Heap.get?_push_size _ rfl
  have lo : ∀ p ∈ news, @LT.lt Nat _ p.1 D := fun p hp => by rw [← hD]; exact Heap.lt_size (N p hp).1
  have fresh₀ : ∀ b, @LE.le Nat _ D b → h₀.get? b = none := fun b hb => by
    cases e : h₀.get? b with
    | none => rfl
    | some o' => exact absurd (Heap.lt_size (F.keep b o' e)) (by rw [hD]; exact Nat.not_lt.mpr hb)
  have hLlt : @LT.lt Nat _ L D := by rw [← hD]; exact F.ns.lt
  have hIlt : @LT.lt Nat _ I D := by
    have e : s₂.heap.get? I = some _ := hst
    rw [← hD]; exact Heap.lt_size e
  have hDn : @Ne Nat D (D + 1) := by omega
  have hkd : Env.kindOf (compEnvC scope ((x, D + 1 + 1) :: cl) (D + 1) env) x = some .cell := hx
  have neN : ∀ {b c : Addr}, ¬ @Eq Nat b c → b ≠ c := fun h e => h e
  have hnx : ∀ k : Nat, k ≤ 2 → ∀ p ∈ news, p.1 ≠ D + k := fun k hk p hp => neN (by have := lo p hp; omega)
  have loop : ∀ s₃ : Shared, s₃ = { s₂ with heap := H3, toks := s₂.toks } →
      codeAny (model prog w) A (.compLoop (.ListComp elt [⟨.Name x px, iter, [], 0⟩] scope pos) 0 (.ref I) (.ref D) (compEnvC scope ((x, D + 1 + 1) :: cl) (D + 1) env)) (RR (.ref D) (D + 1)) s₃ := by
    rintro s₃ rfl
    refine codeAny_compLoop_tests
      (fun k s' => ∃ h' tk i ys oZ cv, s' = { s₂ with heap := h', toks := tk } ∧ i ≤ n ∧ k = n + 1 - i ∧ ys.length = i ∧ (∀ k v, ys[k]? = some v → El k v) ∧ oZ.data = .cell cv ∧ IsRangeIter h' I (a + (i : Nat) * 1) ((n : Int) - (i : Nat)) 1 ∧ Fr h₀ L h' m ∧
        News h₀ L h' ((D + 1, nsO) :: (D + 1 + 1, oZ) :: (D, LCg.lst ys) :: news)) ?_ (n + 1)
      ⟨H3, _, 0, [], cellO none, none, rfl, Nat.zero_le _, rfl, rfl, by simp, rfl, W.frame _ _ _ hst fun b _ o e => old b o e, F.keeps old, ?_⟩
    · rintro k s' ⟨h', tk, i, ys, oZ, cv, rfl, hi, rfl, hyl, hys, hoZ, hst', F', N'⟩
      have offI : ∀ p ∈ ((D + 1, nsO) :: (D + 1 + 1, oZ) :: (D, LCg.lst ys) :: news : List (Addr × Obj)), p.1 ≠ I := fun p hp => by
        rcases List.mem_cons.mp hp with rfl | hp
        · exact neN (by show ¬ D + 1 = I; omega)
        · rcases List.mem_cons.mp hp with rfl | hp
          · exact neN (by show ¬ D + 1 + 1 = I; omega)
          · rcases List.mem_cons.mp hp with rfl | hp
            · exact neN (by show ¬ D = I; omega)
            · exact off p hp
      by_cases hlt : i < n
      · refine W.item i _ _ _ hlt hst' fun v h₂ tk₂ hPv hst₂ hk₂ => ?_
        obtain ⟨t, rfl⟩ := hPv
        have N₂ := LCg.news_but N' hk₂ offI
        have F₂ : Fr h₀ L h₂ m := LCg.fr_but F' hk₂ hIL hI₀
        have zz := N₂ _ (.tail _ (.head _))
        refine wpAny_assign_Name (wpAny_storeName_cell (c := D + 1 + 1) (v₀ := cv) hkind hkd (by simp [compEnvC]) ⟨_, zz.1, hoZ⟩ (fun h₃ hc₃ hs₃ => ?_))
        refine wpAny_tests_nil ?_
        simp only [if_true]
        obtain ⟨o, ho, hd⟩ := hc₃
        have hst₃ : IsRangeIter h₃ I (a + ((i + 1 : Nat) : Nat) * 1) ((n : Int) - ((i + 1 : Nat) : Nat)) 1 := W.frame _ _ _ hst₂ fun b hb o e => hs₃.extBut b o (by rw [List.mem_singleton.mp hb]; exact neN (by omega)) e
        have eI : h₃.get? I = some _ := hst₃
        have F₃ : Fr h₀ L h₃ m := F₂.change hs₃ zz.2.1 zz.2.2
        have N₃ : News h₀ L h₃ ((I, _) :: (D + 1, nsO) :: (D + 1 + 1, o) :: (D, LCg.lst ys) :: news) := fun p hp => by
          rcases List.mem_cons.mp hp with rfl | hp
          · exact ⟨eI, Ne.symm hIL, hI₀⟩
          · rcases List.mem_cons.mp hp with rfl | hp
            · have z := N₂ _ (.head _)
              exact ⟨hs₃.extBut _ _ (neN (by show ¬ D + 1 = D + 1 + 1; omega)) z.1, z.2⟩
            · rcases List.mem_cons.mp hp with rfl | hp
              · exact ⟨ho, zz.2⟩
              · have z := N₂ p (.tail _ (.tail _ hp))
                refine ⟨hs₃.extBut _ _ ?_ z.1, z.2⟩
                rcases List.mem_cons.mp hp with rfl | hp
                · exact neN (by show ¬ D = D + 1 + 1; omega)
                · exact hnx 2 (by omega) p hp
        refine wpAny_mono (turn i t I _ (D + 1) (D + 1 + 1) o D ys h₃ _ _ hlt hyl hd F₃ N₃) (fun y s₄ h₄ => ?_) fun _ _ e => e
        obtain ⟨h₄, tk₄, rfl, F₄, N₄, hE⟩ := h₄.out
        have zD := (N₄ _ (.tail _ (.tail _ (.tail _ (.head _)))))
        refine append_at (hsz := by show ys.toArray.size ≤ sizeLine; rw [List.size_toArray, hyl]; omega) zD.1 fun h₅ hs₅ hD₅ => ?_
        refine ⟨n + 1 - (i + 1), by omega, h₅, tk₄, i + 1, ys ++ [y], o, _, rfl, hlt, rfl, by rw [List.length_append, List.length_singleton, hyl], ?_, hd, ?_, F₄.change hs₅ zD.2.1 zD.2.2, fun p hp => ?_⟩
        · intro k v hk
          by_cases hkl : k < ys.length
          · rw [List.getElem?_append_left hkl] at hk
            exact hys k v hk
          · rw [List.getElem?_append_right (by omega)] at hk
            have : k = ys.length := by
              cases hd : k - ys.length with
              | zero => omega
              | succ d => rw [hd] at hk; simp at hk
            subst this
            rw [Nat.sub_self] at hk
            simp at hk
            subst hk
            rw [hyl]
            exact hE
        · show h₅.get? I = some _
          exact hs₅.extBut _ _ (neN (by omega)) (N₄ _ (.head _)).1
        · rcases List.mem_cons.mp hp with rfl | hp
          · have z := N₄ _ (.tail _ (.head _))
            exact ⟨hs₅.extBut _ _ (neN (by show ¬ D + 1 = D; omega)) z.1, z.2⟩
          · rcases List.mem_cons.mp hp with rfl | hp
            · have z := N₄ _ (.tail _ (.tail _ (.head _)))
              exact ⟨hs₅.extBut _ _ (neN (by show ¬ D + 1 + 1 = D; omega)) z.1, z.2⟩
            · rcases List.mem_cons.mp hp with rfl | hp
              · exact ⟨hD₅.trans (congrArg some (LCg.lst_snoc ys y)), zD.2⟩
              · have z := N₄ p (.tail _ (.tail _ (.tail _ (.tail _ hp))))
                exact ⟨hs₅.extBut _ _ (hnx 0 (by omega) p hp) z.1, z.2⟩
      · obtain rfl : i = n := Nat.le_antisymm hi (Nat.not_lt.mp hlt)
        refine W.done _ _ _ hst' fun h₂ tk₂ hk₂ => ?_
        have N₂ := LCg.news_but N' hk₂ offI
        have zC := N₂ _ (.head _)
        exact hRR _ _ h₂ tk₂ ys hyl hys (LCg.fr_but F' hk₂ hIL hI₀) (fun p hp => N₂ p (.tail _ (.tail _ hp))) lo zC.1 zC.2.2 zC.2.1 (neN (by omega)) (hnx 1 (by omega))
    · intro p hp
      rcases List.mem_cons.mp hp with rfl | hp
      · exact ⟨gC, neN (by show ¬ D + 1 = L; omega), fresh₀ _ (by show @LE.le Nat _ D (D + 1); omega)⟩
      · rcases List.mem_cons.mp hp with rfl | hp
        · exact ⟨gZ, neN (by show ¬ D + 1 + 1 = L; omega), fresh₀ _ (by show @LE.le Nat _ D (D + 1 + 1); omega)⟩
        · rcases List.mem_cons.mp hp with rfl | hp
          · exact ⟨gD, neN (by show ¬ D = L; omega), fresh₀ _ (Nat.le_refl _)⟩
          · exact ⟨old _ _ (N p hp).1, (N p hp).2⟩
  exact codeAny_compStart_list (loop _ rfl) (W.self 0 _ _ _ (W.frame _ _ _ hst fun b _ o e => old b o e) (loop _ rfl))
theorem nsO_ns {h : Heap} {C : Addr} (e : h.get? C = some nsO) : h.Ns C fun _ => none := by
  have z := Heap.Ns.new (⟨#[], h.life⟩ : Heap) (.type "dict")
  obtain ⟨o, es, ep, e1, e2, e3, e4⟩ := z
  rw [Heap.get?_push_size _ rfl] at e1
  cases e1
  exact ⟨nsO, es, ep, e, e2, e3, e4⟩
/-- what a comprehension with a cell asks of its source, a range -/
def CellSrc (prog : Program) (w : World) (A : Around) (h₀ : Heap) (L : Addr) (m : Str → Option Value) (env : Env) (elt : Expr) (x : Str) (scope : Scope) (cl : List (Str × Addr)) (Fin : Shared → (Nat → Value → Prop) → Nat → List (Addr × Obj) → Prop) (xv : Value) (s₁ : Shared) : Prop :=
  ∃ r a b t u v n news El, xv = .ref r ∧ A.handled = none ∧ Fr h₀ L s₁.heap m ∧ News h₀ L s₁.heap news ∧ IsRange s₁.heap r a b 1 t u v ∧ Builtin.Range.small a b 1 = true ∧ Builtin.Range.rangeSize a b 1 = ((n : Nat) : Int) ∧ n ≤ sizeLine ∧
    (∀ (k : Nat) t I oI C Z oZ D ys h tk (E' : Value → Shared → Prop), k < n → ys.length = k → oZ.data = .cell (some (.int (a + (k : Int)) t)) → Fr h₀ L h m → News h₀ L h ((I, oI) :: (C, nsO) :: (Z, oZ) :: (D, LCg.lst ys) :: news) →
      wpAny (model prog w) A (eval elt (compEnvC scope ((x, Z) :: cl) C env)) (fun y s' => CiStop (∃ h' tk', s' = { s₁ with heap := h', toks := tk' } ∧ Fr h₀ L h' m ∧ News h₀ L h' ((I, oI) :: (C, nsO) :: (Z, oZ) :: (D, LCg.lst ys) :: news) ∧ El k y)) E' { s₁ with heap := h, toks := tk }) ∧
    Fin s₁ El n news
theorem CellSrc.mk {elt : Expr} {x : Str} {scope : Scope} {cl : List (Str × Addr)} {Fin : Shared → (Nat → Value → Prop) → Nat → List (Addr × Obj) → Prop} {r : Addr} {a b : Int} {t u v : Tok} {n : Nat} {s₁ : Shared} (El : Nat → Value → Prop)
    (hh : A.handled = none) (F : Fr h₀ L s₁.heap m) (N : News h₀ L s₁.heap news) (hr : IsRange s₁.heap r a b 1 t u v) (hsm : Builtin.Range.small a b 1 = true) (hn : Builtin.Range.rangeSize a b 1 = ((n : Nat) : Int)) (hsz : n ≤ sizeLine)
    (turn : ∀ (k : Nat) t I oI C Z oZ D ys h tk (E' : Value → Shared → Prop), k < n → ys.length = k → oZ.data = .cell (some (.int (a + (k : Int)) t)) → Fr h₀ L h m → News h₀ L h ((I, oI) :: (C, nsO) :: (Z, oZ) :: (D, LCg.lst ys) :: news) →
      wpAny (model prog w) A (eval elt (compEnvC scope ((x, Z) :: cl) C env)) (fun y s' => CiStop (∃ h' tk', s' = { s₁ with heap := h', toks := tk' } ∧ Fr h₀ L h' m ∧ News h₀ L h' ((I, oI) :: (C, nsO) :: (Z, oZ) :: (D, LCg.lst ys) :: news) ∧ El k y)) E' { s₁ with heap := h, toks := tk })
    (fin : Fin s₁ El n news) : CellSrc prog w A h₀ L m env elt x scope cl Fin (.ref r) s₁ := ⟨r, a, b, t, u, v, n, news, El, rfl, hh, F, N, hr, hsm, hn, hsz, turn, fin⟩
def FinCE (h₀ : Heap) (L : Addr) (m : Str → Option Value) (Q : Value → Shared → Prop) (s : Shared) (El : Nat → Value → Prop) (n : Nat) (news : List (Addr × Obj)) : Prop :=
  ∀ D h tk ys, ys.length = n → (∀ k v, ys[k]? = some v → El k v) → Fr h₀ L h m → News h₀ L h ((D, LCg.lst ys) :: news) → (∀ p ∈ news, @LT.lt Nat _ p.1 D) → Q (.ref D) { s with heap := h, toks := tk }
def FinCA (h₀ : Heap) (L : Addr) (m : Str → Option Value) (y : Str) (Q : Flow → Shared → Prop) (s : Shared) (El : Nat → Value → Prop) (n : Nat) (news : List (Addr × Obj)) : Prop :=
  ∀ D h tk ys, ys.length = n → (∀ k v, ys[k]? = some v → El k v) → Fr h₀ L h (fun z => if z = y then some (.ref D) else m z) → News h₀ L h ((D, LCg.lst ys) :: news) → (∀ p ∈ news, @LT.lt Nat _ p.1 D) → Q .next { s with heap := h, toks := tk }
theorem ListComp_C {elt iter : Expr} {x : Str} {px : Pos} {scope : Scope} {cl : List (Str × Addr)} {pos : Pos} {Q : Value → Shared → Prop}
    (hclos : closureFor scope env = pure cl) (hce : ∀ k : Nat, cellsFrom k scope.names cl = (x, k) :: cl) (hpc : ∀ h : Heap, pushCells h scope.names = h.push (cellO none)) (hkind : scope.kind = .function)
    (hnames : ∀ y ∈ scope.names, y.2 = .local → scope.names.lookup y.1 = some .local) (hx : (relabel scope env).names.lookup x = some .cell)
    (h : wpAny (model prog w) A (eval iter env) (fun xv s₁ => CiStop (CellSrc prog w A h₀ L m env elt x scope cl (FinCE h₀ L m Q) xv s₁)) E s)
    (hs : ∀ x, foldedSetIterable iter env x = pure x := by intro _; rfl) :
    wpAny (model prog w) A (eval (.ListComp elt [⟨.Name x px, iter, [], 0⟩] scope pos) env) Q E s := by
  rw [eval_ListComp]
  refine wpAny_comprehension_free (use := none) rfl hs hclos hkind hnames (wpAny_mono h (fun xv s₁ h₁ => ?_) fun _ _ e => e)
  obtain ⟨r, a, b, t, u, v, n, news, El, rfl, hh, F, N, hr, hsm, hn, hsz, turn, fin⟩ := h₁.out
  refine wpAny_pyIter_range hr hsm ?_
  refine blockC El hh hsz hce hpc hkind hx (by show IsRangeIter _ _ _ _ _; rw [hn]; simpa using Heap.get?_push_size _ rfl)
    (F.keeps fun _ _ e => Heap.get?_push_of_some _ e) (N.grown fun _ _ e => Heap.get?_push_of_some _ e) (Nat.ne_of_lt F.ns.lt) (next_is_new F) (fun p hp => Nat.ne_of_lt (Heap.lt_size (N p hp).1)) turn ?_
  intro D C h tk ys hl hy F' N' lo gC hC₀ hCL hCD offC
  refine ⟨_, nsO_ns gC, fun h'' hs'' => fin D h'' tk ys hl hy (F'.change hs'' hCL hC₀) (fun p hp => ?_) lo⟩
  refine ⟨hs''.extBut _ _ ?_ (N' p hp).1, (N' p hp).2⟩
  rcases List.mem_cons.mp hp with rfl | hp
  · exact Ne.symm hCD
  · exact offC p hp
theorem Assign_ListComp_C {elt iter : Expr} {x y : Str} {px py : Pos} {scope : Scope} {cl : List (Str × Addr)} {pos spos : Pos} {Q : Flow → Shared → Prop} (hLe : env.locals = L)
    (hsw : swapsWith (.ListComp elt [⟨.Name x px, iter, [], 0⟩] scope pos) (some (.Name y py)) spos.line env = pure true)
    (hclos : closureFor scope env = pure cl) (hce : ∀ k : Nat, cellsFrom k scope.names cl = (x, k) :: cl) (hpc : ∀ h : Heap, pushCells h scope.names = h.push (cellO none)) (hkind : scope.kind = .function)
    (hnames : ∀ y ∈ scope.names, y.2 = .local → scope.names.lookup y.1 = some .local) (hx : (relabel scope env).names.lookup x = some .cell)
    (hy : env.kindOf y = some .local) (hp : (env.scope.kind == .class || (env.scope.kind == .module && env.locals != env.globals)) = false)
    (h : wpAny (model prog w) A (eval iter env) (fun xv s₁ => CiStop (CellSrc prog w A h₀ L m env elt x scope cl (FinCA h₀ L m y Q) xv s₁)) E s)
    (hs : ∀ x, foldedSetIterable iter env x = pure x := by intro _; rfl) :
    wpAny (model prog w) A (exec (.Assign [.Name y py] (.ListComp elt [⟨.Name x px, iter, [], 0⟩] scope pos) spos) env) Q E s := by
  subst hLe
  rw [exec_Assign_Name_used _ _ _ _ hsw]
  refine wpAny_bind (wpAny_standAt (wpAny_bind ?_))
  show wpAny _ A (do let _ ← comprehension (.ListComp elt [⟨.Name x px, iter, [], 0⟩] scope pos) scope env _ (newList []) false (eval iter env) (some (assign (.Name y py) env))) _ _ s
  refine wpAny_bind (wpAny_mono (wpAny_comprehension_free (use := some (assign (.Name y py) env)) (Q := fun _ s' => Q .next s') rfl hs hclos hkind hnames
    (wpAny_mono h (fun xv s₁ h₁ => ?_) fun _ _ e => e)) (fun _ s' hq => wpAny_pure (wpAny_pure hq)) fun _ _ e => e)
  obtain ⟨r, a, b, t, u, v, n, news, El, rfl, hh, F, N, hr, hsm, hn, hsz, turn, fin⟩ := h₁.out
  refine wpAny_pyIter_range hr hsm ?_
  refine blockC El hh hsz hce hpc hkind hx (by show IsRangeIter _ _ _ _ _; rw [hn]; simpa using Heap.get?_push_size _ rfl)
    (F.keeps fun _ _ e => Heap.get?_push_of_some _ e) (N.grown fun _ _ e => Heap.get?_push_of_some _ e) (Nat.ne_of_lt F.ns.lt) (next_is_new F) (fun p hp => Nat.ne_of_lt (Heap.lt_size (N p hp).1)) turn ?_
  intro D C h' tk ys hl hys F' N' lo gC hC₀ hCL hCD offC
  show wpAny _ A (assign (.Name y py) env (.ref D)) _ _ _
  refine wpAny_assign_Name (wpAny_storeName_local hy F'.ns (fun h₂ hn₂ hs₂ => ?_) hp)
  have hL₀ : h₀.get? env.locals = none := Heap.get?_none_of_le F'.above
  have F₂ : Fr h₀ env.locals h₂ (fun z => if z = y then some (.ref D) else m z) := ⟨hn₂, fun b o e => hs₂.extBut b o (fun q => by rw [q, hL₀] at e; cases e) (F'.keep b o e), F'.above⟩
  refine ⟨_, (nsO_ns gC).sameBut hs₂ hCL, fun h'' hs'' => fin D h'' _ ys hl hys (F₂.change hs'' hCL hC₀) (fun p hp => ?_) lo⟩
  have z : h₂.get? p.1 = some p.2 := hs₂.extBut _ _ (N' p hp).2.1 (N' p hp).1
  refine ⟨hs''.extBut _ _ ?_ z, (N' p hp).2⟩
  rcases List.mem_cons.mp hp with rfl | hp
  · exact Ne.symm hCD
  · exact offC p hp
end
section
variable {prog : Program} {w : World} {A : Around} {h₀ : Heap} {L : Addr} {m : Str → Option Value} {env : Env} {ct elt : Expr} {x : Str} {scope : Scope} {cl : List (Str × Addr)} {s : Shared} {news : List (Addr × Obj)} {S : List (Addr × Obj) → Prop} {Fin : List Value → List (Addr × Obj) → Prop}
/-- a comprehension that keeps the items of a list that pass a test -/
theorem cx_filter {vs : List Value} {px : Pos} (p : Value → Bool) (hS : S news)
    (hkL : (compEnvC scope cl 0 env).kindOf x = some .local) (hkd : scope.kind = .function) (hdb : (x == ("__debug__" : Str)) = false)
    (turn : ∀ (i : Nat) v I oI C oC D m₂ ys h tk (E' : Value → Shared → Prop), vs[i]? = some v → LCg.NsObj oC m₂ → m₂ x = some v → Fr h₀ L h m → News h₀ L h ((I, oI) :: (C, oC) :: (D, LCg.lst ys) :: news) → LCg.Off3 I C D news → ((@Ne Nat I C) ∧ (@Ne Nat I D) ∧ (@Ne Nat C D)) →
      wpAny (model prog w) A (isTrue ct (compEnvC scope cl C env) (eval ct (compEnvC scope cl C env))) (fun b s' => CiStop (b = p v ∧ ∃ h' tk', s' = { s with heap := h', toks := tk' } ∧ Fr h₀ L h' m ∧ News h₀ L h' ((I, oI) :: (C, oC) :: (D, LCg.lst ys) :: news))) E' { s with heap := h, toks := tk })
    (fin : Fin (vs.filter p) news) : LCt.CompRestT prog w A h₀ L m env ct (.Name x px) x scope cl s S (fun i v => vs.toArray[i]? = some v) Fin vs.toArray.size 0 [] news := by
  rw [List.size_toArray]
  have key : ∀ (j i : Nat), i + j = vs.length → LCt.CompRestT prog w A h₀ L m env ct (.Name x px) x scope cl s S (fun i v => vs.toArray[i]? = some v) Fin j i ((vs.take i).filter p) news := by
    intro j
    induction j with
    | zero =>
      intro i hi
      have e : i = vs.length := by omega
      subst e
      rw [List.take_length]
      exact LCt.CompRestT.zero fin
    | succ j ih =>
      intro i hi
      refine LCt.CompRestT.succ ?_
      intro v I oI C oC D m₂ h tk E' hv hC hx F N off ne
      have hv' : vs[i]? = some v := by simpa using hv
      have hs : (vs.take (i + 1)).filter p = (vs.take i).filter p ++ (if p v = true then [v] else []) := by
        rw [List.take_add_one, hv', List.filter_append]
        simp only [Option.toList_some]
        rw [List.filter_cons]; rfl
      refine wpAny_mono (turn i v I oI C oC D m₂ _ h tk E' hv' hC hx F N off ne) (fun b s₂ hq => ?_) fun _ _ e => e
      obtain ⟨rfl, h', tk', rfl, F', N'⟩ := hq.out
      cases hb : p v with
      | true =>
        simp only [if_true]
        have hns : Heap.Ns h' C m₂ := hC.ns (N' _ (.tail _ (.head _))).1
        refine ldVarK hns hx ?_ hkd hkL hdb
        refine ⟨h', tk', news, rfl, F', N', off, hS, ?_⟩
        rw [hb] at hs
        simp only [if_true] at hs
        rw [← hs]
        exact ih (i + 1) (by omega)
      | false =>
        simp only [Bool.false_eq_true, if_false]
        refine ⟨h', tk', news, rfl, F', N', off, hS, ?_⟩
        rw [hb] at hs
        simp only [Bool.false_eq_true, if_false, List.append_nil] at hs
        rw [← hs]
        exact ih (i + 1) (by omega)
  exact key vs.length 0 (by omega)
/-- a comprehension over a list: what is known of each item -/
theorem cx_list {vs : List Value} (El : Nat → Value → Prop) (hS : S news)
    (turn : ∀ (k : Nat) v I oI C oC D m₂ ys h tk (E' : Value → Shared → Prop), vs[k]? = some v → LCg.NsObj oC m₂ → m₂ x = some v → Fr h₀ L h m → News h₀ L h ((I, oI) :: (C, oC) :: (D, LCg.lst ys) :: news) → LCg.Off3 I C D news → ((@Ne Nat I C) ∧ (@Ne Nat I D) ∧ (@Ne Nat C D)) →
      wpAny (model prog w) A (eval elt (compEnvC scope cl C env)) (fun y s₂ => CiStop (∃ h' tk', s₂ = { s with heap := h', toks := tk' } ∧ Fr h₀ L h' m ∧ News h₀ L h' ((I, oI) :: (C, oC) :: (D, LCg.lst ys) :: news) ∧ El k y)) E' { s with heap := h, toks := tk })
    (fin : ∀ ys, ys.length = vs.length → (∀ k v, ys[k]? = some v → El k v) → Fin ys news) : LCg.CompRest prog w A h₀ L m env elt x scope cl s S (fun i v => vs.toArray[i]? = some v) Fin vs.toArray.size 0 [] news := by
  rw [List.size_toArray]
  have key : ∀ (j i : Nat) (ys : List Value), i + j = vs.length → ys.length = i → (∀ k v, ys[k]? = some v → El k v) → LCg.CompRest prog w A h₀ L m env elt x scope cl s S (fun i v => vs.toArray[i]? = some v) Fin j i ys news := by
    intro j
    induction j with
    | zero =>
      intro i ys hi hl hy
      exact LCg.CompRest.zero (fin ys (by omega) hy)
    | succ j ih =>
      intro i ys hi hl hy
      refine LCg.CompRest.succ ?_
      intro v I oI C oC D m₂ h tk E' hv hC hx F N off ne
      refine wpAny_mono (turn i v I oI C oC D m₂ ys h tk E' (by simpa using hv) hC hx F N off ne) (fun y s₂ hq => ?_) fun _ _ e => e
      obtain ⟨h', tk', rfl, F', N', hE⟩ := hq.out
      refine ⟨h', tk', news, rfl, F', N', off, hS, ih (i + 1) _ (by omega) (by simp [hl]) fun k v hk => ?_⟩
      by_cases hkl : k < ys.length
      · rw [List.getElem?_append_left hkl] at hk
        exact hy k v hk
      · rw [List.getElem?_append_right (by omega)] at hk
        have : k = ys.length := by
          cases hd : k - ys.length with
          | zero => omega
          | succ d => rw [hd] at hk; simp at hk
        subst this
        rw [Nat.sub_self] at hk
        simp at hk
        subst hk
        rw [hl]
        exact hE
  exact key vs.length 0 [] (by omega) rfl (by simp)
end

end
section
open PySem PySem.W PyProof.Rows PySem.Spec PySem.Calls
section
variable {prog : Program} {w : World} {A : Around} {E : Value → Shared → Prop} {s : Shared} {env : Env} {h₀ : Heap} {L : Addr}
/-- a for over a list that stays as it is -/
theorem ls_for {v : Str} {px pos : Pos} {iter : Expr} {body : List Stmt} {Q : Flow → Shared → Prop} (J : Nat → (Str → Option Value) → List (Addr × Obj) → Prop) {W : Addr} {vs : List Value} (hh : A.handled = none)
    (h : wpAny (model prog w) A (eval iter env) (fun xv s₁ => CiStop (∃ h₁ tk m news, s₁ = { s with heap := h₁, toks := tk } ∧ xv = .ref W ∧ Fr h₀ L h₁ m ∧ News h₀ L h₁ news ∧ J 0 m news)) E s)
    (hJ : ∀ i m news (h' : Heap), J i m news → News h₀ L h' news → h'.IsList W vs.toArray)
    (turn : ∀ i x I oI h' tk m news, vs[i]? = some x → J i m news → Sep I news → Fr h₀ L h' m → News h₀ L h' ((I, oI) :: news) →
      wpAny (model prog w) A (storeName env v x) (fun _ s₂ => wpAny (model prog w) A (execs body env) (OwitFlow Q (fun s₃ => CiStop (∃ h' tk m' news', s₃ = { s with heap := h', toks := tk } ∧ Fr h₀ L h' m' ∧ News h₀ L h' ((I, oI) :: news') ∧ Sep I news' ∧ J (i + 1) m' news'))) E s₂) E { s with heap := h', toks := tk })
    (done : ∀ h' tk m news, J vs.length m news → Fr h₀ L h' m → News h₀ L h' news → Q .next { s with heap := h', toks := tk })
    (hs : ∀ x, foldedSetIterable iter env x = pure x := by intro _; rfl) (hE : PassesOwn (model prog w) A env E := by passes_own) :
    wpAny (model prog w) A (exec (.For (.Name v px) iter body [] pos) env) Q E s := by
  refine wpAny_For (wpAny_mono h (fun xv s₁ h₁ => ?_) fun _ _ z => z) hs
  obtain ⟨h₁, tk, m, news, rfl, rfl, F, N, hJ0⟩ := h₁
  refine wpAny_pyIter_list (hJ 0 m news h₁ hJ0 N) ?_
  refine codeAny_forLoop (R := fun r s' => match r with | .ok f => Q f s' | .error e => cameBackBy (model prog w) A env E e s')
    (fun k s' => ∃ i h' tk' m' news' oI, s' = { s with heap := h', toks := tk' } ∧ k = vs.length - i ∧ i ≤ vs.length ∧ oI.cls = .type "list_iterator" ∧ oI.data = .fields #[.ref W, .int (i : Int) 0] ∧ Fr h₀ L h' m' ∧ News h₀ L h' ((h₁.objs.size, oI) :: news') ∧ Sep h₁.objs.size news' ∧ J i m' news') ?_ vs.length
    ⟨0, _, tk, m, news, _, rfl, rfl, Nat.zero_le _, rfl, rfl, F.push _, News.push F N _ rfl, fun p hp => ⟨Nat.ne_of_lt (Heap.lt_size (N p hp).1)⟩, hJ0⟩
  rintro k s' ⟨i, h', tk', m', news', oI, rfl, rfl, hi, hc, hd, F', N', S', hJ'⟩
  have z := N' _ (.head _)
  have hl := hJ i m' news' h' hJ' fun p hp => N' p (.tail _ hp)
  refine wpAny_passesOwn hE ?_
  by_cases hlt : i < vs.length
  · obtain ⟨x, hx⟩ : ∃ x, vs[i]? = some x := ⟨_, List.getElem?_eq_getElem hlt⟩
    refine wpAny_pyNext_list_item ⟨oI, z.1, hc, hd⟩ hl (x := x) (by simpa using hx) fun h₂ hit₂ hs₂ => ?_
    obtain ⟨oI', ho', hc', hd'⟩ := hit₂
    refine wpAny_passesOwn hE (wpAny_assign_Name (wpAny_mono (turn i x h₁.objs.size oI' h₂ _ m' news' hx hJ' S' (F'.change hs₂ z.2.1 z.2.2) (news_set (pre := []) N' (fun _ h => nomatch h) (fun p hp => (S' p hp).h) hs₂ ho')) (fun _ s₂ h₂ => ?_) fun _ _ z => z))
    refine wpAny_passesOwn hE (wpAny_mono h₂ (fun f s₃ h₃ => ?_) fun _ _ z => z)
    cases f with
    | next =>
      obtain ⟨h', tk, m2, news2, rfl, F2, N2, S2, hJ2⟩ := h₃
      exact ⟨vs.length - (i + 1), by omega, i + 1, h', tk, m2, news2, oI', rfl, rfl, by omega, hc', hd', F2, N2, S2, hJ2⟩
    | cont =>
      obtain ⟨h', tk, m2, news2, rfl, F2, N2, S2, hJ2⟩ := h₃
      exact ⟨vs.length - (i + 1), by omega, i + 1, h', tk, m2, news2, oI', rfl, rfl, by omega, hc', hd', F2, N2, S2, hJ2⟩
    | brk => exact h₃
    | ret _ => exact h₃
  · have hin : i = vs.length := by omega
    subst hin
    refine wpAny_pyNext_list_end hh ⟨oI, z.1, hc, hd⟩ hl (by simp) fun h₂ he₂ => wpAny_execs_nil ?_
    exact done h₂ _ m' news' hJ' (fr_but F' he₂ z.2.2 z.2.1.symm) (news_but N' he₂ news' (fun p hp => .tail _ hp) fun p hp => (S' p hp).h)
end

end
section
open PySem PySem.W PyProof.Rows PySem.Spec PySem.Calls PyProof.V
def bodyOf (K : Frag) (f : Addr) : List Stmt := match K.lookup f with
  | some o => (match o.data with | .func d => (match d.body with | .stmts b => b | _ => []) | _ => [])
  | none => []
def scopeOf (K : Frag) (f : Addr) : Scope := match K.lookup f with
  | some o => (match o.data with | .func d => d.scope | _ => { kind := .module, names := [], isGenerator := false, isCoroutine := false })
  | none => { kind := .module, names := [], isGenerator := false, isCoroutine := false }
theorem tail_enter {K : Frag} {f : Addr} {oc dV kV doc pm cdv ct : Value} {od an : Option Addr} {name qual : Str} {params : Arguments} {body : List Stmt} {scope : Scope} {osl : Array (Option Value)} (P : List Stmt → Scope → Prop)
    (ho : K.lookup f = some ⟨oc, od, .func (fnOf name qual params body scope dV kV doc pm an cdv ct), osl⟩) (h : P body scope) : P (bodyOf K f) (scopeOf K f) := by
  have e1 : bodyOf K f = body := by unfold bodyOf; rw [ho]
  have e2 : scopeOf K f = scope := by unfold scopeOf; rw [ho]
  rw [e1, e2]
  exact h
theorem strsAre_txts : ∀ ws : List (Str × Tok), StrsAre (ws.map fun p => Value.str p.1 p.2) (ws.map (·.1))
  | [] => .nil
  | p :: r => .cons p.1 p.2 (strsAre_txts r)
theorem strsAre_list (ws : List (Str × Tok)) : StrsAre (txts ws).toList (ws.map (·.1)) := by unfold txts; rw [List.toList_toArray]; exact strsAre_txts ws
theorem rep_flat {α : Type} (v : α) : ∀ n : Nat, List.foldl (fun x1 x2 => x1 ++ x2) (#[] : Array α) (List.replicate n #[v]) = (List.replicate n v).toArray := by
  have key : ∀ (n : Nat) (a : Array α), List.foldl (fun x1 x2 => x1 ++ x2) a (List.replicate n #[v]) = a ++ (List.replicate n v).toArray := by
    intro n
    induction n with
    | zero => intro a; simp
    | succ n ih =>
      intro a
      rw [List.replicate_succ, List.foldl_cons, ih, List.replicate_succ]
      apply Array.toList_inj.mp
      simp
  intro n
  rw [key]
  simp
theorem mul_one_sign (c : Nat) (n : Int) : Txt.mul ⟨#[c]⟩ n = mk (List.replicate n.toNat c) := by
  unfold Txt.mul
  by_cases h1 : n < 1
  · rw [if_pos h1]
    have : n.toNat = 0 := by omega
    rw [this]; rfl
  · rw [if_neg h1]
    by_cases h2 : n = 1
    · subst h2
      rfl
    · have e : (n == 1 || (⟨#[c]⟩ : Str).length == 0) = false := by
        have : (n == 1) = false := by simpa using h2
        rw [this]; rfl
      rw [e]
      show (⟨List.foldl (fun x1 x2 => x1 ++ x2) #[] (List.replicate n.toNat #[c])⟩ : Str) = _
      rw [rep_flat]
      rfl
theorem join_codes' : ∀ l : List Str, (Str.join ⟨#[]⟩ l).cps.toList = (l.map fun x => x.cps.toList).flatten
  | [] => rfl
  | [x] => by
    show x.cps.toList = _
    simp
  | x :: y :: r => by
    have ih := join_codes' (y :: r)
    show (x.cps ++ #[] ++ (Str.join ⟨#[]⟩ (y :: r)).cps).toList = _
    rw [Array.toList_append, ih]
    simp
theorem join_codes (l : List Str) : (Txt.join ⟨#[]⟩ l).cps.toList = (l.map fun x => x.cps.toList).flatten := by
  show (PySem.Builtin.Str.glued ⟨#[]⟩ l).cps.toList = _
  rw [StrLaws.glued_eq_join]
  exact join_codes' l
section
variable {prog : Program} {w : World} {A : Around} {E : Value → Shared → Prop} {s : Shared} {h₀ : Heap} {L D D2 : Addr} {m : Str → Option Value} {news : List (Addr × Obj)} {n n2 : Nat} {ws ws2 : List (Str × Tok)} {u t : Tok} {Q : Value → Shared → Prop}
theorem rep_sign {x : Str} {c : Nat} {k : Int} (hx : x = ⟨#[c]⟩) (hk : k < 3000) (hk0 : -3000 < k) (h : ∀ t' k', Q (.str (mk (List.replicate k.toNat c)) t') { s with toks := k' }) : wpAny (model prog w) A (binaryOp .Mult (.str x t) (.int k u)) Q E s := by
  subst hx
  refine SB.mul ⟨?_, fun h1 _ => ?_, fun _ _ => ?_⟩ fun t' k' => by rw [mul_one_sign]; exact h t' k'
  · simp; omega
  · have : (1 : Int) ≤ (2 ^ 63 - 1) / k := by
      rw [Int.le_ediv_iff_mul_le (by omega)]
      omega
    show ¬ ((1 : Nat) : Int) > _
    omega
  · show PySem.Builtin.Str.tooLong (1 * k.toNat) = false
    unfold PySem.Builtin.Str.tooLong
    simp [sizeLine_eq]
    omega
theorem item_txts {value slice : PySem.Expr} {k : Int} {j : Nat} {x : Str} {tx : Tok} (N : News h₀ L s.heap news) (hm : (D, listOf (txts ws) n) ∈ news) (hk : k = (j : Int)) (hz : j < 3000) (hx : ws[j]? = some (x, tx)) (h : Q (.str x tx) s)
    (hs : subscripted slice false (.ref D) (.int k u) = operate [.ref D, .int k u] (getItem (.ref D) (.int k u)) := by with_unfolding_all rfl) (hg : ∀ r, letTemporaryGo value (.ref D) r = pure () := by intro _; with_unfolding_all rfl) :
    wpAny (model prog w) A (subscriptTail value slice (.ref D) (.int k u)) Q E s :=
  item_list (N.isList hm) (by omega) (by omega) (by rw [txts_get, hk, Int.toNat_natCast, hx]; rfl) h hs hg
theorem join_txts (N : News h₀ L s.heap news) {its : Array Value} {ys : List Str} (hm : (D, listOf its n) ∈ news) (hi : StrsAre its.toList ys) (hw : (ys.map (·.length)).sum + ys.length ≤ 100000)
    (h : ∀ t' k, Q (.str (Txt.join ⟨#[]⟩ ys) t') { s with toks := k }) : wpAny (model prog w) A (call (.builtin "str.join") [.str ⟨#[]⟩ t, .ref D]) Q E s :=
  join_listW (N.isList hm) hi (by decide) (by omega) h
end
theorem tx_canLayAll0 : ∀ ns : List Str, (∀ x ∈ ns, PyData.strOk x = true) → PyData.canLayAll0 (ns.map PyData.str) = true
  | [], _ => rfl
  | x :: r, h => by
    have := h x (List.mem_cons_self ..)
    simp [PyData.canLayAll0, PyData.canLay0, tx_canLayAll0 r (fun y hy => h y (List.mem_cons_of_mem _ hy)), this]
theorem tx_depthAll : ∀ ns : List Str, PyData.depthAll (ns.map PyData.str) = 0
  | [] => rfl
  | _ :: r => by simp [PyData.depthAll, PyData.depth, tx_depthAll r]
theorem tx_shaped (ns : List Str) (h : ∀ x ∈ ns, PyData.strOk x = true) : SeqAt.shaped (.list (ns.map PyData.str)) = true := by
  simp [SeqAt.shaped, PyData.canLay0, PyData.depth, tx_canLayAll0 ns h, tx_depthAll]
theorem tx_sameAll : ∀ ns ms : List Str, PySem.Spec.sameAll (ns.map PyData.str) (ms.map PyData.str) = decide (ns = ms)
  | [], [] => by simp [PySem.Spec.sameAll]
  | [], _ :: _ => by simp [PySem.Spec.sameAll]
  | _ :: _, [] => by simp [PySem.Spec.sameAll]
  | a :: r, b :: t => by
    simp only [List.map_cons, PySem.Spec.sameAll, PySem.Spec.same, tx_sameAll r t]
    by_cases h : a = b <;> by_cases h' : r = t <;> simp [h, h']
theorem tx_same (ns ms : List Str) : PySem.Spec.same (.list (ns.map PyData.str)) (.list (ms.map PyData.str)) = decide (ns = ms) := by
  simp only [PySem.Spec.same]; exact tx_sameAll ns ms
section
variable {prog : Program} {w : World} {A : Around} {E : Value → Shared → Prop} {s : Shared} {h₀ : Heap} {L D D2 : Addr} {news : List (Addr × Obj)} {n n2 : Nat} {ws ws2 : List (Str × Tok)} {Q : Value → Shared → Prop}
end

end
section
open PySem PySem.W PyProof.Rows PySem.Spec PySem.Calls PyProof.V
/-- the end of a row, by turns -/
def endC (z : Int) : List Nat := if z.fmod 3 = 0 then [10] else if z.fmod 3 = 1 then [13, 10] else [13]
def endS (z : Int) : Str := mk (endC z)
def glueC (hp i : Int) : List (List Nat) → List Nat
  | [] => []
  | l :: r => l ++ (endC (hp + i) ++ glueC hp (i + 1) r)
def nlC : List (List Nat) → List Nat
  | [] => []
  | l :: r => l ++ 13 :: 10 :: nlC r
def dotq : List Nat → List Nat
  | [] => []
  | c :: r => if c = 46 then 46 :: 46 :: r else c :: r
def qC : List (List Nat) → List Nat
  | [] => []
  | l :: r => dotq l ++ 13 :: 10 :: qC r
def Plain (l : List Nat) : Prop := l ≠ [] ∧ ∀ c ∈ l, c ≠ 10 ∧ c ≠ 13
theorem sub2_end (z : Int) (r : List Nat) (h : ∀ d r', r = d :: r' → d ≠ 10) : sub2 (endC z ++ r) = 13 :: 10 :: sub2 r := by
  unfold endC
  split
  · cases r with
    | nil => exact sub2_hit1 (.inl rfl)
    | cons d r => exact sub2_hit (by omega) (.inl rfl)
  · split
    · exact sub2_both ⟨rfl, rfl⟩
    · cases r with
      | nil => exact sub2_hit1 (.inr rfl)
      | cons d r => exact sub2_hit (fun x => h d r rfl x.2) (.inr rfl)
theorem sub2_plain : ∀ (l r : List Nat), (∀ c ∈ l, c ≠ 10 ∧ c ≠ 13) → sub2 (l ++ r) = l ++ sub2 r
  | [], _, _ => rfl
  | c :: l, r, h => by
    have hc := h c (List.mem_cons_self ..)
    rw [List.cons_append, sub2_miss (by omega), sub2_plain l r fun d hd => h d (List.mem_cons_of_mem _ hd)]
    rfl
theorem sub2_glue (hp : Int) : ∀ (ls : List (List Nat)) (i : Int), (∀ l ∈ ls, Plain l) → sub2 (glueC hp i ls) = nlC ls
  | [], _, _ => rfl
  | l :: r, i, h => by
    have hl := h l (List.mem_cons_self ..)
    unfold glueC nlC
    rw [sub2_plain _ _ hl.2, sub2_end, sub2_glue hp r (i + 1) fun x hx => h x (List.mem_cons_of_mem _ hx)]
    intro d r' e
    cases r with
    | nil => cases e
    | cons l2 r2 =>
      have h2 := h l2 (List.mem_cons_of_mem _ (List.mem_cons_self ..))
      unfold glueC at e
      match l2, h2, e with
      | [], h2, _ => exact absurd rfl h2.1
      | c :: l2, h2, e =>
        rw [List.cons_append] at e
        cases e
        exact (h2.2 _ (List.mem_cons_self ..)).1
theorem sub1_plain : ∀ (l r : List Nat), (∀ c ∈ l, c ≠ 10 ∧ c ≠ 13) → sub1 false (l ++ 13 :: 10 :: r) = l ++ 13 :: 10 :: sub1 true r
  | [], r, _ => by
    show sub1 false (13 :: 10 :: r) = _
    rw [sub1_miss (by simp), sub1_miss (by simp)]
    rfl
  | c :: l, r, h => by
    have hc := h c (List.mem_cons_self ..)
    rw [List.cons_append, sub1_miss (by simp)]
    have e : (c == 10) = false := by simpa using hc.1
    rw [e, sub1_plain l r fun d hd => h d (List.mem_cons_of_mem _ hd)]
    rfl
theorem sub1_nl : ∀ ls : List (List Nat), (∀ l ∈ ls, Plain l) → sub1 true (nlC ls) = qC ls
  | [], _ => rfl
  | [] :: r, h => absurd rfl (h [] (List.mem_cons_self ..)).1
  | (c :: l) :: r, h => by
    have hl := h (c :: l) (List.mem_cons_self ..)
    have hc := hl.2 c (List.mem_cons_self ..)
    have hl2 : ∀ d ∈ l, d ≠ 10 ∧ d ≠ 13 := fun d hd => hl.2 d (List.mem_cons_of_mem _ hd)
    have ih := sub1_nl r fun x hx => h x (List.mem_cons_of_mem _ hx)
    unfold nlC qC
    show sub1 true (c :: l ++ 13 :: 10 :: nlC r) = (if c = 46 then 46 :: 46 :: l else c :: l) ++ 13 :: 10 :: qC r
    by_cases h46 : c = 46
    · rw [if_pos h46, List.cons_append, sub1_hit ⟨rfl, h46⟩, sub1_plain l _ hl2, ih]
      rfl
    · rw [if_neg h46, List.cons_append, sub1_miss (fun x => h46 x.2)]
      have e : (c == 10) = false := by simpa using hc.1
      rw [e, sub1_plain l _ hl2, ih]
      rfl
theorem quote_glue (hp i : Int) (ls : List (List Nat)) (h : ∀ l ∈ ls, Plain l) : sub1 true (sub2 (glueC hp i ls)) = qC ls := by rw [sub2_glue hp ls i h, sub1_nl ls h]
theorem glue_len (hp : Int) : ∀ (ls : List (List Nat)) (i : Int), (glueC hp i ls).length ≤ (ls.map List.length).sum + 2 * ls.length
  | [], _ => Nat.le_refl _
  | l :: r, i => by
    have ih := glue_len hp r (i + 1)
    have e : (endC (hp + i)).length ≤ 2 := by unfold endC; split <;> (try split) <;> simp
    unfold glueC
    simp only [List.length_append, List.map_cons, List.sum_cons, List.length_cons]
    omega

end
section
open PySem PySem.W PyProof.Rows PySem.Spec PySem.Calls PyProof.V
theorem ok_of_codes (x : Str) (h : ∀ c ∈ x.cps.toList, c < 1000) : PyData.strOk x = true := by
  unfold PyData.strOk
  rw [Array.all_eq_true_iff_forall_mem]
  intro c hc
  have := h c (by simpa using hc)
  simp
  omega
section
variable {prog : Program} {w : World} {A : Around} {E : Value → Shared → Prop} {s : Shared} {t u : Tok} {Q : Value → Shared → Prop}
end
section
variable {prog : Program} {w : World} {A : Around} {E : Value → Shared → Prop} {s : Shared} {h₀ : Heap} {L D : Addr} {m : Str → Option Value} {news : List (Addr × Obj)} {n : Nat} {u t : Tok} {Q : Value → Shared → Prop}
end
section
variable {prog : Program} {w : World} {A : Around} {E : Value → Shared → Prop} {s : Shared} {h₀ : Heap} {L D D2 : Addr} {news : List (Addr × Obj)} {n n2 : Nat} {ws ws2 : List (Str × Tok)} {Q : Value → Shared → Prop}
end

end
section
open PySem PySem.W PyProof.Rows PySem.Spec PySem.Calls PyProof.V
/-- x cut into k digits of n bits as _int2digits' inner cuts it -/
inductive Fill (n : Int) : Int → Nat → List Int → Prop
  | one (x : Int) : Fill n x 1 [x]
  | two {x sh u v lo : Int} {j j2 : Nat} {d1 d2 : List Int} (h1 : 0 < j) (hb : j2 = j ∨ j2 = j + 1) (Hm : MulK (j : Int) n sh) (Hu : ShrK x sh u) (Hv : ShlK u sh v) (Hl : XorK x v lo) (f1 : Fill n lo j d1) (f2 : Fill n u j2 d2) : Fill n x (j + j2) (d1 ++ d2)
theorem Fill.len {n x : Int} {k : Nat} {ds : List Int} (h : Fill n x k ds) : ds.length = k := by
  induction h with
  | one => rfl
  | two _ _ _ _ _ _ _ _ i1 i2 => rw [List.length_append, i1, i2]
theorem Fill.pos {n x : Int} {k : Nat} {ds : List Int} (h : Fill n x k ds) : 0 < k := by
  induction h with
  | one => decide
  | two h => omega
/-- the digits ds laid at l -/
def put (ns : List Int) (l : Nat) (ds : List Int) : List Int := ns.take l ++ (ds ++ ns.drop (l + ds.length))
theorem put_len {ns ds : List Int} {l : Nat} (h : l + ds.length ≤ ns.length) : (put ns l ds).length = ns.length := by
  unfold put; simp; omega
theorem put_one {ns : List Int} {l : Nat} {x : Int} (h : l < ns.length) : put ns l [x] = ns.set l x := by
  unfold put
  rw [List.set_eq_take_append_cons_drop, if_pos h]
  rfl
theorem put_put {ns d1 d2 : List Int} {l : Nat} (h : l + (d1 ++ d2).length ≤ ns.length) : put (put ns l d1) (l + d1.length) d2 = put ns l (d1 ++ d2) := by
  rw [List.length_append] at h
  have e : (ns.take l).length = l := by rw [List.length_take]; omega
  have e1 : (put ns l d1).take (l + d1.length) = ns.take l ++ d1 := by
    unfold put
    rw [← List.append_assoc]
    exact List.take_left' (by rw [List.length_append, e])
  have e2 : (put ns l d1).drop (l + d1.length + d2.length) = ns.drop (l + (d1 ++ d2).length) := by
    unfold put
    rw [← List.append_assoc, ← List.drop_drop, List.drop_left' (by rw [List.length_append, e]), List.drop_drop, List.length_append, Nat.add_assoc]
  rw [put, e1, e2, put, List.append_assoc, List.append_assoc]
theorem put_all {ns ds : List Int} (h : ns.length = ds.length) : put ns 0 ds = ds := by
  unfold put
  rw [List.take_zero, Nat.zero_add, ← h, List.drop_length, List.append_nil, List.nil_append]
/-- the function object that the i-th statement of the function at f makes -/
def fnIn (K : Frag) (f : Addr) (i : Nat) (q : Str) (cl : List (Str × Addr)) (doc pm : Value) (c' : Addr) (ct : Value) : Obj := match (bodyOf K f)[i]? with
  | some (.FunctionDef name ps body _ _ _ sc _ _ _) => fnMade name q ps body sc cl doc pm c' ct
  | _ => fnMade q q ⟨[], [], none, [], [], none, []⟩ [] { kind := .module, names := [], isGenerator := false, isCoroutine := false } [] doc pm c' ct
theorem fn_is {K : Frag} {f : Addr} {i : Nat} {q : Str} {cl : List (Str × Addr)} {doc pm : Value} {c' : Addr} {ct : Value} {name : Str} {ps : Arguments} {body bd : List Stmt} {sc sc' : Scope} {ds : List PySem.Expr} {rt : Option PySem.Expr} {tp : List TypeParam} {ts : Option Scope} {bn : Str} {po : Pos}
    {oc dV kV d0 p0 cdv c0 : Value} {od an : Option Addr} {nm ql : Str} {prm : Arguments} {osl : Array (Option Value)}
    (ho : K.lookup f = some ⟨oc, od, .func (fnOf nm ql prm bd sc' dV kV d0 p0 an cdv c0), osl⟩) (h : bd[i]? = some (.FunctionDef name ps body ds rt tp sc ts bn po)) : fnIn K f i q cl doc pm c' ct = fnMade name q ps body sc cl doc pm c' ct := by
  have e : bodyOf K f = bd := by unfold bodyOf; rw [ho]
  unfold fnIn
  rw [e, h]
/-- what _int2digits is asked: x and the digits -/
inductive Cut (n : Int) : Int → Nat → List Int → Prop
  | zero : Cut n 0 0 []
  | some {x : Int} {k : Nat} {ds : List Int} (hx : x ≠ 0) (h : Fill n x k ds) : Cut n x k ds
theorem Cut.len {n x : Int} {k : Nat} {ds : List Int} (h : Cut n x k ds) : ds.length = k := by
  cases h with
  | zero => rfl
  | some _ h => exact h.len
theorem repz {v : Value} {k : Nat} : List.foldl (fun x1 x2 => x1 ++ x2) #[] (List.replicate (if (#[v] : Array Value).isEmpty = true then 0 else (k : Int).toNat) #[v]) = (List.replicate k v).toArray := by
  rw [if_neg (by intro e; cases e), Int.toNat_natCast]
  exact rep_flat v k
theorem ints_rep (t : Tok) : ∀ k : Nat, IntsAre (List.replicate k (.int 0 t)) (List.replicate k 0)
  | 0 => .nil
  | k + 1 => .cons 0 t (ints_rep t k)
/-- digits put together as _digits2int's inner does it -/
inductive Dig (n : Int) : List Int → Int → Prop
  | one (x : Int) : Dig n [x] x
  | two {sh v1 v2 u : Int} {d1 d2 : List Int} (h1 : 0 < d1.length) (hb : d2.length = d1.length ∨ d2.length = d1.length + 1) (Hm : MulK (d1.length : Int) n sh) (Hv : ShlK v2 sh u) (f1 : Dig n d1 v1) (f2 : Dig n d2 v2) : Dig n (d1 ++ d2) (u + v1)
theorem Dig.pos {n x : Int} {ds : List Int} (h : Dig n ds x) : 0 < ds.length := by
  induction h with
  | one => exact Nat.zero_lt_one
  | two h => rw [List.length_append]; omega
/-- what _digits2int tells -/
inductive Join (n : Int) : List Int → Int → Prop
  | zero : Join n [] 0
  | some {ds : List Int} {v : Int} (h : Dig n ds v) : Join n ds v
theorem item_ints {prog : Program} {w : World} {A : Around} {E : Value → Shared → Prop} {s : Shared} {h₀ : Heap} {L D : Addr} {news : List (Addr × Obj)} {e : Nat} {vs : List Value} {ns : List Int} {value slice : PySem.Expr} {k x : Int} {j : Nat} {u : Tok} {Q : Value → Shared → Prop}
    (N : News h₀ L s.heap news) (hm : (D, listOf vs.toArray e) ∈ news) (hI : IntsAre vs ns) (hk : k = (j : Int)) (hz : j < 3000) (hx : ns[j]? = some x) (h : ∀ t, Q (.int x t) s)
    (hs : subscripted slice false (.ref D) (.int k u) = operate [.ref D, .int k u] (getItem (.ref D) (.int k u)) := by with_unfolding_all rfl) (hg : ∀ r, letTemporaryGo value (.ref D) r = pure () := by intro _; with_unfolding_all rfl) :
    wpAny (model prog w) A (subscriptTail value slice (.ref D) (.int k u)) Q E s := by
  obtain ⟨t, e⟩ := hI.get j x hx
  exact item_list (N.isList hm) (by omega) (by omega) (by rw [hk, Int.toNat_natCast]; simpa using e) (h t) hs hg
/-- the digits ds lie at l -/
def At (ns : List Int) (l : Nat) (ds : List Int) : Prop := ∀ j, j < ds.length → ns[l + j]? = ds[j]?
theorem At.left {ns d1 d2 : List Int} {l : Nat} (h : At ns l (d1 ++ d2)) : At ns l d1 := fun j hj => by
  rw [h j (by rw [List.length_append]; omega), List.getElem?_append_left hj]
theorem At.right {ns d1 d2 : List Int} {l : Nat} (h : At ns l (d1 ++ d2)) : At ns (l + d1.length) d2 := fun j hj => by
  rw [Nat.add_assoc, h (d1.length + j) (by rw [List.length_append]; omega), List.getElem?_append_right (Nat.le_add_right _ _), Nat.add_sub_cancel_left]

end
section
open PySem PySem.W PyProof.Rows PySem.Spec PySem.Calls
/-- _law_on on codes -/
def onC (n : Nat) (l : List Nat) : List Nat := if l.length > n + 1 then l.drop n else l
/-- one of the law's words: dots and a name -/
def Wd (n : Nat) (l : List Nat) : Prop := ∃ k c, 1 ≤ k ∧ k ≤ n ∧ (c = 97 ∨ c = 65 ∨ c = 34 ∨ c = 92) ∧ l = List.replicate k 46 ++ [c]
theorem Wd.len {n : Nat} {l : List Nat} (h : Wd n l) : 2 ≤ l.length ∧ l.length ≤ n + 1 := by
  obtain ⟨k, c, h1, h2, _, rfl⟩ := h
  simp; omega
theorem Wd.plain {n : Nat} {l : List Nat} (h : Wd n l) : ∀ c ∈ l, c ≠ 10 ∧ c ≠ 13 := by
  obtain ⟨k, c, h1, h2, hc, rfl⟩ := h
  intro d hd
  rcases List.mem_append.mp hd with hd | hd
  · rw [(List.mem_replicate.mp hd).2]; exact ⟨by decide, by decide⟩
  · rw [List.mem_singleton.mp hd]; omega
theorem sub1_none : ∀ (l : List Nat), (∀ c ∈ l, c ≠ 10 ∧ c ≠ 13) → sub1 false l = l
  | [], _ => rfl
  | c :: r, h => by
    have hc := h c (List.mem_cons_self ..)
    rw [sub1_miss (by simp)]
    have e : (c == 10) = false := by simpa using hc.1
    rw [e, sub1_none r fun d hd => h d (List.mem_cons_of_mem _ hd)]
theorem Wd.cons {n : Nat} {l : List Nat} (h : Wd n l) : ∃ r, l = 46 :: r := by
  obtain ⟨k, c, h1, h2, hc, rfl⟩ := h
  cases k with
  | zero => omega
  | succ k => exact ⟨_, by rw [List.replicate_succ, List.cons_append]⟩
theorem Wd.quote {n : Nat} {l : List Nat} (h : Wd n l) : sub1 true (sub2 l) = 46 :: l := by
  have e : sub2 l = l := by
    have := sub2_plain l [] h.plain
    rw [List.append_nil] at this
    rw [this]; show l ++ [] = l; exact List.append_nil l
  obtain ⟨r, hr⟩ := h.cons
  have hp := h.plain
  rw [e]
  subst hr
  rw [sub1_hit ⟨rfl, rfl⟩, sub1_none r fun d hd => hp d (List.mem_cons_of_mem _ hd)]
theorem Wd.on {n : Nat} {l : List Nat} (h : Wd n l) : Wd n (onC n (46 :: l)) := by
  obtain ⟨k, c, h1, h2, hc, rfl⟩ := h
  unfold onC
  by_cases hk : k = n
  · subst hk
    rw [if_pos (by simp)]
    refine ⟨1, c, Nat.le_refl 1, h1, hc, ?_⟩
    have e : (46 :: (List.replicate k 46 ++ [c])) = List.replicate k 46 ++ (46 :: [c]) := by
      rw [← List.cons_append, ← List.replicate_succ, List.replicate_succ', List.append_assoc]
      rfl
    rw [e, List.drop_left' (by simp)]
    rfl
  · rw [if_neg (by simp; omega)]
    exact ⟨k + 1, c, by omega, by omega, hc, by rw [List.replicate_succ, List.cons_append]⟩
/-- the drive: cars wait in a queue, whoever comes takes its place or goes on -/
def drv (n : Nat) : Nat → List (List Nat) → List (List Nat) → Int → List (List Nat) × Int
  | 0, _, parked, s => (parked, s)
  | f + 1, line, parked, s => match line with
    | [] => (parked, s)
    | w :: line => if parked.filter (fun o => decide (levP o w 2 ≤ 2)) = [] then drv n f line (parked ++ [w]) s else drv n f (line ++ [onC n (46 :: w)]) parked (s + 1)
theorem drv_nil {n f : Nat} {parked : List (List Nat)} {s : Int} : drv n f [] parked s = (parked, s) := by cases f <;> rfl
theorem drv_park {n f : Nat} {w : List Nat} {line parked : List (List Nat)} {s : Int} (h : parked.filter (fun o => decide (levP o w 2 ≤ 2)) = []) : drv n (f + 1) (w :: line) parked s = drv n f line (parked ++ [w]) s := by
  rw [drv]; exact if_pos h
theorem drv_on {n f : Nat} {w : List Nat} {line parked : List (List Nat)} {s : Int} (h : ¬ parked.filter (fun o => decide (levP o w 2 ≤ 2)) = []) : drv n (f + 1) (w :: line) parked s = drv n f (line ++ [onC n (46 :: w)]) parked (s + 1) := by
  rw [drv]; exact if_neg h
theorem mk_codes {z : Str} {l : List Nat} (h : z.cps.toList = l) : z = mk l := by
  rw [← h]
  cases z
  simp [mk]
theorem Wd.strOk {n : Nat} {l : List Nat} (h : Wd n l) : PyData.strOk (mk l) = true := by
  obtain ⟨k, c, h1, h2, hc, rfl⟩ := h
  refine ok_of_codes _ fun d hd => ?_
  rw [mk_list] at hd
  rcases List.mem_append.mp hd with hd | hd
  · rw [(List.mem_replicate.mp hd).2]; decide
  · rw [List.mem_singleton.mp hd]; omega
theorem wds_ok {n : Nat} {ws : List (Str × Tok)} {ls : List (List Nat)} (h : ws.map (·.1) = ls.map mk) (hl : ∀ l ∈ ls, Wd n l) : ∀ x ∈ ws.map (·.1), PyData.strOk x = true := by
  rw [h]
  intro x hx
  obtain ⟨l, hm, rfl⟩ := List.mem_map.mp hx
  exact (hl l hm).strOk
section
variable {prog : Program} {w : World} {A : Around} {E : Value → Shared → Prop} {s : Shared} {h₀ : Heap} {L : Addr} {m : Str → Option Value} {news : List (Addr × Obj)} {D D2 : Addr} {n n2 : Nat} {ws ws2 : List (Str × Tok)} {Q : Value → Shared → Prop}
theorem eq_txts (N : News h₀ L s.heap news) (h1 : (D, listOf (txts ws) n) ∈ news) (h2 : (D2, listOf (txts ws2) n2) ∈ news) (o1 : ∀ x ∈ ws.map (·.1), PyData.strOk x = true) (o2 : ∀ x ∈ ws2.map (·.1), PyData.strOk x = true) (hu : A.units + 64 < cLine) (h : Q (.bool (decide (ws.map (·.1) = ws2.map (·.1)))) s) :
    wpAny (model prog w) A (compareOp .Eq (.ref D) (.ref D2)) Q E s :=
  eq_dataH_same (reads_newData (N.isList h1) (strsAre_txts ws).carried) (reads_newData (N.isList h2) (strsAre_txts ws2).carried) (tx_shaped _ o1) (tx_shaped _ o2) hu (SeqAt.noMix_of_shape (.list .str) rfl _ _ (list_map_has fun _ => rfl) (list_map_has fun _ => rfl)) (by rw [tx_same]; exact h)
theorem list_txts (F : Fr h₀ L s.heap m) (N : News h₀ L s.heap news) (hm : (D, listOf (txts ws) n) ∈ news) (hz : ws.length ≤ 1000)
    (h : ∀ D c h', Fr h₀ L h' m → News h₀ L h' ((D, listOf (txts ws) c) :: news) → (∀ q ∈ news, q.1 < D) → Q (.ref D) { s with heap := h' }) : wpAny (model prog w) A (call (.type "list") [.ref D]) Q E s :=
  list_copyK F N (N.isList hm) h (by rw [txts_size, sizeLine_eq]; omega)
theorem txts_filter (p : Value → Bool) (q : Str → Bool) (h : ∀ x t, p (.str x t) = q x) : ∀ ws : List (Str × Tok), ((ws.map fun p => Value.str p.1 p.2).filter p) = ((ws.filter fun y => q y.1).map fun p => Value.str p.1 p.2)
  | [] => rfl
  | y :: r => by
    rw [List.map_cons, List.filter_cons, List.filter_cons, h, txts_filter p q h r]
    by_cases hq : q y.1 = true
    · rw [if_pos hq, if_pos hq, List.map_cons]
    · rw [if_neg hq, if_neg hq]
theorem map_filter_fst (q : Str → Bool) : ∀ (ws : List (Str × Tok)) (ls : List (List Nat)), ws.map (·.1) = ls.map mk → (ws.filter fun y => q y.1).map (·.1) = (ls.filter fun l => q (mk l)).map mk
  | [], [], _ => rfl
  | [], _ :: _, h => by cases h
  | _ :: _, [], h => by cases h
  | y :: r, l :: ls, h => by
    rw [List.map_cons, List.map_cons] at h
    have h1 : y.1 = mk l := (List.cons.inj h).1
    have ih := map_filter_fst q r ls (List.cons.inj h).2
    rw [List.filter_cons, List.filter_cons, h1]
    by_cases hq : q (mk l) = true
    · rw [if_pos hq, if_pos hq, List.map_cons, List.map_cons, ih, h1]
    · rw [if_neg hq, if_neg hq, ih]
end

end
section
open PySem PySem.W PyProof.Rows PySem.Spec PySem.Calls PyProof.V
theorem ints_snoc {x : Int} {t : Tok} : ∀ {vs : List Value} {ns : List Int}, IntsAre vs ns → IntsAre (vs ++ [.int x t]) (ns ++ [x])
  | _, _, .nil => .cons x t .nil
  | _, _, .cons n u h => .cons n u (ints_snoc h)
theorem ints_rev : ∀ {vs : List Value} {ns : List Int}, IntsAre vs ns → IntsAre vs.reverse ns.reverse
  | _, _, .nil => .nil
  | _, _, .cons n u h => by
    rw [List.reverse_cons, List.reverse_cons]
    exact ints_snoc (ints_rev h)
/-- the division of _divmod_pos: digits from the top, the rest so far, the quotient's digits, the last rest -/
inductive Divs (n y : Int) : List Int → Int → List Int → Int → Prop
  | nil {r : Int} : Divs n y [] r [] r
  | cons {a : Int} {as : List Int} {r w q r' : Int} {qs : List Int} {z : Int} (Hw : ShlK r n w) (Hq : DivK (w + a) y q r') (Hc : (Builtin.Int.intBits (w + a) : Int) - n ≤ 4000) (h : Divs n y as r' qs z) : Divs n y (a :: as) r (q :: qs) z
theorem Divs.len {n y : Int} {as qs : List Int} {r z : Int} (h : Divs n y as r qs z) : qs.length = as.length := by
  induction h with
  | nil => rfl
  | cons _ _ _ _ ih => rw [List.length_cons, List.length_cons, ih]
section
variable {prog : Program} {w : World} {A : Around} {E : Value → Shared → Prop} {s : Shared} {env : Env} {h₀ : Heap} {x : Str} {body : List Stmt} {Q : Flow → Shared → Prop}
theorem rev_rest {I : Addr} {lp : Addr × Obj} {us : List Value} {as : List Int} (hI : IntsAre us as) (J : List Int → (Str → Option Value) → List (Addr × Obj) → Prop)
    (turn : ∀ a r m news (it : Obj) h tk t, J (a :: r) m news → it.cls = .type "list_reverseiterator" → Fr h₀ env.locals h (fun y => if y = x then some (.int a t) else m y) → News h₀ env.locals h ((I, it) :: news) →
      wpAny (model prog w) A (execs body env) (UnrPost h₀ env.locals { s with heap := h, toks := tk } I it (fun m' n' => lp ∈ n' ∧ J r m' n') Q) E { s with heap := h, toks := tk })
    (fin : ∀ m news h tk, J [] m news → Fr h₀ env.locals h m → News h₀ env.locals h news → Q .next { s with heap := h, toks := tk }) :
    ∀ {m : Str → Option Value} {news : List (Addr × Obj)}, J as m news → RevRest prog w A E h₀ env x body Q s I lp us m news := by
  induction hI with
  | nil => exact fun hJ => RevRest.zero fun h tk F N => fin _ _ h tk hJ F N
  | @cons n t vs ns _ ih =>
    intro m news hJ
    refine RevRest.succ fun it h tk hc F N => wpAny_mono (turn _ _ _ _ it h tk t hJ hc F N) (fun f s₂ p => ?_) fun _ _ e => e
    have go : UnrEnd h₀ env.locals { s with heap := h, toks := tk } I it (fun m' n' => lp ∈ n' ∧ J ns m' n') s₂ → UnrEnd h₀ env.locals { s with heap := h, toks := tk } I it (fun m' n' => lp ∈ n' ∧ RevRest prog w A E h₀ env x body Q s I lp vs m' n') s₂ := by
      rintro ⟨h', tk', m', n', e, F', N', o, hl, hj⟩
      exact ⟨h', tk', m', n', e, F', N', o, hl, ih hj⟩
    cases f with
    | ret v => exact p
    | brk => exact p
    | next => exact go p
    | cont => exact go p
end
section
variable {prog : Program} {w : World} {A : Around} {E : Value → Shared → Prop} {s : Shared} {h₀ : Heap} {L D : Addr} {m : Str → Option Value} {news news' : List (Addr × Obj)} {Q : Value → Shared → Prop}
theorem append_ints {n : Nat} {vs : List Value} {x : Int} {t : Tok} (F : Fr h₀ L s.heap m) (N : News h₀ L s.heap news) (hz : vs.length ≤ 100000) (U : Upd D (listOf vs.toArray n) (listOf (vs ++ [Value.int x t]).toArray (n + 1)) news news')
    (h : ∀ h', Fr h₀ L h' m → News h₀ L h' news' → Q .none { s with heap := h' }) : wpAny (model prog w) A (call (.builtin "list.append") [.ref D, .int x t]) Q E s :=
  append_K F N (by rw [List.push_toArray]; exact U) h (by rw [List.size_toArray, sizeLine_eq]; omega)
theorem reverse_ints {n : Nat} {vs : List Value} (F : Fr h₀ L s.heap m) (N : News h₀ L s.heap news) (hz : vs.length ≤ 100000) (U : Upd D (listOf vs.toArray n) (listOf vs.reverse.toArray n) news news')
    (h : ∀ h', Fr h₀ L h' m → News h₀ L h' news' → Q .none { s with heap := h' }) : wpAny (model prog w) A (call (.builtin "list.reverse") [.ref D]) Q E s :=
  kl_reverse F N (by rw [List.toList_toArray]) U (by rw [List.toList_toArray, sizeLine_eq]; omega) h
end

end
section
open PySem PySem.W PyProof.Rows PySem.Spec PySem.Calls
/-- a row of the mail: dots, perhaps a backslash, the name -/
def rowL (w : Nat) (esc : Bool) (c : Nat) : List Nat := List.replicate w 46 ++ ((if esc then [92] else []) ++ [c])
def RowOk (w : Nat) (esc : Bool) (c : Nat) : Prop := 1 ≤ w ∧ w ≤ 10 ∧ (c = 97 ∨ c = 65 ∨ c = 34 ∨ c = 92) ∧ (esc = true ∨ c = 97 ∨ c = 65)
theorem rowL_plain {w : Nat} {esc : Bool} {c : Nat} (h : RowOk w esc c) : Plain (rowL w esc c) := by
  obtain ⟨h1, h2, h3, h4⟩ := h
  refine ⟨fun e => ?_, fun d hd => ?_⟩
  · have := congrArg List.length e
    unfold rowL at this
    simp at this
  · unfold rowL at hd
    rcases List.mem_append.mp hd with hd | hd
    · rw [(List.mem_replicate.mp hd).2]; exact ⟨by decide, by decide⟩
    · rcases List.mem_append.mp hd with hd | hd
      · cases esc with
        | true => rw [List.mem_singleton.mp hd]; exact ⟨by decide, by decide⟩
        | false => exact absurd hd List.not_mem_nil
      · rw [List.mem_singleton.mp hd]; omega
theorem tk_inner {esc : Bool} {c : Nat} {rest : List Nat} (hc : c = 97 ∨ c = 65 ∨ c = 34 ∨ c = 92) (he : esc = true ∨ c = 97 ∨ c = 65) : ∀ (k : Nat) (cts : List (Nat × Tok)), cts.map (·.1) = List.replicate k 46 ++ ((if esc then [92] else []) ++ c :: 13 :: rest) →
    ∃ zc, zc.map (·.1) = rest ∧ Inner2 cts (List.replicate k 46 ++ [c]) zc 0
  | k + 1, cts, h => by
    rw [List.replicate_succ, List.cons_append] at h
    match cts, h with
    | [], h => cases h
    | (d, t) :: r, h =>
      rw [List.map_cons] at h
      obtain ⟨zc, hz, hi⟩ := tk_inner hc he k r (List.cons.inj h).2
      obtain rfl : d = 46 := (List.cons.inj h).1
      exact ⟨zc, hz, .plain (.inl rfl) hi⟩
  | 0, cts, h => by
    rw [List.replicate_zero, List.nil_append] at h
    cases esc with
    | true =>
      match cts, h with
      | [], h => cases h
      | [_], h => cases (List.cons.inj h).2
      | [_, _], h => cases (List.cons.inj (List.cons.inj h).2).2
      | (d, t) :: (d2, t2) :: (d3, t3) :: r, h =>
        rw [List.map_cons, List.map_cons, List.map_cons] at h
        have h1 := List.cons.inj h
        have h2 := List.cons.inj h1.2
        have h3 := List.cons.inj h2.2
        obtain rfl : d = 92 := h1.1
        obtain rfl : d2 = c := h2.1
        obtain rfl : d3 = 13 := h3.1
        exact ⟨r, h3.2, .esc (by omega) .done⟩
    | false =>
      match cts, h with
      | [], h => cases h
      | [_], h => cases (List.cons.inj h).2
      | (d2, t2) :: (d3, t3) :: r, h =>
        rw [List.map_cons, List.map_cons] at h
        have h2 := List.cons.inj h
        have h3 := List.cons.inj h2.2
        obtain rfl : d2 = c := h2.1
        obtain rfl : d3 = 13 := h3.1
        refine ⟨r, h3.2, .plain ?_ .done⟩
        rcases he with he | he | he
        · cases he
        · exact .inr (.inl he)
        · exact .inr (.inr he)
/-- one row read -/
theorem tk_row {w : Nat} {esc : Bool} {c : Nat} {rest : List Nat} (h : RowOk w esc c) (cts : List (Nat × Tok)) (e : cts.map (·.1) = dotq (rowL w esc c) ++ 13 :: rest) : ∃ zc, zc.map (·.1) = rest ∧ Outer2 cts (List.replicate (w + 1) 46 ++ [c]) zc 0 := by
  obtain ⟨h1, h2, h3, h4⟩ := h
  obtain ⟨v, rfl⟩ : ∃ v, w = v + 1 := ⟨w - 1, by omega⟩
  have e1 : dotq (rowL (v + 1) esc c) ++ 13 :: rest = 46 :: (List.replicate (v + 1) 46 ++ ((if esc then [92] else []) ++ c :: 13 :: rest)) := by
    unfold rowL
    rw [List.replicate_succ, List.cons_append, dotq, if_pos rfl]
    simp
  rw [e1] at e
  match cts, e with
  | [], e => cases e
  | (d, t) :: r, e =>
    rw [List.map_cons] at e
    obtain ⟨zc, hz, hi⟩ := tk_inner h3 h4 (v + 1) r (List.cons.inj e).2
    obtain rfl : d = 46 := (List.cons.inj e).1
    refine ⟨zc, hz, ?_⟩
    rw [List.replicate_succ, List.cons_append]
    exact .dot hi
/-- what is left of the mail before row k -/
def leftC (ls : List (List Nat)) (k : Nat) : List Nat := if k = 0 then qC ls else 10 :: qC (ls.drop k)
theorem tk_at {ls : List (List Nat)} {k w : Nat} {esc : Bool} {c : Nat} (h : RowOk w esc c) (hk : ls[k]? = some (rowL w esc c)) (cts : List (Nat × Tok)) (e : cts.map (·.1) = leftC ls k) : ∃ zc, zc.map (·.1) = leftC ls (k + 1) ∧ Outer2 cts (List.replicate (w + 1) 46 ++ [c]) zc (if k = 0 then 0 else 1) := by
  have hd : ls.drop k = rowL w esc c :: ls.drop (k + 1) := by
    have hlt : k < ls.length := (List.getElem?_eq_some_iff.mp hk).1
    rw [List.drop_eq_getElem_cons hlt, (List.getElem?_eq_some_iff.mp hk).2]
  have hq : qC (ls.drop k) = dotq (rowL w esc c) ++ 13 :: leftC ls (k + 1) := by
    rw [hd, qC, leftC, if_neg (by omega)]
  by_cases h0 : k = 0
  · subst h0
    rw [List.drop_zero] at hq
    rw [leftC, if_pos rfl, hq] at e
    rw [if_pos rfl]
    exact tk_row h cts e
  · rw [leftC, if_neg h0, hq] at e
    rw [if_neg h0]
    match cts, e with
    | [], e => cases e
    | (d, t) :: r, e =>
      rw [List.map_cons] at e
      obtain ⟨zc, hz, ho⟩ := tk_row h r (List.cons.inj e).2
      obtain rfl : d = 10 := (List.cons.inj e).1
      exact ⟨zc, hz, .skip ho⟩
theorem tk_end {ls : List (List Nat)} {k : Nat} (h0 : 0 < k) (hk : ls.length ≤ k) (cts : List (Nat × Tok)) (e : cts.map (·.1) = leftC ls k) : Outer2 cts [] [] 1 := by
  rw [leftC, if_neg (by omega), List.drop_eq_nil_of_le hk] at e
  match cts, e with
  | [], e => cases e
  | [(d, t)], e =>
    obtain rfl : d = 10 := (List.cons.inj e).1
    exact .skip .eof
  | _ :: _ :: _, e => cases (List.cons.inj e).2

end
section
open PySem PySem.W PyProof.Rows PySem.Spec PySem.Calls
open PySem.Builtin.Int (intBits)
/-- the number with the digits ds to the base 2 ^ n, the lowest first -/
def V (n : Nat) : List Int → Int
  | [] => 0
  | d :: r => d + 2 ^ n * V n r
def DB (n : Nat) (ds : List Int) : Prop := ∀ d ∈ ds, 0 ≤ d ∧ d < 2 ^ n
theorem V_app (n : Nat) (b : List Int) : ∀ a : List Int, V n (a ++ b) = V n a + 2 ^ (n * a.length) * V n b
  | [] => by simp [V]
  | d :: r => by
    rw [List.cons_append, V, V_app n b r, V, List.length_cons, Nat.mul_add, Nat.mul_one, Int.pow_add, Int.mul_add]
    rw [Int.mul_comm ((2 : Int) ^ (n * r.length)) (2 ^ n), Int.mul_assoc]
    omega
theorem V_lt (n : Nat) : ∀ ds : List Int, DB n ds → 0 ≤ V n ds ∧ V n ds < 2 ^ (n * ds.length)
  | [], _ => ⟨Int.le_refl 0, by simp [V]⟩
  | d :: r, h => by
    have hd := h d (List.mem_cons_self ..)
    have ih := V_lt n r fun x hx => h x (List.mem_cons_of_mem _ hx)
    have hp : (0 : Int) < 2 ^ n := Int.pow_pos (by decide)
    rw [V, List.length_cons, Nat.mul_add, Nat.mul_one, Int.pow_add]
    have h1 : 0 ≤ 2 ^ n * V n r := Int.mul_nonneg (by omega) ih.1
    have h2 : 2 ^ n * (V n r + 1) ≤ 2 ^ n * 2 ^ (n * r.length) := Int.mul_le_mul_of_nonneg_left (by omega) (by omega)
    rw [Int.mul_add, Int.mul_one] at h2
    rw [Int.mul_comm ((2 : Int) ^ (n * r.length)) (2 ^ n)]
    exact ⟨by omega, by omega⟩
theorem bits_of {x : Int} {a : Nat} (h0 : 0 ≤ x) (h : x < 2 ^ a) : intBits x ≤ a := PySem.intBits_le_iff.mpr (by
  have e : ((x.natAbs : Nat) : Int) = x := by omega
  have e2 : (((2 ^ a : Nat)) : Int) = 2 ^ a := by simp
  omega)
theorem fdivV {y q r x : Int} (hy : 0 < y) (h : x = q * y + r) (h0 : 0 ≤ r) (h1 : r < y) : x.fdiv y = q ∧ x.fmod y = r := by
  have e : x.fdiv y = q := by
    rw [Int.fdiv_eq_ediv_of_nonneg _ (Int.le_of_lt hy)]
    rw [h, Int.add_comm, Int.add_mul_ediv_right _ _ (by omega), Int.ediv_eq_zero_of_lt h0 h1]
    omega
  refine ⟨e, ?_⟩
  have := Int.mul_fdiv_add_fmod x y
  rw [e] at this
  have c := Int.mul_comm y q
  omega
theorem mulk_of {j n : Nat} (hj : j ≤ 1000) (hn : n ≤ 1000) : MulK (j : Int) (n : Int) ((j * n : Nat) : Int) :=
  ⟨mulok_small (Nat.lt_of_le_of_lt (show (j : Int).natAbs ≤ 1000 by omega) (by decide)) (Nat.lt_of_le_of_lt (show (n : Int).natAbs ≤ 1000 by omega) (by decide)), (Int.natCast_mul j n).symm⟩
theorem shlk_of {x : Int} {a b : Nat} (hx : intBits x ≤ a) (hab : a + b ≤ 1000000) : ShlK x (b : Int) (x * 2 ^ b) := by
  refine ⟨by omega, ?_, rfl⟩
  have : (2 : Int) ^ 27 = 134217728 := by decide
  omega
theorem div_of' {x y : Int} (h0 : y ≠ 0) (hy : intBits y ≤ 1000) : DivK x y (x.fdiv y) (x.fmod y) := ⟨h0, PyProof.noPylong_of_log2 (by
  have : y.natAbs < 2 ^ 1000 := PySem.intBits_le_iff.mp hy
  have h : y.natAbs.log2 < 1000 := (Nat.log2_lt (by omega)).mpr this
  omega), rfl, rfl⟩
theorem fill_of {n : Nat} (hn : n ≤ 500) : ∀ (f : Nat) (ds : List Int), ds.length ≤ f → ds ≠ [] → f ≤ 500 → DB n ds → Fill (n : Int) (V n ds) ds.length ds
  | 0, ds, hl, h0, _, _ => absurd (List.length_eq_zero_iff.mp (Nat.le_zero.mp hl)) h0
  | f + 1, ds, hl, h0, hf, hb => by
    match ds, hl, h0, hb with
    | [], _, h0, _ => exact absurd rfl h0
    | [d], _, _, _ =>
      have e : V n [d] = d := by simp [V]
      rw [e]; exact .one d
    | d :: d' :: r, hl, _, hb =>
      generalize hds : d :: d' :: r = ds at hl hb ⊢
      have h2 : 2 ≤ ds.length := by rw [← hds]; simp
      have hj : (ds.take (ds.length / 2)).length = ds.length / 2 := by rw [List.length_take]; omega
      have hj2 : (ds.drop (ds.length / 2)).length = ds.length - ds.length / 2 := List.length_drop
      have e : ds.take (ds.length / 2) ++ ds.drop (ds.length / 2) = ds := List.take_append_drop _ _
      have b1 : DB n (ds.take (ds.length / 2)) := fun x hx => hb x (List.mem_of_mem_take hx)
      have b2 : DB n (ds.drop (ds.length / 2)) := fun x hx => hb x (List.mem_of_mem_drop hx)
      have f1 := fill_of hn f (ds.take (ds.length / 2)) (by omega) (fun h => by rw [h] at hj; simp at hj; omega) (by omega) b1
      have f2 := fill_of hn f (ds.drop (ds.length / 2)) (by omega) (fun h => by rw [h] at hj2; simp at hj2; omega) (by omega) b2
      have v1 := V_lt n _ b1
      have v2 := V_lt n _ b2
      have hV := V_app n (ds.drop (ds.length / 2)) (ds.take (ds.length / 2))
      rw [e, hj] at hV
      rw [hj] at f1 v1
      rw [hj2] at f2 v2
      have hnj : n * (ds.length / 2) = ds.length / 2 * n := Nat.mul_comm _ _
      rw [hnj] at hV v1
      have hp : (0 : Int) < 2 ^ (ds.length / 2 * n) := Int.pow_pos (by decide)
      have q := fdivV (x := V n ds) (q := V n (ds.drop (ds.length / 2))) (r := V n (ds.take (ds.length / 2))) hp (by rw [hV, Int.mul_comm (2 ^ (ds.length / 2 * n))]; exact Int.add_comm _ _) v1.1 v1.2
      have hx0 : 0 ≤ V n ds := (V_lt n ds hb).1
      have hxr := xor_low hx0 (ds.length / 2 * n)
      rw [q.1, q.2] at hxr
      have hsz : n * (ds.length - ds.length / 2) ≤ 500 * 500 := Nat.mul_le_mul hn (by omega)
      have hsz2 : ds.length / 2 * n ≤ 500 * 500 := Nat.mul_le_mul (by omega) hn
      have r := Fill.two (n := (n : Int)) (x := V n ds) (by omega) (by omega) (mulk_of (j := ds.length / 2) (by omega) (by omega)) ⟨by omega, q.1⟩ (shlk_of (bits_of v2.1 v2.2) (by omega)) ⟨hxr⟩ f1 f2
      have hlen : ds.length / 2 + (ds.length - ds.length / 2) = ds.length := by omega
      rw [e, hlen] at r
      exact r
theorem dig_of {n : Nat} (hn : n ≤ 500) : ∀ (f : Nat) (ds : List Int), ds.length ≤ f → ds ≠ [] → f ≤ 500 → DB n ds → Dig (n : Int) ds (V n ds)
  | 0, ds, hl, h0, _, _ => absurd (List.length_eq_zero_iff.mp (Nat.le_zero.mp hl)) h0
  | f + 1, ds, hl, h0, hf, hb => by
    match ds, hl, h0, hb with
    | [], _, h0, _ => exact absurd rfl h0
    | [d], _, _, _ =>
      have e : V n [d] = d := by simp [V]
      rw [e]; exact .one d
    | d :: d' :: r, hl, _, hb =>
      generalize hds : d :: d' :: r = ds at hl hb ⊢
      have h2 : 2 ≤ ds.length := by rw [← hds]; simp
      have hj : (ds.take (ds.length / 2)).length = ds.length / 2 := by rw [List.length_take]; omega
      have hj2 : (ds.drop (ds.length / 2)).length = ds.length - ds.length / 2 := List.length_drop
      have e : ds.take (ds.length / 2) ++ ds.drop (ds.length / 2) = ds := List.take_append_drop _ _
      have b1 : DB n (ds.take (ds.length / 2)) := fun x hx => hb x (List.mem_of_mem_take hx)
      have b2 : DB n (ds.drop (ds.length / 2)) := fun x hx => hb x (List.mem_of_mem_drop hx)
      have f1 := dig_of hn f (ds.take (ds.length / 2)) (by omega) (fun h => by rw [h] at hj; simp at hj; omega) (by omega) b1
      have f2 := dig_of hn f (ds.drop (ds.length / 2)) (by omega) (fun h => by rw [h] at hj2; simp at hj2; omega) (by omega) b2
      have v2 := V_lt n _ b2
      have hV := V_app n (ds.drop (ds.length / 2)) (ds.take (ds.length / 2))
      rw [e, hj] at hV
      rw [hj2] at v2
      have hsz : n * (ds.length - ds.length / 2) ≤ 500 * 500 := Nat.mul_le_mul hn (by omega)
      have hsz2 : ds.length / 2 * n ≤ 500 * 500 := Nat.mul_le_mul (by omega) hn
      have r := Dig.two (n := (n : Int)) (by omega) (by omega) (by rw [hj]; exact mulk_of (by omega) (by omega)) (shlk_of (bits_of v2.1 v2.2) (by omega)) f1 f2
      have hnj : n * (ds.length / 2) = ds.length / 2 * n := Nat.mul_comm _ _
      have ev : V n (ds.drop (ds.length / 2)) * 2 ^ (ds.length / 2 * n) + V n (ds.take (ds.length / 2)) = V n ds := by rw [hV, hnj, Int.mul_comm]; omega
      rw [e, ev] at r
      exact r
theorem digs (n : Nat) : ∀ (k : Nat) (x : Int), 0 ≤ x → x < 2 ^ (n * k) → ∃ ds, ds.length = k ∧ DB n ds ∧ V n ds = x
  | 0, x, h0, h1 => ⟨[], rfl, fun _ h => (nomatch h), by simp [V] at *; omega⟩
  | k + 1, x, h0, h1 => by
    have hp : (0 : Int) < 2 ^ n := Int.pow_pos (by decide)
    have e := Int.mul_fdiv_add_fmod x (2 ^ n)
    have r0 := Int.fmod_nonneg_of_pos x hp
    have r1 := Int.fmod_lt_of_pos x hp
    rw [Nat.mul_add, Nat.mul_one, Int.pow_add] at h1
    have q0 : 0 ≤ x.fdiv (2 ^ n) := Int.fdiv_nonneg h0 (by omega)
    have q1 : x.fdiv (2 ^ n) < 2 ^ (n * k) := by
      refine Int.lt_of_mul_lt_mul_left (a := 2 ^ n) ?_ (by omega)
      rw [Int.mul_comm (2 ^ n) (2 ^ (n * k))]
      omega
    obtain ⟨ds, a, b, c⟩ := digs n k (x.fdiv (2 ^ n)) q0 q1
    refine ⟨x.fmod (2 ^ n) :: ds, by rw [List.length_cons, a], fun d hd => ?_, by rw [V, c]; omega⟩
    rcases List.mem_cons.mp hd with rfl | hd
    · exact ⟨r0, r1⟩
    · exact b d hd
theorem V_zero (n : Nat) : ∀ ds : List Int, DB n ds → V n ds = 0 → ds = List.replicate ds.length 0
  | [], _, _ => rfl
  | d :: r, h, e => by
    have hd := h d (List.mem_cons_self ..)
    have hr : DB n r := fun x hx => h x (List.mem_cons_of_mem _ hx)
    have ih := V_lt n r hr
    have hp : (0 : Int) < 2 ^ n := Int.pow_pos (by decide)
    have h1 : 0 ≤ 2 ^ n * V n r := Int.mul_nonneg (by omega) ih.1
    rw [V] at e
    have h2 : 2 ^ n * V n r = 0 := by omega
    have h3 : V n r = 0 := (Int.mul_eq_zero.mp h2).resolve_left (by omega)
    have h4 : d = 0 := by omega
    rw [List.length_cons, List.replicate_succ, ← V_zero n r hr h3, h4]
/-- the count of digits -/
theorem fdk_of {n b : Nat} (hn : 0 < n) : FdK ((b : Int) + (n : Int) - 1) (n : Int) (((b + n - 1) / n : Nat) : Int) := ⟨by
  rw [Int.fdiv_eq_ediv_of_nonneg _ (by omega)]
  have e : (b : Int) + (n : Int) - 1 = ((b + n - 1 : Nat) : Int) := by omega
  rw [e]
  exact (Int.natCast_ediv _ _).symm⟩
theorem cnt_hi {n b : Nat} (hn : 0 < n) : b ≤ n * ((b + n - 1) / n) := by
  have := Nat.div_add_mod (b + n - 1) n
  have := Nat.mod_lt (b + n - 1) hn
  omega
theorem cnt_le {n b k : Nat} (hn : 0 < n) (h : b ≤ n * k) : (b + n - 1) / n ≤ k := by
  refine Nat.le_of_lt_succ ((Nat.div_lt_iff_lt_mul hn).mpr ?_)
  rw [Nat.succ_mul, Nat.mul_comm k n]
  omega
theorem lt_bits {x : Int} (h0 : 0 ≤ x) {a : Nat} (h : intBits x ≤ a) : x < 2 ^ a := by
  have := PySem.intBits_le_iff.mp h
  have e : ((x.natAbs : Nat) : Int) = x := by omega
  have e2 : (((2 ^ a : Nat)) : Int) = 2 ^ a := by simp
  omega
theorem bits_zero {x : Int} (h0 : 0 ≤ x) (h : intBits x = 0) : x = 0 := by
  have := lt_bits h0 (Nat.le_of_eq h)
  simp at this
  omega
/-- what _int2digits makes of the number with the digits cs: these, less the zeros at the top -/
theorem cut_of {n : Nat} (hn : 0 < n) (hn5 : n ≤ 500) {cs : List Int} (hb : DB n cs) (hl : cs.length ≤ 500) : ∃ k ds, Cut (n : Int) (V n cs) k ds ∧ FdK ((intBits (V n cs) : Int) + (n : Int) - 1) (n : Int) (k : Int) ∧ k ≤ cs.length ∧ ds ++ List.replicate (cs.length - k) 0 = cs := by
  have v := V_lt n cs hb
  refine ⟨(intBits (V n cs) + n - 1) / n, cs.take ((intBits (V n cs) + n - 1) / n), ?_, fdk_of hn, cnt_le hn (bits_of v.1 v.2), ?_⟩
  all_goals
    have hk := cnt_le hn (bits_of v.1 v.2)
    generalize hkk : (intBits (V n cs) + n - 1) / n = k at hk
    have b1 : DB n (cs.take k) := fun x hx => hb x (List.mem_of_mem_take hx)
    have b2 : DB n (cs.drop k) := fun x hx => hb x (List.mem_of_mem_drop hx)
    have e : cs.take k ++ cs.drop k = cs := List.take_append_drop _ _
    have hlk : (cs.take k).length = k := by rw [List.length_take]; omega
    have hV := V_app n (cs.drop k) (cs.take k)
    rw [e, hlk] at hV
    have v1 := V_lt n _ b1
    have v2 := V_lt n _ b2
    have hx : V n cs < 2 ^ (n * k) := lt_bits v.1 (by rw [← hkk]; exact cnt_hi hn)
    have hp : (0 : Int) < 2 ^ (n * k) := Int.pow_pos (by decide)
    have hz : V n (cs.drop k) = 0 := by
      refine Int.le_antisymm (Int.le_of_lt_add_one ?_) v2.1
      refine Int.lt_of_mul_lt_mul_left (a := 2 ^ (n * k)) ?_ (by omega)
      omega
    have hdr := V_zero n _ b2 hz
    rw [List.length_drop] at hdr
  · rw [hz, Int.mul_zero, Int.add_zero] at hV
    by_cases h0 : V n cs = 0
    · have e0 : k = 0 := by
        rw [h0] at hkk
        have : intBits 0 = 0 := rfl
        rw [this, Nat.zero_add] at hkk
        rw [← hkk]; exact Nat.div_eq_of_lt (by omega)
      rw [h0, e0, List.take_zero]
      exact .zero
    · refine .some h0 ?_
      have := fill_of hn5 500 (cs.take k) (by omega) (fun h => h0 (by rw [hV, h]; rfl)) (by omega) b1
      rw [hlk, ← hV] at this
      exact this
  · rw [← hdr]; exact e
/-- digit by digit from the top -/
theorem divs_of {n : Nat} {y : Int} (hn : n ≤ 500) (hy : 0 < y) (hyn : y < 2 ^ n) : ∀ (as : List Int) (r : Int), DB n as → 0 ≤ r → r < y → ∃ qs z, Divs (n : Int) y as r qs z ∧ qs.length = as.length ∧ DB n qs ∧ 0 ≤ z ∧ z < y ∧ r * 2 ^ (n * as.length) + V n as.reverse = V n qs.reverse * y + z
  | [], r, _, h0, h1 => ⟨[], r, .nil, rfl, fun _ h => (nomatch h), h0, h1, by simp [V]⟩
  | a :: as, r, hb, h0, h1 => by
    have ha := hb a (List.mem_cons_self ..)
    have hp : (0 : Int) < 2 ^ n := Int.pow_pos (by decide)
    have e := Int.mul_fdiv_add_fmod (r * 2 ^ n + a) y
    have r0 := Int.fmod_nonneg_of_pos (r * 2 ^ n + a) hy
    have r1 := Int.fmod_lt_of_pos (r * 2 ^ n + a) hy
    have hw0 : 0 ≤ r * 2 ^ n := Int.mul_nonneg h0 (by omega)
    have hw1 : (r + 1) * 2 ^ n ≤ y * 2 ^ n := Int.mul_le_mul_of_nonneg_right (by omega) (by omega)
    rw [Int.add_mul, Int.one_mul] at hw1
    have q0 : 0 ≤ (r * 2 ^ n + a).fdiv y := Int.fdiv_nonneg (by omega) (by omega)
    have q1 : (r * 2 ^ n + a).fdiv y < 2 ^ n := by
      refine Int.lt_of_mul_lt_mul_left (a := y) ?_ (by omega)
      omega
    obtain ⟨qs, z, hd, hl, hq, z0, z1, hv⟩ := divs_of hn hy hyn as ((r * 2 ^ n + a).fmod y) (fun x hx => hb x (List.mem_cons_of_mem _ hx)) r0 r1
    have by1 : intBits y ≤ n := bits_of (by omega) hyn
    have br : intBits r ≤ n := bits_of h0 (by omega)
    have bw : intBits (r * 2 ^ n + a) ≤ n + n := bits_of (by omega) (by
      rw [Int.pow_add]
      have : y * 2 ^ n ≤ 2 ^ n * 2 ^ n := Int.mul_le_mul_of_nonneg_right (by omega) (by omega)
      omega)
    refine ⟨(r * 2 ^ n + a).fdiv y :: qs, z, .cons (shlk_of br (by omega)) (div_of' (by omega) (by omega)) (by omega) hd, by rw [List.length_cons, List.length_cons, hl], fun d hd => ?_, z0, z1, ?_⟩
    · rcases List.mem_cons.mp hd with rfl | hd
      · exact ⟨q0, q1⟩
      · exact hq d hd
    · rw [List.reverse_cons, List.reverse_cons, V_app, V_app, List.length_reverse, List.length_reverse, hl, List.length_cons, Nat.mul_add, Nat.mul_one, Int.pow_add]
      have ea : V n [a] = a := by simp [V]
      have eq : V n [(r * 2 ^ n + a).fdiv y] = (r * 2 ^ n + a).fdiv y := by simp [V]
      rw [ea, eq]
      have k1 : r * (2 ^ (n * as.length) * 2 ^ n) + (V n as.reverse + 2 ^ (n * as.length) * a) = 2 ^ (n * as.length) * (r * 2 ^ n + a) + V n as.reverse := by
        rw [Int.mul_add]
        have : r * (2 ^ (n * as.length) * 2 ^ n) = 2 ^ (n * as.length) * (r * 2 ^ n) := by rw [Int.mul_left_comm]
        omega
      rw [k1, ← e, Int.mul_add, Int.add_mul]
      have k2 : (2 : Int) ^ (n * as.length) * (y * (r * 2 ^ n + a).fdiv y) = 2 ^ (n * as.length) * (r * 2 ^ n + a).fdiv y * y := by rw [Int.mul_assoc, Int.mul_comm y]
      have k3 : (2 : Int) ^ (n * as.length) * ((r * 2 ^ n + a).fmod y) = (r * 2 ^ n + a).fmod y * 2 ^ (n * as.length) := Int.mul_comm _ _
      rw [e]
      omega

end
section
open PySem PySem.W PyProof.Rows PySem.Spec PySem.Calls
open PySem.Builtin.Int (intBits)
/-- how many stand behind each place -/
def sufP : List Int → List Int
  | [] => []
  | [_] => []
  | _ :: c :: r => (c :: r).sum :: sufP (c :: r)
theorem V_suf (n : Nat) : ∀ cs : List Int, V n cs = cs.sum + (2 ^ n - 1) * V n (sufP cs)
  | [] => by simp [V, sufP]
  | [c] => by simp [V, sufP]
  | a :: c :: r => by
    have ih := V_suf n (c :: r)
    have hs : (a :: c :: r).sum = a + (c :: r).sum := List.sum_cons
    have h1 : V n (a :: c :: r) = a + 2 ^ n * V n (c :: r) := rfl
    have h2 : V n (sufP (a :: c :: r)) = (c :: r).sum + 2 ^ n * V n (sufP (c :: r)) := rfl
    rw [hs, h1, h2, ih]
    generalize V n (sufP (c :: r)) = z
    generalize (c :: r).sum = t
    generalize (2 : Int) ^ n = X
    have e1 : X * (t + (X - 1) * z) = X * t + X * ((X - 1) * z) := Int.mul_add _ _ _
    have e2 : (X - 1) * (t + X * z) = (X - 1) * t + (X - 1) * (X * z) := Int.mul_add _ _ _
    have e3 : X * ((X - 1) * z) = (X - 1) * (X * z) := Int.mul_left_comm _ _ _
    have e4 : (X - 1) * t = X * t - t := by rw [Int.sub_mul, Int.one_mul]
    omega
theorem V_gap (n : Nat) : ∀ ds : List Int, ds ≠ [] → (∀ d ∈ ds, 0 ≤ d ∧ d + 1 < 2 ^ n) → V n ds + 1 < 2 ^ (n * ds.length)
  | [], h, _ => absurd rfl h
  | [d], _, h => by
    have := h d (List.mem_cons_self ..)
    simp [V]
    omega
  | d :: c :: r, _, h => by
    have hd := h d (List.mem_cons_self ..)
    have ih := V_gap n (c :: r) (by simp) fun x hx => h x (List.mem_cons_of_mem _ hx)
    rw [V]
    generalize hz : V n (c :: r) = z at *
    rw [List.length_cons, Nat.mul_add, Nat.mul_one, Int.pow_add]
    generalize hm : (2 : Int) ^ (n * (c :: r).length) = m at *
    have h2 : 2 ^ n * (z + 1 + 1) ≤ 2 ^ n * m := Int.mul_le_mul_of_nonneg_left (by omega) (by omega)
    rw [Int.mul_add, Int.mul_add, Int.mul_one] at h2
    rw [Int.mul_comm m]
    omega
/-- a turn of the ring: times the base, less the top -/
theorem V_turn (n : Nat) (top : Int) (cs : List Int) : V n (cs ++ [top]) * 2 ^ n = top * (2 ^ (n * (cs.length + 1)) - 1) + V n (top :: cs) := by
  have ea : V n [top] = top := by simp [V]
  have eb : V n (top :: cs) = top + 2 ^ n * V n cs := rfl
  rw [V_app, ea, eb, Nat.mul_add, Nat.mul_one, Int.pow_add]
  generalize (2 : Int) ^ n = X
  generalize (2 : Int) ^ (n * cs.length) = Y
  generalize V n cs = z
  have e1 : (z + Y * top) * X = z * X + Y * top * X := Int.add_mul _ _ _
  have e2 : top * (Y * X - 1) = top * (Y * X) - top := by rw [Int.mul_sub, Int.mul_one]
  have e3 : Y * top * X = top * (Y * X) := by rw [Int.mul_comm Y, Int.mul_assoc]
  have e4 : X * z = z * X := Int.mul_comm _ _
  omega
theorem bits_ones {a : Nat} (ha : 0 < a) : intBits (2 ^ a - 1) = a := by
  have hp : (0 : Int) < 2 ^ a := Int.pow_pos (by decide)
  have h1 : intBits (2 ^ a - 1) ≤ a := bits_of (by omega) (by omega)
  refine Nat.le_antisymm h1 (Nat.le_of_not_lt fun h => ?_)
  have h2 : (2 : Int) ^ a - 1 < 2 ^ (a - 1) := lt_bits (by omega) (by omega)
  obtain ⟨b, rfl⟩ : ∃ b, a = b + 1 := ⟨a - 1, by omega⟩
  rw [Nat.add_sub_cancel, Int.pow_succ] at h2
  have hq : (0 : Int) < 2 ^ b := Int.pow_pos (by decide)
  omega

end
section
open PySem PySem.W PyProof.Rows PySem.Spec PySem.Calls PyProof.V
theorem ints_app : ∀ {vs us : List Value} {ns ms : List Int}, IntsAre vs ns → IntsAre us ms → IntsAre (vs ++ us) (ns ++ ms)
  | _, _, _, _, .nil, h => h
  | _, _, _, _, .cons n t h, h2 => .cons n t (ints_app h h2)
section
variable {prog : Program} {w : World} {A : Around} {E : Value → Shared → Prop} {s : Shared} {h₀ : Heap} {L D D2 : Addr} {m : Str → Option Value} {news : List (Addr × Obj)} {n n2 : Nat} {vs us : List Value} {ns ms : List Int} {Q : Value → Shared → Prop}
theorem add_ints (F : Fr h₀ L s.heap m) (N : News h₀ L s.heap news) (h1 : (D, listOf vs.toArray n) ∈ news) (h2 : (D2, listOf us.toArray n2) ∈ news) (hi : IntsAre vs ns) (hj : IntsAre us ms) (hz : ns.length + ms.length ≤ 3000)
    (h : ∀ d h', Fr h₀ L h' m → News h₀ L h' ((d, listOf (vs ++ us).toArray 0) :: news) → (∀ p ∈ news, p.1 < d) → Q (.ref d) { s with heap := h' }) : wpAny (model prog w) A (binaryOp .Add (.ref D) (.ref D2)) Q E s := by
  refine add_arrays_ints F N (N.isList h1) (N.isList h2) (by rw [List.toList_toArray]; exact hi) (by rw [List.toList_toArray]; exact hj) (fun h' F' N' _ => h _ h' F' ?_ fun p hp => Heap.lt_size (N p hp).1) (by rw [sizeLine_eq]; omega)
  rw [List.toList_toArray, List.toList_toArray] at N'
  exact N'
theorem zeros_ints {t u : Tok} {k : Nat} (F : Fr h₀ L s.heap m) (N : News h₀ L s.heap news) (hm : (D, listOf #[Value.int 0 t] n) ∈ news) (hz : k ≤ 3000)
    (h : ∀ d h', Fr h₀ L h' m → News h₀ L h' ((d, listOf (List.replicate k (Value.int 0 t)).toArray 0) :: news) → (∀ p ∈ news, p.1 < d) → Q (.ref d) { s with heap := h' }) : wpAny (model prog w) A (binaryOp .Mult (.ref D) (.int (k : Int) u)) Q E s :=
  mul_list_res F N hm repz (by omega) (by omega) (by show 1 * _ ≤ _; omega) h
theorem len_ints (N : News h₀ L s.heap news) (hm : (D, listOf vs.toArray n) ∈ news) (hi : IntsAre vs ns) (hz : ns.length ≤ 3000) (h : ∀ t k, Q (.int (ns.length : Int) t) { s with toks := k }) : wpAny (model prog w) A (call (.builtin "len") [.ref D]) Q E s :=
  len_list (N.isList hm) (by rw [List.size_toArray, hi.length]; omega) (by rw [List.size_toArray, hi.length]; exact h _ _)
theorem ne_ints (N : News h₀ L s.heap news) (h1 : (D, listOf vs.toArray n) ∈ news) (h2 : (D2, listOf us.toArray n2) ∈ news) (hi : IntsAre vs ns) (hj : IntsAre us ms) (hu : A.units + 64 < cLine) (h : Q (.bool (!decide (ns = ms))) s) : wpAny (model prog w) A (compareOp .NotEq (.ref D) (.ref D2)) Q E s :=
  ne_intsK (N.isList h1) hi (N.isList h2) hj hu h
end

end
section
open PySem PySem.W PyProof.Rows PySem.Spec PySem.Calls
/-- addresses that are all different -/
def PW (l : List Addr) : Prop := l.Pairwise NeN
inductive Two (a b : Addr) : List Addr → Prop
  | l1 {r : List Addr} : b ∈ r → Two a b (a :: r)
  | l2 {r : List Addr} : a ∈ r → Two a b (b :: r)
  | tl {c : Addr} {r : List Addr} : Two a b r → Two a b (c :: r)
theorem pw_ne {a b : Addr} {l : List Addr} (h : PW l) (t : Two a b l) : a ≠ b := by
  induction t with
  | l1 hm => exact ((List.pairwise_cons.mp h).1 _ hm).h
  | l2 hm => exact fun e => ((List.pairwise_cons.mp h).1 _ hm).h e.symm
  | tl _ ih => exact ih (List.pairwise_cons.mp h).2
theorem pw_sep {D : Addr} {l : List (Addr × Obj)} (s : Sep D l) (h : PW (l.map (·.1))) : PW (D :: l.map (·.1)) :=
  List.pairwise_cons.mpr ⟨fun b hb => by
    obtain ⟨p, hp, rfl⟩ := List.mem_map.mp hb
    exact (s p hp).symm, h⟩
theorem pw_sub {l r : List Addr} (h : PW l) (s : List.Sublist r l) : PW r := List.Pairwise.sublist s h
theorem pw_ins {a : Addr} {l1 l2 : List Addr} (h : PW (a :: (l1 ++ l2))) : PW (l1 ++ a :: l2) :=
  (List.perm_middle.symm.pairwise_iff fun h => NeN.symm h).mp h
theorem pw_tl {a : Addr} {l : List Addr} (h : PW (a :: l)) : PW l := (List.pairwise_cons.mp h).2
def forBody : Stmt → List Stmt
  | .For _ _ b _ _ => b
  | _ => []
def cntP (ws : List Int) (n : Nat) : List Int := (List.range n).map fun (i : Nat) => ((ws.filter fun w => w == 1 + (i : Int)).length : Int)
def gtP (ws : List Int) (n : Nat) : List Int := (List.range (n - 1)).map fun (i : Nat) => ((ws.filter fun w => decide (w > 1 + (i : Int))).length : Int)
/-- the wishes a place on -/
def rotI (n : Nat) (ws : List Int) : List Int := ws.map fun w => w.fmod (n : Int) + 1
/-- the names' codes -/
def nmC (n : Nat) : List Nat := ([97, 65, 34, 92] : List Nat).take (n - 1)
/-- the cars' words -/
def wdC (n : Nat) (ws : List Int) : List (List Nat) := (List.range (n - 1)).map fun k => List.replicate (ws.getD k 0).toNat 46 ++ [(nmC n).getD k 0]
theorem range_getD (g : Int → Int) (ws : List Int) : (List.range ws.length).map (fun k => g (ws.getD k 0)) = ws.map g := by
  refine List.ext_getElem (by simp) fun i h1 h2 => ?_
  simp at h1 h2 ⊢
  rw [List.getElem?_eq_getElem h2]
  rfl
/-- a word made: dots and a name -/
theorem word_made {w : Int} {c : Nat} : mk (List.replicate w.toNat 46) ++ mk [c] = mk (List.replicate w.toNat 46 ++ [c]) := by
  refine mk_codes ?_
  show ((List.replicate w.toNat 46).toArray ++ [c].toArray).toList = _
  simp
theorem txts_of_el : ∀ (n : Nat) (g : Nat → Str) (ys : List Value), ys.length = n → (∀ k v, ys[k]? = some v → ∃ t, v = Value.str (g k) t) → ∃ ws : List (Str × Tok), ys = (ws.map fun p => Value.str p.1 p.2) ∧ ws.map (·.1) = (List.range n).map g
  | 0, g, ys, hl, _ => ⟨[], List.length_eq_zero_iff.mp hl, rfl⟩
  | n + 1, g, ys, hl, h => by
    cases ys with
    | nil => cases hl
    | cons v r =>
      obtain ⟨t, rfl⟩ := h 0 v rfl
      obtain ⟨ws, e1, e2⟩ := txts_of_el n (fun k => g (k + 1)) r (Nat.succ.inj hl) fun k v hk => h (k + 1) v hk
      refine ⟨(g 0, t) :: ws, by rw [List.map_cons, e1], ?_⟩
      rw [List.range_succ_eq_map, List.map_cons, List.map_cons, List.map_map, e2]
      rfl
theorem rot_in {n : Nat} {ws : List Int} (hn : 0 < n) : ∀ x ∈ rotI n ws, 1 ≤ x ∧ x ≤ (n : Int) := fun x hx => by
  obtain ⟨y, _, rfl⟩ := List.mem_map.mp hx
  have h0 := Int.fmod_nonneg_of_pos y (show (0 : Int) < n by omega)
  have h1 := Int.fmod_lt_of_pos y (show (0 : Int) < n by omega)
  omega
theorem wdC_ok {n : Nat} (hn : n = 4 ∨ n = 5) {ws : List Int} (hl : ws.length = n - 1) (hw : ∀ x ∈ ws, 1 ≤ x ∧ x ≤ (n : Int)) : ∀ l ∈ wdC n ws, Wd n l := fun l h => by
  obtain ⟨k, hk, rfl⟩ := List.mem_map.mp h
  have hk' := List.mem_range.mp hk
  have hx : ws.getD k 0 ∈ ws := by
    rw [List.getD_eq_getElem?_getD, List.getElem?_eq_getElem (by omega)]
    exact List.getElem_mem _
  have := hw _ hx
  refine ⟨(ws.getD k 0).toNat, (nmC n).getD k 0, by omega, by omega, ?_, rfl⟩
  unfold nmC
  rcases hn with rfl | rfl
  · match k, hk' with
    | 0, _ => exact .inl rfl
    | 1, _ => exact .inr (.inl rfl)
    | 2, _ => exact .inr (.inr (.inl rfl))
  · match k, hk' with
    | 0, _ => exact .inl rfl
    | 1, _ => exact .inr (.inl rfl)
    | 2, _ => exact .inr (.inr (.inl rfl))
    | 3, _ => exact .inr (.inr (.inr rfl))
theorem wdC_len (n : Nat) (ws : List Int) : (wdC n ws).length = n - 1 := by unfold wdC; rw [List.length_map, List.length_range]
theorem tx_at : ∀ {ws : List (Str × Tok)} {P : List (List Nat)} {k : Nat} {v : Value}, ws.map (·.1) = P.map mk → (ws.map fun p => Value.str p.1 p.2)[k]? = some v → ∃ l t, P[k]? = some l ∧ v = Value.str (mk l) t := fun {ws P k v} e h => by
  rw [List.getElem?_map] at h
  cases hw : ws[k]? with
  | none => rw [hw] at h; cases h
  | some p =>
    rw [hw] at h
    have e2 : (ws.map (·.1))[k]? = some p.1 := by rw [List.getElem?_map, hw]; rfl
    rw [e, List.getElem?_map] at e2
    cases hl : P[k]? with
    | none => rw [hl] at e2; cases e2
    | some l =>
      rw [hl] at e2
      exact ⟨l, p.2, rfl, by rw [← (Option.some.inj h : _ = v), (Option.some.inj e2 : mk l = p.1)]⟩
theorem range_getDL (g : List Nat → Int) (P : List (List Nat)) : (List.range P.length).map (fun k => g (P.getD k [])) = P.map g := by
  refine List.ext_getElem (by simp) fun i h1 h2 => ?_
  simp at h1 h2 ⊢
  rw [List.getElem?_eq_getElem h2]
  rfl
theorem range_srt (n : Nat) : ((List.range n).map fun (i : Nat) => 1 + (i : Int)).Pairwise (· ≤ ·) := by
  refine List.pairwise_map.mpr (List.Pairwise.imp ?_ List.pairwise_lt_range)
  intro a b h
  omega
theorem ints_of_get : ∀ (n : Nat) (g : Nat → Int) (ys : List Value), ys.length = n → (∀ k v, ys[k]? = some v → ∃ t, v = Value.int (g k) t) → IntsAre ys ((List.range n).map g)
  | 0, g, ys, hl, _ => by
    rw [List.length_eq_zero_iff.mp hl]; exact .nil
  | n + 1, g, ys, hl, h => by
    cases ys with
    | nil => cases hl
    | cons v r =>
      obtain ⟨t, rfl⟩ := h 0 v rfl
      have := ints_of_get n (fun k => g (k + 1)) r (Nat.succ.inj hl) fun k v hk => h (k + 1) v hk
      rw [List.range_succ_eq_map, List.map_cons, List.map_map]
      exact .cons _ _ this
section
variable {prog : Program} {w : World} {A : Around} {E : Value → Shared → Prop} {s : Shared} {h₀ : Heap} {L : Addr} {m : Str → Option Value} {news : List (Addr × Obj)}
theorem execs_cut {env : Env} {Q : Flow → Shared → Prop} {l1 l2 : List Stmt} (h : wpAny (model prog w) A (execs l1 env) (CutFlow (fun s' => wpAny (model prog w) A (execs l2 env) Q E s') Q) E s) : wpAny (model prog w) A (execs (l1 ++ l2) env) Q E s := fun Γ p hΓ => by
  have h1 := h Γ p hΓ
  clear h
  induction l1 generalizing p s with
  | nil => exact h1.out Γ p hΓ
  | cons st l1 ih =>
    rw [List.cons_append]
    rw [execs_cons, Sem.wp_bind'] at h1 ⊢
    refine Sem.wp_mono _ Γ _ (fun f p' s' h' => ?_) (fun _ _ _ h' => h') _ _ h1
    cases f with
    | next => exact ih p' h'
    | cont => exact h'
    | brk => exact h'
    | ret v => exact h'
theorem list_rga {r : Addr} {n : Nat} {a b : Int} {t₀ u₀ v₀ : Tok} {Q : Value → Shared → Prop} (hh : A.handled = none) (F : Fr h₀ L s.heap m) (N : News h₀ L s.heap news) (hr : IsRange s.heap r a b 1 t₀ u₀ v₀) (hb : b = a + (n : Int)) (ha : -1000000 < a) (ha2 : a < 1000000) (hz : n ≤ 3000)
    (h : ∀ D us c h' tk, Fr h₀ L h' m → News h₀ L h' ((D, listOf (List.toArray us) c) :: news) → (∀ p ∈ news, p.1 < D) → IntsAre us ((List.range n).map fun (i : Nat) => a + (i : Int)) → Q (.ref D) { s with heap := h', toks := tk }) :
    wpAny (model prog w) A (call (.type "list") [.ref r]) Q E s := by
  subst hb
  refine call_list_range hh hr (small_one (by omega) (by omega) (by omega) (by omega)) (rga_size a n) (by omega) fun h' tk acc c hk hD hI => ?_
  have hD' : h'.get? s.heap.objs.size = some (listOf (List.toArray acc.toList) c) := by
    rw [Array.toArray_toList]
    exact hD
  refine h _ acc.toList c h' tk (F.keeps hk) (news_pushed F N hk hD' rfl) (fun p hp => Heap.lt_size (N p hp).1) ?_
  refine ints_of_get _ _ _ (by rw [Array.length_toList]; exact hI.1) fun j v hj => ?_
  obtain ⟨t, ht⟩ := hI.2 j v (by rw [← hj, Array.getElem?_toList])
  exact ⟨t, by rw [ht, Int.mul_one]⟩
end

end
section
open PySem PySem.W PyProof.Rows PySem.Spec PySem.Calls
/-- whether the name of row k of hour h has a backslash -/
def escA (h k : Nat) : Bool := decide ((1 : Int) < (k : Int)) || (((h : Int) + (k : Int)).fmod 2 == 1)
def rowA (n : Nat) (ws : List Int) (h k : Nat) : List Nat := rowL (ws.getD k 0).toNat (escA h k) ((nmC n).getD k 0)
def rowsA (n : Nat) (ws : List Int) (h : Nat) : List (List Nat) := (List.range (n - 1)).map (rowA n ws h)
/-- a row as the program makes it -/
def rowS (n : Nat) (ws : List Int) (tot : Int) (h k : Nat) : Str := mk (rowA n ws h k) ++ endS (tot + (h : Int) + (k : Int))
theorem rowA_ok {n : Nat} (hn : n = 4 ∨ n = 5) {ws : List Int} (hl : ws.length = n - 1) (hw : ∀ x ∈ ws, 1 ≤ x ∧ x ≤ (n : Int)) {h k : Nat} (hk : k < n - 1) : RowOk (ws.getD k 0).toNat (escA h k) ((nmC n).getD k 0) := by
  have hx : ws.getD k 0 ∈ ws := by
    rw [List.getD_eq_getElem?_getD, List.getElem?_eq_getElem (by omega)]
    exact List.getElem_mem _
  have := hw _ hx
  refine ⟨by omega, by omega, ?_, ?_⟩
  · unfold nmC
    rcases hn with rfl | rfl
    · match k, hk with
      | 0, _ => exact .inl rfl
      | 1, _ => exact .inr (.inl rfl)
      | 2, _ => exact .inr (.inr (.inl rfl))
    · match k, hk with
      | 0, _ => exact .inl rfl
      | 1, _ => exact .inr (.inl rfl)
      | 2, _ => exact .inr (.inr (.inl rfl))
      | 3, _ => exact .inr (.inr (.inr rfl))
  · by_cases h1 : k ≤ 1
    · unfold nmC
      rcases hn with rfl | rfl
      · match k, h1 with
        | 0, _ => exact .inr (.inl rfl)
        | 1, _ => exact .inr (.inr rfl)
      · match k, h1 with
        | 0, _ => exact .inr (.inl rfl)
        | 1, _ => exact .inr (.inr rfl)
    · refine .inl ?_
      unfold escA
      rw [decide_eq_true (by omega : (1 : Int) < (k : Int))]
      rfl
theorem nm_at {n : Nat} (hn : n = 4 ∨ n = 5) {nms : List (Str × Tok)} (hnm : nms.map (·.1) = (nmC n).map fun c => mk [c]) {k : Nat} (hk : k < n - 1) : ∃ t, nms[k]? = some (mk [(nmC n).getD k 0], t) := by
  have e2 : (nmC n).length = n - 1 := by unfold nmC; rw [List.length_take]; show min (n - 1) 4 = n - 1; omega
  have e3 : (nms.map (·.1))[k]? = some (mk [(nmC n).getD k 0]) := by
    rw [hnm, List.getElem?_map, List.getD_eq_getElem?_getD, List.getElem?_eq_getElem (by omega)]; rfl
  rw [List.getElem?_map] at e3
  cases hp : nms[k]? with
  | none => rw [hp] at e3; cases e3
  | some p =>
    rw [hp] at e3
    exact ⟨p.2, by rw [← (Option.some.inj e3 : p.1 = _)]⟩
theorem rowsA_plain {n : Nat} (hn : n = 4 ∨ n = 5) {ws : List Int} (hl : ws.length = n - 1) (hw : ∀ x ∈ ws, 1 ≤ x ∧ x ≤ (n : Int)) {h : Nat} : ∀ l ∈ rowsA n ws h, Plain l := fun l hm => by
  obtain ⟨k, hk, rfl⟩ := List.mem_map.mp hm
  exact rowL_plain (rowA_ok hn hl hw (List.mem_range.mp hk))
theorem rowsA_at {n : Nat} {ws : List Int} {h k : Nat} (hk : k < n - 1) : (rowsA n ws h)[k]? = some (rowA n ws h k) := by
  unfold rowsA
  rw [List.getElem?_map, List.getElem?_range hk]
  rfl
theorem rowsA_len {n : Nat} {ws : List Int} {h : Nat} : (rowsA n ws h).length = n - 1 := by unfold rowsA; rw [List.length_map, List.length_range]
theorem glue_flat (hp : Int) (f : Nat → List Nat) : ∀ (c : Nat) (i : Nat), glueC hp (i : Int) ((List.range' i c).map f) = ((List.range' i c).map fun k => f k ++ endC (hp + (k : Int))).flatten
  | 0, _ => rfl
  | c + 1, i => by
    have ih := glue_flat hp f c (i + 1)
    have e : ((i + 1 : Nat) : Int) = (i : Int) + 1 := by omega
    rw [e] at ih
    rw [List.range'_succ, List.map_cons, List.map_cons, List.flatten_cons, glueC, ih, List.append_assoc]
theorem sum_le {b : Nat} : ∀ l : List Nat, (∀ x ∈ l, x ≤ b) → l.sum ≤ b * l.length
  | [], _ => Nat.zero_le _
  | x :: r, h => by
    have ih := sum_le r fun y hy => h y (List.mem_cons_of_mem _ hy)
    have := h x (List.mem_cons_self ..)
    rw [List.sum_cons, List.length_cons, Nat.mul_succ]
    omega
theorem rowsA_sum {n : Nat} (hn : n = 4 ∨ n = 5) {ws : List Int} (hl : ws.length = n - 1) (hw : ∀ x ∈ ws, 1 ≤ x ∧ x ≤ (n : Int)) {h : Nat} : ((rowsA n ws h).map List.length).sum ≤ 48 := by
  have := sum_le (b := 12) ((rowsA n ws h).map List.length) fun x hx => by
    obtain ⟨l, hm, rfl⟩ := List.mem_map.mp hx
    obtain ⟨k, hk, rfl⟩ := List.mem_map.mp hm
    obtain ⟨_, h2, _, _⟩ := rowA_ok hn hl hw (h := h) (List.mem_range.mp hk)
    unfold rowA rowL
    rw [List.length_append, List.length_append, List.length_replicate]
    have : (if escA h k = true then [92] else ([] : List Nat)).length ≤ 1 := by split <;> simp
    simp only [List.length_singleton]
    omega
  rw [List.length_map, rowsA_len] at this
  omega
theorem q_len : ∀ ls : List (List Nat), (qC ls).length ≤ (ls.map List.length).sum + 3 * ls.length
  | [] => Nat.le_refl _
  | l :: r => by
    have ih := q_len r
    have : (dotq l).length ≤ l.length + 1 := by
      cases l with
      | nil => exact Nat.zero_le _
      | cons c l =>
        rw [dotq]
        split <;> simp
    rw [qC]
    simp only [List.length_append, List.map_cons, List.sum_cons, List.length_cons]
    omega
/-- the mail's text -/
theorem mail_codes {n : Nat} {ws : List Int} {tot : Int} {h : Nat} : (Txt.join ⟨#[]⟩ ((List.range (n - 1)).map (rowS n ws tot h))).cps.toList = glueC (tot + (h : Int)) 0 (rowsA n ws h) := by
  rw [join_codes]
  unfold rowsA
  have := glue_flat (tot + (h : Int)) (rowA n ws h) (n - 1) 0
  rw [← List.range_eq_range'] at this
  have e0 : ((0 : Nat) : Int) = 0 := rfl
  rw [e0] at this
  rw [this, List.map_map]
  congr 1
  refine List.map_congr_left fun k _ => ?_
  show (rowS n ws tot h k).cps.toList = _
  unfold rowS
  show ((mk (rowA n ws h k)).cps ++ (endS (tot + (h : Int) + (k : Int))).cps).toList = _
  rw [Array.toList_append]
  show (mk (rowA n ws h k)).cps.toList ++ (mk (endC _)).cps.toList = _
  rw [mk_list, mk_list]
theorem mail_len {n : Nat} (hn : n = 4 ∨ n = 5) {ws : List Int} (hl : ws.length = n - 1) (hw : ∀ x ∈ ws, 1 ≤ x ∧ x ≤ (n : Int)) {tot : Int} {h : Nat} : (Txt.join ⟨#[]⟩ ((List.range (n - 1)).map (rowS n ws tot h))).cps.size ≤ 100 := by
  have := congrArg List.length (mail_codes (n := n) (ws := ws) (tot := tot) (h := h))
  have h2 := glue_len (tot + (h : Int)) (rowsA n ws h) 0
  have h3 := rowsA_sum hn hl hw (h := h)
  rw [rowsA_len] at h2
  rw [Array.length_toList] at this
  omega
theorem mail_quoted {n : Nat} (hn : n = 4 ∨ n = 5) {ws : List Int} (hl : ws.length = n - 1) (hw : ∀ x ∈ ws, 1 ≤ x ∧ x ≤ (n : Int)) {tot : Int} {h : Nat} {z : Str} (hz : z.cps.toList = sub1 true (sub2 (Txt.join ⟨#[]⟩ ((List.range (n - 1)).map (rowS n ws tot h))).cps.toList)) : z.cps.toList = qC (rowsA n ws h) ∧ z.cps.size ≤ 100 := by
  rw [mail_codes, quote_glue _ _ _ (rowsA_plain hn hl hw)] at hz
  refine ⟨hz, ?_⟩
  have := congrArg List.length hz
  have h2 := q_len (rowsA n ws h)
  have h3 := rowsA_sum hn hl hw (h := h)
  rw [rowsA_len] at h2
  rw [Array.length_toList] at this
  omega
theorem row_small2 {n : Nat} (hn : n = 4 ∨ n = 5) {ws : List Int} (hl : ws.length = n - 1) (hw : ∀ x ∈ ws, 1 ≤ x ∧ x ≤ (n : Int)) {tot : Int} {h k : Nat} (hk : k < n - 1) : (rowS n ws tot h k).length ≤ 16 := by
  have h1 : (rowA n ws h k).length ≤ 12 := by
    obtain ⟨_, h2, _, _⟩ := rowA_ok hn hl hw (h := h) hk
    unfold rowA rowL
    rw [List.length_append, List.length_append, List.length_replicate]
    have : (if escA h k = true then [92] else ([] : List Nat)).length ≤ 1 := by split <;> simp
    simp only [List.length_singleton]
    omega
  have e : (endC (tot + (h : Int) + (k : Int))).length ≤ 2 := by unfold endC; split <;> (try split) <;> simp
  unfold rowS
  show (((mk (rowA n ws h k)).cps ++ (endS (tot + (h : Int) + (k : Int))).cps)).size ≤ 16
  have e1 := mk_length (rowA n ws h k)
  have e2 := mk_length (endC (tot + (h : Int) + (k : Int)))
  unfold Str.length at e1 e2
  rw [Array.size_append, e1]
  unfold endS
  rw [e2]
  omega
theorem rows_sum {n : Nat} (hn : n = 4 ∨ n = 5) {ws : List Int} (hl : ws.length = n - 1) (hw : ∀ x ∈ ws, 1 ≤ x ∧ x ≤ (n : Int)) {tot : Int} {h : Nat} : (((List.range (n - 1)).map (rowS n ws tot h)).map (·.length)).sum + ((List.range (n - 1)).map (rowS n ws tot h)).length ≤ 100000 := by
  have := sum_le (b := 16) (((List.range (n - 1)).map (rowS n ws tot h)).map (·.length)) fun x hx => by
    obtain ⟨l, hm, rfl⟩ := List.mem_map.mp hx
    obtain ⟨k, hk, rfl⟩ := List.mem_map.mp hm
    exact row_small2 hn hl hw (List.mem_range.mp hk)
  rw [List.length_map, List.length_map, List.length_range] at this
  rw [List.length_map, List.length_range]
  omega
/-- the name as the row has it -/
theorem nm_esc {h k : Nat} {c : Nat} {x : Str} (e : escA h k = true) (hx : x = mk [c]) : Str.ofString "\\" ++ x = mk ((if escA h k then [92] else []) ++ [c]) := by
  subst hx
  rw [e]
  refine mk_codes ?_
  have : Str.ofString "\\" = mk [92] := by decide +kernel
  rw [this]
  rfl
theorem nm_plain {h k : Nat} {c : Nat} {x : Str} (e : escA h k = false) (hx : x = mk [c]) : x = mk ((if escA h k then [92] else []) ++ [c]) := by
  subst hx
  rw [e]
  rfl
theorem mk_fits {x : Str} {l : List Nat} (hx : x.length ≤ 100) (hl : l.length ≤ 100) : x.length + (mk l).length ≤ sizeLine := by
  rw [mk_length, sizeLine_eq]; omega
theorem bs_fits {c : Nat} : (Str.ofString "\\").length + (mk [c]).length ≤ sizeLine := mk_fits (by decide +kernel) (show 1 ≤ 100 by decide)
theorem esc_gt {h k : Nat} (e : (1 : Int) < (k : Int)) : escA h k = true := by unfold escA; rw [decide_eq_true e]; rfl
theorem esc_odd {h k : Nat} (e : ((h : Int) + (k : Int)).fmod 2 = 1) : escA h k = true := by unfold escA; rw [e]; exact Bool.or_true _
theorem esc_no {h k : Nat} (e : ¬ (1 : Int) < (k : Int)) (e2 : ¬ ((h : Int) + (k : Int)).fmod 2 = 1) : escA h k = false := by
  unfold escA
  rw [decide_eq_false e, Bool.false_or]
  simpa using e2
theorem row_made {l r : List Nat} : mk l ++ mk r = mk (l ++ r) := by
  refine mk_codes ?_
  show (l.toArray ++ r.toArray).toList = _
  simp
theorem end_a {z : Int} (h : z.fmod 3 = 0) : Str.ofString "\n" = endS z := by
  unfold endS endC
  rw [if_pos h]
  decide +kernel
theorem end_b {z : Int} (h : z.fmod 3 = 1) : Str.ofString "\r\n" = endS z := by
  unfold endS endC
  rw [if_neg (by omega), if_pos h]
  decide +kernel
theorem end_c {z : Int} (h : z.fmod 3 = 2) : Str.ofString "\r" = endS z := by
  unfold endS endC
  rw [if_neg (by omega), if_neg (by omega)]
  decide +kernel
theorem end_fits {l : List Nat} {x : Str} (hl : l.length ≤ 100) (hx : x.length ≤ 100) : (mk l).length + x.length ≤ sizeLine := by
  rw [mk_length, sizeLine_eq]; omega
theorem esc_len {h k c : Nat} : ((if escA h k = true then [92] else []) ++ [c]).length ≤ 100 := by split <;> simp
theorem rowA_small {n : Nat} (hn : n = 4 ∨ n = 5) {ws : List Int} (hl : ws.length = n - 1) (hw : ∀ x ∈ ws, 1 ≤ x ∧ x ≤ (n : Int)) {h k : Nat} (hk : k < n - 1) : (rowA n ws h k).length ≤ 100 := by
  obtain ⟨_, h2, _, _⟩ := rowA_ok hn hl hw (h := h) hk
  unfold rowA rowL
  rw [List.length_append, List.length_append, List.length_replicate]
  have : (if escA h k = true then [92] else ([] : List Nat)).length ≤ 1 := by split <;> simp
  simp only [List.length_singleton]
  omega
theorem row_end {n : Nat} {ws : List Int} {tot : Int} {h k : Nat} {x : Str} (e : x = endS (tot + (h : Int) + (k : Int))) : mk (List.replicate (ws.getD k 0).toNat 46 ++ ((if escA h k = true then [92] else []) ++ [(nmC n).getD k 0])) ++ x = rowS n ws tot h k := by
  subst e
  rfl
theorem sep_tl {I R : Addr} {o o' : Obj} {led : List (Addr × Obj)} (s : Sep I ((R, o) :: led)) : Sep I ((R, o') :: led) := List.forall_mem_cons.mpr ⟨s (R, o) (.head _), fun p hp => s p (.tail _ hp)⟩
/-- the row's end, out of the three by turns -/
theorem end_pick (z : Int) (t1 t2 t3 : Tok) : ∃ t, (#[Value.str (Str.ofString "\n") t1, Value.str (Str.ofString "\r\n") t2, Value.str (Str.ofString "\r") t3] : Array Value)[(z.fmod 3).toNat]? = some (Value.str (endS z) t) := by
  have h0 := Int.fmod_nonneg_of_pos z (show (0 : Int) < 3 by decide)
  have h1 := Int.fmod_lt_of_pos z (show (0 : Int) < 3 by decide)
  rcases (show z.fmod 3 = 0 ∨ z.fmod 3 = 1 ∨ z.fmod 3 = 2 by omega) with h | h | h
  · exact ⟨t1, by rw [h, ← end_a h]; rfl⟩
  · exact ⟨t2, by rw [h, ← end_b h]; rfl⟩
  · exact ⟨t3, by rw [h, ← end_c h]; rfl⟩
theorem end_len (z : Int) : (endS z).length ≤ 100 := by
  unfold endS
  rw [mk_length]
  unfold endC
  split <;> (try split) <;> decide
theorem item_end {prog : Program} {w : World} {A : Around} {E : Value → Shared → Prop} {s : Shared} {h₀ : Heap} {L D : Addr} {news : List (Addr × Obj)} {n : Nat} {z : Int} {t1 t2 t3 u : Tok} {value slice : PySem.Expr} {Q : Value → Shared → Prop} (N : News h₀ L s.heap news)
    (hm : (D, listOf #[Value.str (Str.ofString "\n") t1, Value.str (Str.ofString "\r\n") t2, Value.str (Str.ofString "\r") t3] n) ∈ news) (h : ∀ t, Q (.str (endS z) t) s)
    (hs : subscripted slice false (.ref D) (.int (z.fmod 3) u) = operate [.ref D, .int (z.fmod 3) u] (getItem (.ref D) (.int (z.fmod 3) u))) :
    wpAny (model prog w) A (subscriptTail value slice (.ref D) (.int (z.fmod 3) u)) Q E s := by
  obtain ⟨t, ht⟩ := end_pick z t1 t2 t3
  have h1 := Int.fmod_lt_of_pos z (show (0 : Int) < 3 by decide)
  exact tail_any (N.isList hm).typeIs slot_list_getitem.lookup (wpAny_getItem_list (N.isList hm) (Int.fmod_nonneg_of_pos z (by decide)) (by omega) ht (h t)) hs
/-- the loop that makes the rows -/
inductive RowJ (ks : List (Str × Value)) (led : List (Addr × Obj)) (R : Addr) (f : Nat → Str) (k : Nat) (m : Str → Option Value) : List (Addr × Obj) → Prop
  | mk (rs : List (Str × Tok)) (eR : Nat) (hm : ∀ p ∈ (Str.ofString "rows", Value.ref R) :: ks, m p.1 = some p.2) (hr : rs.map (·.1) = (List.range k).map f) : RowJ ks led R f k m ((R, listOf (txts rs) eR) :: led)
theorem rows_push {rs : List (Str × Tok)} {f : Nat → Str} {k : Nat} {x : Str} {t : Tok} (hr : rs.map (·.1) = (List.range k).map f) (hx : x = f k) : (rs ++ [(x, t)]).map (·.1) = (List.range (k + 1)).map f := by
  rw [List.map_append, hr, List.range_succ, List.map_append, hx]
  rfl
theorem upd2 {I R : Addr} {oI o o' : Obj} {led : List (Addr × Obj)} (sI : Sep I ((R, o) :: led)) (sR : Sep R led) : Upd R o o' ((I, oI) :: (R, o) :: led) ((I, oI) :: (R, o') :: led) := .tail ((sI _ (.head _)).symm.h) (.head fun p hp => (sR p hp).h)
theorem sep_lt {R : Addr} {led : List (Addr × Obj)} (h : ∀ p ∈ led, p.1 < R) : Sep R led := fun p hp => ⟨Nat.ne_of_lt (h p hp)⟩
/-- a state where ways meet -/
inductive AtZ (s : Shared) (h₀ : Heap) (L : Addr) (news : List (Addr × Obj)) (P : (Str → Option Value) → Prop) : Shared → Prop
  | mk {h' : Heap} {tk' : Nat} {m : Str → Option Value} (F : Fr h₀ L h' m) (N : News h₀ L h' news) (p : P m) : AtZ s h₀ L news P { s with heap := h', toks := tk' }
theorem execs_join {prog : Program} {w : World} {A : Around} {E : Value → Shared → Prop} {s : Shared} {env : Env} {Q : Flow → Shared → Prop} {l1 l2 : List Stmt} (Z : Shared → Prop) (h : wpAny (model prog w) A (execs l1 env) (CutFlow Z Q) E s) (k : ∀ s', Z s' → wpAny (model prog w) A (execs l2 env) Q E s') : wpAny (model prog w) A (execs (l1 ++ l2) env) Q E s :=
  execs_cut (wpAny_mono h (fun f s' h' => match f, h' with
    | .next, h' => k s' h'
    | .cont, h' => h'
    | .brk, h' => h'
    | .ret _, h' => h') fun _ _ e => e)
theorem pw_out {a : Addr} {l1 l2 : List Addr} (h : PW (l1 ++ a :: l2)) : PW (a :: (l1 ++ l2)) := (List.perm_middle.pairwise_iff fun h => NeN.symm h).mp h
theorem sep_pw {y : Addr} {l : List (Addr × Obj)} (h : PW (y :: l.map (·.1))) : Sep y l := fun p hp => ((List.pairwise_cons.mp h).1 _ (List.mem_map.mpr ⟨p, hp, rfl⟩)).symm
theorem pw_new {y b : Addr} {l : List (Addr × Obj)} (s : Sep y l) (ne : NeN y b) (h : PW (b :: l.map (·.1))) : PW (y :: b :: l.map (·.1)) :=
  List.pairwise_cons.mpr ⟨List.forall_mem_cons.mpr ⟨ne, fun c hc => by
    obtain ⟨p, hp, rfl⟩ := List.mem_map.mp hc
    exact (s p hp).symm⟩, h⟩

end
section
open PySem PySem.W PyProof.Rows PySem.Spec PySem.Calls
/-- what the lexer's own objects are -/
def lexL (w : World) (xi xd fx fd fl D cell pb fpb cdo : Addr) (oc co : Obj) (k1 k2 k3 k4 k5 q1 q2 q3 q4 q5 q6 q7 kl : Tok) (qual : Str) (mn ctv : Value) (ln : Int) (n np : Nat) (cts : List (Nat × Tok)) (led : List (Addr × Obj)) : List (Addr × Obj) :=
  (xi, instObj 128 xd) :: (xd, dictOf [{ hash := PyData.keyHash w.params (Str.ofString "lineno"), key := Value.str (Str.ofString "lineno") k1, val := Value.int ln kl }, { hash := PyData.keyHash w.params (Str.ofString "instream"), key := Value.str (Str.ofString "instream") k2, val := Value.ref fx }, { hash := PyData.keyHash w.params (Str.ofString "whitespace"), key := Value.str (Str.ofString "whitespace") k3, val := Value.str (Str.ofString "\n\t\x0d ") k4 }, { hash := PyData.keyHash w.params (Str.ofString "pushback"), key := Value.str (Str.ofString "pushback") k5, val := Value.ref pb }] 4) :: (fx, instObj 128 fd) :: (fd, dictOf [{ hash := PyData.keyHash w.params (Str.ofString "lineno"), key := Value.str (Str.ofString "lineno") q1, val := Value.int 1 q6 }, { hash := PyData.keyHash w.params (Str.ofString "instream"), key := Value.str (Str.ofString "instream") q2, val := Value.none }, { hash := PyData.keyHash w.params (Str.ofString "whitespace"), key := Value.str (Str.ofString "whitespace") q3, val := Value.str (Str.ofString "\n\t\x0d ") q4 }, { hash := PyData.keyHash w.params (Str.ofString "pushback"), key := Value.str (Str.ofString "pushback") q5, val := Value.ref fpb }, { hash := PyData.keyHash w.params (Str.ofString "read"), key := Value.str (Str.ofString "read") q7, val := Value.ref fl }] 5) ::
    (fl, kla_obj (Str.ofString "<lambda>") qual
    { posonlyargs := [], args := [{ arg := Str.ofString "size", annotation := none, pos := { line := 179, col := 23, endLine := 179, endCol := 27 } }], vararg := none, kwonlyargs := [], kw_defaults := [], kwarg := none, defaults := [] }
    ((Expr.Name (Str.ofString "signs") { line := 179, col := 45, endLine := 179, endCol := 50 }).IfExp (((Expr.Name (Str.ofString "signs") { line := 179, col := 29, endLine := 179, endCol := 34 }).Attribute (Str.ofString "pop") { line := 179, col := 29, endLine := 179, endCol := 38 }).Call [Expr.Constant (Const.int 0) 0 { line := 179, col := 39, endLine := 179, endCol := 40 }] [] { line := 179, col := 29, endLine := 179, endCol := 41 }) (Expr.Constant (Const.str (Str.ofString "")) 0 { line := 179, col := 56, endLine := 179, endCol := 58 }) { line := 179, col := 29, endLine := 179, endCol := 58 })
    { kind := ScopeKind.function, names := [(Str.ofString "size", NameKind.local), (Str.ofString "signs", NameKind.free)], isGenerator := false, isCoroutine := false }
    [(Str.ofString "signs", cell)] mn cdo ctv) ::
    (cdo, co) :: (D, listOf (chars cts) n) :: (cell, oc) :: (pb, listOf #[] np) :: led
def LexNe (xi xd fx fd fl D cell pb cdo : Addr) : Prop := NeN xi xd ∧ NeN xi fx ∧ NeN xi fd ∧ NeN xi fl ∧ NeN xi cdo ∧ NeN xi D ∧ NeN xi cell ∧ NeN xd fx ∧ NeN xd fd ∧ NeN xd fl ∧ NeN xd cdo ∧ NeN xd D ∧ NeN xd cell ∧ NeN fx fd ∧ NeN fx fl ∧ NeN fx cdo ∧ NeN fx D ∧ NeN fx cell ∧ NeN fd fl ∧ NeN fd cdo ∧ NeN fd D ∧ NeN fd cell ∧ NeN fl cdo ∧ NeN fl D ∧ NeN fl cell ∧ NeN cdo D ∧ NeN cdo cell ∧ NeN D cell ∧ NeN xi pb ∧ NeN xd pb ∧ NeN fx pb ∧ NeN fd pb ∧ NeN fl pb ∧ NeN cdo pb ∧ NeN D pb ∧ NeN cell pb
theorem sx_more {I : Addr} {oI : Obj} {ys : List Addr} {big led : List (Addr × Obj)} (sI : Sep I big) (hy : ∀ y ∈ ys, ∃ o, (y, o) ∈ big) (sx : ∀ y ∈ ys, Sep y led) : ∀ y ∈ ys, Sep y ((I, oI) :: led) := fun y h =>
  let ⟨o, ho⟩ := hy y h
  List.forall_mem_cons.mpr ⟨(sI (y, o) ho).symm, sx y h⟩
theorem sx_cons {b : Addr} {ob : Obj} {ys : List Addr} {led : List (Addr × Obj)} (n : ∀ y ∈ ys, NeN y b) (sx : ∀ y ∈ ys, Sep y led) : ∀ y ∈ ys, Sep y ((b, ob) :: led) := fun y h => List.forall_mem_cons.mpr ⟨(n y h).symm, sx y h⟩
theorem sep_map {I : Addr} {l l' : List (Addr × Obj)} (e : l.map (·.1) = l'.map (·.1)) (s : Sep I l) : Sep I l' := fun p hp => by
  have h1 : p.1 ∈ l'.map (·.1) := List.mem_map.mpr ⟨p, hp, rfl⟩
  rw [← e] at h1
  obtain ⟨q, hq, h⟩ := List.mem_map.mp h1
  rw [← h]
  exact s q hq
theorem rd_next (k : Nat) : (k : Int) + 1 + (if k + 1 = 0 then 0 else 1) = ((k + 1 : Nat) : Int) + 1 := by
  rw [if_neg (by omega)]; omega
theorem nil_codes {z : Str} (h : z.cps.toList = []) : z = Str.ofString "" := by
  rw [mk_codes h]; rfl
/-- the loop that reads the mail -/
inductive RdJ (w : World) (ks : List (Str × Value)) (ls : List (List Nat)) (xi xd fx fd fl D cell pb fpb cdo : Addr) (oc co : Obj) (k1 k2 k3 k4 k5 q1 q2 q3 q4 q5 q6 q7 : Tok) (qual : Str) (mn ctv : Value) (np : Nat) (led : List (Addr × Obj)) (k : Nat) (m : Str → Option Value) : List (Addr × Obj) → Prop
  | mk (kl : Tok) (nD : Nat) (cts : List (Nat × Tok)) (ln : Int) (hm : ∀ p ∈ ks, m p.1 = some p.2) (hc : cts.map (·.1) = leftC ls k) (hl : ln + (if k = 0 then 0 else 1) = (k : Int) + 1) : RdJ w ks ls xi xd fx fd fl D cell pb fpb cdo oc co k1 k2 k3 k4 k5 q1 q2 q3 q4 q5 q6 q7 qual mn ctv np led k m (lexL w xi xd fx fd fl D cell pb fpb cdo oc co k1 k2 k3 k4 k5 q1 q2 q3 q4 q5 q6 q7 kl qual mn ctv ln nD np cts led)
theorem left_len {ls : List (List Nat)} {k : Nat} {cts : List (Nat × Tok)} (hc : cts.map (·.1) = leftC ls k) (h : (ls.map List.length).sum + 3 * ls.length ≤ 2000) : cts.length ≤ 3000 := by
  have e := congrArg List.length hc
  rw [List.length_map] at e
  have h1 := q_len (ls.drop k)
  have h2 : ((ls.drop k).map List.length).sum ≤ (ls.map List.length).sum := by
    rw [← List.take_append_drop k ls, List.map_append, List.sum_append, List.take_append_drop]
    omega
  have h3 : (ls.drop k).length ≤ ls.length := by rw [List.length_drop]; omega
  have h4 := q_len ls
  unfold leftC at e
  split at e
  · omega
  · rw [List.length_cons] at e
    omega

end
section
open PySem PySem.W PyProof.Rows
open_top hd for PySem.Challenge.rw_sc0080_02.row
theorem said02 (h : PySem.Challenge.rw_sc0080_02.row.wellSaid = true) : PySem.Challenge.rw_sc0080_02.wellSaid = true := by
  unfold OpenLaw.wellSaid
  repeat' (with_reducible refine look_both ?_ ?_)
  · exact h
  all_goals decide +kernel
theorem top02 (h : PySem.Challenge.rw_sc0080_02.row.Holds) : PySem.Challenge.rw_sc0080_02.Holds := holds_law (said02 h.1) fun _ => h

end
theorem top_off : True := by
  w_top off
  trivial
open PySem PySem.W PyProof.Rows PySem.Spec PySem.Calls
local macro_rules | `(tactic| k_room) => `(tactic| ktr_room)
local macro_rules | `(tactic| ktr_room) => `(tactic| ((try simp only [depth_under_make, depth_under_kw, depth_in1, depth_deeper, depth_caller, Nat.add_assoc, Nat.reduceAdd]); exact nl0 (by with_reducible assumption) (by decide)))
local macro_rules | `(tactic| ktr_units) => `(tactic| ((try simp only [units_in1, units_deeper, Around.mark_units, units_caller, Nat.add_assoc, Nat.reduceAdd]); exact nl0 (by with_reducible assumption) (by decide)))
local macro_rules | `(tactic| k_lt $h) => `(tactic| skip)
local macro_rules | `(tactic| k_lt2 $h) => `(tactic| (have _ := ne_lt2 $h; have _ := lt_all (by assumption) $h; clear $h))
local macro_rules | `(tactic| walk_at "binaryOp RShift int int") => `(tactic| (k_here; (refine rshift_known (by first | with_reducible assumption | (k_dflt assumption)) ?_)))
local macro_rules | `(tactic| walk_at "binaryOp LShift int int") => `(tactic| (k_here; (refine lshift_known (by first | with_reducible assumption | (k_dflt assumption)) ?_)))
local macro_rules | `(tactic| walk_at "binaryOp BitXor int int") => `(tactic| (k_here; (refine xor_known (by first | with_reducible assumption | (k_dflt assumption)) ?_)))
local macro_rules | `(tactic| walk_at "binaryOp Mult int int") => `(tactic| (k_here; (refine mul_known (by first | with_reducible assumption | (k_dflt assumption)) ?_)))
local macro_rules | `(tactic| walk_at "call builtin:int.bit_length") => `(tactic| (k_here; (refine bits_known (by with_reducible assumption) ?_)))
local macro_rules | `(tactic| k_updF) => `(tactic| first | (refine' Del.head ?a; (case a => k_all)) | (refine' Del.tail ?a ?b; (case a => k_ne); (case b => k_updF)))
local macro_rules | `(tactic| walk_at "mem") => `(tactic| (repeat first | with_reducible exact List.mem_cons_self | (with_reducible refine List.mem_cons_of_mem _ ?_)))
local macro_rules | `(tactic| walk_at "cellne") => `(tactic| first | exact ne_lo1 (by with_reducible assumption) (by walk_at "mem") | exact ne_lo2 (by with_reducible assumption) (by walk_at "mem") | exact ne_lo3 (by with_reducible assumption) (by walk_at "mem") | exact ne_lo4 (by with_reducible assumption) (by walk_at "mem"))
local macro_rules | `(tactic| k_ne) => `(tactic| first | exact NeN.h (by with_reducible assumption) | exact NeN.h' (by with_reducible assumption) | exact ne_lo (by with_reducible assumption) (by walk_at "mem") | exact ne_hi (by with_reducible assumption) (by walk_at "mem") | exact ne_sep (by with_reducible assumption) (by walk_at "mem") | exact (ne_sep (by with_reducible assumption) (by walk_at "mem")).symm | walk_at "cellne" | exact Ne.symm (by walk_at "cellne") | (refine neN ?_; (try dsimp only); omega))
section
open PySem PySem.W PyProof.Rows PySem.Spec PySem.Calls
local macro_rules | `(tactic| walk_at "call ref") => `(tactic| (k_here; (with_reducible show wpAny _ _ (call (Value.ref f) _) _ _ _); refine CiStop.out ?_))
local macro_rules | `(tactic| walk_at "setItem ref int") => `(tactic| (k_here; refine CiStop.out ?_))
theorem inn_i {bX : Heap} (cX : CodeHd bX 68 64) {w : World} {loose : List Str} {mean : ExcName → Option Value} {mg mb : Str → Option Value} {n : Int} {f c' cA cI cN D : Addr} {oF oc oA oI oN : Obj} {e : Nat} {vc : Array Value} {doc pm ctv : Value} {tq tn : Tok} (hn : 0 < n) (hn2 : n < 2 ^ 20)
  (hoF : oF = fnIn (hd.heap_1 w.params) 69 1 I2Q [(Str.ofString "n", cN), (Str.ofString "inner", cI), (Str.ofString "a_digits", cA)] doc pm c' ctv) (hoA : oA.data = .cell (some (.ref D))) (hoI : oI.data = .cell (some (.ref f))) (hoN : oN.data = .cell (some (.int n tn))) (hoc : oc.data = .fields vc) (hvc : vc[1]? = some (.str I2Q tq))
  (nes : NeN f D ∧ NeN c' D ∧ NeN cA D ∧ NeN cI D ∧ NeN cN D) {x : Int} {k : Nat} {ds : List Int} (hF : Fill n x k ds) :
  ∀ {dp un : Nat} {gd : Option (List Code)} {cn : Str} {cs : Scope} {a : Addr} {ccd : Value} {cl : List (Str × Addr)} {outer : List Env} {A₀ : Around} {base h₀ : Heap} {L : Addr} {m : Str → Option Value} {s : Shared} {Q E : Value → Shared → Prop} {news : List (Addr × Obj)} {vs : List Value} {ns : List Int} {l r : Int} {tx tl tr : Tok},
  0 ≤ l → r = l + (k : Int) → r ≤ (ns.length : Int) → ns.length ≤ 3000 → IntsAre vs ns →
  Below A₀ base outer h₀ → Fr h₀ L s.heap m → (hd.heap_1 w.params).In h₀ → Top topProg loose mean mg mb h₀ → cs.kind = .function →
  News h₀ L s.heap ((f, oF) :: (c', oc) :: (cA, oA) :: (cI, oI) :: (cN, oN) :: (D, listOf vs.toArray e) :: news) → Sep D news → dp + k + 2 < recursionLimit → un + 4 * k + 8 < cLine →
  (∀ vs' h' tk', IntsAre vs' (put ns l.toNat ds) → Fr h₀ L h' m → News h₀ L h' ((f, oF) :: (c', oc) :: (cA, oA) :: (cI, oI) :: (cN, oN) :: (D, listOf vs'.toArray e) :: news) → Q .none { s with heap := h', toks := tk' }) →
  wpAny (model PySem.Challenge.rw_sc0080_02.row.prog w) (ktrTop dp un gd cn cs L a ccd cl outer) (call (.ref f) [.int x tx, .int l tl, .int r tr]) Q E s := by
  have n1 := nes.1
  have n2 := nes.2.1
  have n3 := nes.2.2.1
  have n4 := nes.2.2.2.1
  have n5 := nes.2.2.2.2
  clear nes
  induction hF with
  | @one x =>
    intro dp un gd cn cs a ccd cl outer A₀ base h₀ L m s Q E news vs ns l r tx tl tr hl hr hr2 hns hI B F X T hk N sD hdp hun ret
    revert X
    k_fill
    intro X
    have hfn := fn_is (K := hd.heap_1 w.params) (f := 69) (i := 1) (q := I2Q) (cl := [(Str.ofString "n", cN), (Str.ofString "inner", cI), (Str.ofString "a_digits", cA)]) (doc := doc) (pm := pm) (c' := c') (ct := ctv) (by k_is) (by rfl)
    rw [hfn] at hoF
    subst hoF
    k_steps
    repeat' (refine CiStop.go ?_; (with_reducible (first | (k_here; (with_reducible show wpAny _ _ (PySem.setItem (Value.ref _) (Value.int _ _) _) _ _ _); k_dflt (refine' ksa_set ?F ?N ?U ?hi ?h0 ?h1 ?hfit ?_; (case F => k_asm); (case N => k_asm); (case U => k_upd); (case hi => assumption); (case h0 => omega); (case h1 => omega); (case hfit => omega); k_whole); intro h' F' N' i1 i2 i3))); k_steps)
    refine CiStop.go ?_
    k_dflt (refine wpAny_call ?_; (refine' kdv_code ?k1 ?k2 ?k3 ?k4 ?k5 ?kA ?kF ?kK ?k6 ?k7 ?k8 ?k9 ?kB ?_ ?c2 ?c3 ?c4 ?c5; (case kA => exact rfl); (case kF => exact rfl); (case kK => assumption); (case k1 => k_asm); (case k2 => k_asm); (case k3 => k_asm); (case k4 => k_asm); (case k5 => k_asm); (case k6 => k_mem); (case k7 => exact codeRec_news (by k_asm) (by k_mem) (by assumption) (by assumption)); (case k8 => k_room); (case k9 => kdv_bind); (case c5 => decide); (case kB => exact locs rfl); (case c2 => exact rfl); (case c3 => exact rfl); (case c4 => exact rfl); k_whole; intro g' L' h' FG' F' N' B' X' T'; (try dsimp only); (try k_lift B'); (try k_fold)))
    obtain rfl : r = l + 1 := hr
    have hq : (l + 1 == l + 1) = true := beq_self_eq_true _
    k_steps
    repeat' (refine CiStop.go ?_; (with_reducible (first | (k_here; (with_reducible show wpAny _ _ (PySem.setItem (Value.ref _) (Value.int _ _) _) _ _ _); k_dflt (refine' ksa_set ?F ?N ?U ?hi ?h0 ?h1 ?hfit ?_; (case F => k_asm); (case N => k_asm); (case U => k_upd); (case hi => assumption); (case h0 => omega); (case h1 => omega); (case hfit => omega); k_whole); intro h' F' N' i1 i2 i3))); k_steps)
    k_here
    k_dflt (refine' ksa_set ?F ?N ?U ?hi ?h0 ?h1 ?hfit ?_)
    case F => k_asm
    case N => k_asm
    case U => exact .tail n1.h (.tail n2.h (.tail n3.h (.tail n4.h (.tail n5.h (.head fun p hp => (sD p hp).h)))))
    case hi => assumption
    case h0 => omega
    case h1 => omega
    case hfit => omega
    intro h' F' N' i1 i2 i3
    k_steps
    repeat' (refine CiStop.go ?_; (with_reducible (first | (k_here; (with_reducible show wpAny _ _ (PySem.setItem (Value.ref _) (Value.int _ _) _) _ _ _); k_dflt (refine' ksa_set ?F ?N ?U ?hi ?h0 ?h1 ?hfit ?_; (case F => k_asm); (case N => k_asm); (case U => k_upd); (case hi => assumption); (case h0 => omega); (case h1 => omega); (case hfit => omega); k_whole); intro h' F' N' i1 i2 i3))); k_steps)
    refine ret _ _ _ (by rw [put_one (by omega)]; exact i1) ?_ ?_
    · k_asm
    · assumption
  | @two x sh u v lo j j2 d1 d2 h1 hb Hm Hu Hv Hl f1 f2 ih1 ih2 =>
    intro dp un gd cn cs a ccd cl outer A₀ base h₀ L m s Q E news vs ns l r tx tl tr hl hr hr2 hns hI B F X T hk N sD hdp hun ret
    have g1 := f1.pos
    have g2 := f2.pos
    have hmid : ShrK (l + r) 1 (l + (j : Int)) := ⟨by decide, by
      show (l + r).fdiv 2 = _
      rw [Int.fdiv_eq_ediv_of_nonneg _ (by decide)]
      omega⟩
    have Hm' : MulK (l + (j : Int) - l) n sh := by
      have e : l + (j : Int) - l = j := by omega
      rw [e]; exact Hm
    have hq : (l + 1 == r) = false := beq_eq_false_iff_ne.mpr (by omega)
    revert X
    k_fill
    intro X
    have hfn := fn_is (K := hd.heap_1 w.params) (f := 69) (i := 1) (q := I2Q) (cl := [(Str.ofString "n", cN), (Str.ofString "inner", cI), (Str.ofString "a_digits", cA)]) (doc := doc) (pm := pm) (c' := c') (ct := ctv) (by k_is) (by rfl)
    rw [hfn] at hoF
    subst hoF
    k_steps
    repeat' (refine CiStop.go ?_; (with_reducible (first | (k_here; (with_reducible show wpAny _ _ (PySem.setItem (Value.ref _) (Value.int _ _) _) _ _ _); k_dflt (refine' ksa_set ?F ?N ?U ?hi ?h0 ?h1 ?hfit ?_; (case F => k_asm); (case N => k_asm); (case U => k_upd); (case hi => assumption); (case h0 => omega); (case h1 => omega); (case hfit => omega); k_whole); intro h' F' N' i1 i2 i3))); k_steps)
    refine CiStop.go ?_
    k_dflt (refine wpAny_call ?_; (refine' kdv_code ?k1 ?k2 ?k3 ?k4 ?k5 ?kA ?kF ?kK ?k6 ?k7 ?k8 ?k9 ?kB ?_ ?c2 ?c3 ?c4 ?c5; (case kA => exact rfl); (case kF => exact rfl); (case kK => assumption); (case k1 => k_asm); (case k2 => k_asm); (case k3 => k_asm); (case k4 => k_asm); (case k5 => k_asm); (case k6 => k_mem); (case k7 => exact codeRec_news (by k_asm) (by k_mem) (by assumption) (by assumption)); (case k8 => show dp < recursionLimit; omega); (case k9 => kdv_bind); (case c5 => decide); (case kB => exact locs rfl); (case c2 => exact rfl); (case c3 => exact rfl); (case c4 => exact rfl); k_whole; intro g' L' h' FG' F' N' B' X' T'; (try dsimp only); (try k_lift B'); (try k_fold)))
    k_steps
    repeat' (refine CiStop.go ?_; (with_reducible (first | (k_here; (with_reducible show wpAny _ _ (PySem.setItem (Value.ref _) (Value.int _ _) _) _ _ _); k_dflt (refine' ksa_set ?F ?N ?U ?hi ?h0 ?h1 ?hfit ?_; (case F => k_asm); (case N => k_asm); (case U => k_upd); (case hi => assumption); (case h0 => omega); (case h1 => omega); (case hfit => omega); k_whole); intro h' F' N' i1 i2 i3))); k_steps)
    refine CiStop.go ?_
    k_dflt (refine' ih1 (vs := vs) (ns := ns) (l := l) (r := l + (j : Int)) ?a1 ?a2 ?a3 ?a4 ?a5 ?B ?F ?X ?T ?hk ?N ?sD ?hdp ?hun ?_)
    case a1 => exact hl
    case a2 => exact rfl
    case a3 => omega
    case a4 => exact hns
    case a5 => exact hI
    ((case B => k_asm); (case F => k_asm); (case X => k_asm); (case T => k_asm); (case hk => exact rfl); (case N => k_asm))
    case sD => exact sD
    case hdp => (try simp only [depth_under_make, depth_under_kw, depth_in1, depth_deeper, depth_caller, Nat.add_assoc, Nat.reduceAdd]); omega
    case hun => (try simp only [units_in1, units_deeper, Around.mark_units, units_caller, Nat.add_assoc, Nat.reduceAdd]); omega
    k_whole
    intro vs1 hp1 tk1 i1 F1 N1
    ((try dsimp only); (try k_fold))
    k_steps
    repeat' (refine CiStop.go ?_; (with_reducible (first | (k_here; (with_reducible show wpAny _ _ (PySem.setItem (Value.ref _) (Value.int _ _) _) _ _ _); k_dflt (refine' ksa_set ?F ?N ?U ?hi ?h0 ?h1 ?hfit ?_; (case F => k_asm); (case N => k_asm); (case U => k_upd); (case hi => assumption); (case h0 => omega); (case h1 => omega); (case hfit => omega); k_whole); intro h' F' N' i1 i2 i3))); k_steps)
    refine CiStop.go ?_
    k_dflt (refine' ih2 (vs := vs1) (l := l + (j : Int)) (r := r) (ns := put ns l.toNat d1) ?a1 ?a2 ?a3 ?a4 ?a5 ?B ?F ?X ?T ?hk ?N ?sD ?hdp ?hun ?_)
    case a1 => omega
    case a2 => omega
    case a3 => rw [put_len (by rw [f1.len]; omega)]; exact hr2
    case a4 => rw [put_len (by rw [f1.len]; omega)]; exact hns
    case a5 => exact i1
    ((case B => k_asm); (case F => k_asm); (case X => k_asm); (case T => k_asm); (case hk => exact rfl); (case N => k_asm))
    case sD => exact sD
    case hdp => (try simp only [depth_under_make, depth_under_kw, depth_in1, depth_deeper, depth_caller, Nat.add_assoc, Nat.reduceAdd]); omega
    case hun => (try simp only [units_in1, units_deeper, Around.mark_units, units_caller, Nat.add_assoc, Nat.reduceAdd]); omega
    k_whole
    intro vs2 hp2 tk2 i2 F2 N2
    ((try dsimp only); (try k_fold))
    k_steps
    repeat' (refine CiStop.go ?_; (with_reducible (first | (k_here; (with_reducible show wpAny _ _ (PySem.setItem (Value.ref _) (Value.int _ _) _) _ _ _); k_dflt (refine' ksa_set ?F ?N ?U ?hi ?h0 ?h1 ?hfit ?_; (case F => k_asm); (case N => k_asm); (case U => k_upd); (case hi => assumption); (case h0 => omega); (case h1 => omega); (case hfit => omega); k_whole); intro h' F' N' i1 i2 i3))); k_steps)
    refine ret vs2 _ _ ?_ ?_ ?_
    · have e : (l + (j : Int)).toNat = l.toNat + d1.length := by rw [f1.len]; omega
      rw [e, put_put (by rw [List.length_append, f1.len, f2.len]; omega)] at i2
      exact i2
    · k_asm
    · assumption

end
section
open PySem PySem.W PyProof.Rows PySem.Spec PySem.Calls
local macro_rules | `(tactic| walk_at "binaryOp FloorDiv int int") => `(tactic| (k_here; refine CiStop.out ?_))
local macro_rules | `(tactic| walk_at "binaryOp Mult ref int") => `(tactic| (k_here; refine CiStop.out ?_))
local macro_rules | `(tactic| walk_at "exec FunctionDef") => `(tactic| (k_here; refine CiStop.out ?_))
local macro_rules | `(tactic| walk_at "call ref") => `(tactic| (k_here; (with_reducible show wpAny _ _ (call (Value.ref _) [Value.int _ _, Value.int _ _, Value.int _ _]) _ _ _); refine CiStop.out ?_))
theorem i2d_all {w : World} {loose : List Str} {mean : ExcName → Option Value} {mg mb : Str → Option Value}
  {dp un : Nat} {gd : Option (List Code)} {cn : Str} {cs : Scope} {a : Addr} {ccd : Value} {cl : List (Str × Addr)} {outer : List Env} {A₀ : Around} {base h₀ : Heap} {L : Addr} {m : Str → Option Value} {s : Shared} {Q E : Value → Shared → Prop}
  {news : List (Addr × Obj)} {ps : Array Value} {c₁ : Addr} {o₁ : Obj}
  {x n : Int} {k : Nat} {ds : List Int} {tx tn : Tok} (hx : Cut n x k ds) (hn : 0 < n) (hn2 : n < 2 ^ 20) (hk3 : k ≤ 2000) (hb : FdK ((Builtin.Int.intBits x : Int) + n - 1) n (k : Int))
  (B : Below A₀ base outer h₀) (F : Fr h₀ L s.heap m) (X : (hd.heap_1 w.params).In h₀) (T : Top topProg loose mean mg mb h₀) (hk : cs.kind = .function) (N : News h₀ L s.heap ((64, tabObj ps) :: (c₁, o₁) :: news))
  (c1 : CodeHd base 68 64) (tb : TabOk 39 4 I2Q ps c₁ o₁) (sepP : Sep 64 news) (sep1 : Sep c₁ news) (ne1 : NeN c₁ 64)
  (hdp : dp + k + 6 < recursionLimit) (hun : un + 4 * k + 40 < cLine)
  (ret : ∀ d vs c' oc h' tk', IntsAre vs ds → Fr h₀ L h' m → News h₀ L h' ((d, listOf vs.toArray 0) :: (64, tabObj #[rawInt 39, rawInt 4, .ref c']) :: (c', oc) :: news) →
    TabOk 39 4 I2Q #[rawInt 39, rawInt 4, .ref c'] c' oc → (ps = #[] ∨ (c' = c₁ ∧ oc = o₁)) → Sep c' news → Sep d news → NeN c' 64 → NeN d c' → NeN d 64 → Q (.ref d) { s with heap := h', toks := tk' }) :
  wpAny (model PySem.Challenge.rw_sc0080_02.row.prog w) (ktrTop dp un gd cn cs L a ccd cl outer) (call (.ref 69) [.int x tx, .int n tn]) Q E s := by
  revert X
  k_fill
  intro X
  refine wpAny_call ?_
  k_dflt (refine' code_defC ?k1 ?k2 ?k3 ?k4 ?k5 ?kA ?kF ?kK ?k6 ?k7 ?k8 ?k9 ?kB ?kD ?_ ?c2 ?c3 ?c4)
  case kA => exact rfl
  case kF => exact rfl
  case kK => assumption
  case k1 => k_asm
  case k2 => k_asm
  case k3 => k_asm
  case k4 => exact N
  case k5 => k_asm
  case k6 => k_is
  case k7 => k_is
  case k8 => show dp < recursionLimit; omega
  case k9 => exact BindsTo.of_eq rfl
  case kB => exact rfl
  case kD => decide +kernel
  case c2 => exact rfl
  case c3 => exact rfl
  case c4 => exact rfl
  intro g1 L1 h1 tk1 cells1 FG1 F1 N1 Y1 B1 X1 T1 lw1
  k_cells Y1
  simp only [List.cons_append, List.nil_append] at N1
  refine rebaseK (ex := [_, _, _, _, _]) F1 N1 B1 X1 T1 (news_in N (by intro p hp; repeat' first | exact hp | refine List.Mem.tail _ ?_)) (fun p hp => lw1 p (by repeat' first | exact hp | refine List.Mem.tail _ ?_)) (List.forall_mem_cons.mpr ⟨sep_cell lw1 (by intro p hp; repeat' first | exact hp | refine List.Mem.tail _ ?_) (by omega), List.forall_mem_cons.mpr ⟨sep_cell lw1 (by intro p hp; repeat' first | exact hp | refine List.Mem.tail _ ?_) (by omega), List.forall_mem_cons.mpr ⟨sep_cell lw1 (by intro p hp; repeat' first | exact hp | refine List.Mem.tail _ ?_) (by omega), List.forall_mem_cons.mpr ⟨sepP, List.forall_mem_cons.mpr ⟨sep1, List.forall_mem_nil _⟩⟩⟩⟩⟩) ?_
  intro gp Fp Np Bp Xp Tp Ip
  clear F1 N1 B1 X1 T1 FG1
  (try dsimp only)
  (try k_lift Bp)
  (try k_fold)
  k_steps
  repeat' (refine CiStop.go ?_; (with_reducible (first | (k_here; (with_reducible show wpAny _ _ (binaryOp .Mult (Value.ref _) (Value.int _ _)) _ _ _); k_dflt (refine' mul_list_res ?F ?N ?m ?e ?lo ?hi ?z ?_; ((case F => k_asm); (case N => k_asm)); (case m => k_mem); (case e => exact repz); (case lo => omega); (case hi => omega); (case z => show 1 * _ ≤ _; omega); k_whole); intro d' h' F' N' l1; (try k_lt l1)) | (k_here; (with_reducible show wpAny _ _ (exec (Stmt.FunctionDef _ _ _ _ _ _ _ _ _ _) _) _ _ _); kn_here; k_dflt (refine' nestDef_K ?d0 ?k0 ?a0 ?_; (case d0 => exact rfl); (case k0 => exact rfl); (case a0 => exact rfl)); (k_dflt (refine' nest_any ?F ?N ?T ?C ?cd ?U ?U2 ?t ?hl ?hc ?hq ?cl ?_; ((case F => k_asm); (case N => k_asm)); (case T => k_asm); (case cd => exact rfl); (case C => kn_code); (case t => assumption); (case U => k_updF); (case U2 => k_updF); (case hl => rfl); (case hc => rfl); (case hq => kernel_rfl!); (case cl => exact rfl); k_whole); intro f' c' oc' vs' t' ct' dc' h' tk' F' N' d1' d2' d3' hw' s1' n1' l1 l2; (try dsimp only at N'); (try k_lt l1); (have _ := ne_lt2 l2); clear l2)) | (k_here; (with_reducible show wpAny _ _ (binaryOp .Mult (Value.ref _) (Value.int _ _)) _ _ _); k_dflt (refine' mul_list_res ?F ?N ?m ?e ?lo ?hi ?z ?_; ((case F => k_asm); (case N => k_asm)); (case m => k_mem); (case e => first | exact rep1 | exact rep2 | exact rep0); (case lo => decide); (case hi => decide); (case z => decide); k_whole); intro d' h' F' N' l1; (try k_lt l1)) | (k_here; (with_reducible show wpAny _ _ (binaryOp .FloorDiv (Value.int _ _) (Value.int _ _)) _ _ _); (refine floordiv_known (by with_reducible assumption) ?hb ?hs ?_); (case hb => omega); (case hs => omega)))); k_steps)
  · rename x ≠ 0 => hx0
    rename News gp L1 _ _ => NL
    k_dflt (refine len_list (NL.isList (by k_mem)) (by simp only [List.size_toArray, List.length_replicate]; omega) ?_)
    simp only [List.size_toArray, List.length_replicate]
    k_steps
    repeat' (refine CiStop.go ?_; (with_reducible (first | (k_here; (with_reducible show wpAny _ _ (binaryOp .Mult (Value.ref _) (Value.int _ _)) _ _ _); k_dflt (refine' mul_list_res ?F ?N ?m ?e ?lo ?hi ?z ?_; ((case F => k_asm); (case N => k_asm)); (case m => k_mem); (case e => exact repz); (case lo => omega); (case hi => omega); (case z => show 1 * _ ≤ _; omega); k_whole); intro d' h' F' N' l1; (try k_lt l1)) | (k_here; (with_reducible show wpAny _ _ (exec (Stmt.FunctionDef _ _ _ _ _ _ _ _ _ _) _) _ _ _); kn_here; k_dflt (refine' nestDef_K ?d0 ?k0 ?a0 ?_; (case d0 => exact rfl); (case k0 => exact rfl); (case a0 => exact rfl)); (k_dflt (refine' nest_any ?F ?N ?T ?C ?cd ?U ?U2 ?t ?hl ?hc ?hq ?cl ?_; ((case F => k_asm); (case N => k_asm)); (case T => k_asm); (case cd => exact rfl); (case C => kn_code); (case t => assumption); (case U => k_updF); (case U2 => k_updF); (case hl => rfl); (case hc => rfl); (case hq => kernel_rfl!); (case cl => exact rfl); k_whole); intro f' c' oc' vs' t' ct' dc' h' tk' F' N' d1' d2' d3' hw' s1' n1' l1 l2; (try dsimp only at N'); (try k_lt l1); (have _ := ne_lt2 l2); clear l2)) | (k_here; (with_reducible show wpAny _ _ (binaryOp .Mult (Value.ref _) (Value.int _ _)) _ _ _); k_dflt (refine' mul_list_res ?F ?N ?m ?e ?lo ?hi ?z ?_; ((case F => k_asm); (case N => k_asm)); (case m => k_mem); (case e => first | exact rep1 | exact rep2 | exact rep0); (case lo => decide); (case hi => decide); (case z => decide); k_whole); intro d' h' F' N' l1; (try k_lt l1)) | (k_here; (with_reducible show wpAny _ _ (binaryOp .FloorDiv (Value.int _ _) (Value.int _ _)) _ _ _); (refine floordiv_known (by with_reducible assumption) ?hb ?hs ?_); (case hb => omega); (case hs => omega)))); k_steps)
    refine CiStop.go ?_
    cases hx with
    | zero => exact absurd rfl hx0
    | some _ hfl =>
    rename News gp L1 _ _ => NM
    k_dflt (refine' inn_i c1 hn hn2 ?oF ?oA ?oI ?oN ?oc ?vc ⟨?n1, ?n2, ?n3, ?n4, ?n5⟩ hfl (vs := List.replicate k (.int 0 tk1)) (ns := List.replicate k 0) (l := 0) (r := k) ?a1 ?a2 ?a3 ?a4 ?a5 ?B ?F ?X ?T ?hk (news_cons NM ?m0 (news_cons NM ?m1 (news_cons NM ?m2 (news_cons NM ?m3 (news_cons NM ?m4 (news_cons NM ?m5 (news_cons NM (x := (64, tabObj #[rawInt 39, rawInt 4, .ref _])) ?m6 (news_in NM (r := []) (fun _ h => absurd h (List.not_mem_nil)))))))))) ?sD ?hdp ?hun ?_)
    case m0 => k_dflt k_mem
    case oF => exact (fn_is (by k_is) (by rfl)).symm
    case m1 => k_dflt k_mem
    case m2 => k_dflt k_mem
    case m3 => k_dflt k_mem
    case m4 => k_dflt k_mem
    case oA => assumption
    case oI => assumption
    case oN => assumption
    case oc => assumption
    case vc => assumption
    case m5 => k_dflt k_mem
    case m6 => k_dflt k_mem
    case n1 => exact ⟨by k_ne⟩
    case n2 => exact ⟨by k_ne⟩
    case n3 => exact ⟨by k_ne⟩
    case n4 => exact ⟨by k_ne⟩
    case n5 => exact ⟨by k_ne⟩
    case a1 => exact Int.le_refl 0
    case a2 => exact (Int.zero_add _).symm
    case a3 => rw [List.length_replicate]; exact Int.le_refl _
    case a4 => rw [List.length_replicate]; omega
    case a5 => exact ints_rep _ k
    case B => k_asm
    case F => k_asm
    case X => k_asm
    case T => k_asm
    case hk => exact rfl
    case sD => exact List.forall_mem_cons.mpr ⟨⟨by k_ne⟩, List.forall_mem_nil _⟩
    case hdp => (try simp only [depth_under_make, depth_under_kw, depth_in1, depth_deeper, depth_caller, Nat.add_assoc, Nat.reduceAdd]); omega
    case hun => (try simp only [units_in1, units_deeper, Around.mark_units, units_caller, Nat.add_assoc, Nat.reduceAdd]); omega
    k_whole
    intro vs1 hp1 tk1 i1 F1 N1
    ((try dsimp only); (try k_fold))
    have i2 : IntsAre vs1 ds := by
      have e : put (List.replicate k 0) (0 : Int).toNat ds = ds := put_all (by rw [List.length_replicate, hfl.len])
      rw [e] at i1
      exact i1
    k_steps
    repeat' (refine CiStop.go ?_; (with_reducible (first | (k_here; (with_reducible show wpAny _ _ (binaryOp .Mult (Value.ref _) (Value.int _ _)) _ _ _); k_dflt (refine' mul_list_res ?F ?N ?m ?e ?lo ?hi ?z ?_; ((case F => k_asm); (case N => k_asm)); (case m => k_mem); (case e => exact repz); (case lo => omega); (case hi => omega); (case z => show 1 * _ ≤ _; omega); k_whole); intro d' h' F' N' l1; (try k_lt l1)) | (k_here; (with_reducible show wpAny _ _ (exec (Stmt.FunctionDef _ _ _ _ _ _ _ _ _ _) _) _ _ _); kn_here; k_dflt (refine' nestDef_K ?d0 ?k0 ?a0 ?_; (case d0 => exact rfl); (case k0 => exact rfl); (case a0 => exact rfl)); (k_dflt (refine' nest_any ?F ?N ?T ?C ?cd ?U ?U2 ?t ?hl ?hc ?hq ?cl ?_; ((case F => k_asm); (case N => k_asm)); (case T => k_asm); (case cd => exact rfl); (case C => kn_code); (case t => assumption); (case U => k_updF); (case U2 => k_updF); (case hl => rfl); (case hc => rfl); (case hq => kernel_rfl!); (case cl => exact rfl); k_whole); intro f' c' oc' vs' t' ct' dc' h' tk' F' N' d1' d2' d3' hw' s1' n1' l1 l2; (try dsimp only at N'); (try k_lt l1); (have _ := ne_lt2 l2); clear l2)) | (k_here; (with_reducible show wpAny _ _ (binaryOp .Mult (Value.ref _) (Value.int _ _)) _ _ _); k_dflt (refine' mul_list_res ?F ?N ?m ?e ?lo ?hi ?z ?_; ((case F => k_asm); (case N => k_asm)); (case m => k_mem); (case e => first | exact rep1 | exact rep2 | exact rep0); (case lo => decide); (case hi => decide); (case z => decide); k_whole); intro d' h' F' N' l1; (try k_lt l1)) | (k_here; (with_reducible show wpAny _ _ (binaryOp .FloorDiv (Value.int _ _) (Value.int _ _)) _ _ _); (refine floordiv_known (by with_reducible assumption) ?hb ?hs ?_); (case hb => omega); (case hs => omega)))); k_steps)
    rename News h₀ L _ news => Nt
    rename News h₀ L _ (_ :: _) => NN
    rename News gp _ _ _ => NP
    refine' ret _ vs1 _ _ _ _ i2 ?F (news_cons NN ?m0 (news_cons NN ?m1 (news_cons NN ?m2 Nt))) ?T ?hw ?s ?s2 ?n1 ?n2 ?n3
    case hw => assumption
    case F => k_asm
    case m0 => k_dflt k_mem
    case m1 => k_dflt k_mem
    case m2 => k_dflt k_mem
    case T => assumption
    case s => exact InBase.sep (x := (_, _)) Ip NP (by k_dflt k_mem)
    case s2 => exact InBase.sep (x := (_, _)) Ip NP (by k_dflt k_mem)
    case n1 => exact ⟨by k_ne⟩
    case n2 => exact ⟨by k_ne⟩
    case n3 => exact ⟨by k_ne⟩
  · cases hx with
    | some hx _ => exact absurd (by assumption) hx
    | zero =>
    rename News h₀ L _ news => Nt
    rename News h₀ L _ (_ :: _) => NN
    rename News gp _ _ _ => NP
    refine' ret _ [] _ _ _ _ .nil ?Fb (news_cons NN ?m0b (news_cons NN ?m1b (news_cons NN ?m2b Nt))) ?Tb ?hwb ?sb ?s2b ?n1b ?n2b ?n3b
    case hwb => assumption
    case Fb => k_asm
    case m0b => k_dflt k_mem
    case m1b => k_dflt k_mem
    case m2b => k_dflt k_mem
    case Tb => assumption
    case sb => exact InBase.sep (x := (_, _)) Ip NP (by k_dflt k_mem)
    case s2b => exact InBase.sep (x := (_, _)) Ip NP (by k_dflt k_mem)
    case n1b => exact ⟨by k_ne⟩
    case n2b => exact ⟨by k_ne⟩
    case n3b => exact ⟨by k_ne⟩

end
section
open PySem PySem.W PyProof.Rows PySem.Spec PySem.Calls
local macro_rules | `(tactic| walk_at "call ref") => `(tactic| (k_here; (with_reducible show wpAny _ _ (call (Value.ref f) _) _ _ _); refine CiStop.out ?_))
local macro_rules | `(tactic| walk_at "subscriptTail Name Name ref int") => `(tactic| (k_here; refine CiStop.out ?_))
theorem inn_d {bX : Heap} (cX : CodeHd bX 75 71) {w : World} {loose : List Str} {mean : ExcName → Option Value} {mg mb : Str → Option Value} {n : Int} {f c' cA cI cN D : Addr} {oF oc oA oI oN : Obj} {e : Nat} {vc : Array Value} {doc pm ctv : Value} {tq tn : Tok} (hn : 0 < n) (hn2 : n < 2 ^ 20)
  (hoF : oF = fnIn (hd.heap_1 w.params) 76 0 D2Q [(Str.ofString "n", cN), (Str.ofString "inner", cI), (Str.ofString "digits", cA)] doc pm c' ctv) (hoA : oA.data = .cell (some (.ref D))) (hoI : oI.data = .cell (some (.ref f))) (hoN : oN.data = .cell (some (.int n tn))) (hoc : oc.data = .fields vc) (hvc : vc[1]? = some (.str D2Q tq))
  {ds : List Int} {v : Int} (hF : Dig n ds v) :
  ∀ {dp un : Nat} {gd : Option (List Code)} {cn : Str} {cs : Scope} {a : Addr} {ccd : Value} {cl : List (Str × Addr)} {outer : List Env} {A₀ : Around} {base h₀ : Heap} {L : Addr} {m : Str → Option Value} {s : Shared} {Q E : Value → Shared → Prop} {news : List (Addr × Obj)} {vs : List Value} {ns : List Int} {l r : Int} {tl tr : Tok},
  0 ≤ l → r = l + (ds.length : Int) → r ≤ 2500 → At ns l.toNat ds → IntsAre vs ns →
  Below A₀ base outer h₀ → Fr h₀ L s.heap m → (hd.heap_1 w.params).In h₀ → Top topProg loose mean mg mb h₀ → cs.kind = .function →
  News h₀ L s.heap ((f, oF) :: (c', oc) :: (cA, oA) :: (cI, oI) :: (cN, oN) :: (D, listOf vs.toArray e) :: news) → dp + ds.length + 2 < recursionLimit → un + 4 * ds.length + 8 < cLine →
  (∀ tv h' tk', Fr h₀ L h' m → News h₀ L h' ((f, oF) :: (c', oc) :: (cA, oA) :: (cI, oI) :: (cN, oN) :: (D, listOf vs.toArray e) :: news) → Q (.int v tv) { s with heap := h', toks := tk' }) →
  wpAny (model PySem.Challenge.rw_sc0080_02.row.prog w) (ktrTop dp un gd cn cs L a ccd cl outer) (call (.ref f) [.int l tl, .int r tr]) Q E s := by
  induction hF with
  | @one x =>
    intro dp un gd cn cs a ccd cl outer A₀ base h₀ L m s Q E news vs ns l r tl tr hl hr hr2 hns hI B F X T hk N hdp hun ret
    revert X
    k_fill
    intro X
    have hfn := fn_is (K := hd.heap_1 w.params) (f := 76) (i := 0) (q := D2Q) (cl := [(Str.ofString "n", cN), (Str.ofString "inner", cI), (Str.ofString "digits", cA)]) (doc := doc) (pm := pm) (c' := c') (ct := ctv) (by k_is) (by rfl)
    rw [hfn] at hoF
    subst hoF
    k_steps
    refine CiStop.go ?_
    k_dflt (refine wpAny_call ?_; (refine' kdv_code ?k1 ?k2 ?k3 ?k4 ?k5 ?kA ?kF ?kK ?k6 ?k7 ?k8 ?k9 ?kB ?_ ?c2 ?c3 ?c4 ?c5; (case kA => exact rfl); (case kF => exact rfl); (case kK => assumption); (case k1 => k_asm); (case k2 => k_asm); (case k3 => k_asm); (case k4 => k_asm); (case k5 => k_asm); (case k6 => k_mem); (case k7 => exact codeRec_news (by k_asm) (by k_mem) (by assumption) (by assumption)); (case k8 => k_room); (case k9 => kdv_bind); (case c5 => decide); (case kB => exact locs rfl); (case c2 => exact rfl); (case c3 => exact rfl); (case c4 => exact rfl); k_whole; intro g' L' h' FG' F' N' B' X' T'; (try dsimp only); (try k_lift B'); (try k_fold)))
    obtain rfl : r = l + 1 := hr
    have hq : (l + 1 == l + 1) = true := beq_self_eq_true _
    k_steps
    refine CiStop.go ?_
    k_dflt (refine' item_ints ?N ?m hI (j := l.toNat) ?hk ?hz (x := x) ?hx ?_)
    case N => k_asm
    case m => k_mem
    case hk => omega
    case hz => omega
    case hx => exact hns 0 Nat.zero_lt_one
    intro tv
    k_steps
    refine ret _ _ _ ?_ ?_
    · k_asm
    · assumption
  | @two sh v1 v2 u d1 d2 h1 hb Hm Hv f1 f2 ih1 ih2 =>
    intro dp un gd cn cs a ccd cl outer A₀ base h₀ L m s Q E news vs ns l r tl tr hl hr hr2 hns hI B F X T hk N hdp hun ret
    have g1 := f1.pos
    have g2 := f2.pos
    rw [List.length_append] at hr hdp hun
    have hmid : ShrK (l + r) 1 (l + (d1.length : Int)) := ⟨by decide, by
      show (l + r).fdiv 2 = _
      rw [Int.fdiv_eq_ediv_of_nonneg _ (by decide)]
      omega⟩
    have Hm' : MulK (l + (d1.length : Int) - l) n sh := by
      have e : l + (d1.length : Int) - l = (d1.length : Int) := by omega
      rw [e]; exact Hm
    have hq : (l + 1 == r) = false := beq_eq_false_iff_ne.mpr (by omega)
    revert X
    k_fill
    intro X
    have hfn := fn_is (K := hd.heap_1 w.params) (f := 76) (i := 0) (q := D2Q) (cl := [(Str.ofString "n", cN), (Str.ofString "inner", cI), (Str.ofString "digits", cA)]) (doc := doc) (pm := pm) (c' := c') (ct := ctv) (by k_is) (by rfl)
    rw [hfn] at hoF
    subst hoF
    k_steps
    refine CiStop.go ?_
    k_dflt (refine wpAny_call ?_; (refine' kdv_code ?k1 ?k2 ?k3 ?k4 ?k5 ?kA ?kF ?kK ?k6 ?k7 ?k8 ?k9 ?kB ?_ ?c2 ?c3 ?c4 ?c5; (case kA => exact rfl); (case kF => exact rfl); (case kK => assumption); (case k1 => k_asm); (case k2 => k_asm); (case k3 => k_asm); (case k4 => k_asm); (case k5 => k_asm); (case k6 => k_mem); (case k7 => exact codeRec_news (by k_asm) (by k_mem) (by assumption) (by assumption)); (case k8 => show dp < recursionLimit; omega); (case k9 => kdv_bind); (case c5 => decide); (case kB => exact locs rfl); (case c2 => exact rfl); (case c3 => exact rfl); (case c4 => exact rfl); k_whole; intro g' L' h' FG' F' N' B' X' T'; (try dsimp only); (try k_lift B'); (try k_fold)))
    k_steps
    refine CiStop.go ?_
    k_dflt (refine' ih2 (vs := vs) (ns := ns) (l := l + (d1.length : Int)) (r := r) ?a1 ?a2 ?a3 ?a4 hI ?B ?F ?X ?T ?hk ?N ?hdp ?hun ?_)
    case a1 => omega
    case a2 => omega
    case a3 => exact hr2
    case a4 =>
      have e : (l + (d1.length : Int)).toNat = l.toNat + d1.length := by omega
      rw [e]; exact hns.right
    ((case B => k_asm); (case F => k_asm); (case X => k_asm); (case T => k_asm); (case hk => exact rfl); (case N => k_asm))
    case hdp => (try simp only [depth_under_make, depth_under_kw, depth_in1, depth_deeper, depth_caller, Nat.add_assoc, Nat.reduceAdd]); omega
    case hun => (try simp only [units_in1, units_deeper, Around.mark_units, units_caller, Nat.add_assoc, Nat.reduceAdd]); omega
    k_whole
    intro tv1 hp1 tk1 F1 N1
    ((try dsimp only); (try k_fold))
    k_steps
    refine CiStop.go ?_
    k_dflt (refine' ih1 (vs := vs) (ns := ns) (l := l) (r := l + (d1.length : Int)) ?a1 ?a2 ?a3 ?a4 hI ?B ?F ?X ?T ?hk ?N ?hdp ?hun ?_)
    case a1 => exact hl
    case a2 => exact rfl
    case a3 => omega
    case a4 => exact hns.left
    ((case B => k_asm); (case F => k_asm); (case X => k_asm); (case T => k_asm); (case hk => exact rfl); (case N => k_asm))
    case hdp => (try simp only [depth_under_make, depth_under_kw, depth_in1, depth_deeper, depth_caller, Nat.add_assoc, Nat.reduceAdd]); omega
    case hun => (try simp only [units_in1, units_deeper, Around.mark_units, units_caller, Nat.add_assoc, Nat.reduceAdd]); omega
    k_whole
    intro tv2 hp2 tk2 F2 N2
    ((try dsimp only); (try k_fold))
    k_steps
    refine ret _ _ _ ?_ ?_
    · k_asm
    · assumption

end
section
local macro_rules | `(tactic| walk_at "no such key") => `(tactic| skip)
open PySem PySem.W PyProof.Rows PySem.Spec PySem.Calls
local macro_rules | `(tactic| walk_at "exec FunctionDef") => `(tactic| (k_here; refine CiStop.out ?_))
local macro_rules | `(tactic| walk_at "call ref") => `(tactic| (k_here; (with_reducible show wpAny _ _ (call (Value.ref _) [Value.int _ _, Value.int _ _]) _ _ _); refine CiStop.out ?_))
theorem d2i_all {w : World} {loose : List Str} {mean : ExcName → Option Value} {mg mb : Str → Option Value}
  {dp un : Nat} {gd : Option (List Code)} {cn : Str} {cs : Scope} {a : Addr} {ccd : Value} {cl : List (Str × Addr)} {outer : List Env} {A₀ : Around} {base h₀ : Heap} {L : Addr} {m : Str → Option Value} {s : Shared} {Q E : Value → Shared → Prop}
  {news : List (Addr × Obj)} {ps : Array Value} {c₁ : Addr} {o₁ : Obj}
  {D : Addr} {e : Nat} {vs : List Value} {n v : Int} {ds : List Int} {tn : Tok} (hv : Join n ds v) (hI : IntsAre vs ds) (hn : 0 < n) (hn2 : n < 2 ^ 20) (hds : ds.length ≤ 2000)
  (B : Below A₀ base outer h₀) (F : Fr h₀ L s.heap m) (X : (hd.heap_1 w.params).In h₀) (T : Top topProg loose mean mg mb h₀) (hk : cs.kind = .function) (N : News h₀ L s.heap ((71, tabObj ps) :: (c₁, o₁) :: (D, listOf vs.toArray e) :: news))
  (c1 : CodeHd base 75 71) (tb : TabOk 54 4 D2Q ps c₁ o₁) (sepP : Sep 71 news) (sep1 : Sep c₁ news) (sepD : Sep D news) (ne1 : NeN c₁ 71) (neD : NeN D 71) (neD1 : NeN D c₁)
  (hdp : dp + ds.length + 6 < recursionLimit) (hun : un + 4 * ds.length + 40 < cLine)
  (ret : ∀ tr c' oc h' tk', Fr h₀ L h' m → News h₀ L h' ((71, tabObj #[rawInt 54, rawInt 4, .ref c']) :: (c', oc) :: (D, listOf vs.toArray e) :: news) →
    TabOk 54 4 D2Q #[rawInt 54, rawInt 4, .ref c'] c' oc → (ps = #[] ∨ (c' = c₁ ∧ oc = o₁)) → Sep c' news → NeN D c' → NeN c' 71 → Q (.int v tr) { s with heap := h', toks := tk' }) :
  wpAny (model PySem.Challenge.rw_sc0080_02.row.prog w) (ktrTop dp un gd cn cs L a ccd cl outer) (call (.ref 76) [.ref D, .int n tn]) Q E s := by
  revert X
  k_fill
  intro X
  refine wpAny_call ?_
  k_dflt (refine' code_defC ?k1 ?k2 ?k3 ?k4 ?k5 ?kA ?kF ?kK ?k6 ?k7 ?k8 ?k9 ?kB ?kD ?_ ?c2 ?c3 ?c4)
  case kA => exact rfl
  case kF => exact rfl
  case kK => assumption
  case k1 => k_asm
  case k2 => k_asm
  case k3 => k_asm
  case k4 => exact N
  case k5 => k_asm
  case k6 => k_is
  case k7 => k_is
  case k8 => show dp < recursionLimit; omega
  case k9 => exact BindsTo.of_eq rfl
  case kB => exact rfl
  case kD => decide +kernel
  case c2 => exact rfl
  case c3 => exact rfl
  case c4 => exact rfl
  intro g1 L1 h1 tk1 cells1 FG1 F1 N1 Y1 B1 X1 T1 lw1
  k_cells Y1
  simp only [List.cons_append, List.nil_append] at N1
  refine rebaseK (ex := [_, _, _, _, _, _]) F1 N1 B1 X1 T1 (news_in N (by intro p hp; repeat' first | exact hp | refine List.Mem.tail _ ?_)) (fun p hp => lw1 p (by repeat' first | exact hp | refine List.Mem.tail _ ?_)) (List.forall_mem_cons.mpr ⟨sep_cell lw1 (by intro p hp; repeat' first | exact hp | refine List.Mem.tail _ ?_) (by omega), List.forall_mem_cons.mpr ⟨sep_cell lw1 (by intro p hp; repeat' first | exact hp | refine List.Mem.tail _ ?_) (by omega), List.forall_mem_cons.mpr ⟨sep_cell lw1 (by intro p hp; repeat' first | exact hp | refine List.Mem.tail _ ?_) (by omega), List.forall_mem_cons.mpr ⟨sepP, List.forall_mem_cons.mpr ⟨sep1, List.forall_mem_cons.mpr ⟨sepD, List.forall_mem_nil _⟩⟩⟩⟩⟩⟩) ?_
  intro gp Fp Np Bp Xp Tp Ip
  clear F1 N1 B1 X1 T1 FG1
  (try dsimp only)
  (try k_lift Bp)
  (try k_fold)
  k_steps
  repeat' (refine CiStop.go ?_; (with_reducible (first | (k_here; (with_reducible show wpAny _ _ (exec (Stmt.FunctionDef _ _ _ _ _ _ _ _ _ _) _) _ _ _); kn_here; k_dflt (refine' nestDef_K ?d0 ?k0 ?a0 ?_; (case d0 => exact rfl); (case k0 => exact rfl); (case a0 => exact rfl)); (k_dflt (refine' nest_any ?F ?N ?T ?C ?cd ?U ?U2 ?t ?hl ?hc ?hq ?cl ?_; ((case F => k_asm); (case N => k_asm)); (case T => k_asm); (case cd => exact rfl); (case C => kn_code); (case t => assumption); (case U => k_updF); (case U2 => k_updF); (case hl => rfl); (case hc => rfl); (case hq => kernel_rfl!); (case cl => exact rfl); k_whole); intro f' c' oc' vs' t' ct' dc' h' tk' F' N' d1' d2' d3' hw' s1' n1' l1 l2; (try dsimp only at N'); (try k_lt l1); (have _ := ne_lt2 l2); clear l2)))); k_steps)
  · refine CiStop.go ?_
    cases hv with
    | zero => exact absurd (by assumption) (Nat.lt_irrefl 0)
    | some hdg =>
    rename News gp L1 _ _ => NM
    k_dflt (refine' inn_d c1 hn hn2 ?oF ?oA ?oI ?oN ?oc ?vc hdg (vs := vs) (ns := ds) (l := 0) (r := ds.length) (Int.le_refl 0) (Int.zero_add _).symm ?a3 (fun j _ => by rw [Int.toNat_zero, Nat.zero_add]) hI ?B ?F ?X ?T ?hk (news_cons NM ?m0 (news_cons NM ?m1 (news_cons NM ?m2 (news_cons NM ?m3 (news_cons NM ?m4 (news_cons NM ?m5 (news_cons NM (x := (71, tabObj #[rawInt 54, rawInt 4, .ref _])) ?m6 (news_in NM (r := []) (fun _ h => absurd h (List.not_mem_nil)))))))))) ?hdp ?hun ?_)
    case m0 => k_dflt k_mem
    case oF => exact (fn_is (by k_is) (by rfl)).symm
    case m1 => k_dflt k_mem
    case m2 => k_dflt k_mem
    case m3 => k_dflt k_mem
    case m4 => k_dflt k_mem
    case oA => assumption
    case oI => assumption
    case oN => assumption
    case oc => assumption
    case vc => assumption
    case m5 => k_dflt k_mem
    case m6 => k_dflt k_mem
    case a3 => omega
    case B => k_asm
    case F => k_asm
    case X => k_asm
    case T => k_asm
    case hk => exact rfl
    case hdp => (try simp only [depth_under_make, depth_under_kw, depth_in1, depth_deeper, depth_caller, Nat.add_assoc, Nat.reduceAdd]); omega
    case hun => (try simp only [units_in1, units_deeper, Around.mark_units, units_caller, Nat.add_assoc, Nat.reduceAdd]); omega
    k_whole
    intro tv hp1 tk1 F1 N1
    ((try dsimp only); (try k_fold))
    k_steps
    repeat' (refine CiStop.go ?_; (with_reducible (first | (k_here; (with_reducible show wpAny _ _ (exec (Stmt.FunctionDef _ _ _ _ _ _ _ _ _ _) _) _ _ _); kn_here; k_dflt (refine' nestDef_K ?d0 ?k0 ?a0 ?_; (case d0 => exact rfl); (case k0 => exact rfl); (case a0 => exact rfl)); (k_dflt (refine' nest_any ?F ?N ?T ?C ?cd ?U ?U2 ?t ?hl ?hc ?hq ?cl ?_; ((case F => k_asm); (case N => k_asm)); (case T => k_asm); (case cd => exact rfl); (case C => kn_code); (case t => assumption); (case U => k_updF); (case U2 => k_updF); (case hl => rfl); (case hc => rfl); (case hq => kernel_rfl!); (case cl => exact rfl); k_whole); intro f' c' oc' vs' t' ct' dc' h' tk' F' N' d1' d2' d3' hw' s1' n1' l1 l2; (try dsimp only at N'); (try k_lt l1); (have _ := ne_lt2 l2); clear l2)))); k_steps)
    rename News h₀ L _ news => Nt
    rename News h₀ L _ (_ :: _) => NN
    rename News gp _ _ _ => NP
    refine' ret _ _ _ _ _ ?F (news_cons NN ?m0 (news_cons NN ?m1 (news_cons NN ?m2 Nt))) ?T ?hw ?s ?n0 ?n1
    case hw => assumption
    case F => k_asm
    case m0 => k_dflt k_mem
    case m1 => k_dflt k_mem
    case m2 => k_dflt k_mem
    case T => assumption
    case s => exact InBase.sep (x := (_, _)) Ip NP (by k_dflt k_mem)
    case n0 => exact ⟨by k_ne⟩
    case n1 => exact ⟨by k_ne⟩
  · cases hv with
    | some hdg => exact absurd hdg.pos (by assumption)
    | zero =>
    rename News h₀ L _ news => Nt
    rename News h₀ L _ (_ :: _) => NN
    rename News gp _ _ _ => NP
    refine' ret _ _ _ _ _ ?Fb (news_cons NN ?m0b (news_cons NN ?m1b (news_cons NN ?m2b Nt))) ?Tb ?hwb ?sb ?n0b ?n1b
    case hwb => assumption
    case Fb => k_asm
    case m0b => k_dflt k_mem
    case m1b => k_dflt k_mem
    case m2b => k_dflt k_mem
    case Tb => assumption
    case sb => exact InBase.sep (x := (_, _)) Ip NP (by k_dflt k_mem)
    case n0b => exact ⟨by k_ne⟩
    case n1b => exact ⟨by k_ne⟩

end
section
open PySem PySem.W PyProof.Rows PySem.Spec PySem.Calls
local macro_rules | `(tactic| walk_at "call builtin:divmod") => `(tactic| (k_here; refine CiStop.out ?_))
theorem d21_c {w : World} {loose : List Str} {mean : ExcName → Option Value} {mg mb : Str → Option Value}
  {dp un : Nat} {gd : Option (List Code)} {cn : Str} {cs : Scope} {a : Addr} {ccd : Value} {cl : List (Str × Addr)} {outer : List Env} {A₀ : Around} {base h₀ : Heap} {L : Addr} {m : Str → Option Value} {s : Shared} {Q E : Value → Shared → Prop}
  {news : List (Addr × Obj)} {x y z q r : Int} {tx ty tz : Tok} (hdv : DivK x y q r) (hb : (Builtin.Int.intBits x : Int) - z ≤ 4000)
  (B : Below A₀ base outer h₀) (F : Fr h₀ L s.heap m) (X : (hd.heap_1 w.params).In h₀) (T : Top topProg loose mean mg mb h₀) (hk : cs.kind = .function) (N : News h₀ L s.heap news) (hdp : dp + 2 < recursionLimit) (hun : un + 20 < cLine)
  (ret : ∀ d t1 t2 h' tk', Fr h₀ L h' m → News h₀ L h' ((d, tupObj #[.int q t1, .int r t2]) :: news) → Sep d news → Q (.ref d) { s with heap := h', toks := tk' }) :
  wpAny (model PySem.Challenge.rw_sc0080_02.row.prog w) (ktrTop dp un gd cn cs L a ccd cl outer) (call (.ref 55) [.int x tx, .int y ty, .int z tz]) Q E s := by
  revert X
  k_fill
  intro X
  refine wpAny_call ?_
  k_dflt (refine' code_defL ?k1 ?k2 ?k3 ?k4 ?k5 ?kA ?kF ?kK ?k6 ?k7 ?k8 ?k9 ?kB ?_ ?c2 ?c3 ?c4 ?c5)
  case kA => exact rfl
  case kF => exact rfl
  case kK => assumption
  case k1 => k_asm
  case k2 => k_asm
  case k3 => k_asm
  case k4 => exact N
  case k5 => k_asm
  case k6 => k_is
  case k7 => k_is
  case k8 => ktr_room
  case k9 => exact BindsTo.of_eq rfl
  case c5 => decide
  case kB => exact locs rfl
  case c2 => exact rfl
  case c3 => exact rfl
  case c4 => exact rfl
  intro g1 L1 h1 FG1 F1 N1 B1 X1 T1 lw1
  refine rebaseK (ex := []) F1 N1 B1 X1 T1 (news_in N (by intro p hp; repeat' first | exact hp | refine List.Mem.tail _ ?_)) (fun p hp => lw1 p (by repeat' first | exact hp | refine List.Mem.tail _ ?_)) (List.forall_mem_nil _) ?_
  intro gp Fp Np Bp Xp Tp Ip
  clear F1 N1 B1 X1 T1 FG1
  (try dsimp only)
  (try k_lift Bp)
  (try k_fold)
  k_steps
  repeat' (refine CiStop.go ?_; (with_reducible (first | (k_here; (with_reducible show wpAny _ _ (call (Value.builtin "divmod") _) _ _ _); k_dflt (refine' divmod_known ?F ?N ?k ?_; ((case F => k_asm); (case N => k_asm)); (case k => with_reducible assumption); k_whole); intro d' t1' t2' h' F' N' l1; (try k_lt l1)))); k_steps)
  all_goals first
    | (exfalso; with_reducible contradiction)
    | (exfalso; omega)
    | skip
  rename News h₀ L _ news => Nt
  rename News h₀ L _ (_ :: _) => NN
  rename News gp _ _ _ => NP
  refine' ret _ _ _ _ _ ?F (news_cons NN ?m0 Nt) ?s
  case F => k_asm
  case m0 => k_dflt k_mem
  case s => exact InBase.sep (x := (_, _)) Ip NP (by k_dflt k_mem)

theorem i2dU_all {w : World} {loose : List Str} {mean : ExcName → Option Value} {mg mb : Str → Option Value}
  {dp un : Nat} {gd : Option (List Code)} {cn : Str} {cs : Scope} {a : Addr} {ccd : Value} {cl : List (Str × Addr)} {outer : List Env} {A₀ : Around} {base h₀ : Heap} {L : Addr} {m : Str → Option Value} {s : Shared} {Q E : Value → Shared → Prop}
  {news t1 tl : List (Addr × Obj)} {ps : Array Value} {c₁ : Addr} {o₁ : Obj}
  {x n : Int} {k : Nat} {ds : List Int} {tx tn : Tok} (hx : Cut n x k ds) (hn : 0 < n) (hn2 : n < 2 ^ 20) (hk3 : k ≤ 2000) (hb : FdK ((Builtin.Int.intBits x : Int) + n - 1) n (k : Int))
  (B : Below A₀ base outer h₀) (F : Fr h₀ L s.heap m) (X : (hd.heap_1 w.params).In h₀) (T : Top topProg loose mean mg mb h₀) (hk : cs.kind = .function) (N : News h₀ L s.heap news)
  (c1 : CodeHd base 68 64) (tb : TabOk 39 4 I2Q ps c₁ o₁) (U : Del 64 (tabObj ps) news t1) (U2 : Del c₁ o₁ t1 tl) (ne1 : NeN c₁ 64)
  (hdp : dp + k + 6 < recursionLimit) (hun : un + 4 * k + 40 < cLine)
  (ret : ∀ d vs c' oc h' tk', IntsAre vs ds → Fr h₀ L h' m → News h₀ L h' ((d, listOf vs.toArray 0) :: (64, tabObj #[rawInt 39, rawInt 4, .ref c']) :: (c', oc) :: tl) →
    TabOk 39 4 I2Q #[rawInt 39, rawInt 4, .ref c'] c' oc → (ps = #[] ∨ (c' = c₁ ∧ oc = o₁)) → Sep c' tl → Sep d tl → NeN c' 64 → NeN d c' → NeN d 64 → Q (.ref d) { s with heap := h', toks := tk' }) :
  wpAny (model PySem.Challenge.rw_sc0080_02.row.prog w) (ktrTop dp un gd cn cs L a ccd cl outer) (call (.ref 69) [.int x tx, .int n tn]) Q E s := by
  exact i2d_all hx hn hn2 hk3 hb B F X T hk (del2_news N U U2) c1 tb (sep_sub U.sep U2.sub) U2.sep ne1 hdp hun ret
theorem d2iU_all {w : World} {loose : List Str} {mean : ExcName → Option Value} {mg mb : Str → Option Value}
  {dp un : Nat} {gd : Option (List Code)} {cn : Str} {cs : Scope} {a : Addr} {ccd : Value} {cl : List (Str × Addr)} {outer : List Env} {A₀ : Around} {base h₀ : Heap} {L : Addr} {m : Str → Option Value} {s : Shared} {Q E : Value → Shared → Prop}
  {news z1 z2 tl : List (Addr × Obj)} {ps : Array Value} {c₁ : Addr} {o₁ : Obj}
  {D : Addr} {e : Nat} {vs : List Value} {n v : Int} {ds : List Int} {tn : Tok} (hv : Join n ds v) (hI : IntsAre vs ds) (hn : 0 < n) (hn2 : n < 2 ^ 20) (hds : ds.length ≤ 2000)
  (B : Below A₀ base outer h₀) (F : Fr h₀ L s.heap m) (X : (hd.heap_1 w.params).In h₀) (T : Top topProg loose mean mg mb h₀) (hk : cs.kind = .function) (N : News h₀ L s.heap news)
  (c1 : CodeHd base 75 71) (tb : TabOk 54 4 D2Q ps c₁ o₁) (U : Del 71 (tabObj ps) news z1) (U2 : Del c₁ o₁ z1 z2) (U3 : Del D (listOf vs.toArray e) z2 tl) (ne1 : NeN c₁ 71)
  (hdp : dp + ds.length + 6 < recursionLimit) (hun : un + 4 * ds.length + 40 < cLine)
  (ret : ∀ tr c' oc h' tk', Fr h₀ L h' m → News h₀ L h' ((71, tabObj #[rawInt 54, rawInt 4, .ref c']) :: (c', oc) :: (D, listOf vs.toArray e) :: tl) →
    TabOk 54 4 D2Q #[rawInt 54, rawInt 4, .ref c'] c' oc → (ps = #[] ∨ (c' = c₁ ∧ oc = o₁)) → Sep c' tl → NeN D c' → NeN c' 71 → Q (.int v tr) { s with heap := h', toks := tk' }) :
  wpAny (model PySem.Challenge.rw_sc0080_02.row.prog w) (ktrTop dp un gd cn cs L a ccd cl outer) (call (.ref 76) [.ref D, .int n tn]) Q E s := by
  have N3 : News h₀ L s.heap ((71, tabObj ps) :: (c₁, o₁) :: (D, listOf vs.toArray e) :: tl) := news_cons N U.mem (news_cons N (U.sub _ U2.mem) (news_cons N (U.sub _ (U2.sub _ U3.mem)) (news_in N fun p hp => U.sub p (U2.sub p (U3.sub p hp)))))
  exact d2i_all hv hI hn hn2 hds B F X T hk N3 c1 tb (sep_sub U.sep fun p hp => U2.sub p (U3.sub p hp)) (sep_sub U2.sep U3.sub) U3.sep ne1 (U.sep _ (U2.sub _ U3.mem)) (U2.sep _ U3.mem) hdp hun ret
local macro_rules | `(tactic| walk_at "call ref") => `(tactic| (k_here; (with_reducible show wpAny _ _ (call (Value.ref (OfNat.ofNat _)) _) _ _ _); refine CiStop.out ?_))
local macro_rules | `(tactic| walk_at "call type:reversed") => `(tactic| (k_here; refine CiStop.out ?_))
local macro_rules | `(tactic| walk_at "pyIter ref") => `(tactic| (k_here; refine CiStop.out ?_))
local macro_rules | `(tactic| walk_at "call builtin:list.append") => `(tactic| (k_here; refine CiStop.out ?_))
local macro_rules | `(tactic| walk_at "call builtin:list.reverse") => `(tactic| (k_here; refine CiStop.out ?_))
local macro_rules | `(tactic| walk_at "UnrEnd") => `(tactic| (refine CiStop.out ?_))
inductive DmJ (n y : Int) (ty tn : Tok) (D2 : Addr) (R : List (Addr × Obj)) (rf : Int) (qall : List Int) : List Int → (Str → Option Value) → List (Addr × Obj) → Prop
  | mk {as : List Int} {rc : Int} {tr : Tok} {vq : List Value} {e2 : Nat} {qs0 qs : List Int} {u : Str → Option Value} (hD : Divs n y as rc qs rf) (hq : qs0 ++ qs = qall) (hI : IntsAre vq qs0) :
    DmJ n y ty tn D2 R rf qall as (kstB u [(Str.ofString "b", .int y ty), (Str.ofString "n", .int n tn), (Str.ofString "r", .int rc tr), (Str.ofString "q_digits", .ref D2)]) ((D2, listOf vq.toArray e2) :: R)
theorem dmp_all {w : World} {loose : List Str} {mean : ExcName → Option Value} {mg mb : Str → Option Value}
  {dp un : Nat} {gd : Option (List Code)} {cn : Str} {cs : Scope} {a : Addr} {ccd : Value} {cl : List (Str × Addr)} {outer : List Env} {A₀ : Around} {base h₀ : Heap} {L : Addr} {m : Str → Option Value} {s : Shared} {Q E : Value → Shared → Prop}
  {news : List (Addr × Obj)} {ps ps2 : Array Value} {c₁ c₂ : Addr} {o₁ o₂ : Obj}
  {x y n q r : Int} {k : Nat} {ds qs : List Int} {tx ty : Tok} (hx : Cut n x k ds) (hn : 0 < n) (hn2 : n < 2 ^ 20) (hk3 : k ≤ 2000) (Hb : BitK y n) (Hf : FdK ((Builtin.Int.intBits x : Int) + n - 1) n (k : Int)) (Hd : Divs n y ds.reverse 0 qs r) (Hj : Join n qs.reverse q)
  (B : Below A₀ base outer h₀) (F : Fr h₀ L s.heap m) (X : (hd.heap_1 w.params).In h₀) (T : Top topProg loose mean mg mb h₀) (hk : cs.kind = .function) (N : News h₀ L s.heap ((64, tabObj ps) :: (c₁, o₁) :: (71, tabObj ps2) :: (c₂, o₂) :: news))
  (c1 : CodeHd base 68 64) (c2 : CodeHd base 75 71) (tb : TabOk 39 4 I2Q ps c₁ o₁) (tb2 : TabOk 54 4 D2Q ps2 c₂ o₂) (sep1 : Sep 64 news) (sep2 : Sep c₁ news) (sep3 : Sep 71 news) (sep4 : Sep c₂ news)
  (ne1 : NeN c₁ 64) (ne2 : NeN c₁ 71) (ne3 : NeN c₂ 64) (ne4 : NeN c₂ 71) (ne5 : NeN c₁ c₂)
  (hdp : dp + k + 10 < recursionLimit) (hun : un + 4 * k + 60 < cLine)
  (ret : ∀ d tq tr c' oc c2' oc2 h' tk', Fr h₀ L h' m → News h₀ L h' ((d, tupObj #[.int q tq, .int r tr]) :: (64, tabObj #[rawInt 39, rawInt 4, .ref c']) :: (c', oc) :: (71, tabObj #[rawInt 54, rawInt 4, .ref c2']) :: (c2', oc2) :: news) →
    TabOk 39 4 I2Q #[rawInt 39, rawInt 4, .ref c'] c' oc → TabOk 54 4 D2Q #[rawInt 54, rawInt 4, .ref c2'] c2' oc2 → (ps = #[] ∨ (c' = c₁ ∧ oc = o₁)) → (ps2 = #[] ∨ (c2' = c₂ ∧ oc2 = o₂)) → Sep c' news → Sep c2' news → NeN c' 64 → NeN c' 71 → NeN c2' 64 → NeN c2' 71 → NeN c' c2' → NeN d c' → NeN d c2' → NeN d 64 → NeN d 71 → Sep d news → Q (.ref d) { s with heap := h', toks := tk' }) :
  wpAny (model PySem.Challenge.rw_sc0080_02.row.prog w) (ktrTop dp un gd cn cs L a ccd cl outer) (call (.ref 83) [.int x tx, .int y ty]) Q E s := by
  revert X
  k_fill
  intro X
  refine wpAny_call ?_
  k_dflt (refine' code_defL ?k1 ?k2 ?k3 ?k4 ?k5 ?kA ?kF ?kK ?k6 ?k7 ?k8 ?k9 ?kB ?_ ?c2 ?c3 ?c4 ?c5)
  case kA => exact rfl
  case kF => exact rfl
  case kK => assumption
  case k1 => k_asm
  case k2 => k_asm
  case k3 => k_asm
  case k4 => exact N
  case k5 => k_asm
  case k6 => k_is
  case k7 => k_is
  case k8 => show dp < recursionLimit; omega
  case k9 => exact BindsTo.of_eq rfl
  case c5 => decide
  case kB => exact locs rfl
  case c2 => exact rfl
  case c3 => exact rfl
  case c4 => exact rfl
  intro g1 L1 h1 FG1 F1 N1 B1 X1 T1 lw1
  refine rebaseK (ex := [_, _, _, _]) F1 N1 B1 X1 T1 (news_in N (by intro p hp; repeat' first | exact hp | refine List.Mem.tail _ ?_)) (fun p hp => lw1 p (by repeat' first | exact hp | refine List.Mem.tail _ ?_)) (List.forall_mem_cons.mpr ⟨sep1, List.forall_mem_cons.mpr ⟨sep2, List.forall_mem_cons.mpr ⟨sep3, List.forall_mem_cons.mpr ⟨sep4, List.forall_mem_nil _⟩⟩⟩⟩) ?_
  intro gp Fp Np Bp Xp Tp Ip
  clear F1 N1 B1 X1 T1 FG1
  (try dsimp only)
  (try k_lift Bp)
  (try k_fold)
  have hlen := hx.len
  k_steps
  repeat' (refine CiStop.go ?_; (with_reducible (first | (k_here; (with_reducible show wpAny _ _ (call (Value.builtin "divmod") _) _ _ _); k_dflt (refine' divmod_known ?F ?N ?k ?_; ((case F => k_asm); (case N => k_asm)); (case k => with_reducible assumption); k_whole); intro d' t1' t2' h' F' N' l1; (try k_lt l1)))); k_steps)
  refine CiStop.go ?_
  k_dflt (refine' i2dU_all hx hn hn2 hk3 Hf ?B ?F ?X ?T ?hk ?N ?c1 ?tb ?U ?U2 ?ne1 ?hdp ?hun ?_)
  ((case B => k_asm); (case F => k_asm); (case X => k_asm); (case T => k_asm); (case hk => exact rfl); (case N => k_asm))
  case c1 => kn_code
  case tb => assumption
  case U => k_updF
  case U2 => k_updF
  case ne1 => exact ⟨by k_ne⟩
  case hdp => (try simp only [depth_under_make, depth_under_kw, depth_in1, depth_deeper, depth_caller, Nat.add_assoc, Nat.reduceAdd]); omega
  case hun => (try simp only [units_in1, units_deeper, Around.mark_units, units_caller, Nat.add_assoc, Nat.reduceAdd]); omega
  k_whole
  intro d' vs c' oc' h' tk' hIv F' N' d3' hw' s1' s2' n1' n2' n3'
  ((try dsimp only); (try k_fold))
  k_steps
  repeat' (refine CiStop.go ?_; (with_reducible (first | (k_here; (with_reducible show wpAny _ _ (call (Value.builtin "divmod") _) _ _ _); k_dflt (refine' divmod_known ?F ?N ?k ?_; ((case F => k_asm); (case N => k_asm)); (case k => with_reducible assumption); k_whole); intro d' t1' t2' h' F' N' l1; (try k_lt l1)))); k_steps)
  refine CiStop.go ?_
  rename News gp L1 _ _ => NM
  k_dflt (refine' krv_reversed (vs := vs) ?F NM (NM.isList (by k_mem)) ?_)
  case F => k_asm
  k_whole
  intro I h2 F2 N2 l2
  k_steps
  repeat' (refine CiStop.go ?_; (with_reducible (first | (k_here; (with_reducible show wpAny _ _ (call (Value.builtin "divmod") _) _ _ _); k_dflt (refine' divmod_known ?F ?N ?k ?_; ((case F => k_asm); (case N => k_asm)); (case k => with_reducible assumption); k_whole); intro d' t1' t2' h' F' N' l1; (try k_lt l1)))); k_steps)
  refine CiStop.go ?_
  rename Fr gp L1 _ _ => FF
  rename News gp L1 _ _ => NN
  k_dflt (refine' iter_revUnr (vs := vs) (ax := d') (lo := listOf vs.toArray 0) rfl (fr_known [(Str.ofString "b", .int y ty), (Str.ofString "n", .int n _), (Str.ofString "r", .int 0 _), (Str.ofString "q_digits", .ref _)] FF (List.forall_mem_cons.mpr ⟨rfl, List.forall_mem_cons.mpr ⟨rfl, List.forall_mem_cons.mpr ⟨rfl, List.forall_mem_cons.mpr ⟨rfl, List.forall_mem_nil _⟩⟩⟩⟩)) NN ?off ?m rfl rfl ?_)
  case off => k_offL
  case m => k_mem
  refine rev_rest (ints_rev hIv) (DmJ n y ty _ _ _ r qs) ?turn ?fin (DmJ.mk Hd (List.nil_append _) .nil)
  case turn =>
    intro a1 as1 m1 news1 it h3 tk3 t3 J1 hit F3 N3
    cases J1 with
    | @mk rc tr vq e2 qs0 qs1 u hD hq hI1 =>
    have hlq : vq.length ≤ 2000 := by
      have e1 := hI1.length
      have e3 := Hd.len
      rw [← hq, List.length_append, List.length_reverse] at e3
      omega
    cases hD with
    | cons Hw Hq Hc hD2 =>
    k_steps
    repeat' (refine CiStop.go ?_; (with_reducible (first | (k_here; (with_reducible show wpAny _ _ (call (Value.builtin "divmod") _) _ _ _); k_dflt (refine' divmod_known ?F ?N ?k ?_; ((case F => k_asm); (case N => k_asm)); (case k => with_reducible assumption); k_whole); intro d' t1' t2' h' F' N' l1; (try k_lt l1)))); k_steps)
    refine CiStop.go ?_
    k_dflt (refine' d21_c Hq Hc ?B ?F ?X ?T ?hk ?N ?hdp ?hun ?_)
    ((case B => k_asm); (case F => k_asm); (case X => k_asm); (case T => k_asm); (case hk => exact rfl); (case N => k_asm))
    case hdp => (try simp only [depth_under_make, depth_under_kw, depth_in1, depth_deeper, depth_caller, Nat.add_assoc, Nat.reduceAdd]); omega
    case hun => (try simp only [units_in1, units_deeper, Around.mark_units, units_caller, Nat.add_assoc, Nat.reduceAdd]); omega
    k_whole
    intro dt t1' t2' h4 tk4 F4 N4 s4
    ((try dsimp only); (try k_fold))
    k_steps
    repeat' (refine CiStop.go ?_; (with_reducible (first | (k_here; (with_reducible show wpAny _ _ (call (Value.builtin "divmod") _) _ _ _); k_dflt (refine' divmod_known ?F ?N ?k ?_; ((case F => k_asm); (case N => k_asm)); (case k => with_reducible assumption); k_whole); intro d' t1' t2' h' F' N' l1; (try k_lt l1)))); k_steps)
    refine CiStop.go ?_
    k_dflt (refine' append_ints (vs := vq) ?F ?N ?hz ?U ?_)
    case F => k_asm
    case N => k_asm
    case hz => omega
    case U => k_upd
    k_whole
    intro h5 F5 N5
    k_steps
    repeat' (refine CiStop.go ?_; (with_reducible (first | (k_here; (with_reducible show wpAny _ _ (call (Value.builtin "divmod") _) _ _ _); k_dflt (refine' divmod_known ?F ?N ?k ?_; ((case F => k_asm); (case N => k_asm)); (case k => with_reducible assumption); k_whole); intro d' t1' t2' h' F' N' l1; (try k_lt l1)))); k_steps)
    refine CiStop.go ?_
    rename Fr gp L1 _ _ => FE
    rename News gp L1 _ _ => NE
    refine ⟨_, _, _, (_, _) :: _, rfl, fr_known [(Str.ofString "b", .int y ty), (Str.ofString "n", .int n _), (Str.ofString "r", .int _ _), (Str.ofString "q_digits", .ref _)] FE (List.forall_mem_cons.mpr ⟨rfl, List.forall_mem_cons.mpr ⟨rfl, List.forall_mem_cons.mpr ⟨rfl, List.forall_mem_cons.mpr ⟨rfl, List.forall_mem_nil _⟩⟩⟩⟩), fun p hp => NE p (.tail _ hp), List.forall_mem_cons.mpr ⟨by k_ne, fun p hp => Nat.ne_of_lt (l2 p (.tail _ hp))⟩, by k_mem, DmJ.mk hD2 (by rw [List.append_assoc]; exact hq) (ints_snoc hI1)⟩
  case fin =>
    intro m1 news1 h3 tk3 J1 F3 N3
    cases J1 with
    | @mk rc tr vq e2 qs0 qs1 u hD hq hI1 =>
    cases hD with
    | nil =>
    rw [List.append_nil] at hq
    subst hq
    have hlq : qs0.length = k := by
      have e3 := Hd.len
      rw [List.length_reverse] at e3
      omega
    k_steps
    repeat' (refine CiStop.go ?_; (with_reducible (first | (k_here; (with_reducible show wpAny _ _ (call (Value.builtin "divmod") _) _ _ _); k_dflt (refine' divmod_known ?F ?N ?k ?_; ((case F => k_asm); (case N => k_asm)); (case k => with_reducible assumption); k_whole); intro d' t1' t2' h' F' N' l1; (try k_lt l1)))); k_steps)
    refine CiStop.go ?_
    k_dflt (refine' reverse_ints ?F ?N ?hz ?U ?_)
    case F => k_asm
    case N => k_asm
    case hz => rw [hI1.length]; omega
    case U => k_upd
    k_whole
    intro h5 F5 N5
    k_steps
    repeat' (refine CiStop.go ?_; (with_reducible (first | (k_here; (with_reducible show wpAny _ _ (call (Value.builtin "divmod") _) _ _ _); k_dflt (refine' divmod_known ?F ?N ?k ?_; ((case F => k_asm); (case N => k_asm)); (case k => with_reducible assumption); k_whole); intro d' t1' t2' h' F' N' l1; (try k_lt l1)))); k_steps)
    refine CiStop.go ?_
    k_dflt (refine' d2iU_all Hj (ints_rev hI1) hn hn2 ?hds ?B ?F ?X ?T ?hk ?N ?c1 ?tb ?U ?U2 ?U3 ?ne1 ?hdp ?hun ?_)
    ((case B => k_asm); (case F => k_asm); (case X => k_asm); (case T => k_asm); (case hk => exact rfl); (case N => k_asm))
    case hds => rw [List.length_reverse]; omega
    case c1 => kn_code
    case tb => assumption
    case U => k_updF
    case U2 => k_updF
    case U3 => k_updF
    case ne1 => exact ⟨by k_ne⟩
    case hdp => rw [List.length_reverse]; (try simp only [depth_under_make, depth_under_kw, depth_in1, depth_deeper, depth_caller, Nat.add_assoc, Nat.reduceAdd]); omega
    case hun => rw [List.length_reverse]; (try simp only [units_in1, units_deeper, Around.mark_units, units_caller, Nat.add_assoc, Nat.reduceAdd]); omega
    k_whole
    intro t' c2' oc2 h' tk' F' N' d3' hw' s1' n0' n1'
    ((try dsimp only); (try k_fold))
    k_steps
    repeat' (refine CiStop.go ?_; (with_reducible (first | (k_here; (with_reducible show wpAny _ _ (call (Value.builtin "divmod") _) _ _ _); k_dflt (refine' divmod_known ?F ?N ?k ?_; ((case F => k_asm); (case N => k_asm)); (case k => with_reducible assumption); k_whole); intro d' t1' t2' h' F' N' l1; (try k_lt l1)))); k_steps)
    rename News h₀ L _ news => Nt
    rename News h₀ L _ (_ :: _) => NN
    rename News gp _ _ _ => NP
    refine' ret _ _ _ _ _ _ _ _ _ ?F (news_cons NN ?m0 (news_cons NN ?m1 (news_cons NN ?m2 (news_cons NN ?m3 (news_cons NN ?m4 Nt))))) ?T ?T2 ?hw ?hw2 ?s ?s2 ?n1 ?n2 ?n3 ?n4 ?n5 ?n6 ?n7 ?n8 ?n9 ?a
    case F => k_asm
    case m0 => k_dflt k_mem
    case m1 => k_dflt k_mem
    case m2 => k_dflt k_mem
    case m3 => k_dflt k_mem
    case m4 => k_dflt k_mem
    case T => assumption
    case T2 => assumption
    case hw => assumption
    case hw2 => assumption
    case s => exact InBase.sep (x := (_, _)) Ip NP (by k_dflt k_mem)
    case s2 => exact InBase.sep (x := (_, _)) Ip NP (by k_dflt k_mem)
    case a => exact InBase.sep (x := (_, _)) Ip NP (by k_dflt k_mem)
    case n1 => exact ⟨by k_ne⟩
    case n2 => exact ⟨by k_ne⟩
    case n3 => exact ⟨by k_ne⟩
    case n4 => exact ⟨by k_ne⟩
    case n5 => exact ⟨by k_ne⟩
    case n6 => exact ⟨by k_ne⟩
    case n7 => exact ⟨by k_ne⟩
    case n8 => exact ⟨by k_ne⟩
    case n9 => exact ⟨by k_ne⟩

end
section
open PySem PySem.W PyProof.Rows PySem.Spec PySem.Calls
inductive DMok : Int → Int → Int → Int → Prop
  | mk {x y n q r : Int} {k : Nat} {ds qs : List Int} (hx : Cut n x k ds) (hn : 0 < n) (hn2 : n < 2 ^ 20) (hk3 : k ≤ 5) (Hb : BitK y n) (Hf : FdK ((Builtin.Int.intBits x : Int) + n - 1) n (k : Int)) (Hd : Divs n y ds.reverse 0 qs r) (Hj : Join n qs.reverse q) : DMok x y q r
/-- what int_divmod is asked, any signs; the number counts its own calls -/
inductive SM : Nat → Int → Int → Int → Int → Prop
  | pp {x y q r : Int} (hx : 0 ≤ x) (hy : 0 < y) (h : DMok x y q r) : SM 0 x y q r
theorem dmp_c {w : World} {loose : List Str} {mean : ExcName → Option Value} {mg mb : Str → Option Value}
  {dp un : Nat} {gd : Option (List Code)} {cn : Str} {cs : Scope} {a : Addr} {ccd : Value} {cl : List (Str × Addr)} {outer : List Env} {A₀ : Around} {base h₀ : Heap} {L : Addr} {m : Str → Option Value} {s : Shared} {Q E : Value → Shared → Prop}
  {news : List (Addr × Obj)} {ps ps2 : Array Value} {c₁ c₂ : Addr} {o₁ o₂ : Obj}
  {x y q r : Int} {tx ty : Tok} (hdm : DMok x y q r)
  (B : Below A₀ base outer h₀) (F : Fr h₀ L s.heap m) (X : (hd.heap_1 w.params).In h₀) (T : Top topProg loose mean mg mb h₀) (hk : cs.kind = .function) (N : News h₀ L s.heap ((64, tabObj ps) :: (c₁, o₁) :: (71, tabObj ps2) :: (c₂, o₂) :: news))
  (c1 : CodeHd base 68 64) (c2 : CodeHd base 75 71) (tb : TabOk 39 4 I2Q ps c₁ o₁) (tb2 : TabOk 54 4 D2Q ps2 c₂ o₂) (sep1 : Sep 64 news) (sep2 : Sep c₁ news) (sep3 : Sep 71 news) (sep4 : Sep c₂ news)
  (ne1 : NeN c₁ 64) (ne2 : NeN c₁ 71) (ne3 : NeN c₂ 64) (ne4 : NeN c₂ 71) (ne5 : NeN c₁ c₂)
  (hdp : dp + 5 + 10 < recursionLimit) (hun : un + 4 * 5 + 60 < cLine)
  (ret : ∀ d tq tr c' oc c2' oc2 h' tk', Fr h₀ L h' m → News h₀ L h' ((d, tupObj #[.int q tq, .int r tr]) :: (64, tabObj #[rawInt 39, rawInt 4, .ref c']) :: (c', oc) :: (71, tabObj #[rawInt 54, rawInt 4, .ref c2']) :: (c2', oc2) :: news) →
    TabOk 39 4 I2Q #[rawInt 39, rawInt 4, .ref c'] c' oc → TabOk 54 4 D2Q #[rawInt 54, rawInt 4, .ref c2'] c2' oc2 → (ps = #[] ∨ (c' = c₁ ∧ oc = o₁)) → (ps2 = #[] ∨ (c2' = c₂ ∧ oc2 = o₂)) → Sep c' news → Sep c2' news → NeN c' 64 → NeN c' 71 → NeN c2' 64 → NeN c2' 71 → NeN c' c2' → NeN d c' → NeN d c2' → NeN d 64 → NeN d 71 → Sep d news → Q (.ref d) { s with heap := h', toks := tk' }) :
  wpAny (model PySem.Challenge.rw_sc0080_02.row.prog w) (ktrTop dp un gd cn cs L a ccd cl outer) (call (.ref 83) [.int x tx, .int y ty]) Q E s := by
  cases hdm with
  | mk hx hn hn2 hk3 Hb Hf Hd Hj => exact dmp_all hx hn hn2 (by omega) Hb Hf Hd Hj B F X T hk N c1 c2 tb tb2 sep1 sep2 sep3 sep4 ne1 ne2 ne3 ne4 ne5 (by omega) (by omega) ret
local macro_rules | `(tactic| walk_at "call ref") => `(tactic| (k_here; (with_reducible show wpAny _ _ (call (Value.ref (OfNat.ofNat _)) _) _ _ _); refine CiStop.out ?_))
theorem idm_all {w : World} {loose : List Str} {mean : ExcName → Option Value} {mg mb : Str → Option Value} {d0 : Nat} {x y q r : Int} (hdm : SM d0 x y q r) :
  ∀ {dp un : Nat} {gd : Option (List Code)} {cn : Str} {cs : Scope} {a : Addr} {ccd : Value} {cl : List (Str × Addr)} {outer : List Env} {A₀ : Around} {base h₀ : Heap} {L : Addr} {m : Str → Option Value} {s : Shared} {Q E : Value → Shared → Prop}
  {news : List (Addr × Obj)} {ps ps2 : Array Value} {c₁ c₂ : Addr} {o₁ o₂ : Obj} {tx ty : Tok}
  (B : Below A₀ base outer h₀) (F : Fr h₀ L s.heap m) (X : (hd.heap_1 w.params).In h₀) (T : Top topProg loose mean mg mb h₀) (hk : cs.kind = .function) (N : News h₀ L s.heap ((64, tabObj ps) :: (c₁, o₁) :: (71, tabObj ps2) :: (c₂, o₂) :: news))
  (c1 : CodeHd base 68 64) (c2 : CodeHd base 75 71) (tb : TabOk 39 4 I2Q ps c₁ o₁) (tb2 : TabOk 54 4 D2Q ps2 c₂ o₂) (sep1 : Sep 64 news) (sep2 : Sep c₁ news) (sep3 : Sep 71 news) (sep4 : Sep c₂ news)
  (ne1 : NeN c₁ 64) (ne2 : NeN c₁ 71) (ne3 : NeN c₂ 64) (ne4 : NeN c₂ 71) (ne5 : NeN c₁ c₂)
  (hdp : dp + 4 * d0 + 5 + 14 < recursionLimit) (hun : un + 20 * d0 + 4 * 5 + 90 < cLine)
  (ret : ∀ d tq tr c' oc c2' oc2 h' tk', Fr h₀ L h' m → News h₀ L h' ((d, tupObj #[.int (q) tq, .int (r) tr]) :: (64, tabObj #[rawInt 39, rawInt 4, .ref c']) :: (c', oc) :: (71, tabObj #[rawInt 54, rawInt 4, .ref c2']) :: (c2', oc2) :: news) →
    TabOk 39 4 I2Q #[rawInt 39, rawInt 4, .ref c'] c' oc → TabOk 54 4 D2Q #[rawInt 54, rawInt 4, .ref c2'] c2' oc2 → (ps = #[] ∨ (c' = c₁ ∧ oc = o₁)) → (ps2 = #[] ∨ (c2' = c₂ ∧ oc2 = o₂)) → Sep c' news → Sep c2' news → NeN c' 64 → NeN c' 71 → NeN c2' 64 → NeN c2' 71 → NeN c' c2' → NeN d c' → NeN d c2' → NeN d 64 → NeN d 71 → Sep d news → Q (.ref d) { s with heap := h', toks := tk' }),
  wpAny (model PySem.Challenge.rw_sc0080_02.row.prog w) (ktrTop dp un gd cn cs L a ccd cl outer) (call (.ref 90) [.int (x) tx, .int (y) ty]) Q E s := by
  induction hdm with
  | @pp x y q r hx hy h =>
    intro dp un gd cn cs a ccd cl outer A₀ base h₀ L m s Q E news ps ps2 c₁ c₂ o₁ o₂ tx ty B F X T hk N c1 c2 tb tb2 sep1 sep2 sep3 sep4 ne1 ne2 ne3 ne4 ne5 hdp hun ret
    have hyz : (y == 0) = false := beq_eq_false_iff_ne.mpr (by omega)
    revert X
    k_fill
    intro X
    refine wpAny_call ?_
    k_dflt (refine' code_defL ?k1 ?k2 ?k3 ?k4 ?k5 ?kA ?kF ?kK ?k6 ?k7 ?k8 ?k9 ?kB ?_ ?c2 ?c3 ?c4 ?c5)
    case kA => exact rfl
    case kF => exact rfl
    case kK => assumption
    case k1 => k_asm
    case k2 => k_asm
    case k3 => k_asm
    case k4 => exact N
    case k5 => k_asm
    case k6 => k_is
    case k7 => k_is
    case k8 => show dp < recursionLimit; omega
    case k9 => exact BindsTo.of_eq rfl
    case c5 => decide
    case kB => exact locs rfl
    case c2 => exact rfl
    case c3 => exact rfl
    case c4 => exact rfl
    intro g1 L1 h1 FG1 F1 N1 B1 X1 T1 lw1
    refine rebaseK (ex := [_, _, _, _]) F1 N1 B1 X1 T1 (news_in N (by intro p hp; repeat' first | exact hp | refine List.Mem.tail _ ?_)) (fun p hp => lw1 p (by repeat' first | exact hp | refine List.Mem.tail _ ?_)) (List.forall_mem_cons.mpr ⟨sep1, List.forall_mem_cons.mpr ⟨sep2, List.forall_mem_cons.mpr ⟨sep3, List.forall_mem_cons.mpr ⟨sep4, List.forall_mem_nil _⟩⟩⟩⟩) ?_
    intro gp Fp Np Bp Xp Tp Ip
    clear F1 N1 B1 X1 T1 FG1
    (try dsimp only)
    (try k_lift Bp)
    (try k_fold)
    k_steps
    refine CiStop.go ?_
    k_dflt (refine' dmp_c h (news := []) ?B ?F ?X ?T ?hk ?N ?c1 ?c2 tb tb2 (List.forall_mem_nil _) (List.forall_mem_nil _) (List.forall_mem_nil _) (List.forall_mem_nil _) ne1 ne2 ne3 ne4 ne5 ?hdp ?hun ?_)
    ((case B => k_asm); (case F => k_asm); (case X => k_asm); (case T => k_asm); (case hk => exact rfl); (case N => k_asm))
    ((case c1 => kn_code); (case c2 => kn_code))
    case hdp => (try simp only [depth_under_make, depth_under_kw, depth_in1, depth_deeper, depth_caller, Nat.add_assoc, Nat.reduceAdd]); omega
    case hun => (try simp only [units_in1, units_deeper, Around.mark_units, units_caller, Nat.add_assoc, Nat.reduceAdd]); omega
    k_whole
    intro d' tq' tr' c' oc' c2' oc2' h' tk' F' N' d3' d4' hw' hw2' s1' s2' n1' n2' n3' n4' n5' n6' n7' n8' n9' s3'
    ((try dsimp only); (try k_fold))
    k_steps
    rename News h₀ L _ news => Nt
    rename News h₀ L _ (_ :: _) => NN
    rename News gp _ _ _ => NP
    refine' ret _ _ _ _ _ _ _ _ _ ?F (news_cons NN ?m0 (news_cons NN ?m1 (news_cons NN ?m2 (news_cons NN ?m3 (news_cons NN ?m4 Nt))))) ?T ?T2 ?hw ?hw2 ?s ?s2 ?n1 ?n2 ?n3 ?n4 ?n5 ?n6 ?n7 ?n8 ?n9 ?a
    case F => k_asm
    case m0 => k_dflt k_mem
    case m1 => k_dflt k_mem
    case m2 => k_dflt k_mem
    case m3 => k_dflt k_mem
    case m4 => k_dflt k_mem
    case T => assumption
    case T2 => assumption
    case hw => assumption
    case hw2 => assumption
    case s => exact InBase.sep (x := (_, _)) Ip NP (by k_dflt k_mem)
    case s2 => exact InBase.sep (x := (_, _)) Ip NP (by k_dflt k_mem)
    case a => exact InBase.sep (x := (_, _)) Ip NP (by k_dflt k_mem)
    case n1 => exact ⟨by k_ne⟩
    case n2 => exact ⟨by k_ne⟩
    case n3 => exact ⟨by k_ne⟩
    case n4 => exact ⟨by k_ne⟩
    case n5 => exact ⟨by k_ne⟩
    case n6 => exact ⟨by k_ne⟩
    case n7 => exact ⟨by k_ne⟩
    case n8 => exact ⟨by k_ne⟩
    case n9 => exact ⟨by k_ne⟩
theorem idm_allU {w : World} {loose : List Str} {mean : ExcName → Option Value} {mg mb : Str → Option Value}
  {dp un : Nat} {gd : Option (List Code)} {cn : Str} {cs : Scope} {a : Addr} {ccd : Value} {cl : List (Str × Addr)} {outer : List Env} {A₀ : Around} {base h₀ : Heap} {L : Addr} {m : Str → Option Value} {s : Shared} {Q E : Value → Shared → Prop}
  {news z1 z2 z3 tl : List (Addr × Obj)} {ps ps2 : Array Value} {c₁ c₂ : Addr} {o₁ o₂ : Obj}
  {d0 : Nat} {x y q r : Int} {tx ty : Tok} (hdm : SM d0 x y q r)
  (B : Below A₀ base outer h₀) (F : Fr h₀ L s.heap m) (X : (hd.heap_1 w.params).In h₀) (T : Top topProg loose mean mg mb h₀) (hk : cs.kind = .function) (N : News h₀ L s.heap news)
  (c1 : CodeHd base 68 64) (c2 : CodeHd base 75 71) (tb : TabOk 39 4 I2Q ps c₁ o₁) (tb2 : TabOk 54 4 D2Q ps2 c₂ o₂) (U1 : Del 64 (tabObj ps) news z1) (U2 : Del c₁ o₁ z1 z2) (U3 : Del 71 (tabObj ps2) z2 z3) (U4 : Del c₂ o₂ z3 tl)
  (ne1 : NeN c₁ 64) (ne2 : NeN c₁ 71) (ne3 : NeN c₂ 64) (ne4 : NeN c₂ 71) (ne5 : NeN c₁ c₂)
  (hdp : dp + 4 * d0 + 5 + 14 < recursionLimit) (hun : un + 20 * d0 + 4 * 5 + 90 < cLine)
  (ret : ∀ d tq tr c' oc c2' oc2 h' tk', Fr h₀ L h' m → News h₀ L h' ((d, tupObj #[.int (q) tq, .int (r) tr]) :: (64, tabObj #[rawInt 39, rawInt 4, .ref c']) :: (c', oc) :: (71, tabObj #[rawInt 54, rawInt 4, .ref c2']) :: (c2', oc2) :: tl) →
    TabOk 39 4 I2Q #[rawInt 39, rawInt 4, .ref c'] c' oc → TabOk 54 4 D2Q #[rawInt 54, rawInt 4, .ref c2'] c2' oc2 → (ps = #[] ∨ (c' = c₁ ∧ oc = o₁)) → (ps2 = #[] ∨ (c2' = c₂ ∧ oc2 = o₂)) → Sep c' tl → Sep c2' tl → NeN c' 64 → NeN c' 71 → NeN c2' 64 → NeN c2' 71 → NeN c' c2' → NeN d c' → NeN d c2' → NeN d 64 → NeN d 71 → Sep d tl → Q (.ref d) { s with heap := h', toks := tk' }) :
  wpAny (model PySem.Challenge.rw_sc0080_02.row.prog w) (ktrTop dp un gd cn cs L a ccd cl outer) (call (.ref 90) [.int x tx, .int y ty]) Q E s := by
  exact idm_all hdm B F X T hk (news_cons N U1.mem (news_cons N (U1.sub _ U2.mem) (news_cons N (U1.sub _ (U2.sub _ U3.mem)) (news_cons N (U1.sub _ (U2.sub _ (U3.sub _ U4.mem))) (news_in N fun p hp => U1.sub p (U2.sub p (U3.sub p (U4.sub p hp)))))))) c1 c2 tb tb2 (sep_sub U1.sep fun p hp => U2.sub p (U3.sub p (U4.sub p hp))) (sep_sub U2.sep fun p hp => U3.sub p (U4.sub p hp)) (sep_sub U3.sep fun p hp => U4.sub p hp) U4.sep ne1 ne2 ne3 ne4 ne5 hdp hun ret


end
section
open PySem PySem.W PyProof.Rows PySem.Spec PySem.Calls
open PySem.Builtin.Int (intBits) in
theorem dm_of {x y : Int} {n : Nat} (hx : 0 ≤ x) (hy : 0 < y) (hn : intBits y = n) (hn5 : n ≤ 500) (hk : (intBits x + n - 1) / n ≤ 5) : DMok x y (x.fdiv y) (x.fmod y) := by
  have hn0 : 0 < n := by
    cases n with
    | zero => have := bits_zero (Int.le_of_lt hy) hn; omega
    | succ n => omega
  have hyn : y < 2 ^ n := lt_bits (Int.le_of_lt hy) (Nat.le_of_eq hn)
  generalize hkk : (intBits x + n - 1) / n = k at hk
  have hxk : x < 2 ^ (n * k) := lt_bits hx (by rw [← hkk]; exact cnt_hi hn0)
  obtain ⟨ds, hl, hb, hv⟩ := digs n k x hx hxk
  obtain ⟨qs, z, hd, hql, hqb, z0, z1, he⟩ := divs_of hn5 hy hyn ds.reverse 0 (fun d h => hb d (List.mem_reverse.mp h)) (Int.le_refl 0) hy
  rw [Int.zero_mul, Int.zero_add, List.reverse_reverse, hv] at he
  have hq := fdivV hy he z0 z1
  rw [hq.1, hq.2]
  have hf : FdK ((intBits x : Int) + (n : Int) - 1) (n : Int) (k : Int) := by rw [← hkk]; exact fdk_of hn0
  have hqb' : DB n qs.reverse := fun d h => hqb d (List.mem_reverse.mp h)
  rw [List.length_reverse, hl] at hql
  have hj : Join (n : Int) qs.reverse (V n qs.reverse) := by
    cases qs with
    | nil => exact .zero
    | cons q r => exact .some (dig_of hn5 500 _ (by rw [List.length_reverse]; omega) (by simp) (by omega) hqb')
  have hc : Cut (n : Int) x k ds := by
    by_cases h0 : x = 0
    · have e0 : k = 0 := by
        rw [h0] at hkk
        have : intBits 0 = 0 := rfl
        rw [this, Nat.zero_add] at hkk
        rw [← hkk]; exact Nat.div_eq_of_lt (by omega)
      subst e0
      rw [List.length_eq_zero_iff.mp hl, h0]
      exact .zero
    · refine .some h0 ?_
      have := fill_of hn5 500 ds (by omega) (fun h => h0 (by rw [← hv, h]; rfl)) (by omega) hb
      rw [hv, hl] at this
      exact this
  exact .mk hc (by omega) (by omega) hk ⟨by rw [hn]⟩ hf hd hj

end
section
open PySem PySem.W PyProof.Rows PySem.Spec PySem.Calls
theorem pat_get {s : Shared} {pa : Addr} {code : Array Nat} {M : Model} {A : Around} {E : Value → Shared → Prop} {pl : Sem Bool} {Q : Value × List Value → Shared → Prop} (P : PatAt s.heap pa code) (h : Q (.builtin "re.Pattern.sub", [.ref pa]) s) : wpAny M A (getMethod (.ref pa) (Str.ofString "sub") pl) Q E s := by
  obtain ⟨po, vs, ca, co, items, n, e, c, d, _⟩ := P.obj
  exact getMethod_builtin ⟨_, e, c⟩ plainAttrs_pat slot_pat_sub type_pat_sub (fun a q => by cases q; exact ⟨_, e, d⟩) h
theorem sub2_walk {prog : Program} {w : World} {A : Around} {E : Value → Shared → Prop} {s : Shared} {h₀ : Heap} {L : Addr} {m : Str → Option Value} {news : List (Addr × Obj)} {x : Str} {tx ty : Tok} {Q : Value → Shared → Prop} (hx : x.cps.size ≤ 1000) (P : PatAt h₀ 41 C2) (F : Fr h₀ L s.heap m) (N : News h₀ L s.heap news)
    (h : ∀ z tz h' tk', z.cps.toList = sub2 x.cps.toList → z.cps.size ≤ 2000 → Fr h₀ L h' m → News h₀ L h' news → Q (.str z tz) { s with heap := h', toks := tk' }) :
    wpAny (model prog w) A (call (.builtin "re.Pattern.sub") [.ref 41, .str ⟨#[13, 10]⟩ ty, .str x tx]) Q E s :=
  wp_sub2 hx (P.keeps F.keep) fun z tz h' tk' hz kp => h z tz h' tk' hz (by
    have := sub2_len _ x.cps.toList (Nat.le_refl _)
    rw [← hz, Array.length_toList, Array.length_toList] at this; omega) (F.keptAll kp) (N.keepsAll kp)
theorem sub1_walk {prog : Program} {w : World} {A : Around} {E : Value → Shared → Prop} {s : Shared} {h₀ : Heap} {L : Addr} {m : Str → Option Value} {news : List (Addr × Obj)} {x : Str} {tx ty : Tok} {Q : Value → Shared → Prop} (hx : x.cps.size ≤ 2000) (P : PatAt h₀ 36 C1) (F : Fr h₀ L s.heap m) (N : News h₀ L s.heap news)
    (h : ∀ z tz h' tk', z.cps.toList = sub1 true x.cps.toList → Fr h₀ L h' m → News h₀ L h' news → Q (.str z tz) { s with heap := h', toks := tk' }) :
    wpAny (model prog w) A (call (.builtin "re.Pattern.sub") [.ref 36, .str ⟨#[46, 46]⟩ ty, .str x tx]) Q E s :=
  wp_sub1 hx (P.keeps F.keep) fun z tz h' tk' hz kp => h z tz h' tk' hz (F.keptAll kp) (N.keepsAll kp)
local macro_rules | `(tactic| walk_at "getMethod ref") => `(tactic| (k_here; (with_reducible show wpAny _ _ (getMethod (Value.ref _) (Str.ofString "sub") _) _ _ _); refine CiStop.out ?_))
local macro_rules | `(tactic| walk_at "call builtin:re.Pattern.sub") => `(tactic| (k_here; (first | (with_reducible show wpAny _ _ (call _ [Value.ref 41, _, _]) _ _ _) | (with_reducible show wpAny _ _ (call _ [Value.ref 36, _, _]) _ _ _)); refine CiStop.out ?_))
theorem quote_c {w : World} {loose : List Str} {mean : ExcName → Option Value} {mg mb : Str → Option Value}
  {dp un : Nat} {gd : Option (List Code)} {cn : Str} {cs : Scope} {a : Addr} {ccd : Value} {cl : List (Str × Addr)} {outer : List Env} {A₀ : Around} {base h₀ : Heap} {L : Addr} {m : Str → Option Value} {s : Shared} {Q E : Value → Shared → Prop}
  {news : List (Addr × Obj)} {x : Str} {tx : Tok} (hx : x.cps.size ≤ 1000)
  (B : Below A₀ base outer h₀) (F : Fr h₀ L s.heap m) (X : (hd.heap_1 w.params).In h₀) (T : Top topProg loose mean mg mb h₀) (hk : cs.kind = .function) (N : News h₀ L s.heap news)
  (hdp : dp + 2 < recursionLimit) (hun : un + 20 < cLine)
  (ret : ∀ z tz h' tk', z.cps.toList = sub1 true (sub2 x.cps.toList) → Fr h₀ L h' m → News h₀ L h' news → Q (.str z tz) { s with heap := h', toks := tk' }) :
  wpAny (model PySem.Challenge.rw_sc0080_02.row.prog w) (ktrTop dp un gd cn cs L a ccd cl outer) (call (.ref 48) [.str x tx]) Q E s := by
  revert X
  k_fill
  intro X
  refine wpAny_call ?_
  k_dflt (refine' code_defL ?k1 ?k2 ?k3 ?k4 ?k5 ?kA ?kF ?kK ?k6 ?k7 ?k8 ?k9 ?kB ?_ ?c2 ?c3 ?c4 ?c5)
  case kA => exact rfl
  case kF => exact rfl
  case kK => assumption
  case k1 => k_asm
  case k2 => k_asm
  case k3 => k_asm
  case k4 => exact N
  case k5 => k_asm
  case k6 => k_is
  case k7 => k_is
  case k8 => ktr_room
  case k9 => exact BindsTo.of_eq rfl
  case c5 => decide
  case kB => exact locs rfl
  case c2 => exact rfl
  case c3 => exact rfl
  case c4 => exact rfl
  intro g1 L1 h1 FG1 F1 N1 B1 X1 T1 lw1
  refine rebaseK (ex := []) F1 N1 B1 X1 T1 (news_in N (by intro p hp; repeat' first | exact hp | refine List.Mem.tail _ ?_)) (fun p hp => lw1 p (by repeat' first | exact hp | refine List.Mem.tail _ ?_)) (List.forall_mem_nil _) ?_
  intro gp Fp Np Bp Xp Tp Ip
  clear F1 N1 B1 X1 T1 FG1
  (try dsimp only)
  (try k_lift Bp)
  (try k_fold)
  have P1 : PatAt gp 36 C1 := ⟨_, _, _, _, _, _, Xp 36 _ (by k_is), rfl, rfl, rfl, rfl, rfl, rfl, Xp 35 _ (by k_is), rfl, rfl, by decide +kernel⟩
  have P2 : PatAt gp 41 C2 := ⟨_, _, _, _, _, _, Xp 41 _ (by k_is), rfl, rfl, rfl, rfl, rfl, rfl, Xp 40 _ (by k_is), rfl, rfl, by decide +kernel⟩
  k_steps
  repeat' (refine CiStop.go ?_; (first | (k_here; (with_reducible show wpAny _ _ (call _ [Value.ref 36, _, _]) _ _ _); k_dflt (refine' sub1_walk ?hx ?P ?F ?N ?_; (case hx => assumption); (case P => assumption); ((case F => k_asm); (case N => k_asm)); k_whole); intro z1 tz' h' tk' hz' F' N') | (k_here; (with_reducible show wpAny _ _ (call _ [Value.ref 41, _, _]) _ _ _); k_dflt (refine' sub2_walk ?hx ?P ?F ?N ?_; (case hx => assumption); (case P => assumption); ((case F => k_asm); (case N => k_asm)); k_whole); intro z2 tz' h' tk' hz' hs' F' N') | (k_here; (with_reducible show wpAny _ _ (getMethod (Value.ref _) (Str.ofString "sub") _) _ _ _); k_dflt (refine' pat_get (PatAt.keeps ?P (Fr.keep ?F)) ?_; (case P => assumption); (case F => k_asm); k_whole))); k_steps)
  rename News h₀ L _ news => Nt
  refine' ret _ _ _ _ ?e ?F ?N
  case e => exact Eq.trans (by assumption) (congrArg (sub1 true) (by assumption))
  case F => k_asm
  case N => exact Nt

end
section
open PySem PySem.W PyProof.Rows PySem.Spec PySem.Calls
local macro_rules | `(tactic| walk_at "call builtin:str.lower") => `(tactic| (k_here; (with_reducible show wpAny _ _ (call _ [Value.str _ _]) _ _ _); refine CiStop.out ?_))
theorem sub_c {w : World} {loose : List Str} {mean : ExcName → Option Value} {mg mb : Str → Option Value}
  {dp un : Nat} {gd : Option (List Code)} {cn : Str} {cs : Scope} {a : Addr} {ccd : Value} {cl : List (Str × Addr)} {outer : List Env} {A₀ : Around} {base h₀ : Heap} {L : Addr} {m : Str → Option Value} {s : Shared} {Q E : Value → Shared → Prop}
  {news : List (Addr × Obj)} {c1 c2 : Nat} {t1 t2 : Tok}
  (B : Below A₀ base outer h₀) (F : Fr h₀ L s.heap m) (X : (hd.heap_1 w.params).In h₀) (T : Top topProg loose mean mg mb h₀) (hk : cs.kind = .function) (N : News h₀ L s.heap news) (hdp : dp + 2 < recursionLimit) (hun : un + 20 < cLine)
  (ret : ∀ tr h' tk', Fr h₀ L h' m → News h₀ L h' news → Q (.int (cost c1 c2) tr) { s with heap := h', toks := tk' }) :
  wpAny (model PySem.Challenge.rw_sc0080_02.row.prog w) (ktrTop dp un gd cn cs L a ccd cl outer) (call (.ref 139) [.str ⟨#[c1]⟩ t1, .str ⟨#[c2]⟩ t2]) Q E s := by
  revert X
  k_fill
  intro X
  refine wpAny_call ?_
  k_dflt (refine' code_defL ?k1 ?k2 ?k3 ?k4 ?k5 ?kA ?kF ?kK ?k6 ?k7 ?k8 ?k9 ?kB ?_ ?c2 ?c3 ?c4 ?c5)
  case kA => exact rfl
  case kF => exact rfl
  case kK => assumption
  case k1 => k_asm
  case k2 => k_asm
  case k3 => k_asm
  case k4 => exact N
  case k5 => k_asm
  case k6 => k_is
  case k7 => k_is
  case k8 => ktr_room
  case k9 => exact BindsTo.of_eq rfl
  case c5 => decide
  case kB => exact locs rfl
  case c2 => exact rfl
  case c3 => exact rfl
  case c4 => exact rfl
  intro g1 L1 h1 FG1 F1 N1 B1 X1 T1 lw1
  refine rebaseK (ex := []) F1 N1 B1 X1 T1 (news_in N (by intro p hp; repeat' first | exact hp | refine List.Mem.tail _ ?_)) (fun p hp => lw1 p (by repeat' first | exact hp | refine List.Mem.tail _ ?_)) (List.forall_mem_nil _) ?_
  intro gp Fp Np Bp Xp Tp Ip
  clear F1 N1 B1 X1 T1 FG1
  (try dsimp only)
  (try k_lift Bp)
  (try k_fold)
  k_steps
  repeat' (refine CiStop.go ?_; (first | (k_here; (with_reducible show wpAny _ _ (call _ [Value.str _ _]) _ _ _); k_dflt (refine' SCL.lower ?z ?_; (case z => (show (1 : Nat) ≤ 5592405); decide); k_whole); intro _)); k_steps)
  all_goals
    rename News h₀ L _ news => Nt
    first
      | (have ec := cost_0 (c1 := c1) (c2 := c2) (by assumption); rw [ec] at ret; exact ret _ _ _ (by k_asm) Nt)
      | (have ec := cost_1 (c1 := c1) (c2 := c2) (by assumption) (by assumption); rw [ec] at ret; exact ret _ _ _ (by k_asm) Nt)
      | (have ec := cost_2 (c1 := c1) (c2 := c2) (by assumption) (by assumption); rw [ec] at ret; exact ret _ _ _ (by k_asm) Nt)


end
section
open PySem PySem.W PyProof.Rows PySem.Spec PySem.Calls
local macro_rules | `(tactic| walk_at "exec While BoolOp") => `(tactic| (k_here; refine CiStop.out ?_))
local macro_rules | `(tactic| walk_at "OrNPost") => `(tactic| (dsimp only [OrNPost]))
local macro_rules | `(tactic| walk_at "eval BoolOp") => `(tactic| (k_here; (with_reducible show wpAny _ _ (eval (Expr.BoolOp BoolOp.Or [Expr.Name _ _, Expr.Constant Const.none _ _] _) _) _ _ _); refine CiStop.out ?_))
local macro_rules | `(tactic| walk_at "truthy str") => `(tactic| (k_here; refine CiStop.out ?_))
local macro_rules | `(tactic| walk_at "subscriptTail Name Slice str ref") => `(tactic| (k_here; refine CiStop.out ?_))
local macro_rules | `(tactic| walk_at "subscriptTail Name Name str int") => `(tactic| (k_here; (with_reducible show wpAny _ _ (subscriptTail _ _ (Value.str (mk _) _) (Value.int _ _)) _ _ _); refine CiStop.out ?_))
local macro_rules | `(tactic| walk_at "subscriptTail Name BinOp str int") => `(tactic| (k_here; (with_reducible show wpAny _ _ (subscriptTail _ _ (Value.str (mk _) _) (Value.int _ _)) _ _ _); refine CiStop.out ?_))
local macro_rules | `(tactic| walk_at "call builtin:len") => `(tactic| (k_here; (with_reducible show wpAny _ _ (call (Value.builtin _) [Value.str (mk _) _]) _ _ _); refine CiStop.out ?_))
local macro_rules | `(tactic| walk_at "exec If") => `(tactic| (k_here; (with_reducible show wpAny _ _ (exec (Stmt.If (Expr.Compare (Expr.Call _ _ _ _) [CmpOp.Lt] _ _) _ _ _) _) _ _ _); refine CiStop.out ?_))
local macro_rules | `(tactic| walk_at "call type:list") => `(tactic| (k_here; (with_reducible show wpAny _ _ (call (Value.type _) [Value.ref _]) _ _ _); refine CiStop.out ?_))
local macro_rules | `(tactic| walk_at "exec For Name Call cons nil") => `(tactic| (k_here; refine CiStop.out ?_))
local macro_rules | `(tactic| walk_at "call ref") => `(tactic| (k_here; (with_reducible show wpAny _ _ (call (Value.ref 139) _) _ _ _); refine CiStop.out ?_))
set_option autoImplicit false in
inductive G_v_J1 (s : Shared) (la : List Nat) (lb : List Nat) (gp : Heap) (L1 : Addr) (ta : Tok) (tb : Tok) (mx : Int) (tm : Tok) (k : Nat) (s' : Shared) : Prop
  | mk (p : Nat) (tp : Tok) (u : Str → Option Value) (hp : Heap) (tk : Nat) (j0 : s' = { s with heap := hp, toks := tk }) (j1 : p ≤ lcp la lb) (j2 : k = lcp la lb - p) (j3 : Fr gp L1 hp (kstB u [(Str.ofString "pre", Value.int (p : Int) tp), (Str.ofString "a", Value.str (mk la) ta), (Str.ofString "b", Value.str (mk lb) tb), (Str.ofString "max_cost", Value.int mx tm)])) (j4 : News gp L1 hp []) : G_v_J1 s la lb gp L1 ta tb mx tm k s'
set_option autoImplicit false in
inductive G_v_J2 (s : Shared) (gp : Heap) (L1 : Addr) (la : List Nat) (lb : List Nat) (ta : Tok) (tb : Tok) (mx : Int) (tm : Tok) (s' : Shared) : Prop
  | mk (tp : Tok) (u : Str → Option Value) (hp : Heap) (tk : Nat) (j0 : s' = { s with heap := hp, toks := tk }) (j1 : Fr gp L1 hp (kstB u [(Str.ofString "pre", Value.int ((lcp la lb : Nat) : Int) tp), (Str.ofString "a", Value.str (mk la) ta), (Str.ofString "b", Value.str (mk lb) tb), (Str.ofString "max_cost", Value.int mx tm)])) (j2 : News gp L1 hp []) : G_v_J2 s gp L1 la lb ta tb mx tm s'
set_option autoImplicit false in
inductive G_v_J3 (s : Shared) (a2 : List Nat) (b2 : List Nat) (gp : Heap) (L1 : Addr) (mx : Int) (tm : Tok) (k : Nat) (s' : Shared) : Prop
  | mk (q : Nat) (z : Int) (tp t1 t2 : Tok) (u : Str → Option Value) (hp : Heap) (tk : Nat) (j0 : s' = { s with heap := hp, toks := tk }) (j1 : z = -(q : Int)) (j2 : q ≤ lcp a2.reverse b2.reverse) (j3 : k = lcp a2.reverse b2.reverse - q) (j4 : Fr gp L1 hp (kstB u [(Str.ofString "post", Value.int z tp), (Str.ofString "a", Value.str (mk a2) t1), (Str.ofString "b", Value.str (mk b2) t2), (Str.ofString "max_cost", Value.int mx tm)])) (j5 : News gp L1 hp []) : G_v_J3 s a2 b2 gp L1 mx tm k s'
set_option autoImplicit false in
inductive G_v_J4 (s : Shared) (a2 : List Nat) (b2 : List Nat) (gp : Heap) (L1 : Addr) (mx : Int) (tm : Tok) (s' : Shared) : Prop
  | mk (z : Int) (tp t1 t2 : Tok) (u : Str → Option Value) (hp : Heap) (tk : Nat) (j0 : s' = { s with heap := hp, toks := tk }) (j1 : z = -((lcp a2.reverse b2.reverse : Nat) : Int)) (j2 : Fr gp L1 hp (kstB u [(Str.ofString "post", Value.int z tp), (Str.ofString "a", Value.str (mk a2) t1), (Str.ofString "b", Value.str (mk b2) t2), (Str.ofString "max_cost", Value.int mx tm)])) (j3 : News gp L1 hp []) : G_v_J4 s a2 b2 gp L1 mx tm s'
set_option autoImplicit false in
inductive G_v_J5 (s : Shared) (a3 : List Nat) (b3 : List Nat) (mx : Int) (gp : Heap) (L1 : Addr) (tm : Tok) (s' : Shared) : Prop
  | mk (a4 b4 : List Nat) (t1 t2 : Tok) (u : Str → Option Value) (hp : Heap) (tk : Nat) (j0 : s' = { s with heap := hp, toks := tk }) (j1 : a4.length ≤ b4.length) (j2 : b4.length ≤ 40) (j3 : 0 < a4.length) (j4 : levS a3 b3 mx = levD a4 b4 mx) (j5 : Fr gp L1 hp (kstB u [(Str.ofString "a", Value.str (mk a4) t1), (Str.ofString "b", Value.str (mk b4) t2), (Str.ofString "max_cost", Value.int mx tm)])) (j6 : News gp L1 hp []) : G_v_J5 s a3 b3 mx gp L1 tm s'
set_option autoImplicit false in
inductive G_v_J6 (a4 : List Nat) (b4 : List Nat) (mx : Int) (tm : Tok) (i : Nat) (m : Str → Option Value) (news : List (Addr × Obj)) : Prop
  | mk (R : Addr) (us : List Value) (c : Nat) (row : List Int) (res : Int) (t1 t2 tr : Tok) (u : Str → Option Value) (j0 : m = (kstB u [(Str.ofString "a", Value.str (mk a4) t1), (Str.ofString "b", Value.str (mk b4) t2), (Str.ofString "max_cost", Value.int mx tm), (Str.ofString "row", Value.ref R), (Str.ofString "result", Value.int res tr)])) (j1 : news = [(R, listOf us.toArray c)]) (j2 : IntsAre us row) (j3 : row.length = a4.length) (j4 : stepO a4 mx (b4.drop i) i row res = stepO a4 mx b4 0 (rowOf a4.length) 0) : G_v_J6 a4 b4 mx tm i m news
set_option autoImplicit false in
inductive G_v_J7 (a4 : List Nat) (b4 : List Nat) (mx : Int) (tm : Tok) (i : Nat) (I : Addr) (row : List Int) (k : Nat) (m : Str → Option Value) (news : List (Addr × Obj)) : Prop
  | mk (R : Addr) (us : List Value) (c : Nat) (all : List Int) (dist res mn : Int) (t1 t2 tr tb td tn : Tok) (u : Str → Option Value) (j0 : m = (kstB u [(Str.ofString "a", Value.str (mk a4) t1), (Str.ofString "b", Value.str (mk b4) t2), (Str.ofString "max_cost", Value.int mx tm), (Str.ofString "row", Value.ref R), (Str.ofString "bchar", Value.str { cps := #[b4.getD i 0] } tb), (Str.ofString "distance", Value.int dist td), (Str.ofString "result", Value.int res tr), (Str.ofString "minimum", Value.int mn tn)])) (j1 : news = [(I, rgObj ((i + 1 : Nat) : Int) (b4.length : Int)), (R, listOf us.toArray c)]) (j2 : NeN R I) (j3 : IntsAre us all) (j4 : InRow (b4.getD i 0) a4 (stepI (b4.getD i 0) a4 row ((i : Int) * 2) ((i : Int) * 2) 9223372036854775807) k all dist res mn) : G_v_J7 a4 b4 mx tm i I row k m news
theorem lev_c {w : World} {loose : List Str} {mean : ExcName → Option Value} {mg mb : Str → Option Value}
  {dp un : Nat} {gd : Option (List Code)} {cn : Str} {cs : Scope} {a : Addr} {ccd : Value} {cl : List (Str × Addr)} {outer : List Env} {A₀ : Around} {base h₀ : Heap} {L : Addr} {m : Str → Option Value} {s : Shared} {Q E : Value → Shared → Prop}
  {news : List (Addr × Obj)} {xa xb : Str} {mx : Int} {ta tb tm : Tok} (ha : xa.length ≤ 40) (hb : xb.length ≤ 40) (hm : 0 ≤ mx) (hm2 : mx < 10000)
  (B : Below A₀ base outer h₀) (F : Fr h₀ L s.heap m) (X : (hd.heap_1 w.params).In h₀) (T : Top topProg loose mean mg mb h₀) (hk : cs.kind = .function) (N : News h₀ L s.heap news) (hdp : dp + 8 < recursionLimit) (hun : un + 60 < cLine)
  (ret : ∀ tr h' tk', Fr h₀ L h' m → News h₀ L h' news → Q (.int (levP xa.cps.toList xb.cps.toList mx) tr) { s with heap := h', toks := tk' }) :
  wpAny (model PySem.Challenge.rw_sc0080_02.row.prog w) (ktrTop dp un gd cn cs L a ccd cl outer) (call (.ref 146) [.str xa ta, .str xb tb, .int mx tm]) Q E s := by
  obtain ⟨la, rfl⟩ : ∃ la, xa = mk la := ⟨_, (mk_of xa).symm⟩
  obtain ⟨lb, rfl⟩ : ∃ lb, xb = mk lb := ⟨_, (mk_of xb).symm⟩
  simp only [mk_list] at ret
  rw [mk_length] at ha hb
  revert X
  k_fill
  intro X
  refine wpAny_call ?_
  k_dflt (refine' code_defL ?k1 ?k2 ?k3 ?k4 ?k5 ?kA ?kF ?kK ?k6 ?k7 ?k8 ?k9 ?kB ?_ ?c2 ?c3 ?c4 ?c5)
  case kA => exact rfl
  case kF => exact rfl
  case kK => assumption
  case k1 => k_asm
  case k2 => k_asm
  case k3 => k_asm
  case k4 => exact N
  case k5 => k_asm
  case k6 => k_is
  case k7 => k_is
  case k8 => ktr_room
  case k9 => exact BindsTo.of_eq rfl
  case c5 => decide
  case kB => exact locs rfl
  case c2 => exact rfl
  case c3 => exact rfl
  case c4 => exact rfl
  intro g1 L1 h1 FG1 F1 N1 B1 X1 T1 lw1
  refine rebaseK (ex := []) F1 N1 B1 X1 T1 (news_in N (by intro p hp; repeat' first | exact hp | refine List.Mem.tail _ ?_)) (fun p hp => lw1 p (by repeat' first | exact hp | refine List.Mem.tail _ ?_)) (List.forall_mem_nil _) ?_
  intro gp Fp Np Bp Xp Tp Ip
  clear F1 N1 B1 X1 T1 FG1
  (try dsimp only)
  (try k_lift Bp)
  (try k_fold)
  k_steps
  repeat' (refine CiStop.go ?_; (with_reducible (first | (k_here; (with_reducible show wpAny _ _ (call (Value.ref 139) _) _ _ _); k_dflt (refine' sub_c ?B ?F ?X ?T ?hk ?N ?hdp ?hun ?_; ((case B => k_asm); (case F => k_asm); (case X => k_asm); (case T => k_asm); (case hk => exact rfl); (case N => k_asm)); ((case hdp => ktr_room); (case hun => ktr_units); k_whole)); intro t' h' tk' F' N'; ((try dsimp only); (try k_fold))) | (k_here; (with_reducible show wpAny _ _ (call (Value.type _) [Value.ref _]) _ _ _); k_dflt (refine' list_range2 rfl ?Fm ?Nm ?rm ?zm ?_; (case Fm => k_asm); (case Nm => k_asm); (case rm => assumption); (case zm => omega); k_whole); intro D' us' c' h' tk' F' N' l1 hI'; (try k_lt l1)) | (k_here; (with_reducible show wpAny _ _ (call (Value.builtin _) [Value.str (mk _) _]) _ _ _); k_dflt (refine' mk_len ?hlm ?_; (case hlm => first | omega | (simp only [List.length_drop, List.length_take]; omega)); k_whole)) | (k_here; (with_reducible show wpAny _ _ (subscriptTail _ _ (Value.str (mk _) _) (Value.int _ _)) _ _ _); first | (refine mk_itemP ?hjm ?hlm ?_; (case hjm => omega); (case hlm => first | omega | (simp only [List.length_drop, List.length_take]; omega))) | (refine mk_itemR (by assumption) ?hjm ?hlm ?_; (case hjm => omega); (case hlm => first | omega | (simp only [List.length_drop, List.length_take]; omega))); intro _ _) | (k_here; (with_reducible show wpAny _ _ (subscriptTail _ _ (Value.str (mk _) _) (Value.int _ _)) _ _ _); first | (refine mk_itemP ?hjm ?hlm ?_; (case hjm => omega); (case hlm => first | omega | (simp only [List.length_drop, List.length_take]; omega))) | (refine mk_itemR (by assumption) ?hjm ?hlm ?_; (case hjm => omega); (case hlm => first | omega | (simp only [List.length_drop, List.length_take]; omega))); intro _ _) | (k_here; (with_reducible rename Fr _ _ _ _ => F'); (with_reducible rename News _ _ _ _ => N'); first | ((with_reducible show wpAny _ _ (subscriptTail _ (Expr.Slice (some _) none none _) _ _) _ _ _); (refine mk_sn (s := ⟨_, _, _, _, _⟩) F' N' ?hlm ?hpm ?_; (case hlm => first | omega | (simp only [List.length_drop, List.length_take]; omega)); (case hpm => omega))) | ((with_reducible show wpAny _ _ (subscriptTail _ (Expr.Slice none (some _) none _) _ _) _ _ _); (refine mk_ns (s := ⟨_, _, _, _, _⟩) (by assumption) F' N' ?hlm ?hqm ?_; (case hlm => first | omega | (simp only [List.length_drop, List.length_take]; omega)); (case hqm => omega))); intro _ _ _ _ _) | (k_here; (with_reducible show wpAny _ _ (truthy (Value.str _ _)) _ _ _); (refine mk_truthy_take ?hlm ?_; (case hlm => first | omega | (simp only [List.length_drop, List.length_take]; omega)))) | (k_here; (with_reducible show wpAny _ _ (truthy (Value.str _ _)) _ _ _); (refine mk_truthy_drop ?hlm ?_; (case hlm => first | omega | (simp only [List.length_drop, List.length_take]; omega)))) | (k_here; (with_reducible show wpAny _ _ (truthy (Value.str _ _)) _ _ _); (refine mk_truthy ?hlm ?_; (case hlm => first | omega | (simp only [List.length_drop, List.length_take]; omega)))) | (k_here; (with_reducible show wpAny _ _ (eval (Expr.BoolOp BoolOp.Or [Expr.Name _ _, Expr.Constant Const.none _ _] _) _) _ _ _); refine or_none ?_))); k_steps)
  · rename News h₀ L _ news => Nt
    have e : levP la lb mx = 0 := if_pos (by (with_reducible rename (_ == _) = true => z9); rw [mk_eq] at z9; exact of_decide_eq_true z9)
    rw [e] at ret
    exact ret _ _ _ (by k_asm) Nt
  · have e : levP la lb mx = levT (la.drop (lcp la lb)) (lb.drop (lcp la lb)) mx := if_neg (by (with_reducible rename (_ == _) = false => z9); rw [mk_eq] at z9; exact of_decide_eq_false z9)
    rw [e] at ret
    have hlc := lcp_le la lb
    rename Fr gp L1 _ _ => FF
    rename News gp L1 _ _ => NN
    refine CiStop.go ?_
    refine' wh_loopE (G_v_J1 s la lb gp L1 ta tb mx tm)
      (G_v_J2 s gp L1 la lb ta tb mx tm) (n0 := lcp la lb) ?h0 ?turn ?fin ?hE
    case hE => passes_own
    case h0 => exact ⟨0, _, _, _, _, rfl, Nat.zero_le _, rfl, fr_known _ FF (List.forall_mem_cons.mpr ⟨rfl, List.forall_mem_cons.mpr ⟨rfl, List.forall_mem_cons.mpr ⟨rfl, List.forall_mem_cons.mpr ⟨rfl, List.forall_mem_nil _⟩⟩⟩⟩), NN⟩
    case turn =>
      rintro k s' ⟨p, tp, u, hp, tk, rfl, hp1, rfl, FF, NN⟩
      refine with_QI ?_
      intro RT RZ hT hZ
      k_steps
      repeat' (refine CiStop.go ?_; (with_reducible (first | (k_here; (with_reducible show wpAny _ _ (call (Value.ref 139) _) _ _ _); k_dflt (refine' sub_c ?B ?F ?X ?T ?hk ?N ?hdp ?hun ?_; ((case B => k_asm); (case F => k_asm); (case X => k_asm); (case T => k_asm); (case hk => exact rfl); (case N => k_asm)); ((case hdp => ktr_room); (case hun => ktr_units); k_whole)); intro t' h' tk' F' N'; ((try dsimp only); (try k_fold))) | (k_here; (with_reducible show wpAny _ _ (call (Value.type _) [Value.ref _]) _ _ _); k_dflt (refine' list_range2 rfl ?Fm ?Nm ?rm ?zm ?_; (case Fm => k_asm); (case Nm => k_asm); (case rm => assumption); (case zm => omega); k_whole); intro D' us' c' h' tk' F' N' l1 hI'; (try k_lt l1)) | (k_here; (with_reducible show wpAny _ _ (call (Value.builtin _) [Value.str (mk _) _]) _ _ _); k_dflt (refine' mk_len ?hlm ?_; (case hlm => first | omega | (simp only [List.length_drop, List.length_take]; omega)); k_whole)) | (k_here; (with_reducible show wpAny _ _ (subscriptTail _ _ (Value.str (mk _) _) (Value.int _ _)) _ _ _); first | (refine mk_itemP ?hjm ?hlm ?_; (case hjm => omega); (case hlm => first | omega | (simp only [List.length_drop, List.length_take]; omega))) | (refine mk_itemR (by assumption) ?hjm ?hlm ?_; (case hjm => omega); (case hlm => first | omega | (simp only [List.length_drop, List.length_take]; omega))); intro _ _) | (k_here; (with_reducible show wpAny _ _ (subscriptTail _ _ (Value.str (mk _) _) (Value.int _ _)) _ _ _); first | (refine mk_itemP ?hjm ?hlm ?_; (case hjm => omega); (case hlm => first | omega | (simp only [List.length_drop, List.length_take]; omega))) | (refine mk_itemR (by assumption) ?hjm ?hlm ?_; (case hjm => omega); (case hlm => first | omega | (simp only [List.length_drop, List.length_take]; omega))); intro _ _) | (k_here; (with_reducible rename Fr _ _ _ _ => F'); (with_reducible rename News _ _ _ _ => N'); first | ((with_reducible show wpAny _ _ (subscriptTail _ (Expr.Slice (some _) none none _) _ _) _ _ _); (refine mk_sn (s := ⟨_, _, _, _, _⟩) F' N' ?hlm ?hpm ?_; (case hlm => first | omega | (simp only [List.length_drop, List.length_take]; omega)); (case hpm => omega))) | ((with_reducible show wpAny _ _ (subscriptTail _ (Expr.Slice none (some _) none _) _ _) _ _ _); (refine mk_ns (s := ⟨_, _, _, _, _⟩) (by assumption) F' N' ?hlm ?hqm ?_; (case hlm => first | omega | (simp only [List.length_drop, List.length_take]; omega)); (case hqm => omega))); intro _ _ _ _ _) | (k_here; (with_reducible show wpAny _ _ (truthy (Value.str _ _)) _ _ _); (refine mk_truthy_take ?hlm ?_; (case hlm => first | omega | (simp only [List.length_drop, List.length_take]; omega)))) | (k_here; (with_reducible show wpAny _ _ (truthy (Value.str _ _)) _ _ _); (refine mk_truthy_drop ?hlm ?_; (case hlm => first | omega | (simp only [List.length_drop, List.length_take]; omega)))) | (k_here; (with_reducible show wpAny _ _ (truthy (Value.str _ _)) _ _ _); (refine mk_truthy ?hlm ?_; (case hlm => first | omega | (simp only [List.length_drop, List.length_take]; omega)))) | (k_here; (with_reducible show wpAny _ _ (eval (Expr.BoolOp BoolOp.Or [Expr.Name _ _, Expr.Constant Const.none _ _] _) _) _ _ _); refine or_none ?_))); k_steps)
      all_goals (first | (refine hZ _ ?_; done) | (refine hT _ fun R hR => ?_; k_steps; refine hR _ _ ?_; dsimp only [OwitFlow]) | refine hZ _ ?_)
      all_goals
        rename Fr gp L1 _ _ => FF
        rename News gp L1 _ _ => NN
        refine CiStop.go ?_
        first
        | ((with_reducible rename (_ == _) = true => z9); rw [one_eq] at z9; have z8 := lcp_step la lb p hp1 (by assumption) (by assumption) (of_decide_eq_true z9); exact ⟨lcp la lb - (p + 1), by omega, p + 1, _, _, _, _, rfl, z8, rfl, fr_known _ FF (List.forall_mem_cons.mpr ⟨rfl, List.forall_mem_cons.mpr ⟨rfl, List.forall_mem_cons.mpr ⟨rfl, List.forall_mem_cons.mpr ⟨rfl, List.forall_mem_nil _⟩⟩⟩⟩), NN⟩)
        | ((with_reducible rename (_ == _) = false => z9); rw [one_eq] at z9; obtain rfl : lcp la lb = p := lcp_stop la lb p hp1 (by assumption) (by assumption) (of_decide_eq_false z9); exact ⟨_, _, _, _, rfl, FF, NN⟩)
        | (obtain rfl : lcp la lb = p := (by omega); exact ⟨_, _, _, _, rfl, FF, NN⟩)
    case fin =>
      clear FF NN
      rintro s' ⟨tp, u, hp, tk, rfl, FF, NN⟩
      (try dsimp only)
      k_steps
      repeat' (refine CiStop.go ?_; (with_reducible (first | (k_here; (with_reducible show wpAny _ _ (call (Value.ref 139) _) _ _ _); k_dflt (refine' sub_c ?B ?F ?X ?T ?hk ?N ?hdp ?hun ?_; ((case B => k_asm); (case F => k_asm); (case X => k_asm); (case T => k_asm); (case hk => exact rfl); (case N => k_asm)); ((case hdp => ktr_room); (case hun => ktr_units); k_whole)); intro t' h' tk' F' N'; ((try dsimp only); (try k_fold))) | (k_here; (with_reducible show wpAny _ _ (call (Value.type _) [Value.ref _]) _ _ _); k_dflt (refine' list_range2 rfl ?Fm ?Nm ?rm ?zm ?_; (case Fm => k_asm); (case Nm => k_asm); (case rm => assumption); (case zm => omega); k_whole); intro D' us' c' h' tk' F' N' l1 hI'; (try k_lt l1)) | (k_here; (with_reducible show wpAny _ _ (call (Value.builtin _) [Value.str (mk _) _]) _ _ _); k_dflt (refine' mk_len ?hlm ?_; (case hlm => first | omega | (simp only [List.length_drop, List.length_take]; omega)); k_whole)) | (k_here; (with_reducible show wpAny _ _ (subscriptTail _ _ (Value.str (mk _) _) (Value.int _ _)) _ _ _); first | (refine mk_itemP ?hjm ?hlm ?_; (case hjm => omega); (case hlm => first | omega | (simp only [List.length_drop, List.length_take]; omega))) | (refine mk_itemR (by assumption) ?hjm ?hlm ?_; (case hjm => omega); (case hlm => first | omega | (simp only [List.length_drop, List.length_take]; omega))); intro _ _) | (k_here; (with_reducible show wpAny _ _ (subscriptTail _ _ (Value.str (mk _) _) (Value.int _ _)) _ _ _); first | (refine mk_itemP ?hjm ?hlm ?_; (case hjm => omega); (case hlm => first | omega | (simp only [List.length_drop, List.length_take]; omega))) | (refine mk_itemR (by assumption) ?hjm ?hlm ?_; (case hjm => omega); (case hlm => first | omega | (simp only [List.length_drop, List.length_take]; omega))); intro _ _) | (k_here; (with_reducible rename Fr _ _ _ _ => F'); (with_reducible rename News _ _ _ _ => N'); first | ((with_reducible show wpAny _ _ (subscriptTail _ (Expr.Slice (some _) none none _) _ _) _ _ _); (refine mk_sn (s := ⟨_, _, _, _, _⟩) F' N' ?hlm ?hpm ?_; (case hlm => first | omega | (simp only [List.length_drop, List.length_take]; omega)); (case hpm => omega))) | ((with_reducible show wpAny _ _ (subscriptTail _ (Expr.Slice none (some _) none _) _ _) _ _ _); (refine mk_ns (s := ⟨_, _, _, _, _⟩) (by assumption) F' N' ?hlm ?hqm ?_; (case hlm => first | omega | (simp only [List.length_drop, List.length_take]; omega)); (case hqm => omega))); intro _ _ _ _ _) | (k_here; (with_reducible show wpAny _ _ (truthy (Value.str _ _)) _ _ _); (refine mk_truthy_take ?hlm ?_; (case hlm => first | omega | (simp only [List.length_drop, List.length_take]; omega)))) | (k_here; (with_reducible show wpAny _ _ (truthy (Value.str _ _)) _ _ _); (refine mk_truthy_drop ?hlm ?_; (case hlm => first | omega | (simp only [List.length_drop, List.length_take]; omega)))) | (k_here; (with_reducible show wpAny _ _ (truthy (Value.str _ _)) _ _ _); (refine mk_truthy ?hlm ?_; (case hlm => first | omega | (simp only [List.length_drop, List.length_take]; omega)))) | (k_here; (with_reducible show wpAny _ _ (eval (Expr.BoolOp BoolOp.Or [Expr.Name _ _, Expr.Constant Const.none _ _] _) _) _ _ _); refine or_none ?_))); k_steps)
      rename Fr gp L1 _ _ => FF
      rename News gp L1 _ _ => NN
      have hA : (la.drop (lcp la lb)).length ≤ 40 := by rw [List.length_drop]; omega
      have hB : (lb.drop (lcp la lb)).length ≤ 40 := by rw [List.length_drop]; omega
      clear e hlc
      generalize la.drop (lcp la lb) = a2 at ret FF hA
      generalize lb.drop (lcp la lb) = b2 at ret FF hB
      refine CiStop.go ?_
      have hlc := lcp_le a2.reverse b2.reverse
      rw [List.length_reverse, List.length_reverse] at hlc
      refine' wh_loopE (G_v_J3 s a2 b2 gp L1 mx tm)
        (G_v_J4 s a2 b2 gp L1 mx tm) (n0 := lcp a2.reverse b2.reverse) ?h0 ?turn ?fin ?hE
      case hE => passes_own
      case h0 => exact ⟨0, 0, _, _, _, _, _, _, rfl, rfl, Nat.zero_le _, rfl, fr_known _ FF (List.forall_mem_cons.mpr ⟨rfl, List.forall_mem_cons.mpr ⟨rfl, List.forall_mem_cons.mpr ⟨rfl, List.forall_mem_cons.mpr ⟨rfl, List.forall_mem_nil _⟩⟩⟩⟩), NN⟩
      case turn =>
        clear FF NN
        rintro k s' ⟨q, z, tp, t1, t2, u, hp, tk, rfl, hz, hq1, rfl, FF, NN⟩
        refine with_QI ?_
        intro RT RZ hT hZ
        k_steps
        repeat' (refine CiStop.go ?_; (with_reducible (first | (k_here; (with_reducible show wpAny _ _ (call (Value.ref 139) _) _ _ _); k_dflt (refine' sub_c ?B ?F ?X ?T ?hk ?N ?hdp ?hun ?_; ((case B => k_asm); (case F => k_asm); (case X => k_asm); (case T => k_asm); (case hk => exact rfl); (case N => k_asm)); ((case hdp => ktr_room); (case hun => ktr_units); k_whole)); intro t' h' tk' F' N'; ((try dsimp only); (try k_fold))) | (k_here; (with_reducible show wpAny _ _ (call (Value.type _) [Value.ref _]) _ _ _); k_dflt (refine' list_range2 rfl ?Fm ?Nm ?rm ?zm ?_; (case Fm => k_asm); (case Nm => k_asm); (case rm => assumption); (case zm => omega); k_whole); intro D' us' c' h' tk' F' N' l1 hI'; (try k_lt l1)) | (k_here; (with_reducible show wpAny _ _ (call (Value.builtin _) [Value.str (mk _) _]) _ _ _); k_dflt (refine' mk_len ?hlm ?_; (case hlm => first | omega | (simp only [List.length_drop, List.length_take]; omega)); k_whole)) | (k_here; (with_reducible show wpAny _ _ (subscriptTail _ _ (Value.str (mk _) _) (Value.int _ _)) _ _ _); first | (refine mk_itemP ?hjm ?hlm ?_; (case hjm => omega); (case hlm => first | omega | (simp only [List.length_drop, List.length_take]; omega))) | (refine mk_itemR (by assumption) ?hjm ?hlm ?_; (case hjm => omega); (case hlm => first | omega | (simp only [List.length_drop, List.length_take]; omega))); intro _ _) | (k_here; (with_reducible show wpAny _ _ (subscriptTail _ _ (Value.str (mk _) _) (Value.int _ _)) _ _ _); first | (refine mk_itemP ?hjm ?hlm ?_; (case hjm => omega); (case hlm => first | omega | (simp only [List.length_drop, List.length_take]; omega))) | (refine mk_itemR (by assumption) ?hjm ?hlm ?_; (case hjm => omega); (case hlm => first | omega | (simp only [List.length_drop, List.length_take]; omega))); intro _ _) | (k_here; (with_reducible rename Fr _ _ _ _ => F'); (with_reducible rename News _ _ _ _ => N'); first | ((with_reducible show wpAny _ _ (subscriptTail _ (Expr.Slice (some _) none none _) _ _) _ _ _); (refine mk_sn (s := ⟨_, _, _, _, _⟩) F' N' ?hlm ?hpm ?_; (case hlm => first | omega | (simp only [List.length_drop, List.length_take]; omega)); (case hpm => omega))) | ((with_reducible show wpAny _ _ (subscriptTail _ (Expr.Slice none (some _) none _) _ _) _ _ _); (refine mk_ns (s := ⟨_, _, _, _, _⟩) (by assumption) F' N' ?hlm ?hqm ?_; (case hlm => first | omega | (simp only [List.length_drop, List.length_take]; omega)); (case hqm => omega))); intro _ _ _ _ _) | (k_here; (with_reducible show wpAny _ _ (truthy (Value.str _ _)) _ _ _); (refine mk_truthy_take ?hlm ?_; (case hlm => first | omega | (simp only [List.length_drop, List.length_take]; omega)))) | (k_here; (with_reducible show wpAny _ _ (truthy (Value.str _ _)) _ _ _); (refine mk_truthy_drop ?hlm ?_; (case hlm => first | omega | (simp only [List.length_drop, List.length_take]; omega)))) | (k_here; (with_reducible show wpAny _ _ (truthy (Value.str _ _)) _ _ _); (refine mk_truthy ?hlm ?_; (case hlm => first | omega | (simp only [List.length_drop, List.length_take]; omega)))) | (k_here; (with_reducible show wpAny _ _ (eval (Expr.BoolOp BoolOp.Or [Expr.Name _ _, Expr.Constant Const.none _ _] _) _) _ _ _); refine or_none ?_))); k_steps)
        all_goals (first | (refine hZ _ ?_; done) | (refine hT _ fun R hR => ?_; k_steps; refine hR _ _ ?_; dsimp only [OwitFlow]) | refine hZ _ ?_)
        all_goals
          rename Fr gp L1 _ _ => FF
          rename News gp L1 _ _ => NN
          refine CiStop.go ?_
          first
          | ((with_reducible rename (_ == _) = true => z9); rw [one_eq] at z9; have z8 := lcp_step a2.reverse b2.reverse q hq1 (by rw [List.length_reverse]; assumption) (by rw [List.length_reverse]; assumption) (of_decide_eq_true z9); exact ⟨lcp a2.reverse b2.reverse - (q + 1), by omega, q + 1, z - 1, _, _, _, _, _, _, rfl, by omega, z8, rfl, fr_known _ FF (List.forall_mem_cons.mpr ⟨rfl, List.forall_mem_cons.mpr ⟨rfl, List.forall_mem_cons.mpr ⟨rfl, List.forall_mem_cons.mpr ⟨rfl, List.forall_mem_nil _⟩⟩⟩⟩), NN⟩)
          | ((with_reducible rename (_ == _) = false => z9); rw [one_eq] at z9; obtain rfl : lcp a2.reverse b2.reverse = q := lcp_stop a2.reverse b2.reverse q hq1 (by rw [List.length_reverse]; assumption) (by rw [List.length_reverse]; assumption) (of_decide_eq_false z9); exact ⟨_, _, _, _, _, _, _, rfl, hz, FF, NN⟩)
          | (obtain rfl : lcp a2.reverse b2.reverse = q := (by omega); exact ⟨_, _, _, _, _, _, _, rfl, hz, FF, NN⟩)
      case fin =>
        clear FF NN
        rintro s' ⟨z, tp, t1, t2, u, hp, tk, rfl, hz, FF, NN⟩
        (try dsimp only)
        have hAz : (a2.take (a2.length - lcp a2.reverse b2.reverse)).length ≤ 40 := by rw [List.length_take]; omega
        have hBz : (b2.take (b2.length - lcp a2.reverse b2.reverse)).length ≤ 40 := by rw [List.length_take]; omega
        k_steps
        repeat' (refine CiStop.go ?_; (with_reducible (first | (k_here; (with_reducible show wpAny _ _ (call (Value.ref 139) _) _ _ _); k_dflt (refine' sub_c ?B ?F ?X ?T ?hk ?N ?hdp ?hun ?_; ((case B => k_asm); (case F => k_asm); (case X => k_asm); (case T => k_asm); (case hk => exact rfl); (case N => k_asm)); ((case hdp => ktr_room); (case hun => ktr_units); k_whole)); intro t' h' tk' F' N'; ((try dsimp only); (try k_fold))) | (k_here; (with_reducible show wpAny _ _ (call (Value.type _) [Value.ref _]) _ _ _); k_dflt (refine' list_range2 rfl ?Fm ?Nm ?rm ?zm ?_; (case Fm => k_asm); (case Nm => k_asm); (case rm => assumption); (case zm => omega); k_whole); intro D' us' c' h' tk' F' N' l1 hI'; (try k_lt l1)) | (k_here; (with_reducible show wpAny _ _ (call (Value.builtin _) [Value.str (mk _) _]) _ _ _); k_dflt (refine' mk_len ?hlm ?_; (case hlm => first | omega | (simp only [List.length_drop, List.length_take]; omega)); k_whole)) | (k_here; (with_reducible show wpAny _ _ (subscriptTail _ _ (Value.str (mk _) _) (Value.int _ _)) _ _ _); first | (refine mk_itemP ?hjm ?hlm ?_; (case hjm => omega); (case hlm => first | omega | (simp only [List.length_drop, List.length_take]; omega))) | (refine mk_itemR (by assumption) ?hjm ?hlm ?_; (case hjm => omega); (case hlm => first | omega | (simp only [List.length_drop, List.length_take]; omega))); intro _ _) | (k_here; (with_reducible show wpAny _ _ (subscriptTail _ _ (Value.str (mk _) _) (Value.int _ _)) _ _ _); first | (refine mk_itemP ?hjm ?hlm ?_; (case hjm => omega); (case hlm => first | omega | (simp only [List.length_drop, List.length_take]; omega))) | (refine mk_itemR (by assumption) ?hjm ?hlm ?_; (case hjm => omega); (case hlm => first | omega | (simp only [List.length_drop, List.length_take]; omega))); intro _ _) | (k_here; (with_reducible rename Fr _ _ _ _ => F'); (with_reducible rename News _ _ _ _ => N'); first | ((with_reducible show wpAny _ _ (subscriptTail _ (Expr.Slice (some _) none none _) _ _) _ _ _); (refine mk_sn (s := ⟨_, _, _, _, _⟩) F' N' ?hlm ?hpm ?_; (case hlm => first | omega | (simp only [List.length_drop, List.length_take]; omega)); (case hpm => omega))) | ((with_reducible show wpAny _ _ (subscriptTail _ (Expr.Slice none (some _) none _) _ _) _ _ _); (refine mk_ns (s := ⟨_, _, _, _, _⟩) (by assumption) F' N' ?hlm ?hqm ?_; (case hlm => first | omega | (simp only [List.length_drop, List.length_take]; omega)); (case hqm => omega))); intro _ _ _ _ _) | (k_here; (with_reducible show wpAny _ _ (truthy (Value.str _ _)) _ _ _); (refine mk_truthy_take ?hlm ?_; (case hlm => first | omega | (simp only [List.length_drop, List.length_take]; omega)))) | (k_here; (with_reducible show wpAny _ _ (truthy (Value.str _ _)) _ _ _); (refine mk_truthy_drop ?hlm ?_; (case hlm => first | omega | (simp only [List.length_drop, List.length_take]; omega)))) | (k_here; (with_reducible show wpAny _ _ (truthy (Value.str _ _)) _ _ _); (refine mk_truthy ?hlm ?_; (case hlm => first | omega | (simp only [List.length_drop, List.length_take]; omega)))) | (k_here; (with_reducible show wpAny _ _ (eval (Expr.BoolOp BoolOp.Or [Expr.Name _ _, Expr.Constant Const.none _ _] _) _) _ _ _); refine or_none ?_))); k_steps)
        all_goals first
          | (rename News h₀ L _ news => Nt
             have e : levT a2 b2 mx = 2 * (((a2.take (a2.length - lcp a2.reverse b2.reverse)).length : Int) + ((b2.take (b2.length - lcp a2.reverse b2.reverse)).length : Int)) := if_pos (by first | exact .inl (List.eq_nil_of_length_eq_zero (by rw [List.length_take]; omega)) | exact .inr (List.eq_nil_of_length_eq_zero (by rw [List.length_take]; omega)))
             rw [e] at ret
             exact ret _ _ _ (by k_asm) Nt)
          | skip
        rename Fr gp L1 _ _ => FF
        rename News gp L1 _ _ => NN
        have hA0 : 0 < (a2.take (a2.length - lcp a2.reverse b2.reverse)).length := by rw [List.length_take]; omega
        have hB0 : 0 < (b2.take (b2.length - lcp a2.reverse b2.reverse)).length := by rw [List.length_take]; omega
        have e : levT a2 b2 mx = levS (a2.take (a2.length - lcp a2.reverse b2.reverse)) (b2.take (b2.length - lcp a2.reverse b2.reverse)) mx := rfl
        rw [e] at ret
        clear e
        generalize (a2.take (a2.length - lcp a2.reverse b2.reverse)) = a3 at ret FF hAz hA0
        generalize (b2.take (b2.length - lcp a2.reverse b2.reverse)) = b3 at ret FF hBz hB0
        refine CiStop.go ?_
        refine' exec_cut (G_v_J5 s a3 b3 mx gp L1 tm) ?hx ?fin
        case hx =>
          refine with_Q ?_
          intro R hR
          refine wpAny_If ?_
          k_steps
          repeat' (refine CiStop.go ?_; (with_reducible (first | (k_here; (with_reducible show wpAny _ _ (call (Value.ref 139) _) _ _ _); k_dflt (refine' sub_c ?B ?F ?X ?T ?hk ?N ?hdp ?hun ?_; ((case B => k_asm); (case F => k_asm); (case X => k_asm); (case T => k_asm); (case hk => exact rfl); (case N => k_asm)); ((case hdp => ktr_room); (case hun => ktr_units); k_whole)); intro t' h' tk' F' N'; ((try dsimp only); (try k_fold))) | (k_here; (with_reducible show wpAny _ _ (call (Value.type _) [Value.ref _]) _ _ _); k_dflt (refine' list_range2 rfl ?Fm ?Nm ?rm ?zm ?_; (case Fm => k_asm); (case Nm => k_asm); (case rm => assumption); (case zm => omega); k_whole); intro D' us' c' h' tk' F' N' l1 hI'; (try k_lt l1)) | (k_here; (with_reducible show wpAny _ _ (call (Value.builtin _) [Value.str (mk _) _]) _ _ _); k_dflt (refine' mk_len ?hlm ?_; (case hlm => first | omega | (simp only [List.length_drop, List.length_take]; omega)); k_whole)) | (k_here; (with_reducible show wpAny _ _ (subscriptTail _ _ (Value.str (mk _) _) (Value.int _ _)) _ _ _); first | (refine mk_itemP ?hjm ?hlm ?_; (case hjm => omega); (case hlm => first | omega | (simp only [List.length_drop, List.length_take]; omega))) | (refine mk_itemR (by assumption) ?hjm ?hlm ?_; (case hjm => omega); (case hlm => first | omega | (simp only [List.length_drop, List.length_take]; omega))); intro _ _) | (k_here; (with_reducible show wpAny _ _ (subscriptTail _ _ (Value.str (mk _) _) (Value.int _ _)) _ _ _); first | (refine mk_itemP ?hjm ?hlm ?_; (case hjm => omega); (case hlm => first | omega | (simp only [List.length_drop, List.length_take]; omega))) | (refine mk_itemR (by assumption) ?hjm ?hlm ?_; (case hjm => omega); (case hlm => first | omega | (simp only [List.length_drop, List.length_take]; omega))); intro _ _) | (k_here; (with_reducible rename Fr _ _ _ _ => F'); (with_reducible rename News _ _ _ _ => N'); first | ((with_reducible show wpAny _ _ (subscriptTail _ (Expr.Slice (some _) none none _) _ _) _ _ _); (refine mk_sn (s := ⟨_, _, _, _, _⟩) F' N' ?hlm ?hpm ?_; (case hlm => first | omega | (simp only [List.length_drop, List.length_take]; omega)); (case hpm => omega))) | ((with_reducible show wpAny _ _ (subscriptTail _ (Expr.Slice none (some _) none _) _ _) _ _ _); (refine mk_ns (s := ⟨_, _, _, _, _⟩) (by assumption) F' N' ?hlm ?hqm ?_; (case hlm => first | omega | (simp only [List.length_drop, List.length_take]; omega)); (case hqm => omega))); intro _ _ _ _ _) | (k_here; (with_reducible show wpAny _ _ (truthy (Value.str _ _)) _ _ _); (refine mk_truthy_take ?hlm ?_; (case hlm => first | omega | (simp only [List.length_drop, List.length_take]; omega)))) | (k_here; (with_reducible show wpAny _ _ (truthy (Value.str _ _)) _ _ _); (refine mk_truthy_drop ?hlm ?_; (case hlm => first | omega | (simp only [List.length_drop, List.length_take]; omega)))) | (k_here; (with_reducible show wpAny _ _ (truthy (Value.str _ _)) _ _ _); (refine mk_truthy ?hlm ?_; (case hlm => first | omega | (simp only [List.length_drop, List.length_take]; omega)))) | (k_here; (with_reducible show wpAny _ _ (eval (Expr.BoolOp BoolOp.Or [Expr.Name _ _, Expr.Constant Const.none _ _] _) _) _ _ _); refine or_none ?_))); k_steps)
          all_goals (refine hR _ _ ?_; dsimp only [CutFlow])
          all_goals
            rename Fr gp L1 _ _ => FF
            rename News gp L1 _ _ => NN
            refine CiStop.go ?_
            first
            | exact ⟨b3, a3, _, _, _, _, _, rfl, by omega, hAz, hB0, levS_swap hA0 hB0 (by omega), fr_known _ FF (List.forall_mem_cons.mpr ⟨rfl, List.forall_mem_cons.mpr ⟨rfl, List.forall_mem_cons.mpr ⟨rfl, List.forall_mem_nil _⟩⟩⟩), News.nil⟩
            | exact ⟨a3, b3, _, _, _, _, _, rfl, by omega, hBz, hA0, levS_stay hA0 hB0 (by omega), fr_known _ FF (List.forall_mem_cons.mpr ⟨rfl, List.forall_mem_cons.mpr ⟨rfl, List.forall_mem_cons.mpr ⟨rfl, List.forall_mem_nil _⟩⟩⟩), News.nil⟩
        case fin =>
          clear FF NN
          rintro s' ⟨a4, b4, t1, t2, u, hp, tk, rfl, hab, hb4, ha4, hlev, FF, NN⟩
          rw [hlev] at ret
          (try dsimp only)
          k_steps
          repeat' (refine CiStop.go ?_; (with_reducible (first | (k_here; (with_reducible show wpAny _ _ (call (Value.ref 139) _) _ _ _); k_dflt (refine' sub_c ?B ?F ?X ?T ?hk ?N ?hdp ?hun ?_; ((case B => k_asm); (case F => k_asm); (case X => k_asm); (case T => k_asm); (case hk => exact rfl); (case N => k_asm)); ((case hdp => ktr_room); (case hun => ktr_units); k_whole)); intro t' h' tk' F' N'; ((try dsimp only); (try k_fold))) | (k_here; (with_reducible show wpAny _ _ (call (Value.type _) [Value.ref _]) _ _ _); k_dflt (refine' list_range2 rfl ?Fm ?Nm ?rm ?zm ?_; (case Fm => k_asm); (case Nm => k_asm); (case rm => assumption); (case zm => omega); k_whole); intro D' us' c' h' tk' F' N' l1 hI'; (try k_lt l1)) | (k_here; (with_reducible show wpAny _ _ (call (Value.builtin _) [Value.str (mk _) _]) _ _ _); k_dflt (refine' mk_len ?hlm ?_; (case hlm => first | omega | (simp only [List.length_drop, List.length_take]; omega)); k_whole)) | (k_here; (with_reducible show wpAny _ _ (subscriptTail _ _ (Value.str (mk _) _) (Value.int _ _)) _ _ _); first | (refine mk_itemP ?hjm ?hlm ?_; (case hjm => omega); (case hlm => first | omega | (simp only [List.length_drop, List.length_take]; omega))) | (refine mk_itemR (by assumption) ?hjm ?hlm ?_; (case hjm => omega); (case hlm => first | omega | (simp only [List.length_drop, List.length_take]; omega))); intro _ _) | (k_here; (with_reducible show wpAny _ _ (subscriptTail _ _ (Value.str (mk _) _) (Value.int _ _)) _ _ _); first | (refine mk_itemP ?hjm ?hlm ?_; (case hjm => omega); (case hlm => first | omega | (simp only [List.length_drop, List.length_take]; omega))) | (refine mk_itemR (by assumption) ?hjm ?hlm ?_; (case hjm => omega); (case hlm => first | omega | (simp only [List.length_drop, List.length_take]; omega))); intro _ _) | (k_here; (with_reducible rename Fr _ _ _ _ => F'); (with_reducible rename News _ _ _ _ => N'); first | ((with_reducible show wpAny _ _ (subscriptTail _ (Expr.Slice (some _) none none _) _ _) _ _ _); (refine mk_sn (s := ⟨_, _, _, _, _⟩) F' N' ?hlm ?hpm ?_; (case hlm => first | omega | (simp only [List.length_drop, List.length_take]; omega)); (case hpm => omega))) | ((with_reducible show wpAny _ _ (subscriptTail _ (Expr.Slice none (some _) none _) _ _) _ _ _); (refine mk_ns (s := ⟨_, _, _, _, _⟩) (by assumption) F' N' ?hlm ?hqm ?_; (case hlm => first | omega | (simp only [List.length_drop, List.length_take]; omega)); (case hqm => omega))); intro _ _ _ _ _) | (k_here; (with_reducible show wpAny _ _ (truthy (Value.str _ _)) _ _ _); (refine mk_truthy_take ?hlm ?_; (case hlm => first | omega | (simp only [List.length_drop, List.length_take]; omega)))) | (k_here; (with_reducible show wpAny _ _ (truthy (Value.str _ _)) _ _ _); (refine mk_truthy_drop ?hlm ?_; (case hlm => first | omega | (simp only [List.length_drop, List.length_take]; omega)))) | (k_here; (with_reducible show wpAny _ _ (truthy (Value.str _ _)) _ _ _); (refine mk_truthy ?hlm ?_; (case hlm => first | omega | (simp only [List.length_drop, List.length_take]; omega)))) | (k_here; (with_reducible show wpAny _ _ (eval (Expr.BoolOp BoolOp.Or [Expr.Name _ _, Expr.Constant Const.none _ _] _) _) _ _ _); refine or_none ?_))); k_steps)
          · rename News h₀ L _ news => Nt
            have e : levD a4 b4 mx = mx + 1 := if_pos (by omega)
            rw [e] at ret
            exact ret _ _ _ (by k_asm) Nt
          · have e : levD a4 b4 mx = stepO a4 mx b4 0 (rowOf a4.length) 0 := if_neg (by omega)
            rw [e] at ret
            rename Fr gp L1 _ _ => FF
            rename News gp L1 _ _ => NN
            (with_reducible rename IntsAre _ (rowOf _) => hI)
            refine CiStop.go ?_
            refine' rg_for (h₀ := gp) (L := L1) (n := b4.length) (G_v_J6 a4 b4 mx tm) rfl ?ev ?turn ?done ?hs ?hE
            case hs => intro _; rfl
            case hE => passes_own
            case ev =>
              k_steps
              repeat' (refine CiStop.go ?_; (with_reducible (first | (k_here; (with_reducible show wpAny _ _ (call (Value.ref 139) _) _ _ _); k_dflt (refine' sub_c ?B ?F ?X ?T ?hk ?N ?hdp ?hun ?_; ((case B => k_asm); (case F => k_asm); (case X => k_asm); (case T => k_asm); (case hk => exact rfl); (case N => k_asm)); ((case hdp => ktr_room); (case hun => ktr_units); k_whole)); intro t' h' tk' F' N'; ((try dsimp only); (try k_fold))) | (k_here; (with_reducible show wpAny _ _ (call (Value.type _) [Value.ref _]) _ _ _); k_dflt (refine' list_range2 rfl ?Fm ?Nm ?rm ?zm ?_; (case Fm => k_asm); (case Nm => k_asm); (case rm => assumption); (case zm => omega); k_whole); intro D' us' c' h' tk' F' N' l1 hI'; (try k_lt l1)) | (k_here; (with_reducible show wpAny _ _ (call (Value.builtin _) [Value.str (mk _) _]) _ _ _); k_dflt (refine' mk_len ?hlm ?_; (case hlm => first | omega | (simp only [List.length_drop, List.length_take]; omega)); k_whole)) | (k_here; (with_reducible show wpAny _ _ (subscriptTail _ _ (Value.str (mk _) _) (Value.int _ _)) _ _ _); first | (refine mk_itemP ?hjm ?hlm ?_; (case hjm => omega); (case hlm => first | omega | (simp only [List.length_drop, List.length_take]; omega))) | (refine mk_itemR (by assumption) ?hjm ?hlm ?_; (case hjm => omega); (case hlm => first | omega | (simp only [List.length_drop, List.length_take]; omega))); intro _ _) | (k_here; (with_reducible show wpAny _ _ (subscriptTail _ _ (Value.str (mk _) _) (Value.int _ _)) _ _ _); first | (refine mk_itemP ?hjm ?hlm ?_; (case hjm => omega); (case hlm => first | omega | (simp only [List.length_drop, List.length_take]; omega))) | (refine mk_itemR (by assumption) ?hjm ?hlm ?_; (case hjm => omega); (case hlm => first | omega | (simp only [List.length_drop, List.length_take]; omega))); intro _ _) | (k_here; (with_reducible rename Fr _ _ _ _ => F'); (with_reducible rename News _ _ _ _ => N'); first | ((with_reducible show wpAny _ _ (subscriptTail _ (Expr.Slice (some _) none none _) _ _) _ _ _); (refine mk_sn (s := ⟨_, _, _, _, _⟩) F' N' ?hlm ?hpm ?_; (case hlm => first | omega | (simp only [List.length_drop, List.length_take]; omega)); (case hpm => omega))) | ((with_reducible show wpAny _ _ (subscriptTail _ (Expr.Slice none (some _) none _) _ _) _ _ _); (refine mk_ns (s := ⟨_, _, _, _, _⟩) (by assumption) F' N' ?hlm ?hqm ?_; (case hlm => first | omega | (simp only [List.length_drop, List.length_take]; omega)); (case hqm => omega))); intro _ _ _ _ _) | (k_here; (with_reducible show wpAny _ _ (truthy (Value.str _ _)) _ _ _); (refine mk_truthy_take ?hlm ?_; (case hlm => first | omega | (simp only [List.length_drop, List.length_take]; omega)))) | (k_here; (with_reducible show wpAny _ _ (truthy (Value.str _ _)) _ _ _); (refine mk_truthy_drop ?hlm ?_; (case hlm => first | omega | (simp only [List.length_drop, List.length_take]; omega)))) | (k_here; (with_reducible show wpAny _ _ (truthy (Value.str _ _)) _ _ _); (refine mk_truthy ?hlm ?_; (case hlm => first | omega | (simp only [List.length_drop, List.length_take]; omega)))) | (k_here; (with_reducible show wpAny _ _ (eval (Expr.BoolOp BoolOp.Or [Expr.Name _ _, Expr.Constant Const.none _ _] _) _) _ _ _); refine or_none ?_))); k_steps)
              rename Fr gp L1 _ _ => FF
              rename News gp L1 _ _ => NN
              (with_reducible rename IsRange _ _ 0 _ _ _ _ _ => hr)
              refine CiStop.go ⟨_, _, _, _, _, _, _, _, rfl, rfl, hr, by omega, fr_known _ FF (List.forall_mem_cons.mpr ⟨rfl, List.forall_mem_cons.mpr ⟨rfl, List.forall_mem_cons.mpr ⟨rfl, List.forall_mem_cons.mpr ⟨rfl, List.forall_mem_cons.mpr ⟨rfl, List.forall_mem_nil _⟩⟩⟩⟩⟩), NN, _, _, _, _, _, _, _, _, _, rfl, rfl, hI, ?_, ?_⟩
              · unfold rowOf; simp
              · rfl
            case done =>
              rintro h' tk m news ⟨R, us, c, row, res, t1, t2, tr, u, rfl, rfl, hI, hrl, hV⟩ FF NN
              have e : stepO a4 mx b4 0 (rowOf a4.length) 0 = res := by rw [← hV, List.drop_length]; rfl
              rw [e] at ret
              (try dsimp only)
              k_steps
              repeat' (refine CiStop.go ?_; (with_reducible (first | (k_here; (with_reducible show wpAny _ _ (call (Value.ref 139) _) _ _ _); k_dflt (refine' sub_c ?B ?F ?X ?T ?hk ?N ?hdp ?hun ?_; ((case B => k_asm); (case F => k_asm); (case X => k_asm); (case T => k_asm); (case hk => exact rfl); (case N => k_asm)); ((case hdp => ktr_room); (case hun => ktr_units); k_whole)); intro t' h' tk' F' N'; ((try dsimp only); (try k_fold))) | (k_here; (with_reducible show wpAny _ _ (call (Value.type _) [Value.ref _]) _ _ _); k_dflt (refine' list_range2 rfl ?Fm ?Nm ?rm ?zm ?_; (case Fm => k_asm); (case Nm => k_asm); (case rm => assumption); (case zm => omega); k_whole); intro D' us' c' h' tk' F' N' l1 hI'; (try k_lt l1)) | (k_here; (with_reducible show wpAny _ _ (call (Value.builtin _) [Value.str (mk _) _]) _ _ _); k_dflt (refine' mk_len ?hlm ?_; (case hlm => first | omega | (simp only [List.length_drop, List.length_take]; omega)); k_whole)) | (k_here; (with_reducible show wpAny _ _ (subscriptTail _ _ (Value.str (mk _) _) (Value.int _ _)) _ _ _); first | (refine mk_itemP ?hjm ?hlm ?_; (case hjm => omega); (case hlm => first | omega | (simp only [List.length_drop, List.length_take]; omega))) | (refine mk_itemR (by assumption) ?hjm ?hlm ?_; (case hjm => omega); (case hlm => first | omega | (simp only [List.length_drop, List.length_take]; omega))); intro _ _) | (k_here; (with_reducible show wpAny _ _ (subscriptTail _ _ (Value.str (mk _) _) (Value.int _ _)) _ _ _); first | (refine mk_itemP ?hjm ?hlm ?_; (case hjm => omega); (case hlm => first | omega | (simp only [List.length_drop, List.length_take]; omega))) | (refine mk_itemR (by assumption) ?hjm ?hlm ?_; (case hjm => omega); (case hlm => first | omega | (simp only [List.length_drop, List.length_take]; omega))); intro _ _) | (k_here; (with_reducible rename Fr _ _ _ _ => F'); (with_reducible rename News _ _ _ _ => N'); first | ((with_reducible show wpAny _ _ (subscriptTail _ (Expr.Slice (some _) none none _) _ _) _ _ _); (refine mk_sn (s := ⟨_, _, _, _, _⟩) F' N' ?hlm ?hpm ?_; (case hlm => first | omega | (simp only [List.length_drop, List.length_take]; omega)); (case hpm => omega))) | ((with_reducible show wpAny _ _ (subscriptTail _ (Expr.Slice none (some _) none _) _ _) _ _ _); (refine mk_ns (s := ⟨_, _, _, _, _⟩) (by assumption) F' N' ?hlm ?hqm ?_; (case hlm => first | omega | (simp only [List.length_drop, List.length_take]; omega)); (case hqm => omega))); intro _ _ _ _ _) | (k_here; (with_reducible show wpAny _ _ (truthy (Value.str _ _)) _ _ _); (refine mk_truthy_take ?hlm ?_; (case hlm => first | omega | (simp only [List.length_drop, List.length_take]; omega)))) | (k_here; (with_reducible show wpAny _ _ (truthy (Value.str _ _)) _ _ _); (refine mk_truthy_drop ?hlm ?_; (case hlm => first | omega | (simp only [List.length_drop, List.length_take]; omega)))) | (k_here; (with_reducible show wpAny _ _ (truthy (Value.str _ _)) _ _ _); (refine mk_truthy ?hlm ?_; (case hlm => first | omega | (simp only [List.length_drop, List.length_take]; omega)))) | (k_here; (with_reducible show wpAny _ _ (eval (Expr.BoolOp BoolOp.Or [Expr.Name _ _, Expr.Constant Const.none _ _] _) _) _ _ _); refine or_none ?_))); k_steps)
              rename News h₀ L _ news => Nt
              exact ret _ _ _ (by k_asm) Nt
            case turn =>
              clear FF NN hI
              rintro i I h' tk ti m news hi ⟨R, us, c, row, res, t1, t2, tr, u, rfl, rfl, hI, hrl, hV⟩ hS FF NN
              refine with_Q2 ?_
              intro R6 hR6
              simp only [Sep, List.forall_mem_cons, List.not_mem_nil, false_implies, implies_true, and_true] at hS
              k_steps
              repeat' (refine CiStop.go ?_; (with_reducible (first | (k_here; (with_reducible show wpAny _ _ (call (Value.ref 139) _) _ _ _); k_dflt (refine' sub_c ?B ?F ?X ?T ?hk ?N ?hdp ?hun ?_; ((case B => k_asm); (case F => k_asm); (case X => k_asm); (case T => k_asm); (case hk => exact rfl); (case N => k_asm)); ((case hdp => ktr_room); (case hun => ktr_units); k_whole)); intro t' h' tk' F' N'; ((try dsimp only); (try k_fold))) | (k_here; (with_reducible show wpAny _ _ (call (Value.type _) [Value.ref _]) _ _ _); k_dflt (refine' list_range2 rfl ?Fm ?Nm ?rm ?zm ?_; (case Fm => k_asm); (case Nm => k_asm); (case rm => assumption); (case zm => omega); k_whole); intro D' us' c' h' tk' F' N' l1 hI'; (try k_lt l1)) | (k_here; (with_reducible show wpAny _ _ (call (Value.builtin _) [Value.str (mk _) _]) _ _ _); k_dflt (refine' mk_len ?hlm ?_; (case hlm => first | omega | (simp only [List.length_drop, List.length_take]; omega)); k_whole)) | (k_here; (with_reducible show wpAny _ _ (subscriptTail _ _ (Value.str (mk _) _) (Value.int _ _)) _ _ _); first | (refine mk_itemP ?hjm ?hlm ?_; (case hjm => omega); (case hlm => first | omega | (simp only [List.length_drop, List.length_take]; omega))) | (refine mk_itemR (by assumption) ?hjm ?hlm ?_; (case hjm => omega); (case hlm => first | omega | (simp only [List.length_drop, List.length_take]; omega))); intro _ _) | (k_here; (with_reducible show wpAny _ _ (subscriptTail _ _ (Value.str (mk _) _) (Value.int _ _)) _ _ _); first | (refine mk_itemP ?hjm ?hlm ?_; (case hjm => omega); (case hlm => first | omega | (simp only [List.length_drop, List.length_take]; omega))) | (refine mk_itemR (by assumption) ?hjm ?hlm ?_; (case hjm => omega); (case hlm => first | omega | (simp only [List.length_drop, List.length_take]; omega))); intro _ _) | (k_here; (with_reducible rename Fr _ _ _ _ => F'); (with_reducible rename News _ _ _ _ => N'); first | ((with_reducible show wpAny _ _ (subscriptTail _ (Expr.Slice (some _) none none _) _ _) _ _ _); (refine mk_sn (s := ⟨_, _, _, _, _⟩) F' N' ?hlm ?hpm ?_; (case hlm => first | omega | (simp only [List.length_drop, List.length_take]; omega)); (case hpm => omega))) | ((with_reducible show wpAny _ _ (subscriptTail _ (Expr.Slice none (some _) none _) _ _) _ _ _); (refine mk_ns (s := ⟨_, _, _, _, _⟩) (by assumption) F' N' ?hlm ?hqm ?_; (case hlm => first | omega | (simp only [List.length_drop, List.length_take]; omega)); (case hqm => omega))); intro _ _ _ _ _) | (k_here; (with_reducible show wpAny _ _ (truthy (Value.str _ _)) _ _ _); (refine mk_truthy_take ?hlm ?_; (case hlm => first | omega | (simp only [List.length_drop, List.length_take]; omega)))) | (k_here; (with_reducible show wpAny _ _ (truthy (Value.str _ _)) _ _ _); (refine mk_truthy_drop ?hlm ?_; (case hlm => first | omega | (simp only [List.length_drop, List.length_take]; omega)))) | (k_here; (with_reducible show wpAny _ _ (truthy (Value.str _ _)) _ _ _); (refine mk_truthy ?hlm ?_; (case hlm => first | omega | (simp only [List.length_drop, List.length_take]; omega)))) | (k_here; (with_reducible show wpAny _ _ (eval (Expr.BoolOp BoolOp.Or [Expr.Name _ _, Expr.Constant Const.none _ _] _) _) _ _ _); refine or_none ?_))); k_steps)
              rename Fr gp L1 _ _ => FF
              rename News gp L1 _ _ => NN
              refine CiStop.go ?_
              refine' rg_for (h₀ := gp) (L := L1) (n := a4.length) (G_v_J7 a4 b4 mx tm i I row) rfl ?ev ?turn ?done ?hs ?hE
              case hs => intro _; rfl
              case hE => passes_own
              case ev =>
                k_steps
                repeat' (refine CiStop.go ?_; (with_reducible (first | (k_here; (with_reducible show wpAny _ _ (call (Value.ref 139) _) _ _ _); k_dflt (refine' sub_c ?B ?F ?X ?T ?hk ?N ?hdp ?hun ?_; ((case B => k_asm); (case F => k_asm); (case X => k_asm); (case T => k_asm); (case hk => exact rfl); (case N => k_asm)); ((case hdp => ktr_room); (case hun => ktr_units); k_whole)); intro t' h' tk' F' N'; ((try dsimp only); (try k_fold))) | (k_here; (with_reducible show wpAny _ _ (call (Value.type _) [Value.ref _]) _ _ _); k_dflt (refine' list_range2 rfl ?Fm ?Nm ?rm ?zm ?_; (case Fm => k_asm); (case Nm => k_asm); (case rm => assumption); (case zm => omega); k_whole); intro D' us' c' h' tk' F' N' l1 hI'; (try k_lt l1)) | (k_here; (with_reducible show wpAny _ _ (call (Value.builtin _) [Value.str (mk _) _]) _ _ _); k_dflt (refine' mk_len ?hlm ?_; (case hlm => first | omega | (simp only [List.length_drop, List.length_take]; omega)); k_whole)) | (k_here; (with_reducible show wpAny _ _ (subscriptTail _ _ (Value.str (mk _) _) (Value.int _ _)) _ _ _); first | (refine mk_itemP ?hjm ?hlm ?_; (case hjm => omega); (case hlm => first | omega | (simp only [List.length_drop, List.length_take]; omega))) | (refine mk_itemR (by assumption) ?hjm ?hlm ?_; (case hjm => omega); (case hlm => first | omega | (simp only [List.length_drop, List.length_take]; omega))); intro _ _) | (k_here; (with_reducible show wpAny _ _ (subscriptTail _ _ (Value.str (mk _) _) (Value.int _ _)) _ _ _); first | (refine mk_itemP ?hjm ?hlm ?_; (case hjm => omega); (case hlm => first | omega | (simp only [List.length_drop, List.length_take]; omega))) | (refine mk_itemR (by assumption) ?hjm ?hlm ?_; (case hjm => omega); (case hlm => first | omega | (simp only [List.length_drop, List.length_take]; omega))); intro _ _) | (k_here; (with_reducible rename Fr _ _ _ _ => F'); (with_reducible rename News _ _ _ _ => N'); first | ((with_reducible show wpAny _ _ (subscriptTail _ (Expr.Slice (some _) none none _) _ _) _ _ _); (refine mk_sn (s := ⟨_, _, _, _, _⟩) F' N' ?hlm ?hpm ?_; (case hlm => first | omega | (simp only [List.length_drop, List.length_take]; omega)); (case hpm => omega))) | ((with_reducible show wpAny _ _ (subscriptTail _ (Expr.Slice none (some _) none _) _ _) _ _ _); (refine mk_ns (s := ⟨_, _, _, _, _⟩) (by assumption) F' N' ?hlm ?hqm ?_; (case hlm => first | omega | (simp only [List.length_drop, List.length_take]; omega)); (case hqm => omega))); intro _ _ _ _ _) | (k_here; (with_reducible show wpAny _ _ (truthy (Value.str _ _)) _ _ _); (refine mk_truthy_take ?hlm ?_; (case hlm => first | omega | (simp only [List.length_drop, List.length_take]; omega)))) | (k_here; (with_reducible show wpAny _ _ (truthy (Value.str _ _)) _ _ _); (refine mk_truthy_drop ?hlm ?_; (case hlm => first | omega | (simp only [List.length_drop, List.length_take]; omega)))) | (k_here; (with_reducible show wpAny _ _ (truthy (Value.str _ _)) _ _ _); (refine mk_truthy ?hlm ?_; (case hlm => first | omega | (simp only [List.length_drop, List.length_take]; omega)))) | (k_here; (with_reducible show wpAny _ _ (eval (Expr.BoolOp BoolOp.Or [Expr.Name _ _, Expr.Constant Const.none _ _] _) _) _ _ _); refine or_none ?_))); k_steps)
                rename Fr gp L1 _ _ => FF
                rename News gp L1 _ _ => NN
                (with_reducible rename IsRange _ _ 0 _ _ _ _ _ => hr)
                exact CiStop.go ⟨_, _, _, _, _, _, _, _, rfl, rfl, hr, by omega, fr_known _ FF (List.forall_mem_cons.mpr ⟨rfl, List.forall_mem_cons.mpr ⟨rfl, List.forall_mem_cons.mpr ⟨rfl, List.forall_mem_cons.mpr ⟨rfl, List.forall_mem_cons.mpr ⟨rfl, List.forall_mem_cons.mpr ⟨rfl, List.forall_mem_cons.mpr ⟨rfl, List.forall_mem_cons.mpr ⟨rfl, List.forall_mem_nil _⟩⟩⟩⟩⟩⟩⟩⟩), NN, _, _, _, _, _, _, _, _, _, _, _, _, _, _, rfl, rfl, hS, hI, InRow.first hrl⟩
              case done =>
                clear FF NN
                rintro h' tk m news ⟨R, us, c, all, dist, res2, mn, t1, t2, tr, tb, td, tn, u, rfl, rfl, hS, hI, hRow⟩ FF NN
                have hal : all.length = a4.length := by obtain ⟨_, _, _, _, e, _⟩ := hRow; exact e
                obtain ⟨rfl, rfl, rfl⟩ := hRow.last
                (try dsimp only)
                k_steps
                repeat' (refine CiStop.go ?_; (with_reducible (first | (k_here; (with_reducible show wpAny _ _ (call (Value.ref 139) _) _ _ _); k_dflt (refine' sub_c ?B ?F ?X ?T ?hk ?N ?hdp ?hun ?_; ((case B => k_asm); (case F => k_asm); (case X => k_asm); (case T => k_asm); (case hk => exact rfl); (case N => k_asm)); ((case hdp => ktr_room); (case hun => ktr_units); k_whole)); intro t' h' tk' F' N'; ((try dsimp only); (try k_fold))) | (k_here; (with_reducible show wpAny _ _ (call (Value.type _) [Value.ref _]) _ _ _); k_dflt (refine' list_range2 rfl ?Fm ?Nm ?rm ?zm ?_; (case Fm => k_asm); (case Nm => k_asm); (case rm => assumption); (case zm => omega); k_whole); intro D' us' c' h' tk' F' N' l1 hI'; (try k_lt l1)) | (k_here; (with_reducible show wpAny _ _ (call (Value.builtin _) [Value.str (mk _) _]) _ _ _); k_dflt (refine' mk_len ?hlm ?_; (case hlm => first | omega | (simp only [List.length_drop, List.length_take]; omega)); k_whole)) | (k_here; (with_reducible show wpAny _ _ (subscriptTail _ _ (Value.str (mk _) _) (Value.int _ _)) _ _ _); first | (refine mk_itemP ?hjm ?hlm ?_; (case hjm => omega); (case hlm => first | omega | (simp only [List.length_drop, List.length_take]; omega))) | (refine mk_itemR (by assumption) ?hjm ?hlm ?_; (case hjm => omega); (case hlm => first | omega | (simp only [List.length_drop, List.length_take]; omega))); intro _ _) | (k_here; (with_reducible show wpAny _ _ (subscriptTail _ _ (Value.str (mk _) _) (Value.int _ _)) _ _ _); first | (refine mk_itemP ?hjm ?hlm ?_; (case hjm => omega); (case hlm => first | omega | (simp only [List.length_drop, List.length_take]; omega))) | (refine mk_itemR (by assumption) ?hjm ?hlm ?_; (case hjm => omega); (case hlm => first | omega | (simp only [List.length_drop, List.length_take]; omega))); intro _ _) | (k_here; (with_reducible rename Fr _ _ _ _ => F'); (with_reducible rename News _ _ _ _ => N'); first | ((with_reducible show wpAny _ _ (subscriptTail _ (Expr.Slice (some _) none none _) _ _) _ _ _); (refine mk_sn (s := ⟨_, _, _, _, _⟩) F' N' ?hlm ?hpm ?_; (case hlm => first | omega | (simp only [List.length_drop, List.length_take]; omega)); (case hpm => omega))) | ((with_reducible show wpAny _ _ (subscriptTail _ (Expr.Slice none (some _) none _) _ _) _ _ _); (refine mk_ns (s := ⟨_, _, _, _, _⟩) (by assumption) F' N' ?hlm ?hqm ?_; (case hlm => first | omega | (simp only [List.length_drop, List.length_take]; omega)); (case hqm => omega))); intro _ _ _ _ _) | (k_here; (with_reducible show wpAny _ _ (truthy (Value.str _ _)) _ _ _); (refine mk_truthy_take ?hlm ?_; (case hlm => first | omega | (simp only [List.length_drop, List.length_take]; omega)))) | (k_here; (with_reducible show wpAny _ _ (truthy (Value.str _ _)) _ _ _); (refine mk_truthy_drop ?hlm ?_; (case hlm => first | omega | (simp only [List.length_drop, List.length_take]; omega)))) | (k_here; (with_reducible show wpAny _ _ (truthy (Value.str _ _)) _ _ _); (refine mk_truthy ?hlm ?_; (case hlm => first | omega | (simp only [List.length_drop, List.length_take]; omega)))) | (k_here; (with_reducible show wpAny _ _ (eval (Expr.BoolOp BoolOp.Or [Expr.Name _ _, Expr.Constant Const.none _ _] _) _) _ _ _); refine or_none ?_))); k_steps)
                all_goals (refine hR6 _ _ ?_; (try dsimp only [OwitFlow]); (try k_steps))
                · rename News h₀ L _ news => Nt
                  have e : stepO a4 mx b4 0 (rowOf a4.length) 0 = mx + 1 := by rw [← hV]; exact stepO_ret hi (by assumption)
                  rw [e] at ret
                  exact ret _ _ _ (by k_asm) Nt
                · rename Fr gp L1 _ _ => FF
                  rename News gp L1 _ _ => NN
                  refine CiStop.go ⟨_, _, _, _, rfl, fr_known _ FF (List.forall_mem_cons.mpr ⟨rfl, List.forall_mem_cons.mpr ⟨rfl, List.forall_mem_cons.mpr ⟨rfl, List.forall_mem_cons.mpr ⟨rfl, List.forall_mem_cons.mpr ⟨rfl, List.forall_mem_nil _⟩⟩⟩⟩⟩), NN, List.forall_mem_cons.mpr ⟨hS, List.forall_mem_nil _⟩, R, _, c, _, _, t1, t2, _, _, rfl, rfl, hI, hal, ?_⟩
                  rw [← stepO_next hi (by assumption)]
                  exact hV
              case turn =>
                clear FF NN hI
                rintro k I2 h' tk tk2 m news hk ⟨R, us, c, all, dist, res2, mn, t1, t2, tr, tb, td, tn, u, rfl, rfl, hS, hI, hRow⟩ hS2 FF NN
                refine with_Q2 ?_
                intro R7 hR7
                simp only [Sep, List.forall_mem_cons, List.not_mem_nil, false_implies, implies_true, and_true] at hS2
                obtain ⟨hS3, hS4⟩ := hS2
                have hal : all.length = a4.length := by obtain ⟨_, _, _, _, e, _⟩ := hRow; exact e
                have hk2 : k < all.length := by omega
                k_steps
                repeat' (refine CiStop.go ?_; (with_reducible (first | (k_here; (with_reducible show wpAny _ _ (call (Value.ref 139) _) _ _ _); k_dflt (refine' sub_c ?B ?F ?X ?T ?hk ?N ?hdp ?hun ?_; ((case B => k_asm); (case F => k_asm); (case X => k_asm); (case T => k_asm); (case hk => exact rfl); (case N => k_asm)); ((case hdp => ktr_room); (case hun => ktr_units); k_whole)); intro t' h' tk' F' N'; ((try dsimp only); (try k_fold))) | (k_here; (with_reducible show wpAny _ _ (call (Value.type _) [Value.ref _]) _ _ _); k_dflt (refine' list_range2 rfl ?Fm ?Nm ?rm ?zm ?_; (case Fm => k_asm); (case Nm => k_asm); (case rm => assumption); (case zm => omega); k_whole); intro D' us' c' h' tk' F' N' l1 hI'; (try k_lt l1)) | (k_here; (with_reducible show wpAny _ _ (call (Value.builtin _) [Value.str (mk _) _]) _ _ _); k_dflt (refine' mk_len ?hlm ?_; (case hlm => first | omega | (simp only [List.length_drop, List.length_take]; omega)); k_whole)) | (k_here; (with_reducible show wpAny _ _ (subscriptTail _ _ (Value.str (mk _) _) (Value.int _ _)) _ _ _); first | (refine mk_itemP ?hjm ?hlm ?_; (case hjm => omega); (case hlm => first | omega | (simp only [List.length_drop, List.length_take]; omega))) | (refine mk_itemR (by assumption) ?hjm ?hlm ?_; (case hjm => omega); (case hlm => first | omega | (simp only [List.length_drop, List.length_take]; omega))); intro _ _) | (k_here; (with_reducible show wpAny _ _ (subscriptTail _ _ (Value.str (mk _) _) (Value.int _ _)) _ _ _); first | (refine mk_itemP ?hjm ?hlm ?_; (case hjm => omega); (case hlm => first | omega | (simp only [List.length_drop, List.length_take]; omega))) | (refine mk_itemR (by assumption) ?hjm ?hlm ?_; (case hjm => omega); (case hlm => first | omega | (simp only [List.length_drop, List.length_take]; omega))); intro _ _) | (k_here; (with_reducible rename Fr _ _ _ _ => F'); (with_reducible rename News _ _ _ _ => N'); first | ((with_reducible show wpAny _ _ (subscriptTail _ (Expr.Slice (some _) none none _) _ _) _ _ _); (refine mk_sn (s := ⟨_, _, _, _, _⟩) F' N' ?hlm ?hpm ?_; (case hlm => first | omega | (simp only [List.length_drop, List.length_take]; omega)); (case hpm => omega))) | ((with_reducible show wpAny _ _ (subscriptTail _ (Expr.Slice none (some _) none _) _ _) _ _ _); (refine mk_ns (s := ⟨_, _, _, _, _⟩) (by assumption) F' N' ?hlm ?hqm ?_; (case hlm => first | omega | (simp only [List.length_drop, List.length_take]; omega)); (case hqm => omega))); intro _ _ _ _ _) | (k_here; (with_reducible show wpAny _ _ (truthy (Value.str _ _)) _ _ _); (refine mk_truthy_take ?hlm ?_; (case hlm => first | omega | (simp only [List.length_drop, List.length_take]; omega)))) | (k_here; (with_reducible show wpAny _ _ (truthy (Value.str _ _)) _ _ _); (refine mk_truthy_drop ?hlm ?_; (case hlm => first | omega | (simp only [List.length_drop, List.length_take]; omega)))) | (k_here; (with_reducible show wpAny _ _ (truthy (Value.str _ _)) _ _ _); (refine mk_truthy ?hlm ?_; (case hlm => first | omega | (simp only [List.length_drop, List.length_take]; omega)))) | (k_here; (with_reducible show wpAny _ _ (eval (Expr.BoolOp BoolOp.Or [Expr.Name _ _, Expr.Constant Const.none _ _] _) _) _ _ _); refine or_none ?_))); k_steps)
                all_goals (refine hR7 _ _ ?_; (try dsimp only [OwitFlow]); (try k_steps))
                all_goals
                  rename Fr gp L1 _ _ => FF
                  rename News gp L1 _ _ => NN
                  (with_reducible rename IntsAre (List.set _ _ _) _ => hI2)
                  refine CiStop.go ⟨_, _, _, _, rfl, fr_known _ FF (List.forall_mem_cons.mpr ⟨rfl, List.forall_mem_cons.mpr ⟨rfl, List.forall_mem_cons.mpr ⟨rfl, List.forall_mem_cons.mpr ⟨rfl, List.forall_mem_cons.mpr ⟨rfl, List.forall_mem_cons.mpr ⟨rfl, List.forall_mem_cons.mpr ⟨rfl, List.forall_mem_cons.mpr ⟨rfl, List.forall_mem_nil _⟩⟩⟩⟩⟩⟩⟩⟩), NN, List.forall_mem_cons.mpr ⟨hS3, List.forall_mem_cons.mpr ⟨hS4, List.forall_mem_nil _⟩⟩, R, _, c, _, _, _, _, t1, t2, _, tb, _, _, _, rfl, rfl, hS, hI2, ?_⟩
                  first
                  | exact InRow.next1 hk hRow (by assumption)
                  | exact InRow.next2 hk hRow (by assumption)


end
section
open PySem PySem.W PyProof.Rows PySem.Spec PySem.Calls
local macro_rules | `(tactic| walk_at "call builtin:list.pop") => `(tactic| (k_here; (with_reducible show wpAny _ _ (call (Value.builtin _) [Value.ref _, Value.int _ _]) _ _ _); refine CiStop.out ?_))
local macro_rules | `(tactic| walk_at "truthy ref") => `(tactic| (k_here; refine CiStop.out ?_))

theorem rcC_ch {w : World} {loose : List Str} {mean : ExcName → Option Value} {mg mb : Str → Option Value}
  {dp un : Nat} {gd : Option (List Code)} {cn : Str} {cs : Scope} {a : Addr} {ccd : Value} {cl : List (Str × Addr)} {outer : List Env} {A₀ : Around} {base h₀ : Heap} {L : Addr} {m : Str → Option Value} {s : Shared} {Q E : Value → Shared → Prop}
  {news : List (Addr × Obj)} {xi xd fx fd fl D cell pb fpb cdo : Addr} {oc co : Obj} {vs : Array Value} {kt : Tok} {k1 k2 k3 k4 k5 q1 q2 q3 q4 q5 q6 q7 kl : Tok} {qual : Str} {mn : Value} {ctv : Value} {ln : Int} {n : Nat} {c : Nat} {r : List (Nat × Tok)} {tc : Tok}
  (hc : c ≠ 10) (hr : r.length ≤ 3000)  (B : Below A₀ base outer h₀) (F : Fr h₀ L s.heap m) (X : (hd.heap_1 w.params).In h₀) (T : Top topProg loose mean mg mb h₀) (hk : cs.kind = .function)
  (N : News h₀ L s.heap ((xi, instObj 128 xd) :: (xd, dictOf [{ hash := PyData.keyHash w.params (Str.ofString "lineno"), key := Value.str (Str.ofString "lineno") k1, val := Value.int ln kl }, { hash := PyData.keyHash w.params (Str.ofString "instream"), key := Value.str (Str.ofString "instream") k2, val := Value.ref fx }, { hash := PyData.keyHash w.params (Str.ofString "whitespace"), key := Value.str (Str.ofString "whitespace") k3, val := Value.str (Str.ofString "\n\t\x0d ") k4 }, { hash := PyData.keyHash w.params (Str.ofString "pushback"), key := Value.str (Str.ofString "pushback") k5, val := Value.ref pb }] 4) :: (fx, instObj 128 fd) :: (fd, dictOf [{ hash := PyData.keyHash w.params (Str.ofString "lineno"), key := Value.str (Str.ofString "lineno") q1, val := Value.int 1 q6 }, { hash := PyData.keyHash w.params (Str.ofString "instream"), key := Value.str (Str.ofString "instream") q2, val := Value.none }, { hash := PyData.keyHash w.params (Str.ofString "whitespace"), key := Value.str (Str.ofString "whitespace") q3, val := Value.str (Str.ofString "\n\t\x0d ") q4 }, { hash := PyData.keyHash w.params (Str.ofString "pushback"), key := Value.str (Str.ofString "pushback") q5, val := Value.ref fpb }, { hash := PyData.keyHash w.params (Str.ofString "read"), key := Value.str (Str.ofString "read") q7, val := Value.ref fl }] 5) ::
    (fl, kla_obj (Str.ofString "<lambda>") qual
    { posonlyargs := [], args := [{ arg := Str.ofString "size", annotation := none, pos := { line := 179, col := 23, endLine := 179, endCol := 27 } }], vararg := none, kwonlyargs := [], kw_defaults := [], kwarg := none, defaults := [] }
    ((Expr.Name (Str.ofString "signs") { line := 179, col := 45, endLine := 179, endCol := 50 }).IfExp (((Expr.Name (Str.ofString "signs") { line := 179, col := 29, endLine := 179, endCol := 34 }).Attribute (Str.ofString "pop") { line := 179, col := 29, endLine := 179, endCol := 38 }).Call [Expr.Constant (Const.int 0) 0 { line := 179, col := 39, endLine := 179, endCol := 40 }] [] { line := 179, col := 29, endLine := 179, endCol := 41 }) (Expr.Constant (Const.str (Str.ofString "")) 0 { line := 179, col := 56, endLine := 179, endCol := 58 }) { line := 179, col := 29, endLine := 179, endCol := 58 })
    { kind := ScopeKind.function, names := [(Str.ofString "size", NameKind.local), (Str.ofString "signs", NameKind.free)], isGenerator := false, isCoroutine := false }
    [(Str.ofString "signs", cell)] mn cdo ctv) ::
    (cdo, co) :: (D, listOf (chars ((c, tc) :: r)) n) :: (cell, oc) :: news)) (cz : CodeHd base 152 148) (hoc : oc.data = .cell (some (.ref D))) (hco : co.data = .fields vs) (hvs : vs[1]? = some (.str qual kt))
  (sx : ∀ y ∈ [xi, xd, fx, fd, fl, cdo, D, cell], Sep y news) (e_xi_xd : NeN xi xd) (e_xi_fx : NeN xi fx) (e_xi_fd : NeN xi fd) (e_xi_fl : NeN xi fl) (e_xi_cdo : NeN xi cdo) (e_xi_D : NeN xi D) (e_xi_cell : NeN xi cell) (e_xd_fx : NeN xd fx) (e_xd_fd : NeN xd fd) (e_xd_fl : NeN xd fl) (e_xd_cdo : NeN xd cdo) (e_xd_D : NeN xd D) (e_xd_cell : NeN xd cell) (e_fx_fd : NeN fx fd) (e_fx_fl : NeN fx fl) (e_fx_cdo : NeN fx cdo) (e_fx_D : NeN fx D) (e_fx_cell : NeN fx cell) (e_fd_fl : NeN fd fl) (e_fd_cdo : NeN fd cdo) (e_fd_D : NeN fd D) (e_fd_cell : NeN fd cell) (e_fl_cdo : NeN fl cdo) (e_fl_D : NeN fl D) (e_fl_cell : NeN fl cell) (e_cdo_D : NeN cdo D) (e_cdo_cell : NeN cdo cell) (e_D_cell : NeN D cell)
  (hdp : dp + 4 < recursionLimit) (hun : un + 30 < cLine)
  (ret : ∀ kl' n' tr h' tk', Fr h₀ L h' m → News h₀ L h' ((xi, instObj 128 xd) :: (xd, dictOf [{ hash := PyData.keyHash w.params (Str.ofString "lineno"), key := Value.str (Str.ofString "lineno") k1, val := Value.int ln kl' }, { hash := PyData.keyHash w.params (Str.ofString "instream"), key := Value.str (Str.ofString "instream") k2, val := Value.ref fx }, { hash := PyData.keyHash w.params (Str.ofString "whitespace"), key := Value.str (Str.ofString "whitespace") k3, val := Value.str (Str.ofString "\n\t\x0d ") k4 }, { hash := PyData.keyHash w.params (Str.ofString "pushback"), key := Value.str (Str.ofString "pushback") k5, val := Value.ref pb }] 4) :: (fx, instObj 128 fd) :: (fd, dictOf [{ hash := PyData.keyHash w.params (Str.ofString "lineno"), key := Value.str (Str.ofString "lineno") q1, val := Value.int 1 q6 }, { hash := PyData.keyHash w.params (Str.ofString "instream"), key := Value.str (Str.ofString "instream") q2, val := Value.none }, { hash := PyData.keyHash w.params (Str.ofString "whitespace"), key := Value.str (Str.ofString "whitespace") q3, val := Value.str (Str.ofString "\n\t\x0d ") q4 }, { hash := PyData.keyHash w.params (Str.ofString "pushback"), key := Value.str (Str.ofString "pushback") q5, val := Value.ref fpb }, { hash := PyData.keyHash w.params (Str.ofString "read"), key := Value.str (Str.ofString "read") q7, val := Value.ref fl }] 5) ::
    (fl, kla_obj (Str.ofString "<lambda>") qual
    { posonlyargs := [], args := [{ arg := Str.ofString "size", annotation := none, pos := { line := 179, col := 23, endLine := 179, endCol := 27 } }], vararg := none, kwonlyargs := [], kw_defaults := [], kwarg := none, defaults := [] }
    ((Expr.Name (Str.ofString "signs") { line := 179, col := 45, endLine := 179, endCol := 50 }).IfExp (((Expr.Name (Str.ofString "signs") { line := 179, col := 29, endLine := 179, endCol := 34 }).Attribute (Str.ofString "pop") { line := 179, col := 29, endLine := 179, endCol := 38 }).Call [Expr.Constant (Const.int 0) 0 { line := 179, col := 39, endLine := 179, endCol := 40 }] [] { line := 179, col := 29, endLine := 179, endCol := 41 }) (Expr.Constant (Const.str (Str.ofString "")) 0 { line := 179, col := 56, endLine := 179, endCol := 58 }) { line := 179, col := 29, endLine := 179, endCol := 58 })
    { kind := ScopeKind.function, names := [(Str.ofString "size", NameKind.local), (Str.ofString "signs", NameKind.free)], isGenerator := false, isCoroutine := false }
    [(Str.ofString "signs", cell)] mn cdo ctv) ::
    (cdo, co) :: (D, listOf (chars r) n') :: (cell, oc) :: news) → Q (.str ⟨#[c]⟩ tr) { s with heap := h', toks := tk' }) :
  codeAny (model PySem.Challenge.rw_sc0080_02.row.prog w) (ktrTop dp un gd cn cs L a ccd cl outer) (.call (.ref 111) ⟨[.ref xi], []⟩) (fun r s' => match r with | .ok (.ret v) => Q v s' | .ok _ => False | .error e => E e s') s := by
  revert X
  k_fill
  intro X
  have x0 := sx xi (by simp)
  have x1 := sx xd (by simp)
  have x2 := sx fx (by simp)
  have x3 := sx fd (by simp)
  have x4 := sx fl (by simp)
  have x5 := sx cdo (by simp)
  have x6 := sx D (by simp)
  have x7 := sx cell (by simp)
  k_dflt (refine' code_defL ?k1 ?k2 ?k3 ?k4 ?k5 ?kA ?kF ?kK ?k6 ?k7 ?k8 ?k9 ?kB ?_ ?c2 ?c3 ?c4 ?c5)
  case kA => exact rfl
  case kF => exact rfl
  case kK => assumption
  case k1 => k_asm
  case k2 => k_asm
  case k3 => k_asm
  case k4 => exact N
  case k5 => k_asm
  case k6 => k_is
  case k7 => k_is
  case k8 => ktr_room
  case k9 => exact BindsTo.of_eq rfl
  case c5 => decide
  case kB => exact locs rfl
  case c2 => exact rfl
  case c3 => exact rfl
  case c4 => exact rfl
  intro g1 L1 h1 FG1 F1 N1 B1 X1 T1 lw1
  refine rebaseK (ex := [_, _, _, _, _, _, _, _]) F1 N1 B1 X1 T1 (news_in N (by intro p hp; repeat' first | exact hp | refine List.Mem.tail _ ?_)) (fun p hp => lw1 p (by repeat' first | exact hp | refine List.Mem.tail _ ?_)) (List.forall_mem_cons.mpr ⟨x0, List.forall_mem_cons.mpr ⟨x1, List.forall_mem_cons.mpr ⟨x2, List.forall_mem_cons.mpr ⟨x3, List.forall_mem_cons.mpr ⟨x4, List.forall_mem_cons.mpr ⟨x5, List.forall_mem_cons.mpr ⟨x6, List.forall_mem_cons.mpr ⟨x7, List.forall_mem_nil _⟩⟩⟩⟩⟩⟩⟩⟩) ?_
  intro gp Fp Np Bp Xp Tp Ip
  clear F1 N1 B1 X1 T1 FG1
  (try dsimp only)
  (try k_lift Bp)
  (try k_fold)
  k_steps
  repeat' (refine CiStop.go ?_; (first | (k_here; k_dflt (refine' truthy_chars (E := _) ?N ?m ?hr ?_; (case N => k_asm); (case m => k_mem); (case hr => first | exact Nat.zero_le _ | (simp only [List.length_cons]; omega) | omega); k_whole)) | (k_here; (with_reducible show wpAny _ _ (call (Value.builtin _) [Value.ref _, Value.int _ _]) _ _ _); k_dflt (refine' pop_chars ?F ?N ?hr ?U ?_; ((case F => k_asm); (case N => k_asm)); (case hr => assumption); (case U => k_upd); k_whole); intro h' F' N'; (try dsimp only [List.nil_append, List.cons_append] at N'))); k_steps)
  all_goals first
    | (exfalso; (with_reducible rename List.isEmpty _ = true => z9); cases z9; done)
    | (exfalso; (with_reducible rename List.isEmpty _ = false => z9); cases z9; done)
    | (exfalso; (with_reducible rename (_ == _) = true => z9); exact hc (nl_eq z9))
    | (exfalso; (with_reducible rename (_ == _) = true => z9); exact absurd z9 (by decide +kernel))
    | (exfalso; (with_reducible rename (_ == _) = false => z9); exact absurd z9 (by decide +kernel))
    | skip
  rename News h₀ L _ news => Nt
  rename News h₀ L _ (_ :: _) => NN
  refine' ret _ _ _ _ _ ?F (news_cons NN ?m0 (news_cons NN ?m1 (news_cons NN ?m2 (news_cons NN ?m3 (news_cons NN ?m4 (news_cons NN ?m5 (news_cons NN ?m6 (news_cons NN ?m7 Nt))))))))
  case F => k_asm
  case m0 => k_dflt k_mem
  case m1 => k_dflt k_mem
  case m2 => k_dflt k_mem
  case m3 => k_dflt k_mem
  case m4 => k_dflt k_mem
  case m5 => k_dflt k_mem
  case m6 => k_dflt k_mem
  case m7 => k_dflt k_mem

theorem rcC_nl {w : World} {loose : List Str} {mean : ExcName → Option Value} {mg mb : Str → Option Value}
  {dp un : Nat} {gd : Option (List Code)} {cn : Str} {cs : Scope} {a : Addr} {ccd : Value} {cl : List (Str × Addr)} {outer : List Env} {A₀ : Around} {base h₀ : Heap} {L : Addr} {m : Str → Option Value} {s : Shared} {Q E : Value → Shared → Prop}
  {news : List (Addr × Obj)} {xi xd fx fd fl D cell pb fpb cdo : Addr} {oc co : Obj} {vs : Array Value} {kt : Tok} {k1 k2 k3 k4 k5 q1 q2 q3 q4 q5 q6 q7 kl : Tok} {qual : Str} {mn : Value} {ctv : Value} {ln : Int} {n : Nat} {r : List (Nat × Tok)} {tc : Tok}
 (hr : r.length ≤ 3000)  (B : Below A₀ base outer h₀) (F : Fr h₀ L s.heap m) (X : (hd.heap_1 w.params).In h₀) (T : Top topProg loose mean mg mb h₀) (hk : cs.kind = .function)
  (N : News h₀ L s.heap ((xi, instObj 128 xd) :: (xd, dictOf [{ hash := PyData.keyHash w.params (Str.ofString "lineno"), key := Value.str (Str.ofString "lineno") k1, val := Value.int ln kl }, { hash := PyData.keyHash w.params (Str.ofString "instream"), key := Value.str (Str.ofString "instream") k2, val := Value.ref fx }, { hash := PyData.keyHash w.params (Str.ofString "whitespace"), key := Value.str (Str.ofString "whitespace") k3, val := Value.str (Str.ofString "\n\t\x0d ") k4 }, { hash := PyData.keyHash w.params (Str.ofString "pushback"), key := Value.str (Str.ofString "pushback") k5, val := Value.ref pb }] 4) :: (fx, instObj 128 fd) :: (fd, dictOf [{ hash := PyData.keyHash w.params (Str.ofString "lineno"), key := Value.str (Str.ofString "lineno") q1, val := Value.int 1 q6 }, { hash := PyData.keyHash w.params (Str.ofString "instream"), key := Value.str (Str.ofString "instream") q2, val := Value.none }, { hash := PyData.keyHash w.params (Str.ofString "whitespace"), key := Value.str (Str.ofString "whitespace") q3, val := Value.str (Str.ofString "\n\t\x0d ") q4 }, { hash := PyData.keyHash w.params (Str.ofString "pushback"), key := Value.str (Str.ofString "pushback") q5, val := Value.ref fpb }, { hash := PyData.keyHash w.params (Str.ofString "read"), key := Value.str (Str.ofString "read") q7, val := Value.ref fl }] 5) ::
    (fl, kla_obj (Str.ofString "<lambda>") qual
    { posonlyargs := [], args := [{ arg := Str.ofString "size", annotation := none, pos := { line := 179, col := 23, endLine := 179, endCol := 27 } }], vararg := none, kwonlyargs := [], kw_defaults := [], kwarg := none, defaults := [] }
    ((Expr.Name (Str.ofString "signs") { line := 179, col := 45, endLine := 179, endCol := 50 }).IfExp (((Expr.Name (Str.ofString "signs") { line := 179, col := 29, endLine := 179, endCol := 34 }).Attribute (Str.ofString "pop") { line := 179, col := 29, endLine := 179, endCol := 38 }).Call [Expr.Constant (Const.int 0) 0 { line := 179, col := 39, endLine := 179, endCol := 40 }] [] { line := 179, col := 29, endLine := 179, endCol := 41 }) (Expr.Constant (Const.str (Str.ofString "")) 0 { line := 179, col := 56, endLine := 179, endCol := 58 }) { line := 179, col := 29, endLine := 179, endCol := 58 })
    { kind := ScopeKind.function, names := [(Str.ofString "size", NameKind.local), (Str.ofString "signs", NameKind.free)], isGenerator := false, isCoroutine := false }
    [(Str.ofString "signs", cell)] mn cdo ctv) ::
    (cdo, co) :: (D, listOf (chars ((10, tc) :: r)) n) :: (cell, oc) :: news)) (cz : CodeHd base 152 148) (hoc : oc.data = .cell (some (.ref D))) (hco : co.data = .fields vs) (hvs : vs[1]? = some (.str qual kt))
  (sx : ∀ y ∈ [xi, xd, fx, fd, fl, cdo, D, cell], Sep y news) (e_xi_xd : NeN xi xd) (e_xi_fx : NeN xi fx) (e_xi_fd : NeN xi fd) (e_xi_fl : NeN xi fl) (e_xi_cdo : NeN xi cdo) (e_xi_D : NeN xi D) (e_xi_cell : NeN xi cell) (e_xd_fx : NeN xd fx) (e_xd_fd : NeN xd fd) (e_xd_fl : NeN xd fl) (e_xd_cdo : NeN xd cdo) (e_xd_D : NeN xd D) (e_xd_cell : NeN xd cell) (e_fx_fd : NeN fx fd) (e_fx_fl : NeN fx fl) (e_fx_cdo : NeN fx cdo) (e_fx_D : NeN fx D) (e_fx_cell : NeN fx cell) (e_fd_fl : NeN fd fl) (e_fd_cdo : NeN fd cdo) (e_fd_D : NeN fd D) (e_fd_cell : NeN fd cell) (e_fl_cdo : NeN fl cdo) (e_fl_D : NeN fl D) (e_fl_cell : NeN fl cell) (e_cdo_D : NeN cdo D) (e_cdo_cell : NeN cdo cell) (e_D_cell : NeN D cell)
  (hdp : dp + 4 < recursionLimit) (hun : un + 30 < cLine)
  (ret : ∀ kl' n' tr h' tk', Fr h₀ L h' m → News h₀ L h' ((xi, instObj 128 xd) :: (xd, dictOf [{ hash := PyData.keyHash w.params (Str.ofString "lineno"), key := Value.str (Str.ofString "lineno") k1, val := Value.int (ln + 1) kl' }, { hash := PyData.keyHash w.params (Str.ofString "instream"), key := Value.str (Str.ofString "instream") k2, val := Value.ref fx }, { hash := PyData.keyHash w.params (Str.ofString "whitespace"), key := Value.str (Str.ofString "whitespace") k3, val := Value.str (Str.ofString "\n\t\x0d ") k4 }, { hash := PyData.keyHash w.params (Str.ofString "pushback"), key := Value.str (Str.ofString "pushback") k5, val := Value.ref pb }] 4) :: (fx, instObj 128 fd) :: (fd, dictOf [{ hash := PyData.keyHash w.params (Str.ofString "lineno"), key := Value.str (Str.ofString "lineno") q1, val := Value.int 1 q6 }, { hash := PyData.keyHash w.params (Str.ofString "instream"), key := Value.str (Str.ofString "instream") q2, val := Value.none }, { hash := PyData.keyHash w.params (Str.ofString "whitespace"), key := Value.str (Str.ofString "whitespace") q3, val := Value.str (Str.ofString "\n\t\x0d ") q4 }, { hash := PyData.keyHash w.params (Str.ofString "pushback"), key := Value.str (Str.ofString "pushback") q5, val := Value.ref fpb }, { hash := PyData.keyHash w.params (Str.ofString "read"), key := Value.str (Str.ofString "read") q7, val := Value.ref fl }] 5) ::
    (fl, kla_obj (Str.ofString "<lambda>") qual
    { posonlyargs := [], args := [{ arg := Str.ofString "size", annotation := none, pos := { line := 179, col := 23, endLine := 179, endCol := 27 } }], vararg := none, kwonlyargs := [], kw_defaults := [], kwarg := none, defaults := [] }
    ((Expr.Name (Str.ofString "signs") { line := 179, col := 45, endLine := 179, endCol := 50 }).IfExp (((Expr.Name (Str.ofString "signs") { line := 179, col := 29, endLine := 179, endCol := 34 }).Attribute (Str.ofString "pop") { line := 179, col := 29, endLine := 179, endCol := 38 }).Call [Expr.Constant (Const.int 0) 0 { line := 179, col := 39, endLine := 179, endCol := 40 }] [] { line := 179, col := 29, endLine := 179, endCol := 41 }) (Expr.Constant (Const.str (Str.ofString "")) 0 { line := 179, col := 56, endLine := 179, endCol := 58 }) { line := 179, col := 29, endLine := 179, endCol := 58 })
    { kind := ScopeKind.function, names := [(Str.ofString "size", NameKind.local), (Str.ofString "signs", NameKind.free)], isGenerator := false, isCoroutine := false }
    [(Str.ofString "signs", cell)] mn cdo ctv) ::
    (cdo, co) :: (D, listOf (chars r) n') :: (cell, oc) :: news) → Q (.str ⟨#[10]⟩ tr) { s with heap := h', toks := tk' }) :
  codeAny (model PySem.Challenge.rw_sc0080_02.row.prog w) (ktrTop dp un gd cn cs L a ccd cl outer) (.call (.ref 111) ⟨[.ref xi], []⟩) (fun r s' => match r with | .ok (.ret v) => Q v s' | .ok _ => False | .error e => E e s') s := by
  revert X
  k_fill
  intro X
  have x0 := sx xi (by simp)
  have x1 := sx xd (by simp)
  have x2 := sx fx (by simp)
  have x3 := sx fd (by simp)
  have x4 := sx fl (by simp)
  have x5 := sx cdo (by simp)
  have x6 := sx D (by simp)
  have x7 := sx cell (by simp)
  k_dflt (refine' code_defL ?k1 ?k2 ?k3 ?k4 ?k5 ?kA ?kF ?kK ?k6 ?k7 ?k8 ?k9 ?kB ?_ ?c2 ?c3 ?c4 ?c5)
  case kA => exact rfl
  case kF => exact rfl
  case kK => assumption
  case k1 => k_asm
  case k2 => k_asm
  case k3 => k_asm
  case k4 => exact N
  case k5 => k_asm
  case k6 => k_is
  case k7 => k_is
  case k8 => ktr_room
  case k9 => exact BindsTo.of_eq rfl
  case c5 => decide
  case kB => exact locs rfl
  case c2 => exact rfl
  case c3 => exact rfl
  case c4 => exact rfl
  intro g1 L1 h1 FG1 F1 N1 B1 X1 T1 lw1
  refine rebaseK (ex := [_, _, _, _, _, _, _, _]) F1 N1 B1 X1 T1 (news_in N (by intro p hp; repeat' first | exact hp | refine List.Mem.tail _ ?_)) (fun p hp => lw1 p (by repeat' first | exact hp | refine List.Mem.tail _ ?_)) (List.forall_mem_cons.mpr ⟨x0, List.forall_mem_cons.mpr ⟨x1, List.forall_mem_cons.mpr ⟨x2, List.forall_mem_cons.mpr ⟨x3, List.forall_mem_cons.mpr ⟨x4, List.forall_mem_cons.mpr ⟨x5, List.forall_mem_cons.mpr ⟨x6, List.forall_mem_cons.mpr ⟨x7, List.forall_mem_nil _⟩⟩⟩⟩⟩⟩⟩⟩) ?_
  intro gp Fp Np Bp Xp Tp Ip
  clear F1 N1 B1 X1 T1 FG1
  (try dsimp only)
  (try k_lift Bp)
  (try k_fold)
  k_steps
  repeat' (refine CiStop.go ?_; (first | (k_here; k_dflt (refine' truthy_chars (E := _) ?N ?m ?hr ?_; (case N => k_asm); (case m => k_mem); (case hr => first | exact Nat.zero_le _ | (simp only [List.length_cons]; omega) | omega); k_whole)) | (k_here; (with_reducible show wpAny _ _ (call (Value.builtin _) [Value.ref _, Value.int _ _]) _ _ _); k_dflt (refine' pop_chars ?F ?N ?hr ?U ?_; ((case F => k_asm); (case N => k_asm)); (case hr => assumption); (case U => k_upd); k_whole); intro h' F' N'; (try dsimp only [List.nil_append, List.cons_append] at N'))); k_steps)
  all_goals first
    | (exfalso; (with_reducible rename List.isEmpty _ = true => z9); cases z9; done)
    | (exfalso; (with_reducible rename List.isEmpty _ = false => z9); cases z9; done)
    | (exfalso; (with_reducible rename (_ == _) = true => z9); exact hc (nl_eq z9))
    | (exfalso; (with_reducible rename (_ == _) = true => z9); exact absurd z9 (by decide +kernel))
    | (exfalso; (with_reducible rename (_ == _) = false => z9); exact absurd z9 (by decide +kernel))
    | skip
  rename News h₀ L _ news => Nt
  rename News h₀ L _ (_ :: _) => NN
  refine' ret _ _ _ _ _ ?F (news_cons NN ?m0 (news_cons NN ?m1 (news_cons NN ?m2 (news_cons NN ?m3 (news_cons NN ?m4 (news_cons NN ?m5 (news_cons NN ?m6 (news_cons NN ?m7 Nt))))))))
  case F => k_asm
  case m0 => k_dflt k_mem
  case m1 => k_dflt k_mem
  case m2 => k_dflt k_mem
  case m3 => k_dflt k_mem
  case m4 => k_dflt k_mem
  case m5 => k_dflt k_mem
  case m6 => k_dflt k_mem
  case m7 => k_dflt k_mem

theorem rcC_end {w : World} {loose : List Str} {mean : ExcName → Option Value} {mg mb : Str → Option Value}
  {dp un : Nat} {gd : Option (List Code)} {cn : Str} {cs : Scope} {a : Addr} {ccd : Value} {cl : List (Str × Addr)} {outer : List Env} {A₀ : Around} {base h₀ : Heap} {L : Addr} {m : Str → Option Value} {s : Shared} {Q E : Value → Shared → Prop}
  {news : List (Addr × Obj)} {xi xd fx fd fl D cell pb fpb cdo : Addr} {oc co : Obj} {vs : Array Value} {kt : Tok} {k1 k2 k3 k4 k5 q1 q2 q3 q4 q5 q6 q7 kl : Tok} {qual : Str} {mn : Value} {ctv : Value} {ln : Int} {n : Nat}
  (B : Below A₀ base outer h₀) (F : Fr h₀ L s.heap m) (X : (hd.heap_1 w.params).In h₀) (T : Top topProg loose mean mg mb h₀) (hk : cs.kind = .function)
  (N : News h₀ L s.heap ((xi, instObj 128 xd) :: (xd, dictOf [{ hash := PyData.keyHash w.params (Str.ofString "lineno"), key := Value.str (Str.ofString "lineno") k1, val := Value.int ln kl }, { hash := PyData.keyHash w.params (Str.ofString "instream"), key := Value.str (Str.ofString "instream") k2, val := Value.ref fx }, { hash := PyData.keyHash w.params (Str.ofString "whitespace"), key := Value.str (Str.ofString "whitespace") k3, val := Value.str (Str.ofString "\n\t\x0d ") k4 }, { hash := PyData.keyHash w.params (Str.ofString "pushback"), key := Value.str (Str.ofString "pushback") k5, val := Value.ref pb }] 4) :: (fx, instObj 128 fd) :: (fd, dictOf [{ hash := PyData.keyHash w.params (Str.ofString "lineno"), key := Value.str (Str.ofString "lineno") q1, val := Value.int 1 q6 }, { hash := PyData.keyHash w.params (Str.ofString "instream"), key := Value.str (Str.ofString "instream") q2, val := Value.none }, { hash := PyData.keyHash w.params (Str.ofString "whitespace"), key := Value.str (Str.ofString "whitespace") q3, val := Value.str (Str.ofString "\n\t\x0d ") q4 }, { hash := PyData.keyHash w.params (Str.ofString "pushback"), key := Value.str (Str.ofString "pushback") q5, val := Value.ref fpb }, { hash := PyData.keyHash w.params (Str.ofString "read"), key := Value.str (Str.ofString "read") q7, val := Value.ref fl }] 5) ::
    (fl, kla_obj (Str.ofString "<lambda>") qual
    { posonlyargs := [], args := [{ arg := Str.ofString "size", annotation := none, pos := { line := 179, col := 23, endLine := 179, endCol := 27 } }], vararg := none, kwonlyargs := [], kw_defaults := [], kwarg := none, defaults := [] }
    ((Expr.Name (Str.ofString "signs") { line := 179, col := 45, endLine := 179, endCol := 50 }).IfExp (((Expr.Name (Str.ofString "signs") { line := 179, col := 29, endLine := 179, endCol := 34 }).Attribute (Str.ofString "pop") { line := 179, col := 29, endLine := 179, endCol := 38 }).Call [Expr.Constant (Const.int 0) 0 { line := 179, col := 39, endLine := 179, endCol := 40 }] [] { line := 179, col := 29, endLine := 179, endCol := 41 }) (Expr.Constant (Const.str (Str.ofString "")) 0 { line := 179, col := 56, endLine := 179, endCol := 58 }) { line := 179, col := 29, endLine := 179, endCol := 58 })
    { kind := ScopeKind.function, names := [(Str.ofString "size", NameKind.local), (Str.ofString "signs", NameKind.free)], isGenerator := false, isCoroutine := false }
    [(Str.ofString "signs", cell)] mn cdo ctv) ::
    (cdo, co) :: (D, listOf (chars ([])) n) :: (cell, oc) :: news)) (cz : CodeHd base 152 148) (hoc : oc.data = .cell (some (.ref D))) (hco : co.data = .fields vs) (hvs : vs[1]? = some (.str qual kt))
  (sx : ∀ y ∈ [xi, xd, fx, fd, fl, cdo, D, cell], Sep y news) (e_xi_xd : NeN xi xd) (e_xi_fx : NeN xi fx) (e_xi_fd : NeN xi fd) (e_xi_fl : NeN xi fl) (e_xi_cdo : NeN xi cdo) (e_xi_D : NeN xi D) (e_xi_cell : NeN xi cell) (e_xd_fx : NeN xd fx) (e_xd_fd : NeN xd fd) (e_xd_fl : NeN xd fl) (e_xd_cdo : NeN xd cdo) (e_xd_D : NeN xd D) (e_xd_cell : NeN xd cell) (e_fx_fd : NeN fx fd) (e_fx_fl : NeN fx fl) (e_fx_cdo : NeN fx cdo) (e_fx_D : NeN fx D) (e_fx_cell : NeN fx cell) (e_fd_fl : NeN fd fl) (e_fd_cdo : NeN fd cdo) (e_fd_D : NeN fd D) (e_fd_cell : NeN fd cell) (e_fl_cdo : NeN fl cdo) (e_fl_D : NeN fl D) (e_fl_cell : NeN fl cell) (e_cdo_D : NeN cdo D) (e_cdo_cell : NeN cdo cell) (e_D_cell : NeN D cell)
  (hdp : dp + 4 < recursionLimit) (hun : un + 30 < cLine)
  (ret : ∀ kl' n' tr h' tk', Fr h₀ L h' m → News h₀ L h' ((xi, instObj 128 xd) :: (xd, dictOf [{ hash := PyData.keyHash w.params (Str.ofString "lineno"), key := Value.str (Str.ofString "lineno") k1, val := Value.int ln kl' }, { hash := PyData.keyHash w.params (Str.ofString "instream"), key := Value.str (Str.ofString "instream") k2, val := Value.ref fx }, { hash := PyData.keyHash w.params (Str.ofString "whitespace"), key := Value.str (Str.ofString "whitespace") k3, val := Value.str (Str.ofString "\n\t\x0d ") k4 }, { hash := PyData.keyHash w.params (Str.ofString "pushback"), key := Value.str (Str.ofString "pushback") k5, val := Value.ref pb }] 4) :: (fx, instObj 128 fd) :: (fd, dictOf [{ hash := PyData.keyHash w.params (Str.ofString "lineno"), key := Value.str (Str.ofString "lineno") q1, val := Value.int 1 q6 }, { hash := PyData.keyHash w.params (Str.ofString "instream"), key := Value.str (Str.ofString "instream") q2, val := Value.none }, { hash := PyData.keyHash w.params (Str.ofString "whitespace"), key := Value.str (Str.ofString "whitespace") q3, val := Value.str (Str.ofString "\n\t\x0d ") q4 }, { hash := PyData.keyHash w.params (Str.ofString "pushback"), key := Value.str (Str.ofString "pushback") q5, val := Value.ref fpb }, { hash := PyData.keyHash w.params (Str.ofString "read"), key := Value.str (Str.ofString "read") q7, val := Value.ref fl }] 5) ::
    (fl, kla_obj (Str.ofString "<lambda>") qual
    { posonlyargs := [], args := [{ arg := Str.ofString "size", annotation := none, pos := { line := 179, col := 23, endLine := 179, endCol := 27 } }], vararg := none, kwonlyargs := [], kw_defaults := [], kwarg := none, defaults := [] }
    ((Expr.Name (Str.ofString "signs") { line := 179, col := 45, endLine := 179, endCol := 50 }).IfExp (((Expr.Name (Str.ofString "signs") { line := 179, col := 29, endLine := 179, endCol := 34 }).Attribute (Str.ofString "pop") { line := 179, col := 29, endLine := 179, endCol := 38 }).Call [Expr.Constant (Const.int 0) 0 { line := 179, col := 39, endLine := 179, endCol := 40 }] [] { line := 179, col := 29, endLine := 179, endCol := 41 }) (Expr.Constant (Const.str (Str.ofString "")) 0 { line := 179, col := 56, endLine := 179, endCol := 58 }) { line := 179, col := 29, endLine := 179, endCol := 58 })
    { kind := ScopeKind.function, names := [(Str.ofString "size", NameKind.local), (Str.ofString "signs", NameKind.free)], isGenerator := false, isCoroutine := false }
    [(Str.ofString "signs", cell)] mn cdo ctv) ::
    (cdo, co) :: (D, listOf (chars []) n') :: (cell, oc) :: news) → Q (.str ⟨#[]⟩ tr) { s with heap := h', toks := tk' }) :
  codeAny (model PySem.Challenge.rw_sc0080_02.row.prog w) (ktrTop dp un gd cn cs L a ccd cl outer) (.call (.ref 111) ⟨[.ref xi], []⟩) (fun r s' => match r with | .ok (.ret v) => Q v s' | .ok _ => False | .error e => E e s') s := by
  revert X
  k_fill
  intro X
  have x0 := sx xi (by simp)
  have x1 := sx xd (by simp)
  have x2 := sx fx (by simp)
  have x3 := sx fd (by simp)
  have x4 := sx fl (by simp)
  have x5 := sx cdo (by simp)
  have x6 := sx D (by simp)
  have x7 := sx cell (by simp)
  k_dflt (refine' code_defL ?k1 ?k2 ?k3 ?k4 ?k5 ?kA ?kF ?kK ?k6 ?k7 ?k8 ?k9 ?kB ?_ ?c2 ?c3 ?c4 ?c5)
  case kA => exact rfl
  case kF => exact rfl
  case kK => assumption
  case k1 => k_asm
  case k2 => k_asm
  case k3 => k_asm
  case k4 => exact N
  case k5 => k_asm
  case k6 => k_is
  case k7 => k_is
  case k8 => ktr_room
  case k9 => exact BindsTo.of_eq rfl
  case c5 => decide
  case kB => exact locs rfl
  case c2 => exact rfl
  case c3 => exact rfl
  case c4 => exact rfl
  intro g1 L1 h1 FG1 F1 N1 B1 X1 T1 lw1
  refine rebaseK (ex := [_, _, _, _, _, _, _, _]) F1 N1 B1 X1 T1 (news_in N (by intro p hp; repeat' first | exact hp | refine List.Mem.tail _ ?_)) (fun p hp => lw1 p (by repeat' first | exact hp | refine List.Mem.tail _ ?_)) (List.forall_mem_cons.mpr ⟨x0, List.forall_mem_cons.mpr ⟨x1, List.forall_mem_cons.mpr ⟨x2, List.forall_mem_cons.mpr ⟨x3, List.forall_mem_cons.mpr ⟨x4, List.forall_mem_cons.mpr ⟨x5, List.forall_mem_cons.mpr ⟨x6, List.forall_mem_cons.mpr ⟨x7, List.forall_mem_nil _⟩⟩⟩⟩⟩⟩⟩⟩) ?_
  intro gp Fp Np Bp Xp Tp Ip
  clear F1 N1 B1 X1 T1 FG1
  (try dsimp only)
  (try k_lift Bp)
  (try k_fold)
  k_steps
  repeat' (refine CiStop.go ?_; (first | (k_here; k_dflt (refine' truthy_chars (E := _) ?N ?m ?hr ?_; (case N => k_asm); (case m => k_mem); (case hr => first | exact Nat.zero_le _ | (simp only [List.length_cons]; omega) | omega); k_whole)) | (k_here; (with_reducible show wpAny _ _ (call (Value.builtin _) [Value.ref _, Value.int _ _]) _ _ _); k_dflt (refine' pop_chars ?F ?N ?hr ?U ?_; ((case F => k_asm); (case N => k_asm)); (case hr => assumption); (case U => k_upd); k_whole); intro h' F' N'; (try dsimp only [List.nil_append, List.cons_append] at N'))); k_steps)
  all_goals first
    | (exfalso; (with_reducible rename List.isEmpty _ = true => z9); cases z9; done)
    | (exfalso; (with_reducible rename List.isEmpty _ = false => z9); cases z9; done)
    | (exfalso; (with_reducible rename (_ == _) = true => z9); exact hc (nl_eq z9))
    | (exfalso; (with_reducible rename (_ == _) = true => z9); exact absurd z9 (by decide +kernel))
    | (exfalso; (with_reducible rename (_ == _) = false => z9); exact absurd z9 (by decide +kernel))
    | skip
  rename News h₀ L _ news => Nt
  rename News h₀ L _ (_ :: _) => NN
  refine' ret _ _ _ _ _ ?F (news_cons NN ?m0 (news_cons NN ?m1 (news_cons NN ?m2 (news_cons NN ?m3 (news_cons NN ?m4 (news_cons NN ?m5 (news_cons NN ?m6 (news_cons NN ?m7 Nt))))))))
  case F => k_asm
  case m0 => k_dflt k_mem
  case m1 => k_dflt k_mem
  case m2 => k_dflt k_mem
  case m3 => k_dflt k_mem
  case m4 => k_dflt k_mem
  case m5 => k_dflt k_mem
  case m6 => k_dflt k_mem
  case m7 => k_dflt k_mem


end
section
local macro_rules | `(tactic| walk_at "no such key") => `(tactic| skip)
open PySem PySem.W PyProof.Rows PySem.Spec PySem.Calls
local macro_rules | `(tactic| walk_at "call type:list") => `(tactic| (k_here; (with_reducible show wpAny _ _ (call (Value.type _) [Value.str _ _]) _ _ _); refine CiStop.out ?_))
local macro_rules | `(tactic| walk_at "eval Lambda") => `(tactic| (k_here; refine CiStop.out ?_))
theorem lexer_c {w : World} {loose : List Str} {mean : ExcName → Option Value} {mg mb : Str → Option Value}
  {dp un : Nat} {gd : Option (List Code)} {cn : Str} {cs : Scope} {a : Addr} {ccd : Value} {cl : List (Str × Addr)} {outer : List Env} {A₀ : Around} {base h₀ : Heap} {L : Addr} {m : Str → Option Value} {s : Shared} {Q E : Value → Shared → Prop}
  {news : List (Addr × Obj)} {ps : Array Value} {c₁ : Addr} {o₁ : Obj} {x : Str} {tx : Tok} (hx : x.cps.size ≤ 2500)
  (B : Below A₀ base outer h₀) (F : Fr h₀ L s.heap m) (X : (hd.heap_1 w.params).In h₀) (T : Top topProg loose mean mg mb h₀) (hk : cs.kind = .function) (N : News h₀ L s.heap ((148, tabObj ps) :: (c₁, o₁) :: news))
  (c1 : CodeHd base 152 148) (tb : TabOk 179 16 (Str.ofString "_law_lexer.<locals>.<lambda>") ps c₁ o₁) (sepP : Sep 148 news) (sep1 : Sep c₁ news) (ne1 : NeN c₁ 148)
  (hdp : dp + 8 < recursionLimit) (hun : un + 60 < cLine)
  (ret : ∀ (xi xd fx fd fl D cell pb fpb cdo : Addr) (oc co : Obj) (vs : Array Value) (kt k1 k2 k3 k4 k5 q1 q2 q3 q4 q5 q6 q7 kl : Tok) (qual : Str) (mn ctv : Value) (n np : Nat) cts h' tk', cts.map (·.1) = x.cps.toList → oc.data = .cell (some (.ref D)) → co.data = .fields vs → vs[1]? = some (.str qual kt) → Fr h₀ L h' m →
    News h₀ L h' ((xi, instObj 128 xd) :: (xd, dictOf [{ hash := PyData.keyHash w.params (Str.ofString "lineno"), key := Value.str (Str.ofString "lineno") k1, val := Value.int 1 kl }, { hash := PyData.keyHash w.params (Str.ofString "instream"), key := Value.str (Str.ofString "instream") k2, val := Value.ref fx }, { hash := PyData.keyHash w.params (Str.ofString "whitespace"), key := Value.str (Str.ofString "whitespace") k3, val := Value.str (Str.ofString "\n\t\x0d ") k4 }, { hash := PyData.keyHash w.params (Str.ofString "pushback"), key := Value.str (Str.ofString "pushback") k5, val := Value.ref pb }] 4) :: (fx, instObj 128 fd) :: (fd, dictOf [{ hash := PyData.keyHash w.params (Str.ofString "lineno"), key := Value.str (Str.ofString "lineno") q1, val := Value.int 1 q6 }, { hash := PyData.keyHash w.params (Str.ofString "instream"), key := Value.str (Str.ofString "instream") q2, val := Value.none }, { hash := PyData.keyHash w.params (Str.ofString "whitespace"), key := Value.str (Str.ofString "whitespace") q3, val := Value.str (Str.ofString "\n\t\x0d ") q4 }, { hash := PyData.keyHash w.params (Str.ofString "pushback"), key := Value.str (Str.ofString "pushback") q5, val := Value.ref fpb }, { hash := PyData.keyHash w.params (Str.ofString "read"), key := Value.str (Str.ofString "read") q7, val := Value.ref fl }] 5) ::
    (fl, kla_obj (Str.ofString "<lambda>") qual
    { posonlyargs := [], args := [{ arg := Str.ofString "size", annotation := none, pos := { line := 179, col := 23, endLine := 179, endCol := 27 } }], vararg := none, kwonlyargs := [], kw_defaults := [], kwarg := none, defaults := [] }
    ((Expr.Name (Str.ofString "signs") { line := 179, col := 45, endLine := 179, endCol := 50 }).IfExp (((Expr.Name (Str.ofString "signs") { line := 179, col := 29, endLine := 179, endCol := 34 }).Attribute (Str.ofString "pop") { line := 179, col := 29, endLine := 179, endCol := 38 }).Call [Expr.Constant (Const.int 0) 0 { line := 179, col := 39, endLine := 179, endCol := 40 }] [] { line := 179, col := 29, endLine := 179, endCol := 41 }) (Expr.Constant (Const.str (Str.ofString "")) 0 { line := 179, col := 56, endLine := 179, endCol := 58 }) { line := 179, col := 29, endLine := 179, endCol := 58 })
    { kind := ScopeKind.function, names := [(Str.ofString "size", NameKind.local), (Str.ofString "signs", NameKind.free)], isGenerator := false, isCoroutine := false }
    [(Str.ofString "signs", cell)] mn cdo ctv) ::
    (cdo, co) :: (D, listOf (chars cts) n) :: (cell, oc) :: (pb, listOf #[] np) :: (148, tabObj #[rawInt 179, rawInt 16, .ref cdo]) :: news) →
    TabOk 179 16 (Str.ofString "_law_lexer.<locals>.<lambda>") #[rawInt 179, rawInt 16, .ref cdo] cdo co → (ps = #[] ∨ (cdo = c₁ ∧ co = o₁)) →
    (∀ y ∈ [xi, xd, fx, fd, fl, cdo, D, cell, pb], Sep y news) → (∀ y ∈ [xi, xd, fx, fd, fl, cdo, D, cell, pb], NeN y 148) → (NeN xi xd ∧ NeN xi fx ∧ NeN xi fd ∧ NeN xi fl ∧ NeN xi cdo ∧ NeN xi D ∧ NeN xi cell ∧ NeN xd fx ∧ NeN xd fd ∧ NeN xd fl ∧ NeN xd cdo ∧ NeN xd D ∧ NeN xd cell ∧ NeN fx fd ∧ NeN fx fl ∧ NeN fx cdo ∧ NeN fx D ∧ NeN fx cell ∧ NeN fd fl ∧ NeN fd cdo ∧ NeN fd D ∧ NeN fd cell ∧ NeN fl cdo ∧ NeN fl D ∧ NeN fl cell ∧ NeN cdo D ∧ NeN cdo cell ∧ NeN D cell ∧ NeN xi pb ∧ NeN xd pb ∧ NeN fx pb ∧ NeN fd pb ∧ NeN fl pb ∧ NeN cdo pb ∧ NeN D pb ∧ NeN cell pb) → Q (.ref xi) { s with heap := h', toks := tk' }) :
  wpAny (model PySem.Challenge.rw_sc0080_02.row.prog w) (ktrTop dp un gd cn cs L a ccd cl outer) (call (.ref 153) [.str x tx]) Q E s := by
  revert X
  k_fill
  intro X
  refine wpAny_call ?_
  k_dflt (refine' code_defC ?k1 ?k2 ?k3 ?k4 ?k5 ?kA ?kF ?kK ?k6 ?k7 ?k8 ?k9 ?kB ?kD ?_ ?c2 ?c3 ?c4)
  case kA => exact rfl
  case kF => exact rfl
  case kK => assumption
  case k1 => k_asm
  case k2 => k_asm
  case k3 => k_asm
  case k4 => exact N
  case k5 => k_asm
  case k6 => k_is
  case k7 => k_is
  case k8 => ktr_room
  case k9 => exact BindsTo.of_eq rfl
  case kB => exact rfl
  case kD => decide +kernel
  case c2 => exact rfl
  case c3 => exact rfl
  case c4 => exact rfl
  intro g1 L1 h1 tk1 cells1 FG1 F1 N1 Y1 B1 X1 T1 lw1
  k_cells Y1
  simp only [List.cons_append, List.nil_append] at N1
  refine rebaseK (ex := [_, _, _]) F1 N1 B1 X1 T1 (news_in N (by intro p hp; repeat' first | exact hp | refine List.Mem.tail _ ?_)) (fun p hp => lw1 p (by repeat' first | exact hp | refine List.Mem.tail _ ?_)) (List.forall_mem_cons.mpr ⟨sep_cell lw1 (by intro p hp; repeat' first | exact hp | refine List.Mem.tail _ ?_) (by omega), List.forall_mem_cons.mpr ⟨sepP, List.forall_mem_cons.mpr ⟨sep1, List.forall_mem_nil _⟩⟩⟩) ?_
  intro gp Fp Np Bp Xp Tp Ip
  clear F1 N1 B1 X1 T1 FG1
  (try dsimp only)
  (try k_lift Bp)
  (try k_fold)
  k_steps
  repeat' (refine CiStop.go ?_; (first | (k_here; kn_here; k_dflt (refine' kla_eval ?d0 ?_; (case d0 => exact rfl)); (k_dflt (refine' lam_any ?F ?N ?T ?C ?cd ?U ?U2 ?t ?hl ?hc ?hq ?cl ?_; ((case F => k_asm); (case N => k_asm)); (case T => k_asm); (case cd => exact rfl); (case C => kn_code); (case t => assumption); (case U => k_updF); (case U2 => k_updF); (case hl => rfl); (case hc => rfl); (case hq => kernel_rfl!); (case cl => exact rfl); k_whole); intro f' c' oc' vs' t' ct' h' tk' F' N' d1' d2' d3' hw' s1' n1' l1 l2; (try dsimp only at N'); (try k_lt l1); (have _ := ne_lt2 l2); clear l2)) | (k_here; (with_reducible show wpAny _ _ (call (Value.type _) [Value.str _ _]) _ _ _); k_dflt (refine' list_chars rfl ?F ?N ?hx ?_; ((case F => k_asm); (case N => k_asm)); (case hx => omega); k_whole); intro D' n' cts' h' tk' hc' F' N' l1; (try k_lt l1))); k_steps)
  rename News h₀ L _ news => Nt
  rename News h₀ L _ (_ :: _) => NN
  rename News gp _ _ _ => NP
  refine' ret _ _ _ _ _ _ _ _ _ _ _ _ _ _ _ _ _ _ _ _ _ _ _ _ _ _ _ _ _ _ _ _  _ _ _ ?hc ?hoc ?hco ?hvs ?F (news_cons NN ?m0 (news_cons NN ?m1 (news_cons NN ?m2 (news_cons NN ?m3 (news_cons NN ?m4 (news_cons NN ?m5 (news_cons NN ?m6 (news_cons NN ?m7 (news_cons NN ?m8 (news_cons NN ?m9 Nt)))))))))) ?T ?hw ?sx ?sn ?nes
  case m0 => k_dflt k_mem
  case m1 => k_dflt k_mem
  case m2 => k_dflt k_mem
  case m3 => k_dflt k_mem
  case m4 => k_dflt k_mem
  case m5 => k_dflt k_mem
  case m6 => k_dflt k_mem
  case m7 => k_dflt k_mem
  case m8 => k_dflt k_mem
  case m9 => k_dflt k_mem
  case hc => assumption
  case hoc => assumption
  case hco => assumption
  case hvs => assumption
  case F => k_asm
  case T => assumption
  case hw => assumption
  case sx => exact List.forall_mem_cons.mpr ⟨InBase.sep (x := (_, _)) Ip NP (by k_dflt k_mem), List.forall_mem_cons.mpr ⟨InBase.sep (x := (_, _)) Ip NP (by k_dflt k_mem), List.forall_mem_cons.mpr ⟨InBase.sep (x := (_, _)) Ip NP (by k_dflt k_mem), List.forall_mem_cons.mpr ⟨InBase.sep (x := (_, _)) Ip NP (by k_dflt k_mem), List.forall_mem_cons.mpr ⟨InBase.sep (x := (_, _)) Ip NP (by k_dflt k_mem), List.forall_mem_cons.mpr ⟨InBase.sep (x := (_, _)) Ip NP (by k_dflt k_mem), List.forall_mem_cons.mpr ⟨InBase.sep (x := (_, _)) Ip NP (by k_dflt k_mem), List.forall_mem_cons.mpr ⟨InBase.sep (x := (_, _)) Ip NP (by k_dflt k_mem), List.forall_mem_cons.mpr ⟨InBase.sep (x := (_, _)) Ip NP (by k_dflt k_mem), List.forall_mem_nil _⟩⟩⟩⟩⟩⟩⟩⟩⟩
  case sn => exact List.forall_mem_cons.mpr ⟨⟨by k_ne⟩, List.forall_mem_cons.mpr ⟨⟨by k_ne⟩, List.forall_mem_cons.mpr ⟨⟨by k_ne⟩, List.forall_mem_cons.mpr ⟨⟨by k_ne⟩, List.forall_mem_cons.mpr ⟨⟨by k_ne⟩, List.forall_mem_cons.mpr ⟨⟨by k_ne⟩, List.forall_mem_cons.mpr ⟨⟨by k_ne⟩, List.forall_mem_cons.mpr ⟨⟨by k_ne⟩, List.forall_mem_cons.mpr ⟨⟨by k_ne⟩, List.forall_mem_nil _⟩⟩⟩⟩⟩⟩⟩⟩⟩
  case nes => exact ⟨⟨by k_ne⟩, ⟨by k_ne⟩, ⟨by k_ne⟩, ⟨by k_ne⟩, ⟨by k_ne⟩, ⟨by k_ne⟩, ⟨by k_ne⟩, ⟨by k_ne⟩, ⟨by k_ne⟩, ⟨by k_ne⟩, ⟨by k_ne⟩, ⟨by k_ne⟩, ⟨by k_ne⟩, ⟨by k_ne⟩, ⟨by k_ne⟩, ⟨by k_ne⟩, ⟨by k_ne⟩, ⟨by k_ne⟩, ⟨by k_ne⟩, ⟨by k_ne⟩, ⟨by k_ne⟩, ⟨by k_ne⟩, ⟨by k_ne⟩, ⟨by k_ne⟩, ⟨by k_ne⟩, ⟨by k_ne⟩, ⟨by k_ne⟩, ⟨by k_ne⟩, ⟨by k_ne⟩, ⟨by k_ne⟩, ⟨by k_ne⟩, ⟨by k_ne⟩, ⟨by k_ne⟩, ⟨by k_ne⟩, ⟨by k_ne⟩, ⟨by k_ne⟩⟩


end
section
open PySem PySem.W PyProof.Rows PySem.Spec PySem.Calls
local macro_rules | `(tactic| walk_at "exec For Name Name cons nil") => `(tactic| (k_here; refine CiStop.out ?_))
theorem fr_congr {h₀ h : Heap} {L : Addr} {m m' : Str → Option Value} (F : Fr h₀ L h m) (e : ∀ y, m y = m' y) : Fr h₀ L h m' := by
  have : m = m' := funext e
  rw [← this]; exact F
theorem ci_makeN {prog : Program} {w : World} {A : Around} {E : Value → Shared → Prop} {s : Shared} {q f x : Addr} {t : Tok} {h₀ : Heap} {L : Addr} {m : Str → Option Value} {news : List (Addr × Obj)} {Q : Value → Shared → Prop} (F : Fr h₀ L s.heap m) (N : News h₀ L s.heap news) (hq : (q, methodObj (.ref f) (.ref x)) ∈ news)
    (h : ∀ (I qz : Addr) h', qz = q → Fr h₀ L h' m → News h₀ L h' ((I, ciObj q t) :: news) → (∀ p ∈ news, p.1 < I) → Q (.ref I) { s with heap := h' }) :
    wpAny (model prog w) A (call (.builtin "iter") [.ref q, .str (Str.ofString "") t]) Q E s := ci_make F N hq fun I h' F' N' l => h I q h' rfl F' N' l
theorem codeAny_ret {M : Model} {A : Around} {c : Code} {R : Result → Shared → Prop} {s : Shared} (h : codeAny M A c (fun r s' => match r with | .ok (.ret v) => R (.ok (.ret v)) s' | .ok _ => False | .error e => (fun (_ : Value) (_ : Shared) => False) e s') s) : codeAny M A c R s :=
  codeAny_mono h fun r s' hr => match r, hr with
    | .ok (.ret _), hr => hr
    | .ok .next, hr => hr.elim
    | .ok .brk, hr => hr.elim
    | .ok .cont, hr => hr.elim
    | .error _, hr => hr.elim
theorem e46 : Str.ofString "." = ⟨#[46]⟩ := by decide +kernel
theorem e92 : Str.ofString "\\" = ⟨#[92]⟩ := by decide +kernel
theorem step_size {tok : Str} {c : Nat} : (tok ++ (⟨#[c]⟩ : Str)).cps.size = tok.cps.size + 1 := by
  show (tok.cps ++ #[c]).size = _
  simp
theorem step_tok {tok : Str} {c : Nat} {w W : List Nat} (h : tok.cps.toList ++ (c :: w) = W) : (tok ++ (⟨#[c]⟩ : Str)).cps.toList ++ w = W := by
  show (tok.cps ++ #[c]).toList ++ w = _
  rw [← h]; simp
theorem plain_ws {c : Nat} (h : c = 46 ∨ c = 97 ∨ c = 65) : (Builtin.Str.occurrences (Str.ofString "\n\t\x0d ") { cps := #[c] } 0 (Str.ofString "\n\t\x0d ").length 1).isEmpty = true := by rcases h with rfl | rfl | rfl <;> decide +kernel
theorem plain_bs {c : Nat} (h : c = 46 ∨ c = 97 ∨ c = 65) : (({ cps := #[c] } : Str) == Str.ofString "\\") = false := by rcases h with rfl | rfl | rfl <;> decide +kernel
theorem plain_ne {c : Nat} : ({ cps := #[c] } : Str) ≠ { cps := #[] } := by intro h; cases h
theorem lookup_self {y : Str} {v : Value} (h : ¬ y = Str.ofString "self") : List.lookup y [(Str.ofString "self", v)] = none := by
  have : (y == Str.ofString "self") = false := by simpa using h
  simp [List.lookup, this]
local macro_rules | `(tactic| walk_at "call builtin:iter") => `(tactic| (k_here; (with_reducible show wpAny _ _ (call (Value.builtin "iter") [Value.ref _, Value.str _ _]) _ _ _); refine CiStop.out ?_))
local macro_rules | `(tactic| walk_at "call ref") => `(tactic| (k_here; (k_dflt (show wpAny _ _ (call (Value.ref 111) [Value.ref xi]) _ _ _)); refine CiStop.out ?_))
local macro_rules | `(tactic| walk_at "inplaceOp Add str str") => `(tactic| (k_here; refine CiStop.out ?_))
set_option autoImplicit false in
inductive G_g_J1 (s : Shared) (wd : List Nat) (rst : List (Nat × Tok)) (ln : Int) (d : Int) (gp : Heap) (L1 : Addr) (Iz : Addr) (xi : Addr) (xd : Addr) (w : World) (k1 : Tok) (k2 : Tok) (fx : Addr) (k3 : Tok) (k4 : Tok) (k5 : Tok) (pb : Addr) (fd : Addr) (q1 : Tok) (q6 : Tok) (q2 : Tok) (q3 : Tok) (q4 : Tok) (q5 : Tok) (fpb : Addr) (q7 : Tok) (fl : Addr) (qual : Str) (cell : Addr) (mn : Value) (cdo : Addr) (ctv : Value) (co : Obj) (D : Addr) (oc : Obj) (np : Nat) (qz : Addr) (k : Nat) (s' : Shared) : Prop
  | mk (cts' : List (Nat × Tok)) (ln' : Int) (kl' : Tok) (nD : Nat) (tt tI : Tok) (mch : Option Value) (d' : Int) (hp : Heap) (tk : Nat) (j0 : s' = { s with heap := hp, toks := tk }) (j1 : k = cts'.length) (j2 : cts'.length ≤ 3000) (j3 : Outer2 cts' wd rst d') (j4 : ln' + d' = ln + d) (j5 : Fr gp L1 hp (fun y => if y = Str.ofString "ch" then mch else if y = Str.ofString "token" then some (Value.str (Str.ofString "") tt) else if y = Str.ofString "fiter" then some (Value.ref Iz) else if y = Str.ofString "self" then some (Value.ref xi) else none)) (j6 : News gp L1 hp ((xi, instObj 128 xd) :: (xd, dictOf [{ hash := PyData.keyHash w.params (Str.ofString "lineno"), key := Value.str (Str.ofString "lineno") k1, val := Value.int ln' kl' }, { hash := PyData.keyHash w.params (Str.ofString "instream"), key := Value.str (Str.ofString "instream") k2, val := Value.ref fx }, { hash := PyData.keyHash w.params (Str.ofString "whitespace"), key := Value.str (Str.ofString "whitespace") k3, val := Value.str (Str.ofString "\n\t\x0d ") k4 }, { hash := PyData.keyHash w.params (Str.ofString "pushback"), key := Value.str (Str.ofString "pushback") k5, val := Value.ref pb }] 4) :: (fx, instObj 128 fd) :: (fd, dictOf [{ hash := PyData.keyHash w.params (Str.ofString "lineno"), key := Value.str (Str.ofString "lineno") q1, val := Value.int 1 q6 }, { hash := PyData.keyHash w.params (Str.ofString "instream"), key := Value.str (Str.ofString "instream") q2, val := Value.none }, { hash := PyData.keyHash w.params (Str.ofString "whitespace"), key := Value.str (Str.ofString "whitespace") q3, val := Value.str (Str.ofString "\n\t\x0d ") q4 }, { hash := PyData.keyHash w.params (Str.ofString "pushback"), key := Value.str (Str.ofString "pushback") q5, val := Value.ref fpb }, { hash := PyData.keyHash w.params (Str.ofString "read"), key := Value.str (Str.ofString "read") q7, val := Value.ref fl }] 5) ::     (fl, kla_obj (Str.ofString "<lambda>") qual     { posonlyargs := [], args := [{ arg := Str.ofString "size", annotation := none, pos := { line := 179, col := 23, endLine := 179, endCol := 27 } }], vararg := none, kwonlyargs := [], kw_defaults := [], kwarg := none, defaults := [] }     ((Expr.Name (Str.ofString "signs") { line := 179, col := 45, endLine := 179, endCol := 50 }).IfExp (((Expr.Name (Str.ofString "signs") { line := 179, col := 29, endLine := 179, endCol := 34 }).Attribute (Str.ofString "pop") { line := 179, col := 29, endLine := 179, endCol := 38 }).Call [Expr.Constant (Const.int 0) 0 { line := 179, col := 39, endLine := 179, endCol := 40 }] [] { line := 179, col := 29, endLine := 179, endCol := 41 }) (Expr.Constant (Const.str (Str.ofString "")) 0 { line := 179, col := 56, endLine := 179, endCol := 58 }) { line := 179, col := 29, endLine := 179, endCol := 58 })     { kind := ScopeKind.function, names := [(Str.ofString "size", NameKind.local), (Str.ofString "signs", NameKind.free)], isGenerator := false, isCoroutine := false }     [(Str.ofString "signs", cell)] mn cdo ctv) ::     (cdo, co) :: (D, listOf (chars cts') nD) :: (cell, oc) :: (pb, listOf #[] np) :: (Iz, ciObj qz tI) :: (qz, methodObj (.ref 111) (.ref xi)) :: [])) : G_g_J1 s wd rst ln d gp L1 Iz xi xd w k1 k2 fx k3 k4 k5 pb fd q1 q6 q2 q3 q4 q5 fpb q7 fl qual cell mn cdo ctv co D oc np qz k s'
set_option autoImplicit false in
inductive G_g_J2 (s : Shared) (rst : List (Nat × Tok)) (ln : Int) (d : Int) (wv : List Nat) (gp : Heap) (L1 : Addr) (Iz : Addr) (xi : Addr) (xd : Addr) (w : World) (k1 : Tok) (k2 : Tok) (fx : Addr) (k3 : Tok) (k4 : Tok) (k5 : Tok) (pb : Addr) (fd : Addr) (q1 : Tok) (q6 : Tok) (q2 : Tok) (q3 : Tok) (q4 : Tok) (q5 : Tok) (fpb : Addr) (q7 : Tok) (fl : Addr) (qual : Str) (cell : Addr) (mn : Value) (cdo : Addr) (ctv : Value) (co : Obj) (D : Addr) (oc : Obj) (np : Nat) (qz : Addr) (k : Nat) (s' : Shared) : Prop
  | mk (cts' : List (Nat × Tok)) (ln' : Int) (kl' : Tok) (nD : Nat) (tok : Str) (tt tI : Tok) (chv : Value) (w' : List Nat) (d' : Int) (hp : Heap) (tk : Nat) (j0 : s' = { s with heap := hp, toks := tk }) (j1 : k = cts'.length) (j2 : cts'.length ≤ 3000) (j3 : tok.cps.size + cts'.length ≤ 3000) (j4 : Inner2 cts' w' rst d') (j5 : ln' + d' = ln + d) (j6 : tok.cps.toList ++ w' = 46 :: wv) (j7 : Fr gp L1 hp (fun y => if y = Str.ofString "ch" then some chv else if y = Str.ofString "token" then some (Value.str tok tt) else if y = Str.ofString "fiter" then some (Value.ref Iz) else if y = Str.ofString "self" then some (Value.ref xi) else none)) (j8 : News gp L1 hp ((xi, instObj 128 xd) :: (xd, dictOf [{ hash := PyData.keyHash w.params (Str.ofString "lineno"), key := Value.str (Str.ofString "lineno") k1, val := Value.int ln' kl' }, { hash := PyData.keyHash w.params (Str.ofString "instream"), key := Value.str (Str.ofString "instream") k2, val := Value.ref fx }, { hash := PyData.keyHash w.params (Str.ofString "whitespace"), key := Value.str (Str.ofString "whitespace") k3, val := Value.str (Str.ofString "\n\t\x0d ") k4 }, { hash := PyData.keyHash w.params (Str.ofString "pushback"), key := Value.str (Str.ofString "pushback") k5, val := Value.ref pb }] 4) :: (fx, instObj 128 fd) :: (fd, dictOf [{ hash := PyData.keyHash w.params (Str.ofString "lineno"), key := Value.str (Str.ofString "lineno") q1, val := Value.int 1 q6 }, { hash := PyData.keyHash w.params (Str.ofString "instream"), key := Value.str (Str.ofString "instream") q2, val := Value.none }, { hash := PyData.keyHash w.params (Str.ofString "whitespace"), key := Value.str (Str.ofString "whitespace") q3, val := Value.str (Str.ofString "\n\t\x0d ") q4 }, { hash := PyData.keyHash w.params (Str.ofString "pushback"), key := Value.str (Str.ofString "pushback") q5, val := Value.ref fpb }, { hash := PyData.keyHash w.params (Str.ofString "read"), key := Value.str (Str.ofString "read") q7, val := Value.ref fl }] 5) ::             (fl, kla_obj (Str.ofString "<lambda>") qual             { posonlyargs := [], args := [{ arg := Str.ofString "size", annotation := none, pos := { line := 179, col := 23, endLine := 179, endCol := 27 } }], vararg := none, kwonlyargs := [], kw_defaults := [], kwarg := none, defaults := [] }             ((Expr.Name (Str.ofString "signs") { line := 179, col := 45, endLine := 179, endCol := 50 }).IfExp (((Expr.Name (Str.ofString "signs") { line := 179, col := 29, endLine := 179, endCol := 34 }).Attribute (Str.ofString "pop") { line := 179, col := 29, endLine := 179, endCol := 38 }).Call [Expr.Constant (Const.int 0) 0 { line := 179, col := 39, endLine := 179, endCol := 40 }] [] { line := 179, col := 29, endLine := 179, endCol := 41 }) (Expr.Constant (Const.str (Str.ofString "")) 0 { line := 179, col := 56, endLine := 179, endCol := 58 }) { line := 179, col := 29, endLine := 179, endCol := 58 })             { kind := ScopeKind.function, names := [(Str.ofString "size", NameKind.local), (Str.ofString "signs", NameKind.free)], isGenerator := false, isCoroutine := false }             [(Str.ofString "signs", cell)] mn cdo ctv) ::             (cdo, co) :: (D, listOf (chars cts') nD) :: (cell, oc) :: (pb, listOf #[] np) :: (Iz, ciObj qz tI) :: (qz, methodObj (.ref 111) (.ref xi)) :: [])) : G_g_J2 s rst ln d wv gp L1 Iz xi xd w k1 k2 fx k3 k4 k5 pb fd q1 q6 q2 q3 q4 q5 fpb q7 fl qual cell mn cdo ctv co D oc np qz k s'
theorem gt_c {w : World} {loose : List Str} {mean : ExcName → Option Value} {mg mb : Str → Option Value}
  {dp un : Nat} {gd : Option (List Code)} {cn : Str} {cs : Scope} {a : Addr} {ccd : Value} {cl : List (Str × Addr)} {outer : List Env} {A₀ : Around} {base h₀ : Heap} {L : Addr} {m : Str → Option Value} {s : Shared} {Q E : Value → Shared → Prop}
  {news : List (Addr × Obj)} {xi xd fx fd fl D cell pb fpb cdo : Addr} {oc co : Obj} {vs : Array Value} {kt : Tok} {k1 k2 k3 k4 k5 q1 q2 q3 q4 q5 q6 q7 kl : Tok} {qual : Str} {mn : Value} {ctv : Value} {ln : Int} {n : Nat} {np : Nat} {cts : List (Nat × Tok)} {wd : List Nat} {rst : List (Nat × Tok)} {d : Int} (hcl : cts.length ≤ 3000) (hO : Outer2 cts wd rst d)
  (B : Below A₀ base outer h₀) (F : Fr h₀ L s.heap m) (X : (hd.heap_1 w.params).In h₀) (T : Top topProg loose mean mg mb h₀) (hk : cs.kind = .function)
  (N : News h₀ L s.heap ((xi, instObj 128 xd) :: (xd, dictOf [{ hash := PyData.keyHash w.params (Str.ofString "lineno"), key := Value.str (Str.ofString "lineno") k1, val := Value.int ln kl }, { hash := PyData.keyHash w.params (Str.ofString "instream"), key := Value.str (Str.ofString "instream") k2, val := Value.ref fx }, { hash := PyData.keyHash w.params (Str.ofString "whitespace"), key := Value.str (Str.ofString "whitespace") k3, val := Value.str (Str.ofString "\n\t\x0d ") k4 }, { hash := PyData.keyHash w.params (Str.ofString "pushback"), key := Value.str (Str.ofString "pushback") k5, val := Value.ref pb }] 4) :: (fx, instObj 128 fd) :: (fd, dictOf [{ hash := PyData.keyHash w.params (Str.ofString "lineno"), key := Value.str (Str.ofString "lineno") q1, val := Value.int 1 q6 }, { hash := PyData.keyHash w.params (Str.ofString "instream"), key := Value.str (Str.ofString "instream") q2, val := Value.none }, { hash := PyData.keyHash w.params (Str.ofString "whitespace"), key := Value.str (Str.ofString "whitespace") q3, val := Value.str (Str.ofString "\n\t\x0d ") q4 }, { hash := PyData.keyHash w.params (Str.ofString "pushback"), key := Value.str (Str.ofString "pushback") q5, val := Value.ref fpb }, { hash := PyData.keyHash w.params (Str.ofString "read"), key := Value.str (Str.ofString "read") q7, val := Value.ref fl }] 5) ::
    (fl, kla_obj (Str.ofString "<lambda>") qual
    { posonlyargs := [], args := [{ arg := Str.ofString "size", annotation := none, pos := { line := 179, col := 23, endLine := 179, endCol := 27 } }], vararg := none, kwonlyargs := [], kw_defaults := [], kwarg := none, defaults := [] }
    ((Expr.Name (Str.ofString "signs") { line := 179, col := 45, endLine := 179, endCol := 50 }).IfExp (((Expr.Name (Str.ofString "signs") { line := 179, col := 29, endLine := 179, endCol := 34 }).Attribute (Str.ofString "pop") { line := 179, col := 29, endLine := 179, endCol := 38 }).Call [Expr.Constant (Const.int 0) 0 { line := 179, col := 39, endLine := 179, endCol := 40 }] [] { line := 179, col := 29, endLine := 179, endCol := 41 }) (Expr.Constant (Const.str (Str.ofString "")) 0 { line := 179, col := 56, endLine := 179, endCol := 58 }) { line := 179, col := 29, endLine := 179, endCol := 58 })
    { kind := ScopeKind.function, names := [(Str.ofString "size", NameKind.local), (Str.ofString "signs", NameKind.free)], isGenerator := false, isCoroutine := false }
    [(Str.ofString "signs", cell)] mn cdo ctv) ::
    (cdo, co) :: (D, listOf (chars cts) n) :: (cell, oc) :: (pb, listOf #[] np) :: news)) (cz : CodeHd base 152 148) (hoc : oc.data = .cell (some (.ref D))) (hco : co.data = .fields vs) (hvs : vs[1]? = some (.str qual kt))
  (sx : ∀ y ∈ [xi, xd, fx, fd, fl, cdo, D, cell, pb], Sep y news) (e_xi_xd : NeN xi xd) (e_xi_fx : NeN xi fx) (e_xi_fd : NeN xi fd) (e_xi_fl : NeN xi fl) (e_xi_cdo : NeN xi cdo) (e_xi_D : NeN xi D) (e_xi_cell : NeN xi cell) (e_xd_fx : NeN xd fx) (e_xd_fd : NeN xd fd) (e_xd_fl : NeN xd fl) (e_xd_cdo : NeN xd cdo) (e_xd_D : NeN xd D) (e_xd_cell : NeN xd cell) (e_fx_fd : NeN fx fd) (e_fx_fl : NeN fx fl) (e_fx_cdo : NeN fx cdo) (e_fx_D : NeN fx D) (e_fx_cell : NeN fx cell) (e_fd_fl : NeN fd fl) (e_fd_cdo : NeN fd cdo) (e_fd_D : NeN fd D) (e_fd_cell : NeN fd cell) (e_fl_cdo : NeN fl cdo) (e_fl_D : NeN fl D) (e_fl_cell : NeN fl cell) (e_cdo_D : NeN cdo D) (e_cdo_cell : NeN cdo cell) (e_D_cell : NeN D cell) (e_xi_pb : NeN xi pb) (e_xd_pb : NeN xd pb) (e_fx_pb : NeN fx pb) (e_fd_pb : NeN fd pb) (e_fl_pb : NeN fl pb) (e_cdo_pb : NeN cdo pb) (e_D_pb : NeN D pb) (e_cell_pb : NeN cell pb)
  (hdp : dp + 8 < recursionLimit) (hun : un + 60 < cLine)
  (ret : ∀ tok' tt' kl' n' h' tk', tok'.cps.toList = wd → Fr h₀ L h' m → News h₀ L h' ((xi, instObj 128 xd) :: (xd, dictOf [{ hash := PyData.keyHash w.params (Str.ofString "lineno"), key := Value.str (Str.ofString "lineno") k1, val := Value.int (ln + d) kl' }, { hash := PyData.keyHash w.params (Str.ofString "instream"), key := Value.str (Str.ofString "instream") k2, val := Value.ref fx }, { hash := PyData.keyHash w.params (Str.ofString "whitespace"), key := Value.str (Str.ofString "whitespace") k3, val := Value.str (Str.ofString "\n\t\x0d ") k4 }, { hash := PyData.keyHash w.params (Str.ofString "pushback"), key := Value.str (Str.ofString "pushback") k5, val := Value.ref pb }] 4) :: (fx, instObj 128 fd) :: (fd, dictOf [{ hash := PyData.keyHash w.params (Str.ofString "lineno"), key := Value.str (Str.ofString "lineno") q1, val := Value.int 1 q6 }, { hash := PyData.keyHash w.params (Str.ofString "instream"), key := Value.str (Str.ofString "instream") q2, val := Value.none }, { hash := PyData.keyHash w.params (Str.ofString "whitespace"), key := Value.str (Str.ofString "whitespace") q3, val := Value.str (Str.ofString "\n\t\x0d ") q4 }, { hash := PyData.keyHash w.params (Str.ofString "pushback"), key := Value.str (Str.ofString "pushback") q5, val := Value.ref fpb }, { hash := PyData.keyHash w.params (Str.ofString "read"), key := Value.str (Str.ofString "read") q7, val := Value.ref fl }] 5) ::
    (fl, kla_obj (Str.ofString "<lambda>") qual
    { posonlyargs := [], args := [{ arg := Str.ofString "size", annotation := none, pos := { line := 179, col := 23, endLine := 179, endCol := 27 } }], vararg := none, kwonlyargs := [], kw_defaults := [], kwarg := none, defaults := [] }
    ((Expr.Name (Str.ofString "signs") { line := 179, col := 45, endLine := 179, endCol := 50 }).IfExp (((Expr.Name (Str.ofString "signs") { line := 179, col := 29, endLine := 179, endCol := 34 }).Attribute (Str.ofString "pop") { line := 179, col := 29, endLine := 179, endCol := 38 }).Call [Expr.Constant (Const.int 0) 0 { line := 179, col := 39, endLine := 179, endCol := 40 }] [] { line := 179, col := 29, endLine := 179, endCol := 41 }) (Expr.Constant (Const.str (Str.ofString "")) 0 { line := 179, col := 56, endLine := 179, endCol := 58 }) { line := 179, col := 29, endLine := 179, endCol := 58 })
    { kind := ScopeKind.function, names := [(Str.ofString "size", NameKind.local), (Str.ofString "signs", NameKind.free)], isGenerator := false, isCoroutine := false }
    [(Str.ofString "signs", cell)] mn cdo ctv) ::
    (cdo, co) :: (D, listOf (chars rst) n') :: (cell, oc) :: (pb, listOf #[] np) :: news) → Q (.str tok' tt') { s with heap := h', toks := tk' }) :
  wpAny (model PySem.Challenge.rw_sc0080_02.row.prog w) (ktrTop dp un gd cn cs L a ccd cl outer) (call (.ref 118) [.ref xi]) Q E s := by
  revert X
  k_fill
  intro X
  have x0 := sx xi (by simp)
  have x1 := sx xd (by simp)
  have x2 := sx fx (by simp)
  have x3 := sx fd (by simp)
  have x4 := sx fl (by simp)
  have x5 := sx cdo (by simp)
  have x6 := sx D (by simp)
  have x7 := sx cell (by simp)
  have x8 := sx pb (by simp)
  refine wpAny_call ?_
  k_dflt (refine' code_defL ?k1 ?k2 ?k3 ?k4 ?k5 ?kA ?kF ?kK ?k6 ?k7 ?k8 ?k9 ?kB ?_ ?c2 ?c3 ?c4 ?c5)
  case kA => exact rfl
  case kF => exact rfl
  case kK => assumption
  case k1 => k_asm
  case k2 => k_asm
  case k3 => k_asm
  case k4 => exact N
  case k5 => k_asm
  case k6 => k_is
  case k7 => k_is
  case k8 => ktr_room
  case k9 => exact BindsTo.of_eq rfl
  case c5 => decide
  case kB => exact locs rfl
  case c2 => exact rfl
  case c3 => exact rfl
  case c4 => exact rfl
  intro g1 L1 h1 FG1 F1 N1 B1 X1 T1 lw1
  refine rebaseK (ex := [_, _, _, _, _, _, _, _, _]) F1 N1 B1 X1 T1 (news_in N (by intro p hp; repeat' first | exact hp | refine List.Mem.tail _ ?_)) (fun p hp => lw1 p (by repeat' first | exact hp | refine List.Mem.tail _ ?_)) (List.forall_mem_cons.mpr ⟨x0, List.forall_mem_cons.mpr ⟨x1, List.forall_mem_cons.mpr ⟨x2, List.forall_mem_cons.mpr ⟨x3, List.forall_mem_cons.mpr ⟨x4, List.forall_mem_cons.mpr ⟨x5, List.forall_mem_cons.mpr ⟨x6, List.forall_mem_cons.mpr ⟨x7, List.forall_mem_cons.mpr ⟨x8, List.forall_mem_nil _⟩⟩⟩⟩⟩⟩⟩⟩⟩) ?_
  intro gp Fp Np Bp Xp Tp Ip
  clear F1 N1 B1 X1 T1 FG1
  (try dsimp only)
  (try k_lift Bp)
  (try k_fold)
  k_steps
  repeat' (refine CiStop.go ?_; (first | (k_here; (refine iadd_str (hsz := ?hsz) ?_); (case hsz => first | (size_fits; done) | ((show _ + 1 ≤ sizeLine); rw [sizeLine_eq]; (simp only [Str.length] at *); omega)); intro _ _) | (k_here; (k_dflt (show wpAny _ _ (call (Value.ref 111) [Value.ref xi]) _ _ _)); k_dflt (refine' wpAny_call (rcC_ch ?hccm ?hrm ?Bm ?Fm ?Xm ?Tm ?hkm ?Nm ?czm hoc hco hvs (sxx tI) e_xi_xd e_xi_fx e_xi_fd e_xi_fl e_xi_cdo e_xi_D e_xi_cell e_xd_fx e_xd_fd e_xd_fl e_xd_cdo e_xd_D e_xd_cell e_fx_fd e_fx_fl e_fx_cdo e_fx_D e_fx_cell e_fd_fl e_fd_cdo e_fd_D e_fd_cell e_fl_cdo e_fl_D e_fl_cell e_cdo_D e_cdo_cell e_D_cell ?hdpm ?hunm ?_); (case Nm => k_asm); (case hkm => exact rfl); (case hccm => first | assumption | decide); (case hrm => (simp only [List.length_cons] at hcl'; omega)); ((case Bm => k_asm); (case Fm => k_asm); (case Xm => k_asm); (case Tm => k_asm)); (case czm => kn_code); ((case hdpm => ktr_room); (case hunm => ktr_units); k_whole)); intro kl4 n4 tr4 h4 tk4 F4 N4) | (k_here; (with_reducible show wpAny _ _ (call (Value.builtin "iter") [Value.ref _, Value.str _ _]) _ _ _); k_dflt (refine' ci_makeN ?F ?N ?m ?_; ((case F => k_asm); (case N => k_asm)); (case m => k_mem); k_whole); intro Iz qz hz ez F' N' lz; (subst ez); (try k_lt lz))); k_steps)
  have sxx : ∀ (t : Tok), ∀ y ∈ [xi, xd, fx, fd, fl, cdo, D, cell], Sep y [(pb, listOf #[] np), (Iz, ciObj qz t), (qz, methodObj (.ref 111) (.ref xi))] := by
    intro t
    simp only [Sep, List.forall_mem_cons, List.not_mem_nil, false_implies, implies_true, and_true]
    refine ⟨⟨e_xi_pb.symm, ⟨by k_ne⟩, ⟨by k_ne⟩⟩, ⟨e_xd_pb.symm, ⟨by k_ne⟩, ⟨by k_ne⟩⟩, ⟨e_fx_pb.symm, ⟨by k_ne⟩, ⟨by k_ne⟩⟩, ⟨e_fd_pb.symm, ⟨by k_ne⟩, ⟨by k_ne⟩⟩, ⟨e_fl_pb.symm, ⟨by k_ne⟩, ⟨by k_ne⟩⟩, ⟨e_cdo_pb.symm, ⟨by k_ne⟩, ⟨by k_ne⟩⟩, ⟨e_D_pb.symm, ⟨by k_ne⟩, ⟨by k_ne⟩⟩, ⟨e_cell_pb.symm, ⟨by k_ne⟩, ⟨by k_ne⟩⟩⟩
  refine CiStop.go ?_
  obtain ⟨j1J, j1I, j1O⟩ : ∃ J : Nat → Shared → Prop, (∀ k s', G_g_J1 s wd rst ln d gp L1 Iz xi xd w k1 k2 fx k3 k4 k5 pb fd q1 q6 q2 q3 q4 q5 fpb q7 fl qual cell mn cdo ctv co D oc np qz k s' → J k s') ∧ (∀ k s', J k s' → G_g_J1 s wd rst ln d gp L1 Iz xi xd w k1 k2 fx k3 k4 k5 pb fd q1 q6 q2 q3 q4 q5 fpb q7 fl qual cell mn cdo ctv co D oc np qz k s') := ⟨_, fun _ _ h => h, fun _ _ h => h⟩
  refine' ci_for Iz j1J (n0 := cts.length) ?ev ?turn ?hs ?hE
  case hs => intro _; rfl
  case hE => passes_own
  case ev =>
    walk1
    rename Fr gp L1 _ _ => FF
    rename News gp L1 _ _ => NN
    refine' ⟨rfl, NN.get ?a, j1I _ _ ⟨cts, ln, kl, n, _, _, none, d, _, _, rfl, rfl, hcl, hO, rfl, fr_congr FF ?e, ?N⟩⟩
    case a => k_dflt k_mem
    case N =>
      refine' news_cons NN ?_ (news_cons NN ?_ (news_cons NN ?_ (news_cons NN ?_ (news_cons NN ?_ (news_cons NN ?_ (news_cons NN ?_ (news_cons NN ?_ (news_cons NN ?_ (news_cons NN ?_ (news_cons NN ?_ News.nil)))))))))) <;> k_dflt k_mem
    case e => (intro y; by_cases h1 : y = Str.ofString "ch"; (subst h1; rfl); by_cases h2 : y = Str.ofString "token"; (subst h2; rfl); by_cases h3 : y = Str.ofString "fiter"; (subst h3; rfl); by_cases h4 : y = Str.ofString "self"; (subst h4; rfl); (rw [if_neg h1, if_neg h2, if_neg h3, if_neg h4]; (try dsimp only); (repeat rw [if_neg (by assumption)]); (try (first | rfl | exact lookup_self h4))))
  case turn =>
    intro k s' hJ
    obtain ⟨cts', ln', kl', nD, tt, tI, mch, d', hp, tk, rfl, rfl, hcl', hO', hln, FF, NN⟩ := j1O k s' hJ
    clear hJ
    cases hO' with
    | eof =>
      k_dflt (refine' ci_end rfl (q := qz) (f := 111) (x := xi) (t := tI) ?hIf ?hqf ?hff ?hdf ?hcf)
      case hIf => exact NN.get (by k_dflt k_mem)
      case hqf => exact NN.get (by k_dflt k_mem)
      case hff => exact FF.keep _ _ (Xp 111 _ (by k_is))
      case hdf => exact rfl
      refine codeAny_ret ?_
      k_dflt (refine' rcC_end (E := fun _ _ => False)  ?Bf FF Xp Tp rfl NN ?czf hoc hco hvs ?sxf e_xi_xd e_xi_fx e_xi_fd e_xi_fl e_xi_cdo e_xi_D e_xi_cell e_xd_fx e_xd_fd e_xd_fl e_xd_cdo e_xd_D e_xd_cell e_fx_fd e_fx_fl e_fx_cdo e_fx_D e_fx_cell e_fd_fl e_fd_cdo e_fd_D e_fd_cell e_fl_cdo e_fl_D e_fl_cell e_cdo_D e_cdo_cell e_D_cell ?hdpf ?hunf ?retf)
      case Bf => k_asm
      case czf => kn_code
      case sxf => exact sxx tI
      case hdpf => ktr_room
      case hunf => ktr_units
      case retf =>
        intro kl2 n2 tr2 h2 tk2 F2 N2
        refine ⟨_, rfl, N2.get (by k_dflt k_mem), N2.get (by k_dflt k_mem), F2.keep _ _ (Xp 111 _ (by k_is)), fun h3 hx => ?_⟩
        have hIz := (N2 (Iz, ciObj qz tI) (by k_dflt k_mem))
        have F3 := fr_but F2 hx hIz.2.2 hIz.2.1.symm
        have N3 := news_but N2 hx
        have N4 : News gp L1 h3 ((xi, instObj 128 xd) :: (xd, dictOf [{ hash := PyData.keyHash w.params (Str.ofString "lineno"), key := Value.str (Str.ofString "lineno") k1, val := Value.int ln' kl2 }, { hash := PyData.keyHash w.params (Str.ofString "instream"), key := Value.str (Str.ofString "instream") k2, val := Value.ref fx }, { hash := PyData.keyHash w.params (Str.ofString "whitespace"), key := Value.str (Str.ofString "whitespace") k3, val := Value.str (Str.ofString "\n\t\x0d ") k4 }, { hash := PyData.keyHash w.params (Str.ofString "pushback"), key := Value.str (Str.ofString "pushback") k5, val := Value.ref pb }] 4) :: (fx, instObj 128 fd) :: (fd, dictOf [{ hash := PyData.keyHash w.params (Str.ofString "lineno"), key := Value.str (Str.ofString "lineno") q1, val := Value.int 1 q6 }, { hash := PyData.keyHash w.params (Str.ofString "instream"), key := Value.str (Str.ofString "instream") q2, val := Value.none }, { hash := PyData.keyHash w.params (Str.ofString "whitespace"), key := Value.str (Str.ofString "whitespace") q3, val := Value.str (Str.ofString "\n\t\x0d ") q4 }, { hash := PyData.keyHash w.params (Str.ofString "pushback"), key := Value.str (Str.ofString "pushback") q5, val := Value.ref fpb }, { hash := PyData.keyHash w.params (Str.ofString "read"), key := Value.str (Str.ofString "read") q7, val := Value.ref fl }] 5) ::
          (fl, kla_obj (Str.ofString "<lambda>") qual
          { posonlyargs := [], args := [{ arg := Str.ofString "size", annotation := none, pos := { line := 179, col := 23, endLine := 179, endCol := 27 } }], vararg := none, kwonlyargs := [], kw_defaults := [], kwarg := none, defaults := [] }
          ((Expr.Name (Str.ofString "signs") { line := 179, col := 45, endLine := 179, endCol := 50 }).IfExp (((Expr.Name (Str.ofString "signs") { line := 179, col := 29, endLine := 179, endCol := 34 }).Attribute (Str.ofString "pop") { line := 179, col := 29, endLine := 179, endCol := 38 }).Call [Expr.Constant (Const.int 0) 0 { line := 179, col := 39, endLine := 179, endCol := 40 }] [] { line := 179, col := 29, endLine := 179, endCol := 41 }) (Expr.Constant (Const.str (Str.ofString "")) 0 { line := 179, col := 56, endLine := 179, endCol := 58 }) { line := 179, col := 29, endLine := 179, endCol := 58 })
          { kind := ScopeKind.function, names := [(Str.ofString "size", NameKind.local), (Str.ofString "signs", NameKind.free)], isGenerator := false, isCoroutine := false }
          [(Str.ofString "signs", cell)] mn cdo ctv) ::
          (cdo, co) :: (D, listOf (chars []) n2) :: (cell, oc) :: (pb, listOf #[] np) :: []) := N3 _ (fun p hp => List.mem_append_left [(Iz, ciObj qz tI), (qz, methodObj (.ref 111) (.ref xi))] hp) (by refine List.forall_mem_cons.mpr ⟨by (try dsimp only); k_ne, ?_⟩; refine List.forall_mem_cons.mpr ⟨by (try dsimp only); k_ne, ?_⟩; refine List.forall_mem_cons.mpr ⟨by (try dsimp only); k_ne, ?_⟩; refine List.forall_mem_cons.mpr ⟨by (try dsimp only); k_ne, ?_⟩; refine List.forall_mem_cons.mpr ⟨by (try dsimp only); k_ne, ?_⟩; refine List.forall_mem_cons.mpr ⟨by (try dsimp only); k_ne, ?_⟩; refine List.forall_mem_cons.mpr ⟨by (try dsimp only); k_ne, ?_⟩; refine List.forall_mem_cons.mpr ⟨by (try dsimp only); k_ne, ?_⟩; refine List.forall_mem_cons.mpr ⟨by (try dsimp only); k_ne, ?_⟩; exact List.forall_mem_nil _)
        clear FF NN F2 N2
        k_steps
        repeat' (refine CiStop.go ?_; (first | (k_here; (refine iadd_str (hsz := ?hsz) ?_); (case hsz => first | (size_fits; done) | ((show _ + 1 ≤ sizeLine); rw [sizeLine_eq]; (simp only [Str.length] at *); omega)); intro _ _) | (k_here; (k_dflt (show wpAny _ _ (call (Value.ref 111) [Value.ref xi]) _ _ _)); k_dflt (refine' wpAny_call (rcC_ch ?hccm ?hrm ?Bm ?Fm ?Xm ?Tm ?hkm ?Nm ?czm hoc hco hvs (sxx tI) e_xi_xd e_xi_fx e_xi_fd e_xi_fl e_xi_cdo e_xi_D e_xi_cell e_xd_fx e_xd_fd e_xd_fl e_xd_cdo e_xd_D e_xd_cell e_fx_fd e_fx_fl e_fx_cdo e_fx_D e_fx_cell e_fd_fl e_fd_cdo e_fd_D e_fd_cell e_fl_cdo e_fl_D e_fl_cell e_cdo_D e_cdo_cell e_D_cell ?hdpm ?hunm ?_); (case Nm => k_asm); (case hkm => exact rfl); (case hccm => first | assumption | decide); (case hrm => (simp only [List.length_cons] at hcl'; omega)); ((case Bm => k_asm); (case Fm => k_asm); (case Xm => k_asm); (case Tm => k_asm)); (case czm => kn_code); ((case hdpm => ktr_room); (case hunm => ktr_units); k_whole)); intro kl4 n4 tr4 h4 tk4 F4 N4) | (k_here; (with_reducible show wpAny _ _ (call (Value.builtin "iter") [Value.ref _, Value.str _ _]) _ _ _); k_dflt (refine' ci_makeN ?F ?N ?m ?_; ((case F => k_asm); (case N => k_asm)); (case m => k_mem); k_whole); intro Iz qz hz ez F' N' lz; (subst ez); (try k_lt lz))); k_steps)
        obtain rfl : ln' = ln + d := by omega
        rename News h₀ L _ news => Nt
        rename News h₀ L _ (_ :: _) => NN3
        refine' ret _ _ _ _ _ _ ?rtf ?rff ?rnf
        case rff => k_asm
        case rtf => rfl
        case rnf =>
          refine' (news_cons NN3 ?_ (news_cons NN3 ?_ (news_cons NN3 ?_ (news_cons NN3 ?_ (news_cons NN3 ?_ (news_cons NN3 ?_ (news_cons NN3 ?_ (news_cons NN3 ?_ (news_cons NN3 ?_ Nt))))))))) <;> k_dflt k_mem
    | @skip t r wz z dz h =>
      k_dflt (refine' ci_item (q := qz) (f := 111) (x := xi) (t := tI) ?hIs ?hqs ?hfs ?hds ?hcs)
      case hIs => exact NN.get (by k_dflt k_mem)
      case hqs => exact NN.get (by k_dflt k_mem)
      case hfs => exact FF.keep _ _ (Xp 111 _ (by k_is))
      case hds => exact rfl
      refine codeAny_ret ?_
      k_dflt (refine' rcC_nl (E := fun _ _ => False) ?hrs ?Bs FF Xp Tp rfl NN ?czs hoc hco hvs ?sxs e_xi_xd e_xi_fx e_xi_fd e_xi_fl e_xi_cdo e_xi_D e_xi_cell e_xd_fx e_xd_fd e_xd_fl e_xd_cdo e_xd_D e_xd_cell e_fx_fd e_fx_fl e_fx_cdo e_fx_D e_fx_cell e_fd_fl e_fd_cdo e_fd_D e_fd_cell e_fl_cdo e_fl_D e_fl_cell e_cdo_D e_cdo_cell e_D_cell ?hdps ?huns ?rets)
      case Bs => k_asm
      case czs => kn_code
      case sxs => exact sxx tI
      case hdps => ktr_room
      case huns => ktr_units
      case hrs => first | (simp only [List.length_cons] at hcl' ⊢; omega) | (simp only [List.length_cons] at hcl'; omega)
      case rets =>
        intro kl2 n2 tr2 h2 tk2 F2 N2
        refine ⟨_, _, rfl, by decide, N2.get (by k_dflt k_mem), ?_⟩
        clear FF NN
        k_steps
        repeat' (refine CiStop.go ?_; (first | (k_here; (refine iadd_str (hsz := ?hsz) ?_); (case hsz => first | (size_fits; done) | ((show _ + 1 ≤ sizeLine); rw [sizeLine_eq]; (simp only [Str.length] at *); omega)); intro _ _) | (k_here; (k_dflt (show wpAny _ _ (call (Value.ref 111) [Value.ref xi]) _ _ _)); k_dflt (refine' wpAny_call (rcC_ch ?hccm ?hrm ?Bm ?Fm ?Xm ?Tm ?hkm ?Nm ?czm hoc hco hvs (sxx tI) e_xi_xd e_xi_fx e_xi_fd e_xi_fl e_xi_cdo e_xi_D e_xi_cell e_xd_fx e_xd_fd e_xd_fl e_xd_cdo e_xd_D e_xd_cell e_fx_fd e_fx_fl e_fx_cdo e_fx_D e_fx_cell e_fd_fl e_fd_cdo e_fd_D e_fd_cell e_fl_cdo e_fl_D e_fl_cell e_cdo_D e_cdo_cell e_D_cell ?hdpm ?hunm ?_); (case Nm => k_asm); (case hkm => exact rfl); (case hccm => first | assumption | decide); (case hrm => (simp only [List.length_cons] at hcl'; omega)); ((case Bm => k_asm); (case Fm => k_asm); (case Xm => k_asm); (case Tm => k_asm)); (case czm => kn_code); ((case hdpm => ktr_room); (case hunm => ktr_units); k_whole)); intro kl4 n4 tr4 h4 tk4 F4 N4) | (k_here; (with_reducible show wpAny _ _ (call (Value.builtin "iter") [Value.ref _, Value.str _ _]) _ _ _); k_dflt (refine' ci_makeN ?F ?N ?m ?_; ((case F => k_asm); (case N => k_asm)); (case m => k_mem); k_whole); intro Iz qz hz ez F' N' lz; (subst ez); (try k_lt lz))); k_steps)
        all_goals first
          | (exfalso; (with_reducible rename List.isEmpty _ = _ => z9); exact absurd z9 (by decide +kernel))
          | skip
        rename Fr gp L1 _ _ => FF
        rename News gp L1 _ _ => NN
        refine CiStop.go ?_
        refine' ⟨r.length, ?l0s, j1I _ _ ⟨r, _, _, _, _, _, _, _, _, _, rfl, rfl, ?l1s, h, ?lds, fr_congr FF ?e2s, ?N2s⟩⟩
        case N2s =>
          refine' (news_cons NN ?_ (news_cons NN ?_ (news_cons NN ?_ (news_cons NN ?_ (news_cons NN ?_ (news_cons NN ?_ (news_cons NN ?_ (news_cons NN ?_ (news_cons NN ?_ (news_cons NN ?_ (news_cons NN ?_ News.nil))))))))))) <;> k_dflt k_mem
        case e2s => (intro y; by_cases h1 : y = Str.ofString "ch"; (subst h1; rfl); by_cases h2 : y = Str.ofString "token"; (subst h2; rfl); by_cases h3 : y = Str.ofString "fiter"; (subst h3; rfl); by_cases h4 : y = Str.ofString "self"; (subst h4; rfl); (rw [if_neg h1, if_neg h2, if_neg h3, if_neg h4]; (try dsimp only); (repeat rw [if_neg (by assumption)]); (try (first | rfl | exact lookup_self h4))))
        case l0s => (simp only [List.length_cons]; omega)
        case l1s => (simp only [List.length_cons] at hcl'; omega)
        case lds => omega
    | @dot t r wv z dz h =>
      k_dflt (refine' ci_item (q := qz) (f := 111) (x := xi) (t := tI) ?hI ?hq ?hf ?hd ?hc)
      case hI => exact NN.get (by k_dflt k_mem)
      case hq => exact NN.get (by k_dflt k_mem)
      case hf => exact FF.keep _ _ (Xp 111 _ (by k_is))
      case hd => exact rfl
      refine codeAny_ret ?_
      k_dflt (refine' rcC_ch (E := fun _ _ => False) ?hcc ?hr ?B FF Xp Tp rfl NN ?cz hoc hco hvs ?sx e_xi_xd e_xi_fx e_xi_fd e_xi_fl e_xi_cdo e_xi_D e_xi_cell e_xd_fx e_xd_fd e_xd_fl e_xd_cdo e_xd_D e_xd_cell e_fx_fd e_fx_fl e_fx_cdo e_fx_D e_fx_cell e_fd_fl e_fd_cdo e_fd_D e_fd_cell e_fl_cdo e_fl_D e_fl_cell e_cdo_D e_cdo_cell e_D_cell ?hdp ?hun ?ret)
      case B => k_asm
      case cz => kn_code
      case sx => exact sxx tI
      case hdp => ktr_room
      case hun => ktr_units
      case hcc => decide
      case hr => first | (simp only [List.length_cons] at hcl' ⊢; omega) | (simp only [List.length_cons] at hcl'; omega)
      case ret =>
        intro kl2 n2 tr2 h2 tk2 F2 N2
        refine ⟨_, _, rfl, by decide, N2.get (by k_dflt k_mem), ?_⟩
        clear FF NN
        k_steps
        repeat' (refine CiStop.go ?_; (first | (k_here; (refine iadd_str (hsz := ?hsz) ?_); (case hsz => first | (size_fits; done) | ((show _ + 1 ≤ sizeLine); rw [sizeLine_eq]; (simp only [Str.length] at *); omega)); intro _ _) | (k_here; (k_dflt (show wpAny _ _ (call (Value.ref 111) [Value.ref xi]) _ _ _)); k_dflt (refine' wpAny_call (rcC_ch ?hccm ?hrm ?Bm ?Fm ?Xm ?Tm ?hkm ?Nm ?czm hoc hco hvs (sxx tI) e_xi_xd e_xi_fx e_xi_fd e_xi_fl e_xi_cdo e_xi_D e_xi_cell e_xd_fx e_xd_fd e_xd_fl e_xd_cdo e_xd_D e_xd_cell e_fx_fd e_fx_fl e_fx_cdo e_fx_D e_fx_cell e_fd_fl e_fd_cdo e_fd_D e_fd_cell e_fl_cdo e_fl_D e_fl_cell e_cdo_D e_cdo_cell e_D_cell ?hdpm ?hunm ?_); (case Nm => k_asm); (case hkm => exact rfl); (case hccm => first | assumption | decide); (case hrm => (simp only [List.length_cons] at hcl'; omega)); ((case Bm => k_asm); (case Fm => k_asm); (case Xm => k_asm); (case Tm => k_asm)); (case czm => kn_code); ((case hdpm => ktr_room); (case hunm => ktr_units); k_whole)); intro kl4 n4 tr4 h4 tk4 F4 N4) | (k_here; (with_reducible show wpAny _ _ (call (Value.builtin "iter") [Value.ref _, Value.str _ _]) _ _ _); k_dflt (refine' ci_makeN ?F ?N ?m ?_; ((case F => k_asm); (case N => k_asm)); (case m => k_mem); k_whole); intro Iz qz hz ez F' N' lz; (subst ez); (try k_lt lz))); k_steps)
        all_goals first
          | (exfalso; (with_reducible rename List.isEmpty _ = _ => z9); exact absurd z9 (by decide +kernel))
          | skip
        refine CiStop.go ?_
        obtain ⟨j2J, j2I, j2O⟩ : ∃ J : Nat → Shared → Prop, (∀ k s', G_g_J2 s rst ln d wv gp L1 Iz xi xd w k1 k2 fx k3 k4 k5 pb fd q1 q6 q2 q3 q4 q5 fpb q7 fl qual cell mn cdo ctv co D oc np qz k s' → J k s') ∧ (∀ k s', J k s' → G_g_J2 s rst ln d wv gp L1 Iz xi xd w k1 k2 fx k3 k4 k5 pb fd q1 q6 q2 q3 q4 q5 fpb q7 fl qual cell mn cdo ctv co D oc np qz k s') := ⟨_, fun _ _ h => h, fun _ _ h => h⟩
        refine' ci_for Iz j2J (n0 := r.length) ?ev ?turn ?hs ?hE
        case hs => intro _; rfl
        case hE => passes_own
        case ev =>
          walk1
          rename Fr gp L1 _ _ => FF
          rename News gp L1 _ _ => NN
          refine' ⟨rfl, NN.get ?a, j2I _ _ ⟨r, ln', _, _, ⟨#[46]⟩, _, _, _, wv, d', _, _, rfl, rfl, ?l1, ?l2, h, hln, rfl, fr_congr FF ?e, ?N⟩⟩
          case l1 => simp only [List.length_cons] at hcl'; omega
          case l2 => (show 1 + r.length ≤ 3000); simp only [List.length_cons] at hcl'; omega
          case a => k_dflt k_mem
          case N =>
            refine' news_cons NN ?_ (news_cons NN ?_ (news_cons NN ?_ (news_cons NN ?_ (news_cons NN ?_ (news_cons NN ?_ (news_cons NN ?_ (news_cons NN ?_ (news_cons NN ?_ (news_cons NN ?_ (news_cons NN ?_ (News.nil))))))))))) <;> k_dflt k_mem

          case e => (intro y; by_cases h1 : y = Str.ofString "ch"; (subst h1; rfl); by_cases h2 : y = Str.ofString "token"; (subst h2; rfl); by_cases h3 : y = Str.ofString "fiter"; (subst h3; rfl); by_cases h4 : y = Str.ofString "self"; (subst h4; rfl); (rw [if_neg h1, if_neg h2, if_neg h3, if_neg h4]; (try dsimp only); (repeat rw [if_neg (by assumption)]); (try (first | rfl | exact lookup_self h4))))
        case turn =>
          intro k s' hJ
          obtain ⟨cts2, ln2, kl3, nD2, tok, tt2, tI, chv, w2, d2, hp2, tk3, rfl, rfl, hcl', hcs, hI2, hln2, htok, FF, NN⟩ := j2O k s' hJ
          clear hJ
          cases hI2 with
          | done => 
            obtain rfl : ln2 = ln + d := by omega
            k_dflt (refine' ci_item (q := qz) (f := 111) (x := xi) (t := tI) ?hI2 ?hq2 ?hf2 ?hd2 ?hc2)
            case hI2 => exact NN.get (by k_dflt k_mem)
            case hq2 => exact NN.get (by k_dflt k_mem)
            case hf2 => exact FF.keep _ _ (Xp 111 _ (by k_is))
            case hd2 => exact rfl
            refine codeAny_ret ?_
            k_dflt (refine' rcC_ch (E := fun _ _ => False) ?hcc2 ?hr2 ?B2 FF Xp Tp rfl NN ?cz2 hoc hco hvs ?sx2 e_xi_xd e_xi_fx e_xi_fd e_xi_fl e_xi_cdo e_xi_D e_xi_cell e_xd_fx e_xd_fd e_xd_fl e_xd_cdo e_xd_D e_xd_cell e_fx_fd e_fx_fl e_fx_cdo e_fx_D e_fx_cell e_fd_fl e_fd_cdo e_fd_D e_fd_cell e_fl_cdo e_fl_D e_fl_cell e_cdo_D e_cdo_cell e_D_cell ?hdp2 ?hun2 ?ret2)
            case B2 => k_asm
            case cz2 => kn_code
            case sx2 => exact sxx tI
            case hdp2 => ktr_room
            case hun2 => ktr_units
            case hcc2 => decide
            case hr2 => first | (simp only [List.length_cons] at hcl' ⊢; omega) | (simp only [List.length_cons] at hcl'; omega)
            case ret2 =>
              intro kl2 n2 tr2 h2 tk2 F2 N2
              refine ⟨_, _, rfl, by decide, N2.get (by k_dflt k_mem), ?_⟩
              clear FF NN
              k_steps
              repeat' (refine CiStop.go ?_; (first | (k_here; (refine iadd_str (hsz := ?hsz) ?_); (case hsz => first | (size_fits; done) | ((show _ + 1 ≤ sizeLine); rw [sizeLine_eq]; (simp only [Str.length] at *); omega)); intro _ _) | (k_here; (k_dflt (show wpAny _ _ (call (Value.ref 111) [Value.ref xi]) _ _ _)); k_dflt (refine' wpAny_call (rcC_ch ?hccm ?hrm ?Bm ?Fm ?Xm ?Tm ?hkm ?Nm ?czm hoc hco hvs (sxx tI) e_xi_xd e_xi_fx e_xi_fd e_xi_fl e_xi_cdo e_xi_D e_xi_cell e_xd_fx e_xd_fd e_xd_fl e_xd_cdo e_xd_D e_xd_cell e_fx_fd e_fx_fl e_fx_cdo e_fx_D e_fx_cell e_fd_fl e_fd_cdo e_fd_D e_fd_cell e_fl_cdo e_fl_D e_fl_cell e_cdo_D e_cdo_cell e_D_cell ?hdpm ?hunm ?_); (case Nm => k_asm); (case hkm => exact rfl); (case hccm => first | assumption | decide); (case hrm => (simp only [List.length_cons] at hcl'; omega)); ((case Bm => k_asm); (case Fm => k_asm); (case Xm => k_asm); (case Tm => k_asm)); (case czm => kn_code); ((case hdpm => ktr_room); (case hunm => ktr_units); k_whole)); intro kl4 n4 tr4 h4 tk4 F4 N4) | (k_here; (with_reducible show wpAny _ _ (call (Value.builtin "iter") [Value.ref _, Value.str _ _]) _ _ _); k_dflt (refine' ci_makeN ?F ?N ?m ?_; ((case F => k_asm); (case N => k_asm)); (case m => k_mem); k_whole); intro Iz qz hz ez F' N' lz; (subst ez); (try k_lt lz))); k_steps)
              all_goals first
                | (exfalso; (with_reducible rename List.isEmpty _ = _ => z9); exact absurd z9 (by decide +kernel))
                | skip
              rename News h₀ L _ news => Nt
              rename News h₀ L _ (_ :: _) => NN3
              refine' ret _ _ _ _ _ _ ?rt ?rf ?rn
              case rf => k_asm
              case rt => simpa using htok
              case rn =>
                refine' (news_cons NN3 ?_ (news_cons NN3 ?_ (news_cons NN3 ?_ (news_cons NN3 ?_ (news_cons NN3 ?_ (news_cons NN3 ?_ (news_cons NN3 ?_ (news_cons NN3 ?_ (news_cons NN3 ?_ Nt))))))))) <;> k_dflt k_mem
          | @plain c t2 r2 w3 z3 d3 hpl hin =>
            have hc10 : c ≠ 10 := by rcases hpl with rfl | rfl | rfl <;> decide
            have hcw := plain_ws hpl
            have hcb := plain_bs hpl
            k_dflt (refine' ci_item (q := qz) (f := 111) (x := xi) (t := tI) ?hI3 ?hq3 ?hf3 ?hd3 ?hc3)
            case hI3 => exact NN.get (by k_dflt k_mem)
            case hq3 => exact NN.get (by k_dflt k_mem)
            case hf3 => exact FF.keep _ _ (Xp 111 _ (by k_is))
            case hd3 => exact rfl
            refine codeAny_ret ?_
            k_dflt (refine' rcC_ch (E := fun _ _ => False) ?hcc3 ?hr3 ?B3 FF Xp Tp rfl NN ?cz3 hoc hco hvs ?sx3 e_xi_xd e_xi_fx e_xi_fd e_xi_fl e_xi_cdo e_xi_D e_xi_cell e_xd_fx e_xd_fd e_xd_fl e_xd_cdo e_xd_D e_xd_cell e_fx_fd e_fx_fl e_fx_cdo e_fx_D e_fx_cell e_fd_fl e_fd_cdo e_fd_D e_fd_cell e_fl_cdo e_fl_D e_fl_cell e_cdo_D e_cdo_cell e_D_cell ?hdp3 ?hun3 ?ret3)
            case B3 => k_asm
            case cz3 => kn_code
            case sx3 => exact sxx tI
            case hdp3 => ktr_room
            case hun3 => ktr_units
            case hcc3 => exact hc10
            case hr3 => first | (simp only [List.length_cons] at hcl' ⊢; omega) | (simp only [List.length_cons] at hcl'; omega)
            case ret3 =>
              intro kl2 n2 tr2 h2 tk2 F2 N2
              refine ⟨_, _, rfl, plain_ne, N2.get (by k_dflt k_mem), ?_⟩
              clear FF NN
              k_steps
              repeat' (refine CiStop.go ?_; (first | (k_here; (refine iadd_str (hsz := ?hsz) ?_); (case hsz => first | (size_fits; done) | ((show _ + 1 ≤ sizeLine); rw [sizeLine_eq]; (simp only [Str.length] at *); omega)); intro _ _) | (k_here; (k_dflt (show wpAny _ _ (call (Value.ref 111) [Value.ref xi]) _ _ _)); k_dflt (refine' wpAny_call (rcC_ch ?hccm ?hrm ?Bm ?Fm ?Xm ?Tm ?hkm ?Nm ?czm hoc hco hvs (sxx tI) e_xi_xd e_xi_fx e_xi_fd e_xi_fl e_xi_cdo e_xi_D e_xi_cell e_xd_fx e_xd_fd e_xd_fl e_xd_cdo e_xd_D e_xd_cell e_fx_fd e_fx_fl e_fx_cdo e_fx_D e_fx_cell e_fd_fl e_fd_cdo e_fd_D e_fd_cell e_fl_cdo e_fl_D e_fl_cell e_cdo_D e_cdo_cell e_D_cell ?hdpm ?hunm ?_); (case Nm => k_asm); (case hkm => exact rfl); (case hccm => first | assumption | decide); (case hrm => (simp only [List.length_cons] at hcl'; omega)); ((case Bm => k_asm); (case Fm => k_asm); (case Xm => k_asm); (case Tm => k_asm)); (case czm => kn_code); ((case hdpm => ktr_room); (case hunm => ktr_units); k_whole)); intro kl4 n4 tr4 h4 tk4 F4 N4) | (k_here; (with_reducible show wpAny _ _ (call (Value.builtin "iter") [Value.ref _, Value.str _ _]) _ _ _); k_dflt (refine' ci_makeN ?F ?N ?m ?_; ((case F => k_asm); (case N => k_asm)); (case m => k_mem); k_whole); intro Iz qz hz ez F' N' lz; (subst ez); (try k_lt lz))); k_steps)
              all_goals first
                | (exfalso; (with_reducible rename List.isEmpty _ = _ => z9); exact absurd z9 (by decide +kernel))
                | skip
              rename Fr gp L1 _ _ => FF
              rename News gp L1 _ _ => NN
              refine CiStop.go ?_
              refine' ⟨r2.length, ?l0, j2I _ _ ⟨r2, _, _, _, _, _, _, _, w3, _, _, _, rfl, rfl, ?l1, ?l2, hin, hln2, ?tok, fr_congr FF ?e2, ?N2⟩⟩
              case N2 =>
                refine' (news_cons NN ?_ (news_cons NN ?_ (news_cons NN ?_ (news_cons NN ?_ (news_cons NN ?_ (news_cons NN ?_ (news_cons NN ?_ (news_cons NN ?_ (news_cons NN ?_ (news_cons NN ?_ (news_cons NN ?_ News.nil))))))))))) <;> k_dflt k_mem
              case e2 => (intro y; by_cases h1 : y = Str.ofString "ch"; (subst h1; rfl); by_cases h2 : y = Str.ofString "token"; (subst h2; rfl); by_cases h3 : y = Str.ofString "fiter"; (subst h3; rfl); by_cases h4 : y = Str.ofString "self"; (subst h4; rfl); (rw [if_neg h1, if_neg h2, if_neg h3, if_neg h4]; (try dsimp only); (repeat rw [if_neg (by assumption)]); (try (first | rfl | exact lookup_self h4))))
              case l0 => (simp only [List.length_cons]; omega)
              case l1 => (simp only [List.length_cons] at hcl'; omega)
              case l2 => (simp only [List.length_cons] at hcs; (try rw [e46]); (try rw [e92]); rw [step_size]; omega)
              case tok => ((try rw [e46]); (try rw [e92]); exact step_tok htok)
          | @esc c t2 u2 r2 w3 z3 d3 hc10 hin =>
            k_dflt (refine' ci_item (q := qz) (f := 111) (x := xi) (t := tI) ?hI4 ?hq4 ?hf4 ?hd4 ?hc4)
            case hI4 => exact NN.get (by k_dflt k_mem)
            case hq4 => exact NN.get (by k_dflt k_mem)
            case hf4 => exact FF.keep _ _ (Xp 111 _ (by k_is))
            case hd4 => exact rfl
            refine codeAny_ret ?_
            k_dflt (refine' rcC_ch (E := fun _ _ => False) ?hcc4 ?hr4 ?B4 FF Xp Tp rfl NN ?cz4 hoc hco hvs ?sx4 e_xi_xd e_xi_fx e_xi_fd e_xi_fl e_xi_cdo e_xi_D e_xi_cell e_xd_fx e_xd_fd e_xd_fl e_xd_cdo e_xd_D e_xd_cell e_fx_fd e_fx_fl e_fx_cdo e_fx_D e_fx_cell e_fd_fl e_fd_cdo e_fd_D e_fd_cell e_fl_cdo e_fl_D e_fl_cell e_cdo_D e_cdo_cell e_D_cell ?hdp4 ?hun4 ?ret4)
            case B4 => k_asm
            case cz4 => kn_code
            case sx4 => exact sxx tI
            case hdp4 => ktr_room
            case hun4 => ktr_units
            case hcc4 => decide
            case hr4 => first | (simp only [List.length_cons] at hcl' ⊢; omega) | (simp only [List.length_cons] at hcl'; omega)
            case ret4 =>
              intro kl2 n2 tr2 h2 tk2 F2 N2
              refine ⟨_, _, rfl, by decide, N2.get (by k_dflt k_mem), ?_⟩
              clear FF NN
              k_steps
              repeat' (refine CiStop.go ?_; (first | (k_here; (refine iadd_str (hsz := ?hsz) ?_); (case hsz => first | (size_fits; done) | ((show _ + 1 ≤ sizeLine); rw [sizeLine_eq]; (simp only [Str.length] at *); omega)); intro _ _) | (k_here; (k_dflt (show wpAny _ _ (call (Value.ref 111) [Value.ref xi]) _ _ _)); k_dflt (refine' wpAny_call (rcC_ch ?hccm ?hrm ?Bm ?Fm ?Xm ?Tm ?hkm ?Nm ?czm hoc hco hvs (sxx tI) e_xi_xd e_xi_fx e_xi_fd e_xi_fl e_xi_cdo e_xi_D e_xi_cell e_xd_fx e_xd_fd e_xd_fl e_xd_cdo e_xd_D e_xd_cell e_fx_fd e_fx_fl e_fx_cdo e_fx_D e_fx_cell e_fd_fl e_fd_cdo e_fd_D e_fd_cell e_fl_cdo e_fl_D e_fl_cell e_cdo_D e_cdo_cell e_D_cell ?hdpm ?hunm ?_); (case Nm => k_asm); (case hkm => exact rfl); (case hccm => first | assumption | decide); (case hrm => (simp only [List.length_cons] at hcl'; omega)); ((case Bm => k_asm); (case Fm => k_asm); (case Xm => k_asm); (case Tm => k_asm)); (case czm => kn_code); ((case hdpm => ktr_room); (case hunm => ktr_units); k_whole)); intro kl4 n4 tr4 h4 tk4 F4 N4) | (k_here; (with_reducible show wpAny _ _ (call (Value.builtin "iter") [Value.ref _, Value.str _ _]) _ _ _); k_dflt (refine' ci_makeN ?F ?N ?m ?_; ((case F => k_asm); (case N => k_asm)); (case m => k_mem); k_whole); intro Iz qz hz ez F' N' lz; (subst ez); (try k_lt lz))); k_steps)
              all_goals first
                | (exfalso; (with_reducible rename List.isEmpty _ = _ => z9); exact absurd z9 (by decide +kernel))
                | skip
              rename Fr gp L1 _ _ => FF
              rename News gp L1 _ _ => NN
              refine CiStop.go ?_
              refine' ⟨r2.length, ?l0x4, j2I _ _ ⟨r2, _, _, _, _, _, _, _, w3, _, _, _, rfl, rfl, ?l1x4, ?l2x4, hin, hln2, ?tokx4, fr_congr FF ?e2x4, ?N2x4⟩⟩
              case N2x4 =>
                refine' (news_cons NN ?_ (news_cons NN ?_ (news_cons NN ?_ (news_cons NN ?_ (news_cons NN ?_ (news_cons NN ?_ (news_cons NN ?_ (news_cons NN ?_ (news_cons NN ?_ (news_cons NN ?_ (news_cons NN ?_ News.nil))))))))))) <;> k_dflt k_mem
              case e2x4 => (intro y; by_cases h1 : y = Str.ofString "ch"; (subst h1; rfl); by_cases h2 : y = Str.ofString "token"; (subst h2; rfl); by_cases h3 : y = Str.ofString "fiter"; (subst h3; rfl); by_cases h4 : y = Str.ofString "self"; (subst h4; rfl); (rw [if_neg h1, if_neg h2, if_neg h3, if_neg h4]; (try dsimp only); (repeat rw [if_neg (by assumption)]); (try (first | rfl | exact lookup_self h4))))
              case l0x4 => (simp only [List.length_cons]; omega)
              case l1x4 => (simp only [List.length_cons] at hcl'; omega)
              case l2x4 => (simp only [List.length_cons] at hcs; (try rw [e46]); (try rw [e92]); rw [step_size]; omega)
              case tokx4 => ((try rw [e46]); (try rw [e92]); exact step_tok htok)

end
section
open PySem PySem.W PyProof.Rows PySem.Spec PySem.Calls
theorem pop_txts {prog : Program} {w : World} {A : Around} {E : Value → Shared → Prop} {s : Shared} {h₀ : Heap} {L : Addr} {m : Str → Option Value} {news news' : List (Addr × Obj)} {D : Addr} {n : Nat} {x : Str} {tx u : Tok} {r : List (Str × Tok)} {Q : Value → Shared → Prop} (F : Fr h₀ L s.heap m) (N : News h₀ L s.heap news) (hr : r.length ≤ 3000)
    (U : Upd D (listOf (txts ((x, tx) :: r)) n) (listOf (txts r) (n + 1)) news news') (h : ∀ h', Fr h₀ L h' m → News h₀ L h' news' → Q (.str x tx) { s with heap := h' }) :
    wpAny (model prog w) A (call (.builtin "list.pop") [.ref D, .int 0 u]) Q E s := by
  refine kl_popAt (k := 0) (p := []) (q := r.map fun p => Value.str p.1 p.2) F N rfl ?_ rfl U ?_ h
  · unfold seqIndex? txts
    simp
  · unfold txts
    rw [sizeLine_eq]
    simp; omega
theorem truthy_txts {prog : Program} {w : World} {A : Around} {E : Value → Shared → Prop} {s : Shared} {h₀ : Heap} {L : Addr} {news : List (Addr × Obj)} {D : Addr} {n : Nat} {ws : List (Str × Tok)} {Q : Bool → Shared → Prop} (N : News h₀ L s.heap news) (hm : (D, listOf (txts ws) n) ∈ news) (hr : ws.length ≤ 3001) (h : Q (!ws.isEmpty) { s with toks := s.toks + 1 + 1 }) :
    wpAny (model prog w) A (truthy (.ref D)) Q E s := by
  refine wpAny_truthy_list ⟨_, (N _ hm).1, rfl, n, rfl⟩ ?_ ?_
  · unfold txts; simp; omega
  · have e : (txts ws).isEmpty = ws.isEmpty := by unfold txts; cases ws <;> simp
    rw [e]; exact h
local macro_rules | `(tactic| walk_at "call builtin:list.append") => `(tactic| (k_here; refine CiStop.out ?_))
local macro_rules | `(tactic| walk_at "call builtin:list.pop") => `(tactic| (k_here; refine CiStop.out ?_))
local macro_rules | `(tactic| walk_at "truthy ref") => `(tactic| (k_here; refine CiStop.out ?_))
theorem push_c {w : World} {loose : List Str} {mean : ExcName → Option Value} {mg mb : Str → Option Value}
  {dp un : Nat} {gd : Option (List Code)} {cn : Str} {cs : Scope} {a : Addr} {ccd : Value} {cl : List (Str × Addr)} {outer : List Env} {A₀ : Around} {base h₀ : Heap} {L : Addr} {m : Str → Option Value} {s : Shared} {Q E : Value → Shared → Prop}
  {news : List (Addr × Obj)} {xi xd fx pb : Addr} {k1 k2 k3 k4 k5 kl : Tok} {ln : Int} {np : Nat} {ws : List (Str × Tok)} {x : Str} {tx : Tok} (hw : ws.length ≤ 1000)
  (B : Below A₀ base outer h₀) (F : Fr h₀ L s.heap m) (X : (hd.heap_1 w.params).In h₀) (T : Top topProg loose mean mg mb h₀) (hk : cs.kind = .function)
  (N : News h₀ L s.heap ((xi, instObj 128 xd) :: (xd, dictOf [{ hash := PyData.keyHash w.params (Str.ofString "lineno"), key := Value.str (Str.ofString "lineno") k1, val := Value.int ln kl }, { hash := PyData.keyHash w.params (Str.ofString "instream"), key := Value.str (Str.ofString "instream") k2, val := Value.ref fx }, { hash := PyData.keyHash w.params (Str.ofString "whitespace"), key := Value.str (Str.ofString "whitespace") k3, val := Value.str (Str.ofString "\n\t\x0d ") k4 }, { hash := PyData.keyHash w.params (Str.ofString "pushback"), key := Value.str (Str.ofString "pushback") k5, val := Value.ref pb }] 4) :: (pb, listOf (txts (ws)) np) :: news)) (s1 : Sep xi news) (s2 : Sep xd news) (s3 : Sep pb news) (e1 : NeN xi xd) (e2 : NeN xi pb) (e3 : NeN xd pb) (cz : CodeHd base 152 148)
  (hdp : dp + 4 < recursionLimit) (hun : un + 40 < cLine)
  (ret : ∀ np' h' tk', Fr h₀ L h' m → News h₀ L h' ((xi, instObj 128 xd) :: (xd, dictOf [{ hash := PyData.keyHash w.params (Str.ofString "lineno"), key := Value.str (Str.ofString "lineno") k1, val := Value.int ln kl }, { hash := PyData.keyHash w.params (Str.ofString "instream"), key := Value.str (Str.ofString "instream") k2, val := Value.ref fx }, { hash := PyData.keyHash w.params (Str.ofString "whitespace"), key := Value.str (Str.ofString "whitespace") k3, val := Value.str (Str.ofString "\n\t\x0d ") k4 }, { hash := PyData.keyHash w.params (Str.ofString "pushback"), key := Value.str (Str.ofString "pushback") k5, val := Value.ref pb }] 4) :: (pb, listOf (txts (ws ++ [(x, tx)])) np') :: news) → Q .none { s with heap := h', toks := tk' }) :
  wpAny (model PySem.Challenge.rw_sc0080_02.row.prog w) (ktrTop dp un gd cn cs L a ccd cl outer) (call (.ref 125) [.ref xi, .str x tx]) Q E s := by
  revert X
  k_fill
  intro X
  refine wpAny_call ?_
  k_dflt (refine' code_defL ?k1 ?k2 ?k3 ?k4 ?k5 ?kA ?kF ?kK ?k6 ?k7 ?k8 ?k9 ?kB ?_ ?c2 ?c3 ?c4 ?c5)
  case kA => exact rfl
  case kF => exact rfl
  case kK => assumption
  case k1 => k_asm
  case k2 => k_asm
  case k3 => k_asm
  case k4 => exact N
  case k5 => k_asm
  case k6 => k_is
  case k7 => k_is
  case k8 => ktr_room
  case k9 => exact BindsTo.of_eq rfl
  case c5 => decide
  case kB => exact locs rfl
  case c2 => exact rfl
  case c3 => exact rfl
  case c4 => exact rfl
  intro g1 L1 h1 FG1 F1 N1 B1 X1 T1 lw1
  refine rebaseK (ex := [_, _, _]) F1 N1 B1 X1 T1 (news_in N (by intro p hp; repeat' first | exact hp | refine List.Mem.tail _ ?_)) (fun p hp => lw1 p (by repeat' first | exact hp | refine List.Mem.tail _ ?_)) (List.forall_mem_cons.mpr ⟨s1, List.forall_mem_cons.mpr ⟨s2, List.forall_mem_cons.mpr ⟨s3, List.forall_mem_nil _⟩⟩⟩) ?_
  intro gp Fp Np Bp Xp Tp Ip
  clear F1 N1 B1 X1 T1 FG1
  (try dsimp only)
  (try k_lift Bp)
  (try k_fold)
  k_steps
  refine CiStop.go ?_
  k_dflt (refine' append_txts ?F ?N ?hz ?U ?_)
  case F => k_asm
  case N => k_asm
  case hz => exact Nat.le_trans hw (by decide)
  case U => k_upd
  k_whole
  intro h2 F2 N2
  k_steps
  rename News h₀ L _ news => Nt
  rename News h₀ L _ (_ :: _) => NN
  refine' ret _ _ _ ?F (news_cons NN ?m0 (news_cons NN ?m1 (news_cons NN ?m2 Nt)))
  case F => k_asm
  case m0 => k_dflt k_mem
  case m1 => k_dflt k_mem
  case m2 => k_dflt k_mem
theorem gt_p {w : World} {loose : List Str} {mean : ExcName → Option Value} {mg mb : Str → Option Value}
  {dp un : Nat} {gd : Option (List Code)} {cn : Str} {cs : Scope} {a : Addr} {ccd : Value} {cl : List (Str × Addr)} {outer : List Env} {A₀ : Around} {base h₀ : Heap} {L : Addr} {m : Str → Option Value} {s : Shared} {Q E : Value → Shared → Prop}
  {news : List (Addr × Obj)} {xi xd fx pb : Addr} {k1 k2 k3 k4 k5 kl : Tok} {ln : Int} {np : Nat} {ws : List (Str × Tok)} {x : Str} {tx : Tok} (hw : ws.length ≤ 1000)
  (B : Below A₀ base outer h₀) (F : Fr h₀ L s.heap m) (X : (hd.heap_1 w.params).In h₀) (T : Top topProg loose mean mg mb h₀) (hk : cs.kind = .function)
  (N : News h₀ L s.heap ((xi, instObj 128 xd) :: (xd, dictOf [{ hash := PyData.keyHash w.params (Str.ofString "lineno"), key := Value.str (Str.ofString "lineno") k1, val := Value.int ln kl }, { hash := PyData.keyHash w.params (Str.ofString "instream"), key := Value.str (Str.ofString "instream") k2, val := Value.ref fx }, { hash := PyData.keyHash w.params (Str.ofString "whitespace"), key := Value.str (Str.ofString "whitespace") k3, val := Value.str (Str.ofString "\n\t\x0d ") k4 }, { hash := PyData.keyHash w.params (Str.ofString "pushback"), key := Value.str (Str.ofString "pushback") k5, val := Value.ref pb }] 4) :: (pb, listOf (txts ((x, tx) :: ws)) np) :: news)) (s1 : Sep xi news) (s2 : Sep xd news) (s3 : Sep pb news) (e1 : NeN xi xd) (e2 : NeN xi pb) (e3 : NeN xd pb) (cz : CodeHd base 152 148)
  (hdp : dp + 4 < recursionLimit) (hun : un + 40 < cLine)
  (ret : ∀ np' h' tk', Fr h₀ L h' m → News h₀ L h' ((xi, instObj 128 xd) :: (xd, dictOf [{ hash := PyData.keyHash w.params (Str.ofString "lineno"), key := Value.str (Str.ofString "lineno") k1, val := Value.int ln kl }, { hash := PyData.keyHash w.params (Str.ofString "instream"), key := Value.str (Str.ofString "instream") k2, val := Value.ref fx }, { hash := PyData.keyHash w.params (Str.ofString "whitespace"), key := Value.str (Str.ofString "whitespace") k3, val := Value.str (Str.ofString "\n\t\x0d ") k4 }, { hash := PyData.keyHash w.params (Str.ofString "pushback"), key := Value.str (Str.ofString "pushback") k5, val := Value.ref pb }] 4) :: (pb, listOf (txts (ws)) np') :: news) → Q (.str x tx) { s with heap := h', toks := tk' }) :
  wpAny (model PySem.Challenge.rw_sc0080_02.row.prog w) (ktrTop dp un gd cn cs L a ccd cl outer) (call (.ref 118) [.ref xi]) Q E s := by
  revert X
  k_fill
  intro X
  refine wpAny_call ?_
  k_dflt (refine' code_defL ?k1 ?k2 ?k3 ?k4 ?k5 ?kA ?kF ?kK ?k6 ?k7 ?k8 ?k9 ?kB ?_ ?c2 ?c3 ?c4 ?c5)
  case kA => exact rfl
  case kF => exact rfl
  case kK => assumption
  case k1 => k_asm
  case k2 => k_asm
  case k3 => k_asm
  case k4 => exact N
  case k5 => k_asm
  case k6 => k_is
  case k7 => k_is
  case k8 => ktr_room
  case k9 => exact BindsTo.of_eq rfl
  case c5 => decide
  case kB => exact locs rfl
  case c2 => exact rfl
  case c3 => exact rfl
  case c4 => exact rfl
  intro g1 L1 h1 FG1 F1 N1 B1 X1 T1 lw1
  refine rebaseK (ex := [_, _, _]) F1 N1 B1 X1 T1 (news_in N (by intro p hp; repeat' first | exact hp | refine List.Mem.tail _ ?_)) (fun p hp => lw1 p (by repeat' first | exact hp | refine List.Mem.tail _ ?_)) (List.forall_mem_cons.mpr ⟨s1, List.forall_mem_cons.mpr ⟨s2, List.forall_mem_cons.mpr ⟨s3, List.forall_mem_nil _⟩⟩⟩) ?_
  intro gp Fp Np Bp Xp Tp Ip
  clear F1 N1 B1 X1 T1 FG1
  (try dsimp only)
  (try k_lift Bp)
  (try k_fold)
  k_steps
  refine CiStop.go ?_
  k_dflt (refine' truthy_txts ?N ?m ?hr ?_)
  case N => k_asm
  case m => k_mem
  case hr => (show ws.length + 1 ≤ 3001); omega
  dsimp only [List.isEmpty, Bool.not_false]
  k_steps
  refine CiStop.go ?_
  k_dflt (refine' pop_txts (r := ws) ?F ?N ?hr ?U ?_)
  case F => k_asm
  case N => k_asm
  case hr => omega
  case U => k_upd
  k_whole
  intro h2 F2 N2
  k_steps
  rename News h₀ L _ news => Nt
  rename News h₀ L _ (_ :: _) => NN
  refine' ret _ _ _ ?F (news_cons NN ?m0 (news_cons NN ?m1 (news_cons NN ?m2 Nt)))
  case F => k_asm
  case m0 => k_dflt k_mem
  case m1 => k_dflt k_mem
  case m2 => k_dflt k_mem

end
section
open PySem PySem.W PyProof.Rows PySem.Spec PySem.Calls
local macro_rules | `(tactic| walk_at "call builtin:len") => `(tactic| (k_here; (with_reducible show wpAny _ _ (call (Value.builtin _) [Value.str (mk _) _]) _ _ _); refine CiStop.out ?_))
local macro_rules | `(tactic| walk_at "subscriptTail Name Slice str ref") => `(tactic| (k_here; refine CiStop.out ?_))
theorem on_c {w : World} {loose : List Str} {mean : ExcName → Option Value} {mg mb : Str → Option Value}
  {dp un : Nat} {gd : Option (List Code)} {cn : Str} {cs : Scope} {a : Addr} {ccd : Value} {cl : List (Str × Addr)} {outer : List Env} {A₀ : Around} {base h₀ : Heap} {L : Addr} {m : Str → Option Value} {s : Shared} {Q E : Value → Shared → Prop}
  {news : List (Addr × Obj)} {l : List Nat} {n : Nat} {ta tn : Tok} (hl : l.length ≤ 100) (hn : n ≤ 10)
  (B : Below A₀ base outer h₀) (F : Fr h₀ L s.heap m) (X : (hd.heap_1 w.params).In h₀) (T : Top topProg loose mean mg mb h₀) (hk : cs.kind = .function) (N : News h₀ L s.heap news) (hdp : dp + 4 < recursionLimit) (hun : un + 40 < cLine)
  (ret : ∀ tr h' tk', Fr h₀ L h' m → News h₀ L h' news → Q (.str (mk (onC n l)) tr) { s with heap := h', toks := tk' }) :
  wpAny (model PySem.Challenge.rw_sc0080_02.row.prog w) (ktrTop dp un gd cn cs L a ccd cl outer) (call (.ref 165) [.str (mk l) ta, .int (n : Int) tn]) Q E s := by
  revert X
  k_fill
  intro X
  refine wpAny_call ?_
  k_dflt (refine' code_defL ?k1 ?k2 ?k3 ?k4 ?k5 ?kA ?kF ?kK ?k6 ?k7 ?k8 ?k9 ?kB ?_ ?c2 ?c3 ?c4 ?c5)
  case kA => exact rfl
  case kF => exact rfl
  case kK => assumption
  case k1 => k_asm
  case k2 => k_asm
  case k3 => k_asm
  case k4 => exact N
  case k5 => k_asm
  case k6 => k_is
  case k7 => k_is
  case k8 => ktr_room
  case k9 => exact BindsTo.of_eq rfl
  case c5 => decide
  case kB => exact locs rfl
  case c2 => exact rfl
  case c3 => exact rfl
  case c4 => exact rfl
  intro g1 L1 h1 FG1 F1 N1 B1 X1 T1 lw1
  refine rebaseK (ex := []) F1 N1 B1 X1 T1 (news_in N (by intro p hp; repeat' first | exact hp | refine List.Mem.tail _ ?_)) (fun p hp => lw1 p (by repeat' first | exact hp | refine List.Mem.tail _ ?_)) (List.forall_mem_nil _) ?_
  intro gp Fp Np Bp Xp Tp Ip
  clear F1 N1 B1 X1 T1 FG1
  (try dsimp only)
  (try k_lift Bp)
  (try k_fold)
  k_steps
  refine CiStop.go ?_
  refine mk_len (by omega) ?_
  k_steps
  · refine CiStop.go ?_
    rename ((n : Nat) : Int) + 1 < _ => hlt
    rename Fr gp L1 _ _ => FF
    rename News gp L1 _ _ => NN
    refine mk_sn (s := ⟨_, _, _, _, _⟩) FF NN (by omega) (by omega) ?_
    intro _ _ _ _ _
    k_steps
    rename News h₀ L _ news => Nt
    have e : onC n l = l.drop n := if_pos (by omega)
    rw [e] at ret
    exact ret _ _ _ (by k_asm) Nt
  · rename ¬ _ => hlt
    rename News h₀ L _ news => Nt
    have e : onC n l = l := if_neg (by omega)
    rw [e] at ret
    exact ret _ _ _ (by k_asm) Nt

end
section
open PySem PySem.W PyProof.Rows PySem.Spec PySem.Calls
/-- what is spare with the free place p (n places) -/
def spareP (ws : List Int) (n : Nat) (p : Int) : List Int := (List.range (n - 1)).map fun (i : Nat) => ((ws.filter fun w => decide ((w - p - 1).fmod n < 1 + (i : Int))).length : Int) - (1 + (i : Int))
def freeP (ws : List Int) (n : Nat) : Nat → Nat → Int × Int
  | 0, _ => (0, 0)
  | r + 1, i => if ∀ a ∈ spareP ws n (1 + (i : Int)), 0 ≤ a then (1 + (i : Int), (spareP ws n (1 + (i : Int))).sum) else freeP ws n r (i + 1)
theorem ints_filter_len (q : Int → Bool) : ∀ {vs : List Value} {ws : List Int}, IntsAre vs ws → (vs.filter fun v => match v with | .int x _ => q x | _ => false).length = (ws.filter q).length
  | _, _, .nil => rfl
  | _, _, .cons n t h => by
    rw [List.filter_cons, List.filter_cons]
    have ih := ints_filter_len q h
    by_cases hq : q n = true
    · rw [if_pos hq, if_pos hq, List.length_cons, List.length_cons, ih]
    · rw [if_neg hq, if_neg hq, ih]
theorem ints_of_el : ∀ (n : Nat) (g : Nat → Int) (ys : List Value), ys.length = n → (∀ k v, ys[k]? = some v → ∃ t, v = Value.int (g k) t) → IntsAre ys ((List.range n).map g)
  | 0, g, ys, hl, _ => by
    rw [List.length_eq_zero_iff.mp hl]; exact .nil
  | n + 1, g, ys, hl, h => by
    cases ys with
    | nil => cases hl
    | cons v r =>
      obtain ⟨t, rfl⟩ := h 0 v rfl
      rw [List.range_succ_eq_map, List.map_cons, List.map_map]
      exact .cons _ t (ints_of_el n (fun k => g (k + 1)) r (Nat.succ.inj hl) fun k v hk => h (k + 1) v hk)
theorem freeP_hit {ws : List Int} {n r i : Nat} (h : ∀ a ∈ spareP ws n (1 + (i : Int)), 0 ≤ a) : freeP ws n (r + 1) i = (1 + (i : Int), (spareP ws n (1 + (i : Int))).sum) := if_pos h
theorem freeP_miss {ws : List Int} {n r i : Nat} (h : ¬ ∀ a ∈ spareP ws n (1 + (i : Int)), 0 ≤ a) : freeP ws n (r + 1) i = freeP ws n r (i + 1) := if_neg h
inductive FrJ (ws : List Int) (n : Nat) (W : Addr) (vs : List Value) (e : Nat) (tn : Tok) (cP cS cW : Addr) (i : Nat) (m : Str → Option Value) : List (Addr × Obj) → Prop
  | mk {oW oS oP : Obj} (hP : ∃ v, oP.data = .cell v) (hW : oW.data = .cell (some (.ref W))) (hS : oS.data = .cell (some (.int (n : Int) tn))) (hf : freeP ws n (n - i) i = freeP ws n n 0) : FrJ ws n W vs e tn cP cS cW i m [(cP, oP), (cS, oS), (cW, oW), (W, listOf vs.toArray e)]
local macro_rules | `(tactic| walk_at "exec For Name Call cons nil") => `(tactic| (k_here; refine CiStop.out ?_))
local macro_rules | `(tactic| walk_at "exec Assign") => `(tactic| (k_here; (with_reducible show wpAny _ _ (exec (Stmt.Assign _ (Expr.ListComp _ _ _ _) _) _) _ _ _); refine CiStop.out ?_))
local macro_rules | `(tactic| walk_at "call builtin:min") => `(tactic| (k_here; refine CiStop.out ?_))
local macro_rules | `(tactic| walk_at "call builtin:sum") => `(tactic| (k_here; refine CiStop.out ?_))
local macro_rules | `(tactic| walk_at "eval ListComp") => `(tactic| (k_here; (with_reducible show wpAny _ _ (eval (Expr.ListComp (Expr.Name _ _) _ _ _) _) _ _ _); refine CiStop.out ?_))
local macro_rules | `(tactic| walk_at "CompSrcT") => `(tactic| (refine CiStop.out ?_))
theorem free_c {w : World} {loose : List Str} {mean : ExcName → Option Value} {mg mb : Str → Option Value}
  {dp un : Nat} {gd : Option (List Code)} {cn : Str} {cs : Scope} {a : Addr} {ccd : Value} {cl : List (Str × Addr)} {outer : List Env} {A₀ : Around} {base h₀ : Heap} {L : Addr} {m : Str → Option Value} {s : Shared} {Q E : Value → Shared → Prop}
  {news : List (Addr × Obj)} {W : Addr} {e n : Nat} {vs : List Value} {ws : List Int} {tn : Tok} (hI : IntsAre vs ws) (hl : ws.length ≤ 10) (hb : ∀ x ∈ ws, -100 < x ∧ x < 100) (hn : 2 ≤ n) (hn2 : n ≤ 10)
  (B : Below A₀ base outer h₀) (F : Fr h₀ L s.heap m) (X : (hd.heap_1 w.params).In h₀) (T : Top topProg loose mean mg mb h₀) (hk : cs.kind = .function) (N : News h₀ L s.heap ((W, listOf vs.toArray e) :: news)) (sW : Sep W news) (cz : CodeHd base 152 148) (hdp : dp + 8 < recursionLimit) (hun : un + 80 < cLine)
  (ret : ∀ d t1 t2 h' tk', Fr h₀ L h' m → News h₀ L h' ((d, tupObj #[.int (freeP ws n n 0).1 t1, .int (freeP ws n n 0).2 t2]) :: (W, listOf vs.toArray e) :: news) → Sep d news → NeN d W → Q (.ref d) { s with heap := h', toks := tk' }) :
  wpAny (model PySem.Challenge.rw_sc0080_02.row.prog w) (ktrTop dp un gd cn cs L a ccd cl outer) (call (.ref 158) [.ref W, .int (n : Int) tn]) Q E s := by
  revert X
  k_fill
  intro X
  refine wpAny_call ?_
  k_dflt (refine' code_defC ?k1 ?k2 ?k3 ?k4 ?k5 ?kA ?kF ?kK ?k6 ?k7 ?k8 ?k9 ?kB ?kD ?_ ?c2 ?c3 ?c4)
  case kA => exact rfl
  case kF => exact rfl
  case kK => assumption
  case k1 => k_asm
  case k2 => k_asm
  case k3 => k_asm
  case k4 => exact N
  case k5 => k_asm
  case k6 => k_is
  case k7 => k_is
  case k8 => ktr_room
  case k9 => exact BindsTo.of_eq rfl
  case kB => exact rfl
  case kD => decide +kernel
  case c2 => exact rfl
  case c3 => exact rfl
  case c4 => exact rfl
  intro g1 L1 h1 tk1 cells1 FG1 F1 N1 Y1 B1 X1 T1 lw1
  k_cells Y1
  simp only [List.cons_append, List.nil_append] at N1
  refine rebaseK (ex := [_, _, _, _]) F1 N1 B1 X1 T1 (news_in N (by intro p hp; repeat' first | exact hp | refine List.Mem.tail _ ?_)) (fun p hp => lw1 p (by repeat' first | exact hp | refine List.Mem.tail _ ?_)) (List.forall_mem_cons.mpr ⟨sep_cell lw1 (by intro p hp; repeat' first | exact hp | refine List.Mem.tail _ ?_) (by omega), List.forall_mem_cons.mpr ⟨sep_cell lw1 (by intro p hp; repeat' first | exact hp | refine List.Mem.tail _ ?_) (by omega), List.forall_mem_cons.mpr ⟨sep_cell lw1 (by intro p hp; repeat' first | exact hp | refine List.Mem.tail _ ?_) (by omega), List.forall_mem_cons.mpr ⟨sW, List.forall_mem_nil _⟩⟩⟩⟩) ?_
  intro gp Fp Np Bp Xp Tp Ip
  clear F1 N1 B1 X1 T1 FG1
  (try dsimp only)
  (try k_lift Bp)
  (try k_fold)
  k_steps
  refine CiStop.go ?_
  rename Fr gp L1 _ _ => FF
  rename News gp L1 _ _ => NN
  refine' rga_for (a := 1) (b := (n : Int) + 1) (h₀ := gp) (L := L1) (n := n) (by decide) (by decide) (FrJ ws n W vs e tn (L1 + 1 + 1 + 1) (L1 + 1 + 1) (L1 + 1)) rfl ?ev ?turn ?done ?hs ?hE
  case hs => intro _; rfl
  case hE => passes_own
  case ev =>
    k_steps
    rename Fr gp L1 _ _ => FF
    rename News gp L1 _ _ => NN
    refine CiStop.go ?_
    rename IsRange _ _ _ _ _ _ _ _ => hr
    refine ⟨_, _, _, _, _, _, _, _, rfl, rfl, hr, Int.add_comm _ _, by omega, FF, NN, FrJ.mk ⟨_, by assumption⟩ (by assumption) (by assumption) (by rw [Nat.sub_zero])⟩
  case turn =>
    rintro i I h2 tk2 ti m2 news2 hi ⟨⟨vP, hP⟩, hW, hS, hf⟩ sI F2 N2
    k_steps
    refine CiStop.go ?_
    rename Fr gp L1 _ _ => FF
    rename News gp L1 _ _ => NN
    k_dflt (refine' Assign_ListComp_C (h₀ := gp) (L := L1) (m := m2) ?hLe ?hsw ?hclos ?hce ?hpc ?hkind ?hnames ?hx ?hy ?hp ?_)
    case hLe => rfl
    case hsw => rfl
    case hclos => rfl
    case hce => intro k; rfl
    case hpc => intro h; rfl
    case hkind => rfl
    case hnames => decide
    case hx => rfl
    case hy => rfl
    case hp => rfl
    k_steps
    refine CiStop.go ?_
    rename IsRange _ _ _ _ _ _ _ _ => hr
    rename Fr gp L1 _ _ => FF
    rename News gp L1 _ _ => NN
    refine CellSrc.mk (n := n - 1) (fun k y => ∃ t, y = Value.int (((ws.filter fun w => decide ((w - (1 + (i : Int)) - 1).fmod n < 1 + (k : Int))).length : Int) - (1 + (k : Int))) t) rfl FF NN hr (small_one (by omega) (by omega) (by omega) (by omega)) ?hn (by rw [sizeLine_eq]; omega) ?turn ?fin
    case hn =>
      have e : (n : Int) = 1 + ((n - 1 : Nat) : Int) := by omega
      rw [e]; exact rga_size 1 (n - 1)
    case turn =>
      intro k t I2 oI C Z oZ D2 ys h3 tk3 E' hk2 hy hZ F3 N3
      k_steps
      refine CiStop.go ?_
      k_dflt (refine LCt.ListComp_T (F₀ := F3) (by with_unfolding_all rfl) (by decide) (by rfl) (by decide) (by rfl) ?_)
      k_steps
      refine CiStop.go ?_
      rename Fr gp L1 _ _ => F4
      rename News gp L1 _ _ => N4
      k_dflt (refine LCt.CompSrcT.ledger rfl F4 N4 (ax := W) (its := vs.toArray) (k := e) (by k_mem) (by rw [List.size_toArray, hI.length, sizeLine_eq]; omega) ?_)
      intro g4
      refine cx_filter (fun v => match v with | .int x _ => decide ((x - (1 + (i : Int)) - 1).fmod n < 1 + (k : Int)) | _ => false) (.inr ⟨listOf vs.toArray e, ?hm, rfl, e, rfl⟩) ?hkL ?hkd ?hdb ?turn2 ?fin2
      case hm => k_dflt k_mem
      case hkL => rfl
      case hkd => rfl
      case hdb => decide +kernel
      case turn2 =>
        intro j v I5 oI5 C5 oC5 D5 m5 ys5 h5 tk5 E5 hv hC5 hx5 F5 N5 off ne
        obtain ⟨x, tx, rfl⟩ := ints_at hI hv
        k_steps
        exact ⟨rfl, _, _, rfl, F5, N5⟩
      case fin2 =>
        refine finE_sep fun D6 h6 tk6 F6 N6 s6 => ?_
        k_steps
        k_dflt (refine len_list (items := (vs.filter fun v => match v with | .int x _ => decide ((x - (1 + (i : Int)) - 1).fmod n < 1 + (k : Int)) | _ => false).toArray) ⟨_, (N6 _ (.head _)).1, rfl, _, rfl⟩ ?sz ?_)
        case sz =>
          have e1 := List.length_filter_le (fun v => match v with | .int x _ => decide ((x - (1 + (i : Int)) - 1).fmod n < 1 + (k : Int)) | _ => false) vs
          rw [hI.length] at e1
          rw [List.size_toArray]; omega
        rw [List.size_toArray, ints_filter_len (fun x => decide ((x - (1 + (i : Int)) - 1).fmod n < 1 + (k : Int))) hI]
        k_steps
        refine CiStop.go ?_
        rename Fr gp L1 _ _ => F8
        rename News gp L1 _ _ => N8
        exact ⟨_, _, rfl, F8, fun p hp => N8 p (by repeat' first | exact hp | refine List.Mem.tail _ ?_), _, rfl⟩
    case fin =>
      intro D2 h3 tk3 ys hlen hEl F3 N3 lo
      have hS2 : IntsAre ys (spareP ws n (1 + (i : Int))) := ints_of_el (n - 1) _ ys hlen hEl
      k_steps
      refine CiStop.go ?_
      k_dflt (refine' kso_min F3 N3 ?hl hS2 ?hne rfl ?_)
      case hl => exact ⟨_, (N3 _ (.head _)).1, rfl, _, rfl⟩
      case hne => unfold spareP; rw [List.length_map, List.length_range]; omega
      k_whole
      intro h7 M7 t7 tk7 F7 N7 hM hMin
      obtain ⟨r7, hr7⟩ : ∃ r, n - i = r + 1 := ⟨n - i - 1, by omega⟩
      k_steps
      · refine CiStop.go ?_
        rename 0 ≤ M7 => h0
        rename Fr gp L1 _ _ => F8
        rename News gp L1 _ _ => N8
        k_dflt (refine' LSm.sum_ints F8 N8 rfl ?hl2 hS2 ?_)
        case hl2 => exact ⟨_, (N8 _ (by k_mem)).1, rfl, _, rfl⟩
        k_whole
        intro h9 tk9 t9 F9 N9
        have hfe : freeP ws n n 0 = (1 + (i : Int), (spareP ws n (1 + (i : Int))).sum) := by
          rw [← hf, hr7]
          exact freeP_hit fun a ha => Int.le_trans h0 (hMin a ha)
        rw [hfe] at ret
        k_steps
        rename News h₀ L _ news => Nt
        rename News h₀ L _ (_ :: _) => NN9
        rename News gp _ _ _ => NP
        refine' ret _ _ _ _ _ ?rF (news_cons NN9 ?rm0 (news_cons NN9 ?rm1 Nt)) ?rs ?rn
        case rF => k_asm
        case rm0 => k_dflt k_mem
        case rm1 => k_dflt k_mem
        case rs => exact InBase.sep (x := (_, _)) Ip NP (by k_dflt k_mem)
        case rn => exact ⟨by k_ne⟩
      · refine CiStop.go ?_
        rename ¬ 0 ≤ M7 => h0
        rename Fr gp L1 _ _ => F8
        rename News gp L1 _ _ => N8
        refine ⟨_, _, _, [(_, _), (_, _), (_, _), (_, _)], rfl, F8, fun p hp => N8 p (.tail _ hp), ?sp, FrJ.mk ⟨_, by assumption⟩ hW hS ?hf2⟩
        case sp => ((repeat' first | exact List.forall_mem_nil _ | exact ⟨by k_ne⟩ | refine List.forall_mem_cons.mpr ⟨?_, ?_⟩))
        case hf2 =>
          have e1 : n - (i + 1) = r7 := by omega
          rw [← hf, hr7, e1]
          exact (freeP_miss fun hall => h0 (hall M7 hM)).symm
  case done =>
    rintro h2 tk2 m2 news2 ⟨⟨vP, hP⟩, hW, hS, hf⟩ F2 N2
    have hfe : freeP ws n n 0 = (0, 0) := by
      rw [← hf, Nat.sub_self]; rfl
    rw [hfe] at ret
    k_steps
    rename News h₀ L _ news => Nt
    rename News h₀ L _ (_ :: _) => NN9
    rename News gp _ _ _ => NP
    refine' ret _ _ _ _ _ ?rFb (news_cons NN9 ?rm0b (news_cons NN9 ?rm1b Nt)) ?rsb ?rnb
    case rFb => k_asm
    case rm0b => k_dflt k_mem
    case rm1b => k_dflt k_mem
    case rsb => exact InBase.sep (x := (_, _)) Ip NP (by k_dflt k_mem)
    case rnb => exact ⟨by k_ne⟩

end
section
open PySem PySem.W PyProof.Rows PySem.Spec PySem.Calls
local macro_rules | `(tactic| walk_at "exec For Name Name cons nil") => `(tactic| (k_here; refine CiStop.out ?_))
local macro_rules | `(tactic| walk_at "exec For Name Call cons nil") => `(tactic| (k_here; refine CiStop.out ?_))
local macro_rules | `(tactic| walk_at "call ref") => `(tactic| (k_here; refine CiStop.out ?_))
local macro_rules | `(tactic| walk_at "call type:list") => `(tactic| (k_here; refine CiStop.out ?_))
local macro_rules | `(tactic| walk_at "call builtin:list.append") => `(tactic| (k_here; refine CiStop.out ?_))
local macro_rules | `(tactic| walk_at "call builtin:list.pop") => `(tactic| (k_here; refine CiStop.out ?_))
local macro_rules | `(tactic| walk_at "compareOp Eq ref ref") => `(tactic| (k_here; refine CiStop.out ?_))
local macro_rules | `(tactic| walk_at "eval ListComp") => `(tactic| (k_here; refine CiStop.out ?_))
local macro_rules | `(tactic| walk_at "CutFlow") => `(tactic| (dsimp only [CutFlow]))
local macro_rules | `(tactic| walk_at "CompSrcT") => `(tactic| (refine CiStop.out ?_))
inductive DrJ1 (w : World) (L1 xi xd fx pb : Addr) (k1 k2 k3 k4 k5 kl : Tok) (ln : Int) (ws : List (Str × Tok)) (W : Addr) (e0 n : Nat) (tn : Tok) (i : Nat) : (Str → Option Value) → List (Addr × Obj) → Prop
  | mk {oC : Obj} {np : Nat} {u : Str → Option Value} (hC : ∃ v, oC.data = .cell v) : DrJ1 w L1 xi xd fx pb k1 k2 k3 k4 k5 kl ln ws W e0 n tn i (kstB u [(Str.ofString "lexer", .ref xi), (Str.ofString "words", .ref W), (Str.ofString "size", .int (n : Int) tn)]) [(L1 + 1, oC), (xi, instObj 128 xd), (xd, dictOf [{ hash := PyData.keyHash w.params (Str.ofString "lineno"), key := Value.str (Str.ofString "lineno") k1, val := Value.int ln kl }, { hash := PyData.keyHash w.params (Str.ofString "instream"), key := Value.str (Str.ofString "instream") k2, val := Value.ref fx }, { hash := PyData.keyHash w.params (Str.ofString "whitespace"), key := Value.str (Str.ofString "whitespace") k3, val := Value.str (Str.ofString "\n\t\x0d ") k4 }, { hash := PyData.keyHash w.params (Str.ofString "pushback"), key := Value.str (Str.ofString "pushback") k5, val := Value.ref pb }] 4), (pb, listOf (txts (ws.take i)) np), (W, listOf (txts ws) e0)]
inductive DrJ2 (w : World) (L1 xi xd fx pb lA pA : Addr) (k1 k2 k3 k4 k5 kl : Tok) (ln : Int) (n : Nat) (tn : Tok) (ls : List (List Nat)) (i : Nat) : (Str → Option Value) → List (Addr × Obj) → Prop
  | mk {oC : Obj} {np nl npk : Nat} {pws lws pks : List (Str × Tok)} {line parked : List (List Nat)} {sd : Int} {ts : Tok} {u : Str → Option Value} (hC : ∃ v, oC.data = .cell v) (h1 : pws.map (·.1) = line.map mk) (h2 : lws.map (·.1) = line.map mk) (h3 : pks.map (·.1) = parked.map mk) (hl : ∀ l ∈ line, Wd n l) (hp : ∀ l ∈ parked, Wd n l) (hn1 : line.length + parked.length ≤ 4) (hd : drv n (n * n - i) line parked sd = drv n (n * n) ls [] 0) : DrJ2 w L1 xi xd fx pb lA pA k1 k2 k3 k4 k5 kl ln n tn ls i (kstB u [(Str.ofString "lexer", .ref xi), (Str.ofString "size", .int (n : Int) tn), (Str.ofString "line", .ref lA), (Str.ofString "parked", .ref pA), (Str.ofString "sendings", .int sd ts)]) [(L1 + 1, oC), (xi, instObj 128 xd), (xd, dictOf [{ hash := PyData.keyHash w.params (Str.ofString "lineno"), key := Value.str (Str.ofString "lineno") k1, val := Value.int ln kl }, { hash := PyData.keyHash w.params (Str.ofString "instream"), key := Value.str (Str.ofString "instream") k2, val := Value.ref fx }, { hash := PyData.keyHash w.params (Str.ofString "whitespace"), key := Value.str (Str.ofString "whitespace") k3, val := Value.str (Str.ofString "\n\t\x0d ") k4 }, { hash := PyData.keyHash w.params (Str.ofString "pushback"), key := Value.str (Str.ofString "pushback") k5, val := Value.ref pb }] 4), (pb, listOf (txts pws) np), (lA, listOf (txts lws) nl), (pA, listOf (txts pks) npk)]
inductive DrZ (s : Shared) (gp : Heap) (L1 pA : Addr) (res : List (List Nat) × Int) (s' : Shared) : Prop
  | mk {hp : Heap} {tk npk : Nat} {ts : Tok} {u : Str → Option Value} {pks : List (Str × Tok)} (j0 : s' = { s with heap := hp, toks := tk }) (j1 : Fr gp L1 hp (kstB u [(Str.ofString "parked", .ref pA), (Str.ofString "sendings", .int res.2 ts)])) (j2 : News gp L1 hp [(pA, listOf (txts pks) npk)]) (j3 : pks.map (·.1) = res.1.map mk) : DrZ s gp L1 pA res s'
theorem drive_c {w : World} {loose : List Str} {mean : ExcName → Option Value} {mg mb : Str → Option Value}
  {dp un : Nat} {gd : Option (List Code)} {cn : Str} {cs : Scope} {a : Addr} {ccd : Value} {cl : List (Str × Addr)} {outer : List Env} {A₀ : Around} {base h₀ : Heap} {L : Addr} {m : Str → Option Value} {s : Shared} {Q E : Value → Shared → Prop}
  {news : List (Addr × Obj)} {xi xd fx pb : Addr} {k1 k2 k3 k4 k5 kl : Tok} {ln : Int} {np : Nat} {ws : List (Str × Tok)} {W : Addr} {e0 n : Nat} {tn : Tok} {ls : List (List Nat)} (hws : ws.map (·.1) = ls.map mk) (hls : ∀ l ∈ ls, Wd n l) (hlen : ls.length ≤ 4) (hn : n ≤ 5)
  (B : Below A₀ base outer h₀) (F : Fr h₀ L s.heap m) (X : (hd.heap_1 w.params).In h₀) (T : Top topProg loose mean mg mb h₀) (hk : cs.kind = .function)
  (N : News h₀ L s.heap ((xi, instObj 128 xd) :: (xd, dictOf [{ hash := PyData.keyHash w.params (Str.ofString "lineno"), key := Value.str (Str.ofString "lineno") k1, val := Value.int ln kl }, { hash := PyData.keyHash w.params (Str.ofString "instream"), key := Value.str (Str.ofString "instream") k2, val := Value.ref fx }, { hash := PyData.keyHash w.params (Str.ofString "whitespace"), key := Value.str (Str.ofString "whitespace") k3, val := Value.str (Str.ofString "\n\t\x0d ") k4 }, { hash := PyData.keyHash w.params (Str.ofString "pushback"), key := Value.str (Str.ofString "pushback") k5, val := Value.ref pb }] 4) :: (pb, listOf (txts ([])) np) :: (W, listOf (txts ws) e0) :: news)) (s1 : Sep xi news) (s2 : Sep xd news) (s3 : Sep pb news) (sW : Sep W news) (e4 : NeN xi W) (e5 : NeN xd W) (e6 : NeN pb W) (e1 : NeN xi xd) (e2 : NeN xi pb) (e3 : NeN xd pb) (cz : CodeHd base 152 148)
  (hdp : dp + 16 < recursionLimit) (hun : un + 120 < cLine)
  (ret : ∀ d P ps eP t h' tk', ps.map (·.1) = (drv n (n * n) ls [] 0).1.map mk → Fr h₀ L h' m → News h₀ L h' ((d, tupObj #[.ref P, .int (drv n (n * n) ls [] 0).2 t]) :: (P, listOf (txts ps) eP) :: news) → Sep d news → Sep P news → NeN d P → Q (.ref d) { s with heap := h', toks := tk' }) :
  wpAny (model PySem.Challenge.rw_sc0080_02.row.prog w) (ktrTop dp un gd cn cs L a ccd cl outer) (call (.ref 170) [.ref xi, .ref W, .int (n : Int) tn]) Q E s := by
  revert X
  k_fill
  intro X
  refine wpAny_call ?_
  k_dflt (refine' code_defC ?k1 ?k2 ?k3 ?k4 ?k5 ?kA ?kF ?kK ?k6 ?k7 ?k8 ?k9 ?kB ?kD ?_ ?c2 ?c3 ?c4)
  case kA => exact rfl
  case kF => exact rfl
  case kK => assumption
  case k1 => k_asm
  case k2 => k_asm
  case k3 => k_asm
  case k4 => exact N
  case k5 => k_asm
  case k6 => k_is
  case k7 => k_is
  case k8 => ktr_room
  case k9 => exact BindsTo.of_eq rfl
  case kB => exact rfl
  case kD => decide +kernel
  case c2 => exact rfl
  case c3 => exact rfl
  case c4 => exact rfl
  intro g1 L1 h1 tk1 cells1 FG1 F1 N1 Y1 B1 X1 T1 lw1
  k_cells Y1
  simp only [List.cons_append, List.nil_append] at N1
  refine rebaseK (ex := [_, _, _, _, _]) F1 N1 B1 X1 T1 (news_in N (by intro p hp; repeat' first | exact hp | refine List.Mem.tail _ ?_)) (fun p hp => lw1 p (by repeat' first | exact hp | refine List.Mem.tail _ ?_)) (List.forall_mem_cons.mpr ⟨sep_cell lw1 (by intro p hp; repeat' first | exact hp | refine List.Mem.tail _ ?_) (by omega), List.forall_mem_cons.mpr ⟨s1, List.forall_mem_cons.mpr ⟨s2, List.forall_mem_cons.mpr ⟨s3, List.forall_mem_cons.mpr ⟨sW, List.forall_mem_nil _⟩⟩⟩⟩⟩) ?_
  intro gp Fp Np Bp Xp Tp Ip
  clear F1 N1 B1 X1 T1 FG1
  (try dsimp only)
  (try k_lift Bp)
  (try k_fold)
  k_steps
  refine CiStop.go ?_
  rename Fr gp L1 _ _ => FF
  rename News gp L1 _ _ => NN
  obtain ⟨j1J, j1I, j1O⟩ : ∃ J : Nat → (Str → Option Value) → List (Addr × Obj) → Prop, (∀ k m l, DrJ1 w L1 xi xd fx pb k1 k2 k3 k4 k5 kl ln ws W e0 n tn k m l → J k m l) ∧ (∀ k m l, J k m l → DrJ1 w L1 xi xd fx pb k1 k2 k3 k4 k5 kl ln ws W e0 n tn k m l) := ⟨_, fun _ _ _ h => h, fun _ _ _ h => h⟩
  refine' ls_for (h₀ := gp) (L := L1) (W := W) (vs := ws.map fun p => Value.str p.1 p.2) j1J rfl ?ev ?hJ ?turn ?done ?hs ?hE
  case hs => intro _; rfl
  case hE => passes_own
  case hJ =>
    intro i m2 news2 h2 hJ N2
    obtain ⟨hC⟩ := j1O _ _ _ hJ
    exact ⟨_, (N2 _ (.tail _ (.tail _ (.tail _ (.tail _ (.head _)))))).1, rfl, _, rfl⟩
  case ev =>
    k_steps
    rename Fr gp L1 _ _ => FF
    rename News gp L1 _ _ => NN
    refine CiStop.go ?_
    exact ⟨_, _, _, _, rfl, rfl, fr_known [(Str.ofString "lexer", .ref xi), (Str.ofString "words", .ref W), (Str.ofString "size", .int (n : Int) tn)] FF (List.forall_mem_cons.mpr ⟨rfl, List.forall_mem_cons.mpr ⟨rfl, List.forall_mem_cons.mpr ⟨rfl, List.forall_mem_nil _⟩⟩⟩), NN, j1I _ _ _ (DrJ1.mk ⟨_, by assumption⟩)⟩
  case turn =>
    intro i x I oI h2 tk2 m2 news2 hx hJ sI F2 N2
    obtain ⟨⟨vC, hC⟩⟩ := j1O _ _ _ hJ
    clear hJ
    have hwi : ∃ p, ws[i]? = some p ∧ x = Value.str p.1 p.2 := by
      rw [List.getElem?_map] at hx
      cases hp : ws[i]? with
      | none => rw [hp] at hx; cases hx
      | some p => rw [hp] at hx; exact ⟨p, rfl, (Option.some.inj hx).symm⟩
    obtain ⟨⟨xs, tx⟩, hpi, rfl⟩ := hwi
    k_steps
    refine CiStop.go ?_
    rename Fr gp L1 _ _ => FF
    rename News gp L1 _ _ => NN
    k_dflt (refine' push_c (ws := ws.take i) (x := xs) (tx := tx) ?hw ?B FF ?X ?T ?hk (news_cons NN (x := (xi, _)) ?m0 (news_cons NN (x := (xd, _)) ?m1 (news_cons NN (x := (pb, _)) ?m2 (news_in NN (r := [(I, oI), (L1 + 1, _), (W, listOf (txts ws) e0)]) ?mr)))) ?s1 ?s2 ?s3 ?e1 ?e2 ?e3 ?cz ?hdp ?hun ?_)
    case hw => rw [List.length_take]; have := congrArg List.length hws; rw [List.length_map, List.length_map] at this; omega
    case B => k_asm
    case X => k_asm
    case T => k_asm
    case hk => exact rfl
    case m0 => k_mem
    case m1 => k_mem
    case m2 => k_mem
    case mr => exact List.forall_mem_cons.mpr ⟨by k_mem, List.forall_mem_cons.mpr ⟨by k_mem, List.forall_mem_cons.mpr ⟨by k_mem, List.forall_mem_nil _⟩⟩⟩
    case s1 => ((repeat' first | exact List.forall_mem_nil _ | exact ⟨by k_ne⟩ | refine List.forall_mem_cons.mpr ⟨?_, ?_⟩))
    case s2 => ((repeat' first | exact List.forall_mem_nil _ | exact ⟨by k_ne⟩ | refine List.forall_mem_cons.mpr ⟨?_, ?_⟩))
    case s3 => ((repeat' first | exact List.forall_mem_nil _ | exact ⟨by k_ne⟩ | refine List.forall_mem_cons.mpr ⟨?_, ?_⟩))
    case e1 => exact e1
    case e2 => exact e2
    case e3 => exact e3
    case cz => kn_code
    case hdp => (try simp only [depth_under_make, depth_under_kw, depth_in1, depth_deeper, depth_caller, Nat.add_assoc, Nat.reduceAdd]); omega
    case hun => (try simp only [units_in1, units_deeper, Around.mark_units, units_caller, Nat.add_assoc, Nat.reduceAdd]); omega
    k_whole
    intro np' h3 tk3 F3 N3
    ((try dsimp only); (try k_fold))
    k_steps
    refine CiStop.go ?_
    rename Fr gp L1 _ _ => FF
    rename News gp L1 _ _ => NN
    have et : ws.take i ++ [(xs, tx)] = ws.take (i + 1) := by rw [List.take_add_one, hpi]; rfl
    rw [et] at NN
    refine ⟨_, _, _, [(_, _), (_, _), (_, _), (_, _), (_, _)], rfl, fr_known [(Str.ofString "lexer", .ref xi), (Str.ofString "words", .ref W), (Str.ofString "size", .int (n : Int) tn)] FF (List.forall_mem_cons.mpr ⟨rfl, List.forall_mem_cons.mpr ⟨rfl, List.forall_mem_cons.mpr ⟨rfl, List.forall_mem_nil _⟩⟩⟩), news_cons NN (by k_mem) (news_cons NN (by k_mem) (news_cons NN (by k_mem) (news_cons NN (by k_mem) (news_cons NN (by k_mem) (news_cons NN (by k_mem) News.nil))))), by ((repeat' first | exact List.forall_mem_nil _ | exact ⟨by k_ne⟩ | refine List.forall_mem_cons.mpr ⟨?_, ?_⟩)), j1I _ _ _ (DrJ1.mk ⟨_, by assumption⟩)⟩
  case done =>
    intro h2 tk2 m2 news2 hJ F2 N2
    obtain ⟨⟨vC, hC⟩⟩ := j1O _ _ _ hJ
    clear hJ
    have hwl : ws.length ≤ 4 := by have := congrArg List.length hws; rw [List.length_map, List.length_map] at this; omega
    rw [List.length_map, List.take_length] at N2
    k_steps
    refine CiStop.go ?_
    rename Fr gp L1 _ _ => FF
    rename News gp L1 _ _ => NN
    k_dflt (refine' list_txts (ws := ws) (D := W) FF NN ?m ?hz ?_)
    case m => k_mem
    case hz => omega
    k_whole
    intro lA nl h3 F3 N3 l3
    k_steps
    refine CiStop.go ?_
    rename_i pA hz1 lp hz2 hz3 FP NP
    refine' exec_cut (DrZ s gp L1 pA (drv n (n * n) ls [] 0)) ?hx ?fin
    case hx =>
      obtain ⟨j2J, j2I, j2O⟩ : ∃ J : Nat → (Str → Option Value) → List (Addr × Obj) → Prop, (∀ k m l, DrJ2 w L1 xi xd fx pb lA pA k1 k2 k3 k4 k5 kl ln n tn ls k m l → J k m l) ∧ (∀ k m l, J k m l → DrJ2 w L1 xi xd fx pb lA pA k1 k2 k3 k4 k5 kl ln n tn ls k m l) := ⟨_, fun _ _ _ h => h, fun _ _ _ h => h⟩
      refine' rg_for (h₀ := gp) (L := L1) (n := n * n) j2J rfl ?ev ?turn ?done ?hs ?hE
      case hs => intro _; rfl
      case hE => passes_own
      case ev =>
        k_steps
        rename Fr gp L1 _ _ => FF
        rename News gp L1 _ _ => NN
        rename IsRange _ _ _ _ _ _ _ _ => hr
        refine CiStop.go ?_
        have enn : ((n * n : Nat) : Int) = (n : Int) * (n : Int) := Int.natCast_mul n n
        exact ⟨_, _, _, _, _, _, _, _, rfl, rfl, by rw [enn]; exact hr, Nat.le_trans (Nat.mul_le_mul hn hn) (by decide), fr_known [(Str.ofString "lexer", .ref xi), (Str.ofString "size", .int (n : Int) tn), (Str.ofString "line", .ref lA), (Str.ofString "parked", .ref pA), (Str.ofString "sendings", .int 0 _)] FF (List.forall_mem_cons.mpr ⟨rfl, List.forall_mem_cons.mpr ⟨rfl, List.forall_mem_cons.mpr ⟨rfl, List.forall_mem_cons.mpr ⟨rfl, List.forall_mem_cons.mpr ⟨rfl, List.forall_mem_nil _⟩⟩⟩⟩⟩), news_cons NN (by k_mem) (news_cons NN (by k_mem) (news_cons NN (by k_mem) (news_cons NN (by k_mem) (news_cons NN (by k_mem) (news_cons NN (by k_dflt k_mem) News.nil))))), j2I _ _ _ (DrJ2.mk (pws := ws) (lws := ws) (pks := []) (line := ls) (parked := []) (npk := 0) ⟨_, by assumption⟩ hws hws rfl hls (fun _ h => absurd h List.not_mem_nil) (by rw [List.length_nil]; omega) (by rw [Nat.sub_zero]))⟩
      case turn =>
        intro i I h4 tk4 ti m4 news4 hi J4 sI F4 N4
        have J5 := j2O _ _ _ J4
        clear J4
        cases J5 with
        | @mk oC2 np2 nl2 npk2 pws lws pks line parked sd ts2 u2 hC2 g1 g2 g3 hl hp hn1 hd =>
        obtain ⟨r9, hr9⟩ : ∃ r, n * n - i = r + 1 := ⟨n * n - i - 1, by omega⟩
        cases line with
        | nil =>
          obtain rfl : lws = [] := List.map_eq_nil_iff.mp g2
          k_steps
          refine CiStop.go ?_
          rename_i eA hz4 F9 N9 l9
          k_dflt (refine' eq_txts (ws := []) (ws2 := []) (n := nl2) (n2 := 0) (D := lA) (D2 := eA) N9 ?m1 ?m2 ?o1 ?o2 ?hu ?_)
          case m1 => k_mem
          case m2 => k_mem
          case o1 => exact fun x hx => absurd hx List.not_mem_nil
          case o2 => exact fun x hx => absurd hx List.not_mem_nil
          case hu => (try simp only [units_in1, units_deeper, Around.mark_units, units_caller, Nat.add_assoc, Nat.reduceAdd]); omega
          have hq : decide (([] : List (Str × Tok)).map (·.1) = ([] : List (Str × Tok)).map (·.1)) = true := by decide
          rw [drv_nil] at hd
          rw [← hd]
          k_steps
          rename Fr gp L1 _ _ => FF
          rename News gp L1 _ _ => NN
          refine CiStop.go ?_
          exact ⟨rfl, fr_known [(Str.ofString "parked", .ref pA), (Str.ofString "sendings", .int sd ts2)] FF (List.forall_mem_cons.mpr ⟨rfl, List.forall_mem_cons.mpr ⟨rfl, List.forall_mem_nil _⟩⟩), news_cons NN (by k_mem) News.nil, g3⟩
        | cons wl line' =>
          cases pws with
          | nil => cases g1
          | cons p1 pws' =>
          cases lws with
          | nil => cases g2
          | cons p2 lws' =>
          obtain ⟨x1, t1⟩ := p1
          obtain ⟨x2, t2⟩ := p2
          obtain rfl : x1 = mk wl := (List.cons.inj g1).1
          obtain rfl : x2 = mk wl := (List.cons.inj g2).1
          have g1' := (List.cons.inj g1).2
          have g2' := (List.cons.inj g2).2
          have hwl2 := hl wl (List.mem_cons_self ..)
          have hl' : ∀ l ∈ line', Wd n l := fun l h => hl l (List.mem_cons_of_mem _ h)
          k_steps
          refine CiStop.go ?_
          rename_i eA hz4 F9 N9 l9
          k_dflt (refine' eq_txts (ws := (mk wl, t2) :: lws') (ws2 := []) (n := nl2) (n2 := 0) (D := lA) (D2 := eA) N9 ?m1b ?m2b ?o1b ?o2b ?hub ?_)
          case m1b => k_mem
          case m2b => k_mem
          case o1b => exact wds_ok g2 hl
          case o2b => exact fun x hx => absurd hx List.not_mem_nil
          case hub => (try simp only [units_in1, units_deeper, Around.mark_units, units_caller, Nat.add_assoc, Nat.reduceAdd]); omega
          have hq : decide (((mk wl, t2) :: lws').map (·.1) = ([] : List (Str × Tok)).map (·.1)) = false := decide_eq_false (fun h => by cases h)
          k_steps
          refine CiStop.go ?_
          rename Fr gp L1 _ _ => FF
          rename News gp L1 _ _ => NN
          have hpl : pws'.length ≤ 4 := by
            have e1 := congrArg List.length g1'
            rw [List.length_map, List.length_map] at e1
            rw [List.length_cons] at hn1
            omega
          have hll : lws'.length ≤ 4 := by
            have e1 := congrArg List.length g2'
            rw [List.length_map, List.length_map] at e1
            rw [List.length_cons] at hn1
            omega
          k_dflt (refine' gt_p (ws := pws') (x := mk wl) (tx := t1) ?hw ?B FF ?X ?T ?hk (news_cons NN (x := (xi, _)) ?m0 (news_cons NN (x := (xd, _)) ?m1 (news_cons NN (x := (pb, _)) ?m2 (news_in NN (r := [(I, rgObj ((i + 1 : Nat) : Int) ((n * n : Nat) : Int)), (L1 + 1, oC2), (lA, listOf (txts ((mk wl, t2) :: lws')) nl2), (pA, listOf (txts pks) npk2)]) ?mr)))) ?s1 ?s2 ?s3 e1 e2 e3 ?cz ?hdp ?hun ?_)
          case hw => omega
          case B => k_asm
          case X => k_asm
          case T => k_asm
          case hk => exact rfl
          case m0 => k_mem
          case m1 => k_mem
          case m2 => k_mem
          case mr => exact List.forall_mem_cons.mpr ⟨by k_mem, List.forall_mem_cons.mpr ⟨by k_mem, List.forall_mem_cons.mpr ⟨by k_mem, List.forall_mem_cons.mpr ⟨by k_mem, List.forall_mem_nil _⟩⟩⟩⟩
          case s1 => ((repeat' first | exact List.forall_mem_nil _ | exact ⟨by k_ne⟩ | refine List.forall_mem_cons.mpr ⟨?_, ?_⟩))
          case s2 => ((repeat' first | exact List.forall_mem_nil _ | exact ⟨by k_ne⟩ | refine List.forall_mem_cons.mpr ⟨?_, ?_⟩))
          case s3 => ((repeat' first | exact List.forall_mem_nil _ | exact ⟨by k_ne⟩ | refine List.forall_mem_cons.mpr ⟨?_, ?_⟩))
          case cz => kn_code
          case hdp => (try simp only [depth_under_make, depth_under_kw, depth_in1, depth_deeper, depth_caller, Nat.add_assoc, Nat.reduceAdd]); omega
          case hun => (try simp only [units_in1, units_deeper, Around.mark_units, units_caller, Nat.add_assoc, Nat.reduceAdd]); omega
          k_whole
          intro npA h5 tk5 F5 N5
          ((try dsimp only); (try k_fold))
          obtain ⟨vC2, hC2⟩ := hC2
          k_steps
          refine CiStop.go ?_
          rename Fr gp L1 _ _ => FF
          rename News gp L1 _ _ => NN
          k_dflt (refine' pop_txts (r := lws') FF NN ?hr ?U ?_)
          case hr => omega
          case U => k_upd
          k_whole
          intro h6 F6 N6
          have hqq : (mk wl != mk wl) = false := by simp
          k_steps
          refine CiStop.go ?_
          rename Fr gp L1 _ _ => FF
          rename News gp L1 _ _ => NN
          k_dflt (refine LCt.ListComp_T (F₀ := FF) (by with_unfolding_all rfl) (by decide) (by rfl) (by decide) (by rfl) ?_)
          k_steps
          refine CiStop.go ?_
          rename Fr gp L1 _ _ => F4
          rename News gp L1 _ _ => N4
          have hpkl : pks.length ≤ 4 := by
            have e1 := congrArg List.length g3
            rw [List.length_map, List.length_map] at e1
            omega
          k_dflt (refine LCt.CompSrcT.ledger rfl F4 N4 (ax := pA) (its := txts pks) (k := npk2) (by k_mem) (by rw [txts_size, sizeLine_eq]; omega) ?_)
          intro g4
          refine cx_filter (vs := pks.map fun p => Value.str p.1 p.2) (fun v => match v with | .str x _ => decide (levP x.cps.toList wl 2 ≤ 2) | _ => false) (.inr ⟨listOf (txts pks) npk2, ?hm, rfl, npk2, rfl⟩) ?hkL ?hkd ?hdb ?turn2 ?fin2
          case hm => k_dflt k_mem
          case hkL => rfl
          case hkd => rfl
          case hdb => decide +kernel
          case turn2 =>
            intro j v I5 oI5 C5 oC5 D5 m5 ys5 h7 tk7 E5 hv hC5 hx5 F7 N7 off ne
            have hpj : ∃ l t, Wd n l ∧ v = Value.str (mk l) t := by
              rw [List.getElem?_map] at hv
              cases hp2 : pks[j]? with
              | none => rw [hp2] at hv; cases hv
              | some p =>
                rw [hp2] at hv
                obtain rfl := Option.some.inj hv
                have e1 : (parked.map mk)[j]? = some p.1 := by rw [← g3, List.getElem?_map, hp2]; rfl
                rw [List.getElem?_map] at e1
                cases hl2 : parked[j]? with
                | none => rw [hl2] at e1; cases e1
                | some l =>
                  rw [hl2] at e1
                  exact ⟨l, p.2, hp l (List.mem_of_getElem? hl2), by show Value.str p.1 p.2 = _; rw [← (Option.some.inj e1 : mk l = p.1)]⟩
            obtain ⟨lj, tj, hwj, rfl⟩ := hpj
            k_steps
            refine CiStop.go ?_
            k_dflt (refine' lev_c ?ha ?hb2 (by decide) (by decide) ?B ?F ?X ?T ?hk ?N ?hdp ?hun ?_)
            case ha => rw [mk_length]; have := hwj.len; omega
            case hb2 => rw [mk_length]; have := hwl2.len; omega
            ((case B => k_asm); (case F => k_asm); (case X => k_asm); (case T => k_asm); (case hk => exact rfl); (case N => k_asm))
            case hdp => (try simp only [depth_under_make, depth_under_kw, depth_in1, depth_deeper, depth_caller, Nat.add_assoc, Nat.reduceAdd]); omega
            case hun => (try simp only [units_in1, units_deeper, Around.mark_units, units_caller, Nat.add_assoc, Nat.reduceAdd]); omega
            k_whole
            intro tr h8 tk8 F8 N8
            ((try dsimp only); (try k_fold))
            k_steps
            refine CiStop.go ?_
            exact ⟨rfl, _, _, rfl, F8, N8⟩
          case fin2 =>
            refine finE_sep fun D6 h7 tk7 F7 N7 s7 => ?_
            rw [txts_filter (fun v => match v with | .str x _ => decide (levP x.cps.toList wl 2 ≤ 2) | _ => false) (fun x => decide (levP x.cps.toList wl 2 ≤ 2)) (fun _ _ => rfl) pks] at N7
            have hfm := map_filter_fst (fun x => decide (levP x.cps.toList wl 2 ≤ 2)) pks parked g3
            k_steps
            refine CiStop.go ?_
            rename_i eB hz5 F9 N9 l9
            k_dflt (refine' eq_txts (ws := pks.filter fun y => decide (levP y.1.cps.toList wl 2 ≤ 2)) (ws2 := []) (D := D6) (D2 := eB) (n2 := 0) N9 ?m1c ?m2c ?o1c ?o2c ?huc ?_)
            case m1c => k_dflt k_mem
            case m2c => k_mem
            case o1c => exact wds_ok hfm fun l h => hp l (List.mem_filter.mp h).1
            case o2c => exact fun x hx => absurd hx List.not_mem_nil
            case huc => (try simp only [units_in1, units_deeper, Around.mark_units, units_caller, Nat.add_assoc, Nat.reduceAdd]); omega
            rw [hfm]
            by_cases hpf : parked.filter (fun o => decide (levP o wl 2 ≤ 2)) = []
            · have hq2 : decide ((parked.filter fun l => decide (levP (mk l).cps.toList wl 2 ≤ 2)).map mk = ([] : List (Str × Tok)).map (·.1)) = true := decide_eq_true (by
                have e1 : (parked.filter fun l => decide (levP (mk l).cps.toList wl 2 ≤ 2)) = [] := hpf
                rw [e1]; rfl)
              k_steps
              refine CiStop.go ?_
              rename Fr gp L1 _ _ => FE
              rename News gp L1 _ _ => NE
              k_dflt (refine' append_txts (ws := pks) (x := mk wl) (t := t1) FE NE ?hz ?U ?_)
              case hz => omega
              case U => k_upd
              k_whole
              intro h10 F10 N10
              k_steps
              rename Fr gp L1 _ _ => FE
              rename News gp L1 _ _ => NE
              refine CiStop.go ?_
              have e2 : n * n - (i + 1) = r9 := by omega
              refine ⟨_, _, _, [(_, _), (_, _), (_, _), (_, _), (_, _), (_, _)], rfl, fr_known [(Str.ofString "lexer", .ref xi), (Str.ofString "size", .int (n : Int) tn), (Str.ofString "line", .ref lA), (Str.ofString "parked", .ref pA), (Str.ofString "sendings", .int sd _)] FE (List.forall_mem_cons.mpr ⟨rfl, List.forall_mem_cons.mpr ⟨rfl, List.forall_mem_cons.mpr ⟨rfl, List.forall_mem_cons.mpr ⟨rfl, List.forall_mem_cons.mpr ⟨rfl, List.forall_mem_nil _⟩⟩⟩⟩⟩), news_cons NE (by k_mem) (news_cons NE (by k_mem) (news_cons NE (by k_mem) (news_cons NE (by k_mem) (news_cons NE (by k_mem) (news_cons NE (by k_mem) (news_cons NE (by k_mem) News.nil)))))), by ((repeat' first | exact List.forall_mem_nil _ | exact ⟨by k_ne⟩ | refine List.forall_mem_cons.mpr ⟨?_, ?_⟩)), j2I _ _ _ (DrJ2.mk (pws := pws') (lws := lws') (pks := pks ++ [(mk wl, t1)]) (line := line') (parked := parked ++ [wl]) (sd := sd) ⟨_, by assumption⟩ g1' g2' (by rw [List.map_append, g3, List.map_append]; rfl) hl' (fun l h => (List.mem_append.mp h).elim (hp l) fun h => by rw [List.mem_singleton.mp h]; exact hwl2) (by rw [List.length_append, List.length_singleton]; rw [List.length_cons] at hn1; omega) (by rw [e2]; rw [hr9, drv_park hpf] at hd; exact hd))⟩
            · have hq2 : decide ((parked.filter fun l => decide (levP (mk l).cps.toList wl 2 ≤ 2)).map mk = ([] : List (Str × Tok)).map (·.1)) = false := decide_eq_false (fun h => hpf (List.map_eq_nil_iff.mp h))
              k_steps
              refine CiStop.go ?_
              k_dflt (refine' quote_c ?hxq ?B ?F ?X ?T ?hk ?N ?hdp ?hun ?_)
              case hxq => (show wl.toArray.size ≤ 1000); rw [List.size_toArray]; have := hwl2.len; omega
              ((case B => k_asm); (case F => k_asm); (case X => k_asm); (case T => k_asm); (case hk => exact rfl); (case N => k_asm))
              case hdp => (try simp only [depth_under_make, depth_under_kw, depth_in1, depth_deeper, depth_caller, Nat.add_assoc, Nat.reduceAdd]); omega
              case hun => (try simp only [units_in1, units_deeper, Around.mark_units, units_caller, Nat.add_assoc, Nat.reduceAdd]); omega
              k_whole
              intro z tz h10 tk10 hz F10 N10
              ((try dsimp only); (try k_fold))
              obtain rfl : z = mk (46 :: wl) := mk_codes (hz.trans (by rw [mk_list]; exact hwl2.quote))
              k_steps
              refine CiStop.go ?_
              k_dflt (refine' on_c (l := 46 :: wl) (n := n) ?hl9 ?hn9 ?B ?F ?X ?T ?hk ?N ?hdp ?hun ?_)
              case hl9 => rw [List.length_cons]; have := hwl2.len; omega
              case hn9 => omega
              ((case B => k_asm); (case F => k_asm); (case X => k_asm); (case T => k_asm); (case hk => exact rfl); (case N => k_asm))
              case hdp => (try simp only [depth_under_make, depth_under_kw, depth_in1, depth_deeper, depth_caller, Nat.add_assoc, Nat.reduceAdd]); omega
              case hun => (try simp only [units_in1, units_deeper, Around.mark_units, units_caller, Nat.add_assoc, Nat.reduceAdd]); omega
              k_whole
              intro tr h11 tk11 F11 N11
              ((try dsimp only); (try k_fold))
              k_steps
              refine CiStop.go ?_
              rename Fr gp L1 _ _ => FE
              rename News gp L1 _ _ => NE
              k_dflt (refine' push_c (ws := pws') (x := mk (onC n (46 :: wl))) (tx := tr) ?hw ?B FE ?X ?T ?hk (news_cons NE (x := (xi, _)) ?m0 (news_cons NE (x := (xd, _)) ?m1 (news_cons NE (x := (pb, _)) ?m2 (news_in NE (r := [(I, rgObj ((i + 1 : Nat) : Int) ((n * n : Nat) : Int)), (L1 + 1, _), (lA, listOf (txts lws') (nl2 + 1)), (pA, listOf (txts pks) npk2)]) ?mr)))) ?s1 ?s2 ?s3 e1 e2 e3 ?cz ?hdp ?hun ?_)
              case hw => omega
              case B => k_asm
              case X => k_asm
              case T => k_asm
              case hk => exact rfl
              case m0 => k_mem
              case m1 => k_mem
              case m2 => k_mem
              case mr => exact List.forall_mem_cons.mpr ⟨by k_mem, List.forall_mem_cons.mpr ⟨by k_mem, List.forall_mem_cons.mpr ⟨by k_mem, List.forall_mem_cons.mpr ⟨by k_mem, List.forall_mem_nil _⟩⟩⟩⟩
              case s1 => ((repeat' first | exact List.forall_mem_nil _ | exact ⟨by k_ne⟩ | refine List.forall_mem_cons.mpr ⟨?_, ?_⟩))
              case s2 => ((repeat' first | exact List.forall_mem_nil _ | exact ⟨by k_ne⟩ | refine List.forall_mem_cons.mpr ⟨?_, ?_⟩))
              case s3 => ((repeat' first | exact List.forall_mem_nil _ | exact ⟨by k_ne⟩ | refine List.forall_mem_cons.mpr ⟨?_, ?_⟩))
              case cz => kn_code
              case hdp => (try simp only [depth_under_make, depth_under_kw, depth_in1, depth_deeper, depth_caller, Nat.add_assoc, Nat.reduceAdd]); omega
              case hun => (try simp only [units_in1, units_deeper, Around.mark_units, units_caller, Nat.add_assoc, Nat.reduceAdd]); omega
              k_whole
              intro npB h12 tk12 F12 N12
              ((try dsimp only); (try k_fold))
              k_steps
              refine add_str (hsz := ?hszA) ?_
              case hszA =>
                have e8 : (Str.ofString ".").length = 1 := by decide +kernel
                have e9 := mk_length wl
                have := hwl2.len
                rw [sizeLine_eq]
                simp only [Str.length] at e8 e9 ⊢
                omega
              k_steps
              refine CiStop.go ?_
              have ed : Str.ofString "." ++ mk wl = mk (46 :: wl) := by
                have e9 : Str.ofString "." = ⟨#[46]⟩ := by decide +kernel
                rw [e9]
                refine mk_codes ?_
                show (#[46] ++ wl.toArray).toList = _
                simp
              rw [ed]
              k_dflt (refine' on_c (l := 46 :: wl) (n := n) ?hl9 ?hn9 ?B ?F ?X ?T ?hk ?N ?hdp ?hun ?_)
              case hl9 => rw [List.length_cons]; have := hwl2.len; omega
              case hn9 => omega
              ((case B => k_asm); (case F => k_asm); (case X => k_asm); (case T => k_asm); (case hk => exact rfl); (case N => k_asm))
              case hdp => (try simp only [depth_under_make, depth_under_kw, depth_in1, depth_deeper, depth_caller, Nat.add_assoc, Nat.reduceAdd]); omega
              case hun => (try simp only [units_in1, units_deeper, Around.mark_units, units_caller, Nat.add_assoc, Nat.reduceAdd]); omega
              k_whole
              intro tr2 h13 tk13 F13 N13
              ((try dsimp only); (try k_fold))
              k_steps
              refine CiStop.go ?_
              rename Fr gp L1 _ _ => FE
              rename News gp L1 _ _ => NE
              k_dflt (refine' append_txts (ws := lws') (x := mk (onC n (46 :: wl))) (t := tr2) FE NE ?hz2 ?U ?_)
              case hz2 => omega
              case U => k_upd
              k_whole
              intro h14 F14 N14
              k_steps
              rename Fr gp L1 _ _ => FE
              rename News gp L1 _ _ => NE
              refine CiStop.go ?_
              have e2 : n * n - (i + 1) = r9 := by omega
              refine ⟨_, _, _, [(_, _), (_, _), (_, _), (_, _), (_, _), (_, _)], rfl, fr_known [(Str.ofString "lexer", .ref xi), (Str.ofString "size", .int (n : Int) tn), (Str.ofString "line", .ref lA), (Str.ofString "parked", .ref pA), (Str.ofString "sendings", .int (sd + 1) _)] FE (List.forall_mem_cons.mpr ⟨rfl, List.forall_mem_cons.mpr ⟨rfl, List.forall_mem_cons.mpr ⟨rfl, List.forall_mem_cons.mpr ⟨rfl, List.forall_mem_cons.mpr ⟨rfl, List.forall_mem_nil _⟩⟩⟩⟩⟩), news_cons NE (by k_mem) (news_cons NE (by k_mem) (news_cons NE (by k_mem) (news_cons NE (by k_mem) (news_cons NE (by k_mem) (news_cons NE (by k_mem) (news_cons NE (by k_mem) News.nil)))))), by ((repeat' first | exact List.forall_mem_nil _ | exact ⟨by k_ne⟩ | refine List.forall_mem_cons.mpr ⟨?_, ?_⟩)), j2I _ _ _ (DrJ2.mk (pws := pws' ++ [(mk (onC n (46 :: wl)), tr)]) (lws := lws' ++ [(mk (onC n (46 :: wl)), tr2)]) (pks := pks) (line := line' ++ [onC n (46 :: wl)]) (parked := parked) (sd := sd + 1) ⟨_, by assumption⟩ (by rw [List.map_append, g1', List.map_append]; rfl) (by rw [List.map_append, g2', List.map_append]; rfl) g3 (fun l h => (List.mem_append.mp h).elim (hl' l) fun h => by rw [List.mem_singleton.mp h]; exact hwl2.on) hp (by rw [List.length_append, List.length_singleton]; rw [List.length_cons] at hn1; omega) (by rw [e2]; rw [hr9, drv_on hpf] at hd; exact hd))⟩
      case done =>
        intro h4 tk4 m4 news4 J4 F4 N4
        have J5 := j2O _ _ _ J4
        clear J4
        cases J5 with
        | @mk oC2 np2 nl2 npk2 pws lws pks line parked sd ts2 u2 hC2 g1 g2 g3 hl hp hn1 hd =>
        rw [Nat.sub_self] at hd
        have hd' : drv n (n * n) ls [] 0 = (parked, sd) := by rw [← hd]; rfl
        rw [hd']
        k_steps
        refine CiStop.go ?_
        exact ⟨rfl, fr_known [(Str.ofString "parked", .ref pA), (Str.ofString "sendings", .int sd ts2)] F4 (List.forall_mem_cons.mpr ⟨rfl, List.forall_mem_cons.mpr ⟨rfl, List.forall_mem_nil _⟩⟩), news_cons N4 (by k_mem) News.nil, g3⟩
    case fin =>
      rintro s' ⟨rfl, F5, N5, hpk⟩
      k_steps
      rename News h₀ L _ news => Nt
      rename News h₀ L _ (_ :: _) => NN9
      rename News gp _ _ _ => NP
      refine' ret _ pA _ _ _ _ _ hpk ?rF (news_cons NN9 ?rm0 (news_cons NN9 ?rm1 Nt)) ?rs ?rs2 ?rn
      case rF => k_asm
      case rm0 => k_dflt k_mem
      case rm1 => k_dflt k_mem
      case rs => exact InBase.sep (x := (_, _)) Ip NP (by k_dflt k_mem)
      case rs2 => exact InBase.sep (x := (_, _)) Ip NP (by k_dflt k_mem)
      case rn => exact ⟨by k_ne⟩

end
section
open PySem PySem.W PyProof.Rows PySem.Spec PySem.Calls
def wvI (n : Nat) : Nat → List (List Int)
  | 0 => [[]]
  | k + 1 => (List.range n).flatMap fun (i : Nat) => (wvI n k).map fun v => (1 + (i : Int)) :: v
theorem mem_wv {n : Nat} : ∀ (k : Nat) (ws : List Int), ws.length = k → (∀ x ∈ ws, 1 ≤ x ∧ x ≤ (n : Int)) → ws ∈ wvI n k
  | 0, ws, hl, _ => by
    rw [List.length_eq_zero_iff.mp hl]; exact List.mem_singleton.mpr rfl
  | k + 1, [], hl, _ => nomatch hl
  | k + 1, x :: r, hl, h => by
    have hx := h x (.head _)
    have hr : (x - 1).toNat < n := by omega
    have e : 1 + (((x - 1).toNat : Nat) : Int) = x := by omega
    exact List.mem_flatMap.mpr ⟨(x - 1).toNat, List.mem_range.mpr hr, List.mem_map.mpr ⟨r, mem_wv k r (Nat.succ.inj hl) fun y hy => h y (.tail _ hy), by rw [e]⟩⟩
/-- the cars of the first hour, ws, in the next one -/
def okI (n : Nat) (ws : List Int) : Bool :=
  let ws' := rotI n ws
  let f := freeP ws n n 0
  let d := drv n (n * n) (wdC n ws') [] 0
  let c := cntP ws' n
  decide (freeP ws' n n 0 = (f.1.fmod n + 1, f.2)) && decide (d.2 = f.2) && ((d.1.map fun l => (l.length : Int) - 1) ++ [f.1.fmod n + 1]).isPerm ((List.range n).map fun (i : Nat) => 1 + (i : Int)) &&
    decide (c ≠ []) && decide (cntP ws n = c.tail ++ [c.headD 0]) && decide (gtP ws' n = sufP c) && decide (c.sum = (n : Int) - 1) && c.all fun d => decide (0 ≤ d ∧ d ≤ 4)
theorem ok4I : (wvI 4 3).all (okI 4) = true := by decide +kernel
theorem ok5I1 : ((wvI 5 3).all fun v => okI 5 (1 :: v)) = true := by decide +kernel
theorem ok5I2 : ((wvI 5 3).all fun v => okI 5 (2 :: v)) = true := by decide +kernel
theorem ok5I3 : ((wvI 5 3).all fun v => okI 5 (3 :: v)) = true := by decide +kernel
theorem ok5I4 : ((wvI 5 3).all fun v => okI 5 (4 :: v)) = true := by decide +kernel
theorem ok5I5 : ((wvI 5 3).all fun v => okI 5 (5 :: v)) = true := by decide +kernel
theorem ok_I {n : Nat} (hn : n = 4 ∨ n = 5) {ws : List Int} (hl : ws.length = n - 1) (hw : ∀ x ∈ ws, 1 ≤ x ∧ x ≤ (n : Int)) : okI n ws = true := by
  rcases hn with rfl | rfl
  · exact List.all_eq_true.mp ok4I ws (mem_wv 3 ws hl hw)
  · match ws, hl, hw with
    | x :: r, hl, hw =>
      have hr := mem_wv (n := 5) 3 r (Nat.succ.inj hl) fun y hy => hw y (.tail _ hy)
      have hx := hw x (.head _)
      have e : x = 1 ∨ x = 2 ∨ x = 3 ∨ x = 4 ∨ x = 5 := by omega
      rcases e with rfl | rfl | rfl | rfl | rfl
      · exact List.all_eq_true.mp ok5I1 r hr
      · exact List.all_eq_true.mp ok5I2 r hr
      · exact List.all_eq_true.mp ok5I3 r hr
      · exact List.all_eq_true.mp ok5I4 r hr
      · exact List.all_eq_true.mp ok5I5 r hr
/-- what an hour needs to know of the wishes -/
structure HrOk (n : Nat) (ws : List Int) (f dv : Int) (top : Int) (cs0 : List Int) : Prop where
  free : freeP (rotI n ws) n n 0 = (f.fmod (n : Int) + 1, dv)
  sent : (drv n (n * n) (wdC n (rotI n ws)) [] 0).2 = dv
  plc : (((drv n (n * n) (wdC n (rotI n ws)) [] 0).1.map fun l => (l.length : Int) - 1) ++ [f.fmod (n : Int) + 1]).Perm ((List.range n).map fun (i : Nat) => 1 + (i : Int))
  cnt : cntP (rotI n ws) n = top :: cs0
  cnt0 : cntP ws n = cs0 ++ [top]
  gt : gtP (rotI n ws) n = sufP (top :: cs0)
  sum : (top :: cs0).sum = (n : Int) - 1
  dig : ∀ d ∈ top :: cs0, 0 ≤ d ∧ d ≤ 4
theorem hr_ok {n : Nat} (hn : n = 4 ∨ n = 5) {ws : List Int} (hl : ws.length = n - 1) (hw : ∀ x ∈ ws, 1 ≤ x ∧ x ≤ (n : Int)) {f dv : Int} (hf : freeP ws n n 0 = (f, dv)) : ∃ top cs0, HrOk n ws f dv top cs0 := by
  have h := ok_I hn hl hw
  unfold okI at h
  simp only [Bool.and_eq_true, decide_eq_true_eq, List.isPerm_iff, List.all_eq_true, hf] at h
  obtain ⟨⟨⟨⟨⟨⟨⟨h1, h2⟩, h3⟩, h4⟩, h5⟩, h6⟩, h7⟩, h8⟩ := h
  match hc : cntP (rotI n ws) n, h4 with
  | top :: cs0, _ =>
    rw [hc] at h5 h6 h7 h8
    exact ⟨top, cs0, h1, h2, h3, hc, h5, h6, h7, h8⟩
theorem rot_len {n : Nat} {ws : List Int} (hl : ws.length = n - 1) : (rotI n ws).length = n - 1 := by unfold rotI; rw [List.length_map, hl]
theorem pw_lex {xi xd pb cdo b : Addr} {l1 l2 : List Addr} (p0 : PW (b :: (l1 ++ l2))) (sxi : ∀ c ∈ b :: (l1 ++ l2), NeN xi c) (sxd : ∀ c ∈ b :: (l1 ++ l2), NeN xd c) (spb : ∀ c ∈ b :: (l1 ++ l2), NeN pb c) (sc : ∀ c ∈ b :: (l1 ++ l2), NeN cdo c)
    (e1 : NeN xi xd) (e2 : NeN xi pb) (e3 : NeN xd pb) (e4 : NeN xi cdo) (e5 : NeN xd cdo) (e6 : NeN cdo pb) : PW (l1 ++ (xi :: xd :: pb :: b :: cdo :: l2)) := by
  have p1 : PW (b :: cdo :: (l1 ++ l2)) := pw_ins (l1 := [b]) (l2 := l1 ++ l2) (List.pairwise_cons.mpr ⟨sc, p0⟩)
  have go : ∀ y, (∀ c ∈ b :: (l1 ++ l2), NeN y c) → NeN y cdo → ∀ c ∈ b :: cdo :: (l1 ++ l2), NeN y c := fun y s n => List.forall_mem_cons.mpr ⟨s _ (.head _), List.forall_mem_cons.mpr ⟨n, fun c hc => s c (.tail _ hc)⟩⟩
  have p4 : PW (xi :: xd :: pb :: b :: cdo :: (l1 ++ l2)) := List.pairwise_cons.mpr ⟨List.forall_mem_cons.mpr ⟨e1, List.forall_mem_cons.mpr ⟨e2, go xi sxi e4⟩⟩, List.pairwise_cons.mpr ⟨List.forall_mem_cons.mpr ⟨e3, go xd sxd e5⟩, List.pairwise_cons.mpr ⟨go pb spb e6.symm, p1⟩⟩⟩
  exact ((List.perm_append_comm_assoc l1 [xi, xd, pb, b, cdo] l2).pairwise_iff fun h => NeN.symm h).mpr p4
theorem sep_ne {y : Addr} {l : List (Addr × Obj)} (s : Sep y l) : ∀ c ∈ l.map (·.1), NeN y c := fun c hc => by
  obtain ⟨p, hp, rfl⟩ := List.mem_map.mp hc
  exact (s p hp).symm
theorem pw_get {l : List Addr} (h : PW l) {i j : Nat} (hi : i < l.length) (hj : j < l.length) (hij : i ≠ j) : NeN (l.getD i 0) (l.getD j 0) := by
  have e : ∀ k, (hk : k < l.length) → l.getD k 0 = l[k] := fun k hk => by rw [List.getD_eq_getElem?_getD, List.getElem?_eq_getElem hk]; rfl
  rw [e i hi, e j hj]
  rcases Nat.lt_or_ge i j with h1 | h1
  · exact List.pairwise_iff_getElem.mp h i j hi hj h1
  · exact (List.pairwise_iff_getElem.mp h j i hj hi (by omega)).symm
/-- places that are all different and below c -/
def idxOk (c : Nat) : List Nat → Bool
  | [] => true
  | i :: r => Nat.blt i c && (r.all fun j => !Nat.beq i j) && idxOk c r
theorem idx_ok {c : Nat} : ∀ {is : List Nat}, idxOk c is = true → is.Pairwise (fun i j => i < c ∧ j < c ∧ i ≠ j)
  | [], _ => .nil
  | i :: r, h => by
    unfold idxOk at h
    rw [Bool.and_eq_true, Bool.and_eq_true] at h
    have ih := idx_ok h.2
    have hc : ∀ {l : List Nat}, idxOk c l = true → ∀ j ∈ l, j < c := fun {l} => by
      induction l with
      | nil => exact fun _ _ h => nomatch h
      | cons k l ihl =>
        intro hl j hj
        unfold idxOk at hl
        rw [Bool.and_eq_true, Bool.and_eq_true] at hl
        rcases List.mem_cons.mp hj with rfl | hj
        · exact Nat.blt_eq.mp hl.1.1
        · exact ihl hl.2 j hj
    refine List.pairwise_cons.mpr ⟨fun j hj => ⟨Nat.blt_eq.mp h.1.1, hc h.2 j hj, fun e => ?_⟩, ih⟩
    have := List.all_eq_true.mp h.1.2 j hj
    rw [e] at this
    simp at this
/-- some of the addresses, in another order -/
theorem pw_pick {l : List Addr} (h : PW l) (is : List Nat) (c : Nat) (hc : c ≤ l.length) (hb : idxOk c is = true) : PW (is.map fun i => l.getD i 0) :=
  List.pairwise_map.mpr ((idx_ok hb).imp fun {a b} hab => pw_get h (Nat.lt_of_lt_of_le hab.1 hc) (Nat.lt_of_lt_of_le hab.2.1 hc) hab.2.2)
theorem pw_at {l : List Addr} (h : PW l) (i j c : Nat) (hc : c ≤ l.length) (hb : idxOk c [i, j] = true) : NeN (l.getD i 0) (l.getD j 0) := by
  have := idx_ok hb
  have hab := (List.pairwise_cons.mp this).1 j (.head _)
  exact pw_get h (Nat.lt_of_lt_of_le hab.1 hc) (Nat.lt_of_lt_of_le hab.2.1 hc) hab.2.2
theorem db_of {n wd : Nat} (hwd : 3 ≤ wd) {ws : List Int} {f dv top : Int} {cs0 : List Int} (O : HrOk n ws f dv top cs0) : DB wd (cntP ws n) := by
  have p8 : (8 : Int) ≤ 2 ^ wd := by
    have e8 : (8 : Int) = 2 ^ 3 := by decide
    rw [e8]
    obtain ⟨d, rfl⟩ : ∃ d, wd = 3 + d := ⟨wd - 3, by omega⟩
    rw [Int.pow_add]
    have : (1 : Int) ≤ 2 ^ d := Int.pow_pos (by decide)
    have := Int.mul_le_mul_of_nonneg_left this (show (0 : Int) ≤ 2 ^ 3 by decide)
    omega
  intro d hd
  rw [O.cnt0] at hd
  have := O.dig d (by
    rcases List.mem_append.mp hd with h | h
    · exact List.mem_cons_of_mem _ h
    · rw [List.mem_singleton.mp h]; exact List.mem_cons_self ..)
  omega
theorem cnt_len (ws : List Int) (n : Nat) : (cntP ws n).length = n := by unfold cntP; rw [List.length_map, List.length_range]
theorem cut_hour (l : List Stmt) : l = l.take 3 ++ ((l.drop 3).take 2 ++ ((l.drop 5).take 4 ++ l.drop 9)) := by
  have e1 : (l.drop 5).take 4 ++ l.drop 9 = l.drop 5 := by
    have := List.take_append_drop 4 (l.drop 5)
    rw [List.drop_drop] at this
    exact this
  have e2 : (l.drop 3).take 2 ++ l.drop 5 = l.drop 3 := by
    have := List.take_append_drop 2 (l.drop 3)
    rw [List.drop_drop] at this
    exact this
  rw [e1, e2, List.take_append_drop]

end
section
open PySem PySem.W PyProof.Rows PySem.Spec PySem.Calls
local macro_rules | `(tactic| k_mem) => `(tactic| (show (_ : Addr × Obj) ∈ (_ : List (Addr × Obj)); with_reducible assumption))
local macro_rules | `(tactic| walk_at "call ref") => `(tactic| (k_here; (with_reducible show wpAny _ _ (call (Value.ref (OfNat.ofNat _)) _) _ _ _); refine CiStop.out ?_))
local macro_rules | `(tactic| walk_at "binaryOp LShift int int") => `(tactic| (k_here; refine CiStop.out ?_))
local macro_rules | `(tactic| walk_at "binaryOp Mult int int") => `(tactic| (k_here; refine CiStop.out ?_))
local macro_rules | `(tactic| walk_at "binaryOp Mult ref int") => `(tactic| (k_here; refine CiStop.out ?_))
local macro_rules | `(tactic| walk_at "binaryOp Add ref ref") => `(tactic| (k_here; refine CiStop.out ?_))
local macro_rules | `(tactic| walk_at "call builtin:len") => `(tactic| (k_here; refine CiStop.out ?_))
local macro_rules | `(tactic| walk_at "compareOp NotEq ref ref") => `(tactic| (k_here; refine CiStop.out ?_))
local macro_rules | `(tactic| walk_at "subscriptTail Name Constant ref int") => `(tactic| (k_here; refine CiStop.out ?_))
local macro_rules | `(tactic| walk_at "exec Assign") => `(tactic| (k_here; (with_reducible show wpAny _ _ (exec (Stmt.Assign _ (Expr.ListComp _ _ _ _) _) _) _ _ _); refine CiStop.out ?_))
local macro_rules | `(tactic| walk_at "eval ListComp") => `(tactic| (k_here; refine CiStop.out ?_))
local macro_rules | `(tactic| walk_at "CompSrcT") => `(tactic| (refine CiStop.out ?_))
theorem hour_C {w : World} {loose : List Str} {mean : ExcName → Option Value} {mg mb : Str → Option Value} {dp un : Nat} {gd : Option (List Code)} {a : Addr} {ccd : Value} {outer : List Env} {A₀ : Around} {h₀ : Heap} {L Wl : Addr} {tl : List (Addr × Obj)} {vt vf vd : Value}  {m : Str → Option Value} {s : Shared} {Q : Flow → Shared → Prop} {E : Value → Shared → Prop}
  {oW oS : Obj} {ps2 ps3 : Array Value} {c₂ c₃ : Addr} {o₂ o₃ : Obj} {n wd e : Nat} {vs : List Value} {ws cs0 : List Int} {NN top : Int} {tcar twd tN tS : Tok}
  (hn : n = 4 ∨ n = 5) (hwd : 3 ≤ wd) (hwd2 : wd ≤ 99) (hI : IntsAre vs ws) (hwl : ws.length = n - 1) (hN : NN = V wd (cs0 ++ [top])) (hc : cntP ws n = top :: cs0) (hg : gtP ws n = sufP (top :: cs0)) (hsum : (top :: cs0).sum = (n : Int) - 1) (hb : ∀ d ∈ top :: cs0, 0 ≤ d ∧ d ≤ 4)
  (B : Below A₀ h₀ outer h₀) (F : Fr h₀ L s.heap m) (X : (hd.heap_1 w.params).In h₀) (T : Top topProg loose mean mg mb h₀)
  (hm : ∀ p ∈ ([(Str.ofString "total", vt), (Str.ofString "free", vf), (Str.ofString "driven", vd), (Str.ofString "cars", .int ((n : Int) - 1) tcar), (Str.ofString "width", .int (wd : Int) twd), (Str.ofString "number", .int NN tN)] : List (Str × Value)), m p.1 = some p.2)
  (N : News h₀ L s.heap ((64, tabObj ps3) :: (c₃, o₃) :: (71, tabObj ps2) :: (c₂, o₂) :: tl)) (hoW : oW.data = .cell (some (.ref Wl))) (hoS : oS.data = .cell (some (.int (n : Int) tS)))
  (cd1 : CodeHd h₀ 152 148) (cd2 : CodeHd h₀ 75 71) (cd3 : CodeHd h₀ 68 64) (tb2 : TabOk 54 4 D2Q ps2 c₂ o₂) (tb3 : TabOk 39 4 I2Q ps3 c₃ o₃)
  (mW : (L + 1 + 1 + 1, oW) ∈ tl) (mS : (L + 1 + 1, oS) ∈ tl) (mV : (Wl, listOf vs.toArray e) ∈ tl) (s64 : Sep 64 tl) (s3 : Sep c₃ tl) (s71 : Sep 71 tl) (s2 : Sep c₂ tl) (n1 : NeN c₃ 64) (n2 : NeN c₃ 71) (n3 : NeN c₂ 64) (n4 : NeN c₂ 71) (n5 : NeN c₃ c₂) (hL : @LT.lt Nat _ 148 L)
  (hdp : dp + 40 < recursionLimit) (hun : un + 300 < cLine)
  (ret : ∀ h' tk' m' q2 q3 c2' c3' o2' o3' tN', Fr h₀ L h' (kstB m' [(Str.ofString "total", vt), (Str.ofString "free", vf), (Str.ofString "driven", vd), (Str.ofString "cars", .int ((n : Int) - 1) tcar), (Str.ofString "width", .int (wd : Int) twd), (Str.ofString "number", .int (V wd (top :: cs0)) tN')]) → News h₀ L h' ((64, tabObj q3) :: (c3', o3') :: (71, tabObj q2) :: (c2', o2') :: tl) → TabOk 39 4 I2Q q3 c3' o3' → TabOk 54 4 D2Q q2 c2' o2' → Sep c3' tl → Sep c2' tl → NeN c3' 64 → NeN c3' 71 → NeN c2' 64 → NeN c2' 71 → NeN c3' c2' → Q .next { s with heap := h', toks := tk' }) :
  wpAny (model PySem.Challenge.rw_sc0080_02.row.prog w) (ktrTop dp un gd (Str.ofString "law") (scopeOf (hd.heap_1 w.params) 175) L a ccd (cellsFrom (L + 1) ((scopeOf (hd.heap_1 w.params) 175)).names []) outer) (execs ((forBody ((bodyOf (hd.heap_1 w.params) 175).getD 9 (.Pass ⟨0, 0, 0, 0⟩))).drop 9) (envX (Str.ofString "law") (scopeOf (hd.heap_1 w.params) 175) L a ccd (cellsFrom (L + 1) ((scopeOf (hd.heap_1 w.params) 175)).names []))) Q E s := by
  revert X
  k_fill
  intro X
  refine' tail_enter (fun b sc => wpAny (model PySem.Challenge.rw_sc0080_02.row.prog w) (ktrTop dp un gd (Str.ofString "law") sc L a ccd (cellsFrom (L + 1) (sc).names []) outer) (execs ((forBody (b.getD 9 (.Pass ⟨0, 0, 0, 0⟩))).drop 9) (envX (Str.ofString "law") sc L a ccd (cellsFrom (L + 1) (sc).names []))) Q E s) ?ho ?_
  case ho => k_is
  replace F := fr_known _ F hm
  clear hm
  have hnA := n_lo hn
  have hnB := n_hi hn
  have hw4 : ws.length ≤ 4 := by rw [hwl]; exact Nat.sub_le_sub_right hnB 1
  clear hn
  dsimp only [List.getD_cons_zero, List.getD_cons_succ, forBody, List.drop_succ_cons, List.drop_zero]
  have n0 : NeN 71 64 := ⟨by decide⟩
  have p8 : (8 : Int) ≤ 2 ^ wd := by
    have e8 : (8 : Int) = 2 ^ 3 := by decide
    rw [e8]
    obtain ⟨d, rfl⟩ := Nat.le.dest hwd
    rw [Int.pow_add]
    have : (1 : Int) ≤ 2 ^ d := Int.pow_pos (by decide)
    have := Int.mul_le_mul_of_nonneg_left this (show (0 : Int) ≤ 2 ^ 3 by decide)
    omega
  have hcb : DB wd (top :: cs0) := fun d hd => ⟨(hb d hd).1, Int.lt_of_le_of_lt (hb d hd).2 (Int.lt_of_lt_of_le (by decide) p8)⟩
  have hlen : (top :: cs0).length = n := by rw [← hc]; unfold cntP; rw [List.length_map, List.length_range]
  have hl0 : cs0.length + 1 = n := hlen
  have hcb2 : DB wd (cs0 ++ [top]) := fun d hd => hcb d (by
    rcases List.mem_append.mp hd with h | h
    · exact List.mem_cons_of_mem _ h
    · rw [List.mem_singleton.mp h]; exact List.mem_cons_self ..)
  have v1 := V_lt wd _ hcb2
  rw [List.length_append, List.length_singleton, hl0, ← hN] at v1
  have v2 := V_lt wd _ hcb
  rw [hlen] at v2
  have hgap := V_gap wd (top :: cs0) (by simp) fun d hd => ⟨(hb d hd).1, Int.lt_of_le_of_lt (Int.add_le_add_right (hb d hd).2 1) (Int.lt_of_lt_of_le (by decide) p8)⟩
  rw [hlen] at hgap
  have hturn := V_turn wd top cs0
  rw [hl0, ← hN] at hturn
  have hwn : wd * n ≤ 495 := Nat.le_trans (Nat.mul_le_mul hwd2 hnB) (by decide)
  have emn : (wd : Int) * (n : Int) = ((wd * n : Nat) : Int) := (Int.natCast_mul _ _).symm
  have p0 : (0 : Int) < 2 ^ wd := Int.lt_of_lt_of_le (by decide) p8
  have wd0 : 0 < wd := Nat.lt_of_lt_of_le (by decide) hwd
  have nn0 : 0 < n := Nat.lt_of_lt_of_le (by decide) hnA
  have hy0 : (0 : Int) < 2 ^ (wd * n) - 1 := Int.sub_pos_of_lt (Int.lt_of_le_of_lt (Int.le_add_of_nonneg_left v2.1) hgap)
  have hq := fdivV (x := NN * 2 ^ wd) (y := 2 ^ (wd * n) - 1) (q := top) (r := V wd (top :: cs0)) hy0 hturn v2.1 (Int.lt_sub_right_of_add_lt hgap)
  have hx0 : 0 ≤ NN * 2 ^ wd := Int.mul_nonneg v1.1 (Int.le_of_lt p0)
  have hbx : PySem.Builtin.Int.intBits (NN * 2 ^ wd) ≤ wd * n + wd := bits_of hx0 (by
    rw [Int.pow_add]
    have := Int.mul_lt_mul_of_pos_right v1.2 p0
    exact this)
  have hwn0 : 0 < wd * n := Nat.mul_pos wd0 nn0
  have hn1 : wd ≤ wd * n := Nat.le_mul_of_pos_right _ nn0
  have s1 : SM 0 (NN * 2 ^ wd) (2 ^ (wd * n) - 1) top (V wd (top :: cs0)) := .pp hx0 (by omega) (by
    have h := dm_of (x := NN * 2 ^ wd) (y := 2 ^ (wd * n) - 1) (n := wd * n) hx0 (by omega) (bits_ones hwn0) (by omega) (cnt_le hwn0 (by omega))
    rw [hq.1, hq.2] at h
    exact h)
  k_steps
  refine CiStop.go ?_
  refine lshift_known (shlk_of (bits_of v1.1 v1.2) (by omega)) ?_
  k_steps
  refine CiStop.go ?_
  refine mul_int ?_ (mulok_small ?mha ?mhb)
  case mha => omega
  case mhb => omega
  rw [emn]
  k_steps
  refine CiStop.go ?_
  refine lshift_known (shlk_of (a := 1) (by decide) (by omega)) ?_
  rw [Int.one_mul]
  k_steps
  refine CiStop.go ?_
  rename Fr h₀ L _ _ => FF
  rename News h₀ L _ _ => NN9
  k_dflt (refine' idm_all s1 (news := tl) ?B FF ?X ?T ?hk NN9 ?c1 ?c2 tb3 tb2 s64 s3 s71 s2 n1 n2 n3 n4 n5 ?hdp ?hun ?_)
  case B => k_asm
  case X => k_asm
  case T => k_asm
  case hk => exact rfl
  ((case c1 => kn_code); (case c2 => kn_code))
  case hdp => first | ktr_room | ((try simp only [depth_under_make, depth_under_kw, depth_in1, depth_deeper, depth_caller, Nat.add_assoc, Nat.reduceAdd]); omega)
  case hun => first | ktr_units | ((try simp only [units_in1, units_deeper, Around.mark_units, units_caller, Nat.add_assoc, Nat.reduceAdd]); omega)
  k_whole
  intro d' tq' tr' c' oc' c2' oc2' h' tk' F' N' d3' d4' hw' hw2' sA sB nA1 nA2 nA3 nA4 nA5 nA6 nA7 nA8 nA9 s3'
  clear FF NN9 hw' hw2'
  ((try dsimp only); (try k_fold))
  k_steps
  refine CiStop.go ?_
  rename Fr h₀ L _ _ => FF
  rename News h₀ L _ _ => NN9
  obtain ⟨u, FK⟩ : ∃ u, Fr h₀ L _ (kstB u [(Str.ofString "total", vt), (Str.ofString "free", vf), (Str.ofString "driven", vd), (Str.ofString "cars", .int ((n : Int) - 1) tcar), (Str.ofString "width", .int (wd : Int) twd), (Str.ofString "number", .int (V wd (top :: cs0)) tr'), (Str.ofString "anew", .int top tq')]) := ⟨_, fr_known _ FF (List.forall_mem_cons.mpr ⟨rfl, List.forall_mem_cons.mpr ⟨rfl, List.forall_mem_cons.mpr ⟨rfl, List.forall_mem_cons.mpr ⟨rfl, List.forall_mem_cons.mpr ⟨rfl, List.forall_mem_cons.mpr ⟨rfl, List.forall_mem_cons.mpr ⟨rfl, List.forall_mem_nil _⟩⟩⟩⟩⟩⟩⟩)⟩
  clear FF
  k_dflt (refine' Assign_ListComp_C (h₀ := h₀) (L := L) (m := kstB u [(Str.ofString "total", vt), (Str.ofString "free", vf), (Str.ofString "driven", vd), (Str.ofString "cars", .int ((n : Int) - 1) tcar), (Str.ofString "width", .int (wd : Int) twd), (Str.ofString "number", .int (V wd (top :: cs0)) tr'), (Str.ofString "anew", .int top tq')]) ?hLe ?hsw ?hclos ?hce ?hpc ?hkind ?hnames ?hx ?hy ?hp ?_)
  case hLe => rfl
  case hsw => rfl
  case hclos => rfl
  case hce => intro k; rfl
  case hpc => intro h; rfl
  case hkind => rfl
  case hnames => decide
  case hx => rfl
  case hy => rfl
  case hp => rfl
  k_steps
  refine CiStop.go ?_
  rename IsRange _ _ _ _ _ _ _ _ => hr
  rename Fr h₀ L _ _ => FF
  rename News h₀ L _ _ => NN9
  refine CellSrc.mk (n := n) (fun k y => ∃ t, y = Value.int ((ws.filter fun w => w == 1 + (k : Int)).length : Int) t) rfl FF NN9 hr (small_one (by omega) (by omega) (by omega) (by omega)) ?hn (by rw [sizeLine_eq]; omega) ?turn ?fin
  case hn =>
    have e := Int.add_comm (n : Int) 1
    rw [e]; exact rga_size 1 n
  case turn =>
    intro k t I2 oI C Z oZ D2 ys h3 tk3 E' hk2 hy hZ F3 N3
    k_steps
    refine CiStop.go ?_
    k_dflt (refine LCt.ListComp_T (F₀ := F3) (by with_unfolding_all rfl) (by decide) (by rfl) (by decide) (by rfl) ?_)
    k_steps
    refine CiStop.go ?_
    rename Fr h₀ L _ _ => F4
    rename News h₀ L _ _ => N4
    k_dflt (refine LCt.CompSrcT.ledger rfl F4 N4 (ax := Wl) (its := vs.toArray) (k := e) (by k_mem) (by rw [List.size_toArray, hI.length, sizeLine_eq]; omega) ?_)
    intro g4
    refine cx_filter (fun v => match v with | .int x _ => x == 1 + (k : Int) | _ => false) (.inr ⟨listOf vs.toArray e, ?hm, rfl, e, rfl⟩) ?hkL ?hkd ?hdb ?turn2 ?fin2
    case hm => k_dflt k_mem
    case hkL => rfl
    case hkd => rfl
    case hdb => decide +kernel
    case turn2 =>
      intro j v I5 oI5 C5 oC5 D5 m5 ys5 h5 tk5 E5 hv hC5 hx5 F5 N5 off ne
      obtain ⟨x, tx, rfl⟩ := ints_at hI hv
      k_steps
      exact ⟨rfl, _, _, rfl, F5, N5⟩
    case fin2 =>
      refine finE_sep fun D6 h6 tk6 F6 N6 s6 => ?_
      k_steps
      refine CiStop.go ?_
      k_dflt (refine len_list (items := (vs.filter fun v => match v with | .int x _ => x == 1 + (k : Int) | _ => false).toArray) ⟨_, (N6 _ (.head _)).1, rfl, _, rfl⟩ ?sz ?_)
      case sz =>
        have e1 := List.length_filter_le (fun v => match v with | .int x _ => x == 1 + (k : Int) | _ => false) vs
        rw [hI.length] at e1
        rw [List.size_toArray]; omega
      k_steps
      refine CiStop.go ?_
      rename Fr h₀ L _ _ => F8
      rename News h₀ L _ _ => N8
      exact ⟨_, _, rfl, F8, fun p hp => N8 p (by repeat' first | exact hp | refine List.Mem.tail _ ?_), _, congrArg (fun z : Nat => Value.int (z : Int) _) (ints_filter_len (fun x => x == 1 + (k : Int)) hI)⟩
  case fin =>
    intro D2 h3 tk3 ys hlen2 hEl F3 N3 lo
    have hS2 : IntsAre ys (cntP ws n) := ints_of_el n _ ys hlen2 hEl
    rw [hc] at hS2
    obtain ⟨k9, ds9, hcut, hfd, hk9, hds9⟩ := cut_of (n := wd) (by omega) (by omega) hcb (by rw [hlen]; omega)
    rw [hlen] at hk9 hds9
    have hdl := hcut.len
    k_steps
    refine CiStop.go ?_
    rename Fr h₀ L _ _ => FF
    rename News h₀ L _ _ => NN9
    k_dflt (refine' i2d_all hcut ?hnn ?hnn2 ?hk3 hfd (news := (D2, LCg.lst ys) :: (71, tabObj #[rawInt 54, rawInt 4, .ref c2']) :: (c2', oc2') :: tl) ?B FF ?X ?T ?hk (news_cons NN9 ?m0 (news_cons NN9 ?m1 (news_cons NN9 ?m2 (news_cons NN9 ?m3 (news_cons NN9 ?m4 (fun p hp => NN9 p (by repeat' first | exact hp | refine List.Mem.tail _ ?_))))))) ?c1 d3' ?s1 ?s2 nA1 ?hdp ?hun ?_)
    case hnn => omega
    case hnn2 => omega
    case hk3 => omega
    case B => k_asm
    case X => k_asm
    case T => k_asm
    case hk => exact rfl
    case m0 => k_mem
    case m1 => k_mem
    case m2 => k_mem
    case m3 => k_mem
    case m4 => k_mem
    case c1 => kn_code
    case s1 => exact List.forall_mem_cons.mpr ⟨⟨by k_ne⟩, List.forall_mem_cons.mpr ⟨n0, List.forall_mem_cons.mpr ⟨nA3, s64⟩⟩⟩
    case s2 => exact List.forall_mem_cons.mpr ⟨⟨by k_ne⟩, List.forall_mem_cons.mpr ⟨nA2.symm, List.forall_mem_cons.mpr ⟨nA5.symm, sA⟩⟩⟩
    case hdp => first | ktr_room | ((try simp only [depth_under_make, depth_under_kw, depth_in1, depth_deeper, depth_caller, Nat.add_assoc, Nat.reduceAdd]); omega)
    case hun => first | ktr_units | ((try simp only [units_in1, units_deeper, Around.mark_units, units_caller, Nat.add_assoc, Nat.reduceAdd]); omega)
    k_whole
    intro dD vsD cD ocD hD tkD hID FD ND tbD hwD sD1 sD2 nD1 nD2 nD3
    clear hwD
    clear FF NN9
    have eD0 : Sep cD tl := fun p hp => sD1 p (.tail _ (.tail _ (.tail _ hp)))
    have eD1 : NeN cD 71 := (sD1 (71, _) (.tail _ (.head _))).symm
    have eD2 : NeN cD c2' := (sD1 (c2', _) (.tail _ (.tail _ (.head _)))).symm
    clear sD1 sD2
    ((try dsimp only); (try k_fold))
    k_steps
    refine CiStop.go ?_
    rename Fr h₀ L _ _ => FF
    rename News h₀ L _ _ => NN9
    k_dflt (refine' item_ints (e := ys.length) NN9 ?mi hS2 (j := 0) ?hkq ?hzq (x := top) rfl ?_)
    case mi => k_dflt k_mem
    case hkq => rfl
    case hzq => decide
    intro t0
    have hqa : (top != top) = false := by simp
    k_steps
    refine CiStop.go ?_
    rename Fr h₀ L _ _ => FF
    rename News h₀ L _ _ => NN9
    k_dflt (refine' len_ints NN9 (vs := vsD) (n := 0) ?mi hID ?hzq ?_)
    case mi => k_dflt k_mem
    case hzq => omega
    intro t1 k1
    rw [hdl]
    have esub := cast_sub hk9
    k_steps
    rw [esub]
    refine CiStop.go ?_
    rename Fr h₀ L _ _ => FF
    rename News h₀ L _ _ => NN9
    k_dflt (refine' zeros_ints (k := n - k9) FF NN9 ?mi ?hzq ?_)
    case mi => k_mem
    case hzq => omega
    k_whole
    intro dZ hZ2 FZ NZ lZ
    have hI3 : ∀ t, IntsAre (vsD ++ List.replicate (n - k9) (Value.int 0 t)) (top :: cs0) := fun t => by
      have := ints_app hID (ints_rep t (n - k9))
      rw [hds9] at this
      exact this
    have hqb : (!decide (top :: cs0 = top :: cs0)) = false := by simp
    k_steps
    refine CiStop.go ?_
    rename Fr h₀ L _ _ => FF
    rename News h₀ L _ _ => NN9
    k_dflt (refine' add_ints (vs := vsD) (n := 0) (n2 := 0) FF NN9 ?mi ?mj hID (ints_rep _ (n - k9)) ?hzq ?_)
    case mi => k_dflt k_mem
    case mj => k_dflt k_mem
    case hzq => rw [List.length_replicate]; omega
    k_whole
    intro dA hA2 FA NA lA
    k_steps
    refine CiStop.go ?_
    rename Fr h₀ L _ _ => FF
    rename News h₀ L _ _ => NN9
    k_dflt (refine' ne_ints (n := 0) (n2 := ys.length) NN9 ?mi ?mj (hI3 _) hS2 ?hu ?_)
    case mi => k_dflt k_mem
    case mj => k_dflt k_mem
    case hu => first | ktr_units | ((try simp only [units_in1, units_deeper, Around.mark_units, units_caller, Nat.add_assoc, Nat.reduceAdd]); omega)
    have hcb3 : DB wd (sufP (top :: cs0)) := fun d hd => by
      rw [← hg] at hd
      unfold gtP at hd
      obtain ⟨i, _, rfl⟩ := List.mem_map.mp hd
      have := List.length_filter_le (fun w => decide (w > 1 + (i : Int))) ws
      omega
    have hsl : (sufP (top :: cs0)).length = n - 1 := by rw [← hg]; unfold gtP; rw [List.length_map, List.length_range]
    have hq2 := fdivV (x := V wd (top :: cs0)) (y := 2 ^ wd - 1) (q := V wd (sufP (top :: cs0))) (r := (n : Int) - 1) (by omega) (by rw [V_suf wd (top :: cs0), hsum, Int.mul_comm]; omega) (by omega) (by omega)
    have s2' : SM 0 (V wd (top :: cs0)) (2 ^ wd - 1) (V wd (sufP (top :: cs0))) ((n : Int) - 1) := .pp v2.1 (by omega) (by
      have h := dm_of (x := V wd (top :: cs0)) (y := 2 ^ wd - 1) (n := wd) v2.1 (by omega) (bits_ones (by omega)) (by omega) (Nat.le_trans (cnt_le (k := n) (by omega) (bits_of v2.1 v2.2)) (by omega))
      rw [hq2.1, hq2.2] at h
      exact h)
    obtain ⟨k8, ds8, hcut2, hfd2, hk8, hds8⟩ := cut_of (n := wd) (by omega) (by omega) hcb3 (by rw [hsl]; omega)
    rw [hsl] at hk8 hds8
    have hdl2 := hcut2.len
    k_steps
    refine CiStop.go ?_
    refine lshift_known (shlk_of (a := 1) (by decide) (by omega)) ?_
    rw [Int.one_mul]
    k_steps
    refine CiStop.go ?_
    rename Fr h₀ L _ _ => FF
    rename News h₀ L _ _ => NN9
    k_dflt (refine' idm_all s2' (news := tl) ?B FF ?X ?T ?hk (news_cons NN9 ?m0 (news_cons NN9 ?m1 (news_cons NN9 ?m2 (news_cons NN9 ?m3 (fun p hp => NN9 p (by repeat' first | exact hp | refine List.Mem.tail _ ?_)))))) ?c1 ?c2 tbD d4' s64 eD0 s71 sB nD1 eD1 nA3 nA4 eD2 ?hdp ?hun ?_)
    case B => k_asm
    case X => k_asm
    case T => k_asm
    case hk => exact rfl
    case m0 => k_mem
    case m1 => k_mem
    case m2 => k_mem
    case m3 => k_mem
    ((case c1 => kn_code); (case c2 => kn_code))
    case hdp => first | ktr_room | ((try simp only [depth_under_make, depth_under_kw, depth_in1, depth_deeper, depth_caller, Nat.add_assoc, Nat.reduceAdd]); omega)
    case hun => first | ktr_units | ((try simp only [units_in1, units_deeper, Around.mark_units, units_caller, Nat.add_assoc, Nat.reduceAdd]); omega)
    k_whole
    intro dG tqG trG cG ocG cH ocH hG tkG FG NG tbG tbH hwG hwH sG sH nG1 nG2 nG3 nG4 nG5 nG6 nG7 nG8 nG9 sG3
    clear hwG hwH
    ((try dsimp only); (try k_fold))
    k_steps
    refine CiStop.go ?_
    rename Fr h₀ L _ _ => FF
    rename News h₀ L _ _ => NN9
    k_dflt (refine' i2d_all hcut2 ?hnn ?hnn2 ?hk3 hfd2 (news := (71, tabObj #[rawInt 54, rawInt 4, .ref cH]) :: (cH, ocH) :: tl) ?B FF ?X ?T ?hk (fun p hp => NN9 p (by repeat' first | exact hp | refine List.Mem.tail _ ?_)) ?c1 tbG (List.forall_mem_cons.mpr ⟨n0, List.forall_mem_cons.mpr ⟨nG3, s64⟩⟩) (List.forall_mem_cons.mpr ⟨nG2.symm, List.forall_mem_cons.mpr ⟨nG5.symm, sG⟩⟩) nG1 ?hdp ?hun ?_)
    case hnn => omega
    case hnn2 => omega
    case hk3 => omega
    case B => k_asm
    case X => k_asm
    case T => k_asm
    case hk => exact rfl
    case c1 => kn_code
    case hdp => first | ktr_room | ((try simp only [depth_under_make, depth_under_kw, depth_in1, depth_deeper, depth_caller, Nat.add_assoc, Nat.reduceAdd]); omega)
    case hun => first | ktr_units | ((try simp only [units_in1, units_deeper, Around.mark_units, units_caller, Nat.add_assoc, Nat.reduceAdd]); omega)
    k_whole
    intro dE vsE cE ocE hE2 tkE hIE FE NE tbE hwE sE1 sE2 nE1 nE2 nE3
    clear hwE
    ((try dsimp only); (try k_fold))
    k_steps
    refine CiStop.go ?_
    rename Fr h₀ L _ _ => FF
    rename News h₀ L _ _ => NN9
    k_dflt (refine' len_ints NN9 (vs := vsE) (n := 0) ?mi hIE ?hzq ?_)
    case mi => k_dflt k_mem
    case hzq => omega
    intro t1 k1
    rw [hdl2]
    have esub2 : (n : Int) - 1 - (k8 : Int) = ((n - 1 - k8 : Nat) : Int) := by rw [cast_pred hnA]; exact cast_sub hk8
    k_steps
    rw [esub2]
    refine CiStop.go ?_
    rename Fr h₀ L _ _ => FF
    rename News h₀ L _ _ => NN9
    k_dflt (refine' zeros_ints (k := n - 1 - k8) FF NN9 ?mi ?hzq ?_)
    case mi => k_mem
    case hzq => omega
    k_whole
    intro dZ2 hZ3 FZ2 NZ2 lZ2
    have hI4 : ∀ t, IntsAre (vsE ++ List.replicate (n - 1 - k8) (Value.int 0 t)) (sufP (top :: cs0)) := fun t => by
      have := ints_app hIE (ints_rep t (n - 1 - k8))
      rw [hds8] at this
      exact this
    k_steps
    refine CiStop.go ?_
    rename Fr h₀ L _ _ => FF
    rename News h₀ L _ _ => NN9
    k_dflt (refine' add_ints (vs := vsE) (n := 0) (n2 := 0) FF NN9 ?mi ?mj hIE (ints_rep _ (n - 1 - k8)) ?hzq ?_)
    case mi => k_dflt k_mem
    case mj => k_dflt k_mem
    case hzq => rw [List.length_replicate]; omega
    k_whole
    intro dA2 hA3 FA2 NA2 lA2
    have hqc : ((n : Int) - 1 != (n : Int) - 1) = false := by simp
    k_steps
    refine CiStop.go ?_
    rename Fr h₀ L _ _ => FF
    rename News h₀ L _ _ => NN9
    obtain ⟨u2, FK2⟩ : ∃ u2, Fr h₀ L _ (kstB u2 [(Str.ofString "total", vt), (Str.ofString "free", vf), (Str.ofString "driven", vd), (Str.ofString "cars", .int ((n : Int) - 1) tcar), (Str.ofString "width", .int (wd : Int) twd), (Str.ofString "number", .int (V wd (top :: cs0)) tr')]) := ⟨_, fr_known _ FF (List.forall_mem_cons.mpr ⟨rfl, List.forall_mem_cons.mpr ⟨rfl, List.forall_mem_cons.mpr ⟨rfl, List.forall_mem_cons.mpr ⟨rfl, List.forall_mem_cons.mpr ⟨rfl, List.forall_mem_cons.mpr ⟨rfl, List.forall_mem_nil _⟩⟩⟩⟩⟩⟩)⟩
    clear FF
    k_dflt (refine' ListComp_C (h₀ := h₀) (L := L) (m := kstB u2 [(Str.ofString "total", vt), (Str.ofString "free", vf), (Str.ofString "driven", vd), (Str.ofString "cars", .int ((n : Int) - 1) tcar), (Str.ofString "width", .int (wd : Int) twd), (Str.ofString "number", .int (V wd (top :: cs0)) tr')]) ?hclos ?hce ?hpc ?hkind ?hnames ?hx ?_)
    case hclos => rfl
    case hce => intro k; rfl
    case hpc => intro h; rfl
    case hkind => rfl
    case hnames => decide
    case hx => rfl
    k_steps
    refine CiStop.go ?_
    rename IsRange _ _ _ _ _ _ _ _ => hr2
    rename Fr h₀ L _ _ => FF
    rename News h₀ L _ _ => NN9
    refine CellSrc.mk (n := n - 1) (fun k y => ∃ t, y = Value.int ((ws.filter fun w => decide (w > 1 + (k : Int))).length : Int) t) rfl FF NN9 hr2 (small_one (by omega) (by omega) (by omega) (by omega)) ?hn (by rw [sizeLine_eq]; omega) ?turn ?fin
    case hn =>
      have e : (n : Int) = 1 + ((n - 1 : Nat) : Int) := by rw [← cast_pred hnA, Int.add_comm, Int.sub_add_cancel]
      rw [e]; exact rga_size 1 (n - 1)
    case turn =>
      intro k t I2 oI C Z oZ D2 ys2 h3 tk3 E' hk2 hy hZ F3 N3
      k_steps
      refine CiStop.go ?_
      k_dflt (refine LCt.ListComp_T (F₀ := F3) (by with_unfolding_all rfl) (by decide) (by rfl) (by decide) (by rfl) ?_)
      k_steps
      refine CiStop.go ?_
      rename Fr h₀ L _ _ => F4
      rename News h₀ L _ _ => N4
      k_dflt (refine LCt.CompSrcT.ledger rfl F4 N4 (ax := Wl) (its := vs.toArray) (k := e) (by k_mem) (by rw [List.size_toArray, hI.length, sizeLine_eq]; omega) ?_)
      intro g4
      refine cx_filter (fun v => match v with | .int x _ => decide (x > 1 + (k : Int)) | _ => false) (.inr ⟨listOf vs.toArray e, ?hm, rfl, e, rfl⟩) ?hkL ?hkd ?hdb ?turn2 ?fin2
      case hm => k_dflt k_mem
      case hkL => rfl
      case hkd => rfl
      case hdb => decide +kernel
      case turn2 =>
        intro j v I5 oI5 C5 oC5 D5 m5 ys5 h5 tk5 E5 hv hC5 hx5 F5 N5 off ne
        obtain ⟨x, tx, rfl⟩ := ints_at hI hv
        k_steps
        exact ⟨rfl, _, _, rfl, F5, N5⟩
      case fin2 =>
        refine finE_sep fun D6 h6 tk6 F6 N6 s6 => ?_
        k_steps
        refine CiStop.go ?_
        k_dflt (refine len_list (items := (vs.filter fun v => match v with | .int x _ => decide (x > 1 + (k : Int)) | _ => false).toArray) ⟨_, (N6 _ (.head _)).1, rfl, _, rfl⟩ ?sz ?_)
        case sz =>
          have e1 := List.length_filter_le (fun v => match v with | .int x _ => decide (x > 1 + (k : Int)) | _ => false) vs
          rw [hI.length] at e1
          rw [List.size_toArray]; omega
        k_steps
        refine CiStop.go ?_
        rename Fr h₀ L _ _ => F8
        rename News h₀ L _ _ => N8
        exact ⟨_, _, rfl, F8, fun p hp => N8 p (by repeat' first | exact hp | refine List.Mem.tail _ ?_), _, congrArg (fun z : Nat => Value.int (z : Int) _) (ints_filter_len (fun x => decide (x > 1 + (k : Int))) hI)⟩
    case fin =>
      intro D3 h3 tk3 ys3 hlen3 hEl3 F3 N3 lo3
      have hS3 : IntsAre ys3 (gtP ws n) := ints_of_el (n - 1) _ ys3 hlen3 hEl3
      rw [hg] at hS3
      have hqd : (!decide (sufP (top :: cs0) = sufP (top :: cs0))) = false := by simp
      k_steps
      refine CiStop.go ?_
      k_dflt (refine' ne_ints (n := 0) (n2 := ys3.length) N3 ?mi ?mj (hI4 _) hS3 ?hu ?_)
      case mi => k_dflt k_mem
      case mj => k_dflt k_mem
      case hu => first | ktr_units | ((try simp only [units_in1, units_deeper, Around.mark_units, units_caller, Nat.add_assoc, Nat.reduceAdd]); omega)
      k_steps
      rename Fr h₀ L _ _ => FE9
      rename News h₀ L _ _ => NE9
      exact ret _ _ _ _ _ cH cE _ _ tr' (fr_known _ FE9 (List.forall_mem_cons.mpr ⟨rfl, List.forall_mem_cons.mpr ⟨rfl, List.forall_mem_cons.mpr ⟨rfl, List.forall_mem_cons.mpr ⟨rfl, List.forall_mem_cons.mpr ⟨rfl, List.forall_mem_cons.mpr ⟨rfl, List.forall_mem_nil _⟩⟩⟩⟩⟩⟩)) (fun p hp => NE9 p (by repeat' first | exact hp | refine List.Mem.tail _ ?_)) tbE tbH (fun p hp => sE1 p (.tail _ (.tail _ hp))) sH nE1 (sE1 (71, _) (.head _)).symm nG3 nG4 (sE1 (cH, _) (.tail _ (.head _))).symm

end
section
open PySem PySem.W PyProof.Rows PySem.Spec PySem.Calls
local macro_rules | `(tactic| walk_at "CutFlow") => `(tactic| (dsimp only [CutFlow]))
local macro_rules | `(tactic| k_mem) => `(tactic| (show (_ : Addr × Obj) ∈ (_ : List (Addr × Obj)); with_reducible assumption))
local macro_rules | `(tactic| k_all) => `(tactic| exact fun p hp => (Sep.get (by with_reducible assumption) hp).h)
local macro_rules | `(tactic| walk_at "call ref") => `(tactic| (k_here; (with_reducible show wpAny _ _ (call (Value.ref (OfNat.ofNat _)) _) _ _ _); refine CiStop.out ?_))
local macro_rules | `(tactic| walk_at "CompSrc") => `(tactic| (refine CiStop.out ?_))
local macro_rules | `(tactic| walk_at "FinE") => `(tactic| (refine CiStop.out ?_))
local macro_rules | `(tactic| walk_at "subscriptTail Name Name ref int") => `(tactic| (k_here; refine CiStop.out ?_))
local macro_rules | `(tactic| walk_at "binaryOp Mult str int") => `(tactic| (k_here; refine CiStop.out ?_))
local macro_rules | `(tactic| walk_at "call builtin:len") => `(tactic| (k_here; refine CiStop.out ?_))
local macro_rules | `(tactic| walk_at "call type:list") => `(tactic| (k_here; refine CiStop.out ?_))
local macro_rules | `(tactic| walk_at "call builtin:sorted") => `(tactic| (k_here; refine CiStop.out ?_))
local macro_rules | `(tactic| walk_at "binaryOp Add ref ref") => `(tactic| (k_here; refine CiStop.out ?_))
local macro_rules | `(tactic| walk_at "compareOp NotEq ref ref") => `(tactic| (k_here; refine CiStop.out ?_))
local macro_rules | `(tactic| walk_at "binaryOp Mod int int") => `(tactic| (k_here; refine CiStop.out ?_))
theorem hour_B {w : World} {loose : List Str} {mean : ExcName → Option Value} {mg mb : Str → Option Value} {dp un : Nat} {gd : Option (List Code)} {a : Addr} {ccd : Value} {outer : List Env} {A₀ : Around} {h₀ : Heap} {L Wl Nl xi xd fx pb : Addr} {tl : List (Addr × Obj)} {m : Str → Option Value} {s : Shared} {Q : Flow → Shared → Prop} {Z : Shared → Prop} {vt vw vN : Value} {E : Value → Shared → Prop}
  {oM oW oS : Obj} {n e eN np : Nat} {vs : List Value} {nms : List (Str × Tok)} {ws : List Int} {f dv ln : Int} {tcar tS tf tdv k1 k2 k3 k4 k5 kl : Tok}
  (hn : n = 4 ∨ n = 5) (hI : IntsAre vs ws) (hwl : ws.length = n - 1) (hnm : nms.map (·.1) = (nmC n).map fun c => mk [c])
  (hdrv : (drv n (n * n) (wdC n (rotI n ws)) [] 0).2 = dv) (hplc : (((drv n (n * n) (wdC n (rotI n ws)) [] 0).1.map fun l => (l.length : Int) - 1) ++ [f.fmod (n : Int) + 1]).Perm ((List.range n).map fun (i : Nat) => 1 + (i : Int)))
  (B : Below A₀ h₀ outer h₀) (F : Fr h₀ L s.heap m) (X : (hd.heap_1 w.params).In h₀) (T : Top topProg loose mean mg mb h₀)
  (hm : ∀ p ∈ ([(Str.ofString "total", vt), (Str.ofString "free", .int f tf), (Str.ofString "driven", .int dv tdv), (Str.ofString "cars", .int ((n : Int) - 1) tcar), (Str.ofString "width", vw), (Str.ofString "number", vN), (Str.ofString "lexer", .ref xi)] : List (Str × Value)), m p.1 = some p.2)
  (N : News h₀ L s.heap ((L + 1 + 1 + 1, oW) :: (xi, instObj 128 xd) :: (xd, dictOf [{ hash := PyData.keyHash w.params (Str.ofString "lineno"), key := Value.str (Str.ofString "lineno") k1, val := Value.int ln kl }, { hash := PyData.keyHash w.params (Str.ofString "instream"), key := Value.str (Str.ofString "instream") k2, val := Value.ref fx }, { hash := PyData.keyHash w.params (Str.ofString "whitespace"), key := Value.str (Str.ofString "whitespace") k3, val := Value.str (Str.ofString "\n\t\x0d ") k4 }, { hash := PyData.keyHash w.params (Str.ofString "pushback"), key := Value.str (Str.ofString "pushback") k5, val := Value.ref pb }] 4) :: (pb, listOf (txts []) np) :: tl)) (hoM : oM.data = .cell (some (.ref Nl))) (hoW : oW.data = .cell (some (.ref Wl))) (hoS : oS.data = .cell (some (.int (n : Int) tS)))
  (cd1 : CodeHd h₀ 152 148)
  (mM : (L + 1 + 1 + 1 + 1, oM) ∈ tl) (mS : (L + 1 + 1, oS) ∈ tl) (mV : (Wl, listOf vs.toArray e) ∈ tl) (mN : (Nl, listOf (txts nms) eN) ∈ tl) (sL : Sep (L + 1 + 1 + 1) tl) (sxi : Sep xi tl) (sxd : Sep xd tl) (spb : Sep pb tl) (x1 : NeN (L + 1 + 1 + 1) xi) (x2 : NeN (L + 1 + 1 + 1) xd) (x3 : NeN (L + 1 + 1 + 1) pb) (x4 : NeN xi xd) (x5 : NeN xi pb) (x6 : NeN xd pb) (hL : @LT.lt Nat _ 148 L)
  (hdp : dp + 50 < recursionLimit) (hun : un + 400 < cLine)
  (ret : ∀ D1 e1 ys1 oW2 h' tk' m' tf2, IntsAre ys1 (rotI n ws) → oW2.data = .cell (some (.ref D1)) → Fr h₀ L h' (kstB m' [(Str.ofString "total", vt), (Str.ofString "free", .int (f.fmod (n : Int) + 1) tf2), (Str.ofString "driven", .int dv tdv), (Str.ofString "cars", .int ((n : Int) - 1) tcar), (Str.ofString "width", vw), (Str.ofString "number", vN)]) → News h₀ L h' ((L + 1 + 1 + 1, oW2) :: (D1, listOf ys1.toArray e1) :: tl) → Sep D1 tl → NeN D1 (L + 1 + 1 + 1) → Z { s with heap := h', toks := tk' }) :
  wpAny (model PySem.Challenge.rw_sc0080_02.row.prog w) (ktrTop dp un gd (Str.ofString "law") (scopeOf (hd.heap_1 w.params) 175) L a ccd (cellsFrom (L + 1) ((scopeOf (hd.heap_1 w.params) 175)).names []) outer) (execs (((forBody ((bodyOf (hd.heap_1 w.params) 175).getD 9 (.Pass ⟨0, 0, 0, 0⟩))).drop 5).take 4) (envX (Str.ofString "law") (scopeOf (hd.heap_1 w.params) 175) L a ccd (cellsFrom (L + 1) ((scopeOf (hd.heap_1 w.params) 175)).names []))) (CutFlow Z Q) E s := by
  revert X
  k_fill
  intro X
  refine' tail_enter (fun b sc => wpAny (model PySem.Challenge.rw_sc0080_02.row.prog w) (ktrTop dp un gd (Str.ofString "law") sc L a ccd (cellsFrom (L + 1) (sc).names []) outer) (execs (((forBody (b.getD 9 (.Pass ⟨0, 0, 0, 0⟩))).drop 5).take 4) (envX (Str.ofString "law") sc L a ccd (cellsFrom (L + 1) (sc).names []))) (CutFlow Z Q) E s) ?ho ?_
  case ho => k_is
  replace F := fr_known _ F hm
  clear hm
  show wpAny _ _ (execs [_, _, _, _] _) _ _ _
  have hn0 : (n : Int) ≠ 0 := by omega
  k_steps
  refine CiStop.go ?_
  k_dflt (refine LCg.CompSrc.ledger rfl F N (ax := Wl) (its := vs.toArray) (k := e) (by k_mem) (by rw [List.size_toArray, hI.length, sizeLine_eq]; omega) ?_)
  intro g4
  refine cx_list (fun k y => ∃ t, y = Value.int ((ws.getD k 0).fmod (n : Int) + 1) t) (.inr ⟨listOf vs.toArray e, ?hm, rfl, e, rfl⟩) ?turn ?fin
  case hm => k_dflt k_mem
  case turn =>
    intro k v I5 oI5 C5 oC5 D5 m5 ys5 h5 tk5 E5 hv hC5 hx5 F5 N5 off ne
    obtain ⟨x, tx, hxv, hxw⟩ := hI.at k v hv
    subst hxv
    have ex : ws.getD k 0 = x := by rw [List.getD_eq_getElem?_getD, hxw]; rfl
    k_steps
    refine CiStop.go ?_
    refine mod_int hn0 ?_
    k_steps
    rename Fr h₀ L _ _ => F8
    rename News h₀ L _ _ => N8
    refine CiStop.go ?_
    exact ⟨_, _, rfl, F8, N8, _, by rw [ex]⟩
  case fin =>
    intro ys1 hl1 hel1
    refine finE_sep fun D1 h1 tk1 F1 N1 s1 => ?_
    have hI1 : IntsAre ys1 (rotI n ws) := by
      have := ints_of_el ws.length (fun k => (ws.getD k 0).fmod (n : Int) + 1) ys1 (by rw [hl1, hI.length]) hel1
      rw [range_getD (fun w => w.fmod (n : Int) + 1)] at this
      exact this
    have hrl : (rotI n ws).length = n - 1 := by unfold rotI; rw [List.length_map, hwl]
    have e1n : (n : Int) - 1 = ((n - 1 : Nat) : Int) := by omega
    k_steps
    rename Obj => oW2
    rename oW2.data = Data.cell (some (Value.ref D1)) => hoW2
    refine CiStop.go ?_
    refine mod_int hn0 ?_
    k_steps
    refine CiStop.go ?_
    rename IsRange _ _ _ _ _ _ _ _ => hr
    rename Fr h₀ L _ _ => FF
    rename News h₀ L _ _ => NN9
    refine' LCg.CompSrc.range (n := n - 1) rfl FF NN9 hr ?sm0 ?hn9 ?fit0 ?_
    case sm0 => exact small_one (by decide) (by decide) (by omega) (by omega)
    case hn9 => rw [e1n]; exact rangeSize_nat _ _
    case fit0 => rw [sizeLine_eq]; omega
    intro g0
    refine' cx_range (fun k y => ∃ t, y = Value.str (mk (List.replicate ((rotI n ws).getD k 0).toNat 46 ++ [(nmC n).getD k 0])) t) ?turn0 ?fin0
    case turn0 =>
      intro k t I oI C oC D m2 ys2 h tk E2 hk hC hx F2 N2 off ne
      have hwk : 1 ≤ (rotI n ws).getD k 0 ∧ (rotI n ws).getD k 0 ≤ (n : Int) := rot_in (by omega) _ (by
        rw [List.getD_eq_getElem?_getD, List.getElem?_eq_getElem (by omega)]
        exact List.getElem_mem _)
      have hxk : (rotI n ws)[k]? = some ((rotI n ws).getD k 0) := by
        rw [List.getD_eq_getElem?_getD, List.getElem?_eq_getElem (by omega)]; rfl
      have hnk : ∃ t, nms[k]? = some (mk [(nmC n).getD k 0], t) := by
        have e2 : (nmC n).length = n - 1 := by unfold nmC; rw [List.length_take]; show min (n - 1) 4 = n - 1; omega
        have e3 : (nms.map (·.1))[k]? = some (mk [(nmC n).getD k 0]) := by
          rw [hnm, List.getElem?_map, List.getD_eq_getElem?_getD, List.getElem?_eq_getElem (by omega)]; rfl
        rw [List.getElem?_map] at e3
        cases hp : nms[k]? with
        | none => rw [hp] at e3; cases e3
        | some p =>
          rw [hp] at e3
          exact ⟨p.2, by rw [← (Option.some.inj e3 : p.1 = _)]⟩
      obtain ⟨tnk, hnk⟩ := hnk
      k_steps
      refine CiStop.go ?_
      k_dflt (refine' item_ints (e := ys1.length) N2 ?mi hI1 (j := k) ?hkq ?hzq hxk ?_)
      case mi => k_dflt k_mem
      case hkq => omega
      case hzq => omega
      intro tw
      k_steps
      refine CiStop.go ?_
      refine rep_sign (c := 46) (by decide +kernel) (by omega) (by omega) ?_
      intro t7 k7
      k_steps
      refine CiStop.go ?_
      k_dflt (refine' item_txts (ws := nms) (D := Nl) (n := eN) N2 ?mi2 (j := k) ?hkq2 ?hzq2 hnk ?_)
      case mi2 => k_dflt k_mem
      case hkq2 => omega
      case hzq2 => omega
      k_steps
      refine add_str (hsz := ?hszA) ?_
      case hszA =>
        have e8 := mk_length (List.replicate ((rotI n ws).getD k 0).toNat 46)
        have e9 := mk_length [(nmC n).getD k 0]
        rw [List.length_replicate] at e8
        rw [List.length_singleton] at e9
        rw [sizeLine_eq]
        simp only [Str.length] at e8 e9 ⊢
        omega
      intro t8 k8
      k_steps
      rename Fr h₀ L _ _ => F8
      rename News h₀ L _ _ => N8
      exact CiStop.go ⟨_, _, _, rfl, F8, N8, off, trivial, rfl, _, by rw [word_made]⟩
    case fin0 =>
      intro ys5 hl5 hel
      obtain ⟨wsD, hwsD, hwsD2⟩ := txts_of_el (n - 1) _ ys5 hl5 hel
      have hwsl : wsD.map (·.1) = (wdC n (rotI n ws)).map mk := by rw [hwsD2]; unfold wdC; rw [List.map_map]; rfl
      refine finE_sep fun D2 h5 tk5 F5 N5 s5 => ?_
      rw [hwsD] at N5
      k_steps
      refine CiStop.go ?_
      rename Fr h₀ L _ _ => FF
      rename News h₀ L _ _ => NN9
      k_dflt (refine' drive_c (ws := wsD) (ls := wdC n (rotI n ws)) (n := n) (W := D2) (e0 := (wsD.map fun p => Value.str p.1 p.2).length) hwsl (wdC_ok hn hrl (rot_in (by omega))) ?hlen ?hn5 ?B FF ?X ?T ?hk (news_cons NN9 (x := (xi, _)) ?m0 (news_cons NN9 (x := (xd, _)) ?m1 (news_cons NN9 (x := (pb, _)) ?m2 (news_cons NN9 (x := (D2, _)) ?m3 (news_in NN9 (r := (D1, LCg.lst ys1) :: (L + 1 + 1 + 1, oW2) :: tl) ?mr))))) ?s1 ?s2 ?s3 ?s4 ?e4 ?e5 ?e6 ?e1 ?e2 ?e3 ?cz ?hdp ?hun ?_)
      case hlen => rw [wdC_len]; omega
      case hn5 => omega
      case B => k_asm
      case X => k_asm
      case T => k_asm
      case hk => exact rfl
      case m0 => k_mem
      case m1 => k_mem
      case m2 => k_mem
      case m3 => k_dflt k_mem
      case mr => exact List.forall_mem_cons.mpr ⟨by k_mem, List.forall_mem_cons.mpr ⟨by k_mem, fun p hp => by (repeat' first | exact hp | refine List.Mem.tail _ ?_)⟩⟩
      case s1 => exact List.forall_mem_cons.mpr ⟨⟨by k_ne⟩, List.forall_mem_cons.mpr ⟨x1, sxi⟩⟩
      case s2 => exact List.forall_mem_cons.mpr ⟨⟨by k_ne⟩, List.forall_mem_cons.mpr ⟨x2, sxd⟩⟩
      case s3 => exact List.forall_mem_cons.mpr ⟨⟨by k_ne⟩, List.forall_mem_cons.mpr ⟨x3, spb⟩⟩
      case s4 => exact List.forall_mem_cons.mpr ⟨⟨by k_ne⟩, List.forall_mem_cons.mpr ⟨⟨by k_ne⟩, fun p hp => s5 p (by (repeat' first | exact hp | refine List.Mem.tail _ ?_))⟩⟩
      case e4 => ((try dsimp only); exact ⟨by k_ne⟩)
      case e5 => ((try dsimp only); exact ⟨by k_ne⟩)
      case e6 => ((try dsimp only); exact ⟨by k_ne⟩)
      case e1 => ((try dsimp only); exact ⟨by k_ne⟩)
      case e2 => ((try dsimp only); exact ⟨by k_ne⟩)
      case e3 => ((try dsimp only); exact ⟨by k_ne⟩)
      case cz => kn_code
      case hdp => first | ktr_room | ((try simp only [depth_under_make, depth_under_kw, depth_in1, depth_deeper, depth_caller, Nat.add_assoc, Nat.reduceAdd]); omega)
      case hun => first | ktr_units | ((try simp only [units_in1, units_deeper, Around.mark_units, units_caller, Nat.add_assoc, Nat.reduceAdd]); omega)
      k_whole
      intro dR pR psR eP tR h9 tk9 hps F9 N9 sd9 sp9 ne9
      ((try dsimp only); (try k_fold))
      generalize hP : (drv n (n * n) (wdC n (rotI n ws)) [] 0).1 = P at hps hplc
      have hPl : P.length + 1 = n := by have := hplc.length_eq; rw [List.length_append, List.length_map, List.length_map, List.length_range] at this; exact this
      have hPb : ∀ l ∈ P, l.length ≤ 6 := fun l hl => by
        have := hplc.mem_iff.mp (List.mem_append_left _ (List.mem_map.mpr ⟨l, hl, rfl⟩))
        obtain ⟨i, hi, e⟩ := List.mem_map.mp this
        have := List.mem_range.mp hi
        omega
      have hpl : (psR.map fun p => Value.str p.1 p.2).length = P.length := by have := congrArg List.length hps; rw [List.length_map, List.length_map] at this; rw [List.length_map]; exact this
      rw [hdrv] at *
      k_steps
      refine CiStop.go ?_
      rename Fr h₀ L _ _ => FF
      rename News h₀ L _ _ => NN9
      k_dflt (refine LCg.CompSrc.ledger rfl FF NN9 (ax := pR) (its := txts psR) (k := eP) (by k_mem) (by unfold txts; rw [List.size_toArray, hpl, sizeLine_eq]; omega) ?_)
      intro g6
      refine cx_list (fun k y => ∃ t, y = Value.int (((P.getD k []).length : Int) - 1) t) (.inr ⟨listOf (txts psR) eP, ?hm6, rfl, eP, rfl⟩) ?turn6 ?fin6
      case hm6 => k_dflt k_mem
      case turn6 =>
        intro k v I5 oI5 C5 oC5 D5 m5 ys5 h5 tk5 E5 hv hC5 hx5 F5 N5 off ne
        obtain ⟨l, tl, hl, rfl⟩ := tx_at hps hv
        have el : P.getD k [] = l := by rw [List.getD_eq_getElem?_getD, hl]; rfl
        have hl6 := hPb l (List.mem_of_getElem? hl)
        k_steps
        refine CiStop.go ?_
        refine mk_len (by omega) ?_
        k_steps
        rename Fr h₀ L _ _ => F8
        rename News h₀ L _ _ => N8
        refine CiStop.go ?_
        exact ⟨_, _, rfl, F8, N8, _, by rw [el]⟩
      case fin6 =>
        intro ys6 hl6 hel6
        refine finE_sep fun D6 h6 tk6 F6 N6 s6 => ?_
        have hI6 := ints_of_el _ _ ys6 (hl6.trans hpl) hel6
        rw [range_getDL (fun l => (l.length : Int) - 1)] at hI6
        k_steps
        refine CiStop.go ?_
        rename Fr h₀ L _ _ => FF
        rename News h₀ L _ _ => NN9
        k_dflt (refine' add_ints (vs := ys6) (us := [Value.int (f.fmod (n : Int) + 1) _]) (n := ys6.length) (n2 := 0) FF NN9 ?mi ?mj hI6 (.cons _ _ .nil) ?hzq ?_)
        case mi => k_dflt k_mem
        case mj => k_dflt k_mem
        case hzq => rw [List.length_map, List.length_singleton]; omega
        k_whole
        intro dA hA2 FA NA lA
        k_steps
        refine CiStop.go ?_
        rename Fr h₀ L _ _ => FF
        rename News h₀ L _ _ => NN9
        k_dflt (refine' kso_sorted (vs := ys6 ++ [Value.int (f.fmod (n : Int) + 1) _]) FF NN9 (NN9.isList (n := 0) ?mi) (ints_app hI6 (.cons _ _ .nil)) ?hzq ?_)
        case mi => k_dflt k_mem
        case hzq => rw [List.length_append, List.length_map, List.length_singleton]; omega
        k_whole
        intro dS vsS nsS cS hS2 FS NS lS hIS eS pS oS' _
        have hnsS : nsS = (List.range n).map fun (i : Nat) => 1 + (i : Int) := ksm_same (pS.trans hplc) oS' (range_srt n)
        subst hnsS
        k_steps
        refine CiStop.go ?_
        rename Fr h₀ L _ _ => FF
        rename News h₀ L _ _ => NN9
        rename IsRange _ _ _ _ _ _ _ _ => hr
        k_dflt (refine' list_rga (n := n) rfl FF NN9 hr ?hb ?ha ?ha2 ?hz ?_)
        case hb => omega
        case ha => decide
        case ha2 => decide
        case hz => omega
        k_whole
        intro dT usT cT hT2 tkT FT NT lT hIT
        have hqd : (!decide (((List.range n).map fun (i : Nat) => 1 + (i : Int)) = ((List.range n).map fun (i : Nat) => 1 + (i : Int)))) = false := by simp
        have hqe : (dv != dv) = false := by simp
        k_steps
        refine CiStop.go ?_
        rename Fr h₀ L _ _ => FF
        rename News h₀ L _ _ => NN9
        k_dflt (refine' ne_ints (n := cS) (n2 := cT) NN9 ?mi ?mj hIS hIT ?hu ?_)
        case mi => k_dflt k_mem
        case mj => k_dflt k_mem
        case hu => first | ktr_units | ((try simp only [units_in1, units_deeper, Around.mark_units, units_caller, Nat.add_assoc, Nat.reduceAdd]); omega)
        k_steps
        skip
        refine CiStop.go ?_
        rename Fr h₀ L _ _ => FF
        rename News h₀ L _ _ => NN9
        refine' ret D1 _ ys1 oW2 _ _ _ _ hI1 hoW2 (fr_known _ FF (List.forall_mem_cons.mpr ⟨rfl, List.forall_mem_cons.mpr ⟨rfl, List.forall_mem_cons.mpr ⟨rfl, List.forall_mem_cons.mpr ⟨rfl, List.forall_mem_cons.mpr ⟨rfl, List.forall_mem_cons.mpr ⟨rfl, List.forall_mem_nil _⟩⟩⟩⟩⟩⟩)) (news_in NN9 ?mr2) (fun p hp => s1 p (by (repeat' first | exact hp | refine List.Mem.tail _ ?_))) (s1 _ (.head _)).symm
        case mr2 => exact List.forall_mem_cons.mpr ⟨by k_mem, List.forall_mem_cons.mpr ⟨by k_dflt k_mem, fun p hp => by (repeat' first | exact hp | refine List.Mem.tail _ ?_)⟩⟩

end
section
open PySem PySem.W PyProof.Rows PySem.Spec PySem.Calls
local macro_rules | `(tactic| k_mem) => `(tactic| (show (_ : Addr × Obj) ∈ (_ : List (Addr × Obj)); with_reducible assumption))
local macro_rules | `(tactic| walk_at "CutFlow") => `(tactic| (dsimp only [CutFlow]))
local macro_rules | `(tactic| walk_at "call ref") => `(tactic| (k_here; (with_reducible show wpAny _ _ (call (Value.ref (OfNat.ofNat _)) _) _ _ _); refine CiStop.out ?_))
local macro_rules | `(tactic| walk_at "subscriptTail Name Name ref int") => `(tactic| (k_here; refine CiStop.out ?_))
local macro_rules | `(tactic| walk_at "binaryOp Mult str int") => `(tactic| (k_here; refine CiStop.out ?_))
local macro_rules | `(tactic| walk_at "binaryOp Add str str") => `(tactic| (k_here; refine CiStop.out ?_))
local macro_rules | `(tactic| walk_at "call builtin:list.append") => `(tactic| (k_here; refine CiStop.out ?_))
local macro_rules | `(tactic| walk_at "call builtin:str.join") => `(tactic| (k_here; refine CiStop.out ?_))
local macro_rules | `(tactic| walk_at "execs cons") => `(tactic| (k_here; (with_reducible show wpAny _ _ (execs (Stmt.Assign _ (Expr.IfExp _ _ _ _) _ :: Stmt.Expr _ _ :: _) _) _ _ _); refine CiStop.out ?_))
local macro_rules | `(tactic| walk_at "subscriptTail") => `(tactic| (k_here; (with_reducible show wpAny _ _ (subscriptTail _ (PySem.Expr.BinOp _ _ _ _) (Value.ref _) (Value.int _ _)) _ _ _); refine CiStop.out ?_))
local macro_rules | `(tactic| walk_at "exec For Name Call cons nil") => `(tactic| (k_here; refine CiStop.out ?_))
local macro_rules | `(tactic| walk_at "exec For Name Call cons cons") => `(tactic| (k_here; refine CiStop.out ?_))
theorem hour_A1 {w : World} {loose : List Str} {mean : ExcName → Option Value} {mg mb : Str → Option Value} {dp un : Nat} {gd : Option (List Code)} {a : Addr} {ccd : Value} {outer : List Env} {A₀ : Around} {h₀ : Heap} {L Wl Nl : Addr} {tl : List (Addr × Obj)} {m : Str → Option Value} {s : Shared} {Q : Flow → Shared → Prop} {Z : Shared → Prop} {vf vd vw vN : Value} {E : Value → Shared → Prop}
  {oM oW : Obj} {ps1 : Array Value} {c₁ : Addr} {o₁ : Obj} {n e eN h : Nat} {vs : List Value} {nms : List (Str × Tok)} {ws : List Int} {tot : Int} {tt tcar th : Tok}
  (hn : n = 4 ∨ n = 5) (hI : IntsAre vs ws) (hwl : ws.length = n - 1) (hw : ∀ x ∈ ws, 1 ≤ x ∧ x ≤ (n : Int)) (hnm : nms.map (·.1) = (nmC n).map fun c => mk [c])
  (B : Below A₀ h₀ outer h₀) (F : Fr h₀ L s.heap m) (X : (hd.heap_1 w.params).In h₀) (T : Top topProg loose mean mg mb h₀)
  (hm : ∀ p ∈ ([(Str.ofString "total", .int tot tt), (Str.ofString "free", vf), (Str.ofString "driven", vd), (Str.ofString "cars", .int ((n : Int) - 1) tcar), (Str.ofString "width", vw), (Str.ofString "number", vN), (Str.ofString "hour", .int (h : Int) th)] : List (Str × Value)), m p.1 = some p.2)
  (N : News h₀ L s.heap ((148, tabObj ps1) :: (c₁, o₁) :: tl)) (hoM : oM.data = .cell (some (.ref Nl))) (hoW : oW.data = .cell (some (.ref Wl)))
  (cd1 : CodeHd h₀ 152 148) (tb1 : TabOk 179 16 (Str.ofString "_law_lexer.<locals>.<lambda>") ps1 c₁ o₁)
  (mM : (L + 1 + 1 + 1 + 1, oM) ∈ tl) (mW : (L + 1 + 1 + 1, oW) ∈ tl) (mV : (Wl, listOf vs.toArray e) ∈ tl) (mN : (Nl, listOf (txts nms) eN) ∈ tl) (s148 : Sep 148 tl) (s1 : Sep c₁ tl) (n1 : NeN c₁ 148) (hL : @LT.lt Nat _ 148 L)
  (hdp : dp + 50 < recursionLimit) (hun : un + 400 < cLine) (ret : ∀ (xi xd fx fd fl D cell pb fpb cdo : Addr) (oc co : Obj) (vs9 : Array Value) (kt k1 k2 k3 k4 k5 q1 q2 q3 q4 q5 q6 q7 kl : Tok) (qual : Str) (mn ctv : Value) (nD np : Nat) cts h' tk' m', cts.map (·.1) = qC (rowsA n ws h) → oc.data = .cell (some (.ref D)) → co.data = .fields vs9 → vs9[1]? = some (.str qual kt) → Fr h₀ L h' (kstB m' [(Str.ofString "total", .int tot tt), (Str.ofString "free", vf), (Str.ofString "driven", vd), (Str.ofString "cars", .int ((n : Int) - 1) tcar), (Str.ofString "width", vw), (Str.ofString "number", vN), (Str.ofString "lexer", .ref xi)]) → News h₀ L h' (lexL w xi xd fx fd fl D cell pb fpb cdo oc co k1 k2 k3 k4 k5 q1 q2 q3 q4 q5 q6 q7 kl qual mn ctv 1 nD np cts ((148, tabObj #[rawInt 179, rawInt 16, .ref cdo]) :: tl)) → TabOk 179 16 (Str.ofString "_law_lexer.<locals>.<lambda>") #[rawInt 179, rawInt 16, .ref cdo] cdo co → (∀ y ∈ [xi, xd, fx, fd, fl, cdo, D, cell, pb], Sep y ((148, tabObj #[rawInt 179, rawInt 16, .ref cdo]) :: tl)) → LexNe xi xd fx fd fl D cell pb cdo → Z { s with heap := h', toks := tk' }) (hE : PassesOwn (model PySem.Challenge.rw_sc0080_02.row.prog w) (ktrTop dp un gd (Str.ofString "law") (scopeOf (hd.heap_1 w.params) 175) L a ccd (cellsFrom (L + 1) ((scopeOf (hd.heap_1 w.params) 175)).names []) outer) (envX (Str.ofString "law") (scopeOf (hd.heap_1 w.params) 175) L a ccd (cellsFrom (L + 1) ((scopeOf (hd.heap_1 w.params) 175)).names [])) E) :
  wpAny (model PySem.Challenge.rw_sc0080_02.row.prog w) (ktrTop dp un gd (Str.ofString "law") (scopeOf (hd.heap_1 w.params) 175) L a ccd (cellsFrom (L + 1) ((scopeOf (hd.heap_1 w.params) 175)).names []) outer) (execs ((forBody ((bodyOf (hd.heap_1 w.params) 175).getD 9 (.Pass ⟨0, 0, 0, 0⟩))).take 3) (envX (Str.ofString "law") (scopeOf (hd.heap_1 w.params) 175) L a ccd (cellsFrom (L + 1) ((scopeOf (hd.heap_1 w.params) 175)).names []))) (CutFlow Z Q) E s := by
  revert X
  k_fill
  intro X
  revert hE
  refine' tail_enter (fun b sc => PassesOwn (model PySem.Challenge.rw_sc0080_02.row.prog w) (ktrTop dp un gd (Str.ofString "law") sc L a ccd (cellsFrom (L + 1) (sc).names []) outer) (envX (Str.ofString "law") sc L a ccd (cellsFrom (L + 1) (sc).names [])) E → wpAny (model PySem.Challenge.rw_sc0080_02.row.prog w) (ktrTop dp un gd (Str.ofString "law") sc L a ccd (cellsFrom (L + 1) (sc).names []) outer) (execs ((forBody (b.getD 9 (.Pass ⟨0, 0, 0, 0⟩))).take 3) (envX (Str.ofString "law") sc L a ccd (cellsFrom (L + 1) (sc).names []))) (CutFlow Z Q) E s) ?ho ?_
  case ho => k_is
  intro hE
  replace F := fr_known _ F hm
  clear hm
  show wpAny _ _ (execs [_, _, _] _) _ _ _
  have e1n : (n : Int) - 1 = ((n - 1 : Nat) : Int) := by omega
  k_steps
  refine CiStop.go ?_
  rename Fr h₀ L _ _ => FF
  rename News h₀ L _ _ => NN
  rename_i R hA lR hB
  have sR : Sep R ((148, tabObj ps1) :: (c₁, o₁) :: tl) := sep_lt lR
  clear lR
  obtain ⟨J, jI, jO⟩ : ∃ J : Nat → (Str → Option Value) → List (Addr × Obj) → Prop, (∀ k m l, RowJ [(Str.ofString "total", .int tot tt), (Str.ofString "free", vf), (Str.ofString "driven", vd), (Str.ofString "cars", .int ((n : Int) - 1) tcar), (Str.ofString "width", vw), (Str.ofString "number", vN), (Str.ofString "hour", .int (h : Int) th)] ((148, tabObj ps1) :: (c₁, o₁) :: tl) R (rowS n ws tot h) k m l → J k m l) ∧ (∀ k m l, J k m l → RowJ [(Str.ofString "total", .int tot tt), (Str.ofString "free", vf), (Str.ofString "driven", vd), (Str.ofString "cars", .int ((n : Int) - 1) tcar), (Str.ofString "width", vw), (Str.ofString "number", vN), (Str.ofString "hour", .int (h : Int) th)] ((148, tabObj ps1) :: (c₁, o₁) :: tl) R (rowS n ws tot h) k m l) := ⟨_, fun _ _ _ h => h, fun _ _ _ h => h⟩
  refine' rg_for (h₀ := h₀) (L := L) (n := n - 1) J rfl ?ev ?turn ?done ?hs ?hE
  case hs => intro _; rfl
  case hE => exact hE
  case ev =>
    k_steps
    rename Fr h₀ L _ _ => FF
    rename News h₀ L _ _ => NN
    refine CiStop.go ?_
    rename IsRange _ _ _ _ _ _ _ _ => hr
    rw [e1n] at hr
    refine ⟨_, _, _, _, _, _, _, _, rfl, rfl, hr, by omega, FF, NN, jI _ _ _ (RowJ.mk [] 0 (List.forall_mem_cons.mpr ⟨rfl, List.forall_mem_cons.mpr ⟨rfl, List.forall_mem_cons.mpr ⟨rfl, List.forall_mem_cons.mpr ⟨rfl, List.forall_mem_cons.mpr ⟨rfl, List.forall_mem_cons.mpr ⟨rfl, List.forall_mem_cons.mpr ⟨rfl, List.forall_mem_cons.mpr ⟨rfl, List.forall_mem_nil _⟩⟩⟩⟩⟩⟩⟩⟩) rfl)⟩
  case turn =>
    intro k I h2 tk2 ti m2 news2 hk hJ sI F2 N2
    obtain ⟨rs, eR, hm2, hr2⟩ := jO _ _ _ hJ
    clear hJ
    replace F2 := fr_known _ F2 hm2
    clear hm2 FF NN
    have hxk : ws[k]? = some (ws.getD k 0) := by
      rw [List.getD_eq_getElem?_getD, List.getElem?_eq_getElem (by omega)]; rfl
    have hwk : 1 ≤ ws.getD k 0 ∧ ws.getD k 0 ≤ (n : Int) := hw _ (by
      rw [List.getD_eq_getElem?_getD, List.getElem?_eq_getElem (by omega)]
      exact List.getElem_mem _)
    obtain ⟨tnk, hnk⟩ : ∃ t, nms[k]? = some (mk [(nmC n).getD k 0], t) := nm_at hn hnm hk
    k_steps
    refine CiStop.go ?_
    refine execs_join (l1 := [_]) (l2 := [_]) (AtZ s h₀ L ((I, rgObj ((k + 1 : Nat) : Int) ((n - 1 : Nat) : Int)) :: (R, listOf (txts rs) eR) :: ((148, tabObj ps1) :: (c₁, o₁) :: tl)) (fun m => ∃ t, ∀ p ∈ (Str.ofString "name", Value.str (mk ((if escA h k then [92] else []) ++ [(nmC n).getD k 0])) t) :: (Str.ofString "k", Value.int (k : Int) ti) :: (Str.ofString "rows", Value.ref R) :: [(Str.ofString "total", .int tot tt), (Str.ofString "free", vf), (Str.ofString "driven", vd), (Str.ofString "cars", .int ((n : Int) - 1) tcar), (Str.ofString "width", vw), (Str.ofString "number", vN), (Str.ofString "hour", .int (h : Int) th)], m p.1 = some p.2)) ?one ?two
    case one =>
      k_steps
      all_goals
        refine CiStop.go ?_
        rename News h₀ L _ _ => NN
        k_dflt (refine' item_txts (ws := nms) (D := Nl) (n := eN) NN ?mi2 (j := k) rfl ?hzq2 hnk ?_)
        case mi2 => k_dflt k_mem
        case hzq2 => omega
        k_steps
        refine CiStop.go ?_
        try (refine add_str (hsz := bs_fits) ?_; intro t8 k8; k_steps; refine CiStop.go ?_)
        rename Fr h₀ L _ _ => F3
        rename News h₀ L _ _ => N3
        first
        | (rw [nm_esc (esc_gt (by assumption)) rfl] at F3; exact AtZ.mk F3 N3 ⟨_, List.forall_mem_cons.mpr ⟨rfl, List.forall_mem_cons.mpr ⟨rfl, List.forall_mem_cons.mpr ⟨rfl, List.forall_mem_cons.mpr ⟨rfl, List.forall_mem_cons.mpr ⟨rfl, List.forall_mem_cons.mpr ⟨rfl, List.forall_mem_cons.mpr ⟨rfl, List.forall_mem_cons.mpr ⟨rfl, List.forall_mem_cons.mpr ⟨rfl, List.forall_mem_cons.mpr ⟨rfl, List.forall_mem_nil _⟩⟩⟩⟩⟩⟩⟩⟩⟩⟩⟩)
        | (rw [nm_esc (esc_odd (by assumption)) rfl] at F3; exact AtZ.mk F3 N3 ⟨_, List.forall_mem_cons.mpr ⟨rfl, List.forall_mem_cons.mpr ⟨rfl, List.forall_mem_cons.mpr ⟨rfl, List.forall_mem_cons.mpr ⟨rfl, List.forall_mem_cons.mpr ⟨rfl, List.forall_mem_cons.mpr ⟨rfl, List.forall_mem_cons.mpr ⟨rfl, List.forall_mem_cons.mpr ⟨rfl, List.forall_mem_cons.mpr ⟨rfl, List.forall_mem_cons.mpr ⟨rfl, List.forall_mem_nil _⟩⟩⟩⟩⟩⟩⟩⟩⟩⟩⟩)
        | (rw [nm_plain (esc_no (by assumption) (by assumption)) rfl] at F3; exact AtZ.mk F3 N3 ⟨_, List.forall_mem_cons.mpr ⟨rfl, List.forall_mem_cons.mpr ⟨rfl, List.forall_mem_cons.mpr ⟨rfl, List.forall_mem_cons.mpr ⟨rfl, List.forall_mem_cons.mpr ⟨rfl, List.forall_mem_cons.mpr ⟨rfl, List.forall_mem_cons.mpr ⟨rfl, List.forall_mem_cons.mpr ⟨rfl, List.forall_mem_cons.mpr ⟨rfl, List.forall_mem_cons.mpr ⟨rfl, List.forall_mem_nil _⟩⟩⟩⟩⟩⟩⟩⟩⟩⟩⟩)

    case two =>
      rintro s' ⟨F3, N3, t9, hm3⟩
      replace F3 := fr_known _ F3 hm3
      clear hm3
      k_steps
      refine CiStop.go ?_
      k_dflt (refine' item_ints (e := e) N3 ?mi hI (j := k) rfl ?hzq hxk ?_)
      case mi => k_dflt k_mem
      case hzq => omega
      intro tw
      k_steps
      refine CiStop.go ?_
      refine rep_sign (c := 46) (by decide +kernel) (by omega) (by omega) ?_
      intro t7 k7
      k_steps
      refine CiStop.go ?_
      refine add_str (hsz := ?hszA) ?_
      case hszA => exact mk_fits (by rw [mk_length, List.length_replicate]; omega) (esc_len)
      intro t8 k8
      rw [row_made]
      k_steps
      refine CiStop.go ?_
      rename News h₀ L _ _ => NN
      k_dflt (refine' item_end NN ?mq ?_ ?hsq)
      case mq => k_mem
      case hsq => with_unfolding_all rfl
      k_whole
      intro tE
      (try dsimp only)
      k_steps
      refine CiStop.go ?_
      refine add_str (hsz := ?hszB) ?_
      case hszB => exact end_fits (rowA_small hn hwl hw hk) (end_len _)
      intro t9 k9
      k_steps
      refine CiStop.go ?_
      rename Fr h₀ L _ _ => FF
      rename News h₀ L _ _ => NN
      k_dflt (refine' append_txts FF (fun p hp => NN p (List.Mem.tail _ hp)) ?zz (upd2 sI sR) ?_)
      case zz => have := congrArg List.length hr2; rw [List.length_map, List.length_map, List.length_range] at this; omega
      k_whole
      intro h4 F4 N4
      k_steps
      refine CiStop.go ?_
      rename Fr h₀ L _ _ => F5
      rename News h₀ L _ _ => N5
      exact ⟨_, _, _, _, rfl, F5, N5, sep_tl sI, jI _ _ _ (RowJ.mk _ _ (List.forall_mem_cons.mpr ⟨rfl, List.forall_mem_cons.mpr ⟨rfl, List.forall_mem_cons.mpr ⟨rfl, List.forall_mem_cons.mpr ⟨rfl, List.forall_mem_cons.mpr ⟨rfl, List.forall_mem_cons.mpr ⟨rfl, List.forall_mem_cons.mpr ⟨rfl, List.forall_mem_cons.mpr ⟨rfl, List.forall_mem_nil _⟩⟩⟩⟩⟩⟩⟩⟩) (rows_push hr2 (row_end rfl)))⟩
  case done =>
    intro h4 tk4 m4 news4 hJ F4 N4
    obtain ⟨rs, eR, hm4, hr4⟩ := jO _ _ _ hJ
    clear hJ
    replace F4 := fr_known _ F4 hm4
    clear hm4 FF NN
    k_steps
    refine CiStop.go ?_
    rename News h₀ L _ _ => NN
    k_dflt (refine' join_txts NN (its := txts rs) (ys := rs.map (·.1)) ?mj (strsAre_list rs) ?hwj ?_)
    case mj => k_dflt k_mem
    case hwj => rw [hr4]; exact rows_sum hn hwl hw
    intro tj kj
    rw [hr4]
    k_steps
    refine CiStop.go ?_
    rename Fr h₀ L _ _ => FF
    rename News h₀ L _ _ => NN
    k_dflt (refine' quote_c ?qx ?B FF ?X ?T ?hk NN ?hdp ?hun ?_)
    case B => k_asm
    case X => k_asm
    case T => k_asm
    case hk => exact rfl
    case qx => exact Nat.le_trans (mail_len hn hwl hw) (by decide)
    case hdp => first | ktr_room | ((try simp only [depth_under_make, depth_under_kw, depth_in1, depth_deeper, depth_caller, Nat.add_assoc, Nat.reduceAdd]); omega)
    case hun => first | ktr_units | ((try simp only [units_in1, units_deeper, Around.mark_units, units_caller, Nat.add_assoc, Nat.reduceAdd]); omega)
    k_whole
    intro z tz h5 tk5 hz F5 N5
    ((try dsimp only); (try k_fold))
    obtain ⟨hz1, hz2⟩ := mail_quoted hn hwl hw hz
    clear hz
    k_steps
    refine CiStop.go ?_
    rename Fr h₀ L _ _ => FF
    rename News h₀ L _ _ => NN
    k_dflt (refine' lexer_c (news := tl) (Nat.le_trans hz2 (by decide)) ?B FF ?X ?T ?hk (news_cons NN ?m0 (news_cons NN ?m1 (fun p hp => NN p (by (repeat' first | exact hp | refine List.Mem.tail _ ?_))))) ?c1 tb1 s148 s1 n1 ?hdp ?hun ?_)
    case B => k_asm
    case X => k_asm
    case T => k_asm
    case hk => exact rfl
    case m0 => k_mem
    case m1 => k_mem
    case c1 => kn_code
    case hdp => first | ktr_room | ((try simp only [depth_under_make, depth_under_kw, depth_in1, depth_deeper, depth_caller, Nat.add_assoc, Nat.reduceAdd]); omega)
    case hun => first | ktr_units | ((try simp only [units_in1, units_deeper, Around.mark_units, units_caller, Nat.add_assoc, Nat.reduceAdd]); omega)
    k_whole
    intro xi xd fx fd fl D cell pb fpb cdo oc co vs9 kt k1 k2 k3 k4 k5 q1 q2 q3 q4 q5 q6 q7 kl qual mn ctv nD np cts h6 tk6 hcts hoc hco hvs F6 N6 tb6 hps sx n148 nes
    ((try dsimp only); (try k_fold))
    clear FF NN
    k_steps
    refine CiStop.go ?_
    rename Fr h₀ L _ _ => FF
    rename News h₀ L _ _ => NN
    exact ret xi xd fx fd fl D cell pb fpb cdo oc co vs9 kt k1 k2 k3 k4 k5 q1 q2 q3 q4 q5 q6 q7 kl qual mn ctv nD np cts _ _ _ (hcts.trans hz1) hoc hco hvs (fr_known _ FF (List.forall_mem_cons.mpr ⟨rfl, List.forall_mem_cons.mpr ⟨rfl, List.forall_mem_cons.mpr ⟨rfl, List.forall_mem_cons.mpr ⟨rfl, List.forall_mem_cons.mpr ⟨rfl, List.forall_mem_cons.mpr ⟨rfl, List.forall_mem_cons.mpr ⟨rfl, List.forall_mem_nil _⟩⟩⟩⟩⟩⟩⟩)) NN tb6 (sx_cons n148 sx) nes

end
section
open PySem PySem.W PyProof.Rows PySem.Spec PySem.Calls
local macro_rules | `(tactic| k_mem) => `(tactic| (show (_ : Addr × Obj) ∈ (_ : List (Addr × Obj)); with_reducible assumption))
local macro_rules | `(tactic| walk_at "CutFlow") => `(tactic| (dsimp only [CutFlow]))
local macro_rules | `(tactic| walk_at "call ref") => `(tactic| (k_here; (with_reducible show wpAny _ _ (call (Value.ref (OfNat.ofNat _)) _) _ _ _); refine CiStop.out ?_))
local macro_rules | `(tactic| walk_at "subscriptTail Name Name ref int") => `(tactic| (k_here; refine CiStop.out ?_))
local macro_rules | `(tactic| walk_at "binaryOp Mult str int") => `(tactic| (k_here; refine CiStop.out ?_))
local macro_rules | `(tactic| walk_at "binaryOp Add str str") => `(tactic| (k_here; refine CiStop.out ?_))
local macro_rules | `(tactic| walk_at "call builtin:list.append") => `(tactic| (k_here; refine CiStop.out ?_))
local macro_rules | `(tactic| walk_at "call builtin:str.join") => `(tactic| (k_here; refine CiStop.out ?_))
local macro_rules | `(tactic| walk_at "exec For Name Call cons nil") => `(tactic| (k_here; refine CiStop.out ?_))
local macro_rules | `(tactic| walk_at "exec For Name Call cons cons") => `(tactic| (k_here; refine CiStop.out ?_))
theorem hour_A2 {w : World} {loose : List Str} {mean : ExcName → Option Value} {mg mb : Str → Option Value} {dp un : Nat} {gd : Option (List Code)} {a : Addr} {ccd : Value} {outer : List Env} {A₀ : Around} {h₀ : Heap} {L Wl Nl : Addr} {tl : List (Addr × Obj)} {m : Str → Option Value} {s : Shared} {Q : Flow → Shared → Prop} {Z : Shared → Prop} {vt vf vd vw vN : Value} {E : Value → Shared → Prop}
  {oM oW : Obj} {n e eN h : Nat} {vs : List Value} {nms : List (Str × Tok)} {ws : List Int} {tcar : Tok}
  {xi xd fx fd fl D cell pb fpb cdo : Addr} {oc co : Obj} {vs9 : Array Value} {kt k1 k2 k3 k4 k5 q1 q2 q3 q4 q5 q6 q7 kl : Tok} {qual : Str} {mn ctv : Value} {nD np : Nat} {cts : List (Nat × Tok)}
  (hn : n = 4 ∨ n = 5) (hI : IntsAre vs ws) (hwl : ws.length = n - 1) (hw : ∀ x ∈ ws, 1 ≤ x ∧ x ≤ (n : Int)) (hnm : nms.map (·.1) = (nmC n).map fun c => mk [c])
  (B : Below A₀ h₀ outer h₀) (F : Fr h₀ L s.heap m) (X : (hd.heap_1 w.params).In h₀) (T : Top topProg loose mean mg mb h₀)
  (hm : ∀ p ∈ ([(Str.ofString "total", vt), (Str.ofString "free", vf), (Str.ofString "driven", vd), (Str.ofString "cars", .int ((n : Int) - 1) tcar), (Str.ofString "width", vw), (Str.ofString "number", vN), (Str.ofString "lexer", .ref xi)] : List (Str × Value)), m p.1 = some p.2)
  (hcts : cts.map (·.1) = qC (rowsA n ws h)) (hoc : oc.data = .cell (some (.ref D))) (hco : co.data = .fields vs9) (hvs : vs9[1]? = some (.str qual kt))
  (N : News h₀ L s.heap (lexL w xi xd fx fd fl D cell pb fpb cdo oc co k1 k2 k3 k4 k5 q1 q2 q3 q4 q5 q6 q7 kl qual mn ctv 1 nD np cts tl)) (sx : ∀ y ∈ [xi, xd, fx, fd, fl, cdo, D, cell, pb], Sep y tl) (nes : LexNe xi xd fx fd fl D cell pb cdo)
  (hoM : oM.data = .cell (some (.ref Nl))) (hoW : oW.data = .cell (some (.ref Wl)))  (mM : (L + 1 + 1 + 1 + 1, oM) ∈ tl) (mW : (L + 1 + 1 + 1, oW) ∈ tl) (mV : (Wl, listOf vs.toArray e) ∈ tl) (mN : (Nl, listOf (txts nms) eN) ∈ tl)
  (cd1 : CodeHd h₀ 152 148)
  (hdp : dp + 50 < recursionLimit) (hun : un + 400 < cLine)
  (ret : ∀ ln kl h' tk' m', Fr h₀ L h' (kstB m' [(Str.ofString "total", vt), (Str.ofString "free", vf), (Str.ofString "driven", vd), (Str.ofString "cars", .int ((n : Int) - 1) tcar), (Str.ofString "width", vw), (Str.ofString "number", vN), (Str.ofString "lexer", .ref xi)]) → News h₀ L h' ((xi, instObj 128 xd) :: (xd, dictOf [{ hash := PyData.keyHash w.params (Str.ofString "lineno"), key := Value.str (Str.ofString "lineno") k1, val := Value.int ln kl }, { hash := PyData.keyHash w.params (Str.ofString "instream"), key := Value.str (Str.ofString "instream") k2, val := Value.ref fx }, { hash := PyData.keyHash w.params (Str.ofString "whitespace"), key := Value.str (Str.ofString "whitespace") k3, val := Value.str (Str.ofString "\n\t\x0d ") k4 }, { hash := PyData.keyHash w.params (Str.ofString "pushback"), key := Value.str (Str.ofString "pushback") k5, val := Value.ref pb }] 4) :: (pb, listOf (txts []) np) :: (cdo, co) :: tl) → Z { s with heap := h', toks := tk' })
  (hE : PassesOwn (model PySem.Challenge.rw_sc0080_02.row.prog w) (ktrTop dp un gd (Str.ofString "law") (scopeOf (hd.heap_1 w.params) 175) L a ccd (cellsFrom (L + 1) ((scopeOf (hd.heap_1 w.params) 175)).names []) outer) (envX (Str.ofString "law") (scopeOf (hd.heap_1 w.params) 175) L a ccd (cellsFrom (L + 1) ((scopeOf (hd.heap_1 w.params) 175)).names [])) E) :
  wpAny (model PySem.Challenge.rw_sc0080_02.row.prog w) (ktrTop dp un gd (Str.ofString "law") (scopeOf (hd.heap_1 w.params) 175) L a ccd (cellsFrom (L + 1) ((scopeOf (hd.heap_1 w.params) 175)).names []) outer) (execs (((forBody ((bodyOf (hd.heap_1 w.params) 175).getD 9 (.Pass ⟨0, 0, 0, 0⟩))).drop 3).take 2) (envX (Str.ofString "law") (scopeOf (hd.heap_1 w.params) 175) L a ccd (cellsFrom (L + 1) ((scopeOf (hd.heap_1 w.params) 175)).names []))) (CutFlow Z Q) E s := by
  revert X
  k_fill
  intro X
  revert hE
  refine' tail_enter (fun b sc => PassesOwn (model PySem.Challenge.rw_sc0080_02.row.prog w) (ktrTop dp un gd (Str.ofString "law") sc L a ccd (cellsFrom (L + 1) (sc).names []) outer) (envX (Str.ofString "law") sc L a ccd (cellsFrom (L + 1) (sc).names [])) E → wpAny (model PySem.Challenge.rw_sc0080_02.row.prog w) (ktrTop dp un gd (Str.ofString "law") sc L a ccd (cellsFrom (L + 1) (sc).names []) outer) (execs (((forBody (b.getD 9 (.Pass ⟨0, 0, 0, 0⟩))).drop 3).take 2) (envX (Str.ofString "law") sc L a ccd (cellsFrom (L + 1) (sc).names []))) (CutFlow Z Q) E s) ?ho ?_
  case ho => k_is
  intro hE
  replace F := fr_known _ F hm
  clear hm
  show wpAny _ _ (execs [_, _] _) _ _ _
  have e1n : (n : Int) - 1 = ((n - 1 : Nat) : Int) := by omega
  have hll : ((rowsA n ws h).map List.length).sum + 3 * (rowsA n ws h).length ≤ 2000 := by
    have := rowsA_sum hn hwl hw (h := h)
    rw [rowsA_len]; omega
  k_steps
  refine CiStop.go ?_
  obtain ⟨J, jI, jO⟩ : ∃ J : Nat → (Str → Option Value) → List (Addr × Obj) → Prop, (∀ k m l, RdJ w [(Str.ofString "total", vt), (Str.ofString "free", vf), (Str.ofString "driven", vd), (Str.ofString "cars", .int ((n : Int) - 1) tcar), (Str.ofString "width", vw), (Str.ofString "number", vN), (Str.ofString "lexer", .ref xi)] (rowsA n ws h) xi xd fx fd fl D cell pb fpb cdo oc co k1 k2 k3 k4 k5 q1 q2 q3 q4 q5 q6 q7 qual mn ctv np tl k m l → J k m l) ∧ (∀ k m l, J k m l → RdJ w [(Str.ofString "total", vt), (Str.ofString "free", vf), (Str.ofString "driven", vd), (Str.ofString "cars", .int ((n : Int) - 1) tcar), (Str.ofString "width", vw), (Str.ofString "number", vN), (Str.ofString "lexer", .ref xi)] (rowsA n ws h) xi xd fx fd fl D cell pb fpb cdo oc co k1 k2 k3 k4 k5 q1 q2 q3 q4 q5 q6 q7 qual mn ctv np tl k m l) := ⟨_, fun _ _ _ h => h, fun _ _ _ h => h⟩
  refine' rg_for (h₀ := h₀) (L := L) (n := n - 1) J rfl ?ev ?turn ?done ?hs ?hE
  case hs => intro _; rfl
  case hE => exact hE
  case ev =>
    k_steps
    rename Fr h₀ L _ _ => FF
    rename News h₀ L _ _ => NN
    refine CiStop.go ?_
    rename IsRange _ _ _ _ _ _ _ _ => hr
    rw [e1n] at hr
    refine ⟨_, _, _, _, _, _, _, _, rfl, rfl, hr, by omega, FF, NN, jI _ _ _ (RdJ.mk kl nD cts 1 (List.forall_mem_cons.mpr ⟨rfl, List.forall_mem_cons.mpr ⟨rfl, List.forall_mem_cons.mpr ⟨rfl, List.forall_mem_cons.mpr ⟨rfl, List.forall_mem_cons.mpr ⟨rfl, List.forall_mem_cons.mpr ⟨rfl, List.forall_mem_cons.mpr ⟨rfl, List.forall_mem_nil _⟩⟩⟩⟩⟩⟩⟩) (by rw [leftC, if_pos rfl]; exact hcts) rfl)⟩
  case turn =>
    intro k I h2 tk2 ti m2 news2 hk hJ sI F2 N2
    obtain ⟨kl2, nD2, cts2, ln2, hm2, hc2, hl2⟩ := jO _ _ _ hJ
    clear hJ
    replace F2 := fr_known _ F2 hm2
    clear hm2 F N
    have hxk : ws[k]? = some (ws.getD k 0) := by
      rw [List.getD_eq_getElem?_getD, List.getElem?_eq_getElem (by omega)]; rfl
    have hwk : 1 ≤ ws.getD k 0 ∧ ws.getD k 0 ≤ (n : Int) := hw _ (by
      rw [List.getD_eq_getElem?_getD, List.getElem?_eq_getElem (by omega)]
      exact List.getElem_mem _)
    obtain ⟨tnk, hnk⟩ : ∃ t, nms[k]? = some (mk [(nmC n).getD k 0], t) := nm_at hn hnm hk
    obtain ⟨zc, hz, hO⟩ := tk_at (rowA_ok hn hwl hw hk) (rowsA_at (h := h) hk) cts2 hc2
    dsimp only [lexL] at N2
    have sx2 := sx_more (oI := rgObj ((k + 1 : Nat) : Int) ((n - 1 : Nat) : Int)) sI (List.forall_mem_cons.mpr ⟨⟨_, by k_mem⟩, List.forall_mem_cons.mpr ⟨⟨_, by k_mem⟩, List.forall_mem_cons.mpr ⟨⟨_, by k_mem⟩, List.forall_mem_cons.mpr ⟨⟨_, by k_mem⟩, List.forall_mem_cons.mpr ⟨⟨_, by k_mem⟩, List.forall_mem_cons.mpr ⟨⟨_, by k_mem⟩, List.forall_mem_cons.mpr ⟨⟨_, by k_mem⟩, List.forall_mem_cons.mpr ⟨⟨_, by k_mem⟩, List.forall_mem_cons.mpr ⟨⟨_, by k_mem⟩, List.forall_mem_nil _⟩⟩⟩⟩⟩⟩⟩⟩⟩) sx
    k_steps
    refine CiStop.go ?_
    rename Fr h₀ L _ _ => FF
    rename News h₀ L _ _ => NN
    k_dflt (refine' gt_c (news := (I, rgObj ((k + 1 : Nat) : Int) ((n - 1 : Nat) : Int)) :: tl) (left_len hc2 hll) hO ?B FF ?X ?T ?hk (news_cons NN (by k_mem) (news_cons NN (by k_mem) (news_cons NN (by k_mem) (news_cons NN (by k_mem) (news_cons NN (by k_mem) (news_cons NN (by k_mem) (news_cons NN (by k_mem) (news_cons NN (by k_mem) (news_cons NN (by k_mem) (news_cons NN (by k_mem) (fun p hp => NN p (by (repeat' first | exact hp | refine List.Mem.tail _ ?_))))))))))))) ?cz hoc hco hvs sx2 nes.1 nes.2.1 nes.2.2.1 nes.2.2.2.1 nes.2.2.2.2.1 nes.2.2.2.2.2.1 nes.2.2.2.2.2.2.1 nes.2.2.2.2.2.2.2.1 nes.2.2.2.2.2.2.2.2.1 nes.2.2.2.2.2.2.2.2.2.1 nes.2.2.2.2.2.2.2.2.2.2.1 nes.2.2.2.2.2.2.2.2.2.2.2.1 nes.2.2.2.2.2.2.2.2.2.2.2.2.1 nes.2.2.2.2.2.2.2.2.2.2.2.2.2.1 nes.2.2.2.2.2.2.2.2.2.2.2.2.2.2.1 nes.2.2.2.2.2.2.2.2.2.2.2.2.2.2.2.1 nes.2.2.2.2.2.2.2.2.2.2.2.2.2.2.2.2.1 nes.2.2.2.2.2.2.2.2.2.2.2.2.2.2.2.2.2.1 nes.2.2.2.2.2.2.2.2.2.2.2.2.2.2.2.2.2.2.1 nes.2.2.2.2.2.2.2.2.2.2.2.2.2.2.2.2.2.2.2.1 nes.2.2.2.2.2.2.2.2.2.2.2.2.2.2.2.2.2.2.2.2.1 nes.2.2.2.2.2.2.2.2.2.2.2.2.2.2.2.2.2.2.2.2.2.1 nes.2.2.2.2.2.2.2.2.2.2.2.2.2.2.2.2.2.2.2.2.2.2.1 nes.2.2.2.2.2.2.2.2.2.2.2.2.2.2.2.2.2.2.2.2.2.2.2.1 nes.2.2.2.2.2.2.2.2.2.2.2.2.2.2.2.2.2.2.2.2.2.2.2.2.1 nes.2.2.2.2.2.2.2.2.2.2.2.2.2.2.2.2.2.2.2.2.2.2.2.2.2.1 nes.2.2.2.2.2.2.2.2.2.2.2.2.2.2.2.2.2.2.2.2.2.2.2.2.2.2.1 nes.2.2.2.2.2.2.2.2.2.2.2.2.2.2.2.2.2.2.2.2.2.2.2.2.2.2.2.1 nes.2.2.2.2.2.2.2.2.2.2.2.2.2.2.2.2.2.2.2.2.2.2.2.2.2.2.2.2.1 nes.2.2.2.2.2.2.2.2.2.2.2.2.2.2.2.2.2.2.2.2.2.2.2.2.2.2.2.2.2.1 nes.2.2.2.2.2.2.2.2.2.2.2.2.2.2.2.2.2.2.2.2.2.2.2.2.2.2.2.2.2.2.1 nes.2.2.2.2.2.2.2.2.2.2.2.2.2.2.2.2.2.2.2.2.2.2.2.2.2.2.2.2.2.2.2.1 nes.2.2.2.2.2.2.2.2.2.2.2.2.2.2.2.2.2.2.2.2.2.2.2.2.2.2.2.2.2.2.2.2.1 nes.2.2.2.2.2.2.2.2.2.2.2.2.2.2.2.2.2.2.2.2.2.2.2.2.2.2.2.2.2.2.2.2.2.1 nes.2.2.2.2.2.2.2.2.2.2.2.2.2.2.2.2.2.2.2.2.2.2.2.2.2.2.2.2.2.2.2.2.2.2.1 nes.2.2.2.2.2.2.2.2.2.2.2.2.2.2.2.2.2.2.2.2.2.2.2.2.2.2.2.2.2.2.2.2.2.2.2 ?hdp ?hun ?_)
    case B => k_asm
    case X => k_asm
    case T => k_asm
    case hk => exact rfl
    case cz => kn_code
    case hdp => first | ktr_room | ((try simp only [depth_under_make, depth_under_kw, depth_in1, depth_deeper, depth_caller, Nat.add_assoc, Nat.reduceAdd]); omega)
    case hun => first | ktr_units | ((try simp only [units_in1, units_deeper, Around.mark_units, units_caller, Nat.add_assoc, Nat.reduceAdd]); omega)
    k_whole
    intro tok tt kl3 nD3 h3 tk3 htok F3 N3
    obtain rfl := mk_codes htok
    rw [hl2] at N3
    ((try dsimp only); (try k_fold))
    have hq1 : (mk (List.replicate ((ws.getD k 0).toNat + 1) 46 ++ [(nmC n).getD k 0]) != mk (List.replicate ((ws.getD k 0).toNat + 1) 46 ++ [(nmC n).getD k 0])) = false := by simp
    have hq2 : ((k : Int) + 1 != (k : Int) + 1) = false := by simp
    have ew : (ws.getD k 0 + 1).toNat = (ws.getD k 0).toNat + 1 := by omega
    k_steps
    refine CiStop.go ?_
    rename News h₀ L _ _ => NN
    k_dflt (refine' item_ints (e := e) NN ?mi hI (j := k) rfl ?hzq hxk ?_)
    case mi => k_dflt k_mem
    case hzq => omega
    intro tw
    k_steps
    refine CiStop.go ?_
    refine rep_sign (c := 46) (by decide +kernel) (by omega) (by omega) ?_
    intro t7 k7
    k_steps
    refine CiStop.go ?_
    rename News h₀ L _ _ => NN
    k_dflt (refine' item_txts (ws := nms) (D := Nl) (n := eN) NN ?mi2 (j := k) rfl ?hzq2 hnk ?_)
    case mi2 => k_dflt k_mem
    case hzq2 => omega
    k_steps
    refine CiStop.go ?_
    refine add_str (hsz := ?hszA) ?_
    case hszA => exact mk_fits (by rw [mk_length, List.length_replicate]; omega) (show 1 ≤ 100 by decide)
    intro t8 k8
    rw [row_made, ew]
    k_steps
    refine CiStop.go ?_
    rename Fr h₀ L _ _ => FF
    rename News h₀ L _ _ => NN
    exact ⟨_, _, _, _, rfl, FF, news_cons NN (by k_mem) (news_cons NN (by k_mem) (news_cons NN (by k_mem) (news_cons NN (by k_mem) (news_cons NN (by k_mem) (news_cons NN (by k_mem) (news_cons NN (by k_mem) (news_cons NN (by k_mem) (news_cons NN (by k_mem) (news_cons NN (by k_mem) (fun p hp => NN p (by (repeat' first | exact hp | refine List.Mem.tail _ ?_)))))))))))), sep_map (l' := lexL w xi xd fx fd fl D cell pb fpb cdo oc co k1 k2 k3 k4 k5 q1 q2 q3 q4 q5 q6 q7 kl3 qual mn ctv ((k : Int) + 1) nD3 np zc tl) (by rfl) sI, jI _ _ _ (RdJ.mk kl3 nD3 zc ((k : Int) + 1) (List.forall_mem_cons.mpr ⟨rfl, List.forall_mem_cons.mpr ⟨rfl, List.forall_mem_cons.mpr ⟨rfl, List.forall_mem_cons.mpr ⟨rfl, List.forall_mem_cons.mpr ⟨rfl, List.forall_mem_cons.mpr ⟨rfl, List.forall_mem_cons.mpr ⟨rfl, List.forall_mem_nil _⟩⟩⟩⟩⟩⟩⟩) hz (rd_next k))⟩
  case done =>
    intro h4 tk4 m4 news4 hJ F4 N4
    obtain ⟨kl4, nD4, cts4, ln4, hm4, hc4, hl4⟩ := jO _ _ _ hJ
    clear hJ
    replace F4 := fr_known _ F4 hm4
    clear hm4 F N
    dsimp only [lexL] at N4
    have hO := tk_end (ls := rowsA n ws h) (k := n - 1) (by omega) (by rw [rowsA_len]; exact Nat.le_refl _) cts4 hc4
    rw [if_neg (by omega)] at hl4
    have hq3 : (Str.ofString "" != Str.ofString "") = false := by simp
    have hq4 : ((n : Int) - 1 + 1 != (n : Int) - 1 + 1) = false := by simp
    k_steps
    refine CiStop.go ?_
    rename Fr h₀ L _ _ => FF
    rename News h₀ L _ _ => NN
    k_dflt (refine' gt_c (news := tl) (left_len hc4 hll) hO ?B FF ?X ?T ?hk NN ?cz hoc hco hvs sx nes.1 nes.2.1 nes.2.2.1 nes.2.2.2.1 nes.2.2.2.2.1 nes.2.2.2.2.2.1 nes.2.2.2.2.2.2.1 nes.2.2.2.2.2.2.2.1 nes.2.2.2.2.2.2.2.2.1 nes.2.2.2.2.2.2.2.2.2.1 nes.2.2.2.2.2.2.2.2.2.2.1 nes.2.2.2.2.2.2.2.2.2.2.2.1 nes.2.2.2.2.2.2.2.2.2.2.2.2.1 nes.2.2.2.2.2.2.2.2.2.2.2.2.2.1 nes.2.2.2.2.2.2.2.2.2.2.2.2.2.2.1 nes.2.2.2.2.2.2.2.2.2.2.2.2.2.2.2.1 nes.2.2.2.2.2.2.2.2.2.2.2.2.2.2.2.2.1 nes.2.2.2.2.2.2.2.2.2.2.2.2.2.2.2.2.2.1 nes.2.2.2.2.2.2.2.2.2.2.2.2.2.2.2.2.2.2.1 nes.2.2.2.2.2.2.2.2.2.2.2.2.2.2.2.2.2.2.2.1 nes.2.2.2.2.2.2.2.2.2.2.2.2.2.2.2.2.2.2.2.2.1 nes.2.2.2.2.2.2.2.2.2.2.2.2.2.2.2.2.2.2.2.2.2.1 nes.2.2.2.2.2.2.2.2.2.2.2.2.2.2.2.2.2.2.2.2.2.2.1 nes.2.2.2.2.2.2.2.2.2.2.2.2.2.2.2.2.2.2.2.2.2.2.2.1 nes.2.2.2.2.2.2.2.2.2.2.2.2.2.2.2.2.2.2.2.2.2.2.2.2.1 nes.2.2.2.2.2.2.2.2.2.2.2.2.2.2.2.2.2.2.2.2.2.2.2.2.2.1 nes.2.2.2.2.2.2.2.2.2.2.2.2.2.2.2.2.2.2.2.2.2.2.2.2.2.2.1 nes.2.2.2.2.2.2.2.2.2.2.2.2.2.2.2.2.2.2.2.2.2.2.2.2.2.2.2.1 nes.2.2.2.2.2.2.2.2.2.2.2.2.2.2.2.2.2.2.2.2.2.2.2.2.2.2.2.2.1 nes.2.2.2.2.2.2.2.2.2.2.2.2.2.2.2.2.2.2.2.2.2.2.2.2.2.2.2.2.2.1 nes.2.2.2.2.2.2.2.2.2.2.2.2.2.2.2.2.2.2.2.2.2.2.2.2.2.2.2.2.2.2.1 nes.2.2.2.2.2.2.2.2.2.2.2.2.2.2.2.2.2.2.2.2.2.2.2.2.2.2.2.2.2.2.2.1 nes.2.2.2.2.2.2.2.2.2.2.2.2.2.2.2.2.2.2.2.2.2.2.2.2.2.2.2.2.2.2.2.2.1 nes.2.2.2.2.2.2.2.2.2.2.2.2.2.2.2.2.2.2.2.2.2.2.2.2.2.2.2.2.2.2.2.2.2.1 nes.2.2.2.2.2.2.2.2.2.2.2.2.2.2.2.2.2.2.2.2.2.2.2.2.2.2.2.2.2.2.2.2.2.2.1 nes.2.2.2.2.2.2.2.2.2.2.2.2.2.2.2.2.2.2.2.2.2.2.2.2.2.2.2.2.2.2.2.2.2.2.2 ?hdp ?hun ?_)
    case B => k_asm
    case X => k_asm
    case T => k_asm
    case hk => exact rfl
    case cz => kn_code
    case hdp => first | ktr_room | ((try simp only [depth_under_make, depth_under_kw, depth_in1, depth_deeper, depth_caller, Nat.add_assoc, Nat.reduceAdd]); omega)
    case hun => first | ktr_units | ((try simp only [units_in1, units_deeper, Around.mark_units, units_caller, Nat.add_assoc, Nat.reduceAdd]); omega)
    k_whole
    intro tok tt kl3 nD3 h3 tk3 htok F3 N3
    obtain rfl := nil_codes htok
    have el : ln4 + 1 = (n : Int) - 1 + 1 := by omega
    rw [el] at N3
    ((try dsimp only); (try k_fold))
    k_steps
    refine CiStop.go ?_
    rename Fr h₀ L _ _ => FF
    rename News h₀ L _ _ => NN
    exact ret _ _ _ _ _ (fr_known _ FF (List.forall_mem_cons.mpr ⟨rfl, List.forall_mem_cons.mpr ⟨rfl, List.forall_mem_cons.mpr ⟨rfl, List.forall_mem_cons.mpr ⟨rfl, List.forall_mem_cons.mpr ⟨rfl, List.forall_mem_cons.mpr ⟨rfl, List.forall_mem_cons.mpr ⟨rfl, List.forall_mem_nil _⟩⟩⟩⟩⟩⟩⟩)) (news_cons NN (by k_mem) (news_cons NN (by k_mem) (news_cons NN (by k_mem) (news_cons NN (by k_mem) (fun p hp => NN p (by (repeat' first | exact hp | refine List.Mem.tail _ ?_)))))))

end
section
open PySem PySem.W PyProof.Rows PySem.Spec PySem.Calls
/-- the state before an hour -/
inductive HrJ (L Nl : Addr) (oM oS : Obj) (n wd eN : Nat) (nms : List (Str × Tok)) (tot dv : Int) (tt tdv tcar twd : Tok) (k : Nat) (m : Str → Option Value) : List (Addr × Obj) → Prop
  | mk (oW : Obj) (Wl : Addr) (vs : List Value) (e : Nat) (ws : List Int) (f NN : Int) (tf tN : Tok) (ps1 ps2 ps3 : Array Value) (c₁ c₂ c₃ : Addr) (o₁ o₂ o₃ : Obj) (hm : ∀ p ∈ ([(Str.ofString "total", .int tot tt), (Str.ofString "free", .int f tf), (Str.ofString "driven", .int dv tdv), (Str.ofString "cars", .int ((n : Int) - 1) tcar), (Str.ofString "width", .int (wd : Int) twd), (Str.ofString "number", .int NN tN)] : List (Str × Value)), m p.1 = some p.2) (hI : IntsAre vs ws) (hwl : ws.length = n - 1) (hw : ∀ x ∈ ws, 1 ≤ x ∧ x ≤ (n : Int)) (hf : freeP ws n n 0 = (f, dv)) (hN : NN = V wd (cntP ws n)) (hoW : oW.data = .cell (some (.ref Wl)))
    (tb1 : TabOk 179 16 (Str.ofString "_law_lexer.<locals>.<lambda>") ps1 c₁ o₁) (tb2 : TabOk 54 4 D2Q ps2 c₂ o₂) (tb3 : TabOk 39 4 I2Q ps3 c₃ o₃) (hpw : PW [L + 1 + 1 + 1 + 1, L + 1 + 1 + 1, L + 1 + 1, Wl, Nl, 148, c₁, 71, c₂, 64, c₃]) : HrJ L Nl oM oS n wd eN nms tot dv tt tdv tcar twd k m [(L + 1 + 1 + 1 + 1, oM), (L + 1 + 1 + 1, oW), (L + 1 + 1, oS), (Wl, listOf vs.toArray e), (Nl, listOf (txts nms) eN), (148, tabObj ps1), (c₁, o₁), (71, tabObj ps2), (c₂, o₂), (64, tabObj ps3), (c₃, o₃)]
theorem hour_t {w : World} {loose : List Str} {mean : ExcName → Option Value} {mg mb : Str → Option Value} {dp un : Nat} {gd : Option (List Code)} {a : Addr} {ccd : Value} {outer : List Env} {A₀ : Around} {h₀ : Heap} {L Wl Nl Hi : Addr} {m : Str → Option Value} {s : Shared} {Q : Flow → Shared → Prop} {E : Value → Shared → Prop}
  {oM oW oS oHi : Obj} {ps1 ps2 ps3 : Array Value} {c₁ c₂ c₃ : Addr} {o₁ o₂ o₃ : Obj} {n wd e eN h : Nat} {vs : List Value} {nms : List (Str × Tok)} {ws : List Int} {tot f dv NN : Int} {tt tf tdv tcar twd tN tS th : Tok}
  (hn : n = 4 ∨ n = 5) (hwd : 3 ≤ wd) (hwd2 : wd ≤ 99) (hnm : nms.map (·.1) = (nmC n).map fun c => mk [c])
  (hI : IntsAre vs ws) (hwl : ws.length = n - 1) (hw : ∀ x ∈ ws, 1 ≤ x ∧ x ≤ (n : Int)) (hf : freeP ws n n 0 = (f, dv)) (hN : NN = V wd (cntP ws n))
  (B : Below A₀ h₀ outer h₀) (F : Fr h₀ L s.heap m) (X : (hd.heap_1 w.params).In h₀) (T : Top topProg loose mean mg mb h₀)
  (hm : ∀ p ∈ ([(Str.ofString "total", .int tot tt), (Str.ofString "free", .int f tf), (Str.ofString "driven", .int dv tdv), (Str.ofString "cars", .int ((n : Int) - 1) tcar), (Str.ofString "width", .int (wd : Int) twd), (Str.ofString "number", .int NN tN), (Str.ofString "hour", .int (h : Int) th)] : List (Str × Value)), m p.1 = some p.2)
  (N : News h₀ L s.heap [(L + 1 + 1 + 1 + 1, oM), (L + 1 + 1 + 1, oW), (L + 1 + 1, oS), (Wl, listOf vs.toArray e), (Nl, listOf (txts nms) eN), (148, tabObj ps1), (c₁, o₁), (71, tabObj ps2), (c₂, o₂), (64, tabObj ps3), (c₃, o₃), (Hi, oHi)]) (hoM : oM.data = .cell (some (.ref Nl))) (hoW : oW.data = .cell (some (.ref Wl))) (hoS : oS.data = .cell (some (.int (n : Int) tS)))
  (cd1 : CodeHd h₀ 152 148) (cd2 : CodeHd h₀ 75 71) (cd3 : CodeHd h₀ 68 64) (tb1 : TabOk 179 16 (Str.ofString "_law_lexer.<locals>.<lambda>") ps1 c₁ o₁) (tb2 : TabOk 54 4 D2Q ps2 c₂ o₂) (tb3 : TabOk 39 4 I2Q ps3 c₃ o₃)
  (hpw : PW [L + 1 + 1 + 1 + 1, L + 1 + 1 + 1, L + 1 + 1, Wl, Nl, 148, c₁, 71, c₂, 64, c₃, Hi]) (hL : @LT.lt Nat _ 148 L)
  (hdp : dp + 60 < recursionLimit) (hun : un + 400 < cLine)
  (hE : PassesOwn (model PySem.Challenge.rw_sc0080_02.row.prog w) (ktrTop dp un gd (Str.ofString "law") (scopeOf (hd.heap_1 w.params) 175) L a ccd (cellsFrom (L + 1) ((scopeOf (hd.heap_1 w.params) 175)).names []) outer) (envX (Str.ofString "law") (scopeOf (hd.heap_1 w.params) 175) L a ccd (cellsFrom (L + 1) ((scopeOf (hd.heap_1 w.params) 175)).names [])) E)
  (ret : ∀ h' tk' m' l', HrJ L Nl oM oS n wd eN nms tot dv tt tdv tcar twd (h + 1) m' l' → Sep Hi l' → Fr h₀ L h' m' → News h₀ L h' ((Hi, oHi) :: l') → Q .next { s with heap := h', toks := tk' }) :
  wpAny (model PySem.Challenge.rw_sc0080_02.row.prog w) (ktrTop dp un gd (Str.ofString "law") (scopeOf (hd.heap_1 w.params) 175) L a ccd (cellsFrom (L + 1) ((scopeOf (hd.heap_1 w.params) 175)).names []) outer) (execs (forBody ((bodyOf (hd.heap_1 w.params) 175).getD 9 (.Pass ⟨0, 0, 0, 0⟩))) (envX (Str.ofString "law") (scopeOf (hd.heap_1 w.params) 175) L a ccd (cellsFrom (L + 1) ((scopeOf (hd.heap_1 w.params) 175)).names []))) Q E s := by
  obtain ⟨top, cs0, O⟩ := hr_ok hn hwl hw hf
  rw [cut_hour (forBody ((bodyOf (hd.heap_1 w.params) 175).getD 9 (.Pass ⟨0, 0, 0, 0⟩)))]
  refine execs_cut (hour_A1 (tl := [(L + 1 + 1 + 1 + 1, oM), (L + 1 + 1 + 1, oW), (L + 1 + 1, oS), (Wl, listOf vs.toArray e), (Nl, listOf (txts nms) eN), (71, tabObj ps2), (c₂, o₂), (64, tabObj ps3), (c₃, o₃), (Hi, oHi)]) hn hI hwl hw hnm B F X T hm (news_in N (List.forall_mem_cons.mpr ⟨by k_mem, List.forall_mem_cons.mpr ⟨by k_mem, List.forall_mem_cons.mpr ⟨by k_mem, List.forall_mem_cons.mpr ⟨by k_mem, List.forall_mem_cons.mpr ⟨by k_mem, List.forall_mem_cons.mpr ⟨by k_mem, List.forall_mem_cons.mpr ⟨by k_mem, List.forall_mem_cons.mpr ⟨by k_mem, List.forall_mem_cons.mpr ⟨by k_mem, List.forall_mem_cons.mpr ⟨by k_mem, List.forall_mem_cons.mpr ⟨by k_mem, List.forall_mem_cons.mpr ⟨by k_mem, List.forall_mem_nil _⟩⟩⟩⟩⟩⟩⟩⟩⟩⟩⟩⟩)) hoM hoW cd1 tb1 (by k_mem) (by k_mem) (by k_mem) (by k_mem) (sep_pw (l := [(L + 1 + 1 + 1 + 1, oM), (L + 1 + 1 + 1, oW), (L + 1 + 1, oS), (Wl, listOf vs.toArray e), (Nl, listOf (txts nms) eN), (71, tabObj ps2), (c₂, o₂), (64, tabObj ps3), (c₃, o₃), (Hi, oHi)]) (pw_pick hpw [5, 0, 1, 2, 3, 4, 7, 8, 9, 10, 11] 12 (Nat.le_of_ble_eq_true rfl) rfl)) (sep_pw (l := [(L + 1 + 1 + 1 + 1, oM), (L + 1 + 1 + 1, oW), (L + 1 + 1, oS), (Wl, listOf vs.toArray e), (Nl, listOf (txts nms) eN), (71, tabObj ps2), (c₂, o₂), (64, tabObj ps3), (c₃, o₃), (Hi, oHi)]) (pw_pick hpw [6, 0, 1, 2, 3, 4, 7, 8, 9, 10, 11] 12 (Nat.le_of_ble_eq_true rfl) rfl)) (pw_at hpw 6 5 7 (Nat.le_of_ble_eq_true rfl) rfl) hL (by omega) (by omega) ?_ hE)
  intro xi xd fx fd fl D cell pb fpb cdo oc co vs9 kt k1 k2 k3 k4 k5 q1 q2 q3 q4 q5 q6 q7 kl qual mn ctv nD np cts h1 tk1 m1 hcts hoc hco hvs F1 N1 tb1' sx nes
  have hpw2 := pw_lex (xi := xi) (xd := xd) (pb := pb) (cdo := cdo) (b := 148) (l1 := [L + 1 + 1 + 1 + 1, L + 1 + 1 + 1, L + 1 + 1, Wl, Nl]) (l2 := [71, c₂, 64, c₃, Hi]) (pw_pick hpw [5, 0, 1, 2, 3, 4, 7, 8, 9, 10, 11] 12 (Nat.le_of_ble_eq_true rfl) rfl) (sep_ne (sx xi (by simp))) (sep_ne (sx xd (by simp))) (sep_ne (sx pb (by simp))) (sep_ne (sx cdo (by simp)))
    nes.1 nes.2.2.2.2.2.2.2.2.2.2.2.2.2.2.2.2.2.2.2.2.2.2.2.2.2.2.2.2.1 nes.2.2.2.2.2.2.2.2.2.2.2.2.2.2.2.2.2.2.2.2.2.2.2.2.2.2.2.2.2.1 nes.2.2.2.2.1 nes.2.2.2.2.2.2.2.2.2.2.1 nes.2.2.2.2.2.2.2.2.2.2.2.2.2.2.2.2.2.2.2.2.2.2.2.2.2.2.2.2.2.2.2.2.2.1
  refine execs_cut (hour_A2 (tl := (148, tabObj #[rawInt 179, rawInt 16, .ref cdo]) :: [(L + 1 + 1 + 1 + 1, oM), (L + 1 + 1 + 1, oW), (L + 1 + 1, oS), (Wl, listOf vs.toArray e), (Nl, listOf (txts nms) eN), (71, tabObj ps2), (c₂, o₂), (64, tabObj ps3), (c₃, o₃), (Hi, oHi)]) hn hI hwl hw hnm B F1 X T (List.forall_mem_cons.mpr ⟨rfl, List.forall_mem_cons.mpr ⟨rfl, List.forall_mem_cons.mpr ⟨rfl, List.forall_mem_cons.mpr ⟨rfl, List.forall_mem_cons.mpr ⟨rfl, List.forall_mem_cons.mpr ⟨rfl, List.forall_mem_cons.mpr ⟨rfl, List.forall_mem_nil _⟩⟩⟩⟩⟩⟩⟩) hcts hoc hco hvs N1 sx nes hoM hoW (by k_mem) (by k_mem) (by k_mem) (by k_mem) cd1 (by omega) (by omega) ?_ hE)
  intro ln kl2 h2 tk2 m2 F2 N2
  refine execs_cut (hour_B (tl := [(L + 1 + 1 + 1 + 1, oM), (L + 1 + 1, oS), (Wl, listOf vs.toArray e), (Nl, listOf (txts nms) eN), (148, tabObj #[rawInt 179, rawInt 16, .ref cdo]), (cdo, co), (71, tabObj ps2), (c₂, o₂), (64, tabObj ps3), (c₃, o₃), (Hi, oHi)]) hn hI hwl hnm O.sent O.plc B F2 X T (List.forall_mem_cons.mpr ⟨rfl, List.forall_mem_cons.mpr ⟨rfl, List.forall_mem_cons.mpr ⟨rfl, List.forall_mem_cons.mpr ⟨rfl, List.forall_mem_cons.mpr ⟨rfl, List.forall_mem_cons.mpr ⟨rfl, List.forall_mem_cons.mpr ⟨rfl, List.forall_mem_nil _⟩⟩⟩⟩⟩⟩⟩) (news_in N2 (List.forall_mem_cons.mpr ⟨by k_mem, List.forall_mem_cons.mpr ⟨by k_mem, List.forall_mem_cons.mpr ⟨by k_mem, List.forall_mem_cons.mpr ⟨by k_mem, List.forall_mem_cons.mpr ⟨by k_mem, List.forall_mem_cons.mpr ⟨by k_mem, List.forall_mem_cons.mpr ⟨by k_mem, List.forall_mem_cons.mpr ⟨by k_mem, List.forall_mem_cons.mpr ⟨by k_mem, List.forall_mem_cons.mpr ⟨by k_mem, List.forall_mem_cons.mpr ⟨by k_mem, List.forall_mem_cons.mpr ⟨by k_mem, List.forall_mem_cons.mpr ⟨by k_mem, List.forall_mem_cons.mpr ⟨by k_mem, List.forall_mem_cons.mpr ⟨by k_mem, List.forall_mem_nil _⟩⟩⟩⟩⟩⟩⟩⟩⟩⟩⟩⟩⟩⟩⟩)) hoM hoW hoS cd1 (by k_mem) (by k_mem) (by k_mem) (by k_mem) (sep_pw (l := [(L + 1 + 1 + 1 + 1, oM), (L + 1 + 1, oS), (Wl, listOf vs.toArray e), (Nl, listOf (txts nms) eN), (148, tabObj #[rawInt 179, rawInt 16, .ref cdo]), (cdo, co), (71, tabObj ps2), (c₂, o₂), (64, tabObj ps3), (c₃, o₃), (Hi, oHi)]) (pw_pick hpw2 [1, 0, 2, 3, 4, 8, 9, 10, 11, 12, 13, 14] 15 (Nat.le_of_ble_eq_true rfl) rfl)) (sep_pw (l := [(L + 1 + 1 + 1 + 1, oM), (L + 1 + 1, oS), (Wl, listOf vs.toArray e), (Nl, listOf (txts nms) eN), (148, tabObj #[rawInt 179, rawInt 16, .ref cdo]), (cdo, co), (71, tabObj ps2), (c₂, o₂), (64, tabObj ps3), (c₃, o₃), (Hi, oHi)]) (pw_pick hpw2 [5, 0, 2, 3, 4, 8, 9, 10, 11, 12, 13, 14] 15 (Nat.le_of_ble_eq_true rfl) rfl)) (sep_pw (l := [(L + 1 + 1 + 1 + 1, oM), (L + 1 + 1, oS), (Wl, listOf vs.toArray e), (Nl, listOf (txts nms) eN), (148, tabObj #[rawInt 179, rawInt 16, .ref cdo]), (cdo, co), (71, tabObj ps2), (c₂, o₂), (64, tabObj ps3), (c₃, o₃), (Hi, oHi)]) (pw_pick hpw2 [6, 0, 2, 3, 4, 8, 9, 10, 11, 12, 13, 14] 15 (Nat.le_of_ble_eq_true rfl) rfl)) (sep_pw (l := [(L + 1 + 1 + 1 + 1, oM), (L + 1 + 1, oS), (Wl, listOf vs.toArray e), (Nl, listOf (txts nms) eN), (148, tabObj #[rawInt 179, rawInt 16, .ref cdo]), (cdo, co), (71, tabObj ps2), (c₂, o₂), (64, tabObj ps3), (c₃, o₃), (Hi, oHi)]) (pw_pick hpw2 [7, 0, 2, 3, 4, 8, 9, 10, 11, 12, 13, 14] 15 (Nat.le_of_ble_eq_true rfl) rfl)) (pw_at hpw2 1 5 6 (Nat.le_of_ble_eq_true rfl) rfl) (pw_at hpw2 1 6 7 (Nat.le_of_ble_eq_true rfl) rfl) (pw_at hpw2 1 7 8 (Nat.le_of_ble_eq_true rfl) rfl) (pw_at hpw2 5 6 7 (Nat.le_of_ble_eq_true rfl) rfl) (pw_at hpw2 5 7 8 (Nat.le_of_ble_eq_true rfl) rfl) (pw_at hpw2 6 7 8 (Nat.le_of_ble_eq_true rfl) rfl) hL (by omega) (by omega) ?_)
  intro D1 e1 ys1 oW2 h3 tk3 m3 tf2 hI3 hoW2 F3 N3 sD1 nD1
  have hpw3 : PW [D1, L + 1 + 1 + 1, L + 1 + 1 + 1 + 1, L + 1 + 1, Wl, Nl, 148, cdo, 71, c₂, 64, c₃, Hi] := pw_new (y := D1) (b := L + 1 + 1 + 1) (l := [(L + 1 + 1 + 1 + 1, oM), (L + 1 + 1, oS), (Wl, listOf vs.toArray e), (Nl, listOf (txts nms) eN), (148, tabObj #[rawInt 179, rawInt 16, .ref cdo]), (cdo, co), (71, tabObj ps2), (c₂, o₂), (64, tabObj ps3), (c₃, o₃), (Hi, oHi)]) sD1 nD1 (pw_pick hpw2 [1, 0, 2, 3, 4, 8, 9, 10, 11, 12, 13, 14] 15 (Nat.le_of_ble_eq_true rfl) rfl)
  refine hour_C (tl := [(L + 1 + 1 + 1 + 1, oM), (L + 1 + 1 + 1, oW2), (L + 1 + 1, oS), (D1, listOf ys1.toArray e1), (Nl, listOf (txts nms) eN), (148, tabObj #[rawInt 179, rawInt 16, .ref cdo]), (cdo, co), (Hi, oHi)]) hn hwd hwd2 hI3 (rot_len hwl) (hN.trans (congrArg (V wd) O.cnt0)) O.cnt O.gt O.sum O.dig B F3 X T (List.forall_mem_cons.mpr ⟨rfl, List.forall_mem_cons.mpr ⟨rfl, List.forall_mem_cons.mpr ⟨rfl, List.forall_mem_cons.mpr ⟨rfl, List.forall_mem_cons.mpr ⟨rfl, List.forall_mem_cons.mpr ⟨rfl, List.forall_mem_nil _⟩⟩⟩⟩⟩⟩) (news_in N3 (List.forall_mem_cons.mpr ⟨by k_mem, List.forall_mem_cons.mpr ⟨by k_mem, List.forall_mem_cons.mpr ⟨by k_mem, List.forall_mem_cons.mpr ⟨by k_mem, List.forall_mem_cons.mpr ⟨by k_mem, List.forall_mem_cons.mpr ⟨by k_mem, List.forall_mem_cons.mpr ⟨by k_mem, List.forall_mem_cons.mpr ⟨by k_mem, List.forall_mem_cons.mpr ⟨by k_mem, List.forall_mem_cons.mpr ⟨by k_mem, List.forall_mem_cons.mpr ⟨by k_mem, List.forall_mem_cons.mpr ⟨by k_mem, List.forall_mem_nil _⟩⟩⟩⟩⟩⟩⟩⟩⟩⟩⟩⟩)) hoW2 hoS cd1 cd2 cd3 tb2 tb3 (by k_mem) (by k_mem) (by k_mem) (sep_pw (l := [(L + 1 + 1 + 1 + 1, oM), (L + 1 + 1 + 1, oW2), (L + 1 + 1, oS), (D1, listOf ys1.toArray e1), (Nl, listOf (txts nms) eN), (148, tabObj #[rawInt 179, rawInt 16, .ref cdo]), (cdo, co), (Hi, oHi)]) (pw_pick hpw3 [10, 2, 1, 3, 0, 5, 6, 7, 12] 13 (Nat.le_of_ble_eq_true rfl) rfl)) (sep_pw (l := [(L + 1 + 1 + 1 + 1, oM), (L + 1 + 1 + 1, oW2), (L + 1 + 1, oS), (D1, listOf ys1.toArray e1), (Nl, listOf (txts nms) eN), (148, tabObj #[rawInt 179, rawInt 16, .ref cdo]), (cdo, co), (Hi, oHi)]) (pw_pick hpw3 [11, 2, 1, 3, 0, 5, 6, 7, 12] 13 (Nat.le_of_ble_eq_true rfl) rfl)) (sep_pw (l := [(L + 1 + 1 + 1 + 1, oM), (L + 1 + 1 + 1, oW2), (L + 1 + 1, oS), (D1, listOf ys1.toArray e1), (Nl, listOf (txts nms) eN), (148, tabObj #[rawInt 179, rawInt 16, .ref cdo]), (cdo, co), (Hi, oHi)]) (pw_pick hpw3 [8, 2, 1, 3, 0, 5, 6, 7, 12] 13 (Nat.le_of_ble_eq_true rfl) rfl)) (sep_pw (l := [(L + 1 + 1 + 1 + 1, oM), (L + 1 + 1 + 1, oW2), (L + 1 + 1, oS), (D1, listOf ys1.toArray e1), (Nl, listOf (txts nms) eN), (148, tabObj #[rawInt 179, rawInt 16, .ref cdo]), (cdo, co), (Hi, oHi)]) (pw_pick hpw3 [9, 2, 1, 3, 0, 5, 6, 7, 12] 13 (Nat.le_of_ble_eq_true rfl) rfl)) (pw_at hpw3 11 10 12 (Nat.le_of_ble_eq_true rfl) rfl) (pw_at hpw3 11 8 12 (Nat.le_of_ble_eq_true rfl) rfl) (pw_at hpw3 9 10 11 (Nat.le_of_ble_eq_true rfl) rfl) (pw_at hpw3 9 8 10 (Nat.le_of_ble_eq_true rfl) rfl) (pw_at hpw3 11 9 12 (Nat.le_of_ble_eq_true rfl) rfl) hL (by omega) (by omega) ?_
  intro h4 tk4 m4 r2 r3 d2 d3 p2 p3 tN4 F4 N4 tb3' tb2' sd3 sd2 k1 k2 k3 k4 k5
  have hpw4 : PW [d3, d2, 71, 64, L + 1 + 1 + 1 + 1, L + 1 + 1 + 1, L + 1 + 1, D1, Nl, 148, cdo, Hi] := List.pairwise_cons.mpr ⟨List.forall_mem_cons.mpr ⟨k5, List.forall_mem_cons.mpr ⟨k2, List.forall_mem_cons.mpr ⟨k1, sep_ne sd3⟩⟩⟩, List.pairwise_cons.mpr ⟨List.forall_mem_cons.mpr ⟨k4, List.forall_mem_cons.mpr ⟨k3, sep_ne sd2⟩⟩, (pw_pick hpw3 [8, 10, 2, 1, 3, 0, 5, 6, 7, 12] 13 (Nat.le_of_ble_eq_true rfl) rfl)⟩⟩
  refine ret _ _ _ [(L + 1 + 1 + 1 + 1, oM), (L + 1 + 1 + 1, oW2), (L + 1 + 1, oS), (D1, listOf ys1.toArray e1), (Nl, listOf (txts nms) eN), (148, tabObj #[rawInt 179, rawInt 16, .ref cdo]), (cdo, co), (71, tabObj r2), (d2, p2), (64, tabObj r3), (d3, p3)] (HrJ.mk oW2 D1 ys1 e1 (rotI n ws) (f.fmod (n : Int) + 1) (V wd (top :: cs0)) tf2 tN4 _ r2 r3 cdo d2 d3 co p2 p3 (List.forall_mem_cons.mpr ⟨rfl, List.forall_mem_cons.mpr ⟨rfl, List.forall_mem_cons.mpr ⟨rfl, List.forall_mem_cons.mpr ⟨rfl, List.forall_mem_cons.mpr ⟨rfl, List.forall_mem_cons.mpr ⟨rfl, List.forall_mem_nil _⟩⟩⟩⟩⟩⟩) hI3 (rot_len hwl) (rot_in (by omega)) O.free (by rw [O.cnt]) hoW2 tb1' tb2' tb3' (pw_pick hpw4 [4, 5, 6, 7, 8, 9, 10, 2, 1, 3, 0] 12 (Nat.le_of_ble_eq_true rfl) rfl)) (sep_pw (l := [(L + 1 + 1 + 1 + 1, oM), (L + 1 + 1 + 1, oW2), (L + 1 + 1, oS), (D1, listOf ys1.toArray e1), (Nl, listOf (txts nms) eN), (148, tabObj #[rawInt 179, rawInt 16, .ref cdo]), (cdo, co), (71, tabObj r2), (d2, p2), (64, tabObj r3), (d3, p3)]) (pw_pick hpw4 [11, 4, 5, 6, 7, 8, 9, 10, 2, 1, 3, 0] 12 (Nat.le_of_ble_eq_true rfl) rfl)) F4 (news_in N4 (List.forall_mem_cons.mpr ⟨by k_mem, List.forall_mem_cons.mpr ⟨by k_mem, List.forall_mem_cons.mpr ⟨by k_mem, List.forall_mem_cons.mpr ⟨by k_mem, List.forall_mem_cons.mpr ⟨by k_mem, List.forall_mem_cons.mpr ⟨by k_mem, List.forall_mem_cons.mpr ⟨by k_mem, List.forall_mem_cons.mpr ⟨by k_mem, List.forall_mem_cons.mpr ⟨by k_mem, List.forall_mem_cons.mpr ⟨by k_mem, List.forall_mem_cons.mpr ⟨by k_mem, List.forall_mem_cons.mpr ⟨by k_mem, List.forall_mem_nil _⟩⟩⟩⟩⟩⟩⟩⟩⟩⟩⟩⟩))

end
section
open PySem PySem.W PyProof.Rows PySem.Spec PySem.Calls
local macro_rules | `(tactic| walk_at "call builtin:sum") => `(tactic| (k_here; refine CiStop.out ?_))
local macro_rules | `(tactic| walk_at "call builtin:len") => `(tactic| (k_here; refine CiStop.out ?_))
local macro_rules | `(tactic| walk_at "FinE") => `(tactic| (k_here; refine CiStop.out ?_))
local macro_rules | `(tactic| walk_at "FinA") => `(tactic| (k_here; refine CiStop.out ?_))
local macro_rules | `(tactic| walk_at "call ref") => `(tactic| (k_here; (with_reducible show wpAny _ _ (call (Value.ref (OfNat.ofNat _)) _) _ _ _); refine CiStop.out ?_))
local macro_rules | `(tactic| walk_at "CompSrc") => `(tactic| (refine CiStop.out ?_))
local macro_rules | `(tactic| walk_at "CompSrcT") => `(tactic| (refine CiStop.out ?_))
local macro_rules | `(tactic| walk_at "binaryOp Mod int int") => `(tactic| (k_here; refine CiStop.out ?_))
local macro_rules | `(tactic| walk_at "eval ListComp") => `(tactic| (k_here; (first | (with_reducible show wpAny _ _ (eval (Expr.ListComp (Expr.Call _ _ _ _) _ _ _) _) _ _ _) | (with_reducible show wpAny _ _ (eval (Expr.ListComp (Expr.Name _ _) _ _ _) _) _ _ _)); refine CiStop.out ?_))
local macro_rules | `(tactic| walk_at "subscriptTail") => `(tactic| (k_here; (with_reducible show wpAny _ _ (subscriptTail _ _ (Value.ref _) (Value.int _ _)) _ _ _); refine CiStop.out ?_))
local macro_rules | `(tactic| walk_at "subscriptTail Name Slice ref ref") => `(tactic| (k_here; (with_reducible show wpAny _ _ (subscriptTail _ (PySem.Expr.Slice none (some _) none _) (Value.ref _) (Value.ref _)) _ _ _); refine CiStop.out ?_))
local macro_rules | `(tactic| walk_at "subscriptTail List Slice ref ref") => `(tactic| (k_here; (with_reducible show wpAny _ _ (subscriptTail _ (PySem.Expr.Slice none (some _) none _) (Value.ref _) (Value.ref _)) _ _ _); refine CiStop.out ?_))
local macro_rules | `(tactic| walk_at "execs cons") => `(tactic| (k_here; (with_reducible show wpAny _ _ (execs (Stmt.Assign _ (Expr.List List.nil _) _ :: Stmt.For _ _ _ _ _ :: _) _) _ _ _); refine CiStop.out ?_))
local macro_rules | `(tactic| walk_at "exec For Name Call cons nil") => `(tactic| (k_here; refine CiStop.out ?_))
theorem wish_lo {x : Int} {n : Nat} (hn : 0 < n) : 1 ≤ 1 + x.fmod (n : Int) := by
  have := Int.fmod_nonneg_of_pos x (show (0 : Int) < n by omega); omega
theorem wish_hi {x : Int} {n : Nat} (hn : 0 < n) : 1 + x.fmod (n : Int) ≤ (n : Int) := by
  have := Int.fmod_lt_of_pos x (show (0 : Int) < n by omega); omega
theorem wishes_are {n : Nat} : ∀ ys : List Value, (∀ (k : Nat) (v : Value), ys[k]? = some v → ∃ z t, v = Value.int z t ∧ 1 ≤ z ∧ z ≤ (n : Int)) → ∃ ws, IntsAre ys ws ∧ ws.length = ys.length ∧ ∀ x ∈ ws, 1 ≤ x ∧ x ≤ (n : Int)
  | [], _ => ⟨[], .nil, rfl, fun _ h => nomatch h⟩
  | v :: r, h => by
    obtain ⟨z, t, rfl, h1, h2⟩ := h 0 v rfl
    obtain ⟨ws, hI, hl, hw⟩ := wishes_are r fun k v hk => h (k + 1) v hk
    exact ⟨z :: ws, .cons z t hI, by rw [List.length_cons, List.length_cons, hl], List.forall_mem_cons.mpr ⟨⟨h1, h2⟩, hw⟩⟩
theorem names_are {n : Nat} (hn : n = 4 ∨ n = 5) (t1 t2 t3 t4 : Tok) : ∃ nms : List (Str × Tok), nms.map (·.1) = (nmC n).map (fun c => mk [c]) ∧ List.take (n - 1) [Value.str (Str.ofString "a") t1, Value.str (Str.ofString "A") t2, Value.str (Str.ofString "\"") t3, Value.str (Str.ofString "\\") t4] = nms.map fun p => Value.str p.1 p.2 := by
  refine ⟨List.take (n - 1) [(Str.ofString "a", t1), (Str.ofString "A", t2), (Str.ofString "\"", t3), (Str.ofString "\\", t4)], ?_, ?_⟩
  · unfold nmC
    rw [List.map_take, List.map_take]
    congr 1
  · rw [List.map_take]
    rfl
section
variable {prog : Program} {w : World} {A : Around} {E : Value → Shared → Prop} {s : Shared} {h₀ : Heap} {L D : Addr} {m : Str → Option Value} {news : List (Addr × Obj)} {n : Nat} {Q : Value → Shared → Prop}
theorem take_vals {value slice : PySem.Expr} {ut : Tok} {its : Array Value} {c : Nat} (F : Fr h₀ L s.heap m) (N : News h₀ L s.heap news) (hm : (D, listOf its n) ∈ news) (hz : its.size ≤ 3000)
    (h : ∀ d h', Fr h₀ L h' m → News h₀ L h' ((d, listOf (its.toList.take c).toArray 0) :: news) → (∀ p ∈ news, p.1 < d) → Q (.ref d) { s with heap := h' })
    (hs : subscripted slice false (.ref D) (.ref s.heap.objs.size) = operate [.ref s.heap.objs.size, .ref D] (getItem (.ref D) (.ref s.heap.objs.size))) (ht : ∀ r, letTemporaryGo value (.ref D) r = pure ()) :
    wpAny (model prog w) A (subscriptTail value slice (.ref D) (.ref s.heap.objs.size)) Q E { s with heap := s.heap.push { cls := .type "slice", data := .fields #[.none, .int (c : Int) ut, .none] } } := by
  refine kmk_slice_lit F N (N.isList hm) IsPart.none (IsPart.int _ _) (zs := its.toList.take c) ?_ h hs ht (by rw [sizeLine_eq]; omega)
  rw [slicePick_upto', List.toList_toArray]
end
theorem law_tail {w : World} {loose : List Str} {mean : ExcName → Option Value} {mg mb : Str → Option Value} {dp un : Nat} {gd : Option (List Code)} {a : Addr} {ccd : Value} {outer : List Env} {A₀ : Around} {h₀ : Heap} {L Nu : Addr} {m : Str → Option Value} {s : Shared} {Q : Flow → Shared → Prop} {E : Value → Shared → Prop}
  {oM oW oS oU : Obj} {xM xW xS : Option Value} {eu : Nat} {vs : List Value} {ns : List Int} {S : Int} {tt : Tok}
  (hI : IntsAre vs ns) (hlen : vs.length ≤ 24)
  (B : Below A₀ h₀ outer h₀) (F : Fr h₀ L s.heap m) (X : (hd.heap_1 w.params).In h₀) (T : Top topProg loose mean mg mb h₀)
  (hm : ∀ p ∈ ([(Str.ofString "total", .int S tt)] : List (Str × Value)), m p.1 = some p.2)
  (N : News h₀ L s.heap [(L + 1 + 1 + 1 + 1, oM), (L + 1 + 1 + 1, oW), (L + 1 + 1, oS), (L + 1, oU), (Nu, listOf vs.toArray eu), (148, tabObj #[]), (71, tabObj #[]), (64, tabObj #[])])
  (hoM : oM.data = .cell xM) (hoW : oW.data = .cell xW) (hoS : oS.data = .cell xS) (hoU : oU.data = .cell (some (.ref Nu)))
  (cd1 : CodeHd h₀ 152 148) (cd2 : CodeHd h₀ 75 71) (cd3 : CodeHd h₀ 68 64)
  (hpw : PW [L + 1 + 1 + 1 + 1, L + 1 + 1 + 1, L + 1 + 1, L + 1, Nu, 148, 71, 64]) (hL : @LT.lt Nat _ 148 L)
  (hdp : dp + 60 < recursionLimit) (hun : un + 400 < cLine)
  (hE : PassesOwn (model PySem.Challenge.rw_sc0080_02.row.prog w) (ktrTop dp un gd (Str.ofString "law") (scopeOf (hd.heap_1 w.params) 175) L a ccd (cellsFrom (L + 1) ((scopeOf (hd.heap_1 w.params) 175)).names []) outer) (envX (Str.ofString "law") (scopeOf (hd.heap_1 w.params) 175) L a ccd (cellsFrom (L + 1) ((scopeOf (hd.heap_1 w.params) 175)).names [])) E)
  (ret : ∀ h' tk' m' q1 q2 q3, Fr h₀ L h' m' → News h₀ L h' [(148, tabObj q1), (71, tabObj q2), (64, tabObj q3)] → Q (.ret (.bool true)) { s with heap := h', toks := tk' }) :
  wpAny (model PySem.Challenge.rw_sc0080_02.row.prog w) (ktrTop dp un gd (Str.ofString "law") (scopeOf (hd.heap_1 w.params) 175) L a ccd (cellsFrom (L + 1) ((scopeOf (hd.heap_1 w.params) 175)).names []) outer) (execs (bodyOf (hd.heap_1 w.params) 175).tail.tail (envX (Str.ofString "law") (scopeOf (hd.heap_1 w.params) 175) L a ccd (cellsFrom (L + 1) ((scopeOf (hd.heap_1 w.params) 175)).names []))) Q E s := by
  revert X
  k_fill
  intro X
  revert hE
  refine' tail_enter (fun b sc => PassesOwn (model PySem.Challenge.rw_sc0080_02.row.prog w) (ktrTop dp un gd (Str.ofString "law") sc L a ccd (cellsFrom (L + 1) (sc).names []) outer) (envX (Str.ofString "law") sc L a ccd (cellsFrom (L + 1) (sc).names [])) E → wpAny (model PySem.Challenge.rw_sc0080_02.row.prog w) (ktrTop dp un gd (Str.ofString "law") sc L a ccd (cellsFrom (L + 1) (sc).names []) outer) (execs b.tail.tail (envX (Str.ofString "law") sc L a ccd (cellsFrom (L + 1) (sc).names []))) Q E s) ?ho ?_
  case ho => k_is
  intro hE
  replace F := fr_known _ F hm
  clear hm
  dsimp only [List.tail_cons]
  obtain ⟨n, e2, hn⟩ := cars_of S
  have hnA := n_lo hn
  have hnB := n_hi hn
  replace hn : Hid _ := ⟨hn⟩
  obtain ⟨wd, e97, hwd, hwd2⟩ := width_of S
  have z01 : NeN (L + 1 + 1 + 1 + 1) (L + 1 + 1 + 1) := ⟨pw_ne hpw (.l1 (.head _))⟩
  have z02 : NeN (L + 1 + 1 + 1 + 1) (L + 1 + 1) := ⟨pw_ne hpw (.l1 (.tail _ (.head _)))⟩
  have z03 : NeN (L + 1 + 1 + 1 + 1) (L + 1) := ⟨pw_ne hpw (.l1 (.tail _ (.tail _ (.head _))))⟩
  have z04 : NeN (L + 1 + 1 + 1 + 1) Nu := ⟨pw_ne hpw (.l1 (.tail _ (.tail _ (.tail _ (.head _)))))⟩
  have z05 : NeN (L + 1 + 1 + 1 + 1) 148 := ⟨pw_ne hpw (.l1 (.tail _ (.tail _ (.tail _ (.tail _ (.head _))))))⟩
  have z06 : NeN (L + 1 + 1 + 1 + 1) 71 := ⟨pw_ne hpw (.l1 (.tail _ (.tail _ (.tail _ (.tail _ (.tail _ (.head _)))))))⟩
  have z07 : NeN (L + 1 + 1 + 1 + 1) 64 := ⟨pw_ne hpw (.l1 (.tail _ (.tail _ (.tail _ (.tail _ (.tail _ (.tail _ (.head _))))))))⟩
  have z12 : NeN (L + 1 + 1 + 1) (L + 1 + 1) := ⟨pw_ne hpw (.tl (.l1 (.head _)))⟩
  have z13 : NeN (L + 1 + 1 + 1) (L + 1) := ⟨pw_ne hpw (.tl (.l1 (.tail _ (.head _))))⟩
  have z14 : NeN (L + 1 + 1 + 1) Nu := ⟨pw_ne hpw (.tl (.l1 (.tail _ (.tail _ (.head _)))))⟩
  have z15 : NeN (L + 1 + 1 + 1) 148 := ⟨pw_ne hpw (.tl (.l1 (.tail _ (.tail _ (.tail _ (.head _))))))⟩
  have z16 : NeN (L + 1 + 1 + 1) 71 := ⟨pw_ne hpw (.tl (.l1 (.tail _ (.tail _ (.tail _ (.tail _ (.head _)))))))⟩
  have z17 : NeN (L + 1 + 1 + 1) 64 := ⟨pw_ne hpw (.tl (.l1 (.tail _ (.tail _ (.tail _ (.tail _ (.tail _ (.head _))))))))⟩
  have z23 : NeN (L + 1 + 1) (L + 1) := ⟨pw_ne hpw (.tl (.tl (.l1 (.head _))))⟩
  have z24 : NeN (L + 1 + 1) Nu := ⟨pw_ne hpw (.tl (.tl (.l1 (.tail _ (.head _)))))⟩
  have z25 : NeN (L + 1 + 1) 148 := ⟨pw_ne hpw (.tl (.tl (.l1 (.tail _ (.tail _ (.head _))))))⟩
  have z26 : NeN (L + 1 + 1) 71 := ⟨pw_ne hpw (.tl (.tl (.l1 (.tail _ (.tail _ (.tail _ (.head _)))))))⟩
  have z27 : NeN (L + 1 + 1) 64 := ⟨pw_ne hpw (.tl (.tl (.l1 (.tail _ (.tail _ (.tail _ (.tail _ (.head _))))))))⟩
  have z34 : NeN (L + 1) Nu := ⟨pw_ne hpw (.tl (.tl (.tl (.l1 (.head _)))))⟩
  have z35 : NeN (L + 1) 148 := ⟨pw_ne hpw (.tl (.tl (.tl (.l1 (.tail _ (.head _))))))⟩
  have z36 : NeN (L + 1) 71 := ⟨pw_ne hpw (.tl (.tl (.tl (.l1 (.tail _ (.tail _ (.head _)))))))⟩
  have z37 : NeN (L + 1) 64 := ⟨pw_ne hpw (.tl (.tl (.tl (.l1 (.tail _ (.tail _ (.tail _ (.head _))))))))⟩
  have z45 : NeN Nu 148 := ⟨pw_ne hpw (.tl (.tl (.tl (.tl (.l1 (.head _))))))⟩
  have z46 : NeN Nu 71 := ⟨pw_ne hpw (.tl (.tl (.tl (.tl (.l1 (.tail _ (.head _)))))))⟩
  have z47 : NeN Nu 64 := ⟨pw_ne hpw (.tl (.tl (.tl (.tl (.l1 (.tail _ (.tail _ (.head _))))))))⟩
  have z56 : NeN 148 71 := ⟨pw_ne hpw (.tl (.tl (.tl (.tl (.tl (.l1 (.head _)))))))⟩
  have z57 : NeN 148 64 := ⟨pw_ne hpw (.tl (.tl (.tl (.tl (.tl (.l1 (.tail _ (.head _))))))))⟩
  have z67 : NeN 71 64 := ⟨pw_ne hpw (.tl (.tl (.tl (.tl (.tl (.tl (.l1 (.head _))))))))⟩
  k_steps
  refine CiStop.go ?_
  refine' mod_int ?hz2 ?_
  case hz2 => decide
  rw [e2]
  clear e2
  (try dsimp only)
  k_steps
  refine CiStop.go ?_
  refine' mod_int ?hz97 ?_
  case hz97 => decide
  have e97' : Hid (3 + S.fmod 97 = (wd : Int)) := ⟨e97⟩
  clear e97
  (try dsimp only)
  k_steps
  refine CiStop.go ?_
  rename Obj => oS2
  rename oS2.data = _ => hoS2
  rename IsRange _ _ _ _ _ _ _ _ => hr
  rename Fr h₀ L _ _ => FF
  rename News h₀ L _ _ => NN
  have ec : 3 + ((n : Int) - 4) = (n : Int) - 1 := by omega
  have es : (n : Int) - 1 + 1 = (n : Int) := by omega
  have e1n := cast_pred hnA
  rw [ec] at hr
  rw [ec, es] at hoS2
  obtain ⟨tS, hoS3⟩ : ∃ t, oS2.data = .cell (some (.int (n : Int) t)) := ⟨_, hoS2⟩
  clear hoS2
  refine' LCg.CompSrc.range (n := n - 1) rfl FF NN hr ?sm0 ?hn9 ?fit0 ?_
  case sm0 => exact small_one (by decide) (by decide) (by omega) (by omega)
  case hn9 => rw [e1n]; exact rangeSize_nat _ _
  case fit0 => rw [sizeLine_eq]; omega
  intro g0
  refine' cx_range (fun k y => ∃ z t, y = Value.int z t ∧ 1 ≤ z ∧ z ≤ (n : Int)) ?turn0 ?fin0
  case turn0 =>
    intro k t I oI C oC D m2 ys2 h tk E2 hk hC hx F2 N2 off ne
    k_steps
    refine CiStop.go ?_
    rename News h₀ L _ _ => N3
    with_unfolding_all refine' item_anyK (ns := [1, 5, 2, 6]) (N3.isList (n := 0) ?mi) (.cons _ _ (.cons _ _ (.cons _ _ (.cons _ _ .nil)))) ?h0 ?h1 ?hf ?_ ?hs
    case mi => k_mem
    case h0 => omega
    case h1 => show 0 + (k : Int) < 4; omega
    case hf => omega
    case hs => with_unfolding_all rfl
    k_whole
    intro tpk
    k_steps
    refine CiStop.go ?_
    rename Fr h₀ L _ _ => F3
    rename News h₀ L _ _ => N3
    k_dflt (refine' sum_picked rfl F3 N3 hI ?_)
    k_whole
    intro S' h4 tk4 t4 F4 N4
    (try dsimp only)
    k_steps
    refine CiStop.go ?_
    refine' mod_int ?hz3 ?_
    case hz3 => omega
    (try dsimp only)
    k_steps
    rename Fr h₀ L _ _ => F8
    rename News h₀ L _ _ => N8
    refine CiStop.go ?_
    exact ⟨_, _, _, rfl, F8, fun p hp => N8 p (by repeat' first | exact hp | refine List.Mem.tail _ ?_), off, trivial, rfl, _, _, rfl, wish_lo (by omega), wish_hi (by omega)⟩
  case fin0 =>
    intro ys5 hl5 hel
    refine finE_sep fun D2 h5 tk5 F5 N5 s5 => ?_
    k_steps
    refine CiStop.go ?_
    rename Obj => oW2
    rename oW2.data = _ => hoW2
    rename Fr h₀ L _ _ => FF
    rename News h₀ L _ _ => NN
    have hw5 := wishes_are ys5 hel
    obtain ⟨wsI, hI5, hl6, hw5⟩ := hw5
    rw [ec, e1n]
    k_dflt (refine' take_vals (c := n - 1) ?ft ?nt ?mt ?zt ?_ ?st ?tt9)
    case ft => exact FF
    case nt => exact NN
    case mt => k_dflt k_mem
    case zt => show (4 : Nat) ≤ 3000; decide
    case st => with_unfolding_all rfl
    case tt9 => intro _; with_unfolding_all rfl
    k_whole
    intro Nl h6 F6 N6 l6
    have hpw2 : PW [D2, L + 1 + 1 + 1 + 1, L + 1 + 1 + 1, L + 1 + 1, L + 1, Nu, 148, 71, 64] := pw_sep s5 hpw
    have hpw3 : PW [Nl, D2, L + 1 + 1 + 1 + 1, L + 1 + 1 + 1, L + 1 + 1, L + 1, Nu, 148, 71, 64] := pw_sep (fun p hp => sep_lt l6 p (.tail _ hp)) hpw2
    k_steps
    refine CiStop.go ?_
    rename Obj => oM2
    rename oM2.data = _ => hoM2
    rename Fr h₀ L _ _ => FF
    rename News h₀ L _ _ => NN
    obtain ⟨nms, hnm, hen⟩ := names_are hn.h _ _ _ _
    rw [hen] at NN
    have NN2 : News h₀ L _ [(D2, listOf ys5.toArray ys5.length), (Nl, listOf (txts nms) 0), (L + 1 + 1 + 1 + 1, oM2), (L + 1 + 1 + 1, oW2), (L + 1 + 1, oS2), (L + 1, oU), (Nu, listOf vs.toArray eu), (148, tabObj #[]), (71, tabObj #[]), (64, tabObj #[])] := news_in NN (List.forall_mem_cons.mpr ⟨by k_mem, List.forall_mem_cons.mpr ⟨by k_mem, List.forall_mem_cons.mpr ⟨by k_mem, List.forall_mem_cons.mpr ⟨by k_mem, List.forall_mem_cons.mpr ⟨by k_mem, List.forall_mem_cons.mpr ⟨by k_mem, List.forall_mem_cons.mpr ⟨by k_mem, List.forall_mem_cons.mpr ⟨by k_mem, List.forall_mem_cons.mpr ⟨by k_mem, List.forall_mem_cons.mpr ⟨by k_mem, List.forall_mem_nil _⟩⟩⟩⟩⟩⟩⟩⟩⟩⟩)
    clear NN
    k_dflt (refine' free_c (e := ys5.length) hI5 ?hl ?hb ?hn2 ?hn3 ?B FF ?X ?T ?hk NN2 ?sW ?cz ?hdp ?hun ?_)
    case hl => omega
    case hb => intro x hx; have := hw5 x hx; omega
    case hn2 => omega
    case hn3 => omega
    case B => k_asm
    case X => k_asm
    case T => k_asm
    case hk => exact rfl
    case sW => exact sep_pw (l := [(Nl, listOf (txts nms) 0), (L + 1 + 1 + 1 + 1, oM2), (L + 1 + 1 + 1, oW2), (L + 1 + 1, oS2), (L + 1, oU), (Nu, listOf vs.toArray eu), (148, tabObj #[]), (71, tabObj #[]), (64, tabObj #[])]) (pw_out (l1 := [Nl]) hpw3)
    case cz => kn_code
    case hdp => first | ktr_room | ((try simp only [depth_under_make, depth_under_kw, depth_in1, depth_deeper, depth_caller, Nat.add_assoc, Nat.reduceAdd]); omega)
    case hun => first | ktr_units | ((try simp only [units_in1, units_deeper, Around.mark_units, units_caller, Nat.add_assoc, Nat.reduceAdd]); omega)
    k_whole
    intro dF tF1 tF2 h7 tk7 F7 N7 s7 n7
    ((try dsimp only); (try k_fold))
    k_steps
    refine CiStop.go ?_
    rename Fr h₀ L _ _ => FF
    rename News h₀ L _ _ => NN
    rw [ec, e97'.h] at FF
    obtain ⟨u2, tc2, tw2, FK2⟩ : ∃ u tc tw, Fr h₀ L _ (kstB u [(Str.ofString "total", .int S tt), (Str.ofString "free", .int (freeP wsI n n 0).1 tF1), (Str.ofString "driven", .int (freeP wsI n n 0).2 tF2), (Str.ofString "cars", .int ((n : Int) - 1) tc), (Str.ofString "width", .int (wd : Int) tw)]) := ⟨_, _, _, fr_known _ FF (List.forall_mem_cons.mpr ⟨rfl, List.forall_mem_cons.mpr ⟨rfl, List.forall_mem_cons.mpr ⟨rfl, List.forall_mem_cons.mpr ⟨rfl, List.forall_mem_cons.mpr ⟨rfl, List.forall_mem_nil _⟩⟩⟩⟩⟩)⟩
    clear FF
    obtain ⟨top, cs0, O⟩ := hr_ok (f := (freeP wsI n n 0).1) (dv := (freeP wsI n n 0).2) hn.h (by omega) hw5 rfl
    have hpw4 : PW [dF, D2, Nl, L + 1 + 1 + 1 + 1, L + 1 + 1 + 1, L + 1 + 1, L + 1, Nu, 148, 71, 64] := pw_new (l := [(Nl, listOf (txts nms) 0), (L + 1 + 1 + 1 + 1, oM2), (L + 1 + 1 + 1, oW2), (L + 1 + 1, oS2), (L + 1, oU), (Nu, listOf vs.toArray eu), (148, tabObj #[]), (71, tabObj #[]), (64, tabObj #[])]) s7 n7 (pw_out (l1 := [Nl]) hpw3)
    k_dflt (refine' ListComp_C (h₀ := h₀) (L := L) (m := kstB u2 [(Str.ofString "total", .int S tt), (Str.ofString "free", .int (freeP wsI n n 0).1 tF1), (Str.ofString "driven", .int (freeP wsI n n 0).2 tF2), (Str.ofString "cars", .int ((n : Int) - 1) tc2), (Str.ofString "width", .int (wd : Int) tw2)]) ?hclos ?hce ?hpc ?hkind ?hnames ?hx ?_)
    case hclos => rfl
    case hce => intro k; rfl
    case hpc => intro h; rfl
    case hkind => rfl
    case hnames => decide
    case hx => rfl
    k_steps
    refine CiStop.go ?_
    rename IsRange _ _ _ _ _ _ _ _ => hr2
    rename Fr h₀ L _ _ => FF
    rename News h₀ L _ _ => NN9
    refine CellSrc.mk (n := n) (fun k y => ∃ t, y = Value.int ((wsI.filter fun w => w == 1 + (k : Int)).length : Int) t) rfl FF NN9 hr2 (small_one (by omega) (by omega) (by omega) (by omega)) ?hnr (by rw [sizeLine_eq]; omega) ?turn ?fin
    case hnr =>
      have e : (n : Int) + 1 = 1 + (n : Int) := by omega
      rw [e]; exact rga_size 1 n
    case turn =>
      intro k t I2 oI C Z oZ D3 ys h3 tk3 E' hk2 hy hZ F3 N3
      k_steps
      refine CiStop.go ?_
      k_dflt (refine LCt.ListComp_T (F₀ := F3) (by with_unfolding_all rfl) (by decide) (by rfl) (by decide) (by rfl) ?_)
      k_steps
      refine CiStop.go ?_
      rename Fr h₀ L _ _ => F4
      rename News h₀ L _ _ => N4
      k_dflt (refine LCt.CompSrcT.ledger rfl F4 N4 (ax := D2) (its := ys5.toArray) (k := ys5.length) (by k_mem) (by rw [List.size_toArray, hI5.length, sizeLine_eq]; omega) ?_)
      intro g4
      refine cx_filter (fun v => match v with | .int x _ => x == 1 + (k : Int) | _ => false) (.inr ⟨listOf ys5.toArray ys5.length, ?hm, rfl, ys5.length, rfl⟩) ?hkL ?hkd ?hdb ?turn2 ?fin2
      case hm => k_dflt k_mem
      case hkL => rfl
      case hkd => rfl
      case hdb => decide +kernel
      case turn2 =>
        intro j v I5 oI5 C5 oC5 D5 m5 ys5 h5 tk5 E5 hv hC5 hx5 F5 N5 off ne
        obtain ⟨x, tx, rfl⟩ := ints_at hI5 hv
        k_steps
        exact ⟨rfl, _, _, rfl, F5, N5⟩
      case fin2 =>
        refine finE_sep fun D6 h6 tk6 F6 N6 s6 => ?_
        k_steps
        refine CiStop.go ?_
        k_dflt (refine len_list (items := (ys5.filter fun v => match v with | .int x _ => x == 1 + (k : Int) | _ => false).toArray) ⟨_, (N6 _ (.head _)).1, rfl, _, rfl⟩ ?sz ?_)
        case sz =>
          have e1 := List.length_filter_le (fun v => match v with | .int x _ => x == 1 + (k : Int) | _ => false) ys5
          rw [hI5.length] at e1
          rw [List.size_toArray]; omega
        k_steps
        refine CiStop.go ?_
        rename Fr h₀ L _ _ => F8
        rename News h₀ L _ _ => N8
        exact ⟨_, _, rfl, F8, fun p hp => N8 p (by repeat' first | exact hp | refine List.Mem.tail _ ?_), _, congrArg (fun z : Nat => Value.int (z : Int) _) (ints_filter_len (fun x => x == 1 + (k : Int)) hI5)⟩
    case fin =>
      intro D4 h8 tk8 ys8 hlen8 hEl8 F8 N8 lo8
      have hS8 : IntsAre ys8 (cntP wsI n) := ints_of_el n _ ys8 hlen8 hEl8
      k_steps
      refine CiStop.go ?_
      have hpw5 : PW [D4, dF, D2, Nl, L + 1 + 1 + 1 + 1, L + 1 + 1 + 1, L + 1 + 1, L + 1, Nu, 148, 71, 64] := pw_sep (l := [(dF, tupObj #[Value.int (freeP wsI n n 0).1 tF1, Value.int (freeP wsI n n 0).2 tF2]), (D2, listOf ys5.toArray ys5.length), (Nl, listOf (txts nms) 0), (L + 1 + 1 + 1 + 1, oM2), (L + 1 + 1 + 1, oW2), (L + 1 + 1, oS2), (L + 1, oU), (Nu, listOf vs.toArray eu), (148, tabObj #[]), (71, tabObj #[]), (64, tabObj #[])]) (sep_lt lo8) hpw4
      rename Fr h₀ L _ _ => F9
      rename News h₀ L _ _ => N9
      k_dflt (refine' d2i_all (n := (wd : Int)) (ds := cntP wsI n) (e := ys8.length) (news := [(L + 1 + 1 + 1 + 1, oM2), (L + 1 + 1 + 1, oW2), (L + 1 + 1, oS2), (D2, listOf ys5.toArray ys5.length), (Nl, listOf (txts nms) 0), (148, tabObj #[]), (Nu, listOf vs.toArray eu), (64, tabObj #[]), (L + 1, oU)]) (.some (dig_of (by omega) n (cntP wsI n) (Nat.le_of_eq (cnt_len _ _)) ?hne (by omega) (db_of hwd O))) hS8 ?hn1 ?hn2 ?hds ?B F9 ?X ?T ?hk (news_cons N9 ?m0 (news_cons N9 ?m1 (news_cons N9 ?m2 (news_in N9 ?mr)))) ?c1 (.inl rfl) (sep_pw (l := [(L + 1 + 1 + 1 + 1, oM2), (L + 1 + 1 + 1, oW2), (L + 1 + 1, oS2), (D2, listOf ys5.toArray ys5.length), (Nl, listOf (txts nms) 0), (148, tabObj #[]), (Nu, listOf vs.toArray eu), (64, tabObj #[]), (L + 1, oU)]) (pw_pick hpw5 [10, 4, 5, 6, 2, 3, 9, 8, 11, 7] 12 (Nat.le_of_ble_eq_true rfl) rfl)) (sep_pw (l := [(L + 1 + 1 + 1 + 1, oM2), (L + 1 + 1 + 1, oW2), (L + 1 + 1, oS2), (D2, listOf ys5.toArray ys5.length), (Nl, listOf (txts nms) 0), (148, tabObj #[]), (Nu, listOf vs.toArray eu), (64, tabObj #[]), (L + 1, oU)]) (pw_pick hpw5 [1, 4, 5, 6, 2, 3, 9, 8, 11, 7] 12 (Nat.le_of_ble_eq_true rfl) rfl)) (sep_pw (l := [(L + 1 + 1 + 1 + 1, oM2), (L + 1 + 1 + 1, oW2), (L + 1 + 1, oS2), (D2, listOf ys5.toArray ys5.length), (Nl, listOf (txts nms) 0), (148, tabObj #[]), (Nu, listOf vs.toArray eu), (64, tabObj #[]), (L + 1, oU)]) (pw_pick hpw5 [0, 4, 5, 6, 2, 3, 9, 8, 11, 7] 12 (Nat.le_of_ble_eq_true rfl) rfl)) (pw_at hpw5 1 10 11 (Nat.le_of_ble_eq_true rfl) rfl) (pw_at hpw5 0 10 11 (Nat.le_of_ble_eq_true rfl) rfl) (pw_at hpw5 0 1 2 (Nat.le_of_ble_eq_true rfl) rfl) ?hdp ?hun ?_)
      case hne => intro e; have := cnt_len wsI n; rw [e] at this; simp at this; omega
      case hn1 => omega
      case hn2 => omega
      case hds => rw [cnt_len]; omega
      case B => k_asm
      case X => k_asm
      case T => k_asm
      case hk => exact rfl
      case m0 => k_mem
      case m1 => k_mem
      case m2 => k_dflt k_mem
      case mr => exact List.forall_mem_cons.mpr ⟨by k_mem, List.forall_mem_cons.mpr ⟨by k_mem, List.forall_mem_cons.mpr ⟨by k_mem, List.forall_mem_cons.mpr ⟨by k_mem, List.forall_mem_cons.mpr ⟨by k_mem, List.forall_mem_cons.mpr ⟨by k_mem, List.forall_mem_cons.mpr ⟨by k_mem, List.forall_mem_cons.mpr ⟨by k_mem, List.forall_mem_cons.mpr ⟨by k_mem, List.forall_mem_nil _⟩⟩⟩⟩⟩⟩⟩⟩⟩
      case c1 => kn_code
      case hdp => rw [cnt_len]; first | ktr_room | ((try simp only [depth_under_make, depth_under_kw, depth_in1, depth_deeper, depth_caller, Nat.add_assoc, Nat.reduceAdd]); omega)
      case hun => rw [cnt_len]; first | ktr_units | ((try simp only [units_in1, units_deeper, Around.mark_units, units_caller, Nat.add_assoc, Nat.reduceAdd]); omega)
      k_whole
      intro tr c9 oc9 h9 tk9 F10 N10 tb9 hps9 sc9 nD9 n71
      ((try dsimp only); (try k_fold))
      clear F9 N9
      have hpw6 : PW [L + 1 + 1 + 1 + 1, L + 1 + 1 + 1, L + 1 + 1, D2, Nl, 148, Nu, 71, c9, 64, L + 1] := pw_pick (pw_new (y := c9) (b := 71) (l := [(L + 1 + 1 + 1 + 1, oM2), (L + 1 + 1 + 1, oW2), (L + 1 + 1, oS2), (D2, listOf ys5.toArray ys5.length), (Nl, listOf (txts nms) 0), (148, tabObj #[]), (Nu, listOf vs.toArray eu), (64, tabObj #[]), (L + 1, oU)]) sc9 n71 (pw_pick hpw5 [10, 4, 5, 6, 2, 3, 9, 8, 11, 7] 12 (Nat.le_of_ble_eq_true rfl) rfl)) [2, 3, 4, 5, 6, 7, 8, 1, 0, 9, 10] 11 (Nat.le_of_ble_eq_true rfl) rfl
      k_steps
      refine CiStop.go ?_
      obtain ⟨J, jI, jO⟩ : ∃ J : Nat → (Str → Option Value) → List (Addr × Obj) → Prop, (∀ k m l, HrJ L Nl oM2 oS2 n wd 0 nms S (freeP wsI n n 0).2 tt tF2 tc2 tw2 k m l → J k m l) ∧ (∀ k m l, J k m l → HrJ L Nl oM2 oS2 n wd 0 nms S (freeP wsI n n 0).2 tt tF2 tc2 tw2 k m l) := ⟨_, fun _ _ _ h => h, fun _ _ _ h => h⟩
      refine' rg_for (h₀ := h₀) (L := L) (n := n) J rfl ?ev ?turn2 ?done ?hs ?hE
      case hs => intro _; rfl
      case hE => exact hE
      case ev =>
        k_steps
        rename Fr h₀ L _ _ => FF
        rename News h₀ L _ _ => NN
        refine CiStop.go ?_
        rename IsRange _ _ _ _ _ _ _ _ => hr3
        exact ⟨_, _, _, _, _, _, _, _, rfl, rfl, hr3, by omega, FF, news_in NN (List.forall_mem_cons.mpr ⟨by k_mem, List.forall_mem_cons.mpr ⟨by k_mem, List.forall_mem_cons.mpr ⟨by k_mem, List.forall_mem_cons.mpr ⟨by k_mem, List.forall_mem_cons.mpr ⟨by k_mem, List.forall_mem_cons.mpr ⟨by k_mem, List.forall_mem_cons.mpr ⟨by k_mem, List.forall_mem_cons.mpr ⟨by k_mem, List.forall_mem_cons.mpr ⟨by k_mem, List.forall_mem_cons.mpr ⟨by k_mem, List.forall_mem_cons.mpr ⟨by k_mem, List.forall_mem_nil _⟩⟩⟩⟩⟩⟩⟩⟩⟩⟩⟩), jI _ _ _ (HrJ.mk oW2 D2 ys5 ys5.length wsI (freeP wsI n n 0).1 (V wd (cntP wsI n)) tF1 tr #[] _ #[] Nu c9 (L + 1) (listOf vs.toArray eu) oc9 oU (List.forall_mem_cons.mpr ⟨rfl, List.forall_mem_cons.mpr ⟨rfl, List.forall_mem_cons.mpr ⟨rfl, List.forall_mem_cons.mpr ⟨rfl, List.forall_mem_cons.mpr ⟨rfl, List.forall_mem_cons.mpr ⟨rfl, List.forall_mem_nil _⟩⟩⟩⟩⟩⟩) hI5 (by omega) hw5 rfl rfl hoW2 (.inl rfl) tb9 (.inl rfl) hpw6)⟩
      case turn2 =>
        intro h I h2 tk2 ti m2 news2 hh hJ sI F2 N2
        obtain ⟨oW3, W3, vs3, e3, ws3, f3, NN3, tf3, tN3, p1, p2, p3, d1, d2, d3, o1, o2, o3, hm3, hI3, hwl3, hw3, hf3, hN3, hoW3, tb1, tb2, tb3, hpw7⟩ := jO _ _ _ hJ
        clear hJ
        have hpw8 := pw_ins (l1 := [L + 1 + 1 + 1 + 1, L + 1 + 1 + 1, L + 1 + 1, W3, Nl, 148, d1, 71, d2, 64, d3]) (l2 := []) (List.pairwise_cons.mpr ⟨sep_ne sI, hpw7⟩)
        replace F2 := fr_known _ F2 hm3
        clear hm3
        k_steps
        refine CiStop.go ?_
        rename Fr h₀ L _ _ => FF
        rename News h₀ L _ _ => NN
        k_dflt (refine' hour_t (h := h) (Hi := I) hn.h hwd hwd2 hnm hI3 hwl3 hw3 hf3 hN3 ?B FF ?X ?T ?hm (news_in NN ?mh) hoM2 hoW3 hoS3 ?c1 ?c2 ?c3 tb1 tb2 tb3 hpw8 hL ?hdp ?hun ?hE ?_)
        case B => k_asm
        case X => k_asm
        case T => k_asm
        case hm => exact List.forall_mem_cons.mpr ⟨rfl, List.forall_mem_cons.mpr ⟨rfl, List.forall_mem_cons.mpr ⟨rfl, List.forall_mem_cons.mpr ⟨rfl, List.forall_mem_cons.mpr ⟨rfl, List.forall_mem_cons.mpr ⟨rfl, List.forall_mem_cons.mpr ⟨rfl, List.forall_mem_nil _⟩⟩⟩⟩⟩⟩⟩
        case mh => exact List.forall_mem_cons.mpr ⟨by k_mem, List.forall_mem_cons.mpr ⟨by k_mem, List.forall_mem_cons.mpr ⟨by k_mem, List.forall_mem_cons.mpr ⟨by k_mem, List.forall_mem_cons.mpr ⟨by k_mem, List.forall_mem_cons.mpr ⟨by k_mem, List.forall_mem_cons.mpr ⟨by k_mem, List.forall_mem_cons.mpr ⟨by k_mem, List.forall_mem_cons.mpr ⟨by k_mem, List.forall_mem_cons.mpr ⟨by k_mem, List.forall_mem_cons.mpr ⟨by k_mem, List.forall_mem_cons.mpr ⟨by k_mem, List.forall_mem_nil _⟩⟩⟩⟩⟩⟩⟩⟩⟩⟩⟩⟩
        case c1 => k_asm
        case c2 => k_asm
        case c3 => k_asm
        case hdp => omega
        case hun => omega
        case hE => exact hE
        k_whole
        intro h4 tk4 m4 l4 hJ hS hF hN
        exact CiStop.go ⟨_, _, _, _, rfl, hF, hN, hS, jI _ _ _ hJ⟩
      case done =>
        intro h4 tk4 m4 news4 hJ F4 N4
        obtain ⟨oW3, W3, vs3, e3, ws3, f3, NN3, tf3, tN3, p1, p2, p3, d1, d2, d3, o1, o2, o3, hm3, hI3, hwl3, hw3, hf3, hN3, hoW3, tb1, tb2, tb3, hpw7⟩ := jO _ _ _ hJ
        clear hJ
        k_steps
        rename Fr h₀ L _ _ => FF
        rename News h₀ L _ _ => NN
        exact ret _ _ _ p1 p2 p3 FF (news_in NN (List.forall_mem_cons.mpr ⟨by k_mem, List.forall_mem_cons.mpr ⟨by k_mem, List.forall_mem_cons.mpr ⟨by k_mem, List.forall_mem_nil _⟩⟩⟩))

end
section
open PySem PySem.W PyProof.Rows PySem.Spec PySem.Calls
local macro_rules | `(tactic| walk_at "call builtin:sum") => `(tactic| (k_here; refine CiStop.out ?_))
local macro_rules | `(tactic| walk_at "FinE") => `(tactic| (k_here; refine CiStop.out ?_))
local macro_rules | `(tactic| walk_at "FinA") => `(tactic| (k_here; refine CiStop.out ?_))
local macro_rules | `(tactic| walk_at "execs cons") => `(tactic| (k_here; (with_reducible show wpAny _ _ (execs (Stmt.Assign _ (Expr.BinOp (Expr.Constant _ _ _) _ _ _) _ :: _) _) _ _ _); refine CiStop.out ?_))
theorem law_w : PySem.Challenge.rw_sc0080_02.Holds := by
  refine top02 (hd ?_)
  w_strict (
    k_go0
    (rename (∀ p : Addr × Obj, p ∈ [(148, _), (71, _), (64, _)] → _) => hl0)
    (have hl148 := hl0 _ (.head _)); (dsimp only at hl148)
    (all_goals try k_fold)
    k_steps
    refine CiStop.go ?_
    (first | refine finA_sep ?_ | refine finE_sep ?_)
    intro D9 h9 tk9 F9 N9 o9
    (try dsimp only)
    k_steps
    refine CiStop.go ?_
    (with_reducible rename IntsAre _ (List.map _ _) => hI8)
    (with_reducible rename List.length _ = List.length (List.map _ _) => hL8)
    k_dflt (refine' LSm.sum_ints ?Fq ?Nq rfl (News.isList ?Nr ?mr) hI8 ?_)
    case Fq => k_asm
    case Nq => k_asm
    case Nr => k_asm
    case mr => k_mem
    intro h5 tk5 t5 F5 N5
    (try dsimp only)
    k_steps
    refine CiStop.go ?_
    rename Fr _ _ _ _ => FF
    rename News _ _ _ _ => NN
    k_dflt (refine' law_tail (A₀ := callerA) hI8 ?hlen ?B FF ?X ?T ?hm (news_cons NN ?m0 (news_cons NN ?m1 (news_cons NN ?m2 (news_cons NN ?m3 (news_cons NN ?m4 (news_cons NN ?m5 (news_cons NN ?m6 (news_cons NN ?m7 News.nil)))))))) ?oM ?oW ?oS ?oU ?cd1 ?cd2 ?cd3 ?hpw ?hL ?hdp ?hun ?hE ?ret)
    case hm => exact List.forall_mem_cons.mpr ⟨rfl, List.forall_mem_nil _⟩
    case m0 => k_dflt k_mem
    case m1 => k_dflt k_mem
    case m2 => k_dflt k_mem
    case m3 => k_dflt k_mem
    case m4 => k_dflt k_mem
    case m5 => k_dflt k_mem
    case m6 => k_dflt k_mem
    case m7 => k_dflt k_mem
    case oM => assumption
    case oW => assumption
    case oS => assumption
    case oU => assumption
    case cd1 => kn_code
    case cd2 => kn_code
    case cd3 => kn_code
    case hlen => rw [hL8]; simp only [List.length_map, List.length_take]; omega
    case B => k_asm
    case X => k_asm
    case T => k_asm
    case hL => omega
    case hpw => (repeat' first | exact List.Pairwise.nil | refine List.pairwise_cons.mpr ⟨?_, ?_⟩ | exact List.forall_mem_nil _ | refine List.forall_mem_cons.mpr ⟨?_, ?_⟩ | exact ⟨by k_ne⟩)
    case hdp => ktr_room
    case hun => ktr_units
    case hE => passes_own
    case ret =>
      intro h' tk' m' q1 q2 q3 F' N'
      k_steps)

end
end Mine
set_option maxRecDepth 100000 in
set_option maxHeartbeats 8000000 in
theorem PySem.Challenge.cw_sc0080_02_holds : PySem.Challenge.rw_sc0080_02.Holds := by
  exact Mine.law_w
