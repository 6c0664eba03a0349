import PyProof.Rows.All
import PySem.Builtin.Re_Pattern.W2All
import Wide.All
import OpenK.AllK
import Wide.FinOn
import PySem.Challenge.RW_sc0080_01
set_option Elab.async false
set_option linter.all false
set_option maxRecDepth 100000
set_option maxHeartbeats 0
set_option compiler.extract_closed false
set_option hygiene false
namespace Mine
local macro_rules | `(tactic| omega) => `(tactic| lia)
section
open PySem PySem.W PyProof.Rows PySem.Spec PySem.Calls
theorem allLt_get {d : Addr} {l : List (Addr × Obj)} (h : AllLt d l) {p : Addr × Obj} (hp : p ∈ l) : @LT.lt Nat _ p.1 d := by
  induction l with
  | nil => exact absurd hp List.not_mem_nil
  | cons q r ih =>
    rcases List.mem_cons.mp hp with e | hp
    · rw [e]; exact h.1
    · exact ih h.2 hp
structure NeN (a b : Addr) : Prop where
  h : a ≠ b
theorem NeN.of {a b : Addr} (h : ¬ @Eq Nat a b) : NeN a b := ⟨h⟩
theorem NeN.symm {a b : Addr} (h : NeN a b) : NeN b a := ⟨fun e => h.h e.symm⟩
theorem NeN.h' {a b : Addr} (h : NeN b a) : a ≠ b := fun e => h.h e.symm
theorem NeN.n {a b : Addr} (h : NeN a b) : ¬ @Eq Nat a b := h.h
def Sep (P : Addr) (l : List (Addr × Obj)) : Prop := ∀ p ∈ l, NeN p.1 P
theorem Sep.get {P : Addr} {l : List (Addr × Obj)} (h : Sep P l) {p : Addr × Obj} (hp : p ∈ l) : NeN p.1 P := h p hp
theorem ne_nat {a b : Addr} (h : ¬ @Eq Nat a b) : a ≠ b := h
/-- a fact that omega shall not see -/
structure Hid (P : Prop) : Prop where
  h : P
theorem ne_lo {a d : Addr} {o : Obj} {l : List (Addr × Obj)} (h : ∀ p ∈ l, p.1 < d) (m : (a, o) ∈ l) : a ≠ d := Nat.ne_of_lt (h _ m)
theorem ne_hi {a d : Addr} {o : Obj} {l : List (Addr × Obj)} (h : ∀ p ∈ l, p.1 < d) (m : (a, o) ∈ l) : d ≠ a := Nat.ne_of_gt (h _ m)
theorem ne_lo1 {a d : Addr} {o : Obj} {l : List (Addr × Obj)} (h : ∀ p ∈ l, p.1 < d) (m : (a, o) ∈ l) : a ≠ (@HAdd.hAdd Nat Nat Nat instHAdd d 1) := Nat.ne_of_lt (Nat.lt_succ_of_lt (h _ m))
theorem ne_lo2 {a d : Addr} {o : Obj} {l : List (Addr × Obj)} (h : ∀ p ∈ l, p.1 < d) (m : (a, o) ∈ l) : a ≠ (@HAdd.hAdd Nat Nat Nat instHAdd (@HAdd.hAdd Nat Nat Nat instHAdd d 1) 1) := Nat.ne_of_lt (Nat.lt_succ_of_lt (Nat.lt_succ_of_lt (h _ m)))
theorem ne_lo3 {a d : Addr} {o : Obj} {l : List (Addr × Obj)} (h : ∀ p ∈ l, p.1 < d) (m : (a, o) ∈ l) : a ≠ (@HAdd.hAdd Nat Nat Nat instHAdd (@HAdd.hAdd Nat Nat Nat instHAdd (@HAdd.hAdd Nat Nat Nat instHAdd d 1) 1) 1) := Nat.ne_of_lt (Nat.lt_succ_of_lt (Nat.lt_succ_of_lt (Nat.lt_succ_of_lt (h _ m))))
theorem ne_lo4 {a d : Addr} {o : Obj} {l : List (Addr × Obj)} (h : ∀ p ∈ l, p.1 < d) (m : (a, o) ∈ l) : a ≠ (@HAdd.hAdd Nat Nat Nat instHAdd (@HAdd.hAdd Nat Nat Nat instHAdd (@HAdd.hAdd Nat Nat Nat instHAdd (@HAdd.hAdd Nat Nat Nat instHAdd d 1) 1) 1) 1) := Nat.ne_of_lt (Nat.lt_succ_of_lt (Nat.lt_succ_of_lt (Nat.lt_succ_of_lt (Nat.lt_succ_of_lt (h _ m)))))
theorem ne_sep {P a : Addr} {o : Obj} {r : List (Addr × Obj)} (h : Sep P r) (m : (a, o) ∈ r) : a ≠ P := (h _ m).h
theorem nl0 {n K L c : Nat} (h : n + K < c) (hk : L ≤ K) : n + L < c := Nat.lt_of_le_of_lt (Nat.add_le_add_left hk n) h
theorem lt_head {d a : Addr} {o : Obj} {r : List (Addr × Obj)} (h : ∀ p ∈ (a, o) :: r, p.1 < d) : NeN a d := ⟨Nat.ne_of_lt (h _ (.head _))⟩
theorem lt_tail {d : Addr} {x : Addr × Obj} {r : List (Addr × Obj)} (h : ∀ p ∈ x :: r, p.1 < d) : ∀ p ∈ r, p.1 < d := fun p hp => h p (.tail _ hp)
theorem lt_all {i d : Addr} {r : List (Addr × Obj)} (h : ∀ p ∈ r, p.1 < i) (h2 : i < d) : ∀ p ∈ r, p.1 < d := fun p hp => Nat.lt_trans (h p hp) h2
theorem ne_lt2 {a d : Addr} (h : a < d) : NeN a d := ⟨Nat.ne_of_lt h⟩
theorem ltc1 {d a : Addr} {o : Obj} {r : List (Addr × Obj)} (h : ∀ p ∈ (a, o) :: r, p.1 < d) : NeN a (@HAdd.hAdd Nat Nat Nat instHAdd d 1) := ⟨Nat.ne_of_lt (Nat.lt_succ_of_lt (h _ (.head _)))⟩
theorem ltc2 {d a : Addr} {o : Obj} {r : List (Addr × Obj)} (h : ∀ p ∈ (a, o) :: r, p.1 < d) : NeN a (@HAdd.hAdd Nat Nat Nat instHAdd (@HAdd.hAdd Nat Nat Nat instHAdd d 1) 1) := ⟨Nat.ne_of_lt (Nat.lt_succ_of_lt (Nat.lt_succ_of_lt (h _ (.head _))))⟩
theorem ltc3 {d a : Addr} {o : Obj} {r : List (Addr × Obj)} (h : ∀ p ∈ (a, o) :: r, p.1 < d) : NeN a (@HAdd.hAdd Nat Nat Nat instHAdd (@HAdd.hAdd Nat Nat Nat instHAdd (@HAdd.hAdd Nat Nat Nat instHAdd d 1) 1) 1) := ⟨Nat.ne_of_lt (Nat.lt_succ_of_lt (Nat.lt_succ_of_lt (Nat.lt_succ_of_lt (h _ (.head _)))))⟩
theorem sep_head {P a : Addr} {o : Obj} {r : List (Addr × Obj)} (h : Sep P ((a, o) :: r)) : NeN a P := h _ (.head _)
theorem sep_tail {P : Addr} {x : Addr × Obj} {r : List (Addr × Obj)} (h : Sep P (x :: r)) : Sep P r := fun p hp => h p (.tail _ hp)
structure FdK (x y r : Int) : Prop where
  h : x.fdiv y = r
section
variable {prog : Program} {w : World} {A : Around} {E : Value → Shared → Prop} {s : Shared} {a b r : Int} {t u : Tok}
theorem floordiv_known {Q : Value → Shared → Prop} (hk : FdK a b r) (hb : b ≠ 0) (hs : b.natAbs < 1073741824) (h : Q (.int r s.toks) { s with toks := s.toks + 1 }) :
    wpAny (model prog w) A (binaryOp .FloorDiv (.int a t) (.int b u)) Q E s := floordiv_int hb (by rw [hk.h]; exact h) (.inl (PyProof.noPylong_small hs))
theorem rep1 {v : Value} : List.foldl (fun x1 x2 => x1 ++ x2) #[] (List.replicate (if (#[v] : Array Value).isEmpty = true then 0 else (1 : Int).toNat) #[v]) = #[v] := by simp [List.replicate]
theorem rep2 {v : Value} : List.foldl (fun x1 x2 => x1 ++ x2) #[] (List.replicate (if (#[v] : Array Value).isEmpty = true then 0 else (2 : Int).toNat) #[v]) = #[v, v] := by simp [List.replicate]
theorem rep0 {v : Value} : List.foldl (fun x1 x2 => x1 ++ x2) #[] (List.replicate (if (#[v] : Array Value).isEmpty = true then 0 else (0 : Int).toNat) #[v]) = #[] := by simp [List.replicate]
theorem mul_list_res {h₀ : Heap} {L l : Addr} {m : Str → Option Value} {news : List (Addr × Obj)} {items items' : Array Value} {k : Nat} {x : Int} {Q : Value → Shared → Prop}
    (Fm : Fr h₀ L s.heap m) (N : News h₀ L s.heap news) (hm : (l, listOf items k) ∈ news)
    (e : List.foldl (fun x1 x2 => x1 ++ x2) #[] (List.replicate (if items.isEmpty = true then 0 else x.toNat) items) = items')
    (hlo : -(2 ^ 63 : Int) ≤ x) (hhi : x < 2 ^ 63) (hsz : items.size * x.toNat ≤ 2 ^ 24)
    (h : ∀ d h', Fr h₀ L h' m → News h₀ L h' ((d, listOf items' 0) :: news) → (∀ p ∈ news, p.1 < d) → Q (.ref d) { s with heap := h' }) :
    wpAny (model prog w) A (binaryOp .Mult (.ref l) (.int x u)) Q E s :=
  mul_list Fm N (N _ hm).1 hlo hhi hsz fun h' F' N' => h _ h' F' (by rw [← e]; exact N') fun p hp => Heap.lt_size (N p hp).1
end
structure ShrK (x n r : Int) : Prop where
  h0 : 0 ≤ n
  h : x.fdiv (2 ^ n.toNat) = r
structure ShlK (x n r : Int) : Prop where
  h0 : 0 ≤ n
  hs : (Builtin.Int.intBits x : Int) + n ≤ 2 ^ 27
  h : x * 2 ^ n.toNat = r
structure XorK (x y r : Int) : Prop where
  h : Builtin.bitXor x y = r
structure MulK (x y r : Int) : Prop where
  ok : IntMulOk x y
  h : x * y = r
section
variable {prog : Program} {w : World} {A : Around} {E : Value → Shared → Prop} {s : Shared} {a b r : Int} {t u : Tok} {Q : Value → Shared → Prop}
theorem rshift_known (hk : ShrK a b r) (h : Q (.int r s.toks) { s with toks := s.toks + 1 }) : wpAny (model prog w) A (binaryOp .RShift (.int a t) (.int b u)) Q E s := rshift_int hk.h0 (by rw [hk.h]; exact h)
theorem lshift_known (hk : ShlK a b r) (h : Q (.int r s.toks) { s with toks := s.toks + 1 }) : wpAny (model prog w) A (binaryOp .LShift (.int a t) (.int b u)) Q E s := lshift_int hk.h0 hk.hs (by rw [hk.h]; exact h)
theorem xor_known (hk : XorK a b r) (h : Q (.int r s.toks) { s with toks := s.toks + 1 }) : wpAny (model prog w) A (binaryOp .BitXor (.int a t) (.int b u)) Q E s := xor_int (by rw [hk.h]; exact h)
theorem mul_known (hk : MulK a b r) (h : Q (.int r s.toks) { s with toks := s.toks + 1 }) : wpAny (model prog w) A (binaryOp .Mult (.int a t) (.int b u)) Q E s := mul_int (by rw [hk.h]; exact h) hk.ok
end
/-- raw copies of the freshness facts: simp does not open them -/
def RawLt (d : Addr) (l : List (Addr × Obj)) : Prop := ∀ p ∈ l, @LT.lt Nat _ p.1 d
theorem RawLt.mk {d : Addr} {l : List (Addr × Obj)} (h : ∀ p ∈ l, p.1 < d) : RawLt d l := h
theorem RawLt.use {d : Addr} {l : List (Addr × Obj)} {p : Addr × Obj} (h : RawLt d l) (hp : p ∈ l) : @LT.lt Nat _ p.1 d := h p hp
theorem RawLt.all {d : Addr} {l l' : List (Addr × Obj)} (h : RawLt d l) (hp : ∀ p ∈ l', p ∈ l) : AllLt d l' := allLt_of fun p q => h p (hp p q)
inductive Del (P : Addr) (o : Obj) : List (Addr × Obj) → List (Addr × Obj) → Prop
  | head {r} : (∀ p ∈ r, p.1 ≠ P) → Del P o ((P, o) :: r) r
  | tail {p r t} : p.1 ≠ P → Del P o r t → Del P o (p :: r) (p :: t)
section
variable {P : Addr} {o : Obj} {l t : List (Addr × Obj)}
theorem Del.mem (D : Del P o l t) : (P, o) ∈ l := by
  induction D with
  | head _ => exact .head _
  | tail _ _ ih => exact .tail _ ih
theorem Del.sub (D : Del P o l t) : ∀ p ∈ t, p ∈ l := by
  induction D with
  | head _ => exact fun p hp => .tail _ hp
  | tail _ _ ih =>
    intro p hp
    rcases List.mem_cons.mp hp with rfl | hp
    · exact .head _
    · exact .tail _ (ih p hp)
theorem Del.sep (D : Del P o l t) : Sep P t := by
  induction D with
  | head h => exact fun p hp => ⟨h p hp⟩
  | tail h _ ih =>
    intro p hp
    rcases List.mem_cons.mp hp with rfl | hp
    · exact ⟨h⟩
    · exact ih p hp
end
theorem RawLt.of {d : Addr} {l : List (Addr × Obj)} (h : AllLt d l) : RawLt d l := fun _ hp => allLt_get h hp
/-- the table of inner code objects of one def that holds one nested def: not yet made, or made -/
def TabOk (l c : Nat) (q : Str) (ps : Array Value) (c₁ : Addr) (o₁ : Obj) : Prop :=
  ps = #[] ∨ (ps = #[rawInt l, rawInt c, .ref c₁] ∧ ∃ vs t, o₁.data = .fields vs ∧ vs[1]? = some (.str q t))
section
variable {M : Model} {A : Around} {E : Value → Shared → Prop} {s : Shared} {h₀ : Heap} {L a c P c₁ : Addr} {o₁ : Obj} {m mg mb : Str → Option Value} {cn : Str} {cs : Scope} {ccd : Value} {cl : List (Str × Addr)} {news z tl : List (Addr × Obj)}
  {p : Program} {loose : List Str} {mean : ExcName → Option Value} {name qual : Str} {params : Arguments} {body : List Stmt} {ex : Expr} {scope : Scope} {ps : Array Value} {pos : Pos} {firstLine : Nat} {clos : List (Str × Addr)}
theorem nest_any {l k : Nat} {q : Str} {Q : Value → Shared → Prop} (F : Fr h₀ L s.heap m) (N : News h₀ L s.heap news) (T : Top p loose mean mg mb h₀) (C : CodeHd h₀ c P) (hcd : ccd = .ref c) (U : Del P (tabObj ps) news z) (U2 : Del c₁ o₁ z tl) (ht : TabOk l k q ps c₁ o₁)
    (hl : pos.line = l) (hc : pos.col = k) (hq : qual = q) (hcl : closureFor scope (envX cn cs L a ccd cl) = pure clos)
    (h : ∀ f c' oc vs t ctv doc h' tk, Fr h₀ L h' m →
      News h₀ L h' ((f, fnMade name qual params body scope clos doc ((mg "__name__").getD .none) c' ctv) :: (c', oc) :: (P, tabObj #[rawInt l, rawInt k, .ref c']) :: tl) →
      oc.data = .fields vs → vs[1]? = some (.str qual t) → TabOk l k q #[rawInt l, rawInt k, .ref c'] c' oc → (ps = #[] ∨ (c' = c₁ ∧ oc = o₁)) → Sep c' tl → NeN c' P → (∀ q ∈ (P, tabObj ps) :: tl, q.1 < f) → c' < f → Q (.ref f) { s with heap := h', toks := tk }) :
    wpAny M A (makeFunction name qual params (.stmts body) scope (envX cn cs L a ccd cl) [] [] [] pos firstLine) Q E s := by
  subst hl hc hq
  have N2 : News h₀ L s.heap ((P, tabObj ps) :: (c₁, o₁) :: tl) := fun x hx => by
    rcases List.mem_cons.mp hx with rfl | hx
    · exact N _ U.mem
    · rcases List.mem_cons.mp hx with rfl | hx
      · exact N _ (U.sub _ U2.mem)
      · exact N _ (U.sub _ (U2.sub _ hx))
  have hP1 : c₁ ≠ P := (U.sep _ U2.mem).h
  have hPt : ∀ x ∈ (c₁, o₁) :: tl, x.1 ≠ P := fun x hx => by
    rcases List.mem_cons.mp hx with rfl | hx
    · exact hP1
    · exact (U.sep _ (U2.sub _ hx)).h
  rcases ht with rfl | ⟨rfl, vs, t, hd, hv⟩
  · refine nest_K F N2 T C hcd (.head hPt) (by trivial) rfl hcl fun f c' oc vs t ctv doc h' tk F' N' hd hv l1 l2 => ?_
    refine h f c' oc vs t ctv doc h' tk F' (fun x hx => ?_) hd hv (.inr ⟨rfl, vs, t, hd, hv⟩) (.inl rfl) (fun x hx => ⟨fun e => Nat.ne_of_lt (l1 x (.tail _ (.tail _ hx))) e⟩) ⟨fun e => Nat.ne_of_lt (l1 _ (.head _)) e.symm⟩ (fun x hx => ?_) l2
    · have e : (#[] : Array Value) ++ #[rawInt pos.line, rawInt pos.col, .ref c'] = #[rawInt pos.line, rawInt pos.col, .ref c'] := by simp
      rw [e] at N'
      rcases List.mem_cons.mp hx with rfl | hx
      · exact N' _ (.head _)
      · rcases List.mem_cons.mp hx with rfl | hx
        · exact N' _ (.tail _ (.head _))
        · rcases List.mem_cons.mp hx with rfl | hx
          · exact N' _ (.tail _ (.tail _ (.head _)))
          · exact N' _ (.tail _ (.tail _ (.tail _ (.tail _ hx))))
    · rcases List.mem_cons.mp hx with rfl | hx
      · exact Nat.lt_trans (l1 _ (.head _)) l2
      · exact Nat.lt_trans (l1 x (.tail _ (.tail _ hx))) l2
  · refine nestHit_K (c' := c₁) F N2 T C hcd (.head _) (by simp [TriplesOk, rawInt]) (by simp [codeAmong, rawInt]) hcl fun f ctv doc h' tk F' N' l1 => ?_
    refine h f c₁ o₁ vs t ctv doc h' tk F' (fun x hx => ?_) hd hv (.inr ⟨rfl, vs, t, hd, hv⟩) (.inr ⟨rfl, rfl⟩) U2.sep ⟨hP1⟩ (fun x hx => ?_) (l1 _ (.tail _ (.head _)))
    · rcases List.mem_cons.mp hx with rfl | hx
      · exact N' _ (.head _)
      · rcases List.mem_cons.mp hx with rfl | hx
        · exact N' _ (.tail _ (.tail _ (.head _)))
        · rcases List.mem_cons.mp hx with rfl | hx
          · exact N' _ (.tail _ (.head _))
          · exact N' _ (.tail _ (.tail _ (.tail _ hx)))
    · rcases List.mem_cons.mp hx with rfl | hx
      · exact l1 _ (.head _)
      · exact l1 x (.tail _ (.tail _ hx))
theorem lam_any {l k : Nat} {q : Str} {Q : Value → Shared → Prop} (F : Fr h₀ L s.heap m) (N : News h₀ L s.heap news) (T : Top p loose mean mg mb h₀) (C : CodeHd h₀ c P) (hcd : ccd = .ref c) (U : Del P (tabObj ps) news z) (U2 : Del c₁ o₁ z tl) (ht : TabOk l k q ps c₁ o₁)
    (hl : pos.line = l) (hc : pos.col = k) (hq : qual = q) (hcl : closureFor scope (envX cn cs L a ccd cl) = pure clos)
    (h : ∀ f c' oc vs t ctv h' tk, Fr h₀ L h' m →
      News h₀ L h' ((f, kla_obj name qual params ex scope clos ((mg "__name__").getD .none) c' ctv) :: (c', oc) :: (P, tabObj #[rawInt l, rawInt k, .ref c']) :: tl) →
      oc.data = .fields vs → vs[1]? = some (.str qual t) → TabOk l k q #[rawInt l, rawInt k, .ref c'] c' oc → (ps = #[] ∨ (c' = c₁ ∧ oc = o₁)) → Sep c' tl → NeN c' P → (∀ q ∈ (P, tabObj ps) :: tl, q.1 < f) → c' < f → Q (.ref f) { s with heap := h', toks := tk }) :
    wpAny M A (makeFunction name qual params (.expr ex) scope (envX cn cs L a ccd cl) [] [] [] pos firstLine) Q E s := by
  subst hl hc hq
  have N2 : News h₀ L s.heap ((P, tabObj ps) :: (c₁, o₁) :: tl) := fun x hx => by
    rcases List.mem_cons.mp hx with rfl | hx
    · exact N _ U.mem
    · rcases List.mem_cons.mp hx with rfl | hx
      · exact N _ (U.sub _ U2.mem)
      · exact N _ (U.sub _ (U2.sub _ hx))
  have hP1 : c₁ ≠ P := (U.sep _ U2.mem).h
  have hPt : ∀ x ∈ (c₁, o₁) :: tl, x.1 ≠ P := fun x hx => by
    rcases List.mem_cons.mp hx with rfl | hx
    · exact hP1
    · exact (U.sep _ (U2.sub _ hx)).h
  rcases ht with rfl | ⟨rfl, vs, t, hd, hv⟩
  · refine kla_nest F N2 T C hcd (.head hPt) (by trivial) rfl hcl fun f c' oc vs t ctv h' tk F' N' hd hv l1 l2 => ?_
    refine h f c' oc vs t ctv h' tk F' (fun x hx => ?_) hd hv (.inr ⟨rfl, vs, t, hd, hv⟩) (.inl rfl) (fun x hx => ⟨fun e => Nat.ne_of_lt (l1 x (.tail _ (.tail _ hx))) e⟩) ⟨fun e => Nat.ne_of_lt (l1 _ (.head _)) e.symm⟩ (fun x hx => ?_) l2
    · have e : (#[] : Array Value) ++ #[rawInt pos.line, rawInt pos.col, .ref c'] = #[rawInt pos.line, rawInt pos.col, .ref c'] := by simp
      rw [e] at N'
      rcases List.mem_cons.mp hx with rfl | hx
      · exact N' _ (.head _)
      · rcases List.mem_cons.mp hx with rfl | hx
        · exact N' _ (.tail _ (.head _))
        · rcases List.mem_cons.mp hx with rfl | hx
          · exact N' _ (.tail _ (.tail _ (.head _)))
          · exact N' _ (.tail _ (.tail _ (.tail _ (.tail _ hx))))
    · rcases List.mem_cons.mp hx with rfl | hx
      · exact Nat.lt_trans (l1 _ (.head _)) l2
      · exact Nat.lt_trans (l1 x (.tail _ (.tail _ hx))) l2
  · refine kla_hit (c' := c₁) F N2 T C hcd (.head _) (by simp [TriplesOk, rawInt]) (by simp [codeAmong, rawInt]) hcl fun f ctv h' tk F' N' l1 => ?_
    refine h f c₁ o₁ vs t ctv h' tk F' (fun x hx => ?_) hd hv (.inr ⟨rfl, vs, t, hd, hv⟩) (.inr ⟨rfl, rfl⟩) U2.sep ⟨hP1⟩ (fun x hx => ?_) (l1 _ (.tail _ (.head _)))
    · rcases List.mem_cons.mp hx with rfl | hx
      · exact N' _ (.head _)
      · rcases List.mem_cons.mp hx with rfl | hx
        · exact N' _ (.tail _ (.tail _ (.head _)))
        · rcases List.mem_cons.mp hx with rfl | hx
          · exact N' _ (.tail _ (.head _))
          · exact N' _ (.tail _ (.tail _ (.tail _ hx)))
    · rcases List.mem_cons.mp hx with rfl | hx
      · exact l1 _ (.head _)
      · exact l1 x (.tail _ (.tail _ hx))
end
theorem nat_and_low (x k : Nat) : x &&& (x / 2 ^ k * 2 ^ k) = x / 2 ^ k * 2 ^ k := by
  rw [← Nat.shiftRight_eq_div_pow, ← Nat.shiftLeft_eq]
  apply Nat.eq_of_testBit_eq
  intro i
  rw [Nat.testBit_and, Nat.testBit_shiftLeft, Nat.testBit_shiftRight]
  by_cases h : k ≤ i
  · have : k + (i - k) = i := by omega
    rw [this]
    cases x.testBit i <;> simp
  · have : decide (i ≥ k) = false := by simp; omega
    rw [this]; simp
theorem xor_low {x : Int} (hx : 0 ≤ x) (k : Nat) : Builtin.bitXor x (x.fdiv (2 ^ k) * 2 ^ k) = x.fmod (2 ^ k) := by
  obtain ⟨n, rfl⟩ := Int.eq_ofNat_of_zero_le hx
  have hp : (0 : Int) ≤ 2 ^ k := Int.le_of_lt (Int.pow_pos (by decide))
  have h2 : ((2 : Int) ^ k) = ((2 ^ k : Nat) : Int) := by simp
  rw [bitXor_and, Int.fdiv_eq_ediv_of_nonneg _ hp, Int.fmod_eq_emod_of_nonneg _ hp, h2]
  have e1 : ((n : Int) / ((2 ^ k : Nat) : Int)) * ((2 ^ k : Nat) : Int) = ((n / 2 ^ k * 2 ^ k : Nat) : Int) := by simp
  rw [e1]
  have e2 : Builtin.bitAnd (n : Int) ((n / 2 ^ k * 2 ^ k : Nat) : Int) = ((n / 2 ^ k * 2 ^ k : Nat) : Int) := by
    unfold Builtin.bitAnd
    have a1 : decide ((0 : Int) ≤ (n : Int)) = true := by simp
    have a2 : decide ((0 : Int) ≤ ((n / 2 ^ k * 2 ^ k : Nat) : Int)) = true := by simp; exact Int.mul_nonneg (Int.ediv_nonneg (by omega) (by omega)) (by omega)
    rw [a1, a2]
    show (((n : Int).toNat &&& ((n / 2 ^ k * 2 ^ k : Nat) : Int).toNat : Nat) : Int) = _
    rw [Int.toNat_natCast, Int.toNat_natCast, nat_and_low]
  rw [e2]
  have e3 : (n : Int) % ((2 ^ k : Nat) : Int) = ((n % 2 ^ k : Nat) : Int) := by simp
  rw [e3]
  have := Nat.div_add_mod n (2 ^ k)
  have c := Nat.mul_comm (2 ^ k) (n / 2 ^ k)
  omega
def I2Q : Str := Str.ofString "_int2digits.<locals>.inner"
def D2Q : Str := Str.ofString "_digits2int.<locals>.inner"
def LXQ : Str := Str.ofString "_law_lexer.<locals>.<lambda>"
abbrev tupObj (vs : Array Value) : Obj := { cls := .type "tuple", data := .seq vs }
structure DivK (x y q r : Int) : Prop where
  h0 : y ≠ 0
  hp : Builtin.divisionGoesByPylong x y = false
  hq : x.fdiv y = q
  hr : x.fmod y = r
structure BitK (x n : Int) : Prop where
  h : (Builtin.Int.intBits x : Int) = n
section
variable {prog : Program} {w : World} {A : Around} {E : Value → Shared → Prop} {s : Shared} {a b q r n : Int} {t u : Tok} {Q : Value → Shared → Prop} {h₀ : Heap} {L : Addr} {m : Str → Option Value} {news : List (Addr × Obj)}
theorem divmod_known (F : Fr h₀ L s.heap m) (N : News h₀ L s.heap news) (hk : DivK a b q r)
    (h : ∀ d t1 t2 h', Fr h₀ L h' m → News h₀ L h' ((d, tupObj #[.int q t1, .int r t2]) :: news) → (∀ p ∈ news, p.1 < d) → Q (.ref d) { s with toks := s.toks + 1 + 1, heap := h' }) :
    wpAny (model prog w) A (call (.builtin "divmod") [.int a t, .int b u]) Q E s :=
  divmod_N F N hk.h0 (fun h' F' N' => h _ _ _ h' F' (by rw [← hk.hq, ← hk.hr]; exact N') fun p hp => Heap.lt_size (N p hp).1) (.inl hk.hp)
theorem bits_known (hk : BitK a n) (h : Q (.int n s.toks) { s with toks := s.toks + 1 }) : wpAny (model prog w) A (call (.builtin "int.bit_length") [.int a t]) Q E s := call_int_bit_length (by rw [hk.h]; exact h)
end
theorem RawLt.out {d : Addr} {l : List (Addr × Obj)} (h : RawLt d l) : ∀ p ∈ l, p.1 < d := h
def cutH (h : Heap) (n : Nat) (l : List Addr) : Heap := ⟨(hideAll h l).objs.extract 0 n, h.life⟩
theorem cutH_size (h : Heap) (n : Nat) (l : List Addr) (hn : n ≤ h.objs.size) : (cutH h n l).objs.size = n := by
  show ((hideAll h l).objs.extract 0 n).size = n
  rw [Array.size_extract, hideAll_size]; omega
theorem cutH_at (h : Heap) (n : Nat) (l : List Addr) (b : Nat) (hb : b < n) : (cutH h n l).get? b = (hideAll h l).get? b := by
  unfold Heap.get?
  have e : (cutH h n l).objs[b]? = (hideAll h l).objs[b]? := by
    show ((hideAll h l).objs.extract 0 n)[b]? = _
    rw [Array.getElem?_extract]
    by_cases hs : b < (hideAll h l).objs.size
    · rw [if_pos (by omega)]; simp
    · rw [if_neg (by omega), Array.getElem?_eq_none (by omega)]
  rw [e]
theorem cutH_ge (h : Heap) (n : Nat) (l : List Addr) (b : Nat) (hb : n ≤ b) : (cutH h n l).get? b = none := by
  unfold Heap.get?
  have e : (cutH h n l).objs[b]? = none := by
    show ((hideAll h l).objs.extract 0 n)[b]? = _
    rw [Array.getElem?_extract, if_neg (by omega)]
  rw [e]
theorem of_cutH {h : Heap} {n : Nat} {l : List Addr} {b : Addr} {o : Obj} (e : (cutH h n l).get? b = some o) : h.get? b = some o := by
  by_cases hb : @LT.lt Nat _ b n
  · rw [cutH_at h n l b hb] at e; exact of_hideAll l e
  · rw [cutH_ge h n l b (by omega)] at e; cases e
theorem cutH_none {h : Heap} {n : Nat} {l : List Addr} {b : Addr} (hb : b ∈ l) : (cutH h n l).get? b = none := by
  by_cases hn : @LT.lt Nat _ b n
  · rw [cutH_at h n l b hn]; exact hideAll_none l hb
  · exact cutH_ge h n l b (by omega)
theorem cutH_get {h : Heap} {n : Nat} {l : List Addr} {b : Addr} {o : Obj} (e : h.get? b = some o) (hb : b ∉ l) (hn : @LT.lt Nat _ b n) : (cutH h n l).get? b = some o := by
  rw [cutH_at h n l b hn]; exact hideAll_get l e hb
/-- the tail's objects are put into the base: the ledger within is written out whole -/
def InBase (g : Heap) (tl : List (Addr × Obj)) : Prop := ∀ p ∈ tl, g.get? p.1 = some p.2
theorem InBase.sep {g h : Heap} {L : Addr} {tl l : List (Addr × Obj)} {x : Addr × Obj} (I : InBase g tl) (N : News g L h l) (hm : x ∈ l) : Sep x.1 tl := fun p hp => ⟨fun e => by
  have e1 := I p hp
  have e2 := (N x hm).2.2
  have e3 : p.1 = x.1 := e
  rw [e3, e2] at e1; cases e1⟩
theorem news_cons {h₀ h : Heap} {L : Addr} {l r : List (Addr × Obj)} {x : Addr × Obj} (N : News h₀ L h l) (hm : x ∈ l) (R : News h₀ L h r) : News h₀ L h (x :: r) := fun p hp => by
  rcases List.mem_cons.mp hp with rfl | hp
  · exact N _ hm
  · exact R p hp
theorem news_in {h₀ h : Heap} {L : Addr} {l r : List (Addr × Obj)} (N : News h₀ L h l) (hs : ∀ p ∈ r, p ∈ l) : News h₀ L h r := fun p hp => N p (hs p hp)
abbrev RetOf (fl : Flow) : Value := match fl with | .ret v => v | _ => .none
theorem rebaseK {M : Model} {A A' : Around} {env : Env} {body : List Stmt} {E : Value → Shared → Prop} {s : Shared} {h₀ h₁ g base : Heap} {L L' : Addr} {m m' : Str → Option Value} {ex tl : List (Addr × Obj)} {R : Result → Shared → Prop} {outer : List Env} {K : Frag}
    {p : Program} {loose : List Str} {mean : ExcName → Option Value} {mg mb : Str → Option Value}
    (F : Fr g L' s.heap m') (N : News g L' s.heap (ex ++ tl)) (B : Below A' base outer g) (X : K.In g) (T : Top p loose mean mg mb g)
    (N₀ : News h₀ L h₁ tl) (hlt : ∀ p ∈ tl, @LT.lt Nat _ p.1 L') (hsep : ∀ q ∈ ex, Sep q.1 tl)
    (h : ∀ gp, Fr gp L' s.heap m' → News gp L' s.heap ex → Below A' base outer gp → K.In gp → Top p loose mean mg mb gp → InBase gp tl →
      wpAny M A (execs body env) (fun fl s' => LeaveK h₀ L m gp (fun r s'' => News h₀ L s''.heap tl → R r s'') (match fl with | .ret v => v | _ => .none) s') E s) :
    wpAny M A (execs body env) (fun fl s' => LeaveK h₀ L m g R (match fl with | .ret v => v | _ => .none) s') E s := by
  have hL : L' < s.heap.objs.size := F.ns.lt
  have sub : g.StaysIn (cutH s.heap L' (ex.map Prod.fst)) := fun b o e => by
    refine cutH_get (F.keep b o e) (fun hm => ?_) (Nat.lt_of_lt_of_le (Heap.lt_size e) F.above)
    obtain ⟨q, hq, rfl⟩ := List.mem_map.mp hm
    have := (N q (List.mem_append_left _ hq)).2.2
    rw [e] at this; cases this
  have hsz := cutH_size s.heap L' (ex.map Prod.fst) (Nat.le_of_lt hL)
  have inb : InBase (cutH s.heap L' (ex.map Prod.fst)) tl := fun q hq => by
    refine cutH_get (N q (List.mem_append_right _ hq)).1 (fun hm => ?_) (hlt q hq)
    obtain ⟨q', hq', e⟩ := List.mem_map.mp hm
    exact (hsep q' hq' q hq).h (show q.1 = q'.1 from e.symm)
  refine wpAny_mono (h (cutH s.heap L' (ex.map Prod.fst)) ⟨F.ns, fun b o e => of_cutH e, Nat.le_of_eq hsz⟩ (fun q hq => ⟨(N q (List.mem_append_left _ hq)).1, (N q (List.mem_append_left _ hq)).2.1, cutH_none (List.mem_map_of_mem hq)⟩)
    ⟨B.stack, fun b o e => sub b o (B.stays b o e), B.frames.of_keeps fun b o e _ => ⟨o, sub b o e, rfl⟩⟩ (X.keeps sub) (T.keeps sub) inb) (fun fl s' hl => ?_) fun _ _ x => x
  obtain ⟨L₂, m₂, news', F₂, N₂, k⟩ := hl
  refine ⟨L₂, m₂, news', ⟨F₂.ns, fun b o e => F₂.keep b o (sub b o e), Nat.le_trans F.above (hsz ▸ F₂.above)⟩, fun q hq => ⟨(N₂ q hq).1, (N₂ q hq).2.1, ?_⟩, fun Fh Nh => k Fh Nh fun q hq => ⟨F₂.keep _ _ (inb q hq), (N₀ q hq).2⟩⟩
  cases e : g.get? q.1 with
  | none => rfl
  | some o => have := (N₂ q hq).2.2; rw [sub _ _ e] at this; cases this
section
variable {prog : Program} {w : World} {A A₀ : Around} {s : Shared} {K : Frag} {L : Addr} {h₀ base : Heap} {m mg mb : Str → Option Value} {news : List (Addr × Obj)} {p : Program} {loose : List Str} {mean : ExcName → Option Value}
theorem code_defL {env : Env} {outer : List Env} {R : Result → Shared → Prop} {name qual : Str} {params : Arguments} {body : List Stmt} {scope : Scope} {dV kV doc pm cdv ct oc : Value} {an od : Option Addr} {osl : Array (Option Value)} {f : Addr} {args : Args} {binds : List (Str × Value)}
    (B : Below A₀ base outer h₀) (F : Fr h₀ L s.heap m) (X₀ : K.In h₀) (N : News h₀ L s.heap news) (T : Top p loose mean mg mb h₀) (hA : A.frames = some (env :: outer)) (hf : env.frame = some L) (hke : env.scope.kind = .function)
    (ho : K.lookup f = some ⟨oc, od, .func (fnOf name qual params body scope dV kV doc pm an cdv ct), osl⟩) (hcd : codeIn K cdv qual = true) (hroom : A.depth < recursionLimit)
    (hbind : BindsTo s (fnOf name qual params body scope dV kV doc pm an cdv ct) args binds) (hloc : ∀ y ∈ binds, scope.names.lookup y.1 = some .local)
    (h : ∀ g L' h₁, Fr h₀ L g m → Fr g L' h₁ (fun y => binds.reverse.lookup y) → News g L' h₁ news → Below A base (env :: outer) g → K.In g → Top p loose mean mg mb g → (∀ p ∈ news, p.1 < L') →
      wpAny (model prog w) (A.deeper (envOf qual scope L' f cdv)) (execs body (envOf qual scope L' f cdv))
        (fun fl s' => LeaveK h₀ L m g R (match fl with | .ret v => v | _ => .none) s')
        (fun e s' => wpAny (model prog w) (A.deeper (envOf qual scope L' f cdv)) (leaving (envOf qual scope L' f cdv) e) (fun _ s'' => R (.error e) s'') (fun e' s'' => R (.error e') s'') s')
        { s with heap := h₁, toks := s.toks + binds.length })
    (hco : scope.isCoroutine = false) (hgen : scope.isGenerator = false) (hk : scope.kind = .function)
    (hcell : ∀ x ∈ scope.names, x.2 ≠ .cell) : codeAny (model prog w) A (.call (.ref f) args) R s :=
  callX_plain (cl := []) B F N T.nolimit hA hf hke ((X₀.keeps F.keep) _ _ ho) rfl (codeRec_of (X₀.keeps F.keep) hcd) hroom hbind hloc (fun g L' h₁ FG F' N' B' st l => h g L' h₁ FG F' N' B' (X₀.keeps st) (T.keeps st) l) hcell hco hgen hk
end
theorem sep_cell {L : Addr} {l tl : List (Addr × Obj)} {n : Nat} (h : ∀ p ∈ l, p.1 < L) (hs : ∀ p ∈ tl, p ∈ l) (hn : @LE.le Nat _ L n) : Sep n tl := fun p hp => NeN.of (by
  have h1 : @LT.lt Nat _ p.1 L := h p (hs p hp)
  omega)
theorem sep_sub {P : Addr} {l t : List (Addr × Obj)} (h : Sep P l) (hs : ∀ p ∈ t, p ∈ l) : Sep P t := fun p hp => h p (hs p hp)
theorem del2_news {h₀ h : Heap} {L P c : Addr} {o o₁ : Obj} {l t tl : List (Addr × Obj)} (N : News h₀ L h l) (U : Del P o l t) (U2 : Del c o₁ t tl) : News h₀ L h ((P, o) :: (c, o₁) :: tl) :=
  news_cons N U.mem (news_cons N (U.sub _ U2.mem) (news_in N fun p hp => U.sub p (U2.sub p hp)))
theorem split4 {h₀ h : Heap} {L P1 c1 P2 c2 : Addr} {o1 o2 o3 o4 : Obj} {l : List (Addr × Obj)} (N : News h₀ L h l) (m1 : (P1, o1) ∈ l) (m2 : (c1, o2) ∈ l) (m3 : (P2, o3) ∈ l) (m4 : (c2, o4) ∈ l) :
    ∃ tl, News h₀ L h ((P1, o1) :: (c1, o2) :: (P2, o3) :: (c2, o4) :: tl) ∧ Sep P1 tl ∧ Sep c1 tl ∧ Sep P2 tl ∧ Sep c2 tl ∧ (∀ p ∈ l, p = (P1, o1) ∨ p = (c1, o2) ∨ p = (P2, o3) ∨ p = (c2, o4) ∨ p ∈ tl) := by
  have same : ∀ {a : Addr} {o : Obj}, (a, o) ∈ l → ∀ p ∈ l, p.1 = a → p = (a, o) := fun {a o} hm p hp e => by
    have e1 := (N p hp).1
    have e2 := (N _ hm).1
    rw [e] at e1
    rw [show (a, o).1 = a from rfl] at e2
    rw [e1] at e2
    exact Prod.ext e (Option.some.inj e2)
  refine ⟨l.filter fun p => decide (p.1 ≠ P1) && (decide (p.1 ≠ c1) && (decide (p.1 ≠ P2) && decide (p.1 ≠ c2))), ?_, ?_, ?_, ?_, ?_, ?_⟩
  · exact news_cons N m1 (news_cons N m2 (news_cons N m3 (news_cons N m4 (news_in N fun p hp => (List.mem_filter.mp hp).1))))
  all_goals first
    | (intro p hp
       have := (List.mem_filter.mp hp).2
       simp only [Bool.and_eq_true, decide_eq_true_eq] at this
       first | exact ⟨this.1⟩ | exact ⟨this.2.1⟩ | exact ⟨this.2.2.1⟩ | exact ⟨this.2.2.2⟩)
    | (intro p hp
       by_cases h1 : p.1 = P1
       · exact .inl (same m1 p hp h1)
       by_cases h2 : p.1 = c1
       · exact .inr (.inl (same m2 p hp h2))
       by_cases h3 : p.1 = P2
       · exact .inr (.inr (.inl (same m3 p hp h3)))
       by_cases h4 : p.1 = c2
       · exact .inr (.inr (.inr (.inl (same m4 p hp h4))))
       refine .inr (.inr (.inr (.inr (List.mem_filter.mpr ⟨hp, ?_⟩))))
       simp [h1, h2, h3, h4])
theorem news_back {h₀ h : Heap} {L : Addr} {x a b c d : Addr × Obj} {l tl : List (Addr × Obj)} (N : News h₀ L h (x :: a :: b :: c :: d :: tl)) (hl : ∀ p ∈ l, p = a ∨ p = b ∨ p = c ∨ p = d ∨ p ∈ tl) : News h₀ L h (x :: l) := fun p hp => by
  rcases List.mem_cons.mp hp with rfl | hp
  · exact N _ (.head _)
  · rcases hl p hp with rfl | rfl | rfl | rfl | hp
    · exact N _ (.tail _ (.head _))
    · exact N _ (.tail _ (.tail _ (.head _)))
    · exact N _ (.tail _ (.tail _ (.tail _ (.head _))))
    · exact N _ (.tail _ (.tail _ (.tail _ (.tail _ (.head _)))))
    · exact N _ (.tail _ (.tail _ (.tail _ (.tail _ (.tail _ hp)))))
theorem sep_back {P : Addr} {a b c d : Addr × Obj} {l tl : List (Addr × Obj)} (S : Sep P tl) (h1 : NeN P a.1) (h2 : NeN P b.1) (h3 : NeN P c.1) (h4 : NeN P d.1) (hl : ∀ p ∈ l, p = a ∨ p = b ∨ p = c ∨ p = d ∨ p ∈ tl) : Sep P l := fun p hp => by
  rcases hl p hp with rfl | rfl | rfl | rfl | hp
  · exact h1.symm
  · exact h2.symm
  · exact h3.symm
  · exact h4.symm
  · exact S p hp

end
section
open PySem PySem.Sre
def C1 : Array Nat := #[14, 4, 0, 1, 1, 6, 1, 16, 46, 1]
def C2 : Array Nat := #[14, 9, 4, 1, 2, 16, 10, 16, 13, 0, 7, 7, 16, 13, 16, 10, 15, 18, 5, 16, 10, 15, 13, 11, 16, 13, 5, 5, 0, 16, 10, 1, 15, 2, 0, 1]
theorem op6 : ops[6]? = some .AT := rfl
theorem op16 : ops[16]? = some .LITERAL := rfl
theorem op1 : ops[1]? = some .SUCCESS := rfl
theorem op7 : ops[7]? = some .BRANCH := rfl
theorem op15 : ops[15]? = some .JUMP := rfl
theorem op5 : ops[5]? = some .ASSERT_NOT := rfl
theorem op14 : ops[14]? = some .INFO := rfl
theorem step_exec {m : M} (ha : m.answer = none) (ho : m.outcome = none) (hp : m.pc < m.code.size) : m.step = m.exec := by
  unfold M.step
  rw [ho, ha]
  simp [hp]
theorem ex_at {m : M} (hw : m.word 0 = 6) (hw1 : m.word 1 = 1) : ∃ sn, m.exec = if (m.pos == 0 || m.text.getD (m.pos - 1) 0 == 10) = true then { m with seen := sn, pc := m.pc + 2 } else { m with seen := sn, answer := some false } := by
  unfold M.exec
  rw [hw]
  simp only [op6]
  have e : ({ m with seen := m.seen.add 6 } : M).word 1 = 1 := hw1
  rw [e]
  refine ⟨(m.seen.add 6).add 44, ?_⟩
  unfold M.isAt
  dsimp only
  cases h : (m.pos == 0 || m.text.getD (m.pos - 1) 0 == 10) <;> rfl
theorem ex_lit {m : M} (hw : m.word 0 = 16) : ∃ sn, m.exec = if m.pos < m.lim ∧ m.text.getD m.pos 0 = m.word 1 then { m with seen := sn, pc := m.pc + 2, pos := m.pos + 1 } else { m with seen := sn, answer := some false } := by
  unfold M.exec
  rw [hw]
  simp only [op16]
  refine ⟨m.seen.add 16, ?_⟩
  by_cases hl : m.pos < m.lim
  · rw [if_neg (by simpa using hl)]
    unfold accepts
    have hc : m.code.getD m.pc 0 = 16 := by simpa [M.word] using hw
    rw [hc, op16]
    dsimp only
    have hw1 : m.code.getD (m.pc + 1) 0 = m.word 1 := rfl
    rw [hw1]
    by_cases h : m.text.getD m.pos 0 = m.word 1
    · rw [if_pos ⟨hl, h⟩, beq_iff_eq.mpr h]
      dsimp only
      unfold itemWidth
      rw [hc, op16]
    · rw [if_neg (fun x => h x.2), beq_eq_false_iff_ne.mpr h]
      rfl
  · rw [if_pos (by simpa using hl), if_neg (fun x => hl x.1)]
    rfl
theorem ex_succ {m : M} (hw : m.word 0 = 1) (hwt : m.wholeText = false) (hm : m.mustAdvance = true → m.pos ≠ m.start) : ∃ sn, m.exec = { m with seen := sn, handed := m.pos, answer := some true } := by
  unfold M.exec
  rw [hw]
  simp only [op1]
  refine ⟨m.seen.add 1, ?_⟩
  rw [if_neg (by
    simp only [hwt, Bool.false_and, Bool.false_or, Bool.and_eq_true, beq_iff_eq, not_and]
    intro _ h1 h2
    exact hm h1 h2)]
  rfl
def FinIs (m : M) : Option (Nat × Nat) → Prop
  | none => m.outcome = some .failed
  | some (b, e) => m.outcome = some .matched ∧ m.start = b ∧ m.handed = e
def EndsIn (k : Nat) (m : M) (r : Option (Nat × Nat)) : Prop := ∃ N, N ≤ k ∧ FinIs (m.runFor N) r
theorem ends_step {k : Nat} {m : M} {r} (ho : m.outcome = none) (h : EndsIn k m.step r) : EndsIn (k + 1) m r := by
  obtain ⟨N, hN, hf⟩ := h
  refine ⟨N + 1, by omega, ?_⟩
  show FinIs (if m.outcome.isSome then m else m.step.runFor N) r
  rw [ho]
  exact hf
theorem ends_exec {k : Nat} {m : M} {r} (ho : m.outcome = none) (ha : m.answer = none) (hp : m.pc < m.code.size) (h : EndsIn k m.exec r) : EndsIn (k + 1) m r := ends_step ho (by rw [step_exec ha ho hp]; exact h)
theorem EndsIn.mono {k k' : Nat} {m : M} {r} (h : EndsIn k m r) (hk : k ≤ k') : EndsIn k' m r := let ⟨N, a, b⟩ := h; ⟨N, Nat.le_trans a hk, b⟩
theorem ends_say {m : M} {y : Bool} (ho : m.outcome = none) (ha : m.answer = some y) (hf : m.frames = []) : EndsIn 1 m (if y = true then some (m.start, m.handed) else none) := by
  refine ends_step ho ⟨0, Nat.le_refl _, ?_⟩
  show FinIs m.step _
  have e : m.step = { m with outcome := some (if y then .matched else .failed) } := by
    unfold M.step
    rw [ho, ha, hf]
    rfl
  rw [e]
  cases y
  · rfl
  · exact ⟨rfl, rfl, rfl⟩

theorem step_resume {m : M} {y : Bool} {f : Sre.Frame} {rest : List Sre.Frame} (ho : m.outcome = none) (ha : m.answer = some y) (hf : m.frames = f :: rest) :
    m.step = M.resume { m with answer := none, frames := rest, weight := m.weight - (1 + f.kept.marks.size), pc := f.pc, pos := f.pos, outermost := f.outermost } f y := by
  unfold M.step
  rw [ho, ha, hf]
  rfl
def next1 (t : Array Nat) : Nat → Nat → Option (Nat × Nat)
  | 0, _ => none
  | k + 1, s => if (s == 0 || t.getD (s - 1) 0 == 10) = true ∧ s < t.size ∧ t.getD s 0 = 46 then some (s, s + 1) else if s < t.size then next1 t k (s + 1) else none
structure B1 (m : M) (code t : Array Nat) (p : Nat) : Prop where
  code : m.code = code
  text : m.text = t
  lim : m.lim = t.size
  pc : m.pc = p
  frames : m.frames = []
  answer : m.answer = none
  outcome : m.outcome = none
  whole : m.wholeText = false
  weight : m.weight = 0
  last : m.lastStart = t.size
  inner : m.inner = none
  marks : m.marks = #[]
abbrev fr (p s : Nat) (first : Bool) : Sre.Frame := { wait := .nextStart, pc := p, pos := s, outermost := first }
abbrev att (m : M) (p s : Nat) (first : Bool) : M := { m with start := s, lastmark := -1, lastindex := -1, frames := [fr p s first], weight := 1, pc := p, pos := s, handed := s, outermost := first }
theorem att_eq {m : M} {code t : Array Nat} {p : Nat} (B : B1 m code t p) (s : Nat) (first : Bool) : m.attemptAt s first = att m p s first := by
  unfold M.attemptAt M.attempt
  dsimp only
  rw [if_neg (by rw [B.weight]; decide), B.frames, B.weight, B.pc]
  rfl
/-- a start at which the match fails: the next start, or the end -/
abbrev back (m₂ : M) (p s : Nat) (first : Bool) : M := { m₂ with answer := none, frames := [], weight := m₂.weight - 1, pc := p, pos := s, outermost := first }
theorem fail_next {m₂ : M} {n s k p : Nat} {first : Bool} {r} (hm : m₂.outcome = none) (ha : m₂.answer = some false) (hf : m₂.frames = [fr p s first]) (hl : m₂.lastStart = n)
    (hn : s < n → EndsIn k (M.attemptFrom { back m₂ p s first with mustAdvance := false } (s + 1) false) r) (hz : ¬ s < n → r = none) : EndsIn (k + 3) m₂ r := by
  refine (ends_step hm ?_ : EndsIn (k + 2 + 1) m₂ r)
  rw [step_resume hm ha hf]
  unfold M.resume
  dsimp only
  rw [if_neg Bool.false_ne_true]
  by_cases h : s < n
  · rw [if_pos (by rw [hl]; exact h)]
    exact EndsIn.mono (hn h) (Nat.le_add_right k 2)
  · rw [if_neg (by rw [hl]; exact h), hz h]
    exact EndsIn.mono (ends_say (y := false) hm rfl rfl) (by omega)
theorem win {m₂ : M} {s k p : Nat} {first : Bool} (hm : m₂.outcome = none) (ha : m₂.answer = some true) (hf : m₂.frames = [fr p s first]) : EndsIn (k + 3) m₂ (some (m₂.start, m₂.handed)) := by
  refine (ends_step hm ?_ : EndsIn (k + 2 + 1) m₂ _)
  rw [step_resume hm ha hf]
  unfold M.resume
  dsimp only
  rw [if_pos rfl]
  exact EndsIn.mono (ends_say (y := true) (m := M.say _ true) hm rfl rfl) (by omega)
theorem from_no {m : M} (h : m.hasFirstSet = false) (s : Nat) (first : Bool) : m.attemptFrom s first = m.attemptAt s first := by
  unfold M.attemptFrom
  rw [h]
  rfl
theorem no_first1 {m : M} (h : m.code = C1) : m.hasFirstSet = false := by
  unfold M.hasFirstSet
  rw [h]
  rfl
theorem search1 (t : Array Nat) : ∀ (d : Nat) (m : M) (s : Nat) (first : Bool), B1 m C1 t 5 → t.size - s = d → s ≤ t.size → EndsIn (6 * d + 6) (m.attemptAt s first) (next1 t (d + 1) s) := by
  intro d
  induction d with
  | zero =>
    intro m s first B hd hs
    have hs' : ¬ s < t.size := by omega
    have hr : next1 t (0 + 1) s = none := by
      unfold next1
      rw [if_neg (fun x => hs' x.2.1), if_neg hs']
    rw [att_eq B, hr]
    refine ends_exec (k := 5) (by exact B.outcome) (by exact B.answer) (by show 5 < m.code.size; rw [B.code]; decide) ?_
    obtain ⟨sn, e⟩ := ex_at (m := att m 5 s first) (by show m.code.getD 5 0 = 6; rw [B.code]; rfl) (by show m.code.getD 6 0 = 1; rw [B.code]; rfl)
    rw [e]
    split
    · refine ends_exec (k := 4) (by exact B.outcome) (by exact B.answer) (by show 7 < m.code.size; rw [B.code]; decide) ?_
      obtain ⟨sn2, e2⟩ := ex_lit (m := { att m 5 s first with seen := sn, pc := 7 }) (by show m.code.getD 7 0 = 16; rw [B.code]; rfl)
      rw [show ({ att m 5 s first with seen := sn, pc := (att m 5 s first).pc + 2 } : M) = { att m 5 s first with seen := sn, pc := 7 } from rfl, e2, if_neg (fun x => hs' (by have := x.1; rw [show M.lim { att m 5 s first with seen := sn, pc := 7 } = t.size from B.lim] at this; exact this))]
      exact EndsIn.mono (fail_next (k := 0) (n := t.size) B.outcome rfl rfl B.last (fun h => absurd h hs') (fun _ => rfl)) (by omega)
    · exact EndsIn.mono (fail_next (k := 0) (n := t.size) B.outcome rfl rfl B.last (fun h => absurd h hs') (fun _ => rfl)) (by omega)
  | succ d ih =>
    intro m s first B hd hs
    have hs' : s < t.size := by omega
    have next : ∀ m₂ : M, B1 m₂ C1 t 5 → EndsIn (6 * d + 6) (M.attemptFrom m₂ (s + 1) false) (next1 t (d + 1) (s + 1)) := fun m₂ B₂ => by
      rw [from_no (no_first1 B₂.code)]
      exact ih m₂ (s + 1) false B₂ (by omega) (by omega)
    rw [att_eq B]
    refine ends_exec (k := 6 * (d + 1) + 5) (by exact B.outcome) (by exact B.answer) (by show 5 < m.code.size; rw [B.code]; decide) ?_
    obtain ⟨sn, e⟩ := ex_at (m := att m 5 s first) (by show m.code.getD 5 0 = 6; rw [B.code]; rfl) (by show m.code.getD 6 0 = 1; rw [B.code]; rfl)
    rw [e]
    by_cases h1 : (s == 0 || t.getD (s - 1) 0 == 10) = true
    · rw [if_pos (by show (s == 0 || m.text.getD (s - 1) 0 == 10) = true; rw [B.text]; exact h1)]
      refine ends_exec (k := 6 * (d + 1) + 4) (by exact B.outcome) (by exact B.answer) (by show 7 < m.code.size; rw [B.code]; decide) ?_
      obtain ⟨sn2, e2⟩ := ex_lit (m := { att m 5 s first with seen := sn, pc := 7 }) (by show m.code.getD 7 0 = 16; rw [B.code]; rfl)
      rw [show ({ att m 5 s first with seen := sn, pc := (att m 5 s first).pc + 2 } : M) = { att m 5 s first with seen := sn, pc := 7 } from rfl, e2]
      have hw : M.word { att m 5 s first with seen := sn, pc := 7 } 1 = 46 := by show m.code.getD 8 0 = 46; rw [B.code]; rfl
      by_cases h2 : t.getD s 0 = 46
      · rw [if_pos ⟨by show s < m.lim; rw [B.lim]; exact hs', by rw [hw]; show m.text.getD s 0 = 46; rw [B.text]; exact h2⟩]
        have hr : next1 t (d + 1 + 1) s = some (s, s + 1) := by
          unfold next1
          rw [if_pos ⟨h1, hs', h2⟩]
        rw [hr]
        refine ends_exec (k := 6 * (d + 1) + 3) (by exact B.outcome) (by exact B.answer) (by show 9 < m.code.size; rw [B.code]; decide) ?_
        obtain ⟨sn3, e3⟩ := ex_succ (m := { att m 5 s first with seen := sn2, pc := 7 + 2, pos := s + 1 }) (by show m.code.getD 9 0 = 1; rw [B.code]; rfl) B.whole (fun _ => by show s + 1 ≠ s; omega)
        rw [show ({ ({ att m 5 s first with seen := sn, pc := 7 } : M) with seen := sn2, pc := M.pc { att m 5 s first with seen := sn, pc := 7 } + 2, pos := M.pos { att m 5 s first with seen := sn, pc := 7 } + 1 } : M) = { att m 5 s first with seen := sn2, pc := 7 + 2, pos := s + 1 } from rfl, e3]
        exact EndsIn.mono (win (k := 0) B.outcome rfl rfl) (by omega)
      · rw [if_neg (fun x => h2 (by have := x.2; rw [hw] at this; rw [← B.text]; exact this))]
        have hr : next1 t (d + 1 + 1) s = next1 t (d + 1) (s + 1) := by
          conv => lhs; unfold next1
          rw [if_neg (fun x => h2 x.2.2), if_pos hs']
        rw [hr]
        refine EndsIn.mono (fail_next (k := 6 * d + 6) (n := t.size) B.outcome rfl rfl B.last (fun _ => next _ ?_) (fun h => absurd hs' h)) (by omega)
        exact ⟨B.code, B.text, B.lim, rfl, rfl, rfl, B.outcome, B.whole, rfl, B.last, B.inner, B.marks⟩
    · rw [if_neg (by show ¬ (s == 0 || m.text.getD (s - 1) 0 == 10) = true; rw [B.text]; exact h1)]
      have hr : next1 t (d + 1 + 1) s = next1 t (d + 1) (s + 1) := by
        conv => lhs; unfold next1
        rw [if_neg (fun x => h1 x.1), if_pos hs']
      rw [hr]
      refine EndsIn.mono (fail_next (k := 6 * d + 6) (n := t.size) B.outcome rfl rfl B.last (fun _ => next _ ?_) (fun h => absurd hs' h)) (by omega)
      exact ⟨B.code, B.text, B.lim, rfl, rfl, rfl, B.outcome, B.whole, rfl, B.last, B.inner, B.marks⟩

end
section
open PySem PySem.Sre
theorem for1 (t : Array Nat) (s : Nat) (must : Bool) (hs : s ≤ t.size) : EndsIn (6 * t.size + 8) (forSearch C1 t 0 s t.size must) (next1 t (t.size - s + 1) s) := by
  have e : forSearch C1 t 0 s t.size must = (if (s > t.size || decide (t.size - s < 1)) = true then M.say { code := C1, text := t, lim := t.size, start := s, pc := 5, pos := s, handed := s, marks := Array.replicate 0 none, mustAdvance := must, seen := ({} : Seen).add 14 } false
      else M.attemptFrom { code := C1, text := t, lim := t.size, start := s, pc := 5, pos := s, handed := s, marks := Array.replicate 0 none, mustAdvance := must, seen := ({} : Seen).add 14, lastStart := t.size } s true) := rfl
  rw [e]
  split
  · rename_i h
    have hn : ¬ s < t.size := by simp at h; omega
    have hr : next1 t (t.size - s + 1) s = none := by
      unfold next1
      rw [if_neg (fun x => hn x.2.1), if_neg hn]
    rw [hr]
    exact EndsIn.mono (ends_say (y := false) rfl rfl rfl) (by omega)
  · rw [from_no (no_first1 rfl)]
    exact EndsIn.mono (search1 t (t.size - s) _ s true ⟨rfl, rfl, rfl, rfl, rfl, rfl, rfl, rfl, rfl, rfl, rfl, rfl⟩ rfl hs) (by omega)

structure St (m : M) (t : Array Nat) (pc pos st : Nat) (fs : List Sre.Frame) (w : Nat) (om : Bool) (ans : Option Bool) : Prop where
  code : m.code = C2
  text : m.text = t
  lim : m.lim = t.size
  pc : m.pc = pc
  pos : m.pos = pos
  start : m.start = st
  frames : m.frames = fs
  weight : m.weight = w
  om : m.outermost = om
  answer : m.answer = ans
  outcome : m.outcome = none
  whole : m.wholeText = false
  must : m.mustAdvance = false
  lm : m.lastmark = -1
  li : m.lastindex = -1
  inner : m.inner = none
section
variable {m : M} {t : Array Nat} {pc pos st w k : Nat} {fs : List Sre.Frame} {om : Bool} {r : Option (Nat × Nat)}
theorem St.word (h : St m t pc pos st fs w om none) (i : Nat) : m.word i = C2.getD (pc + i) 0 := by
  unfold M.word
  rw [h.code, h.pc]
theorem E_lit_ok (h : St m t pc pos st fs w om none) (hc : C2.getD pc 0 = 16) (hp : pos < t.size) (hx : t.getD pos 0 = C2.getD (pc + 1) 0) (hz : pc < C2.size)
    (n : ∀ m', St m' t (pc + 2) (pos + 1) st fs w om none → EndsIn k m' r) : EndsIn (k + 1) m r := by
  refine ends_exec h.outcome h.answer (by rw [h.pc, h.code]; exact hz) ?_
  obtain ⟨sn, e⟩ := ex_lit (m := m) (by rw [h.word]; exact hc)
  rw [e, if_pos ⟨by rw [h.pos, h.lim]; exact hp, by rw [h.word, h.text, h.pos]; exact hx⟩]
  exact n _ ⟨h.code, h.text, h.lim, congrArg (· + 2) h.pc, congrArg (· + 1) h.pos, h.start, h.frames, h.weight, h.om, h.answer, h.outcome, h.whole, h.must, h.lm, h.li, h.inner⟩
theorem E_lit_no (h : St m t pc pos st fs w om none) (hc : C2.getD pc 0 = 16) (hx : ¬ (pos < t.size ∧ t.getD pos 0 = C2.getD (pc + 1) 0)) (hz : pc < C2.size)
    (n : ∀ m', St m' t pc pos st fs w om (some false) → EndsIn k m' r) : EndsIn (k + 1) m r := by
  refine ends_exec h.outcome h.answer (by rw [h.pc, h.code]; exact hz) ?_
  obtain ⟨sn, e⟩ := ex_lit (m := m) (by rw [h.word]; exact hc)
  rw [e, if_neg (fun x => hx ⟨by rw [← h.pos, ← h.lim]; exact x.1, by have := x.2; rw [h.word, h.text, h.pos] at this; exact this⟩)]
  exact n _ ⟨h.code, h.text, h.lim, h.pc, h.pos, h.start, h.frames, h.weight, h.om, rfl, h.outcome, h.whole, h.must, h.lm, h.li, h.inner⟩
theorem E_jump (h : St m t pc pos st fs w om none) (hc : C2.getD pc 0 = 15) (hz : pc < C2.size)
    (n : ∀ m', St m' t (pc + 1 + C2.getD (pc + 1) 0) pos st fs w om none → EndsIn k m' r) : EndsIn (k + 1) m r := by
  refine ends_exec h.outcome h.answer (by rw [h.pc, h.code]; exact hz) ?_
  have e : m.exec = { m with seen := m.seen.add 15, pc := m.pc + 1 + m.word 1 } := by
    unfold M.exec
    rw [show m.word 0 = 15 by rw [h.word]; exact hc]
    simp only [op15]
    rfl
  rw [e]
  exact n _ ⟨h.code, h.text, h.lim, by show m.pc + 1 + m.word 1 = _; rw [h.word, h.pc], h.pos, h.start, h.frames, h.weight, h.om, h.answer, h.outcome, h.whole, h.must, h.lm, h.li, h.inner⟩
theorem E_succ (h : St m t pc pos st fs w om none) (hc : C2.getD pc 0 = 1) (hz : pc < C2.size)
    (n : ∀ m', St m' t pc pos st fs w om (some true) → m'.handed = pos → EndsIn k m' r) : EndsIn (k + 1) m r := by
  refine ends_exec h.outcome h.answer (by rw [h.pc, h.code]; exact hz) ?_
  obtain ⟨sn, e⟩ := ex_succ (m := m) (by rw [h.word]; exact hc) h.whole (fun x => by rw [h.must] at x; cases x)
  rw [e]
  exact n _ ⟨h.code, h.text, h.lim, h.pc, h.pos, h.start, h.frames, h.weight, h.om, rfl, h.outcome, h.whole, h.must, h.lm, h.li, h.inner⟩ h.pos
abbrev kp0 : Sre.Kept := { lastmark := -1, lastindex := -1, whole := false, marks := #[] }
abbrev nbf (a p : Nat) (o : Bool) : Sre.Frame := { wait := .nextBranch, pc := a, pos := p, outermost := o, kept := kp0 }
abbrev lnf (a p : Nat) (o : Bool) : Sre.Frame := { wait := .lookNot, pc := a, pos := p, outermost := o, kept := kp0 }
theorem E_branch (h : St m t pc pos st fs w om none) (hc : C2.getD pc 0 = 7) (hz : pc < C2.size) (ha : C2.getD (pc + 1) 0 ≠ 0) (hw : w < 100)
    (n : ∀ m', St m' t (pc + 2) pos st (nbf (pc + 1) pos om :: fs) (w + 1) om none → EndsIn k m' r) : EndsIn (k + 1) m r := by
  refine ends_exec h.outcome h.answer (by rw [h.pc, h.code]; exact hz) ?_
  have hk : M.keep { m with seen := m.seen.add 7 } (Option.isSome m.inner) = kp0 := by
    unfold M.keep
    rw [h.inner, h.lm, h.li]
    rfl
  have e : m.exec = { m with seen := m.seen.add 7, frames := nbf (pc + 1) pos om :: fs, weight := w + 1, pc := pc + 2, pos := pos, handed := pos, outermost := om } := by
    unfold M.exec
    rw [show m.word 0 = 7 by rw [h.word]; exact hc]
    simp only [op7]
    rw [hk]
    unfold M.alternative
    dsimp only
    rw [h.code, h.pc, if_neg (by simpa using ha)]
    unfold M.attempt
    dsimp only
    rw [if_neg (by rw [h.weight]; show ¬ (w + 1 + 0 > 16777216); omega), h.weight, h.frames, h.pos, h.om]
    rfl
  rw [e]
  exact n _ ⟨h.code, h.text, h.lim, rfl, rfl, h.start, rfl, rfl, rfl, h.answer, h.outcome, h.whole, h.must, h.lm, h.li, h.inner⟩
theorem E_no_branch {a p : Nat} {o : Bool} (h : St m t pc pos st (nbf a p o :: fs) w om (some false)) (ha : C2.getD (a + C2.getD a 0) 0 ≠ 0) (hw : w < 100) (hw1 : 0 < w)
    (n : ∀ m', St m' t (a + C2.getD a 0 + 1) p st (nbf (a + C2.getD a 0) p o :: fs) w o none → EndsIn k m' r) : EndsIn (k + 1) m r := by
  refine ends_step h.outcome ?_
  rw [step_resume h.outcome h.answer h.frames]
  unfold M.resume M.putBack M.alternative M.attempt M.frame
  dsimp only
  rw [if_neg Bool.false_ne_true, if_neg Bool.false_ne_true, h.code, if_neg (by simpa using ha), if_neg (by rw [h.weight]; show ¬ (w - (1 + 0) + 1 + 0 > 16777216); omega)]
  exact n _ ⟨rfl, h.text, h.lim, rfl, rfl, h.start, rfl, by show m.weight - (1 + 0) + 1 + 0 = w; rw [h.weight]; omega, rfl, rfl, h.outcome, h.whole, h.must, rfl, rfl, h.inner⟩
theorem E_yes_branch {a p hd : Nat} {o : Bool} (h : St m t pc pos st (nbf a p o :: fs) w om (some true)) (hh : m.handed = hd)
    (n : ∀ m', St m' t a p st fs (w - 1) o (some true) → m'.handed = hd → EndsIn k m' r) : EndsIn (k + 1) m r := by
  refine ends_step h.outcome ?_
  rw [step_resume h.outcome h.answer h.frames]
  unfold M.resume M.putBack
  dsimp only
  rw [if_pos rfl]
  exact n _ ⟨h.code, h.text, h.lim, rfl, rfl, h.start, rfl, by show m.weight - (1 + 0) = w - 1; rw [h.weight], rfl, rfl, h.outcome, h.whole, h.must, h.lm, h.li, h.inner⟩ hh
theorem E_assert (h : St m t pc pos st fs w om none) (hc : C2.getD pc 0 = 5) (hz : pc < C2.size) (h2 : C2.getD (pc + 2) 0 = 0) (hw : w < 100)
    (n : ∀ m', St m' t (pc + 3) pos st (lnf pc pos om :: fs) (w + 1) false none → EndsIn k m' r) : EndsIn (k + 1) m r := by
  refine ends_exec h.outcome h.answer (by rw [h.pc, h.code]; exact hz) ?_
  have hk : M.keep { m with seen := m.seen.add 5 } (true && Option.isSome m.inner) = kp0 := by
    unfold M.keep
    rw [h.inner, h.lm, h.li]
    rfl
  have e : m.exec = { m with seen := m.seen.add 5, frames := lnf pc pos om :: fs, weight := w + 1, pc := pc + 3, pos := pos - 0, handed := pos - 0, outermost := false } := by
    unfold M.exec
    rw [show m.word 0 = 5 by rw [h.word]; exact hc]
    simp only [op5]
    have w2 : M.word { m with seen := m.seen.add 5 } 2 = 0 := by
      show m.word 2 = 0
      rw [h.word]; exact h2
    rw [w2, hk, if_neg (Nat.not_lt_zero _)]
    unfold M.attempt M.frame
    dsimp only
    rw [if_neg (by rw [h.weight]; show ¬ (w + 1 + 0 > 16777216); omega), h.weight, h.frames, h.pos, h.om, h.pc]
    simp
  rw [e]
  exact n _ ⟨h.code, h.text, h.lim, rfl, rfl, h.start, rfl, rfl, rfl, h.answer, h.outcome, h.whole, h.must, h.lm, h.li, h.inner⟩
theorem E_no_look {a p : Nat} {o : Bool} (h : St m t pc pos st (lnf a p o :: fs) w om (some false))
    (n : ∀ m', St m' t (a + 1 + C2.getD (a + 1) 0) p st fs (w - 1) o none → EndsIn k m' r) : EndsIn (k + 1) m r := by
  refine ends_step h.outcome ?_
  rw [step_resume h.outcome h.answer h.frames]
  unfold M.resume M.putBack M.word
  dsimp only
  rw [if_neg Bool.false_ne_true, if_neg Bool.false_ne_true, h.code]
  exact n _ ⟨rfl, h.text, h.lim, rfl, rfl, h.start, rfl, by show m.weight - (1 + 0) = w - 1; rw [h.weight], rfl, rfl, h.outcome, h.whole, h.must, rfl, rfl, h.inner⟩
theorem E_win {p s hd : Nat} {first : Bool} (h : St m t pc pos st [fr p s first] w om (some true)) (hh : m.handed = hd) : EndsIn (k + 3) m (some (st, hd)) := by
  have := win (k := k) (m₂ := m) h.outcome h.answer h.frames
  rw [h.start, hh] at this
  exact this
end

/-- the end of the match that begins at s, a feed or a return -/
def end2 (t : Array Nat) (s : Nat) : Nat := if t.getD s 0 = 13 ∧ s + 1 < t.size ∧ t.getD (s + 1) 0 = 10 then s + 2 else s + 1
theorem match2 {m : M} {t : Array Nat} {s : Nat} {first : Bool} (h : St m t 10 s s [fr 10 s first] 1 first none) (hs : s < t.size) (hx : t.getD s 0 = 10 ∨ t.getD s 0 = 13) : EndsIn 30 m (some (s, end2 t s)) := by
  refine E_branch (k := 29) h rfl (by decide) (by decide) (by omega) fun m1 h1 => ?_
  have no10 : ∀ {m : M} {pc pos st w : Nat} {fs : List Sre.Frame} {om : Bool}, St m t pc pos st fs w om none → True := fun _ => trivial
  by_cases h13 : t.getD s 0 = 13
  · refine E_lit_ok (k := 28) h1 rfl hs h13 (by decide) fun m2 h2 => ?_
    by_cases h10 : s + 1 < t.size ∧ t.getD (s + 1) 0 = 10
    · have he : end2 t s = s + 2 := by unfold end2; rw [if_pos ⟨h13, h10⟩]
      rw [he]
      refine E_lit_ok (k := 27) h2 rfl h10.1 h10.2 (by decide) fun m3 h3 => ?_
      refine E_jump (k := 26) h3 rfl (by decide) fun m4 h4 => ?_
      refine E_succ (k := 25) h4 rfl (by decide) fun m5 h5 e5 => ?_
      refine E_yes_branch (k := 24) h5 e5 fun m6 h6 e6 => ?_
      exact E_win (k := 21) h6 e6
    · have he : end2 t s = s + 1 := by unfold end2; rw [if_neg fun x => h10 x.2]
      rw [he]
      refine E_lit_no (k := 27) h2 rfl h10 (by decide) fun m3 h3 => ?_
      refine E_no_branch (k := 26) h3 (by decide) (by omega) (by omega) fun m4 h4 => ?_
      refine E_lit_no (k := 25) h4 rfl (fun x => by have := x.2; rw [h13] at this; exact absurd this (by decide)) (by decide) fun m5 h5 => ?_
      refine E_no_branch (k := 24) h5 (by decide) (by omega) (by omega) fun m6 h6 => ?_
      refine E_lit_ok (k := 23) h6 rfl hs h13 (by decide) fun m7 h7 => ?_
      refine E_assert (k := 22) h7 rfl (by decide) rfl (by omega) fun m8 h8 => ?_
      refine E_lit_no (k := 21) h8 rfl h10 (by decide) fun m9 h9 => ?_
      refine E_no_look (k := 20) h9 fun m10 h10' => ?_
      refine E_jump (k := 19) h10' rfl (by decide) fun m11 h11 => ?_
      refine E_succ (k := 18) h11 rfl (by decide) fun m12 h12 e12 => ?_
      refine E_yes_branch (k := 17) h12 e12 fun m13 h13' e13 => ?_
      exact E_win (k := 14) h13' e13
  · have h10 : t.getD s 0 = 10 := hx.resolve_right h13
    have he : end2 t s = s + 1 := by unfold end2; rw [if_neg fun x => h13 x.1]
    rw [he]
    refine E_lit_no (k := 28) h1 rfl (fun x => h13 x.2) (by decide) fun m2 h2 => ?_
    refine E_no_branch (k := 27) h2 (by decide) (by omega) (by omega) fun m3 h3 => ?_
    refine E_lit_ok (k := 26) h3 rfl hs h10 (by decide) fun m4 h4 => ?_
    refine E_jump (k := 25) h4 rfl (by decide) fun m5 h5 => ?_
    refine E_succ (k := 24) h5 rfl (by decide) fun m6 h6 e6 => ?_
    refine E_yes_branch (k := 23) h6 e6 fun m7 h7 e7 => ?_
    exact E_win (k := 20) h7 e7
def next2 (t : Array Nat) : Nat → Nat → Option (Nat × Nat)
  | 0, _ => none
  | k + 1, s => if s < t.size then (if t.getD s 0 = 10 ∨ t.getD s 0 = 13 then some (s, end2 t s) else next2 t k (s + 1)) else none
def isNl (c : Nat) : Bool := c == 10 || c == 13
theorem set2 (c : Nat) (sn : Seen) : ∃ sn', inSet C2 c C2.size 5 true sn = .ok (isNl c, sn') := by
  have e : C2.size = 33 + 3 := rfl
  rw [e]
  unfold inSet
  dsimp only
  rw [show C2.getD (5 + 0) 0 = 16 from rfl, op16]
  dsimp only
  by_cases h10 : c = 10
  · subst h10; exact ⟨_, rfl⟩
  · rw [if_neg (by show ¬ (c == 10) = true; simpa using h10)]
    unfold inSet
    dsimp only
    rw [show C2.getD (5 + 2 + 0) 0 = 16 from rfl, op16]
    dsimp only
    by_cases h13 : c = 13
    · subst h13; exact ⟨_, rfl⟩
    · rw [if_neg (by show ¬ (c == 13) = true; simpa using h13)]
      unfold inSet
      dsimp only
      rw [show C2.getD (5 + 2 + 2 + 0) 0 = 0 from rfl, show ops[0]? = some .FAILURE from rfl]
      have hn : isNl c = false := by unfold isNl; rw [beq_eq_false_iff_ne.mpr h10, beq_eq_false_iff_ne.mpr h13]; rfl
      rw [hn]
      exact ⟨_, rfl⟩
theorem adm2 (m : M) (t : Array Nat) (hc : m.code = C2) (ht : m.text = t) (hl : m.lim = t.size) : ∀ (k s : Nat) (sn : Seen), t.size - s < k → ∃ sn', M.admitted m k s sn = .ok ((next2 t k s).map (·.1), sn') := by
  intro k
  induction k with
  | zero => intro s sn h; omega
  | succ k ih =>
    intro s sn h
    unfold M.admitted next2
    by_cases hs : s < t.size
    · rw [if_neg (by rw [hl]; omega), if_pos hs, hc, ht]
      obtain ⟨sn', e⟩ := set2 (t.getD s 0) sn
      rw [e]
      by_cases hx : t.getD s 0 = 10 ∨ t.getD s 0 = 13
      · have : isNl (t.getD s 0) = true := by unfold isNl; rcases hx with x | x <;> rw [x] <;> rfl
        rw [this, if_pos hx]
        exact ⟨_, rfl⟩
      · have : isNl (t.getD s 0) = false := by
          unfold isNl
          rw [beq_eq_false_iff_ne.mpr (fun x => hx (.inl x)), beq_eq_false_iff_ne.mpr (fun x => hx (.inr x))]; rfl
        rw [this, if_neg hx]
        exact ih (s + 1) sn' (by omega)
    · rw [if_pos (by rw [hl]; omega), if_neg hs]
      exact ⟨_, rfl⟩
theorem next2_at {t : Array Nat} : ∀ {k s b e : Nat}, next2 t k s = some (b, e) → b < t.size ∧ (t.getD b 0 = 10 ∨ t.getD b 0 = 13) ∧ e = end2 t b ∧ s ≤ b := by
  intro k
  induction k with
  | zero => intro s b e h; cases h
  | succ k ih =>
    intro s b e h
    unfold next2 at h
    by_cases hs : s < t.size
    · rw [if_pos hs] at h
      by_cases hx : t.getD s 0 = 10 ∨ t.getD s 0 = 13
      · rw [if_pos hx] at h
        cases h
        exact ⟨hs, hx, rfl, Nat.le_refl _⟩
      · rw [if_neg hx] at h
        obtain ⟨a, b', c, d⟩ := ih h
        exact ⟨a, b', c, by omega⟩
    · rw [if_neg hs] at h
      cases h
theorem for2 (t : Array Nat) (s : Nat) (must : Bool) (hs : s ≤ t.size) : EndsIn 40 (forSearch C2 t 0 s t.size must) (next2 t (t.size + 1 - s) s) := by
  have e : forSearch C2 t 0 s t.size must = (if (s > t.size || decide (t.size - s < 1)) = true then M.say { code := C2, text := t, lim := t.size, start := s, pc := 10, pos := s, handed := s, marks := Array.replicate 0 none, mustAdvance := must, seen := ({} : Seen).add 14 } false
      else M.attemptFrom { code := C2, text := t, lim := t.size, start := s, pc := 10, pos := s, handed := s, marks := Array.replicate 0 none, mustAdvance := must, seen := ({} : Seen).add 14, lastStart := t.size } s true) := rfl
  rw [e]
  split
  · rename_i h
    have hn : ¬ s < t.size := by simp at h; omega
    have hr : next2 t (t.size + 1 - s) s = none := by
      cases t.size + 1 - s with
      | zero => rfl
      | succ k => unfold next2; rw [if_neg hn]
    rw [hr]
    exact EndsIn.mono (ends_say (y := false) rfl rfl rfl) (by omega)
  · unfold M.attemptFrom
    rw [show (!M.hasFirstSet { code := C2, text := t, lim := t.size, start := s, pc := 10, pos := s, handed := s, marks := Array.replicate 0 none, mustAdvance := must, seen := ({} : Seen).add 14, lastStart := t.size }) = false from rfl, if_neg Bool.false_ne_true]
    dsimp only
    obtain ⟨sn', e2⟩ := adm2 { code := C2, text := t, lim := t.size, start := s, pc := 10, pos := s, handed := s, marks := Array.replicate 0 none, mustAdvance := must, seen := ({} : Seen).add 14, lastStart := t.size } t rfl rfl rfl (t.size + 1 - s) s (({} : Seen).add 14) (by omega)
    rw [e2]
    cases hn : next2 t (t.size + 1 - s) s with
    | none => exact EndsIn.mono (ends_say (y := false) rfl rfl rfl) (by omega)
    | some be =>
      obtain ⟨b, e'⟩ := be
      obtain ⟨h1, h2, h3, _⟩ := next2_at hn
      rw [h3]
      refine EndsIn.mono (match2 (first := true) ?_ h1 h2) (by omega)
      exact ⟨rfl, rfl, rfl, rfl, rfl, rfl, rfl, rfl, rfl, rfl, rfl, rfl, rfl, rfl, rfl, rfl⟩

end
section
open PySem PySem.W PyProof.Rows PySem.Spec PySem.Calls
theorem runFor_done {m : Sre.M} (h : m.outcome.isSome = true) : ∀ n, m.runFor n = m
  | 0 => rfl
  | n + 1 => by
    show (if m.outcome.isSome = true then m else _) = m
    rw [if_pos h]
theorem runFor_add : ∀ (a b : Nat) (m : Sre.M), m.runFor (a + b) = (m.runFor a).runFor b := by
  intro a
  induction a with
  | zero => intro b m; rw [Nat.zero_add]; rfl
  | succ a ih =>
    intro b m
    have e : a + 1 + b = (a + b) + 1 := by omega
    rw [e]
    show (if m.outcome.isSome = true then m else m.step.runFor (a + b)) = (if m.outcome.isSome = true then m else m.step.runFor a).runFor b
    split
    · rename_i h; rw [runFor_done h]
    · exact ih b m.step
theorem runFor_same {m : Sre.M} {a b : Nat} (ha : (m.runFor a).outcome.isSome = true) (hb : (m.runFor b).outcome.isSome = true) : m.runFor a = m.runFor b := by
  rcases Nat.le_total a b with h | h
  · obtain ⟨c, rfl⟩ := Nat.exists_eq_add_of_le h
    rw [runFor_add, runFor_done ha]
  · obtain ⟨c, rfl⟩ := Nat.exists_eq_add_of_le h
    rw [runFor_add, runFor_done hb]
section
variable {M : Model} {A : Around} {E : Value → Shared → Prop} {s : Shared}
theorem wp_drive : ∀ (turns N : Nat) (m : Sre.M) (Q : Sre.M → Shared → Prop), (m.runFor N).outcome.isSome = true → N ≤ 4 * turns → 0 < turns → Q (m.runFor N) s → wpAny M A (Builtin.Re.reDrive turns m) Q E s := by
  intro turns
  induction turns with
  | zero => intro N m Q _ _ h; omega
  | succ turns ih =>
    intro N m Q h hN _ hq
    unfold Builtin.Re.reDrive
    dsimp only
    by_cases h4 : (m.runFor Builtin.Re.reTurnSteps).outcome.isSome = true
    · rw [if_pos h4]
      rw [runFor_same h4 h]
      exact wpAny_pure hq
    · rw [if_neg h4]
      refine wpAny_bind (wpAny_rule ?_)
      have h5 : 4 < N := by
        apply Nat.lt_of_not_le
        intro hle
        obtain ⟨c, hc⟩ := Nat.exists_eq_add_of_le hle
        refine h4 ?_
        show (m.runFor 4).outcome.isSome = true
        rw [hc, runFor_add, runFor_done h]
        exact h
      obtain ⟨c, rfl⟩ := Nat.exists_eq_add_of_le (Nat.le_of_lt h5)
      rw [runFor_add] at h hq
      exact ih c _ Q h (by omega) (by omega) hq
theorem wp_rules {f : Nat → PUnit → Sem (ForInStep PUnit)} (hf : ∀ i u (Q : ForInStep PUnit → Shared → Prop), Q (.yield PUnit.unit) s → wpAny M A (f i u) Q E s) {Q : PUnit → Shared → Prop} (h : Q PUnit.unit s) :
    ∀ l : List Nat, wpAny M A (forIn l PUnit.unit f) Q E s := by
  intro l
  induction l with
  | nil => exact wpAny_pure h
  | cons i l ih =>
    rw [List.forIn_cons]
    refine wpAny_bind (hf i _ _ ?_)
    exact ih
theorem wp_runToEnd {m : Sre.M} {k : Nat} {r : Option (Nat × Nat)} {Q : Option Sre.M → Shared → Prop} (h : EndsIn k m r) (hk : k ≤ 2 ^ 60) (hn : r = none → Q none s) (hs : ∀ b e, r = some (b, e) → ∀ m', m'.start = b → m'.handed = e → Q (some m') s) :
    wpAny M A (Builtin.Re.reRunToEnd m) Q E s := by
  obtain ⟨N, hN, hf⟩ := h
  have ho : (m.runFor N).outcome.isSome = true := by
    cases r with
    | none => rw [show (m.runFor N).outcome = some .failed from hf]; rfl
    | some be => rw [show (m.runFor N).outcome = some .matched from hf.1]; rfl
  unfold Builtin.Re.reRunToEnd
  refine wpAny_bind (wp_drive (2 ^ 64) N m _ ho (by omega) (by decide) ?_)
  refine wpAny_bind (wp_rules (fun i u Q hq => ?_) ?_ _)
  · split
    · exact wpAny_bind (wpAny_rule (wpAny_pure hq))
    · exact wpAny_bind (wpAny_pure (wpAny_pure hq))
  · cases r with
    | none =>
      rw [show (m.runFor N).outcome = some .failed from hf]
      exact wpAny_pure (hn rfl)
    | some be =>
      rw [show (m.runFor N).outcome = some .matched from hf.1]
      exact wpAny_pure (hs _ _ rfl _ hf.2.1 hf.2.2)
end

theorem slot_pat_sub : Slot "re.Pattern" "sub" "re.Pattern.sub" :=
  .of (owner := "re.Pattern") (n := "sub") (by rw [typeLookup_type, builtinLookup_eq_fast]; kernel_rfl) (by decide +kernel) (by decide +kernel) (by decide +kernel)
    (by first | exact .inl (by decide +kernel) | exact .inr (by decide +kernel)) (by rw [isSubtype_type]; kernel_rfl)
theorem type_pat_sub : typeOf (.builtin "re.Pattern.sub") = pure (.type "method_descriptor") := by show builtinType _ = _; rw [builtinType_eq_fast]; kernel_rfl
theorem entry_pat_sub : entryFor table "re.Pattern.sub" = some Builtin.«re.Pattern.sub» := entryFor_of_tree (by kernel_rfl)
theorem entry_pat_loop : entryFor table "re.Pattern.sub.loop" = some Builtin.«re.Pattern.sub.loop» := entryFor_of_tree (by kernel_rfl)
theorem plainAttrs_pat : PlainAttrs "re.Pattern" :=
  ⟨by first
    | exact ⟨"object.__getattribute__", by rw [typeLookup_type, builtinLookup_eq_fast]; kernel_rfl, by decide +kernel⟩
    | exact ⟨"re.Pattern.__getattribute__", by rw [typeLookup_type, builtinLookup_eq_fast]; kernel_rfl, by decide +kernel⟩, by rw [typeLookup_type, builtinLookup_eq_fast]; kernel_rfl⟩
theorem owner_pat : Manifest.owners.lookup (String.ofList ['n', 'r', 'e', 't', 't', 'a', 'P', '.', 'e', 'r'].reverse) = some Manifest.sig_re_Pattern := by kernel_rfl
theorem args_pat_sub (a b c : Value) : argsOk "re.Pattern.sub" ⟨[a, b, c], []⟩ := by
  unfold argsOk; rw [signature?_of (id := "re.Pattern.sub") (n := ['b', 'u', 's']) (o := ['n', 'r', 'e', 't', 't', 'a', 'P', '.', 'e', 'r']) (by kernel_rfl) owner_pat]; kernel_rfl
theorem str_no_call : typeLookup (.type "str") "__call__" = pure none := by rw [typeLookup_type, builtinLookup_eq_fast]; kernel_rfl
/-- the parts of a compiled pattern that a substitution reads -/
structure PatAt (h : Heap) (pa : Addr) (code : Array Nat) : Prop where
  obj : ∃ po vs ca co items n, h.get? pa = some po ∧ po.cls = .type "re.Pattern" ∧ po.dict = none ∧ po.data = .fields vs ∧ vs.getD 5 .none = .ref ca ∧ Builtin.Re.reRawNat (vs.getD 2 .none) = 0 ∧ Builtin.Re.reRawNat (vs.getD 6 .none) = 0 ∧
    h.get? ca = some co ∧ co.cls = .type "tuple" ∧ co.data = .seq items n ∧ (items.map Builtin.Re.reRawOf).map (·.toNat) = code
theorem PatAt.keeps {h h' : Heap} {pa : Addr} {code : Array Nat} (P : PatAt h pa code) (k : ∀ b o, h.get? b = some o → h'.get? b = some o) : PatAt h' pa code :=
  let ⟨po, vs, ca, co, items, n, e, a, b, c, d, f, g, i, i2, j, l⟩ := P.obj
  ⟨po, vs, ca, co, items, n, k _ _ e, a, b, c, d, f, g, k _ _ i, i2, j, l⟩
theorem PatAt.upd {h h' : Heap} {pa l : Addr} {code : Array Nat} {o : Obj} (P : PatAt h pa code) (hl : h.get? l = some o) (hc : o.cls = .type "list") (k : ∀ b o, b ≠ l → h.get? b = some o → h'.get? b = some o) : PatAt h' pa code := by
  obtain ⟨po, vs, ca, co, items, n, e, a, b, c, d, f, g, i, i2, j, z⟩ := P.obj
  have h1 : pa ≠ l := fun q => by rw [q, hl] at e; cases e; rw [hc] at a; exact absurd a (by decide)
  have h2 : ca ≠ l := fun q => by rw [q, hl] at i; cases i; rw [hc] at i2; exact absurd i2 (by decide)
  exact ⟨po, vs, ca, co, items, n, k _ _ h1 e, a, b, c, d, f, g, k _ _ h2 i, i2, j, z⟩
section
variable {M : Model} {A : Around} {E : Value → Shared → Prop} {s : Shared} {pa : Addr} {code : Array Nat} {x : Str} {t : Tok}
theorem wp_target {Q : Builtin.Re.ReTarget → Shared → Prop} (P : PatAt s.heap pa code) (h : Q { pattern := .ref pa, string := .str x t, code := code, text := x.cps, kind := 0, groups := 0, pos := 0, lim := x.cps.size } s) :
    wpAny M A (Builtin.Re.reWholeTarget (.ref pa) (.str x t)) Q E s := by
  obtain ⟨po, vs, ca, co, items, n, e, _, _, c, d, f, g, i, _, j, l⟩ := P.obj
  unfold Builtin.Re.reWholeTarget
  refine wpAny_bind (wpAny_fieldsOf e c ?_)
  unfold Builtin.Re.reTextOf asStr?
  refine wpAny_bind (wpAny_bind (wpAny_pure (wpAny_pure ?_)))
  dsimp only
  rw [g, if_neg (by decide)]
  refine wpAny_bind (wpAny_pure ?_)
  unfold Builtin.Re.reRawItems
  rw [d]
  refine wpAny_bind (wpAny_bind (wpAny_seqItems i j (wpAny_pure ?_)))
  refine wpAny_pure ?_
  rw [f]
  show Q { pattern := .ref pa, string := .str x t, code := (items.map Builtin.Re.reRawOf).map (·.toNat), text := x.cps, kind := 0, groups := 0, pos := 0, lim := x.cps.size } s
  rw [l]
  exact h
end

end
section
open PySem PySem.W PyProof.Rows PySem.Spec PySem.Calls
/-- what a substitution makes of a text from place p on -/
inductive Subs (nx : Nat → Option (Nat × Nat)) (x y : Array Nat) : Nat → List Nat → Prop
  | stop {p : Nat} : nx p = none → p ≤ x.size → Subs nx x y p (x.toList.drop p)
  | go {p b e : Nat} {r : List Nat} : nx p = some (b, e) → p ≤ b → b < e → e ≤ x.size → Subs nx x y e r → Subs nx x y p ((x.toList.drop p).take (b - p) ++ y.toList ++ r)
def catOf (ps : List (Str × Tok)) : List Nat := ps.flatMap fun p => p.1.cps.toList
section
variable {prog : Program} {w : World} {A : Around} {E : Value → Shared → Prop} {s : Shared} {l : Addr}
theorem wp_piece {ps : List (Str × Tok)} {ne : Nat} {z : Str} {tz : Tok} {Q : Unit → Shared → Prop} (hl : s.heap.get? l = some (listOf (strValues ps).toArray ne)) (hn : ps.length ≤ 4000000)
    (h : ∀ h' ne', h'.get? l = some (listOf (strValues (ps ++ [(z, tz)])).toArray ne') → (∀ b o, b ≠ l → s.heap.get? b = some o → h'.get? b = some o) → Q () { s with heap := h' }) :
    wpAny (model prog w) A (updateSeq l fun xs => xs.push (.str z tz)) Q E s := by
  have hsz : (strValues ps).toArray.size = ps.length := by simp [strValues]
  refine wpAny_updateSeq hl rfl ?_ (by rw [hsz, sizeLine_eq]; omega) (by rw [Array.size_push, hsz, sizeLine_eq]; omega)
  have hs : Heap.SameBut l s.heap (s.heap.update l (Obj.mapSeq fun xs => xs.push (.str z tz))) := Heap.SameBut.update ..
  have hf := Heap.get?_update_self (Obj.mapSeq fun xs => xs.push (.str z tz)) hl rfl
  refine h _ (if ((strValues ps).toArray.push (.str z tz)).size = (strValues ps).toArray.size then ne else ne + 1) ?_ fun b o hb e => (hs.2 b hb).trans e
  rw [hf]
  simp [Obj.mapSeq, strValues]
theorem wp_slice {x : Array Nat} {b e : Nat} {Q : Value → Shared → Prop} (hx : x.size ≤ 1000000) (h : ∀ t, Q (.str ⟨x.extract b e⟩ t) { s with toks := s.toks + 1 }) :
    wpAny (model prog w) A (Builtin.Re.reSlice x 0 b e) Q E s := by
  unfold Builtin.Re.reSlice
  rw [if_pos (by decide)]
  refine wpAny_mkStr (h _) ?_
  show (x.extract b e).size ≤ sizeLine
  rw [Array.size_extract, sizeLine_eq]; omega
end
section
variable {prog : Program} {w : World} {A : Around} {R : Result → Shared → Prop} {pa l : Addr} {code : Array Nat} {x y : Str} {tx ty : Tok} {nx : Nat → Option (Nat × Nat)}
theorem wp_lit {s : Shared} {E : Value → Shared → Prop} {Q : Unit → Shared → Prop} (h : Q () s) : wpAny (model prog w) A (Builtin.Re.reLiteralCannotBeTurned (.str y ty)) Q E s := by
  unfold Builtin.Re.reLiteralCannotBeTurned asStr?
  refine wpAny_bind (wpAny_pure ?_)
  rw [if_neg (by simp)]
  exact wpAny_pure h
theorem cat_snoc (ps : List (Str × Tok)) (z : Str) (tz : Tok) : catOf (ps ++ [(z, tz)]) = catOf ps ++ z.cps.toList := by simp [catOf]
theorem glued_cat (l : List Str) : (Builtin.Str.glued ⟨#[]⟩ l).cps.toList = l.flatMap fun p => p.cps.toList := by
  unfold Builtin.Str.glued
  cases l with
  | nil => rfl
  | cons a r =>
    have key : ∀ (r : List Str) (acc : Array Nat), (r.foldl (fun acc p => acc ++ #[] ++ p.cps) acc).toList = acc.toList ++ r.flatMap fun p => p.cps.toList := by
      intro r
      induction r with
      | nil => intro acc; simp
      | cons b r ih => intro acc; rw [List.foldl_cons, ih]; simp
    show (r.foldl (fun acc p => acc ++ #[] ++ p.cps) a.cps).toList = _
    rw [key]
    simp
theorem sum_len (l : List Str) : ∀ n : Nat, l.toArray.foldl (fun a z => a + z.length + (Str.mk #[]).length) n = n + (l.flatMap fun p => p.cps.toList).length := by
  induction l with
  | nil => intro n; simp
  | cons a r ih =>
    intro n
    have := ih (n + a.length + (Str.mk #[]).length)
    simp only [List.foldl_toArray, List.foldl_cons] at this ⊢
    rw [this]
    simp only [List.flatMap_cons, List.length_append, Array.length_toList]
    show n + a.cps.size + 0 + _ = _
    omega
theorem wp_join {s : Shared} {E : Value → Shared → Prop} {ps : List (Str × Tok)} {ne : Nat} {t : Tok} {Q : Value → Shared → Prop} (hl : s.heap.get? l = some (listOf (strValues ps).toArray ne)) (hn : (catOf ps).length ≤ 1000000)
    (h : ∀ z tz tk, z.cps.toList = catOf ps → Q (.str z tz) { s with toks := tk }) : wpAny (model prog w) A (call (.builtin "str.join") [.str ⟨#[]⟩ t, .ref l]) Q E s := by
  have hz : Builtin.Str.tooLong ((ps.map (·.1)).toArray.foldl (fun a z => a + z.length + (Str.mk #[]).length) 0) = false := by
    rw [sum_len]
    unfold Builtin.Str.tooLong
    rw [sizeLine_eq]
    have : ((ps.map (·.1)).flatMap fun p => p.cps.toList) = catOf ps := by simp [catOf, List.flatMap_map]
    rw [this]
    exact decide_eq_false (by omega)
  refine call_meets PySem.F.slot_str_join (typeIs_str s _ t) PySem.F.entry_str_join (PySem.F.args_str_join_2 _ _) (meets_str_join_list ⟨#[]⟩ t l ps hz) ⟨⟨_, hl, rfl, ne, rfl⟩, ?_⟩
  have fin : ∀ l' : List Str, (l'.flatMap fun p => p.cps.toList) = catOf ps → (Builtin.Str.glued ⟨#[]⟩ l').length ≤ sizeLine := fun l' e => by
    have e1 := glued_cat l'
    show (Builtin.Str.glued ⟨#[]⟩ l').cps.size ≤ sizeLine
    rw [← Array.length_toList, e1, e, sizeLine_eq]; omega
  match ps, h, fin with
  | [], h, fin => exact ⟨fin [] rfl, h _ _ _ (glued_cat [])⟩
  | [p], h, _ => exact h p.1 p.2 s.toks (by simp [catOf])
  | p :: q :: r, h, fin =>
    have e : (((p :: q :: r).map (·.1)).flatMap fun p => p.cps.toList) = catOf (p :: q :: r) := by simp [catOf, List.flatMap_map]
    exact ⟨fin _ e, h _ _ _ ((glued_cat _).trans e)⟩
theorem subloop (hx : x.cps.size ≤ 1000000) (hs : ∀ p must, p ≤ x.cps.size → ∃ k, k ≤ 2 ^ 60 ∧ EndsIn k (Sre.forSearch code x.cps 0 p x.cps.size must) (nx p)) :
    ∀ {p : Nat} {r : List Nat}, Subs nx x.cps y.cps p r → ∀ (s : Shared) (ps : List (Str × Tok)) (n : Int) (must : Bool) (ne : Nat),
      PatAt s.heap pa code → s.heap.get? l = some (listOf (strValues ps).toArray ne) → ps.length ≤ 2 * p → p ≤ x.cps.size → (catOf ps ++ r).length ≤ 1000000 →
      (∀ z tz h' tk', z.cps.toList = catOf ps ++ r → (∀ b o, b ≠ l → s.heap.get? b = some o → h'.get? b = some o) → R (.ok (.ret (.str z tz))) { s with heap := h', toks := tk' }) →
      codeAny (model prog w) A (.builtin "re.Pattern.sub.loop" ⟨[.ref pa, .str x tx, .str y ty, rawInt 0, rawInt 0, rawInt n, rawInt p, rawInt p, .bool must, .ref l, .bool false], []⟩) R s := by
  intro p r hS
  induction hS with
  | @stop p h1 h2 =>
    intro s ps n must ne P hl hlen hp htot ret
    refine codeAny_builtin entry_pat_loop ?_
    unfold Builtin.«re.Pattern.sub.loop»
    dsimp only [rawInt]
    refine wpAny_bind (wp_target P ?_)
    rw [if_pos (by decide)]
    refine wpAny_bind (wp_lit ?_)
    refine wpAny_bind ?_
    rw [if_neg (by simp)]
    unfold Builtin.Re.reNextFound
    dsimp only
    rw [Int.toNat_natCast]
    obtain ⟨k, hk, he⟩ := hs p must h2
    refine wp_runToEnd he hk (fun _ => ?_) (fun b e h => by rw [h1] at h; cases h)
    dsimp only
    have last : ∀ (s' : Shared) (ps' : List (Str × Tok)) (ne' : Nat), s'.heap.get? l = some (listOf (strValues ps').toArray ne') → catOf ps' = catOf ps ++ x.cps.toList.drop p → (∃ h tk, s' = { s with heap := h, toks := tk } ∧ ∀ b o, b ≠ l → s.heap.get? b = some o → h.get? b = some o) →
        wpAny (model prog w) (A.under (.builtin "re.Pattern.sub.loop" ⟨[.ref pa, .str x tx, .str y ty, .int 0 0, .int 0 0, .int n 0, .int p 0, .int p 0, .bool must, .ref l, .bool false], []⟩))
          (Builtin.Re.reSlice x.cps 0 0 0 >>= fun joiner => (do
            let text ← if ((← seqItems? (.ref l)).getD #[]).isEmpty then pure joiner else call (.builtin "str.join") [joiner, .ref l]
            PySem.ret text))
          (fun fin s' => match fin with | .done f => R (.ok f) s' | .again c' => c'.quiet = true ∧ codeAny (model prog w) A c' R s') (fun e s' => R (.error e) s') s' := by
      rintro s' ps' ne' hl' hc ⟨h, tk, rfl, hk⟩
      refine wpAny_bind (wp_slice hx fun t => ?_)
      refine wpAny_bind (wpAny_seqItems hl' rfl ?_)
      dsimp only
      have e0 : (⟨x.cps.extract 0 0⟩ : Str) = ⟨#[]⟩ := by simp
      rw [e0]
      split
      · rename_i hem
        have hps : ps' = [] := by
          have : (strValues ps').toArray.isEmpty = true := hem
          simpa [strValues] using this
        subst hps
        refine wpAny_bind (wpAny_pure (wpAny_pure ?_))
        exact ret _ _ _ _ (by rw [← hc]; rfl) hk
      · refine wpAny_bind (wp_join hl' (by rw [hc]; exact htot) fun z tz tk' hz => ?_)
        exact wpAny_pure (ret z tz h tk' (hz.trans hc) hk)
    split
    · rename_i hlt
      refine wpAny_bind (wp_slice hx fun t => ?_)
      refine wpAny_bind (wp_piece hl (by omega) fun h' ne' hl' hk' => ?_)
      refine last _ (ps ++ [(⟨x.cps.extract p x.cps.size⟩, t)]) ne' hl' ?_ ⟨h', _, rfl, hk'⟩
      rw [cat_snoc]
      congr 1
      simp
      exact List.take_of_length_le (by simp)
    · rename_i hlt
      refine last s ps ne hl ?_ ⟨s.heap, s.toks, rfl, fun b o _ e => e⟩
      have : x.cps.toList.drop p = [] := List.drop_of_length_le (by rw [Array.length_toList]; omega)
      rw [this, List.append_nil]
  | @go p b e r h1 h2 h3 h4 hS ih =>
    intro s ps n must ne P hl hlen hp htot ret
    refine codeAny_builtin entry_pat_loop ?_
    unfold Builtin.«re.Pattern.sub.loop»
    dsimp only [rawInt]
    refine wpAny_bind (wp_target P ?_)
    rw [if_pos (by decide)]
    refine wpAny_bind (wp_lit ?_)
    refine wpAny_bind ?_
    rw [if_neg (by simp)]
    unfold Builtin.Re.reNextFound
    dsimp only
    rw [Int.toNat_natCast]
    obtain ⟨k, hk, he⟩ := hs p must hp
    refine wp_runToEnd he hk (fun h => by rw [h1] at h; cases h) (fun b' e' h m' hm1 hm2 => ?_)
    rw [h1] at h; cases h
    dsimp only
    rw [hm1, hm2]
    have next : ∀ (s' : Shared) (ps' : List (Str × Tok)) (ne' : Nat), s'.heap.get? l = some (listOf (strValues ps').toArray ne') → catOf ps' = catOf ps ++ (x.cps.toList.drop p).take (b - p) → ps'.length ≤ 2 * p + 1 → (∃ h tk, s' = { s with heap := h, toks := tk } ∧ ∀ b o, b ≠ l → s.heap.get? b = some o → h.get? b = some o) →
        wpAny (model prog w) (A.under (.builtin "re.Pattern.sub.loop" ⟨[.ref pa, .str x tx, .str y ty, .int 0 0, .int 0 0, .int n 0, .int p 0, .int p 0, .bool must, .ref l, .bool false], []⟩))
          (updateSeq l (fun xs => xs.push (.str y ty)) >>= fun _ => again (.builtin "re.Pattern.sub.loop" ⟨[.ref pa, .str x tx, .str y ty, .int 0 0, .int 0 0, .int (n + 1) 0, .int e 0, .int e 0, .bool (e == b), .ref l, .bool false], []⟩))
          (fun fin s' => match fin with | .done f => R (.ok f) s' | .again c' => c'.quiet = true ∧ codeAny (model prog w) A c' R s') (fun e s' => R (.error e) s') s' := by
      rintro s' ps' ne' hl' hc hn ⟨h, tk, rfl, hk⟩
      refine wpAny_bind (wp_piece hl' (by omega) fun h2 ne2 hl2 hk2 => ?_)
      refine wpAny_pure ⟨plainId_quiet (by decide +kernel) _, ?_⟩
      refine ih _ (ps' ++ [(y, ty)]) (n + 1) _ ne2 (P.upd hl rfl fun b o hb e => hk2 b o hb (hk b o hb e)) hl2 (by rw [List.length_append]; simp; omega) h4 (by rw [cat_snoc, hc]; simpa using htot) fun z tz h3 tk3 hz hk3 => ?_
      exact ret z tz h3 tk3 (by rw [hz, cat_snoc, hc]; simp) fun b o hb e => hk3 b o hb (hk2 b o hb (hk b o hb e))
    split
    · rename_i hlt
      refine wpAny_bind (wp_slice hx fun t => ?_)
      refine wpAny_bind (wp_piece hl (by omega) fun h' ne' hl' hk' => ?_)
      rw [if_pos (by decide)]
      refine wpAny_bind (wpAny_pure ?_)
      rw [if_pos (by simp)]
      refine next _ (ps ++ [(⟨x.cps.extract p b⟩, t)]) ne' hl' ?_ (by rw [List.length_append]; simp; omega) ⟨h', _, rfl, hk'⟩
      rw [cat_snoc]
      congr 1
      simp [List.take_drop]
    · rename_i hlt
      rw [if_pos (by decide)]
      refine wpAny_bind (wpAny_pure ?_)
      rw [if_pos (by simp)]
      refine next s ps ne hl ?_ (by omega) ⟨s.heap, s.toks, rfl, fun b o _ e => e⟩
      have : b - p = 0 := by omega
      rw [this, List.take_zero, List.append_nil]
end

end
section
open PySem PySem.W PyProof.Rows PySem.Spec PySem.Calls
section
variable {prog : Program} {w : World} {A : Around} {E : Value → Shared → Prop} {s : Shared} {pa : Addr} {code : Array Nat} {x y : Str} {tx ty : Tok} {nx : Nat → Option (Nat × Nat)}
theorem named_sub {M : Model} {A : Around} (a b : Value) {Q : List (Option Value) → Shared → Prop} (h : Q [some a, some b, none] s) :
    wpAny M A (Builtin.Re.reNamed "re.Pattern.sub" "sub" ["repl", "string", "count"] 2 [a, b] []) Q E s := by
  have e : Builtin.Re.reNamed "re.Pattern.sub" "sub" ["repl", "string", "count"] 2 [a, b] [] = pure [some a, some b, none] := by kernel_rfl
  rw [e]
  exact wpAny_pure h
theorem wp_sub {r : List Nat} {Q : Value → Shared → Prop} (hx : x.cps.size ≤ 1000000) (hy : y.cps.contains 92 = false) (hs : ∀ p must, p ≤ x.cps.size → ∃ k, k ≤ 2 ^ 60 ∧ EndsIn k (Sre.forSearch code x.cps 0 p x.cps.size must) (nx p))
    (P : PatAt s.heap pa code) (S : Subs nx x.cps y.cps 0 r) (hr : r.length ≤ 1000000)
    (h : ∀ z tz h' tk', z.cps.toList = r → (∀ b o, s.heap.get? b = some o → h'.get? b = some o) → Q (.str z tz) { s with heap := h', toks := tk' }) :
    wpAny (model prog w) A (call (.builtin "re.Pattern.sub") [.ref pa, .str y ty, .str x tx]) Q E s := by
  have hT : s.TypeIs (.ref pa) "re.Pattern" := by
    obtain ⟨po, vs, ca, co, items, n, e, a, _⟩ := P.obj
    exact ⟨_, e, a⟩
  refine wpAny_call (codeAny_call_builtin slot_pat_sub.plain entry_pat_sub (slot_pat_sub.check _ _ _ _ _ _ _ _ hT (args_pat_sub _ _ _) ?_))
  unfold Builtin.«re.Pattern.sub» Builtin.Re.reSubstitute
  dsimp only
  refine wpAny_bind (named_sub _ _ ?_)
  dsimp only
  refine wpAny_bind (wpAny_pure ?_)
  refine wpAny_bind (wpAny_specialOf_val (typeIs_str s y ty) str_no_call ?_)
  dsimp only [Option.isSome]
  unfold asStr?
  refine wpAny_bind (wpAny_pure ?_)
  dsimp only
  refine wpAny_bind (wpAny_pure ?_)
  rw [if_neg (by decide), hy, if_pos (by decide)]
  refine wpAny_bind (wpAny_pure ?_)
  dsimp only
  refine wpAny_bind (wpAny_holding ?_)
  refine wp_target P ?_
  rw [if_neg (by decide)]
  refine wpAny_bind (wpAny_newList ?_)
  have hgr : ∀ b o, s.heap.get? b = some o → (s.heap.push { cls := .type "list", data := .seq #[] }).get? b = some o := fun b o e => (Heap.get?_push_ne _ _ _ (Nat.ne_of_lt (Heap.lt_size e))).trans e
  refine wpAny_pure ⟨plainId_quiet (by decide +kernel) _, ?_⟩
  refine subloop hx hs S _ [] 0 false 0 (P.keeps hgr) (by simp [Heap.get?, Heap.push]; rfl) (Nat.zero_le _) (Nat.zero_le _) hr fun z tz h' tk' hz hk => ?_
  refine h z tz h' tk' (hz.trans (by rfl)) fun b o e => hk b o (Nat.ne_of_lt (Heap.lt_size e)) (hgr b o e)
end

end
section
open PySem PySem.W PyProof.Rows PySem.Spec PySem.Calls
def sub2 : List Nat → List Nat
  | [] => []
  | [c] => if c = 10 ∨ c = 13 then [13, 10] else [c]
  | c :: d :: r => if c = 13 ∧ d = 10 then 13 :: 10 :: sub2 r else if c = 10 ∨ c = 13 then 13 :: 10 :: sub2 (d :: r) else c :: sub2 (d :: r)
def sub1 : Bool → List Nat → List Nat
  | _, [] => []
  | st, c :: r => if st = true ∧ c = 46 then 46 :: 46 :: sub1 false r else c :: sub1 (c == 10) r
theorem sub1_hit {b : Bool} {c : Nat} {r : List Nat} (h : b = true ∧ c = 46) : sub1 b (c :: r) = 46 :: 46 :: sub1 false r := by
  rw [sub1, if_pos h]
theorem sub1_miss {b : Bool} {c : Nat} {r : List Nat} (h : ¬ (b = true ∧ c = 46)) : sub1 b (c :: r) = c :: sub1 (c == 10) r := by
  rw [sub1, if_neg h]
theorem sub2_both {c d : Nat} {r : List Nat} (h : c = 13 ∧ d = 10) : sub2 (c :: d :: r) = 13 :: 10 :: sub2 r := by
  rw [sub2, if_pos h]
theorem sub2_hit {c d : Nat} {r : List Nat} (h : ¬ (c = 13 ∧ d = 10)) (h2 : c = 10 ∨ c = 13) : sub2 (c :: d :: r) = 13 :: 10 :: sub2 (d :: r) := by
  rw [sub2, if_neg h, if_pos h2]
theorem sub2_miss {c : Nat} {r : List Nat} (h2 : ¬ (c = 10 ∨ c = 13)) : sub2 (c :: r) = c :: sub2 r := by
  cases r with
  | nil =>
    have e : sub2 [c] = if c = 10 ∨ c = 13 then [13, 10] else [c] := by simp only [sub2]
    rw [e, if_neg h2]; rfl
  | cons d r => rw [sub2, if_neg (fun q => h2 (.inr q.1)), if_neg h2]
theorem sub2_hit1 {c : Nat} (h2 : c = 10 ∨ c = 13) : sub2 [c] = 13 :: 10 :: sub2 [] := by
  have e : sub2 [c] = if c = 10 ∨ c = 13 then [13, 10] else [c] := by simp only [sub2]
  rw [e, if_pos h2]; rfl
theorem drop_at {t : Array Nat} {p : Nat} (h : p < t.size) : t.toList.drop p = t.getD p 0 :: t.toList.drop (p + 1) := by
  rw [List.drop_eq_getElem_cons (by simpa using h)]
  congr 1
  simp [Array.getD, h]
theorem Subs.skip {nx : Nat → Option (Nat × Nat)} {x y : Array Nat} {p : Nat} {r : List Nat} (hp : p < x.size) (h : nx p = nx (p + 1)) (S : Subs nx x y (p + 1) r) : Subs nx x y p (x.getD p 0 :: r) := by
  cases S with
  | stop h1 h2 => rw [← drop_at hp]; exact .stop (h.trans h1) (Nat.le_of_lt hp)
  | @go _ b e r h1 h2 h3 h4 S =>
    have := Subs.go (h.trans h1) (by omega) h3 h4 S
    have e1 : b - p = (b - (p + 1)) + 1 := by omega
    rw [drop_at hp, e1, List.take_succ_cons] at this
    exact this
def nx1 (t : Array Nat) (p : Nat) : Option (Nat × Nat) := next1 t (t.size - p + 1) p
def nx2 (t : Array Nat) (p : Nat) : Option (Nat × Nat) := next2 t (t.size + 1 - p) p
theorem nx1_end (t : Array Nat) {p : Nat} (h : t.size ≤ p) : nx1 t p = none := by
  unfold nx1 next1
  rw [if_neg (by omega), if_neg (by omega)]
theorem nx1_hit {t : Array Nat} {p : Nat} (h : p < t.size) (hs : (p == 0 || t.getD (p - 1) 0 == 10) = true) (h46 : t.getD p 0 = 46) : nx1 t p = some (p, p + 1) := by
  unfold nx1 next1
  rw [if_pos ⟨hs, h, h46⟩]
theorem nx1_miss {t : Array Nat} {p : Nat} (h : p < t.size) (hn : ¬ ((p == 0 || t.getD (p - 1) 0 == 10) = true ∧ t.getD p 0 = 46)) : nx1 t p = nx1 t (p + 1) := by
  have e : t.size - p + 1 = (t.size - (p + 1) + 1) + 1 := by omega
  unfold nx1
  rw [e]
  conv => lhs; unfold next1
  rw [if_neg (fun q => hn ⟨q.1, q.2.2⟩), if_pos h]
theorem nx2_end (t : Array Nat) {p : Nat} (h : t.size ≤ p) : nx2 t p = none := by
  unfold nx2
  rcases Nat.eq_or_lt_of_le h with h | h
  · rw [show t.size + 1 - p = 0 + 1 by omega]
    unfold next2
    rw [if_neg (by omega)]
  · rw [show t.size + 1 - p = 0 by omega]; rfl
theorem nx2_hit {t : Array Nat} {p : Nat} (h : p < t.size) (hc : t.getD p 0 = 10 ∨ t.getD p 0 = 13) : nx2 t p = some (p, end2 t p) := by
  unfold nx2
  rw [show t.size + 1 - p = (t.size - p) + 1 by omega]
  unfold next2
  rw [if_pos h, if_pos hc]
theorem nx2_miss {t : Array Nat} {p : Nat} (h : p < t.size) (hn : ¬ (t.getD p 0 = 10 ∨ t.getD p 0 = 13)) : nx2 t p = nx2 t (p + 1) := by
  unfold nx2
  rw [show t.size + 1 - p = (t.size + 1 - (p + 1)) + 1 by omega]
  conv => lhs; unfold next2
  rw [if_pos h, if_neg hn]
theorem subs1 (t : Array Nat) : ∀ (d p : Nat), t.size - p = d → p ≤ t.size → Subs (nx1 t) t #[46, 46] p (sub1 (p == 0 || t.getD (p - 1) 0 == 10) (t.toList.drop p)) := by
  intro d
  induction d with
  | zero =>
    intro p hd hp
    have e : t.toList.drop p = [] := List.drop_of_length_le (by rw [Array.length_toList]; omega)
    have := Subs.stop (x := t) (y := #[46, 46]) (nx1_end t (p := p) (by omega)) hp
    rw [e] at this ⊢
    exact this
  | succ d ih =>
    intro p hd hp
    have hlt : p < t.size := by omega
    have hi := ih (p + 1) (by omega) hlt
    rw [show (p + 1 == 0 || t.getD (p + 1 - 1) 0 == 10) = (t.getD p 0 == 10) by simp] at hi
    rw [drop_at hlt]
    by_cases h : (p == 0 || t.getD (p - 1) 0 == 10) = true ∧ t.getD p 0 = 46
    · rw [sub1_hit h]
      rw [show (t.getD p 0 == 10) = false by rw [h.2]; rfl] at hi
      have := Subs.go (y := #[46, 46]) (nx1_hit hlt h.1 h.2) (Nat.le_refl p) (Nat.lt_succ_self p) hlt hi
      rw [Nat.sub_self, List.take_zero] at this
      exact this
    · rw [sub1_miss h]
      exact Subs.skip hlt (nx1_miss hlt h) hi
theorem subs2 (t : Array Nat) : ∀ (d p : Nat), t.size - p ≤ d → p ≤ t.size → Subs (nx2 t) t #[13, 10] p (sub2 (t.toList.drop p)) := by
  have stop : ∀ p, p ≤ t.size → t.size - p ≤ 0 → Subs (nx2 t) t #[13, 10] p (sub2 (t.toList.drop p)) := by
    intro p hp hd
    have e : t.toList.drop p = [] := List.drop_of_length_le (by rw [Array.length_toList]; omega)
    have := Subs.stop (x := t) (y := #[13, 10]) (nx2_end t (p := p) (by omega)) hp
    rw [e] at this ⊢
    exact this
  intro d
  induction d with
  | zero => intro p hd hp; exact stop p hp hd
  | succ d ih =>
    intro p hd hp
    by_cases hlt : p < t.size
    · have hi := ih (p + 1) (by omega) hlt
      have one : t.getD p 0 = 10 ∨ t.getD p 0 = 13 → end2 t p = p + 1 → Subs (nx2 t) t #[13, 10] p (13 :: 10 :: sub2 (t.toList.drop (p + 1))) := by
        intro hc he
        have hx := nx2_hit hlt hc
        rw [he] at hx
        have := Subs.go (y := #[13, 10]) hx (Nat.le_refl p) (Nat.lt_succ_self p) hlt hi
        rw [Nat.sub_self, List.take_zero] at this
        exact this
      rw [drop_at hlt]
      by_cases hlt2 : p + 1 < t.size
      · rw [drop_at hlt2] at hi one ⊢
        by_cases h : t.getD p 0 = 13 ∧ t.getD (p + 1) 0 = 10
        · rw [sub2_both h]
          have hx := nx2_hit hlt (.inr h.1)
          have he : end2 t p = p + 2 := by unfold end2; rw [if_pos ⟨h.1, hlt2, h.2⟩]
          rw [he] at hx
          have := Subs.go (y := #[13, 10]) hx (Nat.le_refl p) (by omega) hlt2 (ih (p + 2) (by omega) hlt2)
          rw [Nat.sub_self, List.take_zero] at this
          exact this
        · have he : end2 t p = p + 1 := by unfold end2; rw [if_neg (fun q => h ⟨q.1, q.2.2⟩)]
          by_cases hc : t.getD p 0 = 10 ∨ t.getD p 0 = 13
          · rw [sub2_hit h hc]; exact one hc he
          · rw [sub2_miss hc]; exact Subs.skip hlt (nx2_miss hlt hc) hi
      · have e : t.toList.drop (p + 1) = [] := List.drop_of_length_le (by rw [Array.length_toList]; omega)
        have he : end2 t p = p + 1 := by unfold end2; rw [if_neg (fun q => hlt2 q.2.1)]
        rw [e] at hi one ⊢
        by_cases hc : t.getD p 0 = 10 ∨ t.getD p 0 = 13
        · rw [sub2_hit1 hc]; exact one hc he
        · rw [sub2_miss hc]; exact Subs.skip hlt (nx2_miss hlt hc) hi
    · exact stop p hp (by omega)
theorem sub1_len : ∀ (l : List Nat) (b : Bool), (sub1 b l).length ≤ 2 * l.length := by
  intro l
  induction l with
  | nil => intro b; exact Nat.le_refl _
  | cons c r ih =>
    intro b
    unfold sub1
    split
    · have := ih false; simp only [List.length_cons]; omega
    · have := ih (c == 10); simp only [List.length_cons]; omega
theorem sub2_len : ∀ (n : Nat) (l : List Nat), l.length ≤ n → (sub2 l).length ≤ 2 * l.length := by
  intro n
  induction n with
  | zero => intro l h; cases l with
    | nil => exact Nat.le_refl _
    | cons a r => simp at h
  | succ n ih =>
    intro l h
    match l, h with
    | [], _ => exact Nat.le_refl _
    | [c], _ => unfold sub2; split <;> simp
    | c :: d :: r, h =>
      have h1 := ih r (by simp at h; omega)
      have h2 := ih (d :: r) (by simp at h ⊢; omega)
      unfold sub2
      split
      · simp only [List.length_cons] at *; omega
      · split
        · simp only [List.length_cons] at *; omega
        · simp only [List.length_cons] at *; omega
section
variable {prog : Program} {w : World} {A : Around} {E : Value → Shared → Prop} {s : Shared} {pa : Addr} {x : Str} {tx ty : Tok}
theorem wp_sub2 {Q : Value → Shared → Prop} (hx : x.cps.size ≤ 1000) (P : PatAt s.heap pa C2)
    (h : ∀ z tz h' tk', z.cps.toList = sub2 x.cps.toList → (∀ b o, s.heap.get? b = some o → h'.get? b = some o) → Q (.str z tz) { s with heap := h', toks := tk' }) :
    wpAny (model prog w) A (call (.builtin "re.Pattern.sub") [.ref pa, .str ⟨#[13, 10]⟩ ty, .str x tx]) Q E s :=
  wp_sub (nx := nx2 x.cps) (by omega) (by decide +kernel) (fun p must hp => ⟨40, by decide, for2 x.cps p must hp⟩) P (subs2 x.cps _ 0 (Nat.le_refl _) (Nat.zero_le _)) (Nat.le_trans (sub2_len _ _ (Nat.le_refl _)) (by rw [List.length_drop, Array.length_toList]; omega)) h
theorem wp_sub1 {Q : Value → Shared → Prop} (hx : x.cps.size ≤ 2000) (P : PatAt s.heap pa C1)
    (h : ∀ z tz h' tk', z.cps.toList = sub1 true x.cps.toList → (∀ b o, s.heap.get? b = some o → h'.get? b = some o) → Q (.str z tz) { s with heap := h', toks := tk' }) :
    wpAny (model prog w) A (call (.builtin "re.Pattern.sub") [.ref pa, .str ⟨#[46, 46]⟩ ty, .str x tx]) Q E s :=
  wp_sub (nx := nx1 x.cps) (by omega) (by decide +kernel) (fun p must hp => ⟨6 * x.cps.size + 8, by omega, for1 x.cps p must hp⟩) P (subs1 x.cps _ 0 rfl (Nat.zero_le _)) (Nat.le_trans (sub1_len _ _) (by rw [List.length_drop, Array.length_toList]; omega)) h
end

end
section
open PySem PySem.W PyProof.Rows PySem.Spec PySem.Calls
/-- a list of single signs -/
def chars (cts : List (Nat × Tok)) : Array Value := (cts.map fun p => Value.str ⟨#[p.1]⟩ p.2).toArray
theorem chars_of : ∀ {xs : List Nat} {ys : List Value}, CarriedAll ys (List.map PyData.str (xs.map fun n => ⟨#[n]⟩)) → ∃ cts : List (Nat × Tok), cts.map (·.1) = xs ∧ ys.toArray = chars cts
  | [], _, .nil => ⟨[], rfl, rfl⟩
  | x :: xs, _, .cons (.str _ t) r => by
    obtain ⟨cts, e, rfl'⟩ := chars_of r
    refine ⟨(x, t) :: cts, by rw [List.map_cons, e], ?_⟩
    unfold chars at *
    rw [List.map_cons, ← Array.toList_inj, List.toList_toArray, List.toList_toArray]
    rw [← Array.toList_inj, List.toList_toArray, List.toList_toArray] at rfl'
    rw [rfl']
section
variable {prog : Program} {w : World} {A : Around} {E : Value → Shared → Prop} {s : Shared} {h₀ : Heap} {L : Addr} {m : Str → Option Value} {news : List (Addr × Obj)} {x : Str} {t : Tok}
theorem list_chars {Q : Value → Shared → Prop} (hh : A.handled = none) (F : Fr h₀ L s.heap m) (N : News h₀ L s.heap news) (hx : x.cps.size ≤ 3000)
    (h : ∀ D n cts h' tk', cts.map (·.1) = x.cps.toList → Fr h₀ L h' m → News h₀ L h' ((D, listOf (chars cts) n) :: news) → (∀ q ∈ news, q.1 < D) → Q (.ref D) { s with heap := h', toks := tk' }) :
    wpAny (model prog w) A (call (.type "list") [.str x t]) Q E s := by
  refine list_strD hh F N (fun h' tk ys F' N' hk hn hl np hc => ?_) (by show x.cps.size ≤ sizeLine; rw [sizeLine_eq]; omega)
  obtain ⟨cts, e1, e2⟩ := chars_of (xs := x.cps.toList) hc
  rw [e2] at np
  obtain ⟨n, N2⟩ := made_enters np F' N' hn
  exact h _ n cts h' tk e1 F' N2 fun q hq => Heap.lt_size (N q hq).1
theorem pop_chars {D : Addr} {n : Nat} {c : Nat} {tc u : Tok} {r : List (Nat × Tok)} {news' : List (Addr × Obj)} {Q : Value → Shared → Prop} (F : Fr h₀ L s.heap m) (N : News h₀ L s.heap news) (hr : r.length ≤ 3000)
    (U : Upd D (listOf (chars ((c, tc) :: r)) n) (listOf (chars r) (n + 1)) news news') (h : ∀ h', Fr h₀ L h' m → News h₀ L h' news' → Q (.str ⟨#[c]⟩ tc) { s with heap := h' }) :
    wpAny (model prog w) A (call (.builtin "list.pop") [.ref D, .int 0 u]) Q E s := by
  refine kl_popAt (k := 0) (p := []) (q := r.map fun p => Value.str ⟨#[p.1]⟩ p.2) F N rfl ?_ rfl U ?_ h
  · unfold seqIndex? chars
    simp
  · unfold chars
    rw [sizeLine_eq]
    simp; omega
theorem truthy_chars {D : Addr} {n : Nat} {cts : List (Nat × Tok)} {Q : Bool → Shared → Prop} (N : News h₀ L s.heap news) (hm : (D, listOf (chars cts) n) ∈ news) (hr : cts.length ≤ 3001) (h : Q (!cts.isEmpty) { s with toks := s.toks + 1 + 1 }) :
    wpAny (model prog w) A (truthy (.ref D)) Q E s := by
  refine wpAny_truthy_list ⟨_, (N _ hm).1, rfl, n, rfl⟩ ?_ ?_
  · unfold chars; simp; omega
  · have e : (chars cts).isEmpty = cts.isEmpty := by unfold chars; cases cts <;> simp
    rw [e]; exact h
end
theorem nl_eq {c : Nat} (h : (({ cps := #[c] } : Str) == Str.ofString "\n") = true) : c = 10 := by
  have := eq_of_beq h
  have e : Str.ofString "\n" = ⟨#[10]⟩ := by decide +kernel
  rw [e] at this
  cases this
  rfl

end
section
open PySem PySem.W PyProof.Rows PySem.Spec PySem.Calls
theorem wpAny_callBorrowed {M : Model} {A : Around} {E : Value → Shared → Prop} {s : Shared} {f : Value} {pos : List Value} {Q : Value → Shared → Prop} (h : wpAny M A (call f pos) Q E s) : wpAny M A (callBorrowed f pos) Q E s := fun Γ p hΓ => by
  have := h Γ p hΓ
  unfold call at this
  rw [Sem.wp_runValue] at this
  unfold callBorrowed
  rw [Sem.wp_call]
  refine Eq.mp ?_ this
  congr 1
  funext r s'
  match r with
  | .ok (.ret v) => simp [Sem.wp]
  | .ok .next => simp [Sem.wp]
  | .ok .brk => simp [Sem.wp]
  | .ok .cont => simp [Sem.wp]
  | .error e => simp [Sem.wp]
theorem ci_owner : Manifest.owners.lookup (String.ofList "callable_iterator".toList.reverse.reverse) = some Manifest.sig_callable_iterator := by kernel_rfl
theorem slot_ci_next : Slot "callable_iterator" "__next__" "callable_iterator.__next__" :=
  .of (owner := "callable_iterator") (n := "__next__") (by rw [typeLookup_type, builtinLookup_eq_fast]; kernel_rfl) (by decide +kernel) (by decide +kernel) (by decide +kernel)
    (by first | exact .inl (by decide +kernel) | exact .inr (by decide +kernel)) (by rw [isSubtype_type]; kernel_rfl)
theorem slot_ci_iter : Slot "callable_iterator" "__iter__" "callable_iterator.__iter__" :=
  .of (owner := "callable_iterator") (n := "__iter__") (by rw [typeLookup_type, builtinLookup_eq_fast]; kernel_rfl) (by decide +kernel) (by decide +kernel) (by decide +kernel)
    (by first | exact .inl (by decide +kernel) | exact .inr (by decide +kernel)) (by rw [isSubtype_type]; kernel_rfl)
theorem entry_ci_next : entryFor table "callable_iterator.__next__" = some Builtin.«callable_iterator.__next__» := entryFor_of_fast (by kernel_rfl)
theorem args_ci_next (a : Value) : argsOk "callable_iterator.__next__" ⟨[a], []⟩ := by unfold argsOk; kernel_rfl
theorem args_ci_iter (a : Value) : argsOk "callable_iterator.__iter__" ⟨[a], []⟩ := by unfold argsOk; kernel_rfl
theorem entry_ci_iter : entryFor table "callable_iterator.__iter__" = some Builtin.«dict_keyiterator.__iter__» :=
  entryFor_alias (id' := "dict_keyiterator.__iter__") (by kernel_rfl) rfl (by decide +kernel) (by kernel_rfl)
theorem ci_iter_entry : entryFor table "iter" = some Builtin.«iter» := entryFor_of_fast (by kernel_rfl)
theorem ci_iter_args (a b : Value) : argsOk "iter" ⟨[a, b], []⟩ := by unfold argsOk; kernel_rfl
theorem meth_call : ∃ r, typeLookup (.type "method") "__call__" = pure (some r) := ⟨.builtin "method.__call__", by rw [typeLookup_type, builtinLookup_eq_fast]; kernel_rfl⟩
/-- an iterator of calls, up to an empty text -/
abbrev ciObj (q : Addr) (t : Tok) : Obj := { cls := .type "callable_iterator", data := .fields #[.ref q, .str ⟨#[]⟩ t, .bool false] }
section
variable {prog : Program} {w : World} {A : Around} {E : Value → Shared → Prop} {s : Shared} {I q f x : Addr} {t : Tok} {h₀ : Heap} {L : Addr} {m : Str → Option Value} {news : List (Addr × Obj)}
theorem ci_make {Q : Value → Shared → Prop} (F : Fr h₀ L s.heap m) (N : News h₀ L s.heap news) (hq : (q, methodObj (.ref f) (.ref x)) ∈ news)
    (h : ∀ (I : Addr) h', Fr h₀ L h' m → News h₀ L h' ((I, ciObj q t) :: news) → (∀ p ∈ news, p.1 < I) → Q (.ref I) { s with heap := h' }) :
    wpAny (model prog w) A (call (.builtin "iter") [.ref q, .str ⟨#[]⟩ t]) Q E s := by
  refine call_function_entry (by decide +kernel) (by decide +kernel) ci_iter_entry (ci_iter_args _ _) ?_
  unfold Builtin.«iter»
  refine wpAny_bind (m := someArgs "iter" 1 2 _) (wpAny_of_eq (a := [Value.ref q, .str ⟨#[]⟩ t]) (by first | rfl | kernel_rfl!) ?_)
  obtain ⟨r, hr⟩ := meth_call
  show wpAny _ _ (specialOf (.ref q) "__call__" >>= _) _ _ _
  refine wpAny_bind (wpAny_specialOf (T := "method") ⟨_, (N _ hq).1, rfl⟩ hr ?_)
  rw [if_neg (by simp)]
  refine wpAny_bind (wpAny_rule ?_)
  refine wpAny_bind (wpAny_newObj_type ?_)
  exact wpAny_pure ⟨_, rfl, h _ _ (F.push _) (News.push F N _ rfl) (fun q hq => Heap.lt_size (N q hq).1)⟩
theorem ci_self {Q : Value → Shared → Prop} (hI : s.heap.get? I = some (ciObj q t)) (h : Q (.ref I) s) : wpAny (model prog w) A (pyIter (.ref I)) Q E s := by
  have hT : s.TypeIs (.ref I) "callable_iterator" := ⟨_, hI, rfl⟩
  refine wpAny_pyIter_slot hT slot_ci_iter (wpAny_call_entry slot_ci_iter hT entry_ci_iter ?_ (args_ci_iter _))
  unfold Builtin.«dict_keyiterator.__iter__»
  exact wpAny_pure ⟨_, rfl, _, _, hT, slot_ci_next.lookup, h⟩
theorem ci_borrows {fo : Obj} {fc : FuncData} {Q : Bool → Shared → Prop} (hq : s.heap.get? q = some (methodObj (.ref f) (.ref x))) (hf : s.heap.get? f = some fo) (hd : fo.data = .func fc) (h : Q true s) :
    wpAny (model prog w) A (borrowsExactly (.ref q)) Q E s := by
  unfold borrowsExactly
  dsimp only
  refine wpAny_bind (wpAny_load hq ?_)
  dsimp only
  rw [if_pos (by decide)]
  refine wpAny_bind (wpAny_load hf ?_)
  rw [hd]
  exact wpAny_pure h
theorem ci_item {fo : Obj} {fc : FuncData} {Q : Option Value → Shared → Prop} (hI : s.heap.get? I = some (ciObj q t)) (hq : s.heap.get? q = some (methodObj (.ref f) (.ref x))) (hf : s.heap.get? f = some fo) (hd : fo.data = .func fc)
    (h : codeAny (model prog w) A.in1 (.call (.ref f) ⟨[.ref x], []⟩) (fun r s' => match r with | .ok (.ret v) => ∃ z tz, v = .str z tz ∧ z ≠ ⟨#[]⟩ ∧ s'.heap.get? I = some (ciObj q t) ∧ Q (some (.str z tz)) s' | .ok _ => False | .error _ => False) s) :
    wpAny (model prog w) A (pyNext (.ref I)) Q E s := by
  have hT : s.TypeIs (.ref I) "callable_iterator" := ⟨_, hI, rfl⟩
  unfold pyNext
  refine wpAny_bind (wpAny_attempt (wpAny_callSpecial?_slot (name := Str.ofString "__next__") hT slot_ci_next
    (wpAny_call_entry slot_ci_next hT entry_ci_next ?_ (args_ci_next _))))
  show wpAny _ _ (field (.ref I) 2 >>= _) _ _ s
  refine wpAny_bind (wpAny_field hI rfl (x := .bool false) rfl ?_)
  rw [if_neg (by decide)]
  refine wpAny_bind (wpAny_field hI rfl (x := .ref q) rfl ?_)
  unfold callOutOfASlot
  refine wpAny_bind (wpAny_attempt (wpAny_bind (ci_borrows hq hf hd ?_)))
  rw [if_pos rfl]
  refine wpAny_callBorrowed (wpAny_call (method_call hq ?_))
  refine codeAny_mono h fun r s' hr => ?_
  match r, hr with
  | .ok (.ret v), hr =>
    obtain ⟨z, tz, rfl, hz, hI', hQ⟩ := hr
    show wpAny _ _ (field (.ref I) 2 >>= _) _ _ s'
    refine wpAny_bind (wpAny_field hI' rfl (x := .bool false) rfl ?_)
    rw [if_neg (by decide)]
    refine wpAny_bind (wpAny_field hI' rfl (x := .str ⟨#[]⟩ t) rfl ?_)
    refine wpAny_bind (wpAny_holding (wpAny_eqBool_str ?_))
    have : decide ((⟨#[]⟩ : Str) = z) = false := decide_eq_false fun e => hz e.symm
    rw [this]
    exact wpAny_pure ⟨_, rfl, wpAny_pure hQ⟩
  | .ok .next, hr => exact hr.elim
  | .ok .brk, hr => exact hr.elim
  | .ok .cont, hr => exact hr.elim
  | .error _, hr => exact hr.elim
theorem ci_end {fo : Obj} {fc : FuncData} {Q : Option Value → Shared → Prop} (hh : A.handled = none) (hI : s.heap.get? I = some (ciObj q t)) (hq : s.heap.get? q = some (methodObj (.ref f) (.ref x))) (hf : s.heap.get? f = some fo) (hd : fo.data = .func fc)
    (h : codeAny (model prog w) A.in1 (.call (.ref f) ⟨[.ref x], []⟩) (fun r s' => match r with | .ok (.ret v) => (∃ tz, v = Value.str ⟨#[]⟩ tz ∧ s'.heap.get? I = some (ciObj q t) ∧ s'.heap.get? q = some (methodObj (.ref f) (.ref x)) ∧ s'.heap.get? f = some fo ∧
      (∀ h' : Heap, Heap.ExtBut I s'.heap h' → Q none (Shared.mk h' s'.gens s'.drawn s'.toks s'.os))) | .ok _ => False | .error _ => False) s) :
    wpAny (model prog w) A (pyNext (.ref I)) Q E s := by
  have hT : s.TypeIs (.ref I) "callable_iterator" := ⟨_, hI, rfl⟩
  unfold pyNext
  refine wpAny_bind (wpAny_attempt (wpAny_callSpecial?_slot (name := Str.ofString "__next__") hT slot_ci_next
    (wpAny_call_entry slot_ci_next hT entry_ci_next ?_ (args_ci_next _))))
  show wpAny _ _ (field (.ref I) 2 >>= _) _ _ s
  refine wpAny_bind (wpAny_field hI rfl (x := .bool false) rfl ?_)
  rw [if_neg (by decide)]
  refine wpAny_bind (wpAny_field hI rfl (x := .ref q) rfl ?_)
  unfold callOutOfASlot
  refine wpAny_bind (wpAny_attempt (wpAny_bind (ci_borrows hq hf hd ?_)))
  rw [if_pos rfl]
  refine wpAny_callBorrowed (wpAny_call (method_call hq ?_))
  refine codeAny_mono h fun r s' hr => ?_
  match r, hr with
  | .ok (.ret v), hr =>
    obtain ⟨tz, rfl, hI', hq', hf', hQ⟩ := hr
    show wpAny _ _ (field (.ref I) 2 >>= _) _ _ s'
    refine wpAny_bind (wpAny_field hI' rfl (x := .bool false) rfl ?_)
    rw [if_neg (by decide)]
    refine wpAny_bind (wpAny_field hI' rfl (x := .str ⟨#[]⟩ t) rfl ?_)
    refine wpAny_bind (wpAny_holding (wpAny_eqBool_str ?_))
    have : decide ((⟨#[]⟩ : Str) = ⟨#[]⟩) = true := decide_eq_true rfl
    rw [this]
    show wpAny _ _ (rule "callable_iterator.__next__.sentinel" >>= _) _ _ _
    refine wpAny_bind (wpAny_rule ?_)
    refine wpAny_bind ?_
    show wpAny _ _ (field (.ref I) 0 >>= _) _ _ s'
    refine wpAny_bind (wpAny_field hI' rfl (x := .ref q) rfl ?_)
    refine wpAny_bind ?_
    unfold slotLetsGo
    refine wpAny_bind (ci_borrows hq' hf' hd ?_)
    rw [if_pos rfl]
    refine wpAny_pure ?_
    refine wpAny_bind (wpAny_setField_rec hI' (by simp) fun h₁ e₁ s₁ => ?_)
    refine wpAny_bind (wpAny_setField_rec e₁ (by simp) fun h₂ e₂ s₂ => ?_)
    refine wpAny_setField_rec e₂ (by simp) fun h₃ e₃ s₃ => ?_
    unfold Builtin.SmallTypes.stopIteration
    refine wpAny_bind ?_
    simp only [newExc, newTuple]
    refine wpAny_bind (wpAny_newObj_type ?_ (by size_fits))
    refine wpAny_bind (m := firstArgMember _ _) (wpAny_of_eq (a := Value.none) (by first | rfl | (simp only [firstArgMember]; rfl)) ?_)
    refine wpAny_newObj_type ?_ (by size_fits)
    simp only [raiseNew]
    refine wpAny_bind (wpAny_handled ?_)
    rw [show A.in1.handled = none from hh]
    refine wpAny_bind (wpAny_pure (wpAny_throw ?_))
    refine wpAny_bind (wpAny_isInstance (T := "StopIteration") (b := true) ⟨_, Heap.get?_push_size _ rfl, rfl⟩ isSubtype_stop ?_)
    exact wpAny_pure (hQ _ ((s₁.extBut.trans (s₂.extBut.trans s₃.extBut)).push _ |>.push _))
  | .ok .next, hr => exact hr.elim
  | .ok .brk, hr => exact hr.elim
  | .ok .cont, hr => exact hr.elim
  | .error _, hr => exact hr.elim
end

end
section
open PySem PySem.W PyProof.Rows PySem.Spec PySem.Calls
def CiStop (P : Prop) : Prop := P
theorem CiStop.out {P : Prop} (h : CiStop P) : P := h
theorem CiStop.go {P : Prop} (h : P) : CiStop P := h
section
variable {prog : Program} {w : World} {A : Around} {E : Value → Shared → Prop} {s : Shared} {env : Env} {I q : Addr} {t : Tok}
theorem ci_for {v : Str} {px pos : Pos} {iter : Expr} {body : List Stmt} {Q : Flow → Shared → Prop} (I : Addr) (J : Nat → Shared → Prop) {n0 : Nat} {q : Addr} {t : Tok}
    (h : wpAny (model prog w) A (eval iter env) (fun xv s₁ => xv = .ref I ∧ s₁.heap.get? I = some (ciObj q t) ∧ J n0 s₁) E s)
    (turn : ∀ n s', J n s' → wpAny (model prog w) A (pyNext (.ref I)) (OwitTurn prog w A E env v body Q (fun s₃ => CiStop (∃ k, k < n ∧ J k s₃))) E s')
    (hs : ∀ x, foldedSetIterable iter env x = pure x := by intro _; rfl) (hE : PassesOwn (model prog w) A env E := by passes_own) :
    wpAny (model prog w) A (exec (.For (.Name v px) iter body [] pos) env) Q E s := by
  refine wpAny_For (wpAny_mono h (fun xv s₁ h₁ => ?_) fun _ _ z => z) hs
  obtain ⟨rfl, hI, hJ⟩ := h₁
  refine ci_self hI ?_
  refine codeAny_forLoop (R := fun r s' => match r with | .ok f => Q f s' | .error e => cameBackBy (model prog w) A env E e s') J ?_ n0 hJ
  intro k s' hk
  refine wpAny_passesOwn hE (wpAny_mono (turn k s' hk) (fun r s₁ hr => ?_) fun _ _ z => z)
  cases r with
  | none => exact wpAny_execs_nil hr
  | some y =>
    refine wpAny_passesOwn hE (wpAny_assign_Name (wpAny_mono hr (fun _ s₂ h₂ => ?_) fun _ _ z => z))
    refine wpAny_passesOwn hE (wpAny_mono h₂ (fun f s₃ h₃ => ?_) fun _ _ z => z)
    cases f with
    | next => exact h₃
    | cont => exact h₃
    | brk => exact h₃
    | ret _ => exact h₃
end
theorem fr_but {h₀ h h' : Heap} {L I : Addr} {m : Str → Option Value} (F : Fr h₀ L h m) (hx : Heap.ExtBut I h h') (hI : h₀.get? I = none) (hL : L ≠ I) : Fr h₀ L h' m :=
  ⟨let ⟨o, es, ep, ho, r⟩ := F.ns; ⟨o, es, ep, hx _ _ hL ho, r⟩, fun b o e => hx b o (fun q => by rw [q, hI] at e; cases e) (F.keep b o e), F.above⟩
theorem news_but {h₀ h h' : Heap} {L I : Addr} {news : List (Addr × Obj)} (N : News h₀ L h news) (hx : Heap.ExtBut I h h') (l : List (Addr × Obj)) (hl : ∀ p ∈ l, p ∈ news) (hs : ∀ p ∈ l, p.1 ≠ I) : News h₀ L h' l :=
  fun p hp => ⟨hx _ _ (hs p hp) (N p (hl p hp)).1, (N p (hl p hp)).2⟩
/-- what reading one word does: the chars, the word's signs, the chars left, the feeds passed -/
inductive Inner : List (Nat × Tok) → List Nat → List (Nat × Tok) → Int → Prop
  | done {t r} : Inner ((13, t) :: r) [] r 0
  | dot {t r w z d} : Inner r w z d → Inner ((46, t) :: r) (46 :: w) z d
  | esc {t u r w z d} : Inner r w z d → Inner ((92, t) :: (92, u) :: r) (92 :: w) z d
inductive Outer : List (Nat × Tok) → List Nat → List (Nat × Tok) → Int → Prop
  | eof : Outer [] [] [] 0
  | skip {t r w z d} : Outer r w z d → Outer ((10, t) :: r) w z (d + 1)
  | dot {t r w z d} : Inner r w z d → Outer ((46, t) :: r) (46 :: w) z d
  | esc {t u r w z d} : Inner r w z d → Outer ((92, t) :: (92, u) :: r) (92 :: w) z d

end
section
open PySem PySem.W PyProof.Rows PySem.Spec PySem.Calls
section
variable {prog : Program} {w : World} {A : Around} {E : Value → Shared → Prop} {s : Shared} {env : Env}
theorem wh_loop {test : Expr} {body : List Stmt} {pos : Pos} {Q : Flow → Shared → Prop} (J : Nat → Shared → Prop) {n0 : Nat} (h0 : J n0 s)
    (turn : ∀ n s', J n s' → wpAny (model prog w) A (isTrue test env (eval test env)) (fun b s₂ =>
      if b = true then wpAny (model prog w) A (execs body env) (OwitFlow Q (fun s₃ => CiStop (∃ k, k < n ∧ J k s₃))) E s₂ else Q .next s₂) E s')
    (hE : PassesOwn (model prog w) A env E := by passes_own) :
    wpAny (model prog w) A (exec (.While test body [] pos) env) Q E s := by
  refine wpAny_While (codeAny_whileLoop J ?_ n0 h0)
  intro n s' hJ
  refine wpAny_mono (turn n s' hJ) (fun b s₂ h₂ => ?_) hE
  cases b with
  | false =>
    simp only [Bool.false_eq_true, if_false] at h₂ ⊢
    exact wpAny_execs_nil h₂
  | true =>
    simp only [if_true] at h₂ ⊢
    refine wpAny_mono h₂ (fun f s₃ h₃ => ?_) hE
    cases f with
    | next => exact h₃
    | cont => exact h₃
    | brk => exact h₃
    | ret v => exact h₃
/-- a for over range(b): the iterator stands in the ledger, ahead -/
abbrev rgObj (i b : Int) : Obj := { cls := .type "range_iterator", dict := none, data := .fields #[rawInt i, rawInt (b - i), rawInt 1], slots := #[] }
end
def txts (ws : List (Str × Tok)) : Array Value := (ws.map fun p => Value.str p.1 p.2).toArray
theorem txts_size (ws : List (Str × Tok)) : (txts ws).size = ws.length := by simp [txts]
theorem txts_push (ws : List (Str × Tok)) (x : Str) (t : Tok) : (txts ws).push (.str x t) = txts (ws ++ [(x, t)]) := by simp [txts]
theorem txts_one (x : Str) (t : Tok) : #[Value.str x t] = txts [(x, t)] := by simp [txts]
theorem txts_get (ws : List (Str × Tok)) (k : Nat) : (txts ws)[k]? = (ws[k]?).map fun p => Value.str p.1 p.2 := by simp [txts]
section
variable {prog : Program} {w : World} {A : Around} {E : Value → Shared → Prop} {s : Shared} {h₀ : Heap} {L : Addr} {m : Str → Option Value} {news news' : List (Addr × Obj)}
theorem len_txts {D : Addr} {n : Nat} {ws : List (Str × Tok)} {Q : Value → Shared → Prop} (N : News h₀ L s.heap news) (hm : (D, listOf (txts ws) n) ∈ news) (hz : ws.length ≤ 1000000) (h : Q (.int (ws.length : Int) (s.toks + 1)) { s with toks := s.toks + 1 + 1 }) :
    wpAny (model prog w) A (call (.builtin "len") [.ref D]) Q E s :=
  len_list (N.isList hm) (by rw [txts_size]; omega) (by rw [txts_size]; exact h)
theorem last_txts {value slice : PySem.Expr} {D : Addr} {n : Nat} {ws : List (Str × Tok)} {x : Str} {t u : Tok} {Q : Value → Shared → Prop} (N : News h₀ L s.heap news) (hm : (D, listOf (txts (ws ++ [(x, t)])) n) ∈ news) (h : Q (.str x t) s)
    (hs : subscripted slice false (.ref D) (.int (-1) u) = operate [.ref D, .int (-1) u] (getItem (.ref D) (.int (-1) u))) :
    wpAny (model prog w) A (subscriptTail value slice (.ref D) (.int (-1) u)) Q E s := by
  have hl := N.isList hm
  refine kde_neg (vs := (ws ++ [(x, t)]).map fun p : Str × Tok => Value.str p.1 p.2) (j := ws.length) hl (by decide) (by decide) ?_ ?_ h hs
  · unfold seqIndex?
    simp
    omega
  · simp
theorem append_txts {D : Addr} {n : Nat} {ws : List (Str × Tok)} {x : Str} {t : Tok} {Q : Value → Shared → Prop} (F : Fr h₀ L s.heap m) (N : News h₀ L s.heap news) (hz : ws.length ≤ 100000) (U : Upd D (listOf (txts ws) n) (listOf (txts (ws ++ [(x, t)])) (n + 1)) news news')
    (h : ∀ h', Fr h₀ L h' m → News h₀ L h' news' → Q .none { s with heap := h' }) : wpAny (model prog w) A (call (.builtin "list.append") [.ref D, .str x t]) Q E s :=
  append_K F N (by rw [txts_push]; exact U) h (by rw [txts_size, sizeLine_eq]; omega)
end
/-- what reading one word does, on codes -/
inductive InN : List Nat → List Nat → List Nat → Prop
  | done {r} : InN (13 :: r) [] r
  | dot {r w z} : InN r w z → InN (46 :: r) (46 :: w) z
  | esc {r w z} : InN r w z → InN (92 :: 92 :: r) (92 :: w) z
inductive OutN : List Nat → List Nat → List Nat → Int → Prop
  | eof : OutN [] [] [] 0
  | skip {r w z d} : OutN r w z d → OutN (10 :: r) w z (d + 1)
  | dot {r w z} : InN r w z → OutN (46 :: r) (46 :: w) z 0
  | esc {r w z} : InN r w z → OutN (92 :: 92 :: r) (92 :: w) z 0
inductive Reads : List Nat → List (List Nat) → Int → Prop
  | last {r d} : OutN r [] [] d → Reads r [[]] d
  | more {r w z d ws d'} : OutN r w z d → w ≠ [] → Reads z ws d' → Reads r (w :: ws) (d + d')
theorem InN.toks {l w z : List Nat} (h : InN l w z) : ∀ cts : List (Nat × Tok), cts.map (·.1) = l → ∃ zc, zc.map (·.1) = z ∧ Inner cts w zc 0 := by
  induction h with
  | done =>
    intro cts e
    match cts, e with
    | (c, t) :: r, e =>
      simp only [List.map_cons, List.cons.injEq] at e
      obtain ⟨rfl, e⟩ := e
      exact ⟨r, e, .done⟩
  | dot _ ih =>
    intro cts e
    match cts, e with
    | (c, t) :: r, e =>
      simp only [List.map_cons, List.cons.injEq] at e
      obtain ⟨rfl, e⟩ := e
      obtain ⟨zc, e2, i⟩ := ih r e
      exact ⟨zc, e2, .dot i⟩
  | esc _ ih =>
    intro cts e
    match cts, e with
    | (c, t) :: (c2, t2) :: r, e =>
      simp only [List.map_cons, List.cons.injEq] at e
      obtain ⟨rfl, rfl, e⟩ := e
      obtain ⟨zc, e2, i⟩ := ih r e
      exact ⟨zc, e2, .esc i⟩
theorem OutN.toks {l w z : List Nat} {d : Int} (h : OutN l w z d) : ∀ cts : List (Nat × Tok), cts.map (·.1) = l → ∃ zc, zc.map (·.1) = z ∧ Outer cts w zc d := by
  induction h with
  | eof =>
    intro cts e
    match cts, e with
    | [], _ => exact ⟨[], rfl, .eof⟩
  | skip _ ih =>
    intro cts e
    match cts, e with
    | (c, t) :: r, e =>
      simp only [List.map_cons, List.cons.injEq] at e
      obtain ⟨rfl, e⟩ := e
      obtain ⟨zc, e2, i⟩ := ih r e
      exact ⟨zc, e2, .skip i⟩
  | dot hi =>
    intro cts e
    match cts, e with
    | (c, t) :: r, e =>
      simp only [List.map_cons, List.cons.injEq] at e
      obtain ⟨rfl, e⟩ := e
      obtain ⟨zc, e2, i⟩ := hi.toks r e
      exact ⟨zc, e2, .dot i⟩
  | esc hi =>
    intro cts e
    match cts, e with
    | (c, t) :: (c2, t2) :: r, e =>
      simp only [List.map_cons, List.cons.injEq] at e
      obtain ⟨rfl, rfl, e⟩ := e
      obtain ⟨zc, e2, i⟩ := hi.toks r e
      exact ⟨zc, e2, .esc i⟩
theorem InN.len {l w z : List Nat} (h : InN l w z) : z.length < l.length := by
  induction h with
  | done => simp
  | dot _ ih => simp only [List.length_cons]; omega
  | esc _ ih => simp only [List.length_cons]; omega
theorem OutN.len {l w z : List Nat} {d : Int} (h : OutN l w z d) : z.length ≤ l.length ∧ (w ≠ [] → z.length < l.length) := by
  induction h with
  | eof => exact ⟨Nat.le_refl _, fun h => absurd rfl h⟩
  | skip _ ih => simp only [List.length_cons]; exact ⟨by omega, fun h => by have := ih.2 h; omega⟩
  | dot h => have := h.len; simp only [List.length_cons]; exact ⟨by omega, fun _ => by omega⟩
  | esc h => have := h.len; simp only [List.length_cons]; exact ⟨by omega, fun _ => by omega⟩

end
section
open PySem PySem.W PyProof.Rows PySem.Spec PySem.Calls
/-- the price of one sign for another -/
def cost (c1 c2 : Nat) : Int := if c1 = c2 then 0 else if Txt.lower ⟨#[c1]⟩ = Txt.lower ⟨#[c2]⟩ then 1 else 2
theorem one_eq {c1 c2 : Nat} : (({ cps := #[c1] } : Str) == { cps := #[c2] }) = decide (c1 = c2) := by
  by_cases h : c1 = c2
  · subst h; simp
  · have : ¬ ({ cps := #[c1] } : Str) = { cps := #[c2] } := fun e => h (by simpa using e)
    simp [h]
theorem cost_0 {c1 c2 : Nat} (h : (({ cps := #[c1] } : Str) == { cps := #[c2] }) = true) : cost c1 c2 = 0 := by
  rw [one_eq] at h
  unfold cost
  rw [if_pos (of_decide_eq_true h)]
theorem cost_1 {c1 c2 : Nat} (h : (({ cps := #[c1] } : Str) == { cps := #[c2] }) = false) (h2 : (Txt.lower ⟨#[c1]⟩ == Txt.lower ⟨#[c2]⟩) = true) : cost c1 c2 = 1 := by
  rw [one_eq] at h
  unfold cost
  rw [if_neg (of_decide_eq_false h), if_pos (eq_of_beq h2)]
theorem cost_2 {c1 c2 : Nat} (h : (({ cps := #[c1] } : Str) == { cps := #[c2] }) = false) (h2 : (Txt.lower ⟨#[c1]⟩ == Txt.lower ⟨#[c2]⟩) = false) : cost c1 c2 = 2 := by
  rw [one_eq] at h
  unfold cost
  rw [if_neg (of_decide_eq_false h), if_neg (by simpa using h2)]
/-- how many signs two texts have in common at their heads -/
def lcp : List Nat → List Nat → Nat
  | x :: xs, y :: ys => if x = y then lcp xs ys + 1 else 0
  | _, _ => 0
theorem wh_loopE {prog : Program} {w : World} {A : Around} {E : Value → Shared → Prop} {s : Shared} {env : Env} {test : Expr} {body : List Stmt} {pos : Pos} {Q : Flow → Shared → Prop} (J : Nat → Shared → Prop) (Z : Shared → Prop) {n0 : Nat} (h0 : J n0 s)
    (turn : ∀ n s', J n s' → wpAny (model prog w) A (isTrue test env (eval test env)) (fun b s₂ =>
      if b = true then wpAny (model prog w) A (execs body env) (OwitFlow Q (fun s₃ => CiStop (∃ k, k < n ∧ J k s₃))) E s₂ else CiStop (Z s₂)) E s')
    (fin : ∀ s', Z s' → Q .next s')
    (hE : PassesOwn (model prog w) A env E := by passes_own) :
    wpAny (model prog w) A (exec (.While test body [] pos) env) Q E s := by
  refine wh_loop J h0 (fun n s' hJ => wpAny_mono (turn n s' hJ) (fun b s₂ h₂ => ?_) fun _ _ e => e) hE
  cases b with
  | true => exact h₂
  | false => exact fin s₂ h₂
def CutFlow (Z : Shared → Prop) (Q : Flow → Shared → Prop) (f : Flow) (s : Shared) : Prop := match f with
  | .next => CiStop (Z s)
  | f => Q f s
theorem exec_cut {prog : Program} {w : World} {A : Around} {E : Value → Shared → Prop} {s : Shared} {env : Env} {st : Stmt} {Q : Flow → Shared → Prop} (Z : Shared → Prop)
    (h : wpAny (model prog w) A (exec st env) (CutFlow Z Q) E s) (fin : ∀ s', Z s' → Q .next s') : wpAny (model prog w) A (exec st env) Q E s :=
  wpAny_mono h (fun f s' h' => match f, h' with
    | .next, h' => fin s' h'
    | .cont, h' => h'
    | .brk, h' => h'
    | .ret _, h' => h') fun _ _ e => e
/-- min(x, y) -/
abbrev mn2 (x y : Int) : Int := if y < x then y else x
/-- one row of the table of distances -/
def stepI (bc : Nat) : List Nat → List Int → Int → Int → Int → List Int × Int × Int
  | c :: a, r :: row, dist, res, mn =>
    let sub := dist + cost bc c
    let res' := mn2 (mn2 res r + 2) sub
    let mn' := if res' < mn then res' else mn
    let t := stepI bc a row r res' mn'
    (res' :: t.1, t.2)
  | _, _, _, res, mn => ([], res, mn)
def stepO (a : List Nat) (mx : Int) : List Nat → Int → List Int → Int → Int
  | [], _, _, res => res
  | c :: b, i, row, _ => let t := stepI c a row (i * 2) (i * 2) 9223372036854775807; if t.2.2 > mx then mx + 1 else stepO a mx b (i + 1) t.1 t.2.1
theorem stepO_ret {a b : List Nat} {mx res : Int} {row : List Int} {i : Nat} (hi : i < b.length) (h : mx < (stepI (b.getD i 0) a row ((i : Int) * 2) ((i : Int) * 2) 9223372036854775807).2.2) : stepO a mx (b.drop i) i row res = mx + 1 := by
  have e : b.drop i = b.getD i 0 :: b.drop (i + 1) := by rw [List.drop_eq_getElem_cons hi, List.getD_eq_getElem?_getD, List.getElem?_eq_getElem hi]; rfl
  rw [e]
  exact if_pos h
theorem stepO_next {a b : List Nat} {mx res : Int} {row : List Int} {i : Nat} (hi : i < b.length) (h : ¬ mx < (stepI (b.getD i 0) a row ((i : Int) * 2) ((i : Int) * 2) 9223372036854775807).2.2) :
    stepO a mx (b.drop i) i row res = stepO a mx (b.drop (i + 1)) ((i + 1 : Nat) : Int) (stepI (b.getD i 0) a row ((i : Int) * 2) ((i : Int) * 2) 9223372036854775807).1 (stepI (b.getD i 0) a row ((i : Int) * 2) ((i : Int) * 2) 9223372036854775807).2.1 := by
  have e : b.drop i = b.getD i 0 :: b.drop (i + 1) := by rw [List.drop_eq_getElem_cons hi, List.getD_eq_getElem?_getD, List.getElem?_eq_getElem hi]; rfl
  rw [e]
  exact if_neg h
/-- the state within a row: what is done, what is left -/
def InRow (bc : Nat) (a : List Nat) (T : List Int × Int × Int) (k : Nat) (all : List Int) (dist res mn : Int) : Prop :=
  ∃ done rest, all = done ++ rest ∧ done.length = k ∧ all.length = a.length ∧ done ++ (stepI bc (a.drop k) rest dist res mn).1 = T.1 ∧ (stepI bc (a.drop k) rest dist res mn).2 = T.2
theorem InRow.first {bc : Nat} {a : List Nat} {row : List Int} {dist res mn : Int} (h : row.length = a.length) : InRow bc a (stepI bc a row dist res mn) 0 row dist res mn := ⟨[], row, rfl, rfl, h, rfl, rfl⟩
theorem InRow.last {bc : Nat} {a : List Nat} {T : List Int × Int × Int} {all : List Int} {dist res mn : Int} (h : InRow bc a T a.length all dist res mn) : all = T.1 ∧ res = T.2.1 ∧ mn = T.2.2 := by
  obtain ⟨done, rest, e1, e2, e3, e4, e5⟩ := h
  have hr : rest = [] := List.eq_nil_of_length_eq_zero (by rw [e1, List.length_append] at e3; omega)
  subst hr
  rw [List.drop_length] at e4 e5
  rw [List.append_nil] at e1
  have : stepI bc [] [] dist res mn = ([], res, mn) := rfl
  rw [this] at e4 e5
  rw [List.append_nil] at e4
  exact ⟨e1.trans e4, by rw [← e5], by rw [← e5]⟩
theorem InRow.next {bc : Nat} {a : List Nat} {T : List Int × Int × Int} {k : Nat} {all : List Int} {dist res mn : Int} (hk : k < a.length) (h : InRow bc a T k all dist res mn) :
    InRow bc a T (k + 1) (all.set k (mn2 (mn2 res (all.getD k 0) + 2) (dist + cost bc (a.getD k 0)))) (all.getD k 0) (mn2 (mn2 res (all.getD k 0) + 2) (dist + cost bc (a.getD k 0)))
      (if mn2 (mn2 res (all.getD k 0) + 2) (dist + cost bc (a.getD k 0)) < mn then mn2 (mn2 res (all.getD k 0) + 2) (dist + cost bc (a.getD k 0)) else mn) := by
  obtain ⟨done, rest, e1, e2, e3, e4, e5⟩ := h
  have e : a.drop k = a.getD k 0 :: a.drop (k + 1) := by rw [List.drop_eq_getElem_cons hk, List.getD_eq_getElem?_getD, List.getElem?_eq_getElem hk]; rfl
  match rest, e1, e4, e5 with
  | [], e1, _, _ => rw [e1, List.append_nil] at e3; omega
  | r :: rest, e1, e4, e5 =>
    have hg : all.getD k 0 = r := by rw [e1, List.getD_eq_getElem?_getD, List.getElem?_append_right (by omega), e2, Nat.sub_self]; rfl
    rw [hg]
    rw [e] at e4 e5
    refine ⟨done ++ [mn2 (mn2 res r + 2) (dist + cost bc (a.getD k 0))], rest, ?_, by simp [e2], by rw [List.length_set]; exact e3, ?_, e5⟩
    · rw [e1, List.set_append_right _ _ (by omega), e2, Nat.sub_self]
      simp
    · rw [List.append_assoc]
      exact e4
theorem InRow.next1 {bc : Nat} {a : List Nat} {T : List Int × Int × Int} {k : Nat} {all : List Int} {dist res mn : Int} (hk : k < a.length) (h : InRow bc a T k all dist res mn) (hm : mn2 (mn2 res (all.getD k 0) + 2) (dist + cost bc (a.getD k 0)) < mn) :
    InRow bc a T (k + 1) (all.set k (mn2 (mn2 res (all.getD k 0) + 2) (dist + cost bc (a.getD k 0)))) (all.getD k 0) (mn2 (mn2 res (all.getD k 0) + 2) (dist + cost bc (a.getD k 0))) (mn2 (mn2 res (all.getD k 0) + 2) (dist + cost bc (a.getD k 0))) := by
  have := h.next hk
  generalize mn2 (mn2 res (all.getD k 0) + 2) (dist + cost bc (a.getD k 0)) = z at *
  rw [if_pos hm] at this
  exact this
theorem InRow.next2 {bc : Nat} {a : List Nat} {T : List Int × Int × Int} {k : Nat} {all : List Int} {dist res mn : Int} (hk : k < a.length) (h : InRow bc a T k all dist res mn) (hm : ¬ mn2 (mn2 res (all.getD k 0) + 2) (dist + cost bc (a.getD k 0)) < mn) :
    InRow bc a T (k + 1) (all.set k (mn2 (mn2 res (all.getD k 0) + 2) (dist + cost bc (a.getD k 0)))) (all.getD k 0) (mn2 (mn2 res (all.getD k 0) + 2) (dist + cost bc (a.getD k 0))) mn := by
  have := h.next hk
  generalize mn2 (mn2 res (all.getD k 0) + 2) (dist + cost bc (a.getD k 0)) = z at *
  rw [if_neg hm] at this
  exact this
def rowOf (n : Nat) : List Int := (List.range n).map fun k : Nat => 2 * ((k : Int) + 1)
def levD (a b : List Nat) (mx : Int) : Int := if ((b.length : Int) - a.length) * 2 > mx then mx + 1 else stepO a mx b 0 (rowOf a.length) 0
def levS (a b : List Nat) (mx : Int) : Int := if a = [] ∨ b = [] then 2 * ((a.length : Int) + b.length) else if b.length < a.length then levD b a mx else levD a b mx
def levT (a b : List Nat) (mx : Int) : Int := levS (a.take (a.length - lcp a.reverse b.reverse)) (b.take (b.length - lcp a.reverse b.reverse)) mx
/-- what _levenshtein_distance answers, for short texts -/
def levP (a b : List Nat) (mx : Int) : Int := if a = b then 0 else levT (a.drop (lcp a b)) (b.drop (lcp a b)) mx
theorem levS_swap {a b : List Nat} {mx : Int} (ha : 0 < a.length) (hb : 0 < b.length) (h : b.length < a.length) : levS a b mx = levD b a mx := by
  unfold levS
  rw [if_neg (by rintro (rfl | rfl) <;> simp at *), if_pos h]
theorem levS_stay {a b : List Nat} {mx : Int} (ha : 0 < a.length) (hb : 0 < b.length) (h : ¬ b.length < a.length) : levS a b mx = levD a b mx := by
  unfold levS
  rw [if_neg (by rintro (rfl | rfl) <;> simp at *), if_neg h]
theorem fr_known {h₀ h : Heap} {L : Addr} {m : Str → Option Value} (ps : List (Str × Value)) (F : Fr h₀ L h m) (h1 : ∀ p ∈ ps, m p.1 = some p.2) : Fr h₀ L h (kstB m ps) := by
  have : kstB m ps = m := by
    funext z
    exact kstB_eq h1 fun _ => rfl
  rw [this]
  exact F
/-- what «e or None» gives -/
def orN (z : Int) (t : Tok) : Value := if z = 0 then .none else .int z t
def OrNPost (Q : Value → Shared → Prop) (v : Value) (s : Shared) : Prop := match v with
  | .int z t => Q (orN z t) s
  | _ => False
theorem or_none {prog : Program} {w : World} {A : Around} {E : Value → Shared → Prop} {s : Shared} {env : Env} {n : Str} {pn p2 pos : Pos} {k : Nat} {Q : Value → Shared → Prop}
    (h : wpAny (model prog w) A (eval (.Name n pn) env) (OrNPost Q) E s) : wpAny (model prog w) A (eval (.BoolOp .Or [.Name n pn, .Constant .none k p2] pos) env) Q E s := by
  refine BoolOp_or (wpAny_mono h (fun v s₁ h₁ => ?_) fun _ _ e => e)
  match v, h₁ with
  | .int z t, h₁ =>
    refine PyProof.Rows.truthy_int ?_
    have h2 : Q (orN z t) s₁ := h₁
    unfold orN at h2
    by_cases hz : z = 0
    · subst hz
      rw [if_pos rfl] at h2
      simp only [bne_self_eq_false, Bool.false_eq_true, if_false]
      exact BoolOp_one (wpAny_pure h2)
    · rw [if_neg hz] at h2
      have : (z != 0) = true := by simpa using hz
      simp only [this, if_true]
      exact h2
/-- a text of these signs -/
def mk (l : List Nat) : Str := ⟨l.toArray⟩
theorem mk_of (x : Str) : mk x.cps.toList = x := by cases x; rfl
theorem mk_length (l : List Nat) : (mk l).length = l.length := by simp [mk, Str.length]
theorem mk_list (l : List Nat) : (mk l).cps.toList = l := by simp [mk]
theorem mk_eq {a b : List Nat} : (mk a == mk b) = decide (a = b) := by
  by_cases h : a = b
  · subst h; simp
  · have : ¬ mk a = mk b := fun e => h (by have := congrArg (fun x : Str => x.cps.toList) e; simpa [mk] using this)
    simp [h, this]
theorem slice_sn (l : List Nat) (p : Nat) (hp : p ≤ l.length) : Txt.slice (mk l) (some (p : Int)) none = mk (l.drop p) := by
  have := StrLaws.sliceText_from (x := mk l) (i := (p : Int)) ⟨by omega, by rw [mk_list]; omega⟩
  rw [mk_list] at this
  refine Eq.trans this ?_
  unfold mk
  congr 1
  rw [Int.toNat_natCast, List.take_of_length_le (by rw [List.length_drop]; omega)]
theorem slice_nn (x : Str) : Txt.slice x none none = x := by
  have e : (Builtin.Str.strSliceIndices none none 1 x.length).length = x.length := by
    rw [StrLaws.sliceIdx_none_lo, StrLaws.sliceIdx_none_hi, show (some (0 : Int)) = some ((0 : Nat) : Int) from rfl, StrLaws.strSliceIndices_plain (a := 0) (b := x.length) (Nat.zero_le _) (Nat.le_refl _)]
    simp
  unfold Txt.slice
  rw [e]
  simp
theorem slice_ns (l : List Nat) (q : Nat) (hq : q ≤ l.length) (h0 : 0 < q) : Txt.slice (mk l) none (some (-(q : Int))) = mk (l.take (l.length - q)) := by
  have e : Txt.slice (mk l) none (some (-(q : Int))) = StrLaws.sliceText (mk l) none (some ((l.length - q : Nat) : Int)) := by
    show StrLaws.sliceText (mk l) none (some (-(q : Int))) = _
    unfold StrLaws.sliceText
    have : Builtin.Str.strSliceIndices none (some (-(q : Int))) 1 (mk l).length = Builtin.Str.strSliceIndices none (some ((l.length - q : Nat) : Int)) 1 (mk l).length := by
      rw [mk_length]
      unfold Builtin.Str.strSliceIndices
      have a1 : -(q : Int) < 0 := by omega
      have a2 : ¬ ((l.length - q : Nat) : Int) < 0 := by omega
      simp only [a1, a2, if_true, if_false]
      congr 1
      have : (-(q : Int) + (l.length : Int)) = ((l.length - q : Nat) : Int) := by omega
      rw [this]
    rw [this]
  rw [e, StrLaws.sliceText_to ⟨by omega, by rw [mk_list]; omega⟩, mk_list]
  unfold mk
  congr 2
theorem lcp_le : ∀ a b : List Nat, lcp a b ≤ a.length ∧ lcp a b ≤ b.length
  | [], b => by cases b <;> simp [lcp]
  | x :: a, [] => by simp [lcp]
  | x :: a, y :: b => by
    unfold lcp
    split
    · have := lcp_le a b; simp only [List.length_cons]; omega
    · simp
theorem lcp_step : ∀ (a b : List Nat) (p : Nat), p ≤ lcp a b → p < a.length → p < b.length → a.getD p 0 = b.getD p 0 → p + 1 ≤ lcp a b
  | [], _, _, _, h, _, _ => absurd h (Nat.not_lt_zero _)
  | _ :: _, [], _, _, _, h, _ => absurd h (Nat.not_lt_zero _)
  | x :: a, y :: b, 0, _, _, _, e => by
    have e' : x = y := e
    unfold lcp
    rw [if_pos e']
    omega
  | x :: a, y :: b, p + 1, h, h1, h2, e => by
    unfold lcp at h ⊢
    split
    · rename_i hx
      rw [if_pos hx] at h
      have := lcp_step a b p (by omega) (by simpa using h1) (by simpa using h2) (by simpa using e)
      omega
    · rename_i hx
      rw [if_neg hx] at h
      omega
theorem lcp_stop : ∀ (a b : List Nat) (p : Nat), p ≤ lcp a b → p < a.length → p < b.length → ¬ a.getD p 0 = b.getD p 0 → lcp a b = p
  | [], _, _, _, h, _, _ => absurd h (Nat.not_lt_zero _)
  | _ :: _, [], _, _, _, h, _ => absurd h (Nat.not_lt_zero _)
  | x :: a, y :: b, 0, _, _, _, e => by
    have e' : ¬ x = y := e
    unfold lcp
    rw [if_neg e']
  | x :: a, y :: b, p + 1, h, h1, h2, e => by
    unfold lcp at h ⊢
    split
    · rename_i hx
      rw [if_pos hx] at h
      have := lcp_stop a b p (by omega) (by simpa using h1) (by simpa using h2) (by simpa using e)
      omega
    · rename_i hx
      rw [if_neg hx] at h
      omega
section
variable {prog : Program} {w : World} {A : Around} {E : Value → Shared → Prop} {s : Shared} {h₀ : Heap} {L : Addr} {m : Str → Option Value} {news : List (Addr × Obj)} {l : List Nat} {t : Tok} {value slice : PySem.Expr}
theorem mk_truthy {Q : Bool → Shared → Prop} (hl : l.length ≤ 3000) (h : Q (decide (0 < l.length)) { s with toks := s.toks + 1 + 1 }) : wpAny (model prog w) A (truthy (.str (mk l) t)) Q E s := by
  refine P.truthy_str (by rw [mk_length]; omega) ?_
  rw [mk_length]
  have : ((l.length : Int) != 0) = decide (0 < l.length) := by
    cases l with
    | nil => rfl
    | cons a r => simp; omega
  rw [this]; exact h
theorem mk_sn {p : Nat} {up : Tok} {Q : Value → Shared → Prop} (hF : Fr h₀ L s.heap m) (hN : News h₀ L s.heap news) (hl : l.length ≤ 3000) (hp : p ≤ l.length) (h : ∀ h' t' k, Fr h₀ L h' m → News h₀ L h' news → Q (.str (mk (l.drop p)) t') { s with heap := h', toks := k })
    (hs : subscripted slice false (.str (mk l) t) (.ref s.heap.objs.size) = operate [.ref s.heap.objs.size, .str (mk l) t] (getItem (.str (mk l) t) (.ref s.heap.objs.size)) := by with_unfolding_all rfl)
    (ht : ∀ r, letTemporaryGo value (.str (mk l) t) r = pure () := by intro _; with_unfolding_all rfl) :
    wpAny (model prog w) A (subscriptTail value slice (.str (mk l) t) (.ref s.heap.objs.size)) Q E { s with heap := s.heap.push { cls := .type "slice", data := .fields #[.int (p : Int) up, .none, .none] } } :=
  slice_strN_sn hF hN (fun h' t' k F N => by rw [slice_sn l p hp]; exact h h' t' k F N) hs ht (by rw [mk_length, sizeLine_eq]; omega)
theorem mk_ns {q : Nat} {z : Int} {up : Tok} {Q : Value → Shared → Prop} (hz : z = -(q : Int)) (hF : Fr h₀ L s.heap m) (hN : News h₀ L s.heap news) (hl : l.length ≤ 3000) (hq : q ≤ l.length) (h : ∀ h' t' k, Fr h₀ L h' m → News h₀ L h' news → Q (.str (mk (l.take (l.length - q))) t') { s with heap := h', toks := k })
    (hs : subscripted slice false (.str (mk l) t) (.ref s.heap.objs.size) = operate [.ref s.heap.objs.size, .str (mk l) t] (getItem (.str (mk l) t) (.ref s.heap.objs.size)) := by with_unfolding_all rfl)
    (ht : ∀ r, letTemporaryGo value (.str (mk l) t) r = pure () := by intro _; with_unfolding_all rfl) :
    wpAny (model prog w) A (subscriptTail value slice (.str (mk l) t) (.ref s.heap.objs.size)) Q E { s with heap := s.heap.push { cls := .type "slice", data := .fields #[.none, orN z up, .none] } } := by
  by_cases h0 : q = 0
  · subst h0
    have e : orN z up = .none := by unfold orN; rw [if_pos (by omega)]
    rw [e]
    refine slice_strN_nn hF hN (fun h' t' k F N => ?_) hs ht (by rw [mk_length, sizeLine_eq]; omega)
    rw [slice_nn (mk l)]
    have := h h' t' k F N
    rw [Nat.sub_zero, List.take_length] at this
    exact this
  · have e : orN z up = .int (-(q : Int)) up := by unfold orN; rw [if_neg (by omega), hz]
    rw [e]
    exact slice_strN_ns hF hN (fun h' t' k F N => by rw [slice_ns l q hq (by omega)]; exact h h' t' k F N) hs ht (by rw [mk_length, sizeLine_eq]; omega)
theorem mk_item {i : Int} {j : Nat} {u : Tok} {Q : Value → Shared → Prop} (hj : j < l.length) (hij : i = (j : Int) ∨ i = (j : Int) - l.length) (hl : l.length ≤ 3000) (h : ∀ t' k, Q (.str ⟨#[l.getD j 0]⟩ t') { s with toks := k })
    (hs : subscripted slice false (.str (mk l) t) (.int i u) = operate [.str (mk l) t, .int i u] (getItem (.str (mk l) t) (.int i u)) := by with_unfolding_all rfl)
    (ht : ∀ r, letTemporaryGo value (.str (mk l) t) r = pure () := by intro _; with_unfolding_all rfl) :
    wpAny (model prog w) A (subscriptTail value slice (.str (mk l) t) (.int i u)) Q E s := by
  have e : Txt.item (mk l) i = ⟨#[l.getD j 0]⟩ := by
    unfold Txt.item Txt.charAt
    have hx : (seqIndex? i (mk l).length) = some j := by
      rw [mk_length]
      unfold seqIndex?
      rcases hij with e | e
      · have a : ¬ i < 0 := by omega
        simp [a]; omega
      · have a : i < 0 := by omega
        simp [a]; omega
    rw [hx]
    simp [mk, hj]
  refine item_str (by rcases hij with e | e <;> (unfold fitsSsize; simp; omega)) (by rw [mk_length]; omega) (by rw [mk_length]; omega) (fun _ => ?_) hs ht
  rw [e]
  exact h _ _
theorem mk_truthy_drop {p : Nat} {Q : Bool → Shared → Prop} (hl : l.length ≤ 3000) (h : Q (decide (p < l.length)) { s with toks := s.toks + 1 + 1 }) : wpAny (model prog w) A (truthy (.str (mk (l.drop p)) t)) Q E s := by
  refine mk_truthy (by rw [List.length_drop]; omega) ?_
  have e : decide (0 < (l.drop p).length) = decide (p < l.length) := by rw [List.length_drop]; congr 1; exact propext ⟨fun h => by omega, fun h => by omega⟩
  rw [e]; exact h
theorem mk_truthy_take {q : Nat} {Q : Bool → Shared → Prop} (hl : l.length ≤ 3000) (h : Q (decide (q < l.length)) { s with toks := s.toks + 1 + 1 }) : wpAny (model prog w) A (truthy (.str (mk (l.take (l.length - q))) t)) Q E s := by
  refine mk_truthy (by rw [List.length_take]; omega) ?_
  have e : decide (0 < (l.take (l.length - q)).length) = decide (q < l.length) := by rw [List.length_take]; congr 1; exact propext ⟨fun h => by omega, fun h => by omega⟩
  rw [e]; exact h
theorem mk_itemP {j : Nat} {u : Tok} {Q : Value → Shared → Prop} (hj : j < l.length) (hl : l.length ≤ 3000) (h : ∀ t' k, Q (.str ⟨#[l.getD j 0]⟩ t') { s with toks := k })
    (hs : subscripted slice false (.str (mk l) t) (.int (j : Int) u) = operate [.str (mk l) t, .int (j : Int) u] (getItem (.str (mk l) t) (.int (j : Int) u)) := by with_unfolding_all rfl)
    (ht : ∀ r, letTemporaryGo value (.str (mk l) t) r = pure () := by intro _; with_unfolding_all rfl) :
    wpAny (model prog w) A (subscriptTail value slice (.str (mk l) t) (.int (j : Int) u)) Q E s := mk_item hj (.inl rfl) hl h hs ht
theorem mk_itemR {z : Int} {q : Nat} {u : Tok} {Q : Value → Shared → Prop} (hz : z = -(q : Int)) (hq : q < l.length) (hl : l.length ≤ 3000) (h : ∀ t' k, Q (.str ⟨#[l.reverse.getD q 0]⟩ t') { s with toks := k })
    (hs : subscripted slice false (.str (mk l) t) (.int (z - 1) u) = operate [.str (mk l) t, .int (z - 1) u] (getItem (.str (mk l) t) (.int (z - 1) u)) := by with_unfolding_all rfl)
    (ht : ∀ r, letTemporaryGo value (.str (mk l) t) r = pure () := by intro _; with_unfolding_all rfl) :
    wpAny (model prog w) A (subscriptTail value slice (.str (mk l) t) (.int (z - 1) u)) Q E s := by
  refine mk_item (j := l.length - 1 - q) (by omega) (.inr (by omega)) hl (fun t' k => ?_) hs ht
  have e : l.getD (l.length - 1 - q) 0 = l.reverse.getD q 0 := by
    rw [List.getD_eq_getElem?_getD, List.getD_eq_getElem?_getD, List.getElem?_reverse hq]
  rw [e]
  exact h t' k
theorem mk_len {Q : Value → Shared → Prop} (hl : l.length ≤ 3000) (h : Q (.int (l.length : Int) (s.toks + 1)) { s with toks := s.toks + 1 + 1 }) : wpAny (model prog w) A (call (.builtin "len") [.str (mk l) t]) Q E s :=
  P.len_str (by rw [mk_length]; omega) (by rw [mk_length]; exact h)
end

end
section
open PySem PySem.W PyProof.Rows PySem.Spec PySem.Calls
theorem ints_step2 : ∀ (vs : List Value) (a : Int) (n : Nat), vs.length = n → (∀ (j : Nat) (v : Value), vs[j]? = some v → ∃ t, v = .int (a + j * 2) t) → IntsAre vs ((List.range n).map fun k : Nat => a + 2 * (k : Int))
  | [], a, n, e, _ => by
    subst e
    exact IntsAre.nil
  | v :: r, a, n, e, h => by
    subst e
    have e2 : ((List.range (v :: r).length).map fun k : Nat => a + 2 * (k : Int)) = a :: ((List.range r.length).map fun k : Nat => (a + 2) + 2 * (k : Int)) := by
      rw [List.length_cons, List.range_succ_eq_map, List.map_cons, List.map_map]
      congr 1
      · simp
      · apply List.map_congr_left
        intro k _
        simp only [Function.comp, Nat.succ_eq_add_one, Int.natCast_add, Int.natCast_one]
        omega
    rw [e2]
    obtain ⟨t, ht⟩ := h 0 v rfl
    have hv : v = .int a t := by rw [ht]; simp
    subst hv
    refine IntsAre.cons _ _ (ints_step2 r (a + 2) r.length rfl fun j v hj => ?_)
    obtain ⟨t', ht'⟩ := h (j + 1) v hj
    refine ⟨t', ht'.trans ?_⟩
    congr 1
    omega
theorem rowOf_eq (n : Nat) : rowOf n = (List.range n).map fun k : Nat => (2 : Int) + 2 * (k : Int) := by
  unfold rowOf
  apply List.map_congr_left
  intro k _
  omega
section
variable {prog : Program} {w : World} {A : Around} {E : Value → Shared → Prop} {s : Shared} {h₀ : Heap} {L : Addr} {m : Str → Option Value} {news : List (Addr × Obj)}
theorem list_range2 {r : Addr} {n : Nat} {t₀ u₀ v₀ : Tok} {Q : Value → Shared → Prop} (hh : A.handled = none) (F : Fr h₀ L s.heap m) (N : News h₀ L s.heap news) (hr : IsRange s.heap r 2 (2 * ((n : Int) + 1)) 2 t₀ u₀ v₀) (hz : n ≤ 3000)
    (h : ∀ D us c h' tk, Fr h₀ L h' m → News h₀ L h' ((D, listOf (List.toArray us) c) :: news) → (∀ p ∈ news, p.1 < D) → IntsAre us (rowOf n) → Q (.ref D) { s with heap := h', toks := tk }) :
    wpAny (model prog w) A (call (.type "list") [.ref r]) Q E s := by
  have hn : Builtin.Range.rangeSize 2 (2 * ((n : Int) + 1)) 2 = (n : Int) := by
    unfold Builtin.Range.rangeSize
    rw [if_pos (by decide)]
    split <;> omega
  have hsmall : Builtin.Range.small 2 (2 * ((n : Int) + 1)) 2 = true := by
    have f : ∀ i : Int, -(2 ^ 63) ≤ i → i < 2 ^ 63 → Builtin.Range.rangeFitsLong i = true := fun i a b => by unfold Builtin.Range.rangeFitsLong; rw [Bool.and_eq_true, decide_eq_true_eq, decide_eq_true_eq]; exact ⟨a, b⟩
    unfold Builtin.Range.small
    rw [hn, f 2 (by decide) (by decide), f _ (by omega) (by omega), f (n : Int) (by omega) (by omega), if_pos (by decide), f _ (by omega) (by omega)]
    simp
  refine call_list_range hh hr hsmall hn (by omega) fun h' tk acc c hk hD hI => ?_
  have hD' : h'.get? s.heap.objs.size = some (listOf (List.toArray acc.toList) c) := by
    rw [Array.toArray_toList]
    exact hD
  refine h _ acc.toList c h' tk (F.keeps hk) (news_pushed F N hk hD' rfl) (fun p hp => Heap.lt_size (N p hp).1) ?_
  rw [rowOf_eq]
  exact ints_step2 _ _ _ (by rw [Array.length_toList]; exact hI.1) fun j v hj => hI.2 j v (by rw [← hj, Array.getElem?_toList])
end
section
variable {prog : Program} {w : World} {A : Around} {E : Value → Shared → Prop} {s : Shared} {env : Env} {h₀ : Heap} {L : Addr}
theorem rg_for {v : Str} {px pos : Pos} {iter : Expr} {body : List Stmt} {Q : Flow → Shared → Prop} (J : Nat → (Str → Option Value) → List (Addr × Obj) → Prop) {n : Nat} (hh : A.handled = none)
    (h : wpAny (model prog w) A (eval iter env) (fun xv s₁ => CiStop (∃ h₁ tk r t u w' m news, s₁ = { s with heap := h₁, toks := tk } ∧ xv = .ref r ∧ IsRange h₁ r 0 (n : Int) 1 t u w' ∧ n ≤ 3000 ∧ Fr h₀ L h₁ m ∧ News h₀ L h₁ news ∧ J 0 m news)) E s)
    (turn : ∀ i I h' tk ti m news, i < n → J i m news → Sep I news → Fr h₀ L h' m → News h₀ L h' ((I, rgObj ((i + 1 : Nat) : Int) (n : Int)) :: news) →
      wpAny (model prog w) A (storeName env v (.int (i : Int) ti)) (fun _ s₂ => wpAny (model prog w) A (execs body env) (OwitFlow Q (fun s₃ => CiStop (∃ h' tk m' news', s₃ = { s with heap := h', toks := tk } ∧ Fr h₀ L h' m' ∧ News h₀ L h' ((I, rgObj ((i + 1 : Nat) : Int) (n : Int)) :: news') ∧ Sep I news' ∧ J (i + 1) m' news'))) E s₂) E { s with heap := h', toks := tk })
    (done : ∀ h' tk m news, J n m news → Fr h₀ L h' m → News h₀ L h' news → Q .next { s with heap := h', toks := tk })
    (hs : ∀ x, foldedSetIterable iter env x = pure x := by intro _; rfl) (hE : PassesOwn (model prog w) A env E := by passes_own) :
    wpAny (model prog w) A (exec (.For (.Name v px) iter body [] pos) env) Q E s := by
  refine wpAny_For (wpAny_mono h (fun xv s₁ h₁ => ?_) fun _ _ z => z) hs
  obtain ⟨h₁, tk, r, t, u, w', m, news, rfl, rfl, hr, hn, F, N, hJ⟩ := h₁
  refine wpAny_pyIter_range hr (small_one (by decide) (by decide) (by omega) (by omega)) ?_
  refine codeAny_forLoop (R := fun r s' => match r with | .ok f => Q f s' | .error e => cameBackBy (model prog w) A env E e s')
    (fun k s' => ∃ i h' tk' m' news', s' = { s with heap := h', toks := tk' } ∧ k = n - i ∧ i ≤ n ∧ Fr h₀ L h' m' ∧ News h₀ L h' ((h₁.objs.size, rgObj ((i : Nat) : Int) (n : Int)) :: news') ∧ Sep h₁.objs.size news' ∧ J i m' news') ?_ n ⟨0, _, tk, m, news, rfl, by omega, Nat.zero_le _, F.push _, ?_, ?_, hJ⟩
  · rintro k s' ⟨i, h', tk', m', news', rfl, rfl, hi, F', N', S', hJ'⟩
    have z := N' _ (.head _)
    refine wpAny_passesOwn hE ?_
    by_cases hlt : i < n
    · refine wpAny_pyNext_range_item z.1 (by omega) fun h₂ hit₂ hs₂ => ?_
      have ei : ((i + 1 : Nat) : Int) = (i : Int) + 1 := by omega
      have hit' : h₂.get? h₁.objs.size = some (rgObj ((i + 1 : Nat) : Int) (n : Int)) := by
        rw [hit₂, ei]
        show some _ = some _
        have : (n : Int) - (i : Int) - 1 = (n : Int) - ((i : Int) + 1) := by omega
        rw [this]
      refine wpAny_passesOwn hE (wpAny_assign_Name (wpAny_mono (turn i h₁.objs.size h₂ _ _ m' news' hlt hJ' S' (F'.change hs₂ z.2.1 z.2.2) (news_set (pre := []) N' (fun _ h => nomatch h) (fun p hp => (S' p hp).h) hs₂ hit')) (fun _ s₂ h₂ => ?_) fun _ _ z => z))
      refine wpAny_passesOwn hE (wpAny_mono h₂ (fun f s₃ h₃ => ?_) fun _ _ z => z)
      cases f with
      | next =>
        obtain ⟨h', tk, m2, news2, rfl, F2, N2, S2, hJ2⟩ := h₃
        exact ⟨n - (i + 1), by omega, i + 1, h', tk, m2, news2, rfl, rfl, by omega, F2, N2, S2, hJ2⟩
      | cont =>
        obtain ⟨h', tk, m2, news2, rfl, F2, N2, S2, hJ2⟩ := h₃
        exact ⟨n - (i + 1), by omega, i + 1, h', tk, m2, news2, rfl, rfl, by omega, F2, N2, S2, hJ2⟩
      | brk => exact h₃
      | ret _ => exact h₃
    · have hin : i = n := by omega
      subst hin
      refine wpAny_pyNext_range_end hh z.1 (by omega) fun h₂ he₂ => wpAny_execs_nil ?_
      exact done h₂ _ m' news' hJ' (fr_but F' he₂ z.2.2 z.2.1.symm) (news_but N' he₂ news' (fun p hp => .tail _ hp) fun p hp => (S' p hp).h)
  · have e1 : (n : Int) - ((0 : Nat) : Int) = (n : Int) := by omega
    have e2 : Builtin.Range.rangeSize 0 (n : Int) 1 = (n : Int) := by rw [rangeSize_nat]; omega
    have := News.push F N { cls := .type "range_iterator", data := .fields #[rawInt 0, rawInt (Builtin.Range.rangeSize 0 (n : Int) 1), rawInt 1] } rfl
    rw [e2] at this
    rw [e2]
    show News h₀ L _ ((h₁.objs.size, { cls := .type "range_iterator", dict := none, data := .fields #[rawInt 0, rawInt ((n : Int) - 0), rawInt 1], slots := #[] }) :: news)
    rw [Int.sub_zero]
    exact this
  · exact fun p hp => ⟨Nat.ne_of_lt (Heap.lt_size (N p hp).1)⟩
end

end
section
open PySem PySem.W PyProof.Rows PySem.Spec PySem.Calls
theorem ints_at : ∀ {vs : List Value} {ns : List Int}, IntsAre vs ns → ∀ {j : Nat} {v : Value}, vs[j]? = some v → ∃ n t, v = .int n t
  | _, _, .nil, _, _, h => by simp at h
  | _, _, .cons n t _, 0, v, h => ⟨n, t, by simpa using h.symm⟩
  | _, _, .cons _ _ r, j + 1, v, h => ints_at r (by simpa using h)
theorem ints_picked {vs : List Value} {ns : List Int} (h : IntsAre vs ns) (a b c : Option Int) : ∃ ns', IntsAre (slicePick vs.toArray a b c).toList ns' := by
  unfold slicePick
  rw [List.toList_toArray]
  generalize sliceRange _ _ _ = l
  induction l with
  | nil => exact ⟨[], .nil⟩
  | cons j r ih =>
    obtain ⟨ns', ih⟩ := ih
    cases e : vs.toArray[j]? with
    | none => exact ⟨ns', by rw [List.filterMap_cons, e]; exact ih⟩
    | some v =>
      obtain ⟨n, t, rfl⟩ := ints_at h (j := j) (v := v) (by simpa using e)
      exact ⟨n :: ns', by rw [List.filterMap_cons, e]; exact .cons n t ih⟩
section
variable {prog : Program} {w : World} {A : Around} {E : Value → Shared → Prop} {s : Shared} {h₀ : Heap} {L : Addr} {m : Str → Option Value} {news : List (Addr × Obj)}
theorem sum_picked {D : Addr} {vs : List Value} {ns : List Int} {a b c : Option Int} {Q : Value → Shared → Prop} (hh : A.handled = none) (F : Fr h₀ L s.heap m) (N : News h₀ L s.heap ((D, ({ cls := .type "list", data := .seq (slicePick vs.toArray a b c) } : Obj)) :: news)) (hi : IntsAre vs ns)
    (h : ∀ (S : Int) h' tk t', Fr h₀ L h' m → News h₀ L h' news → Q (.int S t') { s with heap := h', toks := tk }) : wpAny (model prog w) A (call (.builtin "sum") [.ref D]) Q E s := by
  obtain ⟨ns', hi'⟩ := ints_picked hi a b c
  exact LSm.sum_ints F N hh (vs := (slicePick vs.toArray a b c).toList) (PySem.IsL.isList (n := 0) (by rw [Array.toArray_toList]; exact (N _ (.head _)).1)) hi' fun h' tk t' F' N' => h _ h' tk t' F' (fun p hp => N' p (.tail _ hp))
end
section
variable {prog : Program} {w : World} {A : Around} {h₀ : Heap} {L : Addr} {m : Str → Option Value} {env : Env} {elt : Expr} {x : Str} {scope : Scope} {cl : List (Str × Addr)} {s : Shared} {S : List (Addr × Obj) → Prop} {Fin : List Value → List (Addr × Obj) → Prop} {news : List (Addr × Obj)}
/-- a comprehension over range(n): what is known of each item -/
theorem cx_range {n : Nat} (El : Nat → Value → Prop)
    (turn : ∀ (k : Nat) t I oI C oC D m₂ ys h tk (E' : Value → Shared → Prop), k < n → LCg.NsObj oC m₂ → m₂ x = some (.int (0 + (k : Int)) t) → Fr h₀ L h m → News h₀ L h ((I, oI) :: (C, oC) :: (D, LCg.lst ys) :: news) → LCg.Off3 I C D news → ((@Ne Nat I C) ∧ (@Ne Nat I D) ∧ (@Ne Nat C D)) →
      wpAny (model prog w) A (eval elt (compEnvC scope cl C env)) (fun y s₂ => CiStop (LCg.CompEnd h₀ L m { s with heap := h, toks := tk } I oI C oC D (LCg.lst ys) S (fun y news' => news' = news ∧ El k y) y s₂)) E' { s with heap := h, toks := tk })
    (fin : ∀ ys, ys.length = n → (∀ k v, ys[k]? = some v → El k v) → Fin ys news) : LCg.CompRest prog w A h₀ L m env elt x scope cl s S (fun i v => ∃ t, v = .int (0 + (i : Int)) t) Fin n 0 [] news := by
  have key : ∀ (j i : Nat) (ys : List Value), i + j = n → ys.length = i → (∀ k v, ys[k]? = some v → El k v) → LCg.CompRest prog w A h₀ L m env elt x scope cl s S (fun i v => ∃ t, v = .int (0 + (i : Int)) t) Fin j i ys news := by
    intro j
    induction j with
    | zero =>
      intro i ys hi hl hy
      exact LCg.CompRest.zero (fin ys (by omega) hy)
    | succ j ih =>
      intro i ys hi hl hy
      refine LCg.CompRest.succ ?_
      intro v I oI C oC D m₂ h tk E' hv hC hx F N off ne
      obtain ⟨t, hv'⟩ := hv
      rw [hv'] at hx
      refine wpAny_mono (turn i t I oI C oC D m₂ ys h tk E' (by omega) hC hx F N off ne) (fun y s₂ hq => ?_) fun _ _ e => e
      obtain ⟨h', tk', nw, e, F', N', off', hS, hn, hE⟩ := hq.out
      rw [hn] at N' off' hS
      refine ⟨h', tk', news, e, F', N', off', hS, ih (i + 1) _ (by omega) (by simp [hl]) fun k v hk => ?_⟩
      by_cases hkl : k < ys.length
      · rw [List.getElem?_append_left hkl] at hk
        exact hy k v hk
      · rw [List.getElem?_append_right (by omega)] at hk
        have : k = ys.length := by
          cases hd : k - ys.length with
          | zero => omega
          | succ d => rw [hd] at hk; simp at hk
        subst this
        rw [Nat.sub_self] at hk
        simp at hk
        subst hk
        rw [hl]
        exact hE
  exact key n 0 [] (by omega) rfl (by simp)
end
section
variable {h₀ : Heap} {L : Addr} {m : Str → Option Value} {s : Shared} {ys : List Value} {news : List (Addr × Obj)}
theorem off1_sep {D : Addr} : ∀ {l : List (Addr × Obj)}, LCg.Off1 D l → Sep D l
  | [], _ => fun _ h => nomatch h
  | p :: r, h => fun q hq => by
    rcases List.mem_cons.mp hq with rfl | hq
    · exact ⟨h.1⟩
    · exact off1_sep h.2 q hq
theorem finE_sep {Q : Value → Shared → Prop} (h : ∀ D h tk, Fr h₀ L h m → News h₀ L h ((D, LCg.lst ys) :: news) → Sep D news → Q (.ref D) { s with heap := h, toks := tk }) : LCg.FinE h₀ L m s Q ys news := fun D g tk F N o => h D g tk F N (off1_sep o)
theorem finA_sep {y : Str} {Q : Flow → Shared → Prop} (h : ∀ D h tk, Fr h₀ L h (fun z => if z = y then some (.ref D) else m z) → News h₀ L h ((D, LCg.lst ys) :: news) → Sep D news → Q .next { s with heap := h, toks := tk }) : LCg.FinA h₀ L m s y Q ys news := fun D g tk F N o => h D g tk F N (off1_sep o)
end
theorem mulok_small {a b : Int} (ha : a.natAbs < 2 ^ 200) (hb : b.natAbs < 2 ^ 200) : IntMulOk a b := .of_le (m := 200) (n := 200) (PySem.intBits_le_iff.mpr ha) (PySem.intBits_le_iff.mpr hb) (by decide)
section
variable {prog : Program} {w : World} {A : Around} {E : Value → Shared → Prop} {s : Shared} {h₀ : Heap} {L D : Addr} {m : Str → Option Value} {news : List (Addr × Obj)}
theorem num_item {value slice : PySem.Expr} {vs : List Value} {l : List Int} {n : Nat} {k M : Int} {u : Tok} {Q : Value → Shared → Prop} (hM : 0 < M) (N : News h₀ L s.heap news) (hm : (D, listOf vs.toArray n) ∈ news) (hi : IntsAre vs (List.map (fun k' => k'.fmod M) l)) (h0 : 0 ≤ k) (h1 : k < (List.map (fun k' => k'.fmod M) l).length) (hfit : k < 2 ^ 63)
    (h : ∀ z t, 0 ≤ z → z < M → Q (.int z t) s)
    (hs : subscripted slice false (.ref D) (.int k u) = operate [.ref D, .int k u] (getItem (.ref D) (.int k u)) := by with_unfolding_all rfl) :
    wpAny (model prog w) A (subscriptTail value slice (.ref D) (.int k u)) Q E s := by
  refine ksa_sub N hm hi h0 h1 hfit (fun t => ?_) hs
  have hk : k.toNat < l.length := by rw [List.length_map] at h1; omega
  have e : (List.map (fun k' => k'.fmod M) l).getD k.toNat 0 = (l[k.toNat]).fmod M := by
    rw [List.getD_eq_getElem?_getD, List.getElem?_map, List.getElem?_eq_getElem hk]; rfl
  rw [e]
  exact h _ t (Int.fmod_nonneg_of_pos _ hM) (Int.fmod_lt_of_pos _ hM)
end
theorem ints_bound {B : Int} (hB : 0 ≤ B) : ∀ (ys : List Value), (∀ (k : Nat) (v : Value), ys[k]? = some v → ∃ z t, v = Value.int z t ∧ 0 ≤ z ∧ z < B) → ∃ ns, IntsAre ys ns ∧ 0 ≤ ns.sum ∧ ns.sum ≤ ys.length * B
  | [], _ => ⟨[], .nil, Int.le_refl _, by simp⟩
  | y :: ys, h => by
    obtain ⟨z, t, rfl, h0, h1⟩ := h 0 y rfl
    obtain ⟨ns, a, b, c⟩ := ints_bound hB ys fun k v hk => h (k + 1) v (by simpa using hk)
    refine ⟨z :: ns, .cons z t a, by rw [List.sum_cons]; omega, ?_⟩
    rw [List.sum_cons, List.length_cons]
    have : ((ys.length + 1 : Nat) : Int) * B = ys.length * B + B := by
      rw [Int.natCast_add, Int.add_mul]; simp
    rw [this]
    omega
theorem el_lo {k : Nat} {z : Int} (h : 0 ≤ z) : 0 ≤ (0 + (k : Int) + 1) * z := Int.mul_nonneg (by omega) h
theorem el_hi {k : Nat} {z : Int} (hk : k < 24) (h : 0 ≤ z) (h2 : z < 10 ^ Int.toNat 20) : (0 + (k : Int) + 1) * z < 2 ^ 72 := by
  have e : (10 : Int) ^ Int.toNat 20 = 100000000000000000000 := by decide
  rw [e] at h2
  have := Int.mul_le_mul_of_nonneg_right (show (0 + (k : Int) + 1) ≤ 24 by omega) h
  omega

end
section
open PySem PySem.W PyProof.Rows PySem.Spec PySem.Calls PyProof.V
def bodyOf (K : Frag) (f : Addr) : List Stmt := match K.lookup f with
  | some o => (match o.data with | .func d => (match d.body with | .stmts b => b | _ => []) | _ => [])
  | none => []
def scopeOf (K : Frag) (f : Addr) : Scope := match K.lookup f with
  | some o => (match o.data with | .func d => d.scope | _ => { kind := .module, names := [], isGenerator := false, isCoroutine := false })
  | none => { kind := .module, names := [], isGenerator := false, isCoroutine := false }
theorem tail_enter {K : Frag} {f : Addr} {oc dV kV doc pm cdv ct : Value} {od an : Option Addr} {name qual : Str} {params : Arguments} {body : List Stmt} {scope : Scope} {osl : Array (Option Value)} (P : List Stmt → Scope → Prop)
    (ho : K.lookup f = some ⟨oc, od, .func (fnOf name qual params body scope dV kV doc pm an cdv ct), osl⟩) (h : P body scope) : P (bodyOf K f) (scopeOf K f) := by
  have e1 : bodyOf K f = body := by unfold bodyOf; rw [ho]
  have e2 : scopeOf K f = scope := by unfold scopeOf; rw [ho]
  rw [e1, e2]
  exact h
theorem strsAre_txts : ∀ ws : List (Str × Tok), StrsAre (ws.map fun p => Value.str p.1 p.2) (ws.map (·.1))
  | [] => .nil
  | p :: r => .cons p.1 p.2 (strsAre_txts r)
theorem strsAre_list (ws : List (Str × Tok)) : StrsAre (txts ws).toList (ws.map (·.1)) := by unfold txts; rw [List.toList_toArray]; exact strsAre_txts ws
theorem rep_flat {α : Type} (v : α) : ∀ n : Nat, List.foldl (fun x1 x2 => x1 ++ x2) (#[] : Array α) (List.replicate n #[v]) = (List.replicate n v).toArray := by
  have key : ∀ (n : Nat) (a : Array α), List.foldl (fun x1 x2 => x1 ++ x2) a (List.replicate n #[v]) = a ++ (List.replicate n v).toArray := by
    intro n
    induction n with
    | zero => intro a; simp
    | succ n ih =>
      intro a
      rw [List.replicate_succ, List.foldl_cons, ih, List.replicate_succ]
      apply Array.toList_inj.mp
      simp
  intro n
  rw [key]
  simp
theorem mul_one_sign (c : Nat) (n : Int) : Txt.mul ⟨#[c]⟩ n = mk (List.replicate n.toNat c) := by
  unfold Txt.mul
  by_cases h1 : n < 1
  · rw [if_pos h1]
    have : n.toNat = 0 := by omega
    rw [this]; rfl
  · rw [if_neg h1]
    by_cases h2 : n = 1
    · subst h2
      rfl
    · have e : (n == 1 || (⟨#[c]⟩ : Str).length == 0) = false := by
        have : (n == 1) = false := by simpa using h2
        rw [this]; rfl
      rw [e]
      show (⟨List.foldl (fun x1 x2 => x1 ++ x2) #[] (List.replicate n.toNat #[c])⟩ : Str) = _
      rw [rep_flat]
      rfl
theorem join_codes' : ∀ l : List Str, (Str.join ⟨#[]⟩ l).cps.toList = (l.map fun x => x.cps.toList).flatten
  | [] => rfl
  | [x] => by
    show x.cps.toList = _
    simp
  | x :: y :: r => by
    have ih := join_codes' (y :: r)
    show (x.cps ++ #[] ++ (Str.join ⟨#[]⟩ (y :: r)).cps).toList = _
    rw [Array.toList_append, ih]
    simp
theorem join_codes (l : List Str) : (Txt.join ⟨#[]⟩ l).cps.toList = (l.map fun x => x.cps.toList).flatten := by
  show (PySem.Builtin.Str.glued ⟨#[]⟩ l).cps.toList = _
  rw [StrLaws.glued_eq_join]
  exact join_codes' l
section
variable {prog : Program} {w : World} {A : Around} {E : Value → Shared → Prop} {s : Shared} {h₀ : Heap} {L D D2 : Addr} {m : Str → Option Value} {news : List (Addr × Obj)} {n n2 : Nat} {ws ws2 : List (Str × Tok)} {u t : Tok} {Q : Value → Shared → Prop}
theorem rep_sign {x : Str} {c : Nat} {k : Int} (hx : x = ⟨#[c]⟩) (hk : k < 3000) (hk0 : -3000 < k) (h : ∀ t' k', Q (.str (mk (List.replicate k.toNat c)) t') { s with toks := k' }) : wpAny (model prog w) A (binaryOp .Mult (.str x t) (.int k u)) Q E s := by
  subst hx
  refine SB.mul ⟨?_, fun h1 _ => ?_, fun _ _ => ?_⟩ fun t' k' => by rw [mul_one_sign]; exact h t' k'
  · simp; omega
  · have : (1 : Int) ≤ (2 ^ 63 - 1) / k := by
      rw [Int.le_ediv_iff_mul_le (by omega)]
      omega
    show ¬ ((1 : Nat) : Int) > _
    omega
  · show PySem.Builtin.Str.tooLong (1 * k.toNat) = false
    unfold PySem.Builtin.Str.tooLong
    simp [sizeLine_eq]
    omega
theorem rep_txts {x : Str} {k : Int} (F : Fr h₀ L s.heap m) (N : News h₀ L s.heap news) (hm : (D, listOf #[Value.str x t] n) ∈ news) (hk : k < 3000) (hk0 : -3000 < k)
    (h : ∀ d h', Fr h₀ L h' m → News h₀ L h' ((d, listOf (txts (List.replicate k.toNat (x, t))) 0) :: news) → (∀ p ∈ news, p.1 < d) → Q (.ref d) { s with heap := h' }) : wpAny (model prog w) A (binaryOp .Mult (.ref D) (.int k u)) Q E s :=
  mul_list_res F N hm (by
    have e : (if (#[Value.str x t] : Array Value).isEmpty = true then 0 else k.toNat) = k.toNat := rfl
    rw [e, rep_flat]
    unfold txts
    rw [List.map_replicate]) (by omega) (by omega) (by show 1 * k.toNat ≤ 2 ^ 24; omega) h
theorem add_txts {its its2 : Array Value} (F : Fr h₀ L s.heap m) (N : News h₀ L s.heap news) (h1 : (D, listOf its n) ∈ news) (h2 : (D2, listOf its2 n2) ∈ news) (e1 : its = txts ws) (e2 : its2 = txts ws2) (hz : ws.length + ws2.length ≤ 3000)
    (h : ∀ d h', Fr h₀ L h' m → News h₀ L h' ((d, listOf (txts (ws ++ ws2)) 0) :: news) → (∀ p ∈ news, p.1 < d) → Q (.ref d) { s with heap := h' }) : wpAny (model prog w) A (binaryOp .Add (.ref D) (.ref D2)) Q E s := by
  subst e1 e2
  refine add_arrays F N (N.isList h1) (N.isList h2) (fun h' F' N' => h _ h' F' ?_ fun p hp => Heap.lt_size (N p hp).1) (by rw [txts_size, txts_size, sizeLine_eq]; omega)
  have e : ((txts ws).toList ++ (txts ws2).toList).toArray = txts (ws ++ ws2) := by simp [txts]
  rw [e] at N'
  exact N'
theorem item_txts {value slice : PySem.Expr} {k : Int} {j : Nat} {x : Str} {tx : Tok} (N : News h₀ L s.heap news) (hm : (D, listOf (txts ws) n) ∈ news) (hk : k = (j : Int)) (hz : j < 3000) (hx : ws[j]? = some (x, tx)) (h : Q (.str x tx) s)
    (hs : subscripted slice false (.ref D) (.int k u) = operate [.ref D, .int k u] (getItem (.ref D) (.int k u)) := by with_unfolding_all rfl) (hg : ∀ r, letTemporaryGo value (.ref D) r = pure () := by intro _; with_unfolding_all rfl) :
    wpAny (model prog w) A (subscriptTail value slice (.ref D) (.int k u)) Q E s :=
  item_list (N.isList hm) (by omega) (by omega) (by rw [txts_get, hk, Int.toNat_natCast, hx]; rfl) h hs hg
theorem join_txts (N : News h₀ L s.heap news) {its : Array Value} {ys : List Str} (hm : (D, listOf its n) ∈ news) (hi : StrsAre its.toList ys) (hw : (ys.map (·.length)).sum + ys.length ≤ 100000)
    (h : ∀ t' k, Q (.str (Txt.join ⟨#[]⟩ ys) t') { s with toks := k }) : wpAny (model prog w) A (call (.builtin "str.join") [.str ⟨#[]⟩ t, .ref D]) Q E s :=
  join_listW (N.isList hm) hi (by decide) (by omega) h
theorem drop_txts {value slice : PySem.Expr} {ut : Tok} {j : Nat} (F : Fr h₀ L s.heap m) (N : News h₀ L s.heap news) (hm : (D, listOf (txts ws) n) ∈ news) (hz : ws.length ≤ 3000)
    (h : ∀ d h', Fr h₀ L h' m → News h₀ L h' ((d, listOf (txts (ws.drop j)) 0) :: news) → (∀ p ∈ news, p.1 < d) → Q (.ref d) { s with heap := h' })
    (hs : subscripted slice false (.ref D) (.ref s.heap.objs.size) = operate [.ref s.heap.objs.size, .ref D] (getItem (.ref D) (.ref s.heap.objs.size))) (ht : ∀ r, letTemporaryGo value (.ref D) r = pure ()) :
    wpAny (model prog w) A (subscriptTail value slice (.ref D) (.ref s.heap.objs.size)) Q E { s with heap := s.heap.push { cls := .type "slice", data := .fields #[.int (j : Int) ut, .none, .none] } } := by
  refine kmk_slice_lit F N (N.isList hm) (IsPart.int _ _) IsPart.none (zs := (ws.drop j).map fun p : Str × Tok => Value.str p.1 p.2) ?_ h hs ht (by rw [txts_size, sizeLine_eq]; omega)
  rw [slicePick_from', List.toList_toArray]
  unfold txts
  rw [List.toList_toArray, List.map_drop]
end
theorem tx_canLayAll0 : ∀ ns : List Str, (∀ x ∈ ns, PyData.strOk x = true) → PyData.canLayAll0 (ns.map PyData.str) = true
  | [], _ => rfl
  | x :: r, h => by
    have := h x (List.mem_cons_self ..)
    simp [PyData.canLayAll0, PyData.canLay0, tx_canLayAll0 r (fun y hy => h y (List.mem_cons_of_mem _ hy)), this]
theorem tx_depthAll : ∀ ns : List Str, PyData.depthAll (ns.map PyData.str) = 0
  | [] => rfl
  | _ :: r => by simp [PyData.depthAll, PyData.depth, tx_depthAll r]
theorem tx_shaped (ns : List Str) (h : ∀ x ∈ ns, PyData.strOk x = true) : SeqAt.shaped (.list (ns.map PyData.str)) = true := by
  simp [SeqAt.shaped, PyData.canLay0, PyData.depth, tx_canLayAll0 ns h, tx_depthAll]
theorem tx_sameAll : ∀ ns ms : List Str, PySem.Spec.sameAll (ns.map PyData.str) (ms.map PyData.str) = decide (ns = ms)
  | [], [] => by simp [PySem.Spec.sameAll]
  | [], _ :: _ => by simp [PySem.Spec.sameAll]
  | _ :: _, [] => by simp [PySem.Spec.sameAll]
  | a :: r, b :: t => by
    simp only [List.map_cons, PySem.Spec.sameAll, PySem.Spec.same, tx_sameAll r t]
    by_cases h : a = b <;> by_cases h' : r = t <;> simp [h, h']
theorem tx_same (ns ms : List Str) : PySem.Spec.same (.list (ns.map PyData.str)) (.list (ms.map PyData.str)) = decide (ns = ms) := by
  simp only [PySem.Spec.same]; exact tx_sameAll ns ms
section
variable {prog : Program} {w : World} {A : Around} {E : Value → Shared → Prop} {s : Shared} {h₀ : Heap} {L D D2 : Addr} {news : List (Addr × Obj)} {n n2 : Nat} {ws ws2 : List (Str × Tok)} {Q : Value → Shared → Prop}
theorem ne_txts (N : News h₀ L s.heap news) (h1 : (D, listOf (txts ws) n) ∈ news) (h2 : (D2, listOf (txts ws2) n2) ∈ news) (o1 : ∀ x ∈ ws.map (·.1), PyData.strOk x = true) (o2 : ∀ x ∈ ws2.map (·.1), PyData.strOk x = true) (hu : A.units + 64 < cLine) (h : Q (.bool (!decide (ws.map (·.1) = ws2.map (·.1)))) s) :
    wpAny (model prog w) A (compareOp .NotEq (.ref D) (.ref D2)) Q E s :=
  ne_dataH_same (reads_newData (N.isList h1) (strsAre_txts ws).carried) (reads_newData (N.isList h2) (strsAre_txts ws2).carried) (tx_shaped _ o1) (tx_shaped _ o2) hu (SeqAt.noMix_of_shape (.list .str) rfl _ _ (list_map_has fun _ => rfl) (list_map_has fun _ => rfl)) (by rw [tx_same]; exact h)
end

end
section
open PySem PySem.W PyProof.Rows PySem.Spec PySem.Calls
section
variable {prog : Program} {w : World} {A : Around} {E : Value → Shared → Prop} {s' : Shared} {h₀ h : Heap} {outer : List Env} {L a e : Addr} {m mg mb : Str → Option Value} {name : Str} {scope : Scope} {cd : Value} {cl : List (Str × Addr)}
  {b₀ : Stmt} {suite : List Stmt} {pos np : Pos} {rest : List ExceptHandler} {Q : Flow → Shared → Prop} {news : List (Addr × Obj)} {p : Program} {loose : List Str} {x : Str} {X T' : String}
/-- an exception is caught, in a frame with cells -/
theorem caught_cells (hfr : A.frames = some (envX name scope L a cd cl :: outer)) (F : Fr h₀ L h m) (hsm : h.UpToSlots s'.heap) (R : RaisedN h₀ (envX name scope L a cd cl :: outer) e (.type X) news s'.heap)
    (T : TopRead p loose mg mb h₀) (hv : bootBuiltins x = some (.type T'))
    (hexc : isSubtype (.type T') (.type "BaseException") = pure true) (hnt : isSubtype (.type ((Manifest.find? T').elim "type" fun y => y.metatype)) (.type "tuple") = pure false) (hsub : isSubtype (.type X) (.type T') = pure true)
    (hmiss : mg x = none) (hn : x ≠ "__name__")
    (k : ∀ h', Fr h₀ L h' m → News h₀ L h' news → wpAny (model prog w) (A.mark (some (.ref e))) (execs (b₀ :: suite) (envX name scope L a cd cl)) Q E { s' with heap := h' })
    (hk : scope.kind = .function) (hx : (envX name scope L a cd cl).kindOf x = some .globalImplicit) (hd : (x == ("__debug__" : Str)) = false)
    (hE : PassesOwnAt (model prog w) (A.mark (some (.ref e))) A (envX name scope L a cd cl) E) :
    wpAny (model prog w) A (noteFrame (.ref e) (envX name scope L a cd cl))
      (fun _ s₂ => wpAny (model prog w) A (setFlight (.ref e) none) (fun _ s₃ =>
        wpAny (model prog w) A (handleBy (.ref e) (envX name scope L a cd cl) (.ExceptHandler (some (.Name x np)) none (b₀ :: suite) pos :: rest)) Q E s₃) E s₂) E s' := by
  obtain ⟨H, a0, hB, hl, hfl⟩ := R
  have hL : H.get? L = none := by
    obtain ⟨_, ⟨L', _, hf, hn', _⟩, _⟩ := hfl.2.2.1
    obtain rfl : L = L' := Option.some.inj hf
    exact hn'
  refine wpAny_looks_onW hfr rfl hfl fun h₄ held₄ sm₄ => ?_
  refine wpAny_landsW held₄ fun h₅ held₅ sm₅ => ?_
  have held := flyingW_base hB held₅
  have F₅ := F.of_stays held.1 (hsm.trans (sm₄.trans sm₅))
  obtain ⟨ob, hob, hobc⟩ := held.there
  refine wpAny_handleBy_builtin (X := X) (T := T') (b := true) hexc hnt hsub (Calls.Name_function_global (env := envX name scope L a cd cl) hk hx
    (Calls.loadGlobal_builtin (env := envX name scope L a cd cl) (T.g.keeps F₅.keep) hmiss (T.b.keeps F₅.keep) ((T.builtins x hn).trans hv) ⟨rfl, ⟨ob, hob, hobc⟩, ?_⟩) hd)
  refine lands_againW held₅ fun h₆ held₆ sm₆ => ?_
  exact wpAny_passesOwnAt hE (k h₆ (F.of_stays (flyingW_base hB held₆).1 ((hsm.trans (sm₄.trans sm₅)).trans sm₆)) fun q hq => ⟨held₆.1 _ _ (hl q hq).1, (fun z => by have := (hl q hq).1; rw [z, hL] at this; cases this), (hl q hq).2⟩)
end

end
section
open PySem PySem.W PyProof.Rows PySem.Spec PySem.Calls PyProof.V
/-- the end of a row, by turns -/
def endC (z : Int) : List Nat := if z.fmod 3 = 0 then [10] else if z.fmod 3 = 1 then [13, 10] else [13]
def endS (z : Int) : Str := mk (endC z)
def glueC (hp i : Int) : List (List Nat) → List Nat
  | [] => []
  | l :: r => l ++ (endC (hp + i) ++ glueC hp (i + 1) r)
def nlC : List (List Nat) → List Nat
  | [] => []
  | l :: r => l ++ 13 :: 10 :: nlC r
def dotq : List Nat → List Nat
  | [] => []
  | c :: r => if c = 46 then 46 :: 46 :: r else c :: r
def qC : List (List Nat) → List Nat
  | [] => []
  | l :: r => dotq l ++ 13 :: 10 :: qC r
def Plain (l : List Nat) : Prop := l ≠ [] ∧ ∀ c ∈ l, c ≠ 10 ∧ c ≠ 13
theorem sub2_end (z : Int) (r : List Nat) (h : ∀ d r', r = d :: r' → d ≠ 10) : sub2 (endC z ++ r) = 13 :: 10 :: sub2 r := by
  unfold endC
  split
  · cases r with
    | nil => exact sub2_hit1 (.inl rfl)
    | cons d r => exact sub2_hit (by omega) (.inl rfl)
  · split
    · exact sub2_both ⟨rfl, rfl⟩
    · cases r with
      | nil => exact sub2_hit1 (.inr rfl)
      | cons d r => exact sub2_hit (fun x => h d r rfl x.2) (.inr rfl)
theorem sub2_plain : ∀ (l r : List Nat), (∀ c ∈ l, c ≠ 10 ∧ c ≠ 13) → sub2 (l ++ r) = l ++ sub2 r
  | [], _, _ => rfl
  | c :: l, r, h => by
    have hc := h c (List.mem_cons_self ..)
    rw [List.cons_append, sub2_miss (by omega), sub2_plain l r fun d hd => h d (List.mem_cons_of_mem _ hd)]
    rfl
theorem sub2_glue (hp : Int) : ∀ (ls : List (List Nat)) (i : Int), (∀ l ∈ ls, Plain l) → sub2 (glueC hp i ls) = nlC ls
  | [], _, _ => rfl
  | l :: r, i, h => by
    have hl := h l (List.mem_cons_self ..)
    unfold glueC nlC
    rw [sub2_plain _ _ hl.2, sub2_end, sub2_glue hp r (i + 1) fun x hx => h x (List.mem_cons_of_mem _ hx)]
    intro d r' e
    cases r with
    | nil => cases e
    | cons l2 r2 =>
      have h2 := h l2 (List.mem_cons_of_mem _ (List.mem_cons_self ..))
      unfold glueC at e
      match l2, h2, e with
      | [], h2, _ => exact absurd rfl h2.1
      | c :: l2, h2, e =>
        rw [List.cons_append] at e
        cases e
        exact (h2.2 _ (List.mem_cons_self ..)).1
theorem sub1_plain : ∀ (l r : List Nat), (∀ c ∈ l, c ≠ 10 ∧ c ≠ 13) → sub1 false (l ++ 13 :: 10 :: r) = l ++ 13 :: 10 :: sub1 true r
  | [], r, _ => by
    show sub1 false (13 :: 10 :: r) = _
    rw [sub1_miss (by simp), sub1_miss (by simp)]
    rfl
  | c :: l, r, h => by
    have hc := h c (List.mem_cons_self ..)
    rw [List.cons_append, sub1_miss (by simp)]
    have e : (c == 10) = false := by simpa using hc.1
    rw [e, sub1_plain l r fun d hd => h d (List.mem_cons_of_mem _ hd)]
    rfl
theorem sub1_nl : ∀ ls : List (List Nat), (∀ l ∈ ls, Plain l) → sub1 true (nlC ls) = qC ls
  | [], _ => rfl
  | [] :: r, h => absurd rfl (h [] (List.mem_cons_self ..)).1
  | (c :: l) :: r, h => by
    have hl := h (c :: l) (List.mem_cons_self ..)
    have hc := hl.2 c (List.mem_cons_self ..)
    have hl2 : ∀ d ∈ l, d ≠ 10 ∧ d ≠ 13 := fun d hd => hl.2 d (List.mem_cons_of_mem _ hd)
    have ih := sub1_nl r fun x hx => h x (List.mem_cons_of_mem _ hx)
    unfold nlC qC
    show sub1 true (c :: l ++ 13 :: 10 :: nlC r) = (if c = 46 then 46 :: 46 :: l else c :: l) ++ 13 :: 10 :: qC r
    by_cases h46 : c = 46
    · rw [if_pos h46, List.cons_append, sub1_hit ⟨rfl, h46⟩, sub1_plain l _ hl2, ih]
      rfl
    · rw [if_neg h46, List.cons_append, sub1_miss (fun x => h46 x.2)]
      have e : (c == 10) = false := by simpa using hc.1
      rw [e, sub1_plain l _ hl2, ih]
      rfl
theorem quote_glue (hp i : Int) (ls : List (List Nat)) (h : ∀ l ∈ ls, Plain l) : sub1 true (sub2 (glueC hp i ls)) = qC ls := by rw [sub2_glue hp ls i h, sub1_nl ls h]
theorem glue_len (hp : Int) : ∀ (ls : List (List Nat)) (i : Int), (glueC hp i ls).length ≤ (ls.map List.length).sum + 2 * ls.length
  | [], _ => Nat.le_refl _
  | l :: r, i => by
    have ih := glue_len hp r (i + 1)
    have e : (endC (hp + i)).length ≤ 2 := by unfold endC; split <;> (try split) <;> simp
    unfold glueC
    simp only [List.length_append, List.map_cons, List.sum_cons, List.length_cons]
    omega
/-- the rows that a comprehension made -/
theorem mail_of {hp : Int} : ∀ (xs : List Str) (ys : List Value) (i : Nat), ys.length = xs.length → (∀ (k : Nat) (v : Value), ys[k]? = some v → ∃ x t, xs[k]? = some x ∧ v = Value.str (x ++ endS (hp + ((i + k : Nat) : Int))) t) →
    ∃ ts : List Str, StrsAre ys ts ∧ ts.length = ys.length ∧ (ts.map fun x => x.cps.toList).flatten = glueC hp i (xs.map fun x : Str => x.cps.toList) ∧ (ts.map (·.length)).sum = (glueC hp i (xs.map fun x : Str => x.cps.toList)).length
  | [], [], _, _, _ => ⟨[], .nil, rfl, rfl, rfl⟩
  | [], _ :: _, _, h, _ => by simp at h
  | _ :: _, [], _, h, _ => by simp at h
  | x :: xs, y :: ys, i, h, hy => by
    obtain ⟨x', t, hx, rfl⟩ := hy 0 y rfl
    simp only [List.getElem?_cons_zero, Option.some.injEq] at hx
    subst hx
    obtain ⟨ts, a, b, c, d⟩ := mail_of (hp := hp) xs ys (i + 1) (by simpa using h) fun k v hk => by
      obtain ⟨x2, t2, h1, h2⟩ := hy (k + 1) v (by simpa using hk)
      refine ⟨x2, t2, by simpa using h1, ?_⟩
      rw [h2, show i + (k + 1) = i + 1 + k by omega]
    have e1 : (x ++ endS (hp + ((i + 0 : Nat) : Int))).cps.toList = x.cps.toList ++ endC (hp + (i : Int)) := by
      show (x.cps ++ (endS (hp + (i : Int))).cps).toList = _
      rw [Array.toList_append]
      rfl
    have e2 : ((i + 1 : Nat) : Int) = (i : Int) + 1 := by omega
    refine ⟨(x ++ endS (hp + ((i + 0 : Nat) : Int))) :: ts, .cons _ t a, by simp [b], ?_, ?_⟩
    · rw [List.map_cons, List.map_cons, List.flatten_cons, c, e1, e2]
      show _ = x.cps.toList ++ (endC (hp + i) ++ glueC hp (i + 1) _)
      rw [List.append_assoc]
    · rw [List.map_cons, List.sum_cons, d, e2]
      show (x ++ endS (hp + ((i + 0 : Nat) : Int))).cps.size + _ = (x.cps.toList ++ (endC (hp + i) ++ glueC hp (i + 1) _)).length
      have := congrArg List.length e1
      rw [Array.length_toList, List.length_append] at this
      rw [this, List.length_append, List.length_append]
      omega
theorem row_at {x0 d : Str} {t0 : Tok} {q k : Nat} (hk : k < 1 + q) : ∃ x, (x0 :: List.replicate q d)[k]? = some x ∧ ∀ t, ∃ tx, ([(x0, t0)] ++ List.replicate q (d, t))[k]? = some (x, tx) := by
  cases k with
  | zero => exact ⟨x0, rfl, fun t => ⟨t0, rfl⟩⟩
  | succ k =>
    have h : k < q := by omega
    refine ⟨d, by rw [List.getElem?_cons_succ, List.getElem?_replicate, if_pos h], fun t => ⟨t, ?_⟩⟩
    show (List.replicate q (d, t))[k]? = _
    rw [List.getElem?_replicate, if_pos h]
theorem row_small {n q k : Nat} {x : Str} (h : (mk (List.replicate n 92) :: List.replicate q (Str.ofString "."))[k]? = some x) (hn : n ≤ 100) : x.length ≤ 100 := by
  have hm := List.mem_of_getElem? h
  rcases List.mem_cons.mp hm with rfl | hm
  · rw [mk_length, List.length_replicate]; exact hn
  · have := List.eq_of_mem_replicate hm
    subst this
    decide +kernel
/-- reading back: a row of backslashes, halved -/
theorem in_half (r : List Nat) : ∀ n : Nat, InN (List.replicate (2 * n) 92 ++ 13 :: r) (List.replicate n 92) r
  | 0 => .done
  | n + 1 => by
    have e : 2 * (n + 1) = 2 * n + 1 + 1 := by omega
    rw [e]
    exact .esc (in_half r n)
theorem reads_dots : ∀ q : Nat, Reads (10 :: qC (List.replicate q [46])) (List.replicate q [46, 46] ++ [[]]) ((q : Int) + 1)
  | 0 => .last (.skip .eof)
  | q + 1 => by
    have e : ((q + 1 : Nat) : Int) + 1 = (0 + 1) + ((q : Int) + 1) := by omega
    rw [e]
    exact .more (.skip (.dot (.dot .done))) (by simp) (reads_dots q)
theorem dotq_back (n : Nat) : dotq (List.replicate n 92) = List.replicate n 92 := by
  cases n with
  | zero => rfl
  | succ n => rfl
theorem reads_mail {n q : Nat} (hn : 0 < n) : Reads (qC (List.replicate (2 * n) 92 :: List.replicate q [46])) (List.replicate n 92 :: (List.replicate q [46, 46] ++ [[]])) (((q + 1 : Nat)) : Int) := by
  unfold qC
  rw [dotq_back]
  obtain ⟨n, rfl⟩ : ∃ k, n = k + 1 := ⟨n - 1, by omega⟩
  have e : 2 * (n + 1) = 2 * n + 1 + 1 := by omega
  have e2 : (((q + 1 : Nat)) : Int) = 0 + ((q : Int) + 1) := by omega
  rw [e, e2]
  exact .more (.esc (in_half _ n)) (by simp) (reads_dots q)

end
section
open PySem PySem.W PyProof.Rows PySem.Spec PySem.Calls PyProof.V
theorem sum_rep (k : Nat) : ∀ q : Nat, (List.replicate q k).sum = q * k
  | 0 => by simp
  | q + 1 => by rw [List.replicate_succ, List.sum_cons, sum_rep k q, Nat.add_mul]; omega
theorem c46 : (Str.ofString ".").cps.toList = [46] := by decide +kernel
theorem c4646 : (Str.ofString "..").cps.toList = [46, 46] := by decide +kernel
theorem c0 : (Str.ofString "").cps.toList = [] := by decide +kernel
theorem rows_codes (n q : Nat) : ((mk (List.replicate n 92) :: List.replicate q (Str.ofString ".")).map fun x : Str => x.cps.toList) = List.replicate n 92 :: List.replicate q [46] := by
  rw [List.map_cons, mk_list, List.map_replicate, c46]
theorem rows_plain {n q : Nat} (hn : 0 < n) : ∀ l ∈ List.replicate n 92 :: List.replicate q [46], Plain l := by
  intro l hl
  rcases List.mem_cons.mp hl with rfl | hl
  · refine ⟨fun e => ?_, fun c hc => ?_⟩
    · have := congrArg List.length e
      simp at this
      omega
    · have := List.eq_of_mem_replicate hc
      omega
  · have := List.eq_of_mem_replicate hl
    subst this
    exact ⟨by simp, fun c hc => by simp at hc; omega⟩
/-- all that is asked of the mail's text -/
structure MailOk (hp : Int) (n q : Nat) (ts : List Str) : Prop where
  small : (ts.map (·.length)).sum + ts.length ≤ 1000
  size : (Txt.join ⟨#[]⟩ ts).cps.size ≤ 1000
  reads : ∀ z : Str, z.cps.toList = sub1 true (sub2 (Txt.join ⟨#[]⟩ ts).cps.toList) → Reads z.cps.toList (List.replicate n 92 :: (List.replicate q [46, 46] ++ [[]])) (((q + 1 : Nat)) : Int) ∧ z.cps.size ≤ 2500
theorem mail_ok {hp : Int} {n q : Nat} {ts : List Str} (hn : 0 < n) (hn2 : n ≤ 15) (hq : q < 16) (hl : ts.length = 1 + q) (hc : (ts.map fun x => x.cps.toList).flatten = glueC hp ((0 : Nat) : Int) ((mk (List.replicate (2 * n) 92) :: List.replicate q (Str.ofString ".")).map fun x : Str => x.cps.toList))
    (hs : (ts.map (·.length)).sum = (glueC hp ((0 : Nat) : Int) ((mk (List.replicate (2 * n) 92) :: List.replicate q (Str.ofString ".")).map fun x : Str => x.cps.toList)).length) : MailOk hp n q ts := by
  rw [rows_codes] at hc hs
  have hg := glue_len hp (List.replicate (2 * n) 92 :: List.replicate q [46]) ((0 : Nat) : Int)
  have e : ((List.replicate (2 * n) 92 :: List.replicate q [46]).map List.length).sum = 2 * n + q := by
    rw [List.map_cons, List.map_replicate, List.sum_cons, List.length_replicate, sum_rep]
    simp
  have e2 : (List.replicate (2 * n) 92 :: List.replicate q [46]).length = q + 1 := by simp
  rw [e, e2] at hg
  have hj : (Txt.join ⟨#[]⟩ ts).cps.toList = glueC hp ((0 : Nat) : Int) (List.replicate (2 * n) 92 :: List.replicate q [46]) := (join_codes ts).trans hc
  have hsz : (Txt.join ⟨#[]⟩ ts).cps.size ≤ 200 := by
    rw [← Array.length_toList, hj]; omega
  refine ⟨by omega, by omega, fun z hz => ?_⟩
  rw [hj, quote_glue _ _ _ (rows_plain (by omega))] at hz
  constructor
  · rw [hz]
    exact reads_mail hn
  · have h1 := sub1_len (sub2 (Txt.join ⟨#[]⟩ ts).cps.toList) true
    have h2 := sub2_len _ (Txt.join ⟨#[]⟩ ts).cps.toList (Nat.le_refl _)
    rw [hj, quote_glue _ _ _ (rows_plain (by omega)), ← hz] at h1
    rw [hj] at h2
    rw [Array.length_toList] at h1
    omega
theorem fst_of_codes : ∀ {ws : List (Str × Tok)} {ls : List (List Nat)}, (ws.map fun p : Str × Tok => p.1.cps.toList) = ls → ws.map (·.1) = ls.map mk
  | [], _, h => by subst h; rfl
  | p :: ws, _, h => by
    subst h
    rw [List.map_cons, List.map_cons, List.map_cons, mk_of, fst_of_codes rfl]
theorem words_fst {ws : List (Str × Tok)} {n q : Nat} (h : (ws.map fun p : Str × Tok => p.1.cps.toList) = List.replicate n 92 :: (List.replicate q [46, 46] ++ [[]])) : ws.map (·.1) = mk (List.replicate n 92) :: (List.replicate q (Str.ofString "..") ++ [Str.ofString ""]) := by
  rw [fst_of_codes h, List.map_cons, List.map_append, List.map_replicate]
  have e1 : mk [46, 46] = Str.ofString ".." := by rw [← c4646, mk_of]
  have e2 : mk [] = Str.ofString "" := by rw [← c0, mk_of]
  rw [e1]
  show _ :: (_ ++ [mk []]) = _
  rw [e2]
theorem words_len {ws : List (Str × Tok)} {n q : Nat} (h : (ws.map fun p : Str × Tok => p.1.cps.toList) = List.replicate n 92 :: (List.replicate q [46, 46] ++ [[]])) : ws.length = q + 2 := by
  have := congrArg List.length h
  simpa using this
theorem words_join {ws : List (Str × Tok)} {n q : Nat} (h : (ws.map fun p : Str × Tok => p.1.cps.toList) = List.replicate n 92 :: (List.replicate q [46, 46] ++ [[]])) : (Txt.join ⟨#[]⟩ ((ws.drop 1).map (·.1))).length = 2 * q := by
  have e : (Txt.join ⟨#[]⟩ ((ws.drop 1).map (·.1))).cps.toList = ((ws.drop 1).map fun p : Str × Tok => p.1.cps.toList).flatten := by
    rw [join_codes, List.map_map]; rfl
  have e2 : (ws.drop 1).map (fun p : Str × Tok => p.1.cps.toList) = List.replicate q [46, 46] ++ [[]] := by
    rw [List.map_drop, h]; rfl
  show (Txt.join ⟨#[]⟩ ((ws.drop 1).map (·.1))).cps.size = _
  rw [← Array.length_toList, e, e2, List.length_flatten, List.map_append, List.map_replicate, List.sum_append, sum_rep]
  simp
  omega
theorem words_sum {ws : List (Str × Tok)} {n q : Nat} (h : (ws.map fun p : Str × Tok => p.1.cps.toList) = List.replicate n 92 :: (List.replicate q [46, 46] ++ [[]])) (hq : q < 16) : ((((ws.drop 1).map (·.1)).map (·.length)).sum + ((ws.drop 1).map (·.1)).length ≤ 100000) := by
  have e : ((ws.drop 1).map (·.1)).map (·.length) = (List.replicate q [46, 46] ++ [[]]).map List.length := by
    rw [← (by rw [List.map_drop, h]; rfl : (ws.drop 1).map (fun p : Str × Tok => p.1.cps.toList) = List.replicate q [46, 46] ++ [[]]), List.map_map, List.map_map]
    apply List.map_congr_left
    intro p _
    exact (Array.length_toList).symm
  have := words_len h
  rw [e, List.map_append, List.map_replicate, List.sum_append, sum_rep]
  simp
  omega
theorem words_head {ws : List (Str × Tok)} {n : Nat} {r : List (List Nat)} (h : (ws.map fun p : Str × Tok => p.1.cps.toList) = List.replicate n 92 :: r) : ∃ tx, ws[0]? = some (mk (List.replicate n 92), tx) := by
  cases ws with
  | nil => cases h
  | cons p ws =>
    rw [List.map_cons] at h
    have e := (List.cons.inj h).1
    refine ⟨p.2, ?_⟩
    rw [← e, mk_of]
    rfl
theorem ok_of_codes (x : Str) (h : ∀ c ∈ x.cps.toList, c < 1000) : PyData.strOk x = true := by
  unfold PyData.strOk
  rw [Array.all_eq_true_iff_forall_mem]
  intro c hc
  have := h c (by simpa using hc)
  simp
  omega
theorem words_ok (n q : Nat) : ∀ x ∈ mk (List.replicate n 92) :: (List.replicate q (Str.ofString "..") ++ [Str.ofString ""]), PyData.strOk x = true := by
  intro x hx
  refine ok_of_codes x fun c hc => ?_
  rcases List.mem_cons.mp hx with rfl | hx
  · rw [mk_list] at hc
    have := List.eq_of_mem_replicate hc
    omega
  · rcases List.mem_append.mp hx with hx | hx
    · have := List.eq_of_mem_replicate hx
      subst this
      rw [c4646] at hc
      simp at hc
      omega
    · rw [List.mem_singleton.mp hx, c0] at hc
      cases hc
/-- what the distance tells, for dots and backslashes -/
def Told (r n : Nat) (t : Int) : Prop := (n ≤ r → t = 2 * (r : Int)) ∧ (r < n → 0 < r → t = 2 * (r : Int) + 1) ∧ (r < n → r = 0 → t = 2 * (n : Int))
def toldB (r n : Nat) : Bool := let t := levP (List.replicate r 46) (List.replicate n 92) (2 * (r : Int)); if n ≤ r then t == 2 * (r : Int) else if 0 < r then t == 2 * (r : Int) + 1 else t == 2 * (n : Int)
theorem told_of {r n : Nat} (h : toldB r n = true) : Told r n (levP (List.replicate r 46) (List.replicate n 92) (2 * (r : Int))) := by
  unfold toldB at h
  refine ⟨fun a => ?_, fun a b => ?_, fun a b => ?_⟩
  · simp only [if_pos a] at h; exact eq_of_beq h
  · simp only [if_neg (show ¬ n ≤ r by omega), if_pos b] at h; exact eq_of_beq h
  · simp only [if_neg (show ¬ n ≤ r by omega), if_neg (show ¬ 0 < r by omega)] at h; exact eq_of_beq h
theorem told_tab : (List.range 16).all (fun r => (List.range 16).all fun n => n == 0 || toldB r n) = true := by decide +kernel
theorem told_all {r n : Nat} (hr : r < 16) (hn : n < 16) (h1 : 1 ≤ n) : Told r n (levP (List.replicate r 46) (List.replicate n 92) (2 * (r : Int))) := by
  refine told_of ?_
  have h := List.all_eq_true.mp (List.all_eq_true.mp told_tab r (List.mem_range.mpr hr)) n (List.mem_range.mpr hn)
  have e : (n == 0) = false := by simp; omega
  rw [e, Bool.false_or] at h
  exact h
theorem ex_lo {h : Int} (h0 : 0 ≤ h) : 0 ≤ (h.fmod 4 * h).fdiv 4 := by
  have a := Int.fmod_nonneg_of_pos h (b := 4) (by decide)
  have := Int.mul_nonneg a h0
  rw [Int.fdiv_eq_ediv_of_nonneg _ (by decide)]
  omega
theorem ex_hi {h : Int} (h0 : 0 ≤ h) : (h.fmod 4 * h).fdiv 4 ≤ h := by
  have a := Int.fmod_lt_of_pos h (b := 4) (by decide)
  have := Int.mul_le_mul_of_nonneg_right (show h.fmod 4 ≤ 3 by omega) h0
  rw [Int.fdiv_eq_ediv_of_nonneg _ (by decide)]
  omega
theorem dv_fact {q r n z sc ex : Int} (h : q * n + r = z) : z * sc + ex = q * (n * sc) + (r * sc + ex) := by
  rw [← h, Int.add_mul, Int.mul_assoc, Int.add_assoc]
theorem dv_lo {r sc ex : Int} (hr : 0 ≤ r) (hs : 0 ≤ sc) (he : 0 ≤ ex) : 0 ≤ r * sc + ex := Int.add_nonneg (Int.mul_nonneg hr hs) he
theorem dv_hi {r n sc ex : Int} (hr : r < n) (hs : 0 ≤ sc) (he : ex < sc) : r * sc + ex < n * sc := by
  have h1 : (r + 1) * sc ≤ n * sc := Int.mul_le_mul_of_nonneg_right (by omega) hs
  rw [Int.add_mul, Int.one_mul] at h1
  omega
theorem dv_bits {n sc : Int} (hn : 0 ≤ n) (hn2 : n ≤ 30) (hs : 0 ≤ sc) (hs2 : sc ≤ 2 ^ 91) : PySem.Builtin.Int.intBits (n * sc) ≤ 1000 := by
  have a1 : PySem.Builtin.Int.intBits n ≤ 5 := PySem.intBits_le_iff.mpr (by omega)
  have a2 : PySem.Builtin.Int.intBits sc ≤ 92 := PySem.intBits_le_iff.mpr (by omega)
  exact Nat.le_trans (PySem.intBits_mul_le a1 a2) (by omega)
theorem dv_twice {z n sc ex : Int} (hz : 0 ≤ z) (hz2 : z < 16) (hn : 1 ≤ n) (hs : 8 ≤ sc) (he0 : 0 ≤ ex) (he : ex < sc) : PySem.Builtin.Int.intBits (z * sc + ex) ≤ 2 * PySem.Builtin.Int.intBits (n * sc) := by
  have hb : (n * sc).natAbs < 2 ^ PySem.Builtin.Int.intBits (n * sc) := PySem.intBits_le_iff.mp (Nat.le_refl _)
  have h1 : 1 * sc ≤ n * sc := Int.mul_le_mul_of_nonneg_right hn (by omega)
  have h2 : z * sc ≤ 15 * sc := Int.mul_le_mul_of_nonneg_right (by omega) (by omega)
  have h3 : 0 ≤ z * sc := Int.mul_nonneg hz (by omega)
  refine PySem.intBits_le_iff.mpr ?_
  generalize PySem.Builtin.Int.intBits (n * sc) = B at *
  generalize n * sc = Y at *
  generalize z * sc = X at *
  have h4 : (X + ex).natAbs < 16 * Y.natAbs := by omega
  have h8 : 4 ≤ B := by
    rcases Nat.lt_or_ge B 4 with h | h
    · have : 2 ^ B ≤ 2 ^ 3 := Nat.pow_le_pow_right (by decide) (by omega)
      omega
    · exact h
  have h16 : 16 ≤ 2 ^ B := by
    have : 2 ^ 4 ≤ 2 ^ B := Nat.pow_le_pow_right (by decide) h8
    omega
  have e : 2 ^ (2 * B) = 2 ^ B * 2 ^ B := by rw [Nat.two_mul, Nat.pow_add]
  rw [e]
  calc (X + ex).natAbs < 16 * Y.natAbs := h4
    _ ≤ 2 ^ B * Y.natAbs := Nat.mul_le_mul_right _ h16
    _ ≤ 2 ^ B * 2 ^ B := Nat.mul_le_mul_left _ (Nat.le_of_lt hb)
section
variable {prog : Program} {w : World} {A : Around} {E : Value → Shared → Prop} {s : Shared} {t u : Tok} {Q : Value → Shared → Prop}
theorem rep_signN {x : Str} {c k : Nat} (hx : x = ⟨#[c]⟩) (hk : k < 3000) (h : ∀ t' k', Q (.str (mk (List.replicate k c)) t') { s with toks := k' }) : wpAny (model prog w) A (binaryOp .Mult (.str x t) (.int (k : Int) u)) Q E s :=
  rep_sign hx (by omega) (by omega) (by rw [Int.toNat_natCast]; exact h)
theorem len_strN {x : Str} {n : Nat} (hl : x.length = n) (hn : n < 100000) (h : Q (.int (n : Int) (s.toks + 1)) { s with toks := s.toks + 1 + 1 }) : wpAny (model prog w) A (call (.builtin "len") [.str x t]) Q E s :=
  P.len_str (by rw [hl]; omega) (by rw [hl]; exact h)
end
section
variable {prog : Program} {w : World} {A : Around} {E : Value → Shared → Prop} {s : Shared} {h₀ : Heap} {L D : Addr} {m : Str → Option Value} {news : List (Addr × Obj)} {n : Nat} {u t : Tok} {Q : Value → Shared → Prop}
theorem rep_txtsN {x : Str} {k : Nat} (F : Fr h₀ L s.heap m) (N : News h₀ L s.heap news) (hm : (D, listOf #[Value.str x t] n) ∈ news) (hk : k < 3000)
    (h : ∀ d h', Fr h₀ L h' m → News h₀ L h' ((d, listOf (txts (List.replicate k (x, t))) 0) :: news) → (∀ p ∈ news, p.1 < d) → Q (.ref d) { s with heap := h' }) : wpAny (model prog w) A (binaryOp .Mult (.ref D) (.int (k : Int) u)) Q E s :=
  rep_txts F N hm (by omega) (by omega) (by rw [Int.toNat_natCast]; exact h)
end
section
variable {prog : Program} {w : World} {A : Around} {E : Value → Shared → Prop} {s : Shared} {h₀ : Heap} {L D D2 : Addr} {news : List (Addr × Obj)} {n n2 : Nat} {ws ws2 : List (Str × Tok)} {Q : Value → Shared → Prop}
theorem ne_txtsE {a q : Nat} (N : News h₀ L s.heap news) (h1 : (D, listOf (txts ws) n) ∈ news) (h2 : (D2, listOf (txts ws2) n2) ∈ news) (hw : (ws.map fun p : Str × Tok => p.1.cps.toList) = List.replicate a 92 :: (List.replicate q [46, 46] ++ [[]]))
    (he : mk (List.replicate a 92) :: (List.replicate q (Str.ofString "..") ++ [Str.ofString ""]) = ws2.map (·.1)) (hu : A.units + 64 < cLine) (h : Q (.bool false) s) :
    wpAny (model prog w) A (compareOp .NotEq (.ref D) (.ref D2)) Q E s := by
  have e1 := words_fst hw
  refine ne_txts N h1 h2 (by rw [e1]; exact words_ok a q) (by rw [← he]; exact words_ok a q) hu ?_
  have : decide (ws.map (·.1) = ws2.map (·.1)) = true := decide_eq_true (e1.trans he)
  rw [this]
  exact h
end

end
section
open PySem PySem.W PyProof.Rows PySem.Spec PySem.Calls PyProof.V
/-- x cut into k digits of n bits as _int2digits' inner cuts it -/
inductive Fill (n : Int) : Int → Nat → List Int → Prop
  | one (x : Int) : Fill n x 1 [x]
  | two {x sh u v lo : Int} {j j2 : Nat} {d1 d2 : List Int} (h1 : 0 < j) (hb : j2 = j ∨ j2 = j + 1) (Hm : MulK (j : Int) n sh) (Hu : ShrK x sh u) (Hv : ShlK u sh v) (Hl : XorK x v lo) (f1 : Fill n lo j d1) (f2 : Fill n u j2 d2) : Fill n x (j + j2) (d1 ++ d2)
theorem Fill.len {n x : Int} {k : Nat} {ds : List Int} (h : Fill n x k ds) : ds.length = k := by
  induction h with
  | one => rfl
  | two _ _ _ _ _ _ _ _ i1 i2 => rw [List.length_append, i1, i2]
theorem Fill.pos {n x : Int} {k : Nat} {ds : List Int} (h : Fill n x k ds) : 0 < k := by
  induction h with
  | one => decide
  | two h => omega
/-- the digits ds laid at l -/
def put (ns : List Int) (l : Nat) (ds : List Int) : List Int := ns.take l ++ (ds ++ ns.drop (l + ds.length))
theorem put_len {ns ds : List Int} {l : Nat} (h : l + ds.length ≤ ns.length) : (put ns l ds).length = ns.length := by
  unfold put; simp; omega
theorem put_one {ns : List Int} {l : Nat} {x : Int} (h : l < ns.length) : put ns l [x] = ns.set l x := by
  unfold put
  rw [List.set_eq_take_append_cons_drop, if_pos h]
  rfl
theorem put_put {ns d1 d2 : List Int} {l : Nat} (h : l + (d1 ++ d2).length ≤ ns.length) : put (put ns l d1) (l + d1.length) d2 = put ns l (d1 ++ d2) := by
  rw [List.length_append] at h
  have e : (ns.take l).length = l := by rw [List.length_take]; omega
  have e1 : (put ns l d1).take (l + d1.length) = ns.take l ++ d1 := by
    unfold put
    rw [← List.append_assoc]
    exact List.take_left' (by rw [List.length_append, e])
  have e2 : (put ns l d1).drop (l + d1.length + d2.length) = ns.drop (l + (d1 ++ d2).length) := by
    unfold put
    rw [← List.append_assoc, ← List.drop_drop, List.drop_left' (by rw [List.length_append, e]), List.drop_drop, List.length_append, Nat.add_assoc]
  rw [put, e1, e2, put, List.append_assoc, List.append_assoc]
theorem put_all {ns ds : List Int} (h : ns.length = ds.length) : put ns 0 ds = ds := by
  unfold put
  rw [List.take_zero, Nat.zero_add, ← h, List.drop_length, List.append_nil, List.nil_append]
/-- the function object that the i-th statement of the function at f makes -/
def fnIn (K : Frag) (f : Addr) (i : Nat) (q : Str) (cl : List (Str × Addr)) (doc pm : Value) (c' : Addr) (ct : Value) : Obj := match (bodyOf K f)[i]? with
  | some (.FunctionDef name ps body _ _ _ sc _ _ _) => fnMade name q ps body sc cl doc pm c' ct
  | _ => fnMade q q ⟨[], [], none, [], [], none, []⟩ [] { kind := .module, names := [], isGenerator := false, isCoroutine := false } [] doc pm c' ct
theorem fn_is {K : Frag} {f : Addr} {i : Nat} {q : Str} {cl : List (Str × Addr)} {doc pm : Value} {c' : Addr} {ct : Value} {name : Str} {ps : Arguments} {body bd : List Stmt} {sc sc' : Scope} {ds : List PySem.Expr} {rt : Option PySem.Expr} {tp : List TypeParam} {ts : Option Scope} {bn : Str} {po : Pos}
    {oc dV kV d0 p0 cdv c0 : Value} {od an : Option Addr} {nm ql : Str} {prm : Arguments} {osl : Array (Option Value)}
    (ho : K.lookup f = some ⟨oc, od, .func (fnOf nm ql prm bd sc' dV kV d0 p0 an cdv c0), osl⟩) (h : bd[i]? = some (.FunctionDef name ps body ds rt tp sc ts bn po)) : fnIn K f i q cl doc pm c' ct = fnMade name q ps body sc cl doc pm c' ct := by
  have e : bodyOf K f = bd := by unfold bodyOf; rw [ho]
  unfold fnIn
  rw [e, h]
/-- what _int2digits is asked: x and the digits -/
inductive Cut (n : Int) : Int → Nat → List Int → Prop
  | zero : Cut n 0 0 []
  | some {x : Int} {k : Nat} {ds : List Int} (hx : x ≠ 0) (h : Fill n x k ds) : Cut n x k ds
theorem Cut.len {n x : Int} {k : Nat} {ds : List Int} (h : Cut n x k ds) : ds.length = k := by
  cases h with
  | zero => rfl
  | some _ h => exact h.len
theorem repz {v : Value} {k : Nat} : List.foldl (fun x1 x2 => x1 ++ x2) #[] (List.replicate (if (#[v] : Array Value).isEmpty = true then 0 else (k : Int).toNat) #[v]) = (List.replicate k v).toArray := by
  rw [if_neg (by intro e; cases e), Int.toNat_natCast]
  exact rep_flat v k
theorem ints_rep (t : Tok) : ∀ k : Nat, IntsAre (List.replicate k (.int 0 t)) (List.replicate k 0)
  | 0 => .nil
  | k + 1 => .cons 0 t (ints_rep t k)
/-- digits put together as _digits2int's inner does it -/
inductive Dig (n : Int) : List Int → Int → Prop
  | one (x : Int) : Dig n [x] x
  | two {sh v1 v2 u : Int} {d1 d2 : List Int} (h1 : 0 < d1.length) (hb : d2.length = d1.length ∨ d2.length = d1.length + 1) (Hm : MulK (d1.length : Int) n sh) (Hv : ShlK v2 sh u) (f1 : Dig n d1 v1) (f2 : Dig n d2 v2) : Dig n (d1 ++ d2) (u + v1)
theorem Dig.pos {n x : Int} {ds : List Int} (h : Dig n ds x) : 0 < ds.length := by
  induction h with
  | one => exact Nat.zero_lt_one
  | two h => rw [List.length_append]; omega
/-- what _digits2int tells -/
inductive Join (n : Int) : List Int → Int → Prop
  | zero : Join n [] 0
  | some {ds : List Int} {v : Int} (h : Dig n ds v) : Join n ds v
theorem item_ints {prog : Program} {w : World} {A : Around} {E : Value → Shared → Prop} {s : Shared} {h₀ : Heap} {L D : Addr} {news : List (Addr × Obj)} {e : Nat} {vs : List Value} {ns : List Int} {value slice : PySem.Expr} {k x : Int} {j : Nat} {u : Tok} {Q : Value → Shared → Prop}
    (N : News h₀ L s.heap news) (hm : (D, listOf vs.toArray e) ∈ news) (hI : IntsAre vs ns) (hk : k = (j : Int)) (hz : j < 3000) (hx : ns[j]? = some x) (h : ∀ t, Q (.int x t) s)
    (hs : subscripted slice false (.ref D) (.int k u) = operate [.ref D, .int k u] (getItem (.ref D) (.int k u)) := by with_unfolding_all rfl) (hg : ∀ r, letTemporaryGo value (.ref D) r = pure () := by intro _; with_unfolding_all rfl) :
    wpAny (model prog w) A (subscriptTail value slice (.ref D) (.int k u)) Q E s := by
  obtain ⟨t, e⟩ := hI.get j x hx
  exact item_list (N.isList hm) (by omega) (by omega) (by rw [hk, Int.toNat_natCast]; simpa using e) (h t) hs hg
/-- the digits ds lie at l -/
def At (ns : List Int) (l : Nat) (ds : List Int) : Prop := ∀ j, j < ds.length → ns[l + j]? = ds[j]?
theorem At.left {ns d1 d2 : List Int} {l : Nat} (h : At ns l (d1 ++ d2)) : At ns l d1 := fun j hj => by
  rw [h j (by rw [List.length_append]; omega), List.getElem?_append_left hj]
theorem At.right {ns d1 d2 : List Int} {l : Nat} (h : At ns l (d1 ++ d2)) : At ns (l + d1.length) d2 := fun j hj => by
  rw [Nat.add_assoc, h (d1.length + j) (by rw [List.length_append]; omega), List.getElem?_append_right (Nat.le_add_right _ _), Nat.add_sub_cancel_left]

end
section
open PySem PySem.W PyProof.Rows PySem.Spec PySem.Calls PyProof.V
theorem ints_snoc {x : Int} {t : Tok} : ∀ {vs : List Value} {ns : List Int}, IntsAre vs ns → IntsAre (vs ++ [.int x t]) (ns ++ [x])
  | _, _, .nil => .cons x t .nil
  | _, _, .cons n u h => .cons n u (ints_snoc h)
theorem ints_rev : ∀ {vs : List Value} {ns : List Int}, IntsAre vs ns → IntsAre vs.reverse ns.reverse
  | _, _, .nil => .nil
  | _, _, .cons n u h => by
    rw [List.reverse_cons, List.reverse_cons]
    exact ints_snoc (ints_rev h)
/-- the division of _divmod_pos: digits from the top, the rest so far, the quotient's digits, the last rest -/
inductive Divs (n y : Int) : List Int → Int → List Int → Int → Prop
  | nil {r : Int} : Divs n y [] r [] r
  | cons {a : Int} {as : List Int} {r w q r' : Int} {qs : List Int} {z : Int} (Hw : ShlK r n w) (Hq : DivK (w + a) y q r') (Hc : (Builtin.Int.intBits (w + a) : Int) - n ≤ 4000) (h : Divs n y as r' qs z) : Divs n y (a :: as) r (q :: qs) z
theorem Divs.len {n y : Int} {as qs : List Int} {r z : Int} (h : Divs n y as r qs z) : qs.length = as.length := by
  induction h with
  | nil => rfl
  | cons _ _ _ _ ih => rw [List.length_cons, List.length_cons, ih]
section
variable {prog : Program} {w : World} {A : Around} {E : Value → Shared → Prop} {s : Shared} {env : Env} {h₀ : Heap} {x : Str} {body : List Stmt} {Q : Flow → Shared → Prop}
theorem rev_rest {I : Addr} {lp : Addr × Obj} {us : List Value} {as : List Int} (hI : IntsAre us as) (J : List Int → (Str → Option Value) → List (Addr × Obj) → Prop)
    (turn : ∀ a r m news (it : Obj) h tk t, J (a :: r) m news → it.cls = .type "list_reverseiterator" → Fr h₀ env.locals h (fun y => if y = x then some (.int a t) else m y) → News h₀ env.locals h ((I, it) :: news) →
      wpAny (model prog w) A (execs body env) (UnrPost h₀ env.locals { s with heap := h, toks := tk } I it (fun m' n' => lp ∈ n' ∧ J r m' n') Q) E { s with heap := h, toks := tk })
    (fin : ∀ m news h tk, J [] m news → Fr h₀ env.locals h m → News h₀ env.locals h news → Q .next { s with heap := h, toks := tk }) :
    ∀ {m : Str → Option Value} {news : List (Addr × Obj)}, J as m news → RevRest prog w A E h₀ env x body Q s I lp us m news := by
  induction hI with
  | nil => exact fun hJ => RevRest.zero fun h tk F N => fin _ _ h tk hJ F N
  | @cons n t vs ns _ ih =>
    intro m news hJ
    refine RevRest.succ fun it h tk hc F N => wpAny_mono (turn _ _ _ _ it h tk t hJ hc F N) (fun f s₂ p => ?_) fun _ _ e => e
    have go : UnrEnd h₀ env.locals { s with heap := h, toks := tk } I it (fun m' n' => lp ∈ n' ∧ J ns m' n') s₂ → UnrEnd h₀ env.locals { s with heap := h, toks := tk } I it (fun m' n' => lp ∈ n' ∧ RevRest prog w A E h₀ env x body Q s I lp vs m' n') s₂ := by
      rintro ⟨h', tk', m', n', e, F', N', o, hl, hj⟩
      exact ⟨h', tk', m', n', e, F', N', o, hl, ih hj⟩
    cases f with
    | ret v => exact p
    | brk => exact p
    | next => exact go p
    | cont => exact go p
end
section
variable {prog : Program} {w : World} {A : Around} {E : Value → Shared → Prop} {s : Shared} {h₀ : Heap} {L D : Addr} {m : Str → Option Value} {news news' : List (Addr × Obj)} {Q : Value → Shared → Prop}
theorem append_ints {n : Nat} {vs : List Value} {x : Int} {t : Tok} (F : Fr h₀ L s.heap m) (N : News h₀ L s.heap news) (hz : vs.length ≤ 100000) (U : Upd D (listOf vs.toArray n) (listOf (vs ++ [Value.int x t]).toArray (n + 1)) news news')
    (h : ∀ h', Fr h₀ L h' m → News h₀ L h' news' → Q .none { s with heap := h' }) : wpAny (model prog w) A (call (.builtin "list.append") [.ref D, .int x t]) Q E s :=
  append_K F N (by rw [List.push_toArray]; exact U) h (by rw [List.size_toArray, sizeLine_eq]; omega)
theorem reverse_ints {n : Nat} {vs : List Value} (F : Fr h₀ L s.heap m) (N : News h₀ L s.heap news) (hz : vs.length ≤ 100000) (U : Upd D (listOf vs.toArray n) (listOf vs.reverse.toArray n) news news')
    (h : ∀ h', Fr h₀ L h' m → News h₀ L h' news' → Q .none { s with heap := h' }) : wpAny (model prog w) A (call (.builtin "list.reverse") [.ref D]) Q E s :=
  kl_reverse F N (by rw [List.toList_toArray]) U (by rw [List.toList_toArray, sizeLine_eq]; omega) h
end

end
section
open PySem PySem.W PyProof.Rows
open_top hd for PySem.Challenge.rw_sc0080_01

end
theorem top_off : True := by
  w_top off
  trivial
open PySem PySem.W PyProof.Rows PySem.Spec PySem.Calls
local macro_rules | `(tactic| k_room) => `(tactic| ktr_room)
local macro_rules | `(tactic| ktr_room) => `(tactic| ((try simp only [depth_under_make, depth_under_kw, depth_in1, depth_deeper, depth_caller, Nat.add_assoc, Nat.reduceAdd]); exact nl0 (by with_reducible assumption) (by decide)))
local macro_rules | `(tactic| ktr_units) => `(tactic| ((try simp only [units_in1, units_deeper, Around.mark_units, units_caller, Nat.add_assoc, Nat.reduceAdd]); exact nl0 (by with_reducible assumption) (by decide)))
local macro_rules | `(tactic| walk_at "cB") => `(tactic| ((case B => k_asm); (case F => k_asm); (case X => k_asm); (case T => k_asm); (case hk => exact rfl); (case N => k_asm)))
local macro_rules | `(tactic| walk_at "cE") => `(tactic| ((case hdp => ktr_room); (case hun => ktr_units); k_whole))
local macro_rules | `(tactic| walk_at "cD") => `(tactic| ((try dsimp only); (try k_fold)))
local macro_rules | `(tactic| walk_at "cU") => `(tactic| ((case U1 => k_updF); (case U2 => k_updF); (case U3 => k_updF); (case U4 => k_updF); (case ne1 => exact ⟨by k_ne⟩); (case ne2 => exact ⟨by k_ne⟩); (case ne3 => exact ⟨by k_ne⟩); (case ne4 => exact ⟨by k_ne⟩); (case ne5 => exact ⟨by k_ne⟩)))
local macro_rules | `(tactic| walk_at "cN") => `(tactic| ((case ne1 => exact ⟨by k_ne⟩); (case ne2 => exact ⟨by k_ne⟩); (case ne3 => exact ⟨by k_ne⟩); (case ne4 => exact ⟨by k_ne⟩); (case ne5 => exact ⟨by k_ne⟩)))
local macro_rules | `(tactic| walk_at "cC") => `(tactic| ((case c1 => kn_code); (case c2 => kn_code)))
local macro_rules | `(tactic| walk_at "cA") => `(tactic| ((case tb => assumption); (case tb2 => assumption)))
local macro_rules | `(tactic| walk_at "cM") => `(tactic| ((case Bm => k_asm); (case Fm => k_asm); (case Xm => k_asm); (case Tm => k_asm)))
local macro_rules | `(tactic| walk_at "cX") => `(tactic| ((case hdpm => ktr_room); (case hunm => ktr_units); k_whole))
local macro_rules | `(tactic| walk_at "cS") => `(tactic| ((repeat' first | exact List.forall_mem_nil _ | exact ⟨by k_ne⟩ | refine List.forall_mem_cons.mpr ⟨?_, ?_⟩)))
local macro_rules | `(tactic| walk_at "cF") => `(tactic| ((case F => k_asm); (case N => k_asm)))
local macro_rules | `(tactic| k_lt $h) => `(tactic| skip)
local macro_rules | `(tactic| k_lt2 $h) => `(tactic| (have _ := ne_lt2 $h; have _ := lt_all (by assumption) $h; clear $h))
local macro_rules | `(tactic| walk_at "binaryOp FloorDiv int int") => `(tactic| (k_here; (refine floordiv_known (by with_reducible assumption) ?hb ?hs ?_); (case hb => omega); (case hs => omega)))
local macro_rules | `(tactic| walk_at "binaryOp Mult ref int") => `(tactic| (k_here; k_dflt (refine' mul_list_res ?F ?N ?m ?e ?lo ?hi ?z ?_; walk_at "cF"; (case m => k_mem); (case e => first | exact rep1 | exact rep2 | exact rep0); (case lo => decide); (case hi => decide); (case z => decide); k_whole); intro d' h' F' N' l1; (try k_lt l1)))
local macro_rules | `(tactic| walk_at "binaryOp RShift int int") => `(tactic| (k_here; (refine rshift_known (by first | with_reducible assumption | (k_dflt assumption)) ?_)))
local macro_rules | `(tactic| walk_at "binaryOp LShift int int") => `(tactic| (k_here; (refine lshift_known (by first | with_reducible assumption | (k_dflt assumption)) ?_)))
local macro_rules | `(tactic| walk_at "binaryOp BitXor int int") => `(tactic| (k_here; (refine xor_known (by first | with_reducible assumption | (k_dflt assumption)) ?_)))
local macro_rules | `(tactic| walk_at "binaryOp Mult int int") => `(tactic| (k_here; (refine mul_known (by first | with_reducible assumption | (k_dflt assumption)) ?_)))
local macro_rules | `(tactic| walk_at "call builtin:divmod") => `(tactic| (k_here; k_dflt (refine' divmod_known ?F ?N ?k ?_; walk_at "cF"; (case k => with_reducible assumption); k_whole); intro d' t1' t2' h' F' N' l1; (try k_lt l1)))
local macro_rules | `(tactic| walk_at "call builtin:int.bit_length") => `(tactic| (k_here; (refine bits_known (by with_reducible assumption) ?_)))
local macro_rules | `(tactic| k_updF) => `(tactic| first | (refine' Del.head ?a; (case a => k_all)) | (refine' Del.tail ?a ?b; (case a => k_ne); (case b => k_updF)))
local macro_rules | `(tactic| walk_at "mem") => `(tactic| (repeat first | with_reducible exact List.mem_cons_self | (with_reducible refine List.mem_cons_of_mem _ ?_)))
local macro_rules | `(tactic| walk_at "cellne") => `(tactic| first | exact ne_lo1 (by with_reducible assumption) (by walk_at "mem") | exact ne_lo2 (by with_reducible assumption) (by walk_at "mem") | exact ne_lo3 (by with_reducible assumption) (by walk_at "mem") | exact ne_lo4 (by with_reducible assumption) (by walk_at "mem"))
local macro_rules | `(tactic| k_ne) => `(tactic| first | exact NeN.h (by with_reducible assumption) | exact NeN.h' (by with_reducible assumption) | exact ne_lo (by with_reducible assumption) (by walk_at "mem") | exact ne_hi (by with_reducible assumption) (by walk_at "mem") | exact ne_sep (by with_reducible assumption) (by walk_at "mem") | exact (ne_sep (by with_reducible assumption) (by walk_at "mem")).symm | walk_at "cellne" | exact Ne.symm (by walk_at "cellne") | (refine neN ?_; (try dsimp only); omega))
local macro_rules | `(tactic| walk_at "exec FunctionDef") => `(tactic| (k_here; kn_here; k_dflt (refine' nestDef_K ?d0 ?k0 ?a0 ?_; (case d0 => exact rfl); (case k0 => exact rfl); (case a0 => exact rfl)); (k_dflt (refine' nest_any ?F ?N ?T ?C ?cd ?U ?U2 ?t ?hl ?hc ?hq ?cl ?_; walk_at "cF"; (case T => k_asm); (case cd => exact rfl); (case C => kn_code); (case t => assumption); (case U => k_updF); (case U2 => k_updF); (case hl => rfl); (case hc => rfl); (case hq => kernel_rfl!); (case cl => exact rfl); k_whole); intro f' c' oc' vs' t' ct' dc' h' tk' F' N' d1' d2' d3' hw' s1' n1' l1 l2; (try dsimp only at N'); (try k_lt l1); (have _ := ne_lt2 l2); clear l2)))
section
open PySem PySem.W PyProof.Rows PySem.Spec PySem.Calls
local macro_rules | `(tactic| walk_at "call ref") => `(tactic| (k_here; (with_reducible show wpAny _ _ (call (Value.ref f) _) _ _ _); refine CiStop.out ?_))
local macro_rules | `(tactic| walk_at "setItem ref int") => `(tactic| (k_here; k_dflt (refine' ksa_set ?F ?N ?U ?hi ?h0 ?h1 ?hfit ?_; (case F => k_asm); (case N => k_asm); (case U => k_upd); (case hi => assumption); (case h0 => omega); (case h1 => omega); (case hfit => omega); k_whole); intro h' F' N' i1 i2 i3))
theorem inn_i {bX : Heap} (cX : CodeHd bX 58 54) {w : World} {loose : List Str} {mean : ExcName → Option Value} {mg mb : Str → Option Value} {n : Int} {f c' cA cI cN D : Addr} {oF oc oA oI oN : Obj} {e : Nat} {vc : Array Value} {doc pm ctv : Value} {tq tn : Tok} (hn : 0 < n) (hn2 : n < 2 ^ 20)
  (hoF : oF = fnIn (hd.heap_39 w.params) 59 1 I2Q [(Str.ofString "n", cN), (Str.ofString "inner", cI), (Str.ofString "a_digits", cA)] doc pm c' ctv) (hoA : oA.data = .cell (some (.ref D))) (hoI : oI.data = .cell (some (.ref f))) (hoN : oN.data = .cell (some (.int n tn))) (hoc : oc.data = .fields vc) (hvc : vc[1]? = some (.str I2Q tq))
  (nes : NeN f D ∧ NeN c' D ∧ NeN cA D ∧ NeN cI D ∧ NeN cN D) {x : Int} {k : Nat} {ds : List Int} (hF : Fill n x k ds) :
  ∀ {dp un : Nat} {gd : Option (List Code)} {cn : Str} {cs : Scope} {a : Addr} {ccd : Value} {cl : List (Str × Addr)} {outer : List Env} {A₀ : Around} {base h₀ : Heap} {L : Addr} {m : Str → Option Value} {s : Shared} {Q E : Value → Shared → Prop} {news : List (Addr × Obj)} {vs : List Value} {ns : List Int} {l r : Int} {tx tl tr : Tok},
  0 ≤ l → r = l + (k : Int) → r ≤ (ns.length : Int) → ns.length ≤ 3000 → IntsAre vs ns →
  Below A₀ base outer h₀ → Fr h₀ L s.heap m → (hd.heap_39 w.params).In h₀ → Top topProg loose mean mg mb h₀ → cs.kind = .function →
  News h₀ L s.heap ((f, oF) :: (c', oc) :: (cA, oA) :: (cI, oI) :: (cN, oN) :: (D, listOf vs.toArray e) :: news) → Sep D news → dp + k + 2 < recursionLimit → un + 4 * k + 8 < cLine →
  (∀ vs' h' tk', IntsAre vs' (put ns l.toNat ds) → Fr h₀ L h' m → News h₀ L h' ((f, oF) :: (c', oc) :: (cA, oA) :: (cI, oI) :: (cN, oN) :: (D, listOf vs'.toArray e) :: news) → Q .none { s with heap := h', toks := tk' }) →
  wpAny (model PySem.Challenge.rw_sc0080_01.row.prog w) (ktrTop dp un gd cn cs L a ccd cl outer) (call (.ref f) [.int x tx, .int l tl, .int r tr]) Q E s := by
  have n1 := nes.1
  have n2 := nes.2.1
  have n3 := nes.2.2.1
  have n4 := nes.2.2.2.1
  have n5 := nes.2.2.2.2
  clear nes
  induction hF with
  | @one x =>
    intro dp un gd cn cs a ccd cl outer A₀ base h₀ L m s Q E news vs ns l r tx tl tr hl hr hr2 hns hI B F X T hk N sD hdp hun ret
    revert X
    k_fill
    intro X
    have hfn := fn_is (K := hd.heap_39 w.params) (f := 59) (i := 1) (q := I2Q) (cl := [(Str.ofString "n", cN), (Str.ofString "inner", cI), (Str.ofString "a_digits", cA)]) (doc := doc) (pm := pm) (c' := c') (ct := ctv) (by k_is) (by rfl)
    rw [hfn] at hoF
    subst hoF
    k_steps
    refine CiStop.go ?_
    k_dflt (refine wpAny_call ?_; (refine' kdv_code ?k1 ?k2 ?k3 ?k4 ?k5 ?kA ?kF ?kK ?k6 ?k7 ?k8 ?k9 ?kB ?_ ?c2 ?c3 ?c4 ?c5; (case kA => exact rfl); (case kF => exact rfl); (case kK => assumption); (case k1 => k_asm); (case k2 => k_asm); (case k3 => k_asm); (case k4 => k_asm); (case k5 => k_asm); (case k6 => k_mem); (case k7 => exact codeRec_news (by k_asm) (by k_mem) (by assumption) (by assumption)); (case k8 => k_room); (case k9 => kdv_bind); (case c5 => decide); (case kB => exact locs rfl); (case c2 => exact rfl); (case c3 => exact rfl); (case c4 => exact rfl); k_whole; intro g' L' h' FG' F' N' B' X' T'; (try dsimp only); (try k_lift B'); (try k_fold)))
    obtain rfl : r = l + 1 := hr
    have hq : (l + 1 == l + 1) = true := beq_self_eq_true _
    k_steps
    k_here
    k_dflt (refine' ksa_set ?F ?N ?U ?hi ?h0 ?h1 ?hfit ?_)
    case F => k_asm
    case N => k_asm
    case U => exact .tail n1.h (.tail n2.h (.tail n3.h (.tail n4.h (.tail n5.h (.head fun p hp => (sD p hp).h)))))
    case hi => assumption
    case h0 => omega
    case h1 => omega
    case hfit => omega
    intro h' F' N' i1 i2 i3
    k_steps
    refine ret _ _ _ (by rw [put_one (by omega)]; exact i1) ?_ ?_
    · k_asm
    · assumption
  | @two x sh u v lo j j2 d1 d2 h1 hb Hm Hu Hv Hl f1 f2 ih1 ih2 =>
    intro dp un gd cn cs a ccd cl outer A₀ base h₀ L m s Q E news vs ns l r tx tl tr hl hr hr2 hns hI B F X T hk N sD hdp hun ret
    have g1 := f1.pos
    have g2 := f2.pos
    have hmid : ShrK (l + r) 1 (l + (j : Int)) := ⟨by decide, by
      show (l + r).fdiv 2 = _
      rw [Int.fdiv_eq_ediv_of_nonneg _ (by decide)]
      omega⟩
    have Hm' : MulK (l + (j : Int) - l) n sh := by
      have e : l + (j : Int) - l = j := by omega
      rw [e]; exact Hm
    have hq : (l + 1 == r) = false := beq_eq_false_iff_ne.mpr (by omega)
    revert X
    k_fill
    intro X
    have hfn := fn_is (K := hd.heap_39 w.params) (f := 59) (i := 1) (q := I2Q) (cl := [(Str.ofString "n", cN), (Str.ofString "inner", cI), (Str.ofString "a_digits", cA)]) (doc := doc) (pm := pm) (c' := c') (ct := ctv) (by k_is) (by rfl)
    rw [hfn] at hoF
    subst hoF
    k_steps
    refine CiStop.go ?_
    k_dflt (refine wpAny_call ?_; (refine' kdv_code ?k1 ?k2 ?k3 ?k4 ?k5 ?kA ?kF ?kK ?k6 ?k7 ?k8 ?k9 ?kB ?_ ?c2 ?c3 ?c4 ?c5; (case kA => exact rfl); (case kF => exact rfl); (case kK => assumption); (case k1 => k_asm); (case k2 => k_asm); (case k3 => k_asm); (case k4 => k_asm); (case k5 => k_asm); (case k6 => k_mem); (case k7 => exact codeRec_news (by k_asm) (by k_mem) (by assumption) (by assumption)); (case k8 => show dp < recursionLimit; omega); (case k9 => kdv_bind); (case c5 => decide); (case kB => exact locs rfl); (case c2 => exact rfl); (case c3 => exact rfl); (case c4 => exact rfl); k_whole; intro g' L' h' FG' F' N' B' X' T'; (try dsimp only); (try k_lift B'); (try k_fold)))
    k_steps
    refine CiStop.go ?_
    k_dflt (refine' ih1 (vs := vs) (ns := ns) (l := l) (r := l + (j : Int)) ?a1 ?a2 ?a3 ?a4 ?a5 ?B ?F ?X ?T ?hk ?N ?sD ?hdp ?hun ?_)
    case a1 => exact hl
    case a2 => exact rfl
    case a3 => omega
    case a4 => exact hns
    case a5 => exact hI
    walk_at "cB"
    case sD => exact sD
    case hdp => (try simp only [depth_under_make, depth_under_kw, depth_in1, depth_deeper, depth_caller, Nat.add_assoc, Nat.reduceAdd]); omega
    case hun => (try simp only [units_in1, units_deeper, Around.mark_units, units_caller, Nat.add_assoc, Nat.reduceAdd]); omega
    k_whole
    intro vs1 hp1 tk1 i1 F1 N1
    walk_at "cD"
    k_steps
    refine CiStop.go ?_
    k_dflt (refine' ih2 (vs := vs1) (l := l + (j : Int)) (r := r) (ns := put ns l.toNat d1) ?a1 ?a2 ?a3 ?a4 ?a5 ?B ?F ?X ?T ?hk ?N ?sD ?hdp ?hun ?_)
    case a1 => omega
    case a2 => omega
    case a3 => rw [put_len (by rw [f1.len]; omega)]; exact hr2
    case a4 => rw [put_len (by rw [f1.len]; omega)]; exact hns
    case a5 => exact i1
    walk_at "cB"
    case sD => exact sD
    case hdp => (try simp only [depth_under_make, depth_under_kw, depth_in1, depth_deeper, depth_caller, Nat.add_assoc, Nat.reduceAdd]); omega
    case hun => (try simp only [units_in1, units_deeper, Around.mark_units, units_caller, Nat.add_assoc, Nat.reduceAdd]); omega
    k_whole
    intro vs2 hp2 tk2 i2 F2 N2
    walk_at "cD"
    k_steps
    refine ret vs2 _ _ ?_ ?_ ?_
    · have e : (l + (j : Int)).toNat = l.toNat + d1.length := by rw [f1.len]; omega
      rw [e, put_put (by rw [List.length_append, f1.len, f2.len]; omega)] at i2
      exact i2
    · k_asm
    · assumption

end
section
local macro_rules | `(tactic| walk_at "no such key") => `(tactic| skip)
open PySem PySem.W PyProof.Rows PySem.Spec PySem.Calls
local macro_rules | `(tactic| walk_at "binaryOp Mult ref int") => `(tactic| (k_here; k_dflt (refine' mul_list_res ?F ?N ?m ?e ?lo ?hi ?z ?_; walk_at "cF"; (case m => k_mem); (case e => exact repz); (case lo => omega); (case hi => omega); (case z => show 1 * _ ≤ _; omega); k_whole); intro d' h' F' N' l1; (try k_lt l1)))
local macro_rules | `(tactic| walk_at "call ref") => `(tactic| (k_here; (with_reducible show wpAny _ _ (call (Value.ref _) [Value.int _ _, Value.int _ _, Value.int _ _]) _ _ _); refine CiStop.out ?_))
theorem i2d_all {w : World} {loose : List Str} {mean : ExcName → Option Value} {mg mb : Str → Option Value}
  {dp un : Nat} {gd : Option (List Code)} {cn : Str} {cs : Scope} {a : Addr} {ccd : Value} {cl : List (Str × Addr)} {outer : List Env} {A₀ : Around} {base h₀ : Heap} {L : Addr} {m : Str → Option Value} {s : Shared} {Q E : Value → Shared → Prop}
  {news : List (Addr × Obj)} {ps : Array Value} {c₁ : Addr} {o₁ : Obj}
  {x n : Int} {k : Nat} {ds : List Int} {tx tn : Tok} (hx : Cut n x k ds) (hn : 0 < n) (hn2 : n < 2 ^ 20) (hk3 : k ≤ 2000) (hb : FdK ((Builtin.Int.intBits x : Int) + n - 1) n (k : Int))
  (B : Below A₀ base outer h₀) (F : Fr h₀ L s.heap m) (X : (hd.heap_39 w.params).In h₀) (T : Top topProg loose mean mg mb h₀) (hk : cs.kind = .function) (N : News h₀ L s.heap ((54, tabObj ps) :: (c₁, o₁) :: news))
  (c1 : CodeHd base 58 54) (tb : TabOk 36 4 I2Q ps c₁ o₁) (sepP : Sep 54 news) (sep1 : Sep c₁ news) (ne1 : NeN c₁ 54)
  (hdp : dp + k + 6 < recursionLimit) (hun : un + 4 * k + 40 < cLine)
  (ret : ∀ d vs c' oc h' tk', IntsAre vs ds → Fr h₀ L h' m → News h₀ L h' ((d, listOf vs.toArray 0) :: (54, tabObj #[rawInt 36, rawInt 4, .ref c']) :: (c', oc) :: news) →
    TabOk 36 4 I2Q #[rawInt 36, rawInt 4, .ref c'] c' oc → (ps = #[] ∨ (c' = c₁ ∧ oc = o₁)) → Sep c' news → Sep d news → NeN c' 54 → NeN d c' → NeN d 54 → Q (.ref d) { s with heap := h', toks := tk' }) :
  wpAny (model PySem.Challenge.rw_sc0080_01.row.prog w) (ktrTop dp un gd cn cs L a ccd cl outer) (call (.ref 59) [.int x tx, .int n tn]) Q E s := by
  revert X
  k_fill
  intro X
  refine wpAny_call ?_
  k_dflt (refine' code_defC ?k1 ?k2 ?k3 ?k4 ?k5 ?kA ?kF ?kK ?k6 ?k7 ?k8 ?k9 ?kB ?kD ?_ ?c2 ?c3 ?c4)
  case kA => exact rfl
  case kF => exact rfl
  case kK => assumption
  case k1 => k_asm
  case k2 => k_asm
  case k3 => k_asm
  case k4 => exact N
  case k5 => k_asm
  case k6 => k_is
  case k7 => k_is
  case k8 => show dp < recursionLimit; omega
  case k9 => exact BindsTo.of_eq rfl
  case kB => exact rfl
  case kD => decide +kernel
  case c2 => exact rfl
  case c3 => exact rfl
  case c4 => exact rfl
  intro g1 L1 h1 tk1 cells1 FG1 F1 N1 Y1 B1 X1 T1 lw1
  k_cells Y1
  simp only [List.cons_append, List.nil_append] at N1
  refine rebaseK (ex := [_, _, _, _, _]) F1 N1 B1 X1 T1 (news_in N (by intro p hp; repeat' first | exact hp | refine List.Mem.tail _ ?_)) (fun p hp => lw1 p (by repeat' first | exact hp | refine List.Mem.tail _ ?_)) (List.forall_mem_cons.mpr ⟨sep_cell lw1 (by intro p hp; repeat' first | exact hp | refine List.Mem.tail _ ?_) (by omega), List.forall_mem_cons.mpr ⟨sep_cell lw1 (by intro p hp; repeat' first | exact hp | refine List.Mem.tail _ ?_) (by omega), List.forall_mem_cons.mpr ⟨sep_cell lw1 (by intro p hp; repeat' first | exact hp | refine List.Mem.tail _ ?_) (by omega), List.forall_mem_cons.mpr ⟨sepP, List.forall_mem_cons.mpr ⟨sep1, List.forall_mem_nil _⟩⟩⟩⟩⟩) ?_
  intro gp Fp Np Bp Xp Tp Ip
  clear F1 N1 B1 X1 T1 FG1
  (try dsimp only)
  (try k_lift Bp)
  (try k_fold)
  k_steps
  · rename x ≠ 0 => hx0
    rename News gp L1 _ _ => NL
    k_dflt (refine len_list (NL.isList (by k_mem)) (by simp only [List.size_toArray, List.length_replicate]; omega) ?_)
    simp only [List.size_toArray, List.length_replicate]
    k_steps
    refine CiStop.go ?_
    cases hx with
    | zero => exact absurd rfl hx0
    | some _ hfl =>
    rename News gp L1 _ _ => NM
    k_dflt (refine' inn_i c1 hn hn2 ?oF ?oA ?oI ?oN ?oc ?vc ⟨?n1, ?n2, ?n3, ?n4, ?n5⟩ hfl (vs := List.replicate k (.int 0 tk1)) (ns := List.replicate k 0) (l := 0) (r := k) ?a1 ?a2 ?a3 ?a4 ?a5 ?B ?F ?X ?T ?hk (news_cons NM ?m0 (news_cons NM ?m1 (news_cons NM ?m2 (news_cons NM ?m3 (news_cons NM ?m4 (news_cons NM ?m5 (news_cons NM (x := (54, tabObj #[rawInt 36, rawInt 4, .ref _])) ?m6 (news_in NM (r := []) (fun _ h => absurd h (List.not_mem_nil)))))))))) ?sD ?hdp ?hun ?_)
    case m0 => k_dflt k_mem
    case oF => exact (fn_is (by k_is) (by rfl)).symm
    case m1 => k_dflt k_mem
    case m2 => k_dflt k_mem
    case m3 => k_dflt k_mem
    case m4 => k_dflt k_mem
    case oA => assumption
    case oI => assumption
    case oN => assumption
    case oc => assumption
    case vc => assumption
    case m5 => k_dflt k_mem
    case m6 => k_dflt k_mem
    case n1 => exact ⟨by k_ne⟩
    case n2 => exact ⟨by k_ne⟩
    case n3 => exact ⟨by k_ne⟩
    case n4 => exact ⟨by k_ne⟩
    case n5 => exact ⟨by k_ne⟩
    case a1 => exact Int.le_refl 0
    case a2 => exact (Int.zero_add _).symm
    case a3 => rw [List.length_replicate]; exact Int.le_refl _
    case a4 => rw [List.length_replicate]; omega
    case a5 => exact ints_rep _ k
    case B => k_asm
    case F => k_asm
    case X => k_asm
    case T => k_asm
    case hk => exact rfl
    case sD => exact List.forall_mem_cons.mpr ⟨⟨by k_ne⟩, List.forall_mem_nil _⟩
    case hdp => (try simp only [depth_under_make, depth_under_kw, depth_in1, depth_deeper, depth_caller, Nat.add_assoc, Nat.reduceAdd]); omega
    case hun => (try simp only [units_in1, units_deeper, Around.mark_units, units_caller, Nat.add_assoc, Nat.reduceAdd]); omega
    k_whole
    intro vs1 hp1 tk1 i1 F1 N1
    walk_at "cD"
    have i2 : IntsAre vs1 ds := by
      have e : put (List.replicate k 0) (0 : Int).toNat ds = ds := put_all (by rw [List.length_replicate, hfl.len])
      rw [e] at i1
      exact i1
    k_steps
    rename News h₀ L _ news => Nt
    rename News h₀ L _ (_ :: _) => NN
    rename News gp _ _ _ => NP
    refine' ret _ vs1 _ _ _ _ i2 ?F (news_cons NN ?m0 (news_cons NN ?m1 (news_cons NN ?m2 Nt))) ?T ?hw ?s ?s2 ?n1 ?n2 ?n3
    case hw => assumption
    case F => k_asm
    case m0 => k_dflt k_mem
    case m1 => k_dflt k_mem
    case m2 => k_dflt k_mem
    case T => assumption
    case s => exact InBase.sep (x := (_, _)) Ip NP (by k_dflt k_mem)
    case s2 => exact InBase.sep (x := (_, _)) Ip NP (by k_dflt k_mem)
    case n1 => exact ⟨by k_ne⟩
    case n2 => exact ⟨by k_ne⟩
    case n3 => exact ⟨by k_ne⟩
  · cases hx with
    | some hx _ => exact absurd (by assumption) hx
    | zero =>
    rename News h₀ L _ news => Nt
    rename News h₀ L _ (_ :: _) => NN
    rename News gp _ _ _ => NP
    refine' ret _ [] _ _ _ _ .nil ?Fb (news_cons NN ?m0b (news_cons NN ?m1b (news_cons NN ?m2b Nt))) ?Tb ?hwb ?sb ?s2b ?n1b ?n2b ?n3b
    case hwb => assumption
    case Fb => k_asm
    case m0b => k_dflt k_mem
    case m1b => k_dflt k_mem
    case m2b => k_dflt k_mem
    case Tb => assumption
    case sb => exact InBase.sep (x := (_, _)) Ip NP (by k_dflt k_mem)
    case s2b => exact InBase.sep (x := (_, _)) Ip NP (by k_dflt k_mem)
    case n1b => exact ⟨by k_ne⟩
    case n2b => exact ⟨by k_ne⟩
    case n3b => exact ⟨by k_ne⟩

end
section
open PySem PySem.W PyProof.Rows PySem.Spec PySem.Calls
local macro_rules | `(tactic| walk_at "call ref") => `(tactic| (k_here; (with_reducible show wpAny _ _ (call (Value.ref f) _) _ _ _); refine CiStop.out ?_))
local macro_rules | `(tactic| walk_at "subscriptTail Name Name ref int") => `(tactic| (k_here; refine CiStop.out ?_))
theorem inn_d {bX : Heap} (cX : CodeHd bX 65 61) {w : World} {loose : List Str} {mean : ExcName → Option Value} {mg mb : Str → Option Value} {n : Int} {f c' cA cI cN D : Addr} {oF oc oA oI oN : Obj} {e : Nat} {vc : Array Value} {doc pm ctv : Value} {tq tn : Tok} (hn : 0 < n) (hn2 : n < 2 ^ 20)
  (hoF : oF = fnIn (hd.heap_39 w.params) 66 0 D2Q [(Str.ofString "n", cN), (Str.ofString "inner", cI), (Str.ofString "digits", cA)] doc pm c' ctv) (hoA : oA.data = .cell (some (.ref D))) (hoI : oI.data = .cell (some (.ref f))) (hoN : oN.data = .cell (some (.int n tn))) (hoc : oc.data = .fields vc) (hvc : vc[1]? = some (.str D2Q tq))
  {ds : List Int} {v : Int} (hF : Dig n ds v) :
  ∀ {dp un : Nat} {gd : Option (List Code)} {cn : Str} {cs : Scope} {a : Addr} {ccd : Value} {cl : List (Str × Addr)} {outer : List Env} {A₀ : Around} {base h₀ : Heap} {L : Addr} {m : Str → Option Value} {s : Shared} {Q E : Value → Shared → Prop} {news : List (Addr × Obj)} {vs : List Value} {ns : List Int} {l r : Int} {tl tr : Tok},
  0 ≤ l → r = l + (ds.length : Int) → r ≤ 2500 → At ns l.toNat ds → IntsAre vs ns →
  Below A₀ base outer h₀ → Fr h₀ L s.heap m → (hd.heap_39 w.params).In h₀ → Top topProg loose mean mg mb h₀ → cs.kind = .function →
  News h₀ L s.heap ((f, oF) :: (c', oc) :: (cA, oA) :: (cI, oI) :: (cN, oN) :: (D, listOf vs.toArray e) :: news) → dp + ds.length + 2 < recursionLimit → un + 4 * ds.length + 8 < cLine →
  (∀ tv h' tk', Fr h₀ L h' m → News h₀ L h' ((f, oF) :: (c', oc) :: (cA, oA) :: (cI, oI) :: (cN, oN) :: (D, listOf vs.toArray e) :: news) → Q (.int v tv) { s with heap := h', toks := tk' }) →
  wpAny (model PySem.Challenge.rw_sc0080_01.row.prog w) (ktrTop dp un gd cn cs L a ccd cl outer) (call (.ref f) [.int l tl, .int r tr]) Q E s := by
  induction hF with
  | @one x =>
    intro dp un gd cn cs a ccd cl outer A₀ base h₀ L m s Q E news vs ns l r tl tr hl hr hr2 hns hI B F X T hk N hdp hun ret
    revert X
    k_fill
    intro X
    have hfn := fn_is (K := hd.heap_39 w.params) (f := 66) (i := 0) (q := D2Q) (cl := [(Str.ofString "n", cN), (Str.ofString "inner", cI), (Str.ofString "digits", cA)]) (doc := doc) (pm := pm) (c' := c') (ct := ctv) (by k_is) (by rfl)
    rw [hfn] at hoF
    subst hoF
    k_steps
    refine CiStop.go ?_
    k_dflt (refine wpAny_call ?_; (refine' kdv_code ?k1 ?k2 ?k3 ?k4 ?k5 ?kA ?kF ?kK ?k6 ?k7 ?k8 ?k9 ?kB ?_ ?c2 ?c3 ?c4 ?c5; (case kA => exact rfl); (case kF => exact rfl); (case kK => assumption); (case k1 => k_asm); (case k2 => k_asm); (case k3 => k_asm); (case k4 => k_asm); (case k5 => k_asm); (case k6 => k_mem); (case k7 => exact codeRec_news (by k_asm) (by k_mem) (by assumption) (by assumption)); (case k8 => k_room); (case k9 => kdv_bind); (case c5 => decide); (case kB => exact locs rfl); (case c2 => exact rfl); (case c3 => exact rfl); (case c4 => exact rfl); k_whole; intro g' L' h' FG' F' N' B' X' T'; (try dsimp only); (try k_lift B'); (try k_fold)))
    obtain rfl : r = l + 1 := hr
    have hq : (l + 1 == l + 1) = true := beq_self_eq_true _
    k_steps
    refine CiStop.go ?_
    k_dflt (refine' item_ints ?N ?m hI (j := l.toNat) ?hk ?hz (x := x) ?hx ?_)
    case N => k_asm
    case m => k_mem
    case hk => omega
    case hz => omega
    case hx => exact hns 0 Nat.zero_lt_one
    intro tv
    k_steps
    refine ret _ _ _ ?_ ?_
    · k_asm
    · assumption
  | @two sh v1 v2 u d1 d2 h1 hb Hm Hv f1 f2 ih1 ih2 =>
    intro dp un gd cn cs a ccd cl outer A₀ base h₀ L m s Q E news vs ns l r tl tr hl hr hr2 hns hI B F X T hk N hdp hun ret
    have g1 := f1.pos
    have g2 := f2.pos
    rw [List.length_append] at hr hdp hun
    have hmid : ShrK (l + r) 1 (l + (d1.length : Int)) := ⟨by decide, by
      show (l + r).fdiv 2 = _
      rw [Int.fdiv_eq_ediv_of_nonneg _ (by decide)]
      omega⟩
    have Hm' : MulK (l + (d1.length : Int) - l) n sh := by
      have e : l + (d1.length : Int) - l = (d1.length : Int) := by omega
      rw [e]; exact Hm
    have hq : (l + 1 == r) = false := beq_eq_false_iff_ne.mpr (by omega)
    revert X
    k_fill
    intro X
    have hfn := fn_is (K := hd.heap_39 w.params) (f := 66) (i := 0) (q := D2Q) (cl := [(Str.ofString "n", cN), (Str.ofString "inner", cI), (Str.ofString "digits", cA)]) (doc := doc) (pm := pm) (c' := c') (ct := ctv) (by k_is) (by rfl)
    rw [hfn] at hoF
    subst hoF
    k_steps
    refine CiStop.go ?_
    k_dflt (refine wpAny_call ?_; (refine' kdv_code ?k1 ?k2 ?k3 ?k4 ?k5 ?kA ?kF ?kK ?k6 ?k7 ?k8 ?k9 ?kB ?_ ?c2 ?c3 ?c4 ?c5; (case kA => exact rfl); (case kF => exact rfl); (case kK => assumption); (case k1 => k_asm); (case k2 => k_asm); (case k3 => k_asm); (case k4 => k_asm); (case k5 => k_asm); (case k6 => k_mem); (case k7 => exact codeRec_news (by k_asm) (by k_mem) (by assumption) (by assumption)); (case k8 => show dp < recursionLimit; omega); (case k9 => kdv_bind); (case c5 => decide); (case kB => exact locs rfl); (case c2 => exact rfl); (case c3 => exact rfl); (case c4 => exact rfl); k_whole; intro g' L' h' FG' F' N' B' X' T'; (try dsimp only); (try k_lift B'); (try k_fold)))
    k_steps
    refine CiStop.go ?_
    k_dflt (refine' ih2 (vs := vs) (ns := ns) (l := l + (d1.length : Int)) (r := r) ?a1 ?a2 ?a3 ?a4 hI ?B ?F ?X ?T ?hk ?N ?hdp ?hun ?_)
    case a1 => omega
    case a2 => omega
    case a3 => exact hr2
    case a4 =>
      have e : (l + (d1.length : Int)).toNat = l.toNat + d1.length := by omega
      rw [e]; exact hns.right
    walk_at "cB"
    case hdp => (try simp only [depth_under_make, depth_under_kw, depth_in1, depth_deeper, depth_caller, Nat.add_assoc, Nat.reduceAdd]); omega
    case hun => (try simp only [units_in1, units_deeper, Around.mark_units, units_caller, Nat.add_assoc, Nat.reduceAdd]); omega
    k_whole
    intro tv1 hp1 tk1 F1 N1
    walk_at "cD"
    k_steps
    refine CiStop.go ?_
    k_dflt (refine' ih1 (vs := vs) (ns := ns) (l := l) (r := l + (d1.length : Int)) ?a1 ?a2 ?a3 ?a4 hI ?B ?F ?X ?T ?hk ?N ?hdp ?hun ?_)
    case a1 => exact hl
    case a2 => exact rfl
    case a3 => omega
    case a4 => exact hns.left
    walk_at "cB"
    case hdp => (try simp only [depth_under_make, depth_under_kw, depth_in1, depth_deeper, depth_caller, Nat.add_assoc, Nat.reduceAdd]); omega
    case hun => (try simp only [units_in1, units_deeper, Around.mark_units, units_caller, Nat.add_assoc, Nat.reduceAdd]); omega
    k_whole
    intro tv2 hp2 tk2 F2 N2
    walk_at "cD"
    k_steps
    refine ret _ _ _ ?_ ?_
    · k_asm
    · assumption

end
section
open PySem PySem.W PyProof.Rows PySem.Spec PySem.Calls
local macro_rules | `(tactic| walk_at "call ref") => `(tactic| (k_here; (with_reducible show wpAny _ _ (call (Value.ref _) [Value.int _ _, Value.int _ _]) _ _ _); refine CiStop.out ?_))
theorem d2i_all {w : World} {loose : List Str} {mean : ExcName → Option Value} {mg mb : Str → Option Value}
  {dp un : Nat} {gd : Option (List Code)} {cn : Str} {cs : Scope} {a : Addr} {ccd : Value} {cl : List (Str × Addr)} {outer : List Env} {A₀ : Around} {base h₀ : Heap} {L : Addr} {m : Str → Option Value} {s : Shared} {Q E : Value → Shared → Prop}
  {news : List (Addr × Obj)} {ps : Array Value} {c₁ : Addr} {o₁ : Obj}
  {D : Addr} {e : Nat} {vs : List Value} {n v : Int} {ds : List Int} {tn : Tok} (hv : Join n ds v) (hI : IntsAre vs ds) (hn : 0 < n) (hn2 : n < 2 ^ 20) (hds : ds.length ≤ 2000)
  (B : Below A₀ base outer h₀) (F : Fr h₀ L s.heap m) (X : (hd.heap_39 w.params).In h₀) (T : Top topProg loose mean mg mb h₀) (hk : cs.kind = .function) (N : News h₀ L s.heap ((61, tabObj ps) :: (c₁, o₁) :: (D, listOf vs.toArray e) :: news))
  (c1 : CodeHd base 65 61) (tb : TabOk 51 4 D2Q ps c₁ o₁) (sepP : Sep 61 news) (sep1 : Sep c₁ news) (sepD : Sep D news) (ne1 : NeN c₁ 61) (neD : NeN D 61) (neD1 : NeN D c₁)
  (hdp : dp + ds.length + 6 < recursionLimit) (hun : un + 4 * ds.length + 40 < cLine)
  (ret : ∀ tr c' oc h' tk', Fr h₀ L h' m → News h₀ L h' ((61, tabObj #[rawInt 51, rawInt 4, .ref c']) :: (c', oc) :: (D, listOf vs.toArray e) :: news) →
    TabOk 51 4 D2Q #[rawInt 51, rawInt 4, .ref c'] c' oc → (ps = #[] ∨ (c' = c₁ ∧ oc = o₁)) → Sep c' news → NeN D c' → NeN c' 61 → Q (.int v tr) { s with heap := h', toks := tk' }) :
  wpAny (model PySem.Challenge.rw_sc0080_01.row.prog w) (ktrTop dp un gd cn cs L a ccd cl outer) (call (.ref 66) [.ref D, .int n tn]) Q E s := by
  revert X
  k_fill
  intro X
  refine wpAny_call ?_
  k_dflt (refine' code_defC ?k1 ?k2 ?k3 ?k4 ?k5 ?kA ?kF ?kK ?k6 ?k7 ?k8 ?k9 ?kB ?kD ?_ ?c2 ?c3 ?c4)
  case kA => exact rfl
  case kF => exact rfl
  case kK => assumption
  case k1 => k_asm
  case k2 => k_asm
  case k3 => k_asm
  case k4 => exact N
  case k5 => k_asm
  case k6 => k_is
  case k7 => k_is
  case k8 => show dp < recursionLimit; omega
  case k9 => exact BindsTo.of_eq rfl
  case kB => exact rfl
  case kD => decide +kernel
  case c2 => exact rfl
  case c3 => exact rfl
  case c4 => exact rfl
  intro g1 L1 h1 tk1 cells1 FG1 F1 N1 Y1 B1 X1 T1 lw1
  k_cells Y1
  simp only [List.cons_append, List.nil_append] at N1
  refine rebaseK (ex := [_, _, _, _, _, _]) F1 N1 B1 X1 T1 (news_in N (by intro p hp; repeat' first | exact hp | refine List.Mem.tail _ ?_)) (fun p hp => lw1 p (by repeat' first | exact hp | refine List.Mem.tail _ ?_)) (List.forall_mem_cons.mpr ⟨sep_cell lw1 (by intro p hp; repeat' first | exact hp | refine List.Mem.tail _ ?_) (by omega), List.forall_mem_cons.mpr ⟨sep_cell lw1 (by intro p hp; repeat' first | exact hp | refine List.Mem.tail _ ?_) (by omega), List.forall_mem_cons.mpr ⟨sep_cell lw1 (by intro p hp; repeat' first | exact hp | refine List.Mem.tail _ ?_) (by omega), List.forall_mem_cons.mpr ⟨sepP, List.forall_mem_cons.mpr ⟨sep1, List.forall_mem_cons.mpr ⟨sepD, List.forall_mem_nil _⟩⟩⟩⟩⟩⟩) ?_
  intro gp Fp Np Bp Xp Tp Ip
  clear F1 N1 B1 X1 T1 FG1
  (try dsimp only)
  (try k_lift Bp)
  (try k_fold)
  k_steps
  · refine CiStop.go ?_
    cases hv with
    | zero => exact absurd (by assumption) (Nat.lt_irrefl 0)
    | some hdg =>
    rename News gp L1 _ _ => NM
    k_dflt (refine' inn_d c1 hn hn2 ?oF ?oA ?oI ?oN ?oc ?vc hdg (vs := vs) (ns := ds) (l := 0) (r := ds.length) (Int.le_refl 0) (Int.zero_add _).symm ?a3 (fun j _ => by rw [Int.toNat_zero, Nat.zero_add]) hI ?B ?F ?X ?T ?hk (news_cons NM ?m0 (news_cons NM ?m1 (news_cons NM ?m2 (news_cons NM ?m3 (news_cons NM ?m4 (news_cons NM ?m5 (news_cons NM (x := (61, tabObj #[rawInt 51, rawInt 4, .ref _])) ?m6 (news_in NM (r := []) (fun _ h => absurd h (List.not_mem_nil)))))))))) ?hdp ?hun ?_)
    case m0 => k_dflt k_mem
    case oF => exact (fn_is (by k_is) (by rfl)).symm
    case m1 => k_dflt k_mem
    case m2 => k_dflt k_mem
    case m3 => k_dflt k_mem
    case m4 => k_dflt k_mem
    case oA => assumption
    case oI => assumption
    case oN => assumption
    case oc => assumption
    case vc => assumption
    case m5 => k_dflt k_mem
    case m6 => k_dflt k_mem
    case a3 => omega
    case B => k_asm
    case F => k_asm
    case X => k_asm
    case T => k_asm
    case hk => exact rfl
    case hdp => (try simp only [depth_under_make, depth_under_kw, depth_in1, depth_deeper, depth_caller, Nat.add_assoc, Nat.reduceAdd]); omega
    case hun => (try simp only [units_in1, units_deeper, Around.mark_units, units_caller, Nat.add_assoc, Nat.reduceAdd]); omega
    k_whole
    intro tv hp1 tk1 F1 N1
    walk_at "cD"
    k_steps
    rename News h₀ L _ news => Nt
    rename News h₀ L _ (_ :: _) => NN
    rename News gp _ _ _ => NP
    refine' ret _ _ _ _ _ ?F (news_cons NN ?m0 (news_cons NN ?m1 (news_cons NN ?m2 Nt))) ?T ?hw ?s ?n0 ?n1
    case hw => assumption
    case F => k_asm
    case m0 => k_dflt k_mem
    case m1 => k_dflt k_mem
    case m2 => k_dflt k_mem
    case T => assumption
    case s => exact InBase.sep (x := (_, _)) Ip NP (by k_dflt k_mem)
    case n0 => exact ⟨by k_ne⟩
    case n1 => exact ⟨by k_ne⟩
  · cases hv with
    | some hdg => exact absurd hdg.pos (by assumption)
    | zero =>
    rename News h₀ L _ news => Nt
    rename News h₀ L _ (_ :: _) => NN
    rename News gp _ _ _ => NP
    refine' ret _ _ _ _ _ ?Fb (news_cons NN ?m0b (news_cons NN ?m1b (news_cons NN ?m2b Nt))) ?Tb ?hwb ?sb ?n0b ?n1b
    case hwb => assumption
    case Fb => k_asm
    case m0b => k_dflt k_mem
    case m1b => k_dflt k_mem
    case m2b => k_dflt k_mem
    case Tb => assumption
    case sb => exact InBase.sep (x := (_, _)) Ip NP (by k_dflt k_mem)
    case n0b => exact ⟨by k_ne⟩
    case n1b => exact ⟨by k_ne⟩

end
section
open PySem PySem.W PyProof.Rows PySem.Spec PySem.Calls
theorem d21_c {w : World} {loose : List Str} {mean : ExcName → Option Value} {mg mb : Str → Option Value}
  {dp un : Nat} {gd : Option (List Code)} {cn : Str} {cs : Scope} {a : Addr} {ccd : Value} {cl : List (Str × Addr)} {outer : List Env} {A₀ : Around} {base h₀ : Heap} {L : Addr} {m : Str → Option Value} {s : Shared} {Q E : Value → Shared → Prop}
  {news : List (Addr × Obj)} {x y z q r : Int} {tx ty tz : Tok} (hdv : DivK x y q r) (hb : (Builtin.Int.intBits x : Int) - z ≤ 4000)
  (B : Below A₀ base outer h₀) (F : Fr h₀ L s.heap m) (X : (hd.heap_39 w.params).In h₀) (T : Top topProg loose mean mg mb h₀) (hk : cs.kind = .function) (N : News h₀ L s.heap news) (hdp : dp + 2 < recursionLimit) (hun : un + 20 < cLine)
  (ret : ∀ d t1 t2 h' tk', Fr h₀ L h' m → News h₀ L h' ((d, tupObj #[.int q t1, .int r t2]) :: news) → Sep d news → Q (.ref d) { s with heap := h', toks := tk' }) :
  wpAny (model PySem.Challenge.rw_sc0080_01.row.prog w) (ktrTop dp un gd cn cs L a ccd cl outer) (call (.ref 45) [.int x tx, .int y ty, .int z tz]) Q E s := by
  revert X
  k_fill
  intro X
  refine wpAny_call ?_
  k_dflt (refine' code_defL ?k1 ?k2 ?k3 ?k4 ?k5 ?kA ?kF ?kK ?k6 ?k7 ?k8 ?k9 ?kB ?_ ?c2 ?c3 ?c4 ?c5)
  case kA => exact rfl
  case kF => exact rfl
  case kK => assumption
  case k1 => k_asm
  case k2 => k_asm
  case k3 => k_asm
  case k4 => exact N
  case k5 => k_asm
  case k6 => k_is
  case k7 => k_is
  case k8 => ktr_room
  case k9 => exact BindsTo.of_eq rfl
  case c5 => decide
  case kB => exact locs rfl
  case c2 => exact rfl
  case c3 => exact rfl
  case c4 => exact rfl
  intro g1 L1 h1 FG1 F1 N1 B1 X1 T1 lw1
  refine rebaseK (ex := []) F1 N1 B1 X1 T1 (news_in N (by intro p hp; repeat' first | exact hp | refine List.Mem.tail _ ?_)) (fun p hp => lw1 p (by repeat' first | exact hp | refine List.Mem.tail _ ?_)) (List.forall_mem_nil _) ?_
  intro gp Fp Np Bp Xp Tp Ip
  clear F1 N1 B1 X1 T1 FG1
  (try dsimp only)
  (try k_lift Bp)
  (try k_fold)
  k_steps
  all_goals first
    | (exfalso; with_reducible contradiction)
    | (exfalso; omega)
    | skip
  rename News h₀ L _ news => Nt
  rename News h₀ L _ (_ :: _) => NN
  rename News gp _ _ _ => NP
  refine' ret _ _ _ _ _ ?F (news_cons NN ?m0 Nt) ?s
  case F => k_asm
  case m0 => k_dflt k_mem
  case s => exact InBase.sep (x := (_, _)) Ip NP (by k_dflt k_mem)

theorem i2dU_all {w : World} {loose : List Str} {mean : ExcName → Option Value} {mg mb : Str → Option Value}
  {dp un : Nat} {gd : Option (List Code)} {cn : Str} {cs : Scope} {a : Addr} {ccd : Value} {cl : List (Str × Addr)} {outer : List Env} {A₀ : Around} {base h₀ : Heap} {L : Addr} {m : Str → Option Value} {s : Shared} {Q E : Value → Shared → Prop}
  {news t1 tl : List (Addr × Obj)} {ps : Array Value} {c₁ : Addr} {o₁ : Obj}
  {x n : Int} {k : Nat} {ds : List Int} {tx tn : Tok} (hx : Cut n x k ds) (hn : 0 < n) (hn2 : n < 2 ^ 20) (hk3 : k ≤ 2000) (hb : FdK ((Builtin.Int.intBits x : Int) + n - 1) n (k : Int))
  (B : Below A₀ base outer h₀) (F : Fr h₀ L s.heap m) (X : (hd.heap_39 w.params).In h₀) (T : Top topProg loose mean mg mb h₀) (hk : cs.kind = .function) (N : News h₀ L s.heap news)
  (c1 : CodeHd base 58 54) (tb : TabOk 36 4 I2Q ps c₁ o₁) (U : Del 54 (tabObj ps) news t1) (U2 : Del c₁ o₁ t1 tl) (ne1 : NeN c₁ 54)
  (hdp : dp + k + 6 < recursionLimit) (hun : un + 4 * k + 40 < cLine)
  (ret : ∀ d vs c' oc h' tk', IntsAre vs ds → Fr h₀ L h' m → News h₀ L h' ((d, listOf vs.toArray 0) :: (54, tabObj #[rawInt 36, rawInt 4, .ref c']) :: (c', oc) :: tl) →
    TabOk 36 4 I2Q #[rawInt 36, rawInt 4, .ref c'] c' oc → (ps = #[] ∨ (c' = c₁ ∧ oc = o₁)) → Sep c' tl → Sep d tl → NeN c' 54 → NeN d c' → NeN d 54 → Q (.ref d) { s with heap := h', toks := tk' }) :
  wpAny (model PySem.Challenge.rw_sc0080_01.row.prog w) (ktrTop dp un gd cn cs L a ccd cl outer) (call (.ref 59) [.int x tx, .int n tn]) Q E s := by
  exact i2d_all hx hn hn2 hk3 hb B F X T hk (del2_news N U U2) c1 tb (sep_sub U.sep U2.sub) U2.sep ne1 hdp hun ret
theorem d2iU_all {w : World} {loose : List Str} {mean : ExcName → Option Value} {mg mb : Str → Option Value}
  {dp un : Nat} {gd : Option (List Code)} {cn : Str} {cs : Scope} {a : Addr} {ccd : Value} {cl : List (Str × Addr)} {outer : List Env} {A₀ : Around} {base h₀ : Heap} {L : Addr} {m : Str → Option Value} {s : Shared} {Q E : Value → Shared → Prop}
  {news z1 z2 tl : List (Addr × Obj)} {ps : Array Value} {c₁ : Addr} {o₁ : Obj}
  {D : Addr} {e : Nat} {vs : List Value} {n v : Int} {ds : List Int} {tn : Tok} (hv : Join n ds v) (hI : IntsAre vs ds) (hn : 0 < n) (hn2 : n < 2 ^ 20) (hds : ds.length ≤ 2000)
  (B : Below A₀ base outer h₀) (F : Fr h₀ L s.heap m) (X : (hd.heap_39 w.params).In h₀) (T : Top topProg loose mean mg mb h₀) (hk : cs.kind = .function) (N : News h₀ L s.heap news)
  (c1 : CodeHd base 65 61) (tb : TabOk 51 4 D2Q ps c₁ o₁) (U : Del 61 (tabObj ps) news z1) (U2 : Del c₁ o₁ z1 z2) (U3 : Del D (listOf vs.toArray e) z2 tl) (ne1 : NeN c₁ 61)
  (hdp : dp + ds.length + 6 < recursionLimit) (hun : un + 4 * ds.length + 40 < cLine)
  (ret : ∀ tr c' oc h' tk', Fr h₀ L h' m → News h₀ L h' ((61, tabObj #[rawInt 51, rawInt 4, .ref c']) :: (c', oc) :: (D, listOf vs.toArray e) :: tl) →
    TabOk 51 4 D2Q #[rawInt 51, rawInt 4, .ref c'] c' oc → (ps = #[] ∨ (c' = c₁ ∧ oc = o₁)) → Sep c' tl → NeN D c' → NeN c' 61 → Q (.int v tr) { s with heap := h', toks := tk' }) :
  wpAny (model PySem.Challenge.rw_sc0080_01.row.prog w) (ktrTop dp un gd cn cs L a ccd cl outer) (call (.ref 66) [.ref D, .int n tn]) Q E s := by
  have N3 : News h₀ L s.heap ((61, tabObj ps) :: (c₁, o₁) :: (D, listOf vs.toArray e) :: tl) := news_cons N U.mem (news_cons N (U.sub _ U2.mem) (news_cons N (U.sub _ (U2.sub _ U3.mem)) (news_in N fun p hp => U.sub p (U2.sub p (U3.sub p hp)))))
  exact d2i_all hv hI hn hn2 hds B F X T hk N3 c1 tb (sep_sub U.sep fun p hp => U2.sub p (U3.sub p hp)) (sep_sub U2.sep U3.sub) U3.sep ne1 (U.sep _ (U2.sub _ U3.mem)) (U2.sep _ U3.mem) hdp hun ret
local macro_rules | `(tactic| walk_at "call ref") => `(tactic| (k_here; (with_reducible show wpAny _ _ (call (Value.ref (OfNat.ofNat _)) _) _ _ _); refine CiStop.out ?_))
local macro_rules | `(tactic| walk_at "call type:reversed") => `(tactic| (k_here; refine CiStop.out ?_))
local macro_rules | `(tactic| walk_at "pyIter ref") => `(tactic| (k_here; refine CiStop.out ?_))
local macro_rules | `(tactic| walk_at "call builtin:list.append") => `(tactic| (k_here; refine CiStop.out ?_))
local macro_rules | `(tactic| walk_at "call builtin:list.reverse") => `(tactic| (k_here; refine CiStop.out ?_))
local macro_rules | `(tactic| walk_at "UnrEnd") => `(tactic| (refine CiStop.out ?_))
inductive DmJ (n y : Int) (ty tn : Tok) (D2 : Addr) (R : List (Addr × Obj)) (rf : Int) (qall : List Int) : List Int → (Str → Option Value) → List (Addr × Obj) → Prop
  | mk {as : List Int} {rc : Int} {tr : Tok} {vq : List Value} {e2 : Nat} {qs0 qs : List Int} {u : Str → Option Value} (hD : Divs n y as rc qs rf) (hq : qs0 ++ qs = qall) (hI : IntsAre vq qs0) :
    DmJ n y ty tn D2 R rf qall as (kstB u [(Str.ofString "b", .int y ty), (Str.ofString "n", .int n tn), (Str.ofString "r", .int rc tr), (Str.ofString "q_digits", .ref D2)]) ((D2, listOf vq.toArray e2) :: R)
theorem dmp_all {w : World} {loose : List Str} {mean : ExcName → Option Value} {mg mb : Str → Option Value}
  {dp un : Nat} {gd : Option (List Code)} {cn : Str} {cs : Scope} {a : Addr} {ccd : Value} {cl : List (Str × Addr)} {outer : List Env} {A₀ : Around} {base h₀ : Heap} {L : Addr} {m : Str → Option Value} {s : Shared} {Q E : Value → Shared → Prop}
  {news : List (Addr × Obj)} {ps ps2 : Array Value} {c₁ c₂ : Addr} {o₁ o₂ : Obj}
  {x y n q r : Int} {k : Nat} {ds qs : List Int} {tx ty : Tok} (hx : Cut n x k ds) (hn : 0 < n) (hn2 : n < 2 ^ 20) (hk3 : k ≤ 2000) (Hb : BitK y n) (Hf : FdK ((Builtin.Int.intBits x : Int) + n - 1) n (k : Int)) (Hd : Divs n y ds.reverse 0 qs r) (Hj : Join n qs.reverse q)
  (B : Below A₀ base outer h₀) (F : Fr h₀ L s.heap m) (X : (hd.heap_39 w.params).In h₀) (T : Top topProg loose mean mg mb h₀) (hk : cs.kind = .function) (N : News h₀ L s.heap ((54, tabObj ps) :: (c₁, o₁) :: (61, tabObj ps2) :: (c₂, o₂) :: news))
  (c1 : CodeHd base 58 54) (c2 : CodeHd base 65 61) (tb : TabOk 36 4 I2Q ps c₁ o₁) (tb2 : TabOk 51 4 D2Q ps2 c₂ o₂) (sep1 : Sep 54 news) (sep2 : Sep c₁ news) (sep3 : Sep 61 news) (sep4 : Sep c₂ news)
  (ne1 : NeN c₁ 54) (ne2 : NeN c₁ 61) (ne3 : NeN c₂ 54) (ne4 : NeN c₂ 61) (ne5 : NeN c₁ c₂)
  (hdp : dp + k + 10 < recursionLimit) (hun : un + 4 * k + 60 < cLine)
  (ret : ∀ d tq tr c' oc c2' oc2 h' tk', Fr h₀ L h' m → News h₀ L h' ((d, tupObj #[.int q tq, .int r tr]) :: (54, tabObj #[rawInt 36, rawInt 4, .ref c']) :: (c', oc) :: (61, tabObj #[rawInt 51, rawInt 4, .ref c2']) :: (c2', oc2) :: news) →
    TabOk 36 4 I2Q #[rawInt 36, rawInt 4, .ref c'] c' oc → TabOk 51 4 D2Q #[rawInt 51, rawInt 4, .ref c2'] c2' oc2 → (ps = #[] ∨ (c' = c₁ ∧ oc = o₁)) → (ps2 = #[] ∨ (c2' = c₂ ∧ oc2 = o₂)) → Sep c' news → Sep c2' news → NeN c' 54 → NeN c' 61 → NeN c2' 54 → NeN c2' 61 → NeN c' c2' → NeN d c' → NeN d c2' → NeN d 54 → NeN d 61 → Sep d news → Q (.ref d) { s with heap := h', toks := tk' }) :
  wpAny (model PySem.Challenge.rw_sc0080_01.row.prog w) (ktrTop dp un gd cn cs L a ccd cl outer) (call (.ref 73) [.int x tx, .int y ty]) Q E s := by
  revert X
  k_fill
  intro X
  refine wpAny_call ?_
  k_dflt (refine' code_defL ?k1 ?k2 ?k3 ?k4 ?k5 ?kA ?kF ?kK ?k6 ?k7 ?k8 ?k9 ?kB ?_ ?c2 ?c3 ?c4 ?c5)
  case kA => exact rfl
  case kF => exact rfl
  case kK => assumption
  case k1 => k_asm
  case k2 => k_asm
  case k3 => k_asm
  case k4 => exact N
  case k5 => k_asm
  case k6 => k_is
  case k7 => k_is
  case k8 => show dp < recursionLimit; omega
  case k9 => exact BindsTo.of_eq rfl
  case c5 => decide
  case kB => exact locs rfl
  case c2 => exact rfl
  case c3 => exact rfl
  case c4 => exact rfl
  intro g1 L1 h1 FG1 F1 N1 B1 X1 T1 lw1
  refine rebaseK (ex := [_, _, _, _]) F1 N1 B1 X1 T1 (news_in N (by intro p hp; repeat' first | exact hp | refine List.Mem.tail _ ?_)) (fun p hp => lw1 p (by repeat' first | exact hp | refine List.Mem.tail _ ?_)) (List.forall_mem_cons.mpr ⟨sep1, List.forall_mem_cons.mpr ⟨sep2, List.forall_mem_cons.mpr ⟨sep3, List.forall_mem_cons.mpr ⟨sep4, List.forall_mem_nil _⟩⟩⟩⟩) ?_
  intro gp Fp Np Bp Xp Tp Ip
  clear F1 N1 B1 X1 T1 FG1
  (try dsimp only)
  (try k_lift Bp)
  (try k_fold)
  have hlen := hx.len
  k_steps
  refine CiStop.go ?_
  k_dflt (refine' i2dU_all hx hn hn2 hk3 Hf ?B ?F ?X ?T ?hk ?N ?c1 ?tb ?U ?U2 ?ne1 ?hdp ?hun ?_)
  walk_at "cB"
  case c1 => kn_code
  case tb => assumption
  case U => k_updF
  case U2 => k_updF
  case ne1 => exact ⟨by k_ne⟩
  case hdp => (try simp only [depth_under_make, depth_under_kw, depth_in1, depth_deeper, depth_caller, Nat.add_assoc, Nat.reduceAdd]); omega
  case hun => (try simp only [units_in1, units_deeper, Around.mark_units, units_caller, Nat.add_assoc, Nat.reduceAdd]); omega
  k_whole
  intro d' vs c' oc' h' tk' hIv F' N' d3' hw' s1' s2' n1' n2' n3'
  walk_at "cD"
  k_steps
  refine CiStop.go ?_
  rename News gp L1 _ _ => NM
  k_dflt (refine' krv_reversed (vs := vs) ?F NM (NM.isList (by k_mem)) ?_)
  case F => k_asm
  k_whole
  intro I h2 F2 N2 l2
  k_steps
  refine CiStop.go ?_
  rename Fr gp L1 _ _ => FF
  rename News gp L1 _ _ => NN
  k_dflt (refine' iter_revUnr (vs := vs) (ax := d') (lo := listOf vs.toArray 0) rfl (fr_known [(Str.ofString "b", .int y ty), (Str.ofString "n", .int n _), (Str.ofString "r", .int 0 _), (Str.ofString "q_digits", .ref _)] FF (List.forall_mem_cons.mpr ⟨rfl, List.forall_mem_cons.mpr ⟨rfl, List.forall_mem_cons.mpr ⟨rfl, List.forall_mem_cons.mpr ⟨rfl, List.forall_mem_nil _⟩⟩⟩⟩)) NN ?off ?m rfl rfl ?_)
  case off => k_offL
  case m => k_mem
  refine rev_rest (ints_rev hIv) (DmJ n y ty _ _ _ r qs) ?turn ?fin (DmJ.mk Hd (List.nil_append _) .nil)
  case turn =>
    intro a1 as1 m1 news1 it h3 tk3 t3 J1 hit F3 N3
    cases J1 with
    | @mk rc tr vq e2 qs0 qs1 u hD hq hI1 =>
    have hlq : vq.length ≤ 2000 := by
      have e1 := hI1.length
      have e3 := Hd.len
      rw [← hq, List.length_append, List.length_reverse] at e3
      omega
    cases hD with
    | cons Hw Hq Hc hD2 =>
    k_steps
    refine CiStop.go ?_
    k_dflt (refine' d21_c Hq Hc ?B ?F ?X ?T ?hk ?N ?hdp ?hun ?_)
    walk_at "cB"
    case hdp => (try simp only [depth_under_make, depth_under_kw, depth_in1, depth_deeper, depth_caller, Nat.add_assoc, Nat.reduceAdd]); omega
    case hun => (try simp only [units_in1, units_deeper, Around.mark_units, units_caller, Nat.add_assoc, Nat.reduceAdd]); omega
    k_whole
    intro dt t1' t2' h4 tk4 F4 N4 s4
    walk_at "cD"
    k_steps
    refine CiStop.go ?_
    k_dflt (refine' append_ints (vs := vq) ?F ?N ?hz ?U ?_)
    case F => k_asm
    case N => k_asm
    case hz => omega
    case U => k_upd
    k_whole
    intro h5 F5 N5
    k_steps
    refine CiStop.go ?_
    rename Fr gp L1 _ _ => FE
    rename News gp L1 _ _ => NE
    refine ⟨_, _, _, (_, _) :: _, rfl, fr_known [(Str.ofString "b", .int y ty), (Str.ofString "n", .int n _), (Str.ofString "r", .int _ _), (Str.ofString "q_digits", .ref _)] FE (List.forall_mem_cons.mpr ⟨rfl, List.forall_mem_cons.mpr ⟨rfl, List.forall_mem_cons.mpr ⟨rfl, List.forall_mem_cons.mpr ⟨rfl, List.forall_mem_nil _⟩⟩⟩⟩), fun p hp => NE p (.tail _ hp), List.forall_mem_cons.mpr ⟨by k_ne, fun p hp => Nat.ne_of_lt (l2 p (.tail _ hp))⟩, by k_mem, DmJ.mk hD2 (by rw [List.append_assoc]; exact hq) (ints_snoc hI1)⟩
  case fin =>
    intro m1 news1 h3 tk3 J1 F3 N3
    cases J1 with
    | @mk rc tr vq e2 qs0 qs1 u hD hq hI1 =>
    cases hD with
    | nil =>
    rw [List.append_nil] at hq
    subst hq
    have hlq : qs0.length = k := by
      have e3 := Hd.len
      rw [List.length_reverse] at e3
      omega
    k_steps
    refine CiStop.go ?_
    k_dflt (refine' reverse_ints ?F ?N ?hz ?U ?_)
    case F => k_asm
    case N => k_asm
    case hz => rw [hI1.length]; omega
    case U => k_upd
    k_whole
    intro h5 F5 N5
    k_steps
    refine CiStop.go ?_
    k_dflt (refine' d2iU_all Hj (ints_rev hI1) hn hn2 ?hds ?B ?F ?X ?T ?hk ?N ?c1 ?tb ?U ?U2 ?U3 ?ne1 ?hdp ?hun ?_)
    walk_at "cB"
    case hds => rw [List.length_reverse]; omega
    case c1 => kn_code
    case tb => assumption
    case U => k_updF
    case U2 => k_updF
    case U3 => k_updF
    case ne1 => exact ⟨by k_ne⟩
    case hdp => rw [List.length_reverse]; (try simp only [depth_under_make, depth_under_kw, depth_in1, depth_deeper, depth_caller, Nat.add_assoc, Nat.reduceAdd]); omega
    case hun => rw [List.length_reverse]; (try simp only [units_in1, units_deeper, Around.mark_units, units_caller, Nat.add_assoc, Nat.reduceAdd]); omega
    k_whole
    intro t' c2' oc2 h' tk' F' N' d3' hw' s1' n0' n1'
    walk_at "cD"
    k_steps
    rename News h₀ L _ news => Nt
    rename News h₀ L _ (_ :: _) => NN
    rename News gp _ _ _ => NP
    refine' ret _ _ _ _ _ _ _ _ _ ?F (news_cons NN ?m0 (news_cons NN ?m1 (news_cons NN ?m2 (news_cons NN ?m3 (news_cons NN ?m4 Nt))))) ?T ?T2 ?hw ?hw2 ?s ?s2 ?n1 ?n2 ?n3 ?n4 ?n5 ?n6 ?n7 ?n8 ?n9 ?a
    case F => k_asm
    case m0 => k_dflt k_mem
    case m1 => k_dflt k_mem
    case m2 => k_dflt k_mem
    case m3 => k_dflt k_mem
    case m4 => k_dflt k_mem
    case T => assumption
    case T2 => assumption
    case hw => assumption
    case hw2 => assumption
    case s => exact InBase.sep (x := (_, _)) Ip NP (by k_dflt k_mem)
    case s2 => exact InBase.sep (x := (_, _)) Ip NP (by k_dflt k_mem)
    case a => exact InBase.sep (x := (_, _)) Ip NP (by k_dflt k_mem)
    case n1 => exact ⟨by k_ne⟩
    case n2 => exact ⟨by k_ne⟩
    case n3 => exact ⟨by k_ne⟩
    case n4 => exact ⟨by k_ne⟩
    case n5 => exact ⟨by k_ne⟩
    case n6 => exact ⟨by k_ne⟩
    case n7 => exact ⟨by k_ne⟩
    case n8 => exact ⟨by k_ne⟩
    case n9 => exact ⟨by k_ne⟩

end
section
open PySem PySem.W PyProof.Rows PySem.Spec PySem.Calls
inductive DMok : Int → Int → Int → Int → Prop
  | mk {x y n q r : Int} {k : Nat} {ds qs : List Int} (hx : Cut n x k ds) (hn : 0 < n) (hn2 : n < 2 ^ 20) (hk3 : k ≤ 2) (Hb : BitK y n) (Hf : FdK ((Builtin.Int.intBits x : Int) + n - 1) n (k : Int)) (Hd : Divs n y ds.reverse 0 qs r) (Hj : Join n qs.reverse q) : DMok x y q r
/-- what int_divmod is asked, any signs; the number counts its own calls -/
inductive SM : Nat → Int → Int → Int → Int → Prop
  | pp {x y q r : Int} (hx : 0 ≤ x) (hy : 0 < y) (h : DMok x y q r) : SM 0 x y q r
  | np {d : Nat} {x y q r : Int} (hx : x < 0) (hy : 0 < y) (h : SM d (Builtin.bitNot x) y q r) : SM (d + 1) x y (Builtin.bitNot q) (y + Builtin.bitNot r)
  | neg {d : Nat} {x y q r : Int} (hy : y < 0) (h : SM d (-x) (-y) q r) : SM (d + 1) x y q (-r)
theorem dmp_c {w : World} {loose : List Str} {mean : ExcName → Option Value} {mg mb : Str → Option Value}
  {dp un : Nat} {gd : Option (List Code)} {cn : Str} {cs : Scope} {a : Addr} {ccd : Value} {cl : List (Str × Addr)} {outer : List Env} {A₀ : Around} {base h₀ : Heap} {L : Addr} {m : Str → Option Value} {s : Shared} {Q E : Value → Shared → Prop}
  {news : List (Addr × Obj)} {ps ps2 : Array Value} {c₁ c₂ : Addr} {o₁ o₂ : Obj}
  {x y q r : Int} {tx ty : Tok} (hdm : DMok x y q r)
  (B : Below A₀ base outer h₀) (F : Fr h₀ L s.heap m) (X : (hd.heap_39 w.params).In h₀) (T : Top topProg loose mean mg mb h₀) (hk : cs.kind = .function) (N : News h₀ L s.heap ((54, tabObj ps) :: (c₁, o₁) :: (61, tabObj ps2) :: (c₂, o₂) :: news))
  (c1 : CodeHd base 58 54) (c2 : CodeHd base 65 61) (tb : TabOk 36 4 I2Q ps c₁ o₁) (tb2 : TabOk 51 4 D2Q ps2 c₂ o₂) (sep1 : Sep 54 news) (sep2 : Sep c₁ news) (sep3 : Sep 61 news) (sep4 : Sep c₂ news)
  (ne1 : NeN c₁ 54) (ne2 : NeN c₁ 61) (ne3 : NeN c₂ 54) (ne4 : NeN c₂ 61) (ne5 : NeN c₁ c₂)
  (hdp : dp + 2 + 10 < recursionLimit) (hun : un + 4 * 2 + 60 < cLine)
  (ret : ∀ d tq tr c' oc c2' oc2 h' tk', Fr h₀ L h' m → News h₀ L h' ((d, tupObj #[.int q tq, .int r tr]) :: (54, tabObj #[rawInt 36, rawInt 4, .ref c']) :: (c', oc) :: (61, tabObj #[rawInt 51, rawInt 4, .ref c2']) :: (c2', oc2) :: news) →
    TabOk 36 4 I2Q #[rawInt 36, rawInt 4, .ref c'] c' oc → TabOk 51 4 D2Q #[rawInt 51, rawInt 4, .ref c2'] c2' oc2 → (ps = #[] ∨ (c' = c₁ ∧ oc = o₁)) → (ps2 = #[] ∨ (c2' = c₂ ∧ oc2 = o₂)) → Sep c' news → Sep c2' news → NeN c' 54 → NeN c' 61 → NeN c2' 54 → NeN c2' 61 → NeN c' c2' → NeN d c' → NeN d c2' → NeN d 54 → NeN d 61 → Sep d news → Q (.ref d) { s with heap := h', toks := tk' }) :
  wpAny (model PySem.Challenge.rw_sc0080_01.row.prog w) (ktrTop dp un gd cn cs L a ccd cl outer) (call (.ref 73) [.int x tx, .int y ty]) Q E s := by
  cases hdm with
  | mk hx hn hn2 hk3 Hb Hf Hd Hj => exact dmp_all hx hn hn2 (by omega) Hb Hf Hd Hj B F X T hk N c1 c2 tb tb2 sep1 sep2 sep3 sep4 ne1 ne2 ne3 ne4 ne5 (by omega) (by omega) ret
local macro_rules | `(tactic| walk_at "call ref") => `(tactic| (k_here; (with_reducible show wpAny _ _ (call (Value.ref (OfNat.ofNat _)) _) _ _ _); refine CiStop.out ?_))
theorem idm_all {w : World} {loose : List Str} {mean : ExcName → Option Value} {mg mb : Str → Option Value} {d0 : Nat} {x y q r : Int} (hdm : SM d0 x y q r) :
  ∀ {dp un : Nat} {gd : Option (List Code)} {cn : Str} {cs : Scope} {a : Addr} {ccd : Value} {cl : List (Str × Addr)} {outer : List Env} {A₀ : Around} {base h₀ : Heap} {L : Addr} {m : Str → Option Value} {s : Shared} {Q E : Value → Shared → Prop}
  {news : List (Addr × Obj)} {ps ps2 : Array Value} {c₁ c₂ : Addr} {o₁ o₂ : Obj} {tx ty : Tok}
  (B : Below A₀ base outer h₀) (F : Fr h₀ L s.heap m) (X : (hd.heap_39 w.params).In h₀) (T : Top topProg loose mean mg mb h₀) (hk : cs.kind = .function) (N : News h₀ L s.heap ((54, tabObj ps) :: (c₁, o₁) :: (61, tabObj ps2) :: (c₂, o₂) :: news))
  (c1 : CodeHd base 58 54) (c2 : CodeHd base 65 61) (tb : TabOk 36 4 I2Q ps c₁ o₁) (tb2 : TabOk 51 4 D2Q ps2 c₂ o₂) (sep1 : Sep 54 news) (sep2 : Sep c₁ news) (sep3 : Sep 61 news) (sep4 : Sep c₂ news)
  (ne1 : NeN c₁ 54) (ne2 : NeN c₁ 61) (ne3 : NeN c₂ 54) (ne4 : NeN c₂ 61) (ne5 : NeN c₁ c₂)
  (hdp : dp + 4 * d0 + 2 + 14 < recursionLimit) (hun : un + 20 * d0 + 4 * 2 + 80 < cLine)
  (ret : ∀ d tq tr c' oc c2' oc2 h' tk', Fr h₀ L h' m → News h₀ L h' ((d, tupObj #[.int (q) tq, .int (r) tr]) :: (54, tabObj #[rawInt 36, rawInt 4, .ref c']) :: (c', oc) :: (61, tabObj #[rawInt 51, rawInt 4, .ref c2']) :: (c2', oc2) :: news) →
    TabOk 36 4 I2Q #[rawInt 36, rawInt 4, .ref c'] c' oc → TabOk 51 4 D2Q #[rawInt 51, rawInt 4, .ref c2'] c2' oc2 → (ps = #[] ∨ (c' = c₁ ∧ oc = o₁)) → (ps2 = #[] ∨ (c2' = c₂ ∧ oc2 = o₂)) → Sep c' news → Sep c2' news → NeN c' 54 → NeN c' 61 → NeN c2' 54 → NeN c2' 61 → NeN c' c2' → NeN d c' → NeN d c2' → NeN d 54 → NeN d 61 → Sep d news → Q (.ref d) { s with heap := h', toks := tk' }),
  wpAny (model PySem.Challenge.rw_sc0080_01.row.prog w) (ktrTop dp un gd cn cs L a ccd cl outer) (call (.ref 80) [.int (x) tx, .int (y) ty]) Q E s := by
  induction hdm with
  | @pp x y q r hx hy h =>
    intro dp un gd cn cs a ccd cl outer A₀ base h₀ L m s Q E news ps ps2 c₁ c₂ o₁ o₂ tx ty B F X T hk N c1 c2 tb tb2 sep1 sep2 sep3 sep4 ne1 ne2 ne3 ne4 ne5 hdp hun ret
    have hyz : (y == 0) = false := beq_eq_false_iff_ne.mpr (by omega)
    revert X
    k_fill
    intro X
    refine wpAny_call ?_
    k_dflt (refine' code_defL ?k1 ?k2 ?k3 ?k4 ?k5 ?kA ?kF ?kK ?k6 ?k7 ?k8 ?k9 ?kB ?_ ?c2 ?c3 ?c4 ?c5)
    case kA => exact rfl
    case kF => exact rfl
    case kK => assumption
    case k1 => k_asm
    case k2 => k_asm
    case k3 => k_asm
    case k4 => exact N
    case k5 => k_asm
    case k6 => k_is
    case k7 => k_is
    case k8 => show dp < recursionLimit; omega
    case k9 => exact BindsTo.of_eq rfl
    case c5 => decide
    case kB => exact locs rfl
    case c2 => exact rfl
    case c3 => exact rfl
    case c4 => exact rfl
    intro g1 L1 h1 FG1 F1 N1 B1 X1 T1 lw1
    refine rebaseK (ex := [_, _, _, _]) F1 N1 B1 X1 T1 (news_in N (by intro p hp; repeat' first | exact hp | refine List.Mem.tail _ ?_)) (fun p hp => lw1 p (by repeat' first | exact hp | refine List.Mem.tail _ ?_)) (List.forall_mem_cons.mpr ⟨sep1, List.forall_mem_cons.mpr ⟨sep2, List.forall_mem_cons.mpr ⟨sep3, List.forall_mem_cons.mpr ⟨sep4, List.forall_mem_nil _⟩⟩⟩⟩) ?_
    intro gp Fp Np Bp Xp Tp Ip
    clear F1 N1 B1 X1 T1 FG1
    (try dsimp only)
    (try k_lift Bp)
    (try k_fold)
    k_steps
    refine CiStop.go ?_
    k_dflt (refine' dmp_c h (news := []) ?B ?F ?X ?T ?hk ?N ?c1 ?c2 tb tb2 (List.forall_mem_nil _) (List.forall_mem_nil _) (List.forall_mem_nil _) (List.forall_mem_nil _) ne1 ne2 ne3 ne4 ne5 ?hdp ?hun ?_)
    walk_at "cB"
    walk_at "cC"
    case hdp => (try simp only [depth_under_make, depth_under_kw, depth_in1, depth_deeper, depth_caller, Nat.add_assoc, Nat.reduceAdd]); omega
    case hun => (try simp only [units_in1, units_deeper, Around.mark_units, units_caller, Nat.add_assoc, Nat.reduceAdd]); omega
    k_whole
    intro d' tq' tr' c' oc' c2' oc2' h' tk' F' N' d3' d4' hw' hw2' s1' s2' n1' n2' n3' n4' n5' n6' n7' n8' n9' s3'
    walk_at "cD"
    k_steps
    rename News h₀ L _ news => Nt
    rename News h₀ L _ (_ :: _) => NN
    rename News gp _ _ _ => NP
    refine' ret _ _ _ _ _ _ _ _ _ ?F (news_cons NN ?m0 (news_cons NN ?m1 (news_cons NN ?m2 (news_cons NN ?m3 (news_cons NN ?m4 Nt))))) ?T ?T2 ?hw ?hw2 ?s ?s2 ?n1 ?n2 ?n3 ?n4 ?n5 ?n6 ?n7 ?n8 ?n9 ?a
    case F => k_asm
    case m0 => k_dflt k_mem
    case m1 => k_dflt k_mem
    case m2 => k_dflt k_mem
    case m3 => k_dflt k_mem
    case m4 => k_dflt k_mem
    case T => assumption
    case T2 => assumption
    case hw => assumption
    case hw2 => assumption
    case s => exact InBase.sep (x := (_, _)) Ip NP (by k_dflt k_mem)
    case s2 => exact InBase.sep (x := (_, _)) Ip NP (by k_dflt k_mem)
    case a => exact InBase.sep (x := (_, _)) Ip NP (by k_dflt k_mem)
    case n1 => exact ⟨by k_ne⟩
    case n2 => exact ⟨by k_ne⟩
    case n3 => exact ⟨by k_ne⟩
    case n4 => exact ⟨by k_ne⟩
    case n5 => exact ⟨by k_ne⟩
    case n6 => exact ⟨by k_ne⟩
    case n7 => exact ⟨by k_ne⟩
    case n8 => exact ⟨by k_ne⟩
    case n9 => exact ⟨by k_ne⟩
  | @np d x y q r hx hy h ih =>
    intro dp un gd cn cs a ccd cl outer A₀ base h₀ L m s Q E news ps ps2 c₁ c₂ o₁ o₂ tx ty B F X T hk N c1 c2 tb tb2 sep1 sep2 sep3 sep4 ne1 ne2 ne3 ne4 ne5 hdp hun ret
    have hnb : 0 ≤ Builtin.bitNot x := by unfold Builtin.bitNot; omega
    have hyz : (y == 0) = false := beq_eq_false_iff_ne.mpr (by omega)
    revert X
    k_fill
    intro X
    refine wpAny_call ?_
    k_dflt (refine' code_defL ?k1 ?k2 ?k3 ?k4 ?k5 ?kA ?kF ?kK ?k6 ?k7 ?k8 ?k9 ?kB ?_ ?c2 ?c3 ?c4 ?c5)
    case kA => exact rfl
    case kF => exact rfl
    case kK => assumption
    case k1 => k_asm
    case k2 => k_asm
    case k3 => k_asm
    case k4 => exact N
    case k5 => k_asm
    case k6 => k_is
    case k7 => k_is
    case k8 => show dp < recursionLimit; omega
    case k9 => exact BindsTo.of_eq rfl
    case c5 => decide
    case kB => exact locs rfl
    case c2 => exact rfl
    case c3 => exact rfl
    case c4 => exact rfl
    intro g1 L1 h1 FG1 F1 N1 B1 X1 T1 lw1
    refine rebaseK (ex := [_, _, _, _]) F1 N1 B1 X1 T1 (news_in N (by intro p hp; repeat' first | exact hp | refine List.Mem.tail _ ?_)) (fun p hp => lw1 p (by repeat' first | exact hp | refine List.Mem.tail _ ?_)) (List.forall_mem_cons.mpr ⟨sep1, List.forall_mem_cons.mpr ⟨sep2, List.forall_mem_cons.mpr ⟨sep3, List.forall_mem_cons.mpr ⟨sep4, List.forall_mem_nil _⟩⟩⟩⟩) ?_
    intro gp Fp Np Bp Xp Tp Ip
    clear F1 N1 B1 X1 T1 FG1
    (try dsimp only)
    (try k_lift Bp)
    (try k_fold)
    k_steps
    refine CiStop.go ?_
    k_dflt (refine' ih (news := []) ?B ?F ?X ?T ?hk ?N ?c1 ?c2 tb tb2 (List.forall_mem_nil _) (List.forall_mem_nil _) (List.forall_mem_nil _) (List.forall_mem_nil _) ne1 ne2 ne3 ne4 ne5 ?hdp ?hun ?_)
    walk_at "cB"
    walk_at "cC"
    case hdp => (try simp only [depth_under_make, depth_under_kw, depth_in1, depth_deeper, depth_caller, Nat.add_assoc, Nat.reduceAdd]); omega
    case hun => (try simp only [units_in1, units_deeper, Around.mark_units, units_caller, Nat.add_assoc, Nat.reduceAdd]); omega
    k_whole
    intro d' tq' tr' c' oc' c2' oc2' h' tk' F' N' d3' d4' hw' hw2' s1' s2' n1' n2' n3' n4' n5' n6' n7' n8' n9' s3'
    walk_at "cD"
    k_steps
    rename News h₀ L _ news => Nt
    rename News h₀ L _ (_ :: _) => NN
    rename News gp _ _ _ => NP
    refine' ret _ _ _ _ _ _ _ _ _ ?F (news_cons NN ?m0 (news_cons NN ?m1 (news_cons NN ?m2 (news_cons NN ?m3 (news_cons NN ?m4 Nt))))) ?T ?T2 ?hw ?hw2 ?s ?s2 ?n1 ?n2 ?n3 ?n4 ?n5 ?n6 ?n7 ?n8 ?n9 ?a
    case F => k_asm
    case m0 => k_dflt k_mem
    case m1 => k_dflt k_mem
    case m2 => k_dflt k_mem
    case m3 => k_dflt k_mem
    case m4 => k_dflt k_mem
    case T => assumption
    case T2 => assumption
    case hw => assumption
    case hw2 => assumption
    case s => exact InBase.sep (x := (_, _)) Ip NP (by k_dflt k_mem)
    case s2 => exact InBase.sep (x := (_, _)) Ip NP (by k_dflt k_mem)
    case a => exact InBase.sep (x := (_, _)) Ip NP (by k_dflt k_mem)
    case n1 => exact ⟨by k_ne⟩
    case n2 => exact ⟨by k_ne⟩
    case n3 => exact ⟨by k_ne⟩
    case n4 => exact ⟨by k_ne⟩
    case n5 => exact ⟨by k_ne⟩
    case n6 => exact ⟨by k_ne⟩
    case n7 => exact ⟨by k_ne⟩
    case n8 => exact ⟨by k_ne⟩
    case n9 => exact ⟨by k_ne⟩
  | @neg d x y q r hy h ih =>
    intro dp un gd cn cs a ccd cl outer A₀ base h₀ L m s Q E news ps ps2 c₁ c₂ o₁ o₂ tx ty B F X T hk N c1 c2 tb tb2 sep1 sep2 sep3 sep4 ne1 ne2 ne3 ne4 ne5 hdp hun ret
    have hyz : (y == 0) = false := beq_eq_false_iff_ne.mpr (by omega)
    revert X
    k_fill
    intro X
    refine wpAny_call ?_
    k_dflt (refine' code_defL ?k1 ?k2 ?k3 ?k4 ?k5 ?kA ?kF ?kK ?k6 ?k7 ?k8 ?k9 ?kB ?_ ?c2 ?c3 ?c4 ?c5)
    case kA => exact rfl
    case kF => exact rfl
    case kK => assumption
    case k1 => k_asm
    case k2 => k_asm
    case k3 => k_asm
    case k4 => exact N
    case k5 => k_asm
    case k6 => k_is
    case k7 => k_is
    case k8 => show dp < recursionLimit; omega
    case k9 => exact BindsTo.of_eq rfl
    case c5 => decide
    case kB => exact locs rfl
    case c2 => exact rfl
    case c3 => exact rfl
    case c4 => exact rfl
    intro g1 L1 h1 FG1 F1 N1 B1 X1 T1 lw1
    refine rebaseK (ex := [_, _, _, _]) F1 N1 B1 X1 T1 (news_in N (by intro p hp; repeat' first | exact hp | refine List.Mem.tail _ ?_)) (fun p hp => lw1 p (by repeat' first | exact hp | refine List.Mem.tail _ ?_)) (List.forall_mem_cons.mpr ⟨sep1, List.forall_mem_cons.mpr ⟨sep2, List.forall_mem_cons.mpr ⟨sep3, List.forall_mem_cons.mpr ⟨sep4, List.forall_mem_nil _⟩⟩⟩⟩) ?_
    intro gp Fp Np Bp Xp Tp Ip
    clear F1 N1 B1 X1 T1 FG1
    (try dsimp only)
    (try k_lift Bp)
    (try k_fold)
    k_steps
    refine CiStop.go ?_
    k_dflt (refine' ih (news := []) ?B ?F ?X ?T ?hk ?N ?c1 ?c2 tb tb2 (List.forall_mem_nil _) (List.forall_mem_nil _) (List.forall_mem_nil _) (List.forall_mem_nil _) ne1 ne2 ne3 ne4 ne5 ?hdp ?hun ?_)
    walk_at "cB"
    walk_at "cC"
    case hdp => (try simp only [depth_under_make, depth_under_kw, depth_in1, depth_deeper, depth_caller, Nat.add_assoc, Nat.reduceAdd]); omega
    case hun => (try simp only [units_in1, units_deeper, Around.mark_units, units_caller, Nat.add_assoc, Nat.reduceAdd]); omega
    k_whole
    intro d' tq' tr' c' oc' c2' oc2' h' tk' F' N' d3' d4' hw' hw2' s1' s2' n1' n2' n3' n4' n5' n6' n7' n8' n9' s3'
    walk_at "cD"
    k_steps
    rename News h₀ L _ news => Nt
    rename News h₀ L _ (_ :: _) => NN
    rename News gp _ _ _ => NP
    refine' ret _ _ _ _ _ _ _ _ _ ?F (news_cons NN ?m0 (news_cons NN ?m1 (news_cons NN ?m2 (news_cons NN ?m3 (news_cons NN ?m4 Nt))))) ?T ?T2 ?hw ?hw2 ?s ?s2 ?n1 ?n2 ?n3 ?n4 ?n5 ?n6 ?n7 ?n8 ?n9 ?a
    case F => k_asm
    case m0 => k_dflt k_mem
    case m1 => k_dflt k_mem
    case m2 => k_dflt k_mem
    case m3 => k_dflt k_mem
    case m4 => k_dflt k_mem
    case T => assumption
    case T2 => assumption
    case hw => assumption
    case hw2 => assumption
    case s => exact InBase.sep (x := (_, _)) Ip NP (by k_dflt k_mem)
    case s2 => exact InBase.sep (x := (_, _)) Ip NP (by k_dflt k_mem)
    case a => exact InBase.sep (x := (_, _)) Ip NP (by k_dflt k_mem)
    case n1 => exact ⟨by k_ne⟩
    case n2 => exact ⟨by k_ne⟩
    case n3 => exact ⟨by k_ne⟩
    case n4 => exact ⟨by k_ne⟩
    case n5 => exact ⟨by k_ne⟩
    case n6 => exact ⟨by k_ne⟩
    case n7 => exact ⟨by k_ne⟩
    case n8 => exact ⟨by k_ne⟩
    case n9 => exact ⟨by k_ne⟩
theorem idm_allW {w : World} {loose : List Str} {mean : ExcName → Option Value} {mg mb : Str → Option Value}
  {dp un : Nat} {gd : Option (List Code)} {cn : Str} {cs : Scope} {a : Addr} {ccd : Value} {cl : List (Str × Addr)} {outer : List Env} {A₀ : Around} {base h₀ : Heap} {L : Addr} {m : Str → Option Value} {s : Shared} {Q E : Value → Shared → Prop}
  {news : List (Addr × Obj)} {c₁ c₂ : Addr} {o₁ o₂ : Obj}
  {d0 : Nat} {x y q r : Int} {tx ty : Tok} (hdm : SM d0 x y q r)
  (B : Below A₀ base outer h₀) (F : Fr h₀ L s.heap m) (X : (hd.heap_39 w.params).In h₀) (T : Top topProg loose mean mg mb h₀) (hk : cs.kind = .function) (N : News h₀ L s.heap news)
  (c1 : CodeHd base 58 54) (c2 : CodeHd base 65 61) (m1 : (54, tabObj #[rawInt 36, rawInt 4, .ref c₁]) ∈ news) (m2 : (61, tabObj #[rawInt 51, rawInt 4, .ref c₂]) ∈ news) (tb : TabOk 36 4 I2Q #[rawInt 36, rawInt 4, .ref c₁] c₁ o₁) (tb2 : TabOk 51 4 D2Q #[rawInt 51, rawInt 4, .ref c₂] c₂ o₂) (m3 : (c₁, o₁) ∈ news) (m4 : (c₂, o₂) ∈ news)
  (ne1 : NeN c₁ 54) (ne2 : NeN c₁ 61) (ne3 : NeN c₂ 54) (ne4 : NeN c₂ 61) (ne5 : NeN c₁ c₂)
  (hdp : dp + 4 * d0 + 2 + 14 < recursionLimit) (hun : un + 20 * d0 + 4 * 2 + 80 < cLine)
  (ret : ∀ d tq tr h' tk', Fr h₀ L h' m → News h₀ L h' ((d, tupObj #[.int (q) tq, .int (r) tr]) :: news) → Sep d news → Q (.ref d) { s with heap := h', toks := tk' }) :
  wpAny (model PySem.Challenge.rw_sc0080_01.row.prog w) (ktrTop dp un gd cn cs L a ccd cl outer) (call (.ref 80) [.int x tx, .int y ty]) Q E s := by
  obtain ⟨tl, N4, s1, s2, s3, s4, hl⟩ := split4 N m1 m3 m2 m4
  refine idm_all hdm B F X T hk N4 c1 c2 tb tb2 s1 s2 s3 s4 ne1 ne2 ne3 ne4 ne5 hdp hun fun d tq tr c' oc c2' oc2 h' tk' F' N' t1 t2 hw hw2 z1 z2 z3 z4 z5 z6 z7 z8 z9 z10 z11 z12 => ?_
  obtain ⟨rfl, rfl⟩ := hw.resolve_left (by simp)
  obtain ⟨rfl, rfl⟩ := hw2.resolve_left (by simp)
  exact ret d tq tr h' tk' F' (news_back N' hl) (sep_back z12 z10 z8 z11 z9 hl)
theorem idm_allU {w : World} {loose : List Str} {mean : ExcName → Option Value} {mg mb : Str → Option Value}
  {dp un : Nat} {gd : Option (List Code)} {cn : Str} {cs : Scope} {a : Addr} {ccd : Value} {cl : List (Str × Addr)} {outer : List Env} {A₀ : Around} {base h₀ : Heap} {L : Addr} {m : Str → Option Value} {s : Shared} {Q E : Value → Shared → Prop}
  {news z1 z2 z3 tl : List (Addr × Obj)} {ps ps2 : Array Value} {c₁ c₂ : Addr} {o₁ o₂ : Obj}
  {d0 : Nat} {x y q r : Int} {tx ty : Tok} (hdm : SM d0 x y q r)
  (B : Below A₀ base outer h₀) (F : Fr h₀ L s.heap m) (X : (hd.heap_39 w.params).In h₀) (T : Top topProg loose mean mg mb h₀) (hk : cs.kind = .function) (N : News h₀ L s.heap news)
  (c1 : CodeHd base 58 54) (c2 : CodeHd base 65 61) (tb : TabOk 36 4 I2Q ps c₁ o₁) (tb2 : TabOk 51 4 D2Q ps2 c₂ o₂) (U1 : Del 54 (tabObj ps) news z1) (U2 : Del c₁ o₁ z1 z2) (U3 : Del 61 (tabObj ps2) z2 z3) (U4 : Del c₂ o₂ z3 tl)
  (ne1 : NeN c₁ 54) (ne2 : NeN c₁ 61) (ne3 : NeN c₂ 54) (ne4 : NeN c₂ 61) (ne5 : NeN c₁ c₂)
  (hdp : dp + 4 * d0 + 2 + 14 < recursionLimit) (hun : un + 20 * d0 + 4 * 2 + 80 < cLine)
  (ret : ∀ d tq tr c' oc c2' oc2 h' tk', Fr h₀ L h' m → News h₀ L h' ((d, tupObj #[.int (q) tq, .int (r) tr]) :: (54, tabObj #[rawInt 36, rawInt 4, .ref c']) :: (c', oc) :: (61, tabObj #[rawInt 51, rawInt 4, .ref c2']) :: (c2', oc2) :: tl) →
    TabOk 36 4 I2Q #[rawInt 36, rawInt 4, .ref c'] c' oc → TabOk 51 4 D2Q #[rawInt 51, rawInt 4, .ref c2'] c2' oc2 → (ps = #[] ∨ (c' = c₁ ∧ oc = o₁)) → (ps2 = #[] ∨ (c2' = c₂ ∧ oc2 = o₂)) → Sep c' tl → Sep c2' tl → NeN c' 54 → NeN c' 61 → NeN c2' 54 → NeN c2' 61 → NeN c' c2' → NeN d c' → NeN d c2' → NeN d 54 → NeN d 61 → Sep d tl → Q (.ref d) { s with heap := h', toks := tk' }) :
  wpAny (model PySem.Challenge.rw_sc0080_01.row.prog w) (ktrTop dp un gd cn cs L a ccd cl outer) (call (.ref 80) [.int x tx, .int y ty]) Q E s := by
  exact idm_all hdm B F X T hk (news_cons N U1.mem (news_cons N (U1.sub _ U2.mem) (news_cons N (U1.sub _ (U2.sub _ U3.mem)) (news_cons N (U1.sub _ (U2.sub _ (U3.sub _ U4.mem))) (news_in N fun p hp => U1.sub p (U2.sub p (U3.sub p (U4.sub p hp)))))))) c1 c2 tb tb2 (sep_sub U1.sep fun p hp => U2.sub p (U3.sub p (U4.sub p hp))) (sep_sub U2.sep fun p hp => U3.sub p (U4.sub p hp)) (sep_sub U3.sep fun p hp => U4.sub p hp) U4.sep ne1 ne2 ne3 ne4 ne5 hdp hun ret


end
section
open PySem PySem.W PyProof.Rows PySem.Spec PySem.Calls
open PySem.Builtin.Int (intBits) in
theorem shl_of {x n : Int} {a : Nat} (h0 : 0 ≤ n) (hx : intBits x ≤ a) (ha : a ≤ 100000) (hn : n ≤ 100000) : ShlK x n (x * 2 ^ n.toNat) := ⟨h0, by omega, rfl⟩
open PySem.Builtin.Int (intBits) in
theorem div_of {x y : Int} (h0 : y ≠ 0) (hy : intBits y ≤ 1000) : DivK x y (x.fdiv y) (x.fmod y) := ⟨h0, PyProof.noPylong_of_log2 (by
  have : y.natAbs < 2 ^ 1000 := PySem.intBits_le_iff.mp hy
  have h : y.natAbs.log2 < 1000 := (Nat.log2_lt (by omega)).mpr this
  omega), rfl, rfl⟩
theorem fdiv_of {x y q r : Int} (hy : 0 < y) (h : x = q * y + r) (h0 : 0 ≤ r) (h1 : r < y) : x.fdiv y = q ∧ x.fmod y = r := by
  have e : x.fdiv y = q := by
    rw [Int.fdiv_eq_ediv_of_nonneg _ (Int.le_of_lt hy)]
    rw [h, Int.add_comm, Int.add_mul_ediv_right _ _ (by omega), Int.ediv_eq_zero_of_lt h0 h1]
    omega
  refine ⟨e, ?_⟩
  have := Int.mul_fdiv_add_fmod x y
  rw [e] at this
  have c := Int.mul_comm y q
  omega
theorem fdiv_eq {x y : Int} (hy : 0 < y) : x = x.fdiv y * y + x.fmod y ∧ 0 ≤ x.fmod y ∧ x.fmod y < y := by
  refine ⟨?_, Int.fmod_nonneg_of_pos _ hy, Int.fmod_lt_of_pos _ hy⟩
  have := Int.mul_fdiv_add_fmod x y
  have c := Int.mul_comm y (x.fdiv y)
  omega
theorem fdk0 {n : Int} (hn : 0 < n) : FdK (((PySem.Builtin.Int.intBits 0 : Nat) : Int) + n - 1) n 0 := ⟨by
  have e : PySem.Builtin.Int.intBits 0 = 0 := rfl
  rw [e]
  exact (fdiv_of (q := 0) (r := n - 1) hn (by omega) (by omega) (by omega)).1⟩
theorem dm_zero {y : Int} (hy : 0 < y) (hb : PySem.Builtin.Int.intBits y ≤ 1000) : DMok 0 y 0 0 := by
  have hn : 0 < ((PySem.Builtin.Int.intBits y : Nat) : Int) := by
    cases h : PySem.Builtin.Int.intBits y with
    | zero =>
      have := PySem.intBits_le_iff.mp (Nat.le_of_eq h)
      simp at this
      omega
    | succ k => omega
  exact .mk (k := 0) .zero hn (by omega) (Nat.zero_le _) ⟨rfl⟩ (fdk0 hn) .nil .zero
/-- what is asked of a division, for a dividend of at most twice as many bits -/
theorem dm_ok {x y : Int} (hx : 0 ≤ x) (hy : 0 < y) (hb : PySem.Builtin.Int.intBits y ≤ 1000) (h2 : PySem.Builtin.Int.intBits x ≤ 2 * PySem.Builtin.Int.intBits y) : DMok x y (x.fdiv y) (x.fmod y) := by
  by_cases hx0 : x = 0
  · subst hx0
    have e := fdiv_of (x := 0) (q := 0) (r := 0) hy (by omega) (by omega) hy
    rw [e.1, e.2]
    exact dm_zero hy hb
  have hn : 0 < ((PySem.Builtin.Int.intBits y : Nat) : Int) := by
    cases h : PySem.Builtin.Int.intBits y with
    | zero =>
      have := PySem.intBits_le_iff.mp (Nat.le_of_eq h)
      simp at this
      omega
    | succ k => omega
  have hx1 : 0 < PySem.Builtin.Int.intBits x := by
    cases h : PySem.Builtin.Int.intBits x with
    | zero =>
      have := PySem.intBits_le_iff.mp (Nat.le_of_eq h)
      simp at this
      omega
    | succ k => omega
  generalize hN : PySem.Builtin.Int.intBits y = N at *
  have b0 : PySem.Builtin.Int.intBits 0 ≤ 0 := Nat.le_refl _
  by_cases h1 : PySem.Builtin.Int.intBits x ≤ N
  · have e0 : (0 : Int) * 2 ^ ((N : Int)).toNat + x = x := by omega
    have hf : FdK ((PySem.Builtin.Int.intBits x : Int) + N - 1) N 1 := ⟨(fdiv_of (q := 1) (r := (PySem.Builtin.Int.intBits x : Int) - 1) hn (by omega) (by omega) (by omega)).1⟩
    have := DMok.mk (x := x) (y := y) (n := N) (k := 1) (.some hx0 (.one x)) hn (by omega) (by decide) ⟨by rw [hN]⟩ hf (.cons (q := x.fdiv y) (r' := x.fmod y) (w := 0 * 2 ^ ((N : Int)).toNat) (shl_of (by omega) b0 (by omega) (by omega)) (by rw [e0]; exact div_of (by omega) (by omega)) (by rw [e0]; omega) .nil) (.some (.one _))
    exact this
  · have hp : (0 : Int) < 2 ^ N := Int.pow_pos (by decide)
    have eN : ((N : Int)).toNat = N := rfl
    have e0 : (0 : Int) * 2 ^ ((N : Int)).toNat + x.fdiv (2 ^ ((N : Int)).toNat) = x.fdiv (2 ^ N) := by rw [eN]; omega
    have bx : PySem.Builtin.Int.intBits x ≤ 2 * N := h2
    have bu : PySem.Builtin.Int.intBits (x.fdiv (2 ^ N)) ≤ 2 * N := PySem.intBits_fdiv_le bx
    have br : PySem.Builtin.Int.intBits ((x.fdiv (2 ^ N)).fmod y) ≤ 2 * N := Nat.le_trans (PySem.intBits_fmod_le bu (Nat.le_of_eq hN)) (by omega)
    have bq : PySem.Builtin.Int.intBits ((x.fdiv (2 ^ N)).fdiv y) ≤ 2 * N := PySem.intBits_fdiv_le bu
    have bp : PySem.Builtin.Int.intBits ((2 : Int) ^ N) ≤ N + 1 := PySem.intBits_le_iff.mpr (by
      have : ((2 : Int) ^ N).natAbs = 2 ^ N := by rw [Int.natAbs_pow]; rfl
      rw [this]
      exact Nat.pow_lt_pow_right (by decide) (by omega))
    have bl : PySem.Builtin.Int.intBits (x.fmod (2 ^ N)) ≤ 2 * N + 1 := Nat.le_trans (PySem.intBits_fmod_le bx bp) (by omega)
    have bm : PySem.Builtin.Int.intBits ((x.fdiv (2 ^ N)).fmod y * 2 ^ N) ≤ 3 * N + 1 := Nat.le_trans (PySem.intBits_mul_le br bp) (by omega)
    have bs : PySem.Builtin.Int.intBits ((x.fdiv (2 ^ N)).fmod y * 2 ^ N + x.fmod (2 ^ N)) ≤ 3 * N + 2 := Nat.le_trans (PySem.intBits_add_le bm bl) (by omega)
    have hxor : XorK x (x.fdiv (2 ^ N) * 2 ^ ((N : Int)).toNat) (x.fmod (2 ^ N)) := ⟨xor_low hx N⟩
    obtain ⟨a1, a2, a3⟩ := fdiv_eq (x := x) hp
    obtain ⟨c1, c2, c3⟩ := fdiv_eq (x := x.fdiv (2 ^ N)) hy
    obtain ⟨d1, d2, d3⟩ := fdiv_eq (x := (x.fdiv (2 ^ N)).fmod y * 2 ^ N + x.fmod (2 ^ N)) hy
    have key := fdiv_of (x := x) (y := y) (q := (x.fdiv (2 ^ N)).fdiv y * 2 ^ N + ((x.fdiv (2 ^ N)).fmod y * 2 ^ N + x.fmod (2 ^ N)).fdiv y) (r := ((x.fdiv (2 ^ N)).fmod y * 2 ^ N + x.fmod (2 ^ N)).fmod y) hy (by
      rw [Int.add_mul, Int.add_assoc, ← d1, ← Int.add_assoc]
      have e1 : (x.fdiv (2 ^ N)).fdiv y * 2 ^ N * y = (x.fdiv (2 ^ N)).fdiv y * y * 2 ^ N := by rw [Int.mul_assoc, Int.mul_assoc, Int.mul_comm (2 ^ N) y]
      rw [e1, ← Int.add_mul, ← c1]
      exact a1) d2 d3
    rw [key.1, key.2]
    have hf : FdK ((PySem.Builtin.Int.intBits x : Int) + N - 1) N 2 := ⟨(fdiv_of (q := 2) (r := (PySem.Builtin.Int.intBits x : Int) - 1 - N) hn (by omega) (by omega) (by omega)).1⟩
    have hm : MulK ((1 : Nat) : Int) (N : Int) N := ⟨mulok_small (by decide) (Nat.lt_of_le_of_lt (show (N : Int).natAbs ≤ 1000 by omega) (by decide)), by omega⟩
    have := DMok.mk (x := x) (y := y) (n := N) (k := 1 + 1) (.some hx0 (.two (sh := N) (u := x.fdiv (2 ^ N)) (v := x.fdiv (2 ^ N) * 2 ^ ((N : Int)).toNat) (lo := x.fmod (2 ^ N)) (Nat.zero_lt_one) (.inl rfl) hm ⟨by omega, rfl⟩ (shl_of (by omega) bu (by omega) (by omega)) hxor (.one _) (.one _))) hn (by omega) (by decide) ⟨by rw [hN]⟩ hf
      (.cons (q := (x.fdiv (2 ^ N)).fdiv y) (r' := (x.fdiv (2 ^ N)).fmod y) (w := 0 * 2 ^ ((N : Int)).toNat) (shl_of (by omega) b0 (by omega) (by omega)) (by rw [show (0 : Int) * 2 ^ ((N : Int)).toNat + x.fdiv (2 ^ N) = x.fdiv (2 ^ N) by omega]; exact div_of (by omega) (by omega)) (by rw [show (0 : Int) * 2 ^ ((N : Int)).toNat + x.fdiv (2 ^ N) = x.fdiv (2 ^ N) by omega]; omega)
        (.cons (q := ((x.fdiv (2 ^ N)).fmod y * 2 ^ N + x.fmod (2 ^ N)).fdiv y) (r' := ((x.fdiv (2 ^ N)).fmod y * 2 ^ N + x.fmod (2 ^ N)).fmod y) (w := (x.fdiv (2 ^ N)).fmod y * 2 ^ ((N : Int)).toNat) (shl_of (by omega) br (by omega) (by omega)) (div_of (by omega) (by omega)) (by rw [eN]; omega) .nil))
      (.some (.two (d1 := [((x.fdiv (2 ^ N)).fmod y * 2 ^ N + x.fmod (2 ^ N)).fdiv y]) (d2 := [(x.fdiv (2 ^ N)).fdiv y]) Nat.zero_lt_one (.inl rfl) hm (shl_of (by omega) bq (by omega) (by omega)) (.one _) (.one _)))
    exact this

end
section
open PySem PySem.W PyProof.Rows PySem.Spec PySem.Calls
theorem sm_below {top bs q r : Int} (ht : 0 ≤ top) (hb : 0 < bs) (he : top = q * bs + r) (hr0 : 0 ≤ r) (hr1 : r < bs) (hbb : PySem.Builtin.Int.intBits bs ≤ 1000) (hbt : PySem.Builtin.Int.intBits top ≤ 2 * PySem.Builtin.Int.intBits bs) :
    ∃ b0 b1 d, d ≤ 1 ∧ b0 = (if r = 0 then -q else -q - 1) ∧ b1 = (if r = 0 then 0 else bs - r) ∧ SM d (-top) bs b0 b1 := by
  have hk0 := fdiv_of (x := top) hb he hr0 hr1
  by_cases h0 : top = 0
  · have hq0 : q = 0 := by
      rw [h0] at hk0
      rw [← hk0.1]
      exact (fdiv_of (x := 0) (q := 0) (r := 0) hb (by omega) (by omega) hb).1
    have hr0' : r = 0 := by rw [hq0, h0] at he; omega
    subst hq0 hr0' h0
    exact ⟨0, 0, 0, by decide, rfl, rfl, .pp (by decide) hb (dm_zero hb hbb)⟩
  · have ht1 : 0 < top := by omega
    have hbt2 : PySem.Builtin.Int.intBits (top - 1) ≤ 2 * PySem.Builtin.Int.intBits bs := Nat.le_trans (PySem.intBits_le_of_natAbs (by omega) (Nat.le_refl _)) hbt
    have h2 := dm_ok (x := top - 1) (by omega) hb hbb hbt2
    have e1 : Builtin.bitNot (-top) = top - 1 := by unfold Builtin.bitNot; omega
    rw [← e1] at h2
    have h3 : SM 1 (-top) bs _ _ := .np (by omega) hb (.pp (by rw [e1]; omega) hb h2)
    by_cases hz : r = 0
    · subst hz
      have hk2 := fdiv_of (x := top - 1) (q := q - 1) (r := bs - 1) hb (by rw [Int.sub_mul]; omega) (by omega) (by omega)
      rw [e1, hk2.1, hk2.2] at h3
      rw [if_pos rfl, if_pos rfl]
      have a1 : Builtin.bitNot (q - 1) = -q := by unfold Builtin.bitNot; omega
      have a2 : bs + Builtin.bitNot (bs - 1) = 0 := by unfold Builtin.bitNot; omega
      rw [a1, a2] at h3
      exact ⟨_, _, 1, Nat.le_refl 1, rfl, rfl, h3⟩
    · have hk2 := fdiv_of (x := top - 1) (q := q) (r := r - 1) hb (by omega) (by omega) (by omega)
      rw [e1, hk2.1, hk2.2] at h3
      rw [if_neg hz, if_neg hz]
      have a1 : Builtin.bitNot q = -q - 1 := by unfold Builtin.bitNot; omega
      have a2 : bs + Builtin.bitNot (r - 1) = bs - r := by unfold Builtin.bitNot; omega
      rw [a1, a2] at h3
      exact ⟨_, _, 1, Nat.le_refl 1, rfl, rfl, h3⟩
local macro_rules | `(tactic| walk_at "call ref") => `(tactic| (k_here; (with_reducible show wpAny _ _ (call (Value.ref (OfNat.ofNat _)) _) _ _ _); refine CiStop.out ?_))
local macro_rules | `(tactic| walk_at "exec Assign") => `(tactic| (k_here; (with_reducible show wpAny _ _ (exec (Stmt.Assign _ (Expr.IfExp _ _ _ _) _) _) _ _ _); refine CiStop.out ?_))
local macro_rules | `(tactic| walk_at "CutFlow") => `(tactic| (dsimp only [CutFlow]))
inductive DvZ (s : Shared) (gp : Heap) (L1 : Addr) (top bs q r b0 b1 : Int) (tx ty tq tr : Tok) (R : List (Addr × Obj)) (s' : Shared) : Prop
  | mk (tb : Addr) (t0 t1 : Tok) (u : Str → Option Value) (hp : Heap) (tk : Nat) (j0 : s' = { s with heap := hp, toks := tk }) (j1 : Fr gp L1 hp (kstB u [(Str.ofString "top", .int top tx), (Str.ofString "base", .int bs ty), (Str.ofString "quotient", .int q tq), (Str.ofString "rest", .int r tr), (Str.ofString "below", .ref tb)])) (j2 : News gp L1 hp ((tb, tupObj #[.int b0 t0, .int b1 t1]) :: R)) (j3 : Sep tb R) : DvZ s gp L1 top bs q r b0 b1 tx ty tq tr R s'
theorem divd_c {w : World} {loose : List Str} {mean : ExcName → Option Value} {mg mb : Str → Option Value}
  {dp un : Nat} {gd : Option (List Code)} {cn : Str} {cs : Scope} {a : Addr} {ccd : Value} {cl : List (Str × Addr)} {outer : List Env} {A₀ : Around} {base h₀ : Heap} {L : Addr} {m : Str → Option Value} {s : Shared} {Q E : Value → Shared → Prop}
  {news : List (Addr × Obj)} {ps ps2 : Array Value} {c₁ c₂ : Addr} {o₁ o₂ : Obj}
  {top bs q r : Int} {tx ty tq tr : Tok} (ht : 0 ≤ top) (hb : 0 < bs) (he : top = q * bs + r) (hr0 : 0 ≤ r) (hr1 : r < bs) (hbb : PySem.Builtin.Int.intBits bs ≤ 1000) (hbt : PySem.Builtin.Int.intBits top ≤ 2 * PySem.Builtin.Int.intBits bs)
  (B : Below A₀ base outer h₀) (F : Fr h₀ L s.heap m) (X : (hd.heap_39 w.params).In h₀) (T : Top topProg loose mean mg mb h₀) (hk : cs.kind = .function) (N : News h₀ L s.heap ((54, tabObj ps) :: (c₁, o₁) :: (61, tabObj ps2) :: (c₂, o₂) :: news))
  (c1 : CodeHd base 58 54) (c2 : CodeHd base 65 61) (tb : TabOk 36 4 I2Q ps c₁ o₁) (tb2 : TabOk 51 4 D2Q ps2 c₂ o₂) (sep1 : Sep 54 news) (sep2 : Sep c₁ news) (sep3 : Sep 61 news) (sep4 : Sep c₂ news)
  (ne1 : NeN c₁ 54) (ne2 : NeN c₁ 61) (ne3 : NeN c₂ 54) (ne4 : NeN c₂ 61) (ne5 : NeN c₁ c₂)
  (hdp : dp + 32 < recursionLimit) (hun : un + 180 < cLine)
  (ret : ∀ bb c' oc c2' oc2 h' tk', Fr h₀ L h' m → News h₀ L h' ((54, tabObj #[rawInt 36, rawInt 4, .ref c']) :: (c', oc) :: (61, tabObj #[rawInt 51, rawInt 4, .ref c2']) :: (c2', oc2) :: news) →
    TabOk 36 4 I2Q #[rawInt 36, rawInt 4, .ref c'] c' oc → TabOk 51 4 D2Q #[rawInt 51, rawInt 4, .ref c2'] c2' oc2 → (ps = #[] ∨ (c' = c₁ ∧ oc = o₁)) → (ps2 = #[] ∨ (c2' = c₂ ∧ oc2 = o₂)) → Sep c' news → Sep c2' news → NeN c' 54 → NeN c' 61 → NeN c2' 54 → NeN c2' 61 → NeN c' c2' → bb = true → Q (.bool bb) { s with heap := h', toks := tk' }) :
  wpAny (model PySem.Challenge.rw_sc0080_01.row.prog w) (ktrTop dp un gd cn cs L a ccd cl outer) (call (.ref 174) [.int top tx, .int bs ty, .int q tq, .int r tr]) Q E s := by
  have hk0 := fdiv_of (x := top) hb he hr0 hr1
  have s1 : SM 0 top bs q r := .pp ht hb (by
    have := dm_ok ht hb hbb hbt
    rw [hk0.1, hk0.2] at this
    exact this)
  have s2 : SM 1 (-top) (-bs) q (-r) := .neg (by omega) (by rw [Int.neg_neg, Int.neg_neg]; exact s1)
  obtain ⟨b0, b1, d3, hd3, hb0, hb1, s3⟩ := sm_below ht hb he hr0 hr1 hbb hbt
  have s4 : SM (d3 + 1) top (-bs) b0 (-b1) := .neg (by omega) (by rw [Int.neg_neg]; exact s3)
  clear hk0
  revert X
  k_fill
  intro X
  refine wpAny_call ?_
  k_dflt (refine' code_defL ?k1 ?k2 ?k3 ?k4 ?k5 ?kA ?kF ?kK ?k6 ?k7 ?k8 ?k9 ?kB ?_ ?c2 ?c3 ?c4 ?c5)
  case kA => exact rfl
  case kF => exact rfl
  case kK => assumption
  case k1 => k_asm
  case k2 => k_asm
  case k3 => k_asm
  case k4 => exact N
  case k5 => k_asm
  case k6 => k_is
  case k7 => k_is
  case k8 => show dp < recursionLimit; omega
  case k9 => exact BindsTo.of_eq rfl
  case c5 => decide
  case kB => exact locs rfl
  case c2 => exact rfl
  case c3 => exact rfl
  case c4 => exact rfl
  intro g1 L1 h1 FG1 F1 N1 B1 X1 T1 lw1
  refine rebaseK (ex := [_, _, _, _]) F1 N1 B1 X1 T1 (news_in N (by intro p hp; repeat' first | exact hp | refine List.Mem.tail _ ?_)) (fun p hp => lw1 p (by repeat' first | exact hp | refine List.Mem.tail _ ?_)) (List.forall_mem_cons.mpr ⟨sep1, List.forall_mem_cons.mpr ⟨sep2, List.forall_mem_cons.mpr ⟨sep3, List.forall_mem_cons.mpr ⟨sep4, List.forall_mem_nil _⟩⟩⟩⟩) ?_
  intro gp Fp Np Bp Xp Tp Ip
  clear F1 N1 B1 X1 T1 FG1
  (try dsimp only)
  (try k_lift Bp)
  (try k_fold)
  k_steps
  refine CiStop.go ?_
  refine' exec_cut (DvZ s gp L1 top bs q r b0 b1 tx ty tq tr [(54, tabObj ps), (c₁, o₁), (61, tabObj ps2), (c₂, o₂)]) ?hx ?fin
  case hx =>
    refine wpAny_Assign_Name ?_
    k_steps
    · rename Fr gp L1 _ _ => FF
      rename News gp L1 _ _ => NN
      refine CiStop.go ?_
      refine ⟨_, ?qa1, ?qa2, _, _, _, rfl, fr_known _ FF (List.forall_mem_cons.mpr ⟨rfl, List.forall_mem_cons.mpr ⟨rfl, List.forall_mem_cons.mpr ⟨rfl, List.forall_mem_cons.mpr ⟨rfl, List.forall_mem_cons.mpr ⟨rfl, List.forall_mem_nil _⟩⟩⟩⟩⟩), ?nta, ?spta⟩
      case nta => rw [hb0, hb1, if_pos (by assumption), if_pos (by assumption)]; exact NN
      case spta => walk_at "cS"
    · rename Fr gp L1 _ _ => FF
      rename News gp L1 _ _ => NN
      refine CiStop.go ?_
      refine ⟨_, ?qb1, ?qb2, _, _, _, rfl, fr_known _ FF (List.forall_mem_cons.mpr ⟨rfl, List.forall_mem_cons.mpr ⟨rfl, List.forall_mem_cons.mpr ⟨rfl, List.forall_mem_cons.mpr ⟨rfl, List.forall_mem_cons.mpr ⟨rfl, List.forall_mem_nil _⟩⟩⟩⟩⟩), ?ntc, ?sptc⟩
      case ntc => rw [hb0, hb1, if_neg (by assumption), if_neg (by assumption)]; exact NN
      case sptc => walk_at "cS"
  case fin =>
    rintro s' ⟨tb, t0, t1, u, hp, tk, rfl, FF, NN, sB⟩
    k_steps
    repeat' (refine CiStop.go ?_; (first | (k_dflt (refine' idm_allW ?hdm ?B ?F ?X ?T ?hk ?N ?c1 ?c2 ?m1 ?m2 ?tb ?tb2 ?m3 ?m4 ?ne1 ?ne2 ?ne3 ?ne4 ?ne5 ?hdp ?hun ?_; (case hdm => with_reducible assumption); walk_at "cB"; walk_at "cC"; (case m1 => k_mem); (case m2 => k_mem); walk_at "cA"; (case m3 => k_mem); (case m4 => k_mem); walk_at "cN"; (case hdp => (try simp only [depth_under_make, depth_under_kw, depth_in1, depth_deeper, depth_caller, Nat.add_assoc, Nat.reduceAdd]); omega); (case hun => (try simp only [units_in1, units_deeper, Around.mark_units, units_caller, Nat.add_assoc, Nat.reduceAdd]); omega); k_whole); intro d' tq' tr' h' tk' F' N' s3'; walk_at "cD") | (k_dflt (refine' idm_allU ?hdm ?B ?F ?X ?T ?hk ?N ?c1 ?c2 ?tb ?tb2 ?U1 ?U2 ?U3 ?U4 ?ne1 ?ne2 ?ne3 ?ne4 ?ne5 ?hdp ?hun ?_; (case hdm => with_reducible assumption); walk_at "cB"; walk_at "cC"; walk_at "cA"; walk_at "cU"; (case hdp => (try simp only [depth_under_make, depth_under_kw, depth_in1, depth_deeper, depth_caller, Nat.add_assoc, Nat.reduceAdd]); omega); (case hun => (try simp only [units_in1, units_deeper, Around.mark_units, units_caller, Nat.add_assoc, Nat.reduceAdd]); omega); k_whole); intro d' tq' tr' c' oc' c2' oc2' h' tk' F' N' d3' d4' hw' hw2' s1' s2' n1' n2' n3' n4' n5' n6' n7' n8' n9' s3'; walk_at "cD")); k_steps)
    rename News h₀ L _ news => Nt
    rename News h₀ L _ (_ :: _) => NN
    rename News gp _ _ _ => NP
    refine' ret _ _ _ _ _ _ _ ?F (news_cons NN ?m1 (news_cons NN ?m2 (news_cons NN ?m3 (news_cons NN ?m4 Nt)))) ?T ?T2 ?hw ?hw2 ?s ?s2 ?n1 ?n2 ?n3 ?n4 ?n5 ?bt; (case bt => rfl); (case F => k_asm); (case m1 => k_dflt k_mem); (case m2 => k_dflt k_mem); (case m3 => k_dflt k_mem); (case m4 => k_dflt k_mem); (case T => assumption); (case T2 => assumption); (case hw => assumption); (case hw2 => assumption); (case s => exact InBase.sep (x := (_, _)) Ip NP (by k_dflt k_mem)); (case s2 => exact InBase.sep (x := (_, _)) Ip NP (by k_dflt k_mem)); (case n1 => exact ⟨by k_ne⟩); (case n2 => exact ⟨by k_ne⟩); (case n3 => exact ⟨by k_ne⟩); (case n4 => exact ⟨by k_ne⟩); (case n5 => exact ⟨by k_ne⟩)

end
section
open PySem PySem.W PyProof.Rows PySem.Spec PySem.Calls
theorem pat_get {s : Shared} {pa : Addr} {code : Array Nat} {M : Model} {A : Around} {E : Value → Shared → Prop} {pl : Sem Bool} {Q : Value × List Value → Shared → Prop} (P : PatAt s.heap pa code) (h : Q (.builtin "re.Pattern.sub", [.ref pa]) s) : wpAny M A (getMethod (.ref pa) (Str.ofString "sub") pl) Q E s := by
  obtain ⟨po, vs, ca, co, items, n, e, c, d, _⟩ := P.obj
  exact getMethod_builtin ⟨_, e, c⟩ plainAttrs_pat slot_pat_sub type_pat_sub (fun a q => by cases q; exact ⟨_, e, d⟩) h
theorem sub2_walk {prog : Program} {w : World} {A : Around} {E : Value → Shared → Prop} {s : Shared} {h₀ : Heap} {L : Addr} {m : Str → Option Value} {news : List (Addr × Obj)} {x : Str} {tx ty : Tok} {Q : Value → Shared → Prop} (hx : x.cps.size ≤ 1000) (P : PatAt h₀ 132 C2) (F : Fr h₀ L s.heap m) (N : News h₀ L s.heap news)
    (h : ∀ z tz h' tk', z.cps.toList = sub2 x.cps.toList → z.cps.size ≤ 2000 → Fr h₀ L h' m → News h₀ L h' news → Q (.str z tz) { s with heap := h', toks := tk' }) :
    wpAny (model prog w) A (call (.builtin "re.Pattern.sub") [.ref 132, .str ⟨#[13, 10]⟩ ty, .str x tx]) Q E s :=
  wp_sub2 hx (P.keeps F.keep) fun z tz h' tk' hz kp => h z tz h' tk' hz (by
    have := sub2_len _ x.cps.toList (Nat.le_refl _)
    rw [← hz, Array.length_toList, Array.length_toList] at this; omega) (F.keptAll kp) (N.keepsAll kp)
theorem sub1_walk {prog : Program} {w : World} {A : Around} {E : Value → Shared → Prop} {s : Shared} {h₀ : Heap} {L : Addr} {m : Str → Option Value} {news : List (Addr × Obj)} {x : Str} {tx ty : Tok} {Q : Value → Shared → Prop} (hx : x.cps.size ≤ 2000) (P : PatAt h₀ 127 C1) (F : Fr h₀ L s.heap m) (N : News h₀ L s.heap news)
    (h : ∀ z tz h' tk', z.cps.toList = sub1 true x.cps.toList → Fr h₀ L h' m → News h₀ L h' news → Q (.str z tz) { s with heap := h', toks := tk' }) :
    wpAny (model prog w) A (call (.builtin "re.Pattern.sub") [.ref 127, .str ⟨#[46, 46]⟩ ty, .str x tx]) Q E s :=
  wp_sub1 hx (P.keeps F.keep) fun z tz h' tk' hz kp => h z tz h' tk' hz (F.keptAll kp) (N.keepsAll kp)
local macro_rules | `(tactic| walk_at "getMethod ref") => `(tactic| (k_here; (with_reducible show wpAny _ _ (getMethod (Value.ref _) (Str.ofString "sub") _) _ _ _); refine CiStop.out ?_))
local macro_rules | `(tactic| walk_at "call builtin:re.Pattern.sub") => `(tactic| (k_here; (first | (with_reducible show wpAny _ _ (call _ [Value.ref 132, _, _]) _ _ _) | (with_reducible show wpAny _ _ (call _ [Value.ref 127, _, _]) _ _ _)); refine CiStop.out ?_))
theorem quote_c {w : World} {loose : List Str} {mean : ExcName → Option Value} {mg mb : Str → Option Value}
  {dp un : Nat} {gd : Option (List Code)} {cn : Str} {cs : Scope} {a : Addr} {ccd : Value} {cl : List (Str × Addr)} {outer : List Env} {A₀ : Around} {base h₀ : Heap} {L : Addr} {m : Str → Option Value} {s : Shared} {Q E : Value → Shared → Prop}
  {news : List (Addr × Obj)} {x : Str} {tx : Tok} (hx : x.cps.size ≤ 1000)
  (B : Below A₀ base outer h₀) (F : Fr h₀ L s.heap m) (X : (hd.heap_39 w.params).In h₀) (T : Top topProg loose mean mg mb h₀) (hk : cs.kind = .function) (N : News h₀ L s.heap news)
  (hdp : dp + 2 < recursionLimit) (hun : un + 20 < cLine)
  (ret : ∀ z tz h' tk', z.cps.toList = sub1 true (sub2 x.cps.toList) → Fr h₀ L h' m → News h₀ L h' news → Q (.str z tz) { s with heap := h', toks := tk' }) :
  wpAny (model PySem.Challenge.rw_sc0080_01.row.prog w) (ktrTop dp un gd cn cs L a ccd cl outer) (call (.ref 139) [.str x tx]) Q E s := by
  revert X
  k_fill
  intro X
  refine wpAny_call ?_
  k_dflt (refine' code_defL ?k1 ?k2 ?k3 ?k4 ?k5 ?kA ?kF ?kK ?k6 ?k7 ?k8 ?k9 ?kB ?_ ?c2 ?c3 ?c4 ?c5)
  case kA => exact rfl
  case kF => exact rfl
  case kK => assumption
  case k1 => k_asm
  case k2 => k_asm
  case k3 => k_asm
  case k4 => exact N
  case k5 => k_asm
  case k6 => k_is
  case k7 => k_is
  case k8 => ktr_room
  case k9 => exact BindsTo.of_eq rfl
  case c5 => decide
  case kB => exact locs rfl
  case c2 => exact rfl
  case c3 => exact rfl
  case c4 => exact rfl
  intro g1 L1 h1 FG1 F1 N1 B1 X1 T1 lw1
  refine rebaseK (ex := []) F1 N1 B1 X1 T1 (news_in N (by intro p hp; repeat' first | exact hp | refine List.Mem.tail _ ?_)) (fun p hp => lw1 p (by repeat' first | exact hp | refine List.Mem.tail _ ?_)) (List.forall_mem_nil _) ?_
  intro gp Fp Np Bp Xp Tp Ip
  clear F1 N1 B1 X1 T1 FG1
  (try dsimp only)
  (try k_lift Bp)
  (try k_fold)
  have P1 : PatAt gp 127 C1 := ⟨_, _, _, _, _, _, Xp 127 _ (by k_is), rfl, rfl, rfl, rfl, rfl, rfl, Xp 126 _ (by k_is), rfl, rfl, by decide +kernel⟩
  have P2 : PatAt gp 132 C2 := ⟨_, _, _, _, _, _, Xp 132 _ (by k_is), rfl, rfl, rfl, rfl, rfl, rfl, Xp 131 _ (by k_is), rfl, rfl, by decide +kernel⟩
  k_steps
  repeat' (refine CiStop.go ?_; (first | (k_here; (with_reducible show wpAny _ _ (call _ [Value.ref 127, _, _]) _ _ _); k_dflt (refine' sub1_walk ?hx ?P ?F ?N ?_; (case hx => assumption); (case P => assumption); walk_at "cF"; k_whole); intro z1 tz' h' tk' hz' F' N') | (k_here; (with_reducible show wpAny _ _ (call _ [Value.ref 132, _, _]) _ _ _); k_dflt (refine' sub2_walk ?hx ?P ?F ?N ?_; (case hx => assumption); (case P => assumption); walk_at "cF"; k_whole); intro z2 tz' h' tk' hz' hs' F' N') | (k_here; (with_reducible show wpAny _ _ (getMethod (Value.ref _) (Str.ofString "sub") _) _ _ _); k_dflt (refine' pat_get (PatAt.keeps ?P (Fr.keep ?F)) ?_; (case P => assumption); (case F => k_asm); k_whole))); k_steps)
  rename News h₀ L _ news => Nt
  refine' ret _ _ _ _ ?e ?F ?N
  case e => exact Eq.trans (by assumption) (congrArg (sub1 true) (by assumption))
  case F => k_asm
  case N => exact Nt

end
section
local macro_rules | `(tactic| walk_at "no such key") => `(tactic| skip)
open PySem PySem.W PyProof.Rows PySem.Spec PySem.Calls
local macro_rules | `(tactic| walk_at "call builtin:list.pop") => `(tactic| (k_here; (with_reducible show wpAny _ _ (call (Value.builtin _) [Value.ref _, Value.int _ _]) _ _ _); refine CiStop.out ?_))
local macro_rules | `(tactic| walk_at "truthy ref") => `(tactic| (k_here; refine CiStop.out ?_))

theorem rcC_ch {w : World} {loose : List Str} {mean : ExcName → Option Value} {mg mb : Str → Option Value}
  {dp un : Nat} {gd : Option (List Code)} {cn : Str} {cs : Scope} {a : Addr} {ccd : Value} {cl : List (Str × Addr)} {outer : List Env} {A₀ : Around} {base h₀ : Heap} {L : Addr} {m : Str → Option Value} {s : Shared} {Q E : Value → Shared → Prop}
  {news : List (Addr × Obj)} {xi xd fx fd fl D cell pb fpb cdo : Addr} {oc co : Obj} {vs : Array Value} {kt : Tok} {k1 k2 k3 k4 k5 q1 q2 q3 q4 q5 q6 q7 kl : Tok} {qual : Str} {mn : Value} {ctv : Value} {ln : Int} {n : Nat} {c : Nat} {r : List (Nat × Tok)} {tc : Tok}
  (hc : c ≠ 10) (hr : r.length ≤ 3000)  (B : Below A₀ base outer h₀) (F : Fr h₀ L s.heap m) (X : (hd.heap_39 w.params).In h₀) (T : Top topProg loose mean mg mb h₀) (hk : cs.kind = .function)
  (N : News h₀ L s.heap ((xi, instObj 118 xd) :: (xd, dictOf [{ hash := PyData.keyHash w.params (Str.ofString "lineno"), key := Value.str (Str.ofString "lineno") k1, val := Value.int ln kl }, { hash := PyData.keyHash w.params (Str.ofString "instream"), key := Value.str (Str.ofString "instream") k2, val := Value.ref fx }, { hash := PyData.keyHash w.params (Str.ofString "whitespace"), key := Value.str (Str.ofString "whitespace") k3, val := Value.str (Str.ofString "\n\t\x0d ") k4 }, { hash := PyData.keyHash w.params (Str.ofString "pushback"), key := Value.str (Str.ofString "pushback") k5, val := Value.ref pb }] 4) :: (fx, instObj 118 fd) :: (fd, dictOf [{ hash := PyData.keyHash w.params (Str.ofString "lineno"), key := Value.str (Str.ofString "lineno") q1, val := Value.int 1 q6 }, { hash := PyData.keyHash w.params (Str.ofString "instream"), key := Value.str (Str.ofString "instream") q2, val := Value.none }, { hash := PyData.keyHash w.params (Str.ofString "whitespace"), key := Value.str (Str.ofString "whitespace") q3, val := Value.str (Str.ofString "\n\t\x0d ") q4 }, { hash := PyData.keyHash w.params (Str.ofString "pushback"), key := Value.str (Str.ofString "pushback") q5, val := Value.ref fpb }, { hash := PyData.keyHash w.params (Str.ofString "read"), key := Value.str (Str.ofString "read") q7, val := Value.ref fl }] 5) ::
    (fl, kla_obj (Str.ofString "<lambda>") qual
    { posonlyargs := [], args := [{ arg := Str.ofString "size", annotation := none, pos := { line := 182, col := 23, endLine := 182, endCol := 27 } }], vararg := none, kwonlyargs := [], kw_defaults := [], kwarg := none, defaults := [] }
    ((Expr.Name (Str.ofString "signs") { line := 182, col := 45, endLine := 182, endCol := 50 }).IfExp (((Expr.Name (Str.ofString "signs") { line := 182, col := 29, endLine := 182, endCol := 34 }).Attribute (Str.ofString "pop") { line := 182, col := 29, endLine := 182, endCol := 38 }).Call [Expr.Constant (Const.int 0) 0 { line := 182, col := 39, endLine := 182, endCol := 40 }] [] { line := 182, col := 29, endLine := 182, endCol := 41 }) (Expr.Constant (Const.str (Str.ofString "")) 0 { line := 182, col := 56, endLine := 182, endCol := 58 }) { line := 182, col := 29, endLine := 182, endCol := 58 })
    { kind := ScopeKind.function, names := [(Str.ofString "size", NameKind.local), (Str.ofString "signs", NameKind.free)], isGenerator := false, isCoroutine := false }
    [(Str.ofString "signs", cell)] mn cdo ctv) ::
    (cdo, co) :: (D, listOf (chars ((c, tc) :: r)) n) :: (cell, oc) :: news)) (cz : CodeHd base 159 155) (hoc : oc.data = .cell (some (.ref D))) (hco : co.data = .fields vs) (hvs : vs[1]? = some (.str qual kt))
  (sx : ∀ y ∈ [xi, xd, fx, fd, fl, cdo, D, cell], Sep y news) (e_xi_xd : NeN xi xd) (e_xi_fx : NeN xi fx) (e_xi_fd : NeN xi fd) (e_xi_fl : NeN xi fl) (e_xi_cdo : NeN xi cdo) (e_xi_D : NeN xi D) (e_xi_cell : NeN xi cell) (e_xd_fx : NeN xd fx) (e_xd_fd : NeN xd fd) (e_xd_fl : NeN xd fl) (e_xd_cdo : NeN xd cdo) (e_xd_D : NeN xd D) (e_xd_cell : NeN xd cell) (e_fx_fd : NeN fx fd) (e_fx_fl : NeN fx fl) (e_fx_cdo : NeN fx cdo) (e_fx_D : NeN fx D) (e_fx_cell : NeN fx cell) (e_fd_fl : NeN fd fl) (e_fd_cdo : NeN fd cdo) (e_fd_D : NeN fd D) (e_fd_cell : NeN fd cell) (e_fl_cdo : NeN fl cdo) (e_fl_D : NeN fl D) (e_fl_cell : NeN fl cell) (e_cdo_D : NeN cdo D) (e_cdo_cell : NeN cdo cell) (e_D_cell : NeN D cell)
  (hdp : dp + 4 < recursionLimit) (hun : un + 30 < cLine)
  (ret : ∀ kl' n' tr h' tk', Fr h₀ L h' m → News h₀ L h' ((xi, instObj 118 xd) :: (xd, dictOf [{ hash := PyData.keyHash w.params (Str.ofString "lineno"), key := Value.str (Str.ofString "lineno") k1, val := Value.int ln kl' }, { hash := PyData.keyHash w.params (Str.ofString "instream"), key := Value.str (Str.ofString "instream") k2, val := Value.ref fx }, { hash := PyData.keyHash w.params (Str.ofString "whitespace"), key := Value.str (Str.ofString "whitespace") k3, val := Value.str (Str.ofString "\n\t\x0d ") k4 }, { hash := PyData.keyHash w.params (Str.ofString "pushback"), key := Value.str (Str.ofString "pushback") k5, val := Value.ref pb }] 4) :: (fx, instObj 118 fd) :: (fd, dictOf [{ hash := PyData.keyHash w.params (Str.ofString "lineno"), key := Value.str (Str.ofString "lineno") q1, val := Value.int 1 q6 }, { hash := PyData.keyHash w.params (Str.ofString "instream"), key := Value.str (Str.ofString "instream") q2, val := Value.none }, { hash := PyData.keyHash w.params (Str.ofString "whitespace"), key := Value.str (Str.ofString "whitespace") q3, val := Value.str (Str.ofString "\n\t\x0d ") q4 }, { hash := PyData.keyHash w.params (Str.ofString "pushback"), key := Value.str (Str.ofString "pushback") q5, val := Value.ref fpb }, { hash := PyData.keyHash w.params (Str.ofString "read"), key := Value.str (Str.ofString "read") q7, val := Value.ref fl }] 5) ::
    (fl, kla_obj (Str.ofString "<lambda>") qual
    { posonlyargs := [], args := [{ arg := Str.ofString "size", annotation := none, pos := { line := 182, col := 23, endLine := 182, endCol := 27 } }], vararg := none, kwonlyargs := [], kw_defaults := [], kwarg := none, defaults := [] }
    ((Expr.Name (Str.ofString "signs") { line := 182, col := 45, endLine := 182, endCol := 50 }).IfExp (((Expr.Name (Str.ofString "signs") { line := 182, col := 29, endLine := 182, endCol := 34 }).Attribute (Str.ofString "pop") { line := 182, col := 29, endLine := 182, endCol := 38 }).Call [Expr.Constant (Const.int 0) 0 { line := 182, col := 39, endLine := 182, endCol := 40 }] [] { line := 182, col := 29, endLine := 182, endCol := 41 }) (Expr.Constant (Const.str (Str.ofString "")) 0 { line := 182, col := 56, endLine := 182, endCol := 58 }) { line := 182, col := 29, endLine := 182, endCol := 58 })
    { kind := ScopeKind.function, names := [(Str.ofString "size", NameKind.local), (Str.ofString "signs", NameKind.free)], isGenerator := false, isCoroutine := false }
    [(Str.ofString "signs", cell)] mn cdo ctv) ::
    (cdo, co) :: (D, listOf (chars r) n') :: (cell, oc) :: news) → Q (.str ⟨#[c]⟩ tr) { s with heap := h', toks := tk' }) :
  codeAny (model PySem.Challenge.rw_sc0080_01.row.prog w) (ktrTop dp un gd cn cs L a ccd cl outer) (.call (.ref 101) ⟨[.ref xi], []⟩) (fun r s' => match r with | .ok (.ret v) => Q v s' | .ok _ => False | .error e => E e s') s := by
  revert X
  k_fill
  intro X
  have x0 := sx xi (by simp)
  have x1 := sx xd (by simp)
  have x2 := sx fx (by simp)
  have x3 := sx fd (by simp)
  have x4 := sx fl (by simp)
  have x5 := sx cdo (by simp)
  have x6 := sx D (by simp)
  have x7 := sx cell (by simp)
  k_dflt (refine' code_defL ?k1 ?k2 ?k3 ?k4 ?k5 ?kA ?kF ?kK ?k6 ?k7 ?k8 ?k9 ?kB ?_ ?c2 ?c3 ?c4 ?c5)
  case kA => exact rfl
  case kF => exact rfl
  case kK => assumption
  case k1 => k_asm
  case k2 => k_asm
  case k3 => k_asm
  case k4 => exact N
  case k5 => k_asm
  case k6 => k_is
  case k7 => k_is
  case k8 => ktr_room
  case k9 => exact BindsTo.of_eq rfl
  case c5 => decide
  case kB => exact locs rfl
  case c2 => exact rfl
  case c3 => exact rfl
  case c4 => exact rfl
  intro g1 L1 h1 FG1 F1 N1 B1 X1 T1 lw1
  refine rebaseK (ex := [_, _, _, _, _, _, _, _]) F1 N1 B1 X1 T1 (news_in N (by intro p hp; repeat' first | exact hp | refine List.Mem.tail _ ?_)) (fun p hp => lw1 p (by repeat' first | exact hp | refine List.Mem.tail _ ?_)) (List.forall_mem_cons.mpr ⟨x0, List.forall_mem_cons.mpr ⟨x1, List.forall_mem_cons.mpr ⟨x2, List.forall_mem_cons.mpr ⟨x3, List.forall_mem_cons.mpr ⟨x4, List.forall_mem_cons.mpr ⟨x5, List.forall_mem_cons.mpr ⟨x6, List.forall_mem_cons.mpr ⟨x7, List.forall_mem_nil _⟩⟩⟩⟩⟩⟩⟩⟩) ?_
  intro gp Fp Np Bp Xp Tp Ip
  clear F1 N1 B1 X1 T1 FG1
  (try dsimp only)
  (try k_lift Bp)
  (try k_fold)
  k_steps
  repeat' (refine CiStop.go ?_; (first | (k_here; k_dflt (refine' truthy_chars (E := _) ?N ?m ?hr ?_; (case N => k_asm); (case m => k_mem); (case hr => first | exact Nat.zero_le _ | (simp only [List.length_cons]; omega) | omega); k_whole)) | (k_here; (with_reducible show wpAny _ _ (call (Value.builtin _) [Value.ref _, Value.int _ _]) _ _ _); k_dflt (refine' pop_chars ?F ?N ?hr ?U ?_; walk_at "cF"; (case hr => assumption); (case U => k_upd); k_whole); intro h' F' N'; (try dsimp only [List.nil_append, List.cons_append] at N'))); k_steps)
  all_goals first
    | (exfalso; (with_reducible rename List.isEmpty _ = true => z9); cases z9; done)
    | (exfalso; (with_reducible rename List.isEmpty _ = false => z9); cases z9; done)
    | (exfalso; (with_reducible rename (_ == _) = true => z9); exact hc (nl_eq z9))
    | (exfalso; (with_reducible rename (_ == _) = true => z9); exact absurd z9 (by decide +kernel))
    | (exfalso; (with_reducible rename (_ == _) = false => z9); exact absurd z9 (by decide +kernel))
    | skip
  rename News h₀ L _ news => Nt
  rename News h₀ L _ (_ :: _) => NN
  refine' ret _ _ _ _ _ ?F (news_cons NN ?m0 (news_cons NN ?m1 (news_cons NN ?m2 (news_cons NN ?m3 (news_cons NN ?m4 (news_cons NN ?m5 (news_cons NN ?m6 (news_cons NN ?m7 Nt))))))))
  case F => k_asm
  case m0 => k_dflt k_mem
  case m1 => k_dflt k_mem
  case m2 => k_dflt k_mem
  case m3 => k_dflt k_mem
  case m4 => k_dflt k_mem
  case m5 => k_dflt k_mem
  case m6 => k_dflt k_mem
  case m7 => k_dflt k_mem

theorem rcC_nl {w : World} {loose : List Str} {mean : ExcName → Option Value} {mg mb : Str → Option Value}
  {dp un : Nat} {gd : Option (List Code)} {cn : Str} {cs : Scope} {a : Addr} {ccd : Value} {cl : List (Str × Addr)} {outer : List Env} {A₀ : Around} {base h₀ : Heap} {L : Addr} {m : Str → Option Value} {s : Shared} {Q E : Value → Shared → Prop}
  {news : List (Addr × Obj)} {xi xd fx fd fl D cell pb fpb cdo : Addr} {oc co : Obj} {vs : Array Value} {kt : Tok} {k1 k2 k3 k4 k5 q1 q2 q3 q4 q5 q6 q7 kl : Tok} {qual : Str} {mn : Value} {ctv : Value} {ln : Int} {n : Nat} {r : List (Nat × Tok)} {tc : Tok}
 (hr : r.length ≤ 3000)  (B : Below A₀ base outer h₀) (F : Fr h₀ L s.heap m) (X : (hd.heap_39 w.params).In h₀) (T : Top topProg loose mean mg mb h₀) (hk : cs.kind = .function)
  (N : News h₀ L s.heap ((xi, instObj 118 xd) :: (xd, dictOf [{ hash := PyData.keyHash w.params (Str.ofString "lineno"), key := Value.str (Str.ofString "lineno") k1, val := Value.int ln kl }, { hash := PyData.keyHash w.params (Str.ofString "instream"), key := Value.str (Str.ofString "instream") k2, val := Value.ref fx }, { hash := PyData.keyHash w.params (Str.ofString "whitespace"), key := Value.str (Str.ofString "whitespace") k3, val := Value.str (Str.ofString "\n\t\x0d ") k4 }, { hash := PyData.keyHash w.params (Str.ofString "pushback"), key := Value.str (Str.ofString "pushback") k5, val := Value.ref pb }] 4) :: (fx, instObj 118 fd) :: (fd, dictOf [{ hash := PyData.keyHash w.params (Str.ofString "lineno"), key := Value.str (Str.ofString "lineno") q1, val := Value.int 1 q6 }, { hash := PyData.keyHash w.params (Str.ofString "instream"), key := Value.str (Str.ofString "instream") q2, val := Value.none }, { hash := PyData.keyHash w.params (Str.ofString "whitespace"), key := Value.str (Str.ofString "whitespace") q3, val := Value.str (Str.ofString "\n\t\x0d ") q4 }, { hash := PyData.keyHash w.params (Str.ofString "pushback"), key := Value.str (Str.ofString "pushback") q5, val := Value.ref fpb }, { hash := PyData.keyHash w.params (Str.ofString "read"), key := Value.str (Str.ofString "read") q7, val := Value.ref fl }] 5) ::
    (fl, kla_obj (Str.ofString "<lambda>") qual
    { posonlyargs := [], args := [{ arg := Str.ofString "size", annotation := none, pos := { line := 182, col := 23, endLine := 182, endCol := 27 } }], vararg := none, kwonlyargs := [], kw_defaults := [], kwarg := none, defaults := [] }
    ((Expr.Name (Str.ofString "signs") { line := 182, col := 45, endLine := 182, endCol := 50 }).IfExp (((Expr.Name (Str.ofString "signs") { line := 182, col := 29, endLine := 182, endCol := 34 }).Attribute (Str.ofString "pop") { line := 182, col := 29, endLine := 182, endCol := 38 }).Call [Expr.Constant (Const.int 0) 0 { line := 182, col := 39, endLine := 182, endCol := 40 }] [] { line := 182, col := 29, endLine := 182, endCol := 41 }) (Expr.Constant (Const.str (Str.ofString "")) 0 { line := 182, col := 56, endLine := 182, endCol := 58 }) { line := 182, col := 29, endLine := 182, endCol := 58 })
    { kind := ScopeKind.function, names := [(Str.ofString "size", NameKind.local), (Str.ofString "signs", NameKind.free)], isGenerator := false, isCoroutine := false }
    [(Str.ofString "signs", cell)] mn cdo ctv) ::
    (cdo, co) :: (D, listOf (chars ((10, tc) :: r)) n) :: (cell, oc) :: news)) (cz : CodeHd base 159 155) (hoc : oc.data = .cell (some (.ref D))) (hco : co.data = .fields vs) (hvs : vs[1]? = some (.str qual kt))
  (sx : ∀ y ∈ [xi, xd, fx, fd, fl, cdo, D, cell], Sep y news) (e_xi_xd : NeN xi xd) (e_xi_fx : NeN xi fx) (e_xi_fd : NeN xi fd) (e_xi_fl : NeN xi fl) (e_xi_cdo : NeN xi cdo) (e_xi_D : NeN xi D) (e_xi_cell : NeN xi cell) (e_xd_fx : NeN xd fx) (e_xd_fd : NeN xd fd) (e_xd_fl : NeN xd fl) (e_xd_cdo : NeN xd cdo) (e_xd_D : NeN xd D) (e_xd_cell : NeN xd cell) (e_fx_fd : NeN fx fd) (e_fx_fl : NeN fx fl) (e_fx_cdo : NeN fx cdo) (e_fx_D : NeN fx D) (e_fx_cell : NeN fx cell) (e_fd_fl : NeN fd fl) (e_fd_cdo : NeN fd cdo) (e_fd_D : NeN fd D) (e_fd_cell : NeN fd cell) (e_fl_cdo : NeN fl cdo) (e_fl_D : NeN fl D) (e_fl_cell : NeN fl cell) (e_cdo_D : NeN cdo D) (e_cdo_cell : NeN cdo cell) (e_D_cell : NeN D cell)
  (hdp : dp + 4 < recursionLimit) (hun : un + 30 < cLine)
  (ret : ∀ kl' n' tr h' tk', Fr h₀ L h' m → News h₀ L h' ((xi, instObj 118 xd) :: (xd, dictOf [{ hash := PyData.keyHash w.params (Str.ofString "lineno"), key := Value.str (Str.ofString "lineno") k1, val := Value.int (ln + 1) kl' }, { hash := PyData.keyHash w.params (Str.ofString "instream"), key := Value.str (Str.ofString "instream") k2, val := Value.ref fx }, { hash := PyData.keyHash w.params (Str.ofString "whitespace"), key := Value.str (Str.ofString "whitespace") k3, val := Value.str (Str.ofString "\n\t\x0d ") k4 }, { hash := PyData.keyHash w.params (Str.ofString "pushback"), key := Value.str (Str.ofString "pushback") k5, val := Value.ref pb }] 4) :: (fx, instObj 118 fd) :: (fd, dictOf [{ hash := PyData.keyHash w.params (Str.ofString "lineno"), key := Value.str (Str.ofString "lineno") q1, val := Value.int 1 q6 }, { hash := PyData.keyHash w.params (Str.ofString "instream"), key := Value.str (Str.ofString "instream") q2, val := Value.none }, { hash := PyData.keyHash w.params (Str.ofString "whitespace"), key := Value.str (Str.ofString "whitespace") q3, val := Value.str (Str.ofString "\n\t\x0d ") q4 }, { hash := PyData.keyHash w.params (Str.ofString "pushback"), key := Value.str (Str.ofString "pushback") q5, val := Value.ref fpb }, { hash := PyData.keyHash w.params (Str.ofString "read"), key := Value.str (Str.ofString "read") q7, val := Value.ref fl }] 5) ::
    (fl, kla_obj (Str.ofString "<lambda>") qual
    { posonlyargs := [], args := [{ arg := Str.ofString "size", annotation := none, pos := { line := 182, col := 23, endLine := 182, endCol := 27 } }], vararg := none, kwonlyargs := [], kw_defaults := [], kwarg := none, defaults := [] }
    ((Expr.Name (Str.ofString "signs") { line := 182, col := 45, endLine := 182, endCol := 50 }).IfExp (((Expr.Name (Str.ofString "signs") { line := 182, col := 29, endLine := 182, endCol := 34 }).Attribute (Str.ofString "pop") { line := 182, col := 29, endLine := 182, endCol := 38 }).Call [Expr.Constant (Const.int 0) 0 { line := 182, col := 39, endLine := 182, endCol := 40 }] [] { line := 182, col := 29, endLine := 182, endCol := 41 }) (Expr.Constant (Const.str (Str.ofString "")) 0 { line := 182, col := 56, endLine := 182, endCol := 58 }) { line := 182, col := 29, endLine := 182, endCol := 58 })
    { kind := ScopeKind.function, names := [(Str.ofString "size", NameKind.local), (Str.ofString "signs", NameKind.free)], isGenerator := false, isCoroutine := false }
    [(Str.ofString "signs", cell)] mn cdo ctv) ::
    (cdo, co) :: (D, listOf (chars r) n') :: (cell, oc) :: news) → Q (.str ⟨#[10]⟩ tr) { s with heap := h', toks := tk' }) :
  codeAny (model PySem.Challenge.rw_sc0080_01.row.prog w) (ktrTop dp un gd cn cs L a ccd cl outer) (.call (.ref 101) ⟨[.ref xi], []⟩) (fun r s' => match r with | .ok (.ret v) => Q v s' | .ok _ => False | .error e => E e s') s := by
  revert X
  k_fill
  intro X
  have x0 := sx xi (by simp)
  have x1 := sx xd (by simp)
  have x2 := sx fx (by simp)
  have x3 := sx fd (by simp)
  have x4 := sx fl (by simp)
  have x5 := sx cdo (by simp)
  have x6 := sx D (by simp)
  have x7 := sx cell (by simp)
  k_dflt (refine' code_defL ?k1 ?k2 ?k3 ?k4 ?k5 ?kA ?kF ?kK ?k6 ?k7 ?k8 ?k9 ?kB ?_ ?c2 ?c3 ?c4 ?c5)
  case kA => exact rfl
  case kF => exact rfl
  case kK => assumption
  case k1 => k_asm
  case k2 => k_asm
  case k3 => k_asm
  case k4 => exact N
  case k5 => k_asm
  case k6 => k_is
  case k7 => k_is
  case k8 => ktr_room
  case k9 => exact BindsTo.of_eq rfl
  case c5 => decide
  case kB => exact locs rfl
  case c2 => exact rfl
  case c3 => exact rfl
  case c4 => exact rfl
  intro g1 L1 h1 FG1 F1 N1 B1 X1 T1 lw1
  refine rebaseK (ex := [_, _, _, _, _, _, _, _]) F1 N1 B1 X1 T1 (news_in N (by intro p hp; repeat' first | exact hp | refine List.Mem.tail _ ?_)) (fun p hp => lw1 p (by repeat' first | exact hp | refine List.Mem.tail _ ?_)) (List.forall_mem_cons.mpr ⟨x0, List.forall_mem_cons.mpr ⟨x1, List.forall_mem_cons.mpr ⟨x2, List.forall_mem_cons.mpr ⟨x3, List.forall_mem_cons.mpr ⟨x4, List.forall_mem_cons.mpr ⟨x5, List.forall_mem_cons.mpr ⟨x6, List.forall_mem_cons.mpr ⟨x7, List.forall_mem_nil _⟩⟩⟩⟩⟩⟩⟩⟩) ?_
  intro gp Fp Np Bp Xp Tp Ip
  clear F1 N1 B1 X1 T1 FG1
  (try dsimp only)
  (try k_lift Bp)
  (try k_fold)
  k_steps
  repeat' (refine CiStop.go ?_; (first | (k_here; k_dflt (refine' truthy_chars (E := _) ?N ?m ?hr ?_; (case N => k_asm); (case m => k_mem); (case hr => first | exact Nat.zero_le _ | (simp only [List.length_cons]; omega) | omega); k_whole)) | (k_here; (with_reducible show wpAny _ _ (call (Value.builtin _) [Value.ref _, Value.int _ _]) _ _ _); k_dflt (refine' pop_chars ?F ?N ?hr ?U ?_; walk_at "cF"; (case hr => assumption); (case U => k_upd); k_whole); intro h' F' N'; (try dsimp only [List.nil_append, List.cons_append] at N'))); k_steps)
  all_goals first
    | (exfalso; (with_reducible rename List.isEmpty _ = true => z9); cases z9; done)
    | (exfalso; (with_reducible rename List.isEmpty _ = false => z9); cases z9; done)
    | (exfalso; (with_reducible rename (_ == _) = true => z9); exact hc (nl_eq z9))
    | (exfalso; (with_reducible rename (_ == _) = true => z9); exact absurd z9 (by decide +kernel))
    | (exfalso; (with_reducible rename (_ == _) = false => z9); exact absurd z9 (by decide +kernel))
    | skip
  rename News h₀ L _ news => Nt
  rename News h₀ L _ (_ :: _) => NN
  refine' ret _ _ _ _ _ ?F (news_cons NN ?m0 (news_cons NN ?m1 (news_cons NN ?m2 (news_cons NN ?m3 (news_cons NN ?m4 (news_cons NN ?m5 (news_cons NN ?m6 (news_cons NN ?m7 Nt))))))))
  case F => k_asm
  case m0 => k_dflt k_mem
  case m1 => k_dflt k_mem
  case m2 => k_dflt k_mem
  case m3 => k_dflt k_mem
  case m4 => k_dflt k_mem
  case m5 => k_dflt k_mem
  case m6 => k_dflt k_mem
  case m7 => k_dflt k_mem

theorem rcC_end {w : World} {loose : List Str} {mean : ExcName → Option Value} {mg mb : Str → Option Value}
  {dp un : Nat} {gd : Option (List Code)} {cn : Str} {cs : Scope} {a : Addr} {ccd : Value} {cl : List (Str × Addr)} {outer : List Env} {A₀ : Around} {base h₀ : Heap} {L : Addr} {m : Str → Option Value} {s : Shared} {Q E : Value → Shared → Prop}
  {news : List (Addr × Obj)} {xi xd fx fd fl D cell pb fpb cdo : Addr} {oc co : Obj} {vs : Array Value} {kt : Tok} {k1 k2 k3 k4 k5 q1 q2 q3 q4 q5 q6 q7 kl : Tok} {qual : Str} {mn : Value} {ctv : Value} {ln : Int} {n : Nat}
  (B : Below A₀ base outer h₀) (F : Fr h₀ L s.heap m) (X : (hd.heap_39 w.params).In h₀) (T : Top topProg loose mean mg mb h₀) (hk : cs.kind = .function)
  (N : News h₀ L s.heap ((xi, instObj 118 xd) :: (xd, dictOf [{ hash := PyData.keyHash w.params (Str.ofString "lineno"), key := Value.str (Str.ofString "lineno") k1, val := Value.int ln kl }, { hash := PyData.keyHash w.params (Str.ofString "instream"), key := Value.str (Str.ofString "instream") k2, val := Value.ref fx }, { hash := PyData.keyHash w.params (Str.ofString "whitespace"), key := Value.str (Str.ofString "whitespace") k3, val := Value.str (Str.ofString "\n\t\x0d ") k4 }, { hash := PyData.keyHash w.params (Str.ofString "pushback"), key := Value.str (Str.ofString "pushback") k5, val := Value.ref pb }] 4) :: (fx, instObj 118 fd) :: (fd, dictOf [{ hash := PyData.keyHash w.params (Str.ofString "lineno"), key := Value.str (Str.ofString "lineno") q1, val := Value.int 1 q6 }, { hash := PyData.keyHash w.params (Str.ofString "instream"), key := Value.str (Str.ofString "instream") q2, val := Value.none }, { hash := PyData.keyHash w.params (Str.ofString "whitespace"), key := Value.str (Str.ofString "whitespace") q3, val := Value.str (Str.ofString "\n\t\x0d ") q4 }, { hash := PyData.keyHash w.params (Str.ofString "pushback"), key := Value.str (Str.ofString "pushback") q5, val := Value.ref fpb }, { hash := PyData.keyHash w.params (Str.ofString "read"), key := Value.str (Str.ofString "read") q7, val := Value.ref fl }] 5) ::
    (fl, kla_obj (Str.ofString "<lambda>") qual
    { posonlyargs := [], args := [{ arg := Str.ofString "size", annotation := none, pos := { line := 182, col := 23, endLine := 182, endCol := 27 } }], vararg := none, kwonlyargs := [], kw_defaults := [], kwarg := none, defaults := [] }
    ((Expr.Name (Str.ofString "signs") { line := 182, col := 45, endLine := 182, endCol := 50 }).IfExp (((Expr.Name (Str.ofString "signs") { line := 182, col := 29, endLine := 182, endCol := 34 }).Attribute (Str.ofString "pop") { line := 182, col := 29, endLine := 182, endCol := 38 }).Call [Expr.Constant (Const.int 0) 0 { line := 182, col := 39, endLine := 182, endCol := 40 }] [] { line := 182, col := 29, endLine := 182, endCol := 41 }) (Expr.Constant (Const.str (Str.ofString "")) 0 { line := 182, col := 56, endLine := 182, endCol := 58 }) { line := 182, col := 29, endLine := 182, endCol := 58 })
    { kind := ScopeKind.function, names := [(Str.ofString "size", NameKind.local), (Str.ofString "signs", NameKind.free)], isGenerator := false, isCoroutine := false }
    [(Str.ofString "signs", cell)] mn cdo ctv) ::
    (cdo, co) :: (D, listOf (chars ([])) n) :: (cell, oc) :: news)) (cz : CodeHd base 159 155) (hoc : oc.data = .cell (some (.ref D))) (hco : co.data = .fields vs) (hvs : vs[1]? = some (.str qual kt))
  (sx : ∀ y ∈ [xi, xd, fx, fd, fl, cdo, D, cell], Sep y news) (e_xi_xd : NeN xi xd) (e_xi_fx : NeN xi fx) (e_xi_fd : NeN xi fd) (e_xi_fl : NeN xi fl) (e_xi_cdo : NeN xi cdo) (e_xi_D : NeN xi D) (e_xi_cell : NeN xi cell) (e_xd_fx : NeN xd fx) (e_xd_fd : NeN xd fd) (e_xd_fl : NeN xd fl) (e_xd_cdo : NeN xd cdo) (e_xd_D : NeN xd D) (e_xd_cell : NeN xd cell) (e_fx_fd : NeN fx fd) (e_fx_fl : NeN fx fl) (e_fx_cdo : NeN fx cdo) (e_fx_D : NeN fx D) (e_fx_cell : NeN fx cell) (e_fd_fl : NeN fd fl) (e_fd_cdo : NeN fd cdo) (e_fd_D : NeN fd D) (e_fd_cell : NeN fd cell) (e_fl_cdo : NeN fl cdo) (e_fl_D : NeN fl D) (e_fl_cell : NeN fl cell) (e_cdo_D : NeN cdo D) (e_cdo_cell : NeN cdo cell) (e_D_cell : NeN D cell)
  (hdp : dp + 4 < recursionLimit) (hun : un + 30 < cLine)
  (ret : ∀ kl' n' tr h' tk', Fr h₀ L h' m → News h₀ L h' ((xi, instObj 118 xd) :: (xd, dictOf [{ hash := PyData.keyHash w.params (Str.ofString "lineno"), key := Value.str (Str.ofString "lineno") k1, val := Value.int ln kl' }, { hash := PyData.keyHash w.params (Str.ofString "instream"), key := Value.str (Str.ofString "instream") k2, val := Value.ref fx }, { hash := PyData.keyHash w.params (Str.ofString "whitespace"), key := Value.str (Str.ofString "whitespace") k3, val := Value.str (Str.ofString "\n\t\x0d ") k4 }, { hash := PyData.keyHash w.params (Str.ofString "pushback"), key := Value.str (Str.ofString "pushback") k5, val := Value.ref pb }] 4) :: (fx, instObj 118 fd) :: (fd, dictOf [{ hash := PyData.keyHash w.params (Str.ofString "lineno"), key := Value.str (Str.ofString "lineno") q1, val := Value.int 1 q6 }, { hash := PyData.keyHash w.params (Str.ofString "instream"), key := Value.str (Str.ofString "instream") q2, val := Value.none }, { hash := PyData.keyHash w.params (Str.ofString "whitespace"), key := Value.str (Str.ofString "whitespace") q3, val := Value.str (Str.ofString "\n\t\x0d ") q4 }, { hash := PyData.keyHash w.params (Str.ofString "pushback"), key := Value.str (Str.ofString "pushback") q5, val := Value.ref fpb }, { hash := PyData.keyHash w.params (Str.ofString "read"), key := Value.str (Str.ofString "read") q7, val := Value.ref fl }] 5) ::
    (fl, kla_obj (Str.ofString "<lambda>") qual
    { posonlyargs := [], args := [{ arg := Str.ofString "size", annotation := none, pos := { line := 182, col := 23, endLine := 182, endCol := 27 } }], vararg := none, kwonlyargs := [], kw_defaults := [], kwarg := none, defaults := [] }
    ((Expr.Name (Str.ofString "signs") { line := 182, col := 45, endLine := 182, endCol := 50 }).IfExp (((Expr.Name (Str.ofString "signs") { line := 182, col := 29, endLine := 182, endCol := 34 }).Attribute (Str.ofString "pop") { line := 182, col := 29, endLine := 182, endCol := 38 }).Call [Expr.Constant (Const.int 0) 0 { line := 182, col := 39, endLine := 182, endCol := 40 }] [] { line := 182, col := 29, endLine := 182, endCol := 41 }) (Expr.Constant (Const.str (Str.ofString "")) 0 { line := 182, col := 56, endLine := 182, endCol := 58 }) { line := 182, col := 29, endLine := 182, endCol := 58 })
    { kind := ScopeKind.function, names := [(Str.ofString "size", NameKind.local), (Str.ofString "signs", NameKind.free)], isGenerator := false, isCoroutine := false }
    [(Str.ofString "signs", cell)] mn cdo ctv) ::
    (cdo, co) :: (D, listOf (chars []) n') :: (cell, oc) :: news) → Q (.str ⟨#[]⟩ tr) { s with heap := h', toks := tk' }) :
  codeAny (model PySem.Challenge.rw_sc0080_01.row.prog w) (ktrTop dp un gd cn cs L a ccd cl outer) (.call (.ref 101) ⟨[.ref xi], []⟩) (fun r s' => match r with | .ok (.ret v) => Q v s' | .ok _ => False | .error e => E e s') s := by
  revert X
  k_fill
  intro X
  have x0 := sx xi (by simp)
  have x1 := sx xd (by simp)
  have x2 := sx fx (by simp)
  have x3 := sx fd (by simp)
  have x4 := sx fl (by simp)
  have x5 := sx cdo (by simp)
  have x6 := sx D (by simp)
  have x7 := sx cell (by simp)
  k_dflt (refine' code_defL ?k1 ?k2 ?k3 ?k4 ?k5 ?kA ?kF ?kK ?k6 ?k7 ?k8 ?k9 ?kB ?_ ?c2 ?c3 ?c4 ?c5)
  case kA => exact rfl
  case kF => exact rfl
  case kK => assumption
  case k1 => k_asm
  case k2 => k_asm
  case k3 => k_asm
  case k4 => exact N
  case k5 => k_asm
  case k6 => k_is
  case k7 => k_is
  case k8 => ktr_room
  case k9 => exact BindsTo.of_eq rfl
  case c5 => decide
  case kB => exact locs rfl
  case c2 => exact rfl
  case c3 => exact rfl
  case c4 => exact rfl
  intro g1 L1 h1 FG1 F1 N1 B1 X1 T1 lw1
  refine rebaseK (ex := [_, _, _, _, _, _, _, _]) F1 N1 B1 X1 T1 (news_in N (by intro p hp; repeat' first | exact hp | refine List.Mem.tail _ ?_)) (fun p hp => lw1 p (by repeat' first | exact hp | refine List.Mem.tail _ ?_)) (List.forall_mem_cons.mpr ⟨x0, List.forall_mem_cons.mpr ⟨x1, List.forall_mem_cons.mpr ⟨x2, List.forall_mem_cons.mpr ⟨x3, List.forall_mem_cons.mpr ⟨x4, List.forall_mem_cons.mpr ⟨x5, List.forall_mem_cons.mpr ⟨x6, List.forall_mem_cons.mpr ⟨x7, List.forall_mem_nil _⟩⟩⟩⟩⟩⟩⟩⟩) ?_
  intro gp Fp Np Bp Xp Tp Ip
  clear F1 N1 B1 X1 T1 FG1
  (try dsimp only)
  (try k_lift Bp)
  (try k_fold)
  k_steps
  repeat' (refine CiStop.go ?_; (first | (k_here; k_dflt (refine' truthy_chars (E := _) ?N ?m ?hr ?_; (case N => k_asm); (case m => k_mem); (case hr => first | exact Nat.zero_le _ | (simp only [List.length_cons]; omega) | omega); k_whole)) | (k_here; (with_reducible show wpAny _ _ (call (Value.builtin _) [Value.ref _, Value.int _ _]) _ _ _); k_dflt (refine' pop_chars ?F ?N ?hr ?U ?_; walk_at "cF"; (case hr => assumption); (case U => k_upd); k_whole); intro h' F' N'; (try dsimp only [List.nil_append, List.cons_append] at N'))); k_steps)
  all_goals first
    | (exfalso; (with_reducible rename List.isEmpty _ = true => z9); cases z9; done)
    | (exfalso; (with_reducible rename List.isEmpty _ = false => z9); cases z9; done)
    | (exfalso; (with_reducible rename (_ == _) = true => z9); exact hc (nl_eq z9))
    | (exfalso; (with_reducible rename (_ == _) = true => z9); exact absurd z9 (by decide +kernel))
    | (exfalso; (with_reducible rename (_ == _) = false => z9); exact absurd z9 (by decide +kernel))
    | skip
  rename News h₀ L _ news => Nt
  rename News h₀ L _ (_ :: _) => NN
  refine' ret _ _ _ _ _ ?F (news_cons NN ?m0 (news_cons NN ?m1 (news_cons NN ?m2 (news_cons NN ?m3 (news_cons NN ?m4 (news_cons NN ?m5 (news_cons NN ?m6 (news_cons NN ?m7 Nt))))))))
  case F => k_asm
  case m0 => k_dflt k_mem
  case m1 => k_dflt k_mem
  case m2 => k_dflt k_mem
  case m3 => k_dflt k_mem
  case m4 => k_dflt k_mem
  case m5 => k_dflt k_mem
  case m6 => k_dflt k_mem
  case m7 => k_dflt k_mem


end
section
open PySem PySem.W PyProof.Rows PySem.Spec PySem.Calls
local macro_rules | `(tactic| walk_at "exec For Name Name cons nil") => `(tactic| (k_here; refine CiStop.out ?_))
theorem fr_congr {h₀ h : Heap} {L : Addr} {m m' : Str → Option Value} (F : Fr h₀ L h m) (e : ∀ y, m y = m' y) : Fr h₀ L h m' := by
  have : m = m' := funext e
  rw [← this]; exact F
theorem ci_makeN {prog : Program} {w : World} {A : Around} {E : Value → Shared → Prop} {s : Shared} {q f x : Addr} {t : Tok} {h₀ : Heap} {L : Addr} {m : Str → Option Value} {news : List (Addr × Obj)} {Q : Value → Shared → Prop} (F : Fr h₀ L s.heap m) (N : News h₀ L s.heap news) (hq : (q, methodObj (.ref f) (.ref x)) ∈ news)
    (h : ∀ (I qz : Addr) h', qz = q → Fr h₀ L h' m → News h₀ L h' ((I, ciObj q t) :: news) → (∀ p ∈ news, p.1 < I) → Q (.ref I) { s with heap := h' }) :
    wpAny (model prog w) A (call (.builtin "iter") [.ref q, .str (Str.ofString "") t]) Q E s := ci_make F N hq fun I h' F' N' l => h I q h' rfl F' N' l
theorem codeAny_ret {M : Model} {A : Around} {c : Code} {R : Result → Shared → Prop} {s : Shared} (h : codeAny M A c (fun r s' => match r with | .ok (.ret v) => R (.ok (.ret v)) s' | .ok _ => False | .error e => (fun (_ : Value) (_ : Shared) => False) e s') s) : codeAny M A c R s :=
  codeAny_mono h fun r s' hr => match r, hr with
    | .ok (.ret _), hr => hr
    | .ok .next, hr => hr.elim
    | .ok .brk, hr => hr.elim
    | .ok .cont, hr => hr.elim
    | .error _, hr => hr.elim
theorem e46 : Str.ofString "." = ⟨#[46]⟩ := by decide +kernel
theorem e92 : Str.ofString "\\" = ⟨#[92]⟩ := by decide +kernel
theorem step_size {tok : Str} {c : Nat} : (tok ++ (⟨#[c]⟩ : Str)).cps.size = tok.cps.size + 1 := by
  show (tok.cps ++ #[c]).size = _
  simp
theorem step_tok {tok : Str} {c : Nat} {w W : List Nat} (h : tok.cps.toList ++ (c :: w) = W) : (tok ++ (⟨#[c]⟩ : Str)).cps.toList ++ w = W := by
  show (tok.cps ++ #[c]).toList ++ w = _
  rw [← h]; simp
theorem lookup_self {y : Str} {v : Value} (h : ¬ y = Str.ofString "self") : List.lookup y [(Str.ofString "self", v)] = none := by
  have : (y == Str.ofString "self") = false := by simpa using h
  simp [List.lookup, this]
local macro_rules | `(tactic| walk_at "mcan") => `(tactic| (intro y; by_cases h1 : y = Str.ofString "ch"; (subst h1; rfl); by_cases h2 : y = Str.ofString "token"; (subst h2; rfl); by_cases h3 : y = Str.ofString "fiter"; (subst h3; rfl); by_cases h4 : y = Str.ofString "self"; (subst h4; rfl); (rw [if_neg h1, if_neg h2, if_neg h3, if_neg h4]; (try dsimp only); (repeat rw [if_neg (by assumption)]); (try (first | rfl | exact lookup_self h4)))))
local macro_rules | `(tactic| walk_at "call builtin:iter") => `(tactic| (k_here; (with_reducible show wpAny _ _ (call (Value.builtin "iter") [Value.ref _, Value.str _ _]) _ _ _); refine CiStop.out ?_))
local macro_rules | `(tactic| walk_at "call ref") => `(tactic| (k_here; (k_dflt (show wpAny _ _ (call (Value.ref 101) [Value.ref xi]) _ _ _)); refine CiStop.out ?_))
local macro_rules | `(tactic| walk_at "inplaceOp Add str str") => `(tactic| (k_here; refine CiStop.out ?_))
set_option autoImplicit false in
inductive G_g_J1 (s : Shared) (wd : List Nat) (rst : List (Nat × Tok)) (ln : Int) (d : Int) (gp : Heap) (L1 : Addr) (Iz : Addr) (xi : Addr) (xd : Addr) (w : World) (k1 : Tok) (k2 : Tok) (fx : Addr) (k3 : Tok) (k4 : Tok) (k5 : Tok) (pb : Addr) (fd : Addr) (q1 : Tok) (q6 : Tok) (q2 : Tok) (q3 : Tok) (q4 : Tok) (q5 : Tok) (fpb : Addr) (q7 : Tok) (fl : Addr) (qual : Str) (cell : Addr) (mn : Value) (cdo : Addr) (ctv : Value) (co : Obj) (D : Addr) (oc : Obj) (np : Nat) (qz : Addr) (k : Nat) (s' : Shared) : Prop
  | mk (cts' : List (Nat × Tok)) (ln' : Int) (kl' : Tok) (nD : Nat) (tt tI : Tok) (mch : Option Value) (d' : Int) (hp : Heap) (tk : Nat) (j0 : s' = { s with heap := hp, toks := tk }) (j1 : k = cts'.length) (j2 : cts'.length ≤ 3000) (j3 : Outer cts' wd rst d') (j4 : ln' + d' = ln + d) (j5 : Fr gp L1 hp (fun y => if y = Str.ofString "ch" then mch else if y = Str.ofString "token" then some (Value.str (Str.ofString "") tt) else if y = Str.ofString "fiter" then some (Value.ref Iz) else if y = Str.ofString "self" then some (Value.ref xi) else none)) (j6 : News gp L1 hp ((xi, instObj 118 xd) :: (xd, dictOf [{ hash := PyData.keyHash w.params (Str.ofString "lineno"), key := Value.str (Str.ofString "lineno") k1, val := Value.int ln' kl' }, { hash := PyData.keyHash w.params (Str.ofString "instream"), key := Value.str (Str.ofString "instream") k2, val := Value.ref fx }, { hash := PyData.keyHash w.params (Str.ofString "whitespace"), key := Value.str (Str.ofString "whitespace") k3, val := Value.str (Str.ofString "\n\t\x0d ") k4 }, { hash := PyData.keyHash w.params (Str.ofString "pushback"), key := Value.str (Str.ofString "pushback") k5, val := Value.ref pb }] 4) :: (fx, instObj 118 fd) :: (fd, dictOf [{ hash := PyData.keyHash w.params (Str.ofString "lineno"), key := Value.str (Str.ofString "lineno") q1, val := Value.int 1 q6 }, { hash := PyData.keyHash w.params (Str.ofString "instream"), key := Value.str (Str.ofString "instream") q2, val := Value.none }, { hash := PyData.keyHash w.params (Str.ofString "whitespace"), key := Value.str (Str.ofString "whitespace") q3, val := Value.str (Str.ofString "\n\t\x0d ") q4 }, { hash := PyData.keyHash w.params (Str.ofString "pushback"), key := Value.str (Str.ofString "pushback") q5, val := Value.ref fpb }, { hash := PyData.keyHash w.params (Str.ofString "read"), key := Value.str (Str.ofString "read") q7, val := Value.ref fl }] 5) ::     (fl, kla_obj (Str.ofString "<lambda>") qual     { posonlyargs := [], args := [{ arg := Str.ofString "size", annotation := none, pos := { line := 182, col := 23, endLine := 182, endCol := 27 } }], vararg := none, kwonlyargs := [], kw_defaults := [], kwarg := none, defaults := [] }     ((Expr.Name (Str.ofString "signs") { line := 182, col := 45, endLine := 182, endCol := 50 }).IfExp (((Expr.Name (Str.ofString "signs") { line := 182, col := 29, endLine := 182, endCol := 34 }).Attribute (Str.ofString "pop") { line := 182, col := 29, endLine := 182, endCol := 38 }).Call [Expr.Constant (Const.int 0) 0 { line := 182, col := 39, endLine := 182, endCol := 40 }] [] { line := 182, col := 29, endLine := 182, endCol := 41 }) (Expr.Constant (Const.str (Str.ofString "")) 0 { line := 182, col := 56, endLine := 182, endCol := 58 }) { line := 182, col := 29, endLine := 182, endCol := 58 })     { kind := ScopeKind.function, names := [(Str.ofString "size", NameKind.local), (Str.ofString "signs", NameKind.free)], isGenerator := false, isCoroutine := false }     [(Str.ofString "signs", cell)] mn cdo ctv) ::     (cdo, co) :: (D, listOf (chars cts') nD) :: (cell, oc) :: (pb, listOf #[] np) :: (Iz, ciObj qz tI) :: (qz, methodObj (.ref 101) (.ref xi)) :: [])) : G_g_J1 s wd rst ln d gp L1 Iz xi xd w k1 k2 fx k3 k4 k5 pb fd q1 q6 q2 q3 q4 q5 fpb q7 fl qual cell mn cdo ctv co D oc np qz k s'
set_option autoImplicit false in
inductive G_g_J2 (s : Shared) (rst : List (Nat × Tok)) (ln : Int) (d : Int) (wv : List Nat) (gp : Heap) (L1 : Addr) (Iz : Addr) (xi : Addr) (xd : Addr) (w : World) (k1 : Tok) (k2 : Tok) (fx : Addr) (k3 : Tok) (k4 : Tok) (k5 : Tok) (pb : Addr) (fd : Addr) (q1 : Tok) (q6 : Tok) (q2 : Tok) (q3 : Tok) (q4 : Tok) (q5 : Tok) (fpb : Addr) (q7 : Tok) (fl : Addr) (qual : Str) (cell : Addr) (mn : Value) (cdo : Addr) (ctv : Value) (co : Obj) (D : Addr) (oc : Obj) (np : Nat) (qz : Addr) (k : Nat) (s' : Shared) : Prop
  | mk (cts' : List (Nat × Tok)) (ln' : Int) (kl' : Tok) (nD : Nat) (tok : Str) (tt tI : Tok) (chv : Value) (w' : List Nat) (d' : Int) (hp : Heap) (tk : Nat) (j0 : s' = { s with heap := hp, toks := tk }) (j1 : k = cts'.length) (j2 : cts'.length ≤ 3000) (j3 : tok.cps.size + cts'.length ≤ 3000) (j4 : Inner cts' w' rst d') (j5 : ln' + d' = ln + d) (j6 : tok.cps.toList ++ w' = 46 :: wv) (j7 : Fr gp L1 hp (fun y => if y = Str.ofString "ch" then some chv else if y = Str.ofString "token" then some (Value.str tok tt) else if y = Str.ofString "fiter" then some (Value.ref Iz) else if y = Str.ofString "self" then some (Value.ref xi) else none)) (j8 : News gp L1 hp ((xi, instObj 118 xd) :: (xd, dictOf [{ hash := PyData.keyHash w.params (Str.ofString "lineno"), key := Value.str (Str.ofString "lineno") k1, val := Value.int ln' kl' }, { hash := PyData.keyHash w.params (Str.ofString "instream"), key := Value.str (Str.ofString "instream") k2, val := Value.ref fx }, { hash := PyData.keyHash w.params (Str.ofString "whitespace"), key := Value.str (Str.ofString "whitespace") k3, val := Value.str (Str.ofString "\n\t\x0d ") k4 }, { hash := PyData.keyHash w.params (Str.ofString "pushback"), key := Value.str (Str.ofString "pushback") k5, val := Value.ref pb }] 4) :: (fx, instObj 118 fd) :: (fd, dictOf [{ hash := PyData.keyHash w.params (Str.ofString "lineno"), key := Value.str (Str.ofString "lineno") q1, val := Value.int 1 q6 }, { hash := PyData.keyHash w.params (Str.ofString "instream"), key := Value.str (Str.ofString "instream") q2, val := Value.none }, { hash := PyData.keyHash w.params (Str.ofString "whitespace"), key := Value.str (Str.ofString "whitespace") q3, val := Value.str (Str.ofString "\n\t\x0d ") q4 }, { hash := PyData.keyHash w.params (Str.ofString "pushback"), key := Value.str (Str.ofString "pushback") q5, val := Value.ref fpb }, { hash := PyData.keyHash w.params (Str.ofString "read"), key := Value.str (Str.ofString "read") q7, val := Value.ref fl }] 5) ::             (fl, kla_obj (Str.ofString "<lambda>") qual             { posonlyargs := [], args := [{ arg := Str.ofString "size", annotation := none, pos := { line := 182, col := 23, endLine := 182, endCol := 27 } }], vararg := none, kwonlyargs := [], kw_defaults := [], kwarg := none, defaults := [] }             ((Expr.Name (Str.ofString "signs") { line := 182, col := 45, endLine := 182, endCol := 50 }).IfExp (((Expr.Name (Str.ofString "signs") { line := 182, col := 29, endLine := 182, endCol := 34 }).Attribute (Str.ofString "pop") { line := 182, col := 29, endLine := 182, endCol := 38 }).Call [Expr.Constant (Const.int 0) 0 { line := 182, col := 39, endLine := 182, endCol := 40 }] [] { line := 182, col := 29, endLine := 182, endCol := 41 }) (Expr.Constant (Const.str (Str.ofString "")) 0 { line := 182, col := 56, endLine := 182, endCol := 58 }) { line := 182, col := 29, endLine := 182, endCol := 58 })             { kind := ScopeKind.function, names := [(Str.ofString "size", NameKind.local), (Str.ofString "signs", NameKind.free)], isGenerator := false, isCoroutine := false }             [(Str.ofString "signs", cell)] mn cdo ctv) ::             (cdo, co) :: (D, listOf (chars cts') nD) :: (cell, oc) :: (pb, listOf #[] np) :: (Iz, ciObj qz tI) :: (qz, methodObj (.ref 101) (.ref xi)) :: [])) : G_g_J2 s rst ln d wv gp L1 Iz xi xd w k1 k2 fx k3 k4 k5 pb fd q1 q6 q2 q3 q4 q5 fpb q7 fl qual cell mn cdo ctv co D oc np qz k s'
set_option autoImplicit false in
inductive G_g_J3 (s : Shared) (rst : List (Nat × Tok)) (ln : Int) (d : Int) (wv : List Nat) (gp : Heap) (L1 : Addr) (Iz : Addr) (xi : Addr) (xd : Addr) (w : World) (k1 : Tok) (k2 : Tok) (fx : Addr) (k3 : Tok) (k4 : Tok) (k5 : Tok) (pb : Addr) (fd : Addr) (q1 : Tok) (q6 : Tok) (q2 : Tok) (q3 : Tok) (q4 : Tok) (q5 : Tok) (fpb : Addr) (q7 : Tok) (fl : Addr) (qual : Str) (cell : Addr) (mn : Value) (cdo : Addr) (ctv : Value) (co : Obj) (D : Addr) (oc : Obj) (np : Nat) (qz : Addr) (k : Nat) (s' : Shared) : Prop
  | mk (cts' : List (Nat × Tok)) (ln' : Int) (kl' : Tok) (nD : Nat) (tok : Str) (tt tI : Tok) (chv : Value) (w' : List Nat) (d' : Int) (hp : Heap) (tk : Nat) (j0 : s' = { s with heap := hp, toks := tk }) (j1 : k = cts'.length) (j2 : cts'.length ≤ 3000) (j3 : tok.cps.size + cts'.length ≤ 3000) (j4 : Inner cts' w' rst d') (j5 : ln' + d' = ln + d) (j6 : tok.cps.toList ++ w' = 92 :: wv) (j7 : Fr gp L1 hp (fun y => if y = Str.ofString "ch" then some chv else if y = Str.ofString "token" then some (Value.str tok tt) else if y = Str.ofString "fiter" then some (Value.ref Iz) else if y = Str.ofString "self" then some (Value.ref xi) else none)) (j8 : News gp L1 hp ((xi, instObj 118 xd) :: (xd, dictOf [{ hash := PyData.keyHash w.params (Str.ofString "lineno"), key := Value.str (Str.ofString "lineno") k1, val := Value.int ln' kl' }, { hash := PyData.keyHash w.params (Str.ofString "instream"), key := Value.str (Str.ofString "instream") k2, val := Value.ref fx }, { hash := PyData.keyHash w.params (Str.ofString "whitespace"), key := Value.str (Str.ofString "whitespace") k3, val := Value.str (Str.ofString "\n\t\x0d ") k4 }, { hash := PyData.keyHash w.params (Str.ofString "pushback"), key := Value.str (Str.ofString "pushback") k5, val := Value.ref pb }] 4) :: (fx, instObj 118 fd) :: (fd, dictOf [{ hash := PyData.keyHash w.params (Str.ofString "lineno"), key := Value.str (Str.ofString "lineno") q1, val := Value.int 1 q6 }, { hash := PyData.keyHash w.params (Str.ofString "instream"), key := Value.str (Str.ofString "instream") q2, val := Value.none }, { hash := PyData.keyHash w.params (Str.ofString "whitespace"), key := Value.str (Str.ofString "whitespace") q3, val := Value.str (Str.ofString "\n\t\x0d ") q4 }, { hash := PyData.keyHash w.params (Str.ofString "pushback"), key := Value.str (Str.ofString "pushback") q5, val := Value.ref fpb }, { hash := PyData.keyHash w.params (Str.ofString "read"), key := Value.str (Str.ofString "read") q7, val := Value.ref fl }] 5) ::             (fl, kla_obj (Str.ofString "<lambda>") qual             { posonlyargs := [], args := [{ arg := Str.ofString "size", annotation := none, pos := { line := 182, col := 23, endLine := 182, endCol := 27 } }], vararg := none, kwonlyargs := [], kw_defaults := [], kwarg := none, defaults := [] }             ((Expr.Name (Str.ofString "signs") { line := 182, col := 45, endLine := 182, endCol := 50 }).IfExp (((Expr.Name (Str.ofString "signs") { line := 182, col := 29, endLine := 182, endCol := 34 }).Attribute (Str.ofString "pop") { line := 182, col := 29, endLine := 182, endCol := 38 }).Call [Expr.Constant (Const.int 0) 0 { line := 182, col := 39, endLine := 182, endCol := 40 }] [] { line := 182, col := 29, endLine := 182, endCol := 41 }) (Expr.Constant (Const.str (Str.ofString "")) 0 { line := 182, col := 56, endLine := 182, endCol := 58 }) { line := 182, col := 29, endLine := 182, endCol := 58 })             { kind := ScopeKind.function, names := [(Str.ofString "size", NameKind.local), (Str.ofString "signs", NameKind.free)], isGenerator := false, isCoroutine := false }             [(Str.ofString "signs", cell)] mn cdo ctv) ::             (cdo, co) :: (D, listOf (chars cts') nD) :: (cell, oc) :: (pb, listOf #[] np) :: (Iz, ciObj qz tI) :: (qz, methodObj (.ref 101) (.ref xi)) :: [])) : G_g_J3 s rst ln d wv gp L1 Iz xi xd w k1 k2 fx k3 k4 k5 pb fd q1 q6 q2 q3 q4 q5 fpb q7 fl qual cell mn cdo ctv co D oc np qz k s'
theorem gt_c {w : World} {loose : List Str} {mean : ExcName → Option Value} {mg mb : Str → Option Value}
  {dp un : Nat} {gd : Option (List Code)} {cn : Str} {cs : Scope} {a : Addr} {ccd : Value} {cl : List (Str × Addr)} {outer : List Env} {A₀ : Around} {base h₀ : Heap} {L : Addr} {m : Str → Option Value} {s : Shared} {Q E : Value → Shared → Prop}
  {news : List (Addr × Obj)} {xi xd fx fd fl D cell pb fpb cdo : Addr} {oc co : Obj} {vs : Array Value} {kt : Tok} {k1 k2 k3 k4 k5 q1 q2 q3 q4 q5 q6 q7 kl : Tok} {qual : Str} {mn : Value} {ctv : Value} {ln : Int} {n : Nat} {np : Nat} {cts : List (Nat × Tok)} {wd : List Nat} {rst : List (Nat × Tok)} {d : Int} (hcl : cts.length ≤ 3000) (hO : Outer cts wd rst d)
  (B : Below A₀ base outer h₀) (F : Fr h₀ L s.heap m) (X : (hd.heap_39 w.params).In h₀) (T : Top topProg loose mean mg mb h₀) (hk : cs.kind = .function)
  (N : News h₀ L s.heap ((xi, instObj 118 xd) :: (xd, dictOf [{ hash := PyData.keyHash w.params (Str.ofString "lineno"), key := Value.str (Str.ofString "lineno") k1, val := Value.int ln kl }, { hash := PyData.keyHash w.params (Str.ofString "instream"), key := Value.str (Str.ofString "instream") k2, val := Value.ref fx }, { hash := PyData.keyHash w.params (Str.ofString "whitespace"), key := Value.str (Str.ofString "whitespace") k3, val := Value.str (Str.ofString "\n\t\x0d ") k4 }, { hash := PyData.keyHash w.params (Str.ofString "pushback"), key := Value.str (Str.ofString "pushback") k5, val := Value.ref pb }] 4) :: (fx, instObj 118 fd) :: (fd, dictOf [{ hash := PyData.keyHash w.params (Str.ofString "lineno"), key := Value.str (Str.ofString "lineno") q1, val := Value.int 1 q6 }, { hash := PyData.keyHash w.params (Str.ofString "instream"), key := Value.str (Str.ofString "instream") q2, val := Value.none }, { hash := PyData.keyHash w.params (Str.ofString "whitespace"), key := Value.str (Str.ofString "whitespace") q3, val := Value.str (Str.ofString "\n\t\x0d ") q4 }, { hash := PyData.keyHash w.params (Str.ofString "pushback"), key := Value.str (Str.ofString "pushback") q5, val := Value.ref fpb }, { hash := PyData.keyHash w.params (Str.ofString "read"), key := Value.str (Str.ofString "read") q7, val := Value.ref fl }] 5) ::
    (fl, kla_obj (Str.ofString "<lambda>") qual
    { posonlyargs := [], args := [{ arg := Str.ofString "size", annotation := none, pos := { line := 182, col := 23, endLine := 182, endCol := 27 } }], vararg := none, kwonlyargs := [], kw_defaults := [], kwarg := none, defaults := [] }
    ((Expr.Name (Str.ofString "signs") { line := 182, col := 45, endLine := 182, endCol := 50 }).IfExp (((Expr.Name (Str.ofString "signs") { line := 182, col := 29, endLine := 182, endCol := 34 }).Attribute (Str.ofString "pop") { line := 182, col := 29, endLine := 182, endCol := 38 }).Call [Expr.Constant (Const.int 0) 0 { line := 182, col := 39, endLine := 182, endCol := 40 }] [] { line := 182, col := 29, endLine := 182, endCol := 41 }) (Expr.Constant (Const.str (Str.ofString "")) 0 { line := 182, col := 56, endLine := 182, endCol := 58 }) { line := 182, col := 29, endLine := 182, endCol := 58 })
    { kind := ScopeKind.function, names := [(Str.ofString "size", NameKind.local), (Str.ofString "signs", NameKind.free)], isGenerator := false, isCoroutine := false }
    [(Str.ofString "signs", cell)] mn cdo ctv) ::
    (cdo, co) :: (D, listOf (chars cts) n) :: (cell, oc) :: (pb, listOf #[] np) :: news)) (cz : CodeHd base 159 155) (hoc : oc.data = .cell (some (.ref D))) (hco : co.data = .fields vs) (hvs : vs[1]? = some (.str qual kt))
  (sx : ∀ y ∈ [xi, xd, fx, fd, fl, cdo, D, cell, pb], Sep y news) (e_xi_xd : NeN xi xd) (e_xi_fx : NeN xi fx) (e_xi_fd : NeN xi fd) (e_xi_fl : NeN xi fl) (e_xi_cdo : NeN xi cdo) (e_xi_D : NeN xi D) (e_xi_cell : NeN xi cell) (e_xd_fx : NeN xd fx) (e_xd_fd : NeN xd fd) (e_xd_fl : NeN xd fl) (e_xd_cdo : NeN xd cdo) (e_xd_D : NeN xd D) (e_xd_cell : NeN xd cell) (e_fx_fd : NeN fx fd) (e_fx_fl : NeN fx fl) (e_fx_cdo : NeN fx cdo) (e_fx_D : NeN fx D) (e_fx_cell : NeN fx cell) (e_fd_fl : NeN fd fl) (e_fd_cdo : NeN fd cdo) (e_fd_D : NeN fd D) (e_fd_cell : NeN fd cell) (e_fl_cdo : NeN fl cdo) (e_fl_D : NeN fl D) (e_fl_cell : NeN fl cell) (e_cdo_D : NeN cdo D) (e_cdo_cell : NeN cdo cell) (e_D_cell : NeN D cell) (e_xi_pb : NeN xi pb) (e_xd_pb : NeN xd pb) (e_fx_pb : NeN fx pb) (e_fd_pb : NeN fd pb) (e_fl_pb : NeN fl pb) (e_cdo_pb : NeN cdo pb) (e_D_pb : NeN D pb) (e_cell_pb : NeN cell pb)
  (hdp : dp + 8 < recursionLimit) (hun : un + 60 < cLine)
  (ret : ∀ tok' tt' kl' n' h' tk', tok'.cps.toList = wd → Fr h₀ L h' m → News h₀ L h' ((xi, instObj 118 xd) :: (xd, dictOf [{ hash := PyData.keyHash w.params (Str.ofString "lineno"), key := Value.str (Str.ofString "lineno") k1, val := Value.int (ln + d) kl' }, { hash := PyData.keyHash w.params (Str.ofString "instream"), key := Value.str (Str.ofString "instream") k2, val := Value.ref fx }, { hash := PyData.keyHash w.params (Str.ofString "whitespace"), key := Value.str (Str.ofString "whitespace") k3, val := Value.str (Str.ofString "\n\t\x0d ") k4 }, { hash := PyData.keyHash w.params (Str.ofString "pushback"), key := Value.str (Str.ofString "pushback") k5, val := Value.ref pb }] 4) :: (fx, instObj 118 fd) :: (fd, dictOf [{ hash := PyData.keyHash w.params (Str.ofString "lineno"), key := Value.str (Str.ofString "lineno") q1, val := Value.int 1 q6 }, { hash := PyData.keyHash w.params (Str.ofString "instream"), key := Value.str (Str.ofString "instream") q2, val := Value.none }, { hash := PyData.keyHash w.params (Str.ofString "whitespace"), key := Value.str (Str.ofString "whitespace") q3, val := Value.str (Str.ofString "\n\t\x0d ") q4 }, { hash := PyData.keyHash w.params (Str.ofString "pushback"), key := Value.str (Str.ofString "pushback") q5, val := Value.ref fpb }, { hash := PyData.keyHash w.params (Str.ofString "read"), key := Value.str (Str.ofString "read") q7, val := Value.ref fl }] 5) ::
    (fl, kla_obj (Str.ofString "<lambda>") qual
    { posonlyargs := [], args := [{ arg := Str.ofString "size", annotation := none, pos := { line := 182, col := 23, endLine := 182, endCol := 27 } }], vararg := none, kwonlyargs := [], kw_defaults := [], kwarg := none, defaults := [] }
    ((Expr.Name (Str.ofString "signs") { line := 182, col := 45, endLine := 182, endCol := 50 }).IfExp (((Expr.Name (Str.ofString "signs") { line := 182, col := 29, endLine := 182, endCol := 34 }).Attribute (Str.ofString "pop") { line := 182, col := 29, endLine := 182, endCol := 38 }).Call [Expr.Constant (Const.int 0) 0 { line := 182, col := 39, endLine := 182, endCol := 40 }] [] { line := 182, col := 29, endLine := 182, endCol := 41 }) (Expr.Constant (Const.str (Str.ofString "")) 0 { line := 182, col := 56, endLine := 182, endCol := 58 }) { line := 182, col := 29, endLine := 182, endCol := 58 })
    { kind := ScopeKind.function, names := [(Str.ofString "size", NameKind.local), (Str.ofString "signs", NameKind.free)], isGenerator := false, isCoroutine := false }
    [(Str.ofString "signs", cell)] mn cdo ctv) ::
    (cdo, co) :: (D, listOf (chars rst) n') :: (cell, oc) :: (pb, listOf #[] np) :: news) → Q (.str tok' tt') { s with heap := h', toks := tk' }) :
  wpAny (model PySem.Challenge.rw_sc0080_01.row.prog w) (ktrTop dp un gd cn cs L a ccd cl outer) (call (.ref 108) [.ref xi]) Q E s := by
  revert X
  k_fill
  intro X
  have x0 := sx xi (by simp)
  have x1 := sx xd (by simp)
  have x2 := sx fx (by simp)
  have x3 := sx fd (by simp)
  have x4 := sx fl (by simp)
  have x5 := sx cdo (by simp)
  have x6 := sx D (by simp)
  have x7 := sx cell (by simp)
  have x8 := sx pb (by simp)
  refine wpAny_call ?_
  k_dflt (refine' code_defL ?k1 ?k2 ?k3 ?k4 ?k5 ?kA ?kF ?kK ?k6 ?k7 ?k8 ?k9 ?kB ?_ ?c2 ?c3 ?c4 ?c5)
  case kA => exact rfl
  case kF => exact rfl
  case kK => assumption
  case k1 => k_asm
  case k2 => k_asm
  case k3 => k_asm
  case k4 => exact N
  case k5 => k_asm
  case k6 => k_is
  case k7 => k_is
  case k8 => ktr_room
  case k9 => exact BindsTo.of_eq rfl
  case c5 => decide
  case kB => exact locs rfl
  case c2 => exact rfl
  case c3 => exact rfl
  case c4 => exact rfl
  intro g1 L1 h1 FG1 F1 N1 B1 X1 T1 lw1
  refine rebaseK (ex := [_, _, _, _, _, _, _, _, _]) F1 N1 B1 X1 T1 (news_in N (by intro p hp; repeat' first | exact hp | refine List.Mem.tail _ ?_)) (fun p hp => lw1 p (by repeat' first | exact hp | refine List.Mem.tail _ ?_)) (List.forall_mem_cons.mpr ⟨x0, List.forall_mem_cons.mpr ⟨x1, List.forall_mem_cons.mpr ⟨x2, List.forall_mem_cons.mpr ⟨x3, List.forall_mem_cons.mpr ⟨x4, List.forall_mem_cons.mpr ⟨x5, List.forall_mem_cons.mpr ⟨x6, List.forall_mem_cons.mpr ⟨x7, List.forall_mem_cons.mpr ⟨x8, List.forall_mem_nil _⟩⟩⟩⟩⟩⟩⟩⟩⟩) ?_
  intro gp Fp Np Bp Xp Tp Ip
  clear F1 N1 B1 X1 T1 FG1
  (try dsimp only)
  (try k_lift Bp)
  (try k_fold)
  k_steps
  repeat' (refine CiStop.go ?_; (first | (k_here; (refine iadd_str (hsz := ?hsz) ?_); (case hsz => first | (size_fits; done) | ((show _ + 1 ≤ sizeLine); rw [sizeLine_eq]; (simp only [Str.length] at *); omega)); intro _ _) | (k_here; (k_dflt (show wpAny _ _ (call (Value.ref 101) [Value.ref xi]) _ _ _)); k_dflt (refine' wpAny_call (rcC_ch ?hccm ?hrm ?Bm ?Fm ?Xm ?Tm ?hkm ?Nm ?czm hoc hco hvs (sxx tI) e_xi_xd e_xi_fx e_xi_fd e_xi_fl e_xi_cdo e_xi_D e_xi_cell e_xd_fx e_xd_fd e_xd_fl e_xd_cdo e_xd_D e_xd_cell e_fx_fd e_fx_fl e_fx_cdo e_fx_D e_fx_cell e_fd_fl e_fd_cdo e_fd_D e_fd_cell e_fl_cdo e_fl_D e_fl_cell e_cdo_D e_cdo_cell e_D_cell ?hdpm ?hunm ?_); (case Nm => k_asm); (case hkm => exact rfl); (case hccm => decide); (case hrm => (simp only [List.length_cons] at hcl'; omega)); walk_at "cM"; (case czm => kn_code); walk_at "cX"); intro kl4 n4 tr4 h4 tk4 F4 N4) | (k_here; (with_reducible show wpAny _ _ (call (Value.builtin "iter") [Value.ref _, Value.str _ _]) _ _ _); k_dflt (refine' ci_makeN ?F ?N ?m ?_; walk_at "cF"; (case m => k_mem); k_whole); intro Iz qz hz ez F' N' lz; (subst ez); (try k_lt lz))); k_steps)
  have sxx : ∀ (t : Tok), ∀ y ∈ [xi, xd, fx, fd, fl, cdo, D, cell], Sep y [(pb, listOf #[] np), (Iz, ciObj qz t), (qz, methodObj (.ref 101) (.ref xi))] := by
    intro t
    simp only [Sep, List.forall_mem_cons, List.not_mem_nil, false_implies, implies_true, and_true]
    refine ⟨⟨e_xi_pb.symm, ⟨by k_ne⟩, ⟨by k_ne⟩⟩, ⟨e_xd_pb.symm, ⟨by k_ne⟩, ⟨by k_ne⟩⟩, ⟨e_fx_pb.symm, ⟨by k_ne⟩, ⟨by k_ne⟩⟩, ⟨e_fd_pb.symm, ⟨by k_ne⟩, ⟨by k_ne⟩⟩, ⟨e_fl_pb.symm, ⟨by k_ne⟩, ⟨by k_ne⟩⟩, ⟨e_cdo_pb.symm, ⟨by k_ne⟩, ⟨by k_ne⟩⟩, ⟨e_D_pb.symm, ⟨by k_ne⟩, ⟨by k_ne⟩⟩, ⟨e_cell_pb.symm, ⟨by k_ne⟩, ⟨by k_ne⟩⟩⟩
  refine CiStop.go ?_
  refine' ci_for Iz (G_g_J1 s wd rst ln d gp L1 Iz xi xd w k1 k2 fx k3 k4 k5 pb fd q1 q6 q2 q3 q4 q5 fpb q7 fl qual cell mn cdo ctv co D oc np qz) (n0 := cts.length) ?ev ?turn ?hs ?hE
  case hs => intro _; rfl
  case hE => passes_own
  case ev =>
    walk1
    rename Fr gp L1 _ _ => FF
    rename News gp L1 _ _ => NN
    refine' ⟨rfl, NN.get ?a, cts, ln, kl, n, _, _, none, d, _, _, rfl, rfl, hcl, hO, rfl, fr_congr FF ?e, ?N⟩
    case a => k_dflt k_mem
    case N =>
      refine' news_cons NN ?_ (news_cons NN ?_ (news_cons NN ?_ (news_cons NN ?_ (news_cons NN ?_ (news_cons NN ?_ (news_cons NN ?_ (news_cons NN ?_ (news_cons NN ?_ (news_cons NN ?_ (news_cons NN ?_ News.nil)))))))))) <;> k_dflt k_mem
    case e => walk_at "mcan"
  case turn =>
    rintro k s' ⟨cts', ln', kl', nD, tt, tI, mch, d', hp, tk, rfl, rfl, hcl', hO', hln, FF, NN⟩
    cases hO' with
    | eof =>
      k_dflt (refine' ci_end rfl (q := qz) (f := 101) (x := xi) (t := tI) ?hIf ?hqf ?hff ?hdf ?hcf)
      case hIf => exact NN.get (by k_dflt k_mem)
      case hqf => exact NN.get (by k_dflt k_mem)
      case hff => exact FF.keep _ _ (Xp 101 _ (by k_is))
      case hdf => exact rfl
      refine codeAny_ret ?_
      k_dflt (refine' rcC_end (E := fun _ _ => False)  ?Bf FF Xp Tp rfl NN ?czf hoc hco hvs ?sxf e_xi_xd e_xi_fx e_xi_fd e_xi_fl e_xi_cdo e_xi_D e_xi_cell e_xd_fx e_xd_fd e_xd_fl e_xd_cdo e_xd_D e_xd_cell e_fx_fd e_fx_fl e_fx_cdo e_fx_D e_fx_cell e_fd_fl e_fd_cdo e_fd_D e_fd_cell e_fl_cdo e_fl_D e_fl_cell e_cdo_D e_cdo_cell e_D_cell ?hdpf ?hunf ?retf)
      case Bf => k_asm
      case czf => kn_code
      case sxf => exact sxx tI
      case hdpf => ktr_room
      case hunf => ktr_units
      case retf =>
        intro kl2 n2 tr2 h2 tk2 F2 N2
        refine ⟨_, rfl, N2.get (by k_dflt k_mem), N2.get (by k_dflt k_mem), F2.keep _ _ (Xp 101 _ (by k_is)), fun h3 hx => ?_⟩
        have hIz := (N2 (Iz, ciObj qz tI) (by k_dflt k_mem))
        have F3 := fr_but F2 hx hIz.2.2 hIz.2.1.symm
        have N3 := news_but N2 hx
        have N4 : News gp L1 h3 ((xi, instObj 118 xd) :: (xd, dictOf [{ hash := PyData.keyHash w.params (Str.ofString "lineno"), key := Value.str (Str.ofString "lineno") k1, val := Value.int ln' kl2 }, { hash := PyData.keyHash w.params (Str.ofString "instream"), key := Value.str (Str.ofString "instream") k2, val := Value.ref fx }, { hash := PyData.keyHash w.params (Str.ofString "whitespace"), key := Value.str (Str.ofString "whitespace") k3, val := Value.str (Str.ofString "\n\t\x0d ") k4 }, { hash := PyData.keyHash w.params (Str.ofString "pushback"), key := Value.str (Str.ofString "pushback") k5, val := Value.ref pb }] 4) :: (fx, instObj 118 fd) :: (fd, dictOf [{ hash := PyData.keyHash w.params (Str.ofString "lineno"), key := Value.str (Str.ofString "lineno") q1, val := Value.int 1 q6 }, { hash := PyData.keyHash w.params (Str.ofString "instream"), key := Value.str (Str.ofString "instream") q2, val := Value.none }, { hash := PyData.keyHash w.params (Str.ofString "whitespace"), key := Value.str (Str.ofString "whitespace") q3, val := Value.str (Str.ofString "\n\t\x0d ") q4 }, { hash := PyData.keyHash w.params (Str.ofString "pushback"), key := Value.str (Str.ofString "pushback") q5, val := Value.ref fpb }, { hash := PyData.keyHash w.params (Str.ofString "read"), key := Value.str (Str.ofString "read") q7, val := Value.ref fl }] 5) ::
          (fl, kla_obj (Str.ofString "<lambda>") qual
          { posonlyargs := [], args := [{ arg := Str.ofString "size", annotation := none, pos := { line := 182, col := 23, endLine := 182, endCol := 27 } }], vararg := none, kwonlyargs := [], kw_defaults := [], kwarg := none, defaults := [] }
          ((Expr.Name (Str.ofString "signs") { line := 182, col := 45, endLine := 182, endCol := 50 }).IfExp (((Expr.Name (Str.ofString "signs") { line := 182, col := 29, endLine := 182, endCol := 34 }).Attribute (Str.ofString "pop") { line := 182, col := 29, endLine := 182, endCol := 38 }).Call [Expr.Constant (Const.int 0) 0 { line := 182, col := 39, endLine := 182, endCol := 40 }] [] { line := 182, col := 29, endLine := 182, endCol := 41 }) (Expr.Constant (Const.str (Str.ofString "")) 0 { line := 182, col := 56, endLine := 182, endCol := 58 }) { line := 182, col := 29, endLine := 182, endCol := 58 })
          { kind := ScopeKind.function, names := [(Str.ofString "size", NameKind.local), (Str.ofString "signs", NameKind.free)], isGenerator := false, isCoroutine := false }
          [(Str.ofString "signs", cell)] mn cdo ctv) ::
          (cdo, co) :: (D, listOf (chars []) n2) :: (cell, oc) :: (pb, listOf #[] np) :: []) := N3 _ (fun p hp => List.mem_append_left [(Iz, ciObj qz tI), (qz, methodObj (.ref 101) (.ref xi))] hp) (by refine List.forall_mem_cons.mpr ⟨by (try dsimp only); k_ne, ?_⟩; refine List.forall_mem_cons.mpr ⟨by (try dsimp only); k_ne, ?_⟩; refine List.forall_mem_cons.mpr ⟨by (try dsimp only); k_ne, ?_⟩; refine List.forall_mem_cons.mpr ⟨by (try dsimp only); k_ne, ?_⟩; refine List.forall_mem_cons.mpr ⟨by (try dsimp only); k_ne, ?_⟩; refine List.forall_mem_cons.mpr ⟨by (try dsimp only); k_ne, ?_⟩; refine List.forall_mem_cons.mpr ⟨by (try dsimp only); k_ne, ?_⟩; refine List.forall_mem_cons.mpr ⟨by (try dsimp only); k_ne, ?_⟩; refine List.forall_mem_cons.mpr ⟨by (try dsimp only); k_ne, ?_⟩; exact List.forall_mem_nil _)
        clear FF NN F2 N2
        k_steps
        repeat' (refine CiStop.go ?_; (first | (k_here; (refine iadd_str (hsz := ?hsz) ?_); (case hsz => first | (size_fits; done) | ((show _ + 1 ≤ sizeLine); rw [sizeLine_eq]; (simp only [Str.length] at *); omega)); intro _ _) | (k_here; (k_dflt (show wpAny _ _ (call (Value.ref 101) [Value.ref xi]) _ _ _)); k_dflt (refine' wpAny_call (rcC_ch ?hccm ?hrm ?Bm ?Fm ?Xm ?Tm ?hkm ?Nm ?czm hoc hco hvs (sxx tI) e_xi_xd e_xi_fx e_xi_fd e_xi_fl e_xi_cdo e_xi_D e_xi_cell e_xd_fx e_xd_fd e_xd_fl e_xd_cdo e_xd_D e_xd_cell e_fx_fd e_fx_fl e_fx_cdo e_fx_D e_fx_cell e_fd_fl e_fd_cdo e_fd_D e_fd_cell e_fl_cdo e_fl_D e_fl_cell e_cdo_D e_cdo_cell e_D_cell ?hdpm ?hunm ?_); (case Nm => k_asm); (case hkm => exact rfl); (case hccm => decide); (case hrm => (simp only [List.length_cons] at hcl'; omega)); walk_at "cM"; (case czm => kn_code); walk_at "cX"); intro kl4 n4 tr4 h4 tk4 F4 N4) | (k_here; (with_reducible show wpAny _ _ (call (Value.builtin "iter") [Value.ref _, Value.str _ _]) _ _ _); k_dflt (refine' ci_makeN ?F ?N ?m ?_; walk_at "cF"; (case m => k_mem); k_whole); intro Iz qz hz ez F' N' lz; (subst ez); (try k_lt lz))); k_steps)
        obtain rfl : ln' = ln + d := by omega
        rename News h₀ L _ news => Nt
        rename News h₀ L _ (_ :: _) => NN3
        refine' ret _ _ _ _ _ _ ?rtf ?rff ?rnf
        case rff => k_asm
        case rtf => rfl
        case rnf =>
          refine' (news_cons NN3 ?_ (news_cons NN3 ?_ (news_cons NN3 ?_ (news_cons NN3 ?_ (news_cons NN3 ?_ (news_cons NN3 ?_ (news_cons NN3 ?_ (news_cons NN3 ?_ (news_cons NN3 ?_ Nt))))))))) <;> k_dflt k_mem
    | @skip t r wz z dz h =>
      k_dflt (refine' ci_item (q := qz) (f := 101) (x := xi) (t := tI) ?hIs ?hqs ?hfs ?hds ?hcs)
      case hIs => exact NN.get (by k_dflt k_mem)
      case hqs => exact NN.get (by k_dflt k_mem)
      case hfs => exact FF.keep _ _ (Xp 101 _ (by k_is))
      case hds => exact rfl
      refine codeAny_ret ?_
      k_dflt (refine' rcC_nl (E := fun _ _ => False) ?hrs ?Bs FF Xp Tp rfl NN ?czs hoc hco hvs ?sxs e_xi_xd e_xi_fx e_xi_fd e_xi_fl e_xi_cdo e_xi_D e_xi_cell e_xd_fx e_xd_fd e_xd_fl e_xd_cdo e_xd_D e_xd_cell e_fx_fd e_fx_fl e_fx_cdo e_fx_D e_fx_cell e_fd_fl e_fd_cdo e_fd_D e_fd_cell e_fl_cdo e_fl_D e_fl_cell e_cdo_D e_cdo_cell e_D_cell ?hdps ?huns ?rets)
      case Bs => k_asm
      case czs => kn_code
      case sxs => exact sxx tI
      case hdps => ktr_room
      case huns => ktr_units
      case hrs => first | (simp only [List.length_cons] at hcl' ⊢; omega) | (simp only [List.length_cons] at hcl'; omega)
      case rets =>
        intro kl2 n2 tr2 h2 tk2 F2 N2
        refine ⟨_, _, rfl, by decide, N2.get (by k_dflt k_mem), ?_⟩
        clear FF NN
        k_steps
        repeat' (refine CiStop.go ?_; (first | (k_here; (refine iadd_str (hsz := ?hsz) ?_); (case hsz => first | (size_fits; done) | ((show _ + 1 ≤ sizeLine); rw [sizeLine_eq]; (simp only [Str.length] at *); omega)); intro _ _) | (k_here; (k_dflt (show wpAny _ _ (call (Value.ref 101) [Value.ref xi]) _ _ _)); k_dflt (refine' wpAny_call (rcC_ch ?hccm ?hrm ?Bm ?Fm ?Xm ?Tm ?hkm ?Nm ?czm hoc hco hvs (sxx tI) e_xi_xd e_xi_fx e_xi_fd e_xi_fl e_xi_cdo e_xi_D e_xi_cell e_xd_fx e_xd_fd e_xd_fl e_xd_cdo e_xd_D e_xd_cell e_fx_fd e_fx_fl e_fx_cdo e_fx_D e_fx_cell e_fd_fl e_fd_cdo e_fd_D e_fd_cell e_fl_cdo e_fl_D e_fl_cell e_cdo_D e_cdo_cell e_D_cell ?hdpm ?hunm ?_); (case Nm => k_asm); (case hkm => exact rfl); (case hccm => decide); (case hrm => (simp only [List.length_cons] at hcl'; omega)); walk_at "cM"; (case czm => kn_code); walk_at "cX"); intro kl4 n4 tr4 h4 tk4 F4 N4) | (k_here; (with_reducible show wpAny _ _ (call (Value.builtin "iter") [Value.ref _, Value.str _ _]) _ _ _); k_dflt (refine' ci_makeN ?F ?N ?m ?_; walk_at "cF"; (case m => k_mem); k_whole); intro Iz qz hz ez F' N' lz; (subst ez); (try k_lt lz))); k_steps)
        all_goals first
          | (exfalso; (with_reducible rename List.isEmpty _ = _ => z9); exact absurd z9 (by decide +kernel))
          | skip
        rename Fr gp L1 _ _ => FF
        rename News gp L1 _ _ => NN
        refine CiStop.go ?_
        refine' ⟨r.length, ?l0s, r, _, _, _, _, _, _, _, _, _, rfl, rfl, ?l1s, h, ?lds, fr_congr FF ?e2s, ?N2s⟩
        case N2s =>
          refine' (news_cons NN ?_ (news_cons NN ?_ (news_cons NN ?_ (news_cons NN ?_ (news_cons NN ?_ (news_cons NN ?_ (news_cons NN ?_ (news_cons NN ?_ (news_cons NN ?_ (news_cons NN ?_ (news_cons NN ?_ News.nil))))))))))) <;> k_dflt k_mem
        case e2s => walk_at "mcan"
        case l0s => (simp only [List.length_cons]; omega)
        case l1s => (simp only [List.length_cons] at hcl'; omega)
        case lds => omega
    | @dot t r wv z dz h =>
      k_dflt (refine' ci_item (q := qz) (f := 101) (x := xi) (t := tI) ?hI ?hq ?hf ?hd ?hc)
      case hI => exact NN.get (by k_dflt k_mem)
      case hq => exact NN.get (by k_dflt k_mem)
      case hf => exact FF.keep _ _ (Xp 101 _ (by k_is))
      case hd => exact rfl
      refine codeAny_ret ?_
      k_dflt (refine' rcC_ch (E := fun _ _ => False) ?hcc ?hr ?B FF Xp Tp rfl NN ?cz hoc hco hvs ?sx e_xi_xd e_xi_fx e_xi_fd e_xi_fl e_xi_cdo e_xi_D e_xi_cell e_xd_fx e_xd_fd e_xd_fl e_xd_cdo e_xd_D e_xd_cell e_fx_fd e_fx_fl e_fx_cdo e_fx_D e_fx_cell e_fd_fl e_fd_cdo e_fd_D e_fd_cell e_fl_cdo e_fl_D e_fl_cell e_cdo_D e_cdo_cell e_D_cell ?hdp ?hun ?ret)
      case B => k_asm
      case cz => kn_code
      case sx => exact sxx tI
      case hdp => ktr_room
      case hun => ktr_units
      case hcc => decide
      case hr => first | (simp only [List.length_cons] at hcl' ⊢; omega) | (simp only [List.length_cons] at hcl'; omega)
      case ret =>
        intro kl2 n2 tr2 h2 tk2 F2 N2
        refine ⟨_, _, rfl, by decide, N2.get (by k_dflt k_mem), ?_⟩
        clear FF NN
        k_steps
        repeat' (refine CiStop.go ?_; (first | (k_here; (refine iadd_str (hsz := ?hsz) ?_); (case hsz => first | (size_fits; done) | ((show _ + 1 ≤ sizeLine); rw [sizeLine_eq]; (simp only [Str.length] at *); omega)); intro _ _) | (k_here; (k_dflt (show wpAny _ _ (call (Value.ref 101) [Value.ref xi]) _ _ _)); k_dflt (refine' wpAny_call (rcC_ch ?hccm ?hrm ?Bm ?Fm ?Xm ?Tm ?hkm ?Nm ?czm hoc hco hvs (sxx tI) e_xi_xd e_xi_fx e_xi_fd e_xi_fl e_xi_cdo e_xi_D e_xi_cell e_xd_fx e_xd_fd e_xd_fl e_xd_cdo e_xd_D e_xd_cell e_fx_fd e_fx_fl e_fx_cdo e_fx_D e_fx_cell e_fd_fl e_fd_cdo e_fd_D e_fd_cell e_fl_cdo e_fl_D e_fl_cell e_cdo_D e_cdo_cell e_D_cell ?hdpm ?hunm ?_); (case Nm => k_asm); (case hkm => exact rfl); (case hccm => decide); (case hrm => (simp only [List.length_cons] at hcl'; omega)); walk_at "cM"; (case czm => kn_code); walk_at "cX"); intro kl4 n4 tr4 h4 tk4 F4 N4) | (k_here; (with_reducible show wpAny _ _ (call (Value.builtin "iter") [Value.ref _, Value.str _ _]) _ _ _); k_dflt (refine' ci_makeN ?F ?N ?m ?_; walk_at "cF"; (case m => k_mem); k_whole); intro Iz qz hz ez F' N' lz; (subst ez); (try k_lt lz))); k_steps)
        all_goals first
          | (exfalso; (with_reducible rename List.isEmpty _ = _ => z9); exact absurd z9 (by decide +kernel))
          | skip
        refine CiStop.go ?_
        refine' ci_for Iz (G_g_J2 s rst ln d wv gp L1 Iz xi xd w k1 k2 fx k3 k4 k5 pb fd q1 q6 q2 q3 q4 q5 fpb q7 fl qual cell mn cdo ctv co D oc np qz) (n0 := r.length) ?ev ?turn ?hs ?hE
        case hs => intro _; rfl
        case hE => passes_own
        case ev =>
          walk1
          rename Fr gp L1 _ _ => FF
          rename News gp L1 _ _ => NN
          refine' ⟨rfl, NN.get ?a, r, ln', _, _, ⟨#[46]⟩, _, _, _, wv, d', _, _, rfl, rfl, ?l1, ?l2, h, hln, rfl, fr_congr FF ?e, ?N⟩
          case l1 => simp only [List.length_cons] at hcl'; omega
          case l2 => (show 1 + r.length ≤ 3000); simp only [List.length_cons] at hcl'; omega
          case a => k_dflt k_mem
          case N =>
            refine' news_cons NN ?_ (news_cons NN ?_ (news_cons NN ?_ (news_cons NN ?_ (news_cons NN ?_ (news_cons NN ?_ (news_cons NN ?_ (news_cons NN ?_ (news_cons NN ?_ (news_cons NN ?_ (news_cons NN ?_ (News.nil))))))))))) <;> k_dflt k_mem

          case e => walk_at "mcan"
        case turn =>
          rintro k s' ⟨cts2, ln2, kl3, nD2, tok, tt2, tI, chv, w2, d2, hp2, tk3, rfl, rfl, hcl', hcs, hI2, hln2, htok, FF, NN⟩
          cases hI2 with
          | done => 
            obtain rfl : ln2 = ln + d := by omega
            k_dflt (refine' ci_item (q := qz) (f := 101) (x := xi) (t := tI) ?hI2 ?hq2 ?hf2 ?hd2 ?hc2)
            case hI2 => exact NN.get (by k_dflt k_mem)
            case hq2 => exact NN.get (by k_dflt k_mem)
            case hf2 => exact FF.keep _ _ (Xp 101 _ (by k_is))
            case hd2 => exact rfl
            refine codeAny_ret ?_
            k_dflt (refine' rcC_ch (E := fun _ _ => False) ?hcc2 ?hr2 ?B2 FF Xp Tp rfl NN ?cz2 hoc hco hvs ?sx2 e_xi_xd e_xi_fx e_xi_fd e_xi_fl e_xi_cdo e_xi_D e_xi_cell e_xd_fx e_xd_fd e_xd_fl e_xd_cdo e_xd_D e_xd_cell e_fx_fd e_fx_fl e_fx_cdo e_fx_D e_fx_cell e_fd_fl e_fd_cdo e_fd_D e_fd_cell e_fl_cdo e_fl_D e_fl_cell e_cdo_D e_cdo_cell e_D_cell ?hdp2 ?hun2 ?ret2)
            case B2 => k_asm
            case cz2 => kn_code
            case sx2 => exact sxx tI
            case hdp2 => ktr_room
            case hun2 => ktr_units
            case hcc2 => decide
            case hr2 => first | (simp only [List.length_cons] at hcl' ⊢; omega) | (simp only [List.length_cons] at hcl'; omega)
            case ret2 =>
              intro kl2 n2 tr2 h2 tk2 F2 N2
              refine ⟨_, _, rfl, by decide, N2.get (by k_dflt k_mem), ?_⟩
              clear FF NN
              k_steps
              repeat' (refine CiStop.go ?_; (first | (k_here; (refine iadd_str (hsz := ?hsz) ?_); (case hsz => first | (size_fits; done) | ((show _ + 1 ≤ sizeLine); rw [sizeLine_eq]; (simp only [Str.length] at *); omega)); intro _ _) | (k_here; (k_dflt (show wpAny _ _ (call (Value.ref 101) [Value.ref xi]) _ _ _)); k_dflt (refine' wpAny_call (rcC_ch ?hccm ?hrm ?Bm ?Fm ?Xm ?Tm ?hkm ?Nm ?czm hoc hco hvs (sxx tI) e_xi_xd e_xi_fx e_xi_fd e_xi_fl e_xi_cdo e_xi_D e_xi_cell e_xd_fx e_xd_fd e_xd_fl e_xd_cdo e_xd_D e_xd_cell e_fx_fd e_fx_fl e_fx_cdo e_fx_D e_fx_cell e_fd_fl e_fd_cdo e_fd_D e_fd_cell e_fl_cdo e_fl_D e_fl_cell e_cdo_D e_cdo_cell e_D_cell ?hdpm ?hunm ?_); (case Nm => k_asm); (case hkm => exact rfl); (case hccm => decide); (case hrm => (simp only [List.length_cons] at hcl'; omega)); walk_at "cM"; (case czm => kn_code); walk_at "cX"); intro kl4 n4 tr4 h4 tk4 F4 N4) | (k_here; (with_reducible show wpAny _ _ (call (Value.builtin "iter") [Value.ref _, Value.str _ _]) _ _ _); k_dflt (refine' ci_makeN ?F ?N ?m ?_; walk_at "cF"; (case m => k_mem); k_whole); intro Iz qz hz ez F' N' lz; (subst ez); (try k_lt lz))); k_steps)
              all_goals first
                | (exfalso; (with_reducible rename List.isEmpty _ = _ => z9); exact absurd z9 (by decide +kernel))
                | skip
              rename News h₀ L _ news => Nt
              rename News h₀ L _ (_ :: _) => NN3
              refine' ret _ _ _ _ _ _ ?rt ?rf ?rn
              case rf => k_asm
              case rt => simpa using htok
              case rn =>
                refine' (news_cons NN3 ?_ (news_cons NN3 ?_ (news_cons NN3 ?_ (news_cons NN3 ?_ (news_cons NN3 ?_ (news_cons NN3 ?_ (news_cons NN3 ?_ (news_cons NN3 ?_ (news_cons NN3 ?_ Nt))))))))) <;> k_dflt k_mem
          | @dot t2 r2 w3 z3 d3 hin => 
            k_dflt (refine' ci_item (q := qz) (f := 101) (x := xi) (t := tI) ?hI3 ?hq3 ?hf3 ?hd3 ?hc3)
            case hI3 => exact NN.get (by k_dflt k_mem)
            case hq3 => exact NN.get (by k_dflt k_mem)
            case hf3 => exact FF.keep _ _ (Xp 101 _ (by k_is))
            case hd3 => exact rfl
            refine codeAny_ret ?_
            k_dflt (refine' rcC_ch (E := fun _ _ => False) ?hcc3 ?hr3 ?B3 FF Xp Tp rfl NN ?cz3 hoc hco hvs ?sx3 e_xi_xd e_xi_fx e_xi_fd e_xi_fl e_xi_cdo e_xi_D e_xi_cell e_xd_fx e_xd_fd e_xd_fl e_xd_cdo e_xd_D e_xd_cell e_fx_fd e_fx_fl e_fx_cdo e_fx_D e_fx_cell e_fd_fl e_fd_cdo e_fd_D e_fd_cell e_fl_cdo e_fl_D e_fl_cell e_cdo_D e_cdo_cell e_D_cell ?hdp3 ?hun3 ?ret3)
            case B3 => k_asm
            case cz3 => kn_code
            case sx3 => exact sxx tI
            case hdp3 => ktr_room
            case hun3 => ktr_units
            case hcc3 => decide
            case hr3 => first | (simp only [List.length_cons] at hcl' ⊢; omega) | (simp only [List.length_cons] at hcl'; omega)
            case ret3 =>
              intro kl2 n2 tr2 h2 tk2 F2 N2
              refine ⟨_, _, rfl, by decide, N2.get (by k_dflt k_mem), ?_⟩
              clear FF NN
              k_steps
              repeat' (refine CiStop.go ?_; (first | (k_here; (refine iadd_str (hsz := ?hsz) ?_); (case hsz => first | (size_fits; done) | ((show _ + 1 ≤ sizeLine); rw [sizeLine_eq]; (simp only [Str.length] at *); omega)); intro _ _) | (k_here; (k_dflt (show wpAny _ _ (call (Value.ref 101) [Value.ref xi]) _ _ _)); k_dflt (refine' wpAny_call (rcC_ch ?hccm ?hrm ?Bm ?Fm ?Xm ?Tm ?hkm ?Nm ?czm hoc hco hvs (sxx tI) e_xi_xd e_xi_fx e_xi_fd e_xi_fl e_xi_cdo e_xi_D e_xi_cell e_xd_fx e_xd_fd e_xd_fl e_xd_cdo e_xd_D e_xd_cell e_fx_fd e_fx_fl e_fx_cdo e_fx_D e_fx_cell e_fd_fl e_fd_cdo e_fd_D e_fd_cell e_fl_cdo e_fl_D e_fl_cell e_cdo_D e_cdo_cell e_D_cell ?hdpm ?hunm ?_); (case Nm => k_asm); (case hkm => exact rfl); (case hccm => decide); (case hrm => (simp only [List.length_cons] at hcl'; omega)); walk_at "cM"; (case czm => kn_code); walk_at "cX"); intro kl4 n4 tr4 h4 tk4 F4 N4) | (k_here; (with_reducible show wpAny _ _ (call (Value.builtin "iter") [Value.ref _, Value.str _ _]) _ _ _); k_dflt (refine' ci_makeN ?F ?N ?m ?_; walk_at "cF"; (case m => k_mem); k_whole); intro Iz qz hz ez F' N' lz; (subst ez); (try k_lt lz))); k_steps)
              all_goals first
                | (exfalso; (with_reducible rename List.isEmpty _ = _ => z9); exact absurd z9 (by decide +kernel))
                | skip
              rename Fr gp L1 _ _ => FF
              rename News gp L1 _ _ => NN
              refine CiStop.go ?_
              refine' ⟨r2.length, ?l0, r2, _, _, _, _, _, _, _, w3, _, _, _, rfl, rfl, ?l1, ?l2, hin, hln2, ?tok, fr_congr FF ?e2, ?N2⟩
              case N2 =>
                refine' (news_cons NN ?_ (news_cons NN ?_ (news_cons NN ?_ (news_cons NN ?_ (news_cons NN ?_ (news_cons NN ?_ (news_cons NN ?_ (news_cons NN ?_ (news_cons NN ?_ (news_cons NN ?_ (news_cons NN ?_ News.nil))))))))))) <;> k_dflt k_mem
              case e2 => walk_at "mcan"
              case l0 => (simp only [List.length_cons]; omega)
              case l1 => (simp only [List.length_cons] at hcl'; omega)
              case l2 => (simp only [List.length_cons] at hcs; (try rw [e46]); (try rw [e92]); rw [step_size]; omega)
              case tok => ((try rw [e46]); (try rw [e92]); exact step_tok htok)
          | @esc t2 u2 r2 w3 z3 d3 hin =>
            k_dflt (refine' ci_item (q := qz) (f := 101) (x := xi) (t := tI) ?hI4 ?hq4 ?hf4 ?hd4 ?hc4)
            case hI4 => exact NN.get (by k_dflt k_mem)
            case hq4 => exact NN.get (by k_dflt k_mem)
            case hf4 => exact FF.keep _ _ (Xp 101 _ (by k_is))
            case hd4 => exact rfl
            refine codeAny_ret ?_
            k_dflt (refine' rcC_ch (E := fun _ _ => False) ?hcc4 ?hr4 ?B4 FF Xp Tp rfl NN ?cz4 hoc hco hvs ?sx4 e_xi_xd e_xi_fx e_xi_fd e_xi_fl e_xi_cdo e_xi_D e_xi_cell e_xd_fx e_xd_fd e_xd_fl e_xd_cdo e_xd_D e_xd_cell e_fx_fd e_fx_fl e_fx_cdo e_fx_D e_fx_cell e_fd_fl e_fd_cdo e_fd_D e_fd_cell e_fl_cdo e_fl_D e_fl_cell e_cdo_D e_cdo_cell e_D_cell ?hdp4 ?hun4 ?ret4)
            case B4 => k_asm
            case cz4 => kn_code
            case sx4 => exact sxx tI
            case hdp4 => ktr_room
            case hun4 => ktr_units
            case hcc4 => decide
            case hr4 => first | (simp only [List.length_cons] at hcl' ⊢; omega) | (simp only [List.length_cons] at hcl'; omega)
            case ret4 =>
              intro kl2 n2 tr2 h2 tk2 F2 N2
              refine ⟨_, _, rfl, by decide, N2.get (by k_dflt k_mem), ?_⟩
              clear FF NN
              k_steps
              repeat' (refine CiStop.go ?_; (first | (k_here; (refine iadd_str (hsz := ?hsz) ?_); (case hsz => first | (size_fits; done) | ((show _ + 1 ≤ sizeLine); rw [sizeLine_eq]; (simp only [Str.length] at *); omega)); intro _ _) | (k_here; (k_dflt (show wpAny _ _ (call (Value.ref 101) [Value.ref xi]) _ _ _)); k_dflt (refine' wpAny_call (rcC_ch ?hccm ?hrm ?Bm ?Fm ?Xm ?Tm ?hkm ?Nm ?czm hoc hco hvs (sxx tI) e_xi_xd e_xi_fx e_xi_fd e_xi_fl e_xi_cdo e_xi_D e_xi_cell e_xd_fx e_xd_fd e_xd_fl e_xd_cdo e_xd_D e_xd_cell e_fx_fd e_fx_fl e_fx_cdo e_fx_D e_fx_cell e_fd_fl e_fd_cdo e_fd_D e_fd_cell e_fl_cdo e_fl_D e_fl_cell e_cdo_D e_cdo_cell e_D_cell ?hdpm ?hunm ?_); (case Nm => k_asm); (case hkm => exact rfl); (case hccm => decide); (case hrm => (simp only [List.length_cons] at hcl'; omega)); walk_at "cM"; (case czm => kn_code); walk_at "cX"); intro kl4 n4 tr4 h4 tk4 F4 N4) | (k_here; (with_reducible show wpAny _ _ (call (Value.builtin "iter") [Value.ref _, Value.str _ _]) _ _ _); k_dflt (refine' ci_makeN ?F ?N ?m ?_; walk_at "cF"; (case m => k_mem); k_whole); intro Iz qz hz ez F' N' lz; (subst ez); (try k_lt lz))); k_steps)
              all_goals first
                | (exfalso; (with_reducible rename List.isEmpty _ = _ => z9); exact absurd z9 (by decide +kernel))
                | skip
              rename Fr gp L1 _ _ => FF
              rename News gp L1 _ _ => NN
              refine CiStop.go ?_
              refine' ⟨r2.length, ?l0x4, r2, _, _, _, _, _, _, _, w3, _, _, _, rfl, rfl, ?l1x4, ?l2x4, hin, hln2, ?tokx4, fr_congr FF ?e2x4, ?N2x4⟩
              case N2x4 =>
                refine' (news_cons NN ?_ (news_cons NN ?_ (news_cons NN ?_ (news_cons NN ?_ (news_cons NN ?_ (news_cons NN ?_ (news_cons NN ?_ (news_cons NN ?_ (news_cons NN ?_ (news_cons NN ?_ (news_cons NN ?_ News.nil))))))))))) <;> k_dflt k_mem
              case e2x4 => walk_at "mcan"
              case l0x4 => (simp only [List.length_cons]; omega)
              case l1x4 => (simp only [List.length_cons] at hcl'; omega)
              case l2x4 => (simp only [List.length_cons] at hcs; (try rw [e46]); (try rw [e92]); rw [step_size]; omega)
              case tokx4 => ((try rw [e46]); (try rw [e92]); exact step_tok htok)
    | @esc t u r wv z dz h =>
      k_dflt (refine' ci_item (q := qz) (f := 101) (x := xi) (t := tI) ?hIq ?hqq ?hfq ?hdq ?hcq)
      case hIq => exact NN.get (by k_dflt k_mem)
      case hqq => exact NN.get (by k_dflt k_mem)
      case hfq => exact FF.keep _ _ (Xp 101 _ (by k_is))
      case hdq => exact rfl
      refine codeAny_ret ?_
      k_dflt (refine' rcC_ch (E := fun _ _ => False) ?hccq ?hrq ?Bq FF Xp Tp rfl NN ?czq hoc hco hvs ?sxq e_xi_xd e_xi_fx e_xi_fd e_xi_fl e_xi_cdo e_xi_D e_xi_cell e_xd_fx e_xd_fd e_xd_fl e_xd_cdo e_xd_D e_xd_cell e_fx_fd e_fx_fl e_fx_cdo e_fx_D e_fx_cell e_fd_fl e_fd_cdo e_fd_D e_fd_cell e_fl_cdo e_fl_D e_fl_cell e_cdo_D e_cdo_cell e_D_cell ?hdpq ?hunq ?retq)
      case Bq => k_asm
      case czq => kn_code
      case sxq => exact sxx tI
      case hdpq => ktr_room
      case hunq => ktr_units
      case hccq => decide
      case hrq => first | (simp only [List.length_cons] at hcl' ⊢; omega) | (simp only [List.length_cons] at hcl'; omega)
      case retq =>
        intro kl2 n2 tr2 h2 tk2 F2 N2
        refine ⟨_, _, rfl, by decide, N2.get (by k_dflt k_mem), ?_⟩
        clear FF NN
        k_steps
        repeat' (refine CiStop.go ?_; (first | (k_here; (refine iadd_str (hsz := ?hsz) ?_); (case hsz => first | (size_fits; done) | ((show _ + 1 ≤ sizeLine); rw [sizeLine_eq]; (simp only [Str.length] at *); omega)); intro _ _) | (k_here; (k_dflt (show wpAny _ _ (call (Value.ref 101) [Value.ref xi]) _ _ _)); k_dflt (refine' wpAny_call (rcC_ch ?hccm ?hrm ?Bm ?Fm ?Xm ?Tm ?hkm ?Nm ?czm hoc hco hvs (sxx tI) e_xi_xd e_xi_fx e_xi_fd e_xi_fl e_xi_cdo e_xi_D e_xi_cell e_xd_fx e_xd_fd e_xd_fl e_xd_cdo e_xd_D e_xd_cell e_fx_fd e_fx_fl e_fx_cdo e_fx_D e_fx_cell e_fd_fl e_fd_cdo e_fd_D e_fd_cell e_fl_cdo e_fl_D e_fl_cell e_cdo_D e_cdo_cell e_D_cell ?hdpm ?hunm ?_); (case Nm => k_asm); (case hkm => exact rfl); (case hccm => decide); (case hrm => (simp only [List.length_cons] at hcl'; omega)); walk_at "cM"; (case czm => kn_code); walk_at "cX"); intro kl4 n4 tr4 h4 tk4 F4 N4) | (k_here; (with_reducible show wpAny _ _ (call (Value.builtin "iter") [Value.ref _, Value.str _ _]) _ _ _); k_dflt (refine' ci_makeN ?F ?N ?m ?_; walk_at "cF"; (case m => k_mem); k_whole); intro Iz qz hz ez F' N' lz; (subst ez); (try k_lt lz))); k_steps)
        all_goals first
          | (exfalso; (with_reducible rename List.isEmpty _ = _ => z9); exact absurd z9 (by decide +kernel))
          | skip
        refine CiStop.go ?_
        refine' ci_for Iz (G_g_J3 s rst ln d wv gp L1 Iz xi xd w k1 k2 fx k3 k4 k5 pb fd q1 q6 q2 q3 q4 q5 fpb q7 fl qual cell mn cdo ctv co D oc np qz) (n0 := r.length) ?evq ?turnq ?hsq ?hEq
        case hsq => intro _; rfl
        case hEq => passes_own
        case evq =>
          walk1
          rename Fr gp L1 _ _ => FF
          rename News gp L1 _ _ => NN
          refine' ⟨rfl, NN.get ?aq, r, ln', _, _, ⟨#[92]⟩, _, _, _, wv, d', _, _, rfl, rfl, ?l1q, ?l2q, h, hln, rfl, fr_congr FF ?eq, ?Nq⟩
          case l1q => simp only [List.length_cons] at hcl'; omega
          case l2q => (show 1 + r.length ≤ 3000); simp only [List.length_cons] at hcl'; omega
          case aq => k_dflt k_mem
          case Nq =>
            refine' news_cons NN ?_ (news_cons NN ?_ (news_cons NN ?_ (news_cons NN ?_ (news_cons NN ?_ (news_cons NN ?_ (news_cons NN ?_ (news_cons NN ?_ (news_cons NN ?_ (news_cons NN ?_ (news_cons NN ?_ (News.nil))))))))))) <;> k_dflt k_mem

          case eq => walk_at "mcan"
        case turnq =>
          rintro k s' ⟨cts2, ln2, kl3, nD2, tok, tt2, tI, chv, w2, d2, hp2, tk3, rfl, rfl, hcl', hcs, hI2, hln2, htok, FF, NN⟩
          cases hI2 with
          | done => 
            obtain rfl : ln2 = ln + d := by omega
            k_dflt (refine' ci_item (q := qz) (f := 101) (x := xi) (t := tI) ?hI2q ?hq2q ?hf2q ?hd2q ?hc2q)
            case hI2q => exact NN.get (by k_dflt k_mem)
            case hq2q => exact NN.get (by k_dflt k_mem)
            case hf2q => exact FF.keep _ _ (Xp 101 _ (by k_is))
            case hd2q => exact rfl
            refine codeAny_ret ?_
            k_dflt (refine' rcC_ch (E := fun _ _ => False) ?hcc2q ?hr2q ?B2q FF Xp Tp rfl NN ?cz2q hoc hco hvs ?sx2q e_xi_xd e_xi_fx e_xi_fd e_xi_fl e_xi_cdo e_xi_D e_xi_cell e_xd_fx e_xd_fd e_xd_fl e_xd_cdo e_xd_D e_xd_cell e_fx_fd e_fx_fl e_fx_cdo e_fx_D e_fx_cell e_fd_fl e_fd_cdo e_fd_D e_fd_cell e_fl_cdo e_fl_D e_fl_cell e_cdo_D e_cdo_cell e_D_cell ?hdp2q ?hun2q ?ret2q)
            case B2q => k_asm
            case cz2q => kn_code
            case sx2q => exact sxx tI
            case hdp2q => ktr_room
            case hun2q => ktr_units
            case hcc2q => decide
            case hr2q => first | (simp only [List.length_cons] at hcl' ⊢; omega) | (simp only [List.length_cons] at hcl'; omega)
            case ret2q =>
              intro kl2 n2 tr2 h2 tk2 F2 N2
              refine ⟨_, _, rfl, by decide, N2.get (by k_dflt k_mem), ?_⟩
              clear FF NN
              k_steps
              repeat' (refine CiStop.go ?_; (first | (k_here; (refine iadd_str (hsz := ?hsz) ?_); (case hsz => first | (size_fits; done) | ((show _ + 1 ≤ sizeLine); rw [sizeLine_eq]; (simp only [Str.length] at *); omega)); intro _ _) | (k_here; (k_dflt (show wpAny _ _ (call (Value.ref 101) [Value.ref xi]) _ _ _)); k_dflt (refine' wpAny_call (rcC_ch ?hccm ?hrm ?Bm ?Fm ?Xm ?Tm ?hkm ?Nm ?czm hoc hco hvs (sxx tI) e_xi_xd e_xi_fx e_xi_fd e_xi_fl e_xi_cdo e_xi_D e_xi_cell e_xd_fx e_xd_fd e_xd_fl e_xd_cdo e_xd_D e_xd_cell e_fx_fd e_fx_fl e_fx_cdo e_fx_D e_fx_cell e_fd_fl e_fd_cdo e_fd_D e_fd_cell e_fl_cdo e_fl_D e_fl_cell e_cdo_D e_cdo_cell e_D_cell ?hdpm ?hunm ?_); (case Nm => k_asm); (case hkm => exact rfl); (case hccm => decide); (case hrm => (simp only [List.length_cons] at hcl'; omega)); walk_at "cM"; (case czm => kn_code); walk_at "cX"); intro kl4 n4 tr4 h4 tk4 F4 N4) | (k_here; (with_reducible show wpAny _ _ (call (Value.builtin "iter") [Value.ref _, Value.str _ _]) _ _ _); k_dflt (refine' ci_makeN ?F ?N ?m ?_; walk_at "cF"; (case m => k_mem); k_whole); intro Iz qz hz ez F' N' lz; (subst ez); (try k_lt lz))); k_steps)
              all_goals first
                | (exfalso; (with_reducible rename List.isEmpty _ = _ => z9); exact absurd z9 (by decide +kernel))
                | skip
              rename News h₀ L _ news => Nt
              rename News h₀ L _ (_ :: _) => NN3
              refine' ret _ _ _ _ _ _ ?rtq ?rfq ?rnq
              case rfq => k_asm
              case rtq => simpa using htok
              case rnq =>
                refine' (news_cons NN3 ?_ (news_cons NN3 ?_ (news_cons NN3 ?_ (news_cons NN3 ?_ (news_cons NN3 ?_ (news_cons NN3 ?_ (news_cons NN3 ?_ (news_cons NN3 ?_ (news_cons NN3 ?_ Nt))))))))) <;> k_dflt k_mem
          | @dot t2 r2 w3 z3 d3 hin => 
            k_dflt (refine' ci_item (q := qz) (f := 101) (x := xi) (t := tI) ?hI3q ?hq3q ?hf3q ?hd3q ?hc3q)
            case hI3q => exact NN.get (by k_dflt k_mem)
            case hq3q => exact NN.get (by k_dflt k_mem)
            case hf3q => exact FF.keep _ _ (Xp 101 _ (by k_is))
            case hd3q => exact rfl
            refine codeAny_ret ?_
            k_dflt (refine' rcC_ch (E := fun _ _ => False) ?hcc3q ?hr3q ?B3q FF Xp Tp rfl NN ?cz3q hoc hco hvs ?sx3q e_xi_xd e_xi_fx e_xi_fd e_xi_fl e_xi_cdo e_xi_D e_xi_cell e_xd_fx e_xd_fd e_xd_fl e_xd_cdo e_xd_D e_xd_cell e_fx_fd e_fx_fl e_fx_cdo e_fx_D e_fx_cell e_fd_fl e_fd_cdo e_fd_D e_fd_cell e_fl_cdo e_fl_D e_fl_cell e_cdo_D e_cdo_cell e_D_cell ?hdp3q ?hun3q ?ret3q)
            case B3q => k_asm
            case cz3q => kn_code
            case sx3q => exact sxx tI
            case hdp3q => ktr_room
            case hun3q => ktr_units
            case hcc3q => decide
            case hr3q => first | (simp only [List.length_cons] at hcl' ⊢; omega) | (simp only [List.length_cons] at hcl'; omega)
            case ret3q =>
              intro kl2 n2 tr2 h2 tk2 F2 N2
              refine ⟨_, _, rfl, by decide, N2.get (by k_dflt k_mem), ?_⟩
              clear FF NN
              k_steps
              repeat' (refine CiStop.go ?_; (first | (k_here; (refine iadd_str (hsz := ?hsz) ?_); (case hsz => first | (size_fits; done) | ((show _ + 1 ≤ sizeLine); rw [sizeLine_eq]; (simp only [Str.length] at *); omega)); intro _ _) | (k_here; (k_dflt (show wpAny _ _ (call (Value.ref 101) [Value.ref xi]) _ _ _)); k_dflt (refine' wpAny_call (rcC_ch ?hccm ?hrm ?Bm ?Fm ?Xm ?Tm ?hkm ?Nm ?czm hoc hco hvs (sxx tI) e_xi_xd e_xi_fx e_xi_fd e_xi_fl e_xi_cdo e_xi_D e_xi_cell e_xd_fx e_xd_fd e_xd_fl e_xd_cdo e_xd_D e_xd_cell e_fx_fd e_fx_fl e_fx_cdo e_fx_D e_fx_cell e_fd_fl e_fd_cdo e_fd_D e_fd_cell e_fl_cdo e_fl_D e_fl_cell e_cdo_D e_cdo_cell e_D_cell ?hdpm ?hunm ?_); (case Nm => k_asm); (case hkm => exact rfl); (case hccm => decide); (case hrm => (simp only [List.length_cons] at hcl'; omega)); walk_at "cM"; (case czm => kn_code); walk_at "cX"); intro kl4 n4 tr4 h4 tk4 F4 N4) | (k_here; (with_reducible show wpAny _ _ (call (Value.builtin "iter") [Value.ref _, Value.str _ _]) _ _ _); k_dflt (refine' ci_makeN ?F ?N ?m ?_; walk_at "cF"; (case m => k_mem); k_whole); intro Iz qz hz ez F' N' lz; (subst ez); (try k_lt lz))); k_steps)
              all_goals first
                | (exfalso; (with_reducible rename List.isEmpty _ = _ => z9); exact absurd z9 (by decide +kernel))
                | skip
              rename Fr gp L1 _ _ => FF
              rename News gp L1 _ _ => NN
              refine CiStop.go ?_
              refine' ⟨r2.length, ?l0q, r2, _, _, _, _, _, _, _, w3, _, _, _, rfl, rfl, ?l1q, ?l2q, hin, hln2, ?tokq, fr_congr FF ?e2q, ?N2q⟩
              case N2q =>
                refine' (news_cons NN ?_ (news_cons NN ?_ (news_cons NN ?_ (news_cons NN ?_ (news_cons NN ?_ (news_cons NN ?_ (news_cons NN ?_ (news_cons NN ?_ (news_cons NN ?_ (news_cons NN ?_ (news_cons NN ?_ News.nil))))))))))) <;> k_dflt k_mem
              case e2q => walk_at "mcan"
              case l0q => (simp only [List.length_cons]; omega)
              case l1q => (simp only [List.length_cons] at hcl'; omega)
              case l2q => (simp only [List.length_cons] at hcs; (try rw [e46]); (try rw [e92]); rw [step_size]; omega)
              case tokq => ((try rw [e46]); (try rw [e92]); exact step_tok htok)
          | @esc t2 u2 r2 w3 z3 d3 hin =>
            k_dflt (refine' ci_item (q := qz) (f := 101) (x := xi) (t := tI) ?hI4q ?hq4q ?hf4q ?hd4q ?hc4q)
            case hI4q => exact NN.get (by k_dflt k_mem)
            case hq4q => exact NN.get (by k_dflt k_mem)
            case hf4q => exact FF.keep _ _ (Xp 101 _ (by k_is))
            case hd4q => exact rfl
            refine codeAny_ret ?_
            k_dflt (refine' rcC_ch (E := fun _ _ => False) ?hcc4q ?hr4q ?B4q FF Xp Tp rfl NN ?cz4q hoc hco hvs ?sx4q e_xi_xd e_xi_fx e_xi_fd e_xi_fl e_xi_cdo e_xi_D e_xi_cell e_xd_fx e_xd_fd e_xd_fl e_xd_cdo e_xd_D e_xd_cell e_fx_fd e_fx_fl e_fx_cdo e_fx_D e_fx_cell e_fd_fl e_fd_cdo e_fd_D e_fd_cell e_fl_cdo e_fl_D e_fl_cell e_cdo_D e_cdo_cell e_D_cell ?hdp4q ?hun4q ?ret4q)
            case B4q => k_asm
            case cz4q => kn_code
            case sx4q => exact sxx tI
            case hdp4q => ktr_room
            case hun4q => ktr_units
            case hcc4q => decide
            case hr4q => first | (simp only [List.length_cons] at hcl' ⊢; omega) | (simp only [List.length_cons] at hcl'; omega)
            case ret4q =>
              intro kl2 n2 tr2 h2 tk2 F2 N2
              refine ⟨_, _, rfl, by decide, N2.get (by k_dflt k_mem), ?_⟩
              clear FF NN
              k_steps
              repeat' (refine CiStop.go ?_; (first | (k_here; (refine iadd_str (hsz := ?hsz) ?_); (case hsz => first | (size_fits; done) | ((show _ + 1 ≤ sizeLine); rw [sizeLine_eq]; (simp only [Str.length] at *); omega)); intro _ _) | (k_here; (k_dflt (show wpAny _ _ (call (Value.ref 101) [Value.ref xi]) _ _ _)); k_dflt (refine' wpAny_call (rcC_ch ?hccm ?hrm ?Bm ?Fm ?Xm ?Tm ?hkm ?Nm ?czm hoc hco hvs (sxx tI) e_xi_xd e_xi_fx e_xi_fd e_xi_fl e_xi_cdo e_xi_D e_xi_cell e_xd_fx e_xd_fd e_xd_fl e_xd_cdo e_xd_D e_xd_cell e_fx_fd e_fx_fl e_fx_cdo e_fx_D e_fx_cell e_fd_fl e_fd_cdo e_fd_D e_fd_cell e_fl_cdo e_fl_D e_fl_cell e_cdo_D e_cdo_cell e_D_cell ?hdpm ?hunm ?_); (case Nm => k_asm); (case hkm => exact rfl); (case hccm => decide); (case hrm => (simp only [List.length_cons] at hcl'; omega)); walk_at "cM"; (case czm => kn_code); walk_at "cX"); intro kl4 n4 tr4 h4 tk4 F4 N4) | (k_here; (with_reducible show wpAny _ _ (call (Value.builtin "iter") [Value.ref _, Value.str _ _]) _ _ _); k_dflt (refine' ci_makeN ?F ?N ?m ?_; walk_at "cF"; (case m => k_mem); k_whole); intro Iz qz hz ez F' N' lz; (subst ez); (try k_lt lz))); k_steps)
              all_goals first
                | (exfalso; (with_reducible rename List.isEmpty _ = _ => z9); exact absurd z9 (by decide +kernel))
                | skip
              rename Fr gp L1 _ _ => FF
              rename News gp L1 _ _ => NN
              refine CiStop.go ?_
              refine' ⟨r2.length, ?l0x4q, r2, _, _, _, _, _, _, _, w3, _, _, _, rfl, rfl, ?l1x4q, ?l2x4q, hin, hln2, ?tokx4q, fr_congr FF ?e2x4q, ?N2x4q⟩
              case N2x4q =>
                refine' (news_cons NN ?_ (news_cons NN ?_ (news_cons NN ?_ (news_cons NN ?_ (news_cons NN ?_ (news_cons NN ?_ (news_cons NN ?_ (news_cons NN ?_ (news_cons NN ?_ (news_cons NN ?_ (news_cons NN ?_ News.nil))))))))))) <;> k_dflt k_mem
              case e2x4q => walk_at "mcan"
              case l0x4q => (simp only [List.length_cons]; omega)
              case l1x4q => (simp only [List.length_cons] at hcl'; omega)
              case l2x4q => (simp only [List.length_cons] at hcs; (try rw [e46]); (try rw [e92]); rw [step_size]; omega)
              case tokx4q => ((try rw [e46]); (try rw [e92]); exact step_tok htok)


end
section
open PySem PySem.W PyProof.Rows PySem.Spec PySem.Calls
local macro_rules | `(tactic| walk_at "call type:list") => `(tactic| (k_here; (with_reducible show wpAny _ _ (call (Value.type _) [Value.str _ _]) _ _ _); refine CiStop.out ?_))
local macro_rules | `(tactic| walk_at "eval Lambda") => `(tactic| (k_here; refine CiStop.out ?_))
theorem lexer_c {w : World} {loose : List Str} {mean : ExcName → Option Value} {mg mb : Str → Option Value}
  {dp un : Nat} {gd : Option (List Code)} {cn : Str} {cs : Scope} {a : Addr} {ccd : Value} {cl : List (Str × Addr)} {outer : List Env} {A₀ : Around} {base h₀ : Heap} {L : Addr} {m : Str → Option Value} {s : Shared} {Q E : Value → Shared → Prop}
  {news : List (Addr × Obj)} {ps : Array Value} {c₁ : Addr} {o₁ : Obj} {x : Str} {tx : Tok} (hx : x.cps.size ≤ 2500)
  (B : Below A₀ base outer h₀) (F : Fr h₀ L s.heap m) (X : (hd.heap_39 w.params).In h₀) (T : Top topProg loose mean mg mb h₀) (hk : cs.kind = .function) (N : News h₀ L s.heap ((155, tabObj ps) :: (c₁, o₁) :: news))
  (c1 : CodeHd base 159 155) (tb : TabOk 182 16 (Str.ofString "_law_lexer.<locals>.<lambda>") ps c₁ o₁) (sepP : Sep 155 news) (sep1 : Sep c₁ news) (ne1 : NeN c₁ 155)
  (hdp : dp + 8 < recursionLimit) (hun : un + 60 < cLine)
  (ret : ∀ (xi xd fx fd fl D cell pb fpb cdo : Addr) (oc co : Obj) (vs : Array Value) (kt k1 k2 k3 k4 k5 q1 q2 q3 q4 q5 q6 q7 kl : Tok) (qual : Str) (mn ctv : Value) (n np : Nat) cts h' tk', cts.map (·.1) = x.cps.toList → oc.data = .cell (some (.ref D)) → co.data = .fields vs → vs[1]? = some (.str qual kt) → Fr h₀ L h' m →
    News h₀ L h' ((xi, instObj 118 xd) :: (xd, dictOf [{ hash := PyData.keyHash w.params (Str.ofString "lineno"), key := Value.str (Str.ofString "lineno") k1, val := Value.int 1 kl }, { hash := PyData.keyHash w.params (Str.ofString "instream"), key := Value.str (Str.ofString "instream") k2, val := Value.ref fx }, { hash := PyData.keyHash w.params (Str.ofString "whitespace"), key := Value.str (Str.ofString "whitespace") k3, val := Value.str (Str.ofString "\n\t\x0d ") k4 }, { hash := PyData.keyHash w.params (Str.ofString "pushback"), key := Value.str (Str.ofString "pushback") k5, val := Value.ref pb }] 4) :: (fx, instObj 118 fd) :: (fd, dictOf [{ hash := PyData.keyHash w.params (Str.ofString "lineno"), key := Value.str (Str.ofString "lineno") q1, val := Value.int 1 q6 }, { hash := PyData.keyHash w.params (Str.ofString "instream"), key := Value.str (Str.ofString "instream") q2, val := Value.none }, { hash := PyData.keyHash w.params (Str.ofString "whitespace"), key := Value.str (Str.ofString "whitespace") q3, val := Value.str (Str.ofString "\n\t\x0d ") q4 }, { hash := PyData.keyHash w.params (Str.ofString "pushback"), key := Value.str (Str.ofString "pushback") q5, val := Value.ref fpb }, { hash := PyData.keyHash w.params (Str.ofString "read"), key := Value.str (Str.ofString "read") q7, val := Value.ref fl }] 5) ::
    (fl, kla_obj (Str.ofString "<lambda>") qual
    { posonlyargs := [], args := [{ arg := Str.ofString "size", annotation := none, pos := { line := 182, col := 23, endLine := 182, endCol := 27 } }], vararg := none, kwonlyargs := [], kw_defaults := [], kwarg := none, defaults := [] }
    ((Expr.Name (Str.ofString "signs") { line := 182, col := 45, endLine := 182, endCol := 50 }).IfExp (((Expr.Name (Str.ofString "signs") { line := 182, col := 29, endLine := 182, endCol := 34 }).Attribute (Str.ofString "pop") { line := 182, col := 29, endLine := 182, endCol := 38 }).Call [Expr.Constant (Const.int 0) 0 { line := 182, col := 39, endLine := 182, endCol := 40 }] [] { line := 182, col := 29, endLine := 182, endCol := 41 }) (Expr.Constant (Const.str (Str.ofString "")) 0 { line := 182, col := 56, endLine := 182, endCol := 58 }) { line := 182, col := 29, endLine := 182, endCol := 58 })
    { kind := ScopeKind.function, names := [(Str.ofString "size", NameKind.local), (Str.ofString "signs", NameKind.free)], isGenerator := false, isCoroutine := false }
    [(Str.ofString "signs", cell)] mn cdo ctv) ::
    (cdo, co) :: (D, listOf (chars cts) n) :: (cell, oc) :: (pb, listOf #[] np) :: (155, tabObj #[rawInt 182, rawInt 16, .ref cdo]) :: news) →
    TabOk 182 16 (Str.ofString "_law_lexer.<locals>.<lambda>") #[rawInt 182, rawInt 16, .ref cdo] cdo co → (ps = #[] ∨ (cdo = c₁ ∧ co = o₁)) →
    (∀ y ∈ [xi, xd, fx, fd, fl, cdo, D, cell, pb], Sep y news) → (∀ y ∈ [xi, xd, fx, fd, fl, cdo, D, cell, pb], NeN y 155) → (NeN xi xd ∧ NeN xi fx ∧ NeN xi fd ∧ NeN xi fl ∧ NeN xi cdo ∧ NeN xi D ∧ NeN xi cell ∧ NeN xd fx ∧ NeN xd fd ∧ NeN xd fl ∧ NeN xd cdo ∧ NeN xd D ∧ NeN xd cell ∧ NeN fx fd ∧ NeN fx fl ∧ NeN fx cdo ∧ NeN fx D ∧ NeN fx cell ∧ NeN fd fl ∧ NeN fd cdo ∧ NeN fd D ∧ NeN fd cell ∧ NeN fl cdo ∧ NeN fl D ∧ NeN fl cell ∧ NeN cdo D ∧ NeN cdo cell ∧ NeN D cell ∧ NeN xi pb ∧ NeN xd pb ∧ NeN fx pb ∧ NeN fd pb ∧ NeN fl pb ∧ NeN cdo pb ∧ NeN D pb ∧ NeN cell pb) → Q (.ref xi) { s with heap := h', toks := tk' }) :
  wpAny (model PySem.Challenge.rw_sc0080_01.row.prog w) (ktrTop dp un gd cn cs L a ccd cl outer) (call (.ref 160) [.str x tx]) Q E s := by
  revert X
  k_fill
  intro X
  refine wpAny_call ?_
  k_dflt (refine' code_defC ?k1 ?k2 ?k3 ?k4 ?k5 ?kA ?kF ?kK ?k6 ?k7 ?k8 ?k9 ?kB ?kD ?_ ?c2 ?c3 ?c4)
  case kA => exact rfl
  case kF => exact rfl
  case kK => assumption
  case k1 => k_asm
  case k2 => k_asm
  case k3 => k_asm
  case k4 => exact N
  case k5 => k_asm
  case k6 => k_is
  case k7 => k_is
  case k8 => ktr_room
  case k9 => exact BindsTo.of_eq rfl
  case kB => exact rfl
  case kD => decide +kernel
  case c2 => exact rfl
  case c3 => exact rfl
  case c4 => exact rfl
  intro g1 L1 h1 tk1 cells1 FG1 F1 N1 Y1 B1 X1 T1 lw1
  k_cells Y1
  simp only [List.cons_append, List.nil_append] at N1
  refine rebaseK (ex := [_, _, _]) F1 N1 B1 X1 T1 (news_in N (by intro p hp; repeat' first | exact hp | refine List.Mem.tail _ ?_)) (fun p hp => lw1 p (by repeat' first | exact hp | refine List.Mem.tail _ ?_)) (List.forall_mem_cons.mpr ⟨sep_cell lw1 (by intro p hp; repeat' first | exact hp | refine List.Mem.tail _ ?_) (by omega), List.forall_mem_cons.mpr ⟨sepP, List.forall_mem_cons.mpr ⟨sep1, List.forall_mem_nil _⟩⟩⟩) ?_
  intro gp Fp Np Bp Xp Tp Ip
  clear F1 N1 B1 X1 T1 FG1
  (try dsimp only)
  (try k_lift Bp)
  (try k_fold)
  k_steps
  repeat' (refine CiStop.go ?_; (first | (k_here; kn_here; k_dflt (refine' kla_eval ?d0 ?_; (case d0 => exact rfl)); (k_dflt (refine' lam_any ?F ?N ?T ?C ?cd ?U ?U2 ?t ?hl ?hc ?hq ?cl ?_; walk_at "cF"; (case T => k_asm); (case cd => exact rfl); (case C => kn_code); (case t => assumption); (case U => k_updF); (case U2 => k_updF); (case hl => rfl); (case hc => rfl); (case hq => kernel_rfl!); (case cl => exact rfl); k_whole); intro f' c' oc' vs' t' ct' h' tk' F' N' d1' d2' d3' hw' s1' n1' l1 l2; (try dsimp only at N'); (try k_lt l1); (have _ := ne_lt2 l2); clear l2)) | (k_here; (with_reducible show wpAny _ _ (call (Value.type _) [Value.str _ _]) _ _ _); k_dflt (refine' list_chars rfl ?F ?N ?hx ?_; walk_at "cF"; (case hx => omega); k_whole); intro D' n' cts' h' tk' hc' F' N' l1; (try k_lt l1))); k_steps)
  rename News h₀ L _ news => Nt
  rename News h₀ L _ (_ :: _) => NN
  rename News gp _ _ _ => NP
  refine' ret _ _ _ _ _ _ _ _ _ _ _ _ _ _ _ _ _ _ _ _ _ _ _ _ _ _ _ _ _ _ _ _  _ _ _ ?hc ?hoc ?hco ?hvs ?F (news_cons NN ?m0 (news_cons NN ?m1 (news_cons NN ?m2 (news_cons NN ?m3 (news_cons NN ?m4 (news_cons NN ?m5 (news_cons NN ?m6 (news_cons NN ?m7 (news_cons NN ?m8 (news_cons NN ?m9 Nt)))))))))) ?T ?hw ?sx ?sn ?nes
  case m0 => k_dflt k_mem
  case m1 => k_dflt k_mem
  case m2 => k_dflt k_mem
  case m3 => k_dflt k_mem
  case m4 => k_dflt k_mem
  case m5 => k_dflt k_mem
  case m6 => k_dflt k_mem
  case m7 => k_dflt k_mem
  case m8 => k_dflt k_mem
  case m9 => k_dflt k_mem
  case hc => assumption
  case hoc => assumption
  case hco => assumption
  case hvs => assumption
  case F => k_asm
  case T => assumption
  case hw => assumption
  case sx => exact List.forall_mem_cons.mpr ⟨InBase.sep (x := (_, _)) Ip NP (by k_dflt k_mem), List.forall_mem_cons.mpr ⟨InBase.sep (x := (_, _)) Ip NP (by k_dflt k_mem), List.forall_mem_cons.mpr ⟨InBase.sep (x := (_, _)) Ip NP (by k_dflt k_mem), List.forall_mem_cons.mpr ⟨InBase.sep (x := (_, _)) Ip NP (by k_dflt k_mem), List.forall_mem_cons.mpr ⟨InBase.sep (x := (_, _)) Ip NP (by k_dflt k_mem), List.forall_mem_cons.mpr ⟨InBase.sep (x := (_, _)) Ip NP (by k_dflt k_mem), List.forall_mem_cons.mpr ⟨InBase.sep (x := (_, _)) Ip NP (by k_dflt k_mem), List.forall_mem_cons.mpr ⟨InBase.sep (x := (_, _)) Ip NP (by k_dflt k_mem), List.forall_mem_cons.mpr ⟨InBase.sep (x := (_, _)) Ip NP (by k_dflt k_mem), List.forall_mem_nil _⟩⟩⟩⟩⟩⟩⟩⟩⟩
  case sn => exact List.forall_mem_cons.mpr ⟨⟨by k_ne⟩, List.forall_mem_cons.mpr ⟨⟨by k_ne⟩, List.forall_mem_cons.mpr ⟨⟨by k_ne⟩, List.forall_mem_cons.mpr ⟨⟨by k_ne⟩, List.forall_mem_cons.mpr ⟨⟨by k_ne⟩, List.forall_mem_cons.mpr ⟨⟨by k_ne⟩, List.forall_mem_cons.mpr ⟨⟨by k_ne⟩, List.forall_mem_cons.mpr ⟨⟨by k_ne⟩, List.forall_mem_cons.mpr ⟨⟨by k_ne⟩, List.forall_mem_nil _⟩⟩⟩⟩⟩⟩⟩⟩⟩
  case nes => exact ⟨⟨by k_ne⟩, ⟨by k_ne⟩, ⟨by k_ne⟩, ⟨by k_ne⟩, ⟨by k_ne⟩, ⟨by k_ne⟩, ⟨by k_ne⟩, ⟨by k_ne⟩, ⟨by k_ne⟩, ⟨by k_ne⟩, ⟨by k_ne⟩, ⟨by k_ne⟩, ⟨by k_ne⟩, ⟨by k_ne⟩, ⟨by k_ne⟩, ⟨by k_ne⟩, ⟨by k_ne⟩, ⟨by k_ne⟩, ⟨by k_ne⟩, ⟨by k_ne⟩, ⟨by k_ne⟩, ⟨by k_ne⟩, ⟨by k_ne⟩, ⟨by k_ne⟩, ⟨by k_ne⟩, ⟨by k_ne⟩, ⟨by k_ne⟩, ⟨by k_ne⟩, ⟨by k_ne⟩, ⟨by k_ne⟩, ⟨by k_ne⟩, ⟨by k_ne⟩, ⟨by k_ne⟩, ⟨by k_ne⟩, ⟨by k_ne⟩, ⟨by k_ne⟩⟩


end
section
open PySem PySem.W PyProof.Rows PySem.Spec PySem.Calls
/-- the state of the loop that reads all words -/
def WJ (sz : Nat) (WD : List (List Nat)) (tot : Int) (k : Nat) (ws : List (Str × Tok)) (xw : Str) (cts : List (Nat × Tok)) (ln : Int) (rem : List (List Nat)) (dr : Int) : Prop :=
  (ws.map fun p : Str × Tok => p.1.cps.toList) ++ xw.cps.toList :: rem = WD ∧ ln + dr = tot ∧ cts.length ≤ sz ∧ ws.length ≤ sz ∧
  ((xw.cps.toList = [] ∧ rem = [] ∧ dr = 0 ∧ k = 0) ∨ (xw.cps.toList ≠ [] ∧ Reads (cts.map (·.1)) rem dr ∧ k = cts.length + 1 ∧ ws.length + 1 + cts.length ≤ sz))
theorem Reads.first {r : List Nat} {WD : List (List Nat)} {d : Int} (h : Reads r WD d) : ∃ w z d1 rest d2, OutN r w z d1 ∧ WD = w :: rest ∧ d = d1 + d2 ∧ ((w = [] ∧ rest = [] ∧ d2 = 0) ∨ (w ≠ [] ∧ Reads z rest d2)) := by
  cases h with
  | last h => exact ⟨_, _, _, _, 0, h, rfl, by omega, .inl ⟨rfl, rfl, rfl⟩⟩
  | more h hw r => exact ⟨_, _, _, _, _, h, rfl, rfl, .inr ⟨hw, r⟩⟩
theorem str_nil {x : Str} (h : x.cps.toList = []) : x = Str.ofString "" := by
  obtain ⟨c⟩ := x
  have : c = #[] := by simpa using h
  subst this
  rfl
theorem wj_first {sz : Nat} {l w1 z1 : List Nat} {WD rs1 : List (List Nat)} {d d1 d2 : Int} {zc : List (Nat × Tok)} {tokg : Str} (hO : OutN l w1 z1 d1) (hzc : zc.map (·.1) = z1) (ht : tokg.cps.toList = w1) (hWD : WD = w1 :: rs1) (hd : d = d1 + d2)
    (hc : (w1 = [] ∧ rs1 = [] ∧ d2 = 0) ∨ (w1 ≠ [] ∧ Reads z1 rs1 d2)) (hsz : l.length = sz := by exact Array.length_toList) : WJ sz WD (1 + d) (if w1 = [] then 0 else zc.length + 1) [] tokg zc (1 + d1) rs1 d2 := by
  have hz := congrArg List.length hzc
  rw [List.length_map] at hz
  have hl := hO.len
  refine ⟨by rw [ht, hWD]; rfl, by omega, by omega, Nat.zero_le _, ?_⟩
  rcases hc with ⟨a, b, c⟩ | ⟨a, b⟩
  · exact .inl ⟨by rw [ht, a], b, c, by rw [if_pos a]⟩
  · refine .inr ⟨by rw [ht]; exact a, by rw [hzc]; exact b, by rw [if_neg a], ?_⟩
    have := hl.2 a
    show 0 + 1 + zc.length ≤ sz
    omega
theorem wj_step {sz : Nat} {w1 z1 : List Nat} {WD rem rs1 : List (List Nat)} {tot dr d1 d2 lnJ : Int} {ws : List (Str × Tok)} {xw : Str} {tw : Tok} {cts zc : List (Nat × Tok)} {tokg : Str} (e1 : (ws.map fun p : Str × Tok => p.1.cps.toList) ++ xw.cps.toList :: rem = WD) (e2 : lnJ + dr = tot) (e3 : cts.length ≤ sz) (hle : ws.length + 1 + cts.length ≤ sz)
    (hO : OutN (cts.map (·.1)) w1 z1 d1) (hzc : zc.map (·.1) = z1) (ht : tokg.cps.toList = w1) (hWD : rem = w1 :: rs1) (hd : dr = d1 + d2)
    (hc : (w1 = [] ∧ rs1 = [] ∧ d2 = 0) ∨ (w1 ≠ [] ∧ Reads z1 rs1 d2)) : WJ sz WD tot (if w1 = [] then 0 else zc.length + 1) (ws ++ [(xw, tw)]) tokg zc (lnJ + d1) rs1 d2 := by
  have hz := congrArg List.length hzc
  rw [List.length_map] at hz
  have hl := hO.len
  rw [List.length_map] at hl
  refine ⟨by rw [ht, ← e1, hWD]; simp, by omega, by omega, by simp; omega, ?_⟩
  rcases hc with ⟨a, b, c⟩ | ⟨a, b⟩
  · exact .inl ⟨by rw [ht, a], b, c, by rw [if_pos a]⟩
  · refine .inr ⟨by rw [ht]; exact a, by rw [hzc]; exact b, by rw [if_neg a], ?_⟩
    have := hl.2 a
    simp only [List.length_append, List.length_cons, List.length_nil]
    omega
theorem wj_less {w1 z1 : List Nat} {d1 : Int} {cts zc : List (Nat × Tok)} (hO : OutN (cts.map (·.1)) w1 z1 d1) (hzc : zc.map (·.1) = z1) : (if w1 = [] then 0 else zc.length + 1) < cts.length + 1 := by
  have hz := congrArg List.length hzc
  rw [List.length_map] at hz
  have hl := hO.len
  rw [List.length_map] at hl
  split
  · omega
  · rename_i h
    have := hl.2 h
    omega
theorem lookup_one {y k : Str} {v : Value} (h : ¬ y = k) : List.lookup y [(k, v)] = none := by
  have : (y == k) = false := by simpa using h
  simp [List.lookup, this]
local macro_rules | `(tactic| walk_at "mcanw") => `(tactic| (intro y; by_cases h1 : y = Str.ofString "words"; (subst h1; rfl); by_cases h2 : y = Str.ofString "lexer"; (subst h2; rfl); by_cases h3 : y = Str.ofString "mail"; (subst h3; rfl); (rw [if_neg h1, if_neg h2, if_neg h3]; (try dsimp only); (repeat rw [if_neg (by assumption)]); (try (first | rfl | exact lookup_one h3)))))
local macro_rules | `(tactic| walk_at "exec While BoolOp cons nil") => `(tactic| (k_here; refine CiStop.out ?_))
local macro_rules | `(tactic| walk_at "exec While BoolOp") => `(tactic| (k_here; refine CiStop.out ?_))
local macro_rules | `(tactic| walk_at "subscriptTail") => `(tactic| (k_here; (with_reducible show wpAny _ _ (subscriptTail _ _ (Value.ref _) (Value.int _ _)) _ _ _); refine CiStop.out ?_))
local macro_rules | `(tactic| walk_at "call builtin:len") => `(tactic| (k_here; (first | (with_reducible show wpAny _ _ (call (Value.builtin _) [Value.ref _]) _ _ _) | (with_reducible show wpAny _ _ (call (Value.builtin _) [Value.str _ _]) _ _ _)); refine CiStop.out ?_))
local macro_rules | `(tactic| walk_at "call builtin:list.append") => `(tactic| (k_here; (with_reducible show wpAny _ _ (call (Value.builtin _) [Value.ref _, Value.str _ _]) _ _ _); refine CiStop.out ?_))
local macro_rules | `(tactic| walk_at "call ref") => `(tactic| (k_here; (first | (with_reducible show wpAny _ _ (call (Value.ref 160) _) _ _ _) | (with_reducible show wpAny _ _ (call (Value.ref 108) _) _ _ _)); refine CiStop.out ?_))
set_option autoImplicit false in
inductive G_w_J1 (s : Shared) (x : Str) (WD : List (List Nat)) (d : Int) (gp : Heap) (L1 : Addr) (W : Addr) (xi : Addr) (tx : Tok) (xd : Addr) (w : World) (k1 : Tok) (k2 : Tok) (fx : Addr) (k3 : Tok) (k4 : Tok) (k5 : Tok) (pb : Addr) (fd : Addr) (q1 : Tok) (q6 : Tok) (q2 : Tok) (q3 : Tok) (q4 : Tok) (q5 : Tok) (fpb : Addr) (q7 : Tok) (fl : Addr) (qual : Str) (cell : Addr) (mn : Value) (cdo : Addr) (ctv : Value) (co : Obj) (D : Addr) (oc : Obj) (np : Nat) (k : Nat) (s' : Shared) : Prop
  | mk (ws : List (Str × Tok)) (xw : Str) (tw : Tok) (ctsJ : List (Nat × Tok)) (lnJ : Int) (klJ : Tok) (nD nW : Nat) (rem : List (List Nat)) (dr : Int) (hp : Heap) (tk : Nat) (j0 : s' = { s with heap := hp, toks := tk }) (j1 : WJ x.cps.size WD (1 + d) k ws xw ctsJ lnJ rem dr) (j2 : Fr gp L1 hp (fun y => if y = Str.ofString "words" then some (Value.ref W) else if y = Str.ofString "lexer" then some (Value.ref xi) else if y = Str.ofString "mail" then some (Value.str x tx) else none)) (j3 : News gp L1 hp ((xi, instObj 118 xd) :: (xd, dictOf [{ hash := PyData.keyHash w.params (Str.ofString "lineno"), key := Value.str (Str.ofString "lineno") k1, val := Value.int lnJ klJ }, { hash := PyData.keyHash w.params (Str.ofString "instream"), key := Value.str (Str.ofString "instream") k2, val := Value.ref fx }, { hash := PyData.keyHash w.params (Str.ofString "whitespace"), key := Value.str (Str.ofString "whitespace") k3, val := Value.str (Str.ofString "\n\t\x0d ") k4 }, { hash := PyData.keyHash w.params (Str.ofString "pushback"), key := Value.str (Str.ofString "pushback") k5, val := Value.ref pb }] 4) :: (fx, instObj 118 fd) :: (fd, dictOf [{ hash := PyData.keyHash w.params (Str.ofString "lineno"), key := Value.str (Str.ofString "lineno") q1, val := Value.int 1 q6 }, { hash := PyData.keyHash w.params (Str.ofString "instream"), key := Value.str (Str.ofString "instream") q2, val := Value.none }, { hash := PyData.keyHash w.params (Str.ofString "whitespace"), key := Value.str (Str.ofString "whitespace") q3, val := Value.str (Str.ofString "\n\t\x0d ") q4 }, { hash := PyData.keyHash w.params (Str.ofString "pushback"), key := Value.str (Str.ofString "pushback") q5, val := Value.ref fpb }, { hash := PyData.keyHash w.params (Str.ofString "read"), key := Value.str (Str.ofString "read") q7, val := Value.ref fl }] 5) ::     (fl, kla_obj (Str.ofString "<lambda>") qual     { posonlyargs := [], args := [{ arg := Str.ofString "size", annotation := none, pos := { line := 182, col := 23, endLine := 182, endCol := 27 } }], vararg := none, kwonlyargs := [], kw_defaults := [], kwarg := none, defaults := [] }     ((Expr.Name (Str.ofString "signs") { line := 182, col := 45, endLine := 182, endCol := 50 }).IfExp (((Expr.Name (Str.ofString "signs") { line := 182, col := 29, endLine := 182, endCol := 34 }).Attribute (Str.ofString "pop") { line := 182, col := 29, endLine := 182, endCol := 38 }).Call [Expr.Constant (Const.int 0) 0 { line := 182, col := 39, endLine := 182, endCol := 40 }] [] { line := 182, col := 29, endLine := 182, endCol := 41 }) (Expr.Constant (Const.str (Str.ofString "")) 0 { line := 182, col := 56, endLine := 182, endCol := 58 }) { line := 182, col := 29, endLine := 182, endCol := 58 })     { kind := ScopeKind.function, names := [(Str.ofString "size", NameKind.local), (Str.ofString "signs", NameKind.free)], isGenerator := false, isCoroutine := false }     [(Str.ofString "signs", cell)] mn cdo ctv) ::     (cdo, co) :: (D, listOf (chars ctsJ) nD) :: (cell, oc) :: (pb, listOf #[] np) :: (W, listOf (txts (ws ++ [(xw, tw)])) nW) :: (155, tabObj #[rawInt 182, rawInt 16, .ref cdo]) :: [])) : G_w_J1 s x WD d gp L1 W xi tx xd w k1 k2 fx k3 k4 k5 pb fd q1 q6 q2 q3 q4 q5 fpb q7 fl qual cell mn cdo ctv co D oc np k s'
theorem words_c {w : World} {loose : List Str} {mean : ExcName → Option Value} {mg mb : Str → Option Value}
  {dp un : Nat} {gd : Option (List Code)} {cn : Str} {cs : Scope} {a : Addr} {ccd : Value} {cl : List (Str × Addr)} {outer : List Env} {A₀ : Around} {base h₀ : Heap} {L : Addr} {m : Str → Option Value} {s : Shared} {Q E : Value → Shared → Prop}
  {news : List (Addr × Obj)} {ps : Array Value} {c₁ : Addr} {o₁ : Obj} {x : Str} {tx : Tok} {WD : List (List Nat)} {d : Int} (hx : x.cps.size ≤ 2500) (hR : Reads x.cps.toList WD d)
  (B : Below A₀ base outer h₀) (F : Fr h₀ L s.heap m) (X : (hd.heap_39 w.params).In h₀) (T : Top topProg loose mean mg mb h₀) (hk : cs.kind = .function) (N : News h₀ L s.heap ((155, tabObj ps) :: (c₁, o₁) :: news))
  (c1 : CodeHd base 159 155) (tb : TabOk 182 16 (Str.ofString "_law_lexer.<locals>.<lambda>") ps c₁ o₁) (sepP : Sep 155 news) (sep1 : Sep c₁ news) (ne1 : NeN c₁ 155)
  (hdp : dp + 16 < recursionLimit) (hun : un + 100 < cLine)
  (ret : ∀ (tp W cdo : Addr) (co : Obj) (ws : List (Str × Tok)) (n : Nat) (td : Tok) h' tk', (ws.map fun p : Str × Tok => p.1.cps.toList) = WD → Fr h₀ L h' m →
    News h₀ L h' ((tp, tupObj #[.ref W, .int (1 + d) td]) :: (W, listOf (txts ws) n) :: (155, tabObj #[rawInt 182, rawInt 16, .ref cdo]) :: (cdo, co) :: news) →
    TabOk 182 16 (Str.ofString "_law_lexer.<locals>.<lambda>") #[rawInt 182, rawInt 16, .ref cdo] cdo co → (ps = #[] ∨ (cdo = c₁ ∧ co = o₁)) →
    Sep tp news → Sep W news → Sep cdo news → NeN tp W → NeN tp 155 → NeN tp cdo → NeN W 155 → NeN W cdo → NeN cdo 155 → Q (.ref tp) { s with heap := h', toks := tk' }) :
  wpAny (model PySem.Challenge.rw_sc0080_01.row.prog w) (ktrTop dp un gd cn cs L a ccd cl outer) (call (.ref 167) [.str x tx]) Q E s := by
  revert X
  k_fill
  intro X
  obtain ⟨w1, z1, d1, rs1, d2, hOut, hWD, hd, hcase⟩ := hR.first
  refine wpAny_call ?_
  k_dflt (refine' code_defL ?k1 ?k2 ?k3 ?k4 ?k5 ?kA ?kF ?kK ?k6 ?k7 ?k8 ?k9 ?kB ?_ ?c2 ?c3 ?c4 ?c5)
  case kA => exact rfl
  case kF => exact rfl
  case kK => assumption
  case k1 => k_asm
  case k2 => k_asm
  case k3 => k_asm
  case k4 => exact N
  case k5 => k_asm
  case k6 => k_is
  case k7 => k_is
  case k8 => ktr_room
  case k9 => exact BindsTo.of_eq rfl
  case c5 => decide
  case kB => exact locs rfl
  case c2 => exact rfl
  case c3 => exact rfl
  case c4 => exact rfl
  intro g1 L1 h1 FG1 F1 N1 B1 X1 T1 lw1
  refine rebaseK (ex := [_, _]) F1 N1 B1 X1 T1 (news_in N (by intro p hp; repeat' first | exact hp | refine List.Mem.tail _ ?_)) (fun p hp => lw1 p (by repeat' first | exact hp | refine List.Mem.tail _ ?_)) (List.forall_mem_cons.mpr ⟨sepP, List.forall_mem_cons.mpr ⟨sep1, List.forall_mem_nil _⟩⟩) ?_
  intro gp Fp Np Bp Xp Tp Ip
  clear F1 N1 B1 X1 T1 FG1
  (try dsimp only)
  (try k_lift Bp)
  (try k_fold)
  k_steps
  repeat' (refine CiStop.go ?_; (first | (k_here; (with_reducible show wpAny _ _ (call (Value.ref 108) _) _ _ _); (obtain ⟨zc, hzc, hOo⟩ := OutN.toks hOut _ hcts); k_dflt (refine' gt_c ?hclm hOo ?Bm ?Fm ?Xm ?Tm ?hkm ?Nm ?czm hoc hco hvs ?sxm e_xi_xd e_xi_fx e_xi_fd e_xi_fl e_xi_cdo e_xi_D e_xi_cell e_xd_fx e_xd_fd e_xd_fl e_xd_cdo e_xd_D e_xd_cell e_fx_fd e_fx_fl e_fx_cdo e_fx_D e_fx_cell e_fd_fl e_fd_cdo e_fd_D e_fd_cell e_fl_cdo e_fl_D e_fl_cell e_cdo_D e_cdo_cell e_D_cell e_xi_pb e_xd_pb e_fx_pb e_fd_pb e_fl_pb e_cdo_pb e_D_pb e_cell_pb ?hdpm ?hunm ?_; (case Nm => k_asm); (case hkm => exact rfl); (case hclm => first | omega | ((have hl9 := congrArg List.length hcts); (simp only [List.length_map, Array.length_toList] at hl9); omega)); walk_at "cM"; (case czm => kn_code); (case sxm => walk_at "cS"); walk_at "cX"); intro tokg ttg klg ng hg tkg htokg F' N') | (k_here; (with_reducible show wpAny _ _ (call (Value.ref 160) _) _ _ _); k_dflt (refine' lexer_c ?hxm ?Bm ?Fm ?Xm ?Tm ?hkm ?Nm ?c1m ?tbm ?sPm ?s1m ?nem ?hdpm ?hunm ?_; (case Nm => k_asm); (case hkm => exact rfl); (case hxm => assumption); walk_at "cM"; (case c1m => kn_code); (case tbm => assumption); (case sPm => walk_at "cS"); (case s1m => walk_at "cS"); (case nem => exact ⟨by k_ne⟩); walk_at "cX"); intro xi xd fx fd fl D cell pb fpb cdo oc co vs kt k1 k2 k3 k4 k5 q1 q2 q3 q4 q5 q6 q7 kl qual mn ctv n np cts hL tkL hcts hoc hco hvs F' N' tbL hwL sxL snL nesL; (obtain ⟨e_xi_xd, e_xi_fx, e_xi_fd, e_xi_fl, e_xi_cdo, e_xi_D, e_xi_cell, e_xd_fx, e_xd_fd, e_xd_fl, e_xd_cdo, e_xd_D, e_xd_cell, e_fx_fd, e_fx_fl, e_fx_cdo, e_fx_D, e_fx_cell, e_fd_fl, e_fd_cdo, e_fd_D, e_fd_cell, e_fl_cdo, e_fl_D, e_fl_cell, e_cdo_D, e_cdo_cell, e_D_cell, e_xi_pb, e_xd_pb, e_fx_pb, e_fd_pb, e_fl_pb, e_cdo_pb, e_D_pb, e_cell_pb⟩ := nesL); (simp only [List.forall_mem_cons, List.not_mem_nil, false_implies, implies_true, and_true] at snL); (obtain ⟨sn_xi, sn_xd, sn_fx, sn_fd, sn_fl, sn_cdo, sn_D, sn_cell, sn_pb⟩ := snL); (clear sxL)) | (k_here; (with_reducible show wpAny _ _ (call (Value.builtin _) [Value.ref _, Value.str _ _]) _ _ _); k_dflt (refine' append_txts ?F ?N ?z ?U ?_; walk_at "cF"; (case U => k_upd); (case z => (try simp only [List.length_append, List.length_cons, List.length_nil]); omega); k_whole); intro h' F' N') | (k_here; (with_reducible show wpAny _ _ (call (Value.builtin _) [Value.str _ _]) _ _ _); k_dflt (refine' P.len_str ?z ?_; (case z => simp only [Str.length]; omega); k_whole); (try simp only [Str.length])) | (k_here; (with_reducible show wpAny _ _ (call (Value.builtin _) [Value.ref _]) _ _ _); k_dflt (refine' len_txts ?N ?m ?z ?_; (case N => k_asm); (case m => k_mem); (case z => (try simp only [List.length_append, List.length_cons, List.length_nil]); omega); k_whole)) | (k_here; (with_reducible show wpAny _ _ (subscriptTail _ _ (Value.ref _) (Value.int _ _)) _ _ _); k_dflt (refine' last_txts ?N ?m ?_ ?hs; (case N => k_asm); (case m => k_mem); (case hs => with_unfolding_all rfl); k_whole))); k_steps)
  rename Fr gp L1 _ _ => FF
  rename News gp L1 _ _ => NN
  refine CiStop.go ?_
  refine' wh_loop (G_w_J1 s x WD d gp L1 _ xi tx xd w k1 k2 fx k3 k4 k5 pb fd q1 q6 q2 q3 q4 q5 fpb q7 fl qual cell mn cdo ctv co D oc np) (n0 := if w1 = [] then 0 else zc.length + 1) ?h0 ?turn ?hE
  case hE => passes_own
  case h0 =>
    refine' ⟨[], tokg, ttg, zc, _, _, _, _, rs1, d2, _, _, rfl, ?wj, fr_congr FF ?e, ?N⟩
    case N => refine' news_cons NN ?_ (news_cons NN ?_ (news_cons NN ?_ (news_cons NN ?_ (news_cons NN ?_ (news_cons NN ?_ (news_cons NN ?_ (news_cons NN ?_ (news_cons NN ?_ (news_cons NN ?_ (news_cons NN ?_ (News.nil))))))))))) <;> k_dflt k_mem
    case e => walk_at "mcanw"
    case wj => exact wj_first hOut hzc htokg hWD hd hcase
  case turn =>
    rintro k s' ⟨ws, xw, tw, ctsJ, lnJ, klJ, nD, nW, rem, dr, hp, tk, rfl, hWJ, FF, NN⟩
    obtain ⟨e1, e2, e3, e4, hcase2⟩ := hWJ
    rcases hcase2 with ⟨hx0, rfl, rfl, rfl⟩ | ⟨hx0, hR2, rfl, hle⟩
    · obtain rfl : xw = Str.ofString "" := str_nil hx0
      obtain rfl : lnJ = 1 + d := by omega
      k_steps
      repeat' (refine CiStop.go ?_; (first | (k_here; (with_reducible show wpAny _ _ (call (Value.ref 108) _) _ _ _); (obtain ⟨zc, hzc, hOo⟩ := OutN.toks hOut _ hcts); k_dflt (refine' gt_c ?hclm hOo ?Bm ?Fm ?Xm ?Tm ?hkm ?Nm ?czm hoc hco hvs ?sxm e_xi_xd e_xi_fx e_xi_fd e_xi_fl e_xi_cdo e_xi_D e_xi_cell e_xd_fx e_xd_fd e_xd_fl e_xd_cdo e_xd_D e_xd_cell e_fx_fd e_fx_fl e_fx_cdo e_fx_D e_fx_cell e_fd_fl e_fd_cdo e_fd_D e_fd_cell e_fl_cdo e_fl_D e_fl_cell e_cdo_D e_cdo_cell e_D_cell e_xi_pb e_xd_pb e_fx_pb e_fd_pb e_fl_pb e_cdo_pb e_D_pb e_cell_pb ?hdpm ?hunm ?_; (case Nm => k_asm); (case hkm => exact rfl); (case hclm => first | omega | ((have hl9 := congrArg List.length hcts); (simp only [List.length_map, Array.length_toList] at hl9); omega)); walk_at "cM"; (case czm => kn_code); (case sxm => walk_at "cS"); walk_at "cX"); intro tokg ttg klg ng hg tkg htokg F' N') | (k_here; (with_reducible show wpAny _ _ (call (Value.ref 160) _) _ _ _); k_dflt (refine' lexer_c ?hxm ?Bm ?Fm ?Xm ?Tm ?hkm ?Nm ?c1m ?tbm ?sPm ?s1m ?nem ?hdpm ?hunm ?_; (case Nm => k_asm); (case hkm => exact rfl); (case hxm => assumption); walk_at "cM"; (case c1m => kn_code); (case tbm => assumption); (case sPm => walk_at "cS"); (case s1m => walk_at "cS"); (case nem => exact ⟨by k_ne⟩); walk_at "cX"); intro xi xd fx fd fl D cell pb fpb cdo oc co vs kt k1 k2 k3 k4 k5 q1 q2 q3 q4 q5 q6 q7 kl qual mn ctv n np cts hL tkL hcts hoc hco hvs F' N' tbL hwL sxL snL nesL; (obtain ⟨e_xi_xd, e_xi_fx, e_xi_fd, e_xi_fl, e_xi_cdo, e_xi_D, e_xi_cell, e_xd_fx, e_xd_fd, e_xd_fl, e_xd_cdo, e_xd_D, e_xd_cell, e_fx_fd, e_fx_fl, e_fx_cdo, e_fx_D, e_fx_cell, e_fd_fl, e_fd_cdo, e_fd_D, e_fd_cell, e_fl_cdo, e_fl_D, e_fl_cell, e_cdo_D, e_cdo_cell, e_D_cell, e_xi_pb, e_xd_pb, e_fx_pb, e_fd_pb, e_fl_pb, e_cdo_pb, e_D_pb, e_cell_pb⟩ := nesL); (simp only [List.forall_mem_cons, List.not_mem_nil, false_implies, implies_true, and_true] at snL); (obtain ⟨sn_xi, sn_xd, sn_fx, sn_fd, sn_fl, sn_cdo, sn_D, sn_cell, sn_pb⟩ := snL); (clear sxL)) | (k_here; (with_reducible show wpAny _ _ (call (Value.builtin _) [Value.ref _, Value.str _ _]) _ _ _); k_dflt (refine' append_txts ?F ?N ?z ?U ?_; walk_at "cF"; (case U => k_upd); (case z => (try simp only [List.length_append, List.length_cons, List.length_nil]); omega); k_whole); intro h' F' N') | (k_here; (with_reducible show wpAny _ _ (call (Value.builtin _) [Value.str _ _]) _ _ _); k_dflt (refine' P.len_str ?z ?_; (case z => simp only [Str.length]; omega); k_whole); (try simp only [Str.length])) | (k_here; (with_reducible show wpAny _ _ (call (Value.builtin _) [Value.ref _]) _ _ _); k_dflt (refine' len_txts ?N ?m ?z ?_; (case N => k_asm); (case m => k_mem); (case z => (try simp only [List.length_append, List.length_cons, List.length_nil]); omega); k_whole)) | (k_here; (with_reducible show wpAny _ _ (subscriptTail _ _ (Value.ref _) (Value.int _ _)) _ _ _); k_dflt (refine' last_txts ?N ?m ?_ ?hs; (case N => k_asm); (case m => k_mem); (case hs => with_unfolding_all rfl); k_whole))); k_steps)
      all_goals first
        | (exfalso; (with_reducible rename (_ != _) = true => z9); exact absurd z9 (by decide +kernel))
        | skip
      rename News h₀ L _ news => Nt
      rename News h₀ L _ (_ :: _) => NN3
      rename News gp _ _ _ => NP
      refine' ret _ _ cdo co (ws ++ [(Str.ofString "", tw)]) _ _ _ _ ?rt ?rf (news_cons NN3 ?n0 (news_cons NN3 ?n1 (news_cons NN3 ?n2 (news_cons NN3 ?n3 Nt)))) tbL hwL ?s1 ?s2 ?s3 ?v1 ?v2 ?v3 ?v4 ?v5 sn_cdo
      case n0 => k_dflt k_mem
      case n1 => k_dflt k_mem
      case n2 => k_dflt k_mem
      case n3 => k_dflt k_mem
      case rf => k_asm
      case rt => rw [← e1]; simp
      case s1 => exact InBase.sep (x := (_, _)) Ip NP (by k_dflt k_mem)
      case s2 => exact InBase.sep (x := (_, _)) Ip NP (by k_dflt k_mem)
      case s3 => exact InBase.sep (x := (_, _)) Ip NP (by k_dflt k_mem)
      case v1 => exact ⟨by k_ne⟩
      case v2 => exact ⟨by k_ne⟩
      case v3 => exact ⟨by k_ne⟩
      case v4 => exact ⟨by k_ne⟩
      case v5 => exact ⟨by k_ne⟩
    · have hx1 : ¬ xw = Str.ofString "" := fun e => hx0 (by rw [e]; rfl)
      clear hOut hcts
      obtain ⟨w2, z2, d3, rs2, d4, hOut, hWD2, hd2, hcase3⟩ := hR2.first
      have hcts : ctsJ.map (·.1) = ctsJ.map (·.1) := rfl
      k_steps
      repeat' (refine CiStop.go ?_; (first | (k_here; (with_reducible show wpAny _ _ (call (Value.ref 108) _) _ _ _); (obtain ⟨zc, hzc, hOo⟩ := OutN.toks hOut _ hcts); k_dflt (refine' gt_c ?hclm hOo ?Bm ?Fm ?Xm ?Tm ?hkm ?Nm ?czm hoc hco hvs ?sxm e_xi_xd e_xi_fx e_xi_fd e_xi_fl e_xi_cdo e_xi_D e_xi_cell e_xd_fx e_xd_fd e_xd_fl e_xd_cdo e_xd_D e_xd_cell e_fx_fd e_fx_fl e_fx_cdo e_fx_D e_fx_cell e_fd_fl e_fd_cdo e_fd_D e_fd_cell e_fl_cdo e_fl_D e_fl_cell e_cdo_D e_cdo_cell e_D_cell e_xi_pb e_xd_pb e_fx_pb e_fd_pb e_fl_pb e_cdo_pb e_D_pb e_cell_pb ?hdpm ?hunm ?_; (case Nm => k_asm); (case hkm => exact rfl); (case hclm => first | omega | ((have hl9 := congrArg List.length hcts); (simp only [List.length_map, Array.length_toList] at hl9); omega)); walk_at "cM"; (case czm => kn_code); (case sxm => walk_at "cS"); walk_at "cX"); intro tokg ttg klg ng hg tkg htokg F' N') | (k_here; (with_reducible show wpAny _ _ (call (Value.ref 160) _) _ _ _); k_dflt (refine' lexer_c ?hxm ?Bm ?Fm ?Xm ?Tm ?hkm ?Nm ?c1m ?tbm ?sPm ?s1m ?nem ?hdpm ?hunm ?_; (case Nm => k_asm); (case hkm => exact rfl); (case hxm => assumption); walk_at "cM"; (case c1m => kn_code); (case tbm => assumption); (case sPm => walk_at "cS"); (case s1m => walk_at "cS"); (case nem => exact ⟨by k_ne⟩); walk_at "cX"); intro xi xd fx fd fl D cell pb fpb cdo oc co vs kt k1 k2 k3 k4 k5 q1 q2 q3 q4 q5 q6 q7 kl qual mn ctv n np cts hL tkL hcts hoc hco hvs F' N' tbL hwL sxL snL nesL; (obtain ⟨e_xi_xd, e_xi_fx, e_xi_fd, e_xi_fl, e_xi_cdo, e_xi_D, e_xi_cell, e_xd_fx, e_xd_fd, e_xd_fl, e_xd_cdo, e_xd_D, e_xd_cell, e_fx_fd, e_fx_fl, e_fx_cdo, e_fx_D, e_fx_cell, e_fd_fl, e_fd_cdo, e_fd_D, e_fd_cell, e_fl_cdo, e_fl_D, e_fl_cell, e_cdo_D, e_cdo_cell, e_D_cell, e_xi_pb, e_xd_pb, e_fx_pb, e_fd_pb, e_fl_pb, e_cdo_pb, e_D_pb, e_cell_pb⟩ := nesL); (simp only [List.forall_mem_cons, List.not_mem_nil, false_implies, implies_true, and_true] at snL); (obtain ⟨sn_xi, sn_xd, sn_fx, sn_fd, sn_fl, sn_cdo, sn_D, sn_cell, sn_pb⟩ := snL); (clear sxL)) | (k_here; (with_reducible show wpAny _ _ (call (Value.builtin _) [Value.ref _, Value.str _ _]) _ _ _); k_dflt (refine' append_txts ?F ?N ?z ?U ?_; walk_at "cF"; (case U => k_upd); (case z => (try simp only [List.length_append, List.length_cons, List.length_nil]); omega); k_whole); intro h' F' N') | (k_here; (with_reducible show wpAny _ _ (call (Value.builtin _) [Value.str _ _]) _ _ _); k_dflt (refine' P.len_str ?z ?_; (case z => simp only [Str.length]; omega); k_whole); (try simp only [Str.length])) | (k_here; (with_reducible show wpAny _ _ (call (Value.builtin _) [Value.ref _]) _ _ _); k_dflt (refine' len_txts ?N ?m ?z ?_; (case N => k_asm); (case m => k_mem); (case z => (try simp only [List.length_append, List.length_cons, List.length_nil]); omega); k_whole)) | (k_here; (with_reducible show wpAny _ _ (subscriptTail _ _ (Value.ref _) (Value.int _ _)) _ _ _); k_dflt (refine' last_txts ?N ?m ?_ ?hs; (case N => k_asm); (case m => k_mem); (case hs => with_unfolding_all rfl); k_whole))); k_steps)
      all_goals first
        | (exfalso; (with_reducible rename (_ != _) = false => z9); exact hx1 (by simpa using z9))
        | (exfalso; (with_reducible rename ¬ (_ : Int) ≤ _ => z9); (simp only [List.length_append, List.length_cons, List.length_nil] at z9); omega)
        | skip
      rename Fr gp L1 _ _ => FF
      rename News gp L1 _ _ => NN
      refine CiStop.go ?_
      refine' ⟨if w2 = [] then 0 else zc.length + 1, ?lt, ws ++ [(xw, tw)], tokg, ttg, zc, _, _, _, _, rs2, d4, _, _, rfl, ?wj, fr_congr FF ?e, ?N⟩
      case N => refine' news_cons NN ?_ (news_cons NN ?_ (news_cons NN ?_ (news_cons NN ?_ (news_cons NN ?_ (news_cons NN ?_ (news_cons NN ?_ (news_cons NN ?_ (news_cons NN ?_ (news_cons NN ?_ (news_cons NN ?_ (News.nil))))))))))) <;> k_dflt k_mem
      case e => walk_at "mcanw"
      case wj => exact wj_step e1 e2 e3 hle hOut hzc htokg hWD2 hd2 hcase3
      case lt => exact wj_less hOut hzc


end
section
open PySem PySem.W PyProof.Rows PySem.Spec PySem.Calls
local macro_rules | `(tactic| walk_at "call builtin:str.lower") => `(tactic| (k_here; (with_reducible show wpAny _ _ (call _ [Value.str _ _]) _ _ _); refine CiStop.out ?_))
theorem sub_c {w : World} {loose : List Str} {mean : ExcName → Option Value} {mg mb : Str → Option Value}
  {dp un : Nat} {gd : Option (List Code)} {cn : Str} {cs : Scope} {a : Addr} {ccd : Value} {cl : List (Str × Addr)} {outer : List Env} {A₀ : Around} {base h₀ : Heap} {L : Addr} {m : Str → Option Value} {s : Shared} {Q E : Value → Shared → Prop}
  {news : List (Addr × Obj)} {c1 c2 : Nat} {t1 t2 : Tok}
  (B : Below A₀ base outer h₀) (F : Fr h₀ L s.heap m) (X : (hd.heap_39 w.params).In h₀) (T : Top topProg loose mean mg mb h₀) (hk : cs.kind = .function) (N : News h₀ L s.heap news) (hdp : dp + 2 < recursionLimit) (hun : un + 20 < cLine)
  (ret : ∀ tr h' tk', Fr h₀ L h' m → News h₀ L h' news → Q (.int (cost c1 c2) tr) { s with heap := h', toks := tk' }) :
  wpAny (model PySem.Challenge.rw_sc0080_01.row.prog w) (ktrTop dp un gd cn cs L a ccd cl outer) (call (.ref 146) [.str ⟨#[c1]⟩ t1, .str ⟨#[c2]⟩ t2]) Q E s := by
  revert X
  k_fill
  intro X
  refine wpAny_call ?_
  k_dflt (refine' code_defL ?k1 ?k2 ?k3 ?k4 ?k5 ?kA ?kF ?kK ?k6 ?k7 ?k8 ?k9 ?kB ?_ ?c2 ?c3 ?c4 ?c5)
  case kA => exact rfl
  case kF => exact rfl
  case kK => assumption
  case k1 => k_asm
  case k2 => k_asm
  case k3 => k_asm
  case k4 => exact N
  case k5 => k_asm
  case k6 => k_is
  case k7 => k_is
  case k8 => ktr_room
  case k9 => exact BindsTo.of_eq rfl
  case c5 => decide
  case kB => exact locs rfl
  case c2 => exact rfl
  case c3 => exact rfl
  case c4 => exact rfl
  intro g1 L1 h1 FG1 F1 N1 B1 X1 T1 lw1
  refine rebaseK (ex := []) F1 N1 B1 X1 T1 (news_in N (by intro p hp; repeat' first | exact hp | refine List.Mem.tail _ ?_)) (fun p hp => lw1 p (by repeat' first | exact hp | refine List.Mem.tail _ ?_)) (List.forall_mem_nil _) ?_
  intro gp Fp Np Bp Xp Tp Ip
  clear F1 N1 B1 X1 T1 FG1
  (try dsimp only)
  (try k_lift Bp)
  (try k_fold)
  k_steps
  repeat' (refine CiStop.go ?_; (first | (k_here; (with_reducible show wpAny _ _ (call _ [Value.str _ _]) _ _ _); k_dflt (refine' SCL.lower ?z ?_; (case z => (show (1 : Nat) ≤ 5592405); decide); k_whole); intro _)); k_steps)
  all_goals
    rename News h₀ L _ news => Nt
    first
      | (have ec := cost_0 (c1 := c1) (c2 := c2) (by assumption); rw [ec] at ret; exact ret _ _ _ (by k_asm) Nt)
      | (have ec := cost_1 (c1 := c1) (c2 := c2) (by assumption) (by assumption); rw [ec] at ret; exact ret _ _ _ (by k_asm) Nt)
      | (have ec := cost_2 (c1 := c1) (c2 := c2) (by assumption) (by assumption); rw [ec] at ret; exact ret _ _ _ (by k_asm) Nt)


end
section
open PySem PySem.W PyProof.Rows PySem.Spec PySem.Calls
local macro_rules | `(tactic| walk_at "exec While BoolOp") => `(tactic| (k_here; refine CiStop.out ?_))
local macro_rules | `(tactic| walk_at "CutFlow") => `(tactic| (dsimp only [CutFlow]))
local macro_rules | `(tactic| walk_at "OrNPost") => `(tactic| (dsimp only [OrNPost]))
local macro_rules | `(tactic| walk_at "eval BoolOp") => `(tactic| (k_here; (with_reducible show wpAny _ _ (eval (Expr.BoolOp BoolOp.Or [Expr.Name _ _, Expr.Constant Const.none _ _] _) _) _ _ _); refine CiStop.out ?_))
local macro_rules | `(tactic| walk_at "truthy str") => `(tactic| (k_here; refine CiStop.out ?_))
local macro_rules | `(tactic| walk_at "subscriptTail Name Slice str ref") => `(tactic| (k_here; refine CiStop.out ?_))
local macro_rules | `(tactic| walk_at "subscriptTail Name Name str int") => `(tactic| (k_here; (with_reducible show wpAny _ _ (subscriptTail _ _ (Value.str (mk _) _) (Value.int _ _)) _ _ _); refine CiStop.out ?_))
local macro_rules | `(tactic| walk_at "subscriptTail Name BinOp str int") => `(tactic| (k_here; (with_reducible show wpAny _ _ (subscriptTail _ _ (Value.str (mk _) _) (Value.int _ _)) _ _ _); refine CiStop.out ?_))
local macro_rules | `(tactic| walk_at "call builtin:len") => `(tactic| (k_here; (with_reducible show wpAny _ _ (call (Value.builtin _) [Value.str (mk _) _]) _ _ _); refine CiStop.out ?_))
local macro_rules | `(tactic| walk_at "exec If") => `(tactic| (k_here; (with_reducible show wpAny _ _ (exec (Stmt.If (Expr.Compare (Expr.Call _ _ _ _) [CmpOp.Lt] _ _) _ _ _) _) _ _ _); refine CiStop.out ?_))
local macro_rules | `(tactic| walk_at "call type:list") => `(tactic| (k_here; (with_reducible show wpAny _ _ (call (Value.type _) [Value.ref _]) _ _ _); refine CiStop.out ?_))
local macro_rules | `(tactic| walk_at "exec For Name Call cons nil") => `(tactic| (k_here; refine CiStop.out ?_))
local macro_rules | `(tactic| walk_at "call ref") => `(tactic| (k_here; (with_reducible show wpAny _ _ (call (Value.ref 146) _) _ _ _); refine CiStop.out ?_))
set_option autoImplicit false in
inductive G_v_J1 (s : Shared) (la : List Nat) (lb : List Nat) (gp : Heap) (L1 : Addr) (ta : Tok) (tb : Tok) (mx : Int) (tm : Tok) (k : Nat) (s' : Shared) : Prop
  | mk (p : Nat) (tp : Tok) (u : Str → Option Value) (hp : Heap) (tk : Nat) (j0 : s' = { s with heap := hp, toks := tk }) (j1 : p ≤ lcp la lb) (j2 : k = lcp la lb - p) (j3 : Fr gp L1 hp (kstB u [(Str.ofString "pre", Value.int (p : Int) tp), (Str.ofString "a", Value.str (mk la) ta), (Str.ofString "b", Value.str (mk lb) tb), (Str.ofString "max_cost", Value.int mx tm)])) (j4 : News gp L1 hp []) : G_v_J1 s la lb gp L1 ta tb mx tm k s'
set_option autoImplicit false in
inductive G_v_J2 (s : Shared) (gp : Heap) (L1 : Addr) (la : List Nat) (lb : List Nat) (ta : Tok) (tb : Tok) (mx : Int) (tm : Tok) (s' : Shared) : Prop
  | mk (tp : Tok) (u : Str → Option Value) (hp : Heap) (tk : Nat) (j0 : s' = { s with heap := hp, toks := tk }) (j1 : Fr gp L1 hp (kstB u [(Str.ofString "pre", Value.int ((lcp la lb : Nat) : Int) tp), (Str.ofString "a", Value.str (mk la) ta), (Str.ofString "b", Value.str (mk lb) tb), (Str.ofString "max_cost", Value.int mx tm)])) (j2 : News gp L1 hp []) : G_v_J2 s gp L1 la lb ta tb mx tm s'
set_option autoImplicit false in
inductive G_v_J3 (s : Shared) (a2 : List Nat) (b2 : List Nat) (gp : Heap) (L1 : Addr) (mx : Int) (tm : Tok) (k : Nat) (s' : Shared) : Prop
  | mk (q : Nat) (z : Int) (tp t1 t2 : Tok) (u : Str → Option Value) (hp : Heap) (tk : Nat) (j0 : s' = { s with heap := hp, toks := tk }) (j1 : z = -(q : Int)) (j2 : q ≤ lcp a2.reverse b2.reverse) (j3 : k = lcp a2.reverse b2.reverse - q) (j4 : Fr gp L1 hp (kstB u [(Str.ofString "post", Value.int z tp), (Str.ofString "a", Value.str (mk a2) t1), (Str.ofString "b", Value.str (mk b2) t2), (Str.ofString "max_cost", Value.int mx tm)])) (j5 : News gp L1 hp []) : G_v_J3 s a2 b2 gp L1 mx tm k s'
set_option autoImplicit false in
inductive G_v_J4 (s : Shared) (a2 : List Nat) (b2 : List Nat) (gp : Heap) (L1 : Addr) (mx : Int) (tm : Tok) (s' : Shared) : Prop
  | mk (z : Int) (tp t1 t2 : Tok) (u : Str → Option Value) (hp : Heap) (tk : Nat) (j0 : s' = { s with heap := hp, toks := tk }) (j1 : z = -((lcp a2.reverse b2.reverse : Nat) : Int)) (j2 : Fr gp L1 hp (kstB u [(Str.ofString "post", Value.int z tp), (Str.ofString "a", Value.str (mk a2) t1), (Str.ofString "b", Value.str (mk b2) t2), (Str.ofString "max_cost", Value.int mx tm)])) (j3 : News gp L1 hp []) : G_v_J4 s a2 b2 gp L1 mx tm s'
set_option autoImplicit false in
inductive G_v_J5 (s : Shared) (a3 : List Nat) (b3 : List Nat) (mx : Int) (gp : Heap) (L1 : Addr) (tm : Tok) (s' : Shared) : Prop
  | mk (a4 b4 : List Nat) (t1 t2 : Tok) (u : Str → Option Value) (hp : Heap) (tk : Nat) (j0 : s' = { s with heap := hp, toks := tk }) (j1 : a4.length ≤ b4.length) (j2 : b4.length ≤ 40) (j3 : 0 < a4.length) (j4 : levS a3 b3 mx = levD a4 b4 mx) (j5 : Fr gp L1 hp (kstB u [(Str.ofString "a", Value.str (mk a4) t1), (Str.ofString "b", Value.str (mk b4) t2), (Str.ofString "max_cost", Value.int mx tm)])) (j6 : News gp L1 hp []) : G_v_J5 s a3 b3 mx gp L1 tm s'
set_option autoImplicit false in
inductive G_v_J6 (a4 : List Nat) (b4 : List Nat) (mx : Int) (tm : Tok) (i : Nat) (m : Str → Option Value) (news : List (Addr × Obj)) : Prop
  | mk (R : Addr) (us : List Value) (c : Nat) (row : List Int) (res : Int) (t1 t2 tr : Tok) (u : Str → Option Value) (j0 : m = (kstB u [(Str.ofString "a", Value.str (mk a4) t1), (Str.ofString "b", Value.str (mk b4) t2), (Str.ofString "max_cost", Value.int mx tm), (Str.ofString "row", Value.ref R), (Str.ofString "result", Value.int res tr)])) (j1 : news = [(R, listOf us.toArray c)]) (j2 : IntsAre us row) (j3 : row.length = a4.length) (j4 : stepO a4 mx (b4.drop i) i row res = stepO a4 mx b4 0 (rowOf a4.length) 0) : G_v_J6 a4 b4 mx tm i m news
set_option autoImplicit false in
inductive G_v_J7 (a4 : List Nat) (b4 : List Nat) (mx : Int) (tm : Tok) (i : Nat) (I : Addr) (row : List Int) (k : Nat) (m : Str → Option Value) (news : List (Addr × Obj)) : Prop
  | mk (R : Addr) (us : List Value) (c : Nat) (all : List Int) (dist res mn : Int) (t1 t2 tr tb td tn : Tok) (u : Str → Option Value) (j0 : m = (kstB u [(Str.ofString "a", Value.str (mk a4) t1), (Str.ofString "b", Value.str (mk b4) t2), (Str.ofString "max_cost", Value.int mx tm), (Str.ofString "row", Value.ref R), (Str.ofString "bchar", Value.str { cps := #[b4.getD i 0] } tb), (Str.ofString "distance", Value.int dist td), (Str.ofString "result", Value.int res tr), (Str.ofString "minimum", Value.int mn tn)])) (j1 : news = [(I, rgObj ((i + 1 : Nat) : Int) (b4.length : Int)), (R, listOf us.toArray c)]) (j2 : NeN R I) (j3 : IntsAre us all) (j4 : InRow (b4.getD i 0) a4 (stepI (b4.getD i 0) a4 row ((i : Int) * 2) ((i : Int) * 2) 9223372036854775807) k all dist res mn) : G_v_J7 a4 b4 mx tm i I row k m news
theorem lev_c {w : World} {loose : List Str} {mean : ExcName → Option Value} {mg mb : Str → Option Value}
  {dp un : Nat} {gd : Option (List Code)} {cn : Str} {cs : Scope} {a : Addr} {ccd : Value} {cl : List (Str × Addr)} {outer : List Env} {A₀ : Around} {base h₀ : Heap} {L : Addr} {m : Str → Option Value} {s : Shared} {Q E : Value → Shared → Prop}
  {news : List (Addr × Obj)} {xa xb : Str} {mx : Int} {ta tb tm : Tok} (ha : xa.length ≤ 40) (hb : xb.length ≤ 40) (hm : 0 ≤ mx) (hm2 : mx < 10000)
  (B : Below A₀ base outer h₀) (F : Fr h₀ L s.heap m) (X : (hd.heap_39 w.params).In h₀) (T : Top topProg loose mean mg mb h₀) (hk : cs.kind = .function) (N : News h₀ L s.heap news) (hdp : dp + 8 < recursionLimit) (hun : un + 60 < cLine)
  (ret : ∀ tr h' tk', Fr h₀ L h' m → News h₀ L h' news → Q (.int (levP xa.cps.toList xb.cps.toList mx) tr) { s with heap := h', toks := tk' }) :
  wpAny (model PySem.Challenge.rw_sc0080_01.row.prog w) (ktrTop dp un gd cn cs L a ccd cl outer) (call (.ref 153) [.str xa ta, .str xb tb, .int mx tm]) Q E s := by
  obtain ⟨la, rfl⟩ : ∃ la, xa = mk la := ⟨_, (mk_of xa).symm⟩
  obtain ⟨lb, rfl⟩ : ∃ lb, xb = mk lb := ⟨_, (mk_of xb).symm⟩
  simp only [mk_list] at ret
  rw [mk_length] at ha hb
  revert X
  k_fill
  intro X
  refine wpAny_call ?_
  k_dflt (refine' code_defL ?k1 ?k2 ?k3 ?k4 ?k5 ?kA ?kF ?kK ?k6 ?k7 ?k8 ?k9 ?kB ?_ ?c2 ?c3 ?c4 ?c5)
  case kA => exact rfl
  case kF => exact rfl
  case kK => assumption
  case k1 => k_asm
  case k2 => k_asm
  case k3 => k_asm
  case k4 => exact N
  case k5 => k_asm
  case k6 => k_is
  case k7 => k_is
  case k8 => ktr_room
  case k9 => exact BindsTo.of_eq rfl
  case c5 => decide
  case kB => exact locs rfl
  case c2 => exact rfl
  case c3 => exact rfl
  case c4 => exact rfl
  intro g1 L1 h1 FG1 F1 N1 B1 X1 T1 lw1
  refine rebaseK (ex := []) F1 N1 B1 X1 T1 (news_in N (by intro p hp; repeat' first | exact hp | refine List.Mem.tail _ ?_)) (fun p hp => lw1 p (by repeat' first | exact hp | refine List.Mem.tail _ ?_)) (List.forall_mem_nil _) ?_
  intro gp Fp Np Bp Xp Tp Ip
  clear F1 N1 B1 X1 T1 FG1
  (try dsimp only)
  (try k_lift Bp)
  (try k_fold)
  k_steps
  repeat' (refine CiStop.go ?_; (with_reducible (first | (k_here; (with_reducible show wpAny _ _ (call (Value.ref 146) _) _ _ _); k_dflt (refine' sub_c ?B ?F ?X ?T ?hk ?N ?hdp ?hun ?_; walk_at "cB"; walk_at "cE"); intro t' h' tk' F' N'; walk_at "cD") | (k_here; (with_reducible show wpAny _ _ (call (Value.type _) [Value.ref _]) _ _ _); k_dflt (refine' list_range2 rfl ?Fm ?Nm ?rm ?zm ?_; (case Fm => k_asm); (case Nm => k_asm); (case rm => assumption); (case zm => omega); k_whole); intro D' us' c' h' tk' F' N' l1 hI'; (try k_lt l1)) | (k_here; (with_reducible show wpAny _ _ (call (Value.builtin _) [Value.str (mk _) _]) _ _ _); k_dflt (refine' mk_len ?hlm ?_; (case hlm => first | omega | (simp only [List.length_drop, List.length_take]; omega)); k_whole)) | (k_here; (with_reducible show wpAny _ _ (subscriptTail _ _ (Value.str (mk _) _) (Value.int _ _)) _ _ _); first | (refine mk_itemP ?hjm ?hlm ?_; (case hjm => omega); (case hlm => first | omega | (simp only [List.length_drop, List.length_take]; omega))) | (refine mk_itemR (by assumption) ?hjm ?hlm ?_; (case hjm => omega); (case hlm => first | omega | (simp only [List.length_drop, List.length_take]; omega))); intro _ _) | (k_here; (with_reducible show wpAny _ _ (subscriptTail _ _ (Value.str (mk _) _) (Value.int _ _)) _ _ _); first | (refine mk_itemP ?hjm ?hlm ?_; (case hjm => omega); (case hlm => first | omega | (simp only [List.length_drop, List.length_take]; omega))) | (refine mk_itemR (by assumption) ?hjm ?hlm ?_; (case hjm => omega); (case hlm => first | omega | (simp only [List.length_drop, List.length_take]; omega))); intro _ _) | (k_here; (with_reducible rename Fr _ _ _ _ => F'); (with_reducible rename News _ _ _ _ => N'); first | ((with_reducible show wpAny _ _ (subscriptTail _ (Expr.Slice (some _) none none _) _ _) _ _ _); (refine mk_sn (s := ⟨_, _, _, _, _⟩) F' N' ?hlm ?hpm ?_; (case hlm => first | omega | (simp only [List.length_drop, List.length_take]; omega)); (case hpm => omega))) | ((with_reducible show wpAny _ _ (subscriptTail _ (Expr.Slice none (some _) none _) _ _) _ _ _); (refine mk_ns (s := ⟨_, _, _, _, _⟩) (by assumption) F' N' ?hlm ?hqm ?_; (case hlm => first | omega | (simp only [List.length_drop, List.length_take]; omega)); (case hqm => omega))); intro _ _ _ _ _) | (k_here; (with_reducible show wpAny _ _ (truthy (Value.str _ _)) _ _ _); (refine mk_truthy_take ?hlm ?_; (case hlm => first | omega | (simp only [List.length_drop, List.length_take]; omega)))) | (k_here; (with_reducible show wpAny _ _ (truthy (Value.str _ _)) _ _ _); (refine mk_truthy_drop ?hlm ?_; (case hlm => first | omega | (simp only [List.length_drop, List.length_take]; omega)))) | (k_here; (with_reducible show wpAny _ _ (truthy (Value.str _ _)) _ _ _); (refine mk_truthy ?hlm ?_; (case hlm => first | omega | (simp only [List.length_drop, List.length_take]; omega)))) | (k_here; (with_reducible show wpAny _ _ (eval (Expr.BoolOp BoolOp.Or [Expr.Name _ _, Expr.Constant Const.none _ _] _) _) _ _ _); refine or_none ?_))); k_steps)
  · rename News h₀ L _ news => Nt
    have e : levP la lb mx = 0 := if_pos (by (with_reducible rename (_ == _) = true => z9); rw [mk_eq] at z9; exact of_decide_eq_true z9)
    rw [e] at ret
    exact ret _ _ _ (by k_asm) Nt
  · have e : levP la lb mx = levT (la.drop (lcp la lb)) (lb.drop (lcp la lb)) mx := if_neg (by (with_reducible rename (_ == _) = false => z9); rw [mk_eq] at z9; exact of_decide_eq_false z9)
    rw [e] at ret
    have hlc := lcp_le la lb
    rename Fr gp L1 _ _ => FF
    rename News gp L1 _ _ => NN
    refine CiStop.go ?_
    refine' wh_loopE (G_v_J1 s la lb gp L1 ta tb mx tm)
      (G_v_J2 s gp L1 la lb ta tb mx tm) (n0 := lcp la lb) ?h0 ?turn ?fin ?hE
    case hE => passes_own
    case h0 => exact ⟨0, _, _, _, _, rfl, Nat.zero_le _, rfl, fr_known _ FF (List.forall_mem_cons.mpr ⟨rfl, List.forall_mem_cons.mpr ⟨rfl, List.forall_mem_cons.mpr ⟨rfl, List.forall_mem_cons.mpr ⟨rfl, List.forall_mem_nil _⟩⟩⟩⟩), NN⟩
    case turn =>
      rintro k s' ⟨p, tp, u, hp, tk, rfl, hp1, rfl, FF, NN⟩
      k_steps
      repeat' (refine CiStop.go ?_; (with_reducible (first | (k_here; (with_reducible show wpAny _ _ (call (Value.ref 146) _) _ _ _); k_dflt (refine' sub_c ?B ?F ?X ?T ?hk ?N ?hdp ?hun ?_; walk_at "cB"; walk_at "cE"); intro t' h' tk' F' N'; walk_at "cD") | (k_here; (with_reducible show wpAny _ _ (call (Value.type _) [Value.ref _]) _ _ _); k_dflt (refine' list_range2 rfl ?Fm ?Nm ?rm ?zm ?_; (case Fm => k_asm); (case Nm => k_asm); (case rm => assumption); (case zm => omega); k_whole); intro D' us' c' h' tk' F' N' l1 hI'; (try k_lt l1)) | (k_here; (with_reducible show wpAny _ _ (call (Value.builtin _) [Value.str (mk _) _]) _ _ _); k_dflt (refine' mk_len ?hlm ?_; (case hlm => first | omega | (simp only [List.length_drop, List.length_take]; omega)); k_whole)) | (k_here; (with_reducible show wpAny _ _ (subscriptTail _ _ (Value.str (mk _) _) (Value.int _ _)) _ _ _); first | (refine mk_itemP ?hjm ?hlm ?_; (case hjm => omega); (case hlm => first | omega | (simp only [List.length_drop, List.length_take]; omega))) | (refine mk_itemR (by assumption) ?hjm ?hlm ?_; (case hjm => omega); (case hlm => first | omega | (simp only [List.length_drop, List.length_take]; omega))); intro _ _) | (k_here; (with_reducible show wpAny _ _ (subscriptTail _ _ (Value.str (mk _) _) (Value.int _ _)) _ _ _); first | (refine mk_itemP ?hjm ?hlm ?_; (case hjm => omega); (case hlm => first | omega | (simp only [List.length_drop, List.length_take]; omega))) | (refine mk_itemR (by assumption) ?hjm ?hlm ?_; (case hjm => omega); (case hlm => first | omega | (simp only [List.length_drop, List.length_take]; omega))); intro _ _) | (k_here; (with_reducible rename Fr _ _ _ _ => F'); (with_reducible rename News _ _ _ _ => N'); first | ((with_reducible show wpAny _ _ (subscriptTail _ (Expr.Slice (some _) none none _) _ _) _ _ _); (refine mk_sn (s := ⟨_, _, _, _, _⟩) F' N' ?hlm ?hpm ?_; (case hlm => first | omega | (simp only [List.length_drop, List.length_take]; omega)); (case hpm => omega))) | ((with_reducible show wpAny _ _ (subscriptTail _ (Expr.Slice none (some _) none _) _ _) _ _ _); (refine mk_ns (s := ⟨_, _, _, _, _⟩) (by assumption) F' N' ?hlm ?hqm ?_; (case hlm => first | omega | (simp only [List.length_drop, List.length_take]; omega)); (case hqm => omega))); intro _ _ _ _ _) | (k_here; (with_reducible show wpAny _ _ (truthy (Value.str _ _)) _ _ _); (refine mk_truthy_take ?hlm ?_; (case hlm => first | omega | (simp only [List.length_drop, List.length_take]; omega)))) | (k_here; (with_reducible show wpAny _ _ (truthy (Value.str _ _)) _ _ _); (refine mk_truthy_drop ?hlm ?_; (case hlm => first | omega | (simp only [List.length_drop, List.length_take]; omega)))) | (k_here; (with_reducible show wpAny _ _ (truthy (Value.str _ _)) _ _ _); (refine mk_truthy ?hlm ?_; (case hlm => first | omega | (simp only [List.length_drop, List.length_take]; omega)))) | (k_here; (with_reducible show wpAny _ _ (eval (Expr.BoolOp BoolOp.Or [Expr.Name _ _, Expr.Constant Const.none _ _] _) _) _ _ _); refine or_none ?_))); k_steps)
      all_goals
        rename Fr gp L1 _ _ => FF
        rename News gp L1 _ _ => NN
        refine CiStop.go ?_
        first
        | ((with_reducible rename (_ == _) = true => z9); rw [one_eq] at z9; have z8 := lcp_step la lb p hp1 (by assumption) (by assumption) (of_decide_eq_true z9); exact ⟨lcp la lb - (p + 1), by omega, p + 1, _, _, _, _, rfl, z8, rfl, fr_known _ FF (List.forall_mem_cons.mpr ⟨rfl, List.forall_mem_cons.mpr ⟨rfl, List.forall_mem_cons.mpr ⟨rfl, List.forall_mem_cons.mpr ⟨rfl, List.forall_mem_nil _⟩⟩⟩⟩), NN⟩)
        | ((with_reducible rename (_ == _) = false => z9); rw [one_eq] at z9; obtain rfl : lcp la lb = p := lcp_stop la lb p hp1 (by assumption) (by assumption) (of_decide_eq_false z9); exact ⟨_, _, _, _, rfl, FF, NN⟩)
        | (obtain rfl : lcp la lb = p := (by omega); exact ⟨_, _, _, _, rfl, FF, NN⟩)
    case fin =>
      clear FF NN
      rintro s' ⟨tp, u, hp, tk, rfl, FF, NN⟩
      (try dsimp only)
      k_steps
      repeat' (refine CiStop.go ?_; (with_reducible (first | (k_here; (with_reducible show wpAny _ _ (call (Value.ref 146) _) _ _ _); k_dflt (refine' sub_c ?B ?F ?X ?T ?hk ?N ?hdp ?hun ?_; walk_at "cB"; walk_at "cE"); intro t' h' tk' F' N'; walk_at "cD") | (k_here; (with_reducible show wpAny _ _ (call (Value.type _) [Value.ref _]) _ _ _); k_dflt (refine' list_range2 rfl ?Fm ?Nm ?rm ?zm ?_; (case Fm => k_asm); (case Nm => k_asm); (case rm => assumption); (case zm => omega); k_whole); intro D' us' c' h' tk' F' N' l1 hI'; (try k_lt l1)) | (k_here; (with_reducible show wpAny _ _ (call (Value.builtin _) [Value.str (mk _) _]) _ _ _); k_dflt (refine' mk_len ?hlm ?_; (case hlm => first | omega | (simp only [List.length_drop, List.length_take]; omega)); k_whole)) | (k_here; (with_reducible show wpAny _ _ (subscriptTail _ _ (Value.str (mk _) _) (Value.int _ _)) _ _ _); first | (refine mk_itemP ?hjm ?hlm ?_; (case hjm => omega); (case hlm => first | omega | (simp only [List.length_drop, List.length_take]; omega))) | (refine mk_itemR (by assumption) ?hjm ?hlm ?_; (case hjm => omega); (case hlm => first | omega | (simp only [List.length_drop, List.length_take]; omega))); intro _ _) | (k_here; (with_reducible show wpAny _ _ (subscriptTail _ _ (Value.str (mk _) _) (Value.int _ _)) _ _ _); first | (refine mk_itemP ?hjm ?hlm ?_; (case hjm => omega); (case hlm => first | omega | (simp only [List.length_drop, List.length_take]; omega))) | (refine mk_itemR (by assumption) ?hjm ?hlm ?_; (case hjm => omega); (case hlm => first | omega | (simp only [List.length_drop, List.length_take]; omega))); intro _ _) | (k_here; (with_reducible rename Fr _ _ _ _ => F'); (with_reducible rename News _ _ _ _ => N'); first | ((with_reducible show wpAny _ _ (subscriptTail _ (Expr.Slice (some _) none none _) _ _) _ _ _); (refine mk_sn (s := ⟨_, _, _, _, _⟩) F' N' ?hlm ?hpm ?_; (case hlm => first | omega | (simp only [List.length_drop, List.length_take]; omega)); (case hpm => omega))) | ((with_reducible show wpAny _ _ (subscriptTail _ (Expr.Slice none (some _) none _) _ _) _ _ _); (refine mk_ns (s := ⟨_, _, _, _, _⟩) (by assumption) F' N' ?hlm ?hqm ?_; (case hlm => first | omega | (simp only [List.length_drop, List.length_take]; omega)); (case hqm => omega))); intro _ _ _ _ _) | (k_here; (with_reducible show wpAny _ _ (truthy (Value.str _ _)) _ _ _); (refine mk_truthy_take ?hlm ?_; (case hlm => first | omega | (simp only [List.length_drop, List.length_take]; omega)))) | (k_here; (with_reducible show wpAny _ _ (truthy (Value.str _ _)) _ _ _); (refine mk_truthy_drop ?hlm ?_; (case hlm => first | omega | (simp only [List.length_drop, List.length_take]; omega)))) | (k_here; (with_reducible show wpAny _ _ (truthy (Value.str _ _)) _ _ _); (refine mk_truthy ?hlm ?_; (case hlm => first | omega | (simp only [List.length_drop, List.length_take]; omega)))) | (k_here; (with_reducible show wpAny _ _ (eval (Expr.BoolOp BoolOp.Or [Expr.Name _ _, Expr.Constant Const.none _ _] _) _) _ _ _); refine or_none ?_))); k_steps)
      rename Fr gp L1 _ _ => FF
      rename News gp L1 _ _ => NN
      have hA : (la.drop (lcp la lb)).length ≤ 40 := by rw [List.length_drop]; omega
      have hB : (lb.drop (lcp la lb)).length ≤ 40 := by rw [List.length_drop]; omega
      clear e hlc
      generalize la.drop (lcp la lb) = a2 at ret FF hA
      generalize lb.drop (lcp la lb) = b2 at ret FF hB
      refine CiStop.go ?_
      have hlc := lcp_le a2.reverse b2.reverse
      rw [List.length_reverse, List.length_reverse] at hlc
      refine' wh_loopE (G_v_J3 s a2 b2 gp L1 mx tm)
        (G_v_J4 s a2 b2 gp L1 mx tm) (n0 := lcp a2.reverse b2.reverse) ?h0 ?turn ?fin ?hE
      case hE => passes_own
      case h0 => exact ⟨0, 0, _, _, _, _, _, _, rfl, rfl, Nat.zero_le _, rfl, fr_known _ FF (List.forall_mem_cons.mpr ⟨rfl, List.forall_mem_cons.mpr ⟨rfl, List.forall_mem_cons.mpr ⟨rfl, List.forall_mem_cons.mpr ⟨rfl, List.forall_mem_nil _⟩⟩⟩⟩), NN⟩
      case turn =>
        clear FF NN
        rintro k s' ⟨q, z, tp, t1, t2, u, hp, tk, rfl, hz, hq1, rfl, FF, NN⟩
        k_steps
        repeat' (refine CiStop.go ?_; (with_reducible (first | (k_here; (with_reducible show wpAny _ _ (call (Value.ref 146) _) _ _ _); k_dflt (refine' sub_c ?B ?F ?X ?T ?hk ?N ?hdp ?hun ?_; walk_at "cB"; walk_at "cE"); intro t' h' tk' F' N'; walk_at "cD") | (k_here; (with_reducible show wpAny _ _ (call (Value.type _) [Value.ref _]) _ _ _); k_dflt (refine' list_range2 rfl ?Fm ?Nm ?rm ?zm ?_; (case Fm => k_asm); (case Nm => k_asm); (case rm => assumption); (case zm => omega); k_whole); intro D' us' c' h' tk' F' N' l1 hI'; (try k_lt l1)) | (k_here; (with_reducible show wpAny _ _ (call (Value.builtin _) [Value.str (mk _) _]) _ _ _); k_dflt (refine' mk_len ?hlm ?_; (case hlm => first | omega | (simp only [List.length_drop, List.length_take]; omega)); k_whole)) | (k_here; (with_reducible show wpAny _ _ (subscriptTail _ _ (Value.str (mk _) _) (Value.int _ _)) _ _ _); first | (refine mk_itemP ?hjm ?hlm ?_; (case hjm => omega); (case hlm => first | omega | (simp only [List.length_drop, List.length_take]; omega))) | (refine mk_itemR (by assumption) ?hjm ?hlm ?_; (case hjm => omega); (case hlm => first | omega | (simp only [List.length_drop, List.length_take]; omega))); intro _ _) | (k_here; (with_reducible show wpAny _ _ (subscriptTail _ _ (Value.str (mk _) _) (Value.int _ _)) _ _ _); first | (refine mk_itemP ?hjm ?hlm ?_; (case hjm => omega); (case hlm => first | omega | (simp only [List.length_drop, List.length_take]; omega))) | (refine mk_itemR (by assumption) ?hjm ?hlm ?_; (case hjm => omega); (case hlm => first | omega | (simp only [List.length_drop, List.length_take]; omega))); intro _ _) | (k_here; (with_reducible rename Fr _ _ _ _ => F'); (with_reducible rename News _ _ _ _ => N'); first | ((with_reducible show wpAny _ _ (subscriptTail _ (Expr.Slice (some _) none none _) _ _) _ _ _); (refine mk_sn (s := ⟨_, _, _, _, _⟩) F' N' ?hlm ?hpm ?_; (case hlm => first | omega | (simp only [List.length_drop, List.length_take]; omega)); (case hpm => omega))) | ((with_reducible show wpAny _ _ (subscriptTail _ (Expr.Slice none (some _) none _) _ _) _ _ _); (refine mk_ns (s := ⟨_, _, _, _, _⟩) (by assumption) F' N' ?hlm ?hqm ?_; (case hlm => first | omega | (simp only [List.length_drop, List.length_take]; omega)); (case hqm => omega))); intro _ _ _ _ _) | (k_here; (with_reducible show wpAny _ _ (truthy (Value.str _ _)) _ _ _); (refine mk_truthy_take ?hlm ?_; (case hlm => first | omega | (simp only [List.length_drop, List.length_take]; omega)))) | (k_here; (with_reducible show wpAny _ _ (truthy (Value.str _ _)) _ _ _); (refine mk_truthy_drop ?hlm ?_; (case hlm => first | omega | (simp only [List.length_drop, List.length_take]; omega)))) | (k_here; (with_reducible show wpAny _ _ (truthy (Value.str _ _)) _ _ _); (refine mk_truthy ?hlm ?_; (case hlm => first | omega | (simp only [List.length_drop, List.length_take]; omega)))) | (k_here; (with_reducible show wpAny _ _ (eval (Expr.BoolOp BoolOp.Or [Expr.Name _ _, Expr.Constant Const.none _ _] _) _) _ _ _); refine or_none ?_))); k_steps)
        all_goals
          rename Fr gp L1 _ _ => FF
          rename News gp L1 _ _ => NN
          refine CiStop.go ?_
          first
          | ((with_reducible rename (_ == _) = true => z9); rw [one_eq] at z9; have z8 := lcp_step a2.reverse b2.reverse q hq1 (by rw [List.length_reverse]; assumption) (by rw [List.length_reverse]; assumption) (of_decide_eq_true z9); exact ⟨lcp a2.reverse b2.reverse - (q + 1), by omega, q + 1, z - 1, _, _, _, _, _, _, rfl, by omega, z8, rfl, fr_known _ FF (List.forall_mem_cons.mpr ⟨rfl, List.forall_mem_cons.mpr ⟨rfl, List.forall_mem_cons.mpr ⟨rfl, List.forall_mem_cons.mpr ⟨rfl, List.forall_mem_nil _⟩⟩⟩⟩), NN⟩)
          | ((with_reducible rename (_ == _) = false => z9); rw [one_eq] at z9; obtain rfl : lcp a2.reverse b2.reverse = q := lcp_stop a2.reverse b2.reverse q hq1 (by rw [List.length_reverse]; assumption) (by rw [List.length_reverse]; assumption) (of_decide_eq_false z9); exact ⟨_, _, _, _, _, _, _, rfl, hz, FF, NN⟩)
          | (obtain rfl : lcp a2.reverse b2.reverse = q := (by omega); exact ⟨_, _, _, _, _, _, _, rfl, hz, FF, NN⟩)
      case fin =>
        clear FF NN
        rintro s' ⟨z, tp, t1, t2, u, hp, tk, rfl, hz, FF, NN⟩
        (try dsimp only)
        have hAz : (a2.take (a2.length - lcp a2.reverse b2.reverse)).length ≤ 40 := by rw [List.length_take]; omega
        have hBz : (b2.take (b2.length - lcp a2.reverse b2.reverse)).length ≤ 40 := by rw [List.length_take]; omega
        k_steps
        repeat' (refine CiStop.go ?_; (with_reducible (first | (k_here; (with_reducible show wpAny _ _ (call (Value.ref 146) _) _ _ _); k_dflt (refine' sub_c ?B ?F ?X ?T ?hk ?N ?hdp ?hun ?_; walk_at "cB"; walk_at "cE"); intro t' h' tk' F' N'; walk_at "cD") | (k_here; (with_reducible show wpAny _ _ (call (Value.type _) [Value.ref _]) _ _ _); k_dflt (refine' list_range2 rfl ?Fm ?Nm ?rm ?zm ?_; (case Fm => k_asm); (case Nm => k_asm); (case rm => assumption); (case zm => omega); k_whole); intro D' us' c' h' tk' F' N' l1 hI'; (try k_lt l1)) | (k_here; (with_reducible show wpAny _ _ (call (Value.builtin _) [Value.str (mk _) _]) _ _ _); k_dflt (refine' mk_len ?hlm ?_; (case hlm => first | omega | (simp only [List.length_drop, List.length_take]; omega)); k_whole)) | (k_here; (with_reducible show wpAny _ _ (subscriptTail _ _ (Value.str (mk _) _) (Value.int _ _)) _ _ _); first | (refine mk_itemP ?hjm ?hlm ?_; (case hjm => omega); (case hlm => first | omega | (simp only [List.length_drop, List.length_take]; omega))) | (refine mk_itemR (by assumption) ?hjm ?hlm ?_; (case hjm => omega); (case hlm => first | omega | (simp only [List.length_drop, List.length_take]; omega))); intro _ _) | (k_here; (with_reducible show wpAny _ _ (subscriptTail _ _ (Value.str (mk _) _) (Value.int _ _)) _ _ _); first | (refine mk_itemP ?hjm ?hlm ?_; (case hjm => omega); (case hlm => first | omega | (simp only [List.length_drop, List.length_take]; omega))) | (refine mk_itemR (by assumption) ?hjm ?hlm ?_; (case hjm => omega); (case hlm => first | omega | (simp only [List.length_drop, List.length_take]; omega))); intro _ _) | (k_here; (with_reducible rename Fr _ _ _ _ => F'); (with_reducible rename News _ _ _ _ => N'); first | ((with_reducible show wpAny _ _ (subscriptTail _ (Expr.Slice (some _) none none _) _ _) _ _ _); (refine mk_sn (s := ⟨_, _, _, _, _⟩) F' N' ?hlm ?hpm ?_; (case hlm => first | omega | (simp only [List.length_drop, List.length_take]; omega)); (case hpm => omega))) | ((with_reducible show wpAny _ _ (subscriptTail _ (Expr.Slice none (some _) none _) _ _) _ _ _); (refine mk_ns (s := ⟨_, _, _, _, _⟩) (by assumption) F' N' ?hlm ?hqm ?_; (case hlm => first | omega | (simp only [List.length_drop, List.length_take]; omega)); (case hqm => omega))); intro _ _ _ _ _) | (k_here; (with_reducible show wpAny _ _ (truthy (Value.str _ _)) _ _ _); (refine mk_truthy_take ?hlm ?_; (case hlm => first | omega | (simp only [List.length_drop, List.length_take]; omega)))) | (k_here; (with_reducible show wpAny _ _ (truthy (Value.str _ _)) _ _ _); (refine mk_truthy_drop ?hlm ?_; (case hlm => first | omega | (simp only [List.length_drop, List.length_take]; omega)))) | (k_here; (with_reducible show wpAny _ _ (truthy (Value.str _ _)) _ _ _); (refine mk_truthy ?hlm ?_; (case hlm => first | omega | (simp only [List.length_drop, List.length_take]; omega)))) | (k_here; (with_reducible show wpAny _ _ (eval (Expr.BoolOp BoolOp.Or [Expr.Name _ _, Expr.Constant Const.none _ _] _) _) _ _ _); refine or_none ?_))); k_steps)
        all_goals first
          | (rename News h₀ L _ news => Nt
             have e : levT a2 b2 mx = 2 * (((a2.take (a2.length - lcp a2.reverse b2.reverse)).length : Int) + ((b2.take (b2.length - lcp a2.reverse b2.reverse)).length : Int)) := if_pos (by first | exact .inl (List.eq_nil_of_length_eq_zero (by rw [List.length_take]; omega)) | exact .inr (List.eq_nil_of_length_eq_zero (by rw [List.length_take]; omega)))
             rw [e] at ret
             exact ret _ _ _ (by k_asm) Nt)
          | skip
        rename Fr gp L1 _ _ => FF
        rename News gp L1 _ _ => NN
        have hA0 : 0 < (a2.take (a2.length - lcp a2.reverse b2.reverse)).length := by rw [List.length_take]; omega
        have hB0 : 0 < (b2.take (b2.length - lcp a2.reverse b2.reverse)).length := by rw [List.length_take]; omega
        have e : levT a2 b2 mx = levS (a2.take (a2.length - lcp a2.reverse b2.reverse)) (b2.take (b2.length - lcp a2.reverse b2.reverse)) mx := rfl
        rw [e] at ret
        clear e
        generalize (a2.take (a2.length - lcp a2.reverse b2.reverse)) = a3 at ret FF hAz hA0
        generalize (b2.take (b2.length - lcp a2.reverse b2.reverse)) = b3 at ret FF hBz hB0
        refine CiStop.go ?_
        refine' exec_cut (G_v_J5 s a3 b3 mx gp L1 tm) ?hx ?fin
        case hx =>
          refine wpAny_If ?_
          k_steps
          repeat' (refine CiStop.go ?_; (with_reducible (first | (k_here; (with_reducible show wpAny _ _ (call (Value.ref 146) _) _ _ _); k_dflt (refine' sub_c ?B ?F ?X ?T ?hk ?N ?hdp ?hun ?_; walk_at "cB"; walk_at "cE"); intro t' h' tk' F' N'; walk_at "cD") | (k_here; (with_reducible show wpAny _ _ (call (Value.type _) [Value.ref _]) _ _ _); k_dflt (refine' list_range2 rfl ?Fm ?Nm ?rm ?zm ?_; (case Fm => k_asm); (case Nm => k_asm); (case rm => assumption); (case zm => omega); k_whole); intro D' us' c' h' tk' F' N' l1 hI'; (try k_lt l1)) | (k_here; (with_reducible show wpAny _ _ (call (Value.builtin _) [Value.str (mk _) _]) _ _ _); k_dflt (refine' mk_len ?hlm ?_; (case hlm => first | omega | (simp only [List.length_drop, List.length_take]; omega)); k_whole)) | (k_here; (with_reducible show wpAny _ _ (subscriptTail _ _ (Value.str (mk _) _) (Value.int _ _)) _ _ _); first | (refine mk_itemP ?hjm ?hlm ?_; (case hjm => omega); (case hlm => first | omega | (simp only [List.length_drop, List.length_take]; omega))) | (refine mk_itemR (by assumption) ?hjm ?hlm ?_; (case hjm => omega); (case hlm => first | omega | (simp only [List.length_drop, List.length_take]; omega))); intro _ _) | (k_here; (with_reducible show wpAny _ _ (subscriptTail _ _ (Value.str (mk _) _) (Value.int _ _)) _ _ _); first | (refine mk_itemP ?hjm ?hlm ?_; (case hjm => omega); (case hlm => first | omega | (simp only [List.length_drop, List.length_take]; omega))) | (refine mk_itemR (by assumption) ?hjm ?hlm ?_; (case hjm => omega); (case hlm => first | omega | (simp only [List.length_drop, List.length_take]; omega))); intro _ _) | (k_here; (with_reducible rename Fr _ _ _ _ => F'); (with_reducible rename News _ _ _ _ => N'); first | ((with_reducible show wpAny _ _ (subscriptTail _ (Expr.Slice (some _) none none _) _ _) _ _ _); (refine mk_sn (s := ⟨_, _, _, _, _⟩) F' N' ?hlm ?hpm ?_; (case hlm => first | omega | (simp only [List.length_drop, List.length_take]; omega)); (case hpm => omega))) | ((with_reducible show wpAny _ _ (subscriptTail _ (Expr.Slice none (some _) none _) _ _) _ _ _); (refine mk_ns (s := ⟨_, _, _, _, _⟩) (by assumption) F' N' ?hlm ?hqm ?_; (case hlm => first | omega | (simp only [List.length_drop, List.length_take]; omega)); (case hqm => omega))); intro _ _ _ _ _) | (k_here; (with_reducible show wpAny _ _ (truthy (Value.str _ _)) _ _ _); (refine mk_truthy_take ?hlm ?_; (case hlm => first | omega | (simp only [List.length_drop, List.length_take]; omega)))) | (k_here; (with_reducible show wpAny _ _ (truthy (Value.str _ _)) _ _ _); (refine mk_truthy_drop ?hlm ?_; (case hlm => first | omega | (simp only [List.length_drop, List.length_take]; omega)))) | (k_here; (with_reducible show wpAny _ _ (truthy (Value.str _ _)) _ _ _); (refine mk_truthy ?hlm ?_; (case hlm => first | omega | (simp only [List.length_drop, List.length_take]; omega)))) | (k_here; (with_reducible show wpAny _ _ (eval (Expr.BoolOp BoolOp.Or [Expr.Name _ _, Expr.Constant Const.none _ _] _) _) _ _ _); refine or_none ?_))); k_steps)
          all_goals
            rename Fr gp L1 _ _ => FF
            rename News gp L1 _ _ => NN
            refine CiStop.go ?_
            first
            | exact ⟨b3, a3, _, _, _, _, _, rfl, by omega, hAz, hB0, levS_swap hA0 hB0 (by omega), fr_known _ FF (List.forall_mem_cons.mpr ⟨rfl, List.forall_mem_cons.mpr ⟨rfl, List.forall_mem_cons.mpr ⟨rfl, List.forall_mem_nil _⟩⟩⟩), News.nil⟩
            | exact ⟨a3, b3, _, _, _, _, _, rfl, by omega, hBz, hA0, levS_stay hA0 hB0 (by omega), fr_known _ FF (List.forall_mem_cons.mpr ⟨rfl, List.forall_mem_cons.mpr ⟨rfl, List.forall_mem_cons.mpr ⟨rfl, List.forall_mem_nil _⟩⟩⟩), News.nil⟩
        case fin =>
          clear FF NN
          rintro s' ⟨a4, b4, t1, t2, u, hp, tk, rfl, hab, hb4, ha4, hlev, FF, NN⟩
          rw [hlev] at ret
          (try dsimp only)
          k_steps
          repeat' (refine CiStop.go ?_; (with_reducible (first | (k_here; (with_reducible show wpAny _ _ (call (Value.ref 146) _) _ _ _); k_dflt (refine' sub_c ?B ?F ?X ?T ?hk ?N ?hdp ?hun ?_; walk_at "cB"; walk_at "cE"); intro t' h' tk' F' N'; walk_at "cD") | (k_here; (with_reducible show wpAny _ _ (call (Value.type _) [Value.ref _]) _ _ _); k_dflt (refine' list_range2 rfl ?Fm ?Nm ?rm ?zm ?_; (case Fm => k_asm); (case Nm => k_asm); (case rm => assumption); (case zm => omega); k_whole); intro D' us' c' h' tk' F' N' l1 hI'; (try k_lt l1)) | (k_here; (with_reducible show wpAny _ _ (call (Value.builtin _) [Value.str (mk _) _]) _ _ _); k_dflt (refine' mk_len ?hlm ?_; (case hlm => first | omega | (simp only [List.length_drop, List.length_take]; omega)); k_whole)) | (k_here; (with_reducible show wpAny _ _ (subscriptTail _ _ (Value.str (mk _) _) (Value.int _ _)) _ _ _); first | (refine mk_itemP ?hjm ?hlm ?_; (case hjm => omega); (case hlm => first | omega | (simp only [List.length_drop, List.length_take]; omega))) | (refine mk_itemR (by assumption) ?hjm ?hlm ?_; (case hjm => omega); (case hlm => first | omega | (simp only [List.length_drop, List.length_take]; omega))); intro _ _) | (k_here; (with_reducible show wpAny _ _ (subscriptTail _ _ (Value.str (mk _) _) (Value.int _ _)) _ _ _); first | (refine mk_itemP ?hjm ?hlm ?_; (case hjm => omega); (case hlm => first | omega | (simp only [List.length_drop, List.length_take]; omega))) | (refine mk_itemR (by assumption) ?hjm ?hlm ?_; (case hjm => omega); (case hlm => first | omega | (simp only [List.length_drop, List.length_take]; omega))); intro _ _) | (k_here; (with_reducible rename Fr _ _ _ _ => F'); (with_reducible rename News _ _ _ _ => N'); first | ((with_reducible show wpAny _ _ (subscriptTail _ (Expr.Slice (some _) none none _) _ _) _ _ _); (refine mk_sn (s := ⟨_, _, _, _, _⟩) F' N' ?hlm ?hpm ?_; (case hlm => first | omega | (simp only [List.length_drop, List.length_take]; omega)); (case hpm => omega))) | ((with_reducible show wpAny _ _ (subscriptTail _ (Expr.Slice none (some _) none _) _ _) _ _ _); (refine mk_ns (s := ⟨_, _, _, _, _⟩) (by assumption) F' N' ?hlm ?hqm ?_; (case hlm => first | omega | (simp only [List.length_drop, List.length_take]; omega)); (case hqm => omega))); intro _ _ _ _ _) | (k_here; (with_reducible show wpAny _ _ (truthy (Value.str _ _)) _ _ _); (refine mk_truthy_take ?hlm ?_; (case hlm => first | omega | (simp only [List.length_drop, List.length_take]; omega)))) | (k_here; (with_reducible show wpAny _ _ (truthy (Value.str _ _)) _ _ _); (refine mk_truthy_drop ?hlm ?_; (case hlm => first | omega | (simp only [List.length_drop, List.length_take]; omega)))) | (k_here; (with_reducible show wpAny _ _ (truthy (Value.str _ _)) _ _ _); (refine mk_truthy ?hlm ?_; (case hlm => first | omega | (simp only [List.length_drop, List.length_take]; omega)))) | (k_here; (with_reducible show wpAny _ _ (eval (Expr.BoolOp BoolOp.Or [Expr.Name _ _, Expr.Constant Const.none _ _] _) _) _ _ _); refine or_none ?_))); k_steps)
          · rename News h₀ L _ news => Nt
            have e : levD a4 b4 mx = mx + 1 := if_pos (by omega)
            rw [e] at ret
            exact ret _ _ _ (by k_asm) Nt
          · have e : levD a4 b4 mx = stepO a4 mx b4 0 (rowOf a4.length) 0 := if_neg (by omega)
            rw [e] at ret
            rename Fr gp L1 _ _ => FF
            rename News gp L1 _ _ => NN
            (with_reducible rename IntsAre _ (rowOf _) => hI)
            refine CiStop.go ?_
            refine' rg_for (h₀ := gp) (L := L1) (n := b4.length) (G_v_J6 a4 b4 mx tm) rfl ?ev ?turn ?done ?hs ?hE
            case hs => intro _; rfl
            case hE => passes_own
            case ev =>
              k_steps
              repeat' (refine CiStop.go ?_; (with_reducible (first | (k_here; (with_reducible show wpAny _ _ (call (Value.ref 146) _) _ _ _); k_dflt (refine' sub_c ?B ?F ?X ?T ?hk ?N ?hdp ?hun ?_; walk_at "cB"; walk_at "cE"); intro t' h' tk' F' N'; walk_at "cD") | (k_here; (with_reducible show wpAny _ _ (call (Value.type _) [Value.ref _]) _ _ _); k_dflt (refine' list_range2 rfl ?Fm ?Nm ?rm ?zm ?_; (case Fm => k_asm); (case Nm => k_asm); (case rm => assumption); (case zm => omega); k_whole); intro D' us' c' h' tk' F' N' l1 hI'; (try k_lt l1)) | (k_here; (with_reducible show wpAny _ _ (call (Value.builtin _) [Value.str (mk _) _]) _ _ _); k_dflt (refine' mk_len ?hlm ?_; (case hlm => first | omega | (simp only [List.length_drop, List.length_take]; omega)); k_whole)) | (k_here; (with_reducible show wpAny _ _ (subscriptTail _ _ (Value.str (mk _) _) (Value.int _ _)) _ _ _); first | (refine mk_itemP ?hjm ?hlm ?_; (case hjm => omega); (case hlm => first | omega | (simp only [List.length_drop, List.length_take]; omega))) | (refine mk_itemR (by assumption) ?hjm ?hlm ?_; (case hjm => omega); (case hlm => first | omega | (simp only [List.length_drop, List.length_take]; omega))); intro _ _) | (k_here; (with_reducible show wpAny _ _ (subscriptTail _ _ (Value.str (mk _) _) (Value.int _ _)) _ _ _); first | (refine mk_itemP ?hjm ?hlm ?_; (case hjm => omega); (case hlm => first | omega | (simp only [List.length_drop, List.length_take]; omega))) | (refine mk_itemR (by assumption) ?hjm ?hlm ?_; (case hjm => omega); (case hlm => first | omega | (simp only [List.length_drop, List.length_take]; omega))); intro _ _) | (k_here; (with_reducible rename Fr _ _ _ _ => F'); (with_reducible rename News _ _ _ _ => N'); first | ((with_reducible show wpAny _ _ (subscriptTail _ (Expr.Slice (some _) none none _) _ _) _ _ _); (refine mk_sn (s := ⟨_, _, _, _, _⟩) F' N' ?hlm ?hpm ?_; (case hlm => first | omega | (simp only [List.length_drop, List.length_take]; omega)); (case hpm => omega))) | ((with_reducible show wpAny _ _ (subscriptTail _ (Expr.Slice none (some _) none _) _ _) _ _ _); (refine mk_ns (s := ⟨_, _, _, _, _⟩) (by assumption) F' N' ?hlm ?hqm ?_; (case hlm => first | omega | (simp only [List.length_drop, List.length_take]; omega)); (case hqm => omega))); intro _ _ _ _ _) | (k_here; (with_reducible show wpAny _ _ (truthy (Value.str _ _)) _ _ _); (refine mk_truthy_take ?hlm ?_; (case hlm => first | omega | (simp only [List.length_drop, List.length_take]; omega)))) | (k_here; (with_reducible show wpAny _ _ (truthy (Value.str _ _)) _ _ _); (refine mk_truthy_drop ?hlm ?_; (case hlm => first | omega | (simp only [List.length_drop, List.length_take]; omega)))) | (k_here; (with_reducible show wpAny _ _ (truthy (Value.str _ _)) _ _ _); (refine mk_truthy ?hlm ?_; (case hlm => first | omega | (simp only [List.length_drop, List.length_take]; omega)))) | (k_here; (with_reducible show wpAny _ _ (eval (Expr.BoolOp BoolOp.Or [Expr.Name _ _, Expr.Constant Const.none _ _] _) _) _ _ _); refine or_none ?_))); k_steps)
              rename Fr gp L1 _ _ => FF
              rename News gp L1 _ _ => NN
              (with_reducible rename IsRange _ _ 0 _ _ _ _ _ => hr)
              refine CiStop.go ⟨_, _, _, _, _, _, _, _, rfl, rfl, hr, by omega, fr_known _ FF (List.forall_mem_cons.mpr ⟨rfl, List.forall_mem_cons.mpr ⟨rfl, List.forall_mem_cons.mpr ⟨rfl, List.forall_mem_cons.mpr ⟨rfl, List.forall_mem_cons.mpr ⟨rfl, List.forall_mem_nil _⟩⟩⟩⟩⟩), NN, _, _, _, _, _, _, _, _, _, rfl, rfl, hI, ?_, ?_⟩
              · unfold rowOf; simp
              · rfl
            case done =>
              rintro h' tk m news ⟨R, us, c, row, res, t1, t2, tr, u, rfl, rfl, hI, hrl, hV⟩ FF NN
              have e : stepO a4 mx b4 0 (rowOf a4.length) 0 = res := by rw [← hV, List.drop_length]; rfl
              rw [e] at ret
              (try dsimp only)
              k_steps
              repeat' (refine CiStop.go ?_; (with_reducible (first | (k_here; (with_reducible show wpAny _ _ (call (Value.ref 146) _) _ _ _); k_dflt (refine' sub_c ?B ?F ?X ?T ?hk ?N ?hdp ?hun ?_; walk_at "cB"; walk_at "cE"); intro t' h' tk' F' N'; walk_at "cD") | (k_here; (with_reducible show wpAny _ _ (call (Value.type _) [Value.ref _]) _ _ _); k_dflt (refine' list_range2 rfl ?Fm ?Nm ?rm ?zm ?_; (case Fm => k_asm); (case Nm => k_asm); (case rm => assumption); (case zm => omega); k_whole); intro D' us' c' h' tk' F' N' l1 hI'; (try k_lt l1)) | (k_here; (with_reducible show wpAny _ _ (call (Value.builtin _) [Value.str (mk _) _]) _ _ _); k_dflt (refine' mk_len ?hlm ?_; (case hlm => first | omega | (simp only [List.length_drop, List.length_take]; omega)); k_whole)) | (k_here; (with_reducible show wpAny _ _ (subscriptTail _ _ (Value.str (mk _) _) (Value.int _ _)) _ _ _); first | (refine mk_itemP ?hjm ?hlm ?_; (case hjm => omega); (case hlm => first | omega | (simp only [List.length_drop, List.length_take]; omega))) | (refine mk_itemR (by assumption) ?hjm ?hlm ?_; (case hjm => omega); (case hlm => first | omega | (simp only [List.length_drop, List.length_take]; omega))); intro _ _) | (k_here; (with_reducible show wpAny _ _ (subscriptTail _ _ (Value.str (mk _) _) (Value.int _ _)) _ _ _); first | (refine mk_itemP ?hjm ?hlm ?_; (case hjm => omega); (case hlm => first | omega | (simp only [List.length_drop, List.length_take]; omega))) | (refine mk_itemR (by assumption) ?hjm ?hlm ?_; (case hjm => omega); (case hlm => first | omega | (simp only [List.length_drop, List.length_take]; omega))); intro _ _) | (k_here; (with_reducible rename Fr _ _ _ _ => F'); (with_reducible rename News _ _ _ _ => N'); first | ((with_reducible show wpAny _ _ (subscriptTail _ (Expr.Slice (some _) none none _) _ _) _ _ _); (refine mk_sn (s := ⟨_, _, _, _, _⟩) F' N' ?hlm ?hpm ?_; (case hlm => first | omega | (simp only [List.length_drop, List.length_take]; omega)); (case hpm => omega))) | ((with_reducible show wpAny _ _ (subscriptTail _ (Expr.Slice none (some _) none _) _ _) _ _ _); (refine mk_ns (s := ⟨_, _, _, _, _⟩) (by assumption) F' N' ?hlm ?hqm ?_; (case hlm => first | omega | (simp only [List.length_drop, List.length_take]; omega)); (case hqm => omega))); intro _ _ _ _ _) | (k_here; (with_reducible show wpAny _ _ (truthy (Value.str _ _)) _ _ _); (refine mk_truthy_take ?hlm ?_; (case hlm => first | omega | (simp only [List.length_drop, List.length_take]; omega)))) | (k_here; (with_reducible show wpAny _ _ (truthy (Value.str _ _)) _ _ _); (refine mk_truthy_drop ?hlm ?_; (case hlm => first | omega | (simp only [List.length_drop, List.length_take]; omega)))) | (k_here; (with_reducible show wpAny _ _ (truthy (Value.str _ _)) _ _ _); (refine mk_truthy ?hlm ?_; (case hlm => first | omega | (simp only [List.length_drop, List.length_take]; omega)))) | (k_here; (with_reducible show wpAny _ _ (eval (Expr.BoolOp BoolOp.Or [Expr.Name _ _, Expr.Constant Const.none _ _] _) _) _ _ _); refine or_none ?_))); k_steps)
              rename News h₀ L _ news => Nt
              exact ret _ _ _ (by k_asm) Nt
            case turn =>
              clear FF NN hI
              rintro i I h' tk ti m news hi ⟨R, us, c, row, res, t1, t2, tr, u, rfl, rfl, hI, hrl, hV⟩ hS FF NN
              simp only [Sep, List.forall_mem_cons, List.not_mem_nil, false_implies, implies_true, and_true] at hS
              k_steps
              repeat' (refine CiStop.go ?_; (with_reducible (first | (k_here; (with_reducible show wpAny _ _ (call (Value.ref 146) _) _ _ _); k_dflt (refine' sub_c ?B ?F ?X ?T ?hk ?N ?hdp ?hun ?_; walk_at "cB"; walk_at "cE"); intro t' h' tk' F' N'; walk_at "cD") | (k_here; (with_reducible show wpAny _ _ (call (Value.type _) [Value.ref _]) _ _ _); k_dflt (refine' list_range2 rfl ?Fm ?Nm ?rm ?zm ?_; (case Fm => k_asm); (case Nm => k_asm); (case rm => assumption); (case zm => omega); k_whole); intro D' us' c' h' tk' F' N' l1 hI'; (try k_lt l1)) | (k_here; (with_reducible show wpAny _ _ (call (Value.builtin _) [Value.str (mk _) _]) _ _ _); k_dflt (refine' mk_len ?hlm ?_; (case hlm => first | omega | (simp only [List.length_drop, List.length_take]; omega)); k_whole)) | (k_here; (with_reducible show wpAny _ _ (subscriptTail _ _ (Value.str (mk _) _) (Value.int _ _)) _ _ _); first | (refine mk_itemP ?hjm ?hlm ?_; (case hjm => omega); (case hlm => first | omega | (simp only [List.length_drop, List.length_take]; omega))) | (refine mk_itemR (by assumption) ?hjm ?hlm ?_; (case hjm => omega); (case hlm => first | omega | (simp only [List.length_drop, List.length_take]; omega))); intro _ _) | (k_here; (with_reducible show wpAny _ _ (subscriptTail _ _ (Value.str (mk _) _) (Value.int _ _)) _ _ _); first | (refine mk_itemP ?hjm ?hlm ?_; (case hjm => omega); (case hlm => first | omega | (simp only [List.length_drop, List.length_take]; omega))) | (refine mk_itemR (by assumption) ?hjm ?hlm ?_; (case hjm => omega); (case hlm => first | omega | (simp only [List.length_drop, List.length_take]; omega))); intro _ _) | (k_here; (with_reducible rename Fr _ _ _ _ => F'); (with_reducible rename News _ _ _ _ => N'); first | ((with_reducible show wpAny _ _ (subscriptTail _ (Expr.Slice (some _) none none _) _ _) _ _ _); (refine mk_sn (s := ⟨_, _, _, _, _⟩) F' N' ?hlm ?hpm ?_; (case hlm => first | omega | (simp only [List.length_drop, List.length_take]; omega)); (case hpm => omega))) | ((with_reducible show wpAny _ _ (subscriptTail _ (Expr.Slice none (some _) none _) _ _) _ _ _); (refine mk_ns (s := ⟨_, _, _, _, _⟩) (by assumption) F' N' ?hlm ?hqm ?_; (case hlm => first | omega | (simp only [List.length_drop, List.length_take]; omega)); (case hqm => omega))); intro _ _ _ _ _) | (k_here; (with_reducible show wpAny _ _ (truthy (Value.str _ _)) _ _ _); (refine mk_truthy_take ?hlm ?_; (case hlm => first | omega | (simp only [List.length_drop, List.length_take]; omega)))) | (k_here; (with_reducible show wpAny _ _ (truthy (Value.str _ _)) _ _ _); (refine mk_truthy_drop ?hlm ?_; (case hlm => first | omega | (simp only [List.length_drop, List.length_take]; omega)))) | (k_here; (with_reducible show wpAny _ _ (truthy (Value.str _ _)) _ _ _); (refine mk_truthy ?hlm ?_; (case hlm => first | omega | (simp only [List.length_drop, List.length_take]; omega)))) | (k_here; (with_reducible show wpAny _ _ (eval (Expr.BoolOp BoolOp.Or [Expr.Name _ _, Expr.Constant Const.none _ _] _) _) _ _ _); refine or_none ?_))); k_steps)
              rename Fr gp L1 _ _ => FF
              rename News gp L1 _ _ => NN
              refine CiStop.go ?_
              refine' rg_for (h₀ := gp) (L := L1) (n := a4.length) (G_v_J7 a4 b4 mx tm i I row) rfl ?ev ?turn ?done ?hs ?hE
              case hs => intro _; rfl
              case hE => passes_own
              case ev =>
                k_steps
                repeat' (refine CiStop.go ?_; (with_reducible (first | (k_here; (with_reducible show wpAny _ _ (call (Value.ref 146) _) _ _ _); k_dflt (refine' sub_c ?B ?F ?X ?T ?hk ?N ?hdp ?hun ?_; walk_at "cB"; walk_at "cE"); intro t' h' tk' F' N'; walk_at "cD") | (k_here; (with_reducible show wpAny _ _ (call (Value.type _) [Value.ref _]) _ _ _); k_dflt (refine' list_range2 rfl ?Fm ?Nm ?rm ?zm ?_; (case Fm => k_asm); (case Nm => k_asm); (case rm => assumption); (case zm => omega); k_whole); intro D' us' c' h' tk' F' N' l1 hI'; (try k_lt l1)) | (k_here; (with_reducible show wpAny _ _ (call (Value.builtin _) [Value.str (mk _) _]) _ _ _); k_dflt (refine' mk_len ?hlm ?_; (case hlm => first | omega | (simp only [List.length_drop, List.length_take]; omega)); k_whole)) | (k_here; (with_reducible show wpAny _ _ (subscriptTail _ _ (Value.str (mk _) _) (Value.int _ _)) _ _ _); first | (refine mk_itemP ?hjm ?hlm ?_; (case hjm => omega); (case hlm => first | omega | (simp only [List.length_drop, List.length_take]; omega))) | (refine mk_itemR (by assumption) ?hjm ?hlm ?_; (case hjm => omega); (case hlm => first | omega | (simp only [List.length_drop, List.length_take]; omega))); intro _ _) | (k_here; (with_reducible show wpAny _ _ (subscriptTail _ _ (Value.str (mk _) _) (Value.int _ _)) _ _ _); first | (refine mk_itemP ?hjm ?hlm ?_; (case hjm => omega); (case hlm => first | omega | (simp only [List.length_drop, List.length_take]; omega))) | (refine mk_itemR (by assumption) ?hjm ?hlm ?_; (case hjm => omega); (case hlm => first | omega | (simp only [List.length_drop, List.length_take]; omega))); intro _ _) | (k_here; (with_reducible rename Fr _ _ _ _ => F'); (with_reducible rename News _ _ _ _ => N'); first | ((with_reducible show wpAny _ _ (subscriptTail _ (Expr.Slice (some _) none none _) _ _) _ _ _); (refine mk_sn (s := ⟨_, _, _, _, _⟩) F' N' ?hlm ?hpm ?_; (case hlm => first | omega | (simp only [List.length_drop, List.length_take]; omega)); (case hpm => omega))) | ((with_reducible show wpAny _ _ (subscriptTail _ (Expr.Slice none (some _) none _) _ _) _ _ _); (refine mk_ns (s := ⟨_, _, _, _, _⟩) (by assumption) F' N' ?hlm ?hqm ?_; (case hlm => first | omega | (simp only [List.length_drop, List.length_take]; omega)); (case hqm => omega))); intro _ _ _ _ _) | (k_here; (with_reducible show wpAny _ _ (truthy (Value.str _ _)) _ _ _); (refine mk_truthy_take ?hlm ?_; (case hlm => first | omega | (simp only [List.length_drop, List.length_take]; omega)))) | (k_here; (with_reducible show wpAny _ _ (truthy (Value.str _ _)) _ _ _); (refine mk_truthy_drop ?hlm ?_; (case hlm => first | omega | (simp only [List.length_drop, List.length_take]; omega)))) | (k_here; (with_reducible show wpAny _ _ (truthy (Value.str _ _)) _ _ _); (refine mk_truthy ?hlm ?_; (case hlm => first | omega | (simp only [List.length_drop, List.length_take]; omega)))) | (k_here; (with_reducible show wpAny _ _ (eval (Expr.BoolOp BoolOp.Or [Expr.Name _ _, Expr.Constant Const.none _ _] _) _) _ _ _); refine or_none ?_))); k_steps)
                rename Fr gp L1 _ _ => FF
                rename News gp L1 _ _ => NN
                (with_reducible rename IsRange _ _ 0 _ _ _ _ _ => hr)
                exact CiStop.go ⟨_, _, _, _, _, _, _, _, rfl, rfl, hr, by omega, fr_known _ FF (List.forall_mem_cons.mpr ⟨rfl, List.forall_mem_cons.mpr ⟨rfl, List.forall_mem_cons.mpr ⟨rfl, List.forall_mem_cons.mpr ⟨rfl, List.forall_mem_cons.mpr ⟨rfl, List.forall_mem_cons.mpr ⟨rfl, List.forall_mem_cons.mpr ⟨rfl, List.forall_mem_cons.mpr ⟨rfl, List.forall_mem_nil _⟩⟩⟩⟩⟩⟩⟩⟩), NN, _, _, _, _, _, _, _, _, _, _, _, _, _, _, rfl, rfl, hS, hI, InRow.first hrl⟩
              case done =>
                clear FF NN
                rintro h' tk m news ⟨R, us, c, all, dist, res2, mn, t1, t2, tr, tb, td, tn, u, rfl, rfl, hS, hI, hRow⟩ FF NN
                have hal : all.length = a4.length := by obtain ⟨_, _, _, _, e, _⟩ := hRow; exact e
                obtain ⟨rfl, rfl, rfl⟩ := hRow.last
                (try dsimp only)
                k_steps
                repeat' (refine CiStop.go ?_; (with_reducible (first | (k_here; (with_reducible show wpAny _ _ (call (Value.ref 146) _) _ _ _); k_dflt (refine' sub_c ?B ?F ?X ?T ?hk ?N ?hdp ?hun ?_; walk_at "cB"; walk_at "cE"); intro t' h' tk' F' N'; walk_at "cD") | (k_here; (with_reducible show wpAny _ _ (call (Value.type _) [Value.ref _]) _ _ _); k_dflt (refine' list_range2 rfl ?Fm ?Nm ?rm ?zm ?_; (case Fm => k_asm); (case Nm => k_asm); (case rm => assumption); (case zm => omega); k_whole); intro D' us' c' h' tk' F' N' l1 hI'; (try k_lt l1)) | (k_here; (with_reducible show wpAny _ _ (call (Value.builtin _) [Value.str (mk _) _]) _ _ _); k_dflt (refine' mk_len ?hlm ?_; (case hlm => first | omega | (simp only [List.length_drop, List.length_take]; omega)); k_whole)) | (k_here; (with_reducible show wpAny _ _ (subscriptTail _ _ (Value.str (mk _) _) (Value.int _ _)) _ _ _); first | (refine mk_itemP ?hjm ?hlm ?_; (case hjm => omega); (case hlm => first | omega | (simp only [List.length_drop, List.length_take]; omega))) | (refine mk_itemR (by assumption) ?hjm ?hlm ?_; (case hjm => omega); (case hlm => first | omega | (simp only [List.length_drop, List.length_take]; omega))); intro _ _) | (k_here; (with_reducible show wpAny _ _ (subscriptTail _ _ (Value.str (mk _) _) (Value.int _ _)) _ _ _); first | (refine mk_itemP ?hjm ?hlm ?_; (case hjm => omega); (case hlm => first | omega | (simp only [List.length_drop, List.length_take]; omega))) | (refine mk_itemR (by assumption) ?hjm ?hlm ?_; (case hjm => omega); (case hlm => first | omega | (simp only [List.length_drop, List.length_take]; omega))); intro _ _) | (k_here; (with_reducible rename Fr _ _ _ _ => F'); (with_reducible rename News _ _ _ _ => N'); first | ((with_reducible show wpAny _ _ (subscriptTail _ (Expr.Slice (some _) none none _) _ _) _ _ _); (refine mk_sn (s := ⟨_, _, _, _, _⟩) F' N' ?hlm ?hpm ?_; (case hlm => first | omega | (simp only [List.length_drop, List.length_take]; omega)); (case hpm => omega))) | ((with_reducible show wpAny _ _ (subscriptTail _ (Expr.Slice none (some _) none _) _ _) _ _ _); (refine mk_ns (s := ⟨_, _, _, _, _⟩) (by assumption) F' N' ?hlm ?hqm ?_; (case hlm => first | omega | (simp only [List.length_drop, List.length_take]; omega)); (case hqm => omega))); intro _ _ _ _ _) | (k_here; (with_reducible show wpAny _ _ (truthy (Value.str _ _)) _ _ _); (refine mk_truthy_take ?hlm ?_; (case hlm => first | omega | (simp only [List.length_drop, List.length_take]; omega)))) | (k_here; (with_reducible show wpAny _ _ (truthy (Value.str _ _)) _ _ _); (refine mk_truthy_drop ?hlm ?_; (case hlm => first | omega | (simp only [List.length_drop, List.length_take]; omega)))) | (k_here; (with_reducible show wpAny _ _ (truthy (Value.str _ _)) _ _ _); (refine mk_truthy ?hlm ?_; (case hlm => first | omega | (simp only [List.length_drop, List.length_take]; omega)))) | (k_here; (with_reducible show wpAny _ _ (eval (Expr.BoolOp BoolOp.Or [Expr.Name _ _, Expr.Constant Const.none _ _] _) _) _ _ _); refine or_none ?_))); k_steps)
                · rename News h₀ L _ news => Nt
                  have e : stepO a4 mx b4 0 (rowOf a4.length) 0 = mx + 1 := by rw [← hV]; exact stepO_ret hi (by assumption)
                  rw [e] at ret
                  exact ret _ _ _ (by k_asm) Nt
                · rename Fr gp L1 _ _ => FF
                  rename News gp L1 _ _ => NN
                  refine CiStop.go ⟨_, _, _, _, rfl, fr_known _ FF (List.forall_mem_cons.mpr ⟨rfl, List.forall_mem_cons.mpr ⟨rfl, List.forall_mem_cons.mpr ⟨rfl, List.forall_mem_cons.mpr ⟨rfl, List.forall_mem_cons.mpr ⟨rfl, List.forall_mem_nil _⟩⟩⟩⟩⟩), NN, List.forall_mem_cons.mpr ⟨hS, List.forall_mem_nil _⟩, R, _, c, _, _, t1, t2, _, _, rfl, rfl, hI, hal, ?_⟩
                  rw [← stepO_next hi (by assumption)]
                  exact hV
              case turn =>
                clear FF NN hI
                rintro k I2 h' tk tk2 m news hk ⟨R, us, c, all, dist, res2, mn, t1, t2, tr, tb, td, tn, u, rfl, rfl, hS, hI, hRow⟩ hS2 FF NN
                simp only [Sep, List.forall_mem_cons, List.not_mem_nil, false_implies, implies_true, and_true] at hS2
                obtain ⟨hS3, hS4⟩ := hS2
                have hal : all.length = a4.length := by obtain ⟨_, _, _, _, e, _⟩ := hRow; exact e
                have hk2 : k < all.length := by omega
                k_steps
                repeat' (refine CiStop.go ?_; (with_reducible (first | (k_here; (with_reducible show wpAny _ _ (call (Value.ref 146) _) _ _ _); k_dflt (refine' sub_c ?B ?F ?X ?T ?hk ?N ?hdp ?hun ?_; walk_at "cB"; walk_at "cE"); intro t' h' tk' F' N'; walk_at "cD") | (k_here; (with_reducible show wpAny _ _ (call (Value.type _) [Value.ref _]) _ _ _); k_dflt (refine' list_range2 rfl ?Fm ?Nm ?rm ?zm ?_; (case Fm => k_asm); (case Nm => k_asm); (case rm => assumption); (case zm => omega); k_whole); intro D' us' c' h' tk' F' N' l1 hI'; (try k_lt l1)) | (k_here; (with_reducible show wpAny _ _ (call (Value.builtin _) [Value.str (mk _) _]) _ _ _); k_dflt (refine' mk_len ?hlm ?_; (case hlm => first | omega | (simp only [List.length_drop, List.length_take]; omega)); k_whole)) | (k_here; (with_reducible show wpAny _ _ (subscriptTail _ _ (Value.str (mk _) _) (Value.int _ _)) _ _ _); first | (refine mk_itemP ?hjm ?hlm ?_; (case hjm => omega); (case hlm => first | omega | (simp only [List.length_drop, List.length_take]; omega))) | (refine mk_itemR (by assumption) ?hjm ?hlm ?_; (case hjm => omega); (case hlm => first | omega | (simp only [List.length_drop, List.length_take]; omega))); intro _ _) | (k_here; (with_reducible show wpAny _ _ (subscriptTail _ _ (Value.str (mk _) _) (Value.int _ _)) _ _ _); first | (refine mk_itemP ?hjm ?hlm ?_; (case hjm => omega); (case hlm => first | omega | (simp only [List.length_drop, List.length_take]; omega))) | (refine mk_itemR (by assumption) ?hjm ?hlm ?_; (case hjm => omega); (case hlm => first | omega | (simp only [List.length_drop, List.length_take]; omega))); intro _ _) | (k_here; (with_reducible rename Fr _ _ _ _ => F'); (with_reducible rename News _ _ _ _ => N'); first | ((with_reducible show wpAny _ _ (subscriptTail _ (Expr.Slice (some _) none none _) _ _) _ _ _); (refine mk_sn (s := ⟨_, _, _, _, _⟩) F' N' ?hlm ?hpm ?_; (case hlm => first | omega | (simp only [List.length_drop, List.length_take]; omega)); (case hpm => omega))) | ((with_reducible show wpAny _ _ (subscriptTail _ (Expr.Slice none (some _) none _) _ _) _ _ _); (refine mk_ns (s := ⟨_, _, _, _, _⟩) (by assumption) F' N' ?hlm ?hqm ?_; (case hlm => first | omega | (simp only [List.length_drop, List.length_take]; omega)); (case hqm => omega))); intro _ _ _ _ _) | (k_here; (with_reducible show wpAny _ _ (truthy (Value.str _ _)) _ _ _); (refine mk_truthy_take ?hlm ?_; (case hlm => first | omega | (simp only [List.length_drop, List.length_take]; omega)))) | (k_here; (with_reducible show wpAny _ _ (truthy (Value.str _ _)) _ _ _); (refine mk_truthy_drop ?hlm ?_; (case hlm => first | omega | (simp only [List.length_drop, List.length_take]; omega)))) | (k_here; (with_reducible show wpAny _ _ (truthy (Value.str _ _)) _ _ _); (refine mk_truthy ?hlm ?_; (case hlm => first | omega | (simp only [List.length_drop, List.length_take]; omega)))) | (k_here; (with_reducible show wpAny _ _ (eval (Expr.BoolOp BoolOp.Or [Expr.Name _ _, Expr.Constant Const.none _ _] _) _) _ _ _); refine or_none ?_))); k_steps)
                all_goals
                  rename Fr gp L1 _ _ => FF
                  rename News gp L1 _ _ => NN
                  (with_reducible rename IntsAre (List.set _ _ _) _ => hI2)
                  refine CiStop.go ⟨_, _, _, _, rfl, fr_known _ FF (List.forall_mem_cons.mpr ⟨rfl, List.forall_mem_cons.mpr ⟨rfl, List.forall_mem_cons.mpr ⟨rfl, List.forall_mem_cons.mpr ⟨rfl, List.forall_mem_cons.mpr ⟨rfl, List.forall_mem_cons.mpr ⟨rfl, List.forall_mem_cons.mpr ⟨rfl, List.forall_mem_cons.mpr ⟨rfl, List.forall_mem_nil _⟩⟩⟩⟩⟩⟩⟩⟩), NN, List.forall_mem_cons.mpr ⟨hS3, List.forall_mem_cons.mpr ⟨hS4, List.forall_mem_nil _⟩⟩, R, _, c, _, _, _, _, t1, t2, _, tb, _, _, _, rfl, rfl, hS, hI2, ?_⟩
                  first
                  | exact InRow.next1 hk hRow (by assumption)
                  | exact InRow.next2 hk hRow (by assumption)


end
section
open PySem PySem.W PyProof.Rows PySem.Spec PySem.Calls
theorem words_cU {w : World} {loose : List Str} {mean : ExcName → Option Value} {mg mb : Str → Option Value}
  {dp un : Nat} {gd : Option (List Code)} {cn : Str} {cs : Scope} {a : Addr} {ccd : Value} {cl : List (Str × Addr)} {outer : List Env} {A₀ : Around} {base h₀ : Heap} {L : Addr} {m : Str → Option Value} {s : Shared} {Q E : Value → Shared → Prop}
  {news z1 tl : List (Addr × Obj)} {ps : Array Value} {c₁ : Addr} {o₁ : Obj} {x : Str} {tx : Tok} {WD : List (List Nat)} {d : Int} (hx : x.cps.size ≤ 2500) (hR : Reads x.cps.toList WD d)
  (B : Below A₀ base outer h₀) (F : Fr h₀ L s.heap m) (X : (hd.heap_39 w.params).In h₀) (T : Top topProg loose mean mg mb h₀) (hk : cs.kind = .function) (N : News h₀ L s.heap news)
  (c1 : CodeHd base 159 155) (tb : TabOk 182 16 (Str.ofString "_law_lexer.<locals>.<lambda>") ps c₁ o₁) (U1 : Del 155 (tabObj ps) news z1) (U2 : Del c₁ o₁ z1 tl) (ne1 : NeN c₁ 155)
  (hdp : dp + 16 < recursionLimit) (hun : un + 100 < cLine)
  (ret : ∀ (tp W cdo : Addr) (co : Obj) (ws : List (Str × Tok)) (n : Nat) (td : Tok) h' tk', (ws.map fun p : Str × Tok => p.1.cps.toList) = WD → Fr h₀ L h' m →
    News h₀ L h' ((tp, tupObj #[.ref W, .int (1 + d) td]) :: (W, listOf (txts ws) n) :: (155, tabObj #[rawInt 182, rawInt 16, .ref cdo]) :: (cdo, co) :: tl) →
    TabOk 182 16 (Str.ofString "_law_lexer.<locals>.<lambda>") #[rawInt 182, rawInt 16, .ref cdo] cdo co → (ps = #[] ∨ (cdo = c₁ ∧ co = o₁)) →
    Sep tp tl → Sep W tl → Sep cdo tl → NeN tp W → NeN tp 155 → NeN tp cdo → NeN W 155 → NeN W cdo → NeN cdo 155 → Q (.ref tp) { s with heap := h', toks := tk' }) :
  wpAny (model PySem.Challenge.rw_sc0080_01.row.prog w) (ktrTop dp un gd cn cs L a ccd cl outer) (call (.ref 167) [.str x tx]) Q E s := by
  exact words_c hx hR B F X T hk (del2_news N U1 U2) c1 tb (sep_sub U1.sep U2.sub) U2.sep ne1 hdp hun ret
theorem divd_cU {w : World} {loose : List Str} {mean : ExcName → Option Value} {mg mb : Str → Option Value}
  {dp un : Nat} {gd : Option (List Code)} {cn : Str} {cs : Scope} {a : Addr} {ccd : Value} {cl : List (Str × Addr)} {outer : List Env} {A₀ : Around} {base h₀ : Heap} {L : Addr} {m : Str → Option Value} {s : Shared} {Q E : Value → Shared → Prop}
  {news z1 z2 z3 tl : List (Addr × Obj)} {ps ps2 : Array Value} {c₁ c₂ : Addr} {o₁ o₂ : Obj}
  {top bs q r : Int} {tx ty tq tr : Tok} (ht : 0 ≤ top) (hb : 0 < bs) (he : top = q * bs + r) (hr0 : 0 ≤ r) (hr1 : r < bs) (hbb : PySem.Builtin.Int.intBits bs ≤ 1000) (hbt : PySem.Builtin.Int.intBits top ≤ 2 * PySem.Builtin.Int.intBits bs)
  (B : Below A₀ base outer h₀) (F : Fr h₀ L s.heap m) (X : (hd.heap_39 w.params).In h₀) (T : Top topProg loose mean mg mb h₀) (hk : cs.kind = .function) (N : News h₀ L s.heap news)
  (c1 : CodeHd base 58 54) (c2 : CodeHd base 65 61) (tb : TabOk 36 4 I2Q ps c₁ o₁) (tb2 : TabOk 51 4 D2Q ps2 c₂ o₂) (U1 : Del 54 (tabObj ps) news z1) (U2 : Del c₁ o₁ z1 z2) (U3 : Del 61 (tabObj ps2) z2 z3) (U4 : Del c₂ o₂ z3 tl)
  (ne1 : NeN c₁ 54) (ne2 : NeN c₁ 61) (ne3 : NeN c₂ 54) (ne4 : NeN c₂ 61) (ne5 : NeN c₁ c₂)
  (hdp : dp + 32 < recursionLimit) (hun : un + 180 < cLine)
  (ret : ∀ bb c' oc c2' oc2 h' tk', Fr h₀ L h' m → News h₀ L h' ((54, tabObj #[rawInt 36, rawInt 4, .ref c']) :: (c', oc) :: (61, tabObj #[rawInt 51, rawInt 4, .ref c2']) :: (c2', oc2) :: tl) →
    TabOk 36 4 I2Q #[rawInt 36, rawInt 4, .ref c'] c' oc → TabOk 51 4 D2Q #[rawInt 51, rawInt 4, .ref c2'] c2' oc2 → (ps = #[] ∨ (c' = c₁ ∧ oc = o₁)) → (ps2 = #[] ∨ (c2' = c₂ ∧ oc2 = o₂)) → Sep c' tl → Sep c2' tl → NeN c' 54 → NeN c' 61 → NeN c2' 54 → NeN c2' 61 → NeN c' c2' → bb = true → Q (.bool bb) { s with heap := h', toks := tk' }) :
  wpAny (model PySem.Challenge.rw_sc0080_01.row.prog w) (ktrTop dp un gd cn cs L a ccd cl outer) (call (.ref 174) [.int top tx, .int bs ty, .int q tq, .int r tr]) Q E s := by
  exact divd_c ht hb he hr0 hr1 hbb hbt B F X T hk (news_cons N U1.mem (news_cons N (U1.sub _ U2.mem) (news_cons N (U1.sub _ (U2.sub _ U3.mem)) (news_cons N (U1.sub _ (U2.sub _ (U3.sub _ U4.mem))) (news_in N fun p hp => U1.sub p (U2.sub p (U3.sub p (U4.sub p hp)))))))) c1 c2 tb tb2 (sep_sub U1.sep fun p hp => U2.sub p (U3.sub p (U4.sub p hp))) (sep_sub U2.sep fun p hp => U3.sub p (U4.sub p hp)) (sep_sub U3.sep fun p hp => U4.sub p hp) U4.sep ne1 ne2 ne3 ne4 ne5 hdp hun ret


end
section
open PySem PySem.W PyProof.Rows PySem.Spec PySem.Calls
local macro_rules | `(tactic| walk_at "CompSrc") => `(tactic| (k_here; (with_reducible show LCg.CompSrc _ _ _ _ _ _ _ (Expr.BinOp (Expr.Subscript _ _ _) Operator.Add _ _) _ _ _ _ _ _); refine CiStop.out ?_))
local macro_rules | `(tactic| walk_at "binaryOp Mult int int") => `(tactic| (k_here; refine CiStop.out ?_))
local macro_rules | `(tactic| walk_at "binaryOp Mult str int") => `(tactic| (k_here; refine CiStop.out ?_))
local macro_rules | `(tactic| walk_at "binaryOp Mult ref int") => `(tactic| (k_here; refine CiStop.out ?_))
local macro_rules | `(tactic| walk_at "binaryOp Add ref ref") => `(tactic| (k_here; refine CiStop.out ?_))
local macro_rules | `(tactic| walk_at "call builtin:len") => `(tactic| (k_here; (first | (with_reducible show wpAny _ _ (call (Value.builtin _) [Value.ref _]) _ _ _) | (with_reducible show wpAny _ _ (call (Value.builtin _) [Value.str (mk _) _]) _ _ _) | (with_reducible show wpAny _ _ (call (Value.builtin _) [Value.str (Txt.join _ _) _]) _ _ _)); refine CiStop.out ?_))
local macro_rules | `(tactic| walk_at "exec While Compare cons nil") => `(tactic| (k_here; refine CiStop.out ?_))
local macro_rules | `(tactic| walk_at "exec While Compare") => `(tactic| (k_here; refine CiStop.out ?_))
theorem dbl0 (ds : Int) : 2 * ds = ds * 2 ^ (0 + 1) := by rw [show (2 : Int) ^ (0 + 1) = 2 from rfl]; omega
theorem dblS (ds : Int) (e : Nat) : 2 * (ds * 2 ^ e) = ds * 2 ^ (e + 1) := by
  rw [Int.pow_succ, Int.mul_comm (2 ^ e) 2, ← Int.mul_assoc, ← Int.mul_assoc, Int.mul_comm ds 2]
theorem dbl1 (ds : Int) : ds * 2 ^ 0 = ds := by rw [show (2 : Int) ^ 0 = 1 from rfl]; omega
local macro_rules | `(tactic| walk_at "exec Try") => `(tactic| (k_here; refine wpAny_Try_except ?_))
theorem q_bound {q n r : Nat} {z : Int} (h : (q : Int) * n + r = z) (hz : z < 16) (hn : 1 ≤ n) : q < 16 := by
  have : (q : Int) * 1 ≤ q * n := Int.mul_le_mul_of_nonneg_left (by omega) (by omega)
  omega
local macro_rules | `(tactic| walk_at "exec Raise some none") => `(tactic| (k_here; (with_reducible show wpAny _ _ (exec (Stmt.Raise (some (Expr.Name _ _)) none _) _) _ _ _); refine CiStop.out ?_))
local macro_rules | `(tactic| walk_at "noteFrame ref") => `(tactic| (k_here; refine CiStop.out ?_))
local macro_rules | `(tactic| walk_at "subscriptTail Name Name ref int") => `(tactic| (k_here; (with_reducible show wpAny _ _ (subscriptTail _ _ (Value.ref _) (Value.int _ _)) _ _ _); refine CiStop.out ?_))
local macro_rules | `(tactic| walk_at "call builtin:str.join") => `(tactic| (k_here; (with_reducible show wpAny _ _ (call (Value.builtin "str.join") [Value.str _ _, Value.ref _]) _ _ _); refine CiStop.out ?_))
local macro_rules | `(tactic| walk_at "call ref") => `(tactic| (k_here; (first | (with_reducible show wpAny _ _ (call (Value.ref 139) _) _ _ _) | (with_reducible show wpAny _ _ (call (Value.ref 167) _) _ _ _) | (with_reducible show wpAny _ _ (call (Value.ref 153) _) _ _ _) | (with_reducible show wpAny _ _ (call (Value.ref 174) _) _ _ _)); refine CiStop.out ?_))
local macro_rules | `(tactic| walk_at "compareOp NotEq ref ref") => `(tactic| (k_here; refine CiStop.out ?_))
local macro_rules | `(tactic| walk_at "subscriptTail Name Slice ref ref") => `(tactic| (k_here; (with_reducible show wpAny _ _ (subscriptTail _ (PySem.Expr.Slice _ none none _) (Value.ref _) (Value.ref _)) _ _ _); refine CiStop.out ?_))
local macro_rules | `(tactic| walk_at "subscriptTail Name Constant ref int") => `(tactic| (k_here; (with_reducible show wpAny _ _ (subscriptTail _ _ (Value.ref _) (Value.int _ _)) _ _ _); refine CiStop.out ?_))
theorem half_even {q n r : Nat} {z : Int} (h : (q : Int) * ((2 * n : Nat) : Int) + r = z) : ((2 * q : Nat) : Int) * (n : Int) + r = z := by
  rw [← h, Int.natCast_mul, Int.natCast_mul]
  have : ((2 : Nat) : Int) * (q : Int) * (n : Int) = (q : Int) * (((2 : Nat) : Int) * (n : Int)) := by rw [Int.mul_comm ((2 : Nat) : Int) (q : Int), Int.mul_assoc]
  omega
theorem half_odd {q n r : Nat} {z : Int} (h : (q : Int) * ((2 * n : Nat) : Int) + r = z) : (((2 * q : Nat) : Int) + 1) * (n : Int) + ((r : Int) - (n : Int)) = z := by
  have := half_even h
  rw [Int.add_mul, Int.one_mul]
  omega
local macro_rules | `(tactic| walk_at "binaryOp Add str str") => `(tactic| (k_here; refine CiStop.out ?_))
theorem end_0 {hp : Int} {k : Nat} (h : (hp + (0 + (k : Int))).fmod 3 = 0) : Str.ofString "\n" = endS (hp + ((0 + k : Nat) : Int)) := by
  have e : ((0 + k : Nat) : Int) = 0 + (k : Int) := by omega
  unfold endS endC
  rw [e, if_pos h]
  decide +kernel
theorem end_1 {hp : Int} {k : Nat} (h : (hp + (0 + (k : Int))).fmod 3 = 1) : Str.ofString "\r\n" = endS (hp + ((0 + k : Nat) : Int)) := by
  have e : ((0 + k : Nat) : Int) = 0 + (k : Int) := by omega
  unfold endS endC
  rw [e, if_neg (by omega), if_pos h]
  decide +kernel
theorem end_2 {hp : Int} {k : Nat} (h : (hp + (0 + (k : Int))).fmod 3 = 2) : Str.ofString "\r" = endS (hp + ((0 + k : Nat) : Int)) := by
  have e : ((0 + k : Nat) : Int) = 0 + (k : Int) := by omega
  unfold endS endC
  rw [e, if_neg (by omega), if_neg (by omega)]
  decide +kernel
set_option autoImplicit false in
inductive G_tail_J1 (s : Shared) (ds : Int) (h₀ : Heap) (L : Addr) (r0 : Nat) (hpv : Int) (ex : Int) (oR : Obj) (oH : Obj) (ps1 : Array Value) (c₁ : Addr) (o₁ : Obj) (ps2 : Array Value) (c₂ : Addr) (o₂ : Obj) (ps3 : Array Value) (c₃ : Addr) (o₃ : Obj) (k : Nat) (s' : Shared) : Prop
  | mk (far : Int) (e : Nat) (td ts tc te tf : Tok) (u : Str → Option Value) (hp : Heap) (tk : Nat) (j0 : s' = { s with heap := hp, toks := tk }) (j1 : far = ds * 2 ^ (e + 1)) (j2 : far ≤ 30) (j3 : 0 < far) (j4 : k = (31 - far).toNat) (j5 : Fr h₀ L hp (kstB u [(Str.ofString "dividend", Value.int (r0 : Int) td), (Str.ofString "divisor", Value.int ds ts), (Str.ofString "scale", Value.int (hpv + 1) tc), (Str.ofString "extra", Value.int ex te), (Str.ofString "far", Value.int far tf)])) (j6 : News h₀ L hp [(L + 1 + 1 + 1, oR), (L + 1 + 1, oH), (155, tabObj ps1), (c₁, o₁), (61, tabObj ps2), (c₂, o₂), (54, tabObj ps3), (c₃, o₃)]) : G_tail_J1 s ds h₀ L r0 hpv ex oR oH ps1 c₁ o₁ ps2 c₂ o₂ ps3 c₃ o₃ k s'
set_option autoImplicit false in
inductive G_tail_J2 (s : Shared) (ds : Int) (r0 : Nat) (h₀ : Heap) (L : Addr) (hpv : Int) (ex : Int) (oR : Obj) (oH : Obj) (ps1 : Array Value) (c₁ : Addr) (o₁ : Obj) (ps2 : Array Value) (c₂ : Addr) (o₂ : Obj) (ps3 : Array Value) (c₃ : Addr) (o₃ : Obj) (s' : Shared) : Prop
  | mk (far : Int) (e : Nat) (td ts tc te tf : Tok) (u : Str → Option Value) (hp : Heap) (tk : Nat) (j0 : s' = { s with heap := hp, toks := tk }) (j1 : far = ds * 2 ^ (e + 1)) (j2 : far ≤ 30) (j3 : (r0 : Int) < far) (j4 : Fr h₀ L hp (kstB u [(Str.ofString "dividend", Value.int (r0 : Int) td), (Str.ofString "divisor", Value.int ds ts), (Str.ofString "scale", Value.int (hpv + 1) tc), (Str.ofString "extra", Value.int ex te), (Str.ofString "far", Value.int far tf)])) (j5 : News h₀ L hp [(L + 1 + 1 + 1, oR), (L + 1 + 1, oH), (155, tabObj ps1), (c₁, o₁), (61, tabObj ps2), (c₂, o₂), (54, tabObj ps3), (c₃, o₃)]) : G_tail_J2 s ds r0 h₀ L hpv ex oR oH ps1 c₁ o₁ ps2 c₂ o₂ ps3 c₃ o₃ s'
set_option autoImplicit false in
inductive G_tail_J3 (s : Shared) (ds : Int) (r0 : Nat) (L : Addr) (h₀ : Heap) (hpv : Int) (ex : Int) (oH : Obj) (k : Nat) (s' : Shared) : Prop
  | mk (nw e q r : Nat) (td ts tc te tr tq tz : Tok) (u : Str → Option Value) (hp : Heap) (tk : Nat) (oR : Obj) (xR : Option Value) (ps1 ps2 ps3 : Array Value) (c₁ c₂ c₃ : Addr) (o₁ o₂ o₃ : Obj) (j0 : s' = { s with heap := hp, toks := tk }) (j1 : (nw : Int) = ds * 2 ^ e) (j2 : k = e) (j3 : (q : Int) * nw + r = r0) (j4 : r < nw) (j5 : nw ≤ 30) (j6 : oR.data = .cell xR) (j7 : TabOk 182 16 (Str.ofString "_law_lexer.<locals>.<lambda>") ps1 c₁ o₁) (j8 : TabOk 51 4 D2Q ps2 c₂ o₂) (j9 : TabOk 36 4 I2Q ps3 c₃ o₃) (j10 : (NeN c₁ 155 ∧ NeN c₁ 61 ∧ NeN c₁ 54 ∧ NeN c₁ (L + 1 + 1 + 1) ∧ NeN c₁ (L + 1 + 1) ∧ NeN c₂ 155 ∧ NeN c₂ 61 ∧ NeN c₂ 54 ∧ NeN c₂ (L + 1 + 1 + 1) ∧ NeN c₂ (L + 1 + 1) ∧ NeN c₃ 155 ∧ NeN c₃ 61 ∧ NeN c₃ 54 ∧ NeN c₃ (L + 1 + 1 + 1) ∧ NeN c₃ (L + 1 + 1) ∧ NeN c₁ c₂ ∧ NeN c₁ c₃ ∧ NeN c₂ c₃)) (j11 : Fr h₀ L hp (kstB u [(Str.ofString "dividend", Value.int (r0 : Int) td), (Str.ofString "divisor", Value.int ds ts), (Str.ofString "scale", Value.int (hpv + 1) tc), (Str.ofString "extra", Value.int ex te), (Str.ofString "row", Value.str (mk (List.replicate nw 92)) tr), (Str.ofString "quotient", Value.int (q : Int) tq), (Str.ofString "rest", Value.int (r : Int) tz)])) (j12 : News h₀ L hp [(L + 1 + 1 + 1, oR), (L + 1 + 1, oH), (155, tabObj ps1), (c₁, o₁), (61, tabObj ps2), (c₂, o₂), (54, tabObj ps3), (c₃, o₃)]) : G_tail_J3 s ds r0 L h₀ hpv ex oH k s'
set_option autoImplicit false in
inductive G_tail_J4 (s : Shared) (h₀ : Heap) (L : Addr) (r0 : Nat) (ds : Int) (hpv : Int) (ex : Int) (s' : Shared) : Prop
  | mk (td ts tc te : Tok) (u : Str → Option Value) (hp : Heap) (tk : Nat) (ps1 ps2 ps3 : Array Value) (j0 : s' = { s with heap := hp, toks := tk }) (j1 : Fr h₀ L hp (kstB u [(Str.ofString "dividend", Value.int (r0 : Int) td), (Str.ofString "divisor", Value.int ds ts), (Str.ofString "scale", Value.int (hpv + 1) tc), (Str.ofString "extra", Value.int ex te)])) (j2 : News h₀ L hp [(155, tabObj ps1), (61, tabObj ps2), (54, tabObj ps3)]) : G_tail_J4 s h₀ L r0 ds hpv ex s'
theorem law_tail {w : World} {loose : List Str} {mean : ExcName → Option Value} {mg mb : Str → Option Value} {dp un : Nat} {gd : Option (List Code)} {a : Addr} {ccd : Value} {outer : List Env} {A₀ : Around} {h₀ : Heap} {L : Addr} {m : Str → Option Value} {s : Shared} {Q : Flow → Shared → Prop} {R : Value → Shared → Prop}
  {oR oH : Obj} {xR : Option Value} {ps1 ps2 ps3 : Array Value} {c₁ c₂ c₃ : Addr} {o₁ o₂ o₃ : Obj} {dv ds hpv ex : Int} {td ts tc te tf tH : Tok}
  (hdv0 : 0 ≤ dv) (hdv : dv < 16) (hds0 : 1 ≤ ds) (hds : ds ≤ 5) (hh0 : 10 ≤ hpv) (hh1 : hpv < 2 ^ 90) (hx0 : 0 ≤ ex) (hx1 : ex ≤ hpv)
  (B : Below A₀ h₀ outer h₀) (F : Fr h₀ L s.heap m) (X : (hd.heap_39 w.params).In h₀) (T : Top topProg loose mean mg mb h₀)
  (hm : ∀ p ∈ ([(Str.ofString "dividend", Value.int dv td), (Str.ofString "divisor", Value.int ds ts), (Str.ofString "scale", Value.int (hpv + 1) tc), (Str.ofString "extra", Value.int ex te), (Str.ofString "far", Value.int (2 * ds) tf)] : List (Str × Value)), m p.1 = some p.2)
  (N : News h₀ L s.heap [(L + 1 + 1 + 1, oR), (L + 1 + 1, oH), (155, tabObj ps1), (c₁, o₁), (61, tabObj ps2), (c₂, o₂), (54, tabObj ps3), (c₃, o₃)]) (hoR : oR.data = .cell xR) (hoH : oH.data = .cell (some (.int hpv tH)))
  (cd1 : CodeHd h₀ 159 155) (cd2 : CodeHd h₀ 65 61) (cd3 : CodeHd h₀ 58 54) (tb1 : TabOk 182 16 (Str.ofString "_law_lexer.<locals>.<lambda>") ps1 c₁ o₁) (tb2 : TabOk 51 4 D2Q ps2 c₂ o₂) (tb3 : TabOk 36 4 I2Q ps3 c₃ o₃)
  (hL : @LT.lt Nat _ 155 L) (nes : NeN c₁ 155 ∧ NeN c₁ 61 ∧ NeN c₁ 54 ∧ NeN c₁ (L + 1 + 1 + 1) ∧ NeN c₁ (L + 1 + 1) ∧ NeN c₂ 155 ∧ NeN c₂ 61 ∧ NeN c₂ 54 ∧ NeN c₂ (L + 1 + 1 + 1) ∧ NeN c₂ (L + 1 + 1) ∧ NeN c₃ 155 ∧ NeN c₃ 61 ∧ NeN c₃ 54 ∧ NeN c₃ (L + 1 + 1 + 1) ∧ NeN c₃ (L + 1 + 1) ∧ NeN c₁ c₂ ∧ NeN c₁ c₃ ∧ NeN c₂ c₃)
  (hdp : dp + 60 < recursionLimit) (hun : un + 300 < cLine)
  (ret : ∀ h' tk' m' q1 q2 q3, Fr h₀ L h' m' → News h₀ L h' [(155, tabObj q1), (61, tabObj q2), (54, tabObj q3)] → Q (.ret (.bool true)) { s with heap := h', toks := tk' }) :
  wpAny (model PySem.Challenge.rw_sc0080_01.row.prog w) (ktrTop dp un gd (Str.ofString "law") (scopeOf (hd.heap_39 w.params) 179) L a ccd (cellsFrom (L + 1) ((scopeOf (hd.heap_39 w.params) 179)).names []) outer) (execs (bodyOf (hd.heap_39 w.params) 179).tail.tail.tail.tail.tail.tail.tail (envX (Str.ofString "law") (scopeOf (hd.heap_39 w.params) 179) L a ccd (cellsFrom (L + 1) ((scopeOf (hd.heap_39 w.params) 179)).names []))) Q (fun e s' => wpAny (model PySem.Challenge.rw_sc0080_01.row.prog w) (ktrTop dp un gd (Str.ofString "law") (scopeOf (hd.heap_39 w.params) 179) L a ccd (cellsFrom (L + 1) ((scopeOf (hd.heap_39 w.params) 179)).names []) outer) (leaving (envX (Str.ofString "law") (scopeOf (hd.heap_39 w.params) 179) L a ccd (cellsFrom (L + 1) ((scopeOf (hd.heap_39 w.params) 179)).names [])) e) (fun _ s'' => R e s'') (fun e' s'' => R e' s'') s') s := by
  revert X
  k_fill
  intro X
  refine' tail_enter (fun b sc => wpAny (model PySem.Challenge.rw_sc0080_01.row.prog w) (ktrTop dp un gd (Str.ofString "law") sc L a ccd (cellsFrom (L + 1) (sc).names []) outer) (execs (b).tail.tail.tail.tail.tail.tail.tail (envX (Str.ofString "law") sc L a ccd (cellsFrom (L + 1) (sc).names []))) Q (fun e s' => wpAny (model PySem.Challenge.rw_sc0080_01.row.prog w) (ktrTop dp un gd (Str.ofString "law") sc L a ccd (cellsFrom (L + 1) (sc).names []) outer) (leaving (envX (Str.ofString "law") sc L a ccd (cellsFrom (L + 1) (sc).names [])) e) (fun _ s'' => R e s'') (fun e' s'' => R e' s'') s') s) ?ho ?_
  case ho => k_is
  dsimp only [List.tail_cons]
  obtain ⟨r0, rfl⟩ := Int.eq_ofNat_of_zero_le hdv0
  k_steps
  repeat' (refine CiStop.go ?_; (with_reducible (first | (k_here; (with_reducible show wpAny _ _ (binaryOp .Add (Value.str _ _) (Value.str _ _)) _ _ _); (refine add_str (hsz := ?hsz) ?_); (case hsz => exact Nat.le_trans (Nat.add_le_add (by assumption) (show Str.length (Str.ofString _) ≤ 100 by decide +kernel)) (by rw [sizeLine_eq]; decide)); intro _ _) | (k_here; (with_reducible show wpAny _ _ (call (Value.ref 174) _) _ _ _); k_dflt (refine' divd_cU ?q1 ?q2 ?q3 ?q4 ?q5 ?q6 ?q7 ?B ?F ?X ?T ?hk ?N ?c1 ?c2 ?tb ?tb2 ?U1 ?U2 ?U3 ?U4 ?ne1 ?ne2 ?ne3 ?ne4 ?ne5 ?hdp ?hun ?_; (case q1 => exact dv_lo (by omega) (by omega) (by omega)); (case q2 => exact Int.mul_pos (by omega) (by omega)); (case q3 => exact dv_fact (Hid.h (by assumption))); (case q4 => exact dv_lo (by omega) (by omega) (by omega)); (case q5 => exact dv_hi (by omega) (by omega) (by omega)); (case q6 => exact dv_bits (by omega) (by omega) (by omega) (by omega)); (case q7 => exact dv_twice (by omega) (by omega) (by omega) (by omega) (by omega) (by omega)); walk_at "cB"; walk_at "cC"; walk_at "cA"; walk_at "cU"; walk_at "cE"); intro bb9 c3n oc3n c2n oc2n h' tk' F' N' tb3n tb2n hw3 hw2 s1' s2' v1' v2' v3' v4' v5' hbb; (subst hbb); walk_at "cD") | (k_here; (with_reducible show wpAny _ _ (call (Value.ref 153) _) _ _ _); k_dflt (refine' lev_c ?qa ?qb ?qm ?qm2 ?B ?F ?X ?T ?hk ?N ?hdp ?hun ?_; (case qa => rw [mk_length, List.length_replicate]; omega); (case qb => rw [mk_length, List.length_replicate]; omega); (case qm => omega); (case qm2 => omega); walk_at "cB"; walk_at "cE"); rw [mk_list, mk_list, hte]; intro tr9 h' tk' F' N'; walk_at "cD") | (k_here; (with_reducible show wpAny _ _ (subscriptTail _ _ (Value.ref _) (Value.int _ _)) _ _ _); k_dflt (refine' item_txts (j := 0) ?iN ?im ?ik ?iz ?ix ?_ ?ih ?ig; (case iN => k_asm); (case im => k_mem); (case ix => exact (words_head hws).choose_spec); (case ik => rfl); (case iz => decide); (case ih => with_unfolding_all rfl); (case ig => intro _; with_unfolding_all rfl); k_whole)) | (k_here; (with_reducible show wpAny _ _ (call (Value.builtin _) [Value.str (Txt.join _ _) _]) _ _ _); k_dflt (refine' len_strN (words_join hws) ?_ ?_; omega)) | (k_here; (with_reducible show wpAny _ _ (subscriptTail _ (PySem.Expr.Slice _ none none _) (Value.ref _) (Value.ref _)) _ _ _); k_dflt (refine' drop_txts (j := 1) ?F ?N ?m ?z ?_ ?s ?t; walk_at "cF"; (case m => k_mem); (case z => rw [words_len (by assumption)]; omega); (case s => with_unfolding_all rfl); (case t => intro _; with_unfolding_all rfl)); intro D' h' F' N' l1; (try k_lt l1)) | (k_here; (with_reducible show wpAny _ _ (compareOp .NotEq (Value.ref _) (Value.ref _)) _ _ _); k_dflt (refine' ne_txtsE ?N ?m1 ?m2 hws ?he ?hu ?_; (case N => k_asm); (case m1 => k_mem); (case m2 => k_mem); (case he => simp only [List.map_append, List.map_cons, List.map_nil, List.map_replicate, List.cons_append, List.nil_append]); (case hu => ktr_units); k_whole)) | (k_here; (with_reducible show wpAny _ _ (call (Value.ref 167) _) _ _ _); k_dflt (refine' words_cU ?qx ?qR ?B ?F ?X ?T ?hk ?N ?c1 ?tb ?U1 ?U2 ?ne1 ?hdp ?hun ?_; (case qR => exact (hmail.reads _ hzq).1); (case qx => exact (hmail.reads _ hzq).2); walk_at "cB"; (case c1 => kn_code); (case tb => assumption); (case U1 => k_updF); (case U2 => k_updF); (case ne1 => exact ⟨by k_ne⟩); walk_at "cE"); intro tpw Ww cdo co wsw nw2 tdw h' tk' hws F' N' tbw hww s1' s2' s3' v1' v2' v3' v4' v5' v6'; walk_at "cD") | (k_here; (with_reducible show wpAny _ _ (call (Value.ref 139) _) _ _ _); k_dflt (refine' quote_c ?qx ?B ?F ?X ?T ?hk ?N ?hdp ?hun ?_; (case qx => exact MailOk.size (by assumption)); walk_at "cB"; walk_at "cE"); intro zq tzq h' tk' hzq F' N'; walk_at "cD") | (k_here; (with_reducible show wpAny _ _ (call (Value.builtin "str.join") [Value.str _ _, Value.ref _]) _ _ _); k_dflt (refine' join_txts ?jN ?jm ?ji ?jw ?_; (case jN => k_asm); (case jm => k_mem); (case ji => first | assumption | exact strsAre_list _); (case jw => first | (with_reducible assumption) | exact Nat.le_trans (MailOk.small (by assumption)) (by decide) | exact words_sum (by assumption) (by omega)); k_whole); intro _ _) | (k_here; (with_reducible show wpAny _ _ (subscriptTail _ _ (Value.ref _) (Value.int _ _)) _ _ _); k_dflt (refine' item_txts ?iN ?im ?ik ?iz ?ix ?_ ?ih ?ig; (case iN => k_asm); (case im => k_mem); (case ix => exact (hrow _).choose_spec); (case ik => omega); (case iz => omega); (case ih => with_unfolding_all rfl); (case ig => intro _; with_unfolding_all rfl); k_whole)) | (k_here; (rename RaisedN _ _ _ _ _ _ => rkX); k_dflt (refine' caught_cells ?fr ?F ?U rkX ?Tt PyProof.Rows.Boot.«ZeroDivisionError» PySem.F.isExc_ZeroDivisionError PySem.F.notTuple_ZeroDivisionError ?su ?mi ?nn ?_ ?hk ?hx ?hd ?hE; (case fr => rfl); (case U => assumption); (case F => assumption); (case Tt => k_asm); (case su => (rw [isSubtype_type]; kernel_rfl)); (case mi => exact mg_none_of (by k_asm) (TopRead.g (by k_asm)) (by k_is)); (case nn => decide); (case hk => rfl); (case hx => rfl); (case hd => decide); (case hE => passes_own)); intro h' F' N') | (k_here; (with_reducible show wpAny _ _ (exec (Stmt.Raise (some (Expr.Name _ _)) none _) _) _ _ _); (with_reducible rename Fr _ _ _ _ => kF); k_dflt (refine' Raise_classB rfl excClass_ZeroDivisionError ?hs ?hx ?_; (case hs => (rw [isSubtype_type]; kernel_rfl)); (case hx => (refine' name_B kF ?k1 ?k2 ?k3 ?k4 ?k5 ?_; (case k1 => k_asm); (case k2 => k_asm); (case k3 => k_is); (case k4 => boot_by_name); (case k5 => decide); exact ⟨rfl, rfl⟩))); intro _ _ _) | (k_here; (with_reducible show wpAny _ _ (call (Value.builtin _) [Value.str (mk _) _]) _ _ _); k_dflt (refine' mk_len ?hlm ?_; (case hlm => (simp only [List.length_replicate]; omega)); k_whole); (try simp only [List.length_replicate])) | (k_here; (with_reducible show wpAny _ _ (call (Value.builtin _) [Value.ref _]) _ _ _); k_dflt (refine' len_txts ?N ?m ?z ?_; (case N => k_asm); (case m => k_mem); (case z => (simp only [List.length_append, List.length_cons, List.length_nil, List.length_replicate]; omega)); k_whole); (try simp only [List.length_append, List.length_cons, List.length_nil, List.length_replicate, Nat.zero_add])) | (k_here; (with_reducible show wpAny _ _ (binaryOp .Add (Value.ref _) (Value.ref _)) _ _ _); k_dflt (refine' add_txts ?rF ?rN ?rm ?rm2 ?re ?re2 ?rz ?_; (case rF => k_asm); (case rN => k_asm); (case rm => k_mem); (case rm2 => k_mem); (case re => first | rfl | exact txts_one _ _); (case re2 => first | rfl | exact txts_one _ _); (case rz => (simp only [List.length_append, List.length_cons, List.length_nil, List.length_replicate]; omega)); k_whole); intro d' h' F' N' l1; (try k_lt l1)) | (k_here; (with_reducible show wpAny _ _ (binaryOp .Mult (Value.ref _) (Value.int _ _)) _ _ _); k_dflt (refine' rep_txtsN ?rF ?rN ?rm ?rk ?_; (case rF => k_asm); (case rN => k_asm); (case rm => k_mem); (case rk => omega); k_whole); intro d' h' F' N' l1; (try k_lt l1)) | (k_here; (with_reducible show wpAny _ _ (binaryOp .Mult (Value.str _ _) (Value.int _ _)) _ _ _); first | ((first | refine rep_signN e92 ?sk ?_ | refine rep_signN e46 ?sk ?_); (case sk => omega); intro _ _) | ((first | refine rep_sign e92 ?sk ?sk0 ?_ | refine rep_sign e46 ?sk ?sk0 ?_); (case sk => omega); (case sk0 => omega); intro _ _)) | (k_here; (with_reducible show wpAny _ _ (binaryOp .Mult (Value.int _ _) (Value.int _ _)) _ _ _); refine mul_int ?_ (mulok_small ?mha ?mhb); (case mha => omega); (case mhb => omega)))); k_steps)
  refine CiStop.go ?_
  refine' wh_loopE (G_tail_J1 s ds h₀ L r0 hpv ex oR oH ps1 c₁ o₁ ps2 c₂ o₂ ps3 c₃ o₃)
    (G_tail_J2 s ds r0 h₀ L hpv ex oR oH ps1 c₁ o₁ ps2 c₂ o₂ ps3 c₃ o₃) (n0 := (31 - 2 * ds).toNat) ?h0 ?turn ?fin ?hE
  case hE => passes_own
  case h0 => exact ⟨2 * ds, 0, _, _, _, _, _, _, _, _, rfl, dbl0 ds, by omega, by omega, rfl, fr_known _ F hm, N⟩
  case turn =>
    clear F N
    rintro k s' ⟨far, e, td, ts, tc, te, tf, u, hp, tk, rfl, hfar, hf30, hf0, rfl, FF, NN⟩
    k_steps
    repeat' (refine CiStop.go ?_; (with_reducible (first | (k_here; (with_reducible show wpAny _ _ (binaryOp .Add (Value.str _ _) (Value.str _ _)) _ _ _); (refine add_str (hsz := ?hsz) ?_); (case hsz => exact Nat.le_trans (Nat.add_le_add (by assumption) (show Str.length (Str.ofString _) ≤ 100 by decide +kernel)) (by rw [sizeLine_eq]; decide)); intro _ _) | (k_here; (with_reducible show wpAny _ _ (call (Value.ref 174) _) _ _ _); k_dflt (refine' divd_cU ?q1 ?q2 ?q3 ?q4 ?q5 ?q6 ?q7 ?B ?F ?X ?T ?hk ?N ?c1 ?c2 ?tb ?tb2 ?U1 ?U2 ?U3 ?U4 ?ne1 ?ne2 ?ne3 ?ne4 ?ne5 ?hdp ?hun ?_; (case q1 => exact dv_lo (by omega) (by omega) (by omega)); (case q2 => exact Int.mul_pos (by omega) (by omega)); (case q3 => exact dv_fact (Hid.h (by assumption))); (case q4 => exact dv_lo (by omega) (by omega) (by omega)); (case q5 => exact dv_hi (by omega) (by omega) (by omega)); (case q6 => exact dv_bits (by omega) (by omega) (by omega) (by omega)); (case q7 => exact dv_twice (by omega) (by omega) (by omega) (by omega) (by omega) (by omega)); walk_at "cB"; walk_at "cC"; walk_at "cA"; walk_at "cU"; walk_at "cE"); intro bb9 c3n oc3n c2n oc2n h' tk' F' N' tb3n tb2n hw3 hw2 s1' s2' v1' v2' v3' v4' v5' hbb; (subst hbb); walk_at "cD") | (k_here; (with_reducible show wpAny _ _ (call (Value.ref 153) _) _ _ _); k_dflt (refine' lev_c ?qa ?qb ?qm ?qm2 ?B ?F ?X ?T ?hk ?N ?hdp ?hun ?_; (case qa => rw [mk_length, List.length_replicate]; omega); (case qb => rw [mk_length, List.length_replicate]; omega); (case qm => omega); (case qm2 => omega); walk_at "cB"; walk_at "cE"); rw [mk_list, mk_list, hte]; intro tr9 h' tk' F' N'; walk_at "cD") | (k_here; (with_reducible show wpAny _ _ (subscriptTail _ _ (Value.ref _) (Value.int _ _)) _ _ _); k_dflt (refine' item_txts (j := 0) ?iN ?im ?ik ?iz ?ix ?_ ?ih ?ig; (case iN => k_asm); (case im => k_mem); (case ix => exact (words_head hws).choose_spec); (case ik => rfl); (case iz => decide); (case ih => with_unfolding_all rfl); (case ig => intro _; with_unfolding_all rfl); k_whole)) | (k_here; (with_reducible show wpAny _ _ (call (Value.builtin _) [Value.str (Txt.join _ _) _]) _ _ _); k_dflt (refine' len_strN (words_join hws) ?_ ?_; omega)) | (k_here; (with_reducible show wpAny _ _ (subscriptTail _ (PySem.Expr.Slice _ none none _) (Value.ref _) (Value.ref _)) _ _ _); k_dflt (refine' drop_txts (j := 1) ?F ?N ?m ?z ?_ ?s ?t; walk_at "cF"; (case m => k_mem); (case z => rw [words_len (by assumption)]; omega); (case s => with_unfolding_all rfl); (case t => intro _; with_unfolding_all rfl)); intro D' h' F' N' l1; (try k_lt l1)) | (k_here; (with_reducible show wpAny _ _ (compareOp .NotEq (Value.ref _) (Value.ref _)) _ _ _); k_dflt (refine' ne_txtsE ?N ?m1 ?m2 hws ?he ?hu ?_; (case N => k_asm); (case m1 => k_mem); (case m2 => k_mem); (case he => simp only [List.map_append, List.map_cons, List.map_nil, List.map_replicate, List.cons_append, List.nil_append]); (case hu => ktr_units); k_whole)) | (k_here; (with_reducible show wpAny _ _ (call (Value.ref 167) _) _ _ _); k_dflt (refine' words_cU ?qx ?qR ?B ?F ?X ?T ?hk ?N ?c1 ?tb ?U1 ?U2 ?ne1 ?hdp ?hun ?_; (case qR => exact (hmail.reads _ hzq).1); (case qx => exact (hmail.reads _ hzq).2); walk_at "cB"; (case c1 => kn_code); (case tb => assumption); (case U1 => k_updF); (case U2 => k_updF); (case ne1 => exact ⟨by k_ne⟩); walk_at "cE"); intro tpw Ww cdo co wsw nw2 tdw h' tk' hws F' N' tbw hww s1' s2' s3' v1' v2' v3' v4' v5' v6'; walk_at "cD") | (k_here; (with_reducible show wpAny _ _ (call (Value.ref 139) _) _ _ _); k_dflt (refine' quote_c ?qx ?B ?F ?X ?T ?hk ?N ?hdp ?hun ?_; (case qx => exact MailOk.size (by assumption)); walk_at "cB"; walk_at "cE"); intro zq tzq h' tk' hzq F' N'; walk_at "cD") | (k_here; (with_reducible show wpAny _ _ (call (Value.builtin "str.join") [Value.str _ _, Value.ref _]) _ _ _); k_dflt (refine' join_txts ?jN ?jm ?ji ?jw ?_; (case jN => k_asm); (case jm => k_mem); (case ji => first | assumption | exact strsAre_list _); (case jw => first | (with_reducible assumption) | exact Nat.le_trans (MailOk.small (by assumption)) (by decide) | exact words_sum (by assumption) (by omega)); k_whole); intro _ _) | (k_here; (with_reducible show wpAny _ _ (subscriptTail _ _ (Value.ref _) (Value.int _ _)) _ _ _); k_dflt (refine' item_txts ?iN ?im ?ik ?iz ?ix ?_ ?ih ?ig; (case iN => k_asm); (case im => k_mem); (case ix => exact (hrow _).choose_spec); (case ik => omega); (case iz => omega); (case ih => with_unfolding_all rfl); (case ig => intro _; with_unfolding_all rfl); k_whole)) | (k_here; (rename RaisedN _ _ _ _ _ _ => rkX); k_dflt (refine' caught_cells ?fr ?F ?U rkX ?Tt PyProof.Rows.Boot.«ZeroDivisionError» PySem.F.isExc_ZeroDivisionError PySem.F.notTuple_ZeroDivisionError ?su ?mi ?nn ?_ ?hk ?hx ?hd ?hE; (case fr => rfl); (case U => assumption); (case F => assumption); (case Tt => k_asm); (case su => (rw [isSubtype_type]; kernel_rfl)); (case mi => exact mg_none_of (by k_asm) (TopRead.g (by k_asm)) (by k_is)); (case nn => decide); (case hk => rfl); (case hx => rfl); (case hd => decide); (case hE => passes_own)); intro h' F' N') | (k_here; (with_reducible show wpAny _ _ (exec (Stmt.Raise (some (Expr.Name _ _)) none _) _) _ _ _); (with_reducible rename Fr _ _ _ _ => kF); k_dflt (refine' Raise_classB rfl excClass_ZeroDivisionError ?hs ?hx ?_; (case hs => (rw [isSubtype_type]; kernel_rfl)); (case hx => (refine' name_B kF ?k1 ?k2 ?k3 ?k4 ?k5 ?_; (case k1 => k_asm); (case k2 => k_asm); (case k3 => k_is); (case k4 => boot_by_name); (case k5 => decide); exact ⟨rfl, rfl⟩))); intro _ _ _) | (k_here; (with_reducible show wpAny _ _ (call (Value.builtin _) [Value.str (mk _) _]) _ _ _); k_dflt (refine' mk_len ?hlm ?_; (case hlm => (simp only [List.length_replicate]; omega)); k_whole); (try simp only [List.length_replicate])) | (k_here; (with_reducible show wpAny _ _ (call (Value.builtin _) [Value.ref _]) _ _ _); k_dflt (refine' len_txts ?N ?m ?z ?_; (case N => k_asm); (case m => k_mem); (case z => (simp only [List.length_append, List.length_cons, List.length_nil, List.length_replicate]; omega)); k_whole); (try simp only [List.length_append, List.length_cons, List.length_nil, List.length_replicate, Nat.zero_add])) | (k_here; (with_reducible show wpAny _ _ (binaryOp .Add (Value.ref _) (Value.ref _)) _ _ _); k_dflt (refine' add_txts ?rF ?rN ?rm ?rm2 ?re ?re2 ?rz ?_; (case rF => k_asm); (case rN => k_asm); (case rm => k_mem); (case rm2 => k_mem); (case re => first | rfl | exact txts_one _ _); (case re2 => first | rfl | exact txts_one _ _); (case rz => (simp only [List.length_append, List.length_cons, List.length_nil, List.length_replicate]; omega)); k_whole); intro d' h' F' N' l1; (try k_lt l1)) | (k_here; (with_reducible show wpAny _ _ (binaryOp .Mult (Value.ref _) (Value.int _ _)) _ _ _); k_dflt (refine' rep_txtsN ?rF ?rN ?rm ?rk ?_; (case rF => k_asm); (case rN => k_asm); (case rm => k_mem); (case rk => omega); k_whole); intro d' h' F' N' l1; (try k_lt l1)) | (k_here; (with_reducible show wpAny _ _ (binaryOp .Mult (Value.str _ _) (Value.int _ _)) _ _ _); first | ((first | refine rep_signN e92 ?sk ?_ | refine rep_signN e46 ?sk ?_); (case sk => omega); intro _ _) | ((first | refine rep_sign e92 ?sk ?sk0 ?_ | refine rep_sign e46 ?sk ?sk0 ?_); (case sk => omega); (case sk0 => omega); intro _ _)) | (k_here; (with_reducible show wpAny _ _ (binaryOp .Mult (Value.int _ _) (Value.int _ _)) _ _ _); refine mul_int ?_ (mulok_small ?mha ?mhb); (case mha => omega); (case mhb => omega)))); k_steps)
    all_goals
      rename Fr h₀ L _ _ => FF
      rename News h₀ L _ _ => NN
      refine CiStop.go ?_
      first
      | exact ⟨(31 - 2 * far).toNat, by omega, 2 * far, e + 1, _, _, _, _, _, _, _, _, rfl, by rw [hfar]; exact dblS ds (e + 1), by omega, by omega, rfl, fr_known _ FF (List.forall_mem_cons.mpr ⟨rfl, List.forall_mem_cons.mpr ⟨rfl, List.forall_mem_cons.mpr ⟨rfl, List.forall_mem_cons.mpr ⟨rfl, List.forall_mem_cons.mpr ⟨rfl, List.forall_mem_nil _⟩⟩⟩⟩⟩), NN⟩
      | exact ⟨far, e, _, _, _, _, _, _, _, _, rfl, hfar, hf30, by omega, FF, NN⟩
  case fin =>
    clear F N
    rintro s' ⟨far, e, td, ts, tc, te, tf, u, hp, tk, rfl, hfar, hf30, hlt, FF, NN⟩
    (try dsimp only)
    k_steps
    repeat' (refine CiStop.go ?_; (with_reducible (first | (k_here; (with_reducible show wpAny _ _ (binaryOp .Add (Value.str _ _) (Value.str _ _)) _ _ _); (refine add_str (hsz := ?hsz) ?_); (case hsz => exact Nat.le_trans (Nat.add_le_add (by assumption) (show Str.length (Str.ofString _) ≤ 100 by decide +kernel)) (by rw [sizeLine_eq]; decide)); intro _ _) | (k_here; (with_reducible show wpAny _ _ (call (Value.ref 174) _) _ _ _); k_dflt (refine' divd_cU ?q1 ?q2 ?q3 ?q4 ?q5 ?q6 ?q7 ?B ?F ?X ?T ?hk ?N ?c1 ?c2 ?tb ?tb2 ?U1 ?U2 ?U3 ?U4 ?ne1 ?ne2 ?ne3 ?ne4 ?ne5 ?hdp ?hun ?_; (case q1 => exact dv_lo (by omega) (by omega) (by omega)); (case q2 => exact Int.mul_pos (by omega) (by omega)); (case q3 => exact dv_fact (Hid.h (by assumption))); (case q4 => exact dv_lo (by omega) (by omega) (by omega)); (case q5 => exact dv_hi (by omega) (by omega) (by omega)); (case q6 => exact dv_bits (by omega) (by omega) (by omega) (by omega)); (case q7 => exact dv_twice (by omega) (by omega) (by omega) (by omega) (by omega) (by omega)); walk_at "cB"; walk_at "cC"; walk_at "cA"; walk_at "cU"; walk_at "cE"); intro bb9 c3n oc3n c2n oc2n h' tk' F' N' tb3n tb2n hw3 hw2 s1' s2' v1' v2' v3' v4' v5' hbb; (subst hbb); walk_at "cD") | (k_here; (with_reducible show wpAny _ _ (call (Value.ref 153) _) _ _ _); k_dflt (refine' lev_c ?qa ?qb ?qm ?qm2 ?B ?F ?X ?T ?hk ?N ?hdp ?hun ?_; (case qa => rw [mk_length, List.length_replicate]; omega); (case qb => rw [mk_length, List.length_replicate]; omega); (case qm => omega); (case qm2 => omega); walk_at "cB"; walk_at "cE"); rw [mk_list, mk_list, hte]; intro tr9 h' tk' F' N'; walk_at "cD") | (k_here; (with_reducible show wpAny _ _ (subscriptTail _ _ (Value.ref _) (Value.int _ _)) _ _ _); k_dflt (refine' item_txts (j := 0) ?iN ?im ?ik ?iz ?ix ?_ ?ih ?ig; (case iN => k_asm); (case im => k_mem); (case ix => exact (words_head hws).choose_spec); (case ik => rfl); (case iz => decide); (case ih => with_unfolding_all rfl); (case ig => intro _; with_unfolding_all rfl); k_whole)) | (k_here; (with_reducible show wpAny _ _ (call (Value.builtin _) [Value.str (Txt.join _ _) _]) _ _ _); k_dflt (refine' len_strN (words_join hws) ?_ ?_; omega)) | (k_here; (with_reducible show wpAny _ _ (subscriptTail _ (PySem.Expr.Slice _ none none _) (Value.ref _) (Value.ref _)) _ _ _); k_dflt (refine' drop_txts (j := 1) ?F ?N ?m ?z ?_ ?s ?t; walk_at "cF"; (case m => k_mem); (case z => rw [words_len (by assumption)]; omega); (case s => with_unfolding_all rfl); (case t => intro _; with_unfolding_all rfl)); intro D' h' F' N' l1; (try k_lt l1)) | (k_here; (with_reducible show wpAny _ _ (compareOp .NotEq (Value.ref _) (Value.ref _)) _ _ _); k_dflt (refine' ne_txtsE ?N ?m1 ?m2 hws ?he ?hu ?_; (case N => k_asm); (case m1 => k_mem); (case m2 => k_mem); (case he => simp only [List.map_append, List.map_cons, List.map_nil, List.map_replicate, List.cons_append, List.nil_append]); (case hu => ktr_units); k_whole)) | (k_here; (with_reducible show wpAny _ _ (call (Value.ref 167) _) _ _ _); k_dflt (refine' words_cU ?qx ?qR ?B ?F ?X ?T ?hk ?N ?c1 ?tb ?U1 ?U2 ?ne1 ?hdp ?hun ?_; (case qR => exact (hmail.reads _ hzq).1); (case qx => exact (hmail.reads _ hzq).2); walk_at "cB"; (case c1 => kn_code); (case tb => assumption); (case U1 => k_updF); (case U2 => k_updF); (case ne1 => exact ⟨by k_ne⟩); walk_at "cE"); intro tpw Ww cdo co wsw nw2 tdw h' tk' hws F' N' tbw hww s1' s2' s3' v1' v2' v3' v4' v5' v6'; walk_at "cD") | (k_here; (with_reducible show wpAny _ _ (call (Value.ref 139) _) _ _ _); k_dflt (refine' quote_c ?qx ?B ?F ?X ?T ?hk ?N ?hdp ?hun ?_; (case qx => exact MailOk.size (by assumption)); walk_at "cB"; walk_at "cE"); intro zq tzq h' tk' hzq F' N'; walk_at "cD") | (k_here; (with_reducible show wpAny _ _ (call (Value.builtin "str.join") [Value.str _ _, Value.ref _]) _ _ _); k_dflt (refine' join_txts ?jN ?jm ?ji ?jw ?_; (case jN => k_asm); (case jm => k_mem); (case ji => first | assumption | exact strsAre_list _); (case jw => first | (with_reducible assumption) | exact Nat.le_trans (MailOk.small (by assumption)) (by decide) | exact words_sum (by assumption) (by omega)); k_whole); intro _ _) | (k_here; (with_reducible show wpAny _ _ (subscriptTail _ _ (Value.ref _) (Value.int _ _)) _ _ _); k_dflt (refine' item_txts ?iN ?im ?ik ?iz ?ix ?_ ?ih ?ig; (case iN => k_asm); (case im => k_mem); (case ix => exact (hrow _).choose_spec); (case ik => omega); (case iz => omega); (case ih => with_unfolding_all rfl); (case ig => intro _; with_unfolding_all rfl); k_whole)) | (k_here; (rename RaisedN _ _ _ _ _ _ => rkX); k_dflt (refine' caught_cells ?fr ?F ?U rkX ?Tt PyProof.Rows.Boot.«ZeroDivisionError» PySem.F.isExc_ZeroDivisionError PySem.F.notTuple_ZeroDivisionError ?su ?mi ?nn ?_ ?hk ?hx ?hd ?hE; (case fr => rfl); (case U => assumption); (case F => assumption); (case Tt => k_asm); (case su => (rw [isSubtype_type]; kernel_rfl)); (case mi => exact mg_none_of (by k_asm) (TopRead.g (by k_asm)) (by k_is)); (case nn => decide); (case hk => rfl); (case hx => rfl); (case hd => decide); (case hE => passes_own)); intro h' F' N') | (k_here; (with_reducible show wpAny _ _ (exec (Stmt.Raise (some (Expr.Name _ _)) none _) _) _ _ _); (with_reducible rename Fr _ _ _ _ => kF); k_dflt (refine' Raise_classB rfl excClass_ZeroDivisionError ?hs ?hx ?_; (case hs => (rw [isSubtype_type]; kernel_rfl)); (case hx => (refine' name_B kF ?k1 ?k2 ?k3 ?k4 ?k5 ?_; (case k1 => k_asm); (case k2 => k_asm); (case k3 => k_is); (case k4 => boot_by_name); (case k5 => decide); exact ⟨rfl, rfl⟩))); intro _ _ _) | (k_here; (with_reducible show wpAny _ _ (call (Value.builtin _) [Value.str (mk _) _]) _ _ _); k_dflt (refine' mk_len ?hlm ?_; (case hlm => (simp only [List.length_replicate]; omega)); k_whole); (try simp only [List.length_replicate])) | (k_here; (with_reducible show wpAny _ _ (call (Value.builtin _) [Value.ref _]) _ _ _); k_dflt (refine' len_txts ?N ?m ?z ?_; (case N => k_asm); (case m => k_mem); (case z => (simp only [List.length_append, List.length_cons, List.length_nil, List.length_replicate]; omega)); k_whole); (try simp only [List.length_append, List.length_cons, List.length_nil, List.length_replicate, Nat.zero_add])) | (k_here; (with_reducible show wpAny _ _ (binaryOp .Add (Value.ref _) (Value.ref _)) _ _ _); k_dflt (refine' add_txts ?rF ?rN ?rm ?rm2 ?re ?re2 ?rz ?_; (case rF => k_asm); (case rN => k_asm); (case rm => k_mem); (case rm2 => k_mem); (case re => first | rfl | exact txts_one _ _); (case re2 => first | rfl | exact txts_one _ _); (case rz => (simp only [List.length_append, List.length_cons, List.length_nil, List.length_replicate]; omega)); k_whole); intro d' h' F' N' l1; (try k_lt l1)) | (k_here; (with_reducible show wpAny _ _ (binaryOp .Mult (Value.ref _) (Value.int _ _)) _ _ _); k_dflt (refine' rep_txtsN ?rF ?rN ?rm ?rk ?_; (case rF => k_asm); (case rN => k_asm); (case rm => k_mem); (case rk => omega); k_whole); intro d' h' F' N' l1; (try k_lt l1)) | (k_here; (with_reducible show wpAny _ _ (binaryOp .Mult (Value.str _ _) (Value.int _ _)) _ _ _); first | ((first | refine rep_signN e92 ?sk ?_ | refine rep_signN e46 ?sk ?_); (case sk => omega); intro _ _) | ((first | refine rep_sign e92 ?sk ?sk0 ?_ | refine rep_sign e46 ?sk ?sk0 ?_); (case sk => omega); (case sk0 => omega); intro _ _)) | (k_here; (with_reducible show wpAny _ _ (binaryOp .Mult (Value.int _ _) (Value.int _ _)) _ _ _); refine mul_int ?_ (mulok_small ?mha ?mhb); (case mha => omega); (case mhb => omega)))); k_steps)
    rename Fr h₀ L _ _ => FF
    rename News h₀ L _ _ => NN
    refine CiStop.go ?_
    refine' wh_loopE (G_tail_J3 s ds r0 L h₀ hpv ex oH)
      (G_tail_J4 s h₀ L r0 ds hpv ex) (n0 := e + 1) ?h0 ?turn ?fin ?hE
    case hE => passes_own
    case h0 => exact ⟨far.toNat, e + 1, 0, r0, _, _, _, _, _, _, _, _, _, _, oR, xR, ps1, ps2, ps3, c₁, c₂, c₃, o₁, o₂, o₃, rfl, by rw [← hfar]; omega, rfl, by omega, by omega, by omega, hoR, tb1, tb2, tb3, nes, fr_known _ FF (List.forall_mem_cons.mpr ⟨rfl, List.forall_mem_cons.mpr ⟨rfl, List.forall_mem_cons.mpr ⟨rfl, List.forall_mem_cons.mpr ⟨rfl, List.forall_mem_cons.mpr ⟨rfl, List.forall_mem_cons.mpr ⟨rfl, List.forall_mem_cons.mpr ⟨rfl, List.forall_mem_nil _⟩⟩⟩⟩⟩⟩⟩), NN⟩
    case turn =>
      clear FF NN hoR tb1 tb2 tb3 nes hm
      rintro k s' ⟨nw, e, q, r, td, ts, tc, te, tr, tq, tz, u, hp, tk, oR, xR, ps1, ps2, ps3, c₁, c₂, c₃, o₁, o₂, o₃, rfl, hrw, rfl, hqr, hrr, hrw30, hoR, tb1, tb2, tb3, nes, FF, NN⟩
      have hq16 : q < 16 := q_bound hqr (by omega) (by omega)
      cases k with
      | zero =>
        have hrw := hrw.trans (dbl1 ds)
        k_steps
        repeat' (refine CiStop.go ?_; (with_reducible (first | (k_here; (with_reducible show wpAny _ _ (binaryOp .Add (Value.str _ _) (Value.str _ _)) _ _ _); (refine add_str (hsz := ?hsz) ?_); (case hsz => exact Nat.le_trans (Nat.add_le_add (by assumption) (show Str.length (Str.ofString _) ≤ 100 by decide +kernel)) (by rw [sizeLine_eq]; decide)); intro _ _) | (k_here; (with_reducible show wpAny _ _ (call (Value.ref 174) _) _ _ _); k_dflt (refine' divd_cU ?q1 ?q2 ?q3 ?q4 ?q5 ?q6 ?q7 ?B ?F ?X ?T ?hk ?N ?c1 ?c2 ?tb ?tb2 ?U1 ?U2 ?U3 ?U4 ?ne1 ?ne2 ?ne3 ?ne4 ?ne5 ?hdp ?hun ?_; (case q1 => exact dv_lo (by omega) (by omega) (by omega)); (case q2 => exact Int.mul_pos (by omega) (by omega)); (case q3 => exact dv_fact (Hid.h (by assumption))); (case q4 => exact dv_lo (by omega) (by omega) (by omega)); (case q5 => exact dv_hi (by omega) (by omega) (by omega)); (case q6 => exact dv_bits (by omega) (by omega) (by omega) (by omega)); (case q7 => exact dv_twice (by omega) (by omega) (by omega) (by omega) (by omega) (by omega)); walk_at "cB"; walk_at "cC"; walk_at "cA"; walk_at "cU"; walk_at "cE"); intro bb9 c3n oc3n c2n oc2n h' tk' F' N' tb3n tb2n hw3 hw2 s1' s2' v1' v2' v3' v4' v5' hbb; (subst hbb); walk_at "cD") | (k_here; (with_reducible show wpAny _ _ (call (Value.ref 153) _) _ _ _); k_dflt (refine' lev_c ?qa ?qb ?qm ?qm2 ?B ?F ?X ?T ?hk ?N ?hdp ?hun ?_; (case qa => rw [mk_length, List.length_replicate]; omega); (case qb => rw [mk_length, List.length_replicate]; omega); (case qm => omega); (case qm2 => omega); walk_at "cB"; walk_at "cE"); rw [mk_list, mk_list, hte]; intro tr9 h' tk' F' N'; walk_at "cD") | (k_here; (with_reducible show wpAny _ _ (subscriptTail _ _ (Value.ref _) (Value.int _ _)) _ _ _); k_dflt (refine' item_txts (j := 0) ?iN ?im ?ik ?iz ?ix ?_ ?ih ?ig; (case iN => k_asm); (case im => k_mem); (case ix => exact (words_head hws).choose_spec); (case ik => rfl); (case iz => decide); (case ih => with_unfolding_all rfl); (case ig => intro _; with_unfolding_all rfl); k_whole)) | (k_here; (with_reducible show wpAny _ _ (call (Value.builtin _) [Value.str (Txt.join _ _) _]) _ _ _); k_dflt (refine' len_strN (words_join hws) ?_ ?_; omega)) | (k_here; (with_reducible show wpAny _ _ (subscriptTail _ (PySem.Expr.Slice _ none none _) (Value.ref _) (Value.ref _)) _ _ _); k_dflt (refine' drop_txts (j := 1) ?F ?N ?m ?z ?_ ?s ?t; walk_at "cF"; (case m => k_mem); (case z => rw [words_len (by assumption)]; omega); (case s => with_unfolding_all rfl); (case t => intro _; with_unfolding_all rfl)); intro D' h' F' N' l1; (try k_lt l1)) | (k_here; (with_reducible show wpAny _ _ (compareOp .NotEq (Value.ref _) (Value.ref _)) _ _ _); k_dflt (refine' ne_txtsE ?N ?m1 ?m2 hws ?he ?hu ?_; (case N => k_asm); (case m1 => k_mem); (case m2 => k_mem); (case he => simp only [List.map_append, List.map_cons, List.map_nil, List.map_replicate, List.cons_append, List.nil_append]); (case hu => ktr_units); k_whole)) | (k_here; (with_reducible show wpAny _ _ (call (Value.ref 167) _) _ _ _); k_dflt (refine' words_cU ?qx ?qR ?B ?F ?X ?T ?hk ?N ?c1 ?tb ?U1 ?U2 ?ne1 ?hdp ?hun ?_; (case qR => exact (hmail.reads _ hzq).1); (case qx => exact (hmail.reads _ hzq).2); walk_at "cB"; (case c1 => kn_code); (case tb => assumption); (case U1 => k_updF); (case U2 => k_updF); (case ne1 => exact ⟨by k_ne⟩); walk_at "cE"); intro tpw Ww cdo co wsw nw2 tdw h' tk' hws F' N' tbw hww s1' s2' s3' v1' v2' v3' v4' v5' v6'; walk_at "cD") | (k_here; (with_reducible show wpAny _ _ (call (Value.ref 139) _) _ _ _); k_dflt (refine' quote_c ?qx ?B ?F ?X ?T ?hk ?N ?hdp ?hun ?_; (case qx => exact MailOk.size (by assumption)); walk_at "cB"; walk_at "cE"); intro zq tzq h' tk' hzq F' N'; walk_at "cD") | (k_here; (with_reducible show wpAny _ _ (call (Value.builtin "str.join") [Value.str _ _, Value.ref _]) _ _ _); k_dflt (refine' join_txts ?jN ?jm ?ji ?jw ?_; (case jN => k_asm); (case jm => k_mem); (case ji => first | assumption | exact strsAre_list _); (case jw => first | (with_reducible assumption) | exact Nat.le_trans (MailOk.small (by assumption)) (by decide) | exact words_sum (by assumption) (by omega)); k_whole); intro _ _) | (k_here; (with_reducible show wpAny _ _ (subscriptTail _ _ (Value.ref _) (Value.int _ _)) _ _ _); k_dflt (refine' item_txts ?iN ?im ?ik ?iz ?ix ?_ ?ih ?ig; (case iN => k_asm); (case im => k_mem); (case ix => exact (hrow _).choose_spec); (case ik => omega); (case iz => omega); (case ih => with_unfolding_all rfl); (case ig => intro _; with_unfolding_all rfl); k_whole)) | (k_here; (rename RaisedN _ _ _ _ _ _ => rkX); k_dflt (refine' caught_cells ?fr ?F ?U rkX ?Tt PyProof.Rows.Boot.«ZeroDivisionError» PySem.F.isExc_ZeroDivisionError PySem.F.notTuple_ZeroDivisionError ?su ?mi ?nn ?_ ?hk ?hx ?hd ?hE; (case fr => rfl); (case U => assumption); (case F => assumption); (case Tt => k_asm); (case su => (rw [isSubtype_type]; kernel_rfl)); (case mi => exact mg_none_of (by k_asm) (TopRead.g (by k_asm)) (by k_is)); (case nn => decide); (case hk => rfl); (case hx => rfl); (case hd => decide); (case hE => passes_own)); intro h' F' N') | (k_here; (with_reducible show wpAny _ _ (exec (Stmt.Raise (some (Expr.Name _ _)) none _) _) _ _ _); (with_reducible rename Fr _ _ _ _ => kF); k_dflt (refine' Raise_classB rfl excClass_ZeroDivisionError ?hs ?hx ?_; (case hs => (rw [isSubtype_type]; kernel_rfl)); (case hx => (refine' name_B kF ?k1 ?k2 ?k3 ?k4 ?k5 ?_; (case k1 => k_asm); (case k2 => k_asm); (case k3 => k_is); (case k4 => boot_by_name); (case k5 => decide); exact ⟨rfl, rfl⟩))); intro _ _ _) | (k_here; (with_reducible show wpAny _ _ (call (Value.builtin _) [Value.str (mk _) _]) _ _ _); k_dflt (refine' mk_len ?hlm ?_; (case hlm => (simp only [List.length_replicate]; omega)); k_whole); (try simp only [List.length_replicate])) | (k_here; (with_reducible show wpAny _ _ (call (Value.builtin _) [Value.ref _]) _ _ _); k_dflt (refine' len_txts ?N ?m ?z ?_; (case N => k_asm); (case m => k_mem); (case z => (simp only [List.length_append, List.length_cons, List.length_nil, List.length_replicate]; omega)); k_whole); (try simp only [List.length_append, List.length_cons, List.length_nil, List.length_replicate, Nat.zero_add])) | (k_here; (with_reducible show wpAny _ _ (binaryOp .Add (Value.ref _) (Value.ref _)) _ _ _); k_dflt (refine' add_txts ?rF ?rN ?rm ?rm2 ?re ?re2 ?rz ?_; (case rF => k_asm); (case rN => k_asm); (case rm => k_mem); (case rm2 => k_mem); (case re => first | rfl | exact txts_one _ _); (case re2 => first | rfl | exact txts_one _ _); (case rz => (simp only [List.length_append, List.length_cons, List.length_nil, List.length_replicate]; omega)); k_whole); intro d' h' F' N' l1; (try k_lt l1)) | (k_here; (with_reducible show wpAny _ _ (binaryOp .Mult (Value.ref _) (Value.int _ _)) _ _ _); k_dflt (refine' rep_txtsN ?rF ?rN ?rm ?rk ?_; (case rF => k_asm); (case rN => k_asm); (case rm => k_mem); (case rk => omega); k_whole); intro d' h' F' N' l1; (try k_lt l1)) | (k_here; (with_reducible show wpAny _ _ (binaryOp .Mult (Value.str _ _) (Value.int _ _)) _ _ _); first | ((first | refine rep_signN e92 ?sk ?_ | refine rep_signN e46 ?sk ?_); (case sk => omega); intro _ _) | ((first | refine rep_sign e92 ?sk ?sk0 ?_ | refine rep_sign e46 ?sk ?sk0 ?_); (case sk => omega); (case sk0 => omega); intro _ _)) | (k_here; (with_reducible show wpAny _ _ (binaryOp .Mult (Value.int _ _) (Value.int _ _)) _ _ _); refine mul_int ?_ (mulok_small ?mha ?mhb); (case mha => omega); (case mhb => omega)))); k_steps)
        rename Fr h₀ L _ _ => FF
        exact CiStop.go ⟨td, ts, tc, te, _, _, _, ps1, ps2, ps3, rfl, fr_known _ FF (List.forall_mem_cons.mpr ⟨rfl, List.forall_mem_cons.mpr ⟨rfl, List.forall_mem_cons.mpr ⟨rfl, List.forall_mem_cons.mpr ⟨rfl, List.forall_mem_nil _⟩⟩⟩⟩), (news_cons NN (by k_dflt k_mem) (news_cons NN (by k_dflt k_mem) (news_cons NN (by k_dflt k_mem) News.nil)))⟩
      | succ e =>
        have hrw := hrw.trans (dblS ds e).symm
        have n1 := nes.1
        have n2 := nes.2.1
        have n3 := nes.2.2.1
        have n4 := nes.2.2.2.1
        have n5 := nes.2.2.2.2.1
        have n6 := nes.2.2.2.2.2.1
        have n7 := nes.2.2.2.2.2.2.1
        have n8 := nes.2.2.2.2.2.2.2.1
        have n9 := nes.2.2.2.2.2.2.2.2.1
        have n10 := nes.2.2.2.2.2.2.2.2.2.1
        have n11 := nes.2.2.2.2.2.2.2.2.2.2.1
        have n12 := nes.2.2.2.2.2.2.2.2.2.2.2.1
        have n13 := nes.2.2.2.2.2.2.2.2.2.2.2.2.1
        have n14 := nes.2.2.2.2.2.2.2.2.2.2.2.2.2.1
        have n15 := nes.2.2.2.2.2.2.2.2.2.2.2.2.2.2.1
        have n16 := nes.2.2.2.2.2.2.2.2.2.2.2.2.2.2.2.1
        have n17 := nes.2.2.2.2.2.2.2.2.2.2.2.2.2.2.2.2.1
        have n18 := nes.2.2.2.2.2.2.2.2.2.2.2.2.2.2.2.2.2
        clear nes
        have hpos : 0 < ds * 2 ^ e := Int.mul_pos (by omega) (Int.pow_pos (by decide))
        obtain ⟨nv, hnv⟩ := Int.eq_ofNat_of_zero_le (Int.le_of_lt hpos)
        obtain rfl : nw = 2 * nv := by omega
        have hge : ds * 1 ≤ ds * 2 ^ e := Int.mul_le_mul_of_nonneg_left (by have := Int.pow_pos (n := 2) (m := e) (by decide); omega) (by omega)
        k_steps
        repeat' (refine CiStop.go ?_; (with_reducible (first | (k_here; (with_reducible show wpAny _ _ (binaryOp .Add (Value.str _ _) (Value.str _ _)) _ _ _); (refine add_str (hsz := ?hsz) ?_); (case hsz => exact Nat.le_trans (Nat.add_le_add (by assumption) (show Str.length (Str.ofString _) ≤ 100 by decide +kernel)) (by rw [sizeLine_eq]; decide)); intro _ _) | (k_here; (with_reducible show wpAny _ _ (call (Value.ref 174) _) _ _ _); k_dflt (refine' divd_cU ?q1 ?q2 ?q3 ?q4 ?q5 ?q6 ?q7 ?B ?F ?X ?T ?hk ?N ?c1 ?c2 ?tb ?tb2 ?U1 ?U2 ?U3 ?U4 ?ne1 ?ne2 ?ne3 ?ne4 ?ne5 ?hdp ?hun ?_; (case q1 => exact dv_lo (by omega) (by omega) (by omega)); (case q2 => exact Int.mul_pos (by omega) (by omega)); (case q3 => exact dv_fact (Hid.h (by assumption))); (case q4 => exact dv_lo (by omega) (by omega) (by omega)); (case q5 => exact dv_hi (by omega) (by omega) (by omega)); (case q6 => exact dv_bits (by omega) (by omega) (by omega) (by omega)); (case q7 => exact dv_twice (by omega) (by omega) (by omega) (by omega) (by omega) (by omega)); walk_at "cB"; walk_at "cC"; walk_at "cA"; walk_at "cU"; walk_at "cE"); intro bb9 c3n oc3n c2n oc2n h' tk' F' N' tb3n tb2n hw3 hw2 s1' s2' v1' v2' v3' v4' v5' hbb; (subst hbb); walk_at "cD") | (k_here; (with_reducible show wpAny _ _ (call (Value.ref 153) _) _ _ _); k_dflt (refine' lev_c ?qa ?qb ?qm ?qm2 ?B ?F ?X ?T ?hk ?N ?hdp ?hun ?_; (case qa => rw [mk_length, List.length_replicate]; omega); (case qb => rw [mk_length, List.length_replicate]; omega); (case qm => omega); (case qm2 => omega); walk_at "cB"; walk_at "cE"); rw [mk_list, mk_list, hte]; intro tr9 h' tk' F' N'; walk_at "cD") | (k_here; (with_reducible show wpAny _ _ (subscriptTail _ _ (Value.ref _) (Value.int _ _)) _ _ _); k_dflt (refine' item_txts (j := 0) ?iN ?im ?ik ?iz ?ix ?_ ?ih ?ig; (case iN => k_asm); (case im => k_mem); (case ix => exact (words_head hws).choose_spec); (case ik => rfl); (case iz => decide); (case ih => with_unfolding_all rfl); (case ig => intro _; with_unfolding_all rfl); k_whole)) | (k_here; (with_reducible show wpAny _ _ (call (Value.builtin _) [Value.str (Txt.join _ _) _]) _ _ _); k_dflt (refine' len_strN (words_join hws) ?_ ?_; omega)) | (k_here; (with_reducible show wpAny _ _ (subscriptTail _ (PySem.Expr.Slice _ none none _) (Value.ref _) (Value.ref _)) _ _ _); k_dflt (refine' drop_txts (j := 1) ?F ?N ?m ?z ?_ ?s ?t; walk_at "cF"; (case m => k_mem); (case z => rw [words_len (by assumption)]; omega); (case s => with_unfolding_all rfl); (case t => intro _; with_unfolding_all rfl)); intro D' h' F' N' l1; (try k_lt l1)) | (k_here; (with_reducible show wpAny _ _ (compareOp .NotEq (Value.ref _) (Value.ref _)) _ _ _); k_dflt (refine' ne_txtsE ?N ?m1 ?m2 hws ?he ?hu ?_; (case N => k_asm); (case m1 => k_mem); (case m2 => k_mem); (case he => simp only [List.map_append, List.map_cons, List.map_nil, List.map_replicate, List.cons_append, List.nil_append]); (case hu => ktr_units); k_whole)) | (k_here; (with_reducible show wpAny _ _ (call (Value.ref 167) _) _ _ _); k_dflt (refine' words_cU ?qx ?qR ?B ?F ?X ?T ?hk ?N ?c1 ?tb ?U1 ?U2 ?ne1 ?hdp ?hun ?_; (case qR => exact (hmail.reads _ hzq).1); (case qx => exact (hmail.reads _ hzq).2); walk_at "cB"; (case c1 => kn_code); (case tb => assumption); (case U1 => k_updF); (case U2 => k_updF); (case ne1 => exact ⟨by k_ne⟩); walk_at "cE"); intro tpw Ww cdo co wsw nw2 tdw h' tk' hws F' N' tbw hww s1' s2' s3' v1' v2' v3' v4' v5' v6'; walk_at "cD") | (k_here; (with_reducible show wpAny _ _ (call (Value.ref 139) _) _ _ _); k_dflt (refine' quote_c ?qx ?B ?F ?X ?T ?hk ?N ?hdp ?hun ?_; (case qx => exact MailOk.size (by assumption)); walk_at "cB"; walk_at "cE"); intro zq tzq h' tk' hzq F' N'; walk_at "cD") | (k_here; (with_reducible show wpAny _ _ (call (Value.builtin "str.join") [Value.str _ _, Value.ref _]) _ _ _); k_dflt (refine' join_txts ?jN ?jm ?ji ?jw ?_; (case jN => k_asm); (case jm => k_mem); (case ji => first | assumption | exact strsAre_list _); (case jw => first | (with_reducible assumption) | exact Nat.le_trans (MailOk.small (by assumption)) (by decide) | exact words_sum (by assumption) (by omega)); k_whole); intro _ _) | (k_here; (with_reducible show wpAny _ _ (subscriptTail _ _ (Value.ref _) (Value.int _ _)) _ _ _); k_dflt (refine' item_txts ?iN ?im ?ik ?iz ?ix ?_ ?ih ?ig; (case iN => k_asm); (case im => k_mem); (case ix => exact (hrow _).choose_spec); (case ik => omega); (case iz => omega); (case ih => with_unfolding_all rfl); (case ig => intro _; with_unfolding_all rfl); k_whole)) | (k_here; (rename RaisedN _ _ _ _ _ _ => rkX); k_dflt (refine' caught_cells ?fr ?F ?U rkX ?Tt PyProof.Rows.Boot.«ZeroDivisionError» PySem.F.isExc_ZeroDivisionError PySem.F.notTuple_ZeroDivisionError ?su ?mi ?nn ?_ ?hk ?hx ?hd ?hE; (case fr => rfl); (case U => assumption); (case F => assumption); (case Tt => k_asm); (case su => (rw [isSubtype_type]; kernel_rfl)); (case mi => exact mg_none_of (by k_asm) (TopRead.g (by k_asm)) (by k_is)); (case nn => decide); (case hk => rfl); (case hx => rfl); (case hd => decide); (case hE => passes_own)); intro h' F' N') | (k_here; (with_reducible show wpAny _ _ (exec (Stmt.Raise (some (Expr.Name _ _)) none _) _) _ _ _); (with_reducible rename Fr _ _ _ _ => kF); k_dflt (refine' Raise_classB rfl excClass_ZeroDivisionError ?hs ?hx ?_; (case hs => (rw [isSubtype_type]; kernel_rfl)); (case hx => (refine' name_B kF ?k1 ?k2 ?k3 ?k4 ?k5 ?_; (case k1 => k_asm); (case k2 => k_asm); (case k3 => k_is); (case k4 => boot_by_name); (case k5 => decide); exact ⟨rfl, rfl⟩))); intro _ _ _) | (k_here; (with_reducible show wpAny _ _ (call (Value.builtin _) [Value.str (mk _) _]) _ _ _); k_dflt (refine' mk_len ?hlm ?_; (case hlm => (simp only [List.length_replicate]; omega)); k_whole); (try simp only [List.length_replicate])) | (k_here; (with_reducible show wpAny _ _ (call (Value.builtin _) [Value.ref _]) _ _ _); k_dflt (refine' len_txts ?N ?m ?z ?_; (case N => k_asm); (case m => k_mem); (case z => (simp only [List.length_append, List.length_cons, List.length_nil, List.length_replicate]; omega)); k_whole); (try simp only [List.length_append, List.length_cons, List.length_nil, List.length_replicate, Nat.zero_add])) | (k_here; (with_reducible show wpAny _ _ (binaryOp .Add (Value.ref _) (Value.ref _)) _ _ _); k_dflt (refine' add_txts ?rF ?rN ?rm ?rm2 ?re ?re2 ?rz ?_; (case rF => k_asm); (case rN => k_asm); (case rm => k_mem); (case rm2 => k_mem); (case re => first | rfl | exact txts_one _ _); (case re2 => first | rfl | exact txts_one _ _); (case rz => (simp only [List.length_append, List.length_cons, List.length_nil, List.length_replicate]; omega)); k_whole); intro d' h' F' N' l1; (try k_lt l1)) | (k_here; (with_reducible show wpAny _ _ (binaryOp .Mult (Value.ref _) (Value.int _ _)) _ _ _); k_dflt (refine' rep_txtsN ?rF ?rN ?rm ?rk ?_; (case rF => k_asm); (case rN => k_asm); (case rm => k_mem); (case rk => omega); k_whole); intro d' h' F' N' l1; (try k_lt l1)) | (k_here; (with_reducible show wpAny _ _ (binaryOp .Mult (Value.str _ _) (Value.int _ _)) _ _ _); first | ((first | refine rep_signN e92 ?sk ?_ | refine rep_signN e46 ?sk ?_); (case sk => omega); intro _ _) | ((first | refine rep_sign e92 ?sk ?sk0 ?_ | refine rep_sign e46 ?sk ?sk0 ?_); (case sk => omega); (case sk0 => omega); intro _ _)) | (k_here; (with_reducible show wpAny _ _ (binaryOp .Mult (Value.int _ _) (Value.int _ _)) _ _ _); refine mul_int ?_ (mulok_small ?mha ?mhb); (case mha => omega); (case mhb => omega)))); k_steps)
        refine CiStop.go ?_
        refine' LCg.CompSrc.range rfl ?F0 ?N0 ?hr0 ?sm0 (rangeSize_nat _ _) ?fit0 ?_
        case F0 => k_asm
        case N0 => k_asm
        case hr0 => assumption
        case sm0 => exact small_one (by decide) (by decide) (by omega) (by omega)
        case fit0 => rw [sizeLine_eq]; omega
        intro g0
        refine' cx_range (fun k v => ∃ x t, (mk (List.replicate (2 * nv) 92) :: List.replicate q (Str.ofString "."))[k]? = some x ∧ v = Value.str (x ++ endS (hpv + ((0 + k : Nat) : Int))) t) ?turn0 ?fin0
        case turn0 =>
          intro k t I oI C oC D m2 ys2 h tk E2 hk hC hx FF NN off ne
          have hk1 : k < 1 + q := by omega
          obtain ⟨x, hxs, hrow⟩ := row_at (x0 := mk (List.replicate (2 * nv) 92)) (d := Str.ofString ".") (t0 := tr) hk1
          have hxl : x.length ≤ 100 := row_small hxs (by omega)
          k_steps
          repeat' (refine CiStop.go ?_; (with_reducible (first | (k_here; (with_reducible show wpAny _ _ (binaryOp .Add (Value.str _ _) (Value.str _ _)) _ _ _); (refine add_str (hsz := ?hsz) ?_); (case hsz => exact Nat.le_trans (Nat.add_le_add (by assumption) (show Str.length (Str.ofString _) ≤ 100 by decide +kernel)) (by rw [sizeLine_eq]; decide)); intro _ _) | (k_here; (with_reducible show wpAny _ _ (call (Value.ref 174) _) _ _ _); k_dflt (refine' divd_cU ?q1 ?q2 ?q3 ?q4 ?q5 ?q6 ?q7 ?B ?F ?X ?T ?hk ?N ?c1 ?c2 ?tb ?tb2 ?U1 ?U2 ?U3 ?U4 ?ne1 ?ne2 ?ne3 ?ne4 ?ne5 ?hdp ?hun ?_; (case q1 => exact dv_lo (by omega) (by omega) (by omega)); (case q2 => exact Int.mul_pos (by omega) (by omega)); (case q3 => exact dv_fact (Hid.h (by assumption))); (case q4 => exact dv_lo (by omega) (by omega) (by omega)); (case q5 => exact dv_hi (by omega) (by omega) (by omega)); (case q6 => exact dv_bits (by omega) (by omega) (by omega) (by omega)); (case q7 => exact dv_twice (by omega) (by omega) (by omega) (by omega) (by omega) (by omega)); walk_at "cB"; walk_at "cC"; walk_at "cA"; walk_at "cU"; walk_at "cE"); intro bb9 c3n oc3n c2n oc2n h' tk' F' N' tb3n tb2n hw3 hw2 s1' s2' v1' v2' v3' v4' v5' hbb; (subst hbb); walk_at "cD") | (k_here; (with_reducible show wpAny _ _ (call (Value.ref 153) _) _ _ _); k_dflt (refine' lev_c ?qa ?qb ?qm ?qm2 ?B ?F ?X ?T ?hk ?N ?hdp ?hun ?_; (case qa => rw [mk_length, List.length_replicate]; omega); (case qb => rw [mk_length, List.length_replicate]; omega); (case qm => omega); (case qm2 => omega); walk_at "cB"; walk_at "cE"); rw [mk_list, mk_list, hte]; intro tr9 h' tk' F' N'; walk_at "cD") | (k_here; (with_reducible show wpAny _ _ (subscriptTail _ _ (Value.ref _) (Value.int _ _)) _ _ _); k_dflt (refine' item_txts (j := 0) ?iN ?im ?ik ?iz ?ix ?_ ?ih ?ig; (case iN => k_asm); (case im => k_mem); (case ix => exact (words_head hws).choose_spec); (case ik => rfl); (case iz => decide); (case ih => with_unfolding_all rfl); (case ig => intro _; with_unfolding_all rfl); k_whole)) | (k_here; (with_reducible show wpAny _ _ (call (Value.builtin _) [Value.str (Txt.join _ _) _]) _ _ _); k_dflt (refine' len_strN (words_join hws) ?_ ?_; omega)) | (k_here; (with_reducible show wpAny _ _ (subscriptTail _ (PySem.Expr.Slice _ none none _) (Value.ref _) (Value.ref _)) _ _ _); k_dflt (refine' drop_txts (j := 1) ?F ?N ?m ?z ?_ ?s ?t; walk_at "cF"; (case m => k_mem); (case z => rw [words_len (by assumption)]; omega); (case s => with_unfolding_all rfl); (case t => intro _; with_unfolding_all rfl)); intro D' h' F' N' l1; (try k_lt l1)) | (k_here; (with_reducible show wpAny _ _ (compareOp .NotEq (Value.ref _) (Value.ref _)) _ _ _); k_dflt (refine' ne_txtsE ?N ?m1 ?m2 hws ?he ?hu ?_; (case N => k_asm); (case m1 => k_mem); (case m2 => k_mem); (case he => simp only [List.map_append, List.map_cons, List.map_nil, List.map_replicate, List.cons_append, List.nil_append]); (case hu => ktr_units); k_whole)) | (k_here; (with_reducible show wpAny _ _ (call (Value.ref 167) _) _ _ _); k_dflt (refine' words_cU ?qx ?qR ?B ?F ?X ?T ?hk ?N ?c1 ?tb ?U1 ?U2 ?ne1 ?hdp ?hun ?_; (case qR => exact (hmail.reads _ hzq).1); (case qx => exact (hmail.reads _ hzq).2); walk_at "cB"; (case c1 => kn_code); (case tb => assumption); (case U1 => k_updF); (case U2 => k_updF); (case ne1 => exact ⟨by k_ne⟩); walk_at "cE"); intro tpw Ww cdo co wsw nw2 tdw h' tk' hws F' N' tbw hww s1' s2' s3' v1' v2' v3' v4' v5' v6'; walk_at "cD") | (k_here; (with_reducible show wpAny _ _ (call (Value.ref 139) _) _ _ _); k_dflt (refine' quote_c ?qx ?B ?F ?X ?T ?hk ?N ?hdp ?hun ?_; (case qx => exact MailOk.size (by assumption)); walk_at "cB"; walk_at "cE"); intro zq tzq h' tk' hzq F' N'; walk_at "cD") | (k_here; (with_reducible show wpAny _ _ (call (Value.builtin "str.join") [Value.str _ _, Value.ref _]) _ _ _); k_dflt (refine' join_txts ?jN ?jm ?ji ?jw ?_; (case jN => k_asm); (case jm => k_mem); (case ji => first | assumption | exact strsAre_list _); (case jw => first | (with_reducible assumption) | exact Nat.le_trans (MailOk.small (by assumption)) (by decide) | exact words_sum (by assumption) (by omega)); k_whole); intro _ _) | (k_here; (with_reducible show wpAny _ _ (subscriptTail _ _ (Value.ref _) (Value.int _ _)) _ _ _); k_dflt (refine' item_txts ?iN ?im ?ik ?iz ?ix ?_ ?ih ?ig; (case iN => k_asm); (case im => k_mem); (case ix => exact (hrow _).choose_spec); (case ik => omega); (case iz => omega); (case ih => with_unfolding_all rfl); (case ig => intro _; with_unfolding_all rfl); k_whole)) | (k_here; (rename RaisedN _ _ _ _ _ _ => rkX); k_dflt (refine' caught_cells ?fr ?F ?U rkX ?Tt PyProof.Rows.Boot.«ZeroDivisionError» PySem.F.isExc_ZeroDivisionError PySem.F.notTuple_ZeroDivisionError ?su ?mi ?nn ?_ ?hk ?hx ?hd ?hE; (case fr => rfl); (case U => assumption); (case F => assumption); (case Tt => k_asm); (case su => (rw [isSubtype_type]; kernel_rfl)); (case mi => exact mg_none_of (by k_asm) (TopRead.g (by k_asm)) (by k_is)); (case nn => decide); (case hk => rfl); (case hx => rfl); (case hd => decide); (case hE => passes_own)); intro h' F' N') | (k_here; (with_reducible show wpAny _ _ (exec (Stmt.Raise (some (Expr.Name _ _)) none _) _) _ _ _); (with_reducible rename Fr _ _ _ _ => kF); k_dflt (refine' Raise_classB rfl excClass_ZeroDivisionError ?hs ?hx ?_; (case hs => (rw [isSubtype_type]; kernel_rfl)); (case hx => (refine' name_B kF ?k1 ?k2 ?k3 ?k4 ?k5 ?_; (case k1 => k_asm); (case k2 => k_asm); (case k3 => k_is); (case k4 => boot_by_name); (case k5 => decide); exact ⟨rfl, rfl⟩))); intro _ _ _) | (k_here; (with_reducible show wpAny _ _ (call (Value.builtin _) [Value.str (mk _) _]) _ _ _); k_dflt (refine' mk_len ?hlm ?_; (case hlm => (simp only [List.length_replicate]; omega)); k_whole); (try simp only [List.length_replicate])) | (k_here; (with_reducible show wpAny _ _ (call (Value.builtin _) [Value.ref _]) _ _ _); k_dflt (refine' len_txts ?N ?m ?z ?_; (case N => k_asm); (case m => k_mem); (case z => (simp only [List.length_append, List.length_cons, List.length_nil, List.length_replicate]; omega)); k_whole); (try simp only [List.length_append, List.length_cons, List.length_nil, List.length_replicate, Nat.zero_add])) | (k_here; (with_reducible show wpAny _ _ (binaryOp .Add (Value.ref _) (Value.ref _)) _ _ _); k_dflt (refine' add_txts ?rF ?rN ?rm ?rm2 ?re ?re2 ?rz ?_; (case rF => k_asm); (case rN => k_asm); (case rm => k_mem); (case rm2 => k_mem); (case re => first | rfl | exact txts_one _ _); (case re2 => first | rfl | exact txts_one _ _); (case rz => (simp only [List.length_append, List.length_cons, List.length_nil, List.length_replicate]; omega)); k_whole); intro d' h' F' N' l1; (try k_lt l1)) | (k_here; (with_reducible show wpAny _ _ (binaryOp .Mult (Value.ref _) (Value.int _ _)) _ _ _); k_dflt (refine' rep_txtsN ?rF ?rN ?rm ?rk ?_; (case rF => k_asm); (case rN => k_asm); (case rm => k_mem); (case rk => omega); k_whole); intro d' h' F' N' l1; (try k_lt l1)) | (k_here; (with_reducible show wpAny _ _ (binaryOp .Mult (Value.str _ _) (Value.int _ _)) _ _ _); first | ((first | refine rep_signN e92 ?sk ?_ | refine rep_signN e46 ?sk ?_); (case sk => omega); intro _ _) | ((first | refine rep_sign e92 ?sk ?sk0 ?_ | refine rep_sign e46 ?sk ?sk0 ?_); (case sk => omega); (case sk0 => omega); intro _ _)) | (k_here; (with_reducible show wpAny _ _ (binaryOp .Mult (Value.int _ _) (Value.int _ _)) _ _ _); refine mul_int ?_ (mulok_small ?mha ?mhb); (case mha => omega); (case mhb => omega)))); k_steps)
          all_goals
            rename Fr _ _ _ _ => FF
            rename News _ _ _ _ => NN
            first
            | exact CiStop.go ⟨_, _, _, rfl, FF, fun p hp => NN p (List.mem_cons_of_mem _ hp), off, trivial, rfl, x, _, hxs, congrArg (fun y => Value.str (x ++ y) _) (end_0 (by assumption))⟩
            | exact CiStop.go ⟨_, _, _, rfl, FF, fun p hp => NN p (List.mem_cons_of_mem _ hp), off, trivial, rfl, x, _, hxs, congrArg (fun y => Value.str (x ++ y) _) (end_1 (by assumption))⟩
            | exact CiStop.go ⟨_, _, _, rfl, FF, fun p hp => NN p (List.mem_cons_of_mem _ hp), off, trivial, rfl, x, _, hxs, congrArg (fun y => Value.str (x ++ y) _) (end_2 (by assumption))⟩
        case fin0 =>
          intro ys5 hl5 hel
          have hl6 : ys5.length = 1 + q := by omega
          obtain ⟨ts5, hts, htl, htc, htn⟩ := mail_of _ ys5 0 (by rw [hl6, List.length_cons, List.length_replicate]; omega) hel
          have hmail : MailOk hpv nv q ts5 := mail_ok (by omega) (by omega) hq16 (by omega) htc htn
          have hfd : FdK ((2 * nv : Nat) : Int) 2 (nv : Int) := ⟨(fdiv_of (q := (nv : Int)) (r := 0) (by decide) (by omega) (by decide) (by decide)).1⟩
          have hr16 : r < 16 := by have h9 := Int.mul_nonneg (show (0 : Int) ≤ (q : Int) by omega) (show (0 : Int) ≤ ((2 * nv : Nat) : Int) by omega); omega
          obtain ⟨told, hte, ht1, ht2, ht3⟩ : ∃ told, levP (List.replicate r 46) (List.replicate nv 92) (2 * (r : Int)) = told ∧ Told r nv told := ⟨_, rfl, told_all hr16 (by omega) (by omega)⟩
          have hq0 : Hid (((2 * q : Nat) : Int) * (nv : Int) + (r : Int) = (r0 : Int)) := ⟨half_even hqr⟩
          have hq1 : Hid ((((2 * q : Nat) : Int) + 1) * (nv : Int) + ((r : Int) - (nv : Int)) = (r0 : Int)) := ⟨half_odd hqr⟩
          have hnv1 : 1 ≤ nv := by omega
          have hnv2 : nv ≤ 15 := by omega
          have hqr := Hid.mk hqr
          have hnv := Hid.mk hnv
          clear hpos hge hrw
          try clear hrw
          clear htc htn
          (first | refine finA_sep ?_ | refine finE_sep ?_)
          intro D9 h9 tk9 F9 N9 o9
          (try dsimp only)
          k_steps
          repeat' (refine CiStop.go ?_; (with_reducible (first | (k_here; (with_reducible show wpAny _ _ (binaryOp .Add (Value.str _ _) (Value.str _ _)) _ _ _); (refine add_str (hsz := ?hsz) ?_); (case hsz => exact Nat.le_trans (Nat.add_le_add (by assumption) (show Str.length (Str.ofString _) ≤ 100 by decide +kernel)) (by rw [sizeLine_eq]; decide)); intro _ _) | (k_here; (with_reducible show wpAny _ _ (call (Value.ref 174) _) _ _ _); k_dflt (refine' divd_cU ?q1 ?q2 ?q3 ?q4 ?q5 ?q6 ?q7 ?B ?F ?X ?T ?hk ?N ?c1 ?c2 ?tb ?tb2 ?U1 ?U2 ?U3 ?U4 ?ne1 ?ne2 ?ne3 ?ne4 ?ne5 ?hdp ?hun ?_; (case q1 => exact dv_lo (by omega) (by omega) (by omega)); (case q2 => exact Int.mul_pos (by omega) (by omega)); (case q3 => exact dv_fact (Hid.h (by assumption))); (case q4 => exact dv_lo (by omega) (by omega) (by omega)); (case q5 => exact dv_hi (by omega) (by omega) (by omega)); (case q6 => exact dv_bits (by omega) (by omega) (by omega) (by omega)); (case q7 => exact dv_twice (by omega) (by omega) (by omega) (by omega) (by omega) (by omega)); walk_at "cB"; walk_at "cC"; walk_at "cA"; walk_at "cU"; walk_at "cE"); intro bb9 c3n oc3n c2n oc2n h' tk' F' N' tb3n tb2n hw3 hw2 s1' s2' v1' v2' v3' v4' v5' hbb; (subst hbb); walk_at "cD") | (k_here; (with_reducible show wpAny _ _ (call (Value.ref 153) _) _ _ _); k_dflt (refine' lev_c ?qa ?qb ?qm ?qm2 ?B ?F ?X ?T ?hk ?N ?hdp ?hun ?_; (case qa => rw [mk_length, List.length_replicate]; omega); (case qb => rw [mk_length, List.length_replicate]; omega); (case qm => omega); (case qm2 => omega); walk_at "cB"; walk_at "cE"); rw [mk_list, mk_list, hte]; intro tr9 h' tk' F' N'; walk_at "cD") | (k_here; (with_reducible show wpAny _ _ (subscriptTail _ _ (Value.ref _) (Value.int _ _)) _ _ _); k_dflt (refine' item_txts (j := 0) ?iN ?im ?ik ?iz ?ix ?_ ?ih ?ig; (case iN => k_asm); (case im => k_mem); (case ix => exact (words_head hws).choose_spec); (case ik => rfl); (case iz => decide); (case ih => with_unfolding_all rfl); (case ig => intro _; with_unfolding_all rfl); k_whole)) | (k_here; (with_reducible show wpAny _ _ (call (Value.builtin _) [Value.str (Txt.join _ _) _]) _ _ _); k_dflt (refine' len_strN (words_join hws) ?_ ?_; omega)) | (k_here; (with_reducible show wpAny _ _ (subscriptTail _ (PySem.Expr.Slice _ none none _) (Value.ref _) (Value.ref _)) _ _ _); k_dflt (refine' drop_txts (j := 1) ?F ?N ?m ?z ?_ ?s ?t; walk_at "cF"; (case m => k_mem); (case z => rw [words_len (by assumption)]; omega); (case s => with_unfolding_all rfl); (case t => intro _; with_unfolding_all rfl)); intro D' h' F' N' l1; (try k_lt l1)) | (k_here; (with_reducible show wpAny _ _ (compareOp .NotEq (Value.ref _) (Value.ref _)) _ _ _); k_dflt (refine' ne_txtsE ?N ?m1 ?m2 hws ?he ?hu ?_; (case N => k_asm); (case m1 => k_mem); (case m2 => k_mem); (case he => simp only [List.map_append, List.map_cons, List.map_nil, List.map_replicate, List.cons_append, List.nil_append]); (case hu => ktr_units); k_whole)) | (k_here; (with_reducible show wpAny _ _ (call (Value.ref 167) _) _ _ _); k_dflt (refine' words_cU ?qx ?qR ?B ?F ?X ?T ?hk ?N ?c1 ?tb ?U1 ?U2 ?ne1 ?hdp ?hun ?_; (case qR => exact (hmail.reads _ hzq).1); (case qx => exact (hmail.reads _ hzq).2); walk_at "cB"; (case c1 => kn_code); (case tb => assumption); (case U1 => k_updF); (case U2 => k_updF); (case ne1 => exact ⟨by k_ne⟩); walk_at "cE"); intro tpw Ww cdo co wsw nw2 tdw h' tk' hws F' N' tbw hww s1' s2' s3' v1' v2' v3' v4' v5' v6'; walk_at "cD") | (k_here; (with_reducible show wpAny _ _ (call (Value.ref 139) _) _ _ _); k_dflt (refine' quote_c ?qx ?B ?F ?X ?T ?hk ?N ?hdp ?hun ?_; (case qx => exact MailOk.size (by assumption)); walk_at "cB"; walk_at "cE"); intro zq tzq h' tk' hzq F' N'; walk_at "cD") | (k_here; (with_reducible show wpAny _ _ (call (Value.builtin "str.join") [Value.str _ _, Value.ref _]) _ _ _); k_dflt (refine' join_txts ?jN ?jm ?ji ?jw ?_; (case jN => k_asm); (case jm => k_mem); (case ji => first | assumption | exact strsAre_list _); (case jw => first | (with_reducible assumption) | exact Nat.le_trans (MailOk.small (by assumption)) (by decide) | exact words_sum (by assumption) (by omega)); k_whole); intro _ _) | (k_here; (with_reducible show wpAny _ _ (subscriptTail _ _ (Value.ref _) (Value.int _ _)) _ _ _); k_dflt (refine' item_txts ?iN ?im ?ik ?iz ?ix ?_ ?ih ?ig; (case iN => k_asm); (case im => k_mem); (case ix => exact (hrow _).choose_spec); (case ik => omega); (case iz => omega); (case ih => with_unfolding_all rfl); (case ig => intro _; with_unfolding_all rfl); k_whole)) | (k_here; (rename RaisedN _ _ _ _ _ _ => rkX); k_dflt (refine' caught_cells ?fr ?F ?U rkX ?Tt PyProof.Rows.Boot.«ZeroDivisionError» PySem.F.isExc_ZeroDivisionError PySem.F.notTuple_ZeroDivisionError ?su ?mi ?nn ?_ ?hk ?hx ?hd ?hE; (case fr => rfl); (case U => assumption); (case F => assumption); (case Tt => k_asm); (case su => (rw [isSubtype_type]; kernel_rfl)); (case mi => exact mg_none_of (by k_asm) (TopRead.g (by k_asm)) (by k_is)); (case nn => decide); (case hk => rfl); (case hx => rfl); (case hd => decide); (case hE => passes_own)); intro h' F' N') | (k_here; (with_reducible show wpAny _ _ (exec (Stmt.Raise (some (Expr.Name _ _)) none _) _) _ _ _); (with_reducible rename Fr _ _ _ _ => kF); k_dflt (refine' Raise_classB rfl excClass_ZeroDivisionError ?hs ?hx ?_; (case hs => (rw [isSubtype_type]; kernel_rfl)); (case hx => (refine' name_B kF ?k1 ?k2 ?k3 ?k4 ?k5 ?_; (case k1 => k_asm); (case k2 => k_asm); (case k3 => k_is); (case k4 => boot_by_name); (case k5 => decide); exact ⟨rfl, rfl⟩))); intro _ _ _) | (k_here; (with_reducible show wpAny _ _ (call (Value.builtin _) [Value.str (mk _) _]) _ _ _); k_dflt (refine' mk_len ?hlm ?_; (case hlm => (simp only [List.length_replicate]; omega)); k_whole); (try simp only [List.length_replicate])) | (k_here; (with_reducible show wpAny _ _ (call (Value.builtin _) [Value.ref _]) _ _ _); k_dflt (refine' len_txts ?N ?m ?z ?_; (case N => k_asm); (case m => k_mem); (case z => (simp only [List.length_append, List.length_cons, List.length_nil, List.length_replicate]; omega)); k_whole); (try simp only [List.length_append, List.length_cons, List.length_nil, List.length_replicate, Nat.zero_add])) | (k_here; (with_reducible show wpAny _ _ (binaryOp .Add (Value.ref _) (Value.ref _)) _ _ _); k_dflt (refine' add_txts ?rF ?rN ?rm ?rm2 ?re ?re2 ?rz ?_; (case rF => k_asm); (case rN => k_asm); (case rm => k_mem); (case rm2 => k_mem); (case re => first | rfl | exact txts_one _ _); (case re2 => first | rfl | exact txts_one _ _); (case rz => (simp only [List.length_append, List.length_cons, List.length_nil, List.length_replicate]; omega)); k_whole); intro d' h' F' N' l1; (try k_lt l1)) | (k_here; (with_reducible show wpAny _ _ (binaryOp .Mult (Value.ref _) (Value.int _ _)) _ _ _); k_dflt (refine' rep_txtsN ?rF ?rN ?rm ?rk ?_; (case rF => k_asm); (case rN => k_asm); (case rm => k_mem); (case rk => omega); k_whole); intro d' h' F' N' l1; (try k_lt l1)) | (k_here; (with_reducible show wpAny _ _ (binaryOp .Mult (Value.str _ _) (Value.int _ _)) _ _ _); first | ((first | refine rep_signN e92 ?sk ?_ | refine rep_signN e46 ?sk ?_); (case sk => omega); intro _ _) | ((first | refine rep_sign e92 ?sk ?sk0 ?_ | refine rep_sign e46 ?sk ?sk0 ?_); (case sk => omega); (case sk0 => omega); intro _ _)) | (k_here; (with_reducible show wpAny _ _ (binaryOp .Mult (Value.int _ _) (Value.int _ _)) _ _ _); refine mul_int ?_ (mulok_small ?mha ?mhb); (case mha => omega); (case mhb => omega)))); k_steps)
          all_goals first
            | (exfalso; omega)
            | skip
          all_goals
            rename Fr h₀ L _ _ => FF
            rename News h₀ L _ _ => NN
            first
            | (have hfit : nv ≤ r := by omega
               have er : (r : Int) - (nv : Int) = ((r - nv : Nat) : Int) := by omega
               have eq : ((2 * q : Nat) : Int) + 1 = ((2 * q + 1 : Nat) : Int) := by omega
               rw [er, eq] at FF
               have hq1 := hq1.h
               rw [er, eq] at hq1
               refine CiStop.go ⟨e, by omega, nv, e, 2 * q + 1, r - nv, _, _, _, _, _, _, _, _, _, _, _, _, _, _, _, cdo, c2n, c3n, co, oc2n, oc3n, rfl, hnv.h.symm, rfl, hq1, by omega, by omega, by assumption, tbw, tb2n, tb3n, ⟨⟨by k_ne⟩, ⟨by k_ne⟩, ⟨by k_ne⟩, ⟨by k_ne⟩, ⟨by k_ne⟩, ⟨by k_ne⟩, ⟨by k_ne⟩, ⟨by k_ne⟩, ⟨by k_ne⟩, ⟨by k_ne⟩, ⟨by k_ne⟩, ⟨by k_ne⟩, ⟨by k_ne⟩, ⟨by k_ne⟩, ⟨by k_ne⟩, ⟨by k_ne⟩, ⟨by k_ne⟩, ⟨by k_ne⟩⟩, fr_known _ FF (List.forall_mem_cons.mpr ⟨rfl, List.forall_mem_cons.mpr ⟨rfl, List.forall_mem_cons.mpr ⟨rfl, List.forall_mem_cons.mpr ⟨rfl, List.forall_mem_cons.mpr ⟨rfl, List.forall_mem_cons.mpr ⟨rfl, List.forall_mem_cons.mpr ⟨rfl, List.forall_mem_nil _⟩⟩⟩⟩⟩⟩⟩), ?_⟩
               refine' (news_cons NN ?_ (news_cons NN ?_ (news_cons NN ?_ (news_cons NN ?_ (news_cons NN ?_ (news_cons NN ?_ (news_cons NN ?_ (news_cons NN ?_ News.nil)))))))) <;> k_dflt k_mem)
            | (have hfit : r < nv := by omega
               refine CiStop.go ⟨e, by omega, nv, e, 2 * q, r, _, _, _, _, _, _, _, _, _, _, _, _, _, _, _, cdo, c2n, c3n, co, oc2n, oc3n, rfl, hnv.h.symm, rfl, hq0.h, by omega, by omega, by assumption, tbw, tb2n, tb3n, ⟨⟨by k_ne⟩, ⟨by k_ne⟩, ⟨by k_ne⟩, ⟨by k_ne⟩, ⟨by k_ne⟩, ⟨by k_ne⟩, ⟨by k_ne⟩, ⟨by k_ne⟩, ⟨by k_ne⟩, ⟨by k_ne⟩, ⟨by k_ne⟩, ⟨by k_ne⟩, ⟨by k_ne⟩, ⟨by k_ne⟩, ⟨by k_ne⟩, ⟨by k_ne⟩, ⟨by k_ne⟩, ⟨by k_ne⟩⟩, fr_known _ FF (List.forall_mem_cons.mpr ⟨rfl, List.forall_mem_cons.mpr ⟨rfl, List.forall_mem_cons.mpr ⟨rfl, List.forall_mem_cons.mpr ⟨rfl, List.forall_mem_cons.mpr ⟨rfl, List.forall_mem_cons.mpr ⟨rfl, List.forall_mem_cons.mpr ⟨rfl, List.forall_mem_nil _⟩⟩⟩⟩⟩⟩⟩), ?_⟩
               refine' (news_cons NN ?_ (news_cons NN ?_ (news_cons NN ?_ (news_cons NN ?_ (news_cons NN ?_ (news_cons NN ?_ (news_cons NN ?_ (news_cons NN ?_ News.nil)))))))) <;> k_dflt k_mem)
    case fin =>
      clear FF NN
      rintro s' ⟨td, ts, tc, te, u, hp, tk, ps1, ps2, ps3, rfl, FF, NN⟩
      (try dsimp only)
      k_steps
      repeat' (refine CiStop.go ?_; (with_reducible (first | (k_here; (with_reducible show wpAny _ _ (binaryOp .Add (Value.str _ _) (Value.str _ _)) _ _ _); (refine add_str (hsz := ?hsz) ?_); (case hsz => exact Nat.le_trans (Nat.add_le_add (by assumption) (show Str.length (Str.ofString _) ≤ 100 by decide +kernel)) (by rw [sizeLine_eq]; decide)); intro _ _) | (k_here; (with_reducible show wpAny _ _ (call (Value.ref 174) _) _ _ _); k_dflt (refine' divd_cU ?q1 ?q2 ?q3 ?q4 ?q5 ?q6 ?q7 ?B ?F ?X ?T ?hk ?N ?c1 ?c2 ?tb ?tb2 ?U1 ?U2 ?U3 ?U4 ?ne1 ?ne2 ?ne3 ?ne4 ?ne5 ?hdp ?hun ?_; (case q1 => exact dv_lo (by omega) (by omega) (by omega)); (case q2 => exact Int.mul_pos (by omega) (by omega)); (case q3 => exact dv_fact (Hid.h (by assumption))); (case q4 => exact dv_lo (by omega) (by omega) (by omega)); (case q5 => exact dv_hi (by omega) (by omega) (by omega)); (case q6 => exact dv_bits (by omega) (by omega) (by omega) (by omega)); (case q7 => exact dv_twice (by omega) (by omega) (by omega) (by omega) (by omega) (by omega)); walk_at "cB"; walk_at "cC"; walk_at "cA"; walk_at "cU"; walk_at "cE"); intro bb9 c3n oc3n c2n oc2n h' tk' F' N' tb3n tb2n hw3 hw2 s1' s2' v1' v2' v3' v4' v5' hbb; (subst hbb); walk_at "cD") | (k_here; (with_reducible show wpAny _ _ (call (Value.ref 153) _) _ _ _); k_dflt (refine' lev_c ?qa ?qb ?qm ?qm2 ?B ?F ?X ?T ?hk ?N ?hdp ?hun ?_; (case qa => rw [mk_length, List.length_replicate]; omega); (case qb => rw [mk_length, List.length_replicate]; omega); (case qm => omega); (case qm2 => omega); walk_at "cB"; walk_at "cE"); rw [mk_list, mk_list, hte]; intro tr9 h' tk' F' N'; walk_at "cD") | (k_here; (with_reducible show wpAny _ _ (subscriptTail _ _ (Value.ref _) (Value.int _ _)) _ _ _); k_dflt (refine' item_txts (j := 0) ?iN ?im ?ik ?iz ?ix ?_ ?ih ?ig; (case iN => k_asm); (case im => k_mem); (case ix => exact (words_head hws).choose_spec); (case ik => rfl); (case iz => decide); (case ih => with_unfolding_all rfl); (case ig => intro _; with_unfolding_all rfl); k_whole)) | (k_here; (with_reducible show wpAny _ _ (call (Value.builtin _) [Value.str (Txt.join _ _) _]) _ _ _); k_dflt (refine' len_strN (words_join hws) ?_ ?_; omega)) | (k_here; (with_reducible show wpAny _ _ (subscriptTail _ (PySem.Expr.Slice _ none none _) (Value.ref _) (Value.ref _)) _ _ _); k_dflt (refine' drop_txts (j := 1) ?F ?N ?m ?z ?_ ?s ?t; walk_at "cF"; (case m => k_mem); (case z => rw [words_len (by assumption)]; omega); (case s => with_unfolding_all rfl); (case t => intro _; with_unfolding_all rfl)); intro D' h' F' N' l1; (try k_lt l1)) | (k_here; (with_reducible show wpAny _ _ (compareOp .NotEq (Value.ref _) (Value.ref _)) _ _ _); k_dflt (refine' ne_txtsE ?N ?m1 ?m2 hws ?he ?hu ?_; (case N => k_asm); (case m1 => k_mem); (case m2 => k_mem); (case he => simp only [List.map_append, List.map_cons, List.map_nil, List.map_replicate, List.cons_append, List.nil_append]); (case hu => ktr_units); k_whole)) | (k_here; (with_reducible show wpAny _ _ (call (Value.ref 167) _) _ _ _); k_dflt (refine' words_cU ?qx ?qR ?B ?F ?X ?T ?hk ?N ?c1 ?tb ?U1 ?U2 ?ne1 ?hdp ?hun ?_; (case qR => exact (hmail.reads _ hzq).1); (case qx => exact (hmail.reads _ hzq).2); walk_at "cB"; (case c1 => kn_code); (case tb => assumption); (case U1 => k_updF); (case U2 => k_updF); (case ne1 => exact ⟨by k_ne⟩); walk_at "cE"); intro tpw Ww cdo co wsw nw2 tdw h' tk' hws F' N' tbw hww s1' s2' s3' v1' v2' v3' v4' v5' v6'; walk_at "cD") | (k_here; (with_reducible show wpAny _ _ (call (Value.ref 139) _) _ _ _); k_dflt (refine' quote_c ?qx ?B ?F ?X ?T ?hk ?N ?hdp ?hun ?_; (case qx => exact MailOk.size (by assumption)); walk_at "cB"; walk_at "cE"); intro zq tzq h' tk' hzq F' N'; walk_at "cD") | (k_here; (with_reducible show wpAny _ _ (call (Value.builtin "str.join") [Value.str _ _, Value.ref _]) _ _ _); k_dflt (refine' join_txts ?jN ?jm ?ji ?jw ?_; (case jN => k_asm); (case jm => k_mem); (case ji => first | assumption | exact strsAre_list _); (case jw => first | (with_reducible assumption) | exact Nat.le_trans (MailOk.small (by assumption)) (by decide) | exact words_sum (by assumption) (by omega)); k_whole); intro _ _) | (k_here; (with_reducible show wpAny _ _ (subscriptTail _ _ (Value.ref _) (Value.int _ _)) _ _ _); k_dflt (refine' item_txts ?iN ?im ?ik ?iz ?ix ?_ ?ih ?ig; (case iN => k_asm); (case im => k_mem); (case ix => exact (hrow _).choose_spec); (case ik => omega); (case iz => omega); (case ih => with_unfolding_all rfl); (case ig => intro _; with_unfolding_all rfl); k_whole)) | (k_here; (rename RaisedN _ _ _ _ _ _ => rkX); k_dflt (refine' caught_cells ?fr ?F ?U rkX ?Tt PyProof.Rows.Boot.«ZeroDivisionError» PySem.F.isExc_ZeroDivisionError PySem.F.notTuple_ZeroDivisionError ?su ?mi ?nn ?_ ?hk ?hx ?hd ?hE; (case fr => rfl); (case U => assumption); (case F => assumption); (case Tt => k_asm); (case su => (rw [isSubtype_type]; kernel_rfl)); (case mi => exact mg_none_of (by k_asm) (TopRead.g (by k_asm)) (by k_is)); (case nn => decide); (case hk => rfl); (case hx => rfl); (case hd => decide); (case hE => passes_own)); intro h' F' N') | (k_here; (with_reducible show wpAny _ _ (exec (Stmt.Raise (some (Expr.Name _ _)) none _) _) _ _ _); (with_reducible rename Fr _ _ _ _ => kF); k_dflt (refine' Raise_classB rfl excClass_ZeroDivisionError ?hs ?hx ?_; (case hs => (rw [isSubtype_type]; kernel_rfl)); (case hx => (refine' name_B kF ?k1 ?k2 ?k3 ?k4 ?k5 ?_; (case k1 => k_asm); (case k2 => k_asm); (case k3 => k_is); (case k4 => boot_by_name); (case k5 => decide); exact ⟨rfl, rfl⟩))); intro _ _ _) | (k_here; (with_reducible show wpAny _ _ (call (Value.builtin _) [Value.str (mk _) _]) _ _ _); k_dflt (refine' mk_len ?hlm ?_; (case hlm => (simp only [List.length_replicate]; omega)); k_whole); (try simp only [List.length_replicate])) | (k_here; (with_reducible show wpAny _ _ (call (Value.builtin _) [Value.ref _]) _ _ _); k_dflt (refine' len_txts ?N ?m ?z ?_; (case N => k_asm); (case m => k_mem); (case z => (simp only [List.length_append, List.length_cons, List.length_nil, List.length_replicate]; omega)); k_whole); (try simp only [List.length_append, List.length_cons, List.length_nil, List.length_replicate, Nat.zero_add])) | (k_here; (with_reducible show wpAny _ _ (binaryOp .Add (Value.ref _) (Value.ref _)) _ _ _); k_dflt (refine' add_txts ?rF ?rN ?rm ?rm2 ?re ?re2 ?rz ?_; (case rF => k_asm); (case rN => k_asm); (case rm => k_mem); (case rm2 => k_mem); (case re => first | rfl | exact txts_one _ _); (case re2 => first | rfl | exact txts_one _ _); (case rz => (simp only [List.length_append, List.length_cons, List.length_nil, List.length_replicate]; omega)); k_whole); intro d' h' F' N' l1; (try k_lt l1)) | (k_here; (with_reducible show wpAny _ _ (binaryOp .Mult (Value.ref _) (Value.int _ _)) _ _ _); k_dflt (refine' rep_txtsN ?rF ?rN ?rm ?rk ?_; (case rF => k_asm); (case rN => k_asm); (case rm => k_mem); (case rk => omega); k_whole); intro d' h' F' N' l1; (try k_lt l1)) | (k_here; (with_reducible show wpAny _ _ (binaryOp .Mult (Value.str _ _) (Value.int _ _)) _ _ _); first | ((first | refine rep_signN e92 ?sk ?_ | refine rep_signN e46 ?sk ?_); (case sk => omega); intro _ _) | ((first | refine rep_sign e92 ?sk ?sk0 ?_ | refine rep_sign e46 ?sk ?sk0 ?_); (case sk => omega); (case sk0 => omega); intro _ _)) | (k_here; (with_reducible show wpAny _ _ (binaryOp .Mult (Value.int _ _) (Value.int _ _)) _ _ _); refine mul_int ?_ (mulok_small ?mha ?mhb); (case mha => omega); (case mhb => omega)))); k_steps)
      rename Fr h₀ L _ _ => FF
      rename News h₀ L _ _ => NN
      exact ret _ _ _ _ _ _ FF NN


end
section
open PySem PySem.W PyProof.Rows PySem.Spec PySem.Calls
local macro_rules | `(tactic| walk_at "binaryOp Mult int int") => `(tactic| (k_here; refine mul_int ?_ (mulok_small ?mha ?mhb); (case mha => omega); (case mhb => omega)))
local macro_rules | `(tactic| walk_at "subscriptTail Name Name ref int") => `(tactic| (k_here; (with_reducible show wpAny _ _ (subscriptTail _ _ (Value.ref _) (Value.int _ _)) _ _ _); refine CiStop.out ?_))
local macro_rules | `(tactic| walk_at "execs cons") => `(tactic| (k_here; (with_reducible show wpAny _ _ (execs (Stmt.While _ _ _ _ :: _) _) _ _ _); refine CiStop.out ?_))
local macro_rules | `(tactic| walk_at "call builtin:sum") => `(tactic| (k_here; refine CiStop.out ?_))
local macro_rules | `(tactic| walk_at "CompSrc") => `(tactic| (k_here; (with_reducible show LCg.CompSrc _ _ _ _ _ _ _ (Expr.BinOp (Expr.BinOp _ Operator.Add _ _) Operator.Mult _ _) _ _ _ _ _ _); refine CiStop.out ?_))
local macro_rules | `(tactic| walk_at "CompSrc") => `(tactic| (k_here; (with_reducible show LCg.CompSrc _ _ _ _ _ _ _ (Expr.BinOp (Expr.Subscript _ _ _) Operator.Add _ _) _ _ _ _ _ _); refine CiStop.out ?_))
local macro_rules | `(tactic| walk_at "mysum") => `(tactic| (k_here; k_dflt (refine' sum_picked rfl ?Fm ?Nm ?im ?_; (case Fm => k_asm); (case Nm => k_asm); (case im => assumption); k_whole); intro S' h' tk' t' F' N'))
local macro_rules | `(tactic| walk_at "FinE") => `(tactic| (k_here; refine CiStop.out ?_))
local macro_rules | `(tactic| walk_at "FinA") => `(tactic| (k_here; refine CiStop.out ?_))
theorem law_w : PySem.Challenge.rw_sc0080_01.Holds := by
  refine hd ?_
  w_strict (
    k_go0
    (rename (∀ p : Addr × Obj, p ∈ [(155, _), (61, _), (54, _)] → _) => hl0)
    (have hl155 := hl0 _ (.head _)); (dsimp only at hl155)
    (all_goals try k_fold)
    k_steps
    repeat' (refine CiStop.go ?_; (with_reducible (first | (refine finA_sep ?_; intro D' h' tk' F' N' o1'; (try dsimp only)) | (refine finE_sep ?_; intro D' h' tk' F' N' o1'; (try dsimp only)) | (k_here; (with_reducible show wpAny _ _ (subscriptTail _ _ (Value.ref _) (Value.int _ _)) _ _ _); k_dflt (refine' num_item ?nM ?nN ?nm ?ni ?n0 ?n1 ?n2 ?_ ?n3; (case nN => k_asm); (case nm => k_mem); (case ni => assumption); (case nM => decide); (case n0 => omega); (case n1 => omega); (case n2 => omega); (case n3 => with_unfolding_all rfl); k_whole); intro _ _ _ _))); k_steps)
    refine CiStop.go ?_
    walk_at "mysum"
    k_steps
    repeat' (refine CiStop.go ?_; (with_reducible (first | (refine finA_sep ?_; intro D' h' tk' F' N' o1'; (try dsimp only)) | (refine finE_sep ?_; intro D' h' tk' F' N' o1'; (try dsimp only)) | (k_here; (with_reducible show wpAny _ _ (subscriptTail _ _ (Value.ref _) (Value.int _ _)) _ _ _); k_dflt (refine' num_item ?nM ?nN ?nm ?ni ?n0 ?n1 ?n2 ?_ ?n3; (case nN => k_asm); (case nm => k_mem); (case ni => assumption); (case nM => decide); (case n0 => omega); (case n1 => omega); (case n2 => omega); (case n3 => with_unfolding_all rfl); k_whole); intro _ _ _ _))); k_steps)
    refine CiStop.go ?_
    walk_at "mysum"
    k_steps
    repeat' (refine CiStop.go ?_; (with_reducible (first | (refine finA_sep ?_; intro D' h' tk' F' N' o1'; (try dsimp only)) | (refine finE_sep ?_; intro D' h' tk' F' N' o1'; (try dsimp only)) | (k_here; (with_reducible show wpAny _ _ (subscriptTail _ _ (Value.ref _) (Value.int _ _)) _ _ _); k_dflt (refine' num_item ?nM ?nN ?nm ?ni ?n0 ?n1 ?n2 ?_ ?n3; (case nN => k_asm); (case nm => k_mem); (case ni => assumption); (case nM => decide); (case n0 => omega); (case n1 => omega); (case n2 => omega); (case n3 => with_unfolding_all rfl); k_whole); intro _ _ _ _))); k_steps)
    refine CiStop.go ?_
    refine' LCg.CompSrc.range rfl ?F0 ?N0 ?hr0 ?sm0 (rangeSize_nat _ _) ?fit0 ?_
    case F0 => k_asm
    case N0 => k_asm
    case hr0 => assumption
    case sm0 => exact small_one (by decide) (by decide) (by simp only [List.length_map, List.length_take]; omega) (by simp only [List.length_map, List.length_take]; omega)
    case fit0 => rw [sizeLine_eq]; simp only [List.length_map, List.length_take]; omega
    intro g0
    refine' cx_range (fun k v => ∃ z t, v = Value.int z t ∧ 0 ≤ z ∧ z < 2 ^ 72) ?turn0 ?fin0
    case turn0 =>
      intro k t I oI C oC D m2 ys2 h tk E2 hk hC hx FF NN off ne
      have hk24 : k < 24 := by simp only [List.length_map, List.length_take] at hk; omega
      k_steps
      repeat' (refine CiStop.go ?_; (with_reducible (first | (refine finA_sep ?_; intro D' h' tk' F' N' o1'; (try dsimp only)) | (refine finE_sep ?_; intro D' h' tk' F' N' o1'; (try dsimp only)) | (k_here; (with_reducible show wpAny _ _ (subscriptTail _ _ (Value.ref _) (Value.int _ _)) _ _ _); k_dflt (refine' num_item ?nM ?nN ?nm ?ni ?n0 ?n1 ?n2 ?_ ?n3; (case nN => k_asm); (case nm => k_mem); (case ni => assumption); (case nM => decide); (case n0 => omega); (case n1 => omega); (case n2 => omega); (case n3 => with_unfolding_all rfl); k_whole); intro _ _ _ _))); k_steps)
      rename Fr _ _ _ _ => FF
      rename News _ _ _ _ => NN
      (with_reducible rename _ < (10 : Int) ^ _ => hz6)
      (with_reducible rename 0 ≤ _ => hz5)
      exact CiStop.go ⟨_, _, _, rfl, FF, NN, off, trivial, rfl, _, _, rfl, el_lo hz5, el_hi hk24 hz5 hz6⟩
    case fin0 =>
      intro ys5 hl5 hel
      obtain ⟨ns5, hns5, hs50, hs51⟩ := ints_bound (by decide) ys5 hel
      have hl6 : ys5.length ≤ 24 := by simp only [List.length_map, List.length_take] at hl5; omega
      (first | refine finA_sep ?_ | refine finE_sep ?_)
      intro D9 h9 tk9 F9 N9 o9
      (try dsimp only)
      k_steps
      repeat' (refine CiStop.go ?_; (with_reducible (first | (refine finA_sep ?_; intro D' h' tk' F' N' o1'; (try dsimp only)) | (refine finE_sep ?_; intro D' h' tk' F' N' o1'; (try dsimp only)) | (k_here; (with_reducible show wpAny _ _ (subscriptTail _ _ (Value.ref _) (Value.int _ _)) _ _ _); k_dflt (refine' num_item ?nM ?nN ?nm ?ni ?n0 ?n1 ?n2 ?_ ?n3; (case nN => k_asm); (case nm => k_mem); (case ni => assumption); (case nM => decide); (case n0 => omega); (case n1 => omega); (case n2 => omega); (case n3 => with_unfolding_all rfl); k_whole); intro _ _ _ _))); k_steps)
      refine CiStop.go ?_
      k_dflt (refine' LSm.sum_ints ?Fq ?Nq rfl (News.isList ?Nr ?mr) hns5 ?_)
      case Fq => k_asm
      case Nq => k_asm
      case Nr => k_asm
      case mr => k_mem
      intro h5 tk5 t5 F5 N5
      have hs52 : ns5.sum ≤ 24 * 2 ^ 72 := Int.le_trans hs51 (Int.mul_le_mul_of_nonneg_right (by omega) (by decide))
      clear hs51
      generalize ns5.sum = HS at hs50 hs52
      k_steps
      repeat' (refine CiStop.go ?_; (with_reducible (first | (refine finA_sep ?_; intro D' h' tk' F' N' o1'; (try dsimp only)) | (refine finE_sep ?_; intro D' h' tk' F' N' o1'; (try dsimp only)) | (k_here; (with_reducible show wpAny _ _ (subscriptTail _ _ (Value.ref _) (Value.int _ _)) _ _ _); k_dflt (refine' num_item ?nM ?nN ?nm ?ni ?n0 ?n1 ?n2 ?_ ?n3; (case nN => k_asm); (case nm => k_mem); (case ni => assumption); (case nM => decide); (case n0 => omega); (case n1 => omega); (case n2 => omega); (case n3 => with_unfolding_all rfl); k_whole); intro _ _ _ _))); k_steps)
      refine CiStop.go ?_
      rename Fr _ _ _ _ => FF
      rename News _ _ _ _ => NN
      k_dflt (refine' law_tail (A₀ := callerA) (c₁ := _) (c₂ := _) (c₃ := _) ?v1 ?v2 ?v3 ?v4 ?v5 ?v6 ?v7 ?v8 ?B FF ?X ?T ?hm (news_cons NN ?m0 (news_cons NN ?m1 (news_cons NN ?m2 (news_cons NN (.head _) (news_cons NN ?m4 (news_cons NN (.tail _ (.head _)) (news_cons NN ?m6 (news_cons NN (.tail _ (.tail _ (.head _))) News.nil)))))))) ?oR ?oH ?cd1 ?cd2 ?cd3 (.inl rfl) (.inl rfl) (.inl rfl) ?hL ?nes ?hdp ?hun ?ret)
      case hm => exact (List.forall_mem_cons.mpr ⟨rfl, List.forall_mem_cons.mpr ⟨rfl, List.forall_mem_cons.mpr ⟨rfl, List.forall_mem_cons.mpr ⟨rfl, List.forall_mem_cons.mpr ⟨rfl, List.forall_mem_nil _⟩⟩⟩⟩⟩)
      case m0 => k_dflt k_mem
      case m1 => k_dflt k_mem
      case m2 => k_dflt k_mem
      case m4 => k_dflt k_mem
      case m6 => k_dflt k_mem
      case oR => assumption
      case oH => assumption
      case cd1 => kn_code
      case cd2 => kn_code
      case cd3 => kn_code
      case v1 => exact Int.fmod_nonneg_of_pos _ (by decide)
      case v2 => exact Int.fmod_lt_of_pos _ (by decide)
      case v3 => have := Int.fmod_nonneg_of_pos (2 + S') (b := 5) (by decide); omega
      case v4 => have := Int.fmod_lt_of_pos (2 + S') (b := 5) (by decide); omega
      case v5 => omega
      case v6 => omega
      case v7 => exact ex_lo (by omega)
      case v8 => exact ex_hi (by omega)
      case B => k_asm
      case X => k_asm
      case T => k_asm
      case hL => omega
      case nes => exact ⟨⟨by k_ne⟩, ⟨by k_ne⟩, ⟨by k_ne⟩, ⟨by k_ne⟩, ⟨by k_ne⟩, ⟨by k_ne⟩, ⟨by k_ne⟩, ⟨by k_ne⟩, ⟨by k_ne⟩, ⟨by k_ne⟩, ⟨by k_ne⟩, ⟨by k_ne⟩, ⟨by k_ne⟩, ⟨by k_ne⟩, ⟨by k_ne⟩, ⟨by k_ne⟩, ⟨by k_ne⟩, ⟨by k_ne⟩⟩
      case hdp => ktr_room
      case hun => ktr_units
      case ret =>
        intro h' tk' m' q1 q2 q3 F' N'
        k_steps)

end
end Mine
set_option maxRecDepth 100000 in
set_option maxHeartbeats 8000000 in
theorem PySem.Challenge.cw_sc0080_01_holds : PySem.Challenge.rw_sc0080_01.Holds := by
  exact Mine.law_w
